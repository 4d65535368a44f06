/- 6297C: parts of the law's body, by their place in it. -/
import Derived.Test.YbulkdzjsC7
namespace Go.Proofs.Ybulkdzjs.A
open Go.RowKit

def tl : Code → Code
  | .seq _ b => b
  | c => c
def hd : Code → Code
  | .seq a _ => a
  | c => c
/-- The law's body. -/
noncomputable def body5 : Code := Yba.f5.body.getD .skip
/-- From the building loop on. -/
noncomputable def aft5 : Code := tl (tl (tl (tl (tl (tl (tl (tl (tl (tl (tl body5))))))))))
/-- Behind the model. -/
noncomputable def fin5 : Code := tl (tl (tl (tl (tl (tl aft5)))))
/-- The building loop. -/
noncomputable def bl0 : Code := tl (hd aft5)
end Go.Proofs.Ybulkdzjs.A
