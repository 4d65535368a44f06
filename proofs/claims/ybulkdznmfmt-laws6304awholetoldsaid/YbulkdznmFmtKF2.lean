/- 6304A: closed facts for fmt's front: the two formats that print a dataKeyID. -/
import Derived.Test.YbulkdznmFmtKF
namespace Go.Proofs
open Go.Extern.Stop Go.Stop Go.Extern

@[go_sem] theorem Ybaf.fmt2 : FmtStop.printed? ⟨#[100, 97, 116, 97, 32, 107, 101, 121, 32, 37, 115, 32, 105, 115, 32, 108, 105, 115, 116, 101, 100, 32, 116, 119, 105, 99, 101]⟩ 1 = some [(0, 115, false)] := by kernel_rfl
@[go_sem] theorem Ybaf.fmt2r (w : World) : (FmtDoors.printed ⟨#[100, 97, 116, 97, 32, 107, 101, 121, 32, 37, 115, 32, 105, 115, 32, 108, 105, 115, 116, 101, 100, 32, 116, 119, 105, 99, 101]⟩ 1).run Ybaf.prog w = .ok [(0, 115, false)] w := by kernel_rfl
@[go_sem] theorem Ybaf.fmt3 : FmtStop.printed? ⟨#[115, 99, 111, 112, 101, 32, 37, 115, 58, 32, 105, 116, 115, 32, 112, 114, 105, 109, 97, 114, 121, 32, 107, 101, 121, 32, 37, 115, 32, 105, 115, 32, 109, 105, 115, 115, 105, 110, 103]⟩ 2 = some [(0, 115, false), (1, 115, false)] := by kernel_rfl
@[go_sem] theorem Ybaf.fmt3r (w : World) : (FmtDoors.printed ⟨#[115, 99, 111, 112, 101, 32, 37, 115, 58, 32, 105, 116, 115, 32, 112, 114, 105, 109, 97, 114, 121, 32, 107, 101, 121, 32, 37, 115, 32, 105, 115, 32, 109, 105, 115, 115, 105, 110, 103]⟩ 2).run Ybaf.prog w = .ok [(0, 115, false), (1, 115, false)] w := by kernel_rfl
@[go_sem] theorem Ybaf.act40_115w (name : String) (x : Value) (w : World) : (FmtCalls.act name true 115 false (.iface 40 x)).run Ybaf.prog w = .ok (.call false) w := by kernel_rfl
@[go_sem] theorem Ybaf.isString40 (w : World) : (FmtDoors.textMethod 40 "String").run Ybaf.prog w = .ok true w := by kernel_rfl
theorem Ybaf.invokeString40 (x : Value) (w : World) : (invoke (.fn (.method "String") #[]) #[.iface 40 x]).run Ybaf.prog w = .ok (.enter 22 #[x]) w := by kernel_rfl
@[go_sem] theorem Ybaf.str40 (w : World) : (typeStr 40).run Ybaf.prog w = .ok "keyturn.dataKeyID" w := by kernel_rfl
end Go.Proofs
