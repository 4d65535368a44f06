/-
  DERIVED: THE SHELF's CONTRACTS AT THIS DUMP, IN PLAIN WORDS (tools/lay-plain.mjs out of 'YbafShelf.lean', which tools/lay-shelf.mjs wrote): THE SAME DECLARATIONS UNDER THE SAME NAMES: 'import', 'namespace', 'open', 'def', 'theorem' AND NOTHING ELSE: no command of the shelf's: FOR A HAND-IN. Each laying: the table of numbers ('.._ren') and one theorem, a field a fact of the dump's own or the kernel's comparison; each contract: ONE APPLICATION.
-/
import Derived.Ground.PaProg
import Derived.Shelf.Hex.Lens
import Derived.Shelf.Hex.Encode
import Derived.Test.YbulkdznmFmtProg
namespace Go.Proofs
open Go.Shelf
def Ybaf.laysPa41_ren : Go.Shelf.Ren := ⟨fun | 41 => 24 | n => n, fun | 3 => 3 | n => n, fun | n => n⟩
theorem Ybaf.laysPa41 : Go.Proofs.Lays.p41 Ybaf.prog Ybaf.laysPa41_ren := {
  mixed := by kernel_rfl
  f41 := Ybaf.func24.trans (congrArg some (by kernel_rfl))
  t3 := Ybaf.underlying3
  a3 := Ybaf.isAgg3
  z3 := Ybaf.sizeOf3
  v3 := Ybaf.zeroValue3 }
open Go.RowKit Go.Lib in
/-- encoding/hex.EncodedLen: "EncodedLen returns the length of an encoding of n source bytes. Specifically, it returns n * 2.": for 0 ≤ n < 2^62 (beyond it int's product wraps). (LAID: no walk: one application.) -/
theorem Ybaf.hex_EncodedLen (n : Int) (h0 : 0 ≤ n) (h1 : n < 4611686018427387904) (w : World) :
    Calls Ybaf.prog 24 #[.int .i64 n] w fun e w' => e = .returned (.int .i64 (n * 2)) ∧ w' = w := Any.hex_EncodedLen Ybaf.laysPa41 n h0 h1 w
def Ybaf.laysPa40_ren : Go.Shelf.Ren := ⟨fun | 40 => 25 | n => n, fun | 30 => 24 | 3 => 3 | 0 => 0 | 5 => 5 | 46 => 68 | 9 => 9 | n => n, fun | n => n⟩
theorem Ybaf.laysPa40 : Go.Proofs.Lays.p40 Ybaf.prog Ybaf.laysPa40_ren := {
  mixed := by kernel_rfl
  f40 := Ybaf.func25.trans (congrArg some (by kernel_rfl))
  t0 := Ybaf.underlying0
  a0 := Ybaf.isAgg0
  z0 := Ybaf.sizeOf0
  v0 := Ybaf.zeroValue0
  t3 := Ybaf.underlying3
  a3 := Ybaf.isAgg3
  z3 := Ybaf.sizeOf3
  v3 := Ybaf.zeroValue3
  t5 := Ybaf.underlying5
  a5 := Ybaf.isAgg5
  z5 := Ybaf.sizeOf5
  v5 := Ybaf.zeroValue5
  t9 := Ybaf.underlying9
  a9 := Ybaf.isAgg9
  z9 := Ybaf.sizeOf9
  v9 := Ybaf.zeroValue9
  t30 := Ybaf.underlying24
  a30 := Ybaf.isAgg24
  z30 := Ybaf.sizeOf24
  v30 := Ybaf.zeroValue24
  t46 := Ybaf.underlying68
  a46 := Ybaf.isAgg68
  z46 := Ybaf.sizeOf68
  v46 := Ybaf.zeroValue68 }
open Go.RowKit Go.Lib in
/-- encoding/hex.Encode: "Encode encodes src into EncodedLen(len(src)) bytes of dst. As a convenience, it returns the number of bytes written to dst, but this value is always EncodedLen(len(src)). Encode implements hexadecimal encoding.": dst: nd places from place od on of a row (block bd: N cells of uint8, none frozen, holding 'f'), with room for the digits; src: n cells of ANOTHER block, holding the numbers xs, each a byte's. IT RETURNS n * 2; THE ROW THEN HOLDS 'Hx.row f od (the bytes of src) n': the 2 * n digits of 'Hx.encode' from place od on, else what it held; nothing else has turned ('grownBy'). (LAID: no walk: one application.) -/
theorem Ybaf.hex_Encode (bd od nd cd N : Nat) (f : Nat → Value) (bs os n cs : Nat) (xs : List Int) (w : World) (hx : xs.length = n) (hr : ∀ i, i < n → 0 ≤ xs.getD i 0 ∧ xs.getD i 0 < 256) (hsrc : ∀ i, i < n → w.cell? ⟨bs, os + i, none⟩ = some (.int .u8 (xs.getD i 0))) (hrow : w.rowIs bd 5 N f) (hfit : od + nd ≤ N) (hlen : 2 * n ≤ nd) (hne : bd ≠ bs) (hbig : n ≤ 4611686018427387903) :
    Calls Ybaf.prog 25 #[.slice (some ⟨bd, od, none⟩) nd cd, .slice (some ⟨bs, os, none⟩) n cs] w fun e w' => e = .returned (.int .i64 ((n : Int) * 2)) ∧ w'.rowIs bd 5 N (Hx.row f od (Lib.bytesOf xs) n) ∧ w.grownBy w' (some bd) := Any.hex_Encode Ybaf.laysPa40 bd od nd cd N f bs os n cs xs w hx hr hsrc hrow hfit hlen hne hbig
def Ybaf.laysPah39_ren : Go.Shelf.Ren := ⟨fun | 39 => 23 | 41 => 24 | 40 => 25 | n => n, fun | 30 => 24 | 9 => 9 | 3 => 3 | 0 => 0 | 5 => 5 | 46 => 68 | n => n, fun | n => n⟩
theorem Ybaf.laysPah39 : Go.Proofs.Lays.ph39 Ybaf.prog Ybaf.laysPah39_ren := {
  mixed := by kernel_rfl
  f39 := Ybaf.func23.trans (congrArg some (by kernel_rfl))
  f40 := Ybaf.func25.trans (congrArg some (by kernel_rfl))
  f41 := Ybaf.func24.trans (congrArg some (by kernel_rfl))
  t0 := Ybaf.underlying0
  a0 := Ybaf.isAgg0
  z0 := Ybaf.sizeOf0
  v0 := Ybaf.zeroValue0
  t3 := Ybaf.underlying3
  a3 := Ybaf.isAgg3
  z3 := Ybaf.sizeOf3
  v3 := Ybaf.zeroValue3
  t5 := Ybaf.underlying5
  a5 := Ybaf.isAgg5
  z5 := Ybaf.sizeOf5
  v5 := Ybaf.zeroValue5
  t9 := Ybaf.underlying9
  a9 := Ybaf.isAgg9
  z9 := Ybaf.sizeOf9
  v9 := Ybaf.zeroValue9
  t30 := Ybaf.underlying24
  a30 := Ybaf.isAgg24
  z30 := Ybaf.sizeOf24
  v30 := Ybaf.zeroValue24
  t46 := Ybaf.underlying68
  a46 := Ybaf.isAgg68
  z46 := Ybaf.sizeOf68
  v46 := Ybaf.zeroValue68
  info5 := by kernel_rfl }
open Go.RowKit Go.Lib in
/-- encoding/hex.EncodeToString: "EncodeToString returns the hexadecimal encoding of src.": src: n cells holding the numbers xs, each a byte's. IT RETURNS THE STRING OF 'Hx.encode (the bytes of src)'; what was there before the call is as it was ('Below': the call lays one new block). IT ASKS 2 * n ≤ 2^48 (makeslice's own limit). (LAID: no walk: one application.) -/
theorem Ybaf.hex_EncodeToString (bs os n cs : Nat) (xs : List Int) (w : World) (hx : xs.length = n) (hr : ∀ i, i < n → 0 ≤ xs.getD i 0 ∧ xs.getD i 0 < 256) (hsrc : ∀ i, i < n → w.cell? ⟨bs, os + i, none⟩ = some (.int .u8 (xs.getD i 0))) (hb : bs < w.heap.size) (hbig : 2 * n ≤ 281474976710656) :
    Calls Ybaf.prog 23 #[.slice (some ⟨bs, os, none⟩) n cs] w fun e w' => e = .returned (.string ⟨(Hx.encode (Lib.bytesOf xs)).toArray⟩) ∧ Below w.heap.size w w' := Any.hex_EncodeToString Ybaf.laysPah39 bs os n cs xs w hx hr hsrc hb hbig
open Go.RowKit Go.Lib in
/-- encoding/hex.Encode AT A src THAT IS nil: nothing is written; it returns 0. (dst: whatever value.) (LAID: no walk: one application.) -/
theorem Ybaf.hex_Encode_nil (dst : Value) (w : World) :
    Calls Ybaf.prog 25 #[dst, .slice none 0 0] w fun e w' => e = .returned (.int .i64 0) ∧ w' = w := Any.hex_Encode_nil Ybaf.laysPa40 dst w
open Go.RowKit Go.Lib in
/-- encoding/hex.EncodeToString AT A src THAT IS nil: IT RETURNS ""; what was there before the call is as it was. (LAID: no walk: one application.) -/
theorem Ybaf.hex_EncodeToString_nil (w : World) :
    Calls Ybaf.prog 23 #[.slice none 0 0] w fun e w' => e = .returned (.string ⟨#[]⟩) ∧ Below w.heap.size w w' := Any.hex_EncodeToString_nil Ybaf.laysPah39 w
end Go.Proofs
