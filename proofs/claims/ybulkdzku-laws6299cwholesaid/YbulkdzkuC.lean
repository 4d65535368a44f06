import Derived.Test.YbulkdzkuRows
import Derived.WalkKit
import Derived.WalkSpells
import Derived.WalkSmall
import Derived.StillTactics
import Derived.Laws.Pointers
import Derived.Laws.BytesArg
import Derived.Laws.OwnMore
import Derived.BigQuiet
import Derived.Deep.QuietTactic
import Derived.RowKit3
import Derived.OpenShut
namespace Go.Proofs.Ybulkdzku.C
open Go.RowKit

def cmds : List Int := [43, 45, 60, 62, 46, 44, 91, 93]
def cmdFrom (c : Int) (k : Nat) : Bool := (cmds.drop k).any (· == c)
/-- Is the byte c one of the eight commands? -/
def cmdB (c : Int) : Bool := cmdFrom c 0

theorem ret_bool {a b : Bool} (h : a = b) : Ending.returned (.bool a) = .returned (.bool b) := by rw [h]
theorem hitw {c v : Int} {k : Nat} (hv : cmds[k]? = some v) (h : (v == c) = true) : cmdFrom c k = true := by
  unfold cmdFrom
  rw [List.any_eq_true]
  exact ⟨v, List.mem_of_getElem? (i := 0) (by rw [List.getElem?_drop]; simpa using hv), h⟩
theorem missw {c v : Int} {k : Nat} (hv : cmds[k]? = some v) (h : (v == c) = false) : cmdFrom c (k + 1) = cmdFrom c k := by
  unfold cmdFrom
  obtain ⟨hk, e⟩ := List.getElem?_eq_some_iff.1 hv
  rw [List.drop_eq_getElem_cons hk, e, List.any_cons, h, Bool.false_or]
theorem yes_of {c v : Int} (hv : v ∈ cmds) (h : (c == v) = true) : cmdB c = true := by
  unfold cmdB cmdFrom
  rw [List.any_eq_true]
  exact ⟨v, hv, by rw [beq_iff_eq] at *; exact h.symm⟩
theorem no_of {c : Int} (h0 : (c == 43) = false) (h1 : (c == 45) = false) (h2 : (c == 62) = false) (h3 : (c == 60) = false) (h4 : (c == 46) = false) (h5 : (c == 44) = false) (h6 : (c == 91) = false) (h7 : (c == 93) = false) : cmdB c = false := by
  simp only [beq_eq_false_iff_ne] at *
  simp [cmdB, cmdFrom, cmds]
  omega

set_option maxHeartbeats 2000000 in
theorem iscmd_any (c : Int) (w : World) : Calls Yba.prog 6 #[.int .u8 c] w fun e w' => e = .returned (.bool (cmdB c)) ∧ w' = w := by
  go_enter Yba.func6, Yba.ntmps6
  go_wp2
  go_loop [4] (fun i => ∃ k : Nat, k ≤ 8 ∧ i = .int .i64 k ∧ Hid (cmdFrom c k = cmdB c)) (fun i => 8 - (intOf i).toNat)
  case atStart => exact ⟨0, by omega, rfl, rfl⟩
  case round =>
    obtain ⟨k, hk, rfl, H⟩ := hrel
    have hk' : k = 0 ∨ k = 1 ∨ k = 2 ∨ k = 3 ∨ k = 4 ∨ k = 5 ∨ k = 6 ∨ k = 7 ∨ k = 8 := by omega
    rcases hk' with rfl | rfl | rfl | rfl | rfl | rfl | rfl | rfl | rfl
    all_goals go_wp2
    all_goals first
      | exact ⟨⟨_, by omega, by go_num, (missw rfl (by assumption)).trans H.out⟩, by simp [intOf]⟩
      | (go_ret
         first
          | exact ⟨ret_bool (a := true) ((hitw rfl (by assumption)).symm.trans H.out), rfl⟩
          | exact ⟨ret_bool (a := false) H.out, rfl⟩)

set_option maxHeartbeats 2000000 in
theorem isCommand_any (c : Int) (w : World) : Calls Yba.prog 9 #[.int .u8 c] w fun e w' => e = .returned (.bool (cmdB c)) ∧ w' = w := by
  go_enter Yba.func9, Yba.ntmps9
  go_wp2
  all_goals go_ret
  all_goals
    refine ⟨?_, rfl⟩
    first
      | exact ret_bool (a := true) (yes_of (v := 43) (by decide) (by assumption)).symm
      | exact ret_bool (a := true) (yes_of (v := 45) (by decide) (by assumption)).symm
      | exact ret_bool (a := true) (yes_of (v := 62) (by decide) (by assumption)).symm
      | exact ret_bool (a := true) (yes_of (v := 60) (by decide) (by assumption)).symm
      | exact ret_bool (a := true) (yes_of (v := 46) (by decide) (by assumption)).symm
      | exact ret_bool (a := true) (yes_of (v := 44) (by decide) (by assumption)).symm
      | exact ret_bool (a := true) (yes_of (v := 91) (by decide) (by assumption)).symm
      | exact ret_bool (a := true) (yes_of (v := 93) (by decide) (by assumption)).symm
      | exact ret_bool (a := false) (no_of (by assumption) (by assumption) (by assumption) (by assumption) (by assumption) (by assumption) (by assumption) (by assumption)).symm

/-- bytes.Equal on two slices that hold one text. -/
theorem equal_any (v1 v2 : Value) (t : ByteArray) (w : World) (h1 : (convert 34 9 v1).run Yba.prog w = .ok (.string t) w) (h2 : (convert 34 9 v2).run Yba.prog w = .ok (.string t) w) :
    Calls Yba.prog 8 #[v1, v2] w fun e w' => e = .returned (.bool true) ∧ w' = w := by
  go_enter Yba.func8, Yba.ntmps8
  go_wp2
  go_ret
  exact ⟨by simp, rfl⟩

set_option maxHeartbeats 1000000 in
/-- next: the first command from j0 on is at t. -/
theorem next_any (pb g n cap j0 t : Nat) (o : Int) (xs : List Int) (w : World) (ho : o = (j0 : Int) - 1) (hn : n ≤ 1048577)
    (hp : w.cell? ⟨pb, 2, none⟩ = some (.slice (some ⟨g, 0, none⟩) n cap)) (hx : ∀ j, j < n → w.cell? ⟨g, j, none⟩ = some (.int .u8 (xs[j]?.getD 0)))
    (h0 : j0 ≤ t) (h1 : t < n) (hy : cmdB (xs[t]?.getD 0) = true) (hno : ∀ j, j0 ≤ j → j < t → cmdB (xs[j]?.getD 0) = false) :
    Calls Yba.prog 7 #[.pointer (some ⟨pb, 0, none⟩), .int .i64 o] w fun e w' => e = .returned (.int .i64 t) ∧ w' = w := by
  have H : Hid (o = (j0 : Int) - 1) := ho
  have b1 : (j0 : Int) - 1 ≤ o := by omega
  have b2 : o ≤ (j0 : Int) - 1 := by omega
  clear ho
  go_enter Yba.func7, Yba.ntmps7
  go_wp2
  go_loop [1] (fun i => ∃ k : Nat, j0 ≤ k ∧ k ≤ t ∧ i = .int .i64 k) (fun i => t - (intOf i).toNat)
  case atStart => exact ⟨j0, Nat.le_refl _, h0, by have := H.out; subst this; go_num⟩
  case round =>
    obtain ⟨k, hk0, hk1, rfl⟩ := hrel
    have hc := hx k (by omega)
    by_cases hlt : k < t
    · have hf := hno k hk0 hlt
      clear hx hno hy
      go_wp2_with (go_at_call 9; refine (isCommand_any _ _).mono ?_; rintro e w' ⟨rfl, rfl⟩)
      exact ⟨⟨k + 1, by omega, by omega, by go_num⟩, by simp [intOf]; omega⟩
    · obtain rfl : k = t := by omega
      clear hx hno
      go_wp2_with (go_at_call 9; refine (isCommand_any _ _).mono ?_; rintro e w' ⟨rfl, rfl⟩)
      go_ret
      exact ⟨rfl, rfl⟩

/-- From j0 on there is a first command, where the last byte is one. -/
theorem first_cmd (xs : List Int) (n : Nat) (hl : cmdB (xs[n]?.getD 0) = true) : ∀ (d j0 : Nat), j0 + d = n → ∃ t, j0 ≤ t ∧ t ≤ n ∧ cmdB (xs[t]?.getD 0) = true ∧ ∀ j, j0 ≤ j → j < t → cmdB (xs[j]?.getD 0) = false
  | 0, j0, h => ⟨j0, Nat.le_refl _, by omega, by have : j0 = n := by omega
                                                 rw [this]; exact hl, fun j a b => by omega⟩
  | d + 1, j0, h => by
    cases hc : cmdB (xs[j0]?.getD 0) with
    | true => exact ⟨j0, Nat.le_refl _, by omega, hc, fun j a b => by omega⟩
    | false =>
      obtain ⟨t, h1, h2, h3, h4⟩ := first_cmd xs n hl d (j0 + 1) (by omega)
      refine ⟨t, by omega, h2, h3, fun j a b => ?_⟩
      by_cases e : j = j0
      · rw [e]; exact hc
      · exact h4 j (by omega) b

theorem Yba.info5 : (Yba.prog.info? 5).map (fun i => (i.zero, i.size, i.bytes)) = some (some (.int .u8 0), 1, 1) := by kernel_rfl

theorem pick_cmd (l : Int) (h : (l % 8).toNat < ({ data := #[43, 45, 60, 62, 46, 44, 91, 93] } : ByteArray).size) :
    cmdB ((({ data := #[43, 45, 60, 62, 46, 44, 91, 93] } : ByteArray)[(l % 8).toNat]'h).toNat : Int) = true := by
  generalize hm : (l % 8).toNat = m at h ⊢
  have h8 : m < 8 := h
  have hm' : m = 0 ∨ m = 1 ∨ m = 2 ∨ m = 3 ∨ m = 4 ∨ m = 5 ∨ m = 6 ∨ m = 7 := by omega
  clear hm
  rcases hm' with rfl | rfl | rfl | rfl | rfl | rfl | rfl | rfl <;> rfl

theorem cells_in {w : World} {ao : Option Addr} {n : Nat} {A : List Int} (hA : A.length = n) (h : ∀ ad, ao = some ad → ∀ i, i < n → w.cell? (ad.add i) = some (.int .u8 (A[i]?.getD 0))) :
    ∀ ad, ao = some ad → ∀ (j : Nat) (u : Value), (A.map (Value.int .u8))[j]? = some u → w.cell? (ad.add j) = some u := by
  intro ad e j u hu
  obtain ⟨hj, hv⟩ := List.getElem?_eq_some_iff.1 hu
  simp at hj hv
  rw [h ad e j (by omega)]
  rw [List.getElem?_eq_getElem hj, ← hv]
  rfl

set_option maxHeartbeats 1000000 in
/-- The law's walk: the slice is nil or not. -/
theorem law_any (ao : Option Addr) (n cap : Nat) (A : List Int) (o l : Int) (w : World) (hn : n ≤ 1048576) (hA : A.length = n) (hnone : ao = none → n = 0 ∧ cap = 0)
    (hc : ∀ ad, ao = some ad → ∀ i, i < n → w.cell? (ad.add i) = some (.int .u8 (A[i]?.getD 0))) (hconv : ∀ W, Below w.heap.size w W → (convert 34 9 (.slice ao n cap)).run Yba.prog W = .ok (.string (strOfNums A)) W) (ho : 0 ≤ o ∧ o ≤ 18446744073709551615) (hl : 0 ≤ l ∧ l ≤ 255) :
    Calls Yba.prog 4 #[.slice ao n cap, .int .u64 o, .int .u8 l] w fun e w' => e = .returned (.bool true) ∧ Below w.heap.size w w' := by
  obtain ⟨i0, hi, hz0, hz1, hz2⟩ := info_parts Yba.info5
  obtain ⟨hl0, hl1⟩ := hl
  obtain ⟨ho0, ho1⟩ := ho
  have hq0 : 0 ≤ o % ((n : Int) + 1) := Int.emod_nonneg _ (by omega)
  have hq1 : o % ((n : Int) + 1) ≤ n := by have := Int.emod_lt_of_pos o (show 0 < (n : Int) + 1 by omega); omega
  go_enter Yba.func4, Yba.ntmps4
  go_wp2_with (at_make; refine wpList_make_own _ rfl _ _ 34 rfl w.heap.size 5 i0 (.int .u8 0) 1 Yba.underlying34 hi hz0 hz1 _ _ _ (n + 1) rfl rfl (by omega) ?b2 ?b3 (Nat.le_refl _) ?_)
  case b2 => rw [hz2]; omega
  case b3 => unfold maxLen; omega
  intro w0 hown0 hgrow0
  have below0 : Below w.heap.size w w0 := (Below.refl _ _).grown hgrow0 (Nat.le_refl _) (fun k h => by cases h)
  go_wp2_with (at_builtin; refine wpList_append_fits_any _ rfl (.tmp 27) (.tmp 28) 34 rfl w.heap.size 5 i0 1 Yba.underlying34 hi hz1 w.heap.size 0 (n + 1) _ rfl hown0 _ n cap (A.map (Value.int .u8)) rfl (by simp [hA]) hnone ?c1 (ints_oneCell _ _) (by omega) ?_)
  case c1 => exact cells_in hA (fun ad e i h => by rw [below0.cell (p := ad.add i) (World.block_lt_of_cell? _ _ (hc ad e i h))]; exact hc ad e i h)
  intro w1 hown1 hgrow1
  have below1 : Below w.heap.size w w1 := below0.grown hgrow1 below0.size (fun k h => by cases h; exact Nat.le_refl _)
  clear hgrow1 hown0 hgrow0 below0
  go_wp2_with (at_builtin; refine wpList_append_fits _ rfl (.tmp 30) (.tmp 32) 34 rfl w.heap.size 5 i0 1 Yba.underlying34 hi hz1 w.heap.size n (n + 1) _ rfl (hown1.alloc _) ⟨w1.heap.size, 0, none⟩ 1 1 [.int .u8 ((({ data := #[43, 45, 60, 62, 46, 44, 91, 93] } : ByteArray)[(l % 8).toNat]'(by show (l % 8).toNat < 8; omega)).toNat : Int)] rfl rfl ?c2 ?c3 (by omega) ?_)
  case c2 => intro j u hj; match j, hj with | 0, hj => simp at hj; subst hj; simp [Addr.add]
  case c3 => intro u hu; simp at hu; subst hu; rfl
  intro w2 hown2 hgrow2
  have below2 : Below w.heap.size w w2 := (below1.alloc below1.size _).grown hgrow2 (by simp; have := below1.size; omega) (fun k h => by cases h; exact Nat.le_refl _)
  have hBs : w.heap.size < w2.heap.size := (hown2.lt _ rfl).2
  have hcB := pick_cmd l (by show (l % 8).toNat < 8; omega)
  clear hgrow2 hown1 below1
  generalize ((({ data := #[43, 45, 60, 62, 46, 44, 91, 93] } : ByteArray)[(l % 8).toNat]'(by show (l % 8).toNat < 8; omega)).toNat : Int) = cc at hown2 hcB ⊢
  have hlx : (A ++ [cc]).length = n + 1 := by simp [hA]
  have hx : ∀ j, j < n + 1 → w2.cell? ⟨w.heap.size, j, none⟩ = some (.int .u8 ((A ++ [cc])[j]?.getD 0)) := by
    intro j hj
    rw [hown2.cellAt j (by omega)]
    have e : List.map (Value.int .u8) A ++ [Value.int .u8 cc] = (A ++ [cc]).map (Value.int .u8) := by simp
    rw [e, List.getElem?_map, List.getElem?_eq_getElem (by omega)]
    rfl
  have hlast : cmdB ((A ++ [cc])[n]?.getD 0) = true := by
    rw [List.getElem?_append_right (by omega)]
    simpa [hA] using hcB
  obtain ⟨t, ht0, ht1, hty, htn⟩ := first_cmd (A ++ [cc]) n hlast (n - (o % ((n : Int) + 1)).toNat) (o % ((n : Int) + 1)).toNat (by omega)
  have hfin : (A ++ [cc])[n]?.getD 0 = cc := by rw [List.getElem?_append_right (by omega)]; simp [hA]
  clear hlast hcB
  have HX : Hid (∀ j, j < n + 1 → w2.cell? ⟨w.heap.size, j, none⟩ = some (.int .u8 ((A ++ [cc])[j]?.getD 0))) := hx
  have HF : Hid ((A ++ [cc])[n]?.getD 0 = cc) := hfin
  have HN : Hid (∀ j, (o % ((n : Int) + 1)).toNat ≤ j → j < t → cmdB ((A ++ [cc])[j]?.getD 0) = false) := htn
  have HA : Hid (∀ j, j < n → (A ++ [cc])[j]?.getD 0 = A[j]?.getD 0) := fun j hj => by rw [List.getElem?_append_left (by omega)]
  clear hx hfin htn
  generalize A ++ [cc] = xs at HX HF HN HA hty
  go_wp2_with fail
  go_loop [11, 12] (fun v i => ∃ k : Nat, (o % ((n : Int) + 1)).toNat ≤ k ∧ k ≤ t ∧ v = .int .i64 (-1) ∧ i = .int .i64 k) (fun _ i => t - (intOf i).toNat)
  case atStart => exact ⟨(o % ((n : Int) + 1)).toNat, Nat.le_refl _, ht0, rfl, by go_num⟩
  case round =>
    obtain ⟨k, hk0, hk1, rfl, rfl⟩ := hrel
    have hck := HX.out k (by omega)
    by_cases hlt : k < t
    · have hf := HN.out k hk0 hlt
      clear hty
      go_wp2_with (go_at_call 6; refine (iscmd_any _ _).mono ?_; rintro e w' ⟨rfl, rfl⟩)
      exact ⟨⟨k + 1, by omega, by omega, rfl, by go_num⟩, by simp [intOf]; omega⟩
    · obtain rfl : k = t := by omega
      go_wp2_with (go_at_call 6; refine (iscmd_any _ _).mono ?_; rintro e w2' ⟨rfl, rfl⟩)
      refine (next_any w2'.heap.size w.heap.size (n + 1) (n + 1) (o % ((n : Int) + 1)).toNat k _ xs _ (by omega) (by omega) (by simp) ?hx ht0 (by omega) hty HN.out).mono ?_
      case hx => exact fun j hj => (World.cell?_alloc_past _ _ _ hBs).trans (HX.out j hj)
      rintro e w' ⟨rfl, rfl⟩
      have hcn := HX.out n (by omega)
      rw [HF.out] at hcn
      go_wp2_with fail
      refine (equal_any _ _ (strOfNums A) _ ?e1 ?e2).mono ?_
      case e1 => exact run_convert_bytes_arg _ 34 5 Yba.underlying34 Yba.underlying5 w.heap.size 0 n (n + 1) A hA (fun i hi => by rw [Nat.zero_add, World.cell?_alloc_past _ _ _ hBs, HX.out i (by omega), HA.out i hi]; rfl) 9 Yba.underlying9
      case e2 => exact hconv _ (below2.alloc below2.size _)
      rintro e w3 ⟨rfl, rfl⟩
      go_wp2_with fail
      go_ret
      exact ⟨rfl, below2.alloc below2.size _⟩
/-- A long slice: the law says nothing of it. -/
theorem law_long (ao : Option Addr) (n cap : Nat) (o l : Int) (w : World) (hn : 1048576 < n) :
    Calls Yba.prog 4 #[.slice ao n cap, .int .u64 o, .int .u8 l] w fun e w' => e = .returned (.bool true) ∧ Below w.heap.size w w' := by
  have hn' : (1048576 : Int) < n := by omega
  go_enter Yba.func4, Yba.ntmps4
  go_wp2
  go_ret
  exact ⟨rfl, Below.refl _ _⟩

/-- What 'string(s)' gives, in whatever world that leaves old memory alone. -/
theorem conv_any (ao : Option Addr) (n cap : Nat) (A : List Int) (w : World) (hA : A.length = n) (hnone : ao = none → n = 0 ∧ cap = 0)
    (hc : ∀ ad, ao = some ad → ∀ i, i < n → w.cell? (ad.add i) = some (.int .u8 (A[i]?.getD 0))) :
    ∀ W, Below w.heap.size w W → (convert 34 9 (.slice ao n cap)).run Yba.prog W = .ok (.string (strOfNums A)) W := by
  intro W hb
  by_cases h0 : n = 0
  · subst h0
    obtain rfl : A = [] := List.eq_nil_of_length_eq_zero hA
    rw [run_convert_bytes_string W 34 9 5 ao 0 cap Yba.underlying34 Yba.underlying5 Yba.underlying9]
    cases ao <;> simp [Conv.bytesToString, loadCells] <;> rfl
  · cases ao with
    | none => exact absurd (hnone rfl).1 h0
    | some ad =>
      have h := hc ad rfl
      obtain ⟨b, off, rfl, hcell⟩ := ints_at (w := w) (a := ad) (k := .u8) (zs := A) (fun i hi => by rw [h i (by omega)]; rfl) (by omega)
      exact run_convert_bytes_arg W 34 5 Yba.underlying34 Yba.underlying5 b off n cap A hA (fun i hi => by
        have e := hcell i (by omega)
        rw [hb.cell (World.block_lt_of_cell? _ _ e)]; exact e) 9 Yba.underlying9
end Go.Proofs.Ybulkdzku.C
