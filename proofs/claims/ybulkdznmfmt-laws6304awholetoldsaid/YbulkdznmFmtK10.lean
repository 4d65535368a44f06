/- 6304A: the plain parse of a body, by positions; strings of bytes. -/
import Derived.Test.YbulkdznmFmtK9
import Derived.Test.YbulkdznmFmtK1
import Derived.Test.YbulkdznmFmtK2
namespace Go.Proofs.YbulkdznmFmt.A
open Go.RowKit

/-- l bytes as a string. -/
def str (f : Nat → UInt8) (l : Nat) : ByteArray := ⟨((List.range l).map f).toArray⟩
theorem str_size (f : Nat → UInt8) (l : Nat) : (str f l).size = l := by simp [str, ByteArray.size]
/-- The name of the record at p. -/
def nm (B : Nat → UInt8) (p : Nat) : ByteArray := str (fun m => B (p + 1 + m)) (B p).toNat
/-- Where its primary id begins. -/
def prim (B : Nat → UInt8) (p : Nat) : Nat := p + 1 + (B p).toNat
/-- Where its keys begin. -/
def hdr (B : Nat → UInt8) (p : Nat) : Nat := p + 13 + (B p).toNat
/-- A number of four bytes. -/
def cn (B : Nat → UInt8) (q : Nat) : Nat := Lib.beNat [B q, B (q + 1), B (q + 2), B (q + 3)]
/-- How many keys it announces. -/
def nk (B : Nat → UInt8) (p : Nat) : Nat := cn B (p + 9 + (B p).toNat)
/-- The bytes from q on. -/
def fr (B : Nat → UInt8) (q : Nat) : Nat → UInt8 := fun m => B (q + m)
/-- The id of the key at q. -/
def idl (B : Nat → UInt8) (q : Nat) : List UInt8 := bl (fr B q)

def strLe (a b : ByteArray) : Bool := Op.bytesLess a.toList b.toList || a.toList == b.toList
def prev (B : Nat → UInt8) (out : List Nat) : ByteArray := match out.getLast? with | none => ⟨#[]⟩ | some p => nm B p

def keys (B : Nat → UInt8) : Nat → Nat → List (List UInt8) → Option (List (List UInt8))
  | 0, _, seen => some seen
  | n + 1, q, seen => if idl B q ∈ seen then none else keys B n (q + 40) (seen ++ [idl B q])

/-- The primary is among the first n keys of the record at p. -/
def fnd (B : Nat → UInt8) (p n : Nat) : Bool := decide (∃ j, j < n ∧ idl B (hdr B p + j * 40) = idl B (prim B p))

def good (B : Nat → UInt8) (N pos : Nat) (out : List Nat) : Bool :=
  decide (hdr B pos ≤ N) && (okN (nm B pos) && !strLe (nm B pos) (prev B out)) && (decide (nk B pos ≠ 0) && decide (hdr B pos + nk B pos * 40 ≤ N))

def go (B : Nat → UInt8) (N : Nat) : Nat → Nat → List Nat → List (List UInt8) → Option (List Nat)
  | 0, pos, out, _ => if pos = N then some out else none
  | c + 1, pos, out, seen =>
    if good B N pos out then
      match keys B (nk B pos) (hdr B pos) seen with
      | none => none
      | some seen' => if fnd B pos (nk B pos) then go B N c (hdr B pos + nk B pos * 40) (out ++ [pos]) seen' else none
    else none

def parse (B : Nat → UInt8) (N : Nat) : Option (List Nat) := if N < 4 then none else go B N (cn B 0) 4 [] []

section
variable {B : Nat → UInt8} {N c pos : Nat} {out : List Nat} {seen seen' : List (List UInt8)}
theorem go_bad (h : good B N pos out = false) : go B N (c + 1) pos out seen = none := by rw [go, h]; rfl
theorem go_dup (h : keys B (nk B pos) (hdr B pos) seen = none) : go B N (c + 1) pos out seen = none := by rw [go, h]; split <;> rfl
theorem go_unf (h : fnd B pos (nk B pos) = false) : go B N (c + 1) pos out seen = none := by
  rw [go]
  split
  · cases keys B (nk B pos) (hdr B pos) seen with
    | none => rfl
    | some s => simp [h]
  · rfl
theorem go_next (h : good B N pos out = true) (hk : keys B (nk B pos) (hdr B pos) seen = some seen') (hf : fnd B pos (nk B pos) = true) :
    go B N (c + 1) pos out seen = go B N c (hdr B pos + nk B pos * 40) (out ++ [pos]) seen' := by rw [go, h, hk]; simp [hf]
theorem keys_dup {n q : Nat} (h : idl B q ∈ seen) : keys B (n + 1) q seen = none := by rw [keys, if_pos h]
theorem keys_next {n q : Nat} (h : idl B q ∉ seen) : keys B (n + 1) q seen = keys B n (q + 40) (seen ++ [idl B q]) := by rw [keys, if_neg h]
theorem good_split (h1 : hdr B pos ≤ N) (h2 : okN (nm B pos) = true) (h3 : strLe (nm B pos) (prev B out) = false) (h4 : nk B pos ≠ 0) (h5 : hdr B pos + nk B pos * 40 ≤ N) : good B N pos out = true := by
  simp [good, h1, h2, h3, h4, h5]
theorem bad1 (h : N < hdr B pos) : good B N pos out = false := by
  have : decide (hdr B pos ≤ N) = false := by simp; omega
  simp [good, this]
theorem bad2 (h : okN (nm B pos) = false) : good B N pos out = false := by simp [good, h]
theorem bad3 (h : strLe (nm B pos) (prev B out) = true) : good B N pos out = false := by simp [good, h]
theorem bad4 (h : nk B pos = 0) : good B N pos out = false := by simp [good, h]
theorem bad5 (h : N < hdr B pos + nk B pos * 40) : good B N pos out = false := by
  have : decide (hdr B pos + nk B pos * 40 ≤ N) = false := by simp; omega
  simp [good, this]
theorem fnd_zero {p : Nat} : fnd B p 0 = false := by simp [fnd]
theorem fnd_succ {p n : Nat} : fnd B p (n + 1) = (fnd B p n || (idl B (hdr B p + n * 40) == idl B (prim B p))) := by
  unfold fnd
  by_cases h : idl B (hdr B p + n * 40) = idl B (prim B p)
  · rw [h, beq_self_eq_true, Bool.or_true]
    simp only [decide_eq_true_eq]
    exact ⟨n, by omega, h⟩
  · have : (idl B (hdr B p + n * 40) == idl B (prim B p)) = false := by simp [h]
    rw [this, Bool.or_false]
    apply decide_eq_decide.2
    constructor
    · rintro ⟨j, hj, e⟩
      rcases Nat.lt_or_ge j n with h' | h'
      · exact ⟨j, h', e⟩
      · obtain rfl : j = n := by omega
        exact absurd e h
    · rintro ⟨j, hj, e⟩
      exact ⟨j, by omega, e⟩
end

theorem less_irr : ∀ l : List UInt8, Op.bytesLess l l = false
  | [] => rfl
  | a :: l => by simp [Op.bytesLess, less_irr l]
theorem less_trans : ∀ {a b c : List UInt8}, Op.bytesLess a b = true → Op.bytesLess b c = true → Op.bytesLess a c = true
  | _, [], _, h, _ => by cases ‹List UInt8› <;> simp [Op.bytesLess] at h
  | _, _ :: _, [], _, h => by simp [Op.bytesLess] at h
  | [], _ :: _, _ :: _, _, _ => rfl
  | a :: x, b :: y, c :: z, h, k => by
    simp only [Op.bytesLess, Bool.or_eq_true, decide_eq_true_eq, Bool.and_eq_true, beq_iff_eq] at h k ⊢
    rcases h with h | ⟨rfl, h⟩
    · rcases k with k | ⟨rfl, k⟩
      · exact Or.inl (UInt8.lt_trans h k)
      · exact Or.inl h
    · rcases k with k | ⟨rfl, k⟩
      · exact Or.inl k
      · exact Or.inr ⟨rfl, less_trans h k⟩
theorem less_tot : ∀ {a b : List UInt8}, Op.bytesLess a b = false → a ≠ b → Op.bytesLess b a = true
  | [], [], _, h => absurd rfl h
  | [], _ :: _, h, _ => by simp [Op.bytesLess] at h
  | _ :: _, [], _, _ => rfl
  | a :: x, b :: y, h, k => by
    simp only [Op.bytesLess, Bool.or_eq_false_iff, decide_eq_false_iff_not, Bool.and_eq_false_iff, beq_eq_false_iff_ne] at h
    simp only [Op.bytesLess, Bool.or_eq_true, decide_eq_true_eq, Bool.and_eq_true, beq_iff_eq]
    by_cases e : a = b
    · subst e
      rcases h.2 with h | h
      · exact absurd rfl h
      · exact Or.inr ⟨rfl, less_tot h (fun e => k (by rw [e]))⟩
    · have h1 := h.1
      rw [UInt8.lt_iff_toNat_lt] at h1
      have h2 : a.toNat ≠ b.toNat := fun h => e (UInt8.toNat_inj.1 h)
      exact Or.inl (UInt8.lt_iff_toNat_lt.2 (by omega))

/-- The names come in strictly ascending order. -/
def Asc (B : Nat → UInt8) (out : List Nat) : Prop := out.Pairwise (fun p q => Op.bytesLess (nm B p).toList (nm B q).toList = true)
theorem asc_add {B : Nat → UInt8} {out : List Nat} {pos : Nat} (h : Asc B out) (hl : strLe (nm B pos) (prev B out) = false) : Asc B (out ++ [pos]) := by
  unfold Asc
  rw [List.pairwise_append]
  refine ⟨h, List.pairwise_singleton _ _, fun p hp q hq => ?_⟩
  obtain rfl : q = pos := by simpa using hq
  rcases List.eq_nil_or_concat out with rfl | ⟨ini, z, rfl⟩
  · cases hp
  · have hz : prev B (ini ++ [z]) = nm B z := by simp [prev]
    rw [List.concat_eq_append] at *
    rw [hz] at hl
    simp only [strLe, Bool.or_eq_false_iff, beq_eq_false_iff_ne] at hl
    have hzq := less_tot hl.1 hl.2
    rcases List.mem_append.1 hp with hp | hp
    · unfold Asc at h
      rw [List.pairwise_append] at h
      exact less_trans (h.2.2 p hp z (by simp)) hzq
    · obtain rfl : p = z := by simpa using hp
      exact hzq
theorem asc_ne {B : Nat → UInt8} {out : List Nat} (h : Asc B out) : out.Pairwise (fun p q => nm B p ≠ nm B q) := by
  refine List.Pairwise.imp ?_ h
  intro p q h e
  rw [e, less_irr] at h
  cases h
theorem go_asc {B : Nat → UInt8} {N : Nat} {ps : List Nat} : ∀ (c pos : Nat) (out : List Nat) (seen : List (List UInt8)), Asc B out → go B N c pos out seen = some ps → Asc B ps
  | 0, pos, out, seen, h, e => by
    rw [go] at e
    split at e
    · cases e; exact h
    · cases e
  | c + 1, pos, out, seen, h, e => by
    rw [go] at e
    split at e
    · rename_i hg
      cases hk : keys B (nk B pos) (hdr B pos) seen with
      | none => rw [hk] at e; cases e
      | some s =>
        rw [hk] at e
        dsimp only at e
        split at e
        · refine go_asc c _ _ _ (asc_add h ?_) e
          simp only [good, Bool.and_eq_true] at hg
          simpa using hg.1.2.2
        · cases e
    · cases e

theorem push_all : ∀ (ns : List Int) (s : ByteArray), ns.foldl (fun r n => r.push (UInt8.ofNat n.toNat)) s = ⟨(s.data.toList ++ ns.map (fun n => UInt8.ofNat n.toNat)).toArray⟩
  | [], s => by simp
  | n :: ns, s => by
    rw [List.foldl_cons, push_all ns]
    simp [ByteArray.push]
theorem run_str (w : World) (g q l c : Nat) (f : Nat → UInt8) (h : By w g q l f) : (convert 24 9 (.slice (some ⟨g, q, none⟩) l c)).run Ybaf.prog w = .ok (.string (str f l)) w := by
  rw [run_convert_bytes_string w 24 9 5 _ _ _ Ybaf.underlying24 Ybaf.underlying5 Ybaf.underlying9]
  have hl := run_loadCells_list (P := Ybaf.prog) w ⟨g, q, none⟩ (cl f l) (fun j v hj => by
      have hlt : j < l := by have := (List.getElem?_eq_some_iff.1 hj).1; simpa using this
      rw [cl_get f l j hlt] at hj
      cases hj
      have hadd : (⟨g, q, none⟩ : Addr).add j = ⟨g, q + j, none⟩ := by unfold Addr.add; split <;> simp_all
      rw [hadd]
      exact h j hlt)
  rw [cl_len] at hl
  have := run_bytesToString (P := Ybaf.prog) w ⟨g, q, none⟩ l c ((List.range l).map (fun i => ((f i).toNat : Int))) (by rw [hl]; simp [cl])
  rw [this, push_all]
  simp only [List.map_map, str]
  congr 3
  simp [Function.comp_def]
theorem wpList_str {ops : Array Oper} {rest : List Oper} {o : Oper} {a : Act} {w : World} {Q : Exit → Act → World → Prop} (hg : o.guard = none) (s : Operand) (hop : o.op = Op.convert 24 9 s)
    (g q l c : Nat) (f : Nat → UInt8) (hs : a.eval s = .slice (some ⟨g, q, none⟩) l c) (hb : By w g q l f)
    (h : wpList Ybaf.prog ops Q rest (a.put o.dst (.string (str f l))) w) : wpList Ybaf.prog ops Q (o :: rest) a w := by
  refine wpList_plain hg fun K hK => ?_
  have hrun := run_str w g q l c f hb
  unfold Oper.wp
  simp [execOp, hop, hs, hrun, Result.andThen]
  exact hK _ _ h
end Go.Proofs.YbulkdznmFmt.A
