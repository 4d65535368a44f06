/- 6304A: maps that the call made: look-up, entry of a new key. -/
import Derived.Test.YbulkdznmFmtK4
import Derived.WideKeyElems
import Derived.WideKeyArr
import Derived.StringKeys
namespace Go.Proofs.YbulkdznmFmt.A
open Go.RowKit
open Go.WideMaps (KeyLaw)

/-- The map in block b holds these pairs, in the order of entry. -/
def MapL (w : World) (b : Nat) (l : List (Value × Value)) : Prop := ∃ es ck, w.heap[b]? = some (.map es ck) ∧ es.toList.map (fun e => (e.key, e.val)) = l
theorem MapL.lt {w : World} {b : Nat} {l} (h : MapL w b l) : b < w.heap.size := by
  obtain ⟨es, ck, h, _⟩ := h
  exact (Array.getElem?_eq_some_iff.1 h).1
theorem MapL.of {w w' : World} {b : Nat} {l} (h : MapL w b l) (e : w'.heap[b]? = w.heap[b]?) : MapL w' b l := by
  obtain ⟨es, ck, h, k⟩ := h
  exact ⟨es, ck, e.trans h, k⟩
theorem MapL.grown {w w' : World} {b : Nat} {l} {row : Option Nat} (h : MapL w b l) (hg : w.grownBy w' row) (hb : some b ≠ row) : MapL w' b l := h.of (hg.block b h.lt hb)
theorem MapL.below {w w' : World} {b : Nat} {l} (h : MapL w b l) (hb : Below w.heap.size w w') : MapL w' b l := h.of (hb.block b h.lt)
theorem MapL.set {w : World} {b : Nat} {l} (h : MapL w b l) {b' o : Nat} {v : Value} (hb : b ≠ b') : MapL (w.setCell ⟨b', o, none⟩ v) b l := h.grown (grown_setCell w b' o v) (by simpa using hb)
theorem MapL.made (w : World) : MapL (w.alloc (.map #[] 0)) w.heap.size [] := ⟨#[], 0, (MapKept.heap_alloc w _).1, rfl⟩

theorem findL {P : Program} {k : TypeId} (K : KeyLaw P k) (w : World) {key : Value} {kl : Lit} (hkey : keyOf P k key = some kl) (es : Array MapEntry) (l : List (Value × Value)) (he : es.toList.map (fun e => (e.key, e.val)) = l) (hl : ∀ p ∈ l, ∃ q, keyOf P k p.1 = some q) :
    ((Instr.findKey k key es.toList).run P w = .ok none w ∧ ∀ p ∈ l, p.1 ≠ key) ∨ ∃ j v, (Instr.findKey k key es.toList).run P w = .ok (some (j, v)) w ∧ (key, v) ∈ l := by
  subst he
  rcases K.find w hkey es.toList (fun e he => hl (e.key, e.val) (List.mem_map.2 ⟨e, he, rfl⟩)) with ⟨h1, h2⟩ | ⟨j, e0, h1, h2, h3⟩
  · refine Or.inl ⟨h1, fun p hp => ?_⟩
    obtain ⟨e, he, rfl⟩ := List.mem_map.1 hp
    exact h2 e he
  · exact Or.inr ⟨j, e0.val, h1, List.mem_map.2 ⟨e0, List.mem_of_getElem? h2, by rw [h3]⟩⟩

theorem run_lookupL {P : Program} {t k e : TypeId} (K : KeyLaw P k) (ht : P.underlying t = some (.map k e)) (w : World) {z : Value} (hz : (zeroValue e).run P w = .ok z w) {b : Nat} {l} (hm : MapL w b l) {key : Value} {kl : Lit} (hkey : keyOf P k key = some kl) (hl : ∀ p ∈ l, ∃ q, keyOf P k p.1 = some q) :
    ((Instr.lookup t (.map (some b)) key false).run P w = .ok z w ∧ ∀ p ∈ l, p.1 ≠ key) ∨ ∃ v, (Instr.lookup t (.map (some b)) key false).run P w = .ok v w ∧ (key, v) ∈ l := by
  obtain ⟨es, ck, hb, he⟩ := hm
  rcases findL K w hkey es l he hl with ⟨h1, h2⟩ | ⟨j, v, h1, h2⟩
  · exact Or.inl ⟨by simp [Instr.lookup, run_underlying ht, MapKept.run_getObj_map hb, K.check w _ hkey, h1, hz, Result.andThen], h2⟩
  · exact Or.inr ⟨v, by simp [Instr.lookup, run_underlying ht, MapKept.run_getObj_map hb, K.check w _ hkey, h1, Result.andThen], h2⟩

theorem run_enterL {P : Program} {t k e : TypeId} (K : KeyLaw P k) (ht : P.underlying t = some (.map k e)) (w : World) {b : Nat} {l} (hm : MapL w b l) {key : Value} {kl : Lit} (hkey : keyOf P k key = some kl) (hl : ∀ p ∈ l, ∃ q, keyOf P k p.1 = some q) (hno : ∀ p ∈ l, p.1 ≠ key) (val : Value) :
    ∃ w', (Instr.mapUpdate t (.map (some b)) key val).run P w = .ok () w' ∧ MapL w' b (l ++ [(key, val)]) ∧ w.grownBy w' (some b) := by
  have hlt := hm.lt
  obtain ⟨es, ck, hb, he⟩ := hm
  rcases findL K w hkey es l he hl with ⟨h1, h2⟩ | ⟨j, v, h1, h2⟩
  · refine ⟨ChangeMaps.setBlock w b (.map (es.push ⟨key, val, ck⟩) (ck + 1)), by simp [Instr.mapUpdate, run_underlying ht, MapKept.run_getObj_map hb, K.check w false hkey, h1, MapKept.run_setObj_map _ hb, Result.andThen, ChangeMaps.setBlock], ⟨es.push ⟨key, val, ck⟩, ck + 1, ?_, ?_⟩, ?_⟩
    · simp [ChangeMaps.setBlock, hlt]
    · rw [Array.toList_push, List.map_append, he]; rfl
    · refine ⟨rfl, rfl, rfl, by simp [ChangeMaps.setBlock], fun i _ hn => ?_⟩
      simp only [ChangeMaps.setBlock, Array.getElem?_setIfInBounds]
      rw [if_neg (fun e => hn (by rw [e]))]
  · exact absurd rfl (hno _ h2)

theorem run_lenL {P : Program} {t k e ty : TypeId} (ht : P.underlying t = some (.map k e)) (w : World) {b : Nat} {l} (hm : MapL w b l) : (Builtin.len_ #[t] ty #[.map (some b)]).run P w = .ok (goInt l.length) w := by
  obtain ⟨es, ck, hb, he⟩ := hm
  have : es.size = l.length := by rw [← he]; simp
  simp [Builtin.len_, run_underlying ht, MapKept.run_getObj_map hb, this]

theorem arr40 : Go.WideMaps.ArrKey Ybaf.prog 40 5 8 := ⟨Ybaf.underlying40, by kernel_rfl, by kernel_rfl, by kernel_rfl⟩
theorem law40 : KeyLaw Ybaf.prog 40 := arr40.law
theorem law9 : KeyLaw Ybaf.prog 9 := Go.WideMaps.string_law Ybaf.underlying9
theorem key9 (s : ByteArray) (hs : s.size ≤ maxLen) : keyOf Ybaf.prog 9 (.string s) = some (.string s.data.toList) := Go.WideMaps.keyOf_string_mk Ybaf.underlying9 hs
theorem key40 (f : Nat → UInt8) : ∃ l, keyOf Ybaf.prog 40 (ar f) = some l := by
  have hw : ∀ i, (Lit.int .u8 ((f i).toNat : Int)).wf = true := fun i => by
    have := (f i).toNat_lt
    simp [Lit.wf, IntKind.min, IntKind.max, IntKind.bits, IntKind.signed]
    omega
  have hk : Ybaf.prog.keyType 40 = true := by kernel_rfl
  have hs : ∃ m, Ybaf.prog.types.size + 1 = m + 2 := by
    have h0 : decide (0 < Ybaf.prog.types.size) = true := by kernel_rfl
    have := of_decide_eq_true h0
    exact ⟨Ybaf.prog.types.size - 1, by omega⟩
  obtain ⟨m, hm⟩ := hs
  have c5 : Ybaf.prog.cellsOf 5 = 1 := by kernel_rfl
  have c40 : Ybaf.prog.cellsOf 40 = 8 := by kernel_rfl
  have k1 : ∀ i, Ybaf.prog.keyLits (m + 1) 5 [.int .u8 ((f i).toNat : Int)] = some [.int .u8 (f i).toNat] := fun i => by
    unfold Program.keyLits
    rw [Ybaf.underlying5]
    simp [hw i]
  have k2 : Ybaf.prog.keyLits (m + 2) 40 (ar f).cells.toList = some ((List.range 8).map (fun i => Lit.int .u8 ((f i).toNat : Int))) := by
    unfold Program.keyLits
    rw [Ybaf.underlying40]
    simp [ar, Value.cells, c5, c40, List.range, List.range.loop, k1]
  have hf : (ar f).formed Ybaf.prog 40 = true := by simp [ar, Value.formed, Ybaf.underlying40, c40]
  refine ⟨.string (keyBytes ((List.range 8).map (fun i => Lit.int .u8 ((f i).toNat : Int)))), ?_⟩
  unfold keyOf
  rw [Ybaf.underlying40]
  simp only [hk, hm, k2, hf]
  rfl
end Go.Proofs.YbulkdznmFmt.A
