/- 6297C: plain: the runs of a sorted row; which values are backed often enough. No Go in sight. -/
import Derived.Test.YbulkdzjsS1
namespace Go.Proofs.Ybulkdzjs.A
open Go.Sort

/-- The value v stands often enough in d: 'conf' confessions and its vectors reach 'thr'. -/
def Qual (d : Array Sv) (conf : Nat) (thr : Int) (v : Sv) : Prop := thr ≤ ((conf + d.toList.count v : Nat) : Int)
/-- off places behind: what is found (x, y) among them; the values behind are others. -/
def Fd (d : Array Sv) (conf : Nat) (thr : Int) (off x : Nat) (y : Bool) : Prop :=
  (∀ i i', i < off → off ≤ i' → i' < d.size → d[i]! ≠ d[i']!) ∧
  ((y = false ∧ x = 0 ∧ ∀ i, i < off → ¬ Qual d conf thr d[i]!) ∨ (y = true ∧ ∃ i, i < off ∧ x = F (d[i]!).1 ∧ Qual d conf thr d[i]! ∧ ∀ i', i' < off → Qual d conf thr d[i']! → d[i']! = d[i]!))
/-- The run at off is s long. -/
def Run (d : Array Sv) (off s : Nat) : Prop := (∀ i, i < s → d[off + i]! = d[off]!) ∧ (off + s < d.size → d[off + s]! ≠ d[off]!)
/-- What comes out. -/
def Res (xs : List Sv) (conf : Nat) (thr : Int) (x : Nat) (y : Bool) : Prop :=
  (y = false ∧ x = 0 ∧ ((∀ v ∈ xs, ¬ thr ≤ ((conf + xs.count v : Nat) : Int)) ∨ ∃ u ∈ xs, ∃ v ∈ xs, u ≠ v ∧ thr ≤ ((conf + xs.count u : Nat) : Int) ∧ thr ≤ ((conf + xs.count v : Nat) : Int))) ∨
  (y = true ∧ ∃ v ∈ xs, x = F v.1 ∧ thr ≤ ((conf + xs.count v : Nat) : Int) ∧ ∀ u ∈ xs, thr ≤ ((conf + xs.count u : Nat) : Int) → u = v)

section
variable {d : Array Sv} {conf off s x : Nat} {thr : Int} {y : Bool} {m : Nat}
theorem fd_start : Fd d conf thr 0 0 false := ⟨fun i i' h => by omega, Or.inl ⟨rfl, rfl, fun i h => by omega⟩⟩
theorem lts_false {a b : Sv} (h1 : lts a b = false) (h2 : lts b a = false) : a = b := by
  simp only [lts, ltI, decide_eq_false_iff_not] at h1 h2
  exact Subtype.ext (by omega)
/-- Behind a whole run all are others. -/
theorem run_sep (hs : SortedIn lts 0 d.size d) (hr : Run d off s) (h1 : 1 ≤ s) (hle : off + s ≤ d.size) : ∀ i', off + s ≤ i' → i' < d.size → d[off]! ≠ d[i']! := by
  intro i' h h' e
  have h0 : d[off + s]! ≠ d[off]! := hr.2 (by omega)
  apply h0
  by_cases e2 : off + s = i'
  · rw [e2, ← e]
  · have a := hs (off + s) i' (by omega) (by omega) h'
    have b := hs off (off + s) (by omega) (by omega) (by omega)
    rw [← e] at a
    exact (lts_false a b).symm
theorem toList_get (d : Array Sv) (i : Nat) (h : i < d.size) : d.toList[i]? = some d[i]! := by
  rw [Array.getElem?_toList, Array.getElem?_eq_getElem h, getElem!_pos d i h]
theorem count_zero_of {l : List Sv} {v : Sv} (h : ∀ u ∈ l, u ≠ v) : l.count v = 0 := List.count_eq_zero.2 (fun hm => h v hm rfl)
/-- The run's length is how often its value stands. -/
theorem run_count (hs : SortedIn lts 0 d.size d) (hf : ∀ i i', i < off → off ≤ i' → i' < d.size → d[i]! ≠ d[i']!) (hr : Run d off s) (h1 : 1 ≤ s) (hle : off + s ≤ d.size) : d.toList.count d[off]! = s := by
  have hl : d.toList.length = d.size := by simp
  have e : d.toList = d.toList.take off ++ ((d.toList.drop off).take s ++ (d.toList.drop off).drop s) := by rw [List.take_append_drop, List.take_append_drop]
  rw [e, List.count_append, List.count_append]
  have a1 : (d.toList.take off).count d[off]! = 0 := count_zero_of (fun u hu => by
    obtain ⟨i, hi, rfl⟩ := List.getElem_of_mem hu
    rw [List.length_take] at hi
    rw [List.getElem_take]
    have := toList_get d i (by omega)
    rw [List.getElem?_eq_getElem (by omega)] at this
    injection this with this
    rw [this]
    exact hf i off (by omega) (Nat.le_refl _) (by omega))
  have a3 : ((d.toList.drop off).drop s).count d[off]! = 0 := count_zero_of (fun u hu => by
    obtain ⟨i, hi, rfl⟩ := List.getElem_of_mem hu
    rw [List.length_drop, List.length_drop] at hi
    rw [List.getElem_drop, List.getElem_drop]
    have := toList_get d (off + (s + i)) (by omega)
    rw [List.getElem?_eq_getElem (by omega)] at this
    injection this with this
    rw [this]
    exact (run_sep hs hr h1 hle _ (by omega) (by omega)).symm)
  have a2 : ((d.toList.drop off).take s).count d[off]! = s := by
    have hlen : ((d.toList.drop off).take s).length = s := by rw [List.length_take, List.length_drop]; omega
    have : ((d.toList.drop off).take s) = List.replicate s d[off]! := by
      apply List.ext_getElem (by rw [hlen, List.length_replicate])
      intro i h1 h2
      rw [List.getElem_take, List.getElem_drop, List.getElem_replicate]
      rw [hlen] at h1
      have := toList_get d (off + i) (by omega)
      rw [List.getElem?_eq_getElem (by omega)] at this
      injection this with this
      rw [this]
      exact hr.1 i h1
    rw [this, List.count_replicate_self]
  rw [a1, a2, a3]
  omega
theorem in_run {i : Nat} (hr : Run d off s) (h1 : off ≤ i) (h2 : i < off + s) : d[i]! = d[off]! := by
  have := hr.1 (i - off) (by omega)
  rwa [show off + (i - off) = i by omega] at this
theorem sep_next (hs : SortedIn lts 0 d.size d) (hf : Fd d conf thr off x y) (hr : Run d off s) (h1 : 1 ≤ s) (hle : off + s ≤ d.size) : ∀ i i', i < off + s → off + s ≤ i' → i' < d.size → d[i]! ≠ d[i']! := by
  intro i i' hi hi' h
  by_cases e : i < off
  · exact hf.1 i i' e (by omega) h
  · rw [in_run hr (by omega) hi]; exact run_sep hs hr h1 hle i' hi' h
/-- The run is too short. -/
theorem fd_short (hs : SortedIn lts 0 d.size d) (hf : Fd d conf thr off x y) (hr : Run d off s) (h1 : 1 ≤ s) (hle : off + s ≤ d.size) (hq : ¬ thr ≤ ((conf + s : Nat) : Int)) : Fd d conf thr (off + s) x y := by
  have hc := run_count hs hf.1 hr h1 hle
  have hnq : ¬ Qual d conf thr d[off]! := by unfold Qual; rw [hc]; exact hq
  refine ⟨sep_next hs hf hr h1 hle, ?_⟩
  rcases hf.2 with ⟨hy, hx, h⟩ | ⟨hy, i, hi, hx, hqi, h⟩
  · refine Or.inl ⟨hy, hx, fun i hi => ?_⟩
    by_cases e : i < off
    · exact h i e
    · rw [in_run hr (by omega) hi]; exact hnq
  · refine Or.inr ⟨hy, i, by omega, hx, hqi, fun i' hi' hq' => ?_⟩
    by_cases e : i' < off
    · exact h i' e hq'
    · rw [in_run hr (by omega) hi'] at hq'; exact absurd hq' hnq
/-- The first that is long enough. -/
theorem fd_first (hs : SortedIn lts 0 d.size d) (hf : Fd d conf thr off x false) (hr : Run d off s) (h1 : 1 ≤ s) (hle : off + s ≤ d.size) (hq : thr ≤ ((conf + s : Nat) : Int)) : Fd d conf thr (off + s) (F (d[off]!).1) true := by
  have hc := run_count hs hf.1 hr h1 hle
  have hqq : Qual d conf thr d[off]! := by unfold Qual; rw [hc]; exact hq
  refine ⟨sep_next hs hf hr h1 hle, Or.inr ⟨rfl, off, by omega, rfl, hqq, fun i' hi' hq' => ?_⟩⟩
  rcases hf.2 with ⟨_, _, h⟩ | ⟨hy, _⟩
  · by_cases e : i' < off
    · exact absurd hq' (h i' e)
    · exact in_run hr (by omega) hi'
  · cases hy
theorem get_mem {xs : List Sv} (hp : d.toList.Perm xs) {i : Nat} (h : i < d.size) : d[i]! ∈ xs := by
  rw [← hp.mem_iff, Array.mem_toList_iff, getElem!_pos d i h]
  exact Array.getElem_mem h
/-- The second: none is taken. -/
theorem fd_second (hs : SortedIn lts 0 d.size d) (hf : Fd d conf thr off x true) (hr : Run d off s) (h1 : 1 ≤ s) (hle : off + s ≤ d.size) (hq : thr ≤ ((conf + s : Nat) : Int)) {xs : List Sv} (hp : d.toList.Perm xs) : Res xs conf thr 0 false := by
  have hc := run_count hs hf.1 hr h1 hle
  rcases hf.2 with ⟨hy, _⟩ | ⟨_, i, hi, _, hqi, _⟩
  · cases hy
  · refine Or.inl ⟨rfl, rfl, Or.inr ⟨d[i]!, get_mem hp (by omega), d[off]!, get_mem hp (by omega), hf.1 i off hi (Nat.le_refl _) (by omega), ?_, ?_⟩⟩
    · rw [← hp.count_eq]; exact hqi
    · rw [← hp.count_eq, hc]; exact hq
/-- At the row's end. -/
theorem fd_end (hf : Fd d conf thr d.size x y) {xs : List Sv} (hp : d.toList.Perm xs) : Res xs conf thr x y := by
  have hm : ∀ v ∈ xs, ∃ i, i < d.size ∧ d[i]! = v := fun v hv => by
    rw [← hp.mem_iff, Array.mem_toList_iff] at hv
    obtain ⟨i, hi, e⟩ := Array.getElem_of_mem hv
    exact ⟨i, hi, by rw [getElem!_pos d i hi]; exact e⟩
  rcases hf.2 with ⟨rfl, rfl, h⟩ | ⟨rfl, i, hi, rfl, hq, h⟩
  · refine Or.inl ⟨rfl, rfl, Or.inl fun v hv => ?_⟩
    obtain ⟨i, hi, rfl⟩ := hm v hv
    rw [← hp.count_eq]
    exact h i hi
  · refine Or.inr ⟨rfl, d[i]!, get_mem hp hi, rfl, by rw [← hp.count_eq]; exact hq, fun u hu hqu => ?_⟩
    obtain ⟨i', hi', rfl⟩ := hm u hu
    rw [← hp.count_eq] at hqu
    exact h i' hi' hqu
end
end Go.Proofs.Ybulkdzjs.A
