/- 6304A: decodeKeyringBody computes the plain parse. -/
import Derived.Test.YbulkdznmFmtK14b
import Derived.Test.YbulkdznmFmtK7
import Derived.Test.YbulkdznmFmtK5
namespace Go.Proofs.YbulkdznmFmt.A
open Go.RowKit Go.Extern.Stop Go.Stop

theorem run_mkmapA (w : World) : (Instr.makeMap 56 none).run Ybaf.prog w = .ok (.map (some w.heap.size)) (w.alloc (.map #[] 0)) := rfl
theorem run_mkmapB (w : World) : (Instr.makeMap 32 none).run Ybaf.prog w = .ok (.map (some w.heap.size)) (w.alloc (.map #[] 0)) := rfl
attribute [local go_sem] run_mkmapA run_mkmapB
theorem cn_fr (B : Nat → UInt8) (q : Nat) : cn (fr B q) 0 = cn B q := by simp [cn, fr]
theorem cn_lt' (B : Nat → UInt8) (p : Nat) : cn B p < 4294967296 := by
  have := be4 (B p) (B (p + 1)) (B (p + 2)) (B (p + 3))
  have h0 := (B p).toNat_lt
  have h1 := (B (p + 1)).toNat_lt
  have h2 := (B (p + 2)).toNat_lt
  have h3 := (B (p + 3)).toNat_lt
  unfold cn
  omega

/-- What decodeKeyringBody answers. -/
def DPost (B : Nat → UInt8) (R : Option (List Nat)) (w : World) (e : Ending) (w' : World) : Prop :=
  Below w.heap.size w w' ∧ ((R = none ∧ ∃ T x, e = .returned (.tuple #[.map none, .iface T x])) ∨
    ∃ sm es, R = some (es.map (·.1)) ∧ e = .returned (.tuple #[.map (some sm), .nilIface]) ∧ MapL w' sm (scs B es) ∧ ∀ s ∈ es, Scp w' B s)

theorem DS.start (B : Nat → UInt8) (g o N c T : Nat) (x : Value) (w : World) :
    DS w (((w.alloc (.cells #[.slice (some ⟨g, o, none⟩) N c, .nilIface] 60)).alloc (.map #[] 0)).alloc (.map #[] 0)) B g o N c T x w.heap.size (w.heap.size + 1) (w.heap.size + 1 + 1) (some 0) [] [] := by
  have hb1 : Below w.heap.size w (w.alloc (.cells #[.slice (some ⟨g, o, none⟩) N c, .nilIface] 60)) := (Below.refl _ _).alloc (Nat.le_refl _) _
  have hb2 := hb1.alloc (o := .map #[] 0) (by simp)
  have hb3 := hb2.alloc (o := .map #[] 0) (by simp; omega)
  have m1 : MapL ((w.alloc (.cells #[.slice (some ⟨g, o, none⟩) N c, .nilIface] 60)).alloc (.map #[] 0)) (w.heap.size + 1) [] := by
    have := MapL.made (w.alloc (.cells #[.slice (some ⟨g, o, none⟩) N c, .nilIface] 60))
    simpa using this
  have m2 : MapL (((w.alloc (.cells #[.slice (some ⟨g, o, none⟩) N c, .nilIface] 60)).alloc (.map #[] 0)).alloc (.map #[] 0)) (w.heap.size + 1 + 1) [] := by
    have := MapL.made ((w.alloc (.cells #[.slice (some ⟨g, o, none⟩) N c, .nilIface] 60)).alloc (.map #[] 0))
    simpa using this
  have D0 : Dec (w.alloc (.cells #[.slice (some ⟨g, o, none⟩) N c, .nilIface] 60)) w.heap.size g o N c T x (some 0) := by
    refine ⟨fun p hp => ?_, (fun h => nomatch h), World.frozen?_alloc_at (w := w) _ 60 _ 0 rfl, World.frozen?_alloc_at (w := w) _ 60 _ 1 rfl⟩
    cases hp
    exact ⟨Nat.zero_le _, ⟨o, (World.cell?_alloc_at (w := w) _ 60 _ 0 rfl).trans rfl, fun _ => rfl⟩, (World.cell?_alloc_at (w := w) _ 60 _ 1 rfl).trans rfl⟩
  exact ⟨hb3, (D0.grown (alloc_grown _ _ none) (by simp)).grown (alloc_grown _ _ none) (by simp), m2, (fun i hi => nomatch hi), m1.grown (alloc_grown _ _ none) (by simp), (fun e he => nomatch he), by omega, by omega, by omega, by omega, (fun e he => nomatch he)⟩

def sz0 : Array Value := #[.int .u8 0, .int .u8 0, .int .u8 0, .int .u8 0, .int .u8 0, .int .u8 0, .int .u8 0, .int .u8 0, .slice none 0 0]
theorem sz_start (w : World) : Hole (w.alloc (.cells sz0 45)) w.heap.size 0 8 ∧ (w.alloc (.cells sz0 45)).cell? ⟨w.heap.size, 8, none⟩ = some (.slice none 0 0) ∧ (w.alloc (.cells sz0 45)).frozen? ⟨w.heap.size, 8, none⟩ = false := by
  refine ⟨fun m hm => ⟨?_, World.frozen?_alloc_at (w := w) _ 45 _ (0 + m) rfl⟩, (World.cell?_alloc_at (w := w) _ 45 _ 8 rfl).trans rfl, World.frozen?_alloc_at (w := w) _ 45 _ 8 rfl⟩
  rw [World.cell?_alloc_at (w := w) _ 45 _ (0 + m) rfl, Nat.zero_add]
  rcases m with _ | _ | _ | _ | _ | _ | _ | _ | m <;> first | rfl | omega
theorem grown_drew' (w : World) (row : Option Nat) : w.grownBy w.drew row := ⟨rfl, rfl, rfl, Nat.le_refl _, fun _ _ _ => rfl⟩
theorem SS.copied {w w' : World} {sb : Nat} {f : Nat → UInt8} {v : Value} (h8 : w.cell? ⟨sb, 8, none⟩ = some v) (hf : w.frozen? ⟨sb, 8, none⟩ = false) (hc : Cpd w w' sb 0 8 f) : SS w' sb f v :=
  ⟨hc.in_, (hc.out _ (fun _ _ => Or.inr (by simp))).trans h8, (hc.fr _).trans hf⟩

theorem Ybaf.info48b : (Ybaf.prog.info? 48).map (fun i => (i.zero.map (fun z => z.cells.size), i.size, i.bytes)) = some (some 40, 40, 40) := by kernel_rfl
theorem wp_scope {o : Oper} {a : Act} {w : World} {K : Act → World → Prop} {Q : Exit → Act → World → Prop} (m x v : Operand) (hop : o.op = Op.mapUpdate 32 m x v) (B : Nat → UInt8)
    (sm sb p : Nat) (es : List (Nat × Nat × Nat)) (hm : a.eval m = .map (some sm)) (hx : a.eval x = .string (nm B p)) (hv : a.eval v = .pointer (some ⟨sb, 0, none⟩)) (hL : MapL w sm (scs B es)) (hno : ∀ e ∈ es, nm B e.1 ≠ nm B p)
    (h : ∀ w', Hid (MapL w' sm (scs B es ++ [(.string (nm B p), .pointer (some ⟨sb, 0, none⟩))])) → Hid (w.grownBy w' (some sm)) → K (a.put o.dst undef) w') : Oper.wp Ybaf.prog o a w K Q := by
  have hsz : ∀ q, (nm B q).size ≤ maxLen := fun q => by
    have := (B q).toNat_lt
    unfold nm maxLen
    rw [str_size]
    omega
  obtain ⟨w', h1, h2, h3⟩ := run_enterL law9 Ybaf.underlying32 w hL (key9 (nm B p) (hsz p)) (fun e he => by
      obtain ⟨q, _, rfl⟩ := List.mem_map.1 he
      exact ⟨_, key9 _ (hsz q.1)⟩) (fun e he e' => by
      obtain ⟨q, hq, rfl⟩ := List.mem_map.1 he
      injection e' with e'
      exact hno q hq e') (.pointer (some ⟨sb, 0, none⟩))
  unfold Oper.wp
  simp [execOp, hop, hm, hx, hv, h1, Result.andThen]
  exact h w' (hide h2) (hide h3)
theorem find_fnd {B : Nat → UInt8} {pos n : Nat} {p : Option Addr} (h : p = none ↔ ∀ i, i < n → ∃ m, m < 8 ∧ fr B (hdr B pos + i * 40) m ≠ fr B (prim B pos) m) : fnd B pos n = p.isSome := by
  cases p with
  | none =>
    have h' := h.1 rfl
    unfold fnd
    simp only [Option.isSome_none, decide_eq_false_iff_not]
    rintro ⟨j, hj, e⟩
    obtain ⟨m, hm, hne⟩ := h' j hj
    exact hne (bl_eq (by rw [beq_iff_eq]; exact e) m hm)
  | some a =>
    have h' : ¬ ∀ i, i < n → ∃ m, m < 8 ∧ fr B (hdr B pos + i * 40) m ≠ fr B (prim B pos) m := fun hh => nomatch h.2 hh
    unfold fnd
    simp only [Option.isSome_some, decide_eq_true_eq]
    apply Classical.byContradiction
    intro hn
    apply h'
    intro i hi
    exact bl_ne (by rw [beq_eq_false_iff_ne]; exact fun e => hn ⟨i, hi, e⟩)
theorem err1 (F : Interp) (w W : World) (hW : Below w.heap.size w W) (hF : F.answers w.tape) (s : ByteArray) :
    Calls Ybaf.prog 17 #[.string { data := #[115, 99, 111, 112, 101, 32, 37, 113, 32, 105, 115, 32, 109, 105, 115, 110, 97, 109, 101, 100, 32, 111, 114, 32, 111, 117, 116, 32, 111, 102, 32, 111, 114, 100, 101, 114] }, .slice (some ⟨W.heap.size, 0, none⟩) 1 1] (W.alloc (.cells #[.iface 9 (.string s)] 20)) fun e w' => (∃ T x, e = .returned (.iface T x)) ∧ Below w.heap.size w w' := by
  have hb := hW.alloc (o := .cells #[.iface 9 (.string s)] 20) hW.size
  refine (errorf1 F s W.heap.size _ (by rw [hb.tape]; exact hF) ((World.cell?_alloc_at (w := W) _ 20 _ 0 rfl).trans rfl)).mono ?_
  rintro e w' ⟨h1, h2⟩
  exact ⟨h1, hb.trans (h2.mono hb.size)⟩
theorem err2 (F : Interp) (w W : World) (hW : Below w.heap.size w W) (hF : F.answers w.tape) (s : ByteArray) (n : Int) :
    Calls Ybaf.prog 17 #[.string { data := #[115, 99, 111, 112, 101, 32, 37, 115, 32, 104, 111, 108, 100, 115, 32, 37, 100, 32, 107, 101, 121, 115] }, .slice (some ⟨W.heap.size, 0, none⟩) 2 2] (W.alloc (.cells #[.iface 9 (.string s), .iface 52 (.int .u32 n)] 20)) fun e w' => (∃ T x, e = .returned (.iface T x)) ∧ Below w.heap.size w w' := by
  have hb := hW.alloc (o := .cells #[.iface 9 (.string s), .iface 52 (.int .u32 n)] 20) hW.size
  refine (errorf2 F s n W.heap.size _ (by rw [hb.tape]; exact hF) ((World.cell?_alloc_at (w := W) _ 20 _ 0 rfl).trans rfl) ((World.cell?_alloc_at (w := W) _ 20 _ 1 rfl).trans rfl)).mono ?_
  rintro e w' ⟨h1, h2⟩
  exact ⟨h1, hb.trans (h2.mono hb.size)⟩
theorem err3 (F : Interp) (w W : World) (hW : Below w.heap.size w W) (hF : F.answers w.tape) (f : Nat → UInt8) :
    Calls Ybaf.prog 17 #[.string { data := #[100, 97, 116, 97, 32, 107, 101, 121, 32, 37, 115, 32, 105, 115, 32, 108, 105, 115, 116, 101, 100, 32, 116, 119, 105, 99, 101] }, .slice (some ⟨W.heap.size, 0, none⟩) 1 1] (W.alloc (.cells #[.iface 40 (ar f)] 20)) fun e w' => (∃ T x, e = .returned (.iface T x)) ∧ Below w.heap.size w w' := by
  have hb := hW.alloc (o := .cells #[.iface 40 (ar f)] 20) hW.size
  refine (errorf3 F f W.heap.size _ (by rw [hb.tape]; exact hF) ((World.cell?_alloc_at (w := W) _ 20 _ 0 rfl).trans rfl)).mono ?_
  rintro e w' ⟨h1, h2⟩
  exact ⟨h1, hb.trans (h2.mono hb.size)⟩
theorem err4 (F : Interp) (w W : World) (hW : Below w.heap.size w W) (hF : F.answers w.tape) (s : ByteArray) (f : Nat → UInt8) :
    Calls Ybaf.prog 17 #[.string { data := #[115, 99, 111, 112, 101, 32, 37, 115, 58, 32, 105, 116, 115, 32, 112, 114, 105, 109, 97, 114, 121, 32, 107, 101, 121, 32, 37, 115, 32, 105, 115, 32, 109, 105, 115, 115, 105, 110, 103] }, .slice (some ⟨W.heap.size, 0, none⟩) 2 2] (W.alloc (.cells #[.iface 9 (.string s), .iface 40 (ar f)] 20)) fun e w' => (∃ T x, e = .returned (.iface T x)) ∧ Below w.heap.size w w' := by
  have hb := hW.alloc (o := .cells #[.iface 9 (.string s), .iface 40 (ar f)] 20) hW.size
  refine (errorf4 F s f W.heap.size _ (by rw [hb.tape]; exact hF) ((World.cell?_alloc_at (w := W) _ 20 _ 0 rfl).trans rfl) ((World.cell?_alloc_at (w := W) _ 20 _ 1 rfl).trans rfl)).mono ?_
  rintro e w' ⟨h1, h2⟩
  exact ⟨h1, hb.trans (h2.mono hb.size)⟩
theorem adv_some {N n p : Nat} (h : p + n ≤ N) : adv N (some p) n = some (p + n) := by rw [adv, if_pos h]
theorem adv_none {N n p : Nat} (h : ¬ p + n ≤ N) : adv N (some p) n = none := by rw [adv, if_neg h]
theorem adv_no {N n : Nat} : adv N none n = none := rfl
theorem hdr_read {B : Nat → UInt8} {N pos l : Nat} {s1 s2 s3 s4 : Option Nat} (h1 : adv N (some pos) 1 = s1) (hl : (rd B N (some pos) 1 0).toNat = l) (h2 : adv N s1 l = s2) (h3 : adv N s2 8 = s3) (h4 : adv N s3 4 = s4) :
    (s4 = none ∧ N < hdr B pos) ∨ (hdr B pos ≤ N ∧ s4 = some (hdr B pos) ∧ str (rd B N s1 l) l = nm B pos ∧ rd B N s2 8 = fr B (prim B pos) ∧ cn (rd B N s3 4) 0 = nk B pos) := by
  by_cases c1 : pos + 1 ≤ N
  · rw [adv_some c1] at h1
    have hl' : (B pos).toNat = l := by rw [← hl, rd, if_pos c1]; rfl
    subst h1
    by_cases c2 : pos + 1 + l ≤ N
    · rw [adv_some c2] at h2
      subst h2
      by_cases c3 : pos + 1 + l + 8 ≤ N
      · rw [adv_some c3] at h3
        subst h3
        by_cases c4 : pos + 1 + l + 8 + 4 ≤ N
        · rw [adv_some c4] at h4
          refine Or.inr ⟨by unfold hdr; omega, ?_, ?_, ?_, ?_⟩
          · rw [← h4]; unfold hdr; congr 1; omega
          · rw [rd, if_pos c2]; unfold nm; rw [hl']; rfl
          · rw [rd, if_pos c3]; unfold prim; rw [hl']
          · rw [rd, if_pos c4, cn_fr]; unfold nk; rw [hl', show pos + 1 + l + 8 = pos + 9 + l by omega]
        · rw [adv_none c4] at h4
          exact Or.inl ⟨h4.symm, by unfold hdr; omega⟩
      · rw [adv_none c3] at h3
        subst h3
        exact Or.inl ⟨h4.symm, by unfold hdr; omega⟩
    · rw [adv_none c2] at h2
      subst h2
      subst h3
      exact Or.inl ⟨h4.symm, by unfold hdr; omega⟩
  · rw [adv_none c1] at h1
    subst h1
    subst h2
    subst h3
    exact Or.inl ⟨h4.symm, by unfold hdr; omega⟩

set_option maxRecDepth 100000 in
set_option maxHeartbeats 8000000 in
theorem decode_f (F : Interp) (B : Nat → UInt8) (g o N c T : Nat) (x : Value) (w : World) (hN4 : 4 ≤ N) (hN : N ≤ 30000000) (hNc : N ≤ c) (hc : c ≤ 9223372036854775807) (hB : By w g o N B) (hg : g < w.heap.size) (gv : w.cell? ⟨1, 0, none⟩ = some (.iface T x)) (hF : F.answers w.tape) :
    Calls Ybaf.prog 7 #[.slice (some ⟨g, o, none⟩) N c] w (DPost B (parse B N) w) := by
  have hN' : (N : Int) ≤ 30000000 := by omega
  have hNc' : (N : Int) ≤ c := by omega
  have hc' : (c : Int) ≤ 9223372036854775807 := by omega
  have HB := hide hB
  have HV := hide gv
  have HF := hide hF
  clear hB gv hF
  obtain ⟨R, hR⟩ : ∃ R, Hid (parse B N = R) := ⟨_, hide rfl⟩
  rw [hR.out]
  obtain ⟨ct, hct⟩ : ∃ ct, Hid (cn B 0 = ct) := ⟨_, hide rfl⟩
  have DS0 := hide (DS.start B g o N c T x w)
  obtain ⟨db, hdb⟩ : ∃ db, Hid (w.heap.size = db) := ⟨_, hide rfl⟩
  have hdg : g ≠ db := by have := hdb.out; omega
  have hub := hide (fun (W : World) (st : Option Nat) (hW : Below w.heap.size w W) (D : Dec W db g o N c T x st) => uint32_u B db g o N c T x st W hNc hc hdg D (fun m hm => below_cell hW hg (HB.out m hm)) (below_cell hW (lt_of HV.out) HV.out))
  have hby := hide (fun (W : World) (st : Option Nat) (hW : Below w.heap.size w W) (D : Dec W db g o N c T x st) => byte_u B db g o N c T x st W hNc hc hdg D (fun m hm => below_cell hW hg (HB.out m hm)) (below_cell hW (lt_of HV.out) HV.out))
  have hbs := hide (fun (W : World) (st : Option Nat) (n : Nat) (hn : n ≤ 1000) (hW : Below w.heap.size w W) (D : Dec W db g o N c T x st) => bytes_u B db g o N c n T x st W hn hNc hc hdg D (fun m hm => below_cell hW hg (HB.out m hm)) (below_cell hW (lt_of HV.out) HV.out))
  have hct2 : (ct : Int) < 4294967296 := by have := cn_lt' B 0; rw [hct.out] at this; omega
  have HG : Hid (go B N ct 4 [] [] = R) := hide (by rw [← hR.out, parse, if_neg (by omega), hct.out])
  rw [hdb.out] at DS0
  go_enter Ybaf.func7, Ybaf.ntmps7
  go_wp2_with fail
  rw [hdb.out]
  generalize (((w.alloc (.cells #[Value.slice (some ⟨g, o, none⟩) N c, .nilIface] 60)).alloc (.map #[] 0)).alloc (.map #[] 0)) = wA at DS0 ⊢
  obtain ⟨sm, hsm⟩ : ∃ sm, Hid (db + 1 = sm) := ⟨_, hide rfl⟩
  rw [hsm.out] at DS0 ⊢
  obtain ⟨im, him⟩ : ∃ im, Hid (sm + 1 = im) := ⟨_, hide rfl⟩
  rw [him.out] at DS0 ⊢
  refine (hub.out wA (some 0) DS0.out.b DS0.out.D).mono ?_
  rintro e wB ⟨rfl, dB, gB⟩
  have hcv : Hid (cn (rd B N (some 0) 4) 0 = ct) := hide (by rw [rd, if_pos (by omega), cn_fr, hct.out])
  rw [hcv.out]
  have DS1 := hide (DS0.out.dec gB dB)
  have hadv : Hid (adv N (some 0) 4 = some 4) := hide (by rw [adv, if_pos (by omega)])
  rw [hadv.out] at DS1
  clear DS0 gB dB
  have hdb2 : 4 ≤ N := hN4
  go_wp2_with fail
  go_loopg [7, 18] ct (fun k v7 v18 wr => ∃ (i pos : Nat) (es : List (Nat × Nat × Nat)) (seen : List (List UInt8)) (pv : ByteArray), v7 = .string pv ∧ v18 = .int .u32 i ∧ i + k = ct ∧ pos ≤ N ∧ Hid (pv = prev B (es.map (·.1))) ∧ Hid (Asc B (es.map (·.1))) ∧ Hid (DS w wr B g o N c T x db sm im (some pos) es seen) ∧ Hid (go B N (ct - i) pos (es.map (·.1)) seen = R))
  case atStart => exact ⟨0, 4, [], [], _, rfl, rfl, by omega, hN4, hide rfl, hide List.Pairwise.nil, DS1, HG⟩
  case round =>
    clear DS1 HG
    obtain ⟨i, pos, es, seen, pv, rfl, rfl, hik, hpN, hpv, HA, DI, HG⟩ := hrel
    by_cases hlt : i < ct
    · have hlt' : (i : Int) < ct := by omega
      obtain ⟨kk, hkk⟩ : ∃ kk, ct - i = kk + 1 := ⟨ct - i - 1, by omega⟩
      rw [hkk] at HG
      go_wp2_with fail
      refine (hby.out wr (some pos) DI.out.b DI.out.D).mono ?_
      rintro e w1 ⟨rfl, d1, g1⟩
      have DA := hide (DI.out.dec g1 d1)
      obtain ⟨l, hl⟩ : ∃ l, Hid ((rd B N (some pos) 1 0).toNat = l) := ⟨_, hide rfl⟩
      obtain ⟨s1, hs1⟩ : ∃ s1, Hid (adv N (some pos) 1 = s1) := ⟨_, hide rfl⟩
      rw [hs1.out] at DA
      rw [hl.out]
      have hl8 : (l : Int) ≤ 255 := by have := (rd B N (some pos) 1 0).toNat_lt; rw [hl.out] at this; omega
      clear DI g1 d1
      go_wp2_with fail
      refine (hbs.out w1 s1 l (by omega) DA.out.b DA.out.D).mono ?_
      rintro e w2 ⟨v2, rfl, g2, q2, c2, rfl, ne2, B2, d2, gr2⟩
      have DB := hide (DA.out.dec gr2 d2)
      obtain ⟨s2, hs2⟩ : ∃ s2, Hid (adv N s1 l = s2) := ⟨_, hide rfl⟩
      rw [hs2.out] at DB
      have hstr := run_str w2 g2 q2 l c2 _ B2
      obtain ⟨nv, hnv⟩ : ∃ nv, Hid (str (rd B N s1 l) l = nv) := ⟨_, hide rfl⟩
      rw [hnv.out] at hstr
      clear DA gr2 d2 B2
      go_wp2_with fail
      obtain ⟨hz1, hz2, hz3⟩ := sz_start w2
      have HZ1 := hide hz1
      have HZ2 := hide hz2
      have HZ3 := hide hz3
      have DC : Hid (DS w (w2.alloc (.cells sz0 45)) B g o N c T x db sm im s2 es seen) := hide (DB.out.new (alloc_grown w2 _ (some w2.heap.size)) (Nat.le_refl _))
      have hod : db < w2.heap.size ∧ sm < w2.heap.size ∧ im < w2.heap.size := ⟨DB.out.D.lt, DB.out.sc.lt, DB.out.m.lt⟩
      have hol : Hid (∀ e ∈ es, e.2.1 < w2.heap.size ∧ e.2.2 < w2.heap.size) := hide (fun e he => ⟨(DB.out.ks e he).slt, (DB.out.ks e he).klt⟩)
      have ho0 := DB.out.sz
      clear hz1 hz2 hz3 hstr DB
      unfold sz0 at HZ1 HZ2 HZ3 DC
      generalize w2.alloc (.cells #[Value.int .u8 0, .int .u8 0, .int .u8 0, .int .u8 0, .int .u8 0, .int .u8 0, .int .u8 0, .int .u8 0, .slice none 0 0] 45) = w3 at HZ1 HZ2 HZ3 DC ⊢
      obtain ⟨sb, hsb⟩ : ∃ c, Hid (w2.heap.size = c) := ⟨_, hide rfl⟩
      rw [hsb.out] at HZ1 HZ2 HZ3 hod hol ho0 ⊢
      obtain ⟨hod1, hod2, hod3⟩ := hod
      obtain ⟨s3, hs3⟩ : ∃ s3, Hid (adv N s2 8 = s3) := ⟨_, hide rfl⟩
      go_cut [] from 26 to 31 (fun wx => Hid (DS w wx B g o N c T x db sm im s3 es seen) ∧ Hid (SS wx sb (rd B N s2 8) (.slice none 0 0)))
      case first =>
        have DC' : Hid (DS w w3.drew B g o N c T x db sm im s2 es seen) := hide (DC.out.new (grown_drew' w3 (some w3.heap.size)) (Nat.le_refl _))
        go_region_law (first
          | (refine step_call14 rfl (.tmp 4) (.const (.int .i64 8)) rfl (.pointer (some ⟨db, 0, none⟩)) (.int .i64 8) (by go_simp) rfl (hbs.out _ s2 8 (by omega) DC'.out.b DC'.out.D) ?_; rintro v3 w4 ⟨g3, q3, c3, rfl, ne3, B3, d3, gr3⟩; have HB3 := hide B3; have HD3 := hide d3; have HR3 := hide gr3; clear B3 d3 gr3)
          | (refine step_copy_by rfl (.tmp 29) (.tmp 30) rfl sb 0 g3 q3 8 8 c3 (rd B N s2 8) (by go_simp) (by go_simp) HB3.out (HZ1.out.grown (grown_trans (grown_drew' w3 _) HR3.out) (by simp; omega)) ?_; intro w5 hc5))
        all_goals go_wp2_with fail
        all_goals (go_meet; case rel =>
          have D4 := DC'.out.dec HR3.out HD3.out
          rw [hs3.out] at D4
          exact ⟨hide (D4.step hc5.out.gr ho0 (by omega) (by omega) (by omega) (fun e he => by have := hol.out e he; omega)), hide (SS.copied (HR3.out.cell HZ2.out (by simp; omega)) ((World.frozen?_of_block (HR3.out.block sb (lt_of (w := w3) HZ2.out) (by simp; omega))).trans HZ3.out) hc5.out)⟩)
      case rest =>
        clear DC HZ1 HZ2 HZ3
        obtain ⟨DD, SA⟩ := hcut
        obtain ⟨w6, rfl⟩ : ∃ wo : World, wo = wc := ⟨_, rfl⟩
        go_wp2_with fail
        refine (hub.out w6 s3 DD.out.b DD.out.D).mono ?_
        rintro e w7 ⟨rfl, d7, g7⟩
        have DE := hide (DD.out.dec g7 d7)
        have SB := hide (SA.out.grown g7 (by omega))
        obtain ⟨s4, hs4⟩ : ∃ s4, Hid (adv N s3 4 = s4) := ⟨_, hide rfl⟩
        rw [hs4.out] at DE
        obtain ⟨n, hn⟩ : ∃ n, Hid (cn (rd B N s3 4) 0 = n) := ⟨_, hide rfl⟩
        rw [hn.out]
        have hn2 : (n : Int) < 4294967296 := by have := cn_lt' (rd B N s3 4) 0; rw [hn.out] at this; omega
        clear DD SA d7 g7
        rcases hdr_read hs1.out hl.out hs2.out hs3.out hs4.out with ⟨rfl, hbad⟩ | ⟨hh, rfl, e1, e2, e3⟩
        · have hnn : Hid (R = none) := hide (by rw [← HG.out]; exact go_bad (bad1 hbad))
          have c1 := (DE.out.D.bad rfl).2
          go_wp2_with fail
          refine (new_f _ w7).mono ?_
          rintro e w8 ⟨⟨T8, x8, rfl⟩, hb8⟩
          have B8 := hide (DE.out.below hb8).b
          clear hb8
          go_wp2_with fail
          go_ret2
          exact ⟨B8.out, Or.inl ⟨hnn.out, _, _, rfl⟩⟩
        · rw [hnv.out] at e1
          rw [e2] at SB
          rw [hn.out] at e3
          have hnm : Hid (nv = nm B pos) := hide e1
          have hnk : Hid (n = nk B pos) := hide e3
          clear e1 e2 e3 hs1 hs2 hs3 hs4 hl hnv hn
          obtain ⟨p4, hp4⟩ : ∃ p4, Hid (hdr B pos = p4) := ⟨_, hide rfl⟩
          rw [hp4.out] at DE hh
          obtain ⟨hpn, ⟨q4, d0, hq4⟩, d1⟩ := DE.out.D.good p4 rfl
          obtain ⟨ro, hro⟩ : ∃ ro, Hid (okN nv = ro) := ⟨_, hide rfl⟩
          clear hq4
          go_wp2_with fail
          refine (valid_f nv w7).mono ?_
          rintro e w8 ⟨rfl, rfl⟩
          rw [hro.out]
          cases ro
          · have hnn : Hid (R = none) := hide (by rw [← HG.out]; exact go_bad (bad2 (by rw [← hnm.out]; exact hro.out)))
            go_wp2_with fail
            refine (err1 F w w8 DE.out.b HF.out nv).mono ?_
            rintro e w9 ⟨⟨T9, x9, rfl⟩, hb9⟩
            have B9 := hide hb9
            clear hb9
            go_wp2_with fail
            go_ret2
            exact ⟨B9.out, Or.inl ⟨hnn.out, _, _, rfl⟩⟩
          · obtain ⟨rl, hrl⟩ : ∃ rl, (Op.bytesLess nv.toList pv.toList || nv.toList == pv.toList) = rl := ⟨_, rfl⟩
            have hrl2 : Hid (strLe (nm B pos) (prev B (es.map (·.1))) = rl) := hide (by rw [← hnm.out, ← hpv.out]; exact hrl)
            cases rl
            case true =>
              have hnn : Hid (R = none) := hide (by rw [← HG.out]; exact go_bad (bad3 hrl2.out))
              go_wp2_with fail
              refine (err1 F w w8 DE.out.b HF.out nv).mono ?_
              rintro e w9 ⟨⟨T9, x9, rfl⟩, hb9⟩
              have B9 := hide hb9
              clear hb9
              go_wp2_with fail
              go_ret2
              exact ⟨B9.out, Or.inl ⟨hnn.out, _, _, rfl⟩⟩
            case false =>
              by_cases hn0 : n = 0
              · have hn0' : ((n : Int) == 0) = true := by simp; omega
                have hnn : Hid (R = none) := hide (by rw [← HG.out]; exact go_bad (bad4 (hnk.out.symm.trans hn0)))
                go_wp2_with fail
                refine (err2 F w w8 DE.out.b HF.out nv _).mono ?_
                rintro e w9 ⟨⟨T9, x9, rfl⟩, hb9⟩
                have B9 := hide hb9
                clear hb9
                go_wp2_with fail
                go_ret2
                exact ⟨B9.out, Or.inl ⟨hnn.out, _, _, rfl⟩⟩
              · have hn0' : ((n : Int) == 0) = false := by simp; omega
                by_cases hfit : N < p4 + n * 40
                · have hf' : decide ((↑(N - p4) : Int) / 40 < n) = true := by simp; omega
                  have hnn : Hid (R = none) := hide (by rw [← HG.out]; exact go_bad (bad5 (by rw [hp4.out, ← hnk.out]; exact hfit)))
                  go_wp2_with fail
                  refine (err2 F w w8 DE.out.b HF.out nv _).mono ?_
                  rintro e w9 ⟨⟨T9, x9, rfl⟩, hb9⟩
                  have B9 := hide hb9
                  clear hb9
                  go_wp2_with fail
                  go_ret2
                  exact ⟨B9.out, Or.inl ⟨hnn.out, _, _, rfl⟩⟩
                · have hf' : decide ((↑(N - p4) : Int) / 40 < n) = false := by simp; omega
                  obtain ⟨i48, z48, hi48, hz48, hzc48, hs48, hb48⟩ := info_z Ybaf.info48b
                  have k8 := SB.out.k8
                  have f8 := SB.out.fz
                  go_upto_region 16 with fail
                  apply wp_region_lit
                  iterate 2
                    refine wpList_plain rfl fun K hK => ?_
                    go_simp
                    refine hK _ _ ?_
                    clear hK K
                  refine wpList_make_full _ rfl (.tmp 66) (.tmp 66) 41 rfl w.heap.size 48 i48 z48 40 Ybaf.underlying41 hi48 hz48 hs48 .u32 .u32 n n n rfl rfl rfl rfl ?b2 ?b3 ?b4 ?_
                  case b2 => rw [hb48]; omega
                  case b3 => unfold maxLen; omega
                  case b4 => exact DE.out.sz
                  intro w9 own9 gr9
                  have ID0 : Hid (IDS w (w9.setCell ⟨sb, 8, none⟩ (.slice (some ⟨w8.heap.size, 0, none⟩) n n)) B g o N c T x db sm im es seen sb w8.heap.size pos 0) := hide (by
                    have := IDS.start (B := B) (p := pos) (by rw [hp4.out]; exact DE.out) SB.out hol.out hod1 hod2 hod3 ho0 gr9 (by rw [← hnk.out]; exact own9)
                    rw [← hnk.out] at this
                    exact this)
                  have gr9' : w8.grownBy w9 (some w8.heap.size) := ⟨gr9.os, gr9.tape, gr9.output, gr9.size, fun k hk _ => gr9.block k hk (by simp)⟩
                  have SC := SB.out.grown gr9' (by have := lt_of SB.out.k8; omega)
                  have k9 := SC.k8
                  have f9 := SC.fz
                  clear SC gr9' own9 gr9 DE SB k8 f8 d0 d1
                  obtain ⟨kb, hkb⟩ : ∃ c, Hid (w8.heap.size = c) := ⟨_, hide rfl⟩
                  rw [hkb.out] at ID0
                  rw [hkb.out]
                  go_wp2_with fail
                  clear k9 f9
                  generalize w9.setCell ⟨sb, 8, none⟩ (.slice (some ⟨kb, 0, none⟩) n n) = w10 at ID0 ⊢
                  have hgood : Hid (good B N pos (es.map (·.1)) = true) := hide (good_split (by rw [hp4.out]; exact hh) (by rw [← hnm.out]; exact hro.out) hrl2.out (by rw [← hnk.out]; exact hn0) (by rw [hp4.out, ← hnk.out]; omega))
                  go_loopg [75] n (fun k v ws => ∃ (j : Nat) (sn : List (List UInt8)), v = .int .i64 j ∧ j + k = n ∧ Hid (IDS w ws B g o N c T x db sm im es sn sb kb pos j) ∧ Hid (keys B (n - j) (hdr B pos + j * 40) sn = keys B n (hdr B pos) seen))
                  case atStart => exact ⟨0, seen, rfl, by omega, ID0, hide (by rw [Nat.zero_mul, Nat.add_zero, Nat.sub_zero])⟩
                  case round =>
                    clear ID0
                    obtain ⟨j, sn, rfl, hjk, ID, HK⟩ := hrel
                    have hn9 : (n : Int) ≤ 1000000 := by omega
                    by_cases hjn : j < n
                    · have hjn' : (j : Int) < n := by omega
                      have k8 := ID.out.ss.k8
                      rw [← hnk.out] at k8
                      obtain ⟨q, hq⟩ : ∃ q, Hid (hdr B pos + j * 40 = q) := ⟨_, hide rfl⟩
                      have hqN : q + 40 ≤ N := by have := hq.out; have := hp4.out; omega
                      go_upto_region 21 with fail
                      clear k8
                      go_cut [] from 84 to 89 (fun wx => Hid (RS w wx B g o N c T x db sm im es sn sb kb pos j))
                      case first =>
                        have ID' : Hid (Below w.heap.size w wr.drew ∧ Dec wr.drew db g o N c T x (some q)) := hide ⟨below_by ID.out.ds.b (grown_drew' wr none) (fun k e => nomatch e) ID.out.ds.sz, by have := ID.out.ds.D.grown (grown_drew' wr none) (by simp); rw [hq.out] at this; exact this⟩
                        have hrd : Hid (rd B N (some q) 8 = fr B q) := hide (by rw [rd, if_pos (by omega)])
                        have had : Hid (adv N (some q) 8 = some (q + 8)) := hide (adv_some (by omega))
                        have hbs' := hide (hbs.out wr.drew (some q) 8 (by omega) ID'.out.1 ID'.out.2)
                        rw [hrd.out, had.out] at hbs'
                        have hok := ID.out.ok
                        go_region_law (first
                          | (refine step_call14 rfl (.tmp 4) (.const (.int .i64 8)) rfl (.pointer (some ⟨db, 0, none⟩)) (.int .i64 8) (by go_simp) rfl hbs'.out ?_; rintro v3 wt ⟨g3, q3, c3, rfl, ne3, B3, d3, gr3⟩; have HB3 := hide B3; have HD3 := hide d3; have HR3 := hide gr3; clear B3 d3 gr3)
                          | (refine step_copy_by rfl (.tmp 87) (.tmp 88) rfl kb (j * 40) g3 q3 8 8 c3 (fr B q) (by go_simp) (by go_simp) HB3.out (((ID.out.ho.grown (grown_drew' wr none) (by simp)).grown HR3.out (by simp; omega)).sub (j * 40) 8 (by rw [← hnk.out]; omega)) ?_; intro wu hcu))
                        all_goals go_wp2_with fail
                        all_goals (go_meet; case rel => exact hide (ID.out.read8 (grown_trans (grown_drew' wr _) HR3.out) (by rw [hq.out]; exact HD3.out) (by rw [hq.out]; exact hcu.out)))
                      case rest =>
                        obtain ⟨wa, rfl⟩ : ∃ wo : World, wo = wc := ⟨_, rfl⟩
                        clear ID
                        have RA := hcut
                        clear hcut
                        go_wp2_with fail
                        go_cut [] from 90 to 95 (fun wx => Hid (IDS w wx B g o N c T x db sm im es sn sb kb pos (j + 1)))
                        case first =>
                          have ID' : Hid (Below w.heap.size w wa.drew ∧ Dec wa.drew db g o N c T x (some (q + 8))) := hide ⟨below_by RA.out.ds.b (grown_drew' wa none) (fun k e => nomatch e) RA.out.ds.sz, by have := RA.out.ds.D.grown (grown_drew' wa none) (by simp); rw [hq.out] at this; exact this⟩
                          have hrd : Hid (rd B N (some (q + 8)) 32 = fr B (q + 8)) := hide (by rw [rd, if_pos (by omega)])
                          have had : Hid (adv N (some (q + 8)) 32 = some (q + 8 + 32)) := hide (adv_some (by omega))
                          have hbs' := hide (hbs.out wa.drew (some (q + 8)) 32 (by omega) ID'.out.1 ID'.out.2)
                          rw [hrd.out, had.out] at hbs'
                          have hok := RA.out.ok
                          have hod' := RA.out.od
                          go_region_law (first
                            | (refine step_call14 rfl (.tmp 4) (.const (.int .i64 32)) rfl (.pointer (some ⟨db, 0, none⟩)) (.int .i64 32) (by go_simp) rfl hbs'.out ?_; rintro v3 wt ⟨g3, q3, c3, rfl, ne3, B3, d3, gr3⟩; have HB3 := hide B3; have HD3 := hide d3; have HR3 := hide gr3; clear B3 d3 gr3)
                            | (refine step_copy_by rfl (.tmp 93) (.tmp 94) rfl kb (j * 40 + 8) g3 q3 32 32 c3 (fr B (q + 8)) (by go_simp) (by go_simp) HB3.out (((RA.out.ho.grown (grown_drew' wa none) (by simp)).grown HR3.out (by simp; omega)).sub (j * 40 + 8) 32 (by rw [← hnk.out]; omega)) ?_; intro wu hcu))
                          all_goals go_wp2_with fail
                          all_goals (go_meet; case rel => exact hide (RA.out.read32 (grown_trans (grown_drew' wa _) HR3.out) (by rw [hq.out]; exact HD3.out) (by rw [hq.out]; exact hcu.out)))
                        case rest =>
                          clear RA
                          have ID2 := hcut
                          clear hcut
                          obtain ⟨wb, rfl⟩ : ∃ wo : World, wo = wc := ⟨_, rfl⟩
                          obtain ⟨r3, hr3⟩ : ∃ r3, Hid (decide (bl (fr B q) ∈ sn) = r3) := ⟨_, hide rfl⟩
                          have hnj : Hid (n - j = n - (j + 1) + 1) := hide (by omega)
                          rw [hnj.out, hq.out] at HK
                          have kcell : ∀ m, m < 8 → wb.cell? ⟨kb, j * 40 + m, none⟩ = some (.int .u8 (fr B q m).toNat) := fun m hm => by
                            have := ID2.out.ky (j * 40 + m) (by omega)
                            rw [Nat.zero_add] at this
                            rw [this]
                            unfold fr
                            rw [← hq.out, Nat.add_assoc]
                          have c0 := kcell 0 (by omega)
                          have c1 := kcell 1 (by omega)
                          have c2 := kcell 2 (by omega)
                          have c3 := kcell 3 (by omega)
                          have c4 := kcell 4 (by omega)
                          have c5 := kcell 5 (by omega)
                          have c6 := kcell 6 (by omega)
                          have c7 := kcell 7 (by omega)
                          rw [Nat.add_zero] at c0
                          clear kcell
                          go_upto_region 23 with fail
                          apply wp_region_lit
                          iterate 5
                            refine wpList_plain rfl fun K hK => ?_
                            go_simp
                            refine hK _ _ ?_
                            clear hK K
                          refine wpList_plain rfl fun K hK => ?_
                          refine wp_lookr (.tmp 96) (.tmp 100) rfl im (fr B q) sn rfl rfl ID2.out.ds.m ID2.out.ds.s8 r3 hr3 ?_
                          go_simp
                          refine hK _ _ ?_
                          clear hK K
                          cases r3
                          case true =>
                            have hnn : Hid (R = none) := hide (by rw [← HG.out]; exact go_dup (by rw [← hnk.out, ← HK.out]; exact keys_dup (of_decide_eq_true hr3.out)))
                            go_wp2_with fail
                            refine (err3 F w wb ID2.out.ds.b HF.out (fr B q)).mono ?_
                            rintro e w9 ⟨⟨T9, x9, rfl⟩, hb9⟩
                            have B9 := hide hb9
                            clear hb9
                            go_wp2_with fail
                            go_ret2
                            exact ⟨B9.out, Or.inl ⟨hnn.out, _, _, rfl⟩⟩
                          case false =>
                            go_upto_region 25 with fail
                            apply wp_region_lit
                            iterate 5
                              refine wpList_plain rfl fun K hK => ?_
                              go_simp
                              refine hK _ _ ?_
                              clear hK K
                            refine wpList_plain rfl fun K hK => ?_
                            refine wp_enterr (.tmp 109) (.tmp 113) rfl im (fr B q) sn rfl rfl ID2.out.ds.m ID2.out.ds.s8 hr3 ?_
                            intro we hm hge
                            go_simp
                            refine hK _ _ ?_
                            clear hK K
                            have ID3 := hide (ID2.out.enter hge.out hm.out)
                            clear hm hge ID2 c0 c1 c2 c3 c4 c5 c6 c7
                            go_wp2_with fail
                            go_roundg (n - j - 1)
                            case measure => omega
                            case rel =>
                              refine ⟨j + 1, sn ++ [idl B q], by go_num, by omega, ID3, hide ?_⟩
                              rw [← HK.out, keys_next (of_decide_eq_false hr3.out), show hdr B pos + (j + 1) * 40 = q + 40 by have := hq.out; omega]
                    · have hjn' : ¬ (j : Int) < n := by omega
                      obtain rfl : j = n := by omega
                      obtain rfl := hnm.out
                      have hks : Hid (keys B (nk B pos) (hdr B pos) seen = some sn) := hide (by rw [← hnk.out, ← HK.out, Nat.sub_self]; rfl)
                      have k8 := ID.out.ss.k8
                      rw [← hnk.out] at k8
                      have hfd := hide (find_f sb kb j j (fr B (prim B pos)) (fun i => fr B (hdr B pos + i * 40)) wr (by omega) k8 (fun i hi m hm => by
                        have := ID.out.ky (i * 40 + m) (by omega)
                        rw [Nat.zero_add] at this
                        rw [this]
                        unfold fr
                        rw [Nat.add_assoc]))
                      have p0 := ID.out.ss.pr 0 (by omega)
                      have p1 := ID.out.ss.pr 1 (by omega)
                      have p2 := ID.out.ss.pr 2 (by omega)
                      have p3 := ID.out.ss.pr 3 (by omega)
                      have p4x := ID.out.ss.pr 4 (by omega)
                      have p5 := ID.out.ss.pr 5 (by omega)
                      have p6 := ID.out.ss.pr 6 (by omega)
                      have p7 := ID.out.ss.pr 7 (by omega)
                      simp only [Nat.zero_add] at p0 p1 p2 p3 p4x p5 p6 p7
                      go_wp2_with fail
                      refine hfd.out.mono ?_
                      rintro e w11 ⟨pf, rfl, hpf, hb11⟩
                      have hff := hide (find_fnd hpf)
                      have ID5 := hide (ID.out.below hb11 (by rw [← hnk.out]; omega))
                      clear hpf hb11 p0 p1 p2 p3 p4x p5 p6 p7 k8 hfd ID
                      cases pf with
                      | none =>
                        have p0 := ID5.out.ss.pr 0 (by omega)
                        have p1 := ID5.out.ss.pr 1 (by omega)
                        have p2 := ID5.out.ss.pr 2 (by omega)
                        have p3 := ID5.out.ss.pr 3 (by omega)
                        have p4x := ID5.out.ss.pr 4 (by omega)
                        have p5 := ID5.out.ss.pr 5 (by omega)
                        have p6 := ID5.out.ss.pr 6 (by omega)
                        have p7 := ID5.out.ss.pr 7 (by omega)
                        simp only [Nat.zero_add] at p0 p1 p2 p3 p4x p5 p6 p7
                        have hnn : Hid (R = none) := hide (by rw [← HG.out]; exact go_unf (by rw [← hnk.out]; exact hff.out))
                        go_wp2_with fail
                        refine (err4 F w w11 ID5.out.ds.b HF.out (nm B pos) (fr B (prim B pos))).mono ?_
                        rintro e w9 ⟨⟨T9, x9, rfl⟩, hb9⟩
                        have B9 := hide hb9
                        clear hb9
                        go_wp2_with fail
                        go_ret2
                        exact ⟨B9.out, Or.inl ⟨hnn.out, _, _, rfl⟩⟩
                      | some pa =>
                        go_upto_region 29 with fail
                        apply wp_region_lit
                        iterate 3
                          refine wpList_plain rfl fun K hK => ?_
                          go_simp
                          refine hK _ _ ?_
                          clear hK K
                        refine wpList_plain rfl fun K hK => ?_
                        have hasc : Hid (Asc B ((es.map (·.1)) ++ [pos])) := hide (asc_add HA.out hrl2.out)
                        refine wp_scope (.tmp 131) (.tmp 132) (.tmp 133) rfl B sm sb pos es rfl rfl rfl ID5.out.ds.sc (fun e he => by
                          have := asc_ne hasc.out
                          rw [List.pairwise_append] at this
                          exact this.2.2 e.1 (List.mem_map.2 ⟨e, he, rfl⟩) pos (by simp)) ?_
                        intro we hm hge
                        go_simp
                        refine hK _ _ ?_
                        clear hK K
                        have DN := hide (DS.add (p := pos) (sb := sb) (kb := kb) ID5.out.ds (IDS.scp (by rw [← hnk.out]; exact ID5.out) (by rw [← hnk.out]; omega)) (by have := ID5.out.od; have := ID5.out.ok; omega) hge.out hm.out)
                        clear hm hge ID5
                        go_wp2_with fail
                        go_roundg (ct - i - 1)
                        case measure => omega
                        case rel =>
                          refine ⟨i + 1, hdr B pos + j * 40, es ++ [(pos, sb, kb)], sn, _, rfl, by go_num, by omega, by have := hp4.out; omega, hide ?_, hide ?_, DN, hide ?_⟩
                          · simp [prev]
                          · rw [List.map_append]; exact hasc.out
                          · rw [← HG.out, go_next hgood.out hks.out (by rw [← hnk.out]; exact hff.out), List.map_append, ← hnk.out, show ct - (i + 1) = kk by omega]
                            rfl
    · have hlt' : ¬ (i : Int) < ct := by omega
      obtain rfl : i = ct := by omega
      rw [Nat.sub_self, go] at HG
      obtain ⟨hpn, ⟨q4, d0, hq4⟩, d1⟩ := DI.out.D.good pos rfl
      clear hq4
      by_cases hpe : pos = N
      · rw [if_pos hpe] at HG
        obtain ⟨rm, hrm⟩ : ∃ rm, Hid (N - pos = rm) := ⟨_, hide rfl⟩
        rw [hrm.out] at d0
        obtain rfl : rm = 0 := by rw [← hrm.out]; omega
        go_wp2_with fail
        go_ret2
        exact ⟨DI.out.b, Or.inr ⟨sm, es, HG.out.symm, rfl, DI.out.sc, DI.out.ks⟩⟩
      · rw [if_neg hpe] at HG
        obtain ⟨rm, hrm⟩ : ∃ rm, Hid (N - pos = rm) := ⟨_, hide rfl⟩
        rw [hrm.out] at d0
        have hrm0 : ((rm : Int) != 0) = true := by have := hrm.out; simp; omega
        go_wp2_with fail
        refine (new_f _ wr).mono ?_
        rintro e w8 ⟨⟨T8, x8, rfl⟩, hb8⟩
        have B8 := hide (DI.out.below hb8).b
        clear hb8
        go_wp2_with fail
        go_ret2
        exact ⟨B8.out, Or.inl ⟨HG.out.symm, _, _, rfl⟩⟩
end Go.Proofs.YbulkdznmFmt.A
