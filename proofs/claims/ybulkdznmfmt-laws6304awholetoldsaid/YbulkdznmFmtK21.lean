/- 6304A: the law answers true. -/
import Derived.Test.YbulkdznmFmtK20c
import Derived.Test.YbulkdznmFmtK19
namespace Go.Proofs.YbulkdznmFmt.A
open Go.RowKit Go.Extern.Stop Go.Stop

theorem run_eqmap (W : World) (a : Option Nat) : (binOp .eql 32 (.map a) (.map none)).run Ybaf.prog W = .ok (.bool a.isNone) W := by
  simp [binOp, Op.equal]
  cases a <;> rfl
def LPost (w : World) (e : Ending) (w' : World) : Prop := e = .returned (.bool true) ∧ Below w.heap.size w w'

set_option maxRecDepth 100000 in
set_option maxHeartbeats 8000000 in
theorem law_f (F : Interp) (sa : Option Addr) (S sc : Nat) (P1 P2 : Nat → UInt8) (ka : Nat → Option Addr) (kl kc : Nat → Nat) (K : Nat → Nat → UInt8) (mo aj fv : UInt8) (cu fl : Nat) (xa : Option Addr) (X xc : Nat) (XB : Nat → UInt8) (T : Nat) (x : Value) (w : World)
    (hs : Spec w sa S P1 P2 ka kl kc K) (hkl : ∀ i, i < S → kl i ≤ 140737488355328) (hcu : cu ≤ 65535) (hfl : fl ≤ 65535) (hnil : xa = none → X = 0 ∧ xc = 0) (hpos : 0 < X → ∃ g o, xa = some ⟨g, o, none⟩ ∧ By w g o X XB) (hSm : S ≤ 9223372036854775807) (hXm : X ≤ 9223372036854775807)
    (gv : w.cell? ⟨1, 0, none⟩ = some (.iface T x)) (hF : F.answers w.tape) :
    Calls Ybaf.prog 3 #[.slice sa S sc, .int .u8 mo.toNat, .int .u8 aj.toNat, .int .u16 cu, .int .u16 fl, .int .u8 fv.toNat, .slice xa X xc] w (LPost w) := by
  have HS := hide hs
  have HKL := hide hkl
  have HNIL := hide hnil
  have HPOS := hide hpos
  have HV := hide gv
  have HF := hide hF
  clear hs hkl hnil hpos gv hF
  have hcu' : (cu : Int) ≤ 65535 := by omega
  have hfl' : (fl : Int) ≤ 65535 := by omega
  have hSm' : (S : Int) ≤ 9223372036854775807 := by omega
  have hXm' : (X : Int) ≤ 9223372036854775807 := by omega
  obtain ⟨mv, hmv⟩ : ∃ mv, Hid (mo.toNat = mv) := ⟨_, hide rfl⟩
  obtain ⟨av, hav⟩ : ∃ av, Hid (aj.toNat = av) := ⟨_, hide rfl⟩
  obtain ⟨fz, hfz⟩ : ∃ fz, Hid (fv.toNat = fz) := ⟨_, hide rfl⟩
  have hmv2 : (mv : Int) ≤ 255 := by have := mo.toNat_lt; rw [hmv.out] at this; omega
  have hfz2 : (fz : Int) ≤ 255 := by have := fv.toNat_lt; rw [hfz.out] at this; omega
  rw [hmv.out, hav.out, hfz.out]
  by_cases hS : S ≤ 4096
  · by_cases hX : X ≤ 65536
    · have hS' : (S : Int) ≤ 4096 := by omega
      have hX' : (X : Int) ≤ 65536 := by omega
      have t1 : decide ((4096 : Int) < S) = false := by simp; omega
      have t2 : decide ((65536 : Int) < X) = false := by simp; omega
      have t1' : decide (4096 < S) = false := by simp; omega
      have t2' : decide (65536 < X) = false := by simp; omega
      go_enter Ybaf.func3, Ybaf.ntmps3
      go_wp2_with fail
      go_loopg [15, 37] S (fun k v15 v37 wr => ∃ (i tot : Nat), v15 = .int .i64 tot ∧ v37 = .int .i64 i ∧ i + k = S ∧ Hid (tot = sums kl i) ∧ Hid (wr = w))
      case atStart => exact ⟨0, 0, rfl, rfl, by omega, hide rfl, hide rfl⟩
      case round =>
        obtain ⟨i, tot, rfl, rfl, hik, htot, hw⟩ := hrel
        rw [hw.out]
        clear hw
        have hb := sums_le kl S HKL.out i (by omega)
        rw [← htot.out] at hb
        have hb2 : (tot : Int) ≤ 576460752303423488 := by omega
        by_cases hlt : i < S
        · have hlt' : (i : Int) < S := by omega
          obtain ⟨sg, so, rfl, hsg, hsc⟩ := HS.out.c (by omega)
          obtain ⟨_, _, c3⟩ := hsc i hlt
          have hk := HKL.out i hlt
          obtain ⟨m, hm⟩ : ∃ m, Hid (kl i = m) := ⟨_, hide rfl⟩
          rw [hm.out] at c3 hk
          have hk' : (m : Int) ≤ 140737488355328 := by omega
          clear hsc hb
          obtain ⟨t2n, ht2n⟩ : ∃ t2n : Nat, (tot : Int) + m = t2n := ⟨tot + m, by omega⟩
          go_wp2_with fail
          go_roundg (S - i - 1)
          case measure => omega
          case rel => exact ⟨i + 1, t2n, rfl, by go_num, by omega, hide (by simp only [sums]; rw [hm.out, ← htot.out]; omega), hide rfl⟩
        · have hlt' : ¬ (i : Int) < S := by omega
          obtain rfl : i = S := by omega
          by_cases htt : tot ≤ 65536
          · have t3 : decide ((65536 : Int) < tot) = false := by simp; omega
            have t3' : decide (65536 < tot) = false := by simp; omega
            clear hb
            have HSM : Hid (∀ j, j ≤ i → sums kl j ≤ 65536) := hide (fun j hj => by
              have := sums_mono kl j (i - j)
              rw [show j + (i - j) = i by omega, ← htot.out] at this
              omega)
            obtain ⟨r1, hr1⟩ : ∃ r1, (bits .and .u8 (mv : Int) 32 != 0) = r1 := ⟨_, rfl⟩
            go_upto_if 53 with fail
            clear hr1
            go_cut [17] from 54 to 77 (fun v wx => ∃ n, n ≤ 3100000 ∧ Hid (BR wx w.heap.size v n) ∧ Hid (Below w.heap.size w wx))
            case first =>
              cases r1
              · go_wp2_with fail
                have hbf := build_f sa i sc P1 P2 ka kl kc K mo aj (sums kl) w hS HS.out rfl (fun _ _ => rfl) HSM.out
                rw [hmv.out, hav.out] at hbf
                refine hbf.mono ?_
                rintro e w1 ⟨v1, n1, rfl, r1', n4, n3, b1⟩
                have R1 := hide r1'
                have B1 := hide b1
                clear hbf r1' b1
                obtain ⟨g1, c1, rfl, hc1, hc1', hg1⟩ := R1.out.at (by omega)
                obtain ⟨r2, hr2⟩ : ∃ r2, (bits .and .u8 (mv : Int) 8 != 0) = r2 := ⟨_, rfl⟩
                cases r2
                · go_wp2_with fail
                  all_goals (go_meet; case rel => exact ⟨n1, by omega, R1, B1⟩)
                · obtain ⟨c0, hc0⟩ : ∃ c0 : Nat, (cu : Int) % ((n1 : Int) + 1) = c0 := ⟨cu % (n1 + 1), by push_cast; rfl⟩
                  have hc0b : c0 ≤ n1 := by
                    have : (cu : Int) % ((n1 : Int) + 1) < (n1 : Int) + 1 := Int.emod_lt_of_pos _ (by omega)
                    omega
                  obtain ⟨n2, hn2⟩ : ∃ n2 : Nat, (n1 : Int) - c0 = n2 := ⟨n1 - c0, by omega⟩
                  have hc1i : (n1 : Int) ≤ c1 := by omega
                  have hc1i' : (c1 : Int) ≤ 9223372036854775807 := by omega
                  have hn1i : (n1 : Int) ≤ 3000000 := by omega
                  have hn2b : (n2 : Int) ≤ n1 := by omega
                  go_upto_region 18 with fail
                  have R2 := hide (R1.out.cut (n1 := n2) (by omega))
                  apply wp_region_lit
                  iterate 2
                    refine wpList_plain rfl fun K hK => ?_
                    go_simp
                    refine hK _ _ ?_
                    clear hK K
                  refine wpList_appX rfl (.tmp 75) (.tmp 76) rfl w.heap.size n2 X xc xa XB (.slice (some ⟨g1, 0, none⟩) n2 c1) rfl rfl HNIL.out ?hp R2.out (by omega) B1.out.size ?_
                  case hp =>
                    intro h0
                    obtain ⟨g, o, e, hB⟩ := HPOS.out h0
                    exact ⟨g, o, e, fun m hm => below_cell B1.out (lt_of (hB m hm)) (hB m hm)⟩
                  intro v3 w3 k1 k2
                  have B3 := hide (below_by B1.out k2.out (fun k e => by simp [Value.ownBlock] at e; omega) B1.out.size)
                  clear k2
                  go_wp2_with fail
                  all_goals (go_meet; case rel => exact ⟨_, by omega, k1, B3⟩)
              · go_wp2_with fail
                refine (clone_f xa X xc XB w (by omega) HPOS.out).mono ?_
                rintro e w1 ⟨v1, rfl, ⟨xs, h1, h2, _⟩, b1⟩
                have R1 : Hid (BR w1 w.heap.size v1 X) := hide ⟨xs, h1, h2⟩
                have B1 := hide b1
                clear h1 h2 b1
                go_wp2_with fail
                all_goals (go_meet; case rel => exact ⟨X, by omega, R1, B1⟩)
            case rest =>
              obtain ⟨n, hn, HR, HW⟩ := hcut
              obtain ⟨w1, rfl⟩ : ∃ wo : World, wo = wc := ⟨_, rfl⟩
              obtain ⟨a7, c7, f7, rfl, hnc7, hcm7, _⟩ := HR.out.reads
              obtain ⟨r3, hr3⟩ : ∃ r3, (bits .and .u8 (mv : Int) 16 != 0) = r3 := ⟨_, rfl⟩
              have hn' : (n : Int) ≤ 3100000 := by omega
              go_upto_region 19 with fail
              go_cut [85] from 78 to 85 (fun v wx => ∃ r, v = .bool r ∧ Hid (r = true → 0 < n) ∧ Hid (wx = w1))
              case first =>
                by_cases hj0 : 0 < n
                · have hj0' : decide (0 < n) = true := by simp; omega
                  go_wp2_with fail
                  all_goals (go_meet; case rel => exact ⟨_, rfl, hide (fun _ => hj0), hide rfl⟩)
                · have hj0' : decide (0 < n) = false := by simp; omega
                  go_wp2_with fail
                  all_goals (go_meet; case rel => exact ⟨false, by first | rfl | simp, hide (fun h => nomatch h), hide rfl⟩)
              case rest =>
                obtain ⟨rb, rfl, hrb, hw⟩ := hcut
                rw [hw.out]
                clear hw hr3
                go_upto_if 85 with fail
                go_cut [] from 86 to 96 (fun wx => Hid (BR wx w.heap.size (.slice a7 n c7) n) ∧ Hid (Below w.heap.size w wx))
                case first =>
                  cases rb
                  · go_wp2_with fail
                    all_goals (go_meet; case rel => exact ⟨HR, HW⟩)
                  · have hn0 := hrb.out rfl
                    obtain ⟨g7, c7', e7, _, _, hg7⟩ := HR.out.at hn0
                    cases e7
                    obtain ⟨k0, hk0⟩ : ∃ k0 : Nat, (fl : Int) % (n : Int) = k0 := ⟨fl % n, by push_cast; rfl⟩
                    have hk0b : (k0 : Int) < n := by rw [← hk0]; exact Int.emod_lt_of_pos _ (by omega)
                    obtain ⟨⟨b0, hb0⟩, hf0⟩ := HR.out.byte (k := k0) (by omega)
                    obtain ⟨bz, hbz⟩ : ∃ bz, Hid (b0.toNat = bz) := ⟨_, hide rfl⟩
                    rw [hbz.out] at hb0
                    go_wp2_with fail
                    all_goals (go_meet; case rel => exact ⟨hide (HR.out.put (bits8 _ _ _)), hide (below_by HW.out (grown_setCell w1 g7 k0 _) (fun k e => by cases e; exact hg7) HW.out.size)⟩)
                case rest =>
                  clear HR HW
                  obtain ⟨HR, HW⟩ := hcut
                  obtain ⟨w2, rfl⟩ : ∃ wo : World, wo = wc := ⟨_, rfl⟩
                  obtain ⟨a8, c8, f, e8, _, _, hp8⟩ := HR.out.reads
                  cases e8
                  have hcm8 : c7 ≤ 9223372036854775807 := by unfold maxLen at hcm7; omega
                  have HP8 : Hid (0 < n → ∃ g, a7 = some ⟨g, 0, none⟩ ∧ By w2 g 0 n f) := hide (fun h => by obtain ⟨g, e, _, hB, _⟩ := hp8 h; exact ⟨g, e, hB⟩)
                  clear hp8 HR
                  have HP9 : Hid (∀ W, Below w2.heap.size w2 W → 0 < n → ∃ g, a7 = some ⟨g, 0, none⟩ ∧ By W g 0 n f) := hide (fun W hW h0 => by
                    obtain ⟨g, e, hB⟩ := HP8.out h0
                    exact ⟨g, e, hB.below hW⟩)
                  obtain ⟨R, hR⟩ : ∃ R, Hid (parse f n = R) := ⟨_, hide rfl⟩
                  go_wp2_with fail
                  refine (model_any a7 n c7 f w2 (by omega) hnc7 hcm8 HP8.out).mono ?_
                  rintro e w3 ⟨vm, rm, rfl, b3, hf3, ht3⟩
                  have B3 := hide b3
                  have HF3 := hide hf3
                  have HT3 := hide ht3
                  rw [hR.out] at HF3 HT3
                  clear b3 hf3 ht3
                  go_wp2_with fail
                  refine (clone_f a7 n c7 f w3 (by omega) (fun h0 => by obtain ⟨g, e, hB⟩ := HP9.out w3 B3.out h0; exact ⟨g, 0, e, hB⟩)).mono ?_
                  rintro e w4 ⟨v4, rfl, ⟨xs, own4, hb4, hx4⟩, b4⟩
                  have hv4 : ∃ a4 c4, v4 = .slice a4 n c4 ∧ (0 < n → ∃ g o, a4 = some ⟨g, o, none⟩ ∧ By w4 g o n f) := by
                    rcases own4.2 with ⟨rfl, rfl⟩ | ⟨g, cap, cur, rfl, _⟩
                    · exact ⟨none, 0, rfl, fun h => absurd h (by omega)⟩
                    · refine ⟨_, cap, rfl, fun h0 => ⟨g, 0, rfl, fun m hm => ?_⟩⟩
                      have hx := hx4 h0
                      subst hx
                      rw [Nat.zero_add, own4.cellAt m (by omega), cl_get _ _ _ hm]
                  obtain ⟨a4, c4, rfl, hp4⟩ := hv4
                  have HP4 := hide hp4
                  have B4 := hide (B3.out.trans (b4.mono B3.out.size))
                  have B34 := hide b4
                  clear own4 hb4 hx4 b4 hp4
                  go_wp2_with fail
                  have W24 := hide (HW.out.trans (B4.out.mono HW.out.size))
                  refine (decode_any F a7 n c7 T x f w4 (by omega) hnc7 hcm8 (HP9.out w4 B4.out) (below_cell W24.out (lt_of HV.out) HV.out) (by rw [W24.out.tape]; exact HF.out)).mono ?_
                  rintro e w5 ⟨b5, hd5⟩
                  have B5 := hide b5
                  have HD5 := hide hd5
                  rw [hR.out] at HD5
                  clear b5 hd5
                  have key : ∃ gm er, e = .returned (.tuple #[gm, er]) := by
                    rcases HD5.out with ⟨_, T5, x5, rfl⟩ | ⟨sm, ds, _, rfl, _⟩
                    · exact ⟨_, _, rfl⟩
                    · exact ⟨_, _, rfl⟩
                  obtain ⟨gm, er, rfl⟩ := key
                  go_wp2_with fail
                  refine (equal_f a7 a4 n c7 c4 f w5 (by omega) (fun h0 => by obtain ⟨g, e, hB⟩ := HP9.out w5 (B4.out.trans (B5.out.mono B4.out.size)) h0; exact ⟨g, 0, e, hB⟩) (fun h0 => by obtain ⟨g, o, e, hB⟩ := HP4.out h0; exact ⟨g, o, e, hB.below B5.out⟩)).mono ?_
                  rintro e w6 ⟨rfl, b6⟩
                  have B6 := hide b6
                  clear b6
                  have W26 := hide (W24.out.trans ((B5.out.mono W24.out.size).trans (B6.out.mono (Nat.le_trans W24.out.size B5.out.size))))
                  cases rm
                  · rcases HD5.out with ⟨hRn, T5, x5, e5⟩ | ⟨sm, ds, hRs, _⟩
                    · simp only [Ending.returned.injEq, Value.tuple.injEq] at e5
                      obtain ⟨rfl, rfl⟩ : gm = .map none ∧ er = .iface T5 x5 := by simpa using e5
                      have heqm := fun W => run_eqmap W none
                      go_wp2_with fail
                      go_ret
                      exact ⟨rfl, W26.out⟩
                    · exact absurd (HF3.out rfl) (by rw [hRs]; simp)
                  · obtain ⟨mb, es, seen, hRs, hMS⟩ := HT3.out rfl
                    rcases HD5.out with ⟨hRn, _⟩ | ⟨sm, ds, hRs', e5, hML, hSC⟩
                    · exact absurd hRs (by rw [hRn]; simp)
                    · obtain ⟨rfl, rfl⟩ : gm = .map (some sm) ∧ er = .nilIface := by simpa using e5
                      have hlen : es.length = ds.length := by
                        rw [hRs'] at hRs
                        have := congrArg List.length (Option.some.inj hRs)
                        simpa using this.symm
                      have hB36 : Below w3.heap.size w3 w6 := B34.out.trans ((B5.out.mono B34.out.size).trans (B6.out.mono (Nat.le_trans B34.out.size B5.out.size)))
                      have MS6 := hide (hMS.new (below_grown hB36 (some w3.heap.size)) (Nat.le_refl _))
                      have ML6 := hide (hML.below B6.out)
                      have SC6 : Hid (∀ s ∈ ds, Scp w6 f s) := hide (fun s hs => (hSC s hs).grown (below_grown B6.out (some w5.heap.size)) (by have := (hSC s hs).slt; omega) (by have := (hSC s hs).klt; omega))
                      have HPS : Hid (ds.map (·.1) = es.map (·.1)) := hide (by rw [hRs'] at hRs; exact Option.some.inj hRs)
                      have HAS : Hid (ds.Pairwise (fun p q => nm f p.1 ≠ nm f q.1)) := hide (asc_pairs (by
                        have hg : go f n (cn f 0) 4 [] [] = some (ds.map (·.1)) := by
                          have := hR.out
                          unfold parse at this
                          split at this
                          · rw [← this] at hRs'; cases hRs'
                          · rw [this, hRs']
                        exact go_asc _ _ _ _ List.Pairwise.nil hg))
                      have hel : es.length ≤ 9223372036854775807 := by
                        rcases MS6.out.own.2 with ⟨_, h0⟩ | ⟨g, cap, cur, _, _, _, h1, h2, _⟩
                        · omega
                        · unfold maxLen at h2; omega
                      obtain ⟨ents, ck, hh, hent⟩ := ML6.out
                      have hesz : ents.size = es.length := by rw [hlen]; have := congrArg List.length hent; simpa [scs] using this
                      have hgo := MapKept.run_getObj_map (P := Ybaf.prog) hh
                      obtain ⟨ne, hne⟩ : ∃ ne, Hid (es.length = ne) := ⟨_, hide rfl⟩
                      rw [hne.out] at hesz
                      obtain ⟨am, cm, rfl⟩ : ∃ am cm, vm = .slice am ne cm := by
                        rcases MS6.out.own.2 with ⟨rfl, h0⟩ | ⟨g, cap, cur, rfl, _⟩
                        · exact ⟨none, 0, by rw [← hne.out, h0]⟩
                        · exact ⟨_, _, by rw [hne.out]⟩
                      have heqm := fun W => run_eqmap W (some sm)
                      have hlm := fun ty => run_lenL (ty := ty) Ybaf.underlying32 w6 ML6.out
                      have hsl : (scs f ds).length = ne := by simp [scs]; rw [← hlen, hne.out]
                      rw [hsl] at hlm
                      rw [hne.out] at hel
                      have hel' : (ne : Int) ≤ 9223372036854775807 := by omega
                      have hnne : ((ne : Int) != ne) = false := by simp
                      clear hMS hML hSC hent hRs hRs' e5 hlen hB36
                      go_wp2_with fail
                      clear heqm hlm hgo hnne hh
                      go_loopg [136] ne (fun k v ws => ∃ (t : Nat), v = .int .i64 t ∧ t + k = ne ∧ Hid (∃ q, ws = w6.drewN q))
                      case atStart => exact ⟨0, rfl, by omega, hide ⟨0, rfl⟩⟩
                      case round =>
                        obtain ⟨t, rfl, htk, hw⟩ := hrel
                        obtain ⟨q, hq⟩ := hw.out
                        rw [hq]
                        clear hw
                        by_cases htn : t < ne
                        · have htn' : (t : Int) < ne := by omega
                          obtain ⟨⟨p, kb⟩, hes⟩ : ∃ e, es[t]? = some e := ⟨es[t]'(by rw [hne.out]; exact htn), List.getElem?_eq_getElem _⟩
                          obtain ⟨sb, kb', hds⟩ : ∃ sb kb', ds[t]? = some (p, sb, kb') := by
                            have h1 : (ds.map (·.1))[t]? = some p := by rw [HPS.out, List.getElem?_map, hes]; rfl
                            rw [List.getElem?_map] at h1
                            obtain ⟨d, hd, e⟩ := Option.map_eq_some_iff.1 h1
                            obtain ⟨d1, d2, d3⟩ := d
                            cases e
                            exact ⟨d2, d3, hd⟩
                          have hdm : (p, sb, kb') ∈ ds := List.mem_of_getElem? hds
                          have hem : (p, kb) ∈ es := List.mem_of_getElem? hes
                          obtain ⟨gb, rfl⟩ : ∃ gb, am = some ⟨gb, 0, none⟩ := by
                            rcases MS6.out.own.2 with ⟨_, h0⟩ | ⟨g, cap, cur, e, _⟩
                            · rw [hne.out] at h0; omega
                            · cases e; exact ⟨g, rfl⟩
                          have hgc : ∀ k, k < 10 → w6.cell? ⟨gb, t * 10 + k, none⟩ = (entc f p kb)[k]? := fun k hk => by
                            have ho := MS6.out.own
                            rw [hne.out] at ho
                            rw [ho.cellAt (t * 10 + k) (by omega)]
                            exact flat_get f es t p kb k hes hk
                          have hsp := SC6.out _ hdm
                          obtain ⟨nkp, hnkp⟩ : ∃ nkp, Hid (nk f p = nkp) := ⟨_, hide rfl⟩
                          have hnkb : (nkp : Int) < 4294967296 := by
                            have h1 := cn_lt f (p + 9 + (f p).toNat)
                            have h2 := hnkp.out
                            unfold nk at h2
                            omega
                          have hky1 := hsp.ky
                          have hky2 := (MS6.out.ks _ hem).1
                          have hk8 := hsp.k8
                          obtain ⟨pf, hpf⟩ : ∃ pf : Nat → UInt8, Hid (fr f (prim f p) = pf) := ⟨_, hide rfl⟩
                          have hspp := hsp.pr
                          dsimp only at hky1 hky2 hk8 hspp
                          rw [hnkp.out] at hky1 hky2 hk8
                          rw [hpf.out] at hspp
                          have HK1 := hide hky1
                          have HK2 := hide hky2
                          have g0 : w6.cell? ⟨gb, t * 10, none⟩ = some (.string (nm f p)) := by have := hgc 0 (by omega); rw [Nat.add_zero] at this; rw [this]; rfl
                          have g9 : w6.cell? ⟨gb, t * 10 + 9, none⟩ = some (.slice (some ⟨kb, 0, none⟩) nkp nkp) := by rw [hgc 9 (by omega), ← hnkp.out]; simp [entc]
                          have gby : ∀ k, k < 8 → w6.cell? ⟨gb, t * 10 + (k + 1), none⟩ = some (.int .u8 (pf k).toNat) := fun k hk => by
                            rw [hgc (k + 1) (by omega), ← hpf.out]
                            have : (entc f p kb)[k + 1]? = (cl (fr f (prim f p)) 8)[k]? := by simp only [entc, List.getElem?_cons_succ]; rw [List.getElem?_append_left (by simpa using hk)]
                            rw [this, cl_get _ _ _ hk]
                          have s0 := hspp 0 (by omega)
                          have s1 := hspp 1 (by omega)
                          have s2 := hspp 2 (by omega)
                          have s3 := hspp 3 (by omega)
                          have s4 := hspp 4 (by omega)
                          have s5 := hspp 5 (by omega)
                          have s6 := hspp 6 (by omega)
                          have s7 := hspp 7 (by omega)
                          have g1 := gby 0 (by omega)
                          have g2 := gby 1 (by omega)
                          have g3 := gby 2 (by omega)
                          have g4 := gby 3 (by omega)
                          have g5 := gby 4 (by omega)
                          have g6 := gby 5 (by omega)
                          have g7 := gby 6 (by omega)
                          have g8 := gby 7 (by omega)
                          simp only [Nat.zero_add, Nat.reduceAdd] at s0 s1 s2 s3 s4 s5 s6 s7 g1 g2 g3 g4 g5 g6 g7 g8
                          clear hgc hsp hky1 hky2 gby hspp
                          obtain ⟨nmp, hnmp⟩ : ∃ nmp, Hid (nm f p = nmp) := ⟨_, hide rfl⟩
                          rw [hnmp.out] at g0
                          go_upto_region 33 with fail
                          apply wp_region_lit
                          iterate 6
                            refine wpList_plain rfl fun K hK => ?_
                            go_simp
                            refine hK _ _ ?_
                            clear hK K
                          refine wpList_plain rfl fun K hK => ?_
                          refine wp_lookS (.tmp 139) (.tmp 144) rfl f sm ds (p, sb, kb') rfl (by rw [hnmp.out]; rfl) (ML6.out.of rfl) hdm HAS.out ?_
                          go_simp
                          refine hK _ _ ?_
                          clear hK K
                          have hneq := neq40 pf
                          unfold ar at hneq
                          have hnk2 : ((nkp : Int) != nkp) = false := by simp
                          go_upto_region 34 with fail
                          go_quiet (fail)
                          go_wp2_with fail
                          clear g1 g2 g3 g4 g5 g6 g7 g8 s0 s1 s2 s3 s4 s5 s6 s7 hneq hnk2
                          go_loopg [179] nkp (fun k v ws => ∃ (j : Nat), v = .int .i64 j ∧ j + k = nkp ∧ Hid (∃ q', ws = w6.drewN q'))
                          case atStart => exact ⟨0, rfl, by omega, hide ⟨_, rfl⟩⟩
                          case round =>
                            obtain ⟨j, rfl, hjk, hw⟩ := hrel
                            obtain ⟨q', hq'⟩ := hw.out
                            rw [hq']
                            clear hw
                            by_cases hjn : j < nkp
                            · have hjn' : (j : Int) < nkp := by omega
                              obtain ⟨G, hG⟩ : ∃ G : Nat → UInt8, Hid (fr f (hdr f p + j * 40) = G) := ⟨_, hide rfl⟩
                              obtain ⟨A, hA⟩ : ∃ A, Hid ((cl G 40).toArray = A) := ⟨_, hide rfl⟩
                              have hka : Hid (∀ W, (∃ n, W = (w6.drewN q').drewN n) → By W kb' (j * 40) 40 G) := hide (fun W hW k hk => by
                                obtain ⟨n', rfl⟩ := hW
                                have := HK1.out (j * 40 + k) (by omega)
                                rw [Nat.zero_add] at this
                                show w6.cell? _ = _
                                rw [this, ← hG.out]
                                unfold fr
                                rw [Nat.add_assoc])
                              have hkb2 : Hid (∀ W, (∃ n, W = (w6.drewN q').drewN n) → By W kb (j * 40) 40 G) := hide (fun W hW k hk => by
                                obtain ⟨n', rfl⟩ := hW
                                have := HK2.out (j * 40 + k) (by omega)
                                rw [Nat.zero_add] at this
                                show w6.cell? _ = _
                                rw [this, ← hG.out]
                                unfold fr
                                rw [Nat.add_assoc])
                              go_upto_region 39 with fail
                              refine wp_region_quiet_lit (by kernel_rfl) (by kernel_rfl) ?_
                              iterate 6 quiet_step (fail)
                              refine BigFrame.wpQuiet_want (by simp [Region.wanted]) (fun K hK => ?_)
                              refine quiet_load48 (.tmp 187) rfl kb' (j * 40) A G hA rfl hka.out ?_
                              go_simp
                              refine hK _ ?_
                              clear hK K
                              iterate 7 quiet_step (fail)
                              refine BigFrame.wpQuiet_want (by simp [Region.wanted]) (fun K hK => ?_)
                              refine quiet_load48 (.tmp 195) rfl kb (j * 40) A G hA rfl hkb2.out ?_
                              go_simp
                              refine hK _ ?_
                              clear hK K
                              refine BigFrame.wpQuiet_want (by simp [Region.wanted]) (fun K hK => ?_)
                              refine quiet_neq48 (.tmp 188) (.tmp 196) 48 rfl A G hA rfl rfl ?_
                              go_simp
                              refine hK _ ?_
                              clear hK K
                              refine wpQuiet_nil ?_
                              intro _ hw'
                              obtain ⟨nq, hw''⟩ := hw'
                              subst hw''
                              go_wp2_with fail
                              go_roundg (nkp - j - 1)
                              case measure => omega
                              case rel => exact ⟨j + 1, by go_num, by omega, hide ⟨_, rfl⟩⟩
                            · have hjn' : ¬ (j : Int) < nkp := by omega
                              obtain rfl : j = nkp := by omega
                              go_wp2_with fail
                              go_roundg (ne - t - 1)
                              case measure => omega
                              case rel => exact ⟨t + 1, by go_num, by omega, hide ⟨_, rfl⟩⟩
                        · have htn' : ¬ (t : Int) < ne := by omega
                          obtain rfl : t = ne := by omega
                          go_wp2_with fail
                          go_ret
                          exact ⟨rfl, below_drewN W26.out _⟩
          · have t3 : decide ((65536 : Int) < tot) = true := by simp; omega
            have t3' : decide (65536 < tot) = true := by simp; omega
            clear hb
            go_wp2_with fail
            go_ret
            exact ⟨rfl, Below.refl _ _⟩
    · have t2 : decide ((65536 : Int) < X) = true := by simp; omega
      have t2' : decide (65536 < X) = true := by simp; omega
      have t1 : decide ((4096 : Int) < S) = false := by simp; omega
      have t1' : decide (4096 < S) = false := by simp; omega
      go_enter Ybaf.func3, Ybaf.ntmps3
      go_wp2_with fail
      go_ret
      exact ⟨rfl, Below.refl _ _⟩
  · have t1 : decide ((4096 : Int) < S) = true := by simp; omega
    have t1' : decide (4096 < S) = true := by simp; omega
    go_enter Ybaf.func3, Ybaf.ntmps3
    go_wp2_with fail
    go_ret
    exact ⟨rfl, Below.refl _ _⟩
end Go.Proofs.YbulkdznmFmt.A
