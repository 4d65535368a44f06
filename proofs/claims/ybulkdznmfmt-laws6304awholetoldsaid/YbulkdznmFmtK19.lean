/- 6304A: the function that builds a body: a new row of bytes, of bounded length. -/
import Derived.Test.YbulkdznmFmtK18b
namespace Go.Proofs.YbulkdznmFmt.A
open Go.RowKit

/-- The scopes handed in, as they lie in memory. -/
structure Spec (w : World) (sa : Option Addr) (S : Nat) (P1 P2 : Nat → UInt8) (ka : Nat → Option Addr) (kl kc : Nat → Nat) (K : Nat → Nat → UInt8) : Prop where
  c : 0 < S → ∃ g o, sa = some ⟨g, o, none⟩ ∧ g < w.heap.size ∧ ∀ i, i < S → w.cell? ⟨g, o + i * 3, none⟩ = some (.int .u8 (P1 i).toNat) ∧ w.cell? ⟨g, o + i * 3 + 1, none⟩ = some (.int .u8 (P2 i).toNat) ∧ w.cell? ⟨g, o + i * 3 + 2, none⟩ = some (.slice (ka i) (kl i) (kc i))
  k : ∀ i, i < S → 0 < kl i → ∃ g o, ka i = some ⟨g, o, none⟩ ∧ By w g o (kl i) (K i)

theorem Ybaf.info40 : (Ybaf.prog.info? 40).map (fun i => (i.zero, i.size, i.bytes)) = some (some (.agg #[.int .u8 0, .int .u8 0, .int .u8 0, .int .u8 0, .int .u8 0, .int .u8 0, .int .u8 0, .int .u8 0]), 8, 8) := by kernel_rfl

theorem BR.mono {w : World} {base base' n : Nat} {v : Value} (h : BR w base v n) (hb : base' ≤ base) : BR w base' v n := by
  obtain ⟨xs, ⟨h1, h2⟩, h3⟩ := h
  refine ⟨xs, ⟨h1, ?_⟩, h3⟩
  rcases h2 with h2 | ⟨g, cap, cur, e, hg, h4⟩
  · exact Or.inl h2
  · exact Or.inr ⟨g, cap, cur, e, Nat.le_trans hb hg, h4⟩
theorem BL.start {w1 w : World} {v : Value} {n : Nat} (hb : Below w1.heap.size w1 w) (hr : BR w w1.heap.size v n) (arr : Array Value) : BL w1 (w.alloc (.cells arr 26)) v n w.heap.size arr :=
  ⟨hb.alloc hb.size _, hr.new (alloc_grown w _ (some w.heap.size)) (Nat.le_refl _), (MapKept.heap_alloc w _).1, hb.size⟩
/-- What building answers. -/
def BPost (w : World) (e : Ending) (w' : World) : Prop := ∃ v n, e = .returned v ∧ BR w' w.heap.size v n ∧ 4 ≤ n ∧ n ≤ 3000000 ∧ Below w.heap.size w w'

set_option maxRecDepth 100000 in
set_option maxHeartbeats 8000000 in
theorem build_f (sa : Option Addr) (S sc : Nat) (P1 P2 : Nat → UInt8) (ka : Nat → Option Addr) (kl kc : Nat → Nat) (K : Nat → Nat → UInt8) (mo aj : UInt8) (Sm : Nat → Nat) (w : World) (hS : S ≤ 4096) (hs : Spec w sa S P1 P2 ka kl kc K)
    (hm0 : Sm 0 = 0) (hm1 : ∀ i, i < S → Sm (i + 1) = Sm i + kl i) (hm2 : ∀ i, i ≤ S → Sm i ≤ 65536) :
    Calls Ybaf.prog 5 #[.slice sa S sc, .int .u8 mo.toNat, .int .u8 aj.toNat] w (BPost w) := by
  have HS := hide hs
  have HM0 := hide hm0
  have HM1 := hide hm1
  have HM2 := hide hm2
  clear hs hm0 hm1 hm2
  have hS' : (S : Int) ≤ 4096 := by omega
  obtain ⟨mv, hmv⟩ : ∃ mv, Hid (mo.toNat = mv) := ⟨_, hide rfl⟩
  obtain ⟨av, hav⟩ : ∃ av, Hid (aj.toNat = av) := ⟨_, hide rfl⟩
  rw [hmv.out, hav.out]
  have hmv2 : (mv : Int) ≤ 255 := by have := mo.toNat_lt; rw [hmv.out] at this; omega
  have hav2 : (av : Int) ≤ 255 := by have := aj.toNat_lt; rw [hav.out] at this; omega
  go_enter Ybaf.func5, Ybaf.ntmps5
  go_wp2_with fail
  refine (names_f w).mono ?_
  rintro e w1 ⟨rfl, hnm, hb1⟩
  have HN := hide hnm
  have HB1 := hide hb1
  obtain ⟨nb, hnb⟩ : ∃ nb, Hid (w.heap.size = nb) := ⟨_, hide rfl⟩
  have hnb1 : nb < w1.heap.size := by
    obtain ⟨s, hs, _⟩ := hnm 0 (by omega)
    have := lt_of hs
    rw [hnb.out] at this
    exact this
  rw [hnb.out] at HN
  clear hnm hb1
  go_upto_if 25 with fail
  rw [hnb.out]
  go_cut [8] from 26 to 31 (fun v wx => ∃ z : Int, v = .int .u32 z ∧ 0 ≤ z ∧ z < 4294967296 ∧ Hid (wx = w1))
  case first =>
    go_wp2_with fail
    all_goals (go_meet; case rel => exact ⟨_, rfl, by omega, by omega, hide rfl⟩)
  case rest =>
    obtain ⟨z, rfl, hz0, hz1, hw⟩ := hcut
    rw [hw.out]
    clear hw
    go_wp2_with fail
    refine (beb_f w1.heap.size 0 (.slice none 0 0) z w1 hz0 hz1 ⟨[], World.ownsRow_nil _ _ _ _, fun u hu => nomatch hu⟩ (by omega) (Nat.le_refl _)).mono ?_
    rintro e w2 ⟨v2, rfl, r2, g2⟩
    have R2 : Hid (Below w1.heap.size w1 w2 ∧ BR w2 w1.heap.size v2 4) := hide ⟨below_by (Below.refl _ _) g2 (fun k e => nomatch e) (Nat.le_refl _), r2⟩
    clear r2 g2
    go_wp2_with fail
    go_loopg [9, 10, 36] S (fun k v9 v10 v36 wr => ∃ (i d n : Nat) (dz : Int), v10 = .int .i64 dz ∧ v36 = .int .i64 i ∧ i + k = S ∧ dz = (d : Int) - 1 ∧ d ≤ 2 * i ∧ 4 ≤ n ∧ n ≤ 4 + 16 * i + 40 * Sm i ∧ Hid (Below w1.heap.size w1 wr ∧ BR wr w1.heap.size v9 n))
    case atStart => exact ⟨0, 0, 4, _, rfl, rfl, by omega, by simp, by omega, by omega, by omega, R2⟩
    case round =>
      clear R2
      obtain ⟨i, d, n, dz, rfl, rfl, hik, hdz, hd, hn4, hn, HR⟩ := hrel
      by_cases hlt : i < S
      · have hlt' : (i : Int) < S := by omega
        obtain ⟨sg, so, rfl, hsg, hsc⟩ := HS.out.c (by omega)
        have hSm := HM2.out (i + 1) (by omega)
        rw [HM1.out i hlt] at hSm
        have hSmi := HM2.out i (by omega)
        obtain ⟨e1, e2, e3⟩ := hsc i hlt
        have hbw := HB1.out.trans (HR.out.1.mono HB1.out.size)
        have c1 := below_cell hbw hsg e1
        have c2 := below_cell hbw hsg e2
        have c3 := below_cell hbw hsg e3
        have hky := HS.out.k i hlt
        obtain ⟨m, hm⟩ : ∃ m, Hid (kl i = m) := ⟨_, hide rfl⟩
        obtain ⟨ky, hkyx⟩ : ∃ ky, Hid (ka i = ky) := ⟨_, hide rfl⟩
        obtain ⟨kcx, hkcx⟩ : ∃ kcx, Hid (kc i = kcx) := ⟨_, hide rfl⟩
        rw [hm.out, hkyx.out, hkcx.out] at c3
        rw [hm.out, hkyx.out] at hky
        rw [hm.out] at hSm
        have HKY := hide hky
        clear e1 e2 e3 hsc hbw hky
        obtain ⟨p1, hp1⟩ : ∃ p1, Hid ((P1 i).toNat = p1) := ⟨_, hide rfl⟩
        obtain ⟨p2, hp2⟩ : ∃ p2, Hid ((P2 i).toNat = p2) := ⟨_, hide rfl⟩
        rw [hp1.out] at c1
        rw [hp2.out] at c2
        have hp1b : (p1 : Int) ≤ 255 := by have := (P1 i).toNat_lt; rw [hp1.out] at this; omega
        have hp2b : (p2 : Int) ≤ 255 := by have := (P2 i).toNat_lt; rw [hp2.out] at this; omega
        go_upto_if 45 with fail
        have LA := hide (BL.start HR.out.1 HR.out.2 #[.int .u8 p1, .int .u8 p2, .slice ky m kcx])
        clear HR c1 c2 c3
        generalize wr.alloc (.cells #[Value.int .u8 p1, .int .u8 p2, .slice ky m kcx] 26) = wA at LA ⊢
        obtain ⟨sp, hsp⟩ : ∃ c, Hid (wr.heap.size = c) := ⟨_, hide rfl⟩
        rw [hsp.out] at LA ⊢
        obtain ⟨q1, hq1⟩ : ∃ q1 : Nat, (d : Int) - 1 + (1 + (p1 : Int) % 2) = q1 := ⟨d + p1 % 2, by omega⟩
        obtain ⟨q2, hq2⟩ : ∃ q2 : Nat, (q1 : Int) % 12 = q2 := ⟨q1 % 12, by omega⟩
        obtain ⟨q3, hq3⟩ : ∃ q3 : Nat, (p1 : Int) % 18 = q3 := ⟨p1 % 18, by omega⟩
        go_cut [10, 13] from 46 to 66 (fun v10 v13 wx => ∃ (d' : Nat) (dz' : Int) (s : ByteArray), v10 = .int .i64 dz' ∧ dz' = (d' : Int) - 1 ∧ d' ≤ 2 * (i + 1) ∧ v13 = .string s ∧ Hid (s.size ≤ 3) ∧ Hid (wx = wA))
        case first =>
          have c0 : wA.cell? ⟨sp, 0, none⟩ = some (.int .u8 p1) := (blk_cell LA.out.s).trans rfl
          obtain ⟨n2, hn2, hs2⟩ := HN.out q2 (by omega)
          obtain ⟨n3, hn3, hs3⟩ := HN.out q3 (by omega)
          have cn2 := below_cell LA.out.b hnb1 hn2
          have cn3 := below_cell LA.out.b hnb1 hn3
          have hq2' : (q2 : Int) < 18 := by omega
          have hq3' : (q3 : Int) < 18 := by omega
          have HS2 := hide hs2
          have HS3 := hide hs3
          clear hn2 hn3 hs2 hs3
          go_wp2_with fail
          all_goals (go_meet; case rel => first | exact ⟨q1 + 1, _, n2, rfl, by omega, by omega, rfl, HS2, hide rfl⟩ | exact ⟨d, _, n3, rfl, by omega, by omega, rfl, HS3, hide rfl⟩)
        case rest =>
          obtain ⟨d', dz', nmx, rfl, hdz', hd', rfl, hns, hw⟩ := hcut
          rw [hw.out]
          clear hw
          have c2 : wA.cell? ⟨sp, 2, none⟩ = some (.slice ky m kcx) := (blk_cell LA.out.s).trans rfl
          obtain ⟨i40, hi40, h401, h402, h403⟩ := info_parts Ybaf.info40
          have hm6 : m ≤ 65536 := by omega
          go_upto_region 16 with fail
          apply wp_region_lit
          iterate 3
            refine wpList_plain rfl fun K hK => ?_
            go_simp
            refine hK _ _ ?_
            clear hK K
          refine wpList_make_full _ rfl (.tmp 69) (.tmp 69) 54 rfl w1.heap.size 40 i40 (.agg #[.int .u8 0, .int .u8 0, .int .u8 0, .int .u8 0, .int .u8 0, .int .u8 0, .int .u8 0, .int .u8 0]) 8 Ybaf.underlying54 hi40 h401 h402 .i64 .i64 m m m rfl rfl rfl rfl ?b2 ?b3 ?b4 ?_
          case b2 => rw [h403]; omega
          case b3 => unfold maxLen; omega
          case b4 => exact LA.out.sz
          intro wB ownB grB
          have IB := hide (BI.start LA.out grB ownB (made_isB (by intro u hu; simp [Value.cells] at hu; subst hu; exact ⟨0, rfl, by omega, by omega⟩) (by simp [Value.cells])))
          clear ownB grB LA c2
          obtain ⟨ib, hib⟩ : ∃ c, Hid (wA.heap.size = c) := ⟨_, hide rfl⟩
          rw [hib.out] at IB
          rw [hib.out]
          have c2 : wB.cell? ⟨sp, 2, none⟩ = some (.slice ky m kcx) := (blk_cell IB.out.l.s).trans rfl
          go_wp2_with fail
          clear c2
          go_loopg [74] m (fun k v ws => ∃ (j : Nat), v = .int .i64 j ∧ j + k = m ∧ Hid (BI w1 ws u9 n sp #[.int .u8 p1, .int .u8 p2, .slice ky m kcx] ib m))
          case atStart => exact ⟨0, rfl, by omega, IB⟩
          case round =>
            clear IB
            obtain ⟨j, rfl, hjk, IB⟩ := hrel
            have hm6' : (m : Int) ≤ 65536 := by omega
            by_cases hjm : j < m
            · have hjm' : (j : Int) < m := by omega
              obtain ⟨kg, ko, rfl, hKb⟩ := HKY.out (by omega)
              have hbw := HB1.out.trans (IB.out.l.b.mono HB1.out.size)
              have ck := below_cell hbw (lt_of (hKb j hjm)) (hKb j hjm)
              obtain ⟨kz, hkz⟩ : ∃ kz, Hid ((K i j).toNat = kz) := ⟨_, hide rfl⟩
              rw [hkz.out] at ck
              have hkz2 : (kz : Int) < 256 := by have := (K i j).toNat_lt; rw [hkz.out] at this; omega
              have c2 : wr.cell? ⟨sp, 2, none⟩ = some (.slice (some ⟨kg, ko, none⟩) m kcx) := (blk_cell IB.out.l.s).trans rfl
              obtain ⟨z0, hz0x, _⟩ := IB.out.bs j hjm 0 (by omega)
              rw [Nat.add_zero] at hz0x
              have f0 := IB.out.fz (j * 8)
              clear hKb hbw
              go_upto_region 20 with fail
              go_cut [] from 77 to 85 (fun wx => Hid (BI w1 wx u9 n sp #[.int .u8 p1, .int .u8 p2, .slice (some ⟨kg, ko, none⟩) m kcx] ib m))
              case first =>
                have IB' := hide (IB.out.new (r := wr.heap.size) (w' := wr.drew) ⟨rfl, rfl, rfl, Nat.le_refl _, fun _ _ _ => rfl⟩ (Nat.le_refl _))
                go_region_law (fail)
                all_goals go_wp2_with fail
                all_goals (go_meet; case rel => exact hide (IB'.out.set (j * 8) kz ⟨by omega, hkz2⟩))
              case rest =>
                clear IB c2 ck hz0x f0
                obtain ⟨wa, rfl⟩ : ∃ wo : World, wo = wc := ⟨_, rfl⟩
                obtain ⟨z1, hz1x, _⟩ := hcut.out.bs j hjm 1 (by omega)
                have f1 := hcut.out.fz (j * 8 + 1)
                go_wp2_with fail
                all_goals go_roundg (m - j - 1)
                all_goals first | (case measure => omega) | skip
                all_goals (case rel => first | exact ⟨j + 1, by go_num, by omega, hcut⟩ | exact ⟨j + 1, by go_num, by omega, hide (hcut.out.set (j * 8 + 1) _ ⟨by omega, by omega⟩)⟩)
            · have hjm' : ¬ (j : Int) < m := by omega
              obtain rfl : j = m := by omega
              go_upto_region 25 with fail
              have QA : Hid (BQ w1 (wr.alloc (.cells #[.int .u8 0, .int .u8 0, .int .u8 0, .int .u8 0, .int .u8 0, .int .u8 0, .int .u8 0, .int .u8 0] 40)) u9 n sp #[.int .u8 p1, .int .u8 p2, .slice ky j kcx] ib j wr.heap.size 8 40) := hide (BQ.start IB.out _ rfl (by intro u hu; simp at hu; subst hu; exact ⟨0, rfl, by omega, by omega⟩))
              clear IB
              generalize wr.alloc (.cells #[Value.int .u8 0, .int .u8 0, .int .u8 0, .int .u8 0, .int .u8 0, .int .u8 0, .int .u8 0, .int .u8 0] 40) = wP at QA ⊢
              obtain ⟨pb, hpb⟩ : ∃ c, Hid (wr.heap.size = c) := ⟨_, hide rfl⟩
              rw [hpb.out] at QA ⊢
              go_cut [103] from 96 to 103 (fun v wx => ∃ r, v = .bool r ∧ Hid (r = true → 0 < j) ∧ Hid (wx = wP))
              case first =>
                by_cases hj0 : 0 < j
                · have hj0' : decide (0 < j) = true := by simp; omega
                  go_wp2_with fail
                  all_goals (go_meet; case rel => exact ⟨_, rfl, hide (fun _ => hj0), hide rfl⟩)
                · have hj0' : decide (0 < j) = false := by simp; omega
                  go_wp2_with fail
                  all_goals (go_meet; case rel => exact ⟨false, by first | rfl | simp, hide (fun h => nomatch h), hide rfl⟩)
              case rest =>
                obtain ⟨rb, rfl, hrb, hw⟩ := hcut
                rw [hw.out]
                clear hw
                go_upto_if 103 with fail
                go_cut [] from 104 to 116 (fun wx => Hid (BQ w1 wx u9 n sp #[.int .u8 p1, .int .u8 p2, .slice ky j kcx] ib j pb 8 40))
                case first =>
                  have cP2 : wP.cell? ⟨sp, 1, none⟩ = some (.int .u8 p2) := (blk_cell QA.out.bi.l.s).trans rfl
                  obtain ⟨x0, hx0, _⟩ := QA.out.bs 0 (by omega)
                  have fx0 := QA.out.fz 0
                  obtain ⟨x1, hx1, _⟩ := QA.out.bs 1 (by omega)
                  have fx1 := QA.out.fz 1
                  obtain ⟨x2, hx2, _⟩ := QA.out.bs 2 (by omega)
                  have fx2 := QA.out.fz 2
                  obtain ⟨x3, hx3, _⟩ := QA.out.bs 3 (by omega)
                  have fx3 := QA.out.fz 3
                  obtain ⟨x4, hx4, _⟩ := QA.out.bs 4 (by omega)
                  have fx4 := QA.out.fz 4
                  obtain ⟨x5, hx5, _⟩ := QA.out.bs 5 (by omega)
                  have fx5 := QA.out.fz 5
                  obtain ⟨x6, hx6, _⟩ := QA.out.bs 6 (by omega)
                  have fx6 := QA.out.fz 6
                  obtain ⟨x7, hx7, _⟩ := QA.out.bs 7 (by omega)
                  have fx7 := QA.out.fz 7
                  simp only [Nat.zero_add] at hx0 hx1 hx2 hx3 hx4 hx5 hx6 hx7
                  cases rb
                  · go_wp2_with fail
                    all_goals (go_meet; case rel => exact hide ((QA.out.set (by omega) 0 p2 ⟨by omega, by omega⟩).set (by omega) 1 255 ⟨by omega, by omega⟩))
                  · have hj0 := hrb.out rfl
                    obtain ⟨q4, hq4⟩ : ∃ q4 : Nat, (p2 : Int) % (j : Int) = q4 := ⟨p2 % j, by omega⟩
                    have hq4' : (q4 : Int) < j := by rw [← hq4]; exact Int.emod_lt_of_pos _ (by omega)
                    obtain ⟨y0, hy0, hyb0⟩ := QA.out.bi.bs q4 (by omega) 0 (by omega)
                    obtain ⟨y1, hy1, hyb1⟩ := QA.out.bi.bs q4 (by omega) 1 (by omega)
                    obtain ⟨y2, hy2, hyb2⟩ := QA.out.bi.bs q4 (by omega) 2 (by omega)
                    obtain ⟨y3, hy3, hyb3⟩ := QA.out.bi.bs q4 (by omega) 3 (by omega)
                    obtain ⟨y4, hy4, hyb4⟩ := QA.out.bi.bs q4 (by omega) 4 (by omega)
                    obtain ⟨y5, hy5, hyb5⟩ := QA.out.bi.bs q4 (by omega) 5 (by omega)
                    obtain ⟨y6, hy6, hyb6⟩ := QA.out.bi.bs q4 (by omega) 6 (by omega)
                    obtain ⟨y7, hy7, hyb7⟩ := QA.out.bi.bs q4 (by omega) 7 (by omega)
                    rw [Nat.add_zero] at hy0
                    go_wp2_with fail
                    all_goals (go_meet; case rel => exact hide ((((((((QA.out.set (by omega) 0 y0 hyb0).set (by omega) 1 y1 hyb1).set (by omega) 2 y2 hyb2).set (by omega) 3 y3 hyb3).set (by omega) 4 y4 hyb4).set (by omega) 5 y5 hyb5).set (by omega) 6 y6 hyb6).set (by omega) 7 y7 hyb7))
                case rest =>
                  clear QA
                  obtain ⟨wQ, rfl⟩ : ∃ wo : World, wo = wc := ⟨_, rfl⟩
                  have QA := hcut
                  clear hcut
                  have hns' : nmx.size ≤ 3 := hns.out
                  go_upto_region 29 with fail
                  apply wp_region_lit
                  iterate 5
                    refine wpList_plain rfl fun K hK => ?_
                    go_simp
                    refine hK _ _ ?_
                    clear hK K
                  have QB0 : Hid (∀ c, BQ w1 (wQ.alloc (.cells c 5)) u9 n sp #[.int .u8 p1, .int .u8 p2, .slice ky j kcx] ib j pb 8 40) := hide (fun c => QA.out.new (alloc_grown wQ _ (some wQ.heap.size)) (Nat.le_refl _))
                  refine wpList_appB rfl (.tmp 117) (.tmp 121) rfl w1.heap.size n 1 1 wQ.heap.size 0 u9 rfl rfl (QB0.out _).bi.l.r ?hb1 (by omega) (QB0.out _).bi.l.sz ?_
                  case hb1 =>
                    intro k hk
                    obtain rfl : k = 0 := by omega
                    rw [World.cell?_alloc_at (w := wQ) _ 5 _ (0 + 0) rfl]
                    exact ⟨_, rfl, by first | omega | (rw [IntKind.wrap_u8]; omega), by first | omega | (rw [IntKind.wrap_u8]; omega)⟩
                  intro v3 w3 k1 k2
                  have QB := hide ((QB0.out _).app (by omega) k2.out k1.out)
                  clear QB0 QA k1 k2
                  go_upto_region 30 with fail
                  apply wp_region_lit
                  iterate 2
                    refine wpList_plain rfl fun K hK => ?_
                    go_simp
                    refine hK _ _ ?_
                    clear hK K
                  refine wpList_appS rfl (.tmp 123) (.tmp 124) rfl w1.heap.size (n + 1) v3 nmx rfl rfl QB.out.bi.l.r (by omega) QB.out.bi.l.sz ?_
                  intro v4 w4 k1 k2
                  have QC := hide (QB.out.app (by omega) k2.out k1.out)
                  clear QB k1 k2
                  go_upto_region 31 with fail
                  apply wp_region_lit
                  iterate 2
                    refine wpList_plain rfl fun K hK => ?_
                    go_simp
                    refine hK _ _ ?_
                    clear hK K
                  refine wpList_appB rfl (.tmp 126) (.tmp 127) rfl w1.heap.size (n + 1 + nmx.size) 8 8 pb 0 v4 rfl rfl QC.out.bi.l.r QC.out.bs (by omega) QC.out.bi.l.sz ?_
                  intro v5 w5 k1 k2
                  have ID := hide (QC.out.bi.app k2.out k1.out)
                  clear QC k1 k2
                  go_wp2_with fail
                  refine (beb_f w1.heap.size (n + 1 + nmx.size + 8) v5 j w5 (by omega) (by omega) ID.out.l.r (by omega) ID.out.l.sz).mono ?_
                  rintro e w6 ⟨v6, rfl, r6, g6⟩
                  have IE := hide (ID.out.app g6 r6)
                  clear ID r6 g6
                  go_wp2_with fail
                  go_loopg [9, 136] j (fun k v9 v136 ws => ∃ (t n' : Nat), v136 = .int .i64 t ∧ t + k = j ∧ n ≤ n' ∧ n' ≤ n + 16 + 40 * t ∧ Hid (BI w1 ws v9 n' sp #[.int .u8 p1, .int .u8 p2, .slice ky j kcx] ib j))
                  case atStart => exact ⟨0, _, rfl, by omega, by omega, by omega, IE⟩
                  case round =>
                    clear IE
                    obtain ⟨t, n', rfl, htk, hn5, hn', IF⟩ := hrel
                    by_cases htj : t < j
                    · have htj' : (t : Int) < j := by omega
                      obtain ⟨kg, ko, rfl, hKb⟩ := HKY.out (by omega)
                      go_upto_region 37 with fail
                      have QK : Hid (BQ w1 (wr.alloc (.cells #[.int .u8 0, .int .u8 0, .int .u8 0, .int .u8 0, .int .u8 0, .int .u8 0, .int .u8 0, .int .u8 0, .int .u8 0, .int .u8 0, .int .u8 0, .int .u8 0, .int .u8 0, .int .u8 0, .int .u8 0, .int .u8 0, .int .u8 0, .int .u8 0, .int .u8 0, .int .u8 0, .int .u8 0, .int .u8 0, .int .u8 0, .int .u8 0, .int .u8 0, .int .u8 0, .int .u8 0, .int .u8 0, .int .u8 0, .int .u8 0, .int .u8 0, .int .u8 0] 46)) u9 n' sp #[.int .u8 p1, .int .u8 p2, .slice (some ⟨kg, ko, none⟩) j kcx] ib j wr.heap.size 32 46) := hide (BQ.start IF.out _ rfl (by intro u hu; simp at hu; subst hu; exact ⟨0, rfl, by omega, by omega⟩))
                      clear IF
                      generalize wr.alloc (.cells #[Value.int .u8 0, .int .u8 0, .int .u8 0, .int .u8 0, .int .u8 0, .int .u8 0, .int .u8 0, .int .u8 0, .int .u8 0, .int .u8 0, .int .u8 0, .int .u8 0, .int .u8 0, .int .u8 0, .int .u8 0, .int .u8 0, .int .u8 0, .int .u8 0, .int .u8 0, .int .u8 0, .int .u8 0, .int .u8 0, .int .u8 0, .int .u8 0, .int .u8 0, .int .u8 0, .int .u8 0, .int .u8 0, .int .u8 0, .int .u8 0, .int .u8 0, .int .u8 0] 46) = wK at QK ⊢
                      obtain ⟨kx, hkx⟩ : ∃ c, Hid (wr.heap.size = c) := ⟨_, hide rfl⟩
                      rw [hkx.out] at QK ⊢
                      have hbw := HB1.out.trans (QK.out.bi.l.b.mono HB1.out.size)
                      have ck := below_cell hbw (lt_of (hKb t htj)) (hKb t htj)
                      obtain ⟨kz, hkz⟩ : ∃ kz, Hid ((K i t).toNat = kz) := ⟨_, hide rfl⟩
                      rw [hkz.out] at ck
                      have hkz2 : (kz : Int) < 256 := by have := (K i t).toNat_lt; rw [hkz.out] at this; omega
                      have c2 : wK.cell? ⟨sp, 2, none⟩ = some (.slice (some ⟨kg, ko, none⟩) j kcx) := (blk_cell QK.out.bi.l.s).trans rfl
                      obtain ⟨x0, hx0, _⟩ := QK.out.bs 0 (by omega)
                      obtain ⟨x1, hx1, _⟩ := QK.out.bs 1 (by omega)
                      obtain ⟨x2, hx2, _⟩ := QK.out.bs 31 (by omega)
                      have fx0 := QK.out.fz 0
                      have fx1 := QK.out.fz 1
                      have fx2 := QK.out.fz 31
                      simp only [Nat.zero_add] at hx0 hx1 hx2
                      have nk1 := QK.out.xs
                      have nk2 : kg ≠ kx := by
                        have := lt_of (hKb t htj)
                        have := QK.out.x0
                        have := HB1.out.size
                        omega
                      clear hKb hbw
                      go_upto_region 40 with fail
                      have QL := hide (((QK.out.set (by omega) 0 ((t : Int) % 256) ⟨by omega, by omega⟩).set (by omega) 1 kz ⟨by omega, hkz2⟩).set (by omega) 31 ((i : Int) % 256) ⟨by omega, by omega⟩)
                      clear QK ck c2 hx0 hx1 hx2 fx0 fx1 fx2 nk1 nk2
                      generalize (((wK.setCell ⟨kx, 0, none⟩ (.int .u8 ((t : Int) % 256))).setCell ⟨kx, 1, none⟩ (.int .u8 (kz : Int))).setCell ⟨kx, 31, none⟩ (.int .u8 ((i : Int) % 256))) = wL at QL ⊢
                      apply wp_region_lit
                      iterate 5
                        refine wpList_plain rfl fun K hK => ?_
                        go_simp
                        refine hK _ _ ?_
                        clear hK K
                      refine wpList_appB rfl (.tmp 151) (.tmp 155) rfl w1.heap.size n' 8 8 ib (t * 8) u9 rfl rfl QL.out.bi.l.r (QL.out.bi.bs t htj) (by omega) QL.out.bi.l.sz ?_
                      intro v7 w7 k1 k2
                      have QM := hide (QL.out.app (by omega) k2.out k1.out)
                      clear QL k1 k2
                      go_upto_region 41 with fail
                      apply wp_region_lit
                      iterate 2
                        refine wpList_plain rfl fun K hK => ?_
                        go_simp
                        refine hK _ _ ?_
                        clear hK K
                      refine wpList_appB rfl (.tmp 157) (.tmp 158) rfl w1.heap.size (n' + 8) 32 32 kx 0 v7 rfl rfl QM.out.bi.l.r QM.out.bs (by omega) QM.out.bi.l.sz ?_
                      intro v8 w8 k1 k2
                      have IG := hide (QM.out.bi.app k2.out k1.out)
                      clear QM k1 k2
                      go_wp2_with fail
                      go_roundg (j - t - 1)
                      case measure => omega
                      case rel => exact ⟨t + 1, _, by go_num, by omega, by omega, by omega, IG⟩
                    · have htj' : ¬ (t : Int) < j := by omega
                      obtain rfl : t = j := by omega
                      go_wp2_with fail
                      go_roundg (S - i - 1)
                      case measure => omega
                      case rel => exact ⟨i + 1, d', n', _, rfl, by go_num, by omega, by omega, by omega, by omega, by rw [HM1.out i hlt, hm.out]; omega, hide ⟨IF.out.l.b, IF.out.l.r⟩⟩
      · have hlt' : ¬ (i : Int) < S := by omega
        obtain rfl : i = S := by omega
        have := HM2.out i (by omega)
        go_wp2_with fail
        go_ret
        exact ⟨_, n, rfl, HR.out.2.mono HB1.out.size, hn4, by omega, HB1.out.trans (HR.out.1.mono HB1.out.size)⟩
end Go.Proofs.YbulkdznmFmt.A
