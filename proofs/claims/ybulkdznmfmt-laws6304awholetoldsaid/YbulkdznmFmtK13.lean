/- 6304A: the model computes the plain parse. -/
import Derived.Test.YbulkdznmFmtK12c
import Derived.Carry
namespace Go.Proofs.YbulkdznmFmt.A
open Go.RowKit

theorem Ybaf.info43 : (Ybaf.prog.info? 43).map (fun i => (i.zero.map (fun z => z.cells.size), i.size, i.bytes)) = some (some 10, 10, 48) := by kernel_rfl
theorem Ybaf.info48 : (Ybaf.prog.info? 48).map (fun i => (i.zero.map (fun z => z.cells.size), i.size, i.bytes)) = some (some 40, 40, 40) := by kernel_rfl

theorem get_g (B : Nat → UInt8) (g o N c p : Nat) (w : World) (hp : p + 4 ≤ N) (hN : N ≤ 100000000) (h : By w g o N B) :
    Calls Ybaf.prog 11 #[.slice (some ⟨g, o, none⟩) N c, .int .i64 p] w fun e w' => e = .returned (.int .u32 (cn B p)) ∧ Below w.heap.size w w' :=
  get_f g o N c p _ _ _ _ w hp (by omega) (h p (by omega)) (h (p + 1) (by omega)) (h (p + 2) (by omega)) (h (p + 3) (by omega))
theorem cn_lt (B : Nat → UInt8) (p : Nat) : cn B p < 4294967296 := by
  have := be4 (B p) (B (p + 1)) (B (p + 2)) (B (p + 3))
  have h0 := (B p).toNat_lt
  have h1 := (B (p + 1)).toNat_lt
  have h2 := (B (p + 2)).toNat_lt
  have h3 := (B (p + 3)).toNat_lt
  unfold cn
  omega
theorem run_mkmap (w : World) : (Instr.makeMap 56 none).run Ybaf.prog w = .ok (.map (some w.heap.size)) (w.alloc (.map #[] 0)) := rfl
attribute [local go_sem] run_mkmap

theorem run_leq (a b : ByteArray) (w : World) : (binOp .leq 9 (.string a) (.string b)).run Ybaf.prog w = .ok (.bool (strLe a b)) w := by
  simp [binOp, Op.stringOp, strLe]
theorem okN_ne {s : ByteArray} (h : okN s = true) : strLe s ⟨#[]⟩ = false := by
  have hs : s.toList ≠ [] := by
    intro e
    simp [okN, e] at h
  have e0 : (⟨#[]⟩ : ByteArray).toList = [] := by rw [ByteArray.toList_eq]
  unfold strLe
  rw [e0]
  cases hl : s.toList with
  | nil => exact absurd hl hs
  | cons a l => rfl
theorem wrapN (n : Nat) (h : n ≤ 1000000000000) : IntKind.i64.wrap (n : Int) = n := by rw [IntKind.wrap_i64]; omega
theorem wrapI (n : Int) (k : Nat) (e : n = k) (h : k ≤ 1000000000000) : IntKind.i64.wrap n = k := by rw [IntKind.wrap_i64]; omega
theorem grown_drew (w : World) (row : Option Nat) : w.grownBy w.drew row := ⟨rfl, rfl, rfl, Nat.le_refl _, fun _ _ _ => rfl⟩
theorem Cpd.undrew {w w' : World} {b o n : Nat} {f : Nat → UInt8} (h : Cpd w.drew w' b o n f) : Cpd w w' b o n f := ⟨h.in_, h.out, h.fr, grown_trans (grown_drew w _) h.gr⟩
/-- What the model answers. -/
def MPost (B : Nat → UInt8) (R : Option (List Nat)) (w : World) (e : Ending) (w' : World) : Prop :=
  ∃ v r, e = .returned (.tuple #[v, .bool r]) ∧ Below w.heap.size w w' ∧ (r = false → R = none) ∧ (r = true → ∃ mb es seen, R = some (es.map (·.1)) ∧ MS w w' B mb v es seen)

set_option maxRecDepth 100000 in
set_option maxHeartbeats 8000000 in
theorem model_f (B : Nat → UInt8) (g o N c : Nat) (w : World) (hN4 : 4 ≤ N) (hN : N ≤ 100000000) (hNc : N ≤ c) (hc : c ≤ 9223372036854775807) (hB : By w g o N B) (hg : g < w.heap.size) :
    Calls Ybaf.prog 6 #[.slice (some ⟨g, o, none⟩) N c] w (MPost B (parse B N) w) := by
  have hN4' : decide ((N : Int) < 4) = false := by simp; omega
  have hN' : (N : Int) ≤ 100000000 := by omega
  have hNc' : (N : Int) ≤ c := by omega
  have hc' : (c : Int) ≤ 9223372036854775807 := by omega
  have HB := hide hB
  have hget := hide (fun (W : World) (hW : By W g o N B) (p : Nat) (hp : p + 4 ≤ N) => get_g B g o N c p W hp hN hW)
  clear hB
  obtain ⟨R, hR⟩ : ∃ R, Hid (parse B N = R) := ⟨_, hide rfl⟩
  rw [hR.out]
  obtain ⟨ct, hct⟩ : ∃ ct, Hid (cn B 0 = ct) := ⟨_, hide rfl⟩
  go_enter Ybaf.func6, Ybaf.ntmps6
  go_wp2_with fail
  refine (hget.out w HB.out 0 (by omega)).mono ?_
  rintro e w1 ⟨rfl, hb1⟩
  have M0 : Hid (MS w (w1.alloc (.map #[] 0)) B w1.heap.size (.slice none 0 0) [] []) := hide ⟨hb1.alloc hb1.size _, MapL.made w1, hb1.size, (fun i hi => nomatch hi), World.ownsRow_nil _ _ _ _, (fun e he => nomatch he)⟩
  rw [hct.out]
  clear hb1
  have hct2 : (ct : Int) < 4294967296 := by have := cn_lt B 0; rw [hct.out] at this; omega
  have HG : Hid (go B N ct 4 [] [] = R) := hide (by rw [← hR.out, parse, if_neg (by omega), hct.out])
  obtain ⟨mb, hmb⟩ : ∃ c, Hid (w1.heap.size = c) := ⟨_, hide rfl⟩
  rw [hmb.out] at M0
  go_wp2_with fail
  rw [hmb.out]
  generalize w1.alloc (.map #[] 0) = w2 at M0 ⊢
  go_loopg [5, 7, 8] ct (fun k v5 v7 v8 wr => ∃ (i pos : Nat) (es : List (Nat × Nat)) (seen : List (List UInt8)), v5 = .int .i64 pos ∧ v8 = .int .u32 i ∧ i + k = ct ∧ pos ≤ N ∧ es.length ≤ pos ∧ Hid (MS w wr B mb v7 es seen) ∧ Hid (go B N (ct - i) pos (es.map (·.1)) seen = R))
  case atStart => exact ⟨0, 4, [], [], rfl, rfl, by omega, hN4, by simp, M0, HG⟩
  case round =>
    clear M0 HG
    obtain ⟨i, pos, es, seen, rfl, rfl, hik, hpN, hep, MI, HG⟩ := hrel
    have hpN' : (pos : Int) ≤ N := by omega
    by_cases hlt : i < ct
    · have hlt' : (i : Int) < ct := by omega
      obtain ⟨kk, hkk⟩ : ∃ kk, ct - i = kk + 1 := ⟨ct - i - 1, by omega⟩
      rw [hkk] at HG
      by_cases hr : N < pos + 1
      · have hr' : decide ((N : Int) - pos < 1) = true := by simp; omega
        have hn : Hid (R = none) := hide (by rw [← HG.out]; exact go_bad (bad1 (by unfold hdr; omega)))
        go_wp2_with fail
        go_ret2
        exact ⟨_, false, rfl, MI.out.b, fun _ => hn.out, fun h => nomatch h⟩
      · have hr' : decide ((N : Int) - pos < 1) = false := by simp; omega
        have hr2 : (pos : Int) < N := by omega
        obtain ⟨l, hl⟩ : ∃ l, Hid ((B pos).toNat = l) := ⟨_, hide rfl⟩
        have hl8 : (l : Int) ≤ 255 := by have := (B pos).toNat_lt; rw [hl.out] at this; omega
        have HBr : Hid (By wr g o N B) := hide (fun m hm => below_cell MI.out.b hg (HB.out m hm))
        have cp : wr.cell? ⟨g, o + pos, none⟩ = some (.int .u8 l) := by have := HBr.out pos (by omega); rw [hl.out] at this; exact this
        by_cases hh : N < hdr B pos
        · have hn : Hid (R = none) := hide (by rw [← HG.out]; exact go_bad (bad1 hh))
          have hh' : decide ((N : Int) - pos < 13 + l) = true := by unfold hdr at hh; rw [hl.out] at hh; simp; omega
          go_wp2_with fail
          go_ret2
          exact ⟨_, false, rfl, MI.out.b, fun _ => hn.out, fun h => nomatch h⟩
        · have hh1 : hdr B pos = pos + 13 + l := by unfold hdr; rw [hl.out]
          have hh' : decide ((N : Int) - pos < 13 + l) = false := by simp; omega
          have hh2 : (pos : Int) + 13 + l ≤ N := by omega
          obtain ⟨pw, hpw⟩ : ∃ pw : Nat, (pos : Int) + 1 = pw := ⟨pos + 1, by omega⟩
          obtain ⟨pp, hpp⟩ : ∃ pp : Nat, (pw : Int) + l = pp := ⟨pw + l, by omega⟩
          obtain ⟨pn, hpn⟩ : ∃ pn : Nat, (pos : Int) + 9 = pn := ⟨pos + 9, by omega⟩
          obtain ⟨pg, hpg⟩ : ∃ pg : Nat, (pn : Int) + l = pg := ⟨pn + l, by omega⟩
          have hstr := fun c' => run_str wr g (o + pw) (pp - pw) c' (fun m => B (pos + 1 + m)) (fun m hm => by have := HBr.out (pos + 1 + m) (by omega); rw [← Nat.add_assoc] at this; rw [show o + pw + m = o + (pos + 1) + m by omega]; exact this)
          have hnm : Hid (str (fun m => B (pos + 1 + m)) (pp - pw) = nm B pos) := hide (by unfold nm; rw [hl.out, show pp - pw = l by omega])
          rw [hnm.out] at hstr
          go_wp2_with fail
          obtain ⟨hES, hHole⟩ := ES.start (p := pos) MI.out
          have HES := hide hES
          have HHole := hide hHole
          unfold ent0 at HES HHole
          clear hES hHole hstr cp
          generalize wr.alloc (.cells #[Value.string (nm B pos), .int .u8 0, .int .u8 0, .int .u8 0, .int .u8 0, .int .u8 0, .int .u8 0, .int .u8 0, .int .u8 0, .slice none 0 0] 43) = w3 at HES HHole ⊢
          obtain ⟨eb, heb⟩ : ∃ c, Hid (wr.heap.size = c) := ⟨_, hide rfl⟩
          rw [heb.out] at HES HHole ⊢
          go_cut [] from 52 to 64 (fun wx => Hid (ES w wx B mb u7 es seen eb pos) ∧ Hid (By wx eb 1 8 (fr B (prim B pos))))
          case first =>
            have hB3 : Hid (By w3 g (o + pp) 8 (fr B (prim B pos))) := hide (fun m hm => by
              have := below_cell HES.out.ms.b hg (HB.out (pp + m) (by omega))
              rw [← Nat.add_assoc] at this
              rw [this]
              unfold fr prim
              rw [hl.out, show pp + m = pos + 1 + l + m by omega])
            have v1 := wrapN pw (by omega)
            have v2 := wrapN pp (by omega)
            have v3 := wrapN pn (by omega)
            have v4 := wrapN pg (by omega)
            have v9 : max (pg : Int) 0 = pg := by omega
            have v5 : (pg : Int) ≤ c := by omega
            have v6 : (pp : Int) ≤ pg := by omega
            have v7 : ¬ c = pp := by omega
            have v8 : pg - pp = 8 := by omega
            go_region_law (refine step_copy_by rfl (.tmp 53) (.tmp 63) rfl eb 1 g (o + pp) 8 8 (c - pp) (fr B (prim B pos)) (by go_simp) (by go_simp) hB3.out HHole.out ?_; intro w4 hc4)
            all_goals go_wp2_with fail
            all_goals (go_meet; case rel => exact ⟨hide (HES.out.copied hc4.out.undrew), hide hc4.out.in_⟩)
          case rest =>
            obtain ⟨HE2, HP2⟩ := hcut
            clear HES HHole MI HBr
            obtain ⟨w4, rfl⟩ : ∃ wo : World, wo = wc := ⟨_, rfl⟩
            obtain ⟨n, hn⟩ : ∃ n, Hid (nk B pos = n) := ⟨_, hide rfl⟩
            have hgn : Hid (cn B pg = n) := hide (by rw [← hn.out]; unfold nk; rw [hl.out, show pos + 9 + l = pg by omega])
            have hn2 : (n : Int) < 4294967296 := by have := cn_lt B pg; rw [hgn.out] at this; omega
            go_wp2_with fail
            refine (hget.out w4 (fun m hm => below_cell HE2.out.ms.b hg (HB.out m hm)) pg (by omega)).mono ?_
            rintro e w5 ⟨rfl, hb5⟩
            rw [hgn.out]
            have HE3 := hide (HE2.out.below hb5)
            have HP3 := hide (HP2.out.below hb5)
            clear hb5 HE2 HP2
            have c0 := HE3.out.e0
            obtain ⟨ph, hph⟩ : ∃ ph : Nat, (pos : Int) + 13 = ph := ⟨pos + 13, by omega⟩
            obtain ⟨q0, hq0⟩ : ∃ q0 : Nat, (ph : Int) + l = q0 := ⟨ph + l, by omega⟩
            have hq0' : hdr B pos = q0 := by omega
            go_wp2_with fail
            refine (ok_f (nm B pos) w5).mono ?_
            rintro e w6 ⟨rfl, rfl⟩
            obtain ⟨r1, hr1⟩ : ∃ r1, Hid (okN (nm B pos) = r1) := ⟨_, hide rfl⟩
            rw [hr1.out]
            cases r1
            · have hnn : Hid (R = none) := hide (by rw [← HG.out]; exact go_bad (bad2 hr1.out))
              go_wp2_with fail
              go_ret2
              exact ⟨_, false, rfl, HE3.out.ms.b, fun _ => hnn.out, fun h => nomatch h⟩
            · go_wp2_with fail
              obtain ⟨r2, hr2⟩ : ∃ r2, Hid (strLe (nm B pos) (prev B (es.map (·.1))) = r2) := ⟨_, hide rfl⟩
              go_cut [93] from 79 to 93 (fun v wx => v = .bool r2 ∧ Hid (ES w wx B mb u7 es seen eb pos) ∧ Hid (By wx eb 1 8 (fr B (prim B pos))))
              case first =>
                have own := hide HE3.out.ms.own
                rcases List.eq_nil_or_concat es with rfl | ⟨ini, ⟨pz, kz⟩, rfl⟩
                · obtain rfl : r2 = false := by rw [← hr2.out]; exact okN_ne hr1.out
                  obtain ⟨a7, c7, rfl⟩ : ∃ a7 c7, u7 = .slice a7 0 c7 := by
                    rcases own.out.2 with ⟨rfl, _⟩ | ⟨gb, cap, cur, rfl, _⟩
                    · exact ⟨_, _, rfl⟩
                    · exact ⟨_, _, rfl⟩
                  clear own
                  go_quiet (fail)
                  all_goals go_wp2_with fail
                  all_goals (go_meet; case rel => exact ⟨rfl, hide (HE3.out.below (below_drewN (Below.refl _ _) _)), hide (HP3.out.below (below_drewN (Below.refl _ _) _))⟩)
                · rw [List.concat_eq_append] at *
                  obtain ⟨gb, cap, m, m1, hm, hm1, rfl⟩ : ∃ gb cap m m1, Hid (m = ini.length + 1) ∧ Hid (m1 = ini.length) ∧ u7 = .slice (some ⟨gb, 0, none⟩) m cap := by
                    rcases own.out.2 with ⟨_, h0⟩ | ⟨gb, cap, cur, rfl, _⟩
                    · simp at h0
                    · exact ⟨gb, cap, _, _, hide rfl, hide rfl, by simp⟩
                  have hpz : Hid (prev B (List.map (·.1) (ini ++ [(pz, kz)])) = nm B pz) := hide (by simp [prev])
                  rw [hpz.out] at hr2
                  have cz : w6.cell? ⟨gb, m1 * 10, none⟩ = some (.string (nm B pz)) := by
                    have ho := own.out
                    rw [List.length_append, List.length_singleton, ← hm.out] at ho
                    rw [ho.cellAt (m1 * 10) (by rw [hm.out, hm1.out]; omega)]
                    have := flat_get B (ini ++ [(pz, kz)]) ini.length pz kz 0 (by simp) (by omega)
                    rw [Nat.add_zero] at this
                    rw [hm1.out, this]
                    rfl
                  have hm0 : 0 < m := by rw [hm.out]; omega
                  have hm2 : (m : Int) - 1 = m1 := by rw [hm.out, hm1.out]; omega
                  have hm3 : (m1 : Int) < m := by omega
                  have hm5 : m1 < m := by omega
                  have hm6 := wrapN m1 (by have := hm1.out; simp at hep; omega)
                  have hm4 : decide (0 < m) = true := by simp; omega
                  clear own
                  go_quiet (fail)
                  all_goals go_wp2_with fail
                  all_goals (go_meet; case rel => exact ⟨congrArg Value.bool hr2.out, hide (HE3.out.below (below_drewN (Below.refl _ _) _)), hide (HP3.out.below (below_drewN (Below.refl _ _) _))⟩)
              case rest =>
                obtain ⟨rfl, HE4, HP4⟩ := hcut
                obtain ⟨w7, rfl⟩ : ∃ wo : World, wo = wc := ⟨_, rfl⟩
                clear HE3 HP3 c0
                have hq1 : (q0 : Int) ≤ N := by omega
                cases r2
                case true =>
                  have hnn : Hid (R = none) := hide (by rw [← HG.out]; exact go_bad (bad3 hr2.out))
                  go_wp2_with fail
                  go_ret2
                  exact ⟨_, false, rfl, HE4.out.ms.b, fun _ => hnn.out, fun h => nomatch h⟩
                case false =>
                  by_cases hn0 : n = 0
                  · have hn0' : ((n : Int) == 0) = true := by simp; omega
                    have hnn : Hid (R = none) := hide (by rw [← HG.out]; exact go_bad (bad4 (hn.out.trans hn0)))
                    go_wp2_with fail
                    go_ret2
                    exact ⟨_, false, rfl, HE4.out.ms.b, fun _ => hnn.out, fun h => nomatch h⟩
                  · have hn0' : ((n : Int) == 0) = false := by simp; omega
                    by_cases hfit : N < q0 + n * 40
                    · have hf' : decide ((N : Int) - q0 < n * 40) = true := by simp; omega
                      have hnn : Hid (R = none) := hide (by rw [← HG.out]; exact go_bad (bad5 (by rw [hq0', hn.out]; exact hfit)))
                      go_wp2_with fail
                      go_ret2
                      exact ⟨_, false, rfl, HE4.out.ms.b, fun _ => hnn.out, fun h => nomatch h⟩
                    · have hf' : decide ((N : Int) - q0 < n * 40) = false := by simp; omega
                      have hfit' : (q0 : Int) + n * 40 ≤ N := by omega
                      obtain ⟨i48, z48, hi48, hz48, hzc48, hs48, hb48⟩ := info_z Ybaf.info48
                      go_wp2_with (at_make; refine wpList_make_own _ rfl (.const (.int .i64 0)) (.tmp 108) 41 rfl w.heap.size 48 i48 z48 40 Ybaf.underlying41 hi48 hz48 hs48 .i64 .i64 n n rfl rfl rfl ?b2 ?b3 ?b4 ?_)
                      case b2 => rw [hb48]; omega
                      case b3 => unfold maxLen; omega
                      case b4 => exact HE4.out.ms.sz
                      intro w8 own8 gr8
                      have HI0 : Hid (IS w (w8.setCell ⟨eb, 9, none⟩ (.slice (some ⟨w7.heap.size, 0, none⟩) 0 n)) B mb u7 es seen eb w7.heap.size pos 0) := hide (by
                        have := IS.start HE4.out HP4.out gr8 (by rw [hn.out]; exact own8)
                        rw [hn.out] at this
                        exact this)
                      have gr8' : w7.grownBy w8 (some w7.heap.size) := ⟨gr8.os, gr8.tape, gr8.output, gr8.size, fun k hk _ => gr8.block k hk (by simp)⟩
                      have HE5 := HE4.out.grown gr8' (Nat.le_refl _)
                      have c9 := HE5.e9
                      have f9 := HE5.ef
                      clear HE5 gr8' own8 gr8 HE4 HP4
                      obtain ⟨kb, hkb⟩ : ∃ c, Hid (w7.heap.size = c) := ⟨_, hide rfl⟩
                      rw [hkb.out] at HI0
                      rw [hkb.out]
                      go_wp2_with fail
                      clear c9 f9
                      generalize w8.setCell ⟨eb, 9, none⟩ (.slice (some ⟨kb, 0, none⟩) 0 n) = w9 at HI0 ⊢
                      go_loopg [5, 13, 14] n (fun k v5 v13 v14 ws => ∃ (j q : Nat) (fd : Bool) (sn : List (List UInt8)), v5 = .int .i64 q ∧ v13 = .bool fd ∧ v14 = .int .u32 j ∧ j + k = n ∧ Hid (q = q0 + j * 40) ∧ Hid (fd = fnd B pos j) ∧ Hid (IS w ws B mb u7 es sn eb kb pos j) ∧ Hid (keys B (n - j) (hdr B pos + j * 40) sn = keys B n (hdr B pos) seen))
                      case atStart => exact ⟨0, q0, false, seen, rfl, rfl, rfl, by omega, hide (by omega), hide fnd_zero.symm, HI0, hide (by rw [Nat.zero_mul, Nat.add_zero, Nat.sub_zero])⟩
                      case round =>
                        clear HI0
                        obtain ⟨j, q, fd, sn, rfl, rfl, rfl, hjk, hq, hfd, HI, HK⟩ := hrel
                        by_cases hjn : j < n
                        · have hjn' : (j : Int) < n := by omega
                          have hqN : q + 40 ≤ N := by rw [hq.out]; omega
                          have hqN' : (q : Int) + 40 ≤ N := by omega
                          obtain ⟨q8, hq8⟩ : ∃ q8 : Nat, (q : Int) + 8 = q8 := ⟨q + 8, by omega⟩
                          obtain ⟨q40, hq40⟩ : ∃ q40 : Nat, (q : Int) + 40 = q40 := ⟨q + 40, by omega⟩
                          go_upto_region 32 with fail
                          have HH := hide (kz_hole wr)
                          have HG0 : Hid (wr.grownBy (wr.alloc (.cells kz 48)) (some wr.heap.size)) := hide (alloc_grown wr _ _)
                          unfold kz at HH HG0
                          generalize wr.alloc (.cells #[Value.int .u8 0, .int .u8 0, .int .u8 0, .int .u8 0, .int .u8 0, .int .u8 0, .int .u8 0, .int .u8 0, .int .u8 0, .int .u8 0, .int .u8 0, .int .u8 0, .int .u8 0, .int .u8 0, .int .u8 0, .int .u8 0, .int .u8 0, .int .u8 0, .int .u8 0, .int .u8 0, .int .u8 0, .int .u8 0, .int .u8 0, .int .u8 0, .int .u8 0, .int .u8 0, .int .u8 0, .int .u8 0, .int .u8 0, .int .u8 0, .int .u8 0, .int .u8 0, .int .u8 0, .int .u8 0, .int .u8 0, .int .u8 0, .int .u8 0, .int .u8 0, .int .u8 0, .int .u8 0] 48) = wa at HH HG0 ⊢
                          obtain ⟨xb, hxb⟩ : ∃ c, Hid (wr.heap.size = c) := ⟨_, hide rfl⟩
                          rw [hxb.out] at HH HG0 ⊢
                          have v1 := wrapN q8 (by omega)
                          have v2 := wrapN q40 (by omega)
                          have v3 := wrapN q (by omega)
                          have v4 : (q8 : Int) ≤ c := by omega
                          have v5 : (q : Int) ≤ q8 := by omega
                          have v6 : ¬ c = q := by omega
                          have v7 : q8 - q = 8 := by omega
                          have v8 : max (q8 : Int) 0 = q8 := by omega
                          have v9 : (q40 : Int) ≤ c := by omega
                          have v10 : (q8 : Int) ≤ q40 := by omega
                          have v11 : ¬ c = q8 := by omega
                          have v12 : q40 - q8 = 32 := by omega
                          have v13 : max (q40 : Int) 0 = q40 := by omega
                          go_cut [] from 116 to 123 (fun wx => Hid (wr.grownBy wx (some xb)) ∧ Hid (By wx xb 0 8 (fr B q)) ∧ Hid (Hole wx xb 8 32))
                          case first =>
                            have hBa : Hid (By wa g (o + q) 8 (fr B q)) := hide (fun m hm => by
                              have := below_cell (below_by HI.out.ms.b HG0.out (fun k e => by cases e; have := HI.out.ms.sz; have := hxb.out; omega) HI.out.ms.sz) hg (HB.out (q + m) (by omega))
                              rw [← Nat.add_assoc] at this
                              exact this)
                            go_region_law (refine step_copy_by rfl (.tmp 117) (.tmp 122) rfl xb 0 g (o + q) 8 8 (c - q) (fr B q) (by go_simp) (by go_simp) hBa.out (HH.out.sub 0 8 (by omega)) ?_; intro wb hcb)
                            all_goals go_wp2_with fail
                            all_goals (go_meet; case rel => exact ⟨hide (grown_trans HG0.out hcb.out.undrew.gr), hide hcb.out.in_, hide ((HH.out.sub 8 32 (by omega)).copied hcb.out.undrew (by omega))⟩)
                          case rest =>
                            clear HH HG0
                            obtain ⟨HG1, HB1, HH1⟩ := hcut
                            obtain ⟨wb, rfl⟩ : ∃ wo : World, wo = wc := ⟨_, rfl⟩
                            go_wp2_with fail
                            go_cut [] from 124 to 132 (fun wx => Hid (IS w wx B mb u7 es sn eb kb pos j) ∧ Hid (By wx xb 0 40 (fr B q)))
                            case first =>
                              have hBa : Hid (By wb g (o + q8) 32 (fr B (q + 8))) := hide (fun m hm => by
                                have := below_cell (below_by HI.out.ms.b HG1.out (fun k e => by cases e; have := HI.out.ms.sz; have := hxb.out; omega) HI.out.ms.sz) hg (HB.out (q8 + m) (by omega))
                                rw [← Nat.add_assoc] at this
                                rw [this]
                                unfold fr
                                rw [show q8 + m = q + 8 + m by omega])
                              go_region_law (refine step_copy_by rfl (.tmp 125) (.tmp 131) rfl xb 8 g (o + q8) 32 32 (c - q8) (fr B (q + 8)) (by go_simp) (by go_simp) hBa.out HH1.out ?_; intro wd hcd)
                              all_goals go_wp2_with fail
                              all_goals (go_meet; case rel => exact ⟨hide (HI.out.new (grown_trans HG1.out hcd.out.undrew.gr) (by rw [hxb.out]; exact Nat.le_refl _)), hide (by40 HB1.out hcd.out.undrew)⟩)
                            case rest =>
                              clear HI HG1 HB1 HH1
                              obtain ⟨HI2, HB2⟩ := hcut
                              obtain ⟨wd, rfl⟩ : ∃ wo : World, wo = wc := ⟨_, rfl⟩
                              obtain ⟨r3, hr3⟩ : ∃ r3, Hid (decide (bl (fr B q) ∈ sn) = r3) := ⟨_, hide rfl⟩
                              have hqq : Hid (hdr B pos + j * 40 = q) := hide (by rw [hq.out]; omega)
                              have hnj : Hid (n - j = n - (j + 1) + 1) := hide (by omega)
                              rw [hnj.out, hqq.out] at HK
                              have c0 := HB2.out 0 (by omega)
                              have c1 := HB2.out 1 (by omega)
                              have c2 := HB2.out 2 (by omega)
                              have c3 := HB2.out 3 (by omega)
                              have c4 := HB2.out 4 (by omega)
                              have c5 := HB2.out 5 (by omega)
                              have c6 := HB2.out 6 (by omega)
                              have c7 := HB2.out 7 (by omega)
                              simp only [Nat.zero_add] at c0 c1 c2 c3 c4 c5 c6 c7
                              go_upto_region 35 with fail
                              apply wp_region_lit
                              iterate 3
                                refine wpList_plain rfl fun K hK => ?_
                                go_simp
                                refine hK _ _ ?_
                                clear hK K
                              refine wpList_plain rfl fun K hK => ?_
                              refine wp_lookr (.tmp 135) (.tmp 137) rfl mb (fr B q) sn rfl rfl HI2.out.ms.m HI2.out.ms.s8 r3 hr3 ?_
                              go_simp
                              refine hK _ _ ?_
                              clear hK K
                              cases r3
                              case true =>
                                have hnn : Hid (R = none) := hide (by rw [← HG.out]; exact go_dup (by rw [hn.out, ← HK.out]; exact keys_dup (of_decide_eq_true hr3.out)))
                                go_wp2_with fail
                                go_ret2
                                exact ⟨_, false, rfl, HI2.out.ms.b, fun _ => hnn.out, fun h => nomatch h⟩
                              case false =>
                                go_upto_region 37 with fail
                                apply wp_region_lit
                                iterate 3
                                  refine wpList_plain rfl fun K hK => ?_
                                  go_simp
                                  refine hK _ _ ?_
                                  clear hK K
                                refine wpList_plain rfl fun K hK => ?_
                                refine wp_enterr (.tmp 139) (.tmp 141) rfl mb (fr B q) sn rfl rfl HI2.out.ms.m HI2.out.ms.s8 hr3 ?_
                                intro we hm hge
                                go_simp
                                refine hK _ _ ?_
                                clear hK K
                                have HI3 := hide (HI2.out.enter hge.out hm.out)
                                have HB3 := hide (HB2.out.grown hge.out (by have := HI2.out.ms.m.ne (HB2.out 0 (by omega)); simpa using this))
                                clear hm hge HI2 HB2 c0 c1 c2 c3 c4 c5 c6 c7
                                have c0 := HB3.out 0 (by omega)
                                have c1 := HB3.out 1 (by omega)
                                have c2 := HB3.out 2 (by omega)
                                have c3 := HB3.out 3 (by omega)
                                have c4 := HB3.out 4 (by omega)
                                have c5 := HB3.out 5 (by omega)
                                have c6 := HB3.out 6 (by omega)
                                have c7 := HB3.out 7 (by omega)
                                have e0 := HI3.out.ep 0 (by omega)
                                have e1 := HI3.out.ep 1 (by omega)
                                have e2 := HI3.out.ep 2 (by omega)
                                have e3 := HI3.out.ep 3 (by omega)
                                have e4 := HI3.out.ep 4 (by omega)
                                have e5 := HI3.out.ep 5 (by omega)
                                have e6 := HI3.out.ep 6 (by omega)
                                have e7 := HI3.out.ep 7 (by omega)
                                simp only [Nat.zero_add] at c0 c1 c2 c3 c4 c5 c6 c7
                                simp only [Nat.add_zero, Nat.reduceAdd] at e0 e1 e2 e3 e4 e5 e6 e7
                                have heq := eql40 (fr B q) (fr B (prim B pos))
                                unfold ar at heq
                                obtain ⟨r4, hr4⟩ : ∃ r4, Hid ((bl (fr B q) == bl (fr B (prim B pos))) = r4) := ⟨_, hide rfl⟩
                                rw [hr4.out] at heq
                                have hfs : Hid (fnd B pos (j + 1) = (fd || r4)) := hide (by rw [fnd_succ, ← hfd.out, hqq.out, ← hr4.out]; rfl)
                                have c9 := HI3.out.e9
                                have KR := hide HI3.out.kr
                                rw [hn.out] at c9 KR
                                cases r4
                                all_goals
                                  go_upto_region 40 with fail
                                  apply wp_region_lit
                                  refine wpList_plain rfl fun K hK => ?_
                                  go_simp
                                  refine hK _ _ ?_
                                  clear hK K
                                  refine wpList_plain rfl fun K hK => ?_
                                  go_simp
                                  refine hK _ _ ?_
                                  clear hK K
                                  refine wpList_appfit rfl rfl rfl 41 48 (.tmp 15) (.tmp 149) (.tmp 148) (.tmp 150) rfl rfl rfl i48 z48 40 _ Ybaf.underlying41 hi48 hz48 hs48 (by omega) (by omega) Ybaf.underlying48 rfl xb 0 (cl (fr B q) 40) rfl (by_cells HB3.out) (cl_len _ _) (cl_one _ _) (fun _ => rfl) kb j n (fun _ _ => rfl) (fun _ _ => rfl) w.heap.size _ KR.out (by omega) ?_
                                  intro va vb wf ho hgr
                                  clear c0 c1 c2 c3 c4 c5 c6 c7 e0 e1 e2 e3 e4 e5 e6 e7 heq
                                  have d9 := hgr.out.cell c9 (by have := HI3.out.d3; simpa using this)
                                  have f9 : wf.frozen? ⟨eb, 9, none⟩ = false := (World.frozen?_of_block (hgr.out.block eb HI3.out.elt (by have := HI3.out.d3; simpa using this))).trans HI3.out.ef
                                  have HI4 := hide (HI3.out.app hgr.out (by rw [hn.out, hqq.out]; exact ho.out))
                                  rw [hn.out] at HI4
                                  clear ho hgr c9
                                  go_wp2_with fail
                                  clear d9 f9
                                  go_roundg (n - j - 1)
                                  case measure => omega
                                  case rel =>
                                    refine ⟨j + 1, q40, _, sn ++ [idl B q], rfl, rfl, by go_num, by omega, hide (by have := hq.out; omega), hide ?_, HI4, hide ?_⟩
                                    · rw [hfs.out]; simp
                                    · rw [← HK.out, keys_next (of_decide_eq_false hr3.out), show hdr B pos + (j + 1) * 40 = q + 40 by have := hqq.out; omega]
                        · have hjn' : ¬ (j : Int) < n := by omega
                          obtain rfl : j = n := by omega
                          have hks : Hid (keys B (nk B pos) (hdr B pos) seen = some sn) := hide (by rw [hn.out, ← HK.out, Nat.sub_self]; rfl)
                          have hgood : Hid (good B N pos (es.map (·.1)) = true) := hide (good_split (by omega) hr1.out hr2.out (by rw [hn.out]; exact hn0) (by rw [hn.out]; omega))
                          cases fd
                          · have hnn : Hid (R = none) := hide (by rw [← HG.out]; exact go_unf (by rw [hn.out]; exact hfd.out.symm))
                            go_wp2_with fail
                            go_ret2
                            exact ⟨_, false, rfl, HI.out.ms.b, fun _ => hnn.out, fun h => nomatch h⟩
                          · obtain ⟨i43, z43, hi43, hz43, hzc43, hs43, hb43⟩ := info_z Ybaf.info43
                            go_upto_region 43 with fail
                            apply wp_region_lit
                            refine wpList_plain rfl fun K hK => ?_
                            go_simp
                            refine hK _ _ ?_
                            clear hK K
                            have HIn : Hid (IS w wr B mb u7 es sn eb kb pos (nk B pos)) := hide (by rw [hn.out]; exact HI.out)
                            refine wpList_app rfl rfl rfl 29 43 (.tmp 11) (.tmp 156) (.tmp 155) (.tmp 157) rfl rfl rfl i43 z43 10 48 _ Ybaf.underlying29 hi43 hz43 hs43 hb43 hzc43 (by omega) (by omega) Ybaf.underlying43 rfl eb 0 (entc B pos kb) rfl HIn.out.cells (entc_len _ _ _) (entc_one _ _ _) (fun _ => rfl) u7 (fun _ _ => rfl) (fun _ _ => rfl) w.heap.size es.length (flat B es) HI.out.ms.own (by unfold maxLen; omega) (by omega) HI.out.ms.sz ?_
                            intro va vb vc wf ho hgr
                            have HM := hide (HIn.out.done (by rw [hn.out]; omega) hgr.out ho.out)
                            clear ho hgr
                            go_wp2_with fail
                            go_roundg (ct - i - 1)
                            case measure => omega
                            case rel =>
                              refine ⟨i + 1, q, es ++ [(pos, kb)], sn, rfl, by go_num, by omega, by rw [hq.out]; omega, by rw [hq.out, List.length_append, List.length_singleton]; omega, HM, hide ?_⟩
                              rw [← HG.out, go_next hgood.out hks.out (by rw [hn.out]; exact hfd.out.symm), List.map_append, hn.out, hq0', ← hq.out, show ct - (i + 1) = kk by omega]
                              rfl
    · have hlt' : ¬ (i : Int) < ct := by omega
      obtain rfl : i = ct := by omega
      rw [Nat.sub_self, go] at HG
      by_cases hpe : pos = N
      · have he : ((pos : Int) != N) = false := by simp; omega
        rw [if_pos hpe] at HG
        go_wp2_with fail
        go_ret2
        exact ⟨_, true, rfl, MI.out.b, (fun h => nomatch h), fun _ => ⟨mb, es, seen, HG.out.symm, MI.out⟩⟩
      · have he : ((pos : Int) != N) = true := by simp; omega
        rw [if_neg hpe] at HG
        go_wp2_with fail
        go_ret2
        exact ⟨_, false, rfl, MI.out.b, fun _ => HG.out.symm, fun h => nomatch h⟩
end Go.Proofs.YbulkdznmFmt.A
