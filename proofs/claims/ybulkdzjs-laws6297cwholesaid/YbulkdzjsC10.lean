/- 6297C: the law's walk. -/
import Derived.Test.YbulkdzjsC8a
import Derived.Test.YbulkdzjsC9
namespace Go.Proofs.Ybulkdzjs.A
open Go.RowKit Flt
attribute [local go_sem] run_store_flt

set_option maxRecDepth 100000 in
set_option maxHeartbeats 4000000 in
theorem law_c (nb sb fb jb : Nat) (cu fo : Bool) (ea va fa : Option Addr) (el ecap vl vcap fl fcap : Nat) (E : Nat → Nat) (Ra : Nat → Option Addr) (Rl Rp : Nat → Nat) (R : Nat → Nat → Nat) (B : Nat → Bool) (w : World)
    (hnb : nb ≤ 255) (hsb : sb ≤ 255) (hfb : fb ≤ 255) (hjb : jb ≤ 255)
    (hE : 0 < el → ∃ b o, ea = some ⟨b, o, none⟩ ∧ ∀ i, i < el → w.cell? ⟨b, o + i, none⟩ = some (.int .u8 (E i))) (hE5 : ∀ i, E i ≤ 255)
    (hV : 0 < vl → ∃ b o, va = some ⟨b, o, none⟩ ∧ ∀ i, i < vl → w.cell? ⟨b, o + i, none⟩ = some (.slice (Ra i) (Rl i) (Rp i)))
    (hR : ∀ i, i < vl → 0 < Rl i → ∃ b o, Ra i = some ⟨b, o, none⟩ ∧ ∀ m, m < Rl i → w.cell? ⟨b, o + m, none⟩ = some (.int .u8 (R i m))) (hR5 : ∀ i m, R i m ≤ 255)
    (hF : 0 < fl → ∃ b o, fa = some ⟨b, o, none⟩ ∧ ∀ i, i < fl → w.cell? ⟨b, o + i, none⟩ = some (.bool (B i))) :
    Calls Yba.prog 5 #[.int .u8 nb, .int .u8 sb, .int .u8 fb, .int .u8 jb, .bool cu, .bool fo, .slice ea el ecap, .slice va vl vcap, .slice fa fl fcap] w fun e w' => e = .returned (.bool true) ∧ Below w.heap.size w w' := by
  obtain ⟨i5, hi5, h51, h52, h53⟩ := info_parts Yba.info5
  obtain ⟨i63, hi63, h631, h632, h633⟩ := info_parts Yba.info63
  obtain ⟨i66, hi66, h661, h662, h663⟩ := info_parts Yba.info66
  obtain ⟨i4, hi4, h41, h42, h43⟩ := info_parts Yba.info4
  obtain ⟨i69, hi69, h691, h692, h693⟩ := info_parts Yba.info69
  obtain ⟨n, hn⟩ : ∃ n : Nat, n = 1 + nb := ⟨_, rfl⟩
  obtain ⟨self, hself⟩ : ∃ s : Nat, s = 1 + sb % n := ⟨_, rfl⟩
  obtain ⟨f, hf⟩ : ∃ s : Nat, s = fb % n := ⟨_, rfl⟩
  obtain ⟨j, hj⟩ : ∃ s : Nat, s = 1 + jb % n := ⟨_, rfl⟩
  have q1 : (1 : Int) + (nb : Int) = (n : Int) := by omega
  have q2 : (1 : Int) + (sb : Int) % (n : Int) = (self : Int) := by omega
  have q3 : (fb : Int) % (n : Int) = (f : Int) := by omega
  have q4 : (1 : Int) + (jb : Int) % (n : Int) = (j : Int) := by omega
  have g1 : (nb : Int) ≤ 255 := by omega
  have g2 : (sb : Int) ≤ 255 := by omega
  have g3 : (fb : Int) ≤ 255 := by omega
  have g4 : (jb : Int) ≤ 255 := by omega
  have g5 : (n : Int) ≤ 256 := by omega
  have g6 : (1 : Int) ≤ n := by omega
  have v1 := wrapN nb (by omega)
  have v2 := wrapN sb (by omega)
  have v3 := wrapN fb (by omega)
  have v4 := wrapN jb (by omega)
  have v5 := wrapN n (by omega)
  have k1 : sb % n < n := Nat.mod_lt _ (by omega)
  have k2 : fb % n < n := Nat.mod_lt _ (by omega)
  have k3 : jb % n < n := Nat.mod_lt _ (by omega)
  have g7 : (self : Int) ≤ n := by omega
  have g8 : (1 : Int) ≤ self := by omega
  have g9 : (f : Int) < n := by omega
  have g10 : (j : Int) ≤ n := by omega
  have g11 : (1 : Int) ≤ j := by omega
  have y1 : 1 ≤ j := by omega
  have y2' : j ≤ n := by omega
  have y4' : f ≤ 256 := by omega
  clear k1 k2 k3
  have Hn := hide hn
  have Hself := hide hself
  have Hf := hide hf
  have Hj := hide hj
  clear hn hself hf hj hnb hsb hfb hjb
  have HE := hide hE
  have HE5 := hide hE5
  have HV := hide hV
  have HR := hide hR
  have HR5 := hide hR5
  have HF := hide hF
  clear hE hE5 hV hR hR5 hF
  go_enter Yba.func5, Yba.ntmps5
  go_wp2_with (at_make; refine wpList_make_rw _ rfl (.tmp 66) 63 rfl 5 i5 (.int .u8 0) Yba.underlying63 hi5 h51 h52 rfl n ?hl ?b2 ?b3 ?_)
  case hl => rfl
  case b2 => rw [h53]; omega
  case b3 => omega
  intro w1 r1 b1 l1
  have R1 := hide r1
  have B1 := hide b1
  clear r1 b1
  go_wp2_with (at_make; refine wpList_make_rw _ rfl (.tmp 68) 64 rfl 63 i63 (.slice none 0 0) Yba.underlying64 hi63 h631 h632 rfl n ?hl ?b2 ?b3 ?_)
  case hl => rfl
  case b2 => rw [h633]; omega
  case b3 => omega
  intro w2 r2 b2 l2
  have R2 := hide r2
  have B2 := hide b2
  clear r2 b2
  go_wp2_with (at_make; refine wpList_make_rw _ rfl (.tmp 70) 65 rfl 4 i4 (.bool false) Yba.underlying65 hi4 h41 h42 rfl n ?hl ?b2 ?b3 ?_)
  case hl => rfl
  case b2 => rw [h43]; omega
  case b3 => omega
  intro w3 r3 b3 l3
  have R3 := hide r3
  have B3 := hide b3
  clear r3 b3
  go_wp2_with (at_make; refine wpList_make_rwE _ rfl (.tmp 72) 66 rfl 69 i69 (.agg #[.float .f64 0, .bool false]) Yba.underlying66 hi69 h691 h692 rfl n ?hl ?b2 ?b3 ?_)
  case hl => rfl
  case b2 => rw [h693]; omega
  case b3 => omega
  intro w4 r4 b4 l4
  have R4 := hide r4
  have B4 := hide b4
  clear r4 b4
  go_wp2_with (at_make; refine wpList_make_rw _ rfl (.tmp 74) 67 rfl 66 i66 (.slice none 0 0) Yba.underlying67 hi66 h661 h662 rfl n ?hl ?b2 ?b3 ?_)
  case hl => rfl
  case b2 => rw [h663]; omega
  case b3 => omega
  intro w5 r5 b5 l5
  have R5 := hide r5
  have B5 := hide b5
  clear r5 b5
  go_wp2_with (at_make; refine wpList_make_rw _ rfl (.tmp 76) 65 rfl 4 i4 (.bool false) Yba.underlying65 hi4 h41 h42 rfl n ?hl ?b2 ?b3 ?_)
  case hl => rfl
  case b2 => rw [h43]; omega
  case b3 => omega
  intro w6 r6 b6 l6
  have R6 := hide r6
  have B6 := hide b6
  clear r6 b6
  obtain ⟨N, hN⟩ : ∃ N : Nd, N = ⟨n, self, f, cu, fo, fun i => if i < el then E i % 6 else 0, fun i => decide (i < vl) && (Ra i).isSome, fun i m => if m < Rl i then R i m % 6 else 0, fun i => if i < fl then B i else false⟩ := ⟨_, rfl⟩
  have Nn : Hid (N.n = n) := by rw [hN]; exact hide rfl
  have Ns : Hid (N.self = self) := by rw [hN]; exact hide rfl
  have Nf : Hid (N.f = f) := by rw [hN]; exact hide rfl
  have Ncu : Hid (N.cu = cu) := by rw [hN]; exact hide rfl
  have Nfo : Hid (N.fo = fo) := by rw [hN]; exact hide rfl
  have Nec : Hid (∀ i, N.ec i = if i < el then E i % 6 else 0) := by rw [hN]; exact hide (fun _ => rfl)
  have Nnn : Hid (∀ i, N.nn i = (decide (i < vl) && (Ra i).isSome)) := by rw [hN]; exact hide (fun _ => rfl)
  have Nvc : Hid (∀ i m, N.vc i m = if m < Rl i then R i m % 6 else 0) := by rw [hN]; exact hide (fun _ _ => rfl)
  have Ncf : Hid (∀ i, N.cf i = if i < fl then B i else false) := by rw [hN]; exact hide (fun _ => rfl)
  clear hN
  obtain ⟨ce, hce⟩ : ∃ c, w.heap.size = c := ⟨_, rfl⟩
  obtain ⟨cv, hcv⟩ : ∃ c, w1.heap.size = c := ⟨_, rfl⟩
  obtain ⟨cf, hcf⟩ : ∃ c, w2.heap.size = c := ⟨_, rfl⟩
  obtain ⟨eb, heb⟩ : ∃ c, w3.heap.size = c := ⟨_, rfl⟩
  obtain ⟨vb, hvb⟩ : ∃ c, w4.heap.size = c := ⟨_, rfl⟩
  obtain ⟨xb, hxb⟩ : ∃ c, w5.heap.size = c := ⟨_, rfl⟩
  rw [hce, hcv, hcf, heb, hvb, hxb]
  have D0 : Hid (Bd ⟨ce, cv, cf, eb, vb, xb, fun _ => xb + 1, fun _ => xb + 1⟩ N 0 0 0 0 0 w w6) := hide (by
    have c1 := B1.out
    have c2 := B2.out
    have c3 := B3.out
    have c4 := B4.out
    have c5 := B5.out
    have c6 := B6.out
    have z1 := R1.out
    have z2 := R2.out
    have z3 := R3.out
    have z4 := R4.out
    have z5 := R5.out
    have z6 := R6.out
    rw [hce] at z1 
    rw [hcv] at z2
    rw [hcf] at z3
    rw [heb] at z4
    rw [hvb] at z5
    rw [hxb] at z6
    refine ⟨?_, ?_, ?_, ?_, ?_, ?_, fun k hk => by omega, ?_, ⟨by show w.heap.size ≤ ce; omega, by show ce < cv; omega, by show cv < cf; omega, by show cf < eb; omega, by show eb < vb; omega, by show vb < xb; omega, fun k => by show xb < xb + 1; omega, fun k => by show xb < xb + 1; omega⟩⟩
    · rw [pr_zero, Nn.out]; exact ((((z1.below c2).below c3).below c4).below c5).below c6
    · rw [pr_zero, Nn.out]; exact (z4.below c5).below c6
    · rw [pr_zero, Nn.out]; exact ((z3.below c4).below c5).below c6
    · rw [pr_zero, Nn.out]; exact z6
    · rw [pr_zero, Nn.out]; exact (((z2.below c3).below c4).below c5).below c6
    · rw [pr_zero, Nn.out]; exact z5.below c6
    · have := c1.size; have := c2.size; have := c3.size; have := c4.size; have := c5.size
      exact ((((c1.trans (c2.mono (by omega))).trans (c3.mono (by omega))).trans (c4.mono (by omega))).trans (c5.mono (by omega))).trans (c6.mono (by omega)))
  have o1 : ce < cv := by omega
  have o2 : cv < cf := by omega
  have o3 : cf < eb := by omega
  have o4 : eb < vb := by omega
  have o5 : vb < xb := by omega
  clear R1 R2 R3 R4 R5 R6 B1 B2 B3 B4 B5 B6 l1 l2 l3 l4 l5 l6 hcv hcf heb hvb hxb
  clear w1 w2 w3 w4 w5
  have n1 : 1 ≤ n := by omega
  have n2 : n ≤ 256 := by omega
  go_upto_block 0 with fail
  refine loop1_c n N ea va fa el ecap vl vcap fl fcap E Ra Rl Rp R B ce cv cf eb vb xb w w6 _ _ _ (fun _ _ h => h) ?hJ n1 n2 o1 o2 o3 o4 o5 HE HE5 HV HR HR5 HF Nn Nec Nnn Nvc Ncf D0
  case hJ =>
    clear D0
    intro x29 x30 x31 x32 x78 x79 x80 x81 x82 x83 x84 x85 x86 x87 x88 x89 x90 x91 x92 x93 x94 x95 x96 x97 x98 x99 x100 x101 x102 x103 x104 x105 x106 x107 x108 x109 x110 x111 x112 x113 x114 x115 x116 x117 x118 x119 x120 x121 x122 x123 x124 x125 x126 x127 x128 x129 x130 x131 x132 x133 x134 x135 x136 x137 x138 x139 x140 x141 x142 x143 x144 x145 x146 x147 x148 x149 x150 x151 x152 x153 x154 x155 x156 x157 x158 x159 x160 x161 x162 x163 x164 x165 x166 x167 x168 x169 x170 x171 x172 x173 x174 rc rb wa DI
    obtain ⟨i46, hi46, h461, h462, h463⟩ := info_parts Yba.info46
    obtain ⟨m, hm⟩ : ∃ m : Nat, (n : Int) / 64 + 1 = m := ⟨n / 64 + 1, by omega⟩
    have hm5 : m ≤ 5 := by omega
    have hmw := wrapN m (by omega)
    go_wp2_with (at_make; refine wpList_make_rw _ rfl (.tmp 178) 72 rfl 46 i46 (.int .u64 0) Yba.underlying72 hi46 h461 h462 rfl m ?hl ?b2 ?b3 ?_)
    case hl => rfl
    case b2 => rw [h463]; omega
    case b3 => omega
    intro w7 r7 b7 l7
    have DJ := hide (DI.out.below b7)
    clear DI r7 b7 l7 hm hm5 hmw
    go_wp2_with fail
    have DN : Hid (Bd ⟨ce, cv, cf, eb, vb, xb, rc, rb⟩ N N.n N.n N.n N.n N.n w w7) := hide (by rw [Nn.out]; exact DJ.out)
    obtain ⟨cb, hcb⟩ : ∃ c, Hid (w7.heap.size = c) := ⟨_, hide rfl⟩
    have S8 := sd_mk DN.out (.int .i64 1) (.float .f64 0) (.int .i64 0) (.slice (some ⟨wa.heap.size, 0, none⟩) m m) (.int .i64 0) (.bool false) (.slice none 0 0) (.slice none 0 0)
    rw [Nn.out, Ns.out, Nf.out, Ncu.out, Nfo.out] at S8
    obtain ⟨w8, hw8⟩ : ∃ w8 : World, Hid (w8 = w7.alloc (.cells #[.int .i64 n, .int .i64 1, .float .f64 0, .int .i64 0, .slice (some ⟨wa.heap.size, 0, none⟩) m m, .int .i64 0, .bool false, .int .i64 self, .int .i64 f, .int .i64 2, .bool cu, .bool fo, .slice (some ⟨eb, 0, none⟩) n n, .slice (some ⟨vb, 0, none⟩) n n, .slice (some ⟨xb, 0, none⟩) n n, .slice none 0 0, .slice none 0 0] 78)) := ⟨_, hide rfl⟩
    have c16 : Hid (w8.cell? ⟨w7.heap.size, 16, none⟩ = some (.slice none 0 0)) := hide (by rw [hw8.out]; exact World.cell?_alloc_at (w := w7) _ 78 _ 16 rfl)
    have f16 : Hid (w8.frozen? ⟨w7.heap.size, 16, none⟩ = false) := hide (by rw [hw8.out]; exact World.frozen?_alloc_at (w := w7) _ 78 _ 16 rfl)
    have b8 : Hid (Below w7.heap.size w7 w8) := hide (by rw [hw8.out]; exact (Below.refl _ _).alloc (Nat.le_refl _) _)
    rw [← hw8.out] at S8 ⊢
    have S8' := hide S8
    clear S8
    have hdj : Hid (Dj ⟨w7.heap.size, eb, vb, xb, rb⟩ N ∧ ce ≠ w7.heap.size ∧ cf ≠ w7.heap.size ∧ cv ≠ w7.heap.size ∧ ∀ i, i < N.n → N.nn i = true → rc i ≠ w7.heap.size) := hide (by
      have hlast : xb < w7.heap.size := DN.out.g.lt (by rw [Nn.out]; omega)
      refine ⟨⟨?_, ?_, ?_, fun i hi hn => ?_⟩, ?_, ?_, ?_, fun i hi hn => ?_⟩
      · show eb ≠ w7.heap.size; omega
      · show vb ≠ w7.heap.size; omega
      · show xb ≠ w7.heap.size; omega
      · have := (DN.out.r i hi hn).2.lt (by rw [Nn.out]; omega); show rb i ≠ w7.heap.size; exact Nat.ne_of_lt this
      · omega
      · omega
      · omega
      · have := (DN.out.r i hi hn).1.lt (by rw [Nn.out]; omega); exact Nat.ne_of_lt this)
    have hvc5 : Hid (∀ k i, N.vc k i ≤ 5) := hide (fun k i => by rw [Nvc.out]; split <;> omega)
    have hec5 : Hid (∀ i, N.ec i ≤ 5) := hide (fun i => by rw [Nec.out]; split <;> omega)
    have y2 : j ≤ N.n := by rw [Nn.out]; exact y2'
    have y3 : N.n ≤ 256 := by rw [Nn.out]; exact n2
    have y4 : N.f ≤ 256 := by rw [Nf.out]; exact y4'
    have hcall : Hid (Calls Yba.prog 17 #[.pointer (some ⟨w7.heap.size, 0, none⟩), .int .i64 j] w8 (fun e w' => e = .returned (ent (kept N j)) ∧ Kp w7.heap.size w8 w')) := hide (keptEntry_f ⟨w7.heap.size, eb, vb, xb, rb⟩ N j w8 S8'.out.cc hdj.out.1 c16.out f16.out y1 y2 y3 y4 hvc5.out hec5.out)
    clear y2 y3 y4
    refine hcall.out.mono ?_
    clear hcall
    rintro e w9 ⟨rfl, hk⟩
    have S9 := hide (S8'.out.kp hk hdj.out.1 hdj.out.2.1 hdj.out.2.2.1 hdj.out.2.2.2.1 hdj.out.2.2.2.2)
    have b9 : Hid (Below w.heap.size w w9) := hide ((DN.out.b.trans (b8.out.mono DN.out.b.size)).grown hk.1 (Nat.le_trans DN.out.b.size b8.out.size) (fun k e => by injection e with e; rw [← e]; exact DN.out.b.size))
    clear hk S8' b8 f16 c16 hdj DN DJ hw8
    rw [hcb.out] at S9 ⊢
    clear hcb
    obtain ⟨A, hA⟩ : ∃ A : At, Hid (A = ⟨cb, eb, vb, xb, rb⟩) := ⟨_, hide rfl⟩
    obtain ⟨D, hD⟩ : ∃ D : Ab, Hid (D = ⟨ce, cv, cf, eb, vb, xb, rc, rb⟩) := ⟨_, hide rfl⟩
    obtain ⟨K, hK⟩ : ∃ K, Hid (kept N j = K) := ⟨_, hide rfl⟩
    rw [hK.out]
    unfold ent
    go_upto_region 34 with fail
    have DY : Hid (Dy w9 w9.heap.size (w9.heap.size + 1) K 0 ((w9.alloc (.cells #[.float .f64 (wd K), .bool (vd K)] 69)).alloc (.cells #[.float .f64 0, .bool false] 69))) := hide (by
      have a1 : Below w9.heap.size w9 (w9.alloc (.cells #[.float .f64 (wd K), .bool (vd K)] 69)) := (Below.refl _ _).alloc (Nat.le_refl _) _
      have hs : (w9.alloc (.cells #[.float .f64 (wd K), .bool (vd K)] 69)).heap.size = w9.heap.size + 1 := by simp
      have a2 : Below (w9.alloc (.cells #[.float .f64 (wd K), .bool (vd K)] 69)).heap.size (w9.alloc (.cells #[.float .f64 (wd K), .bool (vd K)] 69)) ((w9.alloc (.cells #[.float .f64 (wd K), .bool (vd K)] 69)).alloc (.cells #[.float .f64 0, .bool false] 69)) := (Below.refl _ _).alloc (Nat.le_refl _) _
      have p1 := (Pr.alloc w9 (wd K) (vd K) 69).grown (below_grown a2 none) (by simp)
      have p2 := Pr.alloc (w9.alloc (.cells #[.float .f64 (wd K), .bool (vd K)] 69)) 0 false 69
      rw [hs] at p2
      exact ⟨a1.trans (a2.mono (by omega)), p1, p2, Nat.le_refl _, by omega, by omega⟩)
    generalize (w9.alloc (.cells #[.float .f64 (wd K), .bool (vd K)] 69)).alloc (.cells #[.float .f64 0, .bool false] 69) = wg at DY ⊢
    generalize w9.heap.size + 1 = wb at DY ⊢
    generalize w9.heap.size = gb at DY ⊢
    obtain ⟨p, hp⟩ : ∃ p : Nat, (j : Int) - 1 = p := ⟨j - 1, by omega⟩
    have hp' : Hid (j - 1 = p) := hide (by omega)
    have i1 : (p : Int) < n := by omega
    have i2 : Hid (p < N.n) := hide (by rw [Nn.out]; omega)
    have SG := hide (S9.out.below DY.out.1)
    obtain ⟨dr, hdr⟩ : ∃ dr, Hid ((if j = N.self then N.cu else N.cf (j - 1)) = dr) := ⟨_, hide rfl⟩
    go_cut [36] from 194 to 194 (fun v wx => v = .bool dr ∧ wx = wg)
    case first =>
      -- BEGIN2
      have cp := SG.out.f p i2.out
      by_cases e : j = self
      · have e' : ((j : Int) == self) = true := by simp; omega
        have hd : Hid (dr = cu) := hide (by rw [← hdr.out, Ns.out, if_pos e, Ncu.out])
        clear e
        cases cu
        · have e'' : ((j : Int) != self) = false := by simp; simpa using e'
          go_wp2_with fail
          go_meet
          case rel => exact ⟨by rw [hd.out], rfl⟩
        · go_wp2_with fail
          go_meet
          case rel => exact ⟨by rw [hd.out], rfl⟩
      · have e' : ((j : Int) == self) = false := by simp; omega
        have e'' : ((j : Int) != self) = true := by simp; omega
        have hd : Hid (dr = N.cf p) := hide (by rw [← hdr.out, Ns.out, if_neg e, hp'.out])
        clear e
        go_wp2_with fail
        go_meet
        case rel => exact ⟨by rw [hd.out], rfl⟩
      -- END2
    case rest =>
      obtain ⟨rfl, hw⟩ := hcut
      rw [hw]
      clear hw
      go_upto_if 213 with fail
      refine wp_cut (fun a' w' => fin5.wp Yba.prog (bodyPost Yba.prog Yba.f5 (fun e w' => e = .returned (.bool true) ∧ Below w.heap.size w w')) a' w') ?rest ?first
      case rest => assumption
      case first =>
        intro J K' hJ' hM
        have hJ := hide hJ'
        clear hJ'
        cases dr
        · -- BEGIN3
          have hdr' : Hid (¬ (if j = N.self then N.cu else N.cf (j - 1)) = true) := hide (by rw [hdr.out]; decide)
          cases fo
          · have hk1 : Hid (K = if N.ec p ≠ 0 ∧ (N.n : Int) - N.f ≤ ((1 + cnt (Tr N p (N.ec p)) N.n : Nat) : Int) then N.ec p else 0) := hide (by
              rw [← hK.out]; unfold kept; rw [if_neg hdr'.out, if_neg (by rw [Nfo.out]; decide), hp'.out])
            have ep := SG.out.e p i2.out
            obtain ⟨c, hc⟩ : ∃ c, Hid (N.ec p = c) := ⟨_, hide rfl⟩
            have hc5 : c ≤ 5 := by rw [← hc.out]; exact hec5.out p
            rw [hc.out] at ep
            by_cases hc0 : c = 0
            · subst hc0
              have hz : K = 0 := by rw [hk1.out, if_neg (fun h => h.1 hc.out)]
              subst hz
              go_wp2_with fail
              exact Met.intro (hJ.out _ _ (final_c ⟨cb, eb, vb, xb, rb⟩ ⟨ce, cv, cf, eb, vb, xb, rc, rb⟩ N n self f j ce cv cf cb gb wb _ _ _ w w9 _ S9.out b9.out DY.out rfl rfl rfl rfl Nn.out Ns.out Nf.out Ncu.out Nfo.out n2 hec5.out hvc5.out))
            · have hc0' : ((c : Int) != 0) = true := by simp; omega
              have hc1 : Hid (N.f = f) := Nf
              go_upto_block 10 with fail
              go_cut [45] from 300 to 300 (fun v wx => v = .int .i64 (1 + cnt (Tr N p c) n : Nat) ∧ wx = wg)
              case first =>
                -- BEGIN4
                go_wp2_with fail
                go_loopw [45, 46] (fun vc vk wr => ∃ k : Nat, vk = .int .i64 (k + 1) ∧ vc = .int .i64 (1 + cnt (Tr N p c) k : Nat) ∧ k ≤ n ∧ wr = wg) (fun _ vk _ => n + 1 - (intOf vk).toNat)
                case atStart => exact ⟨0, rfl, rfl, Nat.zero_le _, rfl⟩
                case round =>
                  obtain ⟨k, rfl, rfl, hk, hwr⟩ := hrel
                  rw [hwr]
                  clear hwr
                  have hle := cnt_le (Tr N p c) k
                  obtain ⟨M, hM⟩ : ∃ M : Nat, Hid (1 + cnt (Tr N p c) k = M) := ⟨_, hide rfl⟩
                  have hM' : M ≤ 257 := by have := hM.out; omega
                  rw [hM.out]
                  clear hle
                  have step : Hid (∀ b : Bool, Tr N p c k = b → 1 + cnt (Tr N p c) (k + 1) = M + (if b then 1 else 0)) := hide (fun b e => by rw [cnt, e, ← hM.out]; omega)
                  by_cases hlt : k < n
                  · have hlt' : (k : Int) < n := by omega
                    have hlt2 : (k : Int) + 1 ≤ n := by omega
                    have hltN : k < N.n := by rw [Nn.out]; exact hlt
                    have hco := SG.out.f k hltN
                    have hve := SG.out.v k hltN
                    unfold slc at hve
                    by_cases hse : k + 1 = self
                    · have hse' : ((k : Int) + 1 == (self : Int)) = true := by simp; omega
                      go_wp2_with fail
                      go_roundw
                      case rel => exact ⟨k + 1, by go_num, by rw [step.out false (by simp [Tr, Ns.out, hse])]; rfl, by omega, by first | rfl | trivial⟩
                      case measure => simp [intOf]; omega
                    · have hse' : ((k : Int) + 1 == (self : Int)) = false := by simp; omega
                      have hse2 : Hid ((k + 1 != N.self) = true) := hide (by rw [Ns.out]; simpa using hse)
                      obtain ⟨b1, hb1⟩ : ∃ b1, Hid (N.cf k = b1) := ⟨_, hide rfl⟩
                      rw [hb1.out] at hco
                      cases b1
                      · obtain ⟨b2, hb2⟩ : ∃ b2, Hid (N.nn k = b2) := ⟨_, hide rfl⟩
                        rw [hb2.out] at hve
                        cases b2
                        · have hve' : wg.cell? ⟨cv, k, none⟩ = some (.slice none 0 0) := by simpa using hve
                          clear hve
                          have hneq := fun W => run_neq_slice_nil_any (P := Yba.prog) W 63 5 none 0 0 0 0 Yba.underlying63
                          go_wp2_with fail
                          go_roundw
                          case rel => exact ⟨k + 1, by go_num, by rw [step.out false (by simp [Tr, hb1.out, hb2.out])]; rfl, by omega, by first | rfl | trivial⟩
                          case measure => simp [intOf]; omega
                        · have hve' : wg.cell? ⟨cv, k, none⟩ = some (.slice (some ⟨rc k, 0, none⟩) n n) := by rw [Nn.out] at hve; simpa using hve
                          clear hve
                          have hneq := fun W => run_neq_slice_nil_any (P := Yba.prog) W 63 5 (some ⟨rc k, 0, none⟩) n n 0 0 Yba.underlying63
                          have q1 := SG.out.r k hltN hb2.out p i2.out
                          have ht : Hid (Tr N p c k = (c != 5 && N.vc k p == c)) := hide (by simp only [Tr, hse2.out, hb1.out, hb2.out, Bool.true_and, Bool.false_or])
                          by_cases h5 : c = 5
                          · have h5' : ((c : Int) != 5) = false := by simp; omega
                            have ht2 : Hid (Tr N p c k = false) := hide (by rw [ht.out, h5]; rfl)
                            clear ht
                            go_wp2_with fail
                            go_roundw
                            case rel => exact ⟨k + 1, by go_num, by rw [step.out false ht2.out]; rfl, by omega, by first | rfl | trivial⟩
                            case measure => simp [intOf]; omega
                          · have h5' : ((c : Int) != 5) = true := by simp; omega
                            by_cases h6 : N.vc k p = c
                            · have h6' : ((N.vc k p : Int) == (c : Int)) = true := by simp; omega
                              have ht2 : Hid (Tr N p c k = true) := hide (by rw [ht.out]; simp [h5, h6])
                              have h6'' := hide h6
                              clear ht h6
                              go_wp2_with fail
                              go_roundw
                              case rel => exact ⟨k + 1, by go_num, by rw [step.out true ht2.out]; go_num, by omega, by first | rfl | trivial⟩
                              case measure => simp [intOf]; omega
                            · have h6' : ((N.vc k p : Int) == (c : Int)) = false := by simp; omega
                              have ht2 : Hid (Tr N p c k = false) := hide (by rw [ht.out]; simp [h6])
                              clear ht
                              go_wp2_with fail
                              go_roundw
                              case rel => exact ⟨k + 1, by go_num, by rw [step.out false ht2.out]; rfl, by omega, by first | rfl | trivial⟩
                              case measure => simp [intOf]; omega
                      · go_wp2_with fail
                        go_roundw
                        case rel => exact ⟨k + 1, by go_num, by rw [step.out true (by simp only [Tr, hse2.out, hb1.out, Bool.true_and, Bool.true_or])]; go_num, by omega, by first | rfl | trivial⟩
                        case measure => simp [intOf]; omega
                  · obtain rfl : k = n := by omega
                    have hlt' : ¬ ((k : Int) + 1 ≤ k) := by omega
                    go_wp2_with fail
                    go_meet
                    case rel => exact ⟨by rw [hM.out], rfl⟩
                -- END4
              case rest =>
                obtain ⟨rfl, hw⟩ := hcut
                rw [hw]
                clear hw
                have hle := cnt_le (Tr N p c) n
                obtain ⟨M, hM⟩ : ∃ M : Nat, Hid (1 + cnt (Tr N p c) n = M) := ⟨_, hide rfl⟩
                have hM' : M ≤ 257 := by have := hM.out; omega
                rw [hM.out]
                clear hle
                by_cases hq : (n : Int) - f ≤ M
                · have hqd : decide ((n : Int) - f ≤ M) = true := by simpa using hq
                  have hz : Hid (K = c) := hide (by rw [hk1.out, hc.out, if_pos ⟨hc0, by rw [Nn.out, Nf.out, hM.out]; exact hq⟩])
                  go_wp2_with fail
                  refine (cval_f c c wg (by omega) (by omega)).mono ?_
                  rintro e wh ⟨rfl, hb⟩
                  have DZ := hide (DY.out.below hb)
                  clear hb
                  obtain ⟨u1, u2, u3, u4⟩ := DZ.out.2.2.1
                  unfold ent
                  go_wp2_with fail
                  have DP := DZ.out.put c
                  rw [hz.out] at DP
                  exact Met.intro (hJ.out _ _ (final_c ⟨cb, eb, vb, xb, rb⟩ ⟨ce, cv, cf, eb, vb, xb, rc, rb⟩ N n self f j ce cv cf cb gb wb _ _ _ w w9 _ S9.out b9.out DP rfl rfl rfl rfl Nn.out Ns.out Nf.out Ncu.out Nfo.out n2 hec5.out hvc5.out))
                · have hqd : decide ((n : Int) - f ≤ M) = false := by simpa using hq
                  have hz : K = 0 := by rw [hk1.out, hc.out, if_neg (fun h => hq (by have h2 := h.2; rw [Nn.out, Nf.out, hM.out] at h2; exact h2))]
                  subst hz
                  go_wp2_with fail
                  exact Met.intro (hJ.out _ _ (final_c ⟨cb, eb, vb, xb, rb⟩ ⟨ce, cv, cf, eb, vb, xb, rc, rb⟩ N n self f j ce cv cf cb gb wb _ _ _ w w9 _ S9.out b9.out DY.out rfl rfl rfl rfl Nn.out Ns.out Nf.out Ncu.out Nfo.out n2 hec5.out hvc5.out))
          · have hk1 : Hid (K = wq N p) := hide (by
              rw [← hK.out]; unfold kept; rw [if_neg hdr'.out, if_pos Nfo.out, hp'.out])
            go_upto_block 4 with fail
            go_cut [37] from 215 to 215 (fun v wx => v = .int .i64 (1 + cnt (Cn N) n : Nat) ∧ wx = wg)
            case first =>
              -- BEGIN5
              go_wp2_with fail
              go_loopw [37, 38] (fun vc vk wr => ∃ k : Nat, vk = .int .i64 (k + 1) ∧ vc = .int .i64 (1 + cnt (Cn N) k : Nat) ∧ k ≤ n ∧ wr = wg) (fun _ vk _ => n + 1 - (intOf vk).toNat)
              case atStart => exact ⟨0, rfl, rfl, Nat.zero_le _, rfl⟩
              case round =>
                obtain ⟨k, rfl, rfl, hk, hwr⟩ := hrel
                rw [hwr]
                clear hwr
                have hle := cnt_le (Cn N) k
                obtain ⟨M, hM⟩ : ∃ M : Nat, Hid (1 + cnt (Cn N) k = M) := ⟨_, hide rfl⟩
                have hM' : M ≤ 257 := by have := hM.out; omega
                rw [hM.out]
                clear hle
                have step : Hid (∀ b : Bool, Cn N k = b → 1 + cnt (Cn N) (k + 1) = M + (if b then 1 else 0)) := hide (fun b e => by rw [cnt, e, ← hM.out]; omega)
                by_cases hlt : k < n
                · have hlt' : (k : Int) < n := by omega
                  have hlt2 : (k : Int) + 1 ≤ n := by omega
                  have hltN : k < N.n := by rw [Nn.out]; exact hlt
                  have hco := SG.out.f k hltN
                  by_cases hse : k + 1 = self
                  · have hse' : ((k : Int) + 1 != (self : Int)) = false := by simp; omega
                    go_wp2_with fail
                    go_roundw
                    case rel => exact ⟨k + 1, by go_num, by rw [step.out false (by simp [Cn, Ns.out, hse])]; rfl, by omega, by first | rfl | trivial⟩
                    case measure => simp [intOf]; omega
                  · have hse' : ((k : Int) + 1 != (self : Int)) = true := by simp; omega
                    have hse2 : Hid ((k + 1 != N.self) = true) := hide (by rw [Ns.out]; simpa using hse)
                    obtain ⟨b1, hb1⟩ : ∃ b1, Hid (N.cf k = b1) := ⟨_, hide rfl⟩
                    rw [hb1.out] at hco
                    cases b1
                    · go_wp2_with fail
                      go_roundw
                      case rel => exact ⟨k + 1, by go_num, by rw [step.out false (by simp [Cn, hb1.out])]; rfl, by omega, by first | rfl | trivial⟩
                      case measure => simp [intOf]; omega
                    · go_wp2_with fail
                      go_roundw
                      case rel => exact ⟨k + 1, by go_num, by rw [step.out true (by simp only [Cn, hse2.out, hb1.out, Bool.true_and])]; go_num, by omega, by first | rfl | trivial⟩
                      case measure => simp [intOf]; omega
                · obtain rfl : k = n := by omega
                  have hlt' : ¬ ((k : Int) + 1 ≤ k) := by omega
                  go_wp2_with fail
                  go_meet
                  case rel => exact ⟨by rw [hM.out], rfl⟩
              -- END5
            case rest =>
              obtain ⟨rfl, hw⟩ := hcut
              rw [hw]
              clear hw
              have hle := cnt_le (Cn N) n
              obtain ⟨M, hM⟩ : ∃ M : Nat, Hid (1 + cnt (Cn N) n = M) := ⟨_, hide rfl⟩
              have hM' : M ≤ 257 := by have := hM.out; omega
              rw [hM.out]
              clear hle
              go_upto_block 6 with fail
              go_cut [39, 40] from 232 to 232 (fun vq vw wx => vq = .int .i64 (qu (Ql N p) 3 : Nat) ∧ vw = .int .u8 (wcd (Ql N p) 3 : Nat) ∧ wx = wg)
              case first =>
                -- BEGIN6
                go_wp2_with fail
                go_loopg [39, 40, 41] 3 (fun g vq vw vcd wr => ∃ c : Nat, vq = .int .i64 (qu (Ql N p) c : Nat) ∧ vw = .int .u8 (wcd (Ql N p) c : Nat) ∧ vcd = .int .u8 ((c : Int) + 1) ∧ c + g = 3 ∧ wr = wg)
                case atStart => exact ⟨0, rfl, rfl, rfl, rfl, rfl⟩
                case round =>
                  obtain ⟨c, rfl, rfl, rfl, hcg, hwr⟩ := hrel
                  rw [hwr]
                  clear hwr
                  have hql := qu_le (Ql N p) c
                  have hwl := wcd_le (Ql N p) c
                  obtain ⟨q, hq⟩ : ∃ q : Nat, Hid (qu (Ql N p) c = q) := ⟨_, hide rfl⟩
                  obtain ⟨wq', hwq⟩ : ∃ q : Nat, Hid (wcd (Ql N p) c = q) := ⟨_, hide rfl⟩
                  rw [hq.out] at hql ⊢
                  rw [hwq.out] at hwl ⊢
                  by_cases hc3 : c < 3
                  · have hc3' : (c : Int) + 1 ≤ 3 := by omega
                    go_upto_block 8 with fail
                    go_cut [42] (fun v wx => v = .int .i64 (cnt (Sp N p (c + 1)) n : Nat) ∧ wx = wg)
                    case first =>
                      go_wp2_with fail
                      go_loopw [42, 43] (fun vc vk wr => ∃ k : Nat, vk = .int .i64 (k + 1) ∧ vc = .int .i64 (cnt (Sp N p (c + 1)) k : Nat) ∧ k ≤ n ∧ wr = wg) (fun _ vk _ => n + 1 - (intOf vk).toNat)
                      case atStart => exact ⟨0, rfl, rfl, Nat.zero_le _, rfl⟩
                      case round =>
                        obtain ⟨k, rfl, rfl, hk, hwr⟩ := hrel
                        rw [hwr]
                        clear hwr
                        have hle := cnt_le (Sp N p (c + 1)) k
                        obtain ⟨S, hS⟩ : ∃ M : Nat, Hid (cnt (Sp N p (c + 1)) k = M) := ⟨_, hide rfl⟩
                        have hS' : S ≤ 257 := by have := hS.out; omega
                        rw [hS.out]
                        clear hle
                        have step : Hid (∀ b : Bool, Sp N p (c + 1) k = b → cnt (Sp N p (c + 1)) (k + 1) = S + (if b then 1 else 0)) := hide (fun b e => by rw [cnt, e, ← hS.out])
                        by_cases hlt : k < n
                        · have hlt' : (k : Int) < n := by omega
                          have hlt2 : (k : Int) + 1 ≤ n := by omega
                          have hltN : k < N.n := by rw [Nn.out]; exact hlt
                          have hco := SG.out.f k hltN
                          have hve := SG.out.v k hltN
                          unfold slc at hve
                          by_cases hse : k + 1 = self
                          · have hse' : ((k : Int) + 1 != (self : Int)) = false := by simp; omega
                            go_wp2_with fail
                            go_roundw
                            case rel => exact ⟨k + 1, by go_num, by rw [step.out false (by simp [Sp, Ns.out, hse])]; rfl, by omega, by first | rfl | trivial⟩
                            case measure => simp [intOf]; omega
                          · have hse' : ((k : Int) + 1 != (self : Int)) = true := by simp; omega
                            have hse2 : Hid ((k + 1 != N.self) = true) := hide (by rw [Ns.out]; simpa using hse)
                            obtain ⟨b1, hb1⟩ : ∃ b1, Hid (N.cf k = b1) := ⟨_, hide rfl⟩
                            rw [hb1.out] at hco
                            cases b1
                            · obtain ⟨b2, hb2⟩ : ∃ b2, Hid (N.nn k = b2) := ⟨_, hide rfl⟩
                              rw [hb2.out] at hve
                              cases b2
                              · have hve' : wg.cell? ⟨cv, k, none⟩ = some (.slice none 0 0) := by simpa using hve
                                clear hve
                                have hneq := fun W => run_neq_slice_nil_any (P := Yba.prog) W 63 5 none 0 0 0 0 Yba.underlying63
                                go_wp2_with fail
                                go_roundw
                                case rel => exact ⟨k + 1, by go_num, by rw [step.out false (by simp [Sp, hb2.out])]; rfl, by omega, by first | rfl | trivial⟩
                                case measure => simp [intOf]; omega
                              · have hve' : wg.cell? ⟨cv, k, none⟩ = some (.slice (some ⟨rc k, 0, none⟩) n n) := by rw [Nn.out] at hve; simpa using hve
                                clear hve
                                have hneq := fun W => run_neq_slice_nil_any (P := Yba.prog) W 63 5 (some ⟨rc k, 0, none⟩) n n 0 0 Yba.underlying63
                                have q1 := SG.out.r k hltN hb2.out p i2.out
                                have ht : Hid (Sp N p (c + 1) k = (N.vc k p == c + 1)) := hide (by simp only [Sp, hse2.out, hb1.out, hb2.out, Bool.true_and, Bool.not_false])
                                by_cases h6 : N.vc k p = c + 1
                                · have h6' : ((N.vc k p : Int) == (c : Int) + 1) = true := by simp; omega
                                  have ht2 : Hid (Sp N p (c + 1) k = true) := hide (by rw [ht.out]; simp [h6])
                                  clear ht h6
                                  go_wp2_with fail
                                  go_roundw
                                  case rel => exact ⟨k + 1, by go_num, by rw [step.out true ht2.out]; go_num, by omega, by first | rfl | trivial⟩
                                  case measure => simp [intOf]; omega
                                · have h6' : ((N.vc k p : Int) == (c : Int) + 1) = false := by simp; omega
                                  have ht2 : Hid (Sp N p (c + 1) k = false) := hide (by rw [ht.out]; simp [h6])
                                  clear ht h6
                                  go_wp2_with fail
                                  go_roundw
                                  case rel => exact ⟨k + 1, by go_num, by rw [step.out false ht2.out]; rfl, by omega, by first | rfl | trivial⟩
                                  case measure => simp [intOf]; omega
                            · go_wp2_with fail
                              go_roundw
                              case rel => exact ⟨k + 1, by go_num, by rw [step.out false (by simp [Sp, hb1.out])]; rfl, by omega, by first | rfl | trivial⟩
                              case measure => simp [intOf]; omega
                        · obtain rfl : k = n := by omega
                          have hlt' : ¬ ((k : Int) + 1 ≤ k) := by omega
                          go_wp2_with fail
                          go_meet
                          case rel => exact ⟨by rw [hS.out], rfl⟩
                    case rest =>
                      obtain ⟨rfl, hw⟩ := hcut
                      rw [hw]
                      clear hw
                      have hle := cnt_le (Sp N p (c + 1)) n
                      obtain ⟨S, hS⟩ : ∃ M : Nat, Hid (cnt (Sp N p (c + 1)) n = M) := ⟨_, hide rfl⟩
                      have hS' : S ≤ 257 := by have := hS.out; omega
                      rw [hS.out]
                      clear hle
                      have hql2 : Hid (Ql N p (c + 1) = (decide (0 < S) && decide ((n : Int) - f ≤ ((M + S : Nat) : Int)))) := hide (by unfold Ql; rw [Nn.out, Nf.out, hS.out, hM.out])
                      by_cases hs0 : 0 < S
                      · have hs0' : (0 : Int) < S := by omega
                        have hs0d : decide ((0 : Int) < S) = true := by simpa using hs0'
                        by_cases ht : (n : Int) - f ≤ (M : Int) + S
                        · have htd : decide ((n : Int) - f ≤ (M : Int) + S) = true := by simpa using ht
                          have hv : Hid (Ql N p (c + 1) = true) := hide (by rw [hql2.out]; simp [hs0]; omega)
                          go_wp2_with fail
                          go_roundg (2 - c)
                          case measure => omega
                          case rel => exact ⟨c + 1, by rw [qu, if_pos hv.out, hq.out]; go_num, by rw [wcd, if_pos hv.out]; go_num, by go_num, by omega, by first | rfl | trivial⟩
                        · have htd : decide ((n : Int) - f ≤ (M : Int) + S) = false := by simpa using ht
                          have hv : Hid (¬ Ql N p (c + 1) = true) := hide (by rw [hql2.out]; simp; intro _; omega)
                          go_wp2_with fail
                          go_roundg (2 - c)
                          case measure => omega
                          case rel => exact ⟨c + 1, by rw [qu, if_neg hv.out, hq.out]; rfl, by rw [wcd, if_neg hv.out, hwq.out], by go_num, by omega, by first | rfl | trivial⟩
                      · have hs0' : ¬ (0 : Int) < S := by omega
                        have hs0d : decide ((0 : Int) < S) = false := by simpa using hs0'
                        have hv : Hid (¬ Ql N p (c + 1) = true) := hide (by rw [hql2.out]; simp; intro h; omega)
                        go_wp2_with fail
                        go_roundg (2 - c)
                        case measure => omega
                        case rel => exact ⟨c + 1, by rw [qu, if_neg hv.out, hq.out]; rfl, by rw [wcd, if_neg hv.out, hwq.out], by go_num, by omega, by first | rfl | trivial⟩
                  · obtain rfl : c = 3 := by omega
                    go_wp2_with fail
                    go_meet
                    case rel => exact ⟨by rw [hq.out], by rw [hwq.out], rfl⟩
                -- END6
              case rest =>
                obtain ⟨rfl, rfl, hw⟩ := hcut
                rw [hw]
                clear hw
                have hql := qu_le (Ql N p) 3
                have hwl := wcd_le (Ql N p) 3
                obtain ⟨q, hq⟩ : ∃ q : Nat, Hid (qu (Ql N p) 3 = q) := ⟨_, hide rfl⟩
                obtain ⟨c, hwq⟩ : ∃ q : Nat, Hid (wcd (Ql N p) 3 = q) := ⟨_, hide rfl⟩
                rw [hq.out] at hql ⊢
                rw [hwq.out] at hwl ⊢
                by_cases hq1 : q = 1
                · have hq1' : ((q : Int) == 1) = true := by simp; omega
                  have hz : Hid (K = c) := hide (by rw [hk1.out]; unfold wq; rw [hq.out, if_pos hq1, hwq.out])
                  clear hq1
                  go_wp2_with fail
                  refine (cval_f c c wg (by omega) (by omega)).mono ?_
                  rintro e wh ⟨rfl, hb⟩
                  have DZ := hide (DY.out.below hb)
                  clear hb
                  obtain ⟨u1, u2, u3, u4⟩ := DZ.out.2.2.1
                  unfold ent
                  go_wp2_with fail
                  have DP := DZ.out.put c
                  rw [hz.out] at DP
                  exact Met.intro (hJ.out _ _ (final_c ⟨cb, eb, vb, xb, rb⟩ ⟨ce, cv, cf, eb, vb, xb, rc, rb⟩ N n self f j ce cv cf cb gb wb _ _ _ w w9 _ S9.out b9.out DP rfl rfl rfl rfl Nn.out Ns.out Nf.out Ncu.out Nfo.out n2 hec5.out hvc5.out))
                · have hq1' : ((q : Int) == 1) = false := by simp; omega
                  have hz : K = 0 := by rw [hk1.out]; unfold wq; rw [hq.out, if_neg hq1]
                  subst hz
                  clear hq1
                  go_wp2_with fail
                  exact Met.intro (hJ.out _ _ (final_c ⟨cb, eb, vb, xb, rb⟩ ⟨ce, cv, cf, eb, vb, xb, rc, rb⟩ N n self f j ce cv cf cb gb wb _ _ _ w w9 _ S9.out b9.out DY.out rfl rfl rfl rfl Nn.out Ns.out Nf.out Ncu.out Nfo.out n2 hec5.out hvc5.out))
          -- END3
        · have hk0 : K = 0 := by rw [← hK.out]; exact if_pos hdr.out
          subst hk0
          go_wp2_with fail
          exact Met.intro (hJ.out _ _ (final_c ⟨cb, eb, vb, xb, rb⟩ ⟨ce, cv, cf, eb, vb, xb, rc, rb⟩ N n self f j ce cv cf cb gb wb _ _ _ w w9 _ S9.out b9.out DY.out rfl rfl rfl rfl Nn.out Ns.out Nf.out Ncu.out Nfo.out n2 hec5.out hvc5.out))
end Go.Proofs.Ybulkdzjs.A
