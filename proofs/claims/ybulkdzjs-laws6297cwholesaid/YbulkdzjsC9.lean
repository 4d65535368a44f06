/- 6297C: the law's last part: the comparison, and that nothing but scratch room changed. -/
import Derived.Test.YbulkdzjsC7b
import Derived.Deep.RegionHeld3
namespace Go.Proofs.Ybulkdzjs.A
open Go.RowKit Flt

/-- What the comparison of entry i reads. -/
abbrev R81 (W : World) (cb eb xb ce cf n i c : Nat) (b : Bool) (w' : World) : Prop :=
  w'.cell? ⟨cb, 12, none⟩ = some (.slice (some ⟨eb, 0, none⟩) n n) ∧ w'.cell? ⟨cb, 14, none⟩ = some (.slice (some ⟨xb, 0, none⟩) n n) ∧ w'.cell? ⟨eb, i * 2, none⟩ = some (.float .f64 (wd c)) ∧ w'.cell? ⟨eb, i * 2 + 1, none⟩ = some (.bool (vd c)) ∧ w'.cell? ⟨ce, i, none⟩ = some (.int .u8 c) ∧ w'.cell? ⟨xb, i, none⟩ = some (.bool b) ∧ w'.cell? ⟨cf, i, none⟩ = some (.bool b) ∧ Below W.heap.size W w'
theorem r81_step {W : World} {cb eb xb ce cf n i c : Nat} {b : Bool} {w' w'' : World} (h : R81 W cb eb xb ce cf n i c b w') (hb : Below w'.heap.size w' w'') : R81 W cb eb xb ce cf n i c b w'' :=
  ⟨bcell hb h.1, bcell hb h.2.1, bcell hb h.2.2.1, bcell hb h.2.2.2.1, bcell hb h.2.2.2.2.1, bcell hb h.2.2.2.2.2.1, bcell hb h.2.2.2.2.2.2.1, h.2.2.2.2.2.2.2.trans (hb.mono h.2.2.2.2.2.2.2.size)⟩
/-- What the comparison of a vector's entry m reads. -/
abbrev R91 (W : World) (cb vb qb cv rb n i m c : Nat) (w' : World) : Prop :=
  w'.cell? ⟨cb, 13, none⟩ = some (.slice (some ⟨vb, 0, none⟩) n n) ∧ w'.cell? ⟨vb, i, none⟩ = some (.slice (some ⟨qb, 0, none⟩) n n) ∧ w'.cell? ⟨qb, m * 2, none⟩ = some (.float .f64 (wd c)) ∧ w'.cell? ⟨qb, m * 2 + 1, none⟩ = some (.bool (vd c)) ∧ w'.cell? ⟨cv, i, none⟩ = some (.slice (some ⟨rb, 0, none⟩) n n) ∧ w'.cell? ⟨rb, m, none⟩ = some (.int .u8 c) ∧ Below W.heap.size W w'
theorem r91_step {W : World} {cb vb qb cv rb n i m c : Nat} {w' w'' : World} (h : R91 W cb vb qb cv rb n i m c w') (hb : Below w'.heap.size w' w'') : R91 W cb vb qb cv rb n i m c w'' :=
  ⟨bcell hb h.1, bcell hb h.2.1, bcell hb h.2.2.1, bcell hb h.2.2.2.1, bcell hb h.2.2.2.2.1, bcell hb h.2.2.2.2.2.1, h.2.2.2.2.2.2.trans (hb.mono h.2.2.2.2.2.2.size)⟩

set_option maxRecDepth 100000 in
set_option maxHeartbeats 4000000 in
theorem final_c (A : At) (D : Ab) (N : Nd) (n self f j ce cv cf cb gb wb K : Nat) (cu fo : Bool) (w0 W w : World) {u0 u1 u2 u3 u6 u7 u8 u9 u10 u11 u12 u13 u14 u15 u16 u17 u26 u27 u28 u29 u30 u31 u32 u36 u37 u38 u39 u40 u41 u42 u43 u44 u45 u46 u47 u48 u49 u50 u51 u52 u53 u54 u55 u56 u57 u58 u59 u60 u61 u62 u63 u64 u65 u66 u67 u68 u69 u70 u71 u72 u73 u74 u75 u76 u77 u78 u79 u80 u81 u82 u83 u84 u85 u86 u87 u88 u89 u90 u91 u92 u93 u94 u95 u96 u97 u98 u99 u100 u101 u102 u103 u104 u105 u106 u107 u108 u109 u110 u111 u112 u113 u114 u115 u116 u117 u118 u119 u120 u121 u122 u123 u124 u125 u126 u127 u128 u129 u130 u131 u132 u133 u134 u135 u136 u137 u138 u139 u140 u141 u142 u143 u144 u145 u146 u147 u148 u149 u150 u151 u152 u153 u154 u155 u156 u157 u158 u159 u160 u161 u162 u163 u164 u165 u166 u167 u168 u169 u170 u171 u172 u173 u174 u175 u176 u177 u178 u179 u180 u181 u182 u183 u184 u185 u186 u187 u188 u189 u190 u191 u192 u193 u194 u195 u196 u197 u198 u199 u200 u201 u202 u203 u204 u205 u206 u207 u208 u209 u210 u211 u212 u213 u214 u215 u216 u217 u218 u219 u220 u221 u222 u223 u224 u225 u226 u227 u228 u229 u230 u231 u232 u233 u234 u235 u236 u237 u238 u239 u240 u241 u242 u243 u244 u245 u246 u247 u248 u249 u250 u251 u252 u253 u254 u255 u256 u257 u258 u259 u260 u261 u262 u263 u264 u265 u266 u267 u268 u269 u270 u271 u272 u273 u274 u275 u276 u277 u278 u279 u280 u281 u282 u283 u284 u285 u286 u287 u288 u289 u290 u291 u292 u293 u294 u295 u296 u297 u298 u299 u300 u301 u302 u303 u304 u305 u306 u307 u308 u309 u310 u311 u312 u313 u314 u315 u316 u317 u318 u319 u320 u321 u322 u323 u324 u325 u326 u327 u328 u329 u330 u331 u332 u333 u334 u335 u336 u337 u338 u339 u340 u341 u342 u343 u344 u345 u346 u347 u348 u349 u350 u351 u352 u353 u354 u355 u356 u357 u358 u359 u360 u361 u362 u363 u364 u365 u366 u367 u368 u369 u370 u371 u372 u373 u374 u375 u376 u377 u378 u379 u380 u381 u382 u383 u384 u385 u386 u387 u388 u389 u390 u391 u392 u393 u394 u395 u396 u397 u398 u399 u400 u401 u402 u403 u404 u405 u406 u407 u408 u409 u410 u411 u412 u413 u414 u415 u416 u417 u418 u419 u420 u421 u422 u423 u424 u425 u426 u427 u428 u429 u430 u431 u432 u433 u434 u435 u436 u437 u438 u439 u440 u441 u442 u443 u444 u445 u446 u447 u448 u449 u450 u451 u452 u453 u454 u455 u456 u457 u458 u459 u460 u461 u462 u463 u464 u465 u466 u467 u468 u469 u470 u471 u472 u473 u474 u475 u476 u477 u478 u479 u480 u481 u482 u483 u484 u485 u486 u487 u488 u489 u490 u491 u492 u493 u494 u495 u496 u497 u498 u499 u500 u501 u502 u503 u504 u505 u506 u507 u508 : Value}
    (S9 : Sd A D N W) (b9 : Below w0.heap.size w0 W) (DY : Dy W gb wb K K w) (hA : A.cb = cb) (h1 : D.ce = ce) (h2 : D.cv = cv) (h3 : D.cf = cf) (Nn : N.n = n) (Ns : N.self = self) (Nf : N.f = f) (Ncu : N.cu = cu) (Nfo : N.fo = fo) (hn : n ≤ 256) (hec : ∀ i, N.ec i ≤ 5) (hvc : ∀ i m, N.vc i m ≤ 5) :
    fin5.wp Yba.prog (bodyPost Yba.prog Yba.f5 (fun e w' => e = .returned (.bool true) ∧ Below w0.heap.size w0 w')) ⟨#[u0, u1, u2, u3, .bool cu, .bool fo, u6, u7, u8, u9, u10, u11, u12, u13, u14, u15, u16, u17, .bool false, .int .i64 n, .int .i64 self, .int .i64 f, .int .i64 j, .slice (some ⟨ce, 0, none⟩) n n, .slice (some ⟨cv, 0, none⟩) n n, .slice (some ⟨cf, 0, none⟩) n n, u26, u27, u28, u29, u30, u31, u32, .pointer (some ⟨cb, 0, none⟩), .pointer (some ⟨gb, 0, none⟩), .pointer (some ⟨wb, 0, none⟩), u36, u37, u38, u39, u40, u41, u42, u43, u44, u45, u46, u47, u48, u49, u50, u51, u52, u53, u54, u55, u56, u57, u58, u59, u60, u61, u62, u63, u64, u65, u66, u67, u68, u69, u70, u71, u72, u73, u74, u75, u76, u77, u78, u79, u80, u81, u82, u83, u84, u85, u86, u87, u88, u89, u90, u91, u92, u93, u94, u95, u96, u97, u98, u99, u100, u101, u102, u103, u104, u105, u106, u107, u108, u109, u110, u111, u112, u113, u114, u115, u116, u117, u118, u119, u120, u121, u122, u123, u124, u125, u126, u127, u128, u129, u130, u131, u132, u133, u134, u135, u136, u137, u138, u139, u140, u141, u142, u143, u144, u145, u146, u147, u148, u149, u150, u151, u152, u153, u154, u155, u156, u157, u158, u159, u160, u161, u162, u163, u164, u165, u166, u167, u168, u169, u170, u171, u172, u173, u174, u175, u176, u177, u178, u179, u180, u181, u182, u183, u184, u185, u186, u187, u188, u189, u190, u191, u192, u193, u194, u195, u196, u197, u198, u199, u200, u201, u202, u203, u204, u205, u206, u207, u208, u209, u210, u211, u212, u213, u214, u215, u216, u217, u218, u219, u220, u221, u222, u223, u224, u225, u226, u227, u228, u229, u230, u231, u232, u233, u234, u235, u236, u237, u238, u239, u240, u241, u242, u243, u244, u245, u246, u247, u248, u249, u250, u251, u252, u253, u254, u255, u256, u257, u258, u259, u260, u261, u262, u263, u264, u265, u266, u267, u268, u269, u270, u271, u272, u273, u274, u275, u276, u277, u278, u279, u280, u281, u282, u283, u284, u285, u286, u287, u288, u289, u290, u291, u292, u293, u294, u295, u296, u297, u298, u299, u300, u301, u302, u303, u304, u305, u306, u307, u308, u309, u310, u311, u312, u313, u314, u315, u316, u317, u318, u319, u320, u321, u322, u323, u324, u325, u326, u327, u328, u329, u330, u331, u332, u333, u334, u335, u336, u337, u338, u339, u340, u341, u342, u343, u344, u345, u346, u347, u348, u349, u350, u351, u352, u353, u354, u355, u356, u357, u358, u359, u360, u361, u362, u363, u364, u365, u366, u367, u368, u369, u370, u371, u372, u373, u374, u375, u376, u377, u378, u379, u380, u381, u382, u383, u384, u385, u386, u387, u388, u389, u390, u391, u392, u393, u394, u395, u396, u397, u398, u399, u400, u401, u402, u403, u404, u405, u406, u407, u408, u409, u410, u411, u412, u413, u414, u415, u416, u417, u418, u419, u420, u421, u422, u423, u424, u425, u426, u427, u428, u429, u430, u431, u432, u433, u434, u435, u436, u437, u438, u439, u440, u441, u442, u443, u444, u445, u446, u447, u448, u449, u450, u451, u452, u453, u454, u455, u456, u457, u458, u459, u460, u461, u462, u463, u464, u465, u466, u467, u468, u469, u470, u471, u472, u473, u474, u475, u476, u477, u478, u479, u480, u481, u482, u483, u484, u485, u486, u487, u488, u489, u490, u491, u492, u493, u494, u495, u496, u497, u498, u499, u500, u501, u502, u503, u504, u505, u506, u507, u508], []⟩ w := by
  unfold fin5 aft5 body5
  dsimp only [tl, Yba.f5, Option.getD]
  have HS := hide S9
  have HB := hide b9
  have HD := hide DY
  have HA := hide hA
  have H1 := hide h1
  have H2 := hide h2
  have H3 := hide h3
  have HN := hide Nn
  have Hs := hide Ns
  have Hf := hide Nf
  have Hcu := hide Ncu
  have Hfo := hide Nfo
  have Hec := hide hec
  have Hvc := hide hvc
  clear S9 b9 DY hA h1 h2 h3 Nn Ns Nf Ncu Nfo hec hvc
  obtain ⟨g1, g2, g3, g4⟩ := HD.out.2.1
  obtain ⟨p1, p2, p3, p4⟩ := HD.out.2.2.1
  have hsm := same_f K
  unfold ent at hsm
  have hn' : (n : Int) ≤ 256 := by omega
  go_wp2_with fail
  refine (hsm _).mono ?_
  rintro e wy ⟨rfl, hb⟩
  have HY : Hid (Below W.heap.size W wy) := hide (HD.out.1.trans (hb.mono HD.out.1.size))
  clear hb g1 g2 g3 g4 p1 p2 p3 p4 hsm HD
  have SY := hide (HS.out.below HY.out)
  have n0 := SY.out.cc.n0
  have s7 := SY.out.cc.s7
  have f8 := SY.out.cc.f8
  have r9 := SY.out.cc.r9
  have c10 := SY.out.cc.c10
  have g11 := SY.out.cc.g11
  have e12 := SY.out.cc.e12
  have v13 := SY.out.cc.v13
  have c14 := SY.out.cc.c14
  rw [HA.out] at n0 s7 f8 r9 c10 g11 e12 v13 c14
  rw [HN.out] at n0 e12 v13 c14
  rw [Hs.out] at s7
  rw [Hf.out] at f8
  rw [Hcu.out] at c10
  rw [Hfo.out] at g11
  have q1 : ((self : Int) != self) = false := by simp
  have q2 : ((f : Int) != f) = false := by simp
  have q3 : (cu != cu) = false := by simp
  have q4 : (fo != fo) = false := by simp
  have q5 : ((n : Int) != n) = false := by simp
  go_upto_block 12 with fail
  clear n0 s7 f8 r9 c10 g11 e12 v13 c14 q1 q2 q3 q4 SY
  go_wp2_with fail
  go_loopg [47] n (fun g v wr => ∃ i : Nat, v = .int .i64 i ∧ i + g = n ∧ Hid (Below W.heap.size W wr))
  case atStart => exact ⟨0, rfl, by omega, HY⟩
  case round =>
    clear HY
    obtain ⟨i, rfl, hig, HI⟩ := hrel
    by_cases hlt : i < n
    · have hlt' : (i : Int) < n := by omega
      have hltN : Hid (i < N.n) := hide (by rw [HN.out]; exact hlt)
      go_upto_region 81 with fail
      go_cut [454] from 427 to 427 (fun v wx => v = .bool false ∧ Hid (Below W.heap.size W wx))
      case first =>
        have SI := hide (HS.out.below HI.out)
        obtain ⟨c, hc⟩ : ∃ c, Hid (N.ec i = c) := ⟨_, hide rfl⟩
        obtain ⟨b, hb⟩ : ∃ b, Hid (N.cf i = b) := ⟨_, hide rfl⟩
        have hc5 : c ≤ 5 := by rw [← hc.out]; exact Hec.out i
        have hbb : (b != b) = false := by simp
        have hcv := fun w' => cval_f (c : Int) c w' (by omega) (by omega)
        have hsm := same_f c
        unfold ent at hcv hsm
        have hS0 : R81 W cb A.eb A.fb ce cf n i c b wr := by
          have a1 := SI.out.cc.e12
          have a2 := SI.out.cc.c14
          have a3 := SI.out.cc.en i hltN.out
          have a4 := SI.out.e i hltN.out
          have a5 := SI.out.cc.co i hltN.out
          have a6 := SI.out.f i hltN.out
          rw [HA.out, HN.out] at a1 a2
          rw [hc.out] at a3 a4
          rw [hb.out] at a5 a6
          rw [H1.out] at a4
          rw [H3.out] at a6
          exact ⟨a1, a2, a3.1, a3.2, a4, a5, a6, HI.out⟩
        have HS0 := hide hS0
        clear hS0 SI
        go_region_held3 (fun w' => w'.cell? ⟨cb, 12, none⟩ = some (.slice (some ⟨A.eb, 0, none⟩) n n) ∧ w'.cell? ⟨cb, 14, none⟩ = some (.slice (some ⟨A.fb, 0, none⟩) n n) ∧ w'.cell? ⟨A.eb, i * 2, none⟩ = some (.float .f64 (wd c)) ∧ w'.cell? ⟨A.eb, i * 2 + 1, none⟩ = some (.bool (vd c)) ∧ w'.cell? ⟨ce, i, none⟩ = some (.int .u8 c) ∧ w'.cell? ⟨A.fb, i, none⟩ = some (.bool b) ∧ w'.cell? ⟨cf, i, none⟩ = some (.bool b) ∧ Below W.heap.size W w')
          (first | exact r81_step HS0.out (Below.refl _ _).drew | assumption)
          (first
            | (go_at_call 16; refine (hcv _).mono ?_; rintro e w1 ⟨rfl, hb1⟩; have hS1 := r81_step (by assumption) hb1; clear hb1)
            | (go_at_call 18; refine (hsm _).mono ?_; rintro e w2 ⟨rfl, hb2⟩; have hS2 := r81_step (by assumption) hb2; clear hb2))
        have HZ := hide hS2.2.2.2.2.2.2.2
        clear hS1 hS2
        go_wp2_with fail
        go_meet
        case rel => exact ⟨rfl, HZ⟩
      case rest =>
        clear HI
        obtain ⟨rfl, HZ⟩ := hcut
        obtain ⟨wz, rfl⟩ : ∃ wo : World, wo = wc := ⟨_, rfl⟩
        have SI := hide (HS.out.below HZ.out)
        have a1 := SI.out.cc.v13
        have a2 := SI.out.cc.ve i hltN.out
        have a3 := SI.out.v i hltN.out
        unfold slc at a3
        rw [HA.out, HN.out] at a1
        rw [HN.out] at a2 a3
        rw [H2.out] at a3
        obtain ⟨b, hb⟩ : ∃ b, Hid (N.nn i = b) := ⟨_, hide rfl⟩
        rw [hb.out] at a2 a3
        cases b
        · have a2' : wz.cell? ⟨A.vb, i, none⟩ = some (.slice none 0 0) := by simpa using a2
          have a3' : wz.cell? ⟨cv, i, none⟩ = some (.slice none 0 0) := by simpa using a3
          clear a2 a3
          have hq1 := fun W' => Go.Lib.run_eql_slice_nil (P := Yba.prog) W' 66 69 none 0 0 0 0 Yba.underlying66
          have hq2 := fun W' => Go.Lib.run_eql_slice_nil (P := Yba.prog) W' 63 5 none 0 0 0 0 Yba.underlying63
          have hq3 := fun W' => run_neq_slice_nil_any (P := Yba.prog) W' 63 5 none 0 0 0 0 Yba.underlying63
          go_wp2_with fail
          go_quiet (fail)
          go_wp2_with fail
          go_roundg (n - i - 1)
          case measure => omega
          case rel => exact ⟨i + 1, by go_num, by omega, hide (below_drewN HZ.out _)⟩
        · have a2' : wz.cell? ⟨A.vb, i, none⟩ = some (.slice (some ⟨A.rb i, 0, none⟩) n n) := by simpa using a2
          have a3' : wz.cell? ⟨cv, i, none⟩ = some (.slice (some ⟨D.rc i, 0, none⟩) n n) := by simpa using a3
          clear a2 a3
          have hq1 := fun W' => Go.Lib.run_eql_slice_nil (P := Yba.prog) W' 66 69 (some ⟨A.rb i, 0, none⟩) n n 0 0 Yba.underlying66
          have hq2 := fun W' => Go.Lib.run_eql_slice_nil (P := Yba.prog) W' 63 5 (some ⟨D.rc i, 0, none⟩) n n 0 0 Yba.underlying63
          have hq3 := fun W' => run_neq_slice_nil_any (P := Yba.prog) W' 63 5 (some ⟨D.rc i, 0, none⟩) n n 0 0 Yba.underlying63
          go_wp2_with fail
          go_quiet (fail)
          have HD' := hide (below_drewN HZ.out nq)
          have b1 : (wz.drewN nq).cell? ⟨cb, 13, none⟩ = some (.slice (some ⟨A.vb, 0, none⟩) n n) := a1
          have b2 : (wz.drewN nq).cell? ⟨A.vb, i, none⟩ = some (.slice (some ⟨A.rb i, 0, none⟩) n n) := a2'
          have b3 : (wz.drewN nq).cell? ⟨cv, i, none⟩ = some (.slice (some ⟨D.rc i, 0, none⟩) n n) := a3'
          clear HZ a1 a2' a3' SI
          generalize wz.drewN nq = wq at HD' b1 b2 b3 ⊢
          go_upto_block 14 with fail
          clear b1 b2 b3 hq1 hq2 hq3
          go_wp2_with fail
          go_loopg [48] n (fun g v wr => ∃ m : Nat, v = .int .i64 m ∧ m + g = n ∧ Hid (Below W.heap.size W wr))
          case atStart => exact ⟨0, rfl, by omega, HD'⟩
          case round =>
            clear HD'
            obtain ⟨m, rfl, hmg, HM⟩ := hrel
            by_cases hml : m < n
            · have hml' : (m : Int) < n := by omega
              have hmlN : Hid (m < N.n) := hide (by rw [HN.out]; exact hml)
              have SI := hide (HS.out.below HM.out)
              obtain ⟨c, hc⟩ : ∃ c, Hid (N.vc i m = c) := ⟨_, hide rfl⟩
              have hc5 : c ≤ 5 := by rw [← hc.out]; exact Hvc.out i m
              have hcv := fun w' => cval_f (c : Int) c w' (by omega) (by omega)
              have hsm := same_f c
              unfold ent at hcv hsm
              have hS0 : R91 W cb A.vb (A.rb i) cv (D.rc i) n i m c wr := by
                have a1 := SI.out.cc.v13
                have a2 := SI.out.cc.ve i hltN.out
                have a3 := SI.out.cc.ro i hltN.out hb.out m hmlN.out
                have a4 := SI.out.v i hltN.out
                have a5 := SI.out.r i hltN.out hb.out m hmlN.out
                unfold slc at a4
                rw [HA.out, HN.out] at a1
                rw [hb.out, HN.out] at a2 a4
                rw [H2.out] at a4
                rw [hc.out] at a3 a5
                exact ⟨a1, by simpa using a2, a3.1, a3.2, by simpa using a4, a5, HM.out⟩
              have HS0 := hide hS0
              clear hS0 SI
              go_upto_region 91 with fail
              go_region_held3 (fun w' => w'.cell? ⟨cb, 13, none⟩ = some (.slice (some ⟨A.vb, 0, none⟩) n n) ∧ w'.cell? ⟨A.vb, i, none⟩ = some (.slice (some ⟨A.rb i, 0, none⟩) n n) ∧ w'.cell? ⟨A.rb i, m * 2, none⟩ = some (.float .f64 (wd c)) ∧ w'.cell? ⟨A.rb i, m * 2 + 1, none⟩ = some (.bool (vd c)) ∧ w'.cell? ⟨cv, i, none⟩ = some (.slice (some ⟨D.rc i, 0, none⟩) n n) ∧ w'.cell? ⟨D.rc i, m, none⟩ = some (.int .u8 c) ∧ Below W.heap.size W w')
                (first | exact r91_step HS0.out (Below.refl _ _).drew | assumption)
                (first
                  | (go_at_call 16; refine (hcv _).mono ?_; rintro e w1 ⟨rfl, hb1⟩; have hS1 := r91_step (by assumption) hb1; clear hb1)
                  | (go_at_call 18; refine (hsm _).mono ?_; rintro e w2 ⟨rfl, hb2⟩; have hS2 := r91_step (by assumption) hb2; clear hb2))
              have HZ := hide hS2.2.2.2.2.2.2
              clear hS1 hS2
              go_wp2_with fail
              go_roundg (n - m - 1)
              case measure => omega
              case rel => exact ⟨m + 1, by go_num, by omega, HZ⟩
            · have hml' : ¬ (m : Int) < n := by omega
              go_wp2_with fail
              go_roundg (n - i - 1)
              case measure => omega
              case rel => exact ⟨i + 1, by go_num, by omega, HM⟩
    · have hlt' : ¬ (i : Int) < n := by omega
      go_wp2_with fail
      go_ret
      exact ⟨rfl, HB.out.trans (HI.out.mono HB.out.size)⟩
end Go.Proofs.Ybulkdzjs.A
