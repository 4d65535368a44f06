/- 6297C: the law's first loop: the rows are built. -/
import Derived.Test.YbulkdzjsC7b
namespace Go.Proofs.Ybulkdzjs.A
open Go.RowKit Flt
attribute [local go_sem] run_store_flt

set_option maxRecDepth 100000 in
set_option maxHeartbeats 4000000 in
theorem loop1_c (n : Nat) (N : Nd) (ea va fa : Option Addr) (el ecap vl vcap fl fcap : Nat) (E : Nat → Nat) (Ra : Nat → Option Addr) (Rl Rp : Nat → Nat) (R : Nat → Nat → Nat) (B : Nat → Bool) (ce cv cf eb vb xb : Nat) (w w6 : World) {u0 u1 u2 u3 u4 u5 u9 u10 u11 u12 u13 u14 u15 u16 u17 u18 u20 u21 u22 u30 u31 u32 u33 u34 u35 u36 u37 u38 u39 u40 u41 u42 u43 u44 u45 u46 u47 u48 u49 u50 u51 u52 u53 u54 u55 u56 u57 u58 u59 u60 u61 u62 u63 u64 u65 u66 u67 u68 u69 u70 u71 u72 u73 u74 u75 u76 u77 u78 u79 u80 u81 u82 u83 u84 u85 u86 u87 u88 u89 u90 u91 u92 u93 u94 u95 u96 u97 u98 u99 u100 u101 u102 u103 u104 u105 u106 u107 u108 u109 u110 u111 u112 u113 u114 u115 u116 u117 u118 u119 u120 u121 u122 u123 u124 u125 u126 u127 u128 u129 u130 u131 u132 u133 u134 u135 u136 u137 u138 u139 u140 u141 u142 u143 u144 u145 u146 u147 u148 u149 u150 u151 u152 u153 u154 u155 u156 u157 u158 u159 u160 u161 u162 u163 u164 u165 u166 u167 u168 u169 u170 u171 u172 u173 u174 u175 u176 u177 u178 u179 u180 u181 u182 u183 u184 u185 u186 u187 u188 u189 u190 u191 u192 u193 u194 u195 u196 u197 u198 u199 u200 u201 u202 u203 u204 u205 u206 u207 u208 u209 u210 u211 u212 u213 u214 u215 u216 u217 u218 u219 u220 u221 u222 u223 u224 u225 u226 u227 u228 u229 u230 u231 u232 u233 u234 u235 u236 u237 u238 u239 u240 u241 u242 u243 u244 u245 u246 u247 u248 u249 u250 u251 u252 u253 u254 u255 u256 u257 u258 u259 u260 u261 u262 u263 u264 u265 u266 u267 u268 u269 u270 u271 u272 u273 u274 u275 u276 u277 u278 u279 u280 u281 u282 u283 u284 u285 u286 u287 u288 u289 u290 u291 u292 u293 u294 u295 u296 u297 u298 u299 u300 u301 u302 u303 u304 u305 u306 u307 u308 u309 u310 u311 u312 u313 u314 u315 u316 u317 u318 u319 u320 u321 u322 u323 u324 u325 u326 u327 u328 u329 u330 u331 u332 u333 u334 u335 u336 u337 u338 u339 u340 u341 u342 u343 u344 u345 u346 u347 u348 u349 u350 u351 u352 u353 u354 u355 u356 u357 u358 u359 u360 u361 u362 u363 u364 u365 u366 u367 u368 u369 u370 u371 u372 u373 u374 u375 u376 u377 u378 u379 u380 u381 u382 u383 u384 u385 u386 u387 u388 u389 u390 u391 u392 u393 u394 u395 u396 u397 u398 u399 u400 u401 u402 u403 u404 u405 u406 u407 u408 u409 u410 u411 u412 u413 u414 u415 u416 u417 u418 u419 u420 u421 u422 u423 u424 u425 u426 u427 u428 u429 u430 u431 u432 u433 u434 u435 u436 u437 u438 u439 u440 u441 u442 u443 u444 u445 u446 u447 u448 u449 u450 u451 u452 u453 u454 u455 u456 u457 u458 u459 u460 u461 u462 u463 u464 u465 u466 u467 u468 u469 u470 u471 u472 u473 u474 u475 u476 u477 u478 u479 u480 u481 u482 u483 u484 u485 u486 u487 u488 u489 u490 u491 u492 u493 u494 u495 u496 u497 u498 u499 u500 u501 u502 u503 u504 u505 u506 u507 u508 : Value}
    (J K' : Act → World → Prop) (Q' : Exit → Act → World → Prop) (hM : ∀ a' w', Met J a' w' → K' a' w')
    (hJ : ∀ (x29 x30 x31 x32 x78 x79 x80 x81 x82 x83 x84 x85 x86 x87 x88 x89 x90 x91 x92 x93 x94 x95 x96 x97 x98 x99 x100 x101 x102 x103 x104 x105 x106 x107 x108 x109 x110 x111 x112 x113 x114 x115 x116 x117 x118 x119 x120 x121 x122 x123 x124 x125 x126 x127 x128 x129 x130 x131 x132 x133 x134 x135 x136 x137 x138 x139 x140 x141 x142 x143 x144 x145 x146 x147 x148 x149 x150 x151 x152 x153 x154 x155 x156 x157 x158 x159 x160 x161 x162 x163 x164 x165 x166 x167 x168 x169 x170 x171 x172 x173 x174 : Value) (rc rb : Nat → Nat) (wx : World), Hid (Bd ⟨ce, cv, cf, eb, vb, xb, rc, rb⟩ N n n n n n w wx) → J ⟨#[u0, u1, u2, u3, u4, u5, .slice ea el ecap, .slice va vl vcap, .slice fa fl fcap, u9, u10, u11, u12, u13, u14, u15, u16, u17, u18, .int .i64 n, u20, u21, u22, .slice (some ⟨ce, 0, none⟩) n n, .slice (some ⟨cv, 0, none⟩) n n, .slice (some ⟨cf, 0, none⟩) n n, .slice (some ⟨eb, 0, none⟩) n n, .slice (some ⟨vb, 0, none⟩) n n, .slice (some ⟨xb, 0, none⟩) n n, x29, x30, x31, x32, u33, u34, u35, u36, u37, u38, u39, u40, u41, u42, u43, u44, u45, u46, u47, u48, u49, u50, u51, u52, u53, u54, u55, u56, u57, u58, u59, u60, u61, u62, u63, u64, u65, u66, u67, u68, u69, u70, u71, u72, u73, u74, u75, u76, u77, x78, x79, x80, x81, x82, x83, x84, x85, x86, x87, x88, x89, x90, x91, x92, x93, x94, x95, x96, x97, x98, x99, x100, x101, x102, x103, x104, x105, x106, x107, x108, x109, x110, x111, x112, x113, x114, x115, x116, x117, x118, x119, x120, x121, x122, x123, x124, x125, x126, x127, x128, x129, x130, x131, x132, x133, x134, x135, x136, x137, x138, x139, x140, x141, x142, x143, x144, x145, x146, x147, x148, x149, x150, x151, x152, x153, x154, x155, x156, x157, x158, x159, x160, x161, x162, x163, x164, x165, x166, x167, x168, x169, x170, x171, x172, x173, x174, u175, u176, u177, u178, u179, u180, u181, u182, u183, u184, u185, u186, u187, u188, u189, u190, u191, u192, u193, u194, u195, u196, u197, u198, u199, u200, u201, u202, u203, u204, u205, u206, u207, u208, u209, u210, u211, u212, u213, u214, u215, u216, u217, u218, u219, u220, u221, u222, u223, u224, u225, u226, u227, u228, u229, u230, u231, u232, u233, u234, u235, u236, u237, u238, u239, u240, u241, u242, u243, u244, u245, u246, u247, u248, u249, u250, u251, u252, u253, u254, u255, u256, u257, u258, u259, u260, u261, u262, u263, u264, u265, u266, u267, u268, u269, u270, u271, u272, u273, u274, u275, u276, u277, u278, u279, u280, u281, u282, u283, u284, u285, u286, u287, u288, u289, u290, u291, u292, u293, u294, u295, u296, u297, u298, u299, u300, u301, u302, u303, u304, u305, u306, u307, u308, u309, u310, u311, u312, u313, u314, u315, u316, u317, u318, u319, u320, u321, u322, u323, u324, u325, u326, u327, u328, u329, u330, u331, u332, u333, u334, u335, u336, u337, u338, u339, u340, u341, u342, u343, u344, u345, u346, u347, u348, u349, u350, u351, u352, u353, u354, u355, u356, u357, u358, u359, u360, u361, u362, u363, u364, u365, u366, u367, u368, u369, u370, u371, u372, u373, u374, u375, u376, u377, u378, u379, u380, u381, u382, u383, u384, u385, u386, u387, u388, u389, u390, u391, u392, u393, u394, u395, u396, u397, u398, u399, u400, u401, u402, u403, u404, u405, u406, u407, u408, u409, u410, u411, u412, u413, u414, u415, u416, u417, u418, u419, u420, u421, u422, u423, u424, u425, u426, u427, u428, u429, u430, u431, u432, u433, u434, u435, u436, u437, u438, u439, u440, u441, u442, u443, u444, u445, u446, u447, u448, u449, u450, u451, u452, u453, u454, u455, u456, u457, u458, u459, u460, u461, u462, u463, u464, u465, u466, u467, u468, u469, u470, u471, u472, u473, u474, u475, u476, u477, u478, u479, u480, u481, u482, u483, u484, u485, u486, u487, u488, u489, u490, u491, u492, u493, u494, u495, u496, u497, u498, u499, u500, u501, u502, u503, u504, u505, u506, u507, u508], []⟩ wx)
    (n1 : 1 ≤ n) (n2 : n ≤ 256) (_o1 : ce < cv) (o2 : cv < cf) (o3 : cf < eb) (o4 : eb < vb) (_o5 : vb < xb)
    (HE : Hid (0 < el → ∃ b o, ea = some ⟨b, o, none⟩ ∧ ∀ i, i < el → w.cell? ⟨b, o + i, none⟩ = some (.int .u8 (E i)))) (HE5 : Hid (∀ i, E i ≤ 255))
    (HV : Hid (0 < vl → ∃ b o, va = some ⟨b, o, none⟩ ∧ ∀ i, i < vl → w.cell? ⟨b, o + i, none⟩ = some (.slice (Ra i) (Rl i) (Rp i))))
    (HR : Hid (∀ i, i < vl → 0 < Rl i → ∃ b o, Ra i = some ⟨b, o, none⟩ ∧ ∀ m, m < Rl i → w.cell? ⟨b, o + m, none⟩ = some (.int .u8 (R i m)))) (HR5 : Hid (∀ i m, R i m ≤ 255))
    (HF : Hid (0 < fl → ∃ b o, fa = some ⟨b, o, none⟩ ∧ ∀ i, i < fl → w.cell? ⟨b, o + i, none⟩ = some (.bool (B i))))
    (Nn : Hid (N.n = n)) (Nec : Hid (∀ i, N.ec i = if i < el then E i % 6 else 0)) (Nnn : Hid (∀ i, N.nn i = (decide (i < vl) && (Ra i).isSome))) (Nvc : Hid (∀ i m, N.vc i m = if m < Rl i then R i m % 6 else 0)) (Ncf : Hid (∀ i, N.cf i = if i < fl then B i else false))
    (D0 : Hid (Bd ⟨ce, cv, cf, eb, vb, xb, fun _ => xb + 1, fun _ => xb + 1⟩ N 0 0 0 0 0 w w6)) :
    bl0.wp Yba.prog (Exit.then K' Q') ⟨#[u0, u1, u2, u3, u4, u5, .slice ea el ecap, .slice va vl vcap, .slice fa fl fcap, u9, u10, u11, u12, u13, u14, u15, u16, u17, u18, .int .i64 n, u20, u21, u22, .slice (some ⟨ce, 0, none⟩) n n, .slice (some ⟨cv, 0, none⟩) n n, .slice (some ⟨cf, 0, none⟩) n n, .slice (some ⟨eb, 0, none⟩) n n, .slice (some ⟨vb, 0, none⟩) n n, .slice (some ⟨xb, 0, none⟩) n n, .int .i64 0, u30, u31, u32, u33, u34, u35, u36, u37, u38, u39, u40, u41, u42, u43, u44, u45, u46, u47, u48, u49, u50, u51, u52, u53, u54, u55, u56, u57, u58, u59, u60, u61, u62, u63, u64, u65, u66, u67, u68, u69, u70, u71, u72, u73, u74, u75, u76, u77, u78, u79, u80, u81, u82, u83, u84, u85, u86, u87, u88, u89, u90, u91, u92, u93, u94, u95, u96, u97, u98, u99, u100, u101, u102, u103, u104, u105, u106, u107, u108, u109, u110, u111, u112, u113, u114, u115, u116, u117, u118, u119, u120, u121, u122, u123, u124, u125, u126, u127, u128, u129, u130, u131, u132, u133, u134, u135, u136, u137, u138, u139, u140, u141, u142, u143, u144, u145, u146, u147, u148, u149, u150, u151, u152, u153, u154, u155, u156, u157, u158, u159, u160, u161, u162, u163, u164, u165, u166, u167, u168, u169, u170, u171, u172, u173, u174, u175, u176, u177, u178, u179, u180, u181, u182, u183, u184, u185, u186, u187, u188, u189, u190, u191, u192, u193, u194, u195, u196, u197, u198, u199, u200, u201, u202, u203, u204, u205, u206, u207, u208, u209, u210, u211, u212, u213, u214, u215, u216, u217, u218, u219, u220, u221, u222, u223, u224, u225, u226, u227, u228, u229, u230, u231, u232, u233, u234, u235, u236, u237, u238, u239, u240, u241, u242, u243, u244, u245, u246, u247, u248, u249, u250, u251, u252, u253, u254, u255, u256, u257, u258, u259, u260, u261, u262, u263, u264, u265, u266, u267, u268, u269, u270, u271, u272, u273, u274, u275, u276, u277, u278, u279, u280, u281, u282, u283, u284, u285, u286, u287, u288, u289, u290, u291, u292, u293, u294, u295, u296, u297, u298, u299, u300, u301, u302, u303, u304, u305, u306, u307, u308, u309, u310, u311, u312, u313, u314, u315, u316, u317, u318, u319, u320, u321, u322, u323, u324, u325, u326, u327, u328, u329, u330, u331, u332, u333, u334, u335, u336, u337, u338, u339, u340, u341, u342, u343, u344, u345, u346, u347, u348, u349, u350, u351, u352, u353, u354, u355, u356, u357, u358, u359, u360, u361, u362, u363, u364, u365, u366, u367, u368, u369, u370, u371, u372, u373, u374, u375, u376, u377, u378, u379, u380, u381, u382, u383, u384, u385, u386, u387, u388, u389, u390, u391, u392, u393, u394, u395, u396, u397, u398, u399, u400, u401, u402, u403, u404, u405, u406, u407, u408, u409, u410, u411, u412, u413, u414, u415, u416, u417, u418, u419, u420, u421, u422, u423, u424, u425, u426, u427, u428, u429, u430, u431, u432, u433, u434, u435, u436, u437, u438, u439, u440, u441, u442, u443, u444, u445, u446, u447, u448, u449, u450, u451, u452, u453, u454, u455, u456, u457, u458, u459, u460, u461, u462, u463, u464, u465, u466, u467, u468, u469, u470, u471, u472, u473, u474, u475, u476, u477, u478, u479, u480, u481, u482, u483, u484, u485, u486, u487, u488, u489, u490, u491, u492, u493, u494, u495, u496, u497, u498, u499, u500, u501, u502, u503, u504, u505, u506, u507, u508], []⟩ w6 := by
  unfold bl0 aft5 body5
  dsimp only [tl, hd, Yba.f5, Option.getD]
  have HJ := hide hJ
  clear hJ
  obtain ⟨i5, hi5, h51, h52, h53⟩ := info_parts Yba.info5
  obtain ⟨i69, hi69, h691, h692, h693⟩ := info_parts Yba.info69
  have g5 : (n : Int) ≤ 256 := by omega
  have g6 : (1 : Int) ≤ n := by omega
  go_wp2_with fail
  go_loopg [29] n (fun k v wr => ∃ (i : Nat) (rc rb : Nat → Nat), v = .int .i64 i ∧ i + k = n ∧ Hid (Bd ⟨ce, cv, cf, eb, vb, xb, rc, rb⟩ N i i i i i w wr))
  case atStart => exact ⟨0, _, _, rfl, by omega, D0⟩
  case round =>
    clear D0
    obtain ⟨i, rc, rb, rfl, hik, DI⟩ := hrel
    by_cases hlt : i < n
    · have hlt' : (i : Int) < n := by omega
      have hltN : Hid (i < N.n) := hide (by rw [Nn.out]; exact hlt)
      go_upto_if 86 with fail
      go_cut [] from 78 to 174 (fun wx => Hid (Bd ⟨ce, cv, cf, eb, vb, xb, rc, rb⟩ N (i + 1) i i i i w wx))
      case first =>
        by_cases he : i < el
        · obtain ⟨b, o, rfl, hc⟩ := HE.out (by omega)
          have ck := below_cell DI.out.b (lt_of (hc i he)) (hc i he)
          obtain ⟨e1, e2⟩ := DI.out.e i hltN.out
          have qe : (E i : Int) % 6 = (N.ec i : Int) := by rw [Nec.out, if_pos he]; omega
          have e5 : (E i : Int) ≤ 255 := by have := HE5.out i; omega
          have hel' : (i : Int) < el := by omega
          clear hc
          go_wp2_with fail
          go_meet
          case rel => exact hide (DI.out.setE hltN.out)
        · have hel' : ¬ (i : Int) < el := by omega
          go_wp2_with fail
          go_meet
          case rel => exact hide (DI.out.keepE (by rw [Nec.out, if_neg he]))
      case rest =>
        clear DI
        obtain ⟨wa, rfl⟩ : ∃ wo : World, wo = wc := ⟨_, rfl⟩
        obtain ⟨e1, e2⟩ := hcut.out.e i hltN.out
        simp only [pr_at (show i < i + 1 by omega)] at e1
        have ec5 : N.ec i ≤ 5 := by rw [Nec.out]; split <;> omega
        go_wp2_with fail
        refine (cval_f (N.ec i) (N.ec i) wa (by omega) (by omega)).mono ?_
        rintro e wb ⟨rfl, hb⟩
        have D1 := hide (hcut.out.below hb)
        clear hcut hb e1 e2
        obtain ⟨⟨x1, x2⟩, x3, x4⟩ := D1.out.x.ent hltN.out
        have D2 := hide (D1.out.setX hltN.out)
        unfold ent
        go_upto_if 106 with fail
        clear D1 x1 x2 x3 x4
        generalize ((wb.setCell ⟨eb, i * 2, none⟩ (.float .f64 (wd (N.ec i)))).setCell ⟨eb, i * 2 + 1, none⟩ (.bool (vd (N.ec i)))) = wd2 at D2 ⊢
        go_cut [] from 78 to 174 (fun wx => Hid (Bd ⟨ce, cv, cf, eb, vb, xb, rc, rb⟩ N (i + 1) (i + 1) (i + 1) i i w wx))
        case first =>
          by_cases he : i < fl
          · obtain ⟨b, o, rfl, hc⟩ := HF.out (by omega)
            have ck := below_cell D2.out.b (lt_of (hc i he)) (hc i he)
            obtain ⟨e1, e2⟩ := D2.out.f i hltN.out
            have qe : Hid (B i = N.cf i) := hide (by rw [Ncf.out, if_pos he])
            have hel' : (i : Int) < fl := by omega
            clear hc
            go_wp2_with fail
            go_meet
            case rel =>
              rw [qe.out]
              exact hide (D2.out.setF hltN.out)
          · have hel' : ¬ (i : Int) < fl := by omega
            go_wp2_with fail
            go_meet
            case rel => exact hide (D2.out.keepF (by rw [Ncf.out, if_neg he]))
        case rest =>
          clear D2
          obtain ⟨wd3, rfl⟩ : ∃ wo : World, wo = wc := ⟨_, rfl⟩
          obtain ⟨f1, f2⟩ := hcut.out.f i hltN.out
          simp only [pr_at (show i < i + 1 by omega)] at f1
          obtain ⟨u1, u2⟩ := hcut.out.g i hltN.out
          have D3 := hide (hcut.out.setG hltN.out)
          have bw := hide hcut.out.b
          go_upto_region 20 with fail
          clear hcut f1 f2 u1 u2 bw
          generalize (wd3.setCell ⟨xb, i, none⟩ (.bool (N.cf i))) = w4 at D3 ⊢
          by_cases hv : i < vl
          · obtain ⟨b, o, rfl, hc⟩ := HV.out (by omega)
            have ck0 := hide (hc i hv)
            have ck := below_cell D3.out.b (lt_of (hc i hv)) (hc i hv)
            have hvl' : (i : Int) < vl := by omega
            clear hc
            have HRi := hide (HR.out i hv)
            obtain ⟨ra, hra⟩ : ∃ ra, Hid (Ra i = ra) := ⟨_, hide rfl⟩
            rw [hra.out] at ck
            have ck1 := ck0.out
            rw [hra.out] at ck1
            have HC := hide ck1
            have HRj := HRi.out
            rw [hra.out] at HRj
            have HRk := hide HRj
            clear ck0 ck1 HRj HRi
            rcases ra with _ | ra
            · have hneq := fun W => run_neq_slice_nil_any (P := Yba.prog) W 63 5 none (Rl i) (Rp i) 0 0 Yba.underlying63
              have hz : Hid (N.nn i = false) := hide (by rw [Nnn.out, hra.out]; simp)
              go_wp2_with fail
              go_roundg (n - i - 1)
              case measure => omega
              case rel => exact ⟨i + 1, rc, rb, by go_num, by omega, hide (D3.out.keepV hz.out)⟩
            · have hneq := fun W => run_neq_slice_nil_any (P := Yba.prog) W 63 5 (some ra) (Rl i) (Rp i) 0 0 Yba.underlying63
              have hz : Hid (N.nn i = true) := hide (by rw [Nnn.out, hra.out]; simp [hv])
              go_wp2_with (at_make; refine wpList_make_rw _ rfl (.tmp 132) 63 rfl 5 i5 (.int .u8 0) Yba.underlying63 hi5 h51 h52 rfl n ?hl ?b2 ?b3 ?_)
              case hl => rfl
              case b2 => rw [h53]; omega
              case b3 => omega
              intro w5 r5 b5 l5
              have R5 := hide r5
              have B5 := hide b5
              clear r5 b5 hneq
              go_wp2_with (at_make; refine wpList_make_rwE _ rfl (.tmp 134) 66 rfl 69 i69 (.agg #[.float .f64 0, .bool false]) Yba.underlying66 hi69 h691 h692 rfl n ?hl ?b2 ?b3 ?_)
              case hl => rfl
              case b2 => rw [h693]; omega
              case b3 => omega
              intro w6b r6 b6 l6
              obtain ⟨rB, hrB⟩ : ∃ c, Hid (w4.heap.size = c) := ⟨_, hide rfl⟩
              obtain ⟨qB, hqB⟩ : ∃ c, Hid (w5.heap.size = c) := ⟨_, hide rfl⟩
              have R6 : Hid (Rw w6b rB n (fun k => .int .u8 (pr 0 (N.vc i) 0 k : Nat))) := hide (by
                have := R5.out.below b6
                rw [hrB.out] at this
                rw [pr_zero]
                exact this)
              have Q6 : Hid (Rw w6b qB (n * 2) (ev (pr 0 (N.vc i) 0))) := hide (by
                rw [hqB.out] at r6
                rw [pr_zero]
                exact r6)
              have B6 : Hid (Below w4.heap.size w4 w6b) := hide (B5.out.trans (b6.mono (by omega)))
              have hrq : rB < qB := by have := hrB.out; have := hqB.out; omega
              have hxr : xb < rB := by have h : xb < w4.heap.size := D3.out.g.lt (Nat.lt_of_le_of_lt (Nat.zero_le _) hltN.out); have := hrB.out; omega
              rw [hrB.out, hqB.out]
              clear R5 B5 r6 b6 l5 l6 ck
              go_upto_block 2 with fail
              go_cut [] from 78 to 174 (fun wx => Hid (Rw wx rB n (fun k => .int .u8 (N.vc i k : Nat))) ∧ Hid (Rw wx qB (n * 2) (ev (N.vc i))) ∧ Hid (Below w4.heap.size w4 wx))
              case first =>
                go_wp2_with fail
                go_loopg [32] n (fun g v wr => ∃ m : Nat, v = .int .i64 m ∧ m + g = n ∧ Hid (Rw wr rB n (fun k => .int .u8 (pr m (N.vc i) 0 k : Nat))) ∧ Hid (Rw wr qB (n * 2) (ev (pr m (N.vc i) 0))) ∧ Hid (Below w4.heap.size w4 wr))
                case atStart => exact ⟨0, rfl, by omega, R6, Q6, B6⟩
                case round =>
                  clear R6 Q6 B6
                  obtain ⟨m, rfl, hmk, RI, QI, BI⟩ := hrel
                  by_cases hml : m < n
                  · have hml' : (m : Int) < n := by omega
                    have ck := below_cell (D3.out.b.trans (BI.out.mono D3.out.b.size)) (lt_of HC.out) HC.out
                    go_upto_if 147 with fail
                    go_cut [] from 136 to 166 (fun wx => Hid (Rw wx rB n (fun k => .int .u8 (pr (m + 1) (N.vc i) 0 k : Nat))) ∧ Hid (Rw wx qB (n * 2) (ev (pr m (N.vc i) 0))) ∧ Hid (Below w4.heap.size w4 wx))
                    case first =>
                      by_cases he : m < Rl i
                      · obtain ⟨b', o', hra2, hc⟩ := HRk.out (by omega)
                        injection hra2 with hra2
                        subst hra2
                        have ck2 := below_cell (D3.out.b.trans (BI.out.mono D3.out.b.size)) (lt_of (hc m he)) (hc m he)
                        obtain ⟨e1, e2⟩ := RI.out m hml
                        have qe : (R i m : Int) % 6 = (N.vc i m : Int) := by rw [Nvc.out, if_pos he]; omega
                        have e5 : (R i m : Int) ≤ 255 := by have := HR5.out i m; omega
                        have hel' : (m : Int) < (Rl i : Int) := by omega
                        clear hc
                        go_wp2_with fail
                        go_meet
                        case rel => exact ⟨hide ((RI.out.set m hml _).congr (fun k _ => by rw [← pr_set]; split <;> rfl)), hide (QI.out.other (by omega) _ _), hide (BI.out.setCell (show w4.heap.size ≤ rB by rw [hrB.out]; exact Nat.le_refl _) _)⟩
                      · have hel' : ¬ (m : Int) < (Rl i : Int) := by omega
                        go_wp2_with fail
                        go_meet
                        case rel => exact ⟨hide (by rw [pr_keep m (N.vc i) 0 (by rw [Nvc.out, if_neg he])]; exact RI.out), QI, BI⟩
                    case rest =>
                      clear RI QI BI ck
                      obtain ⟨RI, QI, BI⟩ := hcut
                      obtain ⟨we, rfl⟩ : ∃ wo : World, wo = wc := ⟨_, rfl⟩
                      obtain ⟨e1, e2⟩ := RI.out m hml
                      simp only [pr_at (show m < m + 1 by omega)] at e1
                      have ec5 : N.vc i m ≤ 5 := by rw [Nvc.out]; split <;> omega
                      go_wp2_with fail
                      refine (cval_f (N.vc i m) (N.vc i m) we (by omega) (by omega)).mono ?_
                      rintro e wf ⟨rfl, hb⟩
                      have RJ := hide (RI.out.below hb)
                      have QJ := hide (QI.out.below hb)
                      have BJ := hide (BI.out.trans (hb.mono BI.out.size))
                      clear RI QI BI hb e1 e2
                      obtain ⟨⟨x1, x2⟩, x3, x4⟩ := QJ.out.ent hml
                      unfold ent
                      go_wp2_with fail
                      go_roundg (n - m - 1)
                      case measure => omega
                      case rel =>
                        refine ⟨m + 1, by go_num, by omega, hide ((RJ.out.other (by omega) _ _).other (by omega) _ _), hide ((QJ.out.setE (c0 := N.vc i m) hml).congr (fun k _ => by rw [show (fun k => if k = m then N.vc i m else pr m (N.vc i) 0 k) = pr (m + 1) (N.vc i) 0 from funext (pr_set m (N.vc i) 0)])), hide ((BJ.out.setCell (show w4.heap.size ≤ qB by rw [hrB.out]; omega) _).setCell (show w4.heap.size ≤ qB by rw [hrB.out]; omega) _)⟩
                  · have hml' : ¬ (m : Int) < n := by omega
                    obtain rfl : m = n := by omega
                    go_wp2_with fail
                    go_meet
                    case rel => exact ⟨hide (RI.out.congr (fun k hk => by rw [pr_at hk])), hide (QI.out.congr (fun k hk => by unfold ev; rw [pr_at (show k / 2 < m by omega)])), BI⟩
              case rest =>
                clear R6 Q6 B6
                obtain ⟨RI, QI, BI⟩ := hcut
                obtain ⟨we, rfl⟩ : ∃ wo : World, wo = wc := ⟨_, rfl⟩
                have D4 := hide (D3.out.below BI.out)
                obtain ⟨v1', v2'⟩ := D4.out.v i hltN.out
                obtain ⟨u1, u2⟩ := D4.out.u i hltN.out
                simp only [pr_end (Nat.le_refl i)] at v1' u1
                have u1' : (we.setCell ⟨cv, i, none⟩ (.slice (some ⟨rB, 0, none⟩) n n)).cell? ⟨vb, i, none⟩ = some (.slice none 0 0) := (World.cell?_setCell_other _ _ _ _ (by intro e; injection e with e _ _; omega)).trans u1
                have u2' : (we.setCell ⟨cv, i, none⟩ (.slice (some ⟨rB, 0, none⟩) n n)).frozen? ⟨vb, i, none⟩ = false := (World.frozen?_setCell _ _ _ _).trans u2
                have D5 := hide (D4.out.setV hltN.out hz.out (r := rB) (q := qB) (by rw [Nn.out]; exact RI.out) (by rw [Nn.out]; exact QI.out) hxr (by show xb < qB; omega))
                rw [Nn.out] at D5
                go_wp2_with fail
                go_roundg (n - i - 1)
                case measure => omega
                case rel => exact ⟨i + 1, _, _, by go_num, by omega, D5⟩
          · have hvl' : ¬ (i : Int) < vl := by omega
            have hz : Hid (N.nn i = false) := hide (by rw [Nnn.out]; simp [hv])
            go_wp2_with fail
            go_roundg (n - i - 1)
            case measure => omega
            case rel => exact ⟨i + 1, rc, rb, by go_num, by omega, hide (D3.out.keepV hz.out)⟩
    · have hlt' : ¬ (i : Int) < n := by omega
      obtain rfl : i = n := by omega
      go_wp2_with fail
      exact Met.intro (HJ.out _ _ _ _ _ _ _ _ _ _ _ _ _ _ _ _ _ _ _ _ _ _ _ _ _ _ _ _ _ _ _ _ _ _ _ _ _ _ _ _ _ _ _ _ _ _ _ _ _ _ _ _ _ _ _ _ _ _ _ _ _ _ _ _ _ _ _ _ _ _ _ _ _ _ _ _ _ _ _ _ _ _ _ _ _ _ _ _ _ _ _ _ _ _ _ _ _ _ _ _ _ rc rb _ DI)
end Go.Proofs.Ybulkdzjs.A
