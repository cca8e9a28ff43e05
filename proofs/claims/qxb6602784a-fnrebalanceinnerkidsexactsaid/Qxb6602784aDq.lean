import Derived.Test.Qxb6602784aDp
import Derived.Test.Qxb6602784aDr
import Derived.Deep.DeepCutAuto
namespace Go.Proofs.Qxb6602784a
open Go.RowKit
set_option linter.unusedVariables false
set_option linter.unusedSimpArgs false
attribute [local go_sem] Go.wp_at_zero Go.wp_at_succ

set_option maxRecDepth 100000 in
set_option maxHeartbeats 6400000 in
theorem tail17 {w w7 w8 : World} {lc hc lo hi g0 g2 g1 GP gO m m' N gI gK k : Nat} {e : Int} {bs es : List Int} {ads : List (Option Addr)} {zss : List (List Int)} {K : List (Nat × Nat × List Nat)}
    (hm0 : 0 < m) (hm : m ≤ 65536) (hk : k < m) (hS8 : St w8 lc hc lo hi g0 g2 g1 GP gO m bs es ads zss K) (hb8 : Below w.heap.size w w8) (hz : ∀ zs ∈ zss, zs.length ≤ 131072) (hm' : m' ≤ m)
    (hnode : w8.heap[N]? = some (nd e (some ⟨gI, 0, none⟩) m' m (some ⟨gK, 0, none⟩) m' m)) (hout : Outc w7 w8 N e gI gK m m' k bs zss K)
    (u3 u6 u7 u8 u9 u10 u11 u12 u14 u16 u17 u18 u19 u22 u23 u24 u25 u26 u27 u28 u29 u30 u31 u32 u33 u34 u35 u36 u37 u38 u39 u40 u41 u42 u43 u44 u45 u46 u47 u48 u49 u50 u51 u52 u53 u54 u55 u56 u57 u58 u59 u60 u61 u62 u63 u64 u65 u66 u67 u68 u69 u70 u71 u72 u73 u74 u75 u76 u77 u78 u79 u80 u81 u82 u83 u84 u85 u86 u87 u88 u89 u90 u91 u92 u93 u94 u95 u96 u97 u98 u99 u100 u101 u102 u103 u104 u105 u106 u107 u108 u109 u110 u111 u112 u113 u114 u115 u116 u117 u118 u119 u120 u121 u122 u123 u124 u125 u126 u127 u128 u129 u130 u131 u132 u133 u134 u135 u136 u137 u138 u139 u140 u141 u142 u143 u144 u145 u146 u147 u148 u149 u150 u151 u152 u153 u154 u155 u156 u157 u158 u159 u160 u161 u162 u163 u164 u165 u166 u167 u168 u169 u170 u171 u172 u173 u174 u175 u176 u177 u178 u179 u180 u181 u182 u183 u184 u185 u186 u187 u188 u189 u190 u191 u192 u193 u194 u195 u196 u197 u198 u199 u200 u201 u202 u203 u204 u205 u206 u207 u208 u209 u210 u211 u212 u213 u214 u215 u216 u217 u218 u219 u220 u221 u222 u223 u224 u225 u226 u227 u228 u229 u230 u231 u232 u233 u234 u235 u236 u237 u238 u239 u240 u241 u242 u243 u244 u245 u246 u247 u248 u249 u250 u251 u252 u253 u254 u255 u256 u257 u258 u259 u260 u261 u262 u263 u264 u265 u266 u267 u268 u269 u270 u271 u272 u273 u274 u275 u276 u277 u278 u279 u280 u281 u282 u283 u284 u285 u286 u287 u288 u289 u290 u291 u292 u293 u294 u295 u296 u297 u298 u299 u300 u301 u302 u303 u304 u305 u306 u307 u308 u309 u310 u311 u312 u313 u314 u315 u316 u317 u318 u319 u320 u321 u322 u323 u324 u325 u326 u327 u328 u329 u330 u331 u332 u333 u334 u335 u336 u337 u338 u339 u340 u341 u342 u343 u344 u345 u346 u347 u348 u349 u350 u351 u352 u353 u354 u355 u356 u357 u358 u359 u360 u361 u362 u363 u364 u365 u366 u367 u368 u369 u370 u371 u372 u373 u374 u375 u376 u377 u378 u379 u380 u381 u382 u383 u384 u385 u386 u387 u388 u389 u390 u391 u392 u393 u394 u395 u396 u397 u398 u399 u400 u401 u402 u403 u404 u405 u406 u407 u408 u409 u410 u411 u412 u413 u414 u415 u416 u417 u418 u419 u420 u421 u422 u423 u424 u425 u426 u427 u428 u429 u430 u431 u432 u433 u434 u435 u436 u437 u438 u439 u440 u441 u442 u443 u444 u445 u446 u447 u448 u449 u450 u451 u452 u453 u454 u455 u456 u457 u458 u459 u460 u461 u462 u463 u464 u465 u466 u467 u468 u469 u470 u471 u472 u473 u474 u475 : Value) :
    TailWp 17 (bodyPost Try.prog Try.f9 fun x w' => x = .returned (.bool true) ∧ Below w.heap.size w w') { tmps := #[.slice (some ⟨g0, 0, none⟩) m m, .slice (some ⟨g2, 0, none⟩) m m, .slice (some ⟨g1, 0, none⟩) m m, u3, .int .u64 e, .int .i64 k, u6, u7, u8, u9, u10, u11, u12, .int .i64 m, u14, .slice (some ⟨GP, 0, none⟩) m m, u16, u17, u18, u19, .slice (some ⟨gO, 0, none⟩) m m, .pointer (some ⟨N, 0, none⟩), u22, u23, u24, u25, u26, u27, u28, u29, u30, u31, u32, u33, u34, u35, u36, u37, u38, u39, u40, u41, u42, u43, u44, u45, u46, u47, u48, u49, u50, u51, u52, u53, u54, u55, u56, u57, u58, u59, u60, u61, u62, u63, u64, u65, u66, u67, u68, u69, u70, u71, u72, u73, u74, u75, u76, u77, u78, u79, u80, u81, u82, u83, u84, u85, u86, u87, u88, u89, u90, u91, u92, u93, u94, u95, u96, u97, u98, u99, u100, u101, u102, u103, u104, u105, u106, u107, u108, u109, u110, u111, u112, u113, u114, u115, u116, u117, u118, u119, u120, u121, u122, u123, u124, u125, u126, u127, u128, u129, u130, u131, u132, u133, u134, u135, u136, u137, u138, u139, u140, u141, u142, u143, u144, u145, u146, u147, u148, u149, u150, u151, u152, u153, u154, u155, u156, u157, u158, u159, u160, u161, u162, u163, u164, u165, u166, u167, u168, u169, u170, u171, u172, u173, u174, u175, u176, u177, u178, u179, u180, u181, u182, u183, u184, u185, u186, u187, u188, u189, u190, u191, u192, u193, u194, u195, u196, u197, u198, u199, u200, u201, u202, u203, u204, u205, u206, u207, u208, u209, u210, u211, u212, u213, u214, u215, u216, u217, u218, u219, u220, u221, u222, u223, u224, u225, u226, u227, u228, u229, u230, u231, u232, u233, u234, u235, u236, u237, u238, u239, u240, u241, u242, u243, u244, u245, u246, u247, u248, u249, u250, u251, u252, u253, u254, u255, u256, u257, u258, u259, u260, u261, u262, u263, u264, u265, u266, u267, u268, u269, u270, u271, u272, u273, u274, u275, u276, u277, u278, u279, u280, u281, u282, u283, u284, u285, u286, u287, u288, u289, u290, u291, u292, u293, u294, u295, u296, u297, u298, u299, u300, u301, u302, u303, u304, u305, u306, u307, u308, u309, u310, u311, u312, u313, u314, u315, u316, u317, u318, u319, u320, u321, u322, u323, u324, u325, u326, u327, u328, u329, u330, u331, u332, u333, u334, u335, u336, u337, u338, u339, u340, u341, u342, u343, u344, u345, u346, u347, u348, u349, u350, u351, u352, u353, u354, u355, u356, u357, u358, u359, u360, u361, u362, u363, u364, u365, u366, u367, u368, u369, u370, u371, u372, u373, u374, u375, u376, u377, u378, u379, u380, u381, u382, u383, u384, u385, u386, u387, u388, u389, u390, u391, u392, u393, u394, u395, u396, u397, u398, u399, u400, u401, u402, u403, u404, u405, u406, u407, u408, u409, u410, u411, u412, u413, u414, u415, u416, u417, u418, u419, u420, u421, u422, u423, u424, u425, u426, u427, u428, u429, u430, u431, u432, u433, u434, u435, u436, u437, u438, u439, u440, u441, u442, u443, u444, u445, u446, u447, u448, u449, u450, u451, u452, u453, u454, u455, u456, u457, u458, u459, u460, u461, u462, u463, u464, u465, u466, u467, u468, u469, u470, u471, u472, u473, u474, u475], defers := [] } w8 := by
  refine TailWp.mk rfl ?_
  have HS8 := (show Hid (_) from And.intro hS8 (And.intro hnode (And.intro hout hb8)))
  have HZ2 := (show Hid (_) from hz)
  clear hS8 hnode hout hb8 hz
  go_wp2_with fail
  go_loopw [22] (fun i wr => ∃ (i' : Nat), i' ≤ m ∧ i = .int .i64 i' ∧ Below w8.heap.size w8 wr) (fun i _ => m - (intOf i).toNat)
  case atStart => exact ⟨0, Nat.zero_le _, rfl, Below.refl _ _⟩
  case round =>
    obtain ⟨i3, hi3, rfl, hb8r⟩ := hrel
    by_cases hlt3 : i3 < m
    · obtain ⟨p, c, qs, ev, x, zs, n, hq, hzs, hn, c1, c2, c3, c4, hrd, hin⟩ := (HS8.out.1.later hb8r).at hlt3
      have hnb : n ≤ 131072 := by rw [hn]; exact HZ2.out zs (List.mem_of_getElem? hzs)
      have HIN := (show Hid (_) from And.intro hin (And.intro hrd (And.intro hn hb8r)))
      have bi : (i3 : Int) < (m : Int) := by omega
      have bi0 : (0 : Int) ≤ (i3 : Int) := by omega
      clear hin hrd hn hq hzs hb8r
      go_wp2_with fail
      go_region_held3 (fun w' => w'.cell? ⟨gO, i3, none⟩ = some (.pointer (some ⟨p, 0, none⟩)) ∧ w'.cell? ⟨g2, i3, none⟩ = some (.int .u64 ev) ∧ w'.cell? ⟨g1, i3, none⟩ = some (.slice x n n) ∧ w'.cell? ⟨GP, i3, none⟩ = some (.slice (some ⟨c, 0, none⟩) n n))
        (first | go_keep | fail)
        ((first
          | (go_at_call 40
             refine (InnerIn.holds (InnerIn.keep HIN.out.1 (fun _ _ _ => by rfl)) HIN.out.2.2.1 (by exact ⟨HIN.out.2.1.len, HIN.out.2.1.nil, HIN.out.2.1.cell⟩) (by omega)).mono ?_
             rintro e' w9 ⟨rfl, d9, rfl⟩)
          | fail))
      go_wp2_with fail
      go_roundw
      case rel => exact ⟨i3 + 1, by omega, by go_num, ⟨HIN.out.2.2.2.os, HIN.out.2.2.2.tape, HIN.out.2.2.2.output, HIN.out.2.2.2.size, HIN.out.2.2.2.block⟩⟩
      case measure => simp [intOf]; omega
    · obtain ⟨w9, hw9⟩ : ∃ w9, w9 = wr := ⟨_, rfl⟩
      obtain rfl := hw9
      obtain rfl : m = i3 := by omega
      clear hi3 hlt3
      have HS9 := (show Hid (_) from And.intro (HS8.out.1.later hb8r) (And.intro ((hb8r.block _ (lt_of_blk HS8.out.2.1)).trans HS8.out.2.1) hb8r))
      clear hb8r
      go_wp2_with fail
      refine (zzEpoch_any _ N HS9.out.2.1).mono ?_
      rintro x w9' ⟨rfl, hw'⟩
      obtain rfl := hw'.symm
      clear hw'
      go_wp2_with fail
      refine (zzKids_any _ N HS9.out.2.1).mono ?_
      rintro x w9' ⟨rfl, hw'⟩
      obtain rfl := hw'.symm
      clear hw'
      go_wp2_with fail
      refine (zzIDs_any _ N HS9.out.2.1).mono ?_
      rintro x w9' ⟨rfl, hw'⟩
      obtain rfl := hw'.symm
      clear hw'
      rcases HS8.out.2.2.1 with ⟨hm1, hm1', hw7, hP7⟩ | ⟨j, pl, cl, ql, pr, cr, qr, zl, zr, hj, hkj, hql, hqr, hzl, hzr, hnl, hnr, hpl, hpr, hcase⟩
      · obtain ⟨p, c, qs, ev, x, zs, n, hq, _, _, oc, _⟩ := HS9.out.1.at hm0
        obtain ⟨b, hbb, bc⟩ := HS9.out.1.bound hm0
        have kc : w9.cell? ⟨gK, 0, none⟩ = some (.pointer (some ⟨p, 0, none⟩)) := cell_later HS9.out.2.2 (by rw [hw7]; exact hP7.cell (by simp [hq]))
        have ic : w9.cell? ⟨gI, 0, none⟩ = some (.int .i64 b) := cell_later HS9.out.2.2 (by rw [hw7, cell_of_row w7 gI 0 _ 2 (0, 0) hP7.ids, List.getElem?_toArray]; exact iv_get hbb)
        have he40 := e40_same
        clear hP7 hw7 hq hbb
        subst hm1 hm1'
        go_wp2_with fail
        go_quiet (fail)
        go_wp2_with fail
        go_ret
        exact ⟨rfl, below_drewN (HS8.out.2.2.2.trans (HS9.out.2.2.mono HS8.out.2.2.2.size)) _⟩
      · have q1 : ((m : Int) == 1) = false := by simp; omega
        have HCA := (show Hid (_) from And.intro hcase (And.intro hql (And.intro hqr (And.intro hzl (And.intro hzr (And.intro hnl (And.intro hnr (And.intro hpl hpr))))))))
        have HKJ := (show Hid (_) from hkj)
        clear hcase hql hqr hzl hzr hnl hnr hpl hpr hkj
        go_upto_if 226 with fail
        refine wp_cond_false rfl ?_
        refine wp_skip ?_
        go_step
        go_step
        refine (tail22 hm hj HKJ.out _ _ _ _ _ _ _ _ _ _ _ _ _ _ _ _ _ _ _ _ _ _ _ _ _ _ _ _ _ _ _ _ _ _ _ _ _ _ _ _ _ _ _ _ _ _ _ _ _ _ _ _ _ _ _ _ _ _ _ _ _ _ _ _ _ _ _ _ _ _ _ _ _ _ _ _ _ _ _ _ _ _ _ _ _ _ _ _ _ _ _ _ _ _ _ _ _ _ _ _ _ _ _ _ _ _ _ _ _ _ _ _ _ _ _ _ _ _ _ _ _ _ _ _ _ _ _ _ _ _ _ _ _ _ _ _ _ _ _ _ _ _ _ _ _ _ _ _ _ _ _ _ _ _ _ _ _ _ _ _ _ _ _ _ _ _ _ _ _ _ _ _ _ _ _ _ _ _ _ _ _ _ _ _ _ _ _ _ _ _ _ _ _ _ _ _ _ _ _ _ _ _ _ _ _ _ _ _ _ _ _ _ _ _ _ _ _ _ _ _ _ _ _ _ _ _ _ _ _ _ _ _ _ _ _ _ _ _ _ _ _ _ _ _ _ _ _ _ _ _ _ _ _ _ _ _ _ _ _ _ _ _ _ _ _ _ _ _ _ _ _ _ _ _ _ _ _ _ _ _ _ _ _ _ _ _ _ _ _ _ _ _ _ _ _ _ _ _ _ _ _ _ _ _ _ _ _ _ _ _ _ _ _ _ _ _ _ _ _ _ _ _ _ _ _ _ _ _ _ _ _ _ _ _ _ _ _ _ _ _ _ _ _ _ _ _ _ _ _ _ _ _ _ _ _ _ _ _ _ _ _ _ _ _ _ _ _ _ _ _ _ _ _ _ _ _ _ _ _ _ _ _ _ _ _ _ _ _ _ _ _ _ _ _ _ _ _ _ _ _ _ _ _ _ _ _ _ _ _ _ _ _ _ _ _ _ _ _ _ _ _ _ _ _ _ _ _ _ _ _ _ _ _ _ _ _ _ _ _ _ _ _ _ _ _ _ _ _ _ _ _ _ _ _ _ _ _ _ _ _ _ _ _ _ _ _ _ _ _ _ _ _ _ _ (fun v253 v254 v255 v256 v257 v258 v259 => ?_)) _ rfl
        rcases HCA.out.1 with ⟨hsm, hm'', J, gJ, kJ, hR⟩ | ⟨hsm, hm'', J, gJ, kJ, Q, gQ, cQ, kQ, dQ, z, hz', hR⟩
        · exact tail24_small hm HS8.out.1 HS8.out.2.2.2 HS9.out.2.2 HZ2.out hj HCA.out.2.1 HCA.out.2.2.1 HCA.out.2.2.2.1 HCA.out.2.2.2.2.1 HCA.out.2.2.2.2.2.1 HCA.out.2.2.2.2.2.2.1 HCA.out.2.2.2.2.2.2.2.1 HCA.out.2.2.2.2.2.2.2.2 hsm hm'' hR _ _ _ _ _ _ _ _ _ _ _ _ _ _ _ _ _ _ _ _ _ _ _ _ _ _ _ _ _ _ _ _ _ _ _ _ _ _ _ _ _ _ _ _ _ _ _ _ _ _ _ _ _ _ _ _ _ _ _ _ _ _ _ _ _ _ _ _ _ _ _ _ _ _ _ _ _ _ _ _ _ _ _ _ _ _ _ _ _ _ _ _ _ _ _ _ _ _ _ _ _ _ _ _ _ _ _ _ _ _ _ _ _ _ _ _ _ _ _ _ _ _ _ _ _ _ _ _ _ _ _ _ _ _ _ _ _ _ _ _ _ _ _ _ _ _ _ _ _ _ _ _ _ _ _ _ _ _ _ _ _ _ _ _ _ _ _ _ _ _ _ _ _ _ _ _ _ _ _ _ _ _ _ _ _ _ _ _ _ _ _ _ _ _ _ _ _ _ _ _ _ _ _ _ _ _ _ _ _ _ _ _ _ _ _ _ _ _ _ _ _ _ _ _ _ _ _ _ _ _ _ _ _ _ _ _ _ _ _ _ _ _ _ _ _ _ _ _ _ _ _ _ _ _ _ _ _ _ _ _ _ _ _ _ _ _ _ _ _ _ _ _ _ _ _ _ _ _ _ _ _ _ _ _ _ _ _ _ _ _ _ _ _ _ _ _ _ _ _ _ _ _ _ _ _ _ _ _ _ _ _ _ _ _ _ _ _ _ _ _ _ _ _ _ _ _ _ _ _ _ _ _ _ _ _ _ _ _ _ _ _ _ _ _ _ _ _ _ _ _ _ _ _ _ _ _ _ _ _ _ _ _ _ _ _ _ _ _ _ _ _ _ _ _ _ _ _ _ _ _ _ _ _ _ _ _ _ _ _ _ _ _ _ _ _ _ _ _ _ _ _ _ _ _ _ _ _ _ _ _ _ _ _ _ _ _ _ _ _ _ _ _ _ _ _ _ _ _ _ _ _ _ _ _ _ _ _ _ _ _ _ _ _ _ _ _ _ _ _ _ _ _ _ _ _ _ _ _ _ _ _ _ _ _ _ _ _
        · exact tail24_big hm HS8.out.1 HS8.out.2.2.2 HS9.out.2.2 HZ2.out hj HCA.out.2.1 HCA.out.2.2.1 HCA.out.2.2.2.1 HCA.out.2.2.2.2.1 HCA.out.2.2.2.2.2.1 HCA.out.2.2.2.2.2.2.1 HCA.out.2.2.2.2.2.2.2.1 HCA.out.2.2.2.2.2.2.2.2 hsm hm'' hz' hR _ _ _ _ _ _ _ _ _ _ _ _ _ _ _ _ _ _ _ _ _ _ _ _ _ _ _ _ _ _ _ _ _ _ _ _ _ _ _ _ _ _ _ _ _ _ _ _ _ _ _ _ _ _ _ _ _ _ _ _ _ _ _ _ _ _ _ _ _ _ _ _ _ _ _ _ _ _ _ _ _ _ _ _ _ _ _ _ _ _ _ _ _ _ _ _ _ _ _ _ _ _ _ _ _ _ _ _ _ _ _ _ _ _ _ _ _ _ _ _ _ _ _ _ _ _ _ _ _ _ _ _ _ _ _ _ _ _ _ _ _ _ _ _ _ _ _ _ _ _ _ _ _ _ _ _ _ _ _ _ _ _ _ _ _ _ _ _ _ _ _ _ _ _ _ _ _ _ _ _ _ _ _ _ _ _ _ _ _ _ _ _ _ _ _ _ _ _ _ _ _ _ _ _ _ _ _ _ _ _ _ _ _ _ _ _ _ _ _ _ _ _ _ _ _ _ _ _ _ _ _ _ _ _ _ _ _ _ _ _ _ _ _ _ _ _ _ _ _ _ _ _ _ _ _ _ _ _ _ _ _ _ _ _ _ _ _ _ _ _ _ _ _ _ _ _ _ _ _ _ _ _ _ _ _ _ _ _ _ _ _ _ _ _ _ _ _ _ _ _ _ _ _ _ _ _ _ _ _ _ _ _ _ _ _ _ _ _ _ _ _ _ _ _ _ _ _ _ _ _ _ _ _ _ _ _ _ _ _ _ _ _ _ _ _ _ _ _ _ _ _ _ _ _ _ _ _ _ _ _ _ _ _ _ _ _ _ _ _ _ _ _ _ _ _ _ _ _ _ _ _ _ _ _ _ _ _ _ _ _ _ _ _ _ _ _ _ _ _ _ _ _ _ _ _ _ _ _ _ _ _ _ _ _ _ _ _ _ _ _ _ _ _ _ _ _ _ _ _ _ _ _ _ _ _ _ _ _ _ _ _ _ _ _ _ _ _ _ _ _ _ _ _ _ _ _ _ _ _ _ _ _ _ _ _ _ _

end Go.Proofs.Qxb6602784a
