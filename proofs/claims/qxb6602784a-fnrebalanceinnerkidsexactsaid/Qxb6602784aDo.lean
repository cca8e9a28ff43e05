import Derived.Test.Qxb6602784aDn
import Derived.Deep.DeepCutAuto
namespace Go.Proofs.Qxb6602784a
open Go.RowKit
set_option linter.unusedVariables false
set_option linter.unusedSimpArgs false
attribute [local go_sem] Go.wp_at_zero Go.wp_at_succ

/-- what is left of a code behind its first n parts -/
def tailO : Nat → Option Code → Option Code
  | 0, c => c
  | n + 1, some (.seq _ b) => tailO n (some b)
  | _ + 1, _ => none

/-- the law's function, from its part n on -/
def TailWp (n : Nat) (Q : Exit → Act → World → Prop) (a : Act) (w : World) : Prop := ∀ c, tailO n Try.f9.body = some c → c.wp Try.prog Q a w
theorem TailWp.mk {n : Nat} {Q : Exit → Act → World → Prop} {a : Act} {w : World} {c : Code} (h : tailO n Try.f9.body = some c) (hw : c.wp Try.prog Q a w) : TailWp n Q a w := fun c' hc' => by
  rw [h] at hc'
  obtain rfl := Option.some.inj hc'
  exact hw

set_option maxRecDepth 100000 in
set_option maxHeartbeats 6400000 in
theorem tail24_small {w w7 w8 w9 : World} {lc hc lo hi g0 g2 g1 GP gO m m' N gI gK j : Nat} {e : Int} {bs es : List Int} {ads : List (Option Addr)} {zss : List (List Int)} {K : List (Nat × Nat × List Nat)} {pl cl pr cr : Nat} {ql qr : List Nat} {zl zr : List Int}
    (hm : m ≤ 65536) (hS8 : St w8 lc hc lo hi g0 g2 g1 GP gO m bs es ads zss K) (hb8 : Below w.heap.size w w8) (hb9 : Below w8.heap.size w8 w9) (hz : ∀ zs ∈ zss, zs.length ≤ 131072) (hj : j + 1 < m)
    (hql : K[j]? = some (pl, cl, ql)) (hqr : K[j + 1]? = some (pr, cr, qr)) (hzl : zss[j]? = some zl) (hzr : zss[j + 1]? = some zr) (hnl : ql.length = zl.length) (hnr : qr.length = zr.length) (hpl : pl < w7.heap.size) (hpr : pr < w7.heap.size) {J gJ kJ : Nat} (hsm : zl.length + zr.length ≤ 64) (hm' : m' = m - 1) (hR : RbSmallI w7 w8 N e gI gK m j (iv bs) (K.map (·.1)) (iv zl) (iv zr) (ql.map pv) (qr.map pv) J gJ kJ)
    (u1 u3 u5 u6 u7 u8 u9 u10 u11 u12 u14 u16 u17 u18 u19 u21 u22 u26 u27 u28 u29 u30 u31 u32 u33 u34 u35 u36 u37 u38 u39 u40 u41 u42 u43 u44 u45 u46 u47 u48 u49 u50 u51 u52 u53 u54 u55 u56 u57 u58 u59 u60 u61 u62 u63 u64 u65 u66 u67 u68 u69 u70 u71 u72 u73 u74 u75 u76 u77 u78 u79 u80 u81 u82 u83 u84 u85 u86 u87 u88 u89 u90 u91 u92 u93 u94 u95 u96 u97 u98 u99 u100 u101 u102 u103 u104 u105 u106 u107 u108 u109 u110 u111 u112 u113 u114 u115 u116 u117 u118 u119 u120 u121 u122 u123 u124 u125 u126 u127 u128 u129 u130 u131 u132 u133 u134 u135 u136 u137 u138 u139 u140 u141 u142 u143 u144 u145 u146 u147 u148 u149 u150 u151 u152 u153 u154 u155 u156 u157 u158 u159 u160 u161 u162 u163 u164 u165 u166 u167 u168 u169 u170 u171 u172 u173 u174 u175 u176 u177 u178 u179 u180 u181 u182 u183 u184 u185 u186 u187 u188 u189 u190 u191 u192 u193 u194 u195 u196 u197 u198 u199 u200 u201 u202 u203 u204 u205 u206 u207 u208 u209 u210 u211 u212 u213 u214 u215 u216 u217 u218 u219 u220 u221 u222 u223 u224 u225 u226 u227 u228 u229 u230 u231 u232 u233 u234 u235 u236 u237 u238 u239 u240 u241 u242 u243 u244 u245 u246 u247 u248 u249 u250 u251 u252 u253 u254 u255 u256 u257 u258 u259 u260 u261 u262 u263 u264 u265 u266 u267 u268 u269 u270 u271 u272 u273 u274 u275 u276 u277 u278 u279 u280 u281 u282 u283 u284 u285 u286 u287 u288 u289 u290 u291 u292 u293 u294 u295 u296 u297 u298 u299 u300 u301 u302 u303 u304 u305 u306 u307 u308 u309 u310 u311 u312 u313 u314 u315 u316 u317 u318 u319 u320 u321 u322 u323 u324 u325 u326 u327 u328 u329 u330 u331 u332 u333 u334 u335 u336 u337 u338 u339 u340 u341 u342 u343 u344 u345 u346 u347 u348 u349 u350 u351 u352 u353 u354 u355 u356 u357 u358 u359 u360 u361 u362 u363 u364 u365 u366 u367 u368 u369 u370 u371 u372 u373 u374 u375 u376 u377 u378 u379 u380 u381 u382 u383 u384 u385 u386 u387 u388 u389 u390 u391 u392 u393 u394 u395 u396 u397 u398 u399 u400 u401 u402 u403 u404 u405 u406 u407 u408 u409 u410 u411 u412 u413 u414 u415 u416 u417 u418 u419 u420 u421 u422 u423 u424 u425 u426 u427 u428 u429 u430 u431 u432 u433 u434 u435 u436 u437 u438 u439 u440 u441 u442 u443 u444 u445 u446 u447 u448 u449 u450 u451 u452 u453 u454 u455 u456 u457 u458 u459 u460 u461 u462 u463 u464 u465 u466 u467 u468 u469 u470 u471 u472 u473 u474 u475 : Value) :
    TailWp 24 (bodyPost Try.prog Try.f9 fun x w' => x = .returned (.bool true) ∧ Below w.heap.size w w') { tmps := #[.slice (some ⟨g0, 0, none⟩) m m, u1, .slice (some ⟨g1, 0, none⟩) m m, u3, .int .u64 e, u5, u6, u7, u8, u9, u10, u11, u12, .int .i64 m, u14, .slice (some ⟨GP, 0, none⟩) m m, u16, u17, u18, u19, .slice (some ⟨gO, 0, none⟩) m m, u21, u22, .slice (some ⟨gK, 0, none⟩) m' m, .slice (some ⟨gI, 0, none⟩) m' m, .int .i64 j, u26, u27, u28, u29, u30, u31, u32, u33, u34, u35, u36, u37, u38, u39, u40, u41, u42, u43, u44, u45, u46, u47, u48, u49, u50, u51, u52, u53, u54, u55, u56, u57, u58, u59, u60, u61, u62, u63, u64, u65, u66, u67, u68, u69, u70, u71, u72, u73, u74, u75, u76, u77, u78, u79, u80, u81, u82, u83, u84, u85, u86, u87, u88, u89, u90, u91, u92, u93, u94, u95, u96, u97, u98, u99, u100, u101, u102, u103, u104, u105, u106, u107, u108, u109, u110, u111, u112, u113, u114, u115, u116, u117, u118, u119, u120, u121, u122, u123, u124, u125, u126, u127, u128, u129, u130, u131, u132, u133, u134, u135, u136, u137, u138, u139, u140, u141, u142, u143, u144, u145, u146, u147, u148, u149, u150, u151, u152, u153, u154, u155, u156, u157, u158, u159, u160, u161, u162, u163, u164, u165, u166, u167, u168, u169, u170, u171, u172, u173, u174, u175, u176, u177, u178, u179, u180, u181, u182, u183, u184, u185, u186, u187, u188, u189, u190, u191, u192, u193, u194, u195, u196, u197, u198, u199, u200, u201, u202, u203, u204, u205, u206, u207, u208, u209, u210, u211, u212, u213, u214, u215, u216, u217, u218, u219, u220, u221, u222, u223, u224, u225, u226, u227, u228, u229, u230, u231, u232, u233, u234, u235, u236, u237, u238, u239, u240, u241, u242, u243, u244, u245, u246, u247, u248, u249, u250, u251, u252, u253, u254, u255, u256, u257, u258, u259, u260, u261, u262, u263, u264, u265, u266, u267, u268, u269, u270, u271, u272, u273, u274, u275, u276, u277, u278, u279, u280, u281, u282, u283, u284, u285, u286, u287, u288, u289, u290, u291, u292, u293, u294, u295, u296, u297, u298, u299, u300, u301, u302, u303, u304, u305, u306, u307, u308, u309, u310, u311, u312, u313, u314, u315, u316, u317, u318, u319, u320, u321, u322, u323, u324, u325, u326, u327, u328, u329, u330, u331, u332, u333, u334, u335, u336, u337, u338, u339, u340, u341, u342, u343, u344, u345, u346, u347, u348, u349, u350, u351, u352, u353, u354, u355, u356, u357, u358, u359, u360, u361, u362, u363, u364, u365, u366, u367, u368, u369, u370, u371, u372, u373, u374, u375, u376, u377, u378, u379, u380, u381, u382, u383, u384, u385, u386, u387, u388, u389, u390, u391, u392, u393, u394, u395, u396, u397, u398, u399, u400, u401, u402, u403, u404, u405, u406, u407, u408, u409, u410, u411, u412, u413, u414, u415, u416, u417, u418, u419, u420, u421, u422, u423, u424, u425, u426, u427, u428, u429, u430, u431, u432, u433, u434, u435, u436, u437, u438, u439, u440, u441, u442, u443, u444, u445, u446, u447, u448, u449, u450, u451, u452, u453, u454, u455, u456, u457, u458, u459, u460, u461, u462, u463, u464, u465, u466, u467, u468, u469, u470, u471, u472, u473, u474, u475], defers := [] } w9 := by
  refine TailWp.mk rfl ?_
  have HS8 := (show Hid (_) from And.intro hS8 (And.intro hb8 hb9))
  have HS9 := (show Hid (_) from hS8.later hb9)
  have HZ2 := (show Hid (_) from hz)
  clear hS8 hb8 hb9 hz
  obtain ⟨pl', cl', ql', evl, xl, zl', tl, hql', hzl', htl, ol, _, lxl, gpl, hrl, hinl⟩ := HS9.out.at (i := j) (by omega)
  obtain ⟨pr', cr', qr', evr, xr, zr', tr, hqr', hzr', htr, or_, _, lxr, gpr, hrr, hinr⟩ := HS9.out.at (i := j + 1) (by omega)
  rw [hql] at hql'
  rw [hqr] at hqr'
  rw [hzl] at hzl'
  rw [hzr] at hzr'
  simp only [Option.some.injEq, Prod.mk.injEq] at hql' hqr' hzl' hzr'
  obtain ⟨rfl, rfl, rfl⟩ := hql'
  obtain ⟨rfl, rfl, rfl⟩ := hqr'
  subst hzl' hzr'
  have htl' : tl ≤ 131072 := by rw [htl]; exact HZ2.out zl (List.mem_of_getElem? hzl)
  have htr' : tr ≤ 131072 := by rw [htr]; exact HZ2.out zr (List.mem_of_getElem? hzr)
  have hrdl : Rd w9 (some ⟨cl, 0, none⟩) tl tl (ql.map pv) := rd_row hinl.cp (by simp [hinl.ql, htl])
  have hrdr : Rd w9 (some ⟨cr, 0, none⟩) tr tr (qr.map pv) := rd_row hinr.cp (by simp [hinr.ql, htr])
  obtain ⟨al, gl, nodl, _⟩ := hinl.ex
  obtain ⟨ar, gr, nodr, _⟩ := hinr.ex
  have b3 : (j : Int) < (m : Int) := by omega
  have b4 : (j : Int) + 1 < (m : Int) := by omega
  have b5 : (0 : Int) ≤ (j : Int) := by omega
  have b6 : (0 : Int) ≤ (j : Int) + 1 := by omega
  have hto : ((j : Int) + 1).toNat = j + 1 := by omega
  have hwr : IntKind.i64.wrap ((j : Int) + 1) = (j : Int) + 1 := by rw [IntKind.wrap_i64]; omega
  have HRL := (show Hid (_) from And.intro hrl (And.intro hrr (And.intro hrdl (And.intro hrdr (And.intro nodl nodr)))))
  have HTL := (show Hid (_) from And.intro htl (And.intro htr (And.intro hnl hnr)))
  have HPL := (show Hid (_) from And.intro hpl hpr)
  clear hrl hrr hrdl hrdr nodl nodr htl htr hnl hnr hpl hpr hinl hinr hql hqr hzl hzr
  go_wp2_with fail
  go_region_held3 (fun w' => w'.cell? ⟨g1, j, none⟩ = some (.slice xl tl tl) ∧ w'.cell? ⟨g1, j + 1, none⟩ = some (.slice xr tr tr))
    (first | go_keep | fail)
    ((first
      | (go_at_call 35
         refine (concatInts_any _ xl tl tl xr tr tr (iv zl) (iv zr) (by exact ⟨HRL.out.1.len, HRL.out.1.nil, HRL.out.1.cell⟩) (by exact ⟨HRL.out.2.1.len, HRL.out.2.1.nil, HRL.out.2.1.cell⟩) (iv_one _) (iv_one _) (by omega)).mono ?_
         rintro e' w10 ⟨rfl, hb10', hc10⟩
         have hb10 : Below w9.heap.size w9 w10 := ⟨hb10'.os, hb10'.tape, hb10'.output, hb10'.size, hb10'.block⟩
         have lxl' := cell_later hb10 lxl
         have lxr' := cell_later hb10 lxr
         have HB10 := (show Hid (_) from And.intro hb10 hc10)
         clear hb10 hc10 hb10')
      | fail))
  have gpl' := cell_later HB10.out.1 gpl
  have gpr' := cell_later HB10.out.1 gpr
  go_wp2_with fail
  go_region_held3 (fun w' => w'.cell? ⟨GP, j, none⟩ = some (.slice (some ⟨cl, 0, none⟩) tl tl) ∧ w'.cell? ⟨GP, j + 1, none⟩ = some (.slice (some ⟨cr, 0, none⟩) tr tr))
    (first | go_keep | fail)
    ((first
      | (go_at_call 41
         refine (concatPtrs_any _ (some ⟨cl, 0, none⟩) tl tl (some ⟨cr, 0, none⟩) tr tr (ql.map pv) (qr.map pv) (by exact (HRL.out.2.2.1.later HB10.out.1).drewN 1) (by exact (HRL.out.2.2.2.1.later HB10.out.1).drewN 1) (pv_one _) (pv_one _) (by omega)).mono ?_
         rintro e' w11 ⟨rfl, hb11', hc11⟩
         have hb11 : Below w10.heap.size w10 w11 := ⟨hb11'.os, hb11'.tape, hb11'.output, hb11'.size, hb11'.block⟩
         have gpl'' := cell_later hb11 gpl'
         have gpr'' := cell_later hb11 gpr'
         have HB11 := (show Hid (_) from And.intro hb11 hc11)
         clear hb11 hc11 hb11')
      | fail))
  have hb9_11 : Below w9.heap.size w9 w11 := HB10.out.1.trans (HB11.out.1.mono HB10.out.1.size)
  have hb8_11 : Below w8.heap.size w8 w11 := HS8.out.2.2.trans (hb9_11.mono HS8.out.2.2.size)
  have hcB : w11.heap[w9.heap.size]? = some (.cells (iv (zl ++ zr)).toArray 2 (0, 0)) := by
    rw [iv_append]
    exact (HB11.out.1.block _ (lt_of_blk HB10.out.2)).trans HB10.out.2
  have hcP : w11.heap[w10.heap.size]? = some (.cells ((ql ++ qr).map pv).toArray 40 (0, 0)) := by
    rw [List.map_append]; exact HB11.out.2
  have hnJl := (hb9_11.block _ (lt_of_blk HRL.out.2.2.2.2.1)).trans HRL.out.2.2.2.2.1
  have hnJr := (hb9_11.block _ (lt_of_blk HRL.out.2.2.2.2.2)).trans HRL.out.2.2.2.2.2
  have ol' := cell_later hb9_11 ol
  have or' := cell_later hb9_11 or_
  have HC := (show Hid (_) from And.intro hb8_11 (And.intro hcB (And.intro hcP (And.intro hnJl hnJr))))
  clear hb8_11 hb9_11 hcB hcP hnJl hnJr gpl gpr gpl' gpr' gpl'' gpr'' lxl lxr lxl' lxr' ol or_ HB10 HB11
  obtain ⟨gC, hgC⟩ : ∃ gC, gC = w9.heap.size := ⟨_, rfl⟩
  obtain ⟨gD, hgD⟩ : ∃ gD, gD = w10.heap.size := ⟨_, rfl⟩
  rw [← hgC, ← hgD]
  have HGC := (show Hid (_) from And.intro hgC hgD)
  clear hgC hgD
  have q1 : ((m' : Int) != (m : Int) - 1) = false := by simp; omega
  have q2 : IntKind.i64.wrap ((m : Int) - 1) = (m : Int) - 1 := by rw [IntKind.wrap_i64]; omega
  have q3 : tl + tr ≤ 64 := by have h1 := HTL.out.1; have h2 := HTL.out.2.1; omega
  have HR := (show Hid (_) from hR)
  have HM' := (show Hid (_) from hm')
  have hne := n40_same
  clear hR hm' hsm
  go_wp2_with fail
  go_loopw [28] (fun i wr => ∃ (i' : Nat), i' ≤ m' ∧ i = .int .i64 i' ∧ Below w11.heap.size w11 wr) (fun i _ => m' - (intOf i).toNat)
  case atStart => exact ⟨0, Nat.zero_le _, rfl, Below.refl _ _⟩
  case round =>
    obtain ⟨i5, hi5, rfl, hbr⟩ := hrel
    have hb8r : Below w8.heap.size w8 wr := HC.out.1.trans (hbr.mono HC.out.1.size)
    by_cases hlt5 : i5 < m'
    · have c1 : (i5 : Int) < (m : Int) - 1 := by have := HM'.out; omega
      have c2 : (i5 : Int) < (m' : Int) := by omega
      have c3 : (i5 : Int) < (m : Int) := by omega
      have c4 : (0 : Int) ≤ (i5 : Int) := by omega
      have HBR := (show Hid (_) from And.intro hbr hb8r)
      rcases small_cells HS8.out.1 HR.out hb8r hj (i := i5) (by have := HM'.out; omega) with ⟨hij, kc, b, ic, bc⟩ | ⟨hij, p, b, ic, bc, kc, oc⟩ | ⟨hij, p, b, ic, bc, kc, oc⟩
      · obtain rfl : j = i5 := hij.symm
        have ol2 := cell_later hbr ol'
        have or2 := cell_later hbr or'
        have hJn := HR.out.new
        have jl := lt_of_blk HR.out.join
        have nJ := (hb8r.block J jl).trans HR.out.join
        have nPl := (hbr.block pl (lt_of_blk HC.out.2.2.2.1)).trans HC.out.2.2.2.1
        have nPr := (hbr.block pr (lt_of_blk HC.out.2.2.2.2)).trans HC.out.2.2.2.2
        have HFN := (show Hid (∀ W : World, W.heap = wr.heap → Calls Try.prog 36 #[.pointer (some ⟨J, 0, none⟩), .pointer (some ⟨pl, 0, none⟩), .pointer (some ⟨pr, 0, none⟩)] W fun y w' => y = .returned (.bool true) ∧ w' = W) from fun W hW => freshNode_true W J pl pr (by have := HPL.out.1; omega) (by have := HPL.out.2; omega) (by rw [hW]; exact nJ) (by rw [hW]; exact nPl) (by rw [hW]; exact nPr))
        have HIH := (show Hid (∀ W : World, W.heap = wr.heap → Calls Try.prog 40 #[.pointer (some ⟨J, 0, none⟩), .int .u64 e, .slice (some ⟨gC, 0, none⟩) (tl + tr) (tl + tr), .slice (some ⟨gD, 0, none⟩) (tl + tr) (tl + tr)] W fun y w' => y = .returned (.bool true) ∧ ∃ d, w' = W.drewN d) from fun W hW => by
          have t1 := HTL.out.1
          have t2 := HTL.out.2.1
          have t3 := HTL.out.2.2.1
          have t4 := HTL.out.2.2.2
          have r1 := (hb8r.block gJ (lt_of_blk HR.out.jids)).trans HR.out.jids
          have r2 := (hb8r.block kJ (lt_of_blk HR.out.jkids)).trans HR.out.jkids
          have r3 := (hbr.block _ (lt_of_blk HC.out.2.1)).trans HC.out.2.1
          have r4 := (hbr.block _ (lt_of_blk HC.out.2.2.1)).trans HC.out.2.2.1
          rw [← iv_append] at r1
          rw [← List.map_append] at r2
          rw [← HGC.out.1] at r3
          rw [← HGC.out.2] at r4
          rw [← hW] at r1 r2 r3 r4
          have nJ' := nJ
          rw [iv_len, iv_len, ← t1, ← t2, ← hW] at nJ'
          exact innerHolds_true W J e (some ⟨gJ, 0, none⟩) (tl + tr) (tl + tr) ⟨kJ, 0, none⟩ (tl + tr) (some ⟨gC, 0, none⟩) (tl + tr) (some ⟨gD, 0, none⟩) (tl + tr) (zl ++ zr) (ql ++ qr) (by omega) nJ' (rd_row r1 (by rw [iv_len]; simp; omega)) (rd_row r3 (by rw [iv_len]; simp; omega)) (rd_row r2 (by simp; omega)) (rd_row r4 (by simp; omega)))
        clear hbr hb8r hJn jl nJ nPl nPr hij
        go_wp2_with fail
        go_quiet (fail)
        go_wp2_with fail
        go_region_held3 (fun w' => w'.cell? ⟨gK, j, none⟩ = some (.pointer (some ⟨J, 0, none⟩)) ∧ w'.cell? ⟨gO, j, none⟩ = some (.pointer (some ⟨pl, 0, none⟩)) ∧ w'.cell? ⟨gO, j + 1, none⟩ = some (.pointer (some ⟨pr, 0, none⟩)))
          (first | go_keep | fail)
          ((first
            | (go_at_call 36
               refine (HFN.out _ (by rfl)).mono ?_
               rintro e' w12 ⟨rfl, hw12⟩
               obtain rfl := hw12.symm
               clear hw12)
            | (go_at_call 40
               refine (HIH.out _ (by rfl)).mono ?_
               rintro e' w12 ⟨rfl, d12, rfl⟩)
            | fail))
        go_wp2_with fail
        go_roundw
        case rel => exact ⟨j + 1, by omega, by go_num, ⟨HBR.out.1.os, HBR.out.1.tape, HBR.out.1.output, HBR.out.1.size, HBR.out.1.block⟩⟩
        case measure => simp [intOf]; omega
      · have d1 : (j : Int) < (i5 : Int) ↔ False := ⟨fun h => by omega, fun h => h.elim⟩
        have d2 : ((i5 : Int) == (j : Int)) = false := by simp; omega
        clear hbr hb8r
        go_wp2_with fail
        go_quiet (fail)
        go_wp2_with fail
        go_quiet (fail)
        go_wp2_with fail
        go_roundw
        case rel => exact ⟨i5 + 1, by omega, by go_num, ⟨HBR.out.1.os, HBR.out.1.tape, HBR.out.1.output, HBR.out.1.size, HBR.out.1.block⟩⟩
        case measure => simp [intOf]; omega
      · have d1 : (j : Int) < (i5 : Int) := by omega
        have d2 : ((i5 : Int) == (j : Int)) = false := by simp; omega
        have d3 : IntKind.i64.wrap ((i5 : Int) + 1) = (i5 : Int) + 1 := by rw [IntKind.wrap_i64]; omega
        have d4 : (i5 : Int) + 1 < (m : Int) := by omega
        have d5 : (0 : Int) ≤ (i5 : Int) + 1 := by omega
        have d6 : ((i5 : Int) + 1).toNat = i5 + 1 := by omega
        clear hbr hb8r
        go_wp2_with fail
        go_quiet (fail)
        go_wp2_with fail
        go_quiet (fail)
        go_wp2_with fail
        go_roundw
        case rel => exact ⟨i5 + 1, by omega, by go_num, ⟨HBR.out.1.os, HBR.out.1.tape, HBR.out.1.output, HBR.out.1.size, HBR.out.1.block⟩⟩
        case measure => simp [intOf]; omega
    · have c1 : ¬ (i5 : Int) < (m : Int) - 1 := by have := HM'.out; omega
      have HBR := (show Hid (_) from hb8r)
      clear hbr hb8r
      go_wp2_with fail
      go_ret
      exact ⟨rfl, HS8.out.2.1.trans (HBR.out.mono HS8.out.2.1.size)⟩

end Go.Proofs.Qxb6602784a
