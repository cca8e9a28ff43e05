import Derived.Test.Qxb6602784aDm
namespace Go.Proofs.Qxb6602784a
open Go.RowKit
set_option linter.unusedVariables false
set_option linter.unusedSimpArgs false

theorem cl_of2 {w w1 w2 w3 w4 : World} {g0 g1 g2 : Nat} {bs es : List Int} {ads : List (Option Addr)} {zss : List (List Int)}
    (h1 : Below w.heap.size w w1 ∧ w.heap.size ≤ g0 ∧ g0 < w1.heap.size ∧ w1.heap[g0]? = some (.cells (iv bs).toArray 2 (0, 0)))
    (h2 : Below w1.heap.size w1 w2 ∧ w1.heap.size ≤ g2 ∧ g2 < w2.heap.size ∧ w2.heap[g2]? = some (.cells (uv es).toArray 33 (0, 0)))
    (h3 : Below w2.heap.size w2 w3 ∧ w2.heap.size ≤ g1 ∧ g1 < w3.heap.size ∧ w3.heap[g1]? = some (.cells (hz ads zss).toArray 30 (0, 0)) ∧ Cp2 w3 w2.heap.size w3.heap.size (some ⟨g1, 0, none⟩) ads zss)
    (h4 : Below w3.heap.size w3 w4) : Cl w4 w.heap.size w4.heap.size g0 g1 g2 bs es ads zss := by
  obtain ⟨b1, p1, p2, p3⟩ := h1
  obtain ⟨b2, r1, r2, r3⟩ := h2
  obtain ⟨b3, q1, q2, q3, q4⟩ := h3
  have e1 := b1.size
  have e2 := b2.size
  have e3 := b3.size
  have e4 := h4.size
  refine ⟨?_, ?_, q4.len, ?_, ?_, ⟨p1, by omega⟩, ⟨by omega, by omega⟩, ⟨by omega, by omega⟩⟩
  · exact (h4.block g0 (by omega)).trans ((b3.block g0 (by omega)).trans ((b2.block g0 (by omega)).trans p3))
  · exact (h4.block g1 (by omega)).trans q3
  · intro i x zs k1 k2
    exact ((q4.row i x zs k1 k2).later h4 (Nat.le_refl _)).wide (by omega) (by omega)
  · exact (h4.block g2 (by omega)).trans ((b3.block g2 (by omega)).trans r3)

variable {w w' : World} {lc hc lo hi gB gE gL GP gO m : Nat} {bs es : List Int} {ads : List (Option Addr)} {zss : List (List Int)} {K : List (Nat × Nat × List Nat)}

/-- what rebalance left, m' kids -/
def Outc (w w' : World) (N : Nat) (e : Int) (gI gK m m' k : Nat) (bs : List Int) (zss : List (List Int)) (K : List (Nat × Nat × List Nat)) : Prop :=
  (m = 1 ∧ m' = 1 ∧ w' = w ∧ Par w N e gI gK m (iv bs) (K.map (·.1))) ∨
  (∃ j pl cl ql pr cr qr zl zr, j + 1 < m ∧ ((k = j ∧ j + 1 < m) ∨ (k = j + 1 ∧ m = j + 2)) ∧ K[j]? = some (pl, cl, ql) ∧ K[j + 1]? = some (pr, cr, qr) ∧ zss[j]? = some zl ∧ zss[j + 1]? = some zr ∧ ql.length = zl.length ∧ qr.length = zr.length ∧ pl < w.heap.size ∧ pr < w.heap.size ∧
    ((zl.length + zr.length ≤ 64 ∧ m' = m - 1 ∧ ∃ J gJ kJ, RbSmallI w w' N e gI gK m j (iv bs) (K.map (·.1)) (iv zl) (iv zr) (ql.map pv) (qr.map pv) J gJ kJ) ∨
     (¬ zl.length + zr.length ≤ 64 ∧ m' = m ∧ ∃ J gJ kJ Q gQ cQ kQ dQ z, (zl ++ zr)[(zl.length + zr.length) / 2]? = some z ∧ RbBigI w w' N e gI gK m j ((zl.length + zr.length) / 2) (iv bs) ((iv bs).set (j + 1) (.int .i64 z)) (K.map (·.1)) (iv zl) (iv zr) (ql.map pv) (qr.map pv) J gJ kJ Q gQ cQ kQ dQ)))

theorem rb_all (N : Nat) (e : Int) (gI gK k : Nat) (hS : St w lc hc lo hi gB gE gL GP gO m bs es ads zss K) (hP : Par w N e gI gK m (iv bs) (K.map (·.1))) (hm0 : 0 < m) (hm : m ≤ 65536) (hk : k < m) (hz : ∀ zs ∈ zss, zs.length ≤ 131072)
    (f1 : hc ≤ GP) (f2 : GP < gK) (f3 : gK < lo) (f4 : hi ≤ gO) (f5 : gO < gI) (f6 : gI < N) (f7 : lo ≤ hi) :
    Calls Try.prog 46 #[.pointer (some ⟨N, 0, none⟩), .int .u64 e, .int .i64 k] w fun x w' => x = .returned (.tuple #[]) ∧ ∃ m', m' ≤ m ∧ w'.heap[N]? = some (nd e (some ⟨gI, 0, none⟩) m' m (some ⟨gK, 0, none⟩) m' m) ∧ St w' lc hc lo hi gB gE gL GP gO m bs es ads zss K ∧ Fr (fun k => k = N ∨ k = gI ∨ k = gK) w w' ∧ Outc w w' N e gI gK m m' k bs zss K := by
  have keepS : ∀ {w'}, Fr (fun k => k = N ∨ k = gI ∨ k = gK) w w' → St w' lc hc lo hi gB gE gL GP gO m bs es ads zss K := fun hf => hS.keep hf (fun k k1 k2 => by omega) (fun k k1 k2 => by omega) (by omega) (by omega)
  by_cases hm1 : m = 1
  · subst hm1
    refine (rb_one w N e gI gK (iv bs) _ k hP).mono ?_
    rintro x w' ⟨rfl, rfl⟩
    exact ⟨rfl, 1, Nat.le_refl _, hP.node, hS, Fr.refl _ _, .inl ⟨rfl, rfl, rfl, hP⟩⟩
  · obtain ⟨j, hj, hkj⟩ : ∃ j, j + 1 < m ∧ ((k = j ∧ j + 1 < m) ∨ (k = j + 1 ∧ m = j + 2)) := by
      by_cases h : k + 1 < m
      · exact ⟨k, h, .inl ⟨rfl, h⟩⟩
      · exact ⟨k - 1, by omega, .inr ⟨by omega, by omega⟩⟩
    obtain ⟨pl, cl, ql, el, xl, zl, nl, hql, hzl, rfl, _, _, _, _, _, hil⟩ := hS.at (i := j) (by omega)
    obtain ⟨pr, cr, qr, er, xr, zr, nr, hqr, hzr, rfl, _, _, _, _, _, hir⟩ := hS.at (i := j + 1) (by omega)
    obtain ⟨⟨al, kl, l1, l2, l3, l4, l5⟩, l6, l7, l8, l9⟩ := hil
    obtain ⟨⟨ar, kr, r1, r2, r3, r4, r5⟩, r6, r7, r8, r9⟩ := hir
    have srcl := cp_src l2
    have srcr := cp_src r2
    rw [iv_len] at srcl srcr
    have cl0 : al = none → zl.length = 0 := fun h => by have := l2.nil h; have h2 := iv_len zl; rw [this] at h2; simpa using h2.symm
    have cr0 : ar = none → zr.length = 0 := fun h => by have := r2.nil h; have h2 := iv_len zr; rw [this] at h2; simpa using h2.symm
    have zb1 := hz zl (List.mem_of_getElem? hzl)
    have zb2 := hz zr (List.mem_of_getElem? hzr)
    have ipl : (K.map (·.1))[j]? = some pl := by simp [hql]
    have ipr : (K.map (·.1))[j + 1]? = some pr := by simp [hqr]
    by_cases hsmall : zl.length + zr.length ≤ 64
    · refine (rb_inner_small w N e gI gK m j (iv bs) _ hP hm hj k hkj (iv_one _) pl pr ipl ipr el er al ar zl.length zl.length zr.length zr.length kl kr l1 r1 (iv zl) (iv zr) srcl srcr cl0 cr0 (ql.map pv) (qr.map pv) l5 r5 (by simp [l6]) (by simp [r6]) (by omega) (iv_one _) (iv_one _) (pv_one _) (pv_one _) hsmall).mono ?_
      rintro x w' ⟨rfl, J, gJ, kJ, hR⟩
      exact ⟨rfl, m - 1, by omega, hR.node, keepS hR.fr, hR.fr, .inr ⟨j, pl, cl, ql, pr, cr, qr, zl, zr, hj, hkj, hql, hqr, hzl, hzr, l6, r6, lt_of_blk l1, lt_of_blk r1, .inl ⟨hsmall, rfl, J, gJ, kJ, hR⟩⟩⟩
    · refine (rb_inner_big w N e gI gK m j (iv bs) _ hP hm hj k hkj (iv_one _) pl pr ipl ipr el er al ar zl.length zl.length zr.length zr.length kl kr l1 r1 (iv zl) (iv zr) srcl srcr cl0 cr0 (ql.map pv) (qr.map pv) l5 r5 (by simp [l6]) (by simp [r6]) (by omega) (iv_one _) (iv_one _) (pv_one _) (pv_one _) hsmall (by rw [← iv_append]; exact iv_int _)).mono ?_
      rintro x w' ⟨rfl, J, gJ, kJ, Q, gQ, cQ, kQ, dQ, b, hb, hR⟩
      obtain ⟨z, hz'⟩ : ∃ z, (zl ++ zr)[(zl.length + zr.length) / 2]? = some z := ⟨_, List.getElem?_eq_getElem (by simp; omega)⟩
      obtain rfl : b = .int .i64 z := by
        rw [← iv_append, iv_get hz'] at hb
        exact (Option.some.inj hb).symm
      exact ⟨rfl, m, Nat.le_refl _, hR.par.node, keepS hR.fr, hR.fr, .inr ⟨j, pl, cl, ql, pr, cr, qr, zl, zr, hj, hkj, hql, hqr, hzl, hzr, l6, r6, lt_of_blk l1, lt_of_blk r1, .inr ⟨hsmall, rfl, J, gJ, kJ, Q, gQ, cQ, kQ, dQ, z, hz', hR⟩⟩⟩

end Go.Proofs.Qxb6602784a
