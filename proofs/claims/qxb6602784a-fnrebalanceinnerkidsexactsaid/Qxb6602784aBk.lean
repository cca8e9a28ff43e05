import Derived.Test.Qxb6602784aBg
import Derived.Test.Qxb6602784aBh
namespace Go.Proofs.Qxb6602784a
open Go.RowKit
set_option linter.unusedVariables false
set_option linter.unusedSimpArgs false

/-- a leaf of the call's own making, all of it in blocks from lo to below hi -/
structure LeafIn (w : World) (lo hi p : Nat) (zs : List Int) : Prop where
  ex : ∃ ep a, w.heap[p]? = some (nd ep a zs.length zs.length none 0 0) ∧ Cp w lo hi 2 a (iv zs)
  lo_ : lo ≤ p
  hi_ : p < hi

theorem LeafIn.keep {w w' : World} {lo hi p : Nat} {zs : List Int} (h : LeafIn w lo hi p zs) (hk : ∀ k, lo ≤ k → k < hi → w'.heap[k]? = w.heap[k]?) : LeafIn w' lo hi p zs := by
  obtain ⟨⟨ep, a, h1, h2⟩, h3, h4⟩ := h
  exact ⟨⟨ep, a, (hk p h3 h4).trans h1, h2.keep hk⟩, h3, h4⟩
theorem LeafIn.wide {w : World} {lo hi lo' hi' p : Nat} {zs : List Int} (h : LeafIn w lo hi p zs) (h1 : lo' ≤ lo) (h2 : hi ≤ hi') : LeafIn w lo' hi' p zs := by
  obtain ⟨⟨ep, a, k1, k2⟩, h3, h4⟩ := h
  exact ⟨⟨ep, a, k1, k2.wide h1 h2⟩, by omega, by omega⟩

/-- a leaf that holds zs, which are not none -/
def LeafV (w : World) (p : Nat) (zs : List Int) : Prop :=
  ∃ ep ad c, w.heap[p]? = some (nd ep (some ad) zs.length c none 0 0) ∧ ∀ (j : Nat) u, (iv zs)[j]? = some u → w.cell? (ad.add j) = some u

theorem LeafIn.v {w : World} {lo hi p : Nat} {zs : List Int} (h : LeafIn w lo hi p zs) (h0 : zs ≠ []) : LeafV w p zs := by
  obtain ⟨⟨ep, a, k1, k2⟩, _, _⟩ := h
  match a, k1, k2 with
  | none, _, k2 => have := k2.nil rfl; simp [iv] at this; exact absurd this h0
  | some x, k1, k2 =>
    obtain ⟨g, rfl, _, _, hb⟩ := k2.blk x rfl
    exact ⟨ep, _, _, k1, by have := src_of_row hb 0; simpa using this⟩

theorem Rw.leaf {w : World} {p g c : Nat} {e : Int} {zs : List Int} (hn : w.heap[p]? = some (nd e (some ⟨g, 0, none⟩) zs.length c none 0 0)) (h : Rw w 2 g zs.length c (iv zs)) : LeafV w p zs :=
  ⟨e, _, c, hn, by have := h.news 0; simpa using this⟩

/-- the size that the law asks of a kid -/
def okSz (zs : List Int) : Prop := 16 ≤ zs.length ∧ zs.length ≤ 64

/-- what rebalance leaves of a node with leaves: its kids, as pairs of a block and what that leaf holds -/
structure RbOut (w w' : World) (N : Nat) (e : Int) (gI gK m m' : Nat) (K' : List (Nat × List Int)) : Prop where
  node : w'.heap[N]? = some (nd e (some ⟨gI, 0, none⟩) m' m (some ⟨gK, 0, none⟩) m' m)
  kids : Rw w' 40 gK m' m ((K'.map (·.1)).map pv)
  leaves : ∀ q ∈ K', LeafV w' q.1 q.2
  fr : Fr (fun k => k = N ∨ k = gI ∨ k = gK) w w'

theorem split_at {α : Type} (K : List α) (j : Nat) (h : j + 1 < K.length) : ∃ A l r B, K = A ++ l :: r :: B ∧ A.length = j :=
  ⟨K.take j, K[j], K[j + 1], K.drop (j + 2), by
    rw [← List.drop_eq_getElem_cons h, ← List.drop_eq_getElem_cons (by omega), List.take_append_drop], by simp; omega⟩

theorem set_erase {α : Type} (A B : List α) (l r x : α) : ((A ++ l :: r :: B).set A.length x).eraseIdx (A.length + 1) = A ++ x :: B := by
  rw [List.set_append_right _ _ (by omega), List.eraseIdx_append_of_length_le (by omega)]
  simp
theorem set_set' {α : Type} (A B : List α) (l r x y : α) : ((A ++ l :: r :: B).set A.length x).set (A.length + 1) y = A ++ x :: y :: B := by
  rw [List.set_append_right _ _ (by omega), List.set_append_right _ _ (by omega)]
  simp

theorem cp_src {w : World} {lo hi : Nat} {T : TypeId} {a : Option Addr} {vs : List Value} (h : Cp w lo hi T a vs) : Src w a vs.length vs := by
  refine ⟨rfl, fun h0 => ?_⟩
  match a, h with
  | none, h => have := h.nil rfl; simp [this] at h0
  | some x, h =>
    obtain ⟨g, rfl, _, _, hb⟩ := h.blk x rfl
    exact ⟨_, rfl, by have := src_of_row hb 0; simpa using this⟩

theorem iv_append (a b : List Int) : iv (a ++ b) = iv a ++ iv b := by simp [iv]
theorem iv_take (a : List Int) (h : Nat) : iv (a.take h) = (iv a).take h := by simp [iv]
theorem iv_drop (a : List Int) (h : Nat) : iv (a.drop h) = (iv a).drop h := by simp [iv]
theorem iv_int (a : List Int) : ∀ v ∈ iv a, ∃ z, v = Value.int .i64 z := by
  intro v hv; obtain ⟨z, _, rfl⟩ := List.mem_map.1 hv; exact ⟨z, rfl⟩

/-- rebalance of a node whose kids are leaves: kid k too small, all others of a fit size -/
theorem rb_fill (w : World) (N : Nat) (e : Int) (gI gK m lo hi k : Nat) (I : List Value) (hI1 : ∀ v ∈ I, v.oneCell' = true) (K : List (Nat × List Int)) (hP : Par w N e gI gK m I (K.map (·.1))) (hm : m ≤ 65536) (hm2 : 2 ≤ m) (hk : k < m)
    (hlo : gK < lo) (hhi : hi ≤ gI) (hhN : hi ≤ N) (hlv : ∀ q ∈ K, LeafIn w lo hi q.1 q.2)
    (hsz : ∀ i q, K[i]? = some q → if i = k then 1 ≤ q.2.length ∧ q.2.length < 16 else okSz q.2) :
    Calls Try.prog 46 #[.pointer (some ⟨N, 0, none⟩), .int .u64 e, .int .i64 k] w fun x w' => x = .returned (.tuple #[]) ∧ ∃ m' K', (m' = m ∨ m' = m - 1) ∧ K'.length = m' ∧ (K'.map (·.2)).flatten = (K.map (·.2)).flatten ∧ (∀ q ∈ K', okSz q.2) ∧ RbOut w w' N e gI gK m m' K' := by
  have hKl : K.length = m := by have := hP.kl; simpa using this
  obtain ⟨j, hj, hkj⟩ : ∃ j, j + 1 < m ∧ ((k = j ∧ j + 1 < m) ∨ (k = j + 1 ∧ m = j + 2)) := by
    by_cases h : k + 1 < m
    · exact ⟨k, h, .inl ⟨rfl, h⟩⟩
    · exact ⟨k - 1, by omega, .inr ⟨by omega, by omega⟩⟩
  obtain ⟨A, ⟨pl, zl⟩, ⟨pr, zr⟩, B, rfl, hA⟩ := split_at K j (by omega)
  subst hA
  have il : (A ++ (pl, zl) :: (pr, zr) :: B)[A.length]? = some (pl, zl) := by simp
  have ir : (A ++ (pl, zl) :: (pr, zr) :: B)[A.length + 1]? = some (pr, zr) := by rw [List.getElem?_append_right (by omega)]; simp
  have sl := hsz A.length _ il
  have sr := hsz (A.length + 1) _ ir
  have sA : ∀ q ∈ A, okSz q.2 := by
    intro q hq
    obtain ⟨i, hi'⟩ := List.getElem?_of_mem hq
    have hil := (List.getElem?_eq_some_iff.1 hi').1
    have := hsz i q (by rw [List.getElem?_append_left hil]; exact hi')
    rwa [if_neg (by omega)] at this
  have sB : ∀ q ∈ B, okSz q.2 := by
    intro q hq
    obtain ⟨i, hi'⟩ := List.getElem?_of_mem hq
    have := hsz (A.length + 2 + i) q (by rw [List.getElem?_append_right (by omega), show A.length + 2 + i - A.length = i + 2 by omega]; simpa using hi')
    rwa [if_neg (by omega)] at this
  simp only at sl sr
  have lenlr : 17 ≤ zl.length + zr.length ∧ zl.length + zr.length ≤ 79 := by
    unfold okSz at sl sr
    rcases hkj with ⟨rfl, _⟩ | ⟨rfl, _⟩
    · rw [if_pos rfl] at sl; rw [if_neg (by omega)] at sr; omega
    · rw [if_neg (by omega)] at sl; rw [if_pos rfl] at sr; omega
  obtain ⟨⟨el, al, nl1, nl2⟩, nl3, nl4⟩ := hlv (pl, zl) (by simp)
  obtain ⟨⟨er, ar, nr1, nr2⟩, nr3, nr4⟩ := hlv (pr, zr) (by simp)
  have srcl := cp_src nl2
  have srcr := cp_src nr2
  rw [iv_len] at srcl srcr
  have hN := lt_of_blk hP.node
  have hgI := lt_of_blk hP.ids
  have hgK := lt_of_blk hP.kids
  -- the kids that stay
  have stay : ∀ {w' : World}, Fr (fun k => k = N ∨ k = gI ∨ k = gK) w w' → ∀ q, q ∈ A ++ (pl, zl) :: (pr, zr) :: B → okSz q.2 → LeafV w' q.1 q.2 := by
    intro w' fr q hq ho
    have hl := hlv q hq
    have hl' : LeafIn w' lo hi q.1 q.2 := hl.keep fun b h1 h2 => fr.block b (by omega) (by omega)
    exact hl'.v (by intro h; unfold okSz at ho; rw [h] at ho; simp at ho)
  by_cases hsmall : zl.length + zr.length ≤ 64
  · refine (rb_leaf_small w N e gI gK m A.length I _ hP hm hj k hkj hI1 pl pr (by simp) (by simp) el er al ar zl.length zl.length zr.length zr.length none 0 0 nl1 nr1 (iv zl) (iv zr) srcl srcr (fun h => by have := nl2.nil h; have h2 := iv_len zl; rw [this] at h2; simpa using h2.symm) (fun h => by have := nr2.nil h; have h2 := iv_len zr; rw [this] at h2; simpa using h2.symm) (by omega) (iv_one _) (iv_one _) hsmall).mono ?_
    rintro x w' ⟨rfl, J, gJ, hS⟩
    refine ⟨rfl, m - 1, A ++ (J, zl ++ zr) :: B, .inr rfl, ?_, ?_, ?_, hS.node, ?_, ?_, hS.fr⟩
    · simp at hKl ⊢; omega
    · simp
    · intro q hq
      rcases List.mem_append.1 hq with h | h
      · exact sA q h
      · rcases List.mem_cons.1 h with rfl | h
        · unfold okSz; simp; omega
        · exact sB q h
    · have hk' := hS.kids
      rw [show A.length = (A.map (·.1)).length by simp] at hk'
      rw [show ((A ++ (pl, zl) :: (pr, zr) :: B).map (·.1)) = A.map (·.1) ++ pl :: pr :: B.map (·.1) by simp, set_erase] at hk'
      simpa using hk'
    · intro q hq
      rcases List.mem_append.1 hq with h | h
      · exact stay hS.fr q (by simp [h]) (sA q h)
      · rcases List.mem_cons.1 h with rfl | h
        · have hj' := hS.join
          have hi' := hS.jids
          rw [iv_len, iv_len] at hj'
          rw [← iv_append] at hi'
          refine Rw.leaf (g := gJ) (c := zl.length + zr.length) (e := e) (by simpa using hj') ?_
          have := rw_whole (t := (zl ++ zr).length) hi' (by simp [iv]) (by simp; omega)
          simpa using this
        · exact stay hS.fr q (by simp [h]) (sB q h)
  · refine (rb_leaf_big w N e gI gK m A.length I _ hP hm hj k hkj hI1 pl pr (by simp) (by simp) el er al ar zl.length zl.length zr.length zr.length none 0 0 nl1 nr1 (iv zl) (iv zr) srcl srcr (fun h => by have := nl2.nil h; have h2 := iv_len zl; rw [this] at h2; simpa using h2.symm) (fun h => by have := nr2.nil h; have h2 := iv_len zr; rw [this] at h2; simpa using h2.symm) (by omega) (iv_one _) (iv_one _) hsmall (by rw [← iv_append]; exact iv_int _)).mono ?_
    rintro x w' ⟨rfl, J, gJ, Q, gQ, cQ, b, _, hS⟩
    generalize hh : (zl.length + zr.length) / 2 = h at hS
    refine ⟨rfl, m, A ++ (J, (zl ++ zr).take h) :: (Q, (zl ++ zr).drop h) :: B, .inl rfl, ?_, ?_, ?_, hS.par.node, ?_, ?_, hS.fr⟩
    · simp at hKl ⊢; omega
    · simp only [List.map_append, List.map_cons, List.flatten_append, List.flatten_cons]
      congr 1
      rw [← List.append_assoc, List.take_append_drop, List.append_assoc]
    · intro q hq
      rcases List.mem_append.1 hq with h' | h'
      · exact sA q h'
      · rcases List.mem_cons.1 h' with rfl | h'
        · unfold okSz; simp; omega
        · rcases List.mem_cons.1 h' with rfl | h'
          · unfold okSz; simp; omega
          · exact sB q h'
    · have hk' := hS.par.kids
      rw [show A.length = (A.map (·.1)).length by simp] at hk'
      rw [show ((A ++ (pl, zl) :: (pr, zr) :: B).map (·.1)) = A.map (·.1) ++ pl :: pr :: B.map (·.1) by simp, set_set'] at hk'
      refine rw_whole (by simpa using hk') (by simp at hKl ⊢; omega) (by omega)
    · intro q hq
      rcases List.mem_append.1 hq with h' | h'
      · exact stay hS.fr q (by simp [h']) (sA q h')
      · rcases List.mem_cons.1 h' with rfl | h'
        · have hj' := hS.join
          have hi' := hS.jids
          rw [iv_len, iv_len] at hj' hi'
          rw [← iv_append, ← iv_take] at hi'
          have hl : ((zl ++ zr).take h).length = h := by simp; omega
          refine Rw.leaf (g := gJ) (c := zl.length + zr.length) (e := e) (by rw [hl]; exact hj') (by rw [hl]; exact hi')
        · rcases List.mem_cons.1 h' with rfl | h'
          · have hj' := hS.right
            have hi' := hS.rids
            rw [iv_len, iv_len] at hj' hi'
            rw [← iv_append, ← iv_drop] at hi'
            have hl : ((zl ++ zr).drop h).length = zl.length + zr.length - h := by simp
            refine Rw.leaf (g := gQ) (c := cQ) (e := e) (by rw [hl]; exact hj') (by rw [hl]; exact hi')
          · exact stay hS.fr q (by simp [h']) (sB q h')

end Go.Proofs.Qxb6602784a
