import Derived.Test.Qxb6602784aDf
import Derived.Test.Qxb6602784aDg
namespace Go.Proofs.Qxb6602784a
open Go.RowKit
set_option linter.unusedVariables false
set_option linter.unusedSimpArgs false

/-- a kid of the call's own making: an inner node p with its ids and its kids in rows of their own, and the copy c of its kids; all of it in blocks from lo to below hi -/
structure InnerIn (w : World) (lo hi p c : Nat) (ep : Int) (zs : List Int) (qs : List Nat) : Prop where
  ex : ∃ a g, w.heap[p]? = some (nd ep a zs.length zs.length (some ⟨g, 0, none⟩) zs.length zs.length) ∧ Cp w lo hi 2 a (iv zs) ∧ lo ≤ g ∧ g < hi ∧ w.heap[g]? = some (.cells (qs.map pv).toArray 40 (0, 0))
  ql : qs.length = zs.length
  cp : w.heap[c]? = some (.cells (qs.map pv).toArray 40 (0, 0))
  rc : lo ≤ c ∧ c < hi
  rp : lo ≤ p ∧ p < hi

theorem InnerIn.keep {w w' : World} {lo hi p c : Nat} {ep : Int} {zs : List Int} {qs : List Nat} (h : InnerIn w lo hi p c ep zs qs) (hk : ∀ k, lo ≤ k → k < hi → w'.heap[k]? = w.heap[k]?) : InnerIn w' lo hi p c ep zs qs := by
  obtain ⟨⟨a, g, h1, h2, h3, h4, h5⟩, h6, h7, h8, h9⟩ := h
  exact ⟨⟨a, g, (hk p h9.1 h9.2).trans h1, h2.keep hk, h3, h4, (hk g h3 h4).trans h5⟩, h6, (hk c h8.1 h8.2).trans h7, h8, h9⟩
theorem InnerIn.wide {w : World} {lo hi lo' hi' p c : Nat} {ep : Int} {zs : List Int} {qs : List Nat} (h : InnerIn w lo hi p c ep zs qs) (k1 : lo' ≤ lo) (k2 : hi ≤ hi') : InnerIn w lo' hi' p c ep zs qs := by
  obtain ⟨⟨a, g, h1, h2, h3, h4, h5⟩, h6, h7, h8, h9⟩ := h
  exact ⟨⟨a, g, h1, h2.wide k1 k2, by omega, by omega, h5⟩, h6, h7, ⟨by omega, by omega⟩, by omega, by omega⟩

theorem rd_row {w : World} {g : Nat} {T : TypeId} {vs : List Value} {n : Nat} (h : w.heap[g]? = some (.cells vs.toArray T (0, 0))) (hl : vs.length = n) : Rd w (some ⟨g, 0, none⟩) n n vs :=
  ⟨hl, fun h => (by cases h), fun x hx i hi => by
    obtain rfl := Option.some.inj hx
    rw [Addr.add_lit, Nat.zero_add, cell_of_row w g i _ T (0, 0) h]; simp⟩

/-- the loop that makes a kid's leaves: t of n are made -/
structure LB (wi wr : World) (n t : Nat) (qs : List Nat) : Prop where
  le : t ≤ n
  len : qs.length = t
  row : wr.heap[wi.heap.size]? = some (.cells (qs.map pv ++ List.replicate (n - t) (Value.pointer none)).toArray 40 (0, 0))
  below : Below wi.heap.size wi wr

theorem LB.init {wi : World} {MK : Obj} {n : Nat} (hMK : MK = Obj.cells (List.replicate n (Value.pointer none)).toArray 40) : LB wi (wi.alloc MK) n 0 [] :=
  ⟨Nat.zero_le _, rfl, by rw [heap_alloc_new, hMK]; simp, (Below.refl _ _).alloc (Nat.le_refl _) _⟩
theorem LB.cell {wi wr w1 : World} {n t : Nat} {qs : List Nat} (h : LB wi wr n t qs) (ht : t < n) (hb : Below wr.heap.size wr w1) :
    w1.cell? ⟨wi.heap.size, t, none⟩ = some (.pointer none) ∧ w1.frozen? ⟨wi.heap.size, t, none⟩ = false := by
  have hrow1 := (hb.block _ (lt_of_blk h.row)).trans h.row
  refine ⟨?_, frozen_of_row w1 _ t _ 40 hrow1⟩
  rw [cell_of_row w1 _ t _ 40 (0, 0) hrow1, List.getElem?_toArray]
  exact rep_at _ _ n t ht (by simp [h.len])
theorem LB.step {wi wr w4 : World} {n t nz : Nat} {qs : List Nat} (h : LB wi wr n t qs) (ht : t < n) {x : Option Addr} {ev : Int} (hb : Below wr.heap.size wr w4) :
    LB wi ((w4.setCell ⟨wi.heap.size, t, none⟩ (.pointer (some ⟨w4.heap.size, 0, none⟩))).alloc (nd ev x nz nz none 0 0)) n (t + 1) (qs ++ [w4.heap.size]) := by
  have hlt : wi.heap.size < wr.heap.size := lt_of_blk h.row
  have hs := hb.size
  have hrow1 := (hb.block _ hlt).trans h.row
  have hz : (w4.setCell ⟨wi.heap.size, t, none⟩ (.pointer (some ⟨w4.heap.size, 0, none⟩))).heap.size = w4.heap.size := by simp
  refine ⟨by omega, by simp [h.len], ?_, ?_⟩
  · rw [Below.heap_alloc _ _ _ (by omega), heap_setCell_same w4 wi.heap.size t _ 40 _ hrow1]
    simp only [List.setIfInBounds_toArray]
    rw [rep_set _ _ _ n t ht (by simp [h.len])]
    simp [pv]
  · exact ((h.below.trans (hb.mono h.below.size)).setCell (Nat.le_refl _) _).alloc (by simp; omega) _
theorem LB.whole {wi wr : World} {n : Nat} {qs : List Nat} (h : LB wi wr n n qs) : wr.heap[wi.heap.size]? = some (.cells (qs.map pv).toArray 40 (0, 0)) := by
  have := h.row
  rwa [Nat.sub_self, List.replicate_zero, List.append_nil] at this

def gh (q : Nat × Nat × List Nat) : Value := .slice (some ⟨q.2.1, 0, none⟩) q.2.2.length q.2.2.length
def kp (q : Nat × Nat × List Nat) : Value := pv q.1
theorem kp_map (K : List (Nat × Nat × List Nat)) : K.map kp = (K.map (·.1)).map pv := by simp [kp]

/-- the loop that makes the kids: i of m are made -/
structure KB3 (w4 wr : World) (m i : Nat) (es : List Int) (zss : List (List Int)) (K : List (Nat × Nat × List Nat)) : Prop where
  le : i ≤ m
  len : K.length = i
  gp : wr.heap[w4.heap.size]? = some (.cells (K.map gh ++ List.replicate (m - i) (Value.slice none 0 0)).toArray 39 (0, 0))
  row : wr.heap[w4.heap.size + 1]? = some (.cells (K.map kp ++ List.replicate (m - i) (Value.pointer none)).toArray 40 (0, 0))
  kids : ∀ (j : Nat) q ev zs, K[j]? = some q → es[j]? = some ev → zss[j]? = some zs → InnerIn wr (w4.heap.size + 2) wr.heap.size q.1 q.2.1 ev zs q.2.2
  below : Below w4.heap.size w4 wr

theorem KB3.init {w4 : World} {M1 M2 : Obj} {m : Nat} {es : List Int} {zss : List (List Int)} (h1 : M1 = Obj.cells (List.replicate m (Value.slice none 0 0)).toArray 39) (h2 : M2 = Obj.cells (List.replicate m (Value.pointer none)).toArray 40) : KB3 w4 ((w4.alloc M1).alloc M2) m 0 es zss [] := by
  have hs : (w4.alloc M1).heap.size = w4.heap.size + 1 := by simp
  refine ⟨Nat.zero_le _, rfl, ?_, ?_, fun j q ev zs h => by simp at h, ((Below.refl _ _).alloc (Nat.le_refl _) _).alloc (by omega) _⟩
  · rw [Below.heap_alloc _ _ _ (by omega), heap_alloc_new, h1]; simp
  · have := heap_alloc_new (w4.alloc M1) M2
    rw [hs] at this
    rw [this, h2]; simp

/-- the cell of gp that is to be laid -/
theorem KB3.gcell {w4 wr w1 : World} {m i : Nat} {es : List Int} {zss : List (List Int)} {K : List (Nat × Nat × List Nat)} (h : KB3 w4 wr m i es zss K) (hi : i < m) (hb : Below wr.heap.size wr w1) :
    w1.cell? ⟨w4.heap.size, i, none⟩ = some (.slice none 0 0) ∧ w1.frozen? ⟨w4.heap.size, i, none⟩ = false := by
  have hrow1 := (hb.block _ (lt_of_blk h.gp)).trans h.gp
  refine ⟨?_, frozen_of_row w1 _ i _ 39 hrow1⟩
  rw [cell_of_row w1 _ i _ 39 (0, 0) hrow1, List.getElem?_toArray]
  exact rep_at _ _ m i hi (by simp [h.len])

/-- the worlds of one round: wr at its start, w6 behind the leaves, w7 behind clonePtrs, w9 behind the clone of the bounds -/
structure Rnd (w4 wr w6 w7 w9 : World) (m i n : Nat) (zs : List Int) (qs : List Nat) (x : Option Addr) : Prop where
  lb : LB wr w6 n n qs
  b7 : Below w6.heap.size w6 w7
  c7 : w7.heap[w6.heap.size]? = some (.cells (qs.map pv).toArray 40 (0, 0))
  b9 : Below w7.heap.size (w7.setCell ⟨w4.heap.size, i, none⟩ (.slice (some ⟨w6.heap.size, 0, none⟩) n n)) w9
  c9 : Cp w9 w7.heap.size w9.heap.size 2 x (iv zs)

theorem KB3.kcell {w4 wr w6 w7 w9 : World} {m i n : Nat} {zs : List Int} {qs : List Nat} {x : Option Addr} {es : List Int} {zss : List (List Int)} {K : List (Nat × Nat × List Nat)} (h : KB3 w4 wr m i es zss K) (hi : i < m) (hr : Rnd w4 wr w6 w7 w9 m i n zs qs x) :
    w9.heap[w4.heap.size + 1]? = some (.cells (K.map kp ++ List.replicate (m - i) (Value.pointer none)).toArray 40 (0, 0)) := by
  have s1 := lt_of_blk h.row
  have s6 := hr.lb.below.size
  have s7 := hr.b7.size
  rw [hr.b9.block _ (by omega), heap_setCell_other _ _ _ _ (by simp), hr.b7.block _ (by omega), hr.lb.below.block _ s1]
  exact h.row

theorem KB3.step {w4 wr w6 w7 w9 : World} {m i n : Nat} {zs : List Int} {qs : List Nat} {x : Option Addr} {ev : Int} {es : List Int} {zss : List (List Int)} {K : List (Nat × Nat × List Nat)} (h : KB3 w4 wr m i es zss K) (hi : i < m) (hr : Rnd w4 wr w6 w7 w9 m i n zs qs x)
    (hzs : zss[i]? = some zs) (hev : es[i]? = some ev) (hn : n = zs.length) :
    KB3 w4 ((w9.setCell ⟨w4.heap.size + 1, i, none⟩ (.pointer (some ⟨w9.heap.size, 0, none⟩))).alloc (nd ev x n n (some ⟨wr.heap.size, 0, none⟩) n n)) m (i + 1) es zss (K ++ [(w9.heap.size, w6.heap.size, qs)]) := by
  subst hn
  have s0 := lt_of_blk h.gp
  have s1 := lt_of_blk h.row
  have l6 := lt_of_blk hr.lb.whole
  have s6 := hr.lb.below.size
  have l7 := lt_of_blk hr.c7
  have s7 := hr.b7.size
  have s9 := hr.b9.size
  simp at s9
  have hz : (w9.setCell ⟨w4.heap.size + 1, i, none⟩ (.pointer (some ⟨w9.heap.size, 0, none⟩))).heap.size = w9.heap.size := by simp
  have old : ∀ b, b < w7.heap.size → b ≠ w4.heap.size → b ≠ w4.heap.size + 1 → ((w9.setCell ⟨w4.heap.size + 1, i, none⟩ (.pointer (some ⟨w9.heap.size, 0, none⟩))).alloc (nd ev x zs.length zs.length (some ⟨wr.heap.size, 0, none⟩) zs.length zs.length)).heap[b]? = w7.heap[b]? := by
    intro b hb n1 n2
    rw [Below.heap_alloc _ _ _ (by omega), heap_setCell_other _ _ _ _ (by simpa using n2), hr.b9.block b (by simpa using hb), heap_setCell_other _ _ _ _ (by simpa using n1)]
  have old' : ∀ b, b < wr.heap.size → b ≠ w4.heap.size → b ≠ w4.heap.size + 1 → ((w9.setCell ⟨w4.heap.size + 1, i, none⟩ (.pointer (some ⟨w9.heap.size, 0, none⟩))).alloc (nd ev x zs.length zs.length (some ⟨wr.heap.size, 0, none⟩) zs.length zs.length)).heap[b]? = wr.heap[b]? := by
    intro b hb n1 n2
    rw [old b (by omega) n1 n2, hr.b7.block b (by omega), hr.lb.below.block b hb]
  refine ⟨by omega, by simp [h.len], ?_, ?_, ?_, ?_⟩
  · have hrow7 : w7.heap[w4.heap.size]? = some (.cells (K.map gh ++ List.replicate (m - i) (Value.slice none 0 0)).toArray 39 (0, 0)) := by rw [hr.b7.block _ (by omega), hr.lb.below.block _ s0]; exact h.gp
    rw [Below.heap_alloc _ _ _ (by omega), heap_setCell_other _ _ _ _ (by simp), hr.b9.block _ (by omega), heap_setCell_same w7 w4.heap.size i _ 39 _ hrow7]
    simp only [List.setIfInBounds_toArray]
    rw [rep_set _ _ _ m i hi (by simp [h.len])]
    simp [gh, hr.lb.len]
  · rw [Below.heap_alloc _ _ _ (by omega), heap_setCell_same w9 (w4.heap.size + 1) i _ 40 _ (h.kcell hi hr)]
    simp only [List.setIfInBounds_toArray]
    rw [rep_set _ _ _ m i hi (by simp [h.len])]
    simp [kp, pv]
  · intro j q ev' zs' hq hev' hzs'
    have hsz : ((w9.setCell ⟨w4.heap.size + 1, i, none⟩ (.pointer (some ⟨w9.heap.size, 0, none⟩))).alloc (nd ev x zs.length zs.length (some ⟨wr.heap.size, 0, none⟩) zs.length zs.length)).heap.size = w9.heap.size + 1 := by simp
    rw [hsz]
    by_cases hji : j < i
    · rw [List.getElem?_append_left (by rw [h.len]; exact hji)] at hq
      exact ((h.kids j q ev' zs' hq hev' hzs').keep fun b b1 b2 => old' b b2 (by omega) (by omega)).wide (Nat.le_refl _) (by omega)
    · have hj : j = i := by
        have := (List.getElem?_eq_some_iff.1 hq).1
        simp at this; have := h.len; omega
      subst hj
      rw [List.getElem?_append_right (by rw [h.len]; exact Nat.le_refl _), h.len, Nat.sub_self] at hq
      simp at hq
      subst hq
      rw [hev] at hev'
      rw [hzs] at hzs'
      obtain rfl := Option.some.inj hev'
      obtain rfl := Option.some.inj hzs'
      refine ⟨⟨x, wr.heap.size, ?_, ?_, by omega, by omega, ?_⟩, hr.lb.len, ?_, ⟨by show _ ≤ w6.heap.size; omega, by show w6.heap.size < _; omega⟩, ⟨by show _ ≤ w9.heap.size; omega, by show w9.heap.size < _; omega⟩⟩
      · have := heap_alloc_new (w9.setCell ⟨w4.heap.size + 1, j, none⟩ (.pointer (some ⟨w9.heap.size, 0, none⟩))) (nd ev x zs.length zs.length (some ⟨wr.heap.size, 0, none⟩) zs.length zs.length)
        rw [hz] at this
        exact this
      · refine (hr.c9.keep fun b b1 b2 => ?_).wide (by omega) (by omega)
        rw [Below.heap_alloc _ _ _ (by omega), heap_setCell_other _ _ _ _ (by simp; omega)]
      · rw [old _ (by omega) (by omega) (by omega), hr.b7.block _ (by omega)]
        exact hr.lb.whole
      · exact (old w6.heap.size (by omega) (by omega) (by omega)).trans hr.c7
  · refine ⟨hr.b9.os.trans (hr.b7.os.trans (hr.lb.below.os.trans h.below.os)), hr.b9.tape.trans (hr.b7.tape.trans (hr.lb.below.tape.trans h.below.tape)), hr.b9.output.trans (hr.b7.output.trans (hr.lb.below.output.trans h.below.output)), ?_, fun b hb => ?_⟩
    · have := h.below.size; simp; omega
    · rw [old' b (by have := h.below.size; omega) (by omega) (by omega)]
      exact h.below.block b hb

end Go.Proofs.Qxb6602784a
