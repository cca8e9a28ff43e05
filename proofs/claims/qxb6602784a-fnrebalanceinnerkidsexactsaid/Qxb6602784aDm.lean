import Derived.Test.Qxb6602784aDl
import Derived.Test.Qxb6602784aDj
namespace Go.Proofs.Qxb6602784a
open Go.RowKit
set_option linter.unusedVariables false
set_option linter.unusedSimpArgs false

set_option maxHeartbeats 800000 in
theorem rb_one (w : World) (N : Nat) (e : Int) (gI gK : Nat) (I : List Value) (ps : List Nat) (k : Int) (hP : Par w N e gI gK 1 I ps) :
    Calls Try.prog 46 #[.pointer (some ⟨N, 0, none⟩), .int .u64 e, .int .i64 k] w fun x w' => x = .returned (.tuple #[]) ∧ w' = w := by
  have k2 : w.cell? ⟨N, 2, none⟩ = some (.slice (some ⟨gK, 0, none⟩) 1 1) := nd_cell hP.node 2
  clear hP
  go_enter Try.func46, Try.ntmps46
  go_wp2
  go_returns
  exact ⟨rfl, rfl⟩

theorem Cp.lateR {w : World} {lo hi : Nat} {T : TypeId} {a : Option Addr} {vs : List Value} (h : Cp w lo hi T a vs) {n : Nat} (hl : vs.length = n) : Rd w a n n vs := by
  subst hl; exact h.rd

/-- all that stands beside the node: the copies of what came in, the kids' pointers as they were, the kids -/
structure St (w : World) (lc hc lo hi gB gE gL GP gO m : Nat) (bs es : List Int) (ads : List (Option Addr)) (zss : List (List Int)) (K : List (Nat × Nat × List Nat)) : Prop where
  cl : Cl w lc hc gB gL gE bs es ads zss
  gp : w.heap[GP]? = some (.cells (K.map gh).toArray 39 (0, 0))
  o : w.heap[gO]? = some (.cells (K.map kp).toArray 40 (0, 0))
  kids : ∀ (j : Nat) q ev zs, K[j]? = some q → es[j]? = some ev → zss[j]? = some zs → InnerIn w lo hi q.1 q.2.1 ev zs q.2.2
  hc_ : hc ≤ w.heap.size
  hi_ : hi ≤ w.heap.size
  kl : K.length = m
  zl : zss.length = m
  el : es.length = m
  bl : bs.length = m

variable {w w' : World} {lc hc lo hi gB gE gL GP gO m : Nat} {bs es : List Int} {ads : List (Option Addr)} {zss : List (List Int)} {K : List (Nat × Nat × List Nat)}

theorem St.keep (h : St w lc hc lo hi gB gE gL GP gO m bs es ads zss K) {S : Nat → Prop} (hf : Fr S w w') (s1 : ∀ k, lc ≤ k → k < hc → ¬ S k) (s2 : ∀ k, lo ≤ k → k < hi → ¬ S k) (s3 : ¬ S GP) (s4 : ¬ S gO) : St w' lc hc lo hi gB gE gL GP gO m bs es ads zss K := by
  have c1 := h.hc_
  have c2 := h.hi_
  exact ⟨h.cl.keep fun k k1 k2 => hf.block k (by omega) (s1 k k1 k2), (hf.block _ (lt_of_blk h.gp) s3).trans h.gp, (hf.block _ (lt_of_blk h.o) s4).trans h.o, fun j q ev zs h1 h2 h3 => (h.kids j q ev zs h1 h2 h3).keep fun k k1 k2 => hf.block k (by omega) (s2 k k1 k2), Nat.le_trans c1 hf.size, Nat.le_trans c2 hf.size, h.kl, h.zl, h.el, h.bl⟩
theorem fr_below (hb : Below w.heap.size w w') : Fr (fun _ => False) w w' := ⟨hb.os, hb.tape, hb.output, hb.size, fun k hk _ => hb.block k hk⟩
theorem St.later (h : St w lc hc lo hi gB gE gL GP gO m bs es ads zss K) (hb : Below w.heap.size w w') : St w' lc hc lo hi gB gE gL GP gO m bs es ads zss K :=
  h.keep (fr_below hb) (fun _ _ _ h => h) (fun _ _ _ h => h) id id

theorem St.at (h : St w lc hc lo hi gB gE gL GP gO m bs es ads zss K) {i : Nat} (hi' : i < m) :
    ∃ p c qs ev x zs n, K[i]? = some (p, c, qs) ∧ zss[i]? = some zs ∧ n = zs.length ∧ w.cell? ⟨gO, i, none⟩ = some (.pointer (some ⟨p, 0, none⟩)) ∧ w.cell? ⟨gE, i, none⟩ = some (.int .u64 ev) ∧ w.cell? ⟨gL, i, none⟩ = some (.slice x n n) ∧ w.cell? ⟨GP, i, none⟩ = some (.slice (some ⟨c, 0, none⟩) n n) ∧ Rd w x n n (iv zs) ∧ InnerIn w lo hi p c ev zs qs := by
  obtain ⟨ev, x, zs, hzs, hev, ce, cx, hrd, hax⟩ := h.cl.at h.zl h.el hi'
  obtain ⟨⟨p, c, qs⟩, hq⟩ : ∃ q, K[i]? = some q := ⟨_, List.getElem?_eq_getElem (by have := h.kl; omega)⟩
  have hk := h.kids i _ ev zs hq hev hzs
  refine ⟨p, c, qs, ev, x, zs, zs.length, hq, hzs, rfl, ?_, ce, cx, ?_, hrd, hk⟩
  · rw [cell_of_row w gO i _ 40 (0, 0) h.o]; simp [hq, kp, pv]
  · rw [cell_of_row w GP i _ 39 (0, 0) h.gp]; simp [hq, gh, hk.ql]

theorem St.bound (h : St w lc hc lo hi gB gE gL GP gO m bs es ads zss K) {i : Nat} (hi' : i < m) : ∃ b, bs[i]? = some b ∧ w.cell? ⟨gB, i, none⟩ = some (.int .i64 b) := by
  obtain ⟨b, hb⟩ : ∃ b, bs[i]? = some b := ⟨_, List.getElem?_eq_getElem (by have := h.bl; omega)⟩
  refine ⟨b, hb, ?_⟩
  rw [cell_of_row w gB i _ 2 (0, 0) h.cl.b]; simp [iv, hb]

/-- innerHolds at a kid as it was -/
theorem InnerIn.holds {p c : Nat} {ev : Int} {zs : List Int} {qs : List Nat} {x : Option Addr} {n : Nat} (h : InnerIn w lo hi p c ev zs qs) (hn : n = zs.length) (hx : Rd w x n n (iv zs)) (hb : n ≤ 8388608) :
    Calls Try.prog 40 #[.pointer (some ⟨p, 0, none⟩), .int .u64 ev, .slice x n n, .slice (some ⟨c, 0, none⟩) n n] w fun y w' => y = .returned (.bool true) ∧ ∃ d, w' = w.drewN d := by
  subst hn
  obtain ⟨⟨a, g, h1, h2, h3, h4, h5⟩, h6, h7, h8, h9⟩ := h
  exact innerHolds_true w p ev a zs.length zs.length ⟨g, 0, none⟩ zs.length x zs.length (some ⟨c, 0, none⟩) zs.length zs qs hb h1 (h2.lateR (iv_len _)) hx (rd_row h5 (by simp [h6])) (rd_row h7 (by simp [h6]))

/-- the state ahead of rebalance -/
theorem st_of {w4 wr w5 w6 w7 : World} {g0 g1 g2 gI : Nat} {e : Int} {bs es : List Int} {ads : List (Option Addr)} {zss : List (List Int)} {K : List (Nat × Nat × List Nat)} {lc : Nat} (hcl : Cl w4 lc w4.heap.size g0 g1 g2 bs es ads zss) (hK : KB3 w4 wr m m es zss K) (hbl : bs.length = m) (hel : es.length = m) (hzl : zss.length = m)
    (hb5 : Below wr.heap.size wr w5) (ho : w5.heap[wr.heap.size]? = some (.cells (K.map kp).toArray 40 (0, 0))) (hb6 : Below w5.heap.size w5 w6) (hlo : w5.heap.size ≤ gI) (hgI : w6.heap[gI]? = some (.cells (iv bs).toArray 2 (0, 0)))
    (hw7 : w7 = w6.alloc (nd e (some ⟨gI, 0, none⟩) m m (some ⟨w4.heap.size + 1, 0, none⟩) m m)) :
    St w7 lc w4.heap.size (w4.heap.size + 2) wr.heap.size g0 g2 g1 w4.heap.size wr.heap.size m bs es ads zss K ∧ Par w7 w6.heap.size e gI (w4.heap.size + 1) m (iv bs) (K.map (·.1)) := by
  subst hw7
  have s0 := lt_of_blk hK.gp
  have s1 := lt_of_blk hK.row
  have s4 := hK.below.size
  have s5 := lt_of_blk ho
  have s5' := hb5.size
  have s6 := hb6.size
  have sI := lt_of_blk hgI
  have hb7 : Below wr.heap.size wr (w6.alloc (nd e (some ⟨gI, 0, none⟩) m m (some ⟨w4.heap.size + 1, 0, none⟩) m m)) := (hb5.trans (hb6.mono s5')).alloc (by omega) _
  have hgp := hK.gp
  have hrow := hK.row
  rw [Nat.sub_self, List.replicate_zero, List.append_nil] at hgp hrow
  refine ⟨⟨(hcl.later hK.below (Nat.le_refl _)).later hb7 (by omega), (hb7.block _ s0).trans hgp, ?_, fun j q ev zs h1 h2 h3 => (hK.kids j q ev zs h1 h2 h3).keep fun k _ k2 => hb7.block k k2, by simp; omega, by simp; omega, hK.len, hzl, hel, hbl⟩, ?_⟩
  · rw [Below.heap_alloc _ _ _ (by omega), hb6.block _ s5]; exact ho
  · refine ⟨heap_alloc_new _ _, (Below.heap_alloc _ _ _ sI).trans hgI, by rw [iv_len]; exact hbl, ?_, by simpa using hK.len, by omega, by omega, by omega⟩
    rw [hb7.block _ s1, hrow, kp_map]

theorem iv_get {bs : List Int} {i : Nat} {b : Int} (h : bs[i]? = some b) : (iv bs)[i]? = some (.int .i64 b) := by simp [iv, h]

/-- the new node in place j: the reads of a round of the last loop, where both went into one -/
theorem small_cells {w0 w8 wr : World} {N : Nat} {e : Int} {gI gK j : Nat} {PL PR L R : List Value} {J gJ kJ : Nat} (hS : St w8 lc hc lo hi gB gE gL GP gO m bs es ads zss K) (hR : RbSmallI w0 w8 N e gI gK m j (iv bs) (K.map (·.1)) L R PL PR J gJ kJ) (hb : Below w8.heap.size w8 wr) (hj : j + 1 < m) {i : Nat} (hi' : i < m - 1) :
    (i = j ∧ wr.cell? ⟨gK, i, none⟩ = some (.pointer (some ⟨J, 0, none⟩)) ∧ ∃ b, wr.cell? ⟨gI, i, none⟩ = some (.int .i64 b) ∧ wr.cell? ⟨gB, i, none⟩ = some (.int .i64 b)) ∨
    (i < j ∧ ∃ p b, wr.cell? ⟨gI, i, none⟩ = some (.int .i64 b) ∧ wr.cell? ⟨gB, i, none⟩ = some (.int .i64 b) ∧ wr.cell? ⟨gK, i, none⟩ = some (.pointer (some ⟨p, 0, none⟩)) ∧ wr.cell? ⟨gO, i, none⟩ = some (.pointer (some ⟨p, 0, none⟩))) ∨
    (j < i ∧ ∃ p b, wr.cell? ⟨gI, i, none⟩ = some (.int .i64 b) ∧ wr.cell? ⟨gB, i + 1, none⟩ = some (.int .i64 b) ∧ wr.cell? ⟨gK, i, none⟩ = some (.pointer (some ⟨p, 0, none⟩)) ∧ wr.cell? ⟨gO, i + 1, none⟩ = some (.pointer (some ⟨p, 0, none⟩))) := by
  have hkl := hS.kl
  have hk := hR.kids.cell i hi'
  have hd := hR.ids.cell i hi'
  rw [List.getElem?_map, List.getElem?_eraseIdx] at hk
  rw [List.getElem?_eraseIdx] at hd
  rcases Nat.lt_trichotomy i j with h | h | h
  · right; left
    obtain ⟨p, c, qs, ev, x, zs, n, hq, _, _, ho, _⟩ := hS.at (i := i) (by omega)
    obtain ⟨b, hbb, hcb⟩ := hS.bound (i := i) (by omega)
    rw [if_pos (by omega), List.getElem?_set_ne (by omega)] at hk
    rw [if_pos (by omega), iv_get hbb] at hd
    rw [List.getElem?_map, hq] at hk
    exact ⟨h, p, b, cell_later hb hd, cell_later hb hcb, cell_later hb hk, cell_later hb ho⟩
  · left
    subst h
    obtain ⟨b, hbb, hcb⟩ := hS.bound (i := i) (by omega)
    rw [if_pos (by omega), List.getElem?_set_self (by simp; omega)] at hk
    rw [if_pos (by omega), iv_get hbb] at hd
    exact ⟨rfl, cell_later hb hk, b, cell_later hb hd, cell_later hb hcb⟩
  · right; right
    obtain ⟨p, c, qs, ev, x, zs, n, hq, _, _, ho, _⟩ := hS.at (i := i + 1) (by omega)
    obtain ⟨b, hbb, hcb⟩ := hS.bound (i := i + 1) (by omega)
    rw [if_neg (by omega), List.getElem?_set_ne (by omega)] at hk
    rw [if_neg (by omega), iv_get hbb] at hd
    rw [List.getElem?_map, hq] at hk
    exact ⟨h, p, b, cell_later hb hd, cell_later hb hcb, cell_later hb hk, cell_later hb ho⟩

/-- the reads of a round of the last loop, where both went into two halves; z is the right half's first bound -/
theorem big_cells {w0 w8 wr : World} {N : Nat} {e : Int} {gI gK j h : Nat} {PL PR L R : List Value} {J gJ kJ Q gQ cQ kQ dQ : Nat} {z : Int} (hS : St w8 lc hc lo hi gB gE gL GP gO m bs es ads zss K) (hR : RbBigI w0 w8 N e gI gK m j h (iv bs) ((iv bs).set (j + 1) (.int .i64 z)) (K.map (·.1)) L R PL PR J gJ kJ Q gQ cQ kQ dQ) (hb : Below w8.heap.size w8 wr) (hj : j + 1 < m) {i : Nat} (hi' : i < m) :
    (i = j ∧ wr.cell? ⟨gK, i, none⟩ = some (.pointer (some ⟨J, 0, none⟩)) ∧ ∃ b, wr.cell? ⟨gI, i, none⟩ = some (.int .i64 b) ∧ wr.cell? ⟨gB, i, none⟩ = some (.int .i64 b)) ∨
    (i = j + 1 ∧ wr.cell? ⟨gK, i, none⟩ = some (.pointer (some ⟨Q, 0, none⟩)) ∧ wr.cell? ⟨gI, i, none⟩ = some (.int .i64 z) ∧ ∃ b, wr.cell? ⟨gB, i, none⟩ = some (.int .i64 b)) ∨
    ((i ≠ j ∧ i ≠ j + 1) ∧ ∃ p b, wr.cell? ⟨gI, i, none⟩ = some (.int .i64 b) ∧ wr.cell? ⟨gB, i, none⟩ = some (.int .i64 b) ∧ wr.cell? ⟨gK, i, none⟩ = some (.pointer (some ⟨p, 0, none⟩)) ∧ wr.cell? ⟨gO, i, none⟩ = some (.pointer (some ⟨p, 0, none⟩))) := by
  have hkl := hS.kl
  have hbl := hS.bl
  have hk : w8.cell? ⟨gK, i, none⟩ = ((((K.map (·.1)).set j J).set (j + 1) Q).map pv)[i]? := by rw [cell_of_row w8 gK i _ 40 (0, 0) hR.par.kids]; simp
  have hd : w8.cell? ⟨gI, i, none⟩ = ((iv bs).set (j + 1) (.int .i64 z))[i]? := by rw [cell_of_row w8 gI i _ 2 (0, 0) hR.par.ids]; simp
  obtain ⟨b, hbb, hcb⟩ := hS.bound hi'
  obtain ⟨p, c, qs, ev, x, zs, n, hq, _, _, ho, _⟩ := hS.at hi'
  by_cases h1 : i = j
  · left
    subst h1
    rw [List.getElem?_map, List.getElem?_set_ne (by omega), List.getElem?_set_self (by simp; omega)] at hk
    rw [List.getElem?_set_ne (by omega), iv_get hbb] at hd
    exact ⟨rfl, cell_later hb hk, b, cell_later hb hd, cell_later hb hcb⟩
  · right
    by_cases h2 : i = j + 1
    · left
      subst h2
      rw [List.getElem?_map, List.getElem?_set_self (by simp; omega)] at hk
      rw [List.getElem?_set_self (by rw [iv_len]; omega)] at hd
      exact ⟨rfl, cell_later hb hk, cell_later hb hd, b, cell_later hb hcb⟩
    · right
      rw [List.getElem?_map, List.getElem?_set_ne (by omega), List.getElem?_set_ne (by omega), List.getElem?_map, hq] at hk
      rw [List.getElem?_set_ne (by omega), iv_get hbb] at hd
      exact ⟨⟨h1, h2⟩, p, b, cell_later hb hd, cell_later hb hcb, cell_later hb hk, cell_later hb ho⟩

end Go.Proofs.Qxb6602784a
