import Derived.Test.Qxb6602784aBl
namespace Go.Proofs.Qxb6602784a
open Go.RowKit
set_option linter.unusedVariables false
set_option linter.unusedSimpArgs false

def uv (es : List Int) : List Value := es.map (Value.int .u64)
theorem uv_len (es : List Int) : (uv es).length = es.length := by simp [uv]
theorem uv_one (es : List Int) : ∀ v ∈ uv es, v.oneCell' = true := ints_oneCell _ _

/-- the size that the law asks of kid j -/
def szAt (k j : Nat) (zs : List Int) : Prop := if j = k then 1 ≤ zs.length ∧ zs.length < 16 else okSz zs

variable {a0 : Option Addr} {c0 : Nat} {a1 : Option Addr} {c1 : Nat} {a2 : Option Addr} {c2 : Nat} {e : Int} {hs : List (Option Addr × Nat × Nat)} {zss : List (List Int)}

theorem Cp.get {w : World} {lo hi : Nat} {T : TypeId} {a : Option Addr} {vs : List Value} (h : Cp w lo hi T a vs) (h0 : 0 < vs.length) : ∃ g, a = some ⟨g, 0, none⟩ ∧ lo ≤ g ∧ g < hi ∧ w.heap[g]? = some (.cells vs.toArray T (0, 0)) := by
  match a, h with
  | none, h => have := h.nil rfl; simp [this] at h0
  | some x, h =>
    obtain ⟨g, rfl, h1, h2, h3⟩ := h.blk x rfl
    exact ⟨g, rfl, h1, h2, h3⟩

/-- the loop that makes the kids: i of m are made -/
structure KB (w3 wr : World) (m i : Nat) (zss : List (List Int)) (ps : List Nat) : Prop where
  le : i ≤ m
  len : ps.length = i
  row : wr.heap[w3.heap.size]? = some (.cells (ps.map pv ++ List.replicate (m - i) (Value.pointer none)).toArray 40 (0, 0))
  leaves : ∀ (j p : Nat) (zs : List Int), ps[j]? = some p → zss[j]? = some zs → LeafIn wr (w3.heap.size + 1) wr.heap.size p zs
  below : Below w3.heap.size w3 wr

theorem KB.cell {w3 wr w1 : World} {m i : Nat} {zss : List (List Int)} {ps : List Nat} (h : KB w3 wr m i zss ps) (hi : i < m) (hb : Below wr.heap.size wr w1) :
    w1.cell? ⟨w3.heap.size, i, none⟩ = some (.pointer none) ∧ w1.frozen? ⟨w3.heap.size, i, none⟩ = false := by
  have hrow1 : w1.heap[w3.heap.size]? = some (.cells (ps.map pv ++ List.replicate (m - i) (Value.pointer none)).toArray 40 (0, 0)) := (hb.block _ (lt_of_blk h.row)).trans h.row
  refine ⟨?_, frozen_of_row w1 _ i _ 40 hrow1⟩
  rw [cell_of_row w1 _ i _ 40 (0, 0) hrow1]
  have := h.len
  simp only [List.getElem?_toArray]
  rw [List.getElem?_append_right (by simp; omega), List.length_map, this, Nat.sub_self, List.getElem?_replicate, if_pos (by omega)]

/-- the clones of the three slices -/
structure Cl (w : World) (lo hi g0 g1 g2 : Nat) (bs es : List Int) (ads : List (Option Addr)) (zss : List (List Int)) : Prop where
  b : w.heap[g0]? = some (.cells (iv bs).toArray 2 (0, 0))
  l : w.heap[g1]? = some (.cells (hz ads zss).toArray 30 (0, 0))
  ll : ads.length = zss.length
  rows : ∀ (i : Nat) (x : Option Addr) (zs : List Int), ads[i]? = some x → zss[i]? = some zs → Cp w lo hi 2 x (iv zs)
  ep : w.heap[g2]? = some (.cells (uv es).toArray 33 (0, 0))
  r0 : lo ≤ g0 ∧ g0 < hi
  r1 : lo ≤ g1 ∧ g1 < hi
  r2 : lo ≤ g2 ∧ g2 < hi

theorem Cl.keep {w w' : World} {lo hi g0 g1 g2 : Nat} {bs es : List Int} {ads : List (Option Addr)} {zss : List (List Int)} (h : Cl w lo hi g0 g1 g2 bs es ads zss) (hk : ∀ k, lo ≤ k → k < hi → w'.heap[k]? = w.heap[k]?) : Cl w' lo hi g0 g1 g2 bs es ads zss :=
  ⟨(hk _ h.r0.1 h.r0.2).trans h.b, (hk _ h.r1.1 h.r1.2).trans h.l, h.ll, fun i x zs h1 h2 => (h.rows i x zs h1 h2).keep hk, (hk _ h.r2.1 h.r2.2).trans h.ep, h.r0, h.r1, h.r2⟩
theorem Cl.later {w w' : World} {lo hi g0 g1 g2 B : Nat} {bs es : List Int} {ads : List (Option Addr)} {zss : List (List Int)} (h : Cl w lo hi g0 g1 g2 bs es ads zss) (hb : Below B w w') (hB : hi ≤ B) : Cl w' lo hi g0 g1 g2 bs es ads zss :=
  h.keep fun k _ hk => hb.block k (by omega)

theorem cl_of {w w1 w2 w3 : World} {g0 g1 g2 : Nat} {bs es : List Int} {ads : List (Option Addr)} {zss : List (List Int)}
    (h1 : Below w.heap.size w w1 ∧ w.heap.size ≤ g0 ∧ g0 < w1.heap.size ∧ w1.heap[g0]? = some (.cells (iv bs).toArray 2 (0, 0)))
    (h2 : Below w1.heap.size w1 w2 ∧ w1.heap.size ≤ g1 ∧ g1 < w2.heap.size ∧ w2.heap[g1]? = some (.cells (hz ads zss).toArray 30 (0, 0)) ∧ Cp2 w2 w1.heap.size w2.heap.size (some ⟨g1, 0, none⟩) ads zss)
    (h3 : Below w2.heap.size w2 w3 ∧ w2.heap.size ≤ g2 ∧ g2 < w3.heap.size ∧ w3.heap[g2]? = some (.cells (uv es).toArray 33 (0, 0))) : Cl w3 w.heap.size w3.heap.size g0 g1 g2 bs es ads zss := by
  obtain ⟨b1, p1, p2, p3⟩ := h1
  obtain ⟨b2, q1, q2, q3, q4⟩ := h2
  obtain ⟨b3, r1, r2, r3⟩ := h3
  have e1 := b1.size
  have e2 := b2.size
  have e3 := b3.size
  refine ⟨?_, ?_, q4.len, ?_, r3, ⟨p1, by omega⟩, ⟨by omega, by omega⟩, ⟨by omega, r2⟩⟩
  · exact (b3.block g0 (by omega)).trans ((b2.block g0 (by omega)).trans p3)
  · exact (b3.block g1 (by omega)).trans q3
  · intro i x zs k1 k2
    exact ((q4.row i x zs k1 k2).later b3 (Nat.le_refl _)).wide (by omega) (by omega)

theorem Cl.at {w : World} {lo hi g0 g1 g2 m : Nat} {bs es : List Int} {ads : List (Option Addr)} {zss : List (List Int)} (h : Cl w lo hi g0 g1 g2 bs es ads zss) (hz' : zss.length = m) (he : es.length = m) {i : Nat} (hi' : i < m) :
    ∃ ev x zs, zss[i]? = some zs ∧ es[i]? = some ev ∧ w.cell? ⟨g2, i, none⟩ = some (.int .u64 ev) ∧ w.cell? ⟨g1, i, none⟩ = some (.slice x zs.length zs.length) ∧ Rd w x zs.length zs.length (iv zs) ∧ ads[i]? = some x := by
  obtain ⟨zs, hzs⟩ : ∃ zs, zss[i]? = some zs := ⟨_, List.getElem?_eq_getElem (by omega)⟩
  obtain ⟨x, hx⟩ : ∃ x, ads[i]? = some x := ⟨_, List.getElem?_eq_getElem (by have := h.ll; omega)⟩
  obtain ⟨ev, hev⟩ : ∃ ev, es[i]? = some ev := ⟨_, List.getElem?_eq_getElem (by omega)⟩
  refine ⟨ev, x, zs, hzs, hev, ?_, ?_, ?_, hx⟩
  · rw [cell_of_row w g2 i _ 33 (0, 0) h.ep]; simp [uv, hev]
  · rw [cell_of_row w g1 i _ 30 (0, 0) h.l]; simp [hz, List.getElem?_zipWith, hx, hzs]
  · have := (h.rows i x zs hx hzs).rd
    rw [iv_len] at this
    exact this

theorem KB.init {w3 : World} {MK : Obj} {m : Nat} {zss : List (List Int)} (hMK : MK = Obj.cells (List.replicate m (Value.pointer none)).toArray 40) : KB w3 (w3.alloc MK) m 0 zss [] :=
  ⟨Nat.zero_le _, rfl, by rw [heap_alloc_new, hMK]; simp, fun j p zs h => by simp at h, (Below.refl _ _).alloc (Nat.le_refl _) _⟩

theorem KB.step {w3 wr w1 W' : World} {m i : Nat} {zss : List (List Int)} {ps : List Nat} (h : KB w3 wr m i zss ps) (hi : i < m) {x : Option Addr} {zs : List Int} {ev : Int} (hzs : zss[i]? = some zs)
    (hb : Below wr.heap.size wr w1) (hc : Cp w1 wr.heap.size w1.heap.size 2 x (iv zs))
    (h1 : W'.heap[w3.heap.size]? = ((w1.setCell ⟨w3.heap.size, i, none⟩ (.pointer (some ⟨w1.heap.size, 0, none⟩))).heap[w3.heap.size]?)) (h2 : ∀ k, k < w1.heap.size → k ≠ w3.heap.size → W'.heap[k]? = w1.heap[k]?) (h3 : W'.heap[w1.heap.size]? = some (nd ev x zs.length zs.length none 0 0))
    (h4 : W'.heap.size = w1.heap.size + 1) (h5 : W'.os = w1.os) (h6 : W'.tape = w1.tape) (h7 : W'.output = w1.output) : KB w3 W' m (i + 1) zss (ps ++ [w1.heap.size]) := by
  have hlt : w3.heap.size < wr.heap.size := lt_of_blk h.row
  have hs := hb.size
  have hrow1 : w1.heap[w3.heap.size]? = some (.cells (ps.map pv ++ List.replicate (m - i) (Value.pointer none)).toArray 40 (0, 0)) := (hb.block _ hlt).trans h.row
  refine ⟨by omega, by simp [h.len], ?_, ?_, ?_⟩
  · rw [h1, heap_setCell_same w1 w3.heap.size i _ 40 _ hrow1]
    obtain ⟨t, ht⟩ : ∃ t, m - i = t + 1 := ⟨m - i - 1, by omega⟩
    rw [ht, show m - (i + 1) = t by omega, List.replicate_succ]
    have hl : (ps.map pv).length = i := by simp [h.len]
    simp only [List.setIfInBounds_toArray]
    rw [List.set_append_right _ _ (by omega), hl]
    simp [pv]
  · intro j p zs' hp hzs'
    have keep : ∀ {lo hi p : Nat} {zs : List Int}, LeafIn w1 lo hi p zs → w3.heap.size < lo → hi ≤ w1.heap.size → LeafIn W' lo hi p zs := fun hl h1 h2' => hl.keep fun k k1 k2 => h2 k (by omega) (by omega)
    rw [List.getElem?_append] at hp
    split at hp
    · have hl := h.leaves j p zs' hp hzs'
      have hl1 : LeafIn w1 (w3.heap.size + 1) wr.heap.size p zs' := hl.keep fun k k1 k2 => hb.block k k2
      exact (keep hl1 (by omega) hs).wide (Nat.le_refl _) (by omega)
    · have hj : j = i := by
        have := (List.getElem?_eq_some_iff.1 hp).1
        have h' := h.len
        simp at this; omega
      subst hj
      have hp' : p = w1.heap.size := by rw [h.len] at hp; simpa using hp.symm
      subst hp'
      rw [hzs] at hzs'
      obtain rfl := Option.some.inj hzs'
      refine ⟨⟨ev, x, h3, ?_⟩, by omega, by omega⟩
      have hc' : Cp W' wr.heap.size w1.heap.size 2 x (iv zs) := hc.keep fun k k1 k2 => h2 k k2 (by omega)
      exact hc'.wide (by omega) (by omega)
  · exact ⟨h5.trans (hb.os.trans h.below.os), h6.trans (hb.tape.trans h.below.tape), h7.trans (hb.output.trans h.below.output), by have := h.below.size; omega, fun k hk => (h2 k (by omega) (by omega)).trans ((hb.block k (by omega)).trans (h.below.block k hk))⟩

theorem KB.step' {w3 wr w4 : World} {m i nz : Nat} {zss : List (List Int)} {ps : List Nat} (h : KB w3 wr m i zss ps) (hi : i < m) {x : Option Addr} {zs : List Int} {ev : Int} (hzs : zss[i]? = some zs) (hnz : nz = zs.length)
    (hb : Below wr.heap.size wr w4) (hc : Cp w4 wr.heap.size w4.heap.size 2 x (iv zs)) : KB w3 ((w4.setCell ⟨w3.heap.size, i, none⟩ (.pointer (some ⟨w4.heap.size, 0, none⟩))).alloc (nd ev x nz nz none 0 0)) m (i + 1) zss (ps ++ [w4.heap.size]) := by
  subst hnz
  have hlt : w3.heap.size < w4.heap.size := Nat.lt_of_lt_of_le (lt_of_blk h.row) hb.size
  have hz : (w4.setCell ⟨w3.heap.size, i, none⟩ (.pointer (some ⟨w4.heap.size, 0, none⟩))).heap.size = w4.heap.size := by simp
  refine h.step hi hzs hb hc ?_ ?_ ?_ ?_ rfl rfl rfl (ev := ev)
  · exact Below.heap_alloc _ _ _ (by omega)
  · intro k hk hne
    rw [Below.heap_alloc _ _ _ (by omega)]
    exact heap_setCell_other _ _ _ _ (by simpa using hne)
  · have := heap_alloc_new (w4.setCell ⟨w3.heap.size, i, none⟩ (.pointer (some ⟨w4.heap.size, 0, none⟩))) (nd ev x zs.length zs.length none 0 0)
    rw [hz] at this
    exact this
  · simp

/-- the node and its kids, ahead of rebalance -/
theorem par_of {w3 wr w5 : World} {m : Nat} {e : Int} {bs : List Int} {zss : List (List Int)} {ps : List Nat} {gI : Nat} (h : KB w3 wr m m zss ps) (hbl : bs.length = m) (hb : Below wr.heap.size wr w5) (hlo : wr.heap.size ≤ gI) (hgI : w5.heap[gI]? = some (.cells (iv bs).toArray 2 (0, 0))) :
    Par (w5.alloc (nd e (some ⟨gI, 0, none⟩) m m (some ⟨w3.heap.size, 0, none⟩) m m)) w5.heap.size e gI w3.heap.size m (iv bs) ps := by
  have hlt : w3.heap.size < wr.heap.size := lt_of_blk h.row
  have hs := hb.size
  have hgl := lt_of_blk hgI
  refine ⟨heap_alloc_new _ _, ?_, by rw [iv_len]; exact hbl, ?_, h.len, by omega, by omega, by omega⟩
  · exact (Below.heap_alloc _ _ _ hgl).trans hgI
  · rw [Below.heap_alloc _ _ _ (by omega), hb.block _ hlt, h.row]
    simp

theorem zip_fst (ps : List Nat) (zss : List (List Int)) (h : ps.length = zss.length) : (ps.zip zss).map (·.1) = ps := by
  rw [List.map_fst_zip (by omega)]
theorem zip_snd (ps : List Nat) (zss : List (List Int)) (h : ps.length = zss.length) : (ps.zip zss).map (·.2) = zss := by
  rw [List.map_snd_zip (by omega)]

theorem leaves_of {w3 wr w5 : World} {m : Nat} {o : Obj} {zss : List (List Int)} {ps : List Nat} (h : KB w3 wr m m zss ps) (hb : Below wr.heap.size wr w5) : ∀ q ∈ ps.zip zss, LeafIn (w5.alloc o) (w3.heap.size + 1) wr.heap.size q.1 q.2 := by
  intro q hq
  obtain ⟨j, hj⟩ := List.getElem?_of_mem hq
  obtain ⟨h1, h2⟩ := List.getElem?_zip_eq_some.1 hj
  exact (h.leaves j q.1 q.2 h1 h2).keep fun k k1 k2 => (Below.heap_alloc _ _ _ (Nat.lt_of_lt_of_le k2 hb.size)).trans (hb.block k k2)

theorem Cl.bounds {w : World} {lo hi g0 g1 g2 m : Nat} {bs es : List Int} {ads : List (Option Addr)} {zss : List (List Int)} (h : Cl w lo hi g0 g1 g2 bs es ads zss) (hb : bs.length = m) : Rd w (some ⟨g0, 0, none⟩) m m (iv bs) :=
  ⟨by rw [iv_len]; exact hb, fun h => (by cases h), fun x hx i hi => by
    obtain rfl := Option.some.inj hx
    rw [Addr.add_lit, Nat.zero_add, cell_of_row w g0 i _ 2 (0, 0) h.b]; simp⟩

theorem rb30 {w : World} {N : Nat} {e k : Int} {Q : World → Prop} (h : Calls Try.prog 46 #[.pointer (some ⟨N, 0, none⟩), .int .u64 e, .int .i64 k] w fun x w' => x = .returned (.tuple #[]) ∧ Q w') :
    Calls Try.prog 30 #[.pointer (some ⟨N, 0, none⟩), .int .u64 e, .int .i64 k] w fun x w' => x = .returned (.tuple #[]) ∧ Q w' := by
  have H := (show Hid (_) from h)
  clear h
  go_enter Try.func30, Try.ntmps30
  go_wp2_with fail
  refine Calls.mono H.out ?_
  rintro x w' ⟨rfl, hq⟩
  go_wp2_with fail
  go_end0
  exact ⟨rfl, hq⟩

def flat (K : List (Nat × List Int)) : List Int := (K.map (·.2)).flatten
theorem flat_snoc (K : List (Nat × List Int)) (i : Nat) (q : Nat × List Int) (h : K[i]? = some q) : flat (K.take (i + 1)) = flat (K.take i) ++ q.2 := by
  have hi := (List.getElem?_eq_some_iff.1 h)
  rw [List.take_succ_eq_append_getElem hi.1, hi.2]
  simp [flat]
theorem flat_len (K : List (Nat × List Int)) (h : ∀ q ∈ K, okSz q.2) : (flat K).length ≤ 64 * K.length := by
  induction K with
  | nil => simp [flat]
  | cons q K ih =>
    have h1 := h q (by simp)
    have h2 := ih (fun q' hq' => h q' (by simp [hq']))
    unfold okSz at h1
    simp [flat] at h2 ⊢
    omega
theorem flatz_snoc (Z : List (List Int)) (i : Nat) (q : List Int) (h : Z[i]? = some q) : (Z.take (i + 1)).flatten = (Z.take i).flatten ++ q := by
  have hi := (List.getElem?_eq_some_iff.1 h)
  rw [List.take_succ_eq_append_getElem hi.1, hi.2]
  simp
theorem flatz_len (Z : List (List Int)) (h : ∀ q ∈ Z, q.length ≤ 64) : Z.flatten.length ≤ 64 * Z.length := by
  induction Z with
  | nil => simp
  | cons q Z ih =>
    have h1 := h q (by simp)
    have h2 := ih (fun q' hq' => h q' (by simp [hq']))
    simp at h2 ⊢
    omega

/-- a loop that gathers numbers: what it has in hand -/
structure Gat (w7 wr : World) (v : Value) (zs : List Int) : Prop where
  own : wr.ownsRow w7.heap.size 2 1 v zs.length (iv zs)
  below : Below w7.heap.size w7 wr

theorem Gat.init (w7 : World) : Gat w7 w7 (.slice none 0 0) [] := ⟨World.ownsRow_nil _ _ _ _, Below.refl _ _⟩
theorem Gat.step {w7 wr w1 : World} {v v' : Value} {zs ys : List Int} (h : Gat w7 wr v zs) (ho : w1.ownsRow w7.heap.size 2 1 v' (zs.length + ys.length) (iv zs ++ iv ys)) (hg : wr.grownBy w1 v.ownBlock) : Gat w7 w1 v' (zs ++ ys) :=
  ⟨by rw [iv_append, List.length_append]; exact ho, h.below.grown hg h.below.size (fun k hk => (h.own.lt k hk).1)⟩
theorem Gat.rd {w7 wr : World} {v : Value} {zs : List Int} (h : Gat w7 wr v zs) : ∃ a c, v = .slice a zs.length c ∧ Rd wr a zs.length c (iv zs) := by
  rcases h.own.2 with ⟨hv, h0⟩ | ⟨g, cap, cur, hv, _, hb, r3, r4, r5, r6⟩
  · refine ⟨none, 0, by rw [h0]; exact hv, iv_len _, fun _ => ⟨h0, rfl⟩, fun x hx => by cases hx⟩
  · refine ⟨_, cap, hv, iv_len _, fun h => (by cases h), fun x hx i hi => ?_⟩
    obtain rfl := Option.some.inj hx
    have := h.own
    rw [hv] at this
    rw [Addr.add_lit, Nat.zero_add]
    exact this.cellAt i (by omega)

theorem LeafV.later {w w' : World} {p : Nat} {zs : List Int} (h : LeafV w p zs) (hb : Below w.heap.size w w') : LeafV w' p zs := by
  obtain ⟨ep, ad, c, h1, h2⟩ := h
  exact ⟨ep, ad, c, (hb.block p (lt_of_blk h1)).trans h1, fun j u hj => cell_later hb (h2 j u hj)⟩

theorem rbout_at {w6 w7 wr : World} {N : Nat} {e : Int} {gI gK m m' : Nat} {K' : List (Nat × List Int)} (h : RbOut w6 w7 N e gI gK m m' K') (hb : Below w7.heap.size w7 wr) (hl : K'.length = m') {i : Nat} (hi : i < m') :
    ∃ p zs, K'[i]? = some (p, zs) ∧ wr.cell? ⟨gK, i, none⟩ = some (.pointer (some ⟨p, 0, none⟩)) ∧ LeafV wr p zs := by
  obtain ⟨⟨p, zs⟩, hq⟩ : ∃ q, K'[i]? = some q := ⟨_, List.getElem?_eq_getElem (by omega)⟩
  refine ⟨p, zs, hq, ?_, (h.leaves (p, zs) (List.mem_of_getElem? hq)).later hb⟩
  refine cell_later hb ?_
  rw [h.kids.cell i hi]
  simp [hq, pv]

theorem chain7 {w3 w4 w5 w6 w7 : World} {o : Obj} {gI : Nat} (h4 : Below w3.heap.size w3 w4) (h5 : Below w4.heap.size w4 w5) (h6 : w6 = w5.alloc o) (fr : Fr (fun k => k = w5.heap.size ∨ k = gI ∨ k = w3.heap.size) w6 w7) (hgI : w4.heap.size ≤ gI) : Below w3.heap.size w3 w7 := by
  subst h6
  have e4 := h4.size
  have e5 := h5.size
  have b5 : Below w3.heap.size w3 w5 := h4.trans (h5.mono e4)
  have b6 : Below w3.heap.size w3 (w5.alloc o) := b5.alloc (by omega) o
  exact b6.trans (fr.below (by simp; omega) (fun k hk => by omega))

end Go.Proofs.Qxb6602784a
