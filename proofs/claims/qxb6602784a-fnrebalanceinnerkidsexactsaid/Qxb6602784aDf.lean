import Derived.Test.Qxb6602784aDe
namespace Go.Proofs.Qxb6602784a
open Go.RowKit
set_option linter.unusedVariables false
set_option linter.unusedSimpArgs false

theorem rep_set (A : List Value) (z v : Value) (n k : Nat) (hk : k < n) (hA : A.length = k) : (A ++ List.replicate (n - k) z).set k v = (A ++ [v]) ++ List.replicate (n - (k + 1)) z := by
  obtain ⟨t, ht⟩ : ∃ t, n - k = t + 1 := ⟨n - k - 1, by omega⟩
  rw [ht, show n - (k + 1) = t by omega, List.replicate_succ, List.set_append_right _ _ (by omega), hA]
  simp
theorem rep_at (A : List Value) (z : Value) (n k : Nat) (hk : k < n) (hA : A.length = k) : (A ++ List.replicate (n - k) z)[k]? = some z := by
  rw [List.getElem?_append_right (by omega), hA, Nat.sub_self, List.getElem?_replicate, if_pos (by omega)]

/-- headers of rows -/
def hd (rows : List (Option Addr)) (zss : List (List Int)) : List (Option Addr × Nat × Nat) := List.zipWith (fun a zs => (a, zs.length, zs.length)) rows zss
theorem hd_hv (rows : List (Option Addr)) (zss : List (List Int)) : (hd rows zss).map hv = hz rows zss := by
  unfold hd hz
  rw [List.map_zipWith]
  rfl

theorem Cp2.rd2 {w : World} {lo hi : Nat} {a : Option Addr} {ads : List (Option Addr)} {zss : List (List Int)} (h : Cp2 w lo hi a ads zss) : Rd2 w a zss.length zss.length (hd ads zss) zss := by
  have ht := h.top.rd
  rw [hz_len _ _ h.len, ← hd_hv] at ht
  refine ⟨ht, rfl, fun i x zs h1 h2 => ?_⟩
  unfold hd at h1
  rw [List.getElem?_zipWith] at h1
  cases hx : ads[i]? with
  | none => simp [hx] at h1
  | some y =>
    simp [hx, h2] at h1
    subst h1
    have := (h.row i y zs hx h2).rd
    rw [iv_len] at this
    exact this

/-- the loop of cloneNested -/
structure CN (w wr : World) (n : Nat) (zsss : List (List (List Int))) (k : Nat) (hs : List (Option Addr × Nat × Nat)) (adss : List (List (Option Addr))) : Prop where
  le : k ≤ n
  len : hs.length = k
  alen : adss.length = k
  row : wr.heap[w.heap.size]? = some (.cells (hs.map hv ++ List.replicate (n - k) (Value.slice none 0 0)).toArray 31 (0, 0))
  rows : ∀ (i : Nat) (h : Option Addr × Nat × Nat) (rows : List (Option Addr)) (zss : List (List Int)), hs[i]? = some h → adss[i]? = some rows → zsss[i]? = some zss → h.2 = (zss.length, zss.length) ∧ Cp2 wr (w.heap.size + 1) wr.heap.size h.1 rows zss
  below : Below w.heap.size w wr

theorem CN.cell {w wr w1 : World} {n : Nat} {zsss : List (List (List Int))} {k : Nat} {hs : List (Option Addr × Nat × Nat)} {adss : List (List (Option Addr))} (h : CN w wr n zsss k hs adss) (hk : k < n) (hb : Below wr.heap.size wr w1) :
    w1.cell? ⟨w.heap.size, k, none⟩ = some (.slice none 0 0) ∧ w1.frozen? ⟨w.heap.size, k, none⟩ = false := by
  have hrow1 := (hb.block _ (lt_of_blk h.row)).trans h.row
  refine ⟨?_, frozen_of_row w1 _ k _ 31 hrow1⟩
  rw [cell_of_row w1 _ k _ 31 (0, 0) hrow1, List.getElem?_toArray]
  exact rep_at _ _ n k hk (by simp [h.len])

theorem CN.step {w wr w1 : World} {n : Nat} {zsss : List (List (List Int))} {k : Nat} {hs : List (Option Addr × Nat × Nat)} {adss : List (List (Option Addr))} (h : CN w wr n zsss k hs adss) (hk : k < n) {x : Option Addr} {rows : List (Option Addr)} {zss : List (List Int)} {n1 : Nat} (hz' : zsss[k]? = some zss) (hn1 : n1 = zss.length)
    (hb : Below wr.heap.size wr w1) (hc : Cp2 w1 wr.heap.size w1.heap.size x rows zss) :
    CN w (w1.setCell ⟨w.heap.size, k, none⟩ (.slice x n1 n1)) n zsss (k + 1) (hs ++ [(x, n1, n1)]) (adss ++ [rows]) := by
  subst hn1
  have hlt : w.heap.size < wr.heap.size := lt_of_blk h.row
  have hrow1 := (hb.block _ hlt).trans h.row
  have hsz : (w1.setCell ⟨w.heap.size, k, none⟩ (.slice x zss.length zss.length)).heap.size = w1.heap.size := by simp
  refine ⟨by omega, by simp [h.len], by simp [h.alen], ?_, ?_, ?_⟩
  · rw [heap_setCell_same w1 w.heap.size k _ 31 _ hrow1]
    simp only [List.setIfInBounds_toArray]
    rw [rep_set _ _ _ n k hk (by simp [h.len])]
    simp [hv]
  · intro i h' rows' zss' h1 h2 h3
    have keep : ∀ {lo : Nat} {y : Option Addr} {r : List (Option Addr)} {z : List (List Int)}, Cp2 w1 lo w1.heap.size y r z → w.heap.size + 1 ≤ lo → Cp2 (w1.setCell ⟨w.heap.size, k, none⟩ (.slice x zss.length zss.length)) (w.heap.size + 1) (w1.setCell ⟨w.heap.size, k, none⟩ (.slice x zss.length zss.length)).heap.size y r z := by
      intro lo y r z hcp hlo
      refine (hcp.keep fun j hj _ => heap_setCell_other w1 ⟨w.heap.size, k, none⟩ j _ (by simp; omega)).wide hlo (by rw [hsz]; exact Nat.le_refl _)
    by_cases hi : i < k
    · rw [List.getElem?_append_left (by rw [h.len]; exact hi)] at h1
      rw [List.getElem?_append_left (by rw [h.alen]; exact hi)] at h2
      obtain ⟨e1, e2⟩ := h.rows i h' rows' zss' h1 h2 h3
      exact ⟨e1, keep ((e2.later hb (Nat.le_refl _)).wide (Nat.le_refl _) hb.size) (Nat.le_refl _)⟩
    · have hik : i = k := by
        have := (List.getElem?_eq_some_iff.1 h1).1
        simp at this; have := h.len; omega
      subst hik
      rw [List.getElem?_append_right (by rw [h.len]; exact Nat.le_refl _), h.len, Nat.sub_self] at h1
      rw [List.getElem?_append_right (by rw [h.alen]; exact Nat.le_refl _), h.alen, Nat.sub_self] at h2
      simp at h1 h2
      subst h1 h2
      rw [hz'] at h3
      obtain rfl := Option.some.inj h3
      exact ⟨rfl, keep hc hlt⟩
  · exact (h.below.trans (hb.mono (by omega))).setCell (Nat.le_refl _) _

set_option maxHeartbeats 800000 in
theorem cloneNested_pos (a : Option Addr) (n c : Nat) (hs : List (Option Addr × Nat × Nat)) (hss : List (List (Option Addr × Nat × Nat))) (zsss : List (List (List Int))) (hn0 : 0 < n) (hn : n ≤ 1048576) (hl : ∀ zss ∈ zsss, zss.length ≤ 1048576 ∧ ∀ zs ∈ zss, zs.length ≤ 1048576) (w : World) (h : Rd3 w a n c hs hss zsss) :
    Calls Try.prog 39 #[.slice a n c] w fun e w' => e = .returned (.slice (some ⟨w.heap.size, 0, none⟩) n n) ∧ ∃ hs' hss', Below w.heap.size w w' ∧ Rd3 w' (some ⟨w.heap.size, 0, none⟩) n n hs' hss' zsss := by
  have q := q51
  obtain ⟨i0, hi, hz0, hz1, hz2⟩ := info_parts Try.info31
  have hmk : ∀ W : World, (Instr.makeSlice 51 (.int .i64 n) (.int .i64 n)).run Try.prog W = .ok (.slice (some ⟨W.heap.size, 0, none⟩) n n) (W.alloc (.cells (madeCells #[.slice none 0 0] n) 31)) := by
    intro W
    have := run_make (P := Try.prog) W 51 31 i0 (.slice none 0 0) Try.underlying51 hi hz0 .i64 .i64 n n (by omega) (Int.le_refl _) (by rw [hz2]; omega) (by omega)
    simpa [hz1, Value.cells] using this
  obtain ⟨b0, off0, rfl, _⟩ := h.top.plain hn0
  have HH := (show Hid (_) from h)
  have HL := (show Hid (_) from hl)
  clear h hl
  go_enter Try.func39, Try.ntmps39
  go_wp2
  go_loopw [4] (fun i wr => ∃ (k : Nat) (hs' : List (Option Addr × Nat × Nat)) (adss : List (List (Option Addr))), i = .int .i64 k ∧ CN w wr n zsss k hs' adss) (fun i _ => n - (intOf i).toNat)
  case atStart =>
    refine ⟨0, [], [], rfl, Nat.zero_le _, rfl, rfl, ?_, fun i x zs z h => by simp at h, (Below.refl _ _).alloc (Nat.le_refl _) _⟩
    have := heap_alloc_new w (.cells (madeCells #[.slice none 0 0] n) 31)
    rw [this]
    have e : ([].map hv ++ List.replicate (n - 0) (Value.slice none 0 0)) = (madeCells #[.slice none 0 0] n).toList := by rw [toList_madeCells_one]; simp
    rw [e]
  case round =>
    obtain ⟨k, hs', adss, rfl, hcl⟩ := hrel
    by_cases hlt : k < n
    · obtain ⟨b1, off1, ha, hn1, hc1, hh, zss, he, hcell0, hzss, hr2⟩ := HH.out.at hlt
      obtain ⟨rfl, rfl⟩ : b1 = b0 ∧ off1 = off0 := by simpa using he.symm
      clear he
      have hcr : wr.cell? ⟨b1, off1 + k, none⟩ = some (.slice ha hn1 hc1) := (hcl.below.cell (by exact World.block_lt_of_cell? w _ hcell0)).trans hcell0
      have hrd : Rd2 wr ha hn1 hc1 hh zss := hr2.later hcl.below
      have hzl : hn1 ≤ 1048576 := by have h0 := hrd.len; have := (HL.out zss (List.mem_of_getElem? hzss)).1; omega
      have HZL := (show Hid (∀ zs ∈ zss, zs.length ≤ 1048576) from (HL.out zss (List.mem_of_getElem? hzss)).2)
      have HR := (show Hid (_) from hrd)
      have HC := (show Hid (_) from hcl)
      have HZ := (show Hid (_) from hzss)
      clear hcell0 hr2 hrd hcl hzss
      go_wp2_with (go_at_call 25; refine (cloneLists_any ha hn1 hc1 hh zss hzl HZL.out _ HR.out).mono ?_; rintro e w1 ⟨x, rows, rfl, hxn, hb1, hcp1⟩; obtain ⟨hv0, hf0⟩ := HC.out.cell hlt hb1)
      have hst := HC.out.step hlt (x := x) (rows := rows) HZ.out HR.out.len.symm hb1 hcp1
      have HS := (show Hid (_) from hst)
      clear hst hcp1 hb1 hxn
      go_roundw
      case rel => exact ⟨k + 1, _, _, by go_num, HS.out⟩
      case measure => simp [intOf]; omega
    · obtain rfl : k = n := by have := hcl.le; omega
      have HK := (show Hid (_) from hcl)
      clear hcl
      go_wp2
      go_ret
      refine ⟨rfl, hs', List.zipWith hd adss zsss, HK.out.below, ?_, ?_, HH.out.len, ?_⟩
      · have hrow := HK.out.row
        rw [Nat.sub_self, List.replicate_zero, List.append_nil] at hrow
        refine ⟨by simp [HK.out.len], fun h => (by cases h), fun x hx i hi => ?_⟩
        obtain rfl := Option.some.inj hx
        rw [Addr.add_lit, Nat.zero_add, cell_of_row _ _ i _ 31 (0, 0) hrow, List.getElem?_toArray]
      · have := HH.out.len
        simp [HK.out.alen]; omega
      · intro i h' hh zss h1 h2 h3
        rw [List.getElem?_zipWith] at h2
        cases hx : adss[i]? with
        | none => simp [hx] at h2
        | some y =>
          simp [hx, h3] at h2
          subst h2
          obtain ⟨e1, e2⟩ := HK.out.rows i h' y zss h1 hx h3
          rw [e1]
          exact e2.rd2

end Go.Proofs.Qxb6602784a
