import Derived.Test.Qxb6602784aBa
namespace Go.Proofs.Qxb6602784a
open Go.RowKit
set_option linter.unusedVariables false
set_option linter.unusedSimpArgs false

def hv (h : Option Addr × Nat × Nat) : Value := .slice h.1 h.2.1 h.2.2
def iv (zs : List Int) : List Value := zs.map (Value.int .i64)
theorem iv_len (zs : List Int) : (iv zs).length = zs.length := by simp [iv]
theorem iv_one (zs : List Int) : ∀ v ∈ iv zs, v.oneCell' = true := ints_oneCell _ _

/-- a slice of slices of integers that came in -/
structure Rd2 (w : World) (a : Option Addr) (n c : Nat) (hs : List (Option Addr × Nat × Nat)) (zss : List (List Int)) : Prop where
  top : Rd w a n c (hs.map hv)
  len : zss.length = n
  row : ∀ (i : Nat) (h : Option Addr × Nat × Nat) (zs : List Int), hs[i]? = some h → zss[i]? = some zs → Rd w h.1 h.2.1 h.2.2 (iv zs)

theorem Rd2.later {w w' : World} {a : Option Addr} {n c : Nat} {hs : List (Option Addr × Nat × Nat)} {zss : List (List Int)} (h : Rd2 w a n c hs zss) (hb : Below w.heap.size w w') : Rd2 w' a n c hs zss :=
  ⟨h.top.later hb, h.len, fun i x zs h1 h2 => (h.row i x zs h1 h2).later hb⟩

/-- the headers of rows of the call's own making -/
def hz (ads : List (Option Addr)) (zss : List (List Int)) : List Value := List.zipWith (fun a zs => Value.slice a zs.length zs.length) ads zss

structure Cp2 (w : World) (lo hi : Nat) (a : Option Addr) (ads : List (Option Addr)) (zss : List (List Int)) : Prop where
  top : Cp w lo hi 30 a (hz ads zss)
  len : ads.length = zss.length
  row : ∀ (i : Nat) (x : Option Addr) (zs : List Int), ads[i]? = some x → zss[i]? = some zs → Cp w lo hi 2 x (iv zs)

/-- the row of headers when k rows are copied -/
def hzk (ads : List (Option Addr)) (zss : List (List Int)) (n k : Nat) : List Value := hz ads (zss.take k) ++ List.replicate (n - k) (.slice none 0 0)

theorem hz_len (ads : List (Option Addr)) (zss : List (List Int)) (h : ads.length = zss.length) : (hz ads zss).length = zss.length := by simp [hz, h]
theorem hz_snoc (ads : List (Option Addr)) (zss : List (List Int)) (x : Option Addr) (k : Nat) (hk : k < zss.length) (h : ads.length = k) : hz (ads ++ [x]) (zss.take (k + 1)) = hz ads (zss.take k) ++ [.slice x zss[k].length zss[k].length] := by
  rw [List.take_succ_eq_append_getElem hk]
  unfold hz
  rw [List.zipWith_append (by simp; omega)]
  simp
theorem hzk_len (ads : List (Option Addr)) (zss : List (List Int)) (n k : Nat) (hk : k ≤ n) (hz' : zss.length = n) (h : ads.length = k) : (hzk ads zss n k).length = n := by
  unfold hzk
  rw [List.length_append, hz_len _ _ (by simp; omega)]
  simp; omega
theorem hzk_succ (ads : List (Option Addr)) (zss : List (List Int)) (n k : Nat) (x : Option Addr) (hk : k < n) (hz' : zss.length = n) (h : ads.length = k) :
    (hzk ads zss n k).set k (.slice x (zss.getD k []).length (zss.getD k []).length) = hzk (ads ++ [x]) zss n (k + 1) := by
  obtain ⟨m, rfl⟩ : ∃ m, n = k + 1 + m := ⟨n - (k + 1), by omega⟩
  unfold hzk
  have e1 : k + 1 + m - k = m + 1 := by omega
  have e2 : k + 1 + m - (k + 1) = m := by omega
  have hl : (hz ads (zss.take k)).length = k := by rw [hz_len _ _ (by simp; omega)]; simp; omega
  rw [e1, e2, List.replicate_succ, List.set_append_right _ _ (by omega), hl, hz_snoc ads zss x k (by omega) h]
  simp [List.getD, show k < zss.length by omega]

set_option maxHeartbeats 400000 in
theorem cloneLists_nil (w : World) : Calls Try.prog 25 #[.slice none 0 0] w fun e w' => e = .returned (.slice none 0 0) ∧ w' = w := by
  have q := q31
  go_enter Try.func25, Try.ntmps25
  go_wp2
  go_ret
  exact ⟨rfl, rfl⟩

/-- the relation of the loop -/
structure CL (w wr : World) (n : Nat) (zss : List (List Int)) (k : Nat) (ads : List (Option Addr)) : Prop where
  le : k ≤ n
  len : ads.length = k
  row : wr.heap[w.heap.size]? = some (.cells (hzk ads zss n k).toArray 30 (0, 0))
  rows : ∀ (i : Nat) (x : Option Addr) (zs : List Int), ads[i]? = some x → zss[i]? = some zs → Cp wr (w.heap.size + 1) wr.heap.size 2 x (iv zs)
  below : Below w.heap.size w wr

theorem CL.step {w wr w1 : World} {n : Nat} {zss : List (List Int)} {k : Nat} {ads : List (Option Addr)} (h : CL w wr n zss k ads) (hz' : zss.length = n) (hk : k < n) {x : Option Addr}
    (hb : Below wr.heap.size wr w1) (hc : Cp w1 wr.heap.size w1.heap.size 2 x (iv (zss.getD k []))) :
    CL w (w1.setCell ⟨w.heap.size, k, none⟩ (.slice x (zss.getD k []).length (zss.getD k []).length)) n zss (k + 1) (ads ++ [x]) := by
  have hlt : w.heap.size < wr.heap.size := lt_of_blk h.row
  have hrow1 : w1.heap[w.heap.size]? = some (.cells (hzk ads zss n k).toArray 30 (0, 0)) := (hb.block _ hlt).trans h.row
  have hsz : (w1.setCell ⟨w.heap.size, k, none⟩ (.slice x (zss.getD k []).length (zss.getD k []).length)).heap.size = w1.heap.size := by simp
  refine ⟨by omega, by simp [h.len], ?_, ?_, ?_⟩
  · rw [heap_setCell_same w1 w.heap.size k _ 30 _ hrow1]
    rw [← hzk_succ ads zss n k x hk hz' h.len]
    simp
  · intro i y zs hy hzs
    have keep : ∀ {lo : Nat} {y : Option Addr} {vs : List Value}, Cp w1 lo w1.heap.size 2 y vs → w.heap.size + 1 ≤ lo → Cp (w1.setCell ⟨w.heap.size, k, none⟩ (.slice x (zss.getD k []).length (zss.getD k []).length)) (w.heap.size + 1) (w1.setCell ⟨w.heap.size, k, none⟩ (.slice x (zss.getD k []).length (zss.getD k []).length)).heap.size 2 y vs := by
      intro lo y vs hcp hlo
      refine (hcp.keep fun j hj _ => heap_setCell_other w1 ⟨w.heap.size, k, none⟩ j _ (by simp; omega)).wide hlo (by rw [hsz]; exact Nat.le_refl _)
    rw [List.getElem?_append] at hy
    split at hy
    · exact keep (((h.rows i y zs hy hzs).later hb (Nat.le_refl _)).wide (Nat.le_refl _) hb.size) (Nat.le_refl _)
    · have hi : i = k := by
        have := (List.getElem?_eq_some_iff.1 hy).1
        simp at this; have := h.len; omega
      subst hi
      rw [h.len] at hy
      simp at hy
      subst hy
      have e : zss.getD i [] = zs := by simp [List.getD, hzs]
      rw [e] at hc
      rw [e] at keep ⊢
      exact keep hc hlt
  · exact (h.below.trans (hb.mono (by omega))).setCell (Nat.le_refl _) _

theorem CL.cell {w wr w1 : World} {n : Nat} {zss : List (List Int)} {k : Nat} {ads : List (Option Addr)} (h : CL w wr n zss k ads) (hz' : zss.length = n) (hk : k < n) (hb : Below wr.heap.size wr w1) :
    ∃ v, w1.cell? ⟨w.heap.size, k, none⟩ = some v ∧ w1.frozen? ⟨w.heap.size, k, none⟩ = false := by
  have hrow1 : w1.heap[w.heap.size]? = some (.cells (hzk ads zss n k).toArray 30 (0, 0)) := (hb.block _ (lt_of_blk h.row)).trans h.row
  have hl := hzk_len ads zss n k h.le hz' h.len
  exact ⟨_, (cell_of_row w1 _ k _ 30 (0, 0) hrow1).trans (by simp [show k < (hzk ads zss n k).length by omega]; rfl), frozen_of_row w1 _ k _ 30 hrow1⟩

set_option maxHeartbeats 800000 in
theorem cloneLists_pos (b off n c : Nat) (hs : List (Option Addr × Nat × Nat)) (zss : List (List Int)) (hn : n ≤ 1048576) (hl : ∀ zs ∈ zss, zs.length ≤ 1048576) (w : World) (h : Rd2 w (some ⟨b, off, none⟩) n c hs zss) :
    Calls Try.prog 25 #[.slice (some ⟨b, off, none⟩) n c] w fun e w' => ∃ ads, e = .returned (.slice (some ⟨w.heap.size, 0, none⟩) n n) ∧ CL w w' n zss n ads := by
  have q := q31
  obtain ⟨i0, hi, hz0, hz1, hz2⟩ := info_parts Try.info30
  have hmk : ∀ W : World, (Instr.makeSlice 31 (.int .i64 n) (.int .i64 n)).run Try.prog W = .ok (.slice (some ⟨W.heap.size, 0, none⟩) n n) (W.alloc (.cells (madeCells #[.slice none 0 0] n) 30)) := by
    intro W
    have := run_make (P := Try.prog) W 31 30 i0 (.slice none 0 0) Try.underlying31 hi hz0 .i64 .i64 n n (by omega) (Int.le_refl _) (by rw [hz2]; omega) (by omega)
    simpa [hz1, Value.cells] using this
  have HH := (show Hid (_) from h)
  have HL := (show Hid (_) from hl)
  clear h hl
  go_enter Try.func25, Try.ntmps25
  go_wp2
  go_loopw [4] (fun i wr => ∃ (k : Nat) (ads : List (Option Addr)), i = .int .i64 k ∧ CL w wr n zss k ads) (fun i _ => n - (intOf i).toNat)
  case atStart =>
    refine ⟨0, [], rfl, Nat.zero_le _, rfl, ?_, fun i x zs h => by simp at h, (Below.refl _ _).alloc (Nat.le_refl _) _⟩
    have := heap_alloc_new w (.cells (madeCells #[.slice none 0 0] n) 30)
    rw [this]
    have e : hzk [] zss n 0 = (madeCells #[.slice none 0 0] n).toList := by rw [toList_madeCells_one]; simp [hzk, hz]
    rw [e]
  case round =>
    obtain ⟨k, ads, rfl, hcl⟩ := hrel
    by_cases hlt : k < n
    · obtain ⟨⟨ha, hn1, hc1⟩, hhs⟩ : ∃ h, hs[k]? = some h := ⟨_, List.getElem?_eq_getElem (by have := HH.out.top.len; simp at this; omega)⟩
      obtain ⟨zs, hzs⟩ : ∃ zs, zss[k]? = some zs := ⟨_, List.getElem?_eq_getElem (by have := HH.out.len; omega)⟩
      have hcell0 : w.cell? ⟨b, off + k, none⟩ = some (.slice ha hn1 hc1) := by
        have := HH.out.top.cell _ rfl k hlt
        rw [Addr.add_lit] at this
        rw [this, List.getElem?_map, hhs]; rfl
      have hcr : wr.cell? ⟨b, off + k, none⟩ = some (.slice ha hn1 hc1) := (hcl.below.cell (by exact World.block_lt_of_cell? w _ hcell0)).trans hcell0
      have hrd0 : Rd w ha hn1 hc1 (iv zs) := HH.out.row k _ zs hhs hzs
      have hrd : Rd wr ha hn1 hc1 (iv zs) := hrd0.later hcl.below
      have hzl : hn1 ≤ 1048576 := by have h0 := hrd.len; rw [iv_len] at h0; have := HL.out zs (List.mem_of_getElem? hzs); omega
      have HR := (show Hid (_) from hrd)
      have HC := (show Hid (_) from hcl)
      have HZ := (show Hid (_) from hzs)
      clear hcell0 hrd0 hrd hcl hzs hhs
      go_wp2_with (go_at_call 24; refine (cloneInts_any ha hn1 hc1 (iv zs) (iv_one zs) hzl _ HR.out).mono ?_; rintro e w1 ⟨x, rfl, hxn, hb1, hcp1⟩; obtain ⟨v0, hv0, hf0⟩ := HC.out.cell HH.out.len hlt hb1)
      have e1 : (zss.getD k []) = zs := by simp [List.getD, HZ.out]
      have e2 : hn1 = zs.length := by have := HR.out.len; rw [iv_len] at this; exact this.symm
      have hst := HC.out.step HH.out.len hlt hb1 (x := x) (by rw [e1]; exact hcp1)
      rw [e1, ← e2] at hst
      have HS := (show Hid (_) from hst)
      clear hst e1 e2 hcp1 hb1 hxn
      go_roundw
      case rel => exact ⟨k + 1, _, by go_num, HS.out⟩
      case measure => simp [intOf]; omega
    · obtain rfl : k = n := by have := hcl.le; omega
      have HK := (show Hid (_) from hcl)
      clear hcl
      go_wp2
      go_ret
      exact ⟨ads, rfl, HK.out⟩

theorem cloneLists_zero (x : Addr) (c : Nat) (w : World) :
    Calls Try.prog 25 #[.slice (some x) 0 c] w fun e w' => e = .returned (.slice (some ⟨w.heap.size, 0, none⟩) 0 0) ∧ Below w.heap.size w w' ∧ w'.heap[w.heap.size]? = some (.cells #[] 30 (0, 0)) := by
  have q := q31
  have hmk : ∀ W : World, (Instr.makeSlice 31 (.int .i64 0) (.int .i64 0)).run Try.prog W = .ok (.slice (some ⟨W.heap.size, 0, none⟩) 0 0) (W.alloc (.cells #[] 30)) := fun _ => by kernel_rfl
  go_enter Try.func25, Try.ntmps25
  go_wp2
  refine wp_loop_rounds 1 ?_
  rw [rounds_succ]
  go_wp2
  go_ret
  exact ⟨rfl, (Below.refl _ _).alloc (Nat.le_refl _) _, heap_alloc_new _ _⟩

theorem Cp2.wide {w : World} {lo hi lo' hi' : Nat} {a : Option Addr} {ads : List (Option Addr)} {zss : List (List Int)} (h : Cp2 w lo hi a ads zss) (h1 : lo' ≤ lo) (h2 : hi ≤ hi') : Cp2 w lo' hi' a ads zss :=
  ⟨h.top.wide h1 h2, h.len, fun i x zs k1 k2 => (h.row i x zs k1 k2).wide h1 h2⟩
theorem Cp2.keep {w w' : World} {lo hi : Nat} {a : Option Addr} {ads : List (Option Addr)} {zss : List (List Int)} (h : Cp2 w lo hi a ads zss) (hk : ∀ k, lo ≤ k → k < hi → w'.heap[k]? = w.heap[k]?) : Cp2 w' lo hi a ads zss :=
  ⟨h.top.keep hk, h.len, fun i x zs k1 k2 => (h.row i x zs k1 k2).keep hk⟩
theorem Cp2.later {w w' : World} {lo hi B : Nat} {a : Option Addr} {ads : List (Option Addr)} {zss : List (List Int)} (h : Cp2 w lo hi a ads zss) (hb : Below B w w') (hB : hi ≤ B) : Cp2 w' lo hi a ads zss :=
  h.keep fun k _ hk => hb.block k (by omega)

theorem cloneLists_any (a : Option Addr) (n c : Nat) (hs : List (Option Addr × Nat × Nat)) (zss : List (List Int)) (hn : n ≤ 1048576) (hl : ∀ zs ∈ zss, zs.length ≤ 1048576) (w : World) (h : Rd2 w a n c hs zss) :
    Calls Try.prog 25 #[.slice a n c] w fun e w' => ∃ a' ads, e = .returned (.slice a' n n) ∧ a'.isNone = a.isNone ∧ Below w.heap.size w w' ∧ Cp2 w' w.heap.size w'.heap.size a' ads zss := by
  match a, h with
  | none, h =>
    obtain ⟨rfl, rfl⟩ := h.top.nil rfl
    obtain rfl : zss = [] := List.eq_nil_of_length_eq_zero h.len
    refine (cloneLists_nil w).mono ?_
    rintro e w' ⟨rfl, rfl⟩
    exact ⟨none, [], rfl, rfl, Below.refl _ _, ⟨fun _ => rfl, fun x hx => by cases hx⟩, rfl, fun i x zs h => by simp at h⟩
  | some x, h =>
    by_cases h0 : n = 0
    · subst h0
      obtain rfl : zss = [] := List.eq_nil_of_length_eq_zero h.len
      refine (cloneLists_zero x c w).mono ?_
      rintro e w' ⟨rfl, hb, hg⟩
      exact ⟨_, [], rfl, rfl, hb, ⟨fun h => (by cases h), fun x hx => ⟨_, (Option.some.inj hx).symm, Nat.le_refl _, lt_of_blk hg, hg⟩⟩, rfl, fun i x zs h => by simp at h⟩
    · obtain ⟨b, off, sp⟩ := x
      have hsp : sp = none := by
        have h1 := h.top.cell _ rfl 0 (by omega)
        have h2 : 0 < (hs.map hv).length := by rw [h.top.len]; omega
        rw [List.getElem?_eq_getElem h2] at h1
        simpa [Addr.add] using World.cell?_spot h1
      subst hsp
      refine (cloneLists_pos b off n c hs zss hn hl w h).mono ?_
      rintro e w' ⟨ads, rfl, hcl⟩
      have hrow := hcl.row
      have e : hzk ads zss n n = hz ads zss := by simp [hzk, List.take_of_length_le (Nat.le_of_eq h.len)]
      rw [e] at hrow
      refine ⟨_, ads, rfl, rfl, hcl.below, ⟨fun h => (by cases h), fun x hx => ⟨_, (Option.some.inj hx).symm, Nat.le_refl _, lt_of_blk hrow, hrow⟩⟩, by rw [hcl.len, h.len], fun i x zs h1 h2 => (hcl.rows i x zs h1 h2).wide (by omega) (Nat.le_refl _)⟩

end Go.Proofs.Qxb6602784a
