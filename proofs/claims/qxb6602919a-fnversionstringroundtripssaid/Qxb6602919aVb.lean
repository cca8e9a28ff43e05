import Derived.Test.Qxb6602919aVa
import Derived.Test.Qxb6602919aShelf
namespace Go.Proofs.Qxb6602919a
open Go.RowKit
set_option linter.unusedVariables false
set_option linter.unusedSimpArgs false

/-- the struct's cells -/
def ver (s0 s1 s2 s4 : ByteArray) (a : Option Addr) (n c : Nat) : Array Value := #[.string s0, .string s1, .string s2, .slice a n c, .string s4]

set_option maxHeartbeats 400000 in
theorem newV (s0 s1 s2 s4 : ByteArray) (a : Option Addr) (n c : Nat) (w : World) :
    Calls Try.prog 21 #[.string s0, .string s1, .string s2, .slice a n c, .string s4] w fun e w' => e = .returned (.agg #[.string s0, .string s1, .string s2, .slice a n c, .string s4]) ∧ Below w.heap.size w w' := by
  go_enter Try.func21, Try.ntmps21
  go_wp2
  (try simp only [Exit.inBlock, Exit.then])
  refine bodyPost_ret (results_cell_row (P := Try.prog) rfl _ _ w.heap.size 36 _ (0, 0) _ rfl (heap_alloc_new _ _) Try.underlying36 rfl (by kernel_rfl)) rfl ⟨rfl, (Below.refl _ _).alloc (Nat.le_refl _) _⟩

/-- the bytes of a text -/
def bl (s : ByteArray) : List UInt8 := s.data.toList
theorem bl_len (s : ByteArray) : (bl s).length = s.size := by simp [bl]
theorem bl_app (s t : ByteArray) : bl (s ++ t) = bl s ++ bl t := by simp [bl]
theorem bl_mk (l : List UInt8) : bl ⟨l.toArray⟩ = l := by simp [bl]
/-- the sum of the lengths -/
def tsz (ss : List ByteArray) : Nat := (ss.map ByteArray.size).sum
theorem lens_bl (ss : List ByteArray) : Lib.lens (ss.map bl) = tsz ss := by
  simp only [Lib.lens, tsz, List.map_map]
  congr 1
theorem join_len (ss : List ByteArray) : (Lib.join (ss.map bl) [46]).length = tsz ss + (ss.length - 1) := by
  match ss with
  | [] => rfl
  | s :: r =>
    rw [List.map_cons, Lib.join_cons, List.length_append, Lib.joinTail_length, lens_bl, bl_len]
    simp [tsz]; omega

theorem join0 (a : Option Addr) (n c : Nat) (ss : List ByteArray) (w : World) (h : RdS w a n c ss) (hc : n ≤ c) (hn : n ≤ 1048576) (ht : tsz ss ≤ 1048576) :
    Calls Try.prog 30 #[.slice a n c, .string ⟨#[46]⟩] w fun e w' => e = .returned (.string ⟨(Lib.join (ss.map bl) [46]).toArray⟩) ∧ Below w.heap.size w w' := by
  have hl := h.len
  by_cases h0 : n = 0
  · subst h0
    obtain rfl : ss = [] := List.eq_nil_of_length_eq_zero hl
    refine (Try.strings_Join_none a c ⟨#[46]⟩ w).mono ?_
    rintro e w' ⟨rfl, rfl⟩
    exact ⟨rfl, Below.refl _ _⟩
  · obtain ⟨b, off, s, rfl, hcell, hs⟩ := h.at (k := 0) (by omega)
    subst hl
    exact Try.strings_Join b off c ss ⟨#[46]⟩ w (fun j x hx => by have := h.cell _ rfl j x hx; rwa [Addr.add_lit] at this) (World.block_lt_of_cell? w _ hcell) (by omega) hc (by have := join_len ss; unfold bl at this; rw [this]; omega)

/-- the text that String writes -/
def vtext (s0 s1 s2 s4 : ByteArray) (a : Option Addr) (ss : List ByteArray) : List UInt8 :=
  Lib.join [bl s0, bl s1, bl s2] [46] ++ (if a.isNone then [] else 45 :: Lib.join (ss.map bl) [46]) ++ (if bl s4 = [] then [] else 43 :: bl s4)

theorem core3 (s0 s1 s2 : ByteArray) (w : World) (h0 : s0.size + s1.size + s2.size ≤ 1048576) (g : Nat) (x y : Value) (hg : w.heap[g]? = some (.cells #[.string s0, .string s1, .string s2, x, y] 36 (0, 0))) :
    Calls Try.prog 30 #[.slice (some ⟨g, 0, none⟩) 3 3, .string ⟨#[46]⟩] w fun e w' => e = .returned (.string ⟨(Lib.join [bl s0, bl s1, bl s2] [46]).toArray⟩) ∧ Below w.heap.size w w' := by
  refine join0 (some ⟨g, 0, none⟩) 3 3 [s0, s1, s2] w ⟨rfl, fun h => (by cases h), fun z hz i s hs => ?_⟩ (Nat.le_refl _) (by omega) (by simp [tsz]; omega)
  obtain rfl := Option.some.inj hz
  rw [Addr.add_lit, Nat.zero_add, cell_of_row w g i #[.string s0, .string s1, .string s2, x, y] 36 (0, 0) hg]
  match i, hs with
  | 0, hs => simp at hs; simp [hs]
  | 1, hs => simp at hs; simp [hs]
  | 2, hs => simp at hs; simp [hs]

theorem empty_iff (s : ByteArray) : s = ⟨#[]⟩ ↔ bl s = [] := by
  obtain ⟨⟨l⟩⟩ := s
  simp [bl]

theorem cel5 (W : World) (g : Nat) (x0 x1 x2 x3 x4 : Value) (hW : W.heap[g]? = some (.cells #[x0, x1, x2, x3, x4] 36 (0, 0))) : W.cell? ⟨g, 3, none⟩ = some x3 ∧ W.cell? ⟨g, 4, none⟩ = some x4 :=
  ⟨cell_of_row W g 3 #[x0, x1, x2, x3, x4] 36 (0, 0) hW, cell_of_row W g 4 #[x0, x1, x2, x3, x4] 36 (0, 0) hW⟩

theorem add_any (a b : ByteArray) (ha : a.size ≤ 8388608) (hb : b.size ≤ 8388608) : ∃ c : ByteArray, bl c = bl a ++ bl b ∧ c.size = a.size + b.size ∧ ∀ W : World, (Op.stringOp .add a b).run Try.prog W = .ok (.string c) W :=
  ⟨a ++ b, bl_app a b, by simp, fun W => run_string_add W a b (by omega) (by omega)⟩
theorem toList_bl (s : ByteArray) : s.toList = bl s := ByteArray.toList_eq s

set_option maxHeartbeats 800000 in
theorem str22_none (s0 s1 s2 s4 : ByteArray) (w : World) (h0 : s0.size + s1.size + s2.size ≤ 1048576) (h4 : s4.size ≤ 1048576) :
    Calls Try.prog 22 #[.agg #[.string s0, .string s1, .string s2, .slice none 0 0, .string s4]] w fun e w' => ∃ r, e = .returned (.string r) ∧ bl r = vtext s0 s1 s2 s4 none [] ∧ Below w.heap.size w w' := by
  have r := r31
  have hjl := join_len [s0, s1, s2]
  obtain ⟨J, hJ⟩ : ∃ J : ByteArray, (ByteArray.mk (Lib.join [bl s0, bl s1, bl s2] [46]).toArray) = J := ⟨_, rfl⟩
  have hJs : bl J = Lib.join [bl s0, bl s1, bl s2] [46] := by rw [← hJ, bl_mk]
  have hJz : J.size ≤ 8388608 := by
    rw [← bl_len, hJs]
    simp only [List.map_cons, List.map_nil, tsz, List.sum_cons, List.sum_nil, List.length_cons, List.length_nil] at hjl
    omega
  have H3 := (show Hid (∀ (W : World) (x y : Value), W.heap[w.heap.size]? = some (.cells #[.string s0, .string s1, .string s2, x, y] 36 (0, 0)) → Calls Try.prog 30 #[.slice (some ⟨w.heap.size, 0, none⟩) 3 3, .string ⟨#[46]⟩] W fun e w' => e = .returned (.string J) ∧ Below W.heap.size W w') from fun W x y hg => hJ ▸ core3 s0 s1 s2 W h0 w.heap.size x y hg)
  obtain ⟨D, hD1, hD2, hD3⟩ := add_any ⟨#[43]⟩ s4 (by decide) (by omega)
  obtain ⟨E, hE1, hE2, hE3⟩ := add_any J D hJz (by rw [hD2]; have : (ByteArray.mk #[43]).size = 1 := rfl; omega)
  have HF := (show Hid (_) from And.intro hJs (And.intro hD1 hE1))
  clear hjl hJ hJs hJz hD1 hD2 hE1 hE2
  by_cases hne : s4 = ⟨#[]⟩
  · subst hne
    go_enter Try.func22, Try.ntmps22
    go_wp2_with (go_at_call 30; refine (H3.out _ _ _ (heap_alloc_new _ _)).mono ?_; rintro e w1 ⟨rfl, hb1⟩; have hg1 := (hb1.block w.heap.size (by simp)).trans (heap_alloc_new _ _); obtain ⟨hx3, hx4⟩ := cel5 w1 _ _ _ _ _ _ hg1; have H1 := (show Hid (_) from hb1); clear hb1 hg1)
    go_ret
    exact ⟨J, rfl, by rw [HF.out.1]; simp [vtext, bl], ((Below.refl _ _).alloc (Nat.le_refl _) _).trans (H1.out.mono (by simp))⟩
  · have hbl : bl s4 ≠ [] := fun h => hne ((empty_iff s4).2 h)
    have hne2 : s4.toList.isEmpty = false := by rw [toList_bl]; simpa using hbl
    have HB := (show Hid (_) from hbl)
    clear hne hbl
    go_enter Try.func22, Try.ntmps22
    go_wp2_with (go_at_call 30; refine (H3.out _ _ _ (heap_alloc_new _ _)).mono ?_; rintro e w1 ⟨rfl, hb1⟩; have hg1 := (hb1.block w.heap.size (by simp)).trans (heap_alloc_new _ _); obtain ⟨hx3, hx4⟩ := cel5 w1 _ _ _ _ _ _ hg1; have H1 := (show Hid (_) from hb1); clear hb1 hg1)
    go_ret
    refine ⟨E, rfl, ?_, ((Below.refl _ _).alloc (Nat.le_refl _) _).trans (H1.out.mono (by simp))⟩
    rw [HF.out.2.2, HF.out.2.1, HF.out.1, vtext, if_neg HB.out]
    simp [bl]

set_option maxHeartbeats 800000 in
theorem str22_some (s0 s1 s2 s4 : ByteArray) (x : Addr) (n c : Nat) (ss : List ByteArray) (w : World) (h0 : s0.size + s1.size + s2.size ≤ 1048576) (h4 : s4.size ≤ 1048576) (h : RdS w (some x) n c ss) (hc : n ≤ c) (hn : n ≤ 1048576) (ht : tsz ss ≤ 1048576) :
    Calls Try.prog 22 #[.agg #[.string s0, .string s1, .string s2, .slice (some x) n c, .string s4]] w fun e w' => ∃ r, e = .returned (.string r) ∧ bl r = vtext s0 s1 s2 s4 (some x) ss ∧ Below w.heap.size w w' := by
  have r := r31
  have hjl := join_len [s0, s1, s2]
  have hkl := join_len ss
  obtain ⟨J, hJ⟩ : ∃ J : ByteArray, (ByteArray.mk (Lib.join [bl s0, bl s1, bl s2] [46]).toArray) = J := ⟨_, rfl⟩
  have hJs : bl J = Lib.join [bl s0, bl s1, bl s2] [46] := by rw [← hJ, bl_mk]
  have hJz : J.size ≤ 4194304 := by
    rw [← bl_len, hJs]
    simp only [List.map_cons, List.map_nil, tsz, List.sum_cons, List.sum_nil, List.length_cons, List.length_nil] at hjl
    omega
  obtain ⟨K, hK⟩ : ∃ K : ByteArray, (ByteArray.mk (Lib.join (ss.map bl) [46]).toArray) = K := ⟨_, rfl⟩
  have hKs : bl K = Lib.join (ss.map bl) [46] := by rw [← hK, bl_mk]
  have hKz : K.size ≤ 2097152 := by
    rw [← bl_len, hKs, hkl, h.len]
    omega
  have H3 := (show Hid (∀ (W : World) (x y : Value), W.heap[w.heap.size]? = some (.cells #[.string s0, .string s1, .string s2, x, y] 36 (0, 0)) → Calls Try.prog 30 #[.slice (some ⟨w.heap.size, 0, none⟩) 3 3, .string ⟨#[46]⟩] W fun e w' => e = .returned (.string J) ∧ Below W.heap.size W w') from fun W x y hg => hJ ▸ core3 s0 s1 s2 W h0 w.heap.size x y hg)
  have H4 := (show Hid (∀ (W : World), Below w.heap.size w W → Calls Try.prog 30 #[.slice (some x) n c, .string ⟨#[46]⟩] W fun e w' => e = .returned (.string K) ∧ Below W.heap.size W w') from fun W hb => hK ▸ join0 (some x) n c ss W (h.later hb) hc hn ht)
  have e43 : (ByteArray.mk #[43]).size = 1 := rfl
  have e45 : (ByteArray.mk #[45]).size = 1 := rfl
  obtain ⟨A, hA1, hA2, hA3⟩ := add_any ⟨#[45]⟩ K (by omega) (by omega)
  obtain ⟨B, hB1, hB2, hB3⟩ := add_any J A (by omega) (by omega)
  obtain ⟨D, hD1, hD2, hD3⟩ := add_any ⟨#[43]⟩ s4 (by omega) (by omega)
  obtain ⟨E, hE1, hE2, hE3⟩ := add_any B D (by omega) (by omega)
  have HF := (show Hid (_) from And.intro hJs (And.intro hKs (And.intro hA1 (And.intro hB1 (And.intro hD1 hE1)))))
  clear hjl hkl hJ hJs hJz hK hKs hKz hA1 hA2 hB1 hB2 hD1 hD2 hE1 hE2 e43 e45 h hc hn ht h0 h4
  by_cases hne : s4 = ⟨#[]⟩
  · subst hne
    go_enter Try.func22, Try.ntmps22
    go_wp2_with (go_at_call 30; first
    | (refine (H4.out _ H1.out.1).mono ?_; rintro e w2 ⟨rfl, hb2⟩; obtain ⟨hy3, hy4⟩ := cel5 w2 _ _ _ _ _ _ ((hb2.block w.heap.size (lt_of_blk H1.out.2)).trans H1.out.2); have H2 := (show Hid (_) from H1.out.1.trans (hb2.mono H1.out.1.size)); clear hb2)
    | (refine (H3.out _ _ _ (heap_alloc_new _ _)).mono ?_; rintro e w1 ⟨rfl, hb1⟩; have hg1 := (hb1.block w.heap.size (by simp)).trans (heap_alloc_new _ _); obtain ⟨hx3, hx4⟩ := cel5 w1 _ _ _ _ _ _ hg1; have H1 := (show Hid (_) from And.intro (((Below.refl _ _).alloc (Nat.le_refl _) _).trans (hb1.mono (by simp))) hg1); clear hb1 hg1)
    | fail)
    go_ret
    refine ⟨B, rfl, ?_, H2.out⟩
    rw [HF.out.2.2.2.1, HF.out.2.2.1, HF.out.1, HF.out.2.1]
    simp [vtext, bl]
  · have hbl : bl s4 ≠ [] := fun h => hne ((empty_iff s4).2 h)
    have hne2 : s4.toList.isEmpty = false := by rw [toList_bl]; simpa using hbl
    have HB := (show Hid (_) from hbl)
    clear hne hbl
    go_enter Try.func22, Try.ntmps22
    go_wp2_with (go_at_call 30; first
    | (refine (H4.out _ H1.out.1).mono ?_; rintro e w2 ⟨rfl, hb2⟩; obtain ⟨hy3, hy4⟩ := cel5 w2 _ _ _ _ _ _ ((hb2.block w.heap.size (lt_of_blk H1.out.2)).trans H1.out.2); have H2 := (show Hid (_) from H1.out.1.trans (hb2.mono H1.out.1.size)); clear hb2)
    | (refine (H3.out _ _ _ (heap_alloc_new _ _)).mono ?_; rintro e w1 ⟨rfl, hb1⟩; have hg1 := (hb1.block w.heap.size (by simp)).trans (heap_alloc_new _ _); obtain ⟨hx3, hx4⟩ := cel5 w1 _ _ _ _ _ _ hg1; have H1 := (show Hid (_) from And.intro (((Below.refl _ _).alloc (Nat.le_refl _) _).trans (hb1.mono (by simp))) hg1); clear hb1 hg1)
    | fail)
    go_ret
    refine ⟨E, rfl, ?_, H2.out⟩
    rw [HF.out.2.2.2.2.2, HF.out.2.2.2.2.1, HF.out.2.2.2.1, HF.out.2.2.1, HF.out.1, HF.out.2.1, vtext, if_neg HB.out]
    simp [bl]

theorem str22 (s0 s1 s2 s4 : ByteArray) (a : Option Addr) (n c : Nat) (ss : List ByteArray) (w : World) (h0 : s0.size + s1.size + s2.size ≤ 1048576) (h4 : s4.size ≤ 1048576) (h : RdS w a n c ss) (hc : n ≤ c) (hn : n ≤ 1048576) (ht : tsz ss ≤ 1048576) :
    Calls Try.prog 22 #[.agg #[.string s0, .string s1, .string s2, .slice a n c, .string s4]] w fun e w' => ∃ r, e = .returned (.string r) ∧ bl r = vtext s0 s1 s2 s4 a ss ∧ Below w.heap.size w w' := by
  match a, h with
  | none, h =>
    obtain ⟨rfl, rfl⟩ := h.nil rfl
    obtain rfl : ss = [] := List.eq_nil_of_length_eq_zero h.len
    exact str22_none s0 s1 s2 s4 w h0 h4
  | some x, h => exact str22_some s0 s1 s2 s4 x n c ss w h0 h4 h hc hn ht

end Go.Proofs.Qxb6602919a
