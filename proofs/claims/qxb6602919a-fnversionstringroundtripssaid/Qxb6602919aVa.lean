import Derived.Test.Qxb6602919aRows
import Derived.WalkKit
import Derived.WalkSpells
import Derived.WalkLawsBesides
import Derived.Handy
import Derived.Deep.QuietTactic
import Derived.BigQuiet
namespace Go.Proofs.Qxb6602919a
open Go.RowKit
set_option linter.unusedVariables false
set_option linter.unusedSimpArgs false

theorem q31 : ∀ (w : World) (a : Option Addr) (n c n' c' : Nat), (binOp .eql 31 (.slice a n c) (.slice none n' c')).run Try.prog w = .ok (.bool a.isNone) w := fun w a n c n' c' => Lib.run_eql_slice_nil w _ _ a n c n' c' Try.underlying31
theorem r31 : ∀ (w : World) (a : Option Addr) (n c n' c' : Nat), (binOp .neq 31 (.slice a n c) (.slice none n' c')).run Try.prog w = .ok (.bool !a.isNone) w := fun w a n c n' c' => run_neq_slice_nil_any w _ _ a n c n' c' Try.underlying31
theorem Try.info9 : (Try.prog.info? 9).map (fun i => (i.zero, i.size, i.bytes)) = some (some (.string ⟨#[]⟩), 1, 16) := by kernel_rfl

/-- a slice of strings reads as the texts ss -/
structure RdS (w : World) (a : Option Addr) (n c : Nat) (ss : List ByteArray) : Prop where
  len : ss.length = n
  nil : a = none → n = 0 ∧ c = 0
  cell : ∀ x, a = some x → ∀ i s, ss[i]? = some s → w.cell? (x.add i) = some (.string s)

theorem RdS.later {w w' : World} {a : Option Addr} {n c : Nat} {ss : List ByteArray} (h : RdS w a n c ss) (hb : Below w.heap.size w w') : RdS w' a n c ss :=
  ⟨h.len, h.nil, fun x hx i s hi => cell_later hb (h.cell x hx i s hi)⟩

theorem RdS.at {w : World} {a : Option Addr} {n c : Nat} {ss : List ByteArray} (h : RdS w a n c ss) {k : Nat} (hk : k < n) :
    ∃ b off s, a = some ⟨b, off, none⟩ ∧ w.cell? ⟨b, off + k, none⟩ = some (.string s) ∧ ss[k]? = some s := by
  obtain ⟨s, hs⟩ : ∃ s, ss[k]? = some s := ⟨_, List.getElem?_eq_getElem (by have := h.len; omega)⟩
  match a, h with
  | none, h => have := (h.nil rfl).1; omega
  | some ⟨b, off, sp⟩, h =>
    have h1 := h.cell _ rfl k s hs
    have hsp : sp = none := by
      have h2 := h.cell _ rfl 0 _ (List.getElem?_eq_getElem (by have := h.len; omega))
      simpa [Addr.add] using World.cell?_spot h2
    subst hsp
    exact ⟨b, off, s, rfl, by rwa [Addr.add_lit] at h1, hs⟩

/-- it returns a bool -/
def RetB (x : Ending) : Prop := ∃ b, x = .returned (.bool b)

set_option maxHeartbeats 1600000 in
theorem zz25_any (w : World) (s0 s1 s2 s4 : ByteArray) (a : Option Addr) (n c : Nat) (ss : List ByteArray) (h : RdS w a n c ss) :
    Calls Try.prog 25 #[.string s0, .string s1, .string s2, .slice a n c, .string s4] w fun x w' => RetB x ∧ w' = w := by
  have H1 := (show Hid (_) from h)
  clear h
  obtain ⟨n0, hn0⟩ : ∃ n, s0.size = n := ⟨_, rfl⟩
  obtain ⟨n1, hn1⟩ : ∃ n, s1.size = n := ⟨_, rfl⟩
  obtain ⟨n2, hn2⟩ : ∃ n, s2.size = n := ⟨_, rfl⟩
  obtain ⟨n4, hn4⟩ : ∃ n, s4.size = n := ⟨_, rfl⟩
  by_cases q0 : n0 ≤ 1048576
  case neg =>
    go_enter Try.func25, Try.ntmps25
    go_wp2
    go_ret
    exact ⟨⟨_, rfl⟩, rfl⟩
  by_cases q1 : n1 ≤ 1048576
  case neg =>
    go_enter Try.func25, Try.ntmps25
    go_wp2
    go_ret
    exact ⟨⟨_, rfl⟩, rfl⟩
  by_cases q2 : n0 + n1 ≤ 1048576
  case neg =>
    go_enter Try.func25, Try.ntmps25
    go_wp2
    go_ret
    exact ⟨⟨_, rfl⟩, rfl⟩
  by_cases q3 : n2 ≤ 1048576
  case neg =>
    go_enter Try.func25, Try.ntmps25
    go_wp2
    go_ret
    exact ⟨⟨_, rfl⟩, rfl⟩
  by_cases q4 : n0 + n1 + n2 ≤ 1048576
  case neg =>
    go_enter Try.func25, Try.ntmps25
    go_wp2
    go_ret
    exact ⟨⟨_, rfl⟩, rfl⟩
  by_cases q5 : n ≤ 1048576
  case neg =>
    go_enter Try.func25, Try.ntmps25
    go_wp2
    go_ret
    exact ⟨⟨_, rfl⟩, rfl⟩
  by_cases q6 : n0 + n1 + n2 + n ≤ 1048576
  case neg =>
    go_enter Try.func25, Try.ntmps25
    go_wp2
    go_ret
    exact ⟨⟨_, rfl⟩, rfl⟩
  go_enter Try.func25, Try.ntmps25
  go_wp2
  go_loop [11, 12] (fun z i => ∃ s k : Nat, s ≤ 1048576 ∧ k ≤ n ∧ z = .int .i64 s ∧ i = .int .i64 k) (fun _ i => n - (intOf i).toNat)
  case atStart => exact ⟨n0 + n1 + n2 + n, 0, q6, Nat.zero_le _, by go_num, rfl⟩
  case round =>
    obtain ⟨s, i, hs1, hi1, rfl, rfl⟩ := hrel
    by_cases hlt : i < n
    · obtain ⟨b, off, t, rfl, hcell, hrest⟩ := H1.out.at hlt
      clear hrest
      by_cases p1 : t.size ≤ 1048576
      · by_cases p2 : s + t.size ≤ 1048576
        · go_wp2
          go_round
          case rel => exact ⟨s + t.size, i + 1, p2, by omega, by go_num, by go_num⟩
          case measure => simp [intOf]; omega
        · go_wp2
          go_ret
          exact ⟨⟨_, rfl⟩, rfl⟩
      · go_wp2
        go_ret
        exact ⟨⟨_, rfl⟩, rfl⟩
    · go_wp2
      all_goals
        go_ret
        exact ⟨⟨_, rfl⟩, rfl⟩

theorem lt_of_blk {w : World} {g : Nat} {o : Obj} (h : w.heap[g]? = some o) : g < w.heap.size := (Array.getElem?_eq_some_iff.1 h).1

set_option maxHeartbeats 400000 in
theorem cloneS_nil (w : World) : Calls Try.prog 20 #[.slice none 0 0] w fun e w' => e = .returned (.slice none 0 0) ∧ w' = w := by
  have q := q31
  go_enter Try.func20, Try.ntmps20
  go_wp2
  go_ret
  exact ⟨rfl, rfl⟩

theorem cloneS_zero (x : Addr) (c : Nat) (w : World) :
    Calls Try.prog 20 #[.slice (some x) 0 c] w fun e w' => e = .returned (.slice (some ⟨w.heap.size, 0, none⟩) 0 0) ∧ Below w.heap.size w w' := by
  have q := q31
  have hmk : ∀ W : World, (Instr.makeSlice 31 (.int .i64 0) (.int .i64 0)).run Try.prog W = .ok (.slice (some ⟨W.heap.size, 0, none⟩) 0 0) (W.alloc (.cells #[] 9)) := fun _ => by kernel_rfl
  go_enter Try.func20, Try.ntmps20
  go_wp2
  refine wp_loop_rounds 1 ?_
  rw [rounds_succ]
  go_wp2
  go_ret
  exact ⟨rfl, (Below.refl _ _).alloc (Nat.le_refl _) _⟩

/-- the row of strings when k are copied -/
def sk (ss : List ByteArray) (n k : Nat) : List Value := (ss.take k).map Value.string ++ List.replicate (n - k) (.string ⟨#[]⟩)
theorem sk_len (ss : List ByteArray) (n k : Nat) (hk : k ≤ n) (hs : ss.length = n) : (sk ss n k).length = n := by simp [sk]; omega
theorem sk_succ (ss : List ByteArray) (n k : Nat) (s : ByteArray) (hk : k < n) (hn : ss.length = n) (hs : ss[k]? = some s) : (sk ss n k).set k (.string s) = sk ss n (k + 1) := by
  obtain ⟨m, rfl⟩ : ∃ m, n = k + 1 + m := ⟨n - (k + 1), by omega⟩
  unfold sk
  have e1 : k + 1 + m - k = m + 1 := by omega
  have e2 : k + 1 + m - (k + 1) = m := by omega
  have hl : ((ss.take k).map Value.string).length = k := by simp; omega
  have hkl : k < ss.length := by omega
  have e3 : ss[k] = s := by rw [List.getElem?_eq_getElem hkl] at hs; exact Option.some.inj hs
  rw [e1, e2, List.replicate_succ, List.set_append_right _ _ (by omega), hl, List.take_succ_eq_append_getElem hkl, e3]
  simp

structure CS (w wr : World) (n : Nat) (ss : List ByteArray) (k : Nat) : Prop where
  le : k ≤ n
  row : wr.heap[w.heap.size]? = some (.cells (sk ss n k).toArray 9 (0, 0))
  below : Below w.heap.size w wr

theorem CS.step {w wr : World} {n : Nat} {ss : List ByteArray} {k : Nat} (h : CS w wr n ss k) (hn : ss.length = n) (hk : k < n) {s : ByteArray} (hs : ss[k]? = some s) :
    CS w (wr.setCell ⟨w.heap.size, k, none⟩ (.string s)) n ss (k + 1) := by
  refine ⟨by omega, ?_, h.below.setCell (Nat.le_refl _) _⟩
  rw [heap_setCell_same wr w.heap.size k _ 9 _ h.row, ← sk_succ ss n k s hk hn hs]
  simp

theorem CS.cell {w wr : World} {n : Nat} {ss : List ByteArray} {k : Nat} (h : CS w wr n ss k) (hn : ss.length = n) (hk : k < n) :
    ∃ v, wr.cell? ⟨w.heap.size, k, none⟩ = some v ∧ wr.frozen? ⟨w.heap.size, k, none⟩ = false := by
  have hl := sk_len ss n k h.le hn
  exact ⟨_, (cell_of_row wr _ k _ 9 (0, 0) h.row).trans (by simp [show k < (sk ss n k).length by omega]; rfl), frozen_of_row wr _ k _ 9 h.row⟩

set_option maxHeartbeats 800000 in
theorem cloneS_pos (b off n c : Nat) (ss : List ByteArray) (hn : n ≤ 1048576) (w : World) (h : RdS w (some ⟨b, off, none⟩) n c ss) :
    Calls Try.prog 20 #[.slice (some ⟨b, off, none⟩) n c] w fun e w' => e = .returned (.slice (some ⟨w.heap.size, 0, none⟩) n n) ∧ CS w w' n ss n := by
  have q := q31
  obtain ⟨i0, hi, hz0, hz1, hz2⟩ := info_parts Try.info9
  have hmk : ∀ W : World, (Instr.makeSlice 31 (.int .i64 n) (.int .i64 n)).run Try.prog W = .ok (.slice (some ⟨W.heap.size, 0, none⟩) n n) (W.alloc (.cells (madeCells #[.string ⟨#[]⟩] n) 9)) := by
    intro W
    have := run_make (P := Try.prog) W 31 9 i0 (.string ⟨#[]⟩) Try.underlying31 hi hz0 .i64 .i64 n n (by omega) (Int.le_refl _) (by rw [hz2]; omega) (by omega)
    simpa [hz1, Value.cells] using this
  have HH := (show Hid (_) from h)
  clear h
  go_enter Try.func20, Try.ntmps20
  go_wp2
  go_loopw [4] (fun i wr => ∃ (k : Nat), i = .int .i64 k ∧ CS w wr n ss k) (fun i _ => n - (intOf i).toNat)
  case atStart =>
    refine ⟨0, rfl, Nat.zero_le _, ?_, (Below.refl _ _).alloc (Nat.le_refl _) _⟩
    have := heap_alloc_new w (.cells (madeCells #[.string ⟨#[]⟩] n) 9)
    rw [this]
    have e : sk ss n 0 = (madeCells #[.string ⟨#[]⟩] n).toList := by rw [toList_madeCells_one]; simp [sk]
    rw [e]
  case round =>
    obtain ⟨k, rfl, hcl⟩ := hrel
    by_cases hlt : k < n
    · obtain ⟨b', off', s, he, hcell0, hs⟩ := HH.out.at hlt
      obtain ⟨rfl, rfl⟩ : b' = b ∧ off' = off := by simp at he; omega
      have hcr : wr.cell? ⟨b', off' + k, none⟩ = some (.string s) := (hcl.below.cell (by exact World.block_lt_of_cell? w _ hcell0)).trans hcell0
      obtain ⟨v0, hv0, hf0⟩ := hcl.cell HH.out.len hlt
      have hst := hcl.step HH.out.len hlt hs
      have HS := (show Hid (_) from hst)
      clear hst hcl hs hcell0 he
      go_wp2
      go_roundw
      case rel => exact ⟨k + 1, by go_num, HS.out⟩
      case measure => simp [intOf]; omega
    · obtain rfl : k = n := by have := hcl.le; omega
      have HK := (show Hid (_) from hcl)
      clear hcl
      go_wp2
      go_ret
      exact ⟨rfl, HK.out⟩

theorem cloneS_any (a : Option Addr) (n c : Nat) (ss : List ByteArray) (hn : n ≤ 1048576) (w : World) (h : RdS w a n c ss) :
    Calls Try.prog 20 #[.slice a n c] w fun e w' => ∃ a', e = .returned (.slice a' n n) ∧ a'.isNone = a.isNone ∧ Below w.heap.size w w' ∧ RdS w' a' n n ss := by
  match a, h with
  | none, h =>
    obtain ⟨rfl, rfl⟩ := h.nil rfl
    refine (cloneS_nil w).mono ?_
    rintro e w' ⟨rfl, rfl⟩
    exact ⟨none, rfl, rfl, Below.refl _ _, h⟩
  | some x, h =>
    by_cases h0 : n = 0
    · subst h0
      refine (cloneS_zero x c w).mono ?_
      rintro e w' ⟨rfl, hb⟩
      obtain rfl : ss = [] := List.eq_nil_of_length_eq_zero h.len
      exact ⟨_, rfl, rfl, hb, rfl, fun h => (by cases h), fun x hx i s hs => by simp at hs⟩
    · obtain ⟨b, off, s, he, _, _⟩ := h.at (k := 0) (by omega)
      obtain rfl := Option.some.inj he
      refine (cloneS_pos b off n c ss hn w h).mono ?_
      rintro e w' ⟨rfl, hc⟩
      refine ⟨_, rfl, rfl, hc.below, h.len, fun h => (by cases h), fun x hx i s hs => ?_⟩
      obtain rfl := Option.some.inj hx
      rw [Addr.add_lit, Nat.zero_add, cell_of_row w' _ i _ 9 (0, 0) hc.row]
      have e : sk ss n n = ss.map Value.string := by simp [sk, ← h.len]
      rw [e]
      simp [hs]

end Go.Proofs.Qxb6602919a
