import Derived.Test.Qxb6602784aRows
import Derived.WalkKit
import Derived.WalkSpells
import Derived.WalkLawsBesides
import Derived.Handy
import Derived.Deep.QuietTactic
import Derived.BigQuiet
import Derived.Laws.CopyOwn
import Derived.Deep.AppendLies
namespace Go.Proofs.Qxb6602784a
open Go.RowKit
set_option linter.unusedVariables false
set_option linter.unusedSimpArgs false

theorem Try.info2 : (Try.prog.info? 2).map (fun i => (i.zero, i.size, i.bytes)) = some (some (.int .i64 0), 1, 8) := by kernel_rfl
theorem Try.info33 : (Try.prog.info? 33).map (fun i => (i.zero, i.size, i.bytes)) = some (some (.int .u64 0), 1, 8) := by kernel_rfl
theorem Try.info30 : (Try.prog.info? 30).map (fun i => (i.zero, i.size, i.bytes)) = some (some (.slice none 0 0), 1, 24) := by kernel_rfl
theorem Try.info31 : (Try.prog.info? 31).map (fun i => (i.zero, i.size, i.bytes)) = some (some (.slice none 0 0), 1, 24) := by kernel_rfl
theorem Try.info39 : (Try.prog.info? 39).map (fun i => (i.zero, i.size, i.bytes)) = some (some (.slice none 0 0), 1, 24) := by kernel_rfl
theorem Try.info40 : (Try.prog.info? 40).map (fun i => (i.zero, i.size, i.bytes)) = some (some (.pointer none), 1, 8) := by kernel_rfl
theorem q30 : ∀ (w : World) (a : Option Addr) (n c n' c' : Nat), (binOp .eql 30 (.slice a n c) (.slice none n' c')).run Try.prog w = .ok (.bool a.isNone) w := fun w a n c n' c' => Lib.run_eql_slice_nil w _ _ a n c n' c' Try.underlying30
theorem q31 : ∀ (w : World) (a : Option Addr) (n c n' c' : Nat), (binOp .eql 31 (.slice a n c) (.slice none n' c')).run Try.prog w = .ok (.bool a.isNone) w := fun w a n c n' c' => Lib.run_eql_slice_nil w _ _ a n c n' c' Try.underlying31
theorem q32 : ∀ (w : World) (a : Option Addr) (n c n' c' : Nat), (binOp .eql 32 (.slice a n c) (.slice none n' c')).run Try.prog w = .ok (.bool a.isNone) w := fun w a n c n' c' => Lib.run_eql_slice_nil w _ _ a n c n' c' Try.underlying32
theorem q51 : ∀ (w : World) (a : Option Addr) (n c n' c' : Nat), (binOp .eql 51 (.slice a n c) (.slice none n' c')).run Try.prog w = .ok (.bool a.isNone) w := fun w a n c n' c' => Lib.run_eql_slice_nil w _ _ a n c n' c' Try.underlying51
theorem r39 : ∀ (w : World) (a : Option Addr) (n c n' c' : Nat), (binOp .neq 39 (.slice a n c) (.slice none n' c')).run Try.prog w = .ok (.bool !a.isNone) w := fun w a n c n' c' => run_neq_slice_nil_any w _ _ a n c n' c' Try.underlying39

/-- a slice value reads as the cells vs -/
structure Rd (w : World) (a : Option Addr) (n c : Nat) (vs : List Value) : Prop where
  len : vs.length = n
  nil : a = none → n = 0 ∧ c = 0
  cell : ∀ x, a = some x → ∀ i, i < n → w.cell? (x.add i) = vs[i]?

theorem Rd.later {w w' : World} {a : Option Addr} {n c : Nat} {vs : List Value} (h : Rd w a n c vs) (hb : Below w.heap.size w w') : Rd w' a n c vs :=
  ⟨h.len, h.nil, fun x hx i hi => by
    have hlt : i < vs.length := by rw [h.len]; exact hi
    have := h.cell x hx i hi
    rw [List.getElem?_eq_getElem hlt] at this ⊢
    exact cell_later hb this⟩

/-- a slice of the call's own making: nil, or all of a block of its own, with a number from lo to below hi -/
structure Cp (w : World) (lo hi : Nat) (T : TypeId) (a : Option Addr) (vs : List Value) : Prop where
  nil : a = none → vs = []
  blk : ∀ x, a = some x → ∃ g, x = ⟨g, 0, none⟩ ∧ lo ≤ g ∧ g < hi ∧ w.heap[g]? = some (.cells vs.toArray T (0, 0))

theorem Cp.keep {w w' : World} {lo hi : Nat} {T : TypeId} {a : Option Addr} {vs : List Value} (h : Cp w lo hi T a vs) (hk : ∀ k, lo ≤ k → k < hi → w'.heap[k]? = w.heap[k]?) : Cp w' lo hi T a vs :=
  ⟨h.nil, fun x hx => by obtain ⟨g, e, h1, h2, h3⟩ := h.blk x hx; exact ⟨g, e, h1, h2, (hk g h1 h2).trans h3⟩⟩
theorem Cp.later {w w' : World} {lo hi B : Nat} {T : TypeId} {a : Option Addr} {vs : List Value} (h : Cp w lo hi T a vs) (hb : Below B w w') (hB : hi ≤ B) : Cp w' lo hi T a vs :=
  h.keep fun k _ hk => hb.block k (by omega)
theorem Cp.wide {w : World} {lo hi lo' hi' : Nat} {T : TypeId} {a : Option Addr} {vs : List Value} (h : Cp w lo hi T a vs) (h1 : lo' ≤ lo) (h2 : hi ≤ hi') : Cp w lo' hi' T a vs :=
  ⟨h.nil, fun x hx => by obtain ⟨g, e, k1, k2, k3⟩ := h.blk x hx; exact ⟨g, e, by omega, by omega, k3⟩⟩
theorem Cp.rd {w : World} {lo hi : Nat} {T : TypeId} {a : Option Addr} {vs : List Value} (h : Cp w lo hi T a vs) : Rd w a vs.length vs.length vs :=
  ⟨rfl, fun ha => by have := h.nil ha; simp [this], fun x hx i hi => by
    obtain ⟨g, rfl, _, _, hb⟩ := h.blk x hx
    rw [Addr.add_lit, Nat.zero_add, cell_of_row w g i _ T (0, 0) hb]
    simp⟩
theorem Cp.owns {w : World} {lo hi : Nat} {T : TypeId} {a : Option Addr} {vs : List Value} (h : Cp w lo hi T a vs) (hm : vs.length ≤ maxLen) : w.ownsRow lo T 1 (.slice a vs.length vs.length) vs.length vs := by
  refine ⟨by simp, ?_⟩
  match a, h with
  | none, h => left; have := h.nil rfl; simp [this]
  | some x, h =>
    right
    obtain ⟨g, rfl, h1, _, hb⟩ := h.blk x rfl
    exact ⟨g, vs.length, vs.toArray, rfl, h1, hb, Nat.le_refl _, hm, by simp, by simp⟩

theorem lt_of_blk {w : World} {g : Nat} {o : Obj} (h : w.heap[g]? = some o) : g < w.heap.size := (Array.getElem?_eq_some_iff.1 h).1

set_option maxHeartbeats 400000 in
theorem cloneInts_nil (w : World) : Calls Try.prog 24 #[.slice none 0 0] w fun e w' => e = .returned (.slice none 0 0) ∧ w' = w := by
  have q := q30
  go_enter Try.func24, Try.ntmps24
  go_wp2
  go_ret
  exact ⟨rfl, rfl⟩

set_option maxHeartbeats 400000 in
theorem cloneInts_some (x : Addr) (n c : Nat) (vs : List Value) (h1 : ∀ v ∈ vs, v.oneCell' = true) (hn : n ≤ 1048576) (w : World) (h : Rd w (some x) n c vs) :
    Calls Try.prog 24 #[.slice (some x) n c] w fun e w' => e = .returned (.slice (some ⟨w.heap.size, 0, none⟩) n n) ∧ Below w.heap.size w w' ∧ w'.heap[w.heap.size]? = some (.cells vs.toArray 2 (0, 0)) := by
  have q := q30
  obtain ⟨i0, hi, hz0, hz1, hz2⟩ := info_parts Try.info2
  have hmk : ∀ W : World, (Instr.makeSlice 30 (.int .i64 n) (.int .i64 n)).run Try.prog W = .ok (.slice (some ⟨W.heap.size, 0, none⟩) n n) (W.alloc (.cells (madeCells #[(.int .i64 0)] n) 2)) := by
    intro W
    have := run_make (P := Try.prog) W 30 2 i0 (.int .i64 0) Try.underlying30 hi hz0 .i64 .i64 n n (by omega) (Int.le_refl _) (by rw [hz2]; omega) (by omega)
    simpa [hz1, Value.cells] using this
  have hlen := h.len
  have hsz : (Try.prog.info? 2).map (·.size) = some 1 := by kernel_rfl
  have hrow : (w.alloc (.cells (madeCells #[(.int .i64 0)] n) 2)).heap[w.heap.size]? = some (.cells (madeCells #[(.int .i64 0)] n).toList.toArray 2 (0, 0)) := by simpa using heap_alloc_new w (.cells (madeCells #[(.int .i64 0)] n) 2)
  have hbel : Below w.heap.size w (w.alloc (.cells (madeCells #[(.int .i64 0)] n) 2)) := (Below.refl _ _).alloc (Nat.le_refl _) _
  have hR := h.later hbel
  have HH := (show Hid (_) from And.intro hlen (And.intro hrow (And.intro hbel hR)))
  clear hlen hrow hbel hR h
  go_enter Try.func24, Try.ntmps24
  go_wp2_with (refine wpList_copy_splice rfl (.tmp 9) (.tmp 10) 30 30 rfl 2 Try.underlying30 hsz _ _ _ _ _ _ rfl rfl w.heap.size 0 (madeCells #[(.int .i64 0)] n).toList 2 HH.out.2.1 vs (by have := HH.out.1; simp [this]) (fun _ => ⟨rfl, x, rfl, fun j v hj => (HH.out.2.2.2.cell x rfl j (by have := (List.getElem?_eq_some_iff.1 hj).1; have := HH.out.1; omega)).trans hj⟩) (by have := HH.out.1; simp [this, size_madeCells]) h1 w.heap.size w HH.out.2.2.1 (Nat.le_refl _) ?_; intro w2 hg2 hb2)
  go_ret
  refine ⟨rfl, hb2, ?_⟩
  rw [hg2.out]
  have : splice (madeCells #[(.int .i64 0)] n).toList 0 vs = vs := by
    have h0 := HH.out.1
    simp [splice, h0, size_madeCells]
  rw [this]

theorem cloneInts_any (a : Option Addr) (n c : Nat) (vs : List Value) (h1 : ∀ v ∈ vs, v.oneCell' = true) (hn : n ≤ 1048576) (w : World) (h : Rd w a n c vs) :
    Calls Try.prog 24 #[.slice a n c] w fun e w' => ∃ a', e = .returned (.slice a' n n) ∧ a'.isNone = a.isNone ∧ Below w.heap.size w w' ∧ Cp w' w.heap.size w'.heap.size 2 a' vs := by
  match a, h with
  | none, h =>
    obtain ⟨rfl, rfl⟩ := h.nil rfl
    refine (cloneInts_nil w).mono ?_
    rintro e w' ⟨rfl, rfl⟩
    exact ⟨none, rfl, rfl, Below.refl _ _, fun _ => List.eq_nil_of_length_eq_zero h.len, fun x hx => by cases hx⟩
  | some x, h =>
    refine (cloneInts_some x n c vs h1 hn w h).mono ?_
    rintro e w' ⟨rfl, hb, hg⟩
    exact ⟨_, rfl, rfl, hb, fun h => (by cases h), fun x hx => ⟨_, (Option.some.inj hx).symm, Nat.le_refl _, lt_of_blk hg, hg⟩⟩

set_option maxHeartbeats 400000 in
theorem cloneU_nil (w : World) : Calls Try.prog 26 #[.slice none 0 0] w fun e w' => e = .returned (.slice none 0 0) ∧ w' = w := by
  have q := q32
  go_enter Try.func26, Try.ntmps26
  go_wp2
  go_ret
  exact ⟨rfl, rfl⟩

set_option maxHeartbeats 400000 in
theorem cloneU_some (x : Addr) (n c : Nat) (vs : List Value) (h1 : ∀ v ∈ vs, v.oneCell' = true) (hn : n ≤ 1048576) (w : World) (h : Rd w (some x) n c vs) :
    Calls Try.prog 26 #[.slice (some x) n c] w fun e w' => e = .returned (.slice (some ⟨w.heap.size, 0, none⟩) n n) ∧ Below w.heap.size w w' ∧ w'.heap[w.heap.size]? = some (.cells vs.toArray 33 (0, 0)) := by
  have q := q32
  obtain ⟨i0, hi, hz0, hz1, hz2⟩ := info_parts Try.info33
  have hmk : ∀ W : World, (Instr.makeSlice 32 (.int .i64 n) (.int .i64 n)).run Try.prog W = .ok (.slice (some ⟨W.heap.size, 0, none⟩) n n) (W.alloc (.cells (madeCells #[(.int .u64 0)] n) 33)) := by
    intro W
    have := run_make (P := Try.prog) W 32 33 i0 (.int .u64 0) Try.underlying32 hi hz0 .i64 .i64 n n (by omega) (Int.le_refl _) (by rw [hz2]; omega) (by omega)
    simpa [hz1, Value.cells] using this
  have hlen := h.len
  have hsz : (Try.prog.info? 33).map (·.size) = some 1 := by kernel_rfl
  have hrow : (w.alloc (.cells (madeCells #[(.int .u64 0)] n) 33)).heap[w.heap.size]? = some (.cells (madeCells #[(.int .u64 0)] n).toList.toArray 33 (0, 0)) := by simpa using heap_alloc_new w (.cells (madeCells #[(.int .u64 0)] n) 33)
  have hbel : Below w.heap.size w (w.alloc (.cells (madeCells #[(.int .u64 0)] n) 33)) := (Below.refl _ _).alloc (Nat.le_refl _) _
  have hR := h.later hbel
  have HH := (show Hid (_) from And.intro hlen (And.intro hrow (And.intro hbel hR)))
  clear hlen hrow hbel hR h
  go_enter Try.func26, Try.ntmps26
  go_wp2_with (refine wpList_copy_splice rfl (.tmp 9) (.tmp 10) 32 32 rfl 33 Try.underlying32 hsz _ _ _ _ _ _ rfl rfl w.heap.size 0 (madeCells #[(.int .u64 0)] n).toList 33 HH.out.2.1 vs (by have := HH.out.1; simp [this]) (fun _ => ⟨rfl, x, rfl, fun j v hj => (HH.out.2.2.2.cell x rfl j (by have := (List.getElem?_eq_some_iff.1 hj).1; have := HH.out.1; omega)).trans hj⟩) (by have := HH.out.1; simp [this, size_madeCells]) h1 w.heap.size w HH.out.2.2.1 (Nat.le_refl _) ?_; intro w2 hg2 hb2)
  go_ret
  refine ⟨rfl, hb2, ?_⟩
  rw [hg2.out]
  have : splice (madeCells #[(.int .u64 0)] n).toList 0 vs = vs := by
    have h0 := HH.out.1
    simp [splice, h0, size_madeCells]
  rw [this]

theorem cloneU_any (a : Option Addr) (n c : Nat) (vs : List Value) (h1 : ∀ v ∈ vs, v.oneCell' = true) (hn : n ≤ 1048576) (w : World) (h : Rd w a n c vs) :
    Calls Try.prog 26 #[.slice a n c] w fun e w' => ∃ a', e = .returned (.slice a' n n) ∧ a'.isNone = a.isNone ∧ Below w.heap.size w w' ∧ Cp w' w.heap.size w'.heap.size 33 a' vs := by
  match a, h with
  | none, h =>
    obtain ⟨rfl, rfl⟩ := h.nil rfl
    refine (cloneU_nil w).mono ?_
    rintro e w' ⟨rfl, rfl⟩
    exact ⟨none, rfl, rfl, Below.refl _ _, fun _ => List.eq_nil_of_length_eq_zero h.len, fun x hx => by cases hx⟩
  | some x, h =>
    refine (cloneU_some x n c vs h1 hn w h).mono ?_
    rintro e w' ⟨rfl, hb, hg⟩
    exact ⟨_, rfl, rfl, hb, fun h => (by cases h), fun x hx => ⟨_, (Option.some.inj hx).symm, Nat.le_refl _, lt_of_blk hg, hg⟩⟩

end Go.Proofs.Qxb6602784a
