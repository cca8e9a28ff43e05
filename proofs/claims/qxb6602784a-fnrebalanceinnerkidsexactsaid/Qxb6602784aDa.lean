import Derived.Test.Qxb6602784aBm
namespace Go.Proofs.Qxb6602784a
open Go.RowKit
set_option linter.unusedVariables false
set_option linter.unusedSimpArgs false

set_option maxHeartbeats 400000 in
theorem clonePtrs_any (a : Option Addr) (n c : Nat) (vs : List Value) (h1 : ∀ v ∈ vs, v.oneCell' = true) (hn : n ≤ 1048576) (w : World) (h : Rd w a n c vs) :
    Calls Try.prog 28 #[.slice a n c] w fun e w' => e = .returned (.slice (some ⟨w.heap.size, 0, none⟩) n n) ∧ Below w.heap.size w w' ∧ w'.heap[w.heap.size]? = some (.cells vs.toArray 40 (0, 0)) := by
  obtain ⟨i0, hi, hz0, hz1, hz2⟩ := info_parts Try.info40
  have hmk : ∀ W : World, (Instr.makeSlice 39 (.int .i64 n) (.int .i64 n)).run Try.prog W = .ok (.slice (some ⟨W.heap.size, 0, none⟩) n n) (W.alloc (.cells (madeCells #[(.pointer none)] n) 40)) := by
    intro W
    have := run_make (P := Try.prog) W 39 40 i0 (.pointer none) Try.underlying39 hi hz0 .i64 .i64 n n (by omega) (Int.le_refl _) (by rw [hz2]; omega) (by omega)
    simpa [hz1, Value.cells] using this
  have hlen := h.len
  have hsz : (Try.prog.info? 40).map (·.size) = some 1 := by kernel_rfl
  have hrow : (w.alloc (.cells (madeCells #[(.pointer none)] n) 40)).heap[w.heap.size]? = some (.cells (madeCells #[(.pointer none)] n).toList.toArray 40 (0, 0)) := by simpa using heap_alloc_new w (.cells (madeCells #[(.pointer none)] n) 40)
  have hbel : Below w.heap.size w (w.alloc (.cells (madeCells #[(.pointer none)] n) 40)) := (Below.refl _ _).alloc (Nat.le_refl _) _
  have hR := h.later hbel
  have hcond : 0 < vs.length → ∃ x, a = some x ∧ ∀ (j : Nat) (v : Value), vs[j]? = some v → (w.alloc (.cells (madeCells #[(.pointer none)] n) 40)).cell? (x.add j) = some v := by
    intro hne
    match a, hR with
    | none, hR => have := (hR.nil rfl).1; omega
    | some x, hR => exact ⟨x, rfl, fun j v hj => (hR.cell x rfl j (by have := (List.getElem?_eq_some_iff.1 hj).1; omega)).trans hj⟩
  have HH := (show Hid (_) from And.intro hlen (And.intro hrow (And.intro hbel hcond)))
  clear hlen hrow hbel hR h hcond
  go_enter Try.func28, Try.ntmps28
  go_wp2_with (refine wpList_copy_splice rfl (.tmp 7) (.tmp 8) 39 39 rfl 40 Try.underlying39 hsz _ _ _ _ _ _ rfl rfl w.heap.size 0 (madeCells #[(.pointer none)] n).toList 40 HH.out.2.1 vs (by have := HH.out.1; simp [this]) (fun hne => ⟨rfl, HH.out.2.2.2 hne⟩) (by have := HH.out.1; simp [this, size_madeCells]) h1 w.heap.size w HH.out.2.2.1 (Nat.le_refl _) ?_; intro w2 hg2 hb2)
  go_ret
  refine ⟨rfl, hb2, ?_⟩
  rw [hg2.out]
  have : splice (madeCells #[(.pointer none)] n).toList 0 vs = vs := by
    have h0 := HH.out.1
    simp [splice, h0, size_madeCells]
  rw [this]

end Go.Proofs.Qxb6602784a
