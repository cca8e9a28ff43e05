import Derived.Test.Qxb6602638aRows
import Derived.WalkKit
import Derived.WalkSpells
import Derived.WalkLawsBesides
import Derived.Handy
import Derived.Deep.QuietTactic
import Derived.BigQuiet
namespace Go.Proofs.Qxb6602638a
open Go.RowKit

theorem Try.info5 : (Try.prog.info? 5).map (fun i => (i.zero, i.size, i.bytes)) = some (some (.int .u8 0), 1, 1) := by kernel_rfl

/-- what the copy's row holds when k of the n bytes are copied -/
def cl (zs : List Int) (n k : Nat) : List Value := (zs.take k).map (Value.int .u8) ++ List.replicate (n - k) (.int .u8 0)

theorem cl_zero (zs : List Int) (n : Nat) : cl zs n 0 = List.replicate n (.int .u8 0) := by simp [cl]
theorem cl_succ (zs : List Int) (n k : Nat) (h : k < n) (hz : zs.length = n) : (cl zs n k).set k (.int .u8 (zs.getD k 0)) = cl zs n (k + 1) := by
  obtain ⟨m, rfl⟩ : ∃ m, n = k + 1 + m := ⟨n - (k + 1), by omega⟩
  unfold cl
  have e1 : k + 1 + m - k = m + 1 := by omega
  have e2 : k + 1 + m - (k + 1) = m := by omega
  have hl : ((zs.take k).map (Value.int .u8)).length = k := by simp; omega
  rw [e1, e2, List.replicate_succ, List.set_append_right _ _ (by omega), hl, List.take_succ_eq_append_getElem (by omega), List.map_append]
  simp [List.getD, show k < zs.length by omega]

set_option maxHeartbeats 400000 in
theorem clone_nil (w : World) : Calls Try.prog 8 #[.slice none 0 0] w fun e w' => e = .returned (.slice none 0 0) ∧ w' = w := by
  have q22 : ∀ (w : World) (a : Option Addr) (n c n' c' : Nat), (binOp .eql 22 (.slice a n c) (.slice none n' c')).run Try.prog w = .ok (.bool a.isNone) w := fun w a n c n' c' => Lib.run_eql_slice_nil w _ _ a n c n' c' Try.underlying22
  go_enter Try.func8, Try.ntmps8
  go_wp2
  go_ret
  exact ⟨rfl, rfl⟩

set_option maxHeartbeats 400000 in
theorem clone_pos (b off n c : Nat) (zs : List Int) (hz : zs.length = n) (hn : n ≤ 1048576) (w : World) (hcell : ∀ i, i < n → w.cell? ⟨b, off + i, none⟩ = some (.int .u8 (zs.getD i 0))) :
    Calls Try.prog 8 #[.slice (some ⟨b, off, none⟩) n c] w fun e w' => e = .returned (.slice (some ⟨w.heap.size, 0, none⟩) n n) ∧ Below w.heap.size w w' ∧ w'.ownsRow w.heap.size 5 1 (.slice (some ⟨w.heap.size, 0, none⟩) n n) n (zs.map (Value.int .u8)) := by
  have q22 : ∀ (w : World) (a : Option Addr) (n c n' c' : Nat), (binOp .eql 22 (.slice a n c) (.slice none n' c')).run Try.prog w = .ok (.bool a.isNone) w := fun w a n c n' c' => Lib.run_eql_slice_nil w _ _ a n c n' c' Try.underlying22
  obtain ⟨i0, hi, hz0, hz1, hz2⟩ := info_parts Try.info5
  have HC := (show Hid (∀ i, i < n → w.cell? ⟨b, off + i, none⟩ = some (.int .u8 (zs.getD i 0))) from hcell)
  have HL : Hid (zs.length = n) := hz
  clear hcell hz
  go_enter Try.func8, Try.ntmps8
  go_wp2_with (at_make; refine wpList_make_full _ rfl _ _ 22 rfl w.heap.size 5 i0 (.int .u8 0) 1 Try.underlying22 hi hz0 hz1 _ _ _ _ n rfl rfl (by simp) (by simp) (by rw [hz2]; omega) (by unfold maxLen; omega) (Nat.le_refl _) ?_; intro w1 ho1 hg1)
  have ho : w1.ownsRow w.heap.size 5 1 (.slice (some ⟨w.heap.size, 0, none⟩) n n) n (cl zs n 0) := by
    rw [cl_zero, ← toList_madeCells_one]; simpa [Value.cells] using ho1
  have hb1 : Below w.heap.size w w1 := (Below.refl _ _).grown hg1 (Nat.le_refl _) (fun k h => by cases h)
  clear ho1 hg1
  go_loopw [4] (fun i wr => ∃ k : Nat, k ≤ n ∧ i = .int .i64 k ∧ wr.ownsRow w.heap.size 5 1 (.slice (some ⟨w.heap.size, 0, none⟩) n n) n (cl zs n k) ∧ Below w.heap.size w wr) (fun i _ => n - (intOf i).toNat)
  case atStart => exact ⟨0, Nat.zero_le _, rfl, ho, hb1⟩
  case round =>
    clear ho hb1
    obtain ⟨k, hk, rfl, hor, hbr⟩ := hrel
    by_cases hlt : k < n
    · have hc := HC.out k hlt
      have hcr : wr.cell? ⟨b, off + k, none⟩ = some (.int .u8 (zs.getD k 0)) := (hbr.cell (by exact World.block_lt_of_cell? w _ hc)).trans hc
      clear hc
      have hfr := hor.frozenAt k
      have hcw := hor.cellAt k (by omega)
      have hst := hor.stored k (.int .u8 (zs.getD k 0))
      rw [cl_succ zs n k hlt HL.out] at hst
      obtain ⟨v0, hv0⟩ : ∃ v, wr.cell? ⟨w.heap.size, k, none⟩ = some v := by
        rw [hcw]; have : k < (cl zs n k).length := by rw [hor.1]; omega
        exact ⟨_, List.getElem?_eq_getElem this⟩
      have hbs := hbr.setCell (p := ⟨w.heap.size, k, none⟩) (Nat.le_refl _) (.int .u8 (zs.getD k 0))
      have HR := (show Hid (_ ∧ _) from ⟨hst.1, hbs⟩)
      clear hcw hst hbs hor hbr
      go_wp2
      go_roundw
      case rel => exact ⟨k + 1, by omega, by go_num, HR.out.1, HR.out.2⟩
      case measure => simp [intOf]; omega
    · obtain rfl : k = n := by omega
      have he : cl zs k k = zs.map (Value.int .u8) := by simp [cl, List.take_of_length_le (show zs.length ≤ k by have := HL.out; omega)]
      rw [he] at hor
      have HR := (show Hid (_ ∧ _) from ⟨hbr, hor⟩)
      clear he hor hbr
      go_wp2
      go_ret
      exact ⟨rfl, HR.out⟩

/-- a slice value reads as the bytes zs -/
def Sl (w : World) (a : Option Addr) (n : Nat) (zs : List Int) : Prop :=
  zs.length = n ∧ (a = none → n = 0) ∧ ∀ x, a = some x → ∀ i, i < n → w.cell? (x.add i) = some (.int .u8 (zs.getD i 0))

theorem Sl.later {w w' : World} {a : Option Addr} {n : Nat} {zs : List Int} (h : Sl w a n zs) (hb : Below w.heap.size w w') : Sl w' a n zs :=
  ⟨h.1, h.2.1, fun x hx i hi => cell_later hb (h.2.2 x hx i hi)⟩

theorem Sl.of_owns {w : World} {base g n c : Nat} {zs : List Int} (hz : zs.length = n) (h : w.ownsRow base 5 1 (.slice (some ⟨g, 0, none⟩) n c) n (zs.map (Value.int .u8))) : Sl w (some ⟨g, 0, none⟩) n zs := by
  refine ⟨hz, fun h => (by cases h), fun x hx i hi => ?_⟩
  obtain rfl := Option.some.inj hx
  have := h.cellAt i (by omega)
  simp only [Addr.add_lit, Nat.zero_add, this]
  simp [List.getD, show i < zs.length by omega]

/-- an empty slice that is not nil -/
theorem clone_zero (x : Addr) (c : Nat) (w : World) :
    Calls Try.prog 8 #[.slice (some x) 0 c] w fun e w' => e = .returned (.slice (some ⟨w.heap.size, 0, none⟩) 0 0) ∧ Below w.heap.size w w' := by
  have q22 : ∀ (w : World) (a : Option Addr) (n c n' c' : Nat), (binOp .eql 22 (.slice a n c) (.slice none n' c')).run Try.prog w = .ok (.bool a.isNone) w := fun w a n c n' c' => Lib.run_eql_slice_nil w _ _ a n c n' c' Try.underlying22
  obtain ⟨i0, hi, hz0, hz1, hz2⟩ := info_parts Try.info5
  go_enter Try.func8, Try.ntmps8
  go_wp2_with (at_make; refine wpList_make_full _ rfl _ _ 22 rfl w.heap.size 5 i0 (.int .u8 0) 1 Try.underlying22 hi hz0 hz1 _ _ _ _ 0 rfl rfl (by simp) (by simp) (by rw [hz2]; omega) (by unfold maxLen; omega) (Nat.le_refl _) ?_; intro w1 ho1 hg1)
  have hb1 : Below w.heap.size w w1 := (Below.refl _ _).grown hg1 (Nat.le_refl _) (fun k h => by cases h)
  clear ho1 hg1
  refine wp_loop_rounds 1 ?_
  rw [rounds_succ]
  go_wp2
  go_ret
  exact ⟨rfl, hb1⟩

/-- b1Clone at whatever slice of bytes -/
theorem clone_any (a : Option Addr) (n c : Nat) (zs : List Int) (hc : a = none → c = 0) (hn : n ≤ 1048576) (w : World) (h : Sl w a n zs) :
    Calls Try.prog 8 #[.slice a n c] w fun e w' => ∃ a' c', e = .returned (.slice a' n c') ∧ (a' = none → c' = 0) ∧ a'.isNone = a.isNone ∧ Below w.heap.size w w' ∧ Sl w' a' n zs ∧ ∀ x, a' = some x → w.heap.size ≤ x.block := by
  obtain ⟨h1, h2, h3⟩ := h
  match a, h2, h3, hc with
  | none, h2, h3, hc =>
    obtain rfl := h2 rfl
    obtain rfl := hc rfl
    refine (clone_nil w).mono ?_
    rintro e w' ⟨rfl, rfl⟩
    exact ⟨none, 0, rfl, fun _ => rfl, rfl, Below.refl _ _, ⟨h1, fun _ => rfl, fun x hx => by cases hx⟩, fun x hx => by cases hx⟩
  | some x, h2, h3, hc =>
    by_cases h0 : n = 0
    · subst h0
      refine (clone_zero x c w).mono ?_
      rintro e w' ⟨rfl, hb⟩
      exact ⟨_, _, rfl, (fun h => by cases h), rfl, hb, ⟨h1, fun _ => rfl, fun x hx i hi => by omega⟩, fun x hx => by obtain rfl := Option.some.inj hx; exact Nat.le_refl _⟩
    · obtain ⟨b, off, sp⟩ := x
      have hsp : sp = none := by simpa [Addr.add] using World.cell?_spot (h3 _ rfl 0 (by omega))
      subst hsp
      refine (clone_pos b off n c zs h1 hn w (fun i hi => by simpa [Addr.add_lit] using h3 _ rfl i hi)).mono ?_
      rintro e w' ⟨rfl, hb, ho⟩
      exact ⟨_, _, rfl, (fun h => by cases h), rfl, hb, Sl.of_owns h1 ho, fun x hx => by obtain rfl := Option.some.inj hx; exact Nat.le_refl _⟩

end Go.Proofs.Qxb6602638a
