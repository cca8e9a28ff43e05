import Derived.Test.Qxb6602638aWk
namespace Go.Proofs.Qxb6602638a
open Go.RowKit

/-- b1Same at two empty slices, both nil or both not -/
theorem same_zero (a1 a2 : Option Addr) (c1 c2 : Nat) (hn : a1.isNone = a2.isNone) (w : World) :
    Calls Try.prog 19 #[.slice a1 0 c1, .slice a2 0 c2] w fun e w' => e = .returned (.bool true) ∧ w' = w := by
  have q22 : ∀ (w : World) (a : Option Addr) (n c n' c' : Nat), (binOp .eql 22 (.slice a n c) (.slice none n' c')).run Try.prog w = .ok (.bool a.isNone) w := fun w a n c n' c' => Lib.run_eql_slice_nil w _ _ a n c n' c' Try.underlying22
  go_enter Try.func19, Try.ntmps19
  go_wp2
  refine wp_loop_rounds 1 ?_
  rw [rounds_succ]
  go_wp2
  go_ret
  exact ⟨rfl, rfl⟩

set_option maxHeartbeats 400000 in
theorem same_pos (b1 o1 b2 o2 n c1 c2 : Nat) (zs : List Int) (hn : n ≤ 1048576) (w : World) (h1 : ∀ i, i < n → w.cell? ⟨b1, o1 + i, none⟩ = some (.int .u8 (zs.getD i 0)))
    (h2 : ∀ i, i < n → w.cell? ⟨b2, o2 + i, none⟩ = some (.int .u8 (zs.getD i 0))) :
    Calls Try.prog 19 #[.slice (some ⟨b1, o1, none⟩) n c1, .slice (some ⟨b2, o2, none⟩) n c2] w fun e w' => e = .returned (.bool true) ∧ ∃ m, w' = w.drewN m := by
  have q22 : ∀ (w : World) (a : Option Addr) (n c n' c' : Nat), (binOp .eql 22 (.slice a n c) (.slice none n' c')).run Try.prog w = .ok (.bool a.isNone) w := fun w a n c n' c' => Lib.run_eql_slice_nil w _ _ a n c n' c' Try.underlying22
  have H1 := (show Hid (∀ i, i < n → w.cell? ⟨b1, o1 + i, none⟩ = some (.int .u8 (zs.getD i 0))) from h1)
  have H2 := (show Hid (∀ i, i < n → w.cell? ⟨b2, o2 + i, none⟩ = some (.int .u8 (zs.getD i 0))) from h2)
  clear h1 h2
  go_enter Try.func19, Try.ntmps19
  go_wp2
  go_loopw [5] (fun i wr => ∃ k m : Nat, k ≤ n ∧ i = .int .i64 k ∧ wr = w.drewN m) (fun i _ => n - (intOf i).toNat)
  case atStart => exact ⟨0, 0, Nat.zero_le _, rfl, rfl⟩
  case round =>
    obtain ⟨k, m, hk, rfl, rfl⟩ := hrel
    by_cases hlt : k < n
    · have hc1 := H1.out k hlt
      have hc2 := H2.out k hlt
      go_wp2
      go_quiet (fail)
      go_wp2
      go_roundw
      case rel => exact ⟨k + 1, m + nq, by omega, by go_num, rfl⟩
      case measure => simp [intOf]; omega
    · go_wp2
      go_ret
      exact ⟨rfl, m, rfl⟩

/-- b1Same at two slices that read alike -/
theorem same_any (a1 a2 : Option Addr) (n c1 c2 : Nat) (zs : List Int) (hn : n ≤ 1048576) (w : World) (h1 : Sl w a1 n zs) (h2 : Sl w a2 n zs) (hnn : a1.isNone = a2.isNone) :
    Calls Try.prog 19 #[.slice a1 n c1, .slice a2 n c2] w fun e w' => e = .returned (.bool true) ∧ ∃ m, w' = w.drewN m := by
  by_cases h0 : n = 0
  · subst h0
    refine (same_zero a1 a2 c1 c2 hnn w).mono ?_
    rintro e w' ⟨rfl, rfl⟩
    exact ⟨rfl, 0, rfl⟩
  · match a1, a2, h1, h2 with
    | none, _, h1, _ => exact absurd (h1.2.1 rfl) h0
    | some x, none, _, h2 => exact absurd (h2.2.1 rfl) h0
    | some ⟨b1, o1, s1⟩, some ⟨b2, o2, s2⟩, h1, h2 =>
      have e1 : s1 = none := by simpa [Addr.add] using World.cell?_spot (h1.2.2 _ rfl 0 (by omega))
      have e2 : s2 = none := by simpa [Addr.add] using World.cell?_spot (h2.2.2 _ rfl 0 (by omega))
      subst e1 e2
      exact same_pos b1 o1 b2 o2 n c1 c2 zs hn w (fun i hi => by simpa [Addr.add_lit] using h1.2.2 _ rfl i hi) (fun i hi => by simpa [Addr.add_lit] using h2.2.2 _ rfl i hi)

/-- a Scanner lies at block B -/
def Scn (w : World) (B : Nat) (keep : Bool) (a1 : Option Addr) (n1 c1 : Nat) (one : Bool) (st : Int) (a5 : Option Addr) (n5 c5 : Nat) (key : Bool) (hex : Int) (rest : ByteArray) : Prop :=
  w.heap[B]? = some (.cells #[.bool keep, .slice a1 n1 c1, .bool one, .int .u8 st, .slice a5 n5 c5, .bool key, .int .i64 hex, .string rest] 38 (0, 0))

/-- only block B has turned -/
structure Upd (B : Nat) (w w' : World) : Prop where
  os : w'.os = w.os
  tape : w'.tape = w.tape
  output : w'.output = w.output
  size : w'.heap.size = w.heap.size
  block : ∀ k, k ≠ B → w'.heap[k]? = w.heap[k]?

variable {keep : Bool} {a1 : Option Addr} {n1 c1 : Nat} {one : Bool} {st : Int} {a5 : Option Addr} {n5 c5 : Nat} {key : Bool} {hex : Int} {rest : ByteArray}

theorem Scn.cell {w : World} {B : Nat} (h : Scn w B keep a1 n1 c1 one st a5 n5 c5 key hex rest) (j : Nat) :
    w.cell? ⟨B, j, none⟩ = #[.bool keep, .slice a1 n1 c1, .bool one, .int .u8 st, .slice a5 n5 c5, .bool key, .int .i64 hex, .string rest][j]? :=
  cell_of_row w B j _ 38 (0, 0) h

theorem make_any (w : World) :
    Calls Try.prog 9 #[.bool keep, .slice a1 n1 c1, .bool one, .int .u8 st, .slice a5 n5 c5, .bool key, .int .i64 hex, .string rest] w fun e w' => e = .returned (.pointer (some ⟨w.heap.size, 0, none⟩)) ∧ Below w.heap.size w w' ∧ w'.heap.size = w.heap.size + 1 ∧ Scn w' w.heap.size keep a1 n1 c1 one st a5 n5 c5 key hex rest := by
  go_enter Try.func9, Try.ntmps9
  go_wp2
  go_ret
  exact ⟨rfl, (Below.refl _ _).alloc (Nat.le_refl _) _, by simp, heap_alloc_new _ _⟩

theorem state_any (w : World) (B : Nat) (h : Scn w B keep a1 n1 c1 one st a5 n5 c5 key hex rest) :
    Calls Try.prog 11 #[.pointer (some ⟨B, 0, none⟩)] w fun e w' => e = .returned (.int .u8 st) ∧ w' = w := by
  have hc : w.cell? ⟨B, 3, none⟩ = some (.int .u8 st) := h.cell 3
  clear h
  go_enter Try.func11, Try.ntmps11
  go_wp2
  go_ret
  exact ⟨rfl, rfl⟩

theorem key_any (w : World) (B : Nat) (h : Scn w B keep a1 n1 c1 one st a5 n5 c5 key hex rest) :
    Calls Try.prog 12 #[.pointer (some ⟨B, 0, none⟩)] w fun e w' => e = .returned (.bool key) ∧ w' = w := by
  have hc : w.cell? ⟨B, 5, none⟩ = some (.bool key) := h.cell 5
  clear h
  go_enter Try.func12, Try.ntmps12
  go_wp2
  go_ret
  exact ⟨rfl, rfl⟩

theorem Scn.set {w : World} {B : Nat} (h : Scn w B keep a1 n1 c1 one st a5 n5 c5 key hex rest) (st' : Int) :
    Scn (w.setCell ⟨B, 3, none⟩ (.int .u8 st')) B keep a1 n1 c1 one st' a5 n5 c5 key hex rest ∧ Upd B w (w.setCell ⟨B, 3, none⟩ (.int .u8 st')) :=
  ⟨heap_setCell_same w B 3 _ 38 _ h, rfl, rfl, rfl, by simp, fun k hk => heap_setCell_other w ⟨B, 3, none⟩ k _ hk⟩

theorem int_any (w : World) (B : Nat) (c st' : Int) (hc : ((c == 48) = true ∧ st' = 11) ∨ ((c == 48) = false ∧ st' = 12)) (h : Scn w B keep a1 n1 c1 one st a5 n5 c5 key hex rest) :
    Calls Try.prog 15 #[.pointer (some ⟨B, 0, none⟩), .int .u8 c] w fun e w' => e = .returned (.tuple #[]) ∧ Scn w' B keep a1 n1 c1 one st' a5 n5 c5 key hex rest ∧ Upd B w w' := by
  have h3 : w.cell? ⟨B, 3, none⟩ = some (.int .u8 st) := h.cell 3
  have hf : w.frozen? ⟨B, 3, none⟩ = false := frozen_of_row w B 3 _ 38 h
  have HS := (show Hid (_) from h.set st')
  clear h
  rcases hc with ⟨hc, rfl⟩ | ⟨hc, rfl⟩
  all_goals
    go_enter Try.func15, Try.ntmps15
    go_wp2
    go_end0
    exact ⟨rfl, HS.out⟩

theorem Scn.drew {w : World} {B : Nat} (h : Scn w B keep a1 n1 c1 one st a5 n5 c5 key hex rest) (m : Nat) : Scn (w.drewN m) B keep a1 n1 c1 one st a5 n5 c5 key hex rest := by
  unfold Scn at h ⊢; simpa using h

theorem Sl.drew {w : World} {a : Option Addr} {n : Nat} {zs : List Int} (h : Sl w a n zs) (m : Nat) : Sl (w.drewN m) a n zs :=
  ⟨h.1, h.2.1, fun x hx i hi => by simpa using h.2.2 x hx i hi⟩

set_option maxHeartbeats 400000 in
theorem untouched_any (w : World) (B : Nat) (h : Scn w B keep a1 n1 c1 one st a5 n5 c5 key hex rest) (b1 b5 : Option Addr) (d1 d5 : Nat) (z1 z5 : List Int) (hn1 : n1 ≤ 1048576) (hn5 : n5 ≤ 1048576)
    (s1 : Sl w a1 n1 z1) (s2 : Sl w b1 n1 z1) (s3 : Sl w a5 n5 z5) (s4 : Sl w b5 n5 z5) (e1 : a1.isNone = b1.isNone) (e5 : a5.isNone = b5.isNone) :
    Calls Try.prog 13 #[.pointer (some ⟨B, 0, none⟩), .bool keep, .slice b1 n1 d1, .bool one, .slice b5 n5 d5, .int .i64 hex, .string rest] w fun e w' => e = .returned (.bool true) ∧ ∃ m, w' = w.drewN m := by
  have h0 : w.cell? ⟨B, 0, none⟩ = some (.bool keep) := h.cell 0
  have h1 : w.cell? ⟨B, 1, none⟩ = some (.slice a1 n1 c1) := h.cell 1
  have h2 : w.cell? ⟨B, 2, none⟩ = some (.bool one) := h.cell 2
  have h4 : w.cell? ⟨B, 4, none⟩ = some (.slice a5 n5 c5) := h.cell 4
  have h6 : w.cell? ⟨B, 6, none⟩ = some (.int .i64 hex) := h.cell 6
  have h7 : w.cell? ⟨B, 7, none⟩ = some (.string rest) := h.cell 7
  have H1 := (show Hid (_) from same_any a1 b1 n1 c1 d1 z1 hn1 w s1 s2 e1)
  have H2 := (show Hid (_) from fun m => same_any a5 b5 n5 c5 d5 z5 hn5 (w.drewN m) (s3.drew m) (s4.drew m) e5)
  clear h s1 s2 s3 s4 e1 e5
  go_enter Try.func13, Try.ntmps13
  go_wp2_with fail
  refine Calls.mono H1.out ?_
  rintro e w' ⟨rfl, m1, rfl⟩
  go_wp2_with (first | (go_at_call 19; refine Calls.mono (H2.out m1) ?_; rintro e w' ⟨rfl, m2, rfl⟩) | go_in)
  go_ret
  exact ⟨rfl, _, rfl⟩

end Go.Proofs.Qxb6602638a
