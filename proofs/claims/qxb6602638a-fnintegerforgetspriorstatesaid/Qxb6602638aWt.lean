import Derived.Test.Qxb6602638aWs
namespace Go.Proofs.Qxb6602638a
open Go.RowKit

variable {a0 : Bool} {a1 : Option Addr} {n1 c1 : Nat} {a2 : Bool} {a3 a4 : Int} {a5 : Option Addr} {n5 c5 : Nat} {a6 : Bool} {a7 : Int} {a8 : ByteArray} {a9 a10 : Int}

theorem zz_yes (w : World) (h : n1 + n5 + a8.size ≤ 1048576) :
    Calls Try.prog 14 #[.bool a0, .slice a1 n1 c1, .bool a2, .int .u8 a3, .int .u8 a4, .slice a5 n5 c5, .bool a6, .int .i64 a7, .string a8, .int .u8 a9, .int .u8 a10] w fun e w' => e = .returned (.bool true) ∧ w' = w := by
  go_enter Try.func14, Try.ntmps14
  go_wp2
  go_ret
  exact ⟨rfl, rfl⟩

set_option maxHeartbeats 400000 in
theorem zz_no (w : World) (h : ¬ n1 + n5 + a8.size ≤ 1048576) :
    Calls Try.prog 14 #[.bool a0, .slice a1 n1 c1, .bool a2, .int .u8 a3, .int .u8 a4, .slice a5 n5 c5, .bool a6, .int .i64 a7, .string a8, .int .u8 a9, .int .u8 a10] w fun e w' => e = .returned (.bool false) ∧ w' = w := by
  by_cases h1 : n1 ≤ 1048576
  · by_cases h2 : n5 ≤ 1048576
    · by_cases h3 : n1 + n5 ≤ 1048576
      · by_cases h4 : a8.size ≤ 1048576
        all_goals
          go_enter Try.func14, Try.ntmps14
          go_wp2
          go_ret
          exact ⟨rfl, rfl⟩
      · go_enter Try.func14, Try.ntmps14
        go_wp2
        go_ret
        exact ⟨rfl, rfl⟩
    · go_enter Try.func14, Try.ntmps14
      go_wp2
      go_ret
      exact ⟨rfl, rfl⟩
  · go_enter Try.func14, Try.ntmps14
    go_wp2
    go_ret
    exact ⟨rfl, rfl⟩

theorem top_no (w : World) (h : ¬ n1 + n5 + a8.size ≤ 1048576) :
    Calls Try.prog 4 #[.bool a0, .slice a1 n1 c1, .bool a2, .int .u8 a3, .int .u8 a4, .slice a5 n5 c5, .bool a6, .int .i64 a7, .string a8, .int .u8 a9, .int .u8 a10] w fun e w' => e = .returned (.bool true) ∧ w' = w := by
  go_enter Try.func4, Try.ntmps4
  go_wp2_with (go_at_call 14; refine (zz_no _ h).mono ?_; rintro e w' ⟨rfl, rfl⟩)
  go_ret
  exact ⟨rfl, rfl⟩

set_option maxHeartbeats 400000 in
theorem top_nodigit (w : World) (h : n1 + n5 + a8.size ≤ 1048576) (hd : a9 < 48 ∨ 57 < a9 ∨ a10 < 48 ∨ 57 < a10) :
    Calls Try.prog 4 #[.bool a0, .slice a1 n1 c1, .bool a2, .int .u8 a3, .int .u8 a4, .slice a5 n5 c5, .bool a6, .int .i64 a7, .string a8, .int .u8 a9, .int .u8 a10] w fun e w' => e = .returned (.bool true) ∧ w' = w := by
  have g1 : n1 ≤ 1048576 := by omega
  have g2 : n5 ≤ 1048576 := by omega
  have g3 : a8.size ≤ 1048576 := by omega
  rcases (show a9 < 48 ∨ (48 ≤ a9 ∧ 57 < a9) ∨ (48 ≤ a9 ∧ a9 ≤ 57 ∧ a10 < 48) ∨ (48 ≤ a9 ∧ a9 ≤ 57 ∧ 48 ≤ a10 ∧ 57 < a10) by omega) with k | ⟨k1, k2⟩ | ⟨k1, k2, k3⟩ | ⟨k1, k2, k3, k4⟩
  all_goals
    clear hd
    go_enter Try.func4, Try.ntmps4
    go_wp2_with (go_at_call 14; refine (zz_yes _ h).mono ?_; rintro e w' ⟨rfl, rfl⟩)
    go_ret
    exact ⟨rfl, rfl⟩

end Go.Proofs.Qxb6602638a
