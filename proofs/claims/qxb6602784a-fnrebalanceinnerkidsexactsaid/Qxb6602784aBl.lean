import Derived.Test.Qxb6602784aBj
import Derived.Test.Qxb6602784aBk
namespace Go.Proofs.Qxb6602784a
open Go.RowKit
set_option linter.unusedVariables false
set_option linter.unusedSimpArgs false

variable {a0 : Option Addr} {n0 c0 : Nat} {a1 : Option Addr} {n1 c1 : Nat} {a2 : Option Addr} {n2 c2 : Nat} {e k : Int} {hs : List (Option Addr × Nat × Nat)} {zss : List (List Int)}

set_option maxRecDepth 100000 in
set_option maxHeartbeats 1600000 in
theorem fill_early1 (w : World) (h1 : Rd2 w a1 n1 c1 hs zss) (hb : 65536 < n0 ∨ 65536 < n1 ∨ 65536 < n2) :
    Calls Try.prog 10 #[.slice a0 n0 c0, .slice a1 n1 c1, .slice a2 n2 c2, .int .u64 e, .int .i64 k] w fun x w' => x = .returned (.bool true) ∧ w' = w := by
  have H1 := (show Hid (_) from h1)
  clear h1
  rcases (show 65536 < n0 ∨ (n0 ≤ 65536 ∧ 65536 < n1) ∨ (n0 ≤ 65536 ∧ n1 ≤ 65536 ∧ 65536 < n2) by omega) with q | ⟨q, q'⟩ | ⟨q, q', q''⟩
  all_goals
    clear hb
    go_enter Try.func10, Try.ntmps10
    go_wp2_with fail
    refine (zz42_any w a0 n0 c0 a1 n1 c1 a2 n2 c2 e k hs zss H1.out).mono ?_
    rintro x w' ⟨⟨b, rfl⟩, rfl⟩
    cases b
    all_goals
      go_wp2_with fail
      go_ret
      exact ⟨rfl, rfl⟩

set_option maxRecDepth 100000 in
set_option maxHeartbeats 3200000 in
theorem fill_early2 (w : World) (h1 : Rd2 w a1 n1 c1 hs zss) (q0 : n0 ≤ 65536) (q1 : n1 ≤ 65536) (q2 : n2 ≤ 65536) (hb : n1 < 2 ∨ n0 ≠ n1 ∨ n2 ≠ n1 ∨ k < 0 ∨ n1 ≤ k) :
    Calls Try.prog 10 #[.slice a0 n0 c0, .slice a1 n1 c1, .slice a2 n2 c2, .int .u64 e, .int .i64 k] w fun x w' => x = .returned (.bool true) ∧ w' = w := by
  have H1 := (show Hid (_) from h1)
  clear h1
  go_enter Try.func10, Try.ntmps10
  go_wp2_with fail
  refine (zz42_any w a0 n0 c0 a1 n1 c1 a2 n2 c2 e k hs zss H1.out).mono ?_
  rintro x w' ⟨⟨b, rfl⟩, rfl⟩
  cases b
  · go_wp2_with fail
    go_ret
    exact ⟨rfl, rfl⟩
  · go_wp2_with fail
    refine (listsBytes_any _ a1 n1 c1 hs zss (by omega) H1.out).mono ?_
    rintro x w' ⟨t, rfl, rfl, ht, _⟩
    by_cases hbig : 8 * n0 + 8 * n2 + t ≤ 1048576
    · rcases (show n1 < 2 ∨ (2 ≤ n1 ∧ n0 ≠ n1) ∨ (2 ≤ n1 ∧ n0 = n1 ∧ n2 ≠ n1) ∨ (2 ≤ n1 ∧ n0 = n1 ∧ n2 = n1 ∧ k < 0) ∨ (2 ≤ n1 ∧ n0 = n1 ∧ n2 = n1 ∧ 0 ≤ k ∧ n1 ≤ k) by omega) with q | ⟨q, q'⟩ | ⟨q, rfl, q''⟩ | ⟨q, rfl, rfl, q'''⟩ | ⟨q, rfl, rfl, q''', q4⟩
      all_goals clear hb
      · go_wp2_with fail
        go_ret
        exact ⟨rfl, rfl⟩
      · have hd : ((n0 : Int) != (n1 : Int)) = true := by simp; omega
        clear q'
        go_wp2_with fail
        go_ret
        exact ⟨rfl, rfl⟩
      · have hd : ((n2 : Int) != (n0 : Int)) = true := by simp; omega
        clear q''
        go_wp2_with fail
        go_ret
        exact ⟨rfl, rfl⟩
      · go_wp2_with fail
        go_ret
        exact ⟨rfl, rfl⟩
      · go_wp2_with fail
        go_ret
        exact ⟨rfl, rfl⟩
    · clear hb
      go_wp2_with fail
      go_ret
      exact ⟨rfl, rfl⟩

end Go.Proofs.Qxb6602784a
