import Derived.Test.Qxb6602784aDf
namespace Go.Proofs.Qxb6602784a
open Go.RowKit
set_option linter.unusedVariables false
set_option linter.unusedSimpArgs false

variable {a0 : Option Addr} {n0 c0 : Nat} {a1 : Option Addr} {n1 c1 : Nat} {a2 : Option Addr} {n2 c2 : Nat} {a3 : Option Addr} {n3 c3 : Nat} {e k : Int} {hs : List (Option Addr × Nat × Nat)} {zss : List (List Int)}
variable {hs3 : List (Option Addr × Nat × Nat)} {hss3 : List (List (Option Addr × Nat × Nat))} {zsss : List (List (List Int))}

set_option maxRecDepth 100000 in
set_option maxHeartbeats 1600000 in
theorem inner_early1 (w : World) (h2 : Rd2 w a2 n2 c2 hs zss) (h3 : Rd3 w a3 n3 c3 hs3 hss3 zsss) (hb : 65536 < n0 ∨ 65536 < n1 ∨ 65536 < n2 ∨ 65536 < n3) :
    Calls Try.prog 9 #[.slice a0 n0 c0, .slice a1 n1 c1, .slice a2 n2 c2, .slice a3 n3 c3, .int .u64 e, .int .i64 k] w fun x w' => x = .returned (.bool true) ∧ w' = w := by
  have H2 := (show Hid (_) from h2)
  have H3 := (show Hid (_) from h3)
  clear h2 h3
  rcases (show 65536 < n0 ∨ (n0 ≤ 65536 ∧ 65536 < n1) ∨ (n0 ≤ 65536 ∧ n1 ≤ 65536 ∧ 65536 < n2) ∨ (n0 ≤ 65536 ∧ n1 ≤ 65536 ∧ n2 ≤ 65536 ∧ 65536 < n3) by omega) with q | ⟨q, q'⟩ | ⟨q, q', q''⟩ | ⟨q, q', q'', q'''⟩
  all_goals
    clear hb
    go_enter Try.func9, Try.ntmps9
    go_wp2_with fail
    refine (zz37_any w a0 n0 c0 a1 n1 c1 a2 n2 c2 a3 n3 c3 e k hs zss H2.out hs3 hss3 zsss H3.out).mono ?_
    rintro x w' ⟨⟨b, rfl⟩, rfl⟩
    cases b
    all_goals
      go_wp2_with fail
      go_ret
      exact ⟨rfl, rfl⟩

set_option maxRecDepth 100000 in
set_option maxHeartbeats 3200000 in
theorem inner_early2 (w : World) (h2 : Rd2 w a2 n2 c2 hs zss) (h3 : Rd3 w a3 n3 c3 hs3 hss3 zsss) (q0 : n0 ≤ 65536) (q1 : n1 ≤ 65536) (q2 : n2 ≤ 65536) (q3 : n3 ≤ 65536) (hb : n2 = 0 ∨ n0 ≠ n2 ∨ n1 ≠ n2 ∨ n3 ≠ n2 ∨ k < 0 ∨ n2 ≤ k) :
    Calls Try.prog 9 #[.slice a0 n0 c0, .slice a1 n1 c1, .slice a2 n2 c2, .slice a3 n3 c3, .int .u64 e, .int .i64 k] w fun x w' => x = .returned (.bool true) ∧ w' = w := by
  have H2 := (show Hid (_) from h2)
  have H3 := (show Hid (_) from h3)
  clear h2 h3
  go_enter Try.func9, Try.ntmps9
  go_wp2_with fail
  refine (zz37_any w a0 n0 c0 a1 n1 c1 a2 n2 c2 a3 n3 c3 e k hs zss H2.out hs3 hss3 zsss H3.out).mono ?_
  rintro x w' ⟨⟨b, rfl⟩, hw'⟩
  obtain rfl := hw'.symm
  clear hw'
  cases b
  · go_wp2_with fail
    go_ret
    exact ⟨rfl, rfl⟩
  · go_wp2_with fail
    refine (listsBytes_any _ a2 n2 c2 hs zss (by omega) H2.out).mono ?_
    rintro x w' ⟨t, rfl, hw', ht, _⟩
    obtain rfl := hw'.symm
    clear hw'
    go_wp2_with fail
    refine (nestedBytes_any _ a3 n3 c3 hs3 hss3 zsss (by omega) H3.out).mono ?_
    rintro x w' ⟨t3, rfl, hw', ht3, _⟩
    obtain rfl := hw'.symm
    clear hw'
    by_cases hbig : 8 * n0 + 8 * n1 + t + t3 ≤ 1048576
    · rcases (show n2 = 0 ∨ (1 ≤ n2 ∧ n0 ≠ n2) ∨ (1 ≤ n2 ∧ n0 = n2 ∧ n1 ≠ n2) ∨ (1 ≤ n2 ∧ n0 = n2 ∧ n1 = n2 ∧ n3 ≠ n2) ∨ (1 ≤ n2 ∧ n0 = n2 ∧ n1 = n2 ∧ n3 = n2 ∧ k < 0) ∨ (1 ≤ n2 ∧ n0 = n2 ∧ n1 = n2 ∧ n3 = n2 ∧ 0 ≤ k ∧ n2 ≤ k) by omega) with rfl | ⟨q, q'⟩ | ⟨q, rfl, q''⟩ | ⟨q, rfl, rfl, q'''⟩ | ⟨q, rfl, rfl, rfl, q'''⟩ | ⟨q, rfl, rfl, rfl, q''', q4⟩
      all_goals clear hb
      · go_wp2_with fail
        go_ret
        exact ⟨rfl, rfl⟩
      · have hd : ((n0 : Int) != (n2 : Int)) = true := by simp; omega
        have hd0 : ((n2 : Int) == 0) = false := by simp; omega
        clear q'
        go_wp2_with fail
        go_ret
        exact ⟨rfl, rfl⟩
      · have hd : ((n1 : Int) != (n0 : Int)) = true := by simp; omega
        have hd0 : ((n0 : Int) == 0) = false := by simp; omega
        clear q''
        go_wp2_with fail
        go_ret
        exact ⟨rfl, rfl⟩
      · have hd : ((n3 : Int) != (n1 : Int)) = true := by simp; omega
        have hd0 : ((n1 : Int) == 0) = false := by simp; omega
        clear q'''
        go_wp2_with fail
        go_ret
        exact ⟨rfl, rfl⟩
      · have hd0 : ((n3 : Int) == 0) = false := by simp; omega
        go_wp2_with fail
        go_ret
        exact ⟨rfl, rfl⟩
      · have hd0 : ((n3 : Int) == 0) = false := by simp; omega
        go_wp2_with fail
        go_ret
        exact ⟨rfl, rfl⟩
    · clear hb
      go_wp2_with fail
      go_ret
      exact ⟨rfl, rfl⟩

end Go.Proofs.Qxb6602784a
