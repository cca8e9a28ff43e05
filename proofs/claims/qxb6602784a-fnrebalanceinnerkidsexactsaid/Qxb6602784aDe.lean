import Derived.Test.Qxb6602784aDc
namespace Go.Proofs.Qxb6602784a
open Go.RowKit
set_option linter.unusedVariables false
set_option linter.unusedSimpArgs false

set_option maxRecDepth 100000 in
set_option maxHeartbeats 1600000 in
theorem zz37_any (w : World) (a0 : Option Addr) (n0 c0 : Nat) (a1 : Option Addr) (n1 c1 : Nat) (a2 : Option Addr) (n2 c2 : Nat) (a3 : Option Addr) (n3 c3 : Nat) (e k : Int) (hs : List (Option Addr × Nat × Nat)) (zss : List (List Int)) (h1 : Rd2 w a2 n2 c2 hs zss)
    (hs3 : List (Option Addr × Nat × Nat)) (hss3 : List (List (Option Addr × Nat × Nat))) (zsss : List (List (List Int))) (h3 : Rd3 w a3 n3 c3 hs3 hss3 zsss) :
    Calls Try.prog 37 #[.slice a0 n0 c0, .slice a1 n1 c1, .slice a2 n2 c2, .slice a3 n3 c3, .int .u64 e, .int .i64 k] w fun x w' => RetB x ∧ w' = w := by
  have H1 := (show Hid (_) from h1)
  have H3 := (show Hid (_) from h3)
  clear h1 h3
  rcases (show 1048576 < n0 ∨ (n0 ≤ 1048576 ∧ 1048576 < n1) ∨ (n0 ≤ 1048576 ∧ n1 ≤ 1048576 ∧ 1048576 < n0 + n1) ∨ (n0 ≤ 1048576 ∧ n1 ≤ 1048576 ∧ n0 + n1 ≤ 1048576 ∧ 1048576 < n2) ∨ (n0 ≤ 1048576 ∧ n1 ≤ 1048576 ∧ n0 + n1 ≤ 1048576 ∧ n2 ≤ 1048576 ∧ 1048576 < n0 + n1 + n2) ∨ (n0 ≤ 1048576 ∧ n1 ≤ 1048576 ∧ n0 + n1 ≤ 1048576 ∧ n2 ≤ 1048576 ∧ n0 + n1 + n2 ≤ 1048576) by omega) with q | ⟨q, q1⟩ | ⟨q, q1, q2⟩ | ⟨q, q1, q2, q3⟩ | ⟨q, q1, q2, q3, q4⟩ | ⟨q, q1, q2, q3, q4⟩
  rotate_right
  · go_enter Try.func37, Try.ntmps37
    go_wp2
    go_loop [13, 14] (fun z i => ∃ s k : Nat, s ≤ 1048576 ∧ k ≤ n2 ∧ z = .int .i64 s ∧ i = .int .i64 k) (fun _ i => n2 - (intOf i).toNat)
    case atStart => exact ⟨n0 + n1 + n2, 0, q4, Nat.zero_le _, by go_num, rfl⟩
    case round =>
      obtain ⟨s, i, hs1, hi1, rfl, rfl⟩ := hrel
      by_cases hlt : i < n2
      · obtain ⟨b, off, ha, hn1, hc1, zs, rfl, hcell, hrest⟩ := H1.out.at hlt
        clear hrest
        by_cases p1 : hn1 ≤ 1048576
        · by_cases p2 : s + hn1 ≤ 1048576
          · go_wp2
            go_round
            case rel => exact ⟨s + hn1, i + 1, p2, by omega, by go_num, by go_num⟩
            case measure => simp [intOf]; omega
          · go_wp2
            go_ret
            exact ⟨⟨_, rfl⟩, rfl⟩
        · go_wp2
          go_ret
          exact ⟨⟨_, rfl⟩, rfl⟩
      · clear q q1 q2 q3 q4
        rcases (show 1048576 < n3 ∨ (n3 ≤ 1048576 ∧ 1048576 < s + n3) ∨ (n3 ≤ 1048576 ∧ s + n3 ≤ 1048576) by omega) with q | ⟨q, q1⟩ | ⟨q, q1⟩
        · go_wp2
          go_ret
          exact ⟨⟨_, rfl⟩, rfl⟩
        · go_wp2
          go_ret
          exact ⟨⟨_, rfl⟩, rfl⟩
        · go_wp2
          go_loop [13, 15] (fun z i => ∃ s k : Nat, s ≤ 1048576 ∧ k ≤ n3 ∧ z = .int .i64 s ∧ i = .int .i64 k) (fun _ i => n3 - (intOf i).toNat)
          case atStart => exact ⟨s + n3, 0, q1, Nat.zero_le _, by go_num, rfl⟩
          case round =>
            obtain ⟨s, i, hs1, hi1, rfl, rfl⟩ := hrel
            by_cases hlt : i < n3
            · obtain ⟨b, off, ha, hn1, hc1, hh, zss', rfl, hcell, _, hr2⟩ := H3.out.at hlt
              have HR := (show Hid (_) from hr2)
              clear hr2
              by_cases p1 : hn1 ≤ 1048576
              · by_cases p2 : s + hn1 ≤ 1048576
                · go_wp2
                  go_loop [13, 16] (fun z i => ∃ s k : Nat, s ≤ 1048576 ∧ k ≤ hn1 ∧ z = .int .i64 s ∧ i = .int .i64 k) (fun _ i => hn1 - (intOf i).toNat)
                  case atStart => exact ⟨s + hn1, 0, p2, Nat.zero_le _, by go_num, rfl⟩
                  case round =>
                    obtain ⟨s, i4, hs1, hi1, rfl, rfl⟩ := hrel
                    by_cases hlt4 : i4 < hn1
                    · obtain ⟨b4, off4, ha4, hn4, hc4, zs4, rfl, hcell4, hrest⟩ := HR.out.at hlt4
                      clear hrest
                      by_cases p1 : hn4 ≤ 1048576
                      · by_cases p2 : s + hn4 ≤ 1048576
                        · go_wp2
                          go_round
                          case rel => exact ⟨s + hn4, i4 + 1, p2, by omega, by go_num, by go_num⟩
                          case measure => simp [intOf]; omega
                        · go_wp2
                          go_ret
                          exact ⟨⟨_, rfl⟩, rfl⟩
                      · go_wp2
                        go_ret
                        exact ⟨⟨_, rfl⟩, rfl⟩
                    · go_wp2
                      go_round
                      case rel => exact ⟨s, i + 1, hs1, by omega, by go_num, by go_num⟩
                      case measure => simp [intOf]; omega
                · go_wp2
                  go_ret
                  exact ⟨⟨_, rfl⟩, rfl⟩
              · go_wp2
                go_ret
                exact ⟨⟨_, rfl⟩, rfl⟩
            · go_wp2
              all_goals
                go_ret
                exact ⟨⟨_, rfl⟩, rfl⟩
  all_goals
    go_enter Try.func37, Try.ntmps37
    go_wp2
    go_ret
    exact ⟨⟨_, rfl⟩, rfl⟩

set_option maxHeartbeats 800000 in
theorem listsBytes_8 (w : World) (a1 : Option Addr) (n1 c1 : Nat) (hs : List (Option Addr × Nat × Nat)) (zss : List (List Int)) (hn : n1 ≤ 1048576) (h1 : Rd2 w a1 n1 c1 hs zss) :
    Calls Try.prog 23 #[.slice a1 n1 c1] w fun x w' => ∃ t : Nat, x = .returned (.int .i64 t) ∧ w' = w ∧ t ≤ 9437209 ∧ (t ≤ 1048576 → ∀ zs ∈ zss, zs.length ≤ 131072) := by
  have H1 := (show Hid (_) from h1)
  clear h1
  go_enter Try.func23, Try.ntmps23
  go_wp2
  go_loop [3, 4] (fun z i => ∃ s k : Nat, s ≤ 1048576 ∧ k ≤ n1 ∧ z = .int .i64 s ∧ i = .int .i64 k ∧ ∀ j zs, j < k → zss[j]? = some zs → zs.length ≤ 131072) (fun _ i => n1 - (intOf i).toNat)
  case atStart => exact ⟨0, 0, by omega, Nat.zero_le _, rfl, rfl, fun j zs hj => by omega⟩
  case round =>
    obtain ⟨s, i, hs1, hi1, rfl, rfl, hall⟩ := hrel
    have HA := (show Hid (_) from hall)
    clear hall
    by_cases hlt : i < n1
    · obtain ⟨b, off, ha, hn1, hc1, zs, rfl, hcell, hzs, hln, hrest⟩ := H1.out.at hlt
      have HZ := (show Hid (_) from And.intro hzs hln)
      clear hrest hzs hln
      by_cases p1 : hn1 ≤ 1048576
      · by_cases p2 : s + (24 + 8 * hn1) ≤ 1048576
        · go_wp2
          go_round
          case rel =>
            refine ⟨s + (24 + 8 * hn1), i + 1, p2, by omega, by go_num, by go_num, fun j zs' hj hj' => ?_⟩
            by_cases e : j = i
            · subst e
              rw [HZ.out.1] at hj'
              obtain rfl := Option.some.inj hj'
              have := HZ.out.2; omega
            · exact HA.out j zs' (by omega) hj'
          case measure => simp [intOf]; omega
        · go_wp2
          go_ret
          refine ⟨s + (24 + 8 * hn1), by go_num, rfl, by omega, fun h => by omega⟩
      · go_wp2
        go_ret
        exact ⟨1048577, rfl, rfl, by omega, fun h => by omega⟩
    · go_wp2
      go_ret
      refine ⟨s, rfl, rfl, by omega, fun _ zs hz => ?_⟩
      obtain ⟨j, hj⟩ := List.getElem?_of_mem hz
      exact HA.out j zs (by have := (List.getElem?_eq_some_iff.1 hj).1; have := H1.out.len; omega) hj

end Go.Proofs.Qxb6602784a
