import Derived.Test.Qxb6602784aDb
namespace Go.Proofs.Qxb6602784a
open Go.RowKit
set_option linter.unusedVariables false
set_option linter.unusedSimpArgs false

set_option maxHeartbeats 800000 in
theorem nestedBytes_any (w : World) (a : Option Addr) (n c : Nat) (hs : List (Option Addr × Nat × Nat)) (hss : List (List (Option Addr × Nat × Nat))) (zsss : List (List (List Int))) (hn : n ≤ 1048576) (h : Rd3 w a n c hs hss zsss) :
    Calls Try.prog 38 #[.slice a n c] w fun x w' => ∃ t : Nat, x = .returned (.int .i64 t) ∧ w' = w ∧ t ≤ 20971520 ∧ (t ≤ 1048576 → ∀ zss ∈ zsss, zss.length ≤ 1048576 ∧ ∀ zs ∈ zss, zs.length ≤ 1048576) := by
  have H1 := (show Hid (_) from h)
  clear h
  go_enter Try.func38, Try.ntmps38
  go_wp2
  go_loop [3, 4] (fun z i => ∃ s k : Nat, s ≤ 1048576 ∧ k ≤ n ∧ z = .int .i64 s ∧ i = .int .i64 k ∧ ∀ j zss, j < k → zsss[j]? = some zss → zss.length ≤ 1048576 ∧ ∀ zs ∈ zss, zs.length ≤ 1048576) (fun _ i => n - (intOf i).toNat)
  case atStart => exact ⟨0, 0, by omega, Nat.zero_le _, rfl, rfl, fun j zs hj => by omega⟩
  case round =>
    obtain ⟨s, i, hs1, hi1, rfl, rfl, hall⟩ := hrel
    have HA := (show Hid (_) from hall)
    clear hall
    by_cases hlt : i < n
    · obtain ⟨b, off, ha, hn1, hc1, hh, zss, rfl, hcell, hzss, hr2⟩ := H1.out.at hlt
      have HZ := (show Hid (_) from And.intro hzss hr2)
      clear hzss hr2
      by_cases p1 : hn1 ≤ 1048576
      · go_wp2_with fail
        refine (listsBytes_any _ ha hn1 hc1 hh zss p1 HZ.out.2).mono ?_
        rintro x w' ⟨t, rfl, hw', ht, hsm⟩
        obtain rfl := hw'.symm
        have HM := (show Hid (_) from hsm)
        clear hw' hsm
        by_cases p2 : s + (24 + t) ≤ 1048576
        · go_wp2_with fail
          go_round
          case rel =>
            refine ⟨s + (24 + t), i + 1, p2, by omega, by go_num, by go_num, fun j zss' hj hj' => ?_⟩
            by_cases e : j = i
            · subst e
              rw [HZ.out.1] at hj'
              obtain rfl := Option.some.inj hj'
              exact ⟨by have := HZ.out.2.len; omega, HM.out (by omega)⟩
            · exact HA.out j zss' (by omega) hj'
          case measure => simp [intOf]; omega
        · go_wp2_with fail
          go_ret
          refine ⟨s + (24 + t), by go_num, rfl, by omega, fun h => by omega⟩
      · go_wp2_with fail
        go_ret
        exact ⟨1048577, rfl, rfl, by omega, fun h => by omega⟩
    · go_wp2_with fail
      go_ret
      refine ⟨s, rfl, rfl, by omega, fun _ zss hz => ?_⟩
      obtain ⟨j, hj⟩ := List.getElem?_of_mem hz
      exact HA.out j zss (by have := (List.getElem?_eq_some_iff.1 hj).1; have := H1.out.len; omega) hj

end Go.Proofs.Qxb6602784a
