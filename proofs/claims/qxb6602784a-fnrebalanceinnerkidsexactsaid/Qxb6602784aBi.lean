import Derived.Test.Qxb6602784aBb
namespace Go.Proofs.Qxb6602784a
open Go.RowKit
set_option linter.unusedVariables false
set_option linter.unusedSimpArgs false

/-- where a slice has an element it has a plain address -/
theorem Rd.plain {w : World} {a : Option Addr} {n c : Nat} {vs : List Value} (h : Rd w a n c vs) (hn : 0 < n) : ∃ b off, a = some ⟨b, off, none⟩ ∧ ∀ i, i < n → w.cell? ⟨b, off + i, none⟩ = vs[i]? := by
  match a, h with
  | none, h => have := (h.nil rfl).1; omega
  | some ⟨b, off, sp⟩, h =>
    have hsp : sp = none := by
      have h1 := h.cell _ rfl 0 hn
      have h2 : 0 < vs.length := by rw [h.len]; exact hn
      rw [List.getElem?_eq_getElem h2] at h1
      simpa [Addr.add] using World.cell?_spot h1
    subst hsp
    exact ⟨b, off, rfl, fun i hi => by have := h.cell _ rfl i hi; rwa [Addr.add_lit] at this⟩

theorem Rd2.at {w : World} {a : Option Addr} {n c : Nat} {hs : List (Option Addr × Nat × Nat)} {zss : List (List Int)} (h : Rd2 w a n c hs zss) {k : Nat} (hk : k < n) :
    ∃ b off ha hn hc zs, a = some ⟨b, off, none⟩ ∧ w.cell? ⟨b, off + k, none⟩ = some (.slice ha hn hc) ∧ zss[k]? = some zs ∧ hn = zs.length ∧ Rd w ha hn hc (iv zs) := by
  obtain ⟨b, off, rfl, hc⟩ := h.top.plain (by omega)
  obtain ⟨⟨ha, hn1, hc1⟩, hhs⟩ : ∃ h, hs[k]? = some h := ⟨_, List.getElem?_eq_getElem (by have := h.top.len; simp at this; omega)⟩
  obtain ⟨zs, hzs⟩ : ∃ zs, zss[k]? = some zs := ⟨_, List.getElem?_eq_getElem (by have := h.len; omega)⟩
  have hr := h.row k _ zs hhs hzs
  refine ⟨b, off, ha, hn1, hc1, zs, rfl, ?_, hzs, by have := hr.len; rw [iv_len] at this; exact this.symm, hr⟩
  rw [hc k hk, List.getElem?_map, hhs]; rfl

/-- it returns a bool -/
def RetB (x : Ending) : Prop := ∃ b, x = .returned (.bool b)

set_option maxHeartbeats 800000 in
theorem zz42_any (w : World) (a0 : Option Addr) (n0 c0 : Nat) (a1 : Option Addr) (n1 c1 : Nat) (a2 : Option Addr) (n2 c2 : Nat) (e k : Int) (hs : List (Option Addr × Nat × Nat)) (zss : List (List Int)) (h1 : Rd2 w a1 n1 c1 hs zss) :
    Calls Try.prog 42 #[.slice a0 n0 c0, .slice a1 n1 c1, .slice a2 n2 c2, .int .u64 e, .int .i64 k] w fun x w' => RetB x ∧ w' = w := by
  have H1 := (show Hid (_) from h1)
  clear h1
  by_cases q0 : n0 ≤ 1048576
  · by_cases q1 : n1 ≤ 1048576
    · by_cases q2 : n0 + n1 ≤ 1048576
      · go_enter Try.func42, Try.ntmps42
        go_wp2
        go_loop [11, 12] (fun z i => ∃ s k : Nat, s ≤ 1048576 ∧ k ≤ n1 ∧ z = .int .i64 s ∧ i = .int .i64 k) (fun _ i => n1 - (intOf i).toNat)
        case atStart => exact ⟨n0 + n1, 0, q2, Nat.zero_le _, by go_num, rfl⟩
        case round =>
          obtain ⟨s, i, hs1, hi1, rfl, rfl⟩ := hrel
          by_cases hlt : i < n1
          · obtain ⟨b, off, ha, hn1, hc1, zs, rfl, hcell, hrest⟩ := H1.out.at hlt
            clear hrest
            by_cases p1 : hn1 ≤ 1048576
            · by_cases p2 : s + hn1 ≤ 1048576
              · go_wp2
                go_round
                case rel => exact ⟨s + hn1, i + 1, p2, by omega, by go_num, by go_num⟩
                case measure => simp [intOf]; omega
              · go_wp2
                go_ret
                exact ⟨⟨_, rfl⟩, rfl⟩
            · go_wp2
              go_ret
              exact ⟨⟨_, rfl⟩, rfl⟩
          · go_wp2
            all_goals
              go_ret
              exact ⟨⟨_, rfl⟩, rfl⟩
      · go_enter Try.func42, Try.ntmps42
        go_wp2
        go_ret
        exact ⟨⟨_, rfl⟩, rfl⟩
    · go_enter Try.func42, Try.ntmps42
      go_wp2
      go_ret
      exact ⟨⟨_, rfl⟩, rfl⟩
  · go_enter Try.func42, Try.ntmps42
    go_wp2
    go_ret
    exact ⟨⟨_, rfl⟩, rfl⟩

set_option maxHeartbeats 800000 in
theorem listsBytes_any (w : World) (a1 : Option Addr) (n1 c1 : Nat) (hs : List (Option Addr × Nat × Nat)) (zss : List (List Int)) (hn : n1 ≤ 1048576) (h1 : Rd2 w a1 n1 c1 hs zss) :
    Calls Try.prog 23 #[.slice a1 n1 c1] w fun x w' => ∃ t : Nat, x = .returned (.int .i64 t) ∧ w' = w ∧ t ≤ 9437209 ∧ (t ≤ 1048576 → ∀ zs ∈ zss, zs.length ≤ 1048576) := by
  have H1 := (show Hid (_) from h1)
  clear h1
  go_enter Try.func23, Try.ntmps23
  go_wp2
  go_loop [3, 4] (fun z i => ∃ s k : Nat, s ≤ 1048576 ∧ k ≤ n1 ∧ z = .int .i64 s ∧ i = .int .i64 k ∧ ∀ j zs, j < k → zss[j]? = some zs → zs.length ≤ 1048576) (fun _ i => n1 - (intOf i).toNat)
  case atStart => exact ⟨0, 0, by omega, Nat.zero_le _, rfl, rfl, fun j zs hj => by omega⟩
  case round =>
    obtain ⟨s, i, hs1, hi1, rfl, rfl, hall⟩ := hrel
    have HA := (show Hid (_) from hall)
    clear hall
    by_cases hlt : i < n1
    · obtain ⟨b, off, ha, hn1, hc1, zs, rfl, hcell, hzs, hln, hrest⟩ := H1.out.at hlt
      have HZ := (show Hid (_) from And.intro hzs hln)
      clear hrest hzs hln
      by_cases p1 : hn1 ≤ 1048576
      · by_cases p2 : s + (24 + 8 * hn1) ≤ 1048576
        · go_wp2
          go_round
          case rel =>
            refine ⟨s + (24 + 8 * hn1), i + 1, p2, by omega, by go_num, by go_num, fun j zs' hj hj' => ?_⟩
            by_cases e : j = i
            · subst e
              rw [HZ.out.1] at hj'
              obtain rfl := Option.some.inj hj'
              have := HZ.out.2; omega
            · exact HA.out j zs' (by omega) hj'
          case measure => simp [intOf]; omega
        · go_wp2
          go_ret
          refine ⟨s + (24 + 8 * hn1), by go_num, rfl, by omega, fun h => by omega⟩
      · go_wp2
        go_ret
        exact ⟨1048577, rfl, rfl, by omega, fun h => by omega⟩
    · go_wp2
      go_ret
      refine ⟨s, rfl, rfl, by omega, fun _ zs hz => ?_⟩
      obtain ⟨j, hj⟩ := List.getElem?_of_mem hz
      exact HA.out j zs (by have := (List.getElem?_eq_some_iff.1 hj).1; have := H1.out.len; omega) hj

end Go.Proofs.Qxb6602784a
