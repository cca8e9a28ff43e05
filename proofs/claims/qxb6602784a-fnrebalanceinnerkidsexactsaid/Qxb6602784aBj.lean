import Derived.Test.Qxb6602784aBi

import Derived.Test.Qxb6602784aBf
namespace Go.Proofs.Qxb6602784a
open Go.RowKit
set_option linter.unusedVariables false
set_option linter.unusedSimpArgs false

theorem newLeaf_any (w : World) (ep : Int) (a : Option Addr) (n c : Nat) : Calls Try.prog 27 #[.int .u64 ep, .slice a n c] w fun x w' => x = .returned (.pointer (some ⟨w.heap.size, 0, none⟩)) ∧ w' = w.alloc (nd ep a n c none 0 0) := by
  go_enter Try.func27, Try.ntmps27
  go_wp2
  go_ret
  exact ⟨rfl, rfl⟩

theorem newInner_any (w : World) (ep : Int) (a : Option Addr) (n c : Nat) (ka : Option Addr) (kn kc : Nat) : Calls Try.prog 29 #[.int .u64 ep, .slice a n c, .slice ka kn kc] w fun x w' => x = .returned (.pointer (some ⟨w.heap.size, 0, none⟩)) ∧ w' = w.alloc (nd ep a n c ka kn kc) := by
  go_enter Try.func29, Try.ntmps29
  go_wp2
  go_ret
  exact ⟨rfl, rfl⟩

variable {ep : Int} {ia : Option Addr} {n ic : Nat} {ka : Option Addr} {kn kc : Nat}

theorem zzKids_any (w : World) (B : Nat) (h : w.heap[B]? = some (nd ep ia n ic ka kn kc)) : Calls Try.prog 33 #[.pointer (some ⟨B, 0, none⟩)] w fun x w' => x = .returned (.slice ka kn kc) ∧ w' = w := by
  have k2 : w.cell? ⟨B, 2, none⟩ = some (.slice ka kn kc) := nd_cell h 2
  clear h
  go_enter Try.func33, Try.ntmps33
  go_wp2
  go_ret
  exact ⟨rfl, rfl⟩

theorem zzIDs_any (w : World) (B : Nat) (h : w.heap[B]? = some (nd ep ia n ic ka kn kc)) : Calls Try.prog 34 #[.pointer (some ⟨B, 0, none⟩)] w fun x w' => x = .returned (.slice ia n ic) ∧ w' = w := by
  have k1 : w.cell? ⟨B, 1, none⟩ = some (.slice ia n ic) := nd_cell h 1
  clear h
  go_enter Try.func34, Try.ntmps34
  go_wp2
  go_ret
  exact ⟨rfl, rfl⟩

theorem zzEpoch_any (w : World) (B : Nat) (h : w.heap[B]? = some (nd ep ia n ic ka kn kc)) : Calls Try.prog 32 #[.pointer (some ⟨B, 0, none⟩)] w fun x w' => x = .returned (.int .u64 ep) ∧ w' = w := by
  have k0 : w.cell? ⟨B, 0, none⟩ = some (.int .u64 ep) := nd_cell h 0
  clear h
  go_enter Try.func32, Try.ntmps32
  go_wp2
  go_ret
  exact ⟨rfl, rfl⟩

/-- sameInts at two slices that read alike -/
theorem sameInts_any (w : World) (a1 a2 : Option Addr) (n c1 c2 : Nat) (zs : List Int) (hn : n ≤ 8388608) (h1 : Rd w a1 n c1 (iv zs)) (h2 : Rd w a2 n c2 (iv zs)) :
    Calls Try.prog 43 #[.slice a1 n c1, .slice a2 n c2] w fun x w' => x = .returned (.bool true) ∧ ∃ m, w' = w.drewN m := by
  have H1 := (show Hid (_) from h1)
  have H2 := (show Hid (_) from h2)
  clear h1 h2
  go_enter Try.func43, Try.ntmps43
  go_wp2
  go_loopw [5] (fun i wr => ∃ k m : Nat, k ≤ n ∧ i = .int .i64 k ∧ wr = w.drewN m) (fun i _ => n - (intOf i).toNat)
  case atStart => exact ⟨0, 0, Nat.zero_le _, rfl, rfl⟩
  case round =>
    obtain ⟨k, m, hk, rfl, rfl⟩ := hrel
    by_cases hlt : k < n
    · obtain ⟨b1, o1, rfl, g1⟩ := H1.out.plain (by omega)
      obtain ⟨b2, o2, rfl, g2⟩ := H2.out.plain (by omega)
      have hzl : k < zs.length := by have := H1.out.len; rw [iv_len] at this; omega
      have hc1 : w.cell? ⟨b1, o1 + k, none⟩ = some (.int .i64 zs[k]) := by rw [g1 k hlt]; simp [iv, hzl]
      have hc2 : w.cell? ⟨b2, o2 + k, none⟩ = some (.int .i64 zs[k]) := by rw [g2 k hlt]; simp [iv, hzl]
      clear g1 g2
      go_wp2
      go_quiet (fail)
      go_wp2
      go_roundw
      case rel => exact ⟨k + 1, m + nq, by omega, by go_num, rfl⟩
      case measure => simp [intOf]; omega
    · go_wp2
      go_ret
      exact ⟨rfl, m, rfl⟩

end Go.Proofs.Qxb6602784a
