import Derived.Test.Qxb6602919aVe
namespace Go.Proofs.Qxb6602919a
open Go.RowKit
set_option linter.unusedVariables false
set_option linter.unusedSimpArgs false

theorem size_ex (s : ByteArray) (i j : Nat) (h : j ≤ s.size) : (s.extract i j).size ≤ j := by
  simp; omega

set_option maxHeartbeats 1600000 in
theorem dot19 (s : ByteArray) (hs : s.size ≤ 1048576) (w : World) : Calls Try.prog 19 #[.string s] w fun e w' => RetB e ∧ Below w.heap.size w w' := by
  obtain ⟨n, hn⟩ : ∃ n, s.size = n := ⟨_, rfl⟩
  have HN := (show Hid (_) from hn)
  rw [hn] at hs
  go_enter Try.func19, Try.ntmps19
  go_wp2
  go_loopw [3, 4] (fun st i wr => ∃ t k : Nat, t ≤ k ∧ k ≤ n + 1 ∧ st = .int .i64 t ∧ i = .int .i64 k ∧ Hid (Below w.heap.size w wr)) (fun _ i _ => n + 1 - (intOf i).toNat)
  case atStart => exact ⟨0, 0, by omega, by omega, rfl, rfl, (show Below _ _ _ from Below.refl _ _)⟩
  case round =>
    obtain ⟨t, k, htk, hk, rfl, rfl, HB⟩ := hrel
    by_cases hlt : k ≤ n
    · by_cases hdot : k = n ∨ ∃ h : k < s.size, s[k].toNat = 46
      · have hsl : (s.extract t k).size ≤ 1048576 := by have := size_ex s t k (by have := HN.out; omega); omega
        have HT := (show Hid (_) from hsl)
        clear hsl
        have hdot2 : k = n ∨ (k ≠ n ∧ ∃ h : k < s.size, s[k].toNat = 46) := by
          by_cases e : k = n
          · exact Or.inl e
          · rcases hdot with h | h
            · exact Or.inl h
            · exact Or.inr ⟨e, h⟩
        rcases hdot2 with h | ⟨h, hks, h46⟩
        · have d1 : ((k : Int) == (n : Int)) = true := by rw [h]; simp
          have HK := (show Hid (_) from h)
          clear h hdot
          go_wp2_with (go_at_call 14; refine (id14 _ HT.out _).mono ?_; rintro e w1 ⟨⟨b, rfl, -⟩, hb1⟩; have HB1 := (show Hid (Below w.heap.size w w1) from HB.out.trans (hb1.mono HB.out.size)); clear hb1; cases b)
          · go_ret
            exact ⟨⟨_, rfl⟩, HB1.out⟩
          · go_roundw
            case rel => exact ⟨k + 1, k + 1, by omega, by omega, by go_num, by go_num, HB1⟩
            case measure => simp [intOf]; omega
        · have d1 : ((k : Int) == (n : Int)) = false := by simp; omega
          obtain ⟨X, hX⟩ : ∃ X, s[k].toNat = X := ⟨_, rfl⟩
          have d2 : ((X : Int) == 46) = true := by simp; omega
          have hkn : k < n := by omega
          have HK := (show Hid (_) from h46)
          clear h hdot h46
          go_wp2_with (go_at_call 14; refine (id14 _ HT.out _).mono ?_; rintro e w1 ⟨⟨b, rfl, -⟩, hb1⟩; have HB1 := (show Hid (Below w.heap.size w w1) from HB.out.trans (hb1.mono HB.out.size)); clear hb1; cases b)
          · go_ret
            exact ⟨⟨_, rfl⟩, HB1.out⟩
          · go_roundw
            case rel => exact ⟨k + 1, k + 1, by omega, by omega, by go_num, by go_num, HB1⟩
            case measure => simp [intOf]; omega
      · have hkn : k < n := by
          by_cases e : k = n
          · exact absurd (Or.inl e) hdot
          · omega
        have hks : k < s.size := by omega
        obtain ⟨X, hX⟩ : ∃ X, s[k].toNat = X := ⟨_, rfl⟩
        have d1 : ((k : Int) == (n : Int)) = false := by simp; omega
        have d2 : ((X : Int) == 46) = false := by
          have : X ≠ 46 := fun e => hdot (Or.inr ⟨hks, hX.trans e⟩)
          simp; omega
        clear hdot
        go_wp2
        go_roundw
        case rel => exact ⟨t, k + 1, by omega, by omega, rfl, by go_num, HB⟩
        case measure => simp [intOf]; omega
    · go_wp2
      go_ret
      exact ⟨⟨_, rfl⟩, HB.out⟩

end Go.Proofs.Qxb6602919a
