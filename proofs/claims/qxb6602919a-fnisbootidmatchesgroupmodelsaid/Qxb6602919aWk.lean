import Derived.Test.Qxb6602919aRows
import Derived.Test.Qxb6602919aPl
import Derived.WalkKit
import Derived.WalkSpells
import Derived.WalkLawsBesides
import Derived.Handy
namespace Go.Proofs.Qxb6602919a
open Go.RowKit
set_option linter.unusedVariables false
set_option linter.unusedSimpArgs false

/-- the bytes of a string, as numbers -/
def bs (s : ByteArray) : List Nat := s.data.toList.map UInt8.toNat
theorem bs_length (s : ByteArray) : (bs s).length = s.size := by simp [bs]
theorem bs_at (s : ByteArray) (k : Nat) (h : k < s.size) : (bs s).getD k 0 = s[k].toNat := by
  simp [bs, List.getD, h]; rfl
theorem bs_drop (s : ByteArray) (k : Nat) (h : k < s.size) : (bs s).drop k = s[k].toNat :: (bs s).drop (k + 1) := by
  rw [List.drop_eq_getElem_cons (by rw [bs_length]; exact h)]
  congr 1
  simp [bs]; rfl
theorem ret_bool {a b : Bool} (h : a = b) : Ending.returned (.bool a) = .returned (.bool b) := by rw [h]

theorem glen_any (g : Nat) (hg : g ≤ 4) (w : World) : Calls Try.prog 27 #[.int .i64 g] w fun e w' => e = .returned (.int .i64 (glen g)) ∧ w' = w := by
  have hc : g = 0 ∨ g = 1 ∨ g = 2 ∨ g = 3 ∨ g = 4 := by omega
  rcases hc with rfl | rfl | rfl | rfl | rfl
  all_goals
    go_enter Try.func27, Try.ntmps27
    go_wp2
    go_ret
    exact ⟨rfl, rfl⟩

theorem hex_tab : ∀ n : Nat, n < 256 → (hexN n = true ↔ ∃ j : Fin 16, (({ data := #[48, 49, 50, 51, 52, 53, 54, 55, 56, 57, 97, 98, 99, 100, 101, 102] } : ByteArray)[j.1]'j.2).toNat = n) := by
  decide +kernel

set_option maxHeartbeats 800000 in
theorem hex_any (n : Nat) (hn : n < 256) (w : World) : Calls Try.prog 28 #[.int .u8 n] w fun e w' => e = .returned (.bool (hexN n)) ∧ w' = w := by
  have HT := (show Hid (_) from hex_tab n hn)
  go_enter Try.func28, Try.ntmps28
  go_wp2
  go_loop [3] (fun i => ∃ k : Nat, k ≤ 16 ∧ i = .int .i64 k ∧ ∀ j (h : j < 16), j < k → (({ data := #[48, 49, 50, 51, 52, 53, 54, 55, 56, 57, 97, 98, 99, 100, 101, 102] } : ByteArray)[j]'h).toNat ≠ n) (fun i => 16 - (intOf i).toNat)
  case atStart => exact ⟨0, by omega, rfl, fun j h hj => by omega⟩
  case round =>
    obtain ⟨k, hk, rfl, hall⟩ := hrel
    have HA := (show Hid (_) from hall)
    clear hall
    by_cases hlt : k < 16
    · have hlt' : k < ({ data := #[48, 49, 50, 51, 52, 53, 54, 55, 56, 57, 97, 98, 99, 100, 101, 102] } : ByteArray).size := hlt
      by_cases he : (({ data := #[48, 49, 50, 51, 52, 53, 54, 55, 56, 57, 97, 98, 99, 100, 101, 102] } : ByteArray)[k]'hlt').toNat = n
      · have q : (((({ data := #[48, 49, 50, 51, 52, 53, 54, 55, 56, 57, 97, 98, 99, 100, 101, 102] } : ByteArray)[k]'hlt').toNat : Int) == (n : Int)) = true := by rw [he]; simp
        have HE := (show Hid (true = hexN n) from (HT.out.2 ⟨⟨k, hlt⟩, he⟩).symm)
        clear he
        go_wp2
        go_ret
        exact ⟨ret_bool HE.out, rfl⟩
      · have q : (((({ data := #[48, 49, 50, 51, 52, 53, 54, 55, 56, 57, 97, 98, 99, 100, 101, 102] } : ByteArray)[k]'hlt').toNat : Int) == (n : Int)) = false := by simp; omega
        have HE := (show Hid (_) from he)
        clear he
        go_wp2
        go_round
        case rel =>
          refine ⟨k + 1, by omega, by go_num, fun j h hj => ?_⟩
          by_cases ej : j = k
          · subst ej; exact HE.out
          · exact HA.out j h (by omega)
        case measure => simp [intOf]; omega
    · go_wp2
      go_ret
      refine ⟨ret_bool ?_, rfl⟩
      symm
      rw [Bool.eq_false_iff]
      intro h
      obtain ⟨j, hj⟩ := HT.out.1 h
      exact HA.out j.1 j.2 (by omega) hj

theorem ok_snoc {l : List Nat} {k : Nat} (h : ∀ j, j < k → okAt j (l.getD j 0)) (hk : okAt k (l.getD k 0)) : ∀ j, j < k + 1 → okAt j (l.getD j 0) := by
  intro j hj
  by_cases e : j = k
  · subst e; exact hk
  · exact h j (by omega)
theorem mdl_no {l : List Nat} {k : Nat} (hk : k < 36) (h : ¬ okAt k (l.getD k 0)) : false = mdl l 0 0 := by
  symm
  rw [Bool.eq_false_iff, Ne, mdl_isU]
  rintro ⟨_, h2⟩
  exact h (h2 k hk)
theorem ok_dash {k c : Nat} (hp : k = 8 ∨ k = 13 ∨ k = 18 ∨ k = 23) : okAt k c ↔ c = 45 := by unfold okAt; rw [if_pos hp]
theorem ok_hex {k c : Nat} (hp : ¬ (k = 8 ∨ k = 13 ∨ k = 18 ∨ k = 23)) : okAt k c ↔ ((48 ≤ c ∧ c ≤ 57) ∨ (97 ≤ c ∧ c ≤ 102)) := by unfold okAt hexN; rw [if_neg hp]; simp

theorem conv_bytes (w : World) (s : ByteArray) : ∃ cp OB, (convert 9 26 (.string s)).run Try.prog w = .ok (.slice (some ⟨w.heap.size, 0, none⟩) s.size cp) (w.drew.alloc OB) ∧ ∀ k (h : k < s.size), (w.alloc OB).drew.cell? ⟨w.heap.size, k, none⟩ = some (.int .u8 (s[k].toNat : Int)) := by
  refine ⟨_, _, run_bytes_of_string (P := Try.prog) w 9 26 5 s Try.underlying9 Try.underlying26 Try.underlying5, fun k h => ?_⟩
  show (w.alloc _).cell? _ = _
  rw [cell_of_row _ w.heap.size k _ 5 _ (heap_alloc_new w _)]
  exact bytesRow_at s _ k h

set_option maxHeartbeats 1000000 in
theorem is_any (s : ByteArray) (w : World) : Calls Try.prog 26 #[.string s] w fun e w' => e = .returned (.bool (mdl (bs s) 0 0)) ∧ Below w.heap.size w w' := by
  by_cases h36 : s.size = 36
  · have H36 := (show Hid (_) from h36)
    have hle : s.size ≤ 36 := by omega
    have hge : 36 ≤ s.size := by omega
    clear h36
    obtain ⟨cp, OB, hcv, hcells⟩ := conv_bytes w s
    have HCV := (show Hid (_) from hcells)
    have HB0 := (show Hid (Below w.heap.size w (w.alloc OB).drew) from ((Below.refl _ _).alloc (Nat.le_refl _) _).drew)
    clear hcells
    go_enter Try.func26, Try.ntmps26
    go_wp2
    go_loop [11] (fun i => ∃ k : Nat, k ≤ 36 ∧ i = .int .i64 k ∧ ∀ j, j < k → okAt j ((bs s).getD j 0)) (fun i => 36 - (intOf i).toNat)
    case atStart => exact ⟨0, by omega, rfl, fun j hj => by omega⟩
    case round =>
      obtain ⟨k, hk, rfl, hok⟩ := hrel
      have HO := (show Hid (_) from hok)
      clear hok
      by_cases hlt : k < 36
      · have hks : k < s.size := by omega
        have hck := HCV.out k hks
        have HB := (show Hid (_) from bs_at s k hks)
        by_cases hp : k = 8 ∨ k = 13 ∨ k = 18 ∨ k = 23
        · have HP := (show Hid (_) from ok_dash (c := s[k].toNat) hp)
          by_cases h45 : s[k].toNat = 45
          · have h45' : ((s[k].toNat : Int) != 45) = false := by rw [h45]; rfl
            have HR := (show Hid (_) from ok_snoc HO.out (by rw [HB.out]; exact HP.out.2 h45))
            clear h45
            rcases hp with hp | hp | hp | hp
            · have q1 : ((k : Int) == 8) = true := by simp; omega
              have HK := (show Hid (_) from hp); clear hp
              go_wp2
              go_round
              case rel => exact ⟨k + 1, by omega, by go_num, HR.out⟩
              case measure => simp [intOf]; omega
            · have q1 : ((k : Int) == 8) = false := by simp; omega
              have q2 : ((k : Int) == 13) = true := by simp; omega
              have HK := (show Hid (_) from hp); clear hp
              go_wp2
              go_round
              case rel => exact ⟨k + 1, by omega, by go_num, HR.out⟩
              case measure => simp [intOf]; omega
            · have q1 : ((k : Int) == 8) = false := by simp; omega
              have q2 : ((k : Int) == 13) = false := by simp; omega
              have q3 : ((k : Int) == 18) = true := by simp; omega
              have HK := (show Hid (_) from hp); clear hp
              go_wp2
              go_round
              case rel => exact ⟨k + 1, by omega, by go_num, HR.out⟩
              case measure => simp [intOf]; omega
            · have q1 : ((k : Int) == 8) = false := by simp; omega
              have q2 : ((k : Int) == 13) = false := by simp; omega
              have q3 : ((k : Int) == 18) = false := by simp; omega
              have q4 : ((k : Int) == 23) = true := by simp; omega
              have HK := (show Hid (_) from hp); clear hp
              go_wp2
              go_round
              case rel => exact ⟨k + 1, by omega, by go_num, HR.out⟩
              case measure => simp [intOf]; omega
          · have h45' : ((s[k].toNat : Int) != 45) = true := by simp; omega
            have HR := (show Hid (_) from mdl_no hlt (by rw [HB.out, HP.out]; exact h45))
            rcases hp with hp | hp | hp | hp
            · have q1 : ((k : Int) == 8) = true := by simp; omega
              have HK := (show Hid (_) from hp); clear hp
              go_wp2
              go_ret
              exact ⟨ret_bool HR.out, HB0.out⟩
            · have q1 : ((k : Int) == 8) = false := by simp; omega
              have q2 : ((k : Int) == 13) = true := by simp; omega
              have HK := (show Hid (_) from hp); clear hp
              go_wp2
              go_ret
              exact ⟨ret_bool HR.out, HB0.out⟩
            · have q1 : ((k : Int) == 8) = false := by simp; omega
              have q2 : ((k : Int) == 13) = false := by simp; omega
              have q3 : ((k : Int) == 18) = true := by simp; omega
              have HK := (show Hid (_) from hp); clear hp
              go_wp2
              go_ret
              exact ⟨ret_bool HR.out, HB0.out⟩
            · have q1 : ((k : Int) == 8) = false := by simp; omega
              have q2 : ((k : Int) == 13) = false := by simp; omega
              have q3 : ((k : Int) == 18) = false := by simp; omega
              have q4 : ((k : Int) == 23) = true := by simp; omega
              have HK := (show Hid (_) from hp); clear hp
              go_wp2
              go_ret
              exact ⟨ret_bool HR.out, HB0.out⟩
        · have HP := (show Hid (_) from ok_hex (c := s[k].toNat) hp)
          have q1 : ((k : Int) == 8) = false := by simp; omega
          have q2 : ((k : Int) == 13) = false := by simp; omega
          have q3 : ((k : Int) == 18) = false := by simp; omega
          have q4 : ((k : Int) == 23) = false := by simp; omega
          by_cases hx : (48 ≤ s[k].toNat ∧ s[k].toNat ≤ 57) ∨ (97 ≤ s[k].toNat ∧ s[k].toNat ≤ 102)
          · have HR := (show Hid (_) from ok_snoc HO.out (by rw [HB.out]; exact HP.out.2 hx))
            clear hp
            rcases hx with ⟨h1, h2⟩ | ⟨h1, h2⟩
            · go_wp2
              exact ⟨⟨_, _, _, .int .i64 ((k + 1 : Nat) : Int), ⟨k + 1, by omega, rfl, HR.out⟩, rfl, rfl, rfl, by go_num⟩, by simp [intOf]; omega⟩
            · have d57 : decide ((s[k].toNat : Int) ≤ 57) = false := decide_eq_false (by omega)
              have d102 : decide ((s[k].toNat : Int) ≤ 102) = true := decide_eq_true (by omega)
              go_wp2
              exact ⟨⟨_, _, _, .int .i64 ((k + 1 : Nat) : Int), ⟨k + 1, by omega, rfl, HR.out⟩, rfl, rfl, rfl, by go_num⟩, by simp [intOf]; omega⟩
          · have HR := (show Hid (_) from mdl_no hlt (by rw [HB.out, HP.out]; exact hx))
            rcases (show s[k].toNat < 48 ∨ (58 ≤ s[k].toNat ∧ s[k].toNat < 97) ∨ 102 < s[k].toNat by omega) with h | ⟨h, h'⟩ | h
            all_goals clear hx hp
            · go_wp2
              go_ret
              exact ⟨ret_bool HR.out, HB0.out⟩
            · have d57 : decide ((s[k].toNat : Int) ≤ 57) = false := decide_eq_false (by omega)
              go_wp2
              go_ret
              exact ⟨ret_bool HR.out, HB0.out⟩
            · have d57 : decide ((s[k].toNat : Int) ≤ 57) = false := decide_eq_false (by omega)
              have d102 : decide ((s[k].toNat : Int) ≤ 102) = false := decide_eq_false (by omega)
              go_wp2
              go_ret
              exact ⟨ret_bool HR.out, HB0.out⟩
      · go_wp2
        go_ret
        refine ⟨ret_bool ?_, HB0.out⟩
        symm
        rw [mdl_isU]
        exact ⟨by rw [bs_length, H36.out], fun i hi => HO.out i (by omega)⟩
  · go_enter Try.func26, Try.ntmps26
    go_wp2
    go_ret
    refine ⟨ret_bool ?_, Below.refl _ _⟩
    symm
    rw [Bool.eq_false_iff, Ne, mdl_isU]
    rintro ⟨h, _⟩
    rw [bs_length] at h
    exact h36 h


set_option maxHeartbeats 1000000 in
theorem mdl_any (s : ByteArray) (hs : s.size ≤ 1048576) (w : World) : Calls Try.prog 11 #[.string s] w fun e w' => e = .returned (.bool (mdl (bs s) 0 0)) ∧ w' = w := by
  go_enter Try.func11, Try.ntmps11
  go_wp2
  go_loop [3, 4, 5] (fun g r i => ∃ k gn rn : Nat, k ≤ s.size ∧ gn ≤ 4 ∧ rn ≤ k ∧ i = .int .i64 k ∧ g = .int .i64 gn ∧ r = .int .i64 rn ∧ mdl ((bs s).drop k) gn rn = mdl (bs s) 0 0) (fun _ _ i => s.size - (intOf i).toNat)
  case atStart => exact ⟨0, 0, 0, Nat.zero_le _, by omega, by omega, rfl, rfl, rfl, rfl⟩
  case round =>
    obtain ⟨k, g, r, hk, hg, hr, rfl, rfl, rfl, hm⟩ := hrel
    have HM := (show Hid (_) from hm)
    clear hm
    by_cases hlt : k < s.size
    · have HD := (show Hid (_) from bs_drop s k hlt)
      have hc256 : s[k].toNat < 256 := s[k].toNat_lt
      by_cases h45 : s[k].toNat = 45
      · have q45 : ((s[k].toNat : Int) == 45) = true := by rw [h45]; rfl
        have HS := (show Hid (mdl ((bs s).drop k) g r = if g = 4 ∨ r ≠ glen g then false else mdl ((bs s).drop (k + 1)) (g + 1) 0) by unfold Hid; rw [HD.out, mdl, if_pos h45])
        clear h45
        by_cases h4 : g = 4
        · have q4 : ((g : Int) == 4) = true := by rw [h4]; rfl
          have q4' : (4 : Int) ≤ (g : Int) := by omega
          have HR := (show Hid (false = mdl (bs s) 0 0) by unfold Hid; rw [← HM.out, HS.out, if_pos (Or.inl h4)])
          clear h4
          go_wp2
          go_ret
          exact ⟨ret_bool HR.out, rfl⟩
        · have q4 : ((g : Int) == 4) = false := by simp; omega
          have q4'' : (g : Int) < 4 := by omega
          by_cases hgl : r = glen g
          · have q5 : ((r : Int) != (glen g : Int)) = false := by rw [hgl]; simp
            have HR := (show Hid (mdl ((bs s).drop (k + 1)) (g + 1) 0 = mdl (bs s) 0 0) by unfold Hid; rw [← HM.out, HS.out, if_neg (by omega)])
            have hg3 : g ≤ 3 := by omega
            clear hgl h4
            go_wp2_with (go_at_call 27; refine (glen_any _ hg _).mono ?_; rintro e w' ⟨rfl, rfl⟩)
            go_round
            case rel => exact ⟨k + 1, g + 1, 0, by omega, by omega, by omega, by go_num, by go_num, rfl, HR.out⟩
            case measure => simp [intOf]; omega
          · have q5 : ((r : Int) != (glen g : Int)) = true := by simp; omega
            have HR := (show Hid (false = mdl (bs s) 0 0) by unfold Hid; rw [← HM.out, HS.out, if_pos (Or.inr hgl)])
            clear hgl h4
            go_wp2_with (go_at_call 27; refine (glen_any _ hg _).mono ?_; rintro e w' ⟨rfl, rfl⟩)
            go_ret
            exact ⟨ret_bool HR.out, rfl⟩
      · have q45 : ((s[k].toNat : Int) == 45) = false := by simp; omega
        have HS := (show Hid (mdl ((bs s).drop k) g r = if hexN s[k].toNat = true then (if glen g < r + 1 then false else mdl ((bs s).drop (k + 1)) g (r + 1)) else false) by unfold Hid; rw [HD.out, mdl, if_neg h45])
        clear h45
        by_cases hx : hexN s[k].toNat = true
        · by_cases hl : glen g < r + 1
          · have HR := (show Hid (false = mdl (bs s) 0 0) by unfold Hid; rw [← HM.out, HS.out, if_pos hx, if_pos hl])
            go_wp2_with (first | (go_at_call 28; refine (hex_any _ hc256 _).mono ?_; rintro e w' ⟨rfl, rfl⟩) | (go_at_call 27; refine (glen_any _ hg _).mono ?_; rintro e w' ⟨rfl, rfl⟩))
            go_ret
            exact ⟨ret_bool HR.out, rfl⟩
          · have HR := (show Hid (mdl ((bs s).drop (k + 1)) g (r + 1) = mdl (bs s) 0 0) by unfold Hid; rw [← HM.out, HS.out, if_pos hx, if_neg hl])
            go_wp2_with (first | (go_at_call 28; refine (hex_any _ hc256 _).mono ?_; rintro e w' ⟨rfl, rfl⟩) | (go_at_call 27; refine (glen_any _ hg _).mono ?_; rintro e w' ⟨rfl, rfl⟩))
            go_round
            case rel => exact ⟨k + 1, g, r + 1, by omega, by omega, by omega, by go_num, rfl, by go_num, HR.out⟩
            case measure => simp [intOf]; omega
        · have HR := (show Hid (false = mdl (bs s) 0 0) by unfold Hid; rw [← HM.out, HS.out, if_neg hx])
          have hx' : hexN s[k].toNat = false := by simpa using hx
          clear hx
          go_wp2_with (go_at_call 28; refine (hex_any _ hc256 _).mono ?_; rintro e w' ⟨rfl, rfl⟩)
          go_ret
          exact ⟨ret_bool HR.out, rfl⟩
    · obtain rfl : k = s.size := by omega
      have HR := (show Hid (mdl (bs s) 0 0 = decide (g = 4 ∧ r = 12)) by unfold Hid; rw [← HM.out, List.drop_of_length_le (by rw [bs_length]; exact Nat.le_refl _), mdl])
      by_cases h4 : g = 4
      · have q4 : ((g : Int) == 4) = true := by rw [h4]; rfl
        have HR2 := (show Hid (((r : Int) == 12) = mdl (bs s) 0 0) by unfold Hid; rw [HR.out, Bool.eq_iff_iff]; simp [h4]; omega)
        clear h4
        go_wp2
        go_ret
        exact ⟨ret_bool HR2.out, rfl⟩
      · have q4 : ((g : Int) == 4) = false := by simp; omega
        have HR2 := (show Hid (false = mdl (bs s) 0 0) by unfold Hid; rw [HR.out]; simp [h4])
        clear h4
        go_wp2
        go_ret
        exact ⟨ret_bool HR2.out, rfl⟩


theorem top_any (s : ByteArray) (w : World) : Calls Try.prog 3 #[.string s] w fun e w' => e = .returned (.bool true) ∧ Below w.heap.size w w' := by
  by_cases hs : s.size ≤ 1048576
  · go_enter Try.func3, Try.ntmps3
    go_wp2_with (first | (go_at_call 26; refine (is_any _ _).mono ?_; rintro e w' ⟨rfl, hb⟩) | (go_at_call 11; refine (mdl_any _ hs _).mono ?_; rintro e w' ⟨rfl, rfl⟩) | go_in)
    go_ret
    exact ⟨rfl, hb⟩
  · go_enter Try.func3, Try.ntmps3
    go_wp2
    go_ret
    exact ⟨rfl, Below.refl _ _⟩

end Go.Proofs.Qxb6602919a
