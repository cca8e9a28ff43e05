import Derived.Test.Qxb6602919aVb
namespace Go.Proofs.Qxb6602919a
open Go.RowKit
set_option linter.unusedVariables false
set_option linter.unusedSimpArgs false

theorem tsz_take (ss : List ByteArray) (k : Nat) (s : ByteArray) (h : ss[k]? = some s) : tsz (ss.take (k + 1)) = tsz (ss.take k) + s.size := by
  rw [List.take_add_one, h]
  simp [tsz]

set_option maxRecDepth 100000 in
set_option maxHeartbeats 1600000 in
theorem early8 (w : World) (s0 s1 s2 s4 : ByteArray) (a : Option Addr) (n c : Nat) (ss : List ByteArray) (h : RdS w a n c ss) (hT : ¬ s0.size + s1.size + s2.size + s4.size + 16 * n ≤ 1048576) :
    Calls Try.prog 8 #[.string s0, .string s1, .string s2, .slice a n c, .string s4] w fun x w' => x = .returned (.bool true) ∧ w' = w := by
  have H1 := (show Hid (_) from h)
  clear h
  obtain ⟨n0, hn0⟩ : ∃ n, s0.size = n := ⟨_, rfl⟩
  obtain ⟨n1, hn1⟩ : ∃ n, s1.size = n := ⟨_, rfl⟩
  obtain ⟨n2, hn2⟩ : ∃ n, s2.size = n := ⟨_, rfl⟩
  obtain ⟨n4, hn4⟩ : ∃ n, s4.size = n := ⟨_, rfl⟩
  rw [hn0, hn1, hn2, hn4] at hT
  rcases (show 65536 < n ∨ (n ≤ 65536 ∧ 1048576 < n0) ∨ (n ≤ 65536 ∧ n0 ≤ 1048576 ∧ 1048576 < n1) ∨ (n ≤ 65536 ∧ n0 ≤ 1048576 ∧ n1 ≤ 1048576 ∧ 1048576 < n2) ∨ (n ≤ 65536 ∧ n0 ≤ 1048576 ∧ n1 ≤ 1048576 ∧ n2 ≤ 1048576 ∧ 1048576 < n4) ∨ (n ≤ 65536 ∧ n0 ≤ 1048576 ∧ n1 ≤ 1048576 ∧ n2 ≤ 1048576 ∧ n4 ≤ 1048576) by omega) with q | ⟨q, q'⟩ | ⟨q, q', q''⟩ | ⟨q, q', q'', q3⟩ | ⟨q, q', q'', q3, q4⟩ | ⟨q, q', q'', q3, q4⟩
  all_goals
    go_enter Try.func8, Try.ntmps8
    go_wp2_with fail
    refine (zz25_any w s0 s1 s2 s4 a n c ss H1.out).mono ?_
    rintro x w' ⟨⟨b, rfl⟩, rfl⟩
    cases b
    all_goals
      go_wp2_with fail
      go_ret
      exact ⟨rfl, rfl⟩

theorem tsz_le (ss : List ByteArray) (k : Nat) : tsz (ss.take k) ≤ tsz ss := by
  induction ss generalizing k with
  | nil => simp [tsz]
  | cons y r ih =>
    cases k with
    | zero => simp [tsz]
    | succ k =>
      have := ih k
      simp only [tsz, List.take_succ_cons, List.map_cons, List.sum_cons] at this ⊢
      omega
theorem ex_bl (r : ByteArray) (i j : Nat) : bl (r.extract i j) = ((bl r).take j).drop i := by
  simp only [bl, ByteArray.data_extract, Array.toList_extract, List.extract_eq_drop_take']
theorem f2_of (r s : ByteArray) (t : List UInt8) (h : bl r = bl s ++ t) : (r.extract 0 s.size).toList = s.toList := by
  rw [toList_bl, toList_bl, ex_bl, h, ← bl_len]
  simp
theorem f3_of (r s : ByteArray) (t : List UInt8) (h : bl r = bl s ++ 46 :: t) : ∀ h : s.size < r.size, (((r[s.size]'h).toNat : Int) != 46) = false := by
  intro hs
  have h1 : (bl r)[s.size]? = some (r[s.size]'hs) := by
    simp only [bl]
    rw [List.getElem?_eq_getElem (by simpa using hs)]
    rfl
  rw [h, List.getElem?_append_right (by rw [bl_len]; exact Nat.le_refl _), bl_len] at h1
  simp at h1
  rw [← h1]
  rfl
theorem f4_of (r s : ByteArray) (t : List UInt8) (h : bl r = t ++ bl s) (i : Nat) (hi : i = t.length) : (r.extract i r.size).toList = s.toList := by
  rw [toList_bl, toList_bl, ex_bl, ← bl_len, h, hi, List.take_of_length_le (Nat.le_refl _)]
  simp
theorem vt3 (s0 s1 s2 s4 : ByteArray) (a : Option Addr) (ss : List ByteArray) : vtext s0 s1 s2 s4 a ss = bl s0 ++ 46 :: (bl s1 ++ 46 :: (bl s2 ++ ((if a.isNone then [] else 45 :: Lib.join (ss.map bl) [46]) ++ (if bl s4 = [] then [] else 43 :: bl s4)))) := by
  have : Lib.join [bl s0, bl s1, bl s2] [46] = bl s0 ++ 46 :: (bl s1 ++ 46 :: bl s2) := by
    rw [Lib.join_cons]; simp [Lib.joinTail]
  rw [vtext, this]
  simp
theorem vlen (r s0 s1 s2 s4 : ByteArray) (a : Option Addr) (ss : List ByteArray) (h : bl r = vtext s0 s1 s2 s4 a ss) : r.size = s0.size + s1.size + s2.size + 2 + (if a.isNone then 0 else 1 + (tsz ss + (ss.length - 1))) + (if bl s4 = [] then 0 else 1 + s4.size) := by
  have h1 := congrArg List.length h
  rw [vt3, bl_len] at h1
  simp only [List.length_append, List.length_cons, bl_len] at h1
  have h2 := join_len ss
  rw [h1]
  by_cases ha : a.isNone = true <;> by_cases hb : bl s4 = [] <;> simp [ha, hb, h2, bl_len] <;> omega

set_option maxRecDepth 100000 in
set_option maxHeartbeats 6400000 in
theorem main8 (w : World) (s0 s1 s2 s4 : ByteArray) (a : Option Addr) (n c : Nat) (ss : List ByteArray) (h : RdS w a n c ss) (hT : s0.size + s1.size + s2.size + s4.size + 16 * n ≤ 1048576) :
    Calls Try.prog 8 #[.string s0, .string s1, .string s2, .slice a n c, .string s4] w fun x w' => x = .returned (.bool true) ∧ Below w.heap.size w w' := by
  have H1 := (show Hid (_) from h)
  clear h
  have hq := q31
  have hr := r31
  obtain ⟨n0, hn0⟩ : ∃ n, s0.size = n := ⟨_, rfl⟩
  obtain ⟨n1, hn1⟩ : ∃ n, s1.size = n := ⟨_, rfl⟩
  obtain ⟨n2, hn2⟩ : ∃ n, s2.size = n := ⟨_, rfl⟩
  obtain ⟨n4, hn4⟩ : ∃ n, s4.size = n := ⟨_, rfl⟩
  rw [hn0, hn1, hn2, hn4] at hT
  go_enter Try.func8, Try.ntmps8
  go_wp2_with fail
  refine (zz25_any w s0 s1 s2 s4 a n c ss H1.out).mono ?_
  rintro x w' ⟨⟨b, rfl⟩, hw'⟩
  obtain rfl := hw'.symm
  clear hw'
  cases b
  · go_wp2_with fail
    go_ret
    exact ⟨rfl, Below.refl _ _⟩
  go_wp2_with fail
  go_loop [11, 12] (fun z i => ∃ s k : Nat, s ≤ 1048576 ∧ k ≤ n ∧ z = .int .i64 s ∧ i = .int .i64 k ∧ s = n0 + n1 + n2 + n4 + 16 * n + tsz (ss.take k)) (fun _ i => n - (intOf i).toNat)
  case atStart => exact ⟨n0 + n1 + n2 + n4 + 16 * n, 0, hT, Nat.zero_le _, by go_num, rfl, by simp [tsz]⟩
  case round =>
    obtain ⟨s, k, hs1, hi1, rfl, rfl, hsum⟩ := hrel
    have HS := (show Hid (_) from hsum)
    clear hsum
    by_cases hlt : k < n
    · obtain ⟨b, off, t, rfl, hcell, hss⟩ := H1.out.at hlt
      have HZ := (show Hid (_) from tsz_take ss k t hss)
      clear hss
      by_cases p1 : t.size ≤ 1048576
      · by_cases p2 : s + t.size ≤ 1048576
        · go_wp2_with fail
          go_round
          case rel => exact ⟨s + t.size, k + 1, p2, by omega, by go_num, by go_num, by have := HZ.out; have := HS.out; omega⟩
          case measure => simp [intOf]; omega
        · go_wp2_with fail
          go_ret
          exact ⟨rfl, Below.refl _ _⟩
      · go_wp2_with fail
        go_ret
        exact ⟨rfl, Below.refl _ _⟩
    · obtain rfl : k = n := by omega
      have htz : tsz ss ≤ 1048576 := by have h1 := HS.out; have h2 := H1.out.len; rw [List.take_of_length_le (by omega)] at h1; omega
      clear HS hs1 hi1
      go_wp2_with fail
      refine (cloneS_any a k c ss (by omega) _ H1.out).mono ?_
      rintro e w1 ⟨a', rfl, hni, hb1, hr1⟩
      go_wp2_with fail
      refine (newV s0 s1 s2 s4 a' k k _).mono ?_
      rintro e w2 ⟨rfl, hb2⟩
      go_wp2_with fail
      refine (str22 s0 s1 s2 s4 a' k k ss _ (by omega) (by omega) (hr1.later hb2) (Nat.le_refl _) (by omega) htz).mono ?_
      rintro e w3 ⟨r, rfl, hr, hb3⟩
      have HR := (show Hid (_) from (hr1.later hb2).later hb3)
      have HB := (show Hid (_) from hb1.trans ((hb2.mono hb1.size).trans (hb3.mono (Nat.le_trans hb1.size hb2.size))))
      have hv := (vt3 s0 s1 s2 s4 a' ss).symm.trans hr.symm
      have hvl := vlen r s0 s1 s2 s4 a' ss hr
      have f2 := f2_of r s0 _ hv.symm
      have f3 := f3_of r s0 _ hv.symm
      rw [hn0, hn1, hn2, hn4] at hvl
      rw [hn0] at f2
      have f3' : ∀ h : n0 < r.size, (((r[n0]'h).toNat : Int) != 46) = false := by
        subst hn0
        exact f3
      have HL := (show Hid (_) from H1.out.len)
      clear hr1 hb1 hb2 hb3 hr hni f3 H1
      have hr := r31
      by_cases he : s4 = ⟨#[]⟩
      · subst he
        have e0 : bl ⟨#[]⟩ = [] := rfl
        rw [if_pos e0] at hv hvl
        obtain rfl | ⟨x, rfl⟩ : a' = none ∨ ∃ x, a' = some x := by cases a' <;> simp
        · obtain ⟨rfl, -⟩ := HR.out.nil rfl
          simp only [Option.isNone_none, if_true, List.append_nil, Nat.add_zero] at hv hvl
          have f4 := f4_of r s2 (bl s0 ++ 46 :: (bl s1 ++ [46])) (by rw [← hv]; simp) (n0 + n1 + n2 + 2 - n2) (by simp [bl_len]; omega)
          rw [hvl] at f4
          clear hv htz
          go_wp2_with fail
          all_goals
            go_ret
            exact ⟨rfl, HB.out⟩
        · simp only [Option.isNone_some, Bool.false_eq_true, if_false, List.append_nil, Nat.add_zero] at hv hvl
          clear hv
          obtain ⟨R, hR⟩ : ∃ R, r.size = R := ⟨_, rfl⟩
          rw [hR] at hvl
          have HW := (show Hid (_) from hvl)
          have b1 : n0 < R := by omega
          have b2 : R ≤ 4194304 := by have := HL.out; omega
          clear hvl
          go_wp2_with fail
          go_loop [14, 15] (fun z i => ∃ s j : Nat, s ≤ 4194304 ∧ j ≤ k ∧ z = .int .i64 s ∧ i = .int .i64 j ∧ s = n0 + n1 + n2 + 3 + tsz (ss.take j)) (fun _ i => k - (intOf i).toNat)
          case atStart => exact ⟨n0 + n1 + n2 + 3, 0, by omega, Nat.zero_le _, by go_num, rfl, by simp [tsz]⟩
          case round =>
            obtain ⟨s, j, hs1, hi1, rfl, rfl, hsum⟩ := hrel
            have HS := (show Hid (_) from hsum)
            clear hsum
            by_cases hlt : j < k
            · obtain ⟨b, off, t, hax, hcell, hss⟩ := HR.out.at hlt
              obtain rfl := Option.some.inj hax
              have hz := tsz_take ss j t hss
              have hz2 := tsz_le ss (j + 1)
              have p2 : s + t.size ≤ 4194304 := by have := HS.out; omega
              have HZ := (show Hid (_) from hz)
              clear hss hz hz2 hax
              go_wp2_with fail
              go_round
              case rel => exact ⟨s + t.size, j + 1, p2, by omega, by go_num, by go_num, by have := HZ.out; have := HS.out; omega⟩
              case measure => simp [intOf]; omega
            · obtain rfl : j = k := by omega
              have hs2 : s = n0 + n1 + n2 + 3 + tsz ss := by have h1 := HS.out; have h2 := HL.out; rw [List.take_of_length_le (by omega)] at h1; omega
              by_cases hk1 : 1 < j
              · have f1 : ((R : Int) != (s : Int) + ((j : Int) - 1)) = false := by have := HW.out; have := HL.out; simp; omega
                clear hs2
                go_wp2_with fail
                all_goals
                  go_ret
                  exact ⟨rfl, HB.out⟩
              · have f1 : ((R : Int) != (s : Int)) = false := by have := HW.out; have := HL.out; simp; omega
                clear hs2
                go_wp2_with fail
                all_goals
                  go_ret
                  exact ⟨rfl, HB.out⟩
      · have hbl : bl s4 ≠ [] := fun h => he ((empty_iff s4).2 h)
        have hne2 : s4.toList.isEmpty = false := by rw [toList_bl]; simpa using hbl
        rw [if_neg hbl] at hv hvl
        obtain ⟨F, hF1, hF2, hF3⟩ := add_any ⟨#[43]⟩ s4 (by decide) (by omega)
        have hF1' : bl F = 43 :: bl s4 := hF1
        clear hbl he hF1 hF2
        obtain rfl | ⟨x, rfl⟩ : a' = none ∨ ∃ x, a' = some x := by cases a' <;> simp
        · obtain ⟨rfl, -⟩ := HR.out.nil rfl
          simp only [Option.isNone_none, if_true, List.nil_append, Nat.add_zero] at hv hvl
          have f4 := f4_of r F (bl s0 ++ 46 :: (bl s1 ++ 46 :: bl s2)) (by rw [← hv, hF1']; simp) (n0 + n1 + n2 + 2 + (1 + n4) - n4 - 1) (by simp [bl_len]; omega)
          rw [hvl] at f4
          clear hv htz hF1'
          go_wp2_with fail
          all_goals
            go_ret
            exact ⟨rfl, HB.out⟩
        · simp only [Option.isNone_some, Bool.false_eq_true, if_false, List.append_nil, Nat.add_zero] at hv hvl
          have f4 := f4_of r F (bl s0 ++ 46 :: (bl s1 ++ 46 :: (bl s2 ++ (45 :: Lib.join (ss.map bl) [46])))) (by rw [← hv, hF1']; simp) (r.size - n4 - 1) (by have h1 := join_len ss; simp [bl_len, h1]; omega)
          clear hv hF1'
          obtain ⟨R, hR⟩ : ∃ R, r.size = R := ⟨_, rfl⟩
          rw [hR] at hvl f4
          have b3 : n4 + 1 ≤ R := by omega
          have HW := (show Hid (_) from hvl)
          have b1 : n0 < R := by omega
          have b2 : R ≤ 8388608 := by have := HL.out; omega
          clear hvl
          go_wp2_with fail
          go_loop [14, 15] (fun z i => ∃ s j : Nat, s ≤ 4194304 ∧ j ≤ k ∧ z = .int .i64 s ∧ i = .int .i64 j ∧ s = n0 + n1 + n2 + 3 + tsz (ss.take j)) (fun _ i => k - (intOf i).toNat)
          case atStart => exact ⟨n0 + n1 + n2 + 3, 0, by omega, Nat.zero_le _, by go_num, rfl, by simp [tsz]⟩
          case round =>
            obtain ⟨s, j, hs1, hi1, rfl, rfl, hsum⟩ := hrel
            have HS := (show Hid (_) from hsum)
            clear hsum
            by_cases hlt : j < k
            · obtain ⟨b, off, t, hax, hcell, hss⟩ := HR.out.at hlt
              obtain rfl := Option.some.inj hax
              have hz := tsz_take ss j t hss
              have hz2 := tsz_le ss (j + 1)
              have p2 : s + t.size ≤ 4194304 := by have := HS.out; omega
              have HZ := (show Hid (_) from hz)
              clear hss hz hz2 hax
              go_wp2_with fail
              go_round
              case rel => exact ⟨s + t.size, j + 1, p2, by omega, by go_num, by go_num, by have := HZ.out; have := HS.out; omega⟩
              case measure => simp [intOf]; omega
            · obtain rfl : j = k := by omega
              have hs2 : s = n0 + n1 + n2 + 3 + tsz ss := by have h1 := HS.out; have h2 := HL.out; rw [List.take_of_length_le (by omega)] at h1; omega
              by_cases hk1 : 1 < j
              · have f1 : ((R : Int) != (s : Int) + ((j : Int) - 1) + (1 + (n4 : Int))) = false := by have := HW.out; have := HL.out; simp; omega
                clear hs2
                go_wp2_with fail
                all_goals
                  go_ret
                  exact ⟨rfl, HB.out⟩
              · have f1 : ((R : Int) != (s : Int) + (1 + (n4 : Int))) = false := by have := HW.out; have := HL.out; simp; omega
                clear hs2
                go_wp2_with fail
                all_goals
                  go_ret
                  exact ⟨rfl, HB.out⟩

end Go.Proofs.Qxb6602919a
