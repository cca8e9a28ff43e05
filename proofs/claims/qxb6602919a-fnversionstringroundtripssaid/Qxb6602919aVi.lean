import Derived.Test.Qxb6602919aVh
namespace Go.Proofs.Qxb6602919a
open Go.RowKit
set_option linter.unusedVariables false
set_option linter.unusedSimpArgs false

set_option maxRecDepth 100000 in
set_option maxHeartbeats 1600000 in
theorem early7 (w : World) (s0 s1 s2 s4 : ByteArray) (a : Option Addr) (n c : Nat) (ss : List ByteArray) (h : RdS w a n c ss) (hT : ¬ s0.size + s1.size + s2.size + s4.size + 16 * n ≤ 1048576) :
    Calls Try.prog 7 #[.string s0, .string s1, .string s2, .slice a n c, .string s4] w fun x w' => x = .returned (.bool true) ∧ w' = w := by
  have H1 := (show Hid (_) from h)
  clear h
  obtain ⟨n0, hn0⟩ : ∃ n, s0.size = n := ⟨_, rfl⟩
  obtain ⟨n1, hn1⟩ : ∃ n, s1.size = n := ⟨_, rfl⟩
  obtain ⟨n2, hn2⟩ : ∃ n, s2.size = n := ⟨_, rfl⟩
  obtain ⟨n4, hn4⟩ : ∃ n, s4.size = n := ⟨_, rfl⟩
  rw [hn0, hn1, hn2, hn4] at hT
  rcases (show 65536 < n ∨ (n ≤ 65536 ∧ 1048576 < n0) ∨ (n ≤ 65536 ∧ n0 ≤ 1048576 ∧ 1048576 < n1) ∨ (n ≤ 65536 ∧ n0 ≤ 1048576 ∧ n1 ≤ 1048576 ∧ 1048576 < n2) ∨ (n ≤ 65536 ∧ n0 ≤ 1048576 ∧ n1 ≤ 1048576 ∧ n2 ≤ 1048576 ∧ 1048576 < n4) ∨ (n ≤ 65536 ∧ n0 ≤ 1048576 ∧ n1 ≤ 1048576 ∧ n2 ≤ 1048576 ∧ n4 ≤ 1048576) by omega) with q | ⟨q, q'⟩ | ⟨q, q', q''⟩ | ⟨q, q', q'', q3⟩ | ⟨q, q', q'', q3, q4⟩ | ⟨q, q', q'', q3, q4⟩
  all_goals
    go_enter Try.func7, Try.ntmps7
    go_wp2_with fail
    refine (zz17_any w s0 s1 s2 s4 a n c ss H1.out).mono ?_
    rintro x w' ⟨⟨b, rfl⟩, rfl⟩
    cases b
    all_goals
      go_wp2_with fail
      go_ret
      exact ⟨rfl, rfl⟩

set_option maxRecDepth 100000 in
set_option maxHeartbeats 12800000 in
theorem main7 (w : World) (s0 s1 s2 s4 : ByteArray) (a : Option Addr) (n c : Nat) (ss : List ByteArray) (h : RdS w a n c ss) (hT : s0.size + s1.size + s2.size + s4.size + 16 * n ≤ 1048576) :
    Calls Try.prog 7 #[.string s0, .string s1, .string s2, .slice a n c, .string s4] w fun x w' => x = .returned (.bool true) ∧ Below w.heap.size w w' := by
  have H1 := (show Hid (_) from h)
  clear h
  have hq := q31
  have hr := r31
  obtain ⟨n0, hn0⟩ : ∃ n, s0.size = n := ⟨_, rfl⟩
  obtain ⟨n1, hn1⟩ : ∃ n, s1.size = n := ⟨_, rfl⟩
  obtain ⟨n2, hn2⟩ : ∃ n, s2.size = n := ⟨_, rfl⟩
  obtain ⟨n4, hn4⟩ : ∃ n, s4.size = n := ⟨_, rfl⟩
  rw [hn0, hn1, hn2, hn4] at hT
  go_enter Try.func7, Try.ntmps7
  go_wp2_with fail
  refine (zz17_any w s0 s1 s2 s4 a n c ss H1.out).mono ?_
  rintro x w' ⟨⟨b, rfl⟩, hw'⟩
  obtain rfl := hw'.symm
  clear hw'
  cases b
  · go_wp2_with fail
    go_ret
    exact ⟨rfl, Below.refl _ _⟩
  go_wp2_with fail
  go_loop [11, 12] (fun z i => ∃ s k : Nat, s ≤ 1048576 ∧ k ≤ n ∧ z = .int .i64 s ∧ i = .int .i64 k ∧ s = n0 + n1 + n2 + n4 + 16 * n + tsz (ss.take k)) (fun _ i => n - (intOf i).toNat)
  case atStart => exact ⟨n0 + n1 + n2 + n4 + 16 * n, 0, hT, Nat.zero_le _, by go_num, rfl, by simp [tsz]⟩
  case round =>
    obtain ⟨s, k, hs1, hi1, rfl, rfl, hsum⟩ := hrel
    have HS := (show Hid (_) from hsum)
    clear hsum
    by_cases hlt : k < n
    · obtain ⟨b, off, t, rfl, hcell, hss⟩ := H1.out.at hlt
      have HZ := (show Hid (_) from tsz_take ss k t hss)
      clear hss
      by_cases p1 : t.size ≤ 1048576
      · by_cases p2 : s + t.size ≤ 1048576
        · go_wp2_with fail
          go_round
          case rel => exact ⟨s + t.size, k + 1, p2, by omega, by go_num, by go_num, by have := HZ.out; have := HS.out; omega⟩
          case measure => simp [intOf]; omega
        · go_wp2_with fail
          go_ret
          exact ⟨rfl, Below.refl _ _⟩
      · go_wp2_with fail
        go_ret
        exact ⟨rfl, Below.refl _ _⟩
    · obtain rfl : k = n := by omega
      have htz : tsz ss ≤ 1048576 := by have h1 := HS.out; have h2 := H1.out.len; rw [List.take_of_length_le (by omega)] at h1; omega
      have HE := (show Hid (∀ x ∈ ss, x.size ≤ 1048576) from fun x hx => by
        obtain ⟨i, hi⟩ := List.getElem?_of_mem hx
        have h1 := tsz_take ss i x hi
        have h2 := tsz_le ss (i + 1)
        omega)
      clear HS hs1 hi1
      go_wp2_with fail
      refine (dec18 s0 (by omega) _).mono ?_
      rintro e w' ⟨⟨b, rfl, hb⟩, hw'⟩
      obtain rfl := hw'.symm
      clear hw'
      cases b
      · go_wp2_with fail
        go_ret
        exact ⟨rfl, Below.refl _ _⟩
      have HD0 := (show Hid (_) from hb rfl)
      clear hb
      go_wp2_with fail
      refine (dec18 s1 (by omega) _).mono ?_
      rintro e w' ⟨⟨b, rfl, hb⟩, hw'⟩
      obtain rfl := hw'.symm
      clear hw'
      cases b
      · go_wp2_with fail
        go_ret
        exact ⟨rfl, Below.refl _ _⟩
      have HD1 := (show Hid (_) from hb rfl)
      clear hb
      go_wp2_with fail
      refine (dec18 s2 (by omega) _).mono ?_
      rintro e w' ⟨⟨b, rfl, hb⟩, hw'⟩
      obtain rfl := hw'.symm
      clear hw'
      cases b
      · go_wp2_with fail
        go_ret
        exact ⟨rfl, Below.refl _ _⟩
      have HD2 := (show Hid (_) from hb rfl)
      clear hb
      have hsh : (a = none ∧ k = 0) ∨ (∃ x, a = some x ∧ k = 0) ∨ (∃ b off, a = some ⟨b, off, none⟩ ∧ 0 < k) := by
        by_cases h0 : k = 0
        · cases a with
          | none => exact Or.inl ⟨rfl, h0⟩
          | some x => exact Or.inr (Or.inl ⟨x, rfl, h0⟩)
        · obtain ⟨b, off, t, e, _, _⟩ := H1.out.at (k := 0) (by omega)
          exact Or.inr (Or.inr ⟨b, off, e, by omega⟩)
      rcases hsh with ⟨rfl, hk0⟩ | ⟨x, rfl, hk0⟩ | ⟨b, off, rfl, hk0⟩
      · have HL := (show Hid (_) from H1.out.len)
        have HNO := (show Hid (_) from core_no HD0.out HD1.out HD2.out)
        have HND := (show Hid (∀ x ∈ [s0, s1, s2], (46 : UInt8) ∉ bl x) from fun x hx => by
          simp only [List.mem_cons, List.not_mem_nil, or_false] at hx
          rcases hx with rfl | rfl | rfl
          · exact dec_nodot HD0.out
          · exact dec_nodot HD1.out
          · exact dec_nodot HD2.out)
        have HC43 := (show Hid (∀ x ∈ core s0 s1 s2, x.toNat ≠ 43) from fun x hx => (HNO.out x hx).1)
        obtain ⟨k0, hk00⟩ : ∃ k0 : Nat, k0 = 0 := ⟨_, rfl⟩
        subst hk0
        have HBX := (show Hid (Below w.heap.size w w) from Below.refl _ _)
        go_wp2_with fail
        refine wp_loop_rounds 1 ?_
        rw [rounds_succ]
        by_cases he : s4 = ⟨#[]⟩
        · subst he
          go_wp2_with fail
          refine (cloneS_any none 0 c ss (by omega) _ (H1.out.later HBX.out)).mono ?_
          rintro e w1 ⟨a', rfl, hni, hb1, hr1⟩
          go_wp2_with fail
          refine (newV s0 s1 s2 ⟨#[]⟩ a' 0 0 _).mono ?_
          rintro e w2 ⟨rfl, hb2⟩
          go_wp2_with fail
          refine (str22 s0 s1 s2 ⟨#[]⟩ a' 0 0 ss _ (by omega) (by omega) (hr1.later hb2) (Nat.le_refl _) (by omega) htz).mono ?_
          rintro e w3 ⟨r, rfl, hr, hb3⟩
          have HR := (show Hid (_) from (hr1.later hb2).later hb3)
          have z1 := HBX.out.size
          have z2 := Nat.le_trans z1 hb1.size
          have z3 := Nat.le_trans z2 hb2.size
          have HB3 := (show Hid (Below w.heap.size w w3) from HBX.out.trans ((hb1.mono z1).trans ((hb2.mono z2).trans (hb3.mono z3))))
          have hvl := vlen r s0 s1 s2 ⟨#[]⟩ a' ss hr
          have hrz : r.size ≤ 8388608 := by
            rw [hvl]
            have h1 := HL.out
            split <;> split <;> omega
          rw [vt3] at hr
          have hrr := r31
          have hqq := q31
          clear z1 z2 z3 hr1 hb1 hb2 hb3 hvl
          obtain rfl : a' = none := by cases a' with
            | none => rfl
            | some y => simp at hni
          clear hni
          have hv : bl r = core s0 s1 s2 := by rw [hr]; simp [core, bl]
          clear hr
          have n43 : ∀ x ∈ bl r, x.toNat ≠ 43 := by rw [hv]; exact HC43.out
          go_wp2_with fail
          refine (idx_none r hrz 43 n43 _).mono ?_
          rintro e w4 ⟨rfl, hw4⟩
          obtain rfl := hw4.symm
          clear hw4
          have n45 : ∀ x ∈ bl r, x.toNat ≠ 45 := by rw [hv]; exact fun x hx => (HNO.out x hx).2
          go_wp2_with fail
          refine (idx_none r hrz 45 n45 _).mono ?_
          rintro e w5 ⟨rfl, hw5⟩
          obtain rfl := hw5.symm
          clear hw5
          go_wp2_with fail
          refine (split_is r hrz [s0, s1, s2] 3 rfl (by simp) (hv.trans (core_join s0 s1 s2)) HND.out _).mono ?_
          rintro e w6 ⟨b6, o6, c6, rfl, hr6, hb6⟩
          have g0 := hr6.cell _ rfl 0 s0 rfl
          have g1 := hr6.cell _ rfl 1 s1 rfl
          have g2 := hr6.cell _ rfl 2 s2 rfl
          rw [Addr.add_lit] at g0 g1 g2
          rw [Nat.add_zero] at g0
          have HB6 := (show Hid (Below w.heap.size w w6) from HB3.out.trans (hb6.mono HB3.out.size))
          clear hr6 hb6
          go_wp2_with fail
          all_goals
            go_ret
            exact ⟨by simp, HB6.out⟩
        · have hbl : bl s4 ≠ [] := fun h => he ((empty_iff s4).2 h)
          have HNE4 := (show Hid (_) from hbl)
          have hne2 : s4.toList.isEmpty = false := by rw [toList_bl]; simpa using hbl
          clear he hbl
          go_wp2_with fail
          refine (dot19 s4 (by omega) _).mono ?_
          rintro e wd ⟨⟨b4, rfl⟩, hbd⟩
          have HBX' := (show Hid (Below w.heap.size w wd) from HBX.out.trans (hbd.mono HBX.out.size))
          clear HBX hbd
          have HBX := HBX'
          clear HBX'
          cases b4
          · go_wp2_with fail
            go_ret
            exact ⟨rfl, HBX.out⟩
          go_wp2_with fail
          refine (cloneS_any none 0 c ss (by omega) _ (H1.out.later HBX.out)).mono ?_
          rintro e w1 ⟨a', rfl, hni, hb1, hr1⟩
          go_wp2_with fail
          refine (newV s0 s1 s2 s4 a' 0 0 _).mono ?_
          rintro e w2 ⟨rfl, hb2⟩
          go_wp2_with fail
          refine (str22 s0 s1 s2 s4 a' 0 0 ss _ (by omega) (by omega) (hr1.later hb2) (Nat.le_refl _) (by omega) htz).mono ?_
          rintro e w3 ⟨r, rfl, hr, hb3⟩
          have HR := (show Hid (_) from (hr1.later hb2).later hb3)
          have z1 := HBX.out.size
          have z2 := Nat.le_trans z1 hb1.size
          have z3 := Nat.le_trans z2 hb2.size
          have HB3 := (show Hid (Below w.heap.size w w3) from HBX.out.trans ((hb1.mono z1).trans ((hb2.mono z2).trans (hb3.mono z3))))
          have hvl := vlen r s0 s1 s2 s4 a' ss hr
          have hrz : r.size ≤ 8388608 := by
            rw [hvl]
            have h1 := HL.out
            split <;> split <;> omega
          rw [vt3] at hr
          have hrr := r31
          have hqq := q31
          clear z1 z2 z3 hr1 hb1 hb2 hb3 hvl
          obtain rfl : a' = none := by cases a' with
            | none => rfl
            | some y => simp at hni
          clear hni
          have hv : bl r = core s0 s1 s2 ++ 43 :: bl s4 := by rw [hr, if_neg HNE4.out]; simp [core]
          clear hr
          obtain ⟨m, hm⟩ : ∃ m, (core s0 s1 s2).length = m := ⟨_, rfl⟩
          obtain ⟨R, hR⟩ : ∃ R, r.size = R := ⟨_, rfl⟩
          have hmR : R = m + 1 + n4 := by rw [← hR, ← bl_len, hv, ← hm, ← hn4, ← bl_len]; simp; omega
          obtain ⟨h0, hh0⟩ : ∃ x, r.extract 0 m = x := ⟨_, rfl⟩
          have hv0 : bl h0 = core s0 s1 s2 := by rw [← hh0, ex_bl, hv, List.take_left' hm, List.drop_zero]
          have h0z : h0.size ≤ 8388608 := by rw [← bl_len, hv0, hm]; omega
          have f5 := f4_of r s4 (core s0 s1 s2 ++ [43]) (by rw [hv]; simp) (m + 1) (by rw [List.length_append, hm]; rfl)
          rw [hR] at f5
          have hat43 := idx_at r hrz 43 (core s0 s1 s2) _ 43 rfl hv HC43.out
          rw [hm] at hat43
          have HAT43 := (show Hid (_) from hat43)
          have hmR2 : m + 1 ≤ R := by omega
          have hRz : R ≤ 8388608 := by omega
          clear hat43 hm hmR hv
          go_wp2_with fail
          refine (HAT43.out _).mono ?_
          rintro e w4 ⟨rfl, hw4⟩
          obtain rfl := hw4.symm
          clear hw4
          have n45 : ∀ x ∈ bl h0, x.toNat ≠ 45 := by rw [hv0]; exact fun x hx => (HNO.out x hx).2
          go_wp2_with fail
          refine (idx_none h0 h0z 45 n45 _).mono ?_
          rintro e w5 ⟨rfl, hw5⟩
          obtain rfl := hw5.symm
          clear hw5
          go_wp2_with fail
          refine (split_is h0 h0z [s0, s1, s2] 3 rfl (by simp) (hv0.trans (core_join s0 s1 s2)) HND.out _).mono ?_
          rintro e w6 ⟨b6, o6, c6, rfl, hr6, hb6⟩
          have g0 := hr6.cell _ rfl 0 s0 rfl
          have g1 := hr6.cell _ rfl 1 s1 rfl
          have g2 := hr6.cell _ rfl 2 s2 rfl
          rw [Addr.add_lit] at g0 g1 g2
          rw [Nat.add_zero] at g0
          have HB6 := (show Hid (Below w.heap.size w w6) from HB3.out.trans (hb6.mono HB3.out.size))
          clear hr6 hb6
          go_wp2_with fail
          all_goals
            go_ret
            exact ⟨by simp, HB6.out⟩
      · have hz0 : ((k : Int) == 0) = true := by simp [hk0]
        clear hk0
        go_wp2_with fail
        go_ret
        exact ⟨rfl, Below.refl _ _⟩
      · have HL := (show Hid (_) from H1.out.len)
        have HNO := (show Hid (_) from core_no HD0.out HD1.out HD2.out)
        have HND := (show Hid (∀ x ∈ [s0, s1, s2], (46 : UInt8) ∉ bl x) from fun x hx => by
          simp only [List.mem_cons, List.not_mem_nil, or_false] at hx
          rcases hx with rfl | rfl | rfl
          · exact dec_nodot HD0.out
          · exact dec_nodot HD1.out
          · exact dec_nodot HD2.out)
        have hk1 : ((k : Int) == 0) = false := by simp; omega
        have HNE := (show Hid (ss ≠ []) from fun h => by have := HL.out; rw [h] at this; simp at this; omega)
        go_wp2_with fail
        go_loopw [13] (fun i wr => ∃ j : Nat, j ≤ k ∧ i = .int .i64 j ∧ Hid (Below w.heap.size w wr) ∧ Hid (∀ q x, q < j → ss[q]? = some x → OkTo x Idc x.size)) (fun i _ => k - (intOf i).toNat)
        case atStart => exact ⟨0, by omega, rfl, (show Below _ _ _ from Below.refl _ _), (show ∀ q x, q < 0 → _ → _ from fun q x h => by omega)⟩
        case round =>
          obtain ⟨j, hj, rfl, HBX, HID⟩ := hrel
          by_cases hlt2 : j < k
          · obtain ⟨b7, o7, t, he7, hc7, hs7⟩ := (H1.out.later HBX.out).at hlt2
            obtain ⟨rfl, rfl⟩ : b7 = b ∧ o7 = off := by simp at he7; omega
            have HT := (show Hid (_) from And.intro hs7 (HE.out t (List.mem_of_getElem? hs7)))
            clear he7 hs7
            go_wp2_with fail
            refine (id14 t HT.out.2 _).mono ?_
            rintro e wd ⟨⟨b4, rfl, hb4⟩, hbd⟩
            have HBY := (show Hid (Below w.heap.size w wd) from HBX.out.trans (hbd.mono HBX.out.size))
            have HB4 := (show Hid (_) from hb4)
            clear hbd hb4
            cases b4
            · go_wp2_with fail
              go_ret
              exact ⟨rfl, HBY.out⟩
            · go_wp2_with fail
              go_roundw
              case rel =>
                refine ⟨j + 1, by omega, by go_num, HBY, (show ∀ q x, q < j + 1 → ss[q]? = some x → OkTo x Idc x.size from fun q x hq hx => ?_)⟩
                by_cases e : q = j
                · subst e
                  rw [HT.out.1] at hx
                  obtain rfl := Option.some.inj hx
                  exact HB4.out (by trivial)
                · exact HID.out q x (by omega) hx
              case measure => simp [intOf]; omega
          · obtain rfl : j = k := by omega
            have hall : ∀ x ∈ ss, OkTo x Idc x.size := fun x hx => by
              obtain ⟨q, hq⟩ := List.getElem?_of_mem hx
              exact HID.out q x (by have := (List.getElem?_eq_some_iff.1 hq).1; have := HL.out; omega) hq
            have HSD := (show Hid (∀ x ∈ ss, (46 : UInt8) ∉ bl x) from fun x hx => idc_nodot (hall x hx))
            have HC43 := (show Hid (∀ x ∈ core s0 s1 s2 ++ 45 :: Lib.join (ss.map bl) [46], x.toNat ≠ 43) from fun x hx => by
              rcases List.mem_append.1 hx with h | h
              · exact (HNO.out x h).1
              · rcases List.mem_cons.1 h with rfl | h
                · decide
                · exact join_no hall x h)
            clear hall HID
            by_cases he : s4 = ⟨#[]⟩
            · subst he
              go_wp2_with fail
              refine (cloneS_any (some ⟨b, off, none⟩) j c ss (by omega) _ (H1.out.later HBX.out)).mono ?_
              rintro e w1 ⟨a', rfl, hni, hb1, hr1⟩
              go_wp2_with fail
              refine (newV s0 s1 s2 ⟨#[]⟩ a' j j _).mono ?_
              rintro e w2 ⟨rfl, hb2⟩
              go_wp2_with fail
              refine (str22 s0 s1 s2 ⟨#[]⟩ a' j j ss _ (by omega) (by omega) (hr1.later hb2) (Nat.le_refl _) (by omega) htz).mono ?_
              rintro e w3 ⟨r, rfl, hr, hb3⟩
              have HR := (show Hid (_) from (hr1.later hb2).later hb3)
              have z1 := HBX.out.size
              have z2 := Nat.le_trans z1 hb1.size
              have z3 := Nat.le_trans z2 hb2.size
              have HB3 := (show Hid (Below w.heap.size w w3) from HBX.out.trans ((hb1.mono z1).trans ((hb2.mono z2).trans (hb3.mono z3))))
              have hvl := vlen r s0 s1 s2 ⟨#[]⟩ a' ss hr
              have hrz : r.size ≤ 8388608 := by
                rw [hvl]
                have h1 := HL.out
                split <;> split <;> omega
              rw [vt3] at hr
              have hrr := r31
              have hqq := q31
              clear z1 z2 z3 hr1 hb1 hb2 hb3 hvl
              obtain ⟨y, rfl⟩ : ∃ y, a' = some y := by cases a' with
                | none => simp at hni
                | some y => exact ⟨y, rfl⟩
              clear hni
              have hv : bl r = (core s0 s1 s2 ++ 45 :: Lib.join (ss.map bl) [46]) := by rw [hr]; simp [core, bl]
              clear hr
              have n43 : ∀ x ∈ bl r, x.toNat ≠ 43 := by rw [hv]; exact HC43.out
              go_wp2_with fail
              refine (idx_none r hrz 43 n43 _).mono ?_
              rintro e w4 ⟨rfl, hw4⟩
              obtain rfl := hw4.symm
              clear hw4
              obtain ⟨d, hd⟩ : ∃ d, (core s0 s1 s2).length = d := ⟨_, rfl⟩
              obtain ⟨H, hH⟩ : ∃ H, r.size = H := ⟨_, rfl⟩
              have hdH : H = d + 1 + (Lib.join (ss.map bl) [46]).length := by rw [← hH, ← hd, ← bl_len, hv]; simp; omega
              obtain ⟨co, hco⟩ : ∃ co, r.extract 0 d = co := ⟨_, rfl⟩
              have hcoJ : bl co = Lib.join ([s0, s1, s2].map bl) [46] := by rw [← hco, ex_bl, hv, ← core_join, ← hd]; simp
              have hcoz : co.size ≤ 8388608 := by rw [← bl_len, hcoJ, ← core_join, core_len]; omega
              obtain ⟨ft, hft⟩ : ∃ ft, r.extract (d + 1) H = ft := ⟨_, rfl⟩
              have hftJ : bl ft = Lib.join (ss.map bl) [46] := by
                rw [← hft, ex_bl, hv, List.take_of_length_le (by rw [hdH, ← hd]; simp; omega), ← hd]
                simp
              have hftz : ft.size ≤ 8388608 := by rw [← bl_len, hftJ, join_len]; have := HL.out; omega
              have hat := idx_at r hrz 45 (core s0 s1 s2) _ 45 rfl hv (fun z hz => (HNO.out z hz).2)
              rw [hd] at hat
              have hdH2 : d + 1 ≤ H := by omega
              have hdz : d ≤ 4194304 := by rw [← hd, core_len]; omega
              have HAT := (show Hid (_) from And.intro hat (And.intro hcoJ (And.intro hftJ hdH)))
              clear hat hcoJ hftJ hdH hd
              have hHz : H ≤ 8388608 := by rw [← hH]; exact hrz
              go_wp2_with fail
              refine (HAT.out.1 _).mono ?_
              rintro e w5 ⟨rfl, hw5⟩
              obtain rfl := hw5.symm
              clear hw5
              go_wp2_with fail
              refine (split_is ft hftz ss j HL.out HNE.out HAT.out.2.2.1 HSD.out _).mono ?_
              rintro e w5 ⟨b5, o5, c5, rfl, hr5, hb5⟩
              have HR5 := (show Hid (_) from And.intro hr5 (HR.out.later hb5))
              have HB5 := (show Hid (Below w.heap.size w w5) from HB3.out.trans (hb5.mono HB3.out.size))
              clear hr5 hb5
              go_wp2_with fail
              go_loopw [21] (fun i wr => ∃ q : Nat, q ≤ j ∧ i = .int .i64 q ∧ Hid (Below w5.heap.size w5 wr)) (fun i _ => j - (intOf i).toNat)
              case atStart => exact ⟨0, by omega, rfl, (show Below _ _ _ from Below.refl _ _)⟩
              case round =>
                obtain ⟨q, hq, rfl, HBQ⟩ := hrel
                by_cases hlt3 : q < j
                · obtain ⟨b7, o7, t7, he7, hc7, hs7⟩ := (HR5.out.1.later HBQ.out).at hlt3
                  obtain ⟨rfl, rfl⟩ : b7 = b5 ∧ o7 = o5 := by simp at he7; omega
                  obtain ⟨b8, o8, t8, he8, hc8, hs8⟩ := (HR5.out.2.later HBQ.out).at hlt3
                  obtain rfl := Option.some.inj he8
                  obtain rfl : t7 = t8 := by rw [hs7] at hs8; exact Option.some.inj hs8
                  clear he7 he8 hs7 hs8
                  have i1 : (0 : Int) ≤ (q : Int) ∧ (q : Int) < (j : Int) := by omega
                  go_wp2_with fail
                  go_region
                  all_goals
                    go_wp2_with fail
                    go_roundw
                    case rel => exact ⟨q + 1, by omega, by go_num, (show Below _ _ _ from HBQ.out.drew)⟩
                    case measure => simp [intOf]; omega
                · obtain rfl : q = j := by omega
                  have HB7 := (show Hid (_) from HB5.out.trans (HBQ.out.mono HB5.out.size))
                  go_wp2_with fail
                  refine (split_is co hcoz [s0, s1, s2] 3 rfl (by simp) HAT.out.2.1 HND.out _).mono ?_
                  rintro e w6 ⟨b6, o6, c6, rfl, hr6, hb6⟩
                  have g0 := hr6.cell _ rfl 0 s0 rfl
                  have g1 := hr6.cell _ rfl 1 s1 rfl
                  have g2 := hr6.cell _ rfl 2 s2 rfl
                  rw [Addr.add_lit] at g0 g1 g2
                  rw [Nat.add_zero] at g0
                  have HB6 := (show Hid (Below w.heap.size w w6) from HB7.out.trans (hb6.mono HB7.out.size))
                  clear hr6 hb6
                  go_wp2_with fail
                  all_goals
                    go_ret
                    exact ⟨by simp, HB6.out⟩
            · have hbl : bl s4 ≠ [] := fun h => he ((empty_iff s4).2 h)
              have HNE4 := (show Hid (_) from hbl)
              have hne2 : s4.toList.isEmpty = false := by rw [toList_bl]; simpa using hbl
              clear he hbl
              go_wp2_with fail
              refine (dot19 s4 (by omega) _).mono ?_
              rintro e wd ⟨⟨b4, rfl⟩, hbd⟩
              have HBX' := (show Hid (Below w.heap.size w wd) from HBX.out.trans (hbd.mono HBX.out.size))
              clear HBX hbd
              have HBX := HBX'
              clear HBX'
              cases b4
              · go_wp2_with fail
                go_ret
                exact ⟨rfl, HBX.out⟩
              go_wp2_with fail
              refine (cloneS_any (some ⟨b, off, none⟩) j c ss (by omega) _ (H1.out.later HBX.out)).mono ?_
              rintro e w1 ⟨a', rfl, hni, hb1, hr1⟩
              go_wp2_with fail
              refine (newV s0 s1 s2 s4 a' j j _).mono ?_
              rintro e w2 ⟨rfl, hb2⟩
              go_wp2_with fail
              refine (str22 s0 s1 s2 s4 a' j j ss _ (by omega) (by omega) (hr1.later hb2) (Nat.le_refl _) (by omega) htz).mono ?_
              rintro e w3 ⟨r, rfl, hr, hb3⟩
              have HR := (show Hid (_) from (hr1.later hb2).later hb3)
              have z1 := HBX.out.size
              have z2 := Nat.le_trans z1 hb1.size
              have z3 := Nat.le_trans z2 hb2.size
              have HB3 := (show Hid (Below w.heap.size w w3) from HBX.out.trans ((hb1.mono z1).trans ((hb2.mono z2).trans (hb3.mono z3))))
              have hvl := vlen r s0 s1 s2 s4 a' ss hr
              have hrz : r.size ≤ 8388608 := by
                rw [hvl]
                have h1 := HL.out
                split <;> split <;> omega
              rw [vt3] at hr
              have hrr := r31
              have hqq := q31
              clear z1 z2 z3 hr1 hb1 hb2 hb3 hvl
              obtain ⟨y, rfl⟩ : ∃ y, a' = some y := by cases a' with
                | none => simp at hni
                | some y => exact ⟨y, rfl⟩
              clear hni
              have hv : bl r = (core s0 s1 s2 ++ 45 :: Lib.join (ss.map bl) [46]) ++ 43 :: bl s4 := by rw [hr, if_neg HNE4.out]; simp [core]
              clear hr
              obtain ⟨m, hm⟩ : ∃ m, ((core s0 s1 s2 ++ 45 :: Lib.join (ss.map bl) [46])).length = m := ⟨_, rfl⟩
              obtain ⟨R, hR⟩ : ∃ R, r.size = R := ⟨_, rfl⟩
              have hmR : R = m + 1 + n4 := by rw [← hR, ← bl_len, hv, ← hm, ← hn4, ← bl_len]; simp; omega
              obtain ⟨h0, hh0⟩ : ∃ x, r.extract 0 m = x := ⟨_, rfl⟩
              have hv0 : bl h0 = (core s0 s1 s2 ++ 45 :: Lib.join (ss.map bl) [46]) := by rw [← hh0, ex_bl, hv, List.take_left' hm, List.drop_zero]
              have h0z : h0.size ≤ 8388608 := by rw [← bl_len, hv0, hm]; omega
              have f5 := f4_of r s4 ((core s0 s1 s2 ++ 45 :: Lib.join (ss.map bl) [46]) ++ [43]) (by rw [hv]; simp) (m + 1) (by rw [List.length_append, hm]; rfl)
              rw [hR] at f5
              have hat43 := idx_at r hrz 43 ((core s0 s1 s2 ++ 45 :: Lib.join (ss.map bl) [46])) _ 43 rfl hv HC43.out
              rw [hm] at hat43
              have HAT43 := (show Hid (_) from hat43)
              have hmR2 : m + 1 ≤ R := by omega
              have hRz : R ≤ 8388608 := by omega
              clear hat43 hm hmR hv
              go_wp2_with fail
              refine (HAT43.out _).mono ?_
              rintro e w4 ⟨rfl, hw4⟩
              obtain rfl := hw4.symm
              clear hw4
              obtain ⟨d, hd⟩ : ∃ d, (core s0 s1 s2).length = d := ⟨_, rfl⟩
              obtain ⟨H, hH⟩ : ∃ H, h0.size = H := ⟨_, rfl⟩
              have hdH : H = d + 1 + (Lib.join (ss.map bl) [46]).length := by rw [← hH, ← hd, ← bl_len, hv0]; simp; omega
              obtain ⟨co, hco⟩ : ∃ co, h0.extract 0 d = co := ⟨_, rfl⟩
              have hcoJ : bl co = Lib.join ([s0, s1, s2].map bl) [46] := by rw [← hco, ex_bl, hv0, ← core_join, ← hd]; simp
              have hcoz : co.size ≤ 8388608 := by rw [← bl_len, hcoJ, ← core_join, core_len]; omega
              obtain ⟨ft, hft⟩ : ∃ ft, h0.extract (d + 1) H = ft := ⟨_, rfl⟩
              have hftJ : bl ft = Lib.join (ss.map bl) [46] := by
                rw [← hft, ex_bl, hv0, List.take_of_length_le (by rw [hdH, ← hd]; simp; omega), ← hd]
                simp
              have hftz : ft.size ≤ 8388608 := by rw [← bl_len, hftJ, join_len]; have := HL.out; omega
              have hat := idx_at h0 h0z 45 (core s0 s1 s2) _ 45 rfl hv0 (fun z hz => (HNO.out z hz).2)
              rw [hd] at hat
              have hdH2 : d + 1 ≤ H := by omega
              have hdz : d ≤ 4194304 := by rw [← hd, core_len]; omega
              have HAT := (show Hid (_) from And.intro hat (And.intro hcoJ (And.intro hftJ hdH)))
              clear hat hcoJ hftJ hdH hd
              have hHz : H ≤ 8388608 := by rw [← hH]; exact h0z
              go_wp2_with fail
              refine (HAT.out.1 _).mono ?_
              rintro e w5 ⟨rfl, hw5⟩
              obtain rfl := hw5.symm
              clear hw5
              go_wp2_with fail
              refine (split_is ft hftz ss j HL.out HNE.out HAT.out.2.2.1 HSD.out _).mono ?_
              rintro e w5 ⟨b5, o5, c5, rfl, hr5, hb5⟩
              have HR5 := (show Hid (_) from And.intro hr5 (HR.out.later hb5))
              have HB5 := (show Hid (Below w.heap.size w w5) from HB3.out.trans (hb5.mono HB3.out.size))
              clear hr5 hb5
              go_wp2_with fail
              go_loopw [21] (fun i wr => ∃ q : Nat, q ≤ j ∧ i = .int .i64 q ∧ Hid (Below w5.heap.size w5 wr)) (fun i _ => j - (intOf i).toNat)
              case atStart => exact ⟨0, by omega, rfl, (show Below _ _ _ from Below.refl _ _)⟩
              case round =>
                obtain ⟨q, hq, rfl, HBQ⟩ := hrel
                by_cases hlt3 : q < j
                · obtain ⟨b7, o7, t7, he7, hc7, hs7⟩ := (HR5.out.1.later HBQ.out).at hlt3
                  obtain ⟨rfl, rfl⟩ : b7 = b5 ∧ o7 = o5 := by simp at he7; omega
                  obtain ⟨b8, o8, t8, he8, hc8, hs8⟩ := (HR5.out.2.later HBQ.out).at hlt3
                  obtain rfl := Option.some.inj he8
                  obtain rfl : t7 = t8 := by rw [hs7] at hs8; exact Option.some.inj hs8
                  clear he7 he8 hs7 hs8
                  have i1 : (0 : Int) ≤ (q : Int) ∧ (q : Int) < (j : Int) := by omega
                  go_wp2_with fail
                  go_region
                  all_goals
                    go_wp2_with fail
                    go_roundw
                    case rel => exact ⟨q + 1, by omega, by go_num, (show Below _ _ _ from HBQ.out.drew)⟩
                    case measure => simp [intOf]; omega
                · obtain rfl : q = j := by omega
                  have HB7 := (show Hid (_) from HB5.out.trans (HBQ.out.mono HB5.out.size))
                  go_wp2_with fail
                  refine (split_is co hcoz [s0, s1, s2] 3 rfl (by simp) HAT.out.2.1 HND.out _).mono ?_
                  rintro e w6 ⟨b6, o6, c6, rfl, hr6, hb6⟩
                  have g0 := hr6.cell _ rfl 0 s0 rfl
                  have g1 := hr6.cell _ rfl 1 s1 rfl
                  have g2 := hr6.cell _ rfl 2 s2 rfl
                  rw [Addr.add_lit] at g0 g1 g2
                  rw [Nat.add_zero] at g0
                  have HB6 := (show Hid (Below w.heap.size w w6) from HB7.out.trans (hb6.mono HB7.out.size))
                  clear hr6 hb6
                  go_wp2_with fail
                  all_goals
                    go_ret
                    exact ⟨by simp, HB6.out⟩

end Go.Proofs.Qxb6602919a
