import Derived.Test.Qxb6602919aVb
import Derived.Deep.AppendLies
namespace Go.Proofs.Qxb6602919a
open Go.RowKit
set_option linter.unusedVariables false
set_option linter.unusedSimpArgs false

set_option maxHeartbeats 1600000 in
theorem zz17_any (w : World) (s0 s1 s2 s4 : ByteArray) (a : Option Addr) (n c : Nat) (ss : List ByteArray) (h : RdS w a n c ss) :
    Calls Try.prog 17 #[.string s0, .string s1, .string s2, .slice a n c, .string s4] w fun x w' => RetB x ∧ w' = w := by
  have H1 := (show Hid (_) from h)
  clear h
  obtain ⟨n0, hn0⟩ : ∃ n, s0.size = n := ⟨_, rfl⟩
  obtain ⟨n1, hn1⟩ : ∃ n, s1.size = n := ⟨_, rfl⟩
  obtain ⟨n2, hn2⟩ : ∃ n, s2.size = n := ⟨_, rfl⟩
  obtain ⟨n4, hn4⟩ : ∃ n, s4.size = n := ⟨_, rfl⟩
  by_cases q0 : n0 ≤ 1048576
  case neg =>
    go_enter Try.func17, Try.ntmps17
    go_wp2
    go_ret
    exact ⟨⟨_, rfl⟩, rfl⟩
  by_cases q1 : n1 ≤ 1048576
  case neg =>
    go_enter Try.func17, Try.ntmps17
    go_wp2
    go_ret
    exact ⟨⟨_, rfl⟩, rfl⟩
  by_cases q2 : n0 + n1 ≤ 1048576
  case neg =>
    go_enter Try.func17, Try.ntmps17
    go_wp2
    go_ret
    exact ⟨⟨_, rfl⟩, rfl⟩
  by_cases q3 : n2 ≤ 1048576
  case neg =>
    go_enter Try.func17, Try.ntmps17
    go_wp2
    go_ret
    exact ⟨⟨_, rfl⟩, rfl⟩
  by_cases q4 : n0 + n1 + n2 ≤ 1048576
  case neg =>
    go_enter Try.func17, Try.ntmps17
    go_wp2
    go_ret
    exact ⟨⟨_, rfl⟩, rfl⟩
  by_cases q5 : n ≤ 1048576
  case neg =>
    go_enter Try.func17, Try.ntmps17
    go_wp2
    go_ret
    exact ⟨⟨_, rfl⟩, rfl⟩
  by_cases q6 : n0 + n1 + n2 + n ≤ 1048576
  case neg =>
    go_enter Try.func17, Try.ntmps17
    go_wp2
    go_ret
    exact ⟨⟨_, rfl⟩, rfl⟩
  go_enter Try.func17, Try.ntmps17
  go_wp2
  go_loop [11, 12] (fun z i => ∃ s k : Nat, s ≤ 1048576 ∧ k ≤ n ∧ z = .int .i64 s ∧ i = .int .i64 k) (fun _ i => n - (intOf i).toNat)
  case atStart => exact ⟨n0 + n1 + n2 + n, 0, q6, Nat.zero_le _, by go_num, rfl⟩
  case round =>
    obtain ⟨s, i, hs1, hi1, rfl, rfl⟩ := hrel
    by_cases hlt : i < n
    · obtain ⟨b, off, t, rfl, hcell, hrest⟩ := H1.out.at hlt
      clear hrest
      by_cases p1 : t.size ≤ 1048576
      · by_cases p2 : s + t.size ≤ 1048576
        · go_wp2
          go_round
          case rel => exact ⟨s + t.size, i + 1, p2, by omega, by go_num, by go_num⟩
          case measure => simp [intOf]; omega
        · go_wp2
          go_ret
          exact ⟨⟨_, rfl⟩, rfl⟩
      · go_wp2
        go_ret
        exact ⟨⟨_, rfl⟩, rfl⟩
    · go_wp2
      all_goals
        go_ret
        exact ⟨⟨_, rfl⟩, rfl⟩


/-- it returns a bool; where it is true, P -/
def RetI (e : Ending) (P : Prop) : Prop := ∃ b, e = .returned (.bool b) ∧ (b = true → P)
/-- every byte ahead of k meets p -/
def OkTo (s : ByteArray) (p : Nat → Prop) (k : Nat) : Prop := ∀ j (h : j < s.size), j < k → p s[j].toNat
theorem OkTo.snoc {s : ByteArray} {p : Nat → Prop} {k : Nat} (h : OkTo s p k) (hk : k < s.size) (hp : p s[k].toNat) : OkTo s p (k + 1) := by
  intro j hj hjk
  by_cases e : j = k
  · subst e; exact hp
  · exact h j hj (by omega)
def Dec (n : Nat) : Prop := 48 ≤ n ∧ n ≤ 57
def Idc (n : Nat) : Prop := n ≠ 43 ∧ n ≠ 46

set_option maxHeartbeats 1000000 in
theorem dec18 (s : ByteArray) (hs : s.size ≤ 1048576) (w : World) : Calls Try.prog 18 #[.string s] w fun e w' => RetI e (OkTo s Dec s.size) ∧ w' = w := by
  obtain ⟨n, hn⟩ : ∃ n, s.size = n := ⟨_, rfl⟩
  rw [hn] at hs ⊢
  by_cases h0 : n = 0
  · subst h0
    go_enter Try.func18, Try.ntmps18
    go_wp2
    go_ret
    exact ⟨⟨_, rfl, fun h => by cases h⟩, rfl⟩
  · have hz : ((n : Int) == 0) = false := by simpa using h0
    go_enter Try.func18, Try.ntmps18
    go_wp2
    go_loop [3] (fun i => ∃ k : Nat, k ≤ n ∧ i = .int .i64 k ∧ Hid (OkTo s Dec k)) (fun i => n - (intOf i).toNat)
    case atStart => exact ⟨0, by omega, rfl, (show OkTo _ _ _ from fun j _ hj => by omega)⟩
    case round =>
      obtain ⟨k, hk, rfl, HO⟩ := hrel
      by_cases hlt : k < n
      · have hks : k < s.size := by omega
        obtain ⟨X, hX⟩ : ∃ X, s[k].toNat = X := ⟨_, rfl⟩
        rcases (show X < 48 ∨ 57 < X ∨ (48 ≤ X ∧ X ≤ 57) by omega) with h | h | ⟨h, h'⟩
        · have d1 : decide ((X : Int) < 48) = true := decide_eq_true (by omega)
          go_wp2
          go_ret
          exact ⟨⟨_, rfl, fun h => by cases h⟩, rfl⟩
        · have d1 : decide ((X : Int) < 48) = false := decide_eq_false (by omega)
          have d2 : decide ((57 : Int) < X) = true := decide_eq_true (by omega)
          go_wp2
          go_ret
          exact ⟨⟨_, rfl, fun h => by cases h⟩, rfl⟩
        · have HS := (show Hid (_) from HO.out.snoc hks (hX ▸ ⟨h, h'⟩))
          have d1 : decide ((X : Int) < 48) = false := decide_eq_false (by omega)
          have d2 : decide ((57 : Int) < X) = false := decide_eq_false (by omega)
          go_wp2
          go_round
          case rel => exact ⟨k + 1, by omega, by go_num, HS⟩
          case measure => simp [intOf]; omega
      · obtain rfl : k = n := by omega
        go_wp2
        go_ret
        exact ⟨⟨_, rfl, fun _ => HO.out⟩, rfl⟩

/-- what zzIndexByte answers -/
def RetX (e : Ending) (s : ByteArray) (c : Nat) : Prop := (e = .returned (.int .i64 (-1)) ∧ OkTo s (· ≠ c) s.size) ∨ ∃ (k : Nat) (h : k < s.size), e = .returned (.int .i64 k) ∧ s[k].toNat = c ∧ OkTo s (· ≠ c) k

set_option maxHeartbeats 1000000 in
theorem idx23 (s : ByteArray) (hs : s.size ≤ 8388608) (c : Nat) (w : World) : Calls Try.prog 23 #[.string s, .int .u8 c] w fun e w' => RetX e s c ∧ w' = w := by
  obtain ⟨n, hn⟩ : ∃ n, s.size = n := ⟨_, rfl⟩
  rw [hn] at hs
  go_enter Try.func23, Try.ntmps23
  go_wp2
  go_loop [5] (fun i => ∃ k : Nat, k ≤ n ∧ i = .int .i64 k ∧ Hid (OkTo s (· ≠ c) k)) (fun i => n - (intOf i).toNat)
  case atStart => exact ⟨0, by omega, rfl, (show OkTo _ _ _ from fun j _ hj => by omega)⟩
  case round =>
    obtain ⟨k, hk, rfl, HO⟩ := hrel
    by_cases hlt : k < n
    · have hks : k < s.size := by omega
      obtain ⟨X, hX⟩ : ∃ X, s[k].toNat = X := ⟨_, rfl⟩
      by_cases he : X = c
      · have d1 : ((X : Int) == (c : Int)) = true := by rw [he]; simp
        have HE := (show Hid (_) from he)
        clear he
        go_wp2
        go_ret
        exact ⟨Or.inr ⟨k, hks, rfl, hX.trans HE.out, HO.out⟩, rfl⟩
      · have d1 : ((X : Int) == (c : Int)) = false := by simp; omega
        have HS := (show Hid (_) from HO.out.snoc hks (by rw [hX]; exact he))
        clear he
        go_wp2
        go_round
        case rel => exact ⟨k + 1, by omega, by go_num, HS⟩
        case measure => simp [intOf]; omega
    · obtain rfl : k = n := by omega
      go_wp2
      go_ret
      exact ⟨Or.inl ⟨rfl, by rw [hn]; exact HO.out⟩, rfl⟩

theorem conv_bytes2 (w : World) (s : ByteArray) : ∃ cp OB, (convert 9 26 (.string s)).run Try.prog w = .ok (.slice (some ⟨w.heap.size, 0, none⟩) s.size cp) (w.drew.alloc OB) ∧ ∀ k (h : k < s.size), (w.alloc OB).drew.cell? ⟨w.heap.size, k, none⟩ = some (.int .u8 (s[k].toNat : Int)) := by
  refine ⟨_, _, run_bytes_of_string (P := Try.prog) w 9 26 5 s Try.underlying9 Try.underlying26 Try.underlying5, fun k h => ?_⟩
  show (w.alloc _).cell? _ = _
  rw [cell_of_row _ w.heap.size k _ 5 _ (heap_alloc_new w _)]
  exact bytesRow_at s _ k h

set_option maxHeartbeats 3000000 in
theorem id29 (s : ByteArray) (hs : s.size ≤ 1048576) (w : World) : Calls Try.prog 29 #[.string s] w fun e w' => RetI e (OkTo s Idc s.size) ∧ Below w.heap.size w w' := by
  obtain ⟨n, hn⟩ : ∃ n, s.size = n := ⟨_, rfl⟩
  by_cases hne : s = ⟨#[]⟩
  · subst hne
    go_enter Try.func29, Try.ntmps29
    go_wp2
    go_ret
    exact ⟨⟨_, rfl, fun h => by cases h⟩, Below.refl _ _⟩
  · have hbl : bl s ≠ [] := fun h => hne ((empty_iff s).2 h)
    have hne2 : s.toList.isEmpty = false := by rw [toList_bl]; simpa using hbl
    obtain ⟨cp, OB, hcv, hcells⟩ := conv_bytes2 w s
    have HCV := (show Hid (_) from hcells)
    have HB0 := (show Hid (Below w.heap.size w (w.alloc OB).drew) from ((Below.refl _ _).alloc (Nat.le_refl _) _).drew)
    rw [hn] at hs hcv ⊢
    clear hcells hne hbl
    go_enter Try.func29, Try.ntmps29
    go_wp2
    go_loop [10] (fun i => ∃ k : Nat, k ≤ n ∧ i = .int .i64 k ∧ Hid (OkTo s Idc k)) (fun i => n - (intOf i).toNat)
    case atStart => exact ⟨0, by omega, rfl, (show OkTo _ _ _ from fun j _ hj => by omega)⟩
    case round =>
      obtain ⟨k, hk, rfl, HO⟩ := hrel
      by_cases hlt : k < n
      · have hks : k < s.size := by omega
        have hck := HCV.out k hks
        obtain ⟨X, hX⟩ : ∃ X, s[k].toNat = X := ⟨_, rfl⟩
        rw [hX] at hck
        have HS := (show Hid (X ≠ 43 → X ≠ 46 → OkTo s Idc (k + 1)) from (show X ≠ 43 → X ≠ 46 → OkTo s Idc (k + 1) from fun h1 h2 => HO.out.snoc hks (hX ▸ ⟨h1, h2⟩)))
        clear hX
        rcases (show X < 45 ∨ X = 45 ∨ (46 ≤ X ∧ X ≤ 47) ∨ (48 ≤ X ∧ X ≤ 57) ∨ (58 ≤ X ∧ X ≤ 64) ∨ (65 ≤ X ∧ X ≤ 90) ∨ (91 ≤ X ∧ X ≤ 96) ∨ (97 ≤ X ∧ X ≤ 122) ∨ 122 < X by omega) with h | h | ⟨h, h'⟩ | ⟨h, h'⟩ | ⟨h, h'⟩ | ⟨h, h'⟩ | ⟨h, h'⟩ | ⟨h, h'⟩ | h
        · have d48 : decide ((48 : Int) ≤ X) = false := decide_eq_false (by omega)
          have d57 : decide ((X : Int) ≤ 57) = true := decide_eq_true (by omega)
          have d97 : decide ((97 : Int) ≤ X) = false := decide_eq_false (by omega)
          have d122 : decide ((X : Int) ≤ 122) = true := decide_eq_true (by omega)
          have d65 : decide ((65 : Int) ≤ X) = false := decide_eq_false (by omega)
          have d90 : decide ((X : Int) ≤ 90) = true := decide_eq_true (by omega)
          have d45 : ((X : Int) == 45) = false := by simp; omega
          have HX := (show Hid (_) from h)
          clear h
          go_wp2
          go_ret
          exact ⟨⟨_, rfl, fun h => by cases h⟩, HB0.out⟩
        · have d48 : decide ((48 : Int) ≤ X) = false := decide_eq_false (by omega)
          have d57 : decide ((X : Int) ≤ 57) = true := decide_eq_true (by omega)
          have d97 : decide ((97 : Int) ≤ X) = false := decide_eq_false (by omega)
          have d122 : decide ((X : Int) ≤ 122) = true := decide_eq_true (by omega)
          have d65 : decide ((65 : Int) ≤ X) = false := decide_eq_false (by omega)
          have d90 : decide ((X : Int) ≤ 90) = true := decide_eq_true (by omega)
          have d45 : ((X : Int) == 45) = true := by simp; omega
          have HX := (show Hid (_) from h)
          clear h
          go_wp2
          go_round
          case rel => exact ⟨k + 1, by omega, by go_num, HS.out (by have := HX.out; omega) (by have := HX.out; omega)⟩
          case measure => simp [intOf]; omega
        · have d48 : decide ((48 : Int) ≤ X) = false := decide_eq_false (by omega)
          have d57 : decide ((X : Int) ≤ 57) = true := decide_eq_true (by omega)
          have d97 : decide ((97 : Int) ≤ X) = false := decide_eq_false (by omega)
          have d122 : decide ((X : Int) ≤ 122) = true := decide_eq_true (by omega)
          have d65 : decide ((65 : Int) ≤ X) = false := decide_eq_false (by omega)
          have d90 : decide ((X : Int) ≤ 90) = true := decide_eq_true (by omega)
          have d45 : ((X : Int) == 45) = false := by simp; omega
          have HX := (show Hid (_) from h)
          clear h
          go_wp2
          go_ret
          exact ⟨⟨_, rfl, fun h => by cases h⟩, HB0.out⟩
        · have d48 : decide ((48 : Int) ≤ X) = true := decide_eq_true (by omega)
          have d57 : decide ((X : Int) ≤ 57) = true := decide_eq_true (by omega)
          have d97 : decide ((97 : Int) ≤ X) = false := decide_eq_false (by omega)
          have d122 : decide ((X : Int) ≤ 122) = true := decide_eq_true (by omega)
          have d65 : decide ((65 : Int) ≤ X) = false := decide_eq_false (by omega)
          have d90 : decide ((X : Int) ≤ 90) = true := decide_eq_true (by omega)
          have d45 : ((X : Int) == 45) = false := by simp; omega
          have HX := (show Hid (_) from h)
          clear h
          go_wp2
          go_round
          case rel => exact ⟨k + 1, by omega, by go_num, HS.out (by have := HX.out; omega) (by have := HX.out; omega)⟩
          case measure => simp [intOf]; omega
        · have d48 : decide ((48 : Int) ≤ X) = true := decide_eq_true (by omega)
          have d57 : decide ((X : Int) ≤ 57) = false := decide_eq_false (by omega)
          have d97 : decide ((97 : Int) ≤ X) = false := decide_eq_false (by omega)
          have d122 : decide ((X : Int) ≤ 122) = true := decide_eq_true (by omega)
          have d65 : decide ((65 : Int) ≤ X) = false := decide_eq_false (by omega)
          have d90 : decide ((X : Int) ≤ 90) = true := decide_eq_true (by omega)
          have d45 : ((X : Int) == 45) = false := by simp; omega
          have HX := (show Hid (_) from h)
          clear h
          go_wp2
          go_ret
          exact ⟨⟨_, rfl, fun h => by cases h⟩, HB0.out⟩
        · have d48 : decide ((48 : Int) ≤ X) = true := decide_eq_true (by omega)
          have d57 : decide ((X : Int) ≤ 57) = false := decide_eq_false (by omega)
          have d97 : decide ((97 : Int) ≤ X) = false := decide_eq_false (by omega)
          have d122 : decide ((X : Int) ≤ 122) = true := decide_eq_true (by omega)
          have d65 : decide ((65 : Int) ≤ X) = true := decide_eq_true (by omega)
          have d90 : decide ((X : Int) ≤ 90) = true := decide_eq_true (by omega)
          have d45 : ((X : Int) == 45) = false := by simp; omega
          have HX := (show Hid (_) from h)
          clear h
          go_wp2
          go_round
          case rel => exact ⟨k + 1, by omega, by go_num, HS.out (by have := HX.out; omega) (by have := HX.out; omega)⟩
          case measure => simp [intOf]; omega
        · have d48 : decide ((48 : Int) ≤ X) = true := decide_eq_true (by omega)
          have d57 : decide ((X : Int) ≤ 57) = false := decide_eq_false (by omega)
          have d97 : decide ((97 : Int) ≤ X) = false := decide_eq_false (by omega)
          have d122 : decide ((X : Int) ≤ 122) = true := decide_eq_true (by omega)
          have d65 : decide ((65 : Int) ≤ X) = true := decide_eq_true (by omega)
          have d90 : decide ((X : Int) ≤ 90) = false := decide_eq_false (by omega)
          have d45 : ((X : Int) == 45) = false := by simp; omega
          have HX := (show Hid (_) from h)
          clear h
          go_wp2
          go_ret
          exact ⟨⟨_, rfl, fun h => by cases h⟩, HB0.out⟩
        · have d48 : decide ((48 : Int) ≤ X) = true := decide_eq_true (by omega)
          have d57 : decide ((X : Int) ≤ 57) = false := decide_eq_false (by omega)
          have d97 : decide ((97 : Int) ≤ X) = true := decide_eq_true (by omega)
          have d122 : decide ((X : Int) ≤ 122) = true := decide_eq_true (by omega)
          have d65 : decide ((65 : Int) ≤ X) = true := decide_eq_true (by omega)
          have d90 : decide ((X : Int) ≤ 90) = false := decide_eq_false (by omega)
          have d45 : ((X : Int) == 45) = false := by simp; omega
          have HX := (show Hid (_) from h)
          clear h
          go_wp2
          go_round
          case rel => exact ⟨k + 1, by omega, by go_num, HS.out (by have := HX.out; omega) (by have := HX.out; omega)⟩
          case measure => simp [intOf]; omega
        · have d48 : decide ((48 : Int) ≤ X) = true := decide_eq_true (by omega)
          have d57 : decide ((X : Int) ≤ 57) = false := decide_eq_false (by omega)
          have d97 : decide ((97 : Int) ≤ X) = true := decide_eq_true (by omega)
          have d122 : decide ((X : Int) ≤ 122) = false := decide_eq_false (by omega)
          have d65 : decide ((65 : Int) ≤ X) = true := decide_eq_true (by omega)
          have d90 : decide ((X : Int) ≤ 90) = false := decide_eq_false (by omega)
          have d45 : ((X : Int) == 45) = false := by simp; omega
          have HX := (show Hid (_) from h)
          clear h
          go_wp2
          go_ret
          exact ⟨⟨_, rfl, fun h => by cases h⟩, HB0.out⟩
      · obtain rfl : k = n := by omega
        go_wp2
        go_ret
        exact ⟨⟨_, rfl, fun _ => HO.out⟩, HB0.out⟩

theorem id14 (s : ByteArray) (hs : s.size ≤ 1048576) (w : World) : Calls Try.prog 14 #[.string s] w fun e w' => RetI e (OkTo s Idc s.size) ∧ Below w.heap.size w w' := by
  go_enter Try.func14, Try.ntmps14
  go_wp2_with fail
  refine (id29 s hs w).mono ?_
  rintro e w' ⟨⟨b, rfl, hb⟩, hbel⟩
  have HB := (show Hid (_) from And.intro hb hbel)
  clear hb hbel
  go_wp2_with fail
  go_ret
  exact ⟨⟨_, rfl, HB.out.1⟩, HB.out.2⟩

end Go.Proofs.Qxb6602919a
