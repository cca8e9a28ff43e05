import Derived.Test.Qxb6602919aVg
namespace Go.Proofs.Qxb6602919a
open Go.RowKit
set_option linter.unusedVariables false
set_option linter.unusedSimpArgs false

theorem split_uniq (c : UInt8) : ∀ (x y t u : List UInt8), x ++ c :: t = y ++ c :: u → c ∉ x → c ∉ y → x = y ∧ t = u
  | [], [], t, u, h, _, _ => by simp at h; exact ⟨rfl, h⟩
  | [], b :: y, t, u, h, _, hy => by simp at h; exact absurd (by simp [h.1]) hy
  | a :: x, [], t, u, h, hx, _ => by simp at h; exact absurd (by simp [h.1]) hx
  | a :: x, b :: y, t, u, h, hx, hy => by
    simp at h hx hy
    obtain ⟨h1, h2⟩ := split_uniq c x y t u h.2 hx.2 hy.2
    exact ⟨by rw [h.1, h1], h2⟩

theorem join_two (x z : List UInt8) (r : List (List UInt8)) : Lib.join (x :: z :: r) [46] = x ++ 46 :: Lib.join (z :: r) [46] := by
  rw [Lib.join_cons, Lib.join_cons]; simp [Lib.joinTail]

theorem join_inj : ∀ (L1 L2 : List (List UInt8)), L1 ≠ [] → L2 ≠ [] → (∀ x ∈ L1, (46 : UInt8) ∉ x) → (∀ x ∈ L2, (46 : UInt8) ∉ x) → Lib.join L1 [46] = Lib.join L2 [46] → L1 = L2
  | [], _, h, _, _, _, _ => absurd rfl h
  | _, [], _, h, _, _, _ => absurd rfl h
  | [x], [y], _, _, _, _, h => by rw [Lib.join_one, Lib.join_one] at h; rw [h]
  | [x], y :: z :: r, _, _, h1, _, h => by
    rw [Lib.join_one, join_two] at h
    exact absurd (by rw [h]; simp) (h1 x (by simp))
  | x :: z :: r, [y], _, _, _, h2, h => by
    rw [Lib.join_one, join_two] at h
    exact absurd (by rw [← h]; simp) (h2 y (by simp))
  | x :: z :: r, y :: z' :: r', _, _, h1, h2, h => by
    rw [join_two, join_two] at h
    obtain ⟨e1, e2⟩ := split_uniq 46 x y _ _ h (h1 x (by simp)) (h2 y (by simp))
    have := join_inj (z :: r) (z' :: r') (by simp) (by simp) (fun q hq => h1 q (by simp at hq ⊢; exact Or.inr hq)) (fun q hq => h2 q (by simp at hq ⊢; exact Or.inr hq)) e2
    rw [e1, this]

theorem bl_inj {s t : ByteArray} (h : bl s = bl t) : s = t := by
  obtain ⟨⟨a⟩⟩ := s
  obtain ⟨⟨b⟩⟩ := t
  simp [bl] at h
  rw [h]
theorem map_bl_inj : ∀ {xs ys : List ByteArray}, xs.map bl = ys.map bl → xs = ys
  | [], [], _ => rfl
  | [], y :: ys, h => by simp at h
  | x :: xs, [], h => by simp at h
  | x :: xs, y :: ys, h => by
    simp only [List.map_cons, List.cons.injEq] at h
    rw [bl_inj h.1, map_bl_inj h.2]

theorem okTo_all {s : ByteArray} {p : Nat → Prop} (h : OkTo s p s.size) : ∀ x ∈ bl s, p x.toNat := by
  intro x hx
  obtain ⟨i, hi⟩ := List.getElem?_of_mem hx
  have hl : i < s.size := by have := (List.getElem?_eq_some_iff.1 hi).1; rwa [bl_len] at this
  rw [bl_at s i hl] at hi
  obtain rfl := Option.some.inj hi
  exact h i hl hl

theorem idx_none (s : ByteArray) (hs : s.size ≤ 8388608) (c : Nat) (h : ∀ x ∈ bl s, x.toNat ≠ c) (w : World) : Calls Try.prog 23 #[.string s, .int .u8 c] w fun e w' => e = .returned (.int .i64 (-1)) ∧ w' = w := by
  refine (idx23 s hs c w).mono ?_
  rintro e w' ⟨hx, rfl⟩
  rcases hx with ⟨rfl, _⟩ | ⟨k, hk, rfl, hc, _⟩
  · exact ⟨rfl, rfl⟩
  · exact absurd hc (h _ (List.mem_of_getElem? (bl_at s k hk)))

theorem idx_at (s : ByteArray) (hs : s.size ≤ 8388608) (c : Nat) (x y : List UInt8) (b : UInt8) (hb : b.toNat = c) (h : bl s = x ++ b :: y) (hx : ∀ z ∈ x, z.toNat ≠ c) (w : World) : Calls Try.prog 23 #[.string s, .int .u8 c] w fun e w' => e = .returned (.int .i64 x.length) ∧ w' = w := by
  have hl : x.length < s.size := by rw [← bl_len, h]; simp
  have hat : (bl s)[x.length]? = some b := by rw [h]; simp
  rw [bl_at s _ hl] at hat
  have hat' : s[x.length].toNat = c := by rw [Option.some.inj hat]; exact hb
  refine (idx23 s hs c w).mono ?_
  rintro e w' ⟨hr, rfl⟩
  rcases hr with ⟨rfl, ho⟩ | ⟨k, hk, rfl, hc, ho⟩
  · exact absurd hat' (ho _ hl hl)
  · have h1 : ¬ x.length < k := fun h => ho _ hl h hat'
    have h2 : ¬ k < x.length := fun hk2 => by
      have hg := bl_at s k hk
      rw [h, List.getElem?_append_left hk2] at hg
      exact hx _ (List.mem_of_getElem? hg) hc
    have : k = x.length := by omega
    subst this
    exact ⟨rfl, rfl⟩

theorem split_is (s : ByteArray) (hs : s.size ≤ 8388608) (xs : List ByteArray) (n : Nat) (hn : xs.length = n) (h0 : xs ≠ []) (h : bl s = Lib.join (xs.map bl) [46]) (hd : ∀ x ∈ xs, (46 : UInt8) ∉ bl x) (w : World) :
    Calls Try.prog 24 #[.string s] w fun e w' => ∃ b off c, e = .returned (.slice (some ⟨b, off, none⟩) n c) ∧ RdS w' (some ⟨b, off, none⟩) n c xs ∧ Below w.heap.size w w' := by
  refine (split24 s hs w).mono ?_
  rintro e w' ⟨a, c, ss, rfl, hr, hb, hne, hj, hnd⟩
  have : ss.map bl = xs.map bl := join_inj _ _ (by simpa using hne) (by simpa using h0) (fun x hx => by obtain ⟨y, hy, rfl⟩ := List.mem_map.1 hx; exact hnd y hy) (fun x hx => by obtain ⟨y, hy, rfl⟩ := List.mem_map.1 hx; exact hd y hy) (hj.symm.trans h)
  obtain rfl := map_bl_inj this
  subst hn
  obtain ⟨b, off, t, rfl, _, _⟩ := hr.at (k := 0) (by have : ss.length ≠ 0 := fun h => hne (List.eq_nil_of_length_eq_zero h); omega)
  exact ⟨b, off, c, rfl, hr, hb⟩

/-- the core -/
def core (s0 s1 s2 : ByteArray) : List UInt8 := bl s0 ++ 46 :: (bl s1 ++ 46 :: bl s2)
theorem core_join (s0 s1 s2 : ByteArray) : core s0 s1 s2 = Lib.join ([s0, s1, s2].map bl) [46] := by
  rw [core, List.map_cons, List.map_cons, List.map_cons, List.map_nil, join_two, join_two, Lib.join_one]
theorem core_len (s0 s1 s2 : ByteArray) : (core s0 s1 s2).length = s0.size + s1.size + s2.size + 2 := by
  simp [core, bl_len]; omega
theorem core_no {s0 s1 s2 : ByteArray} (h0 : OkTo s0 Dec s0.size) (h1 : OkTo s1 Dec s1.size) (h2 : OkTo s2 Dec s2.size) : ∀ x ∈ core s0 s1 s2, x.toNat ≠ 43 ∧ x.toNat ≠ 45 := by
  intro x hx
  have d : ∀ {s : ByteArray}, OkTo s Dec s.size → x ∈ bl s → x.toNat ≠ 43 ∧ x.toNat ≠ 45 := fun h hm => by have := okTo_all h x hm; unfold Dec at this; omega
  have e : ∀ {y : UInt8}, y = 46 → y.toNat ≠ 43 ∧ y.toNat ≠ 45 := fun h => by rw [h]; decide
  simp only [core, List.mem_append, List.mem_cons] at hx
  rcases hx with h | h | h | h | h
  · exact d h0 h
  · exact e h
  · exact d h1 h
  · exact e h
  · exact d h2 h
theorem dec_nodot {s : ByteArray} (h : OkTo s Dec s.size) : (46 : UInt8) ∉ bl s := fun hm => by have := okTo_all h 46 hm; revert this; simp [Dec]
theorem idc_nodot {s : ByteArray} (h : OkTo s Idc s.size) : (46 : UInt8) ∉ bl s := fun hm => by have := okTo_all h 46 hm; revert this; simp [Idc]
theorem join_no {ss : List ByteArray} (h : ∀ s ∈ ss, OkTo s Idc s.size) : ∀ x ∈ Lib.join (ss.map bl) [46], x.toNat ≠ 43 := by
  induction ss with
  | nil => intro x hx; simp [Lib.join_nil] at hx
  | cons s r ih =>
    intro x hx
    cases r with
    | nil =>
      rw [List.map_cons, List.map_nil, Lib.join_one] at hx
      exact (okTo_all (h s (by simp)) x hx).1
    | cons t r =>
      rw [List.map_cons, List.map_cons, join_two] at hx
      rcases List.mem_append.1 hx with hx | hx
      · exact (okTo_all (h s (by simp)) x hx).1
      · rcases List.mem_cons.1 hx with rfl | hx
        · decide
        · exact ih (fun q hq => h q (by simp at hq ⊢; exact Or.inr hq)) x (by rw [List.map_cons]; exact hx)

end Go.Proofs.Qxb6602919a
