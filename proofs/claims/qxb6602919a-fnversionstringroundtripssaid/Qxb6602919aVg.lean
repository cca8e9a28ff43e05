import Derived.Test.Qxb6602919aVf
import Derived.Test.Qxb6602919aVc
namespace Go.Proofs.Qxb6602919a
open Go.RowKit
set_option linter.unusedVariables false
set_option linter.unusedSimpArgs false

theorem owns_alloc {w : World} {base : Nat} {e : TypeId} {v : Value} {n : Nat} {xs : List Value} (h : w.ownsRow base e 1 v n xs) (o : Obj) : (w.alloc o).ownsRow base e 1 v n xs := by
  refine ⟨h.1, ?_⟩
  rcases h.2 with h | ⟨g, cap, cur, h1, h2, h3, h4⟩
  · exact Or.inl h
  · exact Or.inr ⟨g, cap, cur, h1, h2, (heap_alloc_old w o (lt_of_blk h3)).trans h3, h4⟩

def sv (ss : List ByteArray) : List Value := ss.map Value.string
theorem sv_one (ss : List ByteArray) : ∀ v ∈ sv ss, v.oneCell' = true := by
  intro v hv
  obtain ⟨s, _, rfl⟩ := List.mem_map.1 hv
  rfl

/-- a slice that this call gathers -/
structure GaS (w wr : World) (v : Value) (ss : List ByteArray) : Prop where
  own : wr.ownsRow w.heap.size 9 1 v ss.length (sv ss)
  below : Below w.heap.size w wr
theorem GaS.init (w : World) : GaS w w (.slice none 0 0) [] := ⟨World.ownsRow_nil _ _ _ _, Below.refl _ _⟩
theorem GaS.step {w wr w1 : World} {v v' : Value} {ss : List ByteArray} {s : ByteArray} {o : Obj} (h : GaS w wr v ss) (ho : w1.ownsRow w.heap.size 9 1 v' (ss.length + 1) (sv ss ++ [.string s])) (hg : (wr.alloc o).grownBy w1 v.ownBlock) : GaS w w1 v' (ss ++ [s]) := by
  have hb : Below w.heap.size w (wr.alloc o) := h.below.alloc h.below.size o
  refine ⟨by simpa [sv] using ho, hb.grown hg (by have := h.below.size; simp; omega) (fun k hk => (h.own.lt k hk).1)⟩
theorem GaS.rd {w wr : World} {v : Value} {ss : List ByteArray} (h : GaS w wr v ss) : ∃ a c, v = .slice a ss.length c ∧ RdS wr a ss.length c ss := by
  rcases h.own.2 with ⟨hv, h0⟩ | ⟨g, cap, cur, hv, _, hb, r3, r4, r5, r6⟩
  · refine ⟨none, 0, by rw [h0]; exact hv, rfl, fun _ => ⟨h0, rfl⟩, fun x hx => by cases hx⟩
  · refine ⟨_, cap, hv, rfl, fun h => (by cases h), fun x hx i s hs => ?_⟩
    obtain rfl := Option.some.inj hx
    have := h.own
    rw [hv] at this
    rw [Addr.add_lit, Nat.zero_add]
    rw [this.cellAt i (by have := (List.getElem?_eq_some_iff.1 hs).1; omega)]
    simp [sv, hs]

/-- the pieces up to now -/
def cutd (xs : List (List UInt8)) : List UInt8 := (xs.map (· ++ [46])).flatten
theorem cutd_snoc (xs : List (List UInt8)) (x : List UInt8) : cutd (xs ++ [x]) = cutd xs ++ (x ++ [46]) := by simp [cutd]
theorem join_snoc (xs : List (List UInt8)) (x : List UInt8) : Lib.join (xs ++ [x]) [46] = cutd xs ++ x := by
  induction xs with
  | nil => simp [cutd, Lib.join_one]
  | cons y r ih =>
    rw [List.cons_append, Lib.join_cons]
    cases r with
    | nil => simp [cutd, Lib.joinTail]
    | cons z r =>
      rw [List.cons_append, Lib.join_cons] at ih
      simp only [cutd, Lib.joinTail, List.cons_append, List.map_cons, List.flatten_cons] at ih ⊢
      have ih' := congrArg (fun t => y ++ 46 :: t) ih
      simpa using ih'

structure Spl (l : List UInt8) (xs : List (List UInt8)) (st k : Nat) : Prop where
  nod : ∀ x ∈ xs, (46 : UInt8) ∉ x
  num : xs.length ≤ k
  run : k ≤ l.length → st ≤ k ∧ cutd xs = l.take st ∧ (46 : UInt8) ∉ (l.take k).drop st
  fin : l.length < k → xs ≠ [] ∧ l = Lib.join xs [46]

theorem Spl.init (l : List UInt8) : Spl l [] 0 0 := ⟨by simp, by simp, fun _ => by simp [cutd], fun h => by omega⟩
theorem take_drop_snoc (l : List UInt8) (st k : Nat) (x : UInt8) (hst : st ≤ k) (hx : l[k]? = some x) : (l.take (k + 1)).drop st = (l.take k).drop st ++ [x] := by
  have hk : k < l.length := (List.getElem?_eq_some_iff.1 hx).1
  rw [List.take_add_one, hx, List.drop_append_of_le_length (by simp; omega)]
  rfl
theorem Spl.skip {l : List UInt8} {xs : List (List UInt8)} {st k : Nat} (h : Spl l xs st k) {x : UInt8} (hx : l[k]? = some x) (hne : x ≠ 46) : Spl l xs st (k + 1) := by
  have hk : k < l.length := (List.getElem?_eq_some_iff.1 hx).1
  obtain ⟨h1, h2, h3⟩ := h.run (by omega)
  refine ⟨h.nod, by have := h.num; omega, fun hk' => ⟨by omega, h2, ?_⟩, fun hk' => by omega⟩
  rw [take_drop_snoc l st k x h1 hx]
  intro hm
  rcases List.mem_append.1 hm with hm | hm
  · exact h3 hm
  · simp at hm; exact hne hm.symm
theorem Spl.dot {l : List UInt8} {xs : List (List UInt8)} {st k : Nat} (h : Spl l xs st k) (hx : l[k]? = some 46) : Spl l (xs ++ [(l.take k).drop st]) (k + 1) (k + 1) := by
  have hk : k < l.length := (List.getElem?_eq_some_iff.1 hx).1
  obtain ⟨h1, h2, h3⟩ := h.run (by omega)
  refine ⟨fun x hm => ?_, by simp; exact h.num, fun hk' => ⟨Nat.le_refl _, ?_, ?_⟩, fun hk' => by omega⟩
  · rcases List.mem_append.1 hm with hm | hm
    · exact h.nod x hm
    · simp at hm; rw [hm]; exact h3
  · rw [cutd_snoc, h2, List.take_add_one, hx]
    rw [← List.append_assoc]
    congr 1
    have : l.take st = (l.take k).take st := by rw [List.take_take]; congr 1; omega
    rw [this, List.take_append_drop]
  · rw [List.drop_eq_nil_of_le (by simp; omega)]; simp
theorem Spl.last {l : List UInt8} {xs : List (List UInt8)} {st k : Nat} (h : Spl l xs st k) (hk : k = l.length) : Spl l (xs ++ [(l.take k).drop st]) (k + 1) (k + 1) := by
  obtain ⟨h1, h2, h3⟩ := h.run (by omega)
  refine ⟨fun x hm => ?_, by simp; exact h.num, fun hk' => by omega, fun _ => ⟨by simp, ?_⟩⟩
  · rcases List.mem_append.1 hm with hm | hm
    · exact h.nod x hm
    · simp at hm; rw [hm]; exact h3
  · rw [join_snoc, h2, hk, List.take_of_length_le (Nat.le_refl _), List.take_append_drop]

theorem bl_at (s : ByteArray) (k : Nat) (h : k < s.size) : (bl s)[k]? = some s[k] := by
  simp only [bl]
  rw [List.getElem?_eq_getElem (by simpa using h)]
  rfl

set_option maxHeartbeats 1600000 in
theorem split24 (s : ByteArray) (hs : s.size ≤ 8388608) (w : World) : Calls Try.prog 24 #[.string s] w fun e w' => ∃ a c ss, e = .returned (.slice a ss.length c) ∧ RdS w' a ss.length c ss ∧ Below w.heap.size w w' ∧ ss ≠ [] ∧ bl s = Lib.join (ss.map bl) [46] ∧ ∀ x ∈ ss, (46 : UInt8) ∉ bl x := by
  obtain ⟨n, hn⟩ : ∃ n, s.size = n := ⟨_, rfl⟩
  obtain ⟨i0, hi, hz0, hz1, hz2⟩ := info_parts Try.info9
  have HN := (show Hid (_) from hn)
  rw [hn] at hs
  go_enter Try.func24, Try.ntmps24
  go_wp2
  go_loopw [3, 4, 5] (fun v st i wr => ∃ (t k : Nat) (ss : List ByteArray), k ≤ n + 1 ∧ (k ≤ n → t ≤ k) ∧ st = .int .i64 t ∧ i = .int .i64 k ∧ Hid (GaS w wr v ss ∧ Spl (bl s) (ss.map bl) t k)) (fun _ _ i _ => n + 1 - (intOf i).toNat)
  case atStart => exact ⟨0, 0, [], by omega, by omega, rfl, rfl, (show _ ∧ _ from ⟨GaS.init w, Spl.init _⟩)⟩
  case round =>
    obtain ⟨t, k, ss, hk, htk, rfl, rfl, HG⟩ := hrel
    by_cases hlt : k ≤ n
    · have htk' := htk hlt
      clear htk
      by_cases hdot : k = n ∨ ∃ h : k < s.size, s[k].toNat = 46
      · have hspl : Spl (bl s) ((ss ++ [s.extract t k]).map bl) (k + 1) (k + 1) := by
          rw [List.map_append, List.map_cons, List.map_nil, ex_bl]
          by_cases e : k = n
          · exact HG.out.2.last (by rw [bl_len, HN.out]; exact e)
          · rcases hdot with h | ⟨h, h'⟩
            · exact absurd h e
            · exact HG.out.2.dot (by rw [bl_at s k h]; congr 1; exact UInt8.toNat_inj.1 h')
        have hnum : ss.length ≤ k := by have := HG.out.2.num; simpa using this
        have HS := (show Hid (_) from And.intro hspl hnum)
        clear hspl
        have hdot2 : k = n ∨ (k ≠ n ∧ ∃ h : k < s.size, s[k].toNat = 46) := by
          by_cases e : k = n
          · exact Or.inl e
          · rcases hdot with h | h
            · exact Or.inl h
            · exact Or.inr ⟨e, h⟩
        rcases hdot2 with h | ⟨h, hks, h46⟩
        · have d1 : ((k : Int) == (n : Int)) = true := by rw [h]; simp
          have HK := (show Hid (_) from h)
          clear h hdot
          go_wp2_with (at_builtin; refine wpList_append_lies _ rfl _ _ 31 rfl w.heap.size 9 i0 (.string ⟨#[]⟩) 1 16 Try.underlying31 hi hz0 hz1 hz2 rfl (by omega) _ ss.length (sv ss) rfl (owns_alloc HG.out.1.own _) ⟨wr.heap.size, 0, none⟩ 1 1 [.string (s.extract t k)] rfl rfl (World.news_of_block (heap_alloc_new wr _)) (sv_one [s.extract t k]) (by omega) (by unfold maxLen; omega) (by omega) (by have := HG.out.1.below.size; simp; omega) _ rfl ?_; intro g cap w2 hown hgrow hat hlt2)
          have hst := HG.out.1.step hown hgrow
          have HST := (show Hid (GaS w w2 _ _ ∧ Spl _ _ _ _) from And.intro hst HS.out.1)
          clear hst hown hgrow hat
          go_roundw
          case rel => exact ⟨k + 1, k + 1, _, by omega, by omega, by go_num, by go_num, HST⟩
          case measure => simp [intOf]; omega
        · have d1 : ((k : Int) == (n : Int)) = false := by simp; omega
          obtain ⟨X, hX⟩ : ∃ X, s[k].toNat = X := ⟨_, rfl⟩
          have d2 : ((X : Int) == 46) = true := by simp; omega
          have hkn : k < n := by omega
          have HK := (show Hid (_) from h46)
          clear h hdot h46
          go_wp2_with (at_builtin; refine wpList_append_lies _ rfl _ _ 31 rfl w.heap.size 9 i0 (.string ⟨#[]⟩) 1 16 Try.underlying31 hi hz0 hz1 hz2 rfl (by omega) _ ss.length (sv ss) rfl (owns_alloc HG.out.1.own _) ⟨wr.heap.size, 0, none⟩ 1 1 [.string (s.extract t k)] rfl rfl (World.news_of_block (heap_alloc_new wr _)) (sv_one [s.extract t k]) (by omega) (by unfold maxLen; omega) (by omega) (by have := HG.out.1.below.size; simp; omega) _ rfl ?_; intro g cap w2 hown hgrow hat hlt2)
          have hst := HG.out.1.step hown hgrow
          have HST := (show Hid (GaS w w2 _ _ ∧ Spl _ _ _ _) from And.intro hst HS.out.1)
          clear hst hown hgrow hat
          go_roundw
          case rel => exact ⟨k + 1, k + 1, _, by omega, by omega, by go_num, by go_num, HST⟩
          case measure => simp [intOf]; omega
      · have hkn : k < n := by
          by_cases e : k = n
          · exact absurd (Or.inl e) hdot
          · omega
        have hks : k < s.size := by omega
        obtain ⟨X, hX⟩ : ∃ X, s[k].toNat = X := ⟨_, rfl⟩
        have hX46 : X ≠ 46 := fun e => hdot (Or.inr ⟨hks, hX.trans e⟩)
        have HS := (show Hid (_) from And.intro HG.out.1 (HG.out.2.skip (bl_at s k hks) (fun e => hX46 (by rw [← hX, e]; rfl))))
        have d1 : ((k : Int) == (n : Int)) = false := by simp; omega
        have d2 : ((X : Int) == 46) = false := by simp; omega
        clear hdot hX46
        go_wp2
        go_roundw
        case rel => exact ⟨t, k + 1, ss, by omega, by omega, rfl, by go_num, HS⟩
        case measure => simp [intOf]; omega
    · go_wp2
      go_ret
      obtain ⟨h1, h2⟩ := HG.out
      obtain ⟨a, c, rfl, hr⟩ := h1.rd
      obtain ⟨h3, h4⟩ := h2.fin (by rw [bl_len, HN.out]; omega)
      exact ⟨a, c, ss, rfl, hr, h1.below, fun e => h3 (by rw [e]; rfl), h4, fun x hx => h2.nod _ (List.mem_map_of_mem hx)⟩

end Go.Proofs.Qxb6602919a
