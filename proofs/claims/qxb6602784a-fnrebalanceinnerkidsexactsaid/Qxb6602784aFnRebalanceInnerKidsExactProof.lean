/-
  'Rows.FnRebalanceInnerKidsExactSaid' proved: the frame after the kit's program for laws over slices; the walk by the contracts of Qxb6602784aBa .. Bm, Da .. Ds.
-/
import Derived.Test.Qxb6602784aRows
import Derived.Test.Qxb6602784aDs
import Derived.Test.Qxb6602784aCx
import Derived.WalkKit
import Derived.ProofKit
import Derived.OpenShut
import Derived.ShutString
import Derived.ChangeOld
import Derived.Below
import Derived.Deep.Matrix
namespace Go.Proofs.Qxb6602784a.fnRebalanceInnerKidsExact
open Go.ChangeShapes Go.WideShapes Go.ChangeAt Go.RowKit Go.Deep
set_option linter.unusedVariables false

theorem own : ownKnob Try.prog.godebug = none := by kernel_rfl
theorem laidOut : laidOutB Try.prog = true := by kernel_rfl
theorem cells30 : Try.prog.cellsOf 30 = 1 := by kernel_rfl
theorem cells2 : Try.prog.cellsOf 2 = 1 := by kernel_rfl
theorem cells31 : Try.prog.cellsOf 31 = 1 := by kernel_rfl
theorem cells33 : Try.prog.cellsOf 33 = 1 := by kernel_rfl

theorem rd_nil (w : World) : Rd w none 0 0 [] := ⟨rfl, fun _ => ⟨rfl, rfl⟩, fun x hx => by cases hx⟩
theorem rd_ints {w : World} {k : IntKind} {x : Addr} {n c : Nat} {zs : List Int} (hl : n ≤ c) (hz : zs.length = c) (hc : ∀ i, i < zs.length → w.cell? (x.add i) = some (.int k (zs.getD i 0))) : Rd w (some x) n c ((zs.take n).map (Value.int k)) := by
  refine ⟨by simp; omega, fun h => (by cases h), fun y hy i hi => ?_⟩
  obtain rfl := Option.some.inj hy
  rw [hc i (by omega)]
  simp [hi, List.getD, show i < zs.length by omega]

theorem rd2_nil (w : World) : Rd2 w none 0 0 [] [] := ⟨rd_nil w, rfl, fun i h zs h1 => by simp at h1⟩
theorem rd2_rows {w : World} {a : Addr} {len cap : Nat} {A : Nat → Option Addr} {L C : Nat → Nat} {Z : Nat → List Int} (hl : len ≤ cap)
    (h : ∀ r, r < cap → w.cell? (a.add r) = some (.slice (A r) (L r) (C r)) ∧ L r ≤ C r ∧ (Z r).length = C r ∧ (A r = none → C r = 0) ∧ ∀ a', A r = some a' → ∀ c, c < C r → w.cell? (a'.add c) = some (.int .i64 ((Z r).getD c 0))) :
    Rd2 w (some a) len cap ((List.range len).map fun r => (A r, L r, C r)) ((List.range len).map fun r => (Z r).take (L r)) := by
  refine ⟨⟨by simp, fun h => (by cases h), fun y hy i hi => ?_⟩, by simp, fun i hh zs h1 h2 => ?_⟩
  · obtain rfl := Option.some.inj hy
    rw [(h i (by omega)).1]
    simp [hi, hv]
  · have hi : i < len := by have := (List.getElem?_eq_some_iff.1 h1).1; simpa using this
    simp [hi] at h1 h2
    subst h1 h2
    obtain ⟨_, q1, q2, q3, q4⟩ := h i (by omega)
    refine ⟨by show (iv ((Z i).take (L i))).length = L i; simp [iv]; omega, fun hn => ⟨by have := q3 hn; show L i = 0; omega, q3 hn⟩, fun x hx c hc => ?_⟩
    have hc' : c < L i := hc
    have hx' : A i = some x := hx
    rw [q4 x hx' c (by omega)]
    simp [iv, hc', List.getD, show c < (Z i).length by omega]

theorem lists3 {α β γ : Type} {P : Nat → α → β → γ → Prop} : ∀ n : Nat, (∀ i, i < n → ∃ a b c, P i a b c) → ∃ (xs : List α) (bs : List β) (cs : List γ), xs.length = n ∧ bs.length = n ∧ cs.length = n ∧ ∀ (i : Nat) a b c, xs[i]? = some a → bs[i]? = some b → cs[i]? = some c → P i a b c
  | 0, _ => ⟨[], [], [], rfl, rfl, rfl, fun i a b c h => by simp at h⟩
  | n + 1, h => by
    obtain ⟨xs, bs, cs, l1, l2, l3, hp⟩ := lists3 n (fun i hi => h i (by omega))
    obtain ⟨a, b, c, hn⟩ := h n (by omega)
    refine ⟨xs ++ [a], bs ++ [b], cs ++ [c], by simp [l1], by simp [l2], by simp [l3], fun i a' b' c' h1 h2 h3 => ?_⟩
    by_cases hi : i < n
    · rw [List.getElem?_append_left (by omega)] at h1 h2 h3
      exact hp i a' b' c' h1 h2 h3
    · have hin : i = n := by
        have := (List.getElem?_eq_some_iff.1 h1).1
        simp at this; omega
      subst hin
      rw [List.getElem?_append_right (by omega), l1, Nat.sub_self] at h1
      rw [List.getElem?_append_right (by omega), l2, Nat.sub_self] at h2
      rw [List.getElem?_append_right (by omega), l3, Nat.sub_self] at h3
      simp at h1 h2 h3
      subst h1 h2 h3
      exact hn

theorem rd3_nil (w : World) : Rd3 w none 0 0 [] [] [] := ⟨rd_nil w, rfl, rfl, fun i h hh zss h1 => by simp at h1⟩
theorem rd3_rows {w : World} {x : Addr} {len cap : Nat} (h : ∀ i, i < len → ∃ (a : Option Addr × Nat × Nat) (b : List (Option Addr × Nat × Nat)) (c : List (List Int)), w.cell? (x.add i) = some (hv a) ∧ Rd2 w a.1 a.2.1 a.2.2 b c) :
    ∃ hs hss zsss, Rd3 w (some x) len cap hs hss zsss := by
  obtain ⟨xs, bs, cs, l1, l2, l3, hp⟩ := lists3 len h
  refine ⟨xs, bs, cs, ⟨by simp [l1], fun h => (by cases h), fun y hy i hi => ?_⟩, l2, l3, fun i a b c h1 h2 h3 => (hp i a b c h1 h2 h3).2⟩
  obtain rfl := Option.some.inj hy
  have e1 : xs[i]? = some xs[i] := List.getElem?_eq_getElem (by omega)
  have e2 : bs[i]? = some bs[i] := List.getElem?_eq_getElem (by omega)
  have e3 : cs[i]? = some cs[i] := List.getElem?_eq_getElem (by omega)
  rw [(hp i _ _ _ e1 e2 e3).1, List.getElem?_map, e1]
  rfl

theorem walk (a0 : Option Addr) (n0 c0 : Nat) (bs : List Int) (a1 : Option Addr) (n1 c1 : Nat) (es : List Int) (a2 : Option Addr) (n2 c2 : Nat) (hs : List (Option Addr × Nat × Nat)) (zss : List (List Int))
    (a3 : Option Addr) (n3 c3 : Nat) (hs3 : List (Option Addr × Nat × Nat)) (hss3 : List (List (Option Addr × Nat × Nat))) (zsss : List (List (List Int))) (e k : Int) (w : World)
    (r0 : Rd w a0 n0 c0 (iv bs)) (r1 : Rd w a1 n1 c1 (uv es)) (r2 : Rd2 w a2 n2 c2 hs zss) (r3 : Rd3 w a3 n3 c3 hs3 hss3 zsss) :
    Calls Try.prog 9 #[.slice a0 n0 c0, .slice a1 n1 c1, .slice a2 n2 c2, .slice a3 n3 c3, .int .u64 e, .int .i64 k] w fun x w' => x = .returned (.bool true) ∧ Below w.heap.size w w' := by
  by_cases h1 : 65536 < n0 ∨ 65536 < n1 ∨ 65536 < n2 ∨ 65536 < n3
  · refine (inner_early1 w r2 r3 h1).mono ?_
    rintro x w' ⟨rfl, rfl⟩
    exact ⟨rfl, Below.refl _ _⟩
  · by_cases h2 : n2 = 0 ∨ n0 ≠ n2 ∨ n1 ≠ n2 ∨ n3 ≠ n2 ∨ k < 0 ∨ n2 ≤ k
    · refine (inner_early2 w r2 r3 (by omega) (by omega) (by omega) (by omega) h2).mono ?_
      rintro x w' ⟨rfl, rfl⟩
      exact ⟨rfl, Below.refl _ _⟩
    · obtain rfl : n2 = n0 := by omega
      obtain rfl : n2 = n1 := by omega
      obtain rfl : n2 = n3 := by omega
      obtain ⟨k', rfl⟩ : ∃ k' : Nat, k = (k' : Int) := ⟨k.toNat, by omega⟩
      exact inner_main w n2 k' bs es r0 r1 r2 r3 (by omega) (by omega) (by omega)

set_option maxRecDepth 100000 in
theorem lifted (os : Os) (started : os.Started) (H : Type) (enc : TypeId × Value → H) :
    ReturnsInHanded {} Try.checked os 9 .any (Rows.fnRebalanceInnerKidsExactSpec.pre6 enc Try.prog Try.f9 Rows.fnRebalanceInnerKidsExactRow.domain false) (Rows.fnRebalanceInnerKidsExactSpec.post enc Try.prog Try.f9 false true false false) := by
  refine returnsInHanded_of_change (C := Try.checked) own started (by kernel_rfl) Try.func9
    (ChangeSpec.witness6 (enc := enc) (C := Try.checked) false ⟨#[], #[.slice none 0 0, .slice none 0 0, .slice none 0 0, .slice none 0 0, .int .u64 0, .int .i64 0], []⟩ 8 (by kernel_rfl) (by kernel_rfl) (by kernel_rfl) (by kernel_rfl)) ?_
  intro W base args ds gs before hval0 hW hcnd _
  have hval : ∀ (j : Nat) t v, Try.f9.params[j]? = some t → args[j]? = some v → Value.okWide Try.prog W .any base t v := hval0
  have hW' := hW
  obtain ⟨p, q, hA0, hV, rfl, hfz, hnd⟩ := hW
  have hA : DataW.TrodAll enc Try.prog W 0 (fun _ => true) true Try.f9.params.toList args.toList ds p := hA0
  rw [Try.params9] at hA hval
  obtain ⟨v0, vs0, d0, ds0, p0, q0, hargs, rfl, rfl, h0, r0⟩ := trodAll_cons hA
  obtain ⟨v1, vs1, d1, ds1, p1, q1, rfl, rfl, rfl, h1, r1⟩ := trodAll_cons r0
  obtain ⟨v2, vs2, d2, ds2, p2, q2, rfl, rfl, rfl, h2, r2⟩ := trodAll_cons r1
  obtain ⟨v3, vs3, d3, ds3, p3, q3, rfl, rfl, rfl, h3, r3⟩ := trodAll_cons r2
  obtain ⟨v4, vs4, d4, ds4, p4, q4, rfl, rfl, rfl, h4, r4⟩ := trodAll_cons r3
  obtain ⟨v5, vs5, d5, ds5, p5, q5, rfl, rfl, rfl, h5, r5⟩ := trodAll_cons r4
  obtain ⟨rfl, rfl, rfl⟩ := trodAll_nil r5
  obtain rfl : args = #[v0, v1, v2, v3, v4, v5] := by cases args; simp_all
  obtain ⟨rfl, rfl⟩ := trodVars_none hV
  obtain ⟨a0, len0, cap0, rfl⟩ := okWide_slice Try.underlying30 (hval 0 30 v0 rfl rfl)
  have k0 := h0
  have lt0 : ∀ x ∈ p0, x.block < W.heap.size := by obtain ⟨m, hm⟩ := k0; exact DataW.trod_lt m _ _ _ hm
  obtain ⟨bs, w0⟩ : ∃ bs, Rd W a0 len0 cap0 (iv bs) := by
    obtain ⟨fuel, hf⟩ := h0
    rcases open_ints Try.underlying30 Try.underlying2 cells2 hf with ⟨hcs, _⟩ | ⟨x, l, c, zs, hcs, _, hl, hm, hz, _, hcell, hwz⟩
    · simp [Value.cells] at hcs
      obtain ⟨rfl, rfl, rfl⟩ := hcs
      exact ⟨[], rd_nil W⟩
    · simp [Value.cells] at hcs
      obtain ⟨rfl, rfl, rfl⟩ := hcs
      exact ⟨zs.take len0, rd_ints hl (by simpa using hz) hcell⟩
  obtain ⟨a1, len1, cap1, rfl⟩ := okWide_slice Try.underlying32 (hval 1 32 v1 rfl rfl)
  have k1 := h1
  have lt1 : ∀ x ∈ p1, x.block < W.heap.size := by obtain ⟨m, hm⟩ := k1; exact DataW.trod_lt m _ _ _ hm
  obtain ⟨es, w1⟩ : ∃ es, Rd W a1 len1 cap1 (uv es) := by
    obtain ⟨fuel, hf⟩ := h1
    rcases open_ints Try.underlying32 Try.underlying33 cells33 hf with ⟨hcs, _⟩ | ⟨x, l, c, zs, hcs, _, hl, hm, hz, _, hcell, hwz⟩
    · simp [Value.cells] at hcs
      obtain ⟨rfl, rfl, rfl⟩ := hcs
      exact ⟨[], rd_nil W⟩
    · simp [Value.cells] at hcs
      obtain ⟨rfl, rfl, rfl⟩ := hcs
      exact ⟨zs.take len1, rd_ints hl (by simpa using hz) hcell⟩
  obtain ⟨a2, len2, cap2, rfl⟩ := okWide_slice Try.underlying31 (hval 2 31 v2 rfl rfl)
  have k2 := h2
  have lt2 : ∀ x ∈ p2, x.block < W.heap.size := by obtain ⟨m, hm⟩ := k2; exact DataW.trod_lt m _ _ _ hm
  obtain ⟨hs, zss, w2⟩ : ∃ hs zss, Rd2 W a2 len2 cap2 hs zss := by
    obtain ⟨fuel, hf⟩ := h2
    rcases open_int_rows Try.underlying31 Try.underlying30 Try.underlying2 cells30 cells2 hf with ⟨hcs, _⟩ | ⟨a, len, cap, A, L, C, Z, hcs, _, hl, hm, _, hcell⟩
    · simp [Value.cells] at hcs
      obtain ⟨rfl, rfl, rfl⟩ := hcs
      exact ⟨[], [], rd2_nil W⟩
    · simp [Value.cells] at hcs
      obtain ⟨rfl, rfl, rfl⟩ := hcs
      exact ⟨_, _, rd2_rows (Z := Z) hl (fun r hr => by obtain ⟨e1, e2, e3, e4, e5, e6, e7⟩ := hcell r hr; exact ⟨e1, e2, e4, e6, fun a' ha' => (e7 a' ha').2⟩)⟩
  obtain ⟨a3, len3, cap3, rfl⟩ := okWide_slice Try.underlying51 (hval 3 51 v3 rfl rfl)
  have k3 := h3
  have lt3 : ∀ x ∈ p3, x.block < W.heap.size := by obtain ⟨m, hm⟩ := k3; exact DataW.trod_lt m _ _ _ hm
  obtain ⟨hs3, hss3, zsss, w3⟩ : ∃ hs hss zsss, Rd3 W a3 len3 cap3 hs hss zsss := by
    obtain ⟨fuel, hf⟩ := h3
    rcases open_slice1 Try.underlying51 cells31 hf with ⟨hcs, _⟩ | ⟨a, len, cap, m, n, V, D, Pl, hcs, _, hl, hm, hmm, _, hx⟩
    · simp [Value.cells] at hcs
      obtain ⟨rfl, rfl, rfl⟩ := hcs
      exact ⟨[], [], [], rd3_nil W⟩
    · simp [Value.cells] at hcs
      obtain ⟨rfl, rfl, rfl⟩ := hcs
      simp only [if_true] at hmm
      subst hmm
      refine rd3_rows (fun i hi => ?_)
      obtain ⟨q1, q2⟩ := hx i (by omega)
      rcases open_int_rows Try.underlying31 Try.underlying30 Try.underlying2 cells30 cells2 q2 with ⟨hcs, _⟩ | ⟨a, len, cap, A, L, C, Z, hcs, _, hl', hm', _, hcell⟩
      · simp at hcs
        exact ⟨(none, 0, 0), [], [], by rw [q1, hcs]; rfl, rd2_nil W⟩
      · simp at hcs
        exact ⟨(some a, len, cap), _, _, by rw [q1, hcs]; rfl, rd2_rows (Z := Z) hl' (fun r hr => by obtain ⟨e1, e2, e3, e4, e5, e6, e7⟩ := hcell r hr; exact ⟨e1, e2, e4, e6, fun a' ha' => (e7 a' ha').2⟩)⟩
  obtain ⟨a4, rfl, rfl, rfl, w4⟩ := open_int Try.underlying33 (hval 4 33 v4 rfl rfl) h4
  obtain ⟨a5, rfl, rfl, rfl, w5⟩ := open_int Try.underlying3 (hval 5 3 v5 rfl rfl) h5
  clear hA0 hval0
  refine (walk a0 len0 cap0 bs a1 len1 cap1 es a2 len2 cap2 hs zss a3 len3 cap3 hs3 hss3 zsss a4 a5 W w0 w1 w2 w3).mono fun e W' ⟨he, bel⟩ => ?_
  subst he
  exact ⟨_, rfl, _, _, _, [], _, [], hW', trodAll_mk1 (shut_bool Try.underlying4 _), (trodAll_cons_mk (Below.trod laidOut (by kernel_rfl) (of_decide_eq_true (by kernel_rfl)) k0 bel lt0) (trodAll_cons_mk (Below.trod laidOut (by kernel_rfl) (of_decide_eq_true (by kernel_rfl)) k1 bel lt1) (trodAll_cons_mk (Below.trod laidOut (by kernel_rfl) (of_decide_eq_true (by kernel_rfl)) k2 bel lt2) (trodAll_cons_mk (Below.trod laidOut (by kernel_rfl) (of_decide_eq_true (by kernel_rfl)) k3 bel lt3) (trodAll_cons_mk (shut_int Try.underlying33 w4) (trodAll_cons_mk (shut_int Try.underlying3 w5) trodAll_mk0)))))), rfl, bel.frame _, fun h => by cases h⟩

theorem over : Rows.fnRebalanceInnerKidsExactRow.holds Try.pinned (OpenSpec.ofChange Rows.fnRebalanceInnerKidsExactSpec) :=
  OpenClaim.holds_of_wide 9 Try.f9 rfl rfl rfl rfl rfl rfl rfl ⟨rfl, rfl, rfl, rfl, rfl⟩ rfl rfl rfl rfl rfl named Try.func9 closed inst wrap
    (fun os started H enc _ => lifted os started H enc)

theorem proved : Rows.FnRebalanceInnerKidsExactSaid := over
#print axioms proved
end Go.Proofs.Qxb6602784a.fnRebalanceInnerKidsExact
