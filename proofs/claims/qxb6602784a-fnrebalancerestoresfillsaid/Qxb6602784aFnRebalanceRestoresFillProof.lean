/-
  'Rows.FnRebalanceRestoresFillSaid' proved: the frame after the kit's program for laws over slices; the walk by the contracts of Qxb6602784aBa .. Bn.
-/
import Derived.Test.Qxb6602784aRows
import Derived.Test.Qxb6602784aBn
import Derived.Test.Qxb6602784aCx
import Derived.WalkKit
import Derived.ProofKit
import Derived.OpenShut
import Derived.ShutString
import Derived.ChangeOld
import Derived.Below
import Derived.Deep.Matrix
namespace Go.Proofs.Qxb6602784a.fnRebalanceRestoresFill
open Go.ChangeShapes Go.WideShapes Go.ChangeAt Go.RowKit Go.Deep
set_option linter.unusedVariables false

theorem own : ownKnob Try.prog.godebug = none := by kernel_rfl
theorem laidOut : laidOutB Try.prog = true := by kernel_rfl
theorem cells30 : Try.prog.cellsOf 30 = 1 := by kernel_rfl
theorem cells2 : Try.prog.cellsOf 2 = 1 := by kernel_rfl
theorem cells33 : Try.prog.cellsOf 33 = 1 := by kernel_rfl

theorem rd_nil (w : World) : Rd w none 0 0 [] := ⟨rfl, fun _ => ⟨rfl, rfl⟩, fun x hx => by cases hx⟩
theorem rd_ints {w : World} {k : IntKind} {x : Addr} {n c : Nat} {zs : List Int} (hl : n ≤ c) (hz : zs.length = c) (hc : ∀ i, i < zs.length → w.cell? (x.add i) = some (.int k (zs.getD i 0))) : Rd w (some x) n c ((zs.take n).map (Value.int k)) := by
  refine ⟨by simp; omega, fun h => (by cases h), fun y hy i hi => ?_⟩
  obtain rfl := Option.some.inj hy
  rw [hc i (by omega)]
  simp [hi, List.getD, show i < zs.length by omega]

theorem rd2_nil (w : World) : Rd2 w none 0 0 [] [] := ⟨rd_nil w, rfl, fun i h zs h1 => by simp at h1⟩
theorem rd2_rows {w : World} {a : Addr} {len cap : Nat} {A : Nat → Option Addr} {L C : Nat → Nat} {Z : Nat → List Int} (hl : len ≤ cap)
    (h : ∀ r, r < cap → w.cell? (a.add r) = some (.slice (A r) (L r) (C r)) ∧ L r ≤ C r ∧ (Z r).length = C r ∧ (A r = none → C r = 0) ∧ ∀ a', A r = some a' → ∀ c, c < C r → w.cell? (a'.add c) = some (.int .i64 ((Z r).getD c 0))) :
    Rd2 w (some a) len cap ((List.range len).map fun r => (A r, L r, C r)) ((List.range len).map fun r => (Z r).take (L r)) := by
  refine ⟨⟨by simp, fun h => (by cases h), fun y hy i hi => ?_⟩, by simp, fun i hh zs h1 h2 => ?_⟩
  · obtain rfl := Option.some.inj hy
    rw [(h i (by omega)).1]
    simp [hi, hv]
  · have hi : i < len := by have := (List.getElem?_eq_some_iff.1 h1).1; simpa using this
    simp [hi] at h1 h2
    subst h1 h2
    obtain ⟨_, q1, q2, q3, q4⟩ := h i (by omega)
    refine ⟨by show (iv ((Z i).take (L i))).length = L i; simp [iv]; omega, fun hn => ⟨by have := q3 hn; show L i = 0; omega, q3 hn⟩, fun x hx c hc => ?_⟩
    have hc' : c < L i := hc
    have hx' : A i = some x := hx
    rw [q4 x hx' c (by omega)]
    simp [iv, hc', List.getD, show c < (Z i).length by omega]

theorem walk (a0 : Option Addr) (n0 c0 : Nat) (bs : List Int) (a1 : Option Addr) (n1 c1 : Nat) (hs : List (Option Addr × Nat × Nat)) (zss : List (List Int)) (a2 : Option Addr) (n2 c2 : Nat) (es : List Int) (e k : Int) (w : World)
    (r0 : Rd w a0 n0 c0 (iv bs)) (r1 : Rd2 w a1 n1 c1 hs zss) (r2 : Rd w a2 n2 c2 (uv es)) :
    Calls Try.prog 10 #[.slice a0 n0 c0, .slice a1 n1 c1, .slice a2 n2 c2, .int .u64 e, .int .i64 k] w fun x w' => x = .returned (.bool true) ∧ Below w.heap.size w w' := by
  by_cases h1 : 65536 < n0 ∨ 65536 < n1 ∨ 65536 < n2
  · refine (fill_early1 w r1 h1).mono ?_
    rintro x w' ⟨rfl, rfl⟩
    exact ⟨rfl, Below.refl _ _⟩
  · by_cases h2 : n1 < 2 ∨ n0 ≠ n1 ∨ n2 ≠ n1 ∨ k < 0 ∨ n1 ≤ k
    · refine (fill_early2 w r1 (by omega) (by omega) (by omega) h2).mono ?_
      rintro x w' ⟨rfl, rfl⟩
      exact ⟨rfl, Below.refl _ _⟩
    · obtain rfl : n0 = n1 := by omega
      obtain rfl : n2 = n0 := by omega
      obtain ⟨k', rfl⟩ : ∃ k' : Nat, k = (k' : Int) := ⟨k.toNat, by omega⟩
      exact fill_main w n2 k' bs es r0 r1 r2 (by omega) (by omega) (by omega)

set_option maxRecDepth 100000 in
theorem lifted (os : Os) (started : os.Started) (H : Type) (enc : TypeId × Value → H) :
    ReturnsInHanded {} Try.checked os 10 .any (Rows.fnRebalanceRestoresFillSpec.pre6 enc Try.prog Try.f10 Rows.fnRebalanceRestoresFillRow.domain false) (Rows.fnRebalanceRestoresFillSpec.post enc Try.prog Try.f10 false true false false) := by
  refine returnsInHanded_of_change (C := Try.checked) own started (by kernel_rfl) Try.func10
    (ChangeSpec.witness6 (enc := enc) (C := Try.checked) false ⟨#[], #[.slice none 0 0, .slice none 0 0, .slice none 0 0, .int .u64 0, .int .i64 0], []⟩ 8 (by kernel_rfl) (by kernel_rfl) (by kernel_rfl) (by kernel_rfl)) ?_
  intro W base args ds gs before hval0 hW hcnd _
  have hval : ∀ (j : Nat) t v, Try.f10.params[j]? = some t → args[j]? = some v → Value.okWide Try.prog W .any base t v := hval0
  have hW' := hW
  obtain ⟨p, q, hA0, hV, rfl, hfz, hnd⟩ := hW
  have hA : DataW.TrodAll enc Try.prog W 0 (fun _ => true) true Try.f10.params.toList args.toList ds p := hA0
  rw [Try.params10] at hA hval
  obtain ⟨v0, vs0, d0, ds0, p0, q0, hargs, rfl, rfl, h0, r0⟩ := trodAll_cons hA
  obtain ⟨v1, vs1, d1, ds1, p1, q1, rfl, rfl, rfl, h1, r1⟩ := trodAll_cons r0
  obtain ⟨v2, vs2, d2, ds2, p2, q2, rfl, rfl, rfl, h2, r2⟩ := trodAll_cons r1
  obtain ⟨v3, vs3, d3, ds3, p3, q3, rfl, rfl, rfl, h3, r3⟩ := trodAll_cons r2
  obtain ⟨v4, vs4, d4, ds4, p4, q4, rfl, rfl, rfl, h4, r4⟩ := trodAll_cons r3
  obtain ⟨rfl, rfl, rfl⟩ := trodAll_nil r4
  obtain rfl : args = #[v0, v1, v2, v3, v4] := by cases args; simp_all
  obtain ⟨rfl, rfl⟩ := trodVars_none hV
  obtain ⟨a0, len0, cap0, rfl⟩ := okWide_slice Try.underlying30 (hval 0 30 v0 rfl rfl)
  have k0 := h0
  have lt0 : ∀ x ∈ p0, x.block < W.heap.size := by obtain ⟨m, hm⟩ := k0; exact DataW.trod_lt m _ _ _ hm
  obtain ⟨bs, w0⟩ : ∃ bs, Rd W a0 len0 cap0 (iv bs) := by
    obtain ⟨fuel, hf⟩ := h0
    rcases open_ints Try.underlying30 Try.underlying2 cells2 hf with ⟨hcs, _⟩ | ⟨x, l, c, zs, hcs, _, hl, hm, hz, _, hcell, hwz⟩
    · simp [Value.cells] at hcs
      obtain ⟨rfl, rfl, rfl⟩ := hcs
      exact ⟨[], rd_nil W⟩
    · simp [Value.cells] at hcs
      obtain ⟨rfl, rfl, rfl⟩ := hcs
      exact ⟨zs.take len0, rd_ints hl (by simpa using hz) hcell⟩
  obtain ⟨a1, len1, cap1, rfl⟩ := okWide_slice Try.underlying31 (hval 1 31 v1 rfl rfl)
  have k1 := h1
  have lt1 : ∀ x ∈ p1, x.block < W.heap.size := by obtain ⟨m, hm⟩ := k1; exact DataW.trod_lt m _ _ _ hm
  obtain ⟨hs, zss, w1⟩ : ∃ hs zss, Rd2 W a1 len1 cap1 hs zss := by
    obtain ⟨fuel, hf⟩ := h1
    rcases open_int_rows Try.underlying31 Try.underlying30 Try.underlying2 cells30 cells2 hf with ⟨hcs, _⟩ | ⟨a, len, cap, A, L, C, Z, hcs, _, hl, hm, _, hcell⟩
    · simp [Value.cells] at hcs
      obtain ⟨rfl, rfl, rfl⟩ := hcs
      exact ⟨[], [], rd2_nil W⟩
    · simp [Value.cells] at hcs
      obtain ⟨rfl, rfl, rfl⟩ := hcs
      exact ⟨_, _, rd2_rows (Z := Z) hl (fun r hr => by obtain ⟨e1, e2, e3, e4, e5, e6, e7⟩ := hcell r hr; exact ⟨e1, e2, e4, e6, fun a' ha' => (e7 a' ha').2⟩)⟩
  obtain ⟨a2, len2, cap2, rfl⟩ := okWide_slice Try.underlying32 (hval 2 32 v2 rfl rfl)
  have k2 := h2
  have lt2 : ∀ x ∈ p2, x.block < W.heap.size := by obtain ⟨m, hm⟩ := k2; exact DataW.trod_lt m _ _ _ hm
  obtain ⟨es, w2⟩ : ∃ es, Rd W a2 len2 cap2 (uv es) := by
    obtain ⟨fuel, hf⟩ := h2
    rcases open_ints Try.underlying32 Try.underlying33 cells33 hf with ⟨hcs, _⟩ | ⟨x, l, c, zs, hcs, _, hl, hm, hz, _, hcell, hwz⟩
    · simp [Value.cells] at hcs
      obtain ⟨rfl, rfl, rfl⟩ := hcs
      exact ⟨[], rd_nil W⟩
    · simp [Value.cells] at hcs
      obtain ⟨rfl, rfl, rfl⟩ := hcs
      exact ⟨zs.take len2, rd_ints hl (by simpa using hz) hcell⟩
  obtain ⟨a3, rfl, rfl, rfl, w3⟩ := open_int Try.underlying33 (hval 3 33 v3 rfl rfl) h3
  obtain ⟨a4, rfl, rfl, rfl, w4⟩ := open_int Try.underlying3 (hval 4 3 v4 rfl rfl) h4
  clear hA0 hval0
  refine (walk a0 len0 cap0 bs a1 len1 cap1 hs zss a2 len2 cap2 es a3 a4 W w0 w1 w2).mono fun e W' ⟨he, bel⟩ => ?_
  subst he
  exact ⟨_, rfl, _, _, _, [], _, [], hW', trodAll_mk1 (shut_bool Try.underlying4 _), (trodAll_cons_mk (Below.trod laidOut (by kernel_rfl) (of_decide_eq_true (by kernel_rfl)) k0 bel lt0) (trodAll_cons_mk (Below.trod laidOut (by kernel_rfl) (of_decide_eq_true (by kernel_rfl)) k1 bel lt1) (trodAll_cons_mk (Below.trod laidOut (by kernel_rfl) (of_decide_eq_true (by kernel_rfl)) k2 bel lt2) (trodAll_cons_mk (shut_int Try.underlying33 w3) (trodAll_cons_mk (shut_int Try.underlying3 w4) trodAll_mk0))))), rfl, bel.frame _, fun h => by cases h⟩

theorem over : Rows.fnRebalanceRestoresFillRow.holds Try.pinned (OpenSpec.ofChange Rows.fnRebalanceRestoresFillSpec) :=
  OpenClaim.holds_of_wide 10 Try.f10 rfl rfl rfl rfl rfl rfl rfl ⟨rfl, rfl, rfl, rfl, rfl⟩ rfl rfl rfl rfl rfl named Try.func10 closed inst wrap
    (fun os started H enc _ => lifted os started H enc)

theorem proved : Rows.FnRebalanceRestoresFillSaid := over
#print axioms proved
end Go.Proofs.Qxb6602784a.fnRebalanceRestoresFill
