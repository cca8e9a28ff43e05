import Derived.Test.Qxb6602638aWt
namespace Go.Proofs.Qxb6602638a
open Go.RowKit

structure Cloned (w w' : World) (a a' : Option Addr) (c' n : Nat) (zs : List Int) : Prop where
  cap : a' = none → c' = 0
  nil : a'.isNone = a.isNone
  below : Below w.heap.size w w'
  reads : Sl w' a' n zs
  new : ∀ x, a' = some x → w.heap.size ≤ x.block

theorem clone_c (a : Option Addr) (n c : Nat) (zs : List Int) (hc : a = none → c = 0) (hn : n ≤ 1048576) (w : World) (h : Sl w a n zs) :
    Calls Try.prog 8 #[.slice a n c] w fun e w' => ∃ a' c', e = .returned (.slice a' n c') ∧ Cloned w w' a a' c' n zs := by
  refine (clone_any a n c zs hc hn w h).mono ?_
  rintro e w' ⟨a', c', rfl, h1, h2, h3, h4, h5⟩
  exact ⟨a', c', rfl, h1, h2, h3, h4, h5⟩

structure Mk (w w' : World) (keep : Bool) (a1 : Option Addr) (n1 c1 : Nat) (one : Bool) (st : Int) (a5 : Option Addr) (n5 c5 : Nat) (key : Bool) (hex : Int) (rest : ByteArray) : Prop where
  below : Below w.heap.size w w'
  size : w'.heap.size = w.heap.size + 1
  scn : Scn w' w.heap.size keep a1 n1 c1 one st a5 n5 c5 key hex rest

structure In (B : Nat) (w w' : World) (keep : Bool) (a1 : Option Addr) (n1 c1 : Nat) (one : Bool) (st : Int) (a5 : Option Addr) (n5 c5 : Nat) (key : Bool) (hex : Int) (rest : ByteArray) : Prop where
  scn : Scn w' B keep a1 n1 c1 one st a5 n5 c5 key hex rest
  upd : Upd B w w'

variable {keep : Bool} {a1 : Option Addr} {n1 c1 : Nat} {one : Bool} {st : Int} {a5 : Option Addr} {n5 c5 : Nat} {key : Bool} {hex : Int} {rest : ByteArray}

theorem make_c (w : World) :
    Calls Try.prog 9 #[.bool keep, .slice a1 n1 c1, .bool one, .int .u8 st, .slice a5 n5 c5, .bool key, .int .i64 hex, .string rest] w fun e w' => e = .returned (.pointer (some ⟨w.heap.size, 0, none⟩)) ∧ Mk w w' keep a1 n1 c1 one st a5 n5 c5 key hex rest := by
  refine (make_any w).mono ?_
  rintro e w' ⟨rfl, h1, h2, h3⟩
  exact ⟨rfl, h1, h2, h3⟩

theorem int_c (w : World) (B : Nat) (c st' : Int) (hc : ((c == 48) = true ∧ st' = 11) ∨ ((c == 48) = false ∧ st' = 12)) (h : Scn w B keep a1 n1 c1 one st a5 n5 c5 key hex rest) :
    Calls Try.prog 15 #[.pointer (some ⟨B, 0, none⟩), .int .u8 c] w fun e w' => e = .returned (.tuple #[]) ∧ In B w w' keep a1 n1 c1 one st' a5 n5 c5 key hex rest := by
  refine (int_any w B c st' hc h).mono ?_
  rintro e w' ⟨rfl, h1, h2⟩
  exact ⟨rfl, h1, h2⟩

theorem Upd.below {B N : Nat} {w w' : World} (u : Upd B w w') (h : N ≤ B) : Below N w w' :=
  ⟨u.os, u.tape, u.output, by rw [u.size]; exact Nat.le_refl _, fun k hk => u.block k (by omega)⟩

theorem add_block (x : Addr) (i : Nat) : (x.add i).block = x.block := by
  unfold Addr.add; split <;> rfl

theorem Sl.upd {B : Nat} {w w' : World} {a : Option Addr} {n : Nat} {zs : List Int} (h : Sl w a n zs) (u : Upd B w w') (hne : ∀ x, a = some x → x.block ≠ B) : Sl w' a n zs :=
  ⟨h.1, h.2.1, fun x hx i hi => by
    rw [← h.2.2 x hx i hi]
    exact World.cell?_of_block (u.block _ (by rw [add_block]; exact hne x hx))⟩

theorem Scn.later {w w' : World} {B N : Nat} (h : Scn w B keep a1 n1 c1 one st a5 n5 c5 key hex rest) (hb : Below N w w') (hB : B < N) : Scn w' B keep a1 n1 c1 one st a5 n5 c5 key hex rest :=
  (hb.block B hB).trans h

theorem Scn.upd {w w' : World} {B C : Nat} (h : Scn w B keep a1 n1 c1 one st a5 n5 c5 key hex rest) (u : Upd C w w') (hB : B ≠ C) : Scn w' B keep a1 n1 c1 one st a5 n5 c5 key hex rest :=
  (u.block B hB).trans h

/-- all that the end of the law asks of the last world -/
structure Fin (w w' : World) (B1 B2 : Nat) (keep one key : Bool) (hex : Int) (rest : ByteArray) (st1 st2 : Int) (n1 n5 : Nat) (z1 z5 : List Int) (o1 o5 : Option Addr) (a1 a5 b1 b5 : Option Addr) (ca1 ca5 cb1 cb5 : Nat) : Prop where
  below : Below w.heap.size w w'
  s1 : Scn w' B1 keep a1 n1 ca1 one st1 a5 n5 ca5 key hex rest
  s2 : Scn w' B2 keep b1 n1 cb1 one st2 b5 n5 cb5 key hex rest
  ro1 : Sl w' o1 n1 z1
  ro5 : Sl w' o5 n5 z5
  ra1 : Sl w' a1 n1 z1
  ra5 : Sl w' a5 n5 z5
  rb1 : Sl w' b1 n1 z1
  rb5 : Sl w' b5 n5 z5
  ea1 : a1.isNone = o1.isNone
  ea5 : a5.isNone = o5.isNone
  eb1 : b1.isNone = o1.isNone
  eb5 : b5.isNone = o5.isNone

theorem fin {w w1 w2 w3 w4 w5 w6 w7 w8 w9 w10 : World} {a1 a5 : Option Addr} {o1 o5 p1 p5 q1 q5 : Option Addr} {co1 co5 cp1 cp5 cq1 cq5 n1 n5 : Nat} {z1 z5 : List Int} {keep one key : Bool} {hex : Int} {rest : ByteArray} {s1 s2 t1 t2 : Int}
    (k1 : Cloned w w1 a1 o1 co1 n1 z1) (k2 : Cloned w1 w2 a5 o5 co5 n5 z5) (k3 : Cloned w2 w3 o1 p1 cp1 n1 z1) (k4 : Cloned w3 w4 o5 p5 cp5 n5 z5)
    (k5 : Mk w4 w5 keep p1 n1 cp1 one s1 p5 n5 cp5 key hex rest) (k6 : Cloned w5 w6 o1 q1 cq1 n1 z1) (k7 : Cloned w6 w7 o5 q5 cq5 n5 z5)
    (k8 : Mk w7 w8 keep q1 n1 cq1 one s2 q5 n5 cq5 key hex rest) (k9 : In w4.heap.size w8 w9 keep p1 n1 cp1 one t1 p5 n5 cp5 key hex rest) (k10 : In w7.heap.size w9 w10 keep q1 n1 cq1 one t2 q5 n5 cq5 key hex rest) :
    Fin w w10 w4.heap.size w7.heap.size keep one key hex rest t1 t2 n1 n5 z1 z5 o1 o5 p1 p5 q1 q5 cp1 cp5 cq1 cq5 := by
  have e1 := k1.below.size
  have e2 := k2.below.size
  have e3 := k3.below.size
  have e4 := k4.below.size
  have e5 := k5.size
  have e6 := k6.below.size
  have e7 := k7.below.size
  have e8 := k8.size
  have b04 : Below w.heap.size w w4 := ((k1.below.trans (k2.below.mono (by omega))).trans (k3.below.mono (by omega))).trans (k4.below.mono (by omega))
  have b48 : Below w4.heap.size w4 w8 := ((k5.below.trans (k6.below.mono (by omega))).trans (k7.below.mono (by omega))).trans (k8.below.mono (by omega))
  have b410 : Below w4.heap.size w4 w10 := (b48.trans (k9.upd.below (Nat.le_refl _))).trans (k10.upd.below (by omega))
  have lt_of : ∀ {u : World} {a : Option Addr} {n : Nat} {zs : List Int}, Sl u a n zs → ∀ i x, a = some x → i < n → x.block < u.heap.size := fun h i x hx hi => by have := World.block_lt_of_cell? _ _ (h.2.2 x hx i hi); rwa [add_block] at this
  have keep8 : ∀ {a : Option Addr} {n : Nat} {zs : List Int}, Sl w7 a n zs → (∀ x, a = some x → w4.heap.size < x.block) → Sl w10 a n zs := by
    intro a n zs h hx
    by_cases h0 : n = 0
    · subst h0
      exact ⟨h.1, fun _ => rfl, fun x hx i hi => by omega⟩
    · have h8 := h.later k8.below
      refine (h8.upd k9.upd (fun x hx' => by have := hx x hx'; omega)).upd k10.upd (fun x hx' => ?_)
      have := lt_of h 0 x hx' (by omega)
      omega
  refine ⟨b04.trans (b410.mono (by omega)), ?_, k10.scn, ?_, ?_, ?_, ?_, ?_, ?_, k3.nil, k4.nil, k6.nil, k7.nil⟩
  · exact k9.scn.upd k10.upd (by omega)
  · exact (((k1.reads.later k2.below).later k3.below).later k4.below).later b410
  · exact ((k2.reads.later k3.below).later k4.below).later b410
  · exact (k3.reads.later k4.below).later b410
  · exact k4.reads.later b410
  · exact keep8 (k6.reads.later k7.below) (fun x hx => by have := k6.new x hx; omega)
  · exact keep8 k7.reads (fun x hx => by have := k7.new x hx; omega)

set_option maxHeartbeats 1000000 in
theorem top_main {a0 : Bool} {a1 : Option Addr} {n1 c1 : Nat} {a2 : Bool} {a3 a4 : Int} {a5 : Option Addr} {n5 c5 : Nat} {a6 : Bool} {a7 : Int} {a8 : ByteArray} {a9 a10 : Int} (w : World) (h : n1 + n5 + a8.size ≤ 1048576)
    (h9 : 48 ≤ a9) (h9' : a9 ≤ 57) (h10 : 48 ≤ a10) (h10' : a10 ≤ 57) (z1 z5 : List Int) (m1 : a1 = none → c1 = 0) (m5 : a5 = none → c5 = 0) (r1 : Sl w a1 n1 z1) (r5 : Sl w a5 n5 z5) :
    Calls Try.prog 4 #[.bool a0, .slice a1 n1 c1, .bool a2, .int .u8 a3, .int .u8 a4, .slice a5 n5 c5, .bool a6, .int .i64 a7, .string a8, .int .u8 a9, .int .u8 a10] w fun e w' => e = .returned (.bool true) ∧ Below w.heap.size w w' := by
  have g1 : n1 ≤ 1048576 := by omega
  have g2 : n5 ≤ 1048576 := by omega
  have g3 : a8.size ≤ 1048576 := by omega
  have M1 := (show Hid (_) from m1)
  have M5 := (show Hid (_) from m5)
  clear m1 m5
  go_enter Try.func4, Try.ntmps4
  go_wp2_with (go_at_call 14; refine (zz_yes _ h).mono ?_; rintro e w' ⟨rfl, rfl⟩)
  refine (clone_c a1 n1 c1 z1 M1.out g1 _ r1).mono ?_
  rintro e w1 ⟨o1, co1, rfl, k1⟩
  go_wp2_with fail
  refine (clone_c a5 n5 c5 z5 M5.out g2 _ (r5.later k1.below)).mono ?_
  rintro e w2 ⟨o5, co5, rfl, k2⟩
  go_wp2_with fail
  refine (clone_c o1 n1 co1 z1 k1.cap g1 _ (k1.reads.later k2.below)).mono ?_
  rintro e w3 ⟨p1, cp1, rfl, k3⟩
  go_wp2_with fail
  refine (clone_c o5 n5 co5 z5 k2.cap g2 _ (k2.reads.later k3.below)).mono ?_
  rintro e w4 ⟨p5, cp5, rfl, k4⟩
  go_wp2_with fail
  refine (make_c _).mono ?_
  rintro e w5 ⟨rfl, k5⟩
  go_wp2_with fail
  have h45 := (k4.below.trans (k5.below.mono k4.below.size))
  refine (clone_c o1 n1 co1 z1 k1.cap g1 _ (((k1.reads.later k2.below).later k3.below).later h45)).mono ?_
  rintro e w6 ⟨q1, cq1, rfl, k6⟩
  go_wp2_with fail
  refine (clone_c o5 n5 co5 z5 k2.cap g2 _ (((k2.reads.later k3.below).later h45).later k6.below)).mono ?_
  rintro e w7 ⟨q5, cq5, rfl, k7⟩
  go_wp2_with fail
  refine (make_c _).mono ?_
  rintro e w8 ⟨rfl, k8⟩
  have hs1 : Scn w8 w4.heap.size a0 p1 n1 cp1 a2 a3 p5 n5 cp5 a6 a7 a8 := by
    have e5 := k5.size
    have e6 := k6.below.size
    have e7 := k7.below.size
    exact k5.scn.later ((k6.below.trans (k7.below.mono e6)).trans (k8.below.mono (by omega))) (by omega)
  have hne : w7.heap.size ≠ w4.heap.size := by
    have e5 := k5.size
    have e6 := k6.below.size
    have e7 := k7.below.size
    omega
  have HN := (show Hid (_) from hne)
  clear hne
  rcases (show (a9 == 48) = true ∨ (a9 == 48) = false by cases (a9 == 48) <;> simp) with hc9 | hc9
  all_goals rcases (show (a10 == 48) = true ∨ (a10 == 48) = false by cases (a10 == 48) <;> simp) with hc10 | hc10
  all_goals
    go_wp2_with fail
    refine (int_c _ w4.heap.size a9 (if (a9 == 48) = true then 11 else 12) (by simp [hc9]) hs1).mono ?_
    rintro e w9 ⟨rfl, k9⟩
    go_wp2_with fail
    refine (int_c _ w7.heap.size a10 (if (a10 == 48) = true then 11 else 12) (by simp [hc10]) (k8.scn.upd k9.upd HN.out)).mono ?_
    rintro e w10 ⟨rfl, k10⟩
    have F := fin k1 k2 k3 k4 k5 k6 k7 k8 k9 k10
    clear k1 k2 k3 k4 k5 k6 k7 k8 k9 k10 h45 hs1 r1 r5 HN M1 M5
    go_wp2_with fail
    refine (state_any _ w4.heap.size F.s1).mono ?_
    rintro e w' ⟨rfl, rfl⟩
    go_wp2_with fail
    refine (state_any _ w7.heap.size F.s2).mono ?_
    rintro e w' ⟨rfl, rfl⟩
    go_wp2_with fail
    refine (key_any _ w4.heap.size F.s1).mono ?_
    rintro e w' ⟨rfl, rfl⟩
    go_wp2_with fail
    refine (key_any _ w7.heap.size F.s2).mono ?_
    rintro e w' ⟨rfl, rfl⟩
    go_wp2_with fail
    refine (untouched_any _ w4.heap.size F.s1 o1 o5 co1 co5 z1 z5 g1 g2 F.ra1 F.ro1 F.ra5 F.ro5 F.ea1 F.ea5).mono ?_
    rintro e w' ⟨rfl, m1, rfl⟩
    go_wp2_with fail
    refine (untouched_any _ w7.heap.size (F.s2.drew m1) o1 o5 co1 co5 z1 z5 g1 g2 (F.rb1.drew m1) (F.ro1.drew m1) (F.rb5.drew m1) (F.ro5.drew m1) F.eb1 F.eb5).mono ?_
    rintro e w' ⟨rfl, m2, rfl⟩
    go_wp2
    go_ret
    exact ⟨rfl, below_drewN F.below _⟩

end Go.Proofs.Qxb6602638a
