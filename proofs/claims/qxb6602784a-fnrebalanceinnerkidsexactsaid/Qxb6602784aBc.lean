import Derived.Test.Qxb6602784aBb
import Derived.Deep.RegionHeld3
import Derived.Deep.DrawnRows
namespace Go.Proofs.Qxb6602784a
open Go.RowKit
set_option linter.unusedVariables false
set_option linter.unusedSimpArgs false

/-- but for the blocks of S all that was there is as it was -/
structure Fr (S : Nat → Prop) (w w' : World) : Prop where
  os : w'.os = w.os
  tape : w'.tape = w.tape
  output : w'.output = w.output
  size : w.heap.size ≤ w'.heap.size
  block : ∀ k, k < w.heap.size → ¬ S k → w'.heap[k]? = w.heap[k]?

theorem Fr.refl (S : Nat → Prop) (w : World) : Fr S w w := ⟨rfl, rfl, rfl, Nat.le_refl _, fun _ _ _ => rfl⟩
theorem Fr.trans {S : Nat → Prop} {a b c : World} (h : Fr S a b) (k : Fr S b c) : Fr S a c :=
  ⟨k.os.trans h.os, k.tape.trans h.tape, k.output.trans h.output, Nat.le_trans h.size k.size, fun i hi hs => (k.block i (Nat.lt_of_lt_of_le hi h.size) hs).trans (h.block i hi hs)⟩
theorem Fr.grown {S : Nat → Prop} {w w' : World} {row : Option Nat} (hg : w.grownBy w' row) (hr : ∀ k, row = some k → S k) : Fr S w w' :=
  ⟨hg.os, hg.tape, hg.output, hg.size, fun k hk hs => hg.block k hk (fun e => hs (hr k e.symm))⟩
theorem Fr.alloc (S : Nat → Prop) (w : World) (o : Obj) : Fr S w (w.alloc o) := ⟨rfl, rfl, rfl, by simp, fun k hk _ => Below.heap_alloc w o k hk⟩
theorem Fr.setCell {S : Nat → Prop} (w : World) {p : Addr} (hp : S p.block) (u : Value) : Fr S w (w.setCell p u) :=
  ⟨rfl, rfl, rfl, by simp, fun k _ hs => Below.heap_setCell w p u k (fun e => hs (e ▸ hp))⟩
theorem Fr.drewN (S : Nat → Prop) (w : World) (n : Nat) : Fr S w (w.drewN n) := ⟨rfl, rfl, rfl, Nat.le_refl _, fun _ _ _ => rfl⟩
theorem Fr.mono {S S' : Nat → Prop} {w w' : World} (h : Fr S w w') (hs : ∀ k, k < w.heap.size → S k → S' k) : Fr S' w w' :=
  ⟨h.os, h.tape, h.output, h.size, fun k hk hn => h.block k hk (fun e => hn (hs k hk e))⟩
theorem Fr.below {S : Nat → Prop} {w w' : World} (h : Fr S w w') {B : Nat} (hB : B ≤ w.heap.size) (hs : ∀ k, S k → B ≤ k) : Below B w w' :=
  ⟨h.os, h.tape, h.output, h.size, fun k hk => h.block k (by omega) (fun e => by have := hs k e; omega)⟩

/-- a node's cells -/
def nd (ep : Int) (ia : Option Addr) (n ic : Nat) (ka : Option Addr) (kn kc : Nat) : Obj := .cells #[.int .u64 ep, .slice ia n ic, .slice ka kn kc] 61 (0, 0)

theorem nd_cell {w : World} {B : Nat} {ep : Int} {ia : Option Addr} {n ic : Nat} {ka : Option Addr} {kn kc : Nat} (h : w.heap[B]? = some (nd ep ia n ic ka kn kc)) (j : Nat) : w.cell? ⟨B, j, none⟩ = #[.int .u64 ep, .slice ia n ic, .slice ka kn kc][j]? :=
  cell_of_row w B j _ 61 (0, 0) h
theorem nd_frozen {w : World} {B : Nat} {ep : Int} {ia : Option Addr} {n ic : Nat} {ka : Option Addr} {kn kc : Nat} (h : w.heap[B]? = some (nd ep ia n ic ka kn kc)) (j : Nat) : w.frozen? ⟨B, j, none⟩ = false :=
  frozen_of_row w B j _ 61 h
theorem nd_set1 {w : World} {B : Nat} {ep : Int} {ia : Option Addr} {n ic : Nat} {ka : Option Addr} {kn kc : Nat} (h : w.heap[B]? = some (nd ep ia n ic ka kn kc)) (ia' : Option Addr) (n' ic' : Nat) :
    (w.setCell ⟨B, 1, none⟩ (.slice ia' n' ic')).heap[B]? = some (nd ep ia' n' ic' ka kn kc) := heap_setCell_same w B 1 _ 61 _ h
theorem nd_set2 {w : World} {B : Nat} {ep : Int} {ia : Option Addr} {n ic : Nat} {ka : Option Addr} {kn kc : Nat} (h : w.heap[B]? = some (nd ep ia n ic ka kn kc)) (ka' : Option Addr) (kn' kc' : Nat) :
    (w.setCell ⟨B, 2, none⟩ (.slice ka' kn' kc')).heap[B]? = some (nd ep ia n ic ka' kn' kc') := heap_setCell_same w B 2 _ 61 _ h

/-- a row of values owned by a slice that lies at the head of block g -/
structure Rw (w : World) (T : TypeId) (g n c : Nat) (vs : List Value) : Prop where
  own : w.ownsRow 0 T 1 (.slice (some ⟨g, 0, none⟩) n c) n vs

theorem Rw.form {w : World} {T : TypeId} {g n c : Nat} {vs : List Value} (h : Rw w T g n c vs) : vs.length = n ∧ n ≤ c ∧ c ≤ maxLen ∧ ∃ cur, w.heap[g]? = some (.cells cur T (0, 0)) ∧ cur.size = c ∧ cur.toList.take n = vs := by
  have h1 := h.own.1
  rcases h.own.2 with ⟨h', _⟩ | ⟨g', cap', cur, h', _, r2, r3, r4, r5, r6⟩
  · simp at h'
  · simp only [Value.slice.injEq, Option.some.injEq, Addr.mk.injEq, and_true, true_and] at h'
    obtain ⟨rfl, rfl⟩ := h'
    exact ⟨by omega, r3, r4, cur, r2, by omega, by simpa using r6⟩
theorem Rw.mk' {w : World} {T : TypeId} {g n c : Nat} {vs : List Value} {cur : Array Value} (hn : n ≤ c) (hm : c ≤ maxLen) (hb : w.heap[g]? = some (.cells cur T (0, 0))) (hs : cur.size = c) (ht : cur.toList.take n = vs) : Rw w T g n c vs := by
  refine ⟨⟨?_, .inr ⟨g, c, cur, rfl, Nat.zero_le _, hb, hn, hm, by omega, by simpa using ht⟩⟩⟩
  rw [← ht]; simp; omega
theorem Rw.of {w : World} {base : Nat} {T : TypeId} {g n c : Nat} {vs : List Value} (h : w.ownsRow base T 1 (.slice (some ⟨g, 0, none⟩) n c) n vs) : Rw w T g n c vs := by
  refine ⟨⟨h.1, ?_⟩⟩
  rcases h.2 with h' | ⟨g', cap', cur, h', _, r⟩
  · exact .inl h'
  · exact .inr ⟨g', cap', cur, h', Nat.zero_le _, r⟩
theorem Rw.keep {w w' : World} {T : TypeId} {g n c : Nat} {vs : List Value} (h : Rw w T g n c vs) (hk : w'.heap[g]? = w.heap[g]?) : Rw w' T g n c vs := by
  obtain ⟨_, r3, r4, cur, r2, r5, r6⟩ := h.form
  exact Rw.mk' r3 r4 (hk.trans r2) r5 r6
theorem Rw.lt {w : World} {T : TypeId} {g n c : Nat} {vs : List Value} (h : Rw w T g n c vs) : g < w.heap.size := (World.ownsRow.lt h.own g rfl).2
theorem Rw.len {w : World} {T : TypeId} {g n c : Nat} {vs : List Value} (h : Rw w T g n c vs) : vs.length = n := h.form.1
theorem Rw.cap {w : World} {T : TypeId} {g n c : Nat} {vs : List Value} (h : Rw w T g n c vs) : n ≤ c := h.form.2.1
/-- the head of a row is a row -/
theorem Rw.cut {w : World} {T : TypeId} {g n c : Nat} {vs : List Value} (h : Rw w T g n c vs) (m : Nat) (hm : m ≤ n) : Rw w T g m c (vs.take m) := by
  obtain ⟨_, r3, r4, cur, r2, r5, r6⟩ := h.form
  refine Rw.mk' (by omega) r4 r2 r5 ?_
  rw [← r6, List.take_take]
  congr 1
  omega
theorem Rw.cell {w : World} {T : TypeId} {g n c : Nat} {vs : List Value} (h : Rw w T g n c vs) (j : Nat) (hj : j < n) : w.cell? ⟨g, j, none⟩ = vs[j]? := h.own.cellAt j (by omega)
theorem Rw.news {w : World} {T : TypeId} {g n c : Nat} {vs : List Value} (h : Rw w T g n c vs) (a : Nat) : ∀ j u, (vs.drop a)[j]? = some u → w.cell? ((⟨g, a, none⟩ : Addr).add j) = some u := by
  intro j u hj
  have hl := h.len
  have hlt := (List.getElem?_eq_some_iff.1 hj).1
  rw [List.length_drop] at hlt
  rw [Addr.add_lit, h.cell (a + j) (by omega)]
  rw [List.getElem?_drop] at hj
  exact hj

/-- what split leaves of a leaf -/
structure SplitL (w w' : World) (J : Nat) (e : Int) (gI t c at_ : Nat) (ids : List Value) (R gR cR : Nat) : Prop where
  new : w.heap.size ≤ R ∧ w.heap.size ≤ gR ∧ R ≠ gR
  right : w'.heap[R]? = some (nd e (some ⟨gR, 0, none⟩) (t - at_) cR none 0 0)
  rids : Rw w' 2 gR (t - at_) cR (ids.drop at_)
  left : w'.heap[J]? = some (nd e (some ⟨gI, 0, none⟩) at_ c none 0 0)
  fr : Fr (fun k => k = J) w w'

theorem splitL_of {w w1 : World} {J : Nat} {e : Int} {gI t c at_ : Nat} {ids : List Value} {gR cR : Nat} {H : Nat} (hJ1 : w1.heap[J]? = some (nd e (some ⟨gI, 0, none⟩) t c none 0 0)) (hJw : J < w.heap.size)
    (hown : w1.ownsRow w.heap.size 2 1 (.slice (some ⟨gR, 0, none⟩) (0 + (t - at_)) cR) (0 + (t - at_)) ([] ++ ids.drop at_)) (hgrow : w.grownBy w1 (Value.slice none 0 0).ownBlock) (hat : (Value.slice none 0 0).ownBlock = some gR ∨ gR = H) (hH : H = w.heap.size) (hlt : gR < w1.heap.size) :
    SplitL w ((w1.setCell ⟨J, 1, none⟩ (.slice (some ⟨gI, 0, none⟩) at_ c)).alloc (nd e (some ⟨gR, 0, none⟩) (t - at_) cR none 0 0)) J e gI t c at_ ids w1.heap.size gR cR := by
  have hg : gR = w.heap.size := by
    rcases hat with h | h
    · simp [Value.ownBlock] at h
    · omega
  have hs := hgrow.size
  have hJl := lt_of_blk hJ1
  have hz : (w1.setCell ⟨J, 1, none⟩ (.slice (some ⟨gI, 0, none⟩) at_ c)).heap.size = w1.heap.size := by simp
  have hR : Rw w1 2 gR (t - at_) cR (ids.drop at_) := Rw.of (by simpa using hown)
  refine ⟨⟨hs, by omega, by omega⟩, ?_, ?_, ?_, ?_⟩
  · rw [← hz]
    exact heap_alloc_new _ _
  · refine hR.keep ?_
    rw [Below.heap_alloc _ _ _ (by omega)]
    exact heap_setCell_other _ _ _ _ (by simp; omega)
  · rw [Below.heap_alloc _ _ _ (by omega)]
    exact nd_set1 hJ1 _ _ _
  · exact ((Fr.grown hgrow (fun k h => by simp [Value.ownBlock] at h)).trans (Fr.setCell (S := fun k => k = J) w1 (p := ⟨J, 1, none⟩) rfl _)).trans (Fr.alloc _ _ _)

set_option maxHeartbeats 800000 in
theorem split_leaf (w : World) (J : Nat) (e : Int) (gI t c at_ : Nat) (ids : List Value) (h0 : 0 < at_) (hat : at_ < t) (ht : t ≤ 1048576) (h1 : ∀ v ∈ ids, v.oneCell' = true) (hJI : J ≠ gI)
    (hJ : w.heap[J]? = some (nd e (some ⟨gI, 0, none⟩) t c none 0 0)) (hI : Rw w 2 gI t c ids) :
    Calls Try.prog 48 #[.pointer (some ⟨J, 0, none⟩), .int .u64 e, .int .i64 at_] w fun x w' => ∃ R gR cR, x = .returned (.pointer (some ⟨R, 0, none⟩)) ∧ SplitL w w' J e gI t c at_ ids R gR cR := by
  have r := r39
  obtain ⟨i0, hi, hz0, hz1, hz2⟩ := info_parts Try.info2
  have k0 : w.cell? ⟨J, 0, none⟩ = some (.int .u64 e) := nd_cell hJ 0
  have k1 : w.cell? ⟨J, 1, none⟩ = some (.slice (some ⟨gI, 0, none⟩) t c) := nd_cell hJ 1
  have k2 : w.cell? ⟨J, 2, none⟩ = some (.slice none 0 0) := nd_cell hJ 2
  have hcap := hI.cap
  have HJ := (show Hid (_) from hJ)
  have HI := (show Hid (_) from hI)
  have HN := (show Hid (_) from hJI)
  have b1 : (at_ : Int) < (t : Int) := by omega
  have b2 : (t : Int) ≤ (c : Int) := by omega
  have hca : ¬ c = at_ := by omega
  have hbase : (0 : Nat) ≤ w.heap.size := Nat.zero_le _
  clear hJ hI hJI
  go_enter Try.func48, Try.ntmps48
  go_wp2_with (at_builtin; go_loud (refine wpList_append_lies _ rfl _ _ 30 rfl w.heap.size 2 i0 (.int .i64 0) 1 8 Try.underlying30 hi hz0 hz1 hz2 rfl (by omega) (.slice none 0 0) 0 [] rfl (World.ownsRow_nil _ _ _ _) ⟨gI, at_, none⟩ (t - at_) (c - at_) (ids.drop at_) rfl (by have := HI.out.len; simp; omega) (HI.out.news at_) (by intro u hu; exact h1 u (List.mem_of_mem_drop hu)) (by omega) (by unfold maxLen; omega) (by omega) (Nat.le_refl _) _ rfl ?_); intro gR cR w1 hown1 hgrow1 hat1 hlt1; have hJ1 := (hgrow1.block J (lt_of_blk HJ.out) (by simp [Value.ownBlock])).trans HJ.out; have j1 : w1.cell? ⟨J, 1, none⟩ = some (.slice (some ⟨gI, 0, none⟩) t c) := nd_cell hJ1 1; have j2 : w1.cell? ⟨J, 2, none⟩ = some (.slice none 0 0) := nd_cell hJ1 2; have f1 := nd_frozen hJ1 1; have jl : J < w1.heap.size := lt_of_blk hJ1; have HG := (show Hid (_) from And.intro hJ1 (And.intro hown1 (And.intro hgrow1 hat1))); clear hJ1 hown1 hgrow1 hat1)
  go_ret
  exact ⟨_, gR, cR, rfl, splitL_of HG.out.1 (lt_of_blk HJ.out) HG.out.2.1 HG.out.2.2.1 HG.out.2.2.2 rfl hlt1⟩

end Go.Proofs.Qxb6602784a
