import Derived.Test.Qxb6602784aBf
import Derived.Lib.SliceRun
namespace Go.Proofs.Qxb6602784a
open Go.RowKit
set_option linter.unusedVariables false
set_option linter.unusedSimpArgs false

theorem laid_cons (cur : List Value) (o : Nat) (v : Value) (r : List Value) (h : o < cur.length) : laid (cur.set o v) (o + 1) r = laid cur o (v :: r) := by
  unfold laid
  rw [List.set_eq_take_append_cons_drop, if_pos h]
  have hl : (cur.take o).length = o := by simp; omega
  rw [List.take_append, List.drop_append, hl]
  simp only [show o + 1 - o = 1 by omega, List.take_succ_cons, List.take_zero, show o + 1 + r.length - o = r.length + 1 by omega, List.drop_succ_cons, List.drop_drop]
  rw [List.take_of_length_le (by omega), List.drop_of_length_le (by omega)]
  simp only [List.append_assoc, List.cons_append, List.nil_append, List.length_cons]
  congr 4
  omega

theorem setCells_fit (g : Nat) (T : TypeId) : ∀ (vs : List Value) (o : Nat) (w : World) (cur : List Value), w.heap[g]? = some (.cells cur.toArray T (0, 0)) → o + vs.length ≤ cur.length → Fit w (w.setCells g o vs) T g (laid cur o vs)
  | [], o, w, cur, h, _ => by
    refine ⟨?_, Fr.refl _ _, rfl⟩
    show w.heap[g]? = _
    rw [h]; simp [laid]
  | v :: r, o, w, cur, h, hl => by
    simp only [List.length_cons] at hl
    have h1 : (w.setCell ⟨g, o, none⟩ v).heap[g]? = some (.cells (cur.set o v).toArray T (0, 0)) := by
      rw [heap_setCell_same w g o _ T _ h]; simp
    have ih := setCells_fit g T r (o + 1) (w.setCell ⟨g, o, none⟩ v) (cur.set o v) h1 (by simp; omega)
    rw [laid_cons cur o v r (by omega)] at ih
    exact ⟨ih.row, (Fr.setCell (S := fun k => k = g) w (p := ⟨g, o, none⟩) rfl v).trans ih.fr, ih.size.trans (by simp)⟩

theorem wpList_clear_fit {P : Program} {w : World} {ops : Array Oper} {rest : List Oper} {o : Oper} {a : Act} {Q : Exit → Act → World → Prop} (hgd : o.guard = none) (s : Operand) (t : TypeId)
    (ho : o.op = .call { callee := .builtin .clear, args := #[s], argTypes := #[t] })
    (e : TypeId) (z : Value) (ht : P.underlying t = some (.slice e)) (hv : ∀ w, (zeroValue e).run P w = .ok z w) (hz : z.cells = #[z]) (h1 : z.oneCell' = true) (g off n c : Nat) (cur : List Value) (hs : a.eval s = .slice (some ⟨g, off, none⟩) n c)
    (hg : w.heap[g]? = some (.cells cur.toArray e (0, 0))) (hn : 0 < n) (hfit : off + n ≤ cur.length)
    (h : ∀ w1, Fit w w1 e g (laid cur off (List.replicate n z)) → wpList P ops Q rest (a.put o.dst (.tuple #[])) w1) : wpList P ops Q (o :: rest) a w := by
  refine wpList_plain hgd fun K hK => ?_
  have hr := Lib.run_clear_slice (P := P) w t e o.type z ht hv hz h1 g off n c hn (fun j hj => by rw [cell_of_row w g (off + j) _ e (0, 0) hg]; simp; omega) (fun j hj => frozen_of_row w g (off + j) _ e hg)
  have hf := setCells_fit g e (List.replicate n z) off w cur hg (by simpa using hfit)
  unfold Oper.wp execOp
  simp only [ho, resolve, invoke, builtin, Sem.run_bind, Sem.run_pure, Result.andThen_ok, List.map_toArray, List.map_cons, List.map_nil, hs, hr]
  exact hK _ _ (h _ hf)

theorem Try.zero40 : ∀ w, (zeroValue 40).run Try.prog w = .ok (.pointer none) w := fun _ => by kernel_rfl

/-- what split leaves of an inner node -/
structure SplitI (w w' : World) (J : Nat) (e : Int) (gI kI t at_ : Nat) (ids ks : List Value) (R gR cR kR dR : Nat) : Prop where
  new : w.heap.size ≤ R ∧ w.heap.size ≤ gR ∧ w.heap.size ≤ kR ∧ R ≠ gR ∧ R ≠ kR ∧ gR ≠ kR
  right : w'.heap[R]? = some (nd e (some ⟨gR, 0, none⟩) (t - at_) cR (some ⟨kR, 0, none⟩) (t - at_) dR)
  rids : Rw w' 2 gR (t - at_) cR (ids.drop at_)
  rkids : Rw w' 40 kR (t - at_) dR (ks.drop at_)
  left : w'.heap[J]? = some (nd e (some ⟨gI, 0, none⟩) at_ t (some ⟨kI, 0, none⟩) at_ t)
  lkids : Rw w' 40 kI at_ t (ks.take at_)
  fr : Fr (fun k => k = J ∨ k = kI) w w'

/-- behind the second statement of split -/
structure S1 (w w' : World) (J : Nat) (e : Int) (gI kI t at_ : Nat) (ids ks : List Value) (R gR cR : Nat) : Prop where
  new : w.heap.size ≤ R ∧ w.heap.size ≤ gR ∧ R ≠ gR
  right : w'.heap[R]? = some (nd e (some ⟨gR, 0, none⟩) (t - at_) cR none 0 0)
  rids : Rw w' 2 gR (t - at_) cR (ids.drop at_)
  left : w'.heap[J]? = some (nd e (some ⟨gI, 0, none⟩) at_ t (some ⟨kI, 0, none⟩) t t)
  fr : Fr (fun k => k = J) w w'

theorem s1_of {w w1 : World} {J : Nat} {e : Int} {gI kI t at_ : Nat} {ids ks : List Value} {gR cR : Nat} {H : Nat} (hJ1 : w1.heap[J]? = some (nd e (some ⟨gI, 0, none⟩) t t (some ⟨kI, 0, none⟩) t t)) (hJw : J < w.heap.size)
    (hown : w1.ownsRow w.heap.size 2 1 (.slice (some ⟨gR, 0, none⟩) (0 + (t - at_)) cR) (0 + (t - at_)) ([] ++ ids.drop at_)) (hgrow : w.grownBy w1 (Value.slice none 0 0).ownBlock) (hat : (Value.slice none 0 0).ownBlock = some gR ∨ gR = H) (hH : H = w.heap.size) (hlt : gR < w1.heap.size) :
    S1 w ((w1.setCell ⟨J, 1, none⟩ (.slice (some ⟨gI, 0, none⟩) at_ t)).alloc (nd e (some ⟨gR, 0, none⟩) (t - at_) cR none 0 0)) J e gI kI t at_ ids ks w1.heap.size gR cR := by
  have hg : gR = w.heap.size := by
    rcases hat with h | h
    · simp [Value.ownBlock] at h
    · omega
  have hs := hgrow.size
  have hJl := lt_of_blk hJ1
  have hz : (w1.setCell ⟨J, 1, none⟩ (.slice (some ⟨gI, 0, none⟩) at_ t)).heap.size = w1.heap.size := by simp
  have hR : Rw w1 2 gR (t - at_) cR (ids.drop at_) := Rw.of (by simpa using hown)
  refine ⟨⟨hs, by omega, by omega⟩, ?_, ?_, ?_, ?_⟩
  · rw [← hz]
    exact heap_alloc_new _ _
  · refine hR.keep ?_
    rw [Below.heap_alloc _ _ _ (by omega)]
    exact heap_setCell_other _ _ _ _ (by simp; omega)
  · rw [Below.heap_alloc _ _ _ (by omega)]
    exact nd_set1 hJ1 _ _ _
  · exact ((Fr.grown hgrow (fun k h => by simp [Value.ownBlock] at h)).trans (Fr.setCell (S := fun k => k = J) w1 (p := ⟨J, 1, none⟩) rfl _)).trans (Fr.alloc _ _ _)

theorem splitI_of {w w2 w3 w4 w' : World} {J : Nat} {e : Int} {gI kI t at_ : Nat} {ids ks : List Value} {R gR cR kR dR : Nat} (h1 : S1 w w2 J e gI kI t at_ ids ks R gR cR) (hat0 : 0 < at_) (hat : at_ < t) (ht : t ≤ 1048576) (hkl : ks.length = t) (hJw : J < w.heap.size) (hJk : J ≠ kI)
    (hK : w.heap[kI]? = some (.cells ks.toArray 40 (0, 0)))
    (hown : w3.ownsRow w.heap.size 40 1 (.slice (some ⟨kR, 0, none⟩) (0 + (t - at_)) dR) (0 + (t - at_)) ([] ++ ks.drop at_)) (hgrow : w2.grownBy w3 none) (hk : kR = w2.heap.size)
    (hf : Fit (w3.setCell ⟨R, 2, none⟩ (.slice (some ⟨kR, 0, none⟩) (t - at_) dR)) w4 40 kI (laid ks at_ (List.replicate (t - at_) (.pointer none))))
    (hw' : w' = w4.setCell ⟨J, 2, none⟩ (.slice (some ⟨kI, 0, none⟩) at_ t)) : SplitI w w' J e gI kI t at_ ids ks R gR cR kR dR := by
  subst hw'
  have hKw := lt_of_blk hK
  have hn := h1.new
  have hRl := lt_of_blk h1.right
  have hgl := h1.rids.lt
  have hs2 := h1.fr.size
  have hs3 := hgrow.size
  have hkR3 : Rw w3 40 kR (t - at_) dR (ks.drop at_) := Rw.of (by simpa using hown)
  have hkl3 := hkR3.lt
  have e4 : w4.heap.size = w3.heap.size := by rw [hf.size]; simp
  -- a block that is none of R, kI, J
  have old : ∀ b, b < w2.heap.size → b ≠ R → b ≠ kI → b ≠ J → (w4.setCell ⟨J, 2, none⟩ (.slice (some ⟨kI, 0, none⟩) at_ t)).heap[b]? = w2.heap[b]? := by
    intro b hb n1 n2 n3
    rw [heap_setCell_other _ _ _ _ (by simpa using n3), hf.fr.block b (by simp; omega) n2, heap_setCell_other _ _ _ _ (by simpa using n1)]
    exact hgrow.block b hb (by simp)
  have hR3 : w3.heap[R]? = some (nd e (some ⟨gR, 0, none⟩) (t - at_) cR none 0 0) := (hgrow.block R hRl (by simp)).trans h1.right
  have hJ3 : w3.heap[J]? = some (nd e (some ⟨gI, 0, none⟩) at_ t (some ⟨kI, 0, none⟩) t t) := (hgrow.block J (by omega) (by simp)).trans h1.left
  have hJ4 : w4.heap[J]? = some (nd e (some ⟨gI, 0, none⟩) at_ t (some ⟨kI, 0, none⟩) t t) := by
    rw [hf.fr.block J (by simp; omega) hJk, heap_setCell_other _ _ _ _ (by simp; omega)]; exact hJ3
  refine ⟨⟨hn.1, hn.2.1, by omega, hn.2.2, by omega, by omega⟩, ?_, ?_, ?_, nd_set2 hJ4 _ _ _, ?_, ?_⟩
  · rw [heap_setCell_other _ _ _ _ (by simp; omega), hf.fr.block R (by simp; omega) (by omega)]
    exact nd_set2 hR3 _ _ _
  · exact h1.rids.keep (old gR hgl (by omega) (by omega) (by omega))
  · refine hkR3.keep ?_
    rw [heap_setCell_other _ _ _ _ (by simp; omega), hf.fr.block kR (by simp; omega) (by omega), heap_setCell_other _ _ _ _ (by simp; omega)]
  · refine Rw.mk' (by omega) (by unfold maxLen; omega) (cur := (laid ks at_ (List.replicate (t - at_) (.pointer none))).toArray) ?_ ?_ ?_
    · rw [heap_setCell_other _ _ _ _ (by simpa using fun h => hJk h.symm)]; exact hf.row
    · have := laid_len ks at_ (List.replicate (t - at_) (.pointer none)) (by simp; omega)
      simp; omega
    · simp only [List.toList_toArray]
      unfold laid
      rw [List.append_assoc, List.take_append_of_le_length (by simp; omega), List.take_take, Nat.min_self]
  · have f1 : Fr (fun k => k = J ∨ k = kI) w w2 := h1.fr.mono (fun _ _ h => .inl h)
    refine ⟨hf.fr.os.trans (hgrow.os.trans f1.os), hf.fr.tape.trans (hgrow.tape.trans f1.tape), hf.fr.output.trans (hgrow.output.trans f1.output), by simp; omega, fun b hb hs => ?_⟩
    rw [old b (by omega) (by omega) (by omega) (by omega)]
    exact f1.block b hb hs

set_option maxRecDepth 100000 in
set_option maxHeartbeats 1600000 in
theorem split_inner (w : World) (J : Nat) (e : Int) (gI kI t at_ : Nat) (ids ks : List Value) (h0 : 0 < at_) (hat : at_ < t) (ht : t ≤ 1048576) (h1 : ∀ v ∈ ids, v.oneCell' = true) (h2 : ∀ v ∈ ks, v.oneCell' = true) (hJI : J ≠ gI) (hJK : J ≠ kI)
    (hJ : w.heap[J]? = some (nd e (some ⟨gI, 0, none⟩) t t (some ⟨kI, 0, none⟩) t t)) (hI : w.heap[gI]? = some (.cells ids.toArray 2 (0, 0))) (hIl : ids.length = t) (hK : w.heap[kI]? = some (.cells ks.toArray 40 (0, 0))) (hKl : ks.length = t) :
    Calls Try.prog 48 #[.pointer (some ⟨J, 0, none⟩), .int .u64 e, .int .i64 at_] w fun x w' => ∃ R gR cR kR dR, x = .returned (.pointer (some ⟨R, 0, none⟩)) ∧ SplitI w w' J e gI kI t at_ ids ks R gR cR kR dR := by
  have r := r39
  obtain ⟨i0, hi, hz0, hz1, hz2⟩ := info_parts Try.info2
  obtain ⟨i4, hi4, hy0, hy1, hy2⟩ := info_parts Try.info40
  have k0 : w.cell? ⟨J, 0, none⟩ = some (.int .u64 e) := nd_cell hJ 0
  have k1 : w.cell? ⟨J, 1, none⟩ = some (.slice (some ⟨gI, 0, none⟩) t t) := nd_cell hJ 1
  have k2 : w.cell? ⟨J, 2, none⟩ = some (.slice (some ⟨kI, 0, none⟩) t t) := nd_cell hJ 2
  have HJ := (show Hid (_) from hJ)
  have HI := (show Hid (Rw w 2 gI t t ids) from rw_whole hI hIl (by omega))
  have HK := (show Hid (_) from hK)
  have HKl := (show Hid (_) from hKl)
  have HN := (show Hid (_) from And.intro hJI hJK)
  have b1 : (at_ : Int) < (t : Int) := by omega
  have hca : ¬ t = at_ := by omega
  have hbase : (0 : Nat) ≤ w.heap.size := Nat.zero_le _
  clear hJ hI hIl hK hKl hJI hJK
  go_enter Try.func48, Try.ntmps48
  go_upto_if 31 with (at_builtin; go_loud (refine wpList_append_lies _ rfl _ _ 30 rfl w.heap.size 2 i0 (.int .i64 0) 1 8 Try.underlying30 hi hz0 hz1 hz2 rfl (by omega) (.slice none 0 0) 0 [] rfl (World.ownsRow_nil _ _ _ _) ⟨gI, at_, none⟩ (t - at_) (t - at_) (ids.drop at_) rfl (by have := HI.out.len; simp; omega) (HI.out.news at_) (by intro u hu; exact h1 u (List.mem_of_mem_drop hu)) (by omega) (by unfold maxLen; omega) (by omega) (Nat.le_refl _) _ rfl ?_); intro gR cR w1 hown1 hgrow1 hat1 hlt1; have hJ1 := (hgrow1.block J (lt_of_blk HJ.out) (by simp [Value.ownBlock])).trans HJ.out; have j1 : w1.cell? ⟨J, 1, none⟩ = some (.slice (some ⟨gI, 0, none⟩) t t) := nd_cell hJ1 1; have j2 : w1.cell? ⟨J, 2, none⟩ = some (.slice (some ⟨kI, 0, none⟩) t t) := nd_cell hJ1 2; have f1 := nd_frozen hJ1 1; have jl : J < w1.heap.size := lt_of_blk hJ1; have HG := (show Hid (_) from And.intro hJ1 (And.intro hown1 (And.intro hgrow1 hat1))); clear hJ1 hown1 hgrow1 hat1)
  have hS1 : S1 w ((w1.setCell ⟨J, 1, none⟩ (.slice (some ⟨gI, 0, none⟩) at_ t)).alloc (.cells #[.int .u64 e, .slice (some ⟨gR, 0, none⟩) (t - at_) cR, .slice none 0 0] 61)) J e gI kI t at_ ids ks w1.heap.size gR cR := s1_of (ks := ks) HG.out.1 (lt_of_blk HJ.out) HG.out.2.1 HG.out.2.2.1 HG.out.2.2.2 rfl hlt1
  clear j1 j2 f1 jl HG hlt1
  generalize hw2 : ((w1.setCell ⟨J, 1, none⟩ (.slice (some ⟨gI, 0, none⟩) at_ t)).alloc (.cells #[.int .u64 e, .slice (some ⟨gR, 0, none⟩) (t - at_) cR, .slice none 0 0] 61)) = w2 at hS1 ⊢
  clear hw2
  generalize hR : w1.heap.size = R at hS1 ⊢
  clear hR k0 k1 k2
  have hjw := lt_of_blk HJ.out
  have hn := hS1.new
  have c2 : w2.cell? ⟨J, 2, none⟩ = some (.slice (some ⟨kI, 0, none⟩) t t) := nd_cell hS1.left 2
  have hK2 : w2.heap[kI]? = some (.cells ks.toArray 40 (0, 0)) := (hS1.fr.block kI (lt_of_blk HK.out) (by have := HN.out.2; omega)).trans HK.out
  have HK2 := (show Hid (_) from hK2)
  have HS1 := (show Hid (_) from hS1)
  have hbs : w.heap.size ≤ w2.heap.size := hS1.fr.size
  have d1 : ¬ J = R := by omega
  have d2 : ¬ R = J := by omega
  have d3 : ¬ J = kI := HN.out.2
  have d4 : ¬ kI = J := fun h => d3 h.symm
  clear hn hK2 hS1
  go_wp2_with (first
    | (at_builtin
       refine wpList_append_lies _ rfl _ _ 39 rfl w.heap.size 40 i4 (.pointer none) 1 8 Try.underlying39 hi4 hy0 hy1 hy2 rfl (by omega) (.slice none 0 0) 0 [] rfl (World.ownsRow_nil _ _ _ _) ⟨kI, at_, none⟩ (t - at_) (t - at_) (ks.drop at_) rfl (by have := HKl.out; simp; omega) (src_of_row HK2.out at_) (by intro u hu; exact h2 u (List.mem_of_mem_drop hu)) (by omega) (by unfold maxLen; omega) (by omega) hbs _ rfl ?_
       intro kR dR w3 hown3 hgrow3 hat3 hlt3
       have hJ3 := (hgrow3.block J (lt_of_blk HS1.out.left) (by simp [Value.ownBlock])).trans HS1.out.left
       have hR3 := (hgrow3.block R (lt_of_blk HS1.out.right) (by simp [Value.ownBlock])).trans HS1.out.right
       have hK3 := (hgrow3.block kI (lt_of_blk HK2.out) (by simp [Value.ownBlock])).trans HK2.out
       have j2 : w3.cell? ⟨J, 2, none⟩ = some (.slice (some ⟨kI, 0, none⟩) t t) := nd_cell hJ3 2
       have q2 : w3.cell? ⟨R, 2, none⟩ = some (.slice none 0 0) := nd_cell hR3 2
       have q3 := nd_frozen hR3 2
       have HG3 := (show Hid (_) from And.intro hown3 (And.intro hgrow3 (And.intro hat3 (And.intro hJ3 hK3))))
       clear hown3 hgrow3 hat3 hJ3 hR3 hK3)
    | (refine wpList_clear_fit (by rfl) (.tmp 47) 39 (by rfl) 40 (.pointer none) Try.underlying39 Try.zero40 (by rfl) (by rfl) kI at_ (t - at_) (t - at_) ks (by rfl) (by have := HK.out; have h3 := HS1.out.new; have h4 := lt_of_blk HK.out; rw [heap_setCell_other _ _ _ _ (by simp; omega)]; exact HG3.out.2.2.2.2) (by omega) (by have := HKl.out; omega) ?_
       intro w4 hf4
       have hJ4 := (hf4.fr.block J (by have := lt_of_blk HG3.out.2.2.2.1; simpa using this) d3).trans ((heap_setCell_other _ _ _ _ (by simpa using d1)).trans HG3.out.2.2.2.1)
       have j4 : w4.cell? ⟨J, 2, none⟩ = some (.slice (some ⟨kI, 0, none⟩) t t) := nd_cell hJ4 2
       have f4 := nd_frozen hJ4 2
       have HF4 := (show Hid (_) from hf4)
       clear hf4 hJ4))
  go_ret
  refine ⟨R, gR, cR, kR, dR, rfl, splitI_of HS1.out h0 hat ht HKl.out hjw d3 HK.out HG3.out.1 (by simpa [Value.ownBlock] using HG3.out.2.1) ?_ HF4.out rfl⟩
  rcases HG3.out.2.2.1 with h | h
  · simp [Value.ownBlock] at h
  · exact h

end Go.Proofs.Qxb6602784a
