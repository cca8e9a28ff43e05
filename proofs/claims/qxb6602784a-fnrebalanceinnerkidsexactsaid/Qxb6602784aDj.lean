import Derived.Test.Qxb6602784aDi
namespace Go.Proofs.Qxb6602784a
open Go.RowKit
set_option linter.unusedVariables false
set_option linter.unusedSimpArgs false
attribute [local go_sem] Go.wp_at_zero Go.wp_at_succ

/-- rebalance of inner kids, into two halves; ahead of 'n.ids[k+1] = ..' (I as it was) and behind it -/
structure RbBigI (w w' : World) (N : Nat) (e : Int) (gI gK m j h : Nat) (I I' : List Value) (ps : List Nat) (L R PL PR : List Value) (J gJ kJ Q gQ cQ kQ dQ : Nat) : Prop where
  new : w.heap.size ≤ J ∧ w.heap.size ≤ gJ ∧ w.heap.size ≤ kJ ∧ w.heap.size ≤ Q ∧ w.heap.size ≤ gQ ∧ w.heap.size ≤ kQ ∧ J ≠ Q
  join : w'.heap[J]? = some (nd e (some ⟨gJ, 0, none⟩) h (L.length + R.length) (some ⟨kJ, 0, none⟩) h (L.length + R.length))
  jids : Rw w' 2 gJ h (L.length + R.length) ((L ++ R).take h)
  jkids : Rw w' 40 kJ h (L.length + R.length) ((PL ++ PR).take h)
  right : w'.heap[Q]? = some (nd e (some ⟨gQ, 0, none⟩) (L.length + R.length - h) cQ (some ⟨kQ, 0, none⟩) (L.length + R.length - h) dQ)
  rids : Rw w' 2 gQ (L.length + R.length - h) cQ ((L ++ R).drop h)
  rkids : Rw w' 40 kQ (L.length + R.length - h) dQ ((PL ++ PR).drop h)
  par : Par w' N e gI gK m I' ((ps.set j J).set (j + 1) Q)
  fr : Fr (fun k => k = N ∨ k = gI ∨ k = gK) w w'

theorem midI_of {w wc wd w1 w' : World} {N : Nat} {e : Int} {gI gK m j h nl nr : Nat} {I : List Value} {ps : List Nat} {L R PL PR : List Value} {J gJ kJ Q gQ cQ kQ dQ : Nat} (hl : L.length = nl) (hr : R.length = nr) (hh : h ≤ nl + nr) (hbig : nl + nr ≤ 1048576 * 2)
    (hP : Par w N e gI gK m I ps) (hJ : JoinedK w wc e L R PL PR J gJ kJ) (hd : wd.heap = wc.heap) (hdo : wd.os = wc.os) (hdt : wd.tape = wc.tape) (hdu : wd.output = wc.output)
    (hS : SplitI wd w1 J e gJ kJ (nl + nr) h (L ++ R) (PL ++ PR) Q gQ cQ kQ dQ)
    (hw : w' = (w1.setCell ⟨gK, j, none⟩ (.pointer (some ⟨J, 0, none⟩))).setCell ⟨gK, j + 1, none⟩ (.pointer (some ⟨Q, 0, none⟩))) : RbBigI w w' N e gI gK m j h I I ps L R PL PR J gJ kJ Q gQ cQ kQ dQ := by
  subst hw hl hr
  have hN := lt_of_blk hP.node
  have hI := lt_of_blk hP.ids
  have hK := lt_of_blk hP.kids
  have hn := hJ.new
  have hsn := hS.new
  rw [hd] at hsn
  have hJl := lt_of_blk hJ.node
  have hgl := lt_of_blk hJ.ids
  have hkl := lt_of_blk hJ.kids
  have hPc : Par wc N e gI gK m I ps := hP.keep hJ.fr id id id
  have hPd : Par wd N e gI gK m I ps := ⟨by rw [hd]; exact hPc.node, by rw [hd]; exact hPc.ids, hPc.idl, by rw [hd]; exact hPc.kids, hPc.kl, hPc.n1, hPc.n2, hPc.n3⟩
  have hP1 : Par w1 N e gI gK m I ps := hPd.keep hS.fr (by omega) (by omega) (by omega)
  have hP2 := par_set (w := w) (par_set (w := w) hP1 j J) (j + 1) Q
  have other : ∀ k, k ≠ gK → ((w1.setCell ⟨gK, j, none⟩ (.pointer (some ⟨J, 0, none⟩))).setCell ⟨gK, j + 1, none⟩ (.pointer (some ⟨Q, 0, none⟩))).heap[k]? = w1.heap[k]? := by
    intro k hk
    rw [heap_setCell_other _ _ _ _ (by simpa using hk), heap_setCell_other _ _ _ _ (by simpa using hk)]
  have hg1 : w1.heap[gJ]? = some (.cells (L ++ R).toArray 2 (0, 0)) := (hS.fr.block gJ (by rw [hd]; exact hgl) (by omega)).trans (by rw [hd]; exact hJ.ids)
  refine ⟨⟨hn.1, hn.2.1, hn.2.2.1, by omega, by omega, by omega, by omega⟩, ?_, ?_, ?_, ?_, ?_, ?_, hP2, ?_⟩
  · rw [other J (by omega)]; exact hS.left
  · refine Rw.keep (w := w1) ?_ (other gJ (by omega))
    exact (rw_whole hg1 (by simp) hbig).cut h hh
  · exact hS.lkids.keep (other kJ (by omega))
  · rw [other Q (by omega)]; exact hS.right
  · exact hS.rids.keep (other gQ (by omega))
  · exact hS.rkids.keep (other kQ (by omega))
  · have f1 : Fr (fun k => k = N ∨ k = gI ∨ k = gK) w wc := hJ.fr.mono (fun _ _ h => h.elim)
    have f2 : Fr (fun k => k = N ∨ k = gI ∨ k = gK) w w1 := ⟨hS.fr.os.trans (hdo.trans f1.os), hS.fr.tape.trans (hdt.trans f1.tape), hS.fr.output.trans (hdu.trans f1.output), Nat.le_trans f1.size (by have := hS.fr.size; rw [hd] at this; exact this), fun k hk hs => (hS.fr.block k (by rw [hd]; exact Nat.lt_of_lt_of_le hk f1.size) (by omega)).trans (by rw [hd]; exact f1.block k hk hs)⟩
    exact (f2.trans (Fr.setCell (S := fun k => k = N ∨ k = gI ∨ k = gK) w1 (p := ⟨gK, j, none⟩) (.inr (.inr rfl)) _)).trans (Fr.setCell (S := fun k => k = N ∨ k = gI ∨ k = gK) _ (p := ⟨gK, j + 1, none⟩) (.inr (.inr rfl)) _)

theorem par_splitI {w wc wd w1 : World} {N : Nat} {e e' : Int} {gI gK m h t : Nat} {I : List Value} {ps : List Nat} {L R PL PR X Y : List Value} {J gJ kJ Q gQ cQ kQ dQ : Nat} (hP : Par w N e gI gK m I ps) (hJ : JoinedK w wc e' L R PL PR J gJ kJ) (hS : SplitI wd w1 J e' gJ kJ t h X Y Q gQ cQ kQ dQ) (hd : wd.heap = wc.heap) : Par w1 N e gI gK m I ps := by
  have hN := lt_of_blk hP.node
  have hI := lt_of_blk hP.ids
  have hK := lt_of_blk hP.kids
  have hn := hJ.new
  have hPc : Par wc N e gI gK m I ps := hP.keep hJ.fr id id id
  have hPd : Par wd N e gI gK m I ps := ⟨by rw [hd]; exact hPc.node, by rw [hd]; exact hPc.ids, hPc.idl, by rw [hd]; exact hPc.kids, hPc.kl, hPc.n1, hPc.n2, hPc.n3⟩
  exact hPd.keep hS.fr (by omega) (by omega) (by omega)

theorem bigI_of {w wc w' : World} {N : Nat} {e : Int} {gI gK m j h : Nat} {I : List Value} {ps : List Nat} {L R PL PR : List Value} {J gJ kJ Q gQ cQ kQ dQ : Nat} {b : Value} (hP : Par w N e gI gK m I ps) (hM : RbBigI w wc N e gI gK m j h I I ps L R PL PR J gJ kJ Q gQ cQ kQ dQ)
    (hh : w'.heap = (wc.setCell ⟨gI, j + 1, none⟩ b).heap) (ho : w'.os = wc.os) (ht : w'.tape = wc.tape) (hu : w'.output = wc.output) : RbBigI w w' N e gI gK m j h I (I.set (j + 1) b) ps L R PL PR J gJ kJ Q gQ cQ kQ dQ := by
  have hN := lt_of_blk hP.node
  have hI := lt_of_blk hP.ids
  have hK := lt_of_blk hP.kids
  have hn := hM.new
  have other : ∀ k, k ≠ gI → w'.heap[k]? = wc.heap[k]? := fun k hk => by rw [hh, heap_setCell_other _ _ _ _ (by simpa using hk)]
  have n1 := hP.n1
  have n3 := hP.n3
  refine ⟨hn, (other J (by omega)).trans hM.join, hM.jids.keep (other gJ (by omega)), hM.jkids.keep (other kJ (by omega)), (other Q (by omega)).trans hM.right, hM.rids.keep (other gQ (by omega)), hM.rkids.keep (other kQ (by omega)), ⟨(other N n1).trans hM.par.node, ?_, by simpa using hM.par.idl, (other gK (fun h => n3 h.symm)).trans hM.par.kids, hM.par.kl, hP.n1, hP.n2, hP.n3⟩, ?_⟩
  · rw [hh, heap_setCell_same wc gI (j + 1) _ 2 _ hM.par.ids]; simp
  · have f := hM.fr.trans (Fr.setCell (S := fun k => k = N ∨ k = gI ∨ k = gK) wc (p := ⟨gI, j + 1, none⟩) (.inr (.inl rfl)) b)
    exact ⟨ho.trans hM.fr.os, ht.trans hM.fr.tape, hu.trans hM.fr.output, by rw [hh]; exact f.size, fun k hk hs => by rw [hh]; exact f.block k hk hs⟩

set_option maxRecDepth 100000 in
set_option maxHeartbeats 3200000 in
theorem rb_inner_big (w : World) (N : Nat) (e : Int) (gI gK m j : Nat) (I : List Value) (ps : List Nat) (hP : Par w N e gI gK m I ps) (hm : m ≤ 65536) (hj : j + 1 < m) (k : Nat) (hk : (k = j ∧ j + 1 < m) ∨ (k = j + 1 ∧ m = j + 2)) (hI1 : ∀ v ∈ I, v.oneCell' = true)
    (pl pr : Nat) (hpl : ps[j]? = some pl) (hpr : ps[j + 1]? = some pr) (el er : Int) (al ar : Option Addr) (nl cl nr cr : Nat) (kl kr : Nat)
    (hL : w.heap[pl]? = some (nd el al nl cl (some ⟨kl, 0, none⟩) nl nl)) (hR : w.heap[pr]? = some (nd er ar nr cr (some ⟨kr, 0, none⟩) nr nr)) (L R : List Value) (sL : Src w al nl L) (sR : Src w ar nr R) (cl0 : al = none → cl = 0) (cr0 : ar = none → cr = 0)
    (PL PR : List Value) (kL : w.heap[kl]? = some (.cells PL.toArray 40 (0, 0))) (kR : w.heap[kr]? = some (.cells PR.toArray 40 (0, 0))) (pL : PL.length = nl) (pR : PR.length = nr)
    (hnl : nl + nr ≤ 1048576) (oL : ∀ v ∈ L, v.oneCell' = true) (oR : ∀ v ∈ R, v.oneCell' = true) (qL : ∀ v ∈ PL, v.oneCell' = true) (qR : ∀ v ∈ PR, v.oneCell' = true) (hsmall : ¬ nl + nr ≤ 64) (hint : ∀ v ∈ L ++ R, ∃ z, v = .int .i64 z) :
    Calls Try.prog 46 #[.pointer (some ⟨N, 0, none⟩), .int .u64 e, .int .i64 k] w fun x w' => x = .returned (.tuple #[]) ∧ ∃ J gJ kJ Q gQ cQ kQ dQ b, (L ++ R)[(nl + nr) / 2]? = some b ∧ RbBigI w w' N e gI gK m j ((nl + nr) / 2) I (I.set (j + 1) b) ps L R PL PR J gJ kJ Q gQ cQ kQ dQ := by
  have r := r39
  obtain ⟨i0, hi, hz0, hz1, hz2⟩ := info_parts Try.info2
  obtain ⟨i4, hi4, hy0, hy1, hy2⟩ := info_parts Try.info40
  obtain ⟨MK, hMK⟩ : ∃ MK, MK = Obj.cells (List.replicate (nl + nr) (Value.int .i64 0)).toArray 2 := ⟨_, rfl⟩
  have hmk : ∀ W : World, (Instr.makeSlice 30 (.int .i64 0) (.int .i64 ((nl : Int) + (nr : Int)))).run Try.prog W = .ok (.slice (some ⟨W.heap.size, 0, none⟩) 0 (nl + nr)) (W.alloc MK) := by
    intro W
    have := run_make (P := Try.prog) W 30 2 i0 (.int .i64 0) Try.underlying30 hi hz0 .i64 .i64 0 ((nl : Int) + (nr : Int)) (by omega) (by omega) (by rw [hz2]; omega) (by omega)
    have e1 : ((nl : Int) + (nr : Int)).toNat = nl + nr := by omega
    rw [this, hMK, e1, hz1]
    simp [Value.cells, ← toList_madeCells_one]
  have HMK := (show Hid (_) from hMK)
  obtain ⟨MP, hMP⟩ : ∃ MP, MP = Obj.cells (List.replicate (nl + nr) (Value.pointer none)).toArray 40 := ⟨_, rfl⟩
  have hmp : ∀ W : World, (Instr.makeSlice 39 (.int .i64 0) (.int .i64 ((nl : Int) + (nr : Int)))).run Try.prog W = .ok (.slice (some ⟨W.heap.size, 0, none⟩) 0 (nl + nr)) (W.alloc MP) := by
    intro W
    have := run_make (P := Try.prog) W 39 40 i4 (.pointer none) Try.underlying39 hi4 hy0 .i64 .i64 0 ((nl : Int) + (nr : Int)) (by omega) (by omega) (by rw [hy2]; omega) (by omega)
    have e1 : ((nl : Int) + (nr : Int)).toNat = nl + nr := by omega
    rw [this, hMP, e1, hy1]
    simp [Value.cells, ← toList_madeCells_one]
  have HMP := (show Hid (_) from hMP)
  clear hMK hMP
  have k2 : w.cell? ⟨N, 2, none⟩ = some (.slice (some ⟨gK, 0, none⟩) m m) := nd_cell hP.node 2
  have kl0 : w.cell? ⟨gK, j, none⟩ = some (.pointer (some ⟨pl, 0, none⟩)) := hP.cell hpl
  have kr0 : w.cell? ⟨gK, j + 1, none⟩ = some (.pointer (some ⟨pr, 0, none⟩)) := hP.cell hpr
  have l1 : w.cell? ⟨pl, 1, none⟩ = some (.slice al nl cl) := nd_cell hL 1
  have l2 : w.cell? ⟨pl, 2, none⟩ = some (.slice (some ⟨kl, 0, none⟩) nl nl) := nd_cell hL 2
  have r1 : w.cell? ⟨pr, 1, none⟩ = some (.slice ar nr cr) := nd_cell hR 1
  have r2 : w.cell? ⟨pr, 2, none⟩ = some (.slice (some ⟨kr, 0, none⟩) nr nr) := nd_cell hR 2
  have HP := (show Hid (_) from hP)
  have HL := (show Hid (_) from And.intro hL (And.intro sL (And.intro oL cl0)))
  have HR := (show Hid (_) from And.intro hR (And.intro sR (And.intro oR cr0)))
  have HQL := (show Hid (_) from And.intro kL (And.intro pL qL))
  have HQR := (show Hid (_) from And.intro kR (And.intro pR qR))
  have HPS := (show Hid (_) from And.intro hpl hpr)
  have b1 : ((m : Int) == 1) = false := by simp; omega
  have b3 : (j : Int) < (m : Int) := by omega
  have b4 : (j : Int) + 1 < (m : Int) := by omega
  have b5 : (0 : Int) ≤ (j : Int) := by omega
  have b6 : (0 : Int) ≤ (j : Int) + 1 := by omega
  have hto : ((j : Int) + 1).toNat = j + 1 := by omega
  have hwr : IntKind.i64.wrap ((j : Int) + 1) = (j : Int) + 1 := by rw [IntKind.wrap_i64]; omega
  have hws : IntKind.i64.wrap ((nl : Int) + (nr : Int)) = (nl : Int) + (nr : Int) := by rw [IntKind.wrap_i64]; omega
  have HI1 := (show Hid (_) from hI1)
  clear hI1 hP hL hR sL sR cl0 cr0 oL oR hpl hpr kL kR pL pR qL qR
  have HKJ := (show Hid (_) from hk)
  clear hk
  go_enter Try.func46, Try.ntmps46
  go_upto_if 22 with fail
  go_cut [2] (fun s2 wx => s2 = .int .i64 j ∧ w = wx)
  case first =>
    rcases HKJ.out with ⟨rfl, hq⟩ | ⟨rfl, rfl⟩
    · have b2 : ((k : Int) == (m : Int) - 1) = false := by simp; omega
      go_wp2_with fail
      go_meet
      case rel => exact ⟨rfl, rfl⟩
    · go_wp2_with fail
      go_meet
      case rel => exact ⟨by go_num, rfl⟩
  case rest =>
  obtain ⟨rfl, rfl⟩ := hcut
  go_wp2
  go_quiet (fail)
  go_wp2_with fail
  have HG0 := (show Hid ((w.alloc MK).heap[w.heap.size]? = some (.cells (List.replicate (nl + nr) (Value.int .i64 0)).toArray 2 (0, 0))) by unfold Hid; rw [heap_alloc_new w MK, HMK.out])
  have HSL := (show Hid (Src (w.alloc MK) al nl L) from HL.out.2.1.later ((Below.refl _ _).alloc (Nat.le_refl _) _))
  have HLl := (show Hid (_) from HL.out.2.1.1)
  have HRl := (show Hid (_) from HR.out.2.1.1)
  go_cut [8] (fun s8 wx => ∃ J gJ, s8 = .pointer (some ⟨J, 0, none⟩) ∧ Joined w wx e L R J gJ)
  case first =>
    go_region_held3 (fun w' => w'.cell? ⟨pl, 1, none⟩ = some (.slice al nl cl) ∧ w'.cell? ⟨pr, 1, none⟩ = some (.slice ar nr cr))
      (first | go_keep | fail)
      ((first
        | (refine step_append_fit (by rfl) (.tmp 52) (.tmp 56) 30 (by rfl) 2 i0 Try.underlying30 hi hz1 w.heap.size 0 (nl + nr) (List.replicate (nl + nr) (.int .i64 0)) (by rfl) al nl cl L (by rfl) (by exact HG0.out) (by simp) (by exact HSL.out) HL.out.2.2.1 (by omega) HL.out.2.2.2 ?_
           intro w1 hf1
           have hb1 : Below w.heap.size w w1 := below_fit hf1 (MK := MK) rfl rfl rfl rfl rfl
           have l1' := cell_later hb1 l1
           have r1' := cell_later hb1 r1
           have HS1 := (show Hid (_) from HR.out.2.1.later hb1)
           have HF1 := (show Hid (_) from And.intro hf1 hb1)
           clear hf1 hb1)
        | (refine step_append_fit (by rfl) (.tmp 57) (.tmp 61) 30 (by rfl) 2 i0 Try.underlying30 hi hz1 w.heap.size (0 + nl) (nl + nr) (laid (List.replicate (nl + nr) (.int .i64 0)) 0 L) (by rfl) ar nr cr R (by rfl) (by exact HF1.out.1.row) (by rw [laid_len _ _ _ (by have := HLl.out; simp; omega)]; simp) (by exact HS1.out) HR.out.2.2.1 (by omega) HR.out.2.2.2 ?_
           intro w2 hf2
           have l2' : w2.cell? ⟨pl, 1, none⟩ = some (.slice al nl cl) := (World.cell?_of_block (hf2.fr.block pl (World.block_lt_of_cell? _ _ l1') (by have := World.block_lt_of_cell? _ _ l1; simp at this; omega))).trans l1'
           have r2' : w2.cell? ⟨pr, 1, none⟩ = some (.slice ar nr cr) := (World.cell?_of_block (hf2.fr.block pr (World.block_lt_of_cell? _ _ r1') (by have := World.block_lt_of_cell? _ _ r1; simp at this; omega))).trans r1'
           have HF2 := (show Hid (_) from hf2)
           clear hf2)
        | fail))
    go_wp2_with fail
    go_meet
    case rel => exact ⟨_, _, rfl, joined_of (MK := MK) HLl.out HRl.out HF1.out.1 rfl HF1.out.2 HF2.out rfl⟩
  case rest =>
    obtain ⟨J, gJ, rfl, hJ⟩ := hcut
    obtain ⟨wj, hwj⟩ : ∃ wj, wj = wc := ⟨_, rfl⟩
    obtain rfl := hwj
    have hbj : Below w.heap.size w wj := hJ.fr.below (Nat.le_refl _) (fun _ h => h.elim)
    have l2j := cell_later hbj l2
    have r2j := cell_later hbj r2
    have j1j : wj.cell? ⟨J, 1, none⟩ = some (.slice (some ⟨gJ, 0, none⟩) (nl + nr) (nl + nr)) := by rw [← HLl.out, ← HRl.out]; exact nd_cell hJ.node 1
    have j2j : wj.cell? ⟨J, 2, none⟩ = some (.slice none 0 0) := nd_cell hJ.node 2
    have HSPL := (show Hid (Src (wj.alloc MP) (some ⟨kl, 0, none⟩) nl PL) from Src.later (w := wj) ⟨HQL.out.2.1, fun _ => ⟨_, rfl, by have := src_of_row ((hbj.block _ (lt_of_blk HQL.out.1)).trans HQL.out.1) 0; simpa using this⟩⟩ ((Below.refl _ _).alloc (Nat.le_refl _) _))
    have HSPR := (show Hid (Src wj (some ⟨kr, 0, none⟩) nr PR) from ⟨HQR.out.2.1, fun _ => ⟨_, rfl, by have := src_of_row ((hbj.block _ (lt_of_blk HQR.out.1)).trans HQR.out.1) 0; simpa using this⟩⟩)
    have HGP := (show Hid ((wj.alloc MP).heap[wj.heap.size]? = some (.cells (List.replicate (nl + nr) (Value.pointer none)).toArray 40 (0, 0))) by unfold Hid; rw [heap_alloc_new wj MP, HMP.out])
    have x1 := lt_of_blk HL.out.1
    have x2 := lt_of_blk HR.out.1
    have x3 := hJ.new.1
    have d1 : ¬ pl = J := by omega
    have d2 : ¬ J = pl := by omega
    have d3 : ¬ pr = J := by omega
    have d4 : ¬ J = pr := by omega
    clear x1 x2 x3
    have HJJ := (show Hid (_) from And.intro hJ hbj)
    clear hJ hbj
    go_wp2_with fail
    go_cut [] (fun wx => ∃ kJ, JoinedK w wx e L R PL PR J gJ kJ)
    case first =>
      go_region_held3 (fun w' => w'.cell? ⟨J, 1, none⟩ = some (.slice (some ⟨gJ, 0, none⟩) (nl + nr) (nl + nr)) ∧ w'.cell? ⟨pl, 2, none⟩ = some (.slice (some ⟨kl, 0, none⟩) nl nl) ∧ w'.cell? ⟨pr, 2, none⟩ = some (.slice (some ⟨kr, 0, none⟩) nr nr))
        (first | go_keep | exact js _ _ _ | fail)
        ((first
          | (refine step_append_fit (by rfl) (.tmp 76) (.tmp 80) 39 (by rfl) 40 i4 Try.underlying39 hi4 hy1 wj.heap.size 0 (nl + nr) (List.replicate (nl + nr) (.pointer none)) (by rfl) (some ⟨kl, 0, none⟩) nl nl PL (by rfl) (by exact HGP.out) (by simp) (by exact HSPL.out) HQL.out.2.2 (by omega) (fun h => by cases h) ?_
             intro w1 hf1
             have hb1 : Below wj.heap.size wj w1 := below_fit hf1 (MK := MP) rfl rfl rfl rfl rfl
             have j1' := cell_later hb1 j1j
             have j2' := cell_later hb1 j2j
             have l1' := cell_later hb1 l2j
             have r1' := cell_later hb1 r2j
             have HS1 := (show Hid (_) from HSPR.out.later hb1)
             have HF1 := (show Hid (_) from And.intro hf1 hb1)
             clear hf1 hb1)
          | (refine step_append_fit (by rfl) (.tmp 81) (.tmp 85) 39 (by rfl) 40 i4 Try.underlying39 hi4 hy1 wj.heap.size (0 + nl) (nl + nr) (laid (List.replicate (nl + nr) (.pointer none)) 0 PL) (by rfl) (some ⟨kr, 0, none⟩) nr nr PR (by rfl) (by exact HF1.out.1.row) (by rw [laid_len _ _ _ (by have := HQL.out.2.1; simp; omega)]; simp) (by exact HS1.out) HQR.out.2.2 (by omega) (fun h => by cases h) ?_
             intro w2 hf2
             have keep2 : ∀ {b o : Nat} {v : Value}, wj.cell? ⟨b, o, none⟩ = some v → w1.cell? ⟨b, o, none⟩ = some v → w2.cell? ⟨b, o, none⟩ = some v := fun {b o v} h0 h1 => (World.cell?_of_block (hf2.fr.block b (World.block_lt_of_cell? _ _ h1) (by have := World.block_lt_of_cell? _ _ h0; simp at this; omega))).trans h1
             have j1'' := keep2 j1j j1'
             have j2'' := keep2 j2j j2'
             have l1'' := keep2 l2j l1'
             have r1'' := keep2 r2j r1'
             have hJ2 := (hf2.fr.block J (World.block_lt_of_cell? _ _ j1') (by have := World.block_lt_of_cell? _ _ j1j; simp at this; omega)).trans ((HF1.out.2.block J (World.block_lt_of_cell? _ _ j1j)).trans HJJ.out.1.node)
             rw [HLl.out, HRl.out] at hJ2
             have jf : w2.frozen? ⟨J, 2, none⟩ = false := nd_frozen hJ2 2
             have js : ∀ a n c, (w2.setCell ⟨J, 2, none⟩ (.slice a n c)).cell? ⟨J, 1, none⟩ = some (.slice (some ⟨gJ, 0, none⟩) (nl + nr) (nl + nr)) ∧ (w2.setCell ⟨J, 2, none⟩ (.slice a n c)).cell? ⟨pl, 2, none⟩ = some (.slice (some ⟨kl, 0, none⟩) nl nl) ∧ (w2.setCell ⟨J, 2, none⟩ (.slice a n c)).cell? ⟨pr, 2, none⟩ = some (.slice (some ⟨kr, 0, none⟩) nr nr) := fun a n c => ⟨nd_cell (nd_set2 hJ2 a n c) 1, (World.cell?_of_block (heap_setCell_other _ _ _ _ (by simpa using d1))).trans l1'', (World.cell?_of_block (heap_setCell_other _ _ _ _ (by simpa using d3))).trans r1''⟩
             clear hJ2
             have HF2 := (show Hid (_) from hf2)
             clear hf2 keep2)
          | fail))
      go_wp2_with fail
      go_meet
      case rel => exact ⟨_, joinedK_of (MK := MP) HJJ.out.1 HLl.out HRl.out HQL.out.2.1 HQR.out.2.1 HF1.out.1 rfl HF1.out.2 HF2.out rfl⟩
    case rest =>
      obtain ⟨kJ, hJ⟩ := hcut
      have hPc : Par wc N e gI gK m I ps := HP.out.keep hJ.fr id id id
      have hbc : Below w.heap.size w wc := hJ.fr.below (Nat.le_refl _) (fun _ h => h.elim)
      have k2c := cell_later hbc k2
      have j1 : wc.cell? ⟨J, 1, none⟩ = some (.slice (some ⟨gJ, 0, none⟩) (nl + nr) (nl + nr)) := by rw [← HLl.out, ← HRl.out]; exact nd_cell hJ.node 1
      have kjc := cell_later hbc kl0
      have fjc := frozen_of_row wc gK j _ 40 hPc.kids
      have HJ := (show Hid (_) from And.intro hJ (And.intro hPc hbc))
      clear hJ hPc hbc l2j r2j j1j j2j d1 d2 d3 d4
      have HINT := (show Hid (_) from hint)
      clear hint
      obtain ⟨h, hh⟩ : ∃ h, h = (nl + nr) / 2 := ⟨_, rfl⟩
      have h0 : 0 < h := by omega
      have hlt : h < nl + nr := by omega
      have hq1 : ((nl : Int) + (nr : Int)).tdiv 2 = (h : Int) := by rw [Int.tdiv_eq_ediv_of_nonneg (by omega)]; omega
      have hq2 : ((nl : Int) + (nr : Int)) / 2 = (h : Int) := by omega
      have hqw : IntKind.i64.wrap (h : Int) = (h : Int) := by rw [IntKind.wrap_i64]; omega
      have HH := (show Hid (_) from hh)
      clear hh
      have hoJ : ∀ v ∈ L ++ R, v.oneCell' = true := fun v hv => (List.mem_append.1 hv).elim (HL.out.2.2.1 v) (HR.out.2.2.1 v)
      have HOJ := (show Hid (_) from hoJ)
      have hoK : ∀ v ∈ PL ++ PR, v.oneCell' = true := fun v hv => (List.mem_append.1 hv).elim (HQL.out.2.2 v) (HQR.out.2.2 v)
      have HOK := (show Hid (_) from hoK)
      have hjn : wc.heap[J]? = some (nd e (some ⟨gJ, 0, none⟩) (nl + nr) (nl + nr) (some ⟨kJ, 0, none⟩) (nl + nr) (nl + nr)) := by rw [← HLl.out, ← HRl.out]; exact HJ.out.1.node
      have HJN := (show Hid (_) from hjn)
      have HLR := (show Hid ((L ++ R).length = nl + nr) from by have := HLl.out; have := HRl.out; unfold Hid; simp; omega)
      have HPR := (show Hid ((PL ++ PR).length = nl + nr) from by have := HQL.out.2.1; have := HQR.out.2.1; unfold Hid; simp; omega)
      have htt : nl + nr ≤ 1048576 := by omega
      clear hoJ hoK hjn
      go_wp2_with fail
      go_cut [] (fun wx => ∃ Q gQ cQ kQ dQ, RbBigI w wx N e gI gK m j h I I ps L R PL PR J gJ kJ Q gQ cQ kQ dQ)
      case first =>
        go_region_with ((go_at_call 48; refine (split_inner _ J e gJ kJ (nl + nr) h (L ++ R) (PL ++ PR) h0 hlt htt HOJ.out HOK.out HJ.out.1.new.2.2.2.1 HJ.out.1.new.2.2.2.2.1 (by exact HJN.out) (by exact HJ.out.1.ids) HLR.out (by exact HJ.out.1.kids) HPR.out).mono ?_; rintro e' w1 ⟨Q, gQ, cQ, kQ, dQ, rfl, hS⟩; have hP1 : Par w1 N e gI gK m I ps := par_splitI HP.out HJ.out.1 hS rfl; have s1 : w1.cell? ⟨gK, j, none⟩ = some (.pointer (some ⟨pl, 0, none⟩)) := hP1.cell HPS.out.1; have s2 : w1.cell? ⟨gK, j + 1, none⟩ = some (.pointer (some ⟨pr, 0, none⟩)) := hP1.cell HPS.out.2; have s3 := frozen_of_row w1 gK j _ 40 hP1.kids; have s4 := frozen_of_row w1 gK (j + 1) _ 40 hP1.kids; have s5 : w1.cell? ⟨N, 2, none⟩ = some (.slice (some ⟨gK, 0, none⟩) m m) := nd_cell hP1.node 2; have HS := (show Hid (_) from hS); clear hS hP1))
        all_goals
          go_wp2_with fail
          go_meet
          case rel => exact ⟨Q, gQ, cQ, kQ, dQ, midI_of (wd := wc.drew) HLl.out HRl.out (by omega) (by omega) HP.out HJ.out.1 rfl rfl rfl rfl HS.out rfl⟩
      case rest =>
        obtain ⟨Q, gQ, cQ, kQ, dQ, hM⟩ := hcut
        obtain ⟨b, hb⟩ : ∃ b, (L ++ R)[h]? = some b := ⟨_, List.getElem?_eq_getElem (by have := HLR.out; omega)⟩
        obtain ⟨z, rfl⟩ := HINT.out b (List.mem_of_getElem? hb)
        have hb' : (L ++ R).drop h = .int .i64 z :: (L ++ R).drop (h + 1) := by
          have hl : h < (L ++ R).length := (List.getElem?_eq_some_iff.1 hb).1
          rw [List.drop_eq_getElem_cons hl]
          congr 1
          exact (List.getElem?_eq_some_iff.1 hb).2
        have hqn : 0 < nl + nr - h := by omega
        have t1 : wc.cell? ⟨N, 1, none⟩ = some (.slice (some ⟨gI, 0, none⟩) m m) := nd_cell hM.par.node 1
        have t2 : wc.cell? ⟨N, 2, none⟩ = some (.slice (some ⟨gK, 0, none⟩) m m) := nd_cell hM.par.node 2
        have t3 : wc.cell? ⟨gK, j + 1, none⟩ = some (.pointer (some ⟨Q, 0, none⟩)) := hM.par.cell (by rw [List.getElem?_set_self (by have := HP.out.kl; simp; omega)])
        have t4 : wc.cell? ⟨Q, 1, none⟩ = some (.slice (some ⟨gQ, 0, none⟩) (nl + nr - h) cQ) := by rw [← HLl.out, ← HRl.out]; exact nd_cell hM.right 1
        have t5 : wc.cell? ⟨gQ, 0, none⟩ = some (.int .i64 z) := by
          rw [hM.rids.cell 0 (by have := HLl.out; have := HRl.out; omega), hb']; rfl
        have t6 : wc.cell? ⟨gI, j + 1, none⟩ = some (I.getD (j + 1) (.int .i64 0)) := by
          rw [cell_of_row wc gI (j + 1) _ 2 (0, 0) hM.par.ids]
          have := HP.out.idl
          simp [List.getD, show j + 1 < I.length by omega]
        have t7 := frozen_of_row wc gI (j + 1) _ 2 hM.par.ids
        have hn := hM.new
        have e1 := lt_of_blk HP.out.node
        have e2 := lt_of_blk HP.out.ids
        have e3 := lt_of_blk HP.out.kids
        have d1 : ¬ N = gI := HP.out.n1
        have d2 : ¬ gI = N := fun h => d1 h.symm
        have d3 : ¬ gI = gK := HP.out.n3
        have d4 : ¬ gK = gI := fun h => d3 h.symm
        have d5 : ¬ gI = Q := by omega
        have d6 : ¬ Q = gI := by omega
        have d7 : ¬ gI = gQ := by omega
        have d8 : ¬ gQ = gI := by omega
        have b7 : (0 : Int) < ((nl + nr - h : Nat) : Int) := by omega
        obtain ⟨tq, htq⟩ : ∃ tq, tq = nl + nr - h := ⟨_, rfl⟩
        rw [← htq] at t4 b7 hqn
        have HM := (show Hid (_) from And.intro hM hb)
        have HTQ := (show Hid (_) from htq)
        clear hM hb hb' htq hn e1 e2 e3
        go_wp2_with fail
        go_region_held3 (fun w' => w'.cell? ⟨N, 1, none⟩ = some (.slice (some ⟨gI, 0, none⟩) m m) ∧ w'.cell? ⟨N, 2, none⟩ = some (.slice (some ⟨gK, 0, none⟩) m m) ∧ w'.cell? ⟨gK, j + 1, none⟩ = some (.pointer (some ⟨Q, 0, none⟩)) ∧ w'.cell? ⟨Q, 1, none⟩ = some (.slice (some ⟨gQ, 0, none⟩) tq cQ) ∧ w'.cell? ⟨gQ, 0, none⟩ = some (.int .i64 z))
          (first | go_keep | fail) (fail)
        go_wp2
        go_returns
        exact ⟨rfl, J, gJ, kJ, Q, gQ, cQ, kQ, dQ, _, by rw [← HH.out]; exact HM.out.2, by rw [← HH.out]; exact bigI_of HP.out HM.out.1 rfl rfl rfl rfl⟩

end Go.Proofs.Qxb6602784a
