import Derived.Test.Qxb6602784aDh
namespace Go.Proofs.Qxb6602784a
open Go.RowKit
set_option linter.unusedVariables false
set_option linter.unusedSimpArgs false
attribute [local go_sem] Go.wp_at_zero Go.wp_at_succ

/-- behind 'joined.kids = ..': a new inner node that holds all of both -/
structure JoinedK (w w' : World) (e : Int) (L R PL PR : List Value) (J gJ kJ : Nat) : Prop where
  new : w.heap.size ≤ J ∧ w.heap.size ≤ gJ ∧ w.heap.size ≤ kJ ∧ J ≠ gJ ∧ J ≠ kJ ∧ gJ ≠ kJ
  node : w'.heap[J]? = some (nd e (some ⟨gJ, 0, none⟩) (L.length + R.length) (L.length + R.length) (some ⟨kJ, 0, none⟩) (L.length + R.length) (L.length + R.length))
  ids : w'.heap[gJ]? = some (.cells (L ++ R).toArray 2 (0, 0))
  kids : w'.heap[kJ]? = some (.cells (PL ++ PR).toArray 40 (0, 0))
  fr : Fr (fun _ => False) w w'

theorem joinedK_of {w wc W w1 w2 w3 : World} {e : Int} {L R PL PR : List Value} {nl nr J gJ : Nat} {MK : Obj} (hJ : Joined w wc e L R J gJ) (hl : L.length = nl) (hr : R.length = nr) (hpl : PL.length = nl) (hpr : PR.length = nr)
    (hf1 : Fit W w1 40 wc.heap.size (laid (List.replicate (nl + nr) (.pointer none)) 0 PL)) (hW : W.heap = (wc.alloc MK).heap) (hb : Below wc.heap.size wc w1)
    (hf2 : Fit w1 w2 40 wc.heap.size (laid (laid (List.replicate (nl + nr) (.pointer none)) 0 PL) (0 + nl) PR)) (h3 : w3 = w2.setCell ⟨J, 2, none⟩ (.slice (some ⟨wc.heap.size, 0, none⟩) (nl + nr) (nl + nr))) : JoinedK w w3 e L R PL PR J gJ wc.heap.size := by
  subst h3 hl hr
  have e1 : W.heap.size = wc.heap.size + 1 := by rw [hW]; simp
  have e2 : w2.heap.size = wc.heap.size + 1 := by rw [hf2.size, hf1.size, e1]
  have hn := hJ.new
  have hJl := lt_of_blk hJ.node
  have hgl := lt_of_blk hJ.ids
  have hs := hJ.fr.size
  have old : ∀ b, b < wc.heap.size → w2.heap[b]? = wc.heap[b]? := fun b hb' => (hf2.fr.block b (by rw [hf1.size, e1]; omega) (by omega)).trans (hb.block b hb')
  have hJ2 := (old J hJl).trans hJ.node
  refine ⟨⟨hn.1, hn.2.1, hs, hn.2.2, by omega, by omega⟩, nd_set2 hJ2 _ _ _, ?_, ?_, ?_⟩
  · rw [heap_setCell_other _ _ _ _ (by simp; omega)]; exact (old gJ hgl).trans hJ.ids
  · rw [heap_setCell_other _ _ _ _ (by simp; omega), hf2.row]
    have := laid_two (L.length + R.length) (Value.pointer none) PL PR (by omega)
    rw [hpl] at this
    rw [this]
  · refine ⟨hf2.fr.os.trans (hb.os.trans hJ.fr.os), hf2.fr.tape.trans (hb.tape.trans hJ.fr.tape), hf2.fr.output.trans (hb.output.trans hJ.fr.output), by simp; omega, fun b hb' _ => ?_⟩
    rw [heap_setCell_other _ _ _ _ (by simp; omega), old b (by omega)]
    exact hJ.fr.block b hb' id

/-- rebalance of inner kids, both into one -/
structure RbSmallI (w w' : World) (N : Nat) (e : Int) (gI gK m j : Nat) (I : List Value) (ps : List Nat) (L R PL PR : List Value) (J gJ kJ : Nat) : Prop where
  new : w.heap.size ≤ J ∧ w.heap.size ≤ gJ ∧ w.heap.size ≤ kJ ∧ J ≠ gJ ∧ J ≠ kJ ∧ gJ ≠ kJ
  join : w'.heap[J]? = some (nd e (some ⟨gJ, 0, none⟩) (L.length + R.length) (L.length + R.length) (some ⟨kJ, 0, none⟩) (L.length + R.length) (L.length + R.length))
  jids : w'.heap[gJ]? = some (.cells (L ++ R).toArray 2 (0, 0))
  jkids : w'.heap[kJ]? = some (.cells (PL ++ PR).toArray 40 (0, 0))
  node : w'.heap[N]? = some (nd e (some ⟨gI, 0, none⟩) (m - 1) m (some ⟨gK, 0, none⟩) (m - 1) m)
  ids : Rw w' 2 gI (m - 1) m (I.eraseIdx (j + 1))
  kids : Rw w' 40 gK (m - 1) m (((ps.set j J).eraseIdx (j + 1)).map pv)
  fr : Fr (fun k => k = N ∨ k = gI ∨ k = gK) w w'

theorem smallI_of {w wc w' : World} {N : Nat} {e : Int} {gI gK m j : Nat} {I : List Value} {ps : List Nat} {L R PL PR : List Value} {J gJ kJ : Nat} (hP : Par w N e gI gK m I ps) (hJ : JoinedK w wc e L R PL PR J gJ kJ)
    (hD : DropOut (wc.setCell ⟨gK, j, none⟩ (.pointer (some ⟨J, 0, none⟩))) w' N e gI gK m (j + 1) I ((ps.set j J).map pv)) : RbSmallI w w' N e gI gK m j I ps L R PL PR J gJ kJ := by
  have hN := lt_of_blk hP.node
  have hI := lt_of_blk hP.ids
  have hK := lt_of_blk hP.kids
  have hs : (wc.setCell ⟨gK, j, none⟩ (.pointer (some ⟨J, 0, none⟩))).heap.size = wc.heap.size := by simp
  have hn := hJ.new
  have hJl := lt_of_blk hJ.node
  have hgl := lt_of_blk hJ.ids
  have hkl := lt_of_blk hJ.kids
  refine ⟨hJ.new, ?_, ?_, ?_, hD.node, hD.ids, ?_, ?_⟩
  · rw [hD.fr.block J (by omega) (by omega), heap_setCell_other _ _ _ _ (by simp; omega)]; exact hJ.node
  · rw [hD.fr.block gJ (by omega) (by omega), heap_setCell_other _ _ _ _ (by simp; omega)]; exact hJ.ids
  · rw [hD.fr.block kJ (by omega) (by omega), heap_setCell_other _ _ _ _ (by simp; omega)]; exact hJ.kids
  · rw [← map_eraseIdx']; exact hD.kids
  · exact ((hJ.fr.mono (fun _ _ h => h.elim)).trans (Fr.setCell (S := fun k => k = N ∨ k = gI ∨ k = gK) wc (p := ⟨gK, j, none⟩) (.inr (.inr rfl)) _)).trans hD.fr

set_option maxRecDepth 100000 in
set_option maxHeartbeats 3200000 in
theorem rb_inner_small (w : World) (N : Nat) (e : Int) (gI gK m j : Nat) (I : List Value) (ps : List Nat) (hP : Par w N e gI gK m I ps) (hm : m ≤ 65536) (hj : j + 1 < m) (k : Nat) (hk : (k = j ∧ j + 1 < m) ∨ (k = j + 1 ∧ m = j + 2)) (hI1 : ∀ v ∈ I, v.oneCell' = true)
    (pl pr : Nat) (hpl : ps[j]? = some pl) (hpr : ps[j + 1]? = some pr) (el er : Int) (al ar : Option Addr) (nl cl nr cr : Nat) (kl kr : Nat)
    (hL : w.heap[pl]? = some (nd el al nl cl (some ⟨kl, 0, none⟩) nl nl)) (hR : w.heap[pr]? = some (nd er ar nr cr (some ⟨kr, 0, none⟩) nr nr)) (L R : List Value) (sL : Src w al nl L) (sR : Src w ar nr R) (cl0 : al = none → cl = 0) (cr0 : ar = none → cr = 0)
    (PL PR : List Value) (kL : w.heap[kl]? = some (.cells PL.toArray 40 (0, 0))) (kR : w.heap[kr]? = some (.cells PR.toArray 40 (0, 0))) (pL : PL.length = nl) (pR : PR.length = nr)
    (hnl : nl + nr ≤ 1048576) (oL : ∀ v ∈ L, v.oneCell' = true) (oR : ∀ v ∈ R, v.oneCell' = true) (qL : ∀ v ∈ PL, v.oneCell' = true) (qR : ∀ v ∈ PR, v.oneCell' = true) (hsmall : nl + nr ≤ 64) :
    Calls Try.prog 46 #[.pointer (some ⟨N, 0, none⟩), .int .u64 e, .int .i64 k] w fun x w' => x = .returned (.tuple #[]) ∧ ∃ J gJ kJ, RbSmallI w w' N e gI gK m j I ps L R PL PR J gJ kJ := by
  have r := r39
  obtain ⟨i0, hi, hz0, hz1, hz2⟩ := info_parts Try.info2
  obtain ⟨i4, hi4, hy0, hy1, hy2⟩ := info_parts Try.info40
  obtain ⟨MK, hMK⟩ : ∃ MK, MK = Obj.cells (List.replicate (nl + nr) (Value.int .i64 0)).toArray 2 := ⟨_, rfl⟩
  have hmk : ∀ W : World, (Instr.makeSlice 30 (.int .i64 0) (.int .i64 ((nl : Int) + (nr : Int)))).run Try.prog W = .ok (.slice (some ⟨W.heap.size, 0, none⟩) 0 (nl + nr)) (W.alloc MK) := by
    intro W
    have := run_make (P := Try.prog) W 30 2 i0 (.int .i64 0) Try.underlying30 hi hz0 .i64 .i64 0 ((nl : Int) + (nr : Int)) (by omega) (by omega) (by rw [hz2]; omega) (by omega)
    have e1 : ((nl : Int) + (nr : Int)).toNat = nl + nr := by omega
    rw [this, hMK, e1, hz1]
    simp [Value.cells, ← toList_madeCells_one]
  have HMK := (show Hid (_) from hMK)
  obtain ⟨MP, hMP⟩ : ∃ MP, MP = Obj.cells (List.replicate (nl + nr) (Value.pointer none)).toArray 40 := ⟨_, rfl⟩
  have hmp : ∀ W : World, (Instr.makeSlice 39 (.int .i64 0) (.int .i64 ((nl : Int) + (nr : Int)))).run Try.prog W = .ok (.slice (some ⟨W.heap.size, 0, none⟩) 0 (nl + nr)) (W.alloc MP) := by
    intro W
    have := run_make (P := Try.prog) W 39 40 i4 (.pointer none) Try.underlying39 hi4 hy0 .i64 .i64 0 ((nl : Int) + (nr : Int)) (by omega) (by omega) (by rw [hy2]; omega) (by omega)
    have e1 : ((nl : Int) + (nr : Int)).toNat = nl + nr := by omega
    rw [this, hMP, e1, hy1]
    simp [Value.cells, ← toList_madeCells_one]
  have HMP := (show Hid (_) from hMP)
  clear hMK hMP
  have k2 : w.cell? ⟨N, 2, none⟩ = some (.slice (some ⟨gK, 0, none⟩) m m) := nd_cell hP.node 2
  have kl0 : w.cell? ⟨gK, j, none⟩ = some (.pointer (some ⟨pl, 0, none⟩)) := hP.cell hpl
  have kr0 : w.cell? ⟨gK, j + 1, none⟩ = some (.pointer (some ⟨pr, 0, none⟩)) := hP.cell hpr
  have l1 : w.cell? ⟨pl, 1, none⟩ = some (.slice al nl cl) := nd_cell hL 1
  have l2 : w.cell? ⟨pl, 2, none⟩ = some (.slice (some ⟨kl, 0, none⟩) nl nl) := nd_cell hL 2
  have r1 : w.cell? ⟨pr, 1, none⟩ = some (.slice ar nr cr) := nd_cell hR 1
  have r2 : w.cell? ⟨pr, 2, none⟩ = some (.slice (some ⟨kr, 0, none⟩) nr nr) := nd_cell hR 2
  have HP := (show Hid (_) from hP)
  have HL := (show Hid (_) from And.intro hL (And.intro sL (And.intro oL cl0)))
  have HR := (show Hid (_) from And.intro hR (And.intro sR (And.intro oR cr0)))
  have HQL := (show Hid (_) from And.intro kL (And.intro pL qL))
  have HQR := (show Hid (_) from And.intro kR (And.intro pR qR))
  have HPS := (show Hid (_) from And.intro hpl hpr)
  have b1 : ((m : Int) == 1) = false := by simp; omega
  have b3 : (j : Int) < (m : Int) := by omega
  have b4 : (j : Int) + 1 < (m : Int) := by omega
  have b5 : (0 : Int) ≤ (j : Int) := by omega
  have b6 : (0 : Int) ≤ (j : Int) + 1 := by omega
  have hto : ((j : Int) + 1).toNat = j + 1 := by omega
  have hwr : IntKind.i64.wrap ((j : Int) + 1) = (j : Int) + 1 := by rw [IntKind.wrap_i64]; omega
  have hws : IntKind.i64.wrap ((nl : Int) + (nr : Int)) = (nl : Int) + (nr : Int) := by rw [IntKind.wrap_i64]; omega
  have HI1 := (show Hid (_) from hI1)
  clear hI1 hP hL hR sL sR cl0 cr0 oL oR hpl hpr kL kR pL pR qL qR
  have HKJ := (show Hid (_) from hk)
  clear hk
  go_enter Try.func46, Try.ntmps46
  go_upto_if 22 with fail
  go_cut [2] (fun s2 wx => s2 = .int .i64 j ∧ w = wx)
  case first =>
    rcases HKJ.out with ⟨rfl, hq⟩ | ⟨rfl, rfl⟩
    · have b2 : ((k : Int) == (m : Int) - 1) = false := by simp; omega
      go_wp2_with fail
      go_meet
      case rel => exact ⟨rfl, rfl⟩
    · go_wp2_with fail
      go_meet
      case rel => exact ⟨by go_num, rfl⟩
  case rest =>
  obtain ⟨rfl, rfl⟩ := hcut
  go_wp2
  go_quiet (fail)
  go_wp2_with fail
  have HG0 := (show Hid ((w.alloc MK).heap[w.heap.size]? = some (.cells (List.replicate (nl + nr) (Value.int .i64 0)).toArray 2 (0, 0))) by unfold Hid; rw [heap_alloc_new w MK, HMK.out])
  have HSL := (show Hid (Src (w.alloc MK) al nl L) from HL.out.2.1.later ((Below.refl _ _).alloc (Nat.le_refl _) _))
  have HLl := (show Hid (_) from HL.out.2.1.1)
  have HRl := (show Hid (_) from HR.out.2.1.1)
  go_cut [8] (fun s8 wx => ∃ J gJ, s8 = .pointer (some ⟨J, 0, none⟩) ∧ Joined w wx e L R J gJ)
  case first =>
    go_region_held3 (fun w' => w'.cell? ⟨pl, 1, none⟩ = some (.slice al nl cl) ∧ w'.cell? ⟨pr, 1, none⟩ = some (.slice ar nr cr))
      (first | go_keep | fail)
      ((first
        | (refine step_append_fit (by rfl) (.tmp 52) (.tmp 56) 30 (by rfl) 2 i0 Try.underlying30 hi hz1 w.heap.size 0 (nl + nr) (List.replicate (nl + nr) (.int .i64 0)) (by rfl) al nl cl L (by rfl) (by exact HG0.out) (by simp) (by exact HSL.out) HL.out.2.2.1 (by omega) HL.out.2.2.2 ?_
           intro w1 hf1
           have hb1 : Below w.heap.size w w1 := below_fit hf1 (MK := MK) rfl rfl rfl rfl rfl
           have l1' := cell_later hb1 l1
           have r1' := cell_later hb1 r1
           have HS1 := (show Hid (_) from HR.out.2.1.later hb1)
           have HF1 := (show Hid (_) from And.intro hf1 hb1)
           clear hf1 hb1)
        | (refine step_append_fit (by rfl) (.tmp 57) (.tmp 61) 30 (by rfl) 2 i0 Try.underlying30 hi hz1 w.heap.size (0 + nl) (nl + nr) (laid (List.replicate (nl + nr) (.int .i64 0)) 0 L) (by rfl) ar nr cr R (by rfl) (by exact HF1.out.1.row) (by rw [laid_len _ _ _ (by have := HLl.out; simp; omega)]; simp) (by exact HS1.out) HR.out.2.2.1 (by omega) HR.out.2.2.2 ?_
           intro w2 hf2
           have l2' : w2.cell? ⟨pl, 1, none⟩ = some (.slice al nl cl) := (World.cell?_of_block (hf2.fr.block pl (World.block_lt_of_cell? _ _ l1') (by have := World.block_lt_of_cell? _ _ l1; simp at this; omega))).trans l1'
           have r2' : w2.cell? ⟨pr, 1, none⟩ = some (.slice ar nr cr) := (World.cell?_of_block (hf2.fr.block pr (World.block_lt_of_cell? _ _ r1') (by have := World.block_lt_of_cell? _ _ r1; simp at this; omega))).trans r1'
           have HF2 := (show Hid (_) from hf2)
           clear hf2)
        | fail))
    go_wp2_with fail
    go_meet
    case rel => exact ⟨_, _, rfl, joined_of (MK := MK) HLl.out HRl.out HF1.out.1 rfl HF1.out.2 HF2.out rfl⟩
  case rest =>
    obtain ⟨J, gJ, rfl, hJ⟩ := hcut
    obtain ⟨wj, hwj⟩ : ∃ wj, wj = wc := ⟨_, rfl⟩
    obtain rfl := hwj
    have hbj : Below w.heap.size w wj := hJ.fr.below (Nat.le_refl _) (fun _ h => h.elim)
    have l2j := cell_later hbj l2
    have r2j := cell_later hbj r2
    have j1j : wj.cell? ⟨J, 1, none⟩ = some (.slice (some ⟨gJ, 0, none⟩) (nl + nr) (nl + nr)) := by rw [← HLl.out, ← HRl.out]; exact nd_cell hJ.node 1
    have j2j : wj.cell? ⟨J, 2, none⟩ = some (.slice none 0 0) := nd_cell hJ.node 2
    have HSPL := (show Hid (Src (wj.alloc MP) (some ⟨kl, 0, none⟩) nl PL) from Src.later (w := wj) ⟨HQL.out.2.1, fun _ => ⟨_, rfl, by have := src_of_row ((hbj.block _ (lt_of_blk HQL.out.1)).trans HQL.out.1) 0; simpa using this⟩⟩ ((Below.refl _ _).alloc (Nat.le_refl _) _))
    have HSPR := (show Hid (Src wj (some ⟨kr, 0, none⟩) nr PR) from ⟨HQR.out.2.1, fun _ => ⟨_, rfl, by have := src_of_row ((hbj.block _ (lt_of_blk HQR.out.1)).trans HQR.out.1) 0; simpa using this⟩⟩)
    have HGP := (show Hid ((wj.alloc MP).heap[wj.heap.size]? = some (.cells (List.replicate (nl + nr) (Value.pointer none)).toArray 40 (0, 0))) by unfold Hid; rw [heap_alloc_new wj MP, HMP.out])
    have x1 := lt_of_blk HL.out.1
    have x2 := lt_of_blk HR.out.1
    have x3 := hJ.new.1
    have d1 : ¬ pl = J := by omega
    have d2 : ¬ J = pl := by omega
    have d3 : ¬ pr = J := by omega
    have d4 : ¬ J = pr := by omega
    clear x1 x2 x3
    have HJJ := (show Hid (_) from And.intro hJ hbj)
    clear hJ hbj
    go_wp2_with fail
    go_cut [] (fun wx => ∃ kJ, JoinedK w wx e L R PL PR J gJ kJ)
    case first =>
      go_region_held3 (fun w' => w'.cell? ⟨J, 1, none⟩ = some (.slice (some ⟨gJ, 0, none⟩) (nl + nr) (nl + nr)) ∧ w'.cell? ⟨pl, 2, none⟩ = some (.slice (some ⟨kl, 0, none⟩) nl nl) ∧ w'.cell? ⟨pr, 2, none⟩ = some (.slice (some ⟨kr, 0, none⟩) nr nr))
        (first | go_keep | exact js _ _ _ | fail)
        ((first
          | (refine step_append_fit (by rfl) (.tmp 76) (.tmp 80) 39 (by rfl) 40 i4 Try.underlying39 hi4 hy1 wj.heap.size 0 (nl + nr) (List.replicate (nl + nr) (.pointer none)) (by rfl) (some ⟨kl, 0, none⟩) nl nl PL (by rfl) (by exact HGP.out) (by simp) (by exact HSPL.out) HQL.out.2.2 (by omega) (fun h => by cases h) ?_
             intro w1 hf1
             have hb1 : Below wj.heap.size wj w1 := below_fit hf1 (MK := MP) rfl rfl rfl rfl rfl
             have j1' := cell_later hb1 j1j
             have j2' := cell_later hb1 j2j
             have l1' := cell_later hb1 l2j
             have r1' := cell_later hb1 r2j
             have HS1 := (show Hid (_) from HSPR.out.later hb1)
             have HF1 := (show Hid (_) from And.intro hf1 hb1)
             clear hf1 hb1)
          | (refine step_append_fit (by rfl) (.tmp 81) (.tmp 85) 39 (by rfl) 40 i4 Try.underlying39 hi4 hy1 wj.heap.size (0 + nl) (nl + nr) (laid (List.replicate (nl + nr) (.pointer none)) 0 PL) (by rfl) (some ⟨kr, 0, none⟩) nr nr PR (by rfl) (by exact HF1.out.1.row) (by rw [laid_len _ _ _ (by have := HQL.out.2.1; simp; omega)]; simp) (by exact HS1.out) HQR.out.2.2 (by omega) (fun h => by cases h) ?_
             intro w2 hf2
             have keep2 : ∀ {b o : Nat} {v : Value}, wj.cell? ⟨b, o, none⟩ = some v → w1.cell? ⟨b, o, none⟩ = some v → w2.cell? ⟨b, o, none⟩ = some v := fun {b o v} h0 h1 => (World.cell?_of_block (hf2.fr.block b (World.block_lt_of_cell? _ _ h1) (by have := World.block_lt_of_cell? _ _ h0; simp at this; omega))).trans h1
             have j1'' := keep2 j1j j1'
             have j2'' := keep2 j2j j2'
             have l1'' := keep2 l2j l1'
             have r1'' := keep2 r2j r1'
             have hJ2 := (hf2.fr.block J (World.block_lt_of_cell? _ _ j1') (by have := World.block_lt_of_cell? _ _ j1j; simp at this; omega)).trans ((HF1.out.2.block J (World.block_lt_of_cell? _ _ j1j)).trans HJJ.out.1.node)
             rw [HLl.out, HRl.out] at hJ2
             have jf : w2.frozen? ⟨J, 2, none⟩ = false := nd_frozen hJ2 2
             have js : ∀ a n c, (w2.setCell ⟨J, 2, none⟩ (.slice a n c)).cell? ⟨J, 1, none⟩ = some (.slice (some ⟨gJ, 0, none⟩) (nl + nr) (nl + nr)) ∧ (w2.setCell ⟨J, 2, none⟩ (.slice a n c)).cell? ⟨pl, 2, none⟩ = some (.slice (some ⟨kl, 0, none⟩) nl nl) ∧ (w2.setCell ⟨J, 2, none⟩ (.slice a n c)).cell? ⟨pr, 2, none⟩ = some (.slice (some ⟨kr, 0, none⟩) nr nr) := fun a n c => ⟨nd_cell (nd_set2 hJ2 a n c) 1, (World.cell?_of_block (heap_setCell_other _ _ _ _ (by simpa using d1))).trans l1'', (World.cell?_of_block (heap_setCell_other _ _ _ _ (by simpa using d3))).trans r1''⟩
             clear hJ2
             have HF2 := (show Hid (_) from hf2)
             clear hf2 keep2)
          | fail))
      go_wp2_with fail
      go_meet
      case rel => exact ⟨_, joinedK_of (MK := MP) HJJ.out.1 HLl.out HRl.out HQL.out.2.1 HQR.out.2.1 HF1.out.1 rfl HF1.out.2 HF2.out rfl⟩
    case rest =>
      obtain ⟨kJ, hJ⟩ := hcut
      have hPc : Par wc N e gI gK m I ps := HP.out.keep hJ.fr id id id
      have hbc : Below w.heap.size w wc := hJ.fr.below (Nat.le_refl _) (fun _ h => h.elim)
      have k2c := cell_later hbc k2
      have j1 : wc.cell? ⟨J, 1, none⟩ = some (.slice (some ⟨gJ, 0, none⟩) (nl + nr) (nl + nr)) := by rw [← HLl.out, ← HRl.out]; exact nd_cell hJ.node 1
      have kjc := cell_later hbc kl0
      have fjc := frozen_of_row wc gK j _ 40 hPc.kids
      have HJ := (show Hid (_) from And.intro hJ (And.intro hPc hbc))
      clear hJ hPc hbc l2j r2j j1j j2j d1 d2 d3 d4
      go_wp2_with (go_at_call 49; refine (drop_any _ N e gI gK m (j + 1) I ((ps.set j J).map pv) (by omega) (by omega) HP.out.n1 HP.out.n2 HP.out.n3 (par_set (w := w) HJ.out.2.1 j J).node (par_set (w := w) HJ.out.2.1 j J).ids HP.out.idl HI1.out (par_set (w := w) HJ.out.2.1 j J).kids (by simp [HP.out.kl]) (pv_one _)).mono ?_; rintro e' w' ⟨rfl, hD⟩)
      go_end0
      exact ⟨rfl, J, gJ, kJ, smallI_of HP.out HJ.out.1 hD⟩

end Go.Proofs.Qxb6602784a
