import Derived.Test.Qxb6602784aBf
namespace Go.Proofs.Qxb6602784a
open Go.RowKit
set_option linter.unusedVariables false
set_option linter.unusedSimpArgs false
attribute [local go_sem] Go.wp_at_zero Go.wp_at_succ

set_option maxRecDepth 100000 in
set_option maxHeartbeats 3200000 in
theorem rb_leaf_small (w : World) (N : Nat) (e : Int) (gI gK m j : Nat) (I : List Value) (ps : List Nat) (hP : Par w N e gI gK m I ps) (hm : m ≤ 65536) (hj : j + 1 < m) (k : Nat) (hk : (k = j ∧ j + 1 < m) ∨ (k = j + 1 ∧ m = j + 2)) (hI1 : ∀ v ∈ I, v.oneCell' = true)
    (pl pr : Nat) (hpl : ps[j]? = some pl) (hpr : ps[j + 1]? = some pr) (el er : Int) (al ar : Option Addr) (nl cl nr cr : Nat) (kra : Option Addr) (krn krc : Nat)
    (hL : w.heap[pl]? = some (nd el al nl cl none 0 0)) (hR : w.heap[pr]? = some (nd er ar nr cr kra krn krc)) (L R : List Value) (sL : Src w al nl L) (sR : Src w ar nr R) (cl0 : al = none → cl = 0) (cr0 : ar = none → cr = 0)
    (hnl : nl + nr ≤ 1048576) (oL : ∀ v ∈ L, v.oneCell' = true) (oR : ∀ v ∈ R, v.oneCell' = true) (hsmall : nl + nr ≤ 64) :
    Calls Try.prog 46 #[.pointer (some ⟨N, 0, none⟩), .int .u64 e, .int .i64 k] w fun x w' => x = .returned (.tuple #[]) ∧ ∃ J gJ, RbSmall w w' N e gI gK m j I ps L R J gJ := by
  have r := r39
  obtain ⟨i0, hi, hz0, hz1, hz2⟩ := info_parts Try.info2
  obtain ⟨MK, hMK⟩ : ∃ MK, MK = Obj.cells (List.replicate (nl + nr) (Value.int .i64 0)).toArray 2 := ⟨_, rfl⟩
  have hmk : ∀ W : World, (Instr.makeSlice 30 (.int .i64 0) (.int .i64 ((nl : Int) + (nr : Int)))).run Try.prog W = .ok (.slice (some ⟨W.heap.size, 0, none⟩) 0 (nl + nr)) (W.alloc MK) := by
    intro W
    have := run_make (P := Try.prog) W 30 2 i0 (.int .i64 0) Try.underlying30 hi hz0 .i64 .i64 0 ((nl : Int) + (nr : Int)) (by omega) (by omega) (by rw [hz2]; omega) (by omega)
    have e1 : ((nl : Int) + (nr : Int)).toNat = nl + nr := by omega
    rw [this, hMK, e1, hz1]
    simp [Value.cells, ← toList_madeCells_one]
  have HMK := (show Hid (_) from hMK)
  clear hMK
  have k2 : w.cell? ⟨N, 2, none⟩ = some (.slice (some ⟨gK, 0, none⟩) m m) := nd_cell hP.node 2
  have kl : w.cell? ⟨gK, j, none⟩ = some (.pointer (some ⟨pl, 0, none⟩)) := hP.cell hpl
  have kr : w.cell? ⟨gK, j + 1, none⟩ = some (.pointer (some ⟨pr, 0, none⟩)) := hP.cell hpr
  have l1 : w.cell? ⟨pl, 1, none⟩ = some (.slice al nl cl) := nd_cell hL 1
  have l2 : w.cell? ⟨pl, 2, none⟩ = some (.slice none 0 0) := nd_cell hL 2
  have r1 : w.cell? ⟨pr, 1, none⟩ = some (.slice ar nr cr) := nd_cell hR 1
  have HP := (show Hid (_) from hP)
  have HL := (show Hid (_) from And.intro hL (And.intro sL (And.intro oL cl0)))
  have HR := (show Hid (_) from And.intro hR (And.intro sR (And.intro oR cr0)))
  have HPS := (show Hid (_) from And.intro hpl hpr)
  have b1 : ((m : Int) == 1) = false := by simp; omega
  have b3 : (j : Int) < (m : Int) := by omega
  have b4 : (j : Int) + 1 < (m : Int) := by omega
  have b5 : (0 : Int) ≤ (j : Int) := by omega
  have b6 : (0 : Int) ≤ (j : Int) + 1 := by omega
  have hto : ((j : Int) + 1).toNat = j + 1 := by omega
  have hwr : IntKind.i64.wrap ((j : Int) + 1) = (j : Int) + 1 := by rw [IntKind.wrap_i64]; omega
  have hws : IntKind.i64.wrap ((nl : Int) + (nr : Int)) = (nl : Int) + (nr : Int) := by rw [IntKind.wrap_i64]; omega
  have HI1 := (show Hid (_) from hI1)
  clear hI1 hP hL hR sL sR cl0 cr0 oL oR hpl hpr
  have HKJ := (show Hid (_) from hk)
  clear hk
  go_enter Try.func46, Try.ntmps46
  go_upto_if 22 with fail
  go_cut [2] (fun s2 wx => s2 = .int .i64 j ∧ w = wx)
  case first =>
    rcases HKJ.out with ⟨rfl, hq⟩ | ⟨rfl, rfl⟩
    · have b2 : ((k : Int) == (m : Int) - 1) = false := by simp; omega
      go_wp2_with fail
      go_meet
      case rel => exact ⟨rfl, rfl⟩
    · go_wp2_with fail
      go_meet
      case rel => exact ⟨by go_num, rfl⟩
  case rest =>
  obtain ⟨rfl, rfl⟩ := hcut
  go_wp2
  go_quiet (fail)
  go_wp2_with fail
  have HG0 := (show Hid ((w.alloc MK).heap[w.heap.size]? = some (.cells (List.replicate (nl + nr) (Value.int .i64 0)).toArray 2 (0, 0))) by unfold Hid; rw [heap_alloc_new w MK, HMK.out])
  have HSL := (show Hid (Src (w.alloc MK) al nl L) from HL.out.2.1.later ((Below.refl _ _).alloc (Nat.le_refl _) _))
  have HLl := (show Hid (_) from HL.out.2.1.1)
  have HRl := (show Hid (_) from HR.out.2.1.1)
  go_cut [8] (fun s8 wx => ∃ J gJ, s8 = .pointer (some ⟨J, 0, none⟩) ∧ Joined w wx e L R J gJ)
  case first =>
    go_region_held3 (fun w' => w'.cell? ⟨pl, 1, none⟩ = some (.slice al nl cl) ∧ w'.cell? ⟨pr, 1, none⟩ = some (.slice ar nr cr))
      (first | go_keep | fail)
      ((first
        | (refine step_append_fit (by rfl) (.tmp 52) (.tmp 56) 30 (by rfl) 2 i0 Try.underlying30 hi hz1 w.heap.size 0 (nl + nr) (List.replicate (nl + nr) (.int .i64 0)) (by rfl) al nl cl L (by rfl) (by exact HG0.out) (by simp) (by exact HSL.out) HL.out.2.2.1 (by omega) HL.out.2.2.2 ?_
           intro w1 hf1
           have hb1 : Below w.heap.size w w1 := below_fit hf1 (MK := MK) rfl rfl rfl rfl rfl
           have l1' := cell_later hb1 l1
           have r1' := cell_later hb1 r1
           have HS1 := (show Hid (_) from HR.out.2.1.later hb1)
           have HF1 := (show Hid (_) from And.intro hf1 hb1)
           clear hf1 hb1)
        | (refine step_append_fit (by rfl) (.tmp 57) (.tmp 61) 30 (by rfl) 2 i0 Try.underlying30 hi hz1 w.heap.size (0 + nl) (nl + nr) (laid (List.replicate (nl + nr) (.int .i64 0)) 0 L) (by rfl) ar nr cr R (by rfl) (by exact HF1.out.1.row) (by rw [laid_len _ _ _ (by have := HLl.out; simp; omega)]; simp) (by exact HS1.out) HR.out.2.2.1 (by omega) HR.out.2.2.2 ?_
           intro w2 hf2
           have l2' : w2.cell? ⟨pl, 1, none⟩ = some (.slice al nl cl) := (World.cell?_of_block (hf2.fr.block pl (World.block_lt_of_cell? _ _ l1') (by have := World.block_lt_of_cell? _ _ l1; simp at this; omega))).trans l1'
           have r2' : w2.cell? ⟨pr, 1, none⟩ = some (.slice ar nr cr) := (World.cell?_of_block (hf2.fr.block pr (World.block_lt_of_cell? _ _ r1') (by have := World.block_lt_of_cell? _ _ r1; simp at this; omega))).trans r1'
           have HF2 := (show Hid (_) from hf2)
           clear hf2)
        | fail))
    go_wp2_with fail
    go_meet
    case rel => exact ⟨_, _, rfl, joined_of (MK := MK) HLl.out HRl.out HF1.out.1 rfl HF1.out.2 HF2.out rfl⟩
  case rest =>
    obtain ⟨J, gJ, rfl, hJ⟩ := hcut
    have hPc : Par wc N e gI gK m I ps := HP.out.keep hJ.fr id id id
    have hbc : Below w.heap.size w wc := hJ.fr.below (Nat.le_refl _) (fun _ h => h.elim)
    have l2c := cell_later hbc l2
    have k2c := cell_later hbc k2
    have j1 : wc.cell? ⟨J, 1, none⟩ = some (.slice (some ⟨gJ, 0, none⟩) (nl + nr) (nl + nr)) := by rw [← HLl.out, ← HRl.out]; exact nd_cell hJ.node 1
    have kjc := cell_later hbc kl
    have fjc := frozen_of_row wc gK j _ 40 hPc.kids
    have HJ := (show Hid (_) from And.intro hJ (And.intro hPc hbc))
    clear hJ hPc hbc
    go_wp2_with (go_at_call 49; refine (drop_any _ N e gI gK m (j + 1) I ((ps.set j J).map pv) (by omega) (by omega) HP.out.n1 HP.out.n2 HP.out.n3 (par_set (w := w) HJ.out.2.1 j J).node (par_set (w := w) HJ.out.2.1 j J).ids HP.out.idl HI1.out (par_set (w := w) HJ.out.2.1 j J).kids (by simp [HP.out.kl]) (pv_one _)).mono ?_; rintro e' w' ⟨rfl, hD⟩)
    go_end0
    exact ⟨rfl, J, gJ, small_of HP.out HJ.out.1 hD⟩

end Go.Proofs.Qxb6602784a
