import Derived.Test.Qxb6602784aBd
namespace Go.Proofs.Qxb6602784a
open Go.RowKit
set_option linter.unusedVariables false
set_option linter.unusedSimpArgs false
attribute [local go_sem] Go.wp_at_zero Go.wp_at_succ

set_option maxRecDepth 100000 in
set_option maxHeartbeats 1600000 in
theorem drop_mid (w : World) (N : Nat) (e : Int) (gI gK m d : Nat) (I K : List Value) (hd : d + 1 < m) (hm : m ≤ 1048576) (n1 : N ≠ gI) (n2 : N ≠ gK) (n3 : gI ≠ gK)
    (hN : w.heap[N]? = some (nd e (some ⟨gI, 0, none⟩) m m (some ⟨gK, 0, none⟩) m m)) (hI : w.heap[gI]? = some (.cells I.toArray 2 (0, 0))) (hIl : I.length = m) (hI1 : ∀ v ∈ I, v.oneCell' = true)
    (hK : w.heap[gK]? = some (.cells K.toArray 40 (0, 0))) (hKl : K.length = m) (hK1 : ∀ v ∈ K, v.oneCell' = true) :
    Calls Try.prog 49 #[.pointer (some ⟨N, 0, none⟩), .int .i64 d] w fun x w' => x = .returned (.tuple #[]) ∧ DropOut w w' N e gI gK m d I K := by
  obtain ⟨i0, hi, hz0, hz1, hz2⟩ := info_parts Try.info2
  have k1 : w.cell? ⟨N, 1, none⟩ = some (.slice (some ⟨gI, 0, none⟩) m m) := nd_cell hN 1
  have k2 : w.cell? ⟨N, 2, none⟩ = some (.slice (some ⟨gK, 0, none⟩) m m) := nd_cell hN 2
  have HN := (show Hid (_) from hN)
  have HI := (show Hid (_) from hI)
  have HK := (show Hid (_) from hK)
  have HIl := (show Hid (_) from hIl)
  have HKl := (show Hid (_) from hKl)
  have b0 : (0 : Int) ≤ (d : Int) := by omega
  have b1 : (d : Int) + 1 ≤ (m : Int) := by omega
  have b2 : (d : Int) ≤ (m : Int) := by omega
  have hwr : IntKind.i64.wrap ((d : Int) + 1) = (d : Int) + 1 := by rw [IntKind.wrap_i64]; omega
  have b5 : (0 : Int) ≤ (d : Int) + 1 := by omega
  have b3 : ¬ m = d + 1 := by omega
  have b4 : ¬ m = d := by omega
  have HS := (show Hid (Src w (some ⟨gI, d + 1, none⟩) (m - (d + 1)) (I.drop (d + 1))) from ⟨by simp; omega, fun _ => ⟨_, rfl, src_of_row hI (d + 1)⟩⟩)
  have HI1 := (show Hid (∀ u ∈ I.drop (d + 1), u.oneCell' = true) from fun u hu => hI1 u (List.mem_of_mem_drop hu))
  have hsz40 : (Try.prog.info? 40).map (·.size) = some 1 := by kernel_rfl
  have HK1 := (show Hid (∀ u ∈ K.drop (d + 1), u.oneCell' = true) from fun u hu => hK1 u (List.mem_of_mem_drop hu))
  have HNI := (show Hid (_) from n1)
  have HNK := (show Hid (_) from n2)
  have HIK := (show Hid (_) from n3)
  clear hN hI hK hIl hKl hI1 hK1 n1 n2 n3
  go_enter Try.func49, Try.ntmps49
  go_wp2_with fail
  go_cut [] (fun wx => D0 w wx N e gI gK m d I K)
  case first =>
    go_region_law ((refine step_append_fit (by rfl) _ _ 30 (by rfl) 2 i0 Try.underlying30 hi hz1 gI d m I (by rfl) (some ⟨gI, d + 1, none⟩) (m - (d + 1)) (m - (d + 1)) (I.drop (d + 1)) (by rfl) (by exact HI.out) HIl.out (by exact HS.out) HI1.out (by omega) (by intro h; cases h) ?_; intro w1 hf1; have hN1 := (hf1.fr.block N (by exact lt_of_blk HN.out) HNI.out).trans HN.out; have c1 : w1.cell? ⟨N, 1, none⟩ = some (.slice (some ⟨gI, 0, none⟩) m m) := nd_cell hN1 1; have f1 := nd_frozen hN1 1; have HF := (show Hid (_) from And.intro hf1 hN1); clear hf1 hN1))
    all_goals
      go_wp2_with fail
      go_meet
      case rel => exact d0_of rfl (by omega) HNI.out HNK.out HIK.out HK.out HF.out.1 HF.out.2
  case rest =>
    have c2 : wc.cell? ⟨N, 2, none⟩ = some (.slice (some ⟨gK, 0, none⟩) m m) := nd_cell hcut.node 2
    have HC := (show Hid (_) from hcut)
    have HSK := (show Hid (Src wc (some ⟨gK, d + 1, none⟩) (m - (d + 1)) (K.drop (d + 1))) from ⟨by have := HKl.out; simp; omega, fun _ => ⟨_, rfl, src_of_row hcut.kids (d + 1)⟩⟩)
    clear hcut
    go_wp2_with fail
    go_region_held3 (fun w' => w'.cell? ⟨N, 2, none⟩ = some (.slice (some ⟨gK, 0, none⟩) m m))
      (first | go_keep | fail)
      ((refine step_copy_fit (by rfl) _ _ 39 39 (by rfl) 40 Try.underlying39 hsz40 (some ⟨gK, d, none⟩) (some ⟨gK, d + 1, none⟩) (m - d) (m - d) (m - (d + 1)) (m - (d + 1)) (by rfl) (by rfl) gK d K 40 (by exact HC.out.kids) (K.drop (d + 1)) (by have := HKl.out; show _ = min _ _; simp only [List.length_drop]; omega) (fun h => ⟨rfl, HSK.out.2 (by have := HSK.out.1; omega)⟩) (by have := HKl.out; simp; omega) HK1.out ?_; intro w2 hf2; have hN2 := (hf2.fr.block N (by exact lt_of_blk HC.out.node) HNK.out).trans HC.out.node; have c3 : w2.cell? ⟨N, 2, none⟩ = some (.slice (some ⟨gK, 0, none⟩) m m) := nd_cell hN2 2; have HF2 := (show Hid (_) from And.intro hf2 hN2); clear hf2 hN2))
    have hlK := laid_len K d (K.drop (d + 1)) (by have := HKl.out; simp; omega)
    have cK : w2.cell? ⟨gK, m - 1, none⟩ = some ((laid K d (K.drop (d + 1))).getD (m - 1) (.pointer none)) := by
      rw [cell_of_row w2 gK (m - 1) _ 40 (0, 0) HF2.out.1.row]
      have : m - 1 < (laid K d (K.drop (d + 1))).length := by rw [hlK, HKl.out]; omega
      simp [List.getD, this]
    have fK := frozen_of_row w2 gK (m - 1) _ 40 HF2.out.1.row
    have hto : ((m : Int) - 1).toNat = m - 1 := by omega
    have hw2 : IntKind.i64.wrap ((m : Int) - 1) = (m : Int) - 1 := by rw [IntKind.wrap_i64]; omega
    have b6 : (0 : Int) ≤ (m : Int) - 1 := by omega
    have b7 : (m : Int) - 1 < (m : Int) := by omega
    have b8 : (m : Int) - 1 ≤ (m : Int) := by omega
    have HL := (show Hid (_) from hlK)
    have hn2 : ¬ N = gK := HNK.out
    have hn3 : ¬ gK = N := fun h => hn2 h.symm
    have b9 : (1 : Int) ≤ (m : Int) := by omega
    have b10 : (0 : Int) < (m : Int) := by omega
    clear hlK
    go_wp2_with fail
    go_region_held3 (fun w' => w'.cell? ⟨N, 2, none⟩ = some (.slice (some ⟨gK, 0, none⟩) m m))
      (first | go_keep | fail) (fail)
    have f3 := nd_frozen HF2.out.2 2
    go_wp2_with fail
    go_region_law (fail)
    all_goals go_wp2
    all_goals go_end0
    all_goals exact ⟨rfl, drop_fin (by omega) hm HNI.out HNK.out HIK.out HIl.out HKl.out HC.out HF2.out.1 HF2.out.2 rfl rfl rfl rfl⟩

set_option maxRecDepth 100000 in
set_option maxHeartbeats 1600000 in
theorem drop_last (w : World) (N : Nat) (e : Int) (gI gK d : Nat) (I K : List Value) (hm : d + 1 ≤ 1048576) (n1 : N ≠ gI) (n2 : N ≠ gK) (n3 : gI ≠ gK)
    (hN : w.heap[N]? = some (nd e (some ⟨gI, 0, none⟩) (d + 1) (d + 1) (some ⟨gK, 0, none⟩) (d + 1) (d + 1))) (hI : w.heap[gI]? = some (.cells I.toArray 2 (0, 0))) (hIl : I.length = d + 1) (hI1 : ∀ v ∈ I, v.oneCell' = true)
    (hK : w.heap[gK]? = some (.cells K.toArray 40 (0, 0))) (hKl : K.length = d + 1) (hK1 : ∀ v ∈ K, v.oneCell' = true) :
    Calls Try.prog 49 #[.pointer (some ⟨N, 0, none⟩), .int .i64 d] w fun x w' => x = .returned (.tuple #[]) ∧ DropOut w w' N e gI gK (d + 1) d I K := by
  obtain ⟨i0, hi, hz0, hz1, hz2⟩ := info_parts Try.info2
  have k1 : w.cell? ⟨N, 1, none⟩ = some (.slice (some ⟨gI, 0, none⟩) (d + 1) (d + 1)) := nd_cell hN 1
  have k2 : w.cell? ⟨N, 2, none⟩ = some (.slice (some ⟨gK, 0, none⟩) (d + 1) (d + 1)) := nd_cell hN 2
  have HN := (show Hid (_) from hN)
  have HI := (show Hid (_) from hI)
  have HK := (show Hid (_) from hK)
  have HIl := (show Hid (_) from hIl)
  have HKl := (show Hid (_) from hKl)
  have b0 : (0 : Int) ≤ (d : Int) := by omega
  have hwr : IntKind.i64.wrap ((d : Int) + 1) = (d : Int) + 1 := by rw [IntKind.wrap_i64]; omega
  have b5 : (0 : Int) ≤ (d : Int) + 1 := by omega
  have b1 : (d : Int) ≤ (d : Int) + 1 := by omega
  have b2 : (d : Int) < (d : Int) + 1 := by omega
  have hwd : IntKind.i64.wrap (d : Int) = (d : Int) := by rw [IntKind.wrap_i64]; omega
  have hwd2 : IntKind.i64.wrap ((d : Int) + 1 - 1) = (d : Int) := by rw [IntKind.wrap_i64]; omega
  have HS := (show Hid (Src w (some ⟨gI, 0, none⟩) 0 (I.drop (d + 1))) from ⟨by simp; omega, fun _ => ⟨_, rfl, fun j u hj => by simp [List.drop_of_length_le (Nat.le_of_eq hIl)] at hj⟩⟩)
  have HI1 := (show Hid (∀ u ∈ I.drop (d + 1), u.oneCell' = true) from fun u hu => hI1 u (List.mem_of_mem_drop hu))
  have hsz40 : (Try.prog.info? 40).map (·.size) = some 1 := by kernel_rfl
  have HK1 := (show Hid (∀ u ∈ K.drop (d + 1), u.oneCell' = true) from fun u hu => hK1 u (List.mem_of_mem_drop hu))
  have HNI := (show Hid (_) from n1)
  have HNK := (show Hid (_) from n2)
  have HIK := (show Hid (_) from n3)
  clear hN hI hK hIl hKl hI1 hK1 n1 n2 n3
  go_enter Try.func49, Try.ntmps49
  go_wp2_with fail
  go_cut [] (fun wx => D0 w wx N e gI gK (d + 1) d I K)
  case first =>
    go_region_law ((refine step_append_fit (by rfl) _ _ 30 (by rfl) 2 i0 Try.underlying30 hi hz1 gI d (d + 1) I (by rfl) (some ⟨gI, 0, none⟩) 0 0 (I.drop (d + 1)) (by rfl) (by exact HI.out) HIl.out (by exact HS.out) HI1.out (by omega) (by intro h; cases h) ?_; intro w1 hf1; have hN1 := (hf1.fr.block N (by exact lt_of_blk HN.out) HNI.out).trans HN.out; have c1 : w1.cell? ⟨N, 1, none⟩ = some (.slice (some ⟨gI, 0, none⟩) (d + 1) (d + 1)) := nd_cell hN1 1; have f1 := nd_frozen hN1 1; have HF := (show Hid (_) from And.intro hf1 hN1); clear hf1 hN1))
    all_goals
      go_wp2_with fail
      go_meet
      case rel =>
        have h := d0_of (m := d + 1) rfl (by omega) HNI.out HNK.out HIK.out HK.out HF.out.1 HF.out.2
        rw [show d + (d + 1 - (d + 1)) = d by omega] at h
        exact h
  case rest =>
    have c2 : wc.cell? ⟨N, 2, none⟩ = some (.slice (some ⟨gK, 0, none⟩) (d + 1) (d + 1)) := nd_cell hcut.node 2
    have HC := (show Hid (_) from hcut)
    have HSK := (show Hid (Src wc (some ⟨gK, 0, none⟩) 0 (K.drop (d + 1))) from ⟨by have := HKl.out; simp; omega, fun _ => ⟨_, rfl, fun j u hj => by simp [List.drop_of_length_le (Nat.le_of_eq HKl.out)] at hj⟩⟩)
    clear hcut
    go_wp2_with fail
    go_region_held3 (fun w' => w'.cell? ⟨N, 2, none⟩ = some (.slice (some ⟨gK, 0, none⟩) (d + 1) (d + 1)))
      (first | go_keep | fail)
      ((refine step_copy_fit (by rfl) _ _ 39 39 (by rfl) 40 Try.underlying39 hsz40 (some ⟨gK, d, none⟩) (some ⟨gK, 0, none⟩) 1 1 0 0 (by rfl) (by rfl) gK d K 40 (by exact HC.out.kids) (K.drop (d + 1)) (by have := HKl.out; show _ = min _ _; simp only [List.length_drop]; omega) (fun h => ⟨rfl, HSK.out.2 (by have := HSK.out.1; omega)⟩) (by have := HKl.out; simp; omega) HK1.out ?_; intro w2 hf2; have hN2 := (hf2.fr.block N (by exact lt_of_blk HC.out.node) HNK.out).trans HC.out.node; have c3 : w2.cell? ⟨N, 2, none⟩ = some (.slice (some ⟨gK, 0, none⟩) (d + 1) (d + 1)) := nd_cell hN2 2; have HF2 := (show Hid (_) from And.intro hf2 hN2); clear hf2 hN2))
    have hlK := laid_len K d (K.drop (d + 1)) (by have := HKl.out; simp; omega)
    have cK : w2.cell? ⟨gK, d, none⟩ = some ((laid K d (K.drop (d + 1))).getD d (.pointer none)) := by
      rw [cell_of_row w2 gK d _ 40 (0, 0) HF2.out.1.row]
      have : d < (laid K d (K.drop (d + 1))).length := by rw [hlK, HKl.out]; omega
      simp [List.getD, this]
    have fK := frozen_of_row w2 gK d _ 40 HF2.out.1.row
    have HL := (show Hid (_) from hlK)
    have hn2 : ¬ N = gK := HNK.out
    have hn3 : ¬ gK = N := fun h => hn2 h.symm
    clear hlK
    go_wp2_with fail
    go_region_held3 (fun w' => w'.cell? ⟨N, 2, none⟩ = some (.slice (some ⟨gK, 0, none⟩) (d + 1) (d + 1)))
      (first | go_keep | fail) (fail)
    have f3 := nd_frozen HF2.out.2 2
    go_wp2_with fail
    go_region_law (fail)
    all_goals go_wp2
    all_goals go_end0
    all_goals exact ⟨rfl, drop_fin (by omega) hm HNI.out HNK.out HIK.out HIl.out HKl.out HC.out HF2.out.1 HF2.out.2 rfl rfl rfl rfl⟩

end Go.Proofs.Qxb6602784a
