import Derived.Test.Qxb6602784aBj
import Derived.LaidEqlPtr
namespace Go.Proofs.Qxb6602784a
open Go.RowKit
set_option linter.unusedVariables false
set_option linter.unusedSimpArgs false

theorem run_neq_ptr_same {P : Program} (w : World) {tp te : TypeId} {j : TypeInfo} (a : Addr) (hp : P.underlying tp = some (.pointer te)) (hte : P.info? te = some j) :
    (binOp .neq tp (.pointer (some a)) (.pointer (some a))).run P w = .ok (.bool false) w := by
  have h : ∀ d : Nat, (Op.equalIn (d + 1) tp (.pointer (some a)) (.pointer (some a))).run P w = .ok true w := fun d => by
    simp [Op.equalIn, run_underlying hp, sizeOf, typeInfo, hte, run_sameAddr_same]
  simp only [binOp]
  simp [Op.equal, Op.maxDepth, h 9999]

theorem run_neq_ptr_other {P : Program} (w : World) {tp te : TypeId} {j : TypeInfo} {a b : Addr} {ca cb : Array Value} {ta tb : TypeId} (hp : P.underlying tp = some (.pointer te)) (hte : P.info? te = some j) (hsz : j.size ≠ 0)
    (hne : a ≠ b) (ha : w.heap[a.block]? = some (.cells ca ta (0, 0))) (hb : w.heap[b.block]? = some (.cells cb tb (0, 0))) :
    (binOp .neq tp (.pointer (some a)) (.pointer (some b))).run P w = .ok (.bool true) w := by
  have h : ∀ d : Nat, (Op.equalIn (d + 1) tp (.pointer (some a)) (.pointer (some b))).run P w = .ok false w := fun d => by
    simp [Op.equalIn, run_underlying hp, sizeOf, typeInfo, hte, hsz, run_sameAddr_other w hne ha hb]
  simp only [binOp]
  simp [Op.equal, Op.maxDepth, h 9999]

theorem Try.ptr40 : Try.prog.underlying 40 = some (.pointer 61) := by kernel_rfl
theorem Try.info61 : (Try.prog.info? 61).map (·.size) = some 3 := by kernel_rfl
theorem n40_same (w : World) (a : Addr) : (binOp .neq 40 (.pointer (some a)) (.pointer (some a))).run Try.prog w = .ok (.bool false) w := by
  have h := Try.info61
  cases hi : Try.prog.info? 61 with
  | none => rw [hi] at h; simp at h
  | some j => exact run_neq_ptr_same w a Try.ptr40 hi
theorem e40_same (w : World) (a : Addr) : (binOp .eql 40 (.pointer (some a)) (.pointer (some a))).run Try.prog w = .ok (.bool true) w := by
  have h := Try.info61
  cases hi : Try.prog.info? 61 with
  | none => rw [hi] at h; simp at h
  | some j => exact run_eql_ptr_same w a Try.ptr40 hi
theorem n40_other (w : World) (p q : Nat) (hne : p ≠ q) {ca cb : Array Value} {ta tb : TypeId} (ha : w.heap[p]? = some (.cells ca ta (0, 0))) (hb : w.heap[q]? = some (.cells cb tb (0, 0))) : (binOp .neq 40 (.pointer (some ⟨p, 0, none⟩)) (.pointer (some ⟨q, 0, none⟩))).run Try.prog w = .ok (.bool true) w := by
  have h := Try.info61
  cases hi : Try.prog.info? 61 with
  | none => rw [hi] at h; simp at h
  | some j =>
    rw [hi] at h
    exact run_neq_ptr_other w Try.ptr40 hi (by simp at h; omega) (by simp [hne]) ha hb

/-- samePtrs at two slices that read alike -/
theorem samePtrs_any (w : World) (a1 a2 : Option Addr) (n c1 c2 : Nat) (qs : List Nat) (hn : n ≤ 8388608) (h1 : Rd w a1 n c1 (qs.map pv)) (h2 : Rd w a2 n c2 (qs.map pv)) :
    Calls Try.prog 47 #[.slice a1 n c1, .slice a2 n c2] w fun x w' => x = .returned (.bool true) ∧ ∃ m, w' = w.drewN m := by
  have H1 := (show Hid (_) from h1)
  have H2 := (show Hid (_) from h2)
  have hne := n40_same
  clear h1 h2
  go_enter Try.func47, Try.ntmps47
  go_wp2
  go_loopw [5] (fun i wr => ∃ k m : Nat, k ≤ n ∧ i = .int .i64 k ∧ wr = w.drewN m) (fun i _ => n - (intOf i).toNat)
  case atStart => exact ⟨0, 0, Nat.zero_le _, rfl, rfl⟩
  case round =>
    obtain ⟨k, m, hk, rfl, rfl⟩ := hrel
    by_cases hlt : k < n
    · obtain ⟨b1, o1, rfl, g1⟩ := H1.out.plain (by omega)
      obtain ⟨b2, o2, rfl, g2⟩ := H2.out.plain (by omega)
      have hzl : k < qs.length := by have := H1.out.len; simp at this; omega
      obtain ⟨p, hp⟩ : ∃ p, p = qs[k] := ⟨_, rfl⟩
      have hc1 : w.cell? ⟨b1, o1 + k, none⟩ = some (.pointer (some ⟨p, 0, none⟩)) := by rw [g1 k hlt, hp]; simp [pv, hzl]
      have hc2 : w.cell? ⟨b2, o2 + k, none⟩ = some (.pointer (some ⟨p, 0, none⟩)) := by rw [g2 k hlt, hp]; simp [pv, hzl]
      clear g1 g2 hp
      go_wp2
      go_quiet (fail)
      go_wp2
      go_roundw
      case rel => exact ⟨k + 1, m + nq, by omega, by go_num, rfl⟩
      case measure => simp [intOf]; omega
    · go_wp2
      go_ret
      exact ⟨rfl, m, rfl⟩

theorem Rd.drewN {w : World} {a : Option Addr} {n c : Nat} {vs : List Value} (h : Rd w a n c vs) (m : Nat) : Rd (w.drewN m) a n c vs := ⟨h.len, h.nil, h.cell⟩

theorem innerHolds_true (w : World) (B : Nat) (ep : Int) (ia : Option Addr) (n ic : Nat) (kx : Addr) (kc : Nat) (ia2 : Option Addr) (c2 : Nat) (ka2 : Option Addr) (kc2 : Nat) (zs : List Int) (qs : List Nat) (hn : n ≤ 8388608)
    (h : w.heap[B]? = some (nd ep ia n ic (some kx) n kc)) (h1 : Rd w ia n ic (iv zs)) (h2 : Rd w ia2 n c2 (iv zs)) (h3 : Rd w (some kx) n kc (qs.map pv)) (h4 : Rd w ka2 n kc2 (qs.map pv)) :
    Calls Try.prog 40 #[.pointer (some ⟨B, 0, none⟩), .int .u64 ep, .slice ia2 n c2, .slice ka2 n kc2] w fun x w' => x = .returned (.bool true) ∧ ∃ m, w' = w.drewN m := by
  have r := r39
  have H := (show Hid (_) from h)
  have H1 := (show Hid (_) from h1)
  have H2 := (show Hid (_) from h2)
  have H3 := (show Hid (_) from h3)
  have H4 := (show Hid (_) from h4)
  clear h h1 h2 h3 h4
  go_enter Try.func40, Try.ntmps40
  go_wp2_with fail
  refine (zzEpoch_any w B H.out).mono ?_
  rintro x w' ⟨rfl, hw'⟩
  obtain rfl := hw'.symm
  clear hw'
  go_wp2_with fail
  refine (zzKids_any w B H.out).mono ?_
  rintro x w' ⟨rfl, hw'⟩
  obtain rfl := hw'.symm
  clear hw'
  go_wp2_with fail
  refine (zzIDs_any w B H.out).mono ?_
  rintro x w' ⟨rfl, hw'⟩
  obtain rfl := hw'.symm
  clear hw'
  go_wp2_with fail
  refine (sameInts_any w ia ia2 n ic c2 zs hn H1.out H2.out).mono ?_
  rintro x w' ⟨rfl, m1, rfl⟩
  go_wp2_with fail
  refine (zzKids_any _ B (by exact H.out)).mono ?_
  rintro x w' ⟨rfl, hw'⟩
  obtain rfl := hw'.symm
  clear hw'
  go_wp2_with fail
  refine (samePtrs_any _ (some kx) ka2 n kc kc2 qs hn (H3.out.drewN m1) (H4.out.drewN m1)).mono ?_
  rintro x w' ⟨rfl, m2, rfl⟩
  go_wp2_with fail
  go_ret
  exact ⟨rfl, m1 + m2, rfl⟩

theorem freshNode_true (w : World) (x a b : Nat) {cx ca cb : Array Value} {tx ta tb : TypeId} (ha : x ≠ a) (hb : x ≠ b) (kx : w.heap[x]? = some (.cells cx tx (0, 0))) (ka : w.heap[a]? = some (.cells ca ta (0, 0))) (kb : w.heap[b]? = some (.cells cb tb (0, 0))) :
    Calls Try.prog 36 #[.pointer (some ⟨x, 0, none⟩), .pointer (some ⟨a, 0, none⟩), .pointer (some ⟨b, 0, none⟩)] w fun y w' => y = .returned (.bool true) ∧ w' = w := by
  have q1 := n40_other w x a ha kx ka
  have q2 := n40_other w x b hb kx kb
  clear ha hb kx ka kb
  go_enter Try.func36, Try.ntmps36
  go_wp2
  go_ret
  exact ⟨rfl, rfl⟩

theorem rd_src {w : World} {a : Option Addr} {n c : Nat} {vs : List Value} (h : Rd w a n c vs) : Src w a n vs :=
  ⟨h.len, fun h0 => by
    match a, h with
    | none, h => have := (h.nil rfl).1; omega
    | some x, h => exact ⟨x, rfl, fun j u hj => (h.cell x rfl j (by have := (List.getElem?_eq_some_iff.1 hj).1; have := h.len; omega)).trans hj⟩⟩

theorem concatInts_any (w : World) (al : Option Addr) (nl cl : Nat) (ar : Option Addr) (nr cr : Nat) (L R : List Value) (hl : Rd w al nl cl L) (hr : Rd w ar nr cr R) (oL : ∀ v ∈ L, v.oneCell' = true) (oR : ∀ v ∈ R, v.oneCell' = true) (hn : nl + nr ≤ 1048576) :
    Calls Try.prog 35 #[.slice al nl cl, .slice ar nr cr] w fun x w' => x = .returned (.slice (some ⟨w.heap.size, 0, none⟩) (nl + nr) (nl + nr)) ∧ Below w.heap.size w w' ∧ w'.heap[w.heap.size]? = some (.cells (L ++ R).toArray 2 (0, 0)) := by
  obtain ⟨i0, hi, hz0, hz1, hz2⟩ := info_parts Try.info2
  obtain ⟨MK, hMK⟩ : ∃ MK, MK = Obj.cells (List.replicate (nl + nr) (Value.int .i64 0)).toArray 2 := ⟨_, rfl⟩
  have hmk : ∀ W : World, (Instr.makeSlice 30 (.int .i64 0) (.int .i64 ((nl : Int) + (nr : Int)))).run Try.prog W = .ok (.slice (some ⟨W.heap.size, 0, none⟩) 0 (nl + nr)) (W.alloc MK) := by
    intro W
    have := run_make (P := Try.prog) W 30 2 i0 (.int .i64 0) Try.underlying30 hi hz0 .i64 .i64 0 ((nl : Int) + (nr : Int)) (by omega) (by omega) (by rw [hz2]; omega) (by omega)
    have e1 : ((nl : Int) + (nr : Int)).toNat = nl + nr := by omega
    rw [this, hMK, e1, hz1]
    simp [Value.cells, ← toList_madeCells_one]
  have HMK := (show Hid (_) from hMK)
  have hws : IntKind.i64.wrap ((nl : Int) + (nr : Int)) = (nl : Int) + (nr : Int) := by rw [IntKind.wrap_i64]; omega
  have HL := (show Hid (_) from And.intro (rd_src hl) (And.intro oL hl.nil))
  have HR := (show Hid (_) from And.intro (rd_src hr) (And.intro oR hr.nil))
  clear hMK hl hr oL oR
  have HG0 := (show Hid ((w.alloc MK).heap[w.heap.size]? = some (.cells (List.replicate (nl + nr) (Value.int .i64 0)).toArray 2 (0, 0))) by unfold Hid; rw [heap_alloc_new w MK, HMK.out])
  have HSL := (show Hid (Src (w.alloc MK) al nl L) from HL.out.1.later ((Below.refl _ _).alloc (Nat.le_refl _) _))
  go_enter Try.func35, Try.ntmps35
  go_wp2_with (first
    | (at_builtin
       refine wpList_append_fit (by rfl) (.tmp 12) (.tmp 13) 30 (by rfl) 2 i0 Try.underlying30 hi hz1 w.heap.size 0 (nl + nr) (List.replicate (nl + nr) (.int .i64 0)) (by rfl) al nl cl L (by rfl) (by exact HG0.out) (by simp) (by exact HSL.out) HL.out.2.1 (by omega) (fun h => (HL.out.2.2 h).2) ?_
       intro w1 hf1
       have hb1 : Below w.heap.size w w1 := below_fit hf1 (MK := MK) rfl rfl rfl rfl rfl
       have HS1 := (show Hid (_) from HR.out.1.later hb1)
       have HF1 := (show Hid (_) from And.intro hf1 hb1)
       clear hf1 hb1)
    | (at_builtin
       refine wpList_append_fit (by rfl) (.tmp 15) (.tmp 16) 30 (by rfl) 2 i0 Try.underlying30 hi hz1 w.heap.size nl (nl + nr) (laid (List.replicate (nl + nr) (.int .i64 0)) 0 L) (by rfl) ar nr cr R (by rfl) (by exact HF1.out.1.row) (by rw [laid_len _ _ _ (by have := HL.out.1.1; simp; omega)]; simp) (by exact HS1.out) HR.out.2.1 (by omega) (fun h => (HR.out.2.2 h).2) ?_
       intro w2 hf2
       have HF2 := (show Hid (_) from hf2)
       clear hf2))
  go_ret
  have e0 : w.heap.size < w1.heap.size := lt_of_blk HF1.out.1.row
  refine ⟨by simp, ?_, ?_⟩
  · have f := HF2.out.fr
    have b := HF1.out.2
    exact ⟨f.os.trans b.os, f.tape.trans b.tape, f.output.trans b.output, by have := f.size; have := b.size; omega, fun k hk => (f.block k (by omega) (by omega)).trans (b.block k hk)⟩
  · have h := HF2.out.row
    have e2 := laid_two (nl + nr) (Value.int .i64 0) L R (by rw [HL.out.1.1, HR.out.1.1])
    rw [HL.out.1.1, Nat.zero_add] at e2
    rw [e2] at h
    exact h

theorem concatPtrs_any (w : World) (al : Option Addr) (nl cl : Nat) (ar : Option Addr) (nr cr : Nat) (L R : List Value) (hl : Rd w al nl cl L) (hr : Rd w ar nr cr R) (oL : ∀ v ∈ L, v.oneCell' = true) (oR : ∀ v ∈ R, v.oneCell' = true) (hn : nl + nr ≤ 1048576) :
    Calls Try.prog 41 #[.slice al nl cl, .slice ar nr cr] w fun x w' => x = .returned (.slice (some ⟨w.heap.size, 0, none⟩) (nl + nr) (nl + nr)) ∧ Below w.heap.size w w' ∧ w'.heap[w.heap.size]? = some (.cells (L ++ R).toArray 40 (0, 0)) := by
  obtain ⟨i0, hi, hz0, hz1, hz2⟩ := info_parts Try.info40
  obtain ⟨MK, hMK⟩ : ∃ MK, MK = Obj.cells (List.replicate (nl + nr) (Value.pointer none)).toArray 40 := ⟨_, rfl⟩
  have hmk : ∀ W : World, (Instr.makeSlice 39 (.int .i64 0) (.int .i64 ((nl : Int) + (nr : Int)))).run Try.prog W = .ok (.slice (some ⟨W.heap.size, 0, none⟩) 0 (nl + nr)) (W.alloc MK) := by
    intro W
    have := run_make (P := Try.prog) W 39 40 i0 (.pointer none) Try.underlying39 hi hz0 .i64 .i64 0 ((nl : Int) + (nr : Int)) (by omega) (by omega) (by rw [hz2]; omega) (by omega)
    have e1 : ((nl : Int) + (nr : Int)).toNat = nl + nr := by omega
    rw [this, hMK, e1, hz1]
    simp [Value.cells, ← toList_madeCells_one]
  have HMK := (show Hid (_) from hMK)
  have hws : IntKind.i64.wrap ((nl : Int) + (nr : Int)) = (nl : Int) + (nr : Int) := by rw [IntKind.wrap_i64]; omega
  have HL := (show Hid (_) from And.intro (rd_src hl) (And.intro oL hl.nil))
  have HR := (show Hid (_) from And.intro (rd_src hr) (And.intro oR hr.nil))
  clear hMK hl hr oL oR
  have HG0 := (show Hid ((w.alloc MK).heap[w.heap.size]? = some (.cells (List.replicate (nl + nr) (Value.pointer none)).toArray 40 (0, 0))) by unfold Hid; rw [heap_alloc_new w MK, HMK.out])
  have HSL := (show Hid (Src (w.alloc MK) al nl L) from HL.out.1.later ((Below.refl _ _).alloc (Nat.le_refl _) _))
  go_enter Try.func41, Try.ntmps41
  go_wp2_with (first
    | (at_builtin
       refine wpList_append_fit (by rfl) (.tmp 12) (.tmp 13) 39 (by rfl) 40 i0 Try.underlying39 hi hz1 w.heap.size 0 (nl + nr) (List.replicate (nl + nr) (.pointer none)) (by rfl) al nl cl L (by rfl) (by exact HG0.out) (by simp) (by exact HSL.out) HL.out.2.1 (by omega) (fun h => (HL.out.2.2 h).2) ?_
       intro w1 hf1
       have hb1 : Below w.heap.size w w1 := below_fit hf1 (MK := MK) rfl rfl rfl rfl rfl
       have HS1 := (show Hid (_) from HR.out.1.later hb1)
       have HF1 := (show Hid (_) from And.intro hf1 hb1)
       clear hf1 hb1)
    | (at_builtin
       refine wpList_append_fit (by rfl) (.tmp 15) (.tmp 16) 39 (by rfl) 40 i0 Try.underlying39 hi hz1 w.heap.size nl (nl + nr) (laid (List.replicate (nl + nr) (.pointer none)) 0 L) (by rfl) ar nr cr R (by rfl) (by exact HF1.out.1.row) (by rw [laid_len _ _ _ (by have := HL.out.1.1; simp; omega)]; simp) (by exact HS1.out) HR.out.2.1 (by omega) (fun h => (HR.out.2.2 h).2) ?_
       intro w2 hf2
       have HF2 := (show Hid (_) from hf2)
       clear hf2))
  go_ret
  have e0 : w.heap.size < w1.heap.size := lt_of_blk HF1.out.1.row
  refine ⟨by simp, ?_, ?_⟩
  · have f := HF2.out.fr
    have b := HF1.out.2
    exact ⟨f.os.trans b.os, f.tape.trans b.tape, f.output.trans b.output, by have := f.size; have := b.size; omega, fun k hk => (f.block k (by omega) (by omega)).trans (b.block k hk)⟩
  · have h := HF2.out.row
    have e2 := laid_two (nl + nr) (Value.pointer none) L R (by rw [HL.out.1.1, HR.out.1.1])
    rw [HL.out.1.1, Nat.zero_add] at e2
    rw [e2] at h
    exact h

end Go.Proofs.Qxb6602784a
