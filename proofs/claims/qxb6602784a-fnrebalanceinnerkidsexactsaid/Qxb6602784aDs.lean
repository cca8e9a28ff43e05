import Derived.Test.Qxb6602784aDq
import Derived.Test.Qxb6602784aDk
import Derived.Deep.DeepCutAuto
namespace Go.Proofs.Qxb6602784a
open Go.RowKit
set_option linter.unusedVariables false
set_option linter.unusedSimpArgs false
attribute [local go_sem] Go.wp_at_zero Go.wp_at_succ

variable {a0 : Option Addr} {c0 : Nat} {a1 : Option Addr} {c1 : Nat} {a2 : Option Addr} {c2 : Nat} {a3 : Option Addr} {c3 : Nat} {e : Int} {hs : List (Option Addr × Nat × Nat)} {zss : List (List Int)}
variable {hs3 : List (Option Addr × Nat × Nat)} {hss3 : List (List (Option Addr × Nat × Nat))} {zsss : List (List (List Int))}

theorem Try.info39' : (Try.prog.info? 39).map (fun i => (i.zero, i.size, i.bytes)) = some (some (.slice none 0 0), 1, 24) := by kernel_rfl
theorem Try.und55 : Try.prog.underlying 55 = some (.slice 39) := by kernel_rfl

set_option maxRecDepth 100000 in
set_option maxHeartbeats 3200000 in
theorem inner_main (w : World) (m k : Nat) (bs es : List Int) (r0 : Rd w a0 m c0 (iv bs)) (r1 : Rd w a1 m c1 (uv es)) (r2 : Rd2 w a2 m c2 hs zss) (r3 : Rd3 w a3 m c3 hs3 hss3 zsss) (hm0 : 0 < m) (hm : m ≤ 65536) (hk : k < m) :
    Calls Try.prog 9 #[.slice a0 m c0, .slice a1 m c1, .slice a2 m c2, .slice a3 m c3, .int .u64 e, .int .i64 k] w fun x w' => x = .returned (.bool true) ∧ Below w.heap.size w w' := by
  have H0 := (show Hid (_) from r0)
  have H1 := (show Hid (_) from r1)
  have H2 := (show Hid (_) from r2)
  have H3 := (show Hid (_) from r3)
  have hd0 : ((m : Int) == 0) = false := by simp; omega
  clear r0 r1 r2 r3
  go_enter Try.func9, Try.ntmps9
  go_wp2_with fail
  refine (zz37_any w a0 m c0 a1 m c1 a2 m c2 a3 m c3 e k hs zss H2.out hs3 hss3 zsss H3.out).mono ?_
  rintro x w' ⟨⟨b, rfl⟩, hw'⟩
  obtain rfl := hw'.symm
  clear hw'
  cases b
  · go_wp2_with fail
    go_ret
    exact ⟨rfl, Below.refl _ _⟩
  go_wp2_with fail
  refine (listsBytes_8 _ a2 m c2 hs zss (by omega) H2.out).mono ?_
  rintro x w0 ⟨t, rfl, hw', ht, hl2⟩
  obtain rfl := hw'.symm
  clear hw'
  have HL2 := (show Hid (_) from hl2)
  clear hl2
  go_wp2_with fail
  refine (nestedBytes_any _ a3 m c3 hs3 hss3 zsss (by omega) H3.out).mono ?_
  rintro x w0 ⟨t3, rfl, hw', ht3, hl3⟩
  obtain rfl := hw'.symm
  clear hw'
  have HL3 := (show Hid (_) from hl3)
  clear hl3
  by_cases hbig : 8 * m + 8 * m + t + t3 ≤ 1048576
  rotate_left
  · go_wp2_with fail
    go_ret
    exact ⟨rfl, Below.refl _ _⟩
  have HZ2 := (show Hid (∀ zs ∈ zss, zs.length ≤ 131072) from HL2.out (by omega))
  have HZ3 := (show Hid (∀ zz ∈ zsss, zz.length ≤ 1048576 ∧ ∀ zs ∈ zz, zs.length ≤ 1048576) from HL3.out (by omega))
  clear HL2 HL3
  go_wp2_with fail
  go_loopw [14] (fun i wr => ∃ i' d : Nat, i' ≤ m ∧ i = .int .i64 i' ∧ wr = w.drewN d ∧ ∀ j zs zz, j < i' → zss[j]? = some zs → zsss[j]? = some zz → zz.length = zs.length) (fun i _ => m - (intOf i).toNat)
  case atStart => exact ⟨0, 0, Nat.zero_le _, rfl, rfl, fun j zs zz hj => by omega⟩
  case round =>
    obtain ⟨i, d, hi, rfl, rfl, hall⟩ := hrel
    have HA := (show Hid (_) from hall)
    clear hall
    by_cases hlt : i < m
    · obtain ⟨b, off, ha, hn1, hc1, zs, rfl, hcell, hzs, hln, hrest⟩ := H2.out.at hlt
      obtain ⟨b', off', ha', hn1', hc1', hh', zz, rfl, hcell', hzz, hrest'⟩ := H3.out.at hlt
      have hln' := hrest'.len
      have HZ := (show Hid (_) from And.intro hzs (And.intro hln (And.intro hzz hln')))
      clear hrest hrest' hzs hln hzz hln'
      by_cases hq : hn1 = hn1'
      · have q1 : ((hn1 : Int) != (hn1' : Int)) = false := by simp; omega
        have HQ := (show Hid (_) from hq)
        clear hq
        go_wp2_with fail
        go_quiet (fail)
        go_wp2_with fail
        go_roundw
        case rel =>
          refine ⟨i + 1, d + nq, by omega, by go_num, rfl, fun j zs' zz' hj h1 h2 => ?_⟩
          by_cases ej : j = i
          · subst ej
            rw [HZ.out.1] at h1
            rw [HZ.out.2.2.1] at h2
            obtain rfl := Option.some.inj h1
            obtain rfl := Option.some.inj h2
            have e1 := HQ.out
            have e2 := HZ.out.2.1
            have e3 := HZ.out.2.2.2
            omega
          · exact HA.out j zs' zz' (by omega) h1 h2
        case measure => simp [intOf]; omega
      · have q1 : ((hn1 : Int) != (hn1' : Int)) = true := by simp; omega
        clear hq
        go_wp2_with fail
        go_quiet (fail)
        go_wp2_with fail
        go_ret
        exact ⟨rfl, below_drewN (below_drewN (Below.refl _ _) _) _⟩
    · have HLEN := (show Hid (∀ (j : Nat) (zs : List Int) (zz : List (List Int)), zss[j]? = some zs → zsss[j]? = some zz → zz.length = zs.length) from fun j zs zz h1 h2 => HA.out j zs zz (by have := (List.getElem?_eq_some_iff.1 h1).1; have := H2.out.len; omega) h1 h2)
      obtain ⟨wd, hwd⟩ : ∃ wd, wd = w.drewN d := ⟨_, rfl⟩
      have HWD := (show Hid (Below w.heap.size w wd) from by unfold Hid; rw [hwd]; exact below_drewN (Below.refl _ _) _)
      rw [← hwd]
      obtain ⟨i0, hi0, hz0, hz1, hz2⟩ := info_parts Try.info40
      obtain ⟨i9, hi9, hx0, hx1, hx2⟩ := info_parts Try.info39'
      obtain ⟨M1, hM1⟩ : ∃ M1, M1 = Obj.cells (List.replicate m (Value.slice none 0 0)).toArray 39 := ⟨_, rfl⟩
      obtain ⟨M2, hM2⟩ : ∃ M2, M2 = Obj.cells (List.replicate m (Value.pointer none)).toArray 40 := ⟨_, rfl⟩
      have hmk1 : ∀ W : World, (Instr.makeSlice 55 (.int .i64 m) (.int .i64 m)).run Try.prog W = .ok (.slice (some ⟨W.heap.size, 0, none⟩) m m) (W.alloc M1) := by
        intro W
        have := run_make (P := Try.prog) W 55 39 i9 (.slice none 0 0) Try.und55 hi9 hx0 .i64 .i64 m m (by omega) (Int.le_refl _) (by rw [hx2]; omega) (by omega)
        rw [this, hM1, hx1]
        simp [Value.cells, ← toList_madeCells_one]
      have hmk2 : ∀ W : World, (Instr.makeSlice 39 (.int .i64 m) (.int .i64 m)).run Try.prog W = .ok (.slice (some ⟨W.heap.size, 0, none⟩) m m) (W.alloc M2) := by
        intro W
        have := run_make (P := Try.prog) W 39 40 i0 (.pointer none) Try.underlying39 hi0 hz0 .i64 .i64 m m (by omega) (Int.le_refl _) (by rw [hz2]; omega) (by omega)
        rw [this, hM2, hz1]
        simp [Value.cells, ← toList_madeCells_one]
      have HMK := (show Hid (_) from And.intro hM1 hM2)
      have HBL := (show Hid (bs.length = m) from by have := H0.out.len; rw [iv_len] at this; exact this)
      have HEL := (show Hid (es.length = m) from by have := H1.out.len; rw [uv_len] at this; exact this)
      have HZL := (show Hid (zss.length = m) from H2.out.len)
      have HGL := (show Hid (zsss.length = m) from H3.out.len)
      have H0d := (show Hid (_) from H0.out.later HWD.out)
      have H1d := (show Hid (_) from H1.out.later HWD.out)
      have H2d := (show Hid (_) from H2.out.later HWD.out)
      have H3d := (show Hid (_) from H3.out.later HWD.out)
      clear HA hM1 hM2 H0 H1 H2 H3 hwd
      go_wp2_with fail
      refine (cloneInts_any a0 m c0 (iv bs) (iv_one _) (by omega) _ H0d.out).mono ?_
      rintro x w1 ⟨b0, rfl, _, hb1, hc0⟩
      obtain ⟨g0, rfl, l0, u0, k0⟩ := hc0.get (by rw [iv_len]; have := HBL.out; omega)
      have HB1 := (show Hid (_) from And.intro hb1 (And.intro l0 (And.intro u0 k0)))
      clear hc0 l0 u0 k0 hb1
      go_wp2_with fail
      refine (cloneU_any a1 m c1 (uv es) (uv_one _) (by omega) _ (H1d.out.later HB1.out.1)).mono ?_
      rintro x w2 ⟨b2, rfl, _, hb2, hc2⟩
      obtain ⟨g2, rfl, l2, u2, k2⟩ := hc2.get (by rw [uv_len]; have := HEL.out; omega)
      have HB2 := (show Hid (_) from And.intro hb2 (And.intro l2 (And.intro u2 k2)))
      clear hc2 l2 u2 k2 hb2
      go_wp2_with fail
      refine (cloneLists_any a2 m c2 hs zss (by omega) (fun zs hz => by have := HZ2.out zs hz; omega) _ ((H2d.out.later HB1.out.1).later HB2.out.1)).mono ?_
      rintro x w3 ⟨b1, ads, rfl, _, hb3, hc1⟩
      obtain ⟨g1, rfl, l1, u1, k1⟩ := hc1.top.get (by rw [hz_len _ _ hc1.len]; have := HZL.out; omega)
      have HB3 := (show Hid (_) from And.intro hb3 (And.intro l1 (And.intro u1 (And.intro k1 hc1))))
      clear hc1 l1 u1 k1 hb3
      go_wp2_with fail
      refine (cloneNested_pos a3 m c3 hs3 hss3 zsss hm0 (by omega) HZ3.out _ (((H3d.out.later HB1.out.1).later HB2.out.1).later HB3.out.1)).mono ?_
      rintro x w4 ⟨rfl, hs4, hss4, hb4, hr4⟩
      have HCL := (show Hid (_) from cl_of2 HB1.out HB2.out HB3.out hb4)
      have HW4 := (show Hid (Below w.heap.size w w4) from by
        have e0 := HWD.out.size
        have e1 := HB1.out.1.size
        have e2 := HB2.out.1.size
        have e3 := HB3.out.1.size
        exact (((HWD.out.trans (HB1.out.1.mono (by omega))).trans (HB2.out.1.mono (by omega))).trans (HB3.out.1.mono (by omega))).trans (hb4.mono (by omega)))
      obtain ⟨gG, hgG⟩ : ∃ gG, gG = w3.heap.size := ⟨_, rfl⟩
      rw [← hgG] at hr4 ⊢
      have hgG4 : gG < w4.heap.size := by
        obtain ⟨b, off, ha, hn, hc, hh, zz, e, hcell, _⟩ := hr4.at hm0
        obtain ⟨rfl, rfl⟩ : gG = b ∧ 0 = off := by simpa using e
        exact World.block_lt_of_cell? _ _ hcell
      have HR4 := (show Hid (_) from hr4)
      clear hb4 hr4 HB1 HB2 HB3 H0d H1d H2d H3d hgG HWD
      go_wp2_with fail
      go_loopw [17] (fun i wr => ∃ (i' : Nat) (K : List (Nat × Nat × List Nat)), i = .int .i64 i' ∧ KB3 w4 wr m i' es zss K) (fun i _ => m - (intOf i).toNat)
      case atStart => exact ⟨0, [], rfl, KB3.init HMK.out.1 HMK.out.2⟩
      case round =>
        obtain ⟨i2, K, rfl, hKB⟩ := hrel
        obtain ⟨wo, hwo⟩ : ∃ wo, wo = wr := ⟨_, rfl⟩
        obtain rfl := hwo
        by_cases hlt2 : i2 < m
        · have hCr := HCL.out.later hKB.below (Nat.le_refl _)
          obtain ⟨ev, x, zs, hzs, hev, ce, cx, hrd, _⟩ := hCr.at HZL.out HEL.out hlt2
          obtain ⟨b, off, ha, n, hcc, hh, zz, he, hcell, hzz, hr2⟩ := (HR4.out.later hKB.below).at hlt2
          obtain ⟨rfl, rfl⟩ : gG = b ∧ 0 = off := by simpa using he
          rw [Nat.zero_add] at hcell
          clear he
          have hzl : n ≤ 131072 := by have h1 := HLEN.out i2 zs zz hzs hzz; have h2 := HZ2.out zs (List.mem_of_getElem? hzs); have h3 := hr2.len; omega
          have hnz : n = zs.length := by have h1 := HLEN.out i2 zs zz hzs hzz; have h3 := hr2.len; omega
          rw [← hnz] at cx hrd
          obtain ⟨MN, hMN⟩ : ∃ MN, MN = Obj.cells (List.replicate n (Value.pointer none)).toArray 40 := ⟨_, rfl⟩
          have hmkn : ∀ W : World, (Instr.makeSlice 39 (.int .i64 n) (.int .i64 n)).run Try.prog W = .ok (.slice (some ⟨W.heap.size, 0, none⟩) n n) (W.alloc MN) := by
            intro W
            have := run_make (P := Try.prog) W 39 40 i0 (.pointer none) Try.underlying39 hi0 hz0 .i64 .i64 n n (by omega) (Int.le_refl _) (by rw [hz2]; omega) (by omega)
            rw [this, hMN, hz1]
            simp [Value.cells, ← toList_madeCells_one]
          have HMN := (show Hid (_) from hMN)
          have HZZ := (show Hid (∀ zs ∈ zz, zs.length ≤ 1048576) from (HZ3.out zz (List.mem_of_getElem? hzz)).2)
          have HKB := (show Hid (_) from And.intro hKB (And.intro hzs (And.intro hnz hev)))
          have HR2 := (show Hid (_) from hr2)
          have HRD := (show Hid (_) from hrd)
          have bi : (i2 : Int) < (m : Int) := by omega
          have bi0 : (0 : Int) ≤ (i2 : Int) := by omega
          have HCE := (show Hid (_) from And.intro ce cx)
          clear hKB hzs hev hrd hCr hnz hMN hr2 hzz ce cx
          go_wp2_with fail
          go_loopw [19] (fun i wr => ∃ (t' : Nat) (qs : List Nat), i = .int .i64 t' ∧ LB wo wr n t' qs) (fun i _ => n - (intOf i).toNat)
          case atStart => exact ⟨0, [], rfl, LB.init HMN.out⟩
          case round =>
            obtain ⟨t', qs, rfl, hLB⟩ := hrel
            have hcr : wr.cell? ⟨gG, i2, none⟩ = some (.slice ha n hcc) := cell_later hLB.below hcell
            by_cases hlt3 : t' < n
            · obtain ⟨b5, o5, ha5, n5, c5, zs5, rfl, hcell5, hzs5, hln5, hrd5⟩ := (HR2.out.later hLB.below).at hlt3
              have hz5 : n5 ≤ 1048576 := by have := HZZ.out zs5 (List.mem_of_getElem? hzs5); omega
              have HLB := (show Hid (_) from hLB)
              have HR5 := (show Hid (_) from hrd5)
              have bt : (t' : Int) < (n : Int) := by omega
              clear hLB hzs5 hln5 hrd5
              go_wp2_with (first
                | (go_at_call 24
                   refine (cloneInts_any ha5 n5 c5 (iv zs5) (iv_one _) hz5 _ HR5.out).mono ?_
                   rintro e' w5 ⟨x5, rfl, _, hb5, hc5⟩
                   have hk5 : wo.heap.size < w5.heap.size := Nat.lt_of_lt_of_le (lt_of_blk HLB.out.row) hb5.size
                   obtain ⟨ck, fk⟩ := HLB.out.cell hlt3 hb5
                   have HB5 := (show Hid (_) from hb5)
                   clear hb5 hc5)
                | (go_at_call 27
                   refine (newLeaf_any _ _ _ _ _).mono ?_
                   rintro e' w6 ⟨rfl, rfl⟩))
              go_roundw
              case rel => exact ⟨t' + 1, _, by go_num, HLB.out.step hlt3 HB5.out⟩
              case measure => simp [intOf]; omega
            · obtain ⟨w6, hw6⟩ : ∃ w6, w6 = wr := ⟨_, rfl⟩
              obtain rfl := hw6
              obtain rfl : t' = n := by have := hLB.le; omega
              have HLB := (show Hid (_) from hLB)
              have hrg : Rd w6 (some ⟨wo.heap.size, 0, none⟩) t' t' (qs.map pv) := rd_row hLB.whole (by simp [hLB.len])
              have HRG := (show Hid (_) from hrg)
              clear hLB hrg
              go_wp2_with (first
                | (go_at_call 28
                   refine (clonePtrs_any (some ⟨wo.heap.size, 0, none⟩) t' t' (qs.map pv) (pv_one _) (by omega) _ HRG.out).mono ?_
                   rintro e' w7 ⟨rfl, hb7, hc7⟩
                   have hb67 : Below wo.heap.size wo w7 := HLB.out.below.trans (hb7.mono HLB.out.below.size)
                   obtain ⟨cg, fg⟩ := HKB.out.1.gcell hlt2 hb67
                   have HB7 := (show Hid (_) from And.intro hb7 hc7)
                   clear hb7 hc7 hb67))
              have hb8 : Below w4.heap.size w4 (w7.setCell ⟨w4.heap.size, i2, none⟩ (.slice (some ⟨w6.heap.size, 0, none⟩) t' t')) := by
                have e1 := HKB.out.1.below.size
                have e2 := HLB.out.below.size
                exact ((HKB.out.1.below.trans (HLB.out.below.mono e1)).trans (HB7.out.1.mono (by omega))).setCell (Nat.le_refl _) _
              generalize hW8 : w7.setCell ⟨w4.heap.size, i2, none⟩ (.slice (some ⟨w6.heap.size, 0, none⟩) t' t') = w8 at hb8 ⊢
              obtain ⟨ev', x', zs', hzs', hev', ce, cx, hrd, _⟩ := (HCL.out.later hb8 (Nat.le_refl _)).at HZL.out HEL.out hlt2
              obtain rfl : ev' = ev := by have h1 := HKB.out.2.2.2; rw [hev'] at h1; exact Option.some.inj h1
              obtain rfl : zs' = zs := by have h1 := HKB.out.2.1; rw [hzs'] at h1; exact Option.some.inj h1
              rw [← HKB.out.2.2.1] at cx hrd
              have HRD8 := (show Hid (_) from hrd)
              have HW8 := (show Hid (_) from hW8)
              clear hW8 hb8 hzs' hev' hrd cg fg hcr hcell HRD HRG
              go_region_held3 (fun w' => w'.cell? ⟨g2, i2, none⟩ = some (.int .u64 ev') ∧ w'.cell? ⟨g1, i2, none⟩ = some (.slice x' t' t'))
                (first | go_keep | fail)
                ((first
                  | (go_at_call 24
                     refine (cloneInts_any x' t' t' (iv zs') (iv_one _) (by omega) _ (by exact ⟨HRD8.out.len, HRD8.out.nil, HRD8.out.cell⟩)).mono ?_
                     rintro e' w9 ⟨x9, rfl, _, hb9', hc9⟩
                     have hb9 : Below w8.heap.size w8 w9 := ⟨hb9'.os, hb9'.tape, hb9'.output, hb9'.size, hb9'.block⟩
                     have ce9 := cell_later hb9 ce
                     have cx9 := cell_later hb9 cx
                     have hs8 : w8.heap.size = w7.heap.size := by rw [← HW8.out]; simp
                     have hRnd : Rnd w4 wo w6 w7 w9 m i2 t' zs' qs x9 := ⟨HLB.out, HB7.out.1, HB7.out.2, by rw [HW8.out, ← hs8]; exact hb9, by rw [← hs8]; exact hc9⟩
                     have hkr := HKB.out.1.kcell hlt2 hRnd
                     have ck : w9.cell? ⟨w4.heap.size + 1, i2, none⟩ = some (.pointer none) := by rw [cell_of_row w9 _ i2 _ 40 (0, 0) hkr, List.getElem?_toArray]; exact rep_at _ _ m i2 hlt2 (by simp [HKB.out.1.len])
                     have fk := frozen_of_row w9 (w4.heap.size + 1) i2 _ 40 hkr
                     have kk : w4.heap.size + 1 < w9.heap.size := lt_of_blk hkr
                     have d1 : ¬ g1 = w4.heap.size + 1 := by have := HCL.out.r1.2; omega
                     have d2 : ¬ g2 = w4.heap.size + 1 := by have := HCL.out.r2.2; omega
                     have d3 : ¬ w4.heap.size + 1 = g1 := fun h => d1 h.symm
                     have d4 : ¬ w4.heap.size + 1 = g2 := fun h => d2 h.symm
                     have HRN := (show Hid (_) from hRnd)
                     clear hb9 hc9 hb9' hRnd hkr)
                  | (go_at_call 29
                     refine (newInner_any _ _ _ _ _ _ _ _).mono ?_
                     rintro e' w10 ⟨rfl, rfl⟩)
                  | fail))
              go_wp2_with fail
              go_roundw
              case rel => exact ⟨i2 + 1, _, by go_num, HKB.out.1.step hlt2 HRN.out HKB.out.2.1 HKB.out.2.2.2 HKB.out.2.2.1⟩
              case measure => simp [intOf]; omega
        · obtain rfl : i2 = m := by have := hKB.le; omega
          have HKB := (show Hid (_) from hKB)
          have hro : Rd wo (some ⟨w4.heap.size + 1, 0, none⟩) i2 i2 (K.map kp) := by
            have hrow := hKB.row
            rw [Nat.sub_self, List.replicate_zero, List.append_nil] at hrow
            exact rd_row hrow (by simp [hKB.len])
          have HRO := (show Hid (_) from hro)
          clear hKB hro
          go_wp2_with fail
          refine (clonePtrs_any (some ⟨w4.heap.size + 1, 0, none⟩) i2 i2 (K.map kp) (by rw [kp_map]; exact pv_one _) (by omega) _ HRO.out).mono ?_
          rintro x w5 ⟨rfl, hb5, hc5⟩
          have HB5 := (show Hid (_) from And.intro hb5 hc5)
          clear hb5 hc5
          go_wp2_with fail
          refine (cloneInts_any (some ⟨g0, 0, none⟩) i2 i2 (iv bs) (iv_one _) (by omega) _ (((HCL.out.later HKB.out.below (Nat.le_refl _)).later HB5.out.1 HKB.out.below.size).bounds HBL.out)).mono ?_
          rintro x w6 ⟨x6, rfl, _, hb6, hc6⟩
          obtain ⟨gI, rfl, l6, u6, k6⟩ := hc6.get (by rw [iv_len]; have := HBL.out; omega)
          have HB6 := (show Hid (_) from And.intro hb6 (And.intro l6 (And.intro u6 k6)))
          clear hc6 l6 u6 k6 hb6
          go_wp2_with fail
          refine (newInner_any _ _ _ _ _ _ _ _).mono ?_
          rintro x w7 ⟨rfl, hw7⟩
          obtain ⟨hSt, hPar⟩ := st_of (e := e) HCL.out HKB.out HBL.out HEL.out HZL.out HB5.out.1 HB5.out.2 HB6.out.1 HB6.out.2.1 HB6.out.2.2.2 hw7
          have hlow := lt_of_blk HKB.out.row
          have hb47 : Below w4.heap.size w4 w7 := by
            have e1 := HKB.out.below.size
            have e2 := HB5.out.1.size
            have e3 := HB6.out.1.size
            rw [hw7]
            exact ((HKB.out.below.trans (HB5.out.1.mono e1)).trans (HB6.out.1.mono (by omega))).alloc (by omega) _
          have f5 : wo.heap.size < gI := by have h1 := lt_of_blk HB5.out.2; have h2 := HB6.out.2.1; omega
          have f6 : gI < w6.heap.size := HB6.out.2.2.1
          obtain ⟨N, hN⟩ : ∃ N, N = w6.heap.size := ⟨_, rfl⟩
          obtain ⟨gO, hgO⟩ : ∃ gO, gO = wo.heap.size := ⟨_, rfl⟩
          obtain ⟨gK, hgK⟩ : ∃ gK, gK = w4.heap.size + 1 := ⟨_, rfl⟩
          obtain ⟨GP, hGP⟩ : ∃ GP, GP = w4.heap.size := ⟨_, rfl⟩
          rw [← hN, ← hgO, ← hgK, ← hGP]
          rw [← hN, ← hgK] at hPar
          have HSP := (show Hid (_) from And.intro hSt (And.intro hPar (And.intro hN (And.intro hgO (And.intro hgK (And.intro hGP (And.intro hlow (And.intro f5 (And.intro f6 hb47)))))))))
          clear hSt hPar hw7 hN hgO hgK hGP hlow f5 f6 hb47
          go_wp2_with fail
          refine (rb30 (rb_all (GP := GP) (gO := gO) N e gI gK k (by rw [HSP.out.2.2.2.2.2.1, HSP.out.2.2.2.1]; exact HSP.out.1) HSP.out.2.1 hm0 hm hk HZ2.out (by have := HSP.out.2.2.2.2.2.1; omega) (by have h1 := HSP.out.2.2.2.2.2.1; have h2 := HSP.out.2.2.2.2.1; omega) (by have h2 := HSP.out.2.2.2.2.1; omega) (by have h2 := HSP.out.2.2.2.1; omega) (by have h1 := HSP.out.2.2.2.1; have h2 := HSP.out.2.2.2.2.2.2.2.1; omega) (by have h1 := HSP.out.2.2.1; have h2 := HSP.out.2.2.2.2.2.2.2.2.1; omega) (by have h2 := HSP.out.2.2.2.2.2.2.1; omega))).mono ?_
          rintro x w8 ⟨rfl, m', hm', hnode, hSt8, hfr8, hout⟩
          have hb8 : Below w.heap.size w w8 := by
            have e1 := HSP.out.2.2.1
            have e2 := HSP.out.2.2.2.1
            have e3 := HSP.out.2.2.2.2.1
            have e4 := HSP.out.2.2.2.2.2.2.1
            have e5 := HSP.out.2.2.2.2.2.2.2.1
            have e6 := HSP.out.2.2.2.2.2.2.2.2.1
            have b47 := HSP.out.2.2.2.2.2.2.2.2.2
            have e7 := b47.size
            exact HW4.out.trans ((b47.trans (hfr8.below e7 (fun k hk => by omega))).mono HW4.out.size)
          dsimp only
          iterate 4 go_step
          exact (tail17 hm0 hm hk hSt8 hb8 HZ2.out hm' hnode hout _ _ _ _ _ _ _ _ _ _ _ _ _ _ _ _ _ _ _ _ _ _ _ _ _ _ _ _ _ _ _ _ _ _ _ _ _ _ _ _ _ _ _ _ _ _ _ _ _ _ _ _ _ _ _ _ _ _ _ _ _ _ _ _ _ _ _ _ _ _ _ _ _ _ _ _ _ _ _ _ _ _ _ _ _ _ _ _ _ _ _ _ _ _ _ _ _ _ _ _ _ _ _ _ _ _ _ _ _ _ _ _ _ _ _ _ _ _ _ _ _ _ _ _ _ _ _ _ _ _ _ _ _ _ _ _ _ _ _ _ _ _ _ _ _ _ _ _ _ _ _ _ _ _ _ _ _ _ _ _ _ _ _ _ _ _ _ _ _ _ _ _ _ _ _ _ _ _ _ _ _ _ _ _ _ _ _ _ _ _ _ _ _ _ _ _ _ _ _ _ _ _ _ _ _ _ _ _ _ _ _ _ _ _ _ _ _ _ _ _ _ _ _ _ _ _ _ _ _ _ _ _ _ _ _ _ _ _ _ _ _ _ _ _ _ _ _ _ _ _ _ _ _ _ _ _ _ _ _ _ _ _ _ _ _ _ _ _ _ _ _ _ _ _ _ _ _ _ _ _ _ _ _ _ _ _ _ _ _ _ _ _ _ _ _ _ _ _ _ _ _ _ _ _ _ _ _ _ _ _ _ _ _ _ _ _ _ _ _ _ _ _ _ _ _ _ _ _ _ _ _ _ _ _ _ _ _ _ _ _ _ _ _ _ _ _ _ _ _ _ _ _ _ _ _ _ _ _ _ _ _ _ _ _ _ _ _ _ _ _ _ _ _ _ _ _ _ _ _ _ _ _ _ _ _ _ _ _ _ _ _ _ _ _ _ _ _ _ _ _ _ _ _ _ _ _ _ _ _ _ _ _ _ _ _ _ _ _ _ _ _ _ _ _ _ _ _ _ _ _ _ _ _ _ _ _ _ _ _ _ _ _ _ _ _ _ _ _ _ _ _ _ _ _ _ _ _ _ _ _ _ _ _ _ _ _ _) _ rfl

end Go.Proofs.Qxb6602784a
