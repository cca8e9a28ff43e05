import Derived.Test.Qxb6602784aBm
import Derived.Deep.DeepCutAuto
namespace Go.Proofs.Qxb6602784a
open Go.RowKit
set_option linter.unusedVariables false
set_option linter.unusedSimpArgs false
attribute [local go_sem] Go.wp_at_zero Go.wp_at_succ

variable {a0 : Option Addr} {c0 : Nat} {a1 : Option Addr} {c1 : Nat} {a2 : Option Addr} {c2 : Nat} {e : Int} {hs : List (Option Addr × Nat × Nat)} {zss : List (List Int)}

set_option maxRecDepth 100000 in
set_option maxHeartbeats 3200000 in
theorem fill_main (w : World) (m k : Nat) (bs es : List Int) (r0 : Rd w a0 m c0 (iv bs)) (r1 : Rd2 w a1 m c1 hs zss) (r2 : Rd w a2 m c2 (uv es)) (hm2 : 2 ≤ m) (hm : m ≤ 65536) (hk : k < m) :
    Calls Try.prog 10 #[.slice a0 m c0, .slice a1 m c1, .slice a2 m c2, .int .u64 e, .int .i64 k] w fun x w' => x = .returned (.bool true) ∧ Below w.heap.size w w' := by
  have H1 := (show Hid (_) from r1)
  have H0 := (show Hid (_) from r0)
  have H2 := (show Hid (_) from r2)
  clear r0 r1 r2
  go_enter Try.func10, Try.ntmps10
  go_wp2_with fail
  refine (zz42_any w a0 m c0 a1 m c1 a2 m c2 e k hs zss H1.out).mono ?_
  rintro x w' ⟨⟨b, rfl⟩, hw'⟩
  obtain rfl := hw'.symm
  clear hw'
  cases b
  · go_wp2_with fail
    go_ret
    exact ⟨rfl, Below.refl _ _⟩
  go_wp2_with fail
  refine (listsBytes_any _ a1 m c1 hs zss (by omega) H1.out).mono ?_
  rintro x w0 ⟨t, rfl, hw', ht, _⟩
  obtain rfl := hw'.symm
  clear hw'
  by_cases hbig : 8 * m + 8 * m + t ≤ 1048576
  rotate_left
  · go_wp2_with fail
    go_ret
    exact ⟨rfl, Below.refl _ _⟩
  go_wp2_with fail
  go_loop [12] (fun i => ∃ i' : Nat, i' ≤ m ∧ i = .int .i64 i' ∧ ∀ j zs, j < i' → zss[j]? = some zs → szAt k j zs) (fun i => m - (intOf i).toNat)
  case atStart => exact ⟨0, Nat.zero_le _, rfl, fun j zs hj => by omega⟩
  case round =>
    obtain ⟨i, hi, rfl, hall⟩ := hrel
    have HA := (show Hid (_) from hall)
    clear hall
    by_cases hlt : i < m
    · obtain ⟨b, off, ha, hn1, hc1, zs, rfl, hcell, hzs, hln, hrest⟩ := H1.out.at hlt
      have HZ := (show Hid (_) from And.intro hzs hln)
      clear hrest hzs hln
      have next : szAt k i zs → ∀ j zs', j < i + 1 → zss[j]? = some zs' → szAt k j zs' := by
        intro h j zs' hj hj'
        by_cases ej : j = i
        · subst ej
          rw [HZ.out.1] at hj'
          obtain rfl := Option.some.inj hj'
          exact h
        · exact HA.out j zs' (by omega) hj'
      have HN := (show Hid (_) from next)
      clear next
      by_cases hik : i = k
      · have q1 : ((i : Int) == (k : Int)) = true := by rw [hik]; simp
        have HK := (show Hid (_) from hik)
        clear hik
        by_cases s1 : hn1 < 1
        · go_wp2_with fail
          go_ret
          exact ⟨rfl, Below.refl _ _⟩
        · by_cases s2 : 16 ≤ hn1
          · go_wp2_with fail
            go_ret
            exact ⟨rfl, Below.refl _ _⟩
          · go_wp2_with fail
            go_round
            case rel => exact ⟨i + 1, by omega, by go_num, HN.out (by unfold szAt; rw [if_pos HK.out]; have := HZ.out.2; omega)⟩
            case measure => simp [intOf]; omega
      · have q1 : ((i : Int) == (k : Int)) = false := by simp; omega
        have HK := (show Hid (_) from hik)
        clear hik
        by_cases s1 : hn1 < 16
        · go_wp2_with fail
          go_ret
          exact ⟨rfl, Below.refl _ _⟩
        · by_cases s2 : 64 < hn1
          · go_wp2_with fail
            go_ret
            exact ⟨rfl, Below.refl _ _⟩
          · go_wp2_with fail
            go_round
            case rel => exact ⟨i + 1, by omega, by go_num, HN.out (by unfold szAt okSz; rw [if_neg HK.out]; have := HZ.out.2; omega)⟩
            case measure => simp [intOf]; omega
    · have HSZ := (show Hid (∀ (j : Nat) (zs : List Int), zss[j]? = some zs → szAt k j zs) from fun j zs hj => HA.out j zs (by have := (List.getElem?_eq_some_iff.1 hj).1; have := H1.out.len; omega) hj)
      have HLL := (show Hid (∀ zs ∈ zss, zs.length ≤ 1048576) from fun zs hz => by
        obtain ⟨j, hj⟩ := List.getElem?_of_mem hz
        have := HSZ.out j zs hj
        unfold szAt okSz at this
        split at this <;> omega)
      obtain ⟨i0, hi0, hz0, hz1, hz2⟩ := info_parts Try.info40
      obtain ⟨MK, hMK⟩ : ∃ MK, MK = Obj.cells (List.replicate m (Value.pointer none)).toArray 40 := ⟨_, rfl⟩
      have hmk : ∀ W : World, (Instr.makeSlice 39 (.int .i64 m) (.int .i64 m)).run Try.prog W = .ok (.slice (some ⟨W.heap.size, 0, none⟩) m m) (W.alloc MK) := by
        intro W
        have := run_make (P := Try.prog) W 39 40 i0 (.pointer none) Try.underlying39 hi0 hz0 .i64 .i64 m m (by omega) (Int.le_refl _) (by rw [hz2]; omega) (by omega)
        rw [this, hMK, hz1]
        simp [Value.cells, ← toList_madeCells_one]
      have HMK := (show Hid (_) from hMK)
      have HBL := (show Hid (bs.length = m) from by have := H0.out.len; rw [iv_len] at this; exact this)
      have HEL := (show Hid (es.length = m) from by have := H2.out.len; rw [uv_len] at this; exact this)
      clear HA hMK hi0 hz0 hz1 hz2
      go_wp2_with fail
      refine (cloneInts_any a0 m c0 (iv bs) (iv_one _) (by omega) _ H0.out).mono ?_
      rintro x w1 ⟨b0, rfl, _, hb1, hc0⟩
      obtain ⟨g0, rfl, l0, u0, k0⟩ := hc0.get (by rw [iv_len]; have := HBL.out; omega)
      have HB1 := (show Hid (_) from And.intro hb1 (And.intro l0 (And.intro u0 k0)))
      clear hc0 l0 u0 k0 hb1
      go_wp2_with fail
      refine (cloneLists_any a1 m c1 hs zss (by omega) HLL.out _ (H1.out.later HB1.out.1)).mono ?_
      rintro x w2 ⟨b1, ads, rfl, _, hb2, hc1⟩
      obtain ⟨g1, rfl, l1, u1, k1⟩ := hc1.top.get (by rw [hz_len _ _ hc1.len]; have := H1.out.len; omega)
      have HB2 := (show Hid (_) from And.intro hb2 (And.intro l1 (And.intro u1 (And.intro k1 hc1))))
      clear hc1 l1 u1 k1 hb2
      go_wp2_with fail
      refine (cloneU_any a2 m c2 (uv es) (uv_one _) (by omega) _ ((H2.out.later HB1.out.1).later HB2.out.1)).mono ?_
      rintro x w3 ⟨b2, rfl, _, hb3, hc2⟩
      obtain ⟨g2, rfl, l2, u2, k2⟩ := hc2.get (by rw [uv_len]; have := HEL.out; omega)
      have HB3 := (show Hid (_) from And.intro hb3 (And.intro l2 (And.intro u2 k2)))
      have HCL := (show Hid (_) from cl_of HB1.out HB2.out (And.intro hb3 (And.intro l2 (And.intro u2 k2))))
      have HW3 := (show Hid (Below w.heap.size w w3) from (HB1.out.1.trans (HB2.out.1.mono HB1.out.1.size)).trans (hb3.mono (Nat.le_trans HB1.out.1.size HB2.out.1.size)))
      have HZL := (show Hid (_) from H1.out.len)
      clear hc2 l2 u2 k2 hb3 HB1 HB2 HB3 H0 H1 H2 HLL
      go_wp2_with fail
      go_loopw [15] (fun i wr => ∃ (i' : Nat) (ps : List Nat), i = .int .i64 i' ∧ KB w3 wr m i' zss ps) (fun i _ => m - (intOf i).toNat)
      case atStart => exact ⟨0, [], rfl, KB.init HMK.out⟩
      case round =>
        obtain ⟨i2, ps, rfl, hKB⟩ := hrel
        by_cases hlt2 : i2 < m
        · have hCr := HCL.out.later hKB.below (Nat.le_refl _)
          obtain ⟨ev, x, zs, hzs, hev, ce, cx, hrd, _⟩ := hCr.at HZL.out HEL.out hlt2
          have hzl : zs.length ≤ 64 := by have h' := HSZ.out i2 zs hzs; unfold szAt okSz at h'; split at h' <;> omega
          have d1 : ¬ g1 = w3.heap.size := by have := HCL.out.r1.2; omega
          have d2 : ¬ g2 = w3.heap.size := by have := HCL.out.r2.2; omega
          have d3 : ¬ w3.heap.size = g1 := fun h => d1 h.symm
          have d4 : ¬ w3.heap.size = g2 := fun h => d2 h.symm
          have bi : (i2 : Int) < (m : Int) := by omega
          have bi0 : (0 : Int) ≤ (i2 : Int) := by omega
          obtain ⟨nz, hnz⟩ : ∃ nz, nz = zs.length := ⟨_, rfl⟩
          rw [← hnz] at cx hrd hzl
          have HKB := (show Hid (_) from And.intro hKB (And.intro hzs hnz))
          have HRD := (show Hid (_) from hrd)
          clear hKB hzs hev hrd hCr hnz
          go_wp2_with fail
          go_region_held3 (fun w' => w'.cell? ⟨g2, i2, none⟩ = some (.int .u64 ev) ∧ w'.cell? ⟨g1, i2, none⟩ = some (.slice x nz nz))
            (first | go_keep | fail)
            ((first
              | (go_at_call 24
                 refine (cloneInts_any x nz nz (iv zs) (iv_one _) (by omega) _ (by exact ⟨HRD.out.len, HRD.out.nil, HRD.out.cell⟩)).mono ?_
                 rintro e' w4 ⟨x4, rfl, _, hb4', hc4⟩
                 have hb4 : Below wr.heap.size wr w4 := ⟨hb4'.os, hb4'.tape, hb4'.output, hb4'.size, hb4'.block⟩
                 have ce4 := cell_later hb4 ce
                 have cx4 := cell_later hb4 cx
                 have HB4 := (show Hid (_) from And.intro hb4 hc4)
                 obtain ⟨ck, fk⟩ := HKB.out.1.cell hlt2 hb4
                 have hk4 : w3.heap.size < w4.heap.size := Nat.lt_of_lt_of_le (lt_of_blk HKB.out.1.row) hb4.size
                 clear hb4 hc4 hb4')
              | (go_at_call 27
                 refine (newLeaf_any _ _ _ _ _).mono ?_
                 rintro e' w5 ⟨rfl, rfl⟩)
              | fail))
          go_wp2_with fail
          go_roundw
          case rel => exact ⟨i2 + 1, _, by go_num, HKB.out.1.step' hlt2 HKB.out.2.1 HKB.out.2.2 HB4.out.1 HB4.out.2⟩
          case measure => simp [intOf]; omega
        · obtain ⟨w4x, hw4x⟩ : ∃ w4x, w4x = wr := ⟨_, rfl⟩
          obtain rfl := hw4x
          obtain rfl : i2 = m := by have := hKB.le; omega
          have HKB := (show Hid (_) from hKB)
          have HCR := (show Hid (_) from HCL.out.later hKB.below (Nat.le_refl _))
          clear hKB
          go_wp2_with fail
          refine (cloneInts_any (some ⟨g0, 0, none⟩) i2 i2 (iv bs) (iv_one _) (by omega) _ (HCR.out.bounds HBL.out)).mono ?_
          rintro x w5 ⟨x5, rfl, _, hb5, hc5⟩
          obtain ⟨gI, rfl, l5, u5, k5⟩ := hc5.get (by rw [iv_len]; have := HBL.out; omega)
          have HB5 := (show Hid (_) from And.intro hb5 (And.intro l5 (And.intro u5 k5)))
          clear hc5 l5 u5 k5 hb5
          go_wp2_with fail
          refine (newInner_any _ _ _ _ _ _ _ _).mono ?_
          rintro x w6 ⟨rfl, hw6⟩
          have hpl : ps.length = zss.length := by rw [HKB.out.len, HZL.out]
          have hPar := par_of (e := e) HKB.out HBL.out HB5.out.1 HB5.out.2.1 HB5.out.2.2.2
          have hLv := leaves_of (o := nd e (some ⟨gI, 0, none⟩) i2 i2 (some ⟨w3.heap.size, 0, none⟩) i2 i2) HKB.out HB5.out.1
          rw [← hw6] at hPar hLv
          rw [← zip_fst ps zss hpl] at hPar
          have HPL := (show Hid (_) from And.intro hPar (And.intro hLv (And.intro hw6 hpl)))
          clear hPar hLv hw6 hpl
          go_wp2_with fail
          refine (rb30 (rb_fill w6 w5.heap.size e gI w3.heap.size i2 (w3.heap.size + 1) w4x.heap.size k (iv bs) (iv_one _) (ps.zip zss) HPL.out.1 hm hm2 hk (by omega) HB5.out.2.1 HB5.out.1.size HPL.out.2.1 (fun j q hq => HSZ.out j q.2 (List.getElem?_zip_eq_some.1 hq).2))).mono ?_
          rintro x w7 ⟨rfl, m', K', hm', hKl, hfl, hok, hRb⟩
          go_wp2_with fail
          refine (zzKids_any _ _ hRb.node).mono ?_
          rintro x w7' ⟨rfl, hw'⟩
          obtain rfl := hw'.symm
          clear hw'
          go_wp2_with fail
          refine (zzIDs_any _ _ hRb.node).mono ?_
          rintro x w7' ⟨rfl, hw'⟩
          obtain rfl := hw'.symm
          clear hw'
          have HRb := (show Hid (_) from And.intro hRb (And.intro hKl (And.intro hfl hok)))
          have hmle : m' ≤ i2 := by omega
          have hq : ((m' : Int) != (i2 : Int)) = false ∨ (((m' : Int) != (i2 : Int)) = true ∧ ((m' : Int) != (i2 : Int) - 1) = false) := by
            rcases hm' with rfl | rfl
            · left; simp
            · right; simp; omega
          obtain ⟨i0', hi0', hz0', hz1', hz2'⟩ := info_parts Try.info2
          have r := r39
          clear hRb hKl hfl hok hm'
          go_upto_region 31 with fail
          go_cut [161] (fun s161 wx => s161 = .bool false ∧ w7 = wx)
          case first =>
            rcases hq with hq | ⟨hq, hq'⟩
            all_goals
              go_wp2_with fail
              go_meet
              case rel => exact ⟨rfl, rfl⟩
          case rest =>
          obtain ⟨rfl, rfl⟩ := hcut
          clear hq
          go_wp2_with fail
          go_loopw [19, 20, 21] (fun v i ids wr => ∃ i' : Nat, i' ≤ m' ∧ i = .int .i64 i' ∧ Gat w7 wr v (flat (K'.take i'))) (fun _ i _ _ => m' - (intOf i).toNat)
          case atStart => exact ⟨0, Nat.zero_le _, rfl, Gat.init _⟩
          case round =>
            obtain ⟨i3, hi3, rfl, hG⟩ := hrel
            by_cases hlt3 : i3 < m'
            · obtain ⟨p, zs, hq3, hcp, ep, ad, c3, hnd, hcells⟩ := rbout_at HRb.out.1 hG.below HRb.out.2.1 hlt3
              have hsz3 := HRb.out.2.2.2 (p, zs) (List.mem_of_getElem? hq3)
              have hfl3 : (flat (K'.take i3)).length ≤ 4194304 := by
                have := flat_len (K'.take i3) (fun q hq => HRb.out.2.2.2 q (List.mem_of_mem_take hq))
                simp at this; omega
              obtain ⟨n3, hn3⟩ : ∃ n3, n3 = zs.length := ⟨_, rfl⟩
              have hs1 : 16 ≤ n3 := by rw [hn3]; exact hsz3.1
              have hs2 : n3 ≤ 64 := by rw [hn3]; exact hsz3.2
              rw [← hn3] at hnd
              obtain ⟨lf, hlf⟩ : ∃ lf, lf = (flat (K'.take i3)).length := ⟨_, rfl⟩
              rw [← hlf] at hfl3
              have hown := hG.own
              rw [← hlf] at hown
              have HG := (show Hid (_) from And.intro hG (And.intro hq3 (And.intro hn3 (And.intro hlf (And.intro hown (And.intro hnd hcells))))))
              have b3 : (i3 : Int) < (m' : Int) := by omega
              clear hG hq3 hsz3 hn3 hlf hown hnd hcells
              go_wp2_with (first
                | (go_at_call 33; refine (zzKids_any _ p HG.out.2.2.2.2.2.1).mono ?_; rintro x' w' ⟨rfl, hw'⟩; obtain rfl := hw'.symm; clear hw')
                | (go_at_call 34; refine (zzIDs_any _ p HG.out.2.2.2.2.2.1).mono ?_; rintro x' w' ⟨rfl, hw'⟩; obtain rfl := hw'.symm; clear hw')
                | (at_builtin; refine wpList_append_lies _ rfl _ _ 30 rfl w7.heap.size 2 i0' (.int .i64 0) 1 8 Try.underlying30 hi0' hz0' hz1' hz2' rfl (by omega) _ lf (iv (flat (K'.take i3))) rfl HG.out.2.2.2.2.1 ad n3 c3 (iv zs) rfl (by rw [iv_len, HG.out.2.2.1]; omega) HG.out.2.2.2.2.2.2 (iv_one _) (by omega) (by unfold maxLen; omega) (by omega) HG.out.1.below.size _ rfl ?_; intro g3 cap3 w8 hown8 hgrow8 hat8 hlt8))
              have hst := HG.out.1.step (ys := zs) (by rw [← HG.out.2.2.2.1, ← HG.out.2.2.1]; exact hown8) hgrow8
              rw [← flat_snoc K' i3 _ HG.out.2.1] at hst
              have HS := (show Hid (_) from hst)
              clear hst hown8 hgrow8 hat8
              go_roundw
              case rel => exact ⟨i3 + 1, by omega, by go_num, HS.out⟩
              case measure => simp [intOf]; omega
            · obtain ⟨w8, hw8⟩ : ∃ w8, w8 = wr := ⟨_, rfl⟩
              obtain rfl := hw8
              obtain rfl : i3 = m' := by omega
              have hZfl : flat (K'.take i3) = zss.flatten := by
                rw [List.take_of_length_le (Nat.le_of_eq HRb.out.2.1)]
                show (K'.map (·.2)).flatten = _
                rw [HRb.out.2.2.1, zip_snd ps zss HPL.out.2.2.2]
              rw [hZfl] at hG
              have hb37 : Below w3.heap.size w3 w7 := chain7 HKB.out.below HB5.out.1 HPL.out.2.2.1 HRb.out.1.fr HB5.out.2.1
              have hb38 : Below w3.heap.size w3 w8 := hb37.trans (hG.below.mono hb37.size)
              obtain ⟨aA, cA, hvA, hrdA⟩ := hG.rd
              obtain ⟨nA, hnA⟩ : ∃ nA, nA = zss.flatten.length := ⟨_, rfl⟩
              rw [← hnA] at hvA hrdA
              obtain rfl := hvA
              have HF := (show Hid (_) from And.intro hb38 (And.intro hrdA (HCL.out.later hb38 (Nat.le_refl _))))
              have hzz : nA ≤ 4194304 := by
                rw [hnA]
                have := flatz_len zss (fun zs hz => by obtain ⟨j, hj⟩ := List.getElem?_of_mem hz; have h' := HSZ.out j zs hj; unfold szAt okSz at h'; split at h' <;> omega)
                have h2 := HZL.out
                omega
              have HNA := (show Hid (_) from hnA)
              clear hG hrdA hb37 hb38 hZfl hnA
              go_wp2_with fail
              go_loopw [22, 23] (fun v i wr => ∃ i' : Nat, i' ≤ i2 ∧ i = .int .i64 i' ∧ Gat w8 wr v (zss.take i').flatten) (fun _ i _ => i2 - (intOf i).toNat)
              case atStart => exact ⟨0, Nat.zero_le _, rfl, Gat.init _⟩
              case round =>
                obtain ⟨i4, hi4, rfl, hG⟩ := hrel
                by_cases hlt4 : i4 < i2
                · obtain ⟨ev, x, zs, hzs, hev, ce, cx, hrd, _⟩ := (HF.out.2.2.later hG.below HF.out.1.size).at HZL.out HEL.out hlt4
                  have hzl : 1 ≤ zs.length ∧ zs.length ≤ 64 := by have h' := HSZ.out i4 zs hzs; unfold szAt okSz at h'; split at h' <;> omega
                  obtain ⟨bx, ox, rfl, hcells⟩ := hrd.plain (by omega)
                  have hfl4 : (zss.take i4).flatten.length ≤ 4194304 := by
                    have := flatz_len (zss.take i4) (fun zs hz => by obtain ⟨j, hj⟩ := List.getElem?_of_mem (List.mem_of_mem_take hz); have h' := HSZ.out j zs hj; unfold szAt okSz at h'; split at h' <;> omega)
                    rw [List.length_take] at this; omega
                  have hsrc : ∀ (j : Nat) u, (iv zs)[j]? = some u → wr.cell? ((⟨bx, ox, none⟩ : Addr).add j) = some u := by
                    intro j u hj
                    have hjl := (List.getElem?_eq_some_iff.1 hj).1
                    rw [iv_len] at hjl
                    rw [Addr.add_lit, hcells j hjl, hj]
                  obtain ⟨n4, hn4⟩ : ∃ n4, n4 = zs.length := ⟨_, rfl⟩
                  rw [← hn4] at cx hzl
                  obtain ⟨lf, hlf⟩ : ∃ lf, lf = (zss.take i4).flatten.length := ⟨_, rfl⟩
                  rw [← hlf] at hfl4
                  have hown := hG.own
                  rw [← hlf] at hown
                  obtain ⟨hzl1, hzl2⟩ := hzl
                  have HG := (show Hid (_) from And.intro hG (And.intro hzs (And.intro hn4 (And.intro hlf (And.intro hown hsrc)))))
                  have b4 : (i4 : Int) < (i2 : Int) := by omega
                  clear hG hzs hn4 hlf hown hsrc hcells hrd hev ce
                  go_wp2_with (at_builtin; refine wpList_append_lies _ rfl _ _ 30 rfl w8.heap.size 2 i0' (.int .i64 0) 1 8 Try.underlying30 hi0' hz0' hz1' hz2' rfl (by omega) _ lf (iv (zss.take i4).flatten) rfl HG.out.2.2.2.2.1 ⟨bx, ox, none⟩ n4 n4 (iv zs) rfl (by rw [iv_len, HG.out.2.2.1]; omega) HG.out.2.2.2.2.2 (iv_one _) (by omega) (by unfold maxLen; omega) (by omega) HG.out.1.below.size _ rfl ?_; intro g9 cap9 w9 hown9 hgrow9 hat9 hlt9)
                  have hst := HG.out.1.step (ys := zs) (by rw [← HG.out.2.2.2.1, ← HG.out.2.2.1]; exact hown9) hgrow9
                  rw [← flatz_snoc zss i4 _ HG.out.2.1] at hst
                  have HS := (show Hid (_) from hst)
                  clear hst hown9 hgrow9 hat9
                  go_roundw
                  case rel => exact ⟨i4 + 1, by omega, by go_num, HS.out⟩
                  case measure => simp [intOf]; omega
                · obtain rfl : i4 = i2 := by omega
                  have hz4 : (zss.take i4).flatten = zss.flatten := by rw [List.take_of_length_le (Nat.le_of_eq HZL.out)]
                  rw [hz4] at hG
                  obtain ⟨aB, cB, hvB, hrdB⟩ := hG.rd
                  rw [← HNA.out] at hvB hrdB
                  obtain rfl := hvB
                  have HE := (show Hid (_) from And.intro hG.below hrdB)
                  clear hG hrdB hz4
                  go_wp2_with fail
                  refine (sameInts_any _ aA aB nA cA cB zss.flatten (by omega) (HF.out.2.1.later HE.out.1) HE.out.2).mono ?_
                  rintro x w9 ⟨rfl, nd9, rfl⟩
                  go_wp2_with fail
                  go_ret
                  have e3 := HF.out.1.size
                  have e0 := HW3.out.size
                  exact ⟨rfl, below_drewN ((HW3.out.trans (HF.out.1.mono e0)).trans (HE.out.1.mono (by omega))) _⟩

end Go.Proofs.Qxb6602784a
