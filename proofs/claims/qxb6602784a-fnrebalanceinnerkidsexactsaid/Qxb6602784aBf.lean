import Derived.Test.Qxb6602784aBe
namespace Go.Proofs.Qxb6602784a
open Go.RowKit
set_option linter.unusedVariables false
set_option linter.unusedSimpArgs false

def pv (p : Nat) : Value := .pointer (some ⟨p, 0, none⟩)

/-- a node with kids, its bounds and its kids in rows of their own -/
structure Par (w : World) (N : Nat) (e : Int) (gI gK m : Nat) (I : List Value) (ps : List Nat) : Prop where
  node : w.heap[N]? = some (nd e (some ⟨gI, 0, none⟩) m m (some ⟨gK, 0, none⟩) m m)
  ids : w.heap[gI]? = some (.cells I.toArray 2 (0, 0))
  idl : I.length = m
  kids : w.heap[gK]? = some (.cells (ps.map pv).toArray 40 (0, 0))
  kl : ps.length = m
  n1 : N ≠ gI
  n2 : N ≠ gK
  n3 : gI ≠ gK

theorem Par.keep {w w' : World} {N : Nat} {e : Int} {gI gK m : Nat} {I : List Value} {ps : List Nat} (h : Par w N e gI gK m I ps) {S : Nat → Prop} (hf : Fr S w w') (s1 : ¬ S N) (s2 : ¬ S gI) (s3 : ¬ S gK) : Par w' N e gI gK m I ps :=
  ⟨(hf.block N (lt_of_blk h.node) s1).trans h.node, (hf.block gI (lt_of_blk h.ids) s2).trans h.ids, h.idl, (hf.block gK (lt_of_blk h.kids) s3).trans h.kids, h.kl, h.n1, h.n2, h.n3⟩

theorem Par.cell {w : World} {N : Nat} {e : Int} {gI gK m : Nat} {I : List Value} {ps : List Nat} (h : Par w N e gI gK m I ps) {j p : Nat} (hj : ps[j]? = some p) : w.cell? ⟨gK, j, none⟩ = some (.pointer (some ⟨p, 0, none⟩)) := by
  rw [cell_of_row w gK j _ 40 (0, 0) h.kids]
  simp [hj, pv]

/-- behind 'joined := ..': a new leaf that holds all of both -/
structure Joined (w w' : World) (e : Int) (L R : List Value) (J gJ : Nat) : Prop where
  new : w.heap.size ≤ J ∧ w.heap.size ≤ gJ ∧ J ≠ gJ
  node : w'.heap[J]? = some (nd e (some ⟨gJ, 0, none⟩) (L.length + R.length) (L.length + R.length) none 0 0)
  ids : w'.heap[gJ]? = some (.cells (L ++ R).toArray 2 (0, 0))
  fr : Fr (fun _ => False) w w'

theorem Src.later {w w' : World} {ao : Option Addr} {m : Nat} {news : List Value} (h : Src w ao m news) (hb : Below w.heap.size w w') : Src w' ao m news :=
  ⟨h.1, fun hm => by obtain ⟨ad, e, hc⟩ := h.2 hm; exact ⟨ad, e, fun j u hj => cell_later hb (hc j u hj)⟩⟩

theorem below_fit {w W w1 : World} {MK : Obj} {T g : Nat} {vs : List Value} (hf : Fit W w1 T g vs) (hW : W.heap = (w.alloc MK).heap) (ho : W.os = w.os) (ht : W.tape = w.tape) (hu : W.output = w.output) (hg : g = w.heap.size) : Below w.heap.size w w1 := by
  have e : W.heap.size = w.heap.size + 1 := by rw [hW]; simp
  refine ⟨hf.fr.os.trans ho, hf.fr.tape.trans ht, hf.fr.output.trans hu, by have := hf.size; omega, fun k hk => ?_⟩
  rw [hf.fr.block k (by omega) (by omega), hW]
  exact Below.heap_alloc w MK k hk

theorem laid_two (t : Nat) (z : Value) (L R : List Value) (h : L.length + R.length = t) : laid (laid (List.replicate t z) 0 L) (0 + L.length) R = L ++ R := by
  subst h
  unfold laid
  simp [List.drop_append]

theorem joined_of {w W w1 w2 w3 : World} {e : Int} {L R : List Value} {nl nr : Nat} {MK : Obj} (hl : L.length = nl) (hr : R.length = nr) (hf1 : Fit W w1 2 w.heap.size (laid (List.replicate (nl + nr) (.int .i64 0)) 0 L)) (hW : W.heap = (w.alloc MK).heap) (hb : Below w.heap.size w w1)
    (hf2 : Fit w1 w2 2 w.heap.size (laid (laid (List.replicate (nl + nr) (.int .i64 0)) 0 L) (0 + nl) R)) (h3 : w3 = w2.alloc (nd e (some ⟨w.heap.size, 0, none⟩) (nl + nr) (nl + nr) none 0 0)) : Joined w w3 e L R w2.heap.size w.heap.size := by
  subst h3 hl hr
  have e1 : W.heap.size = w.heap.size + 1 := by rw [hW]; simp
  have e2 : w2.heap.size = w.heap.size + 1 := by rw [hf2.size, hf1.size, e1]
  refine ⟨⟨by omega, Nat.le_refl _, by omega⟩, ?_, ?_, ?_⟩
  · exact heap_alloc_new _ _
  · rw [Below.heap_alloc _ _ _ (by omega), hf2.row, laid_two _ _ _ _ rfl]
  · have f1 : Fr (fun _ => False) w w1 := ⟨hb.os, hb.tape, hb.output, hb.size, fun k hk _ => hb.block k hk⟩
    have f2 : Fr (fun _ => False) w w2 := ⟨hf2.fr.os.trans f1.os, hf2.fr.tape.trans f1.tape, hf2.fr.output.trans f1.output, by omega, fun k hk _ => (hf2.fr.block k (by rw [hf1.size, e1]; omega) (by omega)).trans (f1.block k hk id)⟩
    exact f2.trans (Fr.alloc _ _ _)

theorem drop_any (w : World) (N : Nat) (e : Int) (gI gK m d : Nat) (I K : List Value) (hd : d < m) (hm : m ≤ 1048576) (n1 : N ≠ gI) (n2 : N ≠ gK) (n3 : gI ≠ gK)
    (hN : w.heap[N]? = some (nd e (some ⟨gI, 0, none⟩) m m (some ⟨gK, 0, none⟩) m m)) (hI : w.heap[gI]? = some (.cells I.toArray 2 (0, 0))) (hIl : I.length = m) (hI1 : ∀ v ∈ I, v.oneCell' = true)
    (hK : w.heap[gK]? = some (.cells K.toArray 40 (0, 0))) (hKl : K.length = m) (hK1 : ∀ v ∈ K, v.oneCell' = true) :
    Calls Try.prog 49 #[.pointer (some ⟨N, 0, none⟩), .int .i64 d] w fun x w' => x = .returned (.tuple #[]) ∧ DropOut w w' N e gI gK m d I K := by
  by_cases h : d + 1 < m
  · exact drop_mid w N e gI gK m d I K h hm n1 n2 n3 hN hI hIl hI1 hK hKl hK1
  · obtain rfl : m = d + 1 := by omega
    exact drop_last w N e gI gK d I K hm n1 n2 n3 hN hI hIl hI1 hK hKl hK1

theorem pv_one (ps : List Nat) : ∀ v ∈ ps.map pv, v.oneCell' = true := by
  intro v hv
  obtain ⟨p, _, rfl⟩ := List.mem_map.1 hv
  rfl

/-- rebalance of leaves, both into one -/
structure RbSmall (w w' : World) (N : Nat) (e : Int) (gI gK m j : Nat) (I : List Value) (ps : List Nat) (L R : List Value) (J gJ : Nat) : Prop where
  new : w.heap.size ≤ J ∧ w.heap.size ≤ gJ ∧ J ≠ gJ
  join : w'.heap[J]? = some (nd e (some ⟨gJ, 0, none⟩) (L.length + R.length) (L.length + R.length) none 0 0)
  jids : w'.heap[gJ]? = some (.cells (L ++ R).toArray 2 (0, 0))
  node : w'.heap[N]? = some (nd e (some ⟨gI, 0, none⟩) (m - 1) m (some ⟨gK, 0, none⟩) (m - 1) m)
  ids : Rw w' 2 gI (m - 1) m (I.eraseIdx (j + 1))
  kids : Rw w' 40 gK (m - 1) m (((ps.set j J).eraseIdx (j + 1)).map pv)
  fr : Fr (fun k => k = N ∨ k = gI ∨ k = gK) w w'

theorem map_pv_set (ps : List Nat) (j J : Nat) : (ps.map pv).set j (.pointer (some ⟨J, 0, none⟩)) = (ps.set j J).map pv := by
  rw [List.map_set]; rfl
theorem map_eraseIdx' (ps : List Nat) (j : Nat) : (ps.map pv).eraseIdx j = (ps.eraseIdx j).map pv := by
  simp [List.eraseIdx_eq_take_drop_succ, List.map_take, List.map_drop]

/-- the world behind 'n.kids[k] = joined' -/
theorem par_set {w wc : World} {N : Nat} {e : Int} {gI gK m : Nat} {I : List Value} {ps : List Nat} (h : Par wc N e gI gK m I ps) (j J : Nat) : Par (wc.setCell ⟨gK, j, none⟩ (.pointer (some ⟨J, 0, none⟩))) N e gI gK m I (ps.set j J) := by
  refine ⟨?_, ?_, h.idl, ?_, by simpa using h.kl, h.n1, h.n2, h.n3⟩
  · rw [heap_setCell_other _ _ _ _ (by simpa using h.n2)]; exact h.node
  · rw [heap_setCell_other _ _ _ _ (by simpa using h.n3)]; exact h.ids
  · rw [heap_setCell_same wc gK j _ 40 _ h.kids, ← map_pv_set]; simp

theorem small_of {w wc w' : World} {N : Nat} {e : Int} {gI gK m j : Nat} {I : List Value} {ps : List Nat} {L R : List Value} {J gJ : Nat} (hP : Par w N e gI gK m I ps) (hJ : Joined w wc e L R J gJ)
    (hD : DropOut (wc.setCell ⟨gK, j, none⟩ (.pointer (some ⟨J, 0, none⟩))) w' N e gI gK m (j + 1) I ((ps.set j J).map pv)) : RbSmall w w' N e gI gK m j I ps L R J gJ := by
  have hN := lt_of_blk hP.node
  have hI := lt_of_blk hP.ids
  have hK := lt_of_blk hP.kids
  have hs : (wc.setCell ⟨gK, j, none⟩ (.pointer (some ⟨J, 0, none⟩))).heap.size = wc.heap.size := by simp
  have hn := hJ.new
  have hJl := lt_of_blk hJ.node
  have hgl := lt_of_blk hJ.ids
  refine ⟨hJ.new, ?_, ?_, hD.node, hD.ids, ?_, ?_⟩
  · rw [hD.fr.block J (by omega) (by omega), heap_setCell_other _ _ _ _ (by simp; omega)]; exact hJ.node
  · rw [hD.fr.block gJ (by omega) (by omega), heap_setCell_other _ _ _ _ (by simp; omega)]; exact hJ.ids
  · rw [← map_eraseIdx']; exact hD.kids
  · exact ((hJ.fr.mono (fun _ _ h => h.elim)).trans (Fr.setCell (S := fun k => k = N ∨ k = gI ∨ k = gK) wc (p := ⟨gK, j, none⟩) (.inr (.inr rfl)) _)).trans hD.fr

/-- rebalance of leaves, into two halves -/
structure RbBig (w w' : World) (N : Nat) (e : Int) (gI gK m j h : Nat) (I : List Value) (ps : List Nat) (L R : List Value) (J gJ Q gQ cQ : Nat) (b : Value) : Prop where
  new : w.heap.size ≤ J ∧ w.heap.size ≤ gJ ∧ J ≠ gJ ∧ w.heap.size ≤ Q ∧ w.heap.size ≤ gQ ∧ Q ≠ gQ ∧ J ≠ Q
  join : w'.heap[J]? = some (nd e (some ⟨gJ, 0, none⟩) h (L.length + R.length) none 0 0)
  jids : Rw w' 2 gJ h (L.length + R.length) ((L ++ R).take h)
  right : w'.heap[Q]? = some (nd e (some ⟨gQ, 0, none⟩) (L.length + R.length - h) cQ none 0 0)
  rids : Rw w' 2 gQ (L.length + R.length - h) cQ ((L ++ R).drop h)
  par : Par w' N e gI gK m (I.set (j + 1) b) ((ps.set j J).set (j + 1) Q)
  fr : Fr (fun k => k = N ∨ k = gI ∨ k = gK) w w'

theorem rw_whole {w : World} {T : TypeId} {g : Nat} {vs : List Value} {t : Nat} (h : w.heap[g]? = some (.cells vs.toArray T (0, 0))) (hl : vs.length = t) (hm : t ≤ 1048576 * 2) : Rw w T g t t vs :=
  Rw.mk' (Nat.le_refl _) (by unfold maxLen; omega) h (by simpa using hl) (by simpa using List.take_of_length_le (Nat.le_of_eq hl))

/-- behind 'n.kids[k], n.kids[k+1] = joined, joined.split(..)' -/
structure Mid (w w' : World) (N : Nat) (e : Int) (gI gK m j h : Nat) (I : List Value) (ps : List Nat) (L R : List Value) (J gJ Q gQ cQ : Nat) : Prop where
  new : w.heap.size ≤ J ∧ w.heap.size ≤ gJ ∧ J ≠ gJ ∧ w.heap.size ≤ Q ∧ w.heap.size ≤ gQ ∧ Q ≠ gQ ∧ J ≠ Q
  join : w'.heap[J]? = some (nd e (some ⟨gJ, 0, none⟩) h (L.length + R.length) none 0 0)
  jids : Rw w' 2 gJ h (L.length + R.length) ((L ++ R).take h)
  right : w'.heap[Q]? = some (nd e (some ⟨gQ, 0, none⟩) (L.length + R.length - h) cQ none 0 0)
  rids : Rw w' 2 gQ (L.length + R.length - h) cQ ((L ++ R).drop h)
  par : Par w' N e gI gK m I ((ps.set j J).set (j + 1) Q)
  fr : Fr (fun k => k = N ∨ k = gI ∨ k = gK) w w'

theorem mid_of {w wc wd w1 w' : World} {N : Nat} {e : Int} {gI gK m j h nl nr : Nat} {I : List Value} {ps : List Nat} {L R : List Value} {J gJ Q gQ cQ : Nat} (hl : L.length = nl) (hr : R.length = nr) (hh : h ≤ nl + nr) (hbig : nl + nr ≤ 1048576 * 2)
    (hP : Par w N e gI gK m I ps) (hJ : Joined w wc e L R J gJ) (hd : wd.heap = wc.heap) (hdo : wd.os = wc.os) (hdt : wd.tape = wc.tape) (hdu : wd.output = wc.output)
    (hS : SplitL wd w1 J e gJ (nl + nr) (nl + nr) h (L ++ R) Q gQ cQ)
    (hw : w' = (w1.setCell ⟨gK, j, none⟩ (.pointer (some ⟨J, 0, none⟩))).setCell ⟨gK, j + 1, none⟩ (.pointer (some ⟨Q, 0, none⟩))) : Mid w w' N e gI gK m j h I ps L R J gJ Q gQ cQ := by
  subst hw hl hr
  have hN := lt_of_blk hP.node
  have hI := lt_of_blk hP.ids
  have hK := lt_of_blk hP.kids
  have hn := hJ.new
  have hsn := hS.new
  rw [hd] at hsn
  have hJl := lt_of_blk hJ.node
  have hgl := lt_of_blk hJ.ids
  have hPc : Par wc N e gI gK m I ps := hP.keep hJ.fr id id id
  have hPd : Par wd N e gI gK m I ps := ⟨by rw [hd]; exact hPc.node, by rw [hd]; exact hPc.ids, hPc.idl, by rw [hd]; exact hPc.kids, hPc.kl, hPc.n1, hPc.n2, hPc.n3⟩
  have hP1 : Par w1 N e gI gK m I ps := hPd.keep hS.fr (by omega) (by omega) (by omega)
  have hP2 := par_set (w := w) (par_set (w := w) hP1 j J) (j + 1) Q
  have other : ∀ k, k ≠ gK → ((w1.setCell ⟨gK, j, none⟩ (.pointer (some ⟨J, 0, none⟩))).setCell ⟨gK, j + 1, none⟩ (.pointer (some ⟨Q, 0, none⟩))).heap[k]? = w1.heap[k]? := by
    intro k hk
    rw [heap_setCell_other _ _ _ _ (by simpa using hk), heap_setCell_other _ _ _ _ (by simpa using hk)]
  have hg1 : w1.heap[gJ]? = some (.cells (L ++ R).toArray 2 (0, 0)) := (hS.fr.block gJ (by rw [hd]; exact hgl) (by omega)).trans (by rw [hd]; exact hJ.ids)
  refine ⟨⟨hn.1, hn.2.1, hn.2.2, by omega, by omega, hsn.2.2, by omega⟩, ?_, ?_, ?_, ?_, hP2, ?_⟩
  · rw [other J (by omega)]; exact hS.left
  · refine Rw.keep (w := w1) ?_ (other gJ (by omega))
    exact (rw_whole hg1 (by simp) hbig).cut h hh
  · rw [other Q (by omega)]; exact hS.right
  · exact hS.rids.keep (other gQ (by omega))
  · have f1 : Fr (fun k => k = N ∨ k = gI ∨ k = gK) w wc := hJ.fr.mono (fun _ _ h => h.elim)
    have f2 : Fr (fun k => k = N ∨ k = gI ∨ k = gK) w w1 := ⟨hS.fr.os.trans (hdo.trans f1.os), hS.fr.tape.trans (hdt.trans f1.tape), hS.fr.output.trans (hdu.trans f1.output), Nat.le_trans f1.size (by have := hS.fr.size; rw [hd] at this; exact this), fun k hk hs => (hS.fr.block k (by rw [hd]; exact Nat.lt_of_lt_of_le hk f1.size) (by omega)).trans (by rw [hd]; exact f1.block k hk hs)⟩
    exact (f2.trans (Fr.setCell (S := fun k => k = N ∨ k = gI ∨ k = gK) w1 (p := ⟨gK, j, none⟩) (.inr (.inr rfl)) _)).trans (Fr.setCell (S := fun k => k = N ∨ k = gI ∨ k = gK) _ (p := ⟨gK, j + 1, none⟩) (.inr (.inr rfl)) _)

theorem par_split {w wc wd w1 : World} {N : Nat} {e e' : Int} {gI gK m h t c : Nat} {I : List Value} {ps : List Nat} {L R X : List Value} {J gJ Q gQ cQ : Nat} (hP : Par w N e gI gK m I ps) (hJ : Joined w wc e' L R J gJ) (hS : SplitL wd w1 J e' gJ t c h X Q gQ cQ) (hd : wd.heap = wc.heap) : Par w1 N e gI gK m I ps := by
  have hN := lt_of_blk hP.node
  have hI := lt_of_blk hP.ids
  have hK := lt_of_blk hP.kids
  have hn := hJ.new
  have hPc : Par wc N e gI gK m I ps := hP.keep hJ.fr id id id
  have hPd : Par wd N e gI gK m I ps := ⟨by rw [hd]; exact hPc.node, by rw [hd]; exact hPc.ids, hPc.idl, by rw [hd]; exact hPc.kids, hPc.kl, hPc.n1, hPc.n2, hPc.n3⟩
  exact hPd.keep hS.fr (by omega) (by omega) (by omega)

theorem big_of {w wc w' : World} {N : Nat} {e : Int} {gI gK m j h : Nat} {I : List Value} {ps : List Nat} {L R : List Value} {J gJ Q gQ cQ : Nat} {b : Value} (hP : Par w N e gI gK m I ps) (hM : Mid w wc N e gI gK m j h I ps L R J gJ Q gQ cQ)
    (hh : w'.heap = (wc.setCell ⟨gI, j + 1, none⟩ b).heap) (ho : w'.os = wc.os) (ht : w'.tape = wc.tape) (hu : w'.output = wc.output) : RbBig w w' N e gI gK m j h I ps L R J gJ Q gQ cQ b := by
  have hN := lt_of_blk hP.node
  have hI := lt_of_blk hP.ids
  have hK := lt_of_blk hP.kids
  have hn := hM.new
  have other : ∀ k, k ≠ gI → w'.heap[k]? = wc.heap[k]? := fun k hk => by rw [hh, heap_setCell_other _ _ _ _ (by simpa using hk)]
  have n1 := hP.n1
  have n3 := hP.n3
  refine ⟨hn, (other J (by omega)).trans hM.join, hM.jids.keep (other gJ (by omega)), (other Q (by omega)).trans hM.right, hM.rids.keep (other gQ (by omega)), ⟨(other N n1).trans hM.par.node, ?_, by simpa using hM.par.idl, (other gK (fun h => n3 h.symm)).trans hM.par.kids, hM.par.kl, hP.n1, hP.n2, hP.n3⟩, ?_⟩
  · rw [hh, heap_setCell_same wc gI (j + 1) _ 2 _ hM.par.ids]; simp
  · have f := hM.fr.trans (Fr.setCell (S := fun k => k = N ∨ k = gI ∨ k = gK) wc (p := ⟨gI, j + 1, none⟩) (.inr (.inl rfl)) b)
    exact ⟨ho.trans hM.fr.os, ht.trans hM.fr.tape, hu.trans hM.fr.output, by rw [hh]; exact f.size, fun k hk hs => by rw [hh]; exact f.block k hk hs⟩

end Go.Proofs.Qxb6602784a
