import Derived.Test.Qxb6602784aBc
import Derived.Deep.DeepCutAuto
namespace Go.Proofs.Qxb6602784a
open Go.RowKit
set_option linter.unusedVariables false
set_option linter.unusedSimpArgs false

/-- the row behind an append within its room: news laid from place k on -/
def laid (cur : List Value) (k : Nat) (news : List Value) : List Value := cur.take k ++ news ++ cur.drop (k + news.length)
theorem laid_len (cur : List Value) (k : Nat) (news : List Value) (h : k + news.length ≤ cur.length) : (laid cur k news).length = cur.length := by simp [laid]; omega
theorem laid_take (cur : List Value) (k : Nat) (news : List Value) (h : k ≤ cur.length) : (laid cur k news).take (k + news.length) = cur.take k ++ news := by
  unfold laid
  rw [List.take_append_of_le_length (by simp; omega)]
  exact List.take_of_length_le (by simp; omega)

/-- what an append within the room of a row leaves: the row, all else as it was -/
structure Fit (w w1 : World) (T : TypeId) (g : Nat) (vs : List Value) : Prop where
  row : w1.heap[g]? = some (.cells vs.toArray T (0, 0))
  fr : Fr (fun k => k = g) w w1
  size : w1.heap.size = w.heap.size

/-- where a source slice lies: where it has an element it has an address, and its cells are there -/
def Src (w : World) (ao : Option Addr) (m : Nat) (news : List Value) : Prop :=
  news.length = m ∧ (0 < m → ∃ ad, ao = some ad ∧ ∀ j u, news[j]? = some u → w.cell? (ad.add j) = some u)

theorem src_of_row {w : World} {g : Nat} {vs : List Value} {T : TypeId} (h : w.heap[g]? = some (.cells vs.toArray T (0, 0))) (a : Nat) : ∀ j u, (vs.drop a)[j]? = some u → w.cell? ((⟨g, a, none⟩ : Addr).add j) = some u := by
  intro j u hj
  rw [Addr.add_lit, cell_of_row w g (a + j) _ T (0, 0) h]
  rw [List.getElem?_drop] at hj
  simpa using hj

theorem run_append_fit {P : Program} (w : World) (t ty e : TypeId) (i : TypeInfo) (ht : P.underlying t = some (.slice e)) (hi : P.info? e = some i) (hsz : i.size = 1) (g k cap : Nat) (cur : List Value)
    (hg : w.heap[g]? = some (.cells cur.toArray e (0, 0))) (hc : cur.length = cap) (ao : Option Addr) (m c : Nat) (news : List Value) (hsrc : Src w ao m news) (h1 : ∀ u ∈ news, u.oneCell' = true) (hroom : k + m ≤ cap) (hz : ao = none → c = 0) :
    ∃ w1, (Builtin.append_ #[t, t] ty #[.slice (some ⟨g, 0, none⟩) k cap, .slice ao m c]).run P w = .ok (.slice (some ⟨g, 0, none⟩) (k + m) cap) w1 ∧ Fit w w1 e g (laid cur k news) := by
  obtain ⟨hl, hs⟩ := hsrc
  match ao, hs, hz with
  | some ad, hs, _ =>
    have hnews : ∀ j u, news[j]? = some u → w.cell? (ad.add j) = some u := by
      intro j u hj
      have hlt := (List.getElem?_eq_some_iff.1 hj).1
      obtain ⟨ad', e1, h⟩ := hs (by omega)
      obtain rfl := Option.some.inj e1
      exact h j u hj
    have hr := run_append_room (P := P) w t ty e i ht hi g k cap cur.toArray hg ad m c news (by rw [hsz]; omega) hnews h1 hroom (by simp [hsz]; omega)
    rw [hsz] at hr
    simp only [Nat.mul_one] at hr
    refine ⟨_, hr, ?_, ⟨rfl, rfl, rfl, by simp, fun j _ hj => setRow_other w g j _ (by simpa using hj)⟩, by simp⟩
    rw [setRow_heap w g _ _ e _ hg]
    rfl
  | none, hs, hz =>
    have hm : m = 0 := by
      rcases Nat.eq_zero_or_pos m with h | h
      · exact h
      · obtain ⟨_, h, _⟩ := hs h; cases h
    subst hm
    obtain rfl := hz rfl
    obtain rfl : news = [] := List.eq_nil_of_length_eq_zero hl
    refine ⟨w, ?_, ?_, Fr.refl _ _, rfl⟩
    · have hkc : k ≤ cap := by omega
      simp [Builtin.append_, run_underlying ht, sizeOf, typeInfo, hi, Builtin.lenOf, Builtin.firstCells, hkc, storeCells]
    · simpa [laid] using hg

/-- at a step of a region that draws its order -/
theorem step_append_fit {P : Program} {ops : Array Oper} {o : Oper} {a : Act} {w : World} {K : Act → World → Prop} {Q : Exit → Act → World → Prop} {E : Prop} (hgd : o.guard = none) (s x : Operand) (t : TypeId)
    (ho : o.op = .call { callee := .builtin .append, args := #[s, x], argTypes := #[t, t] })
    (e : TypeId) (i : TypeInfo) (ht : P.underlying t = some (.slice e)) (hi : P.info? e = some i) (hsz : i.size = 1) (g k cap : Nat) (cur : List Value) (hs : a.eval s = .slice (some ⟨g, 0, none⟩) k cap)
    (ao : Option Addr) (m c : Nat) (news : List Value) (hx : a.eval x = .slice ao m c)
    (hg : w.heap[g]? = some (.cells cur.toArray e (0, 0))) (hc : cur.length = cap) (hsrc : Src w ao m news) (h1 : ∀ u ∈ news, u.oneCell' = true) (hroom : k + m ≤ cap) (hz : ao = none → c = 0)
    (h : ∀ w1, Fit w w1 e g (laid cur k news) → K (a.put o.dst (.slice (some ⟨g, 0, none⟩) (k + m) cap)) w1) :
    if Region.wanted o (yielded ops a.tmps) = true then Oper.wp P o a w K Q else E := by
  have hw : Region.wanted o (yielded ops a.tmps) = true := by simp [Region.wanted, hgd]
  rw [if_pos hw]
  obtain ⟨w1, hr, hf⟩ := run_append_fit (P := P) w t o.type e i ht hi hsz g k cap cur hg hc ao m c news hsrc h1 hroom hz
  unfold Oper.wp execOp
  simp only [ho, resolve, invoke, builtin, Sem.run_bind, Sem.run_pure, Result.andThen_ok, List.map_toArray, List.map_cons, List.map_nil, hs, hx, hr]
  exact h w1 hf

theorem wpList_append_fit {P : Program} {w : World} {ops : Array Oper} {rest : List Oper} {o : Oper} {a : Act} {Q : Exit → Act → World → Prop} (hgd : o.guard = none) (s x : Operand) (t : TypeId)
    (ho : o.op = .call { callee := .builtin .append, args := #[s, x], argTypes := #[t, t] })
    (e : TypeId) (i : TypeInfo) (ht : P.underlying t = some (.slice e)) (hi : P.info? e = some i) (hsz : i.size = 1) (g k cap : Nat) (cur : List Value) (hs : a.eval s = .slice (some ⟨g, 0, none⟩) k cap)
    (ao : Option Addr) (m c : Nat) (news : List Value) (hx : a.eval x = .slice ao m c)
    (hg : w.heap[g]? = some (.cells cur.toArray e (0, 0))) (hc : cur.length = cap) (hsrc : Src w ao m news) (h1 : ∀ u ∈ news, u.oneCell' = true) (hroom : k + m ≤ cap) (hz : ao = none → c = 0)
    (h : ∀ w1, Fit w w1 e g (laid cur k news) → wpList P ops Q rest (a.put o.dst (.slice (some ⟨g, 0, none⟩) (k + m) cap)) w1) : wpList P ops Q (o :: rest) a w := by
  refine wpList_plain hgd fun K hK => ?_
  obtain ⟨w1, hr, hf⟩ := run_append_fit (P := P) w t o.type e i ht hi hsz g k cap cur hg hc ao m c news hsrc h1 hroom hz
  unfold Oper.wp execOp
  simp only [ho, resolve, invoke, builtin, Sem.run_bind, Sem.run_pure, Result.andThen_ok, List.map_toArray, List.map_cons, List.map_nil, hs, hx, hr]
  exact hK _ _ (h w1 hf)

/-- copy into a row that is known whole, at a step of a region that draws its order -/
theorem run_copy_fit {P : Program} (w : World) (dT sT ty elem : TypeId) (hu : P.underlying dT = some (.slice elem)) (hsz : (P.info? elem).map (·.size) = some 1)
    (dp sp : Option Addr) (dLen dCap sLen sCap : Nat) (g off : Nat) (cur : List Value) (t : TypeId) (hg : w.heap[g]? = some (.cells cur.toArray t (0, 0))) (cs : List Value) (hn : cs.length = Nat.min sLen dLen)
    (hpos : 0 < cs.length → dp = some ⟨g, off, none⟩ ∧ ∃ ad, sp = some ad ∧ ∀ j v, cs[j]? = some v → w.cell? (ad.add j) = some v)
    (hfit : off + cs.length ≤ cur.length) (h1 : ∀ v ∈ cs, v.oneCell' = true) :
    ∃ w1, (Builtin.copy_ #[dT, sT] ty #[.slice dp dLen dCap, .slice sp sLen sCap]).run P w = .ok (goInt cs.length) w1 ∧ Fit w w1 t g (laid cur off cs) := by
  by_cases h0 : cs.length = 0
  · obtain rfl : cs = [] := List.eq_nil_of_length_eq_zero h0
    refine ⟨w, ?_, ?_, Fr.refl _ _, rfl⟩
    · exact run_copy_none (P := P) w dT sT ty elem dp sp dLen dCap sLen sCap hu hsz (by simpa using hn.symm)
    · simpa [laid] using hg
  · obtain ⟨rfl, ad, rfl, hsrc⟩ := hpos (by omega)
    refine ⟨_, run_copy_row (P := P) w dT sT ty elem g off dLen dCap ad sLen sCap cur.toArray t cs hu hsz hg hn hsrc (by simpa using hfit) h1, ?_, ⟨rfl, rfl, rfl, by simp, fun j _ hj => setRow_other w g j _ (by simpa using hj)⟩, by simp⟩
    rw [setRow_heap w g _ _ t _ hg]
    simp [laid]

theorem step_copy_fit {P : Program} {ops : Array Oper} {o : Oper} {a : Act} {w : World} {K : Act → World → Prop} {Q : Exit → Act → World → Prop} {E : Prop} (hgd : o.guard = none) (d s : Operand) (dT sT : TypeId)
    (ho : o.op = .call { callee := .builtin .copy, args := #[d, s], argTypes := #[dT, sT] }) (elem : TypeId) (hu : P.underlying dT = some (.slice elem)) (hsz : (P.info? elem).map (·.size) = some 1)
    (dp sp : Option Addr) (dLen dCap sLen sCap : Nat) (hd : a.eval d = .slice dp dLen dCap) (hs : a.eval s = .slice sp sLen sCap)
    (g off : Nat) (cur : List Value) (t : TypeId) (hg : w.heap[g]? = some (.cells cur.toArray t (0, 0))) (cs : List Value) (hn : cs.length = Nat.min sLen dLen)
    (hpos : 0 < cs.length → dp = some ⟨g, off, none⟩ ∧ ∃ ad, sp = some ad ∧ ∀ j v, cs[j]? = some v → w.cell? (ad.add j) = some v)
    (hfit : off + cs.length ≤ cur.length) (h1 : ∀ v ∈ cs, v.oneCell' = true)
    (h : ∀ w1, Fit w w1 t g (laid cur off cs) → K (a.put o.dst (goInt cs.length)) w1) :
    if Region.wanted o (yielded ops a.tmps) = true then Oper.wp P o a w K Q else E := by
  have hw : Region.wanted o (yielded ops a.tmps) = true := by simp [Region.wanted, hgd]
  rw [if_pos hw]
  obtain ⟨w1, hr, hf⟩ := run_copy_fit (P := P) w dT sT o.type elem hu hsz dp sp dLen dCap sLen sCap g off cur t hg cs hn hpos hfit h1
  unfold Oper.wp
  simp [execOp, ho, resolve, invoke, builtin, hd, hs, hr, Result.andThen]
  exact h w1 hf

/-- drop: n.ids loses place d, n.kids too -/
structure DropOut (w w' : World) (N : Nat) (e : Int) (gI gK m d : Nat) (I K : List Value) : Prop where
  node : w'.heap[N]? = some (nd e (some ⟨gI, 0, none⟩) (m - 1) m (some ⟨gK, 0, none⟩) (m - 1) m)
  ids : Rw w' 2 gI (m - 1) m (I.eraseIdx d)
  kids : Rw w' 40 gK (m - 1) m (K.eraseIdx d)
  fr : Fr (fun k => k = N ∨ k = gI ∨ k = gK) w w'

/-- behind the first statement of drop -/
structure D0 (w w' : World) (N : Nat) (e : Int) (gI gK m d : Nat) (I K : List Value) : Prop where
  node : w'.heap[N]? = some (nd e (some ⟨gI, 0, none⟩) (m - 1) m (some ⟨gK, 0, none⟩) m m)
  ids : w'.heap[gI]? = some (.cells (laid I d (I.drop (d + 1))).toArray 2 (0, 0))
  kids : w'.heap[gK]? = some (.cells K.toArray 40 (0, 0))
  fr : Fr (fun k => k = N ∨ k = gI ∨ k = gK) w w'

theorem d0_of {w wd w1 : World} {N : Nat} {e : Int} {gI gK m d : Nat} {I K : List Value} (hwd : wd = w.drew) (hd : d < m) (n1 : N ≠ gI) (n2 : N ≠ gK) (n3 : gI ≠ gK) (hK : w.heap[gK]? = some (.cells K.toArray 40 (0, 0)))
    (hf : Fit wd w1 2 gI (laid I d (I.drop (d + 1)))) (hN1 : w1.heap[N]? = some (nd e (some ⟨gI, 0, none⟩) m m (some ⟨gK, 0, none⟩) m m)) :
    D0 w (w1.setCell ⟨N, 1, none⟩ (.slice (some ⟨gI, 0, none⟩) (d + (m - (d + 1))) m)) N e gI gK m d I K := by
  subst hwd
  have e1 : d + (m - (d + 1)) = m - 1 := by omega
  rw [e1]
  refine ⟨nd_set1 hN1 _ _ _, ?_, ?_, ?_⟩
  · rw [heap_setCell_other _ _ _ _ (by simp; omega)]; exact hf.row
  · rw [heap_setCell_other _ _ _ _ (by simp; omega)]; exact (hf.fr.block gK (by exact lt_of_blk hK) (by omega)).trans hK
  · exact ((Fr.drewN _ w 1).trans (hf.fr.mono fun k _ h => .inr (.inl h))).trans (Fr.setCell (S := fun k => k = N ∨ k = gI ∨ k = gK) w1 (p := ⟨N, 1, none⟩) (.inl rfl) _)

theorem laid_erase (I : List Value) (d m : Nat) (hl : I.length = m) (hd : d < m) : (laid I d (I.drop (d + 1))).take (m - 1) = I.eraseIdx d := by
  have h := laid_take I d (I.drop (d + 1)) (by omega)
  have e : d + (I.drop (d + 1)).length = m - 1 := by simp; omega
  rw [e] at h
  rw [h, List.eraseIdx_eq_take_drop_succ]

theorem drop_fin {w wc w2 W' : World} {N : Nat} {e : Int} {gI gK m d : Nat} {I K : List Value} (hd : d < m) (hm : m ≤ 1048576) (n1 : N ≠ gI) (n2 : N ≠ gK) (n3 : gI ≠ gK) (hIl : I.length = m) (hKl : K.length = m)
    (h0 : D0 w wc N e gI gK m d I K) (hf : Fit wc.drew w2 40 gK (laid K d (K.drop (d + 1)))) (hN2 : w2.heap[N]? = some (nd e (some ⟨gI, 0, none⟩) (m - 1) m (some ⟨gK, 0, none⟩) m m))
    (hh : W'.heap = ((w2.setCell ⟨gK, m - 1, none⟩ (.pointer none)).setCell ⟨N, 2, none⟩ (.slice (some ⟨gK, 0, none⟩) (m - 1) m)).heap) (ho : W'.os = w2.os) (ht : W'.tape = w2.tape) (hu : W'.output = w2.output) :
    DropOut w W' N e gI gK m d I K := by
  have hm' : m ≤ maxLen := by unfold maxLen; omega
  have hN3 : (w2.setCell ⟨gK, m - 1, none⟩ (.pointer none)).heap[N]? = some (nd e (some ⟨gI, 0, none⟩) (m - 1) m (some ⟨gK, 0, none⟩) m m) := (heap_setCell_other _ _ _ _ (by simpa using n2)).trans hN2
  have hI2 : w2.heap[gI]? = some (.cells (laid I d (I.drop (d + 1))).toArray 2 (0, 0)) := (hf.fr.block gI (by exact lt_of_blk h0.ids) n3).trans h0.ids
  have hI3 : W'.heap[gI]? = some (.cells (laid I d (I.drop (d + 1))).toArray 2 (0, 0)) := by
    rw [hh, heap_setCell_other _ _ _ _ (by simp; omega), heap_setCell_other _ _ _ _ (by simp; omega)]; exact hI2
  have hK3 : W'.heap[gK]? = some (.cells ((laid K d (K.drop (d + 1))).set (m - 1) (.pointer none)).toArray 40 (0, 0)) := by
    rw [hh, heap_setCell_other _ _ _ _ (by simp; omega), heap_setCell_same w2 gK (m - 1) _ 40 _ hf.row]
    simp
  have hlI := laid_len I d (I.drop (d + 1)) (by simp; omega)
  have hlK := laid_len K d (K.drop (d + 1)) (by simp; omega)
  refine ⟨?_, Rw.mk' (by omega) hm' hI3 (by simp; omega) (by simpa using laid_erase I d m hIl hd), Rw.mk' (by omega) hm' hK3 (by simp; omega) ?_, ?_⟩
  · rw [hh]; exact nd_set2 hN3 _ _ _
  · simp only [List.toList_toArray]
    rw [List.take_set_of_le (Nat.le_refl _)]
    exact laid_erase K d m hKl hd
  · have f1 : Fr (fun k => k = N ∨ k = gI ∨ k = gK) w w2 := (h0.fr.trans (Fr.drewN _ wc 1)).trans (hf.fr.mono fun k _ h => .inr (.inr h))
    have f2 : Fr (fun k => k = N ∨ k = gI ∨ k = gK) w2 ((w2.setCell ⟨gK, m - 1, none⟩ (.pointer none)).setCell ⟨N, 2, none⟩ (.slice (some ⟨gK, 0, none⟩) (m - 1) m)) := (Fr.setCell (S := fun k => k = N ∨ k = gI ∨ k = gK) w2 (p := ⟨gK, m - 1, none⟩) (.inr (.inr rfl)) _).trans (Fr.setCell (S := fun k => k = N ∨ k = gI ∨ k = gK) _ (p := ⟨N, 2, none⟩) (.inl rfl) _)
    have f3 := f1.trans f2
    exact ⟨ho.trans f1.os, ht.trans f1.tape, hu.trans f1.output, by rw [hh]; exact f3.size, fun k hk hs => by rw [hh]; exact f3.block k hk hs⟩

end Go.Proofs.Qxb6602784a
