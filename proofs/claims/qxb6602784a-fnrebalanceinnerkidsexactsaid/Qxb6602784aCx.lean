/-
  The closed facts of this seat's rows, one declaration a fact, so that no one declaration outgrows the kernel's lid of memory.
-/
import Derived.Test.Qxb6602784aRows
import Derived.WalkKit
import Derived.ProofKit
namespace Go.Proofs.Qxb6602784a
open Go.RowKit

theorem pf1 : (laidOutB Try.pinned.checked.prog) = true := by kernel_rfl
theorem pf2 : (mapsRowed Try.pinned.checked.prog) = true := by kernel_rfl
theorem pf6 : ((Try.pinned.checked.prog.stops == [])) = true := by kernel_rfl
theorem pf8 : ((Try.pinned.checked.prog.stopKnobs == [])) = true := by kernel_rfl
theorem pf24 : (Try.pinned.checked.prog.stopsHeard) = true := by kernel_rfl
theorem pf25 : (Try.pinned.checked.prog.mayEnter) = true := by kernel_rfl
theorem pf22 : (Rows.fnRebalanceRestoresFillRow.plainKeys == Try.pinned.checked.prog.plainKeys) = true := by kernel_rfl
theorem pf26 : (Rows.fnRebalanceRestoresFillRow.lifted == Try.pinned.checked.prog.liftsFinal) = true := by kernel_rfl
theorem pf27 : (Try.pinned.checked.prog.make == some Rows.fnRebalanceRestoresFillRow.make) = true := by kernel_rfl

namespace fnRebalanceRestoresFill
theorem c0 : (Rows.fnRebalanceRestoresFillRow.wf (OpenSpec.ofChange Rows.fnRebalanceRestoresFillSpec)) = true := by kernel_rfl
theorem c1 : (laidOutB Try.pinned.checked.prog) = true := pf1
theorem c2 : (mapsRowed Try.pinned.checked.prog) = true := pf2
theorem c3 : (Try.f10.params.all (Try.pinned.checked.prog.readableRec ·)) = true := by kernel_rfl
theorem c4 : (namedTie Try.pinned.checked.prog Rows.fnRebalanceRestoresFillRow.named Rows.fnRebalanceRestoresFillSpec.vars) = true := by kernel_rfl
theorem c5 : ((Rows.fnRebalanceRestoresFillRow.stops == [])) = true := by kernel_rfl
theorem c6 : ((Try.pinned.checked.prog.stops == [])) = true := pf6
theorem c7 : ((Rows.fnRebalanceRestoresFillRow.knobs == [])) = true := by kernel_rfl
theorem c8 : ((Try.pinned.checked.prog.stopKnobs == [])) = true := pf8
theorem c9 : ((Rows.fnRebalanceRestoresFillRow.inPlace == Try.pinned.checked.prog.inPlace 10)) = true := by kernel_rfl
theorem c10 : ((Rows.fnRebalanceRestoresFillRow.unfollowed == Try.pinned.checked.prog.unfollowed 10)) = true := by kernel_rfl
theorem c11 : ((Rows.fnRebalanceRestoresFillRow.recurses == Try.pinned.checked.prog.recurses 10)) = true := by kernel_rfl
theorem c12 : ((Rows.fnRebalanceRestoresFillRow.named == Try.pinned.checked.prog.varsNamed 10)) = true := by kernel_rfl
theorem c13 : ((Rows.fnRebalanceRestoresFillRow.maps == (Try.f10.params.toList ++ Rows.fnRebalanceRestoresFillSpec.plain.varTypes Try.pinned.checked.prog).any (Try.pinned.checked.prog.mapsRec ·))) = true := by kernel_rfl
theorem c14 : ((Rows.fnRebalanceRestoresFillRow.ifaces == (Try.f10.params.toList ++ Rows.fnRebalanceRestoresFillSpec.plain.varTypes Try.pinned.checked.prog).any (Try.pinned.checked.prog.ifacesRec ·))) = true := by kernel_rfl
theorem c15 : ((Rows.fnRebalanceRestoresFillRow.mapsOut == Try.pinned.checked.prog.mapsAmong Try.f10.resultTypes.toList)) = true := by kernel_rfl
theorem c16 : ((Rows.fnRebalanceRestoresFillRow.loops == (Try.f10.params.toList ++ Rows.fnRebalanceRestoresFillSpec.plain.varTypes Try.pinned.checked.prog).any (Try.pinned.checked.prog.loopsFrom ·))) = true := by kernel_rfl
theorem c17 : ((Rows.fnRebalanceRestoresFillRow.wideKeys == (Try.f10.params.toList ++ Rows.fnRebalanceRestoresFillSpec.plain.varTypes Try.pinned.checked.prog ++ Try.f10.resultTypes.toList).any (Try.pinned.checked.prog.wideKeysFrom ·))) = true := by kernel_rfl
theorem c18 : (Rows.fnRebalanceRestoresFillSpec.vars.all (Try.pinned.checked.prog.varReadable ·)) = true := by kernel_rfl
theorem c19 : (Try.f10.resultTypes.all (fun t => Try.pinned.checked.prog.readableRec t && decide (t < Try.pinned.checked.prog.types.size))) = true := by kernel_rfl
theorem c20 : ((Rows.fnRebalanceRestoresFillRow.ifacesOut == Try.f10.resultTypes.toList.any (Try.pinned.checked.prog.ifacesRec ·))) = true := by kernel_rfl
theorem c21 : ((Rows.fnRebalanceRestoresFillRow.loopsOut == Try.f10.resultTypes.toList.any (Try.pinned.checked.prog.loopsFrom ·))) = true := by kernel_rfl
theorem c22 : ((Rows.fnRebalanceRestoresFillRow.plainKeys == Try.pinned.checked.prog.plainKeys)) = true := pf22
theorem c23 : (Rows.fnRebalanceRestoresFillRow.shortTexts.isNone) = true := by kernel_rfl
theorem c24 : (Try.pinned.checked.prog.stopsHeard) = true := pf24
theorem c25 : (Try.pinned.checked.prog.mayEnter) = true := pf25
theorem c26 : ((Rows.fnRebalanceRestoresFillRow.lifted == Try.pinned.checked.prog.liftsFinal)) = true := pf26
theorem c27 : ((Try.pinned.checked.prog.make == some Rows.fnRebalanceRestoresFillRow.make)) = true := pf27
theorem c28 : ((Rows.fnRebalanceRestoresFillRow.kinds == (if Rows.fnRebalanceRestoresFillRow.domain.isEmpty then [] else Try.f10.params.toList.map fun t => match Try.pinned.checked.prog.underlying t with | some (.int k) => some k | _ => none))) = true := by kernel_rfl
theorem c29 : ((Rows.fnRebalanceRestoresFillRow.pinned == Rows.fnRebalanceRestoresFillRow.pinnedBy)) = true := by kernel_rfl
theorem c30 : ((Rows.fnRebalanceRestoresFillRow.veiled == (Try.f10.params.toList ++ Rows.fnRebalanceRestoresFillSpec.plain.varTypes Try.pinned.checked.prog ++ Try.f10.resultTypes.toList).any (Try.pinned.checked.prog.veiledRec ·))) = true := by kernel_rfl
theorem c31 : (Rows.fnRebalanceRestoresFillRow.veiledFits Try.pinned.checked.prog Try.f10.params.toList (Try.f10.params.toList ++ Rows.fnRebalanceRestoresFillSpec.plain.varTypes Try.pinned.checked.prog ++ Try.f10.resultTypes.toList)) = true := by kernel_rfl
theorem closed : joinedFacts Try.pinned.checked.prog 10 Try.f10 Rows.fnRebalanceRestoresFillSpec Rows.fnRebalanceRestoresFillRow = true := by
  rw [joinedFacts, c0, c1, c2, c3, c4, c5, c6, c7, c8, c9, c10, c11, c12, c13, c14, c15, c16, c17, c18, c19, c20, c21, c22, c23, c24, c25, c26, c27, c29, c30, c31]
  kernel_rfl
theorem named : Try.pinned.checked.prog.funcNamed Rows.fnRebalanceRestoresFillRow.func = some 10 := by kernel_rfl
theorem inst : Try.f10.isInstance Try.pinned.checked.prog Rows.fnRebalanceRestoresFillRow.origin Rows.fnRebalanceRestoresFillRow.targs := of_decide_eq_true (by kernel_rfl)
theorem wrap : Try.f10.isWrapper Try.pinned.checked.prog Rows.fnRebalanceRestoresFillRow.wrapper Rows.fnRebalanceRestoresFillRow.mainSum := by
  unfold Func.isWrapper; first | (rw [if_pos (by decide +kernel)]; kernel_rfl) | (rw [if_neg (by decide +kernel)]; exact ⟨rfl, rfl⟩)
end fnRebalanceRestoresFill

namespace fnRebalanceInnerKidsExact
theorem c0 : (Rows.fnRebalanceInnerKidsExactRow.wf (OpenSpec.ofChange Rows.fnRebalanceInnerKidsExactSpec)) = true := by kernel_rfl
theorem c1 : (laidOutB Try.pinned.checked.prog) = true := pf1
theorem c2 : (mapsRowed Try.pinned.checked.prog) = true := pf2
theorem c3 : (Try.f9.params.all (Try.pinned.checked.prog.readableRec ·)) = true := by kernel_rfl
theorem c4 : (namedTie Try.pinned.checked.prog Rows.fnRebalanceInnerKidsExactRow.named Rows.fnRebalanceInnerKidsExactSpec.vars) = true := by kernel_rfl
theorem c5 : ((Rows.fnRebalanceInnerKidsExactRow.stops == [])) = true := by kernel_rfl
theorem c6 : ((Try.pinned.checked.prog.stops == [])) = true := pf6
theorem c7 : ((Rows.fnRebalanceInnerKidsExactRow.knobs == [])) = true := by kernel_rfl
theorem c8 : ((Try.pinned.checked.prog.stopKnobs == [])) = true := pf8
theorem c9 : ((Rows.fnRebalanceInnerKidsExactRow.inPlace == Try.pinned.checked.prog.inPlace 9)) = true := by kernel_rfl
theorem c10 : ((Rows.fnRebalanceInnerKidsExactRow.unfollowed == Try.pinned.checked.prog.unfollowed 9)) = true := by kernel_rfl
theorem c11 : ((Rows.fnRebalanceInnerKidsExactRow.recurses == Try.pinned.checked.prog.recurses 9)) = true := by kernel_rfl
theorem c12 : ((Rows.fnRebalanceInnerKidsExactRow.named == Try.pinned.checked.prog.varsNamed 9)) = true := by kernel_rfl
theorem c13 : ((Rows.fnRebalanceInnerKidsExactRow.maps == (Try.f9.params.toList ++ Rows.fnRebalanceInnerKidsExactSpec.plain.varTypes Try.pinned.checked.prog).any (Try.pinned.checked.prog.mapsRec ·))) = true := by kernel_rfl
theorem c14 : ((Rows.fnRebalanceInnerKidsExactRow.ifaces == (Try.f9.params.toList ++ Rows.fnRebalanceInnerKidsExactSpec.plain.varTypes Try.pinned.checked.prog).any (Try.pinned.checked.prog.ifacesRec ·))) = true := by kernel_rfl
theorem c15 : ((Rows.fnRebalanceInnerKidsExactRow.mapsOut == Try.pinned.checked.prog.mapsAmong Try.f9.resultTypes.toList)) = true := by kernel_rfl
theorem c16 : ((Rows.fnRebalanceInnerKidsExactRow.loops == (Try.f9.params.toList ++ Rows.fnRebalanceInnerKidsExactSpec.plain.varTypes Try.pinned.checked.prog).any (Try.pinned.checked.prog.loopsFrom ·))) = true := by kernel_rfl
theorem c17 : ((Rows.fnRebalanceInnerKidsExactRow.wideKeys == (Try.f9.params.toList ++ Rows.fnRebalanceInnerKidsExactSpec.plain.varTypes Try.pinned.checked.prog ++ Try.f9.resultTypes.toList).any (Try.pinned.checked.prog.wideKeysFrom ·))) = true := by kernel_rfl
theorem c18 : (Rows.fnRebalanceInnerKidsExactSpec.vars.all (Try.pinned.checked.prog.varReadable ·)) = true := by kernel_rfl
theorem c19 : (Try.f9.resultTypes.all (fun t => Try.pinned.checked.prog.readableRec t && decide (t < Try.pinned.checked.prog.types.size))) = true := by kernel_rfl
theorem c20 : ((Rows.fnRebalanceInnerKidsExactRow.ifacesOut == Try.f9.resultTypes.toList.any (Try.pinned.checked.prog.ifacesRec ·))) = true := by kernel_rfl
theorem c21 : ((Rows.fnRebalanceInnerKidsExactRow.loopsOut == Try.f9.resultTypes.toList.any (Try.pinned.checked.prog.loopsFrom ·))) = true := by kernel_rfl
theorem c22 : ((Rows.fnRebalanceInnerKidsExactRow.plainKeys == Try.pinned.checked.prog.plainKeys)) = true := pf22
theorem c23 : (Rows.fnRebalanceInnerKidsExactRow.shortTexts.isNone) = true := by kernel_rfl
theorem c24 : (Try.pinned.checked.prog.stopsHeard) = true := pf24
theorem c25 : (Try.pinned.checked.prog.mayEnter) = true := pf25
theorem c26 : ((Rows.fnRebalanceInnerKidsExactRow.lifted == Try.pinned.checked.prog.liftsFinal)) = true := pf26
theorem c27 : ((Try.pinned.checked.prog.make == some Rows.fnRebalanceInnerKidsExactRow.make)) = true := pf27
theorem c28 : ((Rows.fnRebalanceInnerKidsExactRow.kinds == (if Rows.fnRebalanceInnerKidsExactRow.domain.isEmpty then [] else Try.f9.params.toList.map fun t => match Try.pinned.checked.prog.underlying t with | some (.int k) => some k | _ => none))) = true := by kernel_rfl
theorem c29 : ((Rows.fnRebalanceInnerKidsExactRow.pinned == Rows.fnRebalanceInnerKidsExactRow.pinnedBy)) = true := by kernel_rfl
theorem c30 : ((Rows.fnRebalanceInnerKidsExactRow.veiled == (Try.f9.params.toList ++ Rows.fnRebalanceInnerKidsExactSpec.plain.varTypes Try.pinned.checked.prog ++ Try.f9.resultTypes.toList).any (Try.pinned.checked.prog.veiledRec ·))) = true := by kernel_rfl
theorem c31 : (Rows.fnRebalanceInnerKidsExactRow.veiledFits Try.pinned.checked.prog Try.f9.params.toList (Try.f9.params.toList ++ Rows.fnRebalanceInnerKidsExactSpec.plain.varTypes Try.pinned.checked.prog ++ Try.f9.resultTypes.toList)) = true := by kernel_rfl
theorem closed : joinedFacts Try.pinned.checked.prog 9 Try.f9 Rows.fnRebalanceInnerKidsExactSpec Rows.fnRebalanceInnerKidsExactRow = true := by
  rw [joinedFacts, c0, c1, c2, c3, c4, c5, c6, c7, c8, c9, c10, c11, c12, c13, c14, c15, c16, c17, c18, c19, c20, c21, c22, c23, c24, c25, c26, c27, c29, c30, c31]
  kernel_rfl
theorem named : Try.pinned.checked.prog.funcNamed Rows.fnRebalanceInnerKidsExactRow.func = some 9 := by kernel_rfl
theorem inst : Try.f9.isInstance Try.pinned.checked.prog Rows.fnRebalanceInnerKidsExactRow.origin Rows.fnRebalanceInnerKidsExactRow.targs := of_decide_eq_true (by kernel_rfl)
theorem wrap : Try.f9.isWrapper Try.pinned.checked.prog Rows.fnRebalanceInnerKidsExactRow.wrapper Rows.fnRebalanceInnerKidsExactRow.mainSum := by
  unfold Func.isWrapper; first | (rw [if_pos (by decide +kernel)]; kernel_rfl) | (rw [if_neg (by decide +kernel)]; exact ⟨rfl, rfl⟩)
end fnRebalanceInnerKidsExact

end Go.Proofs.Qxb6602784a
