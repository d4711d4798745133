/- The closed facts of the row of 'laws.FnCut', one by one. -/
import Derived.Test.YtecgkcofmphaiaaGreatDoorRows
import Derived.ProofKit
import Derived.JoinedOf
set_option linter.unusedVariables false
set_option linter.unusedSimpArgs false
set_option linter.unnecessarySimpa false
set_option linter.unusedSectionVars false
namespace Go.Proofs.YtecgkcofmphaiaaGreatDoor
open Go
set_option maxRecDepth 100000
theorem fnCut_j0 : (Rows.fnCutRow.wf (OpenSpec.ofChange Rows.fnCutSpec)) = true := by kernel_rfl
theorem fnCut_j1 : (laidOutB Tryz.prog) = true := by kernel_rfl
theorem fnCut_j2 : (mapsRowed Tryz.prog) = true := by kernel_rfl
theorem fnCut_j3 : (Tryz.f5.params.all (Tryz.prog.readableRec ·)) = true := by kernel_rfl
theorem fnCut_j4 : (namedTie Tryz.prog Rows.fnCutRow.named Rows.fnCutSpec.vars) = true := by kernel_rfl
theorem fnCut_j5 : ((Rows.fnCutRow.stops == [])) = true := by kernel_rfl
theorem fnCut_j6 : ((Tryz.prog.stops == [])) = true := by kernel_rfl
theorem fnCut_j7 : ((Rows.fnCutRow.knobs == [])) = true := by kernel_rfl
theorem fnCut_j8 : ((Tryz.prog.stopKnobs == [])) = true := by kernel_rfl
theorem fnCut_j9 : ((Rows.fnCutRow.inPlace == Tryz.prog.inPlace 5)) = true := by kernel_rfl
theorem fnCut_j10 : ((Rows.fnCutRow.unfollowed == Tryz.prog.unfollowed 5)) = true := by kernel_rfl
theorem fnCut_j11 : ((Rows.fnCutRow.recurses == Tryz.prog.recurses 5)) = true := by kernel_rfl
theorem fnCut_j12 : ((Rows.fnCutRow.named == Tryz.prog.varsNamed 5)) = true := by kernel_rfl
theorem fnCut_j13 : ((Rows.fnCutRow.maps == (Tryz.f5.params.toList ++ Rows.fnCutSpec.plain.varTypes Tryz.prog).any (Tryz.prog.mapsRec ·))) = true := by kernel_rfl
theorem fnCut_j14 : ((Rows.fnCutRow.ifaces == (Tryz.f5.params.toList ++ Rows.fnCutSpec.plain.varTypes Tryz.prog).any (Tryz.prog.ifacesRec ·))) = true := by kernel_rfl
theorem fnCut_j15 : ((Rows.fnCutRow.mapsOut == Tryz.prog.mapsAmong Tryz.f5.resultTypes.toList)) = true := by kernel_rfl
theorem fnCut_j16 : ((Rows.fnCutRow.loops == (Tryz.f5.params.toList ++ Rows.fnCutSpec.plain.varTypes Tryz.prog).any (Tryz.prog.loopsFrom ·))) = true := by kernel_rfl
theorem fnCut_j17 : ((Rows.fnCutRow.wideKeys == (Tryz.f5.params.toList ++ Rows.fnCutSpec.plain.varTypes Tryz.prog ++ Tryz.f5.resultTypes.toList).any (Tryz.prog.wideKeysFrom ·))) = true := by kernel_rfl
theorem fnCut_j18 : (Rows.fnCutSpec.vars.all (Tryz.prog.varReadable ·)) = true := by kernel_rfl
theorem fnCut_j19 : (Tryz.f5.resultTypes.all (fun t => Tryz.prog.readableRec t && decide (t < Tryz.prog.types.size))) = true := by kernel_rfl
theorem fnCut_j20 : ((Rows.fnCutRow.ifacesOut == Tryz.f5.resultTypes.toList.any (Tryz.prog.ifacesRec ·))) = true := by kernel_rfl
theorem fnCut_j21 : ((Rows.fnCutRow.loopsOut == Tryz.f5.resultTypes.toList.any (Tryz.prog.loopsFrom ·))) = true := by kernel_rfl
theorem fnCut_j22 : ((Rows.fnCutRow.plainKeys == Tryz.prog.plainKeys)) = true := by kernel_rfl
theorem fnCut_j23 : (Rows.fnCutRow.shortTexts.isNone) = true := by kernel_rfl
theorem fnCut_j24 : (Tryz.prog.stopsHeard) = true := by kernel_rfl
theorem fnCut_j25 : (Tryz.prog.mayEnter) = true := by kernel_rfl
theorem fnCut_j26 : ((Rows.fnCutRow.lifted == Tryz.prog.liftsFinal)) = true := by kernel_rfl
theorem fnCut_j27 : ((Tryz.prog.make == some Rows.fnCutRow.make)) = true := by kernel_rfl
theorem fnCut_j28 : ((Rows.fnCutRow.kinds == (if Rows.fnCutRow.domain.isEmpty then [] else Tryz.f5.params.toList.map fun t => match Tryz.prog.underlying t with | some (.int k) => some k | _ => none))) = true := by kernel_rfl
theorem fnCut_j29 : ((Rows.fnCutRow.pinned == Rows.fnCutRow.pinnedBy)) = true := by kernel_rfl
theorem fnCut_j30 : ((Rows.fnCutRow.veiled == (Tryz.f5.params.toList ++ Rows.fnCutSpec.plain.varTypes Tryz.prog ++ Tryz.f5.resultTypes.toList).any (Tryz.prog.veiledRec ·))) = true := by kernel_rfl
theorem fnCut_j31 : (Rows.fnCutRow.veiledFits Tryz.prog Tryz.f5.params.toList (Tryz.f5.params.toList ++ Rows.fnCutSpec.plain.varTypes Tryz.prog ++ Tryz.f5.resultTypes.toList)) = true := by kernel_rfl
theorem fnCut_facts : joinedFacts Tryz.prog 5 Tryz.f5 Rows.fnCutSpec Rows.fnCutRow = true := by
  simp only [joinedFacts, Bool.and_eq_true]
  exact ⟨⟨⟨⟨⟨⟨⟨⟨⟨⟨⟨⟨⟨⟨⟨⟨⟨⟨⟨⟨⟨⟨⟨⟨⟨⟨⟨⟨⟨⟨⟨fnCut_j0, fnCut_j1⟩, fnCut_j2⟩, fnCut_j3⟩, fnCut_j4⟩, fnCut_j5⟩, fnCut_j6⟩, fnCut_j7⟩, fnCut_j8⟩, fnCut_j9⟩, fnCut_j10⟩, fnCut_j11⟩, fnCut_j12⟩, fnCut_j13⟩, fnCut_j14⟩, fnCut_j15⟩, fnCut_j16⟩, fnCut_j17⟩, fnCut_j18⟩, fnCut_j19⟩, fnCut_j20⟩, fnCut_j21⟩, fnCut_j22⟩, fnCut_j23⟩, fnCut_j24⟩, fnCut_j25⟩, fnCut_j26⟩, fnCut_j27⟩, fnCut_j28⟩, fnCut_j29⟩, fnCut_j30⟩, fnCut_j31⟩
theorem fnCut_named : Tryz.prog.funcNamed "loop.example/pub-g01494/laws.FnCut" = some 5 := by kernel_rfl
theorem fnCut_inst : Tryz.f5.isInstance Tryz.pinned.checked.prog Rows.fnCutRow.origin Rows.fnCutRow.targs := of_decide_eq_true (by kernel_rfl)
theorem fnCut_wrap : Tryz.f5.isWrapper Tryz.pinned.checked.prog Rows.fnCutRow.wrapper Rows.fnCutRow.mainSum := by
  unfold Func.isWrapper
  rw [if_neg (by decide +kernel)]
  exact ⟨rfl, rfl⟩
end Go.Proofs.YtecgkcofmphaiaaGreatDoor
