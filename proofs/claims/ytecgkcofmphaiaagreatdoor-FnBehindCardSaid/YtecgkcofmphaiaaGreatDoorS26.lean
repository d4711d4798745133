/- The closed facts of the row of 'laws.FnBehind', one by one. -/
import Derived.Test.YtecgkcofmphaiaaGreatDoorRows
import Derived.ProofKit
import Derived.JoinedOf
set_option linter.unusedVariables false
set_option linter.unusedSimpArgs false
set_option linter.unnecessarySimpa false
set_option linter.unusedSectionVars false
namespace Go.Proofs.YtecgkcofmphaiaaGreatDoor
open Go
set_option maxRecDepth 100000
theorem fnBehind_j0 : (Rows.fnBehindRow.wf (OpenSpec.ofChange Rows.fnBehindSpec)) = true := by kernel_rfl
theorem fnBehind_j1 : (laidOutB Tryz.prog) = true := by kernel_rfl
theorem fnBehind_j2 : (mapsRowed Tryz.prog) = true := by kernel_rfl
theorem fnBehind_j3 : (Tryz.f4.params.all (Tryz.prog.readableRec ·)) = true := by kernel_rfl
theorem fnBehind_j4 : (namedTie Tryz.prog Rows.fnBehindRow.named Rows.fnBehindSpec.vars) = true := by kernel_rfl
theorem fnBehind_j5 : ((Rows.fnBehindRow.stops == [])) = true := by kernel_rfl
theorem fnBehind_j6 : ((Tryz.prog.stops == [])) = true := by kernel_rfl
theorem fnBehind_j7 : ((Rows.fnBehindRow.knobs == [])) = true := by kernel_rfl
theorem fnBehind_j8 : ((Tryz.prog.stopKnobs == [])) = true := by kernel_rfl
theorem fnBehind_j9 : ((Rows.fnBehindRow.inPlace == Tryz.prog.inPlace 4)) = true := by kernel_rfl
theorem fnBehind_j10 : ((Rows.fnBehindRow.unfollowed == Tryz.prog.unfollowed 4)) = true := by kernel_rfl
theorem fnBehind_j11 : ((Rows.fnBehindRow.recurses == Tryz.prog.recurses 4)) = true := by kernel_rfl
theorem fnBehind_j12 : ((Rows.fnBehindRow.named == Tryz.prog.varsNamed 4)) = true := by kernel_rfl
theorem fnBehind_j13 : ((Rows.fnBehindRow.maps == (Tryz.f4.params.toList ++ Rows.fnBehindSpec.plain.varTypes Tryz.prog).any (Tryz.prog.mapsRec ·))) = true := by kernel_rfl
theorem fnBehind_j14 : ((Rows.fnBehindRow.ifaces == (Tryz.f4.params.toList ++ Rows.fnBehindSpec.plain.varTypes Tryz.prog).any (Tryz.prog.ifacesRec ·))) = true := by kernel_rfl
theorem fnBehind_j15 : ((Rows.fnBehindRow.mapsOut == Tryz.prog.mapsAmong Tryz.f4.resultTypes.toList)) = true := by kernel_rfl
theorem fnBehind_j16 : ((Rows.fnBehindRow.loops == (Tryz.f4.params.toList ++ Rows.fnBehindSpec.plain.varTypes Tryz.prog).any (Tryz.prog.loopsFrom ·))) = true := by kernel_rfl
theorem fnBehind_j17 : ((Rows.fnBehindRow.wideKeys == (Tryz.f4.params.toList ++ Rows.fnBehindSpec.plain.varTypes Tryz.prog ++ Tryz.f4.resultTypes.toList).any (Tryz.prog.wideKeysFrom ·))) = true := by kernel_rfl
theorem fnBehind_j18 : (Rows.fnBehindSpec.vars.all (Tryz.prog.varReadable ·)) = true := by kernel_rfl
theorem fnBehind_j19 : (Tryz.f4.resultTypes.all (fun t => Tryz.prog.readableRec t && decide (t < Tryz.prog.types.size))) = true := by kernel_rfl
theorem fnBehind_j20 : ((Rows.fnBehindRow.ifacesOut == Tryz.f4.resultTypes.toList.any (Tryz.prog.ifacesRec ·))) = true := by kernel_rfl
theorem fnBehind_j21 : ((Rows.fnBehindRow.loopsOut == Tryz.f4.resultTypes.toList.any (Tryz.prog.loopsFrom ·))) = true := by kernel_rfl
theorem fnBehind_j22 : ((Rows.fnBehindRow.plainKeys == Tryz.prog.plainKeys)) = true := by kernel_rfl
theorem fnBehind_j23 : (Rows.fnBehindRow.shortTexts.isNone) = true := by kernel_rfl
theorem fnBehind_j24 : (Tryz.prog.stopsHeard) = true := by kernel_rfl
theorem fnBehind_j25 : (Tryz.prog.mayEnter) = true := by kernel_rfl
theorem fnBehind_j26 : ((Rows.fnBehindRow.lifted == Tryz.prog.liftsFinal)) = true := by kernel_rfl
theorem fnBehind_j27 : ((Tryz.prog.make == some Rows.fnBehindRow.make)) = true := by kernel_rfl
theorem fnBehind_j28 : ((Rows.fnBehindRow.kinds == (if Rows.fnBehindRow.domain.isEmpty then [] else Tryz.f4.params.toList.map fun t => match Tryz.prog.underlying t with | some (.int k) => some k | _ => none))) = true := by kernel_rfl
theorem fnBehind_j29 : ((Rows.fnBehindRow.pinned == Rows.fnBehindRow.pinnedBy)) = true := by kernel_rfl
theorem fnBehind_j30 : ((Rows.fnBehindRow.veiled == (Tryz.f4.params.toList ++ Rows.fnBehindSpec.plain.varTypes Tryz.prog ++ Tryz.f4.resultTypes.toList).any (Tryz.prog.veiledRec ·))) = true := by kernel_rfl
theorem fnBehind_j31 : (Rows.fnBehindRow.veiledFits Tryz.prog Tryz.f4.params.toList (Tryz.f4.params.toList ++ Rows.fnBehindSpec.plain.varTypes Tryz.prog ++ Tryz.f4.resultTypes.toList)) = true := by kernel_rfl
theorem fnBehind_facts : joinedFacts Tryz.prog 4 Tryz.f4 Rows.fnBehindSpec Rows.fnBehindRow = true := by
  simp only [joinedFacts, Bool.and_eq_true]
  exact ⟨⟨⟨⟨⟨⟨⟨⟨⟨⟨⟨⟨⟨⟨⟨⟨⟨⟨⟨⟨⟨⟨⟨⟨⟨⟨⟨⟨⟨⟨⟨fnBehind_j0, fnBehind_j1⟩, fnBehind_j2⟩, fnBehind_j3⟩, fnBehind_j4⟩, fnBehind_j5⟩, fnBehind_j6⟩, fnBehind_j7⟩, fnBehind_j8⟩, fnBehind_j9⟩, fnBehind_j10⟩, fnBehind_j11⟩, fnBehind_j12⟩, fnBehind_j13⟩, fnBehind_j14⟩, fnBehind_j15⟩, fnBehind_j16⟩, fnBehind_j17⟩, fnBehind_j18⟩, fnBehind_j19⟩, fnBehind_j20⟩, fnBehind_j21⟩, fnBehind_j22⟩, fnBehind_j23⟩, fnBehind_j24⟩, fnBehind_j25⟩, fnBehind_j26⟩, fnBehind_j27⟩, fnBehind_j28⟩, fnBehind_j29⟩, fnBehind_j30⟩, fnBehind_j31⟩
theorem fnBehind_named : Tryz.prog.funcNamed "loop.example/pub-g01494/laws.FnBehind" = some 4 := by kernel_rfl
theorem fnBehind_inst : Tryz.f4.isInstance Tryz.pinned.checked.prog Rows.fnBehindRow.origin Rows.fnBehindRow.targs := of_decide_eq_true (by kernel_rfl)
theorem fnBehind_wrap : Tryz.f4.isWrapper Tryz.pinned.checked.prog Rows.fnBehindRow.wrapper Rows.fnBehindRow.mainSum := by
  unfold Func.isWrapper
  rw [if_neg (by decide +kernel)]
  exact ⟨rfl, rfl⟩
end Go.Proofs.YtecgkcofmphaiaaGreatDoor
