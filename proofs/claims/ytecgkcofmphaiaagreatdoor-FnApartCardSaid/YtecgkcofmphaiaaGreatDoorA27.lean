/- The closed facts of the row of 'laws.FnApart', one by one. -/
import Derived.Test.YtecgkcofmphaiaaGreatDoorRows
import Derived.ProofKit
import Derived.JoinedOf
set_option linter.unusedVariables false
set_option linter.unusedSimpArgs false
set_option linter.unnecessarySimpa false
set_option linter.unusedSectionVars false
namespace Go.Proofs.YtecgkcofmphaiaaGreatDoor
open Go
set_option maxRecDepth 100000
theorem fnApart_j0 : (Rows.fnApartRow.wf (OpenSpec.ofChange Rows.fnApartSpec)) = true := by kernel_rfl
theorem fnApart_j1 : (laidOutB Tryz.prog) = true := by kernel_rfl
theorem fnApart_j2 : (mapsRowed Tryz.prog) = true := by kernel_rfl
theorem fnApart_j3 : (Tryz.f3.params.all (Tryz.prog.readableRec ·)) = true := by kernel_rfl
theorem fnApart_j4 : (namedTie Tryz.prog Rows.fnApartRow.named Rows.fnApartSpec.vars) = true := by kernel_rfl
theorem fnApart_j5 : ((Rows.fnApartRow.stops == [])) = true := by kernel_rfl
theorem fnApart_j6 : ((Tryz.prog.stops == [])) = true := by kernel_rfl
theorem fnApart_j7 : ((Rows.fnApartRow.knobs == [])) = true := by kernel_rfl
theorem fnApart_j8 : ((Tryz.prog.stopKnobs == [])) = true := by kernel_rfl
theorem fnApart_j9 : ((Rows.fnApartRow.inPlace == Tryz.prog.inPlace 3)) = true := by kernel_rfl
theorem fnApart_j10 : ((Rows.fnApartRow.unfollowed == Tryz.prog.unfollowed 3)) = true := by kernel_rfl
theorem fnApart_j11 : ((Rows.fnApartRow.recurses == Tryz.prog.recurses 3)) = true := by kernel_rfl
theorem fnApart_j12 : ((Rows.fnApartRow.named == Tryz.prog.varsNamed 3)) = true := by kernel_rfl
theorem fnApart_j13 : ((Rows.fnApartRow.maps == (Tryz.f3.params.toList ++ Rows.fnApartSpec.plain.varTypes Tryz.prog).any (Tryz.prog.mapsRec ·))) = true := by kernel_rfl
theorem fnApart_j14 : ((Rows.fnApartRow.ifaces == (Tryz.f3.params.toList ++ Rows.fnApartSpec.plain.varTypes Tryz.prog).any (Tryz.prog.ifacesRec ·))) = true := by kernel_rfl
theorem fnApart_j15 : ((Rows.fnApartRow.mapsOut == Tryz.prog.mapsAmong Tryz.f3.resultTypes.toList)) = true := by kernel_rfl
theorem fnApart_j16 : ((Rows.fnApartRow.loops == (Tryz.f3.params.toList ++ Rows.fnApartSpec.plain.varTypes Tryz.prog).any (Tryz.prog.loopsFrom ·))) = true := by kernel_rfl
theorem fnApart_j17 : ((Rows.fnApartRow.wideKeys == (Tryz.f3.params.toList ++ Rows.fnApartSpec.plain.varTypes Tryz.prog ++ Tryz.f3.resultTypes.toList).any (Tryz.prog.wideKeysFrom ·))) = true := by kernel_rfl
theorem fnApart_j18 : (Rows.fnApartSpec.vars.all (Tryz.prog.varReadable ·)) = true := by kernel_rfl
theorem fnApart_j19 : (Tryz.f3.resultTypes.all (fun t => Tryz.prog.readableRec t && decide (t < Tryz.prog.types.size))) = true := by kernel_rfl
theorem fnApart_j20 : ((Rows.fnApartRow.ifacesOut == Tryz.f3.resultTypes.toList.any (Tryz.prog.ifacesRec ·))) = true := by kernel_rfl
theorem fnApart_j21 : ((Rows.fnApartRow.loopsOut == Tryz.f3.resultTypes.toList.any (Tryz.prog.loopsFrom ·))) = true := by kernel_rfl
theorem fnApart_j22 : ((Rows.fnApartRow.plainKeys == Tryz.prog.plainKeys)) = true := by kernel_rfl
theorem fnApart_j23 : (Rows.fnApartRow.shortTexts.isNone) = true := by kernel_rfl
theorem fnApart_j24 : (Tryz.prog.stopsHeard) = true := by kernel_rfl
theorem fnApart_j25 : (Tryz.prog.mayEnter) = true := by kernel_rfl
theorem fnApart_j26 : ((Rows.fnApartRow.lifted == Tryz.prog.liftsFinal)) = true := by kernel_rfl
theorem fnApart_j27 : ((Tryz.prog.make == some Rows.fnApartRow.make)) = true := by kernel_rfl
theorem fnApart_j28 : ((Rows.fnApartRow.kinds == (if Rows.fnApartRow.domain.isEmpty then [] else Tryz.f3.params.toList.map fun t => match Tryz.prog.underlying t with | some (.int k) => some k | _ => none))) = true := by kernel_rfl
theorem fnApart_j29 : ((Rows.fnApartRow.pinned == Rows.fnApartRow.pinnedBy)) = true := by kernel_rfl
theorem fnApart_j30 : ((Rows.fnApartRow.veiled == (Tryz.f3.params.toList ++ Rows.fnApartSpec.plain.varTypes Tryz.prog ++ Tryz.f3.resultTypes.toList).any (Tryz.prog.veiledRec ·))) = true := by kernel_rfl
theorem fnApart_j31 : (Rows.fnApartRow.veiledFits Tryz.prog Tryz.f3.params.toList (Tryz.f3.params.toList ++ Rows.fnApartSpec.plain.varTypes Tryz.prog ++ Tryz.f3.resultTypes.toList)) = true := by kernel_rfl
theorem fnApart_facts : joinedFacts Tryz.prog 3 Tryz.f3 Rows.fnApartSpec Rows.fnApartRow = true := by
  simp only [joinedFacts, Bool.and_eq_true]
  exact ⟨⟨⟨⟨⟨⟨⟨⟨⟨⟨⟨⟨⟨⟨⟨⟨⟨⟨⟨⟨⟨⟨⟨⟨⟨⟨⟨⟨⟨⟨⟨fnApart_j0, fnApart_j1⟩, fnApart_j2⟩, fnApart_j3⟩, fnApart_j4⟩, fnApart_j5⟩, fnApart_j6⟩, fnApart_j7⟩, fnApart_j8⟩, fnApart_j9⟩, fnApart_j10⟩, fnApart_j11⟩, fnApart_j12⟩, fnApart_j13⟩, fnApart_j14⟩, fnApart_j15⟩, fnApart_j16⟩, fnApart_j17⟩, fnApart_j18⟩, fnApart_j19⟩, fnApart_j20⟩, fnApart_j21⟩, fnApart_j22⟩, fnApart_j23⟩, fnApart_j24⟩, fnApart_j25⟩, fnApart_j26⟩, fnApart_j27⟩, fnApart_j28⟩, fnApart_j29⟩, fnApart_j30⟩, fnApart_j31⟩
theorem fnApart_named : Tryz.prog.funcNamed "loop.example/pub-g01494/laws.FnApart" = some 3 := by kernel_rfl
theorem fnApart_inst : Tryz.f3.isInstance Tryz.pinned.checked.prog Rows.fnApartRow.origin Rows.fnApartRow.targs := of_decide_eq_true (by kernel_rfl)
theorem fnApart_wrap : Tryz.f3.isWrapper Tryz.pinned.checked.prog Rows.fnApartRow.wrapper Rows.fnApartRow.mainSum := by
  unfold Func.isWrapper
  rw [if_neg (by decide +kernel)]
  exact ⟨rfl, rfl⟩
end Go.Proofs.YtecgkcofmphaiaaGreatDoor
