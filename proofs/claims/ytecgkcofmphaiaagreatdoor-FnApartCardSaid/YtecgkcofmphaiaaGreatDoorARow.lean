/- Any bytes are taken apart layer by layer, up to the end or to a header for which they are too few, if each one tells what follows: for every slice of bytes 'laws.FnApart' returns true, and the bytes read as they did. Conditions: the listed variables read as the program's text lays them (the card ties that). -/
import Derived.Test.YtecgkcofmphaiaaGreatDoorRows
import Derived.Test.YtecgkcofmphaiaaGreatDoorTie
import Derived.Test.YtecgkcofmphaiaaGreatDoorCards
import Derived.ProofKit
import Derived.LaidMore
import Derived.OpenShut
import Derived.OpenVars
import Derived.Stop.Joined
import Derived.SevenTiedAt
import Derived.Test.YtecgkcofmphaiaaGreatDoorA26
import Derived.Test.YtecgkcofmphaiaaGreatDoorA27
set_option linter.unusedVariables false
set_option linter.unusedSimpArgs false
set_option linter.unnecessarySimpa false
set_option linter.unusedSectionVars false
namespace Go.Proofs.YtecgkcofmphaiaaGreatDoor
open Go.ChangeShapes Go.WideShapes Go.ChangeAt Go.RowKit
set_option linter.unusedVariables false
theorem Tryz.own : ownKnob Tryz.prog.godebug = none := by kernel_rfl
theorem Tryz.laidOut : laidOutB Tryz.prog = true := by kernel_rfl
theorem Tryz.cells5 : Tryz.prog.cellsOf 5 = 1 := by kernel_rfl

theorem vars_len {H : Type} {enc : TypeId × Value → H} {P : Program} {w : World} {sp : Nat → Bool} : ∀ {ns : List String} {gs : List (DataW H)} {ps : List MemPlace}, DataW.TrodVars enc P w sp ns gs ps → gs.length = ns.length
  | [], [], _, _ => rfl
  | [], _ :: _, _, h => h.elim
  | _ :: _, [], _, h => h.elim
  | n :: ns, d :: ds, ps, h => by
    obtain ⟨g, t, cs, fuel, p, q, _, _, _, _, hs, _⟩ := h
    simp [vars_len hs]

set_option maxRecDepth 100000 in
/-- A slice of bytes that came in, opened. -/
theorem opened {H : Type} {enc : TypeId × Value → H} {W : World} {base : Nat} {v : Value} {d : DataW H} {p : List MemPlace} (hok : Value.okWide Tryz.prog W .any base 22 v) (h0 : DataW.Trod enc Tryz.prog W 0 (fun _ => true) true 22 v d p) :
    ∃ (D q n c : Nat) (A : Option Addr) (f : Nat → Nat), v = .slice A n c ∧ (0 < n → A = some ⟨D, q, none⟩) ∧ Gpk.Byt W D q f n ∧ Gpk.IsB f ∧ n ≤ c ∧ c ≤ maxLen := by
  obtain ⟨a0, len, cap, rfl⟩ := okWide_slice Tryz.underlying22 hok
  obtain ⟨fuel, hf⟩ := h0
  rcases open_ints Tryz.underlying22 Tryz.underlying5 Tryz.cells5 hf with ⟨hcs, hx⟩ | ⟨a, len', cap', zs, hcs, _, hl, hm, hz, hx, hcell, hwz⟩
  · simp [Value.cells] at hcs
    obtain ⟨rfl, rfl, rfl⟩ := hcs
    exact ⟨0, 0, 0, 0, none, fun _ => 0, rfl, fun h => by omega, fun i hi => by omega, fun i => by show 0 < 256; omega, Nat.le_refl _, by unfold maxLen; omega⟩
  · simp [Value.cells] at hcs
    obtain ⟨rfl, rfl, rfl⟩ := hcs
    simp only [if_true] at hz
    have bnd : ∀ i, 0 ≤ zs.getD i 0 ∧ zs.getD i 0 ≤ 255 := by
      intro i
      by_cases hi : i < zs.length
      · have h5 := hwz zs[i] (List.getElem_mem hi)
        have e1 : IntKind.u8.min = 0 := rfl
        have e2 : IntKind.u8.max = 255 := rfl
        have e3 : zs.getD i 0 = zs[i] := by simp [List.getD, List.getElem?_eq_getElem hi]
        rw [e3]
        simpa [Lit.wf, e1, e2] using h5
      · have e3 : zs.getD i 0 = 0 := by simp [List.getD, List.getElem?_eq_none (Nat.le_of_not_lt hi)]
        rw [e3]
        omega
    by_cases h0 : len = 0
    · subst h0
      exact ⟨0, 0, 0, cap, some a, fun _ => 0, rfl, fun h => by omega, fun i hi => by omega, fun i => by show 0 < 256; omega, hl, hm⟩
    · obtain ⟨b, off, spot⟩ := a
      have hspot : spot = none := by simpa [Addr.add] using World.cell?_spot (hcell 0 (by omega))
      subst hspot
      refine ⟨b, off, len, cap, _, fun i => (zs.getD i 0).toNat, rfl, fun _ => rfl, fun i hi => ?_, fun i => ?_, hl, hm⟩
      · have := hcell i (by omega)
        rw [WideShapes.add_plain] at this
        rw [this]
        have := (bnd i).1
        exact congrArg (fun z => some (Value.int .u8 z)) (Int.toNat_of_nonneg this).symm
      · have := bnd i
        show (zs.getD i 0).toNat < 256
        omega

set_option maxRecDepth 100000 in
/-- The door's own heap meets the condition. -/
theorem door_met (os : Os) (args : Array Value) : laidMetH Tryz.prog Rows.fnApartRow.laid ((World.doorLaid Tryz.prog 400 os).forCall (fun _ _ => 0) ⟨#[], args, []⟩).memory :=
  laidMetH_of_parts3 (fuel := 8) (laidMet_of_run' 8 (by kernel_rfl) (by kernel_rfl)) (by kernel_rfl) (by kernel_rfl)

set_option maxRecDepth 100000 in
theorem fnApart_lifted (os : Os) (started : os.Started) (H : Type) (enc : TypeId × Value → H) :
    ReturnsInHanded {} Tryz.checked os 3 .any (fun w args => (Rows.fnApartSpec.pre enc Tryz.prog Tryz.f3 [] false w args ∧ laidMetH Tryz.prog Rows.fnApartRow.laid w) ∧ sizedMet enc Tryz.prog Tryz.f3 (OpenSpec.ofChange Rows.fnApartSpec) false w args)
      (Rows.fnApartSpec.post enc Tryz.prog Tryz.f3 false true false false) := by
  refine returnsInHanded_of_change_and (C := Tryz.checked) (X := fun w _ => laidMetH Tryz.prog Rows.fnApartRow.laid w) (fun _ _ _ hh h => h.of_heap hh) Tryz.own started (by kernel_rfl) Tryz.func3
    (ChangeSpec.witness_shaped (enc := enc) (C := Tryz.checked) (os := os) (X := fun w _ => laidMetH Tryz.prog Rows.fnApartRow.laid w) false (World.doorLaid Tryz.prog 400 os) #[.slice none 0 0] 8 rfl (World.shaped_of_RefB (by kernel_rfl) (by kernel_rfl)) (by kernel_rfl) (by kernel_rfl) (by kernel_rfl) (door_met os _)) ?_
  intro W base args ds gs before hval0 hW _ _ hL _
  have hval : ∀ (j : Nat) t v, Tryz.f3.params[j]? = some t → args[j]? = some v → Value.okWide Tryz.prog W .any base t v := hval0
  have hW' := hW
  obtain ⟨p, q, hA0, hV, rfl, hfz, hnd⟩ := hW
  have hA : DataW.TrodAll enc Tryz.prog W 0 (fun _ => true) true Tryz.f3.params.toList args.toList ds p := hA0
  rw [Tryz.params3] at hA hval
  obtain ⟨v0, d0, rfl, rfl, h0⟩ := trodAll_one hA
  have hglen := vars_len hV
  obtain ⟨g1, g2, g3, g4, g5, g6, g7, g8, g9, g10, g11, g12, g13, g14, rfl⟩ : ∃ g1 g2 g3 g4 g5 g6 g7 g8 g9 g10 g11 g12 g13 g14, gs = [g1, g2, g3, g4, g5, g6, g7, g8, g9, g10, g11, g12, g13, g14] := by
    match gs, hglen with
    | [g1, g2, g3, g4, g5, g6, g7, g8, g9, g10, g11, g12, g13, g14], _ => exact ⟨g1, g2, g3, g4, g5, g6, g7, g8, g9, g10, g11, g12, g13, g14, rfl⟩
  obtain ⟨D, q0, n, c, A, f, rfl, hAd, hB, hf, hnc, hcm⟩ := opened (hval 0 22 v0 rfl rfl) h0
  have hlt : ∀ x ∈ p, x.block < W.heap.size := fun x hx => by have := hW'.lt x (by simp [hx]); simpa using this
  refine (Gpk.fnApart D q0 n c A f W hAd hB hf hnc hcm).mono fun e W' ⟨he, hb⟩ => ?_
  subst he
  refine ⟨_, rfl, [d0], [g1, g2, g3, g4, g5, g6, g7, g8, g9, g10, g11, g12, g13, g14], p ++ q, [], p, q, hW', trodAll_mk1 (shut_bool Tryz.underlying4 true), trodAll_mk1 (Below.trod Tryz.laidOut (by kernel_rfl) (of_decide_eq_true (by kernel_rfl)) h0 hb hlt), Below.trodVars Tryz.laidOut hb (by kernel_rfl) hV, World.keptBut_mono (fun x hx => ⟨hx, ?_⟩) (hb.frame (· ∈ p ++ q)), fun h => by cases h⟩
  rw [List.mem_append] at hx
  exact Or.inr hx

theorem fnApart_holds : Rows.FnApartSaid :=
  OpenClaim.holds_of_wide 3 Tryz.f3 rfl rfl rfl rfl rfl rfl rfl ⟨rfl, rfl, rfl, rfl, rfl⟩ rfl rfl rfl rfl rfl fnApart_named Tryz.func3 fnApart_facts
    fnApart_inst fnApart_wrap
    (fun os started H enc _ => fnApart_lifted os started H enc)

theorem fnApart_card_holds : Rows.FnApartCardSaid :=
  Claim7.holds_tied_plain_at .later [] [.sentinel, .sentinel, .sentinel, .sentinel, .sentinel, .sentinel, .sentinel, .sentinel, .sentinel, .sentinel, .sentinel, .sentinel, .sentinel, .sentinel] true (true, "4d9acb2753bc2ce5c8b9177eaa32b4ddb6cd1275c7af59919db04899d13873ef") true
    fnApart_holds (fun _ h => by cases h) (by kernel_rfl) (fun _ h => by cases h) fnApart_row_tie rfl ⟨rfl, rfl⟩ (by kernel_rfl) rfl
    (fun f fn hf hfn => by
      obtain rfl : f = 3 := Option.some.inj (fnApart_named.symm.trans hf) |>.symm
      obtain rfl : fn = Tryz.f3 := (Option.some.inj (Tryz.func3.symm.trans hfn)).symm
      exact ⟨by kernel_rfl, fun j t ht => by
        rw [Tryz.params3] at ht
        have hm : t ∈ [22] := by simpa using Array.mem_of_getElem? ht
        have hall : ([22].all fun u => !Tryz.prog.wantsStandIn u) = true := by kernel_rfl
        exact (show Tryz.prog.wantsStandIn t = false by simpa using List.all_eq_true.1 hall t hm)⟩)
    (by kernel_rfl)
#print axioms fnApart_card_holds
end Go.Proofs.YtecgkcofmphaiaaGreatDoor
