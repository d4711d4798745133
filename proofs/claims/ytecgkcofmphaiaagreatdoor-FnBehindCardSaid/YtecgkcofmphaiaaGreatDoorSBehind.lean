/- Bytes behind a frame are no part of the packet that it carries: for every list of pieces, every payload and all bytes behind 'laws.FnBehind' returns true, and what was handed in reads as it did. Conditions: the listed variables read as the program's text lays them (the card ties that). -/
import Derived.Test.YtecgkcofmphaiaaGreatDoorRows
import Derived.Test.YtecgkcofmphaiaaGreatDoorTie
import Derived.Test.YtecgkcofmphaiaaGreatDoorCards
import Derived.Test.YtecgkcofmphaiaaGreatDoorS23
import Derived.Test.YtecgkcofmphaiaaGreatDoorS24
import Derived.Test.YtecgkcofmphaiaaGreatDoorS26
import Derived.ProofKit
import Derived.LaidMore
import Derived.OpenShut
import Derived.OpenVars
import Derived.Stop.Joined
import Derived.SevenTiedAt
set_option linter.unusedVariables false
set_option linter.unusedSimpArgs false
set_option linter.unnecessarySimpa false
set_option linter.unusedSectionVars false
namespace Go.Proofs.YtecgkcofmphaiaaGreatDoor
open Go.ChangeShapes Go.WideShapes Go.ChangeAt Go.RowKit
set_option linter.unusedVariables false
theorem Tryz.own : ownKnob Tryz.prog.godebug = none := by kernel_rfl
theorem Tryz.laidOut : laidOutB Tryz.prog = true := by kernel_rfl

theorem vars_len {H : Type} {enc : TypeId × Value → H} {P : Program} {w : World} {sp : Nat → Bool} : ∀ {ns : List String} {gs : List (DataW H)} {ps : List MemPlace}, DataW.TrodVars enc P w sp ns gs ps → gs.length = ns.length
  | [], [], _, _ => rfl
  | [], _ :: _, _, h => h.elim
  | _ :: _, [], _, h => h.elim
  | n :: ns, d :: ds, ps, h => by
    obtain ⟨g, t, cs, fuel, p, q, _, _, _, _, hs, _⟩ := h
    simp [vars_len hs]

set_option maxRecDepth 100000 in
theorem opened22 {H : Type} {enc : TypeId × Value → H} {W : World} {base : Nat} {v : Value} {d : DataW H} {p : List MemPlace} (hok : Value.okWide Tryz.prog W .any base 22 v) (h0 : DataW.Trod enc Tryz.prog W 0 (fun _ => true) true 22 v d p) :
    ∃ (A : Option Addr) (n c : Nat), v = .slice A n c ∧ Gpk.BB W (.slice A n c) n := by
  obtain ⟨a0, len, cap, rfl⟩ := okWide_slice Tryz.underlying22 hok
  obtain ⟨fuel, hf⟩ := h0
  obtain ⟨A, n, c, hcs, hb⟩ := Gpk.open_bytes hf
  simp only [Value.cells, List.cons.injEq, and_true] at hcs
  exact ⟨A, n, c, hcs, hb⟩
set_option maxRecDepth 100000 in
theorem opened25 {H : Type} {enc : TypeId × Value → H} {W : World} {base : Nat} {v : Value} {d : DataW H} {p : List MemPlace} (hok : Value.okWide Tryz.prog W .any base 25 v) (h0 : DataW.Trod enc Tryz.prog W 0 (fun _ => true) true 25 v d p) :
    ∃ (A : Option Addr) (ps : List Gpk.Pc) (c : Nat), v = .slice A ps.length c ∧ Gpk.PcSl W A ps := by
  obtain ⟨a0, len, cap, rfl⟩ := okWide_slice Tryz.underlying25 hok
  obtain ⟨fuel, hf⟩ := h0
  obtain ⟨A, ps, c, hcs, hb⟩ := Gpk.open_pieces hf
  simp only [Value.cells, List.cons.injEq, and_true] at hcs
  exact ⟨A, ps, c, hcs, hb⟩

set_option maxRecDepth 100000 in
/-- The door's own heap meets the condition. -/
theorem door_met (os : Os) (args : Array Value) : laidMetH Tryz.prog Rows.fnBehindRow.laid ((World.doorLaid Tryz.prog 400 os).forCall (fun _ _ => 0) ⟨#[], args, []⟩).memory :=
  laidMetH_of_parts3 (fuel := 8) (laidMet_of_run' 8 (by kernel_rfl) (by kernel_rfl)) (by kernel_rfl) (by kernel_rfl)

set_option maxRecDepth 100000 in
theorem fnBehind_lifted (os : Os) (started : os.Started) (H : Type) (enc : TypeId × Value → H) :
    ReturnsInHanded {} Tryz.checked os 4 .any (fun w args => (Rows.fnBehindSpec.pre enc Tryz.prog Tryz.f4 [] false w args ∧ laidMetH Tryz.prog Rows.fnBehindRow.laid w) ∧ sizedMet enc Tryz.prog Tryz.f4 (OpenSpec.ofChange Rows.fnBehindSpec) false w args)
      (Rows.fnBehindSpec.post enc Tryz.prog Tryz.f4 false true false false) := by
  refine returnsInHanded_of_change_and (C := Tryz.checked) (X := fun w _ => laidMetH Tryz.prog Rows.fnBehindRow.laid w) (fun _ _ _ hh h => h.of_heap hh) Tryz.own started (by kernel_rfl) Tryz.func4
    (ChangeSpec.witness_shaped (enc := enc) (C := Tryz.checked) (os := os) (X := fun w _ => laidMetH Tryz.prog Rows.fnBehindRow.laid w) false (World.doorLaid Tryz.prog 400 os) #[.slice none 0 0, .slice none 0 0, .slice none 0 0] 8 rfl (World.shaped_of_RefB (by kernel_rfl) (by kernel_rfl)) (by kernel_rfl) (by kernel_rfl) (by kernel_rfl) (door_met os _)) ?_
  intro W base args ds gs before hval0 hW _ _ hL _
  have hval : ∀ (j : Nat) t v, Tryz.f4.params[j]? = some t → args[j]? = some v → Value.okWide Tryz.prog W .any base t v := hval0
  have hW' := hW
  obtain ⟨p, q, hA0, hV, rfl, hfz, hnd⟩ := hW
  have hA : DataW.TrodAll enc Tryz.prog W 0 (fun _ => true) true Tryz.f4.params.toList args.toList ds p := hA0
  rw [Tryz.params4] at hA hval
  obtain ⟨v0, v1, v2, d0, d1, d2, p0, p1, p2, rfl, rfl, hp, h0, h1, h2⟩ := trodAll_three hA
  have hglen := vars_len hV
  obtain ⟨g1, g2, g3, g4, g5, g6, g7, g8, g9, g10, g11, g12, g13, g14, rfl⟩ : ∃ g1 g2 g3 g4 g5 g6 g7 g8 g9 g10 g11 g12 g13 g14, gs = [g1, g2, g3, g4, g5, g6, g7, g8, g9, g10, g11, g12, g13, g14] := by
    match gs, hglen with
    | [g1, g2, g3, g4, g5, g6, g7, g8, g9, g10, g11, g12, g13, g14], _ => exact ⟨g1, g2, g3, g4, g5, g6, g7, g8, g9, g10, g11, g12, g13, g14, rfl⟩
  obtain ⟨A, ps, c, e0, hps⟩ := opened25 (hval 0 25 v0 rfl rfl) h0
  obtain ⟨P, m, k, e1, hpl⟩ := opened22 (hval 1 22 v1 rfl rfl) h1
  obtain ⟨R, r, s, e2, hbl⟩ := opened22 (hval 2 22 v2 rfl rfl) h2
  have hlt : ∀ x ∈ p, x.block < W.heap.size := fun x hx => by have := hW'.lt x (by simp [hx]); simpa using this
  have key : Calls Tryz.prog 4 #[v0, v1, v2] W fun e w' => e = .returned (.bool true) ∧ Below W.heap.size W w' := by
    rw [e0, e1, e2]
    exact Gpk.fnBehind A c ps P m k R r s W hps hpl hbl
  refine key.mono fun e W' ⟨he, hb⟩ => ?_
  subst he
  have hback : DataW.TrodAll enc Tryz.prog W' 0 (fun b => decide (b < W.heap.size)) true [25, 22, 22] [v0, v1, v2] [d0, d1, d2] p := by
    rw [hp, List.append_assoc]
    exact trodAll_cons_mk (Below.trod Tryz.laidOut (by kernel_rfl) (of_decide_eq_true (by kernel_rfl)) h0 hb (fun x hx => hlt x (by rw [hp]; simp [hx]))) (trodAll_cons_mk (Below.trod Tryz.laidOut (by kernel_rfl) (of_decide_eq_true (by kernel_rfl)) h1 hb (fun x hx => hlt x (by rw [hp]; simp [hx]))) (trodAll_mk1 (Below.trod Tryz.laidOut (by kernel_rfl) (of_decide_eq_true (by kernel_rfl)) h2 hb (fun x hx => hlt x (by rw [hp]; simp [hx])))))
  refine ⟨_, rfl, [d0, d1, d2], [g1, g2, g3, g4, g5, g6, g7, g8, g9, g10, g11, g12, g13, g14], p ++ q, [], p, q, hW', trodAll_mk1 (shut_bool Tryz.underlying4 true), hback, Below.trodVars Tryz.laidOut hb (by kernel_rfl) hV, World.keptBut_mono (fun x hx => ⟨hx, ?_⟩) (hb.frame (· ∈ p ++ q)), fun h => by cases h⟩
  rw [List.mem_append] at hx
  exact Or.inr hx

theorem fnBehind_holds : Rows.FnBehindSaid :=
  OpenClaim.holds_of_wide 4 Tryz.f4 rfl rfl rfl rfl rfl rfl rfl ⟨rfl, rfl, rfl, rfl, rfl⟩ rfl rfl rfl rfl rfl fnBehind_named Tryz.func4 fnBehind_facts
    fnBehind_inst fnBehind_wrap
    (fun os started H enc _ => fnBehind_lifted os started H enc)

theorem fnBehind_card_holds : Rows.FnBehindCardSaid :=
  Claim7.holds_tied_plain_at .later [] [.sentinel, .sentinel, .sentinel, .sentinel, .sentinel, .sentinel, .sentinel, .sentinel, .sentinel, .sentinel, .sentinel, .sentinel, .sentinel, .sentinel] true (true, "4d9acb2753bc2ce5c8b9177eaa32b4ddb6cd1275c7af59919db04899d13873ef") true
    fnBehind_holds (fun _ h => by cases h) (by kernel_rfl) (fun _ h => by cases h) fnBehind_row_tie rfl ⟨rfl, rfl⟩ (by kernel_rfl) rfl
    (fun f fn hf hfn => by
      obtain rfl : f = 4 := Option.some.inj (fnBehind_named.symm.trans hf) |>.symm
      obtain rfl : fn = Tryz.f4 := (Option.some.inj (Tryz.func4.symm.trans hfn)).symm
      exact ⟨by kernel_rfl, fun j t ht => by
        rw [Tryz.params4] at ht
        have hm : t ∈ [25, 22, 22] := by simpa using Array.mem_of_getElem? ht
        have hall : ([25, 22, 22].all fun u => !Tryz.prog.wantsStandIn u) = true := by kernel_rfl
        exact (show Tryz.prog.wantsStandIn t = false by simpa using List.all_eq_true.1 hall t hm)⟩)
    (by kernel_rfl)
#print axioms fnBehind_card_holds
end Go.Proofs.YtecgkcofmphaiaaGreatDoor
