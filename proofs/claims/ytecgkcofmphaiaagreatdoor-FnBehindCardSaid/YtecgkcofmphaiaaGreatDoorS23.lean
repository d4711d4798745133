/- The laws of cut packets and of bytes behind a frame. -/
import Derived.Test.YtecgkcofmphaiaaGreatDoorA26
import Derived.Test.YtecgkcofmphaiaaGreatDoorS21
import Derived.Test.YtecgkcofmphaiaaGreatDoorS20
import Derived.Test.YtecgkcofmphaiaaGreatDoorS19
set_option linter.unusedVariables false
set_option linter.unusedSimpArgs false
set_option linter.unnecessarySimpa false
set_option linter.unusedSectionVars false
namespace Go.Proofs.YtecgkcofmphaiaaGreatDoor.Gpk
open Go.RowKit
set_option linter.unusedVariables false
/-- 'isApart9' of bytes, whatever they are. -/
theorem isApartB (a : Option Addr) (n c : Nat) (w : World) (h : BB w (.slice a n c) n) (hn : n ≤ 1000000) : Calls Tryz.prog 6 #[.slice a n c, .slice a n c] w fun e w' => e = .returned (.bool true) ∧ Below w.heap.size w w' := by
  obtain ⟨f, hf, a', c', he, hnc, hcm, hB⟩ := h
  simp only [Value.slice.injEq] at he
  obtain ⟨rfl, _, rfl⟩ := he
  by_cases h0 : n = 0
  · subst h0
    exact isApart 0 0 0 c a f w (fun h => by omega) (fun i hi => by omega) hf hnc hcm hn
  · obtain ⟨D, q, rfl, hb⟩ := hB.resolve_left h0
    exact isApart D q n c _ f w (fun _ => rfl) hb hf hnc hcm hn
set_option maxRecDepth 100000 in
set_option maxHeartbeats 4000000 in
theorem fnCut (A : Option Addr) (c : Nat) (ps : List Pc) (P : Option Addr) (m k : Nat) (z : Int) (w : World) (hp : PcSl w A ps) (hpl : BB w (.slice P m k) m) :
    Calls Tryz.prog 5 #[.slice A ps.length c, .slice P m k, .int .i64 z] w fun e w' => e = .returned (.bool true) ∧ Below w.heap.size w w' := by
  have HP := Lib.hid hp
  have HE := Lib.hid hpl
  clear hp hpl
  go_enter Tryz.func5, Tryz.ntmps5
  go_wp2_with fail
  refine (fits1_ A c ps w HP.out).mono ?_
  rintro e w1 ⟨⟨r, rfl, hr⟩, hb1⟩
  have HB1 := Lib.hid hb1
  clear hb1
  cases r
  · clear hr
    go_wp2_with fail
    go_ret
    exact ⟨rfl, HB1.out⟩
  · have HF := Lib.hid (hr rfl)
    clear hr
    by_cases hm : 2147483647 < m
    · have g1 : (2147483647 : Int) < (m : Int) := by omega
      go_wp2_with fail
      go_ret
      exact ⟨rfl, HB1.out⟩
    · have g1 : ¬ (2147483647 : Int) < (m : Int) := by omega
      go_wp2_with fail
      refine (Linked_ A c ps w1 (HP.out.below HB1.out) HF.out).mono ?_
      rintro e w2 ⟨ao, n, co, b, rfl, hb2, hq⟩
      have HB2 := Lib.hid (HB1.out.trans (hb2.mono HB1.out.size))
      clear hb2
      cases b
      · clear hq
        go_wp2_with fail
        go_ret
        exact ⟨rfl, HB2.out⟩
      · obtain ⟨qs, hqn, hn8, hnc, hqs, hqo⟩ := hq rfl
        have HQS := Lib.hid hqs
        have HQO := Lib.hid hqo
        have HQN := Lib.hid hqn
        clear hq hqs hqo hqn
        go_wp2_with fail
        refine (isPayload_ P m k w2).mono ?_
        rintro e w3 ⟨⟨b, rfl, hb⟩, rfl⟩
        cases b
        · clear hb
          go_wp2_with fail
          go_ret
          exact ⟨rfl, HB2.out⟩
        · have hm2 := hb rfl
          clear hb
          go_wp2_with fail
          refine (Written_ ao co n qs P m k w2 HQN.out HQS.out HQO.out hn8 hnc (HE.out.below HB2.out) hm2).mono ?_
          rintro e w4 ⟨nw, aw, kw, hnw, rfl, ho, hb4⟩
          have HB4 := Lib.hid (HB2.out.trans (hb4.mono HB2.out.size))
          clear hb4
          by_cases hz : z < 0
          · go_wp2_with fail
            go_ret
            exact ⟨rfl, HB4.out⟩
          · by_cases hz2 : (nw : Int) < z
            · go_wp2_with fail
              go_ret
              exact ⟨rfl, HB4.out⟩
            · obtain ⟨i, rfl⟩ : ∃ i : Nat, z = (i : Int) := ⟨z.toNat, by omega⟩
              have hi : i ≤ nw := by omega
              have hbi := ho.bb.pre hi
              have hcw : nw ≤ kw := by
                obtain ⟨f, hf, a', c', he, hnc, _⟩ := ho.bb
                simp only [Value.slice.injEq] at he
                omega
              have d1 : (0 : Int) ≤ (i : Int) := by omega
              have d2 : (i : Int) ≤ (kw : Int) := by omega
              have d3 : ((i : Int)).toNat = i := by omega
              have d4 : i ≤ kw := by omega
              have HBI := Lib.hid hbi
              obtain ⟨xs, hx, _⟩ := ho
              rcases hx.2 with ⟨hv, _⟩ | ⟨g, cap, cur, hv, _⟩
              · simp only [Value.slice.injEq] at hv
                obtain ⟨rfl, rfl, rfl⟩ := hv
                obtain rfl : i = 0 := by omega
                clear hx hbi
                go_wp2_with fail
                go_region_held3 (fun w' => True) (trivial)
                  (first
                    | (go_at_call 6; refine (isApartB _ _ _ _ (by first | exact HBI.out | exact HBI.out.below (below_drewN (Below.refl _ _) _)) (by omega)).mono ?_; rintro e w5 ⟨rfl, hb5⟩; have HB5 : Hid (Below w.heap.size w w5) := Lib.hid (by first | exact HB4.out.trans (hb5.mono HB4.out.size) | exact (below_drewN HB4.out _).trans (hb5.mono HB4.out.size)); clear hb5))
                all_goals go_wp2_with fail
                all_goals go_ret
                all_goals exact ⟨rfl, HB5.out⟩
              · simp only [Value.slice.injEq] at hv
                obtain ⟨rfl, _, rfl⟩ := hv
                clear hx hbi
                go_wp2_with fail
                go_region_held3 (fun w' => True) (trivial)
                  (first
                    | (go_at_call 6; refine (isApartB _ _ _ _ (by first | exact HBI.out | exact HBI.out.below (below_drewN (Below.refl _ _) _)) (by omega)).mono ?_; rintro e w5 ⟨rfl, hb5⟩; have HB5 : Hid (Below w.heap.size w w5) := Lib.hid (by first | exact HB4.out.trans (hb5.mono HB4.out.size) | exact (below_drewN HB4.out _).trans (hb5.mono HB4.out.size)); clear hb5))
                all_goals go_wp2_with fail
                all_goals go_ret
                all_goals exact ⟨rfl, HB5.out⟩
set_option maxRecDepth 100000 in
set_option maxHeartbeats 4000000 in
theorem fnBehind (A : Option Addr) (c : Nat) (ps : List Pc) (P : Option Addr) (m k : Nat) (R : Option Addr) (r s : Nat) (w : World) (hp : PcSl w A ps) (hpl : BB w (.slice P m k) m) (hbl : BB w (.slice R r s) r) :
    Calls Tryz.prog 4 #[.slice A ps.length c, .slice P m k, .slice R r s] w fun e w' => e = .returned (.bool true) ∧ Below w.heap.size w w' := by
  have HP := Lib.hid hp
  have HE := Lib.hid hpl
  have HR := Lib.hid hbl
  clear hp hpl hbl
  go_enter Tryz.func4, Tryz.ntmps4
  go_wp2_with fail
  refine (fits1_ A c ps w HP.out).mono ?_
  rintro e w1 ⟨⟨b1, rfl, hr⟩, hb1⟩
  have HB1 := Lib.hid hb1
  clear hb1
  cases b1
  · clear hr
    go_wp2_with fail
    go_ret
    exact ⟨rfl, HB1.out⟩
  · have HF := Lib.hid (hr rfl)
    clear hr
    by_cases hm : 2147483647 < m
    · have g1 : (2147483647 : Int) < (m : Int) := by omega
      go_wp2_with fail
      go_ret
      exact ⟨rfl, HB1.out⟩
    · have g1 : ¬ (2147483647 : Int) < (m : Int) := by omega
      by_cases hr2 : 2147483647 < r
      · have g2 : (2147483647 : Int) < (r : Int) := by omega
        go_wp2_with fail
        go_ret
        exact ⟨rfl, HB1.out⟩
      · have g2 : ¬ (2147483647 : Int) < (r : Int) := by omega
        go_wp2_with fail
        refine (Linked_ A c ps w1 (HP.out.below HB1.out) HF.out).mono ?_
        rintro e w2 ⟨ao, n, co, b, rfl, hb2, hq⟩
        have HB2 := Lib.hid (HB1.out.trans (hb2.mono HB1.out.size))
        clear hb2
        cases b
        · clear hq
          go_wp2_with fail
          go_ret
          exact ⟨rfl, HB2.out⟩
        · obtain ⟨qs, hqn, hn8, hnc, hqs, hqo⟩ := hq rfl
          have HQS := Lib.hid hqs
          have HQO := Lib.hid hqo
          have HQN := Lib.hid hqn
          clear hq hqs hqo hqn
          go_wp2_with fail
          refine (isPayload_ P m k w2).mono ?_
          rintro e w3 ⟨⟨b, rfl, hb⟩, rfl⟩
          cases b
          · clear hb
            go_wp2_with fail
            go_ret
            exact ⟨rfl, HB2.out⟩
          · have hm2 := hb rfl
            clear hb
            go_wp2_with fail
            refine (isPayload_ R r s w2).mono ?_
            rintro e w3 ⟨⟨b, rfl, hb⟩, rfl⟩
            cases b
            · clear hb
              go_wp2_with fail
              go_ret
              exact ⟨rfl, HB2.out⟩
            · have hm3 := hb rfl
              clear hb
              go_wp2_with fail
              refine (Written_ ao co n qs P m k w2 HQN.out HQS.out HQO.out hn8 hnc (HE.out.below HB2.out) hm2).mono ?_
              rintro e w4 ⟨nw, aw, kw, hnw, rfl, ho, hb4⟩
              have HB4 := Lib.hid (HB2.out.trans (hb4.mono HB2.out.size))
              have HO4 := Lib.hid (ho.mono (HB2.out.size))
              clear hb4 ho
              go_wp2_with (at_builtin; (refine wpList_append_bytes rfl (.tmp 42) (.tmp 43) rfl w.heap.size _ _ nw r rfl rfl HO4.out (HR.out.below HB4.out) HB4.out.size (by omega) ?_))
              intro ao5 co5 w5 hown hgrow
              have HO5 := Lib.hid hown
              have HB5 := Lib.hid (belowGrown0 HB4.out HO4.out hgrow)
              clear hown hgrow
              go_wp2_with fail
              refine (isApartB _ _ _ w5 HO5.out.bb (by omega)).mono ?_
              rintro e w6 ⟨rfl, hb6⟩
              have HB6 := Lib.hid (HB5.out.trans (hb6.mono HB5.out.size))
              clear hb6
              go_wp2_with fail
              go_ret
              exact ⟨rfl, HB6.out⟩
end Go.Proofs.YtecgkcofmphaiaaGreatDoor.Gpk
