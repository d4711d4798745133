/- Control messages of the sixth version; headers made whole. -/
import Derived.Test.YtecgkcofmphaiaaGreatDoorS06
set_option linter.unusedVariables false
set_option linter.unusedSimpArgs false
set_option linter.unnecessarySimpa false
set_option linter.unusedSectionVars false
namespace Go.Proofs.YtecgkcofmphaiaaGreatDoor.Gpk
open Go.RowKit
set_option linter.unusedVariables false
theorem Made.below0 {w w0 W : World} {l : List (Value × Nat)} (h0 : Below w.heap.size w w0) (h : Made w0 W l) : Below w.heap.size w W := h0.trans (h.below.mono h0.size)
theorem OwnB.some {w : World} {base n c : Nat} {a : Option Addr} (h : OwnB w base (.slice a n c) n) (hn : 0 < n) : (∃ g, a = some ⟨g, 0, none⟩) ∧ n ≤ c := by
  obtain ⟨xs, ⟨_, h⟩, _⟩ := h
  rcases h with ⟨h, h0⟩ | ⟨g, cap, cur, h, _, _, hk, _⟩
  · omega
  · injection h with h1 h2 h3
    subst h1 h3
    exact ⟨⟨g, rfl⟩, hk⟩
theorem BB.pre {w : World} {a : Option Addr} {n c m : Nat} (h : BB w (.slice a n c) n) (hm : m ≤ n) : BB w (.slice a m c) m := by
  obtain ⟨f, hf, a', c', he, h1, h2, h3⟩ := h
  injection he with e1 e2 e3
  subst e1 e3
  refine ⟨f, hf, a, c, rfl, by omega, h2, ?_⟩
  rcases h3 with h3 | ⟨D, q, ha, hB⟩
  · exact .inl (by omega)
  · exact .inr ⟨D, q, ha, fun i hi => hB i (by omega)⟩
theorem Made.add {w W : World} {l : List (Value × Nat)} (h : Made w W l) {v : Value} {n : Nat} (hv : BB W v n) : Made w W ((v, n) :: l) :=
  ⟨h.below, fun p hp => by
    rcases List.mem_cons.1 hp with rfl | hp
    · exact hv
    · exact h.bb p hp⟩
set_option maxRecDepth 100000 in
set_option maxHeartbeats 4000000 in
theorem controlSix_ (a0 a1 a2 a3 a4 : Int) (A1 A2 A3 : Option Addr) (n1 c1 n2 c2 n3 c3 : Nat) (w : World) (h1 : BB w (.slice A1 n1 c1) n1) (h2 : BB w (.slice A2 n2 c2) n2) (h3 : BB w (.slice A3 n3 c3) n3) (hb1 : n1 ≤ 16) (hb2 : n2 ≤ 16) (hb3 : n3 ≤ 100000) :
    Calls Tryz.prog 55 #[.agg #[.int .i64 a0, .int .i64 a1, .int .i64 a2, .int .i64 a3, .int .i64 a4], .slice A1 n1 c1, .slice A2 n2 c2, .slice A3 n3 c3] w (RB 4 w) := by
  have HM := Lib.hid (((((Made.start w).arg h1).arg h2).arg h3).alloc (.cells #[.int .i64 a0, .int .i64 a1, .int .i64 a2, .int .i64 a3, .int .i64 a4] 51))
  have H1 := Lib.hid h1
  have H2 := Lib.hid h2
  clear h1 h2 h3
  go_enter Tryz.func55, Tryz.ntmps55
  go_wp2_with fail
  refine (joinedAt (n := 4 + n3) (by (first | exact HM.out | exact HM.out.drewN _ | refine HM.out.bytes2 ?_ ?_ | refine HM.out.bytes4 ?_ ?_ ?_ ?_ | refine (HM.out.bytes2 ?_ ?_).drewN _ | refine (HM.out.bytes4 ?_ ?_ ?_ ?_).drewN _ | exact HM.out.alloc _ | exact (HM.out.drewN _).alloc _) <;> first | exact u8mod _ | exact u8wrap _ | exact ⟨0, by decide, rfl⟩ | exact ⟨8, by decide, rfl⟩ | (refine ⟨_, ?_, rfl⟩; omega)) (by first | rfl | simp) (by rfl) (by first | rfl | (simp [total, lenX]; done)) (by simp [lenX]) (by omega) (by omega)).mono ?_
  rintro e w1 ⟨ao, k, rfl, ho, hb⟩
  obtain ⟨⟨g, rfl⟩, hgk⟩ := ho.some (by omega)
  have HF := Lib.hid (Made.finP (Made.alloc (by (first | exact HM.out | exact HM.out.drewN _ | refine HM.out.bytes2 ?_ ?_ | refine HM.out.bytes4 ?_ ?_ ?_ ?_ | refine (HM.out.bytes2 ?_ ?_).drewN _ | refine (HM.out.bytes4 ?_ ?_ ?_ ?_).drewN _ | exact HM.out.alloc _ | exact (HM.out.drewN _).alloc _) <;> first | exact u8mod _ | exact u8wrap _ | exact ⟨0, by decide, rfl⟩ | exact ⟨8, by decide, rfl⟩ | (refine ⟨_, ?_, rfl⟩; omega)) _) ho hb)
  have hm2 := Made.call (Made.alloc (by (first | exact HM.out | exact HM.out.drewN _ | refine HM.out.bytes2 ?_ ?_ | refine HM.out.bytes4 ?_ ?_ ?_ ?_ | refine (HM.out.bytes2 ?_ ?_).drewN _ | refine (HM.out.bytes4 ?_ ?_ ?_ ?_).drewN _ | exact HM.out.alloc _ | exact (HM.out.drewN _).alloc _) <;> first | exact u8mod _ | exact u8wrap _ | exact ⟨0, by decide, rfl⟩ | exact ⟨8, by decide, rfl⟩ | (refine ⟨_, ?_, rfl⟩; omega)) _) ho hb
  clear HM
  have HM := Lib.hid hm2
  clear hm2 ho hb
  have HALL := Lib.hid HF.out.1
  go_wp2_with fail
  refine (pseudo_ A1 A2 n1 c1 n2 c2 _ _ w1 (H1.out.below HM.out.below) (H2.out.below HM.out.below) hb1 hb2).mono ?_
  rintro e w2 ⟨np, ap, kp, hnp, rfl, ho, hb⟩
  have HF := Lib.hid (Made.finP (by (first | exact HM.out | exact HM.out.drewN _ | refine HM.out.bytes2 ?_ ?_ | refine HM.out.bytes4 ?_ ?_ ?_ ?_ | refine (HM.out.bytes2 ?_ ?_).drewN _ | refine (HM.out.bytes4 ?_ ?_ ?_ ?_).drewN _ | exact HM.out.alloc _ | exact (HM.out.drewN _).alloc _) <;> first | exact u8mod _ | exact u8wrap _ | exact ⟨0, by decide, rfl⟩ | exact ⟨8, by decide, rfl⟩ | (refine ⟨_, ?_, rfl⟩; omega)) ho hb)
  have hm2 := Made.call (by (first | exact HM.out | exact HM.out.drewN _ | refine HM.out.bytes2 ?_ ?_ | refine HM.out.bytes4 ?_ ?_ ?_ ?_ | refine (HM.out.bytes2 ?_ ?_).drewN _ | refine (HM.out.bytes4 ?_ ?_ ?_ ?_).drewN _ | exact HM.out.alloc _ | exact (HM.out.drewN _).alloc _) <;> first | exact u8mod _ | exact u8wrap _ | exact ⟨0, by decide, rfl⟩ | exact ⟨8, by decide, rfl⟩ | (refine ⟨_, ?_, rfl⟩; omega)) ho hb
  clear HM
  have HM := Lib.hid hm2
  clear hm2 ho hb
  go_wp2_with fail
  refine (joinedAtM (m := 200000) (by (first | exact HM.out | exact HM.out.drewN _ | refine HM.out.bytes2 ?_ ?_ | refine HM.out.bytes4 ?_ ?_ ?_ ?_ | refine (HM.out.bytes2 ?_ ?_).drewN _ | refine (HM.out.bytes4 ?_ ?_ ?_ ?_).drewN _ | exact HM.out.alloc _ | exact (HM.out.drewN _).alloc _) <;> first | exact u8mod _ | exact u8wrap _ | exact ⟨0, by decide, rfl⟩ | exact ⟨8, by decide, rfl⟩ | (refine ⟨_, ?_, rfl⟩; omega)) (by first | rfl | simp) (by rfl) (by simp [total, lenX]; omega) (by simp [lenX]) (by omega) (by omega)).mono ?_
  rintro e w3 ⟨nj, aj, kj, hnj, rfl, ho, hb⟩
  have HF := Lib.hid (Made.finP (Made.alloc (by (first | exact HM.out | exact HM.out.drewN _ | refine HM.out.bytes2 ?_ ?_ | refine HM.out.bytes4 ?_ ?_ ?_ ?_ | refine (HM.out.bytes2 ?_ ?_).drewN _ | refine (HM.out.bytes4 ?_ ?_ ?_ ?_).drewN _ | exact HM.out.alloc _ | exact (HM.out.drewN _).alloc _) <;> first | exact u8mod _ | exact u8wrap _ | exact ⟨0, by decide, rfl⟩ | exact ⟨8, by decide, rfl⟩ | (refine ⟨_, ?_, rfl⟩; omega)) _) ho hb)
  have hm2 := Made.call (Made.alloc (by (first | exact HM.out | exact HM.out.drewN _ | refine HM.out.bytes2 ?_ ?_ | refine HM.out.bytes4 ?_ ?_ ?_ ?_ | refine (HM.out.bytes2 ?_ ?_).drewN _ | refine (HM.out.bytes4 ?_ ?_ ?_ ?_).drewN _ | exact HM.out.alloc _ | exact (HM.out.drewN _).alloc _) <;> first | exact u8mod _ | exact u8wrap _ | exact ⟨0, by decide, rfl⟩ | exact ⟨8, by decide, rfl⟩ | (refine ⟨_, ?_, rfl⟩; omega)) _) ho hb
  clear HM
  have HM := Lib.hid hm2
  clear hm2 ho hb
  go_wp2_with fail
  refine (checksum_ _ nj _ HM.out.head (by omega)).mono ?_
  rintro e w4 ⟨⟨x, rfl⟩, rfl⟩
  have HM5 := Lib.hid (HM.out.add ((HM.out.bb (.slice (some ⟨g, 0, none⟩) (4 + n3) k, 4 + n3) (by simp)).pre (m := 2) (by omega)))
  have HM := HM5
  clear HM5
  have i1 : (2 : Int) ≤ (k : Int) := by omega
  go_wp2_with fail
  go_region_held3 (fun w' => True) (trivial)
    (first
      | (go_at_call 75; refine (short_ _ _).mono ?_; rintro e w1 ⟨ao, k, rfl, ho, hb⟩; have HF := Lib.hid (Made.finP (by (first | exact HM.out | exact HM.out.drewN _ | refine HM.out.bytes2 ?_ ?_ | refine HM.out.bytes4 ?_ ?_ ?_ ?_ | refine (HM.out.bytes2 ?_ ?_).drewN _ | refine (HM.out.bytes4 ?_ ?_ ?_ ?_).drewN _ | exact HM.out.alloc _ | exact (HM.out.drewN _).alloc _) <;> first | exact u8mod _ | exact u8wrap _ | exact ⟨0, by decide, rfl⟩ | exact ⟨8, by decide, rfl⟩ | (refine ⟨_, ?_, rfl⟩; omega)) ho hb); have hm2 := Made.call (by (first | exact HM.out | exact HM.out.drewN _ | refine HM.out.bytes2 ?_ ?_ | refine HM.out.bytes4 ?_ ?_ ?_ ?_ | refine (HM.out.bytes2 ?_ ?_).drewN _ | refine (HM.out.bytes4 ?_ ?_ ?_ ?_).drewN _ | exact HM.out.alloc _ | exact (HM.out.drewN _).alloc _) <;> first | exact u8mod _ | exact u8wrap _ | exact ⟨0, by decide, rfl⟩ | exact ⟨8, by decide, rfl⟩ | (refine ⟨_, ?_, rfl⟩; omega)) ho hb; clear HM; have HM := Lib.hid hm2; clear hm2 ho hb)
      | (go_at_call 17; refine (joinedAt (n := 4) (by (first | exact HM.out | exact HM.out.drewN _ | refine HM.out.bytes2 ?_ ?_ | refine HM.out.bytes4 ?_ ?_ ?_ ?_ | refine (HM.out.bytes2 ?_ ?_).drewN _ | refine (HM.out.bytes4 ?_ ?_ ?_ ?_).drewN _ | exact HM.out.alloc _ | exact (HM.out.drewN _).alloc _) <;> first | exact u8mod _ | exact u8wrap _ | exact ⟨0, by decide, rfl⟩ | exact ⟨8, by decide, rfl⟩ | (refine ⟨_, ?_, rfl⟩; omega)) (by first | rfl | simp) (by rfl) (by first | rfl | (simp [total, lenX]; done) | (simp [total, lenX]; omega)) (by simp [lenX]) (by omega) (by omega)).mono ?_; rintro e w1 ⟨ao, k, rfl, ho, hb⟩; have HF := Lib.hid (Made.finP (Made.alloc (by (first | exact HM.out | exact HM.out.drewN _ | refine HM.out.bytes2 ?_ ?_ | refine HM.out.bytes4 ?_ ?_ ?_ ?_ | refine (HM.out.bytes2 ?_ ?_).drewN _ | refine (HM.out.bytes4 ?_ ?_ ?_ ?_).drewN _ | exact HM.out.alloc _ | exact (HM.out.drewN _).alloc _) <;> first | exact u8mod _ | exact u8wrap _ | exact ⟨0, by decide, rfl⟩ | exact ⟨8, by decide, rfl⟩ | (refine ⟨_, ?_, rfl⟩; omega)) _) ho hb); have hm2 := Made.call (Made.alloc (by (first | exact HM.out | exact HM.out.drewN _ | refine HM.out.bytes2 ?_ ?_ | refine HM.out.bytes4 ?_ ?_ ?_ ?_ | refine (HM.out.bytes2 ?_ ?_).drewN _ | refine (HM.out.bytes4 ?_ ?_ ?_ ?_).drewN _ | exact HM.out.alloc _ | exact (HM.out.drewN _).alloc _) <;> first | exact u8mod _ | exact u8wrap _ | exact ⟨0, by decide, rfl⟩ | exact ⟨8, by decide, rfl⟩ | (refine ⟨_, ?_, rfl⟩; omega)) _) ho hb; clear HM; have HM := Lib.hid hm2; clear hm2 ho hb))
  all_goals go_wp2
  all_goals go_ret
  all_goals exact ⟨_, _, rfl, HF.out.1, HF.out.2⟩
end Go.Proofs.YtecgkcofmphaiaaGreatDoor.Gpk
