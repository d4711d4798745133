/- Headers of datagrams made whole. -/
import Derived.Test.YtecgkcofmphaiaaGreatDoorS09
set_option linter.unusedVariables false
set_option linter.unusedSimpArgs false
set_option linter.unnecessarySimpa false
set_option linter.unusedSectionVars false
namespace Go.Proofs.YtecgkcofmphaiaaGreatDoor.Gpk
open Go.RowKit
set_option linter.unusedVariables false
set_option maxRecDepth 100000 in
set_option maxHeartbeats 4000000 in
theorem wholeUdp_ (a0 a1 a2 a3 : Int) (A1 A2 A3 : Option Addr) (n1 c1 n2 c2 n3 c3 : Nat) (w : World) (h1 : BB w (.slice A1 n1 c1) n1) (h2 : BB w (.slice A2 n2 c2) n2) (h3 : BB w (.slice A3 n3 c3) n3) (hb1 : n1 ≤ 16) (hb2 : n2 ≤ 16) (hb3 : n3 ≤ 100000) :
    Calls Tryz.prog 52 #[.agg #[.int .i64 a0, .int .i64 a1, .int .i64 a2, .int .i64 a3], .slice A1 n1 c1, .slice A2 n2 c2, .slice A3 n3 c3] w fun e w' => (∃ x y : Int, e = .returned (.agg #[.int .i64 a0, .int .i64 a1, .int .i64 x, .int .i64 y])) ∧ Below w.heap.size w w' := by
  have HM := Lib.hid ((((((Made.start w).arg h1).arg h2).arg h3).alloc (.cells #[.int .i64 a0, .int .i64 a1, .int .i64 (8 + (n3 : Int)), .int .i64 0] 49)).alloc (.cells #[.int .i64 0, .int .i64 0, .int .i64 0, .int .i64 0] 49))
  have H0 := Lib.hid (heap0 w (.cells #[.int .i64 a0, .int .i64 a1, .int .i64 (8 + (n3 : Int)), .int .i64 0] 49) (.cells #[.int .i64 0, .int .i64 0, .int .i64 0, .int .i64 0] 49))
  have H1 := Lib.hid (heap1 w (.cells #[.int .i64 a0, .int .i64 a1, .int .i64 (8 + (n3 : Int)), .int .i64 0] 49) (.cells #[.int .i64 0, .int .i64 0, .int .i64 0, .int .i64 0] 49))
  have P1 := Lib.hid h1
  have P2 := Lib.hid h2
  have hwr : IntKind.i64.wrap (8 + (n3 : Int)) = 8 + (n3 : Int) := by rw [IntKind.wrap_i64]; omega
  clear h1 h2 h3
  go_enter Tryz.func52, Tryz.ntmps52
  go_wp2_with fail
  refine (udp_ _ _ _ _ _).mono ?_
  rintro e w1 ⟨ao, k, rfl, ho, hb⟩
  have hm2 := Made.call HM.out ho hb
  have HB0 := Lib.hid hb
  clear HM
  have HM := Lib.hid hm2
  clear hm2 ho hb
  go_wp2_with fail
  refine (joinedAtM (m := 200000) (by (first | exact HM.out | exact HM.out.drewN _ | refine HM.out.bytes2 ?_ ?_ | refine HM.out.bytes4 ?_ ?_ ?_ ?_ | refine (HM.out.bytes2 ?_ ?_).drewN _ | refine (HM.out.bytes4 ?_ ?_ ?_ ?_).drewN _ | exact HM.out.alloc _ | exact (HM.out.drewN _).alloc _) <;> first | exact u8mod _ | exact u8wrap _ | exact ⟨0, by decide, rfl⟩ | exact ⟨8, by decide, rfl⟩ | (refine ⟨_, ?_, rfl⟩; omega)) (by first | rfl | simp) (by rfl) (by simp [total, lenX]; omega) (by simp [lenX]) (by omega) (by omega)).mono ?_
  rintro e w2 ⟨nj, aj, kj, hnj, rfl, ho, hb⟩
  have hm2 := Made.call (Made.alloc (by (first | exact HM.out | exact HM.out.drewN _ | refine HM.out.bytes2 ?_ ?_ | refine HM.out.bytes4 ?_ ?_ ?_ ?_ | refine (HM.out.bytes2 ?_ ?_).drewN _ | refine (HM.out.bytes4 ?_ ?_ ?_ ?_).drewN _ | exact HM.out.alloc _ | exact (HM.out.drewN _).alloc _) <;> first | exact u8mod _ | exact u8wrap _ | exact ⟨0, by decide, rfl⟩ | exact ⟨8, by decide, rfl⟩ | (refine ⟨_, ?_, rfl⟩; omega)) _) ho hb
  have b2 := (HB0.out.alloc HB0.out.size _).trans (hb.mono (by have := HB0.out.size; simp at this ⊢; omega))
  clear HM HB0
  have HM := Lib.hid hm2
  have HB0 := Lib.hid b2
  clear hm2 ho hb b2
  go_wp2_with fail
  refine (pseudo_ A1 A2 n1 c1 n2 c2 _ _ w2 (P1.out.below HM.out.below) (P2.out.below HM.out.below) hb1 hb2).mono ?_
  rintro e w3 ⟨np, ap, kp, hnp, rfl, ho, hb⟩
  have hm2 := Made.call (by (first | exact HM.out | exact HM.out.drewN _ | refine HM.out.bytes2 ?_ ?_ | refine HM.out.bytes4 ?_ ?_ ?_ ?_ | refine (HM.out.bytes2 ?_ ?_).drewN _ | refine (HM.out.bytes4 ?_ ?_ ?_ ?_).drewN _ | exact HM.out.alloc _ | exact (HM.out.drewN _).alloc _) <;> first | exact u8mod _ | exact u8wrap _ | exact ⟨0, by decide, rfl⟩ | exact ⟨8, by decide, rfl⟩ | (refine ⟨_, ?_, rfl⟩; omega)) ho hb
  have b2 := HB0.out.trans (hb.mono HB0.out.size)
  clear HM HB0
  have HM := Lib.hid hm2
  have HB0 := Lib.hid b2
  clear hm2 ho hb b2
  go_wp2_with fail
  refine (joinedAtM (m := 300000) (by (first | exact HM.out | exact HM.out.drewN _ | refine HM.out.bytes2 ?_ ?_ | refine HM.out.bytes4 ?_ ?_ ?_ ?_ | refine (HM.out.bytes2 ?_ ?_).drewN _ | refine (HM.out.bytes4 ?_ ?_ ?_ ?_).drewN _ | exact HM.out.alloc _ | exact (HM.out.drewN _).alloc _) <;> first | exact u8mod _ | exact u8wrap _ | exact ⟨0, by decide, rfl⟩ | exact ⟨8, by decide, rfl⟩ | (refine ⟨_, ?_, rfl⟩; omega)) (by first | rfl | simp) (by rfl) (by simp [total, lenX]; omega) (by simp [lenX]) (by omega) (by omega)).mono ?_
  rintro e w4 ⟨nq, aq, kq, hnq, rfl, ho, hb⟩
  have hm2 := Made.call (Made.alloc (by (first | exact HM.out | exact HM.out.drewN _ | refine HM.out.bytes2 ?_ ?_ | refine HM.out.bytes4 ?_ ?_ ?_ ?_ | refine (HM.out.bytes2 ?_ ?_).drewN _ | refine (HM.out.bytes4 ?_ ?_ ?_ ?_).drewN _ | exact HM.out.alloc _ | exact (HM.out.drewN _).alloc _) <;> first | exact u8mod _ | exact u8wrap _ | exact ⟨0, by decide, rfl⟩ | exact ⟨8, by decide, rfl⟩ | (refine ⟨_, ?_, rfl⟩; omega)) _) ho hb
  have b2 := (HB0.out.alloc HB0.out.size _).trans (hb.mono (by have := HB0.out.size; simp at this ⊢; omega))
  clear HM HB0
  have HM := Lib.hid hm2
  have HB0 := Lib.hid b2
  clear hm2 ho hb b2
  go_wp2_with fail
  refine (checksum_ _ nq _ HM.out.head (by omega)).mono ?_
  rintro e w5 ⟨⟨x, rfl⟩, rfl⟩
  have hbox := (HB0.out.block _ (lt_of_heap H0.out)).trans H0.out
  have hres := (HB0.out.block _ (lt_of_heap H1.out)).trans H1.out
  have q0 := cell_of_row w4 _ 0 _ 49 (0, 0) hbox
  have r0 := cell_of_row w4 _ 0 _ 49 (0, 0) hres
  have f0 := unfrozen (i := 0) hbox
  have g0 := unfrozen (i := 0) hres
  have q1 := cell_of_row w4 _ 1 _ 49 (0, 0) hbox
  have r1 := cell_of_row w4 _ 1 _ 49 (0, 0) hres
  have f1 := unfrozen (i := 1) hbox
  have g1 := unfrozen (i := 1) hres
  have q2 := cell_of_row w4 _ 2 _ 49 (0, 0) hbox
  have r2 := cell_of_row w4 _ 2 _ 49 (0, 0) hres
  have f2 := unfrozen (i := 2) hbox
  have g2 := unfrozen (i := 2) hres
  have q3 := cell_of_row w4 _ 3 _ 49 (0, 0) hbox
  have r3 := cell_of_row w4 _ 3 _ 49 (0, 0) hres
  have f3 := unfrozen (i := 3) hbox
  have g3 := unfrozen (i := 3) hres
  have HBW := Lib.hid (belowTwo HB0.out)
  clear hbox hres
  by_cases hx : x = 0
  · subst hx
    go_wp2_with fail
    refine bodyPost_ret (v := .agg #[.int .i64 a0, .int .i64 a1, .int .i64 (8 + (n3 : Int)), .int .i64 65535]) ?_ rfl ⟨⟨_, _, rfl⟩, ?_⟩
    · simp [results, Tryz.f52, go_sem, q0, q1, q2, q3, r0, r1, r2, r3]
    · repeat first | exact HBW.out | refine Below.setCell ?_ (by simp) _
  · have hx0 : (x == 0) = false := by simpa using hx
    go_wp2_with fail
    refine bodyPost_ret (v := .agg #[.int .i64 a0, .int .i64 a1, .int .i64 (8 + (n3 : Int)), .int .i64 x]) ?_ rfl ⟨⟨_, _, rfl⟩, ?_⟩
    · simp [results, Tryz.f52, go_sem, q0, q1, q2, q3, r0, r1, r2, r3]
    · repeat first | exact HBW.out | refine Below.setCell ?_ (by simp) _
end Go.Proofs.YtecgkcofmphaiaaGreatDoor.Gpk
