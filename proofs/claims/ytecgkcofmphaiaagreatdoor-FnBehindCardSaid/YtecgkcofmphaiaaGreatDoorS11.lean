/- Headers of segments made whole. -/
import Derived.Test.YtecgkcofmphaiaaGreatDoorS09
import Derived.Test.YtecgkcofmphaiaaGreatDoorS04
set_option linter.unusedVariables false
set_option linter.unusedSimpArgs false
set_option linter.unnecessarySimpa false
set_option linter.unusedSectionVars false
namespace Go.Proofs.YtecgkcofmphaiaaGreatDoor.Gpk
open Go.RowKit
set_option linter.unusedVariables false
theorem Made.of {w W : World} (h : Below w.heap.size w W) : Made w W [] := ⟨h, fun p hp => by cases hp⟩
set_option maxRecDepth 100000 in
set_option maxHeartbeats 4000000 in
theorem wholeTcp_ (a0 a1 a2 a3 a4 a5 a6 a7 a8 : Int) (A9 : Option Addr) (os : List OptV) (c9 : Nat) (A1 A2 A3 : Option Addr) (n1 c1 n2 c2 n3 c3 : Nat) (w : World) (hos : OptSl w A9 os) (hsz : osz os ≤ 40) (hln : os.length ≤ 40) (h1 : BB w (.slice A1 n1 c1) n1) (h2 : BB w (.slice A2 n2 c2) n2) (h3 : BB w (.slice A3 n3 c3) n3) (hb1 : n1 ≤ 16) (hb2 : n2 ≤ 16) (hb3 : n3 ≤ 100000) :
    Calls Tryz.prog 50 #[.agg #[.int .i64 a0, .int .i64 a1, .int .i64 a2, .int .i64 a3, .int .i64 a4, .int .i64 a5, .int .i64 a6, .int .i64 a7, .int .i64 a8, .slice A9 os.length c9], .slice A1 n1 c1, .slice A2 n2 c2, .slice A3 n3 c3] w fun e w' => (∃ x y : Int, e = .returned (.agg #[.int .i64 a0, .int .i64 a1, .int .i64 a2, .int .i64 a3, .int .i64 x, .int .i64 a5, .int .i64 a6, .int .i64 y, .int .i64 a8, .slice A9 os.length c9])) ∧ Below w.heap.size w w' := by
  have H0 := Lib.hid (heap0 w (.cells #[.int .i64 a0, .int .i64 a1, .int .i64 a2, .int .i64 a3, .int .i64 a4, .int .i64 a5, .int .i64 a6, .int .i64 a7, .int .i64 a8, .slice A9 os.length c9] 47) (.cells #[.int .i64 0, .int .i64 0, .int .i64 0, .int .i64 0, .int .i64 0, .int .i64 0, .int .i64 0, .int .i64 0, .int .i64 0, .slice none 0 0] 47))
  have H1 := Lib.hid (heap1 w (.cells #[.int .i64 a0, .int .i64 a1, .int .i64 a2, .int .i64 a3, .int .i64 a4, .int .i64 a5, .int .i64 a6, .int .i64 a7, .int .i64 a8, .slice A9 os.length c9] 47) (.cells #[.int .i64 0, .int .i64 0, .int .i64 0, .int .i64 0, .int .i64 0, .int .i64 0, .int .i64 0, .int .i64 0, .int .i64 0, .slice none 0 0] 47))
  have HOS := Lib.hid hos
  have P1 := Lib.hid h1
  have P2 := Lib.hid h2
  have P3 := Lib.hid h3
  clear hos h1 h2 h3
  go_enter Tryz.func50, Tryz.ntmps50
  go_wp2_with fail
  refine (options_ A9 c9 os _ (HOS.out.below (((Below.refl _ _).alloc (Nat.le_refl _) _).alloc (by simp) _)) (by omega) (by omega)).mono ?_
  rintro e w1 ⟨no, ao, ko, hno, rfl, ho, hb⟩
  have hbox := (hb.block _ (lt_of_heap H0.out)).trans H0.out
  have hres := (hb.block _ (lt_of_heap H1.out)).trans H1.out
  have q0 := cell_of_row w1 _ 0 _ 47 (0, 0) hbox
  have f0 := unfrozen (i := 0) hbox
  have q1 := cell_of_row w1 _ 1 _ 47 (0, 0) hbox
  have f1 := unfrozen (i := 1) hbox
  have q2 := cell_of_row w1 _ 2 _ 47 (0, 0) hbox
  have f2 := unfrozen (i := 2) hbox
  have q3 := cell_of_row w1 _ 3 _ 47 (0, 0) hbox
  have f3 := unfrozen (i := 3) hbox
  have q4 := cell_of_row w1 _ 4 _ 47 (0, 0) hbox
  have f4 := unfrozen (i := 4) hbox
  have q5 := cell_of_row w1 _ 5 _ 47 (0, 0) hbox
  have f5 := unfrozen (i := 5) hbox
  have q6 := cell_of_row w1 _ 6 _ 47 (0, 0) hbox
  have f6 := unfrozen (i := 6) hbox
  have q7 := cell_of_row w1 _ 7 _ 47 (0, 0) hbox
  have f7 := unfrozen (i := 7) hbox
  have q8 := cell_of_row w1 _ 8 _ 47 (0, 0) hbox
  have f8 := unfrozen (i := 8) hbox
  have q9 := cell_of_row w1 _ 9 _ 47 (0, 0) hbox
  have f9 := unfrozen (i := 9) hbox
  have HBX := Lib.hid hbox
  have HRS := Lib.hid hres
  have HBW := Lib.hid (belowTwo hb)
  clear ho hb hbox hres
  go_wp2_with fail
  refine (tcp_ _ _ _ _ _ _ _ _ _ A9 os c9 _ (HOS.out.below (by repeat first | with_reducible exact HBW.out | with_reducible refine Below.setCell ?_ (by simp) _)) hsz hln).mono ?_
  rintro e w2 ⟨nt, at_, kt, hnt, rfl, ho, hb⟩
  have hm2 := (((Made.of (by repeat first | with_reducible exact HBW.out | with_reducible refine Below.setCell ?_ (by simp) _)).arg P3.out).call ho hb)
  have HB0 := Lib.hid hb
  have HM := Lib.hid hm2
  have HX2 := Lib.hid (heap_set (i := 7) (heap_set (i := 4) HBX.out (.int .i64 (5 + (no : Int) / 4))) (.int .i64 0))
  have HR2 := Lib.hid ((heap_far (a := ⟨w.heap.size, 7, none⟩) (by simp) (.int .i64 0)).trans ((heap_far (a := ⟨w.heap.size, 4, none⟩) (by simp) (.int .i64 (5 + (no : Int) / 4))).trans HRS.out))
  clear hm2 ho hb q0 q1 q2 q3 q4 q5 q6 q7 q8 q9
  go_wp2_with fail
  refine (joinedAtM (m := 200000) (by (first | exact HM.out | exact HM.out.drewN _ | refine HM.out.bytes2 ?_ ?_ | refine HM.out.bytes4 ?_ ?_ ?_ ?_ | refine (HM.out.bytes2 ?_ ?_).drewN _ | refine (HM.out.bytes4 ?_ ?_ ?_ ?_).drewN _ | exact HM.out.alloc _ | exact (HM.out.drewN _).alloc _) <;> first | exact u8mod _ | exact u8wrap _ | exact ⟨0, by decide, rfl⟩ | exact ⟨8, by decide, rfl⟩ | (refine ⟨_, ?_, rfl⟩; omega)) (by first | rfl | simp) (by rfl) (by simp [total, lenX]; omega) (by simp [lenX]) (by omega) (by omega)).mono ?_
  rintro e w3 ⟨nj, aj, kj, hnj, rfl, ho, hb⟩
  have hm2 := Made.call (Made.alloc (by (first | exact HM.out | exact HM.out.drewN _ | refine HM.out.bytes2 ?_ ?_ | refine HM.out.bytes4 ?_ ?_ ?_ ?_ | refine (HM.out.bytes2 ?_ ?_).drewN _ | refine (HM.out.bytes4 ?_ ?_ ?_ ?_).drewN _ | exact HM.out.alloc _ | exact (HM.out.drewN _).alloc _) <;> first | exact u8mod _ | exact u8wrap _ | exact ⟨0, by decide, rfl⟩ | exact ⟨8, by decide, rfl⟩ | (refine ⟨_, ?_, rfl⟩; omega)) _) ho hb
  have b2 := (HB0.out.alloc HB0.out.size _).trans (hb.mono (Nat.le_trans HB0.out.size (by simp)))
  clear HM HB0
  have HM := Lib.hid hm2
  have HB0 := Lib.hid b2
  clear hm2 ho hb b2
  go_wp2_with fail
  refine (pseudo_ A1 A2 n1 c1 n2 c2 _ _ w3 (P1.out.below HM.out.below) (P2.out.below HM.out.below) hb1 hb2).mono ?_
  rintro e w4 ⟨np, ap, kp, hnp, rfl, ho, hb⟩
  have hm2 := Made.call (by (first | exact HM.out | exact HM.out.drewN _ | refine HM.out.bytes2 ?_ ?_ | refine HM.out.bytes4 ?_ ?_ ?_ ?_ | refine (HM.out.bytes2 ?_ ?_).drewN _ | refine (HM.out.bytes4 ?_ ?_ ?_ ?_).drewN _ | exact HM.out.alloc _ | exact (HM.out.drewN _).alloc _) <;> first | exact u8mod _ | exact u8wrap _ | exact ⟨0, by decide, rfl⟩ | exact ⟨8, by decide, rfl⟩ | (refine ⟨_, ?_, rfl⟩; omega)) ho hb
  have b2 := HB0.out.trans (hb.mono HB0.out.size)
  clear HM HB0
  have HM := Lib.hid hm2
  have HB0 := Lib.hid b2
  clear hm2 ho hb b2
  go_wp2_with fail
  refine (joinedAtM (m := 300000) (by (first | exact HM.out | exact HM.out.drewN _ | refine HM.out.bytes2 ?_ ?_ | refine HM.out.bytes4 ?_ ?_ ?_ ?_ | refine (HM.out.bytes2 ?_ ?_).drewN _ | refine (HM.out.bytes4 ?_ ?_ ?_ ?_).drewN _ | exact HM.out.alloc _ | exact (HM.out.drewN _).alloc _) <;> first | exact u8mod _ | exact u8wrap _ | exact ⟨0, by decide, rfl⟩ | exact ⟨8, by decide, rfl⟩ | (refine ⟨_, ?_, rfl⟩; omega)) (by first | rfl | simp) (by rfl) (by simp [total, lenX]; omega) (by simp [lenX]) (by omega) (by omega)).mono ?_
  rintro e w5 ⟨nq, aq, kq, hnq, rfl, ho, hb⟩
  have hm2 := Made.call (Made.alloc (by (first | exact HM.out | exact HM.out.drewN _ | refine HM.out.bytes2 ?_ ?_ | refine HM.out.bytes4 ?_ ?_ ?_ ?_ | refine (HM.out.bytes2 ?_ ?_).drewN _ | refine (HM.out.bytes4 ?_ ?_ ?_ ?_).drewN _ | exact HM.out.alloc _ | exact (HM.out.drewN _).alloc _) <;> first | exact u8mod _ | exact u8wrap _ | exact ⟨0, by decide, rfl⟩ | exact ⟨8, by decide, rfl⟩ | (refine ⟨_, ?_, rfl⟩; omega)) _) ho hb
  have b2 := (HB0.out.alloc HB0.out.size _).trans (hb.mono (Nat.le_trans HB0.out.size (by simp)))
  clear HM HB0
  have HM := Lib.hid hm2
  have HB0 := Lib.hid b2
  clear hm2 ho hb b2
  go_wp2_with fail
  refine (checksum_ _ nq _ HM.out.head (by omega)).mono ?_
  rintro e w6 ⟨⟨x, rfl⟩, rfl⟩
  have hbox := (HB0.out.block _ (lt_of_heap HX2.out)).trans HX2.out
  have hres := (HB0.out.block _ (lt_of_heap HR2.out)).trans HR2.out
  simp only [List.setIfInBounds_toArray, List.set_cons_succ, List.set_cons_zero] at hbox
  have q0 := cell_of_row w5 _ 0 _ 47 (0, 0) hbox
  have r0 := cell_of_row w5 _ 0 _ 47 (0, 0) hres
  have f0 := unfrozen (i := 0) hbox
  have g0 := unfrozen (i := 0) hres
  have q1 := cell_of_row w5 _ 1 _ 47 (0, 0) hbox
  have r1 := cell_of_row w5 _ 1 _ 47 (0, 0) hres
  have f1 := unfrozen (i := 1) hbox
  have g1 := unfrozen (i := 1) hres
  have q2 := cell_of_row w5 _ 2 _ 47 (0, 0) hbox
  have r2 := cell_of_row w5 _ 2 _ 47 (0, 0) hres
  have f2 := unfrozen (i := 2) hbox
  have g2 := unfrozen (i := 2) hres
  have q3 := cell_of_row w5 _ 3 _ 47 (0, 0) hbox
  have r3 := cell_of_row w5 _ 3 _ 47 (0, 0) hres
  have f3 := unfrozen (i := 3) hbox
  have g3 := unfrozen (i := 3) hres
  have q4 := cell_of_row w5 _ 4 _ 47 (0, 0) hbox
  have r4 := cell_of_row w5 _ 4 _ 47 (0, 0) hres
  have f4 := unfrozen (i := 4) hbox
  have g4 := unfrozen (i := 4) hres
  have q5 := cell_of_row w5 _ 5 _ 47 (0, 0) hbox
  have r5 := cell_of_row w5 _ 5 _ 47 (0, 0) hres
  have f5 := unfrozen (i := 5) hbox
  have g5 := unfrozen (i := 5) hres
  have q6 := cell_of_row w5 _ 6 _ 47 (0, 0) hbox
  have r6 := cell_of_row w5 _ 6 _ 47 (0, 0) hres
  have f6 := unfrozen (i := 6) hbox
  have g6 := unfrozen (i := 6) hres
  have q7 := cell_of_row w5 _ 7 _ 47 (0, 0) hbox
  have r7 := cell_of_row w5 _ 7 _ 47 (0, 0) hres
  have f7 := unfrozen (i := 7) hbox
  have g7 := unfrozen (i := 7) hres
  have q8 := cell_of_row w5 _ 8 _ 47 (0, 0) hbox
  have r8 := cell_of_row w5 _ 8 _ 47 (0, 0) hres
  have f8 := unfrozen (i := 8) hbox
  have g8 := unfrozen (i := 8) hres
  have q9 := cell_of_row w5 _ 9 _ 47 (0, 0) hbox
  have r9 := cell_of_row w5 _ 9 _ 47 (0, 0) hres
  have f9 := unfrozen (i := 9) hbox
  have g9 := unfrozen (i := 9) hres
  have HBF := Lib.hid HM.out.below
  clear hbox hres
  go_wp2_with fail
  refine bodyPost_ret (v := .agg #[.int .i64 a0, .int .i64 a1, .int .i64 a2, .int .i64 a3, .int .i64 (5 + (no : Int) / 4), .int .i64 a5, .int .i64 a6, .int .i64 x, .int .i64 a8, .slice A9 os.length c9]) ?_ rfl ⟨⟨_, _, rfl⟩, ?_⟩
  · simp [results, Tryz.f50, go_sem, q0, q1, q2, q3, q4, q5, q6, q7, q8, q9, r0, r1, r2, r3, r4, r5, r6, r7, r8, r9]
  · repeat first | with_reducible exact HBF.out | with_reducible refine Below.setCell ?_ (by simp) _
end Go.Proofs.YtecgkcofmphaiaaGreatDoor.Gpk
