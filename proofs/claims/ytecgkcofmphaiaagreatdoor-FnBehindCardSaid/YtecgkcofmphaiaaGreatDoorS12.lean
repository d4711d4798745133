/- Headers of packets of the fourth version made whole. -/
import Derived.Test.YtecgkcofmphaiaaGreatDoorS09
import Derived.Test.YtecgkcofmphaiaaGreatDoorS08
set_option linter.unusedVariables false
set_option linter.unusedSimpArgs false
set_option linter.unnecessarySimpa false
set_option linter.unusedSectionVars false
namespace Go.Proofs.YtecgkcofmphaiaaGreatDoor.Gpk
open Go.RowKit
set_option linter.unusedVariables false
set_option maxRecDepth 100000 in
set_option maxHeartbeats 4000000 in
theorem wholeIpv4_ (a0 a1 a2 a3 a4 a5 a6 a7 a8 : Int) (A9 : Option Addr) (n9 c9 : Nat) (A10 : Option Addr) (n10 c10 : Nat) (A11 : Option Addr) (os : List OptV) (c11 : Nat) (pl : Nat) (w : World) (h9 : BB w (.slice A9 n9 c9) n9) (hb9 : n9 ≤ 16) (h10 : BB w (.slice A10 n10 c10) n10) (hb10 : n10 ≤ 16) (hos : OptSl w A11 os) (hsz : osz os ≤ 40) (hln : os.length ≤ 40) (hpl : pl ≤ 100000) :
    Calls Tryz.prog 47 #[.agg #[.int .i64 a0, .int .i64 a1, .int .i64 a2, .int .i64 a3, .int .i64 a4, .int .i64 a5, .int .i64 a6, .int .i64 a7, .int .i64 a8, .slice A9 n9 c9, .slice A10 n10 c10, .slice A11 os.length c11], .int .i64 (pl : Nat)] w fun e w' => (∃ x y z : Int, e = .returned (.agg #[.int .i64 x, .int .i64 a1, .int .i64 y, .int .i64 a3, .int .i64 a4, .int .i64 a5, .int .i64 a6, .int .i64 a7, .int .i64 z, .slice A9 n9 c9, .slice A10 n10 c10, .slice A11 os.length c11])) ∧ Below w.heap.size w w' := by
  have H0 := Lib.hid (heap0 w (.cells #[.int .i64 a0, .int .i64 a1, .int .i64 a2, .int .i64 a3, .int .i64 a4, .int .i64 a5, .int .i64 a6, .int .i64 a7, .int .i64 a8, .slice A9 n9 c9, .slice A10 n10 c10, .slice A11 os.length c11] 43) (.cells #[.int .i64 0, .int .i64 0, .int .i64 0, .int .i64 0, .int .i64 0, .int .i64 0, .int .i64 0, .int .i64 0, .int .i64 0, .slice none 0 0, .slice none 0 0, .slice none 0 0] 43))
  have H1 := Lib.hid (heap1 w (.cells #[.int .i64 a0, .int .i64 a1, .int .i64 a2, .int .i64 a3, .int .i64 a4, .int .i64 a5, .int .i64 a6, .int .i64 a7, .int .i64 a8, .slice A9 n9 c9, .slice A10 n10 c10, .slice A11 os.length c11] 43) (.cells #[.int .i64 0, .int .i64 0, .int .i64 0, .int .i64 0, .int .i64 0, .int .i64 0, .int .i64 0, .int .i64 0, .int .i64 0, .slice none 0 0, .slice none 0 0, .slice none 0 0] 43))
  have HOS := Lib.hid hos
  have P9 := Lib.hid h9
  have P10 := Lib.hid h10
  clear hos h9 h10
  go_enter Tryz.func47, Tryz.ntmps47
  go_wp2_with fail
  refine (options_ A11 c11 os _ (HOS.out.below (((Below.refl _ _).alloc (Nat.le_refl _) _).alloc (by simp) _)) (by omega) (by omega)).mono ?_
  rintro e w1 ⟨no, ao, ko, hno, rfl, ho, hb⟩
  have hbox := (hb.block _ (lt_of_heap H0.out)).trans H0.out
  have hres := (hb.block _ (lt_of_heap H1.out)).trans H1.out
  have q0 := cell_of_row w1 _ 0 _ 43 (0, 0) hbox
  have f0 := unfrozen (i := 0) hbox
  have q1 := cell_of_row w1 _ 1 _ 43 (0, 0) hbox
  have f1 := unfrozen (i := 1) hbox
  have q2 := cell_of_row w1 _ 2 _ 43 (0, 0) hbox
  have f2 := unfrozen (i := 2) hbox
  have q3 := cell_of_row w1 _ 3 _ 43 (0, 0) hbox
  have f3 := unfrozen (i := 3) hbox
  have q4 := cell_of_row w1 _ 4 _ 43 (0, 0) hbox
  have f4 := unfrozen (i := 4) hbox
  have q5 := cell_of_row w1 _ 5 _ 43 (0, 0) hbox
  have f5 := unfrozen (i := 5) hbox
  have q6 := cell_of_row w1 _ 6 _ 43 (0, 0) hbox
  have f6 := unfrozen (i := 6) hbox
  have q7 := cell_of_row w1 _ 7 _ 43 (0, 0) hbox
  have f7 := unfrozen (i := 7) hbox
  have q8 := cell_of_row w1 _ 8 _ 43 (0, 0) hbox
  have f8 := unfrozen (i := 8) hbox
  have q9 := cell_of_row w1 _ 9 _ 43 (0, 0) hbox
  have f9 := unfrozen (i := 9) hbox
  have q10 := cell_of_row w1 _ 10 _ 43 (0, 0) hbox
  have f10 := unfrozen (i := 10) hbox
  have q11 := cell_of_row w1 _ 11 _ 43 (0, 0) hbox
  have f11 := unfrozen (i := 11) hbox
  have HBX := Lib.hid hbox
  have HRS := Lib.hid hres
  have HBW := Lib.hid (belowTwo hb)
  clear ho hb hbox hres
  go_wp2_with fail
  refine (ipv4_ _ _ _ _ _ _ _ _ _ A9 n9 c9 A10 n10 c10 A11 os c11 _ (P9.out.below (by repeat first | with_reducible exact HBW.out | with_reducible refine Below.setCell ?_ (by simp) _)) hb9 (P10.out.below (by repeat first | with_reducible exact HBW.out | with_reducible refine Below.setCell ?_ (by simp) _)) hb10 (HOS.out.below (by repeat first | with_reducible exact HBW.out | with_reducible refine Below.setCell ?_ (by simp) _)) hsz hln).mono ?_
  rintro e w2 ⟨nt, at_, kt, hnt, rfl, ho, hb⟩
  have hm2 := ((Made.ofB (w := w) (by repeat first | with_reducible exact HBW.out | with_reducible refine Below.setCell ?_ (by simp) _)).call ho hb)
  have HM := Lib.hid hm2
  have HX2 := Lib.hid (heap_set (i := 8) (heap_set (i := 2) (heap_set (i := 0) HBX.out (.int .i64 (5 + (no : Int) / 4))) (.int .i64 (4 * (5 + (no : Int) / 4) + (pl : Int)))) (.int .i64 0))
  have HR2 := Lib.hid ((heap_far (a := ⟨w.heap.size, 8, none⟩) (by simp) (.int .i64 0)).trans ((heap_far (a := ⟨w.heap.size, 2, none⟩) (by simp) (.int .i64 (4 * (5 + (no : Int) / 4) + (pl : Int)))).trans ((heap_far (a := ⟨w.heap.size, 0, none⟩) (by simp) (.int .i64 (5 + (no : Int) / 4))).trans HRS.out)))
  have hbox := (hb.block _ (lt_of_heap HX2.out)).trans HX2.out
  have hres := (hb.block _ (lt_of_heap HR2.out)).trans HR2.out
  clear hm2 ho hb q0 f0 q1 f1 q2 f2 q3 f3 q4 f4 q5 f5 q6 f6 q7 f7 q8 f8 q9 f9 q10 f10 q11 f11
  go_wp2_with fail
  refine (checksum_ _ nt _ HM.out.head (by omega)).mono ?_
  rintro e w6 ⟨⟨x, rfl⟩, rfl⟩
  simp only [List.setIfInBounds_toArray, List.set_cons_succ, List.set_cons_zero] at hbox
  have q0 := cell_of_row w2 _ 0 _ 43 (0, 0) hbox
  have r0 := cell_of_row w2 _ 0 _ 43 (0, 0) hres
  have f0 := unfrozen (i := 0) hbox
  have g0 := unfrozen (i := 0) hres
  have q1 := cell_of_row w2 _ 1 _ 43 (0, 0) hbox
  have r1 := cell_of_row w2 _ 1 _ 43 (0, 0) hres
  have f1 := unfrozen (i := 1) hbox
  have g1 := unfrozen (i := 1) hres
  have q2 := cell_of_row w2 _ 2 _ 43 (0, 0) hbox
  have r2 := cell_of_row w2 _ 2 _ 43 (0, 0) hres
  have f2 := unfrozen (i := 2) hbox
  have g2 := unfrozen (i := 2) hres
  have q3 := cell_of_row w2 _ 3 _ 43 (0, 0) hbox
  have r3 := cell_of_row w2 _ 3 _ 43 (0, 0) hres
  have f3 := unfrozen (i := 3) hbox
  have g3 := unfrozen (i := 3) hres
  have q4 := cell_of_row w2 _ 4 _ 43 (0, 0) hbox
  have r4 := cell_of_row w2 _ 4 _ 43 (0, 0) hres
  have f4 := unfrozen (i := 4) hbox
  have g4 := unfrozen (i := 4) hres
  have q5 := cell_of_row w2 _ 5 _ 43 (0, 0) hbox
  have r5 := cell_of_row w2 _ 5 _ 43 (0, 0) hres
  have f5 := unfrozen (i := 5) hbox
  have g5 := unfrozen (i := 5) hres
  have q6 := cell_of_row w2 _ 6 _ 43 (0, 0) hbox
  have r6 := cell_of_row w2 _ 6 _ 43 (0, 0) hres
  have f6 := unfrozen (i := 6) hbox
  have g6 := unfrozen (i := 6) hres
  have q7 := cell_of_row w2 _ 7 _ 43 (0, 0) hbox
  have r7 := cell_of_row w2 _ 7 _ 43 (0, 0) hres
  have f7 := unfrozen (i := 7) hbox
  have g7 := unfrozen (i := 7) hres
  have q8 := cell_of_row w2 _ 8 _ 43 (0, 0) hbox
  have r8 := cell_of_row w2 _ 8 _ 43 (0, 0) hres
  have f8 := unfrozen (i := 8) hbox
  have g8 := unfrozen (i := 8) hres
  have q9 := cell_of_row w2 _ 9 _ 43 (0, 0) hbox
  have r9 := cell_of_row w2 _ 9 _ 43 (0, 0) hres
  have f9 := unfrozen (i := 9) hbox
  have g9 := unfrozen (i := 9) hres
  have q10 := cell_of_row w2 _ 10 _ 43 (0, 0) hbox
  have r10 := cell_of_row w2 _ 10 _ 43 (0, 0) hres
  have f10 := unfrozen (i := 10) hbox
  have g10 := unfrozen (i := 10) hres
  have q11 := cell_of_row w2 _ 11 _ 43 (0, 0) hbox
  have r11 := cell_of_row w2 _ 11 _ 43 (0, 0) hres
  have f11 := unfrozen (i := 11) hbox
  have g11 := unfrozen (i := 11) hres
  have HBF := Lib.hid HM.out.below
  clear hbox hres
  go_wp2_with fail
  refine bodyPost_ret (v := .agg #[.int .i64 (5 + (no : Int) / 4), .int .i64 a1, .int .i64 (4 * (5 + (no : Int) / 4) + (pl : Int)), .int .i64 a3, .int .i64 a4, .int .i64 a5, .int .i64 a6, .int .i64 a7, .int .i64 x, .slice A9 n9 c9, .slice A10 n10 c10, .slice A11 os.length c11]) ?_ rfl ⟨⟨_, _, _, rfl⟩, ?_⟩
  · simp [results, Tryz.f47, go_sem, q0, r0, q1, r1, q2, r2, q3, r3, q4, r4, q5, r5, q6, r6, q7, r7, q8, r8, q9, r9, q10, r10, q11, r11]
  · repeat first | with_reducible exact HBF.out | with_reducible refine Below.setCell ?_ (by simp) _
end Go.Proofs.YtecgkcofmphaiaaGreatDoor.Gpk
