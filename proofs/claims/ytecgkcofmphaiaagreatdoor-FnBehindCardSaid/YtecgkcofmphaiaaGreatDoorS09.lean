/- Headers made whole. -/
import Derived.Test.YtecgkcofmphaiaaGreatDoorS07
import Derived.Test.YtecgkcofmphaiaaGreatDoorS02
set_option linter.unusedVariables false
set_option linter.unusedSimpArgs false
set_option linter.unnecessarySimpa false
set_option linter.unusedSectionVars false
namespace Go.Proofs.YtecgkcofmphaiaaGreatDoor.Gpk
open Go.RowKit
set_option linter.unusedVariables false
theorem heap0 (w : World) (X R : Obj) : ((w.alloc X).alloc R).heap[w.heap.size]? = some X := by
  have h0 : (w.alloc X).heap[w.heap.size]? = some X := heap_alloc_new w X
  exact (heap_alloc_old _ _ (lt_of_heap h0)).trans h0
theorem heap1 (w : World) (X R : Obj) : ((w.alloc X).alloc R).heap[w.heap.size + 1]? = some R := by
  have := heap_alloc_new (w.alloc X) R
  rwa [World.size_alloc] at this
theorem belowTwo {w w1 : World} {X R : Obj} (h : Below ((w.alloc X).alloc R).heap.size ((w.alloc X).alloc R) w1) : Below w.heap.size w w1 :=
  (((Below.refl w.heap.size w).alloc (Nat.le_refl _) X).alloc (by simp) R).trans (h.mono (by simp; omega))
set_option maxRecDepth 100000 in
set_option maxHeartbeats 4000000 in
theorem wholeIcmp_ (a0 a1 a2 a3 a4 : Int) (A : Option Addr) (n c : Nat) (w : World) (h : BB w (.slice A n c) n) (hn : n ≤ 100000) :
    Calls Tryz.prog 54 #[.agg #[.int .i64 a0, .int .i64 a1, .int .i64 a2, .int .i64 a3, .int .i64 a4], .slice A n c] w fun e w' => (∃ x : Int, e = .returned (.agg #[.int .i64 a0, .int .i64 a1, .int .i64 x, .int .i64 a3, .int .i64 a4])) ∧ Below w.heap.size w w' := by
  have HM := Lib.hid ((((Made.start w).arg h).alloc (.cells #[.int .i64 a0, .int .i64 a1, .int .i64 0, .int .i64 a3, .int .i64 a4] 51)).alloc (.cells #[.int .i64 0, .int .i64 0, .int .i64 0, .int .i64 0, .int .i64 0] 51))
  have H0 := Lib.hid (heap0 w (.cells #[.int .i64 a0, .int .i64 a1, .int .i64 0, .int .i64 a3, .int .i64 a4] 51) (.cells #[.int .i64 0, .int .i64 0, .int .i64 0, .int .i64 0, .int .i64 0] 51))
  have H1 := Lib.hid (heap1 w (.cells #[.int .i64 a0, .int .i64 a1, .int .i64 0, .int .i64 a3, .int .i64 a4] 51) (.cells #[.int .i64 0, .int .i64 0, .int .i64 0, .int .i64 0, .int .i64 0] 51))
  clear h
  go_enter Tryz.func54, Tryz.ntmps54
  go_wp2_with fail
  refine (icmp_ _ _ _ _ _ _).mono ?_
  rintro e w1 ⟨ao, k, rfl, ho, hb⟩
  have hm2 := Made.call HM.out ho hb
  have HB0 := Lib.hid hb
  clear HM
  have HM := Lib.hid hm2
  clear hm2 ho hb
  go_wp2_with fail
  refine (joinedAtM (m := 200000) (by (first | exact HM.out | exact HM.out.drewN _ | refine HM.out.bytes2 ?_ ?_ | refine HM.out.bytes4 ?_ ?_ ?_ ?_ | refine (HM.out.bytes2 ?_ ?_).drewN _ | refine (HM.out.bytes4 ?_ ?_ ?_ ?_).drewN _ | exact HM.out.alloc _ | exact (HM.out.drewN _).alloc _) <;> first | exact u8mod _ | exact u8wrap _ | exact ⟨0, by decide, rfl⟩ | exact ⟨8, by decide, rfl⟩ | (refine ⟨_, ?_, rfl⟩; omega)) (by first | rfl | simp) (by rfl) (by simp [total, lenX]; omega) (by simp [lenX]) (by omega) (by omega)).mono ?_
  rintro e w2 ⟨nj, aj, kj, hnj, rfl, ho, hb⟩
  have hm2 := Made.call (Made.alloc (by (first | exact HM.out | exact HM.out.drewN _ | refine HM.out.bytes2 ?_ ?_ | refine HM.out.bytes4 ?_ ?_ ?_ ?_ | refine (HM.out.bytes2 ?_ ?_).drewN _ | refine (HM.out.bytes4 ?_ ?_ ?_ ?_).drewN _ | exact HM.out.alloc _ | exact (HM.out.drewN _).alloc _) <;> first | exact u8mod _ | exact u8wrap _ | exact ⟨0, by decide, rfl⟩ | exact ⟨8, by decide, rfl⟩ | (refine ⟨_, ?_, rfl⟩; omega)) _) ho hb
  have b2 := (HB0.out.alloc HB0.out.size _).trans (hb.mono (by have := HB0.out.size; simp at this ⊢; omega))
  clear HM HB0
  have HM := Lib.hid hm2
  have HB0 := Lib.hid b2
  clear hm2 ho hb b2
  go_wp2_with fail
  refine (checksum_ _ nj _ HM.out.head (by omega)).mono ?_
  rintro e w4 ⟨⟨x, rfl⟩, rfl⟩
  have hbox := (HB0.out.block _ (lt_of_heap H0.out)).trans H0.out
  have hres := (HB0.out.block _ (lt_of_heap H1.out)).trans H1.out
  have q0 := cell_of_row w2 _ 0 _ 51 (0, 0) hbox
  have r0 := cell_of_row w2 _ 0 _ 51 (0, 0) hres
  have f0 := unfrozen (i := 0) hbox
  have g0 := unfrozen (i := 0) hres
  have q1 := cell_of_row w2 _ 1 _ 51 (0, 0) hbox
  have r1 := cell_of_row w2 _ 1 _ 51 (0, 0) hres
  have f1 := unfrozen (i := 1) hbox
  have g1 := unfrozen (i := 1) hres
  have q2 := cell_of_row w2 _ 2 _ 51 (0, 0) hbox
  have r2 := cell_of_row w2 _ 2 _ 51 (0, 0) hres
  have f2 := unfrozen (i := 2) hbox
  have g2 := unfrozen (i := 2) hres
  have q3 := cell_of_row w2 _ 3 _ 51 (0, 0) hbox
  have r3 := cell_of_row w2 _ 3 _ 51 (0, 0) hres
  have f3 := unfrozen (i := 3) hbox
  have g3 := unfrozen (i := 3) hres
  have q4 := cell_of_row w2 _ 4 _ 51 (0, 0) hbox
  have r4 := cell_of_row w2 _ 4 _ 51 (0, 0) hres
  have f4 := unfrozen (i := 4) hbox
  have g4 := unfrozen (i := 4) hres
  have HBW := Lib.hid (belowTwo HB0.out)
  have HX := Lib.hid hbox
  have HR := Lib.hid hres
  clear hbox hres
  go_wp2_with fail
  refine bodyPost_ret (v := .agg #[.int .i64 a0, .int .i64 a1, .int .i64 x, .int .i64 a3, .int .i64 a4]) ?_ rfl ⟨⟨x, rfl⟩, ?_⟩
  · simp [results, Tryz.f54, go_sem, q0, q1, q2, q3, q4, r0, r1, r2, r3, r4]
  · repeat first | exact HBW.out | refine Below.setCell ?_ (by simp) _
end Go.Proofs.YtecgkcofmphaiaaGreatDoor.Gpk
