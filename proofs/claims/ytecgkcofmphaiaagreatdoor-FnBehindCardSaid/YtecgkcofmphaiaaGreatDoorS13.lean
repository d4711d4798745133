/- Routing encapsulation as bytes. -/
import Derived.Test.YtecgkcofmphaiaaGreatDoorS01
set_option linter.unusedVariables false
set_option linter.unusedSimpArgs false
set_option linter.unnecessarySimpa false
set_option linter.unusedSectionVars false
namespace Go.Proofs.YtecgkcofmphaiaaGreatDoor.Gpk
open Go.RowKit
set_option linter.unusedVariables false
theorem belowGrown0' {w wr w1 : World} {n : Nat} {v : Value} (hb : Below w.heap.size w wr) (h : OwnB wr w.heap.size v n) (hg : wr.grownBy w1 v.ownBlock) : Below w.heap.size w w1 :=
  hb.grown hg hb.size (fun k hk => (h.lt k hk).1)
set_option maxRecDepth 100000 in
set_option maxHeartbeats 4000000 in
theorem gre_true_true (a0 a1 a6 a7 a8 a9 : Int) (a2 a5 : Bool) (w : World) : Calls Tryz.prog 57 #[.agg #[.int .i64 a0, .int .i64 a1, .bool a2, .bool true, .bool true, .bool a5, .int .i64 a6, .int .i64 a7, .int .i64 a8, .int .i64 a9]] w (RB 12 w) := by
  have HM := Lib.hid (Made.start (w.alloc (.cells #[.int .i64 a0, .int .i64 a1, .bool a2, .bool true, .bool true, .bool a5, .int .i64 a6, .int .i64 a7, .int .i64 a8, .int .i64 a9] 53)))
  have z1 : (w.alloc (.cells #[.int .i64 a0, .int .i64 a1, .bool a2, .bool true, .bool true, .bool a5, .int .i64 a6, .int .i64 a7, .int .i64 a8, .int .i64 a9] 53)).cell? ⟨w.heap.size, 1, none⟩ = some (.int .i64 a1) := (cell_of_row _ _ 1 _ 53 (0, 0) (heap_alloc_new w _)).trans rfl
  have z3 : (w.alloc (.cells #[.int .i64 a0, .int .i64 a1, .bool a2, .bool true, .bool true, .bool a5, .int .i64 a6, .int .i64 a7, .int .i64 a8, .int .i64 a9] 53)).cell? ⟨w.heap.size, 3, none⟩ = some (.bool true) := (cell_of_row _ _ 3 _ 53 (0, 0) (heap_alloc_new w _)).trans rfl
  have z4 : (w.alloc (.cells #[.int .i64 a0, .int .i64 a1, .bool a2, .bool true, .bool true, .bool a5, .int .i64 a6, .int .i64 a7, .int .i64 a8, .int .i64 a9] 53)).cell? ⟨w.heap.size, 4, none⟩ = some (.bool true) := (cell_of_row _ _ 4 _ 53 (0, 0) (heap_alloc_new w _)).trans rfl
  have HB00 := Lib.hid (heap_alloc_new w (.cells #[.int .i64 a0, .int .i64 a1, .bool a2, .bool true, .bool true, .bool a5, .int .i64 a6, .int .i64 a7, .int .i64 a8, .int .i64 a9] 53))
  go_enter Tryz.func57, Tryz.ntmps57
  go_wp2_with fail
  go_region_held3 (fun w' => w'.cell? ⟨w.heap.size, 1, none⟩ = some (.int .i64 a1) ∧ w'.cell? ⟨w.heap.size, 3, none⟩ = some (.bool true) ∧ w'.cell? ⟨w.heap.size, 4, none⟩ = some (.bool true)) (first | (exact Made.limbs3 (by (first | exact HM.out | exact HM.out.drewN _ | refine HM.out.bytes2 ?_ ?_ | refine HM.out.bytes4 ?_ ?_ ?_ ?_ | refine (HM.out.bytes2 ?_ ?_).drewN _ | refine (HM.out.bytes4 ?_ ?_ ?_ ?_).drewN _ | exact HM.out.alloc _ | exact (HM.out.drewN _).alloc _) <;> first | exact u8mod _ | exact u8wrap _ | exact ⟨0, by decide, rfl⟩ | exact ⟨8, by decide, rfl⟩ | (refine ⟨_, ?_, rfl⟩; omega)) (by simp) z1 z3 z4) | go_keep)
    (first
      | (go_at_call 76; refine (bit_ _ _).mono ?_; rintro e w1 ⟨⟨x, rfl⟩, rfl⟩)
      | (go_at_call 75; refine (short_ _ _).mono ?_; rintro e w1 ⟨ao, k, rfl, ho, hb⟩; have HF := Lib.hid (Made.fin (by (first | exact HM.out | exact HM.out.drewN _ | refine HM.out.bytes2 ?_ ?_ | refine HM.out.bytes4 ?_ ?_ ?_ ?_ | refine (HM.out.bytes2 ?_ ?_).drewN _ | refine (HM.out.bytes4 ?_ ?_ ?_ ?_).drewN _ | exact HM.out.alloc _ | exact (HM.out.drewN _).alloc _) <;> first | exact u8mod _ | exact u8wrap _ | exact ⟨0, by decide, rfl⟩ | exact ⟨8, by decide, rfl⟩ | (refine ⟨_, ?_, rfl⟩; omega)) ho hb); have hm2 := Made.call (by (first | exact HM.out | exact HM.out.drewN _ | refine HM.out.bytes2 ?_ ?_ | refine HM.out.bytes4 ?_ ?_ ?_ ?_ | refine (HM.out.bytes2 ?_ ?_).drewN _ | refine (HM.out.bytes4 ?_ ?_ ?_ ?_).drewN _ | exact HM.out.alloc _ | exact (HM.out.drewN _).alloc _) <;> first | exact u8mod _ | exact u8wrap _ | exact ⟨0, by decide, rfl⟩ | exact ⟨8, by decide, rfl⟩ | (refine ⟨_, ?_, rfl⟩; omega)) ho hb; (try clear hk hz); have hk := fun (i : Nat) => hm2.below.cell (p := ⟨w.heap.size, i, none⟩) (by simp); have hz := fun (i : Nat) => hm2.below.frozen (p := ⟨w.heap.size, i, none⟩) (by simp); clear HM; have HM := Lib.hid hm2; clear hm2 ho hb)
      | (go_at_call 17; refine (joinedAt (n := 4) (by (first | exact HM.out | exact HM.out.drewN _ | refine HM.out.bytes2 ?_ ?_ | refine HM.out.bytes4 ?_ ?_ ?_ ?_ | refine (HM.out.bytes2 ?_ ?_).drewN _ | refine (HM.out.bytes4 ?_ ?_ ?_ ?_).drewN _ | exact HM.out.alloc _ | exact (HM.out.drewN _).alloc _) <;> first | exact u8mod _ | exact u8wrap _ | exact ⟨0, by decide, rfl⟩ | exact ⟨8, by decide, rfl⟩ | (refine ⟨_, ?_, rfl⟩; omega)) (by first | rfl | simp) (by rfl) (by first | rfl | (simp [total, lenX]; done) | (simp [total, lenX]; omega)) (by simp [lenX]) (by omega) (by omega)).mono ?_; rintro e w1 ⟨ao, k, rfl, ho, hb⟩; have HF := Lib.hid (Made.fin (Made.alloc (by (first | exact HM.out | exact HM.out.drewN _ | refine HM.out.bytes2 ?_ ?_ | refine HM.out.bytes4 ?_ ?_ ?_ ?_ | refine (HM.out.bytes2 ?_ ?_).drewN _ | refine (HM.out.bytes4 ?_ ?_ ?_ ?_).drewN _ | exact HM.out.alloc _ | exact (HM.out.drewN _).alloc _) <;> first | exact u8mod _ | exact u8wrap _ | exact ⟨0, by decide, rfl⟩ | exact ⟨8, by decide, rfl⟩ | (refine ⟨_, ?_, rfl⟩; omega)) _) ho hb); have hm2 := Made.call (Made.alloc (by (first | exact HM.out | exact HM.out.drewN _ | refine HM.out.bytes2 ?_ ?_ | refine HM.out.bytes4 ?_ ?_ ?_ ?_ | refine (HM.out.bytes2 ?_ ?_).drewN _ | refine (HM.out.bytes4 ?_ ?_ ?_ ?_).drewN _ | exact HM.out.alloc _ | exact (HM.out.drewN _).alloc _) <;> first | exact u8mod _ | exact u8wrap _ | exact ⟨0, by decide, rfl⟩ | exact ⟨8, by decide, rfl⟩ | (refine ⟨_, ?_, rfl⟩; omega)) _) ho hb; (try clear hk hz); have hk := fun (i : Nat) => hm2.below.cell (p := ⟨w.heap.size, i, none⟩) (by simp); have hz := fun (i : Nat) => hm2.below.frozen (p := ⟨w.heap.size, i, none⟩) (by simp); clear HM; have HM := Lib.hid hm2; clear hm2 ho hb))
  have HBX := Lib.hid ((HM.out.below.block _ (lt_of_heap HB00.out)).trans HB00.out)
  have q3 := cell_of_row _ _ 3 _ 53 (0, 0) HBX.out
  have q4 := cell_of_row _ _ 4 _ 53 (0, 0) HBX.out
  have q7 := cell_of_row _ _ 7 _ 53 (0, 0) HBX.out
  have q8 := cell_of_row _ _ 8 _ 53 (0, 0) HBX.out
  have HOUT := Lib.hid HF.out.1
  have HBW := Lib.hid HF.out.2
  clear HM HF hk hz z1 z3 z4
  go_wp2_with fail
  refine (long_ _ _).mono ?_
  rintro e wa ⟨aa, ka, rfl, ho, hb⟩
  have hbx := (hb.block _ (lt_of_heap HBX.out)).trans HBX.out
  have q3 := cell_of_row wa _ 3 _ 53 (0, 0) hbx
  have q4 := cell_of_row wa _ 4 _ 53 (0, 0) hbx
  have q8 := cell_of_row wa _ 8 _ 53 (0, 0) hbx
  have HOA := Lib.hid (HOUT.out.below hb)
  have HBA := Lib.hid (HBW.out.trans (hb.mono HBW.out.size))
  have HLA := Lib.hid ho
  clear HBX HOUT HBW ho hb
  have HBX := Lib.hid hbx
  clear hbx
  go_wp2_with (at_builtin; (refine wpList_append_bytes rfl (.tmp 21) (.tmp 24) rfl w.heap.size _ _ 4 4 rfl rfl HOA.out HLA.out.bb HBA.out.size (by omega) ?_))
  intro ab cb wb hown hgrow
  have hbx := HOA.out.keep hgrow HBX.out (by decide)
  have q3 := cell_of_row wb _ 3 _ 53 (0, 0) hbx
  have q4 := cell_of_row wb _ 4 _ 53 (0, 0) hbx
  have q8 := cell_of_row wb _ 8 _ 53 (0, 0) hbx
  have HOUT := Lib.hid hown
  have HBW := Lib.hid (belowGrown0' HBA.out HOA.out hgrow)
  clear HBX HOA HBA HLA hown hgrow
  have HBX := Lib.hid hbx
  clear hbx
  go_wp2_with fail
  refine (long_ _ _).mono ?_
  rintro e wa ⟨aa, ka, rfl, ho, hb⟩
  have hbx := (hb.block _ (lt_of_heap HBX.out)).trans HBX.out
  have q3 := cell_of_row wa _ 3 _ 53 (0, 0) hbx
  have q4 := cell_of_row wa _ 4 _ 53 (0, 0) hbx
  have q8 := cell_of_row wa _ 8 _ 53 (0, 0) hbx
  have HOA := Lib.hid (HOUT.out.below hb)
  have HBA := Lib.hid (HBW.out.trans (hb.mono HBW.out.size))
  have HLA := Lib.hid ho
  clear HBX HOUT HBW ho hb
  have HBX := Lib.hid hbx
  clear hbx
  go_wp2_with (at_builtin; (refine wpList_append_bytes rfl (.tmp 28) (.tmp 31) rfl w.heap.size _ _ 8 4 rfl rfl HOA.out HLA.out.bb HBA.out.size (by omega) ?_))
  intro ab cb wb hown hgrow
  have hbx := HOA.out.keep hgrow HBX.out (by decide)
  have q3 := cell_of_row wb _ 3 _ 53 (0, 0) hbx
  have q4 := cell_of_row wb _ 4 _ 53 (0, 0) hbx
  have q8 := cell_of_row wb _ 8 _ 53 (0, 0) hbx
  have HOUT := Lib.hid hown
  have HBW := Lib.hid (belowGrown0' HBA.out HOA.out hgrow)
  clear HBX HOA HBA HLA hown hgrow
  have HBX := Lib.hid hbx
  clear hbx
  go_wp2_with fail
  go_ret
  exact ⟨_, _, rfl, HOUT.out, HBW.out⟩
set_option maxRecDepth 100000 in
set_option maxHeartbeats 4000000 in
theorem gre_true_false (a0 a1 a6 a7 a8 a9 : Int) (a2 a5 : Bool) (w : World) : Calls Tryz.prog 57 #[.agg #[.int .i64 a0, .int .i64 a1, .bool a2, .bool true, .bool false, .bool a5, .int .i64 a6, .int .i64 a7, .int .i64 a8, .int .i64 a9]] w (RB 8 w) := by
  have HM := Lib.hid (Made.start (w.alloc (.cells #[.int .i64 a0, .int .i64 a1, .bool a2, .bool true, .bool false, .bool a5, .int .i64 a6, .int .i64 a7, .int .i64 a8, .int .i64 a9] 53)))
  have z1 : (w.alloc (.cells #[.int .i64 a0, .int .i64 a1, .bool a2, .bool true, .bool false, .bool a5, .int .i64 a6, .int .i64 a7, .int .i64 a8, .int .i64 a9] 53)).cell? ⟨w.heap.size, 1, none⟩ = some (.int .i64 a1) := (cell_of_row _ _ 1 _ 53 (0, 0) (heap_alloc_new w _)).trans rfl
  have z3 : (w.alloc (.cells #[.int .i64 a0, .int .i64 a1, .bool a2, .bool true, .bool false, .bool a5, .int .i64 a6, .int .i64 a7, .int .i64 a8, .int .i64 a9] 53)).cell? ⟨w.heap.size, 3, none⟩ = some (.bool true) := (cell_of_row _ _ 3 _ 53 (0, 0) (heap_alloc_new w _)).trans rfl
  have z4 : (w.alloc (.cells #[.int .i64 a0, .int .i64 a1, .bool a2, .bool true, .bool false, .bool a5, .int .i64 a6, .int .i64 a7, .int .i64 a8, .int .i64 a9] 53)).cell? ⟨w.heap.size, 4, none⟩ = some (.bool false) := (cell_of_row _ _ 4 _ 53 (0, 0) (heap_alloc_new w _)).trans rfl
  have HB00 := Lib.hid (heap_alloc_new w (.cells #[.int .i64 a0, .int .i64 a1, .bool a2, .bool true, .bool false, .bool a5, .int .i64 a6, .int .i64 a7, .int .i64 a8, .int .i64 a9] 53))
  go_enter Tryz.func57, Tryz.ntmps57
  go_wp2_with fail
  go_region_held3 (fun w' => w'.cell? ⟨w.heap.size, 1, none⟩ = some (.int .i64 a1) ∧ w'.cell? ⟨w.heap.size, 3, none⟩ = some (.bool true) ∧ w'.cell? ⟨w.heap.size, 4, none⟩ = some (.bool false)) (first | (exact Made.limbs3 (by (first | exact HM.out | exact HM.out.drewN _ | refine HM.out.bytes2 ?_ ?_ | refine HM.out.bytes4 ?_ ?_ ?_ ?_ | refine (HM.out.bytes2 ?_ ?_).drewN _ | refine (HM.out.bytes4 ?_ ?_ ?_ ?_).drewN _ | exact HM.out.alloc _ | exact (HM.out.drewN _).alloc _) <;> first | exact u8mod _ | exact u8wrap _ | exact ⟨0, by decide, rfl⟩ | exact ⟨8, by decide, rfl⟩ | (refine ⟨_, ?_, rfl⟩; omega)) (by simp) z1 z3 z4) | go_keep)
    (first
      | (go_at_call 76; refine (bit_ _ _).mono ?_; rintro e w1 ⟨⟨x, rfl⟩, rfl⟩)
      | (go_at_call 75; refine (short_ _ _).mono ?_; rintro e w1 ⟨ao, k, rfl, ho, hb⟩; have HF := Lib.hid (Made.fin (by (first | exact HM.out | exact HM.out.drewN _ | refine HM.out.bytes2 ?_ ?_ | refine HM.out.bytes4 ?_ ?_ ?_ ?_ | refine (HM.out.bytes2 ?_ ?_).drewN _ | refine (HM.out.bytes4 ?_ ?_ ?_ ?_).drewN _ | exact HM.out.alloc _ | exact (HM.out.drewN _).alloc _) <;> first | exact u8mod _ | exact u8wrap _ | exact ⟨0, by decide, rfl⟩ | exact ⟨8, by decide, rfl⟩ | (refine ⟨_, ?_, rfl⟩; omega)) ho hb); have hm2 := Made.call (by (first | exact HM.out | exact HM.out.drewN _ | refine HM.out.bytes2 ?_ ?_ | refine HM.out.bytes4 ?_ ?_ ?_ ?_ | refine (HM.out.bytes2 ?_ ?_).drewN _ | refine (HM.out.bytes4 ?_ ?_ ?_ ?_).drewN _ | exact HM.out.alloc _ | exact (HM.out.drewN _).alloc _) <;> first | exact u8mod _ | exact u8wrap _ | exact ⟨0, by decide, rfl⟩ | exact ⟨8, by decide, rfl⟩ | (refine ⟨_, ?_, rfl⟩; omega)) ho hb; (try clear hk hz); have hk := fun (i : Nat) => hm2.below.cell (p := ⟨w.heap.size, i, none⟩) (by simp); have hz := fun (i : Nat) => hm2.below.frozen (p := ⟨w.heap.size, i, none⟩) (by simp); clear HM; have HM := Lib.hid hm2; clear hm2 ho hb)
      | (go_at_call 17; refine (joinedAt (n := 4) (by (first | exact HM.out | exact HM.out.drewN _ | refine HM.out.bytes2 ?_ ?_ | refine HM.out.bytes4 ?_ ?_ ?_ ?_ | refine (HM.out.bytes2 ?_ ?_).drewN _ | refine (HM.out.bytes4 ?_ ?_ ?_ ?_).drewN _ | exact HM.out.alloc _ | exact (HM.out.drewN _).alloc _) <;> first | exact u8mod _ | exact u8wrap _ | exact ⟨0, by decide, rfl⟩ | exact ⟨8, by decide, rfl⟩ | (refine ⟨_, ?_, rfl⟩; omega)) (by first | rfl | simp) (by rfl) (by first | rfl | (simp [total, lenX]; done) | (simp [total, lenX]; omega)) (by simp [lenX]) (by omega) (by omega)).mono ?_; rintro e w1 ⟨ao, k, rfl, ho, hb⟩; have HF := Lib.hid (Made.fin (Made.alloc (by (first | exact HM.out | exact HM.out.drewN _ | refine HM.out.bytes2 ?_ ?_ | refine HM.out.bytes4 ?_ ?_ ?_ ?_ | refine (HM.out.bytes2 ?_ ?_).drewN _ | refine (HM.out.bytes4 ?_ ?_ ?_ ?_).drewN _ | exact HM.out.alloc _ | exact (HM.out.drewN _).alloc _) <;> first | exact u8mod _ | exact u8wrap _ | exact ⟨0, by decide, rfl⟩ | exact ⟨8, by decide, rfl⟩ | (refine ⟨_, ?_, rfl⟩; omega)) _) ho hb); have hm2 := Made.call (Made.alloc (by (first | exact HM.out | exact HM.out.drewN _ | refine HM.out.bytes2 ?_ ?_ | refine HM.out.bytes4 ?_ ?_ ?_ ?_ | refine (HM.out.bytes2 ?_ ?_).drewN _ | refine (HM.out.bytes4 ?_ ?_ ?_ ?_).drewN _ | exact HM.out.alloc _ | exact (HM.out.drewN _).alloc _) <;> first | exact u8mod _ | exact u8wrap _ | exact ⟨0, by decide, rfl⟩ | exact ⟨8, by decide, rfl⟩ | (refine ⟨_, ?_, rfl⟩; omega)) _) ho hb; (try clear hk hz); have hk := fun (i : Nat) => hm2.below.cell (p := ⟨w.heap.size, i, none⟩) (by simp); have hz := fun (i : Nat) => hm2.below.frozen (p := ⟨w.heap.size, i, none⟩) (by simp); clear HM; have HM := Lib.hid hm2; clear hm2 ho hb))
  have HBX := Lib.hid ((HM.out.below.block _ (lt_of_heap HB00.out)).trans HB00.out)
  have q3 := cell_of_row _ _ 3 _ 53 (0, 0) HBX.out
  have q4 := cell_of_row _ _ 4 _ 53 (0, 0) HBX.out
  have q7 := cell_of_row _ _ 7 _ 53 (0, 0) HBX.out
  have q8 := cell_of_row _ _ 8 _ 53 (0, 0) HBX.out
  have HOUT := Lib.hid HF.out.1
  have HBW := Lib.hid HF.out.2
  clear HM HF hk hz z1 z3 z4
  go_wp2_with fail
  refine (long_ _ _).mono ?_
  rintro e wa ⟨aa, ka, rfl, ho, hb⟩
  have hbx := (hb.block _ (lt_of_heap HBX.out)).trans HBX.out
  have q3 := cell_of_row wa _ 3 _ 53 (0, 0) hbx
  have q4 := cell_of_row wa _ 4 _ 53 (0, 0) hbx
  have q8 := cell_of_row wa _ 8 _ 53 (0, 0) hbx
  have HOA := Lib.hid (HOUT.out.below hb)
  have HBA := Lib.hid (HBW.out.trans (hb.mono HBW.out.size))
  have HLA := Lib.hid ho
  clear HBX HOUT HBW ho hb
  have HBX := Lib.hid hbx
  clear hbx
  go_wp2_with (at_builtin; (refine wpList_append_bytes rfl (.tmp 21) (.tmp 24) rfl w.heap.size _ _ 4 4 rfl rfl HOA.out HLA.out.bb HBA.out.size (by omega) ?_))
  intro ab cb wb hown hgrow
  have hbx := HOA.out.keep hgrow HBX.out (by decide)
  have q3 := cell_of_row wb _ 3 _ 53 (0, 0) hbx
  have q4 := cell_of_row wb _ 4 _ 53 (0, 0) hbx
  have q8 := cell_of_row wb _ 8 _ 53 (0, 0) hbx
  have HOUT := Lib.hid hown
  have HBW := Lib.hid (belowGrown0' HBA.out HOA.out hgrow)
  clear HBX HOA HBA HLA hown hgrow
  have HBX := Lib.hid hbx
  clear hbx
  go_wp2_with fail
  go_ret
  exact ⟨_, _, rfl, HOUT.out, HBW.out⟩
set_option maxRecDepth 100000 in
set_option maxHeartbeats 4000000 in
theorem gre_false_true (a0 a1 a6 a7 a8 a9 : Int) (a2 a5 : Bool) (w : World) : Calls Tryz.prog 57 #[.agg #[.int .i64 a0, .int .i64 a1, .bool a2, .bool false, .bool true, .bool a5, .int .i64 a6, .int .i64 a7, .int .i64 a8, .int .i64 a9]] w (RB 8 w) := by
  have HM := Lib.hid (Made.start (w.alloc (.cells #[.int .i64 a0, .int .i64 a1, .bool a2, .bool false, .bool true, .bool a5, .int .i64 a6, .int .i64 a7, .int .i64 a8, .int .i64 a9] 53)))
  have z1 : (w.alloc (.cells #[.int .i64 a0, .int .i64 a1, .bool a2, .bool false, .bool true, .bool a5, .int .i64 a6, .int .i64 a7, .int .i64 a8, .int .i64 a9] 53)).cell? ⟨w.heap.size, 1, none⟩ = some (.int .i64 a1) := (cell_of_row _ _ 1 _ 53 (0, 0) (heap_alloc_new w _)).trans rfl
  have z3 : (w.alloc (.cells #[.int .i64 a0, .int .i64 a1, .bool a2, .bool false, .bool true, .bool a5, .int .i64 a6, .int .i64 a7, .int .i64 a8, .int .i64 a9] 53)).cell? ⟨w.heap.size, 3, none⟩ = some (.bool false) := (cell_of_row _ _ 3 _ 53 (0, 0) (heap_alloc_new w _)).trans rfl
  have z4 : (w.alloc (.cells #[.int .i64 a0, .int .i64 a1, .bool a2, .bool false, .bool true, .bool a5, .int .i64 a6, .int .i64 a7, .int .i64 a8, .int .i64 a9] 53)).cell? ⟨w.heap.size, 4, none⟩ = some (.bool true) := (cell_of_row _ _ 4 _ 53 (0, 0) (heap_alloc_new w _)).trans rfl
  have HB00 := Lib.hid (heap_alloc_new w (.cells #[.int .i64 a0, .int .i64 a1, .bool a2, .bool false, .bool true, .bool a5, .int .i64 a6, .int .i64 a7, .int .i64 a8, .int .i64 a9] 53))
  go_enter Tryz.func57, Tryz.ntmps57
  go_wp2_with fail
  go_region_held3 (fun w' => w'.cell? ⟨w.heap.size, 1, none⟩ = some (.int .i64 a1) ∧ w'.cell? ⟨w.heap.size, 3, none⟩ = some (.bool false) ∧ w'.cell? ⟨w.heap.size, 4, none⟩ = some (.bool true)) (first | (exact Made.limbs3 (by (first | exact HM.out | exact HM.out.drewN _ | refine HM.out.bytes2 ?_ ?_ | refine HM.out.bytes4 ?_ ?_ ?_ ?_ | refine (HM.out.bytes2 ?_ ?_).drewN _ | refine (HM.out.bytes4 ?_ ?_ ?_ ?_).drewN _ | exact HM.out.alloc _ | exact (HM.out.drewN _).alloc _) <;> first | exact u8mod _ | exact u8wrap _ | exact ⟨0, by decide, rfl⟩ | exact ⟨8, by decide, rfl⟩ | (refine ⟨_, ?_, rfl⟩; omega)) (by simp) z1 z3 z4) | go_keep)
    (first
      | (go_at_call 76; refine (bit_ _ _).mono ?_; rintro e w1 ⟨⟨x, rfl⟩, rfl⟩)
      | (go_at_call 75; refine (short_ _ _).mono ?_; rintro e w1 ⟨ao, k, rfl, ho, hb⟩; have HF := Lib.hid (Made.fin (by (first | exact HM.out | exact HM.out.drewN _ | refine HM.out.bytes2 ?_ ?_ | refine HM.out.bytes4 ?_ ?_ ?_ ?_ | refine (HM.out.bytes2 ?_ ?_).drewN _ | refine (HM.out.bytes4 ?_ ?_ ?_ ?_).drewN _ | exact HM.out.alloc _ | exact (HM.out.drewN _).alloc _) <;> first | exact u8mod _ | exact u8wrap _ | exact ⟨0, by decide, rfl⟩ | exact ⟨8, by decide, rfl⟩ | (refine ⟨_, ?_, rfl⟩; omega)) ho hb); have hm2 := Made.call (by (first | exact HM.out | exact HM.out.drewN _ | refine HM.out.bytes2 ?_ ?_ | refine HM.out.bytes4 ?_ ?_ ?_ ?_ | refine (HM.out.bytes2 ?_ ?_).drewN _ | refine (HM.out.bytes4 ?_ ?_ ?_ ?_).drewN _ | exact HM.out.alloc _ | exact (HM.out.drewN _).alloc _) <;> first | exact u8mod _ | exact u8wrap _ | exact ⟨0, by decide, rfl⟩ | exact ⟨8, by decide, rfl⟩ | (refine ⟨_, ?_, rfl⟩; omega)) ho hb; (try clear hk hz); have hk := fun (i : Nat) => hm2.below.cell (p := ⟨w.heap.size, i, none⟩) (by simp); have hz := fun (i : Nat) => hm2.below.frozen (p := ⟨w.heap.size, i, none⟩) (by simp); clear HM; have HM := Lib.hid hm2; clear hm2 ho hb)
      | (go_at_call 17; refine (joinedAt (n := 4) (by (first | exact HM.out | exact HM.out.drewN _ | refine HM.out.bytes2 ?_ ?_ | refine HM.out.bytes4 ?_ ?_ ?_ ?_ | refine (HM.out.bytes2 ?_ ?_).drewN _ | refine (HM.out.bytes4 ?_ ?_ ?_ ?_).drewN _ | exact HM.out.alloc _ | exact (HM.out.drewN _).alloc _) <;> first | exact u8mod _ | exact u8wrap _ | exact ⟨0, by decide, rfl⟩ | exact ⟨8, by decide, rfl⟩ | (refine ⟨_, ?_, rfl⟩; omega)) (by first | rfl | simp) (by rfl) (by first | rfl | (simp [total, lenX]; done) | (simp [total, lenX]; omega)) (by simp [lenX]) (by omega) (by omega)).mono ?_; rintro e w1 ⟨ao, k, rfl, ho, hb⟩; have HF := Lib.hid (Made.fin (Made.alloc (by (first | exact HM.out | exact HM.out.drewN _ | refine HM.out.bytes2 ?_ ?_ | refine HM.out.bytes4 ?_ ?_ ?_ ?_ | refine (HM.out.bytes2 ?_ ?_).drewN _ | refine (HM.out.bytes4 ?_ ?_ ?_ ?_).drewN _ | exact HM.out.alloc _ | exact (HM.out.drewN _).alloc _) <;> first | exact u8mod _ | exact u8wrap _ | exact ⟨0, by decide, rfl⟩ | exact ⟨8, by decide, rfl⟩ | (refine ⟨_, ?_, rfl⟩; omega)) _) ho hb); have hm2 := Made.call (Made.alloc (by (first | exact HM.out | exact HM.out.drewN _ | refine HM.out.bytes2 ?_ ?_ | refine HM.out.bytes4 ?_ ?_ ?_ ?_ | refine (HM.out.bytes2 ?_ ?_).drewN _ | refine (HM.out.bytes4 ?_ ?_ ?_ ?_).drewN _ | exact HM.out.alloc _ | exact (HM.out.drewN _).alloc _) <;> first | exact u8mod _ | exact u8wrap _ | exact ⟨0, by decide, rfl⟩ | exact ⟨8, by decide, rfl⟩ | (refine ⟨_, ?_, rfl⟩; omega)) _) ho hb; (try clear hk hz); have hk := fun (i : Nat) => hm2.below.cell (p := ⟨w.heap.size, i, none⟩) (by simp); have hz := fun (i : Nat) => hm2.below.frozen (p := ⟨w.heap.size, i, none⟩) (by simp); clear HM; have HM := Lib.hid hm2; clear hm2 ho hb))
  have HBX := Lib.hid ((HM.out.below.block _ (lt_of_heap HB00.out)).trans HB00.out)
  have q3 := cell_of_row _ _ 3 _ 53 (0, 0) HBX.out
  have q4 := cell_of_row _ _ 4 _ 53 (0, 0) HBX.out
  have q7 := cell_of_row _ _ 7 _ 53 (0, 0) HBX.out
  have q8 := cell_of_row _ _ 8 _ 53 (0, 0) HBX.out
  have HOUT := Lib.hid HF.out.1
  have HBW := Lib.hid HF.out.2
  clear HM HF hk hz z1 z3 z4
  go_wp2_with fail
  refine (long_ _ _).mono ?_
  rintro e wa ⟨aa, ka, rfl, ho, hb⟩
  have hbx := (hb.block _ (lt_of_heap HBX.out)).trans HBX.out
  have q3 := cell_of_row wa _ 3 _ 53 (0, 0) hbx
  have q4 := cell_of_row wa _ 4 _ 53 (0, 0) hbx
  have q8 := cell_of_row wa _ 8 _ 53 (0, 0) hbx
  have HOA := Lib.hid (HOUT.out.below hb)
  have HBA := Lib.hid (HBW.out.trans (hb.mono HBW.out.size))
  have HLA := Lib.hid ho
  clear HBX HOUT HBW ho hb
  have HBX := Lib.hid hbx
  clear hbx
  go_wp2_with (at_builtin; (refine wpList_append_bytes rfl (.tmp 28) (.tmp 31) rfl w.heap.size _ _ 4 4 rfl rfl HOA.out HLA.out.bb HBA.out.size (by omega) ?_))
  intro ab cb wb hown hgrow
  have hbx := HOA.out.keep hgrow HBX.out (by decide)
  have q3 := cell_of_row wb _ 3 _ 53 (0, 0) hbx
  have q4 := cell_of_row wb _ 4 _ 53 (0, 0) hbx
  have q8 := cell_of_row wb _ 8 _ 53 (0, 0) hbx
  have HOUT := Lib.hid hown
  have HBW := Lib.hid (belowGrown0' HBA.out HOA.out hgrow)
  clear HBX HOA HBA HLA hown hgrow
  have HBX := Lib.hid hbx
  clear hbx
  go_wp2_with fail
  go_ret
  exact ⟨_, _, rfl, HOUT.out, HBW.out⟩
set_option maxRecDepth 100000 in
set_option maxHeartbeats 4000000 in
theorem gre_false_false (a0 a1 a6 a7 a8 a9 : Int) (a2 a5 : Bool) (w : World) : Calls Tryz.prog 57 #[.agg #[.int .i64 a0, .int .i64 a1, .bool a2, .bool false, .bool false, .bool a5, .int .i64 a6, .int .i64 a7, .int .i64 a8, .int .i64 a9]] w (RB 4 w) := by
  have HM := Lib.hid (Made.start (w.alloc (.cells #[.int .i64 a0, .int .i64 a1, .bool a2, .bool false, .bool false, .bool a5, .int .i64 a6, .int .i64 a7, .int .i64 a8, .int .i64 a9] 53)))
  have z1 : (w.alloc (.cells #[.int .i64 a0, .int .i64 a1, .bool a2, .bool false, .bool false, .bool a5, .int .i64 a6, .int .i64 a7, .int .i64 a8, .int .i64 a9] 53)).cell? ⟨w.heap.size, 1, none⟩ = some (.int .i64 a1) := (cell_of_row _ _ 1 _ 53 (0, 0) (heap_alloc_new w _)).trans rfl
  have z3 : (w.alloc (.cells #[.int .i64 a0, .int .i64 a1, .bool a2, .bool false, .bool false, .bool a5, .int .i64 a6, .int .i64 a7, .int .i64 a8, .int .i64 a9] 53)).cell? ⟨w.heap.size, 3, none⟩ = some (.bool false) := (cell_of_row _ _ 3 _ 53 (0, 0) (heap_alloc_new w _)).trans rfl
  have z4 : (w.alloc (.cells #[.int .i64 a0, .int .i64 a1, .bool a2, .bool false, .bool false, .bool a5, .int .i64 a6, .int .i64 a7, .int .i64 a8, .int .i64 a9] 53)).cell? ⟨w.heap.size, 4, none⟩ = some (.bool false) := (cell_of_row _ _ 4 _ 53 (0, 0) (heap_alloc_new w _)).trans rfl
  have HB00 := Lib.hid (heap_alloc_new w (.cells #[.int .i64 a0, .int .i64 a1, .bool a2, .bool false, .bool false, .bool a5, .int .i64 a6, .int .i64 a7, .int .i64 a8, .int .i64 a9] 53))
  go_enter Tryz.func57, Tryz.ntmps57
  go_wp2_with fail
  go_region_held3 (fun w' => w'.cell? ⟨w.heap.size, 1, none⟩ = some (.int .i64 a1) ∧ w'.cell? ⟨w.heap.size, 3, none⟩ = some (.bool false) ∧ w'.cell? ⟨w.heap.size, 4, none⟩ = some (.bool false)) (first | (exact Made.limbs3 (by (first | exact HM.out | exact HM.out.drewN _ | refine HM.out.bytes2 ?_ ?_ | refine HM.out.bytes4 ?_ ?_ ?_ ?_ | refine (HM.out.bytes2 ?_ ?_).drewN _ | refine (HM.out.bytes4 ?_ ?_ ?_ ?_).drewN _ | exact HM.out.alloc _ | exact (HM.out.drewN _).alloc _) <;> first | exact u8mod _ | exact u8wrap _ | exact ⟨0, by decide, rfl⟩ | exact ⟨8, by decide, rfl⟩ | (refine ⟨_, ?_, rfl⟩; omega)) (by simp) z1 z3 z4) | go_keep)
    (first
      | (go_at_call 76; refine (bit_ _ _).mono ?_; rintro e w1 ⟨⟨x, rfl⟩, rfl⟩)
      | (go_at_call 75; refine (short_ _ _).mono ?_; rintro e w1 ⟨ao, k, rfl, ho, hb⟩; have HF := Lib.hid (Made.fin (by (first | exact HM.out | exact HM.out.drewN _ | refine HM.out.bytes2 ?_ ?_ | refine HM.out.bytes4 ?_ ?_ ?_ ?_ | refine (HM.out.bytes2 ?_ ?_).drewN _ | refine (HM.out.bytes4 ?_ ?_ ?_ ?_).drewN _ | exact HM.out.alloc _ | exact (HM.out.drewN _).alloc _) <;> first | exact u8mod _ | exact u8wrap _ | exact ⟨0, by decide, rfl⟩ | exact ⟨8, by decide, rfl⟩ | (refine ⟨_, ?_, rfl⟩; omega)) ho hb); have hm2 := Made.call (by (first | exact HM.out | exact HM.out.drewN _ | refine HM.out.bytes2 ?_ ?_ | refine HM.out.bytes4 ?_ ?_ ?_ ?_ | refine (HM.out.bytes2 ?_ ?_).drewN _ | refine (HM.out.bytes4 ?_ ?_ ?_ ?_).drewN _ | exact HM.out.alloc _ | exact (HM.out.drewN _).alloc _) <;> first | exact u8mod _ | exact u8wrap _ | exact ⟨0, by decide, rfl⟩ | exact ⟨8, by decide, rfl⟩ | (refine ⟨_, ?_, rfl⟩; omega)) ho hb; (try clear hk hz); have hk := fun (i : Nat) => hm2.below.cell (p := ⟨w.heap.size, i, none⟩) (by simp); have hz := fun (i : Nat) => hm2.below.frozen (p := ⟨w.heap.size, i, none⟩) (by simp); clear HM; have HM := Lib.hid hm2; clear hm2 ho hb)
      | (go_at_call 17; refine (joinedAt (n := 4) (by (first | exact HM.out | exact HM.out.drewN _ | refine HM.out.bytes2 ?_ ?_ | refine HM.out.bytes4 ?_ ?_ ?_ ?_ | refine (HM.out.bytes2 ?_ ?_).drewN _ | refine (HM.out.bytes4 ?_ ?_ ?_ ?_).drewN _ | exact HM.out.alloc _ | exact (HM.out.drewN _).alloc _) <;> first | exact u8mod _ | exact u8wrap _ | exact ⟨0, by decide, rfl⟩ | exact ⟨8, by decide, rfl⟩ | (refine ⟨_, ?_, rfl⟩; omega)) (by first | rfl | simp) (by rfl) (by first | rfl | (simp [total, lenX]; done) | (simp [total, lenX]; omega)) (by simp [lenX]) (by omega) (by omega)).mono ?_; rintro e w1 ⟨ao, k, rfl, ho, hb⟩; have HF := Lib.hid (Made.fin (Made.alloc (by (first | exact HM.out | exact HM.out.drewN _ | refine HM.out.bytes2 ?_ ?_ | refine HM.out.bytes4 ?_ ?_ ?_ ?_ | refine (HM.out.bytes2 ?_ ?_).drewN _ | refine (HM.out.bytes4 ?_ ?_ ?_ ?_).drewN _ | exact HM.out.alloc _ | exact (HM.out.drewN _).alloc _) <;> first | exact u8mod _ | exact u8wrap _ | exact ⟨0, by decide, rfl⟩ | exact ⟨8, by decide, rfl⟩ | (refine ⟨_, ?_, rfl⟩; omega)) _) ho hb); have hm2 := Made.call (Made.alloc (by (first | exact HM.out | exact HM.out.drewN _ | refine HM.out.bytes2 ?_ ?_ | refine HM.out.bytes4 ?_ ?_ ?_ ?_ | refine (HM.out.bytes2 ?_ ?_).drewN _ | refine (HM.out.bytes4 ?_ ?_ ?_ ?_).drewN _ | exact HM.out.alloc _ | exact (HM.out.drewN _).alloc _) <;> first | exact u8mod _ | exact u8wrap _ | exact ⟨0, by decide, rfl⟩ | exact ⟨8, by decide, rfl⟩ | (refine ⟨_, ?_, rfl⟩; omega)) _) ho hb; (try clear hk hz); have hk := fun (i : Nat) => hm2.below.cell (p := ⟨w.heap.size, i, none⟩) (by simp); have hz := fun (i : Nat) => hm2.below.frozen (p := ⟨w.heap.size, i, none⟩) (by simp); clear HM; have HM := Lib.hid hm2; clear hm2 ho hb))
  have HBX := Lib.hid ((HM.out.below.block _ (lt_of_heap HB00.out)).trans HB00.out)
  have q3 := cell_of_row _ _ 3 _ 53 (0, 0) HBX.out
  have q4 := cell_of_row _ _ 4 _ 53 (0, 0) HBX.out
  have q7 := cell_of_row _ _ 7 _ 53 (0, 0) HBX.out
  have q8 := cell_of_row _ _ 8 _ 53 (0, 0) HBX.out
  have HOUT := Lib.hid HF.out.1
  have HBW := Lib.hid HF.out.2
  clear HM HF hk hz z1 z3 z4
  go_wp2_with fail
  go_ret
  exact ⟨_, _, rfl, HOUT.out, HBW.out⟩
theorem gre_ (a0 a1 a6 a7 a8 a9 : Int) (a2 a3 a4 a5 : Bool) (w : World) : Calls Tryz.prog 57 #[.agg #[.int .i64 a0, .int .i64 a1, .bool a2, .bool a3, .bool a4, .bool a5, .int .i64 a6, .int .i64 a7, .int .i64 a8, .int .i64 a9]] w (RBm 12 w) := by
  have key : ∀ n, n ≤ 12 → ∀ e w', RB n w e w' → RBm 12 w e w' := fun n hn e w' h => by
    obtain ⟨ao, c, he, ho, hb⟩ := h
    exact ⟨n, ao, c, hn, he, ho, hb⟩
  cases a3 <;> cases a4
  · exact (gre_false_false a0 a1 a6 a7 a8 a9 a2 a5 w).mono (key 4 (by omega))
  · exact (gre_false_true a0 a1 a6 a7 a8 a9 a2 a5 w).mono (key 8 (by omega))
  · exact (gre_true_false a0 a1 a6 a7 a8 a9 a2 a5 w).mono (key 8 (by omega))
  · exact (gre_true_true a0 a1 a6 a7 a8 a9 a2 a5 w).mono (key 12 (by omega))
end Go.Proofs.YtecgkcofmphaiaaGreatDoor.Gpk
