/- The reference's step: whatever name. -/
import Derived.Test.YtecgkcofmphaiaaGreatDoorA19
import Derived.Test.YtecgkcofmphaiaaGreatDoorA20
import Derived.Test.YtecgkcofmphaiaaGreatDoorA23
set_option linter.unusedVariables false
set_option linter.unusedSimpArgs false
set_option linter.unnecessarySimpa false
set_option linter.unusedSectionVars false
namespace Go.Proofs.YtecgkcofmphaiaaGreatDoor.Gpk
open Go.RowKit
set_option linter.unusedVariables false
set_option maxRecDepth 100000 in
set_option maxHeartbeats 2000000 in
theorem take_eth (D q n c : Nat) (f : Nat → Nat) (w : World) (hB : Byt w D q f n) (hf : IsB f) (hnm : n ≤ maxLen) (hc : n ≤ c) : Calls Tryz.prog 19 #[.string (Nm.str .eth), .slice (some ⟨D, q, none⟩) n c] w (Told .eth f n w) := by
  have hB' : ∀ o, Byt (w.alloc o) D q f n := fun o i hi => byt_past hB i hi o
  have hnm' := hnm
  unfold maxLen at hnm'
  simp only [Nm.str]
  go_enter Tryz.func19, Tryz.ntmps19
  go_wp2_with fail
  refine (ethTold D q n c f _ (by first | exact hB' _ | exact (hB' _).drewN _) hf hnm).mono ?_
  rintro e w1 ⟨o, hS, rfl, hB1⟩
  have hr : w1.heap[w.heap.size]? = some (.cells #[.int .i64 0, .int .i64 0, .string ⟨#[]⟩, .bool false] 65) := (by first | exact resAt hB1 | exact resAt (k := 0) hB1)
  have q0 := cell_of_row w1 _ 0 _ 65 (0, 0) hr
  have q1 := cell_of_row w1 _ 1 _ 65 (0, 0) hr
  have q2 := cell_of_row w1 _ 2 _ 65 (0, 0) hr
  have q3 := cell_of_row w1 _ 3 _ 65 (0, 0) hr
  have f0 := unfrozen (i := 0) hr
  have f1 := unfrozen (i := 1) hr
  have f2 := unfrozen (i := 2) hr
  have f3 := unfrozen (i := 3) hr
  have hb2 : Below w.heap.size w w1 := (by first | exact resBelow hB1 | exact resBelow (k := 0) hB1)
  have HB1 := Lib.hid hb2
  clear hB1 hr hb2
  rcases o with ⟨s, e2, nx⟩ | _ | _
  all_goals simp only [outAgg, outOk]
  all_goals go_wp2
  all_goals (refine bodyPost_ret (v := .tuple #[outAgg _, .bool _]) ?_ rfl ⟨_, hS, rfl, ?_⟩; (focus (simp [results, Tryz.f19, go_sem, outAgg, outOk, q0, q1, q2, q3]; done)); (focus (exact (((HB1.out.setCell (Nat.le_refl _) _).setCell (Nat.le_refl _) _).setCell (Nat.le_refl _) _).setCell (Nat.le_refl _) _)))
set_option maxRecDepth 100000 in
set_option maxHeartbeats 2000000 in
theorem take_vlan (D q n c : Nat) (f : Nat → Nat) (w : World) (hB : Byt w D q f n) (hf : IsB f) (hnm : n ≤ maxLen) (hc : n ≤ c) : Calls Tryz.prog 19 #[.string (Nm.str .vlan), .slice (some ⟨D, q, none⟩) n c] w (Told .vlan f n w) := by
  have hB' : ∀ o, Byt (w.alloc o) D q f n := fun o i hi => byt_past hB i hi o
  have hnm' := hnm
  unfold maxLen at hnm'
  simp only [Nm.str]
  go_enter Tryz.func19, Tryz.ntmps19
  go_wp2_with fail
  refine (vlanTold D q n c f _ (by first | exact hB' _ | exact (hB' _).drewN _) hf hnm).mono ?_
  rintro e w1 ⟨o, hS, rfl, hB1⟩
  have hr : w1.heap[w.heap.size]? = some (.cells #[.int .i64 0, .int .i64 0, .string ⟨#[]⟩, .bool false] 65) := (by first | exact resAt hB1 | exact resAt (k := 0) hB1)
  have q0 := cell_of_row w1 _ 0 _ 65 (0, 0) hr
  have q1 := cell_of_row w1 _ 1 _ 65 (0, 0) hr
  have q2 := cell_of_row w1 _ 2 _ 65 (0, 0) hr
  have q3 := cell_of_row w1 _ 3 _ 65 (0, 0) hr
  have f0 := unfrozen (i := 0) hr
  have f1 := unfrozen (i := 1) hr
  have f2 := unfrozen (i := 2) hr
  have f3 := unfrozen (i := 3) hr
  have hb2 : Below w.heap.size w w1 := (by first | exact resBelow hB1 | exact resBelow (k := 0) hB1)
  have HB1 := Lib.hid hb2
  clear hB1 hr hb2
  rcases o with ⟨s, e2, nx⟩ | _ | _
  all_goals simp only [outAgg, outOk]
  all_goals go_wp2
  all_goals (refine bodyPost_ret (v := .tuple #[outAgg _, .bool _]) ?_ rfl ⟨_, hS, rfl, ?_⟩; (focus (simp [results, Tryz.f19, go_sem, outAgg, outOk, q0, q1, q2, q3]; done)); (focus (exact (((HB1.out.setCell (Nat.le_refl _) _).setCell (Nat.le_refl _) _).setCell (Nat.le_refl _) _).setCell (Nat.le_refl _) _)))
set_option maxRecDepth 100000 in
set_option maxHeartbeats 2000000 in
theorem take_arp (D q n c : Nat) (f : Nat → Nat) (w : World) (hB : Byt w D q f n) (hf : IsB f) (hnm : n ≤ maxLen) (hc : n ≤ c) : Calls Tryz.prog 19 #[.string (Nm.str .arp), .slice (some ⟨D, q, none⟩) n c] w (Told .arp f n w) := by
  have hB' : ∀ o, Byt (w.alloc o) D q f n := fun o i hi => byt_past hB i hi o
  have hnm' := hnm
  unfold maxLen at hnm'
  simp only [Nm.str]
  go_enter Tryz.func19, Tryz.ntmps19
  go_wp2_with fail
  refine (arpTold D q n c f _ (by first | exact hB' _ | exact (hB' _).drewN _) hf hnm).mono ?_
  rintro e w1 ⟨o, hS, rfl, hB1⟩
  have hr : w1.heap[w.heap.size]? = some (.cells #[.int .i64 0, .int .i64 0, .string ⟨#[]⟩, .bool false] 65) := (by first | exact resAt hB1 | exact resAt (k := 0) hB1)
  have q0 := cell_of_row w1 _ 0 _ 65 (0, 0) hr
  have q1 := cell_of_row w1 _ 1 _ 65 (0, 0) hr
  have q2 := cell_of_row w1 _ 2 _ 65 (0, 0) hr
  have q3 := cell_of_row w1 _ 3 _ 65 (0, 0) hr
  have f0 := unfrozen (i := 0) hr
  have f1 := unfrozen (i := 1) hr
  have f2 := unfrozen (i := 2) hr
  have f3 := unfrozen (i := 3) hr
  have hb2 : Below w.heap.size w w1 := (by first | exact resBelow hB1 | exact resBelow (k := 0) hB1)
  have HB1 := Lib.hid hb2
  clear hB1 hr hb2
  rcases o with ⟨s, e2, nx⟩ | _ | _
  all_goals simp only [outAgg, outOk]
  all_goals go_wp2
  all_goals (refine bodyPost_ret (v := .tuple #[outAgg _, .bool _]) ?_ rfl ⟨_, hS, rfl, ?_⟩; (focus (simp [results, Tryz.f19, go_sem, outAgg, outOk, q0, q1, q2, q3]; done)); (focus (exact (((HB1.out.setCell (Nat.le_refl _) _).setCell (Nat.le_refl _) _).setCell (Nat.le_refl _) _).setCell (Nat.le_refl _) _)))
set_option maxRecDepth 100000 in
set_option maxHeartbeats 2000000 in
theorem take_ip4 (D q n c : Nat) (f : Nat → Nat) (w : World) (hB : Byt w D q f n) (hf : IsB f) (hnm : n ≤ maxLen) (hc : n ≤ c) : Calls Tryz.prog 19 #[.string (Nm.str .ip4), .slice (some ⟨D, q, none⟩) n c] w (Told .ip4 f n w) := by
  have hB' : ∀ o, Byt (w.alloc o) D q f n := fun o i hi => byt_past hB i hi o
  have hnm' := hnm
  unfold maxLen at hnm'
  simp only [Nm.str]
  go_enter Tryz.func19, Tryz.ntmps19
  go_wp2_with fail
  refine (ip4Told D q n c f _ (by first | exact hB' _ | exact (hB' _).drewN _) hf hnm hc).mono ?_
  rintro e w1 ⟨o, hS, rfl, hB1⟩
  have hr : w1.heap[w.heap.size]? = some (.cells #[.int .i64 0, .int .i64 0, .string ⟨#[]⟩, .bool false] 65) := (by first | exact resAt hB1 | exact resAt (k := 0) hB1)
  have q0 := cell_of_row w1 _ 0 _ 65 (0, 0) hr
  have q1 := cell_of_row w1 _ 1 _ 65 (0, 0) hr
  have q2 := cell_of_row w1 _ 2 _ 65 (0, 0) hr
  have q3 := cell_of_row w1 _ 3 _ 65 (0, 0) hr
  have f0 := unfrozen (i := 0) hr
  have f1 := unfrozen (i := 1) hr
  have f2 := unfrozen (i := 2) hr
  have f3 := unfrozen (i := 3) hr
  have hb2 : Below w.heap.size w w1 := (by first | exact resBelow hB1 | exact resBelow (k := 0) hB1)
  have HB1 := Lib.hid hb2
  clear hB1 hr hb2
  rcases o with ⟨s, e2, nx⟩ | _ | _
  all_goals simp only [outAgg, outOk]
  all_goals go_wp2
  all_goals (refine bodyPost_ret (v := .tuple #[outAgg _, .bool _]) ?_ rfl ⟨_, hS, rfl, ?_⟩; (focus (simp [results, Tryz.f19, go_sem, outAgg, outOk, q0, q1, q2, q3]; done)); (focus (exact (((HB1.out.setCell (Nat.le_refl _) _).setCell (Nat.le_refl _) _).setCell (Nat.le_refl _) _).setCell (Nat.le_refl _) _)))
set_option maxRecDepth 100000 in
set_option maxHeartbeats 2000000 in
theorem take_ip6 (D q n c : Nat) (f : Nat → Nat) (w : World) (hB : Byt w D q f n) (hf : IsB f) (hnm : n ≤ maxLen) (hc : n ≤ c) : Calls Tryz.prog 19 #[.string (Nm.str .ip6), .slice (some ⟨D, q, none⟩) n c] w (Told .ip6 f n w) := by
  have hB' : ∀ o, Byt (w.alloc o) D q f n := fun o i hi => byt_past hB i hi o
  have hnm' := hnm
  unfold maxLen at hnm'
  simp only [Nm.str]
  go_enter Tryz.func19, Tryz.ntmps19
  go_wp2_with fail
  refine (ip6Told D q n c f _ (by first | exact hB' _ | exact (hB' _).drewN _) hf hnm).mono ?_
  rintro e w1 ⟨o, hS, rfl, hB1⟩
  have hr : w1.heap[w.heap.size]? = some (.cells #[.int .i64 0, .int .i64 0, .string ⟨#[]⟩, .bool false] 65) := (by first | exact resAt hB1 | exact resAt (k := 0) hB1)
  have q0 := cell_of_row w1 _ 0 _ 65 (0, 0) hr
  have q1 := cell_of_row w1 _ 1 _ 65 (0, 0) hr
  have q2 := cell_of_row w1 _ 2 _ 65 (0, 0) hr
  have q3 := cell_of_row w1 _ 3 _ 65 (0, 0) hr
  have f0 := unfrozen (i := 0) hr
  have f1 := unfrozen (i := 1) hr
  have f2 := unfrozen (i := 2) hr
  have f3 := unfrozen (i := 3) hr
  have hb2 : Below w.heap.size w w1 := (by first | exact resBelow hB1 | exact resBelow (k := 0) hB1)
  have HB1 := Lib.hid hb2
  clear hB1 hr hb2
  rcases o with ⟨s, e2, nx⟩ | _ | _
  all_goals simp only [outAgg, outOk]
  all_goals go_wp2
  all_goals (refine bodyPost_ret (v := .tuple #[outAgg _, .bool _]) ?_ rfl ⟨_, hS, rfl, ?_⟩; (focus (simp [results, Tryz.f19, go_sem, outAgg, outOk, q0, q1, q2, q3]; done)); (focus (exact (((HB1.out.setCell (Nat.le_refl _) _).setCell (Nat.le_refl _) _).setCell (Nat.le_refl _) _).setCell (Nat.le_refl _) _)))
set_option maxRecDepth 100000 in
set_option maxHeartbeats 2000000 in
theorem take_tcp (D q n c : Nat) (f : Nat → Nat) (w : World) (hB : Byt w D q f n) (hf : IsB f) (hnm : n ≤ maxLen) (hc : n ≤ c) : Calls Tryz.prog 19 #[.string (Nm.str .tcp), .slice (some ⟨D, q, none⟩) n c] w (Told .tcp f n w) := by
  have hB' : ∀ o, Byt (w.alloc o) D q f n := fun o i hi => byt_past hB i hi o
  have hnm' := hnm
  unfold maxLen at hnm'
  simp only [Nm.str]
  go_enter Tryz.func19, Tryz.ntmps19
  go_wp2_with fail
  refine (tcpTold D q n c f _ (by first | exact hB' _ | exact (hB' _).drewN _) hf hnm hc).mono ?_
  rintro e w1 ⟨o, hS, rfl, hB1⟩
  have hr : w1.heap[w.heap.size]? = some (.cells #[.int .i64 0, .int .i64 0, .string ⟨#[]⟩, .bool false] 65) := (by first | exact resAt hB1 | exact resAt (k := 0) hB1)
  have q0 := cell_of_row w1 _ 0 _ 65 (0, 0) hr
  have q1 := cell_of_row w1 _ 1 _ 65 (0, 0) hr
  have q2 := cell_of_row w1 _ 2 _ 65 (0, 0) hr
  have q3 := cell_of_row w1 _ 3 _ 65 (0, 0) hr
  have f0 := unfrozen (i := 0) hr
  have f1 := unfrozen (i := 1) hr
  have f2 := unfrozen (i := 2) hr
  have f3 := unfrozen (i := 3) hr
  have hb2 : Below w.heap.size w w1 := (by first | exact resBelow hB1 | exact resBelow (k := 0) hB1)
  have HB1 := Lib.hid hb2
  clear hB1 hr hb2
  rcases o with ⟨s, e2, nx⟩ | _ | _
  all_goals simp only [outAgg, outOk]
  all_goals go_wp2
  all_goals (refine bodyPost_ret (v := .tuple #[outAgg _, .bool _]) ?_ rfl ⟨_, hS, rfl, ?_⟩; (focus (simp [results, Tryz.f19, go_sem, outAgg, outOk, q0, q1, q2, q3]; done)); (focus (exact (((HB1.out.setCell (Nat.le_refl _) _).setCell (Nat.le_refl _) _).setCell (Nat.le_refl _) _).setCell (Nat.le_refl _) _)))
set_option maxRecDepth 100000 in
set_option maxHeartbeats 2000000 in
theorem take_udp (D q n c : Nat) (f : Nat → Nat) (w : World) (hB : Byt w D q f n) (hf : IsB f) (hnm : n ≤ maxLen) (hc : n ≤ c) : Calls Tryz.prog 19 #[.string (Nm.str .udp), .slice (some ⟨D, q, none⟩) n c] w (Told .udp f n w) := by
  have hB' : ∀ o, Byt (w.alloc o) D q f n := fun o i hi => byt_past hB i hi o
  have hnm' := hnm
  unfold maxLen at hnm'
  simp only [Nm.str]
  go_enter Tryz.func19, Tryz.ntmps19
  go_wp2_with fail
  refine (udpTold D q n c f _ (by first | exact hB' _ | exact (hB' _).drewN _) hf hnm).mono ?_
  rintro e w1 ⟨o, hS, rfl, hB1⟩
  have hr : w1.heap[w.heap.size]? = some (.cells #[.int .i64 0, .int .i64 0, .string ⟨#[]⟩, .bool false] 65) := (by first | exact resAt hB1 | exact resAt (k := 0) hB1)
  have q0 := cell_of_row w1 _ 0 _ 65 (0, 0) hr
  have q1 := cell_of_row w1 _ 1 _ 65 (0, 0) hr
  have q2 := cell_of_row w1 _ 2 _ 65 (0, 0) hr
  have q3 := cell_of_row w1 _ 3 _ 65 (0, 0) hr
  have f0 := unfrozen (i := 0) hr
  have f1 := unfrozen (i := 1) hr
  have f2 := unfrozen (i := 2) hr
  have f3 := unfrozen (i := 3) hr
  have hb2 : Below w.heap.size w w1 := (by first | exact resBelow hB1 | exact resBelow (k := 0) hB1)
  have HB1 := Lib.hid hb2
  clear hB1 hr hb2
  rcases o with ⟨s, e2, nx⟩ | _ | _
  all_goals simp only [outAgg, outOk]
  all_goals go_wp2
  all_goals (refine bodyPost_ret (v := .tuple #[outAgg _, .bool _]) ?_ rfl ⟨_, hS, rfl, ?_⟩; (focus (simp [results, Tryz.f19, go_sem, outAgg, outOk, q0, q1, q2, q3]; done)); (focus (exact (((HB1.out.setCell (Nat.le_refl _) _).setCell (Nat.le_refl _) _).setCell (Nat.le_refl _) _).setCell (Nat.le_refl _) _)))
set_option maxRecDepth 100000 in
set_option maxHeartbeats 2000000 in
theorem take_icmp6 (D q n c : Nat) (f : Nat → Nat) (w : World) (hB : Byt w D q f n) (hf : IsB f) (hnm : n ≤ maxLen) (hc : n ≤ c) : Calls Tryz.prog 19 #[.string (Nm.str .icmp6), .slice (some ⟨D, q, none⟩) n c] w (Told .icmp6 f n w) := by
  have hB' : ∀ o, Byt (w.alloc o) D q f n := fun o i hi => byt_past hB i hi o
  have hnm' := hnm
  unfold maxLen at hnm'
  simp only [Nm.str]
  go_enter Tryz.func19, Tryz.ntmps19
  go_wp2_with fail
  refine (icmp6Told D q n c f _ (by first | exact hB' _ | exact (hB' _).drewN _) hf hnm).mono ?_
  rintro e w1 ⟨o, hS, rfl, hB1⟩
  have hr : w1.heap[w.heap.size]? = some (.cells #[.int .i64 0, .int .i64 0, .string ⟨#[]⟩, .bool false] 65) := (by first | exact resAt hB1 | exact resAt (k := 0) hB1)
  have q0 := cell_of_row w1 _ 0 _ 65 (0, 0) hr
  have q1 := cell_of_row w1 _ 1 _ 65 (0, 0) hr
  have q2 := cell_of_row w1 _ 2 _ 65 (0, 0) hr
  have q3 := cell_of_row w1 _ 3 _ 65 (0, 0) hr
  have f0 := unfrozen (i := 0) hr
  have f1 := unfrozen (i := 1) hr
  have f2 := unfrozen (i := 2) hr
  have f3 := unfrozen (i := 3) hr
  have hb2 : Below w.heap.size w w1 := (by first | exact resBelow hB1 | exact resBelow (k := 0) hB1)
  have HB1 := Lib.hid hb2
  clear hB1 hr hb2
  rcases o with ⟨s, e2, nx⟩ | _ | _
  all_goals simp only [outAgg, outOk]
  all_goals go_wp2
  all_goals (refine bodyPost_ret (v := .tuple #[outAgg _, .bool _]) ?_ rfl ⟨_, hS, rfl, ?_⟩; (focus (simp [results, Tryz.f19, go_sem, outAgg, outOk, q0, q1, q2, q3]; done)); (focus (exact (((HB1.out.setCell (Nat.le_refl _) _).setCell (Nat.le_refl _) _).setCell (Nat.le_refl _) _).setCell (Nat.le_refl _) _)))
set_option maxRecDepth 100000 in
set_option maxHeartbeats 2000000 in
theorem take_gre (D q n c : Nat) (f : Nat → Nat) (w : World) (hB : Byt w D q f n) (hf : IsB f) (hnm : n ≤ maxLen) (hc : n ≤ c) : Calls Tryz.prog 19 #[.string (Nm.str .gre), .slice (some ⟨D, q, none⟩) n c] w (Told .gre f n w) := by
  have hB' : ∀ o, Byt (w.alloc o) D q f n := fun o i hi => byt_past hB i hi o
  have hnm' := hnm
  unfold maxLen at hnm'
  simp only [Nm.str]
  go_enter Tryz.func19, Tryz.ntmps19
  go_wp2_with fail
  refine (greTold D q n c f _ (by first | exact hB' _ | exact (hB' _).drewN _) hf hnm).mono ?_
  rintro e w1 ⟨o, hS, rfl, hB1⟩
  have hr : w1.heap[w.heap.size]? = some (.cells #[.int .i64 0, .int .i64 0, .string ⟨#[]⟩, .bool false] 65) := (by first | exact resAt hB1 | exact resAt (k := 0) hB1)
  have q0 := cell_of_row w1 _ 0 _ 65 (0, 0) hr
  have q1 := cell_of_row w1 _ 1 _ 65 (0, 0) hr
  have q2 := cell_of_row w1 _ 2 _ 65 (0, 0) hr
  have q3 := cell_of_row w1 _ 3 _ 65 (0, 0) hr
  have f0 := unfrozen (i := 0) hr
  have f1 := unfrozen (i := 1) hr
  have f2 := unfrozen (i := 2) hr
  have f3 := unfrozen (i := 3) hr
  have hb2 : Below w.heap.size w w1 := (by first | exact resBelow hB1 | exact resBelow (k := 0) hB1)
  have HB1 := Lib.hid hb2
  clear hB1 hr hb2
  rcases o with ⟨s, e2, nx⟩ | _ | _
  all_goals simp only [outAgg, outOk]
  all_goals go_wp2
  all_goals (refine bodyPost_ret (v := .tuple #[outAgg _, .bool _]) ?_ rfl ⟨_, hS, rfl, ?_⟩; (focus (simp [results, Tryz.f19, go_sem, outAgg, outOk, q0, q1, q2, q3]; done)); (focus (exact (((HB1.out.setCell (Nat.le_refl _) _).setCell (Nat.le_refl _) _).setCell (Nat.le_refl _) _).setCell (Nat.le_refl _) _)))
set_option maxRecDepth 100000 in
set_option maxHeartbeats 2000000 in
theorem take_vxlan (D q n c : Nat) (f : Nat → Nat) (w : World) (hB : Byt w D q f n) (hf : IsB f) (hnm : n ≤ maxLen) (hc : n ≤ c) : Calls Tryz.prog 19 #[.string (Nm.str .vxlan), .slice (some ⟨D, q, none⟩) n c] w (Told .vxlan f n w) := by
  have hB' : ∀ o, Byt (w.alloc o) D q f n := fun o i hi => byt_past hB i hi o
  have hnm' := hnm
  unfold maxLen at hnm'
  simp only [Nm.str]
  go_enter Tryz.func19, Tryz.ntmps19
  go_wp2_with fail
  refine (vxlanTold D q n c f _ (by first | exact hB' _ | exact (hB' _).drewN _) hf hnm).mono ?_
  rintro e w1 ⟨o, hS, rfl, hB1⟩
  have hr : w1.heap[w.heap.size]? = some (.cells #[.int .i64 0, .int .i64 0, .string ⟨#[]⟩, .bool false] 65) := (by first | exact resAt hB1 | exact resAt (k := 0) hB1)
  have q0 := cell_of_row w1 _ 0 _ 65 (0, 0) hr
  have q1 := cell_of_row w1 _ 1 _ 65 (0, 0) hr
  have q2 := cell_of_row w1 _ 2 _ 65 (0, 0) hr
  have q3 := cell_of_row w1 _ 3 _ 65 (0, 0) hr
  have f0 := unfrozen (i := 0) hr
  have f1 := unfrozen (i := 1) hr
  have f2 := unfrozen (i := 2) hr
  have f3 := unfrozen (i := 3) hr
  have hb2 : Below w.heap.size w w1 := (by first | exact resBelow hB1 | exact resBelow (k := 0) hB1)
  have HB1 := Lib.hid hb2
  clear hB1 hr hb2
  rcases o with ⟨s, e2, nx⟩ | _ | _
  all_goals simp only [outAgg, outOk]
  all_goals go_wp2
  all_goals (refine bodyPost_ret (v := .tuple #[outAgg _, .bool _]) ?_ rfl ⟨_, hS, rfl, ?_⟩; (focus (simp [results, Tryz.f19, go_sem, outAgg, outOk, q0, q1, q2, q3]; done)); (focus (exact (((HB1.out.setCell (Nat.le_refl _) _).setCell (Nat.le_refl _) _).setCell (Nat.le_refl _) _).setCell (Nat.le_refl _) _)))
set_option maxRecDepth 100000 in
set_option maxHeartbeats 2000000 in
theorem take_icmp (D q n c : Nat) (f : Nat → Nat) (w : World) (hB : Byt w D q f n) (hf : IsB f) (hnm : n ≤ maxLen) (hc : n ≤ c) : Calls Tryz.prog 19 #[.string (Nm.str .icmp), .slice (some ⟨D, q, none⟩) n c] w (Told .icmp f n w) := by
  have hB' : ∀ o, Byt (w.alloc o) D q f n := fun o i hi => byt_past hB i hi o
  have hnm' := hnm
  unfold maxLen at hnm'
  simp only [Nm.str]
  by_cases h1 : n < 8
  · go_enter Tryz.func19, Tryz.ntmps19
    go_wp2_with (first | (go_at_call 65; refine (short9 _).mono ?_; rintro e w1 ⟨rfl, hB1⟩; have hr : w1.heap[w.heap.size]? = some (.cells #[.int .i64 0, .int .i64 0, .string ⟨#[]⟩, .bool false] 65) := (by first | exact resAt hB1 | exact resAt (k := 0) hB1); have q0 := cell_of_row w1 _ 0 _ 65 (0, 0) hr; have q1 := cell_of_row w1 _ 1 _ 65 (0, 0) hr; have q2 := cell_of_row w1 _ 2 _ 65 (0, 0) hr; have q3 := cell_of_row w1 _ 3 _ 65 (0, 0) hr; have f0 := unfrozen (i := 0) hr; have f1 := unfrozen (i := 1) hr; have f2 := unfrozen (i := 2) hr; have f3 := unfrozen (i := 3) hr; have hb2 : Below w.heap.size w w1 := (by first | exact resBelow hB1 | exact resBelow (k := 0) hB1); have HB1 := Lib.hid hb2; clear hB1 hr hb2))
    all_goals (first
    | (refine bodyPost_ret (v := .tuple #[outAgg .short, .bool false]) ?_ rfl ⟨.short, ?_, rfl, ?_⟩; (focus (simp [results, Tryz.f19, go_sem, outAgg, q0, q1, q2, q3]; done)); (focus (exact h1)); (focus (exact (((HB1.out.setCell (Nat.le_refl _) _).setCell (Nat.le_refl _) _).setCell (Nat.le_refl _) _).setCell (Nat.le_refl _) _))))
  · go_enter Tryz.func19, Tryz.ntmps19
    go_wp2_with (first | (go_at_call 66; refine (taken 8 n .pay _).mono ?_; rintro e w1 ⟨rfl, hB1⟩; have hr : w1.heap[w.heap.size]? = some (.cells #[.int .i64 0, .int .i64 0, .string ⟨#[]⟩, .bool false] 65) := (by first | exact resAt hB1 | exact resAt (k := 0) hB1); have q0 := cell_of_row w1 _ 0 _ 65 (0, 0) hr; have q1 := cell_of_row w1 _ 1 _ 65 (0, 0) hr; have q2 := cell_of_row w1 _ 2 _ 65 (0, 0) hr; have q3 := cell_of_row w1 _ 3 _ 65 (0, 0) hr; have f0 := unfrozen (i := 0) hr; have f1 := unfrozen (i := 1) hr; have f2 := unfrozen (i := 2) hr; have f3 := unfrozen (i := 3) hr; have hb2 : Below w.heap.size w w1 := (by first | exact resBelow hB1 | exact resBelow (k := 0) hB1); have HB1 := Lib.hid hb2; clear hB1 hr hb2))
    all_goals (first
    | (refine bodyPost_ret (v := .tuple #[outAgg (.taken 8 n .pay), .bool true]) ?_ rfl ⟨(.taken 8 n .pay), ?_, rfl, ?_⟩; (focus (simp [results, Tryz.f19, go_sem, outAgg, q0, q1, q2, q3]; done)); (focus (exact ⟨by omega, rfl, rfl, rfl⟩)); (focus (exact (((HB1.out.setCell (Nat.le_refl _) _).setCell (Nat.le_refl _) _).setCell (Nat.le_refl _) _).setCell (Nat.le_refl _) _))))
set_option maxRecDepth 100000 in
set_option maxHeartbeats 2000000 in
theorem take_pay (D q n c : Nat) (f : Nat → Nat) (w : World) (hB : Byt w D q f n) (hf : IsB f) (hnm : n ≤ maxLen) (hc : n ≤ c) : Calls Tryz.prog 19 #[.string (Nm.str .pay), .slice (some ⟨D, q, none⟩) n c] w (Told .pay f n w) := by
  have hB' : ∀ o, Byt (w.alloc o) D q f n := fun o i hi => byt_past hB i hi o
  have hnm' := hnm
  unfold maxLen at hnm'
  simp only [Nm.str]
  go_enter Tryz.func19, Tryz.ntmps19
  go_wp2_with (first | (go_at_call 66; refine (taken n n .nothing _).mono ?_; rintro e w1 ⟨rfl, hB1⟩; have hr : w1.heap[w.heap.size]? = some (.cells #[.int .i64 0, .int .i64 0, .string ⟨#[]⟩, .bool false] 65) := (by first | exact resAt hB1 | exact resAt (k := 0) hB1); have q0 := cell_of_row w1 _ 0 _ 65 (0, 0) hr; have q1 := cell_of_row w1 _ 1 _ 65 (0, 0) hr; have q2 := cell_of_row w1 _ 2 _ 65 (0, 0) hr; have q3 := cell_of_row w1 _ 3 _ 65 (0, 0) hr; have f0 := unfrozen (i := 0) hr; have f1 := unfrozen (i := 1) hr; have f2 := unfrozen (i := 2) hr; have f3 := unfrozen (i := 3) hr; have hb2 : Below w.heap.size w w1 := (by first | exact resBelow hB1 | exact resBelow (k := 0) hB1); have HB1 := Lib.hid hb2; clear hB1 hr hb2))
  all_goals (first
    | (refine bodyPost_ret (v := .tuple #[outAgg (.taken n n .nothing), .bool true]) ?_ rfl ⟨(.taken n n .nothing), ?_, rfl, ?_⟩; (focus (simp [results, Tryz.f19, go_sem, outAgg, q0, q1, q2, q3]; done)); (focus (exact ⟨rfl, rfl, rfl⟩)); (focus (exact (((HB1.out.setCell (Nat.le_refl _) _).setCell (Nat.le_refl _) _).setCell (Nat.le_refl _) _).setCell (Nat.le_refl _) _))))
set_option maxRecDepth 100000 in
set_option maxHeartbeats 2000000 in
theorem take_nothing (D q n c : Nat) (f : Nat → Nat) (w : World) (hB : Byt w D q f n) (hf : IsB f) (hnm : n ≤ maxLen) (hc : n ≤ c) : Calls Tryz.prog 19 #[.string (Nm.str .nothing), .slice (some ⟨D, q, none⟩) n c] w (Told .nothing f n w) := by
  have hB' : ∀ o, Byt (w.alloc o) D q f n := fun o i hi => byt_past hB i hi o
  have hnm' := hnm
  unfold maxLen at hnm'
  simp only [Nm.str]
  go_enter Tryz.func19, Tryz.ntmps19
  go_wp2_with (first | (go_at_call 70; refine (left9 _).mono ?_; rintro e w1 ⟨rfl, hB1⟩; have hr : w1.heap[w.heap.size]? = some (.cells #[.int .i64 0, .int .i64 0, .string ⟨#[]⟩, .bool false] 65) := (by first | exact resAt hB1 | exact resAt (k := 0) hB1); have q0 := cell_of_row w1 _ 0 _ 65 (0, 0) hr; have q1 := cell_of_row w1 _ 1 _ 65 (0, 0) hr; have q2 := cell_of_row w1 _ 2 _ 65 (0, 0) hr; have q3 := cell_of_row w1 _ 3 _ 65 (0, 0) hr; have f0 := unfrozen (i := 0) hr; have f1 := unfrozen (i := 1) hr; have f2 := unfrozen (i := 2) hr; have f3 := unfrozen (i := 3) hr; have hb2 : Below w.heap.size w w1 := (by first | exact resBelow hB1 | exact resBelow (k := 0) hB1); have HB1 := Lib.hid hb2; clear hB1 hr hb2))
  all_goals (first
    | (refine bodyPost_ret (v := .tuple #[outAgg .left, .bool false]) ?_ rfl ⟨.left, ?_, rfl, ?_⟩; (focus (simp [results, Tryz.f19, go_sem, outAgg, q0, q1, q2, q3]; done)); (focus (exact trivial)); (focus (exact (((HB1.out.setCell (Nat.le_refl _) _).setCell (Nat.le_refl _) _).setCell (Nat.le_refl _) _).setCell (Nat.le_refl _) _))))
set_option maxRecDepth 100000 in
set_option maxHeartbeats 2000000 in
theorem take_none (D q n c : Nat) (f : Nat → Nat) (w : World) (hB : Byt w D q f n) (hf : IsB f) (hnm : n ≤ maxLen) (hc : n ≤ c) : Calls Tryz.prog 19 #[.string (Nm.str .none), .slice (some ⟨D, q, none⟩) n c] w (Told .none f n w) := by
  have hB' : ∀ o, Byt (w.alloc o) D q f n := fun o i hi => byt_past hB i hi o
  have hnm' := hnm
  unfold maxLen at hnm'
  simp only [Nm.str]
  go_enter Tryz.func19, Tryz.ntmps19
  go_wp2_with (first | (go_at_call 70; refine (left9 _).mono ?_; rintro e w1 ⟨rfl, hB1⟩; have hr : w1.heap[w.heap.size]? = some (.cells #[.int .i64 0, .int .i64 0, .string ⟨#[]⟩, .bool false] 65) := (by first | exact resAt hB1 | exact resAt (k := 0) hB1); have q0 := cell_of_row w1 _ 0 _ 65 (0, 0) hr; have q1 := cell_of_row w1 _ 1 _ 65 (0, 0) hr; have q2 := cell_of_row w1 _ 2 _ 65 (0, 0) hr; have q3 := cell_of_row w1 _ 3 _ 65 (0, 0) hr; have f0 := unfrozen (i := 0) hr; have f1 := unfrozen (i := 1) hr; have f2 := unfrozen (i := 2) hr; have f3 := unfrozen (i := 3) hr; have hb2 : Below w.heap.size w w1 := (by first | exact resBelow hB1 | exact resBelow (k := 0) hB1); have HB1 := Lib.hid hb2; clear hB1 hr hb2))
  all_goals (first
    | (refine bodyPost_ret (v := .tuple #[outAgg .left, .bool false]) ?_ rfl ⟨.left, ?_, rfl, ?_⟩; (focus (simp [results, Tryz.f19, go_sem, outAgg, q0, q1, q2, q3]; done)); (focus (exact trivial)); (focus (exact (((HB1.out.setCell (Nat.le_refl _) _).setCell (Nat.le_refl _) _).setCell (Nat.le_refl _) _).setCell (Nat.le_refl _) _))))
theorem takeTold (nm : Nm) (D q n c : Nat) (f : Nat → Nat) (w : World) (hB : Byt w D q f n) (hf : IsB f) (hnm : n ≤ maxLen) (hc : n ≤ c) : Calls Tryz.prog 19 #[.string nm.str, .slice (some ⟨D, q, none⟩) n c] w (Told nm f n w) := by
  cases nm
  · exact take_eth D q n c f w hB hf hnm hc
  · exact take_vlan D q n c f w hB hf hnm hc
  · exact take_arp D q n c f w hB hf hnm hc
  · exact take_ip4 D q n c f w hB hf hnm hc
  · exact take_ip6 D q n c f w hB hf hnm hc
  · exact take_tcp D q n c f w hB hf hnm hc
  · exact take_udp D q n c f w hB hf hnm hc
  · exact take_icmp D q n c f w hB hf hnm hc
  · exact take_icmp6 D q n c f w hB hf hnm hc
  · exact take_gre D q n c f w hB hf hnm hc
  · exact take_vxlan D q n c f w hB hf hnm hc
  · exact take_pay D q n c f w hB hf hnm hc
  · exact take_nothing D q n c f w hB hf hnm hc
  · exact take_none D q n c f w hB hf hnm hc
end Go.Proofs.YtecgkcofmphaiaaGreatDoor.Gpk
