/- The reference's steps: frames and tags.
   The reference's steps: virtual networks.
   The reference's steps: control messages of the sixth version.
   The reference's steps: packets of the sixth version.
   The reference's steps: questions for addresses.
   The reference's steps: datagrams.
   The reference's look at options.
   The reference's steps: segments. -/
import Derived.Test.YtecgkcofmphaiaaGreatDoorA18
import Derived.Test.YtecgkcofmphaiaaGreatDoorA02
import Derived.LoopTactic
set_option linter.unusedVariables false
set_option linter.unusedSimpArgs false
set_option linter.unnecessarySimpa false
set_option linter.unusedSectionVars false
namespace Go.Proofs.YtecgkcofmphaiaaGreatDoor.Gpk
open Go.RowKit
def outAgg : Out → Value
  | .taken s e nx => .agg #[.int .i64 s, .int .i64 e, .string nx.str, .bool false]
  | .short => .agg #[.int .i64 0, .int .i64 0, .string ⟨#[]⟩, .bool false]
  | .left => .agg #[.int .i64 0, .int .i64 0, .string ⟨#[]⟩, .bool true]
def outOk : Out → Bool
  | .taken _ _ _ => true
  | _ => false
/-- A step of the reference: what it tells is so. -/
def Told (nm : Nm) (f : Nat → Nat) (n : Nat) (w : World) (e : Ending) (w' : World) : Prop := ∃ o, StepOK nm f n o ∧ e = .returned (.tuple #[outAgg o, .bool (outOk o)]) ∧ Below w.heap.size w w'
theorem resAt {w w1 : World} {k : Nat} {o : Obj} (h : Below ((w.alloc o).drewN k).heap.size ((w.alloc o).drewN k) w1) : w1.heap[w.heap.size]? = some o :=
  (h.block _ (by show w.heap.size < (w.alloc o).heap.size; rw [World.size_alloc]; exact Nat.lt_succ_self _)).trans (heap_alloc_new w o)
theorem resBelow {w w1 : World} {k : Nat} {o : Obj} (h : Below ((w.alloc o).drewN k).heap.size ((w.alloc o).drewN k) w1) : Below w.heap.size w w1 :=
  (below_drewN ((Below.refl w.heap.size w).alloc (Nat.le_refl _) o) k).trans (h.mono (by show w.heap.size ≤ (w.alloc o).heap.size; rw [World.size_alloc]; exact Nat.le_succ _))
set_option maxRecDepth 100000 in
set_option maxHeartbeats 1000000 in
theorem ethShort (D q n c : Nat) (f : Nat → Nat) (w : World) (hB : Byt w D q f n) (hf : IsB f) (hnm : n ≤ maxLen) (h1 : n < 14) : Calls Tryz.prog 59 #[.slice (some ⟨D, q, none⟩) n c, .int .i64 14] w fun e w' => e = .returned (.tuple #[outAgg (.short), .bool false]) ∧ Below w.heap.size w w' := by
  have hB' : ∀ o, Byt (w.alloc o) D q f n := fun o i hi => byt_past hB i hi o
  have hnm' := hnm
  unfold maxLen at hnm'
  go_enter Tryz.func59, Tryz.ntmps59
  go_wp2_with fail
  refine (short9 _).mono ?_
  rintro e w1 ⟨rfl, hB1⟩
  have hr : w1.heap[w.heap.size]? = some (.cells #[.int .i64 0, .int .i64 0, .string ⟨#[]⟩, .bool false] 65) := by first | exact resAt hB1 | exact resAt (k := 0) hB1
  have q0 := cell_of_row w1 _ 0 _ 65 (0, 0) hr
  have q1 := cell_of_row w1 _ 1 _ 65 (0, 0) hr
  have q2 := cell_of_row w1 _ 2 _ 65 (0, 0) hr
  have q3 := cell_of_row w1 _ 3 _ 65 (0, 0) hr
  have f0 := unfrozen (i := 0) hr
  have f1 := unfrozen (i := 1) hr
  have f2 := unfrozen (i := 2) hr
  have f3 := unfrozen (i := 3) hr
  have hb2 : Below w.heap.size w w1 := by first | exact resBelow hB1 | exact resBelow (k := 0) hB1
  have HB1 := Lib.hid hb2
  clear hB1 hr hb2
  go_wp2
  refine bodyPost_ret (v := .tuple #[outAgg .short, .bool false]) (by simp [results, Tryz.f59, go_sem, outAgg, q0, q1, q2, q3]) rfl ⟨rfl, ?_⟩
  exact (((HB1.out.setCell (Nat.le_refl _) _).setCell (Nat.le_refl _) _).setCell (Nat.le_refl _) _).setCell (Nat.le_refl _) _
set_option maxRecDepth 100000 in
set_option maxHeartbeats 1000000 in
theorem ethLeft (D q n c : Nat) (f : Nat → Nat) (w : World) (hB : Byt w D q f n) (hf : IsB f) (hnm : n ≤ maxLen) (h1 : 14 ≤ n) (h2 : be f 12 < 1536) : Calls Tryz.prog 59 #[.slice (some ⟨D, q, none⟩) n c, .int .i64 14] w fun e w' => e = .returned (.tuple #[outAgg (.left), .bool false]) ∧ Below w.heap.size w w' := by
  have hB' : ∀ o, Byt (w.alloc o) D q f n := fun o i hi => byt_past hB i hi o
  have hnm' := hnm
  unfold maxLen at hnm'
  go_enter Tryz.func59, Tryz.ntmps59
  go_wp2_with fail
  refine (shortAt D q n c f 12 (by omega) hnm _ (by first | exact hB' _ | exact (hB' _).drewN _) hf).mono ?_
  rintro e w' ⟨rfl, k, rfl⟩
  go_wp2_with fail
  refine (left9 _).mono ?_
  rintro e w1 ⟨rfl, hB1⟩
  have hr : w1.heap[w.heap.size]? = some (.cells #[.int .i64 0, .int .i64 0, .string ⟨#[]⟩, .bool false] 65) := by first | exact resAt hB1 | exact resAt (k := 0) hB1
  have q0 := cell_of_row w1 _ 0 _ 65 (0, 0) hr
  have q1 := cell_of_row w1 _ 1 _ 65 (0, 0) hr
  have q2 := cell_of_row w1 _ 2 _ 65 (0, 0) hr
  have q3 := cell_of_row w1 _ 3 _ 65 (0, 0) hr
  have f0 := unfrozen (i := 0) hr
  have f1 := unfrozen (i := 1) hr
  have f2 := unfrozen (i := 2) hr
  have f3 := unfrozen (i := 3) hr
  have hb2 : Below w.heap.size w w1 := by first | exact resBelow hB1 | exact resBelow (k := 0) hB1
  have HB1 := Lib.hid hb2
  clear hB1 hr hb2
  go_wp2
  refine bodyPost_ret (v := .tuple #[outAgg .left, .bool false]) (by simp [results, Tryz.f59, go_sem, outAgg, q0, q1, q2, q3]) rfl ⟨rfl, ?_⟩
  exact (((HB1.out.setCell (Nat.le_refl _) _).setCell (Nat.le_refl _) _).setCell (Nat.le_refl _) _).setCell (Nat.le_refl _) _
set_option maxRecDepth 100000 in
set_option maxHeartbeats 1000000 in
theorem ethTaken (D q n c : Nat) (f : Nat → Nat) (w : World) (hB : Byt w D q f n) (hf : IsB f) (hnm : n ≤ maxLen) (h1 : 14 ≤ n) (h2 : 1536 ≤ be f 12) : Calls Tryz.prog 59 #[.slice (some ⟨D, q, none⟩) n c, .int .i64 14] w fun e w' => e = .returned (.tuple #[outAgg (.taken 14 n (byType (be f 12))), .bool true]) ∧ Below w.heap.size w w' := by
  have hB' : ∀ o, Byt (w.alloc o) D q f n := fun o i hi => byt_past hB i hi o
  have hnm' := hnm
  unfold maxLen at hnm'
  go_enter Tryz.func59, Tryz.ntmps59
  go_wp2_with fail
  refine (shortAt D q n c f 12 (by omega) hnm _ (by first | exact hB' _ | exact (hB' _).drewN _) hf).mono ?_
  rintro e w' ⟨rfl, k, rfl⟩
  go_wp2_with fail
  refine (shortAt D q n c f 12 (by omega) hnm _ (by first | exact hB' _ | exact (hB' _).drewN _) hf).mono ?_
  rintro e w' ⟨rfl, k, rfl⟩
  go_wp2_with fail
  refine (byType_ _ _).mono ?_
  rintro e w' ⟨rfl, rfl⟩
  go_wp2_with fail
  refine (taken 14 n (byType (be f 12)) _).mono ?_
  rintro e w1 ⟨rfl, hB1⟩
  have hr : w1.heap[w.heap.size]? = some (.cells #[.int .i64 0, .int .i64 0, .string ⟨#[]⟩, .bool false] 65) := by first | exact resAt hB1 | exact resAt (k := 0) hB1
  have q0 := cell_of_row w1 _ 0 _ 65 (0, 0) hr
  have q1 := cell_of_row w1 _ 1 _ 65 (0, 0) hr
  have q2 := cell_of_row w1 _ 2 _ 65 (0, 0) hr
  have q3 := cell_of_row w1 _ 3 _ 65 (0, 0) hr
  have f0 := unfrozen (i := 0) hr
  have f1 := unfrozen (i := 1) hr
  have f2 := unfrozen (i := 2) hr
  have f3 := unfrozen (i := 3) hr
  have hb2 : Below w.heap.size w w1 := by first | exact resBelow hB1 | exact resBelow (k := 0) hB1
  have HB1 := Lib.hid hb2
  clear hB1 hr hb2
  go_wp2
  refine bodyPost_ret (v := .tuple #[outAgg (.taken 14 n (byType (be f 12))), .bool true]) (by simp [results, Tryz.f59, go_sem, outAgg, q0, q1, q2, q3]) rfl ⟨rfl, ?_⟩
  exact (((HB1.out.setCell (Nat.le_refl _) _).setCell (Nat.le_refl _) _).setCell (Nat.le_refl _) _).setCell (Nat.le_refl _) _
theorem ethTold (D q n c : Nat) (f : Nat → Nat) (w : World) (hB : Byt w D q f n) (hf : IsB f) (hnm : n ≤ maxLen) : Calls Tryz.prog 59 #[.slice (some ⟨D, q, none⟩) n c, .int .i64 14] w (Told .eth f n w) := by
  by_cases h1 : n < 14
  · exact (ethShort D q n c f w hB hf hnm h1).mono fun _ _ h => ⟨.short, h1, h.1, h.2⟩
  · by_cases h2 : be f 12 < 1536
    · exact (ethLeft D q n c f w hB hf hnm (by omega) h2).mono fun _ _ h => ⟨.left, trivial, h.1, h.2⟩
    · exact (ethTaken D q n c f w hB hf hnm (by omega) (by omega)).mono fun _ _ h => ⟨.taken 14 n (byType (be f 12)), ⟨by omega, rfl, rfl, by omega, rfl⟩, h.1, h.2⟩
set_option maxRecDepth 100000 in
set_option maxHeartbeats 1000000 in
theorem vlanShort (D q n c : Nat) (f : Nat → Nat) (w : World) (hB : Byt w D q f n) (hf : IsB f) (hnm : n ≤ maxLen) (h1 : n < 4) : Calls Tryz.prog 59 #[.slice (some ⟨D, q, none⟩) n c, .int .i64 4] w fun e w' => e = .returned (.tuple #[outAgg (.short), .bool false]) ∧ Below w.heap.size w w' := by
  have hB' : ∀ o, Byt (w.alloc o) D q f n := fun o i hi => byt_past hB i hi o
  have hnm' := hnm
  unfold maxLen at hnm'
  go_enter Tryz.func59, Tryz.ntmps59
  go_wp2_with fail
  refine (short9 _).mono ?_
  rintro e w1 ⟨rfl, hB1⟩
  have hr : w1.heap[w.heap.size]? = some (.cells #[.int .i64 0, .int .i64 0, .string ⟨#[]⟩, .bool false] 65) := by first | exact resAt hB1 | exact resAt (k := 0) hB1
  have q0 := cell_of_row w1 _ 0 _ 65 (0, 0) hr
  have q1 := cell_of_row w1 _ 1 _ 65 (0, 0) hr
  have q2 := cell_of_row w1 _ 2 _ 65 (0, 0) hr
  have q3 := cell_of_row w1 _ 3 _ 65 (0, 0) hr
  have f0 := unfrozen (i := 0) hr
  have f1 := unfrozen (i := 1) hr
  have f2 := unfrozen (i := 2) hr
  have f3 := unfrozen (i := 3) hr
  have hb2 : Below w.heap.size w w1 := by first | exact resBelow hB1 | exact resBelow (k := 0) hB1
  have HB1 := Lib.hid hb2
  clear hB1 hr hb2
  go_wp2
  refine bodyPost_ret (v := .tuple #[outAgg .short, .bool false]) (by simp [results, Tryz.f59, go_sem, outAgg, q0, q1, q2, q3]) rfl ⟨rfl, ?_⟩
  exact (((HB1.out.setCell (Nat.le_refl _) _).setCell (Nat.le_refl _) _).setCell (Nat.le_refl _) _).setCell (Nat.le_refl _) _
set_option maxRecDepth 100000 in
set_option maxHeartbeats 1000000 in
theorem vlanLeft (D q n c : Nat) (f : Nat → Nat) (w : World) (hB : Byt w D q f n) (hf : IsB f) (hnm : n ≤ maxLen) (h1 : 4 ≤ n) (h2 : be f 2 < 1536) : Calls Tryz.prog 59 #[.slice (some ⟨D, q, none⟩) n c, .int .i64 4] w fun e w' => e = .returned (.tuple #[outAgg (.left), .bool false]) ∧ Below w.heap.size w w' := by
  have hB' : ∀ o, Byt (w.alloc o) D q f n := fun o i hi => byt_past hB i hi o
  have hnm' := hnm
  unfold maxLen at hnm'
  go_enter Tryz.func59, Tryz.ntmps59
  go_wp2_with fail
  refine (shortAt D q n c f 2 (by omega) hnm _ (by first | exact hB' _ | exact (hB' _).drewN _) hf).mono ?_
  rintro e w' ⟨rfl, k, rfl⟩
  go_wp2_with fail
  refine (left9 _).mono ?_
  rintro e w1 ⟨rfl, hB1⟩
  have hr : w1.heap[w.heap.size]? = some (.cells #[.int .i64 0, .int .i64 0, .string ⟨#[]⟩, .bool false] 65) := by first | exact resAt hB1 | exact resAt (k := 0) hB1
  have q0 := cell_of_row w1 _ 0 _ 65 (0, 0) hr
  have q1 := cell_of_row w1 _ 1 _ 65 (0, 0) hr
  have q2 := cell_of_row w1 _ 2 _ 65 (0, 0) hr
  have q3 := cell_of_row w1 _ 3 _ 65 (0, 0) hr
  have f0 := unfrozen (i := 0) hr
  have f1 := unfrozen (i := 1) hr
  have f2 := unfrozen (i := 2) hr
  have f3 := unfrozen (i := 3) hr
  have hb2 : Below w.heap.size w w1 := by first | exact resBelow hB1 | exact resBelow (k := 0) hB1
  have HB1 := Lib.hid hb2
  clear hB1 hr hb2
  go_wp2
  refine bodyPost_ret (v := .tuple #[outAgg .left, .bool false]) (by simp [results, Tryz.f59, go_sem, outAgg, q0, q1, q2, q3]) rfl ⟨rfl, ?_⟩
  exact (((HB1.out.setCell (Nat.le_refl _) _).setCell (Nat.le_refl _) _).setCell (Nat.le_refl _) _).setCell (Nat.le_refl _) _
set_option maxRecDepth 100000 in
set_option maxHeartbeats 1000000 in
theorem vlanTaken (D q n c : Nat) (f : Nat → Nat) (w : World) (hB : Byt w D q f n) (hf : IsB f) (hnm : n ≤ maxLen) (h1 : 4 ≤ n) (h2 : 1536 ≤ be f 2) : Calls Tryz.prog 59 #[.slice (some ⟨D, q, none⟩) n c, .int .i64 4] w fun e w' => e = .returned (.tuple #[outAgg (.taken 4 n (byType (be f 2))), .bool true]) ∧ Below w.heap.size w w' := by
  have hB' : ∀ o, Byt (w.alloc o) D q f n := fun o i hi => byt_past hB i hi o
  have hnm' := hnm
  unfold maxLen at hnm'
  go_enter Tryz.func59, Tryz.ntmps59
  go_wp2_with fail
  refine (shortAt D q n c f 2 (by omega) hnm _ (by first | exact hB' _ | exact (hB' _).drewN _) hf).mono ?_
  rintro e w' ⟨rfl, k, rfl⟩
  go_wp2_with fail
  refine (shortAt D q n c f 2 (by omega) hnm _ (by first | exact hB' _ | exact (hB' _).drewN _) hf).mono ?_
  rintro e w' ⟨rfl, k, rfl⟩
  go_wp2_with fail
  refine (byType_ _ _).mono ?_
  rintro e w' ⟨rfl, rfl⟩
  go_wp2_with fail
  refine (taken 4 n (byType (be f 2)) _).mono ?_
  rintro e w1 ⟨rfl, hB1⟩
  have hr : w1.heap[w.heap.size]? = some (.cells #[.int .i64 0, .int .i64 0, .string ⟨#[]⟩, .bool false] 65) := by first | exact resAt hB1 | exact resAt (k := 0) hB1
  have q0 := cell_of_row w1 _ 0 _ 65 (0, 0) hr
  have q1 := cell_of_row w1 _ 1 _ 65 (0, 0) hr
  have q2 := cell_of_row w1 _ 2 _ 65 (0, 0) hr
  have q3 := cell_of_row w1 _ 3 _ 65 (0, 0) hr
  have f0 := unfrozen (i := 0) hr
  have f1 := unfrozen (i := 1) hr
  have f2 := unfrozen (i := 2) hr
  have f3 := unfrozen (i := 3) hr
  have hb2 : Below w.heap.size w w1 := by first | exact resBelow hB1 | exact resBelow (k := 0) hB1
  have HB1 := Lib.hid hb2
  clear hB1 hr hb2
  go_wp2
  refine bodyPost_ret (v := .tuple #[outAgg (.taken 4 n (byType (be f 2))), .bool true]) (by simp [results, Tryz.f59, go_sem, outAgg, q0, q1, q2, q3]) rfl ⟨rfl, ?_⟩
  exact (((HB1.out.setCell (Nat.le_refl _) _).setCell (Nat.le_refl _) _).setCell (Nat.le_refl _) _).setCell (Nat.le_refl _) _
theorem vlanTold (D q n c : Nat) (f : Nat → Nat) (w : World) (hB : Byt w D q f n) (hf : IsB f) (hnm : n ≤ maxLen) : Calls Tryz.prog 59 #[.slice (some ⟨D, q, none⟩) n c, .int .i64 4] w (Told .vlan f n w) := by
  by_cases h1 : n < 4
  · exact (vlanShort D q n c f w hB hf hnm h1).mono fun _ _ h => ⟨.short, h1, h.1, h.2⟩
  · by_cases h2 : be f 2 < 1536
    · exact (vlanLeft D q n c f w hB hf hnm (by omega) h2).mono fun _ _ h => ⟨.left, trivial, h.1, h.2⟩
    · exact (vlanTaken D q n c f w hB hf hnm (by omega) (by omega)).mono fun _ _ h => ⟨.taken 4 n (byType (be f 2)), ⟨by omega, rfl, rfl, by omega, rfl⟩, h.1, h.2⟩
end Go.Proofs.YtecgkcofmphaiaaGreatDoor.Gpk
namespace Go.Proofs.YtecgkcofmphaiaaGreatDoor.Gpk
open Go.RowKit
set_option linter.unusedVariables false
set_option maxRecDepth 100000 in
set_option maxHeartbeats 1000000 in
theorem longAt (D q n c : Nat) (f : Nat → Nat) (hn : 4 ≤ n) (hnm : n ≤ maxLen) (w : World) (hB : Byt w D q f n) (hf : IsB f) :
    Calls Tryz.prog 86 #[.slice (some ⟨D, q, none⟩) n c, .int .i64 0] w fun e w' => (∃ v, e = .returned (.int .i64 v)) ∧ ∃ k, w' = w.drewN k := by
  go_enter Tryz.func86, Tryz.ntmps86
  go_wp2_with fail
  refine (shortAt D q n c f 0 (by omega) hnm _ hB hf).mono ?_
  rintro e w' ⟨rfl, k, rfl⟩
  go_wp2_with fail
  refine (shortAt D q n c f 2 (by omega) hnm _ (hB.drewN _) hf).mono ?_
  rintro e w' ⟨rfl, k, rfl⟩
  go_wp2
  go_ret
  exact ⟨⟨_, rfl⟩, _, rfl⟩
set_option maxRecDepth 100000 in
set_option maxHeartbeats 2000000 in
theorem vxlanTold (D q n c : Nat) (f : Nat → Nat) (w : World) (hB : Byt w D q f n) (hf : IsB f) (hnm : n ≤ maxLen) : Calls Tryz.prog 69 #[.slice (some ⟨D, q, none⟩) n c] w (Told .vxlan f n w) := by
  have hB' : ∀ o, Byt (w.alloc o) D q f n := fun o i hi => byt_past hB i hi o
  have hnm' := hnm
  unfold maxLen at hnm'
  go_enter Tryz.func69, Tryz.ntmps69
  by_cases h1 : n < 8
  · go_wp2_with (first | (go_at_call 70; refine (left9 _).mono ?_; rintro e w1 ⟨rfl, hB1⟩; have hr : w1.heap[w.heap.size]? = some (.cells #[.int .i64 0, .int .i64 0, .string ⟨#[]⟩, .bool false] 65) := (by first | exact resAt hB1 | exact resAt (k := 0) hB1); have q0 := cell_of_row w1 _ 0 _ 65 (0, 0) hr; have q1 := cell_of_row w1 _ 1 _ 65 (0, 0) hr; have q2 := cell_of_row w1 _ 2 _ 65 (0, 0) hr; have q3 := cell_of_row w1 _ 3 _ 65 (0, 0) hr; have f0 := unfrozen (i := 0) hr; have f1 := unfrozen (i := 1) hr; have f2 := unfrozen (i := 2) hr; have f3 := unfrozen (i := 3) hr; have hb2 : Below w.heap.size w w1 := (by first | exact resBelow hB1 | exact resBelow (k := 0) hB1); have HB1 := Lib.hid hb2; clear hB1 hr hb2))
    all_goals (first
    | (refine bodyPost_ret (v := .tuple #[outAgg .left, .bool false]) ?_ rfl ⟨.left, ?_, rfl, ?_⟩; (focus (simp [results, Tryz.f69, go_sem, outAgg, q0, q1, q2, q3]; done)); (focus (exact trivial)); (focus (exact (((HB1.out.setCell (Nat.le_refl _) _).setCell (Nat.le_refl _) _).setCell (Nat.le_refl _) _).setCell (Nat.le_refl _) _))))
  · have d7 := hB' 
    have e7 := fun o => hB' o 7 (by omega)
    go_wp2_with (first | (go_at_call 86; refine (longAt D q n c f (by omega) hnm _ (by first | exact hB' _ | exact (hB' _).drewN _) hf).mono ?_; rintro e w' ⟨⟨v, rfl⟩, k, rfl⟩) | (go_at_call 70; refine (left9 _).mono ?_; rintro e w1 ⟨rfl, hB1⟩; have hr : w1.heap[w.heap.size]? = some (.cells #[.int .i64 0, .int .i64 0, .string ⟨#[]⟩, .bool false] 65) := (by first | exact resAt hB1 | exact resAt (k := 0) hB1); have q0 := cell_of_row w1 _ 0 _ 65 (0, 0) hr; have q1 := cell_of_row w1 _ 1 _ 65 (0, 0) hr; have q2 := cell_of_row w1 _ 2 _ 65 (0, 0) hr; have q3 := cell_of_row w1 _ 3 _ 65 (0, 0) hr; have f0 := unfrozen (i := 0) hr; have f1 := unfrozen (i := 1) hr; have f2 := unfrozen (i := 2) hr; have f3 := unfrozen (i := 3) hr; have hb2 : Below w.heap.size w w1 := (by first | exact resBelow hB1 | exact resBelow (k := 0) hB1); have HB1 := Lib.hid hb2; clear hB1 hr hb2) | (go_at_call 66; refine (taken 8 n .eth _).mono ?_; rintro e w1 ⟨rfl, hB1⟩; have hr : w1.heap[w.heap.size]? = some (.cells #[.int .i64 0, .int .i64 0, .string ⟨#[]⟩, .bool false] 65) := (by first | exact resAt hB1 | exact resAt (k := 0) hB1); have q0 := cell_of_row w1 _ 0 _ 65 (0, 0) hr; have q1 := cell_of_row w1 _ 1 _ 65 (0, 0) hr; have q2 := cell_of_row w1 _ 2 _ 65 (0, 0) hr; have q3 := cell_of_row w1 _ 3 _ 65 (0, 0) hr; have f0 := unfrozen (i := 0) hr; have f1 := unfrozen (i := 1) hr; have f2 := unfrozen (i := 2) hr; have f3 := unfrozen (i := 3) hr; have hb2 : Below w.heap.size w w1 := (by first | exact resBelow hB1 | exact resBelow (k := 0) hB1); have HB1 := Lib.hid hb2; clear hB1 hr hb2))
    all_goals (first
    | (refine bodyPost_ret (v := .tuple #[outAgg .left, .bool false]) ?_ rfl ⟨.left, ?_, rfl, ?_⟩; (focus (simp [results, Tryz.f69, go_sem, outAgg, q0, q1, q2, q3]; done)); (focus (exact trivial)); (focus (exact (((HB1.out.setCell (Nat.le_refl _) _).setCell (Nat.le_refl _) _).setCell (Nat.le_refl _) _).setCell (Nat.le_refl _) _)))
    | (refine bodyPost_ret (v := .tuple #[outAgg (.taken 8 n .eth), .bool true]) ?_ rfl ⟨(.taken 8 n .eth), ?_, rfl, ?_⟩; (focus (simp [results, Tryz.f69, go_sem, outAgg, q0, q1, q2, q3]; done)); (focus (exact ⟨by omega, rfl, rfl, rfl⟩)); (focus (exact (((HB1.out.setCell (Nat.le_refl _) _).setCell (Nat.le_refl _) _).setCell (Nat.le_refl _) _).setCell (Nat.le_refl _) _))))
end Go.Proofs.YtecgkcofmphaiaaGreatDoor.Gpk
namespace Go.Proofs.YtecgkcofmphaiaaGreatDoor.Gpk
open Go.RowKit
set_option linter.unusedVariables false
set_option maxRecDepth 100000 in
set_option maxHeartbeats 2000000 in
theorem icmp6Told (D q n c : Nat) (f : Nat → Nat) (w : World) (hB : Byt w D q f n) (hf : IsB f) (hnm : n ≤ maxLen) : Calls Tryz.prog 67 #[.slice (some ⟨D, q, none⟩) n c] w (Told .icmp6 f n w) := by
  have hB' : ∀ o, Byt (w.alloc o) D q f n := fun o i hi => byt_past hB i hi o
  have hnm' := hnm
  unfold maxLen at hnm'
  go_enter Tryz.func67, Tryz.ntmps67
  by_cases h1 : n < 4
  · go_wp2_with (first | (go_at_call 65; refine (short9 _).mono ?_; rintro e w1 ⟨rfl, hB1⟩; have hr : w1.heap[w.heap.size]? = some (.cells #[.int .i64 0, .int .i64 0, .string ⟨#[]⟩, .bool false] 65) := (by first | exact resAt hB1 | exact resAt (k := 0) hB1); have q0 := cell_of_row w1 _ 0 _ 65 (0, 0) hr; have q1 := cell_of_row w1 _ 1 _ 65 (0, 0) hr; have q2 := cell_of_row w1 _ 2 _ 65 (0, 0) hr; have q3 := cell_of_row w1 _ 3 _ 65 (0, 0) hr; have f0 := unfrozen (i := 0) hr; have f1 := unfrozen (i := 1) hr; have f2 := unfrozen (i := 2) hr; have f3 := unfrozen (i := 3) hr; have hb2 : Below w.heap.size w w1 := (by first | exact resBelow hB1 | exact resBelow (k := 0) hB1); have HB1 := Lib.hid hb2; clear hB1 hr hb2))
    all_goals (first
    | (refine bodyPost_ret (v := .tuple #[outAgg .short, .bool false]) ?_ rfl ⟨.short, ?_, rfl, ?_⟩; (focus (simp [results, Tryz.f67, go_sem, outAgg, q0, q1, q2, q3]; done)); (focus (exact h1)); (focus (exact (((HB1.out.setCell (Nat.le_refl _) _).setCell (Nat.le_refl _) _).setCell (Nat.le_refl _) _).setCell (Nat.le_refl _) _))))
  · have e0 := fun o => hB' o 0 (by omega)
    simp only [Nat.add_zero] at e0
    by_cases g100 : f 0 = 100
    · have hnx : (if f 0 = 100 ∨ f 0 = 101 ∨ f 0 = 200 ∨ f 0 = 201 then Nm.pay else Nm.none) = .pay := if_pos (by omega)
      rw [g100] at e0
      go_wp2_with (first | (go_at_call 66; refine (taken 4 n .pay _).mono ?_; rintro e w1 ⟨rfl, hB1⟩; have hr : w1.heap[w.heap.size]? = some (.cells #[.int .i64 0, .int .i64 0, .string ⟨#[]⟩, .bool false] 65) := (by first | exact resAt hB1 | exact resAt (k := 0) hB1); have q0 := cell_of_row w1 _ 0 _ 65 (0, 0) hr; have q1 := cell_of_row w1 _ 1 _ 65 (0, 0) hr; have q2 := cell_of_row w1 _ 2 _ 65 (0, 0) hr; have q3 := cell_of_row w1 _ 3 _ 65 (0, 0) hr; have f0 := unfrozen (i := 0) hr; have f1 := unfrozen (i := 1) hr; have f2 := unfrozen (i := 2) hr; have f3 := unfrozen (i := 3) hr; have hb2 : Below w.heap.size w w1 := (by first | exact resBelow hB1 | exact resBelow (k := 0) hB1); have HB1 := Lib.hid hb2; clear hB1 hr hb2))
      all_goals (first
    | (refine bodyPost_ret (v := .tuple #[outAgg (.taken 4 n .pay), .bool true]) ?_ rfl ⟨(.taken 4 n .pay), ?_, rfl, ?_⟩; (focus (simp [results, Tryz.f67, go_sem, outAgg, q0, q1, q2, q3]; done)); (focus (exact ⟨by omega, rfl, rfl, hnx.symm⟩)); (focus (exact (((HB1.out.setCell (Nat.le_refl _) _).setCell (Nat.le_refl _) _).setCell (Nat.le_refl _) _).setCell (Nat.le_refl _) _))))
    by_cases g101 : f 0 = 101
    · have hnx : (if f 0 = 100 ∨ f 0 = 101 ∨ f 0 = 200 ∨ f 0 = 201 then Nm.pay else Nm.none) = .pay := if_pos (by omega)
      rw [g101] at e0
      go_wp2_with (first | (go_at_call 66; refine (taken 4 n .pay _).mono ?_; rintro e w1 ⟨rfl, hB1⟩; have hr : w1.heap[w.heap.size]? = some (.cells #[.int .i64 0, .int .i64 0, .string ⟨#[]⟩, .bool false] 65) := (by first | exact resAt hB1 | exact resAt (k := 0) hB1); have q0 := cell_of_row w1 _ 0 _ 65 (0, 0) hr; have q1 := cell_of_row w1 _ 1 _ 65 (0, 0) hr; have q2 := cell_of_row w1 _ 2 _ 65 (0, 0) hr; have q3 := cell_of_row w1 _ 3 _ 65 (0, 0) hr; have f0 := unfrozen (i := 0) hr; have f1 := unfrozen (i := 1) hr; have f2 := unfrozen (i := 2) hr; have f3 := unfrozen (i := 3) hr; have hb2 : Below w.heap.size w w1 := (by first | exact resBelow hB1 | exact resBelow (k := 0) hB1); have HB1 := Lib.hid hb2; clear hB1 hr hb2))
      all_goals (first
    | (refine bodyPost_ret (v := .tuple #[outAgg (.taken 4 n .pay), .bool true]) ?_ rfl ⟨(.taken 4 n .pay), ?_, rfl, ?_⟩; (focus (simp [results, Tryz.f67, go_sem, outAgg, q0, q1, q2, q3]; done)); (focus (exact ⟨by omega, rfl, rfl, hnx.symm⟩)); (focus (exact (((HB1.out.setCell (Nat.le_refl _) _).setCell (Nat.le_refl _) _).setCell (Nat.le_refl _) _).setCell (Nat.le_refl _) _))))
    by_cases g200 : f 0 = 200
    · have hnx : (if f 0 = 100 ∨ f 0 = 101 ∨ f 0 = 200 ∨ f 0 = 201 then Nm.pay else Nm.none) = .pay := if_pos (by omega)
      rw [g200] at e0
      go_wp2_with (first | (go_at_call 66; refine (taken 4 n .pay _).mono ?_; rintro e w1 ⟨rfl, hB1⟩; have hr : w1.heap[w.heap.size]? = some (.cells #[.int .i64 0, .int .i64 0, .string ⟨#[]⟩, .bool false] 65) := (by first | exact resAt hB1 | exact resAt (k := 0) hB1); have q0 := cell_of_row w1 _ 0 _ 65 (0, 0) hr; have q1 := cell_of_row w1 _ 1 _ 65 (0, 0) hr; have q2 := cell_of_row w1 _ 2 _ 65 (0, 0) hr; have q3 := cell_of_row w1 _ 3 _ 65 (0, 0) hr; have f0 := unfrozen (i := 0) hr; have f1 := unfrozen (i := 1) hr; have f2 := unfrozen (i := 2) hr; have f3 := unfrozen (i := 3) hr; have hb2 : Below w.heap.size w w1 := (by first | exact resBelow hB1 | exact resBelow (k := 0) hB1); have HB1 := Lib.hid hb2; clear hB1 hr hb2))
      all_goals (first
    | (refine bodyPost_ret (v := .tuple #[outAgg (.taken 4 n .pay), .bool true]) ?_ rfl ⟨(.taken 4 n .pay), ?_, rfl, ?_⟩; (focus (simp [results, Tryz.f67, go_sem, outAgg, q0, q1, q2, q3]; done)); (focus (exact ⟨by omega, rfl, rfl, hnx.symm⟩)); (focus (exact (((HB1.out.setCell (Nat.le_refl _) _).setCell (Nat.le_refl _) _).setCell (Nat.le_refl _) _).setCell (Nat.le_refl _) _))))
    by_cases g201 : f 0 = 201
    · have hnx : (if f 0 = 100 ∨ f 0 = 101 ∨ f 0 = 200 ∨ f 0 = 201 then Nm.pay else Nm.none) = .pay := if_pos (by omega)
      rw [g201] at e0
      go_wp2_with (first | (go_at_call 66; refine (taken 4 n .pay _).mono ?_; rintro e w1 ⟨rfl, hB1⟩; have hr : w1.heap[w.heap.size]? = some (.cells #[.int .i64 0, .int .i64 0, .string ⟨#[]⟩, .bool false] 65) := (by first | exact resAt hB1 | exact resAt (k := 0) hB1); have q0 := cell_of_row w1 _ 0 _ 65 (0, 0) hr; have q1 := cell_of_row w1 _ 1 _ 65 (0, 0) hr; have q2 := cell_of_row w1 _ 2 _ 65 (0, 0) hr; have q3 := cell_of_row w1 _ 3 _ 65 (0, 0) hr; have f0 := unfrozen (i := 0) hr; have f1 := unfrozen (i := 1) hr; have f2 := unfrozen (i := 2) hr; have f3 := unfrozen (i := 3) hr; have hb2 : Below w.heap.size w w1 := (by first | exact resBelow hB1 | exact resBelow (k := 0) hB1); have HB1 := Lib.hid hb2; clear hB1 hr hb2))
      all_goals (first
    | (refine bodyPost_ret (v := .tuple #[outAgg (.taken 4 n .pay), .bool true]) ?_ rfl ⟨(.taken 4 n .pay), ?_, rfl, ?_⟩; (focus (simp [results, Tryz.f67, go_sem, outAgg, q0, q1, q2, q3]; done)); (focus (exact ⟨by omega, rfl, rfl, hnx.symm⟩)); (focus (exact (((HB1.out.setCell (Nat.le_refl _) _).setCell (Nat.le_refl _) _).setCell (Nat.le_refl _) _).setCell (Nat.le_refl _) _))))
    have hnx : (if f 0 = 100 ∨ f 0 = 101 ∨ f 0 = 200 ∨ f 0 = 201 then Nm.pay else Nm.none) = .none := if_neg (by omega)
    have k100 : (((f 0 : Nat) : Int) == 100) = false := by simp; omega
    have k101 : (((f 0 : Nat) : Int) == 101) = false := by simp; omega
    have k200 : (((f 0 : Nat) : Int) == 200) = false := by simp; omega
    have k201 : (((f 0 : Nat) : Int) == 201) = false := by simp; omega
    clear g100 g101 g200 g201
    go_wp2_with (first | (go_at_call 66; refine (taken 4 n .none _).mono ?_; rintro e w1 ⟨rfl, hB1⟩; have hr : w1.heap[w.heap.size]? = some (.cells #[.int .i64 0, .int .i64 0, .string ⟨#[]⟩, .bool false] 65) := (by first | exact resAt hB1 | exact resAt (k := 0) hB1); have q0 := cell_of_row w1 _ 0 _ 65 (0, 0) hr; have q1 := cell_of_row w1 _ 1 _ 65 (0, 0) hr; have q2 := cell_of_row w1 _ 2 _ 65 (0, 0) hr; have q3 := cell_of_row w1 _ 3 _ 65 (0, 0) hr; have f0 := unfrozen (i := 0) hr; have f1 := unfrozen (i := 1) hr; have f2 := unfrozen (i := 2) hr; have f3 := unfrozen (i := 3) hr; have hb2 : Below w.heap.size w w1 := (by first | exact resBelow hB1 | exact resBelow (k := 0) hB1); have HB1 := Lib.hid hb2; clear hB1 hr hb2))
    all_goals (first
    | (refine bodyPost_ret (v := .tuple #[outAgg (.taken 4 n .none), .bool true]) ?_ rfl ⟨(.taken 4 n .none), ?_, rfl, ?_⟩; (focus (simp [results, Tryz.f67, go_sem, outAgg, q0, q1, q2, q3]; done)); (focus (exact ⟨by omega, rfl, rfl, hnx.symm⟩)); (focus (exact (((HB1.out.setCell (Nat.le_refl _) _).setCell (Nat.le_refl _) _).setCell (Nat.le_refl _) _).setCell (Nat.le_refl _) _))))
end Go.Proofs.YtecgkcofmphaiaaGreatDoor.Gpk
namespace Go.Proofs.YtecgkcofmphaiaaGreatDoor.Gpk
open Go.RowKit
set_option linter.unusedVariables false
set_option maxRecDepth 100000 in
set_option maxHeartbeats 2000000 in
theorem ip6Told (D q n c : Nat) (f : Nat → Nat) (w : World) (hB : Byt w D q f n) (hf : IsB f) (hnm : n ≤ maxLen) : Calls Tryz.prog 62 #[.slice (some ⟨D, q, none⟩) n c] w (Told .ip6 f n w) := by
  have hB' : ∀ o, Byt (w.alloc o) D q f n := fun o i hi => byt_past hB i hi o
  have hnm' := hnm
  unfold maxLen at hnm'
  go_enter Tryz.func62, Tryz.ntmps62
  by_cases h1 : n < 40
  · go_wp2_with (first | (go_at_call 65; refine (short9 _).mono ?_; rintro e w1 ⟨rfl, hB1⟩; have hr : w1.heap[w.heap.size]? = some (.cells #[.int .i64 0, .int .i64 0, .string ⟨#[]⟩, .bool false] 65) := (by first | exact resAt hB1 | exact resAt (k := 0) hB1); have q0 := cell_of_row w1 _ 0 _ 65 (0, 0) hr; have q1 := cell_of_row w1 _ 1 _ 65 (0, 0) hr; have q2 := cell_of_row w1 _ 2 _ 65 (0, 0) hr; have q3 := cell_of_row w1 _ 3 _ 65 (0, 0) hr; have f0 := unfrozen (i := 0) hr; have f1 := unfrozen (i := 1) hr; have f2 := unfrozen (i := 2) hr; have f3 := unfrozen (i := 3) hr; have hb2 : Below w.heap.size w w1 := (by first | exact resBelow hB1 | exact resBelow (k := 0) hB1); have HB1 := Lib.hid hb2; clear hB1 hr hb2))
    all_goals (first
    | (refine bodyPost_ret (v := .tuple #[outAgg .short, .bool false]) ?_ rfl ⟨.short, ?_, rfl, ?_⟩; (focus (simp [results, Tryz.f62, go_sem, outAgg, q0, q1, q2, q3]; done)); (focus (exact h1)); (focus (exact (((HB1.out.setCell (Nat.le_refl _) _).setCell (Nat.le_refl _) _).setCell (Nat.le_refl _) _).setCell (Nat.le_refl _) _))))
  · have e0 := fun o => hB' o 0 (by omega)
    have e6 := fun o => hB' o 6 (by omega)
    simp only [Nat.add_zero] at e0
    have l4 : be f 4 < 65536 := by have := hf 4; have := hf (4 + 1); unfold be; omega
    have u6 := i64_u8 (f 6) (hf 6)
    have s4 : IntKind.i64.wrap (40 + ((be f 4 : Nat) : Int)) = 40 + ((be f 4 : Nat) : Int) := by rw [IntKind.wrap_i64]; omega
    go_wp2_with fail
    refine (shortAt D q n c f 4 (by omega) hnm _ (by first | exact hB' _ | exact (hB' _).drewN _) hf).mono ?_
    rintro e w' ⟨rfl, k, rfl⟩
    go_wp2_with (first | (go_at_call 84; refine (byProtocol_ (f 6) true _).mono ?_; rintro e w' ⟨rfl, rfl⟩) | (go_at_call 70; refine (left9 _).mono ?_; rintro e w1 ⟨rfl, hB1⟩; have hr : w1.heap[w.heap.size]? = some (.cells #[.int .i64 0, .int .i64 0, .string ⟨#[]⟩, .bool false] 65) := (by first | exact resAt hB1 | exact resAt (k := 0) hB1); have q0 := cell_of_row w1 _ 0 _ 65 (0, 0) hr; have q1 := cell_of_row w1 _ 1 _ 65 (0, 0) hr; have q2 := cell_of_row w1 _ 2 _ 65 (0, 0) hr; have q3 := cell_of_row w1 _ 3 _ 65 (0, 0) hr; have f0 := unfrozen (i := 0) hr; have f1 := unfrozen (i := 1) hr; have f2 := unfrozen (i := 2) hr; have f3 := unfrozen (i := 3) hr; have hb2 : Below w.heap.size w w1 := (by first | exact resBelow hB1 | exact resBelow (k := 0) hB1); have HB1 := Lib.hid hb2; clear hB1 hr hb2) | (go_at_call 66; refine (taken 40 (40 + be f 4) (byProto (f 6) true) _).mono ?_; rintro e w1 ⟨rfl, hB1⟩; have hr : w1.heap[w.heap.size]? = some (.cells #[.int .i64 0, .int .i64 0, .string ⟨#[]⟩, .bool false] 65) := (by first | exact resAt hB1 | exact resAt (k := 0) hB1); have q0 := cell_of_row w1 _ 0 _ 65 (0, 0) hr; have q1 := cell_of_row w1 _ 1 _ 65 (0, 0) hr; have q2 := cell_of_row w1 _ 2 _ 65 (0, 0) hr; have q3 := cell_of_row w1 _ 3 _ 65 (0, 0) hr; have f0 := unfrozen (i := 0) hr; have f1 := unfrozen (i := 1) hr; have f2 := unfrozen (i := 2) hr; have f3 := unfrozen (i := 3) hr; have hb2 : Below w.heap.size w w1 := (by first | exact resBelow hB1 | exact resBelow (k := 0) hB1); have HB1 := Lib.hid hb2; clear hB1 hr hb2))
    all_goals (first
    | (refine bodyPost_ret (v := .tuple #[outAgg .left, .bool false]) ?_ rfl ⟨.left, ?_, rfl, ?_⟩; (focus (simp [results, Tryz.f62, go_sem, outAgg, q0, q1, q2, q3]; done)); (focus (exact trivial)); (focus (exact (((HB1.out.setCell (Nat.le_refl _) _).setCell (Nat.le_refl _) _).setCell (Nat.le_refl _) _).setCell (Nat.le_refl _) _)))
    | (refine bodyPost_ret (v := .tuple #[outAgg (.taken 40 (40 + be f 4) (byProto (f 6) true)), .bool true]) ?_ rfl ⟨(.taken 40 (40 + be f 4) (byProto (f 6) true)), ?_, rfl, ?_⟩; (focus (simp [results, Tryz.f62, go_sem, outAgg, q0, q1, q2, q3]; done)); (focus (exact ⟨by omega, rfl, rfl, by omega, by omega, by omega, rfl⟩)); (focus (exact (((HB1.out.setCell (Nat.le_refl _) _).setCell (Nat.le_refl _) _).setCell (Nat.le_refl _) _).setCell (Nat.le_refl _) _))))
end Go.Proofs.YtecgkcofmphaiaaGreatDoor.Gpk
namespace Go.Proofs.YtecgkcofmphaiaaGreatDoor.Gpk
open Go.RowKit
set_option linter.unusedVariables false
set_option maxRecDepth 100000 in
set_option maxHeartbeats 2000000 in
theorem arpTold (D q n c : Nat) (f : Nat → Nat) (w : World) (hB : Byt w D q f n) (hf : IsB f) (hnm : n ≤ maxLen) : Calls Tryz.prog 60 #[.slice (some ⟨D, q, none⟩) n c] w (Told .arp f n w) := by
  have hB' : ∀ o, Byt (w.alloc o) D q f n := fun o i hi => byt_past hB i hi o
  have hnm' := hnm
  unfold maxLen at hnm'
  go_enter Tryz.func60, Tryz.ntmps60
  by_cases h1 : n < 8
  · go_wp2_with (first | (go_at_call 70; refine (left9 _).mono ?_; rintro e w1 ⟨rfl, hB1⟩; have hr : w1.heap[w.heap.size]? = some (.cells #[.int .i64 0, .int .i64 0, .string ⟨#[]⟩, .bool false] 65) := (by first | exact resAt hB1 | exact resAt (k := 0) hB1); have q0 := cell_of_row w1 _ 0 _ 65 (0, 0) hr; have q1 := cell_of_row w1 _ 1 _ 65 (0, 0) hr; have q2 := cell_of_row w1 _ 2 _ 65 (0, 0) hr; have q3 := cell_of_row w1 _ 3 _ 65 (0, 0) hr; have f0 := unfrozen (i := 0) hr; have f1 := unfrozen (i := 1) hr; have f2 := unfrozen (i := 2) hr; have f3 := unfrozen (i := 3) hr; have hb2 : Below w.heap.size w w1 := (by first | exact resBelow hB1 | exact resBelow (k := 0) hB1); have HB1 := Lib.hid hb2; clear hB1 hr hb2))
    all_goals (first
    | (refine bodyPost_ret (v := .tuple #[outAgg .left, .bool false]) ?_ rfl ⟨.left, ?_, rfl, ?_⟩; (focus (simp [results, Tryz.f60, go_sem, outAgg, q0, q1, q2, q3]; done)); (focus (exact trivial)); (focus (exact (((HB1.out.setCell (Nat.le_refl _) _).setCell (Nat.le_refl _) _).setCell (Nat.le_refl _) _).setCell (Nat.le_refl _) _))))
  · have e4 := fun o => hB' o 4 (by omega)
    have e5 := fun o => hB' o 5 (by omega)
    have b4 := hf 4
    have b5 := hf 5
    have u4 := i64_u8 (f 4) (hf 4)
    have u5 := i64_u8 (f 5) (hf 5)
    have m4 : IntKind.i64.wrap (2 * ((f 4 : Nat) : Int)) = 2 * ((f 4 : Nat) : Int) := by rw [IntKind.wrap_i64]; omega
    have m5 : IntKind.i64.wrap (2 * ((f 5 : Nat) : Int)) = 2 * ((f 5 : Nat) : Int) := by rw [IntKind.wrap_i64]; omega
    have s4 : IntKind.i64.wrap (8 + 2 * ((f 4 : Nat) : Int)) = 8 + 2 * ((f 4 : Nat) : Int) := by rw [IntKind.wrap_i64]; omega
    have s5 : IntKind.i64.wrap (8 + 2 * ((f 4 : Nat) : Int) + 2 * ((f 5 : Nat) : Int)) = 8 + 2 * ((f 4 : Nat) : Int) + 2 * ((f 5 : Nat) : Int) := by rw [IntKind.wrap_i64]; omega
    go_wp2_with fail
    go_quiet (fail)
    go_wp2_with (first | (go_at_call 70; refine (left9 _).mono ?_; rintro e w1 ⟨rfl, hB1⟩; have hr : w1.heap[w.heap.size]? = some (.cells #[.int .i64 0, .int .i64 0, .string ⟨#[]⟩, .bool false] 65) := (by first | exact resAt hB1 | exact resAt (k := 0) hB1); have q0 := cell_of_row w1 _ 0 _ 65 (0, 0) hr; have q1 := cell_of_row w1 _ 1 _ 65 (0, 0) hr; have q2 := cell_of_row w1 _ 2 _ 65 (0, 0) hr; have q3 := cell_of_row w1 _ 3 _ 65 (0, 0) hr; have f0 := unfrozen (i := 0) hr; have f1 := unfrozen (i := 1) hr; have f2 := unfrozen (i := 2) hr; have f3 := unfrozen (i := 3) hr; have hb2 : Below w.heap.size w w1 := (by first | exact resBelow hB1 | exact resBelow (k := 0) hB1); have HB1 := Lib.hid hb2; clear hB1 hr hb2) | (go_at_call 66; refine (taken (8 + 2 * f 4 + 2 * f 5) n .nothing _).mono ?_; rintro e w1 ⟨rfl, hB1⟩; have hr : w1.heap[w.heap.size]? = some (.cells #[.int .i64 0, .int .i64 0, .string ⟨#[]⟩, .bool false] 65) := (by first | exact resAt hB1 | exact resAt (k := 0) hB1); have q0 := cell_of_row w1 _ 0 _ 65 (0, 0) hr; have q1 := cell_of_row w1 _ 1 _ 65 (0, 0) hr; have q2 := cell_of_row w1 _ 2 _ 65 (0, 0) hr; have q3 := cell_of_row w1 _ 3 _ 65 (0, 0) hr; have f0 := unfrozen (i := 0) hr; have f1 := unfrozen (i := 1) hr; have f2 := unfrozen (i := 2) hr; have f3 := unfrozen (i := 3) hr; have hb2 : Below w.heap.size w w1 := (by first | exact resBelow hB1 | exact resBelow (k := 0) hB1); have HB1 := Lib.hid hb2; clear hB1 hr hb2))
    all_goals (first
    | (refine bodyPost_ret (v := .tuple #[outAgg .left, .bool false]) ?_ rfl ⟨.left, ?_, rfl, ?_⟩; (focus (simp [results, Tryz.f60, go_sem, outAgg, q0, q1, q2, q3]; done)); (focus (exact trivial)); (focus (exact (((HB1.out.setCell (Nat.le_refl _) _).setCell (Nat.le_refl _) _).setCell (Nat.le_refl _) _).setCell (Nat.le_refl _) _)))
    | (refine bodyPost_ret (v := .tuple #[outAgg (.taken (8 + 2 * f 4 + 2 * f 5) n .nothing), .bool true]) ?_ rfl ⟨(.taken (8 + 2 * f 4 + 2 * f 5) n .nothing), ?_, rfl, ?_⟩; (focus (simp [results, Tryz.f60, go_sem, outAgg, q0, q1, q2, q3]; done)); (focus (exact ⟨by omega, rfl, by omega, by omega, rfl, rfl⟩)); (focus (exact (((HB1.out.setCell (Nat.le_refl _) _).setCell (Nat.le_refl _) _).setCell (Nat.le_refl _) _).setCell (Nat.le_refl _) _))))
end Go.Proofs.YtecgkcofmphaiaaGreatDoor.Gpk
namespace Go.Proofs.YtecgkcofmphaiaaGreatDoor.Gpk
open Go.RowKit
set_option linter.unusedVariables false
set_option maxRecDepth 100000 in
set_option maxHeartbeats 2000000 in
theorem udpTold (D q n c : Nat) (f : Nat → Nat) (w : World) (hB : Byt w D q f n) (hf : IsB f) (hnm : n ≤ maxLen) : Calls Tryz.prog 64 #[.slice (some ⟨D, q, none⟩) n c] w (Told .udp f n w) := by
  have hB' : ∀ o, Byt (w.alloc o) D q f n := fun o i hi => byt_past hB i hi o
  have hnm' := hnm
  unfold maxLen at hnm'
  go_enter Tryz.func64, Tryz.ntmps64
  by_cases h1 : n < 8
  · go_wp2_with (first | (go_at_call 65; refine (short9 _).mono ?_; rintro e w1 ⟨rfl, hB1⟩; have hr : w1.heap[w.heap.size]? = some (.cells #[.int .i64 0, .int .i64 0, .string ⟨#[]⟩, .bool false] 65) := (by first | exact resAt hB1 | exact resAt (k := 0) hB1); have q0 := cell_of_row w1 _ 0 _ 65 (0, 0) hr; have q1 := cell_of_row w1 _ 1 _ 65 (0, 0) hr; have q2 := cell_of_row w1 _ 2 _ 65 (0, 0) hr; have q3 := cell_of_row w1 _ 3 _ 65 (0, 0) hr; have f0 := unfrozen (i := 0) hr; have f1 := unfrozen (i := 1) hr; have f2 := unfrozen (i := 2) hr; have f3 := unfrozen (i := 3) hr; have hb2 : Below w.heap.size w w1 := (by first | exact resBelow hB1 | exact resBelow (k := 0) hB1); have HB1 := Lib.hid hb2; clear hB1 hr hb2))
    all_goals (first
    | (refine bodyPost_ret (v := .tuple #[outAgg .short, .bool false]) ?_ rfl ⟨.short, ?_, rfl, ?_⟩; (focus (simp [results, Tryz.f64, go_sem, outAgg, q0, q1, q2, q3]; done)); (focus (exact h1)); (focus (exact (((HB1.out.setCell (Nat.le_refl _) _).setCell (Nat.le_refl _) _).setCell (Nat.le_refl _) _).setCell (Nat.le_refl _) _))))
  · have l0 : be f 0 < 65536 := by have := hf 0; have := hf (0 + 1); unfold be; omega
    have l2 : be f 2 < 65536 := by have := hf 2; have := hf (2 + 1); unfold be; omega
    have l4 : be f 4 < 65536 := by have := hf 4; have := hf (4 + 1); unfold be; omega
    go_wp2_with fail
    refine (shortAt D q n c f 0 (by omega) hnm _ (by first | exact hB' _ | exact (hB' _).drewN _) hf).mono ?_
    rintro e w' ⟨rfl, k, rfl⟩
    go_wp2_with fail
    refine (shortAt D q n c f 2 (by omega) hnm _ (by first | exact hB' _ | exact (hB' _).drewN _) hf).mono ?_
    rintro e w' ⟨rfl, k, rfl⟩
    go_wp2_with fail
    refine (shortAt D q n c f 4 (by omega) hnm _ (by first | exact hB' _ | exact (hB' _).drewN _) hf).mono ?_
    rintro e w' ⟨rfl, k, rfl⟩
    go_wp2_with fail
    refine (free_ (be f 0) (be f 2) l0 l2 _).mono ?_
    rintro e w' ⟨rfl, rfl⟩
    by_cases hv : be f 2 = 4789
    · have gv : ((be f 2 : Nat) : Int) = 4789 := by omega
      go_wp2_with (first | (go_at_call 70; refine (left9 _).mono ?_; rintro e w1 ⟨rfl, hB1⟩; have hr : w1.heap[w.heap.size]? = some (.cells #[.int .i64 0, .int .i64 0, .string ⟨#[]⟩, .bool false] 65) := (by first | exact resAt hB1 | exact resAt (k := 0) hB1); have q0 := cell_of_row w1 _ 0 _ 65 (0, 0) hr; have q1 := cell_of_row w1 _ 1 _ 65 (0, 0) hr; have q2 := cell_of_row w1 _ 2 _ 65 (0, 0) hr; have q3 := cell_of_row w1 _ 3 _ 65 (0, 0) hr; have f0 := unfrozen (i := 0) hr; have f1 := unfrozen (i := 1) hr; have f2 := unfrozen (i := 2) hr; have f3 := unfrozen (i := 3) hr; have hb2 : Below w.heap.size w w1 := (by first | exact resBelow hB1 | exact resBelow (k := 0) hB1); have HB1 := Lib.hid hb2; clear hB1 hr hb2) | (go_at_call 66; refine (taken 8 (be f 4) .vxlan _).mono ?_; rintro e w1 ⟨rfl, hB1⟩; have hr : w1.heap[w.heap.size]? = some (.cells #[.int .i64 0, .int .i64 0, .string ⟨#[]⟩, .bool false] 65) := (by first | exact resAt hB1 | exact resAt (k := 0) hB1); have q0 := cell_of_row w1 _ 0 _ 65 (0, 0) hr; have q1 := cell_of_row w1 _ 1 _ 65 (0, 0) hr; have q2 := cell_of_row w1 _ 2 _ 65 (0, 0) hr; have q3 := cell_of_row w1 _ 3 _ 65 (0, 0) hr; have f0 := unfrozen (i := 0) hr; have f1 := unfrozen (i := 1) hr; have f2 := unfrozen (i := 2) hr; have f3 := unfrozen (i := 3) hr; have hb2 : Below w.heap.size w w1 := (by first | exact resBelow hB1 | exact resBelow (k := 0) hB1); have HB1 := Lib.hid hb2; clear hB1 hr hb2))
      all_goals (first
    | (refine bodyPost_ret (v := .tuple #[outAgg .left, .bool false]) ?_ rfl ⟨.left, ?_, rfl, ?_⟩; (focus (simp [results, Tryz.f64, go_sem, outAgg, q0, q1, q2, q3]; done)); (focus (exact trivial)); (focus (exact (((HB1.out.setCell (Nat.le_refl _) _).setCell (Nat.le_refl _) _).setCell (Nat.le_refl _) _).setCell (Nat.le_refl _) _)))
    | (refine bodyPost_ret (v := .tuple #[outAgg (.taken 8 (be f 4) .vxlan), .bool true]) ?_ rfl ⟨(.taken 8 (be f 4) .vxlan), ?_, rfl, ?_⟩; (focus (simp [results, Tryz.f64, go_sem, outAgg, q0, q1, q2, q3]; done)); (focus (exact ⟨by omega, rfl, rfl, by omega, by omega, by rw [if_pos hv]⟩)); (focus (exact (((HB1.out.setCell (Nat.le_refl _) _).setCell (Nat.le_refl _) _).setCell (Nat.le_refl _) _).setCell (Nat.le_refl _) _))))
    · have gv : (((be f 2 : Nat) : Int) == 4789) = false := by simp; omega
      go_wp2_with (first | (go_at_call 70; refine (left9 _).mono ?_; rintro e w1 ⟨rfl, hB1⟩; have hr : w1.heap[w.heap.size]? = some (.cells #[.int .i64 0, .int .i64 0, .string ⟨#[]⟩, .bool false] 65) := (by first | exact resAt hB1 | exact resAt (k := 0) hB1); have q0 := cell_of_row w1 _ 0 _ 65 (0, 0) hr; have q1 := cell_of_row w1 _ 1 _ 65 (0, 0) hr; have q2 := cell_of_row w1 _ 2 _ 65 (0, 0) hr; have q3 := cell_of_row w1 _ 3 _ 65 (0, 0) hr; have f0 := unfrozen (i := 0) hr; have f1 := unfrozen (i := 1) hr; have f2 := unfrozen (i := 2) hr; have f3 := unfrozen (i := 3) hr; have hb2 : Below w.heap.size w w1 := (by first | exact resBelow hB1 | exact resBelow (k := 0) hB1); have HB1 := Lib.hid hb2; clear hB1 hr hb2) | (go_at_call 66; refine (taken 8 (be f 4) (freeOf (be f 0) (be f 2)) _).mono ?_; rintro e w1 ⟨rfl, hB1⟩; have hr : w1.heap[w.heap.size]? = some (.cells #[.int .i64 0, .int .i64 0, .string ⟨#[]⟩, .bool false] 65) := (by first | exact resAt hB1 | exact resAt (k := 0) hB1); have q0 := cell_of_row w1 _ 0 _ 65 (0, 0) hr; have q1 := cell_of_row w1 _ 1 _ 65 (0, 0) hr; have q2 := cell_of_row w1 _ 2 _ 65 (0, 0) hr; have q3 := cell_of_row w1 _ 3 _ 65 (0, 0) hr; have f0 := unfrozen (i := 0) hr; have f1 := unfrozen (i := 1) hr; have f2 := unfrozen (i := 2) hr; have f3 := unfrozen (i := 3) hr; have hb2 : Below w.heap.size w w1 := (by first | exact resBelow hB1 | exact resBelow (k := 0) hB1); have HB1 := Lib.hid hb2; clear hB1 hr hb2))
      all_goals (first
    | (refine bodyPost_ret (v := .tuple #[outAgg .left, .bool false]) ?_ rfl ⟨.left, ?_, rfl, ?_⟩; (focus (simp [results, Tryz.f64, go_sem, outAgg, q0, q1, q2, q3]; done)); (focus (exact trivial)); (focus (exact (((HB1.out.setCell (Nat.le_refl _) _).setCell (Nat.le_refl _) _).setCell (Nat.le_refl _) _).setCell (Nat.le_refl _) _)))
    | (refine bodyPost_ret (v := .tuple #[outAgg (.taken 8 (be f 4) (freeOf (be f 0) (be f 2))), .bool true]) ?_ rfl ⟨(.taken 8 (be f 4) (freeOf (be f 0) (be f 2))), ?_, rfl, ?_⟩; (focus (simp [results, Tryz.f64, go_sem, outAgg, q0, q1, q2, q3]; done)); (focus (exact ⟨by omega, rfl, rfl, by omega, by omega, by rw [if_neg hv]⟩)); (focus (exact (((HB1.out.setCell (Nat.le_refl _) _).setCell (Nat.le_refl _) _).setCell (Nat.le_refl _) _).setCell (Nat.le_refl _) _))))
end Go.Proofs.YtecgkcofmphaiaaGreatDoor.Gpk
namespace Go.Proofs.YtecgkcofmphaiaaGreatDoor.Gpk
open Go.RowKit
set_option linter.unusedVariables false
/-- What it answers: where it says yes the options are well-formed. -/
def WfR (least : Nat) (f : Nat → Nat) (n : Nat) (w : World) (e : Ending) (w' : World) : Prop := ∃ r : Bool, e = .returned (.bool r) ∧ (r = true → WF least f n 0) ∧ w = w'
def natOf : Value → Nat | .int _ n => n.toNat | _ => 0
set_option maxRecDepth 100000 in
set_option maxHeartbeats 2000000 in
theorem areWF (D q n c least : Nat) (A : Option Addr) (f : Nat → Nat) (w : World) (hA : 0 < n → A = some ⟨D, q, none⟩) (hB : Byt w D q f n) (hf : IsB f) (hnm : n ≤ 1000) (hl : 2 ≤ least) (hl3 : least ≤ 3) :
    Calls Tryz.prog 83 #[.slice A n c, .int .u8 (least : Nat)] w (WfR least f n w) := by


  go_enter Tryz.func83, Tryz.ntmps83
  go_wp2_with fail
  go_loopw [5] (fun t wr => ∃ i : Nat, t = .int .i64 (i : Nat) ∧ i ≤ n ∧ Hid (WF least f n i → WF least f n 0) ∧ w = wr) (fun t _ => n - natOf t)
  case atStart => exact ⟨0, rfl, Nat.zero_le _, Lib.hid id, rfl⟩
  case round =>
    obtain ⟨i, rfl, hi, HWF, rfl⟩ := hrel
    by_cases hlt : i < n
    · have hA' := hA (by omega)
      subst hA'
      have d0 := hB i hlt
      have e1 : IntKind.i64.wrap ((i : Int) + 1) = (i : Int) + 1 := by rw [IntKind.wrap_i64]; omega
      have e2 : (0 : Int) ≤ (i : Int) := by omega
      have e3 : (i : Int) < n := by omega
      have e4 : ((i : Int)).toNat = i := by omega
      by_cases h0 : f i = 0
      · rw [h0] at d0
        go_wp2
        go_ret
        exact ⟨true, rfl, fun _ => HWF.out (.stop i hlt h0), rfl⟩
      · have g0 : (((f i : Nat) : Int) == 0) = false := by simp; omega
        by_cases h1 : f i = 1
        · rw [h1] at d0
          go_wp2
          go_roundw
          case rel => exact ⟨i + 1, rfl, by omega, Lib.hid (fun hw => HWF.out (.one i hlt h1 hw)), by first | rfl | trivial⟩
          case measure => simp [natOf]; omega
        · have g1 : (((f i : Nat) : Int) == 1) = false := by simp; omega
          by_cases hx : i + 1 < n
          · have d1 : w.cell? ⟨D, q + (i + 1), none⟩ = some (.int .u8 (f (i + 1) : Nat)) := hB (i + 1) hx
            have b1 := hf (i + 1)
            have e5 : (0 : Int) ≤ (i : Int) + 1 := by omega
            have e6 : (i : Int) + 1 < n := by omega
            have e7 : ((i : Int) + 1).toNat = i + 1 := by omega
            have e8 : IntKind.i64.wrap ((f (i + 1) : Nat) : Int) = (f (i + 1) : Nat) := i64_u8 _ b1
            have e9 : IntKind.i64.wrap ((i : Int) + ((f (i + 1) : Nat) : Int)) = (i : Int) + ((f (i + 1) : Nat) : Int) := by rw [IntKind.wrap_i64]; omega
            by_cases h2 : f (i + 1) < least
            · have g2 : ((f (i + 1) : Nat) : Int) < least := by omega
              go_wp2
              go_ret
              exact ⟨false, rfl, fun h => by simp at h, rfl⟩
            · have g2 : ((least : Nat) : Int) ≤ f (i + 1) := by omega
              by_cases h3 : i + f (i + 1) ≤ n
              · have g3 : (i : Int) + ((f (i + 1) : Nat) : Int) ≤ n := by omega
                go_wp2
                go_roundw
                case rel => exact ⟨i + f (i + 1), rfl, h3, Lib.hid (fun hw => HWF.out (.more i hx h0 h1 (by omega) h3 hw)), by first | rfl | trivial⟩
                case measure => simp [natOf]; omega
              · have g3 : (n : Int) < (i : Int) + ((f (i + 1) : Nat) : Int) := by omega
                go_wp2
                go_ret
                exact ⟨false, rfl, fun h => by simp at h, rfl⟩
          · have e6 : (n : Int) ≤ (i : Int) + 1 := by omega
            go_wp2
            go_ret
            exact ⟨false, rfl, fun h => by simp at h, rfl⟩
    · have e3 : ¬ ((i : Int) < n) := by omega
      go_wp2
      go_ret
      exact ⟨true, rfl, fun _ => HWF.out (.done i (by omega)), rfl⟩
end Go.Proofs.YtecgkcofmphaiaaGreatDoor.Gpk
namespace Go.Proofs.YtecgkcofmphaiaaGreatDoor.Gpk
open Go.RowKit
set_option linter.unusedVariables false
set_option maxRecDepth 100000 in
set_option maxHeartbeats 2000000 in
theorem tcpTold (D q n c : Nat) (f : Nat → Nat) (w : World) (hB : Byt w D q f n) (hf : IsB f) (hnm : n ≤ maxLen) (hc : n ≤ c) : Calls Tryz.prog 63 #[.slice (some ⟨D, q, none⟩) n c] w (Told .tcp f n w) := by
  have hB' : ∀ o, Byt (w.alloc o) D q f n := fun o i hi => byt_past hB i hi o
  have hnm' := hnm
  unfold maxLen at hnm'
  go_enter Tryz.func63, Tryz.ntmps63
  by_cases h1 : n < 20
  · go_wp2_with (first | (go_at_call 65; refine (short9 _).mono ?_; rintro e w1 ⟨rfl, hB1⟩; have hr : w1.heap[w.heap.size]? = some (.cells #[.int .i64 0, .int .i64 0, .string ⟨#[]⟩, .bool false] 65) := (by first | exact resAt hB1 | exact resAt (k := 0) hB1); have q0 := cell_of_row w1 _ 0 _ 65 (0, 0) hr; have q1 := cell_of_row w1 _ 1 _ 65 (0, 0) hr; have q2 := cell_of_row w1 _ 2 _ 65 (0, 0) hr; have q3 := cell_of_row w1 _ 3 _ 65 (0, 0) hr; have f0 := unfrozen (i := 0) hr; have f1 := unfrozen (i := 1) hr; have f2 := unfrozen (i := 2) hr; have f3 := unfrozen (i := 3) hr; have hb2 : Below w.heap.size w w1 := (by first | exact resBelow hB1 | exact resBelow (k := 0) hB1); have HB1 := Lib.hid hb2; clear hB1 hr hb2))
    all_goals (first
    | (refine bodyPost_ret (v := .tuple #[outAgg .short, .bool false]) ?_ rfl ⟨.short, ?_, rfl, ?_⟩; (focus (simp [results, Tryz.f63, go_sem, outAgg, q0, q1, q2, q3]; done)); (focus (exact h1)); (focus (exact (((HB1.out.setCell (Nat.le_refl _) _).setCell (Nat.le_refl _) _).setCell (Nat.le_refl _) _).setCell (Nat.le_refl _) _))))
  · have e12 := fun o => hB' o 12 (by omega)
    have b12 := hf 12
    have l0 : be f 0 < 65536 := by have := hf 0; have := hf (0 + 1); unfold be; omega
    have l2 : be f 2 < 65536 := by have := hf 2; have := hf (2 + 1); unfold be; omega
    obtain ⟨z, hz⟩ : ∃ z, z = f 12 / 16 := ⟨_, rfl⟩
    have z15 : z ≤ 15 := by omega
    have ez : ((f 12 : Nat) : Int) / 16 = (z : Int) := by omega
    have HZ := Lib.hid hz
    clear hz
    have uz : IntKind.i64.wrap (z : Int) = z := by rw [IntKind.wrap_i64]; omega
    have mz : IntKind.i64.wrap (4 * (z : Int)) = 4 * (z : Int) := by rw [IntKind.wrap_i64]; omega
    by_cases h2 : z * 4 < 20
    · go_wp2_with (first | (go_at_call 70; refine (left9 _).mono ?_; rintro e w1 ⟨rfl, hB1⟩; have hr : w1.heap[w.heap.size]? = some (.cells #[.int .i64 0, .int .i64 0, .string ⟨#[]⟩, .bool false] 65) := (by first | exact resAt hB1 | exact resAt (k := 0) hB1); have q0 := cell_of_row w1 _ 0 _ 65 (0, 0) hr; have q1 := cell_of_row w1 _ 1 _ 65 (0, 0) hr; have q2 := cell_of_row w1 _ 2 _ 65 (0, 0) hr; have q3 := cell_of_row w1 _ 3 _ 65 (0, 0) hr; have f0 := unfrozen (i := 0) hr; have f1 := unfrozen (i := 1) hr; have f2 := unfrozen (i := 2) hr; have f3 := unfrozen (i := 3) hr; have hb2 : Below w.heap.size w w1 := (by first | exact resBelow hB1 | exact resBelow (k := 0) hB1); have HB1 := Lib.hid hb2; clear hB1 hr hb2))
      all_goals (first
    | (refine bodyPost_ret (v := .tuple #[outAgg .left, .bool false]) ?_ rfl ⟨.left, ?_, rfl, ?_⟩; (focus (simp [results, Tryz.f63, go_sem, outAgg, q0, q1, q2, q3]; done)); (focus (exact trivial)); (focus (exact (((HB1.out.setCell (Nat.le_refl _) _).setCell (Nat.le_refl _) _).setCell (Nat.le_refl _) _).setCell (Nat.le_refl _) _))))
    · by_cases h3 : n < z * 4
      · go_wp2_with (first | (go_at_call 70; refine (left9 _).mono ?_; rintro e w1 ⟨rfl, hB1⟩; have hr : w1.heap[w.heap.size]? = some (.cells #[.int .i64 0, .int .i64 0, .string ⟨#[]⟩, .bool false] 65) := (by first | exact resAt hB1 | exact resAt (k := 0) hB1); have q0 := cell_of_row w1 _ 0 _ 65 (0, 0) hr; have q1 := cell_of_row w1 _ 1 _ 65 (0, 0) hr; have q2 := cell_of_row w1 _ 2 _ 65 (0, 0) hr; have q3 := cell_of_row w1 _ 3 _ 65 (0, 0) hr; have f0 := unfrozen (i := 0) hr; have f1 := unfrozen (i := 1) hr; have f2 := unfrozen (i := 2) hr; have f3 := unfrozen (i := 3) hr; have hb2 : Below w.heap.size w w1 := (by first | exact resBelow hB1 | exact resBelow (k := 0) hB1); have HB1 := Lib.hid hb2; clear hB1 hr hb2))
        all_goals (first
    | (refine bodyPost_ret (v := .tuple #[outAgg .left, .bool false]) ?_ rfl ⟨.left, ?_, rfl, ?_⟩; (focus (simp [results, Tryz.f63, go_sem, outAgg, q0, q1, q2, q3]; done)); (focus (exact trivial)); (focus (exact (((HB1.out.setCell (Nat.le_refl _) _).setCell (Nat.le_refl _) _).setCell (Nat.le_refl _) _).setCell (Nat.le_refl _) _))))
      · go_wp2_with fail
        all_goals
          refine (areWF D (q + 20) (4 * z - 20) _ 2 _ (fun i => f (20 + i)) _ ?_ ?_ (hf.sub 20) (by omega) (by decide) (by decide)).mono ?_
          · intro hh
            first | rfl | omega | (rw [if_neg (by omega)])
          · first | exact (hB' _).sub 20 _ (by omega) | exact ((hB' _).drewN _).sub 20 _ (by omega)
          rintro e w' ⟨r, rfl, hWF, rfl⟩
          have HWF := Lib.hid hWF
          clear hWF
          rcases r with _ | _
          · go_wp2_with (first | (go_at_call 70; refine (left9 _).mono ?_; rintro e w1 ⟨rfl, hB1⟩; have hr : w1.heap[w.heap.size]? = some (.cells #[.int .i64 0, .int .i64 0, .string ⟨#[]⟩, .bool false] 65) := (by first | exact resAt hB1 | exact resAt (k := 0) hB1); have q0 := cell_of_row w1 _ 0 _ 65 (0, 0) hr; have q1 := cell_of_row w1 _ 1 _ 65 (0, 0) hr; have q2 := cell_of_row w1 _ 2 _ 65 (0, 0) hr; have q3 := cell_of_row w1 _ 3 _ 65 (0, 0) hr; have f0 := unfrozen (i := 0) hr; have f1 := unfrozen (i := 1) hr; have f2 := unfrozen (i := 2) hr; have f3 := unfrozen (i := 3) hr; have hb2 : Below w.heap.size w w1 := (by first | exact resBelow hB1 | exact resBelow (k := 0) hB1); have HB1 := Lib.hid hb2; clear hB1 hr hb2))
            all_goals (first
    | (refine bodyPost_ret (v := .tuple #[outAgg .left, .bool false]) ?_ rfl ⟨.left, ?_, rfl, ?_⟩; (focus (simp [results, Tryz.f63, go_sem, outAgg, q0, q1, q2, q3]; done)); (focus (exact trivial)); (focus (exact (((HB1.out.setCell (Nat.le_refl _) _).setCell (Nat.le_refl _) _).setCell (Nat.le_refl _) _).setCell (Nat.le_refl _) _))))
          · go_wp2_with fail
            refine (shortAt D q n _ f 0 (by omega) hnm _ (by first | exact hB' _ | exact (hB' _).drewN _) hf).mono ?_
            rintro e w' ⟨rfl, k, rfl⟩
            go_wp2_with fail
            refine (shortAt D q n _ f 2 (by omega) hnm _ (by first | exact hB' _ | exact (hB' _).drewN _) hf).mono ?_
            rintro e w' ⟨rfl, k, rfl⟩
            go_wp2_with fail
            refine (free_ (be f 0) (be f 2) l0 l2 _).mono ?_
            rintro e w' ⟨rfl, rfl⟩
            go_wp2_with (first | (go_at_call 66; refine (taken (4 * z) n (freeOf (be f 0) (be f 2)) _).mono ?_; rintro e w1 ⟨rfl, hB1⟩; have hr : w1.heap[w.heap.size]? = some (.cells #[.int .i64 0, .int .i64 0, .string ⟨#[]⟩, .bool false] 65) := (by first | exact resAt hB1 | exact resAt (k := 0) hB1); have q0 := cell_of_row w1 _ 0 _ 65 (0, 0) hr; have q1 := cell_of_row w1 _ 1 _ 65 (0, 0) hr; have q2 := cell_of_row w1 _ 2 _ 65 (0, 0) hr; have q3 := cell_of_row w1 _ 3 _ 65 (0, 0) hr; have f0 := unfrozen (i := 0) hr; have f1 := unfrozen (i := 1) hr; have f2 := unfrozen (i := 2) hr; have f3 := unfrozen (i := 3) hr; have hb2 : Below w.heap.size w w1 := (by first | exact resBelow hB1 | exact resBelow (k := 0) hB1); have HB1 := Lib.hid hb2; clear hB1 hr hb2))
            all_goals (first
    | (refine bodyPost_ret (v := .tuple #[outAgg (.taken (4 * z) n (freeOf (be f 0) (be f 2))), .bool true]) ?_ rfl ⟨(.taken (4 * z) n (freeOf (be f 0) (be f 2))), ?_, rfl, ?_⟩; (focus (simp [results, Tryz.f63, go_sem, outAgg, q0, q1, q2, q3]; done)); (focus (exact ⟨by omega, (by have := HZ.out; omega), by omega, by omega, rfl, HWF.out (by first | rfl | trivial), rfl⟩)); (focus (exact (((HB1.out.setCell (Nat.le_refl _) _).setCell (Nat.le_refl _) _).setCell (Nat.le_refl _) _).setCell (Nat.le_refl _) _))))
end Go.Proofs.YtecgkcofmphaiaaGreatDoor.Gpk
