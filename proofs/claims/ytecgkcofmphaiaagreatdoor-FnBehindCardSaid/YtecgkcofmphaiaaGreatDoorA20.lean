/- The reference's steps: packets of the fourth version.
   The reference's step: routing encapsulation.
   The reference's step: routing encapsulation. -/
import Derived.Test.YtecgkcofmphaiaaGreatDoorA19
import Derived.Test.YtecgkcofmphaiaaGreatDoorA02
import Derived.LoopN
set_option linter.unusedVariables false
set_option linter.unusedSimpArgs false
set_option linter.unnecessarySimpa false
set_option linter.unusedSectionVars false
namespace Go.Proofs.YtecgkcofmphaiaaGreatDoor.Gpk
open Go.RowKit
set_option linter.unusedVariables false
theorem and64 (x : Nat) (hx : x < 65536) : bits .and .i64 (x : Int) 16383 = ((x % 16384 : Nat) : Int) := by
  have h1 : x &&& 16383 = x % 16384 := Nat.and_two_pow_sub_one_eq_mod x 14
  show IntKind.i64.wrap ((BitVec.ofInt 64 (x : Int) &&& BitVec.ofInt 64 ((16383 : Nat) : Int)).toNat : Int) = _
  have e1 : ∀ a : Nat, a < 2 ^ 63 → (BitVec.ofInt 64 (a : Int)).toNat = a := by
    intro a ha
    rw [BitVec.ofInt_natCast, BitVec.toNat_ofNat]
    exact Nat.mod_eq_of_lt (by omega)
  rw [BitVec.toNat_and, e1 _ (by omega), e1 _ (by omega), IntKind.wrap_i64, h1]
  omega
theorem shortAt_q (D q n c : Nat) (f : Nat → Nat) (i : Nat) (hi : i + 1 < n) (hn : n ≤ maxLen) (w : World) (hB : Byt w D q f n) (hf : IsB f) (k : Nat) :
    Calls Tryz.prog 81 #[.slice (some ⟨D, q, none⟩) n c, .int .i64 (i : Nat)] (w.drewN k) fun e w' => e = .returned (.int .i64 (be f i : Nat)) ∧ ∃ m, w' = w.drewN m :=
  (shortAt D q n c f i hi hn (w.drewN k) (hB.drewN k) hf).mono fun _ _ ⟨h, m, hm⟩ => ⟨h, k + m, by rw [hm, World.drewN_drewN]⟩
set_option maxRecDepth 100000 in
set_option maxHeartbeats 2000000 in
theorem ip4Told (D q n c : Nat) (f : Nat → Nat) (w : World) (hB : Byt w D q f n) (hf : IsB f) (hnm : n ≤ maxLen) (hc : n ≤ c) : Calls Tryz.prog 61 #[.slice (some ⟨D, q, none⟩) n c] w (Told .ip4 f n w) := by
  have hB' : ∀ o, Byt (w.alloc o) D q f n := fun o i hi => byt_past hB i hi o
  have hnm' := hnm
  unfold maxLen at hnm'
  go_enter Tryz.func61, Tryz.ntmps61
  by_cases h1 : n < 20
  · go_wp2_with (first | (go_at_call 65; refine (short9 _).mono ?_; rintro e w1 ⟨rfl, hB1⟩; have hr : w1.heap[w.heap.size]? = some (.cells #[.int .i64 0, .int .i64 0, .string ⟨#[]⟩, .bool false] 65) := (by first | exact resAt hB1 | exact resAt (k := 0) hB1); have q0 := cell_of_row w1 _ 0 _ 65 (0, 0) hr; have q1 := cell_of_row w1 _ 1 _ 65 (0, 0) hr; have q2 := cell_of_row w1 _ 2 _ 65 (0, 0) hr; have q3 := cell_of_row w1 _ 3 _ 65 (0, 0) hr; have f0 := unfrozen (i := 0) hr; have f1 := unfrozen (i := 1) hr; have f2 := unfrozen (i := 2) hr; have f3 := unfrozen (i := 3) hr; have hb2 : Below w.heap.size w w1 := (by first | exact resBelow hB1 | exact resBelow (k := 0) hB1); have HB1 := Lib.hid hb2; clear hB1 hr hb2))
    all_goals (first
    | (refine bodyPost_ret (v := .tuple #[outAgg .short, .bool false]) ?_ rfl ⟨.short, ?_, rfl, ?_⟩; (focus (simp [results, Tryz.f61, go_sem, outAgg, q0, q1, q2, q3]; done)); (focus (exact h1)); (focus (exact (((HB1.out.setCell (Nat.le_refl _) _).setCell (Nat.le_refl _) _).setCell (Nat.le_refl _) _).setCell (Nat.le_refl _) _))))
  · have e0 := fun o => hB' o 0 (by omega)
    simp only [Nat.add_zero] at e0
    have e9 := fun o => hB' o 9 (by omega)
    have b0 := hf 0
    have u9 := i64_u8 (f 9) (hf 9)
    have l2 : be f 2 < 65536 := by have := hf 2; have := hf (2 + 1); unfold be; omega
    have l6 : be f 6 < 65536 := by have := hf 6; have := hf (6 + 1); unfold be; omega
    obtain ⟨z, hz⟩ : ∃ z, z = f 0 % 16 := ⟨_, rfl⟩
    have z15 : z ≤ 15 := by omega
    have hih : bits .and .u8 ((f 0 : Nat) : Int) 15 = (z : Int) := by rw [u8_and15 (x := ((f 0 : Nat) : Int)) (by omega) (by omega)]; omega
    have HZ := Lib.hid hz
    clear hz
    have uz : IntKind.i64.wrap (z : Int) = z := by rw [IntKind.wrap_i64]; omega
    have mz : IntKind.i64.wrap (4 * (z : Int)) = 4 * (z : Int) := by rw [IntKind.wrap_i64]; omega
    go_wp2_with fail
    go_quiet ((go_at_call 81; exact shortAt_q D q n c f 2 (by omega) hnm _ (hB' _) hf _))
    go_wp2_with (first | (go_at_call 70; refine (left9 _).mono ?_; rintro e w1 ⟨rfl, hB1⟩; have hr : w1.heap[w.heap.size]? = some (.cells #[.int .i64 0, .int .i64 0, .string ⟨#[]⟩, .bool false] 65) := (by first | exact resAt hB1 | exact resAt (k := 0) hB1); have q0 := cell_of_row w1 _ 0 _ 65 (0, 0) hr; have q1 := cell_of_row w1 _ 1 _ 65 (0, 0) hr; have q2 := cell_of_row w1 _ 2 _ 65 (0, 0) hr; have q3 := cell_of_row w1 _ 3 _ 65 (0, 0) hr; have f0 := unfrozen (i := 0) hr; have f1 := unfrozen (i := 1) hr; have f2 := unfrozen (i := 2) hr; have f3 := unfrozen (i := 3) hr; have hb2 : Below w.heap.size w w1 := (by first | exact resBelow hB1 | exact resBelow (k := 0) hB1); have HB1 := Lib.hid hb2; clear hB1 hr hb2))
    all_goals try (first
    | (refine bodyPost_ret (v := .tuple #[outAgg .left, .bool false]) ?_ rfl ⟨.left, ?_, rfl, ?_⟩; (focus (simp [results, Tryz.f61, go_sem, outAgg, q0, q1, q2, q3]; done)); (focus (exact trivial)); (focus (exact (((HB1.out.setCell (Nat.le_refl _) _).setCell (Nat.le_refl _) _).setCell (Nat.le_refl _) _).setCell (Nat.le_refl _) _))))
    all_goals
      refine (areWF D (q + 20) (4 * z - 20) _ 3 _ (fun i => f (20 + i)) _ ?_ ?_ (hf.sub 20) (by omega) (by decide) (by decide)).mono ?_
      · intro hh
        first | rfl | omega | (rw [if_neg (by omega)])
      · first | exact (hB' _).sub 20 _ (by omega) | exact ((hB' _).drewN _).sub 20 _ (by omega)
      rintro e w' ⟨r, rfl, hWF, rfl⟩
      have HWF := Lib.hid hWF
      clear hWF
      rcases r with _ | _
      · go_wp2_with (first | (go_at_call 70; refine (left9 _).mono ?_; rintro e w1 ⟨rfl, hB1⟩; have hr : w1.heap[w.heap.size]? = some (.cells #[.int .i64 0, .int .i64 0, .string ⟨#[]⟩, .bool false] 65) := (by first | exact resAt hB1 | exact resAt (k := 0) hB1); have q0 := cell_of_row w1 _ 0 _ 65 (0, 0) hr; have q1 := cell_of_row w1 _ 1 _ 65 (0, 0) hr; have q2 := cell_of_row w1 _ 2 _ 65 (0, 0) hr; have q3 := cell_of_row w1 _ 3 _ 65 (0, 0) hr; have f0 := unfrozen (i := 0) hr; have f1 := unfrozen (i := 1) hr; have f2 := unfrozen (i := 2) hr; have f3 := unfrozen (i := 3) hr; have hb2 : Below w.heap.size w w1 := (by first | exact resBelow hB1 | exact resBelow (k := 0) hB1); have HB1 := Lib.hid hb2; clear hB1 hr hb2))
        all_goals (first
    | (refine bodyPost_ret (v := .tuple #[outAgg .left, .bool false]) ?_ rfl ⟨.left, ?_, rfl, ?_⟩; (focus (simp [results, Tryz.f61, go_sem, outAgg, q0, q1, q2, q3]; done)); (focus (exact trivial)); (focus (exact (((HB1.out.setCell (Nat.le_refl _) _).setCell (Nat.le_refl _) _).setCell (Nat.le_refl _) _).setCell (Nat.le_refl _) _))))
      · go_wp2_with fail
        refine (byProtocol_ (f 9) false _).mono ?_
        rintro e w' ⟨rfl, rfl⟩
        go_wp2_with fail
        refine (shortAt D q n _ f 6 (by omega) hnm _ (by first | exact hB' _ | exact (hB' _).drewN _) hf).mono ?_
        rintro e w' ⟨rfl, k, rfl⟩
        by_cases hx : be f 6 % 16384 = 0
        · have ga : bits .and .i64 ((be f 6 : Nat) : Int) 16383 = 0 := by rw [and64 _ l6, hx]; rfl
          go_wp2_with (first | (go_at_call 66; refine (taken (4 * z) (be f 2) (byProto (f 9) false) _).mono ?_; rintro e w1 ⟨rfl, hB1⟩; have hr : w1.heap[w.heap.size]? = some (.cells #[.int .i64 0, .int .i64 0, .string ⟨#[]⟩, .bool false] 65) := (by first | exact resAt hB1 | exact resAt (k := 0) hB1); have q0 := cell_of_row w1 _ 0 _ 65 (0, 0) hr; have q1 := cell_of_row w1 _ 1 _ 65 (0, 0) hr; have q2 := cell_of_row w1 _ 2 _ 65 (0, 0) hr; have q3 := cell_of_row w1 _ 3 _ 65 (0, 0) hr; have f0 := unfrozen (i := 0) hr; have f1 := unfrozen (i := 1) hr; have f2 := unfrozen (i := 2) hr; have f3 := unfrozen (i := 3) hr; have hb2 : Below w.heap.size w w1 := (by first | exact resBelow hB1 | exact resBelow (k := 0) hB1); have HB1 := Lib.hid hb2; clear hB1 hr hb2))
          all_goals (first
    | (refine bodyPost_ret (v := .tuple #[outAgg (.taken (4 * z) (be f 2) (byProto (f 9) false)), .bool true]) ?_ rfl ⟨(.taken (4 * z) (be f 2) (byProto (f 9) false)), ?_, rfl, ?_⟩; (focus (simp [results, Tryz.f61, go_sem, outAgg, q0, q1, q2, q3]; done)); (focus (exact ⟨by omega, (by have := HZ.out; omega), (by have := HZ.out; omega), rfl, by omega, by omega, HWF.out (by first | rfl | trivial), (by rw [if_pos hx])⟩)); (focus (exact (((HB1.out.setCell (Nat.le_refl _) _).setCell (Nat.le_refl _) _).setCell (Nat.le_refl _) _).setCell (Nat.le_refl _) _))))
        · have ga : (bits .and .i64 ((be f 6 : Nat) : Int) 16383 != 0) = true := by rw [and64 _ l6]; simp; omega
          go_wp2_with (first | (go_at_call 66; refine (taken (4 * z) (be f 2) .none _).mono ?_; rintro e w1 ⟨rfl, hB1⟩; have hr : w1.heap[w.heap.size]? = some (.cells #[.int .i64 0, .int .i64 0, .string ⟨#[]⟩, .bool false] 65) := (by first | exact resAt hB1 | exact resAt (k := 0) hB1); have q0 := cell_of_row w1 _ 0 _ 65 (0, 0) hr; have q1 := cell_of_row w1 _ 1 _ 65 (0, 0) hr; have q2 := cell_of_row w1 _ 2 _ 65 (0, 0) hr; have q3 := cell_of_row w1 _ 3 _ 65 (0, 0) hr; have f0 := unfrozen (i := 0) hr; have f1 := unfrozen (i := 1) hr; have f2 := unfrozen (i := 2) hr; have f3 := unfrozen (i := 3) hr; have hb2 : Below w.heap.size w w1 := (by first | exact resBelow hB1 | exact resBelow (k := 0) hB1); have HB1 := Lib.hid hb2; clear hB1 hr hb2))
          all_goals (first
    | (refine bodyPost_ret (v := .tuple #[outAgg (.taken (4 * z) (be f 2) .none), .bool true]) ?_ rfl ⟨(.taken (4 * z) (be f 2) .none), ?_, rfl, ?_⟩; (focus (simp [results, Tryz.f61, go_sem, outAgg, q0, q1, q2, q3]; done)); (focus (exact ⟨by omega, (by have := HZ.out; omega), (by have := HZ.out; omega), rfl, by omega, by omega, HWF.out (by first | rfl | trivial), (by rw [if_neg hx])⟩)); (focus (exact (((HB1.out.setCell (Nat.le_refl _) _).setCell (Nat.le_refl _) _).setCell (Nat.le_refl _) _).setCell (Nat.le_refl _) _))))
end Go.Proofs.YtecgkcofmphaiaaGreatDoor.Gpk
namespace Go.Proofs.YtecgkcofmphaiaaGreatDoor.Gpk
open Go.RowKit
set_option linter.unusedVariables false
theorem resAt2 {w w1 : World} {k : Nat} {o o2 : Obj} (h : Below (((w.alloc o).alloc o2).drewN k).heap.size (((w.alloc o).alloc o2).drewN k) w1) : w1.heap[w.heap.size]? = some o := by
  have h0 : (w.alloc o).heap[w.heap.size]? = some o := heap_alloc_new w o
  have h1 : ((w.alloc o).alloc o2).heap[w.heap.size]? = some o := (heap_alloc_old _ _ (lt_of_heap h0)).trans h0
  exact (h.block _ (lt_of_heap h1)).trans h1
theorem resBelow2 {w w1 : World} {k : Nat} {o o2 : Obj} (h : Below (((w.alloc o).alloc o2).drewN k).heap.size (((w.alloc o).alloc o2).drewN k) w1) : Below w.heap.size w w1 :=
  (below_drewN (((Below.refl w.heap.size w).alloc (Nat.le_refl _) o).alloc (by rw [World.size_alloc]; exact Nat.le_succ _) o2) k).trans (h.mono (by show w.heap.size ≤ ((w.alloc o).alloc o2).heap.size; rw [World.size_alloc, World.size_alloc]; omega))
theorem and79 : ∀ x : Fin 256, (bits .and .u8 ((x.val : Nat) : Int) 79 != 0) = false → x.val / 64 % 2 = 0 ∧ x.val % 16 = 0 := by decide +kernel
theorem and128 : ∀ x : Fin 256, (bits .and .u8 ((x.val : Nat) : Int) 128 != 0) = decide (x.val / 128 % 2 = 1) := by decide +kernel
theorem and32 : ∀ x : Fin 256, (bits .and .u8 ((x.val : Nat) : Int) 32 != 0) = decide (x.val / 32 % 2 = 1) := by decide +kernel
theorem and16 : ∀ x : Fin 256, (bits .and .u8 ((x.val : Nat) : Int) 16 != 0) = decide (x.val / 16 % 2 = 1) := by decide +kernel
end Go.Proofs.YtecgkcofmphaiaaGreatDoor.Gpk
namespace Go.Proofs.YtecgkcofmphaiaaGreatDoor.Gpk
open Go.RowKit
set_option linter.unusedVariables false
set_option maxRecDepth 100000 in
set_option maxHeartbeats 4000000 in
theorem gre000 (D q n c : Nat) (f : Nat → Nat) (w : World) (hB : Byt w D q f n) (hf : IsB f) (hnm : n ≤ maxLen) (h4 : 4 ≤ n) (hA : (bits .and .u8 (f 0 : Nat) 79 != 0) = false) (h1 : f 1 = 0) (hM1 : (bits .and .u8 (f 0 : Nat) 128 != 0) = false) (hM2 : (bits .and .u8 (f 0 : Nat) 32 != 0) = false) (hM3 : (bits .and .u8 (f 0 : Nat) 16 != 0) = false) :
    Calls Tryz.prog 68 #[.slice (some ⟨D, q, none⟩) n c] w fun e w' => ∃ o, (o = .left ∨ (4 ≤ n ∧ o = .taken 4 n (greNext (be f 2)))) ∧ e = .returned (.tuple #[outAgg o, .bool (outOk o)]) ∧ Below w.heap.size w w' := by
  have hB' : ∀ o, Byt (w.alloc o) D q f n := fun o i hi => byt_past hB i hi o
  have hnm' := hnm
  unfold maxLen at hnm'
  have hD := hB.lt (by omega)
  have b0 := hf 0
  have c0 := byt_past0 hB (by omega)
  have c1 := byt_past hB 1 (by omega)
  rw [h1] at c1
  have c0' : ∀ o o2, ((w.alloc o).alloc o2).cell? ⟨D, q, none⟩ = some (.int .u8 (f 0 : Nat)) := fun o o2 => (World.cell?_alloc_past o2 _ _ (by simp; omega)).trans (c0 o)
  have hB2 : ∀ o o2, Byt ((w.alloc o).alloc o2) D q f n := fun o o2 i hi => (World.cell?_alloc_past o2 _ _ (by simp; omega)).trans (hB' o i hi)
  go_enter Tryz.func68, Tryz.ntmps68
  go_wp2_with fail
  refine wp_loop_rounds 4 ?_
  rw [rounds_succ]
  go_wp2_with fail
  rw [rounds_succ]
  go_wp2_with fail
  rw [rounds_succ]
  go_wp2_with fail
  rw [rounds_succ]
  go_wp2_with fail
  refine (shortAt D q n c f 2 (by omega) hnm _ (by first | exact hB2 _ _ | exact (hB2 _ _).drewN _) hf).mono ?_
  rintro e w' ⟨rfl, k, rfl⟩
  go_wp2_with fail
  refine (byType_ _ _).mono ?_
  rintro e w' ⟨rfl, rfl⟩
  by_cases hx : be f 2 = 2048
  · have hbt : byType (be f 2) = .ip4 := by rw [hx]; rfl
    have hnx : greNext (be f 2) = .ip4 := by rw [hx]; rfl
    rw [hbt]
    simp only [Nm.str]
    by_cases hs : 4 ≤ n
    · have hs' : ¬ ((n : Int) < 4) := by omega
      go_wp2_with (first | (go_at_call 81; refine (shortAt D q n c f 2 (by omega) hnm _ (by first | exact hB2 _ _ | exact (hB2 _ _).drewN _ | exact ((hB2 _ _).drewN _).drewN _) hf).mono ?_; rintro e w' ⟨rfl, k, rfl⟩; rw [hx]) | (go_at_call 70; refine (left9 _).mono ?_; rintro e w1 ⟨rfl, hB1⟩; have hr : w1.heap[w.heap.size]? = some (.cells #[.int .i64 0, .int .i64 0, .string ⟨#[]⟩, .bool false] 65) := (by first | exact resAt hB1 | exact resAt (k := 0) hB1 | exact resAt2 hB1 | exact resAt2 (k := 0) hB1); have q0 := cell_of_row w1 _ 0 _ 65 (0, 0) hr; have q1 := cell_of_row w1 _ 1 _ 65 (0, 0) hr; have q2 := cell_of_row w1 _ 2 _ 65 (0, 0) hr; have q3 := cell_of_row w1 _ 3 _ 65 (0, 0) hr; have f0 := unfrozen (i := 0) hr; have f1 := unfrozen (i := 1) hr; have f2 := unfrozen (i := 2) hr; have f3 := unfrozen (i := 3) hr; have hb2 : Below w.heap.size w w1 := (by first | exact resBelow hB1 | exact resBelow (k := 0) hB1 | exact resBelow2 hB1 | exact resBelow2 (k := 0) hB1); have HB1 := Lib.hid hb2; clear hB1 hr hb2) | (go_at_call 66; refine (taken 4 n .ip4 _).mono ?_; rintro e w1 ⟨rfl, hB1⟩; have hr : w1.heap[w.heap.size]? = some (.cells #[.int .i64 0, .int .i64 0, .string ⟨#[]⟩, .bool false] 65) := (by first | exact resAt hB1 | exact resAt (k := 0) hB1 | exact resAt2 hB1 | exact resAt2 (k := 0) hB1); have q0 := cell_of_row w1 _ 0 _ 65 (0, 0) hr; have q1 := cell_of_row w1 _ 1 _ 65 (0, 0) hr; have q2 := cell_of_row w1 _ 2 _ 65 (0, 0) hr; have q3 := cell_of_row w1 _ 3 _ 65 (0, 0) hr; have f0 := unfrozen (i := 0) hr; have f1 := unfrozen (i := 1) hr; have f2 := unfrozen (i := 2) hr; have f3 := unfrozen (i := 3) hr; have hb2 : Below w.heap.size w w1 := (by first | exact resBelow hB1 | exact resBelow (k := 0) hB1 | exact resBelow2 hB1 | exact resBelow2 (k := 0) hB1); have HB1 := Lib.hid hb2; clear hB1 hr hb2))
      all_goals (first
    | (refine bodyPost_ret (v := .tuple #[outAgg (.taken 4 n .ip4), .bool true]) ?_ rfl ⟨(.taken 4 n .ip4), ?_, rfl, ?_⟩; (focus (simp [results, Tryz.f68, go_sem, outAgg, q0, q1, q2, q3]; done)); (focus (exact .inr ⟨hs, by rw [hnx]⟩)); (focus (exact (((HB1.out.setCell (Nat.le_refl _) _).setCell (Nat.le_refl _) _).setCell (Nat.le_refl _) _).setCell (Nat.le_refl _) _))))
    · omega
  have hx2048 := hx
  clear hx
  by_cases hx : be f 2 = 2054
  · have hbt : byType (be f 2) = .arp := by rw [hx]; rfl
    have hnx : greNext (be f 2) = .none := by rw [hx]; rfl
    rw [hbt]
    simp only [Nm.str]
    by_cases hs : 4 ≤ n
    · have hs' : ¬ ((n : Int) < 4) := by omega
      go_wp2_with (first | (go_at_call 81; refine (shortAt D q n c f 2 (by omega) hnm _ (by first | exact hB2 _ _ | exact (hB2 _ _).drewN _ | exact ((hB2 _ _).drewN _).drewN _) hf).mono ?_; rintro e w' ⟨rfl, k, rfl⟩; rw [hx]) | (go_at_call 70; refine (left9 _).mono ?_; rintro e w1 ⟨rfl, hB1⟩; have hr : w1.heap[w.heap.size]? = some (.cells #[.int .i64 0, .int .i64 0, .string ⟨#[]⟩, .bool false] 65) := (by first | exact resAt hB1 | exact resAt (k := 0) hB1 | exact resAt2 hB1 | exact resAt2 (k := 0) hB1); have q0 := cell_of_row w1 _ 0 _ 65 (0, 0) hr; have q1 := cell_of_row w1 _ 1 _ 65 (0, 0) hr; have q2 := cell_of_row w1 _ 2 _ 65 (0, 0) hr; have q3 := cell_of_row w1 _ 3 _ 65 (0, 0) hr; have f0 := unfrozen (i := 0) hr; have f1 := unfrozen (i := 1) hr; have f2 := unfrozen (i := 2) hr; have f3 := unfrozen (i := 3) hr; have hb2 : Below w.heap.size w w1 := (by first | exact resBelow hB1 | exact resBelow (k := 0) hB1 | exact resBelow2 hB1 | exact resBelow2 (k := 0) hB1); have HB1 := Lib.hid hb2; clear hB1 hr hb2) | (go_at_call 66; refine (taken 4 n .none _).mono ?_; rintro e w1 ⟨rfl, hB1⟩; have hr : w1.heap[w.heap.size]? = some (.cells #[.int .i64 0, .int .i64 0, .string ⟨#[]⟩, .bool false] 65) := (by first | exact resAt hB1 | exact resAt (k := 0) hB1 | exact resAt2 hB1 | exact resAt2 (k := 0) hB1); have q0 := cell_of_row w1 _ 0 _ 65 (0, 0) hr; have q1 := cell_of_row w1 _ 1 _ 65 (0, 0) hr; have q2 := cell_of_row w1 _ 2 _ 65 (0, 0) hr; have q3 := cell_of_row w1 _ 3 _ 65 (0, 0) hr; have f0 := unfrozen (i := 0) hr; have f1 := unfrozen (i := 1) hr; have f2 := unfrozen (i := 2) hr; have f3 := unfrozen (i := 3) hr; have hb2 : Below w.heap.size w w1 := (by first | exact resBelow hB1 | exact resBelow (k := 0) hB1 | exact resBelow2 hB1 | exact resBelow2 (k := 0) hB1); have HB1 := Lib.hid hb2; clear hB1 hr hb2))
      all_goals (first
    | (refine bodyPost_ret (v := .tuple #[outAgg (.taken 4 n .none), .bool true]) ?_ rfl ⟨(.taken 4 n .none), ?_, rfl, ?_⟩; (focus (simp [results, Tryz.f68, go_sem, outAgg, q0, q1, q2, q3]; done)); (focus (exact .inr ⟨hs, by rw [hnx]⟩)); (focus (exact (((HB1.out.setCell (Nat.le_refl _) _).setCell (Nat.le_refl _) _).setCell (Nat.le_refl _) _).setCell (Nat.le_refl _) _))))
    · omega
  have hx2054 := hx
  clear hx
  by_cases hx : be f 2 = 33024
  · have hbt : byType (be f 2) = .vlan := by rw [hx]; rfl
    have hnx : greNext (be f 2) = .none := by rw [hx]; rfl
    rw [hbt]
    simp only [Nm.str]
    by_cases hs : 4 ≤ n
    · have hs' : ¬ ((n : Int) < 4) := by omega
      go_wp2_with (first | (go_at_call 81; refine (shortAt D q n c f 2 (by omega) hnm _ (by first | exact hB2 _ _ | exact (hB2 _ _).drewN _ | exact ((hB2 _ _).drewN _).drewN _) hf).mono ?_; rintro e w' ⟨rfl, k, rfl⟩; rw [hx]) | (go_at_call 70; refine (left9 _).mono ?_; rintro e w1 ⟨rfl, hB1⟩; have hr : w1.heap[w.heap.size]? = some (.cells #[.int .i64 0, .int .i64 0, .string ⟨#[]⟩, .bool false] 65) := (by first | exact resAt hB1 | exact resAt (k := 0) hB1 | exact resAt2 hB1 | exact resAt2 (k := 0) hB1); have q0 := cell_of_row w1 _ 0 _ 65 (0, 0) hr; have q1 := cell_of_row w1 _ 1 _ 65 (0, 0) hr; have q2 := cell_of_row w1 _ 2 _ 65 (0, 0) hr; have q3 := cell_of_row w1 _ 3 _ 65 (0, 0) hr; have f0 := unfrozen (i := 0) hr; have f1 := unfrozen (i := 1) hr; have f2 := unfrozen (i := 2) hr; have f3 := unfrozen (i := 3) hr; have hb2 : Below w.heap.size w w1 := (by first | exact resBelow hB1 | exact resBelow (k := 0) hB1 | exact resBelow2 hB1 | exact resBelow2 (k := 0) hB1); have HB1 := Lib.hid hb2; clear hB1 hr hb2) | (go_at_call 66; refine (taken 4 n .none _).mono ?_; rintro e w1 ⟨rfl, hB1⟩; have hr : w1.heap[w.heap.size]? = some (.cells #[.int .i64 0, .int .i64 0, .string ⟨#[]⟩, .bool false] 65) := (by first | exact resAt hB1 | exact resAt (k := 0) hB1 | exact resAt2 hB1 | exact resAt2 (k := 0) hB1); have q0 := cell_of_row w1 _ 0 _ 65 (0, 0) hr; have q1 := cell_of_row w1 _ 1 _ 65 (0, 0) hr; have q2 := cell_of_row w1 _ 2 _ 65 (0, 0) hr; have q3 := cell_of_row w1 _ 3 _ 65 (0, 0) hr; have f0 := unfrozen (i := 0) hr; have f1 := unfrozen (i := 1) hr; have f2 := unfrozen (i := 2) hr; have f3 := unfrozen (i := 3) hr; have hb2 : Below w.heap.size w w1 := (by first | exact resBelow hB1 | exact resBelow (k := 0) hB1 | exact resBelow2 hB1 | exact resBelow2 (k := 0) hB1); have HB1 := Lib.hid hb2; clear hB1 hr hb2))
      all_goals (first
    | (refine bodyPost_ret (v := .tuple #[outAgg (.taken 4 n .none), .bool true]) ?_ rfl ⟨(.taken 4 n .none), ?_, rfl, ?_⟩; (focus (simp [results, Tryz.f68, go_sem, outAgg, q0, q1, q2, q3]; done)); (focus (exact .inr ⟨hs, by rw [hnx]⟩)); (focus (exact (((HB1.out.setCell (Nat.le_refl _) _).setCell (Nat.le_refl _) _).setCell (Nat.le_refl _) _).setCell (Nat.le_refl _) _))))
    · omega
  have hx33024 := hx
  clear hx
  by_cases hx : be f 2 = 34525
  · have hbt : byType (be f 2) = .ip6 := by rw [hx]; rfl
    have hnx : greNext (be f 2) = .ip6 := by rw [hx]; rfl
    rw [hbt]
    simp only [Nm.str]
    by_cases hs : 4 ≤ n
    · have hs' : ¬ ((n : Int) < 4) := by omega
      go_wp2_with (first | (go_at_call 81; refine (shortAt D q n c f 2 (by omega) hnm _ (by first | exact hB2 _ _ | exact (hB2 _ _).drewN _ | exact ((hB2 _ _).drewN _).drewN _) hf).mono ?_; rintro e w' ⟨rfl, k, rfl⟩; rw [hx]) | (go_at_call 70; refine (left9 _).mono ?_; rintro e w1 ⟨rfl, hB1⟩; have hr : w1.heap[w.heap.size]? = some (.cells #[.int .i64 0, .int .i64 0, .string ⟨#[]⟩, .bool false] 65) := (by first | exact resAt hB1 | exact resAt (k := 0) hB1 | exact resAt2 hB1 | exact resAt2 (k := 0) hB1); have q0 := cell_of_row w1 _ 0 _ 65 (0, 0) hr; have q1 := cell_of_row w1 _ 1 _ 65 (0, 0) hr; have q2 := cell_of_row w1 _ 2 _ 65 (0, 0) hr; have q3 := cell_of_row w1 _ 3 _ 65 (0, 0) hr; have f0 := unfrozen (i := 0) hr; have f1 := unfrozen (i := 1) hr; have f2 := unfrozen (i := 2) hr; have f3 := unfrozen (i := 3) hr; have hb2 : Below w.heap.size w w1 := (by first | exact resBelow hB1 | exact resBelow (k := 0) hB1 | exact resBelow2 hB1 | exact resBelow2 (k := 0) hB1); have HB1 := Lib.hid hb2; clear hB1 hr hb2) | (go_at_call 66; refine (taken 4 n .ip6 _).mono ?_; rintro e w1 ⟨rfl, hB1⟩; have hr : w1.heap[w.heap.size]? = some (.cells #[.int .i64 0, .int .i64 0, .string ⟨#[]⟩, .bool false] 65) := (by first | exact resAt hB1 | exact resAt (k := 0) hB1 | exact resAt2 hB1 | exact resAt2 (k := 0) hB1); have q0 := cell_of_row w1 _ 0 _ 65 (0, 0) hr; have q1 := cell_of_row w1 _ 1 _ 65 (0, 0) hr; have q2 := cell_of_row w1 _ 2 _ 65 (0, 0) hr; have q3 := cell_of_row w1 _ 3 _ 65 (0, 0) hr; have f0 := unfrozen (i := 0) hr; have f1 := unfrozen (i := 1) hr; have f2 := unfrozen (i := 2) hr; have f3 := unfrozen (i := 3) hr; have hb2 : Below w.heap.size w w1 := (by first | exact resBelow hB1 | exact resBelow (k := 0) hB1 | exact resBelow2 hB1 | exact resBelow2 (k := 0) hB1); have HB1 := Lib.hid hb2; clear hB1 hr hb2))
      all_goals (first
    | (refine bodyPost_ret (v := .tuple #[outAgg (.taken 4 n .ip6), .bool true]) ?_ rfl ⟨(.taken 4 n .ip6), ?_, rfl, ?_⟩; (focus (simp [results, Tryz.f68, go_sem, outAgg, q0, q1, q2, q3]; done)); (focus (exact .inr ⟨hs, by rw [hnx]⟩)); (focus (exact (((HB1.out.setCell (Nat.le_refl _) _).setCell (Nat.le_refl _) _).setCell (Nat.le_refl _) _).setCell (Nat.le_refl _) _))))
    · omega
  have hx34525 := hx
  clear hx
  by_cases hx : be f 2 = 25944
  · have hbt : byType (be f 2) = .none := by rw [hx]; rfl
    have hnx : greNext (be f 2) = .eth := by rw [hx]; rfl
    rw [hbt]
    simp only [Nm.str]
    by_cases hs : 4 ≤ n
    · have hs' : ¬ ((n : Int) < 4) := by omega
      go_wp2_with (first | (go_at_call 81; refine (shortAt D q n c f 2 (by omega) hnm _ (by first | exact hB2 _ _ | exact (hB2 _ _).drewN _ | exact ((hB2 _ _).drewN _).drewN _) hf).mono ?_; rintro e w' ⟨rfl, k, rfl⟩; rw [hx]) | (go_at_call 70; refine (left9 _).mono ?_; rintro e w1 ⟨rfl, hB1⟩; have hr : w1.heap[w.heap.size]? = some (.cells #[.int .i64 0, .int .i64 0, .string ⟨#[]⟩, .bool false] 65) := (by first | exact resAt hB1 | exact resAt (k := 0) hB1 | exact resAt2 hB1 | exact resAt2 (k := 0) hB1); have q0 := cell_of_row w1 _ 0 _ 65 (0, 0) hr; have q1 := cell_of_row w1 _ 1 _ 65 (0, 0) hr; have q2 := cell_of_row w1 _ 2 _ 65 (0, 0) hr; have q3 := cell_of_row w1 _ 3 _ 65 (0, 0) hr; have f0 := unfrozen (i := 0) hr; have f1 := unfrozen (i := 1) hr; have f2 := unfrozen (i := 2) hr; have f3 := unfrozen (i := 3) hr; have hb2 : Below w.heap.size w w1 := (by first | exact resBelow hB1 | exact resBelow (k := 0) hB1 | exact resBelow2 hB1 | exact resBelow2 (k := 0) hB1); have HB1 := Lib.hid hb2; clear hB1 hr hb2) | (go_at_call 66; refine (taken 4 n .eth _).mono ?_; rintro e w1 ⟨rfl, hB1⟩; have hr : w1.heap[w.heap.size]? = some (.cells #[.int .i64 0, .int .i64 0, .string ⟨#[]⟩, .bool false] 65) := (by first | exact resAt hB1 | exact resAt (k := 0) hB1 | exact resAt2 hB1 | exact resAt2 (k := 0) hB1); have q0 := cell_of_row w1 _ 0 _ 65 (0, 0) hr; have q1 := cell_of_row w1 _ 1 _ 65 (0, 0) hr; have q2 := cell_of_row w1 _ 2 _ 65 (0, 0) hr; have q3 := cell_of_row w1 _ 3 _ 65 (0, 0) hr; have f0 := unfrozen (i := 0) hr; have f1 := unfrozen (i := 1) hr; have f2 := unfrozen (i := 2) hr; have f3 := unfrozen (i := 3) hr; have hb2 : Below w.heap.size w w1 := (by first | exact resBelow hB1 | exact resBelow (k := 0) hB1 | exact resBelow2 hB1 | exact resBelow2 (k := 0) hB1); have HB1 := Lib.hid hb2; clear hB1 hr hb2))
      all_goals (first
    | (refine bodyPost_ret (v := .tuple #[outAgg (.taken 4 n .eth), .bool true]) ?_ rfl ⟨(.taken 4 n .eth), ?_, rfl, ?_⟩; (focus (simp [results, Tryz.f68, go_sem, outAgg, q0, q1, q2, q3]; done)); (focus (exact .inr ⟨hs, by rw [hnx]⟩)); (focus (exact (((HB1.out.setCell (Nat.le_refl _) _).setCell (Nat.le_refl _) _).setCell (Nat.le_refl _) _).setCell (Nat.le_refl _) _))))
    · omega
  have hx25944 := hx
  clear hx
  have hbt : byType (be f 2) = .none := by simp [byType, hx2048, hx2054, hx33024, hx34525]
  have hnx : greNext (be f 2) = .none := by simp [greNext, hx2048, hx34525, hx25944]
  have g5 : (((be f 2 : Nat) : Int) == 25944) = false := by simp; omega
  have hx : be f 2 = be f 2 := rfl
  rw [hbt]
  simp only [Nm.str]
  by_cases hs : 4 ≤ n
  · have hs' : ¬ ((n : Int) < 4) := by omega
    go_wp2_with (first | (go_at_call 81; refine (shortAt D q n c f 2 (by omega) hnm _ (by first | exact hB2 _ _ | exact (hB2 _ _).drewN _ | exact ((hB2 _ _).drewN _).drewN _) hf).mono ?_; rintro e w' ⟨rfl, k, rfl⟩; rw [hx]) | (go_at_call 70; refine (left9 _).mono ?_; rintro e w1 ⟨rfl, hB1⟩; have hr : w1.heap[w.heap.size]? = some (.cells #[.int .i64 0, .int .i64 0, .string ⟨#[]⟩, .bool false] 65) := (by first | exact resAt hB1 | exact resAt (k := 0) hB1 | exact resAt2 hB1 | exact resAt2 (k := 0) hB1); have q0 := cell_of_row w1 _ 0 _ 65 (0, 0) hr; have q1 := cell_of_row w1 _ 1 _ 65 (0, 0) hr; have q2 := cell_of_row w1 _ 2 _ 65 (0, 0) hr; have q3 := cell_of_row w1 _ 3 _ 65 (0, 0) hr; have f0 := unfrozen (i := 0) hr; have f1 := unfrozen (i := 1) hr; have f2 := unfrozen (i := 2) hr; have f3 := unfrozen (i := 3) hr; have hb2 : Below w.heap.size w w1 := (by first | exact resBelow hB1 | exact resBelow (k := 0) hB1 | exact resBelow2 hB1 | exact resBelow2 (k := 0) hB1); have HB1 := Lib.hid hb2; clear hB1 hr hb2) | (go_at_call 66; refine (taken 4 n .none _).mono ?_; rintro e w1 ⟨rfl, hB1⟩; have hr : w1.heap[w.heap.size]? = some (.cells #[.int .i64 0, .int .i64 0, .string ⟨#[]⟩, .bool false] 65) := (by first | exact resAt hB1 | exact resAt (k := 0) hB1 | exact resAt2 hB1 | exact resAt2 (k := 0) hB1); have q0 := cell_of_row w1 _ 0 _ 65 (0, 0) hr; have q1 := cell_of_row w1 _ 1 _ 65 (0, 0) hr; have q2 := cell_of_row w1 _ 2 _ 65 (0, 0) hr; have q3 := cell_of_row w1 _ 3 _ 65 (0, 0) hr; have f0 := unfrozen (i := 0) hr; have f1 := unfrozen (i := 1) hr; have f2 := unfrozen (i := 2) hr; have f3 := unfrozen (i := 3) hr; have hb2 : Below w.heap.size w w1 := (by first | exact resBelow hB1 | exact resBelow (k := 0) hB1 | exact resBelow2 hB1 | exact resBelow2 (k := 0) hB1); have HB1 := Lib.hid hb2; clear hB1 hr hb2))
    all_goals (first
    | (refine bodyPost_ret (v := .tuple #[outAgg (.taken 4 n .none), .bool true]) ?_ rfl ⟨(.taken 4 n .none), ?_, rfl, ?_⟩; (focus (simp [results, Tryz.f68, go_sem, outAgg, q0, q1, q2, q3]; done)); (focus (exact .inr ⟨hs, by rw [hnx]⟩)); (focus (exact (((HB1.out.setCell (Nat.le_refl _) _).setCell (Nat.le_refl _) _).setCell (Nat.le_refl _) _).setCell (Nat.le_refl _) _))))
  · omega
set_option maxRecDepth 100000 in
set_option maxHeartbeats 4000000 in
theorem gre001 (D q n c : Nat) (f : Nat → Nat) (w : World) (hB : Byt w D q f n) (hf : IsB f) (hnm : n ≤ maxLen) (h4 : 4 ≤ n) (hA : (bits .and .u8 (f 0 : Nat) 79 != 0) = false) (h1 : f 1 = 0) (hM1 : (bits .and .u8 (f 0 : Nat) 128 != 0) = false) (hM2 : (bits .and .u8 (f 0 : Nat) 32 != 0) = false) (hM3 : (bits .and .u8 (f 0 : Nat) 16 != 0) = true) :
    Calls Tryz.prog 68 #[.slice (some ⟨D, q, none⟩) n c] w fun e w' => ∃ o, (o = .left ∨ (8 ≤ n ∧ o = .taken 8 n (greNext (be f 2)))) ∧ e = .returned (.tuple #[outAgg o, .bool (outOk o)]) ∧ Below w.heap.size w w' := by
  have hB' : ∀ o, Byt (w.alloc o) D q f n := fun o i hi => byt_past hB i hi o
  have hnm' := hnm
  unfold maxLen at hnm'
  have hD := hB.lt (by omega)
  have b0 := hf 0
  have c0 := byt_past0 hB (by omega)
  have c1 := byt_past hB 1 (by omega)
  rw [h1] at c1
  have c0' : ∀ o o2, ((w.alloc o).alloc o2).cell? ⟨D, q, none⟩ = some (.int .u8 (f 0 : Nat)) := fun o o2 => (World.cell?_alloc_past o2 _ _ (by simp; omega)).trans (c0 o)
  have hB2 : ∀ o o2, Byt ((w.alloc o).alloc o2) D q f n := fun o o2 i hi => (World.cell?_alloc_past o2 _ _ (by simp; omega)).trans (hB' o i hi)
  go_enter Tryz.func68, Tryz.ntmps68
  go_wp2_with fail
  refine wp_loop_rounds 4 ?_
  rw [rounds_succ]
  go_wp2_with fail
  rw [rounds_succ]
  go_wp2_with fail
  rw [rounds_succ]
  go_wp2_with fail
  rw [rounds_succ]
  go_wp2_with fail
  refine (shortAt D q n c f 2 (by omega) hnm _ (by first | exact hB2 _ _ | exact (hB2 _ _).drewN _) hf).mono ?_
  rintro e w' ⟨rfl, k, rfl⟩
  go_wp2_with fail
  refine (byType_ _ _).mono ?_
  rintro e w' ⟨rfl, rfl⟩
  by_cases hx : be f 2 = 2048
  · have hbt : byType (be f 2) = .ip4 := by rw [hx]; rfl
    have hnx : greNext (be f 2) = .ip4 := by rw [hx]; rfl
    rw [hbt]
    simp only [Nm.str]
    by_cases hs : 8 ≤ n
    · have hs' : ¬ ((n : Int) < 8) := by omega
      go_wp2_with (first | (go_at_call 81; refine (shortAt D q n c f 2 (by omega) hnm _ (by first | exact hB2 _ _ | exact (hB2 _ _).drewN _ | exact ((hB2 _ _).drewN _).drewN _) hf).mono ?_; rintro e w' ⟨rfl, k, rfl⟩; rw [hx]) | (go_at_call 70; refine (left9 _).mono ?_; rintro e w1 ⟨rfl, hB1⟩; have hr : w1.heap[w.heap.size]? = some (.cells #[.int .i64 0, .int .i64 0, .string ⟨#[]⟩, .bool false] 65) := (by first | exact resAt hB1 | exact resAt (k := 0) hB1 | exact resAt2 hB1 | exact resAt2 (k := 0) hB1); have q0 := cell_of_row w1 _ 0 _ 65 (0, 0) hr; have q1 := cell_of_row w1 _ 1 _ 65 (0, 0) hr; have q2 := cell_of_row w1 _ 2 _ 65 (0, 0) hr; have q3 := cell_of_row w1 _ 3 _ 65 (0, 0) hr; have f0 := unfrozen (i := 0) hr; have f1 := unfrozen (i := 1) hr; have f2 := unfrozen (i := 2) hr; have f3 := unfrozen (i := 3) hr; have hb2 : Below w.heap.size w w1 := (by first | exact resBelow hB1 | exact resBelow (k := 0) hB1 | exact resBelow2 hB1 | exact resBelow2 (k := 0) hB1); have HB1 := Lib.hid hb2; clear hB1 hr hb2) | (go_at_call 66; refine (taken 8 n .ip4 _).mono ?_; rintro e w1 ⟨rfl, hB1⟩; have hr : w1.heap[w.heap.size]? = some (.cells #[.int .i64 0, .int .i64 0, .string ⟨#[]⟩, .bool false] 65) := (by first | exact resAt hB1 | exact resAt (k := 0) hB1 | exact resAt2 hB1 | exact resAt2 (k := 0) hB1); have q0 := cell_of_row w1 _ 0 _ 65 (0, 0) hr; have q1 := cell_of_row w1 _ 1 _ 65 (0, 0) hr; have q2 := cell_of_row w1 _ 2 _ 65 (0, 0) hr; have q3 := cell_of_row w1 _ 3 _ 65 (0, 0) hr; have f0 := unfrozen (i := 0) hr; have f1 := unfrozen (i := 1) hr; have f2 := unfrozen (i := 2) hr; have f3 := unfrozen (i := 3) hr; have hb2 : Below w.heap.size w w1 := (by first | exact resBelow hB1 | exact resBelow (k := 0) hB1 | exact resBelow2 hB1 | exact resBelow2 (k := 0) hB1); have HB1 := Lib.hid hb2; clear hB1 hr hb2))
      all_goals (first
    | (refine bodyPost_ret (v := .tuple #[outAgg (.taken 8 n .ip4), .bool true]) ?_ rfl ⟨(.taken 8 n .ip4), ?_, rfl, ?_⟩; (focus (simp [results, Tryz.f68, go_sem, outAgg, q0, q1, q2, q3]; done)); (focus (exact .inr ⟨hs, by rw [hnx]⟩)); (focus (exact (((HB1.out.setCell (Nat.le_refl _) _).setCell (Nat.le_refl _) _).setCell (Nat.le_refl _) _).setCell (Nat.le_refl _) _))))
    · have hs' : (n : Int) < 8 := by omega
      go_wp2_with (first | (go_at_call 81; refine (shortAt D q n c f 2 (by omega) hnm _ (by first | exact hB2 _ _ | exact (hB2 _ _).drewN _ | exact ((hB2 _ _).drewN _).drewN _) hf).mono ?_; rintro e w' ⟨rfl, k, rfl⟩; rw [hx]) | (go_at_call 70; refine (left9 _).mono ?_; rintro e w1 ⟨rfl, hB1⟩; have hr : w1.heap[w.heap.size]? = some (.cells #[.int .i64 0, .int .i64 0, .string ⟨#[]⟩, .bool false] 65) := (by first | exact resAt hB1 | exact resAt (k := 0) hB1 | exact resAt2 hB1 | exact resAt2 (k := 0) hB1); have q0 := cell_of_row w1 _ 0 _ 65 (0, 0) hr; have q1 := cell_of_row w1 _ 1 _ 65 (0, 0) hr; have q2 := cell_of_row w1 _ 2 _ 65 (0, 0) hr; have q3 := cell_of_row w1 _ 3 _ 65 (0, 0) hr; have f0 := unfrozen (i := 0) hr; have f1 := unfrozen (i := 1) hr; have f2 := unfrozen (i := 2) hr; have f3 := unfrozen (i := 3) hr; have hb2 : Below w.heap.size w w1 := (by first | exact resBelow hB1 | exact resBelow (k := 0) hB1 | exact resBelow2 hB1 | exact resBelow2 (k := 0) hB1); have HB1 := Lib.hid hb2; clear hB1 hr hb2) | (go_at_call 66; refine (taken 8 n .ip4 _).mono ?_; rintro e w1 ⟨rfl, hB1⟩; have hr : w1.heap[w.heap.size]? = some (.cells #[.int .i64 0, .int .i64 0, .string ⟨#[]⟩, .bool false] 65) := (by first | exact resAt hB1 | exact resAt (k := 0) hB1 | exact resAt2 hB1 | exact resAt2 (k := 0) hB1); have q0 := cell_of_row w1 _ 0 _ 65 (0, 0) hr; have q1 := cell_of_row w1 _ 1 _ 65 (0, 0) hr; have q2 := cell_of_row w1 _ 2 _ 65 (0, 0) hr; have q3 := cell_of_row w1 _ 3 _ 65 (0, 0) hr; have f0 := unfrozen (i := 0) hr; have f1 := unfrozen (i := 1) hr; have f2 := unfrozen (i := 2) hr; have f3 := unfrozen (i := 3) hr; have hb2 : Below w.heap.size w w1 := (by first | exact resBelow hB1 | exact resBelow (k := 0) hB1 | exact resBelow2 hB1 | exact resBelow2 (k := 0) hB1); have HB1 := Lib.hid hb2; clear hB1 hr hb2))
      all_goals (first
    | (refine bodyPost_ret (v := .tuple #[outAgg .left, .bool false]) ?_ rfl ⟨.left, ?_, rfl, ?_⟩; (focus (simp [results, Tryz.f68, go_sem, outAgg, q0, q1, q2, q3]; done)); (focus (exact .inl rfl)); (focus (exact (((HB1.out.setCell (Nat.le_refl _) _).setCell (Nat.le_refl _) _).setCell (Nat.le_refl _) _).setCell (Nat.le_refl _) _))))
  have hx2048 := hx
  clear hx
  by_cases hx : be f 2 = 2054
  · have hbt : byType (be f 2) = .arp := by rw [hx]; rfl
    have hnx : greNext (be f 2) = .none := by rw [hx]; rfl
    rw [hbt]
    simp only [Nm.str]
    by_cases hs : 8 ≤ n
    · have hs' : ¬ ((n : Int) < 8) := by omega
      go_wp2_with (first | (go_at_call 81; refine (shortAt D q n c f 2 (by omega) hnm _ (by first | exact hB2 _ _ | exact (hB2 _ _).drewN _ | exact ((hB2 _ _).drewN _).drewN _) hf).mono ?_; rintro e w' ⟨rfl, k, rfl⟩; rw [hx]) | (go_at_call 70; refine (left9 _).mono ?_; rintro e w1 ⟨rfl, hB1⟩; have hr : w1.heap[w.heap.size]? = some (.cells #[.int .i64 0, .int .i64 0, .string ⟨#[]⟩, .bool false] 65) := (by first | exact resAt hB1 | exact resAt (k := 0) hB1 | exact resAt2 hB1 | exact resAt2 (k := 0) hB1); have q0 := cell_of_row w1 _ 0 _ 65 (0, 0) hr; have q1 := cell_of_row w1 _ 1 _ 65 (0, 0) hr; have q2 := cell_of_row w1 _ 2 _ 65 (0, 0) hr; have q3 := cell_of_row w1 _ 3 _ 65 (0, 0) hr; have f0 := unfrozen (i := 0) hr; have f1 := unfrozen (i := 1) hr; have f2 := unfrozen (i := 2) hr; have f3 := unfrozen (i := 3) hr; have hb2 : Below w.heap.size w w1 := (by first | exact resBelow hB1 | exact resBelow (k := 0) hB1 | exact resBelow2 hB1 | exact resBelow2 (k := 0) hB1); have HB1 := Lib.hid hb2; clear hB1 hr hb2) | (go_at_call 66; refine (taken 8 n .none _).mono ?_; rintro e w1 ⟨rfl, hB1⟩; have hr : w1.heap[w.heap.size]? = some (.cells #[.int .i64 0, .int .i64 0, .string ⟨#[]⟩, .bool false] 65) := (by first | exact resAt hB1 | exact resAt (k := 0) hB1 | exact resAt2 hB1 | exact resAt2 (k := 0) hB1); have q0 := cell_of_row w1 _ 0 _ 65 (0, 0) hr; have q1 := cell_of_row w1 _ 1 _ 65 (0, 0) hr; have q2 := cell_of_row w1 _ 2 _ 65 (0, 0) hr; have q3 := cell_of_row w1 _ 3 _ 65 (0, 0) hr; have f0 := unfrozen (i := 0) hr; have f1 := unfrozen (i := 1) hr; have f2 := unfrozen (i := 2) hr; have f3 := unfrozen (i := 3) hr; have hb2 : Below w.heap.size w w1 := (by first | exact resBelow hB1 | exact resBelow (k := 0) hB1 | exact resBelow2 hB1 | exact resBelow2 (k := 0) hB1); have HB1 := Lib.hid hb2; clear hB1 hr hb2))
      all_goals (first
    | (refine bodyPost_ret (v := .tuple #[outAgg (.taken 8 n .none), .bool true]) ?_ rfl ⟨(.taken 8 n .none), ?_, rfl, ?_⟩; (focus (simp [results, Tryz.f68, go_sem, outAgg, q0, q1, q2, q3]; done)); (focus (exact .inr ⟨hs, by rw [hnx]⟩)); (focus (exact (((HB1.out.setCell (Nat.le_refl _) _).setCell (Nat.le_refl _) _).setCell (Nat.le_refl _) _).setCell (Nat.le_refl _) _))))
    · have hs' : (n : Int) < 8 := by omega
      go_wp2_with (first | (go_at_call 81; refine (shortAt D q n c f 2 (by omega) hnm _ (by first | exact hB2 _ _ | exact (hB2 _ _).drewN _ | exact ((hB2 _ _).drewN _).drewN _) hf).mono ?_; rintro e w' ⟨rfl, k, rfl⟩; rw [hx]) | (go_at_call 70; refine (left9 _).mono ?_; rintro e w1 ⟨rfl, hB1⟩; have hr : w1.heap[w.heap.size]? = some (.cells #[.int .i64 0, .int .i64 0, .string ⟨#[]⟩, .bool false] 65) := (by first | exact resAt hB1 | exact resAt (k := 0) hB1 | exact resAt2 hB1 | exact resAt2 (k := 0) hB1); have q0 := cell_of_row w1 _ 0 _ 65 (0, 0) hr; have q1 := cell_of_row w1 _ 1 _ 65 (0, 0) hr; have q2 := cell_of_row w1 _ 2 _ 65 (0, 0) hr; have q3 := cell_of_row w1 _ 3 _ 65 (0, 0) hr; have f0 := unfrozen (i := 0) hr; have f1 := unfrozen (i := 1) hr; have f2 := unfrozen (i := 2) hr; have f3 := unfrozen (i := 3) hr; have hb2 : Below w.heap.size w w1 := (by first | exact resBelow hB1 | exact resBelow (k := 0) hB1 | exact resBelow2 hB1 | exact resBelow2 (k := 0) hB1); have HB1 := Lib.hid hb2; clear hB1 hr hb2) | (go_at_call 66; refine (taken 8 n .none _).mono ?_; rintro e w1 ⟨rfl, hB1⟩; have hr : w1.heap[w.heap.size]? = some (.cells #[.int .i64 0, .int .i64 0, .string ⟨#[]⟩, .bool false] 65) := (by first | exact resAt hB1 | exact resAt (k := 0) hB1 | exact resAt2 hB1 | exact resAt2 (k := 0) hB1); have q0 := cell_of_row w1 _ 0 _ 65 (0, 0) hr; have q1 := cell_of_row w1 _ 1 _ 65 (0, 0) hr; have q2 := cell_of_row w1 _ 2 _ 65 (0, 0) hr; have q3 := cell_of_row w1 _ 3 _ 65 (0, 0) hr; have f0 := unfrozen (i := 0) hr; have f1 := unfrozen (i := 1) hr; have f2 := unfrozen (i := 2) hr; have f3 := unfrozen (i := 3) hr; have hb2 : Below w.heap.size w w1 := (by first | exact resBelow hB1 | exact resBelow (k := 0) hB1 | exact resBelow2 hB1 | exact resBelow2 (k := 0) hB1); have HB1 := Lib.hid hb2; clear hB1 hr hb2))
      all_goals (first
    | (refine bodyPost_ret (v := .tuple #[outAgg .left, .bool false]) ?_ rfl ⟨.left, ?_, rfl, ?_⟩; (focus (simp [results, Tryz.f68, go_sem, outAgg, q0, q1, q2, q3]; done)); (focus (exact .inl rfl)); (focus (exact (((HB1.out.setCell (Nat.le_refl _) _).setCell (Nat.le_refl _) _).setCell (Nat.le_refl _) _).setCell (Nat.le_refl _) _))))
  have hx2054 := hx
  clear hx
  by_cases hx : be f 2 = 33024
  · have hbt : byType (be f 2) = .vlan := by rw [hx]; rfl
    have hnx : greNext (be f 2) = .none := by rw [hx]; rfl
    rw [hbt]
    simp only [Nm.str]
    by_cases hs : 8 ≤ n
    · have hs' : ¬ ((n : Int) < 8) := by omega
      go_wp2_with (first | (go_at_call 81; refine (shortAt D q n c f 2 (by omega) hnm _ (by first | exact hB2 _ _ | exact (hB2 _ _).drewN _ | exact ((hB2 _ _).drewN _).drewN _) hf).mono ?_; rintro e w' ⟨rfl, k, rfl⟩; rw [hx]) | (go_at_call 70; refine (left9 _).mono ?_; rintro e w1 ⟨rfl, hB1⟩; have hr : w1.heap[w.heap.size]? = some (.cells #[.int .i64 0, .int .i64 0, .string ⟨#[]⟩, .bool false] 65) := (by first | exact resAt hB1 | exact resAt (k := 0) hB1 | exact resAt2 hB1 | exact resAt2 (k := 0) hB1); have q0 := cell_of_row w1 _ 0 _ 65 (0, 0) hr; have q1 := cell_of_row w1 _ 1 _ 65 (0, 0) hr; have q2 := cell_of_row w1 _ 2 _ 65 (0, 0) hr; have q3 := cell_of_row w1 _ 3 _ 65 (0, 0) hr; have f0 := unfrozen (i := 0) hr; have f1 := unfrozen (i := 1) hr; have f2 := unfrozen (i := 2) hr; have f3 := unfrozen (i := 3) hr; have hb2 : Below w.heap.size w w1 := (by first | exact resBelow hB1 | exact resBelow (k := 0) hB1 | exact resBelow2 hB1 | exact resBelow2 (k := 0) hB1); have HB1 := Lib.hid hb2; clear hB1 hr hb2) | (go_at_call 66; refine (taken 8 n .none _).mono ?_; rintro e w1 ⟨rfl, hB1⟩; have hr : w1.heap[w.heap.size]? = some (.cells #[.int .i64 0, .int .i64 0, .string ⟨#[]⟩, .bool false] 65) := (by first | exact resAt hB1 | exact resAt (k := 0) hB1 | exact resAt2 hB1 | exact resAt2 (k := 0) hB1); have q0 := cell_of_row w1 _ 0 _ 65 (0, 0) hr; have q1 := cell_of_row w1 _ 1 _ 65 (0, 0) hr; have q2 := cell_of_row w1 _ 2 _ 65 (0, 0) hr; have q3 := cell_of_row w1 _ 3 _ 65 (0, 0) hr; have f0 := unfrozen (i := 0) hr; have f1 := unfrozen (i := 1) hr; have f2 := unfrozen (i := 2) hr; have f3 := unfrozen (i := 3) hr; have hb2 : Below w.heap.size w w1 := (by first | exact resBelow hB1 | exact resBelow (k := 0) hB1 | exact resBelow2 hB1 | exact resBelow2 (k := 0) hB1); have HB1 := Lib.hid hb2; clear hB1 hr hb2))
      all_goals (first
    | (refine bodyPost_ret (v := .tuple #[outAgg (.taken 8 n .none), .bool true]) ?_ rfl ⟨(.taken 8 n .none), ?_, rfl, ?_⟩; (focus (simp [results, Tryz.f68, go_sem, outAgg, q0, q1, q2, q3]; done)); (focus (exact .inr ⟨hs, by rw [hnx]⟩)); (focus (exact (((HB1.out.setCell (Nat.le_refl _) _).setCell (Nat.le_refl _) _).setCell (Nat.le_refl _) _).setCell (Nat.le_refl _) _))))
    · have hs' : (n : Int) < 8 := by omega
      go_wp2_with (first | (go_at_call 81; refine (shortAt D q n c f 2 (by omega) hnm _ (by first | exact hB2 _ _ | exact (hB2 _ _).drewN _ | exact ((hB2 _ _).drewN _).drewN _) hf).mono ?_; rintro e w' ⟨rfl, k, rfl⟩; rw [hx]) | (go_at_call 70; refine (left9 _).mono ?_; rintro e w1 ⟨rfl, hB1⟩; have hr : w1.heap[w.heap.size]? = some (.cells #[.int .i64 0, .int .i64 0, .string ⟨#[]⟩, .bool false] 65) := (by first | exact resAt hB1 | exact resAt (k := 0) hB1 | exact resAt2 hB1 | exact resAt2 (k := 0) hB1); have q0 := cell_of_row w1 _ 0 _ 65 (0, 0) hr; have q1 := cell_of_row w1 _ 1 _ 65 (0, 0) hr; have q2 := cell_of_row w1 _ 2 _ 65 (0, 0) hr; have q3 := cell_of_row w1 _ 3 _ 65 (0, 0) hr; have f0 := unfrozen (i := 0) hr; have f1 := unfrozen (i := 1) hr; have f2 := unfrozen (i := 2) hr; have f3 := unfrozen (i := 3) hr; have hb2 : Below w.heap.size w w1 := (by first | exact resBelow hB1 | exact resBelow (k := 0) hB1 | exact resBelow2 hB1 | exact resBelow2 (k := 0) hB1); have HB1 := Lib.hid hb2; clear hB1 hr hb2) | (go_at_call 66; refine (taken 8 n .none _).mono ?_; rintro e w1 ⟨rfl, hB1⟩; have hr : w1.heap[w.heap.size]? = some (.cells #[.int .i64 0, .int .i64 0, .string ⟨#[]⟩, .bool false] 65) := (by first | exact resAt hB1 | exact resAt (k := 0) hB1 | exact resAt2 hB1 | exact resAt2 (k := 0) hB1); have q0 := cell_of_row w1 _ 0 _ 65 (0, 0) hr; have q1 := cell_of_row w1 _ 1 _ 65 (0, 0) hr; have q2 := cell_of_row w1 _ 2 _ 65 (0, 0) hr; have q3 := cell_of_row w1 _ 3 _ 65 (0, 0) hr; have f0 := unfrozen (i := 0) hr; have f1 := unfrozen (i := 1) hr; have f2 := unfrozen (i := 2) hr; have f3 := unfrozen (i := 3) hr; have hb2 : Below w.heap.size w w1 := (by first | exact resBelow hB1 | exact resBelow (k := 0) hB1 | exact resBelow2 hB1 | exact resBelow2 (k := 0) hB1); have HB1 := Lib.hid hb2; clear hB1 hr hb2))
      all_goals (first
    | (refine bodyPost_ret (v := .tuple #[outAgg .left, .bool false]) ?_ rfl ⟨.left, ?_, rfl, ?_⟩; (focus (simp [results, Tryz.f68, go_sem, outAgg, q0, q1, q2, q3]; done)); (focus (exact .inl rfl)); (focus (exact (((HB1.out.setCell (Nat.le_refl _) _).setCell (Nat.le_refl _) _).setCell (Nat.le_refl _) _).setCell (Nat.le_refl _) _))))
  have hx33024 := hx
  clear hx
  by_cases hx : be f 2 = 34525
  · have hbt : byType (be f 2) = .ip6 := by rw [hx]; rfl
    have hnx : greNext (be f 2) = .ip6 := by rw [hx]; rfl
    rw [hbt]
    simp only [Nm.str]
    by_cases hs : 8 ≤ n
    · have hs' : ¬ ((n : Int) < 8) := by omega
      go_wp2_with (first | (go_at_call 81; refine (shortAt D q n c f 2 (by omega) hnm _ (by first | exact hB2 _ _ | exact (hB2 _ _).drewN _ | exact ((hB2 _ _).drewN _).drewN _) hf).mono ?_; rintro e w' ⟨rfl, k, rfl⟩; rw [hx]) | (go_at_call 70; refine (left9 _).mono ?_; rintro e w1 ⟨rfl, hB1⟩; have hr : w1.heap[w.heap.size]? = some (.cells #[.int .i64 0, .int .i64 0, .string ⟨#[]⟩, .bool false] 65) := (by first | exact resAt hB1 | exact resAt (k := 0) hB1 | exact resAt2 hB1 | exact resAt2 (k := 0) hB1); have q0 := cell_of_row w1 _ 0 _ 65 (0, 0) hr; have q1 := cell_of_row w1 _ 1 _ 65 (0, 0) hr; have q2 := cell_of_row w1 _ 2 _ 65 (0, 0) hr; have q3 := cell_of_row w1 _ 3 _ 65 (0, 0) hr; have f0 := unfrozen (i := 0) hr; have f1 := unfrozen (i := 1) hr; have f2 := unfrozen (i := 2) hr; have f3 := unfrozen (i := 3) hr; have hb2 : Below w.heap.size w w1 := (by first | exact resBelow hB1 | exact resBelow (k := 0) hB1 | exact resBelow2 hB1 | exact resBelow2 (k := 0) hB1); have HB1 := Lib.hid hb2; clear hB1 hr hb2) | (go_at_call 66; refine (taken 8 n .ip6 _).mono ?_; rintro e w1 ⟨rfl, hB1⟩; have hr : w1.heap[w.heap.size]? = some (.cells #[.int .i64 0, .int .i64 0, .string ⟨#[]⟩, .bool false] 65) := (by first | exact resAt hB1 | exact resAt (k := 0) hB1 | exact resAt2 hB1 | exact resAt2 (k := 0) hB1); have q0 := cell_of_row w1 _ 0 _ 65 (0, 0) hr; have q1 := cell_of_row w1 _ 1 _ 65 (0, 0) hr; have q2 := cell_of_row w1 _ 2 _ 65 (0, 0) hr; have q3 := cell_of_row w1 _ 3 _ 65 (0, 0) hr; have f0 := unfrozen (i := 0) hr; have f1 := unfrozen (i := 1) hr; have f2 := unfrozen (i := 2) hr; have f3 := unfrozen (i := 3) hr; have hb2 : Below w.heap.size w w1 := (by first | exact resBelow hB1 | exact resBelow (k := 0) hB1 | exact resBelow2 hB1 | exact resBelow2 (k := 0) hB1); have HB1 := Lib.hid hb2; clear hB1 hr hb2))
      all_goals (first
    | (refine bodyPost_ret (v := .tuple #[outAgg (.taken 8 n .ip6), .bool true]) ?_ rfl ⟨(.taken 8 n .ip6), ?_, rfl, ?_⟩; (focus (simp [results, Tryz.f68, go_sem, outAgg, q0, q1, q2, q3]; done)); (focus (exact .inr ⟨hs, by rw [hnx]⟩)); (focus (exact (((HB1.out.setCell (Nat.le_refl _) _).setCell (Nat.le_refl _) _).setCell (Nat.le_refl _) _).setCell (Nat.le_refl _) _))))
    · have hs' : (n : Int) < 8 := by omega
      go_wp2_with (first | (go_at_call 81; refine (shortAt D q n c f 2 (by omega) hnm _ (by first | exact hB2 _ _ | exact (hB2 _ _).drewN _ | exact ((hB2 _ _).drewN _).drewN _) hf).mono ?_; rintro e w' ⟨rfl, k, rfl⟩; rw [hx]) | (go_at_call 70; refine (left9 _).mono ?_; rintro e w1 ⟨rfl, hB1⟩; have hr : w1.heap[w.heap.size]? = some (.cells #[.int .i64 0, .int .i64 0, .string ⟨#[]⟩, .bool false] 65) := (by first | exact resAt hB1 | exact resAt (k := 0) hB1 | exact resAt2 hB1 | exact resAt2 (k := 0) hB1); have q0 := cell_of_row w1 _ 0 _ 65 (0, 0) hr; have q1 := cell_of_row w1 _ 1 _ 65 (0, 0) hr; have q2 := cell_of_row w1 _ 2 _ 65 (0, 0) hr; have q3 := cell_of_row w1 _ 3 _ 65 (0, 0) hr; have f0 := unfrozen (i := 0) hr; have f1 := unfrozen (i := 1) hr; have f2 := unfrozen (i := 2) hr; have f3 := unfrozen (i := 3) hr; have hb2 : Below w.heap.size w w1 := (by first | exact resBelow hB1 | exact resBelow (k := 0) hB1 | exact resBelow2 hB1 | exact resBelow2 (k := 0) hB1); have HB1 := Lib.hid hb2; clear hB1 hr hb2) | (go_at_call 66; refine (taken 8 n .ip6 _).mono ?_; rintro e w1 ⟨rfl, hB1⟩; have hr : w1.heap[w.heap.size]? = some (.cells #[.int .i64 0, .int .i64 0, .string ⟨#[]⟩, .bool false] 65) := (by first | exact resAt hB1 | exact resAt (k := 0) hB1 | exact resAt2 hB1 | exact resAt2 (k := 0) hB1); have q0 := cell_of_row w1 _ 0 _ 65 (0, 0) hr; have q1 := cell_of_row w1 _ 1 _ 65 (0, 0) hr; have q2 := cell_of_row w1 _ 2 _ 65 (0, 0) hr; have q3 := cell_of_row w1 _ 3 _ 65 (0, 0) hr; have f0 := unfrozen (i := 0) hr; have f1 := unfrozen (i := 1) hr; have f2 := unfrozen (i := 2) hr; have f3 := unfrozen (i := 3) hr; have hb2 : Below w.heap.size w w1 := (by first | exact resBelow hB1 | exact resBelow (k := 0) hB1 | exact resBelow2 hB1 | exact resBelow2 (k := 0) hB1); have HB1 := Lib.hid hb2; clear hB1 hr hb2))
      all_goals (first
    | (refine bodyPost_ret (v := .tuple #[outAgg .left, .bool false]) ?_ rfl ⟨.left, ?_, rfl, ?_⟩; (focus (simp [results, Tryz.f68, go_sem, outAgg, q0, q1, q2, q3]; done)); (focus (exact .inl rfl)); (focus (exact (((HB1.out.setCell (Nat.le_refl _) _).setCell (Nat.le_refl _) _).setCell (Nat.le_refl _) _).setCell (Nat.le_refl _) _))))
  have hx34525 := hx
  clear hx
  by_cases hx : be f 2 = 25944
  · have hbt : byType (be f 2) = .none := by rw [hx]; rfl
    have hnx : greNext (be f 2) = .eth := by rw [hx]; rfl
    rw [hbt]
    simp only [Nm.str]
    by_cases hs : 8 ≤ n
    · have hs' : ¬ ((n : Int) < 8) := by omega
      go_wp2_with (first | (go_at_call 81; refine (shortAt D q n c f 2 (by omega) hnm _ (by first | exact hB2 _ _ | exact (hB2 _ _).drewN _ | exact ((hB2 _ _).drewN _).drewN _) hf).mono ?_; rintro e w' ⟨rfl, k, rfl⟩; rw [hx]) | (go_at_call 70; refine (left9 _).mono ?_; rintro e w1 ⟨rfl, hB1⟩; have hr : w1.heap[w.heap.size]? = some (.cells #[.int .i64 0, .int .i64 0, .string ⟨#[]⟩, .bool false] 65) := (by first | exact resAt hB1 | exact resAt (k := 0) hB1 | exact resAt2 hB1 | exact resAt2 (k := 0) hB1); have q0 := cell_of_row w1 _ 0 _ 65 (0, 0) hr; have q1 := cell_of_row w1 _ 1 _ 65 (0, 0) hr; have q2 := cell_of_row w1 _ 2 _ 65 (0, 0) hr; have q3 := cell_of_row w1 _ 3 _ 65 (0, 0) hr; have f0 := unfrozen (i := 0) hr; have f1 := unfrozen (i := 1) hr; have f2 := unfrozen (i := 2) hr; have f3 := unfrozen (i := 3) hr; have hb2 : Below w.heap.size w w1 := (by first | exact resBelow hB1 | exact resBelow (k := 0) hB1 | exact resBelow2 hB1 | exact resBelow2 (k := 0) hB1); have HB1 := Lib.hid hb2; clear hB1 hr hb2) | (go_at_call 66; refine (taken 8 n .eth _).mono ?_; rintro e w1 ⟨rfl, hB1⟩; have hr : w1.heap[w.heap.size]? = some (.cells #[.int .i64 0, .int .i64 0, .string ⟨#[]⟩, .bool false] 65) := (by first | exact resAt hB1 | exact resAt (k := 0) hB1 | exact resAt2 hB1 | exact resAt2 (k := 0) hB1); have q0 := cell_of_row w1 _ 0 _ 65 (0, 0) hr; have q1 := cell_of_row w1 _ 1 _ 65 (0, 0) hr; have q2 := cell_of_row w1 _ 2 _ 65 (0, 0) hr; have q3 := cell_of_row w1 _ 3 _ 65 (0, 0) hr; have f0 := unfrozen (i := 0) hr; have f1 := unfrozen (i := 1) hr; have f2 := unfrozen (i := 2) hr; have f3 := unfrozen (i := 3) hr; have hb2 : Below w.heap.size w w1 := (by first | exact resBelow hB1 | exact resBelow (k := 0) hB1 | exact resBelow2 hB1 | exact resBelow2 (k := 0) hB1); have HB1 := Lib.hid hb2; clear hB1 hr hb2))
      all_goals (first
    | (refine bodyPost_ret (v := .tuple #[outAgg (.taken 8 n .eth), .bool true]) ?_ rfl ⟨(.taken 8 n .eth), ?_, rfl, ?_⟩; (focus (simp [results, Tryz.f68, go_sem, outAgg, q0, q1, q2, q3]; done)); (focus (exact .inr ⟨hs, by rw [hnx]⟩)); (focus (exact (((HB1.out.setCell (Nat.le_refl _) _).setCell (Nat.le_refl _) _).setCell (Nat.le_refl _) _).setCell (Nat.le_refl _) _))))
    · have hs' : (n : Int) < 8 := by omega
      go_wp2_with (first | (go_at_call 81; refine (shortAt D q n c f 2 (by omega) hnm _ (by first | exact hB2 _ _ | exact (hB2 _ _).drewN _ | exact ((hB2 _ _).drewN _).drewN _) hf).mono ?_; rintro e w' ⟨rfl, k, rfl⟩; rw [hx]) | (go_at_call 70; refine (left9 _).mono ?_; rintro e w1 ⟨rfl, hB1⟩; have hr : w1.heap[w.heap.size]? = some (.cells #[.int .i64 0, .int .i64 0, .string ⟨#[]⟩, .bool false] 65) := (by first | exact resAt hB1 | exact resAt (k := 0) hB1 | exact resAt2 hB1 | exact resAt2 (k := 0) hB1); have q0 := cell_of_row w1 _ 0 _ 65 (0, 0) hr; have q1 := cell_of_row w1 _ 1 _ 65 (0, 0) hr; have q2 := cell_of_row w1 _ 2 _ 65 (0, 0) hr; have q3 := cell_of_row w1 _ 3 _ 65 (0, 0) hr; have f0 := unfrozen (i := 0) hr; have f1 := unfrozen (i := 1) hr; have f2 := unfrozen (i := 2) hr; have f3 := unfrozen (i := 3) hr; have hb2 : Below w.heap.size w w1 := (by first | exact resBelow hB1 | exact resBelow (k := 0) hB1 | exact resBelow2 hB1 | exact resBelow2 (k := 0) hB1); have HB1 := Lib.hid hb2; clear hB1 hr hb2) | (go_at_call 66; refine (taken 8 n .eth _).mono ?_; rintro e w1 ⟨rfl, hB1⟩; have hr : w1.heap[w.heap.size]? = some (.cells #[.int .i64 0, .int .i64 0, .string ⟨#[]⟩, .bool false] 65) := (by first | exact resAt hB1 | exact resAt (k := 0) hB1 | exact resAt2 hB1 | exact resAt2 (k := 0) hB1); have q0 := cell_of_row w1 _ 0 _ 65 (0, 0) hr; have q1 := cell_of_row w1 _ 1 _ 65 (0, 0) hr; have q2 := cell_of_row w1 _ 2 _ 65 (0, 0) hr; have q3 := cell_of_row w1 _ 3 _ 65 (0, 0) hr; have f0 := unfrozen (i := 0) hr; have f1 := unfrozen (i := 1) hr; have f2 := unfrozen (i := 2) hr; have f3 := unfrozen (i := 3) hr; have hb2 : Below w.heap.size w w1 := (by first | exact resBelow hB1 | exact resBelow (k := 0) hB1 | exact resBelow2 hB1 | exact resBelow2 (k := 0) hB1); have HB1 := Lib.hid hb2; clear hB1 hr hb2))
      all_goals (first
    | (refine bodyPost_ret (v := .tuple #[outAgg .left, .bool false]) ?_ rfl ⟨.left, ?_, rfl, ?_⟩; (focus (simp [results, Tryz.f68, go_sem, outAgg, q0, q1, q2, q3]; done)); (focus (exact .inl rfl)); (focus (exact (((HB1.out.setCell (Nat.le_refl _) _).setCell (Nat.le_refl _) _).setCell (Nat.le_refl _) _).setCell (Nat.le_refl _) _))))
  have hx25944 := hx
  clear hx
  have hbt : byType (be f 2) = .none := by simp [byType, hx2048, hx2054, hx33024, hx34525]
  have hnx : greNext (be f 2) = .none := by simp [greNext, hx2048, hx34525, hx25944]
  have g5 : (((be f 2 : Nat) : Int) == 25944) = false := by simp; omega
  have hx : be f 2 = be f 2 := rfl
  rw [hbt]
  simp only [Nm.str]
  by_cases hs : 8 ≤ n
  · have hs' : ¬ ((n : Int) < 8) := by omega
    go_wp2_with (first | (go_at_call 81; refine (shortAt D q n c f 2 (by omega) hnm _ (by first | exact hB2 _ _ | exact (hB2 _ _).drewN _ | exact ((hB2 _ _).drewN _).drewN _) hf).mono ?_; rintro e w' ⟨rfl, k, rfl⟩; rw [hx]) | (go_at_call 70; refine (left9 _).mono ?_; rintro e w1 ⟨rfl, hB1⟩; have hr : w1.heap[w.heap.size]? = some (.cells #[.int .i64 0, .int .i64 0, .string ⟨#[]⟩, .bool false] 65) := (by first | exact resAt hB1 | exact resAt (k := 0) hB1 | exact resAt2 hB1 | exact resAt2 (k := 0) hB1); have q0 := cell_of_row w1 _ 0 _ 65 (0, 0) hr; have q1 := cell_of_row w1 _ 1 _ 65 (0, 0) hr; have q2 := cell_of_row w1 _ 2 _ 65 (0, 0) hr; have q3 := cell_of_row w1 _ 3 _ 65 (0, 0) hr; have f0 := unfrozen (i := 0) hr; have f1 := unfrozen (i := 1) hr; have f2 := unfrozen (i := 2) hr; have f3 := unfrozen (i := 3) hr; have hb2 : Below w.heap.size w w1 := (by first | exact resBelow hB1 | exact resBelow (k := 0) hB1 | exact resBelow2 hB1 | exact resBelow2 (k := 0) hB1); have HB1 := Lib.hid hb2; clear hB1 hr hb2) | (go_at_call 66; refine (taken 8 n .none _).mono ?_; rintro e w1 ⟨rfl, hB1⟩; have hr : w1.heap[w.heap.size]? = some (.cells #[.int .i64 0, .int .i64 0, .string ⟨#[]⟩, .bool false] 65) := (by first | exact resAt hB1 | exact resAt (k := 0) hB1 | exact resAt2 hB1 | exact resAt2 (k := 0) hB1); have q0 := cell_of_row w1 _ 0 _ 65 (0, 0) hr; have q1 := cell_of_row w1 _ 1 _ 65 (0, 0) hr; have q2 := cell_of_row w1 _ 2 _ 65 (0, 0) hr; have q3 := cell_of_row w1 _ 3 _ 65 (0, 0) hr; have f0 := unfrozen (i := 0) hr; have f1 := unfrozen (i := 1) hr; have f2 := unfrozen (i := 2) hr; have f3 := unfrozen (i := 3) hr; have hb2 : Below w.heap.size w w1 := (by first | exact resBelow hB1 | exact resBelow (k := 0) hB1 | exact resBelow2 hB1 | exact resBelow2 (k := 0) hB1); have HB1 := Lib.hid hb2; clear hB1 hr hb2))
    all_goals (first
    | (refine bodyPost_ret (v := .tuple #[outAgg (.taken 8 n .none), .bool true]) ?_ rfl ⟨(.taken 8 n .none), ?_, rfl, ?_⟩; (focus (simp [results, Tryz.f68, go_sem, outAgg, q0, q1, q2, q3]; done)); (focus (exact .inr ⟨hs, by rw [hnx]⟩)); (focus (exact (((HB1.out.setCell (Nat.le_refl _) _).setCell (Nat.le_refl _) _).setCell (Nat.le_refl _) _).setCell (Nat.le_refl _) _))))
  · have hs' : (n : Int) < 8 := by omega
    go_wp2_with (first | (go_at_call 81; refine (shortAt D q n c f 2 (by omega) hnm _ (by first | exact hB2 _ _ | exact (hB2 _ _).drewN _ | exact ((hB2 _ _).drewN _).drewN _) hf).mono ?_; rintro e w' ⟨rfl, k, rfl⟩; rw [hx]) | (go_at_call 70; refine (left9 _).mono ?_; rintro e w1 ⟨rfl, hB1⟩; have hr : w1.heap[w.heap.size]? = some (.cells #[.int .i64 0, .int .i64 0, .string ⟨#[]⟩, .bool false] 65) := (by first | exact resAt hB1 | exact resAt (k := 0) hB1 | exact resAt2 hB1 | exact resAt2 (k := 0) hB1); have q0 := cell_of_row w1 _ 0 _ 65 (0, 0) hr; have q1 := cell_of_row w1 _ 1 _ 65 (0, 0) hr; have q2 := cell_of_row w1 _ 2 _ 65 (0, 0) hr; have q3 := cell_of_row w1 _ 3 _ 65 (0, 0) hr; have f0 := unfrozen (i := 0) hr; have f1 := unfrozen (i := 1) hr; have f2 := unfrozen (i := 2) hr; have f3 := unfrozen (i := 3) hr; have hb2 : Below w.heap.size w w1 := (by first | exact resBelow hB1 | exact resBelow (k := 0) hB1 | exact resBelow2 hB1 | exact resBelow2 (k := 0) hB1); have HB1 := Lib.hid hb2; clear hB1 hr hb2) | (go_at_call 66; refine (taken 8 n .none _).mono ?_; rintro e w1 ⟨rfl, hB1⟩; have hr : w1.heap[w.heap.size]? = some (.cells #[.int .i64 0, .int .i64 0, .string ⟨#[]⟩, .bool false] 65) := (by first | exact resAt hB1 | exact resAt (k := 0) hB1 | exact resAt2 hB1 | exact resAt2 (k := 0) hB1); have q0 := cell_of_row w1 _ 0 _ 65 (0, 0) hr; have q1 := cell_of_row w1 _ 1 _ 65 (0, 0) hr; have q2 := cell_of_row w1 _ 2 _ 65 (0, 0) hr; have q3 := cell_of_row w1 _ 3 _ 65 (0, 0) hr; have f0 := unfrozen (i := 0) hr; have f1 := unfrozen (i := 1) hr; have f2 := unfrozen (i := 2) hr; have f3 := unfrozen (i := 3) hr; have hb2 : Below w.heap.size w w1 := (by first | exact resBelow hB1 | exact resBelow (k := 0) hB1 | exact resBelow2 hB1 | exact resBelow2 (k := 0) hB1); have HB1 := Lib.hid hb2; clear hB1 hr hb2))
    all_goals (first
    | (refine bodyPost_ret (v := .tuple #[outAgg .left, .bool false]) ?_ rfl ⟨.left, ?_, rfl, ?_⟩; (focus (simp [results, Tryz.f68, go_sem, outAgg, q0, q1, q2, q3]; done)); (focus (exact .inl rfl)); (focus (exact (((HB1.out.setCell (Nat.le_refl _) _).setCell (Nat.le_refl _) _).setCell (Nat.le_refl _) _).setCell (Nat.le_refl _) _))))
end Go.Proofs.YtecgkcofmphaiaaGreatDoor.Gpk
