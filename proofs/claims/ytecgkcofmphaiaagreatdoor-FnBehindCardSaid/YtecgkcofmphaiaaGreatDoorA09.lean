/- The decoder of routing encapsulation, with a checksum.
   The decoder of routing encapsulation, in all its cases.
   Routing encapsulation, with what follows it.
   The decoder of datagrams.
   Datagrams, with what follows them. -/
import Derived.Test.YtecgkcofmphaiaaGreatDoorA00
import Derived.Test.YtecgkcofmphaiaaGreatDoorA08
import Derived.Test.YtecgkcofmphaiaaGreatDoorA07
set_option linter.unusedVariables false
set_option linter.unusedSimpArgs false
set_option linter.unnecessarySimpa false
set_option linter.unusedSectionVars false
namespace Go.Proofs.YtecgkcofmphaiaaGreatDoor.Gpk
open Go.RowKit
set_option maxRecDepth 100000 in
set_option maxHeartbeats 4000000 in
theorem greD100 (D q n c : Nat) (f : Nat → Nat) (df : Value) (z0 z1 z2 z3 z4 z5 z6 z7 z8 z9 z10 z11 z12 z13 z14 z15 z16 z17 : Value) (w : World) (hB : Byt w D q f n) (hf : IsB f) (hc : n ≤ c) (hm : c ≤ maxLen) (hn : 8 ≤ n) (hC : (bits .and .u8 (f 0 : Nat) 128 != 0) = true) (hR : (bits .and .u8 (f 0 : Nat) 64 != 0) = false) (hK : (bits .and .u8 (f 0 : Nat) 32 != 0) = false) (hS : (bits .and .u8 (f 0 : Nat) 16 != 0) = false) (hA : (bits .and .u8 (f 1 : Nat) 128 != 0) = false) :
    Calls Tryz.prog 229 #[.pointer (some ⟨w.heap.size, 0, none⟩), .slice (some ⟨D, q, none⟩) n c, df] (w.alloc (.cells #[z0, z1, z2, z3, z4, z5, z6, z7, z8, z9, z10, z11, z12, z13, z14, z15, z16, z17] 176)) fun e w' =>
      e = .returned .nilIface ∧ Laid w w' 176 (Hdr1 D q 8 (n - 8) 18 11 (.int .u16 (f 2 * 256 + f 3 : Nat))) := by
  have hm' := hm
  unfold maxLen at hm'
  have hD := hB.lt (by omega)
  have b0 := hf 0
  have c0 := byt_past0 hB  (by omega)
  have b1 := hf 1
  have c1 := byt_past hB 1 (by omega)
  have b2 := hf 2
  have c2 := byt_past hB 2 (by omega)
  have b3 := hf 3
  have c3 := byt_past hB 3 (by omega)
  have b4 := hf 4
  have c4 := byt_past hB 4 (by omega)
  have b5 := hf 5
  have c5 := byt_past hB 5 (by omega)
  have b6 := hf 6
  have c6 := byt_past hB 6 (by omega)
  have b7 := hf 7
  have c7 := byt_past hB 7 (by omega)
  go_enter Tryz.func229, Tryz.ntmps229
  go_wp2_with fail
  refine (be16 _ _ _ (f 2) (f 3) _ b2 b3 (by first | exact c2 _ | (simp only [World.cell?_drewN]; exact c2 _)) (by first | exact c3 _ | (simp only [World.cell?_drewN]; exact c3 _))).mono ?_; rintro e w' ⟨rfl, k, rfl⟩
  go_wp2_with fail
  refine (be16 _ _ _ (f 4) (f 5) _ b4 b5 (by first | exact c4 _ | (simp only [World.cell?_drewN]; exact c4 _)) (by first | exact c5 _ | (simp only [World.cell?_drewN]; exact c5 _))).mono ?_; rintro e w' ⟨rfl, k, rfl⟩
  go_wp2_with fail
  refine (be16 _ _ _ (f 6) (f 7) _ b6 b7 (by first | exact c6 _ | (simp only [World.cell?_drewN]; exact c6 _)) (by first | exact c7 _ | (simp only [World.cell?_drewN]; exact c7 _))).mono ?_; rintro e w' ⟨rfl, k, rfl⟩
  go_wp2_with fail
  go_region
  go_wp2
  all_goals (go_ret; exact ⟨rfl, Laid.mk _ _ _ _ _ ⟨⟨rfl, ⟨_, rfl, _, _, rfl, by omega, by omega, fun h => by first | rfl | omega | (rw [if_neg (by omega)])⟩, ⟨_, rfl, _, _, rfl, by omega, by omega, fun h => by first | rfl | omega | (rw [if_neg (by omega)])⟩⟩, rfl⟩⟩)
set_option maxRecDepth 100000 in
set_option maxHeartbeats 4000000 in
theorem greD101 (D q n c : Nat) (f : Nat → Nat) (df : Value) (z0 z1 z2 z3 z4 z5 z6 z7 z8 z9 z10 z11 z12 z13 z14 z15 z16 z17 : Value) (w : World) (hB : Byt w D q f n) (hf : IsB f) (hc : n ≤ c) (hm : c ≤ maxLen) (hn : 12 ≤ n) (hC : (bits .and .u8 (f 0 : Nat) 128 != 0) = true) (hR : (bits .and .u8 (f 0 : Nat) 64 != 0) = false) (hK : (bits .and .u8 (f 0 : Nat) 32 != 0) = false) (hS : (bits .and .u8 (f 0 : Nat) 16 != 0) = true) (hA : (bits .and .u8 (f 1 : Nat) 128 != 0) = false) :
    Calls Tryz.prog 229 #[.pointer (some ⟨w.heap.size, 0, none⟩), .slice (some ⟨D, q, none⟩) n c, df] (w.alloc (.cells #[z0, z1, z2, z3, z4, z5, z6, z7, z8, z9, z10, z11, z12, z13, z14, z15, z16, z17] 176)) fun e w' =>
      e = .returned .nilIface ∧ Laid w w' 176 (Hdr1 D q 12 (n - 12) 18 11 (.int .u16 (f 2 * 256 + f 3 : Nat))) := by
  have hm' := hm
  unfold maxLen at hm'
  have hD := hB.lt (by omega)
  have b0 := hf 0
  have c0 := byt_past0 hB  (by omega)
  have b1 := hf 1
  have c1 := byt_past hB 1 (by omega)
  have b2 := hf 2
  have c2 := byt_past hB 2 (by omega)
  have b3 := hf 3
  have c3 := byt_past hB 3 (by omega)
  have b4 := hf 4
  have c4 := byt_past hB 4 (by omega)
  have b5 := hf 5
  have c5 := byt_past hB 5 (by omega)
  have b6 := hf 6
  have c6 := byt_past hB 6 (by omega)
  have b7 := hf 7
  have c7 := byt_past hB 7 (by omega)
  have b8 := hf 8
  have c8 := byt_past hB 8 (by omega)
  have b9 := hf 9
  have c9 := byt_past hB 9 (by omega)
  have b10 := hf 10
  have c10 := byt_past hB 10 (by omega)
  have b11 := hf 11
  have c11 := byt_past hB 11 (by omega)
  go_enter Tryz.func229, Tryz.ntmps229
  go_wp2_with fail
  refine (be16 _ _ _ (f 2) (f 3) _ b2 b3 (by first | exact c2 _ | (simp only [World.cell?_drewN]; exact c2 _)) (by first | exact c3 _ | (simp only [World.cell?_drewN]; exact c3 _))).mono ?_; rintro e w' ⟨rfl, k, rfl⟩
  go_wp2_with fail
  refine (be16 _ _ _ (f 4) (f 5) _ b4 b5 (by first | exact c4 _ | (simp only [World.cell?_drewN]; exact c4 _)) (by first | exact c5 _ | (simp only [World.cell?_drewN]; exact c5 _))).mono ?_; rintro e w' ⟨rfl, k, rfl⟩
  go_wp2_with fail
  refine (be16 _ _ _ (f 6) (f 7) _ b6 b7 (by first | exact c6 _ | (simp only [World.cell?_drewN]; exact c6 _)) (by first | exact c7 _ | (simp only [World.cell?_drewN]; exact c7 _))).mono ?_; rintro e w' ⟨rfl, k, rfl⟩
  go_wp2_with fail
  refine (be32 _ _ _ _ (f 8) (f 9) (f 10) (f 11) b8 b9 b10 b11 (by first | exact c8 _ | (simp only [World.cell?_drewN]; exact c8 _)) (by first | exact c9 _ | (simp only [World.cell?_drewN]; exact c9 _)) (by first | exact c10 _ | (simp only [World.cell?_drewN]; exact c10 _)) (by first | exact c11 _ | (simp only [World.cell?_drewN]; exact c11 _))).mono ?_; rintro e w' ⟨⟨v, rfl⟩, k, rfl⟩
  go_wp2_with fail
  go_region
  go_wp2
  all_goals (go_ret; exact ⟨rfl, Laid.mk _ _ _ _ _ ⟨⟨rfl, ⟨_, rfl, _, _, rfl, by omega, by omega, fun h => by first | rfl | omega | (rw [if_neg (by omega)])⟩, ⟨_, rfl, _, _, rfl, by omega, by omega, fun h => by first | rfl | omega | (rw [if_neg (by omega)])⟩⟩, rfl⟩⟩)
set_option maxRecDepth 100000 in
set_option maxHeartbeats 4000000 in
theorem greD110 (D q n c : Nat) (f : Nat → Nat) (df : Value) (z0 z1 z2 z3 z4 z5 z6 z7 z8 z9 z10 z11 z12 z13 z14 z15 z16 z17 : Value) (w : World) (hB : Byt w D q f n) (hf : IsB f) (hc : n ≤ c) (hm : c ≤ maxLen) (hn : 12 ≤ n) (hC : (bits .and .u8 (f 0 : Nat) 128 != 0) = true) (hR : (bits .and .u8 (f 0 : Nat) 64 != 0) = false) (hK : (bits .and .u8 (f 0 : Nat) 32 != 0) = true) (hS : (bits .and .u8 (f 0 : Nat) 16 != 0) = false) (hA : (bits .and .u8 (f 1 : Nat) 128 != 0) = false) :
    Calls Tryz.prog 229 #[.pointer (some ⟨w.heap.size, 0, none⟩), .slice (some ⟨D, q, none⟩) n c, df] (w.alloc (.cells #[z0, z1, z2, z3, z4, z5, z6, z7, z8, z9, z10, z11, z12, z13, z14, z15, z16, z17] 176)) fun e w' =>
      e = .returned .nilIface ∧ Laid w w' 176 (Hdr1 D q 12 (n - 12) 18 11 (.int .u16 (f 2 * 256 + f 3 : Nat))) := by
  have hm' := hm
  unfold maxLen at hm'
  have hD := hB.lt (by omega)
  have b0 := hf 0
  have c0 := byt_past0 hB  (by omega)
  have b1 := hf 1
  have c1 := byt_past hB 1 (by omega)
  have b2 := hf 2
  have c2 := byt_past hB 2 (by omega)
  have b3 := hf 3
  have c3 := byt_past hB 3 (by omega)
  have b4 := hf 4
  have c4 := byt_past hB 4 (by omega)
  have b5 := hf 5
  have c5 := byt_past hB 5 (by omega)
  have b6 := hf 6
  have c6 := byt_past hB 6 (by omega)
  have b7 := hf 7
  have c7 := byt_past hB 7 (by omega)
  have b8 := hf 8
  have c8 := byt_past hB 8 (by omega)
  have b9 := hf 9
  have c9 := byt_past hB 9 (by omega)
  have b10 := hf 10
  have c10 := byt_past hB 10 (by omega)
  have b11 := hf 11
  have c11 := byt_past hB 11 (by omega)
  go_enter Tryz.func229, Tryz.ntmps229
  go_wp2_with fail
  refine (be16 _ _ _ (f 2) (f 3) _ b2 b3 (by first | exact c2 _ | (simp only [World.cell?_drewN]; exact c2 _)) (by first | exact c3 _ | (simp only [World.cell?_drewN]; exact c3 _))).mono ?_; rintro e w' ⟨rfl, k, rfl⟩
  go_wp2_with fail
  refine (be16 _ _ _ (f 4) (f 5) _ b4 b5 (by first | exact c4 _ | (simp only [World.cell?_drewN]; exact c4 _)) (by first | exact c5 _ | (simp only [World.cell?_drewN]; exact c5 _))).mono ?_; rintro e w' ⟨rfl, k, rfl⟩
  go_wp2_with fail
  refine (be16 _ _ _ (f 6) (f 7) _ b6 b7 (by first | exact c6 _ | (simp only [World.cell?_drewN]; exact c6 _)) (by first | exact c7 _ | (simp only [World.cell?_drewN]; exact c7 _))).mono ?_; rintro e w' ⟨rfl, k, rfl⟩
  go_wp2_with fail
  refine (be32 _ _ _ _ (f 8) (f 9) (f 10) (f 11) b8 b9 b10 b11 (by first | exact c8 _ | (simp only [World.cell?_drewN]; exact c8 _)) (by first | exact c9 _ | (simp only [World.cell?_drewN]; exact c9 _)) (by first | exact c10 _ | (simp only [World.cell?_drewN]; exact c10 _)) (by first | exact c11 _ | (simp only [World.cell?_drewN]; exact c11 _))).mono ?_; rintro e w' ⟨⟨v, rfl⟩, k, rfl⟩
  go_wp2_with fail
  go_region
  go_wp2
  all_goals (go_ret; exact ⟨rfl, Laid.mk _ _ _ _ _ ⟨⟨rfl, ⟨_, rfl, _, _, rfl, by omega, by omega, fun h => by first | rfl | omega | (rw [if_neg (by omega)])⟩, ⟨_, rfl, _, _, rfl, by omega, by omega, fun h => by first | rfl | omega | (rw [if_neg (by omega)])⟩⟩, rfl⟩⟩)
set_option maxRecDepth 100000 in
set_option maxHeartbeats 4000000 in
theorem greD111 (D q n c : Nat) (f : Nat → Nat) (df : Value) (z0 z1 z2 z3 z4 z5 z6 z7 z8 z9 z10 z11 z12 z13 z14 z15 z16 z17 : Value) (w : World) (hB : Byt w D q f n) (hf : IsB f) (hc : n ≤ c) (hm : c ≤ maxLen) (hn : 16 ≤ n) (hC : (bits .and .u8 (f 0 : Nat) 128 != 0) = true) (hR : (bits .and .u8 (f 0 : Nat) 64 != 0) = false) (hK : (bits .and .u8 (f 0 : Nat) 32 != 0) = true) (hS : (bits .and .u8 (f 0 : Nat) 16 != 0) = true) (hA : (bits .and .u8 (f 1 : Nat) 128 != 0) = false) :
    Calls Tryz.prog 229 #[.pointer (some ⟨w.heap.size, 0, none⟩), .slice (some ⟨D, q, none⟩) n c, df] (w.alloc (.cells #[z0, z1, z2, z3, z4, z5, z6, z7, z8, z9, z10, z11, z12, z13, z14, z15, z16, z17] 176)) fun e w' =>
      e = .returned .nilIface ∧ Laid w w' 176 (Hdr1 D q 16 (n - 16) 18 11 (.int .u16 (f 2 * 256 + f 3 : Nat))) := by
  have hm' := hm
  unfold maxLen at hm'
  have hD := hB.lt (by omega)
  have b0 := hf 0
  have c0 := byt_past0 hB  (by omega)
  have b1 := hf 1
  have c1 := byt_past hB 1 (by omega)
  have b2 := hf 2
  have c2 := byt_past hB 2 (by omega)
  have b3 := hf 3
  have c3 := byt_past hB 3 (by omega)
  have b4 := hf 4
  have c4 := byt_past hB 4 (by omega)
  have b5 := hf 5
  have c5 := byt_past hB 5 (by omega)
  have b6 := hf 6
  have c6 := byt_past hB 6 (by omega)
  have b7 := hf 7
  have c7 := byt_past hB 7 (by omega)
  have b8 := hf 8
  have c8 := byt_past hB 8 (by omega)
  have b9 := hf 9
  have c9 := byt_past hB 9 (by omega)
  have b10 := hf 10
  have c10 := byt_past hB 10 (by omega)
  have b11 := hf 11
  have c11 := byt_past hB 11 (by omega)
  have b12 := hf 12
  have c12 := byt_past hB 12 (by omega)
  have b13 := hf 13
  have c13 := byt_past hB 13 (by omega)
  have b14 := hf 14
  have c14 := byt_past hB 14 (by omega)
  have b15 := hf 15
  have c15 := byt_past hB 15 (by omega)
  go_enter Tryz.func229, Tryz.ntmps229
  go_wp2_with fail
  refine (be16 _ _ _ (f 2) (f 3) _ b2 b3 (by first | exact c2 _ | (simp only [World.cell?_drewN]; exact c2 _)) (by first | exact c3 _ | (simp only [World.cell?_drewN]; exact c3 _))).mono ?_; rintro e w' ⟨rfl, k, rfl⟩
  go_wp2_with fail
  refine (be16 _ _ _ (f 4) (f 5) _ b4 b5 (by first | exact c4 _ | (simp only [World.cell?_drewN]; exact c4 _)) (by first | exact c5 _ | (simp only [World.cell?_drewN]; exact c5 _))).mono ?_; rintro e w' ⟨rfl, k, rfl⟩
  go_wp2_with fail
  refine (be16 _ _ _ (f 6) (f 7) _ b6 b7 (by first | exact c6 _ | (simp only [World.cell?_drewN]; exact c6 _)) (by first | exact c7 _ | (simp only [World.cell?_drewN]; exact c7 _))).mono ?_; rintro e w' ⟨rfl, k, rfl⟩
  go_wp2_with fail
  refine (be32 _ _ _ _ (f 8) (f 9) (f 10) (f 11) b8 b9 b10 b11 (by first | exact c8 _ | (simp only [World.cell?_drewN]; exact c8 _)) (by first | exact c9 _ | (simp only [World.cell?_drewN]; exact c9 _)) (by first | exact c10 _ | (simp only [World.cell?_drewN]; exact c10 _)) (by first | exact c11 _ | (simp only [World.cell?_drewN]; exact c11 _))).mono ?_; rintro e w' ⟨⟨v, rfl⟩, k, rfl⟩
  go_wp2_with fail
  refine (be32 _ _ _ _ (f 12) (f 13) (f 14) (f 15) b12 b13 b14 b15 (by first | exact c12 _ | (simp only [World.cell?_drewN]; exact c12 _)) (by first | exact c13 _ | (simp only [World.cell?_drewN]; exact c13 _)) (by first | exact c14 _ | (simp only [World.cell?_drewN]; exact c14 _)) (by first | exact c15 _ | (simp only [World.cell?_drewN]; exact c15 _))).mono ?_; rintro e w' ⟨⟨v, rfl⟩, k, rfl⟩
  go_wp2_with fail
  go_region
  go_wp2
  all_goals (go_ret; exact ⟨rfl, Laid.mk _ _ _ _ _ ⟨⟨rfl, ⟨_, rfl, _, _, rfl, by omega, by omega, fun h => by first | rfl | omega | (rw [if_neg (by omega)])⟩, ⟨_, rfl, _, _, rfl, by omega, by omega, fun h => by first | rfl | omega | (rw [if_neg (by omega)])⟩⟩, rfl⟩⟩)
end Go.Proofs.YtecgkcofmphaiaaGreatDoor.Gpk
namespace Go.Proofs.YtecgkcofmphaiaaGreatDoor.Gpk
open Go.RowKit
/-- A bit of a byte, as it is asked. -/
theorem bitOf : ∀ x : Fin 256, ((bits .and .u8 ((x : Nat) : Int) 128 != 0) = decide ((x : Nat) / 128 % 2 = 1)) ∧ ((bits .and .u8 ((x : Nat) : Int) 64 != 0) = decide ((x : Nat) / 64 % 2 = 1)) ∧ ((bits .and .u8 ((x : Nat) : Int) 32 != 0) = decide ((x : Nat) / 32 % 2 = 1)) ∧ ((bits .and .u8 ((x : Nat) : Int) 16 != 0) = decide ((x : Nat) / 16 % 2 = 1)) := by
  decide +kernel
theorem greD (D q n c : Nat) (f : Nat → Nat) (df : Value) (z0 z1 z2 z3 z4 z5 z6 z7 z8 z9 z10 z11 z12 z13 z14 z15 z16 z17 : Value) (w : World) (hB : Byt w D q f n) (hf : IsB f) (hc : n ≤ c) (hm : c ≤ maxLen) (hn : greSize (f 0) ≤ n) (h0 : f 0 / 64 % 2 = 0) (h1 : f 1 = 0) :
    Calls Tryz.prog 229 #[.pointer (some ⟨w.heap.size, 0, none⟩), .slice (some ⟨D, q, none⟩) n c, df] (w.alloc (.cells #[z0, z1, z2, z3, z4, z5, z6, z7, z8, z9, z10, z11, z12, z13, z14, z15, z16, z17] 176)) fun e w' =>
      e = .returned .nilIface ∧ Laid w w' 176 (Hdr1 D q (greSize (f 0)) (n - greSize (f 0)) 18 11 (.int .u16 (f 2 * 256 + f 3 : Nat))) := by
  obtain ⟨b1, b2, b3, b4⟩ := bitOf ⟨f 0, hf 0⟩
  obtain ⟨a1, _, _, _⟩ := bitOf ⟨f 1, hf 1⟩
  simp only at b1 b2 b3 b4 a1
  have hR : (bits .and .u8 (f 0 : Nat) 64 != 0) = false := by rw [b2]; simp; omega
  have hA : (bits .and .u8 (f 1 : Nat) 128 != 0) = false := by rw [a1]; simp; omega
  unfold greSize at hn ⊢
  by_cases c1 : f 0 / 128 % 2 = 1 <;> by_cases c2 : f 0 / 32 % 2 = 1 <;> by_cases c3 : f 0 / 16 % 2 = 1 <;> simp only [c1, c2, c3, if_true, if_false, decide_true, decide_false] at b1 b3 b4 hn ⊢
  · exact greD111 D q n c f df z0 z1 z2 z3 z4 z5 z6 z7 z8 z9 z10 z11 z12 z13 z14 z15 z16 z17 w hB hf hc hm (by omega) b1 hR b3 b4 hA
  · exact greD110 D q n c f df z0 z1 z2 z3 z4 z5 z6 z7 z8 z9 z10 z11 z12 z13 z14 z15 z16 z17 w hB hf hc hm (by omega) b1 hR b3 b4 hA
  · exact greD101 D q n c f df z0 z1 z2 z3 z4 z5 z6 z7 z8 z9 z10 z11 z12 z13 z14 z15 z16 z17 w hB hf hc hm (by omega) b1 hR b3 b4 hA
  · exact greD100 D q n c f df z0 z1 z2 z3 z4 z5 z6 z7 z8 z9 z10 z11 z12 z13 z14 z15 z16 z17 w hB hf hc hm (by omega) b1 hR b3 b4 hA
  · exact greD011 D q n c f df z0 z1 z2 z3 z4 z5 z6 z7 z8 z9 z10 z11 z12 z13 z14 z15 z16 z17 w hB hf hc hm (by omega) b1 hR b3 b4 hA
  · exact greD010 D q n c f df z0 z1 z2 z3 z4 z5 z6 z7 z8 z9 z10 z11 z12 z13 z14 z15 z16 z17 w hB hf hc hm (by omega) b1 hR b3 b4 hA
  · exact greD001 D q n c f df z0 z1 z2 z3 z4 z5 z6 z7 z8 z9 z10 z11 z12 z13 z14 z15 z16 z17 w hB hf hc hm (by omega) b1 hR b3 b4 hA
  · exact greD000 D q n c f df z0 z1 z2 z3 z4 z5 z6 z7 z8 z9 z10 z11 z12 z13 z14 z15 z16 z17 w hB hf hc hm (by omega) b1 hR b3 b4 hA
end Go.Proofs.YtecgkcofmphaiaaGreatDoor.Gpk
namespace Go.Proofs.YtecgkcofmphaiaaGreatDoor.Gpk
open Go.RowKit
set_option maxRecDepth 100000 in
set_option maxHeartbeats 2000000 in
theorem decGre {F : Fix} (hF : F.ok) (p n : Nat) (hp : p + n ≤ F.L) (nx : Nm) (ps : List Piece) (t1 : greSize (F.g p) ≤ n) (t2 : F.g p / 64 % 2 = 0) (t3 : F.g (p + 1) = 0) (hx : nx = greNext (be (fun i => F.g (p + i)) 2)) (r : Chain F.g (p + (greSize (F.g p))) nx (n - (greSize (F.g p))) ps)
    (ih : decodable nx = true → 0 < n - (greSize (F.g p)) → DecOK F (fnOf nx) (p + (greSize (F.g p))) (n - (greSize (F.g p))) ps) : DecOK F 90 p n ({ nm := .gre, at_ := p, size := greSize (F.g p), fin := n } :: ps) := by
  intro c w ls hc hm hI hlen
  have hlen' : ls.length + ps.length + 1 ≤ 20 := by simpa [Nat.add_assoc] using hlen
  clear hlen
  have hB := hI.byt hF p n hp
  have hf := hF.sub p
  have HI := Lib.hid hI
  have HR := Lib.hid r
  have HIH := Lib.hid ih
  clear hI r ih
  have HHX := Lib.hid hx
  clear hx
  go_enter Tryz.func90, Tryz.ntmps90
  go_wp2_with (go_at_call 118; go_in)
  refine (greD F.D p n c _ _ _ _ _ _ _ _ _ _ _ _ _ _ _ _ _ _ _ _ w hB hf hc hm t1 t2 t3).mono ?_
  rintro e w1 ⟨rfl, hL⟩
  have HL := Lib.hid hL
  clear hL
  go_wp2_with fail
  refine (addLayer hF (HL.out.inv HI.out) (by omega) { v := .iface 134 (.pointer (some ⟨w.heap.size, 0, none⟩)), nm := .gre, cq := p, cn := greSize (F.g p), pq := p + (greSize (F.g p)), pn := n - (greSize (F.g p)) } (layOK .gre HL.out (fun _ h => h.1) (by omega) (by omega)) 134 _ rfl).mono ?_
  rintro e w2 ⟨rfl, hA⟩
  have HA := Lib.hid hA
  clear hA
  obtain ⟨cs, v1, hcs, hP, hv1, hW⟩ := HL.out.later (fun _ h => h.1) HA.out.2 (by decide) (by decide)
  have cx : w2.cell? ⟨w.heap.size, 11, none⟩ = some (.int .u16 (be (fun i => F.g (p + i)) 2 : Nat)) := (cell_of_row w2 w.heap.size 11 cs 176 (0, 0) hcs).trans hP.2
  clear hP
  have HCS := Lib.hid hcs
  have HV1 := Lib.hid hv1
  clear hcs hv1
  go_wp2_with fail
  refine (greNlt w.heap.size (be (fun i => F.g (p + i)) 2) _ cx).mono ?_
  rintro e w' ⟨v, rfl, rfl, hT⟩
  have HT : Hid (nx = .none ∨ NextIs (.iface 75 (.int .i64 v)) nx) := by rw [HHX.out]; exact hT
  clear hT
  by_cases hv : v = 0
  · subst hv
    go_wp2
    go_ret
    exact ⟨_, rfl, (told0 HA.out.1 HR.out HT.out).cons ⟨rfl, rfl, rfl, rfl, rfl⟩⟩
  · have hv' : (v == 0) = false := by simpa using hv
    clear hv
    go_wp2_with fail
    refine (nextStep0 hF HA.out.1 .gre w.heap.size cs rfl HCS.out v1 HV1.out (p + (greSize (F.g p))) (n - (greSize (F.g p))) hW (by omega) (.iface 75 (.int .i64 v)) nx ps HR.out (told HR.out HT.out) (by omega) HIH.out).mono ?_
    rintro e w' ⟨u, rfl, hD⟩
    have HD := Lib.hid hD
    clear hD
    go_wp2
    go_ret
    exact ⟨_, rfl, HD.out.cons ⟨rfl, rfl, rfl, rfl, rfl⟩⟩
end Go.Proofs.YtecgkcofmphaiaaGreatDoor.Gpk
namespace Go.Proofs.YtecgkcofmphaiaaGreatDoor.Gpk
open Go.RowKit
set_option maxRecDepth 100000 in
set_option maxHeartbeats 4000000 in
theorem udpD (D q n c : Nat) (f : Nat → Nat) (df : Value) (z0 z1 z2 z3 z4 z5 z6 z7 z8 : Value) (w : World) (hB : Byt w D q f n) (hf : IsB f) (hc : n ≤ c) (hm : c ≤ maxLen) (hn : 8 ≤ n) (hl : 8 ≤ f 4 * 256 + f 5) (hk : f 4 * 256 + f 5 ≤ n) :
    Calls Tryz.prog 132 #[.pointer (some ⟨w.heap.size, 0, none⟩), .slice (some ⟨D, q, none⟩) n c, df] (w.alloc (.cells #[z0, z1, z2, z3, z4, z5, z6, z7, z8] 232)) fun e w' =>
      e = .returned .nilIface ∧ Laid w w' 232 (Hdr2 D q 8 (f 4 * 256 + f 5 - 8) 9 2 (.int .u16 (f 0 * 256 + f 1 : Nat)) 3 (.int .u16 (f 2 * 256 + f 3 : Nat))) := by
  have hm' := hm
  unfold maxLen at hm'
  have hD := hB.lt (by omega)
  have b0 := hf 0
  have c0 := byt_past0 hB  (by omega)
  have b1 := hf 1
  have c1 := byt_past hB 1 (by omega)
  have b2 := hf 2
  have c2 := byt_past hB 2 (by omega)
  have b3 := hf 3
  have c3 := byt_past hB 3 (by omega)
  have b4 := hf 4
  have c4 := byt_past hB 4 (by omega)
  have b5 := hf 5
  have c5 := byt_past hB 5 (by omega)
  have b6 := hf 6
  have c6 := byt_past hB 6 (by omega)
  have b7 := hf 7
  have c7 := byt_past hB 7 (by omega)
  go_enter Tryz.func132, Tryz.ntmps132
  go_wp2_with fail
  refine (be16 _ _ _ (f 0) (f 1) _ b0 b1 (by first | exact c0 _ | (simp only [World.cell?_drewN]; exact c0 _)) (by first | exact c1 _ | (simp only [World.cell?_drewN]; exact c1 _))).mono ?_; rintro e w' ⟨rfl, k, rfl⟩
  go_wp2_with fail
  refine (be16 _ _ _ (f 2) (f 3) _ b2 b3 (by first | exact c2 _ | (simp only [World.cell?_drewN]; exact c2 _)) (by first | exact c3 _ | (simp only [World.cell?_drewN]; exact c3 _))).mono ?_; rintro e w' ⟨rfl, k, rfl⟩
  go_wp2_with fail
  refine (be16 _ _ _ (f 4) (f 5) _ b4 b5 (by first | exact c4 _ | (simp only [World.cell?_drewN]; exact c4 _)) (by first | exact c5 _ | (simp only [World.cell?_drewN]; exact c5 _))).mono ?_; rintro e w' ⟨rfl, k, rfl⟩
  go_wp2_with fail
  refine (be16 _ _ _ (f 6) (f 7) _ b6 b7 (by first | exact c6 _ | (simp only [World.cell?_drewN]; exact c6 _)) (by first | exact c7 _ | (simp only [World.cell?_drewN]; exact c7 _))).mono ?_; rintro e w' ⟨rfl, k, rfl⟩
  go_wp2_with fail
  all_goals (go_ret; exact ⟨rfl, Laid.mk _ _ _ _ _ ⟨⟨rfl, ⟨_, rfl, _, _, rfl, by omega, by omega, fun h => by first | rfl | omega | (rw [if_neg (by omega)])⟩, ⟨_, rfl, _, _, rfl, by omega, by omega, fun h => by first | rfl | omega | (rw [if_neg (by omega)])⟩⟩, rfl, rfl⟩⟩)
end Go.Proofs.YtecgkcofmphaiaaGreatDoor.Gpk
namespace Go.Proofs.YtecgkcofmphaiaaGreatDoor.Gpk
open Go.RowKit
set_option maxRecDepth 100000 in
set_option maxHeartbeats 2000000 in
theorem decUdp {F : Fix} (hF : F.ok) (p n : Nat) (hp : p + n ≤ F.L) (nx : Nm) (ps : List Piece) (t1 : 8 ≤ n) (t2 : 8 ≤ F.g (p + 4) * 256 + F.g (p + 5)) (t3 : F.g (p + 4) * 256 + F.g (p + 5) ≤ n) (hx : nx = (if F.g (p + 2) * 256 + F.g (p + 3) = 4789 then .vxlan else freeOf (F.g p * 256 + F.g (p + 1)) (F.g (p + 2) * 256 + F.g (p + 3)))) (r : Chain F.g (p + (8)) nx (F.g (p + 4) * 256 + F.g (p + 5) - (8)) ps)
    (ih : decodable nx = true → 0 < F.g (p + 4) * 256 + F.g (p + 5) - (8) → DecOK F (fnOf nx) (p + (8)) (F.g (p + 4) * 256 + F.g (p + 5) - (8)) ps) : DecOK F 100 p n ({ nm := .udp, at_ := p, size := 8, fin := F.g (p + 4) * 256 + F.g (p + 5) } :: ps) := by
  intro c w ls hc hm hI hlen
  have hlen' : ls.length + ps.length + 1 ≤ 20 := by simpa [Nat.add_assoc] using hlen
  clear hlen
  have hB := hI.byt hF p n hp
  have hf := hF.sub p
  have HI := Lib.hid hI
  have HR := Lib.hid r
  have HIH := Lib.hid ih
  clear hI r ih
  have HHX := Lib.hid hx
  clear hx
  go_enter Tryz.func100, Tryz.ntmps100
  go_wp2_with fail
  refine (udpD F.D p n c _ _ _ _ _ _ _ _ _ _ _ w hB hf hc hm t1 t2 t3).mono ?_
  rintro e w1 ⟨rfl, hL⟩
  have HL := Lib.hid hL
  clear hL
  go_wp2_with fail
  refine (addLayer hF (HL.out.inv HI.out) (by omega) { v := .iface 131 (.pointer (some ⟨w.heap.size, 0, none⟩)), nm := .udp, cq := p, cn := 8, pq := p + (8), pn := F.g (p + 4) * 256 + F.g (p + 5) - (8) } (layOK .udp HL.out (fun _ h => h.1) (by omega) (by omega)) 131 _ rfl).mono ?_
  rintro e w2 ⟨rfl, hA⟩
  have HA := Lib.hid hA
  clear hA
  obtain ⟨cs, v1, hcs, hP, hv1, hW⟩ := HL.out.later (fun _ h => h.1) HA.out.2 (by decide) (by decide)
  have cx : w2.cell? ⟨w.heap.size, 2, none⟩ = some (.int .u16 (F.g p * 256 + F.g (p + 1) : Nat)) := (cell_of_row w2 w.heap.size 2 cs 232 (0, 0) hcs).trans hP.2.1
  have cy : w2.cell? ⟨w.heap.size, 3, none⟩ = some (.int .u16 (F.g (p + 2) * 256 + F.g (p + 3) : Nat)) := (cell_of_row w2 w.heap.size 3 cs 232 (0, 0) hcs).trans hP.2.2
  clear hP
  go_wp2_with fail
  refine (setTransport _ _ _).mono ?_
  rintro e w' ⟨rfl, rfl⟩
  have HQ := Lib.hid (fun (k : Nat) => (udpNext w.heap.size (F.g p * 256 + F.g (p + 1)) (F.g (p + 2) * 256 + F.g (p + 3)) (w2.drewN k) cx cy))
  have HN := Lib.hid (fun (v : Int) (hT : nx = .none ∨ NextIs (.iface 75 (.int .i64 v)) nx) (k : Nat) => nextStep hF HA.out.1 .udp w.heap.size cs rfl hcs v1 hv1 (p + (8)) (F.g (p + 4) * 256 + F.g (p + 5) - (8)) hW (by omega) (.iface 75 (.int .i64 v)) nx ps HR.out (told HR.out hT) (by omega) HIH.out k)
  have HCS := Lib.hid hcs
  have HV1 := Lib.hid hv1
  have HWW := Lib.hid hW
  clear hcs hv1 hW
  have hnil := nilND
  go_wp2_with fail
  go_region_with (first
    | (go_at_call 133; refine (HQ.out _).mono ?_; rintro e w' ⟨v, rfl, rfl, hT⟩; have HT : Hid (nx = .none ∨ NextIs (.iface 75 (.int .i64 v)) nx) := by rw [HHX.out]; exact hT)
    | (go_at_call 186; refine (HN.out _ HT.out _).mono ?_; rintro e w' ⟨u, rfl, hD⟩; have HD := Lib.hid hD; clear hD))
  all_goals
    go_wp2
    go_ret
    exact ⟨_, rfl, HD.out.cons ⟨rfl, rfl, rfl, rfl, rfl⟩⟩
end Go.Proofs.YtecgkcofmphaiaaGreatDoor.Gpk
