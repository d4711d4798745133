/- The decoder of routing encapsulation, without a checksum. -/
import Derived.Test.YtecgkcofmphaiaaGreatDoorA00
namespace Go.Proofs.YtecgkcofmphaiaaGreatDoor.Gpk
open Go.RowKit
set_option maxRecDepth 100000 in
set_option maxHeartbeats 4000000 in
theorem greD000 (D q n c : Nat) (f : Nat → Nat) (df : Value) (z0 z1 z2 z3 z4 z5 z6 z7 z8 z9 z10 z11 z12 z13 z14 z15 z16 z17 : Value) (w : World) (hB : Byt w D q f n) (hf : IsB f) (hc : n ≤ c) (hm : c ≤ maxLen) (hn : 4 ≤ n) (hC : (bits .and .u8 (f 0 : Nat) 128 != 0) = false) (hR : (bits .and .u8 (f 0 : Nat) 64 != 0) = false) (hK : (bits .and .u8 (f 0 : Nat) 32 != 0) = false) (hS : (bits .and .u8 (f 0 : Nat) 16 != 0) = false) (hA : (bits .and .u8 (f 1 : Nat) 128 != 0) = false) :
    Calls Tryz.prog 229 #[.pointer (some ⟨w.heap.size, 0, none⟩), .slice (some ⟨D, q, none⟩) n c, df] (w.alloc (.cells #[z0, z1, z2, z3, z4, z5, z6, z7, z8, z9, z10, z11, z12, z13, z14, z15, z16, z17] 176)) fun e w' =>
      e = .returned .nilIface ∧ Laid w w' 176 (Hdr1 D q 4 (n - 4) 18 11 (.int .u16 (f 2 * 256 + f 3 : Nat))) := by
  have hm' := hm
  unfold maxLen at hm'
  have hD := hB.lt (by omega)
  have b0 := hf 0
  have c0 := byt_past0 hB  (by omega)
  have b1 := hf 1
  have c1 := byt_past hB 1 (by omega)
  have b2 := hf 2
  have c2 := byt_past hB 2 (by omega)
  have b3 := hf 3
  have c3 := byt_past hB 3 (by omega)
  go_enter Tryz.func229, Tryz.ntmps229
  go_wp2_with fail
  refine (be16 _ _ _ (f 2) (f 3) _ b2 b3 (by first | exact c2 _ | (simp only [World.cell?_drewN]; exact c2 _)) (by first | exact c3 _ | (simp only [World.cell?_drewN]; exact c3 _))).mono ?_; rintro e w' ⟨rfl, k, rfl⟩
  go_wp2_with fail
  go_region
  go_wp2
  all_goals (go_ret; exact ⟨rfl, Laid.mk _ _ _ _ _ ⟨⟨rfl, ⟨_, rfl, _, _, rfl, by omega, by omega, fun h => by first | rfl | omega | (rw [if_neg (by omega)])⟩, ⟨_, rfl, _, _, rfl, by omega, by omega, fun h => by first | rfl | omega | (rw [if_neg (by omega)])⟩⟩, rfl⟩⟩)
set_option maxRecDepth 100000 in
set_option maxHeartbeats 4000000 in
theorem greD001 (D q n c : Nat) (f : Nat → Nat) (df : Value) (z0 z1 z2 z3 z4 z5 z6 z7 z8 z9 z10 z11 z12 z13 z14 z15 z16 z17 : Value) (w : World) (hB : Byt w D q f n) (hf : IsB f) (hc : n ≤ c) (hm : c ≤ maxLen) (hn : 8 ≤ n) (hC : (bits .and .u8 (f 0 : Nat) 128 != 0) = false) (hR : (bits .and .u8 (f 0 : Nat) 64 != 0) = false) (hK : (bits .and .u8 (f 0 : Nat) 32 != 0) = false) (hS : (bits .and .u8 (f 0 : Nat) 16 != 0) = true) (hA : (bits .and .u8 (f 1 : Nat) 128 != 0) = false) :
    Calls Tryz.prog 229 #[.pointer (some ⟨w.heap.size, 0, none⟩), .slice (some ⟨D, q, none⟩) n c, df] (w.alloc (.cells #[z0, z1, z2, z3, z4, z5, z6, z7, z8, z9, z10, z11, z12, z13, z14, z15, z16, z17] 176)) fun e w' =>
      e = .returned .nilIface ∧ Laid w w' 176 (Hdr1 D q 8 (n - 8) 18 11 (.int .u16 (f 2 * 256 + f 3 : Nat))) := by
  have hm' := hm
  unfold maxLen at hm'
  have hD := hB.lt (by omega)
  have b0 := hf 0
  have c0 := byt_past0 hB  (by omega)
  have b1 := hf 1
  have c1 := byt_past hB 1 (by omega)
  have b2 := hf 2
  have c2 := byt_past hB 2 (by omega)
  have b3 := hf 3
  have c3 := byt_past hB 3 (by omega)
  have b4 := hf 4
  have c4 := byt_past hB 4 (by omega)
  have b5 := hf 5
  have c5 := byt_past hB 5 (by omega)
  have b6 := hf 6
  have c6 := byt_past hB 6 (by omega)
  have b7 := hf 7
  have c7 := byt_past hB 7 (by omega)
  go_enter Tryz.func229, Tryz.ntmps229
  go_wp2_with fail
  refine (be16 _ _ _ (f 2) (f 3) _ b2 b3 (by first | exact c2 _ | (simp only [World.cell?_drewN]; exact c2 _)) (by first | exact c3 _ | (simp only [World.cell?_drewN]; exact c3 _))).mono ?_; rintro e w' ⟨rfl, k, rfl⟩
  go_wp2_with fail
  refine (be32 _ _ _ _ (f 4) (f 5) (f 6) (f 7) b4 b5 b6 b7 (by first | exact c4 _ | (simp only [World.cell?_drewN]; exact c4 _)) (by first | exact c5 _ | (simp only [World.cell?_drewN]; exact c5 _)) (by first | exact c6 _ | (simp only [World.cell?_drewN]; exact c6 _)) (by first | exact c7 _ | (simp only [World.cell?_drewN]; exact c7 _))).mono ?_; rintro e w' ⟨⟨v, rfl⟩, k, rfl⟩
  go_wp2_with fail
  go_region
  go_wp2
  all_goals (go_ret; exact ⟨rfl, Laid.mk _ _ _ _ _ ⟨⟨rfl, ⟨_, rfl, _, _, rfl, by omega, by omega, fun h => by first | rfl | omega | (rw [if_neg (by omega)])⟩, ⟨_, rfl, _, _, rfl, by omega, by omega, fun h => by first | rfl | omega | (rw [if_neg (by omega)])⟩⟩, rfl⟩⟩)
set_option maxRecDepth 100000 in
set_option maxHeartbeats 4000000 in
theorem greD010 (D q n c : Nat) (f : Nat → Nat) (df : Value) (z0 z1 z2 z3 z4 z5 z6 z7 z8 z9 z10 z11 z12 z13 z14 z15 z16 z17 : Value) (w : World) (hB : Byt w D q f n) (hf : IsB f) (hc : n ≤ c) (hm : c ≤ maxLen) (hn : 8 ≤ n) (hC : (bits .and .u8 (f 0 : Nat) 128 != 0) = false) (hR : (bits .and .u8 (f 0 : Nat) 64 != 0) = false) (hK : (bits .and .u8 (f 0 : Nat) 32 != 0) = true) (hS : (bits .and .u8 (f 0 : Nat) 16 != 0) = false) (hA : (bits .and .u8 (f 1 : Nat) 128 != 0) = false) :
    Calls Tryz.prog 229 #[.pointer (some ⟨w.heap.size, 0, none⟩), .slice (some ⟨D, q, none⟩) n c, df] (w.alloc (.cells #[z0, z1, z2, z3, z4, z5, z6, z7, z8, z9, z10, z11, z12, z13, z14, z15, z16, z17] 176)) fun e w' =>
      e = .returned .nilIface ∧ Laid w w' 176 (Hdr1 D q 8 (n - 8) 18 11 (.int .u16 (f 2 * 256 + f 3 : Nat))) := by
  have hm' := hm
  unfold maxLen at hm'
  have hD := hB.lt (by omega)
  have b0 := hf 0
  have c0 := byt_past0 hB  (by omega)
  have b1 := hf 1
  have c1 := byt_past hB 1 (by omega)
  have b2 := hf 2
  have c2 := byt_past hB 2 (by omega)
  have b3 := hf 3
  have c3 := byt_past hB 3 (by omega)
  have b4 := hf 4
  have c4 := byt_past hB 4 (by omega)
  have b5 := hf 5
  have c5 := byt_past hB 5 (by omega)
  have b6 := hf 6
  have c6 := byt_past hB 6 (by omega)
  have b7 := hf 7
  have c7 := byt_past hB 7 (by omega)
  go_enter Tryz.func229, Tryz.ntmps229
  go_wp2_with fail
  refine (be16 _ _ _ (f 2) (f 3) _ b2 b3 (by first | exact c2 _ | (simp only [World.cell?_drewN]; exact c2 _)) (by first | exact c3 _ | (simp only [World.cell?_drewN]; exact c3 _))).mono ?_; rintro e w' ⟨rfl, k, rfl⟩
  go_wp2_with fail
  refine (be32 _ _ _ _ (f 4) (f 5) (f 6) (f 7) b4 b5 b6 b7 (by first | exact c4 _ | (simp only [World.cell?_drewN]; exact c4 _)) (by first | exact c5 _ | (simp only [World.cell?_drewN]; exact c5 _)) (by first | exact c6 _ | (simp only [World.cell?_drewN]; exact c6 _)) (by first | exact c7 _ | (simp only [World.cell?_drewN]; exact c7 _))).mono ?_; rintro e w' ⟨⟨v, rfl⟩, k, rfl⟩
  go_wp2_with fail
  go_region
  go_wp2
  all_goals (go_ret; exact ⟨rfl, Laid.mk _ _ _ _ _ ⟨⟨rfl, ⟨_, rfl, _, _, rfl, by omega, by omega, fun h => by first | rfl | omega | (rw [if_neg (by omega)])⟩, ⟨_, rfl, _, _, rfl, by omega, by omega, fun h => by first | rfl | omega | (rw [if_neg (by omega)])⟩⟩, rfl⟩⟩)
set_option maxRecDepth 100000 in
set_option maxHeartbeats 4000000 in
theorem greD011 (D q n c : Nat) (f : Nat → Nat) (df : Value) (z0 z1 z2 z3 z4 z5 z6 z7 z8 z9 z10 z11 z12 z13 z14 z15 z16 z17 : Value) (w : World) (hB : Byt w D q f n) (hf : IsB f) (hc : n ≤ c) (hm : c ≤ maxLen) (hn : 12 ≤ n) (hC : (bits .and .u8 (f 0 : Nat) 128 != 0) = false) (hR : (bits .and .u8 (f 0 : Nat) 64 != 0) = false) (hK : (bits .and .u8 (f 0 : Nat) 32 != 0) = true) (hS : (bits .and .u8 (f 0 : Nat) 16 != 0) = true) (hA : (bits .and .u8 (f 1 : Nat) 128 != 0) = false) :
    Calls Tryz.prog 229 #[.pointer (some ⟨w.heap.size, 0, none⟩), .slice (some ⟨D, q, none⟩) n c, df] (w.alloc (.cells #[z0, z1, z2, z3, z4, z5, z6, z7, z8, z9, z10, z11, z12, z13, z14, z15, z16, z17] 176)) fun e w' =>
      e = .returned .nilIface ∧ Laid w w' 176 (Hdr1 D q 12 (n - 12) 18 11 (.int .u16 (f 2 * 256 + f 3 : Nat))) := by
  have hm' := hm
  unfold maxLen at hm'
  have hD := hB.lt (by omega)
  have b0 := hf 0
  have c0 := byt_past0 hB  (by omega)
  have b1 := hf 1
  have c1 := byt_past hB 1 (by omega)
  have b2 := hf 2
  have c2 := byt_past hB 2 (by omega)
  have b3 := hf 3
  have c3 := byt_past hB 3 (by omega)
  have b4 := hf 4
  have c4 := byt_past hB 4 (by omega)
  have b5 := hf 5
  have c5 := byt_past hB 5 (by omega)
  have b6 := hf 6
  have c6 := byt_past hB 6 (by omega)
  have b7 := hf 7
  have c7 := byt_past hB 7 (by omega)
  have b8 := hf 8
  have c8 := byt_past hB 8 (by omega)
  have b9 := hf 9
  have c9 := byt_past hB 9 (by omega)
  have b10 := hf 10
  have c10 := byt_past hB 10 (by omega)
  have b11 := hf 11
  have c11 := byt_past hB 11 (by omega)
  go_enter Tryz.func229, Tryz.ntmps229
  go_wp2_with fail
  refine (be16 _ _ _ (f 2) (f 3) _ b2 b3 (by first | exact c2 _ | (simp only [World.cell?_drewN]; exact c2 _)) (by first | exact c3 _ | (simp only [World.cell?_drewN]; exact c3 _))).mono ?_; rintro e w' ⟨rfl, k, rfl⟩
  go_wp2_with fail
  refine (be32 _ _ _ _ (f 4) (f 5) (f 6) (f 7) b4 b5 b6 b7 (by first | exact c4 _ | (simp only [World.cell?_drewN]; exact c4 _)) (by first | exact c5 _ | (simp only [World.cell?_drewN]; exact c5 _)) (by first | exact c6 _ | (simp only [World.cell?_drewN]; exact c6 _)) (by first | exact c7 _ | (simp only [World.cell?_drewN]; exact c7 _))).mono ?_; rintro e w' ⟨⟨v, rfl⟩, k, rfl⟩
  go_wp2_with fail
  refine (be32 _ _ _ _ (f 8) (f 9) (f 10) (f 11) b8 b9 b10 b11 (by first | exact c8 _ | (simp only [World.cell?_drewN]; exact c8 _)) (by first | exact c9 _ | (simp only [World.cell?_drewN]; exact c9 _)) (by first | exact c10 _ | (simp only [World.cell?_drewN]; exact c10 _)) (by first | exact c11 _ | (simp only [World.cell?_drewN]; exact c11 _))).mono ?_; rintro e w' ⟨⟨v, rfl⟩, k, rfl⟩
  go_wp2_with fail
  go_region
  go_wp2
  all_goals (go_ret; exact ⟨rfl, Laid.mk _ _ _ _ _ ⟨⟨rfl, ⟨_, rfl, _, _, rfl, by omega, by omega, fun h => by first | rfl | omega | (rw [if_neg (by omega)])⟩, ⟨_, rfl, _, _, rfl, by omega, by omega, fun h => by first | rfl | omega | (rw [if_neg (by omega)])⟩⟩, rfl⟩⟩)
end Go.Proofs.YtecgkcofmphaiaaGreatDoor.Gpk
