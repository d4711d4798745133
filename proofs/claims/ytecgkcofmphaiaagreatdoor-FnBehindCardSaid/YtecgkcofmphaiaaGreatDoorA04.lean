/- The decoder of questions for addresses. -/
import Derived.Test.YtecgkcofmphaiaaGreatDoorA00
namespace Go.Proofs.YtecgkcofmphaiaaGreatDoor.Gpk
open Go.RowKit
set_option maxRecDepth 100000 in
set_option maxHeartbeats 4000000 in
theorem arpDb (D q n c : Nat) (f : Nat → Nat) (df : Value) (z0 z1 z2 z3 z4 z5 z6 z7 z8 z9 z10 : Value) (w : World) (hB : Byt w D q f n) (hf : IsB f) (hc : n ≤ c) (hm : c ≤ maxLen) (hn : 8 ≤ n) (hl : 8 + 2 * f 4 + 2 * f 5 ≤ 255) (hk : 8 + 2 * f 4 + 2 * f 5 ≤ n) (hA : c ≤ 8 + 2 * f 4 + 2 * f 5) (hp : 1 ≤ f 5) :
    Calls Tryz.prog 203 #[.pointer (some ⟨w.heap.size, 0, none⟩), .slice (some ⟨D, q, none⟩) n c, df] (w.alloc (.cells #[z0, z1, z2, z3, z4, z5, z6, z7, z8, z9, z10] 162)) fun e w' =>
      e = .returned .nilIface ∧ Laid w w' 162 (Hdr D q (8 + 2 * f 4 + 2 * f 5) (n - (8 + 2 * f 4 + 2 * f 5)) 11) := by
  have hm' := hm
  unfold maxLen at hm'
  have hD := hB.lt (by omega)
  have b0 := hf 0
  have c0 := byt_past0 hB  (by omega)
  have b1 := hf 1
  have c1 := byt_past hB 1 (by omega)
  have b2 := hf 2
  have c2 := byt_past hB 2 (by omega)
  have b3 := hf 3
  have c3 := byt_past hB 3 (by omega)
  have b4 := hf 4
  have c4 := byt_past hB 4 (by omega)
  have b5 := hf 5
  have c5 := byt_past hB 5 (by omega)
  have b6 := hf 6
  have c6 := byt_past hB 6 (by omega)
  have b7 := hf 7
  have c7 := byt_past hB 7 (by omega)
  go_enter Tryz.func203, Tryz.ntmps203
  go_wp2_with fail
  refine (be16 _ _ _ (f 0) (f 1) _ b0 b1 (by first | exact c0 _ | (simp only [World.cell?_drewN]; exact c0 _)) (by first | exact c1 _ | (simp only [World.cell?_drewN]; exact c1 _))).mono ?_; rintro e w' ⟨rfl, k, rfl⟩
  go_wp2_with fail
  refine (be16 _ _ _ (f 2) (f 3) _ b2 b3 (by first | exact c2 _ | (simp only [World.cell?_drewN]; exact c2 _)) (by first | exact c3 _ | (simp only [World.cell?_drewN]; exact c3 _))).mono ?_; rintro e w' ⟨rfl, k, rfl⟩
  go_wp2_with fail
  refine (be16 _ _ _ (f 6) (f 7) _ b6 b7 (by first | exact c6 _ | (simp only [World.cell?_drewN]; exact c6 _)) (by first | exact c7 _ | (simp only [World.cell?_drewN]; exact c7 _))).mono ?_; rintro e w' ⟨rfl, k, rfl⟩
  go_wp2_with fail
  go_region
  go_wp2_with fail
  go_region
  go_wp2_with fail
  go_region
  go_wp2_with fail
  go_region
  go_wp2_with fail
  all_goals (go_ret; exact ⟨rfl, Laid.mk _ _ _ _ _ ⟨rfl, ⟨_, rfl, _, _, rfl, by omega, by omega, fun h => by first | rfl | omega | (rw [if_neg (by omega)])⟩, ⟨_, rfl, _, _, rfl, by omega, by omega, fun h => by first | rfl | omega | (rw [if_neg (by omega)])⟩⟩⟩)
end Go.Proofs.YtecgkcofmphaiaaGreatDoor.Gpk
