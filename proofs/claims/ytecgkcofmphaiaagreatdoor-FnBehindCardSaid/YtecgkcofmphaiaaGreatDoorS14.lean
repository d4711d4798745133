/- Tests of headers.
   A test of headers. -/
import Derived.Test.YtecgkcofmphaiaaGreatDoorS00
set_option linter.unusedVariables false
set_option linter.unusedSimpArgs false
set_option linter.unnecessarySimpa false
set_option linter.unusedSectionVars false
namespace Go.Proofs.YtecgkcofmphaiaaGreatDoor.Gpk
open Go.RowKit
set_option linter.unusedVariables false
def RBP (P : Prop) (w : World) (e : Ending) (w' : World) : Prop := (∃ b : Bool, e = .returned (.bool b) ∧ (b = true → P)) ∧ Below w.heap.size w w'
set_option maxRecDepth 100000 in
set_option maxHeartbeats 4000000 in
theorem isEthernet_ (A0 : Option Addr) (n0 c0 : Nat) (A1 : Option Addr) (n1 c1 : Nat) (a2 : Int) (a3 : Int) (w : World) : Calls Tryz.prog 31 #[.agg #[.slice A0 n0 c0, .slice A1 n1 c1, .int .i64 a2, .int .i64 a3]] w (RBP (n0 = 6 ∧ n1 = 6) w) := by
  go_enter Tryz.func31, Tryz.ntmps31
  go_wp2_with (go_at_call 39; refine (upTo_ _ _ _).mono ?_; rintro e w1 ⟨⟨b, rfl⟩, rfl⟩; cases b)
  all_goals go_ret
  all_goals exact ⟨⟨_, rfl, fun h => by first | trivial | (simp at h; done) | omega | (simp at h; omega)⟩, (Below.refl _ _).alloc (Nat.le_refl _) _⟩
set_option maxRecDepth 100000 in
set_option maxHeartbeats 4000000 in
theorem isVlan_ (a0 : Int) (a1 : Bool) (a2 : Int) (a3 : Int) (w : World) : Calls Tryz.prog 32 #[.agg #[.int .i64 a0, .bool a1, .int .i64 a2, .int .i64 a3]] w (RBP (True) w) := by
  go_enter Tryz.func32, Tryz.ntmps32
  go_wp2_with (go_at_call 39; refine (upTo_ _ _ _).mono ?_; rintro e w1 ⟨⟨b, rfl⟩, rfl⟩; cases b)
  all_goals go_ret
  all_goals exact ⟨⟨_, rfl, fun h => by first | trivial | (simp at h; done) | omega | (simp at h; omega)⟩, (Below.refl _ _).alloc (Nat.le_refl _) _⟩
set_option maxRecDepth 100000 in
set_option maxHeartbeats 4000000 in
theorem isIpv6_ (a0 : Int) (a1 : Int) (a2 : Int) (a3 : Int) (a4 : Int) (A5 : Option Addr) (n5 c5 : Nat) (A6 : Option Addr) (n6 c6 : Nat) (w : World) : Calls Tryz.prog 35 #[.agg #[.int .i64 a0, .int .i64 a1, .int .i64 a2, .int .i64 a3, .int .i64 a4, .slice A5 n5 c5, .slice A6 n6 c6]] w (RBP (n5 = 16 ∧ n6 = 16) w) := by
  go_enter Tryz.func35, Tryz.ntmps35
  go_wp2_with (go_at_call 39; refine (upTo_ _ _ _).mono ?_; rintro e w1 ⟨⟨b, rfl⟩, rfl⟩; cases b)
  all_goals go_ret
  all_goals exact ⟨⟨_, rfl, fun h => by first | trivial | (simp at h; done) | omega | (simp at h; omega)⟩, (Below.refl _ _).alloc (Nat.le_refl _) _⟩
set_option maxRecDepth 100000 in
set_option maxHeartbeats 4000000 in
theorem isUdp_ (a0 : Int) (a1 : Int) (a2 : Int) (a3 : Int) (w : World) : Calls Tryz.prog 37 #[.agg #[.int .i64 a0, .int .i64 a1, .int .i64 a2, .int .i64 a3]] w (RBP (True) w) := by
  go_enter Tryz.func37, Tryz.ntmps37
  go_wp2_with (go_at_call 39; refine (upTo_ _ _ _).mono ?_; rintro e w1 ⟨⟨b, rfl⟩, rfl⟩; cases b)
  all_goals go_ret
  all_goals exact ⟨⟨_, rfl, fun h => by first | trivial | (simp at h; done) | omega | (simp at h; omega)⟩, (Below.refl _ _).alloc (Nat.le_refl _) _⟩
set_option maxRecDepth 100000 in
set_option maxHeartbeats 4000000 in
theorem isIcmp_ (a0 : Int) (a1 : Int) (a2 : Int) (a3 : Int) (a4 : Int) (w : World) : Calls Tryz.prog 38 #[.agg #[.int .i64 a0, .int .i64 a1, .int .i64 a2, .int .i64 a3, .int .i64 a4]] w (RBP (True) w) := by
  go_enter Tryz.func38, Tryz.ntmps38
  go_wp2_with (go_at_call 39; refine (upTo_ _ _ _).mono ?_; rintro e w1 ⟨⟨b, rfl⟩, rfl⟩; cases b)
  all_goals go_ret
  all_goals exact ⟨⟨_, rfl, fun h => by first | trivial | (simp at h; done) | omega | (simp at h; omega)⟩, (Below.refl _ _).alloc (Nat.le_refl _) _⟩
set_option maxRecDepth 100000 in
set_option maxHeartbeats 4000000 in
theorem isArp_ (a0 : Int) (a1 : Int) (a2 : Int) (A3 : Option Addr) (n3 c3 : Nat) (A4 : Option Addr) (n4 c4 : Nat) (A5 : Option Addr) (n5 c5 : Nat) (A6 : Option Addr) (n6 c6 : Nat) (w : World) : Calls Tryz.prog 40 #[.agg #[.int .i64 a0, .int .i64 a1, .int .i64 a2, .slice A3 n3 c3, .slice A4 n4 c4, .slice A5 n5 c5, .slice A6 n6 c6]] w (RBP (n3 ≤ 255 ∧ n4 ≤ 255 ∧ n5 ≤ 255 ∧ n6 ≤ 255) w) := by
  go_enter Tryz.func40, Tryz.ntmps40
  go_wp2_with (go_at_call 39; refine (upTo_ _ _ _).mono ?_; rintro e w1 ⟨⟨b, rfl⟩, rfl⟩; cases b)
  all_goals go_ret
  all_goals exact ⟨⟨_, rfl, fun h => by first | trivial | (simp at h; done) | omega | (simp at h; omega)⟩, (Below.refl _ _).alloc (Nat.le_refl _) _⟩
set_option maxRecDepth 100000 in
set_option maxHeartbeats 4000000 in
theorem isVxlan_ (a0 : Bool) (a1 : Int) (a2 : Bool) (a3 : Bool) (a4 : Bool) (a5 : Int) (w : World) : Calls Tryz.prog 42 #[.agg #[.bool a0, .int .i64 a1, .bool a2, .bool a3, .bool a4, .int .i64 a5]] w (RBP (True) w) := by
  go_enter Tryz.func42, Tryz.ntmps42
  go_wp2_with (go_at_call 39; refine (upTo_ _ _ _).mono ?_; rintro e w1 ⟨⟨b, rfl⟩, rfl⟩; cases b)
  all_goals go_ret
  all_goals exact ⟨⟨_, rfl, fun h => by first | trivial | (simp at h; done) | omega | (simp at h; omega)⟩, (Below.refl _ _).alloc (Nat.le_refl _) _⟩
set_option maxRecDepth 100000 in
set_option maxHeartbeats 4000000 in
theorem fits3_ (A0 : Option Addr) (n0 c0 : Nat) (A1 : Option Addr) (n1 c1 : Nat) (a2 : Int) (a3 : Int) (w : World) : Calls Tryz.prog 24 #[.agg #[.slice A0 n0 c0, .slice A1 n1 c1, .int .i64 a2, .int .i64 a3]] w (RBP (True) w) := by
  go_enter Tryz.func24, Tryz.ntmps24
  go_wp2_with (go_at_call 39; refine (upTo_ _ _ _).mono ?_; rintro e w1 ⟨⟨b, rfl⟩, rfl⟩; cases b)
  all_goals go_ret
  all_goals exact ⟨⟨_, rfl, fun h => by first | trivial | (simp at h; done) | omega | (simp at h; omega)⟩, (Below.refl _ _).alloc (Nat.le_refl _) _⟩
set_option maxRecDepth 100000 in
set_option maxHeartbeats 4000000 in
theorem fits7_ (a0 : Int) (a1 : Int) (a2 : Int) (a3 : Int) (a4 : Int) (A5 : Option Addr) (n5 c5 : Nat) (A6 : Option Addr) (n6 c6 : Nat) (w : World) : Calls Tryz.prog 26 #[.agg #[.int .i64 a0, .int .i64 a1, .int .i64 a2, .int .i64 a3, .int .i64 a4, .slice A5 n5 c5, .slice A6 n6 c6]] w (RBP (True) w) := by
  go_enter Tryz.func26, Tryz.ntmps26
  go_wp2_with (go_at_call 39; refine (upTo_ _ _ _).mono ?_; rintro e w1 ⟨⟨b, rfl⟩, rfl⟩; cases b)
  all_goals go_ret
  all_goals exact ⟨⟨_, rfl, fun h => by first | trivial | (simp at h; done) | omega | (simp at h; omega)⟩, (Below.refl _ _).alloc (Nat.le_refl _) _⟩
set_option maxRecDepth 100000 in
set_option maxHeartbeats 4000000 in
theorem fits9_ (a0 : Int) (a1 : Int) (a2 : Int) (A3 : Option Addr) (n3 c3 : Nat) (A4 : Option Addr) (n4 c4 : Nat) (A5 : Option Addr) (n5 c5 : Nat) (A6 : Option Addr) (n6 c6 : Nat) (w : World) : Calls Tryz.prog 28 #[.agg #[.int .i64 a0, .int .i64 a1, .int .i64 a2, .slice A3 n3 c3, .slice A4 n4 c4, .slice A5 n5 c5, .slice A6 n6 c6]] w (RBP (True) w) := by
  go_enter Tryz.func28, Tryz.ntmps28
  go_wp2_with (go_at_call 39; refine (upTo_ _ _ _).mono ?_; rintro e w1 ⟨⟨b, rfl⟩, rfl⟩; cases b)
  all_goals go_ret
  all_goals exact ⟨⟨_, rfl, fun h => by first | trivial | (simp at h; done) | omega | (simp at h; omega)⟩, (Below.refl _ _).alloc (Nat.le_refl _) _⟩
set_option maxRecDepth 100000 in
set_option maxHeartbeats 4000000 in
theorem fits6_ (a0 : Int) (a1 : Int) (A2 : Option Addr) (n2 c2 : Nat) (w : World) : Calls Tryz.prog 116 #[.agg #[.int .i64 a0, .int .i64 a1, .slice A2 n2 c2]] w (RBP (n2 ≤ 2147483647) w) := by
  go_enter Tryz.func116, Tryz.ntmps116
  go_wp2_with (go_at_call 39; refine (upTo_ _ _ _).mono ?_; rintro e w1 ⟨⟨b, rfl⟩, rfl⟩; cases b)
  all_goals go_ret
  all_goals exact ⟨⟨_, rfl, fun h => by first | trivial | (simp at h; done) | omega | (simp at h; omega)⟩, (Below.refl _ _).alloc (Nat.le_refl _) _⟩
set_option maxRecDepth 100000 in
set_option maxHeartbeats 4000000 in
theorem etherType_ (k : Int) (w : World) : Calls Tryz.prog 29 #[.int .i64 k] w fun e w' => (∃ (x : Int) (b : Bool), e = .returned (.tuple #[.int .i64 x, .bool b])) ∧ w = w' := by
  go_enter Tryz.func29, Tryz.ntmps29
  go_wp2
  all_goals go_ret2
  all_goals exact ⟨⟨_, _, rfl⟩, rfl⟩
set_option maxRecDepth 100000 in
set_option maxHeartbeats 4000000 in
theorem protocol_ (k : Int) (s : Bool) (w : World) : Calls Tryz.prog 30 #[.int .i64 k, .bool s] w fun e w' => (∃ (x : Int) (b : Bool), e = .returned (.tuple #[.int .i64 x, .bool b])) ∧ w = w' := by
  go_enter Tryz.func30, Tryz.ntmps30
  go_wp2
  all_goals go_ret2
  all_goals exact ⟨⟨_, _, rfl⟩, rfl⟩
end Go.Proofs.YtecgkcofmphaiaaGreatDoor.Gpk
namespace Go.Proofs.YtecgkcofmphaiaaGreatDoor.Gpk
open Go.RowKit
set_option linter.unusedVariables false
set_option maxRecDepth 100000 in
set_option maxHeartbeats 4000000 in
theorem isGre_ (a0 : Int) (a1 : Int) (a2 : Bool) (a3 : Bool) (a4 : Bool) (a5 : Bool) (a6 : Int) (a7 : Int) (a8 : Int) (a9 : Int) (w : World) : Calls Tryz.prog 41 #[.agg #[.int .i64 a0, .int .i64 a1, .bool a2, .bool a3, .bool a4, .bool a5, .int .i64 a6, .int .i64 a7, .int .i64 a8, .int .i64 a9]] w (RBP (True) w) := by
  go_enter Tryz.func41, Tryz.ntmps41
  go_wp2_with (go_at_call 39; refine (upTo_ _ _ _).mono ?_; rintro e w1 ⟨⟨b, rfl⟩, rfl⟩; cases b)
  all_goals go_ret
  all_goals exact ⟨⟨_, rfl, fun h => by first | trivial | (simp at h; done) | omega | (simp at h; omega)⟩, (Below.refl _ _).alloc (Nat.le_refl _) _⟩
end Go.Proofs.YtecgkcofmphaiaaGreatDoor.Gpk
