/- The step from a layer to what follows it, by the type of the next layer. -/
import Derived.Test.YtecgkcofmphaiaaGreatDoorA00
namespace Go.Proofs.YtecgkcofmphaiaaGreatDoor.Gpk
open Go.RowKit
theorem funcSome (f : Nat) (w : World) : (binOp .eql 119 (.func (.func f) #[] #[]) .nilFunc).run Tryz.prog w = .ok (.bool false) w := by kernel_rfl
set_option maxHeartbeats 1000000 in
set_option maxRecDepth 100000 in
theorem ndLt10 (bp rb k vc g : Nat) (T S : TypeId) (nm : Nm) (hK : Kind T S nm) (a : Option Addr) (n c : Nat) (hn : 0 < n) (R : World → Prop) (w : World) (hk : k ≤ 1000)
    (h0 : w.cell? ⟨bp, 0, none⟩ = some (.slice (some ⟨rb, 0, none⟩) (k + 1) vc)) (h2 : w.cell? ⟨bp, 2, none⟩ = some (.bool true))
    (h3 : w.cell? ⟨rb, k, none⟩ = some (.iface T (.pointer (some ⟨g, 0, none⟩)))) (h4 : w.cell? ⟨g, 1, none⟩ = some (.slice a n c)) (HA : Hid (∀ m, Calls Tryz.prog 87 #[.slice a n c, .iface 122 (.pointer (some ⟨bp, 0, none⟩))] (w.drewN m) fun e w' => ∃ v, e = .returned v ∧ R w')) :
    Calls Tryz.prog 186 #[.pointer (some ⟨bp, 0, none⟩), .iface 75 (.int .i64 10)] w (fun e w' => ∃ v, e = .returned v ∧ R w') := by
  have e1 : IntKind.i64.wrap (k : Int) = k := by rw [IntKind.wrap_i64]; omega
  have e2 : (0 : Int) ≤ (k : Int) := by omega
  have e3 : ((k : Int)).toNat = k := by omega
  have e4 : (k : Int) < (k : Int) + 1 := by omega
  have hm := fun (fuel : Nat) (w : World) => methPay hK fuel g w
  have ha := assertYes 10
  have hq := funcSome 87
  go_enter Tryz.func186, Tryz.ntmps186
  go_wp2_with fail
  go_quiet ((go_at_call 194; exact layerPayload_q g a n c w h4 _))
  go_wp2_with (go_at_call 71; refine (decoder_10 _).mono ?_; rintro e w' ⟨rfl, rfl⟩)
  refine (HA.out _).mono ?_
  rintro e w' ⟨v, rfl, hR⟩
  have HR := Lib.hid hR
  clear hR
  go_wp2
  go_ret
  exact ⟨_, rfl, HR.out⟩
set_option maxHeartbeats 1000000 in
set_option maxRecDepth 100000 in
theorem ndLt15 (bp rb k vc g : Nat) (T S : TypeId) (nm : Nm) (hK : Kind T S nm) (a : Option Addr) (n c : Nat) (hn : 0 < n) (R : World → Prop) (w : World) (hk : k ≤ 1000)
    (h0 : w.cell? ⟨bp, 0, none⟩ = some (.slice (some ⟨rb, 0, none⟩) (k + 1) vc)) (h2 : w.cell? ⟨bp, 2, none⟩ = some (.bool true))
    (h3 : w.cell? ⟨rb, k, none⟩ = some (.iface T (.pointer (some ⟨g, 0, none⟩)))) (h4 : w.cell? ⟨g, 1, none⟩ = some (.slice a n c)) (HA : Hid (∀ m, Calls Tryz.prog 88 #[.slice a n c, .iface 122 (.pointer (some ⟨bp, 0, none⟩))] (w.drewN m) fun e w' => ∃ v, e = .returned v ∧ R w')) :
    Calls Tryz.prog 186 #[.pointer (some ⟨bp, 0, none⟩), .iface 75 (.int .i64 15)] w (fun e w' => ∃ v, e = .returned v ∧ R w') := by
  have e1 : IntKind.i64.wrap (k : Int) = k := by rw [IntKind.wrap_i64]; omega
  have e2 : (0 : Int) ≤ (k : Int) := by omega
  have e3 : ((k : Int)).toNat = k := by omega
  have e4 : (k : Int) < (k : Int) + 1 := by omega
  have hm := fun (fuel : Nat) (w : World) => methPay hK fuel g w
  have ha := assertYes 15
  have hq := funcSome 88
  go_enter Tryz.func186, Tryz.ntmps186
  go_wp2_with fail
  go_quiet ((go_at_call 194; exact layerPayload_q g a n c w h4 _))
  go_wp2_with (go_at_call 71; refine (decoder_15 _).mono ?_; rintro e w' ⟨rfl, rfl⟩)
  refine (HA.out _).mono ?_
  rintro e w' ⟨v, rfl, hR⟩
  have HR := Lib.hid hR
  clear hR
  go_wp2
  go_ret
  exact ⟨_, rfl, HR.out⟩
set_option maxHeartbeats 1000000 in
set_option maxRecDepth 100000 in
theorem ndLt17 (bp rb k vc g : Nat) (T S : TypeId) (nm : Nm) (hK : Kind T S nm) (a : Option Addr) (n c : Nat) (hn : 0 < n) (R : World → Prop) (w : World) (hk : k ≤ 1000)
    (h0 : w.cell? ⟨bp, 0, none⟩ = some (.slice (some ⟨rb, 0, none⟩) (k + 1) vc)) (h2 : w.cell? ⟨bp, 2, none⟩ = some (.bool true))
    (h3 : w.cell? ⟨rb, k, none⟩ = some (.iface T (.pointer (some ⟨g, 0, none⟩)))) (h4 : w.cell? ⟨g, 1, none⟩ = some (.slice a n c)) (HA : Hid (∀ m, Calls Tryz.prog 89 #[.slice a n c, .iface 122 (.pointer (some ⟨bp, 0, none⟩))] (w.drewN m) fun e w' => ∃ v, e = .returned v ∧ R w')) :
    Calls Tryz.prog 186 #[.pointer (some ⟨bp, 0, none⟩), .iface 75 (.int .i64 17)] w (fun e w' => ∃ v, e = .returned v ∧ R w') := by
  have e1 : IntKind.i64.wrap (k : Int) = k := by rw [IntKind.wrap_i64]; omega
  have e2 : (0 : Int) ≤ (k : Int) := by omega
  have e3 : ((k : Int)).toNat = k := by omega
  have e4 : (k : Int) < (k : Int) + 1 := by omega
  have hm := fun (fuel : Nat) (w : World) => methPay hK fuel g w
  have ha := assertYes 17
  have hq := funcSome 89
  go_enter Tryz.func186, Tryz.ntmps186
  go_wp2_with fail
  go_quiet ((go_at_call 194; exact layerPayload_q g a n c w h4 _))
  go_wp2_with (go_at_call 71; refine (decoder_17 _).mono ?_; rintro e w' ⟨rfl, rfl⟩)
  refine (HA.out _).mono ?_
  rintro e w' ⟨v, rfl, hR⟩
  have HR := Lib.hid hR
  clear hR
  go_wp2
  go_ret
  exact ⟨_, rfl, HR.out⟩
set_option maxHeartbeats 1000000 in
set_option maxRecDepth 100000 in
theorem ndLt18 (bp rb k vc g : Nat) (T S : TypeId) (nm : Nm) (hK : Kind T S nm) (a : Option Addr) (n c : Nat) (hn : 0 < n) (R : World → Prop) (w : World) (hk : k ≤ 1000)
    (h0 : w.cell? ⟨bp, 0, none⟩ = some (.slice (some ⟨rb, 0, none⟩) (k + 1) vc)) (h2 : w.cell? ⟨bp, 2, none⟩ = some (.bool true))
    (h3 : w.cell? ⟨rb, k, none⟩ = some (.iface T (.pointer (some ⟨g, 0, none⟩)))) (h4 : w.cell? ⟨g, 1, none⟩ = some (.slice a n c)) (HA : Hid (∀ m, Calls Tryz.prog 90 #[.slice a n c, .iface 122 (.pointer (some ⟨bp, 0, none⟩))] (w.drewN m) fun e w' => ∃ v, e = .returned v ∧ R w')) :
    Calls Tryz.prog 186 #[.pointer (some ⟨bp, 0, none⟩), .iface 75 (.int .i64 18)] w (fun e w' => ∃ v, e = .returned v ∧ R w') := by
  have e1 : IntKind.i64.wrap (k : Int) = k := by rw [IntKind.wrap_i64]; omega
  have e2 : (0 : Int) ≤ (k : Int) := by omega
  have e3 : ((k : Int)).toNat = k := by omega
  have e4 : (k : Int) < (k : Int) + 1 := by omega
  have hm := fun (fuel : Nat) (w : World) => methPay hK fuel g w
  have ha := assertYes 18
  have hq := funcSome 90
  go_enter Tryz.func186, Tryz.ntmps186
  go_wp2_with fail
  go_quiet ((go_at_call 194; exact layerPayload_q g a n c w h4 _))
  go_wp2_with (go_at_call 71; refine (decoder_18 _).mono ?_; rintro e w' ⟨rfl, rfl⟩)
  refine (HA.out _).mono ?_
  rintro e w' ⟨v, rfl, hR⟩
  have HR := Lib.hid hR
  clear hR
  go_wp2
  go_ret
  exact ⟨_, rfl, HR.out⟩
set_option maxHeartbeats 1000000 in
set_option maxRecDepth 100000 in
theorem ndLt19 (bp rb k vc g : Nat) (T S : TypeId) (nm : Nm) (hK : Kind T S nm) (a : Option Addr) (n c : Nat) (hn : 0 < n) (R : World → Prop) (w : World) (hk : k ≤ 1000)
    (h0 : w.cell? ⟨bp, 0, none⟩ = some (.slice (some ⟨rb, 0, none⟩) (k + 1) vc)) (h2 : w.cell? ⟨bp, 2, none⟩ = some (.bool true))
    (h3 : w.cell? ⟨rb, k, none⟩ = some (.iface T (.pointer (some ⟨g, 0, none⟩)))) (h4 : w.cell? ⟨g, 1, none⟩ = some (.slice a n c)) (HA : Hid (∀ m, Calls Tryz.prog 91 #[.slice a n c, .iface 122 (.pointer (some ⟨bp, 0, none⟩))] (w.drewN m) fun e w' => ∃ v, e = .returned v ∧ R w')) :
    Calls Tryz.prog 186 #[.pointer (some ⟨bp, 0, none⟩), .iface 75 (.int .i64 19)] w (fun e w' => ∃ v, e = .returned v ∧ R w') := by
  have e1 : IntKind.i64.wrap (k : Int) = k := by rw [IntKind.wrap_i64]; omega
  have e2 : (0 : Int) ≤ (k : Int) := by omega
  have e3 : ((k : Int)).toNat = k := by omega
  have e4 : (k : Int) < (k : Int) + 1 := by omega
  have hm := fun (fuel : Nat) (w : World) => methPay hK fuel g w
  have ha := assertYes 19
  have hq := funcSome 91
  go_enter Tryz.func186, Tryz.ntmps186
  go_wp2_with fail
  go_quiet ((go_at_call 194; exact layerPayload_q g a n c w h4 _))
  go_wp2_with (go_at_call 71; refine (decoder_19 _).mono ?_; rintro e w' ⟨rfl, rfl⟩)
  refine (HA.out _).mono ?_
  rintro e w' ⟨v, rfl, hR⟩
  have HR := Lib.hid hR
  clear hR
  go_wp2
  go_ret
  exact ⟨_, rfl, HR.out⟩
set_option maxHeartbeats 1000000 in
set_option maxRecDepth 100000 in
theorem ndLt20 (bp rb k vc g : Nat) (T S : TypeId) (nm : Nm) (hK : Kind T S nm) (a : Option Addr) (n c : Nat) (hn : 0 < n) (R : World → Prop) (w : World) (hk : k ≤ 1000)
    (h0 : w.cell? ⟨bp, 0, none⟩ = some (.slice (some ⟨rb, 0, none⟩) (k + 1) vc)) (h2 : w.cell? ⟨bp, 2, none⟩ = some (.bool true))
    (h3 : w.cell? ⟨rb, k, none⟩ = some (.iface T (.pointer (some ⟨g, 0, none⟩)))) (h4 : w.cell? ⟨g, 1, none⟩ = some (.slice a n c)) (HA : Hid (∀ m, Calls Tryz.prog 92 #[.slice a n c, .iface 122 (.pointer (some ⟨bp, 0, none⟩))] (w.drewN m) fun e w' => ∃ v, e = .returned v ∧ R w')) :
    Calls Tryz.prog 186 #[.pointer (some ⟨bp, 0, none⟩), .iface 75 (.int .i64 20)] w (fun e w' => ∃ v, e = .returned v ∧ R w') := by
  have e1 : IntKind.i64.wrap (k : Int) = k := by rw [IntKind.wrap_i64]; omega
  have e2 : (0 : Int) ≤ (k : Int) := by omega
  have e3 : ((k : Int)).toNat = k := by omega
  have e4 : (k : Int) < (k : Int) + 1 := by omega
  have hm := fun (fuel : Nat) (w : World) => methPay hK fuel g w
  have ha := assertYes 20
  have hq := funcSome 92
  go_enter Tryz.func186, Tryz.ntmps186
  go_wp2_with fail
  go_quiet ((go_at_call 194; exact layerPayload_q g a n c w h4 _))
  go_wp2_with (go_at_call 71; refine (decoder_20 _).mono ?_; rintro e w' ⟨rfl, rfl⟩)
  refine (HA.out _).mono ?_
  rintro e w' ⟨v, rfl, hR⟩
  have HR := Lib.hid hR
  clear hR
  go_wp2
  go_ret
  exact ⟨_, rfl, HR.out⟩
set_option maxHeartbeats 1000000 in
set_option maxRecDepth 100000 in
theorem ndLt21 (bp rb k vc g : Nat) (T S : TypeId) (nm : Nm) (hK : Kind T S nm) (a : Option Addr) (n c : Nat) (hn : 0 < n) (R : World → Prop) (w : World) (hk : k ≤ 1000)
    (h0 : w.cell? ⟨bp, 0, none⟩ = some (.slice (some ⟨rb, 0, none⟩) (k + 1) vc)) (h2 : w.cell? ⟨bp, 2, none⟩ = some (.bool true))
    (h3 : w.cell? ⟨rb, k, none⟩ = some (.iface T (.pointer (some ⟨g, 0, none⟩)))) (h4 : w.cell? ⟨g, 1, none⟩ = some (.slice a n c)) (HA : Hid (∀ m, Calls Tryz.prog 93 #[.slice a n c, .iface 122 (.pointer (some ⟨bp, 0, none⟩))] (w.drewN m) fun e w' => ∃ v, e = .returned v ∧ R w')) :
    Calls Tryz.prog 186 #[.pointer (some ⟨bp, 0, none⟩), .iface 75 (.int .i64 21)] w (fun e w' => ∃ v, e = .returned v ∧ R w') := by
  have e1 : IntKind.i64.wrap (k : Int) = k := by rw [IntKind.wrap_i64]; omega
  have e2 : (0 : Int) ≤ (k : Int) := by omega
  have e3 : ((k : Int)).toNat = k := by omega
  have e4 : (k : Int) < (k : Int) + 1 := by omega
  have hm := fun (fuel : Nat) (w : World) => methPay hK fuel g w
  have ha := assertYes 21
  have hq := funcSome 93
  go_enter Tryz.func186, Tryz.ntmps186
  go_wp2_with fail
  go_quiet ((go_at_call 194; exact layerPayload_q g a n c w h4 _))
  go_wp2_with (go_at_call 71; refine (decoder_21 _).mono ?_; rintro e w' ⟨rfl, rfl⟩)
  refine (HA.out _).mono ?_
  rintro e w' ⟨v, rfl, hR⟩
  have HR := Lib.hid hR
  clear hR
  go_wp2
  go_ret
  exact ⟨_, rfl, HR.out⟩
set_option maxHeartbeats 1000000 in
set_option maxRecDepth 100000 in
theorem ndLt44 (bp rb k vc g : Nat) (T S : TypeId) (nm : Nm) (hK : Kind T S nm) (a : Option Addr) (n c : Nat) (hn : 0 < n) (R : World → Prop) (w : World) (hk : k ≤ 1000)
    (h0 : w.cell? ⟨bp, 0, none⟩ = some (.slice (some ⟨rb, 0, none⟩) (k + 1) vc)) (h2 : w.cell? ⟨bp, 2, none⟩ = some (.bool true))
    (h3 : w.cell? ⟨rb, k, none⟩ = some (.iface T (.pointer (some ⟨g, 0, none⟩)))) (h4 : w.cell? ⟨g, 1, none⟩ = some (.slice a n c)) (HA : Hid (∀ m, Calls Tryz.prog 99 #[.slice a n c, .iface 122 (.pointer (some ⟨bp, 0, none⟩))] (w.drewN m) fun e w' => ∃ v, e = .returned v ∧ R w')) :
    Calls Tryz.prog 186 #[.pointer (some ⟨bp, 0, none⟩), .iface 75 (.int .i64 44)] w (fun e w' => ∃ v, e = .returned v ∧ R w') := by
  have e1 : IntKind.i64.wrap (k : Int) = k := by rw [IntKind.wrap_i64]; omega
  have e2 : (0 : Int) ≤ (k : Int) := by omega
  have e3 : ((k : Int)).toNat = k := by omega
  have e4 : (k : Int) < (k : Int) + 1 := by omega
  have hm := fun (fuel : Nat) (w : World) => methPay hK fuel g w
  have ha := assertYes 44
  have hq := funcSome 99
  go_enter Tryz.func186, Tryz.ntmps186
  go_wp2_with fail
  go_quiet ((go_at_call 194; exact layerPayload_q g a n c w h4 _))
  go_wp2_with (go_at_call 71; refine (decoder_44 _).mono ?_; rintro e w' ⟨rfl, rfl⟩)
  refine (HA.out _).mono ?_
  rintro e w' ⟨v, rfl, hR⟩
  have HR := Lib.hid hR
  clear hR
  go_wp2
  go_ret
  exact ⟨_, rfl, HR.out⟩
set_option maxHeartbeats 1000000 in
set_option maxRecDepth 100000 in
theorem ndLt45 (bp rb k vc g : Nat) (T S : TypeId) (nm : Nm) (hK : Kind T S nm) (a : Option Addr) (n c : Nat) (hn : 0 < n) (R : World → Prop) (w : World) (hk : k ≤ 1000)
    (h0 : w.cell? ⟨bp, 0, none⟩ = some (.slice (some ⟨rb, 0, none⟩) (k + 1) vc)) (h2 : w.cell? ⟨bp, 2, none⟩ = some (.bool true))
    (h3 : w.cell? ⟨rb, k, none⟩ = some (.iface T (.pointer (some ⟨g, 0, none⟩)))) (h4 : w.cell? ⟨g, 1, none⟩ = some (.slice a n c)) (HA : Hid (∀ m, Calls Tryz.prog 100 #[.slice a n c, .iface 122 (.pointer (some ⟨bp, 0, none⟩))] (w.drewN m) fun e w' => ∃ v, e = .returned v ∧ R w')) :
    Calls Tryz.prog 186 #[.pointer (some ⟨bp, 0, none⟩), .iface 75 (.int .i64 45)] w (fun e w' => ∃ v, e = .returned v ∧ R w') := by
  have e1 : IntKind.i64.wrap (k : Int) = k := by rw [IntKind.wrap_i64]; omega
  have e2 : (0 : Int) ≤ (k : Int) := by omega
  have e3 : ((k : Int)).toNat = k := by omega
  have e4 : (k : Int) < (k : Int) + 1 := by omega
  have hm := fun (fuel : Nat) (w : World) => methPay hK fuel g w
  have ha := assertYes 45
  have hq := funcSome 100
  go_enter Tryz.func186, Tryz.ntmps186
  go_wp2_with fail
  go_quiet ((go_at_call 194; exact layerPayload_q g a n c w h4 _))
  go_wp2_with (go_at_call 71; refine (decoder_45 _).mono ?_; rintro e w' ⟨rfl, rfl⟩)
  refine (HA.out _).mono ?_
  rintro e w' ⟨v, rfl, hR⟩
  have HR := Lib.hid hR
  clear hR
  go_wp2
  go_ret
  exact ⟨_, rfl, HR.out⟩
set_option maxHeartbeats 1000000 in
set_option maxRecDepth 100000 in
theorem ndLt57 (bp rb k vc g : Nat) (T S : TypeId) (nm : Nm) (hK : Kind T S nm) (a : Option Addr) (n c : Nat) (hn : 0 < n) (R : World → Prop) (w : World) (hk : k ≤ 1000)
    (h0 : w.cell? ⟨bp, 0, none⟩ = some (.slice (some ⟨rb, 0, none⟩) (k + 1) vc)) (h2 : w.cell? ⟨bp, 2, none⟩ = some (.bool true))
    (h3 : w.cell? ⟨rb, k, none⟩ = some (.iface T (.pointer (some ⟨g, 0, none⟩)))) (h4 : w.cell? ⟨g, 1, none⟩ = some (.slice a n c)) (HA : Hid (∀ m, Calls Tryz.prog 106 #[.slice a n c, .iface 122 (.pointer (some ⟨bp, 0, none⟩))] (w.drewN m) fun e w' => ∃ v, e = .returned v ∧ R w')) :
    Calls Tryz.prog 186 #[.pointer (some ⟨bp, 0, none⟩), .iface 75 (.int .i64 57)] w (fun e w' => ∃ v, e = .returned v ∧ R w') := by
  have e1 : IntKind.i64.wrap (k : Int) = k := by rw [IntKind.wrap_i64]; omega
  have e2 : (0 : Int) ≤ (k : Int) := by omega
  have e3 : ((k : Int)).toNat = k := by omega
  have e4 : (k : Int) < (k : Int) + 1 := by omega
  have hm := fun (fuel : Nat) (w : World) => methPay hK fuel g w
  have ha := assertYes 57
  have hq := funcSome 106
  go_enter Tryz.func186, Tryz.ntmps186
  go_wp2_with fail
  go_quiet ((go_at_call 194; exact layerPayload_q g a n c w h4 _))
  go_wp2_with (go_at_call 71; refine (decoder_57 _).mono ?_; rintro e w' ⟨rfl, rfl⟩)
  refine (HA.out _).mono ?_
  rintro e w' ⟨v, rfl, hR⟩
  have HR := Lib.hid hR
  clear hR
  go_wp2
  go_ret
  exact ⟨_, rfl, HR.out⟩
set_option maxHeartbeats 1000000 in
set_option maxRecDepth 100000 in
theorem ndLt116 (bp rb k vc g : Nat) (T S : TypeId) (nm : Nm) (hK : Kind T S nm) (a : Option Addr) (n c : Nat) (hn : 0 < n) (R : World → Prop) (w : World) (hk : k ≤ 1000)
    (h0 : w.cell? ⟨bp, 0, none⟩ = some (.slice (some ⟨rb, 0, none⟩) (k + 1) vc)) (h2 : w.cell? ⟨bp, 2, none⟩ = some (.bool true))
    (h3 : w.cell? ⟨rb, k, none⟩ = some (.iface T (.pointer (some ⟨g, 0, none⟩)))) (h4 : w.cell? ⟨g, 1, none⟩ = some (.slice a n c)) (HA : Hid (∀ m, Calls Tryz.prog 108 #[.slice a n c, .iface 122 (.pointer (some ⟨bp, 0, none⟩))] (w.drewN m) fun e w' => ∃ v, e = .returned v ∧ R w')) :
    Calls Tryz.prog 186 #[.pointer (some ⟨bp, 0, none⟩), .iface 75 (.int .i64 116)] w (fun e w' => ∃ v, e = .returned v ∧ R w') := by
  have e1 : IntKind.i64.wrap (k : Int) = k := by rw [IntKind.wrap_i64]; omega
  have e2 : (0 : Int) ≤ (k : Int) := by omega
  have e3 : ((k : Int)).toNat = k := by omega
  have e4 : (k : Int) < (k : Int) + 1 := by omega
  have hm := fun (fuel : Nat) (w : World) => methPay hK fuel g w
  have ha := assertYes 116
  have hq := funcSome 108
  go_enter Tryz.func186, Tryz.ntmps186
  go_wp2_with fail
  go_quiet ((go_at_call 194; exact layerPayload_q g a n c w h4 _))
  go_wp2_with (go_at_call 71; refine (decoder_116 _).mono ?_; rintro e w' ⟨rfl, rfl⟩)
  refine (HA.out _).mono ?_
  rintro e w' ⟨v, rfl, hR⟩
  have HR := Lib.hid hR
  clear hR
  go_wp2
  go_ret
  exact ⟨_, rfl, HR.out⟩
end Go.Proofs.YtecgkcofmphaiaaGreatDoor.Gpk
