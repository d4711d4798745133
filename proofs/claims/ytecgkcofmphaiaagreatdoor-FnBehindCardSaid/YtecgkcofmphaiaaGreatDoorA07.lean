/- Questions for addresses, with what follows them.
   The decoders of control messages.
   Control messages, with what follows them.
   What a layer says of the next one: datagrams, packets, control messages, routing encapsulation.
   What a control message of the sixth version says of the next layer.
   The decoders of control messages of the sixth version.
   Control messages of the sixth version, with what follows them. -/
import Derived.Test.YtecgkcofmphaiaaGreatDoorA02
import Derived.Test.YtecgkcofmphaiaaGreatDoorA06
import Derived.Test.YtecgkcofmphaiaaGreatDoorA00
set_option linter.unusedVariables false
set_option linter.unusedSimpArgs false
set_option linter.unnecessarySimpa false
set_option linter.unusedSectionVars false
namespace Go.Proofs.YtecgkcofmphaiaaGreatDoor.Gpk
open Go.RowKit
set_option maxRecDepth 100000 in
set_option maxHeartbeats 2000000 in
theorem decArp {F : Fix} (hF : F.ok) (p n : Nat) (hp : p + n ≤ F.L) (nx : Nm) (ps : List Piece) (t1 : 8 ≤ n) (t2 : 8 + 2 * F.g (p + 4) + 2 * F.g (p + 5) ≤ 255) (t3 : 8 + 2 * F.g (p + 4) + 2 * F.g (p + 5) ≤ n) (hx : nx = .nothing) (r : Chain F.g (p + (8 + 2 * F.g (p + 4) + 2 * F.g (p + 5))) nx (n - (8 + 2 * F.g (p + 4) + 2 * F.g (p + 5))) ps)
    (ih : decodable nx = true → 0 < n - (8 + 2 * F.g (p + 4) + 2 * F.g (p + 5)) → DecOK F (fnOf nx) (p + (8 + 2 * F.g (p + 4) + 2 * F.g (p + 5))) (n - (8 + 2 * F.g (p + 4) + 2 * F.g (p + 5))) ps) : DecOK F 87 p n ({ nm := .arp, at_ := p, size := 8 + 2 * F.g (p + 4) + 2 * F.g (p + 5), fin := n } :: ps) := by
  intro c w ls hc hm hI hlen
  have hlen' : ls.length + ps.length + 1 ≤ 20 := by simpa [Nat.add_assoc] using hlen
  clear hlen
  have hB := hI.byt hF p n hp
  have hf := hF.sub p
  have HI := Lib.hid hI
  have HR := Lib.hid r
  have HIH := Lib.hid ih
  clear hI r ih
  have HHX := Lib.hid hx
  clear hx
  go_enter Tryz.func87, Tryz.ntmps87
  go_wp2_with (go_at_call 118; go_in)
  refine (arpD F.D p n c _ _ _ _ _ _ _ _ _ _ _ _ _ w hB hf hc hm t1 t2 t3).mono ?_
  rintro e w1 ⟨rfl, hL⟩
  have HL := Lib.hid hL
  clear hL
  go_wp2_with fail
  refine (addLayer hF (HL.out.inv HI.out) (by omega) { v := .iface 127 (.pointer (some ⟨w.heap.size, 0, none⟩)), nm := .arp, cq := p, cn := 8 + 2 * F.g (p + 4) + 2 * F.g (p + 5), pq := p + (8 + 2 * F.g (p + 4) + 2 * F.g (p + 5)), pn := n - (8 + 2 * F.g (p + 4) + 2 * F.g (p + 5)) } (layOK .arp HL.out (fun _ h => h) (by omega) (by omega)) 127 _ rfl).mono ?_
  rintro e w2 ⟨rfl, hA⟩
  have HA := Lib.hid hA
  clear hA
  obtain ⟨cs, v1, hcs, hP, hv1, hW⟩ := HL.out.later (fun _ h => h) HA.out.2 (by decide) (by decide)
  clear hP
  have HCS := Lib.hid hcs
  have HV1 := Lib.hid hv1
  clear hcs hv1
  go_wp2_with (go_at_call 205; go_in)
  refine (nextStep0 hF HA.out.1 .arp w.heap.size cs rfl HCS.out v1 HV1.out (p + (8 + 2 * F.g (p + 4) + 2 * F.g (p + 5))) (n - (8 + 2 * F.g (p + 4) + 2 * F.g (p + 5))) hW (by omega) (.iface 75 (.int .i64 2)) nx ps HR.out (by rw [HHX.out]; exact .inr .nothing) (by omega) HIH.out).mono ?_
  rintro e w' ⟨u, rfl, hD⟩
  have HD := Lib.hid hD
  clear hD
  go_wp2
  go_ret
  exact ⟨_, rfl, HD.out.cons ⟨rfl, rfl, rfl, rfl, rfl⟩⟩
end Go.Proofs.YtecgkcofmphaiaaGreatDoor.Gpk
namespace Go.Proofs.YtecgkcofmphaiaaGreatDoor.Gpk
open Go.RowKit
set_option maxHeartbeats 400000 in
theorem mkCode4 (x y : Nat) (hx : x < 256) (hy : y < 256) (w : World) : Calls Tryz.prog 221 #[.int .u8 x, .int .u8 y] w fun e w' => e = .returned (.int .u16 (x * 256 + y : Nat)) ∧ ∃ k, w' = (w.alloc (.cells #[.int .u8 x, .int .u8 y] 5)).drewN k := by
  go_enter Tryz.func221, Tryz.ntmps221
  go_wp2_with fail
  refine (be16 _ _ _ x y _ hx hy (by simp [go_sem]) (by simp [go_sem])).mono ?_
  rintro e w' ⟨rfl, k, rfl⟩
  go_wp2
  go_ret
  exact ⟨rfl, _, rfl⟩
set_option maxRecDepth 100000 in
set_option maxHeartbeats 4000000 in
theorem icmpD (D q n c : Nat) (f : Nat → Nat) (df : Value) (z0 z1 z2 z3 z4 z5 : Value) (w : World) (hB : Byt w D q f n) (hf : IsB f) (hc : n ≤ c) (hm : c ≤ maxLen) (hn : 8 ≤ n) :
    Calls Tryz.prog 218 #[.pointer (some ⟨w.heap.size, 0, none⟩), .slice (some ⟨D, q, none⟩) n c, df] (w.alloc (.cells #[z0, z1, z2, z3, z4, z5] 179)) fun e w' =>
      e = .returned .nilIface ∧ Laid w w' 179 (Hdr D q 8 (n - 8) 6) := by
  have hm' := hm
  unfold maxLen at hm'
  have hD := hB.lt (by omega)
  have b0 := hf 0
  have d0 := hB.at0 (by omega)
  have b1 := hf 1
  have d1 := hB.at 1 (by omega)
  have b2 := hf 2
  have d2 := hB.at 2 (by omega)
  have b3 := hf 3
  have d3 := hB.at 3 (by omega)
  have b4 := hf 4
  have d4 := hB.at 4 (by omega)
  have b5 := hf 5
  have d5 := hB.at 5 (by omega)
  have b6 := hf 6
  have d6 := hB.at 6 (by omega)
  have b7 := hf 7
  have d7 := hB.at 7 (by omega)
  have c0 := byt_past0 hB  (by omega)
  have c1 := byt_past hB 1 (by omega)
  have hi0 : (0 : Int) < (n : Int) := by omega
  have hi1 : (1 : Int) < (n : Int) := by omega
  have hn0 : 0 < n := by omega
  have hD1 : D < w.heap.size + 1 := by omega
  go_enter Tryz.func218, Tryz.ntmps218
  go_wp2_with fail
  go_region_held3 (fun w' => w'.cell? ⟨D, q, none⟩ = some (.int .u8 (f 0 : Nat)) ∧ w'.cell? ⟨D, q + 1, none⟩ = some (.int .u8 (f 1 : Nat))) (first | exact ⟨c0 _, c1 _⟩ | (simp [go_sem, hD, hD1, d0, d1]; done)) (first | (go_at_call 221; refine (mkCode4 (f 0) (f 1) b0 b1 _).mono ?_; rintro e w' ⟨rfl, k, rfl⟩))
  go_wp2_with fail
  refine (be16 _ _ _ (f 2) (f 3) _ b2 b3 (by simp [go_sem, hD, hD1, d2]) (by simp [go_sem, hD, hD1, d3])).mono ?_; rintro e w' ⟨rfl, k, rfl⟩
  go_wp2_with fail
  refine (be16 _ _ _ (f 4) (f 5) _ b4 b5 (by simp [go_sem, hD, hD1, d4]) (by simp [go_sem, hD, hD1, d5])).mono ?_; rintro e w' ⟨rfl, k, rfl⟩
  go_wp2_with fail
  refine (be16 _ _ _ (f 6) (f 7) _ b6 b7 (by simp [go_sem, hD, hD1, d6]) (by simp [go_sem, hD, hD1, d7])).mono ?_; rintro e w' ⟨rfl, k, rfl⟩
  go_wp2_with fail
  go_region
  go_wp2
  all_goals (go_ret; exact ⟨rfl, Laid.mk2 _ _ _ _ _ _ ⟨rfl, ⟨_, rfl, _, _, rfl, by omega, by omega, fun h => by first | rfl | omega | (rw [if_neg (by omega)])⟩, ⟨_, rfl, _, _, rfl, by omega, by omega, fun h => by first | rfl | omega | (rw [if_neg (by omega)])⟩⟩⟩)
end Go.Proofs.YtecgkcofmphaiaaGreatDoor.Gpk
namespace Go.Proofs.YtecgkcofmphaiaaGreatDoor.Gpk
open Go.RowKit
set_option maxRecDepth 100000 in
set_option maxHeartbeats 2000000 in
theorem decIcmp {F : Fix} (hF : F.ok) (p n : Nat) (hp : p + n ≤ F.L) (nx : Nm) (ps : List Piece) (t1 : 8 ≤ n) (hx : nx = .pay) (r : Chain F.g (p + (8)) nx (n - (8)) ps)
    (ih : decodable nx = true → 0 < n - (8) → DecOK F (fnOf nx) (p + (8)) (n - (8)) ps) : DecOK F 91 p n ({ nm := .icmp, at_ := p, size := 8, fin := n } :: ps) := by
  intro c w ls hc hm hI hlen
  have hlen' : ls.length + ps.length + 1 ≤ 20 := by simpa [Nat.add_assoc] using hlen
  clear hlen
  have hB := hI.byt hF p n hp
  have hf := hF.sub p
  have HI := Lib.hid hI
  have HR := Lib.hid r
  have HIH := Lib.hid ih
  clear hI r ih
  have HHX := Lib.hid hx
  clear hx
  go_enter Tryz.func91, Tryz.ntmps91
  go_wp2_with (go_at_call 118; go_in)
  refine (icmpD F.D p n c _ _ _ _ _ _ _ _ w hB hf hc hm t1).mono ?_
  rintro e w1 ⟨rfl, hL⟩
  have HL := Lib.hid hL
  clear hL
  go_wp2_with fail
  refine (addLayer hF (HL.out.inv HI.out) (by omega) { v := .iface 132 (.pointer (some ⟨w.heap.size, 0, none⟩)), nm := .icmp, cq := p, cn := 8, pq := p + (8), pn := n - (8) } (layOK .icmp HL.out (fun _ h => h) (by omega) (by omega)) 132 _ rfl).mono ?_
  rintro e w2 ⟨rfl, hA⟩
  have HA := Lib.hid hA
  clear hA
  obtain ⟨cs, v1, hcs, hP, hv1, hW⟩ := HL.out.later (fun _ h => h) HA.out.2 (by decide) (by decide)
  clear hP
  have HCS := Lib.hid hcs
  have HV1 := Lib.hid hv1
  clear hcs hv1
  go_wp2_with (go_at_call 220; go_in)
  refine (nextStep0 hF HA.out.1 .icmp w.heap.size cs rfl HCS.out v1 HV1.out (p + (8)) (n - (8)) hW (by omega) (.iface 75 (.int .i64 2)) nx ps HR.out (by rw [HHX.out]; exact .inr .pay) (by omega) HIH.out).mono ?_
  rintro e w' ⟨u, rfl, hD⟩
  have HD := Lib.hid hD
  clear hD
  go_wp2
  go_ret
  exact ⟨_, rfl, HD.out.cons ⟨rfl, rfl, rfl, rfl, rfl⟩⟩
end Go.Proofs.YtecgkcofmphaiaaGreatDoor.Gpk
namespace Go.Proofs.YtecgkcofmphaiaaGreatDoor.Gpk
open Go.RowKit
set_option maxRecDepth 100000 in
set_option maxHeartbeats 1000000 in
theorem udpNext (b s d : Nat) (w : World) (h2 : w.cell? ⟨b, 2, none⟩ = some (.int .u16 (s : Nat))) (h3 : w.cell? ⟨b, 3, none⟩ = some (.int .u16 (d : Nat))) :
    Calls Tryz.prog 133 #[.pointer (some ⟨b, 0, none⟩)] w (Tells (if d = 4789 then .vxlan else freeOf s d) w) := by
  by_cases hd : d = 4789
  · subst hd
    rw [if_pos rfl]
    go_enter Tryz.func133, Tryz.ntmps133
    go_wp2_with (go_at_call 145; refine (udpLayer_vxlan _).mono ?_; rintro e w' ⟨rfl, rfl⟩)
    go_ret
    exact ⟨_, rfl, rfl, .inr .vxlan⟩
  · rw [if_neg hd]
    unfold freeOf
    by_cases hf : 50000 ≤ s ∧ 50000 ≤ d
    · rw [if_pos hf]
      have hs := hf.1
      have hd2 := hf.2
      clear hd hf
      go_enter Tryz.func133, Tryz.ntmps133
      go_wp2_with fail
      refine (udpLayer_free d hd2 _).mono ?_
      rintro e w' ⟨rfl, rfl⟩
      go_wp2_with fail
      refine (udpLayer_free s hs _).mono ?_
      rintro e w' ⟨rfl, rfl⟩
      go_wp2
      go_ret
      exact ⟨_, rfl, rfl, .inr .pay⟩
    · rw [if_neg hf]
      clear hf hd
      go_enter Tryz.func133, Tryz.ntmps133
      go_wp2_with fail
      refine (udpLayer_any d _).mono ?_
      rintro e w' ⟨v, rfl, rfl⟩
      by_cases hv : v = 2
      · subst hv
        go_wp2_with fail
        refine (udpLayer_any s _).mono ?_
        rintro e w' ⟨v, rfl, rfl⟩
        go_wp2
        go_ret
        exact ⟨_, rfl, rfl, .inl rfl⟩
      · have hv' : (v == 2) = false := by simpa using hv
        clear hv
        go_wp2
        go_ret
        exact ⟨_, rfl, rfl, .inl rfl⟩
theorem ip6Next (b x : Nat) (w : World) (h6 : w.cell? ⟨b, 6, none⟩ = some (.int .u8 (x : Nat))) (h10 : w.cell? ⟨b, 10, none⟩ = some (.pointer none)) :
    Calls Tryz.prog 123 #[.pointer (some ⟨b, 0, none⟩)] w (Tells (byProto x true) w) := by
  go_enter Tryz.func123, Tryz.ntmps123
  go_wp2_with (go_at_call 142; refine (prTells x true _).mono ?_; rintro e w' ⟨v, rfl, rfl, hT⟩)
  go_ret
  exact ⟨_, rfl, rfl, hT⟩
theorem greNlt (b x : Nat) (w : World) (h11 : w.cell? ⟨b, 11, none⟩ = some (.int .u16 (x : Nat))) :
    Calls Tryz.prog 231 #[.pointer (some ⟨b, 0, none⟩)] w (Tells (greNext x) w) := by
  go_enter Tryz.func231, Tryz.ntmps231
  go_wp2_with (go_at_call 197; refine (greTells x _).mono ?_; rintro e w' ⟨v, rfl, rfl, hT⟩)
  go_ret
  exact ⟨_, rfl, rfl, hT⟩
end Go.Proofs.YtecgkcofmphaiaaGreatDoor.Gpk
namespace Go.Proofs.YtecgkcofmphaiaaGreatDoor.Gpk
open Go.RowKit
set_option maxRecDepth 100000 in
theorem typeOf6 (x y : Nat) (hx : x < 256) (hy : y < 256) (w : World) : Calls Tryz.prog 227 #[.int .u16 (x * 256 + y : Nat)] w fun e w' => e = .returned (.int .u8 (x : Nat)) ∧ w = w' := by
  go_enter Tryz.func227, Tryz.ntmps227
  go_wp2
  go_ret
  refine ⟨?_, rfl⟩
  show Ending.returned (.int .u8 (((x : Int) * 256 + y) / 256)) = _
  rw [show ((x : Int) * 256 + y) / 256 = x from by omega]
set_option maxRecDepth 100000 in
set_option maxHeartbeats 1000000 in
theorem icmp6Any (b x y : Nat) (w : World) (hx : x < 256) (hy : y < 256) (h2 : w.cell? ⟨b, 2, none⟩ = some (.int .u16 (x * 256 + y : Nat))) (a : Option Addr) (n c : Nat) (h1 : w.cell? ⟨b, 1, none⟩ = some (.slice a n c)) :
    Calls Tryz.prog 225 #[.pointer (some ⟨b, 0, none⟩)] w (Tells .none w) := by
  go_enter Tryz.func225, Tryz.ntmps225
  go_wp2_with (go_at_call 227; refine (typeOf6 x y hx hy _).mono ?_; rintro e w' ⟨rfl, rfl⟩)
  all_goals (go_ret; exact ⟨_, rfl, rfl, .inl rfl⟩)
set_option maxRecDepth 100000 in
set_option maxHeartbeats 1000000 in
theorem icmp6Own100 (b y : Nat) (w : World) (hy : y < 256) (h2 : w.cell? ⟨b, 2, none⟩ = some (.int .u16 (100 * 256 + y : Nat))) :
    Calls Tryz.prog 225 #[.pointer (some ⟨b, 0, none⟩)] w (Tells .pay w) := by
  go_enter Tryz.func225, Tryz.ntmps225
  go_wp2_with (go_at_call 227; refine (typeOf6 100 y (by decide) hy _).mono ?_; rintro e w' ⟨rfl, rfl⟩)
  all_goals (go_ret; exact ⟨_, rfl, rfl, .inr .pay⟩)
set_option maxRecDepth 100000 in
set_option maxHeartbeats 1000000 in
theorem icmp6Own101 (b y : Nat) (w : World) (hy : y < 256) (h2 : w.cell? ⟨b, 2, none⟩ = some (.int .u16 (101 * 256 + y : Nat))) :
    Calls Tryz.prog 225 #[.pointer (some ⟨b, 0, none⟩)] w (Tells .pay w) := by
  go_enter Tryz.func225, Tryz.ntmps225
  go_wp2_with (go_at_call 227; refine (typeOf6 101 y (by decide) hy _).mono ?_; rintro e w' ⟨rfl, rfl⟩)
  all_goals (go_ret; exact ⟨_, rfl, rfl, .inr .pay⟩)
set_option maxRecDepth 100000 in
set_option maxHeartbeats 1000000 in
theorem icmp6Own200 (b y : Nat) (w : World) (hy : y < 256) (h2 : w.cell? ⟨b, 2, none⟩ = some (.int .u16 (200 * 256 + y : Nat))) :
    Calls Tryz.prog 225 #[.pointer (some ⟨b, 0, none⟩)] w (Tells .pay w) := by
  go_enter Tryz.func225, Tryz.ntmps225
  go_wp2_with (go_at_call 227; refine (typeOf6 200 y (by decide) hy _).mono ?_; rintro e w' ⟨rfl, rfl⟩)
  all_goals (go_ret; exact ⟨_, rfl, rfl, .inr .pay⟩)
set_option maxRecDepth 100000 in
set_option maxHeartbeats 1000000 in
theorem icmp6Own201 (b y : Nat) (w : World) (hy : y < 256) (h2 : w.cell? ⟨b, 2, none⟩ = some (.int .u16 (201 * 256 + y : Nat))) :
    Calls Tryz.prog 225 #[.pointer (some ⟨b, 0, none⟩)] w (Tells .pay w) := by
  go_enter Tryz.func225, Tryz.ntmps225
  go_wp2_with (go_at_call 227; refine (typeOf6 201 y (by decide) hy _).mono ?_; rintro e w' ⟨rfl, rfl⟩)
  all_goals (go_ret; exact ⟨_, rfl, rfl, .inr .pay⟩)
theorem icmp6Next (b x y : Nat) (w : World) (hx : x < 256) (hy : y < 256) (h2 : w.cell? ⟨b, 2, none⟩ = some (.int .u16 (x * 256 + y : Nat))) (D q m : Nat) (v : Value) (hv : Win D v q m) (h1 : w.cell? ⟨b, 1, none⟩ = some v) :
    Calls Tryz.prog 225 #[.pointer (some ⟨b, 0, none⟩)] w (Tells (if x = 100 ∨ x = 101 ∨ x = 200 ∨ x = 201 then .pay else .none) w) := by
  obtain ⟨a, c, rfl, _⟩ := hv
  by_cases h : x = 100 ∨ x = 101 ∨ x = 200 ∨ x = 201
  · rw [if_pos h]
    rcases h with h | h | h | h <;> subst h
    · exact icmp6Own100 b y w hy h2
    · exact icmp6Own101 b y w hy h2
    · exact icmp6Own200 b y w hy h2
    · exact icmp6Own201 b y w hy h2
  · rw [if_neg h]
    exact icmp6Any b x y w hx hy h2 a m c h1
end Go.Proofs.YtecgkcofmphaiaaGreatDoor.Gpk
namespace Go.Proofs.YtecgkcofmphaiaaGreatDoor.Gpk
open Go.RowKit
set_option maxHeartbeats 400000 in
theorem mkCode6 (x y : Nat) (hx : x < 256) (hy : y < 256) (w : World) : Calls Tryz.prog 226 #[.int .u8 x, .int .u8 y] w fun e w' => e = .returned (.int .u16 (x * 256 + y : Nat)) ∧ ∃ k, w' = (w.alloc (.cells #[.int .u8 x, .int .u8 y] 5)).drewN k := by
  go_enter Tryz.func226, Tryz.ntmps226
  go_wp2_with fail
  refine (be16 _ _ _ x y _ hx hy (by simp [go_sem]) (by simp [go_sem])).mono ?_
  rintro e w' ⟨rfl, k, rfl⟩
  go_wp2
  go_ret
  exact ⟨rfl, _, rfl⟩
set_option maxRecDepth 100000 in
set_option maxHeartbeats 4000000 in
theorem icmp6D (D q n c : Nat) (f : Nat → Nat) (df : Value) (z0 z1 z2 z3 z4 z5 : Value) (w : World) (hB : Byt w D q f n) (hf : IsB f) (hc : n ≤ c) (hm : c ≤ maxLen) (hn : 4 ≤ n) :
    Calls Tryz.prog 223 #[.pointer (some ⟨w.heap.size, 0, none⟩), .slice (some ⟨D, q, none⟩) n c, df] (w.alloc (.cells #[z0, z1, z2, z3, z4, z5] 255)) fun e w' =>
      e = .returned .nilIface ∧ Laid w w' 255 (Hdr1 D q 4 (n - 4) 6 2 (.int .u16 (f 0 * 256 + f 1 : Nat))) := by
  have hm' := hm
  unfold maxLen at hm'
  have hD := hB.lt (by omega)
  have b0 := hf 0
  have d0 := hB.at0 (by omega)
  have b1 := hf 1
  have d1 := hB.at 1 (by omega)
  have b2 := hf 2
  have d2 := hB.at 2 (by omega)
  have b3 := hf 3
  have d3 := hB.at 3 (by omega)
  have c0 := byt_past0 hB  (by omega)
  have c1 := byt_past hB 1 (by omega)
  have hi0 : (0 : Int) < (n : Int) := by omega
  have hi1 : (1 : Int) < (n : Int) := by omega
  have hn0 : 0 < n := by omega
  have hD1 : D < w.heap.size + 1 := by omega
  go_enter Tryz.func223, Tryz.ntmps223
  go_wp2_with fail
  go_region_held3 (fun w' => w'.cell? ⟨D, q, none⟩ = some (.int .u8 (f 0 : Nat)) ∧ w'.cell? ⟨D, q + 1, none⟩ = some (.int .u8 (f 1 : Nat))) (first | exact ⟨c0 _, c1 _⟩ | (simp [go_sem, hD, hD1, d0, d1]; done)) (first | (go_at_call 226; refine (mkCode6 (f 0) (f 1) b0 b1 _).mono ?_; rintro e w' ⟨rfl, k, rfl⟩))
  go_wp2_with fail
  refine (be16 _ _ _ (f 2) (f 3) _ b2 b3 (by simp [go_sem, hD, hD1, d2]) (by simp [go_sem, hD, hD1, d3])).mono ?_; rintro e w' ⟨rfl, k, rfl⟩
  go_wp2_with fail
  go_region
  go_wp2
  all_goals (go_ret; exact ⟨rfl, Laid.mk2 _ _ _ _ _ _ ⟨⟨rfl, ⟨_, rfl, _, _, rfl, by omega, by omega, fun h => by first | rfl | omega | (rw [if_neg (by omega)])⟩, ⟨_, rfl, _, _, rfl, by omega, by omega, fun h => by first | rfl | omega | (rw [if_neg (by omega)])⟩⟩, rfl⟩⟩)
end Go.Proofs.YtecgkcofmphaiaaGreatDoor.Gpk
namespace Go.Proofs.YtecgkcofmphaiaaGreatDoor.Gpk
open Go.RowKit
set_option maxRecDepth 100000 in
set_option maxHeartbeats 2000000 in
theorem decIcmpSix {F : Fix} (hF : F.ok) (p n : Nat) (hp : p + n ≤ F.L) (nx : Nm) (ps : List Piece) (t1 : 4 ≤ n) (hx : nx = (if F.g p = 100 ∨ F.g p = 101 ∨ F.g p = 200 ∨ F.g p = 201 then .pay else .none)) (r : Chain F.g (p + (4)) nx (n - (4)) ps)
    (ih : decodable nx = true → 0 < n - (4) → DecOK F (fnOf nx) (p + (4)) (n - (4)) ps) : DecOK F 106 p n ({ nm := .icmp6, at_ := p, size := 4, fin := n } :: ps) := by
  intro c w ls hc hm hI hlen
  have hlen' : ls.length + ps.length + 1 ≤ 20 := by simpa [Nat.add_assoc] using hlen
  clear hlen
  have hB := hI.byt hF p n hp
  have hf := hF.sub p
  have HI := Lib.hid hI
  have HR := Lib.hid r
  have HIH := Lib.hid ih
  clear hI r ih
  have HHX := Lib.hid hx
  clear hx
  go_enter Tryz.func106, Tryz.ntmps106
  go_wp2_with (go_at_call 118; go_in)
  refine (icmp6D F.D p n c _ _ _ _ _ _ _ _ w hB hf hc hm t1).mono ?_
  rintro e w1 ⟨rfl, hL⟩
  have HL := Lib.hid hL
  clear hL
  go_wp2_with fail
  refine (addLayer hF (HL.out.inv HI.out) (by omega) { v := .iface 133 (.pointer (some ⟨w.heap.size, 0, none⟩)), nm := .icmp6, cq := p, cn := 4, pq := p + (4), pn := n - (4) } (layOK .icmp6 HL.out (fun _ h => h.1) (by omega) (by omega)) 133 _ rfl).mono ?_
  rintro e w2 ⟨rfl, hA⟩
  have HA := Lib.hid hA
  clear hA
  obtain ⟨cs, v1, hcs, hP, hv1, hW⟩ := HL.out.later (fun _ h => h.1) HA.out.2 (by decide) (by decide)
  have cx : w2.cell? ⟨w.heap.size, 2, none⟩ = some (.int .u16 (F.g p * 256 + F.g (p + 1) : Nat)) := (cell_of_row w2 w.heap.size 2 cs 255 (0, 0) hcs).trans hP.2
  have cy : w2.cell? ⟨w.heap.size, 1, none⟩ = some v1 := (cell_of_row w2 w.heap.size 1 cs 255 (0, 0) hcs).trans hv1
  clear hP
  have HCS := Lib.hid hcs
  have HV1 := Lib.hid hv1
  clear hcs hv1
  go_wp2_with fail
  refine (icmp6Next w.heap.size (F.g p) (F.g (p + 1)) _ (hf 0) (hf 1) cx _ _ _ _ hW cy).mono ?_
  rintro e w' ⟨v, rfl, rfl, hT⟩
  have HT : Hid (nx = .none ∨ NextIs (.iface 75 (.int .i64 v)) nx) := by rw [HHX.out]; exact hT
  clear hT
  by_cases hv : v = 0
  · subst hv
    go_wp2
    go_ret
    exact ⟨_, rfl, (told0 HA.out.1 HR.out HT.out).cons ⟨rfl, rfl, rfl, rfl, rfl⟩⟩
  · have hv' : (v == 0) = false := by simpa using hv
    clear hv
    go_wp2_with fail
    refine (nextStep0 hF HA.out.1 .icmp6 w.heap.size cs rfl HCS.out v1 HV1.out (p + (4)) (n - (4)) hW (by omega) (.iface 75 (.int .i64 v)) nx ps HR.out (told HR.out HT.out) (by omega) HIH.out).mono ?_
    rintro e w' ⟨u, rfl, hD⟩
    have HD := Lib.hid hD
    clear hD
    go_wp2
    go_ret
    exact ⟨_, rfl, HD.out.cons ⟨rfl, rfl, rfl, rfl, rfl⟩⟩
end Go.Proofs.YtecgkcofmphaiaaGreatDoor.Gpk
