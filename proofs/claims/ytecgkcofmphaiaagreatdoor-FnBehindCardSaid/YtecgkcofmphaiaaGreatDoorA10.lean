/- The decoder of packets of the sixth version.
   Packets of the sixth version, with what follows them.
   The decoder of virtual networks.
   Virtual networks, with what follows them.
   What a packet of the fourth version says of the next layer.
   The loop over the options of a packet of the fourth version.
   A round of the loop over options.
   A round of the loop over options, from its state.
   A round of the loop over options. -/
import Derived.Test.YtecgkcofmphaiaaGreatDoorA00
import Derived.Test.YtecgkcofmphaiaaGreatDoorA07
import Derived.Test.YtecgkcofmphaiaaGreatDoorA02
set_option linter.unusedVariables false
set_option linter.unusedSimpArgs false
set_option linter.unnecessarySimpa false
set_option linter.unusedSectionVars false
namespace Go.Proofs.YtecgkcofmphaiaaGreatDoor.Gpk
open Go.RowKit
set_option maxRecDepth 100000 in
set_option maxHeartbeats 4000000 in
theorem ip6D (D q n c : Nat) (f : Nat → Nat) (df : Value) (z0 z1 z2 z3 z4 z5 z6 z7 z8 z9 z10 z11 z12 z13 z14 z15 z16 : Value) (w : World) (hB : Byt w D q f n) (hf : IsB f) (hc : n ≤ c) (hm : c ≤ maxLen) (hn : 40 ≤ n) (h6 : 1 ≤ f 6) (hl : 1 ≤ f 4 * 256 + f 5) (hk : f 4 * 256 + f 5 + 40 ≤ n) :
    Calls Tryz.prog 122 #[.pointer (some ⟨w.heap.size, 0, none⟩), .slice (some ⟨D, q, none⟩) n c, df] (w.alloc (.cells #[z0, z1, z2, z3, z4, z5, z6, z7, z8, z9, z10, z11, z12, z13, z14, z15, z16] 195)) fun e w' =>
      e = .returned .nilIface ∧ Laid w w' 195 (Hdr2 D q 40 (f 4 * 256 + f 5) 17 6 (.int .u8 (f 6 : Nat)) 10 (.pointer none)) := by
  have hm' := hm
  unfold maxLen at hm'
  have hD := hB.lt (by omega)
  have b0 := hf 0
  have c0 := byt_past0 hB  (by omega)
  have b1 := hf 1
  have c1 := byt_past hB 1 (by omega)
  have b2 := hf 2
  have c2 := byt_past hB 2 (by omega)
  have b3 := hf 3
  have c3 := byt_past hB 3 (by omega)
  have b4 := hf 4
  have c4 := byt_past hB 4 (by omega)
  have b5 := hf 5
  have c5 := byt_past hB 5 (by omega)
  have b6 := hf 6
  have c6 := byt_past hB 6 (by omega)
  have b7 := hf 7
  have c7 := byt_past hB 7 (by omega)
  go_enter Tryz.func122, Tryz.ntmps122
  go_wp2_with fail
  refine (be16 _ _ _ (f 0) (f 1) _ b0 b1 (by first | exact c0 _ | (simp only [World.cell?_drewN]; exact c0 _)) (by first | exact c1 _ | (simp only [World.cell?_drewN]; exact c1 _))).mono ?_; rintro e w' ⟨rfl, k, rfl⟩
  go_wp2_with fail
  refine (be32 _ _ _ _ (f 0) (f 1) (f 2) (f 3) b0 b1 b2 b3 (by first | exact c0 _ | (simp only [World.cell?_drewN]; exact c0 _)) (by first | exact c1 _ | (simp only [World.cell?_drewN]; exact c1 _)) (by first | exact c2 _ | (simp only [World.cell?_drewN]; exact c2 _)) (by first | exact c3 _ | (simp only [World.cell?_drewN]; exact c3 _))).mono ?_; rintro e w' ⟨⟨v, rfl⟩, k, rfl⟩
  go_wp2_with fail
  refine (be16 _ _ _ (f 4) (f 5) _ b4 b5 (by first | exact c4 _ | (simp only [World.cell?_drewN]; exact c4 _)) (by first | exact c5 _ | (simp only [World.cell?_drewN]; exact c5 _))).mono ?_; rintro e w' ⟨rfl, k, rfl⟩
  go_wp2_with fail
  go_region
  go_wp2
  all_goals (go_ret; exact ⟨rfl, Laid.mk _ _ _ _ _ ⟨⟨rfl, ⟨_, rfl, _, _, rfl, by omega, by omega, fun h => by first | rfl | omega | (rw [if_neg (by omega)])⟩, ⟨_, rfl, _, _, rfl, by omega, by omega, fun h => by first | rfl | omega | (rw [if_neg (by omega)])⟩⟩, rfl, rfl⟩⟩)
end Go.Proofs.YtecgkcofmphaiaaGreatDoor.Gpk
namespace Go.Proofs.YtecgkcofmphaiaaGreatDoor.Gpk
open Go.RowKit
set_option maxRecDepth 100000 in
set_option maxHeartbeats 2000000 in
theorem decIpSix {F : Fix} (hF : F.ok) (p n : Nat) (hp : p + n ≤ F.L) (nx : Nm) (ps : List Piece) (t1 : 40 ≤ n) (t2 : 1 ≤ F.g (p + 6)) (t3 : 1 ≤ F.g (p + 4) * 256 + F.g (p + 5)) (t4 : F.g (p + 4) * 256 + F.g (p + 5) + 40 ≤ n) (hx : nx = byProto (F.g (p + 6)) true) (r : Chain F.g (p + (40)) nx (40 + (F.g (p + 4) * 256 + F.g (p + 5)) - (40)) ps)
    (ih : decodable nx = true → 0 < 40 + (F.g (p + 4) * 256 + F.g (p + 5)) - (40) → DecOK F (fnOf nx) (p + (40)) (40 + (F.g (p + 4) * 256 + F.g (p + 5)) - (40)) ps) : DecOK F 93 p n ({ nm := .ip6, at_ := p, size := 40, fin := 40 + (F.g (p + 4) * 256 + F.g (p + 5)) } :: ps) := by
  intro c w ls hc hm hI hlen
  have hlen' : ls.length + ps.length + 1 ≤ 20 := by simpa [Nat.add_assoc] using hlen
  clear hlen
  have hB := hI.byt hF p n hp
  have hf := hF.sub p
  have HI := Lib.hid hI
  have HR := Lib.hid r
  have HIH := Lib.hid ih
  clear hI r ih
  have HHX := Lib.hid hx
  clear hx
  go_enter Tryz.func93, Tryz.ntmps93
  go_wp2_with fail
  refine (ip6D F.D p n c _ _ _ _ _ _ _ _ _ _ _ _ _ _ _ _ _ _ _ w hB hf hc hm t1 t2 t3 t4).mono ?_
  rintro e w1 ⟨rfl, hL⟩
  replace hL : Laid w w1 195 (Hdr2 F.D p 40 (40 + (F.g (p + 4) * 256 + F.g (p + 5)) - 40) 17 6 (.int .u8 (F.g (p + 6) : Nat)) 10 (.pointer none)) := by rw [Nat.add_sub_cancel_left]; exact hL
  have HL := Lib.hid hL
  clear hL
  go_wp2_with fail
  refine (addLayer hF (HL.out.inv HI.out) (by omega) { v := .iface 129 (.pointer (some ⟨w.heap.size, 0, none⟩)), nm := .ip6, cq := p, cn := 40, pq := p + (40), pn := 40 + (F.g (p + 4) * 256 + F.g (p + 5)) - (40) } (layOK .ip6 HL.out (fun _ h => h.1) (by omega) (by omega)) 129 _ rfl).mono ?_
  rintro e w2 ⟨rfl, hA⟩
  have HA := Lib.hid hA
  clear hA
  obtain ⟨cs, v1, hcs, hP, hv1, hW⟩ := HL.out.later (fun _ h => h.1) HA.out.2 (by decide) (by decide)
  have cx : w2.cell? ⟨w.heap.size, 6, none⟩ = some (.int .u8 (F.g (p + 6) : Nat)) := (cell_of_row w2 w.heap.size 6 cs 195 (0, 0) hcs).trans hP.2.1
  have cy : w2.cell? ⟨w.heap.size, 10, none⟩ = some (.pointer none) := (cell_of_row w2 w.heap.size 10 cs 195 (0, 0) hcs).trans hP.2.2
  clear hP
  go_wp2_with fail
  refine (setNet _ _ _).mono ?_
  rintro e w' ⟨rfl, rfl⟩
  have HQ := Lib.hid (fun (k : Nat) => (ip6Next w.heap.size (F.g (p + 6)) (w2.drewN k) cx cy))
  have HN := Lib.hid (fun (v : Int) (hT : nx = .none ∨ NextIs (.iface 75 (.int .i64 v)) nx) (k : Nat) => nextStep hF HA.out.1 .ip6 w.heap.size cs rfl hcs v1 hv1 (p + (40)) (40 + (F.g (p + 4) * 256 + F.g (p + 5)) - (40)) hW (by omega) (.iface 75 (.int .i64 v)) nx ps HR.out (told HR.out hT) (by omega) HIH.out k)
  have HCS := Lib.hid hcs
  have HV1 := Lib.hid hv1
  have HWW := Lib.hid hW
  clear hcs hv1 hW
  have hnil := nilND
  go_wp2_with fail
  go_region_with (first
    | (go_at_call 123; refine (HQ.out _).mono ?_; rintro e w' ⟨v, rfl, rfl, hT⟩; have HT : Hid (nx = .none ∨ NextIs (.iface 75 (.int .i64 v)) nx) := by rw [HHX.out]; exact hT)
    | (go_at_call 186; refine (HN.out _ HT.out _).mono ?_; rintro e w' ⟨u, rfl, hD⟩; have HD := Lib.hid hD; clear hD))
  all_goals
    go_wp2
    go_ret
    exact ⟨_, rfl, HD.out.cons ⟨rfl, rfl, rfl, rfl, rfl⟩⟩
end Go.Proofs.YtecgkcofmphaiaaGreatDoor.Gpk
namespace Go.Proofs.YtecgkcofmphaiaaGreatDoor.Gpk
open Go.RowKit
theorem setRow_alloc (v : World) (a b : Array Value) (t : TypeId) : (v.alloc (.cells a t)).setRow v.heap.size b = v.alloc (.cells b t) := by
  simp only [World.setRow, World.alloc]
  congr 1
  apply Array.ext_getElem?
  intro i
  rw [Array.getElem?_modify]
  by_cases h : v.heap.size = i
  · subst h; simp
  · rw [if_neg h, Array.getElem?_push, Array.getElem?_push]; simp [show ¬ i = v.heap.size from fun e => h e.symm]
theorem copy_vx (w : World) (S : Obj) (D q c' : Nat) (x y z : Nat) (k : Nat) (hD : D < w.heap.size) (h0 : w.cell? ⟨D, q, none⟩ = some (.int .u8 x)) (h1 : w.cell? ⟨D, q + 1, none⟩ = some (.int .u8 y)) (h2 : w.cell? ⟨D, q + 2, none⟩ = some (.int .u8 z)) :
    (Builtin.copy_ #[22, 22] 3 #[.slice (some ⟨w.heap.size + 1, 1, none⟩) 3 3, .slice (some ⟨D, q, none⟩) 3 c']).run Tryz.prog (((w.alloc S).alloc (.cells #[.int .u8 0, .int .u8 0, .int .u8 0, .int .u8 0] 327)).drewN k)
      = .ok (.int .i64 3) (((w.alloc S).alloc (.cells #[.int .u8 0, .int .u8 x, .int .u8 y, .int .u8 z] 327)).drewN k) := by
  have hd1 : D < w.heap.size + 1 := by omega
  have hr := run_copy_row (P := Tryz.prog) (((w.alloc S).alloc (.cells #[.int .u8 0, .int .u8 0, .int .u8 0, .int .u8 0] 327)).drewN k) 22 22 3 5 (w.heap.size + 1) 1 3 3 ⟨D, q, none⟩ 3 c' #[.int .u8 0, .int .u8 0, .int .u8 0, .int .u8 0] 327 [.int .u8 x, .int .u8 y, .int .u8 z]
    Tryz.underlying22 (by kernel_rfl) (by have := heap_alloc_new (w.alloc S) (.cells #[.int .u8 0, .int .u8 0, .int .u8 0, .int .u8 0] 327); simpa using this) rfl
    (by intro j v hv
        match j, hv with
        | 0, hv => simp at hv; subst hv; simp [Addr.add, go_sem, hD, hd1, h0]
        | 1, hv => simp at hv; subst hv; simp [Addr.add, go_sem, hD, hd1, h1]
        | 2, hv => simp at hv; subst hv; simp [Addr.add, go_sem, hD, hd1, h2]) (by simp) (by intro v hv; simp at hv; rcases hv with rfl | rfl | rfl <;> rfl)
  rw [hr]
  have e := setRow_alloc (w.alloc S) #[.int .u8 0, .int .u8 0, .int .u8 0, .int .u8 0] #[.int .u8 0, .int .u8 x, .int .u8 y, .int .u8 z] 327
  have hs : (w.alloc S).heap.size = w.heap.size + 1 := by simp
  rw [hs] at e
  rw [← e]
  rfl
set_option maxRecDepth 100000 in
set_option maxHeartbeats 4000000 in
theorem vxlanD (D q n c : Nat) (f : Nat → Nat) (df : Value) (z0 z1 z2 z3 z4 z5 z6 z7 : Value) (w : World) (hB : Byt w D q f n) (hf : IsB f) (hc : n ≤ c) (hm : c ≤ maxLen) (hn : 8 ≤ n) :
    Calls Tryz.prog 140 #[.pointer (some ⟨w.heap.size, 0, none⟩), .slice (some ⟨D, q, none⟩) n c, df] (w.alloc (.cells #[z0, z1, z2, z3, z4, z5, z6, z7] 265)) fun e w' =>
      e = .returned .nilIface ∧ Laid w w' 265 (Hdr D q 8 (n - 8) 8) := by
  have hm' := hm
  unfold maxLen at hm'
  have hD := hB.lt (by omega)
  have b0 := hf 0
  have d0 := hB.at0 (by omega)
  have b1 := hf 1
  have d1 := hB.at 1 (by omega)
  have b2 := hf 2
  have d2 := hB.at 2 (by omega)
  have b3 := hf 3
  have d3 := hB.at 3 (by omega)
  have b4 := hf 4
  have d4 := hB.at 4 (by omega)
  have b5 := hf 5
  have d5 := hB.at 5 (by omega)
  have b6 := hf 6
  have d6 := hB.at 6 (by omega)
  have b7 := hf 7
  have d7 := hB.at 7 (by omega)
  have hD1 : D < w.heap.size + 1 := by omega
  have hcp := fun k => copy_vx w (.cells #[z0, z1, z2, z3, z4, z5, z6, z7] 265) D (q + 4) (c - 4) (f 4) (f 5) (f 6) k hD d4 (hB.at 5 (by omega)) (hB.at 6 (by omega))
  go_enter Tryz.func140, Tryz.ntmps140
  go_wp2_with fail
  go_region
  go_wp2_with fail
  refine (be32 _ _ _ _ 0 (f 4) (f 5) (f 6) (by decide) b4 b5 b6 (by simp [go_sem]) (by simp [go_sem]) (by simp [go_sem]) (by simp [go_sem])).mono ?_; rintro e w' ⟨⟨v, rfl⟩, k, rfl⟩
  go_wp2_with fail
  refine (be16 _ _ _ (f 2) (f 3) _ b2 b3 (by simp [go_sem, hD, hD1, d2]) (by simp [go_sem, hD, hD1, d3])).mono ?_; rintro e w' ⟨rfl, k, rfl⟩
  go_wp2
  all_goals (go_ret; exact ⟨rfl, Laid.mk2 _ _ _ _ _ _ ⟨rfl, ⟨_, rfl, _, _, rfl, by omega, by omega, fun h => by first | rfl | omega | (rw [if_neg (by omega)])⟩, ⟨_, rfl, _, _, rfl, by omega, by omega, fun h => by first | rfl | omega | (rw [if_neg (by omega)])⟩⟩⟩)
end Go.Proofs.YtecgkcofmphaiaaGreatDoor.Gpk
namespace Go.Proofs.YtecgkcofmphaiaaGreatDoor.Gpk
open Go.RowKit
set_option maxRecDepth 100000 in
set_option maxHeartbeats 2000000 in
theorem decVxlan {F : Fix} (hF : F.ok) (p n : Nat) (hp : p + n ≤ F.L) (nx : Nm) (ps : List Piece) (t1 : 8 ≤ n) (hx : nx = .eth) (r : Chain F.g (p + (8)) nx (n - (8)) ps)
    (ih : decodable nx = true → 0 < n - (8) → DecOK F (fnOf nx) (p + (8)) (n - (8)) ps) : DecOK F 108 p n ({ nm := .vxlan, at_ := p, size := 8, fin := n } :: ps) := by
  intro c w ls hc hm hI hlen
  have hlen' : ls.length + ps.length + 1 ≤ 20 := by simpa [Nat.add_assoc] using hlen
  clear hlen
  have hB := hI.byt hF p n hp
  have hf := hF.sub p
  have HI := Lib.hid hI
  have HR := Lib.hid r
  have HIH := Lib.hid ih
  clear hI r ih
  have HHX := Lib.hid hx
  clear hx
  go_enter Tryz.func108, Tryz.ntmps108
  go_wp2_with fail
  refine (vxlanD F.D p n c _ _ _ _ _ _ _ _ _ _ w hB hf hc hm t1).mono ?_
  rintro e w1 ⟨rfl, hL⟩
  have HL := Lib.hid hL
  clear hL
  go_wp2_with fail
  refine (addLayer hF (HL.out.inv HI.out) (by omega) { v := .iface 135 (.pointer (some ⟨w.heap.size, 0, none⟩)), nm := .vxlan, cq := p, cn := 8, pq := p + (8), pn := n - (8) } (layOK .vxlan HL.out (fun _ h => h) (by omega) (by omega)) 135 _ rfl).mono ?_
  rintro e w2 ⟨rfl, hA⟩
  have HA := Lib.hid hA
  clear hA
  obtain ⟨cs, v1, hcs, hP, hv1, hW⟩ := HL.out.later (fun _ h => h) HA.out.2 (by decide) (by decide)
  clear hP
  have HN := Lib.hid (fun (k : Nat) => nextStep hF HA.out.1 .vxlan w.heap.size cs rfl hcs v1 hv1 (p + (8)) (n - (8)) hW (by omega) (.iface 158 (.int .u8 1)) nx ps HR.out (by rw [HHX.out]; exact .inr .link) (by omega) HIH.out k)
  have HCS := Lib.hid hcs
  have HV1 := Lib.hid hv1
  have HWW := Lib.hid hW
  clear hcs hv1 hW
  have hnil := nilND
  go_wp2_with fail
  refine (HN.out 0).mono ?_
  rintro e w' ⟨u, rfl, hD⟩
  have HD := Lib.hid hD
  clear hD
  go_wp2
  go_ret
  exact ⟨_, rfl, HD.out.cons ⟨rfl, rfl, rfl, rfl, rfl⟩⟩
end Go.Proofs.YtecgkcofmphaiaaGreatDoor.Gpk
namespace Go.Proofs.YtecgkcofmphaiaaGreatDoor.Gpk
open Go.RowKit
set_option maxRecDepth 100000 in
set_option maxHeartbeats 1000000 in
theorem ip4Next (b x pr : Nat) (hx : x < 65536) (w : World) (h7 : w.cell? ⟨b, 7, none⟩ = some (.int .u8 (x / 8192 : Nat))) (h8 : w.cell? ⟨b, 8, none⟩ = some (.int .u16 (bits .and .u16 ((x : Nat) : Int) 8191))) (h10 : w.cell? ⟨b, 10, none⟩ = some (.int .u8 (pr : Nat))) :
    Calls Tryz.prog 121 #[.pointer (some ⟨b, 0, none⟩)] w (Tells (if x % 16384 = 0 then byProto pr false else .none) w) := by
  have hy : x / 8192 < 256 := by omega
  have e8 : bits .and .u16 ((x : Nat) : Int) 8191 = ((x % 8192 : Nat) : Int) := by
    have h := u16_and_nat x 8191 hx (by omega)
    rw [show x &&& 8191 = x % 8192 from Nat.and_two_pow_sub_one_eq_mod x 13] at h
    exact h
  rw [e8] at h8
  have e7 : bits .and .u8 ((x / 8192 : Nat) : Int) 1 = ((x / 8192 % 2 : Nat) : Int) := by
    have h := u8_and_nat (x / 8192) 1 hy (by omega)
    rw [Nat.and_one_is_mod] at h
    exact h
  generalize hY : x / 8192 = y at *
  generalize hZ : x % 8192 = z at *
  by_cases hz : x % 16384 = 0
  · rw [if_pos hz]
    have y0 : y % 2 = 0 := by omega
    have z0 : z = 0 := by omega
    subst z0
    rw [y0] at e7
    clear hY hZ hz
    go_enter Tryz.func121, Tryz.ntmps121
    go_wp2_with (go_at_call 142; refine (prTells pr false _).mono ?_; rintro e w' ⟨v, rfl, rfl, hT⟩)
    all_goals (go_ret; exact ⟨_, rfl, rfl, hT⟩)
  · rw [if_neg hz]
    clear hY hZ hz e8
    go_enter Tryz.func121, Tryz.ntmps121
    go_wp2_with (go_at_call 142; refine (prTells pr false _).mono ?_; rintro e w' ⟨v, rfl, rfl, hT⟩)
    all_goals (go_ret; exact ⟨_, rfl, rfl, .inl rfl⟩)
end Go.Proofs.YtecgkcofmphaiaaGreatDoor.Gpk
namespace Go.Proofs.YtecgkcofmphaiaaGreatDoor.Gpk
open Go.RowKit
set_option linter.unusedVariables false
def firstLoop : Code → Option Code
  | .loop c => some c
  | .seq a b => match firstLoop a with
    | some c => some c
    | none => firstLoop b
  | .block _ c => firstLoop c
  | .scope c => firstLoop c
  | .cond _ a b => match firstLoop a with
    | some c => some c
    | none => firstLoop b
  | _ => none
noncomputable def ip4Body : Code := ((Tryz.f120.body.bind firstLoop).getD .skip)
theorem Tryz.info295 : (Tryz.prog.info? 295).map (fun i => (i.zero, i.size, i.bytes)) = some (some (.agg #[.int .u8 0, .int .u8 0, .slice none 0 0]), 3, 32) := by kernel_rfl
/-- Four options, all zero. -/
def made4 : Array Value := #[.int .u8 0, .int .u8 0, .slice none 0 0, .int .u8 0, .int .u8 0, .slice none 0 0, .int .u8 0, .int .u8 0, .slice none 0 0, .int .u8 0, .int .u8 0, .slice none 0 0]
theorem makeFour (w : World) : (Instr.makeSlice 183 (.int .i64 0) (.int .i64 4)).run Tryz.prog w = .ok (.slice (some ⟨w.heap.size, 0, none⟩) 0 4) (w.alloc (.cells made4 295)) := by kernel_rfl
theorem madeOwns (wr : World) (g : Nat) (o2 o3 : Obj) (n : Nat) (hg : g < wr.heap.size) : (((((wr.setCell ⟨g, 14, none⟩ (.slice (some ⟨wr.heap.size, 0, none⟩) 0 4)).alloc (.cells made4 295)).alloc o2).alloc o3).drewN n).ownsRow (g + 1) 295 3 (.slice (some ⟨wr.heap.size, 0, none⟩) 0 4) 0 [] := by
  have h := World.ownsRow_made (base := g + 1) (e := 295) (size := 3) (wr.setCell ⟨g, 14, none⟩ (.slice (some ⟨wr.heap.size, 0, none⟩) 0 4)) made4 4 (by simp [World.setCell]; omega) (by decide) rfl
  have e : (wr.setCell ⟨g, 14, none⟩ (.slice (some ⟨wr.heap.size, 0, none⟩) 0 4)).heap.size = wr.heap.size := by simp [World.setCell]
  rw [e] at h
  exact (h.alloc o2).alloc o3
def lenOf : Value → Nat | .slice _ n _ => n | _ => 0

/-- What is told of the cells of a packet's header. -/
def IpH (D q hw m : Nat) (u7 u8 u10 : Value) (cs : Array Value) : Prop := Hdr D q (hw * 4) m 16 cs ∧ cs[7]? = some u7 ∧ cs[8]? = some u8 ∧ cs[10]? = some u10
theorem IpH.set {D q hw m : Nat} {u7 u8 u10 : Value} {cs : Array Value} (h : IpH D q hw m u7 u8 u10 cs) (i : Nat) (hi : 2 ≤ i) (h7 : i ≠ 7) (h8 : i ≠ 8) (h10 : i ≠ 10) (v : Value) : IpH D q hw m u7 u8 u10 (cs.setIfInBounds i v) := by
  refine ⟨h.1.set i hi v, ?_, ?_, ?_⟩
  · rw [Array.getElem?_setIfInBounds_ne h7]; exact h.2.1
  · rw [Array.getElem?_setIfInBounds_ne h8]; exact h.2.2.1
  · rw [Array.getElem?_setIfInBounds_ne h10]; exact h.2.2.2
set_option maxRecDepth 1000000 in
/-- The loop's state: the place in the options, how many were laid. -/
inductive IpS (D q hw m : Nat) (f : Nat → Nat) (df : Value) (w : World) (u7 u8 u10 : Value) (x3 x4 x5 x6 x7 x8 x9 x10 x11 x12 x13 x14 x15 x16 x17 x18 x19 x20 x21 x22 x23 x24 x25 x26 x27 x28 x29 x30 x31 x32 x33 x34 x35 x36 x37 x38 x39 x40 x41 x42 x43 x44 x45 x46 x47 x48 x49 x50 x51 x52 x53 x54 x55 x56 x57 x58 x59 x60 x61 x62 x63 x64 x65 x66 x67 x68 x69 x70 x71 x72 x73 x74 x75 x76 x77 x78 x79 x80 x81 x82 x83 x84 x85 x86 x87 x88 x89 x90 x91 x92 x93 x94 x95 x96 x97 x98 x99 x100 x101 x102 x103 x104 x105 x106 x107 x108 x109 x110 x111 x112 x113 x114 x115 x116 x117 x118 x119 x120 x121 x122 x123 x124 x125 x126 x127 x128 x129 x130 x131 x132 x133 x134 x135 x136 x137 x138 x139 x140 x141 x142 x143 x144 x145 x146 x147 x148 x149 x150 x151 x152 x153 x154 x155 x156 x157 x158 x159 x160 x161 x162 x163 x164 x165 x166 x167 x168 x169 x170 x171 x172 x173 x174 x175 x176 x177 x178 x179 x180 x181 x182 x183 x184 x185 x186 x187 x188 x189 x190 x191 x192 x193 x194 x195 x196 x197 x198 x199 x200 x201 x202 x203 x204 x205 x206 x207 x208 x209 x210 x211 x212 x213 x214 x215 x216 x217 x218 x219 x220 x221 x222 x223 x224 x225 x226 x227 x228 x229 x230 x231 x232 x233 x234 x235 x236 x237 x238 x239 x240 x241 x242 x243 x244 x245 x246 x247 x248 x249 x250 x251 x252 x253 x254 x255 x256 x257 x258 x259 x260 x261 x262 x263 x264 x265 x266 x267 x268 x269 x270 x271 x272 x273 x274 x275 x276 x277 x278 x279 x280 x281 x282 x283 x284 x285 x286 x287 x288 x289 x290 x291 x292 x293 : Value) (i k : Nat) (a : Act) (wr : World) : Prop
  | mk (C : Nat) (A : Option Addr) (V : Value) (xs : List Value) (y6 y9 y201 y202 y203 y204 y205 y206 y207 y208 y209 y210 y211 y212 y213 y214 y215 y216 y217 y218 y219 y220 y221 y222 y223 y224 y225 y226 y227 y228 y229 y230 y231 y232 y233 y234 y235 y236 y237 y238 y239 y240 y241 y242 y243 y244 y245 y246 y247 y248 y249 y250 y251 y252 y253 y254 y255 y256 y257 y258 y259 y260 y261 y262 y263 y264 y265 y266 y267 y268 y269 y270 y271 y272 y273 y274 y275 y276 y277 y278 y279 y280 y281 y282 y283 y284 y285 y286 y287 y288 y289 y290 y291 y292 y293 : Value) (he : a = ⟨List.toArray (.pointer (some ⟨w.heap.size, 0, none⟩) :: .slice A (hw * 4 - 20 - i) C :: df :: x3 :: x4 :: x5 :: y6 :: x7 :: x8 :: y9 :: x10 :: x11 :: x12 :: x13 :: x14 :: x15 :: x16 :: x17 :: x18 :: x19 :: x20 :: x21 :: x22 :: x23 :: x24 :: x25 :: x26 :: x27 :: x28 :: x29 :: x30 :: x31 :: x32 :: x33 :: x34 :: x35 :: x36 :: x37 :: x38 :: x39 :: x40 :: x41 :: x42 :: x43 :: x44 :: x45 :: x46 :: x47 :: x48 :: x49 :: x50 :: x51 :: x52 :: x53 :: x54 :: x55 :: x56 :: x57 :: x58 :: x59 :: x60 :: x61 :: x62 :: x63 :: x64 :: x65 :: x66 :: x67 :: x68 :: x69 :: x70 :: x71 :: x72 :: x73 :: x74 :: x75 :: x76 :: x77 :: x78 :: x79 :: x80 :: x81 :: x82 :: x83 :: x84 :: x85 :: x86 :: x87 :: x88 :: x89 :: x90 :: x91 :: x92 :: x93 :: x94 :: x95 :: x96 :: x97 :: x98 :: x99 :: x100 :: x101 :: x102 :: x103 :: x104 :: x105 :: x106 :: x107 :: x108 :: x109 :: x110 :: x111 :: x112 :: x113 :: x114 :: x115 :: x116 :: x117 :: x118 :: x119 :: x120 :: x121 :: x122 :: x123 :: x124 :: x125 :: x126 :: x127 :: x128 :: x129 :: x130 :: x131 :: x132 :: x133 :: x134 :: x135 :: x136 :: x137 :: x138 :: x139 :: x140 :: x141 :: x142 :: x143 :: x144 :: x145 :: x146 :: x147 :: x148 :: x149 :: x150 :: x151 :: x152 :: x153 :: x154 :: x155 :: x156 :: x157 :: x158 :: x159 :: x160 :: x161 :: x162 :: x163 :: x164 :: x165 :: x166 :: x167 :: x168 :: x169 :: x170 :: x171 :: x172 :: x173 :: x174 :: x175 :: x176 :: x177 :: x178 :: x179 :: x180 :: x181 :: x182 :: x183 :: x184 :: x185 :: x186 :: x187 :: x188 :: x189 :: x190 :: x191 :: x192 :: x193 :: x194 :: x195 :: x196 :: x197 :: x198 :: x199 :: x200 :: y201 :: y202 :: y203 :: y204 :: y205 :: y206 :: y207 :: y208 :: y209 :: y210 :: y211 :: y212 :: y213 :: y214 :: y215 :: y216 :: y217 :: y218 :: y219 :: y220 :: y221 :: y222 :: y223 :: y224 :: y225 :: y226 :: y227 :: y228 :: y229 :: y230 :: y231 :: y232 :: y233 :: y234 :: y235 :: y236 :: y237 :: y238 :: y239 :: y240 :: y241 :: y242 :: y243 :: y244 :: y245 :: y246 :: y247 :: y248 :: y249 :: y250 :: y251 :: y252 :: y253 :: y254 :: y255 :: y256 :: y257 :: y258 :: y259 :: y260 :: y261 :: y262 :: y263 :: y264 :: y265 :: y266 :: y267 :: y268 :: y269 :: y270 :: y271 :: y272 :: y273 :: y274 :: y275 :: y276 :: y277 :: y278 :: y279 :: y280 :: y281 :: y282 :: y283 :: y284 :: y285 :: y286 :: y287 :: y288 :: y289 :: y290 :: y291 :: y292 :: y293 :: []), []⟩) (hi : i ≤ hw * 4 - 20) (hC : hw * 4 - 20 - i ≤ C) (hCm : C ≤ maxLen) (hA : i < hw * 4 - 20 → A = some ⟨D, q + 20 + i, none⟩)
    (hki : k ≤ i) (HL : Hid (Laid w wr 185 (IpH D q hw m u7 u8 u10))) (hc14 : wr.cell? ⟨w.heap.size, 14, none⟩ = some V) (HOW : Hid (wr.ownsRow (w.heap.size + 1) 295 3 V k xs)) : IpS D q hw m f df w u7 u8 u10 x3 x4 x5 x6 x7 x8 x9 x10 x11 x12 x13 x14 x15 x16 x17 x18 x19 x20 x21 x22 x23 x24 x25 x26 x27 x28 x29 x30 x31 x32 x33 x34 x35 x36 x37 x38 x39 x40 x41 x42 x43 x44 x45 x46 x47 x48 x49 x50 x51 x52 x53 x54 x55 x56 x57 x58 x59 x60 x61 x62 x63 x64 x65 x66 x67 x68 x69 x70 x71 x72 x73 x74 x75 x76 x77 x78 x79 x80 x81 x82 x83 x84 x85 x86 x87 x88 x89 x90 x91 x92 x93 x94 x95 x96 x97 x98 x99 x100 x101 x102 x103 x104 x105 x106 x107 x108 x109 x110 x111 x112 x113 x114 x115 x116 x117 x118 x119 x120 x121 x122 x123 x124 x125 x126 x127 x128 x129 x130 x131 x132 x133 x134 x135 x136 x137 x138 x139 x140 x141 x142 x143 x144 x145 x146 x147 x148 x149 x150 x151 x152 x153 x154 x155 x156 x157 x158 x159 x160 x161 x162 x163 x164 x165 x166 x167 x168 x169 x170 x171 x172 x173 x174 x175 x176 x177 x178 x179 x180 x181 x182 x183 x184 x185 x186 x187 x188 x189 x190 x191 x192 x193 x194 x195 x196 x197 x198 x199 x200 x201 x202 x203 x204 x205 x206 x207 x208 x209 x210 x211 x212 x213 x214 x215 x216 x217 x218 x219 x220 x221 x222 x223 x224 x225 x226 x227 x228 x229 x230 x231 x232 x233 x234 x235 x236 x237 x238 x239 x240 x241 x242 x243 x244 x245 x246 x247 x248 x249 x250 x251 x252 x253 x254 x255 x256 x257 x258 x259 x260 x261 x262 x263 x264 x265 x266 x267 x268 x269 x270 x271 x272 x273 x274 x275 x276 x277 x278 x279 x280 x281 x282 x283 x284 x285 x286 x287 x288 x289 x290 x291 x292 x293 i k a wr
set_option maxRecDepth 1000000 in
/-- What holds where the loop is left, or the function returns from within it. -/
def IpQ (D q hw m : Nat) (f : Nat → Nat) (df : Value) (w : World) (u7 u8 u10 : Value) (x3 x4 x5 x6 x7 x8 x9 x10 x11 x12 x13 x14 x15 x16 x17 x18 x19 x20 x21 x22 x23 x24 x25 x26 x27 x28 x29 x30 x31 x32 x33 x34 x35 x36 x37 x38 x39 x40 x41 x42 x43 x44 x45 x46 x47 x48 x49 x50 x51 x52 x53 x54 x55 x56 x57 x58 x59 x60 x61 x62 x63 x64 x65 x66 x67 x68 x69 x70 x71 x72 x73 x74 x75 x76 x77 x78 x79 x80 x81 x82 x83 x84 x85 x86 x87 x88 x89 x90 x91 x92 x93 x94 x95 x96 x97 x98 x99 x100 x101 x102 x103 x104 x105 x106 x107 x108 x109 x110 x111 x112 x113 x114 x115 x116 x117 x118 x119 x120 x121 x122 x123 x124 x125 x126 x127 x128 x129 x130 x131 x132 x133 x134 x135 x136 x137 x138 x139 x140 x141 x142 x143 x144 x145 x146 x147 x148 x149 x150 x151 x152 x153 x154 x155 x156 x157 x158 x159 x160 x161 x162 x163 x164 x165 x166 x167 x168 x169 x170 x171 x172 x173 x174 x175 x176 x177 x178 x179 x180 x181 x182 x183 x184 x185 x186 x187 x188 x189 x190 x191 x192 x193 x194 x195 x196 x197 x198 x199 x200 x201 x202 x203 x204 x205 x206 x207 x208 x209 x210 x211 x212 x213 x214 x215 x216 x217 x218 x219 x220 x221 x222 x223 x224 x225 x226 x227 x228 x229 x230 x231 x232 x233 x234 x235 x236 x237 x238 x239 x240 x241 x242 x243 x244 x245 x246 x247 x248 x249 x250 x251 x252 x253 x254 x255 x256 x257 x258 x259 x260 x261 x262 x263 x264 x265 x266 x267 x268 x269 x270 x271 x272 x273 x274 x275 x276 x277 x278 x279 x280 x281 x282 x283 x284 x285 x286 x287 x288 x289 x290 x291 x292 x293 : Value) : Exit → Act → World → Prop
  | .exit 0, a, w1 => a.defers = [] ∧ a.tmps.size = 294 ∧ Laid w w1 185 (IpH D q hw m u7 u8 u10)
  | .ret, a, w1 => a.defers = [] ∧ a.tmps.getD 6 undef = .nilIface ∧ Laid w w1 185 (IpH D q hw m u7 u8 u10)
  | _, _, _ => False
end Go.Proofs.YtecgkcofmphaiaaGreatDoor.Gpk
namespace Go.Proofs.YtecgkcofmphaiaaGreatDoor.Gpk
open Go.RowKit
set_option linter.unusedVariables false
set_option maxRecDepth 1000000 in
set_option maxHeartbeats 4000000 in
theorem ip4Done (D q hw m : Nat) (f : Nat → Nat) (df : Value) (w : World) (u7 u8 u10 : Value) (n : Nat) (wr : World) (x3 x4 x5 x6 x7 x8 x9 x10 x11 x12 x13 x14 x15 x16 x17 x18 x19 x20 x21 x22 x23 x24 x25 x26 x27 x28 x29 x30 x31 x32 x33 x34 x35 x36 x37 x38 x39 x40 x41 x42 x43 x44 x45 x46 x47 x48 x49 x50 x51 x52 x53 x54 x55 x56 x57 x58 x59 x60 x61 x62 x63 x64 x65 x66 x67 x68 x69 x70 x71 x72 x73 x74 x75 x76 x77 x78 x79 x80 x81 x82 x83 x84 x85 x86 x87 x88 x89 x90 x91 x92 x93 x94 x95 x96 x97 x98 x99 x100 x101 x102 x103 x104 x105 x106 x107 x108 x109 x110 x111 x112 x113 x114 x115 x116 x117 x118 x119 x120 x121 x122 x123 x124 x125 x126 x127 x128 x129 x130 x131 x132 x133 x134 x135 x136 x137 x138 x139 x140 x141 x142 x143 x144 x145 x146 x147 x148 x149 x150 x151 x152 x153 x154 x155 x156 x157 x158 x159 x160 x161 x162 x163 x164 x165 x166 x167 x168 x169 x170 x171 x172 x173 x174 x175 x176 x177 x178 x179 x180 x181 x182 x183 x184 x185 x186 x187 x188 x189 x190 x191 x192 x193 x194 x195 x196 x197 x198 x199 x200 x201 x202 x203 x204 x205 x206 x207 x208 x209 x210 x211 x212 x213 x214 x215 x216 x217 x218 x219 x220 x221 x222 x223 x224 x225 x226 x227 x228 x229 x230 x231 x232 x233 x234 x235 x236 x237 x238 x239 x240 x241 x242 x243 x244 x245 x246 x247 x248 x249 x250 x251 x252 x253 x254 x255 x256 x257 x258 x259 x260 x261 x262 x263 x264 x265 x266 x267 x268 x269 x270 x271 x272 x273 x274 x275 x276 x277 x278 x279 x280 x281 x282 x283 x284 x285 x286 x287 x288 x289 x290 x291 x292 x293 : Value) (R : Act → World → Prop) (hB : Byt w D q f n) (hf : IsB f) (h5 : 5 ≤ hw) (h15 : hw ≤ 15) (hl : hw * 4 ≤ n)
    (y6 y9 y201 y202 y203 y204 y205 y206 y207 y208 y209 y210 y211 y212 y213 y214 y215 y216 y217 y218 y219 y220 y221 y222 y223 y224 y225 y226 y227 y228 y229 y230 y231 y232 y233 y234 y235 y236 y237 y238 y239 y240 y241 y242 y243 y244 y245 y246 y247 y248 y249 y250 y251 y252 y253 y254 y255 y256 y257 y258 y259 y260 y261 y262 y263 y264 y265 y266 y267 y268 y269 y270 y271 y272 y273 y274 y275 y276 y277 y278 y279 y280 y281 y282 y283 y284 y285 y286 y287 y288 y289 y290 y291 y292 y293 V : Value) (i k C : Nat) (A : Option Addr) (xs : List Value) (hi : i ≤ hw * 4 - 20) (hC : hw * 4 - 20 - i ≤ C) (hCm : C ≤ maxLen) (hA : i < hw * 4 - 20 → A = some ⟨D, q + 20 + i, none⟩) (hki : k ≤ i)
    (HL : Hid (Laid w wr 185 (IpH D q hw m u7 u8 u10))) (hc14 : wr.cell? ⟨w.heap.size, 14, none⟩ = some V) (HOW : Hid (wr.ownsRow (w.heap.size + 1) 295 3 V k xs)) (h1 : hw * 4 - 20 ≤ i)  :
    Code.wp Tryz.prog ip4Body (Exit.then R (IpQ D q hw m f df w u7 u8 u10 x3 x4 x5 x6 x7 x8 x9 x10 x11 x12 x13 x14 x15 x16 x17 x18 x19 x20 x21 x22 x23 x24 x25 x26 x27 x28 x29 x30 x31 x32 x33 x34 x35 x36 x37 x38 x39 x40 x41 x42 x43 x44 x45 x46 x47 x48 x49 x50 x51 x52 x53 x54 x55 x56 x57 x58 x59 x60 x61 x62 x63 x64 x65 x66 x67 x68 x69 x70 x71 x72 x73 x74 x75 x76 x77 x78 x79 x80 x81 x82 x83 x84 x85 x86 x87 x88 x89 x90 x91 x92 x93 x94 x95 x96 x97 x98 x99 x100 x101 x102 x103 x104 x105 x106 x107 x108 x109 x110 x111 x112 x113 x114 x115 x116 x117 x118 x119 x120 x121 x122 x123 x124 x125 x126 x127 x128 x129 x130 x131 x132 x133 x134 x135 x136 x137 x138 x139 x140 x141 x142 x143 x144 x145 x146 x147 x148 x149 x150 x151 x152 x153 x154 x155 x156 x157 x158 x159 x160 x161 x162 x163 x164 x165 x166 x167 x168 x169 x170 x171 x172 x173 x174 x175 x176 x177 x178 x179 x180 x181 x182 x183 x184 x185 x186 x187 x188 x189 x190 x191 x192 x193 x194 x195 x196 x197 x198 x199 x200 x201 x202 x203 x204 x205 x206 x207 x208 x209 x210 x211 x212 x213 x214 x215 x216 x217 x218 x219 x220 x221 x222 x223 x224 x225 x226 x227 x228 x229 x230 x231 x232 x233 x234 x235 x236 x237 x238 x239 x240 x241 x242 x243 x244 x245 x246 x247 x248 x249 x250 x251 x252 x253 x254 x255 x256 x257 x258 x259 x260 x261 x262 x263 x264 x265 x266 x267 x268 x269 x270 x271 x272 x273 x274 x275 x276 x277 x278 x279 x280 x281 x282 x283 x284 x285 x286 x287 x288 x289 x290 x291 x292 x293)) ⟨List.toArray (.pointer (some ⟨w.heap.size, 0, none⟩) :: .slice A (hw * 4 - 20 - i) C :: df :: x3 :: x4 :: x5 :: y6 :: x7 :: x8 :: y9 :: x10 :: x11 :: x12 :: x13 :: x14 :: x15 :: x16 :: x17 :: x18 :: x19 :: x20 :: x21 :: x22 :: x23 :: x24 :: x25 :: x26 :: x27 :: x28 :: x29 :: x30 :: x31 :: x32 :: x33 :: x34 :: x35 :: x36 :: x37 :: x38 :: x39 :: x40 :: x41 :: x42 :: x43 :: x44 :: x45 :: x46 :: x47 :: x48 :: x49 :: x50 :: x51 :: x52 :: x53 :: x54 :: x55 :: x56 :: x57 :: x58 :: x59 :: x60 :: x61 :: x62 :: x63 :: x64 :: x65 :: x66 :: x67 :: x68 :: x69 :: x70 :: x71 :: x72 :: x73 :: x74 :: x75 :: x76 :: x77 :: x78 :: x79 :: x80 :: x81 :: x82 :: x83 :: x84 :: x85 :: x86 :: x87 :: x88 :: x89 :: x90 :: x91 :: x92 :: x93 :: x94 :: x95 :: x96 :: x97 :: x98 :: x99 :: x100 :: x101 :: x102 :: x103 :: x104 :: x105 :: x106 :: x107 :: x108 :: x109 :: x110 :: x111 :: x112 :: x113 :: x114 :: x115 :: x116 :: x117 :: x118 :: x119 :: x120 :: x121 :: x122 :: x123 :: x124 :: x125 :: x126 :: x127 :: x128 :: x129 :: x130 :: x131 :: x132 :: x133 :: x134 :: x135 :: x136 :: x137 :: x138 :: x139 :: x140 :: x141 :: x142 :: x143 :: x144 :: x145 :: x146 :: x147 :: x148 :: x149 :: x150 :: x151 :: x152 :: x153 :: x154 :: x155 :: x156 :: x157 :: x158 :: x159 :: x160 :: x161 :: x162 :: x163 :: x164 :: x165 :: x166 :: x167 :: x168 :: x169 :: x170 :: x171 :: x172 :: x173 :: x174 :: x175 :: x176 :: x177 :: x178 :: x179 :: x180 :: x181 :: x182 :: x183 :: x184 :: x185 :: x186 :: x187 :: x188 :: x189 :: x190 :: x191 :: x192 :: x193 :: x194 :: x195 :: x196 :: x197 :: x198 :: x199 :: x200 :: y201 :: y202 :: y203 :: y204 :: y205 :: y206 :: y207 :: y208 :: y209 :: y210 :: y211 :: y212 :: y213 :: y214 :: y215 :: y216 :: y217 :: y218 :: y219 :: y220 :: y221 :: y222 :: y223 :: y224 :: y225 :: y226 :: y227 :: y228 :: y229 :: y230 :: y231 :: y232 :: y233 :: y234 :: y235 :: y236 :: y237 :: y238 :: y239 :: y240 :: y241 :: y242 :: y243 :: y244 :: y245 :: y246 :: y247 :: y248 :: y249 :: y250 :: y251 :: y252 :: y253 :: y254 :: y255 :: y256 :: y257 :: y258 :: y259 :: y260 :: y261 :: y262 :: y263 :: y264 :: y265 :: y266 :: y267 :: y268 :: y269 :: y270 :: y271 :: y272 :: y273 :: y274 :: y275 :: y276 :: y277 :: y278 :: y279 :: y280 :: y281 :: y282 :: y283 :: y284 :: y285 :: y286 :: y287 :: y288 :: y289 :: y290 :: y291 :: y292 :: y293 :: []), []⟩ wr := by
  conv => arg 2; whnf
  have hD := hB.lt (by omega)
  obtain ⟨i0, hi0, hz0, hz1, hz2⟩ := info_parts Tryz.info295
  have hCm' := hCm
  unfold maxLen at hCm'
  have hsz := HL.out.lt
  have hf14 := HL.out.unfrozen 14
  have hDr : D < wr.heap.size := by omega
  have hsz_1 : w.heap.size < wr.heap.size + 1 := by omega
  have hsz_2 : w.heap.size < wr.heap.size + 2 := by omega
  have hsz_3 : w.heap.size < wr.heap.size + 1 + 1 := by omega
  have hsz_4 : w.heap.size < wr.heap.size + 1 + 1 + 1 := by omega
  have hsz_5 : w.heap.size < wr.heap.size + 3 := by omega
  go_wp2
  exact ⟨rfl, rfl, HL.out⟩
end Go.Proofs.YtecgkcofmphaiaaGreatDoor.Gpk
namespace Go.Proofs.YtecgkcofmphaiaaGreatDoor.Gpk
open Go.RowKit
set_option linter.unusedVariables false
set_option maxRecDepth 1000000 in
set_option maxHeartbeats 4000000 in
theorem ip4DoneS (D q hw m : Nat) (f : Nat → Nat) (df : Value) (w : World) (u7 u8 u10 : Value) (n : Nat) (wr : World) (x3 x4 x5 x6 x7 x8 x9 x10 x11 x12 x13 x14 x15 x16 x17 x18 x19 x20 x21 x22 x23 x24 x25 x26 x27 x28 x29 x30 x31 x32 x33 x34 x35 x36 x37 x38 x39 x40 x41 x42 x43 x44 x45 x46 x47 x48 x49 x50 x51 x52 x53 x54 x55 x56 x57 x58 x59 x60 x61 x62 x63 x64 x65 x66 x67 x68 x69 x70 x71 x72 x73 x74 x75 x76 x77 x78 x79 x80 x81 x82 x83 x84 x85 x86 x87 x88 x89 x90 x91 x92 x93 x94 x95 x96 x97 x98 x99 x100 x101 x102 x103 x104 x105 x106 x107 x108 x109 x110 x111 x112 x113 x114 x115 x116 x117 x118 x119 x120 x121 x122 x123 x124 x125 x126 x127 x128 x129 x130 x131 x132 x133 x134 x135 x136 x137 x138 x139 x140 x141 x142 x143 x144 x145 x146 x147 x148 x149 x150 x151 x152 x153 x154 x155 x156 x157 x158 x159 x160 x161 x162 x163 x164 x165 x166 x167 x168 x169 x170 x171 x172 x173 x174 x175 x176 x177 x178 x179 x180 x181 x182 x183 x184 x185 x186 x187 x188 x189 x190 x191 x192 x193 x194 x195 x196 x197 x198 x199 x200 x201 x202 x203 x204 x205 x206 x207 x208 x209 x210 x211 x212 x213 x214 x215 x216 x217 x218 x219 x220 x221 x222 x223 x224 x225 x226 x227 x228 x229 x230 x231 x232 x233 x234 x235 x236 x237 x238 x239 x240 x241 x242 x243 x244 x245 x246 x247 x248 x249 x250 x251 x252 x253 x254 x255 x256 x257 x258 x259 x260 x261 x262 x263 x264 x265 x266 x267 x268 x269 x270 x271 x272 x273 x274 x275 x276 x277 x278 x279 x280 x281 x282 x283 x284 x285 x286 x287 x288 x289 x290 x291 x292 x293 : Value) (R : Act → World → Prop) (hB : Byt w D q f n) (hf : IsB f) (h5 : 5 ≤ hw) (h15 : hw ≤ 15) (hl : hw * 4 ≤ n)
    (i k : Nat) (a : Act) (hs : IpS D q hw m f df w u7 u8 u10 x3 x4 x5 x6 x7 x8 x9 x10 x11 x12 x13 x14 x15 x16 x17 x18 x19 x20 x21 x22 x23 x24 x25 x26 x27 x28 x29 x30 x31 x32 x33 x34 x35 x36 x37 x38 x39 x40 x41 x42 x43 x44 x45 x46 x47 x48 x49 x50 x51 x52 x53 x54 x55 x56 x57 x58 x59 x60 x61 x62 x63 x64 x65 x66 x67 x68 x69 x70 x71 x72 x73 x74 x75 x76 x77 x78 x79 x80 x81 x82 x83 x84 x85 x86 x87 x88 x89 x90 x91 x92 x93 x94 x95 x96 x97 x98 x99 x100 x101 x102 x103 x104 x105 x106 x107 x108 x109 x110 x111 x112 x113 x114 x115 x116 x117 x118 x119 x120 x121 x122 x123 x124 x125 x126 x127 x128 x129 x130 x131 x132 x133 x134 x135 x136 x137 x138 x139 x140 x141 x142 x143 x144 x145 x146 x147 x148 x149 x150 x151 x152 x153 x154 x155 x156 x157 x158 x159 x160 x161 x162 x163 x164 x165 x166 x167 x168 x169 x170 x171 x172 x173 x174 x175 x176 x177 x178 x179 x180 x181 x182 x183 x184 x185 x186 x187 x188 x189 x190 x191 x192 x193 x194 x195 x196 x197 x198 x199 x200 x201 x202 x203 x204 x205 x206 x207 x208 x209 x210 x211 x212 x213 x214 x215 x216 x217 x218 x219 x220 x221 x222 x223 x224 x225 x226 x227 x228 x229 x230 x231 x232 x233 x234 x235 x236 x237 x238 x239 x240 x241 x242 x243 x244 x245 x246 x247 x248 x249 x250 x251 x252 x253 x254 x255 x256 x257 x258 x259 x260 x261 x262 x263 x264 x265 x266 x267 x268 x269 x270 x271 x272 x273 x274 x275 x276 x277 x278 x279 x280 x281 x282 x283 x284 x285 x286 x287 x288 x289 x290 x291 x292 x293 i k a wr) (h1 : hw * 4 - 20 ≤ i)  :
    Code.wp Tryz.prog ip4Body (Exit.then R (IpQ D q hw m f df w u7 u8 u10 x3 x4 x5 x6 x7 x8 x9 x10 x11 x12 x13 x14 x15 x16 x17 x18 x19 x20 x21 x22 x23 x24 x25 x26 x27 x28 x29 x30 x31 x32 x33 x34 x35 x36 x37 x38 x39 x40 x41 x42 x43 x44 x45 x46 x47 x48 x49 x50 x51 x52 x53 x54 x55 x56 x57 x58 x59 x60 x61 x62 x63 x64 x65 x66 x67 x68 x69 x70 x71 x72 x73 x74 x75 x76 x77 x78 x79 x80 x81 x82 x83 x84 x85 x86 x87 x88 x89 x90 x91 x92 x93 x94 x95 x96 x97 x98 x99 x100 x101 x102 x103 x104 x105 x106 x107 x108 x109 x110 x111 x112 x113 x114 x115 x116 x117 x118 x119 x120 x121 x122 x123 x124 x125 x126 x127 x128 x129 x130 x131 x132 x133 x134 x135 x136 x137 x138 x139 x140 x141 x142 x143 x144 x145 x146 x147 x148 x149 x150 x151 x152 x153 x154 x155 x156 x157 x158 x159 x160 x161 x162 x163 x164 x165 x166 x167 x168 x169 x170 x171 x172 x173 x174 x175 x176 x177 x178 x179 x180 x181 x182 x183 x184 x185 x186 x187 x188 x189 x190 x191 x192 x193 x194 x195 x196 x197 x198 x199 x200 x201 x202 x203 x204 x205 x206 x207 x208 x209 x210 x211 x212 x213 x214 x215 x216 x217 x218 x219 x220 x221 x222 x223 x224 x225 x226 x227 x228 x229 x230 x231 x232 x233 x234 x235 x236 x237 x238 x239 x240 x241 x242 x243 x244 x245 x246 x247 x248 x249 x250 x251 x252 x253 x254 x255 x256 x257 x258 x259 x260 x261 x262 x263 x264 x265 x266 x267 x268 x269 x270 x271 x272 x273 x274 x275 x276 x277 x278 x279 x280 x281 x282 x283 x284 x285 x286 x287 x288 x289 x290 x291 x292 x293)) a wr := by
  obtain ⟨C, A, V, xs, y6, y9, y201, y202, y203, y204, y205, y206, y207, y208, y209, y210, y211, y212, y213, y214, y215, y216, y217, y218, y219, y220, y221, y222, y223, y224, y225, y226, y227, y228, y229, y230, y231, y232, y233, y234, y235, y236, y237, y238, y239, y240, y241, y242, y243, y244, y245, y246, y247, y248, y249, y250, y251, y252, y253, y254, y255, y256, y257, y258, y259, y260, y261, y262, y263, y264, y265, y266, y267, y268, y269, y270, y271, y272, y273, y274, y275, y276, y277, y278, y279, y280, y281, y282, y283, y284, y285, y286, y287, y288, y289, y290, y291, y292, y293, rfl, hi, hC, hCm, hA, hki, HL, hc14, HOW⟩ := hs
  exact ip4Done D q hw m f df w u7 u8 u10 n wr x3 x4 x5 x6 x7 x8 x9 x10 x11 x12 x13 x14 x15 x16 x17 x18 x19 x20 x21 x22 x23 x24 x25 x26 x27 x28 x29 x30 x31 x32 x33 x34 x35 x36 x37 x38 x39 x40 x41 x42 x43 x44 x45 x46 x47 x48 x49 x50 x51 x52 x53 x54 x55 x56 x57 x58 x59 x60 x61 x62 x63 x64 x65 x66 x67 x68 x69 x70 x71 x72 x73 x74 x75 x76 x77 x78 x79 x80 x81 x82 x83 x84 x85 x86 x87 x88 x89 x90 x91 x92 x93 x94 x95 x96 x97 x98 x99 x100 x101 x102 x103 x104 x105 x106 x107 x108 x109 x110 x111 x112 x113 x114 x115 x116 x117 x118 x119 x120 x121 x122 x123 x124 x125 x126 x127 x128 x129 x130 x131 x132 x133 x134 x135 x136 x137 x138 x139 x140 x141 x142 x143 x144 x145 x146 x147 x148 x149 x150 x151 x152 x153 x154 x155 x156 x157 x158 x159 x160 x161 x162 x163 x164 x165 x166 x167 x168 x169 x170 x171 x172 x173 x174 x175 x176 x177 x178 x179 x180 x181 x182 x183 x184 x185 x186 x187 x188 x189 x190 x191 x192 x193 x194 x195 x196 x197 x198 x199 x200 x201 x202 x203 x204 x205 x206 x207 x208 x209 x210 x211 x212 x213 x214 x215 x216 x217 x218 x219 x220 x221 x222 x223 x224 x225 x226 x227 x228 x229 x230 x231 x232 x233 x234 x235 x236 x237 x238 x239 x240 x241 x242 x243 x244 x245 x246 x247 x248 x249 x250 x251 x252 x253 x254 x255 x256 x257 x258 x259 x260 x261 x262 x263 x264 x265 x266 x267 x268 x269 x270 x271 x272 x273 x274 x275 x276 x277 x278 x279 x280 x281 x282 x283 x284 x285 x286 x287 x288 x289 x290 x291 x292 x293 R hB hf h5 h15 hl y6 y9 y201 y202 y203 y204 y205 y206 y207 y208 y209 y210 y211 y212 y213 y214 y215 y216 y217 y218 y219 y220 y221 y222 y223 y224 y225 y226 y227 y228 y229 y230 y231 y232 y233 y234 y235 y236 y237 y238 y239 y240 y241 y242 y243 y244 y245 y246 y247 y248 y249 y250 y251 y252 y253 y254 y255 y256 y257 y258 y259 y260 y261 y262 y263 y264 y265 y266 y267 y268 y269 y270 y271 y272 y273 y274 y275 y276 y277 y278 y279 y280 y281 y282 y283 y284 y285 y286 y287 y288 y289 y290 y291 y292 y293 V i k C A xs hi hC hCm hA hki HL hc14 HOW h1
end Go.Proofs.YtecgkcofmphaiaaGreatDoor.Gpk
namespace Go.Proofs.YtecgkcofmphaiaaGreatDoor.Gpk
open Go.RowKit
set_option linter.unusedVariables false
set_option maxRecDepth 1000000 in
set_option maxHeartbeats 4000000 in
theorem ip4StopNil (D q hw m : Nat) (f : Nat → Nat) (df : Value) (w : World) (u7 u8 u10 : Value) (n : Nat) (wr : World) (x3 x4 x5 x6 x7 x8 x9 x10 x11 x12 x13 x14 x15 x16 x17 x18 x19 x20 x21 x22 x23 x24 x25 x26 x27 x28 x29 x30 x31 x32 x33 x34 x35 x36 x37 x38 x39 x40 x41 x42 x43 x44 x45 x46 x47 x48 x49 x50 x51 x52 x53 x54 x55 x56 x57 x58 x59 x60 x61 x62 x63 x64 x65 x66 x67 x68 x69 x70 x71 x72 x73 x74 x75 x76 x77 x78 x79 x80 x81 x82 x83 x84 x85 x86 x87 x88 x89 x90 x91 x92 x93 x94 x95 x96 x97 x98 x99 x100 x101 x102 x103 x104 x105 x106 x107 x108 x109 x110 x111 x112 x113 x114 x115 x116 x117 x118 x119 x120 x121 x122 x123 x124 x125 x126 x127 x128 x129 x130 x131 x132 x133 x134 x135 x136 x137 x138 x139 x140 x141 x142 x143 x144 x145 x146 x147 x148 x149 x150 x151 x152 x153 x154 x155 x156 x157 x158 x159 x160 x161 x162 x163 x164 x165 x166 x167 x168 x169 x170 x171 x172 x173 x174 x175 x176 x177 x178 x179 x180 x181 x182 x183 x184 x185 x186 x187 x188 x189 x190 x191 x192 x193 x194 x195 x196 x197 x198 x199 x200 x201 x202 x203 x204 x205 x206 x207 x208 x209 x210 x211 x212 x213 x214 x215 x216 x217 x218 x219 x220 x221 x222 x223 x224 x225 x226 x227 x228 x229 x230 x231 x232 x233 x234 x235 x236 x237 x238 x239 x240 x241 x242 x243 x244 x245 x246 x247 x248 x249 x250 x251 x252 x253 x254 x255 x256 x257 x258 x259 x260 x261 x262 x263 x264 x265 x266 x267 x268 x269 x270 x271 x272 x273 x274 x275 x276 x277 x278 x279 x280 x281 x282 x283 x284 x285 x286 x287 x288 x289 x290 x291 x292 x293 : Value) (R : Act → World → Prop) (hB : Byt w D q f n) (hf : IsB f) (h5 : 5 ≤ hw) (h15 : hw ≤ 15) (hl : hw * 4 ≤ n)
    (y6 y9 y201 y202 y203 y204 y205 y206 y207 y208 y209 y210 y211 y212 y213 y214 y215 y216 y217 y218 y219 y220 y221 y222 y223 y224 y225 y226 y227 y228 y229 y230 y231 y232 y233 y234 y235 y236 y237 y238 y239 y240 y241 y242 y243 y244 y245 y246 y247 y248 y249 y250 y251 y252 y253 y254 y255 y256 y257 y258 y259 y260 y261 y262 y263 y264 y265 y266 y267 y268 y269 y270 y271 y272 y273 y274 y275 y276 y277 y278 y279 y280 y281 y282 y283 y284 y285 y286 y287 y288 y289 y290 y291 y292 y293 V : Value) (i k C : Nat) (A : Option Addr) (xs : List Value) (hi : i ≤ hw * 4 - 20) (hC : hw * 4 - 20 - i ≤ C) (hCm : C ≤ maxLen) (hA : i < hw * 4 - 20 → A = some ⟨D, q + 20 + i, none⟩) (hki : k ≤ i)
    (HL : Hid (Laid w wr 185 (IpH D q hw m u7 u8 u10))) (hc14 : wr.cell? ⟨w.heap.size, 14, none⟩ = some V) (HOW : Hid (wr.ownsRow (w.heap.size + 1) 295 3 V k xs)) (hnil : V = .slice none 0 0 ∧ k = 0) (hlt : i < hw * 4 - 20) (hc : f (20 + i) = 0)  :
    Code.wp Tryz.prog ip4Body (Exit.then R (IpQ D q hw m f df w u7 u8 u10 x3 x4 x5 x6 x7 x8 x9 x10 x11 x12 x13 x14 x15 x16 x17 x18 x19 x20 x21 x22 x23 x24 x25 x26 x27 x28 x29 x30 x31 x32 x33 x34 x35 x36 x37 x38 x39 x40 x41 x42 x43 x44 x45 x46 x47 x48 x49 x50 x51 x52 x53 x54 x55 x56 x57 x58 x59 x60 x61 x62 x63 x64 x65 x66 x67 x68 x69 x70 x71 x72 x73 x74 x75 x76 x77 x78 x79 x80 x81 x82 x83 x84 x85 x86 x87 x88 x89 x90 x91 x92 x93 x94 x95 x96 x97 x98 x99 x100 x101 x102 x103 x104 x105 x106 x107 x108 x109 x110 x111 x112 x113 x114 x115 x116 x117 x118 x119 x120 x121 x122 x123 x124 x125 x126 x127 x128 x129 x130 x131 x132 x133 x134 x135 x136 x137 x138 x139 x140 x141 x142 x143 x144 x145 x146 x147 x148 x149 x150 x151 x152 x153 x154 x155 x156 x157 x158 x159 x160 x161 x162 x163 x164 x165 x166 x167 x168 x169 x170 x171 x172 x173 x174 x175 x176 x177 x178 x179 x180 x181 x182 x183 x184 x185 x186 x187 x188 x189 x190 x191 x192 x193 x194 x195 x196 x197 x198 x199 x200 x201 x202 x203 x204 x205 x206 x207 x208 x209 x210 x211 x212 x213 x214 x215 x216 x217 x218 x219 x220 x221 x222 x223 x224 x225 x226 x227 x228 x229 x230 x231 x232 x233 x234 x235 x236 x237 x238 x239 x240 x241 x242 x243 x244 x245 x246 x247 x248 x249 x250 x251 x252 x253 x254 x255 x256 x257 x258 x259 x260 x261 x262 x263 x264 x265 x266 x267 x268 x269 x270 x271 x272 x273 x274 x275 x276 x277 x278 x279 x280 x281 x282 x283 x284 x285 x286 x287 x288 x289 x290 x291 x292 x293)) ⟨List.toArray (.pointer (some ⟨w.heap.size, 0, none⟩) :: .slice A (hw * 4 - 20 - i) C :: df :: x3 :: x4 :: x5 :: y6 :: x7 :: x8 :: y9 :: x10 :: x11 :: x12 :: x13 :: x14 :: x15 :: x16 :: x17 :: x18 :: x19 :: x20 :: x21 :: x22 :: x23 :: x24 :: x25 :: x26 :: x27 :: x28 :: x29 :: x30 :: x31 :: x32 :: x33 :: x34 :: x35 :: x36 :: x37 :: x38 :: x39 :: x40 :: x41 :: x42 :: x43 :: x44 :: x45 :: x46 :: x47 :: x48 :: x49 :: x50 :: x51 :: x52 :: x53 :: x54 :: x55 :: x56 :: x57 :: x58 :: x59 :: x60 :: x61 :: x62 :: x63 :: x64 :: x65 :: x66 :: x67 :: x68 :: x69 :: x70 :: x71 :: x72 :: x73 :: x74 :: x75 :: x76 :: x77 :: x78 :: x79 :: x80 :: x81 :: x82 :: x83 :: x84 :: x85 :: x86 :: x87 :: x88 :: x89 :: x90 :: x91 :: x92 :: x93 :: x94 :: x95 :: x96 :: x97 :: x98 :: x99 :: x100 :: x101 :: x102 :: x103 :: x104 :: x105 :: x106 :: x107 :: x108 :: x109 :: x110 :: x111 :: x112 :: x113 :: x114 :: x115 :: x116 :: x117 :: x118 :: x119 :: x120 :: x121 :: x122 :: x123 :: x124 :: x125 :: x126 :: x127 :: x128 :: x129 :: x130 :: x131 :: x132 :: x133 :: x134 :: x135 :: x136 :: x137 :: x138 :: x139 :: x140 :: x141 :: x142 :: x143 :: x144 :: x145 :: x146 :: x147 :: x148 :: x149 :: x150 :: x151 :: x152 :: x153 :: x154 :: x155 :: x156 :: x157 :: x158 :: x159 :: x160 :: x161 :: x162 :: x163 :: x164 :: x165 :: x166 :: x167 :: x168 :: x169 :: x170 :: x171 :: x172 :: x173 :: x174 :: x175 :: x176 :: x177 :: x178 :: x179 :: x180 :: x181 :: x182 :: x183 :: x184 :: x185 :: x186 :: x187 :: x188 :: x189 :: x190 :: x191 :: x192 :: x193 :: x194 :: x195 :: x196 :: x197 :: x198 :: x199 :: x200 :: y201 :: y202 :: y203 :: y204 :: y205 :: y206 :: y207 :: y208 :: y209 :: y210 :: y211 :: y212 :: y213 :: y214 :: y215 :: y216 :: y217 :: y218 :: y219 :: y220 :: y221 :: y222 :: y223 :: y224 :: y225 :: y226 :: y227 :: y228 :: y229 :: y230 :: y231 :: y232 :: y233 :: y234 :: y235 :: y236 :: y237 :: y238 :: y239 :: y240 :: y241 :: y242 :: y243 :: y244 :: y245 :: y246 :: y247 :: y248 :: y249 :: y250 :: y251 :: y252 :: y253 :: y254 :: y255 :: y256 :: y257 :: y258 :: y259 :: y260 :: y261 :: y262 :: y263 :: y264 :: y265 :: y266 :: y267 :: y268 :: y269 :: y270 :: y271 :: y272 :: y273 :: y274 :: y275 :: y276 :: y277 :: y278 :: y279 :: y280 :: y281 :: y282 :: y283 :: y284 :: y285 :: y286 :: y287 :: y288 :: y289 :: y290 :: y291 :: y292 :: y293 :: []), []⟩ wr := by
  conv => arg 2; whnf
  have hD := hB.lt (by omega)
  obtain ⟨i0, hi0, hz0, hz1, hz2⟩ := info_parts Tryz.info295
  have hCm' := hCm
  unfold maxLen at hCm'
  have hsz := HL.out.lt
  have hf14 := HL.out.unfrozen 14
  have hDr : D < wr.heap.size := by omega
  have hsz_1 : w.heap.size < wr.heap.size + 1 := by omega
  have hsz_2 : w.heap.size < wr.heap.size + 2 := by omega
  have hsz_3 : w.heap.size < wr.heap.size + 1 + 1 := by omega
  have hsz_4 : w.heap.size < wr.heap.size + 1 + 1 + 1 := by omega
  have hsz_5 : w.heap.size < wr.heap.size + 3 := by omega
  have hA' := hA hlt
  subst hA'
  clear hA
  have bi := hf (20 + i)
  have di : wr.cell? ⟨D, q + 20 + i, none⟩ = some (.int .u8 (f (20 + i) : Nat)) := by
    have := (hB.below HL.out.1 hD).at (20 + i) (by omega)
    rw [← this, Nat.add_assoc]
  have heq := fun (w : World) (a : Option Addr) (n c : Nat) => Lib.run_eql_slice_nil (P := Tryz.prog) w 183 295 a n c 0 0 Tryz.underlying183
  have hmk := makeFour
  obtain ⟨rfl, hk0⟩ := hnil
  subst hk0
  have hx : xs = [] := List.eq_nil_of_length_eq_zero (by simpa using HOW.out.1)
  subst hx
  have HO := Lib.hid (fun (o2 o3 : Obj) (n : Nat) => madeOwns wr w.heap.size o2 o3 n hsz)
  have H0 : ((f (20 + i) : Nat) : Int) < 1 := by omega
  clear hc
  go_wp2_with fail
  go_region_law (first | ((refine step_append_lies _ rfl (.tmp 268) (.tmp 270) 183 rfl (w.heap.size + 1) 295 i0 (.agg #[.int .u8 0, .int .u8 0, .slice none 0 0]) 3 32 Tryz.underlying183 hi0 hz0 hz1 hz2 rfl (by decide) _ 0 [] rfl (HO.out _ _ _) ⟨wr.heap.size + 2, 0, none⟩ 1 1 [.int .u8 (f (20 + i) : Nat), .int .u8 1, .slice none 0 0] rfl rfl (newsLast _ #[.int .u8 (f (20 + i) : Nat), .int .u8 1, .slice none 0 0] 295 _ _ (by simp)) (by intro u hu; simp at hu; rcases hu with rfl | rfl | rfl <;> rfl) (by decide) (by unfold maxLen; omega) (by omega) (by simp; omega) _ rfl ?_); intro r1 cap1 w1 hown1 hgrow hat hlt1; (have hL1 : Laid w w1 185 (IpH D q hw m u7 u8 u10) := Laid.grown (by repeat first | exact HL.out | refine Laid.drewN ?_ _ | refine Laid.alloc ?_ _ | refine Laid.set ?_ 14 _ (fun cs h => h.set 14 (by omega) (by omega) (by omega) (by omega) _) | refine Laid.set ?_ 15 _ (fun cs h => h.set 15 (by omega) (by omega) (by omega) (by omega) _)) hgrow (fun _ hk => ownLt hk hsz)); obtain ⟨u14, e14⟩ := hL1.cell 14 16 (by omega) (fun cs h => h.1.size); obtain ⟨u15, e15⟩ := hL1.cell 15 16 (by omega) (fun cs h => h.1.size); have f14 := hL1.unfrozen 14; have f15 := hL1.unfrozen 15; have hz1' := hL1.lt; have HL1 := Lib.hid hL1; have HN := Lib.hid hown1; clear hL1 hown1 hgrow hat hlt1))
  go_wp2
  all_goals (exact ⟨rfl, rfl, (by repeat first | exact HL1.out | refine Laid.drewN ?_ _ | refine Laid.alloc ?_ _ | refine Laid.set ?_ 14 _ (fun cs h => h.set 14 (by omega) (by omega) (by omega) (by omega) _) | refine Laid.set ?_ 15 _ (fun cs h => h.set 15 (by omega) (by omega) (by omega) (by omega) _))⟩)
end Go.Proofs.YtecgkcofmphaiaaGreatDoor.Gpk
