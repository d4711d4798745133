/- The header of a piece as bytes, in front of what it carries.
   A packet as bytes, from its innermost header on. -/
import Derived.Test.YtecgkcofmphaiaaGreatDoorS19
import Derived.Test.YtecgkcofmphaiaaGreatDoorS02
import Derived.Test.YtecgkcofmphaiaaGreatDoorS03
import Derived.Test.YtecgkcofmphaiaaGreatDoorS12
import Derived.Test.YtecgkcofmphaiaaGreatDoorS10
import Derived.Test.YtecgkcofmphaiaaGreatDoorS11
set_option linter.unusedVariables false
set_option linter.unusedSimpArgs false
set_option linter.unnecessarySimpa false
set_option linter.unusedSectionVars false
namespace Go.Proofs.YtecgkcofmphaiaaGreatDoor.Gpk
open Go.RowKit
set_option linter.unusedVariables false
def natP : Value → Nat | .int _ n => (n + 1).toNat | _ => 0
/-- What 'addresses' answers. -/
def RAddr (w : World) (e : Ending) (w' : World) : Prop := ∃ (A1 : Option Addr) (n1 c1 : Nat) (A2 : Option Addr) (n2 c2 : Nat), e = .returned (.tuple #[.slice A1 n1 c1, .slice A2 n2 c2]) ∧ BB w (.slice A1 n1 c1) n1 ∧ BB w (.slice A2 n2 c2) n2 ∧ n1 ≤ 16 ∧ n2 ≤ 16 ∧ Below w.heap.size w w'
set_option maxRecDepth 100000 in
set_option maxHeartbeats 4000000 in
theorem addresses_ (A : Option Addr) (c n : Nat) (ps : List Pc) (w : World) (hl : ps.length = n) (hp : PcSl w A ps) (hok : ∀ p ∈ ps, PcOk p) (hn : n ≤ 1000) : Calls Tryz.prog 43 #[.slice A n c] w (RAddr w) := by
  have HP := Lib.hid hp
  have HK := Lib.hid hok
  have HL := Lib.hid hl
  have n5 : IntKind.i64.wrap ((n : Int) - 1) = (n : Int) - 1 := by rw [IntKind.wrap_i64]; omega
  clear hp hok hl
  go_enter Tryz.func43, Tryz.ntmps43
  go_wp2_with fail
  go_loopw [4] (fun t4 wr => ∃ (j : Nat) (z : Int), t4 = .int .i64 z ∧ z = (j : Int) - 1 ∧ j ≤ n ∧ Hid (Below w.heap.size w wr)) (fun t4 _ => natP t4)
  case atStart => exact ⟨n, _, rfl, rfl, Nat.le_refl _, Lib.hid (Below.refl _ _)⟩
  case round =>
    obtain ⟨j, z, rfl, hz, hj, HBR⟩ := hrel
    by_cases h0 : j = 0
    · have g0 : ¬ (0 : Int) ≤ z := by omega
      clear hz
      go_wp2_with fail
      go_ret2
      exact ⟨none, 0, 0, none, 0, 0, rfl, BB.nil _, BB.nil _, by omega, by omega, HBR.out⟩
    · obtain ⟨i, rfl⟩ : ∃ i, j = i + 1 := ⟨j - 1, by omega⟩
      obtain rfl : z = (i : Int) := by omega
      have m1 : (0 : Int) ≤ (i : Int) := by omega
      have m2 : (i : Int) < (n : Int) := by omega
      have m3 : i < n := by omega
      have m4 : ((i : Int)).toNat = i := by omega
      have m5 : IntKind.i64.wrap ((i : Int) - 1) = (i : Int) - 1 := by rw [IntKind.wrap_i64]; omega
      have hil : i < ps.length := by have := HL.out; omega
      obtain ⟨b, o, rfl, hbw, hov⟩ := HP.out.resolve_left (by intro h; rw [h] at hil; simp at hil)
      obtain ⟨p, hxp⟩ : ∃ x, x = ps[i] := ⟨_, rfl⟩
      have hxi : ps[i]? = some p := by rw [hxp]; exact List.getElem?_eq_getElem hil
      obtain ⟨hra, hpi⟩ := hov i p hxi
      have hR := hpi.range hra
      have hbr : b < wr.heap.size := Nat.lt_of_lt_of_le hbw HBR.out.size
      have HPO := Lib.hid (HK.out p (List.mem_of_getElem? hxi))
      obtain ⟨f0, f1, f2, f3, f4, f5, f6, f7, f8, fA9, fc9, fA10, fc10, fA11, fc11, f0', fH9, fH10, fH11⟩ := hpi.f
      obtain ⟨y0, y1, y2, y3, y4, yA5, yc5, yA6, yc6, y0', yH5, yH6⟩ := hpi.y
      have hR := hR.below hbw HBR.out
      have hRf := hR.f
      have hRy := hR.y
      rw [f0'] at hRf
      rw [y0'] at hRy
      have e0 := hR.k
      have e1 := hRf 9 _ rfl
      have e2 := hRf 10 _ rfl
      have e3 := hRy 5 _ rfl
      have e4 := hRy 6 _ rfl
      have fH9 := Lib.hid fH9
      have fH10 := Lib.hid fH10
      have yH5 := Lib.hid yH5
      have yH6 := Lib.hid yH6
      clear hR hRf hRy f0' y0' fH11 hra hpi hxi hxp hil hov hz
      by_cases hk3 : p.k = 3
      · have HO := Lib.hid (HPO.out.f hk3)
        rw [hk3] at e0
        clear hk3
        go_wp2_with fail
        go_quiet (fail)
        go_wp2_with fail
        go_ret2
        exact ⟨_, _, _, _, _, _, rfl, fH9.out, fH10.out, by have := HO.out; omega, by have := HO.out; omega, below_drewN HBR.out _⟩
      · by_cases hk4 : p.k = 4
        · have HO := Lib.hid (HPO.out.y hk4)
          rw [hk4] at e0
          clear hk3 hk4
          go_wp2_with fail
          go_quiet (fail)
          go_wp2_with fail
          go_ret2
          exact ⟨_, _, _, _, _, _, rfl, yH5.out, yH6.out, by have := HO.out; omega, by have := HO.out; omega, below_drewN HBR.out _⟩
        · have b3 : (p.k == 3) = false := by simpa using hk3
          have b4 : (p.k == 4) = false := by simpa using hk4
          clear hk3 hk4
          go_wp2_with fail
          go_roundw
          case rel => exact ⟨i, _, rfl, rfl, by omega, HBR⟩
          case measure => simp [natP] <;> omega
theorem finRB {w W w2 : World} {v : Value} {n : Nat} (hB : Below w.heap.size w W) (ho : OwnB w2 W.heap.size v n) (hb : Below W.heap.size W w2) : OwnB w2 w.heap.size v n ∧ Below w.heap.size w w2 := ⟨ho.mono hB.size, hB.trans (hb.mono hB.size)⟩
theorem take_get {ps : List Pc} {n i : Nat} {p : Pc} (hp : (ps.take n)[i]? = some p) : ps[i]? = some p := by
  rw [List.getElem?_take] at hp
  split at hp
  · exact hp
  · cases hp
theorem PcSl.take {w : World} {b o : Nat} {ps : List Pc} (hb : b < w.heap.size) (h : PcsV w b o ps) (n : Nat) : PcSl w (some ⟨b, o, none⟩) (ps.take n) :=
  .inr ⟨b, o, rfl, hb, fun i p hp => h i p (take_get hp)⟩
set_option maxRecDepth 100000 in
set_option maxHeartbeats 4000000 in
theorem header1 (b o c n N : Nat) (ps : List Pc) (p : Pc) (A : Option Addr) (m k : Nat) (w : World) (hb : b < w.heap.size) (hps : PcsV w b o ps) (hl : ps.length = N) (hN : N = n + 1) (hc : N ≤ c) (hn : n ≤ 100) (hx : ps[n]? = some p) (hok : ∀ p ∈ ps, PcOk p) (hbe : BB w (.slice A m k) m) (hm : m ≤ 50000) (hk : p.k = 1) : Calls Tryz.prog 18 #[.slice (some ⟨b, o, none⟩) N c, .slice A m k] w (RBm 1028 w) := by
  have n1 : IntKind.i64.wrap ((N : Int) - 1) = (n : Int) := by rw [IntKind.wrap_i64]; omega
  have n2 : (n : Int) < (N : Int) := by omega
  have n3 : (0 : Int) ≤ (n : Int) := by omega
  have n4 : ((n : Int)).toNat = n := by omega
  have n6 : n < N := by omega
  have n7 : (n : Int) ≤ (c : Int) := by omega
  have n8 : n ≤ c := by omega
  obtain ⟨hra, hpi⟩ := hps n p hx
  have HRA := Lib.hid hra
  have HPI := Lib.hid hpi
  have HK := Lib.hid (hok p (List.mem_of_getElem? hx))
  have HI := Lib.hid (show (Tryz.prog.info? 59).map (·.size) = some p.cs.length by rw [hpi.len]; exact size59)
  have HI2 := Lib.hid (show (Tryz.prog.info? 59).map (·.size) = some p.cs.toArray.size by rw [hpi.size]; exact size59)
  have HO := Lib.hid (show Tryz.zeroCells59.size = p.cs.toArray.size by rw [hpi.size]; rfl)
  have HAL := Lib.hid hpi.all
  have HZ := Lib.hid (heap_alloc_new w (.cells Tryz.zeroCells59 59))
  have HB := Lib.hid ((Below.refl w.heap.size w).alloc (Nat.le_refl _) (.cells p.cs.toArray 59))
  have HS := Lib.hid (show w.heap.size < (w.alloc (.cells p.cs.toArray 59)).heap.size by simp)
  have HSL := Lib.hid ((PcSl.take hb hps n).below HB.out)
  have HTL := Lib.hid (show (ps.take n).length = n by simp; omega)
  have HTO := Lib.hid (show ∀ p ∈ ps.take n, PcOk p from fun p hp => hok p (List.mem_of_mem_take hp))
  have HBE := Lib.hid (hbe.below HB.out)
  have HR := Lib.hid hpi.new
  obtain ⟨eA0, ec0, eA1, ec1, e2, e3, e0', eH0, eH1⟩ := hpi.e
  have R_e := Lib.hid (by have := HR.out.e; rwa [e0'] at this : (w.alloc (.cells p.cs.toArray 59)).rangeAt w.heap.size 1 [.slice eA0 p.ne ec0, .slice eA1 p.nf ec1, .int .i64 e2, .int .i64 e3])
  have eH0 := Lib.hid (eH0.below HB.out)
  have eH1 := Lib.hid (eH1.below HB.out)
  have q0 := HR.out.k
  rw [hk] at q0
  have HKK := Lib.hid hk
  clear e0' HR hra hpi hps hok hx hbe hl hN hk
  go_enter Tryz.func18, Tryz.ntmps18
  go_wp2_with (first
    | (refine wpList_load_mid rfl 59 _ rfl b (o + n * 70) rfl _ _ HRA.out Tryz.underlying59 rfl HI.out ?_)
    | (refine wpList_store_row rfl 59 _ _ rfl w.heap.size _ rfl rfl 59 _ HZ.out HI2.out HO.out HAL.out ?_; rw [setRow_allocS]))
  refine (addresses_ _ _ n (ps.take n) _ HTL.out HSL.out HTO.out (by omega)).mono ?_
  rintro e w1 ⟨A1, m1, c1, A2, m2, c2, rfl, hb1, hb2, hm1, hm2, hbl⟩
  have HB1 := Lib.hid (hb1.below hbl)
  have HB2 := Lib.hid (hb2.below hbl)
  have HBE := Lib.hid (HBE.out.below hbl)
  have HBX0 := Lib.hid (HB.out.trans (hbl.mono HB.out.size))
  have q0 := (hbl.cell (p := ⟨w.heap.size, 0, none⟩) HS.out).trans q0
  have R_e := Lib.hid (rangeBelow R_e.out HS.out hbl)
  have eH0 := Lib.hid (eH0.out.below hbl)
  have eH1 := Lib.hid (eH1.out.below hbl)
  clear hb1 hb2 hbl HZ HB
  have HB := HBX0
  clear HBX0 HAL HI HI2 HO HRA HPI HSL HTL HTO
  go_wp2_with (refine wpList_load_mid rfl 38 _ rfl w.heap.size 1 rfl _ _ R_e.out Tryz.underlying38 rfl (by kernel_rfl) ?_)
  have HBW := HB
  refine (ethernet_ _ _ _ _ _ _ _ _ _ eH0.out (by have := HK.out.e HKK.out; omega) eH1.out (by have := HK.out.e HKK.out; omega)).mono ?_
  rintro e w3 ⟨nn, ao, kk, hnn, rfl, ho, hbl⟩
  have HF := Lib.hid (finRB HBW.out ho hbl)
  clear ho hbl
  go_wp2_with fail
  go_ret
  exact ⟨nn, ao, kk, by omega, rfl, HF.out.1, HF.out.2⟩
set_option maxRecDepth 100000 in
set_option maxHeartbeats 4000000 in
theorem header2 (b o c n N : Nat) (ps : List Pc) (p : Pc) (A : Option Addr) (m k : Nat) (w : World) (hb : b < w.heap.size) (hps : PcsV w b o ps) (hl : ps.length = N) (hN : N = n + 1) (hc : N ≤ c) (hn : n ≤ 100) (hx : ps[n]? = some p) (hok : ∀ p ∈ ps, PcOk p) (hbe : BB w (.slice A m k) m) (hm : m ≤ 50000) (hk : p.k = 2) : Calls Tryz.prog 18 #[.slice (some ⟨b, o, none⟩) N c, .slice A m k] w (RBm 1028 w) := by
  have n1 : IntKind.i64.wrap ((N : Int) - 1) = (n : Int) := by rw [IntKind.wrap_i64]; omega
  have n2 : (n : Int) < (N : Int) := by omega
  have n3 : (0 : Int) ≤ (n : Int) := by omega
  have n4 : ((n : Int)).toNat = n := by omega
  have n6 : n < N := by omega
  have n7 : (n : Int) ≤ (c : Int) := by omega
  have n8 : n ≤ c := by omega
  obtain ⟨hra, hpi⟩ := hps n p hx
  have HRA := Lib.hid hra
  have HPI := Lib.hid hpi
  have HK := Lib.hid (hok p (List.mem_of_getElem? hx))
  have HI := Lib.hid (show (Tryz.prog.info? 59).map (·.size) = some p.cs.length by rw [hpi.len]; exact size59)
  have HI2 := Lib.hid (show (Tryz.prog.info? 59).map (·.size) = some p.cs.toArray.size by rw [hpi.size]; exact size59)
  have HO := Lib.hid (show Tryz.zeroCells59.size = p.cs.toArray.size by rw [hpi.size]; rfl)
  have HAL := Lib.hid hpi.all
  have HZ := Lib.hid (heap_alloc_new w (.cells Tryz.zeroCells59 59))
  have HB := Lib.hid ((Below.refl w.heap.size w).alloc (Nat.le_refl _) (.cells p.cs.toArray 59))
  have HS := Lib.hid (show w.heap.size < (w.alloc (.cells p.cs.toArray 59)).heap.size by simp)
  have HSL := Lib.hid ((PcSl.take hb hps n).below HB.out)
  have HTL := Lib.hid (show (ps.take n).length = n by simp; omega)
  have HTO := Lib.hid (show ∀ p ∈ ps.take n, PcOk p from fun p hp => hok p (List.mem_of_mem_take hp))
  have HBE := Lib.hid (hbe.below HB.out)
  have HR := Lib.hid hpi.new
  obtain ⟨v0, v1, v2, v3, v0'⟩ := hpi.v
  have R_v := Lib.hid (by have := HR.out.v; rwa [v0'] at this : (w.alloc (.cells p.cs.toArray 59)).rangeAt w.heap.size 5 [.int .i64 v0, .bool v1, .int .i64 v2, .int .i64 v3])
  have q0 := HR.out.k
  rw [hk] at q0
  have HKK := Lib.hid hk
  clear v0' HR hra hpi hps hok hx hbe hl hN hk
  go_enter Tryz.func18, Tryz.ntmps18
  go_wp2_with (first
    | (refine wpList_load_mid rfl 59 _ rfl b (o + n * 70) rfl _ _ HRA.out Tryz.underlying59 rfl HI.out ?_)
    | (refine wpList_store_row rfl 59 _ _ rfl w.heap.size _ rfl rfl 59 _ HZ.out HI2.out HO.out HAL.out ?_; rw [setRow_allocS]))
  refine (addresses_ _ _ n (ps.take n) _ HTL.out HSL.out HTO.out (by omega)).mono ?_
  rintro e w1 ⟨A1, m1, c1, A2, m2, c2, rfl, hb1, hb2, hm1, hm2, hbl⟩
  have HB1 := Lib.hid (hb1.below hbl)
  have HB2 := Lib.hid (hb2.below hbl)
  have HBE := Lib.hid (HBE.out.below hbl)
  have HBX0 := Lib.hid (HB.out.trans (hbl.mono HB.out.size))
  have q0 := (hbl.cell (p := ⟨w.heap.size, 0, none⟩) HS.out).trans q0
  have R_v := Lib.hid (rangeBelow R_v.out HS.out hbl)
  clear hb1 hb2 hbl HZ HB
  have HB := HBX0
  clear HBX0 HAL HI HI2 HO HRA HPI HSL HTL HTO
  go_wp2_with (refine wpList_load_mid rfl 40 _ rfl w.heap.size 5 rfl _ _ R_v.out Tryz.underlying40 rfl (by kernel_rfl) ?_)
  have HBW := HB
  refine (vlan_ _ _ _ _ _).mono ?_
  rintro e w3 ⟨ao, kk, rfl, ho, hbl⟩
  have HF := Lib.hid (finRB HBW.out ho hbl)
  clear ho hbl
  go_wp2_with fail
  go_ret
  exact ⟨_, ao, kk, by omega, rfl, HF.out.1, HF.out.2⟩
set_option maxRecDepth 100000 in
set_option maxHeartbeats 4000000 in
theorem header3 (b o c n N : Nat) (ps : List Pc) (p : Pc) (A : Option Addr) (m k : Nat) (w : World) (hb : b < w.heap.size) (hps : PcsV w b o ps) (hl : ps.length = N) (hN : N = n + 1) (hc : N ≤ c) (hn : n ≤ 100) (hx : ps[n]? = some p) (hok : ∀ p ∈ ps, PcOk p) (hbe : BB w (.slice A m k) m) (hm : m ≤ 50000) (hk : p.k = 3) : Calls Tryz.prog 18 #[.slice (some ⟨b, o, none⟩) N c, .slice A m k] w (RBm 1028 w) := by
  have n1 : IntKind.i64.wrap ((N : Int) - 1) = (n : Int) := by rw [IntKind.wrap_i64]; omega
  have n2 : (n : Int) < (N : Int) := by omega
  have n3 : (0 : Int) ≤ (n : Int) := by omega
  have n4 : ((n : Int)).toNat = n := by omega
  have n6 : n < N := by omega
  have n7 : (n : Int) ≤ (c : Int) := by omega
  have n8 : n ≤ c := by omega
  obtain ⟨hra, hpi⟩ := hps n p hx
  have HRA := Lib.hid hra
  have HPI := Lib.hid hpi
  have HK := Lib.hid (hok p (List.mem_of_getElem? hx))
  have HI := Lib.hid (show (Tryz.prog.info? 59).map (·.size) = some p.cs.length by rw [hpi.len]; exact size59)
  have HI2 := Lib.hid (show (Tryz.prog.info? 59).map (·.size) = some p.cs.toArray.size by rw [hpi.size]; exact size59)
  have HO := Lib.hid (show Tryz.zeroCells59.size = p.cs.toArray.size by rw [hpi.size]; rfl)
  have HAL := Lib.hid hpi.all
  have HZ := Lib.hid (heap_alloc_new w (.cells Tryz.zeroCells59 59))
  have HB := Lib.hid ((Below.refl w.heap.size w).alloc (Nat.le_refl _) (.cells p.cs.toArray 59))
  have HS := Lib.hid (show w.heap.size < (w.alloc (.cells p.cs.toArray 59)).heap.size by simp)
  have HSL := Lib.hid ((PcSl.take hb hps n).below HB.out)
  have HTL := Lib.hid (show (ps.take n).length = n by simp; omega)
  have HTO := Lib.hid (show ∀ p ∈ ps.take n, PcOk p from fun p hp => hok p (List.mem_of_mem_take hp))
  have HBE := Lib.hid (hbe.below HB.out)
  have HR := Lib.hid hpi.new
  obtain ⟨f0, f1, f2, f3, f4, f5, f6, f7, f8, fA9, fc9, fA10, fc10, fA11, fc11, f0', fH9, fH10, fH11⟩ := hpi.f
  have R_f := Lib.hid (by have := HR.out.f; rwa [f0'] at this : (w.alloc (.cells p.cs.toArray 59)).rangeAt w.heap.size 9 [.int .i64 f0, .int .i64 f1, .int .i64 f2, .int .i64 f3, .int .i64 f4, .int .i64 f5, .int .i64 f6, .int .i64 f7, .int .i64 f8, .slice fA9 p.n4 fc9, .slice fA10 p.m4 fc10, .slice fA11 p.o4.length fc11])
  have fH9 := Lib.hid (fH9.below HB.out)
  have fH10 := Lib.hid (fH10.below HB.out)
  have fH11 := Lib.hid (fH11.below HB.out)
  have q0 := HR.out.k
  rw [hk] at q0
  have HKK := Lib.hid hk
  clear f0' HR hra hpi hps hok hx hbe hl hN hk
  go_enter Tryz.func18, Tryz.ntmps18
  go_wp2_with (first
    | (refine wpList_load_mid rfl 59 _ rfl b (o + n * 70) rfl _ _ HRA.out Tryz.underlying59 rfl HI.out ?_)
    | (refine wpList_store_row rfl 59 _ _ rfl w.heap.size _ rfl rfl 59 _ HZ.out HI2.out HO.out HAL.out ?_; rw [setRow_allocS]))
  refine (addresses_ _ _ n (ps.take n) _ HTL.out HSL.out HTO.out (by omega)).mono ?_
  rintro e w1 ⟨A1, m1, c1, A2, m2, c2, rfl, hb1, hb2, hm1, hm2, hbl⟩
  have HB1 := Lib.hid (hb1.below hbl)
  have HB2 := Lib.hid (hb2.below hbl)
  have HBE := Lib.hid (HBE.out.below hbl)
  have HBX0 := Lib.hid (HB.out.trans (hbl.mono HB.out.size))
  have q0 := (hbl.cell (p := ⟨w.heap.size, 0, none⟩) HS.out).trans q0
  have R_f := Lib.hid (rangeBelow R_f.out HS.out hbl)
  have fH9 := Lib.hid (fH9.out.below hbl)
  have fH10 := Lib.hid (fH10.out.below hbl)
  have fH11 := Lib.hid (fH11.out.below hbl)
  clear hb1 hb2 hbl HZ HB
  have HB := HBX0
  clear HBX0 HAL HI HI2 HO HRA HPI HSL HTL HTO
  go_wp2_with (refine wpList_load_mid rfl 43 _ rfl w.heap.size 9 rfl _ _ R_f.out Tryz.underlying43 rfl (by kernel_rfl) ?_)
  refine (wholeIpv4_ _ _ _ _ _ _ _ _ _ _ _ _ _ _ _ _ _ _ _ _ fH9.out (by have := HK.out.f HKK.out; omega) fH10.out (by have := HK.out.f HKK.out; omega) fH11.out (by have := HK.out.f HKK.out; omega) (by have := HK.out.f HKK.out; omega) (by omega)).mono ?_
  rintro e w2 ⟨⟨x, y, z, rfl⟩, hbw⟩
  have HBX := Lib.hid hbw
  have HBW := Lib.hid (HB.out.trans (hbw.mono HB.out.size))
  clear hbw
  go_wp2_with fail
  refine (ipv4_ _ _ _ _ _ _ _ _ _ _ _ _ _ _ _ _ _ _ _ (fH9.out.below HBX.out) (by have := HK.out.f HKK.out; omega) (fH10.out.below HBX.out) (by have := HK.out.f HKK.out; omega) (fH11.out.below HBX.out) (by have := HK.out.f HKK.out; omega) (by have := HK.out.f HKK.out; omega)).mono ?_
  rintro e w3 ⟨nn, ao, kk, hnn, rfl, ho, hbl⟩
  have HF := Lib.hid (finRB HBW.out ho hbl)
  clear ho hbl
  go_wp2_with fail
  go_ret
  exact ⟨nn, ao, kk, by omega, rfl, HF.out.1, HF.out.2⟩
set_option maxRecDepth 100000 in
set_option maxHeartbeats 4000000 in
theorem header4 (b o c n N : Nat) (ps : List Pc) (p : Pc) (A : Option Addr) (m k : Nat) (w : World) (hb : b < w.heap.size) (hps : PcsV w b o ps) (hl : ps.length = N) (hN : N = n + 1) (hc : N ≤ c) (hn : n ≤ 100) (hx : ps[n]? = some p) (hok : ∀ p ∈ ps, PcOk p) (hbe : BB w (.slice A m k) m) (hm : m ≤ 50000) (hk : p.k = 4) : Calls Tryz.prog 18 #[.slice (some ⟨b, o, none⟩) N c, .slice A m k] w (RBm 1028 w) := by
  have n1 : IntKind.i64.wrap ((N : Int) - 1) = (n : Int) := by rw [IntKind.wrap_i64]; omega
  have n2 : (n : Int) < (N : Int) := by omega
  have n3 : (0 : Int) ≤ (n : Int) := by omega
  have n4 : ((n : Int)).toNat = n := by omega
  have n6 : n < N := by omega
  have n7 : (n : Int) ≤ (c : Int) := by omega
  have n8 : n ≤ c := by omega
  obtain ⟨hra, hpi⟩ := hps n p hx
  have HRA := Lib.hid hra
  have HPI := Lib.hid hpi
  have HK := Lib.hid (hok p (List.mem_of_getElem? hx))
  have HI := Lib.hid (show (Tryz.prog.info? 59).map (·.size) = some p.cs.length by rw [hpi.len]; exact size59)
  have HI2 := Lib.hid (show (Tryz.prog.info? 59).map (·.size) = some p.cs.toArray.size by rw [hpi.size]; exact size59)
  have HO := Lib.hid (show Tryz.zeroCells59.size = p.cs.toArray.size by rw [hpi.size]; rfl)
  have HAL := Lib.hid hpi.all
  have HZ := Lib.hid (heap_alloc_new w (.cells Tryz.zeroCells59 59))
  have HB := Lib.hid ((Below.refl w.heap.size w).alloc (Nat.le_refl _) (.cells p.cs.toArray 59))
  have HS := Lib.hid (show w.heap.size < (w.alloc (.cells p.cs.toArray 59)).heap.size by simp)
  have HSL := Lib.hid ((PcSl.take hb hps n).below HB.out)
  have HTL := Lib.hid (show (ps.take n).length = n by simp; omega)
  have HTO := Lib.hid (show ∀ p ∈ ps.take n, PcOk p from fun p hp => hok p (List.mem_of_mem_take hp))
  have HBE := Lib.hid (hbe.below HB.out)
  have HR := Lib.hid hpi.new
  obtain ⟨y0, y1, y2, y3, y4, yA5, yc5, yA6, yc6, y0', yH5, yH6⟩ := hpi.y
  have R_y := Lib.hid (by have := HR.out.y; rwa [y0'] at this : (w.alloc (.cells p.cs.toArray 59)).rangeAt w.heap.size 21 [.int .i64 y0, .int .i64 y1, .int .i64 y2, .int .i64 y3, .int .i64 y4, .slice yA5 p.n6 yc5, .slice yA6 p.m6 yc6])
  have yH5 := Lib.hid (yH5.below HB.out)
  have yH6 := Lib.hid (yH6.below HB.out)
  have q0 := HR.out.k
  rw [hk] at q0
  have HKK := Lib.hid hk
  clear y0' HR hra hpi hps hok hx hbe hl hN hk
  go_enter Tryz.func18, Tryz.ntmps18
  go_wp2_with (first
    | (refine wpList_load_mid rfl 59 _ rfl b (o + n * 70) rfl _ _ HRA.out Tryz.underlying59 rfl HI.out ?_)
    | (refine wpList_store_row rfl 59 _ _ rfl w.heap.size _ rfl rfl 59 _ HZ.out HI2.out HO.out HAL.out ?_; rw [setRow_allocS]))
  refine (addresses_ _ _ n (ps.take n) _ HTL.out HSL.out HTO.out (by omega)).mono ?_
  rintro e w1 ⟨A1, m1, c1, A2, m2, c2, rfl, hb1, hb2, hm1, hm2, hbl⟩
  have HB1 := Lib.hid (hb1.below hbl)
  have HB2 := Lib.hid (hb2.below hbl)
  have HBE := Lib.hid (HBE.out.below hbl)
  have HBX0 := Lib.hid (HB.out.trans (hbl.mono HB.out.size))
  have q0 := (hbl.cell (p := ⟨w.heap.size, 0, none⟩) HS.out).trans q0
  have R_y := Lib.hid (rangeBelow R_y.out HS.out hbl)
  have yH5 := Lib.hid (yH5.out.below hbl)
  have yH6 := Lib.hid (yH6.out.below hbl)
  clear hb1 hb2 hbl HZ HB
  have HB := HBX0
  clear HBX0 HAL HI HI2 HO HRA HPI HSL HTL HTO
  go_wp2_with (refine wpList_load_mid rfl 45 _ rfl w.heap.size 21 rfl _ _ R_y.out Tryz.underlying45 rfl (by kernel_rfl) ?_)
  have HBW := HB
  refine (ipv6_ _ _ _ _ _ _ _ _ _ _ _ _ _ yH5.out (by have := HK.out.y HKK.out; omega) yH6.out (by have := HK.out.y HKK.out; omega)).mono ?_
  rintro e w3 ⟨nn, ao, kk, hnn, rfl, ho, hbl⟩
  have HF := Lib.hid (finRB HBW.out ho hbl)
  clear ho hbl
  go_wp2_with fail
  go_ret
  exact ⟨nn, ao, kk, by omega, rfl, HF.out.1, HF.out.2⟩
set_option maxRecDepth 100000 in
set_option maxHeartbeats 4000000 in
theorem header5 (b o c n N : Nat) (ps : List Pc) (p : Pc) (A : Option Addr) (m k : Nat) (w : World) (hb : b < w.heap.size) (hps : PcsV w b o ps) (hl : ps.length = N) (hN : N = n + 1) (hc : N ≤ c) (hn : n ≤ 100) (hx : ps[n]? = some p) (hok : ∀ p ∈ ps, PcOk p) (hbe : BB w (.slice A m k) m) (hm : m ≤ 50000) (hk : p.k = 5) : Calls Tryz.prog 18 #[.slice (some ⟨b, o, none⟩) N c, .slice A m k] w (RBm 1028 w) := by
  have n1 : IntKind.i64.wrap ((N : Int) - 1) = (n : Int) := by rw [IntKind.wrap_i64]; omega
  have n2 : (n : Int) < (N : Int) := by omega
  have n3 : (0 : Int) ≤ (n : Int) := by omega
  have n4 : ((n : Int)).toNat = n := by omega
  have n6 : n < N := by omega
  have n7 : (n : Int) ≤ (c : Int) := by omega
  have n8 : n ≤ c := by omega
  obtain ⟨hra, hpi⟩ := hps n p hx
  have HRA := Lib.hid hra
  have HPI := Lib.hid hpi
  have HK := Lib.hid (hok p (List.mem_of_getElem? hx))
  have HI := Lib.hid (show (Tryz.prog.info? 59).map (·.size) = some p.cs.length by rw [hpi.len]; exact size59)
  have HI2 := Lib.hid (show (Tryz.prog.info? 59).map (·.size) = some p.cs.toArray.size by rw [hpi.size]; exact size59)
  have HO := Lib.hid (show Tryz.zeroCells59.size = p.cs.toArray.size by rw [hpi.size]; rfl)
  have HAL := Lib.hid hpi.all
  have HZ := Lib.hid (heap_alloc_new w (.cells Tryz.zeroCells59 59))
  have HB := Lib.hid ((Below.refl w.heap.size w).alloc (Nat.le_refl _) (.cells p.cs.toArray 59))
  have HS := Lib.hid (show w.heap.size < (w.alloc (.cells p.cs.toArray 59)).heap.size by simp)
  have HSL := Lib.hid ((PcSl.take hb hps n).below HB.out)
  have HTL := Lib.hid (show (ps.take n).length = n by simp; omega)
  have HTO := Lib.hid (show ∀ p ∈ ps.take n, PcOk p from fun p hp => hok p (List.mem_of_mem_take hp))
  have HBE := Lib.hid (hbe.below HB.out)
  have HR := Lib.hid hpi.new
  obtain ⟨t0, t1, t2, t3, t4, t5, t6, t7, t8, tA9, tc9, t0', tH9⟩ := hpi.t
  have R_t := Lib.hid (by have := HR.out.t; rwa [t0'] at this : (w.alloc (.cells p.cs.toArray 59)).rangeAt w.heap.size 28 [.int .i64 t0, .int .i64 t1, .int .i64 t2, .int .i64 t3, .int .i64 t4, .int .i64 t5, .int .i64 t6, .int .i64 t7, .int .i64 t8, .slice tA9 p.ot.length tc9])
  have tH9 := Lib.hid (tH9.below HB.out)
  have q0 := HR.out.k
  rw [hk] at q0
  have HKK := Lib.hid hk
  clear t0' HR hra hpi hps hok hx hbe hl hN hk
  go_enter Tryz.func18, Tryz.ntmps18
  go_wp2_with (first
    | (refine wpList_load_mid rfl 59 _ rfl b (o + n * 70) rfl _ _ HRA.out Tryz.underlying59 rfl HI.out ?_)
    | (refine wpList_store_row rfl 59 _ _ rfl w.heap.size _ rfl rfl 59 _ HZ.out HI2.out HO.out HAL.out ?_; rw [setRow_allocS]))
  refine (addresses_ _ _ n (ps.take n) _ HTL.out HSL.out HTO.out (by omega)).mono ?_
  rintro e w1 ⟨A1, m1, c1, A2, m2, c2, rfl, hb1, hb2, hm1, hm2, hbl⟩
  have HB1 := Lib.hid (hb1.below hbl)
  have HB2 := Lib.hid (hb2.below hbl)
  have HBE := Lib.hid (HBE.out.below hbl)
  have HBX0 := Lib.hid (HB.out.trans (hbl.mono HB.out.size))
  have q0 := (hbl.cell (p := ⟨w.heap.size, 0, none⟩) HS.out).trans q0
  have R_t := Lib.hid (rangeBelow R_t.out HS.out hbl)
  have tH9 := Lib.hid (tH9.out.below hbl)
  clear hb1 hb2 hbl HZ HB
  have HB := HBX0
  clear HBX0 HAL HI HI2 HO HRA HPI HSL HTL HTO
  go_wp2_with (refine wpList_load_mid rfl 47 _ rfl w.heap.size 28 rfl _ _ R_t.out Tryz.underlying47 rfl (by kernel_rfl) ?_)
  refine (wholeTcp_ _ _ _ _ _ _ _ _ _ _ _ _ A1 A2 A m1 c1 m2 c2 m k _ tH9.out (by have := HK.out.t HKK.out; omega) (by have := HK.out.t HKK.out; omega) HB1.out HB2.out HBE.out hm1 hm2 (by omega)).mono ?_
  rintro e w2 ⟨⟨x, y, rfl⟩, hbw⟩
  have HBX := Lib.hid hbw
  have HBW := Lib.hid (HB.out.trans (hbw.mono HB.out.size))
  clear hbw
  go_wp2_with fail
  refine (tcp_ _ _ _ _ _ _ _ _ _ _ _ _ _ (tH9.out.below HBX.out) (by have := HK.out.t HKK.out; omega) (by have := HK.out.t HKK.out; omega)).mono ?_
  rintro e w3 ⟨nn, ao, kk, hnn, rfl, ho, hbl⟩
  have HF := Lib.hid (finRB HBW.out ho hbl)
  clear ho hbl
  go_wp2_with fail
  go_ret
  exact ⟨nn, ao, kk, by omega, rfl, HF.out.1, HF.out.2⟩
set_option maxRecDepth 100000 in
set_option maxHeartbeats 4000000 in
theorem header6 (b o c n N : Nat) (ps : List Pc) (p : Pc) (A : Option Addr) (m k : Nat) (w : World) (hb : b < w.heap.size) (hps : PcsV w b o ps) (hl : ps.length = N) (hN : N = n + 1) (hc : N ≤ c) (hn : n ≤ 100) (hx : ps[n]? = some p) (hok : ∀ p ∈ ps, PcOk p) (hbe : BB w (.slice A m k) m) (hm : m ≤ 50000) (hk : p.k = 6) : Calls Tryz.prog 18 #[.slice (some ⟨b, o, none⟩) N c, .slice A m k] w (RBm 1028 w) := by
  have n1 : IntKind.i64.wrap ((N : Int) - 1) = (n : Int) := by rw [IntKind.wrap_i64]; omega
  have n2 : (n : Int) < (N : Int) := by omega
  have n3 : (0 : Int) ≤ (n : Int) := by omega
  have n4 : ((n : Int)).toNat = n := by omega
  have n6 : n < N := by omega
  have n7 : (n : Int) ≤ (c : Int) := by omega
  have n8 : n ≤ c := by omega
  obtain ⟨hra, hpi⟩ := hps n p hx
  have HRA := Lib.hid hra
  have HPI := Lib.hid hpi
  have HK := Lib.hid (hok p (List.mem_of_getElem? hx))
  have HI := Lib.hid (show (Tryz.prog.info? 59).map (·.size) = some p.cs.length by rw [hpi.len]; exact size59)
  have HI2 := Lib.hid (show (Tryz.prog.info? 59).map (·.size) = some p.cs.toArray.size by rw [hpi.size]; exact size59)
  have HO := Lib.hid (show Tryz.zeroCells59.size = p.cs.toArray.size by rw [hpi.size]; rfl)
  have HAL := Lib.hid hpi.all
  have HZ := Lib.hid (heap_alloc_new w (.cells Tryz.zeroCells59 59))
  have HB := Lib.hid ((Below.refl w.heap.size w).alloc (Nat.le_refl _) (.cells p.cs.toArray 59))
  have HS := Lib.hid (show w.heap.size < (w.alloc (.cells p.cs.toArray 59)).heap.size by simp)
  have HSL := Lib.hid ((PcSl.take hb hps n).below HB.out)
  have HTL := Lib.hid (show (ps.take n).length = n by simp; omega)
  have HTO := Lib.hid (show ∀ p ∈ ps.take n, PcOk p from fun p hp => hok p (List.mem_of_mem_take hp))
  have HBE := Lib.hid (hbe.below HB.out)
  have HR := Lib.hid hpi.new
  obtain ⟨u0, u1, u2, u3, u0'⟩ := hpi.u
  have R_u := Lib.hid (by have := HR.out.u; rwa [u0'] at this : (w.alloc (.cells p.cs.toArray 59)).rangeAt w.heap.size 38 [.int .i64 u0, .int .i64 u1, .int .i64 u2, .int .i64 u3])
  have q0 := HR.out.k
  rw [hk] at q0
  have HKK := Lib.hid hk
  clear u0' HR hra hpi hps hok hx hbe hl hN hk
  go_enter Tryz.func18, Tryz.ntmps18
  go_wp2_with (first
    | (refine wpList_load_mid rfl 59 _ rfl b (o + n * 70) rfl _ _ HRA.out Tryz.underlying59 rfl HI.out ?_)
    | (refine wpList_store_row rfl 59 _ _ rfl w.heap.size _ rfl rfl 59 _ HZ.out HI2.out HO.out HAL.out ?_; rw [setRow_allocS]))
  refine (addresses_ _ _ n (ps.take n) _ HTL.out HSL.out HTO.out (by omega)).mono ?_
  rintro e w1 ⟨A1, m1, c1, A2, m2, c2, rfl, hb1, hb2, hm1, hm2, hbl⟩
  have HB1 := Lib.hid (hb1.below hbl)
  have HB2 := Lib.hid (hb2.below hbl)
  have HBE := Lib.hid (HBE.out.below hbl)
  have HBX0 := Lib.hid (HB.out.trans (hbl.mono HB.out.size))
  have q0 := (hbl.cell (p := ⟨w.heap.size, 0, none⟩) HS.out).trans q0
  have R_u := Lib.hid (rangeBelow R_u.out HS.out hbl)
  clear hb1 hb2 hbl HZ HB
  have HB := HBX0
  clear HBX0 HAL HI HI2 HO HRA HPI HSL HTL HTO
  go_wp2_with (refine wpList_load_mid rfl 49 _ rfl w.heap.size 38 rfl _ _ R_u.out Tryz.underlying49 rfl (by kernel_rfl) ?_)
  refine (wholeUdp_ _ _ _ _ A1 A2 A m1 c1 m2 c2 m k _ HB1.out HB2.out HBE.out hm1 hm2 (by omega)).mono ?_
  rintro e w2 ⟨⟨x, y, rfl⟩, hbw⟩
  have HBX := Lib.hid hbw
  have HBW := Lib.hid (HB.out.trans (hbw.mono HB.out.size))
  clear hbw
  go_wp2_with fail
  refine (udp_ _ _ _ _ _).mono ?_
  rintro e w3 ⟨ao, kk, rfl, ho, hbl⟩
  have HF := Lib.hid (finRB HBW.out ho hbl)
  clear ho hbl
  go_wp2_with fail
  go_ret
  exact ⟨_, ao, kk, by omega, rfl, HF.out.1, HF.out.2⟩
set_option maxRecDepth 100000 in
set_option maxHeartbeats 4000000 in
theorem header7 (b o c n N : Nat) (ps : List Pc) (p : Pc) (A : Option Addr) (m k : Nat) (w : World) (hb : b < w.heap.size) (hps : PcsV w b o ps) (hl : ps.length = N) (hN : N = n + 1) (hc : N ≤ c) (hn : n ≤ 100) (hx : ps[n]? = some p) (hok : ∀ p ∈ ps, PcOk p) (hbe : BB w (.slice A m k) m) (hm : m ≤ 50000) (hk : p.k = 7) : Calls Tryz.prog 18 #[.slice (some ⟨b, o, none⟩) N c, .slice A m k] w (RBm 1028 w) := by
  have n1 : IntKind.i64.wrap ((N : Int) - 1) = (n : Int) := by rw [IntKind.wrap_i64]; omega
  have n2 : (n : Int) < (N : Int) := by omega
  have n3 : (0 : Int) ≤ (n : Int) := by omega
  have n4 : ((n : Int)).toNat = n := by omega
  have n6 : n < N := by omega
  have n7 : (n : Int) ≤ (c : Int) := by omega
  have n8 : n ≤ c := by omega
  obtain ⟨hra, hpi⟩ := hps n p hx
  have HRA := Lib.hid hra
  have HPI := Lib.hid hpi
  have HK := Lib.hid (hok p (List.mem_of_getElem? hx))
  have HI := Lib.hid (show (Tryz.prog.info? 59).map (·.size) = some p.cs.length by rw [hpi.len]; exact size59)
  have HI2 := Lib.hid (show (Tryz.prog.info? 59).map (·.size) = some p.cs.toArray.size by rw [hpi.size]; exact size59)
  have HO := Lib.hid (show Tryz.zeroCells59.size = p.cs.toArray.size by rw [hpi.size]; rfl)
  have HAL := Lib.hid hpi.all
  have HZ := Lib.hid (heap_alloc_new w (.cells Tryz.zeroCells59 59))
  have HB := Lib.hid ((Below.refl w.heap.size w).alloc (Nat.le_refl _) (.cells p.cs.toArray 59))
  have HS := Lib.hid (show w.heap.size < (w.alloc (.cells p.cs.toArray 59)).heap.size by simp)
  have HSL := Lib.hid ((PcSl.take hb hps n).below HB.out)
  have HTL := Lib.hid (show (ps.take n).length = n by simp; omega)
  have HTO := Lib.hid (show ∀ p ∈ ps.take n, PcOk p from fun p hp => hok p (List.mem_of_mem_take hp))
  have HBE := Lib.hid (hbe.below HB.out)
  have HR := Lib.hid hpi.new
  obtain ⟨h0, h1, h2, h3, h4, h0'⟩ := hpi.h
  have R_h := Lib.hid (by have := HR.out.h; rwa [h0'] at this : (w.alloc (.cells p.cs.toArray 59)).rangeAt w.heap.size 42 [.int .i64 h0, .int .i64 h1, .int .i64 h2, .int .i64 h3, .int .i64 h4])
  have q0 := HR.out.k
  rw [hk] at q0
  have HKK := Lib.hid hk
  clear h0' HR hra hpi hps hok hx hbe hl hN hk
  go_enter Tryz.func18, Tryz.ntmps18
  go_wp2_with (first
    | (refine wpList_load_mid rfl 59 _ rfl b (o + n * 70) rfl _ _ HRA.out Tryz.underlying59 rfl HI.out ?_)
    | (refine wpList_store_row rfl 59 _ _ rfl w.heap.size _ rfl rfl 59 _ HZ.out HI2.out HO.out HAL.out ?_; rw [setRow_allocS]))
  refine (addresses_ _ _ n (ps.take n) _ HTL.out HSL.out HTO.out (by omega)).mono ?_
  rintro e w1 ⟨A1, m1, c1, A2, m2, c2, rfl, hb1, hb2, hm1, hm2, hbl⟩
  have HB1 := Lib.hid (hb1.below hbl)
  have HB2 := Lib.hid (hb2.below hbl)
  have HBE := Lib.hid (HBE.out.below hbl)
  have HBX0 := Lib.hid (HB.out.trans (hbl.mono HB.out.size))
  have q0 := (hbl.cell (p := ⟨w.heap.size, 0, none⟩) HS.out).trans q0
  have R_h := Lib.hid (rangeBelow R_h.out HS.out hbl)
  clear hb1 hb2 hbl HZ HB
  have HB := HBX0
  clear HBX0 HAL HI HI2 HO HRA HPI HSL HTL HTO
  go_wp2_with (refine wpList_load_mid rfl 51 _ rfl w.heap.size 42 rfl _ _ R_h.out Tryz.underlying51 rfl (by kernel_rfl) ?_)
  refine (wholeIcmp_ _ _ _ _ _ A m k _ HBE.out (by omega)).mono ?_
  rintro e w2 ⟨⟨x, rfl⟩, hbw⟩
  have HBX := Lib.hid hbw
  have HBW := Lib.hid (HB.out.trans (hbw.mono HB.out.size))
  clear hbw
  go_wp2_with fail
  refine (icmp_ _ _ _ _ _ _).mono ?_
  rintro e w3 ⟨ao, kk, rfl, ho, hbl⟩
  have HF := Lib.hid (finRB HBW.out ho hbl)
  clear ho hbl
  go_wp2_with fail
  go_ret
  exact ⟨_, ao, kk, by omega, rfl, HF.out.1, HF.out.2⟩
set_option maxRecDepth 100000 in
set_option maxHeartbeats 4000000 in
theorem header10 (b o c n N : Nat) (ps : List Pc) (p : Pc) (A : Option Addr) (m k : Nat) (w : World) (hb : b < w.heap.size) (hps : PcsV w b o ps) (hl : ps.length = N) (hN : N = n + 1) (hc : N ≤ c) (hn : n ≤ 100) (hx : ps[n]? = some p) (hok : ∀ p ∈ ps, PcOk p) (hbe : BB w (.slice A m k) m) (hm : m ≤ 50000) (hk : p.k = 10) : Calls Tryz.prog 18 #[.slice (some ⟨b, o, none⟩) N c, .slice A m k] w (RBm 1028 w) := by
  have n1 : IntKind.i64.wrap ((N : Int) - 1) = (n : Int) := by rw [IntKind.wrap_i64]; omega
  have n2 : (n : Int) < (N : Int) := by omega
  have n3 : (0 : Int) ≤ (n : Int) := by omega
  have n4 : ((n : Int)).toNat = n := by omega
  have n6 : n < N := by omega
  have n7 : (n : Int) ≤ (c : Int) := by omega
  have n8 : n ≤ c := by omega
  obtain ⟨hra, hpi⟩ := hps n p hx
  have HRA := Lib.hid hra
  have HPI := Lib.hid hpi
  have HK := Lib.hid (hok p (List.mem_of_getElem? hx))
  have HI := Lib.hid (show (Tryz.prog.info? 59).map (·.size) = some p.cs.length by rw [hpi.len]; exact size59)
  have HI2 := Lib.hid (show (Tryz.prog.info? 59).map (·.size) = some p.cs.toArray.size by rw [hpi.size]; exact size59)
  have HO := Lib.hid (show Tryz.zeroCells59.size = p.cs.toArray.size by rw [hpi.size]; rfl)
  have HAL := Lib.hid hpi.all
  have HZ := Lib.hid (heap_alloc_new w (.cells Tryz.zeroCells59 59))
  have HB := Lib.hid ((Below.refl w.heap.size w).alloc (Nat.le_refl _) (.cells p.cs.toArray 59))
  have HS := Lib.hid (show w.heap.size < (w.alloc (.cells p.cs.toArray 59)).heap.size by simp)
  have HSL := Lib.hid ((PcSl.take hb hps n).below HB.out)
  have HTL := Lib.hid (show (ps.take n).length = n by simp; omega)
  have HTO := Lib.hid (show ∀ p ∈ ps.take n, PcOk p from fun p hp => hok p (List.mem_of_mem_take hp))
  have HBE := Lib.hid (hbe.below HB.out)
  have HR := Lib.hid hpi.new
  obtain ⟨h0, h1, h2, h3, h4, h0'⟩ := hpi.h
  have R_h := Lib.hid (by have := HR.out.h; rwa [h0'] at this : (w.alloc (.cells p.cs.toArray 59)).rangeAt w.heap.size 42 [.int .i64 h0, .int .i64 h1, .int .i64 h2, .int .i64 h3, .int .i64 h4])
  have q0 := HR.out.k
  rw [hk] at q0
  have HKK := Lib.hid hk
  clear h0' HR hra hpi hps hok hx hbe hl hN hk
  go_enter Tryz.func18, Tryz.ntmps18
  go_wp2_with (first
    | (refine wpList_load_mid rfl 59 _ rfl b (o + n * 70) rfl _ _ HRA.out Tryz.underlying59 rfl HI.out ?_)
    | (refine wpList_store_row rfl 59 _ _ rfl w.heap.size _ rfl rfl 59 _ HZ.out HI2.out HO.out HAL.out ?_; rw [setRow_allocS]))
  refine (addresses_ _ _ n (ps.take n) _ HTL.out HSL.out HTO.out (by omega)).mono ?_
  rintro e w1 ⟨A1, m1, c1, A2, m2, c2, rfl, hb1, hb2, hm1, hm2, hbl⟩
  have HB1 := Lib.hid (hb1.below hbl)
  have HB2 := Lib.hid (hb2.below hbl)
  have HBE := Lib.hid (HBE.out.below hbl)
  have HBX0 := Lib.hid (HB.out.trans (hbl.mono HB.out.size))
  have q0 := (hbl.cell (p := ⟨w.heap.size, 0, none⟩) HS.out).trans q0
  have R_h := Lib.hid (rangeBelow R_h.out HS.out hbl)
  clear hb1 hb2 hbl HZ HB
  have HB := HBX0
  clear HBX0 HAL HI HI2 HO HRA HPI HSL HTL HTO
  go_wp2_with (refine wpList_load_mid rfl 51 _ rfl w.heap.size 42 rfl _ _ R_h.out Tryz.underlying51 rfl (by kernel_rfl) ?_)
  have HBW := HB
  refine (controlSix_ _ _ _ _ _ A1 A2 A m1 c1 m2 c2 m k _ HB1.out HB2.out HBE.out hm1 hm2 (by omega)).mono ?_
  rintro e w3 ⟨ao, kk, rfl, ho, hbl⟩
  have HF := Lib.hid (finRB HBW.out ho hbl)
  clear ho hbl
  go_wp2_with fail
  go_ret
  exact ⟨_, ao, kk, by omega, rfl, HF.out.1, HF.out.2⟩
set_option maxRecDepth 100000 in
set_option maxHeartbeats 4000000 in
theorem header11 (b o c n N : Nat) (ps : List Pc) (p : Pc) (A : Option Addr) (m k : Nat) (w : World) (hb : b < w.heap.size) (hps : PcsV w b o ps) (hl : ps.length = N) (hN : N = n + 1) (hc : N ≤ c) (hn : n ≤ 100) (hx : ps[n]? = some p) (hok : ∀ p ∈ ps, PcOk p) (hbe : BB w (.slice A m k) m) (hm : m ≤ 50000) (hk : p.k = 11) : Calls Tryz.prog 18 #[.slice (some ⟨b, o, none⟩) N c, .slice A m k] w (RBm 1028 w) := by
  have n1 : IntKind.i64.wrap ((N : Int) - 1) = (n : Int) := by rw [IntKind.wrap_i64]; omega
  have n2 : (n : Int) < (N : Int) := by omega
  have n3 : (0 : Int) ≤ (n : Int) := by omega
  have n4 : ((n : Int)).toNat = n := by omega
  have n6 : n < N := by omega
  have n7 : (n : Int) ≤ (c : Int) := by omega
  have n8 : n ≤ c := by omega
  obtain ⟨hra, hpi⟩ := hps n p hx
  have HRA := Lib.hid hra
  have HPI := Lib.hid hpi
  have HK := Lib.hid (hok p (List.mem_of_getElem? hx))
  have HI := Lib.hid (show (Tryz.prog.info? 59).map (·.size) = some p.cs.length by rw [hpi.len]; exact size59)
  have HI2 := Lib.hid (show (Tryz.prog.info? 59).map (·.size) = some p.cs.toArray.size by rw [hpi.size]; exact size59)
  have HO := Lib.hid (show Tryz.zeroCells59.size = p.cs.toArray.size by rw [hpi.size]; rfl)
  have HAL := Lib.hid hpi.all
  have HZ := Lib.hid (heap_alloc_new w (.cells Tryz.zeroCells59 59))
  have HB := Lib.hid ((Below.refl w.heap.size w).alloc (Nat.le_refl _) (.cells p.cs.toArray 59))
  have HS := Lib.hid (show w.heap.size < (w.alloc (.cells p.cs.toArray 59)).heap.size by simp)
  have HSL := Lib.hid ((PcSl.take hb hps n).below HB.out)
  have HTL := Lib.hid (show (ps.take n).length = n by simp; omega)
  have HTO := Lib.hid (show ∀ p ∈ ps.take n, PcOk p from fun p hp => hok p (List.mem_of_mem_take hp))
  have HBE := Lib.hid (hbe.below HB.out)
  have HR := Lib.hid hpi.new
  obtain ⟨r0, r1, r2, rA3, rc3, rA4, rc4, rA5, rc5, rA6, rc6, r0', rH3, rH4, rH5, rH6⟩ := hpi.r
  have R_r := Lib.hid (by have := HR.out.r; rwa [r0'] at this : (w.alloc (.cells p.cs.toArray 59)).rangeAt w.heap.size 63 [.int .i64 r0, .int .i64 r1, .int .i64 r2, .slice rA3 p.na rc3, .slice rA4 p.nb rc4, .slice rA5 p.nc rc5, .slice rA6 p.nd rc6])
  have rH3 := Lib.hid (rH3.below HB.out)
  have rH4 := Lib.hid (rH4.below HB.out)
  have rH5 := Lib.hid (rH5.below HB.out)
  have rH6 := Lib.hid (rH6.below HB.out)
  have q0 := HR.out.k
  rw [hk] at q0
  have HKK := Lib.hid hk
  clear r0' HR hra hpi hps hok hx hbe hl hN hk
  go_enter Tryz.func18, Tryz.ntmps18
  go_wp2_with (first
    | (refine wpList_load_mid rfl 59 _ rfl b (o + n * 70) rfl _ _ HRA.out Tryz.underlying59 rfl HI.out ?_)
    | (refine wpList_store_row rfl 59 _ _ rfl w.heap.size _ rfl rfl 59 _ HZ.out HI2.out HO.out HAL.out ?_; rw [setRow_allocS]))
  refine (addresses_ _ _ n (ps.take n) _ HTL.out HSL.out HTO.out (by omega)).mono ?_
  rintro e w1 ⟨A1, m1, c1, A2, m2, c2, rfl, hb1, hb2, hm1, hm2, hbl⟩
  have HB1 := Lib.hid (hb1.below hbl)
  have HB2 := Lib.hid (hb2.below hbl)
  have HBE := Lib.hid (HBE.out.below hbl)
  have HBX0 := Lib.hid (HB.out.trans (hbl.mono HB.out.size))
  have q0 := (hbl.cell (p := ⟨w.heap.size, 0, none⟩) HS.out).trans q0
  have R_r := Lib.hid (rangeBelow R_r.out HS.out hbl)
  have rH3 := Lib.hid (rH3.out.below hbl)
  have rH4 := Lib.hid (rH4.out.below hbl)
  have rH5 := Lib.hid (rH5.out.below hbl)
  have rH6 := Lib.hid (rH6.out.below hbl)
  clear hb1 hb2 hbl HZ HB
  have HB := HBX0
  clear HBX0 HAL HI HI2 HO HRA HPI HSL HTL HTO
  go_wp2_with (refine wpList_load_mid rfl 57 _ rfl w.heap.size 63 rfl _ _ R_r.out Tryz.underlying57 rfl (by kernel_rfl) ?_)
  have HBW := HB
  refine (arp_ _ _ _ _ _ _ _ _ _ _ _ _ _ _ _ _ rH3.out (by have := HK.out.r HKK.out; omega) rH4.out (by have := HK.out.r HKK.out; omega) rH5.out (by have := HK.out.r HKK.out; omega) rH6.out (by have := HK.out.r HKK.out; omega)).mono ?_
  rintro e w3 ⟨nn, ao, kk, hnn, rfl, ho, hbl⟩
  have HF := Lib.hid (finRB HBW.out ho hbl)
  clear ho hbl
  go_wp2_with fail
  go_ret
  exact ⟨nn, ao, kk, by omega, rfl, HF.out.1, HF.out.2⟩
set_option maxRecDepth 100000 in
set_option maxHeartbeats 4000000 in
theorem header8 (b o c n N : Nat) (ps : List Pc) (p : Pc) (A : Option Addr) (m k : Nat) (w : World) (hb : b < w.heap.size) (hps : PcsV w b o ps) (hl : ps.length = N) (hN : N = n + 1) (hc : N ≤ c) (hn : n ≤ 100) (hx : ps[n]? = some p) (hok : ∀ p ∈ ps, PcOk p) (hbe : BB w (.slice A m k) m) (hm : m ≤ 50000) (hk : p.k = 8) : Calls Tryz.prog 18 #[.slice (some ⟨b, o, none⟩) N c, .slice A m k] w (RBm 1028 w) := by
  have n1 : IntKind.i64.wrap ((N : Int) - 1) = (n : Int) := by rw [IntKind.wrap_i64]; omega
  have n2 : (n : Int) < (N : Int) := by omega
  have n3 : (0 : Int) ≤ (n : Int) := by omega
  have n4 : ((n : Int)).toNat = n := by omega
  have n6 : n < N := by omega
  have n7 : (n : Int) ≤ (c : Int) := by omega
  have n8 : n ≤ c := by omega
  obtain ⟨hra, hpi⟩ := hps n p hx
  have HRA := Lib.hid hra
  have HPI := Lib.hid hpi
  have HK := Lib.hid (hok p (List.mem_of_getElem? hx))
  have HI := Lib.hid (show (Tryz.prog.info? 59).map (·.size) = some p.cs.length by rw [hpi.len]; exact size59)
  have HI2 := Lib.hid (show (Tryz.prog.info? 59).map (·.size) = some p.cs.toArray.size by rw [hpi.size]; exact size59)
  have HO := Lib.hid (show Tryz.zeroCells59.size = p.cs.toArray.size by rw [hpi.size]; rfl)
  have HAL := Lib.hid hpi.all
  have HZ := Lib.hid (heap_alloc_new w (.cells Tryz.zeroCells59 59))
  have HB := Lib.hid ((Below.refl w.heap.size w).alloc (Nat.le_refl _) (.cells p.cs.toArray 59))
  have HS := Lib.hid (show w.heap.size < (w.alloc (.cells p.cs.toArray 59)).heap.size by simp)
  have HSL := Lib.hid ((PcSl.take hb hps n).below HB.out)
  have HTL := Lib.hid (show (ps.take n).length = n by simp; omega)
  have HTO := Lib.hid (show ∀ p ∈ ps.take n, PcOk p from fun p hp => hok p (List.mem_of_mem_take hp))
  have HBE := Lib.hid (hbe.below HB.out)
  have HR := Lib.hid hpi.new
  obtain ⟨g0, g1, g2, g3, g4, g5, g6, g7, g8, g9, g0'⟩ := hpi.g
  have R_g := Lib.hid (by have := HR.out.g; rwa [g0'] at this : (w.alloc (.cells p.cs.toArray 59)).rangeAt w.heap.size 47 [.int .i64 g0, .int .i64 g1, .bool g2, .bool g3, .bool g4, .bool g5, .int .i64 g6, .int .i64 g7, .int .i64 g8, .int .i64 g9])
  have q0 := HR.out.k
  rw [hk] at q0
  have HKK := Lib.hid hk
  clear g0' HR hra hpi hps hok hx hbe hl hN hk
  go_enter Tryz.func18, Tryz.ntmps18
  go_wp2_with (first
    | (refine wpList_load_mid rfl 59 _ rfl b (o + n * 70) rfl _ _ HRA.out Tryz.underlying59 rfl HI.out ?_)
    | (refine wpList_store_row rfl 59 _ _ rfl w.heap.size _ rfl rfl 59 _ HZ.out HI2.out HO.out HAL.out ?_; rw [setRow_allocS]))
  refine (addresses_ _ _ n (ps.take n) _ HTL.out HSL.out HTO.out (by omega)).mono ?_
  rintro e w1 ⟨A1, m1, c1, A2, m2, c2, rfl, hb1, hb2, hm1, hm2, hbl⟩
  have HB1 := Lib.hid (hb1.below hbl)
  have HB2 := Lib.hid (hb2.below hbl)
  have HBE := Lib.hid (HBE.out.below hbl)
  have HBX0 := Lib.hid (HB.out.trans (hbl.mono HB.out.size))
  have q0 := (hbl.cell (p := ⟨w.heap.size, 0, none⟩) HS.out).trans q0
  have R_g := Lib.hid (rangeBelow R_g.out HS.out hbl)
  clear hb1 hb2 hbl HZ HB
  have HB := HBX0
  clear HBX0 HAL HI HI2 HO HRA HPI HSL HTL HTO
  go_wp2_with (refine wpList_load_mid rfl 53 _ rfl w.heap.size 47 rfl _ _ R_g.out Tryz.underlying53 rfl (by kernel_rfl) ?_)
  have HBW := HB
  refine (gre_ _ _ _ _ _ _ _ _ _ _ _).mono ?_
  rintro e w3 ⟨nn, ao, kk, hnn, rfl, ho, hbl⟩
  have HF := Lib.hid (finRB HBW.out ho hbl)
  clear ho hbl
  go_wp2_with fail
  go_ret
  exact ⟨nn, ao, kk, by omega, rfl, HF.out.1, HF.out.2⟩
set_option maxRecDepth 100000 in
set_option maxHeartbeats 4000000 in
theorem header0 (b o c n N : Nat) (ps : List Pc) (p : Pc) (A : Option Addr) (m k : Nat) (w : World) (hb : b < w.heap.size) (hps : PcsV w b o ps) (hl : ps.length = N) (hN : N = n + 1) (hc : N ≤ c) (hn : n ≤ 100) (hx : ps[n]? = some p) (hok : ∀ p ∈ ps, PcOk p) (hbe : BB w (.slice A m k) m) (hm : m ≤ 50000) (h1 : ¬ p.k = 1) (h2 : ¬ p.k = 2) (h3 : ¬ p.k = 3) (h4 : ¬ p.k = 4) (h5 : ¬ p.k = 5) (h6 : ¬ p.k = 6) (h7 : ¬ p.k = 7) (h10 : ¬ p.k = 10) (h11 : ¬ p.k = 11) (h8 : ¬ p.k = 8) : Calls Tryz.prog 18 #[.slice (some ⟨b, o, none⟩) N c, .slice A m k] w (RBm 1028 w) := by
  have n1 : IntKind.i64.wrap ((N : Int) - 1) = (n : Int) := by rw [IntKind.wrap_i64]; omega
  have n2 : (n : Int) < (N : Int) := by omega
  have n3 : (0 : Int) ≤ (n : Int) := by omega
  have n4 : ((n : Int)).toNat = n := by omega
  have n6 : n < N := by omega
  have n7 : (n : Int) ≤ (c : Int) := by omega
  have n8 : n ≤ c := by omega
  obtain ⟨hra, hpi⟩ := hps n p hx
  have HRA := Lib.hid hra
  have HPI := Lib.hid hpi
  have HK := Lib.hid (hok p (List.mem_of_getElem? hx))
  have HI := Lib.hid (show (Tryz.prog.info? 59).map (·.size) = some p.cs.length by rw [hpi.len]; exact size59)
  have HI2 := Lib.hid (show (Tryz.prog.info? 59).map (·.size) = some p.cs.toArray.size by rw [hpi.size]; exact size59)
  have HO := Lib.hid (show Tryz.zeroCells59.size = p.cs.toArray.size by rw [hpi.size]; rfl)
  have HAL := Lib.hid hpi.all
  have HZ := Lib.hid (heap_alloc_new w (.cells Tryz.zeroCells59 59))
  have HB := Lib.hid ((Below.refl w.heap.size w).alloc (Nat.le_refl _) (.cells p.cs.toArray 59))
  have HS := Lib.hid (show w.heap.size < (w.alloc (.cells p.cs.toArray 59)).heap.size by simp)
  have HSL := Lib.hid ((PcSl.take hb hps n).below HB.out)
  have HTL := Lib.hid (show (ps.take n).length = n by simp; omega)
  have HTO := Lib.hid (show ∀ p ∈ ps.take n, PcOk p from fun p hp => hok p (List.mem_of_mem_take hp))
  have HBE := Lib.hid (hbe.below HB.out)
  have HR := Lib.hid hpi.new
  obtain ⟨x0, x1, x2, x3, x4, x5, x0'⟩ := hpi.x
  have R_x := Lib.hid (by have := HR.out.x; rwa [x0'] at this : (w.alloc (.cells p.cs.toArray 59)).rangeAt w.heap.size 57 [.bool x0, .int .i64 x1, .bool x2, .bool x3, .bool x4, .int .i64 x5])
  have q0 := HR.out.k
  have e1 : (p.k == 1) = false := by simpa using h1
  have e2 : (p.k == 2) = false := by simpa using h2
  have e3 : (p.k == 3) = false := by simpa using h3
  have e4 : (p.k == 4) = false := by simpa using h4
  have e5 : (p.k == 5) = false := by simpa using h5
  have e6 : (p.k == 6) = false := by simpa using h6
  have e7 : (p.k == 7) = false := by simpa using h7
  have e10 : (p.k == 10) = false := by simpa using h10
  have e11 : (p.k == 11) = false := by simpa using h11
  have e8 : (p.k == 8) = false := by simpa using h8
  clear x0' HR hra hpi hps hok hx hbe hl hN h1 h2 h3 h4 h5 h6 h7 h10 h11 h8
  go_enter Tryz.func18, Tryz.ntmps18
  go_wp2_with (first
    | (refine wpList_load_mid rfl 59 _ rfl b (o + n * 70) rfl _ _ HRA.out Tryz.underlying59 rfl HI.out ?_)
    | (refine wpList_store_row rfl 59 _ _ rfl w.heap.size _ rfl rfl 59 _ HZ.out HI2.out HO.out HAL.out ?_; rw [setRow_allocS]))
  refine (addresses_ _ _ n (ps.take n) _ HTL.out HSL.out HTO.out (by omega)).mono ?_
  rintro e w1 ⟨A1, m1, c1, A2, m2, c2, rfl, hb1, hb2, hm1, hm2, hbl⟩
  have HB1 := Lib.hid (hb1.below hbl)
  have HB2 := Lib.hid (hb2.below hbl)
  have HBE := Lib.hid (HBE.out.below hbl)
  have HBX0 := Lib.hid (HB.out.trans (hbl.mono HB.out.size))
  have q0 := (hbl.cell (p := ⟨w.heap.size, 0, none⟩) HS.out).trans q0
  have R_x := Lib.hid (rangeBelow R_x.out HS.out hbl)
  clear hb1 hb2 hbl HZ HB
  have HB := HBX0
  clear HBX0 HAL HI HI2 HO HRA HPI HSL HTL HTO
  go_wp2_with (refine wpList_load_mid rfl 55 _ rfl w.heap.size 57 rfl _ _ R_x.out Tryz.underlying55 rfl (by kernel_rfl) ?_)
  have HBW := HB
  refine (vxlan_ _ _ _ _ _ _ _).mono ?_
  rintro e w3 ⟨ao, kk, rfl, ho, hbl⟩
  have HF := Lib.hid (finRB HBW.out ho hbl)
  clear ho hbl
  go_wp2_with fail
  go_ret
  exact ⟨_, ao, kk, by omega, rfl, HF.out.1, HF.out.2⟩
theorem header_ (b o c n N : Nat) (ps : List Pc) (p : Pc) (A : Option Addr) (m k : Nat) (w : World) (hb : b < w.heap.size) (hps : PcsV w b o ps) (hl : ps.length = N) (hN : N = n + 1) (hc : N ≤ c) (hn : n ≤ 100) (hx : ps[n]? = some p) (hok : ∀ p ∈ ps, PcOk p) (hbe : BB w (.slice A m k) m) (hm : m ≤ 50000) : Calls Tryz.prog 18 #[.slice (some ⟨b, o, none⟩) N c, .slice A m k] w (RBm 1028 w) := by
  by_cases h1 : p.k = 1
  · exact header1 b o c n N ps p A m k w hb hps hl hN hc hn hx hok hbe hm h1
  by_cases h2 : p.k = 2
  · exact header2 b o c n N ps p A m k w hb hps hl hN hc hn hx hok hbe hm h2
  by_cases h3 : p.k = 3
  · exact header3 b o c n N ps p A m k w hb hps hl hN hc hn hx hok hbe hm h3
  by_cases h4 : p.k = 4
  · exact header4 b o c n N ps p A m k w hb hps hl hN hc hn hx hok hbe hm h4
  by_cases h5 : p.k = 5
  · exact header5 b o c n N ps p A m k w hb hps hl hN hc hn hx hok hbe hm h5
  by_cases h6 : p.k = 6
  · exact header6 b o c n N ps p A m k w hb hps hl hN hc hn hx hok hbe hm h6
  by_cases h7 : p.k = 7
  · exact header7 b o c n N ps p A m k w hb hps hl hN hc hn hx hok hbe hm h7
  by_cases h10 : p.k = 10
  · exact header10 b o c n N ps p A m k w hb hps hl hN hc hn hx hok hbe hm h10
  by_cases h11 : p.k = 11
  · exact header11 b o c n N ps p A m k w hb hps hl hN hc hn hx hok hbe hm h11
  by_cases h8 : p.k = 8
  · exact header8 b o c n N ps p A m k w hb hps hl hN hc hn hx hok hbe hm h8
  exact header0 b o c n N ps p A m k w hb hps hl hN hc hn hx hok hbe hm h1 h2 h3 h4 h5 h6 h7 h10 h11 h8
end Go.Proofs.YtecgkcofmphaiaaGreatDoor.Gpk
namespace Go.Proofs.YtecgkcofmphaiaaGreatDoor.Gpk
open Go.RowKit
set_option linter.unusedVariables false
theorem belowGrownA {w wr w1 : World} {Y : Obj} {n : Nat} {v : Value} (hb : Below w.heap.size w wr) (h : OwnB wr w.heap.size v n) (hg : (wr.alloc Y).grownBy w1 v.ownBlock) : Below w.heap.size w w1 :=
  (hb.alloc hb.size Y).grown hg (by have := hb.size; simp; omega) (fun k hk => (h.lt k hk).1)
theorem PcsV.take {w : World} {b o : Nat} {ps : List Pc} (h : PcsV w b o ps) (n : Nat) : PcsV w b o (ps.take n) := fun i p hp => h i p (take_get hp)
set_option maxRecDepth 100000 in
set_option maxHeartbeats 4000000 in
theorem Written_ (A : Option Addr) (c n : Nat) (ps : List Pc) (P : Option Addr) (m k : Nat) (w : World) (hl : ps.length = n) (hp : PcSl w A ps) (hok : ∀ p ∈ ps, PcOk p) (hn : n ≤ 8) (hc : n ≤ c) (hpl : BB w (.slice P m k) m) (hm : m ≤ 2000) : Calls Tryz.prog 10 #[.slice A n c, .slice P m k] w (RBm 20000 w) := by
  have HP := Lib.hid hp
  have HK := Lib.hid hok
  have HL := Lib.hid hl
  have HE := Lib.hid hpl
  clear hp hok hl hpl
  go_enter Tryz.func10, Tryz.ntmps10
  go_wp2_with (at_builtin; (refine wpList_append_bytes rfl (.tmp 7) (.tmp 8) rfl w.heap.size _ _ 0 m rfl rfl (OwnB.made w #[] w.heap.size (Nat.le_refl _) (by simp) (by simp)) (HE.out.past _) (by simp) (by omega) ?_))
  intro ao0 co0 w1 hown hgrow
  have HO1 := Lib.hid hown
  have HB1 := Lib.hid (((Below.refl w.heap.size w).alloc (Nat.le_refl _) (.cells #[] 5)).grown hgrow (by simp) (fun k hk => ((OwnB.made w #[] w.heap.size (Nat.le_refl _) (by simp) (by simp)).lt k hk).1))
  clear hown hgrow
  go_wp2_with fail
  go_loopw [5, 6] (fun t3 t4 wr => ∃ (j q : Nat) (ao : Option Addr) (co : Nat), t4 = .int .i64 (j : Nat) ∧ j ≤ n ∧ t3 = .slice ao q co ∧ q ≤ 2000 + (n - j) * 1100 ∧ Hid (OwnB wr w.heap.size (.slice ao q co) q) ∧ Hid (Below w.heap.size w wr)) (fun _ t4 _ => natX t4)
  case atStart => exact ⟨n, m, ao0, co0, rfl, Nat.le_refl _, rfl, by omega, HO1, HB1⟩
  case round =>
    obtain ⟨j, q, ao, co, rfl, hj, rfl, hq, HO, HB⟩ := hrel
    by_cases h0 : j = 0
    · subst h0
      go_wp2_with fail
      go_ret
      exact ⟨q, ao, co, by omega, rfl, HO.out, HB.out⟩
    · obtain ⟨i, hji⟩ : ∃ i, j = i + 1 := ⟨j - 1, by omega⟩
      have m1 : (0 : Int) < (j : Int) := by omega
      have m2 : (0 : Int) ≤ (j : Int) := by omega
      have m3 : (j : Int) ≤ (c : Int) := by omega
      have m4 : ((j : Int)).toNat = j := by omega
      have m5 : IntKind.i64.wrap ((j : Int) - 1) = (i : Int) := by rw [IntKind.wrap_i64]; omega
      have m6 : (0 : Int) ≤ (i : Int) := by omega
      have m7 : (i : Int) < (n : Int) := by omega
      have m8 : ((i : Int)).toNat = i := by omega
      have m9 : i < n := by omega
      have m10 : j ≤ c := by omega
      have hil : i < ps.length := by have := HL.out; omega
      obtain ⟨b, o, rfl, hbw, hov⟩ := HP.out.resolve_left (by intro h; rw [h] at hil; simp at hil)
      obtain ⟨p, hxp⟩ : ∃ x, x = ps[i] := ⟨_, rfl⟩
      have hxi : ps[i]? = some p := by rw [hxp]; exact List.getElem?_eq_getElem hil
      have HX := Lib.hid (show (ps.take j)[i]? = some p by rw [List.getElem?_take, if_pos (by omega)]; exact hxi)
      have HV := Lib.hid (hov.below hbw HB.out)
      have HTL := Lib.hid (show (ps.take j).length = j by have := HL.out; simp; omega)
      have HTO := Lib.hid (show ∀ p ∈ ps.take j, PcOk p from fun p hp => HK.out p (List.mem_of_mem_take hp))
      have HJI := Lib.hid hji
      have HQ := Lib.hid hq
      have hbr : b < wr.heap.size := Nat.lt_of_lt_of_le hbw HB.out.size
      have HE0 := Lib.hid ((hov i p hxi).1 0 _ rfl)
      clear hxp hxi hov hji hq
      go_wp2_with fail
      refine (header_ b o c i j (ps.take j) p ao q co _ hbr (HV.out.take j) HTL.out HJI.out (by omega) (by have := HJI.out; omega) HX.out HTO.out HO.out.bb (by have := HQ.out; omega)).mono ?_
      rintro e w2 ⟨nh, ah, kh, hnh, rfl, ho, hbl⟩
      have HM := Lib.hid ((Made.call ((⟨Below.refl _ _, fun p hp => by cases hp⟩ : Made wr wr []).add HO.out.bb) ho hbl))
      have HBL := Lib.hid hbl
      clear ho hbl
      go_wp2_with fail
      refine (joinedAtM (m := nh + q) HM.out (by first | rfl | simp) (by rfl) (by simp [total, lenX]) (by simp [lenX]) (by have := HQ.out; omega) (by omega)).mono ?_
      rintro e w3 ⟨nj, aj, kj, hnj, rfl, ho, hbl⟩
      have HB2 := Lib.hid ((HB.out.trans (HBL.out.mono HB.out.size)))
      have HB3 := Lib.hid ((HB2.out.alloc HB2.out.size (.cells #[.slice ah nh kh, .slice ao q co] 22)).trans (hbl.mono (by have := HB2.out.size; simp; omega)))
      have HO3 := Lib.hid (ho.mono (by have := HB2.out.size; simp; omega : w.heap.size ≤ _))
      clear ho hbl
      go_wp2_with fail
      go_loopw [5] (fun t3 wr => ∃ (q : Nat) (ao : Option Addr) (co : Nat), t3 = .slice ao q co ∧ q ≤ 2000 + (n - i) * 1100 ∧ Hid (OwnB wr w.heap.size (.slice ao q co) q) ∧ Hid (Below w.heap.size w wr)) (fun t3 _ => 60 - lenX t3)
      case atStart => exact ⟨nj, aj, kj, rfl, by have := HQ.out; have := HJI.out; omega, HO3, HB3⟩
      case round =>
        obtain ⟨q2, ao2, co2, rfl, hq2, HO4, HB4⟩ := hrel
        have e0 := (HB4.out.cell (p := ⟨b, o + i * 70 + 0, none⟩) hbw).trans HE0.out
        rw [Nat.add_zero] at e0
        have HQ2 := Lib.hid hq2
        clear hq2
        by_cases hk : p.k = 1
        · rw [hk] at e0
          by_cases h60 : q2 < 60
          · have k1 : (q2 : Int) < 60 := by omega
            go_wp2_with (at_builtin; (refine wpList_append_bytes rfl (.tmp 36) (.tmp 37) rfl w.heap.size _ _ q2 1 rfl rfl (HO4.out.alloc _) (BB.one ⟨0, by decide, rfl⟩ (by simp)) (by have := HB4.out.size; simp; omega) (by omega) ?_))
            intro ao5 co5 w5 hown hgrow
            have HO5 := Lib.hid hown
            have HB5 := Lib.hid (belowGrownA HB4.out HO4.out hgrow)
            clear hown hgrow
            go_wp2_with fail
            go_roundw
            case rel => exact ⟨q2 + 1, ao5, co5, rfl, by omega, HO5, HB5⟩
            case measure => simp [lenX]; omega
          · have k1 : ¬ (q2 : Int) < 60 := by omega
            go_wp2_with fail
            go_roundw
            case rel => exact ⟨i, q2, ao2, co2, rfl, by omega, rfl, HQ2.out, HO4, HB4⟩
            case measure => have := HJI.out; simp [natX]; omega
        · have k0 : (p.k == 1) = false := by simpa using hk
          clear hk
          go_wp2_with fail
          go_roundw
          case rel => exact ⟨i, q2, ao2, co2, rfl, by omega, rfl, HQ2.out, HO4, HB4⟩
          case measure => have := HJI.out; simp [natX]; omega
end Go.Proofs.YtecgkcofmphaiaaGreatDoor.Gpk
