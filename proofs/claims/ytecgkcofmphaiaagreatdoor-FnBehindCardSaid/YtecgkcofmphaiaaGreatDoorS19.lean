/- Lists of pieces; zzFits1. -/
import Derived.Test.YtecgkcofmphaiaaGreatDoorS17
set_option linter.unusedVariables false
set_option linter.unusedSimpArgs false
set_option linter.unnecessarySimpa false
set_option linter.unusedSectionVars false
namespace Go.Proofs.YtecgkcofmphaiaaGreatDoor.Gpk
open Go.RowKit
set_option linter.unusedVariables false
def PcsV (w : World) (b o : Nat) (ps : List Pc) : Prop := ∀ (i : Nat) (p : Pc), ps[i]? = some p → w.rangeAt b (o + i * 70) p.cs ∧ PcIn w p
def PcSl (w : World) (A : Option Addr) (ps : List Pc) : Prop := ps = [] ∨ ∃ b o, A = some ⟨b, o, none⟩ ∧ b < w.heap.size ∧ PcsV w b o ps
theorem PcsV.below {w w' : World} {b o : Nat} {ps : List Pc} (h : PcsV w b o ps) (hlt : b < w.heap.size) (hb : Below w.heap.size w w') : PcsV w' b o ps := fun i p hp => by
  obtain ⟨h1, h2⟩ := h i p hp
  exact ⟨rangeBelow h1 hlt hb, h2.below hb⟩
theorem PcSl.below {w w' : World} {A : Option Addr} {ps : List Pc} (h : PcSl w A ps) (hb : Below w.heap.size w w') : PcSl w' A ps := by
  rcases h with h | ⟨b, o, hA, hlt, h⟩
  · exact .inl h
  · exact .inr ⟨b, o, hA, Nat.lt_of_lt_of_le hlt hb.size, h.below hlt hb⟩
set_option maxRecDepth 100000 in
theorem size59 : (Tryz.prog.info? 59).map (·.size) = some 70 := by kernel_rfl
theorem PcIn.all {w : World} {p : Pc} (h : PcIn w p) : p.cs.toArray.all (·.oneCell') = true := by
  obtain ⟨eA0, ec0, eA1, ec1, e2, e3, he, _⟩ := h.e
  obtain ⟨v0, v1, v2, v3, hv⟩ := h.v
  obtain ⟨f0, f1, f2, f3, f4, f5, f6, f7, f8, fA9, fc9, fA10, fc10, fA11, fc11, hf, _⟩ := h.f
  obtain ⟨y0, y1, y2, y3, y4, yA5, yc5, yA6, yc6, hy, _⟩ := h.y
  obtain ⟨t0, t1, t2, t3, t4, t5, t6, t7, t8, tA9, tc9, ht, _⟩ := h.t
  obtain ⟨u0, u1, u2, u3, hu⟩ := h.u
  obtain ⟨h0, h1, h2, h3, h4, hh⟩ := h.h
  obtain ⟨g0, g1, g2, g3, g4, g5, g6, g7, g8, g9, hg⟩ := h.g
  obtain ⟨x0, x1, x2, x3, x4, x5, hx⟩ := h.x
  obtain ⟨r0, r1, r2, rA3, rc3, rA4, rc4, rA5, rc5, rA6, rc6, hr, _⟩ := h.r
  simp [Pc.cs, he, hv, hf, hy, ht, hu, hh, hg, hx, hr, Value.oneCell']
theorem PcIn.size {w : World} {p : Pc} (h : PcIn w p) : p.cs.toArray.size = 70 := by simpa using h.len
def PcsFit (ps : List Pc) : Prop := ∀ p ∈ ps, OptFit p.o4 ∧ OptFit p.ot
set_option maxRecDepth 100000 in
set_option maxHeartbeats 4000000 in
theorem fits1_ (A : Option Addr) (c : Nat) (ps : List Pc) (w : World) (hp : PcSl w A ps) : Calls Tryz.prog 7 #[.slice A ps.length c] w (RBP (PcsFit ps) w) := by
  by_cases hl : ps.length ≤ 2147483647
  · have nl : ¬ ((2147483647 : Int) < (ps.length : Int)) := by omega
    have HPS := Lib.hid hp
    clear hp
    go_enter Tryz.func7, Tryz.ntmps7
    go_wp2_with fail
    go_loopw [10] (fun t10 wr => ∃ (i : Nat), t10 = .int .i64 (i : Nat) ∧ i ≤ ps.length ∧ Hid (PcsFit (ps.take i)) ∧ Hid (Below w.heap.size w wr)) (fun t10 _ => ps.length - natX t10)
    case atStart => exact ⟨0, rfl, Nat.zero_le _, Lib.hid (by simp [PcsFit]), Lib.hid (Below.refl _ _)⟩
    case round =>
      obtain ⟨i, rfl, hi, HA, HB⟩ := hrel
      by_cases hlt : i < ps.length
      · have n1 : (i : Int) < (ps.length : Int) := by omega
        have n3 : (0 : Int) ≤ (i : Int) := by omega
        have n4 : ((i : Int)).toNat = i := by omega
        have n5 : IntKind.i64.wrap ((i : Int) + 1) = (i : Int) + 1 := by rw [IntKind.wrap_i64]; omega
        obtain ⟨b, o, rfl, hbw, hov⟩ := HPS.out.resolve_left (by intro h; rw [h] at hlt; simp at hlt)
        have hxi : ps[i]? = some ps[i] := List.getElem?_eq_getElem hlt
        obtain ⟨p, hx⟩ : ∃ x, x = ps[i] := ⟨_, rfl⟩
        rw [← hx] at hxi
        obtain ⟨hra, hpi⟩ := hov i p hxi
        have HT := Lib.hid (show ps.take (i + 1) = ps.take i ++ [p] by rw [List.take_add_one, hxi]; rfl)
        have HRA := Lib.hid (rangeBelow hra hbw HB.out)
        have HPI := Lib.hid (hpi.below HB.out)
        have HI := Lib.hid (show (Tryz.prog.info? 59).map (·.size) = some p.cs.length by rw [hpi.len]; exact size59)
        have HI2 := Lib.hid (show (Tryz.prog.info? 59).map (·.size) = some p.cs.toArray.size by rw [hpi.size]; exact size59)
        have HO := Lib.hid (show Tryz.zeroCells59.size = p.cs.toArray.size by rw [hpi.size]; rfl)
        have HAL := Lib.hid hpi.all
        have hbr : b < wr.heap.size := by have := HB.out.size; omega
        have HZ := Lib.hid (heap_alloc_new wr (.cells Tryz.zeroCells59 59))
        have HN := Lib.hid (heap_alloc_new wr (.cells p.cs.toArray 59))
        clear hra hpi hxi hx hov
        go_wp2_with (first
          | (refine wpList_load_mid rfl 59 _ rfl b (o + i * 70) rfl _ _ HRA.out Tryz.underlying59 rfl HI.out ?_)
          | (refine wpList_store_row rfl 59 _ _ rfl wr.heap.size _ rfl rfl 59 _ HZ.out HI2.out HO.out HAL.out ?_; rw [setRow_allocS])
          | (refine wpList_load_row rfl 59 _ rfl wr.heap.size rfl 59 _ (0, 0) _ HN.out Tryz.underlying59 rfl HI2.out ?_))
        refine (fits2_ p _ (HPI.out.below ((Below.refl _ _).alloc (Nat.le_refl _) _))).mono ?_
        rintro e w1 ⟨⟨r, rfl, hr⟩, hb⟩
        have HB1 := Lib.hid ((HB.out.alloc HB.out.size _).trans (hb.mono (by have := HB.out.size; simp; omega)))
        clear hb
        cases r
        · clear hr
          go_wp2_with fail
          go_ret
          exact ⟨⟨_, rfl, fun h => by simp at h⟩, HB1.out⟩
        · have HR := Lib.hid (hr rfl)
          clear hr
          go_wp2_with fail
          go_roundw
          case rel => exact ⟨i + 1, rfl, by omega, Lib.hid (fun y hy => by rw [HT.out, List.mem_append] at hy; rcases hy with hy | hy; exact HA.out y hy; simp at hy; subst hy; exact HR.out), HB1⟩
          case measure => simp [natX]; omega
      · have n1 : ¬ ((i : Int) < (ps.length : Int)) := by omega
        have HF := Lib.hid (show PcsFit ps by have := HA.out; rwa [List.take_of_length_le (by omega)] at this)
        go_wp2_with fail
        go_ret
        exact ⟨⟨_, rfl, fun h => HF.out⟩, HB.out⟩
  · have nl : (2147483647 : Int) < (ps.length : Int) := by omega
    clear hp
    go_enter Tryz.func7, Tryz.ntmps7
    go_wp2_with fail
    go_ret
    exact ⟨⟨_, rfl, fun h => by simp at h⟩, Below.refl _ _⟩
end Go.Proofs.YtecgkcofmphaiaaGreatDoor.Gpk
