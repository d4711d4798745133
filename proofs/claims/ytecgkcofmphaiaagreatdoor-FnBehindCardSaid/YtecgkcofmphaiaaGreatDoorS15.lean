/- Lists of options: tests.
   Tests of headers with options. -/
import Derived.Test.YtecgkcofmphaiaaGreatDoorS05
import Derived.Test.YtecgkcofmphaiaaGreatDoorS14
set_option linter.unusedVariables false
set_option linter.unusedSimpArgs false
set_option linter.unnecessarySimpa false
set_option linter.unusedSectionVars false
namespace Go.Proofs.YtecgkcofmphaiaaGreatDoor.Gpk
open Go.RowKit
set_option linter.unusedVariables false
def OptFit (os : List OptV) : Prop := os.length ≤ 2147483647 ∧ ∀ x ∈ os, x.n ≤ 2147483647
theorem osz_ge (os : List OptV) : os.length ≤ osz os := by
  unfold osz
  induction os with
  | nil => simp
  | cons x xs ih =>
    have : 1 ≤ x.size := by unfold OptV.size; split <;> omega
    simp only [List.map_cons, List.sum_cons, List.length_cons]
    omega
set_option maxRecDepth 100000 in
set_option maxHeartbeats 4000000 in
theorem hasBare_ (A : Option Addr) (c : Nat) (os : List OptV) (w : World) (ho : OptSl w A os) (hl : os.length ≤ 2147483647) : Calls Tryz.prog 34 #[.slice A os.length c] w (RBP True w) := by
  go_enter Tryz.func34, Tryz.ntmps34
  go_wp2_with fail
  go_loopw [7] (fun t7 wr => ∃ (i : Nat), t7 = .int .i64 (i : Nat) ∧ i ≤ os.length ∧ Hid (Below w.heap.size w wr)) (fun t7 _ => os.length - natX t7)
  case atStart => exact ⟨0, rfl, Nat.zero_le _, Lib.hid (Below.refl _ _)⟩
  case round =>
    obtain ⟨i, rfl, hi, HB⟩ := hrel
    by_cases hlt : i < os.length
    · have n1 : (i : Int) < (os.length : Int) := by omega
      have n3 : (0 : Int) ≤ (i : Int) := by omega
      have n4 : ((i : Int)).toNat = i := by omega
      have n5 : IntKind.i64.wrap ((i : Int) + 1) = (i : Int) + 1 := by rw [IntKind.wrap_i64]; omega
      obtain ⟨b, o, rfl, hbw, hov⟩ := ho.resolve_left (by intro h; rw [h] at hlt; simp at hlt)
      have hxi : os[i]? = some os[i] := List.getElem?_eq_getElem hlt
      obtain ⟨x, hx⟩ : ∃ x, x = os[i] := ⟨_, rfl⟩
      rw [← hx] at hxi
      obtain ⟨g0, g1, g2, g3⟩ := hov i x hxi
      skip
      have HSN := Lib.hid (osz_snoc os i x hxi)
      obtain ⟨k, len, A, m, cx⟩ := x
      simp only at g0 g1 g2 g3 
      have e0 := (HB.out.cell (p := ⟨b, o + i * 3, none⟩) hbw).trans g0
      have e1 := (HB.out.cell (p := ⟨b, o + i * 3 + 1, none⟩) hbw).trans g1
      have e2 := (HB.out.cell (p := ⟨b, o + i * 3 + 2, none⟩) hbw).trans g2
      have hbr : b < wr.heap.size := by have := HB.out.size; omega
      clear g0 g1 g2 g3 hx
      clear hxi
      go_wp2_with fail
      all_goals (first
        | (go_ret; exact ⟨⟨_, rfl, fun h => trivial⟩, HB.out.alloc HB.out.size _⟩)
        | skip)
      all_goals go_roundw
      all_goals (first
        | exact ⟨i + 1, rfl, by omega, Lib.hid (HB.out.alloc HB.out.size _)⟩
        | (simp [natX]; omega))
    · have n1 : ¬ ((i : Int) < (os.length : Int)) := by omega
      go_wp2_with fail
      go_ret
      exact ⟨⟨_, rfl, fun h => trivial⟩, HB.out⟩
set_option maxRecDepth 100000 in
set_option maxHeartbeats 4000000 in
theorem fits5_ (A : Option Addr) (c : Nat) (os : List OptV) (w : World) (ho : OptSl w A os) : Calls Tryz.prog 73 #[.slice A os.length c] w (RBP (OptFit os) w) := by
  by_cases hl : os.length ≤ 2147483647
  · have nl : ¬ ((2147483647 : Int) < (os.length : Int)) := by omega
    go_enter Tryz.func73, Tryz.ntmps73
    go_wp2_with fail
    go_loopw [10] (fun t10 wr => ∃ (i : Nat), t10 = .int .i64 (i : Nat) ∧ i ≤ os.length ∧ Hid (∀ x ∈ os.take i, x.n ≤ 2147483647) ∧ Hid (Below w.heap.size w wr)) (fun t10 _ => os.length - natX t10)
    case atStart => exact ⟨0, rfl, Nat.zero_le _, Lib.hid (by simp), Lib.hid (Below.refl _ _)⟩
    case round =>
      obtain ⟨i, rfl, hi, HA, HB⟩ := hrel
      by_cases hlt : i < os.length
      · have n1 : (i : Int) < (os.length : Int) := by omega
        have n3 : (0 : Int) ≤ (i : Int) := by omega
        have n4 : ((i : Int)).toNat = i := by omega
        have n5 : IntKind.i64.wrap ((i : Int) + 1) = (i : Int) + 1 := by rw [IntKind.wrap_i64]; omega
        obtain ⟨b, o, rfl, hbw, hov⟩ := ho.resolve_left (by intro h; rw [h] at hlt; simp at hlt)
        have hxi : os[i]? = some os[i] := List.getElem?_eq_getElem hlt
        obtain ⟨x, hx⟩ : ∃ x, x = os[i] := ⟨_, rfl⟩
        rw [← hx] at hxi
        obtain ⟨g0, g1, g2, g3⟩ := hov i x hxi
        have HT := Lib.hid (show os.take (i + 1) = os.take i ++ [x] by rw [List.take_add_one, hxi]; rfl)
        have HSN := Lib.hid (osz_snoc os i x hxi)
        obtain ⟨k, len, A, m, cx⟩ := x
        simp only at g0 g1 g2 g3 
        have e0 := (HB.out.cell (p := ⟨b, o + i * 3, none⟩) hbw).trans g0
        have e1 := (HB.out.cell (p := ⟨b, o + i * 3 + 1, none⟩) hbw).trans g1
        have e2 := (HB.out.cell (p := ⟨b, o + i * 3 + 2, none⟩) hbw).trans g2
        have hbr : b < wr.heap.size := by have := HB.out.size; omega
        clear g0 g1 g2 g3 hx
        clear hxi
        go_wp2_with fail
        refine (fits6_ _ _ _ _ _ _).mono ?_
        rintro e w1 ⟨⟨r, rfl, hr⟩, hb⟩
        have HB1 := Lib.hid ((HB.out.alloc HB.out.size _).trans (hb.mono (by have := HB.out.size; simp; omega)))
        clear hb
        cases r
        · clear hr
          go_wp2_with fail
          go_ret
          exact ⟨⟨_, rfl, fun h => by simp at h⟩, HB1.out⟩
        · have HR := Lib.hid (hr rfl)
          clear hr
          go_wp2_with fail
          go_roundw
          case rel => exact ⟨i + 1, rfl, by omega, Lib.hid (fun y hy => by rw [HT.out, List.mem_append] at hy; rcases hy with hy | hy; exact HA.out y hy; simp at hy; subst hy; exact HR.out), HB1⟩
          case measure => simp [natX]; omega
      · have n1 : ¬ ((i : Int) < (os.length : Int)) := by omega
        have HF := Lib.hid (show ∀ x ∈ os, x.n ≤ 2147483647 by have := HA.out; rwa [List.take_of_length_le (by omega)] at this)
        go_wp2_with fail
        go_ret
        exact ⟨⟨_, rfl, fun h => ⟨hl, HF.out⟩⟩, HB.out⟩
  · have nl : (2147483647 : Int) < (os.length : Int) := by omega
    go_enter Tryz.func73, Tryz.ntmps73
    go_wp2_with fail
    go_ret
    exact ⟨⟨_, rfl, fun h => by simp at h⟩, Below.refl _ _⟩
set_option maxRecDepth 100000 in
set_option maxHeartbeats 4000000 in
theorem areOptions_ (A : Option Addr) (c : Nat) (os : List OptV) (w : World) (ho : OptSl w A os) (hl : os.length ≤ 2147483647) (hn : ∀ x ∈ os, x.n ≤ 2147483647) : Calls Tryz.prog 74 #[.slice A os.length c] w (RBP (osz os ≤ 40 ∧ os.length ≤ 40) w) := by
  have HNN := Lib.hid hn
  clear hn
  go_enter Tryz.func74, Tryz.ntmps74
  go_wp2_with fail
  go_loopw [3, 8] (fun t3 t8 wr => ∃ (i s : Nat), t8 = .int .i64 (i : Nat) ∧ t3 = .int .i64 (s : Nat) ∧ i ≤ os.length ∧ s ≤ i * 2147483650 ∧ Hid (s = osz (os.take i)) ∧ Hid (Below w.heap.size w wr)) (fun _ t8 _ => os.length - natX t8)
  case atStart => exact ⟨0, 0, rfl, rfl, Nat.zero_le _, by omega, Lib.hid (by simp [osz]), Lib.hid (Below.refl _ _)⟩
  case round =>
    obtain ⟨i, s, rfl, rfl, hi, hs, HS, HB⟩ := hrel
    by_cases hlt : i < os.length
    · have n1 : (i : Int) < (os.length : Int) := by omega
      have n3 : (0 : Int) ≤ (i : Int) := by omega
      have n4 : ((i : Int)).toNat = i := by omega
      have n5 : IntKind.i64.wrap ((i : Int) + 1) = (i : Int) + 1 := by rw [IntKind.wrap_i64]; omega
      obtain ⟨b, o, rfl, hbw, hov⟩ := ho.resolve_left (by intro h; rw [h] at hlt; simp at hlt)
      have hxi : os[i]? = some os[i] := List.getElem?_eq_getElem hlt
      obtain ⟨x, hx⟩ : ∃ x, x = os[i] := ⟨_, rfl⟩
      rw [← hx] at hxi
      obtain ⟨g0, g1, g2, g3⟩ := hov i x hxi
      have hm := HNN.out x (List.mem_of_getElem? hxi)
      have HSN := Lib.hid (osz_snoc os i x hxi)
      obtain ⟨k, len, A, m, cx⟩ := x
      simp only at g0 g1 g2 g3 hm
      have e0 := (HB.out.cell (p := ⟨b, o + i * 3, none⟩) hbw).trans g0
      have e1 := (HB.out.cell (p := ⟨b, o + i * 3 + 1, none⟩) hbw).trans g1
      have e2 := (HB.out.cell (p := ⟨b, o + i * 3 + 2, none⟩) hbw).trans g2
      have hbr : b < wr.heap.size := by have := HB.out.size; omega
      clear g0 g1 g2 g3 hx
      clear hxi
      have hs2 : s ≤ 4700000000000000000 := by omega
      by_cases hk : k = 1
      · subst hk
        by_cases hl1 : len = 1
        · subst hl1
          by_cases hm0 : m = 0
          · subst hm0
            go_wp2_with fail
            go_roundw
            case rel => exact ⟨i + 1, s + 1, rfl, by first | rfl | (congr 1; push_cast; omega) | (congr 1; unfold wrap64; push_cast; omega), by omega, by omega, Lib.hid (by rw [HSN.out, ← HS.out]; simp [OptV.size]; try omega), Lib.hid (HB.out.alloc HB.out.size _)⟩
            case measure => simp [natX]; omega
          · have b1 : ((m : Int) != 0) = true := by simp; omega
            go_wp2_with fail
            all_goals go_ret
            all_goals exact ⟨⟨_, rfl, fun h => by simp at h⟩, HB.out.alloc HB.out.size _⟩
        · have b1 : (len != 1) = true := by simpa using hl1
          go_wp2_with fail
          all_goals go_ret
          all_goals exact ⟨⟨_, rfl, fun h => by simp at h⟩, HB.out.alloc HB.out.size _⟩
      · have b0 : (k == 1) = false := by simpa using hk
        have b1 : (k != 1) = true := by simpa using hk
        by_cases hl1 : len = (m : Int) + 2
        · subst hl1
          have n7 : IntKind.i64.wrap ((s : Int) + ((m : Int) + 2)) = (s : Int) + ((m : Int) + 2) := by rw [IntKind.wrap_i64]; omega
          have HK := Lib.hid hk
          by_cases hk1 : 1 ≤ k
          · by_cases hk2 : k ≤ 255
            · go_wp2_with fail
              go_roundw
              case rel => exact ⟨i + 1, s + (m + 2), rfl, by first | rfl | (congr 1; push_cast; omega) | (congr 1; unfold wrap64; push_cast; omega), by omega, by omega, Lib.hid (by rw [HSN.out, ← HS.out]; simp [OptV.size, HK.out]; try omega), Lib.hid (HB.out.alloc HB.out.size _)⟩
              case measure => simp [natX]; omega
            · have b3 : 255 < k := by omega
              go_wp2_with fail
              all_goals go_ret
              all_goals exact ⟨⟨_, rfl, fun h => by simp at h⟩, HB.out.alloc HB.out.size _⟩
          · have b3 : k < 1 := by omega
            go_wp2_with fail
            all_goals go_ret
            all_goals exact ⟨⟨_, rfl, fun h => by simp at h⟩, HB.out.alloc HB.out.size _⟩
        · have b2 : (len != (m : Int) + 2) = true := by simpa using hl1
          go_wp2_with fail
          all_goals go_ret
          all_goals exact ⟨⟨_, rfl, fun h => by simp at h⟩, HB.out.alloc HB.out.size _⟩
    · have n1 : ¬ ((i : Int) < (os.length : Int)) := by omega
      have HE := Lib.hid (show s = osz os by have := HS.out; rwa [List.take_of_length_le (by omega)] at this)
      go_wp2_with fail
      all_goals go_ret
      all_goals exact ⟨⟨_, rfl, fun h => by have := HE.out; have := osz_ge os; simp at h; omega⟩, HB.out⟩
end Go.Proofs.YtecgkcofmphaiaaGreatDoor.Gpk
namespace Go.Proofs.YtecgkcofmphaiaaGreatDoor.Gpk
open Go.RowKit
set_option linter.unusedVariables false
set_option maxRecDepth 100000 in
set_option maxHeartbeats 4000000 in
theorem isIpv4_ (a0 a1 a2 a3 a4 a5 a6 a7 a8 : Int) (A9 : Option Addr) (n9 c9 : Nat) (A10 : Option Addr) (n10 c10 : Nat) (A11 : Option Addr) (os : List OptV) (c11 : Nat) (w : World) (hos : OptSl w A11 os) (hl : os.length ≤ 2147483647) (hn : Hid (∀ x ∈ os, x.n ≤ 2147483647)) : Calls Tryz.prog 33 #[.agg #[.int .i64 a0, .int .i64 a1, .int .i64 a2, .int .i64 a3, .int .i64 a4, .int .i64 a5, .int .i64 a6, .int .i64 a7, .int .i64 a8, .slice A9 n9 c9, .slice A10 n10 c10, .slice A11 os.length c11]] w (RBP (n9 = 4 ∧ n10 = 4 ∧ osz os ≤ 40 ∧ os.length ≤ 40) w) := by
  have HOS := Lib.hid hos
  clear hos
  have HB0 := Lib.hid ((Below.refl w.heap.size w).alloc (Nat.le_refl _) (.cells #[.int .i64 a0, .int .i64 a1, .int .i64 a2, .int .i64 a3, .int .i64 a4, .int .i64 a5, .int .i64 a6, .int .i64 a7, .int .i64 a8, .slice A9 n9 c9, .slice A10 n10 c10, .slice A11 os.length c11] 43))
  go_enter Tryz.func33, Tryz.ntmps33
  go_wp2_with (first
    | (go_at_call 39; refine (upTo_ _ _ _).mono ?_; rintro e w1 ⟨⟨b, rfl⟩, rfl⟩; cases b)
    | (go_at_call 74; refine (areOptions_ A11 c11 os _ (HOS.out.below HB0.out) hl hn.out).mono ?_; rintro e w2 ⟨⟨b, rfl, hr⟩, hb⟩; have HB1 := Lib.hid (HB0.out.trans (hb.mono HB0.out.size)); cases b <;> (first | have HR := Lib.hid (hr rfl) | skip) <;> clear hr hb))
  all_goals go_ret
  all_goals exact ⟨⟨_, rfl, fun h => by first | (simp at h; done) | (have := HR.out; omega)⟩, by first | exact HB1.out | exact HB0.out⟩
set_option maxRecDepth 100000 in
set_option maxHeartbeats 4000000 in
theorem isTcp_ (a0 a1 a2 a3 a4 a5 a6 a7 a8 : Int) (A11 : Option Addr) (os : List OptV) (c11 : Nat) (w : World) (hos : OptSl w A11 os) (hl : os.length ≤ 2147483647) (hn : Hid (∀ x ∈ os, x.n ≤ 2147483647)) : Calls Tryz.prog 36 #[.agg #[.int .i64 a0, .int .i64 a1, .int .i64 a2, .int .i64 a3, .int .i64 a4, .int .i64 a5, .int .i64 a6, .int .i64 a7, .int .i64 a8, .slice A11 os.length c11]] w (RBP (osz os ≤ 40 ∧ os.length ≤ 40) w) := by
  have HOS := Lib.hid hos
  clear hos
  have HB0 := Lib.hid ((Below.refl w.heap.size w).alloc (Nat.le_refl _) (.cells #[.int .i64 a0, .int .i64 a1, .int .i64 a2, .int .i64 a3, .int .i64 a4, .int .i64 a5, .int .i64 a6, .int .i64 a7, .int .i64 a8, .slice A11 os.length c11] 47))
  go_enter Tryz.func36, Tryz.ntmps36
  go_wp2_with (first
    | (go_at_call 39; refine (upTo_ _ _ _).mono ?_; rintro e w1 ⟨⟨b, rfl⟩, rfl⟩; cases b)
    | (go_at_call 74; refine (areOptions_ A11 c11 os _ (HOS.out.below HB0.out) hl hn.out).mono ?_; rintro e w2 ⟨⟨b, rfl, hr⟩, hb⟩; have HB1 := Lib.hid (HB0.out.trans (hb.mono HB0.out.size)); cases b <;> (first | have HR := Lib.hid (hr rfl) | skip) <;> clear hr hb))
  all_goals go_ret
  all_goals exact ⟨⟨_, rfl, fun h => by first | (simp at h; done) | exact HR.out⟩, by first | exact HB1.out | exact HB0.out⟩
set_option maxRecDepth 100000 in
set_option maxHeartbeats 4000000 in
theorem fits4_ (a0 a1 a2 a3 a4 a5 a6 a7 a8 : Int) (A9 : Option Addr) (n9 c9 : Nat) (A10 : Option Addr) (n10 c10 : Nat) (A11 : Option Addr) (os : List OptV) (c11 : Nat) (w : World) (hos : OptSl w A11 os)  : Calls Tryz.prog 25 #[.agg #[.int .i64 a0, .int .i64 a1, .int .i64 a2, .int .i64 a3, .int .i64 a4, .int .i64 a5, .int .i64 a6, .int .i64 a7, .int .i64 a8, .slice A9 n9 c9, .slice A10 n10 c10, .slice A11 os.length c11]] w (RBP (OptFit os) w) := by
  have HOS := Lib.hid hos
  clear hos
  have HB0 := Lib.hid ((Below.refl w.heap.size w).alloc (Nat.le_refl _) (.cells #[.int .i64 a0, .int .i64 a1, .int .i64 a2, .int .i64 a3, .int .i64 a4, .int .i64 a5, .int .i64 a6, .int .i64 a7, .int .i64 a8, .slice A9 n9 c9, .slice A10 n10 c10, .slice A11 os.length c11] 43))
  go_enter Tryz.func25, Tryz.ntmps25
  go_wp2_with (first
    | (go_at_call 39; refine (upTo_ _ _ _).mono ?_; rintro e w1 ⟨⟨b, rfl⟩, rfl⟩; cases b)
    | (go_at_call 73; refine (fits5_ A11 c11 os _ (HOS.out.below HB0.out)).mono ?_; rintro e w2 ⟨⟨b, rfl, hr⟩, hb⟩; have HB1 := Lib.hid (HB0.out.trans (hb.mono HB0.out.size)); cases b <;> (first | have HR := Lib.hid (hr rfl) | skip) <;> clear hr hb))
  all_goals go_ret
  all_goals exact ⟨⟨_, rfl, fun h => by first | (simp at h; done) | exact HR.out⟩, by first | exact HB1.out | exact HB0.out⟩
set_option maxRecDepth 100000 in
set_option maxHeartbeats 4000000 in
theorem fits8_ (a0 a1 a2 a3 a4 a5 a6 a7 a8 : Int) (A11 : Option Addr) (os : List OptV) (c11 : Nat) (w : World) (hos : OptSl w A11 os)  : Calls Tryz.prog 27 #[.agg #[.int .i64 a0, .int .i64 a1, .int .i64 a2, .int .i64 a3, .int .i64 a4, .int .i64 a5, .int .i64 a6, .int .i64 a7, .int .i64 a8, .slice A11 os.length c11]] w (RBP (OptFit os) w) := by
  have HOS := Lib.hid hos
  clear hos
  have HB0 := Lib.hid ((Below.refl w.heap.size w).alloc (Nat.le_refl _) (.cells #[.int .i64 a0, .int .i64 a1, .int .i64 a2, .int .i64 a3, .int .i64 a4, .int .i64 a5, .int .i64 a6, .int .i64 a7, .int .i64 a8, .slice A11 os.length c11] 47))
  go_enter Tryz.func27, Tryz.ntmps27
  go_wp2_with (first
    | (go_at_call 39; refine (upTo_ _ _ _).mono ?_; rintro e w1 ⟨⟨b, rfl⟩, rfl⟩; cases b)
    | (go_at_call 73; refine (fits5_ A11 c11 os _ (HOS.out.below HB0.out)).mono ?_; rintro e w2 ⟨⟨b, rfl, hr⟩, hb⟩; have HB1 := Lib.hid (HB0.out.trans (hb.mono HB0.out.size)); cases b <;> (first | have HR := Lib.hid (hr rfl) | skip) <;> clear hr hb))
  all_goals go_ret
  all_goals exact ⟨⟨_, rfl, fun h => by first | (simp at h; done) | exact HR.out⟩, by first | exact HB1.out | exact HB0.out⟩
end Go.Proofs.YtecgkcofmphaiaaGreatDoor.Gpk
