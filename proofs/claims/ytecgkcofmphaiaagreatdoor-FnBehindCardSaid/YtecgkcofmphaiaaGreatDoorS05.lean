/- Options of a header: what is told of them; as bytes. -/
import Derived.Test.YtecgkcofmphaiaaGreatDoorS01
set_option linter.unusedVariables false
set_option linter.unusedSimpArgs false
set_option linter.unnecessarySimpa false
set_option linter.unusedSectionVars false
namespace Go.Proofs.YtecgkcofmphaiaaGreatDoor.Gpk
open Go.RowKit
set_option linter.unusedVariables false
/-- An option: its kind, its length, its data. -/
structure OptV where
  k : Int
  len : Int
  A : Option Addr
  n : Nat
  c : Nat
def OptV.val (x : OptV) : Value := .slice x.A x.n x.c
/-- The cells of options from a place on. -/
def OptsV (w : World) (b o : Nat) (os : List OptV) : Prop := ∀ (i : Nat) (x : OptV), os[i]? = some x → w.cell? ⟨b, o + i * 3, none⟩ = some (.int .i64 x.k) ∧ w.cell? ⟨b, o + i * 3 + 1, none⟩ = some (.int .i64 x.len) ∧ w.cell? ⟨b, o + i * 3 + 2, none⟩ = some (.slice x.A x.n x.c) ∧ BB w (.slice x.A x.n x.c) x.n
/-- A slice of options. -/
def OptSl (w : World) (A : Option Addr) (os : List OptV) : Prop := os = [] ∨ ∃ b o, A = some ⟨b, o, none⟩ ∧ b < w.heap.size ∧ OptsV w b o os
theorem OptsV.below {w w' : World} {b o : Nat} {os : List OptV} (h : OptsV w b o os) (hlt : b < w.heap.size) (hb : Below w.heap.size w w') : OptsV w' b o os := by
  intro i x hx
  obtain ⟨h0, h1, h2, h3⟩ := h i x hx
  exact ⟨(hb.cell (p := ⟨b, o + i * 3, none⟩) hlt).trans h0, (hb.cell (p := ⟨b, o + i * 3 + 1, none⟩) hlt).trans h1, (hb.cell (p := ⟨b, o + i * 3 + 2, none⟩) hlt).trans h2, h3.below hb⟩
theorem OptSl.below {w w' : World} {A : Option Addr} {os : List OptV} (h : OptSl w A os) (hb : Below w.heap.size w w') : OptSl w' A os := by
  rcases h with h | ⟨b, o, hA, hlt, h⟩
  · exact .inl h
  · exact .inr ⟨b, o, hA, Nat.lt_of_lt_of_le hlt hb.size, h.below hlt hb⟩
def OptV.size (x : OptV) : Nat := if x.k = 1 then 1 else 2 + x.n
def osz (os : List OptV) : Nat := (os.map OptV.size).sum
theorem osz_snoc (os : List OptV) (i : Nat) (x : OptV) (h : os[i]? = some x) : osz (os.take (i + 1)) = osz (os.take i) + x.size := by
  have h1 : os.take (i + 1) = os.take i ++ [x] := by rw [List.take_add_one, h]; rfl
  rw [h1]
  unfold osz
  rw [List.map_append, List.sum_append]
  simp
theorem osz_le (os : List OptV) (i : Nat) : osz (os.take i) ≤ osz os := by
  have : osz os = osz (os.take i) + osz (os.drop i) := by
    unfold osz
    rw [← List.sum_append, ← List.map_append, List.take_append_drop]
  omega
theorem BB.one {w : World} {x : Value} {B : Nat} (hx : IsByteV x) (hB : w.heap.size = B) : BB (w.alloc (.cells #[x] 5)) (.slice (some ⟨B, 0, none⟩) 1 1) 1 :=
  hB ▸   (OwnB.made w #[x] 0 (Nat.zero_le _) (by simp) (fun u hu => by simp at hu; subst hu; exact hx)).bb
theorem keepBlock {wr w1 : World} {base n : Nat} {v : Value} {cs : Array Value} {T : TypeId} {Y : Obj} (h : OwnB wr base v n) (hT : T ≠ 5) (hg : ((wr.alloc (.cells cs T)).alloc Y).grownBy w1 v.ownBlock) : w1.heap[wr.heap.size]? = some (.cells cs T (0, 0)) := by
  have h0 : (wr.alloc (.cells cs T)).heap[wr.heap.size]? = some (.cells cs T (0, 0)) := heap_alloc_new wr _
  have h1 : ((wr.alloc (.cells cs T)).alloc Y).heap[wr.heap.size]? = some (.cells cs T (0, 0)) := (heap_alloc_old _ _ (lt_of_heap h0)).trans h0
  exact ((h.alloc _).alloc _).keep hg h1 hT
theorem keepBlock1 {wr w1 : World} {base n b : Nat} {v : Value} {cs : Array Value} {T : TypeId} {Y : Obj} {k : Nat} (h : OwnB wr base v n) (hT : T ≠ 5) (hb : wr.heap[b]? = some (.cells cs T (0, 0))) (hg : ((wr.alloc Y).drewN k).grownBy w1 v.ownBlock) : w1.heap[b]? = some (.cells cs T (0, 0)) := by
  have h1 : (wr.alloc Y).heap[b]? = some (.cells cs T (0, 0)) := (heap_alloc_old _ _ (lt_of_heap hb)).trans hb
  exact ((h.alloc _).drewN k).keep hg h1 hT
theorem belowGrown2 {w wr w1 : World} {X Y : Obj} {n : Nat} {v : Value} (hb : Below w.heap.size w wr) (h : OwnB wr w.heap.size v n) (hg : ((wr.alloc X).alloc Y).grownBy w1 v.ownBlock) : Below w.heap.size w w1 := by
  have hs := hb.size
  exact ((hb.alloc hs X).alloc (by simp; omega) Y).grown hg (by simp; omega) (fun k hk => (h.lt k hk).1)
theorem belowGrown1 {w wr w1 : World} {Y : Obj} {n k : Nat} {v : Value} (hb : Below w.heap.size w wr) (h : OwnB wr w.heap.size v n) (hg : ((wr.alloc Y).drewN k).grownBy w1 v.ownBlock) : Below w.heap.size w w1 := by
  have hs := hb.size
  exact (below_drewN (hb.alloc hs Y) k).grown hg (by show w.heap.size ≤ (wr.alloc Y).heap.size; simp; omega) (fun k hk => (h.lt k hk).1)
theorem belowGrown0 {w wr w1 : World} {n : Nat} {v : Value} (hb : Below w.heap.size w wr) (h : OwnB wr w.heap.size v n) (hg : wr.grownBy w1 v.ownBlock) : Below w.heap.size w w1 :=
  hb.grown hg hb.size (fun k hk => (h.lt k hk).1)
set_option maxRecDepth 100000 in
set_option maxHeartbeats 4000000 in
theorem options_ (A : Option Addr) (c : Nat) (os : List OptV) (w : World) (ho : OptSl w A os) (hs : osz os ≤ 1000) (hl : os.length ≤ 1000) :
    Calls Tryz.prog 77 #[.slice A os.length c] w (RBm (osz os + 3) w) := by
  go_enter Tryz.func77, Tryz.ntmps77
  go_wp2_with fail
  go_loopw [3, 9] (fun t3 t9 wr => ∃ (i n : Nat) (ao : Option Addr) (co : Nat), t9 = .int .i64 (i : Nat) ∧ i ≤ os.length ∧ t3 = .slice ao n co ∧ n = osz (os.take i) ∧ Hid (OwnB wr w.heap.size (.slice ao n co) n) ∧ Hid (Below w.heap.size w wr)) (fun _ t9 _ => os.length - natX t9)
  case atStart => exact ⟨0, 0, _, 0, rfl, Nat.zero_le _, rfl, by simp [osz], Lib.hid (OwnB.made w #[] w.heap.size (Nat.le_refl _) (by simp) (by simp)), Lib.hid ((Below.refl _ _).alloc (Nat.le_refl _) _)⟩
  case round =>
    obtain ⟨i, n, ao, co, rfl, hi, rfl, hn, HO, HB⟩ := hrel
    by_cases hlt : i < os.length
    · have n1 : (i : Int) < (os.length : Int) := by omega
      have n3 : (0 : Int) ≤ (i : Int) := by omega
      have n4 : ((i : Int)).toNat = i := by omega
      have n5 : IntKind.i64.wrap ((i : Int) + 1) = (i : Int) + 1 := by rw [IntKind.wrap_i64]; omega
      obtain ⟨b, o, rfl, hbw, hov⟩ := ho.resolve_left (by intro h; rw [h] at hlt; simp at hlt)
      have hxi : os[i]? = some os[i] := List.getElem?_eq_getElem hlt
      obtain ⟨x, hx⟩ : ∃ x, x = os[i] := ⟨_, rfl⟩
      rw [← hx] at hxi
      obtain ⟨g0, g1, g2, g3⟩ := hov i x hxi
      obtain ⟨k, len, A, m, cx⟩ := x
      simp only at g0 g1 g2 g3
      have e0 := (HB.out.cell (p := ⟨b, o + i * 3, none⟩) hbw).trans g0
      have e1 := (HB.out.cell (p := ⟨b, o + i * 3 + 1, none⟩) hbw).trans g1
      have e2 := (HB.out.cell (p := ⟨b, o + i * 3 + 2, none⟩) hbw).trans g2
      have G3 := Lib.hid g3
      have HSN := Lib.hid (osz_snoc os i _ hxi)
      have HLE := Lib.hid (osz_le os (i + 1))
      have HN := Lib.hid hn
      have hszw := HB.out.size
      have hbr : b < wr.heap.size := by omega
      clear g0 g1 g2 g3 hn hx hxi
      have hlim : n + 1 ≤ 2000 := by have := HN.out; have := HSN.out; have := HLE.out; simp only [OptV.size] at *; split at * <;> omega
      have HLIM := Lib.hid hlim
      clear hlim
      by_cases hk : k = 1
      · subst hk
        go_wp2_with (at_builtin; (refine wpList_append_bytes rfl (.tmp 13) (.tmp 17) rfl w.heap.size _ _ n 1 rfl rfl ((HO.out.alloc _).alloc _) (BB.one (by first | exact u8mod _ | exact u8wrap _ | exact ⟨1, by decide, rfl⟩) (by simp)) (by simp; omega) (by have := HLIM.out; omega) ?_))
        intro ao' c' w1 hown hgrow
        have hblk := keepBlock HO.out (by decide) hgrow
        have q0 := cell_of_row w1 _ 0 _ 137 (0, 0) hblk
        have HO1 := Lib.hid hown
        have HB1 := Lib.hid (belowGrown2 HB.out HO.out hgrow)
        clear hown hgrow hblk
        go_wp2_with fail
        go_roundw
        case rel => exact ⟨i + 1, n + 1, ao', c', rfl, by omega, rfl, by have := HSN.out; have := HN.out; simp only [OptV.size, if_true] at *; omega, HO1, HB1⟩
        case measure => simp [natX]; omega
      · have hk2 : (k == 1) = false := by simpa using hk
        have HLM := Lib.hid (show n + (2 + m) ≤ 1000 by have := HN.out; have := HSN.out; have := HLE.out; simp only [OptV.size, if_neg hk] at *; omega)
        go_wp2_with (at_builtin; (refine wpList_append_bytes rfl (.tmp 13) (.tmp 17) rfl w.heap.size _ _ n 1 rfl rfl ((HO.out.alloc _).alloc _) (BB.one (by first | exact u8mod _ | exact u8wrap _) (by simp)) (by simp; omega) (by have := HLIM.out; omega) ?_))
        intro ao' c' w1 hown hgrow
        have hblk := keepBlock HO.out (by decide) hgrow
        have q0 := cell_of_row w1 _ 0 _ 137 (0, 0) hblk
        have q1 := cell_of_row w1 _ 1 _ 137 (0, 0) hblk
        have q2 := cell_of_row w1 _ 2 _ 137 (0, 0) hblk
        have HBK := Lib.hid hblk
        have hPlt := lt_of_heap hblk
        have HO1 := Lib.hid hown
        have HB1 := Lib.hid (belowGrown2 HB.out HO.out hgrow)
        clear hown hgrow hblk
        go_wp2_with fail
        go_region_law (first
          | ((refine step_append_bytes rfl (.tmp 22) (.tmp 26) rfl w.heap.size _ _ (n + 1) 1 rfl rfl (by first | exact (HO1.out.alloc _).drewN _ | exact HO1.out.alloc _) (by first | exact BB.one (by first | exact u8mod _ | exact u8wrap _) rfl | exact (BB.one (by first | exact u8mod _ | exact u8wrap _) rfl : BB (World.alloc _ _) _ _)) (by have := HB1.out.size; show w.heap.size ≤ (World.alloc _ _).heap.size; simp; omega) (by have := HLIM.out; omega) ?_); intro ao2 co2 w2 hown2 hgrow2; have hblk2 := keepBlock1 HO1.out (by decide) HBK.out hgrow2; have r2 := cell_of_row w2 _ 2 _ 137 (0, 0) hblk2; have HO2 := Lib.hid hown2; have HB2 := Lib.hid (belowGrown1 HB1.out HO1.out hgrow2); clear hown2 hgrow2 hblk2)
          | ((refine step_append_bytes rfl (.tmp 27) (.tmp 29) rfl w.heap.size _ _ (n + 1 + 1) m rfl rfl HO2.out (G3.out.below HB2.out) HB2.out.size (by have := HLM.out; omega) ?_); intro ao3 co3 w3 hown3 hgrow3; have HO3 := Lib.hid hown3; have HB3 := Lib.hid (belowGrown0 HB2.out HO2.out hgrow3); clear hown3 hgrow3))
        all_goals go_wp2_with fail
        all_goals go_roundw
        all_goals (first
          | exact ⟨i + 1, n + 1 + 1 + m, ao3, co3, rfl, by omega, rfl, by have := HSN.out; have := HN.out; simp only [OptV.size, if_neg hk] at *; omega, HO3, HB3⟩
          | (simp [natX]; omega))
    · have n1 : ¬ ((i : Int) < (os.length : Int)) := by omega
      have HN := Lib.hid (show n = osz os by rw [hn, List.take_of_length_le (by omega)])
      clear hn
      go_wp2_with fail
      go_loopw [3] (fun t3 wr => ∃ (n : Nat) (ao : Option Addr) (co : Nat), t3 = .slice ao n co ∧ n ≤ (osz os + 3) / 4 * 4 ∧ Hid (OwnB wr w.heap.size (.slice ao n co) n) ∧ Hid (Below w.heap.size w wr)) (fun t3 _ => (osz os + 3) / 4 * 4 - lenX t3)
      case atStart => exact ⟨n, ao, co, rfl, by have := HN.out; omega, HO, HB⟩
      case round =>
        obtain ⟨n2, ao2, co2, rfl, hn2, HO2, HB2⟩ := hrel
        by_cases hr : n2 % 4 = 0
        · have et0 : ((n2 : Int) % 4 != 0) = false := by simp; omega
          go_wp2_with fail
          go_ret
          exact ⟨_, _, _, by omega, rfl, HO2.out, HB2.out⟩
        · have et1 : ((n2 : Int) % 4 != 0) = true := by simp; omega
          have HN2 := Lib.hid hn2
          have HR := Lib.hid hr
          clear hn2 hr
          go_wp2_with (at_builtin; (refine wpList_append_bytes rfl (.tmp 36) (.tmp 37) rfl w.heap.size _ _ n2 1 rfl rfl (HO2.out.alloc _) (BB.one ⟨0, by decide, rfl⟩ rfl) (by have := HB2.out.size; simp; omega) (by have := HN2.out; omega) ?_))
          intro ao3 c3 w3 hown hgrow
          have HO3 := Lib.hid hown
          have HB3 := Lib.hid ((HB2.out.alloc HB2.out.size _).grown hgrow (by have := HB2.out.size; simp; omega) (fun k hk => (HO2.out.lt k hk).1))
          clear hown hgrow
          go_wp2_with fail
          go_roundw
          case rel => exact ⟨n2 + 1, ao3, c3, rfl, by have := HN2.out; have := HR.out; omega, HO3, HB3⟩
          case measure => have := HN2.out; have := HR.out; simp [lenX]; omega
end Go.Proofs.YtecgkcofmphaiaaGreatDoor.Gpk
