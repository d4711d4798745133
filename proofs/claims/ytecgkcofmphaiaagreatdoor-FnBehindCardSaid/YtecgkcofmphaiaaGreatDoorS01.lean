/- Bytes made on the way: what holds of all of them as the world goes on.
   Cells that are held. -/
import Derived.Test.YtecgkcofmphaiaaGreatDoorS00
set_option linter.unusedVariables false
set_option linter.unusedSimpArgs false
set_option linter.unnecessarySimpa false
set_option linter.unusedSectionVars false
namespace Go.Proofs.YtecgkcofmphaiaaGreatDoor.Gpk
open Go.RowKit
set_option linter.unusedVariables false
structure Made (w W : World) (l : List (Value × Nat)) : Prop where
  below : Below w.heap.size w W
  bb : ∀ p ∈ l, BB W p.1 p.2
theorem Made.start (w : World) : Made w w [] := ⟨Below.refl _ _, fun p hp => by cases hp⟩
theorem Made.drewN {w W : World} {l : List (Value × Nat)} (h : Made w W l) (k : Nat) : Made w (W.drewN k) l := ⟨below_drewN h.below k, h.bb⟩
theorem Made.alloc {w W : World} {l : List (Value × Nat)} (h : Made w W l) (o : Obj) : Made w (W.alloc o) l :=
  ⟨h.below.alloc h.below.size o, fun p hp => (h.bb p hp).below ((Below.refl _ _).alloc (Nat.le_refl _) o)⟩
theorem Made.call {w W w1 : World} {l : List (Value × Nat)} {v : Value} {n base : Nat} (h : Made w W l) (ho : OwnB w1 base v n) (hb : Below W.heap.size W w1) : Made w w1 ((v, n) :: l) :=
  ⟨h.below.trans (hb.mono h.below.size), fun p hp => by
    rcases List.mem_cons.1 hp with rfl | hp
    · exact ho.bb
    · exact (h.bb p hp).below hb⟩
theorem Made.keep {w W w1 : World} {l : List (Value × Nat)} (h : Made w W l) (hb : Below W.heap.size W w1) : Made w w1 l :=
  ⟨h.below.trans (hb.mono h.below.size), fun p hp => (h.bb p hp).below hb⟩
theorem Made.arg {w W : World} {l : List (Value × Nat)} (h : Made w W l) {v : Value} {n : Nat} (hv : BB w v n) : Made w W ((v, n) :: l) :=
  ⟨h.below, fun p hp => by
    rcases List.mem_cons.1 hp with rfl | hp
    · exact hv.below h.below
    · exact h.bb p hp⟩
theorem Made.bytes {w W : World} {l : List (Value × Nat)} (h : Made w W l) (cs : Array Value) (hs : cs.size ≤ 1000) (hc : ∀ u ∈ cs.toList, ∃ b : Nat, b < 256 ∧ u = .int .u8 (b : Nat)) : Made w (W.alloc (.cells cs 5)) ((.slice (some ⟨W.heap.size, 0, none⟩) cs.size cs.size, cs.size) :: l) :=
  ⟨h.below.alloc h.below.size _, fun p hp => by
    rcases List.mem_cons.1 hp with rfl | hp
    · exact (OwnB.made W cs 0 (Nat.zero_le _) (by omega) hc).bb
    · exact (h.bb p hp).below ((Below.refl _ _).alloc (Nat.le_refl _) _)⟩
def IsByteV (u : Value) : Prop := ∃ b : Nat, b < 256 ∧ u = .int .u8 (b : Nat)
theorem Made.bytes2 {w W : World} {l : List (Value × Nat)} {x y : Value} (h : Made w W l) (hx : IsByteV x) (hy : IsByteV y) : Made w (W.alloc (.cells #[x, y] 5)) ((.slice (some ⟨W.heap.size, 0, none⟩) 2 2, 2) :: l) :=
  h.bytes #[x, y] (by simp) (fun u hu => by simp at hu; rcases hu with rfl | rfl <;> assumption)
theorem Made.bytes4 {w W : World} {l : List (Value × Nat)} {x y z t : Value} (h : Made w W l) (hx : IsByteV x) (hy : IsByteV y) (hz : IsByteV z) (ht : IsByteV t) : Made w (W.alloc (.cells #[x, y, z, t] 5)) ((.slice (some ⟨W.heap.size, 0, none⟩) 4 4, 4) :: l) :=
  h.bytes #[x, y, z, t] (by simp) (fun u hu => by simp at hu; rcases hu with rfl | rfl | rfl | rfl <;> assumption)
/-- A row of parts that was laid now. -/
theorem Made.parts {w W : World} {l : List (Value × Nat)} (h : Made w W l) (cs : Array Value) (ps : List (Value × Nat)) (hcs : cs.toList = ps.map (·.1)) (hp : ∀ p ∈ ps, p ∈ l) : Parts (W.alloc (.cells cs 22)) W.heap.size ps := by
  intro i p hi
  have hpl := hp p (List.mem_of_getElem? hi)
  refine ⟨?_, (h.bb p hpl).below ((Below.refl _ _).alloc (Nat.le_refl _) _)⟩
  rw [cell_of_row _ W.heap.size i cs 22 (0, 0) (heap_alloc_new W _)]
  have : cs.toList[i]? = some p.1 := by rw [hcs, List.getElem?_map, hi]; rfl
  simpa using this
theorem RB.of {w W : World} {l : List (Value × Nat)} {n : Nat} {e : Ending} {w' : World} (h : RB n W e w') (hm : Made w W l) : RB n w e w' := by
  obtain ⟨ao, c, rfl, ho, hb⟩ := h
  exact ⟨ao, c, rfl, ho.mono hm.below.size, hm.below.trans (hb.mono hm.below.size)⟩
set_option maxRecDepth 100000 in
set_option maxHeartbeats 1000000 in
theorem long_ (x : Int) (w : World) : Calls Tryz.prog 79 #[.int .i64 x] w (RB 4 w) := by
  go_enter Tryz.func79, Tryz.ntmps79
  go_wp2_with fail
  refine (short_ _ _).mono ?_
  rintro e w1 ⟨a1, c1, rfl, ho1, hb1⟩
  have HO1 := Lib.hid ho1
  have HB1 := Lib.hid hb1
  clear ho1 hb1
  go_wp2_with fail
  refine (short_ _ _).mono ?_
  rintro e w2 ⟨a2, c2, rfl, ho2, hb2⟩
  have HO2 := Lib.hid ho2
  have HB2 := Lib.hid hb2
  clear ho2 hb2
  go_wp2_with (at_builtin; (refine wpList_append_bytes rfl (.tmp 5) (.tmp 7) rfl w.heap.size _ _ 2 2 rfl rfl (HO1.out.below HB2.out) HO2.out.bb (by have := HB1.out.size; have := HB2.out.size; omega) (by omega) ?_))
  intro ao c w' hown hgrow
  have HO := Lib.hid hown
  have hz : w.heap.size ≤ w2.heap.size := by have := HB1.out.size; have := HB2.out.size; omega
  have HB := Lib.hid ((HB1.out.trans (HB2.out.mono HB1.out.size)).grown hgrow hz (fun k hk => ((HO1.out.below HB2.out).lt k hk).1))
  clear hown hgrow
  go_wp2
  go_ret
  exact ⟨_, _, rfl, HO.out, HB.out⟩
def intX : Value → Int | .int _ n => n | _ => 0
set_option maxRecDepth 100000 in
set_option maxHeartbeats 2000000 in
theorem checksum_ (v : Value) (n : Nat) (w : World) (hv : BB w v n) (hn : n ≤ 100000000) : Calls Tryz.prog 78 #[v] w fun e w' => (∃ x : Int, e = .returned (.int .i64 x)) ∧ w = w' := by
  obtain ⟨f, hf, a, c, rfl, hnc, hcm, hcell⟩ := hv
  go_enter Tryz.func78, Tryz.ntmps78
  go_wp2_with fail
  go_loopw [3, 4] (fun t3 t4 wr => ∃ (i : Nat) (s : Int), t4 = .int .i64 (i : Nat) ∧ i ≤ n + 1 ∧ t3 = .int .i64 s ∧ w = wr) (fun _ t4 _ => n + 2 - natX t4)
  case atStart => exact ⟨0, 0, rfl, Nat.zero_le _, rfl, rfl⟩
  case round =>
    obtain ⟨i, s, rfl, hi, rfl, rfl⟩ := hrel
    have n5 : IntKind.i64.wrap ((i : Int) + 1) = (i : Int) + 1 := by rw [IntKind.wrap_i64]; omega
    have n6 : IntKind.i64.wrap ((i : Int) + 2) = (i : Int) + 2 := by rw [IntKind.wrap_i64]; omega
    by_cases hlt : i < n
    · obtain ⟨D, q, rfl, hB⟩ := hcell.resolve_left (by omega)
      have d0 := hB i hlt
      have n1 : (i : Int) < (n : Int) := by omega
      have n3 : (0 : Int) ≤ (i : Int) := by omega
      have n4 : ((i : Int)).toNat = i := by omega
      by_cases hx : i + 1 < n
      · have d1 : w.cell? ⟨D, q + (i + 1), none⟩ = some (.int .u8 (f (i + 1) : Nat)) := hB (i + 1) hx
        have n7 : (i : Int) + 1 < (n : Int) := by omega
        have n8 : (0 : Int) ≤ (i : Int) + 1 := by omega
        have n9 : ((i : Int) + 1).toNat = i + 1 := by omega
        clear hcell hB
        go_wp2_with fail
        all_goals go_roundw
        all_goals (first
          | exact ⟨i + 2, _, by first | rfl | (push_cast; rfl), by omega, rfl, by first | rfl | trivial⟩
          | (simp [natX]; omega))
      · have n7 : ¬ ((i : Int) + 1 < (n : Int)) := by omega
        clear hcell hB
        go_wp2_with fail
        all_goals go_roundw
        all_goals (first
          | exact ⟨i + 2, _, by first | rfl | (push_cast; rfl), by omega, rfl, by first | rfl | trivial⟩
          | (simp [natX]; omega))
    · have n1 : ¬ ((i : Int) < (n : Int)) := by omega
      go_wp2
      go_ret
      exact ⟨⟨_, rfl⟩, rfl⟩
def lenX : Value → Nat | .slice _ n _ => n | _ => 0
def total (cs : Array Value) : Nat := (cs.toList.map lenX).sum
/-- The parts of a row that was laid now, joined. -/
theorem joinedAt {w W : World} {l : List (Value × Nat)} {cs : Array Value} {B k n : Nat} (h : Made w W l) (hB : W.heap.size = B) (hk0 : cs.size = k) (hn : total cs = n) (hm : ∀ v ∈ cs.toList, (v, lenX v) ∈ l) (hs : n ≤ 10000000) (hk : k ≤ 100) :
    Calls Tryz.prog 17 #[.slice (some ⟨B, 0, none⟩) k k] (W.alloc (.cells cs 22)) (RB n (W.alloc (.cells cs 22))) := by
  subst hB hk0 hn
  have hp : Parts (W.alloc (.cells cs 22)) W.heap.size (cs.toList.map fun v => (v, lenX v)) :=
    h.parts cs _ (by simp [Function.comp_def]) (fun p hp => by obtain ⟨v, hv, rfl⟩ := List.mem_map.1 hp; exact hm v hv)
  have he : sumOf (cs.toList.map fun v => (v, lenX v)) = total cs := by simp [sumOf, total, Function.comp_def]
  have := joined_ W.heap.size cs.size cs.size (cs.toList.map fun v => (v, lenX v)) (W.alloc (.cells cs 22)) (by simp) hk hp (by omega) (by simp)
  rw [he] at this
  exact this
theorem Made.old {w W w1 : World} {o : Obj} {l : List (Value × Nat)} (h : Made (w.alloc o) W l) (hb : Below W.heap.size W w1) (i : Nat) : w1.cell? ⟨w.heap.size, i, none⟩ = W.cell? ⟨w.heap.size, i, none⟩ :=
  hb.cell (by have := h.below.size; simp at this ⊢; omega)
theorem Made.oldz {w W w1 : World} {o : Obj} {l : List (Value × Nat)} (h : Made (w.alloc o) W l) (hb : Below W.heap.size W w1) (i : Nat) : w1.frozen? ⟨w.heap.size, i, none⟩ = W.frozen? ⟨w.heap.size, i, none⟩ :=
  hb.frozen (by have := h.below.size; simp at this ⊢; omega)
theorem Made.fin {w W w1 : World} {o : Obj} {l : List (Value × Nat)} {v : Value} {n : Nat} (h : Made (w.alloc o) W l) (ho : OwnB w1 W.heap.size v n) (hb : Below W.heap.size W w1) : OwnB w1 w.heap.size v n ∧ Below w.heap.size w w1 := by
  have h1 : w.heap.size ≤ (w.alloc o).heap.size := by simp
  have h2 := h.below.size
  exact ⟨ho.mono (by omega), (((Below.refl w.heap.size w).alloc (Nat.le_refl _) o).trans (h.below.mono h1)).trans (hb.mono (by omega))⟩
theorem Made.belowAll {w W : World} {o : Obj} {l : List (Value × Nat)} (h : Made (w.alloc o) W l) : Below w.heap.size w W := by
  have h1 : w.heap.size ≤ (w.alloc o).heap.size := by simp
  exact ((Below.refl w.heap.size w).alloc (Nat.le_refl _) o).trans (h.below.mono h1)
theorem BB.past {w : World} {v : Value} {n : Nat} (h : BB w v n) (o : Obj) : BB (w.alloc o) v n := h.below ((Below.refl _ _).alloc (Nat.le_refl _) o)
theorem Made.oldB {w0 W w1 : World} {l : List (Value × Nat)} (h : Made w0 W l) (hb : Below W.heap.size W w1) (B : Nat) (hB : B < w0.heap.size) (i : Nat) : w1.cell? ⟨B, i, none⟩ = W.cell? ⟨B, i, none⟩ :=
  hb.cell (by have := h.below.size; show B < W.heap.size; omega)
theorem Made.oldzB {w0 W w1 : World} {l : List (Value × Nat)} (h : Made w0 W l) (hb : Below W.heap.size W w1) (B : Nat) (hB : B < w0.heap.size) (i : Nat) : w1.frozen? ⟨B, i, none⟩ = W.frozen? ⟨B, i, none⟩ :=
  hb.frozen (by have := h.below.size; show B < W.heap.size; omega)
theorem Made.finB {w w0 W w1 : World} {l : List (Value × Nat)} {v : Value} {n : Nat} (h0 : Below w.heap.size w w0) (h : Made w0 W l) (ho : OwnB w1 W.heap.size v n) (hb : Below W.heap.size W w1) : OwnB w1 w.heap.size v n ∧ Below w.heap.size w w1 := by
  have h1 := h0.size
  have h2 := h.below.size
  exact ⟨ho.mono (by omega), (h0.trans (h.below.mono h1)).trans (hb.mono (by omega))⟩
theorem Made.head {w W : World} {l : List (Value × Nat)} {v : Value} {n : Nat} (h : Made w W ((v, n) :: l)) : BB W v n := h.bb _ (List.mem_cons_self ..)
/-- The parts of a row that was laid now, joined: a bound alone. -/
theorem joinedAtM {w W : World} {l : List (Value × Nat)} {cs : Array Value} {B k m : Nat} (h : Made w W l) (hB : W.heap.size = B) (hk0 : cs.size = k) (hn : total cs ≤ m) (hm : ∀ v ∈ cs.toList, (v, lenX v) ∈ l) (hs : m ≤ 10000000) (hk : k ≤ 100) :
    Calls Tryz.prog 17 #[.slice (some ⟨B, 0, none⟩) k k] (W.alloc (.cells cs 22)) (RBm m (W.alloc (.cells cs 22))) :=
  (joinedAt h hB hk0 rfl hm (by omega) hk).mono fun e w' h => by
    obtain ⟨ao, c, he, ho, hb⟩ := h
    exact ⟨_, ao, c, hn, he, ho, hb⟩
end Go.Proofs.YtecgkcofmphaiaaGreatDoor.Gpk
namespace Go.Proofs.YtecgkcofmphaiaaGreatDoor.Gpk
open Go.RowKit
theorem Made.limbs2 {w0 W : World} {l : List (Value × Nat)} {B : Nat} {i0 : Nat} {v0 : Value} {i1 : Nat} {v1 : Value} (h : Made w0 W l) (hB : B < w0.heap.size) (z0 : w0.cell? ⟨B, i0, none⟩ = some v0) (z1 : w0.cell? ⟨B, i1, none⟩ = some v1) : W.cell? ⟨B, i0, none⟩ = some v0 ∧ W.cell? ⟨B, i1, none⟩ = some v1 :=
  ⟨(h.below.cell (p := ⟨B, i0, none⟩) hB).trans z0, (h.below.cell (p := ⟨B, i1, none⟩) hB).trans z1⟩
theorem Made.limbs3 {w0 W : World} {l : List (Value × Nat)} {B : Nat} {i0 : Nat} {v0 : Value} {i1 : Nat} {v1 : Value} {i2 : Nat} {v2 : Value} (h : Made w0 W l) (hB : B < w0.heap.size) (z0 : w0.cell? ⟨B, i0, none⟩ = some v0) (z1 : w0.cell? ⟨B, i1, none⟩ = some v1) (z2 : w0.cell? ⟨B, i2, none⟩ = some v2) : W.cell? ⟨B, i0, none⟩ = some v0 ∧ W.cell? ⟨B, i1, none⟩ = some v1 ∧ W.cell? ⟨B, i2, none⟩ = some v2 :=
  ⟨(h.below.cell (p := ⟨B, i0, none⟩) hB).trans z0, (h.below.cell (p := ⟨B, i1, none⟩) hB).trans z1, (h.below.cell (p := ⟨B, i2, none⟩) hB).trans z2⟩
theorem Made.limbs4 {w0 W : World} {l : List (Value × Nat)} {B : Nat} {i0 : Nat} {v0 : Value} {i1 : Nat} {v1 : Value} {i2 : Nat} {v2 : Value} {i3 : Nat} {v3 : Value} (h : Made w0 W l) (hB : B < w0.heap.size) (z0 : w0.cell? ⟨B, i0, none⟩ = some v0) (z1 : w0.cell? ⟨B, i1, none⟩ = some v1) (z2 : w0.cell? ⟨B, i2, none⟩ = some v2) (z3 : w0.cell? ⟨B, i3, none⟩ = some v3) : W.cell? ⟨B, i0, none⟩ = some v0 ∧ W.cell? ⟨B, i1, none⟩ = some v1 ∧ W.cell? ⟨B, i2, none⟩ = some v2 ∧ W.cell? ⟨B, i3, none⟩ = some v3 :=
  ⟨(h.below.cell (p := ⟨B, i0, none⟩) hB).trans z0, (h.below.cell (p := ⟨B, i1, none⟩) hB).trans z1, (h.below.cell (p := ⟨B, i2, none⟩) hB).trans z2, (h.below.cell (p := ⟨B, i3, none⟩) hB).trans z3⟩
theorem Made.limbs5 {w0 W : World} {l : List (Value × Nat)} {B : Nat} {i0 : Nat} {v0 : Value} {i1 : Nat} {v1 : Value} {i2 : Nat} {v2 : Value} {i3 : Nat} {v3 : Value} {i4 : Nat} {v4 : Value} (h : Made w0 W l) (hB : B < w0.heap.size) (z0 : w0.cell? ⟨B, i0, none⟩ = some v0) (z1 : w0.cell? ⟨B, i1, none⟩ = some v1) (z2 : w0.cell? ⟨B, i2, none⟩ = some v2) (z3 : w0.cell? ⟨B, i3, none⟩ = some v3) (z4 : w0.cell? ⟨B, i4, none⟩ = some v4) : W.cell? ⟨B, i0, none⟩ = some v0 ∧ W.cell? ⟨B, i1, none⟩ = some v1 ∧ W.cell? ⟨B, i2, none⟩ = some v2 ∧ W.cell? ⟨B, i3, none⟩ = some v3 ∧ W.cell? ⟨B, i4, none⟩ = some v4 :=
  ⟨(h.below.cell (p := ⟨B, i0, none⟩) hB).trans z0, (h.below.cell (p := ⟨B, i1, none⟩) hB).trans z1, (h.below.cell (p := ⟨B, i2, none⟩) hB).trans z2, (h.below.cell (p := ⟨B, i3, none⟩) hB).trans z3, (h.below.cell (p := ⟨B, i4, none⟩) hB).trans z4⟩
theorem Made.limbs6 {w0 W : World} {l : List (Value × Nat)} {B : Nat} {i0 : Nat} {v0 : Value} {i1 : Nat} {v1 : Value} {i2 : Nat} {v2 : Value} {i3 : Nat} {v3 : Value} {i4 : Nat} {v4 : Value} {i5 : Nat} {v5 : Value} (h : Made w0 W l) (hB : B < w0.heap.size) (z0 : w0.cell? ⟨B, i0, none⟩ = some v0) (z1 : w0.cell? ⟨B, i1, none⟩ = some v1) (z2 : w0.cell? ⟨B, i2, none⟩ = some v2) (z3 : w0.cell? ⟨B, i3, none⟩ = some v3) (z4 : w0.cell? ⟨B, i4, none⟩ = some v4) (z5 : w0.cell? ⟨B, i5, none⟩ = some v5) : W.cell? ⟨B, i0, none⟩ = some v0 ∧ W.cell? ⟨B, i1, none⟩ = some v1 ∧ W.cell? ⟨B, i2, none⟩ = some v2 ∧ W.cell? ⟨B, i3, none⟩ = some v3 ∧ W.cell? ⟨B, i4, none⟩ = some v4 ∧ W.cell? ⟨B, i5, none⟩ = some v5 :=
  ⟨(h.below.cell (p := ⟨B, i0, none⟩) hB).trans z0, (h.below.cell (p := ⟨B, i1, none⟩) hB).trans z1, (h.below.cell (p := ⟨B, i2, none⟩) hB).trans z2, (h.below.cell (p := ⟨B, i3, none⟩) hB).trans z3, (h.below.cell (p := ⟨B, i4, none⟩) hB).trans z4, (h.below.cell (p := ⟨B, i5, none⟩) hB).trans z5⟩
theorem Made.limbs7 {w0 W : World} {l : List (Value × Nat)} {B : Nat} {i0 : Nat} {v0 : Value} {i1 : Nat} {v1 : Value} {i2 : Nat} {v2 : Value} {i3 : Nat} {v3 : Value} {i4 : Nat} {v4 : Value} {i5 : Nat} {v5 : Value} {i6 : Nat} {v6 : Value} (h : Made w0 W l) (hB : B < w0.heap.size) (z0 : w0.cell? ⟨B, i0, none⟩ = some v0) (z1 : w0.cell? ⟨B, i1, none⟩ = some v1) (z2 : w0.cell? ⟨B, i2, none⟩ = some v2) (z3 : w0.cell? ⟨B, i3, none⟩ = some v3) (z4 : w0.cell? ⟨B, i4, none⟩ = some v4) (z5 : w0.cell? ⟨B, i5, none⟩ = some v5) (z6 : w0.cell? ⟨B, i6, none⟩ = some v6) : W.cell? ⟨B, i0, none⟩ = some v0 ∧ W.cell? ⟨B, i1, none⟩ = some v1 ∧ W.cell? ⟨B, i2, none⟩ = some v2 ∧ W.cell? ⟨B, i3, none⟩ = some v3 ∧ W.cell? ⟨B, i4, none⟩ = some v4 ∧ W.cell? ⟨B, i5, none⟩ = some v5 ∧ W.cell? ⟨B, i6, none⟩ = some v6 :=
  ⟨(h.below.cell (p := ⟨B, i0, none⟩) hB).trans z0, (h.below.cell (p := ⟨B, i1, none⟩) hB).trans z1, (h.below.cell (p := ⟨B, i2, none⟩) hB).trans z2, (h.below.cell (p := ⟨B, i3, none⟩) hB).trans z3, (h.below.cell (p := ⟨B, i4, none⟩) hB).trans z4, (h.below.cell (p := ⟨B, i5, none⟩) hB).trans z5, (h.below.cell (p := ⟨B, i6, none⟩) hB).trans z6⟩
end Go.Proofs.YtecgkcofmphaiaaGreatDoor.Gpk
