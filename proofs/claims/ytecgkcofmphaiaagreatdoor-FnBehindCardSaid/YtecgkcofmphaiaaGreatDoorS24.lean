/- What comes in, opened: bytes, options, pieces. -/
import Derived.Test.YtecgkcofmphaiaaGreatDoorS19
import Derived.ProofKit
import Derived.LaidMore
import Derived.Deep.Slices
import Derived.Deep.Strs
set_option linter.unusedVariables false
set_option linter.unusedSimpArgs false
set_option linter.unnecessarySimpa false
set_option linter.unusedSectionVars false
namespace Go.Proofs.YtecgkcofmphaiaaGreatDoor.Gpk
open Go.ChangeShapes Go.WideShapes Go.RowKit Go.Deep
set_option linter.unusedVariables false
set_option maxRecDepth 100000
theorem cS2 : Tryz.prog.cellsOf 2 = 1 := by kernel_rfl
theorem cS4 : Tryz.prog.cellsOf 4 = 1 := by kernel_rfl
theorem cS5 : Tryz.prog.cellsOf 5 = 1 := by kernel_rfl
theorem cS22 : Tryz.prog.cellsOf 22 = 1 := by kernel_rfl
theorem cS41 : Tryz.prog.cellsOf 41 = 1 := by kernel_rfl
theorem cS59 : Tryz.prog.cellsOf 59 = 70 := by kernel_rfl
theorem cS137 : Tryz.prog.cellsOf 137 = 3 := by kernel_rfl
theorem cS38 : Tryz.prog.cellsOf 38 = 4 := by kernel_rfl
theorem cS40 : Tryz.prog.cellsOf 40 = 4 := by kernel_rfl
theorem cS43 : Tryz.prog.cellsOf 43 = 12 := by kernel_rfl
theorem cS45 : Tryz.prog.cellsOf 45 = 7 := by kernel_rfl
theorem cS47 : Tryz.prog.cellsOf 47 = 10 := by kernel_rfl
theorem cS49 : Tryz.prog.cellsOf 49 = 4 := by kernel_rfl
theorem cS51 : Tryz.prog.cellsOf 51 = 5 := by kernel_rfl
theorem cS53 : Tryz.prog.cellsOf 53 = 10 := by kernel_rfl
theorem cS55 : Tryz.prog.cellsOf 55 = 6 := by kernel_rfl
theorem cS57 : Tryz.prog.cellsOf 57 = 7 := by kernel_rfl
instance : Inhabited OptV := ⟨⟨0, 0, none, 0, 0⟩⟩
instance : Inhabited Pc := ⟨⟨0, [], [], [], [], [], [], [], [], [], [], 0, 0, 0, 0, 0, 0, 0, 0, 0, 0, [], []⟩⟩
section
variable {H : Type} {enc : TypeId × Value → H} {W : World} {sp : Nat → Bool}
theorem lt_of_cell {W : World} {a : Addr} {v : Value} (h : W.cell? a = some v) : a.block < W.heap.size := by
  by_cases hlt : a.block < W.heap.size
  · exact hlt
  · exfalso
    have hn : W.heap[a.block]? = none := Array.getElem?_eq_none (Nat.le_of_not_lt hlt)
    simp [World.cell?, hn] at h
theorem open_bytes {fuel : Nat} {cs : List Value} {x : DataW H × List MemPlace} (h : DataW.trod enc Tryz.prog W 0 sp true fuel 22 cs = some x) : ∃ (A : Option Addr) (n c : Nat), cs = [.slice A n c] ∧ BB W (.slice A n c) n := by
  rcases open_ints Tryz.underlying22 Tryz.underlying5 cS5 h with ⟨rfl, _⟩ | ⟨a, len, cap, zs, rfl, _, hl, hm, hz, _, hcell, hwz⟩
  · exact ⟨none, 0, 0, rfl, BB.nil W⟩
  · have hlz : len ≤ zs.length := by rw [hz]; split <;> omega
    have bnd : ∀ i, 0 ≤ zs.getD i 0 ∧ zs.getD i 0 ≤ 255 := by
      intro i
      by_cases hi : i < zs.length
      · have h5 := hwz zs[i] (List.getElem_mem hi)
        have e1 : IntKind.u8.min = 0 := rfl
        have e2 : IntKind.u8.max = 255 := rfl
        have e3 : zs.getD i 0 = zs[i] := by simp [List.getD, List.getElem?_eq_getElem hi]
        rw [e3]
        simpa [Lit.wf, e1, e2] using h5
      · have e3 : zs.getD i 0 = 0 := by simp [List.getD, List.getElem?_eq_none (Nat.le_of_not_lt hi)]
        rw [e3]
        omega
    refine ⟨some a, len, cap, rfl, fun i => (zs.getD i 0).toNat, fun i => ?_, some a, cap, rfl, hl, hm, ?_⟩
    · have := bnd i
      show (zs.getD i 0).toNat < 256
      omega
    · by_cases h0 : len = 0
      · exact .inl h0
      · obtain ⟨b, off, spot⟩ := a
        have hspot : spot = none := by simpa [Addr.add] using World.cell?_spot (hcell 0 (by omega))
        subst hspot
        refine .inr ⟨b, off, rfl, fun i hi => ?_⟩
        have := hcell i (by omega)
        rw [WideShapes.add_plain] at this
        rw [this]
        have := (bnd i).1
        exact congrArg (fun z => some (Value.int .u8 z)) (Int.toNat_of_nonneg this).symm
/-- A slice's cells, element by element, at a plain address. -/
theorem plainAt {a : Addr} {v : Value} (h : W.cell? (a.add 0) = some v) : ∃ b off, a = ⟨b, off, none⟩ ∧ b < W.heap.size := by
  obtain ⟨b, off, spot⟩ := a
  have hspot : spot = none := by simpa [Addr.add] using World.cell?_spot h
  subst hspot
  rw [WideShapes.add_plain] at h
  exact ⟨b, off, rfl, lt_of_cell h⟩
theorem open_options {fuel : Nat} {cs : List Value} {x : DataW H × List MemPlace} (h : DataW.trod enc Tryz.prog W 0 sp true fuel 41 cs = some x) : ∃ (A : Option Addr) (os : List OptV) (c : Nat), cs = [.slice A os.length c] ∧ OptSl W A os := by
  rcases open_slice Tryz.underlying41 h with ⟨rfl, _⟩ | ⟨a, len, cap, m, n, D, Pl, rfl, _, hl, hm, hmm, _, hx⟩
  · exact ⟨none, [], 0, rfl, .inl rfl⟩
  · have hlm : len ≤ m := by rw [hmm]; split <;> omega
    have each : ∀ i, i < len → ∃ q : OptV, W.cell? (a.add (i * 3)) = some (.int .i64 q.k) ∧ W.cell? (a.add (i * 3 + 1)) = some (.int .i64 q.len) ∧ W.cell? (a.add (i * 3 + 2)) = some (.slice q.A q.n q.c) ∧ BB W (.slice q.A q.n q.c) q.n := by
      intro i hi
      obtain ⟨cs', h1, h2⟩ := hx i (by omega)
      rw [cS137] at h1
      obtain ⟨_, hlen, hcell⟩ := World.cells?_some h1
      obtain ⟨y0, y1, y2, k, _, _, u0, u1, u2⟩ := trod_struct3 Tryz.underlying137 h2
      match cs', hlen with
      | [v0, v1, v2], _ =>
        simp only [cS2, cS22, List.drop, List.take] at u0 u1 u2
        obtain ⟨z0, e0, _⟩ := DataW.trod_int Tryz.underlying2 u0
        obtain ⟨z1, e1, _⟩ := DataW.trod_int Tryz.underlying2 u1
        obtain ⟨A, nn, c, e2, hb⟩ := open_bytes u2
        simp only [List.cons.injEq, and_true] at e0 e1 e2
        subst e0; subst e1; subst e2
        have c0 := hcell 0 (by omega)
        have c1 := hcell 1 (by omega)
        have c2 := hcell 2 (by omega)
        rw [Deep.add_add] at c0 c1 c2
        exact ⟨⟨z0, z1, A, nn, c⟩, by simpa using c0, by simpa using c1, by simpa using c2, hb⟩
    obtain ⟨q, hq⟩ := choose_lt each
    refine ⟨some a, (List.range len).map q, cap, by simp, ?_⟩
    by_cases h0 : len = 0
    · subst h0
      exact .inl (by simp)
    · obtain ⟨b, off, rfl, hlt⟩ := plainAt (by simpa using (hq 0 (by omega)).1)
      refine .inr ⟨b, off, rfl, hlt, fun i x hx => ?_⟩
      have hi : i < len := by
        have := (List.getElem?_eq_some_iff.1 hx).1
        simpa using this
      have he : x = q i := by simpa [hi] using hx.symm
      subst he
      obtain ⟨c0, c1, c2, hb⟩ := hq i hi
      rw [WideShapes.add_plain] at c0 c1 c2
      exact ⟨c0, c1, c2, hb⟩
/-- A field of a struct. -/
theorem fieldOf {t : TypeId} {fs : Array Field} {fuel : Nat} {cs : List Value} {x : DataW H × List MemPlace} (ht : Tryz.prog.underlying t = some (.struct fs)) (h : DataW.trod enc Tryz.prog W 0 sp true fuel t cs = some x) (i : Nat) (ty off : Nat) (hf : (fs[i]?).map (fun f => (f.type, f.offset)) = some (ty, off)) :
    ∃ n y, DataW.trod enc Tryz.prog W 0 sp true n ty ((cs.drop off).take (Tryz.prog.cellsOf ty)) = some y := by
  obtain ⟨xs, n, _, _, _, hlen, hg⟩ := DataW.trod_struct ht h
  obtain ⟨f, hf1, hf2⟩ := Option.map_eq_some_iff.1 hf
  simp only [Prod.mk.injEq] at hf2
  obtain ⟨rfl, rfl⟩ := hf2
  have hi : i < xs.length := by
    have := (Array.getElem?_eq_some_iff.1 hf1).1
    omega
  exact ⟨n, xs[i], by rw [hg i f hf1, List.getElem?_eq_getElem hi]⟩
theorem lenOfStruct {t : TypeId} {fs : Array Field} {fuel : Nat} {cs : List Value} {x : DataW H × List MemPlace} (ht : Tryz.prog.underlying t = some (.struct fs)) (h : DataW.trod enc Tryz.prog W 0 sp true fuel t cs = some x) : cs.length = Tryz.prog.cellsOf t := by
  obtain ⟨xs, n, _, _, hl, _⟩ := DataW.trod_struct ht h
  exact hl
theorem open_e {fuel : Nat} {cs : List Value} {x : DataW H × List MemPlace} (h : DataW.trod enc Tryz.prog W 0 sp true fuel 38 cs = some x) : ∃ (A0 : Option Addr) (n0 c0 : Nat) (A1 : Option Addr) (n1 c1 : Nat) (z2 : Int) (z3 : Int), cs = [.slice A0 n0 c0, .slice A1 n1 c1, .int .i64 z2, .int .i64 z3] ∧ BB W (.slice A0 n0 c0) n0 ∧ BB W (.slice A1 n1 c1) n1 := by
  have hl := lenOfStruct Tryz.underlying38 h
  rw [cS38] at hl
  obtain ⟨k0, y0, u0⟩ := fieldOf Tryz.underlying38 h 0 22 0 rfl
  obtain ⟨k1, y1, u1⟩ := fieldOf Tryz.underlying38 h 1 22 1 rfl
  obtain ⟨k2, y2, u2⟩ := fieldOf Tryz.underlying38 h 2 2 2 rfl
  obtain ⟨k3, y3, u3⟩ := fieldOf Tryz.underlying38 h 3 2 3 rfl
  match cs, hl with
  | [v0, v1, v2, v3], _ =>
    simp only [cS2, cS22, List.drop, List.take] at u0
    obtain ⟨A0, n0, c0, e0, b0⟩ := open_bytes u0
    simp only [List.cons.injEq, and_true] at e0
    subst e0
    simp only [cS2, cS22, List.drop, List.take] at u1
    obtain ⟨A1, n1, c1, e1, b1⟩ := open_bytes u1
    simp only [List.cons.injEq, and_true] at e1
    subst e1
    simp only [cS2, cS22, List.drop, List.take] at u2
    obtain ⟨z2, e2, _⟩ := DataW.trod_int Tryz.underlying2 u2
    simp only [List.cons.injEq, and_true] at e2
    subst e2
    simp only [cS2, cS22, List.drop, List.take] at u3
    obtain ⟨z3, e3, _⟩ := DataW.trod_int Tryz.underlying2 u3
    simp only [List.cons.injEq, and_true] at e3
    subst e3
    exact ⟨A0, n0, c0, A1, n1, c1, z2, z3, rfl, b0, b1⟩
theorem open_v {fuel : Nat} {cs : List Value} {x : DataW H × List MemPlace} (h : DataW.trod enc Tryz.prog W 0 sp true fuel 40 cs = some x) : ∃ (z0 : Int) (z1 : Bool) (z2 : Int) (z3 : Int), cs = [.int .i64 z0, .bool z1, .int .i64 z2, .int .i64 z3] := by
  have hl := lenOfStruct Tryz.underlying40 h
  rw [cS40] at hl
  obtain ⟨k0, y0, u0⟩ := fieldOf Tryz.underlying40 h 0 2 0 rfl
  obtain ⟨k1, y1, u1⟩ := fieldOf Tryz.underlying40 h 1 4 1 rfl
  obtain ⟨k2, y2, u2⟩ := fieldOf Tryz.underlying40 h 2 2 2 rfl
  obtain ⟨k3, y3, u3⟩ := fieldOf Tryz.underlying40 h 3 2 3 rfl
  match cs, hl with
  | [v0, v1, v2, v3], _ =>
    simp only [cS2, cS4, List.drop, List.take] at u0
    obtain ⟨z0, e0, _⟩ := DataW.trod_int Tryz.underlying2 u0
    simp only [List.cons.injEq, and_true] at e0
    subst e0
    simp only [cS2, cS4, List.drop, List.take] at u1
    obtain ⟨z1, e1, _⟩ := DataW.trod_bool Tryz.underlying4 u1
    simp only [List.cons.injEq, and_true] at e1
    subst e1
    simp only [cS2, cS4, List.drop, List.take] at u2
    obtain ⟨z2, e2, _⟩ := DataW.trod_int Tryz.underlying2 u2
    simp only [List.cons.injEq, and_true] at e2
    subst e2
    simp only [cS2, cS4, List.drop, List.take] at u3
    obtain ⟨z3, e3, _⟩ := DataW.trod_int Tryz.underlying2 u3
    simp only [List.cons.injEq, and_true] at e3
    subst e3
    exact ⟨z0, z1, z2, z3, rfl⟩
theorem open_f {fuel : Nat} {cs : List Value} {x : DataW H × List MemPlace} (h : DataW.trod enc Tryz.prog W 0 sp true fuel 43 cs = some x) : ∃ (z0 : Int) (z1 : Int) (z2 : Int) (z3 : Int) (z4 : Int) (z5 : Int) (z6 : Int) (z7 : Int) (z8 : Int) (A9 : Option Addr) (n9 c9 : Nat) (A10 : Option Addr) (n10 c10 : Nat) (A11 : Option Addr) (os : List OptV) (c11 : Nat), cs = [.int .i64 z0, .int .i64 z1, .int .i64 z2, .int .i64 z3, .int .i64 z4, .int .i64 z5, .int .i64 z6, .int .i64 z7, .int .i64 z8, .slice A9 n9 c9, .slice A10 n10 c10, .slice A11 os.length c11] ∧ BB W (.slice A9 n9 c9) n9 ∧ BB W (.slice A10 n10 c10) n10 ∧ OptSl W A11 os := by
  have hl := lenOfStruct Tryz.underlying43 h
  rw [cS43] at hl
  obtain ⟨k0, y0, u0⟩ := fieldOf Tryz.underlying43 h 0 2 0 rfl
  obtain ⟨k1, y1, u1⟩ := fieldOf Tryz.underlying43 h 1 2 1 rfl
  obtain ⟨k2, y2, u2⟩ := fieldOf Tryz.underlying43 h 2 2 2 rfl
  obtain ⟨k3, y3, u3⟩ := fieldOf Tryz.underlying43 h 3 2 3 rfl
  obtain ⟨k4, y4, u4⟩ := fieldOf Tryz.underlying43 h 4 2 4 rfl
  obtain ⟨k5, y5, u5⟩ := fieldOf Tryz.underlying43 h 5 2 5 rfl
  obtain ⟨k6, y6, u6⟩ := fieldOf Tryz.underlying43 h 6 2 6 rfl
  obtain ⟨k7, y7, u7⟩ := fieldOf Tryz.underlying43 h 7 2 7 rfl
  obtain ⟨k8, y8, u8⟩ := fieldOf Tryz.underlying43 h 8 2 8 rfl
  obtain ⟨k9, y9, u9⟩ := fieldOf Tryz.underlying43 h 9 22 9 rfl
  obtain ⟨k10, y10, u10⟩ := fieldOf Tryz.underlying43 h 10 22 10 rfl
  obtain ⟨k11, y11, u11⟩ := fieldOf Tryz.underlying43 h 11 41 11 rfl
  match cs, hl with
  | [v0, v1, v2, v3, v4, v5, v6, v7, v8, v9, v10, v11], _ =>
    simp only [cS2, cS22, cS41, List.drop, List.take] at u0
    obtain ⟨z0, e0, _⟩ := DataW.trod_int Tryz.underlying2 u0
    simp only [List.cons.injEq, and_true] at e0
    subst e0
    simp only [cS2, cS22, cS41, List.drop, List.take] at u1
    obtain ⟨z1, e1, _⟩ := DataW.trod_int Tryz.underlying2 u1
    simp only [List.cons.injEq, and_true] at e1
    subst e1
    simp only [cS2, cS22, cS41, List.drop, List.take] at u2
    obtain ⟨z2, e2, _⟩ := DataW.trod_int Tryz.underlying2 u2
    simp only [List.cons.injEq, and_true] at e2
    subst e2
    simp only [cS2, cS22, cS41, List.drop, List.take] at u3
    obtain ⟨z3, e3, _⟩ := DataW.trod_int Tryz.underlying2 u3
    simp only [List.cons.injEq, and_true] at e3
    subst e3
    simp only [cS2, cS22, cS41, List.drop, List.take] at u4
    obtain ⟨z4, e4, _⟩ := DataW.trod_int Tryz.underlying2 u4
    simp only [List.cons.injEq, and_true] at e4
    subst e4
    simp only [cS2, cS22, cS41, List.drop, List.take] at u5
    obtain ⟨z5, e5, _⟩ := DataW.trod_int Tryz.underlying2 u5
    simp only [List.cons.injEq, and_true] at e5
    subst e5
    simp only [cS2, cS22, cS41, List.drop, List.take] at u6
    obtain ⟨z6, e6, _⟩ := DataW.trod_int Tryz.underlying2 u6
    simp only [List.cons.injEq, and_true] at e6
    subst e6
    simp only [cS2, cS22, cS41, List.drop, List.take] at u7
    obtain ⟨z7, e7, _⟩ := DataW.trod_int Tryz.underlying2 u7
    simp only [List.cons.injEq, and_true] at e7
    subst e7
    simp only [cS2, cS22, cS41, List.drop, List.take] at u8
    obtain ⟨z8, e8, _⟩ := DataW.trod_int Tryz.underlying2 u8
    simp only [List.cons.injEq, and_true] at e8
    subst e8
    simp only [cS2, cS22, cS41, List.drop, List.take] at u9
    obtain ⟨A9, n9, c9, e9, b9⟩ := open_bytes u9
    simp only [List.cons.injEq, and_true] at e9
    subst e9
    simp only [cS2, cS22, cS41, List.drop, List.take] at u10
    obtain ⟨A10, n10, c10, e10, b10⟩ := open_bytes u10
    simp only [List.cons.injEq, and_true] at e10
    subst e10
    simp only [cS2, cS22, cS41, List.drop, List.take] at u11
    obtain ⟨A11, os, c11, e11, b11⟩ := open_options u11
    simp only [List.cons.injEq, and_true] at e11
    subst e11
    exact ⟨z0, z1, z2, z3, z4, z5, z6, z7, z8, A9, n9, c9, A10, n10, c10, A11, os, c11, rfl, b9, b10, b11⟩
theorem open_y {fuel : Nat} {cs : List Value} {x : DataW H × List MemPlace} (h : DataW.trod enc Tryz.prog W 0 sp true fuel 45 cs = some x) : ∃ (z0 : Int) (z1 : Int) (z2 : Int) (z3 : Int) (z4 : Int) (A5 : Option Addr) (n5 c5 : Nat) (A6 : Option Addr) (n6 c6 : Nat), cs = [.int .i64 z0, .int .i64 z1, .int .i64 z2, .int .i64 z3, .int .i64 z4, .slice A5 n5 c5, .slice A6 n6 c6] ∧ BB W (.slice A5 n5 c5) n5 ∧ BB W (.slice A6 n6 c6) n6 := by
  have hl := lenOfStruct Tryz.underlying45 h
  rw [cS45] at hl
  obtain ⟨k0, y0, u0⟩ := fieldOf Tryz.underlying45 h 0 2 0 rfl
  obtain ⟨k1, y1, u1⟩ := fieldOf Tryz.underlying45 h 1 2 1 rfl
  obtain ⟨k2, y2, u2⟩ := fieldOf Tryz.underlying45 h 2 2 2 rfl
  obtain ⟨k3, y3, u3⟩ := fieldOf Tryz.underlying45 h 3 2 3 rfl
  obtain ⟨k4, y4, u4⟩ := fieldOf Tryz.underlying45 h 4 2 4 rfl
  obtain ⟨k5, y5, u5⟩ := fieldOf Tryz.underlying45 h 5 22 5 rfl
  obtain ⟨k6, y6, u6⟩ := fieldOf Tryz.underlying45 h 6 22 6 rfl
  match cs, hl with
  | [v0, v1, v2, v3, v4, v5, v6], _ =>
    simp only [cS2, cS22, List.drop, List.take] at u0
    obtain ⟨z0, e0, _⟩ := DataW.trod_int Tryz.underlying2 u0
    simp only [List.cons.injEq, and_true] at e0
    subst e0
    simp only [cS2, cS22, List.drop, List.take] at u1
    obtain ⟨z1, e1, _⟩ := DataW.trod_int Tryz.underlying2 u1
    simp only [List.cons.injEq, and_true] at e1
    subst e1
    simp only [cS2, cS22, List.drop, List.take] at u2
    obtain ⟨z2, e2, _⟩ := DataW.trod_int Tryz.underlying2 u2
    simp only [List.cons.injEq, and_true] at e2
    subst e2
    simp only [cS2, cS22, List.drop, List.take] at u3
    obtain ⟨z3, e3, _⟩ := DataW.trod_int Tryz.underlying2 u3
    simp only [List.cons.injEq, and_true] at e3
    subst e3
    simp only [cS2, cS22, List.drop, List.take] at u4
    obtain ⟨z4, e4, _⟩ := DataW.trod_int Tryz.underlying2 u4
    simp only [List.cons.injEq, and_true] at e4
    subst e4
    simp only [cS2, cS22, List.drop, List.take] at u5
    obtain ⟨A5, n5, c5, e5, b5⟩ := open_bytes u5
    simp only [List.cons.injEq, and_true] at e5
    subst e5
    simp only [cS2, cS22, List.drop, List.take] at u6
    obtain ⟨A6, n6, c6, e6, b6⟩ := open_bytes u6
    simp only [List.cons.injEq, and_true] at e6
    subst e6
    exact ⟨z0, z1, z2, z3, z4, A5, n5, c5, A6, n6, c6, rfl, b5, b6⟩
theorem open_t {fuel : Nat} {cs : List Value} {x : DataW H × List MemPlace} (h : DataW.trod enc Tryz.prog W 0 sp true fuel 47 cs = some x) : ∃ (z0 : Int) (z1 : Int) (z2 : Int) (z3 : Int) (z4 : Int) (z5 : Int) (z6 : Int) (z7 : Int) (z8 : Int) (A9 : Option Addr) (os : List OptV) (c9 : Nat), cs = [.int .i64 z0, .int .i64 z1, .int .i64 z2, .int .i64 z3, .int .i64 z4, .int .i64 z5, .int .i64 z6, .int .i64 z7, .int .i64 z8, .slice A9 os.length c9] ∧ OptSl W A9 os := by
  have hl := lenOfStruct Tryz.underlying47 h
  rw [cS47] at hl
  obtain ⟨k0, y0, u0⟩ := fieldOf Tryz.underlying47 h 0 2 0 rfl
  obtain ⟨k1, y1, u1⟩ := fieldOf Tryz.underlying47 h 1 2 1 rfl
  obtain ⟨k2, y2, u2⟩ := fieldOf Tryz.underlying47 h 2 2 2 rfl
  obtain ⟨k3, y3, u3⟩ := fieldOf Tryz.underlying47 h 3 2 3 rfl
  obtain ⟨k4, y4, u4⟩ := fieldOf Tryz.underlying47 h 4 2 4 rfl
  obtain ⟨k5, y5, u5⟩ := fieldOf Tryz.underlying47 h 5 2 5 rfl
  obtain ⟨k6, y6, u6⟩ := fieldOf Tryz.underlying47 h 6 2 6 rfl
  obtain ⟨k7, y7, u7⟩ := fieldOf Tryz.underlying47 h 7 2 7 rfl
  obtain ⟨k8, y8, u8⟩ := fieldOf Tryz.underlying47 h 8 2 8 rfl
  obtain ⟨k9, y9, u9⟩ := fieldOf Tryz.underlying47 h 9 41 9 rfl
  match cs, hl with
  | [v0, v1, v2, v3, v4, v5, v6, v7, v8, v9], _ =>
    simp only [cS2, cS41, List.drop, List.take] at u0
    obtain ⟨z0, e0, _⟩ := DataW.trod_int Tryz.underlying2 u0
    simp only [List.cons.injEq, and_true] at e0
    subst e0
    simp only [cS2, cS41, List.drop, List.take] at u1
    obtain ⟨z1, e1, _⟩ := DataW.trod_int Tryz.underlying2 u1
    simp only [List.cons.injEq, and_true] at e1
    subst e1
    simp only [cS2, cS41, List.drop, List.take] at u2
    obtain ⟨z2, e2, _⟩ := DataW.trod_int Tryz.underlying2 u2
    simp only [List.cons.injEq, and_true] at e2
    subst e2
    simp only [cS2, cS41, List.drop, List.take] at u3
    obtain ⟨z3, e3, _⟩ := DataW.trod_int Tryz.underlying2 u3
    simp only [List.cons.injEq, and_true] at e3
    subst e3
    simp only [cS2, cS41, List.drop, List.take] at u4
    obtain ⟨z4, e4, _⟩ := DataW.trod_int Tryz.underlying2 u4
    simp only [List.cons.injEq, and_true] at e4
    subst e4
    simp only [cS2, cS41, List.drop, List.take] at u5
    obtain ⟨z5, e5, _⟩ := DataW.trod_int Tryz.underlying2 u5
    simp only [List.cons.injEq, and_true] at e5
    subst e5
    simp only [cS2, cS41, List.drop, List.take] at u6
    obtain ⟨z6, e6, _⟩ := DataW.trod_int Tryz.underlying2 u6
    simp only [List.cons.injEq, and_true] at e6
    subst e6
    simp only [cS2, cS41, List.drop, List.take] at u7
    obtain ⟨z7, e7, _⟩ := DataW.trod_int Tryz.underlying2 u7
    simp only [List.cons.injEq, and_true] at e7
    subst e7
    simp only [cS2, cS41, List.drop, List.take] at u8
    obtain ⟨z8, e8, _⟩ := DataW.trod_int Tryz.underlying2 u8
    simp only [List.cons.injEq, and_true] at e8
    subst e8
    simp only [cS2, cS41, List.drop, List.take] at u9
    obtain ⟨A9, os, c9, e9, b9⟩ := open_options u9
    simp only [List.cons.injEq, and_true] at e9
    subst e9
    exact ⟨z0, z1, z2, z3, z4, z5, z6, z7, z8, A9, os, c9, rfl, b9⟩
theorem open_u {fuel : Nat} {cs : List Value} {x : DataW H × List MemPlace} (h : DataW.trod enc Tryz.prog W 0 sp true fuel 49 cs = some x) : ∃ (z0 : Int) (z1 : Int) (z2 : Int) (z3 : Int), cs = [.int .i64 z0, .int .i64 z1, .int .i64 z2, .int .i64 z3] := by
  have hl := lenOfStruct Tryz.underlying49 h
  rw [cS49] at hl
  obtain ⟨k0, y0, u0⟩ := fieldOf Tryz.underlying49 h 0 2 0 rfl
  obtain ⟨k1, y1, u1⟩ := fieldOf Tryz.underlying49 h 1 2 1 rfl
  obtain ⟨k2, y2, u2⟩ := fieldOf Tryz.underlying49 h 2 2 2 rfl
  obtain ⟨k3, y3, u3⟩ := fieldOf Tryz.underlying49 h 3 2 3 rfl
  match cs, hl with
  | [v0, v1, v2, v3], _ =>
    simp only [cS2, List.drop, List.take] at u0
    obtain ⟨z0, e0, _⟩ := DataW.trod_int Tryz.underlying2 u0
    simp only [List.cons.injEq, and_true] at e0
    subst e0
    simp only [cS2, List.drop, List.take] at u1
    obtain ⟨z1, e1, _⟩ := DataW.trod_int Tryz.underlying2 u1
    simp only [List.cons.injEq, and_true] at e1
    subst e1
    simp only [cS2, List.drop, List.take] at u2
    obtain ⟨z2, e2, _⟩ := DataW.trod_int Tryz.underlying2 u2
    simp only [List.cons.injEq, and_true] at e2
    subst e2
    simp only [cS2, List.drop, List.take] at u3
    obtain ⟨z3, e3, _⟩ := DataW.trod_int Tryz.underlying2 u3
    simp only [List.cons.injEq, and_true] at e3
    subst e3
    exact ⟨z0, z1, z2, z3, rfl⟩
theorem open_h {fuel : Nat} {cs : List Value} {x : DataW H × List MemPlace} (h : DataW.trod enc Tryz.prog W 0 sp true fuel 51 cs = some x) : ∃ (z0 : Int) (z1 : Int) (z2 : Int) (z3 : Int) (z4 : Int), cs = [.int .i64 z0, .int .i64 z1, .int .i64 z2, .int .i64 z3, .int .i64 z4] := by
  have hl := lenOfStruct Tryz.underlying51 h
  rw [cS51] at hl
  obtain ⟨k0, y0, u0⟩ := fieldOf Tryz.underlying51 h 0 2 0 rfl
  obtain ⟨k1, y1, u1⟩ := fieldOf Tryz.underlying51 h 1 2 1 rfl
  obtain ⟨k2, y2, u2⟩ := fieldOf Tryz.underlying51 h 2 2 2 rfl
  obtain ⟨k3, y3, u3⟩ := fieldOf Tryz.underlying51 h 3 2 3 rfl
  obtain ⟨k4, y4, u4⟩ := fieldOf Tryz.underlying51 h 4 2 4 rfl
  match cs, hl with
  | [v0, v1, v2, v3, v4], _ =>
    simp only [cS2, List.drop, List.take] at u0
    obtain ⟨z0, e0, _⟩ := DataW.trod_int Tryz.underlying2 u0
    simp only [List.cons.injEq, and_true] at e0
    subst e0
    simp only [cS2, List.drop, List.take] at u1
    obtain ⟨z1, e1, _⟩ := DataW.trod_int Tryz.underlying2 u1
    simp only [List.cons.injEq, and_true] at e1
    subst e1
    simp only [cS2, List.drop, List.take] at u2
    obtain ⟨z2, e2, _⟩ := DataW.trod_int Tryz.underlying2 u2
    simp only [List.cons.injEq, and_true] at e2
    subst e2
    simp only [cS2, List.drop, List.take] at u3
    obtain ⟨z3, e3, _⟩ := DataW.trod_int Tryz.underlying2 u3
    simp only [List.cons.injEq, and_true] at e3
    subst e3
    simp only [cS2, List.drop, List.take] at u4
    obtain ⟨z4, e4, _⟩ := DataW.trod_int Tryz.underlying2 u4
    simp only [List.cons.injEq, and_true] at e4
    subst e4
    exact ⟨z0, z1, z2, z3, z4, rfl⟩
theorem open_g {fuel : Nat} {cs : List Value} {x : DataW H × List MemPlace} (h : DataW.trod enc Tryz.prog W 0 sp true fuel 53 cs = some x) : ∃ (z0 : Int) (z1 : Int) (z2 : Bool) (z3 : Bool) (z4 : Bool) (z5 : Bool) (z6 : Int) (z7 : Int) (z8 : Int) (z9 : Int), cs = [.int .i64 z0, .int .i64 z1, .bool z2, .bool z3, .bool z4, .bool z5, .int .i64 z6, .int .i64 z7, .int .i64 z8, .int .i64 z9] := by
  have hl := lenOfStruct Tryz.underlying53 h
  rw [cS53] at hl
  obtain ⟨k0, y0, u0⟩ := fieldOf Tryz.underlying53 h 0 2 0 rfl
  obtain ⟨k1, y1, u1⟩ := fieldOf Tryz.underlying53 h 1 2 1 rfl
  obtain ⟨k2, y2, u2⟩ := fieldOf Tryz.underlying53 h 2 4 2 rfl
  obtain ⟨k3, y3, u3⟩ := fieldOf Tryz.underlying53 h 3 4 3 rfl
  obtain ⟨k4, y4, u4⟩ := fieldOf Tryz.underlying53 h 4 4 4 rfl
  obtain ⟨k5, y5, u5⟩ := fieldOf Tryz.underlying53 h 5 4 5 rfl
  obtain ⟨k6, y6, u6⟩ := fieldOf Tryz.underlying53 h 6 2 6 rfl
  obtain ⟨k7, y7, u7⟩ := fieldOf Tryz.underlying53 h 7 2 7 rfl
  obtain ⟨k8, y8, u8⟩ := fieldOf Tryz.underlying53 h 8 2 8 rfl
  obtain ⟨k9, y9, u9⟩ := fieldOf Tryz.underlying53 h 9 2 9 rfl
  match cs, hl with
  | [v0, v1, v2, v3, v4, v5, v6, v7, v8, v9], _ =>
    simp only [cS2, cS4, List.drop, List.take] at u0
    obtain ⟨z0, e0, _⟩ := DataW.trod_int Tryz.underlying2 u0
    simp only [List.cons.injEq, and_true] at e0
    subst e0
    simp only [cS2, cS4, List.drop, List.take] at u1
    obtain ⟨z1, e1, _⟩ := DataW.trod_int Tryz.underlying2 u1
    simp only [List.cons.injEq, and_true] at e1
    subst e1
    simp only [cS2, cS4, List.drop, List.take] at u2
    obtain ⟨z2, e2, _⟩ := DataW.trod_bool Tryz.underlying4 u2
    simp only [List.cons.injEq, and_true] at e2
    subst e2
    simp only [cS2, cS4, List.drop, List.take] at u3
    obtain ⟨z3, e3, _⟩ := DataW.trod_bool Tryz.underlying4 u3
    simp only [List.cons.injEq, and_true] at e3
    subst e3
    simp only [cS2, cS4, List.drop, List.take] at u4
    obtain ⟨z4, e4, _⟩ := DataW.trod_bool Tryz.underlying4 u4
    simp only [List.cons.injEq, and_true] at e4
    subst e4
    simp only [cS2, cS4, List.drop, List.take] at u5
    obtain ⟨z5, e5, _⟩ := DataW.trod_bool Tryz.underlying4 u5
    simp only [List.cons.injEq, and_true] at e5
    subst e5
    simp only [cS2, cS4, List.drop, List.take] at u6
    obtain ⟨z6, e6, _⟩ := DataW.trod_int Tryz.underlying2 u6
    simp only [List.cons.injEq, and_true] at e6
    subst e6
    simp only [cS2, cS4, List.drop, List.take] at u7
    obtain ⟨z7, e7, _⟩ := DataW.trod_int Tryz.underlying2 u7
    simp only [List.cons.injEq, and_true] at e7
    subst e7
    simp only [cS2, cS4, List.drop, List.take] at u8
    obtain ⟨z8, e8, _⟩ := DataW.trod_int Tryz.underlying2 u8
    simp only [List.cons.injEq, and_true] at e8
    subst e8
    simp only [cS2, cS4, List.drop, List.take] at u9
    obtain ⟨z9, e9, _⟩ := DataW.trod_int Tryz.underlying2 u9
    simp only [List.cons.injEq, and_true] at e9
    subst e9
    exact ⟨z0, z1, z2, z3, z4, z5, z6, z7, z8, z9, rfl⟩
theorem open_x {fuel : Nat} {cs : List Value} {x : DataW H × List MemPlace} (h : DataW.trod enc Tryz.prog W 0 sp true fuel 55 cs = some x) : ∃ (z0 : Bool) (z1 : Int) (z2 : Bool) (z3 : Bool) (z4 : Bool) (z5 : Int), cs = [.bool z0, .int .i64 z1, .bool z2, .bool z3, .bool z4, .int .i64 z5] := by
  have hl := lenOfStruct Tryz.underlying55 h
  rw [cS55] at hl
  obtain ⟨k0, y0, u0⟩ := fieldOf Tryz.underlying55 h 0 4 0 rfl
  obtain ⟨k1, y1, u1⟩ := fieldOf Tryz.underlying55 h 1 2 1 rfl
  obtain ⟨k2, y2, u2⟩ := fieldOf Tryz.underlying55 h 2 4 2 rfl
  obtain ⟨k3, y3, u3⟩ := fieldOf Tryz.underlying55 h 3 4 3 rfl
  obtain ⟨k4, y4, u4⟩ := fieldOf Tryz.underlying55 h 4 4 4 rfl
  obtain ⟨k5, y5, u5⟩ := fieldOf Tryz.underlying55 h 5 2 5 rfl
  match cs, hl with
  | [v0, v1, v2, v3, v4, v5], _ =>
    simp only [cS2, cS4, List.drop, List.take] at u0
    obtain ⟨z0, e0, _⟩ := DataW.trod_bool Tryz.underlying4 u0
    simp only [List.cons.injEq, and_true] at e0
    subst e0
    simp only [cS2, cS4, List.drop, List.take] at u1
    obtain ⟨z1, e1, _⟩ := DataW.trod_int Tryz.underlying2 u1
    simp only [List.cons.injEq, and_true] at e1
    subst e1
    simp only [cS2, cS4, List.drop, List.take] at u2
    obtain ⟨z2, e2, _⟩ := DataW.trod_bool Tryz.underlying4 u2
    simp only [List.cons.injEq, and_true] at e2
    subst e2
    simp only [cS2, cS4, List.drop, List.take] at u3
    obtain ⟨z3, e3, _⟩ := DataW.trod_bool Tryz.underlying4 u3
    simp only [List.cons.injEq, and_true] at e3
    subst e3
    simp only [cS2, cS4, List.drop, List.take] at u4
    obtain ⟨z4, e4, _⟩ := DataW.trod_bool Tryz.underlying4 u4
    simp only [List.cons.injEq, and_true] at e4
    subst e4
    simp only [cS2, cS4, List.drop, List.take] at u5
    obtain ⟨z5, e5, _⟩ := DataW.trod_int Tryz.underlying2 u5
    simp only [List.cons.injEq, and_true] at e5
    subst e5
    exact ⟨z0, z1, z2, z3, z4, z5, rfl⟩
theorem open_r {fuel : Nat} {cs : List Value} {x : DataW H × List MemPlace} (h : DataW.trod enc Tryz.prog W 0 sp true fuel 57 cs = some x) : ∃ (z0 : Int) (z1 : Int) (z2 : Int) (A3 : Option Addr) (n3 c3 : Nat) (A4 : Option Addr) (n4 c4 : Nat) (A5 : Option Addr) (n5 c5 : Nat) (A6 : Option Addr) (n6 c6 : Nat), cs = [.int .i64 z0, .int .i64 z1, .int .i64 z2, .slice A3 n3 c3, .slice A4 n4 c4, .slice A5 n5 c5, .slice A6 n6 c6] ∧ BB W (.slice A3 n3 c3) n3 ∧ BB W (.slice A4 n4 c4) n4 ∧ BB W (.slice A5 n5 c5) n5 ∧ BB W (.slice A6 n6 c6) n6 := by
  have hl := lenOfStruct Tryz.underlying57 h
  rw [cS57] at hl
  obtain ⟨k0, y0, u0⟩ := fieldOf Tryz.underlying57 h 0 2 0 rfl
  obtain ⟨k1, y1, u1⟩ := fieldOf Tryz.underlying57 h 1 2 1 rfl
  obtain ⟨k2, y2, u2⟩ := fieldOf Tryz.underlying57 h 2 2 2 rfl
  obtain ⟨k3, y3, u3⟩ := fieldOf Tryz.underlying57 h 3 22 3 rfl
  obtain ⟨k4, y4, u4⟩ := fieldOf Tryz.underlying57 h 4 22 4 rfl
  obtain ⟨k5, y5, u5⟩ := fieldOf Tryz.underlying57 h 5 22 5 rfl
  obtain ⟨k6, y6, u6⟩ := fieldOf Tryz.underlying57 h 6 22 6 rfl
  match cs, hl with
  | [v0, v1, v2, v3, v4, v5, v6], _ =>
    simp only [cS2, cS22, List.drop, List.take] at u0
    obtain ⟨z0, e0, _⟩ := DataW.trod_int Tryz.underlying2 u0
    simp only [List.cons.injEq, and_true] at e0
    subst e0
    simp only [cS2, cS22, List.drop, List.take] at u1
    obtain ⟨z1, e1, _⟩ := DataW.trod_int Tryz.underlying2 u1
    simp only [List.cons.injEq, and_true] at e1
    subst e1
    simp only [cS2, cS22, List.drop, List.take] at u2
    obtain ⟨z2, e2, _⟩ := DataW.trod_int Tryz.underlying2 u2
    simp only [List.cons.injEq, and_true] at e2
    subst e2
    simp only [cS2, cS22, List.drop, List.take] at u3
    obtain ⟨A3, n3, c3, e3, b3⟩ := open_bytes u3
    simp only [List.cons.injEq, and_true] at e3
    subst e3
    simp only [cS2, cS22, List.drop, List.take] at u4
    obtain ⟨A4, n4, c4, e4, b4⟩ := open_bytes u4
    simp only [List.cons.injEq, and_true] at e4
    subst e4
    simp only [cS2, cS22, List.drop, List.take] at u5
    obtain ⟨A5, n5, c5, e5, b5⟩ := open_bytes u5
    simp only [List.cons.injEq, and_true] at e5
    subst e5
    simp only [cS2, cS22, List.drop, List.take] at u6
    obtain ⟨A6, n6, c6, e6, b6⟩ := open_bytes u6
    simp only [List.cons.injEq, and_true] at e6
    subst e6
    exact ⟨z0, z1, z2, A3, n3, c3, A4, n4, c4, A5, n5, c5, A6, n6, c6, rfl, b3, b4, b5, b6⟩
theorem cutTo {α : Type} (l p : List α) (a b c : Nat) (h : (l.drop a).take b = p) (hc : a + b = c) : l.drop a = p ++ l.drop c := by
  subst h; subst hc
  rw [← List.drop_drop]
  exact (List.take_append_drop b (l.drop a)).symm
set_option maxHeartbeats 1000000 in
theorem open_piece {fuel : Nat} {cs : List Value} {x : DataW H × List MemPlace} (h : DataW.trod enc Tryz.prog W 0 sp true fuel 59 cs = some x) : ∃ p : Pc, cs = p.cs ∧ PcIn W p := by
  have hl := lenOfStruct Tryz.underlying59 h
  rw [cS59] at hl
  obtain ⟨kk, yk, uk⟩ := fieldOf Tryz.underlying59 h 0 2 0 rfl
  obtain ⟨ke, ye, ue⟩ := fieldOf Tryz.underlying59 h 1 38 1 rfl
  obtain ⟨kv, yv, uv⟩ := fieldOf Tryz.underlying59 h 2 40 5 rfl
  obtain ⟨kf, yf, uf⟩ := fieldOf Tryz.underlying59 h 3 43 9 rfl
  obtain ⟨ky, yy, uy⟩ := fieldOf Tryz.underlying59 h 4 45 21 rfl
  obtain ⟨kt, yt, ut⟩ := fieldOf Tryz.underlying59 h 5 47 28 rfl
  obtain ⟨ku, yu, uu⟩ := fieldOf Tryz.underlying59 h 6 49 38 rfl
  obtain ⟨kh, yh, uh⟩ := fieldOf Tryz.underlying59 h 7 51 42 rfl
  obtain ⟨kg, yg, ug⟩ := fieldOf Tryz.underlying59 h 8 53 47 rfl
  obtain ⟨kx, yx, ux⟩ := fieldOf Tryz.underlying59 h 9 55 57 rfl
  obtain ⟨kr, yr, ur⟩ := fieldOf Tryz.underlying59 h 10 57 63 rfl
  obtain ⟨k, qk, _⟩ := DataW.trod_int Tryz.underlying2 uk
  obtain ⟨eA0, en0, ec0, eA1, en1, ec1, ez2, ez3, qe, eH0, eH1⟩ := open_e ue
  obtain ⟨vz0, vz1, vz2, vz3, qv⟩ := open_v uv
  obtain ⟨fz0, fz1, fz2, fz3, fz4, fz5, fz6, fz7, fz8, fA9, fn9, fc9, fA10, fn10, fc10, fA11, fos, fc11, qf, fH9, fH10, fH11⟩ := open_f uf
  obtain ⟨yz0, yz1, yz2, yz3, yz4, yA5, yn5, yc5, yA6, yn6, yc6, qy, yH5, yH6⟩ := open_y uy
  obtain ⟨tz0, tz1, tz2, tz3, tz4, tz5, tz6, tz7, tz8, tA9, tos, tc9, qt, tH9⟩ := open_t ut
  obtain ⟨uz0, uz1, uz2, uz3, qu⟩ := open_u uu
  obtain ⟨hz0, hz1, hz2, hz3, hz4, qh⟩ := open_h uh
  obtain ⟨gz0, gz1, gz2, gz3, gz4, gz5, gz6, gz7, gz8, gz9, qg⟩ := open_g ug
  obtain ⟨xz0, xz1, xz2, xz3, xz4, xz5, qx⟩ := open_x ux
  obtain ⟨rz0, rz1, rz2, rA3, rn3, rc3, rA4, rn4, rc4, rA5, rn5, rc5, rA6, rn6, rc6, qr, rH3, rH4, rH5, rH6⟩ := open_r ur
  have dk := cutTo cs [.int .i64 k] 0 1 1 (by have := qk; rw [cS2] at this; exact this) rfl
  have de := cutTo cs [.slice eA0 en0 ec0, .slice eA1 en1 ec1, .int .i64 ez2, .int .i64 ez3] 1 4 5 (by have := qe; rw [cS38] at this; exact this) rfl
  have dv := cutTo cs [.int .i64 vz0, .bool vz1, .int .i64 vz2, .int .i64 vz3] 5 4 9 (by have := qv; rw [cS40] at this; exact this) rfl
  have df := cutTo cs [.int .i64 fz0, .int .i64 fz1, .int .i64 fz2, .int .i64 fz3, .int .i64 fz4, .int .i64 fz5, .int .i64 fz6, .int .i64 fz7, .int .i64 fz8, .slice fA9 fn9 fc9, .slice fA10 fn10 fc10, .slice fA11 fos.length fc11] 9 12 21 (by have := qf; rw [cS43] at this; exact this) rfl
  have dy := cutTo cs [.int .i64 yz0, .int .i64 yz1, .int .i64 yz2, .int .i64 yz3, .int .i64 yz4, .slice yA5 yn5 yc5, .slice yA6 yn6 yc6] 21 7 28 (by have := qy; rw [cS45] at this; exact this) rfl
  have dt := cutTo cs [.int .i64 tz0, .int .i64 tz1, .int .i64 tz2, .int .i64 tz3, .int .i64 tz4, .int .i64 tz5, .int .i64 tz6, .int .i64 tz7, .int .i64 tz8, .slice tA9 tos.length tc9] 28 10 38 (by have := qt; rw [cS47] at this; exact this) rfl
  have du := cutTo cs [.int .i64 uz0, .int .i64 uz1, .int .i64 uz2, .int .i64 uz3] 38 4 42 (by have := qu; rw [cS49] at this; exact this) rfl
  have dh := cutTo cs [.int .i64 hz0, .int .i64 hz1, .int .i64 hz2, .int .i64 hz3, .int .i64 hz4] 42 5 47 (by have := qh; rw [cS51] at this; exact this) rfl
  have dg := cutTo cs [.int .i64 gz0, .int .i64 gz1, .bool gz2, .bool gz3, .bool gz4, .bool gz5, .int .i64 gz6, .int .i64 gz7, .int .i64 gz8, .int .i64 gz9] 47 10 57 (by have := qg; rw [cS53] at this; exact this) rfl
  have dx := cutTo cs [.bool xz0, .int .i64 xz1, .bool xz2, .bool xz3, .bool xz4, .int .i64 xz5] 57 6 63 (by have := qx; rw [cS55] at this; exact this) rfl
  have dr := cutTo cs [.int .i64 rz0, .int .i64 rz1, .int .i64 rz2, .slice rA3 rn3 rc3, .slice rA4 rn4 rc4, .slice rA5 rn5 rc5, .slice rA6 rn6 rc6] 63 7 70 (by have := qr; rw [cS57] at this; exact this) rfl
  have dz : cs.drop 70 = [] := List.drop_eq_nil_of_le (by omega)
  refine ⟨⟨k, [.slice eA0 en0 ec0, .slice eA1 en1 ec1, .int .i64 ez2, .int .i64 ez3], [.int .i64 vz0, .bool vz1, .int .i64 vz2, .int .i64 vz3], [.int .i64 fz0, .int .i64 fz1, .int .i64 fz2, .int .i64 fz3, .int .i64 fz4, .int .i64 fz5, .int .i64 fz6, .int .i64 fz7, .int .i64 fz8, .slice fA9 fn9 fc9, .slice fA10 fn10 fc10, .slice fA11 fos.length fc11], [.int .i64 yz0, .int .i64 yz1, .int .i64 yz2, .int .i64 yz3, .int .i64 yz4, .slice yA5 yn5 yc5, .slice yA6 yn6 yc6], [.int .i64 tz0, .int .i64 tz1, .int .i64 tz2, .int .i64 tz3, .int .i64 tz4, .int .i64 tz5, .int .i64 tz6, .int .i64 tz7, .int .i64 tz8, .slice tA9 tos.length tc9], [.int .i64 uz0, .int .i64 uz1, .int .i64 uz2, .int .i64 uz3], [.int .i64 hz0, .int .i64 hz1, .int .i64 hz2, .int .i64 hz3, .int .i64 hz4], [.int .i64 gz0, .int .i64 gz1, .bool gz2, .bool gz3, .bool gz4, .bool gz5, .int .i64 gz6, .int .i64 gz7, .int .i64 gz8, .int .i64 gz9], [.bool xz0, .int .i64 xz1, .bool xz2, .bool xz3, .bool xz4, .int .i64 xz5], [.int .i64 rz0, .int .i64 rz1, .int .i64 rz2, .slice rA3 rn3 rc3, .slice rA4 rn4 rc4, .slice rA5 rn5 rc5, .slice rA6 rn6 rc6], en0, en1, fn9, fn10, yn5, yn6, rn3, rn4, rn5, rn6, fos, tos⟩, ?_, ⟨⟨eA0, ec0, eA1, ec1, ez2, ez3, rfl, eH0, eH1⟩, ⟨vz0, vz1, vz2, vz3, rfl⟩, ⟨fz0, fz1, fz2, fz3, fz4, fz5, fz6, fz7, fz8, fA9, fc9, fA10, fc10, fA11, fc11, rfl, fH9, fH10, fH11⟩, ⟨yz0, yz1, yz2, yz3, yz4, yA5, yc5, yA6, yc6, rfl, yH5, yH6⟩, ⟨tz0, tz1, tz2, tz3, tz4, tz5, tz6, tz7, tz8, tA9, tc9, rfl, tH9⟩, ⟨uz0, uz1, uz2, uz3, rfl⟩, ⟨hz0, hz1, hz2, hz3, hz4, rfl⟩, ⟨gz0, gz1, gz2, gz3, gz4, gz5, gz6, gz7, gz8, gz9, rfl⟩, ⟨xz0, xz1, xz2, xz3, xz4, xz5, rfl⟩, ⟨rz0, rz1, rz2, rA3, rc3, rA4, rc4, rA5, rc5, rA6, rc6, rfl, rH3, rH4, rH5, rH6⟩⟩⟩
  show cs.drop 0 = _
  rw [dk, de, dv, df, dy, dt, du, dh, dg, dx, dr, dz, List.append_nil]
  rfl
theorem open_pieces {fuel : Nat} {cs : List Value} {x : DataW H × List MemPlace} (h : DataW.trod enc Tryz.prog W 0 sp true fuel 25 cs = some x) : ∃ (A : Option Addr) (ps : List Pc) (c : Nat), cs = [.slice A ps.length c] ∧ PcSl W A ps := by
  rcases open_slice Tryz.underlying25 h with ⟨rfl, _⟩ | ⟨a, len, cap, m, n, D, Pl, rfl, _, hl, hm, hmm, _, hx⟩
  · exact ⟨none, [], 0, rfl, .inl rfl⟩
  · have hlm : len ≤ m := by rw [hmm]; split <;> omega
    have each : ∀ i, i < len → ∃ q : Pc, (∀ j v, q.cs[j]? = some v → W.cell? (a.add (i * 70 + j)) = some v) ∧ PcIn W q := by
      intro i hi
      obtain ⟨cs', h1, h2⟩ := hx i (by omega)
      rw [cS59] at h1
      obtain ⟨_, hlen, hcell⟩ := World.cells?_some h1
      obtain ⟨q, rfl, hq⟩ := open_piece h2
      refine ⟨q, fun j v hv => ?_, hq⟩
      have hj : j < 70 := by
        have := (List.getElem?_eq_some_iff.1 hv).1
        omega
      have := hcell j hj
      rw [Deep.add_add, hv] at this
      exact this
    obtain ⟨q, hq⟩ := choose_lt each
    refine ⟨some a, (List.range len).map q, cap, by simp, ?_⟩
    by_cases h0 : len = 0
    · subst h0
      exact .inl (by simp)
    · obtain ⟨b, off, rfl, hlt⟩ := plainAt (by simpa using (hq 0 (by omega)).1 0 _ rfl)
      refine .inr ⟨b, off, rfl, hlt, fun i x hx => ?_⟩
      have hi : i < len := by
        have := (List.getElem?_eq_some_iff.1 hx).1
        simpa using this
      have he : x = q i := by simpa [hi] using hx.symm
      subst he
      obtain ⟨hc, hp⟩ := hq i hi
      refine ⟨fun j v hv => ?_, hp⟩
      have := hc j v hv
      rw [WideShapes.add_plain] at this
      rw [Nat.add_assoc]
      exact this
end
end Go.Proofs.YtecgkcofmphaiaaGreatDoor.Gpk
