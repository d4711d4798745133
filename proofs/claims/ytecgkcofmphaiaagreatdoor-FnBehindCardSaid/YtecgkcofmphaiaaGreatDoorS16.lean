/- Pieces: a header of any kind; how its cells lie. -/
import Derived.Test.YtecgkcofmphaiaaGreatDoorS15
import Derived.Deep.MidRow
set_option linter.unusedVariables false
set_option linter.unusedSimpArgs false
set_option linter.unnecessarySimpa false
set_option linter.unusedSectionVars false
namespace Go.Proofs.YtecgkcofmphaiaaGreatDoor.Gpk
open Go.RowKit
set_option linter.unusedVariables false
/-- The cells of a piece, part by part, and the sizes of what they lead to. -/
structure Pc where
  k : Int
  e : List Value
  v : List Value
  f : List Value
  y : List Value
  t : List Value
  u : List Value
  h : List Value
  g : List Value
  x : List Value
  r : List Value
  ne : Nat
  nf : Nat
  n4 : Nat
  m4 : Nat
  n6 : Nat
  m6 : Nat
  na : Nat
  nb : Nat
  nc : Nat
  nd : Nat
  o4 : List OptV
  ot : List OptV
def Pc.cs (p : Pc) : List Value := .int .i64 p.k :: (p.e ++ (p.v ++ (p.f ++ (p.y ++ (p.t ++ (p.u ++ (p.h ++ (p.g ++ (p.x ++ p.r)))))))))
/-- What a piece's cells are in a world. -/
structure PcIn (w : World) (p : Pc) : Prop where
  e : ∃ (eA0 : Option Addr) (ec0 : Nat) (eA1 : Option Addr) (ec1 : Nat) (e2 : Int) (e3 : Int), p.e = [.slice eA0 p.ne ec0, .slice eA1 p.nf ec1, .int .i64 e2, .int .i64 e3] ∧ BB w (.slice eA0 p.ne ec0) p.ne ∧ BB w (.slice eA1 p.nf ec1) p.nf
  v : ∃ (v0 : Int) (v1 : Bool) (v2 : Int) (v3 : Int), p.v = [.int .i64 v0, .bool v1, .int .i64 v2, .int .i64 v3]
  f : ∃ (f0 : Int) (f1 : Int) (f2 : Int) (f3 : Int) (f4 : Int) (f5 : Int) (f6 : Int) (f7 : Int) (f8 : Int) (fA9 : Option Addr) (fc9 : Nat) (fA10 : Option Addr) (fc10 : Nat) (fA11 : Option Addr) (fc11 : Nat), p.f = [.int .i64 f0, .int .i64 f1, .int .i64 f2, .int .i64 f3, .int .i64 f4, .int .i64 f5, .int .i64 f6, .int .i64 f7, .int .i64 f8, .slice fA9 p.n4 fc9, .slice fA10 p.m4 fc10, .slice fA11 p.o4.length fc11] ∧ BB w (.slice fA9 p.n4 fc9) p.n4 ∧ BB w (.slice fA10 p.m4 fc10) p.m4 ∧ OptSl w fA11 p.o4
  y : ∃ (y0 : Int) (y1 : Int) (y2 : Int) (y3 : Int) (y4 : Int) (yA5 : Option Addr) (yc5 : Nat) (yA6 : Option Addr) (yc6 : Nat), p.y = [.int .i64 y0, .int .i64 y1, .int .i64 y2, .int .i64 y3, .int .i64 y4, .slice yA5 p.n6 yc5, .slice yA6 p.m6 yc6] ∧ BB w (.slice yA5 p.n6 yc5) p.n6 ∧ BB w (.slice yA6 p.m6 yc6) p.m6
  t : ∃ (t0 : Int) (t1 : Int) (t2 : Int) (t3 : Int) (t4 : Int) (t5 : Int) (t6 : Int) (t7 : Int) (t8 : Int) (tA9 : Option Addr) (tc9 : Nat), p.t = [.int .i64 t0, .int .i64 t1, .int .i64 t2, .int .i64 t3, .int .i64 t4, .int .i64 t5, .int .i64 t6, .int .i64 t7, .int .i64 t8, .slice tA9 p.ot.length tc9] ∧ OptSl w tA9 p.ot
  u : ∃ (u0 : Int) (u1 : Int) (u2 : Int) (u3 : Int), p.u = [.int .i64 u0, .int .i64 u1, .int .i64 u2, .int .i64 u3]
  h : ∃ (h0 : Int) (h1 : Int) (h2 : Int) (h3 : Int) (h4 : Int), p.h = [.int .i64 h0, .int .i64 h1, .int .i64 h2, .int .i64 h3, .int .i64 h4]
  g : ∃ (g0 : Int) (g1 : Int) (g2 : Bool) (g3 : Bool) (g4 : Bool) (g5 : Bool) (g6 : Int) (g7 : Int) (g8 : Int) (g9 : Int), p.g = [.int .i64 g0, .int .i64 g1, .bool g2, .bool g3, .bool g4, .bool g5, .int .i64 g6, .int .i64 g7, .int .i64 g8, .int .i64 g9]
  x : ∃ (x0 : Bool) (x1 : Int) (x2 : Bool) (x3 : Bool) (x4 : Bool) (x5 : Int), p.x = [.bool x0, .int .i64 x1, .bool x2, .bool x3, .bool x4, .int .i64 x5]
  r : ∃ (r0 : Int) (r1 : Int) (r2 : Int) (rA3 : Option Addr) (rc3 : Nat) (rA4 : Option Addr) (rc4 : Nat) (rA5 : Option Addr) (rc5 : Nat) (rA6 : Option Addr) (rc6 : Nat), p.r = [.int .i64 r0, .int .i64 r1, .int .i64 r2, .slice rA3 p.na rc3, .slice rA4 p.nb rc4, .slice rA5 p.nc rc5, .slice rA6 p.nd rc6] ∧ BB w (.slice rA3 p.na rc3) p.na ∧ BB w (.slice rA4 p.nb rc4) p.nb ∧ BB w (.slice rA5 p.nc rc5) p.nc ∧ BB w (.slice rA6 p.nd rc6) p.nd
theorem PcIn.below {w w' : World} {p : Pc} (h : PcIn w p) (hb : Below w.heap.size w w') : PcIn w' p where
  e := by
    obtain ⟨eA0, ec0, eA1, ec1, e2, e3, eq0, eH0, eH1⟩ := h.e
    exact ⟨eA0, ec0, eA1, ec1, e2, e3, eq0, eH0.below hb, eH1.below hb⟩
  v := by
    obtain ⟨v0, v1, v2, v3, eq0⟩ := h.v
    exact ⟨v0, v1, v2, v3, eq0⟩
  f := by
    obtain ⟨f0, f1, f2, f3, f4, f5, f6, f7, f8, fA9, fc9, fA10, fc10, fA11, fc11, eq0, fH9, fH10, fH11⟩ := h.f
    exact ⟨f0, f1, f2, f3, f4, f5, f6, f7, f8, fA9, fc9, fA10, fc10, fA11, fc11, eq0, fH9.below hb, fH10.below hb, fH11.below hb⟩
  y := by
    obtain ⟨y0, y1, y2, y3, y4, yA5, yc5, yA6, yc6, eq0, yH5, yH6⟩ := h.y
    exact ⟨y0, y1, y2, y3, y4, yA5, yc5, yA6, yc6, eq0, yH5.below hb, yH6.below hb⟩
  t := by
    obtain ⟨t0, t1, t2, t3, t4, t5, t6, t7, t8, tA9, tc9, eq0, tH9⟩ := h.t
    exact ⟨t0, t1, t2, t3, t4, t5, t6, t7, t8, tA9, tc9, eq0, tH9.below hb⟩
  u := by
    obtain ⟨u0, u1, u2, u3, eq0⟩ := h.u
    exact ⟨u0, u1, u2, u3, eq0⟩
  h := by
    obtain ⟨h0, h1, h2, h3, h4, eq0⟩ := h.h
    exact ⟨h0, h1, h2, h3, h4, eq0⟩
  g := by
    obtain ⟨g0, g1, g2, g3, g4, g5, g6, g7, g8, g9, eq0⟩ := h.g
    exact ⟨g0, g1, g2, g3, g4, g5, g6, g7, g8, g9, eq0⟩
  x := by
    obtain ⟨x0, x1, x2, x3, x4, x5, eq0⟩ := h.x
    exact ⟨x0, x1, x2, x3, x4, x5, eq0⟩
  r := by
    obtain ⟨r0, r1, r2, rA3, rc3, rA4, rc4, rA5, rc5, rA6, rc6, eq0, rH3, rH4, rH5, rH6⟩ := h.r
    exact ⟨r0, r1, r2, rA3, rc3, rA4, rc4, rA5, rc5, rA6, rc6, eq0, rH3.below hb, rH4.below hb, rH5.below hb, rH6.below hb⟩
theorem PcIn.len_e {w : World} {p : Pc} (h : PcIn w p) : p.e.length = 4 := by
  obtain ⟨eA0, ec0, eA1, ec1, e2, e3, h0, eH0, eH1⟩ := h.e
  rw [h0]; rfl
theorem PcIn.len_v {w : World} {p : Pc} (h : PcIn w p) : p.v.length = 4 := by
  obtain ⟨v0, v1, v2, v3, h0⟩ := h.v
  rw [h0]; rfl
theorem PcIn.len_f {w : World} {p : Pc} (h : PcIn w p) : p.f.length = 12 := by
  obtain ⟨f0, f1, f2, f3, f4, f5, f6, f7, f8, fA9, fc9, fA10, fc10, fA11, fc11, h0, fH9, fH10, fH11⟩ := h.f
  rw [h0]; rfl
theorem PcIn.len_y {w : World} {p : Pc} (h : PcIn w p) : p.y.length = 7 := by
  obtain ⟨y0, y1, y2, y3, y4, yA5, yc5, yA6, yc6, h0, yH5, yH6⟩ := h.y
  rw [h0]; rfl
theorem PcIn.len_t {w : World} {p : Pc} (h : PcIn w p) : p.t.length = 10 := by
  obtain ⟨t0, t1, t2, t3, t4, t5, t6, t7, t8, tA9, tc9, h0, tH9⟩ := h.t
  rw [h0]; rfl
theorem PcIn.len_u {w : World} {p : Pc} (h : PcIn w p) : p.u.length = 4 := by
  obtain ⟨u0, u1, u2, u3, h0⟩ := h.u
  rw [h0]; rfl
theorem PcIn.len_h {w : World} {p : Pc} (h : PcIn w p) : p.h.length = 5 := by
  obtain ⟨h0, h1, h2, h3, h4, h0⟩ := h.h
  rw [h0]; rfl
theorem PcIn.len_g {w : World} {p : Pc} (h : PcIn w p) : p.g.length = 10 := by
  obtain ⟨g0, g1, g2, g3, g4, g5, g6, g7, g8, g9, h0⟩ := h.g
  rw [h0]; rfl
theorem PcIn.len_x {w : World} {p : Pc} (h : PcIn w p) : p.x.length = 6 := by
  obtain ⟨x0, x1, x2, x3, x4, x5, h0⟩ := h.x
  rw [h0]; rfl
theorem PcIn.len_r {w : World} {p : Pc} (h : PcIn w p) : p.r.length = 7 := by
  obtain ⟨r0, r1, r2, rA3, rc3, rA4, rc4, rA5, rc5, rA6, rc6, h0, rH3, rH4, rH5, rH6⟩ := h.r
  rw [h0]; rfl
theorem PcIn.len {w : World} {p : Pc} (h : PcIn w p) : p.cs.length = 70 := by
  simp [Pc.cs, h.len_e, h.len_v, h.len_f, h.len_y, h.len_t, h.len_u, h.len_h, h.len_g, h.len_x, h.len_r]
/-- Where the parts of a piece lie. -/
structure PcR (w : World) (b o : Nat) (p : Pc) : Prop where
  k : w.cell? ⟨b, o, none⟩ = some (.int .i64 p.k)
  e : w.rangeAt b (o + 1) p.e
  v : w.rangeAt b (o + 5) p.v
  f : w.rangeAt b (o + 9) p.f
  y : w.rangeAt b (o + 21) p.y
  t : w.rangeAt b (o + 28) p.t
  u : w.rangeAt b (o + 38) p.u
  h : w.rangeAt b (o + 42) p.h
  g : w.rangeAt b (o + 47) p.g
  x : w.rangeAt b (o + 57) p.x
  r : w.rangeAt b (o + 63) p.r
theorem rangeAt_left {w : World} {b o : Nat} {l1 l2 : List Value} (h : w.rangeAt b o (l1 ++ l2)) : w.rangeAt b o l1 := fun j v hv => by
  have hj : j < l1.length := (List.getElem?_eq_some_iff.1 hv).1
  exact h j v (by rw [List.getElem?_append_left hj]; exact hv)
theorem rangeAt_right {w : World} {b o n : Nat} {l1 l2 : List Value} (h : w.rangeAt b o (l1 ++ l2)) (hn : l1.length = n) : w.rangeAt b (o + n) l2 := fun j v hv => by
  subst hn
  have := h (l1.length + j) v (by rw [List.getElem?_append_right (by omega)]; simpa using hv)
  rw [Nat.add_assoc]
  exact this
theorem PcIn.range {W w : World} {b o : Nat} {p : Pc} (hp : PcIn w p) (h : W.rangeAt b o p.cs) : PcR W b o p := by
  have h0 : W.rangeAt b (o + 1) (p.e ++ (p.v ++ (p.f ++ (p.y ++ (p.t ++ (p.u ++ (p.h ++ (p.g ++ (p.x ++ p.r))))))))) := rangeAt_right (l1 := [.int .i64 p.k]) h rfl
  have h1 := rangeAt_right h0 hp.len_e
  have h2 := rangeAt_right h1 hp.len_v
  have h3 := rangeAt_right h2 hp.len_f
  have h4 := rangeAt_right h3 hp.len_y
  have h5 := rangeAt_right h4 hp.len_t
  have h6 := rangeAt_right h5 hp.len_u
  have h7 := rangeAt_right h6 hp.len_h
  have h8 := rangeAt_right h7 hp.len_g
  have h9 := rangeAt_right h8 hp.len_x
  exact ⟨h 0 _ rfl, rangeAt_left h0, rangeAt_left h1, rangeAt_left h2, rangeAt_left h3, rangeAt_left h4, rangeAt_left h5, rangeAt_left h6, rangeAt_left h7, rangeAt_left h8, h9⟩
theorem rangeBelow {w w' : World} {b o : Nat} {l : List Value} (h : w.rangeAt b o l) (hlt : b < w.heap.size) (hb : Below w.heap.size w w') : w'.rangeAt b o l := fun j v hv => (hb.cell (p := ⟨b, o + j, none⟩) hlt).trans (h j v hv)
theorem PcR.below {w w' : World} {b o : Nat} {p : Pc} (h : PcR w b o p) (hlt : b < w.heap.size) (hb : Below w.heap.size w w') : PcR w' b o p :=
  ⟨(hb.cell (p := ⟨b, o, none⟩) hlt).trans h.k, rangeBelow h.e hlt hb, rangeBelow h.v hlt hb, rangeBelow h.f hlt hb, rangeBelow h.y hlt hb, rangeBelow h.t hlt hb, rangeBelow h.u hlt hb, rangeBelow h.h hlt hb, rangeBelow h.g hlt hb, rangeBelow h.x hlt hb, rangeBelow h.r hlt hb⟩
theorem rangeNew (w : World) (cs : List Value) (T : TypeId) : (w.alloc (.cells cs.toArray T)).rangeAt w.heap.size 0 cs := fun j v hv => by
  rw [cell_of_row _ w.heap.size (0 + j) cs.toArray T (0, 0) (heap_alloc_new w _)]
  simpa using hv
theorem PcIn.new {w : World} {p : Pc} (hp : PcIn w p) : PcR (w.alloc (.cells p.cs.toArray 59)) w.heap.size 0 p := hp.range (rangeNew w _ _)
set_option maxRecDepth 100000 in
set_option maxHeartbeats 4000000 in
theorem fits2_ (p : Pc) (w : World) (hp : PcIn w p) : Calls Tryz.prog 14 #[.agg p.cs.toArray] w (RBP (OptFit p.o4 ∧ OptFit p.ot) w) := by
  have HR := Lib.hid hp.new
  have HP := Lib.hid hp
  obtain ⟨eA0, ec0, eA1, ec1, e2, e3, e0', eH0, eH1⟩ := hp.e
  obtain ⟨f0, f1, f2, f3, f4, f5, f6, f7, f8, fA9, fc9, fA10, fc10, fA11, fc11, f0', fH9, fH10, fH11⟩ := hp.f
  obtain ⟨y0, y1, y2, y3, y4, yA5, yc5, yA6, yc6, y0', yH5, yH6⟩ := hp.y
  obtain ⟨t0, t1, t2, t3, t4, t5, t6, t7, t8, tA9, tc9, t0', tH9⟩ := hp.t
  obtain ⟨r0, r1, r2, rA3, rc3, rA4, rc4, rA5, rc5, rA6, rc6, r0', rH3, rH4, rH5, rH6⟩ := hp.r
  have R_e := Lib.hid (by have := HR.out.e; rwa [e0'] at this : (w.alloc (.cells p.cs.toArray 59)).rangeAt w.heap.size 1 [.slice eA0 p.ne ec0, .slice eA1 p.nf ec1, .int .i64 e2, .int .i64 e3])
  have eH0 := Lib.hid eH0
  have eH1 := Lib.hid eH1
  have R_f := Lib.hid (by have := HR.out.f; rwa [f0'] at this : (w.alloc (.cells p.cs.toArray 59)).rangeAt w.heap.size 9 [.int .i64 f0, .int .i64 f1, .int .i64 f2, .int .i64 f3, .int .i64 f4, .int .i64 f5, .int .i64 f6, .int .i64 f7, .int .i64 f8, .slice fA9 p.n4 fc9, .slice fA10 p.m4 fc10, .slice fA11 p.o4.length fc11])
  have fH9 := Lib.hid fH9
  have fH10 := Lib.hid fH10
  have fH11 := Lib.hid fH11
  have R_y := Lib.hid (by have := HR.out.y; rwa [y0'] at this : (w.alloc (.cells p.cs.toArray 59)).rangeAt w.heap.size 21 [.int .i64 y0, .int .i64 y1, .int .i64 y2, .int .i64 y3, .int .i64 y4, .slice yA5 p.n6 yc5, .slice yA6 p.m6 yc6])
  have yH5 := Lib.hid yH5
  have yH6 := Lib.hid yH6
  have R_t := Lib.hid (by have := HR.out.t; rwa [t0'] at this : (w.alloc (.cells p.cs.toArray 59)).rangeAt w.heap.size 28 [.int .i64 t0, .int .i64 t1, .int .i64 t2, .int .i64 t3, .int .i64 t4, .int .i64 t5, .int .i64 t6, .int .i64 t7, .int .i64 t8, .slice tA9 p.ot.length tc9])
  have tH9 := Lib.hid tH9
  have R_r := Lib.hid (by have := HR.out.r; rwa [r0'] at this : (w.alloc (.cells p.cs.toArray 59)).rangeAt w.heap.size 63 [.int .i64 r0, .int .i64 r1, .int .i64 r2, .slice rA3 p.na rc3, .slice rA4 p.nb rc4, .slice rA5 p.nc rc5, .slice rA6 p.nd rc6])
  have rH3 := Lib.hid rH3
  have rH4 := Lib.hid rH4
  have rH5 := Lib.hid rH5
  have rH6 := Lib.hid rH6
  clear e0' f0' y0' t0' r0' HR hp
  have HB := Lib.hid ((Below.refl w.heap.size w).alloc (Nat.le_refl _) (.cells p.cs.toArray 59))
  have HS := Lib.hid (show w.heap.size < (w.alloc (.cells p.cs.toArray 59)).heap.size by simp)
  generalize p.cs.toArray = C at *
  go_enter Tryz.func14, Tryz.ntmps14
  go_wp2_with (refine wpList_load_mid rfl 38 _ rfl w.heap.size 1 rfl _ _ R_e.out Tryz.underlying38 rfl (by kernel_rfl) ?_)
  refine (fits3_ _ _ _ _ _ _ _ _ _).mono ?_
  rintro e w1 ⟨⟨b0, rfl, hr⟩, hb⟩
  cases b0
  · clear hr
    have HF := Lib.hid (HB.out.trans (hb.mono HB.out.size))
    clear hb
    go_wp2_with fail
    go_ret
    exact ⟨⟨_, rfl, fun h => by simp at h⟩, HF.out⟩
  have G0 := Lib.hid (hr rfl)
  clear hr
  have R2_f := Lib.hid (rangeBelow R_f.out HS.out hb)
  clear R_f
  have R_f := R2_f
  clear R2_f
  have R2_y := Lib.hid (rangeBelow R_y.out HS.out hb)
  clear R_y
  have R_y := R2_y
  clear R2_y
  have R2_t := Lib.hid (rangeBelow R_t.out HS.out hb)
  clear R_t
  have R_t := R2_t
  clear R2_t
  have R2_r := Lib.hid (rangeBelow R_r.out HS.out hb)
  clear R_r
  have R_r := R2_r
  clear R2_r
  have HS0 := Lib.hid (Nat.lt_of_lt_of_le HS.out hb.size)
  clear HS
  have HS := HS0
  clear HS0
  have HB0 := Lib.hid (HB.out.trans (hb.mono HB.out.size))
  clear HB hb
  have HB := HB0
  clear HB0
  go_wp2_with (refine wpList_load_mid rfl 43 _ rfl w.heap.size 9 rfl _ _ R_f.out Tryz.underlying43 rfl (by kernel_rfl) ?_)
  refine (fits4_ _ _ _ _ _ _ _ _ _ _ _ _ _ _ _ _ _ _ _ (fH11.out.below HB.out)).mono ?_
  rintro e w2 ⟨⟨b1, rfl, hr⟩, hb⟩
  cases b1
  · clear hr
    have HF := Lib.hid (HB.out.trans (hb.mono HB.out.size))
    clear hb
    go_wp2_with fail
    go_ret
    exact ⟨⟨_, rfl, fun h => by simp at h⟩, HF.out⟩
  have G1 := Lib.hid (hr rfl)
  clear hr
  have R2_y := Lib.hid (rangeBelow R_y.out HS.out hb)
  clear R_y
  have R_y := R2_y
  clear R2_y
  have R2_t := Lib.hid (rangeBelow R_t.out HS.out hb)
  clear R_t
  have R_t := R2_t
  clear R2_t
  have R2_r := Lib.hid (rangeBelow R_r.out HS.out hb)
  clear R_r
  have R_r := R2_r
  clear R2_r
  have HS1 := Lib.hid (Nat.lt_of_lt_of_le HS.out hb.size)
  clear HS
  have HS := HS1
  clear HS1
  have HB1 := Lib.hid (HB.out.trans (hb.mono HB.out.size))
  clear HB hb
  have HB := HB1
  clear HB1
  go_wp2_with (refine wpList_load_mid rfl 45 _ rfl w.heap.size 21 rfl _ _ R_y.out Tryz.underlying45 rfl (by kernel_rfl) ?_)
  refine (fits7_ _ _ _ _ _ _ _ _ _ _ _ _).mono ?_
  rintro e w3 ⟨⟨b2, rfl, hr⟩, hb⟩
  cases b2
  · clear hr
    have HF := Lib.hid (HB.out.trans (hb.mono HB.out.size))
    clear hb
    go_wp2_with fail
    go_ret
    exact ⟨⟨_, rfl, fun h => by simp at h⟩, HF.out⟩
  have G2 := Lib.hid (hr rfl)
  clear hr
  have R2_t := Lib.hid (rangeBelow R_t.out HS.out hb)
  clear R_t
  have R_t := R2_t
  clear R2_t
  have R2_r := Lib.hid (rangeBelow R_r.out HS.out hb)
  clear R_r
  have R_r := R2_r
  clear R2_r
  have HS2 := Lib.hid (Nat.lt_of_lt_of_le HS.out hb.size)
  clear HS
  have HS := HS2
  clear HS2
  have HB2 := Lib.hid (HB.out.trans (hb.mono HB.out.size))
  clear HB hb
  have HB := HB2
  clear HB2
  go_wp2_with (refine wpList_load_mid rfl 47 _ rfl w.heap.size 28 rfl _ _ R_t.out Tryz.underlying47 rfl (by kernel_rfl) ?_)
  refine (fits8_ _ _ _ _ _ _ _ _ _ _ _ _ _ (tH9.out.below HB.out)).mono ?_
  rintro e w4 ⟨⟨b3, rfl, hr⟩, hb⟩
  cases b3
  · clear hr
    have HF := Lib.hid (HB.out.trans (hb.mono HB.out.size))
    clear hb
    go_wp2_with fail
    go_ret
    exact ⟨⟨_, rfl, fun h => by simp at h⟩, HF.out⟩
  have G3 := Lib.hid (hr rfl)
  clear hr
  have R2_r := Lib.hid (rangeBelow R_r.out HS.out hb)
  clear R_r
  have R_r := R2_r
  clear R2_r
  have HS3 := Lib.hid (Nat.lt_of_lt_of_le HS.out hb.size)
  clear HS
  have HS := HS3
  clear HS3
  have HB3 := Lib.hid (HB.out.trans (hb.mono HB.out.size))
  clear HB hb
  have HB := HB3
  clear HB3
  go_wp2_with (refine wpList_load_mid rfl 57 _ rfl w.heap.size 63 rfl _ _ R_r.out Tryz.underlying57 rfl (by kernel_rfl) ?_)
  refine (fits9_ _ _ _ _ _ _ _ _ _ _ _ _ _ _ _ _).mono ?_
  rintro e w5 ⟨⟨b4, rfl, hr⟩, hb⟩
  cases b4
  · clear hr
    have HF := Lib.hid (HB.out.trans (hb.mono HB.out.size))
    clear hb
    go_wp2_with fail
    go_ret
    exact ⟨⟨_, rfl, fun h => by simp at h⟩, HF.out⟩
  have G4 := Lib.hid (hr rfl)
  clear hr
  have HS4 := Lib.hid (Nat.lt_of_lt_of_le HS.out hb.size)
  clear HS
  have HS := HS4
  clear HS4
  have HB4 := Lib.hid (HB.out.trans (hb.mono HB.out.size))
  clear HB hb
  have HB := HB4
  clear HB4
  go_wp2_with fail
  go_ret
  exact ⟨⟨_, rfl, fun h => ⟨G1.out, G3.out⟩⟩, HB.out⟩
end Go.Proofs.YtecgkcofmphaiaaGreatDoor.Gpk
