/- A piece with what tells of the next one.
   Linked: pieces that stand behind one another. -/
import Derived.Test.YtecgkcofmphaiaaGreatDoorS17
import Derived.Test.YtecgkcofmphaiaaGreatDoorS19
import Derived.Deep.DeepCutAuto
import Derived.Great.BuildSlice
set_option linter.unusedVariables false
set_option linter.unusedSimpArgs false
set_option linter.unnecessarySimpa false
set_option linter.unusedSectionVars false
namespace Go.Proofs.YtecgkcofmphaiaaGreatDoor.Gpk
open Go.RowKit
set_option linter.unusedVariables false
theorem heap0' (w : World) (X R : Obj) : ((w.alloc X).alloc R).heap[w.heap.size]? = some X := by
  have h0 : (w.alloc X).heap[w.heap.size]? = some X := heap_alloc_new w X
  exact (heap_alloc_old _ _ (lt_of_heap h0)).trans h0
theorem heap1' (w : World) (X R : Obj) : ((w.alloc X).alloc R).heap[w.heap.size + 1]? = some R := by
  have := heap_alloc_new (w.alloc X) R
  rwa [World.size_alloc] at this
theorem results_cell_tmp {fn : Func} {p q : Tmp} {ty : TypeId} (h : fn.results = #[.cell p ty, .tmp q]) (tmps : Array Value) (w : World) (g : Nat) (cs : Array Value)
    (hp : tmps.getD p undef = .pointer (some ⟨g, 0, none⟩))
    (hl : (loadVar ty ⟨g, 0, none⟩).run Tryz.prog w = .ok (.agg cs) w) :
    (results fn tmps).run Tryz.prog w = .ok (.tuple #[.agg cs, tmps.getD q undef]) w := by
  have hp' : tmps[p]?.getD undef = .pointer (some ⟨g, 0, none⟩) := by simpa using hp
  simp [results, h, hp', asAddr, hl]
set_option maxRecDepth 100000 in
theorem info59 : (Tryz.prog.info? 59).map (·.size) = some 70 := by kernel_rfl
theorem PcIn.one {w : World} {p : Pc} (h : PcIn w p) : p.cs.toArray.all (·.oneCell') = true := by
  obtain ⟨eA0, ec0, eA1, ec1, e2, e3, e0', eH0, eH1⟩ := h.e
  obtain ⟨v0, v1, v2, v3, v0'⟩ := h.v
  obtain ⟨f0, f1, f2, f3, f4, f5, f6, f7, f8, fA9, fc9, fA10, fc10, fA11, fc11, f0', fH9, fH10, fH11⟩ := h.f
  obtain ⟨y0, y1, y2, y3, y4, yA5, yc5, yA6, yc6, y0', yH5, yH6⟩ := h.y
  obtain ⟨t0, t1, t2, t3, t4, t5, t6, t7, t8, tA9, tc9, t0', tH9⟩ := h.t
  obtain ⟨u0, u1, u2, u3, u0'⟩ := h.u
  obtain ⟨h0, h1, h2, h3, h4, h0'⟩ := h.h
  obtain ⟨g0, g1, g2, g3, g4, g5, g6, g7, g8, g9, g0'⟩ := h.g
  obtain ⟨x0, x1, x2, x3, x4, x5, x0'⟩ := h.x
  obtain ⟨r0, r1, r2, rA3, rc3, rA4, rc4, rA5, rc5, rA6, rc6, r0', rH3, rH4, rH5, rH6⟩ := h.r
  simp [Pc.cs, e0', v0', f0', y0', t0', u0', h0', g0', x0', r0', Value.oneCell']
theorem PcIn.cells {w : World} {p : Pc} (h : PcIn w p) : p.cs.toArray.size = 70 := by simpa using h.len
/-- What 'linked' answers: a piece with the same sizes, and whether it may stand there. -/
def RLink (p : Pc) (w0 w : World) (e : Ending) (w' : World) : Prop := ∃ (p' : Pc) (b : Bool), e = .returned (.tuple #[.agg p'.cs.toArray, .bool b]) ∧ PcIn w0 p' ∧ p'.o4 = p.o4 ∧ p'.ot = p.ot ∧ Below w.heap.size w w'
set_option maxRecDepth 100000 in
set_option maxHeartbeats 4000000 in
theorem linked1 (p : Pc) (next : Int) (w0 w : World) (hp : PcIn w0 p) (hk : p.k = 1) : Calls Tryz.prog 15 #[.agg p.cs.toArray, .int .i64 next] w (RLink p w0 w) := by
  have H0 := Lib.hid (heap0' w (.cells p.cs.toArray 59) (.cells Tryz.zeroCells59 59))
  have H1 := Lib.hid (heap1' w (.cells p.cs.toArray 59) (.cells Tryz.zeroCells59 59))
  have HP := Lib.hid hp
  obtain ⟨eA0, ec0, eA1, ec1, e2, e3, e0', eH0, eH1⟩ := hp.e
  have E_e := Lib.hid e0'
  have eH0 := Lib.hid eH0
  have eH1 := Lib.hid eH1
  clear e0'
  have q0 := (cell_of_row _ _ 0 _ 59 (0, 0) H0.out).trans (show p.cs.toArray[0]? = some (.int .i64 p.k) by simp [Pc.cs])
  rw [hk] at q0
  clear hk
  have q3 := (cell_of_row _ _ 3 _ 59 (0, 0) H0.out).trans (show p.cs.toArray[3]? = some (.int .i64 e2) by simp [Pc.cs, E_e.out])
  have f3 := unfrozen (i := 3) H0.out
  have HN := Lib.hid (HP.out.cells)
  clear hp
  generalize hC : p.cs.toArray = C at H0 H1 q0 q3 f3 HN ⊢
  have HC := Lib.hid hC
  clear hC
  have HBW := Lib.hid (((Below.refl w.heap.size w).alloc (Nat.le_refl _) (.cells C 59)).alloc (by simp) (.cells Tryz.zeroCells59 59))
  go_enter Tryz.func15, Tryz.ntmps15
  go_upto_region 2 with fail
  generalize hW : (w.alloc (.cells C 59)).alloc (.cells Tryz.zeroCells59 59) = W at *
  clear hW
  go_wp2_with fail
  refine (etherType_ _ _).mono ?_
  rintro e w1 ⟨⟨x, b, rfl⟩, rfl⟩
  have hpn : ∃ p' : Pc, PcIn w0 p' ∧ p'.o4 = p.o4 ∧ p'.ot = p.ot ∧ (C.setIfInBounds 3 (.int .i64 x)) = p'.cs.toArray := ⟨{ p with e := [.slice eA0 p.ne ec0, .slice eA1 p.nf ec1, .int .i64 x, .int .i64 e3] }, ⟨⟨eA0, ec0, eA1, ec1, _, e3, rfl, eH0.out, eH1.out⟩, HP.out.v, HP.out.f, HP.out.y, HP.out.t, HP.out.u, HP.out.h, HP.out.g, HP.out.x, HP.out.r⟩, rfl, rfl, by
    rw [← HC.out]
    simp [Pc.cs, E_e.out]⟩
  obtain ⟨p', hpi, ho4, hot, hcs⟩ := hpn
  have HPN := Lib.hid hpi
  have HO4 := Lib.hid ho4
  have HOT := Lib.hid hot
  have hx := heap_set (i := 3) (H0.out) (.int .i64 x)
  have hr := (heap_far (a := ⟨w.heap.size, 3, none⟩) (by simp) (.int .i64 x)).trans (H1.out)
  have HI := Lib.hid (show (Tryz.prog.info? 59).map (·.size) = some p'.cs.toArray.size by rw [HPN.out.cells]; exact info59)
  have HO := Lib.hid (show (Tryz.zeroCells59 : Array Value).size = p'.cs.toArray.size by rw [HPN.out.cells]; rfl)
  have HA := Lib.hid HPN.out.one
  rw [hcs] at hx
  clear hpi ho4 hot hcs
  generalize hD : p'.cs.toArray = D at *
  have HD := Lib.hid hD
  clear hD
  have HX := Lib.hid hx
  have HR := Lib.hid hr
  have HRS := Lib.hid (setRow_heap _ _ _ D _ _ hr)
  clear hx hr
  go_wp2_with (first
    | (refine wpList_load_row rfl 59 _ rfl w.heap.size rfl 59 _ (0, 0) _ HX.out Tryz.underlying59 rfl HI.out ?_)
    | (refine wpList_store_row rfl 59 _ _ rfl (w.heap.size + 1) _ rfl rfl 59 _ HR.out HI.out HO.out HA.out ?_))
  all_goals refine bodyPost_ret (results_cell_tmp rfl _ _ (w.heap.size + 1) _ rfl (run_loadVar_row _ _ 59 59 _ (0, 0) _ HRS.out Tryz.underlying59 rfl HI.out)) rfl ⟨p', _, by rw [HD.out]; rfl, HPN.out, HO4.out, HOT.out, below_setRow (by repeat first | with_reducible exact HBW.out | with_reducible refine Below.setCell ?_ (by simp) _) (by simp) _⟩
set_option maxRecDepth 100000 in
set_option maxHeartbeats 4000000 in
theorem linked2 (p : Pc) (next : Int) (w0 w : World) (hp : PcIn w0 p) (hk : p.k = 2) : Calls Tryz.prog 15 #[.agg p.cs.toArray, .int .i64 next] w (RLink p w0 w) := by
  have H0 := Lib.hid (heap0' w (.cells p.cs.toArray 59) (.cells Tryz.zeroCells59 59))
  have H1 := Lib.hid (heap1' w (.cells p.cs.toArray 59) (.cells Tryz.zeroCells59 59))
  have HP := Lib.hid hp
  obtain ⟨eA0, ec0, eA1, ec1, e2, e3, e0', eH0, eH1⟩ := hp.e
  have E_e := Lib.hid e0'
  have eH0 := Lib.hid eH0
  have eH1 := Lib.hid eH1
  clear e0'
  obtain ⟨v0, v1, v2, v3, v0'⟩ := hp.v
  have E_v := Lib.hid v0'
  clear v0'
  have q0 := (cell_of_row _ _ 0 _ 59 (0, 0) H0.out).trans (show p.cs.toArray[0]? = some (.int .i64 p.k) by simp [Pc.cs])
  rw [hk] at q0
  clear hk
  have q8 := (cell_of_row _ _ 8 _ 59 (0, 0) H0.out).trans (show p.cs.toArray[8]? = some (.int .i64 v3) by simp [Pc.cs, E_e.out, E_v.out])
  have f8 := unfrozen (i := 8) H0.out
  have HN := Lib.hid (HP.out.cells)
  clear hp
  generalize hC : p.cs.toArray = C at H0 H1 q0 q8 f8 HN ⊢
  have HC := Lib.hid hC
  clear hC
  have HBW := Lib.hid (((Below.refl w.heap.size w).alloc (Nat.le_refl _) (.cells C 59)).alloc (by simp) (.cells Tryz.zeroCells59 59))
  go_enter Tryz.func15, Tryz.ntmps15
  go_upto_region 2 with fail
  generalize hW : (w.alloc (.cells C 59)).alloc (.cells Tryz.zeroCells59 59) = W at *
  clear hW
  go_wp2_with fail
  refine (etherType_ _ _).mono ?_
  rintro e w1 ⟨⟨x, b, rfl⟩, rfl⟩
  have hpn : ∃ p' : Pc, PcIn w0 p' ∧ p'.o4 = p.o4 ∧ p'.ot = p.ot ∧ (C.setIfInBounds 8 (.int .i64 x)) = p'.cs.toArray := ⟨{ p with v := [.int .i64 v0, .bool v1, .int .i64 v2, .int .i64 x] }, ⟨HP.out.e, ⟨v0, v1, v2, _, rfl⟩, HP.out.f, HP.out.y, HP.out.t, HP.out.u, HP.out.h, HP.out.g, HP.out.x, HP.out.r⟩, rfl, rfl, by
    rw [← HC.out]
    simp [Pc.cs, E_e.out, E_v.out]⟩
  obtain ⟨p', hpi, ho4, hot, hcs⟩ := hpn
  have HPN := Lib.hid hpi
  have HO4 := Lib.hid ho4
  have HOT := Lib.hid hot
  have hx := heap_set (i := 8) (H0.out) (.int .i64 x)
  have hr := (heap_far (a := ⟨w.heap.size, 8, none⟩) (by simp) (.int .i64 x)).trans (H1.out)
  have HI := Lib.hid (show (Tryz.prog.info? 59).map (·.size) = some p'.cs.toArray.size by rw [HPN.out.cells]; exact info59)
  have HO := Lib.hid (show (Tryz.zeroCells59 : Array Value).size = p'.cs.toArray.size by rw [HPN.out.cells]; rfl)
  have HA := Lib.hid HPN.out.one
  rw [hcs] at hx
  clear hpi ho4 hot hcs
  generalize hD : p'.cs.toArray = D at *
  have HD := Lib.hid hD
  clear hD
  have HX := Lib.hid hx
  have HR := Lib.hid hr
  have HRS := Lib.hid (setRow_heap _ _ _ D _ _ hr)
  clear hx hr
  go_wp2_with (first
    | (refine wpList_load_row rfl 59 _ rfl w.heap.size rfl 59 _ (0, 0) _ HX.out Tryz.underlying59 rfl HI.out ?_)
    | (refine wpList_store_row rfl 59 _ _ rfl (w.heap.size + 1) _ rfl rfl 59 _ HR.out HI.out HO.out HA.out ?_))
  all_goals refine bodyPost_ret (results_cell_tmp rfl _ _ (w.heap.size + 1) _ rfl (run_loadVar_row _ _ 59 59 _ (0, 0) _ HRS.out Tryz.underlying59 rfl HI.out)) rfl ⟨p', _, by rw [HD.out]; rfl, HPN.out, HO4.out, HOT.out, below_setRow (by repeat first | with_reducible exact HBW.out | with_reducible refine Below.setCell ?_ (by simp) _) (by simp) _⟩
set_option maxRecDepth 100000 in
set_option maxHeartbeats 4000000 in
theorem linked3 (p : Pc) (next : Int) (w0 w : World) (hp : PcIn w0 p) (hk : p.k = 3) : Calls Tryz.prog 15 #[.agg p.cs.toArray, .int .i64 next] w (RLink p w0 w) := by
  have H0 := Lib.hid (heap0' w (.cells p.cs.toArray 59) (.cells Tryz.zeroCells59 59))
  have H1 := Lib.hid (heap1' w (.cells p.cs.toArray 59) (.cells Tryz.zeroCells59 59))
  have HP := Lib.hid hp
  obtain ⟨eA0, ec0, eA1, ec1, e2, e3, e0', eH0, eH1⟩ := hp.e
  have E_e := Lib.hid e0'
  have eH0 := Lib.hid eH0
  have eH1 := Lib.hid eH1
  clear e0'
  obtain ⟨v0, v1, v2, v3, v0'⟩ := hp.v
  have E_v := Lib.hid v0'
  clear v0'
  obtain ⟨f0, f1, f2, f3, f4, f5, f6, f7, f8, fA9, fc9, fA10, fc10, fA11, fc11, f0', fH9, fH10, fH11⟩ := hp.f
  have E_f := Lib.hid f0'
  have fH9 := Lib.hid fH9
  have fH10 := Lib.hid fH10
  have fH11 := Lib.hid fH11
  clear f0'
  have q0 := (cell_of_row _ _ 0 _ 59 (0, 0) H0.out).trans (show p.cs.toArray[0]? = some (.int .i64 p.k) by simp [Pc.cs])
  rw [hk] at q0
  clear hk
  have q16 := (cell_of_row _ _ 16 _ 59 (0, 0) H0.out).trans (show p.cs.toArray[16]? = some (.int .i64 f7) by simp [Pc.cs, E_e.out, E_v.out, E_f.out])
  have f16 := unfrozen (i := 16) H0.out
  have q13 := (cell_of_row _ _ 13 _ 59 (0, 0) H0.out).trans (show p.cs.toArray[13]? = some (.int .i64 f4) by simp [Pc.cs, E_e.out, E_v.out, E_f.out])
  have f13 := unfrozen (i := 13) H0.out
  have q14 := (cell_of_row _ _ 14 _ 59 (0, 0) H0.out).trans (show p.cs.toArray[14]? = some (.int .i64 f5) by simp [Pc.cs, E_e.out, E_v.out, E_f.out])
  have f14 := unfrozen (i := 14) H0.out
  have HN := Lib.hid (HP.out.cells)
  clear hp
  generalize hC : p.cs.toArray = C at H0 H1 q0 q16 f16 q13 f13 q14 f14 HN ⊢
  have HC := Lib.hid hC
  clear hC
  have HBW := Lib.hid (((Below.refl w.heap.size w).alloc (Nat.le_refl _) (.cells C 59)).alloc (by simp) (.cells Tryz.zeroCells59 59))
  go_enter Tryz.func15, Tryz.ntmps15
  go_upto_region 2 with fail
  generalize hW : (w.alloc (.cells C 59)).alloc (.cells Tryz.zeroCells59 59) = W at *
  clear hW
  go_wp2_with fail
  refine (protocol_ _ _ _).mono ?_
  rintro e w1 ⟨⟨x, b, rfl⟩, rfl⟩
  have hpn : ∃ p' : Pc, PcIn w0 p' ∧ p'.o4 = p.o4 ∧ p'.ot = p.ot ∧ (((C.setIfInBounds 16 (.int .i64 x)).setIfInBounds 13 (.int .i64 0)).setIfInBounds 14 (.int .i64 0)) = p'.cs.toArray := ⟨{ p with f := [.int .i64 f0, .int .i64 f1, .int .i64 f2, .int .i64 f3, .int .i64 0, .int .i64 0, .int .i64 f6, .int .i64 x, .int .i64 f8, .slice fA9 p.n4 fc9, .slice fA10 p.m4 fc10, .slice fA11 p.o4.length fc11] }, ⟨HP.out.e, HP.out.v, ⟨f0, f1, f2, f3, _, _, f6, _, f8, fA9, fc9, fA10, fc10, fA11, fc11, rfl, fH9.out, fH10.out, fH11.out⟩, HP.out.y, HP.out.t, HP.out.u, HP.out.h, HP.out.g, HP.out.x, HP.out.r⟩, rfl, rfl, by
    rw [← HC.out]
    simp [Pc.cs, E_e.out, E_v.out, E_f.out]⟩
  obtain ⟨p', hpi, ho4, hot, hcs⟩ := hpn
  have HPN := Lib.hid hpi
  have HO4 := Lib.hid ho4
  have HOT := Lib.hid hot
  have hx := heap_set (i := 14) (heap_set (i := 13) (heap_set (i := 16) (H0.out) (.int .i64 x)) (.int .i64 0)) (.int .i64 0)
  have hr := (heap_far (a := ⟨w.heap.size, 14, none⟩) (by simp) (.int .i64 0)).trans ((heap_far (a := ⟨w.heap.size, 13, none⟩) (by simp) (.int .i64 0)).trans ((heap_far (a := ⟨w.heap.size, 16, none⟩) (by simp) (.int .i64 x)).trans (H1.out)))
  have HI := Lib.hid (show (Tryz.prog.info? 59).map (·.size) = some p'.cs.toArray.size by rw [HPN.out.cells]; exact info59)
  have HO := Lib.hid (show (Tryz.zeroCells59 : Array Value).size = p'.cs.toArray.size by rw [HPN.out.cells]; rfl)
  have HA := Lib.hid HPN.out.one
  rw [hcs] at hx
  clear hpi ho4 hot hcs
  generalize hD : p'.cs.toArray = D at *
  have HD := Lib.hid hD
  clear hD
  have HX := Lib.hid hx
  have HR := Lib.hid hr
  have HRS := Lib.hid (setRow_heap _ _ _ D _ _ hr)
  clear hx hr
  go_wp2_with (first
    | (refine wpList_load_row rfl 59 _ rfl w.heap.size rfl 59 _ (0, 0) _ HX.out Tryz.underlying59 rfl HI.out ?_)
    | (refine wpList_store_row rfl 59 _ _ rfl (w.heap.size + 1) _ rfl rfl 59 _ HR.out HI.out HO.out HA.out ?_))
  all_goals refine bodyPost_ret (results_cell_tmp rfl _ _ (w.heap.size + 1) _ rfl (run_loadVar_row _ _ 59 59 _ (0, 0) _ HRS.out Tryz.underlying59 rfl HI.out)) rfl ⟨p', _, by rw [HD.out]; rfl, HPN.out, HO4.out, HOT.out, below_setRow (by repeat first | with_reducible exact HBW.out | with_reducible refine Below.setCell ?_ (by simp) _) (by simp) _⟩
set_option maxRecDepth 100000 in
set_option maxHeartbeats 4000000 in
theorem linked4 (p : Pc) (next : Int) (w0 w : World) (hp : PcIn w0 p) (hk : p.k = 4) : Calls Tryz.prog 15 #[.agg p.cs.toArray, .int .i64 next] w (RLink p w0 w) := by
  have H0 := Lib.hid (heap0' w (.cells p.cs.toArray 59) (.cells Tryz.zeroCells59 59))
  have H1 := Lib.hid (heap1' w (.cells p.cs.toArray 59) (.cells Tryz.zeroCells59 59))
  have HP := Lib.hid hp
  obtain ⟨eA0, ec0, eA1, ec1, e2, e3, e0', eH0, eH1⟩ := hp.e
  have E_e := Lib.hid e0'
  have eH0 := Lib.hid eH0
  have eH1 := Lib.hid eH1
  clear e0'
  obtain ⟨v0, v1, v2, v3, v0'⟩ := hp.v
  have E_v := Lib.hid v0'
  clear v0'
  obtain ⟨f0, f1, f2, f3, f4, f5, f6, f7, f8, fA9, fc9, fA10, fc10, fA11, fc11, f0', fH9, fH10, fH11⟩ := hp.f
  have E_f := Lib.hid f0'
  have fH9 := Lib.hid fH9
  have fH10 := Lib.hid fH10
  have fH11 := Lib.hid fH11
  clear f0'
  obtain ⟨y0, y1, y2, y3, y4, yA5, yc5, yA6, yc6, y0', yH5, yH6⟩ := hp.y
  have E_y := Lib.hid y0'
  have yH5 := Lib.hid yH5
  have yH6 := Lib.hid yH6
  clear y0'
  have q0 := (cell_of_row _ _ 0 _ 59 (0, 0) H0.out).trans (show p.cs.toArray[0]? = some (.int .i64 p.k) by simp [Pc.cs])
  rw [hk] at q0
  clear hk
  have q24 := (cell_of_row _ _ 24 _ 59 (0, 0) H0.out).trans (show p.cs.toArray[24]? = some (.int .i64 y3) by simp [Pc.cs, E_e.out, E_v.out, E_f.out, E_y.out])
  have f24 := unfrozen (i := 24) H0.out
  have HN := Lib.hid (HP.out.cells)
  clear hp
  generalize hC : p.cs.toArray = C at H0 H1 q0 q24 f24 HN ⊢
  have HC := Lib.hid hC
  clear hC
  have HBW := Lib.hid (((Below.refl w.heap.size w).alloc (Nat.le_refl _) (.cells C 59)).alloc (by simp) (.cells Tryz.zeroCells59 59))
  go_enter Tryz.func15, Tryz.ntmps15
  go_upto_region 2 with fail
  generalize hW : (w.alloc (.cells C 59)).alloc (.cells Tryz.zeroCells59 59) = W at *
  clear hW
  go_wp2_with fail
  refine (protocol_ _ _ _).mono ?_
  rintro e w1 ⟨⟨x, b, rfl⟩, rfl⟩
  have hpn : ∃ p' : Pc, PcIn w0 p' ∧ p'.o4 = p.o4 ∧ p'.ot = p.ot ∧ (C.setIfInBounds 24 (.int .i64 x)) = p'.cs.toArray := ⟨{ p with y := [.int .i64 y0, .int .i64 y1, .int .i64 y2, .int .i64 x, .int .i64 y4, .slice yA5 p.n6 yc5, .slice yA6 p.m6 yc6] }, ⟨HP.out.e, HP.out.v, HP.out.f, ⟨y0, y1, y2, _, y4, yA5, yc5, yA6, yc6, rfl, yH5.out, yH6.out⟩, HP.out.t, HP.out.u, HP.out.h, HP.out.g, HP.out.x, HP.out.r⟩, rfl, rfl, by
    rw [← HC.out]
    simp [Pc.cs, E_e.out, E_v.out, E_f.out, E_y.out]⟩
  obtain ⟨p', hpi, ho4, hot, hcs⟩ := hpn
  have HPN := Lib.hid hpi
  have HO4 := Lib.hid ho4
  have HOT := Lib.hid hot
  have hx := heap_set (i := 24) (H0.out) (.int .i64 x)
  have hr := (heap_far (a := ⟨w.heap.size, 24, none⟩) (by simp) (.int .i64 x)).trans (H1.out)
  have HI := Lib.hid (show (Tryz.prog.info? 59).map (·.size) = some p'.cs.toArray.size by rw [HPN.out.cells]; exact info59)
  have HO := Lib.hid (show (Tryz.zeroCells59 : Array Value).size = p'.cs.toArray.size by rw [HPN.out.cells]; rfl)
  have HA := Lib.hid HPN.out.one
  rw [hcs] at hx
  clear hpi ho4 hot hcs
  generalize hD : p'.cs.toArray = D at *
  have HD := Lib.hid hD
  clear hD
  have HX := Lib.hid hx
  have HR := Lib.hid hr
  have HRS := Lib.hid (setRow_heap _ _ _ D _ _ hr)
  clear hx hr
  go_wp2_with (first
    | (refine wpList_load_row rfl 59 _ rfl w.heap.size rfl 59 _ (0, 0) _ HX.out Tryz.underlying59 rfl HI.out ?_)
    | (refine wpList_store_row rfl 59 _ _ rfl (w.heap.size + 1) _ rfl rfl 59 _ HR.out HI.out HO.out HA.out ?_))
  all_goals refine bodyPost_ret (results_cell_tmp rfl _ _ (w.heap.size + 1) _ rfl (run_loadVar_row _ _ 59 59 _ (0, 0) _ HRS.out Tryz.underlying59 rfl HI.out)) rfl ⟨p', _, by rw [HD.out]; rfl, HPN.out, HO4.out, HOT.out, below_setRow (by repeat first | with_reducible exact HBW.out | with_reducible refine Below.setCell ?_ (by simp) _) (by simp) _⟩
set_option maxRecDepth 100000 in
set_option maxHeartbeats 4000000 in
theorem linked6 (p : Pc) (next : Int) (w0 w : World) (hp : PcIn w0 p) (hk : p.k = 6) : Calls Tryz.prog 15 #[.agg p.cs.toArray, .int .i64 next] w (RLink p w0 w) := by
  have H0 := Lib.hid (heap0' w (.cells p.cs.toArray 59) (.cells Tryz.zeroCells59 59))
  have H1 := Lib.hid (heap1' w (.cells p.cs.toArray 59) (.cells Tryz.zeroCells59 59))
  have HP := Lib.hid hp
  obtain ⟨eA0, ec0, eA1, ec1, e2, e3, e0', eH0, eH1⟩ := hp.e
  have E_e := Lib.hid e0'
  have eH0 := Lib.hid eH0
  have eH1 := Lib.hid eH1
  clear e0'
  obtain ⟨v0, v1, v2, v3, v0'⟩ := hp.v
  have E_v := Lib.hid v0'
  clear v0'
  obtain ⟨f0, f1, f2, f3, f4, f5, f6, f7, f8, fA9, fc9, fA10, fc10, fA11, fc11, f0', fH9, fH10, fH11⟩ := hp.f
  have E_f := Lib.hid f0'
  have fH9 := Lib.hid fH9
  have fH10 := Lib.hid fH10
  have fH11 := Lib.hid fH11
  clear f0'
  obtain ⟨y0, y1, y2, y3, y4, yA5, yc5, yA6, yc6, y0', yH5, yH6⟩ := hp.y
  have E_y := Lib.hid y0'
  have yH5 := Lib.hid yH5
  have yH6 := Lib.hid yH6
  clear y0'
  obtain ⟨t0, t1, t2, t3, t4, t5, t6, t7, t8, tA9, tc9, t0', tH9⟩ := hp.t
  have E_t := Lib.hid t0'
  have tH9 := Lib.hid tH9
  clear t0'
  obtain ⟨u0, u1, u2, u3, u0'⟩ := hp.u
  have E_u := Lib.hid u0'
  clear u0'
  have q0 := (cell_of_row _ _ 0 _ 59 (0, 0) H0.out).trans (show p.cs.toArray[0]? = some (.int .i64 p.k) by simp [Pc.cs])
  rw [hk] at q0
  clear hk
  have q39 := (cell_of_row _ _ 39 _ 59 (0, 0) H0.out).trans (show p.cs.toArray[39]? = some (.int .i64 u1) by simp [Pc.cs, E_e.out, E_v.out, E_f.out, E_y.out, E_t.out, E_u.out])
  have f39 := unfrozen (i := 39) H0.out
  have HN := Lib.hid (HP.out.cells)
  clear hp
  generalize hC : p.cs.toArray = C at H0 H1 q0 q39 f39 HN ⊢
  have HC := Lib.hid hC
  clear hC
  have HBW := Lib.hid (((Below.refl w.heap.size w).alloc (Nat.le_refl _) (.cells C 59)).alloc (by simp) (.cells Tryz.zeroCells59 59))
  go_enter Tryz.func15, Tryz.ntmps15
  go_upto_region 2 with fail
  generalize hW : (w.alloc (.cells C 59)).alloc (.cells Tryz.zeroCells59 59) = W at *
  clear hW
  have hpn : ∃ p' : Pc, PcIn w0 p' ∧ p'.o4 = p.o4 ∧ p'.ot = p.ot ∧ (C.setIfInBounds 39 (.int .i64 4789)) = p'.cs.toArray := ⟨{ p with u := [.int .i64 u0, .int .i64 4789, .int .i64 u2, .int .i64 u3] }, ⟨HP.out.e, HP.out.v, HP.out.f, HP.out.y, HP.out.t, ⟨u0, _, u2, u3, rfl⟩, HP.out.h, HP.out.g, HP.out.x, HP.out.r⟩, rfl, rfl, by
    rw [← HC.out]
    simp [Pc.cs, E_e.out, E_v.out, E_f.out, E_y.out, E_t.out, E_u.out]⟩
  obtain ⟨p', hpi, ho4, hot, hcs⟩ := hpn
  have HPN := Lib.hid hpi
  have HO4 := Lib.hid ho4
  have HOT := Lib.hid hot
  have hx := heap_set (i := 39) (H0.out) (.int .i64 4789)
  have hr := (heap_far (a := ⟨w.heap.size, 39, none⟩) (by simp) (.int .i64 4789)).trans (H1.out)
  have HI := Lib.hid (show (Tryz.prog.info? 59).map (·.size) = some p'.cs.toArray.size by rw [HPN.out.cells]; exact info59)
  have HO := Lib.hid (show (Tryz.zeroCells59 : Array Value).size = p'.cs.toArray.size by rw [HPN.out.cells]; rfl)
  have HA := Lib.hid HPN.out.one
  rw [hcs] at hx
  clear hpi ho4 hot hcs
  generalize hD : p'.cs.toArray = D at *
  have HD := Lib.hid hD
  clear hD
  have HX := Lib.hid hx
  have HR := Lib.hid hr
  have HRS := Lib.hid (setRow_heap _ _ _ D _ _ hr)
  clear hx hr
  go_wp2_with (first
    | (refine wpList_load_row rfl 59 _ rfl w.heap.size rfl 59 _ (0, 0) _ HX.out Tryz.underlying59 rfl HI.out ?_)
    | (refine wpList_store_row rfl 59 _ _ rfl (w.heap.size + 1) _ rfl rfl 59 _ HR.out HI.out HO.out HA.out ?_))
  all_goals refine bodyPost_ret (results_cell_tmp rfl _ _ (w.heap.size + 1) _ rfl (run_loadVar_row _ _ 59 59 _ (0, 0) _ HRS.out Tryz.underlying59 rfl HI.out)) rfl ⟨p', _, by rw [HD.out]; rfl, HPN.out, HO4.out, HOT.out, below_setRow (by repeat first | with_reducible exact HBW.out | with_reducible refine Below.setCell ?_ (by simp) _) (by simp) _⟩
set_option maxRecDepth 100000 in
set_option maxHeartbeats 4000000 in
theorem linked9 (p : Pc) (next : Int) (w0 w : World) (hp : PcIn w0 p) (hk : p.k = 9) : Calls Tryz.prog 15 #[.agg p.cs.toArray, .int .i64 next] w (RLink p w0 w) := by
  have H0 := Lib.hid (heap0' w (.cells p.cs.toArray 59) (.cells Tryz.zeroCells59 59))
  have H1 := Lib.hid (heap1' w (.cells p.cs.toArray 59) (.cells Tryz.zeroCells59 59))
  have HP := Lib.hid hp
  have q0 := (cell_of_row _ _ 0 _ 59 (0, 0) H0.out).trans (show p.cs.toArray[0]? = some (.int .i64 p.k) by simp [Pc.cs])
  rw [hk] at q0
  clear hk
  have HN := Lib.hid (HP.out.cells)
  clear hp
  generalize hC : p.cs.toArray = C at H0 H1 q0  HN ⊢
  have HC := Lib.hid hC
  clear hC
  have HBW := Lib.hid (((Below.refl w.heap.size w).alloc (Nat.le_refl _) (.cells C 59)).alloc (by simp) (.cells Tryz.zeroCells59 59))
  go_enter Tryz.func15, Tryz.ntmps15
  go_upto_region 2 with fail
  generalize hW : (w.alloc (.cells C 59)).alloc (.cells Tryz.zeroCells59 59) = W at *
  clear hW
  have hpn : ∃ p' : Pc, PcIn w0 p' ∧ p'.o4 = p.o4 ∧ p'.ot = p.ot ∧ C = p'.cs.toArray := ⟨p, HP.out, rfl, rfl, by
    rw [← HC.out]⟩
  obtain ⟨p', hpi, ho4, hot, hcs⟩ := hpn
  have HPN := Lib.hid hpi
  have HO4 := Lib.hid ho4
  have HOT := Lib.hid hot
  have hx := H0.out
  have hr := H1.out
  have HI := Lib.hid (show (Tryz.prog.info? 59).map (·.size) = some p'.cs.toArray.size by rw [HPN.out.cells]; exact info59)
  have HO := Lib.hid (show (Tryz.zeroCells59 : Array Value).size = p'.cs.toArray.size by rw [HPN.out.cells]; rfl)
  have HA := Lib.hid HPN.out.one
  rw [hcs] at hx
  clear hpi ho4 hot hcs
  generalize hD : p'.cs.toArray = D at *
  have HD := Lib.hid hD
  clear hD
  have HX := Lib.hid hx
  have HR := Lib.hid hr
  have HRS := Lib.hid (setRow_heap _ _ _ D _ _ hr)
  clear hx hr
  go_wp2_with (first
    | (refine wpList_load_row rfl 59 _ rfl w.heap.size rfl 59 _ (0, 0) _ HX.out Tryz.underlying59 rfl HI.out ?_)
    | (refine wpList_store_row rfl 59 _ _ rfl (w.heap.size + 1) _ rfl rfl 59 _ HR.out HI.out HO.out HA.out ?_))
  all_goals refine bodyPost_ret (results_cell_tmp rfl _ _ (w.heap.size + 1) _ rfl (run_loadVar_row _ _ 59 59 _ (0, 0) _ HRS.out Tryz.underlying59 rfl HI.out)) rfl ⟨p', _, by rw [HD.out]; rfl, HPN.out, HO4.out, HOT.out, below_setRow (by repeat first | with_reducible exact HBW.out | with_reducible refine Below.setCell ?_ (by simp) _) (by simp) _⟩
set_option maxRecDepth 100000 in
set_option maxHeartbeats 4000000 in
theorem linked8a (p : Pc) (next : Int) (w0 w : World) (hp : PcIn w0 p) (hk : p.k = 8) (hn : next = 1) : Calls Tryz.prog 15 #[.agg p.cs.toArray, .int .i64 next] w (RLink p w0 w) := by
  have H0 := Lib.hid (heap0' w (.cells p.cs.toArray 59) (.cells Tryz.zeroCells59 59))
  have H1 := Lib.hid (heap1' w (.cells p.cs.toArray 59) (.cells Tryz.zeroCells59 59))
  have HP := Lib.hid hp
  obtain ⟨eA0, ec0, eA1, ec1, e2, e3, e0', eH0, eH1⟩ := hp.e
  have E_e := Lib.hid e0'
  have eH0 := Lib.hid eH0
  have eH1 := Lib.hid eH1
  clear e0'
  obtain ⟨v0, v1, v2, v3, v0'⟩ := hp.v
  have E_v := Lib.hid v0'
  clear v0'
  obtain ⟨f0, f1, f2, f3, f4, f5, f6, f7, f8, fA9, fc9, fA10, fc10, fA11, fc11, f0', fH9, fH10, fH11⟩ := hp.f
  have E_f := Lib.hid f0'
  have fH9 := Lib.hid fH9
  have fH10 := Lib.hid fH10
  have fH11 := Lib.hid fH11
  clear f0'
  obtain ⟨y0, y1, y2, y3, y4, yA5, yc5, yA6, yc6, y0', yH5, yH6⟩ := hp.y
  have E_y := Lib.hid y0'
  have yH5 := Lib.hid yH5
  have yH6 := Lib.hid yH6
  clear y0'
  obtain ⟨t0, t1, t2, t3, t4, t5, t6, t7, t8, tA9, tc9, t0', tH9⟩ := hp.t
  have E_t := Lib.hid t0'
  have tH9 := Lib.hid tH9
  clear t0'
  obtain ⟨u0, u1, u2, u3, u0'⟩ := hp.u
  have E_u := Lib.hid u0'
  clear u0'
  obtain ⟨h0, h1, h2, h3, h4, h0'⟩ := hp.h
  have E_h := Lib.hid h0'
  clear h0'
  obtain ⟨g0, g1, g2, g3, g4, g5, g6, g7, g8, g9, g0'⟩ := hp.g
  have E_g := Lib.hid g0'
  clear g0'
  have q0 := (cell_of_row _ _ 0 _ 59 (0, 0) H0.out).trans (show p.cs.toArray[0]? = some (.int .i64 p.k) by simp [Pc.cs])
  rw [hk] at q0
  clear hk
  subst hn
  have q48 := (cell_of_row _ _ 48 _ 59 (0, 0) H0.out).trans (show p.cs.toArray[48]? = some (.int .i64 g1) by simp [Pc.cs, E_e.out, E_v.out, E_f.out, E_y.out, E_t.out, E_u.out, E_h.out, E_g.out])
  have f48 := unfrozen (i := 48) H0.out
  have HN := Lib.hid (HP.out.cells)
  clear hp
  generalize hC : p.cs.toArray = C at H0 H1 q0 q48 f48 HN ⊢
  have HC := Lib.hid hC
  clear hC
  have HBW := Lib.hid (((Below.refl w.heap.size w).alloc (Nat.le_refl _) (.cells C 59)).alloc (by simp) (.cells Tryz.zeroCells59 59))
  go_enter Tryz.func15, Tryz.ntmps15
  go_upto_region 2 with fail
  generalize hW : (w.alloc (.cells C 59)).alloc (.cells Tryz.zeroCells59 59) = W at *
  clear hW
  go_wp2_with fail
  refine (etherType_ _ _).mono ?_
  rintro e w1 ⟨⟨x, b, rfl⟩, rfl⟩
  have hpn : ∃ p' : Pc, PcIn w0 p' ∧ p'.o4 = p.o4 ∧ p'.ot = p.ot ∧ (C.setIfInBounds 48 (.int .i64 25944)) = p'.cs.toArray := ⟨{ p with g := [.int .i64 g0, .int .i64 25944, .bool g2, .bool g3, .bool g4, .bool g5, .int .i64 g6, .int .i64 g7, .int .i64 g8, .int .i64 g9] }, ⟨HP.out.e, HP.out.v, HP.out.f, HP.out.y, HP.out.t, HP.out.u, HP.out.h, ⟨g0, _, g2, g3, g4, g5, g6, g7, g8, g9, rfl⟩, HP.out.x, HP.out.r⟩, rfl, rfl, by
    rw [← HC.out]
    simp [Pc.cs, E_e.out, E_v.out, E_f.out, E_y.out, E_t.out, E_u.out, E_h.out, E_g.out]⟩
  obtain ⟨p', hpi, ho4, hot, hcs⟩ := hpn
  have HPN := Lib.hid hpi
  have HO4 := Lib.hid ho4
  have HOT := Lib.hid hot
  have hx := heap_set (i := 48) (H0.out) (.int .i64 25944)
  have hr := (heap_far (a := ⟨w.heap.size, 48, none⟩) (by simp) (.int .i64 25944)).trans (H1.out)
  have HI := Lib.hid (show (Tryz.prog.info? 59).map (·.size) = some p'.cs.toArray.size by rw [HPN.out.cells]; exact info59)
  have HO := Lib.hid (show (Tryz.zeroCells59 : Array Value).size = p'.cs.toArray.size by rw [HPN.out.cells]; rfl)
  have HA := Lib.hid HPN.out.one
  rw [hcs] at hx
  clear hpi ho4 hot hcs
  generalize hD : p'.cs.toArray = D at *
  have HD := Lib.hid hD
  clear hD
  have HX := Lib.hid hx
  have HR := Lib.hid hr
  have HRS := Lib.hid (setRow_heap _ _ _ D _ _ hr)
  clear hx hr
  go_wp2_with (first
    | (refine wpList_load_row rfl 59 _ rfl w.heap.size rfl 59 _ (0, 0) _ HX.out Tryz.underlying59 rfl HI.out ?_)
    | (refine wpList_store_row rfl 59 _ _ rfl (w.heap.size + 1) _ rfl rfl 59 _ HR.out HI.out HO.out HA.out ?_))
  all_goals refine bodyPost_ret (results_cell_tmp rfl _ _ (w.heap.size + 1) _ rfl (run_loadVar_row _ _ 59 59 _ (0, 0) _ HRS.out Tryz.underlying59 rfl HI.out)) rfl ⟨p', _, by rw [HD.out]; rfl, HPN.out, HO4.out, HOT.out, below_setRow (by repeat first | with_reducible exact HBW.out | with_reducible refine Below.setCell ?_ (by simp) _) (by simp) _⟩
set_option maxRecDepth 100000 in
set_option maxHeartbeats 4000000 in
theorem linked8b (p : Pc) (next : Int) (w0 w : World) (hp : PcIn w0 p) (hk : p.k = 8) (hn : ¬ next = 1) : Calls Tryz.prog 15 #[.agg p.cs.toArray, .int .i64 next] w (RLink p w0 w) := by
  have H0 := Lib.hid (heap0' w (.cells p.cs.toArray 59) (.cells Tryz.zeroCells59 59))
  have H1 := Lib.hid (heap1' w (.cells p.cs.toArray 59) (.cells Tryz.zeroCells59 59))
  have HP := Lib.hid hp
  obtain ⟨eA0, ec0, eA1, ec1, e2, e3, e0', eH0, eH1⟩ := hp.e
  have E_e := Lib.hid e0'
  have eH0 := Lib.hid eH0
  have eH1 := Lib.hid eH1
  clear e0'
  obtain ⟨v0, v1, v2, v3, v0'⟩ := hp.v
  have E_v := Lib.hid v0'
  clear v0'
  obtain ⟨f0, f1, f2, f3, f4, f5, f6, f7, f8, fA9, fc9, fA10, fc10, fA11, fc11, f0', fH9, fH10, fH11⟩ := hp.f
  have E_f := Lib.hid f0'
  have fH9 := Lib.hid fH9
  have fH10 := Lib.hid fH10
  have fH11 := Lib.hid fH11
  clear f0'
  obtain ⟨y0, y1, y2, y3, y4, yA5, yc5, yA6, yc6, y0', yH5, yH6⟩ := hp.y
  have E_y := Lib.hid y0'
  have yH5 := Lib.hid yH5
  have yH6 := Lib.hid yH6
  clear y0'
  obtain ⟨t0, t1, t2, t3, t4, t5, t6, t7, t8, tA9, tc9, t0', tH9⟩ := hp.t
  have E_t := Lib.hid t0'
  have tH9 := Lib.hid tH9
  clear t0'
  obtain ⟨u0, u1, u2, u3, u0'⟩ := hp.u
  have E_u := Lib.hid u0'
  clear u0'
  obtain ⟨h0, h1, h2, h3, h4, h0'⟩ := hp.h
  have E_h := Lib.hid h0'
  clear h0'
  obtain ⟨g0, g1, g2, g3, g4, g5, g6, g7, g8, g9, g0'⟩ := hp.g
  have E_g := Lib.hid g0'
  clear g0'
  have q0 := (cell_of_row _ _ 0 _ 59 (0, 0) H0.out).trans (show p.cs.toArray[0]? = some (.int .i64 p.k) by simp [Pc.cs])
  rw [hk] at q0
  clear hk
  have n1 : (next == 1) = false := by simpa using hn
  clear hn
  have q48 := (cell_of_row _ _ 48 _ 59 (0, 0) H0.out).trans (show p.cs.toArray[48]? = some (.int .i64 g1) by simp [Pc.cs, E_e.out, E_v.out, E_f.out, E_y.out, E_t.out, E_u.out, E_h.out, E_g.out])
  have f48 := unfrozen (i := 48) H0.out
  have HN := Lib.hid (HP.out.cells)
  clear hp
  generalize hC : p.cs.toArray = C at H0 H1 q0 q48 f48 HN ⊢
  have HC := Lib.hid hC
  clear hC
  have HBW := Lib.hid (((Below.refl w.heap.size w).alloc (Nat.le_refl _) (.cells C 59)).alloc (by simp) (.cells Tryz.zeroCells59 59))
  go_enter Tryz.func15, Tryz.ntmps15
  go_upto_region 2 with fail
  generalize hW : (w.alloc (.cells C 59)).alloc (.cells Tryz.zeroCells59 59) = W at *
  clear hW
  go_wp2_with fail
  refine (etherType_ _ _).mono ?_
  rintro e w1 ⟨⟨x, b, rfl⟩, rfl⟩
  have hpn : ∃ p' : Pc, PcIn w0 p' ∧ p'.o4 = p.o4 ∧ p'.ot = p.ot ∧ (C.setIfInBounds 48 (.int .i64 x)) = p'.cs.toArray := ⟨{ p with g := [.int .i64 g0, .int .i64 x, .bool g2, .bool g3, .bool g4, .bool g5, .int .i64 g6, .int .i64 g7, .int .i64 g8, .int .i64 g9] }, ⟨HP.out.e, HP.out.v, HP.out.f, HP.out.y, HP.out.t, HP.out.u, HP.out.h, ⟨g0, _, g2, g3, g4, g5, g6, g7, g8, g9, rfl⟩, HP.out.x, HP.out.r⟩, rfl, rfl, by
    rw [← HC.out]
    simp [Pc.cs, E_e.out, E_v.out, E_f.out, E_y.out, E_t.out, E_u.out, E_h.out, E_g.out]⟩
  obtain ⟨p', hpi, ho4, hot, hcs⟩ := hpn
  have HPN := Lib.hid hpi
  have HO4 := Lib.hid ho4
  have HOT := Lib.hid hot
  have hx := heap_set (i := 48) (H0.out) (.int .i64 x)
  have hr := (heap_far (a := ⟨w.heap.size, 48, none⟩) (by simp) (.int .i64 x)).trans (H1.out)
  have HI := Lib.hid (show (Tryz.prog.info? 59).map (·.size) = some p'.cs.toArray.size by rw [HPN.out.cells]; exact info59)
  have HO := Lib.hid (show (Tryz.zeroCells59 : Array Value).size = p'.cs.toArray.size by rw [HPN.out.cells]; rfl)
  have HA := Lib.hid HPN.out.one
  rw [hcs] at hx
  clear hpi ho4 hot hcs
  generalize hD : p'.cs.toArray = D at *
  have HD := Lib.hid hD
  clear hD
  have HX := Lib.hid hx
  have HR := Lib.hid hr
  have HRS := Lib.hid (setRow_heap _ _ _ D _ _ hr)
  clear hx hr
  go_wp2_with (first
    | (refine wpList_load_row rfl 59 _ rfl w.heap.size rfl 59 _ (0, 0) _ HX.out Tryz.underlying59 rfl HI.out ?_)
    | (refine wpList_store_row rfl 59 _ _ rfl (w.heap.size + 1) _ rfl rfl 59 _ HR.out HI.out HO.out HA.out ?_))
  all_goals refine bodyPost_ret (results_cell_tmp rfl _ _ (w.heap.size + 1) _ rfl (run_loadVar_row _ _ 59 59 _ (0, 0) _ HRS.out Tryz.underlying59 rfl HI.out)) rfl ⟨p', _, by rw [HD.out]; rfl, HPN.out, HO4.out, HOT.out, below_setRow (by repeat first | with_reducible exact HBW.out | with_reducible refine Below.setCell ?_ (by simp) _) (by simp) _⟩
set_option maxRecDepth 100000 in
set_option maxHeartbeats 4000000 in
theorem linked0 (p : Pc) (next : Int) (w0 w : World) (hp : PcIn w0 p) (h1 : ¬ p.k = 1) (h2 : ¬ p.k = 2) (h3 : ¬ p.k = 3) (h4 : ¬ p.k = 4) (h6 : ¬ p.k = 6) (h8 : ¬ p.k = 8) (h9 : ¬ p.k = 9) : Calls Tryz.prog 15 #[.agg p.cs.toArray, .int .i64 next] w (RLink p w0 w) := by
  have H0 := Lib.hid (heap0' w (.cells p.cs.toArray 59) (.cells Tryz.zeroCells59 59))
  have H1 := Lib.hid (heap1' w (.cells p.cs.toArray 59) (.cells Tryz.zeroCells59 59))
  have HP := Lib.hid hp
  have q0 := (cell_of_row _ _ 0 _ 59 (0, 0) H0.out).trans (show p.cs.toArray[0]? = some (.int .i64 p.k) by simp [Pc.cs])
  have e1 : (p.k == 1) = false := by simpa using h1
  have e2 : (p.k == 2) = false := by simpa using h2
  have e3 : (p.k == 3) = false := by simpa using h3
  have e4 : (p.k == 4) = false := by simpa using h4
  have e6 : (p.k == 6) = false := by simpa using h6
  have e8 : (p.k == 8) = false := by simpa using h8
  have e9 : (p.k == 9) = false := by simpa using h9
  clear h1 h2 h3 h4 h6 h8 h9
  have HN := Lib.hid (HP.out.cells)
  clear hp
  generalize hC : p.cs.toArray = C at H0 H1 q0  HN ⊢
  have HC := Lib.hid hC
  clear hC
  have HBW := Lib.hid (((Below.refl w.heap.size w).alloc (Nat.le_refl _) (.cells C 59)).alloc (by simp) (.cells Tryz.zeroCells59 59))
  go_enter Tryz.func15, Tryz.ntmps15
  go_upto_region 2 with fail
  generalize hW : (w.alloc (.cells C 59)).alloc (.cells Tryz.zeroCells59 59) = W at *
  clear hW
  have hpn : ∃ p' : Pc, PcIn w0 p' ∧ p'.o4 = p.o4 ∧ p'.ot = p.ot ∧ C = p'.cs.toArray := ⟨p, HP.out, rfl, rfl, by
    rw [← HC.out]⟩
  obtain ⟨p', hpi, ho4, hot, hcs⟩ := hpn
  have HPN := Lib.hid hpi
  have HO4 := Lib.hid ho4
  have HOT := Lib.hid hot
  have hx := H0.out
  have hr := H1.out
  have HI := Lib.hid (show (Tryz.prog.info? 59).map (·.size) = some p'.cs.toArray.size by rw [HPN.out.cells]; exact info59)
  have HO := Lib.hid (show (Tryz.zeroCells59 : Array Value).size = p'.cs.toArray.size by rw [HPN.out.cells]; rfl)
  have HA := Lib.hid HPN.out.one
  rw [hcs] at hx
  clear hpi ho4 hot hcs
  generalize hD : p'.cs.toArray = D at *
  have HD := Lib.hid hD
  clear hD
  have HX := Lib.hid hx
  have HR := Lib.hid hr
  have HRS := Lib.hid (setRow_heap _ _ _ D _ _ hr)
  clear hx hr
  go_wp2_with (first
    | (refine wpList_load_row rfl 59 _ rfl w.heap.size rfl 59 _ (0, 0) _ HX.out Tryz.underlying59 rfl HI.out ?_)
    | (refine wpList_store_row rfl 59 _ _ rfl (w.heap.size + 1) _ rfl rfl 59 _ HR.out HI.out HO.out HA.out ?_))
  all_goals refine bodyPost_ret (results_cell_tmp rfl _ _ (w.heap.size + 1) _ rfl (run_loadVar_row _ _ 59 59 _ (0, 0) _ HRS.out Tryz.underlying59 rfl HI.out)) rfl ⟨p', _, by rw [HD.out]; rfl, HPN.out, HO4.out, HOT.out, below_setRow (by repeat first | with_reducible exact HBW.out | with_reducible refine Below.setCell ?_ (by simp) _) (by simp) _⟩
theorem linked_ (p : Pc) (next : Int) (w0 w : World) (hp : PcIn w0 p) : Calls Tryz.prog 15 #[.agg p.cs.toArray, .int .i64 next] w (RLink p w0 w) := by
  by_cases h1 : p.k = 1
  · exact linked1 p next w0 w hp h1
  by_cases h2 : p.k = 2
  · exact linked2 p next w0 w hp h2
  by_cases h3 : p.k = 3
  · exact linked3 p next w0 w hp h3
  by_cases h4 : p.k = 4
  · exact linked4 p next w0 w hp h4
  by_cases h6 : p.k = 6
  · exact linked6 p next w0 w hp h6
  by_cases h8 : p.k = 8
  · by_cases hn : next = 1
    · exact linked8a p next w0 w hp h8 hn
    · exact linked8b p next w0 w hp h8 hn
  by_cases h9 : p.k = 9
  · exact linked9 p next w0 w hp h9
  exact linked0 p next w0 w hp h1 h2 h3 h4 h6 h8 h9
end Go.Proofs.YtecgkcofmphaiaaGreatDoor.Gpk
namespace Go.Proofs.YtecgkcofmphaiaaGreatDoor.Gpk
open Go.RowKit
set_option linter.unusedVariables false
/-- The cells of a piece at once: the walk leaves these as they are. -/
def load70 (a : Addr) (n : Nat) : Sem (Array Value) := loadCells a n
theorem load70_eq (a : Addr) (n : Nat) : loadCells a n = load70 a n := rfl
theorem loadD {g : Nat} {D : Array Value} (hD : D.size = 70) (w' : World) (h : w'.heap[g]? = some (.cells D 59 (0, 0))) : (load70 ⟨g, 0, none⟩ 70).run Tryz.prog w' = .ok D w' := by
  have hl := run_loadCells_list (P := Tryz.prog) w' ⟨g, 0, none⟩ D.toList (fun j v hv => by
    have hadd : (⟨g, 0, none⟩ : Addr).add j = ⟨g, j, none⟩ := by unfold Addr.add; split <;> simp_all
    rw [hadd, cell_of_row w' g j D 59 (0, 0) h]
    simpa using hv)
  rw [Array.length_toList, hD, Array.toArray_toList] at hl
  exact hl
theorem storeD {l : List Value} (hl : l.length = 70) (h1 : l.toArray.all (·.oneCell') = true) (g : Nat) (w' : World) (h : w'.heap[g]? = some (.cells Tryz.zeroCells59 59 (0, 0))) : (storeCells ⟨g, 0, none⟩ l 0).run Tryz.prog w' = .ok () (w'.setRow g l.toArray) := by
  have := run_storeCells_from (P := Tryz.prog) g 59 l 0 Tryz.zeroCells59 w' h (by rw [hl]; rfl) (fun v hv => (Array.all_eq_true_iff_forall_mem.1 h1) v (by simpa using hv))
  exact this
def RLinked (w : World) (e : Ending) (w' : World) : Prop := ∃ (ao : Option Addr) (n c : Nat) (b : Bool), e = .returned (.tuple #[.slice ao n c, .bool b]) ∧ Below w.heap.size w w' ∧ (b = true → ∃ qs : List Pc, qs.length = n ∧ n ≤ 8 ∧ n ≤ c ∧ PcSl w' ao qs ∧ ∀ q ∈ qs, PcOk q)
theorem RLinked.no {w w' : World} (h : Below w.heap.size w w') : RLinked w (.returned (.tuple #[.slice none 0 0, .bool false])) w' := ⟨none, 0, 0, false, rfl, h, fun h => by cases h⟩
set_option maxRecDepth 100000 in
set_option maxHeartbeats 4000000 in
theorem Linked0 (A : Option Addr) (c : Nat) (w : World) : Calls Tryz.prog 8 #[.slice A 0 c] w (RLinked w) := by
  go_enter Tryz.func8, Tryz.ntmps8
  go_wp2_with fail
  go_ret2
  exact RLinked.no (Below.refl _ _)
set_option maxRecDepth 100000 in
set_option maxHeartbeats 4000000 in
theorem Linked9 (A : Option Addr) (n c : Nat) (hn : 8 < n) (w : World) : Calls Tryz.prog 8 #[.slice A n c] w (RLinked w) := by
  have n0 : ((n : Int) == 0) = false := by simp; omega
  have n1 : (8 : Int) < (n : Int) := by omega
  go_enter Tryz.func8, Tryz.ntmps8
  go_wp2_with fail
  go_ret2
  exact RLinked.no (Below.refl _ _)
set_option maxRecDepth 100000 in
set_option maxHeartbeats 4000000 in
theorem LinkedK (b o : Nat) (n c : Nat) (k : Int) (hn : n ≤ 8) (hn0 : n ≠ 0) (w : World) (h : w.cell? ⟨b, o, none⟩ = some (.int .i64 k)) (hk : k ≠ 1) : Calls Tryz.prog 8 #[.slice (some ⟨b, o, none⟩) n c] w (RLinked w) := by
  have n0 : ((n : Int) == 0) = false := by simp; omega
  have n1 : ¬ (8 : Int) < (n : Int) := by omega
  have n2 : (0 : Int) < (n : Int) := by omega
  have n3 : 0 < n := by omega
  have k1 : (k != 1) = true := by simpa using hk
  clear hn0 hk
  go_enter Tryz.func8, Tryz.ntmps8
  go_wp2_with fail
  go_ret2
  exact RLinked.no (Below.refl _ _)
/-- The loop's out: pieces one behind the other in a row of its own. -/
def OutP (w W : World) (v : Value) (n : Nat) (qs : List Pc) : Prop := qs.length = n ∧ W.ownsRow w.heap.size 59 70 v n (qs.flatMap Pc.cs) ∧ ∀ q ∈ qs, PcIn w q ∧ PcOk q
theorem OutP.below {w W W' : World} {v : Value} {n : Nat} {qs : List Pc} (h : OutP w W v n qs) (hb : Below W.heap.size W W') : OutP w W' v n qs := ⟨h.1, ownBelowS h.2.1 hb, h.2.2⟩
theorem flat_get : ∀ (qs : List Pc) (hl : ∀ q ∈ qs, q.cs.length = 70) (i : Nat) (q : Pc) (hq : qs[i]? = some q) (j : Nat) (v : Value) (hv : q.cs[j]? = some v), (qs.flatMap Pc.cs)[i * 70 + j]? = some v
  | [], _, i, q, hq, _, _, _ => by simp at hq
  | x :: xs, hl, 0, q, hq, j, v, hv => by
    have hx : x = q := by simpa using hq
    subst hx
    have hj : j < x.cs.length := (List.getElem?_eq_some_iff.1 hv).1
    rw [List.flatMap_cons, Nat.zero_mul, Nat.zero_add, List.getElem?_append_left hj]
    exact hv
  | x :: xs, hl, i + 1, q, hq, j, v, hv => by
    have hq' : xs[i]? = some q := by simpa using hq
    have hx := hl x (by simp)
    have ih := flat_get xs (fun q hq => hl q (by simp [hq])) i q hq' j v hv
    rw [List.flatMap_cons, List.getElem?_append_right (by omega), hx, show (i + 1) * 70 + j - 70 = i * 70 + j by omega]
    exact ih
theorem OutP.sl {w W : World} {v : Value} {n : Nat} {qs : List Pc} (h : OutP w W v n qs) (hb : Below w.heap.size w W) : ∃ ao c, v = .slice ao n c ∧ n ≤ c ∧ PcSl W ao qs ∧ ∀ q ∈ qs, PcOk q := by
  obtain ⟨hn, ⟨hl, h⟩, hq⟩ := h
  rcases h with ⟨rfl, rfl⟩ | ⟨g, cap, cur, rfl, _, hc, hnc, hm, hs, ht⟩
  · exact ⟨none, 0, rfl, Nat.le_refl _, .inl (List.length_eq_zero_iff.1 hn), fun q hq' => (hq q hq').2⟩
  · refine ⟨_, cap, rfl, hnc, .inr ⟨g, 0, rfl, lt_of_heap hc, fun i q hi => ⟨fun j v hv => ?_, (hq q (List.mem_of_getElem? hi)).1.below hb⟩⟩, fun q hq' => (hq q hq').2⟩
    have h1 := flat_get qs (fun q hq' => (hq q hq').1.len) i q hi j v hv
    rw [cell_of_row W g _ cur 59 (0, 0) hc]
    rw [← ht, List.getElem?_take] at h1
    split at h1
    · rw [Nat.zero_add]
      simpa using h1
    · cases h1
set_option maxRecDepth 100000 in
theorem infoS59 : (Tryz.prog.info? 59).map (fun i => (i.zero, i.size, i.bytes)) = some (some (.agg Tryz.zeroCells59), 70, 712) := by kernel_rfl
theorem OutP.snoc {w W W' : World} {v v' : Value} {n : Nat} {qs : List Pc} {q : Pc} (h : OutP w W v n qs) (hx : W'.ownsRow w.heap.size 59 70 v' (n + 1) (qs.flatMap Pc.cs ++ q.cs)) (hq : PcIn w q) (hk : PcOk q) : OutP w W' v' (n + 1) (qs ++ [q]) :=
  ⟨by simp [h.1], by simpa using hx, fun p hp => by
    rcases List.mem_append.1 hp with hp | hp
    · exact h.2.2 p hp
    · simp at hp
      subst hp
      exact ⟨hq, hk⟩⟩
theorem OutP.set {w W : World} {v : Value} {n : Nat} {qs : List Pc} {g i : Nat} {x : Value} (h : OutP w W v n qs) (hg : ∀ k, v.ownBlock = some k → k ≠ g) : OutP w (W.setCell ⟨g, i, none⟩ x) v n qs := by
  obtain ⟨h1, ⟨hl, h2⟩, h3⟩ := h
  refine ⟨h1, ⟨hl, ?_⟩, h3⟩
  rcases h2 with h2 | ⟨b, cap, cur, hv, hb, hc, hr⟩
  · exact .inl h2
  · refine .inr ⟨b, cap, cur, hv, hb, ?_, hr⟩
    rw [heap_far (a := ⟨g, i, none⟩) (hg b (by rw [hv]; rfl))]
    exact hc
/-- The piece at hand in a block. -/
def AtP (w W : World) (g : Nat) (q : Pc) : Prop := W.heap[g]? = some (.cells q.cs.toArray 59 (0, 0)) ∧ PcIn w q ∧ OptFit q.o4 ∧ OptFit q.ot
theorem wpList_one59 {ops : Array Oper} {rest : List Oper} {o : Oper} {a : Act} {w : World} {Q : Exit → Act → World → Prop} (hg : o.guard = none) (x : Operand) (ho : o.op = .buildSlice 25 1 #[(0, x)]) (cs : Array Value) (hx : a.eval x = .agg cs) (hcs : cs.size = 70)
    (h : wpList Tryz.prog ops Q rest (a.put o.dst (.slice (some ⟨w.heap.size, 0, none⟩) 1 1)) (w.alloc (.cells cs 59))) : wpList Tryz.prog ops Q (o :: rest) a w := by
  obtain ⟨ie, hie, hz, hs, _⟩ := info_parts infoS59
  refine wpList_buildSlice hg 25 59 1 #[(0, x)] ho cs ie (.agg Tryz.zeroCells59) Tryz.underlying25 hie hz (by rw [hs]; omega) (by rw [hs]; omega) ?_ h
  rw [hs]
  have h0 := Great.fill_whole (s := 70) (by omega) [.agg cs] ((Array.range (1 * 70)).map ((Value.agg Tryz.zeroCells59).cells[· % (Value.agg Tryz.zeroCells59).cells.size]!)) (by simp [Value.cells, hcs]) (by simp)
  simpa [hx, Value.cells] using h0
attribute [local irreducible] Go.loadCells
set_option maxRecDepth 100000 in
set_option maxHeartbeats 8000000 in
theorem Linked1 (b o c : Nat) (ps : List Pc) (w : World) (hb : b < w.heap.size) (hps : PcsV w b o ps) (hfit : PcsFit ps) (hn : ps.length ≤ 8) (hn0 : ps.length ≠ 0) (hk : ∀ p, ps[0]? = some p → p.k = 1) : Calls Tryz.prog 8 #[.slice (some ⟨b, o, none⟩) ps.length c] w (RLinked w) := by
  have n0 : ((ps.length : Int) == 0) = false := by rw [beq_eq_false_iff_ne]; omega
  have n1 : ¬ (8 : Int) < (ps.length : Int) := by omega
  have n2 : (0 : Int) < (ps.length : Int) := by omega
  have n3 : 0 < ps.length := by omega
  have hp0 : ps[0]? = some ps[0] := List.getElem?_eq_getElem n3
  have hr0 := (hps 0 _ hp0).1 0 _ rfl
  rw [hk _ hp0] at hr0
  simp only [Nat.zero_mul, Nat.add_zero] at hr0
  have HPS := Lib.hid hps
  have HFIT := Lib.hid hfit
  clear hps hfit hn0 hk hp0
  have hL70 := load70_eq
  go_enter Tryz.func8, Tryz.ntmps8
  go_wp2_with fail
  go_loopw [4, 27] (fun t4 t27 wr => ∃ (i : Nat) (ao : Option Addr) (co : Nat) (qs : List Pc), t27 = .int .i64 (i : Nat) ∧ i ≤ ps.length ∧ t4 = .slice ao i co ∧ Hid (OutP w wr (.slice ao i co) i qs) ∧ Hid (Below w.heap.size w wr)) (fun _ t27 _ => ps.length - natX t27)
  case atStart => exact ⟨0, _, 0, [], rfl, Nat.zero_le _, rfl, Lib.hid ⟨rfl, ⟨rfl, .inr ⟨_, _, #[], rfl, Nat.le_refl _, heap_alloc_new w _, Nat.le_refl _, by unfold maxLen; omega, rfl, rfl⟩⟩, by simp⟩, Lib.hid ((Below.refl _ _).alloc (Nat.le_refl _) _)⟩
  case round =>
    obtain ⟨i, ao, co, qs, rfl, hi, rfl, HQ, HB⟩ := hrel
    by_cases hlt : i < ps.length
    · have m1 : (i : Int) < (ps.length : Int) := by omega
      have m3 : (0 : Int) ≤ (i : Int) := by omega
      have m4 : ((i : Int)).toNat = i := by omega
      have m5 : IntKind.i64.wrap ((i : Int) + 1) = (i : Int) + 1 := by rw [IntKind.wrap_i64]; omega
      obtain ⟨p, hx⟩ : ∃ x, x = ps[i] := ⟨_, rfl⟩
      have hxi : ps[i]? = some p := by rw [hx]; exact List.getElem?_eq_getElem hlt
      obtain ⟨hra, hpi⟩ := HPS.out i p hxi
      have HF := Lib.hid (HFIT.out p (List.mem_of_getElem? hxi))
      have HRA := Lib.hid (rangeBelow hra hb HB.out)
      have HPI := Lib.hid hpi
      have HI := Lib.hid (show (Tryz.prog.info? 59).map (·.size) = some p.cs.length by rw [hpi.len]; exact size59)
      have HI2 := Lib.hid (show (Tryz.prog.info? 59).map (·.size) = some p.cs.toArray.size by rw [hpi.size]; exact size59)
      have HO := Lib.hid (show Tryz.zeroCells59.size = p.cs.toArray.size by rw [hpi.size]; rfl)
      have HAL := Lib.hid hpi.all
      have hbr : b < wr.heap.size := by have := HB.out.size; omega
      have HZ := Lib.hid (heap_alloc_new wr (.cells Tryz.zeroCells59 59))
      have HN := Lib.hid (heap_alloc_new wr (.cells p.cs.toArray 59))
      clear hra hpi hxi hx
      go_upto_if 36 with (first
        | (refine wpList_load_mid rfl 59 _ rfl b (o + i * 70) rfl _ _ HRA.out Tryz.underlying59 rfl HI.out ?_)
        | (refine wpList_store_row rfl 59 _ _ rfl wr.heap.size _ rfl rfl 59 _ HZ.out HI2.out HO.out HAL.out ?_; rw [setRow_allocS]))
      go_cut [8] (fun _ wx => ∃ q, AtP w wx wr.heap.size q ∧ OutP w wx (.slice ao i co) i qs ∧ Below w.heap.size w wx)
      case first =>
        by_cases hi1 : i + 1 < ps.length
        · have m6 : (i : Int) + 1 < (ps.length : Int) := by omega
          have m7 : (0 : Int) ≤ (i : Int) + 1 := by omega
          have m8 : ((i : Int) + 1).toNat = i + 1 := by omega
          obtain ⟨p1, hx1⟩ : ∃ x, x = ps[i + 1] := ⟨_, rfl⟩
          have hxi1 : ps[i + 1]? = some p1 := by rw [hx1]; exact List.getElem?_eq_getElem hi1
          have e1 := (HB.out.cell (p := ⟨b, o + (i + 1) * 70 + 0, none⟩) hb).trans ((HPS.out (i + 1) p1 hxi1).1 0 _ rfl)
          rw [Nat.add_zero] at e1
          clear hx1 hxi1
          have hl := fun (w' : World) (h : w'.heap[wr.heap.size]? = some (.cells p.cs.toArray 59 (0, 0))) => loadD (g := wr.heap.size) HPI.out.size w' h
          have E1 := Lib.hid ((World.cell?_alloc_lt wr (.cells p.cs.toArray 59) ⟨b, o + (i + 1) * 70, none⟩ hbr).trans e1)
          have HNA := Lib.hid ((heap_alloc_old ((wr.alloc (.cells p.cs.toArray 59)).drewN 1) (.cells Tryz.zeroCells59 59) (lt_of_heap HN.out)).trans HN.out)
          have EA := Lib.hid ((World.cell?_alloc_lt ((wr.alloc (.cells p.cs.toArray 59)).drewN 1) (.cells Tryz.zeroCells59 59) ⟨b, o + (i + 1) * 70, none⟩ (Nat.lt_trans hbr (lt_of_heap HN.out))).trans E1.out)
          have HZA := Lib.hid (heap_alloc_new ((wr.alloc (.cells p.cs.toArray 59)).drewN 1) (.cells Tryz.zeroCells59 59))
          clear e1
          go_upto_region 8 with fail
          go_region_held3 (fun w' => w'.heap[wr.heap.size]? = some (.cells p.cs.toArray 59 (0, 0)) ∧ w'.cell? ⟨b, o + (i + 1) * 70, none⟩ = some (.int .i64 p1.k))
            (first
              | exact ⟨HN.out, E1.out⟩
              | exact ⟨HNA.out, EA.out⟩
              | exact HS2.out
              | exact ⟨(heap_alloc_old _ _ (lt_of_heap HS2.out.1)).trans HS2.out.1, (World.cell?_alloc_lt _ _ _ (Nat.lt_trans hbr (lt_of_heap HS2.out.1))).trans HS2.out.2⟩
              | exact ⟨(setRow_other _ _ _ _ (by omega)).trans HS2.out.1, (cell_setRow_other _ _ _ _ (by show b ≠ _; omega)).trans HS2.out.2⟩)
            (first
              | (go_at_call 15; refine (linked_ p _ w _ HPI.out).mono ?_; rintro e w2 ⟨p', r, rfl, hp', ho4, hot, hbl⟩
                 have HS2 : Hid (w2.heap[wr.heap.size]? = some (.cells p.cs.toArray 59 (0, 0)) ∧ w2.cell? ⟨b, o + (i + 1) * 70, none⟩ = some (.int .i64 p1.k)) := Lib.hid (by first | exact ⟨(hbl.block _ (lt_of_heap HN.out)).trans HN.out, (hbl.cell (p := ⟨b, o + (i + 1) * 70, none⟩) (Nat.lt_trans hbr (lt_of_heap HN.out))).trans E1.out⟩ | exact ⟨(hbl.block _ (lt_of_heap HNA.out)).trans HNA.out, (hbl.cell (p := ⟨b, o + (i + 1) * 70, none⟩) (Nat.lt_trans hbr (lt_of_heap HNA.out))).trans EA.out⟩)
                 have hst1 : (storeCells ⟨w2.heap.size, 0, none⟩ p'.cs 0).run Tryz.prog (w2.alloc (.cells Tryz.zeroCells59 59)) = .ok () (w2.alloc (.cells p'.cs.toArray 59)) := (storeD hp'.len hp'.all _ _ (heap_alloc_new w2 (.cells Tryz.zeroCells59 59))).trans (by rw [setRow_allocS])
                 try have hst2 := storeD hp'.len hp'.all _ _ ((hbl.block _ (lt_of_heap HZA.out)).trans HZA.out)
                 try have HZ2 := Lib.hid ((hbl.block _ (lt_of_heap HZA.out)).trans HZA.out)
                 try rw [show ((wr.alloc (.cells p.cs.toArray 59)).drewN 1).heap.size = wr.heap.size + 1 by simp] at hst2
                 have hlen := hp'.len
                 have HBR : Hid (Below wr.heap.size wr w2) := Lib.hid (by first | exact (below_drewN ((Below.refl wr.heap.size wr).alloc (Nat.le_refl _) (.cells p.cs.toArray 59)) 1).trans (hbl.mono (by simp)) | exact ((below_drewN ((Below.refl wr.heap.size wr).alloc (Nat.le_refl _) (.cells p.cs.toArray 59)) 1).alloc (by show wr.heap.size ≤ (wr.alloc _).heap.size; simp) (.cells Tryz.zeroCells59 59)).trans (hbl.mono (by simp; omega)))
                 have HP' := Lib.hid hp'; have HO4 := Lib.hid ho4; have HOT := Lib.hid hot
                 clear hbl hp' ho4 hot))
          · have HX7 := Lib.hid (heap_alloc_new w2 (.cells p'.cs.toArray 59))
            have HX6 := Lib.hid ((heap_alloc_old w2 (.cells p'.cs.toArray 59) (lt_of_heap HS2.out.1)).trans HS2.out.1)
            have HBW := Lib.hid (HBR.out.alloc HBR.out.size (.cells p'.cs.toArray 59))
            have HI3 := Lib.hid (show (Tryz.prog.info? 59).map (·.size) = some p'.cs.toArray.size by rw [HP'.out.size]; exact size59)
            have HO3 := Lib.hid (show p.cs.toArray.size = p'.cs.toArray.size by rw [HP'.out.size, HPI.out.size])
            have HA3 := Lib.hid HP'.out.all
            clear hl hst1 hlen
            cases r
            · go_wp2_with fail
              go_ret2
              exact RLinked.no (HB.out.trans (HBW.out.mono HB.out.size))
            · go_wp2_with (first
                | (refine wpList_load_row rfl 59 _ rfl (w2.heap.size) rfl 59 _ (0, 0) _ HX7.out Tryz.underlying59 rfl HI3.out ?_)
                | (refine wpList_store_row rfl 59 _ _ rfl wr.heap.size _ rfl rfl 59 _ HX6.out HI3.out HO3.out HA3.out ?_))
              go_meet
              case rel => exact ⟨p', ⟨setRow_heap _ _ _ _ _ _ HX6.out, HP'.out, HO4.out ▸ HF.out.1, HOT.out ▸ HF.out.2⟩, HQ.out.below (below_setRow HBW.out (Nat.le_refl _) _), below_setRow (HB.out.trans (HBW.out.mono HB.out.size)) HB.out.size _⟩
          · have HX7 := Lib.hid (setRow_heap w2 (wr.heap.size + 1) _ p'.cs.toArray _ _ (by have := HZ2.out; rwa [show ((wr.alloc (.cells p.cs.toArray 59)).drewN 1).heap.size = wr.heap.size + 1 by simp] at this))
            have HX6 := Lib.hid ((setRow_other w2 (wr.heap.size + 1) wr.heap.size p'.cs.toArray (by omega)).trans HS2.out.1)
            have HBW := Lib.hid (below_setRow (g := wr.heap.size + 1) HBR.out (by omega) p'.cs.toArray)
            have HI3 := Lib.hid (show (Tryz.prog.info? 59).map (·.size) = some p'.cs.toArray.size by rw [HP'.out.size]; exact size59)
            have HO3 := Lib.hid (show p.cs.toArray.size = p'.cs.toArray.size by rw [HP'.out.size, HPI.out.size])
            have HA3 := Lib.hid HP'.out.all
            clear hl hst1 hlen
            cases r
            · go_wp2_with fail
              go_ret2
              exact RLinked.no (HB.out.trans (HBW.out.mono HB.out.size))
            · go_wp2_with (first
                | (refine wpList_load_row rfl 59 _ rfl (wr.heap.size + 1) rfl 59 _ (0, 0) _ HX7.out Tryz.underlying59 rfl HI3.out ?_)
                | (refine wpList_store_row rfl 59 _ _ rfl wr.heap.size _ rfl rfl 59 _ HX6.out HI3.out HO3.out HA3.out ?_))
              go_meet
              case rel => exact ⟨p', ⟨setRow_heap _ _ _ _ _ _ HX6.out, HP'.out, HO4.out ▸ HF.out.1, HOT.out ▸ HF.out.2⟩, HQ.out.below (below_setRow HBW.out (Nat.le_refl _) _), below_setRow (HB.out.trans (HBW.out.mono HB.out.size)) HB.out.size _⟩
        · have m6 : ¬ (i : Int) + 1 < (ps.length : Int) := by omega
          go_wp2_with fail
          go_meet
          case rel => exact ⟨p, ⟨HN.out, HPI.out, HF.out.1, HF.out.2⟩, HQ.out.below ((Below.refl _ _).alloc (Nat.le_refl _) _), HB.out.alloc HB.out.size _⟩
      case rest =>
        obtain ⟨q, ⟨hx6, hqi, hq4, hqt⟩, hout, hbel⟩ := hcut
        have q0 := (cell_of_row _ _ 0 _ 59 (0, 0) hx6).trans (show q.cs.toArray[0]? = some (.int .i64 q.k) by simp [Pc.cs])
        obtain ⟨eA0, ec0, eA1, ec1, e2, e3, he, eH0, eH1⟩ := hqi.e
        have q4 := (cell_of_row _ _ 4 _ 59 (0, 0) hx6).trans (show q.cs.toArray[4]? = some (.int .i64 e3) by simp [Pc.cs, he])
        have f4 := unfrozen (i := 4) hx6
        have HX6 := Lib.hid hx6
        have HQI := Lib.hid hqi
        have HQ4 := Lib.hid hq4
        have HQT := Lib.hid hqt
        have HOUT := Lib.hid hout
        have HBEL := Lib.hid hbel
        have HE := Lib.hid he
        have EH0 := Lib.hid eH0
        have EH1 := Lib.hid eH1
        have HSW0 := Lib.hid (show w.heap.size ≤ wr.heap.size from HB.out.size)
        have HSW := Lib.hid (fun (k : Nat) (hk : (Value.slice ao i co).ownBlock = some k) => show k ≠ wr.heap.size from by have := (HQ.out.2.1.lt k hk).2; omega)
        clear hx6 hqi hq4 hqt hout hbel he eH0 eH1 HRA HPI HI HI2 HO HAL HZ HN HF HQ HB
        have hwl : wr.heap.size < wc.heap.size := lt_of_heap HX6.out
        go_upto_if 53 with fail
        go_cut [8] (fun _ wx => ∃ q, AtP w wx wr.heap.size q ∧ OutP w wx (.slice ao i co) i qs ∧ Below w.heap.size w wx)
        case first =>
          by_cases hk : q.k = 1
          · have kb : (q.k == 1) = true := by simpa using hk
            clear hk
            go_wp2_with fail
            go_meet
            case rel => exact ⟨{ q with e := [.slice eA0 q.ne ec0, .slice eA1 q.nf ec1, .int .i64 e2, .int .i64 0] }, ⟨(heap_set HX6.out _).trans (by simp [Pc.cs, HE.out]), ⟨⟨eA0, ec0, eA1, ec1, e2, 0, rfl, EH0.out, EH1.out⟩, HQI.out.v, HQI.out.f, HQI.out.y, HQI.out.t, HQI.out.u, HQI.out.h, HQI.out.g, HQI.out.x, HQI.out.r⟩, HQ4.out, HQT.out⟩, HOUT.out.set HSW.out, HBEL.out.setCell HSW0.out _⟩
          · have kb : (q.k == 1) = false := by simpa using hk
            clear hk
            go_wp2_with fail
            go_meet
            case rel => exact ⟨q, ⟨HX6.out, HQI.out, HQ4.out, HQT.out⟩, HOUT.out, HBEL.out⟩
        case rest =>
          clear HX6 HQI HQ4 HQT HOUT HBEL HE EH0 EH1 q0 q4 f4 hwl
          obtain ⟨q1, ⟨hx6, hqi, hq4, hqt⟩, hout, hbel⟩ := hcut
          have HX6 := Lib.hid hx6
          have HQI := Lib.hid hqi
          have HQ4 := Lib.hid hq4
          have HQT := Lib.hid hqt
          have HOUT := Lib.hid hout
          have HBEL := Lib.hid hbel
          have HI := Lib.hid (show (Tryz.prog.info? 59).map (·.size) = some q1.cs.toArray.size by rw [hqi.size]; exact size59)
          clear hx6 hqi hq4 hqt hout hbel
          go_wp2_with (refine wpList_load_row rfl 59 _ rfl wr.heap.size rfl 59 _ (0, 0) _ HX6.out Tryz.underlying59 rfl HI.out ?_)
          refine (isPiece_ q1 _ (HQI.out.below HBEL.out) HQ4.out HQT.out).mono ?_
          rintro e w3 ⟨⟨r, rfl, hr⟩, hb3⟩
          have HB3 := Lib.hid hb3
          cases r
          · clear hr hb3
            go_wp2_with fail
            go_ret2
            exact RLinked.no (HBEL.out.trans (HB3.out.mono HBEL.out.size))
          · have HR := Lib.hid (hr rfl)
            have HX63 := Lib.hid ((hb3.block _ (lt_of_heap HX6.out)).trans HX6.out)
            clear hr hb3
            have HSZ := Lib.hid HQI.out.size
            obtain ⟨i59, hi59, hz59, hs59, hb59⟩ := info_parts infoS59
            have HI59 := Lib.hid hi59
            have HZ59 := Lib.hid hz59
            have HS59 := Lib.hid hs59
            have HB59 := Lib.hid hb59
            clear hi59 hz59 hs59 hb59
            have HO3 := Lib.hid (HOUT.out.below HB3.out)
            have HBL3 := Lib.hid (HBEL.out.trans (HB3.out.mono HBEL.out.size))
            go_wp2_with (first
              | (refine wpList_load_row rfl 59 _ rfl wr.heap.size rfl 59 _ (0, 0) _ HX63.out Tryz.underlying59 rfl HI.out ?_)
              | (refine wpList_one59 rfl (.tmp 60) rfl _ rfl HSZ.out ?_)
              | (at_builtin; (refine wpList_append_lies _ rfl (.tmp 59) (.tmp 61) 25 rfl w.heap.size 59 i59 (.agg Tryz.zeroCells59) 70 712 Tryz.underlying25 HI59.out HZ59.out HS59.out HB59.out rfl (by decide) _ i _ rfl (HO3.out.2.1.alloc (.cells q1.cs.toArray 59)) ⟨w3.heap.size, 0, none⟩ 1 1 q1.cs.toArray.toList rfl (by simp; exact HQI.out.len) (World.news_of_block (heap_alloc_new w3 _)) (fun u hu => (Array.all_eq_true_iff_forall_mem.1 HQI.out.all) u (by simpa using hu)) (by omega) (by unfold maxLen; omega) (by omega) (by have := HBL3.out.size; simp; omega) _ rfl ?_)))
            intro g cap w4 hown hgrow hg1 hg2
            have HP4 := Lib.hid (HOUT.out.snoc (by simpa using hown) HQI.out HR.out)
            have HB4 := Lib.hid ((HBL3.out.alloc HBL3.out.size (.cells q1.cs.toArray 59)).grown hgrow (by have := HBL3.out.size; simp; omega) (fun k hk => (HO3.out.2.1.lt k hk).1))
            clear hown hgrow hg1 hg2
            go_wp2_with fail
            go_roundw
            case rel => exact ⟨i + 1, _, cap, qs ++ [q1], rfl, by omega, rfl, HP4, HB4⟩
            case measure => simp [natX]; omega
    · have m6 : ¬ (i : Int) < (ps.length : Int) := by omega
      obtain ⟨ao', c', hv, hnc, hsl, hok⟩ := HQ.out.sl HB.out
      simp only [Value.slice.injEq] at hv
      obtain ⟨rfl, _, rfl⟩ := hv
      have HSL := Lib.hid hsl
      have HOK := Lib.hid hok
      have HNC := Lib.hid hnc
      have HLN := Lib.hid HQ.out.1
      clear hsl hok hnc
      go_wp2_with fail
      go_ret2
      exact ⟨ao, i, co, true, rfl, HB.out, fun _ => ⟨qs, HLN.out, by omega, HNC.out, HSL.out, HOK.out⟩⟩
theorem Linked_ (A : Option Addr) (c : Nat) (ps : List Pc) (w : World) (hp : PcSl w A ps) (hfit : PcsFit ps) : Calls Tryz.prog 8 #[.slice A ps.length c] w (RLinked w) := by
  by_cases h0 : ps.length = 0
  · rw [h0]
    exact Linked0 A c w
  · by_cases h9 : 8 < ps.length
    · exact Linked9 A ps.length c h9 w
    · obtain ⟨b, o, rfl, hb, hv⟩ := hp.resolve_left (by intro h; rw [h] at h0; exact h0 rfl)
      have hx : ps[0]? = some ps[0] := List.getElem?_eq_getElem (by omega)
      by_cases hk : ps[0].k = 1
      · exact Linked1 b o c ps w hb hv hfit (by omega) h0 (fun p hp => by rw [hx] at hp; obtain rfl := Option.some.inj hp; exact hk)
      · have hr0 := (hv 0 _ hx).1 0 _ rfl
        simp only [Nat.zero_mul, Nat.add_zero] at hr0
        exact LinkedK b o ps.length c _ (by omega) h0 w hr0 hk
end Go.Proofs.YtecgkcofmphaiaaGreatDoor.Gpk
