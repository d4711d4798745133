/- A piece with what tells of the next one. -/
import Derived.Test.YtecgkcofmphaiaaGreatDoorS17
set_option linter.unusedVariables false
set_option linter.unusedSimpArgs false
set_option linter.unnecessarySimpa false
set_option linter.unusedSectionVars false
namespace Go.Proofs.YtecgkcofmphaiaaGreatDoor.Gpk
open Go.RowKit
set_option linter.unusedVariables false
theorem heap0' (w : World) (X R : Obj) : ((w.alloc X).alloc R).heap[w.heap.size]? = some X := by
  have h0 : (w.alloc X).heap[w.heap.size]? = some X := heap_alloc_new w X
  exact (heap_alloc_old _ _ (lt_of_heap h0)).trans h0
theorem heap1' (w : World) (X R : Obj) : ((w.alloc X).alloc R).heap[w.heap.size + 1]? = some R := by
  have := heap_alloc_new (w.alloc X) R
  rwa [World.size_alloc] at this
theorem results_cell_tmp {fn : Func} {p q : Tmp} {ty : TypeId} (h : fn.results = #[.cell p ty, .tmp q]) (tmps : Array Value) (w : World) (g : Nat) (cs : Array Value)
    (hp : tmps.getD p undef = .pointer (some ⟨g, 0, none⟩))
    (hl : (loadVar ty ⟨g, 0, none⟩).run Tryz.prog w = .ok (.agg cs) w) :
    (results fn tmps).run Tryz.prog w = .ok (.tuple #[.agg cs, tmps.getD q undef]) w := by
  have hp' : tmps[p]?.getD undef = .pointer (some ⟨g, 0, none⟩) := by simpa using hp
  simp [results, h, hp', asAddr, hl]
set_option maxRecDepth 100000 in
theorem info59 : (Tryz.prog.info? 59).map (·.size) = some 70 := by kernel_rfl
theorem PcIn.one {w : World} {p : Pc} (h : PcIn w p) : p.cs.toArray.all (·.oneCell') = true := by
  obtain ⟨eA0, ec0, eA1, ec1, e2, e3, e0', eH0, eH1⟩ := h.e
  obtain ⟨v0, v1, v2, v3, v0'⟩ := h.v
  obtain ⟨f0, f1, f2, f3, f4, f5, f6, f7, f8, fA9, fc9, fA10, fc10, fA11, fc11, f0', fH9, fH10, fH11⟩ := h.f
  obtain ⟨y0, y1, y2, y3, y4, yA5, yc5, yA6, yc6, y0', yH5, yH6⟩ := h.y
  obtain ⟨t0, t1, t2, t3, t4, t5, t6, t7, t8, tA9, tc9, t0', tH9⟩ := h.t
  obtain ⟨u0, u1, u2, u3, u0'⟩ := h.u
  obtain ⟨h0, h1, h2, h3, h4, h0'⟩ := h.h
  obtain ⟨g0, g1, g2, g3, g4, g5, g6, g7, g8, g9, g0'⟩ := h.g
  obtain ⟨x0, x1, x2, x3, x4, x5, x0'⟩ := h.x
  obtain ⟨r0, r1, r2, rA3, rc3, rA4, rc4, rA5, rc5, rA6, rc6, r0', rH3, rH4, rH5, rH6⟩ := h.r
  simp [Pc.cs, e0', v0', f0', y0', t0', u0', h0', g0', x0', r0', Value.oneCell']
theorem PcIn.cells {w : World} {p : Pc} (h : PcIn w p) : p.cs.toArray.size = 70 := by simpa using h.len
/-- What 'linked' answers: a piece with the same sizes, and whether it may stand there. -/
def RLink (p : Pc) (w0 w : World) (e : Ending) (w' : World) : Prop := ∃ (p' : Pc) (b : Bool), e = .returned (.tuple #[.agg p'.cs.toArray, .bool b]) ∧ PcIn w0 p' ∧ p'.o4 = p.o4 ∧ p'.ot = p.ot ∧ Below w.heap.size w w'
set_option maxRecDepth 100000 in
set_option maxHeartbeats 4000000 in
theorem linked1 (p : Pc) (next : Int) (w0 w : World) (hp : PcIn w0 p) (hk : p.k = 1) : Calls Tryz.prog 15 #[.agg p.cs.toArray, .int .i64 next] w (RLink p w0 w) := by
  have H0 := Lib.hid (heap0' w (.cells p.cs.toArray 59) (.cells Tryz.zeroCells59 59))
  have H1 := Lib.hid (heap1' w (.cells p.cs.toArray 59) (.cells Tryz.zeroCells59 59))
  have HP := Lib.hid hp
  obtain ⟨eA0, ec0, eA1, ec1, e2, e3, e0', eH0, eH1⟩ := hp.e
  have E_e := Lib.hid e0'
  have eH0 := Lib.hid eH0
  have eH1 := Lib.hid eH1
  clear e0'
  have q0 := (cell_of_row _ _ 0 _ 59 (0, 0) H0.out).trans (show p.cs.toArray[0]? = some (.int .i64 p.k) by simp [Pc.cs])
  rw [hk] at q0
  clear hk
  have q3 := (cell_of_row _ _ 3 _ 59 (0, 0) H0.out).trans (show p.cs.toArray[3]? = some (.int .i64 e2) by simp [Pc.cs, E_e.out])
  have f3 := unfrozen (i := 3) H0.out
  have HN := Lib.hid (HP.out.cells)
  clear hp
  generalize hC : p.cs.toArray = C at H0 H1 q0 q3 f3 HN ⊢
  have HC := Lib.hid hC
  clear hC
  have HBW := Lib.hid (((Below.refl w.heap.size w).alloc (Nat.le_refl _) (.cells C 59)).alloc (by simp) (.cells Tryz.zeroCells59 59))
  go_enter Tryz.func15, Tryz.ntmps15
  go_upto_region 2 with fail
  generalize hW : (w.alloc (.cells C 59)).alloc (.cells Tryz.zeroCells59 59) = W at *
  clear hW
  go_wp2_with fail
  refine (etherType_ _ _).mono ?_
  rintro e w1 ⟨⟨x, b, rfl⟩, rfl⟩
  have hpn : ∃ p' : Pc, PcIn w0 p' ∧ p'.o4 = p.o4 ∧ p'.ot = p.ot ∧ (C.setIfInBounds 3 (.int .i64 x)) = p'.cs.toArray := ⟨{ p with e := [.slice eA0 p.ne ec0, .slice eA1 p.nf ec1, .int .i64 x, .int .i64 e3] }, ⟨⟨eA0, ec0, eA1, ec1, _, e3, rfl, eH0.out, eH1.out⟩, HP.out.v, HP.out.f, HP.out.y, HP.out.t, HP.out.u, HP.out.h, HP.out.g, HP.out.x, HP.out.r⟩, rfl, rfl, by
    rw [← HC.out]
    simp [Pc.cs, E_e.out]⟩
  obtain ⟨p', hpi, ho4, hot, hcs⟩ := hpn
  have HPN := Lib.hid hpi
  have HO4 := Lib.hid ho4
  have HOT := Lib.hid hot
  have hx := heap_set (i := 3) (H0.out) (.int .i64 x)
  have hr := (heap_far (a := ⟨w.heap.size, 3, none⟩) (by simp) (.int .i64 x)).trans (H1.out)
  have HI := Lib.hid (show (Tryz.prog.info? 59).map (·.size) = some p'.cs.toArray.size by rw [HPN.out.cells]; exact info59)
  have HO := Lib.hid (show (Tryz.zeroCells59 : Array Value).size = p'.cs.toArray.size by rw [HPN.out.cells]; rfl)
  have HA := Lib.hid HPN.out.one
  rw [hcs] at hx
  clear hpi ho4 hot hcs
  generalize hD : p'.cs.toArray = D at *
  have HD := Lib.hid hD
  clear hD
  have HX := Lib.hid hx
  have HR := Lib.hid hr
  have HRS := Lib.hid (setRow_heap _ _ _ D _ _ hr)
  clear hx hr
  go_wp2_with (first
    | (refine wpList_load_row rfl 59 _ rfl w.heap.size rfl 59 _ (0, 0) _ HX.out Tryz.underlying59 rfl HI.out ?_)
    | (refine wpList_store_row rfl 59 _ _ rfl (w.heap.size + 1) _ rfl rfl 59 _ HR.out HI.out HO.out HA.out ?_))
  all_goals refine bodyPost_ret (results_cell_tmp rfl _ _ (w.heap.size + 1) _ rfl (run_loadVar_row _ _ 59 59 _ (0, 0) _ HRS.out Tryz.underlying59 rfl HI.out)) rfl ⟨p', _, by rw [HD.out]; rfl, HPN.out, HO4.out, HOT.out, below_setRow (by repeat first | with_reducible exact HBW.out | with_reducible refine Below.setCell ?_ (by simp) _) (by simp) _⟩
set_option maxRecDepth 100000 in
set_option maxHeartbeats 4000000 in
theorem linked2 (p : Pc) (next : Int) (w0 w : World) (hp : PcIn w0 p) (hk : p.k = 2) : Calls Tryz.prog 15 #[.agg p.cs.toArray, .int .i64 next] w (RLink p w0 w) := by
  have H0 := Lib.hid (heap0' w (.cells p.cs.toArray 59) (.cells Tryz.zeroCells59 59))
  have H1 := Lib.hid (heap1' w (.cells p.cs.toArray 59) (.cells Tryz.zeroCells59 59))
  have HP := Lib.hid hp
  obtain ⟨eA0, ec0, eA1, ec1, e2, e3, e0', eH0, eH1⟩ := hp.e
  have E_e := Lib.hid e0'
  have eH0 := Lib.hid eH0
  have eH1 := Lib.hid eH1
  clear e0'
  obtain ⟨v0, v1, v2, v3, v0'⟩ := hp.v
  have E_v := Lib.hid v0'
  clear v0'
  have q0 := (cell_of_row _ _ 0 _ 59 (0, 0) H0.out).trans (show p.cs.toArray[0]? = some (.int .i64 p.k) by simp [Pc.cs])
  rw [hk] at q0
  clear hk
  have q8 := (cell_of_row _ _ 8 _ 59 (0, 0) H0.out).trans (show p.cs.toArray[8]? = some (.int .i64 v3) by simp [Pc.cs, E_e.out, E_v.out])
  have f8 := unfrozen (i := 8) H0.out
  have HN := Lib.hid (HP.out.cells)
  clear hp
  generalize hC : p.cs.toArray = C at H0 H1 q0 q8 f8 HN ⊢
  have HC := Lib.hid hC
  clear hC
  have HBW := Lib.hid (((Below.refl w.heap.size w).alloc (Nat.le_refl _) (.cells C 59)).alloc (by simp) (.cells Tryz.zeroCells59 59))
  go_enter Tryz.func15, Tryz.ntmps15
  go_upto_region 2 with fail
  generalize hW : (w.alloc (.cells C 59)).alloc (.cells Tryz.zeroCells59 59) = W at *
  clear hW
  go_wp2_with fail
  refine (etherType_ _ _).mono ?_
  rintro e w1 ⟨⟨x, b, rfl⟩, rfl⟩
  have hpn : ∃ p' : Pc, PcIn w0 p' ∧ p'.o4 = p.o4 ∧ p'.ot = p.ot ∧ (C.setIfInBounds 8 (.int .i64 x)) = p'.cs.toArray := ⟨{ p with v := [.int .i64 v0, .bool v1, .int .i64 v2, .int .i64 x] }, ⟨HP.out.e, ⟨v0, v1, v2, _, rfl⟩, HP.out.f, HP.out.y, HP.out.t, HP.out.u, HP.out.h, HP.out.g, HP.out.x, HP.out.r⟩, rfl, rfl, by
    rw [← HC.out]
    simp [Pc.cs, E_e.out, E_v.out]⟩
  obtain ⟨p', hpi, ho4, hot, hcs⟩ := hpn
  have HPN := Lib.hid hpi
  have HO4 := Lib.hid ho4
  have HOT := Lib.hid hot
  have hx := heap_set (i := 8) (H0.out) (.int .i64 x)
  have hr := (heap_far (a := ⟨w.heap.size, 8, none⟩) (by simp) (.int .i64 x)).trans (H1.out)
  have HI := Lib.hid (show (Tryz.prog.info? 59).map (·.size) = some p'.cs.toArray.size by rw [HPN.out.cells]; exact info59)
  have HO := Lib.hid (show (Tryz.zeroCells59 : Array Value).size = p'.cs.toArray.size by rw [HPN.out.cells]; rfl)
  have HA := Lib.hid HPN.out.one
  rw [hcs] at hx
  clear hpi ho4 hot hcs
  generalize hD : p'.cs.toArray = D at *
  have HD := Lib.hid hD
  clear hD
  have HX := Lib.hid hx
  have HR := Lib.hid hr
  have HRS := Lib.hid (setRow_heap _ _ _ D _ _ hr)
  clear hx hr
  go_wp2_with (first
    | (refine wpList_load_row rfl 59 _ rfl w.heap.size rfl 59 _ (0, 0) _ HX.out Tryz.underlying59 rfl HI.out ?_)
    | (refine wpList_store_row rfl 59 _ _ rfl (w.heap.size + 1) _ rfl rfl 59 _ HR.out HI.out HO.out HA.out ?_))
  all_goals refine bodyPost_ret (results_cell_tmp rfl _ _ (w.heap.size + 1) _ rfl (run_loadVar_row _ _ 59 59 _ (0, 0) _ HRS.out Tryz.underlying59 rfl HI.out)) rfl ⟨p', _, by rw [HD.out]; rfl, HPN.out, HO4.out, HOT.out, below_setRow (by repeat first | with_reducible exact HBW.out | with_reducible refine Below.setCell ?_ (by simp) _) (by simp) _⟩
set_option maxRecDepth 100000 in
set_option maxHeartbeats 4000000 in
theorem linked3 (p : Pc) (next : Int) (w0 w : World) (hp : PcIn w0 p) (hk : p.k = 3) : Calls Tryz.prog 15 #[.agg p.cs.toArray, .int .i64 next] w (RLink p w0 w) := by
  have H0 := Lib.hid (heap0' w (.cells p.cs.toArray 59) (.cells Tryz.zeroCells59 59))
  have H1 := Lib.hid (heap1' w (.cells p.cs.toArray 59) (.cells Tryz.zeroCells59 59))
  have HP := Lib.hid hp
  obtain ⟨eA0, ec0, eA1, ec1, e2, e3, e0', eH0, eH1⟩ := hp.e
  have E_e := Lib.hid e0'
  have eH0 := Lib.hid eH0
  have eH1 := Lib.hid eH1
  clear e0'
  obtain ⟨v0, v1, v2, v3, v0'⟩ := hp.v
  have E_v := Lib.hid v0'
  clear v0'
  obtain ⟨f0, f1, f2, f3, f4, f5, f6, f7, f8, fA9, fc9, fA10, fc10, fA11, fc11, f0', fH9, fH10, fH11⟩ := hp.f
  have E_f := Lib.hid f0'
  have fH9 := Lib.hid fH9
  have fH10 := Lib.hid fH10
  have fH11 := Lib.hid fH11
  clear f0'
  have q0 := (cell_of_row _ _ 0 _ 59 (0, 0) H0.out).trans (show p.cs.toArray[0]? = some (.int .i64 p.k) by simp [Pc.cs])
  rw [hk] at q0
  clear hk
  have q16 := (cell_of_row _ _ 16 _ 59 (0, 0) H0.out).trans (show p.cs.toArray[16]? = some (.int .i64 f7) by simp [Pc.cs, E_e.out, E_v.out, E_f.out])
  have f16 := unfrozen (i := 16) H0.out
  have q13 := (cell_of_row _ _ 13 _ 59 (0, 0) H0.out).trans (show p.cs.toArray[13]? = some (.int .i64 f4) by simp [Pc.cs, E_e.out, E_v.out, E_f.out])
  have f13 := unfrozen (i := 13) H0.out
  have q14 := (cell_of_row _ _ 14 _ 59 (0, 0) H0.out).trans (show p.cs.toArray[14]? = some (.int .i64 f5) by simp [Pc.cs, E_e.out, E_v.out, E_f.out])
  have f14 := unfrozen (i := 14) H0.out
  have HN := Lib.hid (HP.out.cells)
  clear hp
  generalize hC : p.cs.toArray = C at H0 H1 q0 q16 f16 q13 f13 q14 f14 HN ⊢
  have HC := Lib.hid hC
  clear hC
  have HBW := Lib.hid (((Below.refl w.heap.size w).alloc (Nat.le_refl _) (.cells C 59)).alloc (by simp) (.cells Tryz.zeroCells59 59))
  go_enter Tryz.func15, Tryz.ntmps15
  go_upto_region 2 with fail
  generalize hW : (w.alloc (.cells C 59)).alloc (.cells Tryz.zeroCells59 59) = W at *
  clear hW
  go_wp2_with fail
  refine (protocol_ _ _ _).mono ?_
  rintro e w1 ⟨⟨x, b, rfl⟩, rfl⟩
  have hpn : ∃ p' : Pc, PcIn w0 p' ∧ p'.o4 = p.o4 ∧ p'.ot = p.ot ∧ (((C.setIfInBounds 16 (.int .i64 x)).setIfInBounds 13 (.int .i64 0)).setIfInBounds 14 (.int .i64 0)) = p'.cs.toArray := ⟨{ p with f := [.int .i64 f0, .int .i64 f1, .int .i64 f2, .int .i64 f3, .int .i64 0, .int .i64 0, .int .i64 f6, .int .i64 x, .int .i64 f8, .slice fA9 p.n4 fc9, .slice fA10 p.m4 fc10, .slice fA11 p.o4.length fc11] }, ⟨HP.out.e, HP.out.v, ⟨f0, f1, f2, f3, _, _, f6, _, f8, fA9, fc9, fA10, fc10, fA11, fc11, rfl, fH9.out, fH10.out, fH11.out⟩, HP.out.y, HP.out.t, HP.out.u, HP.out.h, HP.out.g, HP.out.x, HP.out.r⟩, rfl, rfl, by
    rw [← HC.out]
    simp [Pc.cs, E_e.out, E_v.out, E_f.out]⟩
  obtain ⟨p', hpi, ho4, hot, hcs⟩ := hpn
  have HPN := Lib.hid hpi
  have HO4 := Lib.hid ho4
  have HOT := Lib.hid hot
  have hx := heap_set (i := 14) (heap_set (i := 13) (heap_set (i := 16) (H0.out) (.int .i64 x)) (.int .i64 0)) (.int .i64 0)
  have hr := (heap_far (a := ⟨w.heap.size, 14, none⟩) (by simp) (.int .i64 0)).trans ((heap_far (a := ⟨w.heap.size, 13, none⟩) (by simp) (.int .i64 0)).trans ((heap_far (a := ⟨w.heap.size, 16, none⟩) (by simp) (.int .i64 x)).trans (H1.out)))
  have HI := Lib.hid (show (Tryz.prog.info? 59).map (·.size) = some p'.cs.toArray.size by rw [HPN.out.cells]; exact info59)
  have HO := Lib.hid (show (Tryz.zeroCells59 : Array Value).size = p'.cs.toArray.size by rw [HPN.out.cells]; rfl)
  have HA := Lib.hid HPN.out.one
  rw [hcs] at hx
  clear hpi ho4 hot hcs
  generalize hD : p'.cs.toArray = D at *
  have HD := Lib.hid hD
  clear hD
  have HX := Lib.hid hx
  have HR := Lib.hid hr
  have HRS := Lib.hid (setRow_heap _ _ _ D _ _ hr)
  clear hx hr
  go_wp2_with (first
    | (refine wpList_load_row rfl 59 _ rfl w.heap.size rfl 59 _ (0, 0) _ HX.out Tryz.underlying59 rfl HI.out ?_)
    | (refine wpList_store_row rfl 59 _ _ rfl (w.heap.size + 1) _ rfl rfl 59 _ HR.out HI.out HO.out HA.out ?_))
  all_goals refine bodyPost_ret (results_cell_tmp rfl _ _ (w.heap.size + 1) _ rfl (run_loadVar_row _ _ 59 59 _ (0, 0) _ HRS.out Tryz.underlying59 rfl HI.out)) rfl ⟨p', _, by rw [HD.out]; rfl, HPN.out, HO4.out, HOT.out, below_setRow (by repeat first | with_reducible exact HBW.out | with_reducible refine Below.setCell ?_ (by simp) _) (by simp) _⟩
set_option maxRecDepth 100000 in
set_option maxHeartbeats 4000000 in
theorem linked4 (p : Pc) (next : Int) (w0 w : World) (hp : PcIn w0 p) (hk : p.k = 4) : Calls Tryz.prog 15 #[.agg p.cs.toArray, .int .i64 next] w (RLink p w0 w) := by
  have H0 := Lib.hid (heap0' w (.cells p.cs.toArray 59) (.cells Tryz.zeroCells59 59))
  have H1 := Lib.hid (heap1' w (.cells p.cs.toArray 59) (.cells Tryz.zeroCells59 59))
  have HP := Lib.hid hp
  obtain ⟨eA0, ec0, eA1, ec1, e2, e3, e0', eH0, eH1⟩ := hp.e
  have E_e := Lib.hid e0'
  have eH0 := Lib.hid eH0
  have eH1 := Lib.hid eH1
  clear e0'
  obtain ⟨v0, v1, v2, v3, v0'⟩ := hp.v
  have E_v := Lib.hid v0'
  clear v0'
  obtain ⟨f0, f1, f2, f3, f4, f5, f6, f7, f8, fA9, fc9, fA10, fc10, fA11, fc11, f0', fH9, fH10, fH11⟩ := hp.f
  have E_f := Lib.hid f0'
  have fH9 := Lib.hid fH9
  have fH10 := Lib.hid fH10
  have fH11 := Lib.hid fH11
  clear f0'
  obtain ⟨y0, y1, y2, y3, y4, yA5, yc5, yA6, yc6, y0', yH5, yH6⟩ := hp.y
  have E_y := Lib.hid y0'
  have yH5 := Lib.hid yH5
  have yH6 := Lib.hid yH6
  clear y0'
  have q0 := (cell_of_row _ _ 0 _ 59 (0, 0) H0.out).trans (show p.cs.toArray[0]? = some (.int .i64 p.k) by simp [Pc.cs])
  rw [hk] at q0
  clear hk
  have q24 := (cell_of_row _ _ 24 _ 59 (0, 0) H0.out).trans (show p.cs.toArray[24]? = some (.int .i64 y3) by simp [Pc.cs, E_e.out, E_v.out, E_f.out, E_y.out])
  have f24 := unfrozen (i := 24) H0.out
  have HN := Lib.hid (HP.out.cells)
  clear hp
  generalize hC : p.cs.toArray = C at H0 H1 q0 q24 f24 HN ⊢
  have HC := Lib.hid hC
  clear hC
  have HBW := Lib.hid (((Below.refl w.heap.size w).alloc (Nat.le_refl _) (.cells C 59)).alloc (by simp) (.cells Tryz.zeroCells59 59))
  go_enter Tryz.func15, Tryz.ntmps15
  go_upto_region 2 with fail
  generalize hW : (w.alloc (.cells C 59)).alloc (.cells Tryz.zeroCells59 59) = W at *
  clear hW
  go_wp2_with fail
  refine (protocol_ _ _ _).mono ?_
  rintro e w1 ⟨⟨x, b, rfl⟩, rfl⟩
  have hpn : ∃ p' : Pc, PcIn w0 p' ∧ p'.o4 = p.o4 ∧ p'.ot = p.ot ∧ (C.setIfInBounds 24 (.int .i64 x)) = p'.cs.toArray := ⟨{ p with y := [.int .i64 y0, .int .i64 y1, .int .i64 y2, .int .i64 x, .int .i64 y4, .slice yA5 p.n6 yc5, .slice yA6 p.m6 yc6] }, ⟨HP.out.e, HP.out.v, HP.out.f, ⟨y0, y1, y2, _, y4, yA5, yc5, yA6, yc6, rfl, yH5.out, yH6.out⟩, HP.out.t, HP.out.u, HP.out.h, HP.out.g, HP.out.x, HP.out.r⟩, rfl, rfl, by
    rw [← HC.out]
    simp [Pc.cs, E_e.out, E_v.out, E_f.out, E_y.out]⟩
  obtain ⟨p', hpi, ho4, hot, hcs⟩ := hpn
  have HPN := Lib.hid hpi
  have HO4 := Lib.hid ho4
  have HOT := Lib.hid hot
  have hx := heap_set (i := 24) (H0.out) (.int .i64 x)
  have hr := (heap_far (a := ⟨w.heap.size, 24, none⟩) (by simp) (.int .i64 x)).trans (H1.out)
  have HI := Lib.hid (show (Tryz.prog.info? 59).map (·.size) = some p'.cs.toArray.size by rw [HPN.out.cells]; exact info59)
  have HO := Lib.hid (show (Tryz.zeroCells59 : Array Value).size = p'.cs.toArray.size by rw [HPN.out.cells]; rfl)
  have HA := Lib.hid HPN.out.one
  rw [hcs] at hx
  clear hpi ho4 hot hcs
  generalize hD : p'.cs.toArray = D at *
  have HD := Lib.hid hD
  clear hD
  have HX := Lib.hid hx
  have HR := Lib.hid hr
  have HRS := Lib.hid (setRow_heap _ _ _ D _ _ hr)
  clear hx hr
  go_wp2_with (first
    | (refine wpList_load_row rfl 59 _ rfl w.heap.size rfl 59 _ (0, 0) _ HX.out Tryz.underlying59 rfl HI.out ?_)
    | (refine wpList_store_row rfl 59 _ _ rfl (w.heap.size + 1) _ rfl rfl 59 _ HR.out HI.out HO.out HA.out ?_))
  all_goals refine bodyPost_ret (results_cell_tmp rfl _ _ (w.heap.size + 1) _ rfl (run_loadVar_row _ _ 59 59 _ (0, 0) _ HRS.out Tryz.underlying59 rfl HI.out)) rfl ⟨p', _, by rw [HD.out]; rfl, HPN.out, HO4.out, HOT.out, below_setRow (by repeat first | with_reducible exact HBW.out | with_reducible refine Below.setCell ?_ (by simp) _) (by simp) _⟩
set_option maxRecDepth 100000 in
set_option maxHeartbeats 4000000 in
theorem linked6 (p : Pc) (next : Int) (w0 w : World) (hp : PcIn w0 p) (hk : p.k = 6) : Calls Tryz.prog 15 #[.agg p.cs.toArray, .int .i64 next] w (RLink p w0 w) := by
  have H0 := Lib.hid (heap0' w (.cells p.cs.toArray 59) (.cells Tryz.zeroCells59 59))
  have H1 := Lib.hid (heap1' w (.cells p.cs.toArray 59) (.cells Tryz.zeroCells59 59))
  have HP := Lib.hid hp
  obtain ⟨eA0, ec0, eA1, ec1, e2, e3, e0', eH0, eH1⟩ := hp.e
  have E_e := Lib.hid e0'
  have eH0 := Lib.hid eH0
  have eH1 := Lib.hid eH1
  clear e0'
  obtain ⟨v0, v1, v2, v3, v0'⟩ := hp.v
  have E_v := Lib.hid v0'
  clear v0'
  obtain ⟨f0, f1, f2, f3, f4, f5, f6, f7, f8, fA9, fc9, fA10, fc10, fA11, fc11, f0', fH9, fH10, fH11⟩ := hp.f
  have E_f := Lib.hid f0'
  have fH9 := Lib.hid fH9
  have fH10 := Lib.hid fH10
  have fH11 := Lib.hid fH11
  clear f0'
  obtain ⟨y0, y1, y2, y3, y4, yA5, yc5, yA6, yc6, y0', yH5, yH6⟩ := hp.y
  have E_y := Lib.hid y0'
  have yH5 := Lib.hid yH5
  have yH6 := Lib.hid yH6
  clear y0'
  obtain ⟨t0, t1, t2, t3, t4, t5, t6, t7, t8, tA9, tc9, t0', tH9⟩ := hp.t
  have E_t := Lib.hid t0'
  have tH9 := Lib.hid tH9
  clear t0'
  obtain ⟨u0, u1, u2, u3, u0'⟩ := hp.u
  have E_u := Lib.hid u0'
  clear u0'
  have q0 := (cell_of_row _ _ 0 _ 59 (0, 0) H0.out).trans (show p.cs.toArray[0]? = some (.int .i64 p.k) by simp [Pc.cs])
  rw [hk] at q0
  clear hk
  have q39 := (cell_of_row _ _ 39 _ 59 (0, 0) H0.out).trans (show p.cs.toArray[39]? = some (.int .i64 u1) by simp [Pc.cs, E_e.out, E_v.out, E_f.out, E_y.out, E_t.out, E_u.out])
  have f39 := unfrozen (i := 39) H0.out
  have HN := Lib.hid (HP.out.cells)
  clear hp
  generalize hC : p.cs.toArray = C at H0 H1 q0 q39 f39 HN ⊢
  have HC := Lib.hid hC
  clear hC
  have HBW := Lib.hid (((Below.refl w.heap.size w).alloc (Nat.le_refl _) (.cells C 59)).alloc (by simp) (.cells Tryz.zeroCells59 59))
  go_enter Tryz.func15, Tryz.ntmps15
  go_upto_region 2 with fail
  generalize hW : (w.alloc (.cells C 59)).alloc (.cells Tryz.zeroCells59 59) = W at *
  clear hW
  have hpn : ∃ p' : Pc, PcIn w0 p' ∧ p'.o4 = p.o4 ∧ p'.ot = p.ot ∧ (C.setIfInBounds 39 (.int .i64 4789)) = p'.cs.toArray := ⟨{ p with u := [.int .i64 u0, .int .i64 4789, .int .i64 u2, .int .i64 u3] }, ⟨HP.out.e, HP.out.v, HP.out.f, HP.out.y, HP.out.t, ⟨u0, _, u2, u3, rfl⟩, HP.out.h, HP.out.g, HP.out.x, HP.out.r⟩, rfl, rfl, by
    rw [← HC.out]
    simp [Pc.cs, E_e.out, E_v.out, E_f.out, E_y.out, E_t.out, E_u.out]⟩
  obtain ⟨p', hpi, ho4, hot, hcs⟩ := hpn
  have HPN := Lib.hid hpi
  have HO4 := Lib.hid ho4
  have HOT := Lib.hid hot
  have hx := heap_set (i := 39) (H0.out) (.int .i64 4789)
  have hr := (heap_far (a := ⟨w.heap.size, 39, none⟩) (by simp) (.int .i64 4789)).trans (H1.out)
  have HI := Lib.hid (show (Tryz.prog.info? 59).map (·.size) = some p'.cs.toArray.size by rw [HPN.out.cells]; exact info59)
  have HO := Lib.hid (show (Tryz.zeroCells59 : Array Value).size = p'.cs.toArray.size by rw [HPN.out.cells]; rfl)
  have HA := Lib.hid HPN.out.one
  rw [hcs] at hx
  clear hpi ho4 hot hcs
  generalize hD : p'.cs.toArray = D at *
  have HD := Lib.hid hD
  clear hD
  have HX := Lib.hid hx
  have HR := Lib.hid hr
  have HRS := Lib.hid (setRow_heap _ _ _ D _ _ hr)
  clear hx hr
  go_wp2_with (first
    | (refine wpList_load_row rfl 59 _ rfl w.heap.size rfl 59 _ (0, 0) _ HX.out Tryz.underlying59 rfl HI.out ?_)
    | (refine wpList_store_row rfl 59 _ _ rfl (w.heap.size + 1) _ rfl rfl 59 _ HR.out HI.out HO.out HA.out ?_))
  all_goals refine bodyPost_ret (results_cell_tmp rfl _ _ (w.heap.size + 1) _ rfl (run_loadVar_row _ _ 59 59 _ (0, 0) _ HRS.out Tryz.underlying59 rfl HI.out)) rfl ⟨p', _, by rw [HD.out]; rfl, HPN.out, HO4.out, HOT.out, below_setRow (by repeat first | with_reducible exact HBW.out | with_reducible refine Below.setCell ?_ (by simp) _) (by simp) _⟩
set_option maxRecDepth 100000 in
set_option maxHeartbeats 4000000 in
theorem linked9 (p : Pc) (next : Int) (w0 w : World) (hp : PcIn w0 p) (hk : p.k = 9) : Calls Tryz.prog 15 #[.agg p.cs.toArray, .int .i64 next] w (RLink p w0 w) := by
  have H0 := Lib.hid (heap0' w (.cells p.cs.toArray 59) (.cells Tryz.zeroCells59 59))
  have H1 := Lib.hid (heap1' w (.cells p.cs.toArray 59) (.cells Tryz.zeroCells59 59))
  have HP := Lib.hid hp
  have q0 := (cell_of_row _ _ 0 _ 59 (0, 0) H0.out).trans (show p.cs.toArray[0]? = some (.int .i64 p.k) by simp [Pc.cs])
  rw [hk] at q0
  clear hk
  have HN := Lib.hid (HP.out.cells)
  clear hp
  generalize hC : p.cs.toArray = C at H0 H1 q0  HN ⊢
  have HC := Lib.hid hC
  clear hC
  have HBW := Lib.hid (((Below.refl w.heap.size w).alloc (Nat.le_refl _) (.cells C 59)).alloc (by simp) (.cells Tryz.zeroCells59 59))
  go_enter Tryz.func15, Tryz.ntmps15
  go_upto_region 2 with fail
  generalize hW : (w.alloc (.cells C 59)).alloc (.cells Tryz.zeroCells59 59) = W at *
  clear hW
  have hpn : ∃ p' : Pc, PcIn w0 p' ∧ p'.o4 = p.o4 ∧ p'.ot = p.ot ∧ C = p'.cs.toArray := ⟨p, HP.out, rfl, rfl, by
    rw [← HC.out]⟩
  obtain ⟨p', hpi, ho4, hot, hcs⟩ := hpn
  have HPN := Lib.hid hpi
  have HO4 := Lib.hid ho4
  have HOT := Lib.hid hot
  have hx := H0.out
  have hr := H1.out
  have HI := Lib.hid (show (Tryz.prog.info? 59).map (·.size) = some p'.cs.toArray.size by rw [HPN.out.cells]; exact info59)
  have HO := Lib.hid (show (Tryz.zeroCells59 : Array Value).size = p'.cs.toArray.size by rw [HPN.out.cells]; rfl)
  have HA := Lib.hid HPN.out.one
  rw [hcs] at hx
  clear hpi ho4 hot hcs
  generalize hD : p'.cs.toArray = D at *
  have HD := Lib.hid hD
  clear hD
  have HX := Lib.hid hx
  have HR := Lib.hid hr
  have HRS := Lib.hid (setRow_heap _ _ _ D _ _ hr)
  clear hx hr
  go_wp2_with (first
    | (refine wpList_load_row rfl 59 _ rfl w.heap.size rfl 59 _ (0, 0) _ HX.out Tryz.underlying59 rfl HI.out ?_)
    | (refine wpList_store_row rfl 59 _ _ rfl (w.heap.size + 1) _ rfl rfl 59 _ HR.out HI.out HO.out HA.out ?_))
  all_goals refine bodyPost_ret (results_cell_tmp rfl _ _ (w.heap.size + 1) _ rfl (run_loadVar_row _ _ 59 59 _ (0, 0) _ HRS.out Tryz.underlying59 rfl HI.out)) rfl ⟨p', _, by rw [HD.out]; rfl, HPN.out, HO4.out, HOT.out, below_setRow (by repeat first | with_reducible exact HBW.out | with_reducible refine Below.setCell ?_ (by simp) _) (by simp) _⟩
set_option maxRecDepth 100000 in
set_option maxHeartbeats 4000000 in
theorem linked8a (p : Pc) (next : Int) (w0 w : World) (hp : PcIn w0 p) (hk : p.k = 8) (hn : next = 1) : Calls Tryz.prog 15 #[.agg p.cs.toArray, .int .i64 next] w (RLink p w0 w) := by
  have H0 := Lib.hid (heap0' w (.cells p.cs.toArray 59) (.cells Tryz.zeroCells59 59))
  have H1 := Lib.hid (heap1' w (.cells p.cs.toArray 59) (.cells Tryz.zeroCells59 59))
  have HP := Lib.hid hp
  obtain ⟨eA0, ec0, eA1, ec1, e2, e3, e0', eH0, eH1⟩ := hp.e
  have E_e := Lib.hid e0'
  have eH0 := Lib.hid eH0
  have eH1 := Lib.hid eH1
  clear e0'
  obtain ⟨v0, v1, v2, v3, v0'⟩ := hp.v
  have E_v := Lib.hid v0'
  clear v0'
  obtain ⟨f0, f1, f2, f3, f4, f5, f6, f7, f8, fA9, fc9, fA10, fc10, fA11, fc11, f0', fH9, fH10, fH11⟩ := hp.f
  have E_f := Lib.hid f0'
  have fH9 := Lib.hid fH9
  have fH10 := Lib.hid fH10
  have fH11 := Lib.hid fH11
  clear f0'
  obtain ⟨y0, y1, y2, y3, y4, yA5, yc5, yA6, yc6, y0', yH5, yH6⟩ := hp.y
  have E_y := Lib.hid y0'
  have yH5 := Lib.hid yH5
  have yH6 := Lib.hid yH6
  clear y0'
  obtain ⟨t0, t1, t2, t3, t4, t5, t6, t7, t8, tA9, tc9, t0', tH9⟩ := hp.t
  have E_t := Lib.hid t0'
  have tH9 := Lib.hid tH9
  clear t0'
  obtain ⟨u0, u1, u2, u3, u0'⟩ := hp.u
  have E_u := Lib.hid u0'
  clear u0'
  obtain ⟨h0, h1, h2, h3, h4, h0'⟩ := hp.h
  have E_h := Lib.hid h0'
  clear h0'
  obtain ⟨g0, g1, g2, g3, g4, g5, g6, g7, g8, g9, g0'⟩ := hp.g
  have E_g := Lib.hid g0'
  clear g0'
  have q0 := (cell_of_row _ _ 0 _ 59 (0, 0) H0.out).trans (show p.cs.toArray[0]? = some (.int .i64 p.k) by simp [Pc.cs])
  rw [hk] at q0
  clear hk
  subst hn
  have q48 := (cell_of_row _ _ 48 _ 59 (0, 0) H0.out).trans (show p.cs.toArray[48]? = some (.int .i64 g1) by simp [Pc.cs, E_e.out, E_v.out, E_f.out, E_y.out, E_t.out, E_u.out, E_h.out, E_g.out])
  have f48 := unfrozen (i := 48) H0.out
  have HN := Lib.hid (HP.out.cells)
  clear hp
  generalize hC : p.cs.toArray = C at H0 H1 q0 q48 f48 HN ⊢
  have HC := Lib.hid hC
  clear hC
  have HBW := Lib.hid (((Below.refl w.heap.size w).alloc (Nat.le_refl _) (.cells C 59)).alloc (by simp) (.cells Tryz.zeroCells59 59))
  go_enter Tryz.func15, Tryz.ntmps15
  go_upto_region 2 with fail
  generalize hW : (w.alloc (.cells C 59)).alloc (.cells Tryz.zeroCells59 59) = W at *
  clear hW
  go_wp2_with fail
  refine (etherType_ _ _).mono ?_
  rintro e w1 ⟨⟨x, b, rfl⟩, rfl⟩
  have hpn : ∃ p' : Pc, PcIn w0 p' ∧ p'.o4 = p.o4 ∧ p'.ot = p.ot ∧ (C.setIfInBounds 48 (.int .i64 25944)) = p'.cs.toArray := ⟨{ p with g := [.int .i64 g0, .int .i64 25944, .bool g2, .bool g3, .bool g4, .bool g5, .int .i64 g6, .int .i64 g7, .int .i64 g8, .int .i64 g9] }, ⟨HP.out.e, HP.out.v, HP.out.f, HP.out.y, HP.out.t, HP.out.u, HP.out.h, ⟨g0, _, g2, g3, g4, g5, g6, g7, g8, g9, rfl⟩, HP.out.x, HP.out.r⟩, rfl, rfl, by
    rw [← HC.out]
    simp [Pc.cs, E_e.out, E_v.out, E_f.out, E_y.out, E_t.out, E_u.out, E_h.out, E_g.out]⟩
  obtain ⟨p', hpi, ho4, hot, hcs⟩ := hpn
  have HPN := Lib.hid hpi
  have HO4 := Lib.hid ho4
  have HOT := Lib.hid hot
  have hx := heap_set (i := 48) (H0.out) (.int .i64 25944)
  have hr := (heap_far (a := ⟨w.heap.size, 48, none⟩) (by simp) (.int .i64 25944)).trans (H1.out)
  have HI := Lib.hid (show (Tryz.prog.info? 59).map (·.size) = some p'.cs.toArray.size by rw [HPN.out.cells]; exact info59)
  have HO := Lib.hid (show (Tryz.zeroCells59 : Array Value).size = p'.cs.toArray.size by rw [HPN.out.cells]; rfl)
  have HA := Lib.hid HPN.out.one
  rw [hcs] at hx
  clear hpi ho4 hot hcs
  generalize hD : p'.cs.toArray = D at *
  have HD := Lib.hid hD
  clear hD
  have HX := Lib.hid hx
  have HR := Lib.hid hr
  have HRS := Lib.hid (setRow_heap _ _ _ D _ _ hr)
  clear hx hr
  go_wp2_with (first
    | (refine wpList_load_row rfl 59 _ rfl w.heap.size rfl 59 _ (0, 0) _ HX.out Tryz.underlying59 rfl HI.out ?_)
    | (refine wpList_store_row rfl 59 _ _ rfl (w.heap.size + 1) _ rfl rfl 59 _ HR.out HI.out HO.out HA.out ?_))
  all_goals refine bodyPost_ret (results_cell_tmp rfl _ _ (w.heap.size + 1) _ rfl (run_loadVar_row _ _ 59 59 _ (0, 0) _ HRS.out Tryz.underlying59 rfl HI.out)) rfl ⟨p', _, by rw [HD.out]; rfl, HPN.out, HO4.out, HOT.out, below_setRow (by repeat first | with_reducible exact HBW.out | with_reducible refine Below.setCell ?_ (by simp) _) (by simp) _⟩
set_option maxRecDepth 100000 in
set_option maxHeartbeats 4000000 in
theorem linked8b (p : Pc) (next : Int) (w0 w : World) (hp : PcIn w0 p) (hk : p.k = 8) (hn : ¬ next = 1) : Calls Tryz.prog 15 #[.agg p.cs.toArray, .int .i64 next] w (RLink p w0 w) := by
  have H0 := Lib.hid (heap0' w (.cells p.cs.toArray 59) (.cells Tryz.zeroCells59 59))
  have H1 := Lib.hid (heap1' w (.cells p.cs.toArray 59) (.cells Tryz.zeroCells59 59))
  have HP := Lib.hid hp
  obtain ⟨eA0, ec0, eA1, ec1, e2, e3, e0', eH0, eH1⟩ := hp.e
  have E_e := Lib.hid e0'
  have eH0 := Lib.hid eH0
  have eH1 := Lib.hid eH1
  clear e0'
  obtain ⟨v0, v1, v2, v3, v0'⟩ := hp.v
  have E_v := Lib.hid v0'
  clear v0'
  obtain ⟨f0, f1, f2, f3, f4, f5, f6, f7, f8, fA9, fc9, fA10, fc10, fA11, fc11, f0', fH9, fH10, fH11⟩ := hp.f
  have E_f := Lib.hid f0'
  have fH9 := Lib.hid fH9
  have fH10 := Lib.hid fH10
  have fH11 := Lib.hid fH11
  clear f0'
  obtain ⟨y0, y1, y2, y3, y4, yA5, yc5, yA6, yc6, y0', yH5, yH6⟩ := hp.y
  have E_y := Lib.hid y0'
  have yH5 := Lib.hid yH5
  have yH6 := Lib.hid yH6
  clear y0'
  obtain ⟨t0, t1, t2, t3, t4, t5, t6, t7, t8, tA9, tc9, t0', tH9⟩ := hp.t
  have E_t := Lib.hid t0'
  have tH9 := Lib.hid tH9
  clear t0'
  obtain ⟨u0, u1, u2, u3, u0'⟩ := hp.u
  have E_u := Lib.hid u0'
  clear u0'
  obtain ⟨h0, h1, h2, h3, h4, h0'⟩ := hp.h
  have E_h := Lib.hid h0'
  clear h0'
  obtain ⟨g0, g1, g2, g3, g4, g5, g6, g7, g8, g9, g0'⟩ := hp.g
  have E_g := Lib.hid g0'
  clear g0'
  have q0 := (cell_of_row _ _ 0 _ 59 (0, 0) H0.out).trans (show p.cs.toArray[0]? = some (.int .i64 p.k) by simp [Pc.cs])
  rw [hk] at q0
  clear hk
  have n1 : (next == 1) = false := by simpa using hn
  clear hn
  have q48 := (cell_of_row _ _ 48 _ 59 (0, 0) H0.out).trans (show p.cs.toArray[48]? = some (.int .i64 g1) by simp [Pc.cs, E_e.out, E_v.out, E_f.out, E_y.out, E_t.out, E_u.out, E_h.out, E_g.out])
  have f48 := unfrozen (i := 48) H0.out
  have HN := Lib.hid (HP.out.cells)
  clear hp
  generalize hC : p.cs.toArray = C at H0 H1 q0 q48 f48 HN ⊢
  have HC := Lib.hid hC
  clear hC
  have HBW := Lib.hid (((Below.refl w.heap.size w).alloc (Nat.le_refl _) (.cells C 59)).alloc (by simp) (.cells Tryz.zeroCells59 59))
  go_enter Tryz.func15, Tryz.ntmps15
  go_upto_region 2 with fail
  generalize hW : (w.alloc (.cells C 59)).alloc (.cells Tryz.zeroCells59 59) = W at *
  clear hW
  go_wp2_with fail
  refine (etherType_ _ _).mono ?_
  rintro e w1 ⟨⟨x, b, rfl⟩, rfl⟩
  have hpn : ∃ p' : Pc, PcIn w0 p' ∧ p'.o4 = p.o4 ∧ p'.ot = p.ot ∧ (C.setIfInBounds 48 (.int .i64 x)) = p'.cs.toArray := ⟨{ p with g := [.int .i64 g0, .int .i64 x, .bool g2, .bool g3, .bool g4, .bool g5, .int .i64 g6, .int .i64 g7, .int .i64 g8, .int .i64 g9] }, ⟨HP.out.e, HP.out.v, HP.out.f, HP.out.y, HP.out.t, HP.out.u, HP.out.h, ⟨g0, _, g2, g3, g4, g5, g6, g7, g8, g9, rfl⟩, HP.out.x, HP.out.r⟩, rfl, rfl, by
    rw [← HC.out]
    simp [Pc.cs, E_e.out, E_v.out, E_f.out, E_y.out, E_t.out, E_u.out, E_h.out, E_g.out]⟩
  obtain ⟨p', hpi, ho4, hot, hcs⟩ := hpn
  have HPN := Lib.hid hpi
  have HO4 := Lib.hid ho4
  have HOT := Lib.hid hot
  have hx := heap_set (i := 48) (H0.out) (.int .i64 x)
  have hr := (heap_far (a := ⟨w.heap.size, 48, none⟩) (by simp) (.int .i64 x)).trans (H1.out)
  have HI := Lib.hid (show (Tryz.prog.info? 59).map (·.size) = some p'.cs.toArray.size by rw [HPN.out.cells]; exact info59)
  have HO := Lib.hid (show (Tryz.zeroCells59 : Array Value).size = p'.cs.toArray.size by rw [HPN.out.cells]; rfl)
  have HA := Lib.hid HPN.out.one
  rw [hcs] at hx
  clear hpi ho4 hot hcs
  generalize hD : p'.cs.toArray = D at *
  have HD := Lib.hid hD
  clear hD
  have HX := Lib.hid hx
  have HR := Lib.hid hr
  have HRS := Lib.hid (setRow_heap _ _ _ D _ _ hr)
  clear hx hr
  go_wp2_with (first
    | (refine wpList_load_row rfl 59 _ rfl w.heap.size rfl 59 _ (0, 0) _ HX.out Tryz.underlying59 rfl HI.out ?_)
    | (refine wpList_store_row rfl 59 _ _ rfl (w.heap.size + 1) _ rfl rfl 59 _ HR.out HI.out HO.out HA.out ?_))
  all_goals refine bodyPost_ret (results_cell_tmp rfl _ _ (w.heap.size + 1) _ rfl (run_loadVar_row _ _ 59 59 _ (0, 0) _ HRS.out Tryz.underlying59 rfl HI.out)) rfl ⟨p', _, by rw [HD.out]; rfl, HPN.out, HO4.out, HOT.out, below_setRow (by repeat first | with_reducible exact HBW.out | with_reducible refine Below.setCell ?_ (by simp) _) (by simp) _⟩
set_option maxRecDepth 100000 in
set_option maxHeartbeats 4000000 in
theorem linked0 (p : Pc) (next : Int) (w0 w : World) (hp : PcIn w0 p) (h1 : ¬ p.k = 1) (h2 : ¬ p.k = 2) (h3 : ¬ p.k = 3) (h4 : ¬ p.k = 4) (h6 : ¬ p.k = 6) (h8 : ¬ p.k = 8) (h9 : ¬ p.k = 9) : Calls Tryz.prog 15 #[.agg p.cs.toArray, .int .i64 next] w (RLink p w0 w) := by
  have H0 := Lib.hid (heap0' w (.cells p.cs.toArray 59) (.cells Tryz.zeroCells59 59))
  have H1 := Lib.hid (heap1' w (.cells p.cs.toArray 59) (.cells Tryz.zeroCells59 59))
  have HP := Lib.hid hp
  have q0 := (cell_of_row _ _ 0 _ 59 (0, 0) H0.out).trans (show p.cs.toArray[0]? = some (.int .i64 p.k) by simp [Pc.cs])
  have e1 : (p.k == 1) = false := by simpa using h1
  have e2 : (p.k == 2) = false := by simpa using h2
  have e3 : (p.k == 3) = false := by simpa using h3
  have e4 : (p.k == 4) = false := by simpa using h4
  have e6 : (p.k == 6) = false := by simpa using h6
  have e8 : (p.k == 8) = false := by simpa using h8
  have e9 : (p.k == 9) = false := by simpa using h9
  clear h1 h2 h3 h4 h6 h8 h9
  have HN := Lib.hid (HP.out.cells)
  clear hp
  generalize hC : p.cs.toArray = C at H0 H1 q0  HN ⊢
  have HC := Lib.hid hC
  clear hC
  have HBW := Lib.hid (((Below.refl w.heap.size w).alloc (Nat.le_refl _) (.cells C 59)).alloc (by simp) (.cells Tryz.zeroCells59 59))
  go_enter Tryz.func15, Tryz.ntmps15
  go_upto_region 2 with fail
  generalize hW : (w.alloc (.cells C 59)).alloc (.cells Tryz.zeroCells59 59) = W at *
  clear hW
  have hpn : ∃ p' : Pc, PcIn w0 p' ∧ p'.o4 = p.o4 ∧ p'.ot = p.ot ∧ C = p'.cs.toArray := ⟨p, HP.out, rfl, rfl, by
    rw [← HC.out]⟩
  obtain ⟨p', hpi, ho4, hot, hcs⟩ := hpn
  have HPN := Lib.hid hpi
  have HO4 := Lib.hid ho4
  have HOT := Lib.hid hot
  have hx := H0.out
  have hr := H1.out
  have HI := Lib.hid (show (Tryz.prog.info? 59).map (·.size) = some p'.cs.toArray.size by rw [HPN.out.cells]; exact info59)
  have HO := Lib.hid (show (Tryz.zeroCells59 : Array Value).size = p'.cs.toArray.size by rw [HPN.out.cells]; rfl)
  have HA := Lib.hid HPN.out.one
  rw [hcs] at hx
  clear hpi ho4 hot hcs
  generalize hD : p'.cs.toArray = D at *
  have HD := Lib.hid hD
  clear hD
  have HX := Lib.hid hx
  have HR := Lib.hid hr
  have HRS := Lib.hid (setRow_heap _ _ _ D _ _ hr)
  clear hx hr
  go_wp2_with (first
    | (refine wpList_load_row rfl 59 _ rfl w.heap.size rfl 59 _ (0, 0) _ HX.out Tryz.underlying59 rfl HI.out ?_)
    | (refine wpList_store_row rfl 59 _ _ rfl (w.heap.size + 1) _ rfl rfl 59 _ HR.out HI.out HO.out HA.out ?_))
  all_goals refine bodyPost_ret (results_cell_tmp rfl _ _ (w.heap.size + 1) _ rfl (run_loadVar_row _ _ 59 59 _ (0, 0) _ HRS.out Tryz.underlying59 rfl HI.out)) rfl ⟨p', _, by rw [HD.out]; rfl, HPN.out, HO4.out, HOT.out, below_setRow (by repeat first | with_reducible exact HBW.out | with_reducible refine Below.setCell ?_ (by simp) _) (by simp) _⟩
theorem linked_ (p : Pc) (next : Int) (w0 w : World) (hp : PcIn w0 p) : Calls Tryz.prog 15 #[.agg p.cs.toArray, .int .i64 next] w (RLink p w0 w) := by
  by_cases h1 : p.k = 1
  · exact linked1 p next w0 w hp h1
  by_cases h2 : p.k = 2
  · exact linked2 p next w0 w hp h2
  by_cases h3 : p.k = 3
  · exact linked3 p next w0 w hp h3
  by_cases h4 : p.k = 4
  · exact linked4 p next w0 w hp h4
  by_cases h6 : p.k = 6
  · exact linked6 p next w0 w hp h6
  by_cases h8 : p.k = 8
  · by_cases hn : next = 1
    · exact linked8a p next w0 w hp h8 hn
    · exact linked8b p next w0 w hp h8 hn
  by_cases h9 : p.k = 9
  · exact linked9 p next w0 w hp h9
  exact linked0 p next w0 w hp h1 h2 h3 h4 h6 h8 h9
end Go.Proofs.YtecgkcofmphaiaaGreatDoor.Gpk
