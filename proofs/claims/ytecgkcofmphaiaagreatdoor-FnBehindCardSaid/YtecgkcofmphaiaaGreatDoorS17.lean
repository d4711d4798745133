/- Tests of pieces. -/
import Derived.Test.YtecgkcofmphaiaaGreatDoorS16
import Derived.Test.YtecgkcofmphaiaaGreatDoorS14
set_option linter.unusedVariables false
set_option linter.unusedSimpArgs false
set_option linter.unnecessarySimpa false
set_option linter.unusedSectionVars false
namespace Go.Proofs.YtecgkcofmphaiaaGreatDoor.Gpk
open Go.RowKit
set_option linter.unusedVariables false
structure PcOk (p : Pc) : Prop where
  e : p.k = 1 → p.ne = 6 ∧ p.nf = 6
  f : p.k = 3 → p.n4 = 4 ∧ p.m4 = 4 ∧ osz p.o4 ≤ 40 ∧ p.o4.length ≤ 40
  y : p.k = 4 → p.n6 = 16 ∧ p.m6 = 16
  t : p.k = 5 → osz p.ot ≤ 40 ∧ p.ot.length ≤ 40
  r : p.k = 11 → p.na ≤ 255 ∧ p.nb ≤ 255 ∧ p.nc ≤ 255 ∧ p.nd ≤ 255
set_option maxRecDepth 100000 in
set_option maxHeartbeats 4000000 in
theorem isPiece1 (p : Pc) (w : World) (hp : PcIn w p) (ho4 : OptFit p.o4) (hot : OptFit p.ot) (hk : p.k = 1) : Calls Tryz.prog 16 #[.agg p.cs.toArray] w (RBP (PcOk p) w) := by
  have HR := Lib.hid hp.new
  have HK := Lib.hid hk
  have H4 := Lib.hid ho4
  have HT := Lib.hid hot
  obtain ⟨eA0, ec0, eA1, ec1, e2, e3, e0', eH0, eH1⟩ := hp.e
  have R_e := Lib.hid (by have := HR.out.e; rwa [e0'] at this : (w.alloc (.cells p.cs.toArray 59)).rangeAt w.heap.size 1 [.slice eA0 p.ne ec0, .slice eA1 p.nf ec1, .int .i64 e2, .int .i64 e3])
  have eH0 := Lib.hid eH0
  have eH1 := Lib.hid eH1
  have q0 := HR.out.k
  rw [hk] at q0
  clear e0' HR hp hk ho4 hot
  have HB := Lib.hid ((Below.refl w.heap.size w).alloc (Nat.le_refl _) (.cells p.cs.toArray 59))
  have HS := Lib.hid (show w.heap.size < (w.alloc (.cells p.cs.toArray 59)).heap.size by simp)
  generalize p.cs.toArray = C at *
  go_enter Tryz.func16, Tryz.ntmps16
  go_wp2_with (refine wpList_load_mid rfl 38 _ rfl w.heap.size 1 rfl _ _ R_e.out Tryz.underlying38 rfl (by kernel_rfl) ?_)
  refine (isEthernet_ _ _ _ _ _ _ _ _ _).mono ?_
  rintro e w1 ⟨⟨b, rfl, hr⟩, hb⟩
  have HF := Lib.hid (HB.out.trans (hb.mono HB.out.size))
  have HRR := Lib.hid hr
  clear hb hr
  go_wp2_with fail
  go_ret
  exact ⟨⟨_, rfl, fun h => by have G := HRR.out h; exact ⟨fun h => by have := HK.out; first | omega | (have := G; omega) | exact G, fun h => by have := HK.out; first | omega | (have := G; omega) | exact G, fun h => by have := HK.out; first | omega | (have := G; omega) | exact G, fun h => by have := HK.out; first | omega | (have := G; omega) | exact G, fun h => by have := HK.out; first | omega | (have := G; omega) | exact G⟩⟩, HF.out⟩
set_option maxRecDepth 100000 in
set_option maxHeartbeats 4000000 in
theorem isPiece2 (p : Pc) (w : World) (hp : PcIn w p) (ho4 : OptFit p.o4) (hot : OptFit p.ot) (hk : p.k = 2) : Calls Tryz.prog 16 #[.agg p.cs.toArray] w (RBP (PcOk p) w) := by
  have HR := Lib.hid hp.new
  have HK := Lib.hid hk
  have H4 := Lib.hid ho4
  have HT := Lib.hid hot
  obtain ⟨v0, v1, v2, v3, v0'⟩ := hp.v
  have R_v := Lib.hid (by have := HR.out.v; rwa [v0'] at this : (w.alloc (.cells p.cs.toArray 59)).rangeAt w.heap.size 5 [.int .i64 v0, .bool v1, .int .i64 v2, .int .i64 v3])
  have q0 := HR.out.k
  rw [hk] at q0
  clear v0' HR hp hk ho4 hot
  have HB := Lib.hid ((Below.refl w.heap.size w).alloc (Nat.le_refl _) (.cells p.cs.toArray 59))
  have HS := Lib.hid (show w.heap.size < (w.alloc (.cells p.cs.toArray 59)).heap.size by simp)
  generalize p.cs.toArray = C at *
  go_enter Tryz.func16, Tryz.ntmps16
  go_wp2_with (refine wpList_load_mid rfl 40 _ rfl w.heap.size 5 rfl _ _ R_v.out Tryz.underlying40 rfl (by kernel_rfl) ?_)
  refine (isVlan_ _ _ _ _ _).mono ?_
  rintro e w1 ⟨⟨b, rfl, hr⟩, hb⟩
  have HF := Lib.hid (HB.out.trans (hb.mono HB.out.size))
  have HRR := Lib.hid hr
  clear hb hr
  go_wp2_with fail
  go_ret
  exact ⟨⟨_, rfl, fun h => by have G := HRR.out h; exact ⟨fun h => by have := HK.out; first | omega | (have := G; omega) | exact G, fun h => by have := HK.out; first | omega | (have := G; omega) | exact G, fun h => by have := HK.out; first | omega | (have := G; omega) | exact G, fun h => by have := HK.out; first | omega | (have := G; omega) | exact G, fun h => by have := HK.out; first | omega | (have := G; omega) | exact G⟩⟩, HF.out⟩
set_option maxRecDepth 100000 in
set_option maxHeartbeats 4000000 in
theorem isPiece4 (p : Pc) (w : World) (hp : PcIn w p) (ho4 : OptFit p.o4) (hot : OptFit p.ot) (hk : p.k = 4) : Calls Tryz.prog 16 #[.agg p.cs.toArray] w (RBP (PcOk p) w) := by
  have HR := Lib.hid hp.new
  have HK := Lib.hid hk
  have H4 := Lib.hid ho4
  have HT := Lib.hid hot
  obtain ⟨y0, y1, y2, y3, y4, yA5, yc5, yA6, yc6, y0', yH5, yH6⟩ := hp.y
  have R_y := Lib.hid (by have := HR.out.y; rwa [y0'] at this : (w.alloc (.cells p.cs.toArray 59)).rangeAt w.heap.size 21 [.int .i64 y0, .int .i64 y1, .int .i64 y2, .int .i64 y3, .int .i64 y4, .slice yA5 p.n6 yc5, .slice yA6 p.m6 yc6])
  have yH5 := Lib.hid yH5
  have yH6 := Lib.hid yH6
  have q0 := HR.out.k
  rw [hk] at q0
  clear y0' HR hp hk ho4 hot
  have HB := Lib.hid ((Below.refl w.heap.size w).alloc (Nat.le_refl _) (.cells p.cs.toArray 59))
  have HS := Lib.hid (show w.heap.size < (w.alloc (.cells p.cs.toArray 59)).heap.size by simp)
  generalize p.cs.toArray = C at *
  go_enter Tryz.func16, Tryz.ntmps16
  go_wp2_with (refine wpList_load_mid rfl 45 _ rfl w.heap.size 21 rfl _ _ R_y.out Tryz.underlying45 rfl (by kernel_rfl) ?_)
  refine (isIpv6_ _ _ _ _ _ _ _ _ _ _ _ _).mono ?_
  rintro e w1 ⟨⟨b, rfl, hr⟩, hb⟩
  have HF := Lib.hid (HB.out.trans (hb.mono HB.out.size))
  have HRR := Lib.hid hr
  clear hb hr
  go_wp2_with fail
  go_ret
  exact ⟨⟨_, rfl, fun h => by have G := HRR.out h; exact ⟨fun h => by have := HK.out; first | omega | (have := G; omega) | exact G, fun h => by have := HK.out; first | omega | (have := G; omega) | exact G, fun h => by have := HK.out; first | omega | (have := G; omega) | exact G, fun h => by have := HK.out; first | omega | (have := G; omega) | exact G, fun h => by have := HK.out; first | omega | (have := G; omega) | exact G⟩⟩, HF.out⟩
set_option maxRecDepth 100000 in
set_option maxHeartbeats 4000000 in
theorem isPiece5 (p : Pc) (w : World) (hp : PcIn w p) (ho4 : OptFit p.o4) (hot : OptFit p.ot) (hk : p.k = 5) : Calls Tryz.prog 16 #[.agg p.cs.toArray] w (RBP (PcOk p) w) := by
  have HR := Lib.hid hp.new
  have HK := Lib.hid hk
  have H4 := Lib.hid ho4
  have HT := Lib.hid hot
  obtain ⟨t0, t1, t2, t3, t4, t5, t6, t7, t8, tA9, tc9, t0', tH9⟩ := hp.t
  have R_t := Lib.hid (by have := HR.out.t; rwa [t0'] at this : (w.alloc (.cells p.cs.toArray 59)).rangeAt w.heap.size 28 [.int .i64 t0, .int .i64 t1, .int .i64 t2, .int .i64 t3, .int .i64 t4, .int .i64 t5, .int .i64 t6, .int .i64 t7, .int .i64 t8, .slice tA9 p.ot.length tc9])
  have tH9 := Lib.hid tH9
  have q0 := HR.out.k
  rw [hk] at q0
  clear t0' HR hp hk ho4 hot
  have HB := Lib.hid ((Below.refl w.heap.size w).alloc (Nat.le_refl _) (.cells p.cs.toArray 59))
  have HS := Lib.hid (show w.heap.size < (w.alloc (.cells p.cs.toArray 59)).heap.size by simp)
  generalize p.cs.toArray = C at *
  go_enter Tryz.func16, Tryz.ntmps16
  go_wp2_with (refine wpList_load_mid rfl 47 _ rfl w.heap.size 28 rfl _ _ R_t.out Tryz.underlying47 rfl (by kernel_rfl) ?_)
  refine (isTcp_ _ _ _ _ _ _ _ _ _ _ _ _ _ (tH9.out.below HB.out) HT.out.1 (Lib.hid HT.out.2)).mono ?_
  rintro e w1 ⟨⟨b, rfl, hr⟩, hb⟩
  have HF := Lib.hid (HB.out.trans (hb.mono HB.out.size))
  have HRR := Lib.hid hr
  clear hb hr
  go_wp2_with fail
  go_ret
  exact ⟨⟨_, rfl, fun h => by have G := HRR.out h; exact ⟨fun h => by have := HK.out; first | omega | (have := G; omega) | exact G, fun h => by have := HK.out; first | omega | (have := G; omega) | exact G, fun h => by have := HK.out; first | omega | (have := G; omega) | exact G, fun h => by have := HK.out; first | omega | (have := G; omega) | exact G, fun h => by have := HK.out; first | omega | (have := G; omega) | exact G⟩⟩, HF.out⟩
set_option maxRecDepth 100000 in
set_option maxHeartbeats 4000000 in
theorem isPiece6 (p : Pc) (w : World) (hp : PcIn w p) (ho4 : OptFit p.o4) (hot : OptFit p.ot) (hk : p.k = 6) : Calls Tryz.prog 16 #[.agg p.cs.toArray] w (RBP (PcOk p) w) := by
  have HR := Lib.hid hp.new
  have HK := Lib.hid hk
  have H4 := Lib.hid ho4
  have HT := Lib.hid hot
  obtain ⟨u0, u1, u2, u3, u0'⟩ := hp.u
  have R_u := Lib.hid (by have := HR.out.u; rwa [u0'] at this : (w.alloc (.cells p.cs.toArray 59)).rangeAt w.heap.size 38 [.int .i64 u0, .int .i64 u1, .int .i64 u2, .int .i64 u3])
  have q0 := HR.out.k
  rw [hk] at q0
  clear u0' HR hp hk ho4 hot
  have HB := Lib.hid ((Below.refl w.heap.size w).alloc (Nat.le_refl _) (.cells p.cs.toArray 59))
  have HS := Lib.hid (show w.heap.size < (w.alloc (.cells p.cs.toArray 59)).heap.size by simp)
  generalize p.cs.toArray = C at *
  go_enter Tryz.func16, Tryz.ntmps16
  go_wp2_with (refine wpList_load_mid rfl 49 _ rfl w.heap.size 38 rfl _ _ R_u.out Tryz.underlying49 rfl (by kernel_rfl) ?_)
  refine (isUdp_ _ _ _ _ _).mono ?_
  rintro e w1 ⟨⟨b, rfl, hr⟩, hb⟩
  have HF := Lib.hid (HB.out.trans (hb.mono HB.out.size))
  have HRR := Lib.hid hr
  clear hb hr
  go_wp2_with fail
  go_ret
  exact ⟨⟨_, rfl, fun h => by have G := HRR.out h; exact ⟨fun h => by have := HK.out; first | omega | (have := G; omega) | exact G, fun h => by have := HK.out; first | omega | (have := G; omega) | exact G, fun h => by have := HK.out; first | omega | (have := G; omega) | exact G, fun h => by have := HK.out; first | omega | (have := G; omega) | exact G, fun h => by have := HK.out; first | omega | (have := G; omega) | exact G⟩⟩, HF.out⟩
set_option maxRecDepth 100000 in
set_option maxHeartbeats 4000000 in
theorem isPiece7 (p : Pc) (w : World) (hp : PcIn w p) (ho4 : OptFit p.o4) (hot : OptFit p.ot) (hk : p.k = 7) : Calls Tryz.prog 16 #[.agg p.cs.toArray] w (RBP (PcOk p) w) := by
  have HR := Lib.hid hp.new
  have HK := Lib.hid hk
  have H4 := Lib.hid ho4
  have HT := Lib.hid hot
  obtain ⟨h0, h1, h2, h3, h4, h0'⟩ := hp.h
  have R_h := Lib.hid (by have := HR.out.h; rwa [h0'] at this : (w.alloc (.cells p.cs.toArray 59)).rangeAt w.heap.size 42 [.int .i64 h0, .int .i64 h1, .int .i64 h2, .int .i64 h3, .int .i64 h4])
  have q0 := HR.out.k
  rw [hk] at q0
  clear h0' HR hp hk ho4 hot
  have HB := Lib.hid ((Below.refl w.heap.size w).alloc (Nat.le_refl _) (.cells p.cs.toArray 59))
  have HS := Lib.hid (show w.heap.size < (w.alloc (.cells p.cs.toArray 59)).heap.size by simp)
  generalize p.cs.toArray = C at *
  go_enter Tryz.func16, Tryz.ntmps16
  go_wp2_with (refine wpList_load_mid rfl 51 _ rfl w.heap.size 42 rfl _ _ R_h.out Tryz.underlying51 rfl (by kernel_rfl) ?_)
  refine (isIcmp_ _ _ _ _ _ _).mono ?_
  rintro e w1 ⟨⟨b, rfl, hr⟩, hb⟩
  have HF := Lib.hid (HB.out.trans (hb.mono HB.out.size))
  have HRR := Lib.hid hr
  clear hb hr
  go_wp2_with fail
  go_ret
  exact ⟨⟨_, rfl, fun h => by have G := HRR.out h; exact ⟨fun h => by have := HK.out; first | omega | (have := G; omega) | exact G, fun h => by have := HK.out; first | omega | (have := G; omega) | exact G, fun h => by have := HK.out; first | omega | (have := G; omega) | exact G, fun h => by have := HK.out; first | omega | (have := G; omega) | exact G, fun h => by have := HK.out; first | omega | (have := G; omega) | exact G⟩⟩, HF.out⟩
set_option maxRecDepth 100000 in
set_option maxHeartbeats 4000000 in
theorem isPiece8 (p : Pc) (w : World) (hp : PcIn w p) (ho4 : OptFit p.o4) (hot : OptFit p.ot) (hk : p.k = 8) : Calls Tryz.prog 16 #[.agg p.cs.toArray] w (RBP (PcOk p) w) := by
  have HR := Lib.hid hp.new
  have HK := Lib.hid hk
  have H4 := Lib.hid ho4
  have HT := Lib.hid hot
  obtain ⟨g0, g1, g2, g3, g4, g5, g6, g7, g8, g9, g0'⟩ := hp.g
  have R_g := Lib.hid (by have := HR.out.g; rwa [g0'] at this : (w.alloc (.cells p.cs.toArray 59)).rangeAt w.heap.size 47 [.int .i64 g0, .int .i64 g1, .bool g2, .bool g3, .bool g4, .bool g5, .int .i64 g6, .int .i64 g7, .int .i64 g8, .int .i64 g9])
  have q0 := HR.out.k
  rw [hk] at q0
  clear g0' HR hp hk ho4 hot
  have HB := Lib.hid ((Below.refl w.heap.size w).alloc (Nat.le_refl _) (.cells p.cs.toArray 59))
  have HS := Lib.hid (show w.heap.size < (w.alloc (.cells p.cs.toArray 59)).heap.size by simp)
  generalize p.cs.toArray = C at *
  go_enter Tryz.func16, Tryz.ntmps16
  go_wp2_with (refine wpList_load_mid rfl 53 _ rfl w.heap.size 47 rfl _ _ R_g.out Tryz.underlying53 rfl (by kernel_rfl) ?_)
  refine (isGre_ _ _ _ _ _ _ _ _ _ _ _).mono ?_
  rintro e w1 ⟨⟨b, rfl, hr⟩, hb⟩
  have HF := Lib.hid (HB.out.trans (hb.mono HB.out.size))
  have HRR := Lib.hid hr
  clear hb hr
  go_wp2_with fail
  go_ret
  exact ⟨⟨_, rfl, fun h => by have G := HRR.out h; exact ⟨fun h => by have := HK.out; first | omega | (have := G; omega) | exact G, fun h => by have := HK.out; first | omega | (have := G; omega) | exact G, fun h => by have := HK.out; first | omega | (have := G; omega) | exact G, fun h => by have := HK.out; first | omega | (have := G; omega) | exact G, fun h => by have := HK.out; first | omega | (have := G; omega) | exact G⟩⟩, HF.out⟩
set_option maxRecDepth 100000 in
set_option maxHeartbeats 4000000 in
theorem isPiece9 (p : Pc) (w : World) (hp : PcIn w p) (ho4 : OptFit p.o4) (hot : OptFit p.ot) (hk : p.k = 9) : Calls Tryz.prog 16 #[.agg p.cs.toArray] w (RBP (PcOk p) w) := by
  have HR := Lib.hid hp.new
  have HK := Lib.hid hk
  have H4 := Lib.hid ho4
  have HT := Lib.hid hot
  obtain ⟨x0, x1, x2, x3, x4, x5, x0'⟩ := hp.x
  have R_x := Lib.hid (by have := HR.out.x; rwa [x0'] at this : (w.alloc (.cells p.cs.toArray 59)).rangeAt w.heap.size 57 [.bool x0, .int .i64 x1, .bool x2, .bool x3, .bool x4, .int .i64 x5])
  have q0 := HR.out.k
  rw [hk] at q0
  clear x0' HR hp hk ho4 hot
  have HB := Lib.hid ((Below.refl w.heap.size w).alloc (Nat.le_refl _) (.cells p.cs.toArray 59))
  have HS := Lib.hid (show w.heap.size < (w.alloc (.cells p.cs.toArray 59)).heap.size by simp)
  generalize p.cs.toArray = C at *
  go_enter Tryz.func16, Tryz.ntmps16
  go_wp2_with (refine wpList_load_mid rfl 55 _ rfl w.heap.size 57 rfl _ _ R_x.out Tryz.underlying55 rfl (by kernel_rfl) ?_)
  refine (isVxlan_ _ _ _ _ _ _ _).mono ?_
  rintro e w1 ⟨⟨b, rfl, hr⟩, hb⟩
  have HF := Lib.hid (HB.out.trans (hb.mono HB.out.size))
  have HRR := Lib.hid hr
  clear hb hr
  go_wp2_with fail
  go_ret
  exact ⟨⟨_, rfl, fun h => by have G := HRR.out h; exact ⟨fun h => by have := HK.out; first | omega | (have := G; omega) | exact G, fun h => by have := HK.out; first | omega | (have := G; omega) | exact G, fun h => by have := HK.out; first | omega | (have := G; omega) | exact G, fun h => by have := HK.out; first | omega | (have := G; omega) | exact G, fun h => by have := HK.out; first | omega | (have := G; omega) | exact G⟩⟩, HF.out⟩
set_option maxRecDepth 100000 in
set_option maxHeartbeats 4000000 in
theorem isPiece11 (p : Pc) (w : World) (hp : PcIn w p) (ho4 : OptFit p.o4) (hot : OptFit p.ot) (hk : p.k = 11) : Calls Tryz.prog 16 #[.agg p.cs.toArray] w (RBP (PcOk p) w) := by
  have HR := Lib.hid hp.new
  have HK := Lib.hid hk
  have H4 := Lib.hid ho4
  have HT := Lib.hid hot
  obtain ⟨r0, r1, r2, rA3, rc3, rA4, rc4, rA5, rc5, rA6, rc6, r0', rH3, rH4, rH5, rH6⟩ := hp.r
  have R_r := Lib.hid (by have := HR.out.r; rwa [r0'] at this : (w.alloc (.cells p.cs.toArray 59)).rangeAt w.heap.size 63 [.int .i64 r0, .int .i64 r1, .int .i64 r2, .slice rA3 p.na rc3, .slice rA4 p.nb rc4, .slice rA5 p.nc rc5, .slice rA6 p.nd rc6])
  have rH3 := Lib.hid rH3
  have rH4 := Lib.hid rH4
  have rH5 := Lib.hid rH5
  have rH6 := Lib.hid rH6
  have q0 := HR.out.k
  rw [hk] at q0
  clear r0' HR hp hk ho4 hot
  have HB := Lib.hid ((Below.refl w.heap.size w).alloc (Nat.le_refl _) (.cells p.cs.toArray 59))
  have HS := Lib.hid (show w.heap.size < (w.alloc (.cells p.cs.toArray 59)).heap.size by simp)
  generalize p.cs.toArray = C at *
  go_enter Tryz.func16, Tryz.ntmps16
  go_wp2_with (refine wpList_load_mid rfl 57 _ rfl w.heap.size 63 rfl _ _ R_r.out Tryz.underlying57 rfl (by kernel_rfl) ?_)
  refine (isArp_ _ _ _ _ _ _ _ _ _ _ _ _ _ _ _ _).mono ?_
  rintro e w1 ⟨⟨b, rfl, hr⟩, hb⟩
  have HF := Lib.hid (HB.out.trans (hb.mono HB.out.size))
  have HRR := Lib.hid hr
  clear hb hr
  go_wp2_with fail
  go_ret
  exact ⟨⟨_, rfl, fun h => by have G := HRR.out h; exact ⟨fun h => by have := HK.out; first | omega | (have := G; omega) | exact G, fun h => by have := HK.out; first | omega | (have := G; omega) | exact G, fun h => by have := HK.out; first | omega | (have := G; omega) | exact G, fun h => by have := HK.out; first | omega | (have := G; omega) | exact G, fun h => by have := HK.out; first | omega | (have := G; omega) | exact G⟩⟩, HF.out⟩
set_option maxRecDepth 100000 in
set_option maxHeartbeats 4000000 in
theorem isPiece3 (p : Pc) (w : World) (hp : PcIn w p) (ho4 : OptFit p.o4) (hot : OptFit p.ot) (hk : p.k = 3) : Calls Tryz.prog 16 #[.agg p.cs.toArray] w (RBP (PcOk p) w) := by
  have HR := Lib.hid hp.new
  have HK := Lib.hid hk
  have H4 := Lib.hid ho4
  have HT := Lib.hid hot
  obtain ⟨f0, f1, f2, f3, f4, f5, f6, f7, f8, fA9, fc9, fA10, fc10, fA11, fc11, f0', fH9, fH10, fH11⟩ := hp.f
  have R_f := Lib.hid (by have := HR.out.f; rwa [f0'] at this : (w.alloc (.cells p.cs.toArray 59)).rangeAt w.heap.size 9 [.int .i64 f0, .int .i64 f1, .int .i64 f2, .int .i64 f3, .int .i64 f4, .int .i64 f5, .int .i64 f6, .int .i64 f7, .int .i64 f8, .slice fA9 p.n4 fc9, .slice fA10 p.m4 fc10, .slice fA11 p.o4.length fc11])
  have fH9 := Lib.hid fH9
  have fH10 := Lib.hid fH10
  have fH11 := Lib.hid fH11
  have q0 := HR.out.k
  rw [hk] at q0
  clear f0' HR hp hk ho4 hot
  have HB := Lib.hid ((Below.refl w.heap.size w).alloc (Nat.le_refl _) (.cells p.cs.toArray 59))
  have HS := Lib.hid (show w.heap.size < (w.alloc (.cells p.cs.toArray 59)).heap.size by simp)
  generalize p.cs.toArray = C at *
  go_enter Tryz.func16, Tryz.ntmps16
  go_wp2_with (refine wpList_load_mid rfl 43 _ rfl w.heap.size 9 rfl _ _ R_f.out Tryz.underlying43 rfl (by kernel_rfl) ?_)
  refine (isIpv4_ _ _ _ _ _ _ _ _ _ _ _ _ _ _ _ _ _ _ _ (fH11.out.below HB.out) H4.out.1 (Lib.hid H4.out.2)).mono ?_
  rintro e w1 ⟨⟨b, rfl, hr⟩, hb⟩
  have HF := Lib.hid (HB.out.trans (hb.mono HB.out.size))
  cases b
  · clear hr hb
    go_wp2_with fail
    go_ret
    exact ⟨⟨_, rfl, fun h => by simp at h⟩, HF.out⟩
  · have HG := Lib.hid (hr rfl)
    have q20 : w1.cell? ⟨w.heap.size, 20, none⟩ = some (.slice fA11 p.o4.length fc11) := (rangeBelow R_f.out HS.out hb) 11 _ rfl
    have f20 : w.heap.size < w1.heap.size := Nat.lt_of_lt_of_le HS.out hb.size
    clear hr hb
    go_wp2_with fail
    refine (hasBare_ _ _ _ _ (fH11.out.below HF.out) H4.out.1).mono ?_
    rintro e w2 ⟨⟨b, rfl, hr⟩, hb⟩
    have HF2 := Lib.hid (HF.out.trans (hb.mono HF.out.size))
    clear hb hr
    go_wp2_with fail
    all_goals go_ret
    all_goals exact ⟨⟨_, rfl, fun h => by have G := HG.out; exact ⟨fun h => by have := HK.out; first | omega | (have := G; omega) | exact G, fun h => by have := HK.out; first | omega | (have := G; omega) | exact G, fun h => by have := HK.out; first | omega | (have := G; omega) | exact G, fun h => by have := HK.out; first | omega | (have := G; omega) | exact G, fun h => by have := HK.out; first | omega | (have := G; omega) | exact G⟩⟩, HF2.out⟩
set_option maxRecDepth 100000 in
set_option maxHeartbeats 4000000 in
theorem isPiece10 (p : Pc) (w : World) (hp : PcIn w p) (ho4 : OptFit p.o4) (hot : OptFit p.ot) (hk : p.k = 10) : Calls Tryz.prog 16 #[.agg p.cs.toArray] w (RBP (PcOk p) w) := by
  have HR := Lib.hid hp.new
  have HK := Lib.hid hk
  have H4 := Lib.hid ho4
  have HT := Lib.hid hot
  obtain ⟨h0, h1, h2, h3, h4, h0'⟩ := hp.h
  have R_h := Lib.hid (by have := HR.out.h; rwa [h0'] at this : (w.alloc (.cells p.cs.toArray 59)).rangeAt w.heap.size 42 [.int .i64 h0, .int .i64 h1, .int .i64 h2, .int .i64 h3, .int .i64 h4])
  have q0 := HR.out.k
  rw [hk] at q0
  clear h0' HR hp hk ho4 hot
  have HB := Lib.hid ((Below.refl w.heap.size w).alloc (Nat.le_refl _) (.cells p.cs.toArray 59))
  have HS := Lib.hid (show w.heap.size < (w.alloc (.cells p.cs.toArray 59)).heap.size by simp)
  generalize p.cs.toArray = C at *
  have q42 : (w.alloc (.cells C 59)).cell? ⟨w.heap.size, 42, none⟩ = some (.int .i64 h0) := R_h.out 0 _ rfl
  have q43 : (w.alloc (.cells C 59)).cell? ⟨w.heap.size, 43, none⟩ = some (.int .i64 h1) := R_h.out 1 _ rfl
  go_enter Tryz.func16, Tryz.ntmps16
  go_wp2_with (go_at_call 39; refine (upTo_ _ _ _).mono ?_; rintro e w1 ⟨⟨b, rfl⟩, rfl⟩; cases b)
  all_goals go_ret
  all_goals exact ⟨⟨_, rfl, fun h => ⟨fun h => by have := HK.out; omega, fun h => by have := HK.out; omega, fun h => by have := HK.out; omega, fun h => by have := HK.out; omega, fun h => by have := HK.out; omega⟩⟩, HB.out⟩
set_option maxRecDepth 100000 in
set_option maxHeartbeats 4000000 in
theorem isPiece0 (p : Pc) (w : World) (hp : PcIn w p) (h1 : p.k ≠ 1) (h2 : p.k ≠ 2) (h3 : p.k ≠ 3) (h4 : p.k ≠ 4) (h5 : p.k ≠ 5) (h6 : p.k ≠ 6) (h7 : p.k ≠ 7) (h10 : p.k ≠ 10) (h11 : p.k ≠ 11) (h8 : p.k ≠ 8) (h9 : p.k ≠ 9) : Calls Tryz.prog 16 #[.agg p.cs.toArray] w (RBP (PcOk p) w) := by
  have HR := Lib.hid hp.new
  have q0 := HR.out.k
  have e1 : (p.k == 1) = false := by simpa using h1
  have e2 : (p.k == 2) = false := by simpa using h2
  have e3 : (p.k == 3) = false := by simpa using h3
  have e4 : (p.k == 4) = false := by simpa using h4
  have e5 : (p.k == 5) = false := by simpa using h5
  have e6 : (p.k == 6) = false := by simpa using h6
  have e7 : (p.k == 7) = false := by simpa using h7
  have e10 : (p.k == 10) = false := by simpa using h10
  have e11 : (p.k == 11) = false := by simpa using h11
  have e8 : (p.k == 8) = false := by simpa using h8
  have e9 : (p.k == 9) = false := by simpa using h9
  clear h1 h2 h3 h4 h5 h6 h7 h10 h11 h8 h9 HR hp
  have HB := Lib.hid ((Below.refl w.heap.size w).alloc (Nat.le_refl _) (.cells p.cs.toArray 59))
  generalize p.cs.toArray = C at *
  go_enter Tryz.func16, Tryz.ntmps16
  go_wp2_with fail
  go_ret
  exact ⟨⟨_, rfl, fun h => by simp at h⟩, HB.out⟩
theorem isPiece_ (p : Pc) (w : World) (hp : PcIn w p) (ho4 : OptFit p.o4) (hot : OptFit p.ot) : Calls Tryz.prog 16 #[.agg p.cs.toArray] w (RBP (PcOk p) w) := by
  by_cases h1 : p.k = 1
  · exact isPiece1 p w hp ho4 hot h1
  by_cases h2 : p.k = 2
  · exact isPiece2 p w hp ho4 hot h2
  by_cases h3 : p.k = 3
  · exact isPiece3 p w hp ho4 hot h3
  by_cases h4 : p.k = 4
  · exact isPiece4 p w hp ho4 hot h4
  by_cases h5 : p.k = 5
  · exact isPiece5 p w hp ho4 hot h5
  by_cases h6 : p.k = 6
  · exact isPiece6 p w hp ho4 hot h6
  by_cases h7 : p.k = 7
  · exact isPiece7 p w hp ho4 hot h7
  by_cases h10 : p.k = 10
  · exact isPiece10 p w hp ho4 hot h10
  by_cases h11 : p.k = 11
  · exact isPiece11 p w hp ho4 hot h11
  by_cases h8 : p.k = 8
  · exact isPiece8 p w hp ho4 hot h8
  by_cases h9 : p.k = 9
  · exact isPiece9 p w hp ho4 hot h9
  exact isPiece0 p w hp h1 h2 h3 h4 h5 h6 h7 h10 h11 h8 h9
end Go.Proofs.YtecgkcofmphaiaaGreatDoor.Gpk
