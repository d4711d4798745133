/- Segments, with what follows them.
   The mark of a cut.
   Too few bytes for a header.
   Too few bytes for a header.
   Too few bytes for a header.
   Too few bytes for a header.
   Too few bytes for a header.
   Too few bytes for a header.
   Too few bytes for a header. -/
import Derived.Test.YtecgkcofmphaiaaGreatDoorA02
import Derived.Test.YtecgkcofmphaiaaGreatDoorA16
import Derived.WalkMore
set_option linter.unusedVariables false
set_option linter.unusedSimpArgs false
set_option linter.unnecessarySimpa false
set_option linter.unusedSectionVars false
namespace Go.Proofs.YtecgkcofmphaiaaGreatDoor.Gpk
open Go.RowKit
set_option maxRecDepth 100000 in
set_option maxHeartbeats 2000000 in
theorem decTcp {F : Fix} (hF : F.ok) (p n : Nat) (hp : p + n ≤ F.L) (nx : Nm) (ps : List Piece) (t1 : 20 ≤ n) (t2 : 20 ≤ F.g (p + 12) / 16 * 4) (t3 : F.g (p + 12) / 16 * 4 ≤ n) (t5 : WF 2 (fun i => F.g (p + (20 + i))) (F.g (p + 12) / 16 * 4 - 20) 0) (hx : nx = freeOf (F.g p * 256 + F.g (p + 1)) (F.g (p + 2) * 256 + F.g (p + 3))) (r : Chain F.g (p + (F.g (p + 12) / 16 * 4)) nx (n - (F.g (p + 12) / 16 * 4)) ps)
    (ih : decodable nx = true → 0 < n - (F.g (p + 12) / 16 * 4) → DecOK F (fnOf nx) (p + (F.g (p + 12) / 16 * 4)) (n - (F.g (p + 12) / 16 * 4)) ps) : DecOK F 99 p n ({ nm := .tcp, at_ := p, size := F.g (p + 12) / 16 * 4, fin := n } :: ps) := by
  intro c w ls hc hm hI hlen
  have hlen' : ls.length + ps.length + 1 ≤ 20 := by simpa [Nat.add_assoc] using hlen
  clear hlen
  have hB := hI.byt hF p n hp
  have hf := hF.sub p
  have HI := Lib.hid hI
  have HR := Lib.hid r
  have HIH := Lib.hid ih
  clear hI r ih
  have HHX := Lib.hid hx
  clear hx
  go_enter Tryz.func99, Tryz.ntmps99
  go_wp2_with fail
  refine (tcpD2 F.D p n c _ _ _ _ _ _ _ _ _ _ _ _ _ _ _ _ _ _ _ _ _ _ _ _ _ _ _ _ _ _ _ _ _ _ _ _ w hB hf hc hm t1 t2 t3 t5).mono ?_
  rintro e w1 ⟨rfl, hL⟩
  have HL := Lib.hid hL
  clear hL
  go_wp2_with fail
  refine (addLayer hF (HL.out.inv HI.out) (by omega) { v := .iface 130 (.pointer (some ⟨w.heap.size, 0, none⟩)), nm := .tcp, cq := p, cn := F.g (p + 12) / 16 * 4, pq := p + (F.g (p + 12) / 16 * 4), pn := n - (F.g (p + 12) / 16 * 4) } (layOK .tcp HL.out (fun _ h => h) (by omega) (by omega)) 130 _ rfl).mono ?_
  rintro e w2 ⟨rfl, hA⟩
  have HA := Lib.hid hA
  clear hA
  obtain ⟨cs, v1, hcs, hP, hv1, hW⟩ := HL.out.later (fun _ h => h) HA.out.2 (by decide) (by decide)
  clear hP
  go_wp2_with fail
  refine (setTransport _ _ _).mono ?_
  rintro e w' ⟨rfl, rfl⟩
  have HN := Lib.hid (fun (k : Nat) => nextStep hF HA.out.1 .tcp w.heap.size cs rfl hcs v1 hv1 (p + (F.g (p + 12) / 16 * 4)) (n - (F.g (p + 12) / 16 * 4)) hW (by omega) (.iface 75 (.int .i64 2)) nx ps HR.out (told HR.out (by rw [HHX.out]; unfold freeOf; split; exact .inr .pay; exact .inl rfl)) (by omega) HIH.out k)
  have HCS := Lib.hid hcs
  have HV1 := Lib.hid hv1
  have HWW := Lib.hid hW
  clear hcs hv1 hW
  have hnil := nilND
  go_wp2_with fail
  refine (HN.out 0).mono ?_
  rintro e w' ⟨u, rfl, hD⟩
  have HD := Lib.hid hD
  clear hD
  go_wp2
  go_ret
  exact ⟨_, rfl, HD.out.cons ⟨rfl, rfl, rfl, rfl, rfl⟩⟩
end Go.Proofs.YtecgkcofmphaiaaGreatDoor.Gpk
namespace Go.Proofs.YtecgkcofmphaiaaGreatDoor.Gpk
open Go.RowKit
set_option maxRecDepth 100000 in
theorem setTruncated_raw (bp : Nat) (u : Value) (w : World) (h1 : w.cell? ⟨bp, 1, none⟩ = some u) (f1 : w.frozen? ⟨bp, 1, none⟩ = false) :
    Calls Tryz.prog 191 #[.pointer (some ⟨bp, 0, none⟩)] w fun e w' => e = .returned (.tuple #[]) ∧ ∃ k, w' = (w.setCell ⟨bp, 1, none⟩ (.bool true)).drewN k := by
  go_enter Tryz.func191, Tryz.ntmps191
  go_wp2
  go_end0
  exact ⟨rfl, 0, rfl⟩
theorem Inv.trunc {F : Fix} (hF : F.ok) {w : World} {ls : List Lay} (hI : Inv F w ls) : Inv F (w.setCell ⟨F.bp, 1, none⟩ (.bool true)) ls := by
  obtain ⟨h1, h2, ⟨v, tr, h3, h4⟩, h5⟩ := hI
  have keep : ∀ (i : Nat) (cs : Array Value) (T : TypeId) (fr : Nat × Nat), w.heap[i]? = some (.cells cs T fr) → T ≠ 124 → (w.setCell ⟨F.bp, 1, none⟩ (.bool true)).heap[i]? = some (.cells cs T fr) := by
    intro i cs T fr hi hT
    rw [heap_far]
    · exact hi
    · rintro rfl
      rw [h3] at hi
      simp at hi
      exact hT hi.2.1.symm
  refine ⟨h1.setCell hF.bp _, keep _ _ _ _ h2 (by decide), ⟨v, true, ?_, ?_⟩, fun m hm => (h5 m hm).keep ⟨by simp [World.setCell], fun i cs T fr hi ht _ => keep i cs T fr hi ht⟩⟩
  · have := heap_set (i := 1) h3 (.bool true)
    simpa using this
  · obtain ⟨q1, q2⟩ := h4
    refine ⟨q1, ?_⟩
    rcases q2 with q2 | ⟨g, cap, cur, hv0, hg1, hg2, r⟩
    · exact .inl q2
    · exact .inr ⟨g, cap, cur, hv0, hg1, keep _ _ _ _ hg2 (by decide), r⟩
theorem Inv.truncKeep {F : Fix} {w : World} {ls : List Lay} (hI : Inv F w ls) : Keep w (w.setCell ⟨F.bp, 1, none⟩ (.bool true)) := by
  obtain ⟨h1, h2, ⟨v, tr, h3, h4⟩, h5⟩ := hI
  refine ⟨by simp [World.setCell], fun i cs T fr hi hT _ => ?_⟩
  rw [heap_far]
  · exact hi
  · rintro rfl
    rw [h3] at hi
    simp at hi
    exact hT hi.2.1.symm
/-- The mark is set: all else is as it was. -/
def Marked (F : Fix) (ls : List Lay) (w w' : World) : Prop := Inv F w' ls ∧ Keep w w'
theorem setTruncated {F : Fix} (hF : F.ok) {w : World} {ls : List Lay} (hI : Inv F w ls) :
    Calls Tryz.prog 191 #[.pointer (some ⟨F.bp, 0, none⟩)] w fun e w' => e = .returned (.tuple #[]) ∧ Marked F ls w w' := by
  obtain ⟨v, tr, h3, h4⟩ := hI.bld
  refine (setTruncated_raw F.bp (.bool tr) w ((cell_of_row w F.bp 1 _ 124 (0, 0) h3).trans rfl) (unfrozen h3)).mono ?_
  rintro e w' ⟨rfl, k, rfl⟩
  exact ⟨rfl, (hI.trunc hF).drewN k, hI.truncKeep.drewN k⟩
theorem Inv.alloc {F : Fix} {w : World} {ls : List Lay} (hI : Inv F w ls) (o : Obj) : Inv F (w.alloc o) ls := hI.step ((Below.refl _ _).alloc (Nat.le_refl _) o)
theorem Keep.alloc {w w' : World} (h : Keep w w') (o : Obj) : Keep w (w'.alloc o) := h.trans (.of_below ((Below.refl _ _).alloc (Nat.le_refl _) o))
/-- A layer of which nothing was read. -/
theorem layNone {F : Fix} {w : World} {T Tp : TypeId} {nm : Nm} (hK : Kind Tp T nm) (b : Nat) (cs : Array Value) (hb : w.heap[b]? = some (.cells cs T (0, 0))) (h0 : cs[0]? = some (.slice none 0 0)) (h1 : cs[1]? = some (.slice none 0 0)) :
    Lay.ok F.D F.L w { v := .iface Tp (.pointer (some ⟨b, 0, none⟩)), nm := nm, cq := 0, cn := 0, pq := 0, pn := 0 } :=
  ⟨.inl rfl, .inl rfl, .inl ⟨Tp, T, b, cs, hK, rfl, hb, ⟨_, h0, none, 0, rfl, Nat.le_refl _, Nat.zero_le _, fun h => absurd h (Nat.lt_irrefl _)⟩, ⟨_, h1, none, 0, rfl, Nat.le_refl _, Nat.zero_le _, fun h => absurd h (Nat.lt_irrefl _)⟩⟩⟩
theorem DecR.nil {F : Fix} {ls : List Lay} {w : World} (h : Inv F w ls) : DecR F ls [] w := ⟨[], by simpa using h, trivial, by simp⟩
theorem DecR.one {F : Fix} {ls : List Lay} {l : Lay} {w : World} (h : Inv F w (ls ++ [l])) : DecR F ls [] w := ⟨[l], h, trivial, by simp⟩
end Go.Proofs.YtecgkcofmphaiaaGreatDoor.Gpk
namespace Go.Proofs.YtecgkcofmphaiaaGreatDoor.Gpk
open Go.RowKit
set_option maxRecDepth 100000 in
set_option maxHeartbeats 1000000 in
theorem shortEth {F : Fix} (hF : F.ok) (p n : Nat) (hs : n < 14) : DecOK F 89 p n [] := by
  intro c w ls hc hm hI hlen
  have hlen' : ls.length ≤ 20 := by simpa using hlen
  clear hlen
  have HI := Lib.hid hI
  clear hI
  go_enter Tryz.func89, Tryz.ntmps89
  go_wp2_with (first | (go_at_call 119; go_in))
  refine (newErr _ _).mono ?_
  rintro e w2 ⟨rfl, rfl⟩
  go_wp2
  go_ret
  exact ⟨_, rfl, .nil ((HI.out.alloc _).alloc _)⟩
end Go.Proofs.YtecgkcofmphaiaaGreatDoor.Gpk
namespace Go.Proofs.YtecgkcofmphaiaaGreatDoor.Gpk
open Go.RowKit
set_option maxRecDepth 100000 in
set_option maxHeartbeats 1000000 in
theorem shortVlan {F : Fix} (hF : F.ok) (p n : Nat) (hs : n < 4) : DecOK F 88 p n [] := by
  intro c w ls hc hm hI hlen
  have hlen' : ls.length ≤ 20 := by simpa using hlen
  clear hlen
  have HI := Lib.hid hI
  clear hI
  go_enter Tryz.func88, Tryz.ntmps88
  go_wp2_with (first | (go_at_call 118; go_in) | (go_at_call 199; go_in))
  refine (setTruncated hF (HI.out.alloc _)).mono ?_
  rintro e w1 ⟨rfl, hM⟩
  have HM := Lib.hid hM
  clear hM
  go_wp2_with fail
  refine (newErr _ _).mono ?_
  rintro e w2 ⟨rfl, rfl⟩
  go_wp2
  go_ret
  exact ⟨_, rfl, .nil (HM.out.1.alloc _)⟩
end Go.Proofs.YtecgkcofmphaiaaGreatDoor.Gpk
namespace Go.Proofs.YtecgkcofmphaiaaGreatDoor.Gpk
open Go.RowKit
set_option maxRecDepth 100000 in
set_option maxHeartbeats 1000000 in
theorem shortIcmp {F : Fix} (hF : F.ok) (p n : Nat) (hs : n < 8) : DecOK F 91 p n [] := by
  intro c w ls hc hm hI hlen
  have hlen' : ls.length ≤ 20 := by simpa using hlen
  clear hlen
  have HI := Lib.hid hI
  clear hI
  go_enter Tryz.func91, Tryz.ntmps91
  go_wp2_with (first | (go_at_call 118; go_in) | (go_at_call 218; go_in))
  refine (setTruncated hF (HI.out.alloc _)).mono ?_
  rintro e w1 ⟨rfl, hM⟩
  have HM := Lib.hid hM
  clear hM
  go_wp2_with fail
  refine (newErr _ _).mono ?_
  rintro e w2 ⟨rfl, rfl⟩
  go_wp2
  go_ret
  exact ⟨_, rfl, .nil (HM.out.1.alloc _)⟩
end Go.Proofs.YtecgkcofmphaiaaGreatDoor.Gpk
namespace Go.Proofs.YtecgkcofmphaiaaGreatDoor.Gpk
open Go.RowKit
set_option maxRecDepth 100000 in
set_option maxHeartbeats 1000000 in
theorem shortIcmpSix {F : Fix} (hF : F.ok) (p n : Nat) (hs : n < 4) : DecOK F 106 p n [] := by
  intro c w ls hc hm hI hlen
  have hlen' : ls.length ≤ 20 := by simpa using hlen
  clear hlen
  have HI := Lib.hid hI
  clear hI
  go_enter Tryz.func106, Tryz.ntmps106
  go_wp2_with (first | (go_at_call 118; go_in) | (go_at_call 223; go_in))
  refine (setTruncated hF (HI.out.alloc _)).mono ?_
  rintro e w1 ⟨rfl, hM⟩
  have HM := Lib.hid hM
  clear hM
  go_wp2_with fail
  refine (newErr _ _).mono ?_
  rintro e w2 ⟨rfl, rfl⟩
  go_wp2
  go_ret
  exact ⟨_, rfl, .nil (HM.out.1.alloc _)⟩
end Go.Proofs.YtecgkcofmphaiaaGreatDoor.Gpk
namespace Go.Proofs.YtecgkcofmphaiaaGreatDoor.Gpk
open Go.RowKit
set_option maxRecDepth 100000 in
set_option maxHeartbeats 1000000 in
theorem shortIp4 {F : Fix} (hF : F.ok) (p n : Nat) (hs : n < 20) : DecOK F 92 p n [] := by
  intro c w ls hc hm hI hlen
  have hlen' : ls.length ≤ 20 := by simpa using hlen
  clear hlen
  have HI := Lib.hid hI
  clear hI
  go_enter Tryz.func92, Tryz.ntmps92
  go_wp2_with (first | (go_at_call 120; go_in))
  refine (setTruncated hF (HI.out.alloc _)).mono ?_
  rintro e w1 ⟨rfl, hM⟩
  have HM := Lib.hid hM
  clear hM
  go_wp2_with fail
  refine (newErr _ _).mono ?_
  rintro e w2 ⟨rfl, rfl⟩
  have hb := fun (o : Obj) => (HM.out.2.alloc o).block _ _ _ _ (heap_alloc_new w _) (by decide) (by decide)
  have HB := Lib.hid hb
  clear hb
  go_wp2_with fail
  refine (addLayer hF (HM.out.1.alloc _) (by omega) { v := .iface 128 (.pointer (some ⟨w.heap.size, 0, none⟩)), nm := .ip4, cq := 0, cn := 0, pq := 0, pn := 0 } (layNone .ip4 w.heap.size _ (HB.out _) rfl rfl) 128 _ rfl).mono ?_
  rintro e w2 ⟨rfl, hA⟩
  have HA := Lib.hid hA
  clear hA
  go_wp2_with fail
  refine (setNet _ _ _).mono ?_
  rintro e w' ⟨rfl, rfl⟩
  go_wp2
  go_ret
  exact ⟨_, rfl, .one HA.out.1⟩
end Go.Proofs.YtecgkcofmphaiaaGreatDoor.Gpk
namespace Go.Proofs.YtecgkcofmphaiaaGreatDoor.Gpk
open Go.RowKit
set_option maxRecDepth 100000 in
set_option maxHeartbeats 1000000 in
theorem shortIpSix {F : Fix} (hF : F.ok) (p n : Nat) (hs : n < 40) : DecOK F 93 p n [] := by
  intro c w ls hc hm hI hlen
  have hlen' : ls.length ≤ 20 := by simpa using hlen
  clear hlen
  have HI := Lib.hid hI
  clear hI
  go_enter Tryz.func93, Tryz.ntmps93
  go_wp2_with (first | (go_at_call 122; go_in))
  refine (setTruncated hF (HI.out.alloc _)).mono ?_
  rintro e w1 ⟨rfl, hM⟩
  have HM := Lib.hid hM
  clear hM
  go_wp2_with fail
  refine (newErr _ _).mono ?_
  rintro e w2 ⟨rfl, rfl⟩
  have hb := fun (o : Obj) => (HM.out.2.alloc o).block _ _ _ _ (heap_alloc_new w _) (by decide) (by decide)
  have HB := Lib.hid hb
  clear hb
  go_wp2_with fail
  refine (addLayer hF (HM.out.1.alloc _) (by omega) { v := .iface 129 (.pointer (some ⟨w.heap.size, 0, none⟩)), nm := .ip6, cq := 0, cn := 0, pq := 0, pn := 0 } (layNone .ip6 w.heap.size _ (HB.out _) rfl rfl) 129 _ rfl).mono ?_
  rintro e w2 ⟨rfl, hA⟩
  have HA := Lib.hid hA
  clear hA
  have cx : w2.cell? ⟨w.heap.size, 10, none⟩ = some (.pointer none) := (cell_of_row w2 w.heap.size 10 _ 195 (0, 0) (HA.out.2.block _ _ _ _ (HB.out _) (by decide) (by decide))).trans rfl
  go_wp2_with fail
  refine (setNet _ _ _).mono ?_
  rintro e w' ⟨rfl, rfl⟩
  go_wp2
  go_ret
  exact ⟨_, rfl, .one HA.out.1⟩
end Go.Proofs.YtecgkcofmphaiaaGreatDoor.Gpk
namespace Go.Proofs.YtecgkcofmphaiaaGreatDoor.Gpk
open Go.RowKit
set_option maxRecDepth 100000 in
set_option maxHeartbeats 1000000 in
theorem tcpShortD {F : Fix} (hF : F.ok) (g p n c : Nat) (w : World) (ls : List Lay) (hI : Inv F w ls) (hs : n < 20) :
    Calls Tryz.prog 131 #[.pointer (some ⟨g, 0, none⟩), .slice (some ⟨F.D, p, none⟩) n c, .iface 122 (.pointer (some ⟨F.bp, 0, none⟩))] w fun e w' => ∃ b, e = .returned (.iface 149 (.pointer (some ⟨b, 0, none⟩))) ∧ Marked F ls w w' := by
  have HI := Lib.hid hI
  clear hI
  go_enter Tryz.func131, Tryz.ntmps131
  go_wp2_with fail
  go_step3
  go_wp2_with fail
  refine (setTruncated hF HI.out).mono ?_
  rintro e w1 ⟨rfl, hM⟩
  have HM := Lib.hid hM
  clear hM
  go_wp2_with fail
  refine (newErr _ _).mono ?_
  rintro e w2 ⟨rfl, rfl⟩
  go_wp2
  try rw [Exit.noGoto_ret]
  go_ret
  exact ⟨_, rfl, HM.out.1.alloc _, HM.out.2.alloc _⟩
set_option maxRecDepth 100000 in
set_option maxHeartbeats 1000000 in
theorem shortTcp {F : Fix} (hF : F.ok) (p n : Nat) (hs : n < 20) : DecOK F 99 p n [] := by
  intro c w ls hc hm hI hlen
  have hlen' : ls.length ≤ 20 := by simpa using hlen
  clear hlen
  have HI := Lib.hid hI
  clear hI
  go_enter Tryz.func99, Tryz.ntmps99
  go_wp2_with fail
  refine (tcpShortD hF _ p n c _ ls (HI.out.alloc _) hs).mono ?_
  rintro e w1 ⟨b, rfl, hM⟩
  have HM := Lib.hid hM
  clear hM
  have hb := HM.out.2.block _ _ _ _ (heap_alloc_new w _) (by decide) (by decide)
  have HB := Lib.hid hb
  clear hb
  go_wp2_with fail
  refine (addLayer hF HM.out.1 (by omega) { v := .iface 130 (.pointer (some ⟨w.heap.size, 0, none⟩)), nm := .tcp, cq := 0, cn := 0, pq := 0, pn := 0 } (layNone .tcp w.heap.size _ HB.out rfl rfl) 130 _ rfl).mono ?_
  rintro e w2 ⟨rfl, hA⟩
  have HA := Lib.hid hA
  clear hA
  go_wp2_with fail
  refine (setTransport _ _ _).mono ?_
  rintro e w' ⟨rfl, rfl⟩
  go_wp2
  go_ret
  exact ⟨_, rfl, .one HA.out.1⟩
end Go.Proofs.YtecgkcofmphaiaaGreatDoor.Gpk
