/- Packets of the fourth version, with what follows them.
   The options of a segment: the array in its own block, or a row of its own; one law for the append, whichever it is.
   The loop over the options of a segment: its state.
   A round of the loop over the options of a segment.
   A round of the loop over the options of a segment.
   A round of the loop over the options of a segment. -/
import Derived.Test.YtecgkcofmphaiaaGreatDoorA10
import Derived.Test.YtecgkcofmphaiaaGreatDoorA14
import Derived.WalkMore
import Derived.Deep.RegionLawGrows
import Derived.Test.YtecgkcofmphaiaaGreatDoorA02
set_option linter.unusedVariables false
set_option linter.unusedSimpArgs false
set_option linter.unnecessarySimpa false
set_option linter.unusedSectionVars false
namespace Go.Proofs.YtecgkcofmphaiaaGreatDoor.Gpk
open Go.RowKit
set_option maxRecDepth 100000 in
set_option maxHeartbeats 2000000 in
theorem decIp4 {F : Fix} (hF : F.ok) (p n : Nat) (hp : p + n ≤ F.L) (nx : Nm) (ps : List Piece) (t1 : 20 ≤ n) (t2 : 5 ≤ F.g p % 16) (t3 : F.g p % 16 * 4 ≤ F.g (p + 2) * 256 + F.g (p + 3)) (t4 : F.g (p + 2) * 256 + F.g (p + 3) ≤ n) (t5 : WF 3 (fun i => F.g (p + (20 + i))) (F.g p % 16 * 4 - 20) 0) (hx : nx = (if (F.g (p + 6) * 256 + F.g (p + 7)) % 16384 = 0 then byProto (F.g (p + 9)) false else .none)) (r : Chain F.g (p + (F.g p % 16 * 4)) nx (F.g (p + 2) * 256 + F.g (p + 3) - (F.g p % 16 * 4)) ps)
    (ih : decodable nx = true → 0 < F.g (p + 2) * 256 + F.g (p + 3) - (F.g p % 16 * 4) → DecOK F (fnOf nx) (p + (F.g p % 16 * 4)) (F.g (p + 2) * 256 + F.g (p + 3) - (F.g p % 16 * 4)) ps) : DecOK F 92 p n ({ nm := .ip4, at_ := p, size := F.g p % 16 * 4, fin := F.g (p + 2) * 256 + F.g (p + 3) } :: ps) := by
  intro c w ls hc hm hI hlen
  have hlen' : ls.length + ps.length + 1 ≤ 20 := by simpa [Nat.add_assoc] using hlen
  clear hlen
  have hB := hI.byt hF p n hp
  have hf := hF.sub p
  have HI := Lib.hid hI
  have HR := Lib.hid r
  have HIH := Lib.hid ih
  clear hI r ih
  have HHX := Lib.hid hx
  clear hx
  go_enter Tryz.func92, Tryz.ntmps92
  go_wp2_with fail
  refine (ip4D F.D p n c _ _ _ _ _ _ _ _ _ _ _ _ _ _ _ _ _ w hB hf hc hm t1 t2 t3 t4 t5).mono ?_
  rintro e w1 ⟨rfl, hL⟩
  have HL := Lib.hid hL
  clear hL
  go_wp2_with fail
  refine (addLayer hF (HL.out.inv HI.out) (by omega) { v := .iface 128 (.pointer (some ⟨w.heap.size, 0, none⟩)), nm := .ip4, cq := p, cn := F.g p % 16 * 4, pq := p + (F.g p % 16 * 4), pn := F.g (p + 2) * 256 + F.g (p + 3) - (F.g p % 16 * 4) } (layOK .ip4 HL.out (fun _ h => h.1) (by omega) (by omega)) 128 _ rfl).mono ?_
  rintro e w2 ⟨rfl, hA⟩
  have HA := Lib.hid hA
  clear hA
  obtain ⟨cs, v1, hcs, hP, hv1, hW⟩ := HL.out.later (fun _ h => h.1) HA.out.2 (by decide) (by decide)
  have cx : w2.cell? ⟨w.heap.size, 7, none⟩ = some (.int .u8 ((F.g (p + 6) * 256 + F.g (p + 7)) / 8192 : Nat)) := (cell_of_row w2 w.heap.size 7 cs 185 (0, 0) hcs).trans hP.2.1
  have cy : w2.cell? ⟨w.heap.size, 8, none⟩ = some (.int .u16 (bits .and .u16 ((F.g (p + 6) * 256 + F.g (p + 7) : Nat) : Int) 8191)) := (cell_of_row w2 w.heap.size 8 cs 185 (0, 0) hcs).trans hP.2.2.1
  have cz : w2.cell? ⟨w.heap.size, 10, none⟩ = some (.int .u8 (F.g (p + 9) : Nat)) := (cell_of_row w2 w.heap.size 10 cs 185 (0, 0) hcs).trans hP.2.2.2
  clear hP
  go_wp2_with fail
  refine (setNet _ _ _).mono ?_
  rintro e w' ⟨rfl, rfl⟩
  have HQ := Lib.hid (fun (k : Nat) => (ip4Next w.heap.size (F.g (p + 6) * 256 + F.g (p + 7)) (F.g (p + 9)) (by have := hf 6; have := hf 7; simp only at *; omega) (w2.drewN k) cx cy cz))
  have HN := Lib.hid (fun (v : Int) (hT : nx = .none ∨ NextIs (.iface 75 (.int .i64 v)) nx) (k : Nat) => nextStep hF HA.out.1 .ip4 w.heap.size cs rfl hcs v1 hv1 (p + (F.g p % 16 * 4)) (F.g (p + 2) * 256 + F.g (p + 3) - (F.g p % 16 * 4)) hW (by omega) (.iface 75 (.int .i64 v)) nx ps HR.out (told HR.out hT) (by omega) HIH.out k)
  have HCS := Lib.hid hcs
  have HV1 := Lib.hid hv1
  have HWW := Lib.hid hW
  clear hcs hv1 hW
  have hnil := nilND
  go_wp2_with fail
  go_region_with (first
    | (go_at_call 121; refine (HQ.out _).mono ?_; rintro e w' ⟨v, rfl, rfl, hT⟩; have HT : Hid (nx = .none ∨ NextIs (.iface 75 (.int .i64 v)) nx) := by rw [HHX.out]; exact hT)
    | (go_at_call 186; refine (HN.out _ HT.out _).mono ?_; rintro e w' ⟨u, rfl, hD⟩; have HD := Lib.hid hD; clear hD))
  all_goals
    go_wp2
    go_ret
    exact ⟨_, rfl, HD.out.cons ⟨rfl, rfl, rfl, rfl, rfl⟩⟩
end Go.Proofs.YtecgkcofmphaiaaGreatDoor.Gpk
namespace Go.Proofs.YtecgkcofmphaiaaGreatDoor.Gpk
open Go.RowKit
/-- Where k options lie: in the segment's own block, or in a block of their own behind it. -/
def Opts (w wr : World) (V : Value) (k : Nat) : Prop :=
  ∃ b o cap, V = .slice (some ⟨b, o, none⟩) k cap ∧ k ≤ cap ∧ ((b = w.heap.size ∧ o = 23 ∧ cap = 4) ∨ (w.heap.size < b ∧ o = 0 ∧ ∃ cur, wr.heap[b]? = some (.cells cur 222 (0, 0)) ∧ cur.size = cap * 3))
/-- The k-th option's cells. -/
structure Opt3 (w wr : World) (b o : Nat) (t0 t1 t2 : Value) : Prop where
  c0 : wr.cell? ⟨b, o, none⟩ = some t0
  c1 : wr.cell? ⟨b, o + 1, none⟩ = some t1
  c2 : wr.cell? ⟨b, o + 2, none⟩ = some t2
  own : (b = w.heap.size ∧ 23 ≤ o) ∨ (w.heap.size < b ∧ ∃ cur, wr.heap[b]? = some (.cells cur 222 (0, 0)))
section
variable {w wr : World} {Pc : Array Value → Prop}
theorem Opts.drewN {V : Value} {k : Nat} (h : Opts w wr V k) (n : Nat) : Opts w (wr.drewN n) V k := h
theorem Opts.alloc {V : Value} {k : Nat} (h : Opts w wr V k) (ob : Obj) : Opts w (wr.alloc ob) V k := by
  obtain ⟨b, o, cap, hV, hk, h1 | ⟨h1, h2, cur, h3, h4⟩⟩ := h
  · exact ⟨b, o, cap, hV, hk, .inl h1⟩
  · exact ⟨b, o, cap, hV, hk, .inr ⟨h1, h2, cur, (heap_alloc_old wr ob (lt_of_heap h3)).trans h3, h4⟩⟩
/-- A store, wherever, leaves the options where they lie. -/
theorem Opts.set {V : Value} {k : Nat} (h : Opts w wr V k) (b' o' : Nat) (u : Value) : Opts w (wr.setCell ⟨b', o', none⟩ u) V k := by
  obtain ⟨b, o, cap, hV, hk, h1 | ⟨h1, h2, cur, h3, h4⟩⟩ := h
  · exact ⟨b, o, cap, hV, hk, .inl h1⟩
  · by_cases e : b = b'
    · subst e
      exact ⟨b, o, cap, hV, hk, .inr ⟨h1, h2, _, heap_set h3 u, by simpa using h4⟩⟩
    · exact ⟨b, o, cap, hV, hk, .inr ⟨h1, h2, cur, (heap_far (by simpa using e) u).trans h3, h4⟩⟩
theorem Opt3.unfrozen {b o : Nat} {t0 t1 t2 : Value} (h : Opt3 w wr b o t0 t1 t2) {T : TypeId} (hL : Laid w wr T Pc) (i : Nat) : wr.frozen? ⟨b, i, none⟩ = false := by
  rcases h.own with ⟨rfl, _⟩ | ⟨_, cur, hc⟩
  · exact hL.unfrozen i
  · exact Gpk.unfrozen hc
theorem Opt3.laid {b o : Nat} {t0 t1 t2 : Value} (h : Opt3 w wr b o t0 t1 t2) {T : TypeId} (hL : Laid w wr T Pc) (hP : ∀ cs i v, 23 ≤ i → Pc cs → Pc (cs.setIfInBounds i v)) (j : Nat) (v : Value) : Laid w (wr.setCell ⟨b, o + j, none⟩ v) T Pc := by
  rcases h.own with ⟨rfl, h2⟩ | ⟨hb, _⟩
  · exact hL.set _ v (fun cs => hP cs _ v (by omega))
  · exact hL.far _ v hb
theorem Opt3.set1 {b o : Nat} {t0 t1 t2 : Value} (h : Opt3 w wr b o t0 t1 t2) (v : Value) : Opt3 w (wr.setCell ⟨b, o + 1, none⟩ v) b o t0 v t2 := by
  obtain ⟨h0, h1, h2, h3⟩ := h
  refine ⟨?_, World.cell?_setCell_same _ _ _ h1, ?_, ?_⟩
  · rw [World.cell?_setCell_other _ _ _ _ (by simp)]; exact h0
  · rw [World.cell?_setCell_other _ _ _ _ (by simp)]; exact h2
  · rcases h3 with h3 | ⟨h3, cur, hc⟩
    · exact .inl h3
    · exact .inr ⟨h3, _, heap_set hc v⟩
theorem Opt3.set2 {b o : Nat} {t0 t1 t2 : Value} (h : Opt3 w wr b o t0 t1 t2) (v : Value) : Opt3 w (wr.setCell ⟨b, o + 2, none⟩ v) b o t0 t1 v := by
  obtain ⟨h0, h1, h2, h3⟩ := h
  refine ⟨?_, ?_, World.cell?_setCell_same _ _ _ h2, ?_⟩
  · rw [World.cell?_setCell_other _ _ _ _ (by simp)]; exact h0
  · rw [World.cell?_setCell_other _ _ _ _ (by simp)]; exact h1
  · rcases h3 with h3 | ⟨h3, cur, hc⟩
    · exact .inl h3
    · exact .inr ⟨h3, _, heap_set hc v⟩
/-- A store into an option leaves the cells ahead of them. -/
theorem Opt3.low {b o : Nat} {t0 t1 t2 : Value} (h : Opt3 w wr b o t0 t1 t2) (j : Nat) (v : Value) (i : Nat) (hi : i < 23) : (wr.setCell ⟨b, o + j, none⟩ v).cell? ⟨w.heap.size, i, none⟩ = wr.cell? ⟨w.heap.size, i, none⟩ := by
  refine World.cell?_setCell_other _ _ _ _ ?_
  intro e
  injection e with e1 e2
  rcases h.own with ⟨e3, h4⟩ | ⟨h4, _⟩ <;> omega
/-- A store ahead of the options. -/
theorem Opt3.setLow {b o : Nat} {t0 t1 t2 : Value} (h : Opt3 w wr b o t0 t1 t2) (i : Nat) (hi : i < 23) (v : Value) : Opt3 w (wr.setCell ⟨w.heap.size, i, none⟩ v) b o t0 t1 t2 := by
  obtain ⟨h0, h1, h2, h3⟩ := h
  have hne : ∀ j, (⟨w.heap.size, i, none⟩ : Addr) ≠ ⟨b, o + j, none⟩ := by
    intro j e
    injection e with e1 e2
    rcases h3 with ⟨e3, h4⟩ | ⟨h4, _⟩ <;> omega
  refine ⟨?_, ?_, ?_, ?_⟩
  · rw [World.cell?_setCell_other _ _ _ _ (by simpa using hne 0)]; exact h0
  · rw [World.cell?_setCell_other _ _ _ _ (hne 1)]; exact h1
  · rw [World.cell?_setCell_other _ _ _ _ (hne 2)]; exact h2
  · rcases h3 with h3 | ⟨h3, cur, hc⟩
    · exact .inl h3
    · exact .inr ⟨h3, cur, (heap_far (by simp; omega) v).trans hc⟩
end
theorem Tryz.info222 : (Tryz.prog.info? 222).map (fun i => (i.zero, i.size, i.bytes)) = some (some (.agg #[.int .u8 0, .int .u8 0, .slice none 0 0]), 3, 32) := by kernel_rfl

/-- The append of one option, at a step of a region that draws. -/
theorem step_append_opts {ops : Array Oper} {o : Oper} {a : Act} {wr : World} {K : Act → World → Prop} {Q : Exit → Act → World → Prop} {E : Prop}
    (hg : o.guard = none) (s x : Operand) (hop : o.op = Op.call { callee := Callee.builtin Builtin.append, args := #[s, x], argTypes := #[219, 219] })
    (w : World) (Pc : Array Value → Prop) (hL : Laid w wr 229 Pc) (hPs : ∀ cs, Pc cs → cs.size = 36) (hP : ∀ cs i v, 23 ≤ i → Pc cs → Pc (cs.setIfInBounds i v))
    (V : Value) (k : Nat) (hk : k ≤ 60) (hO : Opts w wr V k) (hs : a.eval s = V)
    (ad : Addr) (c : Nat) (t0 t1 t2 : Value) (hx : a.eval x = .slice (some ad) 1 c) (hc : ∀ j u, [t0, t1, t2][j]? = some u → wr.cell? (ad.add j) = some u) (h1c : ∀ u ∈ [t0, t1, t2], u.oneCell' = true)
    (hK : ∀ b o' cap w1, Laid w w1 229 Pc → Opts w w1 (.slice (some ⟨b, o', none⟩) (k + 1) cap) (k + 1) → Opt3 w w1 b (o' + k * 3) t0 t1 t2 → w.heap.size ≤ b → wr.heap.size ≤ w1.heap.size → K (a.put o.dst (.slice (some ⟨b, o', none⟩) (k + 1) cap)) w1) :
    if Region.wanted o (yielded ops a.tmps) = true then Oper.wp Tryz.prog o a wr K Q else E := by
  obtain ⟨i0, hi0, hz0, hz1, hz2⟩ := info_parts Tryz.info222
  obtain ⟨hb, cs, hcs, hp⟩ := hL
  have hL : Laid w wr 229 Pc := ⟨hb, cs, hcs, hp⟩
  have hsz := hPs cs hp
  obtain ⟨b, o', cap, rfl, hkc, hcase⟩ := hO
  by_cases hroom : k + 1 ≤ cap
  · -- there is room
    refine step_append_room hg s x 219 hop 222 i0 3 Tryz.underlying219 hi0 hz1 b o' k cap hs ad 1 c [t0, t1, t2] hx rfl hc h1c hroom ?_ ?_
    · intro j hj
      have hj3 : j < 3 := hj
      rcases hcase with ⟨rfl, rfl, rfl⟩ | ⟨hb1, rfl, cur, hcur, hcz⟩
      · refine ⟨?_, hL.unfrozen _⟩
        rw [cell_of_row wr _ _ cs 229 (0, 0) hcs]
        simp [show 23 + k * 3 + j < cs.size by omega]
      · refine ⟨?_, Gpk.unfrozen hcur⟩
        rw [cell_of_row wr _ _ cur 222 (0, 0) hcur]
        simp [show k * 3 + j < cur.size by omega]
    · have hex : ∃ u0 u1 u2, Opt3 w wr b (o' + k * 3) u0 u1 u2 := by
        rcases hcase with ⟨rfl, rfl, rfl⟩ | ⟨hb1, rfl, cur, hcur, hcz⟩
        · refine ⟨cs[23 + k * 3]'(by omega), cs[23 + k * 3 + 1]'(by omega), cs[23 + k * 3 + 2]'(by omega), ?_, ?_, ?_, .inl ⟨rfl, by omega⟩⟩ <;> rw [cell_of_row wr _ _ cs 229 (0, 0) hcs] <;> simp
        · refine ⟨cur[0 + k * 3]'(by omega), cur[0 + k * 3 + 1]'(by omega), cur[0 + k * 3 + 2]'(by omega), ?_, ?_, ?_, .inr ⟨hb1, cur, hcur⟩⟩ <;> rw [cell_of_row wr _ _ cur 222 (0, 0) hcur] <;> simp
      obtain ⟨u0, u1, u2, h3⟩ := hex
      have hl0 := h3.laid hL hP 0 t0
      have h30 : Opt3 w (wr.setCell ⟨b, o' + k * 3, none⟩ t0) b (o' + k * 3) t0 u1 u2 := by
        obtain ⟨g0, g1, g2, g3⟩ := h3
        refine ⟨World.cell?_setCell_same _ _ _ g0, ?_, ?_, ?_⟩
        · rw [World.cell?_setCell_other _ _ _ _ (by simp)]; exact g1
        · rw [World.cell?_setCell_other _ _ _ _ (by simp)]; exact g2
        · rcases g3 with g3 | ⟨g3, cur, hc'⟩
          · exact .inl g3
          · exact .inr ⟨g3, _, heap_set hc' t0⟩
      have hl1 := h30.laid hl0 hP 1 t1
      have h31 := h30.set1 t1
      have hl2 := h31.laid hl1 hP 2 t2
      have h32 := h31.set2 t2
      have hO0 : Opts w wr (.slice (some ⟨b, o', none⟩) (k + 1) cap) (k + 1) := ⟨b, o', cap, rfl, hroom, hcase⟩
      have hO2 := ((hO0.set b (o' + k * 3) t0).set b (o' + k * 3 + 1) t1).set b (o' + k * 3 + 2) t2
      have hbb : w.heap.size ≤ b := by rcases hcase with ⟨rfl, _⟩ | ⟨hb1, _⟩ <;> omega
      exact hK b o' cap _ hl2 hO2 h32 hbb (by show wr.heap.size ≤ (wr.setCells b (o' + k * 3) [t0, t1, t2]).heap.size; simp [World.setCells, World.setCell])
  · -- it grows
    have hkcap : k = cap := by omega
    subst hkcap
    have holds : ∃ olds : List Value, olds.length = k * 3 ∧ ∀ j u, olds[j]? = some u → wr.cell? ((⟨b, o', none⟩ : Addr).add j) = some u := by
      have hadd : ∀ j, (⟨b, o', none⟩ : Addr).add j = ⟨b, o' + j, none⟩ := fun j => by unfold Addr.add; split <;> simp_all
      rcases hcase with ⟨rfl, rfl, rfl⟩ | ⟨hb1, rfl, cur, hcur, hcz⟩
      · refine ⟨(cs.toList.drop 23).take 12, by simp; omega, fun j u hu => ?_⟩
        rw [hadd, cell_of_row wr _ _ cs 229 (0, 0) hcs]
        rw [List.getElem?_take] at hu
        split at hu
        · rw [List.getElem?_drop] at hu
          simpa using hu
        · cases hu
      · refine ⟨cur.toList, by simp; omega, fun j u hu => ?_⟩
        rw [hadd, cell_of_row wr _ _ cur 222 (0, 0) hcur]
        simpa using hu
    obtain ⟨olds, hlo, hold⟩ := holds
    refine step_append_grows hg s x 219 hop 222 i0 (.agg #[.int .u8 0, .int .u8 0, .slice none 0 0]) 3 32 Tryz.underlying219 hi0 hz0 hz1 hz2 rfl (by decide) (some ⟨b, o', none⟩) k k olds hs (fun h => by cases h) hlo (fun b' hb' => by injection hb' with hb'; subst hb'; exact hold) ad 1 c [t0, t1, t2] hx rfl hc h1c (by omega) (by unfold maxLen; omega) (by omega) ?_
    intro v' w' hown hgrow
    obtain ⟨hlen, ⟨_, h0⟩ | ⟨g', cap', cur', rfl, hb', hcur', hkc', hcm', hcz', htake⟩⟩ := hown
    · omega
    · have hlt := lt_of_heap hcs
      have hL1 : Laid w w' 229 Pc := hL.grown hgrow (fun k hk => by cases hk)
      refine hK g' 0 cap' w' hL1 ⟨g', 0, cap', rfl, hkc', .inr ⟨by omega, rfl, cur', hcur', hcz'⟩⟩ ?_ (by omega) hgrow.size
      have hg3 : ∀ j u, [t0, t1, t2][j]? = some u → cur'[k * 3 + j]? = some u := by
        intro j u hu
        have e : (cur'.toList.take ((k + 1) * 3))[k * 3 + j]? = some u := by
          rw [htake, List.getElem?_append_right (by omega), hlo]
          simpa using hu
        rw [List.getElem?_take] at e
        split at e
        · simpa using e
        · cases e
      refine ⟨?_, ?_, ?_, .inr ⟨by omega, cur', hcur'⟩⟩
      · rw [cell_of_row w' _ _ cur' 222 (0, 0) hcur', Nat.zero_add]; exact hg3 0 t0 rfl
      · rw [cell_of_row w' _ _ cur' 222 (0, 0) hcur', Nat.zero_add]; exact hg3 1 t1 rfl
      · rw [cell_of_row w' _ _ cur' 222 (0, 0) hcur', Nat.zero_add]; exact hg3 2 t2 rfl
end Go.Proofs.YtecgkcofmphaiaaGreatDoor.Gpk
namespace Go.Proofs.YtecgkcofmphaiaaGreatDoor.Gpk
open Go.RowKit
set_option linter.unusedVariables false
noncomputable def tcpBody : Code := ((Tryz.f131.body.bind firstLoop).getD .skip)
set_option maxRecDepth 1000000 in
/-- The loop's state: the place in the options, how many were laid. -/
inductive TcS (D q hw m : Nat) (f : Nat → Nat) (df : Value) (w : World) (x3 x4 x5 x6 x7 x9 x10 x11 x12 x13 x14 x15 x16 x17 x18 x19 x20 x21 x22 x23 x24 x25 x26 x27 x28 x29 x30 x31 x32 x33 x34 x35 x36 x37 x38 x39 x40 x41 x42 x43 x44 x45 x46 x47 x48 x49 x50 x51 x52 x53 x54 x55 x56 x57 x58 x59 x60 x61 x62 x63 x64 x65 x66 x67 x68 x69 x70 x71 x72 x73 x74 x75 x76 x77 x78 x79 x80 x81 x82 x83 x84 x85 x86 x87 x88 x89 x90 x91 x92 x93 x94 x95 x96 x97 x98 x99 x100 x101 x102 x103 x104 x105 x106 x107 x108 x109 x110 x111 x112 x113 x114 x115 x116 x117 x118 x119 x120 x121 x122 x123 x124 x125 x126 x127 x128 x129 x130 x131 x132 x133 x134 x135 x136 x137 x138 x139 x140 x141 x142 x143 x144 x145 x146 x147 x148 x149 x150 x151 x152 x153 x154 x155 x156 x157 x158 x159 x160 x161 x162 x163 x164 x165 x166 x167 x168 x169 x170 x171 x172 x173 x174 x175 x176 x177 x178 x179 x180 x181 x182 x183 x184 x185 x186 x187 x188 x189 x190 x191 x192 x193 x194 x195 x196 x197 x198 x199 x200 x201 x202 x203 x204 x205 x206 x207 x208 x209 x210 x211 x212 x213 x214 x215 x216 x217 x218 : Value) (i k : Nat) (a : Act) (wr : World) : Prop
  | mk (C : Nat) (A : Option Addr) (V : Value) (y8 y219 y220 y221 y222 y223 y224 y225 y226 y227 y228 y229 y230 y231 y232 y233 y234 y235 y236 y237 y238 y239 y240 y241 y242 y243 y244 y245 y246 y247 y248 y249 y250 y251 y252 y253 y254 y255 y256 y257 y258 y259 y260 y261 y262 y263 y264 y265 y266 y267 y268 y269 y270 y271 y272 y273 y274 y275 y276 y277 y278 y279 y280 y281 y282 y283 y284 y285 y286 y287 y288 y289 y290 y291 y292 y293 y294 y295 y296 y297 y298 y299 y300 y301 y302 y303 y304 y305 y306 y307 y308 : Value) (he : a = ⟨List.toArray (.pointer (some ⟨w.heap.size, 0, none⟩) :: .slice A (hw * 4 - 20 - i) C :: df :: x3 :: x4 :: x5 :: x6 :: x7 :: y8 :: x9 :: x10 :: x11 :: x12 :: x13 :: x14 :: x15 :: x16 :: x17 :: x18 :: x19 :: x20 :: x21 :: x22 :: x23 :: x24 :: x25 :: x26 :: x27 :: x28 :: x29 :: x30 :: x31 :: x32 :: x33 :: x34 :: x35 :: x36 :: x37 :: x38 :: x39 :: x40 :: x41 :: x42 :: x43 :: x44 :: x45 :: x46 :: x47 :: x48 :: x49 :: x50 :: x51 :: x52 :: x53 :: x54 :: x55 :: x56 :: x57 :: x58 :: x59 :: x60 :: x61 :: x62 :: x63 :: x64 :: x65 :: x66 :: x67 :: x68 :: x69 :: x70 :: x71 :: x72 :: x73 :: x74 :: x75 :: x76 :: x77 :: x78 :: x79 :: x80 :: x81 :: x82 :: x83 :: x84 :: x85 :: x86 :: x87 :: x88 :: x89 :: x90 :: x91 :: x92 :: x93 :: x94 :: x95 :: x96 :: x97 :: x98 :: x99 :: x100 :: x101 :: x102 :: x103 :: x104 :: x105 :: x106 :: x107 :: x108 :: x109 :: x110 :: x111 :: x112 :: x113 :: x114 :: x115 :: x116 :: x117 :: x118 :: x119 :: x120 :: x121 :: x122 :: x123 :: x124 :: x125 :: x126 :: x127 :: x128 :: x129 :: x130 :: x131 :: x132 :: x133 :: x134 :: x135 :: x136 :: x137 :: x138 :: x139 :: x140 :: x141 :: x142 :: x143 :: x144 :: x145 :: x146 :: x147 :: x148 :: x149 :: x150 :: x151 :: x152 :: x153 :: x154 :: x155 :: x156 :: x157 :: x158 :: x159 :: x160 :: x161 :: x162 :: x163 :: x164 :: x165 :: x166 :: x167 :: x168 :: x169 :: x170 :: x171 :: x172 :: x173 :: x174 :: x175 :: x176 :: x177 :: x178 :: x179 :: x180 :: x181 :: x182 :: x183 :: x184 :: x185 :: x186 :: x187 :: x188 :: x189 :: x190 :: x191 :: x192 :: x193 :: x194 :: x195 :: x196 :: x197 :: x198 :: x199 :: x200 :: x201 :: x202 :: x203 :: x204 :: x205 :: x206 :: x207 :: x208 :: x209 :: x210 :: x211 :: x212 :: x213 :: x214 :: x215 :: x216 :: x217 :: x218 :: y219 :: y220 :: y221 :: y222 :: y223 :: y224 :: y225 :: y226 :: y227 :: y228 :: y229 :: y230 :: y231 :: y232 :: y233 :: y234 :: y235 :: y236 :: y237 :: y238 :: y239 :: y240 :: y241 :: y242 :: y243 :: y244 :: y245 :: y246 :: y247 :: y248 :: y249 :: y250 :: y251 :: y252 :: y253 :: y254 :: y255 :: y256 :: y257 :: y258 :: y259 :: y260 :: y261 :: y262 :: y263 :: y264 :: y265 :: y266 :: y267 :: y268 :: y269 :: y270 :: y271 :: y272 :: y273 :: y274 :: y275 :: y276 :: y277 :: y278 :: y279 :: y280 :: y281 :: y282 :: y283 :: y284 :: y285 :: y286 :: y287 :: y288 :: y289 :: y290 :: y291 :: y292 :: y293 :: y294 :: y295 :: y296 :: y297 :: y298 :: y299 :: y300 :: y301 :: y302 :: y303 :: y304 :: y305 :: y306 :: y307 :: y308 :: []), []⟩) (hi : i ≤ hw * 4 - 20) (hC : hw * 4 - 20 - i ≤ C) (hCm : C ≤ maxLen) (hA : i < hw * 4 - 20 → A = some ⟨D, q + 20 + i, none⟩)
    (hki : k ≤ i) (HL : Hid (Laid w wr 229 (Hdr D q (hw * 4) m 36))) (hc21 : wr.cell? ⟨w.heap.size, 21, none⟩ = some V) (HO : Hid (Opts w wr V k)) : TcS D q hw m f df w x3 x4 x5 x6 x7 x9 x10 x11 x12 x13 x14 x15 x16 x17 x18 x19 x20 x21 x22 x23 x24 x25 x26 x27 x28 x29 x30 x31 x32 x33 x34 x35 x36 x37 x38 x39 x40 x41 x42 x43 x44 x45 x46 x47 x48 x49 x50 x51 x52 x53 x54 x55 x56 x57 x58 x59 x60 x61 x62 x63 x64 x65 x66 x67 x68 x69 x70 x71 x72 x73 x74 x75 x76 x77 x78 x79 x80 x81 x82 x83 x84 x85 x86 x87 x88 x89 x90 x91 x92 x93 x94 x95 x96 x97 x98 x99 x100 x101 x102 x103 x104 x105 x106 x107 x108 x109 x110 x111 x112 x113 x114 x115 x116 x117 x118 x119 x120 x121 x122 x123 x124 x125 x126 x127 x128 x129 x130 x131 x132 x133 x134 x135 x136 x137 x138 x139 x140 x141 x142 x143 x144 x145 x146 x147 x148 x149 x150 x151 x152 x153 x154 x155 x156 x157 x158 x159 x160 x161 x162 x163 x164 x165 x166 x167 x168 x169 x170 x171 x172 x173 x174 x175 x176 x177 x178 x179 x180 x181 x182 x183 x184 x185 x186 x187 x188 x189 x190 x191 x192 x193 x194 x195 x196 x197 x198 x199 x200 x201 x202 x203 x204 x205 x206 x207 x208 x209 x210 x211 x212 x213 x214 x215 x216 x217 x218 i k a wr
set_option maxRecDepth 1000000 in
/-- What holds where the loop is left. -/
def TcQ (D q hw m : Nat) (f : Nat → Nat) (df : Value) (w : World) (x3 x4 x5 x6 x7 x9 x10 x11 x12 x13 x14 x15 x16 x17 x18 x19 x20 x21 x22 x23 x24 x25 x26 x27 x28 x29 x30 x31 x32 x33 x34 x35 x36 x37 x38 x39 x40 x41 x42 x43 x44 x45 x46 x47 x48 x49 x50 x51 x52 x53 x54 x55 x56 x57 x58 x59 x60 x61 x62 x63 x64 x65 x66 x67 x68 x69 x70 x71 x72 x73 x74 x75 x76 x77 x78 x79 x80 x81 x82 x83 x84 x85 x86 x87 x88 x89 x90 x91 x92 x93 x94 x95 x96 x97 x98 x99 x100 x101 x102 x103 x104 x105 x106 x107 x108 x109 x110 x111 x112 x113 x114 x115 x116 x117 x118 x119 x120 x121 x122 x123 x124 x125 x126 x127 x128 x129 x130 x131 x132 x133 x134 x135 x136 x137 x138 x139 x140 x141 x142 x143 x144 x145 x146 x147 x148 x149 x150 x151 x152 x153 x154 x155 x156 x157 x158 x159 x160 x161 x162 x163 x164 x165 x166 x167 x168 x169 x170 x171 x172 x173 x174 x175 x176 x177 x178 x179 x180 x181 x182 x183 x184 x185 x186 x187 x188 x189 x190 x191 x192 x193 x194 x195 x196 x197 x198 x199 x200 x201 x202 x203 x204 x205 x206 x207 x208 x209 x210 x211 x212 x213 x214 x215 x216 x217 x218 : Value) : Exit → Act → World → Prop
  | .exit 0, a, w1 => a.defers = [] ∧ a.tmps.size = 309 ∧ Laid w w1 229 (Hdr D q (hw * 4) m 36)
  | _, _, _ => False
end Go.Proofs.YtecgkcofmphaiaaGreatDoor.Gpk
namespace Go.Proofs.YtecgkcofmphaiaaGreatDoor.Gpk
open Go.RowKit
set_option linter.unusedVariables false
set_option maxRecDepth 1000000 in
set_option maxHeartbeats 4000000 in
theorem tcpDone (D q hw m : Nat) (f : Nat → Nat) (df : Value) (w : World) (n : Nat) (wr : World) (x3 x4 x5 x6 x7 x9 x10 x11 x12 x13 x14 x15 x16 x17 x18 x19 x20 x21 x22 x23 x24 x25 x26 x27 x28 x29 x30 x31 x32 x33 x34 x35 x36 x37 x38 x39 x40 x41 x42 x43 x44 x45 x46 x47 x48 x49 x50 x51 x52 x53 x54 x55 x56 x57 x58 x59 x60 x61 x62 x63 x64 x65 x66 x67 x68 x69 x70 x71 x72 x73 x74 x75 x76 x77 x78 x79 x80 x81 x82 x83 x84 x85 x86 x87 x88 x89 x90 x91 x92 x93 x94 x95 x96 x97 x98 x99 x100 x101 x102 x103 x104 x105 x106 x107 x108 x109 x110 x111 x112 x113 x114 x115 x116 x117 x118 x119 x120 x121 x122 x123 x124 x125 x126 x127 x128 x129 x130 x131 x132 x133 x134 x135 x136 x137 x138 x139 x140 x141 x142 x143 x144 x145 x146 x147 x148 x149 x150 x151 x152 x153 x154 x155 x156 x157 x158 x159 x160 x161 x162 x163 x164 x165 x166 x167 x168 x169 x170 x171 x172 x173 x174 x175 x176 x177 x178 x179 x180 x181 x182 x183 x184 x185 x186 x187 x188 x189 x190 x191 x192 x193 x194 x195 x196 x197 x198 x199 x200 x201 x202 x203 x204 x205 x206 x207 x208 x209 x210 x211 x212 x213 x214 x215 x216 x217 x218 : Value) (R : Act → World → Prop) (hB : Byt w D q f n) (hf : IsB f) (h5 : 5 ≤ hw) (h15 : hw ≤ 15) (hl : hw * 4 ≤ n)
    (y8 y219 y220 y221 y222 y223 y224 y225 y226 y227 y228 y229 y230 y231 y232 y233 y234 y235 y236 y237 y238 y239 y240 y241 y242 y243 y244 y245 y246 y247 y248 y249 y250 y251 y252 y253 y254 y255 y256 y257 y258 y259 y260 y261 y262 y263 y264 y265 y266 y267 y268 y269 y270 y271 y272 y273 y274 y275 y276 y277 y278 y279 y280 y281 y282 y283 y284 y285 y286 y287 y288 y289 y290 y291 y292 y293 y294 y295 y296 y297 y298 y299 y300 y301 y302 y303 y304 y305 y306 y307 y308 V : Value) (i k C : Nat) (A : Option Addr) (hi : i ≤ hw * 4 - 20) (hC : hw * 4 - 20 - i ≤ C) (hCm : C ≤ maxLen) (hA : i < hw * 4 - 20 → A = some ⟨D, q + 20 + i, none⟩) (hki : k ≤ i)
    (HL : Hid (Laid w wr 229 (Hdr D q (hw * 4) m 36))) (hc21 : wr.cell? ⟨w.heap.size, 21, none⟩ = some V) (HO : Hid (Opts w wr V k)) (h1 : hw * 4 - 20 ≤ i)  :
    Code.wp Tryz.prog tcpBody (Exit.then R (TcQ D q hw m f df w x3 x4 x5 x6 x7 x9 x10 x11 x12 x13 x14 x15 x16 x17 x18 x19 x20 x21 x22 x23 x24 x25 x26 x27 x28 x29 x30 x31 x32 x33 x34 x35 x36 x37 x38 x39 x40 x41 x42 x43 x44 x45 x46 x47 x48 x49 x50 x51 x52 x53 x54 x55 x56 x57 x58 x59 x60 x61 x62 x63 x64 x65 x66 x67 x68 x69 x70 x71 x72 x73 x74 x75 x76 x77 x78 x79 x80 x81 x82 x83 x84 x85 x86 x87 x88 x89 x90 x91 x92 x93 x94 x95 x96 x97 x98 x99 x100 x101 x102 x103 x104 x105 x106 x107 x108 x109 x110 x111 x112 x113 x114 x115 x116 x117 x118 x119 x120 x121 x122 x123 x124 x125 x126 x127 x128 x129 x130 x131 x132 x133 x134 x135 x136 x137 x138 x139 x140 x141 x142 x143 x144 x145 x146 x147 x148 x149 x150 x151 x152 x153 x154 x155 x156 x157 x158 x159 x160 x161 x162 x163 x164 x165 x166 x167 x168 x169 x170 x171 x172 x173 x174 x175 x176 x177 x178 x179 x180 x181 x182 x183 x184 x185 x186 x187 x188 x189 x190 x191 x192 x193 x194 x195 x196 x197 x198 x199 x200 x201 x202 x203 x204 x205 x206 x207 x208 x209 x210 x211 x212 x213 x214 x215 x216 x217 x218)) ⟨List.toArray (.pointer (some ⟨w.heap.size, 0, none⟩) :: .slice A (hw * 4 - 20 - i) C :: df :: x3 :: x4 :: x5 :: x6 :: x7 :: y8 :: x9 :: x10 :: x11 :: x12 :: x13 :: x14 :: x15 :: x16 :: x17 :: x18 :: x19 :: x20 :: x21 :: x22 :: x23 :: x24 :: x25 :: x26 :: x27 :: x28 :: x29 :: x30 :: x31 :: x32 :: x33 :: x34 :: x35 :: x36 :: x37 :: x38 :: x39 :: x40 :: x41 :: x42 :: x43 :: x44 :: x45 :: x46 :: x47 :: x48 :: x49 :: x50 :: x51 :: x52 :: x53 :: x54 :: x55 :: x56 :: x57 :: x58 :: x59 :: x60 :: x61 :: x62 :: x63 :: x64 :: x65 :: x66 :: x67 :: x68 :: x69 :: x70 :: x71 :: x72 :: x73 :: x74 :: x75 :: x76 :: x77 :: x78 :: x79 :: x80 :: x81 :: x82 :: x83 :: x84 :: x85 :: x86 :: x87 :: x88 :: x89 :: x90 :: x91 :: x92 :: x93 :: x94 :: x95 :: x96 :: x97 :: x98 :: x99 :: x100 :: x101 :: x102 :: x103 :: x104 :: x105 :: x106 :: x107 :: x108 :: x109 :: x110 :: x111 :: x112 :: x113 :: x114 :: x115 :: x116 :: x117 :: x118 :: x119 :: x120 :: x121 :: x122 :: x123 :: x124 :: x125 :: x126 :: x127 :: x128 :: x129 :: x130 :: x131 :: x132 :: x133 :: x134 :: x135 :: x136 :: x137 :: x138 :: x139 :: x140 :: x141 :: x142 :: x143 :: x144 :: x145 :: x146 :: x147 :: x148 :: x149 :: x150 :: x151 :: x152 :: x153 :: x154 :: x155 :: x156 :: x157 :: x158 :: x159 :: x160 :: x161 :: x162 :: x163 :: x164 :: x165 :: x166 :: x167 :: x168 :: x169 :: x170 :: x171 :: x172 :: x173 :: x174 :: x175 :: x176 :: x177 :: x178 :: x179 :: x180 :: x181 :: x182 :: x183 :: x184 :: x185 :: x186 :: x187 :: x188 :: x189 :: x190 :: x191 :: x192 :: x193 :: x194 :: x195 :: x196 :: x197 :: x198 :: x199 :: x200 :: x201 :: x202 :: x203 :: x204 :: x205 :: x206 :: x207 :: x208 :: x209 :: x210 :: x211 :: x212 :: x213 :: x214 :: x215 :: x216 :: x217 :: x218 :: y219 :: y220 :: y221 :: y222 :: y223 :: y224 :: y225 :: y226 :: y227 :: y228 :: y229 :: y230 :: y231 :: y232 :: y233 :: y234 :: y235 :: y236 :: y237 :: y238 :: y239 :: y240 :: y241 :: y242 :: y243 :: y244 :: y245 :: y246 :: y247 :: y248 :: y249 :: y250 :: y251 :: y252 :: y253 :: y254 :: y255 :: y256 :: y257 :: y258 :: y259 :: y260 :: y261 :: y262 :: y263 :: y264 :: y265 :: y266 :: y267 :: y268 :: y269 :: y270 :: y271 :: y272 :: y273 :: y274 :: y275 :: y276 :: y277 :: y278 :: y279 :: y280 :: y281 :: y282 :: y283 :: y284 :: y285 :: y286 :: y287 :: y288 :: y289 :: y290 :: y291 :: y292 :: y293 :: y294 :: y295 :: y296 :: y297 :: y298 :: y299 :: y300 :: y301 :: y302 :: y303 :: y304 :: y305 :: y306 :: y307 :: y308 :: []), []⟩ wr := by
  conv => arg 2; whnf
  have hD := hB.lt (by omega)
  have hCm' := hCm
  unfold maxLen at hCm'
  have hsz := HL.out.lt
  have hf21 := HL.out.unfrozen 21
  have hDr : D < wr.heap.size := by omega
  have hsz_1 : w.heap.size < wr.heap.size + 1 := by omega
  have hDr_1 : D < wr.heap.size + 1 := by omega
  go_wp2
  exact ⟨rfl, rfl, HL.out⟩
end Go.Proofs.YtecgkcofmphaiaaGreatDoor.Gpk
namespace Go.Proofs.YtecgkcofmphaiaaGreatDoor.Gpk
open Go.RowKit
set_option linter.unusedVariables false
set_option maxRecDepth 1000000 in
set_option maxHeartbeats 4000000 in
theorem tcpStop (D q hw m : Nat) (f : Nat → Nat) (df : Value) (w : World) (n : Nat) (wr : World) (x3 x4 x5 x6 x7 x9 x10 x11 x12 x13 x14 x15 x16 x17 x18 x19 x20 x21 x22 x23 x24 x25 x26 x27 x28 x29 x30 x31 x32 x33 x34 x35 x36 x37 x38 x39 x40 x41 x42 x43 x44 x45 x46 x47 x48 x49 x50 x51 x52 x53 x54 x55 x56 x57 x58 x59 x60 x61 x62 x63 x64 x65 x66 x67 x68 x69 x70 x71 x72 x73 x74 x75 x76 x77 x78 x79 x80 x81 x82 x83 x84 x85 x86 x87 x88 x89 x90 x91 x92 x93 x94 x95 x96 x97 x98 x99 x100 x101 x102 x103 x104 x105 x106 x107 x108 x109 x110 x111 x112 x113 x114 x115 x116 x117 x118 x119 x120 x121 x122 x123 x124 x125 x126 x127 x128 x129 x130 x131 x132 x133 x134 x135 x136 x137 x138 x139 x140 x141 x142 x143 x144 x145 x146 x147 x148 x149 x150 x151 x152 x153 x154 x155 x156 x157 x158 x159 x160 x161 x162 x163 x164 x165 x166 x167 x168 x169 x170 x171 x172 x173 x174 x175 x176 x177 x178 x179 x180 x181 x182 x183 x184 x185 x186 x187 x188 x189 x190 x191 x192 x193 x194 x195 x196 x197 x198 x199 x200 x201 x202 x203 x204 x205 x206 x207 x208 x209 x210 x211 x212 x213 x214 x215 x216 x217 x218 : Value) (R : Act → World → Prop) (hB : Byt w D q f n) (hf : IsB f) (h5 : 5 ≤ hw) (h15 : hw ≤ 15) (hl : hw * 4 ≤ n)
    (y8 y219 y220 y221 y222 y223 y224 y225 y226 y227 y228 y229 y230 y231 y232 y233 y234 y235 y236 y237 y238 y239 y240 y241 y242 y243 y244 y245 y246 y247 y248 y249 y250 y251 y252 y253 y254 y255 y256 y257 y258 y259 y260 y261 y262 y263 y264 y265 y266 y267 y268 y269 y270 y271 y272 y273 y274 y275 y276 y277 y278 y279 y280 y281 y282 y283 y284 y285 y286 y287 y288 y289 y290 y291 y292 y293 y294 y295 y296 y297 y298 y299 y300 y301 y302 y303 y304 y305 y306 y307 y308 V : Value) (i k C : Nat) (A : Option Addr) (hi : i ≤ hw * 4 - 20) (hC : hw * 4 - 20 - i ≤ C) (hCm : C ≤ maxLen) (hA : i < hw * 4 - 20 → A = some ⟨D, q + 20 + i, none⟩) (hki : k ≤ i)
    (HL : Hid (Laid w wr 229 (Hdr D q (hw * 4) m 36))) (hc21 : wr.cell? ⟨w.heap.size, 21, none⟩ = some V) (HO : Hid (Opts w wr V k)) (hlt : i < hw * 4 - 20) (hc : f (20 + i) = 0)  :
    Code.wp Tryz.prog tcpBody (Exit.then R (TcQ D q hw m f df w x3 x4 x5 x6 x7 x9 x10 x11 x12 x13 x14 x15 x16 x17 x18 x19 x20 x21 x22 x23 x24 x25 x26 x27 x28 x29 x30 x31 x32 x33 x34 x35 x36 x37 x38 x39 x40 x41 x42 x43 x44 x45 x46 x47 x48 x49 x50 x51 x52 x53 x54 x55 x56 x57 x58 x59 x60 x61 x62 x63 x64 x65 x66 x67 x68 x69 x70 x71 x72 x73 x74 x75 x76 x77 x78 x79 x80 x81 x82 x83 x84 x85 x86 x87 x88 x89 x90 x91 x92 x93 x94 x95 x96 x97 x98 x99 x100 x101 x102 x103 x104 x105 x106 x107 x108 x109 x110 x111 x112 x113 x114 x115 x116 x117 x118 x119 x120 x121 x122 x123 x124 x125 x126 x127 x128 x129 x130 x131 x132 x133 x134 x135 x136 x137 x138 x139 x140 x141 x142 x143 x144 x145 x146 x147 x148 x149 x150 x151 x152 x153 x154 x155 x156 x157 x158 x159 x160 x161 x162 x163 x164 x165 x166 x167 x168 x169 x170 x171 x172 x173 x174 x175 x176 x177 x178 x179 x180 x181 x182 x183 x184 x185 x186 x187 x188 x189 x190 x191 x192 x193 x194 x195 x196 x197 x198 x199 x200 x201 x202 x203 x204 x205 x206 x207 x208 x209 x210 x211 x212 x213 x214 x215 x216 x217 x218)) ⟨List.toArray (.pointer (some ⟨w.heap.size, 0, none⟩) :: .slice A (hw * 4 - 20 - i) C :: df :: x3 :: x4 :: x5 :: x6 :: x7 :: y8 :: x9 :: x10 :: x11 :: x12 :: x13 :: x14 :: x15 :: x16 :: x17 :: x18 :: x19 :: x20 :: x21 :: x22 :: x23 :: x24 :: x25 :: x26 :: x27 :: x28 :: x29 :: x30 :: x31 :: x32 :: x33 :: x34 :: x35 :: x36 :: x37 :: x38 :: x39 :: x40 :: x41 :: x42 :: x43 :: x44 :: x45 :: x46 :: x47 :: x48 :: x49 :: x50 :: x51 :: x52 :: x53 :: x54 :: x55 :: x56 :: x57 :: x58 :: x59 :: x60 :: x61 :: x62 :: x63 :: x64 :: x65 :: x66 :: x67 :: x68 :: x69 :: x70 :: x71 :: x72 :: x73 :: x74 :: x75 :: x76 :: x77 :: x78 :: x79 :: x80 :: x81 :: x82 :: x83 :: x84 :: x85 :: x86 :: x87 :: x88 :: x89 :: x90 :: x91 :: x92 :: x93 :: x94 :: x95 :: x96 :: x97 :: x98 :: x99 :: x100 :: x101 :: x102 :: x103 :: x104 :: x105 :: x106 :: x107 :: x108 :: x109 :: x110 :: x111 :: x112 :: x113 :: x114 :: x115 :: x116 :: x117 :: x118 :: x119 :: x120 :: x121 :: x122 :: x123 :: x124 :: x125 :: x126 :: x127 :: x128 :: x129 :: x130 :: x131 :: x132 :: x133 :: x134 :: x135 :: x136 :: x137 :: x138 :: x139 :: x140 :: x141 :: x142 :: x143 :: x144 :: x145 :: x146 :: x147 :: x148 :: x149 :: x150 :: x151 :: x152 :: x153 :: x154 :: x155 :: x156 :: x157 :: x158 :: x159 :: x160 :: x161 :: x162 :: x163 :: x164 :: x165 :: x166 :: x167 :: x168 :: x169 :: x170 :: x171 :: x172 :: x173 :: x174 :: x175 :: x176 :: x177 :: x178 :: x179 :: x180 :: x181 :: x182 :: x183 :: x184 :: x185 :: x186 :: x187 :: x188 :: x189 :: x190 :: x191 :: x192 :: x193 :: x194 :: x195 :: x196 :: x197 :: x198 :: x199 :: x200 :: x201 :: x202 :: x203 :: x204 :: x205 :: x206 :: x207 :: x208 :: x209 :: x210 :: x211 :: x212 :: x213 :: x214 :: x215 :: x216 :: x217 :: x218 :: y219 :: y220 :: y221 :: y222 :: y223 :: y224 :: y225 :: y226 :: y227 :: y228 :: y229 :: y230 :: y231 :: y232 :: y233 :: y234 :: y235 :: y236 :: y237 :: y238 :: y239 :: y240 :: y241 :: y242 :: y243 :: y244 :: y245 :: y246 :: y247 :: y248 :: y249 :: y250 :: y251 :: y252 :: y253 :: y254 :: y255 :: y256 :: y257 :: y258 :: y259 :: y260 :: y261 :: y262 :: y263 :: y264 :: y265 :: y266 :: y267 :: y268 :: y269 :: y270 :: y271 :: y272 :: y273 :: y274 :: y275 :: y276 :: y277 :: y278 :: y279 :: y280 :: y281 :: y282 :: y283 :: y284 :: y285 :: y286 :: y287 :: y288 :: y289 :: y290 :: y291 :: y292 :: y293 :: y294 :: y295 :: y296 :: y297 :: y298 :: y299 :: y300 :: y301 :: y302 :: y303 :: y304 :: y305 :: y306 :: y307 :: y308 :: []), []⟩ wr := by
  conv => arg 2; whnf
  have hD := hB.lt (by omega)
  have hCm' := hCm
  unfold maxLen at hCm'
  have hsz := HL.out.lt
  have hf21 := HL.out.unfrozen 21
  have hDr : D < wr.heap.size := by omega
  have hsz_1 : w.heap.size < wr.heap.size + 1 := by omega
  have hDr_1 : D < wr.heap.size + 1 := by omega
  have hA' := hA hlt
  subst hA'
  clear hA
  have bi := hf (20 + i)
  have di : wr.cell? ⟨D, q + 20 + i, none⟩ = some (.int .u8 (f (20 + i) : Nat)) := by
    have := (hB.below HL.out.1 hD).at (20 + i) (by omega)
    rw [← this, Nat.add_assoc]
  rw [hc] at di
  go_wp2_with fail
  all_goals go_region_law ((refine step_append_opts rfl (.tmp 226) (.tmp 231) rfl w (Hdr D q (hw * 4) m 36) (by repeat first | exact HL.out | refine Laid.drewN ?_ _ | refine Laid.alloc ?_ _) (fun cs h => h.size) (fun cs i v hi h => h.set i (by omega) v) V k (by omega) (by repeat first | exact HO.out | refine Opts.drewN ?_ _ | refine Opts.alloc ?_ _) rfl ⟨wr.heap.size, 0, none⟩ 1 (.int .u8 0) (.int .u8 0) (.slice none 0 0) rfl (newsLast _ #[.int .u8 0, .int .u8 0, .slice none 0 0] 222 _ _ (by simp)) (by intro u hu; simp at hu; rcases hu with rfl | rfl | rfl <;> rfl) ?_); intro b o' cap w1 hL1 hO1 h31 hbw hsz1; obtain ⟨u21, e21⟩ := hL1.cell 21 36 (by omega) (fun cs h => h.size); have f21 := hL1.unfrozen 21; have hz1' := hL1.lt; have HL1 := Lib.hid hL1; have HO1 := Lib.hid hO1; have H31 := Lib.hid h31; clear hL1 hO1 h31)
  all_goals (obtain ⟨W, hW⟩ : ∃ W, W = w1.setCell ⟨w.heap.size, 21, none⟩ (.slice (some ⟨b, o', none⟩) (k + 1) cap) := ⟨_, rfl⟩)
  all_goals (have HLs : Laid w W 229 (Hdr D q (hw * 4) m 36) := hW ▸ HL1.out.set 21 _ (fun cs h => h.set 21 (by omega) _))
  all_goals (have hOs : Opts w W (.slice (some ⟨b, o', none⟩) (k + 1) cap) (k + 1) := hW ▸ HO1.out.set _ _ _)
  all_goals (have h3s : Opt3 w W b (o' + k * 3) (.int .u8 0) (.int .u8 0) (.slice none 0 0) := hW ▸ H31.out.setLow 21 (by omega) _)
  all_goals (have e21s : W.cell? ⟨w.heap.size, 21, none⟩ = some (.slice (some ⟨b, o', none⟩) (k + 1) cap) := hW ▸ World.cell?_setCell_same _ _ _ e21)
  all_goals (rw [← hW])
  all_goals (clear hW e21 f21 HL1 HO1 H31 hc21)
  all_goals (have dB := hB.below HLs.1 hD)
  all_goals (have k0 := h3s.c0)
  all_goals (have k1 := h3s.c1)
  all_goals (have k2 := h3s.c2)
  all_goals (have fz := fun i => h3s.unfrozen HLs i)
  all_goals (have f22 := HLs.unfrozen 22)
  all_goals (obtain ⟨u22, e22⟩ := HLs.cell 22 36 (by omega) (fun cs h => h.size))
  all_goals (have n0 : IntKind.i64.wrap (((k + 1 : Nat) : Int) - 1) = (k : Int) := by rw [IntKind.wrap_i64]; omega)
  all_goals (have n1 : ((k : Int)).toNat = k := by omega)
  all_goals (have n2 : (0 : Int) ≤ (k : Int) := by omega)
  all_goals (have n3 : (k : Int) < (k : Int) + 1 := by omega)
  all_goals (have l22 := fun v => (h3s.low 1 v 22 (by omega)).trans e22)
  all_goals (have z22 := fun v => (h3s.laid HLs (fun cs i v hi h => h.set i (by omega) v) 1 v).unfrozen 22)
  all_goals go_wp2_with fail
  all_goals go_quiet (fail)
  all_goals go_wp2_with fail
  all_goals
    exact ⟨rfl, rfl, by first | exact ((h3s.laid HLs (fun cs i v hi h => h.set i (by omega) v) 1 _).set 22 _ (fun cs h => h.set 22 (by omega) _)).drewN _ | exact (h3s.laid HLs (fun cs i v hi h => h.set i (by omega) v) 1 _).set 22 _ (fun cs h => h.set 22 (by omega) _)⟩
end Go.Proofs.YtecgkcofmphaiaaGreatDoor.Gpk
namespace Go.Proofs.YtecgkcofmphaiaaGreatDoor.Gpk
open Go.RowKit
set_option linter.unusedVariables false
set_option maxRecDepth 1000000 in
set_option maxHeartbeats 4000000 in
theorem tcpOne (D q hw m : Nat) (f : Nat → Nat) (df : Value) (w : World) (n : Nat) (wr : World) (x3 x4 x5 x6 x7 x9 x10 x11 x12 x13 x14 x15 x16 x17 x18 x19 x20 x21 x22 x23 x24 x25 x26 x27 x28 x29 x30 x31 x32 x33 x34 x35 x36 x37 x38 x39 x40 x41 x42 x43 x44 x45 x46 x47 x48 x49 x50 x51 x52 x53 x54 x55 x56 x57 x58 x59 x60 x61 x62 x63 x64 x65 x66 x67 x68 x69 x70 x71 x72 x73 x74 x75 x76 x77 x78 x79 x80 x81 x82 x83 x84 x85 x86 x87 x88 x89 x90 x91 x92 x93 x94 x95 x96 x97 x98 x99 x100 x101 x102 x103 x104 x105 x106 x107 x108 x109 x110 x111 x112 x113 x114 x115 x116 x117 x118 x119 x120 x121 x122 x123 x124 x125 x126 x127 x128 x129 x130 x131 x132 x133 x134 x135 x136 x137 x138 x139 x140 x141 x142 x143 x144 x145 x146 x147 x148 x149 x150 x151 x152 x153 x154 x155 x156 x157 x158 x159 x160 x161 x162 x163 x164 x165 x166 x167 x168 x169 x170 x171 x172 x173 x174 x175 x176 x177 x178 x179 x180 x181 x182 x183 x184 x185 x186 x187 x188 x189 x190 x191 x192 x193 x194 x195 x196 x197 x198 x199 x200 x201 x202 x203 x204 x205 x206 x207 x208 x209 x210 x211 x212 x213 x214 x215 x216 x217 x218 : Value) (R : Act → World → Prop) (hB : Byt w D q f n) (hf : IsB f) (h5 : 5 ≤ hw) (h15 : hw ≤ 15) (hl : hw * 4 ≤ n)
    (y8 y219 y220 y221 y222 y223 y224 y225 y226 y227 y228 y229 y230 y231 y232 y233 y234 y235 y236 y237 y238 y239 y240 y241 y242 y243 y244 y245 y246 y247 y248 y249 y250 y251 y252 y253 y254 y255 y256 y257 y258 y259 y260 y261 y262 y263 y264 y265 y266 y267 y268 y269 y270 y271 y272 y273 y274 y275 y276 y277 y278 y279 y280 y281 y282 y283 y284 y285 y286 y287 y288 y289 y290 y291 y292 y293 y294 y295 y296 y297 y298 y299 y300 y301 y302 y303 y304 y305 y306 y307 y308 V : Value) (i k C : Nat) (A : Option Addr) (hi : i ≤ hw * 4 - 20) (hC : hw * 4 - 20 - i ≤ C) (hCm : C ≤ maxLen) (hA : i < hw * 4 - 20 → A = some ⟨D, q + 20 + i, none⟩) (hki : k ≤ i)
    (HL : Hid (Laid w wr 229 (Hdr D q (hw * 4) m 36))) (hc21 : wr.cell? ⟨w.heap.size, 21, none⟩ = some V) (HO : Hid (Opts w wr V k)) (hlt : i < hw * 4 - 20) (hc : f (20 + i) = 1) (HNX : Hid (∀ a' w', TcS D q hw m f df w x3 x4 x5 x6 x7 x9 x10 x11 x12 x13 x14 x15 x16 x17 x18 x19 x20 x21 x22 x23 x24 x25 x26 x27 x28 x29 x30 x31 x32 x33 x34 x35 x36 x37 x38 x39 x40 x41 x42 x43 x44 x45 x46 x47 x48 x49 x50 x51 x52 x53 x54 x55 x56 x57 x58 x59 x60 x61 x62 x63 x64 x65 x66 x67 x68 x69 x70 x71 x72 x73 x74 x75 x76 x77 x78 x79 x80 x81 x82 x83 x84 x85 x86 x87 x88 x89 x90 x91 x92 x93 x94 x95 x96 x97 x98 x99 x100 x101 x102 x103 x104 x105 x106 x107 x108 x109 x110 x111 x112 x113 x114 x115 x116 x117 x118 x119 x120 x121 x122 x123 x124 x125 x126 x127 x128 x129 x130 x131 x132 x133 x134 x135 x136 x137 x138 x139 x140 x141 x142 x143 x144 x145 x146 x147 x148 x149 x150 x151 x152 x153 x154 x155 x156 x157 x158 x159 x160 x161 x162 x163 x164 x165 x166 x167 x168 x169 x170 x171 x172 x173 x174 x175 x176 x177 x178 x179 x180 x181 x182 x183 x184 x185 x186 x187 x188 x189 x190 x191 x192 x193 x194 x195 x196 x197 x198 x199 x200 x201 x202 x203 x204 x205 x206 x207 x208 x209 x210 x211 x212 x213 x214 x215 x216 x217 x218 (i + 1) (k + 1) a' w' → R a' w')) :
    Code.wp Tryz.prog tcpBody (Exit.then R (TcQ D q hw m f df w x3 x4 x5 x6 x7 x9 x10 x11 x12 x13 x14 x15 x16 x17 x18 x19 x20 x21 x22 x23 x24 x25 x26 x27 x28 x29 x30 x31 x32 x33 x34 x35 x36 x37 x38 x39 x40 x41 x42 x43 x44 x45 x46 x47 x48 x49 x50 x51 x52 x53 x54 x55 x56 x57 x58 x59 x60 x61 x62 x63 x64 x65 x66 x67 x68 x69 x70 x71 x72 x73 x74 x75 x76 x77 x78 x79 x80 x81 x82 x83 x84 x85 x86 x87 x88 x89 x90 x91 x92 x93 x94 x95 x96 x97 x98 x99 x100 x101 x102 x103 x104 x105 x106 x107 x108 x109 x110 x111 x112 x113 x114 x115 x116 x117 x118 x119 x120 x121 x122 x123 x124 x125 x126 x127 x128 x129 x130 x131 x132 x133 x134 x135 x136 x137 x138 x139 x140 x141 x142 x143 x144 x145 x146 x147 x148 x149 x150 x151 x152 x153 x154 x155 x156 x157 x158 x159 x160 x161 x162 x163 x164 x165 x166 x167 x168 x169 x170 x171 x172 x173 x174 x175 x176 x177 x178 x179 x180 x181 x182 x183 x184 x185 x186 x187 x188 x189 x190 x191 x192 x193 x194 x195 x196 x197 x198 x199 x200 x201 x202 x203 x204 x205 x206 x207 x208 x209 x210 x211 x212 x213 x214 x215 x216 x217 x218)) ⟨List.toArray (.pointer (some ⟨w.heap.size, 0, none⟩) :: .slice A (hw * 4 - 20 - i) C :: df :: x3 :: x4 :: x5 :: x6 :: x7 :: y8 :: x9 :: x10 :: x11 :: x12 :: x13 :: x14 :: x15 :: x16 :: x17 :: x18 :: x19 :: x20 :: x21 :: x22 :: x23 :: x24 :: x25 :: x26 :: x27 :: x28 :: x29 :: x30 :: x31 :: x32 :: x33 :: x34 :: x35 :: x36 :: x37 :: x38 :: x39 :: x40 :: x41 :: x42 :: x43 :: x44 :: x45 :: x46 :: x47 :: x48 :: x49 :: x50 :: x51 :: x52 :: x53 :: x54 :: x55 :: x56 :: x57 :: x58 :: x59 :: x60 :: x61 :: x62 :: x63 :: x64 :: x65 :: x66 :: x67 :: x68 :: x69 :: x70 :: x71 :: x72 :: x73 :: x74 :: x75 :: x76 :: x77 :: x78 :: x79 :: x80 :: x81 :: x82 :: x83 :: x84 :: x85 :: x86 :: x87 :: x88 :: x89 :: x90 :: x91 :: x92 :: x93 :: x94 :: x95 :: x96 :: x97 :: x98 :: x99 :: x100 :: x101 :: x102 :: x103 :: x104 :: x105 :: x106 :: x107 :: x108 :: x109 :: x110 :: x111 :: x112 :: x113 :: x114 :: x115 :: x116 :: x117 :: x118 :: x119 :: x120 :: x121 :: x122 :: x123 :: x124 :: x125 :: x126 :: x127 :: x128 :: x129 :: x130 :: x131 :: x132 :: x133 :: x134 :: x135 :: x136 :: x137 :: x138 :: x139 :: x140 :: x141 :: x142 :: x143 :: x144 :: x145 :: x146 :: x147 :: x148 :: x149 :: x150 :: x151 :: x152 :: x153 :: x154 :: x155 :: x156 :: x157 :: x158 :: x159 :: x160 :: x161 :: x162 :: x163 :: x164 :: x165 :: x166 :: x167 :: x168 :: x169 :: x170 :: x171 :: x172 :: x173 :: x174 :: x175 :: x176 :: x177 :: x178 :: x179 :: x180 :: x181 :: x182 :: x183 :: x184 :: x185 :: x186 :: x187 :: x188 :: x189 :: x190 :: x191 :: x192 :: x193 :: x194 :: x195 :: x196 :: x197 :: x198 :: x199 :: x200 :: x201 :: x202 :: x203 :: x204 :: x205 :: x206 :: x207 :: x208 :: x209 :: x210 :: x211 :: x212 :: x213 :: x214 :: x215 :: x216 :: x217 :: x218 :: y219 :: y220 :: y221 :: y222 :: y223 :: y224 :: y225 :: y226 :: y227 :: y228 :: y229 :: y230 :: y231 :: y232 :: y233 :: y234 :: y235 :: y236 :: y237 :: y238 :: y239 :: y240 :: y241 :: y242 :: y243 :: y244 :: y245 :: y246 :: y247 :: y248 :: y249 :: y250 :: y251 :: y252 :: y253 :: y254 :: y255 :: y256 :: y257 :: y258 :: y259 :: y260 :: y261 :: y262 :: y263 :: y264 :: y265 :: y266 :: y267 :: y268 :: y269 :: y270 :: y271 :: y272 :: y273 :: y274 :: y275 :: y276 :: y277 :: y278 :: y279 :: y280 :: y281 :: y282 :: y283 :: y284 :: y285 :: y286 :: y287 :: y288 :: y289 :: y290 :: y291 :: y292 :: y293 :: y294 :: y295 :: y296 :: y297 :: y298 :: y299 :: y300 :: y301 :: y302 :: y303 :: y304 :: y305 :: y306 :: y307 :: y308 :: []), []⟩ wr := by
  conv => arg 2; whnf
  have hD := hB.lt (by omega)
  have hCm' := hCm
  unfold maxLen at hCm'
  have hsz := HL.out.lt
  have hf21 := HL.out.unfrozen 21
  have hDr : D < wr.heap.size := by omega
  have hsz_1 : w.heap.size < wr.heap.size + 1 := by omega
  have hDr_1 : D < wr.heap.size + 1 := by omega
  have hA' := hA hlt
  subst hA'
  clear hA
  have bi := hf (20 + i)
  have di : wr.cell? ⟨D, q + 20 + i, none⟩ = some (.int .u8 (f (20 + i) : Nat)) := by
    have := (hB.below HL.out.1 hD).at (20 + i) (by omega)
    rw [← this, Nat.add_assoc]
  rw [hc] at di
  go_wp2_with fail
  all_goals go_region_law ((refine step_append_opts rfl (.tmp 226) (.tmp 231) rfl w (Hdr D q (hw * 4) m 36) (by repeat first | exact HL.out | refine Laid.drewN ?_ _ | refine Laid.alloc ?_ _) (fun cs h => h.size) (fun cs i v hi h => h.set i (by omega) v) V k (by omega) (by repeat first | exact HO.out | refine Opts.drewN ?_ _ | refine Opts.alloc ?_ _) rfl ⟨wr.heap.size, 0, none⟩ 1 (.int .u8 1) (.int .u8 0) (.slice none 0 0) rfl (newsLast _ #[.int .u8 1, .int .u8 0, .slice none 0 0] 222 _ _ (by simp)) (by intro u hu; simp at hu; rcases hu with rfl | rfl | rfl <;> rfl) ?_); intro b o' cap w1 hL1 hO1 h31 hbw hsz1; obtain ⟨u21, e21⟩ := hL1.cell 21 36 (by omega) (fun cs h => h.size); have f21 := hL1.unfrozen 21; have hz1' := hL1.lt; have HL1 := Lib.hid hL1; have HO1 := Lib.hid hO1; have H31 := Lib.hid h31; clear hL1 hO1 h31)
  all_goals (obtain ⟨W, hW⟩ : ∃ W, W = w1.setCell ⟨w.heap.size, 21, none⟩ (.slice (some ⟨b, o', none⟩) (k + 1) cap) := ⟨_, rfl⟩)
  all_goals (have HLs : Laid w W 229 (Hdr D q (hw * 4) m 36) := hW ▸ HL1.out.set 21 _ (fun cs h => h.set 21 (by omega) _))
  all_goals (have hOs : Opts w W (.slice (some ⟨b, o', none⟩) (k + 1) cap) (k + 1) := hW ▸ HO1.out.set _ _ _)
  all_goals (have h3s : Opt3 w W b (o' + k * 3) (.int .u8 1) (.int .u8 0) (.slice none 0 0) := hW ▸ H31.out.setLow 21 (by omega) _)
  all_goals (have e21s : W.cell? ⟨w.heap.size, 21, none⟩ = some (.slice (some ⟨b, o', none⟩) (k + 1) cap) := hW ▸ World.cell?_setCell_same _ _ _ e21)
  all_goals (rw [← hW])
  all_goals (clear hW e21 f21 HL1 HO1 H31 hc21)
  all_goals (have dB := hB.below HLs.1 hD)
  all_goals (have k0 := h3s.c0)
  all_goals (have k1 := h3s.c1)
  all_goals (have k2 := h3s.c2)
  all_goals (have fz := fun i => h3s.unfrozen HLs i)
  all_goals (have f22 := HLs.unfrozen 22)
  all_goals (obtain ⟨u22, e22⟩ := HLs.cell 22 36 (by omega) (fun cs h => h.size))
  all_goals (have n0 : IntKind.i64.wrap (((k + 1 : Nat) : Int) - 1) = (k : Int) := by rw [IntKind.wrap_i64]; omega)
  all_goals (have n1 : ((k : Int)).toNat = k := by omega)
  all_goals (have n2 : (0 : Int) ≤ (k : Int) := by omega)
  all_goals (have n3 : (k : Int) < (k : Int) + 1 := by omega)
  all_goals go_wp2_with fail
  all_goals go_quiet (fail)
  all_goals go_wp2_with fail
  all_goals
    refine HNX.out _ _ ?_
    refine ⟨_, _, .slice (some ⟨b, o', none⟩) (k + 1) cap, _, _, _, _, _, _, _, _, _, _, _, _, _, _, _, _, _, _, _, _, _, _, _, _, _, _, _, _, _, _, _, _, _, _, _, _, _, _, _, _, _, _, _, _, _, _, _, _, _, _, _, _, _, _, _, _, _, _, _, _, _, _, _, _, _, _, _, _, _, _, _, _, _, _, _, _, _, _, _, _, _, _, _, _, _, _, _, _, _, _, _, by first | (rw [show hw * 4 - 20 - (i + 1) = hw * 4 - 20 - i - 1 from by omega]; done) | (rw [show hw * 4 - 20 - (i + 1) = hw * 4 - 20 - i - 2 from by omega]; done), by omega, by omega, by unfold maxLen; omega, fun hlt2 => by first | rfl | (exact congrArg (fun o => some (Addr.mk D o none)) (by omega)) | (exfalso; omega), by omega, Lib.hid ((h3s.laid HLs (fun cs i v hi h => h.set i (by omega) v) 1 _).drewN _), ((h3s.low 1 _ 21 (by omega)).trans e21s), Lib.hid ((hOs.set _ _ _).drewN _)⟩
end Go.Proofs.YtecgkcofmphaiaaGreatDoor.Gpk
