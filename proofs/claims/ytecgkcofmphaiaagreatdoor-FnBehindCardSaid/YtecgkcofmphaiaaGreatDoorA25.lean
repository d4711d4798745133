/- The reference takes a frame apart. -/
import Derived.LoopTactic
import Derived.Test.YtecgkcofmphaiaaGreatDoorA24
import Derived.Test.YtecgkcofmphaiaaGreatDoorA18
import Derived.Test.YtecgkcofmphaiaaGreatDoorA00
set_option linter.unusedVariables false
set_option linter.unusedSimpArgs false
set_option linter.unnecessarySimpa false
set_option linter.unusedSectionVars false
namespace Go.Proofs.YtecgkcofmphaiaaGreatDoor.Gpk
open Go.RowKit
set_option linter.unusedVariables false
theorem Tryz.info69' : (Tryz.prog.info? 69).map (fun i => (i.zero, i.size, i.bytes)) = some (some (.agg #[.string ⟨#[]⟩, .slice none 0 0, .slice none 0 0]), 3, 64) := by kernel_rfl
theorem ownBelow' {w w' : World} {base : Nat} {e : TypeId} {size n : Nat} {v : Value} {xs : List Value} (h : w.ownsRow base e size v n xs) (hb : Below w.heap.size w w') : w'.ownsRow base e size v n xs :=
  h.kept (row := none) ⟨hb.os, hb.tape, hb.output, hb.size, fun k hk _ => hb.block k hk⟩ (by cases v.ownBlock <;> simp)
theorem ownAt {w1 w2 : World} {o o2 : Obj} {k : Nat} {row : Option Nat} (hg : (((w1.alloc o).alloc o2).drewN k).grownBy w2 row) (hr : ∀ b, row = some b → b < w1.heap.size) : w2.heap[w1.heap.size]? = some o := by
  have h0 : (w1.alloc o).heap[w1.heap.size]? = some o := heap_alloc_new w1 o
  have h1 : ((w1.alloc o).alloc o2).heap[w1.heap.size]? = some o := (heap_alloc_old _ _ (lt_of_heap h0)).trans h0
  exact (hg.block _ (lt_of_heap h1) (fun e => by have := hr _ e.symm; omega)).trans h1
theorem ownBel {w w1 w2 : World} {o o2 : Obj} {k B : Nat} {row : Option Nat} (h : Below B w (w1.alloc o)) (hB : B ≤ w1.heap.size) (hg : (((w1.alloc o).alloc o2).drewN k).grownBy w2 row) (hr : ∀ b, row = some b → B ≤ b) : Below B w w2 :=
  (below_drewN (h.alloc (by simp; omega) o2) k).grown hg (by show B ≤ ((w1.alloc o).alloc o2).heap.size; simp; omega) hr
theorem taken_pos {nm : Nm} {f : Nat → Nat} {n s e : Nat} {nx : Nm} (h : TakenOK nm f n s e nx) (hn : 0 < n) : 1 ≤ s := by
  cases nm <;> simp only [TakenOK] at h <;> first | omega | (obtain ⟨_, _, _, _, rfl, _⟩ := h; unfold greSize; omega)
def lenV : Value → Nat | .slice _ n _ => n | _ => 0
/-- What the reference tells of a frame. -/
def SApart (D q n : Nat) (f : Nat → Nat) (w : World) (e : Ending) (w' : World) : Prop :=
  ∃ V k xs told, e = .returned (.tuple #[V, .bool told]) ∧ Below w.heap.size w w' ∧ w'.ownsRow w.heap.size 69 3 V k xs ∧ k ≤ 12 ∧ (told = true → ∃ ps, k = ps.length ∧ Chain f 0 .eth n ps ∧ RowOf (PartAt D q) xs ps)
theorem str_ne {nm : Nm} (h : nm ≠ .nothing) : (nm.str.toList == [110, 111, 116, 104, 105, 110, 103]) = false := by cases nm <;> first | exact (h rfl).elim | kernel_rfl
set_option maxRecDepth 100000 in
set_option maxHeartbeats 4000000 in
theorem specApart (D q n c : Nat) (A : Option Addr) (f : Nat → Nat) (w : World) (hA : 0 < n → A = some ⟨D, q, none⟩) (hB : Byt w D q f n) (hf : IsB f) (hc : n ≤ c) (hcm : c ≤ maxLen) :
    Calls Tryz.prog 11 #[.slice A n c] w (SApart D q n f w) := by
  obtain ⟨i0, hi0, hz0, hz1, hz2⟩ := info_parts Tryz.info69'
  go_enter Tryz.func11, Tryz.ntmps11
  go_wp2_with fail
  go_loopw [0, 4, 5] (fun t0 t4 t5 wr => ∃ (nm : Nm) (p m : Nat) (A : Option Addr) (C : Nat) (ps : List Piece) (xs : List Value) (ao : Option Addr) (co : Nat), t4 = .slice ao ps.length co ∧ t0 = .slice A m C ∧ t5 = .string nm.str ∧ p + m ≤ n ∧ m ≤ C ∧ C ≤ maxLen ∧ (0 < m → A = some ⟨D, q + p, none⟩) ∧ Hid (wr.ownsRow w.heap.size 69 3 (.slice ao ps.length co) ps.length xs) ∧ ps.length ≤ 12 ∧ Hid (Below w.heap.size w wr) ∧ Hid (RowOf (PartAt D q) xs ps) ∧ Hid (∀ ps2, Chain f p nm m ps2 → Chain f 0 .eth n (ps ++ ps2))) (fun t0 _ _ _ => lenV t0)
  case atStart =>
    exact ⟨.eth, 0, n, A, c, [], [], _, 0, rfl, rfl, rfl, by omega, hc, hcm, hA, Lib.hid ⟨rfl, .inr ⟨_, 0, #[], rfl, Nat.le_refl _, heap_alloc_new w _, Nat.le_refl _, by unfold maxLen; omega, rfl, rfl⟩⟩, by simp, Lib.hid ((Below.refl _ _).alloc (Nat.le_refl _) _), Lib.hid (RowOf.nil _), Lib.hid (fun ps2 h => h)⟩
  case round =>
    obtain ⟨nm, p, m, A', C, ps, xs, ao, co, rfl, rfl, rfl, hpm, hmC, hCm, hA', HO, hps, HB, HX, HC⟩ := hrel
    by_cases hno : nm = .nothing
    · subst hno
      simp only [Nm.str]
      go_wp2
      go_ret2
      exact ⟨_, ps.length, xs, true, rfl, HB.out, HO.out, hps, fun _ => ⟨ps, rfl, by simpa using HC.out [] (.stop _ _ _ (.inl rfl)), HX.out⟩⟩
    have hne := str_ne hno
    by_cases hm : m = 0
    · subst hm
      go_wp2
      go_ret2
      exact ⟨_, ps.length, xs, true, rfl, HB.out, HO.out, hps, fun _ => ⟨ps, rfl, by simpa using HC.out [] (.stop _ _ _ (.inr rfl)), HX.out⟩⟩
    obtain rfl := hA' (by omega)
    have hBm : Byt wr D (q + p) (fun i => f (p + i)) m := (hB.below HB.out (hB.lt (by omega))).sub p m hpm
    have hm1 : (0 : Int) < (m : Int) := by omega
    go_wp2_with fail
    refine (takeTold nm D (q + p) m C (fun i => f (p + i)) _ hBm (hf.sub p) (by omega) hmC).mono ?_
    rintro e w1 ⟨o, hS, rfl, hb1⟩
    have HB1 := Lib.hid hb1
    clear hb1
    rcases o with ⟨s, e2, nx⟩ | _ | _
    · have hle := taken_le hS
      have HPOS := Lib.hid (taken_pos hS (by omega))
      simp only [outAgg, outOk]
      have hO1 := fun (ob : Obj) => (ownBelow' HO.out HB1.out).alloc ob
      have hsz1 := HB1.out.size
      have hszB := HB.out.size
      have hbl : ∀ ob, Below w.heap.size w (w1.alloc ob) := fun ob => (HB.out.trans (HB1.out.mono (by omega))).alloc (by omega) ob
      by_cases h12 : ps.length = 12
      · go_wp2_with fail
        go_quiet (fail)
        go_wp2
        go_ret2
        exact ⟨_, ps.length, xs, false, rfl, below_drewN (hbl _) _, hO1 _, hps, fun h => by cases h⟩
      · have g12 : ((ps.length : Int) == 12) = false := by simp; omega
        have hs0 : (0 : Int) ≤ (s : Int) := by omega
        have hs1 : (s : Int) ≤ (C : Int) := by omega
        have hs2 : (s : Int) ≤ (e2 : Int) := by omega
        have hs3 : (e2 : Int) ≤ (C : Int) := by omega
        have ht1 : ((s : Int)).toNat = s := by omega
        have ht2 : ((e2 : Int)).toNat = e2 := by omega
        have HOA := Lib.hid hO1
        have HBL := Lib.hid hbl
        clear hO1 hbl
        have hsN : s ≤ e2 := hle.1
        have heC : e2 ≤ C := by omega
        by_cases hCs : C = s
        · obtain rfl : s = C := hCs.symm
          obtain rfl : e2 = s := by omega
          obtain rfl : m = e2 := by omega
          have hmm : m - m = 0 := Nat.sub_self m
          go_wp2_with fail
          go_region_law (refine step_append_lies _ rfl (.tmp 37) (.tmp 50) 32 rfl w.heap.size 69 i0 (.agg #[.string ⟨#[]⟩, .slice none 0 0, .slice none 0 0]) 3 64 Tryz.underlying32 hi0 hz0 hz1 hz2 rfl (by decide) (.slice ao ps.length co) ps.length xs rfl ((HOA.out _).alloc _) ⟨w1.heap.size + 1, 0, none⟩ 1 1 [.string nm.str, .slice (some ⟨D, q + p, none⟩) m m, .slice (some ⟨D, q + p, none⟩) 0 0] rfl rfl (newsLast _ #[.string nm.str, .slice (some ⟨D, q + p, none⟩) m m, .slice (some ⟨D, q + p, none⟩) 0 0] 69 _ _ (by simp)) (by intro u hu; simp at hu; rcases hu with rfl | rfl | rfl <;> rfl) (by decide) (by unfold maxLen; omega) (by omega) (by simp; omega) _ rfl ?_; intro r1 cap1 w2 hown1 hgrow hat hlt1; have h65 := ownAt hgrow (fun b hb => by have := (HO.out.lt b hb).2; omega); have hbe : Below w.heap.size w w2 := ownBel (HBL.out _) (by omega) hgrow (fun b hb => (HO.out.lt b hb).1); have q0 := cell_of_row w2 _ 0 _ 65 (0, 0) h65; have q1 := cell_of_row w2 _ 1 _ 65 (0, 0) h65; have q2 := cell_of_row w2 _ 2 _ 65 (0, 0) h65; have HO2 := Lib.hid hown1; have HB2 := Lib.hid hbe; clear hown1 hgrow hat hlt1 h65 hbe)
          all_goals go_wp2_with fail
          all_goals go_quiet (fail)
          all_goals go_wp2_with fail
          all_goals go_roundw
          all_goals (first
            | (focus (refine ⟨nx, p + m, m - m, some ⟨D, q + p, none⟩, m - m, ps ++ [{ nm := nm, at_ := p, size := m, fin := m }], _, _, cap1, by rw [List.length_append]; rfl, by rw [hmm], rfl, by omega, by omega, by omega, fun hh => by omega, Lib.hid (by rw [List.length_append]; exact HO2.out), by rw [List.length_append]; simp only [List.length_singleton]; omega, Lib.hid (below_drewN HB2.out _), Lib.hid (HX.out.snoc _ _ _ _ ⟨rfl, (show Win D (.slice (some ⟨D, q + p, none⟩) m m) (q + p) m from ⟨_, _, rfl, by omega, hCm, fun _ => rfl⟩), (show Win D (.slice (some ⟨D, q + p, none⟩) 0 0) (q + (p + m)) (m - m) from ⟨_, 0, by rw [hmm], by omega, by unfold maxLen; omega, fun hh => by omega⟩)⟩), Lib.hid (fun ps2 h => by have := HC.out ({ nm := nm, at_ := p, size := m, fin := m } :: ps2) (.take p nm m m m nx ps2 (by omega) hS h); simpa using this)⟩))
            | (focus (have := HPOS.out; simp [lenV]; omega)))
        · go_wp2_with fail
          go_region_law (refine step_append_lies _ rfl (.tmp 37) (.tmp 50) 32 rfl w.heap.size 69 i0 (.agg #[.string ⟨#[]⟩, .slice none 0 0, .slice none 0 0]) 3 64 Tryz.underlying32 hi0 hz0 hz1 hz2 rfl (by decide) (.slice ao ps.length co) ps.length xs rfl ((HOA.out _).alloc _) ⟨w1.heap.size + 1, 0, none⟩ 1 1 [.string nm.str, .slice (some ⟨D, q + p, none⟩) s C, .slice (some ⟨D, q + p + s, none⟩) (e2 - s) (C - s)] rfl rfl (newsLast _ #[.string nm.str, .slice (some ⟨D, q + p, none⟩) s C, .slice (some ⟨D, q + p + s, none⟩) (e2 - s) (C - s)] 69 _ _ (by simp)) (by intro u hu; simp at hu; rcases hu with rfl | rfl | rfl <;> rfl) (by decide) (by unfold maxLen; omega) (by omega) (by simp; omega) _ rfl ?_; intro r1 cap1 w2 hown1 hgrow hat hlt1; have h65 := ownAt hgrow (fun b hb => by have := (HO.out.lt b hb).2; omega); have hbe : Below w.heap.size w w2 := ownBel (HBL.out _) (by omega) hgrow (fun b hb => (HO.out.lt b hb).1); have q0 := cell_of_row w2 _ 0 _ 65 (0, 0) h65; have q1 := cell_of_row w2 _ 1 _ 65 (0, 0) h65; have q2 := cell_of_row w2 _ 2 _ 65 (0, 0) h65; have HO2 := Lib.hid hown1; have HB2 := Lib.hid hbe; clear hown1 hgrow hat hlt1 h65 hbe)
          all_goals go_wp2_with fail
          all_goals go_quiet (fail)
          all_goals go_wp2_with fail
          all_goals go_roundw
          all_goals (first
            | (focus (refine ⟨nx, p + s, e2 - s, some ⟨D, q + p + s, none⟩, C - s, ps ++ [{ nm := nm, at_ := p, size := s, fin := e2 }], _, _, cap1, by rw [List.length_append]; rfl, rfl, rfl, by omega, by omega, by omega, fun _ => by rw [Nat.add_assoc], Lib.hid (by rw [List.length_append]; exact HO2.out), by rw [List.length_append]; simp only [List.length_singleton]; omega, Lib.hid (below_drewN HB2.out _), Lib.hid (HX.out.snoc _ _ _ _ ⟨rfl, (show Win D (.slice (some ⟨D, q + p, none⟩) s C) (q + p) s from ⟨_, _, rfl, by omega, hCm, fun _ => rfl⟩), (show Win D (.slice (some ⟨D, q + p + s, none⟩) (e2 - s) (C - s)) (q + (p + s)) (e2 - s) from ⟨_, _, rfl, by omega, by omega, fun _ => by rw [Nat.add_assoc]⟩)⟩), Lib.hid (fun ps2 h => by have := HC.out ({ nm := nm, at_ := p, size := s, fin := e2 } :: ps2) (.take p nm m s e2 nx ps2 (by omega) hS h); simpa using this)⟩))
            | (focus (have := HPOS.out; simp [lenV]; omega)))
    · simp only [outAgg, outOk]
      go_wp2_with fail
      go_quiet (fail)
      go_wp2
      go_ret2
      exact ⟨_, ps.length, xs, true, rfl, below_drewN ((HB.out.trans (HB1.out.mono HB.out.size)).alloc (by have := HB.out.size; have := HB1.out.size; omega) _) _, (ownBelow' HO.out HB1.out).alloc _, hps, fun _ => ⟨ps, rfl, by simpa using HC.out [] (.short _ _ _ (by omega) hS), HX.out⟩⟩
    · simp only [outAgg, outOk]
      go_wp2_with fail
      go_quiet (fail)
      go_wp2
      go_ret2
      exact ⟨_, ps.length, xs, false, rfl, below_drewN ((HB.out.trans (HB1.out.mono HB.out.size)).alloc (by have := HB.out.size; have := HB1.out.size; omega) _) _, (ownBelow' HO.out HB1.out).alloc _, hps, fun h => by cases h⟩
end Go.Proofs.YtecgkcofmphaiaaGreatDoor.Gpk
