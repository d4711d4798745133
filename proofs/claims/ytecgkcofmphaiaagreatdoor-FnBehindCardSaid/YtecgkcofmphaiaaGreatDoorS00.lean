/- Bytes that a call gathers: a row of its own that grows; whatever bytes are laid behind.
   The reference's small makers of bytes. -/
import Derived.Test.YtecgkcofmphaiaaGreatDoorA00
import Derived.LoopTactic
import Derived.LoopN
import Derived.WalkMore
import Derived.Lib.BufferRead
import Derived.Laws.IdiomStrings
import Derived.Deep.RegionLawGrows
set_option linter.unusedVariables false
set_option linter.unusedSimpArgs false
set_option linter.unnecessarySimpa false
set_option linter.unusedSectionVars false
namespace Go.Proofs.YtecgkcofmphaiaaGreatDoor.Gpk
open Go.RowKit
set_option linter.unusedVariables false
theorem Tryz.infoS5 : (Tryz.prog.info? 5).map (fun i => (i.zero, i.size, i.bytes)) = some (some (.int .u8 0), 1, 1) := by kernel_rfl
/-- A slice reads as the bytes f 0 .. f (n - 1). -/
def BtsS (w : World) (u : Value) (f : Nat → Nat) (n : Nat) : Prop := ∃ a c, u = .slice a n c ∧ n ≤ c ∧ c ≤ maxLen ∧ (n = 0 ∨ ∃ D q, a = some ⟨D, q, none⟩ ∧ Byt w D q f n)
theorem BtsS.below {w w' : World} {u : Value} {f : Nat → Nat} {n : Nat} (h : BtsS w u f n) (hb : Below w.heap.size w w') : BtsS w' u f n := by
  obtain ⟨a, c, hu, h1, h2, h3⟩ := h
  refine ⟨a, c, hu, h1, h2, ?_⟩
  by_cases h0 : n = 0
  · exact .inl h0
  · obtain ⟨D, q, ha, hB⟩ := h3.resolve_left h0
    exact .inr ⟨D, q, ha, hB.below hb (hB.lt (by omega))⟩
theorem ownBelowS {w w' : World} {base : Nat} {e : TypeId} {size n : Nat} {v : Value} {xs : List Value} (h : w.ownsRow base e size v n xs) (hb : Below w.heap.size w w') : w'.ownsRow base e size v n xs :=
  h.kept (row := none) ⟨hb.os, hb.tape, hb.output, hb.size, fun k hk _ => hb.block k hk⟩ (by cases v.ownBlock <;> simp)
theorem ownMonoS {w : World} {base base' : Nat} {e : TypeId} {size n : Nat} {v : Value} {xs : List Value} (h : w.ownsRow base e size v n xs) (hb : base' ≤ base) : w.ownsRow base' e size v n xs := by
  refine ⟨h.1, ?_⟩
  rcases h.2 with h2 | ⟨g, cap, cur, h1, h2, h3⟩
  · exact .inl h2
  · exact .inr ⟨g, cap, cur, h1, by omega, h3⟩
theorem row_neS {w : World} {base : Nat} {e : TypeId} {size n : Nat} {v : Value} {xs : List Value} (h : w.ownsRow base e size v n xs) {b : Nat} {cs : Array Value} {T : TypeId} {fr : Nat × Nat} (hb : w.heap[b]? = some (.cells cs T fr)) (hT : T ≠ e) : some b ≠ v.ownBlock := by
  intro he
  rcases h.2 with ⟨rfl, _⟩ | ⟨g, cap, cur, rfl, _, hc, _⟩
  · simp [Value.ownBlock] at he
  · simp [Value.ownBlock] at he
    subst he
    rw [hb] at hc
    simp at hc
    exact hT hc.2.1
theorem setRow_allocS (v : World) (a b : Array Value) (t : TypeId) : (v.alloc (.cells a t)).setRow v.heap.size b = v.alloc (.cells b t) := by
  simp only [World.setRow, World.alloc]
  congr 1
  apply Array.ext_getElem?
  intro i
  rw [Array.getElem?_modify]
  by_cases h : v.heap.size = i
  · subst h; simp
  · rw [if_neg h, Array.getElem?_push, Array.getElem?_push]; simp [show ¬ i = v.heap.size from fun e => h e.symm]
/-- A slice reads as n bytes, whatever they are. -/
def BB (w : World) (v : Value) (n : Nat) : Prop := ∃ f, IsB f ∧ BtsS w v f n
/-- A row of n bytes that the call owns from a base on. -/
def OwnB (w : World) (base : Nat) (v : Value) (n : Nat) : Prop := ∃ xs, w.ownsRow base 5 1 v n xs ∧ ∀ u ∈ xs, ∃ b : Nat, b < 256 ∧ u = .int .u8 (b : Nat)
theorem BB.below {w w' : World} {v : Value} {n : Nat} (h : BB w v n) (hb : Below w.heap.size w w') : BB w' v n := by
  obtain ⟨f, hf, h⟩ := h
  exact ⟨f, hf, h.below hb⟩
theorem BB.form {w : World} {v : Value} {n : Nat} (h : BB w v n) : ∃ a c, v = .slice a n c := by
  obtain ⟨f, hf, a, c, h, _⟩ := h
  exact ⟨a, c, h⟩
theorem BB.nil (w : World) : BB w (.slice none 0 0) 0 := ⟨fun _ => 0, fun _ => by show 0 < 256; omega, none, 0, rfl, Nat.le_refl _, by unfold maxLen; omega, .inl rfl⟩
theorem OwnB.form {w : World} {base : Nat} {v : Value} {n : Nat} (h : OwnB w base v n) : ∃ a c, v = .slice a n c := by
  obtain ⟨xs, h, _⟩ := h
  rcases h.2 with ⟨rfl, rfl⟩ | ⟨g, cap, cur, rfl, _⟩
  · exact ⟨none, 0, rfl⟩
  · exact ⟨_, _, rfl⟩
theorem OwnB.bb {w : World} {base : Nat} {v : Value} {n : Nat} (h : OwnB w base v n) : BB w v n := by
  obtain ⟨xs, ⟨hl, h⟩, hx⟩ := h
  rcases h with ⟨rfl, rfl⟩ | ⟨g, cap, cur, rfl, _, hc, hn, hm, hs, ht⟩
  · exact BB.nil w
  · have hb : ∀ i, i < n → ∃ b : Nat, b < 256 ∧ cur[i]? = some (.int .u8 (b : Nat)) := by
      intro i hi
      have hi2 : i < xs.length := by omega
      obtain ⟨b, hb, e⟩ := hx xs[i] (List.getElem_mem hi2)
      refine ⟨b, hb, ?_⟩
      have e2 : (cur.toList.take (n * 1))[i]? = some (.int .u8 (b : Nat)) := by rw [ht, List.getElem?_eq_getElem hi2, e]
      rw [List.getElem?_take] at e2
      split at e2
      · simpa using e2
      · cases e2
    refine ⟨fun i => if h : i < n then (hb i h).choose else 0, fun i => ?_, some ⟨g, 0, none⟩, cap, rfl, hn, hm, .inr ⟨g, 0, rfl, fun i hi => ?_⟩⟩
    · show (if h : i < n then (hb i h).choose else 0) < 256
      split
      · rename_i h
        exact (hb i h).choose_spec.1
      · omega
    · rw [cell_of_row w g (0 + i) cur 5 (0, 0) hc, Nat.zero_add]
      show cur[i]? = some (.int .u8 ((if h : i < n then (hb i h).choose else 0 : Nat) : Nat))
      rw [dif_pos hi]
      exact (hb i hi).choose_spec.2
theorem OwnB.below {w w' : World} {base : Nat} {v : Value} {n : Nat} (h : OwnB w base v n) (hb : Below w.heap.size w w') : OwnB w' base v n := by
  obtain ⟨xs, h, hx⟩ := h
  exact ⟨xs, ownBelowS h hb, hx⟩
theorem OwnB.alloc {w : World} {base : Nat} {v : Value} {n : Nat} (h : OwnB w base v n) (o : Obj) : OwnB (w.alloc o) base v n := by
  obtain ⟨xs, h, hx⟩ := h
  exact ⟨xs, h.alloc o, hx⟩
theorem OwnB.drewN {w : World} {base : Nat} {v : Value} {n : Nat} (h : OwnB w base v n) (k : Nat) : OwnB (w.drewN k) base v n := h
theorem OwnB.mono {w : World} {base base' : Nat} {v : Value} {n : Nat} (h : OwnB w base v n) (hb : base' ≤ base) : OwnB w base' v n := by
  obtain ⟨xs, h, hx⟩ := h
  exact ⟨xs, ownMonoS h hb, hx⟩
theorem OwnB.lt {w : World} {base : Nat} {v : Value} {n : Nat} (h : OwnB w base v n) : ∀ k, v.ownBlock = some k → base ≤ k ∧ k < w.heap.size := by
  obtain ⟨xs, h, hx⟩ := h
  exact h.lt
/-- A block that was made now and holds bytes alone. -/
theorem OwnB.made (w : World) (cs : Array Value) (base : Nat) (hb : base ≤ w.heap.size) (hs : cs.size ≤ 1000000) (hc : ∀ u ∈ cs.toList, ∃ b : Nat, b < 256 ∧ u = .int .u8 (b : Nat)) : OwnB (w.alloc (.cells cs 5)) base (.slice (some ⟨w.heap.size, 0, none⟩) cs.size cs.size) cs.size :=
  ⟨cs.toList, ⟨by simp, .inr ⟨_, _, cs, rfl, hb, heap_alloc_new w _, Nat.le_refl _, by unfold maxLen; omega, by omega, by simp [List.take_of_length_le]⟩⟩, hc⟩
theorem u8wrap (x : Int) : ∃ b : Nat, b < 256 ∧ Value.int .u8 (IntKind.u8.wrap x) = .int .u8 (b : Nat) := by
  refine ⟨(IntKind.u8.wrap x).toNat, ?_, ?_⟩
  · rw [IntKind.wrap_u8]; omega
  · have : 0 ≤ IntKind.u8.wrap x := by rw [IntKind.wrap_u8]; omega
    rw [Int.toNat_of_nonneg this]
/-- A row that holds what was made of a block's cells: a block of other cells stays as it is. -/
theorem OwnB.keep {w w' : World} {base : Nat} {v : Value} {n : Nat} (h : OwnB w base v n) (hg : w.grownBy w' v.ownBlock) {b : Nat} {cs : Array Value} {T : TypeId} {fr : Nat × Nat} (hb : w.heap[b]? = some (.cells cs T fr)) (hT : T ≠ 5) : w'.heap[b]? = some (.cells cs T fr) := by
  obtain ⟨xs, h, _⟩ := h
  exact (hg.block b (lt_of_heap hb) (row_neS h hb hT)).trans hb
/-- append of bytes onto a row of bytes. -/
theorem run_append_bytes (w : World) (ty : TypeId) (base : Nat) (v u : Value) (n m : Nat) (hown : OwnB w base v n) (hu : BB w u m) (hbase : base ≤ w.heap.size) (hlim : n + m ≤ 100000000) :
    ∃ ao c w', (Builtin.append_ #[22, 22] ty #[v, u]).run Tryz.prog w = .ok (.slice ao (n + m) c) w' ∧ OwnB w' base (.slice ao (n + m) c) (n + m) ∧ w.grownBy w' v.ownBlock := by
  obtain ⟨i0, hi0, hz0, hz1, hz2⟩ := info_parts Tryz.infoS5
  by_cases hm : m = 0
  · subst hm
    obtain ⟨f, hf, a, c, rfl, _⟩ := hu
    have hg : w.grownBy w v.ownBlock := ⟨rfl, rfl, rfl, Nat.le_refl _, fun _ _ _ => rfl⟩
    obtain ⟨xs, hx, hb⟩ := hown
    have hrun : (Builtin.append_ #[22, 22] ty #[v, .slice a 0 c]).run Tryz.prog w = .ok v w := by
      rcases hx.2 with ⟨rfl, rfl⟩ | ⟨g, cap, cur, rfl, _, _, hnc, _⟩
      · cases a <;> simp [Builtin.append_, run_underlying Tryz.underlying22, sizeOf, typeInfo, hi0, Builtin.lenOf, Builtin.firstCells, storeCells, loadCells, loadCellsFrom]
      · cases a <;> simp [Builtin.append_, run_underlying Tryz.underlying22, sizeOf, typeInfo, hi0, Builtin.lenOf, Builtin.firstCells, storeCells, loadCells, loadCellsFrom, hnc]
    obtain ⟨ao, co, rfl⟩ := OwnB.form ⟨xs, hx, hb⟩
    exact ⟨ao, co, w, hrun, ⟨xs, hx, hb⟩, hg⟩
  · obtain ⟨f, hf, a, c, rfl, hnc, hcm, hcell⟩ := hu
    obtain ⟨D, q, rfl, hB⟩ := hcell.resolve_left hm
    obtain ⟨xs, hx, hb⟩ := hown
    have hlen : ((List.range m).map fun i => Value.int .u8 (f i : Nat)).length = m * 1 := by simp
    obtain ⟨g, cap, w', hr, h2, h3, _, _⟩ := run_append_lies (P := Tryz.prog) w 22 ty base 5 i0 (.int .u8 0) 1 1 Tryz.underlying22 hi0 hz0 hz1 hz2 rfl (by decide) v n xs hx ⟨D, q, none⟩ m c ((List.range m).map fun i => Value.int .u8 (f i : Nat)) hlen (fun j u hu => by
        have hj : j < m := by
          have := (List.getElem?_eq_some_iff.1 hu).1
          simpa using this
        have hadd : (⟨D, q, none⟩ : Addr).add j = ⟨D, q + j, none⟩ := by unfold Addr.add; split <;> simp_all
        rw [hadd, hB j hj]
        simpa [hj] using hu) (fun u hu => by simp at hu; obtain ⟨i, _, rfl⟩ := hu; rfl) (by omega) (by unfold maxLen; omega) (by omega) hbase _ rfl
    refine ⟨_, cap, w', hr, ⟨_, h2, fun u hu => ?_⟩, h3⟩
    rcases List.mem_append.1 hu with hu | hu
    · exact hb u hu
    · simp at hu
      obtain ⟨i, _, rfl⟩ := hu
      exact ⟨f i, hf i, rfl⟩
theorem wp_append_bytes {w : World} {o : Oper} {a : Act} {K : Act → World → Prop} {Q : Exit → Act → World → Prop} (s x : Operand)
    (ho : o.op = .call { callee := .builtin .append, args := #[s, x], argTypes := #[22, 22] }) (base : Nat) (v u : Value) (n m : Nat) (hs : a.eval s = v) (hx : a.eval x = u) (hown : OwnB w base v n) (hu : BB w u m) (hbase : base ≤ w.heap.size) (hlim : n + m ≤ 100000000)
    (h : ∀ ao c w', OwnB w' base (.slice ao (n + m) c) (n + m) → w.grownBy w' v.ownBlock → K (a.put o.dst (.slice ao (n + m) c)) w') : o.wp Tryz.prog a w K Q := by
  obtain ⟨ao, c, w', hr, h2, h3⟩ := run_append_bytes w o.type base v u n m hown hu hbase hlim
  unfold Oper.wp execOp
  simp only [ho, resolve, invoke, builtin, Sem.run_bind, Sem.run_pure, Result.andThen_ok, List.map_toArray, List.map_cons, List.map_nil, hs, hx, hr]
  exact h ao c w' h2 h3
theorem wpList_append_bytes {w : World} {ops : Array Oper} {rest : List Oper} {o : Oper} {a : Act} {Q : Exit → Act → World → Prop} (hgd : o.guard = none) (s x : Operand)
    (ho : o.op = .call { callee := .builtin .append, args := #[s, x], argTypes := #[22, 22] }) (base : Nat) (v u : Value) (n m : Nat) (hs : a.eval s = v) (hx : a.eval x = u) (hown : OwnB w base v n) (hu : BB w u m) (hbase : base ≤ w.heap.size) (hlim : n + m ≤ 100000000)
    (h : ∀ ao c w', OwnB w' base (.slice ao (n + m) c) (n + m) → w.grownBy w' v.ownBlock → wpList Tryz.prog ops Q rest (a.put o.dst (.slice ao (n + m) c)) w') : wpList Tryz.prog ops Q (o :: rest) a w :=
  wpList_plain hgd fun _ hK => wp_append_bytes s x ho base v u n m hs hx hown hu hbase hlim fun ao c w' h2 h3 => hK _ _ (h ao c w' h2 h3)
theorem step_append_bytes {w : World} {ops : Array Oper} {o : Oper} {a : Act} {K : Act → World → Prop} {Q : Exit → Act → World → Prop} {E : Prop} (hgd : o.guard = none) (s x : Operand)
    (ho : o.op = .call { callee := .builtin .append, args := #[s, x], argTypes := #[22, 22] }) (base : Nat) (v u : Value) (n m : Nat) (hs : a.eval s = v) (hx : a.eval x = u) (hown : OwnB w base v n) (hu : BB w u m) (hbase : base ≤ w.heap.size) (hlim : n + m ≤ 100000000)
    (h : ∀ ao c w', OwnB w' base (.slice ao (n + m) c) (n + m) → w.grownBy w' v.ownBlock → K (a.put o.dst (.slice ao (n + m) c)) w') :
    if Region.wanted o (yielded ops a.tmps) = true then Oper.wp Tryz.prog o a w K Q else E := by
  have hw : Region.wanted o (yielded ops a.tmps) = true := by simp [Region.wanted, hgd]
  rw [if_pos hw]
  exact wp_append_bytes s x ho base v u n m hs hx hown hu hbase hlim h
/-- What a function answers that returns n bytes of its own. -/
def RB (n : Nat) (w : World) (e : Ending) (w' : World) : Prop := ∃ ao c, e = .returned (.slice ao n c) ∧ OwnB w' w.heap.size (.slice ao n c) n ∧ Below w.heap.size w w'
/-- .. at most m bytes. -/
def RBm (m : Nat) (w : World) (e : Ending) (w' : World) : Prop := ∃ n ao c, n ≤ m ∧ e = .returned (.slice ao n c) ∧ OwnB w' w.heap.size (.slice ao n c) n ∧ Below w.heap.size w w'
end Go.Proofs.YtecgkcofmphaiaaGreatDoor.Gpk
namespace Go.Proofs.YtecgkcofmphaiaaGreatDoor.Gpk
open Go.RowKit
set_option linter.unusedVariables false
theorem u8mod (x : Int) : ∃ b : Nat, b < 256 ∧ Value.int .u8 (x % 256) = .int .u8 (b : Nat) :=
  ⟨(x % 256).toNat, by omega, by rw [Int.toNat_of_nonneg (by omega)]⟩
def RBool (w : World) (e : Ending) (w' : World) : Prop := (∃ b : Bool, e = .returned (.bool b)) ∧ w = w'
set_option maxRecDepth 100000 in
set_option maxHeartbeats 1000000 in
theorem short_ (x : Int) (w : World) : Calls Tryz.prog 75 #[.int .i64 x] w (RB 2 w) := by
  go_enter Tryz.func75, Tryz.ntmps75
  go_wp2
  go_ret
  exact ⟨_, _, rfl, OwnB.made w #[.int .u8 (x / 256 % 256), .int .u8 (x % 256)] _ (Nat.le_refl _) (by simp) (by intro u hu; simp at hu; rcases hu with rfl | rfl <;> exact u8mod _), (Below.refl _ _).alloc (Nat.le_refl _) _⟩
set_option maxRecDepth 100000 in
set_option maxHeartbeats 1000000 in
theorem bit_ (b : Bool) (w : World) : Calls Tryz.prog 76 #[.bool b] w fun e w' => (∃ x : Int, e = .returned (.int .i64 x)) ∧ w = w' := by
  cases b
  · go_enter Tryz.func76, Tryz.ntmps76
    go_wp2
    go_ret
    exact ⟨⟨_, rfl⟩, rfl⟩
  · go_enter Tryz.func76, Tryz.ntmps76
    go_wp2
    go_ret
    exact ⟨⟨_, rfl⟩, rfl⟩
set_option maxRecDepth 100000 in
set_option maxHeartbeats 1000000 in
theorem upTo_ (x y : Int) (w : World) : Calls Tryz.prog 39 #[.int .i64 x, .int .i64 y] w (RBool w) := by
  by_cases h : 0 ≤ x
  · go_enter Tryz.func39, Tryz.ntmps39
    go_wp2
    go_ret
    exact ⟨⟨_, rfl⟩, rfl⟩
  · go_enter Tryz.func39, Tryz.ntmps39
    go_wp2
    go_ret
    exact ⟨⟨_, rfl⟩, rfl⟩
set_option maxRecDepth 100000 in
set_option maxHeartbeats 1000000 in
theorem isPayload_ (A : Option Addr) (n c : Nat) (w : World) : Calls Tryz.prog 9 #[.slice A n c] w fun e w' => (∃ b : Bool, e = .returned (.bool b) ∧ (b = true → n ≤ 2000)) ∧ w = w' := by
  go_enter Tryz.func9, Tryz.ntmps9
  go_wp2
  go_ret
  exact ⟨⟨_, rfl, fun h => by simp at h; omega⟩, rfl⟩
/-- Parts of bytes, in a row of slices. -/
def Parts (w : World) (b : Nat) (l : List (Value × Nat)) : Prop := ∀ i p, l[i]? = some p → w.cell? ⟨b, i, none⟩ = some p.1 ∧ BB w p.1 p.2
def sumOf (l : List (Value × Nat)) : Nat := (l.map (·.2)).sum
def natX : Value → Nat | .int _ n => n.toNat | _ => 0
set_option maxRecDepth 100000 in
set_option maxHeartbeats 1000000 in
theorem joined_ (b k c : Nat) (l : List (Value × Nat)) (w : World) (hk : l.length = k) (hk9 : k ≤ 100) (hp : Parts w b l) (hs : sumOf l ≤ 10000000) (hb : b < w.heap.size) :
    Calls Tryz.prog 17 #[.slice (some ⟨b, 0, none⟩) k c] w (RB (sumOf l) w) := by
  go_enter Tryz.func17, Tryz.ntmps17
  go_wp2_with fail
  go_loopw [3, 9] (fun t3 t9 wr => ∃ (i n : Nat) (ao : Option Addr) (co : Nat), t9 = .int .i64 (i : Nat) ∧ i ≤ k ∧ t3 = .slice ao n co ∧ n = sumOf (l.take i) ∧ Hid (OwnB wr w.heap.size (.slice ao n co) n) ∧ Hid (Below w.heap.size w wr)) (fun _ t9 _ => k - natX t9)
  case atStart => exact ⟨0, 0, _, 0, rfl, Nat.zero_le _, rfl, by simp [sumOf], Lib.hid (OwnB.made w #[] w.heap.size (Nat.le_refl _) (by simp) (by simp)), Lib.hid ((Below.refl _ _).alloc (Nat.le_refl _) _)⟩
  case round =>
    obtain ⟨i, n, ao, co, rfl, hi, rfl, hn, HO, HB⟩ := hrel
    by_cases hlt : i < k
    · have n1 : (i : Int) < (k : Int) := by omega
      have n3 : (0 : Int) ≤ (i : Int) := by omega
      have n4 : ((i : Int)).toNat = i := by omega
      have n5 : IntKind.i64.wrap ((i : Int) + 1) = (i : Int) + 1 := by rw [IntKind.wrap_i64]; omega
      have hli : l[i]? = some l[i] := List.getElem?_eq_getElem (by omega)
      obtain ⟨hc, hbb⟩ := hp i _ hli
      have HBB := Lib.hid (hbb.below HB.out)
      obtain ⟨a1, c1, he⟩ := hbb.form
      have e0 : wr.cell? ⟨b, i, none⟩ = some (.slice a1 l[i].2 c1) := by rw [← he]; exact (HB.out.cell (p := ⟨b, i, none⟩) hb).trans hc
      have HE := Lib.hid he
      have hst : sumOf (l.take (i + 1)) = n + l[i].2 := by
        have h1 : l.take (i + 1) = l.take i ++ [l[i]] := by rw [List.take_add_one, hli]; rfl
        rw [hn, h1]
        unfold sumOf
        rw [List.map_append, List.sum_append]
        simp
      have hle : sumOf (l.take (i + 1)) ≤ sumOf l := by
        have : sumOf l = sumOf (l.take (i + 1)) + sumOf (l.drop (i + 1)) := by
          unfold sumOf
          rw [← List.sum_append, ← List.map_append, List.take_append_drop]
        omega
      have HST := Lib.hid hst
      have HLE := Lib.hid hle
      have HN := Lib.hid hn
      clear hst hle hn he
      go_wp2_with (at_builtin; (refine wpList_append_bytes rfl (.tmp 13) (.tmp 14) rfl w.heap.size _ _ n l[i].2 rfl rfl HO.out (HE.out ▸ HBB.out) HB.out.size (by have := HST.out; have := HLE.out; omega) ?_))
      intro ao' c' w' hown hgrow
      have HO1 := Lib.hid hown
      have HB1 := Lib.hid (HB.out.grown hgrow HB.out.size (fun k hk => (HO.out.lt k hk).1))
      clear hown hgrow
      go_wp2_with fail
      go_roundw
      case rel => exact ⟨i + 1, n + l[i].2, ao', c', rfl, by omega, rfl, HST.out.symm, HO1, HB1⟩
      case measure => simp [natX]; omega
    · have n1 : ¬ ((i : Int) < (k : Int)) := by omega
      have hik : n = sumOf l := by rw [hn, List.take_of_length_le (by omega)]
      subst hik
      have HN := Lib.hid hn
      clear hn
      go_wp2
      go_ret
      exact ⟨_, _, rfl, HO.out, HB.out⟩
end Go.Proofs.YtecgkcofmphaiaaGreatDoor.Gpk
