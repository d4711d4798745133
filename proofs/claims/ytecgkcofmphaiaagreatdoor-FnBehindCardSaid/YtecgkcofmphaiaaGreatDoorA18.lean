/- Too few bytes for a header.
   All layers along a chain.
   Slices that read as bytes; comparing and copying them.
   Rows of parts: what is told of their cells.
   All layers of bytes, by the builder.
   The name of a layer.
   The copy of bytes.
   The layers of bytes, each with what it carries.
   The reference's small functions. -/
import Derived.Test.YtecgkcofmphaiaaGreatDoorA17
import Derived.Test.YtecgkcofmphaiaaGreatDoorA02
import Derived.Test.YtecgkcofmphaiaaGreatDoorA07
import Derived.Test.YtecgkcofmphaiaaGreatDoorA09
import Derived.Test.YtecgkcofmphaiaaGreatDoorA10
import Derived.Test.YtecgkcofmphaiaaGreatDoorA15
import Derived.Laws.IdiomStrings
import Derived.Lib.BufferRead
import Derived.LoopTactic
import Derived.Test.YtecgkcofmphaiaaGreatDoorA00
set_option linter.unusedVariables false
set_option linter.unusedSimpArgs false
set_option linter.unnecessarySimpa false
set_option linter.unusedSectionVars false
namespace Go.Proofs.YtecgkcofmphaiaaGreatDoor.Gpk
open Go.RowKit
set_option maxRecDepth 100000 in
set_option maxHeartbeats 1000000 in
theorem shortUdp {F : Fix} (hF : F.ok) (p n : Nat) (hs : n < 8) : DecOK F 100 p n [] := by
  intro c w ls hc hm hI hlen
  have hlen' : ls.length ≤ 20 := by simpa using hlen
  clear hlen
  have HI := Lib.hid hI
  clear hI
  go_enter Tryz.func100, Tryz.ntmps100
  go_wp2_with (first | (go_at_call 132; go_in))
  refine (setTruncated hF (HI.out.alloc _)).mono ?_
  rintro e w1 ⟨rfl, hM⟩
  have HM := Lib.hid hM
  clear hM
  go_wp2_with fail
  refine (newErr _ _).mono ?_
  rintro e w2 ⟨rfl, rfl⟩
  have hb := fun (o : Obj) => (HM.out.2.alloc o).block _ _ _ _ (heap_alloc_new w _) (by decide) (by decide)
  have HB := Lib.hid hb
  clear hb
  go_wp2_with fail
  refine (addLayer hF (HM.out.1.alloc _) (by omega) { v := .iface 131 (.pointer (some ⟨w.heap.size, 0, none⟩)), nm := .udp, cq := 0, cn := 0, pq := 0, pn := 0 } (layNone .udp w.heap.size _ (HB.out _) rfl rfl) 131 _ rfl).mono ?_
  rintro e w2 ⟨rfl, hA⟩
  have HA := Lib.hid hA
  clear hA
  go_wp2_with fail
  refine (setTransport _ _ _).mono ?_
  rintro e w' ⟨rfl, rfl⟩
  go_wp2
  go_ret
  exact ⟨_, rfl, .one HA.out.1⟩
end Go.Proofs.YtecgkcofmphaiaaGreatDoor.Gpk
namespace Go.Proofs.YtecgkcofmphaiaaGreatDoor.Gpk
open Go.RowKit
theorem decAll {F : Fix} (hF : F.ok) (p : Nat) (nm : Nm) (n : Nat) (ps : List Piece) (r : Chain F.g p nm n ps) : p + n ≤ F.L → decodable nm = true → 0 < n → DecOK F (fnOf nm) p n ps := by
  induction r with
  | stop p nm n h =>
    intro hp hd hn
    rcases h with rfl | rfl
    · cases hd
    · omega
  | short p nm n hn h =>
    intro hp hd _
    cases nm <;> first | exact h.elim | skip
    · exact shortEth hF p n h
    · exact shortVlan hF p n h
    · exact shortIp4 hF p n h
    · exact shortIpSix hF p n h
    · exact shortTcp hF p n h
    · exact shortUdp hF p n h
    · exact shortIcmp hF p n h
    · exact shortIcmpSix hF p n h
  | take p nm n s e nx ps hn h r ih =>
    intro hp hd _
    have hle := taken_le h
    have ih' : decodable nx = true → 0 < e - s → DecOK F (fnOf nx) (p + s) (e - s) ps := fun h1 h2 => ih (by omega) h1 h2
    cases nm
    · obtain ⟨h1, rfl, rfl, h2, h3⟩ := h
      exact decEth hF p _ hp nx ps h1 h2 h3 r ih'
    · obtain ⟨h1, rfl, rfl, h2, h3⟩ := h
      exact decVlan hF p _ hp nx ps h1 h3 r ih'
    · obtain ⟨h1, rfl, h2, h3, rfl, h4⟩ := h
      exact decArp hF p _ hp nx ps h1 h2 h3 h4 r ih'
    · obtain ⟨h1, rfl, h2, rfl, h3, h4, h5, h6⟩ := h
      exact decIp4 hF p n hp nx ps h1 h2 h3 h4 h5 h6 r ih'
    · obtain ⟨h1, rfl, rfl, h2, h3, h4, h5⟩ := h
      exact decIpSix hF p n hp nx ps h1 h2 h3 (by have h4' : 40 + (F.g (p + 4) * 256 + F.g (p + 5)) ≤ n := h4; omega) h5 r ih'
    · obtain ⟨h1, rfl, h2, h3, rfl, h4, h5⟩ := h
      exact decTcp hF p _ hp nx ps h1 h2 h3 h4 h5 r ih'
    · obtain ⟨h1, rfl, rfl, h2, h3, h4⟩ := h
      exact decUdp hF p n hp nx ps h1 h2 h3 h4 r ih'
    · obtain ⟨h1, rfl, rfl, h2⟩ := h
      exact decIcmp hF p _ hp nx ps h1 h2 r ih'
    · obtain ⟨h1, rfl, rfl, h2⟩ := h
      exact decIcmpSix hF p _ hp nx ps h1 h2 r ih'
    · obtain ⟨h1, h2, h3, h4, rfl, h5, rfl, h6⟩ := h
      exact decGre hF p _ hp nx ps h5 h2 h4 h6 r ih'
    · obtain ⟨h1, rfl, rfl, h2⟩ := h
      exact decVxlan hF p _ hp nx ps h1 h2 r ih'
    · cases hd
    · exact h.elim
    · exact h.elim
end Go.Proofs.YtecgkcofmphaiaaGreatDoor.Gpk
namespace Go.Proofs.YtecgkcofmphaiaaGreatDoor.Gpk
open Go.RowKit
/-- A slice reads as the bytes f 0 .. f (n - 1). -/
def Bts (w : World) (u : Value) (f : Nat → Nat) (n : Nat) : Prop := ∃ a c, u = .slice a n c ∧ n ≤ c ∧ c ≤ maxLen ∧ (n = 0 ∨ ∃ D q, a = some ⟨D, q, none⟩ ∧ Byt w D q f n)
/-- A slice of bytes that was made now: a block of its own. -/
def Got (w : World) (v : Value) (f : Nat → Nat) (n : Nat) : Prop := ∃ b c cs fr, v = .slice (some ⟨b, 0, none⟩) n c ∧ n ≤ c ∧ c ≤ maxLen ∧ w.heap[b]? = some (.cells cs 5 fr) ∧ ∀ i, i < n → cs[i]? = some (.int .u8 (f i : Nat))
theorem Got.bts {w : World} {v : Value} {f : Nat → Nat} {n : Nat} (h : Got w v f n) : Bts w v f n := by
  obtain ⟨b, c, cs, fr, rfl, h1, h2, h3, h4⟩ := h
  refine ⟨_, c, rfl, h1, h2, .inr ⟨b, 0, rfl, fun i hi => ?_⟩⟩
  rw [cell_of_row w b (0 + i) cs 5 fr h3, Nat.zero_add]
  exact h4 i hi
theorem Got.keep {w w' : World} {v : Value} {f : Nat → Nat} {n : Nat} (h : Got w v f n) (hk : ∀ (b : Nat) (cs : Array Value) (fr : Nat × Nat), w.heap[b]? = some (Obj.cells cs 5 fr) → w'.heap[b]? = some (Obj.cells cs 5 fr)) : Got w' v f n := by
  obtain ⟨b, c, cs, fr, hv, h1, h2, h3, h4⟩ := h
  exact ⟨b, c, cs, fr, hv, h1, h2, hk b cs fr h3, h4⟩
theorem Got.below {w w' : World} {v : Value} {f : Nat → Nat} {n : Nat} (h : Got w v f n) (hb : Below w.heap.size w w') : Got w' v f n :=
  h.keep fun b _ _ hc => (hb.block b (lt_of_heap hc)).trans hc
theorem Bts.below {w w' : World} {u : Value} {f : Nat → Nat} {n : Nat} (h : Bts w u f n) (hb : Below w.heap.size w w') : Bts w' u f n := by
  obtain ⟨a, c, hu, h1, h2, h3⟩ := h
  refine ⟨a, c, hu, h1, h2, ?_⟩
  by_cases h0 : n = 0
  · exact .inl h0
  · obtain ⟨D, q, ha, hB⟩ := h3.resolve_left h0
    exact .inr ⟨D, q, ha, hB.below hb (hB.lt (by omega))⟩
theorem Win.bts {w : World} {D q n : Nat} {f : Nat → Nat} {N : Nat} {v : Value} {p : Nat} (hB : Byt w D q f N) (hw : Win D v (q + p) n) (hN : p + n ≤ N) : Bts w v (fun i => f (p + i)) n := by
  obtain ⟨a, c, rfl, h1, h2, h3⟩ := hw
  refine ⟨a, c, rfl, h1, h2, ?_⟩
  by_cases h0 : n = 0
  · exact .inl h0
  · exact .inr ⟨D, q + p, h3 (by omega), hB.sub p n hN⟩

def bytesOf (f : Nat → Nat) (n : Nat) : List UInt8 := (List.range n).map fun i => UInt8.ofNat (f i)
theorem convBts {w : World} {u : Value} {f : Nat → Nat} {n : Nat} (h : Bts w u f n) (hf : IsB f) : (convert 22 9 u).run Tryz.prog w = .ok (.string ⟨(bytesOf f n).toArray⟩) w := by
  obtain ⟨a, c, rfl, h1, h2, h3⟩ := h
  have hlen : (bytesOf f n).length = n := by simp [bytesOf]
  by_cases h0 : n = 0
  · subst h0
    cases a with
    | none => exact Go.Lib.run_convert_nil_bytes w 22 9 5 c Tryz.underlying22 Tryz.underlying5 Tryz.underlying9
    | some a => exact run_convert_bytes_back (P := Tryz.prog) w 22 9 5 a c [] Tryz.underlying22 Tryz.underlying5 Tryz.underlying9 (fun j hj => by cases hj)
  · obtain ⟨D, q, rfl, hB⟩ := h3.resolve_left h0
    have := run_convert_bytes_back (P := Tryz.prog) w 22 9 5 ⟨D, q, none⟩ c (bytesOf f n) Tryz.underlying22 Tryz.underlying5 Tryz.underlying9 (fun j hj => by
      have hj' : j < n := by omega
      have hadd : (⟨D, q, none⟩ : Addr).add j = ⟨D, q + j, none⟩ := by unfold Addr.add; split <;> simp_all
      rw [hadd, hB j hj']
      have := hf j
      simp [bytesOf, Nat.mod_eq_of_lt this])
    rw [hlen] at this
    exact this
theorem same (u v : Value) (f : Nat → Nat) (n : Nat) (w : World) (hu : Bts w u f n) (hv : Bts w v f n) (hf : IsB f) : Calls Tryz.prog 20 #[u, v] w fun e w' => e = .returned (.bool true) ∧ w = w' := by
  have h1 := convBts hu hf
  have h2 := convBts hv hf
  obtain ⟨a, c, rfl, _⟩ := hu
  obtain ⟨a', c', rfl, _⟩ := hv
  go_enter Tryz.func20, Tryz.ntmps20
  go_wp2
  go_ret
  exact ⟨by simp, rfl⟩
end Go.Proofs.YtecgkcofmphaiaaGreatDoor.Gpk
namespace Go.Proofs.YtecgkcofmphaiaaGreatDoor.Gpk
open Go.RowKit
/-- A row's cells are parts, the i-th of which is told of by R. -/
def RowOf {α : Type} (R : α → Value → Value → Value → Prop) (xs : List Value) (l : List α) : Prop := xs.length = l.length * 3 ∧ ∀ (i : Nat) (p : α), l[i]? = some p → ∃ s a b, xs[i * 3]? = some s ∧ xs[i * 3 + 1]? = some a ∧ xs[i * 3 + 2]? = some b ∧ R p s a b
theorem RowOf.nil {α : Type} (R : α → Value → Value → Value → Prop) : RowOf R [] [] := ⟨rfl, fun i p h => by simp at h⟩
theorem RowOf.snoc {α : Type} {R : α → Value → Value → Value → Prop} {xs : List Value} {l : List α} (h : RowOf R xs l) (p : α) (s a b : Value) (hp : R p s a b) : RowOf R (xs ++ [s, a, b]) (l ++ [p]) := by
  obtain ⟨hl, h⟩ := h
  refine ⟨by simp; omega, fun i r hr => ?_⟩
  by_cases hi : i < l.length
  · rw [List.getElem?_append_left hi] at hr
    obtain ⟨s', a', b', h0, h1, h2, h3⟩ := h i r hr
    exact ⟨s', a', b', by rw [List.getElem?_append_left (by omega)]; exact h0, by rw [List.getElem?_append_left (by omega)]; exact h1, by rw [List.getElem?_append_left (by omega)]; exact h2, h3⟩
  · have hi2 : i = l.length := by
      have := (List.getElem?_eq_some_iff.1 hr).1
      simp at this
      omega
    subst hi2
    simp at hr
    subst hr
    refine ⟨s, a, b, ?_, ?_, ?_, hp⟩ <;> rw [List.getElem?_append_right (by omega), hl] <;> simp
theorem RowOf.imp {α : Type} {R S : α → Value → Value → Value → Prop} {xs : List Value} {l : List α} (h : RowOf R xs l) (hi : ∀ p ∈ l, ∀ s a b, R p s a b → S p s a b) : RowOf S xs l := by
  refine ⟨h.1, fun i p hp => ?_⟩
  obtain ⟨s, a, b, h0, h1, h2, h3⟩ := h.2 i p hp
  exact ⟨s, a, b, h0, h1, h2, hi p (List.mem_of_getElem? hp) s a b h3⟩
/-- A piece, cut out of the bytes that lie in block D from q on. -/
def PartAt (D q : Nat) (p : Piece) (s a b : Value) : Prop := s = .string p.nm.str ∧ Win D a (q + p.at_) p.size ∧ Win D b (q + (p.at_ + p.size)) (p.fin - p.size)
/-- A layer, copied. -/
def PartOf (w : World) (f : Nat → Nat) (l : Lay) (s a b : Value) : Prop := s = .string l.nm.str ∧ Got w a (fun i => f (l.cq + i)) l.cn ∧ Got w b (fun i => f (l.pq + i)) l.pn
theorem PartOf.keep {w w' : World} {f : Nat → Nat} {l : Lay} {s a b : Value} (h : PartOf w f l s a b) (hk : ∀ (b : Nat) (cs : Array Value) (fr : Nat × Nat), w.heap[b]? = some (Obj.cells cs 5 fr) → w'.heap[b]? = some (Obj.cells cs 5 fr)) : PartOf w' f l s a b :=
  ⟨h.1, h.2.1.keep hk, h.2.2.keep hk⟩
theorem Pref.get {ls : List Lay} {ps : List Piece} (h : Pref ls ps) : ∀ (i : Nat) (p : Piece), ps[i]? = some p → ∃ l, ls[i]? = some l ∧ Fits l p := by
  induction ps generalizing ls with
  | nil => intro i p hp; simp at hp
  | cons p0 ps ih =>
    cases ls with
    | nil => exact h.elim
    | cons l0 ls =>
      intro i p hp
      cases i with
      | zero => simp at hp; subst hp; exact ⟨l0, rfl, h.1⟩
      | succ i => simp at hp; obtain ⟨l, hl, hf⟩ := ih h.2 i p hp; exact ⟨l, by simpa using hl, hf⟩
theorem Pref.len {ls : List Lay} {ps : List Piece} (h : Pref ls ps) : ps.length ≤ ls.length := by
  induction ps generalizing ls with
  | nil => simp
  | cons p0 ps ih =>
    cases ls with
    | nil => exact h.elim
    | cons l0 ls => have := ih h.2; simp; omega
/-- The pieces of a chain lie within the bytes. -/
theorem Chain.within {g : Nat → Nat} {p n : Nat} {nm : Nm} {ps : List Piece} (h : Chain g p nm n ps) : ∀ x ∈ ps, x.at_ + x.size ≤ p + n ∧ x.at_ + x.fin ≤ p + n ∧ x.size ≤ x.fin := by
  induction h with
  | stop => intro x hx; cases hx
  | short => intro x hx; cases hx
  | take p nm n s e nx ps hn h r ih =>
    have hle := taken_le h
    intro x hx
    rcases List.mem_cons.1 hx with rfl | hx
    · simp only; omega
    · have := ih x hx; omega
/-- The two parts of an index are alike. -/
def Alike (w : World) (xs1 xs2 : List Value) (i : Nat) : Prop := ∃ s a b a' b' n m f g, xs1[i * 3]? = some (.string s) ∧ xs1[i * 3 + 1]? = some a ∧ xs1[i * 3 + 2]? = some b ∧ xs2[i * 3]? = some (.string s) ∧ xs2[i * 3 + 1]? = some a' ∧ xs2[i * 3 + 2]? = some b' ∧
  IsB f ∧ IsB g ∧ Bts w a f n ∧ Bts w a' f n ∧ Bts w b g m ∧ Bts w b' g m
theorem alike {w : World} {D q N : Nat} {f : Nat → Nat} {xs1 xs2 : List Value} {ls : List Lay} {ps : List Piece} (hf : IsB f) (hB : Byt w D q f N) (h1 : RowOf (PartOf w f) xs1 ls) (h2 : RowOf (PartAt D q) xs2 ps) (hp : Pref ls ps)
    (hw : ∀ x ∈ ps, x.at_ + x.size ≤ N ∧ x.at_ + x.fin ≤ N ∧ x.size ≤ x.fin) : ∀ i, i < ps.length → Alike w xs1 xs2 i := by
  intro i hi
  have hpi : ps[i]? = some ps[i] := List.getElem?_eq_getElem hi
  obtain ⟨l, hl, e1, e2, e3, e4, e5⟩ := hp.get i _ hpi
  obtain ⟨s, a, b, c0, c1, c2, rfl, ga, gb⟩ := h1.2 i l hl
  obtain ⟨s', a', b', d0, d1, d2, rfl, wa, wb⟩ := h2.2 i _ hpi
  obtain ⟨hw1, hw2, hw3⟩ := hw _ (List.getElem_mem hi)
  rw [e1] at c0
  rw [e2, e3] at ga
  rw [e4, e5] at gb
  exact ⟨_, a, b, a', b', _, _, _, _, c0, c1, c2, d0, d1, d2, hf.sub _, hf.sub _, ga.bts, wa.bts hB hw1, gb.bts, wb.bts hB (by omega)⟩
end Go.Proofs.YtecgkcofmphaiaaGreatDoor.Gpk
namespace Go.Proofs.YtecgkcofmphaiaaGreatDoor.Gpk
open Go.RowKit
set_option linter.unusedVariables false
theorem ownBelow {w w' : World} {base : Nat} {e : TypeId} {size n : Nat} {v : Value} {xs : List Value} (h : w.ownsRow base e size v n xs) (hb : Below w.heap.size w w') : w'.ownsRow base e size v n xs :=
  h.kept (row := none) ⟨hb.os, hb.tape, hb.output, hb.size, fun k hk _ => hb.block k hk⟩ (by cases v.ownBlock <;> simp)
/-- What the gathering of layers leaves. -/
def Lays (D n : Nat) (cs : Array Value) (fr : Nat × Nat) (ps : List Piece) (w : World) (e : Ending) (w' : World) : Prop :=
  ∃ V b v ls, e = .returned (.tuple #[V, b, v]) ∧ Below w.heap.size w w' ∧ Pref ls ps ∧ ls.length ≤ ps.length + 1 ∧ w'.ownsRow w.heap.size 78 1 V ls.length (ls.map (·.v)) ∧ (∀ l ∈ ls, l.ok D n w') ∧ w'.heap[D]? = some (.cells cs 5 fr)
set_option maxRecDepth 100000 in
set_option maxHeartbeats 2000000 in
theorem decodeAll (n c D : Nat) (cs : Array Value) (fr : Nat × Nat) (f : Nat → Nat) (ps : List Piece) (w : World) (hD : w.heap[D]? = some (.cells cs 5 fr)) (hb : ∀ i, i < n → cs[i]? = some (.int .u8 (f i : Nat))) (hn : n ≤ c) (hc : c ≤ maxLen)
    (hch : Chain f 0 .eth n ps) (hlen : ps.length ≤ 12) (hf : IsB f) : Calls Tryz.prog 21 #[.int .i64 17, .slice (some ⟨D, 0, none⟩) n c] w (Lays D n cs fr ps w) := by
  have hF : Fix.ok ⟨w, D, cs, fr, n, f, w.heap.size⟩ := ⟨hb, hf, Nat.le_refl _, by show n ≤ maxLen; omega⟩
  have hdec : DecOK ⟨w, D, cs, fr, n, f, w.heap.size⟩ 89 0 n ps := by
    by_cases h0 : n = 0
    · subst h0
      obtain rfl := chain_nil hch
      exact shortEth hF 0 0 (by omega)
    · exact decAll hF 0 .eth n ps hch (by show 0 + n ≤ n; omega) rfl (by omega)
  have hI : Inv ⟨w, D, cs, fr, n, f, w.heap.size⟩ (w.alloc (.cells #[.slice none 0 0, .bool false, .bool true] 124)) [] :=
    ⟨(Below.refl _ _).alloc (Nat.le_refl _) _, (heap_alloc_old w _ (lt_of_heap hD)).trans hD, ⟨_, _, heap_alloc_new w _, World.ownsRow_nil _ _ _ _⟩, fun l hl => by cases hl⟩
  have HDEC := Lib.hid (hdec c _ [] hn hc hI (by simp; omega))
  clear hI hdec hF hch hb
  have hnf := fun (w : World) => (by kernel_rfl : (binOp BinOp.eql 119 (.func (.func 89) #[] #[]) .nilFunc).run Tryz.prog w = .ok (.bool false) w)
  go_enter Tryz.func21, Tryz.ntmps21
  go_wp2_with fail
  refine (decoder_17 _).mono ?_
  rintro e w' ⟨rfl, rfl⟩
  go_wp2_with fail
  refine HDEC.out.mono ?_
  rintro e w1 ⟨v, rfl, ls, hI, hp, hl⟩
  have HI := Lib.hid hI
  clear hI
  obtain ⟨V, tr, hcell, hown⟩ := HI.out.bld
  have c0 := cell_of_row w1 _ 0 _ 124 (0, 0) hcell
  have c1 := cell_of_row w1 _ 1 _ 124 (0, 0) hcell
  have HO := Lib.hid hown
  clear hown
  go_wp2_with fail
  go_quiet (fail)
  go_wp2
  go_ret3
  exact ⟨V, .bool tr, v, ls, rfl, below_drewN HI.out.below _, hp, hl, (by have h := HO.out; simp only [List.nil_append] at h; exact h), fun l hl => HI.out.lay l (by simpa using hl), HI.out.dat⟩
end Go.Proofs.YtecgkcofmphaiaaGreatDoor.Gpk
namespace Go.Proofs.YtecgkcofmphaiaaGreatDoor.Gpk
open Go.RowKit
set_option maxRecDepth 100000 in
set_option maxHeartbeats 2000000 in
theorem name_eth (g : Nat) (w : World) : Calls Tryz.prog 23 #[.iface 125 (.pointer (some ⟨g, 0, none⟩))] w fun e w' => e = .returned (.string (Nm.str .eth)) ∧ w = w' := by
  have a125 := fun (w : World) => (by kernel_rfl : (Instr.typeAssert (.iface 125 (.pointer (some ⟨g, 0, none⟩))) 78 125 true).run Tryz.prog w = .ok (.tuple #[(.pointer (some ⟨g, 0, none⟩)), .bool true]) w)
  go_enter Tryz.func23, Tryz.ntmps23
  go_wp2
  go_ret
  exact ⟨rfl, rfl⟩
set_option maxRecDepth 100000 in
set_option maxHeartbeats 2000000 in
theorem name_vlan (g : Nat) (w : World) : Calls Tryz.prog 23 #[.iface 126 (.pointer (some ⟨g, 0, none⟩))] w fun e w' => e = .returned (.string (Nm.str .vlan)) ∧ w = w' := by
  have a125 := fun (w : World) => (by kernel_rfl : (Instr.typeAssert (.iface 126 (.pointer (some ⟨g, 0, none⟩))) 78 125 true).run Tryz.prog w = .ok (.tuple #[.pointer none, .bool false]) w)
  have a126 := fun (w : World) => (by kernel_rfl : (Instr.typeAssert (.iface 126 (.pointer (some ⟨g, 0, none⟩))) 78 126 true).run Tryz.prog w = .ok (.tuple #[(.pointer (some ⟨g, 0, none⟩)), .bool true]) w)
  go_enter Tryz.func23, Tryz.ntmps23
  go_wp2
  go_ret
  exact ⟨rfl, rfl⟩
set_option maxRecDepth 100000 in
set_option maxHeartbeats 2000000 in
theorem name_arp (g : Nat) (w : World) : Calls Tryz.prog 23 #[.iface 127 (.pointer (some ⟨g, 0, none⟩))] w fun e w' => e = .returned (.string (Nm.str .arp)) ∧ w = w' := by
  have a125 := fun (w : World) => (by kernel_rfl : (Instr.typeAssert (.iface 127 (.pointer (some ⟨g, 0, none⟩))) 78 125 true).run Tryz.prog w = .ok (.tuple #[.pointer none, .bool false]) w)
  have a126 := fun (w : World) => (by kernel_rfl : (Instr.typeAssert (.iface 127 (.pointer (some ⟨g, 0, none⟩))) 78 126 true).run Tryz.prog w = .ok (.tuple #[.pointer none, .bool false]) w)
  have a127 := fun (w : World) => (by kernel_rfl : (Instr.typeAssert (.iface 127 (.pointer (some ⟨g, 0, none⟩))) 78 127 true).run Tryz.prog w = .ok (.tuple #[(.pointer (some ⟨g, 0, none⟩)), .bool true]) w)
  go_enter Tryz.func23, Tryz.ntmps23
  go_wp2
  go_ret
  exact ⟨rfl, rfl⟩
set_option maxRecDepth 100000 in
set_option maxHeartbeats 2000000 in
theorem name_ip4 (g : Nat) (w : World) : Calls Tryz.prog 23 #[.iface 128 (.pointer (some ⟨g, 0, none⟩))] w fun e w' => e = .returned (.string (Nm.str .ip4)) ∧ w = w' := by
  have a125 := fun (w : World) => (by kernel_rfl : (Instr.typeAssert (.iface 128 (.pointer (some ⟨g, 0, none⟩))) 78 125 true).run Tryz.prog w = .ok (.tuple #[.pointer none, .bool false]) w)
  have a126 := fun (w : World) => (by kernel_rfl : (Instr.typeAssert (.iface 128 (.pointer (some ⟨g, 0, none⟩))) 78 126 true).run Tryz.prog w = .ok (.tuple #[.pointer none, .bool false]) w)
  have a127 := fun (w : World) => (by kernel_rfl : (Instr.typeAssert (.iface 128 (.pointer (some ⟨g, 0, none⟩))) 78 127 true).run Tryz.prog w = .ok (.tuple #[.pointer none, .bool false]) w)
  have a128 := fun (w : World) => (by kernel_rfl : (Instr.typeAssert (.iface 128 (.pointer (some ⟨g, 0, none⟩))) 78 128 true).run Tryz.prog w = .ok (.tuple #[(.pointer (some ⟨g, 0, none⟩)), .bool true]) w)
  go_enter Tryz.func23, Tryz.ntmps23
  go_wp2
  go_ret
  exact ⟨rfl, rfl⟩
set_option maxRecDepth 100000 in
set_option maxHeartbeats 2000000 in
theorem name_ip6 (g : Nat) (w : World) : Calls Tryz.prog 23 #[.iface 129 (.pointer (some ⟨g, 0, none⟩))] w fun e w' => e = .returned (.string (Nm.str .ip6)) ∧ w = w' := by
  have a125 := fun (w : World) => (by kernel_rfl : (Instr.typeAssert (.iface 129 (.pointer (some ⟨g, 0, none⟩))) 78 125 true).run Tryz.prog w = .ok (.tuple #[.pointer none, .bool false]) w)
  have a126 := fun (w : World) => (by kernel_rfl : (Instr.typeAssert (.iface 129 (.pointer (some ⟨g, 0, none⟩))) 78 126 true).run Tryz.prog w = .ok (.tuple #[.pointer none, .bool false]) w)
  have a127 := fun (w : World) => (by kernel_rfl : (Instr.typeAssert (.iface 129 (.pointer (some ⟨g, 0, none⟩))) 78 127 true).run Tryz.prog w = .ok (.tuple #[.pointer none, .bool false]) w)
  have a128 := fun (w : World) => (by kernel_rfl : (Instr.typeAssert (.iface 129 (.pointer (some ⟨g, 0, none⟩))) 78 128 true).run Tryz.prog w = .ok (.tuple #[.pointer none, .bool false]) w)
  have a129 := fun (w : World) => (by kernel_rfl : (Instr.typeAssert (.iface 129 (.pointer (some ⟨g, 0, none⟩))) 78 129 true).run Tryz.prog w = .ok (.tuple #[(.pointer (some ⟨g, 0, none⟩)), .bool true]) w)
  go_enter Tryz.func23, Tryz.ntmps23
  go_wp2
  go_ret
  exact ⟨rfl, rfl⟩
set_option maxRecDepth 100000 in
set_option maxHeartbeats 2000000 in
theorem name_tcp (g : Nat) (w : World) : Calls Tryz.prog 23 #[.iface 130 (.pointer (some ⟨g, 0, none⟩))] w fun e w' => e = .returned (.string (Nm.str .tcp)) ∧ w = w' := by
  have a125 := fun (w : World) => (by kernel_rfl : (Instr.typeAssert (.iface 130 (.pointer (some ⟨g, 0, none⟩))) 78 125 true).run Tryz.prog w = .ok (.tuple #[.pointer none, .bool false]) w)
  have a126 := fun (w : World) => (by kernel_rfl : (Instr.typeAssert (.iface 130 (.pointer (some ⟨g, 0, none⟩))) 78 126 true).run Tryz.prog w = .ok (.tuple #[.pointer none, .bool false]) w)
  have a127 := fun (w : World) => (by kernel_rfl : (Instr.typeAssert (.iface 130 (.pointer (some ⟨g, 0, none⟩))) 78 127 true).run Tryz.prog w = .ok (.tuple #[.pointer none, .bool false]) w)
  have a128 := fun (w : World) => (by kernel_rfl : (Instr.typeAssert (.iface 130 (.pointer (some ⟨g, 0, none⟩))) 78 128 true).run Tryz.prog w = .ok (.tuple #[.pointer none, .bool false]) w)
  have a129 := fun (w : World) => (by kernel_rfl : (Instr.typeAssert (.iface 130 (.pointer (some ⟨g, 0, none⟩))) 78 129 true).run Tryz.prog w = .ok (.tuple #[.pointer none, .bool false]) w)
  have a130 := fun (w : World) => (by kernel_rfl : (Instr.typeAssert (.iface 130 (.pointer (some ⟨g, 0, none⟩))) 78 130 true).run Tryz.prog w = .ok (.tuple #[(.pointer (some ⟨g, 0, none⟩)), .bool true]) w)
  go_enter Tryz.func23, Tryz.ntmps23
  go_wp2
  go_ret
  exact ⟨rfl, rfl⟩
set_option maxRecDepth 100000 in
set_option maxHeartbeats 2000000 in
theorem name_udp (g : Nat) (w : World) : Calls Tryz.prog 23 #[.iface 131 (.pointer (some ⟨g, 0, none⟩))] w fun e w' => e = .returned (.string (Nm.str .udp)) ∧ w = w' := by
  have a125 := fun (w : World) => (by kernel_rfl : (Instr.typeAssert (.iface 131 (.pointer (some ⟨g, 0, none⟩))) 78 125 true).run Tryz.prog w = .ok (.tuple #[.pointer none, .bool false]) w)
  have a126 := fun (w : World) => (by kernel_rfl : (Instr.typeAssert (.iface 131 (.pointer (some ⟨g, 0, none⟩))) 78 126 true).run Tryz.prog w = .ok (.tuple #[.pointer none, .bool false]) w)
  have a127 := fun (w : World) => (by kernel_rfl : (Instr.typeAssert (.iface 131 (.pointer (some ⟨g, 0, none⟩))) 78 127 true).run Tryz.prog w = .ok (.tuple #[.pointer none, .bool false]) w)
  have a128 := fun (w : World) => (by kernel_rfl : (Instr.typeAssert (.iface 131 (.pointer (some ⟨g, 0, none⟩))) 78 128 true).run Tryz.prog w = .ok (.tuple #[.pointer none, .bool false]) w)
  have a129 := fun (w : World) => (by kernel_rfl : (Instr.typeAssert (.iface 131 (.pointer (some ⟨g, 0, none⟩))) 78 129 true).run Tryz.prog w = .ok (.tuple #[.pointer none, .bool false]) w)
  have a130 := fun (w : World) => (by kernel_rfl : (Instr.typeAssert (.iface 131 (.pointer (some ⟨g, 0, none⟩))) 78 130 true).run Tryz.prog w = .ok (.tuple #[.pointer none, .bool false]) w)
  have a131 := fun (w : World) => (by kernel_rfl : (Instr.typeAssert (.iface 131 (.pointer (some ⟨g, 0, none⟩))) 78 131 true).run Tryz.prog w = .ok (.tuple #[(.pointer (some ⟨g, 0, none⟩)), .bool true]) w)
  go_enter Tryz.func23, Tryz.ntmps23
  go_wp2
  go_ret
  exact ⟨rfl, rfl⟩
set_option maxRecDepth 100000 in
set_option maxHeartbeats 2000000 in
theorem name_icmp (g : Nat) (w : World) : Calls Tryz.prog 23 #[.iface 132 (.pointer (some ⟨g, 0, none⟩))] w fun e w' => e = .returned (.string (Nm.str .icmp)) ∧ w = w' := by
  have a125 := fun (w : World) => (by kernel_rfl : (Instr.typeAssert (.iface 132 (.pointer (some ⟨g, 0, none⟩))) 78 125 true).run Tryz.prog w = .ok (.tuple #[.pointer none, .bool false]) w)
  have a126 := fun (w : World) => (by kernel_rfl : (Instr.typeAssert (.iface 132 (.pointer (some ⟨g, 0, none⟩))) 78 126 true).run Tryz.prog w = .ok (.tuple #[.pointer none, .bool false]) w)
  have a127 := fun (w : World) => (by kernel_rfl : (Instr.typeAssert (.iface 132 (.pointer (some ⟨g, 0, none⟩))) 78 127 true).run Tryz.prog w = .ok (.tuple #[.pointer none, .bool false]) w)
  have a128 := fun (w : World) => (by kernel_rfl : (Instr.typeAssert (.iface 132 (.pointer (some ⟨g, 0, none⟩))) 78 128 true).run Tryz.prog w = .ok (.tuple #[.pointer none, .bool false]) w)
  have a129 := fun (w : World) => (by kernel_rfl : (Instr.typeAssert (.iface 132 (.pointer (some ⟨g, 0, none⟩))) 78 129 true).run Tryz.prog w = .ok (.tuple #[.pointer none, .bool false]) w)
  have a130 := fun (w : World) => (by kernel_rfl : (Instr.typeAssert (.iface 132 (.pointer (some ⟨g, 0, none⟩))) 78 130 true).run Tryz.prog w = .ok (.tuple #[.pointer none, .bool false]) w)
  have a131 := fun (w : World) => (by kernel_rfl : (Instr.typeAssert (.iface 132 (.pointer (some ⟨g, 0, none⟩))) 78 131 true).run Tryz.prog w = .ok (.tuple #[.pointer none, .bool false]) w)
  have a132 := fun (w : World) => (by kernel_rfl : (Instr.typeAssert (.iface 132 (.pointer (some ⟨g, 0, none⟩))) 78 132 true).run Tryz.prog w = .ok (.tuple #[(.pointer (some ⟨g, 0, none⟩)), .bool true]) w)
  go_enter Tryz.func23, Tryz.ntmps23
  go_wp2
  go_ret
  exact ⟨rfl, rfl⟩
set_option maxRecDepth 100000 in
set_option maxHeartbeats 2000000 in
theorem name_icmp6 (g : Nat) (w : World) : Calls Tryz.prog 23 #[.iface 133 (.pointer (some ⟨g, 0, none⟩))] w fun e w' => e = .returned (.string (Nm.str .icmp6)) ∧ w = w' := by
  have a125 := fun (w : World) => (by kernel_rfl : (Instr.typeAssert (.iface 133 (.pointer (some ⟨g, 0, none⟩))) 78 125 true).run Tryz.prog w = .ok (.tuple #[.pointer none, .bool false]) w)
  have a126 := fun (w : World) => (by kernel_rfl : (Instr.typeAssert (.iface 133 (.pointer (some ⟨g, 0, none⟩))) 78 126 true).run Tryz.prog w = .ok (.tuple #[.pointer none, .bool false]) w)
  have a127 := fun (w : World) => (by kernel_rfl : (Instr.typeAssert (.iface 133 (.pointer (some ⟨g, 0, none⟩))) 78 127 true).run Tryz.prog w = .ok (.tuple #[.pointer none, .bool false]) w)
  have a128 := fun (w : World) => (by kernel_rfl : (Instr.typeAssert (.iface 133 (.pointer (some ⟨g, 0, none⟩))) 78 128 true).run Tryz.prog w = .ok (.tuple #[.pointer none, .bool false]) w)
  have a129 := fun (w : World) => (by kernel_rfl : (Instr.typeAssert (.iface 133 (.pointer (some ⟨g, 0, none⟩))) 78 129 true).run Tryz.prog w = .ok (.tuple #[.pointer none, .bool false]) w)
  have a130 := fun (w : World) => (by kernel_rfl : (Instr.typeAssert (.iface 133 (.pointer (some ⟨g, 0, none⟩))) 78 130 true).run Tryz.prog w = .ok (.tuple #[.pointer none, .bool false]) w)
  have a131 := fun (w : World) => (by kernel_rfl : (Instr.typeAssert (.iface 133 (.pointer (some ⟨g, 0, none⟩))) 78 131 true).run Tryz.prog w = .ok (.tuple #[.pointer none, .bool false]) w)
  have a132 := fun (w : World) => (by kernel_rfl : (Instr.typeAssert (.iface 133 (.pointer (some ⟨g, 0, none⟩))) 78 132 true).run Tryz.prog w = .ok (.tuple #[.pointer none, .bool false]) w)
  have a133 := fun (w : World) => (by kernel_rfl : (Instr.typeAssert (.iface 133 (.pointer (some ⟨g, 0, none⟩))) 78 133 true).run Tryz.prog w = .ok (.tuple #[(.pointer (some ⟨g, 0, none⟩)), .bool true]) w)
  go_enter Tryz.func23, Tryz.ntmps23
  go_wp2
  go_ret
  exact ⟨rfl, rfl⟩
set_option maxRecDepth 100000 in
set_option maxHeartbeats 2000000 in
theorem name_gre (g : Nat) (w : World) : Calls Tryz.prog 23 #[.iface 134 (.pointer (some ⟨g, 0, none⟩))] w fun e w' => e = .returned (.string (Nm.str .gre)) ∧ w = w' := by
  have a125 := fun (w : World) => (by kernel_rfl : (Instr.typeAssert (.iface 134 (.pointer (some ⟨g, 0, none⟩))) 78 125 true).run Tryz.prog w = .ok (.tuple #[.pointer none, .bool false]) w)
  have a126 := fun (w : World) => (by kernel_rfl : (Instr.typeAssert (.iface 134 (.pointer (some ⟨g, 0, none⟩))) 78 126 true).run Tryz.prog w = .ok (.tuple #[.pointer none, .bool false]) w)
  have a127 := fun (w : World) => (by kernel_rfl : (Instr.typeAssert (.iface 134 (.pointer (some ⟨g, 0, none⟩))) 78 127 true).run Tryz.prog w = .ok (.tuple #[.pointer none, .bool false]) w)
  have a128 := fun (w : World) => (by kernel_rfl : (Instr.typeAssert (.iface 134 (.pointer (some ⟨g, 0, none⟩))) 78 128 true).run Tryz.prog w = .ok (.tuple #[.pointer none, .bool false]) w)
  have a129 := fun (w : World) => (by kernel_rfl : (Instr.typeAssert (.iface 134 (.pointer (some ⟨g, 0, none⟩))) 78 129 true).run Tryz.prog w = .ok (.tuple #[.pointer none, .bool false]) w)
  have a130 := fun (w : World) => (by kernel_rfl : (Instr.typeAssert (.iface 134 (.pointer (some ⟨g, 0, none⟩))) 78 130 true).run Tryz.prog w = .ok (.tuple #[.pointer none, .bool false]) w)
  have a131 := fun (w : World) => (by kernel_rfl : (Instr.typeAssert (.iface 134 (.pointer (some ⟨g, 0, none⟩))) 78 131 true).run Tryz.prog w = .ok (.tuple #[.pointer none, .bool false]) w)
  have a132 := fun (w : World) => (by kernel_rfl : (Instr.typeAssert (.iface 134 (.pointer (some ⟨g, 0, none⟩))) 78 132 true).run Tryz.prog w = .ok (.tuple #[.pointer none, .bool false]) w)
  have a133 := fun (w : World) => (by kernel_rfl : (Instr.typeAssert (.iface 134 (.pointer (some ⟨g, 0, none⟩))) 78 133 true).run Tryz.prog w = .ok (.tuple #[.pointer none, .bool false]) w)
  have a134 := fun (w : World) => (by kernel_rfl : (Instr.typeAssert (.iface 134 (.pointer (some ⟨g, 0, none⟩))) 78 134 true).run Tryz.prog w = .ok (.tuple #[(.pointer (some ⟨g, 0, none⟩)), .bool true]) w)
  go_enter Tryz.func23, Tryz.ntmps23
  go_wp2
  go_ret
  exact ⟨rfl, rfl⟩
set_option maxRecDepth 100000 in
set_option maxHeartbeats 2000000 in
theorem name_vxlan (g : Nat) (w : World) : Calls Tryz.prog 23 #[.iface 135 (.pointer (some ⟨g, 0, none⟩))] w fun e w' => e = .returned (.string (Nm.str .vxlan)) ∧ w = w' := by
  have a125 := fun (w : World) => (by kernel_rfl : (Instr.typeAssert (.iface 135 (.pointer (some ⟨g, 0, none⟩))) 78 125 true).run Tryz.prog w = .ok (.tuple #[.pointer none, .bool false]) w)
  have a126 := fun (w : World) => (by kernel_rfl : (Instr.typeAssert (.iface 135 (.pointer (some ⟨g, 0, none⟩))) 78 126 true).run Tryz.prog w = .ok (.tuple #[.pointer none, .bool false]) w)
  have a127 := fun (w : World) => (by kernel_rfl : (Instr.typeAssert (.iface 135 (.pointer (some ⟨g, 0, none⟩))) 78 127 true).run Tryz.prog w = .ok (.tuple #[.pointer none, .bool false]) w)
  have a128 := fun (w : World) => (by kernel_rfl : (Instr.typeAssert (.iface 135 (.pointer (some ⟨g, 0, none⟩))) 78 128 true).run Tryz.prog w = .ok (.tuple #[.pointer none, .bool false]) w)
  have a129 := fun (w : World) => (by kernel_rfl : (Instr.typeAssert (.iface 135 (.pointer (some ⟨g, 0, none⟩))) 78 129 true).run Tryz.prog w = .ok (.tuple #[.pointer none, .bool false]) w)
  have a130 := fun (w : World) => (by kernel_rfl : (Instr.typeAssert (.iface 135 (.pointer (some ⟨g, 0, none⟩))) 78 130 true).run Tryz.prog w = .ok (.tuple #[.pointer none, .bool false]) w)
  have a131 := fun (w : World) => (by kernel_rfl : (Instr.typeAssert (.iface 135 (.pointer (some ⟨g, 0, none⟩))) 78 131 true).run Tryz.prog w = .ok (.tuple #[.pointer none, .bool false]) w)
  have a132 := fun (w : World) => (by kernel_rfl : (Instr.typeAssert (.iface 135 (.pointer (some ⟨g, 0, none⟩))) 78 132 true).run Tryz.prog w = .ok (.tuple #[.pointer none, .bool false]) w)
  have a133 := fun (w : World) => (by kernel_rfl : (Instr.typeAssert (.iface 135 (.pointer (some ⟨g, 0, none⟩))) 78 133 true).run Tryz.prog w = .ok (.tuple #[.pointer none, .bool false]) w)
  have a134 := fun (w : World) => (by kernel_rfl : (Instr.typeAssert (.iface 135 (.pointer (some ⟨g, 0, none⟩))) 78 134 true).run Tryz.prog w = .ok (.tuple #[.pointer none, .bool false]) w)
  have a135 := fun (w : World) => (by kernel_rfl : (Instr.typeAssert (.iface 135 (.pointer (some ⟨g, 0, none⟩))) 78 135 true).run Tryz.prog w = .ok (.tuple #[(.pointer (some ⟨g, 0, none⟩)), .bool true]) w)
  go_enter Tryz.func23, Tryz.ntmps23
  go_wp2
  go_ret
  exact ⟨rfl, rfl⟩
set_option maxRecDepth 100000 in
set_option maxHeartbeats 2000000 in
theorem namePay (v : Value) (w : World) : Calls Tryz.prog 23 #[.iface 410 v] w fun e w' => e = .returned (.string (Nm.str .pay)) ∧ w = w' := by
  have a125 := fun (w : World) => (by kernel_rfl : (Instr.typeAssert (.iface 410 v) 78 125 true).run Tryz.prog w = .ok (.tuple #[.pointer none, .bool false]) w)
  have a126 := fun (w : World) => (by kernel_rfl : (Instr.typeAssert (.iface 410 v) 78 126 true).run Tryz.prog w = .ok (.tuple #[.pointer none, .bool false]) w)
  have a127 := fun (w : World) => (by kernel_rfl : (Instr.typeAssert (.iface 410 v) 78 127 true).run Tryz.prog w = .ok (.tuple #[.pointer none, .bool false]) w)
  have a128 := fun (w : World) => (by kernel_rfl : (Instr.typeAssert (.iface 410 v) 78 128 true).run Tryz.prog w = .ok (.tuple #[.pointer none, .bool false]) w)
  have a129 := fun (w : World) => (by kernel_rfl : (Instr.typeAssert (.iface 410 v) 78 129 true).run Tryz.prog w = .ok (.tuple #[.pointer none, .bool false]) w)
  have a130 := fun (w : World) => (by kernel_rfl : (Instr.typeAssert (.iface 410 v) 78 130 true).run Tryz.prog w = .ok (.tuple #[.pointer none, .bool false]) w)
  have a131 := fun (w : World) => (by kernel_rfl : (Instr.typeAssert (.iface 410 v) 78 131 true).run Tryz.prog w = .ok (.tuple #[.pointer none, .bool false]) w)
  have a132 := fun (w : World) => (by kernel_rfl : (Instr.typeAssert (.iface 410 v) 78 132 true).run Tryz.prog w = .ok (.tuple #[.pointer none, .bool false]) w)
  have a133 := fun (w : World) => (by kernel_rfl : (Instr.typeAssert (.iface 410 v) 78 133 true).run Tryz.prog w = .ok (.tuple #[.pointer none, .bool false]) w)
  have a134 := fun (w : World) => (by kernel_rfl : (Instr.typeAssert (.iface 410 v) 78 134 true).run Tryz.prog w = .ok (.tuple #[.pointer none, .bool false]) w)
  have a135 := fun (w : World) => (by kernel_rfl : (Instr.typeAssert (.iface 410 v) 78 135 true).run Tryz.prog w = .ok (.tuple #[.pointer none, .bool false]) w)
  go_enter Tryz.func23, Tryz.ntmps23
  go_wp2
  go_ret
  exact ⟨rfl, rfl⟩
theorem nameOf {T S : TypeId} {nm : Nm} (hK : Kind T S nm) (g : Nat) (w : World) : Calls Tryz.prog 23 #[.iface T (.pointer (some ⟨g, 0, none⟩))] w fun e w' => e = .returned (.string nm.str) ∧ w = w' := by
  cases hK
  · exact name_eth g w
  · exact name_vlan g w
  · exact name_arp g w
  · exact name_ip4 g w
  · exact name_ip6 g w
  · exact name_tcp g w
  · exact name_udp g w
  · exact name_icmp g w
  · exact name_icmp6 g w
  · exact name_gre g w
  · exact name_vxlan g w
end Go.Proofs.YtecgkcofmphaiaaGreatDoor.Gpk
namespace Go.Proofs.YtecgkcofmphaiaaGreatDoor.Gpk
open Go.RowKit
theorem Tryz.info5 : (Tryz.prog.info? 5).map (fun i => (i.zero, i.size, i.bytes)) = some (some (.int .u8 0), 1, 1) := by kernel_rfl
theorem run_append_empty (w : World) (ty : TypeId) (b : Nat) (a : Option Addr) (c : Nat) : (Builtin.append_ #[22, 22] ty #[.slice (some ⟨b, 0, none⟩) 0 0, .slice a 0 c]).run Tryz.prog w = .ok (.slice (some ⟨b, 0, none⟩) 0 0) w := by
  obtain ⟨i0, hi0, hz0, hz1, hz2⟩ := info_parts Tryz.info5
  cases a <;> simp [Builtin.append_, run_underlying Tryz.underlying22, sizeOf, typeInfo, hi0, Builtin.lenOf, Builtin.firstCells, storeCells, loadCells, loadCellsFrom]
theorem wpList_append_empty {w : World} {ops : Array Oper} {rest : List Oper} {o : Oper} {a : Act} {Q : Exit → Act → World → Prop} (hgd : o.guard = none) (s x : Operand)
    (ho : o.op = .call { callee := .builtin .append, args := #[s, x], argTypes := #[22, 22] }) (b : Nat) (ad : Option Addr) (c : Nat) (hs : a.eval s = .slice (some ⟨b, 0, none⟩) 0 0) (hx : a.eval x = .slice ad 0 c)
    (h : wpList Tryz.prog ops Q rest (a.put o.dst (.slice (some ⟨b, 0, none⟩) 0 0)) w) : wpList Tryz.prog ops Q (o :: rest) a w := by
  refine wpList_plain hgd fun K hK => ?_
  have hrun := run_append_empty w o.type b ad c
  unfold Oper.wp
  simp [execOp, ho, resolve, invoke, builtin, hs, hx, hrun, Result.andThen]
  exact hK _ _ h
set_option maxRecDepth 100000 in
set_option maxHeartbeats 1000000 in
theorem copied (u : Value) (f : Nat → Nat) (n : Nat) (w : World) (hu : Bts w u f n) (hn : n ≤ 1000000) : Calls Tryz.prog 22 #[u] w fun e w' => ∃ v, e = .returned v ∧ Got w' v f n ∧ Below w.heap.size w w' := by
  obtain ⟨a, c, rfl, h1, h2, h3⟩ := hu
  obtain ⟨i0, hi0, hz0, hz1, hz2⟩ := info_parts Tryz.info5
  have hown0 : (w.alloc (.cells #[] 5)).ownsRow w.heap.size 5 1 (.slice (some ⟨w.heap.size, 0, none⟩) 0 0) 0 [] :=
    ⟨rfl, .inr ⟨_, 0, #[], rfl, Nat.le_refl _, heap_alloc_new w _, Nat.le_refl _, by unfold maxLen; omega, rfl, rfl⟩⟩
  have hb0 : Below w.heap.size w (w.alloc (.cells #[] 5)) := (Below.refl _ _).alloc (Nat.le_refl _) _
  by_cases h0 : n = 0
  · subst h0
    have hfin : ∃ v, Ending.returned (.slice (some ⟨w.heap.size, 0, none⟩) 0 0) = .returned v ∧ Got (w.alloc (.cells #[] 5)) v f 0 ∧ Below w.heap.size w (w.alloc (.cells #[] 5)) :=
      ⟨_, rfl, ⟨w.heap.size, 0, #[], (0, 0), rfl, Nat.le_refl _, by unfold maxLen; omega, heap_alloc_new w _, fun i hi => by omega⟩, hb0⟩
    go_enter Tryz.func22, Tryz.ntmps22
    go_wp2_with (at_builtin; refine wpList_append_empty rfl (.tmp 3) (.tmp 4) rfl w.heap.size a c rfl rfl ?_)
    go_wp2
    go_ret
    exact hfin
  · obtain ⟨D, q, rfl, hB⟩ := h3.resolve_left h0
    have hlen : ((List.range n).map fun i => Value.int .u8 (f i : Nat)).length = n * 1 := by simp
    go_enter Tryz.func22, Tryz.ntmps22
    go_wp2_with (at_builtin; (refine wpList_append_lies _ rfl (.tmp 3) (.tmp 4) 22 rfl w.heap.size 5 i0 (.int .u8 0) 1 1 Tryz.underlying22 hi0 hz0 hz1 hz2 rfl (by decide) _ 0 [] rfl hown0 ⟨D, q, none⟩ n c ((List.range n).map fun i => Value.int .u8 (f i : Nat)) rfl hlen ?c1 ?c2 ?c0 ?c3 ?c4 ?c5 _ rfl ?_))
    case c1 =>
      intro j u hu
      have hj : j < n := by
        have := (List.getElem?_eq_some_iff.1 hu).1
        simpa using this
      have hadd : (⟨D, q, none⟩ : Addr).add j = ⟨D, q + j, none⟩ := by unfold Addr.add; split <;> simp_all
      rw [hadd, byt_past hB j hj]
      simpa [hj] using hu
    case c2 => intro u hu; simp at hu; obtain ⟨i, _, rfl⟩ := hu; rfl
    case c0 => omega
    case c3 => unfold maxLen; simp; omega
    case c4 => simp; omega
    case c5 => simp
    · intro g cap w1 hown hgrow hat hlt
      have HO := Lib.hid hown
      have HG := Lib.hid hgrow
      clear hown hgrow hat hlt
      go_wp2
      go_ret
      obtain ⟨hl, ⟨_, h⟩ | ⟨g', cap', cur, he, hb, hc, hk, hm, hs, ht⟩⟩ := HO.out
      · omega
      · injection he with e1 e2 e3
        injection e1 with e1
        injection e1 with e1
        subst e1
        refine ⟨_, rfl, ⟨g, cap, cur, (0, 0), by simp, by omega, by omega, hc, fun i hi => ?_⟩, hb0.grown HG.out (by simp) (fun k hk => by simp [Value.ownBlock] at hk; omega)⟩
        have e : (cur.toList.take ((0 + n) * 1))[i]? = some (.int .u8 (f i : Nat)) := by
          rw [Nat.zero_add, ht]
          simp [hi]
        rw [List.getElem?_take] at e
        split at e
        · simpa using e
        · cases e
end Go.Proofs.YtecgkcofmphaiaaGreatDoor.Gpk
namespace Go.Proofs.YtecgkcofmphaiaaGreatDoor.Gpk
open Go.RowKit
set_option linter.unusedVariables false
theorem Tryz.info69 : (Tryz.prog.info? 69).map (fun i => (i.zero, i.size, i.bytes)) = some (some (.agg #[.string ⟨#[]⟩, .slice none 0 0, .slice none 0 0]), 3, 64) := by kernel_rfl
def natW : Value → Nat | .int _ n => n.toNat | _ => 0
theorem Win.bts' {w : World} {D n : Nat} {f : Nat → Nat} {N : Nat} {v : Value} {p : Nat} (hB : Byt w D 0 f N) (hw : Win D v p n) (hN : n = 0 ∨ p + n ≤ N) : Bts w v (fun i => f (p + i)) n := by
  obtain ⟨a, c, rfl, h1, h2, h3⟩ := hw
  refine ⟨a, c, rfl, h1, h2, ?_⟩
  by_cases h0 : n = 0
  · exact .inl h0
  · refine .inr ⟨D, p, h3 (by omega), fun i hi => ?_⟩
    have := hB (p + i) (by omega)
    rw [Nat.zero_add] at this
    exact this
theorem ownMono {w : World} {base base' : Nat} {e : TypeId} {size n : Nat} {v : Value} {xs : List Value} (h : w.ownsRow base e size v n xs) (hb : base' ≤ base) : w.ownsRow base' e size v n xs := by
  refine ⟨h.1, ?_⟩
  rcases h.2 with h2 | ⟨g, cap, cur, h1, h2, h3⟩
  · exact .inl h2
  · exact .inr ⟨g, cap, cur, h1, by omega, h3⟩
theorem row_ne {w : World} {base : Nat} {e : TypeId} {size n : Nat} {v : Value} {xs : List Value} (h : w.ownsRow base e size v n xs) {b : Nat} {cs : Array Value} {T : TypeId} {fr : Nat × Nat} (hb : w.heap[b]? = some (.cells cs T fr)) (hT : T ≠ e) : some b ≠ v.ownBlock := by
  intro he
  rcases h.2 with ⟨rfl, _⟩ | ⟨g, cap, cur, rfl, _, hc, _⟩
  · simp [Value.ownBlock] at he
  · simp [Value.ownBlock] at he
    subst he
    rw [hb] at hc
    simp at hc
    exact hT hc.2.1
/-- Bytes that lie ahead of a row's growth lie there behind it. -/
theorem keepGrown {w4 w5 : World} {ob : Obj} {base n : Nat} {v : Value} {xs : List Value} (h : w4.ownsRow base 69 3 v n xs) (hg : (w4.alloc ob).grownBy w5 v.ownBlock) : ∀ (b : Nat) (cs : Array Value) (fr : Nat × Nat), w4.heap[b]? = some (Obj.cells cs 5 fr) → w5.heap[b]? = some (Obj.cells cs 5 fr) := by
  intro b cs fr hb
  have h1 : (w4.alloc ob).heap[b]? = some (.cells cs 5 fr) := (heap_alloc_old w4 ob (lt_of_heap hb)).trans hb
  exact (hg.block b (lt_of_heap h1) (row_ne h hb (by decide))).trans h1
/-- What the taking apart leaves. -/
def Aparts (f : Nat → Nat) (ps : List Piece) (w : World) (e : Ending) (w' : World) : Prop :=
  ∃ V xs ls, e = .returned V ∧ Below w.heap.size w w' ∧ w'.ownsRow w.heap.size 69 3 V ls.length xs ∧ ls.length ≤ 13 ∧ Pref ls ps ∧ RowOf (PartOf w' f) xs ls
set_option maxRecDepth 100000 in
set_option maxHeartbeats 4000000 in
theorem implApart (n : Nat) (u : Value) (f : Nat → Nat) (ps : List Piece) (w : World) (hu : Bts w u f n) (hf : IsB f) (hch : Chain f 0 .eth n ps) (hlen : ps.length ≤ 12) (hn : n ≤ 1000000) : Calls Tryz.prog 13 #[u] w (Aparts f ps w) := by
  obtain ⟨i0, hi0, hz0, hz1, hz2⟩ := info_parts Tryz.info69
  go_enter Tryz.func13, Tryz.ntmps13
  go_wp2_with fail
  refine (copied u f n w hu hn).mono ?_
  rintro e w1 ⟨v, rfl, ⟨D, c, cs, fr, rfl, hnc, hcm, hD, hby⟩, hb1⟩
  have HB1 := Lib.hid hb1
  clear hb1
  go_wp2_with fail
  refine (decodeAll n c D cs fr f ps w1 hD hby hnc hcm hch hlen hf).mono ?_
  rintro e w2 ⟨V, b, v, ls, rfl, hb2, hp, hl, hown, hok, hD2⟩
  have hB2 : Byt w2 D 0 f n := fun i hi => by rw [cell_of_row w2 D (0 + i) cs 5 fr hD2, Nat.zero_add]; exact hby i hi
  have hDlt := lt_of_heap hD2
  have HB2 := Lib.hid hb2
  have HO := Lib.hid hown
  have HOK := Lib.hid hok
  clear hb2 hown hok hD hD2 hby
  obtain ⟨al, cl, rfl⟩ : ∃ a c, V = .slice a ls.length c := by
    rcases HO.out.2 with ⟨rfl, h0⟩ | ⟨g, cap, cur, rfl, _⟩
    · exact ⟨none, 0, by rw [h0]⟩
    · exact ⟨_, _, rfl⟩
  have hls : ls.length ≤ 13 := by omega
  go_wp2_with fail
  go_loopw [6, 19] (fun t6 t19 wr => ∃ (i : Nat) (xs : List Value), t19 = .int .i64 (i : Nat) ∧ i ≤ ls.length ∧ Hid (Below w2.heap.size w2 wr) ∧ Hid (wr.ownsRow w2.heap.size 69 3 t6 i xs) ∧ Hid (RowOf (PartOf wr f) xs (ls.take i))) (fun _ t19 _ => ls.length - natW t19)
  case atStart => exact ⟨0, [], rfl, Nat.zero_le _, Lib.hid ((Below.refl _ _).alloc (Nat.le_refl _) _), Lib.hid ⟨rfl, .inr ⟨_, 0, #[], rfl, Nat.le_refl _, heap_alloc_new w2 _, Nat.le_refl _, by unfold maxLen; omega, rfl, rfl⟩⟩, Lib.hid (RowOf.nil _)⟩
  case round =>
    obtain ⟨i, xs, rfl, hi, HB, HR, HX⟩ := hrel
    by_cases hlt : i < ls.length
    · have n1 : (i : Int) < (ls.length : Int) := by omega
      have n3 : (0 : Int) ≤ (i : Int) := by omega
      have n4 : ((i : Int)).toNat = i := by omega
      have n5 : IntKind.i64.wrap ((i : Int) + 1) = (i : Int) + 1 := by rw [IntKind.wrap_i64]; omega
      obtain ⟨g, cap, hV, _, hgl⟩ := HO.out.form (by omega)
      injection hV with hV1 hV2 hV3
      subst hV1 hV3
      have hadd : ∀ g j, (⟨g, 0, none⟩ : Addr).add j = ⟨g, j, none⟩ := fun g j => by unfold Addr.add; split <;> simp_all
      have e0 : wr.cell? ⟨g, i, none⟩ = some ls[i].v := by
        have := HO.out.cells (g := g) rfl i ls[i].v (by simp [List.getElem?_eq_getElem hlt])
        rw [hadd] at this
        exact (HB.out.cell (p := ⟨g, i, none⟩) hgl).trans this
      have hok := HOK.out ls[i] (List.getElem_mem hlt)
      have hsz := HB.out.size
      obtain ⟨l, hl_, hle⟩ : ∃ l, l = ls[i] ∧ ls[i]? = some l := ⟨_, rfl, List.getElem?_eq_getElem hlt⟩
      rw [← hl_] at e0 hok
      have htk : ls.take (i + 1) = ls.take i ++ [l] := by rw [List.take_add_one, hle]; rfl
      have HTK := Lib.hid htk
      clear htk hle hl_
      have HBy := Lib.hid (hB2.below (B := w2.heap.size) HB.out hDlt)
      obtain ⟨hin1, hin2, hcase⟩ := hok
      rcases hcase with ⟨Tp, T, gl, cl, hK, hv, hgc, ⟨v0, hv0, hw0⟩, ⟨v1, hv1, hw1⟩⟩ | ⟨vp, hv, hnm, hpn, hwp⟩
      · rw [hv] at e0
        have hm := fun (fuel : Nat) (w : World) => methCont hK fuel gl w
        have hm2 := fun (fuel : Nat) (w : World) => methPay hK fuel gl w
        have hgr : wr.heap[gl]? = some (.cells cl T (0, 0)) := (HB.out.block gl (lt_of_heap hgc)).trans hgc
        have HC0 := Lib.hid (hw0.bts' HBy.out hin1)
        have HC1 := Lib.hid (hw1.bts' HBy.out hin2)
        obtain ⟨a0, k0, rfl, _⟩ := hw0
        obtain ⟨a1, k1, rfl, _⟩ := hw1
        have x0 : wr.cell? ⟨gl, 0, none⟩ = some (.slice a0 l.cn k0) := (cell_of_row wr gl 0 cl T (0, 0) hgr).trans hv0
        have x1 : wr.cell? ⟨gl, 1, none⟩ = some (.slice a1 l.pn k1) := (cell_of_row wr gl 1 cl T (0, 0) hgr).trans hv1
        have hgl2 := lt_of_heap hgr
        go_wp2_with fail
        refine (nameOf hK gl wr).mono ?_
        rintro e w' ⟨rfl, rfl⟩
        go_wp2_with fail
        refine (layerContents gl a0 l.cn k0 wr x0).mono ?_
        rintro e w' ⟨rfl, rfl⟩
        go_wp2_with fail
        refine (copied _ _ l.cn wr HC0.out (by omega)).mono ?_
        rintro e w3 ⟨u1, rfl, hg1, hb3⟩
        obtain ⟨b1, c1, rfl⟩ : ∃ b c, u1 = .slice (some ⟨b, 0, none⟩) l.cn c := by obtain ⟨b, c, _, _, h, _⟩ := hg1; exact ⟨b, c, h⟩
        have HG1 := Lib.hid hg1
        have HB3 := Lib.hid hb3
        clear hg1 hb3
        have x3 : w3.cell? ⟨gl, 1, none⟩ = some (.slice a1 l.pn k1) := (HB3.out.cell (p := ⟨gl, 1, none⟩) hgl2).trans x1
        go_wp2_with fail
        refine (layerPayload gl a1 l.pn k1 w3 x3).mono ?_
        rintro e w' ⟨rfl, rfl⟩
        go_wp2_with fail
        refine (copied _ _ l.pn w3 (HC1.out.below HB3.out) (by omega)).mono ?_
        rintro e w4 ⟨u2, rfl, hg2, hb4⟩
        obtain ⟨b2, c2, rfl⟩ : ∃ b c, u2 = .slice (some ⟨b, 0, none⟩) l.pn c := by obtain ⟨b, c, _, _, h, _⟩ := hg2; exact ⟨b, c, h⟩
        have HG2 := Lib.hid hg2
        have HB4 := Lib.hid hb4
        clear hg2 hb4
        have HR4 := Lib.hid (ownBelow (ownBelow HR.out HB3.out) HB4.out)
        go_wp2_with (at_builtin; (refine wpList_append_lies _ rfl (.tmp 23) (.tmp 33) 32 rfl w2.heap.size 69 i0 (.agg #[.string ⟨#[]⟩, .slice none 0 0, .slice none 0 0]) 3 64 Tryz.underlying32 hi0 hz0 hz1 hz2 rfl (by decide) _ i xs rfl (HR4.out.alloc _) ⟨w4.heap.size, 0, none⟩ 1 1 [.string l.nm.str, .slice (some ⟨b1, 0, none⟩) l.cn c1, .slice (some ⟨b2, 0, none⟩) l.pn c2] rfl rfl ?c1 ?c2 (by decide) ?c3 ?c4 ?c5 _ rfl ?_))
        case c1 => exact World.news_of_block (heap_alloc_new w4 _)
        case c2 => intro u hu; simp at hu; rcases hu with rfl | rfl | rfl <;> rfl
        case c3 => unfold maxLen; omega
        case c4 => omega
        case c5 => have := HB.out.size; have := HB3.out.size; have := HB4.out.size; simp; omega
        intro g5 cap5 w5 hown5 hgrow hat hlt5
        have HK5 := Lib.hid (keepGrown HR4.out hgrow)
        have HO5 := Lib.hid hown5
        have hszs : w2.heap.size ≤ w4.heap.size := by have := HB.out.size; have := HB3.out.size; have := HB4.out.size; omega
        have HB5 := Lib.hid ((((HB.out.trans (HB3.out.mono HB.out.size)).trans (HB4.out.mono (by have := HB.out.size; have := HB3.out.size; omega))).alloc hszs _).grown hgrow (by simp; omega) (fun k hk => (HR4.out.lt k hk).1))
        clear hown5 hgrow hat hlt5
        go_wp2_with fail
        go_roundw
        case rel =>
          refine ⟨i + 1, _, rfl, by omega, HB5, HO5, Lib.hid ?_⟩
          rw [HTK.out]
          refine (HX.out.imp (fun p _ s a b h => h.keep (fun b cs fr hb => HK5.out b cs fr ((HB4.out.block b (lt_of_heap ((HB3.out.block b (lt_of_heap hb)).trans hb))).trans ((HB3.out.block b (lt_of_heap hb)).trans hb))))).snoc l _ _ _ ⟨rfl, ?_, ?_⟩
          · exact (HG1.out.below HB4.out).keep HK5.out
          · exact HG2.out.keep HK5.out
        case measure => simp [natW]; omega
      · rw [hv] at e0
        have HC0 := Lib.hid (hwp.bts' HBy.out hin1)
        have HC1 : Hid (Bts wr (.slice none 0 0) (fun i => f (l.pq + i)) 0) := Lib.hid ⟨none, 0, rfl, Nat.le_refl _, Nat.zero_le _, .inl rfl⟩
        obtain ⟨a0, k0, rfl, _⟩ := hwp
        have HPZ := Lib.hid hpn
        have HNM := Lib.hid hnm
        have hsn : Nm.pay.str = l.nm.str := by rw [hnm]
        go_wp2_with fail
        refine (namePay _ wr).mono ?_
        rintro e w' ⟨rfl, rfl⟩
        rw [hsn]
        go_wp2_with fail
        refine (payContents a0 l.cn k0 wr).mono ?_
        rintro e w' ⟨rfl, rfl⟩
        go_wp2_with fail
        refine (copied _ _ l.cn wr HC0.out (by omega)).mono ?_
        rintro e w3 ⟨u1, rfl, hg1, hb3⟩
        obtain ⟨b1, c1, rfl⟩ : ∃ b c, u1 = .slice (some ⟨b, 0, none⟩) l.cn c := by obtain ⟨b, c, _, _, h, _⟩ := hg1; exact ⟨b, c, h⟩
        have HG1 := Lib.hid hg1
        have HB3 := Lib.hid hb3
        clear hg1 hb3
        go_wp2_with fail
        refine (payPayload a0 l.cn k0 w3).mono ?_
        rintro e w' ⟨rfl, rfl⟩
        go_wp2_with fail
        refine (copied _ _ 0 w3 (HC1.out.below HB3.out) (by omega)).mono ?_
        rintro e w4 ⟨u2, rfl, hg2, hb4⟩
        obtain ⟨b2, c2, rfl⟩ : ∃ b c, u2 = .slice (some ⟨b, 0, none⟩) 0 c := by obtain ⟨b, c, _, _, h, _⟩ := hg2; exact ⟨b, c, h⟩
        have HG2 := Lib.hid hg2
        have HB4 := Lib.hid hb4
        clear hg2 hb4
        have HR4 := Lib.hid (ownBelow (ownBelow HR.out HB3.out) HB4.out)
        go_wp2_with (at_builtin; (refine wpList_append_lies _ rfl (.tmp 23) (.tmp 33) 32 rfl w2.heap.size 69 i0 (.agg #[.string ⟨#[]⟩, .slice none 0 0, .slice none 0 0]) 3 64 Tryz.underlying32 hi0 hz0 hz1 hz2 rfl (by decide) _ i xs rfl (HR4.out.alloc _) ⟨w4.heap.size, 0, none⟩ 1 1 [.string l.nm.str, .slice (some ⟨b1, 0, none⟩) l.cn c1, .slice (some ⟨b2, 0, none⟩) 0 c2] rfl rfl ?c1 ?c2 (by decide) ?c3 ?c4 ?c5 _ rfl ?_))
        case c1 => exact World.news_of_block (heap_alloc_new w4 _)
        case c2 => intro u hu; simp at hu; rcases hu with rfl | rfl | rfl <;> rfl
        case c3 => unfold maxLen; omega
        case c4 => omega
        case c5 => have := HB.out.size; have := HB3.out.size; have := HB4.out.size; simp; omega
        intro g5 cap5 w5 hown5 hgrow hat hlt5
        have HK5 := Lib.hid (keepGrown HR4.out hgrow)
        have HO5 := Lib.hid hown5
        have hszs : w2.heap.size ≤ w4.heap.size := by have := HB.out.size; have := HB3.out.size; have := HB4.out.size; omega
        have HB5 := Lib.hid ((((HB.out.trans (HB3.out.mono HB.out.size)).trans (HB4.out.mono (by have := HB.out.size; have := HB3.out.size; omega))).alloc hszs _).grown hgrow (by simp; omega) (fun k hk => (HR4.out.lt k hk).1))
        clear hown5 hgrow hat hlt5
        go_wp2_with fail
        go_roundw
        case rel =>
          refine ⟨i + 1, _, rfl, by omega, HB5, HO5, Lib.hid ?_⟩
          rw [HTK.out]
          refine (HX.out.imp (fun p _ s a b h => h.keep (fun b cs fr hb => HK5.out b cs fr ((HB4.out.block b (lt_of_heap ((HB3.out.block b (lt_of_heap hb)).trans hb))).trans ((HB3.out.block b (lt_of_heap hb)).trans hb))))).snoc l _ _ _ ⟨rfl, ?_, ?_⟩
          · exact (HG1.out.below HB4.out).keep HK5.out
          · exact HPZ.out ▸ HG2.out.keep HK5.out
        case measure => simp [natW]; omega
    · have n1 : ¬ ((i : Int) < (ls.length : Int)) := by omega
      have hie : i = ls.length := by omega
      subst hie
      go_wp2
      go_ret
      exact ⟨_, xs, ls, rfl, (HB1.out.trans (HB2.out.mono HB1.out.size)).trans (HB.out.mono (by have := HB1.out.size; have := HB2.out.size; omega)), ownMono HR.out (by have := HB1.out.size; have := HB2.out.size; omega), hls, hp, by have := HX.out; rwa [List.take_length] at this⟩
end Go.Proofs.YtecgkcofmphaiaaGreatDoor.Gpk
namespace Go.Proofs.YtecgkcofmphaiaaGreatDoor.Gpk
open Go.RowKit
theorem i64_u8 (x : Nat) (h : x < 256) : IntKind.i64.wrap (x : Int) = x := by rw [IntKind.wrap_i64]; omega
theorem i64_hi (x : Nat) (h : x < 256) : IntKind.i64.wrap ((x : Int) * 256) = (x : Int) * 256 := by rw [IntKind.wrap_i64]; omega
theorem or64 (x y : Nat) (hx : x < 256) (hy : y < 256) : bits .or .i64 ((x : Int) * 256) (y : Int) = ((x * 256 + y : Nat) : Int) := by
  have e : ((x : Int) * 256) = ((x * 256 : Nat) : Int) := by omega
  have hx : x * 256 ||| y < 2 ^ 63 := Nat.or_lt_two_pow (by omega) (by omega)
  rw [e, ← nat_join 8 (x * 256) y (by omega) (by omega)]
  show IntKind.i64.wrap ((BitVec.ofInt 64 ((x * 256 : Nat) : Int) ||| BitVec.ofInt 64 (y : Int)).toNat : Int) = _
  have e1 : ∀ a : Nat, a < 2 ^ 63 → (BitVec.ofInt 64 (a : Int)).toNat = a := by
    intro a ha
    rw [BitVec.ofInt_natCast, BitVec.toNat_ofNat]
    exact Nat.mod_eq_of_lt (by omega)
  rw [BitVec.toNat_or, e1 _ (by omega), e1 _ (by omega), IntKind.wrap_i64]
  omega
set_option maxRecDepth 100000 in
set_option maxHeartbeats 1000000 in
theorem shortAt (D q n c : Nat) (f : Nat → Nat) (i : Nat) (hi : i + 1 < n) (hn : n ≤ maxLen) (w : World) (hB : Byt w D q f n) (hf : IsB f) :
    Calls Tryz.prog 81 #[.slice (some ⟨D, q, none⟩) n c, .int .i64 (i : Nat)] w fun e w' => e = .returned (.int .i64 (be f i : Nat)) ∧ ∃ k, w' = w.drewN k := by
  have d0 := hB i (by omega)
  have d1 : w.cell? ⟨D, q + (i + 1), none⟩ = some (.int .u8 (f (i + 1) : Nat)) := hB (i + 1) hi
  have b0 := hf i
  have b1 := hf (i + 1)
  unfold maxLen at hn
  have e0 := i64_u8 (f i) b0
  have e8 := i64_u8 (f (i + 1)) b1
  have e9 := i64_hi (f i) b0
  have e1 : IntKind.i64.wrap ((i : Int) + 1) = (i : Int) + 1 := by rw [IntKind.wrap_i64]; omega
  have e2 : (0 : Int) ≤ (i : Int) := by omega
  have e3 : (i : Int) < n := by omega
  have e4 : (0 : Int) ≤ (i : Int) + 1 := by omega
  have e5 : (i : Int) + 1 < n := by omega
  have e6 : ((i : Int)).toNat = i := by omega
  have e7 : ((i : Int) + 1).toNat = i + 1 := by omega
  go_enter Tryz.func81, Tryz.ntmps81
  go_wp2
  go_quiet (fail)
  go_wp2
  go_ret
  refine ⟨?_, _, rfl⟩
  unfold be
  rw [← or64 (f i) (f (i + 1)) b0 b1]
  rfl
theorem taken (s e : Nat) (nx : Nm) (w : World) : Calls Tryz.prog 66 #[.int .i64 s, .int .i64 e, .string nx.str] w fun x w' => x = .returned (.tuple #[.agg #[.int .i64 s, .int .i64 e, .string nx.str, .bool false], .bool true]) ∧ Below w.heap.size w w' := by
  go_enter Tryz.func66, Tryz.ntmps66
  go_wp2
  refine bodyPost_ret (v := .tuple #[.agg #[.int .i64 s, .int .i64 e, .string nx.str, .bool false], .bool true]) (by simp [results, Tryz.f66, go_sem]) rfl ⟨rfl, ?_⟩
  exact (Below.refl _ _).alloc (Nat.le_refl _) _
theorem short9 (w : World) : Calls Tryz.prog 65 #[] w fun x w' => x = .returned (.tuple #[.agg #[.int .i64 0, .int .i64 0, .string ⟨#[]⟩, .bool false], .bool false]) ∧ Below w.heap.size w w' := by
  go_enter Tryz.func65, Tryz.ntmps65
  go_wp2
  refine bodyPost_ret (v := .tuple #[.agg #[.int .i64 0, .int .i64 0, .string ⟨#[]⟩, .bool false], .bool false]) (by simp [results, Tryz.f65, go_sem]) rfl ⟨rfl, ?_⟩
  exact (Below.refl _ _).alloc (Nat.le_refl _) _
theorem left9 (w : World) : Calls Tryz.prog 70 #[] w fun x w' => x = .returned (.tuple #[.agg #[.int .i64 0, .int .i64 0, .string ⟨#[]⟩, .bool true], .bool false]) ∧ Below w.heap.size w w' := by
  go_enter Tryz.func70, Tryz.ntmps70
  go_wp2
  refine bodyPost_ret (v := .tuple #[.agg #[.int .i64 0, .int .i64 0, .string ⟨#[]⟩, .bool true], .bool false]) (by simp [results, Tryz.f70, go_sem]) rfl ⟨rfl, ?_⟩
  exact (Below.refl _ _).alloc (Nat.le_refl _) _
theorem byType_ (x : Nat) (w : World) : Calls Tryz.prog 82 #[.int .i64 x] w fun e w' => e = .returned (.string (byType x).str) ∧ w = w' := by
  unfold byType
  by_cases h0 : x = 2048
  · subst h0
    rw [if_pos rfl]
    go_enter Tryz.func82, Tryz.ntmps82
    go_wp2
    go_ret
    exact ⟨rfl, rfl⟩
  by_cases h1 : x = 2054
  · subst h1
    rw [if_neg (by decide), if_pos rfl]
    go_enter Tryz.func82, Tryz.ntmps82
    go_wp2
    go_ret
    exact ⟨rfl, rfl⟩
  by_cases h2 : x = 33024
  · subst h2
    rw [if_neg (by decide), if_neg (by decide), if_pos rfl]
    go_enter Tryz.func82, Tryz.ntmps82
    go_wp2
    go_ret
    exact ⟨rfl, rfl⟩
  by_cases h3 : x = 34525
  · subst h3
    rw [if_neg (by decide), if_neg (by decide), if_neg (by decide), if_pos rfl]
    go_enter Tryz.func82, Tryz.ntmps82
    go_wp2
    go_ret
    exact ⟨rfl, rfl⟩
  rw [if_neg h0, if_neg h1, if_neg h2, if_neg h3]
  have g0 : ((x : Int) == 2048) = false := by simp; omega
  clear h0
  have g1 : ((x : Int) == 2054) = false := by simp; omega
  clear h1
  have g2 : ((x : Int) == 33024) = false := by simp; omega
  clear h2
  have g3 : ((x : Int) == 34525) = false := by simp; omega
  clear h3
  go_enter Tryz.func82, Tryz.ntmps82
  go_wp2
  go_ret
  exact ⟨rfl, rfl⟩
theorem byProtocol_false (x : Nat) (w : World) : Calls Tryz.prog 84 #[.int .i64 x, .bool false] w fun e w' => e = .returned (.string (byProto x false).str) ∧ w = w' := by
  unfold byProto
  by_cases h0 : x = 1
  · subst h0
    rw [if_pos rfl]
    go_enter Tryz.func84, Tryz.ntmps84
    go_wp2
    go_ret
    exact ⟨rfl, rfl⟩
  by_cases h1 : x = 4
  · subst h1
    rw [if_neg (by decide), if_pos rfl]
    go_enter Tryz.func84, Tryz.ntmps84
    go_wp2
    go_ret
    exact ⟨rfl, rfl⟩
  by_cases h2 : x = 6
  · subst h2
    rw [if_neg (by decide), if_neg (by decide), if_pos rfl]
    go_enter Tryz.func84, Tryz.ntmps84
    go_wp2
    go_ret
    exact ⟨rfl, rfl⟩
  by_cases h3 : x = 17
  · subst h3
    rw [if_neg (by decide), if_neg (by decide), if_neg (by decide), if_pos rfl]
    go_enter Tryz.func84, Tryz.ntmps84
    go_wp2
    go_ret
    exact ⟨rfl, rfl⟩
  by_cases h4 : x = 41
  · subst h4
    rw [if_neg (by decide), if_neg (by decide), if_neg (by decide), if_neg (by decide), if_pos rfl]
    go_enter Tryz.func84, Tryz.ntmps84
    go_wp2
    go_ret
    exact ⟨rfl, rfl⟩
  by_cases h5 : x = 47
  · subst h5
    rw [if_neg (by decide), if_neg (by decide), if_neg (by decide), if_neg (by decide), if_neg (by decide), if_pos rfl]
    go_enter Tryz.func84, Tryz.ntmps84
    go_wp2
    go_ret
    exact ⟨rfl, rfl⟩
  by_cases h6 : x = 58
  · subst h6
    rw [if_neg (by decide), if_neg (by decide), if_neg (by decide), if_neg (by decide), if_neg (by decide), if_neg (by decide), if_pos rfl]
    go_enter Tryz.func84, Tryz.ntmps84
    go_wp2
    go_ret
    exact ⟨rfl, rfl⟩
  rw [if_neg h0, if_neg h1, if_neg h2, if_neg h3, if_neg h4, if_neg h5, if_neg h6]
  have g0 : ((x : Int) == 1) = false := by simp; omega
  clear h0
  have g1 : ((x : Int) == 4) = false := by simp; omega
  clear h1
  have g2 : ((x : Int) == 6) = false := by simp; omega
  clear h2
  have g3 : ((x : Int) == 17) = false := by simp; omega
  clear h3
  have g4 : ((x : Int) == 41) = false := by simp; omega
  clear h4
  have g5 : ((x : Int) == 47) = false := by simp; omega
  clear h5
  have g6 : ((x : Int) == 58) = false := by simp; omega
  clear h6
  go_enter Tryz.func84, Tryz.ntmps84
  go_wp2
  go_ret
  exact ⟨rfl, rfl⟩
theorem byProtocol_true (x : Nat) (w : World) : Calls Tryz.prog 84 #[.int .i64 x, .bool true] w fun e w' => e = .returned (.string (byProto x true).str) ∧ w = w' := by
  unfold byProto
  by_cases h0 : x = 1
  · subst h0
    rw [if_pos rfl]
    go_enter Tryz.func84, Tryz.ntmps84
    go_wp2
    go_ret
    exact ⟨rfl, rfl⟩
  by_cases h1 : x = 4
  · subst h1
    rw [if_neg (by decide), if_pos rfl]
    go_enter Tryz.func84, Tryz.ntmps84
    go_wp2
    go_ret
    exact ⟨rfl, rfl⟩
  by_cases h2 : x = 6
  · subst h2
    rw [if_neg (by decide), if_neg (by decide), if_pos rfl]
    go_enter Tryz.func84, Tryz.ntmps84
    go_wp2
    go_ret
    exact ⟨rfl, rfl⟩
  by_cases h3 : x = 17
  · subst h3
    rw [if_neg (by decide), if_neg (by decide), if_neg (by decide), if_pos rfl]
    go_enter Tryz.func84, Tryz.ntmps84
    go_wp2
    go_ret
    exact ⟨rfl, rfl⟩
  by_cases h4 : x = 41
  · subst h4
    rw [if_neg (by decide), if_neg (by decide), if_neg (by decide), if_neg (by decide), if_pos rfl]
    go_enter Tryz.func84, Tryz.ntmps84
    go_wp2
    go_ret
    exact ⟨rfl, rfl⟩
  by_cases h5 : x = 47
  · subst h5
    rw [if_neg (by decide), if_neg (by decide), if_neg (by decide), if_neg (by decide), if_neg (by decide), if_pos rfl]
    go_enter Tryz.func84, Tryz.ntmps84
    go_wp2
    go_ret
    exact ⟨rfl, rfl⟩
  by_cases h6 : x = 58
  · subst h6
    rw [if_neg (by decide), if_neg (by decide), if_neg (by decide), if_neg (by decide), if_neg (by decide), if_neg (by decide), if_pos rfl]
    go_enter Tryz.func84, Tryz.ntmps84
    go_wp2
    go_ret
    exact ⟨rfl, rfl⟩
  rw [if_neg h0, if_neg h1, if_neg h2, if_neg h3, if_neg h4, if_neg h5, if_neg h6]
  have g0 : ((x : Int) == 1) = false := by simp; omega
  clear h0
  have g1 : ((x : Int) == 4) = false := by simp; omega
  clear h1
  have g2 : ((x : Int) == 6) = false := by simp; omega
  clear h2
  have g3 : ((x : Int) == 17) = false := by simp; omega
  clear h3
  have g4 : ((x : Int) == 41) = false := by simp; omega
  clear h4
  have g5 : ((x : Int) == 47) = false := by simp; omega
  clear h5
  have g6 : ((x : Int) == 58) = false := by simp; omega
  clear h6
  go_enter Tryz.func84, Tryz.ntmps84
  go_wp2
  go_ret
  exact ⟨rfl, rfl⟩
theorem byProtocol_ (x : Nat) (b : Bool) (w : World) : Calls Tryz.prog 84 #[.int .i64 x, .bool b] w fun e w' => e = .returned (.string (byProto x b).str) ∧ w = w' := by
  cases b
  · exact byProtocol_false x w
  · exact byProtocol_true x w
set_option maxRecDepth 100000 in
theorem isFree_ (x : Nat) (hx : x < 65536) (w : World) : Calls Tryz.prog 117 #[.int .i64 x] w fun e w' => e = .returned (.bool (isFree x)) ∧ w = w' := by
  unfold isFree
  by_cases h : 50000 ≤ x
  · have g1 : (x : Int) ≤ 65535 := by omega
    have g2 : (50000 : Int) ≤ x := by omega
    go_enter Tryz.func117, Tryz.ntmps117
    go_wp2
    go_ret
    exact ⟨by simp [h]; try omega, rfl⟩
  · have g2 : ((x : Int) < 50000) = True := eq_true (by omega)
    have g3 : ((50000 : Int) ≤ x) = False := eq_false (by omega)
    go_enter Tryz.func117, Tryz.ntmps117
    go_wp2
    go_ret
    exact ⟨by simp [h]; try omega, rfl⟩
set_option maxRecDepth 100000 in
theorem free_ (s d : Nat) (hs : s < 65536) (hd : d < 65536) (w : World) : Calls Tryz.prog 85 #[.int .i64 s, .int .i64 d] w fun e w' => e = .returned (.string (freeOf s d).str) ∧ w = w' := by
  unfold freeOf
  by_cases h : 50000 ≤ s
  · by_cases h2 : 50000 ≤ d
    · rw [if_pos ⟨h, h2⟩]
      have g1 : isFree s = true := by simp [isFree, h]
      have g2 : isFree d = true := by simp [isFree, h2]
      go_enter Tryz.func85, Tryz.ntmps85
      go_wp2_with fail
      refine (isFree_ s hs _).mono ?_
      rintro e w' ⟨rfl, rfl⟩
      rw [g1]
      go_wp2_with fail
      refine (isFree_ d hd _).mono ?_
      rintro e w' ⟨rfl, rfl⟩
      rw [g2]
      go_wp2
      go_ret
      exact ⟨rfl, rfl⟩
    · rw [if_neg (fun x => h2 x.2)]
      have g1 : isFree s = true := by simp [isFree, h]
      have g2 : isFree d = false := by simp [isFree]; omega
      go_enter Tryz.func85, Tryz.ntmps85
      go_wp2_with fail
      refine (isFree_ s hs _).mono ?_
      rintro e w' ⟨rfl, rfl⟩
      rw [g1]
      go_wp2_with fail
      refine (isFree_ d hd _).mono ?_
      rintro e w' ⟨rfl, rfl⟩
      rw [g2]
      go_wp2
      go_ret
      exact ⟨rfl, rfl⟩
  · rw [if_neg (fun x => h x.1)]
    have g1 : isFree s = false := by simp [isFree]; omega
    go_enter Tryz.func85, Tryz.ntmps85
    go_wp2_with fail
    refine (isFree_ s hs _).mono ?_
    rintro e w' ⟨rfl, rfl⟩
    rw [g1]
    go_wp2
    go_ret
    exact ⟨rfl, rfl⟩
end Go.Proofs.YtecgkcofmphaiaaGreatDoor.Gpk
