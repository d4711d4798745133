/- From a layer that was added to what follows it, along a chain.
   A layer's block while its decoder goes on: new blocks, stores, rows that grow.
   What tells of the next layer: the types of frames, the protocols, the ports.
   The decoder of frames.
   Frames, with what follows them.
   The decoder of tags.
   Tags, with what follows them. -/
import Derived.Test.YtecgkcofmphaiaaGreatDoorA01
import Derived.Test.YtecgkcofmphaiaaGreatDoorA00
namespace Go.Proofs.YtecgkcofmphaiaaGreatDoor.Gpk
open Go.RowKit

/-- Which function decodes a layer of a name. -/
def fnOf : Nm → Nat
  | .eth => 89 | .vlan => 88 | .arp => 87 | .ip4 => 92 | .ip6 => 93 | .tcp => 99 | .udp => 100 | .icmp => 91 | .icmp6 => 106 | .gre => 90 | .vxlan => 108
  | .pay => 0 | .nothing => 0 | .none => 0
def decodable : Nm → Bool
  | .pay => false | .nothing => false | .none => false | _ => true

/-- The layer is the piece. -/
def Fits (l : Lay) (p : Piece) : Prop := l.nm = p.nm ∧ l.cq = p.at_ ∧ l.cn = p.size ∧ l.pq = p.at_ + p.size ∧ l.pn = p.fin - p.size
/-- The layers begin with the pieces. -/
def Pref : List Lay → List Piece → Prop
  | _, [] => True
  | [], _ :: _ => False
  | l :: ls, p :: ps => Fits l p ∧ Pref ls ps

/-- What a decoder leaves: the layers so far, then those of the chain, and at most one more. -/
def DecR (F : Fix) (ls : List Lay) (ps : List Piece) (w' : World) : Prop := ∃ ls', Inv F w' (ls ++ ls') ∧ Pref ls' ps ∧ ls'.length ≤ ps.length + 1
theorem DecR.cons {F : Fix} {ls : List Lay} {l : Lay} {p : Piece} {ps : List Piece} {w' : World} (h : DecR F (ls ++ [l]) ps w') (hf : Fits l p) : DecR F ls (p :: ps) w' := by
  obtain ⟨ls', h1, h2, h3⟩ := h
  exact ⟨l :: ls', by simpa using h1, ⟨hf, h2⟩, by simp; omega⟩

/-- A decoder does its part on n bytes from p on. -/
def DecOK (F : Fix) (fn p n : Nat) (ps : List Piece) : Prop :=
  ∀ (c : Nat) (w : World) (ls : List Lay), n ≤ c → c ≤ maxLen → Inv F w ls → ls.length + ps.length ≤ 20 →
    Calls Tryz.prog fn #[.slice (some ⟨F.D, p, none⟩) n c, .iface 122 (.pointer (some ⟨F.bp, 0, none⟩))] w fun e w' => ∃ v, e = .returned v ∧ DecR F ls ps w'

/-- The value that tells of the next layer. -/
inductive NextIs : Value → Nm → Prop
  | arp : NextIs (.iface 75 (.int .i64 10)) .arp
  | vlan : NextIs (.iface 75 (.int .i64 15)) .vlan
  | eth : NextIs (.iface 75 (.int .i64 17)) .eth
  | gre : NextIs (.iface 75 (.int .i64 18)) .gre
  | icmp : NextIs (.iface 75 (.int .i64 19)) .icmp
  | ip4 : NextIs (.iface 75 (.int .i64 20)) .ip4
  | ip6 : NextIs (.iface 75 (.int .i64 21)) .ip6
  | tcp : NextIs (.iface 75 (.int .i64 44)) .tcp
  | udp : NextIs (.iface 75 (.int .i64 45)) .udp
  | icmp6 : NextIs (.iface 75 (.int .i64 57)) .icmp6
  | vxlan : NextIs (.iface 75 (.int .i64 116)) .vxlan
  | pay : NextIs (.iface 75 (.int .i64 2)) .pay
  | nothing : NextIs (.iface 75 (.int .i64 2)) .nothing
  | tip4 : NextIs (.iface 160 (.int .u16 2048)) .ip4
  | tarp : NextIs (.iface 160 (.int .u16 2054)) .arp
  | tvlan : NextIs (.iface 160 (.int .u16 33024)) .vlan
  | tip6 : NextIs (.iface 160 (.int .u16 34525)) .ip6
  | link : NextIs (.iface 158 (.int .u8 1)) .eth

theorem chain_nil {g : Nat → Nat} {p : Nat} {nm : Nm} {ps : List Piece} (h : Chain g p nm 0 ps) : ps = [] := by
  cases h with
  | stop => rfl
  | short _ _ _ hn => omega
  | take _ _ _ _ _ _ _ hn => omega
theorem chain_nothing {g : Nat → Nat} {p n : Nat} {ps : List Piece} (h : Chain g p .nothing n ps) : ps = [] := by
  cases h with
  | stop => rfl
  | short _ _ _ hn h => exact h.elim
  | take _ _ _ _ _ _ _ hn h => exact h.elim
theorem chain_none {g : Nat → Nat} {p n : Nat} {ps : List Piece} (h : Chain g p .none n ps) : n = 0 ∧ ps = [] := by
  cases h with
  | stop _ _ _ h => exact ⟨by simpa using h, rfl⟩
  | short _ _ _ hn h => exact h.elim
  | take _ _ _ _ _ _ _ hn h => exact h.elim
theorem chain_pay {g : Nat → Nat} {p n : Nat} {ps : List Piece} (h : Chain g p .pay n ps) : (n = 0 ∧ ps = []) ∨ (0 < n ∧ ps = [{ nm := .pay, at_ := p, size := n, fin := n }]) := by
  cases h with
  | stop _ _ _ h => exact .inl ⟨by simpa using h, rfl⟩
  | short _ _ _ hn h => exact h.elim
  | take _ _ _ s e nx ps hn h r =>
    obtain ⟨rfl, rfl, rfl⟩ := h
    right
    have := chain_nothing r
    subst this
    exact ⟨hn, rfl⟩

/-- The parts of the invariant that the next step reads. -/
theorem Inv.reads {F : Fix} {w : World} {ls : List Lay} {l : Lay} (h : Inv F w (ls ++ [l])) : ∃ rb vc tr, w.heap[F.bp]? = some (.cells #[.slice (some ⟨rb, 0, none⟩) (ls.length + 1) vc, .bool tr, .bool true] 124 (0, 0)) ∧ w.cell? ⟨rb, ls.length, none⟩ = some l.v := by
  obtain ⟨_, _, ⟨v, tr, h3, h4⟩, _⟩ := h
  have hlen : (ls ++ [l]).length = ls.length + 1 := by simp
  rw [hlen] at h4
  rcases h4.2 with ⟨_, h0⟩ | ⟨g, cap, cur, rfl, hg, hh, hn, hc, hs, ht⟩
  · omega
  · refine ⟨g, cap, tr, h3, ?_⟩
    have := World.ownsRow.cells h4 (g := g) rfl ls.length l.v (by simp)
    have hadd : (⟨g, 0, none⟩ : Addr).add ls.length = ⟨g, ls.length, none⟩ := by unfold Addr.add; split <;> simp_all
    rw [hadd] at this
    exact this

set_option maxHeartbeats 1000000 in
theorem nextStep {F : Fix} (hF : F.ok) {w : World} {ls : List Lay} {l : Lay} (hI : Inv F w (ls ++ [l])) {T S : TypeId} {nmL : Nm} (hK : Kind T S nmL) (b : Nat) (cs : Array Value) (hv : l.v = .iface T (.pointer (some ⟨b, 0, none⟩)))
    (hb : w.heap[b]? = some (.cells cs S (0, 0))) (vp : Value) (hp : cs[1]? = some vp) (p n : Nat) (hw : Win F.D vp p n) (hL : n = 0 ∨ p + n ≤ F.L) (next : Value) (nx : Nm) (ps : List Piece) (hc : Chain F.g p nx n ps)
    (hN : n = 0 ∨ NextIs next nx) (hlen : ls.length + 1 + ps.length ≤ 20) (ih : decodable nx = true → 0 < n → DecOK F (fnOf nx) p n ps) (k : Nat) :
    Calls Tryz.prog 186 #[.pointer (some ⟨F.bp, 0, none⟩), next] (w.drewN k) fun e w' => ∃ v, e = .returned v ∧ DecR F (ls ++ [l]) ps w' := by
  obtain ⟨rb, vc, tr, h3, h4⟩ := hI.reads
  rw [hv] at h4
  obtain ⟨a, c, rfl, hnc, hcm, ha⟩ := hw
  have e0 : (w.drewN k).cell? ⟨F.bp, 0, none⟩ = some (.slice (some ⟨rb, 0, none⟩) (ls.length + 1) vc) := (cell_of_row w F.bp 0 _ 124 (0, 0) h3).trans rfl
  have e2 : (w.drewN k).cell? ⟨F.bp, 2, none⟩ = some (.bool true) := (cell_of_row w F.bp 2 _ 124 (0, 0) h3).trans rfl
  have e3 : (w.drewN k).cell? ⟨rb, ls.length, none⟩ = some (.iface T (.pointer (some ⟨b, 0, none⟩))) := h4
  have e4 : (w.drewN k).cell? ⟨b, 1, none⟩ = some (.slice a n c) := (cell_of_row w b 1 cs S (0, 0) hb).trans hp
  have hI' := hI.drewN k
  by_cases hn : n = 0
  · subst hn
    obtain rfl := chain_nil hc
    refine (ndEmpty F.bp rb ls.length vc b T S nmL hK a 0 c (by omega) next (w.drewN k) (by omega) e0 e2 e3 e4).mono ?_
    rintro e w' ⟨rfl, m, rfl⟩
    exact ⟨_, rfl, [], by simpa using hI'.drewN m, trivial, by simp⟩
  · have hpos : 0 < n := by omega
    have hL' : p + n ≤ F.L := by omega
    obtain rfl := ha hpos
    have hN' := hN.resolve_left hn
    have hA : ∀ m, Calls Tryz.prog 185 #[.pointer (some ⟨F.bp, 0, none⟩), .iface 410 (.slice (some ⟨F.D, p, none⟩) n c)] ((w.drewN k).drewN m) fun e w' => e = .returned (.tuple #[]) ∧ Added F ((w.drewN k).drewN m) (ls ++ [l] ++ [{ v := .iface 410 (.slice (some ⟨F.D, p, none⟩) n c), nm := .pay, cq := p, cn := n, pq := p + n, pn := 0 }]) w' := fun m =>
      addLayer hF (hI'.drewN m) (by simp; omega) { v := .iface 410 (.slice (some ⟨F.D, p, none⟩) n c), nm := .pay, cq := p, cn := n, pq := p + n, pn := 0 }
        ⟨.inr hL', .inl rfl, .inr ⟨_, rfl, rfl, rfl, _, c, rfl, hnc, hcm, fun _ => rfl⟩⟩ 410 _ rfl
    have hD : ∀ fn, fn = fnOf nx → decodable nx = true → ∀ m, Calls Tryz.prog fn #[.slice (some ⟨F.D, p, none⟩) n c, .iface 122 (.pointer (some ⟨F.bp, 0, none⟩))] ((w.drewN k).drewN m) fun e w' => ∃ v, e = .returned v ∧ DecR F (ls ++ [l]) ps w' := by
      rintro fn rfl hd m
      exact ih hd hpos c _ (ls ++ [l]) hnc hcm (hI'.drewN m) (by simp; omega)
    cases hN' with
    | arp => exact ndLt10 F.bp rb ls.length vc b T S nmL hK _ n c hpos _ (w.drewN k) (by omega) e0 e2 e3 e4 (hD _ rfl rfl)
    | vlan => exact ndLt15 F.bp rb ls.length vc b T S nmL hK _ n c hpos _ (w.drewN k) (by omega) e0 e2 e3 e4 (hD _ rfl rfl)
    | eth => exact ndLt17 F.bp rb ls.length vc b T S nmL hK _ n c hpos _ (w.drewN k) (by omega) e0 e2 e3 e4 (hD _ rfl rfl)
    | gre => exact ndLt18 F.bp rb ls.length vc b T S nmL hK _ n c hpos _ (w.drewN k) (by omega) e0 e2 e3 e4 (hD _ rfl rfl)
    | icmp => exact ndLt19 F.bp rb ls.length vc b T S nmL hK _ n c hpos _ (w.drewN k) (by omega) e0 e2 e3 e4 (hD _ rfl rfl)
    | ip4 => exact ndLt20 F.bp rb ls.length vc b T S nmL hK _ n c hpos _ (w.drewN k) (by omega) e0 e2 e3 e4 (hD _ rfl rfl)
    | ip6 => exact ndLt21 F.bp rb ls.length vc b T S nmL hK _ n c hpos _ (w.drewN k) (by omega) e0 e2 e3 e4 (hD _ rfl rfl)
    | tcp => exact ndLt44 F.bp rb ls.length vc b T S nmL hK _ n c hpos _ (w.drewN k) (by omega) e0 e2 e3 e4 (hD _ rfl rfl)
    | udp => exact ndLt45 F.bp rb ls.length vc b T S nmL hK _ n c hpos _ (w.drewN k) (by omega) e0 e2 e3 e4 (hD _ rfl rfl)
    | icmp6 => exact ndLt57 F.bp rb ls.length vc b T S nmL hK _ n c hpos _ (w.drewN k) (by omega) e0 e2 e3 e4 (hD _ rfl rfl)
    | vxlan => exact ndLt116 F.bp rb ls.length vc b T S nmL hK _ n c hpos _ (w.drewN k) (by omega) e0 e2 e3 e4 (hD _ rfl rfl)
    | tip4 => exact ndTy2048 F.bp rb ls.length vc b T S nmL hK _ n c hpos _ (w.drewN k) (by omega) e0 e2 e3 e4 (hD _ rfl rfl)
    | tarp => exact ndTy2054 F.bp rb ls.length vc b T S nmL hK _ n c hpos _ (w.drewN k) (by omega) e0 e2 e3 e4 (hD _ rfl rfl)
    | tvlan => exact ndTy33024 F.bp rb ls.length vc b T S nmL hK _ n c hpos _ (w.drewN k) (by omega) e0 e2 e3 e4 (hD _ rfl rfl)
    | tip6 => exact ndTy34525 F.bp rb ls.length vc b T S nmL hK _ n c hpos _ (w.drewN k) (by omega) e0 e2 e3 e4 (hD _ rfl rfl)
    | link => exact ndTy1 F.bp rb ls.length vc b T S nmL hK _ n c hpos _ (w.drewN k) (by omega) e0 e2 e3 e4 (hD _ rfl rfl)
    | pay =>
      rcases chain_pay hc with ⟨h0, _⟩ | ⟨_, rfl⟩
      · omega
      · refine ndPay F.bp rb ls.length vc b T S nmL hK _ n c hpos _ (w.drewN k) (by omega) e0 e2 e3 e4 (fun m => (hA m).mono ?_)
        rintro e w' ⟨rfl, h⟩
        exact ⟨rfl, [_], h.1, ⟨⟨rfl, rfl, rfl, rfl, by simp⟩, trivial⟩, by simp⟩
    | nothing =>
      obtain rfl := chain_nothing hc
      refine ndPay F.bp rb ls.length vc b T S nmL hK _ n c hpos _ (w.drewN k) (by omega) e0 e2 e3 e4 (fun m => (hA m).mono ?_)
      rintro e w' ⟨rfl, h⟩
      exact ⟨rfl, [_], h.1, trivial, by simp⟩
theorem nextStep0 {F : Fix} (hF : F.ok) {w : World} {ls : List Lay} {l : Lay} (hI : Inv F w (ls ++ [l])) {T S : TypeId} {nmL : Nm} (hK : Kind T S nmL) (b : Nat) (cs : Array Value) (hv : l.v = .iface T (.pointer (some ⟨b, 0, none⟩)))
    (hb : w.heap[b]? = some (.cells cs S (0, 0))) (vp : Value) (hp : cs[1]? = some vp) (p n : Nat) (hw : Win F.D vp p n) (hL : n = 0 ∨ p + n ≤ F.L) (next : Value) (nx : Nm) (ps : List Piece) (hc : Chain F.g p nx n ps)
    (hN : n = 0 ∨ NextIs next nx) (hlen : ls.length + 1 + ps.length ≤ 20) (ih : decodable nx = true → 0 < n → DecOK F (fnOf nx) p n ps) :
    Calls Tryz.prog 186 #[.pointer (some ⟨F.bp, 0, none⟩), next] w fun e w' => ∃ v, e = .returned v ∧ DecR F (ls ++ [l]) ps w' :=
  nextStep hF hI hK b cs hv hb vp hp p n hw hL next nx ps hc hN hlen ih 0
end Go.Proofs.YtecgkcofmphaiaaGreatDoor.Gpk
namespace Go.Proofs.YtecgkcofmphaiaaGreatDoor.Gpk
open Go.RowKit
section
variable {w wr : World} {T : TypeId} {P : Array Value → Prop}
theorem Laid.lt (h : Laid w wr T P) : w.heap.size < wr.heap.size := by
  obtain ⟨_, cs, hc, _⟩ := h
  exact lt_of_heap hc
theorem Laid.alloc (h : Laid w wr T P) (o : Obj) : Laid w (wr.alloc o) T P := by
  have hlt := h.lt
  obtain ⟨hb, cs, hc, hp⟩ := h
  exact ⟨hb.alloc (by omega) o, cs, (heap_alloc_old wr o hlt).trans hc, hp⟩
theorem Laid.drewN (h : Laid w wr T P) (k : Nat) : Laid w (wr.drewN k) T P := ⟨below_drewN h.1 k, h.2⟩
theorem Laid.set (h : Laid w wr T P) (i : Nat) (v : Value) (hP : ∀ cs, P cs → P (cs.setIfInBounds i v)) : Laid w (wr.setCell ⟨w.heap.size, i, none⟩ v) T P := by
  obtain ⟨hb, cs, hc, hp⟩ := h
  exact ⟨hb.setCell (Nat.le_refl _) v, _, heap_set hc v, hP cs hp⟩
theorem Laid.far (h : Laid w wr T P) (a : Addr) (v : Value) (ha : w.heap.size < a.block) : Laid w (wr.setCell a v) T P := by
  obtain ⟨hb, cs, hc, hp⟩ := h
  exact ⟨hb.setCell (by omega) v, cs, (heap_far (by omega) v).trans hc, hp⟩
theorem Laid.grown {w1 : World} {row : Option Nat} (h : Laid w wr T P) (hg : wr.grownBy w1 row) (hr : ∀ k, row = some k → w.heap.size < k) : Laid w w1 T P := by
  have hlt := h.lt
  obtain ⟨hb, cs, hc, hp⟩ := h
  refine ⟨hb.grown hg (by omega) (fun k hk => by have := hr k hk; omega), cs, ?_, hp⟩
  rw [hg.block _ hlt (fun e => by have := hr _ e.symm; omega)]
  exact hc
theorem Laid.unfrozen (h : Laid w wr T P) (i : Nat) : wr.frozen? ⟨w.heap.size, i, none⟩ = false := by
  obtain ⟨_, cs, hc, _⟩ := h
  exact Gpk.unfrozen hc
theorem Laid.cell (h : Laid w wr T P) (i N : Nat) (hi : i < N) (hP : ∀ cs, P cs → cs.size = N) : ∃ u, wr.cell? ⟨w.heap.size, i, none⟩ = some u := by
  obtain ⟨_, cs, hc, hp⟩ := h
  have := hP cs hp
  exact ⟨cs[i], by rw [cell_of_row wr _ i cs T (0, 0) hc]; simp [show i < cs.size by omega]⟩
theorem Laid.same {w1 : World} (h : Laid w wr T P) (hg : ∀ cs, wr.heap[w.heap.size]? = some (.cells cs T (0, 0)) → w1.heap[w.heap.size]? = some (.cells cs T (0, 0))) (i : Nat) : w1.cell? ⟨w.heap.size, i, none⟩ = wr.cell? ⟨w.heap.size, i, none⟩ := by
  obtain ⟨_, cs, hc, _⟩ := h
  rw [cell_of_row w1 _ i cs T (0, 0) (hg cs hc), cell_of_row wr _ i cs T (0, 0) hc]
theorem Laid.imp {Q : Array Value → Prop} (h : Laid w wr T P) (hPQ : ∀ cs, P cs → Q cs) : Laid w wr T Q := by
  obtain ⟨hb, cs, hc, hp⟩ := h
  exact ⟨hb, cs, hc, hPQ cs hp⟩
end
theorem Hdr.set {D q s m N : Nat} {cs : Array Value} (h : Hdr D q s m N cs) (i : Nat) (hi : 2 ≤ i) (v : Value) : Hdr D q s m N (cs.setIfInBounds i v) := by
  obtain ⟨h1, ⟨v0, h2, h3⟩, ⟨v1, h4, h5⟩⟩ := h
  refine ⟨by simp [h1], ⟨v0, ?_, h3⟩, ⟨v1, ?_, h5⟩⟩
  · rw [Array.getElem?_setIfInBounds_ne (by omega)]; exact h2
  · rw [Array.getElem?_setIfInBounds_ne (by omega)]; exact h4
theorem Hdr2.set {D q s m N a b : Nat} {u t : Value} {cs : Array Value} (h : Hdr2 D q s m N a u b t cs) (i : Nat) (hi : 2 ≤ i) (ha : i ≠ a) (hb : i ≠ b) (v : Value) : Hdr2 D q s m N a u b t (cs.setIfInBounds i v) := by
  refine ⟨h.1.set i hi v, ?_, ?_⟩
  · rw [Array.getElem?_setIfInBounds_ne ha]; exact h.2.1
  · rw [Array.getElem?_setIfInBounds_ne hb]; exact h.2.2
theorem ownLt {b n c k g : Nat} (h : (Value.slice (some ⟨b, 0, none⟩) n c).ownBlock = some k) (hg : g < b) : g < k := by
  have : b = k := by simpa [Value.ownBlock] using h
  omega
/-- The cells of a block that was made last. -/
theorem newsLast (W : World) (cs : Array Value) (T : TypeId) (k N : Nat) (hN : W.heap.size = N) : ∀ j u, cs.toList[j]? = some u → ((W.alloc (.cells cs T)).drewN k).cell? ((⟨N, 0, none⟩ : Addr).add j) = some u := by
  subst hN
  exact World.news_of_block (w := (W.alloc (.cells cs T)).drewN k) (heap_alloc_new W _)
end Go.Proofs.YtecgkcofmphaiaaGreatDoor.Gpk
namespace Go.Proofs.YtecgkcofmphaiaaGreatDoor.Gpk
open Go.RowKit
/-- A number that tells of a layer, if that is known. -/
def Tells (nx : Nm) (w : World) (e : Ending) (w' : World) : Prop := ∃ v : Int, e = .returned (.int .i64 v) ∧ w = w' ∧ (nx = .none ∨ NextIs (.iface 75 (.int .i64 v)) nx)
theorem Tells.any {w w' : World} {e : Ending} (h : SomeI64 w e w') : Tells .none w e w' := by
  obtain ⟨v, h1, h2⟩ := h
  exact ⟨v, h1, h2, .inl rfl⟩
theorem etTells (x : Nat) (w : World) : Calls Tryz.prog 197 #[.int .u16 x] w (Tells (byType x) w) := by
  unfold byType
  split
  · rename_i h; subst h; exact (etLayer_ip4 w).mono fun e w' h => ⟨_, h.1, h.2, .inr .ip4⟩
  · split
    · rename_i h; subst h; exact (etLayer_arp w).mono fun e w' h => ⟨_, h.1, h.2, .inr .arp⟩
    · split
      · rename_i h; subst h; exact (etLayer_vlan w).mono fun e w' h => ⟨_, h.1, h.2, .inr .vlan⟩
      · split
        · rename_i h; subst h; exact (etLayer_ip6 w).mono fun e w' h => ⟨_, h.1, h.2, .inr .ip6⟩
        · exact (etLayer_any x w).mono fun e w' h => .any h
theorem greTells (x : Nat) (w : World) : Calls Tryz.prog 197 #[.int .u16 x] w (Tells (greNext x) w) := by
  unfold greNext
  split
  · rename_i h; subst h; exact (etLayer_eth w).mono fun e w' h => ⟨_, h.1, h.2, .inr .eth⟩
  · split
    · rename_i h; subst h; exact (etLayer_ip4 w).mono fun e w' h => ⟨_, h.1, h.2, .inr .ip4⟩
    · split
      · rename_i h; subst h; exact (etLayer_ip6 w).mono fun e w' h => ⟨_, h.1, h.2, .inr .ip6⟩
      · exact (etLayer_any x w).mono fun e w' h => .any h
theorem prTells (x : Nat) (sixth : Bool) (w : World) : Calls Tryz.prog 142 #[.int .u8 x] w (Tells (byProto x sixth) w) := by
  unfold byProto
  split
  · rename_i h; subst h
    cases sixth
    · exact (prLayer_1 w).mono fun e w' h => ⟨_, h.1, h.2, .inr .icmp⟩
    · exact (prLayer_any 1 w).mono fun e w' h => .any h
  · split
    · rename_i h; subst h; exact (prLayer_4 w).mono fun e w' h => ⟨_, h.1, h.2, .inr .ip4⟩
    · split
      · rename_i h; subst h; exact (prLayer_6 w).mono fun e w' h => ⟨_, h.1, h.2, .inr .tcp⟩
      · split
        · rename_i h; subst h; exact (prLayer_17 w).mono fun e w' h => ⟨_, h.1, h.2, .inr .udp⟩
        · split
          · rename_i h; subst h; exact (prLayer_41 w).mono fun e w' h => ⟨_, h.1, h.2, .inr .ip6⟩
          · split
            · rename_i h; subst h; exact (prLayer_47 w).mono fun e w' h => ⟨_, h.1, h.2, .inr .gre⟩
            · split
              · rename_i h; subst h
                cases sixth
                · exact (prLayer_any 58 w).mono fun e w' h => .any h
                · exact (prLayer_58 w).mono fun e w' h => ⟨_, h.1, h.2, .inr .icmp6⟩
              · exact (prLayer_any x w).mono fun e w' h => .any h

/-- The end of a chain where nothing is known of what follows. -/
theorem told {g : Nat → Nat} {p n : Nat} {nx : Nm} {ps : List Piece} {v : Value} (r : Chain g p nx n ps) (h : nx = .none ∨ NextIs v nx) : n = 0 ∨ NextIs v nx := by
  rcases h with h | h
  · subst h; exact .inl (chain_none r).1
  · exact .inr h
/-- Where the number is zero nothing follows. -/
theorem told0 {F : Fix} {w : World} {ls : List Lay} {p n : Nat} {nx : Nm} {ps : List Piece} (hI : Inv F w ls) (r : Chain F.g p nx n ps) (h : nx = .none ∨ NextIs (.iface 75 (.int .i64 0)) nx) : DecR F ls ps w := by
  rcases h with h | h
  · subst h
    obtain ⟨_, rfl⟩ := chain_none r
    exact ⟨[], by simpa using hI, trivial, by simp⟩
  · cases h
theorem layOK {F : Fix} {w w1 : World} {T Tp : TypeId} {nm : Nm} (hK : Kind Tp T nm) {q s m N : Nat} {P : Array Value → Prop} (h : Laid w w1 T P) (hP : ∀ cs, P cs → Hdr F.D q s m N cs) (h1 : s = 0 ∨ q + s ≤ F.L) (h2 : m = 0 ∨ q + s + m ≤ F.L) :
    Lay.ok F.D F.L w1 { v := .iface Tp (.pointer (some ⟨w.heap.size, 0, none⟩)), nm := nm, cq := q, cn := s, pq := q + s, pn := m } := by
  obtain ⟨_, cs, hc, hp⟩ := h
  have H := hP cs hp
  exact ⟨h1, h2, .inl ⟨Tp, T, w.heap.size, cs, hK, rfl, hc, H.c0, H.c1⟩⟩
theorem Laid.inv {F : Fix} {w w1 : World} {ls : List Lay} {T : TypeId} {P : Array Value → Prop} (h : Laid w w1 T P) (hI : Inv F w ls) : Inv F w1 ls := hI.step h.1
/-- The layer's block and its two cells, in a later world. -/
theorem Laid.later {w w1 w2 : World} {T : TypeId} {P : Array Value → Prop} {D q s m N : Nat} (h : Laid w w1 T P) (hP : ∀ cs, P cs → Hdr D q s m N cs) (hk : Keep w1 w2) (h1 : T ≠ 124) (h2 : T ≠ 78) :
    ∃ cs v, w2.heap[w.heap.size]? = some (.cells cs T (0, 0)) ∧ P cs ∧ cs[1]? = some v ∧ Win D v (q + s) m := by
  obtain ⟨_, cs, hc, hp⟩ := h
  obtain ⟨v, hv, hw⟩ := (hP cs hp).c1
  exact ⟨cs, v, hk.block _ _ _ _ hc h1 h2, hp, hv, hw⟩
theorem nextOfType {x : Nat} {nx : Nm} (hx : nx = byType x) {g : Nat → Nat} {p n : Nat} {ps : List Piece} (r : Chain g p nx n ps) : n = 0 ∨ NextIs (.iface 160 (.int .u16 (x : Nat))) nx := by
  subst hx
  unfold byType at r ⊢
  split
  · rename_i h; subst h; exact .inr .tip4
  · split
    · rename_i h; subst h; exact .inr .tarp
    · split
      · rename_i h; subst h; exact .inr .tvlan
      · split
        · rename_i h; subst h; exact .inr .tip6
        · rename_i h1 h2 h3 h4
          rw [if_neg h1, if_neg h2, if_neg h3, if_neg h4] at r
          exact .inl (chain_none r).1
theorem nilND (a : Addr) (w : World) : (nilAhead 563 122 (.pointer (some a)) "NextDecoder").run Tryz.prog w = .ok (some false) w := by kernel_rfl
end Go.Proofs.YtecgkcofmphaiaaGreatDoor.Gpk
namespace Go.Proofs.YtecgkcofmphaiaaGreatDoor.Gpk
open Go.RowKit
set_option maxRecDepth 100000 in
set_option maxHeartbeats 4000000 in
theorem ethD (D q n c : Nat) (f : Nat → Nat) (df : Value) (z0 z1 z2 z3 z4 z5 : Value) (w : World) (hB : Byt w D q f n) (hf : IsB f) (hc : n ≤ c) (hm : c ≤ maxLen) (hn : 14 ≤ n) (ht : 1536 ≤ f 12 * 256 + f 13) :
    Calls Tryz.prog 119 #[.pointer (some ⟨w.heap.size, 0, none⟩), .slice (some ⟨D, q, none⟩) n c, df] (w.alloc (.cells #[z0, z1, z2, z3, z4, z5] 168)) fun e w' =>
      e = .returned .nilIface ∧ Laid w w' 168 (Hdr1 D q 14 (n - 14) 6 4 (.int .u16 (f 12 * 256 + f 13 : Nat))) := by
  have hm' := hm
  unfold maxLen at hm'
  have hD := hB.lt (by omega)
  have b12 := hf 12
  have c12 := byt_past hB 12 (by omega)
  have b13 := hf 13
  have c13 := byt_past hB 13 (by omega)
  go_enter Tryz.func119, Tryz.ntmps119
  go_wp2_with fail
  refine (be16 _ _ _ (f 12) (f 13) _ b12 b13 (by first | exact c12 _ | (simp only [World.cell?_drewN]; exact c12 _)) (by first | exact c13 _ | (simp only [World.cell?_drewN]; exact c13 _))).mono ?_; rintro e w' ⟨rfl, k, rfl⟩
  go_wp2_with fail
  go_region
  go_wp2
  all_goals (go_ret; exact ⟨rfl, Laid.mk _ _ _ _ _ ⟨⟨rfl, ⟨_, rfl, _, _, rfl, by omega, by omega, fun h => by first | rfl | omega | (rw [if_neg (by omega)])⟩, ⟨_, rfl, _, _, rfl, by omega, by omega, fun h => by first | rfl | omega | (rw [if_neg (by omega)])⟩⟩, rfl⟩⟩)
end Go.Proofs.YtecgkcofmphaiaaGreatDoor.Gpk
namespace Go.Proofs.YtecgkcofmphaiaaGreatDoor.Gpk
open Go.RowKit
set_option maxRecDepth 100000 in
set_option maxHeartbeats 1000000 in
theorem decEth {F : Fix} (hF : F.ok) (p n : Nat) (hp : p + n ≤ F.L) (nx : Nm) (ps : List Piece) (t1 : 14 ≤ n) (t2 : 1536 ≤ be (fun i => F.g (p + i)) 12) (hx : nx = byType (be (fun i => F.g (p + i)) 12)) (r : Chain F.g (p + 14) nx (n - 14) ps)
    (ih : decodable nx = true → 0 < n - 14 → DecOK F (fnOf nx) (p + 14) (n - 14) ps) : DecOK F 89 p n ({ nm := .eth, at_ := p, size := 14, fin := n } :: ps) := by
  intro c w ls hc hm hI hlen
  have hlen' : ls.length + ps.length + 1 ≤ 20 := by simpa [Nat.add_assoc] using hlen
  have hB := hI.byt hF p n hp
  have hf := hF.sub p
  have HI := Lib.hid hI
  have HR := Lib.hid r
  have HX := Lib.hid hx
  have HIH := Lib.hid ih
  clear hI r ih hx
  go_enter Tryz.func89, Tryz.ntmps89
  go_wp2_with fail
  refine (ethD F.D p n c _ _ _ _ _ _ _ _ w hB hf hc hm t1 t2).mono ?_
  rintro e w1 ⟨rfl, hL⟩
  have HL := Lib.hid hL
  clear hL
  go_wp2_with fail
  refine (addLayer hF (HL.out.inv HI.out) (by omega) { v := .iface 125 (.pointer (some ⟨w.heap.size, 0, none⟩)), nm := .eth, cq := p, cn := 14, pq := p + 14, pn := n - 14 } (layOK .eth HL.out (fun _ h => h.1) (.inr (by omega)) (.inr (by omega))) 125 _ rfl).mono ?_
  rintro e w2 ⟨rfl, hA⟩
  have HA := Lib.hid hA
  clear hA
  go_wp2_with fail
  refine (setLink _ _ _).mono ?_
  rintro e w' ⟨rfl, rfl⟩
  obtain ⟨_, cs, hcs, hH⟩ := HL.out
  have hcs2 := HA.out.2.block _ _ _ _ hcs (by decide) (by decide)
  obtain ⟨v1, hv1, hW⟩ := hH.1.c1
  have c4 : w2.cell? ⟨w.heap.size, 4, none⟩ = some (.int .u16 (be (fun i => F.g (p + i)) 12 : Nat)) := (cell_of_row w2 w.heap.size 4 cs 168 (0, 0) hcs2).trans hH.2
  have HN := Lib.hid (fun k => nextStep hF HA.out.1 .eth w.heap.size cs rfl hcs2 v1 hv1 (p + 14) (n - 14) hW (.inr (by omega)) (.iface 160 (.int .u16 (be (fun i => F.g (p + i)) 12 : Nat))) _ ps HR.out (nextOfType HX.out HR.out) (by omega) HIH.out k)
  clear hcs2 hcs hH hv1 hW
  have hnil := nilND
  go_wp2_with fail
  go_region_with (go_at_call 186; refine (HN.out _).mono ?_; rintro e w' ⟨v, rfl, hD⟩)
  all_goals
    have HD := Lib.hid hD
    clear hD
    go_wp2
    go_ret
    exact ⟨_, rfl, HD.out.cons ⟨rfl, rfl, rfl, rfl, rfl⟩⟩
end Go.Proofs.YtecgkcofmphaiaaGreatDoor.Gpk
namespace Go.Proofs.YtecgkcofmphaiaaGreatDoor.Gpk
open Go.RowKit
set_option maxRecDepth 100000 in
set_option maxHeartbeats 4000000 in
theorem vlanD (D q n c : Nat) (f : Nat → Nat) (df : Value) (z0 z1 z2 z3 z4 z5 : Value) (w : World) (hB : Byt w D q f n) (hf : IsB f) (hc : n ≤ c) (hm : c ≤ maxLen) (hn : 4 ≤ n) :
    Calls Tryz.prog 199 #[.pointer (some ⟨w.heap.size, 0, none⟩), .slice (some ⟨D, q, none⟩) n c, df] (w.alloc (.cells #[z0, z1, z2, z3, z4, z5] 165)) fun e w' =>
      e = .returned .nilIface ∧ Laid w w' 165 (Hdr1 D q 4 (n - 4) 6 5 (.int .u16 (f 2 * 256 + f 3 : Nat))) := by
  have hm' := hm
  unfold maxLen at hm'
  have hD := hB.lt (by omega)
  have b0 := hf 0
  have c0 := byt_past0 hB  (by omega)
  have b1 := hf 1
  have c1 := byt_past hB 1 (by omega)
  have b2 := hf 2
  have c2 := byt_past hB 2 (by omega)
  have b3 := hf 3
  have c3 := byt_past hB 3 (by omega)
  go_enter Tryz.func199, Tryz.ntmps199
  go_wp2_with fail
  refine (be16 _ _ _ (f 0) (f 1) _ b0 b1 (by first | exact c0 _ | (simp only [World.cell?_drewN]; exact c0 _)) (by first | exact c1 _ | (simp only [World.cell?_drewN]; exact c1 _))).mono ?_; rintro e w' ⟨rfl, k, rfl⟩
  go_wp2_with fail
  refine (be16 _ _ _ (f 2) (f 3) _ b2 b3 (by first | exact c2 _ | (simp only [World.cell?_drewN]; exact c2 _)) (by first | exact c3 _ | (simp only [World.cell?_drewN]; exact c3 _))).mono ?_; rintro e w' ⟨rfl, k, rfl⟩
  go_wp2_with fail
  go_region
  go_wp2
  all_goals (go_ret; exact ⟨rfl, Laid.mk _ _ _ _ _ ⟨⟨rfl, ⟨_, rfl, _, _, rfl, by omega, by omega, fun h => by first | rfl | omega | (rw [if_neg (by omega)])⟩, ⟨_, rfl, _, _, rfl, by omega, by omega, fun h => by first | rfl | omega | (rw [if_neg (by omega)])⟩⟩, rfl⟩⟩)
end Go.Proofs.YtecgkcofmphaiaaGreatDoor.Gpk
namespace Go.Proofs.YtecgkcofmphaiaaGreatDoor.Gpk
open Go.RowKit
set_option maxRecDepth 100000 in
set_option maxHeartbeats 2000000 in
theorem decVlan {F : Fix} (hF : F.ok) (p n : Nat) (hp : p + n ≤ F.L) (nx : Nm) (ps : List Piece) (t1 : 4 ≤ n) (hx : nx = byType (be (fun i => F.g (p + i)) 2)) (r : Chain F.g (p + (4)) nx (n - (4)) ps)
    (ih : decodable nx = true → 0 < n - (4) → DecOK F (fnOf nx) (p + (4)) (n - (4)) ps) : DecOK F 88 p n ({ nm := .vlan, at_ := p, size := 4, fin := n } :: ps) := by
  intro c w ls hc hm hI hlen
  have hlen' : ls.length + ps.length + 1 ≤ 20 := by simpa [Nat.add_assoc] using hlen
  clear hlen
  have hB := hI.byt hF p n hp
  have hf := hF.sub p
  have HI := Lib.hid hI
  have HR := Lib.hid r
  have HIH := Lib.hid ih
  clear hI r ih
  have HHX := Lib.hid hx
  clear hx
  go_enter Tryz.func88, Tryz.ntmps88
  go_wp2_with (go_at_call 118; go_in)
  refine (vlanD F.D p n c _ _ _ _ _ _ _ _ w hB hf hc hm t1).mono ?_
  rintro e w1 ⟨rfl, hL⟩
  have HL := Lib.hid hL
  clear hL
  go_wp2_with fail
  refine (addLayer hF (HL.out.inv HI.out) (by omega) { v := .iface 126 (.pointer (some ⟨w.heap.size, 0, none⟩)), nm := .vlan, cq := p, cn := 4, pq := p + (4), pn := n - (4) } (layOK .vlan HL.out (fun _ h => h.1) (by omega) (by omega)) 126 _ rfl).mono ?_
  rintro e w2 ⟨rfl, hA⟩
  have HA := Lib.hid hA
  clear hA
  obtain ⟨cs, v1, hcs, hP, hv1, hW⟩ := HL.out.later (fun _ h => h.1) HA.out.2 (by decide) (by decide)
  have cx : w2.cell? ⟨w.heap.size, 5, none⟩ = some (.int .u16 (be (fun i => F.g (p + i)) 2 : Nat)) := (cell_of_row w2 w.heap.size 5 cs 165 (0, 0) hcs).trans hP.2
  clear hP
  have HCS := Lib.hid hcs
  have HV1 := Lib.hid hv1
  clear hcs hv1
  go_wp2_with (go_at_call 201; go_in)
  refine (etTells (be (fun i => F.g (p + i)) 2) _).mono ?_
  rintro e w' ⟨v, rfl, rfl, hT⟩
  have HT : Hid (nx = .none ∨ NextIs (.iface 75 (.int .i64 v)) nx) := by rw [HHX.out]; exact hT
  clear hT
  by_cases hv : v = 0
  · subst hv
    go_wp2
    go_ret
    exact ⟨_, rfl, (told0 HA.out.1 HR.out HT.out).cons ⟨rfl, rfl, rfl, rfl, rfl⟩⟩
  · have hv' : (v == 0) = false := by simpa using hv
    clear hv
    go_wp2_with fail
    refine (nextStep0 hF HA.out.1 .vlan w.heap.size cs rfl HCS.out v1 HV1.out (p + (4)) (n - (4)) hW (by omega) (.iface 75 (.int .i64 v)) nx ps HR.out (told HR.out HT.out) (by omega) HIH.out).mono ?_
    rintro e w' ⟨u, rfl, hD⟩
    have HD := Lib.hid hD
    clear hD
    go_wp2
    go_ret
    exact ⟨_, rfl, HD.out.cons ⟨rfl, rfl, rfl, rfl, rfl⟩⟩
end Go.Proofs.YtecgkcofmphaiaaGreatDoor.Gpk
