/- The plain words: names of layers; what a step of the reference tells of bytes; a chain of steps. No program stands in it.
   What holds of the world while layers are gathered: the bytes, the builder, the layers so far. No program stands in it.
   Small words for the walks: a window of bytes; contracts of the two readers of numbers; what a call leaves of the world.
   The functions of numbers alone: what follows by a type, a protocol, a port; which decoder serves a type of layers.
   The builder: a layer is added; the mark of a cut; the kinds of layers that are set and forgotten.
   The step from a layer to what follows it. -/
import Derived.Below
import Derived.WalkKit
import Derived.OwnWalk
import Derived.Deep.Draws
import Derived.Test.YtecgkcofmphaiaaGreatDoorProg
import Derived.WalkSpells
import Derived.WalkLawsBesides
import Derived.Deep.QuietTactic
import Derived.BigQuiet
import Derived.BigRegion
import Derived.StillTailTactics
import Derived.Handy
import Derived.Deep.RegionWith
import Derived.Deep.RegionHeld3
import Derived.Deep.RegionLaw
import Derived.Deep.DeepCutAuto
import Derived.Deep.LoopGhost
import Derived.ArgAppend
import Derived.Laws.AppendOwnNone
import Derived.Laws.CopyOwn
import Derived.Lib.Hide
import Derived.Laws.BitsAllLaws
import Derived.Deep.AppendLies
namespace Go.Proofs.YtecgkcofmphaiaaGreatDoor.Gpk

/-- Names of layers; 'none' where what follows is left open. -/
inductive Nm where
  | eth | vlan | arp | ip4 | ip6 | tcp | udp | icmp | icmp6 | gre | vxlan | pay | nothing | none
  deriving DecidableEq

/-- The name's letters. -/
def Nm.str : Nm → ByteArray
  | .eth => ⟨#[101, 116, 104, 101, 114, 110, 101, 116]⟩
  | .vlan => ⟨#[118, 108, 97, 110]⟩
  | .arp => ⟨#[97, 114, 112]⟩
  | .ip4 => ⟨#[105, 112, 118, 52]⟩
  | .ip6 => ⟨#[105, 112, 118, 54]⟩
  | .tcp => ⟨#[116, 99, 112]⟩
  | .udp => ⟨#[117, 100, 112]⟩
  | .icmp => ⟨#[105, 99, 109, 112]⟩
  | .icmp6 => ⟨#[105, 99, 109, 112, 54]⟩
  | .gre => ⟨#[103, 114, 101]⟩
  | .vxlan => ⟨#[118, 120, 108, 97, 110]⟩
  | .pay => ⟨#[112, 97, 121, 108, 111, 97, 100]⟩
  | .nothing => ⟨#[110, 111, 116, 104, 105, 110, 103]⟩
  | .none => ⟨#[]⟩

/-- Options that are well-formed, read from a place on. -/
inductive WF (least : Nat) (f : Nat → Nat) (len : Nat) : Nat → Prop
  | done (i : Nat) (h : len ≤ i) : WF least f len i
  | stop (i : Nat) (h : i < len) (h0 : f i = 0) : WF least f len i
  | one (i : Nat) (h : i < len) (h1 : f i = 1) (r : WF least f len (i + 1)) : WF least f len i
  | more (i : Nat) (h : i + 1 < len) (h0 : f i ≠ 0) (h1 : f i ≠ 1) (h2 : least ≤ f (i + 1)) (h3 : i + f (i + 1) ≤ len) (r : WF least f len (i + f (i + 1))) : WF least f len i

/-- The number of two bytes. -/
def be (f : Nat → Nat) (i : Nat) : Nat := f i * 256 + f (i + 1)
def byType (x : Nat) : Nm := if x = 2048 then .ip4 else if x = 2054 then .arp else if x = 33024 then .vlan else if x = 34525 then .ip6 else .none
def byProto (x : Nat) (sixth : Bool) : Nm :=
  if x = 1 then (if sixth then .none else .icmp) else if x = 4 then .ip4 else if x = 6 then .tcp else if x = 17 then .udp else if x = 41 then .ip6 else if x = 47 then .gre else if x = 58 then (if sixth then .icmp6 else .none) else .none
def isFree (x : Nat) : Bool := decide (50000 ≤ x)
def freeOf (s d : Nat) : Nm := if 50000 ≤ s ∧ 50000 ≤ d then .pay else .none

/-- What a step comes to: a header of so many bytes, where what it carries ends, and what follows; too few bytes; left open. -/
inductive Out where
  | taken (size fin : Nat) (next : Nm)
  | short
  | left

/-- How many bytes routing encapsulation has in front. -/
def greSize (x : Nat) : Nat := 4 + (if x / 128 % 2 = 1 then 4 else 0) + (if x / 32 % 2 = 1 then 4 else 0) + (if x / 16 % 2 = 1 then 4 else 0)
def greNext (x : Nat) : Nm := if x = 25944 then .eth else if x = 2048 then .ip4 else if x = 34525 then .ip6 else .none

/-- What is known where a layer was taken from n bytes. -/
def TakenOK : Nm → (Nat → Nat) → Nat → Nat → Nat → Nm → Prop
  | .eth, f, n, s, e, nx => 14 ≤ n ∧ s = 14 ∧ e = n ∧ 1536 ≤ be f 12 ∧ nx = byType (be f 12)
  | .vlan, f, n, s, e, nx => 4 ≤ n ∧ s = 4 ∧ e = n ∧ 1536 ≤ be f 2 ∧ nx = byType (be f 2)
  | .arp, f, n, s, e, nx => 8 ≤ n ∧ s = 8 + 2 * f 4 + 2 * f 5 ∧ s ≤ 255 ∧ s ≤ n ∧ e = n ∧ nx = .nothing
  | .ip4, f, n, s, e, nx => 20 ≤ n ∧ s = f 0 % 16 * 4 ∧ 5 ≤ f 0 % 16 ∧ e = be f 2 ∧ s ≤ e ∧ e ≤ n ∧ WF 3 (fun i => f (20 + i)) (s - 20) 0 ∧ nx = (if be f 6 % 16384 = 0 then byProto (f 9) false else .none)
  | .ip6, f, n, s, e, nx => 40 ≤ n ∧ s = 40 ∧ e = 40 + be f 4 ∧ 1 ≤ f 6 ∧ 1 ≤ be f 4 ∧ e ≤ n ∧ nx = byProto (f 6) true
  | .tcp, f, n, s, e, nx => 20 ≤ n ∧ s = f 12 / 16 * 4 ∧ 20 ≤ s ∧ s ≤ n ∧ e = n ∧ WF 2 (fun i => f (20 + i)) (s - 20) 0 ∧ nx = freeOf (be f 0) (be f 2)
  | .udp, f, n, s, e, nx => 8 ≤ n ∧ s = 8 ∧ e = be f 4 ∧ 8 ≤ e ∧ e ≤ n ∧ nx = (if be f 2 = 4789 then .vxlan else freeOf (be f 0) (be f 2))
  | .icmp, _, n, s, e, nx => 8 ≤ n ∧ s = 8 ∧ e = n ∧ nx = .pay
  | .icmp6, f, n, s, e, nx => 4 ≤ n ∧ s = 4 ∧ e = n ∧ nx = (if f 0 = 100 ∨ f 0 = 101 ∨ f 0 = 200 ∨ f 0 = 201 then .pay else .none)
  | .gre, f, n, s, e, nx => 4 ≤ n ∧ f 0 / 64 % 2 = 0 ∧ f 0 % 16 = 0 ∧ f 1 = 0 ∧ s = greSize (f 0) ∧ s ≤ n ∧ e = n ∧ nx = greNext (be f 2)
  | .vxlan, _, n, s, e, nx => 8 ≤ n ∧ s = 8 ∧ e = n ∧ nx = .eth
  | .pay, _, n, s, e, nx => s = n ∧ e = n ∧ nx = .nothing
  | .nothing, _, _, _, _, _ => False
  | .none, _, _, _, _, _ => False

/-- What is known where bytes were too few. -/
def ShortOK : Nm → Nat → Prop
  | .eth, n => n < 14
  | .vlan, n => n < 4
  | .ip4, n => n < 20
  | .ip6, n => n < 40
  | .tcp, n => n < 20
  | .udp, n => n < 8
  | .icmp, n => n < 8
  | .icmp6, n => n < 4
  | _, _ => False

def StepOK (nm : Nm) (f : Nat → Nat) (n : Nat) : Out → Prop
  | .taken s e nx => TakenOK nm f n s e nx
  | .short => ShortOK nm n
  | .left => True

/-- A layer that was taken: its name, where it begins, how many bytes its header has, where what it carries ends (from its begin on). -/
structure Piece where
  nm : Nm
  at_ : Nat
  size : Nat
  fin : Nat

/-- From p on n bytes are taken apart into these layers, up to the end or to a header for which they are too few. -/
inductive Chain (g : Nat → Nat) : Nat → Nm → Nat → List Piece → Prop
  | stop (p : Nat) (nm : Nm) (n : Nat) (h : nm = .nothing ∨ n = 0) : Chain g p nm n []
  | short (p : Nat) (nm : Nm) (n : Nat) (hn : 0 < n) (h : ShortOK nm n) : Chain g p nm n []
  | take (p : Nat) (nm : Nm) (n s e : Nat) (nx : Nm) (ps : List Piece) (hn : 0 < n) (h : TakenOK nm (fun i => g (p + i)) n s e nx) (r : Chain g (p + s) nx (e - s) ps) :
      Chain g p nm n ({ nm := nm, at_ := p, size := s, fin := e } :: ps)

theorem taken_le {nm : Nm} {f : Nat → Nat} {n s e : Nat} {nx : Nm} (h : TakenOK nm f n s e nx) : s ≤ e ∧ e ≤ n := by
  cases nm <;> simp only [TakenOK] at h <;> omega
end Go.Proofs.YtecgkcofmphaiaaGreatDoor.Gpk
namespace Go.Proofs.YtecgkcofmphaiaaGreatDoor.Gpk
open Go.RowKit

/-- A slice of n bytes that begin at q in block D (of no byte: wherever). -/
def Win (D : Nat) (v : Value) (q n : Nat) : Prop := ∃ a c, v = .slice a n c ∧ n ≤ c ∧ c ≤ maxLen ∧ (0 < n → a = some ⟨D, q, none⟩)

/-- The types of layers that are pointers: the pointer's type, the struct's type, the name. -/
inductive Kind : TypeId → TypeId → Nm → Prop
  | eth : Kind 125 168 .eth
  | vlan : Kind 126 165 .vlan
  | arp : Kind 127 162 .arp
  | ip4 : Kind 128 185 .ip4
  | ip6 : Kind 129 195 .ip6
  | tcp : Kind 130 229 .tcp
  | udp : Kind 131 232 .udp
  | icmp : Kind 132 179 .icmp
  | icmp6 : Kind 133 255 .icmp6
  | gre : Kind 134 176 .gre
  | vxlan : Kind 135 265 .vxlan
theorem Kind.ne {t u : TypeId} {nm : Nm} (h : Kind t u nm) : u ≠ 124 ∧ u ≠ 78 := by cases h <;> decide

/-- A layer: its value, its name, where its header begins and how many bytes that has, where what it carries begins and how many. -/
structure Lay where
  v : Value
  nm : Nm
  cq : Nat
  cn : Nat
  pq : Nat
  pn : Nat

/-- The layer lies in the world. L: how many bytes there are in all. -/
def Lay.ok (D L : Nat) (w : World) (l : Lay) : Prop :=
  (l.cn = 0 ∨ l.cq + l.cn ≤ L) ∧ (l.pn = 0 ∨ l.pq + l.pn ≤ L) ∧
  ((∃ Tp T g cs, Kind Tp T l.nm ∧ l.v = .iface Tp (.pointer (some ⟨g, 0, none⟩)) ∧ w.heap[g]? = some (.cells cs T (0, 0)) ∧ (∃ v, cs[0]? = some v ∧ Win D v l.cq l.cn) ∧ (∃ v, cs[1]? = some v ∧ Win D v l.pq l.pn)) ∨
   (∃ v, l.v = .iface 410 v ∧ l.nm = .pay ∧ l.pn = 0 ∧ Win D v l.cq l.cn))

/-- The fixed parts: the world ahead of the call, the block of the bytes, what stands in it, how many bytes there are, the bytes, the builder's block. -/
structure Fix where
  W : World
  D : Nat
  dcs : Array Value
  dfr : Nat × Nat
  L : Nat
  g : Nat → Nat
  bp : Nat

structure Fix.ok (F : Fix) : Prop where
  bytes : ∀ i, i < F.L → F.dcs[i]? = some (.int .u8 (F.g i : Nat))
  isB : ∀ i, F.g i < 256
  bp : F.W.heap.size ≤ F.bp
  small : F.L ≤ maxLen

structure Inv (F : Fix) (w : World) (ls : List Lay) : Prop where
  below : Below F.W.heap.size F.W w
  dat : w.heap[F.D]? = some (.cells F.dcs 5 F.dfr)
  bld : ∃ v tr, w.heap[F.bp]? = some (.cells #[v, .bool tr, .bool true] 124 (0, 0)) ∧ w.ownsRow F.W.heap.size 78 1 v ls.length (ls.map (·.v))
  lay : ∀ l ∈ ls, l.ok F.D F.L w

/-- Blocks of other types than the builder's and its row's are as they were. -/
structure Keep (w w' : World) : Prop where
  size : w.heap.size ≤ w'.heap.size
  block : ∀ (i : Nat) (cs : Array Value) (T : TypeId) (fr : Nat × Nat), w.heap[i]? = some (.cells cs T fr) → T ≠ 124 → T ≠ 78 → w'.heap[i]? = some (.cells cs T fr)

theorem Keep.refl (w : World) : Keep w w := ⟨Nat.le_refl _, fun _ _ _ _ h _ _ => h⟩
theorem Keep.trans {a b c : World} (h : Keep a b) (k : Keep b c) : Keep a c := ⟨Nat.le_trans h.size k.size, fun i cs T fr hi h1 h2 => k.block i cs T fr (h.block i cs T fr hi h1 h2) h1 h2⟩
theorem lt_of_heap {w : World} {i : Nat} {o : Obj} (h : w.heap[i]? = some o) : i < w.heap.size := (Array.getElem?_eq_some_iff.1 h).1
theorem Keep.of_below {w w' : World} (h : Below w.heap.size w w') : Keep w w' := ⟨h.size, fun i _ _ _ hi _ _ => (h.block i (lt_of_heap hi)).trans hi⟩
theorem Keep.drewN {w w' : World} (h : Keep w w') (k : Nat) : Keep w (w'.drewN k) := ⟨h.size, h.block⟩

theorem Lay.ok.keep {D L : Nat} {w w' : World} {l : Lay} (h : l.ok D L w) (k : Keep w w') : l.ok D L w' := by
  obtain ⟨h1, h2, h3⟩ := h
  refine ⟨h1, h2, ?_⟩
  rcases h3 with ⟨Tp, T, g, cs, hk, hv, hg, hc, hp⟩ | h3
  · exact .inl ⟨Tp, T, g, cs, hk, hv, k.block g cs T _ hg hk.ne.1 hk.ne.2, hc, hp⟩
  · exact .inr h3

theorem Inv.step {F : Fix} {w w' : World} {ls : List Lay} (h : Inv F w ls) (hb : Below w.heap.size w w') : Inv F w' ls := by
  obtain ⟨h1, h2, ⟨v, tr, h3, h4⟩, h5⟩ := h
  refine ⟨h1.trans (hb.mono h1.size), (hb.block _ (lt_of_heap h2)).trans h2, ⟨v, tr, (hb.block _ (lt_of_heap h3)).trans h3, ?_⟩, fun l hl => (h5 l hl).keep (.of_below hb)⟩
  exact h4.kept (row := none) ⟨hb.os, hb.tape, hb.output, hb.size, fun k hk _ => hb.block k hk⟩ (by cases v.ownBlock <;> simp)

theorem Inv.drewN {F : Fix} {w : World} {ls : List Lay} (h : Inv F w ls) (k : Nat) : Inv F (w.drewN k) ls :=
  ⟨⟨h.below.os, h.below.tape, h.below.output, h.below.size, h.below.block⟩, h.dat, h.bld, h.lay⟩

/-- The n cells from q on of block D hold the bytes f 0 .. f (n - 1). -/
def Byt (w : World) (D q : Nat) (f : Nat → Nat) (n : Nat) : Prop := ∀ i, i < n → w.cell? ⟨D, q + i, none⟩ = some (.int .u8 (f i : Nat))
/-- All values are bytes. -/
def IsB (f : Nat → Nat) : Prop := ∀ i, f i < 256

theorem Inv.byt {F : Fix} {w : World} {ls : List Lay} (h : Inv F w ls) (hF : F.ok) (p n : Nat) (hp : p + n ≤ F.L) : Byt w F.D p (fun i => F.g (p + i)) n := by
  intro i hi
  rw [cell_of_row w F.D (p + i) F.dcs 5 F.dfr h.dat]
  exact hF.bytes _ (by omega)
theorem Fix.ok.sub {F : Fix} (h : F.ok) (p : Nat) : IsB (fun i => F.g (p + i)) := fun i => h.isB (p + i)
end Go.Proofs.YtecgkcofmphaiaaGreatDoor.Gpk
namespace Go.Proofs.YtecgkcofmphaiaaGreatDoor.Gpk
open Go.RowKit

theorem Byt.at {w : World} {D q : Nat} {f : Nat → Nat} {n : Nat} (h : Byt w D q f n) (i : Nat) (hi : i < n) : w.cell? ⟨D, q + i, none⟩ = some (.int .u8 (f i : Nat)) := h i hi
theorem Byt.at0 {w : World} {D q : Nat} {f : Nat → Nat} {n : Nat} (h : Byt w D q f n) (hi : 0 < n) : w.cell? ⟨D, q, none⟩ = some (.int .u8 (f 0 : Nat)) := h 0 hi
theorem Byt.lt {w : World} {D q : Nat} {f : Nat → Nat} {n : Nat} (h : Byt w D q f n) (hi : 0 < n) : D < w.heap.size := World.block_lt_of_cell? w _ (h 0 hi)
theorem Byt.below {w w' : World} {B D q : Nat} {f : Nat → Nat} {n : Nat} (h : Byt w D q f n) (hb : Below B w w') (hD : D < B) : Byt w' D q f n :=
  fun i hi => (hb.cell (p := ⟨D, q + i, none⟩) hD).trans (h i hi)
theorem Byt.drewN {w : World} {D q : Nat} {f : Nat → Nat} {n : Nat} (h : Byt w D q f n) (k : Nat) : Byt (w.drewN k) D q f n := h
theorem Byt.sub {w : World} {D q : Nat} {f : Nat → Nat} {n : Nat} (h : Byt w D q f n) (s m : Nat) (hm : s + m ≤ n) : Byt w D (q + s) (fun i => f (s + i)) m :=
  fun i hi => by have := h (s + i) (by omega); rw [← this, Nat.add_assoc]
theorem IsB.sub {f : Nat → Nat} (h : IsB f) (s : Nat) : IsB (fun i => f (s + i)) := fun i => h (s + i)

theorem below_drewN {B : Nat} {a w : World} (h : Below B a w) (n : Nat) : Below B a (w.drewN n) := ⟨h.os, h.tape, h.output, h.size, h.block⟩
theorem below_drewN' {B : Nat} {a w : World} (h : Below B a w) (n : Nat) : Below B (a.drewN n) w := ⟨h.os, h.tape, h.output, h.size, h.block⟩

theorem u16_hi (x : Nat) (h : x < 256) : IntKind.u16.wrap (x : Int) = x := by rw [IntKind.wrap_u16]; omega
theorem or16 (x y : Nat) (hx : x < 256) (hy : y < 256) : bits .or .u16 (y : Int) ((x : Int) * 256) = ((x * 256 + y : Nat) : Int) := by
  have e : ((x : Int) * 256) = ((x * 256 : Nat) : Int) := by omega
  rw [e, u16_or_nat _ _ (by omega) (by omega), Nat.or_comm, nat_join 8 _ _ (by omega) (by omega)]

set_option maxHeartbeats 400000 in
theorem be16 (b o c : Nat) (x y : Nat) (w : World) (hx : x < 256) (hy : y < 256) (h0 : w.cell? ⟨b, o, none⟩ = some (.int .u8 x)) (h1 : w.cell? ⟨b, o + 1, none⟩ = some (.int .u8 y)) :
    Calls Tryz.prog 128 #[.slice (some ⟨b, o, none⟩) 2 c] w fun e w' => e = .returned (.int .u16 (x * 256 + y : Nat)) ∧ ∃ n, w' = w.drewN n := by
  go_enter Tryz.func128, Tryz.ntmps128
  go_wp2
  go_quiet (fail)
  go_wp2
  go_ret
  refine ⟨?_, _, rfl⟩
  rw [or16 x y hx hy]; rfl

/-- Draws stand outermost. -/
@[go_sem] theorem setCell_drewN (w : World) (k : Nat) (a : Addr) (v : Value) : (w.drewN k).setCell a v = (w.setCell a v).drewN k := rfl
@[go_sem] theorem alloc_drewN (w : World) (k : Nat) (o : Obj) : (w.drewN k).alloc o = (w.alloc o).drewN k := rfl
@[go_sem] theorem drew_is (w : World) : w.drew = w.drewN 1 := rfl

/-- What a decoder leaves: all that was there is as it was, and the block behind it is one of type T of which P is told. -/
def Laid (w w' : World) (T : TypeId) (P : Array Value → Prop) : Prop := Below w.heap.size w w' ∧ ∃ cs, w'.heap[w.heap.size]? = some (.cells cs T (0, 0)) ∧ P cs
theorem Laid.mk (w : World) (T : TypeId) (P : Array Value → Prop) (cs : Array Value) (k : Nat) (h : P cs) : Laid w ((w.alloc (.cells cs T)).drewN k) T P :=
  ⟨below_drewN ((Below.refl _ _).alloc (Nat.le_refl _) _) _, cs, heap_alloc_new w _, h⟩
theorem Win.mk (D q n c : Nat) (hn : n ≤ c) (hc : c ≤ maxLen) : Win D (.slice (some ⟨D, q, none⟩) n c) q n := ⟨_, c, rfl, hn, hc, fun _ => rfl⟩
theorem Win.rest (D q s n c : Nat) (hs : s ≤ n) (hn : n ≤ c) (hc : c ≤ maxLen) : Win D (.slice (if c = s then some ⟨D, q, none⟩ else some ⟨D, q + s, none⟩) (n - s) (c - s)) (q + s) (n - s) :=
  ⟨_, _, rfl, by omega, by omega, fun h => by rw [if_neg (by omega)]⟩
theorem byt_past {w : World} {D q : Nat} {f : Nat → Nat} {n : Nat} (h : Byt w D q f n) (i : Nat) (hi : i < n) : ∀ o, (w.alloc o).cell? ⟨D, q + i, none⟩ = some (.int .u8 (f i : Nat)) :=
  fun o => (World.cell?_alloc_past o _ _ (h.lt (by omega))).trans (h i hi)
theorem byt_past0 {w : World} {D q : Nat} {f : Nat → Nat} {n : Nat} (h : Byt w D q f n) (hi : 0 < n) : ∀ o, (w.alloc o).cell? ⟨D, q, none⟩ = some (.int .u8 (f 0 : Nat)) := byt_past h 0 hi

/-- What is told of the cells of a layer: its header has s bytes from q on, and it carries m bytes behind it. -/
structure Hdr (D q s m N : Nat) (cs : Array Value) : Prop where
  size : cs.size = N
  c0 : ∃ v, cs[0]? = some v ∧ Win D v q s
  c1 : ∃ v, cs[1]? = some v ∧ Win D v (q + s) m
/-- .. and one cell more. -/
def Hdr1 (D q s m N i : Nat) (v : Value) (cs : Array Value) : Prop := Hdr D q s m N cs ∧ cs[i]? = some v

/-- .. and two cells more. -/
def Hdr2 (D q s m N i : Nat) (v : Value) (j : Nat) (u : Value) (cs : Array Value) : Prop := Hdr D q s m N cs ∧ cs[i]? = some v ∧ cs[j]? = some u
theorem Laid.mk2 (w : World) (T : TypeId) (P : Array Value → Prop) (cs : Array Value) (o : Obj) (k : Nat) (h : P cs) : Laid w (((w.alloc (.cells cs T)).alloc o).drewN k) T P :=
  ⟨below_drewN (((Below.refl _ _).alloc (Nat.le_refl _) _).alloc (by simp) _) _, cs, by
    rw [World.heap_drewN, Below.heap_alloc _ _ _ (by simp)]; exact heap_alloc_new w _, h⟩

end Go.Proofs.YtecgkcofmphaiaaGreatDoor.Gpk
namespace Go.Proofs.YtecgkcofmphaiaaGreatDoor.Gpk
open Go.RowKit

/-- Some number of kind int64 comes back. -/
def SomeI64 (w : World) (e : Ending) (w' : World) : Prop := ∃ v : Int, e = .returned (.int .i64 v) ∧ w = w'

set_option maxHeartbeats 1000000 in
theorem be32 (b o c : Nat) (w : World) (x y z u : Nat) (hx : x < 256) (hy : y < 256) (hz : z < 256) (hu : u < 256) (h0 : w.cell? ⟨b, o, none⟩ = some (.int .u8 x)) (h1 : w.cell? ⟨b, o + 1, none⟩ = some (.int .u8 y))
    (h2 : w.cell? ⟨b, o + 2, none⟩ = some (.int .u8 z)) (h3 : w.cell? ⟨b, o + 3, none⟩ = some (.int .u8 u)) :
    Calls Tryz.prog 127 #[.slice (some ⟨b, o, none⟩) 4 c] w fun e w' => (∃ v, e = .returned (.int .u32 v)) ∧ ∃ n, w' = w.drewN n := by
  go_enter Tryz.func127, Tryz.ntmps127
  go_wp2
  go_quiet (fail)
  go_wp2
  go_ret
  exact ⟨⟨_, rfl⟩, _, rfl⟩

set_option maxHeartbeats 1000000 in
theorem etLayer_any (x : Nat) (w : World) : Calls Tryz.prog 197 #[.int .u16 x] w (SomeI64 w) := by
  go_enter Tryz.func197, Tryz.ntmps197
  go_wp2
  all_goals (go_ret; exact ⟨_, rfl, rfl⟩)

theorem etLayer_ip4 (w : World) : Calls Tryz.prog 197 #[.int .u16 2048] w fun e w' => e = .returned (.int .i64 20) ∧ w = w' := by
  go_enter Tryz.func197, Tryz.ntmps197
  go_wp2
  go_ret
  exact ⟨rfl, rfl⟩
theorem etLayer_arp (w : World) : Calls Tryz.prog 197 #[.int .u16 2054] w fun e w' => e = .returned (.int .i64 10) ∧ w = w' := by
  go_enter Tryz.func197, Tryz.ntmps197
  go_wp2
  go_ret
  exact ⟨rfl, rfl⟩
theorem etLayer_vlan (w : World) : Calls Tryz.prog 197 #[.int .u16 33024] w fun e w' => e = .returned (.int .i64 15) ∧ w = w' := by
  go_enter Tryz.func197, Tryz.ntmps197
  go_wp2
  go_ret
  exact ⟨rfl, rfl⟩
theorem etLayer_ip6 (w : World) : Calls Tryz.prog 197 #[.int .u16 34525] w fun e w' => e = .returned (.int .i64 21) ∧ w = w' := by
  go_enter Tryz.func197, Tryz.ntmps197
  go_wp2
  go_ret
  exact ⟨rfl, rfl⟩
theorem etLayer_eth (w : World) : Calls Tryz.prog 197 #[.int .u16 25944] w fun e w' => e = .returned (.int .i64 17) ∧ w = w' := by
  go_enter Tryz.func197, Tryz.ntmps197
  go_wp2
  go_ret
  exact ⟨rfl, rfl⟩


set_option maxHeartbeats 1000000 in
theorem prLayer_any (x : Nat) (w : World) : Calls Tryz.prog 142 #[.int .u8 x] w (SomeI64 w) := by
  go_enter Tryz.func142, Tryz.ntmps142
  go_wp2
  all_goals (go_ret; exact ⟨_, rfl, rfl⟩)
theorem prLayer_1 (w : World) : Calls Tryz.prog 142 #[.int .u8 1] w fun e w' => e = .returned (.int .i64 19) ∧ w = w' := by
  go_enter Tryz.func142, Tryz.ntmps142
  go_wp2
  go_ret
  exact ⟨rfl, rfl⟩
theorem prLayer_4 (w : World) : Calls Tryz.prog 142 #[.int .u8 4] w fun e w' => e = .returned (.int .i64 20) ∧ w = w' := by
  go_enter Tryz.func142, Tryz.ntmps142
  go_wp2
  go_ret
  exact ⟨rfl, rfl⟩
theorem prLayer_6 (w : World) : Calls Tryz.prog 142 #[.int .u8 6] w fun e w' => e = .returned (.int .i64 44) ∧ w = w' := by
  go_enter Tryz.func142, Tryz.ntmps142
  go_wp2
  go_ret
  exact ⟨rfl, rfl⟩
theorem prLayer_17 (w : World) : Calls Tryz.prog 142 #[.int .u8 17] w fun e w' => e = .returned (.int .i64 45) ∧ w = w' := by
  go_enter Tryz.func142, Tryz.ntmps142
  go_wp2
  go_ret
  exact ⟨rfl, rfl⟩
theorem prLayer_41 (w : World) : Calls Tryz.prog 142 #[.int .u8 41] w fun e w' => e = .returned (.int .i64 21) ∧ w = w' := by
  go_enter Tryz.func142, Tryz.ntmps142
  go_wp2
  go_ret
  exact ⟨rfl, rfl⟩
theorem prLayer_47 (w : World) : Calls Tryz.prog 142 #[.int .u8 47] w fun e w' => e = .returned (.int .i64 18) ∧ w = w' := by
  go_enter Tryz.func142, Tryz.ntmps142
  go_wp2
  go_ret
  exact ⟨rfl, rfl⟩
theorem prLayer_58 (w : World) : Calls Tryz.prog 142 #[.int .u8 58] w fun e w' => e = .returned (.int .i64 57) ∧ w = w' := by
  go_enter Tryz.func142, Tryz.ntmps142
  go_wp2
  go_ret
  exact ⟨rfl, rfl⟩
theorem decoder_10 (w : World) : Calls Tryz.prog 71 #[.int .i64 10] w fun e w' => e = .returned (.func (.func 87) #[] #[]) ∧ w = w' := by
  go_enter Tryz.func71, Tryz.ntmps71
  go_wp2
  go_ret
  exact ⟨rfl, rfl⟩
theorem decoder_15 (w : World) : Calls Tryz.prog 71 #[.int .i64 15] w fun e w' => e = .returned (.func (.func 88) #[] #[]) ∧ w = w' := by
  go_enter Tryz.func71, Tryz.ntmps71
  go_wp2
  go_ret
  exact ⟨rfl, rfl⟩
theorem decoder_17 (w : World) : Calls Tryz.prog 71 #[.int .i64 17] w fun e w' => e = .returned (.func (.func 89) #[] #[]) ∧ w = w' := by
  go_enter Tryz.func71, Tryz.ntmps71
  go_wp2
  go_ret
  exact ⟨rfl, rfl⟩
theorem decoder_18 (w : World) : Calls Tryz.prog 71 #[.int .i64 18] w fun e w' => e = .returned (.func (.func 90) #[] #[]) ∧ w = w' := by
  go_enter Tryz.func71, Tryz.ntmps71
  go_wp2
  go_ret
  exact ⟨rfl, rfl⟩
theorem decoder_19 (w : World) : Calls Tryz.prog 71 #[.int .i64 19] w fun e w' => e = .returned (.func (.func 91) #[] #[]) ∧ w = w' := by
  go_enter Tryz.func71, Tryz.ntmps71
  go_wp2
  go_ret
  exact ⟨rfl, rfl⟩
theorem decoder_20 (w : World) : Calls Tryz.prog 71 #[.int .i64 20] w fun e w' => e = .returned (.func (.func 92) #[] #[]) ∧ w = w' := by
  go_enter Tryz.func71, Tryz.ntmps71
  go_wp2
  go_ret
  exact ⟨rfl, rfl⟩
theorem decoder_21 (w : World) : Calls Tryz.prog 71 #[.int .i64 21] w fun e w' => e = .returned (.func (.func 93) #[] #[]) ∧ w = w' := by
  go_enter Tryz.func71, Tryz.ntmps71
  go_wp2
  go_ret
  exact ⟨rfl, rfl⟩
theorem decoder_44 (w : World) : Calls Tryz.prog 71 #[.int .i64 44] w fun e w' => e = .returned (.func (.func 99) #[] #[]) ∧ w = w' := by
  go_enter Tryz.func71, Tryz.ntmps71
  go_wp2
  go_ret
  exact ⟨rfl, rfl⟩
theorem decoder_45 (w : World) : Calls Tryz.prog 71 #[.int .i64 45] w fun e w' => e = .returned (.func (.func 100) #[] #[]) ∧ w = w' := by
  go_enter Tryz.func71, Tryz.ntmps71
  go_wp2
  go_ret
  exact ⟨rfl, rfl⟩
theorem decoder_57 (w : World) : Calls Tryz.prog 71 #[.int .i64 57] w fun e w' => e = .returned (.func (.func 106) #[] #[]) ∧ w = w' := by
  go_enter Tryz.func71, Tryz.ntmps71
  go_wp2
  go_ret
  exact ⟨rfl, rfl⟩
theorem decoder_116 (w : World) : Calls Tryz.prog 71 #[.int .i64 116] w fun e w' => e = .returned (.func (.func 108) #[] #[]) ∧ w = w' := by
  go_enter Tryz.func71, Tryz.ntmps71
  go_wp2
  go_ret
  exact ⟨rfl, rfl⟩

set_option maxHeartbeats 1000000 in
theorem udpPort_any (x : Nat) (w : World) : Calls Tryz.prog 160 #[.int .u16 x] w (SomeI64 w) := by
  go_enter Tryz.func160, Tryz.ntmps160
  go_wp2
  all_goals (go_ret; exact ⟨_, rfl, rfl⟩)
theorem udpPort_free (x : Nat) (hx : 50000 ≤ x) (w : World) : Calls Tryz.prog 160 #[.int .u16 x] w fun e w' => e = .returned (.int .i64 0) ∧ w = w' := by
  go_enter Tryz.func160, Tryz.ntmps160
  go_wp2
  go_ret
  exact ⟨rfl, rfl⟩
theorem udpPort_vxlan (w : World) : Calls Tryz.prog 160 #[.int .u16 4789] w fun e w' => e = .returned (.int .i64 116) ∧ w = w' := by
  go_enter Tryz.func160, Tryz.ntmps160
  go_wp2
  go_ret
  exact ⟨rfl, rfl⟩
theorem udpLayer_any (x : Nat) (w : World) : Calls Tryz.prog 145 #[.int .u16 x] w (SomeI64 w) := by
  go_enter Tryz.func145, Tryz.ntmps145
  go_wp2_with (go_at_call 160; refine (udpPort_any _ _).mono ?_; rintro e w' ⟨v, rfl, rfl⟩)
  all_goals (go_ret; exact ⟨_, rfl, rfl⟩)
theorem udpLayer_free (x : Nat) (hx : 50000 ≤ x) (w : World) : Calls Tryz.prog 145 #[.int .u16 x] w fun e w' => e = .returned (.int .i64 2) ∧ w = w' := by
  go_enter Tryz.func145, Tryz.ntmps145
  go_wp2_with (go_at_call 160; refine (udpPort_free _ hx _).mono ?_; rintro e w' ⟨rfl, rfl⟩)
  go_ret
  exact ⟨rfl, rfl⟩
theorem udpLayer_vxlan (w : World) : Calls Tryz.prog 145 #[.int .u16 4789] w fun e w' => e = .returned (.int .i64 116) ∧ w = w' := by
  go_enter Tryz.func145, Tryz.ntmps145
  go_wp2_with (go_at_call 160; refine (udpPort_vxlan _).mono ?_; rintro e w' ⟨rfl, rfl⟩)
  go_ret
  exact ⟨rfl, rfl⟩

/-- An error of errors.New: a value that is not nil; a new block. -/
theorem newErr (s : ByteArray) (w : World) : Calls Tryz.prog 72 #[.string s] w fun e w' => e = .returned (.iface 149 (.pointer (some ⟨w.heap.size, 0, none⟩))) ∧ w.alloc (.cells #[.string s] 151) = w' := by
  go_enter Tryz.func72, Tryz.ntmps72
  go_wp2
  go_ret
  exact ⟨rfl, rfl⟩

end Go.Proofs.YtecgkcofmphaiaaGreatDoor.Gpk
namespace Go.Proofs.YtecgkcofmphaiaaGreatDoor.Gpk
open Go.RowKit

theorem Tryz.info78 : (Tryz.prog.info? 78).map (fun i => (i.zero, i.size, i.bytes)) = some (some .nilIface, 1, 16) := by kernel_rfl
def AddRaw (w w1 : World) (B n : Nat) (va : Option Addr) (vc : Nat) (vs : List Value) (T : TypeId) (x : Value) (v' : Value) : Prop :=
  w1.ownsRow B 78 1 v' (n + 1) (vs ++ [.iface T x]) ∧ (w.alloc (.cells #[.iface T x] 78)).grownBy w1 (Value.slice va n vc).ownBlock
set_option maxRecDepth 100000 in
set_option maxHeartbeats 400000 in
theorem addLayer_raw (bp : Nat) (va : Option Addr) (n vc : Nat) (T : TypeId) (x : Value) (B : Nat) (vs : List Value) (hn : n ≤ 1000) (w : World)
    (h0 : w.cell? ⟨bp, 0, none⟩ = some (.slice va n vc)) (f0 : w.frozen? ⟨bp, 0, none⟩ = false) (hbp : bp < w.heap.size) (hB : B ≤ w.heap.size) (hown : w.ownsRow B 78 1 (.slice va n vc) n vs) (hne : (Value.slice va n vc).ownBlock ≠ some bp) :
    Calls Tryz.prog 185 #[.pointer (some ⟨bp, 0, none⟩), .iface T x] w fun e w' => e = .returned (.tuple #[]) ∧ ∃ v' w1, AddRaw w w1 B n va vc vs T x v' ∧ w' = w1.setCell ⟨bp, 0, none⟩ v' := by
  obtain ⟨i0, hi, hz0, hz1, hz2⟩ := info_parts Tryz.info78
  go_enter Tryz.func185, Tryz.ntmps185
  go_wp2_with (at_builtin; (refine wpList_append_lies _ rfl (.tmp 8) (.tmp 10) 70 rfl B 78 i0 .nilIface 1 16 Tryz.underlying70 hi hz0 hz1 hz2 rfl (by decide) _ n vs rfl (hown.alloc _) ⟨w.heap.size, 0, none⟩ 1 1 [.iface T x] rfl rfl ?c1 ?c2 (by decide) ?c3 ?c4 ?c5 _ rfl ?_))
  case c1 =>
    intro j u hj
    match j, hj with
    | 0, hj => simp at hj; subst hj; simp [Addr.add]
  case c2 => intro u hu; simp at hu; subst hu; rfl
  case c3 => unfold maxLen; omega
  case c4 => omega
  case c5 => simp; omega
  intro g cap w1 hown1 hgrow hat hlt
  have e0 : w1.cell? ⟨bp, 0, none⟩ = some (.slice va n vc) := by
    rw [hgrow.cell_far ⟨bp, 0, none⟩ (by simp; omega) (fun e => hne e.symm)]
    simp [go_sem, hbp, h0]
  have e1 : w1.frozen? ⟨bp, 0, none⟩ = false := by
    rw [hgrow.frozen_far ⟨bp, 0, none⟩ (by simp; omega) (fun e => hne e.symm)]
    simp [go_sem, hbp, f0]
  have HG := Lib.hid (show AddRaw w w1 B n va vc vs T x (.slice (some ⟨g, 0, none⟩) (n + 1) cap) from ⟨hown1, hgrow⟩)
  clear hown1 hgrow hat
  go_wp2
  go_end0
  exact ⟨rfl, _, _, HG.out, rfl⟩
/-- A method of the builder that does nothing. -/
theorem setLink (a b : Value) (w : World) : Calls Tryz.prog 188 #[a, b] w fun e w' => e = .returned (.tuple #[]) ∧ w = w' := by
  go_enter Tryz.func188, Tryz.ntmps188
  go_wp2
  go_end0
  exact ⟨rfl, rfl⟩
theorem setNet (a b : Value) (w : World) : Calls Tryz.prog 189 #[a, b] w fun e w' => e = .returned (.tuple #[]) ∧ w = w' := by
  go_enter Tryz.func189, Tryz.ntmps189
  go_wp2
  go_end0
  exact ⟨rfl, rfl⟩
theorem setTransport (a b : Value) (w : World) : Calls Tryz.prog 190 #[a, b] w fun e w' => e = .returned (.tuple #[]) ∧ w = w' := by
  go_enter Tryz.func190, Tryz.ntmps190
  go_wp2
  go_end0
  exact ⟨rfl, rfl⟩


theorem unfrozen {w : World} {g i : Nat} {cs : Array Value} {T : TypeId} (h : w.heap[g]? = some (.cells cs T (0, 0))) : w.frozen? ⟨g, i, none⟩ = false := by
  simp [World.frozen?, h]
theorem heap_set {w : World} {g i : Nat} {cs : Array Value} {T : TypeId} {fr : Nat × Nat} (h : w.heap[g]? = some (.cells cs T fr)) (v : Value) : (w.setCell ⟨g, i, none⟩ v).heap[g]? = some (.cells (cs.setIfInBounds i v) T fr) := by
  simp [World.setCell, Array.getElem?_modify, h]
theorem heap_far {w : World} {g : Nat} {a : Addr} (h : g ≠ a.block) (v : Value) : (w.setCell a v).heap[g]? = w.heap[g]? := Below.heap_setCell w a v g h

/-- The world behind a layer's adding. -/
def Added (F : Fix) (w : World) (ls : List Lay) (w' : World) : Prop := Inv F w' ls ∧ Keep w w'

theorem addLayer {F : Fix} (hF : F.ok) {w : World} {ls : List Lay} (hI : Inv F w ls) (hn : ls.length ≤ 100) (l : Lay) (hl : l.ok F.D F.L w) (T : TypeId) (x : Value) (hv : l.v = .iface T x) :
    Calls Tryz.prog 185 #[.pointer (some ⟨F.bp, 0, none⟩), .iface T x] w fun e w' => e = .returned (.tuple #[]) ∧ Added F w (ls ++ [l]) w' := by
  obtain ⟨h1, h2, ⟨v, tr, h3, h4⟩, h5⟩ := hI
  obtain ⟨va, vc, rfl⟩ : ∃ va vc, v = .slice va ls.length vc := by
    rcases h4.2 with ⟨rfl, h0⟩ | ⟨g, cap, cur, rfl, _⟩
    · exact ⟨none, 0, by rw [h0]⟩
    · exact ⟨_, _, rfl⟩
  have hb : F.bp < w.heap.size := lt_of_heap h3
  have hne : (Value.slice va ls.length vc).ownBlock ≠ some F.bp := by
    rcases h4.2 with ⟨hv0, _⟩ | ⟨g, cap, cur, hv0, _, hg, _⟩
    · rw [hv0]; simp [Value.ownBlock]
    · rw [hv0]
      simp only [Value.ownBlock, ne_eq, Option.some.injEq]
      rintro rfl
      rw [h3] at hg
      simp at hg
  have hsz := h1.size
  have hrow : ∀ (i : Nat) (cs : Array Value) (T' : TypeId) (fr : Nat × Nat), w.heap[i]? = some (.cells cs T' fr) → T' ≠ 78 → (Value.slice va ls.length vc).ownBlock ≠ some i := by
    intro i cs T' fr hi hT e
    rcases h4.2 with ⟨hv0, _⟩ | ⟨g, cap, cur, hv0, _, hg, _⟩
    · rw [hv0] at e; simp [Value.ownBlock] at e
    · rw [hv0] at e
      simp only [Value.ownBlock, Option.some.injEq] at e
      subst e
      rw [hi] at hg
      simp at hg
      exact hT hg.2.1
  refine (addLayer_raw F.bp va ls.length vc T x F.W.heap.size (ls.map (·.v)) (by omega) w ((cell_of_row w F.bp 0 _ 124 (0, 0) h3).trans rfl) (unfrozen h3) hb hsz h4 hne).mono ?_
  rintro e w' ⟨rfl, v', w1, ⟨a1, a2⟩, rfl⟩
  have hsz1 : w.heap.size < w1.heap.size := by have := a2.size; simp at this; omega
  have old : ∀ (i : Nat) (cs : Array Value) (T' : TypeId) (fr : Nat × Nat), w.heap[i]? = some (.cells cs T' fr) → T' ≠ 78 → w1.heap[i]? = some (.cells cs T' fr) := by
    intro i cs T' fr hi hT
    have hlt := lt_of_heap hi
    rw [a2.block i (by simp; omega) (fun e => hrow i cs T' fr hi hT e.symm), heap_alloc_old w _ hlt]
    exact hi
  have keep : Keep w (w1.setCell ⟨F.bp, 0, none⟩ v') := by
    refine ⟨by simp [World.setCell]; omega, fun i cs T' fr hi hT1 hT2 => ?_⟩
    rw [heap_far]
    · exact old i cs T' fr hi hT2
    · rintro rfl
      rw [h3] at hi
      simp at hi
      exact hT1 hi.2.1.symm
  refine ⟨rfl, ⟨?_, ?_, ?_, ?_⟩, keep⟩
  · -- old memory
    have hbel : Below F.W.heap.size F.W w1 := (h1.alloc hsz (.cells #[.iface T x] 78)).grown a2 (by simp; omega) (fun k hk => by
      have := h4.lt k hk
      exact this.1)
    exact hbel.setCell hF.bp v'
  · exact keep.block _ _ _ _ h2 (by decide) (by decide)
  · refine ⟨v', tr, ?_, ?_⟩
    · have := heap_set (i := 0) (old F.bp _ 124 _ h3 (by decide)) v'
      simpa using this
    · have e : (ls ++ [l]).length = ls.length + 1 := by simp
      have e2 : (ls ++ [l]).map (·.v) = ls.map (·.v) ++ [.iface T x] := by simp [hv]
      rw [e, e2]
      obtain ⟨q1, q2⟩ := a1
      refine ⟨q1, ?_⟩
      rcases q2 with q2 | ⟨g, cap, cur, hv0, hg1, hg2, r⟩
      · exact .inl q2
      · refine .inr ⟨g, cap, cur, hv0, hg1, ?_, r⟩
        rw [heap_far]
        · exact hg2
        · rintro rfl
          have := old F.bp _ 124 _ h3 (by decide)
          rw [this] at hg2
          simp at hg2
  · intro m hm
    rcases List.mem_append.1 hm with hm | hm
    · exact (h5 m hm).keep keep
    · simp at hm; subst hm; exact hl.keep keep
end Go.Proofs.YtecgkcofmphaiaaGreatDoor.Gpk
namespace Go.Proofs.YtecgkcofmphaiaaGreatDoor.Gpk
open Go.RowKit
theorem layerContents (g : Nat) (a : Option Addr) (n c : Nat) (w : World) (h : w.cell? ⟨g, 0, none⟩ = some (.slice a n c)) : Calls Tryz.prog 193 #[.pointer (some ⟨g, 0, none⟩)] w fun e w' => e = .returned (.slice a n c) ∧ w = w' := by
  go_enter Tryz.func193, Tryz.ntmps193
  go_wp2
  go_ret
  exact ⟨rfl, rfl⟩
theorem layerPayload (g : Nat) (a : Option Addr) (n c : Nat) (w : World) (h : w.cell? ⟨g, 1, none⟩ = some (.slice a n c)) : Calls Tryz.prog 194 #[.pointer (some ⟨g, 0, none⟩)] w fun e w' => e = .returned (.slice a n c) ∧ w = w' := by
  go_enter Tryz.func194, Tryz.ntmps194
  go_wp2
  go_ret
  exact ⟨rfl, rfl⟩
theorem layerPayload_q (g : Nat) (a : Option Addr) (n c : Nat) (w : World) (h : w.cell? ⟨g, 1, none⟩ = some (.slice a n c)) (k : Nat) : Calls Tryz.prog 194 #[.pointer (some ⟨g, 0, none⟩)] (w.drewN k) fun e w'' => e = .returned (.slice a n c) ∧ ∃ m, w'' = w.drewN m :=
  (layerPayload g a n c (w.drewN k) h).mono fun _ _ h => ⟨h.1, k, h.2.symm⟩
theorem payContents (a : Option Addr) (n c : Nat) (w : World) : Calls Tryz.prog 339 #[.slice a n c] w fun e w' => e = .returned (.slice a n c) ∧ w = w' := by
  go_enter Tryz.func339, Tryz.ntmps339
  go_wp2
  go_ret
  exact ⟨rfl, rfl⟩
theorem payPayload (a : Option Addr) (n c : Nat) (w : World) : Calls Tryz.prog 340 #[.slice a n c] w fun e w' => e = .returned (.slice none 0 0) ∧ w = w' := by
  go_enter Tryz.func340, Tryz.ntmps340
  go_wp2
  go_ret
  exact ⟨rfl, rfl⟩
theorem methPay {T S : TypeId} {nm : Nm} (h : Kind T S nm) (fuel g : Nat) (w : World) : (method (fuel + 1) T (.pointer (some ⟨g, 0, none⟩)) "LayerPayload").run Tryz.prog w = .ok (194, .pointer (some ⟨g, 0, none⟩)) w := by
  cases h <;> kernel_rfl
theorem methCont {T S : TypeId} {nm : Nm} (h : Kind T S nm) (fuel g : Nat) (w : World) : (method (fuel + 1) T (.pointer (some ⟨g, 0, none⟩)) "LayerContents").run Tryz.prog w = .ok (193, .pointer (some ⟨g, 0, none⟩)) w := by
  cases h <;> kernel_rfl
theorem assertYes (n : Int) (w : World) : (Instr.typeAssert (.iface 75 (.int .i64 n)) 408 75 true).run Tryz.prog w = .ok (.tuple #[.int .i64 n, .bool true]) w := by kernel_rfl
theorem assertNo160 (n : Int) (w : World) : (Instr.typeAssert (.iface 160 (.int .u16 n)) 408 75 true).run Tryz.prog w = .ok (.tuple #[.int .i64 0, .bool false]) w := by kernel_rfl
theorem assertNo158 (n : Int) (w : World) : (Instr.typeAssert (.iface 158 (.int .u8 n)) 408 75 true).run Tryz.prog w = .ok (.tuple #[.int .i64 0, .bool false]) w := by kernel_rfl
set_option maxHeartbeats 1000000 in
set_option maxRecDepth 100000 in
theorem ndEmpty (bp rb k vc g : Nat) (T S : TypeId) (nm : Nm) (hK : Kind T S nm) (a : Option Addr) (n c : Nat) (hn : n < 1) (next : Value) (w : World) (hk : k ≤ 1000)
    (h0 : w.cell? ⟨bp, 0, none⟩ = some (.slice (some ⟨rb, 0, none⟩) (k + 1) vc)) (h2 : w.cell? ⟨bp, 2, none⟩ = some (.bool true))
    (h3 : w.cell? ⟨rb, k, none⟩ = some (.iface T (.pointer (some ⟨g, 0, none⟩)))) (h4 : w.cell? ⟨g, 1, none⟩ = some (.slice a n c)) :
    Calls Tryz.prog 186 #[.pointer (some ⟨bp, 0, none⟩), next] w fun e w' => e = .returned .nilIface ∧ ∃ n, w' = w.drewN n := by
  have e1 : IntKind.i64.wrap (k : Int) = k := by rw [IntKind.wrap_i64]; omega
  have e2 : (0 : Int) ≤ (k : Int) := by omega
  have e3 : ((k : Int)).toNat = k := by omega
  have e4 : (k : Int) < (k : Int) + 1 := by omega
  have hm := fun (fuel : Nat) (w : World) => methPay hK fuel g w
  go_enter Tryz.func186, Tryz.ntmps186
  go_wp2_with fail
  go_quiet ((go_at_call 194; exact layerPayload_q g a n c w h4 _))
  go_wp2
  go_ret
  exact ⟨rfl, _, rfl⟩
set_option maxHeartbeats 1000000 in
set_option maxRecDepth 100000 in
theorem ndPay (bp rb k vc g : Nat) (T S : TypeId) (nm : Nm) (hK : Kind T S nm) (a : Option Addr) (n c : Nat) (hn : 0 < n) (R : World → Prop) (w : World) (hk : k ≤ 1000)
    (h0 : w.cell? ⟨bp, 0, none⟩ = some (.slice (some ⟨rb, 0, none⟩) (k + 1) vc)) (h2 : w.cell? ⟨bp, 2, none⟩ = some (.bool true))
    (h3 : w.cell? ⟨rb, k, none⟩ = some (.iface T (.pointer (some ⟨g, 0, none⟩)))) (h4 : w.cell? ⟨g, 1, none⟩ = some (.slice a n c)) (HA : Hid (∀ m, Calls Tryz.prog 185 #[.pointer (some ⟨bp, 0, none⟩), .iface 410 (.slice a n c)] (w.drewN m) fun e w' => e = .returned (.tuple #[]) ∧ R w')) :
    Calls Tryz.prog 186 #[.pointer (some ⟨bp, 0, none⟩), .iface 75 (.int .i64 2)] w (fun e w' => ∃ v, e = .returned v ∧ R w') := by
  have e1 : IntKind.i64.wrap (k : Int) = k := by rw [IntKind.wrap_i64]; omega
  have e2 : (0 : Int) ≤ (k : Int) := by omega
  have e3 : ((k : Int)).toNat = k := by omega
  have e4 : (k : Int) < (k : Int) + 1 := by omega
  have hm := fun (fuel : Nat) (w : World) => methPay hK fuel g w
  have ha := assertYes 2
  go_enter Tryz.func186, Tryz.ntmps186
  go_wp2_with fail
  go_quiet ((go_at_call 194; exact layerPayload_q g a n c w h4 _))
  go_wp2_with fail
  refine (HA.out _).mono ?_
  rintro e w' ⟨rfl, hR⟩
  have HR := Lib.hid hR
  clear hR
  go_wp2
  go_ret
  exact ⟨_, rfl, HR.out⟩
set_option maxHeartbeats 1000000 in
set_option maxRecDepth 100000 in
theorem ndTy2048 (bp rb k vc g : Nat) (T S : TypeId) (nm : Nm) (hK : Kind T S nm) (a : Option Addr) (n c : Nat) (hn : 0 < n) (R : World → Prop) (w : World) (hk : k ≤ 1000)
    (h0 : w.cell? ⟨bp, 0, none⟩ = some (.slice (some ⟨rb, 0, none⟩) (k + 1) vc)) (h2 : w.cell? ⟨bp, 2, none⟩ = some (.bool true))
    (h3 : w.cell? ⟨rb, k, none⟩ = some (.iface T (.pointer (some ⟨g, 0, none⟩)))) (h4 : w.cell? ⟨g, 1, none⟩ = some (.slice a n c)) (HA : Hid (∀ m, Calls Tryz.prog 92 #[.slice a n c, .iface 122 (.pointer (some ⟨bp, 0, none⟩))] (w.drewN m) fun e w' => ∃ v, e = .returned v ∧ R w')) :
    Calls Tryz.prog 186 #[.pointer (some ⟨bp, 0, none⟩), .iface 160 (.int .u16 2048)] w (fun e w' => ∃ v, e = .returned v ∧ R w') := by
  have e1 : IntKind.i64.wrap (k : Int) = k := by rw [IntKind.wrap_i64]; omega
  have e2 : (0 : Int) ≤ (k : Int) := by omega
  have e3 : ((k : Int)).toNat = k := by omega
  have e4 : (k : Int) < (k : Int) + 1 := by omega
  have hm := fun (fuel : Nat) (w : World) => methPay hK fuel g w
  have ha := assertNo160 2048
  go_enter Tryz.func186, Tryz.ntmps186
  go_wp2_with fail
  go_quiet ((go_at_call 194; exact layerPayload_q g a n c w h4 _))
  go_wp2_with (go_at_call 239; go_in)
  refine (HA.out _).mono ?_
  rintro e w' ⟨v, rfl, hR⟩
  have HR := Lib.hid hR
  clear hR
  go_wp2
  go_ret
  exact ⟨_, rfl, HR.out⟩
set_option maxHeartbeats 1000000 in
set_option maxRecDepth 100000 in
theorem ndTy2054 (bp rb k vc g : Nat) (T S : TypeId) (nm : Nm) (hK : Kind T S nm) (a : Option Addr) (n c : Nat) (hn : 0 < n) (R : World → Prop) (w : World) (hk : k ≤ 1000)
    (h0 : w.cell? ⟨bp, 0, none⟩ = some (.slice (some ⟨rb, 0, none⟩) (k + 1) vc)) (h2 : w.cell? ⟨bp, 2, none⟩ = some (.bool true))
    (h3 : w.cell? ⟨rb, k, none⟩ = some (.iface T (.pointer (some ⟨g, 0, none⟩)))) (h4 : w.cell? ⟨g, 1, none⟩ = some (.slice a n c)) (HA : Hid (∀ m, Calls Tryz.prog 87 #[.slice a n c, .iface 122 (.pointer (some ⟨bp, 0, none⟩))] (w.drewN m) fun e w' => ∃ v, e = .returned v ∧ R w')) :
    Calls Tryz.prog 186 #[.pointer (some ⟨bp, 0, none⟩), .iface 160 (.int .u16 2054)] w (fun e w' => ∃ v, e = .returned v ∧ R w') := by
  have e1 : IntKind.i64.wrap (k : Int) = k := by rw [IntKind.wrap_i64]; omega
  have e2 : (0 : Int) ≤ (k : Int) := by omega
  have e3 : ((k : Int)).toNat = k := by omega
  have e4 : (k : Int) < (k : Int) + 1 := by omega
  have hm := fun (fuel : Nat) (w : World) => methPay hK fuel g w
  have ha := assertNo160 2054
  go_enter Tryz.func186, Tryz.ntmps186
  go_wp2_with fail
  go_quiet ((go_at_call 194; exact layerPayload_q g a n c w h4 _))
  go_wp2_with (go_at_call 239; go_in)
  refine (HA.out _).mono ?_
  rintro e w' ⟨v, rfl, hR⟩
  have HR := Lib.hid hR
  clear hR
  go_wp2
  go_ret
  exact ⟨_, rfl, HR.out⟩
set_option maxHeartbeats 1000000 in
set_option maxRecDepth 100000 in
theorem ndTy33024 (bp rb k vc g : Nat) (T S : TypeId) (nm : Nm) (hK : Kind T S nm) (a : Option Addr) (n c : Nat) (hn : 0 < n) (R : World → Prop) (w : World) (hk : k ≤ 1000)
    (h0 : w.cell? ⟨bp, 0, none⟩ = some (.slice (some ⟨rb, 0, none⟩) (k + 1) vc)) (h2 : w.cell? ⟨bp, 2, none⟩ = some (.bool true))
    (h3 : w.cell? ⟨rb, k, none⟩ = some (.iface T (.pointer (some ⟨g, 0, none⟩)))) (h4 : w.cell? ⟨g, 1, none⟩ = some (.slice a n c)) (HA : Hid (∀ m, Calls Tryz.prog 88 #[.slice a n c, .iface 122 (.pointer (some ⟨bp, 0, none⟩))] (w.drewN m) fun e w' => ∃ v, e = .returned v ∧ R w')) :
    Calls Tryz.prog 186 #[.pointer (some ⟨bp, 0, none⟩), .iface 160 (.int .u16 33024)] w (fun e w' => ∃ v, e = .returned v ∧ R w') := by
  have e1 : IntKind.i64.wrap (k : Int) = k := by rw [IntKind.wrap_i64]; omega
  have e2 : (0 : Int) ≤ (k : Int) := by omega
  have e3 : ((k : Int)).toNat = k := by omega
  have e4 : (k : Int) < (k : Int) + 1 := by omega
  have hm := fun (fuel : Nat) (w : World) => methPay hK fuel g w
  have ha := assertNo160 33024
  go_enter Tryz.func186, Tryz.ntmps186
  go_wp2_with fail
  go_quiet ((go_at_call 194; exact layerPayload_q g a n c w h4 _))
  go_wp2_with (go_at_call 239; go_in)
  refine (HA.out _).mono ?_
  rintro e w' ⟨v, rfl, hR⟩
  have HR := Lib.hid hR
  clear hR
  go_wp2
  go_ret
  exact ⟨_, rfl, HR.out⟩
set_option maxHeartbeats 1000000 in
set_option maxRecDepth 100000 in
theorem ndTy34525 (bp rb k vc g : Nat) (T S : TypeId) (nm : Nm) (hK : Kind T S nm) (a : Option Addr) (n c : Nat) (hn : 0 < n) (R : World → Prop) (w : World) (hk : k ≤ 1000)
    (h0 : w.cell? ⟨bp, 0, none⟩ = some (.slice (some ⟨rb, 0, none⟩) (k + 1) vc)) (h2 : w.cell? ⟨bp, 2, none⟩ = some (.bool true))
    (h3 : w.cell? ⟨rb, k, none⟩ = some (.iface T (.pointer (some ⟨g, 0, none⟩)))) (h4 : w.cell? ⟨g, 1, none⟩ = some (.slice a n c)) (HA : Hid (∀ m, Calls Tryz.prog 93 #[.slice a n c, .iface 122 (.pointer (some ⟨bp, 0, none⟩))] (w.drewN m) fun e w' => ∃ v, e = .returned v ∧ R w')) :
    Calls Tryz.prog 186 #[.pointer (some ⟨bp, 0, none⟩), .iface 160 (.int .u16 34525)] w (fun e w' => ∃ v, e = .returned v ∧ R w') := by
  have e1 : IntKind.i64.wrap (k : Int) = k := by rw [IntKind.wrap_i64]; omega
  have e2 : (0 : Int) ≤ (k : Int) := by omega
  have e3 : ((k : Int)).toNat = k := by omega
  have e4 : (k : Int) < (k : Int) + 1 := by omega
  have hm := fun (fuel : Nat) (w : World) => methPay hK fuel g w
  have ha := assertNo160 34525
  go_enter Tryz.func186, Tryz.ntmps186
  go_wp2_with fail
  go_quiet ((go_at_call 194; exact layerPayload_q g a n c w h4 _))
  go_wp2_with (go_at_call 239; go_in)
  refine (HA.out _).mono ?_
  rintro e w' ⟨v, rfl, hR⟩
  have HR := Lib.hid hR
  clear hR
  go_wp2
  go_ret
  exact ⟨_, rfl, HR.out⟩
set_option maxHeartbeats 1000000 in
set_option maxRecDepth 100000 in
theorem ndTy1 (bp rb k vc g : Nat) (T S : TypeId) (nm : Nm) (hK : Kind T S nm) (a : Option Addr) (n c : Nat) (hn : 0 < n) (R : World → Prop) (w : World) (hk : k ≤ 1000)
    (h0 : w.cell? ⟨bp, 0, none⟩ = some (.slice (some ⟨rb, 0, none⟩) (k + 1) vc)) (h2 : w.cell? ⟨bp, 2, none⟩ = some (.bool true))
    (h3 : w.cell? ⟨rb, k, none⟩ = some (.iface T (.pointer (some ⟨g, 0, none⟩)))) (h4 : w.cell? ⟨g, 1, none⟩ = some (.slice a n c)) (HA : Hid (∀ m, Calls Tryz.prog 89 #[.slice a n c, .iface 122 (.pointer (some ⟨bp, 0, none⟩))] (w.drewN m) fun e w' => ∃ v, e = .returned v ∧ R w')) :
    Calls Tryz.prog 186 #[.pointer (some ⟨bp, 0, none⟩), .iface 158 (.int .u8 1)] w (fun e w' => ∃ v, e = .returned v ∧ R w') := by
  have e1 : IntKind.i64.wrap (k : Int) = k := by rw [IntKind.wrap_i64]; omega
  have e2 : (0 : Int) ≤ (k : Int) := by omega
  have e3 : ((k : Int)).toNat = k := by omega
  have e4 : (k : Int) < (k : Int) + 1 := by omega
  have hm := fun (fuel : Nat) (w : World) => methPay hK fuel g w
  have ha := assertNo158 1
  go_enter Tryz.func186, Tryz.ntmps186
  go_wp2_with fail
  go_quiet ((go_at_call 194; exact layerPayload_q g a n c w h4 _))
  go_wp2_with (go_at_call 236; go_in)
  refine (HA.out _).mono ?_
  rintro e w' ⟨v, rfl, hR⟩
  have HR := Lib.hid hR
  clear hR
  go_wp2
  go_ret
  exact ⟨_, rfl, HR.out⟩
end Go.Proofs.YtecgkcofmphaiaaGreatDoor.Gpk
