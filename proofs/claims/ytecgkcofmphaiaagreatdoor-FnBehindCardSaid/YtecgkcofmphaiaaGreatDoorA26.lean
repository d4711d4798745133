/- Whether a list of parts begins with another.
   The law: any bytes are taken apart as the reference tells. -/
import Derived.LoopTactic
import Derived.Test.YtecgkcofmphaiaaGreatDoorA18
import Derived.Test.YtecgkcofmphaiaaGreatDoorA25
set_option linter.unusedVariables false
set_option linter.unusedSimpArgs false
set_option linter.unnecessarySimpa false
set_option linter.unusedSectionVars false
namespace Go.Proofs.YtecgkcofmphaiaaGreatDoor.Gpk
open Go.RowKit
set_option linter.unusedVariables false
def natV : Value → Nat | .int _ n => n.toNat | _ => 0
theorem same_q (u v : Value) (f : Nat → Nat) (n : Nat) (w : World) (hu : Bts w u f n) (hv : Bts w v f n) (hf : IsB f) (k : Nat) : Calls Tryz.prog 20 #[u, v] (w.drewN k) fun e w' => e = .returned (.bool true) ∧ ∃ m, w' = w.drewN m :=
  (same u v f n (w.drewN k) hu hv hf).mono fun _ _ h => ⟨h.1, k, h.2.symm⟩
set_option maxRecDepth 100000 in
set_option maxHeartbeats 2000000 in
theorem begins (V1 V2 : Value) (k1 k2 : Nat) (xs1 xs2 : List Value) (b1 b2 : Nat) (w : World) (ho1 : w.ownsRow b1 69 3 V1 k1 xs1) (ho2 : w.ownsRow b2 69 3 V2 k2 xs2) (hk : k2 ≤ k1) (hs1 : k1 ≤ 1000) (hs : ∀ i, i < k2 → Alike w xs1 xs2 i) :
    Calls Tryz.prog 12 #[V1, V2] w fun e w' => e = .returned (.bool true) ∧ Below w.heap.size w w' := by
  by_cases h0 : k2 = 0
  · subst h0
    obtain ⟨a1, c1, rfl⟩ : ∃ a c, V1 = .slice a k1 c := by rcases ho1.2 with ⟨rfl, rfl⟩ | ⟨g, cap, cur, rfl, _⟩ <;> exact ⟨_, _, rfl⟩
    obtain ⟨a2, c2, rfl⟩ : ∃ a c, V2 = .slice a 0 c := by rcases ho2.2 with ⟨rfl, _⟩ | ⟨g, cap, cur, rfl, _⟩ <;> exact ⟨_, _, rfl⟩
    have n0 : ¬ ((k1 : Int) < 0) := by omega
    go_enter Tryz.func12, Tryz.ntmps12
    go_wp2_with fail
    refine wp_loop_rounds 1 ?_
    rw [rounds_succ]
    go_wp2
    go_ret
    exact ⟨rfl, Below.refl _ _⟩
  · obtain ⟨g1, c1, rfl, _, hg1⟩ := ho1.form (by omega)
    obtain ⟨g2, c2, rfl, _, hg2⟩ := ho2.form (by omega)
    have r1 := fun j u => ho1.cells (g := g1) rfl j u
    have r2 := fun j u => ho2.cells (g := g2) rfl j u
    have hadd : ∀ g j, (⟨g, 0, none⟩ : Addr).add j = ⟨g, j, none⟩ := fun g j => by unfold Addr.add; split <;> simp_all
    simp only [hadd] at r1 r2
    have n0 : ¬ ((k1 : Int) < (k2 : Int)) := by omega
    go_enter Tryz.func12, Tryz.ntmps12
    go_wp2_with fail
    go_loopw [14] (fun t wr => ∃ i : Nat, t = .int .i64 (i : Nat) ∧ i ≤ k2 ∧ Hid (Below w.heap.size w wr)) (fun t _ => k2 - natV t)
    case atStart => exact ⟨0, rfl, Nat.zero_le _, Lib.hid (Below.refl _ _)⟩
    case round =>
      obtain ⟨i, rfl, hi, HB⟩ := hrel
      by_cases hlt : i < k2
      · obtain ⟨s, a, b, a', b', n, m, f, g, p0, p1, p2, p3, p4, p5, hf, hg, sa, sa', sb, sb'⟩ := hs i hlt
        obtain ⟨xa, ca, rfl⟩ : ∃ x c, a = .slice x n c := by obtain ⟨x, c, h, _⟩ := sa; exact ⟨x, c, h⟩
        obtain ⟨xa', ca', rfl⟩ : ∃ x c, a' = .slice x n c := by obtain ⟨x, c, h, _⟩ := sa'; exact ⟨x, c, h⟩
        obtain ⟨xb, cb, rfl⟩ : ∃ x c, b = .slice x m c := by obtain ⟨x, c, h, _⟩ := sb; exact ⟨x, c, h⟩
        obtain ⟨xb', cb', rfl⟩ : ∃ x c, b' = .slice x m c := by obtain ⟨x, c, h, _⟩ := sb'; exact ⟨x, c, h⟩
        have e0 := (HB.out.cell (p := ⟨g1, i * 3, none⟩) hg1).trans (r1 _ _ p0)
        have e1 := (HB.out.cell (p := ⟨g1, i * 3 + 1, none⟩) hg1).trans (r1 _ _ p1)
        have e2 := (HB.out.cell (p := ⟨g1, i * 3 + 2, none⟩) hg1).trans (r1 _ _ p2)
        have e3 := (HB.out.cell (p := ⟨g2, i * 3, none⟩) hg2).trans (r2 _ _ p3)
        have e4 := (HB.out.cell (p := ⟨g2, i * 3 + 1, none⟩) hg2).trans (r2 _ _ p4)
        have e5 := (HB.out.cell (p := ⟨g2, i * 3 + 2, none⟩) hg2).trans (r2 _ _ p5)
        have n1 : (i : Int) < (k2 : Int) := by omega
        have n2 : (i : Int) < (k1 : Int) := by omega
        have n3 : (0 : Int) ≤ (i : Int) := by omega
        have n4 : ((i : Int)).toNat = i := by omega
        have n5 : IntKind.i64.wrap ((i : Int) + 1) = (i : Int) + 1 := by rw [IntKind.wrap_i64]; omega
        have hsz := HB.out.size
        have hg1' : g1 < wr.heap.size := by omega
        have hg2' : g2 < wr.heap.size := by omega
        have hal := fun (ob : Obj) => (Below.refl wr.heap.size wr).alloc (Nat.le_refl _) ob
        have HQ1 := Lib.hid (fun (ob : Obj) (k : Nat) => same_q _ _ f n (wr.alloc ob) ((sa.below HB.out).below (hal ob)) ((sa'.below HB.out).below (hal ob)) hf k)
        have HQ2 := Lib.hid (fun (ob : Obj) (k : Nat) => same_q _ _ g m (wr.alloc ob) ((sb.below HB.out).below (hal ob)) ((sb'.below HB.out).below (hal ob)) hg k)
        clear sa sa' sb sb' hal
        go_wp2_with fail
        go_quiet ((go_at_call 20; first | exact HQ1.out _ _ | exact HQ2.out _ _))
        go_wp2_with fail
        go_roundw
        case rel => exact ⟨i + 1, rfl, by omega, Lib.hid (by first | exact below_drewN (HB.out.alloc (by omega) _) _ | exact HB.out.alloc (by omega) _)⟩
        case measure => simp [natV]; omega
      · have n1 : ¬ ((i : Int) < (k2 : Int)) := by omega
        go_wp2
        go_ret
        exact ⟨rfl, HB.out⟩
end Go.Proofs.YtecgkcofmphaiaaGreatDoor.Gpk
namespace Go.Proofs.YtecgkcofmphaiaaGreatDoor.Gpk
open Go.RowKit
set_option linter.unusedVariables false
set_option maxRecDepth 100000 in
set_option maxHeartbeats 2000000 in
theorem isApart (D q n c : Nat) (A : Option Addr) (f : Nat → Nat) (w : World) (hA : 0 < n → A = some ⟨D, q, none⟩) (hB : Byt w D q f n) (hf : IsB f) (hc : n ≤ c) (hcm : c ≤ maxLen) (hn6 : n ≤ 1000000) :
    Calls Tryz.prog 6 #[.slice A n c, .slice A n c] w fun e w' => e = .returned (.bool true) ∧ Below w.heap.size w w' := by
  have hbts : Bts w (.slice A n c) f n := ⟨A, c, rfl, hc, hcm, by
    by_cases h0 : n = 0
    · exact .inl h0
    · exact .inr ⟨D, q, hA (by omega), hB⟩⟩
  go_enter Tryz.func6, Tryz.ntmps6
  go_wp2_with fail
  refine (specApart D q n c A f w hA hB hf hc hcm).mono ?_
  rintro e w1 ⟨V, k, xs, told, rfl, hb1, hown, hk, htold⟩
  have HB1 := Lib.hid hb1
  have HO := Lib.hid hown
  have HT := Lib.hid htold
  clear hb1 hown htold
  cases told
  · go_wp2
    go_ret
    exact ⟨rfl, HB1.out⟩
  · obtain ⟨ps, rfl, hch, hrow⟩ := HT.out rfl
    have HR := Lib.hid hrow
    clear hrow
    go_wp2_with fail
    refine (implApart n _ f ps w1 (hbts.below HB1.out) hf hch hk hn6).mono ?_
    rintro e w2 ⟨V2, xs2, ls, rfl, hb2, hown2, hls, hp, hrow2⟩
    have HB2 := Lib.hid hb2
    have HO2 := Lib.hid hown2
    have HR2 := Lib.hid hrow2
    clear hb2 hown2 hrow2
    have hB2 : Byt w2 D q f n := by
      intro i hi
      have hD := hB.lt (by omega)
      have h1 := hB.below HB1.out hD
      exact (h1.below HB2.out (by have := HB1.out.size; omega)) i hi
    go_wp2_with fail
    refine (begins V2 V ls.length ps.length xs2 xs _ _ w2 HO2.out (ownBelow HO.out HB2.out) hp.len (by omega) (alike hf hB2 HR2.out HR.out hp (fun x hx => by have := hch.within x hx; omega))).mono ?_
    rintro e w3 ⟨rfl, hb3⟩
    have HB3 := Lib.hid hb3
    clear hb3
    go_wp2
    go_ret
    have h1 := HB1.out.size
    have h2 := HB2.out.size
    exact ⟨rfl, (HB1.out.trans (HB2.out.mono h1)).trans (HB3.out.mono (by omega))⟩
set_option maxRecDepth 100000 in
set_option maxHeartbeats 2000000 in
theorem fnApart (D q n c : Nat) (A : Option Addr) (f : Nat → Nat) (w : World) (hA : 0 < n → A = some ⟨D, q, none⟩) (hB : Byt w D q f n) (hf : IsB f) (hc : n ≤ c) (hcm : c ≤ maxLen) :
    Calls Tryz.prog 3 #[.slice A n c] w fun e w' => e = .returned (.bool true) ∧ Below w.heap.size w w' := by
  by_cases h1 : 2147483647 < n
  · have g1 : (2147483647 : Int) < (n : Int) := by omega
    go_enter Tryz.func3, Tryz.ntmps3
    go_wp2
    go_ret
    exact ⟨rfl, Below.refl _ _⟩
  · have g1 : ¬ ((2147483647 : Int) < (n : Int)) := by omega
    by_cases h2 : 65536 < n
    · have g2 : (65536 : Int) < (n : Int) := by omega
      go_enter Tryz.func3, Tryz.ntmps3
      go_wp2
      go_ret
      exact ⟨rfl, Below.refl _ _⟩
    · have g2 : ¬ ((65536 : Int) < (n : Int)) := by omega
      go_enter Tryz.func3, Tryz.ntmps3
      go_wp2_with fail
      refine (isApart D q n c A f w hA hB hf hc hcm (by omega)).mono ?_
      rintro e w1 ⟨rfl, hb1⟩
      have HB1 := Lib.hid hb1
      clear hb1
      go_wp2
      go_ret
      exact ⟨rfl, HB1.out⟩
end Go.Proofs.YtecgkcofmphaiaaGreatDoor.Gpk
