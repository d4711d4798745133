/- A packet as bytes, from its innermost header on. -/
import Derived.Test.YtecgkcofmphaiaaGreatDoorS21
set_option linter.unusedVariables false
set_option linter.unusedSimpArgs false
set_option linter.unnecessarySimpa false
set_option linter.unusedSectionVars false
namespace Go.Proofs.YtecgkcofmphaiaaGreatDoor.Gpk
open Go.RowKit
set_option linter.unusedVariables false
theorem belowGrownA {w wr w1 : World} {Y : Obj} {n : Nat} {v : Value} (hb : Below w.heap.size w wr) (h : OwnB wr w.heap.size v n) (hg : (wr.alloc Y).grownBy w1 v.ownBlock) : Below w.heap.size w w1 :=
  (hb.alloc hb.size Y).grown hg (by have := hb.size; simp; omega) (fun k hk => (h.lt k hk).1)
theorem PcsV.take {w : World} {b o : Nat} {ps : List Pc} (h : PcsV w b o ps) (n : Nat) : PcsV w b o (ps.take n) := fun i p hp => h i p (take_get hp)
set_option maxRecDepth 100000 in
set_option maxHeartbeats 4000000 in
theorem Written_ (A : Option Addr) (c n : Nat) (ps : List Pc) (P : Option Addr) (m k : Nat) (w : World) (hl : ps.length = n) (hp : PcSl w A ps) (hok : ∀ p ∈ ps, PcOk p) (hn : n ≤ 8) (hc : n ≤ c) (hpl : BB w (.slice P m k) m) (hm : m ≤ 2000) : Calls Tryz.prog 10 #[.slice A n c, .slice P m k] w (RBm 20000 w) := by
  have HP := Lib.hid hp
  have HK := Lib.hid hok
  have HL := Lib.hid hl
  have HE := Lib.hid hpl
  clear hp hok hl hpl
  go_enter Tryz.func10, Tryz.ntmps10
  go_wp2_with (at_builtin; (refine wpList_append_bytes rfl (.tmp 7) (.tmp 8) rfl w.heap.size _ _ 0 m rfl rfl (OwnB.made w #[] w.heap.size (Nat.le_refl _) (by simp) (by simp)) (HE.out.past _) (by simp) (by omega) ?_))
  intro ao0 co0 w1 hown hgrow
  have HO1 := Lib.hid hown
  have HB1 := Lib.hid (((Below.refl w.heap.size w).alloc (Nat.le_refl _) (.cells #[] 5)).grown hgrow (by simp) (fun k hk => ((OwnB.made w #[] w.heap.size (Nat.le_refl _) (by simp) (by simp)).lt k hk).1))
  clear hown hgrow
  go_wp2_with fail
  go_loopw [5, 6] (fun t3 t4 wr => ∃ (j q : Nat) (ao : Option Addr) (co : Nat), t4 = .int .i64 (j : Nat) ∧ j ≤ n ∧ t3 = .slice ao q co ∧ q ≤ 2000 + (n - j) * 1100 ∧ Hid (OwnB wr w.heap.size (.slice ao q co) q) ∧ Hid (Below w.heap.size w wr)) (fun _ t4 _ => natX t4)
  case atStart => exact ⟨n, m, ao0, co0, rfl, Nat.le_refl _, rfl, by omega, HO1, HB1⟩
  case round =>
    obtain ⟨j, q, ao, co, rfl, hj, rfl, hq, HO, HB⟩ := hrel
    by_cases h0 : j = 0
    · subst h0
      go_wp2_with fail
      go_ret
      exact ⟨q, ao, co, by omega, rfl, HO.out, HB.out⟩
    · obtain ⟨i, hji⟩ : ∃ i, j = i + 1 := ⟨j - 1, by omega⟩
      have m1 : (0 : Int) < (j : Int) := by omega
      have m2 : (0 : Int) ≤ (j : Int) := by omega
      have m3 : (j : Int) ≤ (c : Int) := by omega
      have m4 : ((j : Int)).toNat = j := by omega
      have m5 : IntKind.i64.wrap ((j : Int) - 1) = (i : Int) := by rw [IntKind.wrap_i64]; omega
      have m6 : (0 : Int) ≤ (i : Int) := by omega
      have m7 : (i : Int) < (n : Int) := by omega
      have m8 : ((i : Int)).toNat = i := by omega
      have m9 : i < n := by omega
      have m10 : j ≤ c := by omega
      have hil : i < ps.length := by have := HL.out; omega
      obtain ⟨b, o, rfl, hbw, hov⟩ := HP.out.resolve_left (by intro h; rw [h] at hil; simp at hil)
      obtain ⟨p, hxp⟩ : ∃ x, x = ps[i] := ⟨_, rfl⟩
      have hxi : ps[i]? = some p := by rw [hxp]; exact List.getElem?_eq_getElem hil
      have HX := Lib.hid (show (ps.take j)[i]? = some p by rw [List.getElem?_take, if_pos (by omega)]; exact hxi)
      have HV := Lib.hid (hov.below hbw HB.out)
      have HTL := Lib.hid (show (ps.take j).length = j by have := HL.out; simp; omega)
      have HTO := Lib.hid (show ∀ p ∈ ps.take j, PcOk p from fun p hp => HK.out p (List.mem_of_mem_take hp))
      have HJI := Lib.hid hji
      have HQ := Lib.hid hq
      have hbr : b < wr.heap.size := Nat.lt_of_lt_of_le hbw HB.out.size
      have HE0 := Lib.hid ((hov i p hxi).1 0 _ rfl)
      clear hxp hxi hov hji hq
      go_wp2_with fail
      refine (header_ b o c i j (ps.take j) p ao q co _ hbr (HV.out.take j) HTL.out HJI.out (by omega) (by have := HJI.out; omega) HX.out HTO.out HO.out.bb (by have := HQ.out; omega)).mono ?_
      rintro e w2 ⟨nh, ah, kh, hnh, rfl, ho, hbl⟩
      have HM := Lib.hid ((Made.call ((⟨Below.refl _ _, fun p hp => by cases hp⟩ : Made wr wr []).add HO.out.bb) ho hbl))
      have HBL := Lib.hid hbl
      clear ho hbl
      go_wp2_with fail
      refine (joinedAtM (m := nh + q) HM.out (by first | rfl | simp) (by rfl) (by simp [total, lenX]) (by simp [lenX]) (by have := HQ.out; omega) (by omega)).mono ?_
      rintro e w3 ⟨nj, aj, kj, hnj, rfl, ho, hbl⟩
      have HB2 := Lib.hid ((HB.out.trans (HBL.out.mono HB.out.size)))
      have HB3 := Lib.hid ((HB2.out.alloc HB2.out.size (.cells #[.slice ah nh kh, .slice ao q co] 22)).trans (hbl.mono (by have := HB2.out.size; simp; omega)))
      have HO3 := Lib.hid (ho.mono (by have := HB2.out.size; simp; omega : w.heap.size ≤ _))
      clear ho hbl
      go_wp2_with fail
      go_loopw [5] (fun t3 wr => ∃ (q : Nat) (ao : Option Addr) (co : Nat), t3 = .slice ao q co ∧ q ≤ 2000 + (n - i) * 1100 ∧ Hid (OwnB wr w.heap.size (.slice ao q co) q) ∧ Hid (Below w.heap.size w wr)) (fun t3 _ => 60 - lenX t3)
      case atStart => exact ⟨nj, aj, kj, rfl, by have := HQ.out; have := HJI.out; omega, HO3, HB3⟩
      case round =>
        obtain ⟨q2, ao2, co2, rfl, hq2, HO4, HB4⟩ := hrel
        have e0 := (HB4.out.cell (p := ⟨b, o + i * 70 + 0, none⟩) hbw).trans HE0.out
        rw [Nat.add_zero] at e0
        have HQ2 := Lib.hid hq2
        clear hq2
        by_cases hk : p.k = 1
        · rw [hk] at e0
          by_cases h60 : q2 < 60
          · have k1 : (q2 : Int) < 60 := by omega
            go_wp2_with (at_builtin; (refine wpList_append_bytes rfl (.tmp 36) (.tmp 37) rfl w.heap.size _ _ q2 1 rfl rfl (HO4.out.alloc _) (BB.one ⟨0, by decide, rfl⟩ (by simp)) (by have := HB4.out.size; simp; omega) (by omega) ?_))
            intro ao5 co5 w5 hown hgrow
            have HO5 := Lib.hid hown
            have HB5 := Lib.hid (belowGrownA HB4.out HO4.out hgrow)
            clear hown hgrow
            go_wp2_with fail
            go_roundw
            case rel => exact ⟨q2 + 1, ao5, co5, rfl, by omega, HO5, HB5⟩
            case measure => simp [lenX]; omega
          · have k1 : ¬ (q2 : Int) < 60 := by omega
            go_wp2_with fail
            go_roundw
            case rel => exact ⟨i, q2, ao2, co2, rfl, by omega, rfl, HQ2.out, HO4, HB4⟩
            case measure => have := HJI.out; simp [natX]; omega
        · have k0 : (p.k == 1) = false := by simpa using hk
          clear hk
          go_wp2_with fail
          go_roundw
          case rel => exact ⟨i, q2, ao2, co2, rfl, by omega, rfl, HQ2.out, HO4, HB4⟩
          case measure => have := HJI.out; simp [natX]; omega
end Go.Proofs.YtecgkcofmphaiaaGreatDoor.Gpk
