/-
  What is proved here: the contract of the reference's function that holds two lists of pairs of texts against each other, both ways.
  Conditions: each list has fewer than 2^43 pairs.
-/
import Derived.Test.YtmldacjpbifoaaaSTa
namespace Go.Proofs.Ytmldacjpbifoaaa
open Go.RowKit Go.Maps

set_option maxRecDepth 100000 in
set_option maxHeartbeats 4000000 in
theorem sequalT_any (A B : Option Addr) (n c m d : Nat) (xs ys : List (Tx × Tx)) (w : World) (hx : Has w 2 A n (cellsBy twoT xs)) (hy : Has w 2 B m (cellsBy twoT ys)) (hn : n ≤ 8796093022208) (hm : m ≤ 8796093022208) :
    Calls Try.prog 9 #[.slice A n c, .slice B m d] w (Tells (Same eqvT xs ys) w) := by
  have hlxs := Lib.hid hx.lenBy
  have hlys := Lib.hid hy.lenBy
  have Hxs := Lib.hid hx
  have Hys := Lib.hid hy
  clear hx hy
  go_enter Try.func9, Try.ntmps9
  go_wp2
  go_loopw [5] (fun v wi => ∃ j : Nat, v = .int .i64 j ∧ j ≤ n ∧ Hid (∀ t (h1 : t < xs.length), t < j → lastB xs t = true → hasP eqvT ys (xs[t]).1 (xs[t]).2 = true) ∧ w.grownBy wi none)
    (fun v _ => n - (intOf v).toNat)
  case atStart => exact ⟨0, rfl, Nat.zero_le _, fun t _ h => absurd h (by omega), World.grownBy.refl _ _⟩
  case round =>
    obtain ⟨j, rfl, hj, hall, hgw⟩ := hrel
    by_cases hjl : j < n
    · have hjx : j < xs.length := by have := hlxs.out; omega
      have HAr := Lib.hid (Hxs.out.kept hgw)
      have HBr := Lib.hid (Hys.out.kept hgw)
      obtain ⟨b1, o1, rfl, _, e1, e2⟩ := HAr.out.two hjx
      obtain ⟨p, hp⟩ : ∃ p, p = xs[j] := ⟨_, rfl⟩
      rw [← hp] at e1 e2
      simp only [twoT] at e1 e2
      have HP := Lib.hid hp
      clear hp
      have i1 : (0 : Int) ≤ (j : Int) := by omega
      have i2 : (j : Int) < (n : Int) := by omega
      have hcl := fun q => Calls.quiet_of (lastT_any (some ⟨b1, o1, none⟩) n c j xs (wr.drewN q) HAr.out (by omega) hjl)
      have hch := fun q => Calls.quiet_of_same (hasT_any B m d ys p (wr.drewN q) HBr.out (by omega))
      have HCL := Lib.hid hcl
      have HCH := Lib.hid hch
      clear hcl hch
      cases hb1 : lastB xs j
      · rw [hb1] at HCL
        go_wp2
        go_quiet ((go_at_call 20; exact HCL.out _))
        go_wp2
        go_roundw
        case rel =>
          refine ⟨j + 1, by go_num, by omega, fun t h3 htj hl => ?_, gdrewN hgw _⟩
          by_cases ht' : t < j
          · exact hall.out t h3 ht' hl
          · obtain rfl : t = j := by omega
            rw [hb1] at hl
            cases hl
        case measure => simp [intOf]; omega
      · rw [hb1] at HCL
        cases hb2 : hasP eqvT ys p.1 p.2
        · rw [hb2] at HCH
          have HBAD : Hid (¬ Same eqvT xs ys) := fun h => by
            have h5 := ((spec_same eqvT_symm xs ys).2 h).1 j hjx ((lastB_iff hjx).1 hb1)
            rw [← HP.out, hb2] at h5
            cases h5
          go_wp2
          go_quiet (first | (go_at_call 20; exact HCL.out _) | (go_at_call 21; exact HCH.out _))
          go_wp2
          go_ret
          exact ⟨false, rfl, ⟨(fun h => Bool.noConfusion h), fun h => absurd h HBAD.out⟩, gdrewN hgw _⟩
        · rw [hb2] at HCH
          go_wp2
          go_quiet (first | (go_at_call 20; exact HCL.out _) | (go_at_call 21; exact HCH.out _))
          go_wp2
          go_roundw
          case rel =>
            refine ⟨j + 1, by go_num, by omega, fun t h3 htj hl => ?_, gdrewN hgw _⟩
            by_cases ht' : t < j
            · exact hall.out t h3 ht' hl
            · obtain rfl : t = j := by omega
              rw [← HP.out]
              exact hb2
          case measure => simp [intOf]; omega
    · have hall1 := hall
      have hgw1 := hgw
      have hjn : n ≤ j := by omega
      clear hall hgw
      go_wp2
      obtain ⟨w1, hw1⟩ : ∃ wo : World, wo = wr := ⟨_, rfl⟩
      rw [← hw1] at hgw1 ⊢
      clear hw1
      go_loopw [6] (fun v wi => ∃ j : Nat, v = .int .i64 j ∧ j ≤ m ∧ Hid (∀ t (h1 : t < ys.length), t < j → lastB ys t = true → hasP eqvT xs (ys[t]).1 (ys[t]).2 = true) ∧ w.grownBy wi none)
        (fun v _ => m - (intOf v).toNat)
      case atStart => exact ⟨0, rfl, Nat.zero_le _, fun t _ h => absurd h (by omega), hgw1⟩
      case round =>
        obtain ⟨j, rfl, hj, hall, hgw⟩ := hrel
        by_cases hjl : j < m
        · have hjx : j < ys.length := by have := hlys.out; omega
          have HAr := Lib.hid (Hys.out.kept hgw)
          have HBr := Lib.hid (Hxs.out.kept hgw)
          obtain ⟨b1, o1, rfl, _, e1, e2⟩ := HAr.out.two hjx
          obtain ⟨p, hp⟩ : ∃ p, p = ys[j] := ⟨_, rfl⟩
          rw [← hp] at e1 e2
          simp only [twoT] at e1 e2
          have HP := Lib.hid hp
          clear hp
          have i1 : (0 : Int) ≤ (j : Int) := by omega
          have i2 : (j : Int) < (m : Int) := by omega
          have hcl := fun q => Calls.quiet_of (lastT_any (some ⟨b1, o1, none⟩) m d j ys (wr.drewN q) HAr.out (by omega) hjl)
          have hch := fun q => Calls.quiet_of_same (hasT_any A n c xs p (wr.drewN q) HBr.out (by omega))
          have HCL := Lib.hid hcl
          have HCH := Lib.hid hch
          clear hcl hch
          cases hb1 : lastB ys j
          · rw [hb1] at HCL
            go_wp2
            go_quiet ((go_at_call 20; exact HCL.out _))
            go_wp2
            go_roundw
            case rel =>
              refine ⟨j + 1, by go_num, by omega, fun t h3 htj hl => ?_, gdrewN hgw _⟩
              by_cases ht' : t < j
              · exact hall.out t h3 ht' hl
              · obtain rfl : t = j := by omega
                rw [hb1] at hl
                cases hl
            case measure => simp [intOf]; omega
          · rw [hb1] at HCL
            cases hb2 : hasP eqvT xs p.1 p.2
            · rw [hb2] at HCH
              have HBAD : Hid (¬ Same eqvT xs ys) := fun h => by
                have h5 := ((spec_same eqvT_symm xs ys).2 h).2 j hjx ((lastB_iff hjx).1 hb1)
                rw [← HP.out, hb2] at h5
                cases h5
              go_wp2
              go_quiet (first | (go_at_call 20; exact HCL.out _) | (go_at_call 21; exact HCH.out _))
              go_wp2
              go_ret
              exact ⟨false, rfl, ⟨(fun h => Bool.noConfusion h), fun h => absurd h HBAD.out⟩, gdrewN hgw _⟩
            · rw [hb2] at HCH
              go_wp2
              go_quiet (first | (go_at_call 20; exact HCL.out _) | (go_at_call 21; exact HCH.out _))
              go_wp2
              go_roundw
              case rel =>
                refine ⟨j + 1, by go_num, by omega, fun t h3 htj hl => ?_, gdrewN hgw _⟩
                by_cases ht' : t < j
                · exact hall.out t h3 ht' hl
                · obtain rfl : t = j := by omega
                  rw [← HP.out]
                  exact hb2
              case measure => simp [intOf]; omega
        · go_wp2
          go_ret
          exact ⟨true, rfl, ⟨fun _ => (spec_same eqvT_symm xs ys).1 ⟨fun i h hl => hall1.out i h (by have := hlxs.out; omega) ((lastB_iff h).2 hl), fun i h hl => hall.out i h (by have := hlys.out; omega) ((lastB_iff h).2 hl)⟩, fun _ => rfl⟩, hgw⟩
end Go.Proofs.Ytmldacjpbifoaaa
