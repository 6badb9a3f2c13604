/-
  What is proved here: the contract of the shuffled pairs (shuffled): it returns a list of no more pairs in new memory, and turns nothing but the reader's own place.
  Conditions: the list has at most 40 pairs, fewer than 2^32 numbers have been drawn.
-/
import Derived.Test.YtmldacjpbifoaaaSome
import Derived.Test.YtmldacjpbifoaaaSMap
import Derived.Deep.Cut
import Derived.Deep.RegionHeld3
namespace Go.Proofs.Ytmldacjpbifoaaa
open Go.RowKit Go.Maps

set_option maxRecDepth 100000 in
set_option maxHeartbeats 8000000 in
theorem shuffled_any (r q : Nat) (A : Option Addr) (n c : Nat) (xs : List (I × I)) (w : World) (h : Rd w r q) (hx : Has w 2 A n (cells2 xs)) (hn : n ≤ 40) (hq : q ≤ 4294960000) :
    Calls Try.prog 28 #[.pointer (some ⟨r, 0, none⟩), .slice A n c] w fun e w' => ∃ A' n' c' ys, e = .returned (.slice A' n' c') ∧ OwnP w' w.heap.size A' n' c' ys ∧ n' ≤ 40 ∧ Rd w' r (q + 100) ∧ w.grownBy w' (some r) := by
  have H := Lib.hid h
  have HX := Lib.hid hx
  have hlt : r < w.heap.size := h.lt
  have hlen := hx.len2
  clear h hx
  go_enter Try.func28, Try.ntmps28
  go_wp2_with fail
  refine (smap_any A n c xs _ (HX.out.kept (World.grownBy_alloc w _ none)) (by omega)).mono ?_
  rintro e w1 ⟨A1, n1, c1, rfl, o1, g1⟩
  have hn1 : n1 ≤ 40 := by
    have e1 := o1.len
    have e2 := Plain.length_mapOf_le xs
    omega
  have om := Lib.hid ((Own.made (f := twoI) (E := 64) (base := w.heap.size) w (Nat.le_refl _)).keptN g1)
  have G1 := Lib.hid ((World.grownBy_alloc w (.cells #[] 64) none).trans g1)
  have O1 := Lib.hid o1
  clear o1 g1
  go_wp2_with (first
    | (at_builtin; refine wpList_app (base := w.heap.size) (xs := []) (ys := Plain.mapOf xs) twoP oneP _ rfl (.tmp 9) (.tmp 11) rfl rfl om.out rfl O1.out.has (by unfold maxLen; omega) (by omega) G1.out.size ?_; intro A2 c2 w2 o2 g2 _)
    | fail)
  rw [Nat.zero_add] at o2
  have H2 := Lib.hid (om.out.rd hlt (H.out.keptN G1.out) g2)
  have G2 := Lib.hid (om.out.past (G1.out.but (some r)) g2)
  have O2 := Lib.hid o2
  clear o2 g2 om G1 O1
  go_loopw [6] (fun i wr => ∃ (k : Nat) (ys : List (I × I)), k ≤ n1 ∧ i = .int .i64 (k : Int) ∧ Hid (OwnP wr w.heap.size A2 n1 c2 ys) ∧ Hid (Rd wr r (q + k)) ∧ Hid (w.grownBy wr (some r)))
    (fun i _ => n1 - (intOf i).toNat)
  case atStart => exact ⟨0, _, by omega, rfl, O2, H2, G2⟩
  case round =>
    clear O2 H2 G2
    obtain ⟨k, ys, hk, rfl, ho, hr, hG⟩ := hrel
    by_cases hkn : k < n1
    · have i1 : (0 : Int) ≤ (k : Int) := by omega
      have i2 : (k : Int) < (n1 : Int) := by omega
      go_wp2_with fail
      refine (pick_any r _ n1 _ hr.out (by omega) (by omega) (by omega)).mono ?_
      rintro e w3 ⟨i, rfl, hi, hr3, g3⟩
      have H3 := Lib.hid hr3
      have O3 := Lib.hid (ho.out.keptR hlt g3)
      have G3 := Lib.hid (hG.out.trans g3)
      clear hr3 ho hr hG g3
      have hky : k < ys.length := by have := O3.out.len; omega
      have hiy : i < ys.length := by have := O3.out.len; omega
      obtain ⟨g, rfl, hgb, hgl, e1, e2, f1, f2⟩ := O3.out.at_ hky
      obtain ⟨g', hgg, _, _, e3, e4, f3, f4⟩ := O3.out.at_ hiy
      cases hgg
      obtain ⟨pk, hpk⟩ : ∃ p, p = ys[k] := ⟨_, rfl⟩
      obtain ⟨pi, hpi⟩ : ∃ p, p = ys[i] := ⟨_, rfl⟩
      rw [← hpk] at e1 e2
      rw [← hpi] at e3 e4
      simp only [twoI] at e1 e2 e3 e4
      clear hpk hpi
      have j1 : (0 : Int) ≤ (i : Int) := by omega
      have j2 : (i : Int) < (n1 : Int) := by omega
      go_upto_region 8 with fail
      obtain ⟨os, gs⟩ := O3.out.store hky pi
      simp only [twoI] at os gs
      have P8 := PairAt.made ((w3.setCell ⟨g, k * 2, none⟩ (.int .i64 pi.1.1)).setCell ⟨g, k * 2 + 1, none⟩ (.int .i64 pi.2.1)) (.int .i64 pk.1.1) (.int .i64 pk.2.1) 64
      rw [show ((w3.setCell ⟨g, k * 2, none⟩ (.int .i64 pi.1.1)).setCell ⟨g, k * 2 + 1, none⟩ (.int .i64 pi.2.1)).heap.size = w3.heap.size from by simp] at P8
      have O8 := os.alloc (.cells #[.int .i64 pk.1.1, .int .i64 pk.2.1] 64)
      have g8 := galloc gs (.cells #[.int .i64 pk.1.1, .int .i64 pk.2.1] 64)
      clear os gs e1 e2 e3 e4 f1 f2 f3 f4
      generalize ((w3.setCell ⟨g, k * 2, none⟩ (.int .i64 pi.1.1)).setCell ⟨g, k * 2 + 1, none⟩ (.int .i64 pi.2.1)).alloc (.cells #[.int .i64 pk.1.1, .int .i64 pk.2.1] 64) = w8 at P8 O8 g8 ⊢
      have H8 := Lib.hid (H3.out.kept g8 (fun j hj => by injection hj with hj; omega))
      have G8 := Lib.hid (World.grownBy.andThen (row := some r) G3.out g8 (fun j hj => .inl (by injection hj with hj; omega)))
      have hiy8 : i < (ys.set k pi).length := by simpa using hiy
      obtain ⟨g', hgg, _, _, e3, e4, f3, f4⟩ := O8.at_ hiy8
      cases hgg
      have O9 := Lib.hid (O8.store hiy8 pk)
      have c0 := P8.c0
      have c1 := P8.c1
      have hgne : g < w3.heap.size := hgl
      clear P8 O8 g8 H3 O3 G3
      generalize w3.heap.size = gp at c0 c1 hgne hgl ⊢
      go_wp2_with fail
      go_roundw
      case rel =>
        obtain ⟨o9, g9⟩ := O9.out
        exact ⟨k + 1, (ys.set k pi).set i pk, by omega, by go_num, Lib.hid o9, Lib.hid ((H8.out.kept g9 (fun j hj => by injection hj with hj; omega)).le (by omega)), Lib.hid (World.grownBy.andThen (row := some r) G8.out g9 (fun j hj => .inl (by injection hj with hj; omega)))⟩
      case measure => simp [intOf]; omega
    · obtain rfl : k = n1 := by omega
      by_cases h0 : k = 0
      · subst h0
        go_wp2_with fail
        go_ret
        exact ⟨A2, 0, c2, ys, rfl, ho.out, by omega, hr.out.le (by omega), hG.out⟩
      · have hkp : (0 : Int) < (k : Int) := by omega
        go_wp2_with fail
        refine (pick_any r _ 3 _ hr.out (by omega) (by omega) (by omega)).mono ?_
        rintro e w3 ⟨x, rfl, hx, hr3, g3⟩
        have H3 := Lib.hid hr3
        have O3 := Lib.hid (ho.out.keptR hlt g3)
        have G3 := Lib.hid (hG.out.trans g3)
        clear hr3 ho hr hG g3
        by_cases hx0 : x = 0
        · subst hx0
          have hky : 0 < ys.length := by have := O3.out.len; omega
          obtain ⟨g, rfl, hgb, hgl, e1, e2, f1, f2⟩ := O3.out.at_ hky
          obtain ⟨pk, hpk⟩ : ∃ p, p = ys[0] := ⟨_, rfl⟩
          rw [← hpk] at e1 e2
          simp only [twoI] at e1 e2
          have HP := Lib.hid hpk
          clear hpk
          go_wp2_with fail
          simp only [Nat.zero_mul, Nat.zero_add] at e2 f2
          clear e1 f1
          have E2 := Lib.hid e2
          have F2 := Lib.hid f2
          go_region_with
            (first
              | (go_at_call 16; refine (pick_any r (q + k + 1) 3 _ (by first | exact H3.out | exact H3.out.drew | exact H3.out.drewN _ | exact H3.out.drew.drew) (by omega) (by omega) (by omega)).mono ?_; rintro e w4 ⟨y, rfl, hy, hr4, g4⟩; have C4 := Lib.hid (g4.cell (a := ⟨g, 1, none⟩) E2.out (by intro e; injection e with e; exact absurd (show g = r from e) (by omega)));
                 have F4 := Lib.hid ((g4.frozen_far ⟨g, 1, none⟩ hgl (by intro e; injection e with e; exact absurd (show g = r from e) (by omega))).trans F2.out); have c4 := C4.out; have f4 := F4.out))
          all_goals
            have g4 : w3.grownBy w4 (some r) := by first | exact g4 | exact (gdrew (World.grownBy.refl w3 _)).trans g4
            have O4 : OwnP w4 w.heap.size (some ⟨g, 0, none⟩) k c2 ys := O3.out.keptR (w' := w4) hlt g4
            have H4 := Lib.hid hr4
            have G4 : w.grownBy w4 (some r) := G3.out.trans g4
            clear hr4 g4
            obtain ⟨o5, g5⟩ := O4.store2 (j := 0) hky (p := (pk.1, ⟨IntKind.i64.wrap (pk.2.1 + (y : Int)), i64_wf _⟩)) (by rw [← HP.out]; rfl)
            have O5 := Lib.hid o5
            have H5 := Lib.hid (H4.out.kept g5 (fun j hj => by injection hj with hj; omega))
            have G5 := Lib.hid (World.grownBy.andThen (row := some r) G4 g5 (fun j hj => .inl (by injection hj with hj; omega)))
            clear o5 g5 H4 G4 O4
            go_wp2_with fail
            go_ret
            exact ⟨_, k, c2, _, rfl, O5.out, by omega, H5.out.le (by omega), G5.out⟩
        · have hbx : ((x : Int) == 0) = false := by simp; omega
          go_wp2_with fail
          go_ret
          exact ⟨A2, k, c2, ys, rfl, O3.out, by omega, H3.out.le (by omega), G3.out⟩
end Go.Proofs.Ytmldacjpbifoaaa
