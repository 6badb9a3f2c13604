/-
  What is proved here: the contract of the drawn lists of pairs with related values (DrawRelated): three lists of at most 80 pairs each, in new memory.
  Conditions: the code has at most 2^20 bytes.
-/
import Derived.Test.YtgmeaedpbcimjaaDraw
import Derived.Test.YtgmeaedpbcimjaaAt
namespace Go.Proofs.Ytgmeaedpbcimjaa
open Go.RowKit Go.Maps

set_option maxRecDepth 100000 in
set_option maxHeartbeats 8000000 in
theorem drawRelated_any (A : Option Addr) (n c : Nat) (zs : List Int) (w : World) (h : Bytes w A n c zs) (hn : n ≤ 1048576) :
    Calls Try.prog 22 #[.slice A n c] w fun e w' => ∃ A1 n1 c1 xs A2 n2 c2 ys A3 n3 c3 vs, e = .returned (.tuple #[.slice A1 n1 c1, .slice A2 n2 c2, .slice A3 n3 c3]) ∧ Has w' 2 A1 n1 (cells2 xs) ∧ n1 ≤ 80 ∧ Has w' 2 A2 n2 (cells2 ys) ∧ n2 ≤ 80 ∧ Has w' 2 A3 n3 (cells2 vs) ∧ n3 ≤ 80 ∧ n3 ≤ c3 ∧ (∃ g, A3 = some ⟨g, 0, none⟩) ∧ w.grownBy w' none := by
  have hr0 := Lib.hid (Rd.made h hn 38)
  clear h
  go_enter Try.func22, Try.ntmps22
  go_wp2_with fail
  obtain ⟨w0, hw0⟩ : ∃ w0, w0 = w.alloc (.cells #[.slice A n c, .int .i64 0] 38) := ⟨_, rfl⟩
  rw [← hw0] at hr0 ⊢
  have W0 := Lib.hid hw0
  clear hw0
  obtain ⟨r, hr⟩ : ∃ r, r = w.heap.size := ⟨_, rfl⟩
  rw [← hr] at hr0 ⊢
  have HR := Lib.hid hr
  clear hr
  have hl0 : r < w0.heap.size := hr0.out.lt
  refine (somePairs_any r _ _ hr0.out (by omega)).mono ?_
  rintro e w1 ⟨A1, n1, c1, xs, rfl, o1, hn1, r1, g1⟩
  have R1 := Lib.hid r1
  have O1 := Lib.hid o1
  have G1 := Lib.hid g1
  clear r1 o1 g1 hr0
  go_wp2_with fail
  refine (shuffled_any r _ A1 n1 c1 xs _ R1.out O1.out.has hn1 (by omega)).mono ?_
  rintro e w2 ⟨A2, n2, c2, ys, rfl, o2, hn2, r2, g2⟩
  have R2 := Lib.hid r2
  have O1 := Lib.hid (O1.out.keptR hl0 g2)
  have O2 := Lib.hid (o2.mono G1.out.size)
  have G2 := Lib.hid (G1.out.trans g2)
  clear r2 o2 g2 R1 G1
  go_wp2_with fail
  refine (pick_any r _ 4 _ R2.out (by omega) (by omega) (by omega)).mono ?_
  rintro e wk ⟨x, rfl, hx, r3, g3⟩
  have R3 := Lib.hid (r3.le (q' := 2000) (by omega))
  have O1 := Lib.hid (O1.out.keptR hl0 g3)
  have O2 := Lib.hid (O2.out.keptR hl0 g3)
  have G3 := Lib.hid (G2.out.trans g3)
  clear r3 g3 R2 G2
  by_cases hx0 : x = 0
  · subst hx0
    clear hn2 O2
    go_wp2_with fail
    refine (somePairs_any r _ _ R3.out (by omega)).mono ?_
    rintro e w4 ⟨A2, n2, c2, ys, rfl, o2, hn2, r4, g4⟩
    have R3 := Lib.hid r4
    have O1 := Lib.hid (O1.out.keptR hl0 g4)
    have O2 := Lib.hid (o2.mono G3.out.size)
    have G3 := Lib.hid (G3.out.trans g4)
    have hl3 : r < w4.heap.size := r4.lt
    clear r4 o2 g4
    go_wp2_with fail
    go_loopw [8, 9] (fun v i wr => ∃ (k n' c' : Nat) (A' : Option Addr) (vs : List (I × I)), k ≤ n1 ∧ i = .int .i64 (k : Int) ∧ v = .slice A' n' c' ∧ n' ≤ k ∧ (∃ g, A' = some ⟨g, 0, none⟩) ∧ Hid (OwnP wr w4.heap.size A' n' c' vs) ∧ Hid (Rd wr r (3000 + k)) ∧ Hid (w4.grownBy wr (some r)))
      (fun _ i _ => n1 - (intOf i).toNat)
    case atStart => exact ⟨0, 0, 0, _, [], by omega, rfl, rfl, by omega, ⟨_, rfl⟩, Lib.hid (Own.made w4 (Nat.le_refl _)), Lib.hid (R3.out.keptN (World.grownBy_alloc _ _ _)), Lib.hid (World.grownBy_alloc _ _ _)⟩
    case round =>
      clear R3
      obtain ⟨k, n', c', A', vs, hk, rfl, rfl, hnk, hs, ho, hr, hG⟩ := hrel
      have HS := Lib.hid hs
      clear hs
      by_cases hkn : k < n1
      · have O4 := O1.out.keptR hl0 hG.out
        have Y4 := Lib.hid (O2.out.keptR hl0 hG.out).has
        have hkx : k < xs.length := by have := O4.len; omega
        obtain ⟨b, rfl, hb0, hb, e1, e2, _, _⟩ := O4.at_ hkx
        obtain ⟨p, hp⟩ : ∃ p, p = xs[k] := ⟨_, rfl⟩
        rw [← hp] at e1 e2
        simp only [twoI] at e1 e2
        clear hp O4
        have j0 : (0 : Int) ≤ (k : Int) := by omega
        have j1 : (k : Int) < (n1 : Int) := by omega
        go_wp2_with fail
        refine (sat_any A2 n2 c2 ys p.1 _ Y4.out (by omega)).mono ?_
        rintro e wz ⟨rfl, rfl⟩
        cases hl : Plain.last p.1 ys with
        | none =>
          simp only [vOf, Option.isSome]
          go_wp2_with fail
          go_roundw
          case rel => exact ⟨k + 1, n', c', A', vs, by omega, by go_num, rfl, by omega, HS.out, ho, Lib.hid (hr.out.le (by omega)), hG⟩
          case measure => simp [intOf]; omega
        | some v =>
          simp only [vOf, Option.isSome]
          clear hl Y4
          go_wp2_with fail
          refine (pick_any r _ 12 _ hr.out (by omega) (by omega) (by omega)).mono ?_
          rintro e w5 ⟨x, rfl, hx, r5, g5⟩
          have R5 := Lib.hid r5
          have O5 := Lib.hid (ho.out.keptR hl3 g5)
          have G5 := Lib.hid (hG.out.trans g5)
          have f2 := g5.cell e2 (by simp; omega)
          clear r5 g5 e1 e2 ho hG hr
          by_cases hx0 : x = 0
          · subst hx0
            go_wp2_with fail
            go_roundw
            case rel => exact ⟨k + 1, n', c', A', vs, by omega, by go_num, rfl, by omega, HS.out, O5, Lib.hid (R5.out.le (by omega)), G5⟩
            case measure => simp [intOf]; omega
          · have hxp : (0 : Int) < (x : Int) := by omega
            go_wp2_with (first
              | (at_builtin; refine wpList_app (base := w4.heap.size) (xs := vs) (ys := [(p.2, v)]) twoP oneP _ rfl (.tmp 49) (.tmp 57) rfl rfl (O5.out.alloc _) rfl (hasOne w5 (p.2, v)) (by unfold maxLen; omega) (by omega) (galloc G5.out _).size ?_; intro B9 d9 w9 o9 g9 alt)
              | fail)
            go_roundw
            case rel => exact ⟨k + 1, n' + 1, d9, B9, vs ++ [(p.2, v)], by omega, by go_num, rfl, by omega, o9.some_ (by omega), Lib.hid o9, Lib.hid (((O5.out.alloc _).rd hl3 (R5.out.keptN (World.grownBy_alloc _ _ _)) g9).le (by omega)), Lib.hid ((O5.out.alloc _).past (galloc G5.out _) g9)⟩
            case measure => simp [intOf]; omega
      · go_wp2_with fail
        refine (pick_any r _ 4 _ hr.out (by omega) (by omega) (by omega)).mono ?_
        rintro e w5 ⟨x, rfl, hx, r5, g5⟩
        have R5 := Lib.hid r5
        have O5 := Lib.hid (ho.out.keptR hl3 g5)
        have G5 := Lib.hid (hG.out.trans g5)
        clear r5 g5 ho hG hr
        go_wp2_with fail
        go_loopw [8, 12] (fun v i wr => ∃ (q n' c' : Nat) (A' : Option Addr) (vs : List (I × I)), q ≤ 4 ∧ i = .int .i64 (q : Int) ∧ v = .slice A' n' c' ∧ n' + q ≤ 44 ∧ (∃ g, A' = some ⟨g, 0, none⟩) ∧ Hid (OwnP wr w4.heap.size A' n' c' vs) ∧ Hid (Rd wr r (3100 + 2 * (4 - q))) ∧ Hid (w4.grownBy wr (some r)))
          (fun _ i _ => (intOf i).toNat)
        case atStart => exact ⟨x, n', c', A', vs, by omega, rfl, rfl, by omega, HS.out, O5, Lib.hid (R5.out.le (by omega)), G5⟩
        case round =>
          clear O5 R5 G5
          obtain ⟨q, n', c', A', vs, hq, rfl, rfl, hnq, hs, ho, hr, hG⟩ := hrel
          have HS := Lib.hid hs
          clear hs
          by_cases hq0 : 0 < q
          · have hqp : (0 : Int) < (q : Int) := by omega
            go_wp2_with fail
            refine (pick_any r _ 4 _ hr.out (by omega) (by omega) (by omega)).mono ?_
            rintro e w6 ⟨y1, rfl, hy1, r6, g6⟩
            have R6 := Lib.hid r6
            clear r6
            go_wp2_with fail
            refine (pick_any r _ 4 _ R6.out (by omega) (by omega) (by omega)).mono ?_
            rintro e w7 ⟨y2, rfl, hy2, r7, g7⟩
            have R7 := Lib.hid r7
            have O7 := Lib.hid ((ho.out.keptR hl3 g6).keptR hl3 g7)
            have G7 := Lib.hid ((hG.out.trans g6).trans g7)
            clear r7 g6 g7 ho hG hr R6
            go_wp2_with (first
              | (at_builtin; refine wpList_app (base := w4.heap.size) (xs := vs) (ys := [(⟨(y1 : Int), small_wf (by omega)⟩, ⟨(y2 : Int), small_wf (by omega)⟩)]) twoP oneP _ rfl (.tmp 65) (.tmp 71) rfl rfl (O7.out.alloc _) rfl (hasOne w7 (⟨(y1 : Int), small_wf (by omega)⟩, ⟨(y2 : Int), small_wf (by omega)⟩)) (by unfold maxLen; omega) (by omega) (galloc G7.out _).size ?_; intro B9 d9 w9 o9 g9 alt)
              | fail)
            go_roundw
            case rel => exact ⟨q - 1, n' + 1, d9, B9, vs ++ [(⟨(y1 : Int), small_wf (by omega)⟩, ⟨(y2 : Int), small_wf (by omega)⟩)], by omega, by go_num, rfl, by omega, o9.some_ (by omega), Lib.hid o9, Lib.hid (((O7.out.alloc _).rd hl3 (R7.out.keptN (World.grownBy_alloc _ _ _)) g9).le (by omega)), Lib.hid ((O7.out.alloc _).past (galloc G7.out _) g9)⟩
            case measure => simp [intOf]; omega
          · go_wp2_with fail
            go_ret3
            exact ⟨A1, n1, c1, xs, A2, n2, c2, ys, A', n', c', vs, rfl, (O1.out.keptR hl0 hG.out).has, by omega, (O2.out.keptR hl0 hG.out).has, by omega, ho.out.has, by omega, ho.out.cap.1, HS.out, grown_made W0.out (by rw [← HR.out]; exact G3.out.trans hG.out)⟩
  · have hb0 : ((x : Int) == 0) = false := by simp; omega
    have R3 := Lib.hid (R3.out.le (q' := 3000) (by omega))
    have hl3 : r < wk.heap.size := R3.out.lt
    go_wp2_with fail
    go_loopw [8, 9] (fun v i wr => ∃ (k n' c' : Nat) (A' : Option Addr) (vs : List (I × I)), k ≤ n1 ∧ i = .int .i64 (k : Int) ∧ v = .slice A' n' c' ∧ n' ≤ k ∧ (∃ g, A' = some ⟨g, 0, none⟩) ∧ Hid (OwnP wr wk.heap.size A' n' c' vs) ∧ Hid (Rd wr r (3000 + k)) ∧ Hid (wk.grownBy wr (some r)))
      (fun _ i _ => n1 - (intOf i).toNat)
    case atStart => exact ⟨0, 0, 0, _, [], by omega, rfl, rfl, by omega, ⟨_, rfl⟩, Lib.hid (Own.made wk (Nat.le_refl _)), Lib.hid (R3.out.keptN (World.grownBy_alloc _ _ _)), Lib.hid (World.grownBy_alloc _ _ _)⟩
    case round =>
      clear R3
      obtain ⟨k, n', c', A', vs, hk, rfl, rfl, hnk, hs, ho, hr, hG⟩ := hrel
      have HS := Lib.hid hs
      clear hs
      by_cases hkn : k < n1
      · have O4 := O1.out.keptR hl0 hG.out
        have Y4 := Lib.hid (O2.out.keptR hl0 hG.out).has
        have hkx : k < xs.length := by have := O4.len; omega
        obtain ⟨b, rfl, hb0, hb, e1, e2, _, _⟩ := O4.at_ hkx
        obtain ⟨p, hp⟩ : ∃ p, p = xs[k] := ⟨_, rfl⟩
        rw [← hp] at e1 e2
        simp only [twoI] at e1 e2
        clear hp O4
        have j0 : (0 : Int) ≤ (k : Int) := by omega
        have j1 : (k : Int) < (n1 : Int) := by omega
        go_wp2_with fail
        refine (sat_any A2 n2 c2 ys p.1 _ Y4.out (by omega)).mono ?_
        rintro e wz ⟨rfl, rfl⟩
        cases hl : Plain.last p.1 ys with
        | none =>
          simp only [vOf, Option.isSome]
          go_wp2_with fail
          go_roundw
          case rel => exact ⟨k + 1, n', c', A', vs, by omega, by go_num, rfl, by omega, HS.out, ho, Lib.hid (hr.out.le (by omega)), hG⟩
          case measure => simp [intOf]; omega
        | some v =>
          simp only [vOf, Option.isSome]
          clear hl Y4
          go_wp2_with fail
          refine (pick_any r _ 12 _ hr.out (by omega) (by omega) (by omega)).mono ?_
          rintro e w5 ⟨x, rfl, hx, r5, g5⟩
          have R5 := Lib.hid r5
          have O5 := Lib.hid (ho.out.keptR hl3 g5)
          have G5 := Lib.hid (hG.out.trans g5)
          have f2 := g5.cell e2 (by simp; omega)
          clear r5 g5 e1 e2 ho hG hr
          by_cases hx0 : x = 0
          · subst hx0
            go_wp2_with fail
            go_roundw
            case rel => exact ⟨k + 1, n', c', A', vs, by omega, by go_num, rfl, by omega, HS.out, O5, Lib.hid (R5.out.le (by omega)), G5⟩
            case measure => simp [intOf]; omega
          · have hxp : (0 : Int) < (x : Int) := by omega
            go_wp2_with (first
              | (at_builtin; refine wpList_app (base := wk.heap.size) (xs := vs) (ys := [(p.2, v)]) twoP oneP _ rfl (.tmp 49) (.tmp 57) rfl rfl (O5.out.alloc _) rfl (hasOne w5 (p.2, v)) (by unfold maxLen; omega) (by omega) (galloc G5.out _).size ?_; intro B9 d9 w9 o9 g9 alt)
              | fail)
            go_roundw
            case rel => exact ⟨k + 1, n' + 1, d9, B9, vs ++ [(p.2, v)], by omega, by go_num, rfl, by omega, o9.some_ (by omega), Lib.hid o9, Lib.hid (((O5.out.alloc _).rd hl3 (R5.out.keptN (World.grownBy_alloc _ _ _)) g9).le (by omega)), Lib.hid ((O5.out.alloc _).past (galloc G5.out _) g9)⟩
            case measure => simp [intOf]; omega
      · go_wp2_with fail
        refine (pick_any r _ 4 _ hr.out (by omega) (by omega) (by omega)).mono ?_
        rintro e w5 ⟨x, rfl, hx, r5, g5⟩
        have R5 := Lib.hid r5
        have O5 := Lib.hid (ho.out.keptR hl3 g5)
        have G5 := Lib.hid (hG.out.trans g5)
        clear r5 g5 ho hG hr
        go_wp2_with fail
        go_loopw [8, 12] (fun v i wr => ∃ (q n' c' : Nat) (A' : Option Addr) (vs : List (I × I)), q ≤ 4 ∧ i = .int .i64 (q : Int) ∧ v = .slice A' n' c' ∧ n' + q ≤ 44 ∧ (∃ g, A' = some ⟨g, 0, none⟩) ∧ Hid (OwnP wr wk.heap.size A' n' c' vs) ∧ Hid (Rd wr r (3100 + 2 * (4 - q))) ∧ Hid (wk.grownBy wr (some r)))
          (fun _ i _ => (intOf i).toNat)
        case atStart => exact ⟨x, n', c', A', vs, by omega, rfl, rfl, by omega, HS.out, O5, Lib.hid (R5.out.le (by omega)), G5⟩
        case round =>
          clear O5 R5 G5
          obtain ⟨q, n', c', A', vs, hq, rfl, rfl, hnq, hs, ho, hr, hG⟩ := hrel
          have HS := Lib.hid hs
          clear hs
          by_cases hq0 : 0 < q
          · have hqp : (0 : Int) < (q : Int) := by omega
            go_wp2_with fail
            refine (pick_any r _ 4 _ hr.out (by omega) (by omega) (by omega)).mono ?_
            rintro e w6 ⟨y1, rfl, hy1, r6, g6⟩
            have R6 := Lib.hid r6
            clear r6
            go_wp2_with fail
            refine (pick_any r _ 4 _ R6.out (by omega) (by omega) (by omega)).mono ?_
            rintro e w7 ⟨y2, rfl, hy2, r7, g7⟩
            have R7 := Lib.hid r7
            have O7 := Lib.hid ((ho.out.keptR hl3 g6).keptR hl3 g7)
            have G7 := Lib.hid ((hG.out.trans g6).trans g7)
            clear r7 g6 g7 ho hG hr R6
            go_wp2_with (first
              | (at_builtin; refine wpList_app (base := wk.heap.size) (xs := vs) (ys := [(⟨(y1 : Int), small_wf (by omega)⟩, ⟨(y2 : Int), small_wf (by omega)⟩)]) twoP oneP _ rfl (.tmp 65) (.tmp 71) rfl rfl (O7.out.alloc _) rfl (hasOne w7 (⟨(y1 : Int), small_wf (by omega)⟩, ⟨(y2 : Int), small_wf (by omega)⟩)) (by unfold maxLen; omega) (by omega) (galloc G7.out _).size ?_; intro B9 d9 w9 o9 g9 alt)
              | fail)
            go_roundw
            case rel => exact ⟨q - 1, n' + 1, d9, B9, vs ++ [(⟨(y1 : Int), small_wf (by omega)⟩, ⟨(y2 : Int), small_wf (by omega)⟩)], by omega, by go_num, rfl, by omega, o9.some_ (by omega), Lib.hid o9, Lib.hid (((O7.out.alloc _).rd hl3 (R7.out.keptN (World.grownBy_alloc _ _ _)) g9).le (by omega)), Lib.hid ((O7.out.alloc _).past (galloc G7.out _) g9)⟩
            case measure => simp [intOf]; omega
          · go_wp2_with fail
            go_ret3
            exact ⟨A1, n1, c1, xs, A2, n2, c2, ys, A', n', c', vs, rfl, (O1.out.keptR hl0 hG.out).has, by omega, (O2.out.keptR hl0 hG.out).has, by omega, ho.out.has, by omega, ho.out.cap.1, HS.out, grown_made W0.out (by rw [← HR.out]; exact G3.out.trans hG.out)⟩
end Go.Proofs.Ytgmeaedpbcimjaa
