/-
  What is proved here: the contract of the drawn pairs (somePairs): it returns a list of at most 40 pairs in new memory, and turns nothing but the reader's own place.
  Conditions: fewer than 2^32 numbers have been drawn.
-/
import Derived.Test.YtmldacjpbifoaaaInts
namespace Go.Proofs.Ytmldacjpbifoaaa
open Go.RowKit Go.Maps

/-- a row of the call's own keeps the reader, and what lay before, behind an append -/
theorem Own.past {α : Type} {f : α → Value × Value} {E : TypeId} {w0 w w' : World} {A : Option Addr} {n c r : Nat} {xs : List α} (o : Own f E w w0.heap.size A n c xs) (h : w0.grownBy w (some r)) (g : w.grownBy w' (Value.slice A n c).ownBlock) : w0.grownBy w' (some r) :=
  h.andThen g fun j hj => .inl (o.2.lt j hj).1
theorem Own.rd {α : Type} {f : α → Value × Value} {E : TypeId} {w w' : World} {A : Option Addr} {n c r q base : Nat} {xs : List α} (o : Own f E w base A n c xs) (hb : r < base) (h : Rd w r q) (g : w.grownBy w' (Value.slice A n c).ownBlock) : Rd w' r q :=
  h.kept g fun j hj => Nat.lt_of_lt_of_le hb (o.2.lt j hj).1
theorem Own.keptR {α : Type} {f : α → Value × Value} {E : TypeId} {w w' : World} {A : Option Addr} {n c r base : Nat} {xs : List α} (o : Own f E w base A n c xs) (hb : r < base) (g : w.grownBy w' (some r)) : Own f E w' base A n c xs :=
  o.kept g fun j hj e => by
    injection e with e
    subst e
    have := (o.2.lt j (by rw [hj]; rfl)).1
    omega

/-- a struct variable of two cells in block g -/
structure PairAt (w : World) (g : Nat) (v0 v1 : Value) : Prop where
  lt : g < w.heap.size
  c0 : w.cell? ⟨g, 0, none⟩ = some v0
  c1 : w.cell? ⟨g, 1, none⟩ = some v1
  f0 : w.frozen? ⟨g, 0, none⟩ = false
  f1 : w.frozen? ⟨g, 1, none⟩ = false

theorem PairAt.kept {w w' : World} {g : Nat} {v0 v1 : Value} {row : Option Nat} (h : PairAt w g v0 v1) (hg : w.grownBy w' row) (hne : some g ≠ row) : PairAt w' g v0 v1 :=
  ⟨Nat.lt_of_lt_of_le h.lt hg.size, hg.cell h.c0 hne, hg.cell h.c1 hne, by rw [hg.frozen_far ⟨g, 0, none⟩ h.lt hne]; exact h.f0, by rw [hg.frozen_far ⟨g, 1, none⟩ h.lt hne]; exact h.f1⟩
theorem PairAt.keptR {w w' : World} {g r : Nat} {v0 v1 : Value} (h : PairAt w g v0 v1) (hg : w.grownBy w' (some r)) (hne : r < g) : PairAt w' g v0 v1 :=
  h.kept hg (by intro e; injection e with e; omega)
theorem PairAt.made (w : World) (v0 v1 : Value) (E : TypeId) : PairAt (w.alloc (.cells #[v0, v1] E)) w.heap.size v0 v1 :=
  ⟨by simp, by simp, by simp, by simp, by simp⟩
theorem PairAt.set {w : World} {g : Nat} {v0 v1 : Value} (h : PairAt w g v0 v1) (u0 u1 : Value) : PairAt ((w.setCell ⟨g, 0, none⟩ u0).setCell ⟨g, 1, none⟩ u1) g u0 u1 ∧ w.grownBy ((w.setCell ⟨g, 0, none⟩ u0).setCell ⟨g, 1, none⟩ u1) (some g) := by
  refine ⟨⟨by simpa using h.lt, ?_, ?_, ?_, ?_⟩, (grown_setCell w ⟨g, 0, none⟩ u0).trans (grown_setCell _ ⟨g, 1, none⟩ u1)⟩
  · rw [World.cell?_setCell_other _ _ _ _ (by simp), World.cell?_setCell_same' _ _ _ (by rw [h.c0]; rfl)]
  · rw [World.cell?_setCell_same' _ _ _ (by rw [World.cell?_setCell_other _ _ _ _ (by simp), h.c1]; rfl)]
  · rw [World.frozen?_setCell, World.frozen?_setCell]; exact h.f0
  · rw [World.frozen?_setCell, World.frozen?_setCell]; exact h.f1

theorem hasOneAt (w : World) (p : I × I) {k : Nat} (hk : w.heap.size = k) : Has (w.alloc (.cells #[.int .i64 p.1.1, .int .i64 p.2.1] 64)) 2 (some ⟨k, 0, none⟩) 1 (cells2 [p]) := by
  subst hk
  exact hasOne w p

theorem small_wf {x : Int} (h : -1000000 ≤ x ∧ x ≤ 1000000) : (Lit.int .i64 x).wf = true := by
  simp [Lit.wf, IntKind.min, IntKind.max, IntKind.signed, IntKind.bits]; omega

set_option maxRecDepth 100000 in
set_option maxHeartbeats 8000000 in
theorem somePairs_any (r q : Nat) (w : World) (h : Rd w r q) (hq : q ≤ 4294960000) :
    Calls Try.prog 27 #[.pointer (some ⟨r, 0, none⟩)] w fun e w' => ∃ A n c xs, e = .returned (.slice A n c) ∧ OwnP w' w.heap.size A n c xs ∧ n ≤ 40 ∧ Rd w' r (q + 1000) ∧ w.grownBy w' (some r) := by
  have H := Lib.hid h
  have hlt : r < w.heap.size := h.lt
  clear h
  go_enter Try.func27, Try.ntmps27
  go_wp2_with fail
  have o0 : OwnP (w.alloc (.cells #[] 64)) w.heap.size (some ⟨w.heap.size, 0, none⟩) 0 0 [] := Own.made w (Nat.le_refl _)
  have G0 := World.grownBy_alloc w (.cells #[] 64) (some r)
  have H0 := H.out.keptN (World.grownBy_alloc w (.cells #[] 64) none)
  generalize (w.alloc (.cells #[] 64)) = wa at o0 G0 H0 ⊢
  refine (pick_any r q 8 _ H0 (by omega) (by omega) (by omega)).mono ?_
  rintro e w1 ⟨y, rfl, hy, hr1, g1⟩
  have H1 := Lib.hid hr1
  clear hr1
  go_wp2_with fail
  refine (pick_any r (q + 1) 8 _ H1.out (by omega) (by omega) (by omega)).mono ?_
  rintro e w2 ⟨y2, rfl, hy2, hr2, g2⟩
  have H2 := Lib.hid hr2
  clear hr2
  have o2 := Lib.hid ((o0.keptR hlt g1).keptR hlt g2)
  have G2 := (G0.trans g1).trans g2
  clear G0 H0 o0 g1 g2 H1
  by_cases hy0 : y2 = 0
  · subst hy0
    go_wp2_with fail
    go_loopw [3, 4] (fun v i wr => ∃ (k n' c' : Nat) (A' : Option Addr) (xs : List (I × I)), k ≤ 40 ∧ i = .int .i64 (k : Int) ∧ v = .slice A' n' c' ∧ n' + k ≤ 40 ∧ Hid (OwnP wr w.heap.size A' n' c' xs) ∧ Hid (Rd wr r (q + 2 + 21 * (40 - k))) ∧ Hid (w.grownBy wr (some r)))
      (fun _ i _ => (intOf i).toNat)
    case atStart => first | exact ⟨40, 0, 0, _, [], by omega, rfl, rfl, by omega, o2, Lib.hid (H2.out.le (by omega)), Lib.hid G2⟩ | exact ⟨y, 0, 0, _, [], by omega, rfl, rfl, by omega, o2, Lib.hid (H2.out.le (by omega)), Lib.hid G2⟩
    case round =>
      clear o2 H2 G2
      obtain ⟨k, n', c', A', xs, hk, rfl, rfl, hnk, ho, hr, hG⟩ := hrel
      by_cases hk0 : 0 < k
      · have hkp : (0 : Int) < (k : Int) := by omega
        go_wp2_with fail
        refine (pick_any r _ 6 _ hr.out (by omega) (by omega) (by omega)).mono ?_
        rintro e w3 ⟨x1, rfl, hx1, hr3, g3⟩
        have H3 := Lib.hid hr3
        clear hr3
        go_wp2_with fail
        refine (pick_any r _ 4 _ H3.out (by omega) (by omega) (by omega)).mono ?_
        rintro e w4 ⟨x2, rfl, hx2, hr4, g4⟩
        have H4 := Lib.hid hr4
        have O4 := Lib.hid ((ho.out.keptR hlt g3).keptR hlt g4)
        have G4 := Lib.hid ((hG.out.trans g3).trans g4)
        clear hr4 hr H3 ho hG g3 g4
        go_wp2_with fail
        have P5 := Lib.hid (PairAt.made w4 (.int .i64 ((x1 : Int) - 2)) (.int .i64 (x2 : Int)) 64)
        have H5 := Lib.hid (H4.out.keptN (World.grownBy_alloc w4 (.cells #[.int .i64 ((x1 : Int) - 2), .int .i64 (x2 : Int)] 64) none))
        have O5 := Lib.hid (O4.out.alloc (.cells #[.int .i64 ((x1 : Int) - 2), .int .i64 (x2 : Int)] 64))
        have G5 := Lib.hid (galloc G4.out (.cells #[.int .i64 ((x1 : Int) - 2), .int .i64 (x2 : Int)] 64))
        have hw5 : w.heap.size ≤ w4.heap.size := G4.out.size
        have hA := Lib.hid (fun j (hj : A' = some ⟨j, 0, none⟩) => (O4.out.2.lt j (by rw [hj]; rfl)).2)
        clear H4 O4 G4
        generalize w4.alloc (.cells #[.int .i64 ((x1 : Int) - 2), .int .i64 (x2 : Int)] 64) = w5 at P5 H5 O5 G5 ⊢
        generalize w4.heap.size = g at P5 hw5 hA ⊢
        refine (pick_any r _ 8 _ H5.out (by omega) (by omega) (by omega)).mono ?_
        rintro e w6 ⟨x3, rfl, hx3, hr6, g6⟩
        have H6 := Lib.hid hr6
        have P6 := Lib.hid (P5.out.keptR g6 (by omega))
        have O6 := Lib.hid (O5.out.keptR hlt g6)
        have G6 := Lib.hid (G5.out.trans g6)
        clear hr6 H5 P5 O5 G5 g6
        have hcap := O6.out.cap
        by_cases hx0 : x3 = 0
        · subst hx0
          go_wp2_with fail
          refine (anInt_any r _ _ H6.out (by omega)).mono ?_
          rintro e w7 ⟨z1, rfl, hr7, g7⟩
          have H7 := Lib.hid hr7
          clear hr7
          go_wp2_with fail
          refine (anInt_any r _ _ H7.out (by omega)).mono ?_
          rintro e w8 ⟨z2, rfl, hr8, g8⟩
          have H8 := Lib.hid hr8
          have P8 := Lib.hid ((P6.out.keptR g7 (by omega)).keptR g8 (by omega))
          have O8 := Lib.hid ((O6.out.keptR hlt g7).keptR hlt g8)
          have G8 := Lib.hid ((G6.out.trans g7).trans g8)
          clear hr8 H7 H6 P6 O6 G6 g7 g8
          have c0 := P8.out.c0
          have c1 := P8.out.c1
          have f0 := P8.out.f0
          have f1 := P8.out.f1
          obtain ⟨_, g9'⟩ := P8.out.set (.int .i64 z1.1) (.int .i64 z2.1)
          have O9 := Lib.hid (O8.out.kept g9' (fun j hj e => by injection e with e; have := hA.out j hj; omega))
          have H9 := Lib.hid (H8.out.kept g9' (fun j hj => by injection hj with hj; omega))
          have G9 := Lib.hid (World.grownBy.andThen (row := some r) G8.out g9' (fun j hj => .inl (by injection hj with hj; omega)))
          clear g9'
          go_wp2_with (first
            | (at_builtin; refine wpList_app (base := w.heap.size) (xs := xs) (ys := [(z1, z2)]) twoP oneP _ rfl (.tmp 30) (.tmp 32) rfl rfl (O9.out.alloc _) rfl (hasOneAt _ (z1, z2) (by simp)) (by unfold maxLen; omega) (by omega) (by have := G9.out.size; simp at this ⊢; omega) ?_; intro A9 c9 w9 o9 g9 _)
            | fail)
          go_roundw
          case rel => exact ⟨k - 1, n' + 1, c9, A9, xs ++ [(z1, z2)], by omega, by go_num, rfl, by omega, Lib.hid o9, Lib.hid (((O9.out.alloc _).rd hlt (H9.out.keptN (World.grownBy_alloc _ _ _)) g9).le (by omega)), Lib.hid ((O9.out.alloc _).past (galloc G9.out _) g9)⟩
          case measure => simp [intOf]; omega
        · have hbx : ((x3 : Int) == 0) = false := by simp; omega
          have c0 := P6.out.c0
          have c1 := P6.out.c1
          go_wp2_with (first
            | (at_builtin; refine wpList_app (base := w.heap.size) (xs := xs) (ys := [(⟨(x1 : Int) - 2, small_wf (by omega)⟩, ⟨(x2 : Int), small_wf (by omega)⟩)]) twoP oneP _ rfl (.tmp 30) (.tmp 32) rfl rfl (O6.out.alloc _) rfl (hasOne _ (⟨(x1 : Int) - 2, small_wf (by omega)⟩, ⟨(x2 : Int), small_wf (by omega)⟩)) (by unfold maxLen; omega) (by omega) (by have := G6.out.size; simp at this ⊢; omega) ?_; intro A9 c9 w9 o9 g9 _)
            | fail)
          go_roundw
          case rel => exact ⟨k - 1, n' + 1, c9, A9, xs ++ [(⟨(x1 : Int) - 2, small_wf (by omega)⟩, ⟨(x2 : Int), small_wf (by omega)⟩)], by omega, by go_num, rfl, by omega, Lib.hid o9, Lib.hid (((O6.out.alloc _).rd hlt (H6.out.keptN (World.grownBy_alloc _ _ _)) g9).le (by omega)), Lib.hid ((O6.out.alloc _).past (galloc G6.out _) g9)⟩
          case measure => simp [intOf]; omega
      · go_wp2_with fail
        go_ret
        exact ⟨A', n', c', xs, rfl, ho.out, by omega, hr.out.le (by omega), hG.out⟩
  · have hb0 : ((y2 : Int) == 0) = false := by simp; omega
    go_wp2_with fail
    go_loopw [3, 4] (fun v i wr => ∃ (k n' c' : Nat) (A' : Option Addr) (xs : List (I × I)), k ≤ 40 ∧ i = .int .i64 (k : Int) ∧ v = .slice A' n' c' ∧ n' + k ≤ 40 ∧ Hid (OwnP wr w.heap.size A' n' c' xs) ∧ Hid (Rd wr r (q + 2 + 21 * (40 - k))) ∧ Hid (w.grownBy wr (some r)))
      (fun _ i _ => (intOf i).toNat)
    case atStart => first | exact ⟨40, 0, 0, _, [], by omega, rfl, rfl, by omega, o2, Lib.hid (H2.out.le (by omega)), Lib.hid G2⟩ | exact ⟨y, 0, 0, _, [], by omega, rfl, rfl, by omega, o2, Lib.hid (H2.out.le (by omega)), Lib.hid G2⟩
    case round =>
      clear o2 H2 G2
      obtain ⟨k, n', c', A', xs, hk, rfl, rfl, hnk, ho, hr, hG⟩ := hrel
      by_cases hk0 : 0 < k
      · have hkp : (0 : Int) < (k : Int) := by omega
        go_wp2_with fail
        refine (pick_any r _ 6 _ hr.out (by omega) (by omega) (by omega)).mono ?_
        rintro e w3 ⟨x1, rfl, hx1, hr3, g3⟩
        have H3 := Lib.hid hr3
        clear hr3
        go_wp2_with fail
        refine (pick_any r _ 4 _ H3.out (by omega) (by omega) (by omega)).mono ?_
        rintro e w4 ⟨x2, rfl, hx2, hr4, g4⟩
        have H4 := Lib.hid hr4
        have O4 := Lib.hid ((ho.out.keptR hlt g3).keptR hlt g4)
        have G4 := Lib.hid ((hG.out.trans g3).trans g4)
        clear hr4 hr H3 ho hG g3 g4
        go_wp2_with fail
        have P5 := Lib.hid (PairAt.made w4 (.int .i64 ((x1 : Int) - 2)) (.int .i64 (x2 : Int)) 64)
        have H5 := Lib.hid (H4.out.keptN (World.grownBy_alloc w4 (.cells #[.int .i64 ((x1 : Int) - 2), .int .i64 (x2 : Int)] 64) none))
        have O5 := Lib.hid (O4.out.alloc (.cells #[.int .i64 ((x1 : Int) - 2), .int .i64 (x2 : Int)] 64))
        have G5 := Lib.hid (galloc G4.out (.cells #[.int .i64 ((x1 : Int) - 2), .int .i64 (x2 : Int)] 64))
        have hw5 : w.heap.size ≤ w4.heap.size := G4.out.size
        have hA := Lib.hid (fun j (hj : A' = some ⟨j, 0, none⟩) => (O4.out.2.lt j (by rw [hj]; rfl)).2)
        clear H4 O4 G4
        generalize w4.alloc (.cells #[.int .i64 ((x1 : Int) - 2), .int .i64 (x2 : Int)] 64) = w5 at P5 H5 O5 G5 ⊢
        generalize w4.heap.size = g at P5 hw5 hA ⊢
        refine (pick_any r _ 8 _ H5.out (by omega) (by omega) (by omega)).mono ?_
        rintro e w6 ⟨x3, rfl, hx3, hr6, g6⟩
        have H6 := Lib.hid hr6
        have P6 := Lib.hid (P5.out.keptR g6 (by omega))
        have O6 := Lib.hid (O5.out.keptR hlt g6)
        have G6 := Lib.hid (G5.out.trans g6)
        clear hr6 H5 P5 O5 G5 g6
        have hcap := O6.out.cap
        have hex : ∀ (p : I × I) (wx : World), PairAt wx g (twoI p).1 (twoI p).2 → OwnP wx w.heap.size A' n' c' xs → Rd wx r (q + 2 + 21 * (40 - k) + 21) → w.grownBy wx (some r) → True := fun _ _ _ _ _ _ => trivial
        clear hex
        by_cases hx0 : x3 = 0
        · subst hx0
          go_wp2_with fail
          refine (anInt_any r _ _ H6.out (by omega)).mono ?_
          rintro e w7 ⟨z1, rfl, hr7, g7⟩
          have H7 := Lib.hid hr7
          clear hr7
          go_wp2_with fail
          refine (anInt_any r _ _ H7.out (by omega)).mono ?_
          rintro e w8 ⟨z2, rfl, hr8, g8⟩
          have H8 := Lib.hid hr8
          have P8 := Lib.hid ((P6.out.keptR g7 (by omega)).keptR g8 (by omega))
          have O8 := Lib.hid ((O6.out.keptR hlt g7).keptR hlt g8)
          have G8 := Lib.hid ((G6.out.trans g7).trans g8)
          clear hr8 H7 H6 P6 O6 G6 g7 g8
          have c0 := P8.out.c0
          have c1 := P8.out.c1
          have f0 := P8.out.f0
          have f1 := P8.out.f1
          obtain ⟨_, g9'⟩ := P8.out.set (.int .i64 z1.1) (.int .i64 z2.1)
          have O9 := Lib.hid (O8.out.kept g9' (fun j hj e => by injection e with e; have := hA.out j hj; omega))
          have H9 := Lib.hid (H8.out.kept g9' (fun j hj => by injection hj with hj; omega))
          have G9 := Lib.hid (World.grownBy.andThen (row := some r) G8.out g9' (fun j hj => .inl (by injection hj with hj; omega)))
          clear g9'
          go_wp2_with (first
            | (at_builtin; refine wpList_app (base := w.heap.size) (xs := xs) (ys := [(z1, z2)]) twoP oneP _ rfl (.tmp 30) (.tmp 32) rfl rfl (O9.out.alloc _) rfl (hasOneAt _ (z1, z2) (by simp)) (by unfold maxLen; omega) (by omega) (by have := G9.out.size; simp at this ⊢; omega) ?_; intro A9 c9 w9 o9 g9 _)
            | fail)
          go_roundw
          case rel => exact ⟨k - 1, n' + 1, c9, A9, xs ++ [(z1, z2)], by omega, by go_num, rfl, by omega, Lib.hid o9, Lib.hid (((O9.out.alloc _).rd hlt (H9.out.keptN (World.grownBy_alloc _ _ _)) g9).le (by omega)), Lib.hid ((O9.out.alloc _).past (galloc G9.out _) g9)⟩
          case measure => simp [intOf]; omega
        · have hbx : ((x3 : Int) == 0) = false := by simp; omega
          have c0 := P6.out.c0
          have c1 := P6.out.c1
          go_wp2_with (first
            | (at_builtin; refine wpList_app (base := w.heap.size) (xs := xs) (ys := [(⟨(x1 : Int) - 2, small_wf (by omega)⟩, ⟨(x2 : Int), small_wf (by omega)⟩)]) twoP oneP _ rfl (.tmp 30) (.tmp 32) rfl rfl (O6.out.alloc _) rfl (hasOne _ (⟨(x1 : Int) - 2, small_wf (by omega)⟩, ⟨(x2 : Int), small_wf (by omega)⟩)) (by unfold maxLen; omega) (by omega) (by have := G6.out.size; simp at this ⊢; omega) ?_; intro A9 c9 w9 o9 g9 _)
            | fail)
          go_roundw
          case rel => exact ⟨k - 1, n' + 1, c9, A9, xs ++ [(⟨(x1 : Int) - 2, small_wf (by omega)⟩, ⟨(x2 : Int), small_wf (by omega)⟩)], by omega, by go_num, rfl, by omega, Lib.hid o9, Lib.hid (((O6.out.alloc _).rd hlt (H6.out.keptN (World.grownBy_alloc _ _ _)) g9).le (by omega)), Lib.hid ((O6.out.alloc _).past (galloc G6.out _) g9)⟩
          case measure => simp [intOf]; omega
      · go_wp2_with fail
        go_ret
        exact ⟨A', n', c', xs, rfl, ho.out, by omega, hr.out.le (by omega), hG.out⟩
end Go.Proofs.Ytmldacjpbifoaaa
