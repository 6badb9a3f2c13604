/-
  What is proved here: the contracts of the drawn lists of pairs (DrawMaps, DrawSet): three lists, or one and a pair, of at most 40 pairs each, in new memory.
  Conditions: the code has at most 2^20 bytes.
-/
import Derived.Test.YtmldacjpbifoaaaShuf
namespace Go.Proofs.Ytmldacjpbifoaaa
open Go.RowKit Go.Maps

/-- the reader in the block that is made for it -/
theorem Rd.made {w : World} {A : Option Addr} {n c : Nat} {zs : List Int} (h : Bytes w A n c zs) (hn : n ≤ 1048576) (E : TypeId) : Rd (w.alloc (.cells #[.slice A n c, .int .i64 0] E)) w.heap.size 0 :=
  ⟨A, n, c, zs, 0, Nat.le_refl _, by simp, by simp, by simp, by simp, h.has.kept (World.grownBy_alloc _ _ _), h.rng, fun h0 a ha => by
    obtain ⟨b, off, e, hb, _⟩ := h.has.2 h0
    rw [e] at ha
    cases ha
    exact hb, hn⟩

theorem Bytes.kept {w w' : World} {A : Option Addr} {n c : Nat} {zs : List Int} (h : Bytes w A n c zs) (hg : w.grownBy w' none) : Bytes w' A n c zs := ⟨h.has.kept hg, h.rng, h.le, h.max⟩

/-- a list that was drawn: it holds few pairs -/
def Few (w : World) (A : Option Addr) (n : Nat) (xs : List (I × I)) : Prop := Has w 2 A n (cells2 xs) ∧ n ≤ 40

theorem grown_made {w w1 w' : World} {o : Obj} (e : w1 = w.alloc o) (h : w1.grownBy w' (some w.heap.size)) : w.grownBy w' none := by
  subst e
  exact World.grownBy.andThen (World.grownBy_alloc w o none) h (fun j hj => .inl (by injection hj with hj; omega))

set_option maxRecDepth 100000 in
set_option maxHeartbeats 4000000 in
theorem drawMaps_any (A : Option Addr) (n c : Nat) (zs : List Int) (w : World) (h : Bytes w A n c zs) (hn : n ≤ 1048576) :
    Calls Try.prog 13 #[.slice A n c] w fun e w' => ∃ A1 n1 c1 xs A2 n2 c2 ys A3 n3 c3 vs, e = .returned (.tuple #[.slice A1 n1 c1, .slice A2 n2 c2, .slice A3 n3 c3]) ∧ Few w' A1 n1 xs ∧ Few w' A2 n2 ys ∧ Few w' A3 n3 vs ∧ w.grownBy w' none := by
  have hr0 := Lib.hid (Rd.made h hn 41)
  clear h
  go_enter Try.func13, Try.ntmps13
  go_wp2_with fail
  obtain ⟨w0, hw0⟩ : ∃ w0, w0 = w.alloc (.cells #[.slice A n c, .int .i64 0] 41) := ⟨_, rfl⟩
  rw [← hw0] at hr0 ⊢
  have W0 := Lib.hid hw0
  clear hw0
  obtain ⟨r, hr⟩ : ∃ r, r = w.heap.size := ⟨_, rfl⟩
  rw [← hr] at hr0 ⊢
  have HR := Lib.hid hr
  clear hr
  have hl0 : r < w0.heap.size := hr0.out.lt
  refine (somePairs_any r _ _ hr0.out (by omega)).mono ?_
  rintro e w1 ⟨A1, n1, c1, xs, rfl, o1, hn1, r1, g1⟩
  have R1 := Lib.hid r1
  have O1 := Lib.hid o1
  have G1 := Lib.hid g1
  clear r1 o1 g1
  go_wp2_with fail
  refine (somePairs_any r _ _ R1.out (by omega)).mono ?_
  rintro e w2 ⟨A2, n2, c2, ys, rfl, o2, hn2, r2, g2⟩
  have R2 := Lib.hid r2
  have O1 := Lib.hid (O1.out.keptR hl0 g2)
  have O2 := Lib.hid (o2.mono G1.out.size)
  have G2 := Lib.hid (G1.out.trans g2)
  clear r2 o2 g2
  go_wp2_with fail
  refine (pick_any r _ 2 _ R2.out (by omega) (by omega) (by omega)).mono ?_
  rintro e w3 ⟨x, rfl, hx, r3, g3⟩
  have R3 := Lib.hid (r3.le (q' := 2200) (by omega))
  have O1 := Lib.hid (O1.out.keptR hl0 g3)
  have O2 := Lib.hid (O2.out.keptR hl0 g3)
  have G3 := Lib.hid (G2.out.trans g3)
  clear r3 g3
  by_cases hx0 : x = 0
  · subst hx0
    go_wp2_with fail
    refine (shuffled_any r _ A1 n1 c1 xs _ R3.out O1.out.has hn1 (by omega)).mono ?_
    rintro e w4 ⟨A2, n2, c2, ys, rfl, o2, hn2, r4, g4⟩
    have R4 := Lib.hid r4
    have O1 := Lib.hid (O1.out.keptR hl0 g4)
    have O2 := Lib.hid (o2.mono G3.out.size)
    have G4 := Lib.hid (G3.out.trans g4)
    clear r4 o2 g4
    go_wp2_with fail
    refine (somePairs_any r _ _ R4.out (by omega)).mono ?_
    rintro e w5 ⟨A3, n3, c3, vs, rfl, o3, hn3, r5, g5⟩
    have R5 := Lib.hid r5
    have O1 := Lib.hid (O1.out.keptR hl0 g5)
    have O2 := Lib.hid (O2.out.keptR hl0 g5)
    have O3 := Lib.hid (o3.mono G4.out.size)
    have G5 := Lib.hid (G4.out.trans g5)
    clear r5 o3 g5
    go_wp2_with fail
    refine (pick_any r _ 3 _ R5.out (by omega) (by omega) (by omega)).mono ?_
    rintro e w6 ⟨y, rfl, hy, r6, g6⟩
    have R6 := Lib.hid r6
    have O1 := Lib.hid (O1.out.keptR hl0 g6)
    have O2 := Lib.hid (O2.out.keptR hl0 g6)
    have O3 := Lib.hid (O3.out.keptR hl0 g6)
    have G6 := Lib.hid (G5.out.trans g6)
    clear r6 g6
    by_cases hy0 : y = 0
    · subst hy0
      go_wp2_with fail
      refine (shuffled_any r _ A2 n2 c2 ys _ R6.out O2.out.has hn2 (by omega)).mono ?_
      rintro e w7 ⟨A3, n3, c3, vs, rfl, o3, hn3, r7, g7⟩
      have O1 := Lib.hid (O1.out.keptR hl0 g7)
      have O2 := Lib.hid (O2.out.keptR hl0 g7)
      have O3 := Lib.hid o3
      have G7 := Lib.hid (G6.out.trans g7)
      clear r7 g7 o3
      go_wp2_with fail
      go_ret3
      exact ⟨A1, n1, c1, xs, A2, n2, c2, ys, A3, n3, c3, vs, rfl, ⟨O1.out.has, hn1⟩, ⟨O2.out.has, hn2⟩, ⟨O3.out.has, hn3⟩, grown_made W0.out (by rw [← HR.out]; exact G7.out)⟩
    · have hby : ((y : Int) == 0) = false := by simp; omega
      go_wp2_with fail
      go_ret3
      exact ⟨A1, n1, c1, xs, A2, n2, c2, ys, A3, n3, c3, vs, rfl, ⟨O1.out.has, hn1⟩, ⟨O2.out.has, hn2⟩, ⟨O3.out.has, hn3⟩, grown_made W0.out (by rw [← HR.out]; exact G6.out)⟩
  · have hbx : ((x : Int) == 0) = false := by simp; omega
    have R4 := R3
    have G4 := G3
    go_wp2_with fail
    refine (somePairs_any r _ _ R4.out (by omega)).mono ?_
    rintro e w5 ⟨A3, n3, c3, vs, rfl, o3, hn3, r5, g5⟩
    have R5 := Lib.hid r5
    have O1 := Lib.hid (O1.out.keptR hl0 g5)
    have O2 := Lib.hid (O2.out.keptR hl0 g5)
    have O3 := Lib.hid (o3.mono G4.out.size)
    have G5 := Lib.hid (G4.out.trans g5)
    clear r5 o3 g5
    go_wp2_with fail
    refine (pick_any r _ 3 _ R5.out (by omega) (by omega) (by omega)).mono ?_
    rintro e w6 ⟨y, rfl, hy, r6, g6⟩
    have R6 := Lib.hid r6
    have O1 := Lib.hid (O1.out.keptR hl0 g6)
    have O2 := Lib.hid (O2.out.keptR hl0 g6)
    have O3 := Lib.hid (O3.out.keptR hl0 g6)
    have G6 := Lib.hid (G5.out.trans g6)
    clear r6 g6
    by_cases hy0 : y = 0
    · subst hy0
      go_wp2_with fail
      refine (shuffled_any r _ A2 n2 c2 ys _ R6.out O2.out.has hn2 (by omega)).mono ?_
      rintro e w7 ⟨A3, n3, c3, vs, rfl, o3, hn3, r7, g7⟩
      have O1 := Lib.hid (O1.out.keptR hl0 g7)
      have O2 := Lib.hid (O2.out.keptR hl0 g7)
      have O3 := Lib.hid o3
      have G7 := Lib.hid (G6.out.trans g7)
      clear r7 g7 o3
      go_wp2_with fail
      go_ret3
      exact ⟨A1, n1, c1, xs, A2, n2, c2, ys, A3, n3, c3, vs, rfl, ⟨O1.out.has, hn1⟩, ⟨O2.out.has, hn2⟩, ⟨O3.out.has, hn3⟩, grown_made W0.out (by rw [← HR.out]; exact G7.out)⟩
    · have hby : ((y : Int) == 0) = false := by simp; omega
      go_wp2_with fail
      go_ret3
      exact ⟨A1, n1, c1, xs, A2, n2, c2, ys, A3, n3, c3, vs, rfl, ⟨O1.out.has, hn1⟩, ⟨O2.out.has, hn2⟩, ⟨O3.out.has, hn3⟩, grown_made W0.out (by rw [← HR.out]; exact G6.out)⟩
end Go.Proofs.Ytmldacjpbifoaaa
