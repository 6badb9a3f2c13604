/-
  What is proved here: the contract of the drawn lists of pairs that are dropped (DrawDrop): three lists of at most 80 pairs each, in new memory.
  Conditions: the code has at most 2^20 bytes.
-/
import Derived.Test.YtgmeaedpbcimjaaDraw
namespace Go.Proofs.Ytgmeaedpbcimjaa
open Go.RowKit Go.Maps

/-- the two slices lie in different blocks -/
def Apart (A B : Option Addr) : Prop := ∀ g n c m d, (Value.slice A n c).ownBlock = some g → (Value.slice B m d).ownBlock ≠ some g

theorem ownBlock_any {A : Option Addr} {n c m d : Nat} : (Value.slice A n c).ownBlock = (Value.slice A m d).ownBlock := by cases A <;> rfl
theorem Apart.symm {A B : Option Addr} (h : Apart A B) : Apart B A := fun g n c m d h1 h2 => h g m d n c h2 h1
theorem Own.apart {α : Type} {f : α → Value × Value} {E : TypeId} {w w' : World} {A B : Option Addr} {n c m d b1 b2 : Nat} {xs ys : List α} (o1 : Own f E w b1 A n c xs) (hb : w.heap.size ≤ b2) (o2 : Own f E w' b2 B m d ys) : Apart A B := by
  intro g n' c' m' d' h1 h2
  rw [ownBlock_any (m := n) (d := c)] at h1
  rw [ownBlock_any (m := m) (d := d)] at h2
  have := (o1.2.lt g h1).2
  have := (o2.2.lt g h2).1
  omega
theorem Own.keptA {α : Type} {f : α → Value × Value} {E : TypeId} {w w' : World} {A B : Option Addr} {n c m d base : Nat} {xs : List α} (o : Own f E w base A n c xs) (h : Apart A B) (g : w.grownBy w' (Value.slice B m d).ownBlock) : Own f E w' base A n c xs :=
  o.kept g fun j hj e => h j 0 0 m d (by rw [hj]; rfl) e.symm
theorem Apart.app {α : Type} {f : α → Value × Value} {E : TypeId} {w : World} {A B B' : Option Addr} {n c m d m' d' base : Nat} {xs : List α} (h : Apart A B) (o : Own f E w base A n c xs) (alt : (Value.slice B' m' d').ownBlock = (Value.slice B m d).ownBlock ∨ (Value.slice B' m' d').ownBlock = some w.heap.size) : Apart A B' := by
  intro g n1 c1 m1 d1 h1 h2
  rw [ownBlock_any (m := m') (d := d')] at h2
  rcases alt with e | e
  · rw [e] at h2; exact h g n1 c1 m d h1 h2
  · rw [e] at h2
    injection h2 with h2
    rw [ownBlock_any (m := n) (d := c)] at h1
    have := (o.2.lt g h1).2
    omega

set_option maxRecDepth 100000 in
set_option maxHeartbeats 8000000 in
theorem drawDrop_any (A : Option Addr) (n c : Nat) (zs : List Int) (w : World) (h : Bytes w A n c zs) (hn : n ≤ 1048576) :
    Calls Try.prog 19 #[.slice A n c] w fun e w' => ∃ A1 n1 c1 xs A2 n2 c2 ys A3 n3 c3 vs, e = .returned (.tuple #[.slice A1 n1 c1, .slice A2 n2 c2, .slice A3 n3 c3]) ∧ Has w' 2 A1 n1 (cells2 xs) ∧ n1 ≤ 80 ∧ Has w' 2 A2 n2 (cells2 ys) ∧ n2 ≤ 80 ∧ Has w' 2 A3 n3 (cells2 vs) ∧ n3 ≤ 80 ∧ w.grownBy w' none := by
  have hr0 := Lib.hid (Rd.made h hn 38)
  clear h
  go_enter Try.func19, Try.ntmps19
  go_wp2_with fail
  obtain ⟨w0, hw0⟩ : ∃ w0, w0 = w.alloc (.cells #[.slice A n c, .int .i64 0] 38) := ⟨_, rfl⟩
  rw [← hw0] at hr0 ⊢
  have W0 := Lib.hid hw0
  clear hw0
  obtain ⟨r, hr⟩ : ∃ r, r = w.heap.size := ⟨_, rfl⟩
  rw [← hr] at hr0 ⊢
  have HR := Lib.hid hr
  clear hr
  have hl0 : r < w0.heap.size := hr0.out.lt
  refine (somePairs_any r _ _ hr0.out (by omega)).mono ?_
  rintro e w1 ⟨A1, n1, c1, xs, rfl, o1, hn1, r1, g1⟩
  have R1 := Lib.hid r1
  have O1 := Lib.hid o1
  have G0 := Lib.hid g1
  have hl1 : r < w1.heap.size := r1.lt
  clear r1 o1 g1
  go_wp2_with fail
  refine (somePairs_any r _ _ R1.out (by omega)).mono ?_
  rintro e w2 ⟨A2, n2, c2, ys, rfl, o2, hn2, r2, g2⟩
  have R2 := Lib.hid r2
  have O2 := Lib.hid o2
  have G2 := Lib.hid g2
  clear r2 o2 g2
  go_wp2_with fail
  refine (somePairs_any r _ _ R2.out (by omega)).mono ?_
  rintro e w3 ⟨A3, n3, c3, vs, rfl, o3, hn3, r3, g3⟩
  have R3 := Lib.hid r3
  have P3 := Lib.hid (O2.out.apart (Nat.le_refl _) o3)
  have O2 := Lib.hid (O2.out.keptR hl1 g3)
  have O3 := Lib.hid (o3.mono G2.out.size)
  have G3 := Lib.hid (G2.out.trans g3)
  clear r3 o3 g3 G2 R1 R2
  go_wp2_with fail
  go_loopw [7, 8, 9] (fun v u i wr => ∃ (k B2 e2 B3 e3 : Nat) (D2 D3 : Option Addr) (ys' vs' : List (I × I)), k ≤ n1 ∧ i = .int .i64 (k : Int) ∧ v = .slice D2 B2 e2 ∧ u = .slice D3 B3 e3 ∧ B2 ≤ 40 + k ∧ B3 ≤ 40 + k ∧ Hid (OwnP wr w1.heap.size D2 B2 e2 ys') ∧ Hid (OwnP wr w1.heap.size D3 B3 e3 vs') ∧ Hid (Apart D2 D3) ∧ Hid (Rd wr r (3000 + k)) ∧ Hid (w1.grownBy wr (some r)))
    (fun _ _ i _ => n1 - (intOf i).toNat)
  case atStart => exact ⟨0, n2, c2, n3, c3, A2, A3, ys, vs, by omega, rfl, rfl, rfl, by omega, by omega, O2, O3, P3, R3, G3⟩
  case round =>
    clear O2 O3 P3 R3 G3
    obtain ⟨k, B2, e2, B3, e3, D2, D3, ys', vs', hk, rfl, rfl, rfl, hb2, hb3, O2, O3, P3, R3, G3⟩ := hrel
    by_cases hkn : k < n1
    · go_wp2_with fail
      refine (pick_any r _ 4 _ R3.out (by omega) (by omega) (by omega)).mono ?_
      rintro e w4 ⟨x, rfl, hx, r4, g4⟩
      have R4 := Lib.hid r4
      have O2 := Lib.hid (O2.out.keptR hl1 g4)
      have O3 := Lib.hid (O3.out.keptR hl1 g4)
      have G4 := Lib.hid (G3.out.trans g4)
      clear r4 g4 R3 G3
      have O4 := O1.out.keptR hl0 G4.out
      have hkx : k < xs.length := by have := O4.len; omega
      obtain ⟨b, rfl, _, hb, e1, e2', _, _⟩ := O4.at_ hkx
      obtain ⟨p, hp⟩ : ∃ p, p = xs[k] := ⟨_, rfl⟩
      rw [← hp] at e1 e2'
      simp only [twoI] at e1 e2'
      clear hp O4
      have j0 : (0 : Int) ≤ (k : Int) := by omega
      have j1 : (k : Int) < (n1 : Int) := by omega
      by_cases hx0 : x = 0
      · subst hx0
        go_wp2_with (first
            | (at_builtin; refine wpList_app (base := w1.heap.size) (xs := ys') (ys := [p]) twoP oneP _ rfl (.tmp 29) (.tmp 34) rfl rfl (O2.out.alloc _) rfl (hasOne w4 p) (by unfold maxLen; omega) (by omega) (galloc G4.out _).size ?_; intro B9 d9 w9 o9 g9 alt)
            | fail)
        go_roundw
        case rel => exact ⟨k + 1, B2 + 1, d9, B3, e3, B9, D3, ys' ++ [p], vs', by omega, by go_num, rfl, rfl, by omega, by omega, Lib.hid o9, Lib.hid ((O3.out.alloc _).keptA P3.out.symm g9), Lib.hid (P3.out.symm.app (O3.out.alloc _) alt).symm, Lib.hid (((O2.out.alloc _).rd hl1 (R4.out.keptN (World.grownBy_alloc _ _ _)) g9).le (by omega)), Lib.hid ((O2.out.alloc _).past (galloc G4.out _) g9)⟩
        case measure => simp [intOf]; omega
      · have hb0 : ((x : Int) == 0) = false := by simp; omega
        by_cases hx1 : x = 1
        · subst hx1
          go_wp2_with (first
            | (at_builtin; refine wpList_app (base := w1.heap.size) (xs := vs') (ys := [p]) twoP oneP _ rfl (.tmp 38) (.tmp 43) rfl rfl (O3.out.alloc _) rfl (hasOne w4 p) (by unfold maxLen; omega) (by omega) (galloc G4.out _).size ?_; intro B9 d9 w9 o9 g9 alt)
            | fail)
          go_roundw
          case rel => exact ⟨k + 1, B2, e2, B3 + 1, d9, D2, B9, ys', vs' ++ [p], by omega, by go_num, rfl, rfl, by omega, by omega, Lib.hid ((O2.out.alloc _).keptA P3.out g9), Lib.hid o9, Lib.hid (P3.out.app (O2.out.alloc _) alt), Lib.hid (((O3.out.alloc _).rd hl1 (R4.out.keptN (World.grownBy_alloc _ _ _)) g9).le (by omega)), Lib.hid ((O3.out.alloc _).past (galloc G4.out _) g9)⟩
          case measure => simp [intOf]; omega
        · have hb1 : ((x : Int) == 1) = false := by simp; omega
          go_wp2_with fail
          go_roundw
          case rel => exact ⟨k + 1, B2, e2, B3, e3, D2, D3, ys', vs', by omega, by go_num, rfl, rfl, by omega, by omega, O2, O3, P3, Lib.hid (R4.out.le (by omega)), G4⟩
          case measure => simp [intOf]; omega
    · go_wp2_with fail
      go_ret3
      exact ⟨A1, n1, c1, xs, D2, B2, e2, ys', D3, B3, e3, vs', rfl, (O1.out.keptR hl0 G3.out).has, by omega, O2.out.has, by omega, O3.out.has, by omega, grown_made W0.out (by rw [← HR.out]; exact G0.out.trans G3.out)⟩
end Go.Proofs.Ytgmeaedpbcimjaa
