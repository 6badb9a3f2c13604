/-
  What is proved here: the contract of the drawn lists of pairs that are dropped (DrawDrop): three lists of at most 80 pairs each, in new memory.
  Conditions: the code has at most 2^20 bytes.
-/
import Derived.Test.YtmldacjpbifoaaaDraw
namespace Go.Proofs.Ytmldacjpbifoaaa
open Go.RowKit Go.Maps

/-- the two slices lie in different blocks -/
def Apart (A B : Option Addr) : Prop := ∀ g n c m d, (Value.slice A n c).ownBlock = some g → (Value.slice B m d).ownBlock ≠ some g

theorem ownBlock_any {A : Option Addr} {n c m d : Nat} : (Value.slice A n c).ownBlock = (Value.slice A m d).ownBlock := by cases A <;> rfl
theorem Apart.symm {A B : Option Addr} (h : Apart A B) : Apart B A := fun g n c m d h1 h2 => h g m d n c h2 h1
theorem Own.apart {α : Type} {f : α → Value × Value} {E : TypeId} {w w' : World} {A B : Option Addr} {n c m d b1 b2 : Nat} {xs ys : List α} (o1 : Own f E w b1 A n c xs) (hb : w.heap.size ≤ b2) (o2 : Own f E w' b2 B m d ys) : Apart A B := by
  intro g n' c' m' d' h1 h2
  rw [ownBlock_any (m := n) (d := c)] at h1
  rw [ownBlock_any (m := m) (d := d)] at h2
  have := (o1.2.lt g h1).2
  have := (o2.2.lt g h2).1
  omega
theorem Own.keptA {α : Type} {f : α → Value × Value} {E : TypeId} {w w' : World} {A B : Option Addr} {n c m d base : Nat} {xs : List α} (o : Own f E w base A n c xs) (h : Apart A B) (g : w.grownBy w' (Value.slice B m d).ownBlock) : Own f E w' base A n c xs :=
  o.kept g fun j hj e => h j 0 0 m d (by rw [hj]; rfl) e.symm
theorem Apart.app {α : Type} {f : α → Value × Value} {E : TypeId} {w : World} {A B B' : Option Addr} {n c m d m' d' base : Nat} {xs : List α} (h : Apart A B) (o : Own f E w base A n c xs) (alt : (Value.slice B' m' d').ownBlock = (Value.slice B m d).ownBlock ∨ (Value.slice B' m' d').ownBlock = some w.heap.size) : Apart A B' := by
  intro g n1 c1 m1 d1 h1 h2
  rw [ownBlock_any (m := m') (d := d')] at h2
  rcases alt with e | e
  · rw [e] at h2; exact h g n1 c1 m d h1 h2
  · rw [e] at h2
    injection h2 with h2
    rw [ownBlock_any (m := n) (d := c)] at h1
    have := (o.2.lt g h1).2
    omega

end Go.Proofs.Ytmldacjpbifoaaa
