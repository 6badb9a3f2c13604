/-
  What is proved here: the contracts of maps.Clone at maps from whole numbers to whole numbers (nil, or not), and of the thin package's CloneIsNil.
  Conditions: none but those that each theorem names.
-/
import Derived.Test.YtgmeaedpbcimjaaRows
import Derived.WalkKit
import Derived.WalkSpells
import Derived.WalkLawsBesides
import Derived.Shelf.SlMaps.Clone
import Derived.Maps.AppendAt
namespace Go.Proofs.Ytgmeaedpbcimjaa
open Go.RowKit Go.Maps

set_option maxHeartbeats 2000000 in
theorem clone_some (b : Nat) (es : Array MapEntry) (clock : Nat) (w : World) (hb : w.heap[b]? = some (.map es clock)) :
    Calls Try.prog 40 #[.map (some b)] w fun e w' => e = .returned (.map (some w.heap.size)) ∧ w' = w.alloc (.map es clock) := by
  have hq := fun w => run_eql_map_nil_sl (P := Try.prog) w 42 _ _ (some b) Try.underlying42
  go_enter Try.func40, Try.ntmps40
  go_wp2
  rw [run_callFunc_extern Try.func44 (by kernel_rfl) (by kernel_rfl) (by kernel_rfl) (e := Extern.MapsClone.clone) (by kernel_rfl), run_maps_clone_sl w 42 hb]
  simp only [Result.andThen]
  rw [Oper.upon_value]
  go_wp2
  rw [run_typeAssert_map_sl _ 42 20 _ _ _ Try.underlying42]
  simp only [Result.andThen]
  rw [Oper.upon_value]
  go_wp2
  go_ret
  exact ⟨rfl, rfl⟩

set_option maxHeartbeats 2000000 in
theorem clone_none (w : World) :
    Calls Try.prog 40 #[.map none] w fun e w' => e = .returned (.map none) ∧ w' = w := by
  have hq := fun w => run_eql_map_nil_sl (P := Try.prog) w 42 _ _ none Try.underlying42
  go_enter Try.func40, Try.ntmps40
  go_wp2
  go_ret
  exact ⟨rfl, rfl⟩

/-- in the words of maps that are owned -/
theorem clone_owns {H : Type} (k : TypeId) (R : Value → Option (DataW H × List MemPlace)) (b n : Nat) (D : DataW H) (w : World) (hown : w.ownsMap Try.prog k R b n D) :
    Calls Try.prog 40 #[.map (some b)] w fun e w' => e = .returned (.map (some w.heap.size)) ∧ w'.ownsMap Try.prog k R w.heap.size n D ∧ w'.heap.size = w.heap.size + 1 ∧ w.grownBy w' none := by
  have hlt := hown.lt
  obtain ⟨es, clock, hb, F, hs, hD⟩ := hown
  refine (clone_some b es clock w hb).mono fun e w' ⟨he, hw⟩ => ?_
  subst hw
  exact ⟨he, ⟨es, clock, (MapKept.heap_alloc w _).1, F, hs, hD⟩, by simp, World.grownBy_alloc _ _ _⟩

end Go.Proofs.Ytgmeaedpbcimjaa
