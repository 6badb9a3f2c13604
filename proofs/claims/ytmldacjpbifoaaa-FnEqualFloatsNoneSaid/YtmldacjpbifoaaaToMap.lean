/-
  What is proved here: the contract of toMap: the map that it makes of a list of pairs reads as the sorted list of the pairs, of each key the last one.
  Conditions: the list has fewer than 2^43 pairs.
-/
import Derived.Test.YtmldacjpbifoaaaRows
import Derived.Test.YtmldacjpbifoaaaData
import Derived.WalkKit
import Derived.Lib.Hide
import Derived.WalkSpells
import Derived.WalkLawsBesides
namespace Go.Proofs.Ytmldacjpbifoaaa
open Go.RowKit Go.Maps

theorem lawI : Keyed Try.prog 3 := int_keyed Try.underlying3
theorem zeroI (w : World) : (zeroValue 3).run Try.prog w = .ok (.int .i64 0) w := by kernel_rfl

/-- block b is the map of the sorted list l -/
abbrev Map (w : World) (b n : Nat) (l : List (I × I)) : Prop := w.ownsMap Try.prog 3 (plainElem Try.prog 3) b n (dat l)

theorem key_of (k : I) : keyOf Try.prog 3 (.int .i64 k.1) = some (.int .i64 k.1) := keyOf_int_mk Try.underlying3 k.2

theorem take_put {xs : List (I × I)} {k : Nat} (hk : k < xs.length) : dat (Plain.mapOf (xs.take (k + 1))) = (dat (Plain.mapOf (xs.take k))).put (.int .i64 (xs[k]).1.1) (.lit (.int .i64 (xs[k]).2.1)) := by
  rw [List.take_succ_eq_append_getElem hk, Plain.mapOf_snoc, dat_put (Plain.srt_mapOf _)]

set_option maxRecDepth 100000 in
set_option maxHeartbeats 1000000 in
theorem toMap_any (A : Option Addr) (n c : Nat) (xs : List (I × I)) (w : World) (h : Has w 2 A n (cells2 xs)) (hn : n ≤ 8796093022208) :
    Calls Try.prog 30 #[.slice A n c] w fun e w' => e = .returned (.map (some w.heap.size)) ∧ Map w' w.heap.size n (Plain.mapOf xs) ∧ w.grownBy w' none := by
  have hmm := @run_makeMap Try.prog
  have hlen := Lib.hid h.len2
  have HX := Lib.hid h
  clear h
  go_enter Try.func30, Try.ntmps30
  go_wp2
  go_loopw [9] (fun i wr => ∃ k : Nat, k ≤ n ∧ i = .int .i64 k ∧ Map wr w.heap.size k (Plain.mapOf (xs.take k)) ∧ w.grownBy wr none)
    (fun i _ => n - (intOf i).toNat)
  case atStart => exact ⟨0, Nat.zero_le _, rfl, World.ownsMap_made _ _ _ _, World.grownBy_alloc _ _ _⟩
  case round =>
    obtain ⟨k, hk, rfl, hown, hgw⟩ := hrel
    by_cases hlt : k < n
    · have hkx : k < xs.length := by have := hlen.out; omega
      obtain ⟨b, off, rfl, hb, h1, h2⟩ := (HX.out.kept hgw).pair hkx
      generalize hx1 : (xs[k]).1.1 = a1 at h1
      generalize hx2 : (xs[k]).2.1 = a2 at h2
      have hw2 : (Lit.int .i64 a2).wf = true := hx2 ▸ (xs[k]).2.2
      have hkey : keyOf Try.prog 3 (.int .i64 a1) = some (.int .i64 a1) := hx1 ▸ key_of (xs[k]).1
      have HT := Lib.hid (take_put hkx)
      rw [hx1, hx2] at HT
      clear hx1 hx2 HX hlen
      go_wp2_with (first
        | (at_mapUpdate; refine wpList_mapUpdate_own _ rfl _ _ _ 60 rfl 3 3 lawI Try.underlying60 _ w.heap.size k _ rfl (hown.alloc _) (by unfold maxLen; omega) _ _ _ rfl rfl hkey _ [] (plainElem_int Try.underlying3 hw2) ?_; intro w1 hown1 hgrow1)
        | go_in)
      go_roundw
      case rel => exact ⟨k + 1, by omega, by go_num, by unfold Map; rw [HT.out]; exact hown1, (hgw.andThen (World.grownBy_alloc wr _ none) (fun j hj => by cases hj)).andThen hgrow1 (fun j hj => .inl (by cases hj; exact Nat.le_refl _))⟩
      case measure => simp [intOf]; omega
    · go_wp2
      go_ret
      have : k = n := by omega
      subst this
      rw [List.take_of_length_le (Nat.le_of_eq hlen.out)] at hown
      exact ⟨rfl, hown, hgw⟩
end Go.Proofs.Ytmldacjpbifoaaa
