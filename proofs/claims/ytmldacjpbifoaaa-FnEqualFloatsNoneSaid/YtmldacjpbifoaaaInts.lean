/-
  What is proved here: the contracts of the drawn 64 bits (bits) and of a drawn whole number (anInt): they return some number and turn nothing but the reader's own place.
  Conditions: fewer than 2^32 numbers have been drawn.
-/
import Derived.Test.YtmldacjpbifoaaaRd
namespace Go.Proofs.Ytmldacjpbifoaaa
open Go.RowKit Go.Maps

/-- a step of the draw: nothing turns but the reader r, which has drawn d numbers more at most -/
structure Drew (w w' : World) (r q : Nat) : Prop where
  rd : Rd w' r q
  grown : w.grownBy w' (some r)

theorem i64_wf (x : Int) : (Lit.int .i64 (IntKind.i64.wrap x)).wf = true := by
  rw [IntKind.wrap_i64]
  simp [Lit.wf, IntKind.min, IntKind.max, IntKind.signed, IntKind.bits]
  omega
theorem wrap64_wf (x : Int) : (Lit.int .i64 (wrap64 x)).wf = true := by
  have := i64_wf x
  rwa [IntWalk.i64_left] at this

set_option maxRecDepth 100000 in
set_option maxHeartbeats 4000000 in
theorem bits_any (r q : Nat) (w : World) (h : Rd w r q) (hq : q ≤ 4294967000) :
    Calls Try.prog 36 #[.pointer (some ⟨r, 0, none⟩)] w fun e w' => ∃ x : Int, e = .returned (.int .u64 x) ∧ Rd w' r (q + 8) ∧ w.grownBy w' (some r) := by
  have H := Lib.hid h
  clear h
  go_enter Try.func36, Try.ntmps36
  go_wp2_with fail
  go_loopw [3, 4] (fun v i wr => ∃ (k : Nat) (x : Int), k ≤ 8 ∧ i = .int .i64 k ∧ v = .int .u64 x ∧ Hid (Rd wr r (q + k)) ∧ w.grownBy wr (some r))
    (fun _ i _ => 8 - (intOf i).toNat)
  case atStart => exact ⟨0, 0, by omega, rfl, rfl, H, World.grownBy.refl _ _⟩
  case round =>
    obtain ⟨k, x, hk, rfl, rfl, hr, hg⟩ := hrel
    by_cases hlt : k < 8
    · go_wp2_with fail
      refine (pick_any r (q + k) 256 _ hr.out (by omega) (by omega) (by omega)).mono ?_
      rintro e w1 ⟨y, rfl, hy, hr1, g1⟩
      have hr2 := Lib.hid hr1
      clear hr1
      go_wp2_with fail
      go_roundw
      case rel => exact ⟨k + 1, _, by omega, by go_num, by rfl, hr2, hg.trans g1⟩
      case measure => simp [intOf]; omega
    · go_wp2_with fail
      go_ret
      exact ⟨x, rfl, hr.out.le (by omega), hg⟩

theorem intsAt {w : World} (L : List Int) (E : TypeId) {j : Nat} (hj : j < L.length) (hL : ∀ z ∈ L, (Lit.int .i64 z).wf = true) : ∃ z : I, (w.alloc (.cells (L.map (Value.int .i64)).toArray E)).cell? ⟨w.heap.size, j, none⟩ = some (.int .i64 z.1) := by
  refine ⟨⟨L[j], hL _ (List.getElem_mem hj)⟩, ?_⟩
  rw [World.cell?_alloc_new]
  simp [hj]

set_option maxRecDepth 100000 in
set_option maxHeartbeats 4000000 in
theorem anInt_any (r q : Nat) (w : World) (h : Rd w r q) (hq : q ≤ 4294966000) :
    Calls Try.prog 37 #[.pointer (some ⟨r, 0, none⟩)] w fun e w' => ∃ x : I, e = .returned (.int .i64 x.1) ∧ Rd w' r (q + 9) ∧ w.grownBy w' (some r) := by
  have H := Lib.hid h
  clear h
  go_enter Try.func37, Try.ntmps37
  go_wp2_with fail
  refine (pick_any r q 4 _ H.out (by omega) (by omega) (by omega)).mono ?_
  rintro e w1 ⟨y, rfl, hy, hr1, g1⟩
  have H1 := Lib.hid hr1
  clear hr1
  by_cases h0 : y = 0
  · subst h0
    go_wp2_with fail
    have hlt : r < w1.heap.size := H1.out.lt
    refine (pick_any r (q + 1) 12 _ (H1.out.keptN (World.grownBy_alloc _ _ _)) (by omega) (by omega) (by omega)).mono ?_
    rintro e w2 ⟨j, rfl, hj, hr2, g2⟩
    have H2 := Lib.hid hr2
    clear hr2
    obtain ⟨z, hz⟩ := intsAt (w := w1) [0, 1, -1, 2, 127, -128, 2147483648, -2147483648, 9223372036854775807, -9223372036854775808, -9223372036854775807, 4611686018427387904] 3 (j := j) hj (by decide)
    have hz2 := g2.cell hz (by intro e; injection e with e; exact absurd (show w1.heap.size = r from e) (by omega))
    have i1 : (0 : Int) ≤ (j : Int) := by omega
    have i2 : (j : Int) < 12 := by omega
    have gg := Lib.hid ((World.grownBy_alloc w1 (.cells (([0, 1, -1, 2, 127, -128, 2147483648, -2147483648, 9223372036854775807, -9223372036854775808, -9223372036854775807, 4611686018427387904] : List Int).map (Value.int .i64)).toArray 3) (some r)).trans g2)
    clear hz g2
    go_wp2_with fail
    go_ret
    exact ⟨z, rfl, H2.out.le (by omega), g1.trans gg.out⟩
  · have hb0 : ((y : Int) == 0) = false := by simp; omega
    by_cases h1 : y = 1
    · subst h1
      go_wp2_with fail
      refine (bits_any r (q + 1) _ H1.out (by omega)).mono ?_
      rintro e w2 ⟨x, rfl, hr2, g2⟩
      have H2 := Lib.hid hr2
      clear hr2
      go_wp2_with fail
      go_ret
      exact ⟨⟨wrap64 x, wrap64_wf x⟩, rfl, H2.out.le (by omega), g1.trans g2⟩
    · have hb1 : ((y : Int) == 1) = false := by simp; omega
      go_wp2_with fail
      refine (pick_any r (q + 1) 9 _ H1.out (by omega) (by omega) (by omega)).mono ?_
      rintro e w2 ⟨x, rfl, hx, hr2, g2⟩
      have H2 := Lib.hid hr2
      clear hr2
      go_wp2_with fail
      go_ret
      exact ⟨⟨(x : Int) - 4, by simp [Lit.wf, IntKind.min, IntKind.max, IntKind.signed, IntKind.bits]; omega⟩, rfl, H2.out.le (by omega), g1.trans g2⟩
end Go.Proofs.Ytmldacjpbifoaaa
