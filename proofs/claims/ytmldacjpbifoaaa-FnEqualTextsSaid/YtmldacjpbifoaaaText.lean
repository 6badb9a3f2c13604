/-
  What is proved here: the contract of a drawn text (aText): it has at most 2^20 bytes; of the reader only its count has turned.
  Conditions: the reader is one over at most 2^20 bytes.
-/
import Derived.Test.YtmldacjpbifoaaaInts
import Derived.Test.YtmldacjpbifoaaaWordsT
import Derived.Laws.BytesArg
import Derived.Laws.Concat
namespace Go.Proofs.Ytmldacjpbifoaaa
open Go.RowKit Go.Maps

theorem textsAt {w : World} (L : List ByteArray) (E : TypeId) (hL : ∀ s ∈ L, s.size ≤ 2) {j : Nat} (hj : j < L.length) : ∃ s : ByteArray, s.size ≤ 2 ∧ (w.alloc (.cells (L.map Value.string).toArray E)).cell? ⟨w.heap.size, j, none⟩ = some (.string s) := by
  refine ⟨L[j], hL _ (List.getElem_mem hj), ?_⟩
  rw [World.cell?_alloc_new]
  simp [hj]

/-- the code of a reader as a text -/
theorem RdAt.text {w : World} {r n c p : Nat} {A : Option Addr} {zs : List Int} (h : RdAt w r A n c zs p) :
    (convert 22 9 (.slice A n c)).run Try.prog w = .ok (.string (strOfNums zs)) w := by
  have hl : zs.length = n := by have := h.has.1; simpa using this
  by_cases h0 : n = 0
  · subst h0
    obtain rfl : zs = [] := List.eq_nil_of_length_eq_zero hl
    rw [run_convert_bytes_string w 22 9 5 A 0 c Try.underlying22 Try.underlying5 Try.underlying9]
    cases A <;> simp [Conv.bytesToString, loadCells]
    all_goals rfl
  · obtain ⟨b, off, rfl, hb, hc⟩ := h.has.2 (by omega)
    refine run_convert_bytes_arg w 22 5 Try.underlying22 Try.underlying5 b off n c zs hl (fun i hi => ?_) _ Try.underlying9
    have hi' : i < zs.length := by omega
    exact hc i _ (by simp [List.getD, hi'])

set_option maxRecDepth 100000 in
set_option maxHeartbeats 1000000 in
theorem aText_any (r q : Nat) (w : World) (h : Rd w r q) (hq : q ≤ 4294966000) :
    Calls Try.prog 17 #[.pointer (some ⟨r, 0, none⟩)] w fun e w' => ∃ s : ByteArray, e = .returned (.string s) ∧ s.size ≤ 1048576 ∧ Rd w' r (q + 5) ∧ w.grownBy w' (some r) := by
  have H := Lib.hid h
  have hlt : r < w.heap.size := h.lt
  clear h
  go_enter Try.func17, Try.ntmps17
  go_wp2_with fail
  refine (pick_any r q 4 _ (H.out.keptN (World.grownBy_alloc _ _ _)) (by omega) (by omega) (by omega)).mono ?_
  rintro e w1 ⟨y, rfl, hy, hr1, g1⟩
  have H1 := Lib.hid hr1
  have HT : Hid (∀ j, j < 9 → ∃ s : ByteArray, s.size ≤ 2 ∧ w1.cell? ⟨w.heap.size, j, none⟩ = some (.string s)) := Lib.hid (fun j hj => by
    obtain ⟨s, hs, hc⟩ := textsAt (w := w) [⟨#[97]⟩, ⟨#[98]⟩, ⟨#[]⟩, ⟨#[97, 98]⟩, ⟨#[97, 0]⟩, ⟨#[255]⟩, ⟨#[122]⟩, ⟨#[195, 169]⟩, ⟨#[66]⟩] 9 (by decide) (j := j) hj
    exact ⟨s, hs, g1.cell hc (by intro e; injection e with e; exact absurd (show w.heap.size = r from e) (by omega))⟩)
  have G1 := Lib.hid ((World.grownBy_alloc w _ (some r)).trans g1)
  clear hr1 g1
  obtain ⟨b, hb⟩ : ∃ b, b = w.heap.size := ⟨_, rfl⟩
  rw [← hb] at HT ⊢
  have hrb : r < b := by omega
  clear hb
  go_wp2_with fail
  go_loopw [3, 5] (fun v i wr => ∃ (k : Nat) (s : ByteArray), k ≤ 3 ∧ i = .int .i64 (k : Int) ∧ v = .string s ∧ s.size + 2 * k ≤ 6 ∧ Hid (Rd wr r (q + 1 + (3 - k))) ∧ Hid (w1.grownBy wr (some r)))
    (fun _ i _ => (intOf i).toNat)
  case atStart => exact ⟨y, _, by omega, rfl, rfl, by simp [ByteArray.size]; omega, Lib.hid (H1.out.le (by omega)), Lib.hid (World.grownBy.refl _ _)⟩
  case round =>
    clear H1
    obtain ⟨k, s, hk, rfl, rfl, hs, hr, hG⟩ := hrel
    by_cases hk0 : 0 < k
    · have hkp : (0 : Int) < (k : Int) := by omega
      go_wp2_with fail
      refine (pick_any r _ 9 _ hr.out (by omega) (by omega) (by omega)).mono ?_
      rintro e w2 ⟨j, rfl, hj, r2, g2⟩
      have R2 := Lib.hid r2
      have G2 := Lib.hid (hG.out.trans g2)
      obtain ⟨t, ht, hc⟩ := HT.out j hj
      have hc2 := G2.out.cell hc (by intro e; injection e with e; exact absurd (show b = r from e) (by omega))
      have i1 : (0 : Int) ≤ (j : Int) := by omega
      have i2 : (j : Int) < 9 := by omega
      have hadd : ¬ (9223372036854775807 < s.size + t.size) := by omega
      clear r2 g2 hc hr hG
      go_wp2_with fail
      go_roundw
      case rel => exact ⟨k - 1, s ++ t, by omega, by go_num, rfl, by rw [ByteArray.size_append]; omega, Lib.hid (R2.out.le (by omega)), G2⟩
      case measure => simp [intOf]; omega
    · go_wp2_with fail
      refine (pick_any r _ 12 _ hr.out (by omega) (by omega) (by omega)).mono ?_
      rintro e w2 ⟨j, rfl, hj, r2, g2⟩
      have R2 := Lib.hid r2
      have G2 := Lib.hid (hG.out.trans g2)
      clear r2 g2 hr hG
      by_cases hj0 : j = 0
      · subst hj0
        obtain ⟨A, n, c, zs, p, hp, ra⟩ := R2.out
        have c0 := ra.c0
        have htx := ra.text
        have hn := ra.small
        have hl : zs.length = n := by have := ra.has.1; simpa using this
        clear ra
        go_wp2_with fail
        go_ret
        exact ⟨strOfNums zs, rfl, by rw [strOfNums_size]; omega, R2.out.le (by omega), G1.out.trans G2.out⟩
      · have hb0 : ((j : Int) == 0) = false := by simp; omega
        go_wp2_with fail
        go_ret
        exact ⟨s, rfl, by omega, R2.out.le (by omega), G1.out.trans G2.out⟩
end Go.Proofs.Ytmldacjpbifoaaa
