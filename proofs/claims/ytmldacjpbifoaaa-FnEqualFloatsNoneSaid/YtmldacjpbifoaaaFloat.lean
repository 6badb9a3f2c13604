/-
  What is proved here: the contract of a drawn floating-point number (aFloat): it returns one; of the reader only its count has turned.
  Conditions: the reader is one over at most 2^20 bytes.
-/
import Derived.Test.YtmldacjpbifoaaaInts
import Derived.Test.YtmldacjpbifoaaaWordsF
import Derived.Laws.Externs
import Derived.Laws.FloatArith
namespace Go.Proofs.Ytmldacjpbifoaaa
open Go.RowKit Go.Maps

theorem fromBits (n : Int) (w : World) : (callFunc 35 #[.int .u64 n]).run Try.prog w = .ok (.value (.float .f64 n.toNat)) w := by
  rw [run_callFunc_extern Try.func35 (by kernel_rfl) (by kernel_rfl) (by kernel_rfl) (e := Extern.MathFloatBits.float64frombits) (by kernel_rfl)]
  rfl
theorem toBits (b : Nat) (w : World) : (callFunc 38 #[.float .f64 b]).run Try.prog w = .ok (.value (.int .u64 b)) w := by
  rw [run_callFunc_extern Try.func38 (by kernel_rfl) (by kernel_rfl) (by kernel_rfl) (e := Extern.MathFloatBits.float64bits) (by kernel_rfl)]
  rfl

theorem copysign_any (a b : Nat) (w : World) : Calls Try.prog 32 #[.float .f64 a, .float .f64 b] w fun e w' => ∃ x : Nat, e = .returned (.float .f64 x) ∧ w = w' := by
  have h1 := fromBits
  have h2 := toBits
  go_enter Try.func32, Try.ntmps32
  go_wp2
  go_ret
  exact ⟨_, rfl, rfl⟩
theorem nan_any (w : World) : Calls Try.prog 33 #[] w fun e w' => ∃ x : Nat, e = .returned (.float .f64 x) ∧ w = w' := by
  have h1 := fromBits
  go_enter Try.func33, Try.ntmps33
  go_wp2
  go_ret
  exact ⟨_, rfl, rfl⟩
theorem inf_any (n : Int) (w : World) : Calls Try.prog 34 #[.int .i64 n] w fun e w' => ∃ x : Nat, e = .returned (.float .f64 x) ∧ w = w' := by
  have h1 := fromBits
  go_enter Try.func34, Try.ntmps34
  go_wp2
  all_goals
    go_ret
    exact ⟨_, rfl, rfl⟩

theorem floatsAt {w : World} (L : List Nat) (E : TypeId) {j : Nat} (hj : j < L.length) : ∃ z : Nat, (w.alloc (.cells (L.map (Value.float .f64)).toArray E)).cell? ⟨w.heap.size, j, none⟩ = some (.float .f64 z) := by
  refine ⟨L[j], ?_⟩
  rw [World.cell?_alloc_new]
  simp [hj]

theorem halves : ∀ x : Nat, x < 9 → ∃ z, floatBits .quo .f64 (floatOfInt .f64 ((x : Int) - 4)) 4611686018427387904 = some z := by
  have h : ∀ x : Nat, x < 9 → (floatBits .quo .f64 (floatOfInt .f64 ((x : Int) - 4)) 4611686018427387904).isSome = true := by decide +kernel
  exact fun x hx => Option.isSome_iff_exists.1 (h x hx)

set_option maxRecDepth 100000 in
set_option maxHeartbeats 1000000 in
theorem aFloat_any (r q : Nat) (w : World) (h : Rd w r q) (hq : q ≤ 4294966000) :
    Calls Try.prog 22 #[.pointer (some ⟨r, 0, none⟩)] w fun e w' => ∃ x : Nat, e = .returned (.float .f64 x) ∧ Rd w' r (q + 9) ∧ w.grownBy w' (some r) := by
  have H := Lib.hid h
  have hlt : r < w.heap.size := h.lt
  clear h
  have hfb := fromBits
  go_enter Try.func22, Try.ntmps22
  go_wp2_with fail
  refine (pick_any r q 4 _ H.out (by omega) (by omega) (by omega)).mono ?_
  rintro e w1 ⟨y, rfl, hy, hr1, g1⟩
  have H1 := Lib.hid hr1
  clear hr1
  have hl1 : r < w1.heap.size := H1.out.lt
  have hcase : ((y : Int) == 0) = true ∨ (((y : Int) == 0) = false ∧ ((y : Int) == 1) = true) ∨ (((y : Int) == 0) = false ∧ ((y : Int) == 1) = false ∧ ((y : Int) == 2) = true) ∨ (((y : Int) == 0) = false ∧ ((y : Int) == 1) = false ∧ ((y : Int) == 2) = false) := by
    simp only [beq_iff_eq, beq_eq_false_iff_ne]; omega
  rcases hcase with hb0 | ⟨hb0, hb1⟩ | ⟨hb0, hb1, hb2⟩ | ⟨hb0, hb1, hb2⟩
  iterate 2
    · go_wp2_with fail
      refine (copysign_any _ _ _).mono ?_
      rintro e wz ⟨x1, rfl, rfl⟩
      go_wp2_with fail
      refine (nan_any _).mono ?_
      rintro e wz ⟨x2, rfl, rfl⟩
      go_wp2_with fail
      refine (inf_any _ _).mono ?_
      rintro e wz ⟨x3, rfl, rfl⟩
      go_wp2_with fail
      refine (inf_any _ _).mono ?_
      rintro e wz ⟨x4, rfl, rfl⟩
      go_wp2_with fail
      refine (pick_any r (q + 1) 14 _ (H1.out.keptN (World.grownBy_alloc _ _ _)) (by omega) (by omega) (by omega)).mono ?_
      rintro e w2 ⟨j, rfl, hj, hr2, g2⟩
      have H2 := Lib.hid hr2
      clear hr2
      obtain ⟨z, hz⟩ := floatsAt (w := w1) [0, x1, 4607182418800017408, 13830554455654793216, x2, x3, x4, 4602678819172646912, 13826050856027422720, 1, 9223372036854775809, 9218868437227405311, 18442240474082181119, 4611686018427387904] 32 (j := j) hj
      have hz2 := g2.cell hz (by intro e; injection e with e; exact absurd (show w1.heap.size = r from e) (by omega))
      have i1 : (0 : Int) ≤ (j : Int) := by omega
      have i2 : (j : Int) < 14 := by omega
      have gg := Lib.hid ((World.grownBy_alloc w1 _ (some r)).trans g2)
      clear hz g2
      go_wp2_with fail
      go_ret
      exact ⟨z, rfl, H2.out.le (by omega), g1.trans gg.out⟩
  · go_wp2_with fail
    refine (bits_any r (q + 1) _ H1.out (by omega)).mono ?_
    rintro e w2 ⟨x, rfl, hr2, g2⟩
    have H2 := Lib.hid hr2
    clear hr2
    go_wp2_with fail
    go_ret
    exact ⟨_, rfl, H2.out.le (by omega), g1.trans g2⟩
  · go_wp2_with fail
    refine (pick_any r (q + 1) 9 _ H1.out (by omega) (by omega) (by omega)).mono ?_
    rintro e w2 ⟨x, rfl, hx, hr2, g2⟩
    have H2 := Lib.hid hr2
    clear hr2
    obtain ⟨z, hz⟩ := halves x hx
    have hqu := fun W => run_float_arith (P := Try.prog) W .quo 32 .f64 _ _ z hz
    go_wp2_with fail
    go_ret
    exact ⟨_, rfl, H2.out.le (by omega), g1.trans g2⟩
end Go.Proofs.Ytmldacjpbifoaaa
