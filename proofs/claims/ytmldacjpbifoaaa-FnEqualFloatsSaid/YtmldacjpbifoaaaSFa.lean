/-
  What is proved here: the contracts of the reference's functions on pairs of floating-point numbers: whether a pair is the last one of its key; whether the last pair of a key has a value; whether two lists stand for equal maps.
  Conditions: each list has fewer than 2^43 pairs.
-/
import Derived.Test.YtmldacjpbifoaaaWordsF
import Derived.Test.YtmldacjpbifoaaaToF
import Derived.Deep.QuietTactic
import Derived.BigQuiet
namespace Go.Proofs.Ytmldacjpbifoaaa
open Go.RowKit Go.Maps

set_option maxRecDepth 100000 in
set_option maxHeartbeats 1000000 in
theorem lastF_any (A : Option Addr) (n c i : Nat) (xs : List (I × Nat)) (w : World) (hx : Has w 2 A n (cellsBy twoF xs)) (hn : n ≤ 8796093022208) (hi : i < n) :
    Calls Try.prog 25 #[.slice A n c, .int .i64 i] w fun e w' => e = .returned (.bool (lastB xs i)) ∧ ∃ m, w' = w.drewN m := by
  have hlx := Lib.hid hx.lenBy
  have HX := Lib.hid hx
  have hix : i < xs.length := by have := hx.lenBy; omega
  obtain ⟨b0, o0, rfl, _, f1, _⟩ := hx.two hix
  obtain ⟨p, hp⟩ : ∃ p, p = xs[i] := ⟨_, rfl⟩
  rw [← hp] at f1
  simp only [twoF] at f1
  have HP := Lib.hid hp
  clear hp hx
  generalize hr : lastB xs i = r
  have HR := Lib.hid hr
  clear hr
  go_enter Try.func25, Try.ntmps25
  go_wp2
  go_loopw [5] (fun v wi => ∃ j : Nat, v = .int .i64 j ∧ i < j ∧ j ≤ n ∧ Hid (∀ t (h1 : t < xs.length), i < t → t < j → (xs[t]).1 ≠ p.1) ∧ ∃ m, wi = w.drewN m)
    (fun v _ => n - (intOf v).toNat)
  case atStart => exact ⟨i + 1, by go_num, by omega, by omega, fun t _ h1 h2 => absurd h2 (by omega), 0, rfl⟩
  case round =>
    obtain ⟨j, rfl, hij, hj, hall, m, rfl⟩ := hrel
    by_cases hjl : j < n
    · have hjx : j < xs.length := by have := hlx.out; omega
      obtain ⟨b1, o1, ee, _, e1, _⟩ := HX.out.two hjx
      cases ee
      obtain ⟨q, hq⟩ : ∃ p, p = xs[j] := ⟨_, rfl⟩
      rw [← hq] at e1
      simp only [twoF] at e1
      have HQ := Lib.hid hq
      clear hq
      have i1 : (0 : Int) ≤ (j : Int) := by omega
      have i2 : (j : Int) < (n : Int) := by omega
      have i3 : (0 : Int) ≤ (i : Int) := by omega
      have i4 : (i : Int) < (n : Int) := by omega
      cases h1 : (q.1.1 == p.1.1)
      · go_wp2
        go_quiet (fail)
        go_wp2
        go_roundw
        case rel =>
          refine ⟨j + 1, by go_num, by omega, by omega, fun t h3 hit htj => ?_, _, rfl⟩
          by_cases ht' : t < j
          · exact hall.out t h3 hit ht'
          · obtain rfl : t = j := by omega
            rw [← HQ.out]
            rw [beq_keyF] at h1
            exact of_decide_eq_false h1
        case measure => simp [intOf]; omega
      · go_wp2
        go_quiet (fail)
        go_wp2
        go_ret
        exact ⟨by rw [← HR.out, lastB_false hix hjx hij (by rw [← HQ.out, ← HP.out]; rw [beq_keyF] at h1; exact of_decide_eq_true h1)]; rfl, m + nq, by rw [World.drewN_drewN]⟩
    · go_wp2
      go_ret
      exact ⟨by rw [← HR.out, lastB_true hix (fun t ht hit => by rw [← HP.out]; exact hall.out t ht hit (by have := hlx.out; omega))]; rfl, _, rfl⟩

set_option maxRecDepth 100000 in
set_option maxHeartbeats 1000000 in
theorem hasF_any (A : Option Addr) (n c : Nat) (xs : List (I × Nat)) (p : I × Nat) (w : World) (hx : Has w 2 A n (cellsBy twoF xs)) (hn : n ≤ 8796093022208) :
    Calls Try.prog 26 #[.slice A n c, .int .i64 p.1.1, .float .f64 p.2] w fun e w' => e = .returned (.bool (hasP eqvF xs p.1 p.2)) ∧ w' = w := by
  have hlx := Lib.hid hx.lenBy
  have HX := Lib.hid hx
  clear hx
  generalize hr : hasP eqvF xs p.1 p.2 = r
  have HR := Lib.hid hr
  clear hr
  go_enter Try.func26, Try.ntmps26
  go_wp2
  go_loop [7] (fun v => ∃ j : Nat, v = .int .i64 ((j : Int) - 1) ∧ j ≤ n ∧ Hid (∀ t (h1 : t < xs.length), j ≤ t → (xs[t]).1 ≠ p.1))
    (fun v => (intOf v + 1).toNat)
  case atStart => exact ⟨n, by first | rfl | simp, Nat.le_refl _, fun t h1 h => absurd h (by have := hlx.out; omega)⟩
  case round =>
    obtain ⟨j, rfl, hj, hall⟩ := hrel
    by_cases hj0 : j = 0
    · subst hj0
      go_wp2
      go_ret
      exact ⟨by rw [← HR.out]; unfold hasP; rw [last_no' (fun t ht => hall.out t ht (Nat.zero_le _))]; rfl, rfl⟩
    · obtain ⟨i, rfl⟩ : ∃ i, j = i + 1 := ⟨j - 1, by omega⟩
      have ei : ((i + 1 : Nat) : Int) - 1 = (i : Int) := by omega
      rw [ei]
      have hix : i < xs.length := by have := hlx.out; omega
      obtain ⟨b1, o1, rfl, _, e1, e2⟩ := HX.out.two hix
      obtain ⟨q, hq⟩ : ∃ p, p = xs[i] := ⟨_, rfl⟩
      rw [← hq] at e1 e2
      simp only [twoF] at e1 e2
      have HQ := Lib.hid hq
      clear hq ei
      cases h1 : (q.1.1 == p.1.1)
      · go_wp2
        go_round
        case rel =>
          refine ⟨i, by go_num, by omega, fun t h3 hti => ?_⟩
          by_cases ht' : i + 1 ≤ t
          · exact hall.out t h3 ht'
          · obtain rfl : t = i := by omega
            rw [← HQ.out]
            rw [beq_keyF] at h1
            exact of_decide_eq_false h1
        case measure => simp [intOf]
      · go_wp2
        go_ret
        have e3 : Plain.last p.1 xs = some q.2 := by
          rw [HQ.out]
          exact last_at' hix (by rw [← HQ.out]; rw [beq_keyF] at h1; exact of_decide_eq_true h1) (fun t ht h => hall.out t ht (by omega))
        exact ⟨by rw [← HR.out]; unfold hasP; rw [e3]; rfl, rfl⟩
end Go.Proofs.Ytmldacjpbifoaaa
