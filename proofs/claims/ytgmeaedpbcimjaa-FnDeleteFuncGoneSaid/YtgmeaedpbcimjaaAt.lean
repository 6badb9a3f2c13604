/-
  What is proved here: the contracts of the reference's HasPair, at and At: whether a pair is on a list; the value of the last pair of a key.
  Conditions: the list has fewer than 2^43 pairs.
-/
import Derived.Test.YtgmeaedpbcimjaaSame
namespace Go.Proofs.Ytgmeaedpbcimjaa
open Go.RowKit Go.Maps

theorem last_at {xs : List (I × I)} {k : I} {j : Nat} (hj : j < xs.length) (h1 : (xs[j]).1 = k) (h2 : ∀ t (ht : t < xs.length), j < t → (xs[t]).1 ≠ k) : Plain.last k xs = some (xs[j]).2 := by
  have e : xs = xs.take j ++ ([xs[j]] ++ xs.drop (j + 1)) := by simp
  have e2 : Plain.last k xs = Plain.last k (xs.take j ++ ([xs[j]] ++ xs.drop (j + 1))) := congrArg _ e
  rw [e2, Plain.last_append, Plain.last_append]
  have hn : Plain.last k (xs.drop (j + 1)) = none := Plain.last_none.2 fun p hp => by
    obtain ⟨t, ht, rfl⟩ := List.getElem_of_mem hp
    rw [List.getElem_drop]
    exact h2 _ _ (by omega)
  have h3 : Plain.last k [xs[j]] = some (xs[j]).2 := by simp [Plain.last, Plain.get, h1]
  rw [hn, h3]
  simp

theorem last_no {xs : List (I × I)} {k : I} (h : ∀ t (ht : t < xs.length), (xs[t]).1 ≠ k) : Plain.last k xs = none := Plain.last_none.2 fun p hp => by
  obtain ⟨t, ht, rfl⟩ := List.getElem_of_mem hp
  exact h t ht

/-- the number of a value that may lack -/
def vOf : Option I → Int
  | some v => v.1
  | none => 0

set_option maxRecDepth 100000 in
set_option maxHeartbeats 1000000 in
theorem hasPair_any (A : Option Addr) (n c : Nat) (xs : List (I × I)) (p : I × I) (w : World) (hx : Has w 2 A n (cells2 xs)) (hn : n ≤ 8796093022208) :
    Calls Try.prog 27 #[.slice A n c, .agg #[.int .i64 p.1.1, .int .i64 p.2.1]] w fun e w' => e = .returned (.bool (decide (p ∈ xs))) ∧ w.grownBy w' none := by
  have hlx := Lib.hid hx.len2
  have HX := Lib.hid hx
  clear hx
  generalize hr : decide (p ∈ xs) = r
  have HR := Lib.hid hr
  clear hr
  have hhp := heldP
  have hgp := guardP
  go_enter Try.func27, Try.ntmps27
  go_wp2
  go_loopw [5] (fun v wi => ∃ j : Nat, v = .int .i64 j ∧ j ≤ n ∧ Hid (∀ t (h1 : t < xs.length), t < j → xs[t] ≠ p) ∧ w.grownBy wi none ∧ wi.cell? ⟨w.heap.size, 0, none⟩ = some (.int .i64 p.1.1) ∧ wi.cell? ⟨w.heap.size, 1, none⟩ = some (.int .i64 p.2.1))
    (fun v _ => n - (intOf v).toNat)
  case atStart => exact ⟨0, rfl, Nat.zero_le _, fun t _ h => absurd h (by omega), World.grownBy_alloc _ _ _, by simp, by simp⟩
  case round =>
    obtain ⟨j, rfl, hj, hall, hgw, d1, d2⟩ := hrel
    by_cases hjl : j < n
    · have hjx : j < xs.length := by have := hlx.out; omega
      obtain ⟨b1, o1, rfl, _, e1, e2⟩ := (HX.out.kept hgw).pair hjx
      obtain ⟨q, hq⟩ : ∃ p, p = xs[j] := ⟨_, rfl⟩
      rw [← hq] at e1 e2
      have HQ := Lib.hid hq
      clear hq
      cases h1 : (q.1.1 == p.1.1)
      · cases h2 : (q.2.1 == p.2.1)
        all_goals
          go_wp2
          go_quiet (fail)
          go_wp2
          go_roundw
          case rel =>
            refine ⟨j + 1, by go_num, by omega, fun t h3 htj => ?_, gdrewN hgw _, d1, d2⟩
            by_cases ht' : t < j
            · exact hall.out t h3 ht'
            · obtain rfl : t = j := by omega
              rw [← HQ.out]
              intro e
              rw [e] at h1
              simp at h1
          case measure => simp [intOf]; omega
      · cases h2 : (q.2.1 == p.2.1)
        · go_wp2
          go_quiet (fail)
          go_wp2
          go_roundw
          case rel =>
            refine ⟨j + 1, by go_num, by omega, fun t h3 htj => ?_, gdrewN hgw _, d1, d2⟩
            by_cases ht' : t < j
            · exact hall.out t h3 ht'
            · obtain rfl : t = j := by omega
              rw [← HQ.out]
              intro e
              rw [e] at h2
              simp at h2
          case measure => simp [intOf]; omega
        · go_wp2
          go_quiet (fail)
          go_wp2
          go_ret
          exact ⟨by rw [← HR.out, decide_eq_true (show p ∈ xs from by rw [← eq_of_beq2 h1 h2, HQ.out]; exact List.getElem_mem hjx)]; rfl, gdrewN hgw _⟩
    · go_wp2
      go_ret
      exact ⟨by rw [← HR.out, decide_eq_false (fun hm => by obtain ⟨t, ht, e⟩ := List.getElem_of_mem hm; exact hall.out t ht (by have := hlx.out; omega) e)]; rfl, hgw⟩

set_option maxRecDepth 100000 in
set_option maxHeartbeats 1000000 in
theorem sat_any (A : Option Addr) (n c : Nat) (xs : List (I × I)) (k : I) (w : World) (hx : Has w 2 A n (cells2 xs)) (hn : n ≤ 17592186044416) :
    Calls Try.prog 34 #[.slice A n c, .int .i64 k.1] w fun e w' => e = .returned (.tuple #[.int .i64 (vOf (Plain.last k xs)), .bool (Plain.last k xs).isSome]) ∧ w = w' := by
  have hlx := Lib.hid hx.len2
  have HX := Lib.hid hx
  clear hx
  generalize hr : Plain.last k xs = r
  have HR := Lib.hid hr
  clear hr
  go_enter Try.func34, Try.ntmps34
  go_wp2
  go_loop [6] (fun v => ∃ j : Nat, v = .int .i64 ((j : Int) - 1) ∧ j ≤ n ∧ Hid (∀ t (h1 : t < xs.length), j ≤ t → (xs[t]).1 ≠ k))
    (fun v => (intOf v + 1).toNat)
  case atStart => exact ⟨n, by first | rfl | simp, Nat.le_refl _, fun t h1 h => absurd h (by have := hlx.out; omega)⟩
  case round =>
    obtain ⟨j, rfl, hj, hall⟩ := hrel
    by_cases hj0 : j = 0
    · subst hj0
      go_wp2
      go_ret2
      exact ⟨by rw [← HR.out, last_no (fun t ht => hall.out t ht (Nat.zero_le _))]; rfl, rfl⟩
    · obtain ⟨i, rfl⟩ : ∃ i, j = i + 1 := ⟨j - 1, by omega⟩
      have ei : ((i + 1 : Nat) : Int) - 1 = (i : Int) := by omega
      rw [ei]
      have hix : i < xs.length := by have := hlx.out; omega
      obtain ⟨b1, o1, rfl, _, e1, e2⟩ := HX.out.pair hix
      obtain ⟨q, hq⟩ : ∃ p, p = xs[i] := ⟨_, rfl⟩
      rw [← hq] at e1 e2
      have HQ := Lib.hid hq
      clear hq ei
      cases h1 : (q.1.1 == k.1)
      · go_wp2
        go_round
        case rel =>
          refine ⟨i, by go_num, by omega, fun t h3 hti => ?_⟩
          by_cases ht' : i + 1 ≤ t
          · exact hall.out t h3 ht'
          · obtain rfl : t = i := by omega
            rw [← HQ.out]
            intro e
            rw [e] at h1
            simp at h1
        case measure => simp [intOf]
      · go_wp2
        go_ret2
        have e3 : Plain.last k xs = some q.2 := by
          rw [HQ.out]
          exact last_at hix (by rw [← HQ.out]; exact Subtype.ext (by simpa using h1)) (fun t ht h => hall.out t ht (by omega))
        exact ⟨by rw [← HR.out, e3]; rfl, rfl⟩

set_option maxHeartbeats 400000 in
theorem sAt_any (A : Option Addr) (n c : Nat) (xs : List (I × I)) (k : I) (w : World) (hx : Has w 2 A n (cells2 xs)) (hn : n ≤ 17592186044416) :
    Calls Try.prog 16 #[.slice A n c, .int .i64 k.1] w fun e w' => e = .returned (.tuple #[.int .i64 (vOf (Plain.last k xs)), .bool (Plain.last k xs).isSome]) ∧ w = w' := by
  have hcon := sat_any A n c xs k w hx hn
  clear hx
  generalize Plain.last k xs = r at hcon ⊢
  go_enter Try.func16, Try.ntmps16
  go_wp2_with fail
  refine hcon.mono ?_
  rintro e w' ⟨rfl, rfl⟩
  go_wp2_with fail
  go_ret2
  exact ⟨rfl, rfl⟩
end Go.Proofs.Ytgmeaedpbcimjaa
