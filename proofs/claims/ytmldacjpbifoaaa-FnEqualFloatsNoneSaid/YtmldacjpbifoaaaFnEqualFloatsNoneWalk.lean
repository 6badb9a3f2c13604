/-
  What is proved here: the walk through the law FnEqualFloatsNone: it returns true.
  Conditions: the code is read as the form reads it.
-/
import Derived.Test.YtmldacjpbifoaaaDrawF
import Derived.Test.YtmldacjpbifoaaaToF
import Derived.Deep.QuietTactic
import Derived.BigQuiet
namespace Go.Proofs.Ytmldacjpbifoaaa.fnEqualFloatsNone
open Go.RowKit Go.Maps
set_option linter.unusedSimpArgs false
set_option linter.unusedVariables false

/-- the number is equal to itself -/
def selfB (xs : List (I × Nat)) (j : Nat) : Bool := match xs[j]? with | some p => eqvF p.2 p.2 | none => true
/-- of the first k pairs one that is the last of its key is not equal to itself -/
def noneTo (xs : List (I × Nat)) (k : Nat) : Bool := (List.range k).any fun j => lastB xs j && !selfB xs j
/-- none of the pairs behind the one at k, up to j, has its key -/
def lastTo (xs : List (I × Nat)) (p : I × Nat) (k j : Nat) : Bool := ((xs.take j).drop (k + 1)).all fun q => !decide (q.1 = p.1)

theorem none_succ (xs : List (I × Nat)) (k : Nat) : noneTo xs (k + 1) = (noneTo xs k || (lastB xs k && !selfB xs k)) := by
  simp [noneTo, List.range_succ, List.any_append]
theorem last_start (xs : List (I × Nat)) (p : I × Nat) (k : Nat) : lastTo xs p k (k + 1) = true := by
  unfold lastTo
  rw [List.drop_eq_nil_of_le (List.length_take_le _ _)]
  rfl
theorem last_succ {xs : List (I × Nat)} (p : I × Nat) {k j : Nat} (hk : k < j) (hj : j < xs.length) : lastTo xs p k (j + 1) = (lastTo xs p k j && !((xs[j]).1.1 == p.1.1)) := by
  unfold lastTo
  rw [List.take_succ_eq_append_getElem hj, List.drop_append_of_le_length (by rw [List.length_take]; omega), List.all_append, beq_keyF]
  simp
theorem last_end {xs : List (I × Nat)} {p : I × Nat} {k : Nat} (hk : k < xs.length) (hp : p = xs[k]) : lastTo xs p k xs.length = lastB xs k := by
  unfold lastTo lastB
  rw [List.take_length, List.getElem?_eq_getElem hk, hp]
theorem self_at {xs : List (I × Nat)} {p : I × Nat} {k : Nat} (hk : k < xs.length) (hp : p = xs[k]) : selfB xs k = eqvF p.2 p.2 := by
  unfold selfB
  rw [List.getElem?_eq_getElem hk, hp]
theorem same_self (xs : List (I × Nat)) : Same eqvF xs xs ↔ noneTo xs xs.length = false := by
  unfold noneTo
  rw [List.any_eq_false]
  constructor
  · intro h j hj
    have hj' := List.mem_range.1 hj
    rw [Bool.and_eq_true, not_and]
    intro hl hs
    have h1 := of_place hj' ((lastB_iff hj').1 hl)
    obtain ⟨u, hu, e⟩ := h.1 _ _ h1
    rw [h1] at hu
    cases hu
    rw [self_at hj' rfl, e] at hs
    cases hs
  · intro h
    refine ⟨fun k v hv => ⟨v, hv, ?_⟩, fun k u hu => ⟨u, hu⟩⟩
    obtain ⟨i, hi, hx, hl⟩ := last_place hv
    have h1 := h i (List.mem_range.2 hi)
    rw [Bool.and_eq_true, not_and] at h1
    have h2 := h1 ((lastB_iff hi).2 hl)
    rw [self_at hi rfl, hx] at h2
    simpa using h2

set_option maxRecDepth 100000 in
set_option maxHeartbeats 1000000 in
theorem walk (A : Option Addr) (n c : Nat) (zs : List Int) (w : World) (h : Bytes w A n c zs) :
    Calls Try.prog 5 #[.slice A n c] w fun e w' => e = .returned (.bool true) ∧ w.grownBy w' none := by
  have HB := Lib.hid h
  clear h
  by_cases hn : 1048576 < n
  · go_enter Try.func5, Try.ntmps5
    go_wp2_with fail
    go_ret
    exact ⟨rfl, World.grownBy.refl _ _⟩
  · go_enter Try.func5, Try.ntmps5
    go_wp2_with fail
    refine (drawF_any A n c zs _ HB.out (by omega)).mono ?_
    rintro e w1 ⟨A1, n1, c1, xs, A2, n2, c2, ys, rfl, X, hn1, Y, hn2, g0⟩
    have X := Lib.hid X
    have Y := Lib.hid Y
    have G := Lib.hid g0
    clear g0
    have lx := X.out.lenBy
    have ly := Y.out.lenBy
    have hx1 : n1 ≤ 8796093022208 := by omega
    go_wp2_with fail
    go_loopw [5, 6] (fun v i wr => ∃ (k : Nat), k ≤ n1 ∧ i = .int .i64 (k : Int) ∧ v = .bool (noneTo xs k) ∧ Hid (w1.grownBy wr none))
      (fun _ i _ => n1 - (intOf i).toNat)
    case atStart => exact ⟨0, by omega, rfl, rfl, Lib.hid (World.grownBy.refl _ _)⟩
    case round =>
      obtain ⟨k, hk, rfl, rfl, hG⟩ := hrel
      by_cases hkn : k < n1
      · have hkx : k < xs.length := by omega
        have HN := Lib.hid (none_succ xs k)
        generalize noneTo xs k = nb at HN ⊢
        have XX := X
        obtain ⟨b1, o1, rfl, _, E1, E2⟩ := X.out.two hkx
        obtain ⟨p, hp⟩ : ∃ p, p = xs[k] := ⟨_, rfl⟩
        rw [← hp] at E1 E2
        simp only [twoF] at E1 E2
        rw [← last_end hkx hp, self_at hkx hp, lx] at HN
        have HE1 := Lib.hid E1
        have HE2 := Lib.hid E2
        clear hp E1 E2
        have i1 : (0 : Int) ≤ (k : Int) := by omega
        have i2 : (k : Int) < (n1 : Int) := by omega
        go_wp2_with fail
        go_loopw [7, 8] (fun v i wi => ∃ (j : Nat), k < j ∧ j ≤ n1 ∧ i = .int .i64 (j : Int) ∧ v = .bool (lastTo xs p k j) ∧ Hid (w1.grownBy wi none))
          (fun _ i _ => n1 - (intOf i).toNat)
        case atStart => exact ⟨k + 1, by omega, by omega, by go_num, by rw [last_start], hG⟩
        case round =>
          clear hG
          obtain ⟨j, hkj, hj, rfl, rfl, hG⟩ := hrel
          by_cases hjn : j < n1
          · have hjx : j < xs.length := by omega
            have HS := Lib.hid (last_succ p hkj hjx)
            generalize lastTo xs p k j = lb at HS ⊢
            obtain ⟨b2, o2, ee, _, F1, _⟩ := XX.out.two hjx
            cases ee
            obtain ⟨q, hq⟩ : ∃ q, q = xs[j] := ⟨_, rfl⟩
            rw [← hq] at F1 HS
            simp only [twoF] at F1
            clear hq
            have e1 := hG.out.cell HE1.out (by simp)
            have f1 := hG.out.cell F1 (by simp)
            clear F1
            have j1 : (0 : Int) ≤ (j : Int) := by omega
            have j2 : (j : Int) < (n1 : Int) := by omega
            cases lb
            · go_wp2_with fail
              go_quiet (fail)
              go_wp2_with fail
              go_roundw
              case rel => exact ⟨j + 1, by omega, by omega, by go_num, by rw [HS.out]; rfl, Lib.hid (gdrewN hG.out _)⟩
              case measure => simp [intOf]; omega
            · go_wp2_with fail
              go_quiet (fail)
              go_wp2_with fail
              go_roundw
              case rel => exact ⟨j + 1, by omega, by omega, by go_num, by rw [HS.out]; simp; rfl, Lib.hid (gdrewN hG.out _)⟩
              case measure => simp [intOf]; omega
          · obtain rfl : n1 = j := by omega
            generalize lastTo xs p k n1 = lb at HN ⊢
            have e2 := hG.out.cell HE2.out (by simp)
            cases nb
            · cases lb
              · go_wp2_with fail
                go_quiet (fail)
                go_wp2_with fail
                go_roundw
                case rel => exact ⟨k + 1, by omega, by go_num, by rw [HN.out]; rfl, Lib.hid (gdrewN hG.out _)⟩
                case measure => simp [intOf]; omega
              · go_wp2_with fail
                go_quiet (fail)
                go_wp2_with fail
                go_roundw
                case rel => exact ⟨k + 1, by omega, by go_num, by rw [HN.out]; simp [eqvF]; rfl, Lib.hid (gdrewN hG.out _)⟩
                case measure => simp [intOf]; omega
            · go_wp2_with fail
              go_quiet (fail)
              go_wp2_with fail
              go_roundw
              case rel => exact ⟨k + 1, by omega, by go_num, by rw [HN.out]; rfl, Lib.hid (gdrewN hG.out _)⟩
              case measure => simp [intOf]; omega
      · obtain rfl : n1 = k := by omega
        have X := Lib.hid (X.out.kept hG.out)
        have G := Lib.hid (G.out.trans hG.out)
        have HS := Lib.hid (same_self xs)
        rw [lx] at HS
        generalize noneTo xs n1 = nb at HS ⊢
        go_wp2_with fail
        refine (equalF_any A1 A1 n1 c1 n1 c1 xs xs _ X.out X.out (by omega) (by omega)).mono ?_
        rintro e w3 ⟨r1, rfl, h0, g0⟩
        obtain rfl : r1 = !nb := by rw [Bool.eq_iff_iff, h0, HS.out]; cases nb <;> simp
        have G := Lib.hid (G.out.trans g0)
        clear g0 h0
        go_wp2_with fail
        go_ret
        exact ⟨by simp, G.out⟩
end Go.Proofs.Ytmldacjpbifoaaa.fnEqualFloatsNone
