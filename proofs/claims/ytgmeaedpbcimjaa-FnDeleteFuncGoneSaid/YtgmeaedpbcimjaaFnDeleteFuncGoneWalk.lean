/-
  What is proved here: the walk through the law FnDeleteFuncGone: it returns true.
  Conditions: the code is read as the form reads it.
-/
import Derived.Test.YtgmeaedpbcimjaaDraw
import Derived.Test.YtgmeaedpbcimjaaDrop
import Derived.Test.YtgmeaedpbcimjaaDelFunc
import Derived.Test.YtgmeaedpbcimjaaSDelFunc
import Derived.Test.YtgmeaedpbcimjaaCopy
import Derived.Test.YtgmeaedpbcimjaaAt
import Derived.Deep.RegionHeld3
namespace Go.Proofs.Ytgmeaedpbcimjaa.fnDeleteFuncGone
open Go.RowKit Go.Maps
set_option linter.unusedSimpArgs false
set_option linter.unusedVariables false

theorem length_left (l rs : List (I × I)) : (left_of l rs).length ≤ l.length := List.length_filter_le _ _

theorem mem_left {l rs : List (I × I)} {p : I × I} (hp : p ∈ l) : decide (p ∈ left_of l rs) = !decide (p ∈ rs) := by
  unfold left_of
  rw [Bool.eq_iff_iff]
  simp [hp]

set_option maxRecDepth 100000 in
set_option maxHeartbeats 4000000 in
theorem walk (A : Option Addr) (n c : Nat) (zs : List Int) (w : World) (h : Bytes w A n c zs) :
    Calls Try.prog 13 #[.slice A n c] w fun e w' => e = .returned (.bool true) ∧ w.grownBy w' none := by
  have HB := Lib.hid h
  clear h
  by_cases hn : 1048576 < n
  · go_enter Try.func13, Try.ntmps13
    go_wp2_with fail
    go_ret
    exact ⟨rfl, World.grownBy.refl _ _⟩
  · go_enter Try.func13, Try.ntmps13
    have G := Lib.hid (World.grownBy.refl w none)
    go_wp2_with fail
    refine (deleteFunc_any (some ⟨w.heap.size, 0, none⟩) none 1 1 0 0 [(⟨1, by decide⟩, ⟨2, by decide⟩)] [] _ (hasOne w (⟨1, by decide⟩, ⟨2, by decide⟩)) Has.none_ (by omega) (by omega)).mono ?_
    rintro e w0 ⟨B0, m0, d0, rfl, o0, g0⟩
    have hm0 : m0 = 1 := o0.len.symm
    subst hm0
    have g0 := (World.grownBy_alloc w _ none).trans g0
    have HB := Lib.hid (HB.out.kept g0)
    have G := Lib.hid (G.out.trans g0)
    clear g0 o0
    go_wp2_with fail
    refine (drawDrop_any A n c zs _ HB.out (by omega)).mono ?_
    rintro e w1 ⟨A1, n1, c1, xs, A2, n2, c2, ys, A3, n3, c3, vs, rfl, X, hn1, Y, hn2, V, hn3, g0⟩
    have X := Lib.hid X
    have Y := Lib.hid Y
    have V := Lib.hid V
    have G := Lib.hid (G.out.trans g0)
    clear g0
    have lx := X.out.len2
    have ly := Y.out.len2
    have lv := V.out.len2
    go_wp2_with fail
    refine (deleteFunc_any A1 A2 n1 c1 n2 c2 xs ys _ X.out Y.out (by omega) (by omega)).mono ?_
    rintro e w2 ⟨B1, m1, d1, rfl, o0, g0⟩
    have X := Lib.hid (X.out.kept g0)
    have Y := Lib.hid (Y.out.kept g0)
    have V := Lib.hid (V.out.kept g0)
    have G := Lib.hid (G.out.trans g0)
    clear g0
    have hm1 : m1 ≤ 80 := by
      have t1 := o0.len
      have t2 := length_left (Plain.mapOf xs) (ys)
      have t3 := Plain.length_mapOf_le (xs)
      try simp only [List.length_append, List.length_cons, List.length_nil] at t3
      omega
    have K1 := Lib.hid o0.has
    clear o0
    have lk1 := K1.out.len2
    go_wp2_with fail
    refine (clone_any A1 n1 c1 xs _ X.out (by omega)).mono ?_
    rintro e w3 ⟨B2, m2, d2, rfl, o0, g0⟩
    have X := Lib.hid (X.out.kept g0)
    have Y := Lib.hid (Y.out.kept g0)
    have V := Lib.hid (V.out.kept g0)
    have K1 := Lib.hid (K1.out.kept g0)
    have G := Lib.hid (G.out.trans g0)
    clear g0
    have hm2 : m2 ≤ 80 := by
      have t1 := o0.len
      have t2 := Plain.length_mapOf_le (xs)
      try simp only [List.length_append, List.length_cons, List.length_nil] at t2
      omega
    have K2 := Lib.hid o0.has
    clear o0
    have lk2 := K2.out.len2
    obtain ⟨L, hL⟩ : ∃ L, L = Plain.mapOf xs := ⟨_, rfl⟩
    rw [← hL] at K1 lk1 K2 lk2
    clear hL X V
    obtain ⟨O, hO⟩ : ∃ O, O = left_of L ys := ⟨_, rfl⟩
    rw [← hO] at K1 lk1
    have HO := Lib.hid hO
    clear hO
    go_wp2_with fail
    go_loopw [8, 9] (fun v i wr => ∃ (k : Nat), k ≤ m2 ∧ i = .int .i64 (k : Int) ∧ v = .int .i64 ((left_of (L.take k) ys).length : Int) ∧ Hid (w3.grownBy wr none))
      (fun _ i _ => m2 - (intOf i).toNat)
    case atStart => exact ⟨0, by omega, rfl, rfl, Lib.hid (World.grownBy.refl _ _)⟩
    case round =>
      obtain ⟨k, hk, rfl, rfl, hG⟩ := hrel
      have Y := Lib.hid (Y.out.kept hG.out)
      have K1 := Lib.hid (K1.out.kept hG.out)
      have K2 := Lib.hid (K2.out.kept hG.out)
      by_cases hkn : k < m2
      · have hkL : k < L.length := by omega
        have hlen := length_left (L.take k) ys
        have hlen2 : (L.take k).length ≤ k := List.length_take_le _ _
        have hs := left_snoc (rs := ys) hkL
        have hq := mem_left (rs := ys) (List.getElem_mem hkL)
        rw [← HO.out] at hq
        obtain ⟨b, off, rfl, hb, e1, e2⟩ := K2.out.pair hkL
        obtain ⟨p, hp⟩ : ∃ p, p = L[k] := ⟨_, rfl⟩
        rw [← hp] at e1 e2 hs hq
        clear hp
        have j0 : (0 : Int) ≤ (k : Int) := by omega
        have j1 : (k : Int) < (m2 : Int) := by omega
        by_cases hin : p ∈ ys
        · have HI : Hid (decide (p ∈ ys) = true) := Lib.hid (decide_eq_true hin)
          have HQ : Hid (decide (p ∈ O) = false) := Lib.hid (by rw [hq, HI.out]; rfl)
          rw [if_pos hin, List.append_nil] at hs
          have HS := Lib.hid (congrArg List.length hs)
          clear hs hq hin
          generalize (left_of (L.take k) ys).length = z at HS hlen ⊢
          go_wp2_with fail
          go_region_held3 (fun w' => w'.cell? ⟨b, off + k * 2, none⟩ = some (.int .i64 p.1.1) ∧ w'.cell? ⟨b, off + k * 2 + 1, none⟩ = some (.int .i64 p.2.1))
            (first
              | exact ⟨e1, e2⟩
              | go_keep
              | (refine ⟨?_, ?_⟩ <;> first | exact (g8.trans g9).cell e1 (by simp) | exact (g8.trans g9).cell e2 (by simp) | exact g8.cell e1 (by simp) | exact g8.cell e2 (by simp)))
            (first
              | (go_at_call 27; refine (hasPair_any _ _ _ _ p _ (by first | exact Y.out.drew | exact K1.out.drew) (by omega)).mono ?_; rintro e w8 ⟨rfl, g8⟩; first | rw [HI.out] | rw [HQ.out])
              | (go_at_call 27; refine (hasPair_any _ _ _ _ p _ (by first | exact Y.out.drew.kept g8 | exact K1.out.drew.kept g8) (by omega)).mono ?_; rintro e w9 ⟨rfl, g9⟩; first | rw [HI.out] | rw [HQ.out]))
          all_goals
            have f1 := (g8.trans g9).cell e1 (by simp)
            have f2 := (g8.trans g9).cell e2 (by simp)
            go_wp2_with fail
            refine (hasPair_any B1 m1 d1 O p _ (K1.out.drew.kept (g8.trans g9)) (by omega)).mono ?_
            rintro e w10 ⟨rfl, g10⟩
            rw [HQ.out]
            go_wp2_with fail
            go_roundw
            case rel => exact ⟨k + 1, by omega, by go_num, by first | (rw [HS.out]; done) | (rw [HS.out]; go_num), Lib.hid ((gdrew hG.out).trans ((g8.trans g9).trans g10))⟩
            case measure => simp [intOf]; omega
        · have HI : Hid (decide (p ∈ ys) = false) := Lib.hid (decide_eq_false hin)
          have HQ : Hid (decide (p ∈ O) = true) := Lib.hid (by rw [hq, HI.out]; rfl)
          rw [if_neg hin] at hs
          have hs2 := congrArg List.length hs
          rw [List.length_append, List.length_singleton] at hs2
          have HS := Lib.hid hs2
          clear hs hs2 hq hin
          generalize (left_of (L.take k) ys).length = z at HS hlen ⊢
          go_wp2_with fail
          go_region_held3 (fun w' => w'.cell? ⟨b, off + k * 2, none⟩ = some (.int .i64 p.1.1) ∧ w'.cell? ⟨b, off + k * 2 + 1, none⟩ = some (.int .i64 p.2.1))
            (first
              | exact ⟨e1, e2⟩
              | go_keep
              | (refine ⟨?_, ?_⟩ <;> first | exact (g8.trans g9).cell e1 (by simp) | exact (g8.trans g9).cell e2 (by simp) | exact g8.cell e1 (by simp) | exact g8.cell e2 (by simp)))
            (first
              | (go_at_call 27; refine (hasPair_any _ _ _ _ p _ (by first | exact Y.out.drew | exact K1.out.drew) (by omega)).mono ?_; rintro e w8 ⟨rfl, g8⟩; first | rw [HI.out] | rw [HQ.out])
              | (go_at_call 27; refine (hasPair_any _ _ _ _ p _ (by first | exact Y.out.drew.kept g8 | exact K1.out.drew.kept g8) (by omega)).mono ?_; rintro e w9 ⟨rfl, g9⟩; first | rw [HI.out] | rw [HQ.out]))
          all_goals
            have f1 := (g8.trans g9).cell e1 (by simp)
            have f2 := (g8.trans g9).cell e2 (by simp)
            go_wp2_with fail
            refine (hasPair_any B1 m1 d1 O p _ (K1.out.drew.kept (g8.trans g9)) (by omega)).mono ?_
            rintro e w10 ⟨rfl, g10⟩
            rw [HQ.out]
            go_wp2_with fail
            go_roundw
            case rel => exact ⟨k + 1, by omega, by go_num, by first | (rw [HS.out]; done) | (rw [HS.out]; go_num), Lib.hid ((gdrew hG.out).trans ((g8.trans g9).trans g10))⟩
            case measure => simp [intOf]; omega
      · obtain rfl : m2 = k := by omega
        rw [List.take_of_length_le (by omega), ← HO.out, lk1]
        go_wp2_with fail
        go_ret
        exact ⟨by simp, G.out.trans hG.out⟩
end Go.Proofs.Ytgmeaedpbcimjaa.fnDeleteFuncGone
