/-
  What is proved here: the walk through the law FnCopyTurned: it returns true.
  Conditions: the code is read as the form reads it.
-/
import Derived.Test.YtgmeaedpbcimjaaDraw
import Derived.Test.YtgmeaedpbcimjaaCopy
import Derived.Test.YtgmeaedpbcimjaaEqual
import Derived.Test.YtgmeaedpbcimjaaSKeys
import Derived.Test.YtgmeaedpbcimjaaAt
import Derived.Test.YtgmeaedpbcimjaaRel
namespace Go.Proofs.Ytgmeaedpbcimjaa.fnCopyTurned
open Go.RowKit Go.Maps
set_option linter.unusedSimpArgs false
set_option linter.unusedVariables false

theorem agree_none {xs ys : List (I × I)} {p : I × I} (h : Plain.last p.1 ys = none) : agreeAt xs ys p = true := by simp [agreeAt, h]
theorem agree_some {xs ys : List (I × I)} {p : I × I} {u v : I} (h1 : Plain.last p.1 xs = some u) (h2 : Plain.last p.1 ys = some v) : agreeAt xs ys p = (u.1 == v.1) := by
  simp only [agreeAt, h1, h2]
  rw [Bool.eq_iff_iff, decide_eq_true_eq, beq_iff_eq, Option.some.injEq, Subtype.ext_iff]

set_option maxRecDepth 100000 in
set_option maxHeartbeats 4000000 in
theorem walk (A : Option Addr) (n c : Nat) (zs : List Int) (w : World) (h : Bytes w A n c zs) :
    Calls Try.prog 3 #[.slice A n c] w fun e w' => e = .returned (.bool true) ∧ w.grownBy w' none := by
  have HB := Lib.hid h
  clear h
  by_cases hn : 1048576 < n
  · go_enter Try.func3, Try.ntmps3
    go_wp2_with fail
    go_ret
    exact ⟨rfl, World.grownBy.refl _ _⟩
  · go_enter Try.func3, Try.ntmps3
    go_wp2_with fail
    refine (drawMaps_any A n c zs _ HB.out (by omega)).mono ?_
    rintro e w1 ⟨A1, n1, c1, xs, A2, n2, c2, ys, A3, n3, c3, vs, rfl, ⟨X, hn1⟩, ⟨Y, hn2⟩, ⟨V, hn3⟩, g0⟩
    have X := Lib.hid X
    have Y := Lib.hid Y
    have V := Lib.hid V
    have G := Lib.hid g0
    clear g0
    have lx := X.out.len2
    have ly := Y.out.len2
    have lv := V.out.len2
    go_wp2_with fail
    refine (copy_any A1 A2 n1 c1 n2 c2 xs ys _ X.out Y.out (by omega)).mono ?_
    rintro e w2 ⟨B1, m1, d1, rfl, o0, g0⟩
    have X := Lib.hid (X.out.kept g0)
    have Y := Lib.hid (Y.out.kept g0)
    have V := Lib.hid (V.out.kept g0)
    have G := Lib.hid (G.out.trans g0)
    clear g0
    have hm1 : m1 ≤ 80 := by
      have t1 := o0.len
      have t2 := Plain.length_mapOf_le (xs ++ ys)
      try simp only [List.length_append, List.length_cons, List.length_nil] at t2
      omega
    have K1 := Lib.hid o0.has
    clear o0
    have lk1 := K1.out.len2
    go_wp2_with fail
    refine (copy_any A2 A1 n2 c2 n1 c1 ys xs _ Y.out X.out (by omega)).mono ?_
    rintro e w3 ⟨B2, m2, d2, rfl, o0, g0⟩
    have X := Lib.hid (X.out.kept g0)
    have Y := Lib.hid (Y.out.kept g0)
    have V := Lib.hid (V.out.kept g0)
    have K1 := Lib.hid (K1.out.kept g0)
    have G := Lib.hid (G.out.trans g0)
    clear g0
    have hm2 : m2 ≤ 80 := by
      have t1 := o0.len
      have t2 := Plain.length_mapOf_le (ys ++ xs)
      try simp only [List.length_append, List.length_cons, List.length_nil] at t2
      omega
    have K2 := Lib.hid o0.has
    clear o0
    have lk2 := K2.out.len2
    go_wp2_with fail
    go_loopw [8, 9] (fun v i wr => ∃ (k : Nat), k ≤ n1 ∧ i = .int .i64 (k : Int) ∧ v = .bool ((xs.take k).all (agreeAt xs ys)) ∧ Hid (w3.grownBy wr none))
      (fun _ i _ => n1 - (intOf i).toNat)
    case atStart => exact ⟨0, by omega, rfl, rfl, Lib.hid (World.grownBy.refl _ _)⟩
    case round =>
      obtain ⟨k, hk, rfl, rfl, hG⟩ := hrel
      have X := Lib.hid (X.out.kept hG.out)
      have Y := Lib.hid (Y.out.kept hG.out)
      have K1 := Lib.hid (K1.out.kept hG.out)
      have K2 := Lib.hid (K2.out.kept hG.out)
      by_cases hkn : k < n1
      · have hkx : k < xs.length := by omega
        have HS := Lib.hid (all_take (f := agreeAt xs ys) hkx)
        have hsome : Plain.last (xs[k]).1 xs ≠ none := fun h => Plain.last_none.1 h _ (List.getElem_mem hkx) rfl
        obtain ⟨b, off, rfl, hb, e1, _⟩ := X.out.pair hkx
        obtain ⟨p, hp⟩ : ∃ p, p = xs[k] := ⟨_, rfl⟩
        rw [← hp] at e1 HS hsome
        clear hp
        have j0 : (0 : Int) ≤ (k : Int) := by omega
        have j1 : (k : Int) < (n1 : Int) := by omega
        generalize hg : (xs.take k).all (agreeAt xs ys) = g at HS ⊢
        clear hg
        go_wp2_with fail
        refine (sAt_any (some ⟨b, off, none⟩) n1 c1 xs p.1 _ X.out (by omega)).mono ?_
        rintro e wz ⟨rfl, rfl⟩
        cases hl1 : Plain.last p.1 xs with
        | none => exact absurd hl1 hsome
        | some u =>
          simp only [vOf, Option.isSome]
          clear hsome
          go_wp2_with fail
          refine (sAt_any A2 n2 c2 ys p.1 _ Y.out (by omega)).mono ?_
          rintro e wz ⟨rfl, rfl⟩
          cases hl2 : Plain.last p.1 ys with
          | none =>
            have HP := Lib.hid (agree_none (xs := xs) hl2)
            simp only [vOf, Option.isSome]
            clear hl1 hl2
            cases g <;>
            · go_wp2_with fail
              go_roundw
              case rel => exact ⟨k + 1, by omega, by go_num, by rw [HS.out, HP.out]; simp, hG⟩
              case measure => simp [intOf]; omega
          | some v =>
            have HP := Lib.hid (agree_some hl1 hl2)
            simp only [vOf, Option.isSome]
            clear hl1 hl2
            cases g <;>
            · go_wp2_with fail
              go_roundw
              case rel => exact ⟨k + 1, by omega, by go_num, by rw [HS.out, HP.out]; simp, hG⟩
              case measure => simp [intOf]; omega
      · obtain rfl : n1 = k := by omega
        rw [List.take_of_length_le (by omega)]
        have G := Lib.hid (G.out.trans hG.out)
        clear hG
        go_wp2_with fail
        refine (sameKeys_any B1 B2 m1 d1 m2 d2 (Plain.mapOf (xs ++ ys)) (Plain.mapOf (ys ++ xs)) _ K1.out K2.out (by omega) (by omega)).mono ?_
        rintro e w4 ⟨rfl, g0⟩
        have X := Lib.hid (X.out.kept g0)
        have Y := Lib.hid (Y.out.kept g0)
        have K1 := Lib.hid (K1.out.kept g0)
        have K2 := Lib.hid (K2.out.kept g0)
        have G := Lib.hid (G.out.trans g0)
        clear g0
        rw [show decide ((Plain.mapOf (Plain.mapOf (xs ++ ys))).map (·.1) = (Plain.mapOf (Plain.mapOf (ys ++ xs))).map (·.1)) = true from decide_eq_true (keys_turned xs ys)]
        go_wp2_with fail
        refine (equal_any B1 B2 m1 d1 m2 d2 (Plain.mapOf (xs ++ ys)) (Plain.mapOf (ys ++ xs)) _ K1.out K2.out (by omega) (by omega)).mono ?_
        rintro e w5 ⟨rfl, g0⟩
        have X := Lib.hid (X.out.kept g0)
        have Y := Lib.hid (Y.out.kept g0)
        have K1 := Lib.hid (K1.out.kept g0)
        have K2 := Lib.hid (K2.out.kept g0)
        have G := Lib.hid (G.out.trans g0)
        clear g0
        rw [copy_turned xs ys]
        go_wp2_with fail
        go_ret
        exact ⟨by simp, G.out⟩
end Go.Proofs.Ytgmeaedpbcimjaa.fnCopyTurned
