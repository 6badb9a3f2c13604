/-
  What is proved here: the walk through the law FnCopyAt: it returns true.
  Conditions: the code is read as the form reads it.
-/
import Derived.Test.YtlnbbkegdlkpfaaDraw
import Derived.Test.YtlnbbkegdlkpfaaCopy
import Derived.Test.YtlnbbkegdlkpfaaAt
import Derived.Test.YtlnbbkegdlkpfaaSKeys
namespace Go.Proofs.Ytlnbbkegdlkpfaa.fnCopyAt
open Go.RowKit Go.Maps
set_option linter.unusedSimpArgs false
set_option linter.unusedVariables false

theorem at_some {xs ys : List (I × I)} {k : Nat} (hk : k < (Plain.mapOf (xs ++ ys)).length) : (Plain.last (Plain.mapOf (xs ++ ys))[k].1 ys).or (Plain.last (Plain.mapOf (xs ++ ys))[k].1 xs) = some (Plain.mapOf (xs ++ ys))[k].2 := by
  rw [← Plain.last_append, ← Plain.get_mapOf]
  exact Plain.get_of_mem (Plain.srt_mapOf _).once (List.getElem_mem hk)

set_option maxRecDepth 100000 in
set_option maxHeartbeats 4000000 in
theorem walk (A : Option Addr) (n c : Nat) (zs : List Int) (w : World) (h : Bytes w A n c zs) :
    Calls Try.prog 9 #[.slice A n c] w fun e w' => e = .returned (.bool true) ∧ w.grownBy w' none := by
  have HB := Lib.hid h
  clear h
  by_cases hn : 1048576 < n
  · go_enter Try.func9, Try.ntmps9
    go_wp2_with fail
    go_ret
    exact ⟨rfl, World.grownBy.refl _ _⟩
  · go_enter Try.func9, Try.ntmps9
    go_wp2_with fail
    refine (drawMaps_any A n c zs _ HB.out (by omega)).mono ?_
    rintro e w1 ⟨A1, n1, c1, xs, A2, n2, c2, ys, A3, n3, c3, vs, rfl, ⟨X, hn1⟩, ⟨Y, hn2⟩, ⟨V, hn3⟩, g0⟩
    have X := Lib.hid X
    have Y := Lib.hid Y
    have V := Lib.hid V
    have G := Lib.hid g0
    clear g0
    have lx := X.out.len2
    have ly := Y.out.len2
    have lv := V.out.len2
    go_wp2_with fail
    refine (copy_any A1 A2 n1 c1 n2 c2 xs ys _ X.out Y.out (by omega)).mono ?_
    rintro e w2 ⟨B1, m1, d1, rfl, o0, g0⟩
    have X := Lib.hid (X.out.kept g0)
    have Y := Lib.hid (Y.out.kept g0)
    have V := Lib.hid (V.out.kept g0)
    have G := Lib.hid (G.out.trans g0)
    clear g0
    have hm1 : m1 ≤ 80 := by
      have t1 := o0.len
      have t2 := Plain.length_mapOf_le (xs ++ ys)
      try simp only [List.length_append, List.length_cons, List.length_nil] at t2
      omega
    have K1 := Lib.hid o0.has
    clear o0
    have lk1 := K1.out.len2
    have HA := Lib.hid (fun k (hk : k < (Plain.mapOf (xs ++ ys)).length) => at_some hk)
    obtain ⟨L, hL⟩ : ∃ L, L = Plain.mapOf (xs ++ ys) := ⟨_, rfl⟩
    rw [← hL] at K1 lk1
    have HL := Lib.hid hL
    clear hL
    go_wp2_with fail
    go_loopw [7] (fun i wr => ∃ (k : Nat), k ≤ m1 ∧ i = .int .i64 (k : Int) ∧ Hid (w2.grownBy wr none))
      (fun i _ => m1 - (intOf i).toNat)
    case atStart => exact ⟨0, by omega, rfl, Lib.hid (World.grownBy.refl _ _)⟩
    case round =>
      obtain ⟨k, hk, rfl, hG⟩ := hrel
      have X := Lib.hid (X.out.kept hG.out)
      have Y := Lib.hid (Y.out.kept hG.out)
      have K1 := Lib.hid (K1.out.kept hG.out)
      by_cases hkm : k < m1
      · have hkL : k < L.length := by omega
        obtain ⟨b, off, rfl, hb, e1, e2⟩ := K1.out.pair hkL
        have HP := HA.out k (by rw [← HL.out]; exact hkL)
        simp only [← HL.out] at HP
        obtain ⟨p, hp⟩ : ∃ p, p = L[k] := ⟨_, rfl⟩
        rw [← hp] at e1 e2
        rw [← hp] at HP
        clear hp
        have HP := Lib.hid HP
        have j0 : (0 : Int) ≤ (k : Int) := by omega
        have j1 : (k : Int) < (m1 : Int) := by omega
        go_wp2_with fail
        refine (sAt_any A2 n2 c2 ys p.1 _ Y.out (by omega)).mono ?_
        rintro e wz ⟨rfl, rfl⟩
        cases hy : Plain.last p.1 ys with
        | some v =>
          have hv : v = p.2 := by have := HP.out; rw [hy] at this; simpa using this
          subst hv
          simp only [vOf, Option.isSome]
          go_wp2_with fail
          go_roundw
          case rel => exact ⟨k + 1, by omega, by go_num, hG⟩
          case measure => simp [intOf]; omega
        | none =>
          have hx : Plain.last p.1 xs = some p.2 := by have := HP.out; rw [hy] at this; simpa using this
          simp only [vOf, Option.isSome]
          go_wp2_with fail
          refine (sAt_any A1 n1 c1 xs p.1 _ X.out (by omega)).mono ?_
          rintro e wz ⟨rfl, rfl⟩
          rw [hx]
          simp only [vOf, Option.isSome]
          go_wp2_with fail
          go_roundw
          case rel => exact ⟨k + 1, by omega, by go_num, hG⟩
          case measure => simp [intOf]; omega
      · go_wp2_with (first
          | (at_builtin; refine wpList_appG0 (ys := xs) twoP oneP wr _ rfl (.tmp 62) (.tmp 63) rfl rfl (World.grownBy_alloc wr _ none) (Own.made wr (Nat.le_refl _)) rfl (X.out.kept (World.grownBy_alloc wr _ none)) (by unfold maxLen; omega) (by omega) ?_; intro B5 d5 w5 o5 G5 g5)
          | (at_builtin; refine wpList_appG (xs := xs) (ys := ys) twoP oneP wr _ rfl (.tmp 64) (.tmp 65) rfl rfl G5 o5 rfl (Y.out.kept G5) (by unfold maxLen; omega) (by omega) ?_; intro B6 d6 w6 o6 G6 g6)
          | fail)
        refine (sameKeys_any B1 B6 m1 d1 (n1 + n2) d6 L (xs ++ ys) _ (K1.out.kept G6) o6.has (by omega) (by omega)).mono ?_
        rintro e w7 ⟨rfl, g7⟩
        rw [show decide ((Plain.mapOf L).map (·.1) = (Plain.mapOf (xs ++ ys)).map (·.1)) = true from decide_eq_true (by rw [HL.out, Plain.mapOf_mapOf])]
        go_wp2_with fail
        go_ret
        exact ⟨rfl, G.out.trans (hG.out.trans (G6.trans g7))⟩
end Go.Proofs.Ytlnbbkegdlkpfaa.fnCopyAt
