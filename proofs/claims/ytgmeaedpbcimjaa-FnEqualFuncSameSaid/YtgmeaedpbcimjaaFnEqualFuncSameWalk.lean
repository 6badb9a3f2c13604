/-
  What is proved here: the walk through the law FnEqualFuncSame: it returns true.
  Conditions: the code is read as the form reads it.
-/
import Derived.Test.YtgmeaedpbcimjaaDraw
import Derived.Test.YtgmeaedpbcimjaaEqFunc
import Derived.Test.YtgmeaedpbcimjaaEqual
import Derived.Test.YtgmeaedpbcimjaaRel
import Derived.Deep.RegionHeld3
namespace Go.Proofs.Ytgmeaedpbcimjaa.fnEqualFuncSame
open Go.RowKit Go.Maps
set_option linter.unusedSimpArgs false
set_option linter.unusedVariables false

set_option maxRecDepth 100000 in
set_option maxHeartbeats 4000000 in
theorem walk (A : Option Addr) (n c : Nat) (zs : List Int) (w : World) (h : Bytes w A n c zs) :
    Calls Try.prog 12 #[.slice A n c] w fun e w' => e = .returned (.bool true) ∧ w.grownBy w' none := by
  have HB := Lib.hid h
  clear h
  by_cases hn : 1048576 < n
  · go_enter Try.func12, Try.ntmps12
    go_wp2_with fail
    go_ret
    exact ⟨rfl, World.grownBy.refl _ _⟩
  · go_enter Try.func12, Try.ntmps12
    have G := Lib.hid (World.grownBy.refl w none)
    go_wp2_with fail
    refine (equalFunc_any none none none 0 0 0 0 0 0 [] [] [] _ Has.none_ Has.none_ Has.none_ (by omega) (by omega) (by omega)).mono ?_
    rintro e w0 ⟨rfl, g0⟩
    rw [show related (fun x y => decide ((x, y) ∈ ([] : List (I × I)))) (Plain.mapOf []) (Plain.mapOf []) = true from rfl]
    have HB := Lib.hid (HB.out.kept g0)
    have G := Lib.hid (G.out.trans g0)
    clear g0
    go_wp2_with fail
    refine (drawMaps_any A n c zs _ HB.out (by omega)).mono ?_
    rintro e w1 ⟨A1, n1, c1, xs, A2, n2, c2, ys, A3, n3, c3, vs, rfl, ⟨X, hn1⟩, ⟨Y, hn2⟩, ⟨V, hn3⟩, g0⟩
    have X := Lib.hid X
    have Y := Lib.hid Y
    have V := Lib.hid V
    have G := Lib.hid (G.out.trans g0)
    clear g0
    have lx := X.out.len2
    have ly := Y.out.len2
    have lv := V.out.len2
    go_wp2_with fail
    go_loopw [6, 7] (fun v i wr => ∃ (k c' : Nat) (A' : Option Addr), k ≤ n1 ∧ i = .int .i64 (k : Int) ∧ v = .slice A' k c' ∧ Hid (OwnP wr w1.heap.size A' k c' ((xs.take k).map selfP)) ∧ Hid (w1.grownBy wr none))
      (fun _ i _ => n1 - (intOf i).toNat)
    case atStart => exact ⟨0, 0, _, by omega, rfl, rfl, Lib.hid (by simpa using Own.made w1 (Nat.le_refl _)), Lib.hid (World.grownBy_alloc _ _ _)⟩
    case round =>
      obtain ⟨k, c', A', hk, rfl, rfl, ho, hG⟩ := hrel
      by_cases hkn : k < n1
      · have SRC := X.out.kept hG.out
        have hkx : k < xs.length := by have := SRC.len2; omega
        have HM := Lib.hid (map_take (f := selfP) hkx)
        obtain ⟨b, off, rfl, hb, E1, E2⟩ := X.out.pair hkx
        obtain ⟨p, hp⟩ : ∃ p, p = xs[k] := ⟨_, rfl⟩
        rw [← hp] at E1 E2 HM
        have e1 := hG.out.cell E1 (by simp)
        have e2 := hG.out.cell E2 (by simp)
        clear hp SRC
        have j0 : (0 : Int) ≤ (k : Int) := by omega
        have j1 : (k : Int) < (n1 : Int) := by omega
        go_wp2_with fail
        go_region_held3 (fun w' => w'.cell? ⟨b, off + k * 2 + 1, none⟩ = some (.int .i64 p.2.1) ∧ w'.cell? ⟨b, off + k * 2, none⟩ = some (.int .i64 p.1.1))
          (first
            | exact ⟨e2, e1⟩
            | go_keep
            | (refine ⟨?_, ?_⟩ <;> first | exact (gdrew G9).cell (by assumption) (by simp) | exact G9.cell (by assumption) (by simp)))
          (first
            | (refine step_appG (xs := (xs.take k).map selfP) (ys := [selfP p]) twoP oneP w1 _ (by rfl) (.tmp 26) (.tmp 38) (by rfl) (by rfl) (by first | exact galloc hG.out _ | exact galloc (gdrew hG.out) _ | exact gdrew (galloc hG.out _)) (by first | exact (ho.out.alloc _) | exact (ho.out.drew.alloc _) | exact (ho.out.alloc _).drew) (by rfl) (by first | exact hasOne _ (selfP p) | exact (hasOne _ (selfP p)).drew) (by unfold maxLen; omega) (by omega) ?_; intro B9 d9 w9 o9 G9 g9))
        go_wp2_with fail
        go_roundw
        case rel => exact ⟨k + 1, d9, B9, by omega, by go_num, rfl, Lib.hid (by rw [HM.out]; first | exact o9 | exact o9.drew), Lib.hid (by first | exact G9 | exact gdrew G9)⟩
        case measure => simp [intOf]; omega
      · obtain rfl : n1 = k := by omega
        have Q := Lib.hid ho.out.has
        rw [List.take_of_length_le (by omega)] at Q
        clear ho
        have X := Lib.hid (X.out.kept hG.out)
        have Y := Lib.hid (Y.out.kept hG.out)
        have V := Lib.hid (V.out.kept hG.out)
        have G := Lib.hid (G.out.trans hG.out)
        clear hG
        go_wp2_with fail
        refine (equalFunc_any A1 A2 A' n1 c1 n2 c2 n1 c' xs ys (xs.map selfP) _ X.out Y.out Q.out (by omega) (by omega) (by omega)).mono ?_
        rintro e w2 ⟨rfl, g0⟩
        have X := Lib.hid (X.out.kept g0)
        have Y := Lib.hid (Y.out.kept g0)
        have V := Lib.hid (V.out.kept g0)
        have Q := Lib.hid (Q.out.kept g0)
        have G := Lib.hid (G.out.trans g0)
        clear g0
        generalize hp : related (fun x y => decide ((x, y) ∈ (xs.map selfP))) (Plain.mapOf xs) (Plain.mapOf ys) = p
        go_wp2_with fail
        refine (equal_any A1 A2 n1 c1 n2 c2 xs ys _ X.out Y.out (by omega) (by omega)).mono ?_
        rintro e w3 ⟨rfl, g0⟩
        have X := Lib.hid (X.out.kept g0)
        have Y := Lib.hid (Y.out.kept g0)
        have V := Lib.hid (V.out.kept g0)
        have Q := Lib.hid (Q.out.kept g0)
        have G := Lib.hid (G.out.trans g0)
        clear g0
        rw [show decide (Plain.mapOf xs = Plain.mapOf ys) = p from (related_self xs ys).symm.trans hp]
        go_wp2_with fail
        go_ret
        exact ⟨by simp, G.out⟩
end Go.Proofs.Ytgmeaedpbcimjaa.fnEqualFuncSame
