/-
  What is proved here: the walk through the law FnEqualFuncTurned: it returns true.
  Conditions: the code is read as the form reads it.
-/
import Derived.Test.YtgmeaedpbcimjaaDraw
import Derived.Test.YtgmeaedpbcimjaaRelated
import Derived.Test.YtgmeaedpbcimjaaEqFunc
import Derived.Test.YtgmeaedpbcimjaaRel
import Derived.Deep.RegionHeld3
namespace Go.Proofs.Ytgmeaedpbcimjaa.fnEqualFuncTurned
open Go.RowKit Go.Maps
set_option linter.unusedSimpArgs false
set_option linter.unusedVariables false

set_option maxRecDepth 100000 in
set_option maxHeartbeats 4000000 in
theorem walk (A : Option Addr) (n c : Nat) (zs : List Int) (w : World) (h : Bytes w A n c zs) :
    Calls Try.prog 9 #[.slice A n c] w fun e w' => e = .returned (.bool true) ∧ w.grownBy w' none := by
  have HB := Lib.hid h
  clear h
  by_cases hn : 1048576 < n
  · go_enter Try.func9, Try.ntmps9
    go_wp2_with fail
    go_ret
    exact ⟨rfl, World.grownBy.refl _ _⟩
  · go_enter Try.func9, Try.ntmps9
    have G := Lib.hid (World.grownBy.refl w none)
    go_wp2_with fail
    refine (equalFunc_any none none none 0 0 0 0 0 0 [] [] [] _ Has.none_ Has.none_ Has.none_ (by omega) (by omega) (by omega)).mono ?_
    rintro e w0 ⟨rfl, g0⟩
    rw [show related (fun x y => decide ((x, y) ∈ ([] : List (I × I)))) (Plain.mapOf []) (Plain.mapOf []) = true from rfl]
    have HB := Lib.hid (HB.out.kept g0)
    have G := Lib.hid (G.out.trans g0)
    clear g0
    go_wp2_with fail
    refine (drawRelated_any A n c zs _ HB.out (by omega)).mono ?_
    rintro e w1 ⟨A1, n1, c1, xs, A2, n2, c2, ys, A3, n3, c3, vs, rfl, X, hn1, Y, hn2, V, hn3, hc3, hs3, g0⟩
    have X := Lib.hid X
    have Y := Lib.hid Y
    have V := Lib.hid V
    have G := Lib.hid (G.out.trans g0)
    clear g0
    clear hc3 hs3
    have lx := X.out.len2
    have ly := Y.out.len2
    have lv := V.out.len2
    go_wp2_with fail
    go_loopw [6, 7] (fun v i wr => ∃ (k c' : Nat) (A' : Option Addr), k ≤ n3 ∧ i = .int .i64 (k : Int) ∧ v = .slice A' k c' ∧ Hid (OwnP wr w1.heap.size A' k c' ((vs.take k).map swapP)) ∧ Hid (w1.grownBy wr none))
      (fun _ i _ => n3 - (intOf i).toNat)
    case atStart => exact ⟨0, 0, _, by omega, rfl, rfl, Lib.hid (by simpa using Own.made w1 (Nat.le_refl _)), Lib.hid (World.grownBy_alloc _ _ _)⟩
    case round =>
      obtain ⟨k, c', A', hk, rfl, rfl, ho, hG⟩ := hrel
      by_cases hkn : k < n3
      · have SRC := V.out.kept hG.out
        have hkx : k < vs.length := by have := SRC.len2; omega
        have HM := Lib.hid (map_take (f := swapP) hkx)
        obtain ⟨b, off, rfl, hb, E1, E2⟩ := V.out.pair hkx
        obtain ⟨p, hp⟩ : ∃ p, p = vs[k] := ⟨_, rfl⟩
        rw [← hp] at E1 E2 HM
        have e1 := hG.out.cell E1 (by simp)
        have e2 := hG.out.cell E2 (by simp)
        clear hp SRC
        have j0 : (0 : Int) ≤ (k : Int) := by omega
        have j1 : (k : Int) < (n3 : Int) := by omega
        go_wp2_with fail
        go_region_held3 (fun w' => w'.cell? ⟨b, off + k * 2 + 1, none⟩ = some (.int .i64 p.2.1) ∧ w'.cell? ⟨b, off + k * 2, none⟩ = some (.int .i64 p.1.1))
          (first
            | exact ⟨e2, e1⟩
            | go_keep
            | (refine ⟨?_, ?_⟩ <;> first | exact (gdrew G9).cell (by assumption) (by simp) | exact G9.cell (by assumption) (by simp)))
          (first
            | (refine step_appG (xs := (vs.take k).map swapP) (ys := [swapP p]) twoP oneP w1 _ (by rfl) (.tmp 26) (.tmp 38) (by rfl) (by rfl) (by first | exact galloc hG.out _ | exact galloc (gdrew hG.out) _ | exact gdrew (galloc hG.out _)) (by first | exact (ho.out.alloc _) | exact (ho.out.drew.alloc _) | exact (ho.out.alloc _).drew) (by rfl) (by first | exact hasOne _ (swapP p) | exact (hasOne _ (swapP p)).drew) (by unfold maxLen; omega) (by omega) ?_; intro B9 d9 w9 o9 G9 g9))
        go_wp2_with fail
        go_roundw
        case rel => exact ⟨k + 1, d9, B9, by omega, by go_num, rfl, Lib.hid (by rw [HM.out]; first | exact o9 | exact o9.drew), Lib.hid (by first | exact G9 | exact gdrew G9)⟩
        case measure => simp [intOf]; omega
      · obtain rfl : n3 = k := by omega
        have Q := Lib.hid ho.out.has
        rw [List.take_of_length_le (by omega)] at Q
        clear ho
        have X := Lib.hid (X.out.kept hG.out)
        have Y := Lib.hid (Y.out.kept hG.out)
        have V := Lib.hid (V.out.kept hG.out)
        have G := Lib.hid (G.out.trans hG.out)
        clear hG
        go_wp2_with fail
        refine (equalFunc_any A2 A1 A' n2 c2 n1 c1 n3 c' ys xs (vs.map swapP) _ Y.out X.out Q.out (by omega) (by omega) (by omega)).mono ?_
        rintro e w2 ⟨rfl, g0⟩
        have X := Lib.hid (X.out.kept g0)
        have Y := Lib.hid (Y.out.kept g0)
        have V := Lib.hid (V.out.kept g0)
        have Q := Lib.hid (Q.out.kept g0)
        have G := Lib.hid (G.out.trans g0)
        clear g0
        generalize hp : related (fun x y => decide ((x, y) ∈ (vs.map swapP))) (Plain.mapOf ys) (Plain.mapOf xs) = p
        go_wp2_with fail
        refine (equalFunc_any A1 A2 A3 n1 c1 n2 c2 n3 c3 xs ys vs _ X.out Y.out V.out (by omega) (by omega) (by omega)).mono ?_
        rintro e w3 ⟨rfl, g0⟩
        have X := Lib.hid (X.out.kept g0)
        have Y := Lib.hid (Y.out.kept g0)
        have V := Lib.hid (V.out.kept g0)
        have Q := Lib.hid (Q.out.kept g0)
        have G := Lib.hid (G.out.trans g0)
        clear g0
        rw [show related (fun x y => decide ((x, y) ∈ vs)) (Plain.mapOf xs) (Plain.mapOf ys) = p from (related_turned xs ys vs).symm.trans hp]
        go_wp2_with fail
        go_ret
        exact ⟨by simp, G.out⟩
end Go.Proofs.Ytgmeaedpbcimjaa.fnEqualFuncTurned
