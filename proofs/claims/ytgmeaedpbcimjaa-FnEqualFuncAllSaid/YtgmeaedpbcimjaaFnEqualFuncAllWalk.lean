/-
  What is proved here: the walk through the law FnEqualFuncAll: it returns true.
  Conditions: the code is read as the form reads it.
-/
import Derived.Test.YtgmeaedpbcimjaaDraw
import Derived.Test.YtgmeaedpbcimjaaEqFunc
import Derived.Test.YtgmeaedpbcimjaaSKeys
import Derived.Test.YtgmeaedpbcimjaaRel
import Derived.Deep.RegionHeld3
namespace Go.Proofs.Ytgmeaedpbcimjaa.fnEqualFuncAll
open Go.RowKit Go.Maps
set_option linter.unusedSimpArgs false
set_option linter.unusedVariables false

set_option maxRecDepth 100000 in
set_option maxHeartbeats 4000000 in
theorem walk (A : Option Addr) (n c : Nat) (zs : List Int) (w : World) (h : Bytes w A n c zs) :
    Calls Try.prog 7 #[.slice A n c] w fun e w' => e = .returned (.bool true) ∧ w.grownBy w' none := by
  have HB := Lib.hid h
  clear h
  by_cases hn : 1048576 < n
  · go_enter Try.func7, Try.ntmps7
    go_wp2_with fail
    go_ret
    exact ⟨rfl, World.grownBy.refl _ _⟩
  · go_enter Try.func7, Try.ntmps7
    go_wp2_with fail
    refine (drawMaps_any A n c zs _ HB.out (by omega)).mono ?_
    rintro e w1 ⟨A1, n1, c1, xs, A2, n2, c2, ys, A3, n3, c3, vs, rfl, ⟨X, hn1⟩, ⟨Y, hn2⟩, ⟨V, hn3⟩, g0⟩
    have X := Lib.hid X
    have Y := Lib.hid Y
    have V := Lib.hid V
    have G := Lib.hid g0
    clear g0
    have lx := X.out.len2
    have ly := Y.out.len2
    have lv := V.out.len2
    go_wp2_with fail
    go_loopw [6, 7] (fun v i wr => ∃ (k m c' : Nat) (A' : Option Addr), k ≤ n1 ∧ i = .int .i64 (k : Int) ∧ v = .slice A' m c' ∧ m ≤ 40 * k ∧ Hid (OwnP wr w1.heap.size A' m c' (allP (xs.take k) ys)) ∧ Hid (w1.grownBy wr none))
      (fun _ i _ => n1 - (intOf i).toNat)
    case atStart => exact ⟨0, 0, 0, _, by omega, rfl, rfl, by omega, Lib.hid (by simpa [allP] using Own.made w1 (Nat.le_refl _)), Lib.hid (World.grownBy_alloc _ _ _)⟩
    case round =>
      obtain ⟨k, m, c', A', hk, rfl, rfl, hm, ho, hG⟩ := hrel
      by_cases hkn : k < n1
      · have hkx : k < xs.length := by omega
        have HS := Lib.hid (show allP (xs.take (k + 1)) ys = allP (xs.take k) ys ++ ys.map fun q => ((xs[k]).2, q.2) by rw [List.take_succ_eq_append_getElem hkx, allP_snoc])
        obtain ⟨b1, off1, rfl, hb1, _, E1⟩ := X.out.pair hkx
        obtain ⟨p, hp⟩ : ∃ p, p = xs[k] := ⟨_, rfl⟩
        rw [← hp] at E1 HS
        clear hp
        have i0 : (0 : Int) ≤ (k : Int) := by omega
        have i1 : (k : Int) < (n1 : Int) := by omega
        go_wp2_with fail
        go_loopw [6, 8] (fun v i wi => ∃ (j m' c'' : Nat) (A'' : Option Addr), j ≤ n2 ∧ i = .int .i64 (j : Int) ∧ v = .slice A'' m' c'' ∧ m' ≤ 40 * k + j ∧ Hid (OwnP wi w1.heap.size A'' m' c'' (allP (xs.take k) ys ++ (ys.take j).map fun q => (p.2, q.2))) ∧ Hid (w1.grownBy wi none))
          (fun _ i _ => n2 - (intOf i).toNat)
        case atStart => exact ⟨0, m, c', A', by omega, rfl, rfl, by omega, Lib.hid (by simpa using ho.out), hG⟩
        case round =>
          clear ho hG
          obtain ⟨j, m', c'', A'', hj, rfl, rfl, hm', ho, hG⟩ := hrel
          by_cases hjn : j < n2
          · have hjy : j < ys.length := by omega
            have HM := Lib.hid (map_take (f := fun q : I × I => (p.2, q.2)) hjy)
            obtain ⟨b2, off2, rfl, hb2, _, E2⟩ := Y.out.pair hjy
            obtain ⟨q, hq⟩ : ∃ q, q = ys[j] := ⟨_, rfl⟩
            rw [← hq] at E2 HM
            clear hq
            have e1 := hG.out.cell E1 (by simp)
            have e2 := hG.out.cell E2 (by simp)
            have j0 : (0 : Int) ≤ (j : Int) := by omega
            have j1 : (j : Int) < (n2 : Int) := by omega
            go_wp2_with fail
            go_region_held3 (fun w' => w'.cell? ⟨b1, off1 + k * 2 + 1, none⟩ = some (.int .i64 p.2.1) ∧ w'.cell? ⟨b2, off2 + j * 2 + 1, none⟩ = some (.int .i64 q.2.1))
              (first
                | exact ⟨e1, e2⟩
                | go_keep
                | (refine ⟨?_, ?_⟩ <;> first | exact (gdrew G9).cell (by assumption) (by simp) | exact G9.cell (by assumption) (by simp)))
              (first
                | (refine step_appG (xs := allP (xs.take k) ys ++ (ys.take j).map fun q => (p.2, q.2)) (ys := [(p.2, q.2)]) twoP oneP w1 _ (by rfl) (.tmp 31) (.tmp 43) (by rfl) (by rfl) (by first | exact galloc hG.out _ | exact galloc (gdrew hG.out) _ | exact gdrew (galloc hG.out _)) (by first | exact (ho.out.alloc _) | exact (ho.out.drew.alloc _) | exact (ho.out.alloc _).drew) (by rfl) (by first | exact hasOne _ (p.2, q.2) | exact (hasOne _ (p.2, q.2)).drew) (by unfold maxLen; omega) (by omega) ?_; intro B9 d9 w9 o9 G9 g9))
            go_wp2_with fail
            go_roundw
            case rel => exact ⟨j + 1, m' + 1, d9, B9, by omega, by go_num, rfl, by omega, Lib.hid (by rw [HM.out, ← List.append_assoc]; first | exact o9 | exact o9.drew), Lib.hid (by first | exact G9 | exact gdrew G9)⟩
            case measure => simp [intOf]; omega
          · obtain rfl : n2 = j := by omega
            rw [show ys.take n2 = ys from List.take_of_length_le (by omega)] at ho
            go_wp2_with fail
            go_roundw
            case rel => exact ⟨k + 1, m', c'', A'', by omega, by go_num, rfl, by omega, Lib.hid (by rw [HS.out]; exact ho.out), hG⟩
            case measure => simp [intOf]; omega
      · obtain rfl : n1 = k := by omega
        have Q := Lib.hid ho.out.has
        rw [List.take_of_length_le (by omega)] at Q
        clear ho
        have X := Lib.hid (X.out.kept hG.out)
        have Y := Lib.hid (Y.out.kept hG.out)
        have G := Lib.hid (G.out.trans hG.out)
        clear hG
        go_wp2_with fail
        refine (equalFunc_any A1 A2 A' n1 c1 n2 c2 m c' xs ys (allP xs ys) _ X.out Y.out Q.out (by omega) (by omega) (by omega)).mono ?_
        rintro e w2 ⟨rfl, g0⟩
        have X := Lib.hid (X.out.kept g0)
        have Y := Lib.hid (Y.out.kept g0)
        have Q := Lib.hid (Q.out.kept g0)
        have G := Lib.hid (G.out.trans g0)
        clear g0
        generalize hp : related (fun x y => decide ((x, y) ∈ (allP xs ys))) (Plain.mapOf xs) (Plain.mapOf ys) = p
        go_wp2_with fail
        refine (sameKeys_any A1 A2 n1 c1 n2 c2 xs ys _ X.out Y.out (by omega) (by omega)).mono ?_
        rintro e w3 ⟨rfl, g0⟩
        have X := Lib.hid (X.out.kept g0)
        have Y := Lib.hid (Y.out.kept g0)
        have Q := Lib.hid (Q.out.kept g0)
        have G := Lib.hid (G.out.trans g0)
        clear g0
        rw [show decide ((Plain.mapOf xs).map (·.1) = (Plain.mapOf ys).map (·.1)) = p from (related_all xs ys).symm.trans hp]
        go_wp2_with fail
        go_ret
        exact ⟨by simp, G.out⟩
end Go.Proofs.Ytgmeaedpbcimjaa.fnEqualFuncAll
