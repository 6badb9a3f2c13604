/-
  What is proved here: the contract of the reference's SameKeys: whether two lists of pairs have the same keys.
  Conditions: each list has fewer than 2^43 pairs.
-/
import Derived.Test.YtgmeaedpbcimjaaSMap
import Derived.Laws.StructEq
import Derived.Test.YtgmeaedpbcimjaaSame
namespace Go.Proofs.Ytgmeaedpbcimjaa
open Go.RowKit Go.Maps

theorem differK {xs ys : List (I × I)} {j : Nat} {p q : I × I} (hx : j < xs.length) (hy : j < ys.length) (hp : p = xs[j]) (hq : q = ys[j]) (h : (p.1.1 == q.1.1) = false) : decide (xs.map (·.1) = ys.map (·.1)) = false :=
  decide_eq_false fun e => by
    have e' : (xs.map (·.1))[j]? = (ys.map (·.1))[j]? := by rw [e]
    rw [List.getElem?_map, List.getElem?_map, List.getElem?_eq_getElem hx, List.getElem?_eq_getElem hy, ← hp, ← hq] at e'
    simp at e'
    rw [e'] at h
    simp at h
theorem keys_of {l m : List (I × I)} (hl : l.length = m.length) (h : ∀ t (h1 : t < l.length) (h2 : t < m.length), (l[t]).1 = (m[t]).1) : l.map (·.1) = m.map (·.1) :=
  List.ext_getElem (by simpa using hl) fun t h1 h2 => by simpa using h t (by simpa using h1) (by simpa using h2)

set_option maxRecDepth 100000 in
set_option maxHeartbeats 1000000 in
theorem sameKeys_any (A B : Option Addr) (n0 c m0 d : Nat) (xs0 ys0 : List (I × I)) (w : World) (hx0 : Has w 2 A n0 (cells2 xs0)) (hy0 : Has w 2 B m0 (cells2 ys0)) (hn : n0 ≤ 8796093022208) (hm : m0 ≤ 8796093022208) :
    Calls Try.prog 17 #[.slice A n0 c, .slice B m0 d] w fun e w' => e = .returned (.bool (decide ((Plain.mapOf xs0).map (·.1) = (Plain.mapOf ys0).map (·.1)))) ∧ w.grownBy w' none := by
  have HX0 := Lib.hid hx0
  have HY0 := Lib.hid hy0
  have hle1 := Plain.length_mapOf_le xs0
  have hle2 := Plain.length_mapOf_le ys0
  rw [hx0.len2] at hle1
  rw [hy0.len2] at hle2
  clear hx0 hy0
  generalize hxs : Plain.mapOf xs0 = xs at *
  generalize hys : Plain.mapOf ys0 = ys at *
  have HXS := Lib.hid hxs
  have HYS := Lib.hid hys
  clear hxs hys
  generalize hr : decide (xs.map (·.1) = ys.map (·.1)) = r
  have HR := Lib.hid hr
  clear hr
  have hhp := heldP
  have hgp := guardP
  go_enter Try.func17, Try.ntmps17
  go_wp2_with fail
  refine (smap_any A n0 c xs0 _ HX0.out hn).mono ?_
  rintro e w1 ⟨A1, n, c1, rfl, hx1, g1⟩
  rw [HXS.out] at hx1
  have HX1 := Lib.hid hx1
  clear hx1
  go_wp2_with fail
  refine (smap_any B m0 d ys0 _ (HY0.out.kept g1) hm).mono ?_
  rintro e w2 ⟨B1, m, d1, rfl, hy1, g2⟩
  rw [HYS.out] at hy1
  have hlx := Lib.hid HX1.out.len
  have hly := Lib.hid hy1.len
  have HX := Lib.hid (HX1.out.keptN g2).has
  have HY := Lib.hid hy1.has
  have hn' : n ≤ 8796093022208 := by have := hlx.out; omega
  have hm' : m ≤ 8796093022208 := by have := hly.out; omega
  clear hy1 HX1 HXS HYS HX0 HY0
  have hG := g1.trans g2
  clear g1 g2
  by_cases hnm : n = m
  · subst hnm
    go_wp2
    go_loopw [7] (fun v wi => ∃ j : Nat, v = .int .i64 j ∧ j ≤ n ∧ Hid (∀ t (h1 : t < xs.length) (h2 : t < ys.length), t < j → (xs[t]).1 = (ys[t]).1) ∧ w2.grownBy wi none)
      (fun v _ => n - (intOf v).toNat)
    case atStart => exact ⟨0, rfl, Nat.zero_le _, fun t _ _ h => absurd h (by omega), World.grownBy.refl _ _⟩
    case round =>
      obtain ⟨j, rfl, hj, hall, hgw⟩ := hrel
      by_cases hjl : j < n
      · have hjx : j < xs.length := by have := hlx.out; omega
        have hjy : j < ys.length := by have := hly.out; omega
        obtain ⟨b1, o1, rfl, _, e1, e2⟩ := (HX.out.kept hgw).pair hjx
        obtain ⟨b2, o2, rfl, _, f1, f2⟩ := (HY.out.kept hgw).pair hjy
        obtain ⟨p, hp⟩ : ∃ p, p = xs[j] := ⟨_, rfl⟩
        obtain ⟨q, hq⟩ : ∃ p, p = ys[j] := ⟨_, rfl⟩
        rw [← hp] at e1 e2
        rw [← hq] at f1 f2
        have HP := Lib.hid hp
        have HQ := Lib.hid hq
        clear hp hq
        cases h1 : (p.1.1 == q.1.1)
        · go_wp2
          go_quiet (fail)
          go_wp2
          go_ret
          exact ⟨by rw [← HR.out, differK hjx hjy HP.out HQ.out h1]; rfl, hG.trans (gdrewN hgw _)⟩
        · go_wp2
          go_quiet (fail)
          go_wp2
          go_roundw
          case rel =>
            refine ⟨j + 1, by go_num, by omega, fun t h3 h4 htj => ?_, gdrewN hgw _⟩
            by_cases ht' : t < j
            · exact hall.out t h3 h4 ht'
            · obtain rfl : t = j := by omega
              rw [← HP.out, ← HQ.out]; exact Subtype.ext (by simpa using h1)
          case measure => simp [intOf]; omega
      · go_wp2
        go_ret
        obtain rfl : j = n := by omega
        exact ⟨by rw [← HR.out, decide_eq_true (keys_of (by rw [hlx.out, hly.out]) fun t h1 h2 => hall.out t h1 h2 (by have := hlx.out; omega))]; rfl, hG.trans hgw⟩
  · have hb : ((n : Int) != (m : Int)) = true := by rw [bne_iff_ne]; omega
    go_wp2
    go_ret
    exact ⟨by rw [← HR.out, decide_eq_false (fun e => hnm (by rw [← hlx.out, ← hly.out]; have e2 := congrArg List.length e; simpa using e2))]; rfl, hG⟩
end Go.Proofs.Ytgmeaedpbcimjaa
