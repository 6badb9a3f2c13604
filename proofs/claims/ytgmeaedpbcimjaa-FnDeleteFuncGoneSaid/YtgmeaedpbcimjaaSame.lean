/-
  What is proved here: the contract of samePairs: whether two lists of pairs are the same.
  Conditions: each list has fewer than 2^43 pairs.
-/
import Derived.Test.YtgmeaedpbcimjaaSMap
import Derived.Laws.StructEq
namespace Go.Proofs.Ytgmeaedpbcimjaa
open Go.RowKit Go.Maps

theorem heldP : Try.prog.stoodInHeld 30 = false := by kernel_rfl
theorem guardP : Try.prog.eqGuardType Try.prog.depth 30 = false := by kernel_rfl

theorem eq_of_beq2 {p q : I × I} (h1 : (p.1.1 == q.1.1) = true) (h2 : (p.2.1 == q.2.1) = true) : p = q :=
  Prod.ext (Subtype.ext (by simpa using h1)) (Subtype.ext (by simpa using h2))
theorem differ1 {xs ys : List (I × I)} {j : Nat} {p q : I × I} (hx : j < xs.length) (hy : j < ys.length) (hp : p = xs[j]) (hq : q = ys[j]) (h : (p.1.1 == q.1.1) = false) : decide (xs = ys) = false :=
  decide_eq_false fun e => by
    subst e
    rw [hp, hq] at h
    simp at h
theorem differ2 {xs ys : List (I × I)} {j : Nat} {p q : I × I} (hx : j < xs.length) (hy : j < ys.length) (hp : p = xs[j]) (hq : q = ys[j]) (h : (p.2.1 == q.2.1) = false) : decide (xs = ys) = false :=
  decide_eq_false fun e => by
    subst e
    rw [hp, hq] at h
    simp at h

set_option maxRecDepth 100000 in
set_option maxHeartbeats 1000000 in
theorem samePairs_any (A B : Option Addr) (n c m d : Nat) (xs ys : List (I × I)) (w : World) (hx : Has w 2 A n (cells2 xs)) (hy : Has w 2 B m (cells2 ys)) (hn : n ≤ 17592186044416) (hm : m ≤ 17592186044416) :
    Calls Try.prog 25 #[.slice A n c, .slice B m d] w fun e w' => e = .returned (.bool (decide (xs = ys))) ∧ w.grownBy w' none := by
  have hlx := Lib.hid hx.len2
  have hly := Lib.hid hy.len2
  have HX := Lib.hid hx
  have HY := Lib.hid hy
  clear hx hy
  generalize hr : decide (xs = ys) = r
  have HR := Lib.hid hr
  clear hr
  have hhp := heldP
  have hgp := guardP
  by_cases hnm : n = m
  · subst hnm
    go_enter Try.func25, Try.ntmps25
    go_wp2
    go_loopw [5] (fun v wi => ∃ j : Nat, v = .int .i64 j ∧ j ≤ n ∧ Hid (∀ t (h1 : t < xs.length) (h2 : t < ys.length), t < j → xs[t] = ys[t]) ∧ w.grownBy wi none)
      (fun v _ => n - (intOf v).toNat)
    case atStart => exact ⟨0, rfl, Nat.zero_le _, fun t _ _ h => absurd h (by omega), World.grownBy.refl _ _⟩
    case round =>
      obtain ⟨j, rfl, hj, hall, hgw⟩ := hrel
      by_cases hjl : j < n
      · have hjx : j < xs.length := by have := hlx.out; omega
        have hjy : j < ys.length := by have := hly.out; omega
        obtain ⟨b1, o1, rfl, _, e1, e2⟩ := (HX.out.kept hgw).pair hjx
        obtain ⟨b2, o2, rfl, _, f1, f2⟩ := (HY.out.kept hgw).pair hjy
        obtain ⟨p, hp⟩ : ∃ p, p = xs[j] := ⟨_, rfl⟩
        obtain ⟨q, hq⟩ : ∃ p, p = ys[j] := ⟨_, rfl⟩
        rw [← hp] at e1 e2
        rw [← hq] at f1 f2
        have HP := Lib.hid hp
        have HQ := Lib.hid hq
        clear hp hq
        cases h1 : (p.1.1 == q.1.1)
        · cases h2 : (p.2.1 == q.2.1)
          all_goals
            go_wp2
            go_quiet (fail)
            go_wp2
            go_ret
            exact ⟨by rw [← HR.out, differ1 hjx hjy HP.out HQ.out h1]; rfl, (gdrewN hgw _)⟩
        · cases h2 : (p.2.1 == q.2.1)
          · go_wp2
            go_quiet (fail)
            go_wp2
            go_ret
            exact ⟨by rw [← HR.out, differ2 hjx hjy HP.out HQ.out h2]; rfl, (gdrewN hgw _)⟩
          · go_wp2
            go_quiet (fail)
            go_wp2
            go_roundw
            case rel =>
              refine ⟨j + 1, by go_num, by omega, fun t h3 h4 htj => ?_, gdrewN hgw _⟩
              by_cases ht' : t < j
              · exact hall.out t h3 h4 ht'
              · obtain rfl : t = j := by omega
                rw [← HP.out, ← HQ.out]; exact eq_of_beq2 h1 h2
            case measure => simp [intOf]; omega
      · go_wp2
        go_ret
        obtain rfl : j = n := by omega
        exact ⟨by rw [← HR.out, decide_eq_true (List.ext_getElem (by rw [hlx.out, hly.out]) fun t h1 h2 => hall.out t h1 h2 (by have := hlx.out; omega))]; rfl, hgw⟩
  · have hb : ((n : Int) != (m : Int)) = true := by rw [bne_iff_ne]; omega
    go_enter Try.func25, Try.ntmps25
    go_wp2
    go_ret
    exact ⟨by rw [← HR.out, decide_eq_false (fun e => hnm (by rw [← hlx.out, ← hly.out, e]))]; rfl, World.grownBy.refl _ _⟩
end Go.Proofs.Ytgmeaedpbcimjaa
