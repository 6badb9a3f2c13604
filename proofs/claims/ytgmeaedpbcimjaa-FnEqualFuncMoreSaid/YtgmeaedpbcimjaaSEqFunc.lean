/-
  What is proved here: the contract of the reference's EqualFunc: two maps have as many keys, and each value is related to the one of its key.
  Conditions: each list has fewer than 2^43 pairs.
-/
import Derived.Test.YtgmeaedpbcimjaaAt
import Derived.Test.YtgmeaedpbcimjaaData
namespace Go.Proofs.Ytgmeaedpbcimjaa
open Go.RowKit Go.Maps

/-- a value of the first one is related to the one of its key in the second one -/
def goodR (f : I → I → Bool) (m : List (I × I)) (p : I × I) : Bool := match Plain.get p.1 m with | some w => f p.2 w | none => false

theorem related_true {f : I → I → Bool} {l m : List (I × I)} (hl : l.length = m.length) (h : ∀ t (ht : t < l.length), goodR f m l[t] = true) : related f l m = true := by
  unfold related
  rw [decide_eq_true hl, Bool.true_and]
  refine List.all_eq_true.2 fun p hp => ?_
  obtain ⟨t, ht, rfl⟩ := List.getElem_of_mem hp
  exact h t ht

theorem related_false {f : I → I → Bool} {l m : List (I × I)} {t : Nat} (ht : t < l.length) (h : goodR f m l[t] = false) : related f l m = false := by
  have h2 : l.all (goodR f m) = false := List.all_eq_false.2 ⟨l[t], List.getElem_mem ht, by rw [h]; simp⟩
  show (decide (l.length = m.length) && l.all (goodR f m)) = false
  rw [h2, Bool.and_false]

theorem related_len {f : I → I → Bool} {l m : List (I × I)} (h : l.length ≠ m.length) : related f l m = false := by
  unfold related
  rw [decide_eq_false h, Bool.false_and]

set_option maxRecDepth 100000 in
set_option maxHeartbeats 4000000 in
theorem sequalFunc_any (A B C : Option Addr) (n0 c m0 d k e : Nat) (xs0 ys0 rs : List (I × I)) (w : World) (hx0 : Has w 2 A n0 (cells2 xs0)) (hy0 : Has w 2 B m0 (cells2 ys0)) (hr0 : Has w 2 C k (cells2 rs)) (hn : n0 ≤ 8796093022208) (hm : m0 ≤ 8796093022208) (hk : k ≤ 8796093022208) :
    Calls Try.prog 24 #[.slice A n0 c, .slice B m0 d, .slice C k e] w fun e w' => e = .returned (.bool (related (fun x y => decide ((x, y) ∈ rs)) (Plain.mapOf xs0) (Plain.mapOf ys0))) ∧ w.grownBy w' none := by
  have HX0 := Lib.hid hx0
  have HY0 := Lib.hid hy0
  have HR0 := Lib.hid hr0
  have hle1 := Plain.length_mapOf_le xs0
  have hle2 := Plain.length_mapOf_le ys0
  rw [hx0.len2] at hle1
  rw [hy0.len2] at hle2
  have hsy := Lib.hid (Plain.srt_mapOf ys0)
  clear hx0 hy0 hr0
  generalize hxs : Plain.mapOf xs0 = xs at *
  generalize hys : Plain.mapOf ys0 = ys at *
  have HXS := Lib.hid hxs
  have HYS := Lib.hid hys
  clear hxs hys
  generalize hr : related (fun x y => decide ((x, y) ∈ rs)) xs ys = r
  have HR := Lib.hid hr
  clear hr
  go_enter Try.func24, Try.ntmps24
  go_wp2_with fail
  refine (smap_any A n0 c xs0 _ HX0.out hn).mono ?_
  rintro e w1 ⟨A1, n, c1, rfl, hx1, g1⟩
  rw [HXS.out] at hx1
  have HX1 := Lib.hid hx1
  clear hx1
  go_wp2_with fail
  refine (smap_any B m0 d ys0 _ (HY0.out.kept g1) hm).mono ?_
  rintro e w2 ⟨B1, m, d1, rfl, hy1, g2⟩
  rw [HYS.out] at hy1
  have hlx := Lib.hid HX1.out.len
  have hly := Lib.hid hy1.len
  have HX := Lib.hid (HX1.out.keptN g2).has
  have HY := Lib.hid hy1.has
  have hn' : n ≤ 8796093022208 := by have := hlx.out; omega
  have hm' : m ≤ 8796093022208 := by have := hly.out; omega
  have hG := g1.trans g2
  have HRR := Lib.hid (HR0.out.kept hG)
  clear hy1 HX1 HXS HYS HX0 HY0 HR0
  clear g1 g2
  by_cases hnm : n = m
  · subst hnm
    go_wp2
    go_loopw [9] (fun v wi => ∃ j : Nat, v = .int .i64 j ∧ j ≤ n ∧ Hid (∀ t (h1 : t < xs.length), t < j → goodR (fun x y => decide ((x, y) ∈ rs)) ys xs[t] = true) ∧ w2.grownBy wi none)
      (fun v _ => n - (intOf v).toNat)
    case atStart => exact ⟨0, rfl, Nat.zero_le _, fun t _ h => absurd h (by omega), World.grownBy.refl _ _⟩
    case round =>
      obtain ⟨j, rfl, hj, hall, hgw⟩ := hrel
      by_cases hjl : j < n
      · have hjx : j < xs.length := by have := hlx.out; omega
        obtain ⟨b1, o1, rfl, _, e1, e2⟩ := (HX.out.kept hgw).pair hjx
        obtain ⟨p, hp⟩ : ∃ p, p = xs[j] := ⟨_, rfl⟩
        rw [← hp] at e1 e2
        have HP := Lib.hid hp
        clear hp
        go_wp2_with fail
        refine (sat_any B1 n d1 ys p.1 _ (HY.out.kept hgw) (by omega)).mono ?_
        rintro e w3 ⟨rfl, rfl⟩
        have hlg : Plain.last p.1 ys = Plain.get p.1 ys := Plain.last_eq_get hsy.out.once p.1
        rw [hlg]
        cases hget : Plain.get p.1 ys with
        | none =>
          have hbad : goodR (fun x y => decide ((x, y) ∈ rs)) ys xs[j] = false := by rw [← HP.out]; unfold goodR; rw [hget]
          have HB := Lib.hid (related_false hjx hbad)
          clear hbad hget hlg
          simp only [vOf, Option.isSome_none]
          go_wp2_with fail
          go_ret
          exact ⟨by rw [← HR.out, HB.out]; rfl, hG.trans hgw⟩
        | some v =>
          have hgood : goodR (fun x y => decide ((x, y) ∈ rs)) ys xs[j] = decide ((p.2, v) ∈ rs) := by rw [← HP.out]; unfold goodR; rw [hget]
          have HB := Lib.hid hgood
          clear hgood hget hlg
          simp only [vOf, Option.isSome_some]
          go_wp2_with fail
          refine (hasPair_any C k _ rs (p.2, v) _ (HRR.out.kept hgw) hk).mono ?_
          rintro e w4 ⟨rfl, g4⟩
          cases hin : decide ((p.2, v) ∈ rs)
          · go_wp2_with fail
            go_ret
            exact ⟨by rw [← HR.out, related_false hjx (by rw [HB.out, hin])]; rfl, (hG.trans hgw).trans g4⟩
          · go_wp2_with fail
            go_roundw
            case rel =>
              refine ⟨j + 1, by go_num, by omega, fun t h3 htj => ?_, hgw.trans g4⟩
              by_cases ht' : t < j
              · exact hall.out t h3 ht'
              · obtain rfl : t = j := by omega
                rw [HB.out, hin]
            case measure => simp [intOf]; omega
      · go_wp2
        go_ret
        obtain rfl : j = n := by omega
        exact ⟨by rw [← HR.out, related_true (by rw [hlx.out, hly.out]) (fun t h1 => hall.out t h1 (by have := hlx.out; omega))]; rfl, hG.trans hgw⟩
  · have hb : ((n : Int) != (m : Int)) = true := by rw [bne_iff_ne]; omega
    go_wp2
    go_ret
    exact ⟨by rw [← HR.out, related_len (fun e => hnm (by rw [← hlx.out, ← hly.out, e]))]; rfl, hG⟩
end Go.Proofs.Ytgmeaedpbcimjaa
