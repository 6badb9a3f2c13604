/-
  What is proved here: the walk through the law FnEqualChanged: it returns true.
  Conditions: the code is read as the form reads it.
-/
import Derived.Test.YtlnbbkegdlkpfaaDraw
import Derived.Test.YtlnbbkegdlkpfaaEqual
import Derived.Test.YtlnbbkegdlkpfaaAt
import Derived.Test.YtlnbbkegdlkpfaaSMap
import Derived.Deep.RegionLaw
namespace Go.Proofs.Ytlnbbkegdlkpfaa.fnEqualChanged
open Go.RowKit Go.Maps
set_option linter.unusedSimpArgs false
set_option linter.unusedVariables false

theorem changed (xs : List (I × I)) (p : I × I) : Plain.mapOf xs = Plain.mapOf (xs ++ [p]) ↔ Plain.last p.1 xs = some p.2 := by
  constructor
  · intro h
    have := congrArg (Plain.get p.1) h
    rwa [Plain.get_mapOf, Plain.get_mapOf, Plain.last_snoc, if_pos rfl] at this
  · intro h
    refine Plain.ext (Plain.srt_mapOf _) (Plain.srt_mapOf _) fun k => ?_
    rw [Plain.get_mapOf, Plain.get_mapOf, Plain.last_snoc]
    split
    · rename_i e; rw [← e, h]
    · rfl

set_option maxRecDepth 100000 in
set_option maxHeartbeats 4000000 in
theorem walk (A : Option Addr) (n c : Nat) (zs : List Int) (w : World) (h : Bytes w A n c zs) :
    Calls Try.prog 6 #[.slice A n c] w fun e w' => e = .returned (.bool true) ∧ w.grownBy w' none := by
  have HB := Lib.hid h
  clear h
  by_cases hn : 1048576 < n
  · go_enter Try.func6, Try.ntmps6
    go_wp2_with fail
    go_ret
    exact ⟨rfl, World.grownBy.refl _ _⟩
  · go_enter Try.func6, Try.ntmps6
    go_wp2_with fail
    refine (drawSet_any A n c zs _ HB.out (by omega)).mono ?_
    rintro e w1 ⟨A1, n1, c1, xs, p, rfl, ⟨X, hn1⟩, g0⟩
    have X := Lib.hid X
    have G := Lib.hid g0
    clear g0
    have lx := X.out.len2
    go_wp2_with fail
    have PP := Lib.hid (PairAt.made w1 (.int .i64 p.1.1) (.int .i64 p.2.1) 29)
    have ga := World.grownBy_alloc w1 (.cells #[.int .i64 p.1.1, .int .i64 p.2.1] 29) none
    have X := Lib.hid (X.out.kept ga)
    have G := Lib.hid (G.out.trans ga)
    clear ga
    generalize w1.alloc (.cells #[.int .i64 p.1.1, .int .i64 p.2.1] 29) = wp at PP X G ⊢
    generalize w1.heap.size = gp at PP ⊢
    have p0 := PP.out.c0
    have p1 := PP.out.c1
    go_wp2_with fail
    clear p0 p1
    refine (sAt_any A1 n1 c1 xs p.1 _ X.out (by omega)).mono ?_
    rintro e wz ⟨rfl, rfl⟩
    cases hl : Plain.last p.1 xs with
    | none =>
      have HD : Hid (decide (Plain.mapOf xs = Plain.mapOf (xs ++ [p])) = false) := Lib.hid (decide_eq_false (by rw [changed, hl]; simp))
      simp only [vOf, Option.isSome]
      have p0 := PP.out.c0
      have p1 := PP.out.c1
      have hlp := PP.out.lt
      go_wp2_with fail
      first
      | (go_region_law
           (first
             | (refine step_appG0 (ys := xs) twoP oneP wp _ (by rfl) (.tmp 23) (.tmp 24) (by rfl) (by rfl) (by repeat (first | exact World.grownBy.refl _ _ | apply gdrew | apply galloc)) (by first | exact (Own.made wp (Nat.le_refl _)) | exact (Own.made wp (Nat.le_refl _)).drew | exact ((Own.made wp (Nat.le_refl _)).alloc _) | exact ((Own.made wp (Nat.le_refl _)).alloc _).drew | exact (Own.made1 wp _ (Nat.le_refl _)) | exact (Own.made1 wp _ (Nat.le_refl _)).drew) (by rfl) (by exact X.out.kept (by repeat (first | exact World.grownBy.refl _ _ | apply gdrew | apply galloc))) (by unfold maxLen; omega) (by omega) ?_; intro B1 d1 w1 o1 G1 g1; have q0 := G1.cell PP.out.c0 (by simp); have q1 := G1.cell PP.out.c1 (by simp))
             | (refine step_appG (xs := xs) (ys := [p]) twoP oneP wp _ (by rfl) (.tmp 25) (.tmp 27) (by rfl) (by rfl) (by first | exact G1 | exact galloc G1 _) (by first | exact o1 | exact o1.alloc _) (by rfl) (by first | exact (Own.one w1 p G1.size).has | exact ((Own.one1 (base := 0) wp _ p (Nat.zero_le _)).has).keptBut g1 (by intro a ha; cases ha; simp [Value.ownBlock]) | exact ((Own.one1 (base := 0) wp _ p (Nat.zero_le _)).drew.has).keptBut g1 (by intro a ha; cases ha; simp [Value.ownBlock]) | exact (((Own.one (base := 0) wp p (Nat.zero_le _)).alloc _).has).keptBut g1 (by intro a ha; cases ha; simp [Value.ownBlock]) | exact (((Own.one (base := 0) wp p (Nat.zero_le _)).alloc _).drew.has).keptBut g1 (by intro a ha; cases ha; simp [Value.ownBlock])) (by unfold maxLen; omega) (by omega) ?_; intro B2 d2 w2 o2 G2 g2; have q2 := G2.cell PP.out.c0 (by simp); have q3 := G2.cell PP.out.c1 (by simp))
             | (go_simp; go_at_call 16; refine (equal_any A1 B2 n1 c1 (n1 + 1) d2 xs (xs ++ [p]) _ (by first | exact X.out.kept G2 | exact X.out.kept (gdrew G2)) (by first | exact o2.has | exact o2.drew.has) (by omega) (by omega)).mono ?_; rintro e w4 ⟨rfl, g4⟩; rw [HD.out])))
      | fail
      all_goals
        go_wp2_with fail
        go_ret
        refine ⟨rfl, ?_⟩
        first | exact G.out.trans (G2.trans g4) | exact G.out.trans ((gdrew G2).trans g4) | exact gdrew (G.out.trans (G2.trans g4))
    | some v =>
      by_cases hv : v = p.2
      · subst hv
        have HD : Hid (decide (Plain.mapOf xs = Plain.mapOf (xs ++ [p])) = true) := Lib.hid (decide_eq_true (by rw [changed, hl]))
        have hb : (p.2.1 == p.2.1) = true := by simp
        simp only [vOf, Option.isSome]
        have p0 := PP.out.c0
        have p1 := PP.out.c1
        have hlp := PP.out.lt
        go_wp2_with fail
        go_region_held3 (fun w' => w'.cell? ⟨gp, 0, none⟩ = some (.int .i64 p.1.1) ∧ w'.cell? ⟨gp, 1, none⟩ = some (.int .i64 p.2.1))
          (first
            | go_keep
            | (refine ⟨?_, ?_⟩ <;> first | exact (G2.trans g4).cell (by assumption) (by simp) | exact ((gdrew G2).trans g4).cell (by assumption) (by simp) | exact G2.cell (by assumption) (by simp) | exact G1.cell (by assumption) (by simp)))
          (first
            | (refine step_appG0 (ys := xs) twoP oneP wp _ (by rfl) (.tmp 23) (.tmp 24) (by rfl) (by rfl) (by repeat (first | exact World.grownBy.refl _ _ | apply gdrew | apply galloc)) (by first | exact (Own.made wp (Nat.le_refl _)) | exact (Own.made wp (Nat.le_refl _)).drew | exact ((Own.made wp (Nat.le_refl _)).alloc _) | exact ((Own.made wp (Nat.le_refl _)).alloc _).drew | exact (Own.made1 wp _ (Nat.le_refl _)) | exact (Own.made1 wp _ (Nat.le_refl _)).drew) (by rfl) (by exact X.out.kept (by repeat (first | exact World.grownBy.refl _ _ | apply gdrew | apply galloc))) (by unfold maxLen; omega) (by omega) ?_; intro B1 d1 w1 o1 G1 g1)
            | (refine step_appG (xs := xs) (ys := [p]) twoP oneP wp _ (by rfl) (.tmp 25) (.tmp 27) (by rfl) (by rfl) (by first | exact G1 | exact galloc G1 _) (by first | exact o1 | exact o1.alloc _) (by rfl) (by first | exact (Own.one w1 p G1.size).has | exact ((Own.one1 (base := 0) wp _ p (Nat.zero_le _)).has).keptBut g1 (by intro a ha; cases ha; simp [Value.ownBlock]) | exact ((Own.one1 (base := 0) wp _ p (Nat.zero_le _)).drew.has).keptBut g1 (by intro a ha; cases ha; simp [Value.ownBlock]) | exact (((Own.one (base := 0) wp p (Nat.zero_le _)).alloc _).has).keptBut g1 (by intro a ha; cases ha; simp [Value.ownBlock]) | exact (((Own.one (base := 0) wp p (Nat.zero_le _)).alloc _).drew.has).keptBut g1 (by intro a ha; cases ha; simp [Value.ownBlock])) (by unfold maxLen; omega) (by omega) ?_; intro B2 d2 w2 o2 G2 g2)
            | (go_at_call 16; refine (equal_any A1 B2 n1 c1 (n1 + 1) d2 xs (xs ++ [p]) _ (by first | exact X.out.kept G2 | exact X.out.kept (gdrew G2)) (by first | exact o2.has | exact o2.drew.has) (by omega) (by omega)).mono ?_; rintro e w4 ⟨rfl, g4⟩; rw [HD.out]))
        all_goals
          go_wp2_with fail
          go_ret
          refine ⟨rfl, ?_⟩
          first | exact G.out.trans (G2.trans g4) | exact G.out.trans ((gdrew G2).trans g4) | exact gdrew (G.out.trans (G2.trans g4))
      · have HD : Hid (decide (Plain.mapOf xs = Plain.mapOf (xs ++ [p])) = false) := Lib.hid (decide_eq_false (by rw [changed, hl]; simpa using hv))
        have hb : (v.1 == p.2.1) = false := by rw [beq_eq_false_iff_ne]; exact fun e => hv (Subtype.ext e)
        simp only [vOf, Option.isSome]
        have p0 := PP.out.c0
        have p1 := PP.out.c1
        have hlp := PP.out.lt
        go_wp2_with fail
        go_region_held3 (fun w' => w'.cell? ⟨gp, 0, none⟩ = some (.int .i64 p.1.1) ∧ w'.cell? ⟨gp, 1, none⟩ = some (.int .i64 p.2.1))
          (first
            | go_keep
            | (refine ⟨?_, ?_⟩ <;> first | exact (G2.trans g4).cell (by assumption) (by simp) | exact ((gdrew G2).trans g4).cell (by assumption) (by simp) | exact G2.cell (by assumption) (by simp) | exact G1.cell (by assumption) (by simp)))
          (first
            | (refine step_appG0 (ys := xs) twoP oneP wp _ (by rfl) (.tmp 23) (.tmp 24) (by rfl) (by rfl) (by repeat (first | exact World.grownBy.refl _ _ | apply gdrew | apply galloc)) (by first | exact (Own.made wp (Nat.le_refl _)) | exact (Own.made wp (Nat.le_refl _)).drew | exact ((Own.made wp (Nat.le_refl _)).alloc _) | exact ((Own.made wp (Nat.le_refl _)).alloc _).drew | exact (Own.made1 wp _ (Nat.le_refl _)) | exact (Own.made1 wp _ (Nat.le_refl _)).drew) (by rfl) (by exact X.out.kept (by repeat (first | exact World.grownBy.refl _ _ | apply gdrew | apply galloc))) (by unfold maxLen; omega) (by omega) ?_; intro B1 d1 w1 o1 G1 g1)
            | (refine step_appG (xs := xs) (ys := [p]) twoP oneP wp _ (by rfl) (.tmp 25) (.tmp 27) (by rfl) (by rfl) (by first | exact G1 | exact galloc G1 _) (by first | exact o1 | exact o1.alloc _) (by rfl) (by first | exact (Own.one w1 p G1.size).has | exact ((Own.one1 (base := 0) wp _ p (Nat.zero_le _)).has).keptBut g1 (by intro a ha; cases ha; simp [Value.ownBlock]) | exact ((Own.one1 (base := 0) wp _ p (Nat.zero_le _)).drew.has).keptBut g1 (by intro a ha; cases ha; simp [Value.ownBlock]) | exact (((Own.one (base := 0) wp p (Nat.zero_le _)).alloc _).has).keptBut g1 (by intro a ha; cases ha; simp [Value.ownBlock]) | exact (((Own.one (base := 0) wp p (Nat.zero_le _)).alloc _).drew.has).keptBut g1 (by intro a ha; cases ha; simp [Value.ownBlock])) (by unfold maxLen; omega) (by omega) ?_; intro B2 d2 w2 o2 G2 g2)
            | (go_at_call 16; refine (equal_any A1 B2 n1 c1 (n1 + 1) d2 xs (xs ++ [p]) _ (by first | exact X.out.kept G2 | exact X.out.kept (gdrew G2)) (by first | exact o2.has | exact o2.drew.has) (by omega) (by omega)).mono ?_; rintro e w4 ⟨rfl, g4⟩; rw [HD.out]))
        all_goals
          go_wp2_with fail
          go_ret
          refine ⟨rfl, ?_⟩
          first | exact G.out.trans (G2.trans g4) | exact G.out.trans ((gdrew G2).trans g4) | exact gdrew (G.out.trans (G2.trans g4))
end Go.Proofs.Ytlnbbkegdlkpfaa.fnEqualChanged
