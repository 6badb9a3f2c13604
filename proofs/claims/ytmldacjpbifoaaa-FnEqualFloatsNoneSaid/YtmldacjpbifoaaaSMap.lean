/-
  What is proved here: the contract of the reference's Map: it returns the sorted list of a list of pairs, of each key the last one, in new memory.
  Conditions: the list has fewer than 2^43 pairs.
-/
import Derived.Test.YtmldacjpbifoaaaAppend
import Derived.WalkKit
import Derived.Lib.Hide
import Derived.WalkSpells
import Derived.WalkLawsBesides
import Derived.Deep.QuietTactic
import Derived.BigQuiet
import Derived.Deep.RegionHeld3
namespace Go.Proofs.Ytmldacjpbifoaaa
open Go.RowKit Go.Maps

/-- what the inner loop has found when it ends -/
theorem smap_place {L : List (I × I)} {k : I} {j : Nat} (hj : j ≤ L.length) (h1 : ∀ t (ht : t < L.length), t < j → (L[t]).1.1 < k.1) (h2 : ∀ h : j < L.length, ¬ (L[j]).1.1 < k.1) : Plain.below k L = j :=
  Plain.below_of hj h1 h2

theorem take_snoc {xs : List (I × I)} {k : Nat} (hk : k < xs.length) : Plain.mapOf (xs.take (k + 1)) = Plain.put (xs[k]).1 (xs[k]).2 (Plain.mapOf (xs.take k)) := by
  rw [List.take_succ_eq_append_getElem hk, Plain.mapOf_snoc]

/-- putting by the key's place, as the walk has it -/
theorem put_at' {k : I} {v : I} {l : List (I × I)} {j : Nat} (hj : Plain.below k l = j) (h : j < l.length) (he : (l[j]).1 = k) : Plain.put k v l = l.set j (k, v) := by
  subst hj
  exact Plain.put_at h he
theorem put_new' {p : I × I} {l : List (I × I)} {j : Nat} (hj : Plain.below p.1 l = j) (hn : ∀ h : j < l.length, (l[j]).1 ≠ p.1) : Plain.put p.1 p.2 l = l.take j ++ ([p] ++ l.drop j) := by
  subst hj
  exact Plain.put_new hn

set_option maxRecDepth 100000 in
set_option maxHeartbeats 8000000 in
theorem smap_any (A : Option Addr) (n c : Nat) (xs : List (I × I)) (w : World) (h : Has w 2 A n (cells2 xs)) (hn : n ≤ 8796093022208) :
    Calls Try.prog 31 #[.slice A n c] w fun e w' => ∃ A' n' c', e = .returned (.slice A' n' c') ∧ OwnP w' w.heap.size A' n' c' (Plain.mapOf xs) ∧ w.grownBy w' none := by
  have hlen := Lib.hid h.len2
  have HX := Lib.hid h
  clear h
  go_enter Try.func31, Try.ntmps31
  go_wp2
  go_loopw [3, 4] (fun v i wr => ∃ (k g n' c' : Nat), k ≤ n ∧ i = .int .i64 k ∧ v = .slice (some ⟨g, 0, none⟩) n' c' ∧ OwnP wr w.heap.size (some ⟨g, 0, none⟩) n' c' (Plain.mapOf (xs.take k)) ∧ w.grownBy wr none)
    (fun _ i _ => n - (intOf i).toNat)
  case atStart => exact ⟨0, _, _, _, Nat.zero_le _, rfl, rfl, Own.made _ (Nat.le_refl _), World.grownBy_alloc _ _ _⟩
  case round =>
    obtain ⟨k, g, n', c', hk, rfl, rfl, hown, hgw⟩ := hrel
    by_cases hlt : k < n
    · have hkx : k < xs.length := by have := hlen.out; omega
      have HT := Lib.hid (take_snoc hkx)
      have hn' : n' ≤ k := by
        have e := Plain.length_mapOf_le (xs.take k)
        have e1 := hown.len
        have : (xs.take k).length ≤ k := List.length_take_le _ _
        omega
      generalize hL : Plain.mapOf (xs.take k) = L at hown HT
      clear hL
      obtain ⟨b, off, rfl, hb, h1, h2⟩ := HX.out.pair hkx
      obtain ⟨p, hp⟩ : ∃ p, p = xs[k] := ⟨_, rfl⟩
      rw [← hp] at h1 h2 HT
      clear hp
      have H1 := Lib.hid h1
      have H2 := Lib.hid h2
      clear h1 h2
      go_wp2
      obtain ⟨wo, hwo⟩ : ∃ wo : World, wo = wr := ⟨_, rfl⟩
      subst hwo
      go_loopw [5] (fun v wi => ∃ j : Nat, v = .int .i64 j ∧ j ≤ n' ∧ Hid (∀ t (ht : t < L.length), t < j → (L[t]).1.1 < p.1.1) ∧ OwnP wi w.heap.size (some ⟨g, 0, none⟩) n' c' L ∧ w.grownBy wi none)
        (fun v _ => n' - (intOf v).toNat)
      case atStart => exact ⟨0, rfl, Nat.zero_le _, fun t _ h => absurd h (by omega), hown, hgw⟩
      case round =>
        clear hown hgw
        obtain ⟨j, rfl, hj, hless, hown, hgw⟩ := hrel
        have h1 := hgw.cell H1.out (by simp)
        have h2 := hgw.cell H2.out (by simp)
        by_cases hjl : j < n'
        · have hjL : j < L.length := by have := hown.len; omega
          obtain ⟨g', hgg, hgb, hg, e1, e2, f1, f2⟩ := hown.at_ hjL
          cases hgg
          obtain ⟨q, hq⟩ : ∃ p, p = L[j] := ⟨_, rfl⟩
          rw [← hq] at e1 e2
          simp only [twoI] at e1 e2
          have HQ := Lib.hid hq
          clear hq
          by_cases hkl : q.1.1 < p.1.1
          · go_wp2
            go_quiet (fail)
            go_wp2
            go_roundw
            case rel =>
              refine ⟨j + 1, by go_num, by omega, fun t ht htj => ?_, hown, gdrewN hgw _⟩
              by_cases ht' : t < j
              · exact hless.out t ht ht'
              · obtain rfl : t = j := by omega
                rw [← HQ.out]; exact hkl
            case measure => simp [intOf]; omega
          · have hpl : Plain.below p.1 L = j := smap_place (by omega) hless.out (fun h => by rw [← HQ.out]; exact hkl)
            have HP := Lib.hid hpl
            clear hpl
            by_cases heq : q.1.1 = p.1.1
            · have hbe : (q.1.1 == p.1.1) = true := by simpa using heq
              have HE := Lib.hid heq
              clear heq
              go_wp2
              go_quiet (fail)
              obtain ⟨nq1, hq1⟩ : ∃ x, x = nq := ⟨_, rfl⟩
              rw [← hq1]
              clear hq1 nq
              go_wp2
              go_quiet (fail)
              go_wp2
              go_roundw
              case rel =>
                have ho9 : OwnP (wr.drewN (nq1 + nq)) w.heap.size (some ⟨g, 0, none⟩) n' c' L := hown
                have hs := ho9.store2 hjL (p := (q.1, p.2)) (by rw [← HQ.out]; rfl)
                have hG := World.grownBy.andThen (row := none) (gdrewN hgw (nq1 + nq)) hs.2 (fun t ht => .inl (by injection ht with e; subst e; exact hgb))
                refine ⟨k + 1, g, n', c', by omega, by go_num, rfl, ?_, hG⟩
                rw [HT.out, put_at' HP.out hjL (by rw [← HQ.out]; exact Subtype.ext HE.out), show p.1 = q.1 from (Subtype.ext HE.out).symm]
                exact hs.1
              case measure => simp [intOf]; omega
            · have hbe : (q.1.1 == p.1.1) = false := by simpa using heq
              go_wp2
              go_quiet (fail)
              obtain ⟨nq1, hq1⟩ : ∃ x, x = nq := ⟨_, rfl⟩
              rw [← hq1]
              clear hq1 nq
              go_wp2
              go_quiet (fail)
              go_wp2
              clear e1 e2 f1 f2 hg
              have ho9 : OwnP ((wr.drewN nq1).drewN nq) w.heap.size (some ⟨g, 0, none⟩) n' c' L := hown
              have hg9 : w.grownBy ((wr.drewN nq1).drewN nq) none := gdrewN (gdrewN hgw _) _
              clear hown hgw h1 h2
              generalize (wr.drewN nq1).drewN nq = w9 at ho9 hg9 ⊢
              have h1 := hg9.cell H1.out (by simp)
              have h2 := hg9.cell H2.out (by simp)
              have hb9 := World.block_lt_of_cell? _ _ h1
              have hB9 := hg9.size
              have hT := Lib.hid (ho9.takes (k := j) (by omega))
              have hD := Lib.hid (ho9.drops0 (k := j) (by omega))
              have hcap := ho9.cap
              have i1 : (0 : Int) ≤ (j : Int) := by omega
              have i2 : (j : Int) ≤ (n' : Int) := by omega
              have i3 : (n' : Int) ≤ (c' : Int) := by omega
              have i4 : (j : Int) ≤ (c' : Int) := by omega
              have i5 : (0 : Int) ≤ (k : Int) := by omega
              have i6 : (k : Int) < (n : Int) := by omega
              go_region_held3 (fun w' => w'.cell? ⟨b, off + k * 2, none⟩ = some (.int .i64 p.1.1) ∧ w'.cell? ⟨b, off + k * 2 + 1, none⟩ = some (.int .i64 p.2.1))
                (first
                  | go_keep
                  | (go_split_ands; refine ⟨?_, ?_⟩ <;> first | exact G3.cell ‹_› (by simp) | exact G2.cell ‹_› (by simp) | exact G1.cell ‹_› (by simp)))
                (first
                  | (refine step_appG0 (ys := L.take j) twoP oneP w9 _ (by rfl) (.tmp 58) (.tmp 61) (by rfl) (by rfl) (by repeat (first | exact World.grownBy.refl _ _ | apply gdrew | apply galloc)) (by first | exact (Own.made w9 (Nat.le_refl _)).drew | exact ((Own.made w9 (Nat.le_refl _)).alloc _).drew | exact (Own.made1 w9 _ (Nat.le_refl _)).drew) (by rfl) (by exact hT.out.kept (by repeat (first | exact World.grownBy.refl _ _ | apply gdrew | apply galloc))) (by unfold maxLen; omega) (by omega) ?_; intro A1 c1 w1 o1 G1 g1)
                  | (refine step_appG (xs := L.take j) (ys := [p]) twoP oneP w9 _ (by rfl) (.tmp 62) (.tmp 67) (by rfl) (by rfl) (by first | exact G1 | exact galloc G1 _) (by first | exact o1 | exact o1.alloc _) (by rfl) (by first | exact (Own.one w1 p G1.size).has | exact ((Own.one1 (base := 0) w9 _ p (Nat.zero_le _)).drew.has).keptBut g1 (by intro a ha; cases ha; simp [Value.ownBlock]) | exact (((Own.one (base := 0) w9 p (Nat.zero_le _)).alloc _).drew.has).keptBut g1 (by intro a ha; cases ha; simp [Value.ownBlock])) (by unfold maxLen; omega) (by omega) ?_; intro A2 c2 w2 o2 G2 g2)
                  | (refine step_appG (xs := L.take j ++ [p]) (ys := L.drop j) twoP oneP w9 _ (by rfl) (.tmp 68) (.tmp 71) (by rfl) (by rfl) G2 o2 (by rfl) (by exact hD.out.kept G2) (by unfold maxLen; omega) (by omega) ?_; intro A3 c3 w3 o3 G3 g3))
              all_goals
                obtain ⟨g3', rfl⟩ := o3.some_ (by omega)
                go_wp2
                go_roundw
                case rel =>
                  refine ⟨k + 1, g3', j + 1 + (n' - j), c3, by omega, by go_num, by rfl, ?_, hg9.trans G3⟩
                  rw [HT.out, put_new' HP.out (fun h => by rw [← HQ.out]; exact fun e => heq (congrArg Subtype.val e))]
                  rw [List.append_assoc] at o3
                  exact o3.mono hB9
                case measure => simp [intOf]; omega
        · have hd : decide ((j : Int) < (n' : Int)) = false := by simp; omega
          have hpl : Plain.below p.1 L = j := smap_place (by have := hown.len; omega) hless.out (fun h => absurd h (by have := hown.len; omega))
          have HP := Lib.hid hpl
          clear hpl
          go_wp2
          go_quiet (fail)
          obtain ⟨nq1, hq1⟩ : ∃ x, x = nq := ⟨_, rfl⟩
          rw [← hq1]
          clear hq1 nq
          go_wp2
          go_quiet (fail)
          go_wp2
          have ho9 : OwnP ((wr.drewN nq1).drewN nq) w.heap.size (some ⟨g, 0, none⟩) n' c' L := hown
          have hg9 : w.grownBy ((wr.drewN nq1).drewN nq) none := gdrewN (gdrewN hgw _) _
          clear hown hgw h1 h2
          generalize (wr.drewN nq1).drewN nq = w9 at ho9 hg9 ⊢
          have h1 := hg9.cell H1.out (by simp)
          have h2 := hg9.cell H2.out (by simp)
          have hb9 := World.block_lt_of_cell? _ _ h1
          have hB9 := hg9.size
          have hT := Lib.hid (ho9.takes (k := j) (by omega))
          have hD := Lib.hid (ho9.drops0 (k := j) (by omega))
          have hcap := ho9.cap
          have i1 : (0 : Int) ≤ (j : Int) := by omega
          have i2 : (j : Int) ≤ (n' : Int) := by omega
          have i3 : (n' : Int) ≤ (c' : Int) := by omega
          have i4 : (j : Int) ≤ (c' : Int) := by omega
          have i5 : (0 : Int) ≤ (k : Int) := by omega
          have i6 : (k : Int) < (n : Int) := by omega
          go_region_held3 (fun w' => w'.cell? ⟨b, off + k * 2, none⟩ = some (.int .i64 p.1.1) ∧ w'.cell? ⟨b, off + k * 2 + 1, none⟩ = some (.int .i64 p.2.1))
            (first
              | go_keep
              | (go_split_ands; refine ⟨?_, ?_⟩ <;> first | exact G3.cell ‹_› (by simp) | exact G2.cell ‹_› (by simp) | exact G1.cell ‹_› (by simp)))
            (first
              | (refine step_appG0 (ys := L.take j) twoP oneP w9 _ (by rfl) (.tmp 58) (.tmp 61) (by rfl) (by rfl) (by repeat (first | exact World.grownBy.refl _ _ | apply gdrew | apply galloc)) (by first | exact (Own.made w9 (Nat.le_refl _)).drew | exact ((Own.made w9 (Nat.le_refl _)).alloc _).drew | exact (Own.made1 w9 _ (Nat.le_refl _)).drew) (by rfl) (by exact hT.out.kept (by repeat (first | exact World.grownBy.refl _ _ | apply gdrew | apply galloc))) (by unfold maxLen; omega) (by omega) ?_; intro A1 c1 w1 o1 G1 g1)
              | (refine step_appG (xs := L.take j) (ys := [p]) twoP oneP w9 _ (by rfl) (.tmp 62) (.tmp 67) (by rfl) (by rfl) (by first | exact G1 | exact galloc G1 _) (by first | exact o1 | exact o1.alloc _) (by rfl) (by first | exact (Own.one w1 p G1.size).has | exact ((Own.one1 (base := 0) w9 _ p (Nat.zero_le _)).drew.has).keptBut g1 (by intro a ha; cases ha; simp [Value.ownBlock]) | exact (((Own.one (base := 0) w9 p (Nat.zero_le _)).alloc _).drew.has).keptBut g1 (by intro a ha; cases ha; simp [Value.ownBlock])) (by unfold maxLen; omega) (by omega) ?_; intro A2 c2 w2 o2 G2 g2)
              | (refine step_appG (xs := L.take j ++ [p]) (ys := L.drop j) twoP oneP w9 _ (by rfl) (.tmp 68) (.tmp 71) (by rfl) (by rfl) G2 o2 (by rfl) (by exact hD.out.kept G2) (by unfold maxLen; omega) (by omega) ?_; intro A3 c3 w3 o3 G3 g3))
          all_goals
            obtain ⟨g3', rfl⟩ := o3.some_ (by omega)
            go_wp2
            go_roundw
            case rel =>
              refine ⟨k + 1, g3', j + 1 + (n' - j), c3, by omega, by go_num, by rfl, ?_, hg9.trans G3⟩
              rw [HT.out, put_new' HP.out (fun h => absurd h (by have := ho9.len; omega))]
              rw [List.append_assoc] at o3
              exact o3.mono hB9
            case measure => simp [intOf]; omega
    · go_wp2
      go_ret
      have : k = n := by omega
      subst this
      rw [List.take_of_length_le (Nat.le_of_eq hlen.out)] at hown
      exact ⟨_, n', c', rfl, hown, hgw⟩
end Go.Proofs.Ytmldacjpbifoaaa
