/-
  What is proved here: the contract of toPairs: whatever the order in which a map's entries come, it returns the map's sorted list, in new memory.
  Conditions: the map has fewer than 2^43 entries.
-/
import Derived.Test.YtgmeaedpbcimjaaCopyLaw
import Derived.Test.YtgmeaedpbcimjaaToMap
import Derived.WalkKit
import Derived.IntWalk
import Derived.Lib.Hide
import Derived.WalkSpells
import Derived.WalkLawsBesides
import Derived.Deep.QuietTactic
import Derived.BigQuiet
import Derived.Deep.RegionHeld3
namespace Go.Proofs.Ytgmeaedpbcimjaa
open Go.RowKit Go.Maps

/-- those of a list whose entries are no longer to come -/
def come (l : List (I × I)) (left : Lit → Bool) : List (I × I) := l.filter fun p => !left (.int .i64 p.1.1)

theorem come_start (l : List (I × I)) : come l (Maps.has (dat l)) = [] := by
  refine List.filter_eq_nil_iff.2 fun p hp => ?_
  rw [has_dat, Plain.get_isSome.2 ⟨p, hp, rfl⟩]
  simp

theorem come_end (l : List (I × I)) {left : Lit → Bool} (h : ∀ k, left k = false) : come l left = l :=
  List.filter_eq_self.2 fun p _ => by simp [h]

theorem srt_come {l : List (I × I)} (h : Plain.Srt l) (left : Lit → Bool) : Plain.Srt (come l left) := h.filter _

theorem come_not {l : List (I × I)} {left : Lit → Bool} {k : I} (hk : left (.int .i64 k.1) = true) : ∀ p ∈ come l left, p.1 ≠ k := fun p hp e => by
  have := (List.mem_filter.1 hp).2
  rw [e, hk] at this
  cases this

theorem come_step {l : List (I × I)} (h : Plain.Srt l) {left : Lit → Bool} {k v : I} (hg : Plain.get k l = some v) :
    come l (fun z => left z && !z.sameKey (.int .i64 k.1)) = Plain.put k v (come l left) := by
  refine Plain.ext (srt_come h _) ((srt_come h _).put k v) fun k' => ?_
  rw [Plain.get_put]
  unfold come
  rw [Plain.get_filter h, Plain.get_filter h]
  by_cases e : k = k'
  · subst e
    simp [hg, same_lit]
  · have e' : ¬ k' = k := fun e2 => e e2.symm
    simp [e, same_lit, e']

/-- the entry that has come, put at its place -/
theorem come_put {l : List (I × I)} (h : Plain.Srt l) {left : Lit → Bool} {k v : I} (hk : left (.int .i64 k.1) = true) (hg : Plain.get k l = some v) {j : Nat} (hj : Plain.below k (come l left) = j) (z : I × I) :
    (shifted (come l left ++ [z]) j).set j (k, v) = come l (fun z => left z && !z.sameKey (.int .i64 k.1)) := by
  rw [shifted_snoc _ _ _ (hj ▸ Plain.below_le k _), come_step h hg]
  subst hj
  exact (Plain.put_new fun hlt e => come_not hk _ (List.getElem_mem hlt) e).symm

theorem own_ne_iter {w : World} {base g n c b r m cnt : Nat} {xs : List (I × I)} {D : Dt} {left : Lit → Bool} (ho : OwnP w base (some ⟨g, 0, none⟩) n c xs) (hr : w.ranges Try.prog 3 (plainElem Try.prog 3) b r m D left cnt) : g ≠ r := by
  rintro rfl
  obtain ⟨es, clock, since, seen, c0, _, _, _, _, h2, _⟩ := hr
  rcases ho.2.2 with ⟨hv, _⟩ | ⟨g', cap, cur, hv, _, hh, _⟩
  · injection hv with hA
    cases hA
  · injection hv with hA
    cases hA
    rw [h2] at hh
    cases hh

theorem ranges_drew {w : World} {k : TypeId} {R : Value → Option (Dt × List MemPlace)} {b r m cnt : Nat} {D : Dt} {left : Lit → Bool} (h : w.ranges Try.prog k R b r m D left cnt) : w.drew.ranges Try.prog k R b r m D left cnt := h
theorem own_row {w : World} {base g n c b : Nat} {xs : List (I × I)} (ho : OwnP w base (some ⟨g, 0, none⟩) n c xs) (hb : b < base) : some b ≠ (Value.slice (some ⟨g, 0, none⟩) n c).ownBlock := fun e => by
  have := (ho.2.lt b e.symm).1
  omega
theorem own_row_r {w : World} {base g n c b r m cnt : Nat} {xs : List (I × I)} {D : Dt} {left : Lit → Bool} (ho : OwnP w base (some ⟨g, 0, none⟩) n c xs) (hr : w.ranges Try.prog 3 (plainElem Try.prog 3) b r m D left cnt) : some r ≠ (Value.slice (some ⟨g, 0, none⟩) n c).ownBlock := fun e => by
  have e' : r = g := by simpa [Value.ownBlock] using e
  exact own_ne_iter ho hr e'.symm

set_option maxRecDepth 100000 in
set_option maxHeartbeats 8000000 in
theorem toPairs_any (b m : Nat) (l : List (I × I)) (hl : Plain.Srt l) (w : World) (h : Map w b m l) (hm : l.length ≤ 8796093022208) :
    Calls Try.prog 33 #[.map (some b)] w fun e w' => ∃ A' n' c', e = .returned (.slice A' n' c') ∧ OwnP w' w.heap.size A' n' c' l ∧ w.grownBy w' none := by
  have hb := h.lt
  have HL := Lib.hid hl
  clear hl
  go_enter Try.func33, Try.ntmps33
  go_wp2_with (first
    | (at_range; refine wpList_range_own _ rfl _ 42 rfl 3 3 lawI Try.underlying42 (plainElem Try.prog 3) b m _ rfl (h.alloc _) ?_; intro w0 hrg0 hg0 hs0)
    | go_in)
  go_frame
  have hr : w.heap.size ≤ (w.alloc (.cells #[] 30)).heap.size := by simp
  have hgw0 : w.grownBy w0 none := (World.grownBy_alloc w _ none).trans hg0
  have ho0 : OwnP w0 w.heap.size (some ⟨w.heap.size, 0, none⟩) 0 0 [] := (Own.made w (Nat.le_refl _)).keptN hg0
  generalize (w.alloc (.cells #[] 30)).heap.size = r at hrg0 hs0 hr ⊢
  clear h hg0
  have HM := Lib.hid hm
  clear hm
  go_loopw [3] (fun v wr => ∃ (left : Lit → Bool) (cnt g n' c' : Nat), v = .slice (some ⟨g, 0, none⟩) n' c' ∧ wr.ranges Try.prog 3 (plainElem Try.prog 3) b r m (dat l) left cnt ∧
      OwnP wr w.heap.size (some ⟨g, 0, none⟩) n' c' (come l left) ∧ w.grownBy wr none)
    (fun _ wr => wr.rangeLeft b r)
  case atStart => exact ⟨_, _, _, _, _, rfl, hrg0, by rw [come_start]; exact ho0, hgw0⟩
  case round =>
    clear hrg0 ho0 hgw0 hs0
    obtain ⟨left, cnt, g, n', c', rfl, hrg, hown, hgw⟩ := hrel
    go_wp2_with (first
      | (at_next; refine wpList_next_ranges_ii _ rfl _ rfl 3 3 .i64 .i64 lawI Try.underlying3 Try.underlying3 b r m _ _ _ rfl hrg ?_ ?_)
      | go_in)
    · intro _ hl0
      go_wp2
      go_ret
      rw [come_end l hl0] at hown
      exact ⟨_, n', c', rfl, hown, hgw⟩
    · intro x c w1 cnt1 hwx hwc hlx hat hrg1 hlt hg1 hs1 hen
      obtain ⟨v, hv, hget⟩ := get_of_at (k := ⟨x, hwx⟩) hat
      subst hv
      have hne := own_ne_iter hown hrg
      have hown1 := hown.kept hg1 (fun g' e => by cases e; simpa using hne)
      have hgw1 : w.grownBy w1 none := hgw.andThen hg1 (fun j hj => .inl (by cases hj; exact hr))
      have hn' : n' < 8796093022208 := by
        have e1 := hown.len
        have e2 : (come l (fun z => left z && !z.sameKey (.int .i64 x))).length ≤ l.length := List.length_filter_le _ _
        have e3 := congrArg List.length (come_put HL.out hlx hget rfl (⟨x, hwx⟩, v))
        rw [List.length_set, length_shifted _ _ (by simp; exact Plain.below_le _ _)] at e3
        simp only [List.length_append, List.length_singleton] at e3
        have := HM.out
        omega
      have HP := Lib.hid (fun j hj => come_put (j := j) HL.out hlx hget hj)
      have HLT := Lib.hid hlt
      have HRG := Lib.hid hrg1
      have HR0 := Lib.hid hrg.left_eq
      generalize hL : come l left = L at hown1 HP
      clear hL hown hrg hgw hat hrg1 hlt hget hg1 hs1 hne
      go_wp2
      go_loop [6] (fun t => ∃ j : Nat, t = .int .i64 j ∧ j ≤ n' ∧ Hid (∀ t (ht : t < L.length), t < j → (L[t]).1.1 < x)) (fun t => n' - (intOf t).toNat)
      case atStart => exact ⟨0, rfl, Nat.zero_le _, fun t _ h => absurd h (by omega)⟩
      case round =>
        obtain ⟨j, rfl, hj, hless⟩ := hrel
        by_cases hjl : j < n'
        · have hjL : j < L.length := by have := hown1.len; omega
          obtain ⟨g', hgg, hgb, hg, e1, e2, f1, f2⟩ := hown1.at_ hjL
          cases hgg
          obtain ⟨q, hq⟩ : ∃ p, p = L[j] := ⟨_, rfl⟩
          rw [← hq] at e1 e2
          simp only [twoI] at e1 e2
          have HQ := Lib.hid hq
          clear hq
          by_cases hkl : q.1.1 < x
          · go_wp2
            go_round
            case rel =>
              refine ⟨j + 1, by go_num, by omega, fun t ht htj => ?_⟩
              by_cases ht' : t < j
              · exact hless.out t ht ht'
              · obtain rfl : t = j := by omega
                rw [← HQ.out]; exact hkl
            case measure => simp [intOf]; omega
          · have HPL := Lib.hid (HP.out j (Plain.below_of (k := ⟨x, hwx⟩) (by omega) hless.out (fun h => by rw [← HQ.out]; exact hkl)))
            clear HP e2 f1 f2
            go_wp2_with (first
              | (at_builtin; refine wpList_appG (xs := L) (ys := [zeroP]) twoP oneP w _ rfl (.tmp 30) (.tmp 32) rfl rfl (galloc hgw1 _) (hown1.alloc _) rfl (hasZero w1) (by unfold maxLen; omega) (by omega) ?_; intro A2 c2 w2 o2 G2 g2))
            obtain ⟨g2', rfl⟩ := o2.some_ (by omega)
            have hrg2 := (HRG.out.alloc _).kept g2 (own_row hown1 hb) (own_row_r hown1 HRG.out)
            have o2l : j + 1 ≤ n' + 1 := by omega
            have hcap := o2.cap
            have i1 : (0 : Int) ≤ (j : Int) := by omega
            have i2 : (0 : Int) ≤ (j : Int) + 1 := by omega
            have i3 : (j : Int) + 1 ≤ (n' : Int) + 1 := by omega
            have i4 : (n' : Int) + 1 ≤ (c2 : Int) := by omega
            have i5 : IntKind.i64.wrap ((j : Int) + 1) = (j : Int) + 1 := IntWalk.i64_in _ (by omega)
            have i6 : ((j : Int) + 1).toNat = j + 1 := by omega
            have i7 : (j : Int) ≤ (n' : Int) + 1 := by omega
            clear HRG hown1 g2
            go_region_held3 (fun _ => True) (trivial) (first | (refine step_shift (xs := L ++ [zeroP]) (i := j) twoP oneP w _ (by rfl) (.tmp 37) (.tmp 40) (by rfl) (by rfl) (by rfl) o2.drew o2l (by omega) (by omega) (fun _ => by first | rfl | (rw [if_neg (by omega)])) (fun _ => by first | rfl | (rw [if_neg (by omega)])) ?_; intro w3 o3 g3))
            have hj3 : j < (shifted (L ++ [zeroP]) j).length := by have := o3.len; omega
            obtain ⟨g4, hg4, hgb4, hlt4, d1, d2, f3, f4⟩ := o3.at_ hj3
            cases hg4
            simp only [twoI] at d1 d2
            have hs := o3.store hj3 (⟨x, hwx⟩, v)
            have hrg3 := (ranges_drew hrg2).kept g3 (by simp; omega) (by simpa using (own_ne_iter o2 hrg2).symm)
            have hrg4 := hrg3.kept hs.2 (by simp; omega) (by simpa using (own_ne_iter o3 hrg3).symm)
            have hG4 := ((gdrew G2).andThen (row := none) g3 (fun t ht => .inl (by injection ht with e; subst e; exact hgb4))).andThen (row := none) hs.2 (fun t ht => .inl (by injection ht with e; subst e; exact hgb4))
            have HF := Lib.hid (And.intro hs.1 (And.intro hrg4 hG4))
            clear hs hrg3 hrg4 hG4 hrg2 o2 G2 g3 o3 hen
            go_wp2
            go_roundw
            case rel => exact ⟨_, cnt1, g2', n' + 1, c2, rfl, HF.out.2.1, by rw [← HPL.out zeroP]; exact HF.out.1, HF.out.2.2⟩
            case measure => rw [HR0.out]; exact Nat.lt_of_le_of_lt (Nat.le_of_eq HF.out.2.1.left_eq) HLT.out
        · have HPL := Lib.hid (HP.out j (Plain.below_of (k := ⟨x, hwx⟩) (by have := hown1.len; omega) hless.out (fun h => absurd h (by have := hown1.len; omega))))
          clear HP
          go_wp2_with (first
            | (at_builtin; refine wpList_appG (xs := L) (ys := [zeroP]) twoP oneP w _ rfl (.tmp 30) (.tmp 32) rfl rfl (galloc hgw1 _) (hown1.alloc _) rfl (hasZero w1) (by unfold maxLen; omega) (by omega) ?_; intro A2 c2 w2 o2 G2 g2))
          obtain ⟨g2', rfl⟩ := o2.some_ (by omega)
          have hrg2 := (HRG.out.alloc _).kept g2 (own_row hown1 hb) (own_row_r hown1 HRG.out)
          have o2l : j + 1 ≤ n' + 1 := by omega
          have hcap := o2.cap
          have i1 : (0 : Int) ≤ (j : Int) := by omega
          have i2 : (0 : Int) ≤ (j : Int) + 1 := by omega
          have i3 : (j : Int) + 1 ≤ (n' : Int) + 1 := by omega
          have i4 : (n' : Int) + 1 ≤ (c2 : Int) := by omega
          have i5 : IntKind.i64.wrap ((j : Int) + 1) = (j : Int) + 1 := IntWalk.i64_in _ (by omega)
          have i6 : ((j : Int) + 1).toNat = j + 1 := by omega
          have i7 : (j : Int) ≤ (n' : Int) + 1 := by omega
          clear HRG hown1 g2
          go_region_held3 (fun _ => True) (trivial) (first | (refine step_shift (xs := L ++ [zeroP]) (i := j) twoP oneP w _ (by rfl) (.tmp 37) (.tmp 40) (by rfl) (by rfl) (by rfl) o2.drew o2l (by omega) (by omega) (fun _ => by first | rfl | (rw [if_neg (by omega)])) (fun _ => by first | rfl | (rw [if_neg (by omega)])) ?_; intro w3 o3 g3))
          have hj3 : j < (shifted (L ++ [zeroP]) j).length := by have := o3.len; omega
          obtain ⟨g4, hg4, hgb4, hlt4, d1, d2, f3, f4⟩ := o3.at_ hj3
          cases hg4
          simp only [twoI] at d1 d2
          have hs := o3.store hj3 (⟨x, hwx⟩, v)
          have hrg3 := (ranges_drew hrg2).kept g3 (by simp; omega) (by simpa using (own_ne_iter o2 hrg2).symm)
          have hrg4 := hrg3.kept hs.2 (by simp; omega) (by simpa using (own_ne_iter o3 hrg3).symm)
          have hG4 := ((gdrew G2).andThen (row := none) g3 (fun t ht => .inl (by injection ht with e; subst e; exact hgb4))).andThen (row := none) hs.2 (fun t ht => .inl (by injection ht with e; subst e; exact hgb4))
          have HF := Lib.hid (And.intro hs.1 (And.intro hrg4 hG4))
          clear hs hrg3 hrg4 hG4 hrg2 o2 G2 g3 o3 hen
          go_wp2
          go_roundw
          case rel => exact ⟨_, cnt1, g2', n' + 1, c2, rfl, HF.out.2.1, by rw [← HPL.out zeroP]; exact HF.out.1, HF.out.2.2⟩
          case measure => rw [HR0.out]; exact Nat.lt_of_le_of_lt (Nat.le_of_eq HF.out.2.1.left_eq) HLT.out
end Go.Proofs.Ytgmeaedpbcimjaa
