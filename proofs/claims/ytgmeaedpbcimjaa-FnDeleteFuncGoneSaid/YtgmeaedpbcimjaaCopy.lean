/-
  What is proved here: the contracts of maps.Copy at maps from whole numbers to whole numbers, and of the thin package's Copy and Clone: the sorted list of the first list's pairs followed by the second list's; the sorted list.
  Conditions: the lists have fewer than 2^43 pairs together.
-/
import Derived.Test.YtgmeaedpbcimjaaToPairs
import Derived.Test.YtgmeaedpbcimjaaClone
import Derived.Lib.SlMapMerge
import Derived.Laws.IdiomRangeMap
namespace Go.Proofs.Ytgmeaedpbcimjaa
open Go.RowKit Go.Maps

set_option maxHeartbeats 4000000 in
set_option maxRecDepth 100000 in
theorem copy_owns {H : Type} (R : Value → Option (DataW H × List MemPlace)) (bd bs nd ns : Nat) (Dd Ds : DataW H) (w : World) (hd : w.ownsMap Try.prog 3 R bd nd Dd) (hs : w.ownsMap Try.prog 3 R bs ns Ds) (hne : bd ≠ bs) (hroom : nd + Maps.size Ds ≤ maxLen) :
    Calls Try.prog 32 #[.map (some bd), .map (some bs)] w fun e w' => e = .returned (.tuple #[]) ∧ w'.ownsMap Try.prog 3 R bd (nd + Maps.size Ds) (Lib.mergeD Dd Ds) ∧ w.grownBy w' (some bd) := by
  have hbd := hd.lt
  have hbs := hs.lt
  go_enter Try.func32, Try.ntmps32
  go_wp2_with (first
    | (at_range; refine wpList_range_own _ rfl _ 42 rfl 3 3 lawI Try.underlying42 R bs ns _ rfl hs ?_; intro w0 hrg0 hg0 hs0)
    | go_in)
  go_frame
  go_loopw [8] (fun _ wr => ∃ (left : Lit → Bool) (cnt : Nat) (Dout : DataW H), wr.ranges Try.prog 3 R bs w.heap.size ns Ds left cnt ∧ cnt ≤ Maps.size Ds ∧
      wr.ownsMap Try.prog 3 R bd (nd + (Maps.size Ds - cnt)) Dout ∧ Merged Dout Dd Ds left ∧ w.grownBy wr (some bd))
    (fun _ wr => wr.rangeLeft bs w.heap.size)
  case atStart =>
    exact ⟨_, _, Dd, hrg0, Nat.le_refl _, (hd.kept hg0 (by simp)).mono (by omega), merged_start Dd Ds, hg0.but _⟩
  case round =>
    obtain ⟨left, cnt, Dout, hrg, hcs, hout, hM, hgw⟩ := hrel
    go_wp2_with (first
      | (at_next; refine wpList_next_ranges _ rfl _ rfl 3 lawI R id id (fun key _ _ => ⟨key, rfl⟩) (fun v _ _ => ⟨v, rfl⟩) bs w.heap.size ns _ _ _ rfl hrg ?_ ?_)
      | go_in)
    · intro hc0 hl0
      go_wp2
      go_end0
      subst hc0
      have e := merged_eq lawI.one hM hl0 (hout.canon lawI) (hd.canonK lawI) (hs.canonK lawI)
      subst e
      exact ⟨rfl, by simpa using hout, hgw⟩
    · intro x c kl yd yp w1 cnt1 hkey hlx hv hat hrg1 hlt hg1 hs1 hen
      have hout1 := hout.kept hg1 (fun e => by have := Option.some.inj e; omega)
      go_wp2_with (first
        | (at_mapUpdate; refine wpList_mapUpdate_own _ rfl _ _ _ 42 rfl 3 3 lawI Try.underlying42 R bd _ _ rfl hout1 (by omega) _ _ _ rfl rfl hkey yd yp hv ?_; intro w2 hout2 hg2; go_frame)
        | go_in)
      have hrg2 := hrg1.kept hg2 (fun e => hne (Option.some.inj e).symm) (fun e => by have := Option.some.inj e; omega)
      go_roundw
      case rel =>
        exact ⟨_, cnt1, _, hrg2, by omega, hout2.mono (by omega), merged_step hM hout.isMap (lawI.key hkey) hat, (hgw.andThen hg1 (fun j hj => .inl (by cases hj; exact Nat.le_refl _))).andThen hg2 (fun j hj => .inr hj)⟩
      case measure => rw [hrg2.left_eq, hrg.left_eq]; exact hlt

set_option maxHeartbeats 400000 in
theorem copy_any (A B : Option Addr) (n c m d : Nat) (xs ys : List (I × I)) (w : World) (hx : Has w 2 A n (cells2 xs)) (hy : Has w 2 B m (cells2 ys)) (hnm : n + m ≤ 8796093022208) :
    Calls Try.prog 15 #[.slice A n c, .slice B m d] w fun e w' => ∃ A' n' c', e = .returned (.slice A' n' c') ∧ OwnP w' w.heap.size A' n' c' (Plain.mapOf (xs ++ ys)) ∧ w.grownBy w' none := by
  have HY := Lib.hid hy
  have hlen : (Plain.mapOf (xs ++ ys)).length ≤ n + m := by have := Plain.length_mapOf_le (xs ++ ys); rw [List.length_append, hx.len2, hy.len2] at this; exact this
  have hly : (Plain.mapOf ys).length ≤ m := by have := Plain.length_mapOf_le ys; rw [hy.len2] at this; exact this
  have HL := Lib.hid (And.intro hlen hly)
  clear hy hlen hly
  go_enter Try.func15, Try.ntmps15
  go_wp2_with fail
  refine (toMap_any A n c xs _ hx (by omega)).mono ?_
  rintro e w1 ⟨rfl, h1, g1⟩
  have H1 := Lib.hid h1
  have hb1 := h1.lt
  clear h1 hx
  go_wp2_with fail
  refine (toMap_any B m d ys _ (HY.out.kept g1) (by omega)).mono ?_
  rintro e w2 ⟨rfl, h2, g2⟩
  have H2 := Lib.hid h2
  clear h2
  go_wp2_with fail
  refine (copy_owns (plainElem Try.prog 3) w.heap.size w1.heap.size n m (dat (Plain.mapOf xs)) (dat (Plain.mapOf ys)) _ (H1.out.kept g2 (by simp)) H2.out (by omega) (by rw [size_dat]; have := HL.out.2; unfold maxLen; omega)).mono ?_
  rintro e w3 ⟨rfl, h3, g3⟩
  rw [merge_dat (Plain.srt_mapOf _), Plain.copy_eq] at h3
  have hG : w.grownBy w3 none := (g1.trans g2).andThen g3 (fun j hj => .inl (by injection hj with e; subst e; exact Nat.le_refl _))
  have H3 := Lib.hid h3
  clear h3 g3 g2 g1
  go_wp2_with fail
  refine (toPairs_any _ _ _ (Plain.srt_mapOf _) _ H3.out (by have := HL.out.1; omega)).mono ?_
  rintro e w4 ⟨A', n', c', rfl, o4, g4⟩
  go_wp2_with fail
  go_ret
  exact ⟨A', n', c', rfl, o4.mono hG.size, hG.trans g4⟩

set_option maxHeartbeats 400000 in
theorem clone_any (A : Option Addr) (n c : Nat) (xs : List (I × I)) (w : World) (hx : Has w 2 A n (cells2 xs)) (hn : n ≤ 8796093022208) :
    Calls Try.prog 21 #[.slice A n c] w fun e w' => ∃ A' n' c', e = .returned (.slice A' n' c') ∧ OwnP w' w.heap.size A' n' c' (Plain.mapOf xs) ∧ w.grownBy w' none := by
  have hlx : (Plain.mapOf xs).length ≤ n := by have := Plain.length_mapOf_le xs; rw [hx.len2] at this; exact this
  have HL := Lib.hid hlx
  clear hlx
  go_enter Try.func21, Try.ntmps21
  go_wp2_with fail
  refine (toMap_any A n c xs _ hx hn).mono ?_
  rintro e w1 ⟨rfl, h1, g1⟩
  have H1 := Lib.hid h1
  clear h1 hx
  go_wp2_with fail
  refine (clone_owns 3 (plainElem Try.prog 3) _ _ _ _ H1.out).mono ?_
  rintro e w2 ⟨rfl, h2, hs2, g2⟩
  have H2 := Lib.hid h2
  clear h2 hs2
  go_wp2_with fail
  refine (toPairs_any _ _ _ (Plain.srt_mapOf _) _ H2.out (by have := HL.out; omega)).mono ?_
  rintro e w4 ⟨A', n', c', rfl, o4, g4⟩
  go_wp2_with fail
  go_ret
  exact ⟨A', n', c', rfl, o4.mono (g1.trans g2).size, (g1.trans g2).trans g4⟩
end Go.Proofs.Ytgmeaedpbcimjaa
