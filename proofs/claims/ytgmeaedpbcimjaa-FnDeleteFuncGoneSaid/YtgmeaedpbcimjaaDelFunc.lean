/-
  What is proved here: the contracts of maps.DeleteFunc at maps from whole numbers to whole numbers, and of the thin package's DeleteFunc: the pairs of the sorted list that are not to be dropped.
  Conditions: each list has fewer than 2^43 pairs.
-/
import Derived.Test.YtgmeaedpbcimjaaToSet
import Derived.Test.YtgmeaedpbcimjaaToPairs
import Derived.Lib.SlMapFilter
import Derived.Maps.Ext
import Derived.Maps.RangeWalk
import Derived.Laws.IdiomRangeMap
import Derived.Deep.LoopGhost
import Derived.Shelf.SlMaps.DeleteFunc
namespace Go.Proofs.Ytgmeaedpbcimjaa
open Go.RowKit Go.Maps

/-- what the closure says of a key and an element, on data -/
def dropD (rs : List (I × I)) : Lit → Dt → Bool
  | .int _ x, .lit (.int _ y) => rs.any fun p => (p.1.1 == x) && (p.2.1 == y)
  | _, _ => false

theorem dropD_mem (rs : List (I × I)) (a b : I) : dropD rs (.int .i64 a.1) (.lit (.int .i64 b.1)) = decide ((a, b) ∈ rs) := by
  rw [Bool.eq_iff_iff]
  simp only [dropD, List.any_eq_true, Bool.and_eq_true, beq_iff_eq, decide_eq_true_eq]
  constructor
  · rintro ⟨p, hp, h1, h2⟩
    rw [show (a, b) = p from Prod.ext (Subtype.ext h1.symm) (Subtype.ext h2.symm)]
    exact hp
  · intro h
    exact ⟨_, h, rfl, rfl⟩

/-- those of a list that are not to be dropped -/
def left_of (l rs : List (I × I)) : List (I × I) := l.filter fun p => !decide (p ∈ rs)

theorem delete_dat (l rs : List (I × I)) : Lib.deleteFuncD (dropD rs) (dat l) = dat (left_of l rs) := by
  show DataW.map ((l.map ent).filter fun p => !dropD rs p.1 p.2) = DataW.map ((l.filter fun p => !decide (p ∈ rs)).map ent)
  rw [List.filter_map]
  congr 2
  refine List.filter_congr fun p _ => ?_
  simp only [Function.comp, ent]
  rw [dropD_mem rs p.1 p.2]

theorem srt_left {l : List (I × I)} (h : Plain.Srt l) (rs : List (I × I)) : Plain.Srt (left_of l rs) := h.filter _

set_option maxHeartbeats 4000000 in
set_option maxRecDepth 100000 in
theorem deleteFuncI_owns {H : Type} (K : Keyed Try.prog 3) (R : Value → Option (DataW H × List MemPlace)) (pd : Lit → DataW H → Bool) (g : Nat) (cb : Array Value) (b n : Nat) (D : DataW H) (w : World)
    (eg : ∀ args w, (callFunc g args).run Try.prog w = .ok (.enter g args) w) (hown : w.ownsMap Try.prog 3 R b n D)
    (hdel : ∀ (W : World) (key val : Value) (kl : Lit) (yd : DataW H) (yp : List MemPlace), w.grownBy W (some b) → keyOf Try.prog 3 key = some kl → R val = some (yd, yp) →
      Calls Try.prog g (#[key, val] ++ cb) W fun e w' => e = .returned (.bool (pd kl yd)) ∧ W.grownBy w' none) :
    Calls Try.prog 38 #[.map (some b), .func (.func g) #[] cb] w fun e w' => e = .returned (.tuple #[]) ∧ w'.ownsMap Try.prog 3 R b n (Lib.deleteFuncD pd D) ∧ w.grownBy w' (some b) := by
  obtain ⟨es0, rfl, hap, hkeys⟩ := hown.entries K
  have HD := Lib.hid hdel
  clear hdel
  go_enter Try.func38, Try.ntmps38
  go_wp2_with (first
    | (at_range; refine wpList_range_own _ rfl _ 42 rfl 3 3 K Try.underlying42 R b n _ rfl hown ?_; intro w0 hrg0 hg0 hs0)
    | go_in)
  go_frame
  go_loopw [8] (fun _ wr => ∃ (left : Lit → Bool) (cnt : Nat), wr.ranges Try.prog 3 R b w.heap.size n (Fk pd es0 left) left cnt ∧ w.grownBy wr (some b))
    (fun _ wr => wr.rangeLeft b w.heap.size)
  case atStart => exact ⟨_, _, by rw [Fk_start hkeys]; exact hrg0, hg0.but _⟩
  case round =>
    obtain ⟨left, cnt, hrg, hgw⟩ := hrel
    go_wp2_with (first
      | (at_next; refine wpList_next_ranges _ rfl _ rfl 3 K R id id (fun key _ _ => ⟨key, rfl⟩) (fun v _ _ => ⟨v, rfl⟩) b w.heap.size n _ _ _ rfl hrg ?_ ?_)
      | go_in)
    · intro _ hl0
      go_wp2
      go_end0
      exact ⟨rfl, by rw [← Fk_end hl0]; exact hrg.owns, hgw⟩
    · intro x c kl yd yp w1 cnt1 hkey hlx hv hat hrg1 hlt hg1 hs1 hen
      have hgw1 := hgw.andThen hg1 (fun j hj => by cases hj; exact Or.inl (Nat.le_refl _))
      have hc := HD.out w1 x c kl yd yp hgw1 hkey hv
      have hbl := hrg1.owns.lt
      have hrl := hrg1.lt
      cases hp : pd kl yd <;> rw [hp] at hc
      · go_wp2_with (first
          | (go_at_fn g; refine hc.mono ?_; rintro e w2 ⟨rfl, hg2⟩)
          | go_in)
        have hrg2 := hrg1.kept hg2 (by simp) (by simp)
        go_roundw
        case rel => exact ⟨_, cnt1, by rw [← Fk_stays hap (K.key hkey) hlx hp hat]; exact hrg2, hgw1.andThen hg2 (fun j hj => by cases hj)⟩
        case measure => rw [hrg2.left_eq, hrg.left_eq]; exact hlt
      · go_wp2_with (first
          | (go_at_fn g; refine hc.mono ?_; rintro e w2 ⟨rfl, hg2⟩; have hrg2 := hrg1.kept hg2 (by simp) (by simp))
          | (at_delete; refine wpList_delete_ranges _ rfl _ _ 42 3 rfl 3 K Try.underlying42 R b w.heap.size n _ _ _ rfl hrg2 _ _ rfl hkey ?_; intro w3 cnt3 hrg3 hle hturn; go_frame)
          | go_in)
        rw [strike_twice] at hrg3
        go_roundw
        case rel => exact ⟨_, cnt3, by rw [← Fk_struck hap (K.key hkey) hlx hp hat]; exact hrg3, (hgw1.andThen hg2 (fun j hj => by cases hj)).andThen hturn.grown (fun j hj => by cases hj; exact Or.inr rfl)⟩
        case measure => rw [hrg3.left_eq, hrg.left_eq]; omega

set_option maxHeartbeats 400000 in
/-- the closure: whether the pair of its arguments is in the set that it has captured -/
theorem closureDel (a b : I) (bx bs n : Nat) (rs : List (I × I)) (W : World) (hc : W.cell? ⟨bx, 0, none⟩ = some (.map (some bs))) (hs : SetP W bs n rs) :
    Calls Try.prog 39 (#[.int .i64 a.1, .int .i64 b.1] ++ #[.pointer (some ⟨bx, 0, none⟩)]) W fun e w' => e = .returned (.bool (decide ((a, b) ∈ rs))) ∧ W.grownBy w' none := by
  have hl := set_look hs (a, b)
  unfold aggP at hl
  generalize decide ((a, b) ∈ rs) = r at hl
  clear hs
  go_enter Try.func39, Try.ntmps39
  go_wp2
  go_ret
  exact ⟨rfl, World.grownBy.refl _ _⟩

set_option maxHeartbeats 1000000 in
set_option maxRecDepth 100000 in
theorem deleteFunc_any (A B : Option Addr) (n c m d : Nat) (xs rs : List (I × I)) (w : World) (hx : Has w 2 A n (cells2 xs)) (hr : Has w 2 B m (cells2 rs)) (hn : n ≤ 8796093022208) (hm : m ≤ 8796093022208) :
    Calls Try.prog 20 #[.slice A n c, .slice B m d] w fun e w' => ∃ A' n' c', e = .returned (.slice A' n' c') ∧ OwnP w' w.heap.size A' n' c' (left_of (Plain.mapOf xs) rs) ∧ w.grownBy w' none := by
  have HR := Lib.hid hr
  have hlx : (left_of (Plain.mapOf xs) rs).length ≤ n := by
    have h1 : (left_of (Plain.mapOf xs) rs).length ≤ (Plain.mapOf xs).length := List.length_filter_le _ _
    have h2 := Plain.length_mapOf_le xs
    rw [hx.len2] at h2
    omega
  have HL := Lib.hid hlx
  clear hr hlx
  go_enter Try.func20, Try.ntmps20
  go_wp2_with fail
  refine (toMap_any A n c xs _ hx hn).mono ?_
  rintro e w1 ⟨rfl, h1, g1⟩
  have hb1 := h1.lt
  have H1 := Lib.hid h1
  clear h1 hx
  go_wp2_with fail
  refine (toSet_any B m d rs _ (HR.out.kept g1) hm).mono ?_
  rintro e w2 ⟨rfl, h2, g2⟩
  have H2 := Lib.hid (And.intro h2 (H1.out.kept g2 (by simp)))
  have G2 := g1.trans g2
  have hb2 := g2.size
  clear h2 H1 g1
  go_wp2_with fail
  have c3 : (w2.alloc (.cells #[.map (some w1.heap.size)] 47)).cell? ⟨w2.heap.size, 0, none⟩ = some (.map (some w1.heap.size)) := by simp
  have g3 := World.grownBy_alloc w2 (.cells #[.map (some w1.heap.size)] 47) none
  have eg : ∀ args w, (callFunc 39 args).run Try.prog w = .ok (.enter 39 args) w := enters_of Try.func39 (by kernel_rfl) rfl
  have hcon := deleteFuncI_owns lawI (plainElem Try.prog 3) (dropD rs) 39 #[.pointer (some ⟨w2.heap.size, 0, none⟩)] w.heap.size n (dat (Plain.mapOf xs)) (w2.alloc (.cells #[.map (some w1.heap.size)] 47)) eg (H2.out.2.kept g3 (by simp))
    (fun W key val kl yd yp hgW hk hv => by
      obtain ⟨a, rfl, rfl, wa⟩ := Maps.keyOf_int_inv Try.underlying3 hk
      obtain ⟨b, rfl, e2, wb⟩ := plainElem_int_inv Try.underlying3 hv
      obtain rfl : yd = .lit (.int .i64 b) := by simpa using (congrArg Prod.fst e2)
      refine (closureDel ⟨a, wa⟩ ⟨b, wb⟩ w2.heap.size w1.heap.size m rs W (hgW.cell c3 (by simp; omega)) ((H2.out.1.kept g3 (by simp)).kept hgW (by simp; omega))).mono fun e w' ⟨he, hg⟩ => ⟨?_, hg⟩
      rw [he, ← dropD_mem])
  rw [delete_dat] at hcon
  refine (hcon).mono ?_
  rintro e w4 ⟨rfl, h4, g4⟩
  have G4 : w.grownBy w4 none := (G2.trans g3).andThen g4 (fun j hj => .inl (by injection hj with e; subst e; exact Nat.le_refl _))
  have H4 := Lib.hid h4
  clear h4 g4 hcon c3 g3 H2 G2 g2
  go_wp2_with fail
  refine (toPairs_any _ _ _ (srt_left (Plain.srt_mapOf _) rs) _ H4.out (by have := HL.out; omega)).mono ?_
  rintro e w5 ⟨A', n', c', rfl, o5, g5⟩
  go_wp2_with fail
  go_ret
  exact ⟨A', n', c', rfl, o5.mono G4.size, G4.trans g5⟩
end Go.Proofs.Ytgmeaedpbcimjaa
