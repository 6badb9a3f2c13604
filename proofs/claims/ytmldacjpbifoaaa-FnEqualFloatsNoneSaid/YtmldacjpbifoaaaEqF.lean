/-
  What is proved here: the contract of maps.Equal at maps from whole numbers to floating-point numbers: it tells whether two maps have as many entries, and at each key of the first one the second one has an equal element.
  Conditions: both maps are owned as data; what the language's own inequality says of the elements is named.
-/
import Derived.Test.YtmldacjpbifoaaaRows
import Derived.Test.YtmldacjpbifoaaaData
import Derived.WalkKit
import Derived.Lib.SlMapEqual
import Derived.Maps.Ext
import Derived.Maps.RangeWalk
import Derived.Maps.OwnSet
import Derived.Laws.IdiomRangeMap
import Derived.Lib.Hide
namespace Go.Proofs.Ytmldacjpbifoaaa
open Go.RowKit Go.Maps

set_option maxHeartbeats 4000000 in
set_option maxRecDepth 100000 in
theorem equalF_owns {H : Type} (K : Keyed Try.prog 3) (R : Value → Option (DataW H × List MemPlace)) (eqd : DataW H → DataW H → Bool) (b1 b2 n1 n2 : Nat) (D1 D2 : DataW H) (w : World)
    (h1 : w.ownsMap Try.prog 3 R b1 n1 D1) (h2 : w.ownsMap Try.prog 3 R b2 n2 D2)
    (z2 : Value) (hz2 : ∀ w, (zeroValue 32).run Try.prog w = .ok z2 w) (zd : DataW H) (zp : List MemPlace) (hzd : R z2 = some (zd, zp))
    (hneq : ∀ (W : World) (x y : Value) (xd yd : DataW H) (xp yp : List MemPlace), R x = some (xd, xp) → R y = some (yd, yp) → (binOp .neq 32 x y).run Try.prog W = .ok (.bool (!eqd xd yd)) W ∧ ∀ (a b : Operand), (eqGuard .neq 32 a b x y).run Try.prog W = .ok () W) :
    Calls Try.prog 23 #[.map (some b1), .map (some b2)] w fun e w' => e = .returned (.bool (Lib.equalFuncD eqd D1 D2)) ∧ w.grownBy w' none := by
  have l1 := fun ty => h1.len (t := 53) Try.underlying53 ty
  have l2 := fun ty => h2.len (t := 53) Try.underlying53 ty
  obtain ⟨es1, rfl, hap, hkeys⟩ := h1.entries K
  have hb2 := h2.lt
  have HQ := Lib.hid hneq
  clear hneq
  generalize hres : Lib.equalFuncD eqd (.map es1) D2 = res
  have RES := Lib.hid hres
  clear hres
  by_cases hsz : Maps.size (.map es1 : DataW H) = Maps.size D2
  · go_enter Try.func23, Try.ntmps23
    go_wp2_with (first
      | (at_range; refine wpList_range_own _ rfl _ 53 rfl 3 32 K Try.underlying53 R b1 n1 _ rfl h1 ?_; intro w0 hrg0 hg0 hs0)
      | go_in)
    go_frame
    go_loopw [18] (fun _ wr => ∃ (left : Lit → Bool) (cnt : Nat), wr.ranges Try.prog 3 R b1 w.heap.size n1 (.map es1) left cnt ∧ wr.ownsMap Try.prog 3 R b2 n2 D2 ∧ w.grownBy wr none ∧ Hid (GoodAt eqd es1 D2 left))
      (fun _ wr => wr.rangeLeft b1 w.heap.size)
    case atStart => exact ⟨_, _, hrg0, h2.kept hg0 (by simp), hg0, good_start hkeys D2⟩
    case round =>
      obtain ⟨left, cnt, hrg, h2r, hgw, G⟩ := hrel
      go_wp2_with (first
        | (at_next; refine wpList_next_ranges _ rfl _ rfl 3 K R id id (fun key _ _ => ⟨key, rfl⟩) (fun v _ _ => ⟨v, rfl⟩) b1 w.heap.size n1 _ _ _ rfl hrg ?_ ?_)
        | go_in)
      · intro _ hl0
        go_wp2
        go_ret
        exact ⟨by rw [← RES.out, all_good G.out hl0 hsz]; rfl, hgw⟩
      · intro x c kl yd yp w1 cnt1 hkey hlx hv hat hrg1 hlt hg1 hs1 hen
        have hgw1 : w.grownBy w1 none := hgw.andThen hg1 (fun j hj => by cases hj; exact Or.inl (Nat.le_refl _))
        have h2w1 := h2r.kept hg1 (fun e => by have := Option.some.inj e; omega)
        have HAT : Hid (∀ zd, (DataW.map es1).atKey kl zd = yd) := hat
        clear hat
        cases hh : Maps.has D2 kl
        · have hbad : Lib.goodD eqd D2 (kl, yd) = false := by unfold Lib.goodD; rw [hh]; rfl
          go_wp2_with (first
            | (at_lookup; refine wpList_lookup_own_ok _ rfl _ _ 53 rfl 3 32 K Try.underlying53 R (hz2 _) zd zp hzd b2 n2 D2 rfl h2w1 _ kl rfl hkey ?_; intro v2 ps2 hv2; rw [hh]; go_frame)
            | go_in)
          go_ret
          exact ⟨by rw [← RES.out, bad_false hap hkeys HAT.out hbad]; rfl, hgw1⟩
        · cases he : eqd yd (D2.atKey kl zd)
          · have hbad : Lib.goodD eqd D2 (kl, yd) = false := by unfold Lib.goodD; rw [hh, atKey_indep hh .nil zd, he]; rfl
            go_wp2_with (first
              | (at_lookup; refine wpList_lookup_own_ok _ rfl _ _ 53 rfl 3 32 K Try.underlying53 R (hz2 _) zd zp hzd b2 n2 D2 rfl h2w1 _ kl rfl hkey ?_; intro v2 ps2 hv2; rw [hh]; go_frame; have hc := fun W => (HQ.out W c v2 yd _ yp ps2 hv hv2).1; have hgd := fun W => (HQ.out W c v2 yd _ yp ps2 hv hv2).2; rw [he] at hc)
              | go_in)
            go_ret
            exact ⟨by rw [← RES.out, bad_false hap hkeys HAT.out hbad]; rfl, hgw1⟩
          · have hgood : Lib.goodD eqd D2 (kl, yd) = true := by unfold Lib.goodD; rw [hh, atKey_indep hh .nil zd, he]; rfl
            go_wp2_with (first
              | (at_lookup; refine wpList_lookup_own_ok _ rfl _ _ 53 rfl 3 32 K Try.underlying53 R (hz2 _) zd zp hzd b2 n2 D2 rfl h2w1 _ kl rfl hkey ?_; intro v2 ps2 hv2; rw [hh]; go_frame; have hc := fun W => (HQ.out W c v2 yd _ yp ps2 hv hv2).1; have hgd := fun W => (HQ.out W c v2 yd _ yp ps2 hv hv2).2; rw [he] at hc)
              | go_in)
            go_roundw
            case rel => exact ⟨_, cnt1, hrg1, h2w1, hgw1, good_step hap hkeys HAT.out G.out hgood⟩
            case measure => rw [hrg1.left_eq, hrg.left_eq]; exact hlt
  · have hne : ¬ ((Maps.size (.map es1 : DataW H) : Int) = (Maps.size D2 : Int)) := fun e => hsz (by exact_mod_cast e)
    go_enter Try.func23, Try.ntmps23
    go_wp2
    go_ret
    exact ⟨by rw [← RES.out, sizes_false hsz]; rfl, World.grownBy.refl _ _⟩
end Go.Proofs.Ytmldacjpbifoaaa
