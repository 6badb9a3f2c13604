/-
  What is proved here: the contracts of maps.EqualFunc at maps from whole numbers to whole numbers, and of the thin package's EqualFunc: whether two maps have the same keys with related values.
  Conditions: each list has fewer than 2^43 pairs.
-/
import Derived.Test.YtgmeaedpbcimjaaToSet
import Derived.Lib.SlMapEqual
import Derived.Maps.Ext
import Derived.Maps.RangeWalk
import Derived.Maps.OwnSet
import Derived.Laws.IdiomRangeMap
import Derived.Deep.LoopGhost
import Derived.Shelf.SlMaps.Equal
namespace Go.Proofs.Ytgmeaedpbcimjaa
open Go.RowKit Go.Maps

/-- whether a pair is on a list, said of numbers -/
def inR (rs : List (I × I)) (x y : Int) : Bool := rs.any fun p => (p.1.1 == x) && (p.2.1 == y)
theorem inR_mem (rs : List (I × I)) (a b : I) : inR rs a.1 b.1 = decide ((a, b) ∈ rs) := by
  rw [Bool.eq_iff_iff]
  simp only [inR, List.any_eq_true, Bool.and_eq_true, beq_iff_eq, decide_eq_true_eq]
  constructor
  · rintro ⟨p, hp, h1, h2⟩
    rw [show (a, b) = p from Prod.ext (Subtype.ext h1.symm) (Subtype.ext h2.symm)]
    exact hp
  · intro h
    exact ⟨_, h, rfl, rfl⟩
theorem galloc0 {w w' : World} {row : Option Nat} (h : w.grownBy w' row) (o : Obj) : w.grownBy (w'.alloc o) row := h.trans (World.grownBy_alloc _ _ _)

set_option maxHeartbeats 4000000 in
set_option maxRecDepth 100000 in
theorem equalFuncI_owns {H : Type} (K : Keyed Try.prog 3) (R : Value → Option (DataW H × List MemPlace)) (eqd : DataW H → DataW H → Bool) (g : Nat) (cb : Array Value) (b1 b2 n1 n2 : Nat) (D1 D2 : DataW H) (w : World)
    (eg : ∀ args w, (callFunc g args).run Try.prog w = .ok (.enter g args) w) (h1 : w.ownsMap Try.prog 3 R b1 n1 D1) (h2 : w.ownsMap Try.prog 3 R b2 n2 D2)
    (z2 : Value) (hz2 : ∀ w, (zeroValue 3).run Try.prog w = .ok z2 w) (zd : DataW H) (zp : List MemPlace) (hzd : R z2 = some (zd, zp))
    (heq : ∀ (W : World) (x y : Value) (xd yd : DataW H) (xp yp : List MemPlace), w.grownBy W none → R x = some (xd, xp) → R y = some (yd, yp) →
      Calls Try.prog g (#[x, y] ++ cb) W fun e w' => e = .returned (.bool (eqd xd yd)) ∧ W.grownBy w' none) :
    Calls Try.prog 41 #[.map (some b1), .map (some b2), .func (.func g) #[] cb] w fun e w' => e = .returned (.bool (Lib.equalFuncD eqd D1 D2)) ∧ w.grownBy w' none := by
  have l1 := fun ty => h1.len (t := 42) Try.underlying42 ty
  have l2 := fun ty => h2.len (t := 42) Try.underlying42 ty
  obtain ⟨es1, rfl, hap, hkeys⟩ := h1.entries K
  have hb2 := h2.lt
  have HQ := Lib.hid heq
  clear heq
  generalize hres : Lib.equalFuncD eqd (.map es1) D2 = res
  have RES := Lib.hid hres
  clear hres
  by_cases hsz : Maps.size (.map es1 : DataW H) = Maps.size D2
  · go_enter Try.func41, Try.ntmps41
    go_wp2_with (first
      | (at_range; refine wpList_range_own _ rfl _ 42 rfl 3 3 K Try.underlying42 R b1 n1 _ rfl h1 ?_; intro w0 hrg0 hg0 hs0)
      | go_in)
    go_frame
    go_loopw [18] (fun _ wr => ∃ (left : Lit → Bool) (cnt : Nat), wr.ranges Try.prog 3 R b1 w.heap.size n1 (.map es1) left cnt ∧ wr.ownsMap Try.prog 3 R b2 n2 D2 ∧ w.grownBy wr none ∧ Hid (GoodAt eqd es1 D2 left))
      (fun _ wr => wr.rangeLeft b1 w.heap.size)
    case atStart => exact ⟨_, _, hrg0, h2.kept hg0 (by simp), hg0, good_start hkeys D2⟩
    case round =>
      obtain ⟨left, cnt, hrg, h2r, hgw, G⟩ := hrel
      go_wp2_with (first
        | (at_next; refine wpList_next_ranges _ rfl _ rfl 3 K R id id (fun key _ _ => ⟨key, rfl⟩) (fun v _ _ => ⟨v, rfl⟩) b1 w.heap.size n1 _ _ _ rfl hrg ?_ ?_)
        | go_in)
      · intro _ hl0
        go_wp2
        go_ret
        exact ⟨by rw [← RES.out, all_good G.out hl0 hsz]; rfl, hgw⟩
      · intro x c kl yd yp w1 cnt1 hkey hlx hv hat hrg1 hlt hg1 hs1 hen
        have hgw1 : w.grownBy w1 none := hgw.andThen hg1 (fun j hj => by cases hj; exact Or.inl (Nat.le_refl _))
        have h2w1 := h2r.kept hg1 (fun e => by have := Option.some.inj e; omega)
        have HAT : Hid (∀ zd, (DataW.map es1).atKey kl zd = yd) := hat
        clear hat
        cases hh : Maps.has D2 kl
        · have hbad : Lib.goodD eqd D2 (kl, yd) = false := by unfold Lib.goodD; rw [hh]; rfl
          go_wp2_with (first
            | (at_lookup; refine wpList_lookup_own_ok _ rfl _ _ 42 rfl 3 3 K Try.underlying42 R (hz2 _) zd zp hzd b2 n2 D2 rfl h2w1 _ kl rfl hkey ?_; intro v2 ps2 hv2; rw [hh]; go_frame)
            | go_in)
          go_ret
          exact ⟨by rw [← RES.out, bad_false hap hkeys HAT.out hbad]; rfl, hgw1⟩
        · cases he : eqd yd (D2.atKey kl zd)
          · have hbad : Lib.goodD eqd D2 (kl, yd) = false := by unfold Lib.goodD; rw [hh, atKey_indep hh .nil zd, he]; rfl
            go_wp2_with (first
              | (at_lookup; refine wpList_lookup_own_ok _ rfl _ _ 42 rfl 3 3 K Try.underlying42 R (hz2 _) zd zp hzd b2 n2 D2 rfl h2w1 _ kl rfl hkey ?_; intro v2 ps2 hv2; rw [hh]; go_frame; have hc := HQ.out w1 c v2 yd _ yp ps2 hgw1 hv hv2; rw [he] at hc)
              | (go_at_fn g; refine hc.mono ?_; rintro e w2 ⟨rfl, hg2⟩)
              | go_in)
            go_ret
            exact ⟨by rw [← RES.out, bad_false hap hkeys HAT.out hbad]; rfl, hgw1.andThen hg2 (fun j hj => by cases hj)⟩
          · have hgood : Lib.goodD eqd D2 (kl, yd) = true := by unfold Lib.goodD; rw [hh, atKey_indep hh .nil zd, he]; rfl
            go_wp2_with (first
              | (at_lookup; refine wpList_lookup_own_ok _ rfl _ _ 42 rfl 3 3 K Try.underlying42 R (hz2 _) zd zp hzd b2 n2 D2 rfl h2w1 _ kl rfl hkey ?_; intro v2 ps2 hv2; rw [hh]; go_frame; have hc := HQ.out w1 c v2 yd _ yp ps2 hgw1 hv hv2; rw [he] at hc)
              | (go_at_fn g; refine hc.mono ?_; rintro e w2 ⟨rfl, hg2⟩)
              | go_in)
            have hrg2 := hrg1.kept hg2 (by simp) (by simp)
            go_roundw
            case rel => exact ⟨_, cnt1, hrg2, h2w1.kept hg2 (by simp), hgw1.andThen hg2 (fun j hj => by cases hj), good_step hap hkeys HAT.out G.out hgood⟩
            case measure => rw [hrg2.left_eq, hrg.left_eq]; exact hlt
  · have hne : ¬ ((Maps.size (.map es1 : DataW H) : Int) = (Maps.size D2 : Int)) := fun e => hsz (by exact_mod_cast e)
    go_enter Try.func41, Try.ntmps41
    go_wp2
    go_ret
    exact ⟨by rw [← RES.out, sizes_false hsz]; rfl, World.grownBy.refl _ _⟩

set_option maxHeartbeats 400000 in
/-- the closure: whether the pair of its arguments is in the set that it has captured -/
theorem closureEq (a b : I) (bx bs n : Nat) (rs : List (I × I)) (W : World) (hc : W.cell? ⟨bx, 0, none⟩ = some (.map (some bs))) (hs : SetP W bs n rs) :
    Calls Try.prog 42 (#[.int .i64 a.1, .int .i64 b.1] ++ #[.pointer (some ⟨bx, 0, none⟩)]) W fun e w' => e = .returned (.bool (decide ((a, b) ∈ rs))) ∧ W.grownBy w' none := by
  have hl := set_look hs (a, b)
  unfold aggP at hl
  generalize decide ((a, b) ∈ rs) = r at hl
  clear hs
  go_enter Try.func42, Try.ntmps42
  go_wp2
  go_ret
  exact ⟨rfl, World.grownBy.refl _ _⟩

set_option maxHeartbeats 1000000 in
set_option maxRecDepth 100000 in
theorem equalFunc_any (A B C : Option Addr) (n c m d k e : Nat) (xs ys rs : List (I × I)) (w : World) (hx : Has w 2 A n (cells2 xs)) (hy : Has w 2 B m (cells2 ys)) (hr : Has w 2 C k (cells2 rs)) (hn : n ≤ 8796093022208) (hm : m ≤ 8796093022208) (hk : k ≤ 8796093022208) :
    Calls Try.prog 23 #[.slice A n c, .slice B m d, .slice C k e] w fun e w' => e = .returned (.bool (related (fun x y => decide ((x, y) ∈ rs)) (Plain.mapOf xs) (Plain.mapOf ys))) ∧ w.grownBy w' none := by
  have HX := Lib.hid hx
  have HY := Lib.hid hy
  clear hx hy
  generalize hres : related (fun x y => decide ((x, y) ∈ rs)) (Plain.mapOf xs) (Plain.mapOf ys) = res
  have RES := Lib.hid hres
  clear hres
  go_enter Try.func23, Try.ntmps23
  go_wp2_with fail
  refine (toSet_any C k e rs _ hr hk).mono ?_
  rintro e w1 ⟨rfl, h1, g1⟩
  have H1 := Lib.hid h1
  clear h1 hr
  go_wp2_with fail
  have c1 : (w1.alloc (.cells #[.map (some w.heap.size)] 47)).cell? ⟨w1.heap.size, 0, none⟩ = some (.map (some w.heap.size)) := by simp
  have G1 := galloc0 g1 (.cells #[.map (some w.heap.size)] 47)
  refine (toMap_any A n c xs _ (HX.out.kept G1) hn).mono ?_
  rintro e w2 ⟨rfl, h2, g2⟩
  have c2 := g2.cell c1 (by simp)
  have s2 := (H1.out.alloc (.cells #[.map (some w.heap.size)] 47)).kept g2 (by simp)
  generalize (w1.alloc (.cells #[.map (some w.heap.size)] 47)).heap.size = ba at h2 ⊢
  have H2 := Lib.hid (And.intro h2 s2)
  have G2 := G1.trans g2
  clear h2 s2 H1 c1 g2 G1 g1
  go_wp2_with fail
  refine (toMap_any B m d ys _ (HY.out.kept G2) hm).mono ?_
  rintro e w3 ⟨rfl, h3, g3⟩
  have c3 := g3.cell c2 (by simp)
  have H3 := Lib.hid (And.intro h3 (And.intro (H2.out.1.kept g3 (by simp)) (H2.out.2.kept g3 (by simp))))
  have G3 := G2.trans g3
  clear h3 H2 c2 g3 G2
  go_wp2_with fail
  have eg : ∀ args w, (callFunc 42 args).run Try.prog w = .ok (.enter 42 args) w := enters_of Try.func42 (by kernel_rfl) rfl
  have hcon := equalFuncI_owns lawI (plainElem Try.prog 3) (relI (inR rs)) 42 #[.pointer (some ⟨w1.heap.size, 0, none⟩)] ba w2.heap.size n m _ _ w3 eg H3.out.2.1 H3.out.1 (.int .i64 0) zeroI (.lit (.int .i64 0)) [] (plainElem_int Try.underlying3 (by decide))
    (fun W x y xd yd xp yp hgW hx hy => by
      obtain ⟨a, rfl, e1, wa⟩ := plainElem_int_inv Try.underlying3 hx
      obtain ⟨b, rfl, e2, wb⟩ := plainElem_int_inv Try.underlying3 hy
      obtain rfl : xd = .lit (.int .i64 a) := by simpa using (congrArg Prod.fst e1)
      obtain rfl : yd = .lit (.int .i64 b) := by simpa using (congrArg Prod.fst e2)
      refine (closureEq ⟨a, wa⟩ ⟨b, wb⟩ w1.heap.size w.heap.size k rs W (hgW.cell c3 (by simp)) (H3.out.2.2.kept hgW (by simp))).mono fun e w' ⟨he, hg⟩ => ⟨?_, hg⟩
      rw [he, ← inR_mem]
      rfl)
  rw [equal_rel] at hcon
  refine (hcon).mono ?_
  rintro e w4 ⟨rfl, g4⟩
  have e1 : related (fun x y => inR rs x.1 y.1) (Plain.mapOf xs) (Plain.mapOf ys) = res := by
    rw [← RES.out]
    congr 1
    funext x y
    exact inR_mem rs x y
  rw [e1]
  go_wp2_with fail
  go_ret
  exact ⟨rfl, G3.trans g4⟩
end Go.Proofs.Ytgmeaedpbcimjaa
