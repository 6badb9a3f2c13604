/-
  What is proved here: the contract of the drawn lists of pairs of floating-point numbers (DrawEqualFloats): two lists of at most 80 pairs each, in new memory.
  Conditions: the code has at most 2^20 bytes.
-/
import Derived.Test.YtmldacjpbifoaaaFloat
import Derived.Test.YtmldacjpbifoaaaDrop
namespace Go.Proofs.Ytmldacjpbifoaaa
open Go.RowKit Go.Maps

theorem twoFP : Two 28 34 16 :=
  ⟨Try.underlying28, by
    have h : (Try.prog.info? 34).map (fun i => (i.zero, i.size, i.bytes)) = some (some (.agg #[.int .i64 0, .float .f64 0]), 2, 16) := by kernel_rfl
    obtain ⟨i0, hi, hz0, hz1, hz2⟩ := info_parts h
    exact ⟨i0, _, hi, hz0, hz1, hz2, rfl⟩⟩
theorem oneFP : ∀ p, (twoF p).1.oneCell' = true ∧ (twoF p).2.oneCell' = true := fun _ => ⟨rfl, rfl⟩
abbrev OwnF (w : World) (base : Nat) (A : Option Addr) (n c : Nat) (xs : List (I × Nat)) : Prop := Own twoF 34 w base A n c xs

attribute [local go_sem] run_store_float
theorem neg_float (k : FloatKind) (b : Nat) : Op.unary .neg (.float k b) = pure (.float k (Op.negFloat k b)) := rfl
attribute [local go_sem] neg_float
theorem Own.keptBlk {α : Type} {f : α → Value × Value} {E : TypeId} {w w' : World} {A : Option Addr} {n c base g : Nat} {xs : List α} (o : Own f E w base A n c xs) (h : some g ≠ (Value.slice A n c).ownBlock) (hg : w.grownBy w' (some g)) : Own f E w' base A n c xs :=
  o.kept hg fun j hj e => h (by subst hj; rw [← e]; rfl)
theorem PairAt.set1 {w : World} {g : Nat} {v0 v1 : Value} (h : PairAt w g v0 v1) (u1 : Value) : PairAt (w.setCell ⟨g, 1, none⟩ u1) g v0 u1 ∧ w.grownBy (w.setCell ⟨g, 1, none⟩ u1) (some g) := by
  refine ⟨⟨by simpa using h.lt, ?_, ?_, ?_, ?_⟩, grown_setCell w ⟨g, 1, none⟩ u1⟩
  · rw [World.cell?_setCell_other _ _ _ _ (by simp)]; exact h.c0
  · rw [World.cell?_setCell_same' _ _ _ (by rw [h.c1]; rfl)]
  · rw [World.frozen?_setCell]; exact h.f0
  · rw [World.frozen?_setCell]; exact h.f1

/-- two empty lists in new blocks -/
theorem Own.twoMade {α : Type} {f : α → Value × Value} {E : TypeId} {w0 : World} {r : Nat} (hs : w0.heap.size = r + 1) :
    Own f E ((w0.alloc (.cells #[] E)).alloc (.cells #[] E)) w0.heap.size (some ⟨r + 1, 0, none⟩) 0 0 [] ∧ Own f E ((w0.alloc (.cells #[] E)).alloc (.cells #[] E)) w0.heap.size (some ⟨r + 1 + 1, 0, none⟩) 0 0 [] ∧ Apart (some ⟨r + 1, 0, none⟩) (some ⟨r + 1 + 1, 0, none⟩) := by
  refine ⟨?_, ?_, fun g n c m d h1 h2 => ?_⟩
  · rw [← hs]; exact (Own.made w0 (Nat.le_refl _)).alloc _
  · rw [← hs]; exact Own.made1 w0 _ (Nat.le_refl _)
  · simp [Value.ownBlock] at h1 h2; omega
/-- a row that is younger than the world in which another one lies -/
theorem Apart.young {α : Type} {f : α → Value × Value} {E : TypeId} {w : World} {A B : Option Addr} {n c m d base : Nat} {xs : List α} (o : Own f E w base A n c xs) (h : (Value.slice B m d).ownBlock = some w.heap.size ∨ (Value.slice B m d).ownBlock = some (w.heap.size + 1)) : Apart A B := by
  intro g n1 c1 m1 d1 h1 h2
  rw [ownBlock_any (m := m) (d := d)] at h2
  rw [ownBlock_any (m := n) (d := c)] at h1
  have := (o.2.lt g h1).2
  rcases h with e | e <;> rw [e] at h2 <;> injection h2 with h2 <;> omega
/-- it is not in a block that is to come -/
theorem Own.notNew {α : Type} {f : α → Value × Value} {E : TypeId} {w : World} {A : Option Addr} {n c base : Nat} {xs : List α} (o : Own f E w base A n c xs) : some w.heap.size ≠ (Value.slice A n c).ownBlock := fun e => by
  have := (o.2.lt _ e.symm).2
  omega

set_option maxRecDepth 100000 in
set_option maxHeartbeats 1000000 in
theorem drawF_any (A : Option Addr) (n c : Nat) (zs : List Int) (w : World) (h : Bytes w A n c zs) (hn : n ≤ 1048576) :
    Calls Try.prog 10 #[.slice A n c] w fun e w' => ∃ A1 n1 c1 xs A2 n2 c2 ys, e = .returned (.tuple #[.slice A1 n1 c1, .slice A2 n2 c2]) ∧ Has w' 2 A1 n1 (cellsBy twoF xs) ∧ n1 ≤ 80 ∧ Has w' 2 A2 n2 (cellsBy twoF ys) ∧ n2 ≤ 80 ∧ w.grownBy w' none := by
  have hr0 := Lib.hid (Rd.made h hn 41)
  clear h
  go_enter Try.func10, Try.ntmps10
  go_wp2_with fail
  obtain ⟨w0, hw0⟩ : ∃ w0, w0 = w.alloc (.cells #[.slice A n c, .int .i64 0] 41) := ⟨_, rfl⟩
  have hs0 : w0.heap.size = w.heap.size + 1 := by rw [hw0]; simp
  rw [← hw0] at hr0 ⊢
  have W0 := Lib.hid hw0
  clear hw0
  obtain ⟨r, hr⟩ : ∃ r, r = w.heap.size := ⟨_, rfl⟩
  rw [← hr] at hr0 hs0 ⊢
  have HR := Lib.hid hr
  clear hr
  have hl0 : r < w0.heap.size := hr0.out.lt
  obtain ⟨o1, o2, ap⟩ := Own.twoMade (f := twoF) (E := 34) hs0
  have G0 : w0.grownBy ((w0.alloc (.cells #[] 34)).alloc (.cells #[] 34)) (some r) := galloc (World.grownBy_alloc _ _ _) _
  have R0 : Rd ((w0.alloc (.cells #[] 34)).alloc (.cells #[] 34)) r 0 := (hr0.out.keptN (World.grownBy_alloc _ _ _)).keptN (World.grownBy_alloc _ _ _)
  generalize (w0.alloc (.cells #[] 34)).alloc (.cells #[] 34) = wa at o1 o2 G0 R0 ⊢
  refine (pick_any r _ 6 _ R0 (by omega) (by omega) (by omega)).mono ?_
  rintro e w1 ⟨y, rfl, hy, r1, g1⟩
  have R1 := Lib.hid r1
  have O1 := Lib.hid (o1.keptR hl0 g1)
  have O2 := Lib.hid (o2.keptR hl0 g1)
  have AP := Lib.hid ap
  have G1 := Lib.hid (G0.trans g1)
  clear r1 o1 o2 ap g1 G0 R0 hr0
  go_wp2_with fail
  go_loopw [5, 6, 7] (fun v u i wr => ∃ (k B1 e1 B2 e2 : Nat) (D1 D2 : Option Addr) (xs ys : List (I × Nat)), k ≤ 5 ∧ i = .int .i64 (k : Int) ∧ v = .slice D1 B1 e1 ∧ u = .slice D2 B2 e2 ∧ B1 + k ≤ 5 ∧ B2 + k ≤ 5 ∧ Hid (OwnF wr w0.heap.size D1 B1 e1 xs) ∧ Hid (OwnF wr w0.heap.size D2 B2 e2 ys) ∧ Hid (Apart D1 D2) ∧ Hid (Rd wr r (1 + 20 * (5 - k))) ∧ Hid (w0.grownBy wr (some r)))
    (fun _ _ i _ => (intOf i).toNat)
  case atStart => exact ⟨y, 0, 0, 0, 0, _, _, [], [], by omega, rfl, rfl, rfl, by omega, by omega, O1, O2, AP, Lib.hid (R1.out.le (by omega)), G1⟩
  case round =>
    clear O1 O2 AP R1 G1
    obtain ⟨k, B1, e1, B2, e2, D1, D2, xs, ys, hk, rfl, rfl, rfl, hb1, hb2, O1, O2, AP, R, G⟩ := hrel
    by_cases hk0 : 0 < k
    · have hkp : (0 : Int) < (k : Int) := by omega
      go_wp2_with fail
      refine (pick_any r _ 6 _ R.out (by omega) (by omega) (by omega)).mono ?_
      rintro e w2 ⟨x, rfl, hx, r0, g0⟩
      have O1 := Lib.hid (O1.out.keptR hl0 g0)
      have O2 := Lib.hid (O2.out.keptR hl0 g0)
      have R := Lib.hid r0
      have G := Lib.hid (G.out.trans g0)
      clear r0 g0
      go_wp2_with fail
      refine (aFloat_any r _ _ R.out (by omega)).mono ?_
      rintro e w3 ⟨f, rfl, r0, g0⟩
      have O1 := Lib.hid (O1.out.keptR hl0 g0)
      have O2 := Lib.hid (O2.out.keptR hl0 g0)
      have R := Lib.hid r0
      have G := Lib.hid (G.out.trans g0)
      clear r0 g0
      have APs := Lib.hid AP.out.symm
      cases hz : (FloatKind.f64.format.order f 0 == some Ordering.eq)
      · have PV := Lib.hid (PairAt.made w3 (twoF (⟨(x : Int), small_wf (by omega)⟩, f)).1 (twoF (⟨(x : Int), small_wf (by omega)⟩, f)).2 34)
        have hnn := Lib.hid O1.out.notNew
        have hle := G.out.size
        have O1a := Lib.hid ((O1.out.alloc (.cells #[.int .i64 (x : Int), .float .f64 f] 34)).alloc (.cells #[.int .i64 (x : Int), .float .f64 f] 34))
        have O2a := Lib.hid ((O2.out.alloc (.cells #[.int .i64 (x : Int), .float .f64 f] 34)).alloc (.cells #[.int .i64 (x : Int), .float .f64 f] 34))
        have Ra := Lib.hid ((R.out.keptN (World.grownBy_alloc _ (.cells #[.int .i64 (x : Int), .float .f64 f] 34) _)).keptN (World.grownBy_alloc _ (.cells #[.int .i64 (x : Int), .float .f64 f] 34) _))
        have Ga := Lib.hid (galloc (galloc G.out (.cells #[.int .i64 (x : Int), .float .f64 f] 34)) (.cells #[.int .i64 (x : Int), .float .f64 f] 34))
        have PVa := Lib.hid (PV.out.kept (World.grownBy_alloc _ (.cells #[.int .i64 (x : Int), .float .f64 f] 34) none) (by simp))
        go_wp2_with (first
          | (at_builtin; refine wpList_app (base := w0.heap.size) (xs := xs) (ys := [(⟨(x : Int), small_wf (by omega)⟩, f)]) twoFP oneFP _ rfl (.tmp 25) (.tmp 27) rfl rfl O1a.out rfl ((Own.one1 (f := twoF) (base := 0) w3 _ (⟨(x : Int), small_wf (by omega)⟩, f) (Nat.zero_le _)).has) (by unfold maxLen; omega) (by omega) Ga.out.size ?_; intro B9 d9 w9 o9 g9 alt; have q0 := (PVa.out.kept g9 hnn.out).c0; have q1 := (PVa.out.kept g9 hnn.out).c1; have q2 := (PVa.out.kept g9 hnn.out).f1; simp only [twoF] at q0 q1)
          | fail)
        have N2 := Lib.hid O2.out.notNew
        have N1 : Hid (some w3.heap.size ≠ (Value.slice B9 (B1 + 1) d9).ownBlock) := Lib.hid (fun e => by
          rcases alt with h | h
          · exact hnn.out (e.trans h)
          · rw [h] at e; simp at e; omega)
        have PV := Lib.hid (PVa.out.kept g9 hnn.out)
        have AP := Lib.hid (AP.out.symm.app O2a.out alt).symm
        have O2 := Lib.hid (O2a.out.keptA (APs.out) g9)
        have O1' := Lib.hid o9
        have R := Lib.hid (O1a.out.rd hl0 Ra.out g9)
        have G := Lib.hid (O1a.out.past Ga.out g9)
        have O1 := O1'
        obtain ⟨gp, hgp⟩ : ∃ gp, gp = w3.heap.size := ⟨_, rfl⟩
        rw [← hgp] at PV N1 N2 q0 q1 q2 ⊢
        have hrg : r < gp := by omega
        clear q0 q1 q2
        clear o9 g9 alt O1a O2a Ra Ga PVa hnn O1' hgp
        go_wp2_with fail
        refine (pick_any r _ 8 _ R.out (by omega) (by omega) (by omega)).mono ?_
        rintro e w10 ⟨z, rfl, hz, r0, g0⟩
        have O1 := Lib.hid (O1.out.keptR hl0 g0)
        have O2 := Lib.hid (O2.out.keptR hl0 g0)
        have R := Lib.hid r0
        have G := Lib.hid (G.out.trans g0)
        have PV := Lib.hid (PV.out.keptR g0 hrg)
        clear r0 g0
        by_cases hz0 : z = 0
        · subst hz0
          go_wp2_with fail
          go_roundw
          case rel => exact ⟨k - 1, B1 + 1, d9, B2, e2, B9, D2, _, ys, by omega, by go_num, rfl, rfl, by omega, by omega, O1, O2, AP, Lib.hid (R.out.le (by omega)), G⟩
          case measure => simp [intOf]; omega
        · have hzp : (0 : Int) < (z : Int) := by omega
          have c0 := PV.out.c0
          have c1 := PV.out.c1
          simp only [twoF] at c0 c1
          have O1a := Lib.hid (O1.out.alloc (.cells #[.int .i64 (x : Int), .float .f64 f] 34))
          have O2a := Lib.hid (O2.out.alloc (.cells #[.int .i64 (x : Int), .float .f64 f] 34))
          have Ga := Lib.hid (galloc G.out (.cells #[.int .i64 (x : Int), .float .f64 f] 34))
          have Ra := Lib.hid (R.out.keptN (World.grownBy_alloc _ (.cells #[.int .i64 (x : Int), .float .f64 f] 34) _))
          go_wp2_with (first
            | (at_builtin; refine wpList_app (base := w0.heap.size) (xs := ys) (ys := [(⟨(x : Int), small_wf (by omega)⟩, f)]) twoFP oneFP _ rfl (.tmp 39) (.tmp 41) rfl rfl O2a.out rfl ((Own.one (f := twoF) (base := 0) w10 (⟨(x : Int), small_wf (by omega)⟩, f) (Nat.zero_le _)).has) (by unfold maxLen; omega) (by omega) Ga.out.size ?_; intro B8 d8 w8 o8 g8 alt)
            | fail)
          have O1 := Lib.hid (O1a.out.keptA AP.out g8)
          have AP := Lib.hid (AP.out.app O1a.out alt)
          have R := Lib.hid (O2a.out.rd hl0 Ra.out g8)
          have G := Lib.hid (O2a.out.past Ga.out g8)
          have O2 := Lib.hid o8
          clear o8 g8 alt
          go_roundw
          case rel => exact ⟨k - 1, B1 + 1, d9, B2 + 1, d8, B9, B8, _, _, by omega, by go_num, rfl, rfl, by omega, by omega, O1, O2, AP, Lib.hid (R.out.le (by omega)), G⟩
          case measure => simp [intOf]; omega

      · have PV := Lib.hid (PairAt.made w3 (twoF (⟨(x : Int), small_wf (by omega)⟩, f)).1 (twoF (⟨(x : Int), small_wf (by omega)⟩, f)).2 34)
        have hnn := Lib.hid O1.out.notNew
        have hle := G.out.size
        have O1a := Lib.hid ((O1.out.alloc (.cells #[.int .i64 (x : Int), .float .f64 f] 34)).alloc (.cells #[.int .i64 (x : Int), .float .f64 f] 34))
        have O2a := Lib.hid ((O2.out.alloc (.cells #[.int .i64 (x : Int), .float .f64 f] 34)).alloc (.cells #[.int .i64 (x : Int), .float .f64 f] 34))
        have Ra := Lib.hid ((R.out.keptN (World.grownBy_alloc _ (.cells #[.int .i64 (x : Int), .float .f64 f] 34) _)).keptN (World.grownBy_alloc _ (.cells #[.int .i64 (x : Int), .float .f64 f] 34) _))
        have Ga := Lib.hid (galloc (galloc G.out (.cells #[.int .i64 (x : Int), .float .f64 f] 34)) (.cells #[.int .i64 (x : Int), .float .f64 f] 34))
        have PVa := Lib.hid (PV.out.kept (World.grownBy_alloc _ (.cells #[.int .i64 (x : Int), .float .f64 f] 34) none) (by simp))
        go_wp2_with (first
          | (at_builtin; refine wpList_app (base := w0.heap.size) (xs := xs) (ys := [(⟨(x : Int), small_wf (by omega)⟩, f)]) twoFP oneFP _ rfl (.tmp 25) (.tmp 27) rfl rfl O1a.out rfl ((Own.one1 (f := twoF) (base := 0) w3 _ (⟨(x : Int), small_wf (by omega)⟩, f) (Nat.zero_le _)).has) (by unfold maxLen; omega) (by omega) Ga.out.size ?_; intro B9 d9 w9 o9 g9 alt; have q0 := (PVa.out.kept g9 hnn.out).c0; have q1 := (PVa.out.kept g9 hnn.out).c1; have q2 := (PVa.out.kept g9 hnn.out).f1; simp only [twoF] at q0 q1)
          | fail)
        have N2 := Lib.hid O2.out.notNew
        have N1 : Hid (some w3.heap.size ≠ (Value.slice B9 (B1 + 1) d9).ownBlock) := Lib.hid (fun e => by
          rcases alt with h | h
          · exact hnn.out (e.trans h)
          · rw [h] at e; simp at e; omega)
        have PV := Lib.hid (PVa.out.kept g9 hnn.out)
        have AP := Lib.hid (AP.out.symm.app O2a.out alt).symm
        have O2 := Lib.hid (O2a.out.keptA (APs.out) g9)
        have O1' := Lib.hid o9
        have R := Lib.hid (O1a.out.rd hl0 Ra.out g9)
        have G := Lib.hid (O1a.out.past Ga.out g9)
        have O1 := O1'
        obtain ⟨gp, hgp⟩ : ∃ gp, gp = w3.heap.size := ⟨_, rfl⟩
        rw [← hgp] at PV N1 N2 q0 q1 q2 ⊢
        have hrg : r < gp := by omega
        clear q0 q1 q2
        clear o9 g9 alt O1a O2a Ra Ga PVa hnn O1' hgp
        obtain ⟨pv, gs⟩ := PV.out.set1 (.float .f64 (Op.negFloat .f64 f))
        have O1' := Lib.hid (O1.out.keptBlk N1.out gs)
        have O2' := Lib.hid (O2.out.keptBlk N2.out gs)
        have R' := Lib.hid (R.out.kept gs (fun j hj => by injection hj with hj; omega))
        have G' := Lib.hid (World.grownBy.andThen (row := some r) G.out gs (fun j hj => .inl (by injection hj with hj; omega)))
        have PV' := Lib.hid pv
        clear pv gs O1 O2 R G PV N1 N2
        have O1 := O1'
        have O2 := O2'
        have R := R'
        have G := G'
        have PV := PV'
        clear O1' O2' R' G' PV'
        go_wp2_with fail
        refine (pick_any r _ 8 _ R.out (by omega) (by omega) (by omega)).mono ?_
        rintro e w10 ⟨z, rfl, hz, r0, g0⟩
        have O1 := Lib.hid (O1.out.keptR hl0 g0)
        have O2 := Lib.hid (O2.out.keptR hl0 g0)
        have R := Lib.hid r0
        have G := Lib.hid (G.out.trans g0)
        have PV := Lib.hid (PV.out.keptR g0 hrg)
        clear r0 g0
        by_cases hz0 : z = 0
        · subst hz0
          go_wp2_with fail
          go_roundw
          case rel => exact ⟨k - 1, B1 + 1, d9, B2, e2, B9, D2, _, ys, by omega, by go_num, rfl, rfl, by omega, by omega, O1, O2, AP, Lib.hid (R.out.le (by omega)), G⟩
          case measure => simp [intOf]; omega
        · have hzp : (0 : Int) < (z : Int) := by omega
          have c0 := PV.out.c0
          have c1 := PV.out.c1
          simp only [twoF] at c0 c1
          have O1a := Lib.hid (O1.out.alloc (.cells #[.int .i64 (x : Int), .float .f64 (Op.negFloat .f64 f)] 34))
          have O2a := Lib.hid (O2.out.alloc (.cells #[.int .i64 (x : Int), .float .f64 (Op.negFloat .f64 f)] 34))
          have Ga := Lib.hid (galloc G.out (.cells #[.int .i64 (x : Int), .float .f64 (Op.negFloat .f64 f)] 34))
          have Ra := Lib.hid (R.out.keptN (World.grownBy_alloc _ (.cells #[.int .i64 (x : Int), .float .f64 (Op.negFloat .f64 f)] 34) _))
          go_wp2_with (first
            | (at_builtin; refine wpList_app (base := w0.heap.size) (xs := ys) (ys := [(⟨(x : Int), small_wf (by omega)⟩, Op.negFloat .f64 f)]) twoFP oneFP _ rfl (.tmp 39) (.tmp 41) rfl rfl O2a.out rfl ((Own.one (f := twoF) (base := 0) w10 (⟨(x : Int), small_wf (by omega)⟩, Op.negFloat .f64 f) (Nat.zero_le _)).has) (by unfold maxLen; omega) (by omega) Ga.out.size ?_; intro B8 d8 w8 o8 g8 alt)
            | fail)
          have O1 := Lib.hid (O1a.out.keptA AP.out g8)
          have AP := Lib.hid (AP.out.app O1a.out alt)
          have R := Lib.hid (O2a.out.rd hl0 Ra.out g8)
          have G := Lib.hid (O2a.out.past Ga.out g8)
          have O2 := Lib.hid o8
          clear o8 g8 alt
          go_roundw
          case rel => exact ⟨k - 1, B1 + 1, d9, B2 + 1, d8, B9, B8, _, _, by omega, by go_num, rfl, rfl, by omega, by omega, O1, O2, AP, Lib.hid (R.out.le (by omega)), G⟩
          case measure => simp [intOf]; omega
    · obtain rfl : k = 0 := by omega
      go_wp2_with fail
      refine (pick_any r _ 4 _ R.out (by omega) (by omega) (by omega)).mono ?_
      rintro e w20 ⟨z4, rfl, hz4, r0, g0⟩
      have O1 := Lib.hid (O1.out.keptR hl0 g0)
      have O2 := Lib.hid (O2.out.keptR hl0 g0)
      have R := Lib.hid r0
      have G := Lib.hid (G.out.trans g0)
      clear r0 g0
      by_cases hz4 : z4 = 0
      · subst hz4
        go_wp2_with fail
        refine (pick_any r _ 3 _ R.out (by omega) (by omega) (by omega)).mono ?_
        rintro e w21 ⟨y3, rfl, hy3, r0, g0⟩
        have O1 := Lib.hid (O1.out.keptR hl0 g0)
        have O2 := Lib.hid (O2.out.keptR hl0 g0)
        have R := Lib.hid r0
        have G := Lib.hid (G.out.trans g0)
        clear r0 g0
        go_wp2_with fail
        refine (aFloat_any r _ _ R.out (by omega)).mono ?_
        rintro e w22 ⟨f2, rfl, r0, g0⟩
        have O1 := Lib.hid (O1.out.keptR hl0 g0)
        have O2 := Lib.hid (O2.out.keptR hl0 g0)
        have R := Lib.hid r0
        have G := Lib.hid (G.out.trans g0)
        clear r0 g0
        have O1a := Lib.hid (O1.out.alloc (.cells #[.int .i64 (7 + (y3 : Int)), .float .f64 f2] 34))
        have O2a := Lib.hid (O2.out.alloc (.cells #[.int .i64 (7 + (y3 : Int)), .float .f64 f2] 34))
        have Ga := Lib.hid (galloc G.out (.cells #[.int .i64 (7 + (y3 : Int)), .float .f64 f2] 34))
        go_wp2_with (first
          | (at_builtin; refine wpList_app (base := w0.heap.size) (xs := ys) (ys := [(⟨7 + (y3 : Int), small_wf (by omega)⟩, f2)]) twoFP oneFP _ rfl (.tmp 46) (.tmp 53) rfl rfl O2a.out rfl ((Own.one (f := twoF) (base := 0) w22 (⟨7 + (y3 : Int), small_wf (by omega)⟩, f2) (Nat.zero_le _)).has) (by unfold maxLen; omega) (by omega) Ga.out.size ?_; intro B8 d8 w8 o8 g8 alt)
          | fail)
        have O1 := Lib.hid (O1a.out.keptA AP.out g8)
        have G := Lib.hid (O2a.out.past Ga.out g8)
        have O2 := Lib.hid o8
        go_ret2
        exact ⟨D1, B1, e1, _, B8, (B2 + 1), d8, _, rfl, O1.out.has, by omega, O2.out.has, by omega, grown_made W0.out (by rw [← HR.out]; exact G.out)⟩
      · have hbz : ((z4 : Int) == 0) = false := by simp; omega
        go_wp2_with fail
        go_ret2
        exact ⟨D1, B1, e1, _, D2, B2, e2, _, rfl, O1.out.has, by omega, O2.out.has, by omega, grown_made W0.out (by rw [← HR.out]; exact G.out)⟩
end Go.Proofs.Ytmldacjpbifoaaa
