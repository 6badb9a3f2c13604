/-
  What is proved here: the contract of the drawn lists of pairs of texts (DrawEqualTexts): two lists of at most 80 pairs each, in new memory.
  Conditions: the code has at most 2^20 bytes.
-/
import Derived.Test.YtmldacjpbifoaaaText
import Derived.Test.YtmldacjpbifoaaaDrop
namespace Go.Proofs.Ytmldacjpbifoaaa
open Go.RowKit Go.Maps

theorem twoTP : Two 23 45 32 :=
  ⟨Try.underlying23, by
    have h : (Try.prog.info? 45).map (fun i => (i.zero, i.size, i.bytes)) = some (some (.agg #[.string ⟨#[]⟩, .string ⟨#[]⟩]), 2, 32) := by kernel_rfl
    obtain ⟨i0, hi, hz0, hz1, hz2⟩ := info_parts h
    exact ⟨i0, _, hi, hz0, hz1, hz2, rfl⟩⟩
theorem oneTP : ∀ p, (twoT p).1.oneCell' = true ∧ (twoT p).2.oneCell' = true := fun _ => ⟨rfl, rfl⟩
abbrev OwnT (w : World) (base : Nat) (A : Option Addr) (n c : Nat) (xs : List (Tx × Tx)) : Prop := Own twoT 45 w base A n c xs

/-- two empty lists in new blocks -/
theorem Own.twoMade {α : Type} {f : α → Value × Value} {E : TypeId} {w0 : World} {r : Nat} (hs : w0.heap.size = r + 1) :
    Own f E ((w0.alloc (.cells #[] E)).alloc (.cells #[] E)) w0.heap.size (some ⟨r + 1, 0, none⟩) 0 0 [] ∧ Own f E ((w0.alloc (.cells #[] E)).alloc (.cells #[] E)) w0.heap.size (some ⟨r + 1 + 1, 0, none⟩) 0 0 [] ∧ Apart (some ⟨r + 1, 0, none⟩) (some ⟨r + 1 + 1, 0, none⟩) := by
  refine ⟨?_, ?_, fun g n c m d h1 h2 => ?_⟩
  · rw [← hs]; exact (Own.made w0 (Nat.le_refl _)).alloc _
  · rw [← hs]; exact Own.made1 w0 _ (Nat.le_refl _)
  · simp [Value.ownBlock] at h1 h2; omega
/-- a row that is younger than the world in which another one lies -/
theorem Apart.young {α : Type} {f : α → Value × Value} {E : TypeId} {w : World} {A B : Option Addr} {n c m d base : Nat} {xs : List α} (o : Own f E w base A n c xs) (h : (Value.slice B m d).ownBlock = some w.heap.size ∨ (Value.slice B m d).ownBlock = some (w.heap.size + 1)) : Apart A B := by
  intro g n1 c1 m1 d1 h1 h2
  rw [ownBlock_any (m := m) (d := d)] at h2
  rw [ownBlock_any (m := n) (d := c)] at h1
  have := (o.2.lt g h1).2
  rcases h with e | e <;> rw [e] at h2 <;> injection h2 with h2 <;> omega
/-- it is not in a block that is to come -/
theorem Own.notNew {α : Type} {f : α → Value × Value} {E : TypeId} {w : World} {A : Option Addr} {n c base : Nat} {xs : List α} (o : Own f E w base A n c xs) : some w.heap.size ≠ (Value.slice A n c).ownBlock := fun e => by
  have := (o.2.lt _ e.symm).2
  omega

set_option maxRecDepth 100000 in
set_option maxHeartbeats 1000000 in
theorem drawT_any (A : Option Addr) (n c : Nat) (zs : List Int) (w : World) (h : Bytes w A n c zs) (hn : n ≤ 1048576) :
    Calls Try.prog 7 #[.slice A n c] w fun e w' => ∃ A1 n1 c1 xs A2 n2 c2 ys, e = .returned (.tuple #[.slice A1 n1 c1, .slice A2 n2 c2]) ∧ Has w' 2 A1 n1 (cellsBy twoT xs) ∧ n1 ≤ 80 ∧ Has w' 2 A2 n2 (cellsBy twoT ys) ∧ n2 ≤ 80 ∧ w.grownBy w' none := by
  have hr0 := Lib.hid (Rd.made h hn 41)
  clear h
  go_enter Try.func7, Try.ntmps7
  go_wp2_with fail
  obtain ⟨w0, hw0⟩ : ∃ w0, w0 = w.alloc (.cells #[.slice A n c, .int .i64 0] 41) := ⟨_, rfl⟩
  have hs0 : w0.heap.size = w.heap.size + 1 := by rw [hw0]; simp
  rw [← hw0] at hr0 ⊢
  have W0 := Lib.hid hw0
  clear hw0
  obtain ⟨r, hr⟩ : ∃ r, r = w.heap.size := ⟨_, rfl⟩
  rw [← hr] at hr0 hs0 ⊢
  have HR := Lib.hid hr
  clear hr
  have hl0 : r < w0.heap.size := hr0.out.lt
  obtain ⟨o1, o2, ap⟩ := Own.twoMade (f := twoT) (E := 45) hs0
  have G0 : w0.grownBy ((w0.alloc (.cells #[] 45)).alloc (.cells #[] 45)) (some r) := galloc (World.grownBy_alloc _ _ _) _
  have R0 : Rd ((w0.alloc (.cells #[] 45)).alloc (.cells #[] 45)) r 0 := (hr0.out.keptN (World.grownBy_alloc _ _ _)).keptN (World.grownBy_alloc _ _ _)
  generalize (w0.alloc (.cells #[] 45)).alloc (.cells #[] 45) = wa at o1 o2 G0 R0 ⊢
  refine (pick_any r _ 6 _ R0 (by omega) (by omega) (by omega)).mono ?_
  rintro e w1 ⟨y, rfl, hy, r1, g1⟩
  have R1 := Lib.hid r1
  have O1 := Lib.hid (o1.keptR hl0 g1)
  have O2 := Lib.hid (o2.keptR hl0 g1)
  have AP := Lib.hid ap
  have G1 := Lib.hid (G0.trans g1)
  clear r1 o1 o2 ap g1 G0 R0 hr0
  go_wp2_with fail
  go_loopw [5, 6, 7] (fun v u i wr => ∃ (k B1 e1 B2 e2 : Nat) (D1 D2 : Option Addr) (xs ys : List (Tx × Tx)), k ≤ 5 ∧ i = .int .i64 (k : Int) ∧ v = .slice D1 B1 e1 ∧ u = .slice D2 B2 e2 ∧ B1 + k ≤ 5 ∧ B2 + k ≤ 5 ∧ Hid (OwnT wr w0.heap.size D1 B1 e1 xs) ∧ Hid (OwnT wr w0.heap.size D2 B2 e2 ys) ∧ Hid (Apart D1 D2) ∧ Hid (Rd wr r (1 + 20 * (5 - k))) ∧ Hid (w0.grownBy wr (some r)))
    (fun _ _ i _ => (intOf i).toNat)
  case atStart => exact ⟨y, 0, 0, 0, 0, _, _, [], [], by omega, rfl, rfl, rfl, by omega, by omega, O1, O2, AP, Lib.hid (R1.out.le (by omega)), G1⟩
  case round =>
    clear O1 O2 AP R1 G1
    obtain ⟨k, B1, e1, B2, e2, D1, D2, xs, ys, hk, rfl, rfl, rfl, hb1, hb2, O1, O2, AP, R, G⟩ := hrel
    by_cases hk0 : 0 < k
    · have hkp : (0 : Int) < (k : Int) := by omega
      go_wp2_with fail
      refine (aText_any r _ _ R.out (by omega)).mono ?_
      rintro e w2 ⟨s1, rfl, hs1, r0, g0⟩
      have O1 := Lib.hid (O1.out.keptR hl0 g0)
      have O2 := Lib.hid (O2.out.keptR hl0 g0)
      have R := Lib.hid r0
      have G := Lib.hid (G.out.trans g0)
      clear r0 g0
      go_wp2_with fail
      refine (aText_any r _ _ R.out (by omega)).mono ?_
      rintro e w3 ⟨s2, rfl, hs2, r0, g0⟩
      have O1 := Lib.hid (O1.out.keptR hl0 g0)
      have O2 := Lib.hid (O2.out.keptR hl0 g0)
      have R := Lib.hid r0
      have G := Lib.hid (G.out.trans g0)
      clear r0 g0
      have hs1' : s1.size ≤ maxLen := by unfold maxLen; omega
      have hs2' : s2.size ≤ maxLen := by unfold maxLen; omega
      have APs := Lib.hid AP.out.symm
      have PV := Lib.hid (PairAt.made w3 (twoT (⟨s1, hs1'⟩, ⟨s2, hs2'⟩)).1 (twoT (⟨s1, hs1'⟩, ⟨s2, hs2'⟩)).2 45)
      have hnn := Lib.hid O1.out.notNew
      have hle := G.out.size
      have O1a := Lib.hid ((O1.out.alloc (.cells #[.string s1, .string s2] 45)).alloc (.cells #[.string s1, .string s2] 45))
      have O2a := Lib.hid ((O2.out.alloc (.cells #[.string s1, .string s2] 45)).alloc (.cells #[.string s1, .string s2] 45))
      have Ra := Lib.hid ((R.out.keptN (World.grownBy_alloc _ (.cells #[.string s1, .string s2] 45) _)).keptN (World.grownBy_alloc _ (.cells #[.string s1, .string s2] 45) _))
      have Ga := Lib.hid (galloc (galloc G.out (.cells #[.string s1, .string s2] 45)) (.cells #[.string s1, .string s2] 45))
      have PVa := Lib.hid (PV.out.kept (World.grownBy_alloc _ (.cells #[.string s1, .string s2] 45) none) (by simp))
      go_wp2_with (first
        | (at_builtin; refine wpList_app (base := w0.heap.size) (xs := xs) (ys := [(⟨s1, hs1'⟩, ⟨s2, hs2'⟩)]) twoTP oneTP _ rfl (.tmp 25) (.tmp 27) rfl rfl O1a.out rfl ((Own.one1 (f := twoT) (base := 0) w3 _ (⟨s1, hs1'⟩, ⟨s2, hs2'⟩) (Nat.zero_le _)).has) (by unfold maxLen; omega) (by omega) Ga.out.size ?_; intro B9 d9 w9 o9 g9 alt)
        | fail)
      have PV := Lib.hid (PVa.out.kept g9 hnn.out)
      have AP := Lib.hid (AP.out.symm.app O2a.out alt).symm
      have O2 := Lib.hid (O2a.out.keptA (APs.out) g9)
      have O1' := Lib.hid o9
      have R := Lib.hid (O1a.out.rd hl0 Ra.out g9)
      have G := Lib.hid (O1a.out.past Ga.out g9)
      have O1 := O1'
      obtain ⟨gp, hgp⟩ : ∃ gp, gp = w3.heap.size := ⟨_, rfl⟩
      rw [← hgp] at PV ⊢
      have hrg : r < gp := by omega
      clear o9 g9 alt O1a O2a Ra Ga PVa hnn O1' hgp
      go_wp2_with fail
      refine (pick_any r _ 8 _ R.out (by omega) (by omega) (by omega)).mono ?_
      rintro e w10 ⟨z, rfl, hz, r0, g0⟩
      have O1 := Lib.hid (O1.out.keptR hl0 g0)
      have O2 := Lib.hid (O2.out.keptR hl0 g0)
      have R := Lib.hid r0
      have G := Lib.hid (G.out.trans g0)
      have PV := Lib.hid (PV.out.keptR g0 hrg)
      clear r0 g0
      by_cases hz0 : z = 0
      · subst hz0
        go_wp2_with fail
        go_roundw
        case rel => exact ⟨k - 1, B1 + 1, d9, B2, e2, B9, D2, _, ys, by omega, by go_num, rfl, rfl, by omega, by omega, O1, O2, AP, Lib.hid (R.out.le (by omega)), G⟩
        case measure => simp [intOf]; omega
      · have hzp : (0 : Int) < (z : Int) := by omega
        have c0 := PV.out.c0
        have c1 := PV.out.c1
        have hle2 := G.out.size
        have O1a := Lib.hid (O1.out.alloc (.cells #[.string s1, .string s2] 45))
        have Oq := Lib.hid (Own.one (f := twoT) (E := 45) w10 (⟨s1, hs1'⟩, ⟨s2, hs2'⟩) hle2)
        have Ga := Lib.hid (galloc G.out (.cells #[.string s1, .string s2] 45))
        have Ra := Lib.hid (R.out.keptN (World.grownBy_alloc _ (.cells #[.string s1, .string s2] 45) _))
        have hnn := Lib.hid (fun j (hj : B9 = some ⟨j, 0, none⟩) => (O1.out.2.lt j (by rw [hj]; rfl)).2)
        go_wp2_with (first
          | (at_builtin; refine wpList_app (base := w0.heap.size) (xs := [(⟨s1, hs1'⟩, ⟨s2, hs2'⟩)]) (ys := ys) twoTP oneTP _ rfl (.tmp 33) (.tmp 34) rfl rfl Oq.out rfl ((O2.out.alloc _).has) (by unfold maxLen; omega) (by omega) Ga.out.size ?_; intro B8 d8 w8 o8 g8 alt)
          | fail)
        have AP := Lib.hid (Apart.young O1.out (by simpa [Value.ownBlock] using alt))
        have R := Lib.hid (Oq.out.rd hl0 Ra.out g8)
        have G := Lib.hid (Oq.out.past Ga.out g8)
        have O1 := Lib.hid (O1a.out.kept g8 (fun j hj e => by have := hnn.out j hj; simp [Value.ownBlock] at e; omega))
        have O2 := Lib.hid o8
        clear o8 g8 alt
        go_roundw
        case rel => exact ⟨k - 1, B1 + 1, d9, 1 + B2, d8, B9, B8, _, _, by omega, by go_num, rfl, rfl, by omega, by omega, O1, O2, AP, Lib.hid (R.out.le (by omega)), G⟩
        case measure => simp [intOf]; omega
    · obtain rfl : k = 0 := by omega
      by_cases hB : B2 = 0
      · subst hB
        go_wp2_with fail
        refine (pick_any r _ 4 _ R.out (by omega) (by omega) (by omega)).mono ?_
        rintro e w20 ⟨z4, rfl, hz4, r0, g0⟩
        have O1 := Lib.hid (O1.out.keptR hl0 g0)
        have O2 := Lib.hid (O2.out.keptR hl0 g0)
        have R := Lib.hid r0
        have G := Lib.hid (G.out.trans g0)
        clear r0 g0
        by_cases hz4 : z4 = 0
        · subst hz4
          go_wp2_with fail
          refine (aText_any r _ _ R.out (by omega)).mono ?_
          rintro e w21 ⟨t1, rfl, ht1, r0, g0⟩
          have O1 := Lib.hid (O1.out.keptR hl0 g0)
          have O2 := Lib.hid (O2.out.keptR hl0 g0)
          have R := Lib.hid r0
          have G := Lib.hid (G.out.trans g0)
          clear r0 g0
          have hsum : ¬ (9223372036854775807 < 4 + t1.size) := by omega
          go_wp2_with fail
          refine (aText_any r _ _ R.out (by omega)).mono ?_
          rintro e w22 ⟨t2, rfl, ht2, r0, g0⟩
          have O1 := Lib.hid (O1.out.keptR hl0 g0)
          have O2 := Lib.hid (O2.out.keptR hl0 g0)
          have R := Lib.hid r0
          have G := Lib.hid (G.out.trans g0)
          clear r0 g0
          have ht1' : ((⟨#[109, 111, 114, 101]⟩ : ByteArray) ++ t1).size ≤ maxLen := by rw [ByteArray.size_append, show (⟨#[109, 111, 114, 101]⟩ : ByteArray).size = 4 from rfl]; unfold maxLen; omega
          have ht2' : t2.size ≤ maxLen := by unfold maxLen; omega
          have O1a := Lib.hid (O1.out.alloc (.cells #[.string ((⟨#[109, 111, 114, 101]⟩ : ByteArray) ++ t1), .string t2] 45))
          have O2a := Lib.hid (O2.out.alloc (.cells #[.string ((⟨#[109, 111, 114, 101]⟩ : ByteArray) ++ t1), .string t2] 45))
          have Ga := Lib.hid (galloc G.out (.cells #[.string ((⟨#[109, 111, 114, 101]⟩ : ByteArray) ++ t1), .string t2] 45))
          go_wp2_with (first
            | (at_builtin; refine wpList_app (base := w0.heap.size) (xs := _) (ys := [(⟨_, ht1'⟩, ⟨t2, ht2'⟩)]) twoTP oneTP _ rfl (.tmp 52) (.tmp 59) rfl rfl O2a.out rfl ((Own.one (f := twoT) (base := 0) w22 (⟨_, ht1'⟩, ⟨t2, ht2'⟩) (Nat.zero_le _)).has) (by unfold maxLen; omega) (by omega) Ga.out.size ?_; intro B8 d8 w8 o8 g8 alt)
            | fail)
          have O1 := Lib.hid (O1a.out.keptA AP.out g8)
          have G := Lib.hid (O2a.out.past Ga.out g8)
          have O2 := Lib.hid o8
          go_ret2
          exact ⟨D1, B1, e1, _, B8, (0 + 1), d8, _, rfl, O1.out.has, by omega, O2.out.has, by omega, grown_made W0.out (by rw [← HR.out]; exact G.out)⟩
        · have hbz : ((z4 : Int) == 0) = false := by simp; omega
          go_wp2_with fail
          go_ret2
          exact ⟨D1, B1, e1, _, D2, 0, e2, _, rfl, O1.out.has, by omega, O2.out.has, by omega, grown_made W0.out (by rw [← HR.out]; exact G.out)⟩
      · have hBp : (0 : Int) < (B2 : Int) := by omega
        go_wp2_with fail
        refine (pick_any r _ 4 _ R.out (by omega) (by omega) (by omega)).mono ?_
        rintro e w4 ⟨z3, rfl, hz3, r0, g0⟩
        have O1 := Lib.hid (O1.out.keptR hl0 g0)
        have O2 := Lib.hid (O2.out.keptR hl0 g0)
        have R := Lib.hid r0
        have G := Lib.hid (G.out.trans g0)
        clear r0 g0
        by_cases hz3 : z3 = 0
        · subst hz3
          go_wp2_with fail
          refine (aText_any r _ _ R.out (by omega)).mono ?_
          rintro e w5 ⟨s, rfl, hs, r0, g0⟩
          have O1 := Lib.hid (O1.out.keptR hl0 g0)
          have O2 := Lib.hid (O2.out.keptR hl0 g0)
          have R := Lib.hid r0
          have G := Lib.hid (G.out.trans g0)
          clear r0 g0
          have hky : 0 < ys.length := by have := O2.out.len; omega
          have hs' : s.size ≤ maxLen := by unfold maxLen; omega
          obtain ⟨g, rfl, hgb, hgl, e1', e2', f1, f2⟩ := O2.out.at_ hky
          obtain ⟨pk, hpk⟩ : ∃ p, p = ys[0] := ⟨_, rfl⟩
          obtain ⟨o5, g5⟩ := O2.out.store2 (j := 0) hky (p := (pk.1, ⟨s, hs'⟩)) (by rw [← hpk]; rfl)
          rw [← hpk] at e1' e2'
          simp only [twoT, Nat.zero_mul, Nat.zero_add] at e1' e2' f1 f2 o5 g5
          have O1' := Lib.hid (O1.out.kept g5 (fun j hj e => by injection e with e; subst e; exact AP.out j 0 0 0 0 (by rw [hj]; rfl) rfl))
          have R' := Lib.hid (R.out.kept g5 (fun j hj => by injection hj with hj; omega))
          have G' := Lib.hid (World.grownBy.andThen (row := some r) G.out g5 (fun j hj => .inl (by injection hj with hj; omega)))
          have O2' := Lib.hid o5
          clear o5 g5 hpk O1 O2 R G
          have O1 := O1'
          have O2 := O2'
          have R := R'
          have G := G'
          clear O1' O2' R' G'
          go_wp2_with fail
          refine (pick_any r _ 4 _ R.out (by omega) (by omega) (by omega)).mono ?_
          rintro e w20 ⟨z4, rfl, hz4, r0, g0⟩
          have O1 := Lib.hid (O1.out.keptR hl0 g0)
          have O2 := Lib.hid (O2.out.keptR hl0 g0)
          have R := Lib.hid r0
          have G := Lib.hid (G.out.trans g0)
          clear r0 g0
          by_cases hz4 : z4 = 0
          · subst hz4
            go_wp2_with fail
            refine (aText_any r _ _ R.out (by omega)).mono ?_
            rintro e w21 ⟨t1, rfl, ht1, r0, g0⟩
            have O1 := Lib.hid (O1.out.keptR hl0 g0)
            have O2 := Lib.hid (O2.out.keptR hl0 g0)
            have R := Lib.hid r0
            have G := Lib.hid (G.out.trans g0)
            clear r0 g0
            have hsum : ¬ (9223372036854775807 < 4 + t1.size) := by omega
            go_wp2_with fail
            refine (aText_any r _ _ R.out (by omega)).mono ?_
            rintro e w22 ⟨t2, rfl, ht2, r0, g0⟩
            have O1 := Lib.hid (O1.out.keptR hl0 g0)
            have O2 := Lib.hid (O2.out.keptR hl0 g0)
            have R := Lib.hid r0
            have G := Lib.hid (G.out.trans g0)
            clear r0 g0
            have ht1' : ((⟨#[109, 111, 114, 101]⟩ : ByteArray) ++ t1).size ≤ maxLen := by rw [ByteArray.size_append, show (⟨#[109, 111, 114, 101]⟩ : ByteArray).size = 4 from rfl]; unfold maxLen; omega
            have ht2' : t2.size ≤ maxLen := by unfold maxLen; omega
            have O1a := Lib.hid (O1.out.alloc (.cells #[.string ((⟨#[109, 111, 114, 101]⟩ : ByteArray) ++ t1), .string t2] 45))
            have O2a := Lib.hid (O2.out.alloc (.cells #[.string ((⟨#[109, 111, 114, 101]⟩ : ByteArray) ++ t1), .string t2] 45))
            have Ga := Lib.hid (galloc G.out (.cells #[.string ((⟨#[109, 111, 114, 101]⟩ : ByteArray) ++ t1), .string t2] 45))
            go_wp2_with (first
              | (at_builtin; refine wpList_app (base := w0.heap.size) (xs := _) (ys := [(⟨_, ht1'⟩, ⟨t2, ht2'⟩)]) twoTP oneTP _ rfl (.tmp 52) (.tmp 59) rfl rfl O2a.out rfl ((Own.one (f := twoT) (base := 0) w22 (⟨_, ht1'⟩, ⟨t2, ht2'⟩) (Nat.zero_le _)).has) (by unfold maxLen; omega) (by omega) Ga.out.size ?_; intro B8 d8 w8 o8 g8 alt)
              | fail)
            have O1 := Lib.hid (O1a.out.keptA AP.out g8)
            have G := Lib.hid (O2a.out.past Ga.out g8)
            have O2 := Lib.hid o8
            go_ret2
            exact ⟨D1, B1, e1, _, B8, (B2 + 1), d8, _, rfl, O1.out.has, by omega, O2.out.has, by omega, grown_made W0.out (by rw [← HR.out]; exact G.out)⟩
          · have hbz : ((z4 : Int) == 0) = false := by simp; omega
            go_wp2_with fail
            go_ret2
            exact ⟨D1, B1, e1, _, _, B2, e2, _, rfl, O1.out.has, by omega, O2.out.has, by omega, grown_made W0.out (by rw [← HR.out]; exact G.out)⟩
        · have hbz3 : ((z3 : Int) == 0) = false := by simp; omega
          go_wp2_with fail
          refine (pick_any r _ 4 _ R.out (by omega) (by omega) (by omega)).mono ?_
          rintro e w20 ⟨z4, rfl, hz4, r0, g0⟩
          have O1 := Lib.hid (O1.out.keptR hl0 g0)
          have O2 := Lib.hid (O2.out.keptR hl0 g0)
          have R := Lib.hid r0
          have G := Lib.hid (G.out.trans g0)
          clear r0 g0
          by_cases hz4 : z4 = 0
          · subst hz4
            go_wp2_with fail
            refine (aText_any r _ _ R.out (by omega)).mono ?_
            rintro e w21 ⟨t1, rfl, ht1, r0, g0⟩
            have O1 := Lib.hid (O1.out.keptR hl0 g0)
            have O2 := Lib.hid (O2.out.keptR hl0 g0)
            have R := Lib.hid r0
            have G := Lib.hid (G.out.trans g0)
            clear r0 g0
            have hsum : ¬ (9223372036854775807 < 4 + t1.size) := by omega
            go_wp2_with fail
            refine (aText_any r _ _ R.out (by omega)).mono ?_
            rintro e w22 ⟨t2, rfl, ht2, r0, g0⟩
            have O1 := Lib.hid (O1.out.keptR hl0 g0)
            have O2 := Lib.hid (O2.out.keptR hl0 g0)
            have R := Lib.hid r0
            have G := Lib.hid (G.out.trans g0)
            clear r0 g0
            have ht1' : ((⟨#[109, 111, 114, 101]⟩ : ByteArray) ++ t1).size ≤ maxLen := by rw [ByteArray.size_append, show (⟨#[109, 111, 114, 101]⟩ : ByteArray).size = 4 from rfl]; unfold maxLen; omega
            have ht2' : t2.size ≤ maxLen := by unfold maxLen; omega
            have O1a := Lib.hid (O1.out.alloc (.cells #[.string ((⟨#[109, 111, 114, 101]⟩ : ByteArray) ++ t1), .string t2] 45))
            have O2a := Lib.hid (O2.out.alloc (.cells #[.string ((⟨#[109, 111, 114, 101]⟩ : ByteArray) ++ t1), .string t2] 45))
            have Ga := Lib.hid (galloc G.out (.cells #[.string ((⟨#[109, 111, 114, 101]⟩ : ByteArray) ++ t1), .string t2] 45))
            go_wp2_with (first
              | (at_builtin; refine wpList_app (base := w0.heap.size) (xs := _) (ys := [(⟨_, ht1'⟩, ⟨t2, ht2'⟩)]) twoTP oneTP _ rfl (.tmp 52) (.tmp 59) rfl rfl O2a.out rfl ((Own.one (f := twoT) (base := 0) w22 (⟨_, ht1'⟩, ⟨t2, ht2'⟩) (Nat.zero_le _)).has) (by unfold maxLen; omega) (by omega) Ga.out.size ?_; intro B8 d8 w8 o8 g8 alt)
              | fail)
            have O1 := Lib.hid (O1a.out.keptA AP.out g8)
            have G := Lib.hid (O2a.out.past Ga.out g8)
            have O2 := Lib.hid o8
            go_ret2
            exact ⟨D1, B1, e1, _, B8, (B2 + 1), d8, _, rfl, O1.out.has, by omega, O2.out.has, by omega, grown_made W0.out (by rw [← HR.out]; exact G.out)⟩
          · have hbz : ((z4 : Int) == 0) = false := by simp; omega
            go_wp2_with fail
            go_ret2
            exact ⟨D1, B1, e1, _, D2, B2, e2, _, rfl, O1.out.has, by omega, O2.out.has, by omega, grown_made W0.out (by rw [← HR.out]; exact G.out)⟩
end Go.Proofs.Ytmldacjpbifoaaa
