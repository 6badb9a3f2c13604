/-
  What is proved here: the reader of drawn numbers (spec.rd) in memory, what keeps it, and the contract of its pick: it returns a number below n and turns nothing but the reader's own place.
  Conditions: the code has at most 2^20 bytes; fewer than 2^32 numbers have been drawn.
-/
import Derived.Test.YtmldacjpbifoaaaAppend
import Derived.Test.YtmldacjpbifoaaaOpen
import Derived.WalkKit
import Derived.Lib.Hide
import Derived.WalkSpells
import Derived.WalkLawsBesides
import Derived.Deep.QuietTactic
import Derived.BigQuiet
import Derived.IntWalk
namespace Go.Proofs.Ytmldacjpbifoaaa
open Go.RowKit Go.Maps

/-- block r is a reader over a code of few bytes that lies in an elder block; it has drawn p numbers -/
structure RdAt (w : World) (r : Nat) (A : Option Addr) (n c : Nat) (zs : List Int) (p : Nat) : Prop where
  lt : r < w.heap.size
  c0 : w.cell? ⟨r, 0, none⟩ = some (.slice A n c)
  c1 : w.cell? ⟨r, 1, none⟩ = some (.int .i64 (p : Int))
  fr : w.frozen? ⟨r, 1, none⟩ = false
  has : Has w 1 A n (zs.map (Value.int .u8))
  rng : ∀ z ∈ zs, 0 ≤ z ∧ z ≤ 255
  elder : 0 < n → ∀ a, A = some a → a.block < r
  small : n ≤ 1048576

/-- .. at most q numbers -/
def Rd (w : World) (r q : Nat) : Prop := ∃ A n c zs p, p ≤ q ∧ RdAt w r A n c zs p

theorem RdAt.kept {w w' : World} {r n c p : Nat} {A : Option Addr} {zs : List Int} {row : Option Nat} (h : RdAt w r A n c zs p) (hg : w.grownBy w' row) (hne : ∀ g, row = some g → r < g) : RdAt w' r A n c zs p := by
  have hr : some r ≠ row := fun e => absurd (hne r e.symm) (by omega)
  refine ⟨Nat.lt_of_lt_of_le h.lt hg.size, hg.cell h.c0 hr, hg.cell h.c1 hr, ?_, ⟨h.has.1, fun h0 => ?_⟩, h.rng, h.elder, h.small⟩
  · rw [hg.frozen_far ⟨r, 1, none⟩ h.lt hr]; exact h.fr
  · obtain ⟨b, off, e, hb, hc⟩ := h.has.2 h0
    have hbr := h.elder h0 _ e
    refine ⟨b, off, e, Nat.lt_of_lt_of_le hb hg.size, fun j u hu => hg.cell (hc j u hu) fun e' => ?_⟩
    have := hne b e'.symm
    simp at hbr
    omega

theorem Rd.kept {w w' : World} {r q : Nat} {row : Option Nat} (h : Rd w r q) (hg : w.grownBy w' row) (hne : ∀ g, row = some g → r < g) : Rd w' r q := by
  obtain ⟨A, n, c, zs, p, hp, h⟩ := h
  exact ⟨A, n, c, zs, p, hp, h.kept hg hne⟩
theorem Rd.keptN {w w' : World} {r q : Nat} (h : Rd w r q) (hg : w.grownBy w' none) : Rd w' r q := h.kept hg (by simp)
theorem Rd.le {w : World} {r q q' : Nat} (h : Rd w r q) (hq : q ≤ q') : Rd w r q' := by
  obtain ⟨A, n, c, zs, p, hp, h⟩ := h
  exact ⟨A, n, c, zs, p, by omega, h⟩
theorem Rd.lt {w : World} {r q : Nat} (h : Rd w r q) : r < w.heap.size := by
  obtain ⟨A, n, c, zs, p, hp, h⟩ := h
  exact h.lt
theorem Rd.drew {w : World} {r q : Nat} (h : Rd w r q) : Rd w.drew r q := h.keptN (gdrew (World.grownBy.refl w _))
theorem Rd.drewN {w : World} {r q : Nat} (h : Rd w r q) (k : Nat) : Rd (w.drewN k) r q := h.keptN (gdrewN (World.grownBy.refl w _) k)

theorem grown_setCell (w : World) (a : Addr) (u : Value) : w.grownBy (w.setCell a u) (some a.block) :=
  ⟨rfl, rfl, rfl, by simp, fun k _ hk => heap_setCell_other w a k u (fun e => hk (by rw [e]))⟩

theorem RdAt.next {w : World} {r n c p : Nat} {A : Option Addr} {zs : List Int} (h : RdAt w r A n c zs p) : RdAt (w.setCell ⟨r, 1, none⟩ (.int .i64 ((p : Int) + 1))) r A n c zs (p + 1) := by
  have hg := grown_setCell w ⟨r, 1, none⟩ (.int .i64 ((p : Int) + 1))
  refine ⟨Nat.lt_of_lt_of_le h.lt hg.size, ?_, ?_, ?_, ⟨h.has.1, fun h0 => ?_⟩, h.rng, h.elder, h.small⟩
  · rw [World.cell?_setCell_other _ _ _ _ (by simp)]; exact h.c0
  · rw [World.cell?_setCell_same' _ _ _ (by rw [h.c1]; rfl)]; simp
  · rw [World.frozen?_setCell]; exact h.fr
  · obtain ⟨b, off, e, hb, hc⟩ := h.has.2 h0
    have hbr := h.elder h0 _ e
    refine ⟨b, off, e, Nat.lt_of_lt_of_le hb hg.size, fun j u hu => hg.cell (hc j u hu) fun e' => ?_⟩
    simp at hbr e'
    omega

theorem xor_i64_nat (a b : Nat) (ha : a < 9223372036854775808) (hb : b < 9223372036854775808) :
    ∃ x : Nat, bits .xor .i64 (a : Int) (b : Int) = (x : Int) ∧ x < 9223372036854775808 := by
  have hx : a ^^^ b < 2 ^ 63 := Nat.xor_lt_two_pow (by omega) (by omega)
  have h1 : (BitVec.ofInt 64 (a : Int)).toNat = a := by
    rw [BitVec.ofInt_natCast, BitVec.toNat_ofNat]; exact Nat.mod_eq_of_lt (by omega)
  have h2 : (BitVec.ofInt 64 (b : Int)).toNat = b := by
    rw [BitVec.ofInt_natCast, BitVec.toNat_ofNat]; exact Nat.mod_eq_of_lt (by omega)
  refine ⟨a ^^^ b, ?_, hx⟩
  show IntKind.i64.wrap ((BitVec.ofInt 64 (a : Int) ^^^ BitVec.ofInt 64 (b : Int)).toNat : Int) = _
  rw [BitVec.toNat_xor, h1, h2, IntWalk.i64_in _ (by omega)]

theorem RdAt.byte {w : World} {r n c p : Nat} {A : Option Addr} {zs : List Int} (h : RdAt w r A n c zs p) {i : Nat} (hi : i < n) : ∃ b off z, A = some ⟨b, off, none⟩ ∧ w.cell? ⟨b, off + i, none⟩ = some (.int .u8 z) ∧ 0 ≤ z ∧ z ≤ 255 := by
  have hl : zs.length = n := by simpa using h.has.1
  obtain ⟨b, off, e, _, hc⟩ := h.has.2 (by omega)
  have hz : i < zs.length := by omega
  refine ⟨b, off, zs[i], e, hc i _ (by simp [hz]), h.rng _ (List.getElem_mem hz)⟩

set_option maxRecDepth 100000 in
set_option maxHeartbeats 4000000 in
theorem pick_any (r q k : Nat) (w : World) (h : Rd w r q) (hq : q ≤ 4294967296) (hk : 0 < k) (hk' : k ≤ 4294967296) :
    Calls Try.prog 16 #[.pointer (some ⟨r, 0, none⟩), .int .i64 (k : Int)] w fun e w' => ∃ x : Nat, e = .returned (.int .i64 (x : Int)) ∧ x < k ∧ Rd w' r (q + 1) ∧ w.grownBy w' (some r) := by
  obtain ⟨A, n, c, zs, p, hp, h⟩ := h
  have H := Lib.hid h
  have G := Lib.hid (grown_setCell w ⟨r, 1, none⟩ (.int .i64 ((p : Int) + 1)))
  have h0 := h.c0
  have h1 := h.c1
  have hf := h.fr
  have hlt := h.lt
  have hsm := h.small
  have hel := Lib.hid h.elder
  clear h
  have hnk : ¬ ((k : Int) < 1) := by omega
  by_cases hn : n = 0
  · subst hn
    go_enter Try.func16, Try.ntmps16
    go_wp2_with fail
    go_ret
    exact ⟨0, rfl, hk, ⟨A, 0, c, zs, p + 1, by omega, H.out.next⟩, G.out⟩
  · have hb0 : ((n : Int) == 0) = false := by simp; omega
    by_cases hpn : p < n
    · obtain ⟨b, off, z, rfl, hz, z0, z1⟩ := H.out.byte hpn
      have hbr : b ≠ r := by have := hel.out (by omega) _ rfl; simp at this; omega
      have i1 : (0 : Int) ≤ (p : Int) := by omega
      have i2 : (p : Int) < (n : Int) := by omega
      go_enter Try.func16, Try.ntmps16
      go_wp2_with fail
      go_ret
      refine ⟨(z % (k : Int)).toNat, ?_, ?_, ⟨_, n, c, zs, p + 1, by omega, H.out.next⟩, G.out⟩
      · have := Int.emod_nonneg z (b := (k : Int)) (by omega)
        show Ending.returned (Value.int .i64 (z % (k : Int))) = _
        rw [Int.toNat_of_nonneg this]
      · have := Int.emod_nonneg z (b := (k : Int)) (by omega)
        have := Int.emod_lt_of_pos z (b := (k : Int)) (by omega)
        omega
    · have hlt2 : ¬ ((p : Int) < (n : Int)) := by omega
      obtain ⟨i, hi⟩ : ∃ i, i = p % n := ⟨_, rfl⟩
      obtain ⟨j, hj⟩ : ∃ j, j = (p * 7 + 3) % n := ⟨_, rfl⟩
      obtain ⟨d, hd⟩ : ∃ d, d = p / n := ⟨_, rfl⟩
      have hin : i < n := by rw [hi]; exact Nat.mod_lt _ (by omega)
      have hjn : j < n := by rw [hj]; exact Nat.mod_lt _ (by omega)
      have hdp : d ≤ p := by rw [hd]; exact Nat.div_le_self _ _
      obtain ⟨b, off, z, rfl, hz, z0, z1⟩ := H.out.byte hin
      obtain ⟨b', off', y, hbb, hy, y0, y1⟩ := H.out.byte hjn
      cases hbb
      have hbr : b ≠ r := by have := hel.out (by omega) _ rfl; simp at this; omega
      have e1 : (p : Int).tmod (n : Int) = (i : Int) := by rw [hi]; rfl
      have e2 : IntKind.i64.wrap ((p : Int) * 7) = (p : Int) * 7 := IntWalk.i64_in _ (by omega)
      have e3 : IntKind.i64.wrap ((p : Int) * 7 + 3) = (p : Int) * 7 + 3 := IntWalk.i64_in _ (by omega)
      have e4 : ((p : Int) * 7 + 3).tmod (n : Int) = (j : Int) := by rw [hj]; rfl
      have e5 : (p : Int).tdiv (n : Int) = (d : Int) := by rw [hd]; rfl
      have e5' : IntKind.i64.wrap (d : Int) = (d : Int) := IntWalk.i64_in _ (by omega)
      clear hi hj hd
      have e6 : IntKind.i64.wrap z = z := IntWalk.i64_in _ (by omega)
      have e7 : IntKind.i64.wrap y = y := IntWalk.i64_in _ (by omega)
      have e8 : IntKind.i64.wrap (z * 131) = z * 131 := IntWalk.i64_in _ (by omega)
      have e9 : IntKind.i64.wrap (y * 1117) = y * 1117 := IntWalk.i64_in _ (by omega)
      have e10 : IntKind.i64.wrap (z * 131 + y * 1117) = z * 131 + y * 1117 := IntWalk.i64_in _ (by omega)
      have e11 : IntKind.i64.wrap ((p : Int) * 29) = (p : Int) * 29 := IntWalk.i64_in _ (by omega)
      have e12 : IntKind.i64.wrap (z * 131 + y * 1117 + (p : Int) * 29) = z * 131 + y * 1117 + (p : Int) * 29 := IntWalk.i64_in _ (by omega)
      have e13 : IntKind.i64.wrap ((d : Int) * 53) = (d : Int) * 53 := IntWalk.i64_in _ (by omega)
      have e14 : IntKind.i64.wrap (z * 131 + y * 1117 + (p : Int) * 29 + (d : Int) * 53) = z * 131 + y * 1117 + (p : Int) * 29 + (d : Int) * 53 := IntWalk.i64_in _ (by omega)
      have i1 : (0 : Int) ≤ (i : Int) := by omega
      have i2 : (i : Int) < (n : Int) := by omega
      have j1 : (0 : Int) ≤ (j : Int) := by omega
      have j2 : (j : Int) < (n : Int) := by omega
      have hn0 : ¬ ((n : Int) = 0) := by omega
      go_enter Try.func16, Try.ntmps16
      go_wp2_with fail
      go_quiet (fail)
      obtain ⟨X, hX, hX'⟩ : ∃ X : Nat, z * 131 + y * 1117 + (p : Int) * 29 + (d : Int) * 53 = (X : Int) ∧ X < 9223372036854775808 := ⟨(z * 131 + y * 1117 + (p : Int) * 29 + (d : Int) * 53).toNat, by omega, by omega⟩
      rw [hX]
      obtain ⟨x, hx, hx'⟩ := xor_i64_nat X (X / 64) hX' (by omega)
      have hx2 : bits .xor .i64 (X : Int) ((X : Int) / 64) = (x : Int) := hx
      clear hx
      clear hX e14 e12 e10 e13 e11 e9 e8 e7 e6 e5 e5' e4 e3 e2 e1
      go_wp2_with fail
      go_ret
      refine ⟨x % k, ?_, Nat.mod_lt _ hk, ⟨some ⟨b, off, none⟩, n, c, zs, p + 1, by omega, ?_⟩, gdrewN G.out _⟩
      · rfl
      · have hh := H.out.next
        exact ⟨hh.lt, hh.c0, hh.c1, hh.fr, hh.has, hh.rng, hh.elder, hh.small⟩
end Go.Proofs.Ytmldacjpbifoaaa
