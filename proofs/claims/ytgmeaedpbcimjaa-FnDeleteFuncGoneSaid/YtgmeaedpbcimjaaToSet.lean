/-
  What is proved here: the contract of toSet: the set of a list of pairs; and that a look-up in it tells whether a pair is on the list.
  Conditions: the list has fewer than 2^43 pairs.
-/
import Derived.Test.YtgmeaedpbcimjaaToMap
import Derived.DeepKeys4
namespace Go.Proofs.Ytgmeaedpbcimjaa
open Go.RowKit Go.Maps

theorem laidOutP : laidOutB Try.prog = true := by kernel_rfl
theorem rowP : 30 < Try.prog.types.size := of_decide_eq_true (by kernel_rfl)
theorem wideP : (match Try.prog.underlying 30 with | some (.array _ _) | some (.struct _) => true | _ => false) = true := by rw [Try.underlying30]
theorem lawP : Keyed Try.prog 30 := Keyed.of_law (deep_law_laid laidOutP (m := 2) (by omega) rowP (by kernel_rfl) wideP)
theorem zeroB (w : World) : (zeroValue 4).run Try.prog w = .ok (.bool false) w := by kernel_rfl

/-- what a pair reads as as a key -/
def kp (p : I × I) : Lit := .string (keyBytes [.int .i64 p.1.1, .int .i64 p.2.1])
def aggP (p : I × I) : Value := .agg #[.int .i64 p.1.1, .int .i64 p.2.1]

theorem keyP (p : I × I) : keyOf Try.prog 30 (aggP p) = some (kp p) := by
  have hc : Try.prog.cellsOf 30 = 2 := by kernel_rfl
  have hi : Try.prog.cellsOf 3 = 1 := by kernel_rfl
  have h1 : ∀ d, Try.prog.keyLits (d + 1) 3 [.int .i64 p.1.1] = some [.int .i64 p.1.1] := fun d => by simp [Program.keyLits, Try.underlying3, p.1.2]
  have h2 : ∀ d, Try.prog.keyLits (d + 1) 3 [.int .i64 p.2.1] = some [.int .i64 p.2.1] := fun d => by simp [Program.keyLits, Try.underlying3, p.2.2]
  obtain ⟨m, hm⟩ : ∃ m, Try.prog.types.size = m + 1 := ⟨Try.prog.types.size - 1, by have := rowP; omega⟩
  have hkt : Try.prog.keyType 30 = true := by kernel_rfl
  have hf : Value.formed Try.prog 30 (aggP p) = true := by simp [aggP, Value.formed, Try.underlying30, hc]
  unfold keyOf
  rw [Try.underlying30]
  simp only [hkt, hf, Bool.and_self, if_true, hm]
  unfold Program.keyLits
  simp [Try.underlying30, aggP, Value.cells, hc, hi, h1, h2, kp]

theorem kp_inj {p q : I × I} (h : kp p = kp q) : p = q := by
  have := lawP.inj (keyP p) (h ▸ keyP q)
  simp [aggP] at this
  exact Prod.ext (Subtype.ext this.1) (Subtype.ext this.2)

theorem kp_key (p : I × I) : WideAt.IsKeyLit (kp p) := trivial
theorem kp_same (p q : I × I) : (kp p).sameKey (kp q) = decide (p = q) := by
  rw [Bool.eq_iff_iff, WideAt.sameKey_iff (kp_key q)]
  simp only [decide_eq_true_eq]
  exact ⟨kp_inj, fun e => by rw [e]⟩

/-- the data of the set of a list of pairs -/
def setD (xs : List (I × I)) : Dt := Maps.setOf (.lit (.bool true)) (xs.map kp)
abbrev SetP (w : World) (b n : Nat) (xs : List (I × I)) : Prop := w.ownsMap Try.prog 30 (plainElem Try.prog 4) b n (setD xs)

theorem setD_snoc (xs : List (I × I)) (p : I × I) : setD (xs ++ [p]) = (setD xs).put (kp p) (.lit (.bool true)) := by
  unfold setD
  rw [List.map_append, List.map_singleton, Maps.setOf_snoc]

theorem setD_isMap (xs : List (I × I)) : IsMap (setD xs) := (Maps.tidy_setOf _ _ (fun x hx => by obtain ⟨p, _, rfl⟩ := List.mem_map.1 hx; exact kp_key p)).isMap

/-- what a look-up gives, on the reversed list -/
theorem at_setR (ys : List (I × I)) (p : I × I) : (setD ys.reverse).atKey (kp p) (.lit (.bool false)) = .lit (.bool (decide (p ∈ ys))) := by
  induction ys with
  | nil => rfl
  | cons q r ih =>
    rw [List.reverse_cons, setD_snoc]
    by_cases h : p = q
    · subst h
      rw [Maps.atKey_put_same (setD_isMap _) (kp_key _)]
      simp
    · rw [Maps.atKey_put_other (fun e => h (kp_inj e)), ih]
      simp [h]

theorem at_set (xs : List (I × I)) (p : I × I) : (setD xs).atKey (kp p) (.lit (.bool false)) = .lit (.bool (decide (p ∈ xs))) := by
  have := at_setR xs.reverse p
  simpa using this

/-- a look-up in the set -/
theorem set_look {w : World} {b n : Nat} {xs : List (I × I)} (h : SetP w b n xs) (p : I × I) : (Instr.lookup 47 (.map (some b)) (aggP p) false).run Try.prog w = .ok (.bool (decide (p ∈ xs))) w := by
  obtain ⟨v, ps, hrun, hv⟩ := h.lookup lawP Try.underlying47 (zeroB w) (plainElem_bool Try.underlying4 false) (keyP p)
  rw [hrun]
  rw [at_set] at hv
  unfold plainElem at hv
  rw [Try.underlying4] at hv
  cases v <;> simp at hv
  rw [hv.1]

set_option maxRecDepth 100000 in
set_option maxHeartbeats 1000000 in
theorem toSet_any (A : Option Addr) (n c : Nat) (xs : List (I × I)) (w : World) (h : Has w 2 A n (cells2 xs)) (hn : n ≤ 8796093022208) :
    Calls Try.prog 37 #[.slice A n c] w fun e w' => e = .returned (.map (some w.heap.size)) ∧ SetP w' w.heap.size n xs ∧ w.grownBy w' none := by
  have hmm := @run_makeMap Try.prog
  have hlen := Lib.hid h.len2
  have HX := Lib.hid h
  clear h
  go_enter Try.func37, Try.ntmps37
  go_wp2
  go_loopw [9] (fun i wr => ∃ k : Nat, k ≤ n ∧ i = .int .i64 k ∧ SetP wr w.heap.size k (xs.take k) ∧ w.grownBy wr none)
    (fun i _ => n - (intOf i).toNat)
  case atStart => exact ⟨0, Nat.zero_le _, rfl, World.ownsMap_made _ _ _ _, World.grownBy_alloc _ _ _⟩
  case round =>
    obtain ⟨k, hk, rfl, hown, hgw⟩ := hrel
    by_cases hlt : k < n
    · have hkx : k < xs.length := by have := hlen.out; omega
      obtain ⟨b, off, rfl, hb, h1, h2⟩ := (HX.out.kept hgw).pair hkx
      obtain ⟨p, hp⟩ : ∃ p, p = xs[k] := ⟨_, rfl⟩
      rw [← hp] at h1 h2
      have HK := Lib.hid (keyP p)
      have HT : Hid (setD (xs.take (k + 1)) = (setD (xs.take k)).put (kp p) (.lit (.bool true))) := by
        show setD (xs.take (k + 1)) = _
        rw [List.take_succ_eq_append_getElem hkx, setD_snoc, hp]
      clear hp HX hlen
      go_wp2_with (first
        | (at_mapUpdate; refine wpList_mapUpdate_own _ rfl _ _ _ 47 rfl 30 4 lawP Try.underlying47 _ w.heap.size k _ rfl (hown.alloc _) (by unfold maxLen; omega) _ _ _ rfl rfl HK.out _ [] (plainElem_bool Try.underlying4 true) ?_; intro w1 hown1 hgrow1)
        | go_in)
      go_roundw
      case rel => exact ⟨k + 1, by omega, by go_num, by unfold SetP; rw [HT.out]; exact hown1, (hgw.andThen (World.grownBy_alloc wr _ none) (fun j hj => by cases hj)).andThen hgrow1 (fun j hj => .inl (by cases hj; exact Nat.le_refl _))⟩
      case measure => simp [intOf]; omega
    · go_wp2
      go_ret
      have : k = n := by omega
      subst this
      rw [List.take_of_length_le (Nat.le_of_eq hlen.out)] at hown
      exact ⟨rfl, hown, hgw⟩
end Go.Proofs.Ytgmeaedpbcimjaa
