/-
  What is proved here: the given statement FnExactEqualTextsSaid, out of the walk through the law's code.
  Conditions: those of the statement.
-/
import Derived.Test.YtmkoanbbgmjhbaaFnExactEqualTextsWalk
import Derived.Test.YtmkoanbbgmjhbaaOpen
import Derived.WalkKit
import Derived.ProofKit
import Derived.OpenShut
import Derived.ShutString
import Derived.ChangeOld
import Derived.Below
import Derived.SizedLaws
import Derived.Lib.SmallJoins
namespace Go.Proofs.Ytmkoanbbgmjhbaa.fnExactEqualTexts
open Go.ChangeShapes Go.WideShapes Go.ChangeAt Go.RowKit
set_option linter.unusedVariables false

theorem own : ownKnob Try.prog.godebug = none := by kernel_rfl
theorem laidOut : laidOutB Try.prog = true := by kernel_rfl

set_option maxRecDepth 100000 in
theorem lifted (os : Os) (started : os.Started) (H : Type) (enc : TypeId × Value → H) :
    ReturnsInHanded {} Try.checked os 7 .any (Rows.fnExactEqualTextsSpec.pre6 enc Try.prog Try.f7 Rows.fnExactEqualTextsRow.domain false) (Rows.fnExactEqualTextsSpec.post enc Try.prog Try.f7 false true false false) := by
  refine returnsInHanded_of_change_sized (C := Try.checked) own started (by kernel_rfl) Try.func7
    (ChangeSpec.witness6 (enc := enc) (C := Try.checked) false ⟨#[], #[.slice none 0 0, .slice none 0 0], []⟩ 8 (by kernel_rfl) (by kernel_rfl) (by kernel_rfl) (by kernel_rfl)) ?_
  intro W base args ds gs before hval0 hW hcnd hsz0 _
  have hsz : (DataW.weightsEach Try.prog (Try.f7.params.toList ++ Rows.fnExactEqualTextsSpec.plain.varTypes Try.prog) (ds ++ gs)).all (· ≤ reachBytes) = true := hsz0
  clear hsz0
  have hval : ∀ (j : Nat) t v, Try.f7.params[j]? = some t → args[j]? = some v → Value.okWide Try.prog W .any base t v := hval0
  have hW' := hW
  obtain ⟨p, q, hA0, hV, rfl, hfz, hnd⟩ := hW
  have hA : DataW.TrodAll enc Try.prog W 0 (fun _ => true) true Try.f7.params.toList args.toList ds p := hA0
  rw [Try.params7] at hA hval hsz
  obtain ⟨v0, vs0, d0, ds0, p0, q0, hargs, rfl, rfl, h0, r0⟩ := trodAll_cons hA
  obtain ⟨v1, vs1, d1, ds1, p1, q1, rfl, rfl, rfl, h1, r1⟩ := trodAll_cons r0
  obtain ⟨rfl, rfl, rfl⟩ := trodAll_nil r1
  obtain rfl : args = #[v0, v1] := by cases args; simp_all
  obtain ⟨rfl, rfl⟩ := trodVars_none hV
  have k0 := h0
  have lt0 : ∀ x ∈ p0, x.block < W.heap.size := by obtain ⟨m, hm⟩ := k0; exact DataW.trod_lt m _ _ _ hm
  obtain ⟨a0, len0, cap0, rfl⟩ := okWide_slice Try.underlying29 (hval 0 29 v0 rfl rfl)
  obtain ⟨z0, w0, s0⟩ : ∃ xs, Arg twoT W a0 len0 cap0 xs ∧ len0 * 32 ≤ 140737488351232 := by
    obtain ⟨fuel, hf⟩ := h0
    obtain ⟨xs, hx, hd⟩ := open_texts hf
    refine ⟨xs, hx, ?_⟩
    rcases hd with hd | ⟨es, sp, hd, hl⟩
    · rw [nil_len Try.underlying29 hf hd]; omega
    · have hd' : d0 = .slice es sp := hd
      subst hd'
      have := sized_slice hsz (j := 0) (t := 29) (e := 58) rfl rfl Try.underlying29
      rw [show Try.prog.bytesOf 58 = 32 from by kernel_rfl] at this
      simp only [reachBytes] at this
      omega
  have k1 := h1
  have lt1 : ∀ x ∈ p1, x.block < W.heap.size := by obtain ⟨m, hm⟩ := k1; exact DataW.trod_lt m _ _ _ hm
  obtain ⟨a1, len1, cap1, rfl⟩ := okWide_slice Try.underlying29 (hval 1 29 v1 rfl rfl)
  obtain ⟨z1, w1, s1⟩ : ∃ xs, Arg twoT W a1 len1 cap1 xs ∧ len1 * 32 ≤ 140737488351232 := by
    obtain ⟨fuel, hf⟩ := h1
    obtain ⟨xs, hx, hd⟩ := open_texts hf
    refine ⟨xs, hx, ?_⟩
    rcases hd with hd | ⟨es, sp, hd, hl⟩
    · rw [nil_len Try.underlying29 hf hd]; omega
    · have hd' : d1 = .slice es sp := hd
      subst hd'
      have := sized_slice hsz (j := 1) (t := 29) (e := 58) rfl rfl Try.underlying29
      rw [show Try.prog.bytesOf 58 = 32 from by kernel_rfl] at this
      simp only [reachBytes] at this
      omega
  clear hA0 hval0
  refine (walk a0 len0 cap0 z0 a1 len1 cap1 z1 W w0 s0 w1 s1).mono fun e W' ⟨he, hg⟩ => ?_
  subst he
  have bel : Below W.heap.size W W' := (Below.refl _ _).grown hg (Nat.le_refl _) (by simp)
  exact ⟨_, rfl, _, _, _, [], _, [], hW', trodAll_mk1 (shut_bool Try.underlying4 _), (trodAll_cons_mk (Below.trod laidOut (by kernel_rfl) (of_decide_eq_true (by kernel_rfl)) k0 bel lt0) (trodAll_cons_mk (Below.trod laidOut (by kernel_rfl) (of_decide_eq_true (by kernel_rfl)) k1 bel lt1) trodAll_mk0)), rfl, bel.frame _, fun h => by cases h⟩

theorem over : Rows.fnExactEqualTextsRow.holds Try.pinned (OpenSpec.ofChange Rows.fnExactEqualTextsSpec) :=
  OpenClaim.holds_of_wide 7 Try.f7 rfl rfl rfl rfl rfl rfl rfl ⟨rfl, rfl, rfl, rfl, rfl⟩ rfl rfl rfl rfl rfl (by kernel_rfl) Try.func7 (by kernel_rfl)
    (of_decide_eq_true (by kernel_rfl)) (by unfold Func.isWrapper; first | (rw [if_pos (by decide +kernel)]; kernel_rfl) | (rw [if_neg (by decide +kernel)]; exact ⟨rfl, rfl⟩))
    (fun os started H enc _ => lifted os started H enc)

theorem proved : Rows.FnExactEqualTextsSaid := over
#print axioms proved
end Go.Proofs.Ytmkoanbbgmjhbaa.fnExactEqualTexts
