/-
  What is proved here: the given statement FnExactEqualFloatsSaid, out of the walk through the law's code.
  Conditions: those of the statement.
-/
import Derived.Test.YtmkoanbbgmjhbaaFnExactEqualFloatsWalk
import Derived.Test.YtmkoanbbgmjhbaaOpen
import Derived.WalkKit
import Derived.ProofKit
import Derived.OpenShut
import Derived.ShutString
import Derived.ChangeOld
import Derived.Below
import Derived.SizedLaws
import Derived.Lib.SmallJoins
namespace Go.Proofs.Ytmkoanbbgmjhbaa.fnExactEqualFloats
open Go.ChangeShapes Go.WideShapes Go.ChangeAt Go.RowKit
set_option linter.unusedVariables false

theorem own : ownKnob Try.prog.godebug = none := by kernel_rfl
theorem laidOut : laidOutB Try.prog = true := by kernel_rfl

set_option maxRecDepth 100000 in
theorem lifted (os : Os) (started : os.Started) (H : Type) (enc : TypeId × Value → H) :
    ReturnsInHanded {} Try.checked os 6 .any (Rows.fnExactEqualFloatsSpec.pre6 enc Try.prog Try.f6 Rows.fnExactEqualFloatsRow.domain false) (Rows.fnExactEqualFloatsSpec.post enc Try.prog Try.f6 false true false false) := by
  refine returnsInHanded_of_change_sized (C := Try.checked) own started (by kernel_rfl) Try.func6
    (ChangeSpec.witness6 (enc := enc) (C := Try.checked) false ⟨#[], #[.slice none 0 0, .slice none 0 0], []⟩ 8 (by kernel_rfl) (by kernel_rfl) (by kernel_rfl) (by kernel_rfl)) ?_
  intro W base args ds gs before hval0 hW hcnd hsz0 _
  have hsz : (DataW.weightsEach Try.prog (Try.f6.params.toList ++ Rows.fnExactEqualFloatsSpec.plain.varTypes Try.prog) (ds ++ gs)).all (· ≤ reachBytes) = true := hsz0
  clear hsz0
  have hval : ∀ (j : Nat) t v, Try.f6.params[j]? = some t → args[j]? = some v → Value.okWide Try.prog W .any base t v := hval0
  have hW' := hW
  obtain ⟨p, q, hA0, hV, rfl, hfz, hnd⟩ := hW
  have hA : DataW.TrodAll enc Try.prog W 0 (fun _ => true) true Try.f6.params.toList args.toList ds p := hA0
  rw [Try.params6] at hA hval hsz
  obtain ⟨v0, vs0, d0, ds0, p0, q0, hargs, rfl, rfl, h0, r0⟩ := trodAll_cons hA
  obtain ⟨v1, vs1, d1, ds1, p1, q1, rfl, rfl, rfl, h1, r1⟩ := trodAll_cons r0
  obtain ⟨rfl, rfl, rfl⟩ := trodAll_nil r1
  obtain rfl : args = #[v0, v1] := by cases args; simp_all
  obtain ⟨rfl, rfl⟩ := trodVars_none hV
  have k0 := h0
  have lt0 : ∀ x ∈ p0, x.block < W.heap.size := by obtain ⟨m, hm⟩ := k0; exact DataW.trod_lt m _ _ _ hm
  obtain ⟨a0, len0, cap0, rfl⟩ := okWide_slice Try.underlying27 (hval 0 27 v0 rfl rfl)
  obtain ⟨z0, w0, s0⟩ : ∃ xs, Arg twoF W a0 len0 cap0 xs ∧ len0 * 16 ≤ 140737488351232 := by
    obtain ⟨fuel, hf⟩ := h0
    obtain ⟨xs, hx, hd⟩ := open_floats hf
    refine ⟨xs, hx, ?_⟩
    rcases hd with hd | ⟨es, sp, hd, hl⟩
    · rw [nil_len Try.underlying27 hf hd]; omega
    · have hd' : d0 = .slice es sp := hd
      subst hd'
      have := sized_slice hsz (j := 0) (t := 27) (e := 51) rfl rfl Try.underlying27
      rw [show Try.prog.bytesOf 51 = 16 from by kernel_rfl] at this
      simp only [reachBytes] at this
      omega
  have k1 := h1
  have lt1 : ∀ x ∈ p1, x.block < W.heap.size := by obtain ⟨m, hm⟩ := k1; exact DataW.trod_lt m _ _ _ hm
  obtain ⟨a1, len1, cap1, rfl⟩ := okWide_slice Try.underlying27 (hval 1 27 v1 rfl rfl)
  obtain ⟨z1, w1, s1⟩ : ∃ xs, Arg twoF W a1 len1 cap1 xs ∧ len1 * 16 ≤ 140737488351232 := by
    obtain ⟨fuel, hf⟩ := h1
    obtain ⟨xs, hx, hd⟩ := open_floats hf
    refine ⟨xs, hx, ?_⟩
    rcases hd with hd | ⟨es, sp, hd, hl⟩
    · rw [nil_len Try.underlying27 hf hd]; omega
    · have hd' : d1 = .slice es sp := hd
      subst hd'
      have := sized_slice hsz (j := 1) (t := 27) (e := 51) rfl rfl Try.underlying27
      rw [show Try.prog.bytesOf 51 = 16 from by kernel_rfl] at this
      simp only [reachBytes] at this
      omega
  clear hA0 hval0
  refine (walk a0 len0 cap0 z0 a1 len1 cap1 z1 W w0 s0 w1 s1).mono fun e W' ⟨he, hg⟩ => ?_
  subst he
  have bel : Below W.heap.size W W' := (Below.refl _ _).grown hg (Nat.le_refl _) (by simp)
  exact ⟨_, rfl, _, _, _, [], _, [], hW', trodAll_mk1 (shut_bool Try.underlying4 _), (trodAll_cons_mk (Below.trod laidOut (by kernel_rfl) (of_decide_eq_true (by kernel_rfl)) k0 bel lt0) (trodAll_cons_mk (Below.trod laidOut (by kernel_rfl) (of_decide_eq_true (by kernel_rfl)) k1 bel lt1) trodAll_mk0)), rfl, bel.frame _, fun h => by cases h⟩

theorem over : Rows.fnExactEqualFloatsRow.holds Try.pinned (OpenSpec.ofChange Rows.fnExactEqualFloatsSpec) :=
  OpenClaim.holds_of_wide 6 Try.f6 rfl rfl rfl rfl rfl rfl rfl ⟨rfl, rfl, rfl, rfl, rfl⟩ rfl rfl rfl rfl rfl (by kernel_rfl) Try.func6 (by kernel_rfl)
    (of_decide_eq_true (by kernel_rfl)) (by unfold Func.isWrapper; first | (rw [if_pos (by decide +kernel)]; kernel_rfl) | (rw [if_neg (by decide +kernel)]; exact ⟨rfl, rfl⟩))
    (fun os started H enc _ => lifted os started H enc)

theorem proved : Rows.FnExactEqualFloatsSaid := over
#print axioms proved
end Go.Proofs.Ytmkoanbbgmjhbaa.fnExactEqualFloats
