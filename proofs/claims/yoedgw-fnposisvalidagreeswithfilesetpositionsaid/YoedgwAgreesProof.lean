/-
  THE PROOF OF 'Rows.FnPosIsValidAgreesWithFileSetPositionSaid': the seat's shell (the guide's template), its one hole filled by 'agrees_any' (YoedgwAgrees). 'Below' stands where the shell has 'Grown': behind an append the world is a variable. The arguments are numbers: no place in memory is read, so the post's frame is all that is asked of memory.
-/
import Derived.Test.YoedgwRows
import Derived.Test.YoedgwAgrees
import Derived.WalkKit
import Derived.ProofKit
namespace Go.Proofs.Yoedgw.fnPosIsValidAgreesWithFileSetPosition
open Go.ChangeShapes Go.WideShapes Go.ChangeAt Go.RowKit
set_option linter.unusedVariables false      -- a walk need not use every 'w<i>' (that an integer argument fits its kind)

theorem own : ownKnob Edgg.prog.godebug = none := by kernel_rfl

/-! ### THE ROW's STEP: WRITTEN OUT: as the shell has it -/
set_option maxRecDepth 100000 in
theorem lifted (os : Os) (started : os.Started) (H : Type) (enc : TypeId × Value → H) :
    ReturnsInHanded {} Edgg.checked os 3 .any (Rows.fnPosIsValidAgreesWithFileSetPositionSpec.pre6 enc Edgg.prog Edgg.f3 Rows.fnPosIsValidAgreesWithFileSetPositionRow.domain false) (Rows.fnPosIsValidAgreesWithFileSetPositionSpec.post enc Edgg.prog Edgg.f3 false true false false) := by
  refine returnsInHanded_of_change (C := Edgg.checked) own started (by kernel_rfl) Edgg.func3
    (ChangeSpec.witness6 (enc := enc) (C := Edgg.checked) false ⟨#[], #[.int .i64 0, .int .i64 0], []⟩ 8 (by kernel_rfl) (by kernel_rfl) (by kernel_rfl) (by kernel_rfl)) ?_
  intro W base args ds gs before hval0 hW hcnd _
  have hval : ∀ (j : Nat) t v, Edgg.f3.params[j]? = some t → args[j]? = some v → Value.okWide Edgg.prog W .any base t v := hval0
  have hW' := hW
  obtain ⟨p, q, hA0, hV, rfl, hfz, hnd⟩ := hW
  have hA : DataW.TrodAll enc Edgg.prog W 0 (fun _ => true) true Edgg.f3.params.toList args.toList ds p := hA0
  rw [Edgg.params3] at hA hval
  obtain ⟨v0, vs0, d0, ds0, p0, q0, hargs, rfl, rfl, h0, r0⟩ := trodAll_cons hA
  obtain ⟨v1, vs1, d1, ds1, p1, q1, rfl, rfl, rfl, h1, r1⟩ := trodAll_cons r0
  obtain ⟨rfl, rfl, rfl⟩ := trodAll_nil r1
  obtain rfl : args = #[v0, v1] := by cases args; simp_all
  obtain ⟨rfl, rfl⟩ := trodVars_none hV
  obtain ⟨a0, rfl, rfl, rfl, w0⟩ := open_int Edgg.underlying3 (hval 0 3 v0 rfl rfl) h0
  obtain ⟨a1, rfl, rfl, rfl, w1⟩ := open_int Edgg.underlying3 (hval 1 3 v1 rfl rfl) h1
  clear hA0 hval0
  simp only [List.append_nil] at hW'
  refine (agrees_any a0 a1 W).mono fun e W' ⟨he, hg⟩ => ?_
  subst he
  exact ⟨_, rfl, _, _, _, [], [], [], hW', trodAll_mk1 (shut_bool Edgg.underlying4 _), trodAll_mk2 (shut_int Edgg.underlying3 w0) (shut_int Edgg.underlying3 w1), rfl, hg.frame _, fun h => by cases h⟩

theorem over : Rows.fnPosIsValidAgreesWithFileSetPositionRow.holds Edgg.pinned (OpenSpec.ofChange Rows.fnPosIsValidAgreesWithFileSetPositionSpec) :=
  OpenClaim.holds_of_wide 3 Edgg.f3 rfl rfl rfl rfl rfl rfl rfl ⟨rfl, rfl, rfl, rfl, rfl⟩ rfl rfl rfl rfl rfl (by kernel_rfl) Edgg.func3 (by kernel_rfl)
    (of_decide_eq_true (by kernel_rfl)) (by unfold Func.isWrapper; first | (rw [if_pos (by decide +kernel)]; kernel_rfl) | (rw [if_neg (by decide +kernel)]; exact ⟨rfl, rfl⟩))
    (fun os started H enc _ => lifted os started H enc)

/-- THE STATEMENT -/
theorem proved : Rows.FnPosIsValidAgreesWithFileSetPositionSaid :=
  over
end Go.Proofs.Yoedgw.fnPosIsValidAgreesWithFileSetPosition
