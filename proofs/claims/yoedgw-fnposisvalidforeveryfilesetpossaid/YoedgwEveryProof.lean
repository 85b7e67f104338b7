/-
  THE PROOF OF 'Rows.FnPosIsValidForEveryFileSetPosSaid': the seat's shell (the guide's template), its one hole filled by 'every_any' (YoedgwEvery). 'Below' stands where the shell has 'Grown': behind an append the world is a variable. The arguments are numbers: no place in memory is read, so the post's frame is all that is asked of memory.
-/
import Derived.Test.YoedgwRows
import Derived.Test.YoedgwEvery
import Derived.WalkKit
import Derived.ProofKit
namespace Go.Proofs.Yoedgw.fnPosIsValidForEveryFileSetPos
open Go.ChangeShapes Go.WideShapes Go.ChangeAt Go.RowKit
set_option linter.unusedVariables false      -- a walk need not use every 'w<i>' (that an integer argument fits its kind)

theorem own : ownKnob Edgg.prog.godebug = none := by kernel_rfl

/-! ### THE ROW's STEP: WRITTEN OUT: as the shell has it -/
set_option maxRecDepth 100000 in
theorem lifted (os : Os) (started : os.Started) (H : Type) (enc : TypeId × Value → H) :
    ReturnsInHanded {} Edgg.checked os 4 .any (Rows.fnPosIsValidForEveryFileSetPosSpec.pre6 enc Edgg.prog Edgg.f4 Rows.fnPosIsValidForEveryFileSetPosRow.domain false) (Rows.fnPosIsValidForEveryFileSetPosSpec.post enc Edgg.prog Edgg.f4 false true false false) := by
  refine returnsInHanded_of_change (C := Edgg.checked) own started (by kernel_rfl) Edgg.func4
    (ChangeSpec.witness6 (enc := enc) (C := Edgg.checked) false ⟨#[], #[.int .i64 0, .int .i64 0, .int .i64 0, .int .i64 0], []⟩ 8 (by kernel_rfl) (by kernel_rfl) (by kernel_rfl) (by kernel_rfl)) ?_
  intro W base args ds gs before hval0 hW hcnd _
  have hval : ∀ (j : Nat) t v, Edgg.f4.params[j]? = some t → args[j]? = some v → Value.okWide Edgg.prog W .any base t v := hval0
  have hW' := hW
  obtain ⟨p, q, hA0, hV, rfl, hfz, hnd⟩ := hW
  have hA : DataW.TrodAll enc Edgg.prog W 0 (fun _ => true) true Edgg.f4.params.toList args.toList ds p := hA0
  rw [Edgg.params4] at hA hval
  obtain ⟨v0, vs0, d0, ds0, p0, q0, hargs, rfl, rfl, h0, r0⟩ := trodAll_cons hA
  obtain ⟨v1, vs1, d1, ds1, p1, q1, rfl, rfl, rfl, h1, r1⟩ := trodAll_cons r0
  obtain ⟨v2, vs2, d2, ds2, p2, q2, rfl, rfl, rfl, h2, r2⟩ := trodAll_cons r1
  obtain ⟨v3, vs3, d3, ds3, p3, q3, rfl, rfl, rfl, h3, r3⟩ := trodAll_cons r2
  obtain ⟨rfl, rfl, rfl⟩ := trodAll_nil r3
  obtain rfl : args = #[v0, v1, v2, v3] := by cases args; simp_all
  obtain ⟨rfl, rfl⟩ := trodVars_none hV
  obtain ⟨a0, rfl, rfl, rfl, w0⟩ := open_int Edgg.underlying3 (hval 0 3 v0 rfl rfl) h0
  obtain ⟨a1, rfl, rfl, rfl, w1⟩ := open_int Edgg.underlying3 (hval 1 3 v1 rfl rfl) h1
  obtain ⟨a2, rfl, rfl, rfl, w2⟩ := open_int Edgg.underlying3 (hval 2 3 v2 rfl rfl) h2
  obtain ⟨a3, rfl, rfl, rfl, w3⟩ := open_int Edgg.underlying3 (hval 3 3 v3 rfl rfl) h3
  clear hA0 hval0
  simp only [List.append_nil] at hW'
  refine (every_any a0 a1 a2 a3 W).mono fun e W' ⟨he, hg⟩ => ?_
  subst he
  exact ⟨_, rfl, _, _, _, [], [], [], hW', trodAll_mk1 (shut_bool Edgg.underlying4 _), trodAll_mk4 (shut_int Edgg.underlying3 w0) (shut_int Edgg.underlying3 w1) (shut_int Edgg.underlying3 w2) (shut_int Edgg.underlying3 w3), rfl, hg.frame _, fun h => by cases h⟩

theorem over : Rows.fnPosIsValidForEveryFileSetPosRow.holds Edgg.pinned (OpenSpec.ofChange Rows.fnPosIsValidForEveryFileSetPosSpec) :=
  OpenClaim.holds_of_wide 4 Edgg.f4 rfl rfl rfl rfl rfl rfl rfl ⟨rfl, rfl, rfl, rfl, rfl⟩ rfl rfl rfl rfl rfl (by kernel_rfl) Edgg.func4 (by kernel_rfl)
    (of_decide_eq_true (by kernel_rfl)) (by unfold Func.isWrapper; first | (rw [if_pos (by decide +kernel)]; kernel_rfl) | (rw [if_neg (by decide +kernel)]; exact ⟨rfl, rfl⟩))
    (fun os started H enc _ => lifted os started H enc)

/-- THE STATEMENT -/
theorem proved : Rows.FnPosIsValidForEveryFileSetPosSaid :=
  over
end Go.Proofs.Yoedgw.fnPosIsValidForEveryFileSetPos
