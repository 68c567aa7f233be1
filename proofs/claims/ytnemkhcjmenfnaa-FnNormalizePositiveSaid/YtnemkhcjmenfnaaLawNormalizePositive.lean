/-
  The law 'FnNormalizePositive' returns true for every input, and its arguments read afterwards as before. No condition.
-/
import Derived.Test.YtnemkhcjmenfnaaRows
import Derived.Test.YtnemkhcjmenfnaaNormalizePositive
import Derived.Test.YtnemkhcjmenfnaaSxL
namespace Go.Proofs.Ytnemkhcjmenfnaa.fnNormalizePositive
open Go.Sx Go.ChangeShapes Go.WideShapes Go.ChangeAt Go.RowKit
set_option linter.unusedVariables false

theorem own : ownKnob Try.prog.godebug = none := by kernel_rfl
theorem laidOut : laidOutB Try.prog = true := by kernel_rfl
theorem params : Try.f12.params.toList.all (fun t => Try.prog.readableRec t && decide (t < Try.prog.types.size)) = true := by kernel_rfl
theorem flat25 : Flat Try.prog 25 := ⟨_, Try.underlying25, fun _ h => (nomatch h), fun _ _ h => (nomatch h)⟩

set_option maxRecDepth 100000 in
theorem lifted (os : Os) (started : os.Started) (H : Type) (enc : TypeId × Value → H) :
    ReturnsInHanded {} Try.checked os 12 .any (Rows.fnNormalizePositiveSpec.pre6 enc Try.prog Try.f12 Rows.fnNormalizePositiveRow.domain false) (Rows.fnNormalizePositiveSpec.post enc Try.prog Try.f12 false true false false) := by
  refine returnsInHanded_of_change (C := Try.checked) own started (by kernel_rfl) Try.func12
    (ChangeSpec.witness6 (enc := enc) (C := Try.checked) false ⟨#[], #[.float .f64 0], []⟩ 8 (by kernel_rfl) (by kernel_rfl) (by kernel_rfl) (by kernel_rfl)) ?_
  intro W base args ds gs before hval0 hW hcnd _
  have hval : ∀ (j : Nat) t v, Try.f12.params[j]? = some t → args[j]? = some v → Value.okWide Try.prog W .any base t v := hval0
  have hW' := hW
  obtain ⟨p, q, hA0, hV, rfl, hfz, hnd⟩ := hW
  have hA : DataW.TrodAll enc Try.prog W 0 (fun _ => true) true Try.f12.params.toList args.toList ds p := hA0
  rw [Try.params12] at hA hval
  obtain ⟨v0, vs0, d0, ds0, p0, q0, hargs, rfl, rfl, h0, r0⟩ := trodAll_cons hA
  obtain ⟨rfl, rfl, rfl⟩ := trodAll_nil r0
  obtain rfl : args = #[v0] := by cases args; simp_all
  obtain ⟨rfl, rfl⟩ := trodVars_none hV
  obtain ⟨x0, g0, s0⟩ := open_flat (opn_flt Try.underlying25) flat25 (hval 0 25 v0 rfl rfl) h0
  have hpure := fact_FnNormalizePositive x0 g0
  refine (Fp.call (laws_FnNormalizePositive_sim _ hpure) (args := [v0]) ⟨s0, trivial⟩).mono ?_
  rintro e W' ⟨v, U', rfl, hr, hb⟩
  have hr' : v = .bool true := hr
  subst hr'
  exact ⟨_, rfl, law_post rfl rfl hW' hb laidOut params (show Try.f12.resultTypes = _ from rfl) Try.underlying4⟩

theorem over : Rows.fnNormalizePositiveRow.holds Try.pinned (OpenSpec.ofChange Rows.fnNormalizePositiveSpec) :=
  OpenClaim.holds_of_wide 12 Try.f12 rfl rfl rfl rfl rfl rfl rfl ⟨rfl, rfl, rfl, rfl, rfl⟩ rfl rfl rfl rfl rfl (by kernel_rfl) Try.func12 (by kernel_rfl)
    (of_decide_eq_true (by kernel_rfl)) (by unfold Func.isWrapper; rw [if_neg (of_decide_eq_false (by kernel_rfl))]; exact ⟨rfl, rfl⟩)
    (fun os started H enc _ => lifted os started H enc)

theorem proved : Rows.FnNormalizePositiveSaid := over
end Go.Proofs.Ytnemkhcjmenfnaa.fnNormalizePositive
