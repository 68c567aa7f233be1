/-
  The law 'FnLength3' returns true for every input, and its arguments read afterwards as before. No condition.
-/
import Derived.Test.YtehfdhhaglbnbaaRows
import Derived.Test.YtehfdhhaglbnbaaLength3
import Derived.Test.YtehfdhhaglbnbaaSxL
namespace Go.Proofs.Ytehfdhhaglbnbaa.fnLength3
open Go.Sx Go.ChangeShapes Go.WideShapes Go.ChangeAt Go.RowKit
set_option linter.unusedVariables false

theorem own : ownKnob Try.prog.godebug = none := by kernel_rfl
theorem laidOut : laidOutB Try.prog = true := by kernel_rfl
theorem params : Try.f5.params.toList.all (fun t => Try.prog.readableRec t && decide (t < Try.prog.types.size)) = true := by kernel_rfl
theorem cells53 : Try.prog.cellsOf 53 = 3 := by kernel_rfl

set_option maxRecDepth 100000 in
theorem lifted (os : Os) (started : os.Started) (H : Type) (enc : TypeId × Value → H) :
    ReturnsInHanded {} Try.checked os 5 .any (Rows.fnLength3Spec.pre6 enc Try.prog Try.f5 Rows.fnLength3Row.domain false) (Rows.fnLength3Spec.post enc Try.prog Try.f5 false true false false) := by
  refine returnsInHanded_of_change (C := Try.checked) own started (by kernel_rfl) Try.func5
    (ChangeSpec.witness6 (enc := enc) (C := Try.checked) false ⟨#[], #[.agg #[.float .f64 0, .float .f64 0, .float .f64 0]], []⟩ 8 (by kernel_rfl) (by kernel_rfl) (by kernel_rfl) (by kernel_rfl)) ?_
  intro W base args ds gs before hval0 hW hcnd _
  have hval : ∀ (j : Nat) t v, Try.f5.params[j]? = some t → args[j]? = some v → Value.okWide Try.prog W .any base t v := hval0
  have hW' := hW
  obtain ⟨p, q, hA0, hV, rfl, hfz, hnd⟩ := hW
  have hA : DataW.TrodAll enc Try.prog W 0 (fun _ => true) true Try.f5.params.toList args.toList ds p := hA0
  rw [Try.params5] at hA hval
  obtain ⟨v0, vs0, d0, ds0, p0, q0, hargs, rfl, rfl, h0, r0⟩ := trodAll_cons hA
  obtain ⟨rfl, rfl, rfl⟩ := trodAll_nil r0
  obtain rfl : args = #[v0] := by cases args; simp_all
  obtain ⟨rfl, rfl⟩ := trodVars_none hV
  obtain ⟨x0, g0, s0⟩ := open_str (opn_struct Try.underlying53 cells53 (n := 3) (fun _ => rfl) (opf_cons (f := { name := "X", type := 22, offset := 0, embedded := false, tag := "", pkgPath := "", byteOffset := 0 }) (opn_flt Try.underlying22) rfl (n := 1) (fun _ => rfl) (opf_cons (f := { name := "Y", type := 22, offset := 1, embedded := false, tag := "", pkgPath := "", byteOffset := 8 }) (opn_flt Try.underlying22) rfl (n := 1) (fun _ => rfl) (opf_one (f := { name := "Z", type := 22, offset := 2, embedded := false, tag := "", pkgPath := "", byteOffset := 16 }) (opn_flt Try.underlying22) rfl)))) Try.underlying53 (hval 0 53 v0 rfl rfl) h0
  have hpure := fact_FnLength3 x0.1 x0.2.1 x0.2.2 g0
  refine (Fp.call (laws_FnLength3_sim _ _ _ hpure) (args := [v0]) ⟨s0, trivial⟩).mono ?_
  rintro e W' ⟨v, U', rfl, hr, hb⟩
  have hr' : v = .bool true := hr
  subst hr'
  exact ⟨_, rfl, law_post rfl rfl hW' hb laidOut params (show Try.f5.resultTypes = _ from rfl) Try.underlying4⟩

theorem over : Rows.fnLength3Row.holds Try.pinned (OpenSpec.ofChange Rows.fnLength3Spec) :=
  OpenClaim.holds_of_wide 5 Try.f5 rfl rfl rfl rfl rfl rfl rfl ⟨rfl, rfl, rfl, rfl, rfl⟩ rfl rfl rfl rfl rfl (by kernel_rfl) Try.func5 (by kernel_rfl)
    (of_decide_eq_true (by kernel_rfl)) (by unfold Func.isWrapper; rw [if_neg (of_decide_eq_false (by kernel_rfl))]; exact ⟨rfl, rfl⟩)
    (fun os started H enc _ => lifted os started H enc)

theorem proved : Rows.FnLength3Said := over
end Go.Proofs.Ytehfdhhaglbnbaa.fnLength3
