/-
  The law 'FnAngleBetweenOriented' returns true for every input, and its arguments read afterwards as before. No condition.
-/
import Derived.Test.YtmkhoplffiakmaaRows
import Derived.Test.YtmkhoplffiakmaaAngleBetweenOriented
import Derived.Test.YtmkhoplffiakmaaSxL
namespace Go.Proofs.Ytmkhoplffiakmaa.fnAngleBetweenOriented
open Go.Sx Go.ChangeShapes Go.WideShapes Go.ChangeAt Go.RowKit
set_option linter.unusedVariables false

theorem own : ownKnob Try.prog.godebug = none := by kernel_rfl
theorem laidOut : laidOutB Try.prog = true := by kernel_rfl
theorem params : Try.f4.params.toList.all (fun t => Try.prog.readableRec t && decide (t < Try.prog.types.size)) = true := by kernel_rfl
theorem cells43 : Try.prog.cellsOf 43 = 2 := by kernel_rfl

set_option maxRecDepth 100000 in
theorem lifted (os : Os) (started : os.Started) (H : Type) (enc : TypeId × Value → H) :
    ReturnsInHanded {} Try.checked os 4 .any (Rows.fnAngleBetweenOrientedSpec.pre6 enc Try.prog Try.f4 Rows.fnAngleBetweenOrientedRow.domain false) (Rows.fnAngleBetweenOrientedSpec.post enc Try.prog Try.f4 false true false false) := by
  refine returnsInHanded_of_change (C := Try.checked) own started (by kernel_rfl) Try.func4
    (ChangeSpec.witness6 (enc := enc) (C := Try.checked) false ⟨#[], #[.agg #[.float .f64 0, .float .f64 0], .agg #[.float .f64 0, .float .f64 0], .agg #[.float .f64 0, .float .f64 0]], []⟩ 8 (by kernel_rfl) (by kernel_rfl) (by kernel_rfl) (by kernel_rfl)) ?_
  intro W base args ds gs before hval0 hW hcnd _
  have hval : ∀ (j : Nat) t v, Try.f4.params[j]? = some t → args[j]? = some v → Value.okWide Try.prog W .any base t v := hval0
  have hW' := hW
  obtain ⟨p, q, hA0, hV, rfl, hfz, hnd⟩ := hW
  have hA : DataW.TrodAll enc Try.prog W 0 (fun _ => true) true Try.f4.params.toList args.toList ds p := hA0
  rw [Try.params4] at hA hval
  obtain ⟨v0, vs0, d0, ds0, p0, q0, hargs, rfl, rfl, h0, r0⟩ := trodAll_cons hA
  obtain ⟨v1, vs1, d1, ds1, p1, q1, rfl, rfl, rfl, h1, r1⟩ := trodAll_cons r0
  obtain ⟨v2, vs2, d2, ds2, p2, q2, rfl, rfl, rfl, h2, r2⟩ := trodAll_cons r1
  obtain ⟨rfl, rfl, rfl⟩ := trodAll_nil r2
  obtain rfl : args = #[v0, v1, v2] := by cases args; simp_all
  obtain ⟨rfl, rfl⟩ := trodVars_none hV
  obtain ⟨x0, g0, s0⟩ := open_str (opn_struct Try.underlying43 cells43 (n := 2) (fun _ => rfl) (opf_cons (f := { name := "X", type := 22, offset := 0, embedded := false, tag := "", pkgPath := "", byteOffset := 0 }) (opn_flt Try.underlying22) rfl (n := 1) (fun _ => rfl) (opf_one (f := { name := "Y", type := 22, offset := 1, embedded := false, tag := "", pkgPath := "", byteOffset := 8 }) (opn_flt Try.underlying22) rfl))) Try.underlying43 (hval 0 43 v0 rfl rfl) h0
  obtain ⟨x1, g1, s1⟩ := open_str (opn_struct Try.underlying43 cells43 (n := 2) (fun _ => rfl) (opf_cons (f := { name := "X", type := 22, offset := 0, embedded := false, tag := "", pkgPath := "", byteOffset := 0 }) (opn_flt Try.underlying22) rfl (n := 1) (fun _ => rfl) (opf_one (f := { name := "Y", type := 22, offset := 1, embedded := false, tag := "", pkgPath := "", byteOffset := 8 }) (opn_flt Try.underlying22) rfl))) Try.underlying43 (hval 1 43 v1 rfl rfl) h1
  obtain ⟨x2, g2, s2⟩ := open_str (opn_struct Try.underlying43 cells43 (n := 2) (fun _ => rfl) (opf_cons (f := { name := "X", type := 22, offset := 0, embedded := false, tag := "", pkgPath := "", byteOffset := 0 }) (opn_flt Try.underlying22) rfl (n := 1) (fun _ => rfl) (opf_one (f := { name := "Y", type := 22, offset := 1, embedded := false, tag := "", pkgPath := "", byteOffset := 8 }) (opn_flt Try.underlying22) rfl))) Try.underlying43 (hval 2 43 v2 rfl rfl) h2
  have hpure := fact_FnAngleBetweenOriented x0.1 x0.2 x1.1 x1.2 x2.1 x2.2 g0 g1 g2
  refine (Fp.call (laws_FnAngleBetweenOriented_sim _ _ _ _ _ _ hpure) (args := [v0, v1, v2]) ⟨s0, s1, s2, trivial⟩ gok0).mono ?_
  rintro e W' ⟨v, U', rfl, hr, hb⟩
  have hr' : v = .bool true := hr
  subst hr'
  exact ⟨_, rfl, law_post rfl rfl hW' hb laidOut params (show Try.f4.resultTypes = _ from rfl) Try.underlying4⟩

theorem over : Rows.fnAngleBetweenOrientedRow.holds Try.pinned (OpenSpec.ofChange Rows.fnAngleBetweenOrientedSpec) :=
  OpenClaim.holds_of_wide 4 Try.f4 rfl rfl rfl rfl rfl rfl rfl ⟨rfl, rfl, rfl, rfl, rfl⟩ rfl rfl rfl rfl rfl (by kernel_rfl) Try.func4 (by kernel_rfl)
    (of_decide_eq_true (by kernel_rfl)) (by unfold Func.isWrapper; rw [if_neg (of_decide_eq_false (by kernel_rfl))]; exact ⟨rfl, rfl⟩)
    (fun os started H enc _ => lifted os started H enc)

theorem proved : Rows.FnAngleBetweenOrientedSaid := over
end Go.Proofs.Ytmkhoplffiakmaa.fnAngleBetweenOriented
