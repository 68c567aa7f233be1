/-
  The law 'FnBoxPolygon' returns true for every input, and its arguments read afterwards as before. No condition.
-/
import Derived.Test.YtkeaodoibflhnaaRows
import Derived.Test.YtkeaodoibflhnaaBoxPolygon
import Derived.Test.YtkeaodoibflhnaaSxL
namespace Go.Proofs.Ytkeaodoibflhnaa.fnBoxPolygon
open Go.Sx Go.ChangeShapes Go.WideShapes Go.ChangeAt Go.RowKit
set_option linter.unusedVariables false

theorem own : ownKnob Try.prog.godebug = none := by kernel_rfl
theorem laidOut : laidOutB Try.prog = true := by kernel_rfl
theorem params : Try.f9.params.toList.all (fun t => Try.prog.readableRec t && decide (t < Try.prog.types.size)) = true := by kernel_rfl
theorem cells32 : Try.prog.cellsOf 32 = 1 := by kernel_rfl
theorem cells55 : Try.prog.cellsOf 55 = 3 := by kernel_rfl

set_option maxRecDepth 100000 in
theorem lifted (os : Os) (started : os.Started) (H : Type) (enc : TypeId × Value → H) :
    ReturnsInHanded {} Try.checked os 9 .any (Rows.fnBoxPolygonSpec.pre6 enc Try.prog Try.f9 Rows.fnBoxPolygonRow.domain false) (Rows.fnBoxPolygonSpec.post enc Try.prog Try.f9 false true false false) := by
  refine returnsInHanded_of_change (C := Try.checked) own started (by kernel_rfl) Try.func9
    (ChangeSpec.witness6 (enc := enc) (C := Try.checked) false ⟨#[], #[.agg #[.int .i64 0, .slice none 0 0, .slice none 0 0]], []⟩ 8 (by kernel_rfl) (by kernel_rfl) (by kernel_rfl) (by kernel_rfl)) ?_
  intro W base args ds gs before hval0 hW hcnd _
  have hval : ∀ (j : Nat) t v, Try.f9.params[j]? = some t → args[j]? = some v → Value.okWide Try.prog W .any base t v := hval0
  have hW' := hW
  obtain ⟨p, q, hA0, hV, rfl, hfz, hnd⟩ := hW
  have hA : DataW.TrodAll enc Try.prog W 0 (fun _ => true) true Try.f9.params.toList args.toList ds p := hA0
  rw [Try.params9] at hA hval
  obtain ⟨v0, vs0, d0, ds0, p0, q0, hargs, rfl, rfl, h0, r0⟩ := trodAll_cons hA
  obtain ⟨rfl, rfl, rfl⟩ := trodAll_nil r0
  obtain rfl : args = #[v0] := by cases args; simp_all
  obtain ⟨rfl, rfl⟩ := trodVars_none hV
  obtain ⟨x0, g0, s0⟩ := open_str (opn_struct Try.underlying55 cells55 (n := 3) (fun _ => rfl) (opf_cons (f := { name := "Layout", type := 3, offset := 0, embedded := false, tag := "", pkgPath := "", byteOffset := 0 }) (opn_int Try.underlying3) rfl (n := 1) (fun _ => rfl) (opf_cons (f := { name := "Min", type := 22, offset := 1, embedded := false, tag := "", pkgPath := "", byteOffset := 8 }) (opn_sl (K := Kf) Try.underlying22 (opn_flt Try.underlying32) cells32 (by decide)) rfl (n := 1) (fun _ => rfl) (opf_one (f := { name := "Max", type := 22, offset := 2, embedded := false, tag := "", pkgPath := "", byteOffset := 32 }) (opn_sl (K := Kf) Try.underlying22 (opn_flt Try.underlying32) cells32 (by decide)) rfl)))) Try.underlying55 (hval 0 55 v0 rfl rfl) h0
  have hpure := fact_FnBoxPolygon x0.1 x0.2.1 x0.2.2 g0
  refine (Fp.call (laws_FnBoxPolygon_sim _ _ _ hpure) (args := [v0]) ⟨s0, trivial⟩).mono ?_
  rintro e W' ⟨v, U', rfl, hr, hb⟩
  have hr' : v = .bool true := hr
  subst hr'
  exact ⟨_, rfl, law_post rfl rfl hW' hb laidOut params (show Try.f9.resultTypes = _ from rfl) Try.underlying4⟩

theorem over : Rows.fnBoxPolygonRow.holds Try.pinned (OpenSpec.ofChange Rows.fnBoxPolygonSpec) :=
  OpenClaim.holds_of_wide 9 Try.f9 rfl rfl rfl rfl rfl rfl rfl ⟨rfl, rfl, rfl, rfl, rfl⟩ rfl rfl rfl rfl rfl (by kernel_rfl) Try.func9 (by kernel_rfl)
    (of_decide_eq_true (by kernel_rfl)) (by unfold Func.isWrapper; rw [if_neg (of_decide_eq_false (by kernel_rfl))]; exact ⟨rfl, rfl⟩)
    (fun os started H enc _ => lifted os started H enc)

theorem proved : Rows.FnBoxPolygonSaid := over
end Go.Proofs.Ytkeaodoibflhnaa.fnBoxPolygon
