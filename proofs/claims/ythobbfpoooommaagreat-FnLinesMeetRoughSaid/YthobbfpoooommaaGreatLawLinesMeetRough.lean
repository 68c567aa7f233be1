/-
  The law 'FnLinesMeetRough' returns true for every input, and its arguments read afterwards as before. No condition.
-/
import Derived.Test.YthobbfpoooommaaGreatRows
import Derived.Test.YthobbfpoooommaaGreatLinesMeetRough
import Derived.Test.YthobbfpoooommaaGreatSxL
namespace Go.Proofs.YthobbfpoooommaaGreat.fnLinesMeetRough
open Go.Sx Go.ChangeShapes Go.WideShapes Go.ChangeAt Go.RowKit
set_option linter.unusedVariables false

theorem own : ownKnob Tryz.prog.godebug = none := by kernel_rfl
theorem laidOut : laidOutB Tryz.prog = true := by kernel_rfl
theorem params : Tryz.f3.params.toList.all (fun t => Tryz.prog.readableRec t && decide (t < Tryz.prog.types.size)) = true := by kernel_rfl
theorem cells24 : Tryz.prog.cellsOf 24 = 2 := by kernel_rfl

set_option maxRecDepth 100000 in
theorem lifted (os : Os) (started : os.Started) (H : Type) (enc : TypeId × Value → H) :
    ReturnsInHanded {} Tryz.checked os 3 .any (Rows.fnLinesMeetRoughSpec.pre6 enc Tryz.prog Tryz.f3 Rows.fnLinesMeetRoughRow.domain false) (Rows.fnLinesMeetRoughSpec.post enc Tryz.prog Tryz.f3 false true false false) := by
  refine returnsInHanded_of_change (C := Tryz.checked) own started (by kernel_rfl) Tryz.func3
    (ChangeSpec.witness6 (enc := enc) (C := Tryz.checked) false ⟨#[], #[.agg #[.float .f64 0, .float .f64 0], .agg #[.float .f64 0, .float .f64 0], .agg #[.float .f64 0, .float .f64 0], .agg #[.float .f64 0, .float .f64 0]], []⟩ 8 (by kernel_rfl) (by kernel_rfl) (by kernel_rfl) (by kernel_rfl)) ?_
  intro W base args ds gs before hval0 hW hcnd _
  have hval : ∀ (j : Nat) t v, Tryz.f3.params[j]? = some t → args[j]? = some v → Value.okWide Tryz.prog W .any base t v := hval0
  have hW' := hW
  obtain ⟨p, q, hA0, hV, rfl, hfz, hnd⟩ := hW
  have hA : DataW.TrodAll enc Tryz.prog W 0 (fun _ => true) true Tryz.f3.params.toList args.toList ds p := hA0
  rw [Tryz.params3] at hA hval
  obtain ⟨v0, vs0, d0, ds0, p0, q0, hargs, rfl, rfl, h0, r0⟩ := trodAll_cons hA
  obtain ⟨v1, vs1, d1, ds1, p1, q1, rfl, rfl, rfl, h1, r1⟩ := trodAll_cons r0
  obtain ⟨v2, vs2, d2, ds2, p2, q2, rfl, rfl, rfl, h2, r2⟩ := trodAll_cons r1
  obtain ⟨v3, vs3, d3, ds3, p3, q3, rfl, rfl, rfl, h3, r3⟩ := trodAll_cons r2
  obtain ⟨rfl, rfl, rfl⟩ := trodAll_nil r3
  obtain rfl : args = #[v0, v1, v2, v3] := by cases args; simp_all
  obtain ⟨rfl, rfl⟩ := trodVars_none hV
  obtain ⟨x0, g0, s0⟩ := open_str (opn_struct Tryz.underlying24 cells24 (n := 2) (fun _ => rfl) (opf_cons (f := { name := "X", type := 22, offset := 0, embedded := false, tag := "", pkgPath := "", byteOffset := 0 }) (opn_flt Tryz.underlying22) rfl (n := 1) (fun _ => rfl) (opf_one (f := { name := "Y", type := 22, offset := 1, embedded := false, tag := "", pkgPath := "", byteOffset := 8 }) (opn_flt Tryz.underlying22) rfl))) Tryz.underlying24 (hval 0 24 v0 rfl rfl) h0
  obtain ⟨x1, g1, s1⟩ := open_str (opn_struct Tryz.underlying24 cells24 (n := 2) (fun _ => rfl) (opf_cons (f := { name := "X", type := 22, offset := 0, embedded := false, tag := "", pkgPath := "", byteOffset := 0 }) (opn_flt Tryz.underlying22) rfl (n := 1) (fun _ => rfl) (opf_one (f := { name := "Y", type := 22, offset := 1, embedded := false, tag := "", pkgPath := "", byteOffset := 8 }) (opn_flt Tryz.underlying22) rfl))) Tryz.underlying24 (hval 1 24 v1 rfl rfl) h1
  obtain ⟨x2, g2, s2⟩ := open_str (opn_struct Tryz.underlying24 cells24 (n := 2) (fun _ => rfl) (opf_cons (f := { name := "X", type := 22, offset := 0, embedded := false, tag := "", pkgPath := "", byteOffset := 0 }) (opn_flt Tryz.underlying22) rfl (n := 1) (fun _ => rfl) (opf_one (f := { name := "Y", type := 22, offset := 1, embedded := false, tag := "", pkgPath := "", byteOffset := 8 }) (opn_flt Tryz.underlying22) rfl))) Tryz.underlying24 (hval 2 24 v2 rfl rfl) h2
  obtain ⟨x3, g3, s3⟩ := open_str (opn_struct Tryz.underlying24 cells24 (n := 2) (fun _ => rfl) (opf_cons (f := { name := "X", type := 22, offset := 0, embedded := false, tag := "", pkgPath := "", byteOffset := 0 }) (opn_flt Tryz.underlying22) rfl (n := 1) (fun _ => rfl) (opf_one (f := { name := "Y", type := 22, offset := 1, embedded := false, tag := "", pkgPath := "", byteOffset := 8 }) (opn_flt Tryz.underlying22) rfl))) Tryz.underlying24 (hval 3 24 v3 rfl rfl) h3
  have hpure := fact_FnLinesMeetRough x0.1 x0.2 x1.1 x1.2 x2.1 x2.2 x3.1 x3.2 g0 g1 g2 g3
  refine (Fp.call (laws_FnLinesMeetRough_sim _ _ _ _ _ _ _ _ hpure) (args := [v0, v1, v2, v3]) ⟨s0, s1, s2, s3, trivial⟩ gok0).mono ?_
  rintro e W' ⟨v, U', rfl, hr, hb⟩
  have hr' : v = .bool true := hr
  subst hr'
  exact ⟨_, rfl, law_post rfl rfl hW' hb laidOut params (show Tryz.f3.resultTypes = _ from rfl) Tryz.underlying4⟩

theorem over : Rows.fnLinesMeetRoughRow.holds Tryz.pinned (OpenSpec.ofChange Rows.fnLinesMeetRoughSpec) :=
  OpenClaim.holds_of_wide 3 Tryz.f3 rfl rfl rfl rfl rfl rfl rfl ⟨rfl, rfl, rfl, rfl, rfl⟩ rfl rfl rfl rfl rfl (by kernel_rfl) Tryz.func3 (by kernel_rfl)
    (of_decide_eq_true (by kernel_rfl)) (by unfold Func.isWrapper; rw [if_neg (of_decide_eq_false (by kernel_rfl))]; exact ⟨rfl, rfl⟩)
    (fun os started H enc _ => lifted os started H enc)

theorem proved : Rows.FnLinesMeetRoughSaid := over
end Go.Proofs.YthobbfpoooommaaGreat.fnLinesMeetRough
