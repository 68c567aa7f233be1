/-
  The law 'FnVDo' returns true for every input, and its arguments read afterwards as before. No condition.
-/
import Derived.Test.YtpakkblinocenaaRows
import Derived.Test.YtpakkblinocenaaVDo
import Derived.Test.YtpakkblinocenaaSxL
namespace Go.Proofs.Ytpakkblinocenaa.fnVDo
open Go.Sx Go.ChangeShapes Go.WideShapes Go.ChangeAt Go.RowKit
set_option linter.unusedVariables false

theorem own : ownKnob Try.prog.godebug = none := by kernel_rfl
theorem laidOut : laidOutB Try.prog = true := by kernel_rfl
theorem params : Try.f3.params.toList.all (fun t => Try.prog.readableRec t && decide (t < Try.prog.types.size)) = true := by kernel_rfl
theorem cells33 : Try.prog.cellsOf 33 = 1 := by kernel_rfl
theorem cells35 : Try.prog.cellsOf 35 = 4 := by kernel_rfl
theorem flat22 : Flat Try.prog 22 := ⟨_, Try.underlying22, fun _ h => (nomatch h), fun _ _ h => (nomatch h)⟩
theorem flat3 : Flat Try.prog 3 := ⟨_, Try.underlying3, fun _ h => (nomatch h), fun _ _ h => (nomatch h)⟩

set_option maxRecDepth 100000 in
theorem lifted (os : Os) (started : os.Started) (H : Type) (enc : TypeId × Value → H) :
    ReturnsInHanded {} Try.checked os 3 .any (Rows.fnVDoSpec.pre6 enc Try.prog Try.f3 Rows.fnVDoRow.domain false) (Rows.fnVDoSpec.post enc Try.prog Try.f3 false true false false) := by
  refine returnsInHanded_of_change (C := Try.checked) own started (by kernel_rfl) Try.func3
    (ChangeSpec.witness6 (enc := enc) (C := Try.checked) false ⟨#[], #[.slice none 0 0, .int .i64 0, .int .i64 0], []⟩ 8 (by kernel_rfl) (by kernel_rfl) (by kernel_rfl) (by kernel_rfl)) ?_
  intro W base args ds gs before hval0 hW hcnd _
  have hval : ∀ (j : Nat) t v, Try.f3.params[j]? = some t → args[j]? = some v → Value.okWide Try.prog W .any base t v := hval0
  have hW' := hW
  obtain ⟨p, q, hA0, hV, rfl, hfz, hnd⟩ := hW
  have hA : DataW.TrodAll enc Try.prog W 0 (fun _ => true) true Try.f3.params.toList args.toList ds p := hA0
  rw [Try.params3] at hA hval
  obtain ⟨v0, vs0, d0, ds0, p0, q0, hargs, rfl, rfl, h0, r0⟩ := trodAll_cons hA
  obtain ⟨v1, vs1, d1, ds1, p1, q1, rfl, rfl, rfl, h1, r1⟩ := trodAll_cons r0
  obtain ⟨v2, vs2, d2, ds2, p2, q2, rfl, rfl, rfl, h2, r2⟩ := trodAll_cons r1
  obtain ⟨rfl, rfl, rfl⟩ := trodAll_nil r2
  obtain rfl : args = #[v0, v1, v2] := by cases args; simp_all
  obtain ⟨rfl, rfl⟩ := trodVars_none hV
  obtain ⟨x0, g0, s0⟩ := open_flat (opn_sl (K := KT35) Try.underlying22 (opn_struct Try.underlying35 cells35 (n := 4) (fun _ => rfl) (opf_cons (f := { name := "Point", type := 25, offset := 0, embedded := false, tag := "", pkgPath := "", byteOffset := 0 }) (opn_sl (K := Kf) Try.underlying25 (opn_flt Try.underlying33) cells33 (by decide)) rfl (n := 1) (fun _ => rfl) (opf_cons (f := { name := "Radius", type := 33, offset := 1, embedded := false, tag := "", pkgPath := "", byteOffset := 24 }) (opn_flt Try.underlying33) rfl (n := 1) (fun _ => rfl) (opf_cons (f := { name := "Closer", type := 3, offset := 2, embedded := false, tag := "", pkgPath := "", byteOffset := 32 }) (opn_int Try.underlying3) rfl (n := 1) (fun _ => rfl) (opf_one (f := { name := "Further", type := 3, offset := 3, embedded := false, tag := "", pkgPath := "", byteOffset := 40 }) (opn_int Try.underlying3) rfl))))) cells35 (by decide)) flat22 (hval 0 22 v0 rfl rfl) h0
  obtain ⟨x1, g1, s1⟩ := open_flat (opn_int Try.underlying3) flat3 (hval 1 3 v1 rfl rfl) h1
  obtain ⟨x2, g2, s2⟩ := open_flat (opn_int Try.underlying3) flat3 (hval 2 3 v2 rfl rfl) h2
  obtain ⟨_, hpure⟩ := fact_FnVDo x0 x1 x2 g0 g1 g2
  refine (Fp.call (laws_FnVDo_sim _ _ _ hpure) (args := [v0, v1, v2]) ⟨s0, s1, s2, trivial⟩ gok0).mono ?_
  rintro e W' ⟨v, U', rfl, hr, hb⟩
  have hr' : v = .bool true := hr
  subst hr'
  exact ⟨_, rfl, law_post rfl rfl hW' hb laidOut params (show Try.f3.resultTypes = _ from rfl) Try.underlying4⟩

theorem over : Rows.fnVDoRow.holds Try.pinned (OpenSpec.ofChange Rows.fnVDoSpec) :=
  OpenClaim.holds_of_wide 3 Try.f3 rfl rfl rfl rfl rfl rfl rfl ⟨rfl, rfl, rfl, rfl, rfl⟩ rfl rfl rfl rfl rfl (by kernel_rfl) Try.func3 (by kernel_rfl)
    (of_decide_eq_true (by kernel_rfl)) (by unfold Func.isWrapper; rw [if_neg (of_decide_eq_false (by kernel_rfl))]; exact ⟨rfl, rfl⟩)
    (fun os started H enc _ => lifted os started H enc)

theorem proved : Rows.FnVDoSaid := over
end Go.Proofs.Ytpakkblinocenaa.fnVDo
