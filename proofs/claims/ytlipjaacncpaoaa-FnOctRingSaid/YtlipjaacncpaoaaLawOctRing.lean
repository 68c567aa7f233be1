/-
  The law 'FnOctRing' returns true for every input, and its arguments read afterwards as before. No condition.
-/
import Derived.Test.YtlipjaacncpaoaaRows
import Derived.Test.YtlipjaacncpaoaaOctRing
import Derived.Test.YtlipjaacncpaoaaSxL
namespace Go.Proofs.Ytlipjaacncpaoaa.fnOctRing
open Go.Sx Go.ChangeShapes Go.WideShapes Go.ChangeAt Go.RowKit
set_option linter.unusedVariables false

theorem own : ownKnob Try.prog.godebug = none := by kernel_rfl
theorem laidOut : laidOutB Try.prog = true := by kernel_rfl
theorem params : Try.f6.params.toList.all (fun t => Try.prog.readableRec t && decide (t < Try.prog.types.size)) = true := by kernel_rfl
theorem flat3 : Flat Try.prog 3 := ⟨_, Try.underlying3, fun _ h => (nomatch h), fun _ _ h => (nomatch h)⟩
theorem cells38 : Try.prog.cellsOf 38 = 1 := by kernel_rfl
theorem flat22 : Flat Try.prog 22 := ⟨_, Try.underlying22, fun _ h => (nomatch h), fun _ _ h => (nomatch h)⟩

set_option maxRecDepth 100000 in
theorem lifted (os : Os) (started : os.Started) (H : Type) (enc : TypeId × Value → H) :
    ReturnsInHanded {} Try.checked os 6 .any (Rows.fnOctRingSpec.pre6 enc Try.prog Try.f6 Rows.fnOctRingRow.domain false) (Rows.fnOctRingSpec.post enc Try.prog Try.f6 false true false false) := by
  refine returnsInHanded_of_change (C := Try.checked) own started (by kernel_rfl) Try.func6
    (ChangeSpec.witness6 (enc := enc) (C := Try.checked) false ⟨#[], #[.int .i64 0, .slice none 0 0], []⟩ 8 (by kernel_rfl) (by kernel_rfl) (by kernel_rfl) (by kernel_rfl)) ?_
  intro W base args ds gs before hval0 hW hcnd _
  have hval : ∀ (j : Nat) t v, Try.f6.params[j]? = some t → args[j]? = some v → Value.okWide Try.prog W .any base t v := hval0
  have hW' := hW
  obtain ⟨p, q, hA0, hV, rfl, hfz, hnd⟩ := hW
  have hA : DataW.TrodAll enc Try.prog W 0 (fun _ => true) true Try.f6.params.toList args.toList ds p := hA0
  rw [Try.params6] at hA hval
  obtain ⟨v0, vs0, d0, ds0, p0, q0, hargs, rfl, rfl, h0, r0⟩ := trodAll_cons hA
  obtain ⟨v1, vs1, d1, ds1, p1, q1, rfl, rfl, rfl, h1, r1⟩ := trodAll_cons r0
  obtain ⟨rfl, rfl, rfl⟩ := trodAll_nil r1
  obtain rfl : args = #[v0, v1] := by cases args; simp_all
  obtain ⟨rfl, rfl⟩ := trodVars_none hV
  obtain ⟨x0, g0, s0⟩ := open_flat (opn_int Try.underlying3) flat3 (hval 0 3 v0 rfl rfl) h0
  obtain ⟨x1, g1, s1⟩ := open_flat (opn_sl (K := Kf) Try.underlying22 (opn_flt Try.underlying38) cells38 (by decide)) flat22 (hval 1 22 v1 rfl rfl) h1
  have hpure := fact_FnOctRing x0 x1 g0 g1
  refine (Fp.call (laws_FnOctRing_sim _ _ hpure) (args := [v0, v1]) ⟨s0, s1, trivial⟩ gok0).mono ?_
  rintro e W' ⟨v, U', rfl, hr, hb⟩
  have hr' : v = .bool true := hr
  subst hr'
  exact ⟨_, rfl, law_post rfl rfl hW' hb laidOut params (show Try.f6.resultTypes = _ from rfl) Try.underlying4⟩

theorem over : Rows.fnOctRingRow.holds Try.pinned (OpenSpec.ofChange Rows.fnOctRingSpec) :=
  OpenClaim.holds_of_wide 6 Try.f6 rfl rfl rfl rfl rfl rfl rfl ⟨rfl, rfl, rfl, rfl, rfl⟩ rfl rfl rfl rfl rfl (by kernel_rfl) Try.func6 (by kernel_rfl)
    (of_decide_eq_true (by kernel_rfl)) (by unfold Func.isWrapper; rw [if_neg (of_decide_eq_false (by kernel_rfl))]; exact ⟨rfl, rfl⟩)
    (fun os started H enc _ => lifted os started H enc)

theorem proved : Rows.FnOctRingSaid := over
end Go.Proofs.Ytlipjaacncpaoaa.fnOctRing
