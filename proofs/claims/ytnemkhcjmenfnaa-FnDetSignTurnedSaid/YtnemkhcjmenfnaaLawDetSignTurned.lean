/-
  The law 'FnDetSignTurned' returns true for every input, and its arguments read afterwards as before. No condition.
-/
import Derived.Test.YtnemkhcjmenfnaaRows
import Derived.Test.YtnemkhcjmenfnaaDetSignTurned
import Derived.Test.YtnemkhcjmenfnaaSxL
namespace Go.Proofs.Ytnemkhcjmenfnaa.fnDetSignTurned
open Go.Sx Go.ChangeShapes Go.WideShapes Go.ChangeAt Go.RowKit
set_option linter.unusedVariables false

theorem own : ownKnob Try.prog.godebug = none := by kernel_rfl
theorem laidOut : laidOutB Try.prog = true := by kernel_rfl
theorem params : Try.f10.params.toList.all (fun t => Try.prog.readableRec t && decide (t < Try.prog.types.size)) = true := by kernel_rfl
theorem flat25 : Flat Try.prog 25 := ⟨_, Try.underlying25, fun _ h => (nomatch h), fun _ _ h => (nomatch h)⟩
theorem flat3 : Flat Try.prog 3 := ⟨_, Try.underlying3, fun _ h => (nomatch h), fun _ _ h => (nomatch h)⟩

set_option maxRecDepth 100000 in
theorem lifted (os : Os) (started : os.Started) (H : Type) (enc : TypeId × Value → H) :
    ReturnsInHanded {} Try.checked os 10 .any (Rows.fnDetSignTurnedSpec.pre6 enc Try.prog Try.f10 Rows.fnDetSignTurnedRow.domain false) (Rows.fnDetSignTurnedSpec.post enc Try.prog Try.f10 false true false false) := by
  refine returnsInHanded_of_change (C := Try.checked) own started (by kernel_rfl) Try.func10
    (ChangeSpec.witness6 (enc := enc) (C := Try.checked) false ⟨#[], #[.float .f64 0, .float .f64 0, .float .f64 0, .float .f64 0, .int .i64 0], []⟩ 8 (by kernel_rfl) (by kernel_rfl) (by kernel_rfl) (by kernel_rfl)) ?_
  intro W base args ds gs before hval0 hW hcnd _
  have hval : ∀ (j : Nat) t v, Try.f10.params[j]? = some t → args[j]? = some v → Value.okWide Try.prog W .any base t v := hval0
  have hW' := hW
  obtain ⟨p, q, hA0, hV, rfl, hfz, hnd⟩ := hW
  have hA : DataW.TrodAll enc Try.prog W 0 (fun _ => true) true Try.f10.params.toList args.toList ds p := hA0
  rw [Try.params10] at hA hval
  obtain ⟨v0, vs0, d0, ds0, p0, q0, hargs, rfl, rfl, h0, r0⟩ := trodAll_cons hA
  obtain ⟨v1, vs1, d1, ds1, p1, q1, rfl, rfl, rfl, h1, r1⟩ := trodAll_cons r0
  obtain ⟨v2, vs2, d2, ds2, p2, q2, rfl, rfl, rfl, h2, r2⟩ := trodAll_cons r1
  obtain ⟨v3, vs3, d3, ds3, p3, q3, rfl, rfl, rfl, h3, r3⟩ := trodAll_cons r2
  obtain ⟨v4, vs4, d4, ds4, p4, q4, rfl, rfl, rfl, h4, r4⟩ := trodAll_cons r3
  obtain ⟨rfl, rfl, rfl⟩ := trodAll_nil r4
  obtain rfl : args = #[v0, v1, v2, v3, v4] := by cases args; simp_all
  obtain ⟨rfl, rfl⟩ := trodVars_none hV
  obtain ⟨x0, g0, s0⟩ := open_flat (opn_flt Try.underlying25) flat25 (hval 0 25 v0 rfl rfl) h0
  obtain ⟨x1, g1, s1⟩ := open_flat (opn_flt Try.underlying25) flat25 (hval 1 25 v1 rfl rfl) h1
  obtain ⟨x2, g2, s2⟩ := open_flat (opn_flt Try.underlying25) flat25 (hval 2 25 v2 rfl rfl) h2
  obtain ⟨x3, g3, s3⟩ := open_flat (opn_flt Try.underlying25) flat25 (hval 3 25 v3 rfl rfl) h3
  obtain ⟨x4, g4, s4⟩ := open_flat (opn_int Try.underlying3) flat3 (hval 4 3 v4 rfl rfl) h4
  have hpure := fact_FnDetSignTurned x0 x1 x2 x3 x4 g0 g1 g2 g3 g4
  refine (Fp.call (laws_FnDetSignTurned_sim _ _ _ _ _ hpure) (args := [v0, v1, v2, v3, v4]) ⟨s0, s1, s2, s3, s4, trivial⟩).mono ?_
  rintro e W' ⟨v, U', rfl, hr, hb⟩
  have hr' : v = .bool true := hr
  subst hr'
  exact ⟨_, rfl, law_post rfl rfl hW' hb laidOut params (show Try.f10.resultTypes = _ from rfl) Try.underlying4⟩

theorem over : Rows.fnDetSignTurnedRow.holds Try.pinned (OpenSpec.ofChange Rows.fnDetSignTurnedSpec) :=
  OpenClaim.holds_of_wide 10 Try.f10 rfl rfl rfl rfl rfl rfl rfl ⟨rfl, rfl, rfl, rfl, rfl⟩ rfl rfl rfl rfl rfl (by kernel_rfl) Try.func10 (by kernel_rfl)
    (of_decide_eq_true (by kernel_rfl)) (by unfold Func.isWrapper; rw [if_neg (of_decide_eq_false (by kernel_rfl))]; exact ⟨rfl, rfl⟩)
    (fun os started H enc _ => lifted os started H enc)

theorem proved : Rows.FnDetSignTurnedSaid := over
end Go.Proofs.Ytnemkhcjmenfnaa.fnDetSignTurned
