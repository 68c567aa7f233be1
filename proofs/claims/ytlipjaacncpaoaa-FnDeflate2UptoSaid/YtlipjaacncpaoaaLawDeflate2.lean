/-
  The law 'FnDeflate2' returns true for every input, and its arguments read afterwards as before. No condition.
-/
import Derived.Test.YtlipjaacncpaoaaRows
import Derived.Test.YtlipjaacncpaoaaDeflate2
import Derived.Test.YtlipjaacncpaoaaSxL
import Derived.JoinedCond
namespace Go.Proofs.Ytlipjaacncpaoaa.fnDeflate2
open Go.Sx Go.ChangeShapes Go.WideShapes Go.ChangeAt Go.RowKit
set_option linter.unusedVariables false

theorem own : ownKnob Try.prog.godebug = none := by kernel_rfl
theorem laidOut : laidOutB Try.prog = true := by kernel_rfl
theorem params : Try.f4.params.toList.all (fun t => Try.prog.readableRec t && decide (t < Try.prog.types.size)) = true := by kernel_rfl
theorem cells38 : Try.prog.cellsOf 38 = 1 := by kernel_rfl
theorem cells22 : Try.prog.cellsOf 22 = 1 := by kernel_rfl
theorem cells39 : Try.prog.cellsOf 39 = 1 := by kernel_rfl
theorem flat29 : Flat Try.prog 29 := ⟨_, Try.underlying29, fun _ h => (nomatch h), fun _ _ h => (nomatch h)⟩
theorem flat3 : Flat Try.prog 3 := ⟨_, Try.underlying3, fun _ h => (nomatch h), fun _ _ h => (nomatch h)⟩
theorem all_is {H : Type} : ∀ l : List (DataW H), Rows.uptoBulkAll l = (l.map fun d => Rows.uptoBulk d).sum
  | [] => rfl
  | d :: r => by simp only [Rows.uptoBulkAll, List.map_cons, List.sum_cons, all_is r]
theorem bk : Bk (fun H d => Rows.uptoBulk d) where
  one := fun H d => by
    cases d with
    | lit l => cases l <;> simp [Rows.uptoBulk]
    | nil => simp [Rows.uptoBulk]
    | ptr d => simp [Rows.uptoBulk]
    | slice elems spare => simp [Rows.uptoBulk]
    | agg parts => simp [Rows.uptoBulk]
    | iface t d => simp [Rows.uptoBulk]
    | map entries => simp [Rows.uptoBulk]
    | held h => simp [Rows.uptoBulk]
  sl := fun H l s => by
    simp only [Rows.uptoBulk, all_is]; omega


set_option maxRecDepth 100000 in
theorem lifted (os : Os) (started : os.Started) (H : Type) (enc : TypeId × Value → H) (F : Stop.Interp) :
    ReturnsInHanded {} Try.checked os 4 .any ((Rows.OpenSpec.upto Rows.fnDeflate2Spec).pre6 enc Try.prog Try.f4 Rows.fnDeflate2UptoRow.domain false) (((Rows.OpenSpec.upto Rows.fnDeflate2Spec).at F).post enc Try.prog Try.f4 false true false false) := by
  refine returnsInHanded_of_cond (C := Try.checked) (s := Rows.OpenSpec.upto Rows.fnDeflate2Spec) (k := Rows.uptoSmall) rfl own started (by kernel_rfl) Try.func4
    (OpenSpec.witness (enc := enc) (C := Try.checked) (s := Rows.OpenSpec.upto Rows.fnDeflate2Spec) (k := Rows.uptoSmall) rfl false ⟨#[], #[.slice none 0 0, .int .i64 0], []⟩ 8 (by kernel_rfl) (by kernel_rfl) (by kernel_rfl)
      (x := ([.nil, .lit (.int .i64 0)], [], [])) (by kernel_rfl) rfl (by kernel_rfl)) ?_
  intro W base args ds gs before hval0 hW _ hk _
  have hval : ∀ (j : Nat) t v, Try.f4.params[j]? = some t → args[j]? = some v → Value.okWide Try.prog W .any base t v := hval0
  have hW' := hW
  obtain ⟨p, q, hA0, hV, rfl, hfz, hnd⟩ := hW
  have hA : DataW.TrodAll enc Try.prog W 0 (fun _ => true) true Try.f4.params.toList args.toList ds p := hA0
  rw [Try.params4] at hA hval
  obtain ⟨v0, vs0, d0, ds0, p0, q0, hargs, rfl, rfl, h0, r0⟩ := trodAll_cons hA
  obtain ⟨v1, vs1, d1, ds1, p1, q1, rfl, rfl, rfl, h1, r1⟩ := trodAll_cons r0
  obtain ⟨rfl, rfl, rfl⟩ := trodAll_nil r1
  obtain rfl : args = #[v0, v1] := by cases args; simp_all
  obtain ⟨rfl, rfl⟩ := trodVars_none hV
  obtain ⟨x0, g0, s0, m0⟩ := open_flatb (opnb_sl bk (K := (Kl (Kl Kf))) Try.underlying29 (opnb_sl bk (K := (Kl Kf)) Try.underlying39 (opnb_sl bk (K := Kf) Try.underlying22 (opnb_of bk (opn_flt Try.underlying38)) cells38 (by decide)) cells22 (by decide)) cells39 (by decide)) flat29 (hval 0 29 v0 rfl rfl) h0
  obtain ⟨x1, g1, s1, m1⟩ := open_flatb (opnb_of bk (opn_int Try.underlying3)) flat3 (hval 1 3 v1 rfl rfl) h1
  have hkk : Rows.uptoBulkAll ([d0, d1] ++ []) ≤ 1048576 := of_decide_eq_true hk
  simp only [List.append_nil, Rows.uptoBulkAll] at hkk
  have hpure := fact_FnDeflate2 x0 x1 g0 g1 (by omega)
  refine (Fp.call (laws_FnDeflate2_sim _ _ hpure) (args := [v0, v1]) ⟨s0, s1, trivial⟩ gok0).mono ?_
  rintro e W' ⟨v, U', rfl, hr, hb⟩
  have hr' : v = .bool true := hr
  subst hr'
  exact ⟨_, rfl, law_post rfl rfl hW' hb laidOut params (show Try.f4.resultTypes = _ from rfl) Try.underlying4⟩

theorem over : Rows.fnDeflate2UptoRow.holds Try.pinned (Rows.OpenSpec.upto Rows.fnDeflate2Spec) :=
  OpenClaim.holds_of_cond 4 Try.f4 rfl rfl rfl rfl rfl rfl rfl ⟨rfl, rfl, rfl, rfl, rfl⟩ rfl rfl rfl rfl rfl (by kernel_rfl) Try.func4 (by kernel_rfl)
    (of_decide_eq_true (by kernel_rfl)) (by unfold Func.isWrapper; rw [if_neg (of_decide_eq_false (by kernel_rfl))]; exact ⟨rfl, rfl⟩)
    (fun os started H enc _ F => lifted os started H enc F)

theorem proved : Rows.FnDeflate2UptoSaid := over
end Go.Proofs.Ytlipjaacncpaoaa.fnDeflate2
