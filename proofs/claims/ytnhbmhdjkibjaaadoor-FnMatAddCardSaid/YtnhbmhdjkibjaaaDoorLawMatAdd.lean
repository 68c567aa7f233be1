/-
  The law 'FnMatAdd' returns true for every input, and its arguments read afterwards as before. No condition.
-/
import Derived.Test.YtnhbmhdjkibjaaaDoorRows
import Derived.Test.YtnhbmhdjkibjaaaDoorMatAdd
import Derived.Test.YtnhbmhdjkibjaaaDoorSxL
import Derived.Test.YtnhbmhdjkibjaaaDoorCards
import Derived.Test.YtnhbmhdjkibjaaaDoorTie
import Derived.SevenTiedAt
import Derived.LaidMore
import Derived.LaidLaws
import Derived.Stop.Joined
namespace Go.Proofs.YtnhbmhdjkibjaaaDoor.fnMatAdd
open Go.Sx Go.ChangeShapes Go.WideShapes Go.ChangeAt Go.RowKit
set_option linter.unusedVariables false

theorem own : ownKnob Tryd.prog.godebug = none := by kernel_rfl
theorem laidOut : laidOutB Tryd.prog = true := by kernel_rfl
theorem params : Tryd.f4.params.toList.all (fun t => Tryd.prog.readableRec t && decide (t < Tryd.prog.types.size)) = true := by kernel_rfl
theorem cells22 : Tryd.prog.cellsOf 22 = 1 := by kernel_rfl
theorem cells24 : Tryd.prog.cellsOf 24 = 9 := by kernel_rfl
theorem flat3 : Flat Tryd.prog 3 := ⟨_, Tryd.underlying3, fun _ h => (nomatch h), fun _ _ h => (nomatch h)⟩
theorem door_met (os : Os) (args : Array Value) : laidMetH Tryd.prog Rows.fnMatAddRow.laid ((World.doorLaid Tryd.prog 62 os).forCall (fun _ _ => 0) ⟨#[], args, []⟩).memory :=
  laidMetH_of_parts3 (fuel := 8) (laidMet_of_run' 8 (by kernel_rfl) (by kernel_rfl)) (by kernel_rfl) (by kernel_rfl)


set_option maxRecDepth 100000 in
theorem lifted (os : Os) (started : os.Started) (H : Type) (enc : TypeId × Value → H) :
    ReturnsInHanded {} Tryd.checked os 4 .any (fun w args => (Rows.fnMatAddSpec.pre enc Tryd.prog Tryd.f4 [] false w args ∧ laidMetH Tryd.prog Rows.fnMatAddRow.laid w) ∧ sizedMet enc Tryd.prog Tryd.f4 (OpenSpec.ofChange Rows.fnMatAddSpec) false w args) (Rows.fnMatAddSpec.post enc Tryd.prog Tryd.f4 false true false false) := by
  refine returnsInHanded_of_change_and (C := Tryd.checked) (X := fun w _ => laidMetH Tryd.prog Rows.fnMatAddRow.laid w) (fun _ _ _ hh h => h.of_heap hh) own started (by kernel_rfl) Tryd.func4
    (ChangeSpec.witness_shaped (enc := enc) (C := Tryd.checked) (os := os) (X := fun w _ => laidMetH Tryd.prog Rows.fnMatAddRow.laid w) false (World.doorLaid Tryd.prog 62 os) #[.agg #[.float .f64 0, .float .f64 0, .float .f64 0, .float .f64 0, .float .f64 0, .float .f64 0, .float .f64 0, .float .f64 0, .float .f64 0], .agg #[.float .f64 0, .float .f64 0, .float .f64 0, .float .f64 0, .float .f64 0, .float .f64 0, .float .f64 0, .float .f64 0, .float .f64 0], .int .i64 0] 8 rfl (World.shaped_of_RefB (by kernel_rfl) (by kernel_rfl)) (by kernel_rfl) (by kernel_rfl) (by kernel_rfl) (door_met os _)) ?_
  intro W base args ds gs before hval0 hW hcnd _ hL _
  have hval : ∀ (j : Nat) t v, Tryd.f4.params[j]? = some t → args[j]? = some v → Value.okWide Tryd.prog W .any base t v := hval0
  have hW' := hW
  obtain ⟨p, q, hA0, hV, rfl, hfz, hnd⟩ := hW
  have hA : DataW.TrodAll enc Tryd.prog W 0 (fun _ => true) true Tryd.f4.params.toList args.toList ds p := hA0
  rw [Tryd.params4] at hA hval
  obtain ⟨v0, vs0, d0, ds0, p0, q0, hargs, rfl, rfl, h0, r0⟩ := trodAll_cons hA
  obtain ⟨v1, vs1, d1, ds1, p1, q1, rfl, rfl, rfl, h1, r1⟩ := trodAll_cons r0
  obtain ⟨v2, vs2, d2, ds2, p2, q2, rfl, rfl, rfl, h2, r2⟩ := trodAll_cons r1
  obtain ⟨rfl, rfl, rfl⟩ := trodAll_nil r2
  obtain rfl : args = #[v0, v1, v2] := by cases args; simp_all
  obtain ⟨rfl, rfl⟩ := trodVars_none hV
  obtain ⟨x0, g0, s0⟩ := open_arr (opn_arr (is := [0, 1, 2, 3, 4, 5, 6, 7, 8]) Tryd.underlying24 rfl cells24 (fun _ => rfl) (opa_cons (i := 0) (opn_flt Tryd.underlying22) cells22 rfl (fun _ => rfl) (opa_cons (i := 1) (opn_flt Tryd.underlying22) cells22 rfl (fun _ => rfl) (opa_cons (i := 2) (opn_flt Tryd.underlying22) cells22 rfl (fun _ => rfl) (opa_cons (i := 3) (opn_flt Tryd.underlying22) cells22 rfl (fun _ => rfl) (opa_cons (i := 4) (opn_flt Tryd.underlying22) cells22 rfl (fun _ => rfl) (opa_cons (i := 5) (opn_flt Tryd.underlying22) cells22 rfl (fun _ => rfl) (opa_cons (i := 6) (opn_flt Tryd.underlying22) cells22 rfl (fun _ => rfl) (opa_cons (i := 7) (opn_flt Tryd.underlying22) cells22 rfl (fun _ => rfl) (opa_one (i := 8) (opn_flt Tryd.underlying22) cells22 rfl)))))))))) Tryd.underlying24 (hval 0 24 v0 rfl rfl) h0
  obtain ⟨x1, g1, s1⟩ := open_arr (opn_arr (is := [0, 1, 2, 3, 4, 5, 6, 7, 8]) Tryd.underlying24 rfl cells24 (fun _ => rfl) (opa_cons (i := 0) (opn_flt Tryd.underlying22) cells22 rfl (fun _ => rfl) (opa_cons (i := 1) (opn_flt Tryd.underlying22) cells22 rfl (fun _ => rfl) (opa_cons (i := 2) (opn_flt Tryd.underlying22) cells22 rfl (fun _ => rfl) (opa_cons (i := 3) (opn_flt Tryd.underlying22) cells22 rfl (fun _ => rfl) (opa_cons (i := 4) (opn_flt Tryd.underlying22) cells22 rfl (fun _ => rfl) (opa_cons (i := 5) (opn_flt Tryd.underlying22) cells22 rfl (fun _ => rfl) (opa_cons (i := 6) (opn_flt Tryd.underlying22) cells22 rfl (fun _ => rfl) (opa_cons (i := 7) (opn_flt Tryd.underlying22) cells22 rfl (fun _ => rfl) (opa_one (i := 8) (opn_flt Tryd.underlying22) cells22 rfl)))))))))) Tryd.underlying24 (hval 1 24 v1 rfl rfl) h1
  obtain ⟨x2, g2, s2⟩ := open_flat (opn_int Tryd.underlying3) flat3 (hval 2 3 v2 rfl rfl) h2
  have hpure := fact_FnMatAdd x0.1 x0.2.1 x0.2.2.1 x0.2.2.2.1 x0.2.2.2.2.1 x0.2.2.2.2.2.1 x0.2.2.2.2.2.2.1 x0.2.2.2.2.2.2.2.1 x0.2.2.2.2.2.2.2.2 x1.1 x1.2.1 x1.2.2.1 x1.2.2.2.1 x1.2.2.2.2.1 x1.2.2.2.2.2.1 x1.2.2.2.2.2.2.1 x1.2.2.2.2.2.2.2.1 x1.2.2.2.2.2.2.2.2 x2 g0 g1 g2
  refine (Fp.call (laws_FnMatAdd_sim _ _ _ _ _ _ _ _ _ _ _ _ _ _ _ _ _ _ _ hpure) (args := [v0, v1, v2]) ⟨s0, s1, s2, trivial⟩).mono ?_
  rintro e W' ⟨v, U', rfl, hr, hb⟩
  have hr' : v = .bool true := hr
  subst hr'
  exact ⟨_, rfl, law_post rfl rfl hW' hb laidOut params (show Tryd.f4.resultTypes = _ from rfl) Tryd.underlying4⟩

theorem over : Rows.fnMatAddRow.holds Tryd.pinned (OpenSpec.ofChange Rows.fnMatAddSpec) :=
  OpenClaim.holds_of_wide 4 Tryd.f4 rfl rfl rfl rfl rfl rfl rfl ⟨rfl, rfl, rfl, rfl, rfl⟩ rfl rfl rfl rfl rfl (by kernel_rfl) Tryd.func4 (by kernel_rfl)
    (of_decide_eq_true (by kernel_rfl)) (by unfold Func.isWrapper; rw [if_neg (of_decide_eq_false (by kernel_rfl))]; exact ⟨rfl, rfl⟩)
    (fun os started H enc _ => lifted os started H enc)

theorem wants (t : TypeId) (h : t ∈ [24, 3]) : Tryd.prog.wantsStandIn t = false := by
  simp only [List.mem_cons, List.mem_nil_iff, or_false] at h
  rcases h with rfl | rfl
  · kernel_rfl
  · kernel_rfl
theorem proved : Rows.FnMatAddCardSaid :=
  Claim7.holds_tied_plain_at .later [] [.data, .data, .data] true (true, "e7bdafff9471de1c16b448110e7025ddfda9fc826c7e2e212762f6e226bf8e99") false
    over (fun _ h => by cases h) (by kernel_rfl) (fun _ h => by cases h) fnMatAdd_row_tie rfl ⟨rfl, rfl⟩ (by kernel_rfl) rfl
    (fun f fn hf hfn => by
      obtain rfl : f = 4 := Option.some.inj ((show Tryd.prog.funcNamed "pub-orthodrome/laws.FnMatAdd" = some 4 by kernel_rfl).symm.trans hf) |>.symm
      obtain rfl : fn = Tryd.f4 := (Option.some.inj (Tryd.func4.symm.trans hfn)).symm
      exact ⟨by kernel_rfl, fun j t ht => by
        rw [Tryd.params4] at ht
        refine wants t ?_
        have := Array.mem_of_getElem? ht
        first | simpa using this | (simp at this ⊢; grind)⟩)
    (by kernel_rfl)
end Go.Proofs.YtnhbmhdjkibjaaaDoor.fnMatAdd
