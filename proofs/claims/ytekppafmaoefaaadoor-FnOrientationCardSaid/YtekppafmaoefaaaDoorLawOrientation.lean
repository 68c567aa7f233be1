/-
  The law 'FnOrientation' returns true for every input, and its arguments read afterwards as before. No condition.
-/
import Derived.Test.YtekppafmaoefaaaDoorRows
import Derived.Test.YtekppafmaoefaaaDoorOrientation
import Derived.Test.YtekppafmaoefaaaDoorSxL
import Derived.Stop.LaidErr
import Derived.Test.YtekppafmaoefaaaDoorCards
import Derived.Test.YtekppafmaoefaaaDoorTie
import Derived.SevenTiedAt
import Derived.LaidMore
import Derived.LaidLaws
import Derived.Stop.Joined
namespace Go.Proofs.YtekppafmaoefaaaDoor.fnOrientation
open Go.Sx Go.ChangeShapes Go.WideShapes Go.ChangeAt Go.RowKit
set_option linter.unusedVariables false

theorem own : ownKnob Tryd.prog.godebug = none := by kernel_rfl
theorem laidOut : laidOutB Tryd.prog = true := by kernel_rfl
theorem params : Tryd.f3.params.toList.all (fun t => Tryd.prog.readableRec t && decide (t < Tryd.prog.types.size)) = true := by kernel_rfl
theorem cells24 : Tryd.prog.cellsOf 24 = 2 := by kernel_rfl
theorem flat3 : Flat Tryd.prog 3 := ⟨_, Tryd.underlying3, fun _ h => (nomatch h), fun _ _ h => (nomatch h)⟩
theorem gE4 : Tryd.prog.globalNamed "pub-orthodrome/pub/gogeom/bigxy.dpSafeEpsilon" = some 4 := by kernel_rfl
theorem door_met (os : Os) (args : Array Value) : laidMetH Tryd.prog Rows.fnOrientationRow.laid ((World.doorLaid Tryd.prog 28 os).forCall (fun _ _ => 0) ⟨#[], args, []⟩).memory :=
  laidMetH_of_parts3 (fuel := 8) (laidMet_of_run' 8 (by kernel_rfl) (by kernel_rfl)) (by kernel_rfl) (by kernel_rfl)


set_option maxRecDepth 100000 in
theorem lifted (os : Os) (started : os.Started) (H : Type) (enc : TypeId × Value → H) :
    ReturnsInHanded {} Tryd.checked os 3 .any (fun w args => (Rows.fnOrientationSpec.pre enc Tryd.prog Tryd.f3 [] false w args ∧ laidMetH Tryd.prog Rows.fnOrientationRow.laid w) ∧ sizedMet enc Tryd.prog Tryd.f3 (OpenSpec.ofChange Rows.fnOrientationSpec) false w args) (Rows.fnOrientationSpec.post enc Tryd.prog Tryd.f3 false true false false) := by
  refine returnsInHanded_of_change_and (C := Tryd.checked) (X := fun w _ => laidMetH Tryd.prog Rows.fnOrientationRow.laid w) (fun _ _ _ hh h => h.of_heap hh) own started (by kernel_rfl) Tryd.func3
    (ChangeSpec.witness_shaped (enc := enc) (C := Tryd.checked) (os := os) (X := fun w _ => laidMetH Tryd.prog Rows.fnOrientationRow.laid w) false (World.doorLaid Tryd.prog 28 os) #[.agg #[.float .f64 0, .float .f64 0], .agg #[.float .f64 0, .float .f64 0], .agg #[.float .f64 0, .float .f64 0], .int .i64 0] 8 rfl (World.shaped_of_RefB (by kernel_rfl) (by kernel_rfl)) (by kernel_rfl) (by kernel_rfl) (by kernel_rfl) (door_met os _)) ?_
  intro W base args ds gs before hval0 hW hcnd _ hL _
  have hval : ∀ (j : Nat) t v, Tryd.f3.params[j]? = some t → args[j]? = some v → Value.okWide Tryd.prog W .any base t v := hval0
  have hW' := hW
  obtain ⟨p, q, hA0, hV, rfl, hfz, hnd⟩ := hW
  have hA : DataW.TrodAll enc Tryd.prog W 0 (fun _ => true) true Tryd.f3.params.toList args.toList ds p := hA0
  rw [Tryd.params3] at hA hval
  obtain ⟨v0, vs0, d0, ds0, p0, q0, hargs, rfl, rfl, h0, r0⟩ := trodAll_cons hA
  obtain ⟨v1, vs1, d1, ds1, p1, q1, rfl, rfl, rfl, h1, r1⟩ := trodAll_cons r0
  obtain ⟨v2, vs2, d2, ds2, p2, q2, rfl, rfl, rfl, h2, r2⟩ := trodAll_cons r1
  obtain ⟨v3, vs3, d3, ds3, p3, q3, rfl, rfl, rfl, h3, r3⟩ := trodAll_cons r2
  obtain ⟨rfl, rfl, rfl⟩ := trodAll_nil r3
  obtain rfl : args = #[v0, v1, v2, v3] := by cases args; simp_all
  obtain ⟨rfl, rfl⟩ := trodVars_none hV
  obtain ⟨x0, g0, s0⟩ := open_str (opn_struct Tryd.underlying24 cells24 (n := 2) (fun _ => rfl) (opf_cons (f := { name := "X", type := 22, offset := 0, embedded := false, tag := "", pkgPath := "", byteOffset := 0 }) (opn_flt Tryd.underlying22) rfl (n := 1) (fun _ => rfl) (opf_one (f := { name := "Y", type := 22, offset := 1, embedded := false, tag := "", pkgPath := "", byteOffset := 8 }) (opn_flt Tryd.underlying22) rfl))) Tryd.underlying24 (hval 0 24 v0 rfl rfl) h0
  obtain ⟨x1, g1, s1⟩ := open_str (opn_struct Tryd.underlying24 cells24 (n := 2) (fun _ => rfl) (opf_cons (f := { name := "X", type := 22, offset := 0, embedded := false, tag := "", pkgPath := "", byteOffset := 0 }) (opn_flt Tryd.underlying22) rfl (n := 1) (fun _ => rfl) (opf_one (f := { name := "Y", type := 22, offset := 1, embedded := false, tag := "", pkgPath := "", byteOffset := 8 }) (opn_flt Tryd.underlying22) rfl))) Tryd.underlying24 (hval 1 24 v1 rfl rfl) h1
  obtain ⟨x2, g2, s2⟩ := open_str (opn_struct Tryd.underlying24 cells24 (n := 2) (fun _ => rfl) (opf_cons (f := { name := "X", type := 22, offset := 0, embedded := false, tag := "", pkgPath := "", byteOffset := 0 }) (opn_flt Tryd.underlying22) rfl (n := 1) (fun _ => rfl) (opf_one (f := { name := "Y", type := 22, offset := 1, embedded := false, tag := "", pkgPath := "", byteOffset := 8 }) (opn_flt Tryd.underlying22) rfl))) Tryd.underlying24 (hval 2 24 v2 rfl rfl) h2
  obtain ⟨x3, g3, s3⟩ := open_flat (opn_int Tryd.underlying3) flat3 (hval 3 3 v3 rfl rfl) h3
  have hpure := fact_FnOrientation x0.1 x0.2 x1.1 x1.2 x2.1 x2.2 x3 g0 g1 g2 g3
  have hM : laidMet Tryd.prog [("pub-orthodrome/pub/gogeom/bigxy.dpSafeEpsilon", Rows.laid_pub_orthodrome_pub_gogeom_bigxy_dpSafeEpsilon)] W := hL
  have hc4 := laid_lit (v := .float .f64 4382569440205035030) hM gE4 rfl
  have hG : GOk W (Old W) := show GOkL [(4, ([.float .f64 4382569440205035030] : List Value).map Vl)] W from (gokl_vals (by decide) hc4 rfl gokl_nil)
  refine (Fp.call (laws_FnOrientation_sim _ _ _ _ _ _ _ hpure) (args := [v0, v1, v2, v3]) ⟨s0, s1, s2, s3, trivial⟩ hG).mono ?_
  rintro e W' ⟨v, U', rfl, hr, hb⟩
  have hr' : v = .bool true := hr
  subst hr'
  exact ⟨_, rfl, law_post rfl rfl hW' hb laidOut params (show Tryd.f3.resultTypes = _ from rfl) Tryd.underlying4⟩

theorem over : Rows.fnOrientationRow.holds Tryd.pinned (OpenSpec.ofChange Rows.fnOrientationSpec) :=
  OpenClaim.holds_of_wide 3 Tryd.f3 rfl rfl rfl rfl rfl rfl rfl ⟨rfl, rfl, rfl, rfl, rfl⟩ rfl rfl rfl rfl rfl (by kernel_rfl) Tryd.func3 (by kernel_rfl)
    (of_decide_eq_true (by kernel_rfl)) (by unfold Func.isWrapper; rw [if_neg (of_decide_eq_false (by kernel_rfl))]; exact ⟨rfl, rfl⟩)
    (fun os started H enc _ => lifted os started H enc)

theorem wants (t : TypeId) (h : t ∈ [24, 3]) : Tryd.prog.wantsStandIn t = false := by
  simp only [List.mem_cons, List.mem_nil_iff, or_false] at h
  rcases h with rfl | rfl
  · kernel_rfl
  · kernel_rfl
theorem proved : Rows.FnOrientationCardSaid :=
  Claim7.holds_tied_plain_at .later [] [.data] true (true, "f284930e8101219eeffdea372179c14aba8041da2e252cbce96ca18a24b4ef9c") false
    over (fun _ h => by cases h) (by kernel_rfl) (fun _ h => by cases h) fnOrientation_row_tie rfl ⟨rfl, rfl⟩ (by kernel_rfl) rfl
    (fun f fn hf hfn => by
      obtain rfl : f = 3 := Option.some.inj ((show Tryd.prog.funcNamed "pub-orthodrome/laws.FnOrientation" = some 3 by kernel_rfl).symm.trans hf) |>.symm
      obtain rfl : fn = Tryd.f3 := (Option.some.inj (Tryd.func3.symm.trans hfn)).symm
      exact ⟨by kernel_rfl, fun j t ht => by
        rw [Tryd.params3] at ht
        refine wants t ?_
        have := Array.mem_of_getElem? ht
        first | simpa using this | (simp at this ⊢; grind)⟩)
    (by kernel_rfl)
end Go.Proofs.YtekppafmaoefaaaDoor.fnOrientation
