/-
  The law 'FnRotate2' returns true for every input, and its arguments read afterwards as before. No condition.
-/
import Derived.Test.YtekppafmaoefaaaDoorRows
import Derived.Test.YtekppafmaoefaaaDoorRotate2
import Derived.Test.YtekppafmaoefaaaDoorSxL
import Derived.Stop.LaidErr
import Derived.Test.YtekppafmaoefaaaDoorCards
import Derived.Test.YtekppafmaoefaaaDoorTie
import Derived.SevenTiedAt
import Derived.LaidMore
import Derived.LaidLaws
import Derived.Stop.Joined
namespace Go.Proofs.YtekppafmaoefaaaDoor.fnRotate2
open Go.Sx Go.ChangeShapes Go.WideShapes Go.ChangeAt Go.RowKit
set_option linter.unusedVariables false

theorem own : ownKnob Tryd.prog.godebug = none := by kernel_rfl
theorem laidOut : laidOutB Tryd.prog = true := by kernel_rfl
theorem params : Tryd.f5.params.toList.all (fun t => Tryd.prog.readableRec t && decide (t < Tryd.prog.types.size)) = true := by kernel_rfl
theorem cells24 : Tryd.prog.cellsOf 24 = 2 := by kernel_rfl
theorem flat22 : Flat Tryd.prog 22 := ⟨_, Tryd.underlying22, fun _ h => (nomatch h), fun _ _ h => (nomatch h)⟩
theorem gE1 : Tryd.prog.globalNamed "math._cos" = some 1 := by kernel_rfl
theorem gT1 : (Tryd.prog.globals[1]?).map (·.type) = some 88 := by kernel_rfl
theorem celE22 : Tryd.prog.cellsOf 22 = 1 := by kernel_rfl
theorem celE88 : Tryd.prog.cellsOf 88 = 6 := by kernel_rfl
theorem gE2 : Tryd.prog.globalNamed "math._sin" = some 2 := by kernel_rfl
theorem gT2 : (Tryd.prog.globals[2]?).map (·.type) = some 88 := by kernel_rfl
theorem gE3 : Tryd.prog.globalNamed "math.mPi4" = some 3 := by kernel_rfl
theorem gT3 : (Tryd.prog.globals[3]?).map (·.type) = some 103 := by kernel_rfl
theorem celE70 : Tryd.prog.cellsOf 70 = 1 := by kernel_rfl
theorem celE103 : Tryd.prog.cellsOf 103 = 20 := by kernel_rfl
theorem door_met (os : Os) (args : Array Value) : laidMetH Tryd.prog Rows.fnRotate2Row.laid ((World.doorLaid Tryd.prog 28 os).forCall (fun _ _ => 0) ⟨#[], args, []⟩).memory :=
  laidMetH_of_parts3 (fuel := 8) (laidMet_of_run' 8 (by kernel_rfl) (by kernel_rfl)) (by kernel_rfl) (by kernel_rfl)


set_option maxRecDepth 100000 in
theorem lifted (os : Os) (started : os.Started) (H : Type) (enc : TypeId × Value → H) :
    ReturnsInHanded {} Tryd.checked os 5 .any (fun w args => (Rows.fnRotate2Spec.pre enc Tryd.prog Tryd.f5 [] false w args ∧ laidMetH Tryd.prog Rows.fnRotate2Row.laid w) ∧ sizedMet enc Tryd.prog Tryd.f5 (OpenSpec.ofChange Rows.fnRotate2Spec) false w args) (Rows.fnRotate2Spec.post enc Tryd.prog Tryd.f5 false true false false) := by
  refine returnsInHanded_of_change_and (C := Tryd.checked) (X := fun w _ => laidMetH Tryd.prog Rows.fnRotate2Row.laid w) (fun _ _ _ hh h => h.of_heap hh) own started (by kernel_rfl) Tryd.func5
    (ChangeSpec.witness_shaped (enc := enc) (C := Tryd.checked) (os := os) (X := fun w _ => laidMetH Tryd.prog Rows.fnRotate2Row.laid w) false (World.doorLaid Tryd.prog 28 os) #[.agg #[.float .f64 0, .float .f64 0], .agg #[.float .f64 0, .float .f64 0], .float .f64 0] 8 rfl (World.shaped_of_RefB (by kernel_rfl) (by kernel_rfl)) (by kernel_rfl) (by kernel_rfl) (by kernel_rfl) (door_met os _)) ?_
  intro W base args ds gs before hval0 hW hcnd _ hL _
  have hval : ∀ (j : Nat) t v, Tryd.f5.params[j]? = some t → args[j]? = some v → Value.okWide Tryd.prog W .any base t v := hval0
  have hW' := hW
  obtain ⟨p, q, hA0, hV, rfl, hfz, hnd⟩ := hW
  have hA : DataW.TrodAll enc Tryd.prog W 0 (fun _ => true) true Tryd.f5.params.toList args.toList ds p := hA0
  rw [Tryd.params5] at hA hval
  obtain ⟨v0, vs0, d0, ds0, p0, q0, hargs, rfl, rfl, h0, r0⟩ := trodAll_cons hA
  obtain ⟨v1, vs1, d1, ds1, p1, q1, rfl, rfl, rfl, h1, r1⟩ := trodAll_cons r0
  obtain ⟨v2, vs2, d2, ds2, p2, q2, rfl, rfl, rfl, h2, r2⟩ := trodAll_cons r1
  obtain ⟨rfl, rfl, rfl⟩ := trodAll_nil r2
  obtain rfl : args = #[v0, v1, v2] := by cases args; simp_all
  obtain ⟨rfl, rfl⟩ := trodVars_none hV
  obtain ⟨x0, g0, s0⟩ := open_str (opn_struct Tryd.underlying24 cells24 (n := 2) (fun _ => rfl) (opf_cons (f := { name := "X", type := 22, offset := 0, embedded := false, tag := "", pkgPath := "", byteOffset := 0 }) (opn_flt Tryd.underlying22) rfl (n := 1) (fun _ => rfl) (opf_one (f := { name := "Y", type := 22, offset := 1, embedded := false, tag := "", pkgPath := "", byteOffset := 8 }) (opn_flt Tryd.underlying22) rfl))) Tryd.underlying24 (hval 0 24 v0 rfl rfl) h0
  obtain ⟨x1, g1, s1⟩ := open_str (opn_struct Tryd.underlying24 cells24 (n := 2) (fun _ => rfl) (opf_cons (f := { name := "X", type := 22, offset := 0, embedded := false, tag := "", pkgPath := "", byteOffset := 0 }) (opn_flt Tryd.underlying22) rfl (n := 1) (fun _ => rfl) (opf_one (f := { name := "Y", type := 22, offset := 1, embedded := false, tag := "", pkgPath := "", byteOffset := 8 }) (opn_flt Tryd.underlying22) rfl))) Tryd.underlying24 (hval 1 24 v1 rfl rfl) h1
  obtain ⟨x2, g2, s2⟩ := open_flat (opn_flt Tryd.underlying22) flat22 (hval 2 22 v2 rfl rfl) h2
  have hpure := fact_FnRotate2 x0.1 x0.2 x1.1 x1.2 x2 g0 g1 g2
  have hM : laidMet Tryd.prog [("math._sin", Rows.laid_math_sin), ("math._cos", Rows.laid_math_cos), ("math.mPi4", Rows.laid_math_mPi4)] W := hL
  have hc1 := laid_lits (vs := [.float .f64 13666448263388469915, .float .f64 4477121864728985349, .float .f64 13732177093698800582, .float .f64 4537941361668146421, .float .f64 13787419979223748497, .float .f64 4586165620538955083]) hM.tail gE1 gT1 Tryd.underlying88 celE22 celE88 rfl
  have hc2 := laid_lits (vs := [.float .f64 4460209587652500685, .float .f64 13716528389658582877, .float .f64 4523617212962785441, .float .f64 13774824197404483331, .float .f64 4575957461383575504, .float .f64 13818544856648471880]) hM gE2 gT2 Tryd.underlying88 celE22 celE88 rfl
  have hc3 := laid_lits (vs := [.int .u64 1, .int .u64 5040379952546458195, .int .u64 17892431488136887169, .int .u64 13169980181085364355, .int .u64 18204331823439776451, .int .u64 7946843935494350272, .int .u64 905889640498799673, .int .u64 18175356263134875261, .int .u64 15061281708168349961, .int .u64 15220161563773041794, .int .u64 8296664548579374057, .int .u64 4109744767560208502, .int .u64 4607516669194743839, .int .u64 16023283104648321598, .int .u64 15739233654134936430, .int .u64 11424645774684705882, .int .u64 16883842788696515318, .int .u64 8795094592981902804, .int .u64 15561835991111744016, .int .u64 12395701187267450711]) hM.tail.tail gE3 gT3 Tryd.underlying103 celE70 celE103 rfl
  have hG : GOk W (Old W) := show GOkL [(1, ([.float .f64 13666448263388469915, .float .f64 4477121864728985349, .float .f64 13732177093698800582, .float .f64 4537941361668146421, .float .f64 13787419979223748497, .float .f64 4586165620538955083] : List Value).map Vl), (2, ([.float .f64 4460209587652500685, .float .f64 13716528389658582877, .float .f64 4523617212962785441, .float .f64 13774824197404483331, .float .f64 4575957461383575504, .float .f64 13818544856648471880] : List Value).map Vl), (3, ([.int .u64 1, .int .u64 5040379952546458195, .int .u64 17892431488136887169, .int .u64 13169980181085364355, .int .u64 18204331823439776451, .int .u64 7946843935494350272, .int .u64 905889640498799673, .int .u64 18175356263134875261, .int .u64 15061281708168349961, .int .u64 15220161563773041794, .int .u64 8296664548579374057, .int .u64 4109744767560208502, .int .u64 4607516669194743839, .int .u64 16023283104648321598, .int .u64 15739233654134936430, .int .u64 11424645774684705882, .int .u64 16883842788696515318, .int .u64 8795094592981902804, .int .u64 15561835991111744016, .int .u64 12395701187267450711] : List Value).map Vl)] W from (gokl_vals (by decide) hc1 rfl (gokl_vals (by decide) hc2 rfl (gokl_vals (by decide) hc3 rfl gokl_nil)))
  refine (Fp.call (laws_FnRotate2_sim _ _ _ _ _ hpure) (args := [v0, v1, v2]) ⟨s0, s1, s2, trivial⟩ hG).mono ?_
  rintro e W' ⟨v, U', rfl, hr, hb⟩
  have hr' : v = .bool true := hr
  subst hr'
  exact ⟨_, rfl, law_post rfl rfl hW' hb laidOut params (show Tryd.f5.resultTypes = _ from rfl) Tryd.underlying4⟩

theorem over : Rows.fnRotate2Row.holds Tryd.pinned (OpenSpec.ofChange Rows.fnRotate2Spec) :=
  OpenClaim.holds_of_wide 5 Tryd.f5 rfl rfl rfl rfl rfl rfl rfl ⟨rfl, rfl, rfl, rfl, rfl⟩ rfl rfl rfl rfl rfl (by kernel_rfl) Tryd.func5 (by kernel_rfl)
    (of_decide_eq_true (by kernel_rfl)) (by unfold Func.isWrapper; rw [if_neg (of_decide_eq_false (by kernel_rfl))]; exact ⟨rfl, rfl⟩)
    (fun os started H enc _ => lifted os started H enc)

theorem wants (t : TypeId) (h : t ∈ [24, 22]) : Tryd.prog.wantsStandIn t = false := by
  simp only [List.mem_cons, List.mem_nil_iff, or_false] at h
  rcases h with rfl | rfl
  · kernel_rfl
  · kernel_rfl
theorem proved : Rows.FnRotate2CardSaid :=
  Claim7.holds_tied_plain_at .later [] [.data, .data, .data] true (true, "f284930e8101219eeffdea372179c14aba8041da2e252cbce96ca18a24b4ef9c") false
    over (fun _ h => by cases h) (by kernel_rfl) (fun _ h => by cases h) fnRotate2_row_tie rfl ⟨rfl, rfl⟩ (by kernel_rfl) rfl
    (fun f fn hf hfn => by
      obtain rfl : f = 5 := Option.some.inj ((show Tryd.prog.funcNamed "pub-orthodrome/laws.FnRotate2" = some 5 by kernel_rfl).symm.trans hf) |>.symm
      obtain rfl : fn = Tryd.f5 := (Option.some.inj (Tryd.func5.symm.trans hfn)).symm
      exact ⟨by kernel_rfl, fun j t ht => by
        rw [Tryd.params5] at ht
        refine wants t ?_
        have := Array.mem_of_getElem? ht
        first | simpa using this | (simp at this ⊢; grind)⟩)
    (by kernel_rfl)
end Go.Proofs.YtekppafmaoefaaaDoor.fnRotate2
