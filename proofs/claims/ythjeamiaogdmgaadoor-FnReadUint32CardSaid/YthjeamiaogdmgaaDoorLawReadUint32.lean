/-
  The law 'FnReadUint32' returns true for every input, and its arguments read afterwards as before. No condition.
-/
import Derived.Test.YthjeamiaogdmgaaDoorRows
import Derived.Test.YthjeamiaogdmgaaDoorReadUint32
import Derived.Test.YthjeamiaogdmgaaDoorSxL
import Derived.Stop.LaidErr
import Derived.Test.YthjeamiaogdmgaaDoorCards
import Derived.Test.YthjeamiaogdmgaaDoorTie
import Derived.SevenTiedAt
import Derived.LaidMore
import Derived.LaidLaws
import Derived.Stop.Joined
namespace Go.Proofs.YthjeamiaogdmgaaDoor.fnReadUint32
open Go.Sx Go.ChangeShapes Go.WideShapes Go.ChangeAt Go.RowKit
set_option linter.unusedVariables false

theorem own : ownKnob Tryd.prog.godebug = none := by kernel_rfl
theorem laidOut : laidOutB Tryd.prog = true := by kernel_rfl
theorem params : Tryd.f3.params.toList.all (fun t => Tryd.prog.readableRec t && decide (t < Tryd.prog.types.size)) = true := by kernel_rfl
theorem cells5 : Tryd.prog.cellsOf 5 = 1 := by kernel_rfl
theorem flat22 : Flat Tryd.prog 22 := ⟨_, Tryd.underlying22, fun _ h => (nomatch h), fun _ _ h => (nomatch h)⟩
theorem flat4 : Flat Tryd.prog 4 := ⟨_, Tryd.underlying4, fun _ h => (nomatch h), fun _ _ h => (nomatch h)⟩
theorem gE2 : Tryd.prog.globalNamed "io.ErrShortBuffer" = some 2 := by kernel_rfl
theorem gT2 : (Tryd.prog.globals[2]?).map (·.type) = some 35 := by kernel_rfl
theorem star67 : "*" ++ "errors.errorString" = "*errors.errorString" := by decide
theorem row67 (u : TypeId) (h : Tryd.prog.typeName? 3 u = some "*errors.errorString") : u = 67 :=
  typeName_ptr_named (nm := "errors.errorString") (by rw [star67]; kernel_rfl) (by kernel_rfl) (by decide) u (by rw [star67]; exact h)
theorem celE95 : Tryd.prog.cellsOf 95 = 1 := by kernel_rfl
theorem celE9 : Tryd.prog.cellsOf 9 = 1 := by kernel_rfl
theorem gE3 : Tryd.prog.globalNamed "io.EOF" = some 3 := by kernel_rfl
theorem gT3 : (Tryd.prog.globals[3]?).map (·.type) = some 35 := by kernel_rfl
theorem gE4 : Tryd.prog.globalNamed "io.ErrUnexpectedEOF" = some 4 := by kernel_rfl
theorem gT4 : (Tryd.prog.globals[4]?).map (·.type) = some 35 := by kernel_rfl
theorem door_met (os : Os) (args : Array Value) : laidMetH Tryd.prog Rows.fnReadUint32Row.laid ((World.doorLaid Tryd.prog 85 os).forCall (fun _ _ => 0) ⟨#[], args, []⟩).memory :=
  laidMetH_of_parts3 (fuel := 8) (laidMet_of_run' 8 (by kernel_rfl) (by kernel_rfl)) (by kernel_rfl) (by kernel_rfl)


set_option maxRecDepth 100000 in
theorem lifted (os : Os) (started : os.Started) (H : Type) (enc : TypeId × Value → H) :
    ReturnsInHanded {} Tryd.checked os 3 .any (fun w args => (Rows.fnReadUint32Spec.pre enc Tryd.prog Tryd.f3 [] false w args ∧ laidMetH Tryd.prog Rows.fnReadUint32Row.laid w) ∧ sizedMet enc Tryd.prog Tryd.f3 (OpenSpec.ofChange Rows.fnReadUint32Spec) false w args) (Rows.fnReadUint32Spec.post enc Tryd.prog Tryd.f3 false true false false) := by
  refine returnsInHanded_of_change_and (C := Tryd.checked) (X := fun w _ => laidMetH Tryd.prog Rows.fnReadUint32Row.laid w) (fun _ _ _ hh h => h.of_heap hh) own started (by kernel_rfl) Tryd.func3
    (ChangeSpec.witness_shaped (enc := enc) (C := Tryd.checked) (os := os) (X := fun w _ => laidMetH Tryd.prog Rows.fnReadUint32Row.laid w) false (World.doorLaid Tryd.prog 85 os) #[.slice none 0 0, .bool false] 8 rfl (World.shaped_of_RefB (by kernel_rfl) (by kernel_rfl)) (by kernel_rfl) (by kernel_rfl) (by kernel_rfl) (door_met os _)) ?_
  intro W base args ds gs before hval0 hW hcnd _ hL _
  have hval : ∀ (j : Nat) t v, Tryd.f3.params[j]? = some t → args[j]? = some v → Value.okWide Tryd.prog W .any base t v := hval0
  have hW' := hW
  obtain ⟨p, q, hA0, hV, rfl, hfz, hnd⟩ := hW
  have hA : DataW.TrodAll enc Tryd.prog W 0 (fun _ => true) true Tryd.f3.params.toList args.toList ds p := hA0
  rw [Tryd.params3] at hA hval
  obtain ⟨v0, vs0, d0, ds0, p0, q0, hargs, rfl, rfl, h0, r0⟩ := trodAll_cons hA
  obtain ⟨v1, vs1, d1, ds1, p1, q1, rfl, rfl, rfl, h1, r1⟩ := trodAll_cons r0
  obtain ⟨rfl, rfl, rfl⟩ := trodAll_nil r1
  obtain rfl : args = #[v0, v1] := by cases args; simp_all
  obtain ⟨rfl, rfl⟩ := trodVars_none hV
  obtain ⟨x0, g0, s0⟩ := open_flat (opn_sl (K := (Ki .u8)) Tryd.underlying22 (opn_int Tryd.underlying5) cells5 (by decide)) flat22 (hval 0 22 v0 rfl rfl) h0
  obtain ⟨x1, g1, s1⟩ := open_flat (opn_bool Tryd.underlying4) flat4 (hval 1 4 v1 rfl rfl) h1
  have hpure := fact_FnReadUint32 x0 x1 g0 g1
  have hM : laidMet Tryd.prog [("io.ErrShortBuffer", Rows.laid_io_ErrShortBuffer), ("io.EOF", Rows.laid_io_EOF), ("io.ErrUnexpectedEOF", Rows.laid_io_ErrUnexpectedEOF)] W := hL
  obtain ⟨ge2, se2, hv2, _⟩ := laid_sentinel hM gE2 gT2 Tryd.underlying35 row67 Tryd.underlying67 Tryd.underlying95 rfl rfl Tryd.underlying9 celE95 celE9
  obtain ⟨ge3, se3, hv3, _⟩ := laid_sentinel hM.tail gE3 gT3 Tryd.underlying35 row67 Tryd.underlying67 Tryd.underlying95 rfl rfl Tryd.underlying9 celE95 celE9
  obtain ⟨ge4, se4, hv4, _⟩ := laid_sentinel hM.tail.tail gE4 gT4 Tryd.underlying35 row67 Tryd.underlying67 Tryd.underlying95 rfl rfl Tryd.underlying9 celE95 celE9
  letI : Ga := ⟨fun i => if i = 2 then ge2 else if i = 3 then ge3 else if i = 4 then ge4 else ⟨0, 0, none⟩⟩
  have hG : GOk W (Old W) := show GOkL [(2, If 67 (Vl (.pointer (some (Ga.a 2))))), (3, If 67 (Vl (.pointer (some (Ga.a 3))))), (4, If 67 (Vl (.pointer (some (Ga.a 4)))))] W from (gokl_cons (World.var?_cell gE2 hv2 0) ⟨⟨_, rfl, rfl⟩, rfl⟩ (gokl_cons (World.var?_cell gE3 hv3 0) ⟨⟨_, rfl, rfl⟩, rfl⟩ (gokl_cons (World.var?_cell gE4 hv4 0) ⟨⟨_, rfl, rfl⟩, rfl⟩ gokl_nil)))
  refine (Fp.call (laws_FnReadUint32_sim _ _ hpure) (args := [v0, v1]) ⟨s0, s1, trivial⟩ hG).mono ?_
  rintro e W' ⟨v, U', rfl, hr, hb⟩
  have hr' : v = .bool true := hr
  subst hr'
  exact ⟨_, rfl, law_post rfl rfl hW' hb laidOut params (show Tryd.f3.resultTypes = _ from rfl) Tryd.underlying4⟩

theorem over : Rows.fnReadUint32Row.holds Tryd.pinned (OpenSpec.ofChange Rows.fnReadUint32Spec) :=
  OpenClaim.holds_of_wide 3 Tryd.f3 rfl rfl rfl rfl rfl rfl rfl ⟨rfl, rfl, rfl, rfl, rfl⟩ rfl rfl rfl rfl rfl (by kernel_rfl) Tryd.func3 (by kernel_rfl)
    (of_decide_eq_true (by kernel_rfl)) (by unfold Func.isWrapper; rw [if_neg (of_decide_eq_false (by kernel_rfl))]; exact ⟨rfl, rfl⟩)
    (fun os started H enc _ => lifted os started H enc)

theorem wants (t : TypeId) (h : t ∈ [22, 4]) : Tryd.prog.wantsStandIn t = false := by
  simp only [List.mem_cons, List.mem_nil_iff, or_false] at h
  rcases h with rfl | rfl
  · kernel_rfl
  · kernel_rfl
theorem proved : Rows.FnReadUint32CardSaid :=
  Claim7.holds_tied_plain_at .later [] [.sentinel, .sentinel, .sentinel] true (true, "f3aa769b5dd1dc3e409a71eb34ddb9d3daa171f6e7d5df911bf3b4de605ab965") true
    over (fun _ h => by cases h) (by kernel_rfl) (fun _ h => by cases h) fnReadUint32_row_tie rfl ⟨rfl, rfl⟩ (by kernel_rfl) rfl
    (fun f fn hf hfn => by
      obtain rfl : f = 3 := Option.some.inj ((show Tryd.prog.funcNamed "pub-orthodrome/laws.FnReadUint32" = some 3 by kernel_rfl).symm.trans hf) |>.symm
      obtain rfl : fn = Tryd.f3 := (Option.some.inj (Tryd.func3.symm.trans hfn)).symm
      exact ⟨by kernel_rfl, fun j t ht => by
        rw [Tryd.params3] at ht
        refine wants t ?_
        have := Array.mem_of_getElem? ht
        first | simpa using this | (simp at this ⊢; grind)⟩)
    (by kernel_rfl)
end Go.Proofs.YthjeamiaogdmgaaDoor.fnReadUint32
