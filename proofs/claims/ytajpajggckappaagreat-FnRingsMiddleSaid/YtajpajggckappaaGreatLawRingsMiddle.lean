/-
  The law 'FnRingsMiddle' returns true for every input, and its arguments read afterwards as before. No condition.
-/
import Derived.Test.YtajpajggckappaaGreatRows
import Derived.Test.YtajpajggckappaaGreatRingsMiddle
import Derived.Test.YtajpajggckappaaGreatSxL
namespace Go.Proofs.YtajpajggckappaaGreat.fnRingsMiddle
open Go.Sx Go.ChangeShapes Go.WideShapes Go.ChangeAt Go.RowKit
set_option linter.unusedVariables false

theorem own : ownKnob Tryz.prog.godebug = none := by kernel_rfl
theorem laidOut : laidOutB Tryz.prog = true := by kernel_rfl
theorem params : Tryz.f3.params.toList.all (fun t => Tryz.prog.readableRec t && decide (t < Tryz.prog.types.size)) = true := by kernel_rfl
theorem flat3 : Flat Tryz.prog 3 := ⟨_, Tryz.underlying3, fun _ h => (nomatch h), fun _ _ h => (nomatch h)⟩
theorem cells38 : Tryz.prog.cellsOf 38 = 7 := by kernel_rfl
theorem cells3 : Tryz.prog.cellsOf 3 = 1 := by kernel_rfl
theorem cells35 : Tryz.prog.cellsOf 35 = 1 := by kernel_rfl
theorem cells26 : Tryz.prog.cellsOf 26 = 1 := by kernel_rfl
theorem opnrec38 : Opn Tryz.prog 38 KT38.enc T38.Ok := opn_rec fun N ih => opnn_map (f := fun p : Int × Int × Int × (List Nat) × (List Int) × (List (List Int)) × (List T38) => T38.mk p.1 p.2.1 p.2.2.1 p.2.2.2.1 p.2.2.2.2.1 p.2.2.2.2.2.1 p.2.2.2.2.2.2) (fun p h => .mk h.1 h.2.1 h.2.2.1 h.2.2.2.1 h.2.2.2.2.1 h.2.2.2.2.2.1 h.2.2.2.2.2.2.1 h.2.2.2.2.2.2.2) (fun p => KT38_enc _) (opnn_struct Tryz.underlying38 cells38 (n := 7) (fun _ => rfl) (opfn_cons (f := { name := "Kind", type := 3, offset := 0, embedded := false, tag := "", pkgPath := "", byteOffset := 0 }) (opnn_of (opn_int Tryz.underlying3)) rfl (n := 1) (fun _ => rfl) (opfn_cons (f := { name := "Layout", type := 3, offset := 1, embedded := false, tag := "", pkgPath := "", byteOffset := 8 }) (opnn_of (opn_int Tryz.underlying3)) rfl (n := 1) (fun _ => rfl) (opfn_cons (f := { name := "SRID", type := 3, offset := 2, embedded := false, tag := "", pkgPath := "", byteOffset := 16 }) (opnn_of (opn_int Tryz.underlying3)) rfl (n := 1) (fun _ => rfl) (opfn_cons (f := { name := "Flat", type := 29, offset := 3, embedded := false, tag := "", pkgPath := "", byteOffset := 24 }) (opnn_of (opn_sl (K := Kf) Tryz.underlying29 (opn_flt Tryz.underlying26) cells26 (by decide))) rfl (n := 1) (fun _ => rfl) (opfn_cons (f := { name := "Ends", type := 35, offset := 4, embedded := false, tag := "", pkgPath := "", byteOffset := 48 }) (opnn_of (opn_sl (K := (Ki .i64)) Tryz.underlying35 (opn_int Tryz.underlying3) cells3 (by decide))) rfl (n := 1) (fun _ => rfl) (opfn_cons (f := { name := "Endss", type := 36, offset := 5, embedded := false, tag := "", pkgPath := "", byteOffset := 72 }) (opnn_of (opn_sl (K := (Kl (Ki .i64))) Tryz.underlying36 (opn_sl (K := (Ki .i64)) Tryz.underlying35 (opn_int Tryz.underlying3) cells3 (by decide)) cells35 (by decide))) rfl (n := 1) (fun _ => rfl) (opfn_one (f := { name := "Kids", type := 22, offset := 6, embedded := false, tag := "", pkgPath := "", byteOffset := 96 }) (opnn_sl (K := KT38) Tryz.underlying22 ih cells38 (by decide)) rfl))))))))
theorem flat22 : Flat Tryz.prog 22 := ⟨_, Tryz.underlying22, fun _ h => (nomatch h), fun _ _ h => (nomatch h)⟩

set_option maxRecDepth 100000 in
theorem lifted (os : Os) (started : os.Started) (H : Type) (enc : TypeId × Value → H) :
    ReturnsInHanded {} Tryz.checked os 3 .any (Rows.fnRingsMiddleSpec.pre6 enc Tryz.prog Tryz.f3 Rows.fnRingsMiddleRow.domain false) (Rows.fnRingsMiddleSpec.post enc Tryz.prog Tryz.f3 false true false false) := by
  refine returnsInHanded_of_change (C := Tryz.checked) own started (by kernel_rfl) Tryz.func3
    (ChangeSpec.witness6 (enc := enc) (C := Tryz.checked) false ⟨#[], #[.int .i64 0, .slice none 0 0], []⟩ 8 (by kernel_rfl) (by kernel_rfl) (by kernel_rfl) (by kernel_rfl)) ?_
  intro W base args ds gs before hval0 hW hcnd _
  have hval : ∀ (j : Nat) t v, Tryz.f3.params[j]? = some t → args[j]? = some v → Value.okWide Tryz.prog W .any base t v := hval0
  have hW' := hW
  obtain ⟨p, q, hA0, hV, rfl, hfz, hnd⟩ := hW
  have hA : DataW.TrodAll enc Tryz.prog W 0 (fun _ => true) true Tryz.f3.params.toList args.toList ds p := hA0
  rw [Tryz.params3] at hA hval
  obtain ⟨v0, vs0, d0, ds0, p0, q0, hargs, rfl, rfl, h0, r0⟩ := trodAll_cons hA
  obtain ⟨v1, vs1, d1, ds1, p1, q1, rfl, rfl, rfl, h1, r1⟩ := trodAll_cons r0
  obtain ⟨rfl, rfl, rfl⟩ := trodAll_nil r1
  obtain rfl : args = #[v0, v1] := by cases args; simp_all
  obtain ⟨rfl, rfl⟩ := trodVars_none hV
  obtain ⟨x0, g0, s0⟩ := open_flat (opn_int Tryz.underlying3) flat3 (hval 0 3 v0 rfl rfl) h0
  obtain ⟨x1, g1, s1⟩ := open_flat (opn_sl (K := KT38) Tryz.underlying22 opnrec38 cells38 (by decide)) flat22 (hval 1 22 v1 rfl rfl) h1
  obtain ⟨_, hpure⟩ := fact_FnRingsMiddle x0 x1 g0 g1
  refine (Fp.call (laws_FnRingsMiddle_sim _ _ hpure) (args := [v0, v1]) ⟨s0, s1, trivial⟩ gok0).mono ?_
  rintro e W' ⟨v, U', rfl, hr, hb⟩
  have hr' : v = .bool true := hr
  subst hr'
  exact ⟨_, rfl, law_post rfl rfl hW' hb laidOut params (show Tryz.f3.resultTypes = _ from rfl) Tryz.underlying4⟩

theorem over : Rows.fnRingsMiddleRow.holds Tryz.pinned (OpenSpec.ofChange Rows.fnRingsMiddleSpec) :=
  OpenClaim.holds_of_wide 3 Tryz.f3 rfl rfl rfl rfl rfl rfl rfl ⟨rfl, rfl, rfl, rfl, rfl⟩ rfl rfl rfl rfl rfl (by kernel_rfl) Tryz.func3 (by kernel_rfl)
    (of_decide_eq_true (by kernel_rfl)) (by unfold Func.isWrapper; rw [if_neg (of_decide_eq_false (by kernel_rfl))]; exact ⟨rfl, rfl⟩)
    (fun os started H enc _ => lifted os started H enc)

theorem proved : Rows.FnRingsMiddleSaid := over
end Go.Proofs.YtajpajggckappaaGreat.fnRingsMiddle
