/-
  The law 'FnClone' returns true for every input, and its arguments read afterwards as before. No condition.
-/
import Derived.Test.YtmagcmeknclljaaGreatRows
import Derived.Test.YtmagcmeknclljaaGreatClone
import Derived.Test.YtmagcmeknclljaaGreatSxL
namespace Go.Proofs.YtmagcmeknclljaaGreat.fnClone
open Go.Sx Go.ChangeShapes Go.WideShapes Go.ChangeAt Go.RowKit
set_option linter.unusedVariables false

theorem own : ownKnob Tryz.prog.godebug = none := by kernel_rfl
theorem laidOut : laidOutB Tryz.prog = true := by kernel_rfl
theorem params : Tryz.f3.params.toList.all (fun t => Tryz.prog.readableRec t && decide (t < Tryz.prog.types.size)) = true := by kernel_rfl
theorem cells27 : Tryz.prog.cellsOf 27 = 7 := by kernel_rfl
theorem cells3 : Tryz.prog.cellsOf 3 = 1 := by kernel_rfl
theorem cells23 : Tryz.prog.cellsOf 23 = 1 := by kernel_rfl
theorem cells95 : Tryz.prog.cellsOf 95 = 1 := by kernel_rfl
theorem opnrec27 : Opn Tryz.prog 27 KT27.enc T27.Ok := opn_rec fun N ih => opnn_map (f := fun p : Int × Int × Int × (List Nat) × (List Int) × (List (List Int)) × (List T27) => T27.mk p.1 p.2.1 p.2.2.1 p.2.2.2.1 p.2.2.2.2.1 p.2.2.2.2.2.1 p.2.2.2.2.2.2) (fun p h => .mk h.1 h.2.1 h.2.2.1 h.2.2.2.1 h.2.2.2.2.1 h.2.2.2.2.2.1 h.2.2.2.2.2.2.1 h.2.2.2.2.2.2.2) (fun p => KT27_enc _) (opnn_struct Tryz.underlying27 cells27 (n := 7) (fun _ => rfl) (opfn_cons (f := { name := "Kind", type := 3, offset := 0, embedded := false, tag := "", pkgPath := "", byteOffset := 0 }) (opnn_of (opn_int Tryz.underlying3)) rfl (n := 1) (fun _ => rfl) (opfn_cons (f := { name := "Layout", type := 3, offset := 1, embedded := false, tag := "", pkgPath := "", byteOffset := 8 }) (opnn_of (opn_int Tryz.underlying3)) rfl (n := 1) (fun _ => rfl) (opfn_cons (f := { name := "SRID", type := 3, offset := 2, embedded := false, tag := "", pkgPath := "", byteOffset := 16 }) (opnn_of (opn_int Tryz.underlying3)) rfl (n := 1) (fun _ => rfl) (opfn_cons (f := { name := "Flat", type := 22, offset := 3, embedded := false, tag := "", pkgPath := "", byteOffset := 24 }) (opnn_of (opn_sl (K := Kf) Tryz.underlying22 (opn_flt Tryz.underlying95) cells95 (by decide))) rfl (n := 1) (fun _ => rfl) (opfn_cons (f := { name := "Ends", type := 23, offset := 4, embedded := false, tag := "", pkgPath := "", byteOffset := 48 }) (opnn_of (opn_sl (K := (Ki .i64)) Tryz.underlying23 (opn_int Tryz.underlying3) cells3 (by decide))) rfl (n := 1) (fun _ => rfl) (opfn_cons (f := { name := "Endss", type := 24, offset := 5, embedded := false, tag := "", pkgPath := "", byteOffset := 72 }) (opnn_of (opn_sl (K := (Kl (Ki .i64))) Tryz.underlying24 (opn_sl (K := (Ki .i64)) Tryz.underlying23 (opn_int Tryz.underlying3) cells3 (by decide)) cells23 (by decide))) rfl (n := 1) (fun _ => rfl) (opfn_one (f := { name := "Kids", type := 25, offset := 6, embedded := false, tag := "", pkgPath := "", byteOffset := 96 }) (opnn_sl (K := KT27) Tryz.underlying25 ih cells27 (by decide)) rfl))))))))

set_option maxRecDepth 100000 in
theorem lifted (os : Os) (started : os.Started) (H : Type) (enc : TypeId × Value → H) :
    ReturnsInHanded {} Tryz.checked os 3 .any (Rows.fnCloneSpec.pre6 enc Tryz.prog Tryz.f3 Rows.fnCloneRow.domain false) (Rows.fnCloneSpec.post enc Tryz.prog Tryz.f3 false true false false) := by
  refine returnsInHanded_of_change (C := Tryz.checked) own started (by kernel_rfl) Tryz.func3
    (ChangeSpec.witness6 (enc := enc) (C := Tryz.checked) false ⟨#[], #[.agg #[.int .i64 0, .int .i64 0, .int .i64 0, .slice none 0 0, .slice none 0 0, .slice none 0 0, .slice none 0 0]], []⟩ 8 (by kernel_rfl) (by kernel_rfl) (by kernel_rfl) (by kernel_rfl)) ?_
  intro W base args ds gs before hval0 hW hcnd _
  have hval : ∀ (j : Nat) t v, Tryz.f3.params[j]? = some t → args[j]? = some v → Value.okWide Tryz.prog W .any base t v := hval0
  have hW' := hW
  obtain ⟨p, q, hA0, hV, rfl, hfz, hnd⟩ := hW
  have hA : DataW.TrodAll enc Tryz.prog W 0 (fun _ => true) true Tryz.f3.params.toList args.toList ds p := hA0
  rw [Tryz.params3] at hA hval
  obtain ⟨v0, vs0, d0, ds0, p0, q0, hargs, rfl, rfl, h0, r0⟩ := trodAll_cons hA
  obtain ⟨rfl, rfl, rfl⟩ := trodAll_nil r0
  obtain rfl : args = #[v0] := by cases args; simp_all
  obtain ⟨rfl, rfl⟩ := trodVars_none hV
  obtain ⟨x0, g0, s0⟩ := open_str (opn_struct Tryz.underlying27 cells27 (n := 7) (fun _ => rfl) (opf_cons (f := { name := "Kind", type := 3, offset := 0, embedded := false, tag := "", pkgPath := "", byteOffset := 0 }) (opn_int Tryz.underlying3) rfl (n := 1) (fun _ => rfl) (opf_cons (f := { name := "Layout", type := 3, offset := 1, embedded := false, tag := "", pkgPath := "", byteOffset := 8 }) (opn_int Tryz.underlying3) rfl (n := 1) (fun _ => rfl) (opf_cons (f := { name := "SRID", type := 3, offset := 2, embedded := false, tag := "", pkgPath := "", byteOffset := 16 }) (opn_int Tryz.underlying3) rfl (n := 1) (fun _ => rfl) (opf_cons (f := { name := "Flat", type := 22, offset := 3, embedded := false, tag := "", pkgPath := "", byteOffset := 24 }) (opn_sl (K := Kf) Tryz.underlying22 (opn_flt Tryz.underlying95) cells95 (by decide)) rfl (n := 1) (fun _ => rfl) (opf_cons (f := { name := "Ends", type := 23, offset := 4, embedded := false, tag := "", pkgPath := "", byteOffset := 48 }) (opn_sl (K := (Ki .i64)) Tryz.underlying23 (opn_int Tryz.underlying3) cells3 (by decide)) rfl (n := 1) (fun _ => rfl) (opf_cons (f := { name := "Endss", type := 24, offset := 5, embedded := false, tag := "", pkgPath := "", byteOffset := 72 }) (opn_sl (K := (Kl (Ki .i64))) Tryz.underlying24 (opn_sl (K := (Ki .i64)) Tryz.underlying23 (opn_int Tryz.underlying3) cells3 (by decide)) cells23 (by decide)) rfl (n := 1) (fun _ => rfl) (opf_one (f := { name := "Kids", type := 25, offset := 6, embedded := false, tag := "", pkgPath := "", byteOffset := 96 }) (opn_sl (K := KT27) Tryz.underlying25 opnrec27 cells27 (by decide)) rfl)))))))) Tryz.underlying27 (hval 0 27 v0 rfl rfl) h0
  obtain ⟨_, hpure⟩ := fact_FnClone x0.1 x0.2.1 x0.2.2.1 x0.2.2.2.1 x0.2.2.2.2.1 x0.2.2.2.2.2.1 x0.2.2.2.2.2.2 g0
  refine (Fp.call (laws_FnClone_sim _ _ _ _ _ _ _ hpure) (args := [v0]) ⟨s0, trivial⟩ gok0).mono ?_
  rintro e W' ⟨v, U', rfl, hr, hb⟩
  have hr' : v = .bool true := hr
  subst hr'
  exact ⟨_, rfl, law_post rfl rfl hW' hb laidOut params (show Tryz.f3.resultTypes = _ from rfl) Tryz.underlying4⟩

theorem over : Rows.fnCloneRow.holds Tryz.pinned (OpenSpec.ofChange Rows.fnCloneSpec) :=
  OpenClaim.holds_of_wide 3 Tryz.f3 rfl rfl rfl rfl rfl rfl rfl ⟨rfl, rfl, rfl, rfl, rfl⟩ rfl rfl rfl rfl rfl (by kernel_rfl) Tryz.func3 (by kernel_rfl)
    (of_decide_eq_true (by kernel_rfl)) (by unfold Func.isWrapper; rw [if_neg (of_decide_eq_false (by kernel_rfl))]; exact ⟨rfl, rfl⟩)
    (fun os started H enc _ => lifted os started H enc)

theorem proved : Rows.FnCloneSaid := over
end Go.Proofs.YtmagcmeknclljaaGreat.fnClone
