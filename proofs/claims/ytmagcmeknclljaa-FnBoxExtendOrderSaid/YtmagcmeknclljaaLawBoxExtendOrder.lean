/-
  The law 'FnBoxExtendOrder' returns true for every input, and its arguments read afterwards as before. No condition.
-/
import Derived.Test.YtmagcmeknclljaaRows
import Derived.Test.YtmagcmeknclljaaBoxExtendOrder
import Derived.Test.YtmagcmeknclljaaSxL
namespace Go.Proofs.Ytmagcmeknclljaa.fnBoxExtendOrder
open Go.Sx Go.ChangeShapes Go.WideShapes Go.ChangeAt Go.RowKit
set_option linter.unusedVariables false

theorem own : ownKnob Try.prog.godebug = none := by kernel_rfl
theorem laidOut : laidOutB Try.prog = true := by kernel_rfl
theorem params : Try.f6.params.toList.all (fun t => Try.prog.readableRec t && decide (t < Try.prog.types.size)) = true := by kernel_rfl
theorem cells32 : Try.prog.cellsOf 32 = 1 := by kernel_rfl
theorem cells43 : Try.prog.cellsOf 43 = 3 := by kernel_rfl
theorem cells27 : Try.prog.cellsOf 27 = 7 := by kernel_rfl
theorem cells3 : Try.prog.cellsOf 3 = 1 := by kernel_rfl
theorem cells23 : Try.prog.cellsOf 23 = 1 := by kernel_rfl
theorem opnrec27 : Opn Try.prog 27 KT27.enc T27.Ok := opn_rec fun N ih => opnn_map (f := fun p : Int × Int × Int × (List Nat) × (List Int) × (List (List Int)) × (List T27) => T27.mk p.1 p.2.1 p.2.2.1 p.2.2.2.1 p.2.2.2.2.1 p.2.2.2.2.2.1 p.2.2.2.2.2.2) (fun p h => .mk h.1 h.2.1 h.2.2.1 h.2.2.2.1 h.2.2.2.2.1 h.2.2.2.2.2.1 h.2.2.2.2.2.2.1 h.2.2.2.2.2.2.2) (fun p => KT27_enc _) (opnn_struct Try.underlying27 cells27 (n := 7) (fun _ => rfl) (opfn_cons (f := { name := "Kind", type := 3, offset := 0, embedded := false, tag := "", pkgPath := "", byteOffset := 0 }) (opnn_of (opn_int Try.underlying3)) rfl (n := 1) (fun _ => rfl) (opfn_cons (f := { name := "Layout", type := 3, offset := 1, embedded := false, tag := "", pkgPath := "", byteOffset := 8 }) (opnn_of (opn_int Try.underlying3)) rfl (n := 1) (fun _ => rfl) (opfn_cons (f := { name := "SRID", type := 3, offset := 2, embedded := false, tag := "", pkgPath := "", byteOffset := 16 }) (opnn_of (opn_int Try.underlying3)) rfl (n := 1) (fun _ => rfl) (opfn_cons (f := { name := "Flat", type := 22, offset := 3, embedded := false, tag := "", pkgPath := "", byteOffset := 24 }) (opnn_of (opn_sl (K := Kf) Try.underlying22 (opn_flt Try.underlying32) cells32 (by decide))) rfl (n := 1) (fun _ => rfl) (opfn_cons (f := { name := "Ends", type := 23, offset := 4, embedded := false, tag := "", pkgPath := "", byteOffset := 48 }) (opnn_of (opn_sl (K := (Ki .i64)) Try.underlying23 (opn_int Try.underlying3) cells3 (by decide))) rfl (n := 1) (fun _ => rfl) (opfn_cons (f := { name := "Endss", type := 24, offset := 5, embedded := false, tag := "", pkgPath := "", byteOffset := 72 }) (opnn_of (opn_sl (K := (Kl (Ki .i64))) Try.underlying24 (opn_sl (K := (Ki .i64)) Try.underlying23 (opn_int Try.underlying3) cells3 (by decide)) cells23 (by decide))) rfl (n := 1) (fun _ => rfl) (opfn_one (f := { name := "Kids", type := 25, offset := 6, embedded := false, tag := "", pkgPath := "", byteOffset := 96 }) (opnn_sl (K := KT27) Try.underlying25 ih cells27 (by decide)) rfl))))))))

set_option maxRecDepth 100000 in
theorem lifted (os : Os) (started : os.Started) (H : Type) (enc : TypeId × Value → H) :
    ReturnsInHanded {} Try.checked os 6 .any (Rows.fnBoxExtendOrderSpec.pre6 enc Try.prog Try.f6 Rows.fnBoxExtendOrderRow.domain false) (Rows.fnBoxExtendOrderSpec.post enc Try.prog Try.f6 false true false false) := by
  refine returnsInHanded_of_change (C := Try.checked) own started (by kernel_rfl) Try.func6
    (ChangeSpec.witness6 (enc := enc) (C := Try.checked) false ⟨#[], #[.agg #[.int .i64 0, .slice none 0 0, .slice none 0 0], .agg #[.int .i64 0, .int .i64 0, .int .i64 0, .slice none 0 0, .slice none 0 0, .slice none 0 0, .slice none 0 0], .agg #[.int .i64 0, .int .i64 0, .int .i64 0, .slice none 0 0, .slice none 0 0, .slice none 0 0, .slice none 0 0]], []⟩ 8 (by kernel_rfl) (by kernel_rfl) (by kernel_rfl) (by kernel_rfl)) ?_
  intro W base args ds gs before hval0 hW hcnd _
  have hval : ∀ (j : Nat) t v, Try.f6.params[j]? = some t → args[j]? = some v → Value.okWide Try.prog W .any base t v := hval0
  have hW' := hW
  obtain ⟨p, q, hA0, hV, rfl, hfz, hnd⟩ := hW
  have hA : DataW.TrodAll enc Try.prog W 0 (fun _ => true) true Try.f6.params.toList args.toList ds p := hA0
  rw [Try.params6] at hA hval
  obtain ⟨v0, vs0, d0, ds0, p0, q0, hargs, rfl, rfl, h0, r0⟩ := trodAll_cons hA
  obtain ⟨v1, vs1, d1, ds1, p1, q1, rfl, rfl, rfl, h1, r1⟩ := trodAll_cons r0
  obtain ⟨v2, vs2, d2, ds2, p2, q2, rfl, rfl, rfl, h2, r2⟩ := trodAll_cons r1
  obtain ⟨rfl, rfl, rfl⟩ := trodAll_nil r2
  obtain rfl : args = #[v0, v1, v2] := by cases args; simp_all
  obtain ⟨rfl, rfl⟩ := trodVars_none hV
  obtain ⟨x0, g0, s0⟩ := open_str (opn_struct Try.underlying43 cells43 (n := 3) (fun _ => rfl) (opf_cons (f := { name := "Layout", type := 3, offset := 0, embedded := false, tag := "", pkgPath := "", byteOffset := 0 }) (opn_int Try.underlying3) rfl (n := 1) (fun _ => rfl) (opf_cons (f := { name := "Min", type := 22, offset := 1, embedded := false, tag := "", pkgPath := "", byteOffset := 8 }) (opn_sl (K := Kf) Try.underlying22 (opn_flt Try.underlying32) cells32 (by decide)) rfl (n := 1) (fun _ => rfl) (opf_one (f := { name := "Max", type := 22, offset := 2, embedded := false, tag := "", pkgPath := "", byteOffset := 32 }) (opn_sl (K := Kf) Try.underlying22 (opn_flt Try.underlying32) cells32 (by decide)) rfl)))) Try.underlying43 (hval 0 43 v0 rfl rfl) h0
  obtain ⟨x1, g1, s1⟩ := open_str (opn_struct Try.underlying27 cells27 (n := 7) (fun _ => rfl) (opf_cons (f := { name := "Kind", type := 3, offset := 0, embedded := false, tag := "", pkgPath := "", byteOffset := 0 }) (opn_int Try.underlying3) rfl (n := 1) (fun _ => rfl) (opf_cons (f := { name := "Layout", type := 3, offset := 1, embedded := false, tag := "", pkgPath := "", byteOffset := 8 }) (opn_int Try.underlying3) rfl (n := 1) (fun _ => rfl) (opf_cons (f := { name := "SRID", type := 3, offset := 2, embedded := false, tag := "", pkgPath := "", byteOffset := 16 }) (opn_int Try.underlying3) rfl (n := 1) (fun _ => rfl) (opf_cons (f := { name := "Flat", type := 22, offset := 3, embedded := false, tag := "", pkgPath := "", byteOffset := 24 }) (opn_sl (K := Kf) Try.underlying22 (opn_flt Try.underlying32) cells32 (by decide)) rfl (n := 1) (fun _ => rfl) (opf_cons (f := { name := "Ends", type := 23, offset := 4, embedded := false, tag := "", pkgPath := "", byteOffset := 48 }) (opn_sl (K := (Ki .i64)) Try.underlying23 (opn_int Try.underlying3) cells3 (by decide)) rfl (n := 1) (fun _ => rfl) (opf_cons (f := { name := "Endss", type := 24, offset := 5, embedded := false, tag := "", pkgPath := "", byteOffset := 72 }) (opn_sl (K := (Kl (Ki .i64))) Try.underlying24 (opn_sl (K := (Ki .i64)) Try.underlying23 (opn_int Try.underlying3) cells3 (by decide)) cells23 (by decide)) rfl (n := 1) (fun _ => rfl) (opf_one (f := { name := "Kids", type := 25, offset := 6, embedded := false, tag := "", pkgPath := "", byteOffset := 96 }) (opn_sl (K := KT27) Try.underlying25 opnrec27 cells27 (by decide)) rfl)))))))) Try.underlying27 (hval 1 27 v1 rfl rfl) h1
  obtain ⟨x2, g2, s2⟩ := open_str (opn_struct Try.underlying27 cells27 (n := 7) (fun _ => rfl) (opf_cons (f := { name := "Kind", type := 3, offset := 0, embedded := false, tag := "", pkgPath := "", byteOffset := 0 }) (opn_int Try.underlying3) rfl (n := 1) (fun _ => rfl) (opf_cons (f := { name := "Layout", type := 3, offset := 1, embedded := false, tag := "", pkgPath := "", byteOffset := 8 }) (opn_int Try.underlying3) rfl (n := 1) (fun _ => rfl) (opf_cons (f := { name := "SRID", type := 3, offset := 2, embedded := false, tag := "", pkgPath := "", byteOffset := 16 }) (opn_int Try.underlying3) rfl (n := 1) (fun _ => rfl) (opf_cons (f := { name := "Flat", type := 22, offset := 3, embedded := false, tag := "", pkgPath := "", byteOffset := 24 }) (opn_sl (K := Kf) Try.underlying22 (opn_flt Try.underlying32) cells32 (by decide)) rfl (n := 1) (fun _ => rfl) (opf_cons (f := { name := "Ends", type := 23, offset := 4, embedded := false, tag := "", pkgPath := "", byteOffset := 48 }) (opn_sl (K := (Ki .i64)) Try.underlying23 (opn_int Try.underlying3) cells3 (by decide)) rfl (n := 1) (fun _ => rfl) (opf_cons (f := { name := "Endss", type := 24, offset := 5, embedded := false, tag := "", pkgPath := "", byteOffset := 72 }) (opn_sl (K := (Kl (Ki .i64))) Try.underlying24 (opn_sl (K := (Ki .i64)) Try.underlying23 (opn_int Try.underlying3) cells3 (by decide)) cells23 (by decide)) rfl (n := 1) (fun _ => rfl) (opf_one (f := { name := "Kids", type := 25, offset := 6, embedded := false, tag := "", pkgPath := "", byteOffset := 96 }) (opn_sl (K := KT27) Try.underlying25 opnrec27 cells27 (by decide)) rfl)))))))) Try.underlying27 (hval 2 27 v2 rfl rfl) h2
  obtain ⟨_, hpure⟩ := fact_FnBoxExtendOrder x0.1 x0.2.1 x0.2.2 x1.1 x1.2.1 x1.2.2.1 x1.2.2.2.1 x1.2.2.2.2.1 x1.2.2.2.2.2.1 x1.2.2.2.2.2.2 x2.1 x2.2.1 x2.2.2.1 x2.2.2.2.1 x2.2.2.2.2.1 x2.2.2.2.2.2.1 x2.2.2.2.2.2.2 g0 g1 g2
  refine (Fp.call (laws_FnBoxExtendOrder_sim _ _ _ _ _ _ _ _ _ _ _ _ _ _ _ _ _ hpure) (args := [v0, v1, v2]) ⟨s0, s1, s2, trivial⟩ gok0).mono ?_
  rintro e W' ⟨v, U', rfl, hr, hb⟩
  have hr' : v = .bool true := hr
  subst hr'
  exact ⟨_, rfl, law_post rfl rfl hW' hb laidOut params (show Try.f6.resultTypes = _ from rfl) Try.underlying4⟩

theorem over : Rows.fnBoxExtendOrderRow.holds Try.pinned (OpenSpec.ofChange Rows.fnBoxExtendOrderSpec) :=
  OpenClaim.holds_of_wide 6 Try.f6 rfl rfl rfl rfl rfl rfl rfl ⟨rfl, rfl, rfl, rfl, rfl⟩ rfl rfl rfl rfl rfl (by kernel_rfl) Try.func6 (by kernel_rfl)
    (of_decide_eq_true (by kernel_rfl)) (by unfold Func.isWrapper; rw [if_neg (of_decide_eq_false (by kernel_rfl))]; exact ⟨rfl, rfl⟩)
    (fun os started H enc _ => lifted os started H enc)

theorem proved : Rows.FnBoxExtendOrderSaid := over
end Go.Proofs.Ytmagcmeknclljaa.fnBoxExtendOrder
