/-
  The law 'FnPush' returns true for every input, and its arguments read afterwards as before. No condition.
-/
import Derived.Test.YtmagcmeknclljaaRows
import Derived.Test.YtmagcmeknclljaaPush
import Derived.Test.YtmagcmeknclljaaSxL
namespace Go.Proofs.Ytmagcmeknclljaa.fnPush
open Go.Sx Go.ChangeShapes Go.WideShapes Go.ChangeAt Go.RowKit
set_option linter.unusedVariables false

theorem own : ownKnob Try.prog.godebug = none := by kernel_rfl
theorem laidOut : laidOutB Try.prog = true := by kernel_rfl
theorem params : Try.f5.params.toList.all (fun t => Try.prog.readableRec t && decide (t < Try.prog.types.size)) = true := by kernel_rfl
theorem cells27 : Try.prog.cellsOf 27 = 7 := by kernel_rfl
theorem byts27 : Try.prog.bytesOf 27 = 120 := by kernel_rfl
theorem cells3 : Try.prog.cellsOf 3 = 1 := by kernel_rfl
theorem byts3 : Try.prog.bytesOf 3 = 8 := by kernel_rfl
theorem cells23 : Try.prog.cellsOf 23 = 1 := by kernel_rfl
theorem byts23 : Try.prog.bytesOf 23 = 24 := by kernel_rfl
theorem cells32 : Try.prog.cellsOf 32 = 1 := by kernel_rfl
theorem byts32 : Try.prog.bytesOf 32 = 8 := by kernel_rfl
theorem opnrecw27 : ∀ N, OpnW Try.prog 27 KT27.enc T27.OkW N := opnw_rec fun N ih => opnw_map (f := fun p : Int × Int × Int × (List Nat) × (List Int) × (List (List Int)) × (List T27) => T27.mk p.1 p.2.1 p.2.2.1 p.2.2.2.1 p.2.2.2.2.1 p.2.2.2.2.2.1 p.2.2.2.2.2.2) (fun p h => .mk h.1 h.2.1 h.2.2.1 h.2.2.2.1 h.2.2.2.2.1 h.2.2.2.2.2.1 h.2.2.2.2.2.2.1 h.2.2.2.2.2.2.2) (fun p => KT27_enc _) (opnw_struct Try.underlying27 cells27 (n := 7) (fun _ => rfl) (opfw_cons (f := { name := "Kind", type := 3, offset := 0, embedded := false, tag := "", pkgPath := "", byteOffset := 0 }) ((fun N => opnw_of (opn_int Try.underlying3)) (N + 1)) rfl (n := 1) (fun _ => rfl) (opfw_cons (f := { name := "Layout", type := 3, offset := 1, embedded := false, tag := "", pkgPath := "", byteOffset := 8 }) ((fun N => opnw_of (opn_int Try.underlying3)) (N + 1)) rfl (n := 1) (fun _ => rfl) (opfw_cons (f := { name := "SRID", type := 3, offset := 2, embedded := false, tag := "", pkgPath := "", byteOffset := 16 }) ((fun N => opnw_of (opn_int Try.underlying3)) (N + 1)) rfl (n := 1) (fun _ => rfl) (opfw_cons (f := { name := "Flat", type := 22, offset := 3, embedded := false, tag := "", pkgPath := "", byteOffset := 24 }) ((fun N => opnw_up (opnw_sl (K := Kf) Try.underlying22 ((fun N => opnw_of (opn_flt Try.underlying32)) N) cells32 (by decide) byts32)) (N + 1)) rfl (n := 1) (fun _ => rfl) (opfw_cons (f := { name := "Ends", type := 23, offset := 4, embedded := false, tag := "", pkgPath := "", byteOffset := 48 }) ((fun N => opnw_up (opnw_sl (K := (Ki .i64)) Try.underlying23 ((fun N => opnw_of (opn_int Try.underlying3)) N) cells3 (by decide) byts3)) (N + 1)) rfl (n := 1) (fun _ => rfl) (opfw_cons (f := { name := "Endss", type := 24, offset := 5, embedded := false, tag := "", pkgPath := "", byteOffset := 72 }) ((fun N => opnw_up (opnw_sl (K := (Kl (Ki .i64))) Try.underlying24 ((fun N => opnw_up (opnw_sl (K := (Ki .i64)) Try.underlying23 ((fun N => opnw_of (opn_int Try.underlying3)) N) cells3 (by decide) byts3)) N) cells23 (by decide) byts23)) (N + 1)) rfl (n := 1) (fun _ => rfl) (opfw_one (f := { name := "Kids", type := 25, offset := 6, embedded := false, tag := "", pkgPath := "", byteOffset := 96 }) (opnw_sl (K := KT27) Try.underlying25 ih cells27 (by decide) byts27) rfl))))))))

set_option maxRecDepth 100000 in
theorem lifted (os : Os) (started : os.Started) (H : Type) (enc : TypeId × Value → H) :
    ReturnsInHanded {} Try.checked os 5 .any (Rows.fnPushSpec.pre6 enc Try.prog Try.f5 Rows.fnPushRow.domain false) (Rows.fnPushSpec.post enc Try.prog Try.f5 false true false false) := by
  refine returnsInHanded_of_change_sized (C := Try.checked) own started (by kernel_rfl) Try.func5
    (ChangeSpec.witness6 (enc := enc) (C := Try.checked) false ⟨#[], #[.agg #[.int .i64 0, .int .i64 0, .int .i64 0, .slice none 0 0, .slice none 0 0, .slice none 0 0, .slice none 0 0], .agg #[.int .i64 0, .int .i64 0, .int .i64 0, .slice none 0 0, .slice none 0 0, .slice none 0 0, .slice none 0 0]], []⟩ 8 (by kernel_rfl) (by kernel_rfl) (by kernel_rfl) (by kernel_rfl)) ?_
  intro W base args ds gs before hval0 hW hcnd hsz _
  have hval : ∀ (j : Nat) t v, Try.f5.params[j]? = some t → args[j]? = some v → Value.okWide Try.prog W .any base t v := hval0
  have hW' := hW
  obtain ⟨p, q, hA0, hV, rfl, hfz, hnd⟩ := hW
  have hA : DataW.TrodAll enc Try.prog W 0 (fun _ => true) true Try.f5.params.toList args.toList ds p := hA0
  rw [Try.params5] at hA hval
  obtain ⟨v0, vs0, d0, ds0, p0, q0, hargs, rfl, rfl, h0, r0⟩ := trodAll_cons hA
  obtain ⟨v1, vs1, d1, ds1, p1, q1, rfl, rfl, rfl, h1, r1⟩ := trodAll_cons r0
  obtain ⟨rfl, rfl, rfl⟩ := trodAll_nil r1
  obtain rfl : args = #[v0, v1] := by cases args; simp_all
  obtain ⟨rfl, rfl⟩ := trodVars_none hV
  obtain ⟨x0, g0, s0⟩ := open_strw (fun N => opnw_up (opnw_struct Try.underlying27 cells27 (n := 7) (fun _ => rfl) (opfw_cons (f := { name := "Kind", type := 3, offset := 0, embedded := false, tag := "", pkgPath := "", byteOffset := 0 }) ((fun N => opnw_of (opn_int Try.underlying3)) N) rfl (n := 1) (fun _ => rfl) (opfw_cons (f := { name := "Layout", type := 3, offset := 1, embedded := false, tag := "", pkgPath := "", byteOffset := 8 }) ((fun N => opnw_of (opn_int Try.underlying3)) N) rfl (n := 1) (fun _ => rfl) (opfw_cons (f := { name := "SRID", type := 3, offset := 2, embedded := false, tag := "", pkgPath := "", byteOffset := 16 }) ((fun N => opnw_of (opn_int Try.underlying3)) N) rfl (n := 1) (fun _ => rfl) (opfw_cons (f := { name := "Flat", type := 22, offset := 3, embedded := false, tag := "", pkgPath := "", byteOffset := 24 }) ((fun N => opnw_up (opnw_sl (K := Kf) Try.underlying22 ((fun N => opnw_of (opn_flt Try.underlying32)) N) cells32 (by decide) byts32)) N) rfl (n := 1) (fun _ => rfl) (opfw_cons (f := { name := "Ends", type := 23, offset := 4, embedded := false, tag := "", pkgPath := "", byteOffset := 48 }) ((fun N => opnw_up (opnw_sl (K := (Ki .i64)) Try.underlying23 ((fun N => opnw_of (opn_int Try.underlying3)) N) cells3 (by decide) byts3)) N) rfl (n := 1) (fun _ => rfl) (opfw_cons (f := { name := "Endss", type := 24, offset := 5, embedded := false, tag := "", pkgPath := "", byteOffset := 72 }) ((fun N => opnw_up (opnw_sl (K := (Kl (Ki .i64))) Try.underlying24 ((fun N => opnw_up (opnw_sl (K := (Ki .i64)) Try.underlying23 ((fun N => opnw_of (opn_int Try.underlying3)) N) cells3 (by decide) byts3)) N) cells23 (by decide) byts23)) N) rfl (n := 1) (fun _ => rfl) (opfw_one (f := { name := "Kids", type := 25, offset := 6, embedded := false, tag := "", pkgPath := "", byteOffset := 96 }) ((fun N => opnw_up (opnw_sl (K := KT27) Try.underlying25 (opnrecw27 N) cells27 (by decide) byts27)) N) rfl))))))))) Try.underlying27 (hval 0 27 v0 rfl rfl) h0 (light_arg hsz (j := 0) rfl rfl)
  obtain ⟨x1, g1, s1⟩ := open_strw (fun N => opnw_up (opnw_struct Try.underlying27 cells27 (n := 7) (fun _ => rfl) (opfw_cons (f := { name := "Kind", type := 3, offset := 0, embedded := false, tag := "", pkgPath := "", byteOffset := 0 }) ((fun N => opnw_of (opn_int Try.underlying3)) N) rfl (n := 1) (fun _ => rfl) (opfw_cons (f := { name := "Layout", type := 3, offset := 1, embedded := false, tag := "", pkgPath := "", byteOffset := 8 }) ((fun N => opnw_of (opn_int Try.underlying3)) N) rfl (n := 1) (fun _ => rfl) (opfw_cons (f := { name := "SRID", type := 3, offset := 2, embedded := false, tag := "", pkgPath := "", byteOffset := 16 }) ((fun N => opnw_of (opn_int Try.underlying3)) N) rfl (n := 1) (fun _ => rfl) (opfw_cons (f := { name := "Flat", type := 22, offset := 3, embedded := false, tag := "", pkgPath := "", byteOffset := 24 }) ((fun N => opnw_up (opnw_sl (K := Kf) Try.underlying22 ((fun N => opnw_of (opn_flt Try.underlying32)) N) cells32 (by decide) byts32)) N) rfl (n := 1) (fun _ => rfl) (opfw_cons (f := { name := "Ends", type := 23, offset := 4, embedded := false, tag := "", pkgPath := "", byteOffset := 48 }) ((fun N => opnw_up (opnw_sl (K := (Ki .i64)) Try.underlying23 ((fun N => opnw_of (opn_int Try.underlying3)) N) cells3 (by decide) byts3)) N) rfl (n := 1) (fun _ => rfl) (opfw_cons (f := { name := "Endss", type := 24, offset := 5, embedded := false, tag := "", pkgPath := "", byteOffset := 72 }) ((fun N => opnw_up (opnw_sl (K := (Kl (Ki .i64))) Try.underlying24 ((fun N => opnw_up (opnw_sl (K := (Ki .i64)) Try.underlying23 ((fun N => opnw_of (opn_int Try.underlying3)) N) cells3 (by decide) byts3)) N) cells23 (by decide) byts23)) N) rfl (n := 1) (fun _ => rfl) (opfw_one (f := { name := "Kids", type := 25, offset := 6, embedded := false, tag := "", pkgPath := "", byteOffset := 96 }) ((fun N => opnw_up (opnw_sl (K := KT27) Try.underlying25 (opnrecw27 N) cells27 (by decide) byts27)) N) rfl))))))))) Try.underlying27 (hval 1 27 v1 rfl rfl) h1 (light_arg hsz (j := 1) rfl rfl)
  obtain ⟨_, hpure⟩ := fact_FnPush x0.1 x0.2.1 x0.2.2.1 x0.2.2.2.1 x0.2.2.2.2.1 x0.2.2.2.2.2.1 x0.2.2.2.2.2.2 x1.1 x1.2.1 x1.2.2.1 x1.2.2.2.1 x1.2.2.2.2.1 x1.2.2.2.2.2.1 x1.2.2.2.2.2.2 g0 g1
  refine (Fp.call (laws_FnPush_sim _ _ _ _ _ _ _ _ _ _ _ _ _ _ hpure) (args := [v0, v1]) ⟨s0, s1, trivial⟩ gok0).mono ?_
  rintro e W' ⟨v, U', rfl, hr, hb⟩
  have hr' : v = .bool true := hr
  subst hr'
  exact ⟨_, rfl, law_post rfl rfl hW' hb laidOut params (show Try.f5.resultTypes = _ from rfl) Try.underlying4⟩

theorem over : Rows.fnPushRow.holds Try.pinned (OpenSpec.ofChange Rows.fnPushSpec) :=
  OpenClaim.holds_of_wide 5 Try.f5 rfl rfl rfl rfl rfl rfl rfl ⟨rfl, rfl, rfl, rfl, rfl⟩ rfl rfl rfl rfl rfl (by kernel_rfl) Try.func5 (by kernel_rfl)
    (of_decide_eq_true (by kernel_rfl)) (by unfold Func.isWrapper; rw [if_neg (of_decide_eq_false (by kernel_rfl))]; exact ⟨rfl, rfl⟩)
    (fun os started H enc _ => lifted os started H enc)

theorem proved : Rows.FnPushSaid := over
end Go.Proofs.Ytmagcmeknclljaa.fnPush
