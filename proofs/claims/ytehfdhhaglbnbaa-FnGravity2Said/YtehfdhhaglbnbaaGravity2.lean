/-
  The force of gravity of the plane: the plain statement. Ours.
-/
import Derived.Test.YtehfdhhaglbnbaaGridRows
import Derived.Test.YtehfdhhaglbnbaaRelat2
namespace Go.Proofs.Ytehfdhhaglbnbaa
open Go.Sx
open Ieee (signed)
set_option linter.unusedVariables false
set_option linter.unusedSimpArgs false
set_option maxRecDepth 100000

theorem offGrid_num10 {x : Nat} (hx : x < 2 ^ 64) (h : offGrid 4652218415073722368 x = false) : ∃ n : Int, D x n 1074 ∧ n.natAbs ≤ 1024 := by
  unfold offGrid at h
  simp only [Bool.not_eq_false', Bool.and_eq_true, Bool.not_eq_true'] at h
  have hw := D_two 10 (by omega)
  exact grid_one (w := 4652218415073722368) (b := 1024) hx (by omega) hw h.1.1 h.1.2 h.2
theorem abs_is' (k x : Nat) (hx : x < 2 ^ 64) : math_Abs k x = some (x % 2 ^ 63) := by
  have h1 := bv_nat64 x hx
  have e : iandn .u64 (x : Int) 9223372036854775808 = ((x % 2 ^ 63 : Nat) : Int) := by
    unfold iandn
    have e3 : (BitVec.ofInt IntKind.u64.bits (x : Int) &&& ~~~ BitVec.ofInt IntKind.u64.bits 9223372036854775808).toNat = x % 2 ^ 63 := by
      show (BitVec.ofInt 64 (x : Int) &&& ~~~ BitVec.ofInt 64 9223372036854775808).toNat = _
      rw [BitVec.toNat_and, h1, show (~~~ BitVec.ofInt 64 9223372036854775808).toNat = 2 ^ 63 - 1 from by decide, Nat.and_two_pow_sub_one_eq_mod]
    rw [e3]; exact wrap_u64_id (by omega) (by omega)
  unfold math_Abs ffrom
  rw [show fbits x = (x : Int) from rfl, e, Int.toNat_natCast]

/-! #### the particle -/
theorem ones_is (j : Nat) (hj : 100 < j) (way : List Int) : ∃ l b, laws_ones2 (j + 3) [way] = some (l, b) ∧
    (b = true → ∃ x y : Nat, ∃ m n : Int, l = [(x, y, 4607182418800017408)] ∧ D x m 1074 ∧ m.natAbs ≤ 1024 ∧ D y n 1074 ∧ n.natAbs ≤ 1024 ∧ x < 2 ^ 64 ∧ y < 2 ^ 64) := by
  have i0 : idx [way] 0 = some way := rfl
  have d0 : decide ((0 : Int) < (([way] : List (List Int)).length : Int)) = true := rfl
  have d1 : decide ((1 : Int) < (([way] : List (List Int)).length : Int)) = false := rfl
  have a0 : iadd .i64 0 1 = 1 := by decide
  have z60 : decide ((0 : Int) = 60) = false := rfl
  by_cases hl : (way.length : Int) = 2
  · obtain ⟨u, v, rfl⟩ : ∃ u v, way = [u, v] := by
      match way, hl with
      | [u, v], _ => exact ⟨u, v, rfl⟩
      | [], h => simp at h
      | [_], h => simp at h
      | _ :: _ :: _ :: _, h => simp at h; omega
    have i1 : idx [u, v] 0 = some u := rfl
    have i2 : idx [u, v] 1 = some v := rfl
    have ap : apd 24 ([] : List (Nat × Nat × Nat)) [(i2f u, i2f v, 4607182418800017408)] = some [(i2f u, i2f v, 4607182418800017408)] := apd_some (by simp) (by simp)
    have ap2 : apd 24 ([] : List (List Nat)) [[i2f u, i2f v]] = some [[i2f u, i2f v]] := apd_some (by simp) (by simp)
    have hloop : laws_ones2_l1 [[u, v]] (j + 3) ([], 0) = some (.inr [(i2f u, i2f v, 4607182418800017408)]) := by
      have d2 : decide ((([u, v] : List Int).length : Int) = 2) = true := rfl
      simp -implicitDefEqProofs only [laws_ones2_l1, laws_ones2_l1s, d0, br_true, i0, Option.bind_eq_bind, Option.bind_some, z60, br_false, d2, Bool.not_true, laws_ones2_j1, i1, i2, ap, a0]
      have d1' : decide ((1 : Int) < (([[u, v]] : List (List Int)).length : Int)) = false := rfl
      simp -implicitDefEqProofs only [d1', br_false]
    have hpl : laws_places2 (j + 3) [(i2f u, i2f v, 4607182418800017408)] = some [[i2f u, i2f v]] := by
      have q0 : idx [(i2f u, i2f v, 4607182418800017408)] 0 = some (i2f u, i2f v, 4607182418800017408) := rfl
      have q1 : decide ((0 : Int) < (([(i2f u, i2f v, 4607182418800017408)] : List (Nat × Nat × Nat)).length : Int)) = true := rfl
      have q2 : decide ((1 : Int) < (([(i2f u, i2f v, 4607182418800017408)] : List (Nat × Nat × Nat)).length : Int)) = false := rfl
      unfold laws_places2
      simp -implicitDefEqProofs only [laws_places2_l1, laws_places2_l1s, q0, q1, q2, br_true, br_false, Option.bind_eq_bind, Option.bind_some, ap2, a0]
    obtain ⟨b, b1, b2⟩ := grid_rows (j + 3) [[i2f u, i2f v]] 2 (by omega) 4652218415073722368 (by simp) (by simp; omega)
    have b1' : spec_Grid (j + 3) [[i2f u, i2f v]] 2 4652218415073722368 = some b := b1
    have hdf : spec_Differ (j + 3) [[i2f u, i2f v]] = some true := by
      have q0 : idx [[i2f u, i2f v]] 0 = some [i2f u, i2f v] := rfl
      have q1 : decide ((0 : Int) < (([[i2f u, i2f v]] : List (List Nat)).length : Int)) = true := rfl
      have q2 : decide ((1 : Int) < (([[i2f u, i2f v]] : List (List Nat)).length : Int)) = false := rfl
      have q3 : cut [[i2f u, i2f v]] 0 0 = some [] := rfl
      have q4 : decide ((0 : Int) < (([] : List (List Nat)).length : Int)) = false := rfl
      unfold spec_Differ
      simp -implicitDefEqProofs only [spec_Differ_l3, spec_Differ_l3s, spec_Differ_l2, spec_Differ_l2s, q0, q1, q2, q3, q4, br_true, br_false, Option.bind_eq_bind, Option.bind_some, a0]
    refine ⟨[(i2f u, i2f v, 4607182418800017408)], b, ?_, fun hb => ?_⟩
    · unfold laws_ones2
      rw [hloop, sbind]
      simp -implicitDefEqProofs only [hpl, sbind]
      have q1 : decide ((0 : Int) < (([(i2f u, i2f v, 4607182418800017408)] : List (Nat × Nat × Nat)).length : Int)) = true := rfl
      have q2 : decide ((([(i2f u, i2f v, 4607182418800017408)] : List (Nat × Nat × Nat)).length : Int) ≤ 60) = true := rfl
      rw [q1, q2, br_true]
      unfold laws_ones2_j2
      rw [br_true, b1', sbind]
      unfold laws_ones2_j3
      cases b with
      | false => rfl
      | true => rw [br_true, hdf, sbind]; rfl
    · obtain ⟨_, hg⟩ := b2 hb [i2f u, i2f v] (by simp)
      obtain ⟨m, dm, hm⟩ := offGrid_num10 (i2f_lt u) (hg 0 (by simp))
      obtain ⟨n, dn, hn⟩ := offGrid_num10 (i2f_lt v) (hg 1 (by simp))
      exact ⟨_, _, m, n, rfl, dm, hm, dn, hn, i2f_lt u, i2f_lt v⟩
  · refine ⟨[], false, ?_, fun h => by cases h⟩
    have d2 : decide ((way.length : Int) = 2) = false := decide_eq_false hl
    unfold laws_ones2
    have : laws_ones2_l1 [way] (j + 3) ([], 0) = some (.inl ()) := by
      simp -implicitDefEqProofs only [laws_ones2_l1, laws_ones2_l1s, d0, br_true, i0, Option.bind_eq_bind, Option.bind_some, z60, br_false, d2, Bool.not_false, laws_ones2_j1]
    rw [this, sbind]

/-! #### the masses -/
theorem feq_both {x y : Nat} (h : feq x y = true) : fle x y = true ∧ fge x y = true := by
  unfold feq at h
  unfold fle fge
  cases ho : FloatKind.f64.format.order x y with
  | none => rw [ho] at h; cases h
  | some o => rw [ho] at h; cases o <;> first | (cases h; done) | exact ⟨rfl, rfl⟩
theorem fin_of {x a b : Nat} {n m : Int} {v w : Nat} (ha : D a n v) (hb : D b m w) (h1 : fle x b = true) (h2 : fge x a = true) (hx : x < 2 ^ 64) : ∃ N : Int, D x N 0 := by
  have hfin : ∃ s m i, FloatKind.f64.format.read x = .number s m i := by
    rcases fle_read hb h1 with h | h
    · exact h
    · rcases fge_read ha h2 with h' | h'
      · exact h'
      · rw [h] at h'; cases h'
  obtain ⟨s, m, i, hr⟩ := hfin
  rw [fmt_is] at hr
  have hi : ∃ q : Nat, i = (q : Int) - 1074 := by
    unfold Ieee.Format.read at hr
    simp only [Go.Sx.sign_is, binade_is, inf_is, least_is] at hr
    split at hr
    · simp only [Ieee.Datum.number.injEq] at hr; exact ⟨0, by omega⟩
    · split at hr
      · simp only [Ieee.Datum.number.injEq] at hr; exact ⟨x % 2 ^ 63 / 2 ^ 52 - 1, by omega⟩
      · split at hr <;> cases hr
  obtain ⟨q, rfl⟩ := hi
  exact ⟨signed s m q, s, m, q, hr, by simp⟩
theorem Q_of0 {x : Nat} {N : Int} (h : D x N 0) : Q x ((N : Rat) / Un) := ⟨N, h, by have := Un_pos; grind⟩
theorem Q_le {x y : Nat} {a b : Rat} (hx : Q x a) (hy : Q y b) : (fle x y = true) ↔ a ≤ b := by
  obtain ⟨m, h1, h2⟩ := hx
  obtain ⟨n, h3, h4⟩ := hy
  have hU := Un_pos
  rw [D_le h1 h3, decide_eq_true_eq]
  have k1 : (m ≤ n) ↔ ((m : Rat) ≤ (n : Rat)) := Rat.intCast_le_intCast.symm
  rw [k1, h2, h4]
  constructor
  · intro h
    by_cases h5 : a ≤ b
    · exact h5
    · exfalso
      have := Rat.mul_pos (show 0 < a - b by grind) hU
      grind
  · intro h
    have := Rat.mul_nonneg (show 0 ≤ b - a by grind) (Rat.le_of_lt hU)
    grind
theorem Q_least : Q 4517110426252607488 (1 / 1048576) := by
  have h := Go.Sx.D_fields (E := 1003) (F := 0) (by omega) (by omega) (by omega) (n := 1) (v := 1054) (by
    rw [Int.one_mul, show (1054 : Nat) = 52 + (1003 - 1) from rfl, Int.pow_add]; rfl)
  have h1 := Q_of h
  have hU := Un_pos
  have e : (2 : Rat) ^ 1054 * 1048576 = Un := by
    have : (1048576 : Rat) = 2 ^ 20 := by decide +kernel
    rw [this, ← ratpow_add]; rfl
  have e1 : ((1 : Int) : Rat) = 1 := by simp
  rw [e1] at h1
  have e2 : 1 * (2 : Rat) ^ 1054 / Un = 1 / 1048576 := by
    generalize (2 : Rat) ^ 1054 = z at e ⊢
    rw [← e] at hU ⊢
    grind
  rw [e2] at h1; exact h1
theorem Q_tiny : Q 4472074429978902528 (1 / 1073741824) := by
  have h := Go.Sx.D_fields (E := 993) (F := 0) (by omega) (by omega) (by omega) (n := 1) (v := 1044) (by
    rw [Int.one_mul, show (1044 : Nat) = 52 + (993 - 1) from rfl, Int.pow_add]; rfl)
  have h1 := Q_of h
  have hU := Un_pos
  have e : (2 : Rat) ^ 1044 * 1073741824 = Un := by
    have : (1073741824 : Rat) = 2 ^ 30 := by decide +kernel
    rw [this, ← ratpow_add]; rfl
  have e1 : ((1 : Int) : Rat) = 1 := by simp
  rw [e1] at h1
  have e2 : 1 * (2 : Rat) ^ 1044 / Un = 1 / 1073741824 := by
    generalize (2 : Rat) ^ 1044 = z at e ⊢
    rw [← e] at hU ⊢
    grind
  rw [e2] at h1; exact h1
theorem Q_most : Q 4652007308841189376 1000 := by
  have h : D 4652007308841189376 1000 1074 := by
    have := Go.Sx.D_fields (E := 1032) (F := 4292493394837504) (by omega) (by omega) (by omega) (n := 1000) (v := 1074) (by
      rw [show (1032 - 1 : Nat) = 1031 from rfl, show (1074 : Nat) = 43 + 1031 from rfl, Int.pow_add, ← Int.mul_assoc]; rfl)
    exact this
  have := Q_whole h
  simpa using this
theorem Q_nought : Q 0 0 := by
  have : D 0 ((0 : Int)) 1074 := D_zero 1074
  have := Q_whole this
  simpa using this
theorem heavy_is (k x : Nat) (hx : x < 2 ^ 64) : ∃ b, laws_heavy k x = some b ∧ (b = true → ∃ M, Q x M ∧ Rg (1 / 1048576) 1000 M ∧ 0 ≤ M) := by
  unfold laws_heavy
  cases h0 : feq x 0 with
  | true =>
    refine ⟨true, rfl, fun _ => ?_⟩
    obtain ⟨h1, h2⟩ := feq_both h0
    obtain ⟨N, hN⟩ := fin_of (D_zero 0) (D_zero 0) h1 h2 hx
    have hq := Q_of0 hN
    have k1 := (Q_le hq Q_nought).1 h1
    rw [fge_fle] at h2
    have k2 := (Q_le Q_nought hq).1 h2
    exact ⟨_, hq, .inl (by grind), k2⟩
  | false =>
    rw [br_false]
    cases h1 : fge x 4517110426252607488 with
    | false => exact ⟨false, rfl, fun h => by cases h⟩
    | true =>
      cases h2 : fle x 4652007308841189376 with
      | false => exact ⟨false, rfl, fun h => by cases h⟩
      | true =>
        refine ⟨true, rfl, fun _ => ?_⟩
        obtain ⟨a, da, _⟩ := Q_least
        obtain ⟨b, db, _⟩ := Q_most
        obtain ⟨N, hN⟩ := fin_of da db h2 h1 hx
        have hq := Q_of0 hN
        have k1 := (Q_le hq Q_most).1 h2
        rw [fge_fle] at h1
        have k2 := (Q_le Q_least hq).1 h1
        exact ⟨_, hq, .inr (.inl ⟨k2, k1⟩), by grind⟩

/-! #### one number of the force -/
theorem num_q {x : Nat} {r : Rat} (h : Q x r) : num x = some x := by
  obtain ⟨n, h1, _⟩ := h
  unfold num
  have : isn x = false := D_num h1
  rw [this]; rfl
theorem fle_q {x y : Nat} {a b : Rat} (hx : Q x a) (hy : Q y b) (h : a ≤ b) : fle x y = true := (Q_le hx hy).2 h

/-- the got and the wanted number -/
theorem near_one {pw tw x : Nat} {p T X : Rat} (qp : Q pw p) (qt : Q tw T) (qx : Q x X) (hp : Rg (1 / 2199023255552) 2000000 p) (hT1 : 1 / 4 ≤ T) (hT2 : T ≤ 17179869184) (hX : Rg 1 1024 X) :
    (∃ r, Q (gdiv pw tw) r) ∧ (∃ r, Q (gmul (gdiv pw tw) x) r) ∧ (∃ r, Q (gdiv (gmul pw x) tw) r) ∧ (∃ r, Q (gsub (gmul (gdiv pw tw) x) (gdiv (gmul pw x) tw)) r) ∧
      fle (gsub (gmul (gdiv pw tw) x) (gdiv (gmul pw x) tw) % 2 ^ 63) (gmul (gdiv (gmul pw x) tw % 2 ^ 63) 4472074429978902528) = true := by
  have hT0 : T ≠ 0 := by grind
  have rT : Rg (1 / 17179869184) 4 (1 / T) := rg_mono (rg_inv hT1 hT2 (by grind)) (by grind) (by grind)
  have eT : ∀ z : Rat, z / T = z * (1 / T) := by intro z; grind
  -- what is told
  have r1 : Rg (1 / 2199023255552 * (1 / 17179869184)) (2000000 * 4) (p / T) := by rw [eT]; exact rg_mul hp rT (by grind) (by grind)
  obtain ⟨e1, g1, s1⟩ := gdiv_rel qp qt hT0 (rg_md2 r1 (by grind) (by grind))
  have r2 := rg_err r1 (sm_mono s1 (show 3 * uu ≤ 1 / 4 by grind)) (by grind)
  have r3 := rg_mul r2 hX (by grind) (by grind)
  obtain ⟨e2, g2, s2⟩ := gmul_rel g1 qx (rg_md r3 (by grind) (by grind))
  -- what is wanted
  have r4 := rg_mul hp hX (by grind) (by grind)
  obtain ⟨e3, g3, s3⟩ := gmul_rel qp qx (rg_md r4 (by grind) (by grind))
  have r5 := rg_err r4 (sm_mono s3 (show uu ≤ 1 / 4 by grind)) (by grind)
  have r6 : Rg (1 / 2199023255552 * 1 / 2 * (1 / 17179869184)) (2000000 * 1024 * 2 * 4) (p * X * (1 + e3) / T) := by rw [eT]; exact rg_mul r5 rT (by grind) (by grind)
  obtain ⟨e4, g4, s4⟩ := gdiv_rel g3 qt hT0 (rg_md2 r6 (by grind) (by grind))
  obtain ⟨V, hV⟩ : ∃ V, p * X / T = V := ⟨_, rfl⟩
  obtain ⟨f1, k1, t1⟩ := sm_one s1 s2 (r := 5 * uu) (by grind)
  obtain ⟨f2, k2, t2⟩ := sm_one s3 s4 (r := 5 * uu) (by grind)
  have v1 : p / T * (1 + e1) * X * (1 + e2) = V * (1 + f1) := by rw [← k1, ← hV]; grind
  have v2 : p * X * (1 + e3) / T * (1 + e4) = V * (1 + f2) := by rw [← k2, ← hV]; grind
  rw [v1] at g2
  rw [v2] at g4
  have rV : Rg (1 / 2199023255552 * 1 * (1 / 17179869184)) (2000000 * 1024 * 4) V := by rw [← hV, eT]; exact rg_mul r4 rT (by grind) (by grind)
  obtain ⟨t11, t12⟩ := t1
  obtain ⟨t21, t22⟩ := t2
  have hVb : -8192000000 ≤ V ∧ V ≤ 8192000000 := by
    rcases rV with h | ⟨h1, h2⟩ | ⟨h1, h2⟩
    · rw [h]; grind
    · constructor <;> grind
    · constructor <;> grind
  have hdiff : V * (1 + f1) - V * (1 + f2) = V * (f1 - f2) := by grind
  have sd : Sm (f1 - f2) (10 * uu) := ⟨by grind, by grind⟩
  have sv := sm_mul (show Sm V 8192000000 from ⟨hVb.1, hVb.2⟩) sd
  obtain ⟨sv1, sv2⟩ := sv
  obtain ⟨c, g5, hc⟩ := gsub_twice g2 g4 (by rw [hdiff]; constructor <;> grind)
  rw [hdiff] at hc
  obtain ⟨A, qA, A0, hA⟩ := Q_abs (gsub_lt _ _) g5
  obtain ⟨B, qB, B0, hB⟩ := Q_abs (by exact gdiv_lt _ _) g4
  have rB : Rg (1 / 2199023255552 * 1 * (1 / 17179869184) / 2) (2000000 * 1024 * 4 * 2) B := by
    have := rg_err rV (show Sm f2 (1 / 4) from ⟨by grind, by grind⟩) (by grind)
    rcases hB with h | h
    · rw [h]; exact this
    · rw [h]
      rcases this with h1 | h1 | h1
      · left; rw [h1]; grind
      · right; right; have e : -(-(V * (1 + f2))) = V * (1 + f2) := by grind
        rw [e]; exact h1
      · right; left; exact h1
  have rC := rg_mul rB (show Rg (1 / 1073741824) 1 (1 / 1073741824) from .inr (.inl ⟨by grind, by grind⟩)) (by grind) (by grind)
  obtain ⟨e6, g6, s6⟩ := gmul_rel qB Q_tiny (rg_md rC (by grind) (by grind))
  obtain ⟨s61, s62⟩ := s6
  refine ⟨⟨_, g1⟩, ⟨_, g2⟩, ⟨_, g4⟩, ⟨_, g5⟩, fle_q qA g6 ?_⟩
  -- the bound
  obtain ⟨W, hW⟩ : ∃ W, (if 0 ≤ V then V else -V) = W := ⟨_, rfl⟩
  have W0 : 0 ≤ W := by rw [← hW]; split <;> grind
  have hVW : V = W ∨ V = -W := by rw [← hW]; split <;> grind
  have hA1 : A ≤ 20 * uu * W := by
    have q1 := Rat.mul_nonneg W0 (show 0 ≤ 10 * uu - (f1 - f2) by grind)
    have q2 := Rat.mul_nonneg W0 (show 0 ≤ 10 * uu + (f1 - f2) by grind)
    rcases hVW with h | h <;> rw [h] at hc <;> grind
  have hB1 : W / 2 ≤ B := by
    have q1 := Rat.mul_nonneg W0 (show 0 ≤ 1 / 2 + f2 by grind)
    rcases hVW with h | h <;> rw [h] at hB <;> grind
  have q3 := Rat.mul_nonneg B0 (show 0 ≤ 1 / 2 + e6 by grind)
  grind

/-! #### the law -/
theorem sq_step (l z : List Nat) (k i x : Nat) (s m : Int) (hi : i < l.length) (hz : i < z.length) (hz0 : z[i] = 0) (hm : D l[i] m 1074) (hmb : m.natAbs ≤ 1048576) (hx : D x s 1074) (hs : s.natAbs ≤ 4398046511104) (hl : l.length < 10) :
    ∃ x', spec_SquareN_l1 l z (k + 1) (x, (i : Int)) = spec_SquareN_l1 l z k (x', ((i + 1 : Nat) : Int)) ∧ D x' (s + m * m) 1074 ∧ x' < 2 ^ 64 := by
  have hp : (m * m).natAbs ≤ 1099511627776 := by
    rw [Int.natAbs_mul]
    have := Nat.mul_le_mul hmb hmb; omega
  have d0 : D (0 : Nat) (0 : Int) 1074 := D_zero 1074
  obtain ⟨u1, e1, v1⟩ := D_sub hm d0 rfl (by omega) (by omega)
  rw [Int.sub_zero] at v1
  obtain ⟨u2, e2, v2⟩ := D_mul (u := 1074) v1 v1 rfl (by omega) (by omega) (by omega) (by omega)
  obtain ⟨u3, e3, v3⟩ := D_sum hx v2 rfl (by omega) (by omega)
  refine ⟨u3, ?_, v3, ?_⟩
  · simp only [spec_SquareN_l1, spec_SquareN_l1s, lt_true hi, br_true, idx_get hi, idx_get hz, hz0, Option.bind_eq_bind, Option.bind_some, e1, e2, e3, iadd_one (show i < 9223372036854775807 by omega)]
  · have : u3 = gadd x u2 := by unfold gadd; rw [e3]; rfl
    rw [this]; exact gadd_lt _ _
theorem sq_end (l z : List Nat) (k x : Nat) : spec_SquareN_l1 l z (k + 1) (x, (l.length : Int)) = some x := by
  simp only [spec_SquareN_l1, spec_SquareN_l1s, lt_false (Nat.lt_irrefl _), br_false]

theorem gmul_read {x y x' y' : Nat} (h : FloatKind.f64.format.read x = FloatKind.f64.format.read x') (h' : FloatKind.f64.format.read y = FloatKind.f64.format.read y') : gmul x y = gmul x' y' := by
  unfold gmul fmul Ieee.Format.mul; rw [h, h']
theorem gadd_lt' (x y : Nat) : gadd x y < 2 ^ 64 := gadd_lt x y
/-- the third power of the length -/
theorem cube_is {sw : Nat} {S : Int} (ds : D sw S 1074) (h1 : 1 ≤ S) (h2 : S ≤ 2097152) : ∃ T, Q (gmul sw (gsqrt sw)) T ∧ 1 / 4 ≤ T ∧ T ≤ 17179869184 ∧ (∃ r, Q (gsqrt sw) r) := by
  have qs := Q_whole ds
  have k1 : (1 : Rat) ≤ (S : Rat) := by
    have : ((1 : Int) : Rat) ≤ (S : Rat) := Rat.intCast_le_intCast.2 h1
    simpa using this
  have k2 : (S : Rat) ≤ 2097152 := by
    have : (S : Rat) ≤ ((2097152 : Int) : Rat) := Rat.intCast_le_intCast.2 h2
    simpa using this
  generalize (S : Rat) = s at *
  obtain ⟨r, e, q1, p1, p2, p3⟩ := gsqrt_rel qs (by grind) (by grind)
  obtain ⟨p4, p5⟩ := p3
  have m1 := Rat.mul_nonneg (show 0 ≤ s by grind) (show 0 ≤ 1 / 2 + e by grind)
  have m2 := Rat.mul_nonneg (show 0 ≤ s by grind) (show 0 ≤ 1 - e by grind)
  have r1 : 1 / 2 ≤ r := sq_lo p1 (by grind) (by grind)
  have r2 : r ≤ 4096 := sq_hi p1 (by grind) (by grind)
  have m3 := Rat.mul_nonneg (show 0 ≤ s - 1 by grind) (show 0 ≤ r by grind)
  have m4 := Rat.mul_nonneg (show 0 ≤ 2097152 - s by grind) (show 0 ≤ r by grind)
  obtain ⟨e2, q2, s2⟩ := gmul_rel qs q1 ⟨.inr (.inl (by grind)), by grind, by grind⟩
  obtain ⟨s3, s4⟩ := s2
  have m5 := Rat.mul_nonneg (show 0 ≤ s * r by grind) (show 0 ≤ 1 / 2 + e2 by grind)
  have m6 := Rat.mul_nonneg (show 0 ≤ s * r by grind) (show 0 ≤ 1 - e2 by grind)
  exact ⟨_, q2, by grind, by grind, _, q1⟩
theorem rg_whole {m : Int} (h : m.natAbs ≤ 1024) : Rg 1 1024 (m : Rat) := by
  have h1 : ((-1024 : Int) : Rat) ≤ (m : Rat) := Rat.intCast_le_intCast.2 (by omega)
  have h2 : (m : Rat) ≤ ((1024 : Int) : Rat) := Rat.intCast_le_intCast.2 (by omega)
  have h1' : (-1024 : Rat) ≤ m := by simpa using h1
  have h2' : (m : Rat) ≤ 1024 := by simpa using h2
  rcases Int.lt_trichotomy m 0 with h | h | h
  · right; right
    have : (m : Rat) ≤ ((-1 : Int) : Rat) := Rat.intCast_le_intCast.2 (by omega)
    have e : ((-1 : Int) : Rat) = -1 := by simp
    rw [e] at this
    exact ⟨by grind, by grind⟩
  · left; subst h; simp
  · right; left
    have : ((1 : Int) : Rat) ≤ (m : Rat) := Rat.intCast_le_intCast.2 (by omega)
    have e : ((1 : Int) : Rat) = 1 := by simp
    rw [e] at this
    exact ⟨by grind, by grind⟩
theorem j4_is (k : Nat) (l : List Nat) (i : Nat) (rec1 : Int → Option (Unit ⊕ Unit)) (g w : Nat) (hi : idx l (i : Int) = some g) (hib : i < 1000) (hw : w < 2 ^ 64) (n1 : ∃ r, Q (gsub g w) r) (n2 : ∃ r, Q w r)
    (h : fle (gsub g w % 2 ^ 63) (gmul (w % 2 ^ 63) 4472074429978902528) = true) : laws_FnGravity2_j4 k l (i : Int) rec1 w = rec1 ((i + 1 : Nat) : Int) := by
  obtain ⟨r1, n1⟩ := n1
  obtain ⟨r2, n2⟩ := n2
  unfold laws_FnGravity2_j4
  rw [hi, sbind, sbind, num_q n1, sbind, abs_is' _ _ (gsub_lt _ _), sbind, num_q n2, sbind, abs_is' _ _ hw, sbind, sbind, h, Bool.not_true, br_false, iadd_one (show i < 9223372036854775807 by omega)]
theorem mk22 : mk 8 0 2 2 = some [0, 0] := by decide
theorem zero_end : fle (gsub 0 0 % 2 ^ 63) (gmul (0 % 2 ^ 63) 4472074429978902528) = true := by
  have h1 := D_nought (gsub_lt 0 0) (near_self (D_zero 0)) 0
  have q1 := Q_of0 h1
  have e : (0 : Nat) % 2 ^ 63 = 0 := by decide
  rw [e]
  obtain ⟨e2, q2, _⟩ := gmul_rel Q_nought Q_tiny ⟨.inl (by grind), by grind, by grind⟩
  refine fle_q q1 q2 ?_
  have : ((0 : Int) : Rat) = 0 := by simp
  rw [this]
  have := Un_pos
  grind
theorem main (j a0 a1 : Nat) (way : List Int) (hj : 100 < j) (g0 : a0 < 2 ^ 64) (g1 : a1 < 2 ^ 64) : laws_FnGravity2 (j + 3) a0 a1 way = some true := by
  unfold laws_FnGravity2
  by_cases hlen : (2147483647 : Int) < (way.length : Int)
  · rw [decide_eq_true hlen, br_true]
  rw [decide_eq_false hlen, br_false]
  obtain ⟨l, b, o1, o2⟩ := ones_is j hj way
  rw [o1, sbind]
  cases b with
  | false => rfl
  | true =>
    obtain ⟨b1, h1, h1'⟩ := heavy_is (j + 3) a0 g0
    obtain ⟨b2, h2, h2'⟩ := heavy_is (j + 3) a1 g1
    show br (!true) _ _ = _
    rw [Bool.not_true, br_false, h1, sbind]
    unfold laws_FnGravity2_j1
    cases b1 with
    | false => rfl
    | true =>
      rw [Bool.not_true, br_false, h2, sbind]
      unfold laws_FnGravity2_j2
      cases b2 with
      | false => rfl
      | true =>
        rw [Bool.not_true, br_false]
        obtain ⟨x, y, m, n, rfl, dm, hm, dn, hn, lx, ly⟩ := o2 rfl
        obtain ⟨M1, qM1, rM1, pM1⟩ := h1' rfl
        obtain ⟨M2, qM2, rM2, pM2⟩ := h2' rfl
        have bm : (m * m).natAbs ≤ 1048576 := by rw [Int.natAbs_mul]; exact Nat.mul_le_mul hm hm
        have bn : (n * n).natAbs ≤ 1048576 := by rw [Int.natAbs_mul]; exact Nat.mul_le_mul hn hn
        have pm : 0 ≤ m * m := by rw [← Int.natAbs_mul_self' m]; exact Int.mul_nonneg (by omega) (by omega)
        have pn : 0 ≤ n * n := by rw [← Int.natAbs_mul_self' n]; exact Int.mul_nonneg (by omega) (by omega)
        obtain ⟨x1, y1, v1, _⟩ := sq_step [x, y] [0, 0] (j + 2) 0 0 0 m (by simp) (by simp) rfl dm (by omega) (D_zero 1074) (by simp) (by simp)
        obtain ⟨w, y2, v2, lt2⟩ := sq_step [x, y] [0, 0] (j + 1) 1 x1 (0 + m * m) n (by simp) (by simp) rfl dn (by omega) v1 (by omega) (by simp)
        have hS : spec_SquareN (j + 3) [x, y] [0, 0] = some w := by
          unfold spec_SquareN
          have y3 := sq_end [x, y] [0, 0] j w
          have : spec_SquareN_l1 [x, y] [0, 0] (j + 3) (0, 0) = some w := by
            rw [show ((0 : Nat), (0 : Int)) = (0, ((0 : Nat) : Int)) from rfl, y1, y2]; exact y3
          rw [this]; rfl
        have d1 := gmul_D (u := 1074) dm dm rfl (by omega) (by omega) (by omega) (by omega)
        have d2 := gmul_D (u := 1074) dn dn rfl (by omega) (by omega) (by omega) (by omega)
        have d3 := gadd_D (c := 0 + m * m + n * n) d1 d2 (by omega) (by omega) (by omega)
        obtain ⟨sw, hsw⟩ : ∃ sw, gadd (gmul x x) (gmul y y) = sw := ⟨_, rfl⟩
        rw [hsw] at d3
        have i0 : idx [(x, y, 4607182418800017408)] 0 = some (x, y, 4607182418800017408) := rfl
        -- the steps of the law, for whatever force
        have step : ∀ f1 f2 : Nat, impl_Gravity2 (j + 3) a0 a1 x y = some (f1, f2) → laws_FnGravity2_l1 [x, y] w a0 a1 [f1, f2] (j + 3) 0 = some (.inr ()) →
            ((idx [(x, y, 4607182418800017408)] 0) >>= fun r37 =>
            (laws_off2 (j + 3) r37.1 r37.2.1) >>= fun r40 =>
            (idx [(x, y, 4607182418800017408)] 0) >>= fun r44 =>
            (impl_Gravity2 (j + 3) a0 a1 r44.1 r44.2.1) >>= fun r47 =>
            (laws_off2 (j + 3) r47.1 r47.2) >>= fun r48 =>
            (mk 8 0 2 2) >>= fun r50 =>
            (spec_SquareN (j + 3) r40 r50) >>= fun r51 =>
            (laws_FnGravity2_l1 r40 r51 a0 a1 r48 (j + 3) 0) >>= fun y1 => match y1 with
              | (.inl v6) =>
                (some false)
              | (.inr v7) =>
                (some true)) = some true := by
          intro f1 f2 hf hloop
          have o1 : laws_off2 (j + 3) x y = some [x, y] := rfl
          have o2 : laws_off2 (j + 3) f1 f2 = some [f1, f2] := rfl
          rw [i0, sbind]
          dsimp only
          rw [o1, sbind, sbind, hf, sbind]
          dsimp only
          rw [o2, sbind, mk22, sbind, hS, sbind, hloop, sbind]
        have p1 : idx [x, y] ((0 : Nat) : Int) = some x := rfl
        have p2 : idx [x, y] ((1 : Nat) : Int) = some y := rfl
        have c0 : decide (((0 : Nat) : Int) < (([x, y] : List Nat).length : Int)) = true := rfl
        have c1 : decide (((1 : Nat) : Int) < (([x, y] : List Nat).length : Int)) = true := rfl
        have c2 : decide (((2 : Nat) : Int) < (([x, y] : List Nat).length : Int)) = false := rfl
        by_cases hz : 0 + m * m + n * n = 0
        · -- no way
          have hf : impl_Gravity2 (j + 3) a0 a1 x y = some (0, 0) := by
            unfold impl_Gravity2 impl_vec2
            rw [sbind]
            dsimp only
            unfold barneshut_Gravity2
            rw [sbind, sbind, sbind, hsw]
            have : feq sw 0 = true := by rw [D_eq d3 (D_zero 1074)]; exact decide_eq_true hz
            rw [this, br_true, sbind]
            dsimp only
            rw [num_q Q_nought, sbind, sbind]; rfl
          have hfw : fgt w 0 = false := by rw [D_gt v2 (D_zero 1074)]; exact decide_eq_false (by omega)
          refine step 0 0 hf ?_
          have q1 : idx [0, 0] ((0 : Nat) : Int) = some 0 := rfl
          have q2 : idx [0, 0] ((1 : Nat) : Int) = some 0 := rfl
          have t : ∀ (k i : Nat) (rec1 : Int → Option (Unit ⊕ Unit)), idx [0, 0] (i : Int) = some 0 → i < 1000 → laws_FnGravity2_j4 k [0, 0] (i : Int) rec1 0 = rec1 ((i + 1 : Nat) : Int) := fun k i rec1 hi hib =>
            j4_is k [0, 0] i rec1 0 0 hi hib (by decide) ⟨_, Q_of0 (near_self (D_zero 0))⟩ ⟨_, Q_nought⟩ zero_end
          show laws_FnGravity2_l1 [x, y] w a0 a1 [0, 0] (j + 3) ((0 : Nat) : Int) = _
          rw [laws_FnGravity2_l1, laws_FnGravity2_l1s, c0, br_true, p1, sbind, hfw, br_false, t _ _ _ q1 (by omega)]
          rw [laws_FnGravity2_l1, laws_FnGravity2_l1s, c1, br_true, p2, sbind, hfw, br_false, t _ _ _ q2 (by omega)]
          rw [laws_FnGravity2_l1, laws_FnGravity2_l1s, c2, br_false]
        · have hpos : 1 ≤ 0 + m * m + n * n := by omega
          obtain ⟨T, qT, T1, T2, _⟩ := cube_is d3 hpos (by omega)
          obtain ⟨_, qR⟩ := (cube_is d3 hpos (by omega)).elim fun _ h => h.2.2.2
          obtain ⟨_, qR'⟩ := (cube_is v2 hpos (by omega)).elim fun _ h => h.2.2.2
          have hread : FloatKind.f64.format.read w = FloatKind.f64.format.read sw := D_read v2 d3 hz
          have eT : gmul w (gsqrt w) = gmul sw (gsqrt sw) := by
            rw [gsqrt_read hread]; exact gmul_read hread rfl
          have rp := rg_mul rM1 rM2 (by grind) (by grind)
          obtain ⟨ep, qp, sp⟩ := gmul_rel qM1 qM2 (rg_md rp (by grind) (by grind))
          have rp2 := rg_mono (lo' := 1 / 2199023255552) (hi' := 2000000) (rg_err rp (sm_mono sp (show uu ≤ 1 / 4 by grind)) (by grind)) (by grind) (by grind)
          obtain ⟨⟨r1, n1⟩, ⟨r2, n2⟩, ⟨r3, n3⟩, n4, n5⟩ := near_one qp qT (Q_whole dm) rp2 T1 T2 (rg_whole hm)
          obtain ⟨_, ⟨r2', n2'⟩, ⟨r3', n3'⟩, n4', n5'⟩ := near_one qp qT (Q_whole dn) rp2 T1 T2 (rg_whole hn)
          have hf : impl_Gravity2 (j + 3) a0 a1 x y = some (gmul (gdiv (gmul a0 a1) (gmul sw (gsqrt sw))) x, gmul (gdiv (gmul a0 a1) (gmul sw (gsqrt sw))) y) := by
            unfold impl_Gravity2 impl_vec2
            rw [sbind]
            dsimp only
            unfold barneshut_Gravity2 math_Sqrt
            rw [sbind, sbind, sbind, hsw]
            have : feq sw 0 = false := by rw [D_eq d3 (D_zero 1074)]; exact decide_eq_false (by omega)
            rw [this, br_false, fmul_q qp, sbind, num_q (Q_whole d3), sbind, sbind, sbind, sbind, num_q qR, sbind, fmul_q qT, sbind, fdiv_q n1, sbind]
            unfold r2_Scale
            rw [sbind, sbind, sbind, sbind]
            dsimp only
            rw [num_q n2, sbind, num_q n2', sbind]; rfl
          have hfw : fgt w 0 = true := by rw [D_gt v2 (D_zero 1074)]; exact decide_eq_true (by omega)
          refine step _ _ hf ?_
          obtain ⟨f1, hf1⟩ : ∃ f1, gmul (gdiv (gmul a0 a1) (gmul sw (gsqrt sw))) x = f1 := ⟨_, rfl⟩
          obtain ⟨f2, hf2⟩ : ∃ f2, gmul (gdiv (gmul a0 a1) (gmul sw (gsqrt sw))) y = f2 := ⟨_, rfl⟩
          rw [hf1] at n4 n5 ⊢
          rw [hf2] at n4' n5' ⊢
          have q1 : idx [f1, f2] ((0 : Nat) : Int) = some f1 := rfl
          have q2 : idx [f1, f2] ((1 : Nat) : Int) = some f2 := rfl
          show laws_FnGravity2_l1 [x, y] w a0 a1 [f1, f2] (j + 3) ((0 : Nat) : Int) = _
          have sq : ∀ k, math_Sqrt k w = some (gsqrt w) := fun k => rfl
          rw [laws_FnGravity2_l1, laws_FnGravity2_l1s, c0, br_true, p1, sbind, hfw, br_true, sbind, sbind, sq, sbind, sbind, sbind, eT, j4_is _ _ _ _ _ _ q1 (by omega) (gdiv_lt _ _) n4 ⟨_, n3⟩ n5]
          rw [laws_FnGravity2_l1, laws_FnGravity2_l1s, c1, br_true, p2, sbind, hfw, br_true, sbind, sbind, sq, sbind, sbind, sbind, eT, j4_is _ _ _ _ _ _ q2 (by omega) (gdiv_lt _ _) n4' ⟨_, n3'⟩ n5']
          rw [laws_FnGravity2_l1, laws_FnGravity2_l1s, c2, br_false]
theorem fact_FnGravity2 (a0 a1 : Nat) (a2 : List Int) {p : Prop} (g0 : a0 < 18446744073709551616) (g1 : a1 < 18446744073709551616) (g2 : p) : laws_FnGravity2 1000 a0 a1 a2 = some true := main 997 a0 a1 a2 (by omega) (by omega) (by omega)
end Go.Proofs.Ytehfdhhaglbnbaa
