/-
  A quotient's word, however small the quotient. Ours; it knows no program.
-/
import Derived.Test.YthobbfpoooommaaGreatRelAbs
namespace Go.Sx
open Ieee (signed)
set_option linter.unusedVariables false
set_option linter.unusedSimpArgs false
set_option maxRecDepth 100000

theorem round_abs (s : Bool) (mag P R : Nat) (V : Rat) (hV : V = (if s then -1 else 1) * ((mag : Rat) * 2 ^ P / 2 ^ R / Un)) (h : -BB ≤ V ∧ V ≤ BB) :
    ∃ e d : Rat, Q (Ieee.double.write (.number s mag ((P : Int) - 1074 - R))) (V * (1 + e) + d) ∧ Sm e uu ∧ Sm d uu := by
  by_cases hm : V = 0 ∨ 1 ≤ V * BB ∨ 1 ≤ -V * BB
  · obtain ⟨e, h1, h2⟩ := round s mag P R V hV ⟨hm, h⟩
    exact ⟨e, 0, by rw [Rat.add_zero]; exact h1, h2, sm_zero uu_pos⟩
  · obtain ⟨r, q1, q2, q3⟩ := round_low s mag P R V hV ⟨by grind, by grind⟩
    refine ⟨0, r - V, ?_, sm_zero uu_pos, ?_, ?_⟩
    · have : V * (1 + 0) + (r - V) = r := by grind
      rw [this]; exact q1
    · grind
    · grind
theorem hi_step {V e : Rat} (h : -BB ≤ 2 * V ∧ 2 * V ≤ BB) (he : Sm e (1 / 4)) : -BB ≤ V * (1 + e) ∧ V * (1 + e) ≤ BB := by
  obtain ⟨hi1, hi2⟩ := h
  obtain ⟨e1, e2⟩ := he
  constructor
  · have := Rat.mul_nonneg (show 0 ≤ BB + 2 * V by grind) (show 0 ≤ 1 + e by grind)
    grind
  · have := Rat.mul_nonneg (show 0 ≤ BB - 2 * V by grind) (show 0 ≤ 1 + e by grind)
    grind
theorem gdiv_abs {x y : Nat} {a b : Rat} (hx : Q x a) (hy : Q y b) (hb : b ≠ 0) (h : -BB ≤ 2 * (a / b) ∧ 2 * (a / b) ≤ BB) : ∃ e d, Q (gdiv x y) (a / b * (1 + e) + d) ∧ Sm e (3 * uu) ∧ Sm d uu := by
  obtain ⟨s, m, q, h1, h2⟩ := Q_read hx
  obtain ⟨s', m', q', h1', h2'⟩ := Q_read hy
  have hmlt := mag_lt (x := x) (s := s) (m := m) (i := (q : Int) - 1074) h1
  have hmlt' := mag_lt (x := y) (s := s') (m := m') (i := (q' : Int) - 1074) h1'
  have hU := Un_pos
  have hm' : m' ≠ 0 := by
    intro h0; subst h0
    have : (((0 : Nat)) : Rat) = 0 := by simp
    rw [this] at h2'
    have h3 : b * Un = 0 := by rw [← h2']; grind
    rcases Rat.mul_eq_zero.1 h3 with h4 | h4
    · exact hb h4
    · grind
  unfold gdiv fdiv Ieee.Format.div
  rw [h1, h1']
  simp only [Ieee.Datum.quotient, hm', if_false, Option.map_some, Option.getD_some]
  rw [show FloatKind.f64.format.fractionBits = 52 from rfl, show FloatKind.f64.format.write = Ieee.double.write from rfl]
  obtain ⟨L, hL⟩ : ∃ L, m.log2 = L := ⟨_, rfl⟩
  obtain ⟨L', hL'⟩ : ∃ L', m'.log2 = L' := ⟨_, rfl⟩
  have hLm2 : m' < 2 ^ (L' + 1) := by rw [← hL']; exact Nat.lt_log2_self
  have hL52 : L ≤ 52 := by
    by_cases hm0 : m = 0
    · subst hm0; rw [← hL]; decide
    · have : m.log2 < 53 := (Nat.log2_lt hm0).2 hmlt
      omega
  rw [hL, hL', Nat.shiftLeft_eq]
  obtain ⟨more, hmore⟩ : ∃ more, 52 + 2 + L' - L = more := ⟨_, rfl⟩
  rw [hmore]
  obtain ⟨w, hw⟩ : ∃ w, m * 2 ^ more / m' = w := ⟨_, rfl⟩
  obtain ⟨r, hr⟩ : ∃ r, m * 2 ^ more % m' = r := ⟨_, rfl⟩
  obtain ⟨st, hst⟩ : ∃ st, (r != 0).toNat = st := ⟨_, rfl⟩
  have hdm := Nat.div_add_mod (m * 2 ^ more) m'
  have hml := Nat.mod_lt (m * 2 ^ more) (Nat.pos_of_ne_zero hm')
  rw [hw, hr] at hdm
  rw [hr] at hml
  rw [hw, hr, hst]
  have hst1 : (st = 0 ∧ r = 0) ∨ st = 1 := by
    by_cases h0 : r = 0
    · left; subst h0; exact ⟨by rw [← hst]; rfl, rfl⟩
    · right; rw [← hst]; simp [h0]
  have e0 : (q : Int) - 1074 - ((q' : Int) - 1074) - (more : Int) - 1 = ((q + 1073 : Nat) : Int) - 1074 - ((q' + more : Nat) : Int) := by omega
  rw [e0]
  by_cases hm0 : m = 0
  · subst hm0
    have ha : a = 0 := by
      have : (((0 : Nat)) : Rat) = 0 := by simp
      rw [this] at h2
      have h3 : a * Un = 0 := by rw [← h2]; grind
      rcases Rat.mul_eq_zero.1 h3 with h4 | h4
      · exact h4
      · grind
    have hr0 : r = 0 := by rw [← hr]; simp
    have hw0 : w = 0 := by rw [← hw]; simp
    have hs0 : st = 0 := by rw [← hst, hr0]; rfl
    rw [hw0, hs0]
    obtain ⟨e, g1, g2⟩ := round (s ^^ s') (2 * 0 + 0) (q + 1073) (q' + more) 0 (by
      have : ((2 * 0 + 0 : Nat) : Rat) = 0 := by simp
      rw [this]; grind) ⟨Or.inl rfl, by grind, by grind⟩
    refine ⟨0, 0, ?_, sm_zero (by grind), sm_zero uu_pos⟩
    have : a / b * (1 + 0) + 0 = 0 * (1 + e) := by rw [ha]; grind
    rw [this]; exact g1
  · have hLm1 : 2 ^ L ≤ m := by rw [← hL]; exact Nat.log2_self_le hm0
    have hbig : 2 ^ 53 * m' ≤ m * 2 ^ more := by
      have h3 : 2 ^ L * 2 ^ more ≤ m * 2 ^ more := Nat.mul_le_mul_right _ hLm1
      have h4 : 2 ^ 53 * m' ≤ 2 ^ 53 * 2 ^ (L' + 1) := Nat.mul_le_mul_left _ (by omega)
      have h5 : 2 ^ 53 * 2 ^ (L' + 1) ≤ 2 ^ L * 2 ^ more := by
        rw [← Nat.pow_add, ← Nat.pow_add]; exact Nat.pow_le_pow_right (by omega) (by omega)
      omega
    obtain ⟨e1, c1, c2⟩ := div_core (w := w) (st := st) (m := m') (r := r) (n := m * 2 ^ more) (by rw [Nat.mul_comm]; exact hdm) hml hbig hst1 (Nat.pos_of_ne_zero hm')
    obtain ⟨e2, d, g1, g2, g3⟩ := round_abs (s ^^ s') (2 * w + st) (q + 1073) (q' + more) (a / b * (1 + e1)) (by
      clear hdm hbig h
      rw [Rat.natCast_mul, castpow] at c1
      have hUn : Un = 2 ^ 1073 * 2 := by unfold Un; rw [show (1074 : Nat) = 1073 + 1 from rfl, ratpow_add]; rfl
      rw [ratpow_add, ratpow_add]
      have hM' : (0 : Rat) < m' := by
        have : ((0 : Nat) : Rat) < (m' : Rat) := Rat.natCast_lt_natCast.2 (Nat.pos_of_ne_zero hm')
        simpa using this
      have hp1 := un_pos q
      have hp2 := un_pos q'
      have hp3 := un_pos more
      have hp4 := un_pos 1073
      generalize ((2 * w + st : Nat) : Rat) = W at c1 ⊢
      generalize (m : Rat) = M at h2 c1 ⊢
      generalize (m' : Rat) = M' at h2' c1 hM' ⊢
      generalize (2 : Rat) ^ q = A at h2 hp1 ⊢
      generalize (2 : Rat) ^ q' = A' at h2' hp2 ⊢
      generalize (2 : Rat) ^ more = O at c1 hp3 ⊢
      generalize (2 : Rat) ^ 1073 = H at hUn hp4 ⊢
      have hab : a * (if s' = true then -1 else 1) * (M' * A') = b * (if s = true then -1 else 1) * (M * A) := by
        have : a * Un * b = b * Un * a := by grind
        rw [← h2, ← h2'] at this
        cases s <;> cases s' <;> simp only [Bool.false_eq_true, if_false, if_true] at this ⊢ <;> grind
      have hW : W = 2 * (M * O) * (1 + e1) / M' := by grind
      rw [hW]
      cases s <;> cases s' <;> simp only [Bool.false_eq_true, if_false, if_true, Bool.xor_false, Bool.false_xor, Bool.xor_true, Bool.not_true, Bool.not_false] at h2 h2' hab ⊢ <;> grind) (hi_step h (sm_mono c2 (by grind)))
    obtain ⟨e, k1, k2⟩ := sm_one c2 g2 (r := 3 * uu) (by grind)
    refine ⟨e, d, ?_, k2, g3⟩
    rw [← k1]
    have : a / b * ((1 + e1) * (1 + e2)) + d = a / b * (1 + e1) * (1 + e2) + d := by grind
    rw [this]; exact g1

end Go.Sx
