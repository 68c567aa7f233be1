/-
  The law's parts of a geometry, put together again. Ours.
-/
import Derived.Test.YtmagcmeknclljaaPuFlat
import Derived.Test.YtmagcmeknclljaaSxW
namespace Go.Proofs.Ytmagcmeknclljaa
open Go.Sx
set_option linter.unusedVariables false
set_option linter.unusedSimpArgs false
set_option maxRecDepth 100000

def bg (x : Int) (es : List Int) (i j : Nat) : Int := if j = i then x else es.getD (j - 1) 0
theorem ends_mono (es : List Int) (fl : Bool) (s : Int) (hl : es.length ≤ 2147483647) : ∀ (k i : Nat) (x z : Int), spec_goodEnds_l1 es fl s k (x, (i : Int)) = some (.inr z) → i ≤ es.length →
    (∀ j, i ≤ j → j < es.length → bg x es i j ≤ es.getD j 0) ∧ z = bg x es i es.length := by
  intro k
  induction k with
  | zero => intro i x z h; cases h
  | succ k ih =>
    intro i x z h hi
    replace h : spec_goodEnds_l1s es fl s k (spec_goodEnds_l1 es fl s k) x (i : Int) = some (.inr z) := h
    unfold spec_goodEnds_l1s at h
    by_cases hlt : i < es.length
    · rw [lt_true hlt, br_true, idx_get hlt, sbind] at h
      by_cases h1 : es[i] < x
      · rw [decide_eq_true h1, br_true] at h
        simp only [spec_goodEnds_j4, spec_goodEnds_j6, br_true] at h
        cases h
      · rw [decide_eq_false h1, br_false] at h
        cases hr : irem (isub .i64 es[i] x) s with
        | none => rw [hr] at h; cases h
        | some r =>
          rw [hr, sbind] at h
          have hrec : spec_goodEnds_l1 es fl s k (es[i], iadd .i64 (i : Int) 1) = some (.inr z) := by
            simp only [spec_goodEnds_j4, spec_goodEnds_j5, spec_goodEnds_j6] at h
            revert h
            cases !decide (r = 0) with
            | true => intro h; simp only [br_true] at h; cases h
            | false =>
              simp only [br_false]
              cases fl with
              | false => intro h; simp only [br_false] at h; exact h
              | true =>
                simp only [br_true]
                cases decide (s < isub .i64 es[i] x) with
                | true => intro h; simp only [br_true] at h; cases h
                | false => intro h; simp only [br_false] at h; exact h
          rw [iadd_one (by omega)] at hrec
          obtain ⟨c1, c2⟩ := ih (i + 1) _ _ hrec (by omega)
          have hgi : es.getD i 0 = es[i] := by simp [List.getD, List.getElem?_eq_getElem hlt]
          have hb : ∀ j, i + 1 ≤ j → bg es[i] es (i + 1) j = bg x es i j := by
            intro j hj
            unfold bg
            rw [if_neg (show ¬ j = i by omega)]
            by_cases e : j = i + 1
            · subst e; rw [if_pos rfl, Nat.add_sub_cancel, hgi]
            · rw [if_neg e]
          refine ⟨fun j hj1 hj2 => ?_, by rw [c2, hb _ (by omega)]⟩
          rcases Nat.lt_or_ge i j with hc | hc
          · have := c1 j hc hj2
            rw [hb j hc] at this; exact this
          · have : j = i := by omega
            subst this
            unfold bg
            rw [if_pos rfl, hgi]; omega
    · rw [lt_false hlt, br_false] at h
      have he : es.length = i := by omega
      injection h with h; injection h with h
      exact ⟨fun j h1 h2 => by omega, by unfold bg; rw [if_pos he]; exact h.symm⟩
theorem goodEnds_mono {es : List Int} {fl : Bool} {s x z : Int} {k : Nat} (hl : es.length ≤ 2147483647) (h : spec_goodEnds k es x s fl = some (z, true)) :
    (∀ j, j < es.length → bg x es 0 j ≤ es.getD j 0) ∧ z = bg x es 0 es.length := by
  unfold spec_goodEnds at h
  cases hl1 : spec_goodEnds_l1 es fl s k (x, 0) with
  | none => rw [hl1] at h; cases h
  | some r =>
    rw [hl1, sbind] at h
    cases r with
    | inl v => simp at h
    | inr v =>
      simp at h
      subst h
      obtain ⟨c1, c2⟩ := ends_mono es fl s hl k 0 x v hl1 (by omega)
      exact ⟨fun j hj => c1 j (by omega) hj, c2⟩
def pb (es : List Int) (i : Nat) : Nat := (bg 0 es 0 i).toNat
structure Ens (es : List Int) (n : Nat) : Prop where
  up : ∀ j, j < es.length → es.getD j 0 = (pb es (j + 1) : Int) ∧ pb es j ≤ pb es (j + 1)
  top : pb es es.length = n
theorem pb_zero (es : List Int) : pb es 0 = 0 := by unfold pb bg; rw [if_pos rfl]; rfl
theorem ens_of {es : List Int} {fl : Bool} {s : Int} {n k : Nat} (hl : es.length ≤ 2147483647) (h : spec_goodEnds k es 0 s fl = some ((n : Int), true)) : Ens es n := by
  obtain ⟨h1, h2⟩ := goodEnds_mono hl h
  have hpos : ∀ j, j ≤ es.length → 0 ≤ bg 0 es 0 j := by
    intro j
    induction j with
    | zero => intro _; unfold bg; rw [if_pos rfl]; exact Int.le_refl _
    | succ j ih =>
      intro hj
      have := h1 j (by omega)
      have h0 := ih (by omega)
      show 0 ≤ bg 0 es 0 (j + 1)
      unfold bg; rw [if_neg (by omega), Nat.add_sub_cancel]; omega
  refine ⟨fun j hj => ?_, by unfold pb; rw [← h2]; rfl⟩
  have h3 := h1 j hj
  have h4 := hpos j (by omega)
  have e : bg 0 es 0 (j + 1) = es.getD j 0 := by unfold bg; rw [if_neg (by omega)]; rfl
  have h5 := hpos (j + 1) (by omega)
  unfold pb
  rw [e]
  rw [e] at h5
  constructor <;> omega
theorem pb_le {es : List Int} {n : Nat} (h : Ens es n) : ∀ m i, es.length - i = m → i ≤ es.length → pb es i ≤ n := by
  intro m
  induction m with
  | zero => intro i hm hi; have : i = es.length := by omega
            subst this; rw [h.top]; exact Nat.le_refl _
  | succ m ih => intro i hm hi; have h1 := (h.up i (by omega)).2; have h2 := ih (i + 1) (by omega) (by omega); omega
def prt (kd lay : Int) (fl : List Nat) (es : List Int) (i : Nat) : T27 := .mk kd lay 0 ((fl.take (pb es (i + 1))).drop (pb es i)) [] [] []
def kdOf (K : Int) : Int := if K = 3 then 8 else K - 3
theorem part_is {k : Nat} {K lay srid : Int} {fl : List Nat} {es : List Int} {ess : List (List Int)} {kids : List T27} (hK : K = 3 ∨ K = 4 ∨ K = 5) (h : Ens es fl.length) (hf : fl.length ≤ 2147483647) {i : Nat} (hi : i < es.length) (hi2 : es.length ≤ 2147483647) :
    spec_Part k K lay srid fl es ess kids (i : Int) = some (kdOf K, lay, 0, (fl.take (pb es (i + 1))).drop (pb es i), [], [], []) := by
  obtain ⟨u1, u2⟩ := h.up i hi
  have hle := pb_le h _ (i + 1) rfl (by omega)
  have hidx : idx es (i : Int) = some ((pb es (i + 1) : Nat) : Int) := by rw [idx_get hi, ← u1]; simp [List.getD, List.getElem?_eq_getElem hi]
  have hcut : cut fl ((pb es i : Nat) : Int) ((pb es (i + 1) : Nat) : Int) = some ((fl.take (pb es (i + 1))).drop (pb es i)) := by rw [cut_some (by omega) (by omega) (by omega), Int.toNat_natCast, Int.toNat_natCast]
  have hap : apd 8 ([] : List Nat) ((fl.take (pb es (i + 1))).drop (pb es i)) = some ((fl.take (pb es (i + 1))).drop (pb es i)) := by rw [apd_some (by simp; omega) (by simp; omega), List.nil_append]
  have hj : ∀ x, x = ((pb es i : Nat) : Int) → spec_Part_j3 k K es (i : Int) fl lay x = some (kdOf K, lay, 0, (fl.take (pb es (i + 1))).drop (pb es i), [], [], []) := by
    rintro x rfl
    unfold spec_Part_j3 spec_Part_j4 kdOf
    rcases hK with rfl | rfl | rfl
    · simp only [show (!decide ((3 : Int) = 3)) = false from rfl, br_false, hidx, sbind, hcut, hap]; rfl
    · simp only [show (!decide ((4 : Int) = 3)) = true from rfl, br_true, spec_KidOf, spec_KidOf_j1, show decide ((4 : Int) ≤ 4) = true from rfl, show decide ((4 : Int) ≤ 6) = true from rfl, hidx, sbind, hcut, hap]; rfl
    · simp only [show (!decide ((5 : Int) = 3)) = true from rfl, br_true, spec_KidOf, spec_KidOf_j1, show decide ((4 : Int) ≤ 5) = true from rfl, show decide ((5 : Int) ≤ 6) = true from rfl, hidx, sbind, hcut, hap]; rfl
  unfold spec_Part
  rw [decide_eq_false (show ¬ K = 7 by omega), br_false, decide_eq_false (show ¬ K = 6 by omega), br_false]
  cases i with
  | zero =>
    rw [show decide ((0 : Int) < ((0 : Nat) : Int)) = false from rfl, br_false]
    exact hj _ (by rw [pb_zero]; rfl)
  | succ i =>
    have e1 : isub .i64 ((i + 1 : Nat) : Int) 1 = (i : Int) := by rw [isub_i64 (by omega) (by omega)]; omega
    have hi' : i < es.length := by omega
    have u3 := (h.up i hi').1
    rw [decide_eq_true (show (0 : Int) < ((i + 1 : Nat) : Int) by omega), br_true, e1, idx_get hi', sbind]
    exact hj _ (by rw [← u3]; simp [List.getD, List.getElem?_eq_getElem hi'])
def prts (kd lay : Int) (fl : List Nat) (es : List Int) (n : Nat) : List T27 := (List.range n).map (prt kd lay fl es)
theorem prts_length (kd lay : Int) (fl : List Nat) (es : List Int) (n : Nat) : (prts kd lay fl es n).length = n := by unfold prts; simp
theorem prts_succ (kd lay : Int) (fl : List Nat) (es : List Int) (n : Nat) : prts kd lay fl es (n + 1) = prts kd lay fl es n ++ [prt kd lay fl es n] := by unfold prts; rw [List.range_succ, List.map_append]; rfl
theorem parts_loop {K lay srid : Int} {fl : List Nat} {es : List Int} {ess : List (List Int)} {kids : List T27} (hK : K = 3 ∨ K = 4 ∨ K = 5) (h : Ens es fl.length) (hf : fl.length ≤ 2147483647) (hl : es.length ≤ 2147483647) :
    ∀ (n k i : Nat), es.length - i = n → n < k → i ≤ es.length → spec_Parts_l1 (es.length : Int) K lay srid fl es ess kids k (prts (kdOf K) lay fl es i, (i : Int)) = some (prts (kdOf K) lay fl es es.length) := by
  intro n
  induction n with
  | zero =>
    intro k i hn hk hi
    obtain ⟨k, rfl⟩ : ∃ j, k = j + 1 := ⟨k - 1, by omega⟩
    have : i = es.length := by omega
    subst this
    simp only [spec_Parts_l1, spec_Parts_l1s, lt_false (Nat.lt_irrefl _), br_false]
  | succ n ih =>
    intro k i hn hk hi
    obtain ⟨k, rfl⟩ : ∃ j, k = j + 1 := ⟨k - 1, by omega⟩
    have hlt : i < es.length := by omega
    have ha : apd 120 (prts (kdOf K) lay fl es i) [prt (kdOf K) lay fl es i] = some (prts (kdOf K) lay fl es (i + 1)) := by rw [prts_succ, apd_some (by rw [prts_length]; simp; omega) (by rw [prts_length]; simp; omega)]
    simp only [spec_Parts_l1, spec_Parts_l1s, lt_true hlt, br_true, part_is hK h hf hlt hl, sbind, iadd_one (show i < 9223372036854775807 by omega)]
    have ha' : apd 120 (prts (kdOf K) lay fl es i) [T27.mk (kdOf K) lay 0 ((fl.take (pb es (i + 1))).drop (pb es i)) [] [] []] = some (prts (kdOf K) lay fl es (i + 1)) := ha
    rw [ha', sbind]
    exact ih k (i + 1) (by omega) (by omega) (by omega)
theorem parts_is {k : Nat} {K lay srid : Int} {fl : List Nat} {es : List Int} {ess : List (List Int)} {kids : List T27} (hK : K = 3 ∨ K = 4 ∨ K = 5) (h : Ens es fl.length) (hf : fl.length ≤ 2147483647) (hl : es.length ≤ 2147483647) (hk : es.length < k) :
    spec_Parts k K lay srid fl es ess kids = some (prts (kdOf K) lay fl es es.length) := by
  have hn : spec_NumParts k K lay srid fl es ess kids = some (es.length : Int) := by
    unfold spec_NumParts spec_NumParts_j1
    rcases hK with rfl | rfl | rfl <;> rfl
  have hp := parts_loop (srid := srid) (lay := lay) (ess := ess) (kids := kids) hK h hf hl es.length k 0 rfl hk (by omega)
  have hp' : spec_Parts_l1 (es.length : Int) K lay srid fl es ess kids k ([], 0) = some (prts (kdOf K) lay fl es es.length) := hp
  unfold spec_Parts
  rw [hn, sbind, hp', sbind]
theorem take_step {fl : List Nat} {a b : Nat} (h : a ≤ b) : fl.take a ++ (fl.take b).drop a = fl.take b := by
  have : fl.take a = (fl.take b).take a := by rw [List.take_take, Nat.min_eq_left h]
  rw [this, List.take_append_drop]
theorem of_loop {K lay : Int} {fl : List Nat} {es : List Int} {p : T27} (hK : K ≠ 6) (h : Ens es fl.length) (hf : fl.length ≤ 2147483647) (hl : es.length ≤ 2147483647) (hpl : p.f3.length ≤ 2147483647) (kd : Int) :
    ∀ (n k i : Nat), es.length - i = n → n + 2 < k → i ≤ es.length → spec_OfParts_l3 (prts kd lay fl es es.length ++ [p]) K k (fl.take (pb es i), es.take i, [], (i : Int)) = some (fl ++ p.f3, es ++ [((fl ++ p.f3).length : Int)], []) := by
  have hlen : (prts kd lay fl es es.length ++ [p]).length = es.length + 1 := by rw [List.length_append, prts_length]; rfl
  have h6 : decide (K = 6) = false := decide_eq_false hK
  intro n
  induction n with
  | zero =>
    intro k i hn hk hi
    obtain ⟨k, rfl⟩ : ∃ j, k = j + 2 := ⟨k - 2, by omega⟩
    have : i = es.length := by omega
    subst this
    have hidx : idx (prts kd lay fl es es.length ++ [p]) (es.length : Int) = some p := by
      rw [idx_get (by rw [hlen]; omega)]
      congr 1
      rw [List.getElem_append_right (by rw [prts_length]; exact Nat.le_refl _)]
      simp [prts_length]
    have e1 : fl.take (pb es es.length) = fl := by rw [h.top, List.take_length]
    have e2 : es.take es.length = es := List.take_length
    have ha : apd 8 fl p.f3 = some (fl ++ p.f3) := apd_some (by omega) (by omega)
    have hb : apd 8 es [((fl ++ p.f3).length : Int)] = some (es ++ [((fl ++ p.f3).length : Int)]) := apd_some (by simp; omega) (by simp; omega)
    rw [e1, e2]
    simp only [spec_OfParts_l3, spec_OfParts_l3s, spec_OfParts_j2, hlen, lt_true (show es.length < es.length + 1 by omega), br_true, hidx, sbind, ha, h6, Bool.not_false, hb, iadd_one (show es.length < 9223372036854775807 by omega), lt_false (Nat.lt_irrefl _), br_false]
  | succ n ih =>
    intro k i hn hk hi
    obtain ⟨k, rfl⟩ : ∃ j, k = j + 1 := ⟨k - 1, by omega⟩
    have hlt : i < es.length := by omega
    obtain ⟨u1, u2⟩ := h.up i hlt
    have hle := pb_le h _ (i + 1) rfl (by omega)
    have hidx : idx (prts kd lay fl es es.length ++ [p]) (i : Int) = some (prt kd lay fl es i) := by
      rw [idx_get (by rw [hlen]; omega)]
      congr 1
      rw [List.getElem_append_left (by rw [prts_length]; exact hlt)]
      simp [prts]
    have ha : apd 8 (fl.take (pb es i)) (prt kd lay fl es i).f3 = some (fl.take (pb es (i + 1))) := by
      show apd 8 (fl.take (pb es i)) ((fl.take (pb es (i + 1))).drop (pb es i)) = _
      rw [apd_some (by simp; omega) (by simp; omega), take_step u2]
    have hln : (fl.take (pb es (i + 1))).length = pb es (i + 1) := by rw [List.length_take]; omega
    have hb : apd 8 (es.take i) [((pb es (i + 1) : Nat) : Int)] = some (es.take (i + 1)) := by
      rw [apd_some (by simp; omega) (by simp; omega), List.take_add_one, ← u1]
      simp [List.getD, List.getElem?_eq_getElem hlt]
    have hr := ih k (i + 1) (by omega) (by omega) (by omega)
    simp only [spec_OfParts_l3, spec_OfParts_l3s, spec_OfParts_j2, hlen, lt_true (show i < es.length + 1 by omega), br_true, hidx, sbind, ha, h6, Bool.not_false, hln, hb, iadd_one (show i < 9223372036854775807 by omega)]
    exact hr
theorem of_is {k : Nat} {K lay : Int} {fl : List Nat} {es : List Int} {p : T27} (hK : K ≠ 6) (h : Ens es fl.length) (hf : fl.length ≤ 2147483647) (hl : es.length ≤ 2147483647) (hpl : p.f3.length ≤ 2147483647) (kd : Int) (hk : es.length + 2 < k) :
    spec_OfParts k K lay (prts kd lay fl es es.length ++ [p]) = some (K, lay, 0, fl ++ p.f3, es ++ [((fl ++ p.f3).length : Int)], []) := by
  have hp := of_loop (lay := lay) hK h hf hl hpl kd es.length k 0 rfl hk (by omega)
  have hp' : spec_OfParts_l3 (prts kd lay fl es es.length ++ [p]) K k ([], [], [], 0) = some (fl ++ p.f3, es ++ [((fl ++ p.f3).length : Int)], []) := hp
  unfold spec_OfParts
  rw [hp', sbind]
end Go.Proofs.Ytmagcmeknclljaa
