/-
  The law's own means: kindred and middles. Ours.
-/
import Derived.Test.YtajpajggckappaaGreatRmKin
namespace Go.Proofs.YtajpajggckappaaGreat
open Go.Sx
open Ieee (signed)
set_option linter.unusedVariables false
set_option linter.unusedSimpArgs false
set_option maxRecDepth 100000

theorem dot_is {k : Nat} (hk : 1000 < k) {a0 b0 c0 d0 a3 b3 c3 d3 : Bool} {a1 a4 b1 b4 c1 c4 d1 d4 : List Int} {a2 a5 b2 b5 c2 c5 d2 d5 : Int} {A0 A1 B0 B1 C0 C1 D0 D1 : Int}
    (ha : Dr (-1074) 971 2 a0 a1 a2 A0) (ha' : Dr (-1074) 971 2 a3 a4 a5 A1) (hb : Dr (-1074) 971 2 b0 b1 b2 B0) (hb' : Dr (-1074) 971 2 b3 b4 b5 B1)
    (hc : Dr (-1074) 971 2 c0 c1 c2 C0) (hc' : Dr (-1074) 971 2 c3 c4 c5 C1) (hd : Dr (-1074) 971 2 d0 d1 d2 D0) (hd' : Dr (-1074) 971 2 d3 d4 d5 D1) :
    ∃ s l e, spec_Dot k a0 a1 a2 a3 a4 a5 b0 b1 b2 b3 b4 b5 c0 c1 c2 c3 c4 c5 d0 d1 d2 d3 d4 d5 = some (s, l, e) ∧ Dr (-2148) 1942 263 s l e ((B0 - A0) * (D0 - C0) + (B1 - A1) * (D1 - C1)) := by
  obtain ⟨s1, m1, e1, q1, w1⟩ := dsub_is (k := k) hb ha (by decide) (by decide) (by decide) (by decide) (by simp; omega)
  obtain ⟨s2, m2, e2, q2, w2⟩ := dsub_is (k := k) hd hc (by decide) (by decide) (by decide) (by decide) (by simp; omega)
  obtain ⟨s3, m3, e3, q3, w3⟩ := dsub_is (k := k) hb' ha' (by decide) (by decide) (by decide) (by decide) (by simp; omega)
  obtain ⟨s4, m4, e4, q4, w4⟩ := dsub_is (k := k) hd' hc' (by decide) (by decide) (by decide) (by decide) (by simp; omega)
  obtain ⟨s5, m5, e5, q5, w5⟩ := dmul_is (k := k) w1 w2 (by decide) (by decide) (by decide) (by decide) (by decide) (by decide) (by simp; omega)
  obtain ⟨s6, m6, e6, q6, w6⟩ := dmul_is (k := k) w3 w4 (by decide) (by decide) (by decide) (by decide) (by decide) (by decide) (by simp; omega)
  obtain ⟨s7, m7, e7, q7, w7⟩ := dadd_is (k := k) w5 w6 (by decide) (by decide) (by decide) (by decide) (by simp; omega)
  unfold spec_Dot
  simp only [q1, q2, q3, q4, q5, q6, q7, sbind]
  exact ⟨_, _, _, rfl, w7.mono (by decide) (by decide)⟩
theorem square_is' {k : Nat} (hk : 1000 < k) {a0 b0 a3 b3 : Bool} {a1 a4 b1 b4 : List Int} {a2 a5 b2 b5 : Int} {A0 A1 B0 B1 : Int}
    (ha : Dr (-1074) 971 2 a0 a1 a2 A0) (ha' : Dr (-1074) 971 2 a3 a4 a5 A1) (hb : Dr (-1074) 971 2 b0 b1 b2 B0) (hb' : Dr (-1074) 971 2 b3 b4 b5 B1) :
    ∃ s l e, spec_Square k a0 a1 a2 a3 a4 a5 b0 b1 b2 b3 b4 b5 = some (s, l, e) ∧ Dr (-2148) 1942 263 s l e ((B0 - A0) * (B0 - A0) + (B1 - A1) * (B1 - A1)) := by
  obtain ⟨s, l, e, q, w⟩ := dot_is hk ha ha' hb hb' ha ha' hb hb'
  unfold spec_Square
  simp only [q, sbind]
  exact ⟨_, _, _, rfl, w⟩

theorem kind_loop {lay : Int} {st : Nat} (h1 : 1 ≤ lay) (h8 : lay ≤ 8) (hs : stri lay = (st : Int)) (h2 : 2 ≤ st) (hs8 : st ≤ 8) {gs : List T38} (hgs : gs.length ≤ 20) (hw : ∀ g ∈ gs, ∀ x ∈ g.f3, x < 18446744073709551616) :
    ∀ (n k i : Nat) (lines : List (List Six)) (tot : Nat), gs.length - i = n → n + 2000 < k → i ≤ gs.length → lines.length = i → (∀ j (h : j < gs.length), j < i → ∃ T P, Dt lay st gs[j] (lines.getD j []) T P) → tot ≤ 100 * i →
      ∃ y, laws_kindred_l1 gs 8 lay (st : Int) k (lines, (tot : Int), (i : Int)) = some y ∧ ∀ v, y = .inr v → v.1.length = gs.length ∧ ∀ j (h : j < gs.length), ∃ T P, Dt lay st gs[j] (v.1.getD j []) T P := by
  intro n
  induction n with
  | zero =>
    intro k i lines tot hn hk hi hll hd ht
    obtain ⟨k, rfl⟩ : ∃ j, k = j + 1 := ⟨k - 1, by omega⟩
    refine ⟨.inr (lines, (tot : Int)), ?_, fun v hv => ?_⟩
    · simp only [laws_kindred_l1, laws_kindred_l1s, lt_false (show ¬ i < gs.length by omega), br_false]
    · cases hv
      exact ⟨by simp only; omega, fun j h => hd j h (by omega)⟩
  | succ n ih =>
    intro k i lines tot hn hk hi hll hd ht
    obtain ⟨k, rfl⟩ : ∃ j, k = j + 1 := ⟨k - 1, by omega⟩
    obtain ⟨k', rfl⟩ : ∃ j, k = j + 1 := ⟨k - 1, by omega⟩
    have hlt : i < gs.length := by omega
    have bad : ∃ y, (some (.inl ()) : Option (Unit ⊕ (List (List Six) × Int))) = some y ∧ ∀ v, y = .inr v → v.1.length = gs.length ∧ ∀ j (h : j < gs.length), ∃ T P, Dt lay st gs[j] (v.1.getD j []) T P := ⟨_, rfl, fun v hv => by cases hv⟩
    have hwi := hw gs[i] (List.getElem_mem hlt)
    simp only [laws_kindred_l1, laws_kindred_l1s, lt_true hlt, br_true, idx_get hlt, Option.bind_eq_bind, Option.bind_some]
    unfold laws_kindred_j9 laws_kindred_j10 laws_kindred_j11 laws_kindred_j12 laws_kindred_j13 laws_kindred_j14
    by_cases hf : gs[i].f0 = 8
    · by_cases hl : gs[i].f1 = lay
      · rw [decide_eq_true hf, decide_eq_true hl, Bool.not_true, br_false, br_false]
        obtain ⟨b, hb⟩ := good8_tot (k := k') (lay := gs[i].f1) (srid := gs[i].f2) (fl := gs[i].f3) (en := gs[i].f4) (enn := gs[i].f5) (kids := gs[i].f6) (by rw [hl]; exact hs) h2
        rw [hf, hb]
        simp only [Option.bind_eq_bind, Option.bind_some]
        cases b with
        | false => simp only [Bool.not_false, br_true]; exact bad
        | true =>
          simp only [Bool.not_true, br_false]
          by_cases h0 : gs[i].f3.length = 0
          · rw [decide_eq_true (show (gs[i].f3.length : Int) = 0 by omega)]
            simp only [br_true]; exact bad
          · rw [decide_eq_false (show ¬ (gs[i].f3.length : Int) = 0 by omega), br_false]
            obtain ⟨l, b, q1, q2⟩ := one_ring h1 h8 hs h2 hs8 (k := k' + 1) hwi (by omega) (by omega)
            rw [q1]
            simp only [Option.bind_some]
            cases b with
            | false => simp only [Bool.not_false, br_true]; exact bad
            | true =>
              obtain ⟨T, P, r1, r2, r3, r4⟩ := q2 rfl
              obtain ⟨pts, p1, p2, p3⟩ := lines_is hwi r1 r3 h2 hs8 P r4 (k := k' + 1) (by omega)
              have hTs : T * st ≤ 100 * 8 := Nat.mul_le_mul r3 hs8
              have hq : iquo .i64 (gs[i].f3.length : Int) (st : Int) = some ((T : Nat) : Int) := by
                rw [r1]
                unfold iquo
                rw [if_neg (by omega)]
                have : (((T * st : Nat) : Int)).tdiv (st : Int) = (T : Int) := by
                  rw [Int.natCast_mul, Int.mul_tdiv_cancel _ (by omega)]
                rw [this, wrap_i64 (by omega) (by omega)]
              have ha : apd 24 lines [pts] = some (lines ++ [pts]) := apd_some (by simp; omega) (by simp; omega)
              have et : iadd .i64 (tot : Int) ((T : Nat) : Int) = ((tot + T : Nat) : Int) := by rw [iadd_i64 (by omega) (by omega)]; omega
              simp only [Bool.not_true, br_false, hq, Option.bind_some, show decide ((8 : Int) = 2) = false from rfl, show decide ((8 : Int) = 8) = true from rfl, br_true, p1, ha, et, iadd_one (show i < 9223372036854775807 by omega)]
              refine ih (k' + 1) (i + 1) (lines ++ [pts]) (tot + T) (by omega) (by omega) (by omega) (by simp; omega) ?_ (by omega)
              intro j hj hji
              rcases Nat.lt_or_ge j i with hlt' | hge
              · rw [show (lines ++ [pts]).getD j [] = lines.getD j [] from by simp [List.getD, List.getElem?_append_left (show j < lines.length by omega)]]
                exact hd j hj hlt'
              · have hji' : j = i := by omega
                subst hji'
                rw [show (lines ++ [pts]).getD j [] = pts from by simp [List.getD, ← hll]]
                exact ⟨T, P, hf, hl, r1, r2, r3, r4, p2, p3⟩
      · rw [decide_eq_true hf, decide_eq_false hl]
        simp only [Bool.not_true, Bool.not_false, br_false, br_true]; exact bad
    · rw [decide_eq_false hf]
      simp only [Bool.not_false, br_true]; exact bad

theorem kindred_is {k : Nat} (hk : 3000 < k) (lay : Int) (gs : List T38) (hw : ∀ g ∈ gs, ∀ x ∈ g.f3, x < 18446744073709551616) :
    ∃ lines b, laws_kindred k 8 lay gs = some (lines, b) ∧ ((lines = [] ∧ b = false) ∨ ∃ st T P, Rgs lay st gs T P ∧ lines.length = gs.length ∧ ∀ i, i < gs.length → (lines.getD i []).length = T i ∧ ∀ j, j < T i → Pt ((lines.getD i []).getD j six0) (P i j)) := by
  have bad : ∃ lines b, (some (([] : List (List Six)), false)) = some (lines, b) ∧ ((lines = [] ∧ b = false) ∨ ∃ st T P, Rgs lay st gs T P ∧ lines.length = gs.length ∧ ∀ i, i < gs.length → (lines.getD i []).length = T i ∧ ∀ j, j < T i → Pt ((lines.getD i []).getD j six0) (P i j)) := ⟨_, _, rfl, .inl ⟨rfl, rfl⟩⟩
  unfold laws_kindred laws_kindred_j1 laws_kindred_j2
  by_cases h1 : lay < 1
  · rw [decide_eq_true h1]; simp only [br_true]; exact bad
  rw [decide_eq_false h1, br_false]
  by_cases h8 : 8 < lay
  · rw [decide_eq_true h8]; simp only [br_true]; exact bad
  rw [decide_eq_false h8, br_false]
  by_cases h20 : 20 < gs.length
  · rw [decide_eq_true (show (20 : Int) < (gs.length : Int) by omega)]; simp only [br_true]; exact bad
  rw [decide_eq_false (show ¬ (20 : Int) < (gs.length : Int) by omega), br_false]
  obtain ⟨st, hs, hs2, hs8⟩ : ∃ st : Nat, stri lay = (st : Int) ∧ 2 ≤ st ∧ st ≤ 8 := by
    have : 2 ≤ stri lay ∧ stri lay ≤ 8 := by
      unfold stri
      split
      · omega
      · split
        · omega
        · split <;> omega
    exact ⟨(stri lay).toNat, by omega, by omega, by omega⟩
  obtain ⟨y, y1, y2⟩ := kind_loop (by omega) (by omega) hs hs2 hs8 (by omega) hw gs.length k 0 [] 0 (by omega) (by omega) (by omega) rfl (fun j h h' => by omega) (by omega)
  have y1' : laws_kindred_l1 gs 8 lay (st : Int) k ([], 0, 0) = some y := y1
  rw [stride_is, sbind, hs, y1', sbind]
  cases y with
  | inl u => exact bad
  | inr v =>
    obtain ⟨v1, v2⟩ := y2 v rfl
    have hg : ∀ j, ∃ tp : Nat × (Nat → Pz), ∀ h : j < gs.length, Dt lay st gs[j] (v.1.getD j []) tp.1 tp.2 := fun j => by
      by_cases h : j < gs.length
      · obtain ⟨T, P, hT⟩ := v2 j h; exact ⟨(T, P), fun _ => hT⟩
      · exact ⟨(0, fun _ => (0, 0)), fun h' => absurd h' h⟩
    obtain ⟨F, hF⟩ := Classical.axiomOfChoice hg
    refine ⟨_, _, rfl, .inr ⟨st, fun i => (F i).1, fun i => (F i).2, ?_, v1, ?_⟩⟩
    · exact {
        few := by omega
        lay1 := by omega
        str := hs
        st2 := hs2
        st8 := hs8
        kd := fun i h => (hF i h).1
        ly := fun i h => (hF i h).2.1
        len := fun i h => (hF i h).2.2.1
        t1 := fun i h => (hF i h).2.2.2.1
        t2 := fun i h => (hF i h).2.2.2.2.1
        gd := fun i h => (hF i h).2.2.2.2.2.1 }
    · intro i h
      exact (hF i h).2.2.2.2.2.2

/-! #### middles -/
theorem sq_scale (a b c d u w : Int) (h : u * u = w) : (c * u - a * u) * (c * u - a * u) + (d * u - b * u) * (d * u - b * u) = ((c - a) * (c - a) + (d - b) * (d - b)) * w := by subst h; grind
theorem float_sq {k : Nat} {s : Bool} {l : List Int} {e : Int} {N S : Int} (h : Dr (-2148) 1942 263 s l e N) (hk : 200 < k) (hN : N = S * (2 ^ 1074 * 2 ^ 1074)) (hS : S.natAbs < 2 ^ 53) : ∃ y, spec_Dyadic_Float k s l e = some y ∧ D y S 1074 := by
  obtain ⟨z, w, v⟩ := h.ex
  have h1 := h.lo
  have h2 := h.hi
  have h3 := h.len
  refine float_is (K := 2148) w (by omega) hk (by omega) (by omega) (by omega) ?_ hS
  rw [show (e + ((2148 : Nat) : Int)).toNat = (e - -2148).toNat by omega, ← v, hN]
  rw [← Int.pow_add]
theorem float_one {k : Nat} {s : Bool} {l : List Int} {e : Int} {L : Nat} {S : Int} (h : Dr (-1074) 971 L s l e (S * 2 ^ 1074)) (hL : L < 1000) (hk : 200 < k) (hS : S.natAbs < 2 ^ 53) : ∃ y, spec_Dyadic_Float k s l e = some y ∧ D y S 1074 := by
  obtain ⟨z, w, v⟩ := h.ex
  have h1 := h.lo
  have h2 := h.hi
  have h3 := h.len
  refine float_is (K := 1074) w (by omega) hk (by omega) (by omega) (by omega) ?_ hS
  rw [show (e + ((1074 : Nat) : Int)).toNat = (e - -1074).toNat by omega, ← v]
theorem idx_gets {l : List Six} {i : Nat} (h : i < l.length) : idx l (i : Int) = some (l.getD i six0) := by rw [idx_get h, getD_of h]
theorem mid_loop {pts : List Six} {T : Nat} {P : Nat → Pz} (hl : pts.length = T) (hT : T ≤ 100) (hP : ∀ j, j < T → Pt (pts.getD j six0) (P j)) :
    ∀ (n k j : Nat) (c d t : Nat) (s : S3) (i : Nat), T - 1 - j = n → 4000 + n < k → j + 1 ≤ T → Inv c d t s i → i + n ≤ 4000 →
      ∃ c' d' t', laws_middles_l2 pts k (c, d, t, ((j + 1 : Nat) : Int)) = some (c', d', t') ∧ Inv c' d' t' (foldN P j n s) (i + n) := by
  intro n
  induction n with
  | zero =>
    intro k j c d t s i hn hk hj hI hi
    obtain ⟨k, rfl⟩ : ∃ j, k = j + 1 := ⟨k - 1, by omega⟩
    refine ⟨c, d, t, ?_, hI⟩
    simp only [laws_middles_l2, laws_middles_l2s, lt_false (show ¬ j + 1 < pts.length by omega), br_false]
  | succ n ih =>
    intro k j c d t s i hn hk hj hI hi
    obtain ⟨k, rfl⟩ : ∃ j, k = j + 1 := ⟨k - 1, by omega⟩
    obtain ⟨g1, g2, g3⟩ := hP j (by omega)
    obtain ⟨f1, f2, f3⟩ := hP (j + 1) (by omega)
    have a1 : isub .i64 ((j + 1 : Nat) : Int) 1 = (j : Int) := by rw [isub_i64 (by omega) (by omega)]; omega
    obtain ⟨s1, s2⟩ := sq_is g3 f3
    obtain ⟨u, m, e, q1, q2⟩ := square_is' (k := k) (by omega) g1 g2 f1 f2
    obtain ⟨y, y1, y2⟩ := float_sq (k := k) (S := ((sq (P j) (P (j + 1)) : Nat) : Int)) q2 (by omega) (by rw [s1]; exact sq_scale _ _ _ _ _ _ rfl) (by omega)
    have hn' := (rr_is s2).2.2 _ y2
    obtain ⟨u1, m1, e1, p1, p2⟩ := dadd_is (k := k) g1 f1 (by decide) (by decide) (by decide) (by decide) (by simp; omega)
    obtain ⟨u2, m2, e2, p3, p4⟩ := dadd_is (k := k) g2 f2 (by decide) (by decide) (by decide) (by decide) (by simp; omega)
    rw [← Int.add_mul] at p2 p4
    obtain ⟨z1, z2, z3⟩ := float_one (k := k) p2 (by decide) (by omega) (by have := g3.1; have := f3.1; omega)
    obtain ⟨w1, w2, w3⟩ := float_one (k := k) p4 (by decide) (by omega) (by have := g3.2; have := f3.2; omega)
    obtain ⟨z, w, b1, b2, b3, b4, b5, b6, hI'⟩ := inv_a hI (by omega) g3 f3 hn' z3 w3
    obtain ⟨c', d', t', r1, r2⟩ := ih k (j + 1) _ _ _ _ (i + 1) (by omega) (by omega) (by omega) hI' (by omega)
    refine ⟨c', d', t', ?_, ?_⟩
    · simp only [laws_middles_l2, laws_middles_l2s, lt_true (show j + 1 < pts.length by omega), br_true, a1, idx_gets (show j < pts.length by omega), idx_gets (show j + 1 < pts.length by omega), Option.bind_eq_bind, Option.bind_some,
        q1, y1, num_q (Q_whole y2), math_Sqrt, p1, z2, p3, w2, num_q hn', num_q (Q_whole z3), num_q (Q_whole w3), b1, b2, b3, b4, b5, b6, iadd_one (show j + 1 < 9223372036854775807 by omega)]
      exact r1
    · rw [show i + (n + 1) = i + 1 + n by omega]; exact r2
theorem mids_loop {lines : List (List Six)} {N : Nat} {T : Nat → Nat} {P : Nat → Nat → Pz} (hl : lines.length = N) (hN : N ≤ 20) (hT1 : ∀ i, i < N → 1 ≤ T i) (hT : ∀ i, i < N → T i ≤ 100)
    (hd : ∀ i, i < N → (lines.getD i []).length = T i ∧ ∀ j, j < T i → Pt ((lines.getD i []).getD j six0) (P i j)) :
    ∀ (n k i : Nat) (c d t : Nat) (s : S3), N - i = n → n + 5000 < k → i ≤ N → Inv c d t s (100 * i) →
      ∃ c' d' t', laws_middles_l3 lines k (c, d, t, (i : Int)) = some (c', d', t') ∧ Inv c' d' t' (foldR T P i n s) 2000 := by
  intro n
  induction n with
  | zero =>
    intro k i c d t s hn hk hi hI
    obtain ⟨k, rfl⟩ : ∃ j, k = j + 1 := ⟨k - 1, by omega⟩
    refine ⟨c, d, t, ?_, inv_mono hI (by omega)⟩
    simp only [laws_middles_l3, laws_middles_l3s, lt_false (show ¬ i < lines.length by omega), br_false]
  | succ n ih =>
    intro k i c d t s hn hk hi hI
    obtain ⟨k, rfl⟩ : ∃ j, k = j + 1 := ⟨k - 1, by omega⟩
    have hlt : i < N := by omega
    have t1 := hT1 i hlt
    have t2 := hT i hlt
    obtain ⟨d1, d2⟩ := hd i hlt
    obtain ⟨c', d', t', r1, r2⟩ := mid_loop d1 t2 d2 (T i - 1) k 0 c d t s (100 * i) (by omega) (by omega) (by omega) hI (by omega)
    have r1' : laws_middles_l2 (lines.getD i []) k (c, d, t, 1) = some (c', d', t') := r1
    obtain ⟨c2, d2, u2, q1, q2⟩ := ih k (i + 1) c' d' t' _ (by omega) (by omega) (by omega) (inv_mono r2 (by omega))
    refine ⟨c2, d2, u2, ?_, q2⟩
    have hi' : idx lines (i : Int) = some (lines.getD i []) := by rw [idx_get (show i < lines.length by omega), getD_of (show i < lines.length by omega)]
    simp only [laws_middles_l3, laws_middles_l3s, lt_true (show i < lines.length by omega), br_true, hi', Option.bind_eq_bind, Option.bind_some, r1', iadd_one (show i < 9223372036854775807 by omega)]
    exact q1
end Go.Proofs.YtajpajggckappaaGreat
