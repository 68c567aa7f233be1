/-
  Lists of places put in a row: the plain statement, where there are at most 1048576 numbers and lists in all. Ours.
-/
import Derived.Test.YtlipjaacncpaoaaSameF
import Derived.Test.YtlipjaacncpaoaaSxP
namespace Go.Proofs.Ytlipjaacncpaoaa
open Go.Sx
set_option linter.unusedVariables false
set_option linter.unusedSimpArgs false
set_option maxRecDepth 100000

theorem apd_some {α : Type} {b : Nat} {xs ys : List α} (h : (xs.length + ys.length) * b ≤ 140737488355328) (h' : xs.length + ys.length ≤ 4611686018427387904) : apd b xs ys = some (xs ++ ys) := by
  unfold apd; rw [if_pos ⟨h, h'⟩]
/-- lists and numbers -/
def T1 (r : List (List Nat)) : Nat := (r.map fun p => p.length + 1).sum
def T2 (c : List (List (List Nat))) : Nat := (c.map fun r => T1 r + 1).sum
theorem t1_cons (p : List Nat) (r : List (List Nat)) : T1 (p :: r) = p.length + 1 + T1 r := by simp [T1]
theorem t2_cons (r : List (List Nat)) (c : List (List (List Nat))) : T2 (r :: c) = T1 r + 1 + T2 c := by simp [T2]
theorem t1_flat : ∀ r : List (List Nat), r.flatten.length + r.length ≤ T1 r
  | [] => by simp
  | p :: r => by have := t1_flat r; rw [t1_cons]; simp only [List.flatten_cons, List.length_append, List.length_cons]; omega
theorem t1_mem {r : List (List Nat)} {p : List Nat} (h : p ∈ r) : p.length ≤ T1 r := by
  induction r with
  | nil => cases h
  | cons q r ih =>
    rw [t1_cons]
    rcases List.mem_cons.1 h with rfl | h
    · omega
    · have := ih h; omega
theorem t2_flat : ∀ c : List (List (List Nat)), c.flatten.flatten.length + c.length ≤ T2 c
  | [] => by simp
  | r :: c => by have := t2_flat c; have := t1_flat r; rw [t2_cons]; simp only [List.flatten_cons, List.flatten_append, List.length_append, List.length_cons]; omega
theorem t2_mem {c : List (List (List Nat))} {r : List (List Nat)} (h : r ∈ c) : T1 r ≤ T2 c := by
  induction c with
  | nil => cases h
  | cons q r ih =>
    rw [t2_cons]
    rcases List.mem_cons.1 h with rfl | h
    · omega
    · have := ih h; omega
def ok1 (s : Nat) (r : List (List Nat)) : Bool := r.all fun p => decide (p.length = s)
def ok2 (s : Nat) (c : List (List (List Nat))) : Bool := c.all (ok1 s)
def tails (b : Nat) : List (List (List Nat)) → List Int
  | [] => []
  | r :: c => ((b + r.flatten.length : Nat) : Int) :: tails (b + r.flatten.length) c
theorem tails_len : ∀ (c : List (List (List Nat))) (b : Nat), (tails b c).length = c.length
  | [], _ => rfl
  | r :: c, b => by simp [tails, tails_len c]

/-! #### the tests ahead -/
theorem fits4_is (k : Nat) (r : List (List Nat)) (h : T1 r ≤ 1048576) (hk : 1048576 < k) : laws_zzFits4 k r = some true := by
  have hl := t1_flat r
  have key := loop_any (F := laws_zzFits4_l1 r) 0 r.length (fun _ => false) (.inl ()) (.inr ()) (fun k i _ hi => by
    have := t1_mem (List.getElem_mem hi)
    simp only [laws_zzFits4_l1, laws_zzFits4_l1s, lt_true hi, br_true, idx_get hi, Option.bind_eq_bind, Option.bind_some, decide_eq_false (show ¬ (2147483647 < (r[i].length : Int)) by omega), br_false, Bool.false_eq_true, if_false]
    rw [iadd_one (by omega)]) (fun k => by simp only [laws_zzFits4_l1, laws_zzFits4_l1s, lt_false (Nat.lt_irrefl _), br_false]) r.length 0 k (by omega) (by omega)
  rw [any_false fun _ _ => rfl] at key
  unfold laws_zzFits4
  rw [decide_eq_false (by omega), br_false, show (0 : Int) = ((0 : Nat) : Int) from rfl, key]
  rfl
theorem fits5_is (k : Nat) (c : List (List (List Nat))) (h : T2 c ≤ 1048576) (hk : 3000000 < k) : laws_zzFits5 k c = some true := by
  have hl := t2_flat c
  have key := loop_any (F := laws_zzFits5_l1 c) 1048577 c.length (fun _ => false) (.inl ()) (.inr ()) (fun k i hk hi => by
    have := t2_mem (List.getElem_mem hi)
    simp only [laws_zzFits5_l1, laws_zzFits5_l1s, lt_true hi, br_true, idx_get hi, Option.bind_eq_bind, Option.bind_some, fits4_is k c[i] (by omega) (by omega), Bool.not_true, br_false, Bool.false_eq_true, if_false]
    rw [iadd_one (by omega)]) (fun k => by simp only [laws_zzFits5_l1, laws_zzFits5_l1s, lt_false (Nat.lt_irrefl _), br_false]) c.length 0 k (by omega) (by omega)
  rw [any_false fun _ _ => rfl] at key
  unfold laws_zzFits5
  rw [decide_eq_false (by omega), br_false, show (0 : Int) = ((0 : Nat) : Int) from rfl, key]
  rfl
/-- a loop over a list that carries something ends -/
theorem run_tot {σ τ : Type} {F : Nat → σ × Int → Option τ} (N kmin : Nat) (hN : N < 4611686018427387904)
    (step : ∀ k s (i : Nat), i < N → kmin ≤ k → (∃ y, F (k + 1) (s, (i : Int)) = some y) ∨ ∃ s', F (k + 1) (s, (i : Int)) = F k (s', ((i + 1 : Nat) : Int)))
    (stop : ∀ k s, ∃ y, F (k + 1) (s, (N : Int)) = some y) : ∀ (n i k : Nat) (s : σ), N - i = n → n + kmin < k → i ≤ N → ∃ y, F k (s, (i : Int)) = some y := by
  intro n
  induction n with
  | zero =>
    intro i k s hn hk hi
    obtain ⟨k, rfl⟩ : ∃ j, k = j + 1 := ⟨k - 1, by omega⟩
    obtain rfl : i = N := by omega
    exact stop k s
  | succ n ih =>
    intro i k s hn hk hi
    obtain ⟨k, rfl⟩ : ∃ j, k = j + 1 := ⟨k - 1, by omega⟩
    rcases step k s i (by omega) (by omega) with h | ⟨s', h⟩
    · exact h
    · rw [h]; exact ih (i + 1) k s' (by omega) (by omega) (by omega)
theorem coords_tot (k : Nat) (c : List (List (List Nat))) (h : T2 c ≤ 1048576) (hk : 6000000 < k) : ∃ b, laws_fCoords k [c] = some b := by
  have hl := t2_flat c
  have c5 : ∀ k (r : List (List Nat)), T1 r ≤ 1048576 → 1048577 < k → ∃ y, laws_fCoords_l5 r k 0 = some y := fun k r hr hk => by
    have hl := t1_flat r
    have := run_tot (F := fun k (p : Unit × Int) => laws_fCoords_l5 r k p.2) r.length 0 (by omega) (fun k s i hi _ => by
      simp only [laws_fCoords_l5, laws_fCoords_l5s, lt_true hi, br_true, idx_get hi, Option.bind_eq_bind, Option.bind_some]
      cases decide ((r[i].length : Int) = 0)
      · right; exact ⟨(), by rw [br_false, iadd_one (by omega)]⟩
      · left; exact ⟨_, rfl⟩) (fun k s => by
      simp only [laws_fCoords_l5, laws_fCoords_l5s, lt_false (Nat.lt_irrefl _), br_false]
      exact ⟨_, rfl⟩) r.length 0 k () (by omega) (by omega) (by omega)
    exact this
  have c6 : ∀ k, 3000000 < k → ∃ y, laws_fCoords_l6 c k 0 = some y := fun k hk => by
    have := run_tot (F := fun k (p : Unit × Int) => laws_fCoords_l6 c k p.2) c.length 1048578 (by omega) (fun k s i hi hk => by
      have := t2_mem (List.getElem_mem hi)
      obtain ⟨y, hy⟩ := c5 k c[i] (by omega) (by omega)
      simp only [laws_fCoords_l6, laws_fCoords_l6s, lt_true hi, br_true, idx_get hi, Option.bind_eq_bind, Option.bind_some, hy]
      cases y
      · left; exact ⟨_, rfl⟩
      · right; exact ⟨(), by rw [iadd_one (by omega)]⟩) (fun k s => by
      simp only [laws_fCoords_l6, laws_fCoords_l6s, lt_false (Nat.lt_irrefl _), br_false]
      exact ⟨_, rfl⟩) c.length 0 k () (by omega) (by omega) (by omega)
    exact this
  have g5 : ∀ k (r : List (List Nat)) x, T1 r ≤ 1048576 → 1048577 < k → ∃ y, laws_gCount_l5 r k (x, 0) = some y := fun k r x hr hk => by
    have hl := t1_flat r
    have := run_tot (F := fun k (p : Int × Int) => laws_gCount_l5 r k p) r.length 0 (by omega) (fun k s i hi _ => by
      right
      simp only [laws_gCount_l5, laws_gCount_l5s, lt_true hi, br_true, idx_get hi, Option.bind_eq_bind, Option.bind_some]
      exact ⟨_, by rw [iadd_one (by omega)]⟩) (fun k s => by
      simp only [laws_gCount_l5, laws_gCount_l5s, lt_false (Nat.lt_irrefl _), br_false]
      exact ⟨_, rfl⟩) r.length 0 k x (by omega) (by omega) (by omega)
    exact this
  have g6 : ∀ k x, 3000000 < k → ∃ y, laws_gCount_l6 c k (x, 0) = some y := fun k x hk => by
    have := run_tot (F := fun k (p : Int × Int) => laws_gCount_l6 c k p) c.length 1048578 (by omega) (fun k s i hi hk => by
      have := t2_mem (List.getElem_mem hi)
      obtain ⟨y, hy⟩ := g5 k c[i] (iadd .i64 s (c[i].length : Int)) (by omega) (by omega)
      right
      simp only [laws_gCount_l6, laws_gCount_l6s, lt_true hi, br_true, idx_get hi, Option.bind_eq_bind, Option.bind_some, hy]
      exact ⟨_, by rw [iadd_one (by omega)]⟩) (fun k s => by
      simp only [laws_gCount_l6, laws_gCount_l6s, lt_false (Nat.lt_irrefl _), br_false]
      exact ⟨_, rfl⟩) c.length 0 k x (by omega) (by omega) (by omega)
    exact this
  have o1 : ∀ (x : Int) (k : Nat), (iadd .i64 0 1) = ((1 : Nat) : Int) := fun _ _ => rfl
  obtain ⟨k, rfl⟩ : ∃ j, k = j + 2 := ⟨k - 2, by omega⟩
  obtain ⟨y, hy⟩ := c6 (k + 1) (by omega)
  have hl7 : ∃ z, laws_fCoords_l7 [c] (k + 2) 0 = some z := by
    simp only [laws_fCoords_l7, laws_fCoords_l7s]
    rw [show decide ((0 : Int) < (([c] : List (List (List (List Nat)))).length : Int)) = true from rfl, br_true, show idx [c] 0 = some c from rfl, sbind, hy, sbind]
    cases y
    · exact ⟨_, rfl⟩
    · exact ⟨_, rfl⟩
  obtain ⟨z, hz⟩ := hl7
  unfold laws_fCoords
  rw [hz, sbind]
  cases z with
  | inl u => exact ⟨_, rfl⟩
  | inr u =>
    have hg : ∃ v, laws_gCount (k + 2) [c] = some v := by
      obtain ⟨y, hy⟩ := g6 (k + 1) (iadd .i64 1 (c.length : Int)) (by omega)
      unfold laws_gCount
      have : laws_gCount_l7 [c] (k + 2) ((([c] : List (List (List (List Nat)))).length : Int), 0) = some y := by
        simp only [laws_gCount_l7, laws_gCount_l7s]
        rw [show decide ((0 : Int) < (([c] : List (List (List (List Nat)))).length : Int)) = true from rfl, br_true, show idx [c] 0 = some c from rfl, sbind, show ((([c] : List (List (List (List Nat)))).length : Int)) = 1 from rfl, hy, sbind]
        rfl
      rw [this, sbind]; exact ⟨_, rfl⟩
    obtain ⟨v, hv⟩ := hg
    simp only
    rw [hv, sbind]
    exact ⟨_, rfl⟩

/-! #### what the law reckons -/
theorem stride_is (k L s : Nat) (h : (L = 1 ∧ s = 2) ∨ (L = 2 ∧ s = 3) ∨ (4 ≤ L ∧ s = L)) : spec_Stride k (L : Int) = some (s : Int) := by
  unfold spec_Stride spec_Stride_j1
  rcases h with ⟨rfl, rfl⟩ | ⟨rfl, rfl⟩ | ⟨h, rfl⟩
  · rfl
  · rfl
  · rw [decide_eq_false (by omega), br_false, decide_eq_false (by omega), br_false, decide_eq_false (by omega), br_false, decide_eq_false (by omega), br_false]
theorem flat_loop (L s : Nat) (h : ∀ k, spec_Stride k (L : Int) = some (s : Int)) (r : List (List Nat)) (hr : T1 r ≤ 1048576) : ∀ (n i k : Nat) (acc : List Nat) (b : Bool), r.length - i = n → n < k → i ≤ r.length → acc.length + (r.drop i).flatten.length ≤ 1048576 →
    laws_gFlat_l1 r (L : Int) false k (acc, [], b, (i : Int)) = some (acc ++ (r.drop i).flatten, [], b && ok1 s (r.drop i)) := by
  have hl := t1_flat r
  intro n
  induction n with
  | zero =>
    intro i k acc b hn hk hi ha
    obtain ⟨k, rfl⟩ : ∃ j, k = j + 1 := ⟨k - 1, by omega⟩
    obtain rfl : i = r.length := by omega
    simp only [laws_gFlat_l1, laws_gFlat_l1s, lt_false (Nat.lt_irrefl _), br_false, List.drop_length, List.flatten_nil, List.append_nil, ok1, List.all_nil, Bool.and_true]
  | succ n ih =>
    intro i k acc b hn hk hi ha
    obtain ⟨k, rfl⟩ : ∃ j, k = j + 1 := ⟨k - 1, by omega⟩
    have hlt : i < r.length := by omega
    rw [List.drop_eq_getElem_cons hlt] at ha ⊢
    simp only [List.flatten_cons, List.length_append] at ha
    have ih' := ih (i + 1) k (acc ++ r[i]) (b && decide (r[i].length = s)) (by omega) (by omega) (by omega) (by simp only [List.length_append]; omega)
    have hap : apd 8 acc r[i] = some (acc ++ r[i]) := apd_some (by omega) (by omega)
    have e : ok1 s (r[i] :: r.drop (i + 1)) = (decide (r[i].length = s) && ok1 s (r.drop (i + 1))) := rfl
    rw [List.flatten_cons, e, ← List.append_assoc, ← Bool.and_assoc, ← ih']
    have hj : ∀ b', laws_gFlat_j7 k acc r[i] false [] (laws_gFlat_l1 r (L : Int) false k) (i : Int) b' = laws_gFlat_l1 r (L : Int) false k (acc ++ r[i], [], b', ((i + 1 : Nat) : Int)) := fun b' => by
      unfold laws_gFlat_j7 laws_gFlat_j6
      rw [hap, sbind, br_false, iadd_one (by omega)]
    simp only [laws_gFlat_l1, laws_gFlat_l1s, lt_true hlt, br_true, idx_get hlt, Option.bind_eq_bind, Option.bind_some, h]
    cases b with
    | false => rw [br_false, hj, Bool.false_and]
    | true =>
      rw [br_true, Bool.true_and]
      by_cases hs : r[i].length = s
      · rw [decide_eq_true (show ((r[i].length : Int) = (s : Int)) by omega), br_true, decide_eq_true hs]
        unfold laws_gFlat_j5
        rw [hj]
      · rw [decide_eq_false (show ¬ ((r[i].length : Int) = (s : Int)) by omega), br_false, br_false, decide_eq_false hs]
        unfold laws_gFlat_j4 laws_gFlat_j5
        rw [hj]
theorem flats_loop (L s : Nat) (h : ∀ k, spec_Stride k (L : Int) = some (s : Int)) (c : List (List (List Nat))) (hc : T2 c ≤ 1048576) : ∀ (n i k : Nat) (acc : List Nat) (tl : List Int) (b : Bool), c.length - i = n → n + 1048577 < k → i ≤ c.length → acc.length + (c.drop i).flatten.flatten.length ≤ 1048576 → tl.length + (c.length - i) ≤ 1048576 →
    laws_gFlats_l1 c (L : Int) 0 k (acc, tl, b, (i : Int)) = some (acc ++ (c.drop i).flatten.flatten, tl ++ tails acc.length (c.drop i), b && ok2 s (c.drop i)) := by
  have hl := t2_flat c
  intro n
  induction n with
  | zero =>
    intro i k acc tl b hn hk hi ha ht
    obtain ⟨k, rfl⟩ : ∃ j, k = j + 1 := ⟨k - 1, by omega⟩
    obtain rfl : i = c.length := by omega
    simp only [laws_gFlats_l1, laws_gFlats_l1s, lt_false (Nat.lt_irrefl _), br_false, List.drop_length, List.flatten_nil, List.append_nil, ok2, List.all_nil, Bool.and_true, tails]
  | succ n ih =>
    intro i k acc tl b hn hk hi ha ht
    obtain ⟨k, rfl⟩ : ∃ j, k = j + 1 := ⟨k - 1, by omega⟩
    have hlt : i < c.length := by omega
    have hT := t2_mem (List.getElem_mem hlt)
    have hF := t1_flat c[i]
    rw [List.drop_eq_getElem_cons hlt] at ha ⊢
    simp only [List.flatten_cons, List.flatten_append, List.length_append] at ha
    have ih' := ih (i + 1) k (acc ++ c[i].flatten) (tl ++ [((acc.length + c[i].flatten.length : Nat) : Int)]) (b && ok1 s c[i]) (by omega) (by omega) (by omega) (by simp only [List.length_append]; omega) (by simp only [List.length_append, List.length_cons, List.length_nil]; omega)
    have hap : apd 8 acc c[i].flatten = some (acc ++ c[i].flatten) := apd_some (by omega) (by omega)
    have hg : laws_gFlat k (L : Int) false c[i] = some (c[i].flatten, [], ok1 s c[i]) := by
      have := flat_loop L s h c[i] (by omega) c[i].length 0 k [] true (by omega) (by omega) (by omega) (by simp only [List.length_nil, List.drop_zero]; omega)
      unfold laws_gFlat
      rw [show ((0 : Nat) : Int) = 0 from rfl] at this
      rw [this, sbind]
      simp
    have hap2 : apd 8 tl ([iadd .i64 0 ((acc ++ c[i].flatten).length : Int)]) = some (tl ++ [((acc.length + c[i].flatten.length : Nat) : Int)]) := by
      rw [apd_some (by simp only [List.length_cons, List.length_nil]; omega) (by simp only [List.length_cons, List.length_nil]; omega), iadd_i64 (by simp only [List.length_append]; omega) (by simp only [List.length_append]; omega), Int.zero_add, List.length_append]
    have e : ok2 s (c[i] :: c.drop (i + 1)) = (ok1 s c[i] && ok2 s (c.drop (i + 1))) := rfl
    rw [List.flatten_cons, List.flatten_append, e, ← List.append_assoc, ← Bool.and_assoc]
    have et : tl ++ tails acc.length (c[i] :: c.drop (i + 1)) = tl ++ [((acc.length + c[i].flatten.length : Nat) : Int)] ++ tails (acc ++ c[i].flatten).length (c.drop (i + 1)) := by
      rw [List.length_append]; simp [tails]
    rw [et, ← ih']
    have hj : ∀ b', laws_gFlats_j1 k tl 0 (acc ++ c[i].flatten) (laws_gFlats_l1 c (L : Int) 0 k) (i : Int) b' = laws_gFlats_l1 c (L : Int) 0 k (acc ++ c[i].flatten, tl ++ [((acc.length + c[i].flatten.length : Nat) : Int)], b', ((i + 1 : Nat) : Int)) := fun b' => by
      unfold laws_gFlats_j1
      rw [hap2, sbind, iadd_one (by omega)]
    simp only [laws_gFlats_l1, laws_gFlats_l1s, lt_true hlt, br_true, idx_get hlt, Option.bind_eq_bind, Option.bind_some, hg, hap]
    cases b with
    | false => rw [br_false, hj, Bool.false_and]
    | true => rw [br_true, hj, Bool.true_and]

/-! #### what the program does -/
theorem copy_gen {α : Type} {F : Nat → (List α × Int) → Option (List α)} (xs : List α) (hl : xs.length ≤ 2147483647) (kmin : Nat)
    (step : ∀ k acc (i : Nat) (hi : i < xs.length), kmin ≤ k → acc.length = i → F (k + 1) (acc, (i : Int)) = F k (acc ++ [xs[i]], ((i + 1 : Nat) : Int)))
    (stop : ∀ k acc, F (k + 1) (acc, (xs.length : Int)) = some acc) : ∀ (n i k : Nat) (acc : List α), xs.length - i = n → n + kmin < k → i ≤ xs.length → acc = xs.take i → F k (acc, (i : Int)) = some xs := by
  intro n
  induction n with
  | zero =>
    intro i k acc hn hk hi ha
    obtain ⟨k, rfl⟩ : ∃ j, k = j + 1 := ⟨k - 1, by omega⟩
    have : i = xs.length := by omega
    subst this
    rw [stop, ha, List.take_length]
  | succ n ih =>
    intro i k acc hn hk hi ha
    obtain ⟨k, rfl⟩ : ∃ j, k = j + 1 := ⟨k - 1, by omega⟩
    have hlt : i < xs.length := by omega
    rw [step k acc i hlt (by omega) (by rw [ha, List.length_take]; omega)]
    exact ih (i + 1) k _ (by omega) (by omega) (by omega) (by rw [ha, List.take_succ_eq_append_getElem hlt])
theorem floats_is (k : Nat) (a : List Nat) (h : a.length ≤ 2147483647) : impl_floats k a = some a := by
  unfold impl_floats
  rw [apd_some (by simp; omega) (by simp; omega)]; rfl
theorem coords1_is (k : Nat) (xs : List (List Nat)) (hT : T1 xs ≤ 1048576) (hk : 1048577 < k) : impl_coords1 k xs = some xs := by
  have hl := t1_flat xs
  have := copy_gen (F := impl_coords1_l1 xs) xs (by omega) 0 (fun k acc i hi _ ha => by
    have := t1_mem (List.getElem_mem hi)
    simp only [impl_coords1_l1, impl_coords1_l1s, lt_true hi, br_true, idx_get hi, Option.bind_eq_bind, Option.bind_some, floats_is k xs[i] (by omega), apd_some (b := 24) (xs := acc) (ys := [xs[i]]) (by simp; omega) (by simp; omega), iadd_one (show i < 9223372036854775807 by omega)])
    (fun k acc => by simp only [impl_coords1_l1, impl_coords1_l1s, lt_false (Nat.lt_irrefl _), br_false]) xs.length 0 k [] (by omega) (by omega) (by omega) rfl
  have this' : impl_coords1_l1 xs k ([], 0) = some xs := this
  unfold impl_coords1
  rw [this', sbind]
theorem coords2_is (k : Nat) (xs : List (List (List Nat))) (hT : T2 xs ≤ 1048576) (hk : 3000000 < k) : impl_coords2 k xs = some xs := by
  have hl := t2_flat xs
  have := copy_gen (F := impl_coords2_l1 xs) xs (by omega) 1048578 (fun k acc i hi hk ha => by
    have := t2_mem (List.getElem_mem hi)
    simp only [impl_coords2_l1, impl_coords2_l1s, lt_true hi, br_true, idx_get hi, Option.bind_eq_bind, Option.bind_some, coords1_is k xs[i] (by omega) (by omega), apd_some (b := 24) (xs := acc) (ys := [xs[i]]) (by simp; omega) (by simp; omega), iadd_one (show i < 9223372036854775807 by omega)])
    (fun k acc => by simp only [impl_coords2_l1, impl_coords2_l1s, lt_false (Nat.lt_irrefl _), br_false]) xs.length 0 k [] (by omega) (by omega) (by omega) rfl
  have this' : impl_coords2_l1 xs k ([], 0) = some xs := this
  unfold impl_coords2
  rw [this', sbind]
theorem def1_loop (s : Nat) (r : List (List Nat)) (hr : T1 r ≤ 1048576) : ∀ (n i k : Nat) (acc : List Nat), r.length - i = n → n < k → i ≤ r.length → acc.length + (r.drop i).flatten.length ≤ 1048576 →
    (ok1 s (r.drop i) = true → gogeom_deflate1_v2_l1 r (s : Int) k (acc, (i : Int)) = some (.inr (acc ++ (r.drop i).flatten))) ∧ (ok1 s (r.drop i) = false → ∃ e, gogeom_deflate1_v2_l1 r (s : Int) k (acc, (i : Int)) = some (.inl e)) := by
  have hl := t1_flat r
  intro n
  induction n with
  | zero =>
    intro i k acc hn hk hi ha
    obtain ⟨k, rfl⟩ : ∃ j, k = j + 1 := ⟨k - 1, by omega⟩
    obtain rfl : i = r.length := by omega
    simp [gogeom_deflate1_v2_l1, gogeom_deflate1_v2_l1s, lt_false (Nat.lt_irrefl _), br_false, ok1]
  | succ n ih =>
    intro i k acc hn hk hi ha
    obtain ⟨k, rfl⟩ : ∃ j, k = j + 1 := ⟨k - 1, by omega⟩
    have hlt : i < r.length := by omega
    rw [List.drop_eq_getElem_cons hlt] at ha ⊢
    simp only [List.flatten_cons, List.length_append] at ha
    have e : ok1 s (r[i] :: r.drop (i + 1)) = (decide (r[i].length = s) && ok1 s (r.drop (i + 1))) := rfl
    rw [e, List.flatten_cons]
    simp only [gogeom_deflate1_v2_l1, gogeom_deflate1_v2_l1s, lt_true hlt, br_true, idx_get hlt, Option.bind_eq_bind, Option.bind_some]
    unfold gogeom_deflate0_v2
    by_cases hs : r[i].length = s
    · have ih' := ih (i + 1) k (acc ++ r[i]) (by omega) (by omega) (by omega) (by simp only [List.length_append]; omega)
      rw [decide_eq_true (show ((r[i].length : Int) = (s : Int)) by omega), Bool.not_true, br_false, apd_some (by omega) (by omega), decide_eq_true hs, Bool.true_and]
      simp only [Option.bind_eq_bind, Option.bind_some]
      rw [iadd_one (by omega), ← List.append_assoc]
      exact ih'
    · rw [decide_eq_false (show ¬ ((r[i].length : Int) = (s : Int)) by omega), Bool.not_false, br_true, decide_eq_false hs, Bool.false_and]
      exact ⟨fun h => (by cases h), fun _ => ⟨_, rfl⟩⟩
theorem def2_loop (s : Nat) (c : List (List (List Nat))) (hc : T2 c ≤ 1048576) : ∀ (n i k : Nat) (acc : List Nat) (tl : List Int), c.length - i = n → n + 1048577 < k → i ≤ c.length → acc.length + (c.drop i).flatten.flatten.length ≤ 1048576 → tl.length + (c.length - i) ≤ 1048576 →
    (ok2 s (c.drop i) = true → gogeom_deflate2_l1 c (s : Int) k (acc, tl, (i : Int)) = some (.inr (acc ++ (c.drop i).flatten.flatten, tl ++ tails acc.length (c.drop i)))) ∧ (ok2 s (c.drop i) = false → ∃ e, gogeom_deflate2_l1 c (s : Int) k (acc, tl, (i : Int)) = some (.inl e)) := by
  have hl := t2_flat c
  intro n
  induction n with
  | zero =>
    intro i k acc tl hn hk hi ha ht
    obtain ⟨k, rfl⟩ : ∃ j, k = j + 1 := ⟨k - 1, by omega⟩
    obtain rfl : i = c.length := by omega
    simp [gogeom_deflate2_l1, gogeom_deflate2_l1s, lt_false (Nat.lt_irrefl _), br_false, ok2, tails]
  | succ n ih =>
    intro i k acc tl hn hk hi ha ht
    obtain ⟨k, rfl⟩ : ∃ j, k = j + 1 := ⟨k - 1, by omega⟩
    have hlt : i < c.length := by omega
    have hT := t2_mem (List.getElem_mem hlt)
    have hF := t1_flat c[i]
    rw [List.drop_eq_getElem_cons hlt] at ha ⊢
    simp only [List.flatten_cons, List.flatten_append, List.length_append] at ha
    have e : ok2 s (c[i] :: c.drop (i + 1)) = (ok1 s c[i] && ok2 s (c.drop (i + 1))) := rfl
    rw [e, List.flatten_cons, List.flatten_append]
    have h1 := def1_loop s c[i] (by omega) c[i].length 0 k acc (by omega) (by omega) (by omega) (by simp only [List.drop_zero]; omega)
    rw [List.drop_zero, show ((0 : Nat) : Int) = 0 from rfl] at h1
    simp only [gogeom_deflate2_l1, gogeom_deflate2_l1s, lt_true hlt, br_true, idx_get hlt, Option.bind_eq_bind, Option.bind_some]
    unfold gogeom_deflate1_v2
    cases ho : ok1 s c[i] with
    | true =>
      have ih' := ih (i + 1) k (acc ++ c[i].flatten) (tl ++ [((acc.length + c[i].flatten.length : Nat) : Int)]) (by omega) (by omega) (by omega) (by simp only [List.length_append]; omega) (by simp only [List.length_append, List.length_cons, List.length_nil]; omega)
      have et : tl ++ tails acc.length (c[i] :: c.drop (i + 1)) = tl ++ [((acc.length + c[i].flatten.length : Nat) : Int)] ++ tails (acc ++ c[i].flatten).length (c.drop (i + 1)) := by
        rw [List.length_append]; simp [tails]
      rw [h1.1 ho, Bool.true_and, et, ← List.append_assoc]
      simp only [Option.bind_eq_bind, Option.bind_some]
      rw [apd_some (b := 8) (xs := tl) (by simp only [List.length_cons, List.length_nil]; omega) (by simp only [List.length_cons, List.length_nil]; omega), iadd_one (by omega)]
      simp only [Option.bind_some]
      rw [show ((acc ++ c[i].flatten).length : Int) = ((acc.length + c[i].flatten.length : Nat) : Int) from by rw [List.length_append]]
      exact ih'
    | false =>
      obtain ⟨e', he'⟩ := h1.2 ho
      rw [he', Bool.false_and]
      exact ⟨fun h => (by cases h), fun _ => ⟨_, rfl⟩⟩
theorem impl_is (k s : Nat) (hs : s ≤ 9) (c : List (List (List Nat))) (hc : T2 c ≤ 1048576) (hk : 3000000 < k) :
    (ok2 s c = true → impl_Deflate2 k c (s : Int) = some (c.flatten.flatten, tails 0 c, true)) ∧ (ok2 s c = false → ∃ a b, impl_Deflate2 k c (s : Int) = some (a, b, false)) := by
  have hl := t2_flat c
  have h := def2_loop s c hc c.length 0 k [] [] (by omega) (by omega) (by omega) (by simp only [List.length_nil, List.drop_zero]; omega) (by simp only [List.length_nil]; omega)
  rw [List.drop_zero, show ((0 : Nat) : Int) = 0 from rfl, List.nil_append, List.nil_append] at h
  unfold impl_Deflate2 gogeom_DoorDeflate2 gogeom_deflate2
  rw [coords2_is k c hc hk, sbind]
  constructor
  · intro ho
    rw [h.1 ho]
    simp only [Option.bind_eq_bind, Option.bind_some]
    have ht := tails_len c 0
    rw [floats_is k _ (by omega)]
    unfold impl_ints_v2
    rw [apd_some (by simp; omega) (by simp; omega)]
    rfl
  · intro ho
    obtain ⟨e, he⟩ := h.2 ho
    rw [he]
    exact ⟨_, _, rfl⟩
theorem gInts_self {k : Nat} (xs : List Int) (h : xs.length < k) (h2 : xs.length < 9223372036854775807) : laws_gInts k xs xs = some true := by
  have key := loop_any (F := laws_gInts_l1 xs xs) 0 xs.length (fun _ => false) (.inl ()) (.inr ()) (fun k i _ hi => by
    simp only [laws_gInts_l1, laws_gInts_l1s, lt_true hi, br_true, idx_get hi, Option.bind_eq_bind, Option.bind_some, decide_true, Bool.not_true, br_false, Bool.false_eq_true, if_false]
    rw [iadd_one (by omega)]) (fun k => by simp only [laws_gInts_l1, laws_gInts_l1s, lt_false (Nat.lt_irrefl _), br_false]) xs.length 0 k (by omega) (by omega)
  have e : (List.range' 0 xs.length).any (fun _ => false) = false := any_false fun _ _ => rfl
  rw [e] at key
  unfold laws_gInts
  rw [show (!decide ((xs.length : Int) = (xs.length : Int))) = false from by simp, br_false]
  rw [show (0 : Int) = ((0 : Nat) : Int) from rfl, key]
  rfl
theorem main (k : Nat) (hk : 7000000 < k) (c : List (List (List Nat))) (a1 : Int) (hc : T2 c ≤ 1048576) : laws_FnDeflate2 k c a1 = some true := by
  have hl := t2_flat c
  unfold laws_FnDeflate2
  rw [fits5_is k c hc (by omega), sbind, Bool.not_true, br_false]
  have hone : ∃ a b, impl_Deflate2_v2 k ([[[4607182418800017408, 4611686018427387904]]]) 2 = some (a, b, true) := by
    have := (impl_is k 2 (by decide) [[[4607182418800017408, 4611686018427387904]]] (by decide) (by omega)).1 (by decide)
    exact ⟨_, _, this⟩
  have fin : 2 ≤ a1 → a1 ≤ 9 → ∀ b, laws_FnDeflate2_j1 k a1 c b = some true := by
    intro h2 h9 b
    unfold laws_FnDeflate2_j1
    cases b with
    | true => rfl
    | false =>
      rw [br_false]
      obtain ⟨s, rfl⟩ : ∃ s : Nat, a1 = (s : Int) := ⟨a1.toNat, by omega⟩
      obtain ⟨L, hL, hst⟩ : ∃ L : Nat, laws_fLayout k (s : Int) = some (L : Int) ∧ ∀ k, spec_Stride k (L : Int) = some (s : Int) := by
        unfold laws_fLayout
        by_cases e2 : (s : Int) = 2
        · exact ⟨1, by rw [decide_eq_true e2, br_true]; rfl, fun k => stride_is k 1 s (by omega)⟩
        by_cases e3 : (s : Int) = 3
        · exact ⟨2, by rw [decide_eq_false e2, br_false, decide_eq_true e3, br_true]; rfl, fun k => stride_is k 2 s (by omega)⟩
        · exact ⟨s, by rw [decide_eq_false e2, br_false, decide_eq_false e3, br_false], fun k => stride_is k s s (by omega)⟩
      have hf := flats_loop L s hst c hc c.length 0 k [] [] true (by omega) (by omega) (by omega) (by simp only [List.length_nil, List.drop_zero]; omega) (by simp only [List.length_nil]; omega)
      rw [List.drop_zero, show ((0 : Nat) : Int) = 0 from rfl, List.nil_append, List.nil_append, Bool.true_and] at hf
      have hfl : laws_gFlats k (L : Int) 0 c = some (c.flatten.flatten, tails 0 c, ok2 s c) := by
        unfold laws_gFlats
        rw [hf, sbind]; rfl
      obtain ⟨u, v, hu⟩ := hone
      have hi := impl_is k s (by omega) c hc (by omega)
      rw [hL, sbind, hfl, sbind]
      cases ho : ok2 s c with
      | true =>
        have ht := tails_len c 0
        rw [hi.1 ho, sbind, hu, sbind, br_true]
        unfold laws_FnDeflate2_j2
        simp only [beq_self_eq_true, br_true, Bool.not_true, br_false]
        rw [sameFloats_self _ (by omega) (by omega), sbind, br_true, gInts_self _ (by omega) (by omega), sbind]
        rfl
      | false =>
        obtain ⟨a, b, hab⟩ := hi.2 ho
        rw [hab, sbind, hu, sbind, br_true]
        rfl
  unfold laws_fStride laws_fStride_j1
  by_cases h2 : 2 ≤ a1
  · rw [decide_eq_true h2, br_true]
    by_cases h9 : a1 ≤ 9
    · rw [decide_eq_true h9, sbind, Bool.not_true, br_false]
      obtain ⟨b, hb⟩ := coords_tot k c hc (by omega)
      rw [hb, sbind]
      exact fin h2 h9 _
    · rw [decide_eq_false h9, sbind]; rfl
  · rw [decide_eq_false h2, br_false, sbind]; rfl
theorem fact_FnDeflate2 (a0 : List (List (List Nat))) (a1 : Int) {p q : Prop} (g0 : p) (g1 : q) (m0 : (a0.map fun r => (r.map fun p => (p.map fun _ => 1).sum + 1).sum + 1).sum + 1 ≤ 1048576) :
    laws_FnDeflate2 8000000 a0 a1 = some true := by
  refine main 8000000 (by decide) a0 a1 ?_
  have e1 : ∀ p : List Nat, (p.map fun _ => 1).sum = p.length := fun p => by induction p with
    | nil => rfl
    | cons x p ih => simp only [List.map_cons, List.sum_cons, ih, List.length_cons]; omega
  have e2 : (a0.map fun r => (r.map fun p => (p.map fun _ => 1).sum + 1).sum + 1) = a0.map fun r => T1 r + 1 := by
    apply List.map_congr_left
    intro r _
    unfold T1
    congr 2
    apply List.map_congr_left
    intro p _
    rw [e1]
  unfold T2
  rw [e2] at m0
  omega
end Go.Proofs.Ytlipjaacncpaoaa
