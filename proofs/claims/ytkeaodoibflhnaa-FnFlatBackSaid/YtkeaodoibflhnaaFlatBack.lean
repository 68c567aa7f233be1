/-
  A row of whole places that is taken apart and put together again is what it was: the plain statement. Ours.
-/
import Derived.Test.YtkeaodoibflhnaaGoodEnds
import Derived.Test.YtkeaodoibflhnaaSameF
namespace Go.Proofs.Ytkeaodoibflhnaa
open Go.Sx
set_option linter.unusedVariables false
set_option linter.unusedSimpArgs false
set_option maxRecDepth 100000

/-! #### loops that copy, loops that fill -/
theorem copy_gen {α : Type} {F : Nat → (List α × Int) → Option (List α)} (xs : List α) (hl : xs.length ≤ 2147483647) (kmin : Nat)
    (step : ∀ k acc (i : Nat) (hi : i < xs.length), kmin ≤ k → acc.length = i → F (k + 1) (acc, (i : Int)) = F k (acc ++ [xs[i]], ((i + 1 : Nat) : Int)))
    (stop : ∀ k acc, F (k + 1) (acc, (xs.length : Int)) = some acc) : ∀ (n i k : Nat) (acc : List α), xs.length - i = n → n + kmin < k → i ≤ xs.length → acc = xs.take i → F k (acc, (i : Int)) = some xs := by
  intro n
  induction n with
  | zero =>
    intro i k acc hn hk hi ha
    obtain ⟨k, rfl⟩ : ∃ j, k = j + 1 := ⟨k - 1, by omega⟩
    have : i = xs.length := by omega
    subst this
    rw [stop, ha, List.take_length]
  | succ n ih =>
    intro i k acc hn hk hi ha
    obtain ⟨k, rfl⟩ : ∃ j, k = j + 1 := ⟨k - 1, by omega⟩
    have hlt : i < xs.length := by omega
    rw [step k acc i hlt (by omega) (by rw [ha, List.length_take]; omega)]
    exact ih (i + 1) k _ (by omega) (by omega) (by omega) (by rw [ha, List.take_succ_eq_append_getElem hlt])
theorem fill_gen {β : Type} {F : Nat → (Int × List β × Int) → Option (List β)} (N : Nat) (off : Nat → Int) (c : Nat → β) (kmin : Nat)
    (step : ∀ k x2 (j : Nat), j < N → x2.length = N → kmin ≤ k → F (k + 1) (off j, x2, (j : Int)) = F k (off (j + 1), x2.set j (c j), ((j + 1 : Nat) : Int)))
    (stop : ∀ k o x2, F (k + 1) (o, x2, (N : Int)) = some x2) : ∀ (n j k : Nat) (x2 : List β), N - j = n → n + kmin < k → j ≤ N → x2.length = N → (∀ m, m < j → x2[m]? = some (c m)) → F k (off j, x2, (j : Int)) = some ((List.range' 0 N).map c) := by
  intro n
  induction n with
  | zero =>
    intro j k x2 hn hk hj hl hx
    obtain ⟨k, rfl⟩ : ∃ j, k = j + 1 := ⟨k - 1, by omega⟩
    have : j = N := by omega
    subst this
    rw [stop]
    congr 1
    apply List.ext_getElem?
    intro m
    by_cases hm : m < j
    · rw [hx m hm]; simp [hm]
    · rw [List.getElem?_eq_none (by omega), List.getElem?_eq_none (by simp; omega)]
  | succ n ih =>
    intro j k x2 hn hk hj hl hx
    obtain ⟨k, rfl⟩ : ∃ j, k = j + 1 := ⟨k - 1, by omega⟩
    have hlt : j < N := by omega
    rw [step k x2 j hlt hl (by omega)]
    refine ih (j + 1) k _ (by omega) (by omega) (by omega) (by rw [List.length_set]; exact hl) (fun m hm => ?_)
    by_cases hmj : m = j
    · subst hmj; rw [List.getElem?_set_self (by omega)]
    · rw [List.getElem?_set_ne (by omega)]; exact hx m (by omega)

theorem floats_is (k : Nat) (a : List Nat) (h : a.length ≤ 2147483647) : impl_floats k a = some a := by
  unfold impl_floats
  rw [apd_some (by simp; omega) (by simp; omega)]; rfl
theorem plain1_is (k : Nat) (xs : List (List Nat)) (hl : xs.length ≤ 2147483647) (h : ∀ x ∈ xs, x.length ≤ 2147483647) (hk : xs.length < k) : impl_plain1 k xs = some xs := by
  have := copy_gen (F := impl_plain1_l1 xs) xs hl 0 (fun k acc i hi _ ha => by
    simp only [impl_plain1_l1, impl_plain1_l1s, lt_true hi, br_true, idx_get hi, Option.bind_eq_bind, Option.bind_some, floats_is _ _ (h _ (List.getElem_mem hi)), apd_some (b := 24) (xs := acc) (ys := [xs[i]]) (by simp; omega) (by simp; omega), iadd_one (show i < 9223372036854775807 by omega)])
    (fun k acc => by simp only [impl_plain1_l1, impl_plain1_l1s, lt_false (Nat.lt_irrefl _), br_false]) xs.length 0 k [] (by omega) (by omega) (by omega) rfl
  have this' : impl_plain1_l1 xs k ([], 0) = some xs := this
  unfold impl_plain1
  rw [this', sbind]
theorem coords1_is (k : Nat) (xs : List (List Nat)) (hl : xs.length ≤ 2147483647) (h : ∀ x ∈ xs, x.length ≤ 2147483647) (hk : xs.length < k) : impl_coords1 k xs = some xs := by
  have := copy_gen (F := impl_coords1_l1 xs) xs hl 0 (fun k acc i hi _ ha => by
    simp only [impl_coords1_l1, impl_coords1_l1s, lt_true hi, br_true, idx_get hi, Option.bind_eq_bind, Option.bind_some, floats_is _ _ (h _ (List.getElem_mem hi)), apd_some (b := 24) (xs := acc) (ys := [xs[i]]) (by simp; omega) (by simp; omega), iadd_one (show i < 9223372036854775807 by omega)])
    (fun k acc => by simp only [impl_coords1_l1, impl_coords1_l1s, lt_false (Nat.lt_irrefl _), br_false]) xs.length 0 k [] (by omega) (by omega) (by omega) rfl
  have this' : impl_coords1_l1 xs k ([], 0) = some xs := this
  unfold impl_coords1
  rw [this', sbind]
def S1 (xs : List (List Nat)) : Prop := xs.length ≤ 2147483647 ∧ ∀ x ∈ xs, x.length ≤ 2147483647
def S2 (xs : List (List (List Nat))) : Prop := xs.length ≤ 2147483647 ∧ ∀ x ∈ xs, S1 x
def S3 (xs : List (List (List (List Nat)))) : Prop := xs.length ≤ 2147483647 ∧ ∀ x ∈ xs, S2 x
theorem plain2_is (k : Nat) (xs : List (List (List Nat))) (h : S2 xs) (hk : xs.length + 2147483648 < k) : impl_plain2 k xs = some xs := by
  have hl := h.1
  have := copy_gen (F := impl_plain2_l1 xs) xs hl 2147483648 (fun k acc i hi hk ha => by
    have hi1 := h.2 _ (List.getElem_mem hi)
    have h1 := hi1.1
    simp only [impl_plain2_l1, impl_plain2_l1s, lt_true hi, br_true, idx_get hi, Option.bind_eq_bind, Option.bind_some, plain1_is k _ hi1.1 hi1.2 (by omega), apd_some (b := 24) (xs := acc) (ys := [xs[i]]) (by simp; omega) (by simp; omega), iadd_one (show i < 9223372036854775807 by omega)])
    (fun k acc => by simp only [impl_plain2_l1, impl_plain2_l1s, lt_false (Nat.lt_irrefl _), br_false]) xs.length 0 k [] (by omega) (by omega) (by omega) rfl
  have this' : impl_plain2_l1 xs k ([], 0) = some xs := this
  unfold impl_plain2
  rw [this', sbind]
theorem coords2_is (k : Nat) (xs : List (List (List Nat))) (h : S2 xs) (hk : xs.length + 2147483648 < k) : impl_coords2 k xs = some xs := by
  have hl := h.1
  have := copy_gen (F := impl_coords2_l1 xs) xs hl 2147483648 (fun k acc i hi hk ha => by
    have hi1 := h.2 _ (List.getElem_mem hi)
    have h1 := hi1.1
    simp only [impl_coords2_l1, impl_coords2_l1s, lt_true hi, br_true, idx_get hi, Option.bind_eq_bind, Option.bind_some, coords1_is k _ hi1.1 hi1.2 (by omega), apd_some (b := 24) (xs := acc) (ys := [xs[i]]) (by simp; omega) (by simp; omega), iadd_one (show i < 9223372036854775807 by omega)])
    (fun k acc => by simp only [impl_coords2_l1, impl_coords2_l1s, lt_false (Nat.lt_irrefl _), br_false]) xs.length 0 k [] (by omega) (by omega) (by omega) rfl
  have this' : impl_coords2_l1 xs k ([], 0) = some xs := this
  unfold impl_coords2
  rw [this', sbind]
theorem plain3_is (k : Nat) (xs : List (List (List (List Nat)))) (h : S3 xs) (hk : xs.length + 4294967299 < k) : impl_plain3 k xs = some xs := by
  have hl := h.1
  have := copy_gen (F := impl_plain3_l1 xs) xs hl 4294967298 (fun k acc i hi hk ha => by
    have hi1 := h.2 _ (List.getElem_mem hi)
    have h1 := hi1.1
    simp only [impl_plain3_l1, impl_plain3_l1s, lt_true hi, br_true, idx_get hi, Option.bind_eq_bind, Option.bind_some, plain2_is k _ hi1 (by omega), apd_some (b := 24) (xs := acc) (ys := [xs[i]]) (by simp; omega) (by simp; omega), iadd_one (show i < 9223372036854775807 by omega)])
    (fun k acc => by simp only [impl_plain3_l1, impl_plain3_l1s, lt_false (Nat.lt_irrefl _), br_false]) xs.length 0 k [] (by omega) (by omega) (by omega) rfl
  have this' : impl_plain3_l1 xs k ([], 0) = some xs := this
  unfold impl_plain3
  rw [this', sbind]
theorem coords3_is (k : Nat) (xs : List (List (List (List Nat)))) (h : S3 xs) (hk : xs.length + 4294967299 < k) : impl_coords3 k xs = some xs := by
  have hl := h.1
  have := copy_gen (F := impl_coords3_l1 xs) xs hl 4294967298 (fun k acc i hi hk ha => by
    have hi1 := h.2 _ (List.getElem_mem hi)
    have h1 := hi1.1
    simp only [impl_coords3_l1, impl_coords3_l1s, lt_true hi, br_true, idx_get hi, Option.bind_eq_bind, Option.bind_some, coords2_is k _ hi1 (by omega), apd_some (b := 24) (xs := acc) (ys := [xs[i]]) (by simp; omega) (by simp; omega), iadd_one (show i < 9223372036854775807 by omega)])
    (fun k acc => by simp only [impl_coords3_l1, impl_coords3_l1s, lt_false (Nat.lt_irrefl _), br_false]) xs.length 0 k [] (by omega) (by omega) (by omega) rfl
  have this' : impl_coords3_l1 xs k ([], 0) = some xs := this
  unfold impl_coords3
  rw [this', sbind]

/-! #### taken apart -/
def place (a : List Nat) (s f j : Nat) : List Nat := (a.take (f + j * s + s)).drop (f + j * s)
def CK (a : List Nat) (s f n : Nat) : List (List Nat) := (List.range' 0 n).map (place a s f)
theorem place_length {a : List Nat} {s f j : Nat} (h : f + j * s + s ≤ a.length) : (place a s f j).length = s := by
  unfold place; rw [List.length_drop, List.length_take]; omega
theorem mul_step {j n s f L : Nat} (hj : j < n) (h : f + n * s ≤ L) : f + j * s + s ≤ L := by
  have := Nat.mul_le_mul_right s (show j + 1 ≤ n by omega)
  rw [Nat.add_mul, Nat.one_mul] at this; omega
theorem inflate0_is (k : Nat) (a : List Nat) (hl : a.length ≤ 2147483647) (s f : Nat) (hs : s ≤ 9) (h : f + s ≤ a.length) : gogeom_inflate0 k a (f : Int) (iadd .i64 (f : Int) (s : Int)) (s : Int) = some ((a.take (f + s)).drop f) := by
  have e : iadd .i64 (f : Int) (s : Int) = ((f + s : Nat) : Int) := by rw [iadd_i64 (by omega) (by omega)]; omega
  unfold gogeom_inflate0
  rw [e, decide_eq_true rfl, Bool.not_true, br_false, mk_some (by omega) (by omega) (by omega) (by omega), sbind, cut_some (by omega) (by omega) (by omega), sbind]
  unfold cpy
  rw [show ((f + s : Nat) : Int).toNat = f + s from by omega, show (f : Int).toNat = f from by omega, show (s : Int).toNat = s from by omega]
  have hlen : ((a.take (f + s)).drop f).length = s := by rw [List.length_drop, List.length_take]; omega
  have h1 : List.take s ((a.take (f + s)).drop f) = (a.take (f + s)).drop f := List.take_of_length_le (by omega)
  have h2 : List.drop s (List.replicate s (0 : Nat)) = [] := List.drop_of_length_le (by simp)
  rw [List.length_replicate, hlen, h1, h2, List.append_nil]
theorem inflate1_is (k : Nat) (a : List Nat) (hl : a.length ≤ 2147483647) (s f b n : Nat) (hs2 : 2 ≤ s) (hs : s ≤ 9) (hb : b = f + n * s) (h : b ≤ a.length) (hk : a.length < k) : gogeom_inflate1 k a (f : Int) (b : Int) (s : Int) = some (CK a s f n) := by
  have hn : n ≤ a.length := by have := Nat.mul_le_mul_left n hs2; omega
  have hq : iquo .i64 (isub .i64 (b : Int) (f : Int)) (s : Int) = some (n : Int) := by
    rw [isub_i64 (by omega) (by omega), show (b : Int) - (f : Int) = ((n * s : Nat) : Int) from by omega]
    unfold iquo
    rw [if_neg (by omega)]
    have : (((n * s : Nat) : Int)).tdiv (s : Int) = (n : Int) := by
      rw [Int.natCast_mul, Int.mul_tdiv_cancel _ (by omega)]
    rw [this, wrap_i64 (by omega) (by omega)]
  unfold gogeom_inflate1
  rw [hq, sbind, mk_some (by omega) (by omega) (by omega) (by omega), sbind, show (n : Int).toNat = n from by omega]
  have := fill_gen (F := gogeom_inflate1_l1 (List.replicate n ([] : List Nat)) a (s : Int)) n (fun j => ((f + j * s : Nat) : Int)) (place a s f) 0 (fun k x2 j hj hx _ => by
    have hst := mul_step hj (show f + n * s ≤ a.length by omega)
    have hix : idx x2 (j : Int) = some x2[j] := idx_get (by omega)
    have e : iadd .i64 ((f + j * s : Nat) : Int) (s : Int) = ((f + (j + 1) * s : Nat) : Int) := by rw [iadd_i64 (by omega) (by omega), Nat.add_mul, Nat.one_mul]; omega
    have hi0 := inflate0_is k a hl s (f + j * s) hs hst
    rw [e] at hi0
    simp only [gogeom_inflate1_l1, gogeom_inflate1_l1s, lt_true (show j < (List.replicate n ([] : List Nat)).length by simpa using hj), br_true, hi0, Option.bind_eq_bind, Option.bind_some, hix, iadd_one (show j < 9223372036854775807 by omega), e]
    rfl) (fun k o x2 => by
    simp only [gogeom_inflate1_l1, gogeom_inflate1_l1s, lt_false (show ¬ n < (List.replicate n ([] : List Nat)).length by simp), br_false]) n 0 k (List.replicate n []) (by omega) (by omega) (by omega) (by simp) (fun m hm => by omega)
  simp only [Nat.zero_mul, Nat.add_zero] at this
  have this' : gogeom_inflate1_l1 (List.replicate n ([] : List Nat)) a (s : Int) k ((f : Int), List.replicate n [], 0) = some (CK a s f n) := this
  rw [this', sbind]

def num1 (p : Nat) (es : List Int) (s j : Nat) : Nat := (PF p es (j + 1) - PF p es j) / s
def I2 (a : List Nat) (s p : Nat) (es : List Int) : List (List (List Nat)) := (List.range' 0 es.length).map fun j => CK a s (PF p es j) (num1 p es s j)
theorem num1_is {p : Nat} {es : List Int} {s j : Nat} (h : FA p es s j) : PF p es (j + 1) = PF p es j + num1 p es s j * s := by
  unfold num1
  have := Nat.div_mul_cancel (Nat.dvd_of_mod_eq_zero h.2.2)
  have := h.2.1
  omega
theorem inflate2_is (k : Nat) (a : List Nat) (hl : a.length ≤ 2147483647) (s p : Nat) (hs2 : 2 ≤ s) (hs : s ≤ 9) (es : List Int) (he : es.length ≤ 2147483647) (h : ∀ j, j < es.length → FA p es s j) (ht : PF p es es.length ≤ a.length) (hk : es.length + a.length + 1 < k) :
    gogeom_inflate2 k a (p : Int) es (s : Int) = some (I2 a s p es) := by
  unfold gogeom_inflate2
  rw [mk_some (by omega) (by omega) (by omega) (by omega), sbind, show (es.length : Int).toNat = es.length from by omega]
  have := fill_gen (F := gogeom_inflate2_l1 (List.replicate es.length ([] : List (List Nat))) es a (s : Int)) es.length (fun j => (PF p es j : Int)) (fun j => CK a s (PF p es j) (num1 p es s j)) (a.length + 1) (fun k x2 j hj hx hk => by
    obtain ⟨h1, h2, h3⟩ := h j hj
    have hg : es.getD j 0 = es[j] := by simp [List.getD, List.getElem?_eq_getElem hj]
    rw [hg] at h1
    have hle := FA_le h (es.length - (j + 1)) (j + 1) rfl (by omega)
    have hi1 := inflate1_is k a hl s (PF p es j) (PF p es (j + 1)) (num1 p es s j) hs2 hs (num1_is (h j hj)) (by omega) (by omega)
    have hix : idx x2 (j : Int) = some x2[j] := idx_get (by omega)
    simp only [gogeom_inflate2_l1, gogeom_inflate2_l1s, lt_true (show j < (List.replicate es.length ([] : List (List Nat))).length by simpa using hj), br_true, idx_get hj, h1, hi1, Option.bind_eq_bind, Option.bind_some, hix, iadd_one (show j < 9223372036854775807 by omega)]
    rfl) (fun k o x2 => by
    simp only [gogeom_inflate2_l1, gogeom_inflate2_l1s, lt_false (show ¬ es.length < (List.replicate es.length ([] : List (List Nat))).length by simp), br_false]) es.length 0 k (List.replicate es.length []) (by omega) (by omega) (by omega) (by simp) (fun m hm => by omega)
  have this' : gogeom_inflate2_l1 (List.replicate es.length ([] : List (List Nat))) es a (s : Int) k ((p : Int), List.replicate es.length [], 0) = some (I2 a s p es) := this
  rw [this', sbind]
def I3 (a : List Nat) (s : Nat) (xs : List (List Int)) : List (List (List (List Nat))) := (List.range' 0 xs.length).map fun j => I2 a s (QQ xs j) (xs.getD j [])
theorem inflate3_is (k : Nat) (a : List Nat) (hl : a.length ≤ 2147483647) (s : Nat) (hs2 : 2 ≤ s) (hs : s ≤ 9) (xs : List (List Int)) (hx : xs.length ≤ 2147483647) (hxl : ∀ es ∈ xs, es.length ≤ 2147483647) (h : FAA xs s) (ht : QQ xs xs.length ≤ a.length) (hk : 10000000000 < k) :
    gogeom_inflate3 k a 0 xs (s : Int) = some (I3 a s xs) := by
  unfold gogeom_inflate3
  rw [mk_some (by omega) (by omega) (by omega) (by omega), sbind, show (xs.length : Int).toNat = xs.length from by omega]
  have := fill_gen (F := gogeom_inflate3_l1 (List.replicate xs.length ([] : List (List (List Nat)))) xs a (s : Int)) xs.length (fun j => (QQ xs j : Int)) (fun j => I2 a s (QQ xs j) (xs.getD j [])) 4294967299 (fun k x2 j hj hx2 hk => by
    have hg : xs.getD j [] = xs[j] := by simp [List.getD, List.getElem?_eq_getElem hj]
    have hlj : xs[j].length ≤ 2147483647 := hxl _ (List.getElem_mem hj)
    have hle := QQ_le h (xs.length - (j + 1)) (j + 1) rfl (by omega)
    have hq : QQ xs (j + 1) = PF (QQ xs j) xs[j] xs[j].length := by rw [QQ, hg]
    have hF : ∀ m, m < xs[j].length → FA (QQ xs j) xs[j] s m := by have := h j hj; rw [hg] at this; exact this
    have hi2 := inflate2_is k a hl s (QQ xs j) hs2 hs xs[j] hlj hF (by omega) (by omega)
    have hix : idx x2 (j : Int) = some x2[j] := idx_get (by omega)
    have hgoal : gogeom_inflate3_l1 (List.replicate xs.length ([] : List (List (List Nat)))) xs a (s : Int) (k + 1) ((QQ xs j : Int), x2, (j : Int)) = gogeom_inflate3_l1 (List.replicate xs.length ([] : List (List (List Nat)))) xs a (s : Int) k ((QQ xs (j + 1) : Int), x2.set j (I2 a s (QQ xs j) xs[j]), ((j + 1 : Nat) : Int)) := by
      by_cases h0 : 0 < xs[j].length
      · have hlast : idx xs[j] (isub .i64 (xs[j].length : Int) 1) = some (QQ xs (j + 1) : Int) := by
          rw [isub_i64 (by omega) (by omega), show (xs[j].length : Int) - 1 = ((xs[j].length - 1 : Nat) : Int) from by omega, idx_get (show xs[j].length - 1 < xs[j].length by omega)]
          have := (hF (xs[j].length - 1) (by omega)).1
          rw [show xs[j].getD (xs[j].length - 1) 0 = xs[j][xs[j].length - 1] from by simp [List.getD, List.getElem?_eq_getElem (show xs[j].length - 1 < xs[j].length by omega)], show xs[j].length - 1 + 1 = xs[j].length from by omega, ← hq] at this
          rw [this]
        simp only [gogeom_inflate3_l1, gogeom_inflate3_l1s, lt_true (show j < (List.replicate xs.length ([] : List (List (List Nat)))).length by simpa using hj), br_true, idx_get hj, hi2, Option.bind_eq_bind, Option.bind_some, hix, iadd_one (show j < 9223372036854775807 by omega), decide_eq_true (show (0 : Int) < (xs[j].length : Int) by omega), hlast, gogeom_inflate3_j2]
        rfl
      · have hz : xs[j].length = 0 := by omega
        have hq0 : QQ xs (j + 1) = QQ xs j := by rw [hq, hz, PF_zero]
        simp only [gogeom_inflate3_l1, gogeom_inflate3_l1s, lt_true (show j < (List.replicate xs.length ([] : List (List (List Nat)))).length by simpa using hj), br_true, idx_get hj, hi2, Option.bind_eq_bind, Option.bind_some, hix, iadd_one (show j < 9223372036854775807 by omega), decide_eq_false (show ¬ (0 : Int) < (xs[j].length : Int) by omega), br_false, gogeom_inflate3_j2, hq0]
        rfl
    rw [hgoal, hg]) (fun k o x2 => by
    simp only [gogeom_inflate3_l1, gogeom_inflate3_l1s, lt_false (show ¬ xs.length < (List.replicate xs.length ([] : List (List (List Nat)))).length by simp), br_false]) xs.length 0 k (List.replicate xs.length []) (by omega) (by omega) (by omega) (by simp) (fun m hm => by omega)
  have this' : gogeom_inflate3_l1 (List.replicate xs.length ([] : List (List (List Nat)))) xs a (s : Int) k (0, List.replicate xs.length [], 0) = some (I3 a s xs) := this
  rw [this', sbind]

/-! #### put together -/
theorem place_app {a : List Nat} {s f j : Nat} : a.take (f + j * s) ++ place a s f j = a.take (f + (j + 1) * s) := by
  unfold place
  rw [show f + (j + 1) * s = f + j * s + s from by rw [Nat.add_mul, Nat.one_mul]; omega]
  have h1 : a.take (f + j * s) = (a.take (f + j * s + s)).take (f + j * s) := by rw [List.take_take, Nat.min_eq_left (by omega)]
  rw [h1, List.take_append_drop]
theorem def0_is (k : Nat) (x y : List Nat) (s : Nat) (hy : y.length = s) (hx : x.length + y.length ≤ 2147483647) : gogeom_deflate0_v2 k x y (s : Int) = some (.inr (x ++ y)) := by
  unfold gogeom_deflate0_v2
  rw [decide_eq_true (show (y.length : Int) = (s : Int) by omega), Bool.not_true, br_false, apd_some (by omega) (by omega)]
  rfl
theorem def1_loop (a : List Nat) (hl : a.length ≤ 2147483647) (s f n : Nat) (h : f + n * s ≤ a.length) (F : Nat → (List Nat × Int) → Option ((Int × Int) ⊕ List Nat))
    (hF : ∀ k x (i : Nat), F (k + 1) (x, (i : Int)) = br (decide ((i : Int) < ((CK a s f n).length : Int))) ((idx (CK a s f n) (i : Int)) >>= fun r15 => (gogeom_deflate0_v2 k x r15 (s : Int)) >>= fun r21 => match r21 with
      | (.inl y3) => (some (.inl (y3.1, y3.2)))
      | (.inr y3) => (F k (y3, (iadd .i64 (i : Int) 1)))) (some (.inr x))) (hn : n ≤ 2147483647) : ∀ (m j k : Nat), n - j = m → m < k → j ≤ n → F k (a.take (f + j * s), (j : Int)) = some (.inr (a.take (f + n * s))) := by
  have hCl : (CK a s f n).length = n := by simp [CK]
  intro m
  induction m with
  | zero =>
    intro j k hm hk hj
    obtain ⟨k, rfl⟩ : ∃ j, k = j + 1 := ⟨k - 1, by omega⟩
    have : j = n := by omega
    subst this
    rw [hF, lt_false (show ¬ j < (CK a s f j).length by omega), br_false]
  | succ m ih =>
    intro j k hm hk hj
    obtain ⟨k, rfl⟩ : ∃ j, k = j + 1 := ⟨k - 1, by omega⟩
    have hlt : j < (CK a s f n).length := by omega
    have hst := mul_step (show j < n by omega) h
    have hget : (CK a s f n)[j] = place a s f j := by simp [CK]
    have hpl := place_length hst
    rw [hF, lt_true hlt, br_true, idx_get hlt, hget, sbind, def0_is k _ _ s hpl (by rw [hpl, List.length_take]; omega), sbind]
    simp only
    rw [place_app, iadd_one (show j < 9223372036854775807 by omega)]
    exact ih (j + 1) k (by omega) (by omega) (by omega)
theorem def1_0 (k : Nat) (a : List Nat) (hl : a.length ≤ 2147483647) (s n : Nat) (h : n * s ≤ a.length) (hs : 2 ≤ s) (hk : a.length < k) : gogeom_deflate1 k (CK a s 0 n) (s : Int) = some (.inr (CK a s 0 n, a.take (n * s))) := by
  have hn : n ≤ a.length := by have := Nat.mul_le_mul_left n hs; omega
  have := def1_loop a hl s 0 n (by omega) (gogeom_deflate1_l1 (CK a s 0 n) (s : Int)) (fun k x i => rfl) (by omega) n 0 k (by omega) (by omega) (by omega)
  have this' : gogeom_deflate1_l1 (CK a s 0 n) (s : Int) k ([], 0) = some (.inr (a.take (n * s))) := by
    rw [Nat.zero_mul, Nat.zero_add, Nat.zero_add, List.take_zero] at this; exact this
  unfold gogeom_deflate1
  rw [this', sbind]
theorem def1_v3 (k : Nat) (a : List Nat) (hl : a.length ≤ 2147483647) (s f n : Nat) (h : f + n * s ≤ a.length) (hs : 2 ≤ s) (hk : a.length < k) : gogeom_deflate1_v3 k (a.take f) (CK a s f n) (s : Int) = some (.inr (a.take (f + n * s))) := by
  have hn : n ≤ a.length := by have := Nat.mul_le_mul_left n hs; omega
  have := def1_loop a hl s f n h (gogeom_deflate1_v3_l1 (CK a s f n) (s : Int)) (fun k x i => rfl) (by omega) n 0 k (by omega) (by omega) (by omega)
  have this' : gogeom_deflate1_v3_l1 (CK a s f n) (s : Int) k (a.take f, 0) = some (.inr (a.take (f + n * s))) := by
    rw [Nat.zero_mul, Nat.add_zero] at this; exact this
  unfold gogeom_deflate1_v3
  rw [this', sbind]
theorem def2_loop (a : List Nat) (hl : a.length ≤ 2147483647) (s p : Nat) (hs : 2 ≤ s) (es : List Int) (he : es.length ≤ 2147483647) (h : ∀ j, j < es.length → FA p es s j) (ht : PF p es es.length ≤ a.length) (F : Nat → (List Nat × List Int × Int) → Option ((Int × Int) ⊕ (List Nat × List Int)))
    (hF : ∀ k x y (i : Nat), F (k + 1) (x, y, (i : Int)) = br (decide ((i : Int) < ((I2 a s p es).length : Int))) ((idx (I2 a s p es) (i : Int)) >>= fun r18 => (gogeom_deflate1_v3 k x r18 (s : Int)) >>= fun r24 => match r24 with
      | (.inl y3) => (some (.inl (y3.1, y3.2)))
      | (.inr y3) => ((apd 8 y ([(y3.length : Int)])) >>= fun r34 => F k (y3, r34, (iadd .i64 (i : Int) 1)))) (some (.inr (x, y)))) : ∀ (m j k : Nat), es.length - j = m → m + a.length + 1 < k → j ≤ es.length → F k (a.take (PF p es j), es.take j, (j : Int)) = some (.inr (a.take (PF p es es.length), es)) := by
  have hIl : (I2 a s p es).length = es.length := by simp [I2]
  intro m
  induction m with
  | zero =>
    intro j k hm hk hj
    obtain ⟨k, rfl⟩ : ∃ j, k = j + 1 := ⟨k - 1, by omega⟩
    have : j = es.length := by omega
    subst this
    rw [hF, lt_false (show ¬ es.length < (I2 a s p es).length by omega), br_false, List.take_length]
  | succ m ih =>
    intro j k hm hk hj
    obtain ⟨k, rfl⟩ : ∃ j, k = j + 1 := ⟨k - 1, by omega⟩
    have hlt : j < (I2 a s p es).length := by omega
    have hje : j < es.length := by omega
    obtain ⟨h1, h2, h3⟩ := h j hje
    have hg : es.getD j 0 = es[j] := by simp [List.getD, List.getElem?_eq_getElem hje]
    rw [hg] at h1
    have hle := FA_le h (es.length - (j + 1)) (j + 1) rfl (by omega)
    have hget : (I2 a s p es)[j] = CK a s (PF p es j) (num1 p es s j) := by simp [I2]
    have hnum := num1_is (h j hje)
    have hd := def1_v3 k a hl s (PF p es j) (num1 p es s j) (by omega) hs (by omega)
    rw [← hnum] at hd
    rw [hF, lt_true hlt, br_true, idx_get hlt, hget, sbind, hd, sbind]
    simp only
    have hlen : ((a.take (PF p es (j + 1))).length : Int) = es[j] := by rw [List.length_take, h1]; omega
    rw [hlen, apd_some (by rw [List.length_take]; simp; omega) (by rw [List.length_take]; simp; omega), sbind, iadd_one (show j < 9223372036854775807 by omega), ← List.take_succ_eq_append_getElem hje]
    exact ih (j + 1) k (by omega) (by omega) (by omega)
theorem def2_0 (k : Nat) (a : List Nat) (hl : a.length ≤ 2147483647) (s : Nat) (hs : 2 ≤ s) (es : List Int) (he : es.length ≤ 2147483647) (h : ∀ j, j < es.length → FA 0 es s j) (ht : PF 0 es es.length ≤ a.length) (hk : es.length + a.length + 1 < k) : gogeom_deflate2 k (I2 a s 0 es) (s : Int) = some (.inr (I2 a s 0 es, a.take (PF 0 es es.length), es)) := by
  have := def2_loop a hl s 0 hs es he h ht (gogeom_deflate2_l1 (I2 a s 0 es) (s : Int)) (fun k x y i => rfl) es.length 0 k (by omega) hk (by omega)
  have this' : gogeom_deflate2_l1 (I2 a s 0 es) (s : Int) k ([], [], 0) = some (.inr (a.take (PF 0 es es.length), es)) := by
    rw [PF_zero, List.take_zero, List.take_zero] at this; exact this
  unfold gogeom_deflate2
  rw [this', sbind]
theorem def2_v3 (k : Nat) (a : List Nat) (hl : a.length ≤ 2147483647) (s p : Nat) (hs : 2 ≤ s) (es : List Int) (he : es.length ≤ 2147483647) (h : ∀ j, j < es.length → FA p es s j) (ht : PF p es es.length ≤ a.length) (hk : es.length + a.length + 1 < k) : gogeom_deflate2_v3 k (a.take p) (I2 a s p es) (s : Int) = some (.inr (a.take (PF p es es.length), es)) := by
  have := def2_loop a hl s p hs es he h ht (gogeom_deflate2_v3_l1 (I2 a s p es) (s : Int)) (fun k x y i => rfl) es.length 0 k (by omega) hk (by omega)
  have this' : gogeom_deflate2_v3_l1 (I2 a s p es) (s : Int) k (a.take p, [], 0) = some (.inr (a.take (PF p es es.length), es)) := by
    rw [PF_zero, List.take_zero] at this; exact this
  unfold gogeom_deflate2_v3
  rw [this', sbind]
theorem def3_loop (a : List Nat) (hl : a.length ≤ 2147483647) (s : Nat) (hs : 2 ≤ s) (xs : List (List Int)) (hx : xs.length ≤ 2147483647) (hxl : ∀ es ∈ xs, es.length ≤ 2147483647) (h : FAA xs s) (ht : QQ xs xs.length ≤ a.length) : ∀ (m j k : Nat), xs.length - j = m → m + 4294967299 < k → j ≤ xs.length →
    gogeom_deflate3_l1 (I3 a s xs) (s : Int) k (a.take (QQ xs j), xs.take j, (j : Int)) = some (.inr (a.take (QQ xs xs.length), xs)) := by
  have hIl : (I3 a s xs).length = xs.length := by simp [I3]
  intro m
  induction m with
  | zero =>
    intro j k hm hk hj
    obtain ⟨k, rfl⟩ : ∃ j, k = j + 1 := ⟨k - 1, by omega⟩
    have : j = xs.length := by omega
    subst this
    simp only [gogeom_deflate3_l1, gogeom_deflate3_l1s, lt_false (show ¬ xs.length < (I3 a s xs).length by omega), br_false, List.take_length]
  | succ m ih =>
    intro j k hm hk hj
    obtain ⟨k, rfl⟩ : ∃ j, k = j + 1 := ⟨k - 1, by omega⟩
    have hlt : j < (I3 a s xs).length := by omega
    have hje : j < xs.length := by omega
    have hg : xs.getD j [] = xs[j] := by simp [List.getD, List.getElem?_eq_getElem hje]
    have hlj : xs[j].length ≤ 2147483647 := hxl _ (List.getElem_mem hje)
    have hle := QQ_le h (xs.length - (j + 1)) (j + 1) rfl (by omega)
    have hq : QQ xs (j + 1) = PF (QQ xs j) xs[j] xs[j].length := by rw [QQ, hg]
    have hF : ∀ m, m < xs[j].length → FA (QQ xs j) xs[j] s m := by have := h j hje; rw [hg] at this; exact this
    have hget : (I3 a s xs)[j] = I2 a s (QQ xs j) xs[j] := by simp [I3, List.getElem?_eq_getElem hje]
    have hd := def2_v3 k a hl s (QQ xs j) hs xs[j] hlj hF (by omega) (by omega)
    rw [← hq] at hd
    have ha : apd 24 (xs.take j) [xs[j]] = some (xs.take (j + 1)) := by
      rw [apd_some (by rw [List.length_take]; simp; omega) (by rw [List.length_take]; simp; omega), List.take_succ_eq_append_getElem hje]
    have := ih (j + 1) k (by omega) (by omega) (by omega)
    simp only [gogeom_deflate3_l1, gogeom_deflate3_l1s, lt_true hlt, br_true, idx_get hlt, hget, hd, ha, Option.bind_eq_bind, Option.bind_some, iadd_one (show j < 9223372036854775807 by omega)]
    exact this

/-! #### the same -/
theorem gInts_self {k : Nat} (xs : List Int) (h : xs.length < k) (h2 : xs.length < 9223372036854775807) : laws_gInts k xs xs = some true := by
  have key := loop_any (F := laws_gInts_l1 xs xs) 0 xs.length (fun _ => false) (.inl ()) (.inr ()) (fun k i _ hi => by
    simp only [laws_gInts_l1, laws_gInts_l1s, lt_true hi, br_true, idx_get hi, Option.bind_eq_bind, Option.bind_some, decide_true, Bool.not_true, br_false, Bool.false_eq_true, if_false]
    rw [iadd_one (by omega)]) (fun k => by simp only [laws_gInts_l1, laws_gInts_l1s, lt_false (Nat.lt_irrefl _), br_false]) xs.length 0 k (by omega) (by omega)
  have e : (List.range' 0 xs.length).any (fun _ => false) = false := any_false fun _ _ => rfl
  rw [e] at key
  unfold laws_gInts
  rw [show (!decide ((xs.length : Int) = (xs.length : Int))) = false from by simp, br_false]
  rw [show (0 : Int) = ((0 : Nat) : Int) from rfl, key]
  rfl
theorem gIntss_self {k : Nat} (xs : List (List Int)) (hx : xs.length ≤ 2147483647) (hxl : ∀ es ∈ xs, es.length ≤ 2147483647) (h : xs.length + 2147483650 < k) : laws_gIntss k xs xs = some true := by
  have key := loop_any (F := laws_gIntss_l1 xs xs) 2147483649 xs.length (fun _ => false) (.inl ()) (.inr ()) (fun k i hk hi => by
    have hl := hxl _ (List.getElem_mem hi)
    simp only [laws_gIntss_l1, laws_gIntss_l1s, lt_true hi, br_true, idx_get hi, Option.bind_eq_bind, Option.bind_some, gInts_self (k := k) xs[i] (by omega) (by omega), Bool.not_true, br_false, Bool.false_eq_true, if_false]
    rw [iadd_one (by omega)]) (fun k => by simp only [laws_gIntss_l1, laws_gIntss_l1s, lt_false (Nat.lt_irrefl _), br_false]) xs.length 0 k (by omega) (by omega)
  have e : (List.range' 0 xs.length).any (fun _ => false) = false := any_false fun _ _ => rfl
  rw [e] at key
  unfold laws_gIntss
  rw [show (!decide ((xs.length : Int) = (xs.length : Int))) = false from by simp, br_false]
  rw [show (0 : Int) = ((0 : Nat) : Int) from rfl, key]
  rfl

/-! #### sizes -/
theorem CK_S1 {a : List Nat} {s f n : Nat} (h : f + n * s ≤ a.length) (hs : 2 ≤ s) (hs9 : s ≤ 9) (hl : a.length ≤ 2147483647) : S1 (CK a s f n) := by
  have hn : n ≤ a.length := by have := Nat.mul_le_mul_left n hs; omega
  refine ⟨by simp [CK]; omega, fun x hx => ?_⟩
  simp only [CK, List.mem_map, List.mem_range'_1] at hx
  obtain ⟨j, hj, rfl⟩ := hx
  rw [place_length (mul_step (by omega) h)]; omega
theorem I2_S2 {a : List Nat} {s p : Nat} {es : List Int} (hs : 2 ≤ s) (hs9 : s ≤ 9) (hl : a.length ≤ 2147483647) (he : es.length ≤ 2147483647) (h : ∀ j, j < es.length → FA p es s j) (ht : PF p es es.length ≤ a.length) : S2 (I2 a s p es) := by
  refine ⟨by simp [I2]; omega, fun x hx => ?_⟩
  simp only [I2, List.mem_map, List.mem_range'_1] at hx
  obtain ⟨j, hj, rfl⟩ := hx
  have hnum := num1_is (h j (by omega))
  have hle := FA_le h (es.length - (j + 1)) (j + 1) rfl (by omega)
  exact CK_S1 (by omega) hs hs9 hl
theorem I3_S3 {a : List Nat} {s : Nat} {xs : List (List Int)} (hs : 2 ≤ s) (hs9 : s ≤ 9) (hl : a.length ≤ 2147483647) (hx : xs.length ≤ 2147483647) (hxl : ∀ es ∈ xs, es.length ≤ 2147483647) (h : FAA xs s) (ht : QQ xs xs.length ≤ a.length) : S3 (I3 a s xs) := by
  refine ⟨by simp [I3]; omega, fun x hx' => ?_⟩
  simp only [I3, List.mem_map, List.mem_range'_1] at hx'
  obtain ⟨j, hj, rfl⟩ := hx'
  have hje : j < xs.length := by omega
  have hg : xs.getD j [] = xs[j] := by simp [List.getD, List.getElem?_eq_getElem hje]
  have hle := QQ_le h (xs.length - (j + 1)) (j + 1) rfl (by omega)
  have hq : QQ xs (j + 1) = PF (QQ xs j) (xs.getD j []) (xs.getD j []).length := by rw [QQ]
  exact I2_S2 hs hs9 hl (by rw [hg]; exact hxl _ (List.getElem_mem hje)) (h j hje) (by omega)

theorem ints_is (k : Nat) (a : List Int) (h : a.length ≤ 2147483647) : impl_ints_v2 k a = some a := by
  unfold impl_ints_v2
  rw [apd_some (by simp; omega) (by simp; omega)]; rfl
theorem intss_is (k : Nat) (xs : List (List Int)) (hl : xs.length ≤ 2147483647) (h : ∀ x ∈ xs, x.length ≤ 2147483647) (hk : xs.length < k) : impl_intss_v2 k xs = some xs := by
  have := copy_gen (F := impl_intss_v2_l1 xs) xs hl 0 (fun k acc i hi _ ha => by
    simp only [impl_intss_v2_l1, impl_intss_v2_l1s, lt_true hi, br_true, idx_get hi, Option.bind_eq_bind, Option.bind_some, ints_is _ _ (h _ (List.getElem_mem hi)), apd_some (b := 24) (xs := acc) (ys := [xs[i]]) (by simp; omega) (by simp; omega), iadd_one (show i < 9223372036854775807 by omega)])
    (fun k acc => by simp only [impl_intss_v2_l1, impl_intss_v2_l1s, lt_false (Nat.lt_irrefl _), br_false]) xs.length 0 k [] (by omega) (by omega) (by omega) rfl
  have this' : impl_intss_v2_l1 xs k ([], 0) = some xs := this
  unfold impl_intss_v2
  rw [this', sbind]

theorem layout_is (k : Nat) (s : Nat) (h2 : 2 ≤ s) (h9 : s ≤ 9) : ∃ L, laws_fLayout k (s : Int) = some L ∧ stri L = (s : Int) ∧ 1 ≤ L ∧ L ≤ 9 := by
  unfold laws_fLayout
  by_cases e2 : (s : Int) = 2
  · exact ⟨1, by rw [decide_eq_true e2, br_true], by rw [e2]; rfl, by decide, by decide⟩
  by_cases e3 : (s : Int) = 3
  · exact ⟨2, by rw [decide_eq_false e2, br_false, decide_eq_true e3, br_true], by rw [e3]; rfl, by decide, by decide⟩
  refine ⟨(s : Int), ?_, ?_, by omega, by omega⟩
  · rw [decide_eq_false e2, br_false, decide_eq_false e3, br_false]
  · unfold stri; rw [if_neg (by omega), if_neg (by omega), if_neg (by omega)]
theorem fits3_is (xs : List (List Int)) (hm : xs.length ≤ maxLen) (k : Nat) (hk : xs.length < k) : ∃ b, laws_zzFits3 k xs = some b ∧ (b = true → xs.length ≤ 2147483647 ∧ ∀ x ∈ xs, x.length ≤ 2147483647) := by
  unfold laws_zzFits3
  by_cases h : 2147483647 < (xs.length : Int)
  · rw [decide_eq_true h, br_true]; exact ⟨false, rfl, fun h => by cases h⟩
  rw [decide_eq_false h, br_false]
  have key : ∀ (n k j : Nat), xs.length - j = n → n < k → j ≤ xs.length → ∃ y, laws_zzFits3_l1 xs k (j : Int) = some y ∧ (y = .inr () → ∀ i x, j ≤ i → xs[i]? = some x → x.length ≤ 2147483647) := by
    intro n
    induction n with
    | zero =>
      intro k j hn hk hj
      obtain ⟨k, rfl⟩ : ∃ j, k = j + 1 := ⟨k - 1, by omega⟩
      exact ⟨.inr (), by simp only [laws_zzFits3_l1, laws_zzFits3_l1s, lt_false (show ¬ j < xs.length by omega), br_false], fun _ i x h1 h2 => by rw [List.getElem?_eq_none (by omega)] at h2; cases h2⟩
    | succ n ih =>
      intro k j hn hk hj
      obtain ⟨k, rfl⟩ : ∃ j, k = j + 1 := ⟨k - 1, by omega⟩
      have hlt : j < xs.length := by omega
      obtain ⟨y, y1, y2⟩ := ih k (j + 1) (by omega) (by omega) (by omega)
      by_cases hb : 2147483647 < (xs[j].length : Int)
      · refine ⟨.inl (), ?_, fun h => by cases h⟩
        simp only [laws_zzFits3_l1, laws_zzFits3_l1s, lt_true hlt, br_true, idx_get hlt, Option.bind_eq_bind, Option.bind_some, decide_eq_true hb]
      · refine ⟨y, ?_, fun h' i x h1 h2 => ?_⟩
        · simp only [laws_zzFits3_l1, laws_zzFits3_l1s, lt_true hlt, br_true, br_false, idx_get hlt, Option.bind_eq_bind, Option.bind_some, decide_eq_false hb, iadd_one (show j < 9223372036854775807 by omega), y1]
        · by_cases hi : i = j
          · subst hi
            rw [List.getElem?_eq_getElem hlt] at h2
            cases h2
            omega
          · exact y2 h' i x (by omega) h2
  obtain ⟨y, y1, y2⟩ := key xs.length k 0 (by omega) hk (by omega)
  have y1' : laws_zzFits3_l1 xs k 0 = some y := y1
  rw [y1', sbind]
  cases y with
  | inl u => exact ⟨false, rfl, fun h => by cases h⟩
  | inr u =>
    refine ⟨true, rfl, fun _ => ⟨by omega, fun x hx => ?_⟩⟩
    obtain ⟨i, hi⟩ := List.mem_iff_getElem?.1 hx
    exact y2 rfl i x (by omega) hi

theorem fact_FnFlatBack (a0 : List Nat) (a1 : List Int) (a2 : List (List Int)) (a3 : Int) {p : Prop} (g0 : a0.length ≤ maxLen ∧ ∀ x ∈ a0, x < 18446744073709551616) (g1 : a1.length ≤ maxLen ∧ ∀ x ∈ a1, IntKind.min .i64 ≤ x ∧ x ≤ IntKind.max .i64)
    (g2 : a2.length ≤ maxLen ∧ ∀ x ∈ a2, x.length ≤ maxLen ∧ ∀ y ∈ x, IntKind.min .i64 ≤ y ∧ y ≤ IntKind.max .i64) (g3 : p) : ∃ k, laws_FnFlatBack k a0 a1 a2 a3 = some true := by
  by_cases hst : 2 ≤ a3 ∧ a3 ≤ 9
  case neg =>
    -- no stride: nothing is asked
    refine ⟨a2.length + 5, ?_⟩
    have hfs : ∀ k, laws_fStride k a3 = some false := fun k => by
      unfold laws_fStride laws_fStride_j1
      by_cases h2 : 2 ≤ a3
      · rw [decide_eq_true h2, br_true, decide_eq_false (by omega)]
      · rw [decide_eq_false h2, br_false]
    have hj2 : ∀ b, laws_FnFlatBack_j2 (a2.length + 5) a0 a3 a1 a2 b = some true := fun b => by
      unfold laws_FnFlatBack_j2
      cases b
      · rw [br_false]
        unfold laws_fRow laws_fRows laws_fRowss
        rw [hfs]
        rfl
      · rfl
    obtain ⟨b, hb, _⟩ := fits3_is a2 g2.1 (a2.length + 5) (by omega)
    have hj1 : ∀ b, laws_FnFlatBack_j1 (a2.length + 5) a0 a3 a1 a2 b = some true := fun b' => by
      unfold laws_FnFlatBack_j1
      cases b'
      · rw [br_false, hb, sbind]; exact hj2 _
      · rw [br_true]; exact hj2 _
    unfold laws_FnFlatBack
    rw [hj1, hj1, br_same]
  obtain ⟨s, rfl⟩ := Int.eq_ofNat_of_zero_le (show 0 ≤ a3 by omega)
  obtain ⟨L, hL0, hL, hL1, hL9⟩ := layout_is 0 s (by omega) (by omega)
  have hLk : ∀ k, laws_fLayout k (s : Int) = some L := fun k => hL0
  have ok : ∀ (x0 : Int) (x4 : List Int) (x5 : List (List Int)), 0 ≤ x0 → x0 ≤ 8 → (x4.length ≤ maxLen ∧ ∀ y ∈ x4, IntKind.min .i64 ≤ y ∧ y ≤ IntKind.max .i64) → (x5.length ≤ maxLen ∧ ∀ x ∈ x5, x.length ≤ maxLen ∧ ∀ y ∈ x, IntKind.min .i64 ≤ y ∧ y ≤ IntKind.max .i64) → (T27.mk x0 L 0 a0 x4 x5 []).Ok :=
    fun x0 x4 x5 h1 h2 h4 h5 => T27.Ok.mk (by rw [kmin, kmax]; omega) (by rw [kmin, kmax]; omega) (by rw [kmin, kmax]; omega) g0 h4 h5 (by simp [maxLen]) (fun y hy => by cases hy)
  have nil4 : (([] : List Int).length ≤ maxLen ∧ ∀ y ∈ ([] : List Int), IntKind.min .i64 ≤ y ∧ y ≤ IntKind.max .i64) := ⟨by simp [maxLen], fun y hy => by cases hy⟩
  have nil5 : (([] : List (List Int)).length ≤ maxLen ∧ ∀ x ∈ ([] : List (List Int)), x.length ≤ maxLen ∧ ∀ y ∈ x, IntKind.min .i64 ≤ y ∧ y ≤ IntKind.max .i64) := ⟨by simp [maxLen], fun y hy => by cases hy⟩
  obtain ⟨K1, k1⟩ := gGood_is (ok 8 [] [] (by omega) (by omega) nil4 nil5)
  obtain ⟨K2, k2⟩ := gGood_is (ok 3 a1 [] (by omega) (by omega) g1 nil5)
  obtain ⟨K3, k3⟩ := gGood_is (ok 6 [] a2 (by omega) (by omega) nil4 g2)
  obtain ⟨M, hM⟩ : ∃ M, K1 + K2 + K3 + a2.length + 50000000000 = M := ⟨_, rfl⟩
  refine ⟨M, ?_⟩
  obtain ⟨b1, q1, w1⟩ := k1 M (by omega)
  obtain ⟨b2, q2, w2⟩ := k2 M (by omega)
  obtain ⟨b3, q3, w3⟩ := k3 M (by omega)
  have hfs : laws_fStride M (s : Int) = some true := by
    unfold laws_fStride laws_fStride_j1
    rw [decide_eq_true hst.1, br_true, decide_eq_true hst.2]
  unfold laws_FnFlatBack
  by_cases h0 : 2147483647 < (a0.length : Int)
  · rw [decide_eq_true h0, br_true]; rfl
  rw [decide_eq_false h0, br_false]
  unfold laws_FnFlatBack_j1
  by_cases h1 : 2147483647 < (a1.length : Int)
  · rw [decide_eq_true h1, br_true]; rfl
  rw [decide_eq_false h1, br_false]
  obtain ⟨t, t1, t2⟩ := fits3_is a2 g2.1 M (by omega)
  rw [t1, sbind]
  unfold laws_FnFlatBack_j2
  cases t
  case false => rfl
  obtain ⟨hx, hxl⟩ := t2 rfl
  rw [Bool.not_true, br_false]
  unfold laws_fRow laws_fRows laws_fRowss
  simp only [hfs, hLk, q1, q2, q3, sbind, Bool.not_true, br_false]
  unfold laws_FnFlatBack_j3
  cases b1
  case false => rfl
  rw [Bool.not_true, br_false]
  cases b2
  case false => rfl
  rw [Bool.not_true, br_false]
  unfold laws_FnFlatBack_j4
  cases b3
  case false => rfl
  rw [Bool.not_true, br_false]
  obtain ⟨j2, e2⟩ := w2 rfl
  obtain ⟨j3, e3⟩ := w3 rfl
  have hs2 : 2 ≤ s := by omega
  have hs9 : s ≤ 9 := by omega
  have hl0 : a0.length ≤ 2147483647 := by omega
  have hl1 : a1.length ≤ 2147483647 := by omega
  obtain ⟨hm, hge⟩ := good_rows (.inl rfl) hL hs2 e2
  obtain ⟨z1, z2⟩ := goodEnds_inv a1 s hs2 0 g1.2 hl1 j2 _ 0 rfl (by omega) hge
  obtain ⟨_, hge3⟩ := good_polys hL hs2 e3
  obtain ⟨_, hz⟩ := good6_inv a2 s hs2 (fun es he x hx => (g2.2 es he).2 x hx) hxl hx j3 0 0 _ true hge3 (by omega)
  obtain ⟨y1, y2⟩ := hz rfl (by omega)
  have hF : FAA a2 s := fun j hj m hm => y2 j (by omega) hj m hm
  have p1 : PF 0 a1 a1.length = a0.length := by omega
  have p2 : QQ a2 a2.length = a0.length := by omega
  obtain ⟨T, hT⟩ : ∃ T, a0.length = T * s := ⟨a0.length / s, (Nat.div_mul_cancel (Nat.dvd_of_mod_eq_zero hm)).symm⟩
  have c1 := CK_S1 (a := a0) (s := s) (f := 0) (n := T) (by omega) hs2 hs9 hl0
  have c2 := I2_S2 (a := a0) hs2 hs9 hl0 hl1 z2 (by omega)
  have c3 := I3_S3 (a := a0) hs2 hs9 hl0 hx hxl hF (by omega)
  have f1 : impl_Inflate1 M a0 (s : Int) = some (CK a0 s 0 T, true) := by
    have := inflate1_is M a0 hl0 s 0 a0.length T hs2 hs9 (by omega) (Nat.le_refl _) (by omega)
    unfold impl_Inflate1 gogeom_DoorInflate1
    rw [show (0 : Int) = ((0 : Nat) : Int) from rfl, this]
    simp only [sbind]
    rw [plain1_is M _ c1.1 c1.2 (by have := c1.1; omega), sbind]
  have f2 : impl_Inflate2 M a0 a1 (s : Int) = some (I2 a0 s 0 a1, true) := by
    have := inflate2_is M a0 hl0 s 0 hs2 hs9 a1 hl1 z2 (by omega) (by omega)
    unfold impl_Inflate2 gogeom_DoorInflate2
    rw [show (0 : Int) = ((0 : Nat) : Int) from rfl, this]
    simp only [sbind]
    rw [plain2_is M _ c2 (by have := c2.1; omega), sbind]
  have f3 : impl_Inflate3 M a0 a2 (s : Int) = some (I3 a0 s a2, true) := by
    have := inflate3_is M a0 hl0 s hs2 hs9 a2 hx hxl hF (by omega) (by omega)
    unfold impl_Inflate3 gogeom_DoorInflate3
    rw [this]
    simp only [sbind]
    rw [plain3_is M _ c3 (by have := c3.1; omega), sbind]
  have d1 : impl_Deflate1 M (CK a0 s 0 T) (s : Int) = some (a0, true) := by
    have := def1_0 M a0 hl0 s T (by omega) hs2 (by omega)
    rw [← hT, List.take_length] at this
    unfold impl_Deflate1 gogeom_DoorDeflate1
    rw [coords1_is M _ c1.1 c1.2 (by have := c1.1; omega), sbind, this]
    simp only [sbind]
    rw [floats_is M a0 hl0, sbind]
  have d2 : impl_Deflate2 M (I2 a0 s 0 a1) (s : Int) = some (a0, a1, true) := by
    have := def2_0 M a0 hl0 s hs2 a1 hl1 z2 (by omega) (by omega)
    rw [p1, List.take_length] at this
    unfold impl_Deflate2 gogeom_DoorDeflate2
    rw [coords2_is M _ c2 (by have := c2.1; omega), sbind, this]
    simp only [sbind]
    rw [floats_is M a0 hl0, sbind, ints_is M a1 hl1, sbind]
  have d3 : impl_Deflate3 M (I3 a0 s a2) (s : Int) = some (a0, a2, true) := by
    have := def3_loop a0 hl0 s hs2 a2 hx hxl hF (by omega) a2.length 0 M (by omega) (by omega) (by omega)
    have this' : gogeom_deflate3_l1 (I3 a0 s a2) (s : Int) M ([], [], 0) = some (.inr (a0, a2)) := by
      rw [p2, List.take_length] at this; exact this
    unfold impl_Deflate3 gogeom_DoorDeflate3 gogeom_deflate3
    rw [coords3_is M _ c3 (by have := c3.1; omega), sbind, this']
    simp only [sbind]
    rw [floats_is M a0 hl0, sbind, intss_is M a2 hx hxl (by omega), sbind]
  rw [f1, f2, f3]
  simp only [sbind, d1, d2, d3, br_true, laws_FnFlatBack_j5, laws_FnFlatBack_j6, laws_FnFlatBack_j7, laws_FnFlatBack_j8, laws_FnFlatBack_j9, laws_FnFlatBack_j10, laws_FnFlatBack_j11, laws_FnFlatBack_j12, laws_FnFlatBack_j13, laws_FnFlatBack_j14, sameFloats_self (k := M) a0 (by omega) (by omega), gInts_self (k := M) a1 (by omega) (by omega), gIntss_self (k := M) a2 hx hxl (by omega)]
end Go.Proofs.Ytkeaodoibflhnaa
