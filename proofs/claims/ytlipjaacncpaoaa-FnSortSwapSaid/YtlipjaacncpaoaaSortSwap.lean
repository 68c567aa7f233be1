/-
  Swapping two places of a row: the plain statement. Ours.
-/
import Derived.Test.YtlipjaacncpaoaaSameF
namespace Go.Proofs.Ytlipjaacncpaoaa
open Go.Sx
set_option linter.unusedVariables false
set_option linter.unusedSimpArgs false
set_option maxRecDepth 100000

/-! #### lists by their numbers -/
theorem getD_set {xs : List Nat} {m i : Nat} {v : Nat} (hm : m < xs.length) : (xs.set m v).getD i 0 = if m = i then v else xs.getD i 0 := by
  simp only [List.getD_eq_getElem?_getD, List.getElem?_set]
  by_cases h : m = i
  · subst h; simp [hm]
  · simp [h]
theorem idx_getD {xs : List Nat} {i : Int} (h0 : 0 ≤ i) (h1 : i.toNat < xs.length) : idx xs i = some (xs.getD i.toNat 0) := by
  unfold idx
  rw [if_pos h0, List.getElem?_eq_getElem h1, List.getD_eq_getElem?_getD, List.getElem?_eq_getElem h1]; rfl
theorem eq_of_getD {xs ys : List Nat} (hl : xs.length = ys.length) (h : ∀ p, p < xs.length → xs.getD p 0 = ys.getD p 0) : xs = ys := by
  refine List.ext_getElem hl fun p h1 h2 => ?_
  have := h p h1
  simp only [List.getD_eq_getElem?_getD, List.getElem?_eq_getElem h1, List.getElem?_eq_getElem h2, Option.getD_some] at this
  exact this
theorem cpat_len {xs zs : List Nat} {lo m : Nat} (h : lo + m ≤ xs.length) : (cpat xs lo m zs).length = xs.length := by
  have e5 : (cpat xs lo m zs).length = min lo xs.length + min m zs.length + (xs.length - (lo + Nat.min zs.length m)) := by simp [cpat]; omega
  have e6 : Nat.min zs.length m = min m zs.length := Nat.min_comm _ _
  rw [e5, e6]; omega
theorem cpat_getD {xs zs : List Nat} {lo m p : Nat} (h : lo + m ≤ xs.length) (hz : zs.length ≤ m) : (cpat xs lo m zs).getD p 0 = if lo ≤ p ∧ p < lo + zs.length then zs.getD (p - lo) 0 else xs.getD p 0 := by
  unfold cpat
  have e6 : Nat.min zs.length m = zs.length := Nat.min_eq_left hz
  rw [e6, List.take_of_length_le hz]
  simp only [List.getD_eq_getElem?_getD]
  have h1 : (xs.take lo).length = lo := by simp; omega
  by_cases c1 : p < lo
  · rw [if_neg (by omega), List.append_assoc, List.getElem?_append_left (by omega), List.getElem?_take, if_pos c1]
  · by_cases c2 : p < lo + zs.length
    · rw [if_pos (by omega), List.append_assoc, List.getElem?_append_right (by omega), h1, List.getElem?_append_left (by omega)]
    · rw [if_neg (by omega), List.getElem?_append_right (by simp; omega), List.getElem?_drop]
      congr 2
      simp; omega
theorem sub_getD {xs : List Nat} {lo m p : Nat} (h : lo + m ≤ xs.length) (hp : p < m) : ((xs.take (lo + m)).drop lo).getD p 0 = xs.getD (lo + p) 0 := by
  simp only [List.getD_eq_getElem?_getD, List.getElem?_drop, List.getElem?_take]
  rw [if_pos (by omega)]
theorem cut_sub {xs : List Nat} {lo hi : Int} (h0 : 0 ≤ lo) (h1 : lo ≤ hi) (h2 : hi ≤ xs.length) : cut xs lo hi = some ((xs.take hi.toNat).drop lo.toNat) := by
  unfold cut
  rw [if_pos ⟨h0, h1, h2⟩]

/-! #### the swap -/
/-- the numbers when so many of both places have been exchanged -/
def sw (xs : List Nat) (I J t p : Nat) : Nat := if I ≤ p ∧ p < I + t then xs.getD (J + (p - I)) 0 else if J ≤ p ∧ p < J + t then xs.getD (I + (p - J)) 0 else xs.getD p 0
theorem sw_step {xs : List Nat} {I J S t : Nat} (hd : I = J ∨ I + S ≤ J ∨ J + S ≤ I) (ht : t < S) (p : Nat) : sw xs I J (t + 1) p = if J + t = p then xs.getD (I + t) 0 else if I + t = p then xs.getD (J + t) 0 else sw xs I J t p := by
  unfold sw
  by_cases c1 : J + t = p
  · subst c1
    rw [if_pos rfl]
    rcases hd with rfl | h | h
    · rw [if_pos (by omega)]; congr 1; omega
    · rw [if_neg (by omega), if_pos (by omega)]; congr 1; omega
    · rw [if_neg (by omega), if_pos (by omega)]; congr 1; omega
  · rw [if_neg c1]
    by_cases c2 : I + t = p
    · subst c2
      rw [if_pos rfl, if_pos (by omega)]; congr 1; omega
    · rw [if_neg c2]
      by_cases c3 : I ≤ p ∧ p < I + t
      · rw [if_pos (by omega), if_pos c3]
      · rw [if_neg (by omega), if_neg c3]
        by_cases c4 : J ≤ p ∧ p < J + t
        · rw [if_pos (by omega), if_pos c4]
        · rw [if_neg (by omega), if_neg c4]
theorem sw_at {xs : List Nat} {I J S t : Nat} (hd : I = J ∨ I + S ≤ J ∨ J + S ≤ I) (ht : t < S) : sw xs I J t (I + t) = xs.getD (I + t) 0 ∧ sw xs I J t (J + t) = xs.getD (J + t) 0 := by
  unfold sw
  constructor
  · rw [if_neg (by omega), if_neg (by omega)]
  · rw [if_neg (by omega), if_neg (by omega)]
theorem swap_loop (a : List Nat) {i j S I J : Nat} (hI : i * S = I) (hJ : j * S = J) (hIl : I + S ≤ a.length) (hJl : J + S ≤ a.length) (hl : a.length ≤ 1000) (hi : i < 100000) (hj : j < 100000) (hS : S < 100) (hd : I = J ∨ I + S ≤ J ∨ J + S ≤ I) : ∀ (d t k : Nat) (x : List Nat), t + d = S → d < k → x.length = a.length → (∀ p, x.getD p 0 = sw a I J t p) →
    ∃ y, sorting_FlatCoord_Swap_l1 (S : Int) (j : Int) (i : Int) k (x, (t : Int)) = some y ∧ y.length = a.length ∧ ∀ p, y.getD p 0 = sw a I J S p := by
  intro d
  induction d with
  | zero =>
    intro t k x htd hk hxl hx
    obtain ⟨k, rfl⟩ : ∃ f, k = f + 1 := ⟨k - 1, by omega⟩
    obtain rfl : t = S := by omega
    refine ⟨x, ?_, hxl, hx⟩
    rw [sorting_FlatCoord_Swap_l1, sorting_FlatCoord_Swap_l1s]
    dsimp only
    rw [decide_eq_false (by omega), br_false]
  | succ d ih =>
    intro t k x htd hk hxl hx
    obtain ⟨k, rfl⟩ : ∃ f, k = f + 1 := ⟨k - 1, by omega⟩
    have m1 : imul .i64 (i : Int) (S : Int) = (I : Int) := by
      rw [imul_i64] <;> (rw [show (i : Int) * (S : Int) = ((i * S : Nat) : Int) by push_cast; rfl, hI]); omega
      omega
    have m2 : imul .i64 (j : Int) (S : Int) = (J : Int) := by
      rw [imul_i64] <;> (rw [show (j : Int) * (S : Int) = ((j * S : Nat) : Int) by push_cast; rfl, hJ]); omega
      omega
    have a1 : iadd .i64 (I : Int) (t : Int) = ((I + t : Nat) : Int) := by rw [iadd_i64 (by omega) (by omega)]; push_cast; rfl
    have a2 : iadd .i64 (J : Int) (t : Int) = ((J + t : Nat) : Int) := by rw [iadd_i64 (by omega) (by omega)]; push_cast; rfl
    have a3 : iadd .i64 (t : Int) 1 = ((t + 1 : Nat) : Int) := by rw [iadd_i64 (by omega) (by omega)]; push_cast; rfl
    have n1 : ((I + t : Nat) : Int).toNat = I + t := by omega
    have n2 : ((J + t : Nat) : Int).toNat = J + t := by omega
    have e1 : idx x ((J + t : Nat) : Int) = some (a.getD (J + t) 0) := by
      rw [idx_getD (by omega) (by omega), n2, hx, (sw_at hd (by omega)).2]
    have e2 : idx x ((I + t : Nat) : Int) = some (a.getD (I + t) 0) := by
      rw [idx_getD (by omega) (by omega), n1, hx, (sw_at hd (by omega)).1]
    obtain ⟨y, y1, y2, y3⟩ := ih (t + 1) k ((x.set (I + t) (a.getD (J + t) 0)).set (J + t) (a.getD (I + t) 0)) (by omega) (by omega) (by simpa using hxl) (fun p => by
      rw [getD_set (by simp; omega), getD_set (by omega), sw_step hd (by omega), hx])
    refine ⟨y, ?_, y2, y3⟩
    rw [sorting_FlatCoord_Swap_l1, sorting_FlatCoord_Swap_l1s]
    dsimp only
    rw [decide_eq_true (by omega), br_true, m1, m2, a1, a2, e1, sbind, e2, sbind, sbind, n1]
    rw [idx_getD (by omega) (by rw [List.length_set]; omega), sbind, n2, a3]
    exact y1

/-! #### the law -/
theorem stride_is (k : Nat) (a : Int) : ∃ s, spec_Stride k a = some s ∧ (1 ≤ a → a ≤ 9 → gogeom_Layout_Stride k a = some s) ∧ (1 ≤ a → 2 ≤ s) ∧ (a ≤ 9 → s ≤ 9) := by
  unfold spec_Stride gogeom_Layout_Stride
  by_cases h1 : a < 1
  · exact ⟨0, by rw [decide_eq_true h1, br_true], fun h => by omega, fun h => by omega, fun _ => by omega⟩
  by_cases h2 : a = 1
  · subst h2; exact ⟨2, rfl, fun _ _ => rfl, fun _ => by omega, fun _ => by omega⟩
  by_cases h3 : a = 2
  · subst h3; exact ⟨3, rfl, fun _ _ => rfl, fun _ => by omega, fun _ => by omega⟩
  by_cases h4 : a = 3
  · subst h4; exact ⟨3, rfl, fun _ _ => rfl, fun _ => by omega, fun _ => by omega⟩
  have h0 : ¬ a = 0 := by omega
  refine ⟨a, ?_, fun _ _ => ?_, fun _ => by omega, fun h => h⟩
  · rw [decide_eq_false h1, br_false, decide_eq_false h2, br_false, decide_eq_false h3, br_false, decide_eq_false h4]; rfl
  · rw [decide_eq_false h0, br_false, decide_eq_false h2, br_false, decide_eq_false h3, br_false, decide_eq_false h4, br_false]
    by_cases h5 : a = 4
    · subst h5; rfl
    · rw [decide_eq_false h5, br_false]
theorem each_is (k : Nat) (xs : List Nat) (h : xs.length < 9223372036854775807) (hk : xs.length < k) : ∃ b, laws_gEach k 0 0 0 xs = some b := by
  have key := loop_any (F := laws_gEach_l1 xs) 0 xs.length (fun i => !feq (xs.getD i 0) (xs.getD i 0)) (.inl ()) (.inr ()) (fun k i _ hi => by
    have e : xs.getD i 0 = xs[i] := by simp [List.getD, List.getElem?_eq_getElem hi]
    simp only [laws_gEach_l1, laws_gEach_l1s, lt_true hi, br_true, idx_get hi, Option.bind_eq_bind, Option.bind_some, laws_gNumber, e, iadd_one (show i < 9223372036854775807 from by omega)]
    cases feq xs[i] xs[i] <;> simp [br]) (fun k => by simp only [laws_gEach_l1, laws_gEach_l1s, lt_false (Nat.lt_irrefl _), br_false]) xs.length 0 k (by omega) (by omega)
  unfold laws_gEach
  rw [show (0 : Int) = ((0 : Nat) : Int) from rfl, key, sbind]
  cases (List.range' 0 xs.length).any (fun i => !feq (xs.getD i 0) (xs.getD i 0)) with
  | true => exact ⟨false, rfl⟩
  | false => exact ⟨true, rfl⟩
theorem sRow_is (k : Nat) (l : Int) (xs : List Nat) {s : Int} (hs : spec_Stride k l = some s) (h2 : 1 ≤ l → 2 ≤ s) (hk : 2000 < k) : ∃ b, laws_sRow k l xs = some b ∧ (b = true → 1 ≤ l ∧ l ≤ 9 ∧ xs.length ≤ 1000 ∧ ∃ q : Nat, (xs.length : Int) = s * q) := by
  unfold laws_sRow
  rw [hs, sbind]
  by_cases c1 : 1 ≤ l
  · rw [decide_eq_true c1, br_true]
    unfold laws_sRow_j1
    by_cases c2 : l ≤ 9
    · rw [decide_eq_true c2, br_true]
      unfold laws_sRow_j2
      by_cases c3 : (xs.length : Int) ≤ 1000
      · rw [decide_eq_true c3, br_true]
        have hs0 : ¬ s = 0 := by have := h2 c1; omega
        unfold irem
        rw [if_neg hs0, sbind]
        unfold laws_sRow_j3 laws_sRow_j4
        by_cases c4 : (xs.length : Int).tmod s = 0
        · rw [decide_eq_true c4, br_true]
          obtain ⟨b, hb⟩ := each_is k xs (by omega) (by omega)
          rw [hb, sbind]
          refine ⟨b, rfl, fun _ => ⟨c1, c2, by omega, ((xs.length : Int).tdiv s).toNat, ?_⟩⟩
          have hd := Int.mul_tdiv_add_tmod (xs.length : Int) s
          have hnn : 0 ≤ (xs.length : Int).tdiv s := Int.tdiv_nonneg (by omega) (by have := h2 c1; omega)
          rw [Int.toNat_of_nonneg hnn]; omega
        · rw [decide_eq_false c4, br_false]; exact ⟨false, rfl, fun h => by cases h⟩
      · rw [decide_eq_false c3, br_false]; exact ⟨false, rfl, fun h => by cases h⟩
    · rw [decide_eq_false c2, br_false]; exact ⟨false, rfl, fun h => by cases h⟩
  · rw [decide_eq_false c1, br_false]; exact ⟨false, rfl, fun h => by cases h⟩
theorem apd_self {xs : List Nat} (h : xs.length ≤ 1000) : apd 8 [] xs = some xs := by
  unfold apd
  rw [if_pos (by simp; omega)]; simp
theorem place_apart {i j S n q : Nat} (hn : n = S * q) (hi : i < q) (hj : j < q) : (i * S = j * S ∨ i * S + S ≤ j * S ∨ j * S + S ≤ i * S) ∧ i * S + S ≤ n ∧ j * S + S ≤ n := by
  have key : ∀ a b : Nat, a < b → a * S + S ≤ b * S := fun a b h => by
    have := Nat.mul_le_mul_right S (show a + 1 ≤ b by omega)
    rw [Nat.succ_mul] at this; exact this
  refine ⟨?_, ?_, ?_⟩
  · rcases Nat.lt_trichotomy i j with h | h | h
    · exact .inr (.inl (key _ _ h))
    · exact .inl (by rw [h])
    · exact .inr (.inr (key _ _ h))
  · rw [hn, Nat.mul_comm S q]; exact key _ _ hi
  · rw [hn, Nat.mul_comm S q]; exact key _ _ hj
theorem main (F : Nat) (hF : 3000 < F) (l : Int) (xs : List Nat) (i j : Int) : laws_FnSortSwap F l xs i j = some true := by
  unfold laws_FnSortSwap
  by_cases c0 : 2147483647 < (xs.length : Int)
  · rw [decide_eq_true c0]; rfl
  rw [decide_eq_false c0, br_false]
  obtain ⟨s, hs, hs1, hs2, hs3⟩ := stride_is F l
  obtain ⟨b, hb, hb2⟩ := sRow_is F l xs hs hs2 (by omega)
  rw [hb, sbind]
  cases b with
  | false => rfl
  | true =>
    obtain ⟨l1, l9, hlen, q, hq⟩ := hb2 rfl
    rw [Bool.not_true, br_false, hs, sbind]
    have s2 := hs2 l1
    have s9 := hs3 l9
    obtain ⟨S, rfl⟩ : ∃ S : Nat, s = (S : Int) := ⟨s.toNat, by omega⟩
    have hqn : xs.length = S * q := by
      have : ((xs.length : Nat) : Int) = ((S * q : Nat) : Int) := by rw [hq]; push_cast; rfl
      omega
    have hquo : iquo .i64 (xs.length : Int) (S : Int) = some (q : Int) := by
      unfold iquo
      rw [if_neg (by omega), hq, Int.mul_tdiv_cancel_left _ (by omega)]
      congr 1
      have hq1000 : q ≤ 1000 := by
        have := Nat.mul_le_mul_right q (show 1 ≤ S by omega)
        omega
      exact wrap_i64 (by omega) (by omega)
    rw [hquo, sbind]
    by_cases c1 : i < 0
    · rw [decide_eq_true c1]; rfl
    rw [decide_eq_false c1, br_false]
    unfold laws_FnSortSwap_j1
    by_cases c2 : j < 0
    · rw [decide_eq_true c2]; rfl
    rw [decide_eq_false c2, br_false]
    by_cases c3 : (q : Int) ≤ i
    · rw [decide_eq_true c3]; rfl
    rw [decide_eq_false c3]
    unfold laws_FnSortSwap_j2
    by_cases c4 : (q : Int) ≤ j
    · rw [br_false, decide_eq_true c4]; rfl
    rw [br_false, decide_eq_false c4]
    unfold laws_FnSortSwap_j3
    obtain ⟨i, rfl⟩ : ∃ S : Nat, i = (S : Int) := ⟨i.toNat, by omega⟩
    obtain ⟨j, rfl⟩ : ∃ S : Nat, j = (S : Int) := ⟨j.toNat, by omega⟩
    have hq1000 : q ≤ 1000 := by
      have := Nat.mul_le_mul_right q (show 1 ≤ S by omega)
      omega
    obtain ⟨hd, hI, hJ⟩ := place_apart hqn (show i < q by omega) (show j < q by omega)
    obtain ⟨I, eI⟩ : ∃ I, i * S = I := ⟨_, rfl⟩
    obtain ⟨J, eJ⟩ : ∃ J, j * S = J := ⟨_, rfl⟩
    rw [eI, eJ] at hd
    rw [eI] at hI
    rw [eJ] at hJ
    have m1 : imul .i64 (i : Int) (S : Int) = (I : Int) := by
      rw [imul_i64] <;> (rw [show (i : Int) * (S : Int) = ((i * S : Nat) : Int) by push_cast; rfl, eI]); omega
      omega
    have m2 : imul .i64 (j : Int) (S : Int) = (J : Int) := by
      rw [imul_i64] <;> (rw [show (j : Int) * (S : Int) = ((j * S : Nat) : Int) by push_cast; rfl, eJ]); omega
      omega
    have n1 : ((I : Nat) : Int).toNat = I := by omega
    have n2 : ((J : Nat) : Int).toNat = J := by omega
    have a1 : iadd .i64 (I : Int) (S : Int) = ((I + S : Nat) : Int) := by rw [iadd_i64 (by omega) (by omega)]; push_cast; rfl
    have a2 : iadd .i64 (J : Int) (S : Int) = ((J + S : Nat) : Int) := by rw [iadd_i64 (by omega) (by omega)]; push_cast; rfl
    rw [br_false, apd_self hlen, sbind, m1, m2, a1, a2, n1, n2]
    rw [cut_sub (by omega) (by omega) (by omega), sbind, cut_sub (by omega) (by omega) (by omega), sbind, n1, n2, show ((J + S : Nat) : Int).toNat = J + S by omega, show ((xs.length : Nat) : Int).toNat = xs.length by omega]
    obtain ⟨P, hP⟩ : ∃ P, (xs.take (J + S)).drop J = P := ⟨_, rfl⟩
    have hPl : P.length = S := by rw [← hP]; simp; omega
    have hPg : ∀ p, p < S → P.getD p 0 = xs.getD (J + p) 0 := fun p hp => by rw [← hP]; exact sub_getD (by omega) hp
    rw [hP]
    have hr : ((xs.take xs.length).drop I).length = xs.length - I := by simp
    rw [hr]
    have g1 : ∀ p, (cpat xs I (xs.length - I) P).getD p 0 = if I ≤ p ∧ p < I + S then P.getD (p - I) 0 else xs.getD p 0 := fun p => by rw [cpat_getD (by omega) (by omega), hPl]
    have hWl : (cpat xs I (xs.length - I) P).length = xs.length := cpat_len (by omega)
    obtain ⟨W, hW⟩ : ∃ W, cpat xs I (xs.length - I) P = W := ⟨_, rfl⟩
    rw [hW] at g1 hWl ⊢
    rw [cut_sub (by omega) (by omega) (by omega), sbind, cut_sub (by omega) (by omega) (by omega), sbind, n1, n2, show ((I + S : Nat) : Int).toNat = I + S by omega, show ((W.length : Nat) : Int).toNat = W.length by omega]
    obtain ⟨P', hP'⟩ : ∃ P', (xs.take (I + S)).drop I = P' := ⟨_, rfl⟩
    have hPl' : P'.length = S := by rw [← hP']; simp; omega
    have hPg' : ∀ p, p < S → P'.getD p 0 = xs.getD (I + p) 0 := fun p hp => by rw [← hP']; exact sub_getD (by omega) hp
    rw [hP']
    have hr' : ((W.take W.length).drop J).length = xs.length - J := by simp [hWl]
    rw [hr']
    have g2 : ∀ p, (cpat W J (xs.length - J) P').getD p 0 = if J ≤ p ∧ p < J + S then P'.getD (p - J) 0 else W.getD p 0 := fun p => by rw [cpat_getD (by omega) (by omega), hPl']
    have hZl : (cpat W J (xs.length - J) P').length = xs.length := by rw [cpat_len (by omega), hWl]
    obtain ⟨Z, hZ⟩ : ∃ Z, cpat W J (xs.length - J) P' = Z := ⟨_, rfl⟩
    rw [hZ] at g2 hZl ⊢
    -- the program's row
    obtain ⟨y, y1, y2, y3⟩ := swap_loop xs eI eJ hI hJ hlen (by omega) (by omega) (by omega) hd S 0 F xs (by omega) (by omega) rfl (fun p => by
      unfold sw
      rw [if_neg (by omega), if_neg (by omega)])
    have y1' : sorting_FlatCoord_Swap_l1 (S : Int) (j : Int) (i : Int) F (xs, 0) = some y := y1
    have hprog : impl_SortSwap F l xs (i : Int) (j : Int) = some (y, true) := by
      unfold impl_SortSwap impl_floats sorting_NewFlatCoordSorting2D sorting_NewFlatCoordSorting sorting_FlatCoord_Swap
      rw [apd_self hlen, sbind, sbind, hs1 l1 l9, sbind, sbind, sbind]
      dsimp only
      rw [y1', sbind, sbind]
    have hyZ : y = Z := by
      refine eq_of_getD (by omega) fun p hp => ?_
      rw [y3, g2, g1]
      unfold sw
      by_cases c6 : I ≤ p ∧ p < I + S
      · by_cases c5 : J ≤ p ∧ p < J + S
        · simp only [if_pos c6, if_pos c5]
          rw [hPg' _ (by omega)]; congr 1; omega
        · simp only [if_pos c6, if_neg c5]
          rw [hPg _ (by omega)]
      · by_cases c5 : J ≤ p ∧ p < J + S
        · simp only [if_neg c6, if_pos c5]
          rw [hPg' _ (by omega)]
        · simp only [if_neg c6, if_neg c5]
    rw [hprog, sbind, br_true, hyZ, sameFloats_self Z (by omega) (by omega), sbind]
    rfl
theorem fact_FnSortSwap (l : Int) (xs : List Nat) (i j : Int) {p0 p1 p2 p3 : Prop} (g0 : p0) (g1 : p1) (g2 : p2) (g3 : p3) : laws_FnSortSwap 4000 l xs i j = some true := main 4000 (by decide) l xs i j
end Go.Proofs.Ytlipjaacncpaoaa
