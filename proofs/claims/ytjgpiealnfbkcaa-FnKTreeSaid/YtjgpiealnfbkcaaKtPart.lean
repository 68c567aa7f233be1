/-
  Points by one coordinate, and how a part of a list is parted about its middle one. Plain; ours.
-/
import Derived.Test.YtjgpiealnfbkcaaFun
import Derived.Test.YtjgpiealnfbkcaaSxY
namespace Go.Proofs.Ytjgpiealnfbkcaa
open Go.Sx
set_option linter.unusedVariables false
set_option linter.unusedSimpArgs false
set_option maxRecDepth 100000

/-- the number of a word of the grid -/
noncomputable def cv (x : Nat) : Int := open Classical in if h : ∃ n, D x n 1074 then h.choose else 0
theorem cv_is {x : Nat} (h : ∃ n, D x n 1074) : D x (cv x) 1074 := by
  unfold cv; rw [dif_pos h]; exact h.choose_spec
/-- a point of m numbers of the grid -/
def Pg (m : Nat) (p : List Nat) : Prop := p.length = m ∧ ∀ x ∈ p, ∃ n, D x n 1074
noncomputable def ky (d : Nat) (p : List Nat) : Int := cv (p.getD d 0)
theorem ky_at {m d : Nat} {p : List Nat} (hp : Pg m p) (hd : d < m) : idx p (d : Int) = some (p.getD d 0) ∧ D (p.getD d 0) (ky d p) 1074 := by
  have h : d < p.length := by rw [hp.1]; exact hd
  have e : p.getD d 0 = p[d] := by simp [List.getD, List.getElem?_eq_getElem h]
  refine ⟨by rw [idx_get h, e], cv_is ?_⟩
  rw [e]; exact hp.2 _ (List.getElem_mem h)

theorem getD_row {W : List (List Nat)} {i : Nat} (h : i < W.length) : W.getD i [] = W[i] := by simp [List.getD, List.getElem?_eq_getElem h]
theorem getD_set_row {W : List (List Nat)} {i j : Nat} {v : List Nat} (h : i < W.length) : (W.set i v).getD j [] = if i = j then v else W.getD j [] := by
  simp only [List.getD, List.getElem?_set]
  by_cases e : i = j
  · subst e; simp [h]
  · simp [e]
/-- two exchanged -/
def swp (W : List (List Nat)) (i j : Nat) : List (List Nat) := (W.set i (W.getD j [])).set j (W.getD i [])
theorem swp_len (W : List (List Nat)) (i j : Nat) : (swp W i j).length = W.length := by simp [swp]
theorem swp_perm {W : List (List Nat)} {i j : Nat} (hi : i < W.length) (hj : j < W.length) : (swp W i j).Perm W := by
  unfold swp; rw [getD_row hi, getD_row hj]; exact List.set_set_perm hi hj
theorem swp_at {W : List (List Nat)} {i j : Nat} (hi : i < W.length) (hj : j < W.length) (p : Nat) : (swp W i j).getD p [] = if j = p then W.getD i [] else if i = p then W.getD j [] else W.getD p [] := by
  unfold swp; rw [getD_set_row (by simpa using hj), getD_set_row hi]

/-- a part of a list -/
theorem win_at {A W B : List (List Nat)} {lo n i : Nat} (ha : A.length = lo) (hw : W.length = n) (hi : i < n) : idv (A ++ W ++ B) lo n (i : Int) = some (W.getD i []) := by
  subst ha; subst hw
  unfold idv
  rw [if_pos ⟨by omega, by omega⟩, show ((A.length : Nat) : Int) + (i : Int) = ((A.length + i : Nat) : Int) by omega, idx_get (by simp; omega), getD_row hi]
  simp [List.getElem_append, hi]
theorem win_set {A W B : List (List Nat)} {lo n i : Nat} (v : List Nat) (ha : A.length = lo) (hw : W.length = n) (hi : i < n) : (A ++ W ++ B).set (((lo : Nat) : Int) + (i : Int)).toNat v = A ++ W.set i v ++ B := by
  subst ha; subst hw
  rw [show (((A.length : Nat) : Int) + (i : Int)).toNat = A.length + i by omega, List.append_assoc, List.set_append_right _ _ (by omega), List.set_append_left _ _ (by omega)]
  simp [List.append_assoc]
theorem swap_is (k : Nat) (d : Int) {A W B : List (List Nat)} {lo n i j : Nat} (ha : A.length = lo) (hw : W.length = n) (hi : i < n) (hj : j < n) :
    kdtree_doorPlane_Swap k d (A ++ W ++ B) lo n (i : Int) (j : Int) = some (A ++ swp W i j ++ B) := by
  unfold kdtree_doorPlane_Swap
  rw [win_at ha hw hj, sbind, win_at ha hw hi, sbind, sbind, win_set _ ha hw hi, win_at ha (by simpa using hw) hj, sbind, win_set _ ha (by simpa using hw) hj]
  rfl
theorem less_is (k : Nat) {m d : Nat} {A W B : List (List Nat)} {lo n i j : Nat} (ha : A.length = lo) (hw : W.length = n) (hi : i < n) (hj : j < n) (hg : ∀ p ∈ W, Pg m p) (hd : d < m) :
    kdtree_doorPlane_Less k (d : Int) (A ++ W ++ B) lo n (i : Int) (j : Int) = some (A ++ W ++ B, decide (ky d (W.getD i []) < ky d (W.getD j []))) := by
  have g : ∀ i, i < n → Pg m (W.getD i []) := fun i hi => by rw [getD_row (by omega)]; exact hg _ (List.getElem_mem _)
  obtain ⟨a1, a2⟩ := ky_at (g i hi) hd
  obtain ⟨b1, b2⟩ := ky_at (g j hj) hd
  unfold kdtree_doorPlane_Less
  rw [win_at ha hw hi, sbind, a1, sbind, win_at ha hw hj, sbind, b1, sbind, D_lt a2 b2]

theorem isub_one {n : Nat} (h : n < 1000000) : isub .i64 (n : Int) 1 = (n : Int) - 1 := isub_i64 (by omega) (by omega)

/-- the parting -/
theorem part_is (k : Nat) {m d : Nat} {A W B : List (List Nat)} {lo n p : Nat} (ha : A.length = lo) (hw : W.length = n) (hp : p < n) (hn : n < 1000000) (hg : ∀ p ∈ W, Pg m p) (hd : d < m) (hk : n < k) :
    ∃ V c, kdtree_Partition k (d : Int) (A ++ W ++ B) lo n (p : Int) = some (A ++ V ++ B, ((c : Nat) : Int)) ∧ V.Perm W ∧ c < n ∧ (∀ i, i < c → ky d (V.getD i []) ≤ ky d (V.getD c [])) ∧ (∀ i, c < i → i < n → ky d (V.getD c []) < ky d (V.getD i [])) := by
  obtain ⟨L, rfl⟩ : ∃ L, n = L + 1 := ⟨n - 1, by omega⟩
  have e1 : isub .i64 ((L + 1 : Nat) : Int) 1 = ((L : Nat) : Int) := by rw [isub_one hn]; omega
  unfold kdtree_Partition kdtree_doorPlane_Len
  rw [sbind]
  simp only [e1]
  rw [decide_eq_false (by omega), br_false, swap_is k _ ha hw hp (Nat.lt_succ_self L), sbind]
  obtain ⟨y, h1, h2⟩ := loop_inv (F := kdtree_Partition_l1 (A ++ W ++ B, ((L + 1 : Nat) : Int)) (d : Int) lo (L + 1)) 0
    (fun r v => ∃ (V : List (List Nat)) (c i : Nat), v = (A ++ V ++ B, ((c : Nat) : Int), ((i : Nat) : Int)) ∧ V.Perm W ∧ V.length = L + 1 ∧ c ≤ i ∧ i + r = L ∧ (∀ j, j < c → ky d (V.getD j []) ≤ ky d (V.getD L [])) ∧ (∀ j, c ≤ j → j < i → ky d (V.getD L []) < ky d (V.getD j [])))
    (fun y => ∃ (V : List (List Nat)) (c : Nat), y = (A ++ V ++ B, ((c : Nat) : Int)) ∧ V.Perm W ∧ V.length = L + 1 ∧ c ≤ L ∧ (∀ j, j < c → ky d (V.getD j []) ≤ ky d (V.getD L [])) ∧ (∀ j, c ≤ j → j < L → ky d (V.getD L []) < ky d (V.getD j [])))
    (fun k r v _ hI => by
      obtain ⟨V, c, i, rfl, q1, q2, q3, q4, q5, q6⟩ := hI
      by_cases hi : i < L
      · have hgV : ∀ p ∈ V, Pg m p := fun p h => hg p (q1.mem_iff.1 h)
        have hl := less_is k (B := B) ha q2 (Nat.lt_succ_self L) (show i < L + 1 by omega) hgV hd
        refine .inr ?_
        by_cases hc : ky d (V.getD L []) < ky d (V.getD i [])
        · refine ⟨r - 1, (A ++ V ++ B, ((c : Nat) : Int), ((i + 1 : Nat) : Int)), by omega, ⟨V, c, i + 1, rfl, q1, q2, by omega, by omega, q5, fun j h1 h2 => ?_⟩, ?_⟩
          · by_cases e : j = i
            · subst e; exact hc
            · exact q6 j h1 (by omega)
          · simp only [kdtree_Partition_l1, kdtree_Partition_l1s, e1, lt_true hi, br_true, hl, decide_eq_true hc, Option.bind_eq_bind, Option.bind_some, Bool.not_true, br_false, kdtree_Partition_j2, iadd_one (show i < 9223372036854775807 by omega)]
        · have hs := swap_is k (d : Int) (B := B) ha q2 (show c < L + 1 by omega) (show i < L + 1 by omega)
          have at_ := fun p => swp_at (W := V) (i := c) (j := i) (by omega) (by omega) p
          refine ⟨r - 1, (A ++ swp V c i ++ B, ((c + 1 : Nat) : Int), ((i + 1 : Nat) : Int)), by omega, ⟨swp V c i, c + 1, i + 1, rfl, (swp_perm (by omega) (by omega)).trans q1, by rw [swp_len, q2], by omega, by omega, fun j hj => ?_, fun j h1 h2 => ?_⟩, ?_⟩
          · rw [at_ j, at_ L, if_neg (show ¬ i = L by omega), if_neg (show ¬ c = L by omega)]
            by_cases e : c = j
            · subst e
              by_cases e2 : i = c
              · subst e2; rw [if_pos rfl]; omega
              · rw [if_neg e2, if_pos rfl]; omega
            · rw [if_neg (by omega), if_neg e]; exact q5 j (by omega)
          · rw [at_ j, at_ L, if_neg (show ¬ i = L by omega), if_neg (show ¬ c = L by omega)]
            by_cases e : i = j
            · subst e; rw [if_pos rfl]; exact q6 c (Nat.le_refl _) (by omega)
            · rw [if_neg e, if_neg (by omega)]; exact q6 j (by omega) (by omega)
          · simp only [kdtree_Partition_l1, kdtree_Partition_l1s, e1, lt_true hi, br_true, hl, decide_eq_false hc, Option.bind_eq_bind, Option.bind_some, Bool.not_false, hs, kdtree_Partition_j2, iadd_one (show i < 9223372036854775807 by omega), iadd_one (show c < 9223372036854775807 by omega)]
      · have : i = L := by omega
        subst this
        refine .inl ⟨(A ++ V ++ B, ((c : Nat) : Int)), ?_, V, c, rfl, q1, q2, q3, q5, q6⟩
        simp only [kdtree_Partition_l1, kdtree_Partition_l1s, e1, lt_false (Nat.lt_irrefl _), br_false])
    L (A ++ swp W p L ++ B, 0, 0) k ⟨swp W p L, 0, 0, rfl, swp_perm (by omega) (by omega), by rw [swp_len, hw], Nat.le_refl _, by omega, fun j h => absurd h (Nat.not_lt_zero _), fun j h1 h2 => absurd h2 (Nat.not_lt_zero _)⟩ (by omega)
  obtain ⟨V, c, rfl, q1, q2, q3, q5, q6⟩ := h2
  rw [h1, sbind]
  simp only []
  rw [swap_is k _ ha q2 (Nat.lt_succ_self L) (show c < L + 1 by omega), sbind]
  have at_ := fun p => swp_at (W := V) (i := L) (j := c) (by omega) (by omega) p
  refine ⟨swp V L c, c, rfl, (swp_perm (by omega) (by omega)).trans q1, by omega, fun i hi => ?_, fun i h1 h2 => ?_⟩
  · rw [at_ i, at_ c, if_neg (by omega), if_neg (by omega), if_pos rfl]
    exact q5 i hi
  · rw [at_ i, at_ c, if_pos rfl, if_neg (by omega)]
    by_cases e : L = i
    · rw [if_pos e]; exact q6 c (Nat.le_refl _) (by omega)
    · rw [if_neg e]; exact q6 i (by omega) (by omega)
end Go.Proofs.Ytjgpiealnfbkcaa
