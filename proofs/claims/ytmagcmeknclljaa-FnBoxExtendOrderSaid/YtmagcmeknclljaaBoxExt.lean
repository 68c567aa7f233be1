/-
  What a box is when it is extended, axis by axis. Ours.
-/
import Derived.Test.YtmagcmeknclljaaFun
import Derived.Test.YtmagcmeknclljaaOrderT
import Derived.Test.YtmagcmeknclljaaGeomBase
namespace Go.Proofs.Ytmagcmeknclljaa
open Go.Sx
set_option linter.unusedVariables false
set_option linter.unusedSimpArgs false
set_option maxRecDepth 100000

/-- where an axis (X, Y, Z, M) stands in a layout -/
def pos (L : Int) (a : Nat) : Option Nat :=
  if L = 1 then (if a < 2 then some a else none) else if L = 2 then (if a < 3 then some a else none) else if L = 3 then (if a < 2 then some a else if a = 3 then some 2 else none) else if L = 4 then (if a < 4 then some a else none) else none
/-- what stands there -/
def ax (L : Int) (mn : List Nat) (d : Int × Int) (a : Nat) : Int × Int := match pos L a with
  | some p => vv (mn.getD p 0)
  | none => d
structure BX (L : Int) (mn mx : List Nat) : Prop where
  lo : 0 ≤ L
  hi : L ≤ 4
  len1 : (mn.length : Int) = stri L
  len2 : (mx.length : Int) = stri L
  num1 : ∀ p, p < mn.length → isn (mn.getD p 0) = false
  num2 : ∀ p, p < mx.length → isn (mx.getD p 0) = false
def cov (L g : Int) : Int := if L = 2 ∧ g = 3 then 4 else if L = 3 ∧ (g = 2 ∨ g = 4) then 4 else if L < g then g else L

theorem inf_vv : vv 9218868437227405312 = (1, 0) ∧ vv 18442240474082181120 = (-1, 0) ∧ isn 9218868437227405312 = false ∧ isn 18442240474082181120 = false := by decide
theorem len0 {α : Type} {l : List α} (h : l.length = 0) : l = [] := List.length_eq_zero_iff.1 h
theorem len2 {α : Type} {l : List α} (h : l.length = 2) : ∃ x y, l = [x, y] := by
  match l, h with
  | [x, y], _ => exact ⟨x, y, rfl⟩
theorem len3 {α : Type} {l : List α} (h : l.length = 3) : ∃ x y z, l = [x, y, z] := by
  match l, h with
  | [x, y, z], _ => exact ⟨x, y, z, rfl⟩
theorem len4 {α : Type} {l : List α} (h : l.length = 4) : ∃ x y z t, l = [x, y, z, t] := by
  match l, h with
  | [x, y, z, t], _ => exact ⟨x, y, z, t, rfl⟩

/-- the axes that are added are empty -/
theorem layout_is {L : Int} {mn mx : List Nat} (h : BX L mn mx) (g : Int) (h1 : 1 ≤ g) (h4 : g ≤ 4) (j : Nat) :
    ∃ mn' mx', gogeom_Bounds_extendLayout (j + 9) L mn mx g = some (cov L g, mn', mx') ∧ BX (cov L g) mn' mx' ∧ (∀ a, ax (cov L g) mn' (1, 0) a = ax L mn (1, 0) a) ∧ ∀ a, ax (cov L g) mx' (-1, 0) a = ax L mx (-1, 0) a := by
  have hL : L = 0 ∨ L = 1 ∨ L = 2 ∨ L = 3 ∨ L = 4 := by have := h.lo; have := h.hi; omega
  have hg : g = 1 ∨ g = 2 ∨ g = 3 ∨ g = 4 := by omega
  obtain ⟨i1, i2, i3, i4⟩ := inf_vv
  have n1 := h.num1
  have n2 := h.num2
  have fin : ∀ {L' : Int} {mn' mx' : List Nat}, 0 ≤ L' → L' ≤ 4 → (mn'.length : Int) = stri L' → (mx'.length : Int) = stri L' → (∀ x ∈ mn', x ∈ mn ∨ x = 9218868437227405312) → (∀ x ∈ mx', x ∈ mx ∨ x = 18442240474082181120) → BX L' mn' mx' := by
    intro L' mn' mx' q1 q2 q3 q4 q5 q6
    refine ⟨q1, q2, q3, q4, fun p hp => ?_, fun p hp => ?_⟩
    · have e : mn'.getD p 0 = mn'[p] := by simp [List.getD, List.getElem?_eq_getElem hp]
      rw [e]
      rcases q5 _ (List.getElem_mem hp) with hm | hm
      · obtain ⟨t, ht, et⟩ := List.mem_iff_getElem.1 hm
        have := n1 t ht
        simp only [List.getD, List.getElem?_eq_getElem ht, Option.getD_some] at this
        rw [← et]; exact this
      · rw [hm]; exact i3
    · have e : mx'.getD p 0 = mx'[p] := by simp [List.getD, List.getElem?_eq_getElem hp]
      rw [e]
      rcases q6 _ (List.getElem_mem hp) with hm | hm
      · obtain ⟨t, ht, et⟩ := List.mem_iff_getElem.1 hm
        have := n2 t ht
        simp only [List.getD, List.getElem?_eq_getElem ht, Option.getD_some] at this
        rw [← et]; exact this
      · rw [hm]; exact i4
  have axs : ∀ {L' : Int} {l l' : List Nat} {d : Int × Int}, (∀ a, a < 4 → ax L' l' d a = ax L l d a) → L' ≤ 4 → L ≤ 4 → ∀ a, ax L' l' d a = ax L l d a := by
    intro L' l l' d hh q1 q2 a
    by_cases ha : a < 4
    · exact hh a ha
    · have : ∀ L'', L'' ≤ 4 → pos L'' a = none := fun L'' _ => by unfold pos; repeat' split
                                                                  all_goals first | rfl | omega
      unfold ax; rw [this _ q1, this _ q2]
  have l1 := h.len1
  have l2 := h.len2
  have f1 : ffrom 9218868437227405312 = 9218868437227405312 := rfl
  have f2 : ffrom 18442240474082181120 = 18442240474082181120 := rfl
  rcases hL with rfl | rfl | rfl | rfl | rfl
  · obtain rfl := len0 (show mn.length = 0 by have : stri 0 = 0 := rfl; omega)
    obtain rfl := len0 (show mx.length = 0 by have : stri 0 = 0 := rfl; omega)
    rcases hg with rfl | rfl | rfl | rfl <;> refine ⟨_, _, rfl, fin (by decide) (by decide) rfl rfl (by simp [f1]) (by simp [f2]), axs ?_ (by decide) (by decide), axs ?_ (by decide) (by decide)⟩ <;>
      (intro a ha; rcases (show a = 0 ∨ a = 1 ∨ a = 2 ∨ a = 3 by omega) with rfl | rfl | rfl | rfl <;> first | rfl | exact i1 | exact i2)
  · obtain ⟨x, y, rfl⟩ := len2 (show mn.length = 2 by have : stri 1 = 2 := rfl; omega)
    obtain ⟨z, t, rfl⟩ := len2 (show mx.length = 2 by have : stri 1 = 2 := rfl; omega)
    rcases hg with rfl | rfl | rfl | rfl <;> refine ⟨_, _, rfl, fin (by decide) (by decide) rfl rfl (by simp [f1]) (by simp [f2]), axs ?_ (by decide) (by decide), axs ?_ (by decide) (by decide)⟩ <;>
      (intro a ha; rcases (show a = 0 ∨ a = 1 ∨ a = 2 ∨ a = 3 by omega) with rfl | rfl | rfl | rfl <;> first | rfl | exact i1 | exact i2)
  · obtain ⟨x, y, x2, rfl⟩ := len3 (show mn.length = 3 by have : stri 2 = 3 := rfl; omega)
    obtain ⟨z, t, z2, rfl⟩ := len3 (show mx.length = 3 by have : stri 2 = 3 := rfl; omega)
    rcases hg with rfl | rfl | rfl | rfl <;> refine ⟨_, _, rfl, fin (by decide) (by decide) rfl rfl (by simp [f1]) (by simp [f2]), axs ?_ (by decide) (by decide), axs ?_ (by decide) (by decide)⟩ <;>
      (intro a ha; rcases (show a = 0 ∨ a = 1 ∨ a = 2 ∨ a = 3 by omega) with rfl | rfl | rfl | rfl <;> first | rfl | exact i1 | exact i2)
  · obtain ⟨x, y, x2, rfl⟩ := len3 (show mn.length = 3 by have : stri 3 = 3 := rfl; omega)
    obtain ⟨z, t, z2, rfl⟩ := len3 (show mx.length = 3 by have : stri 3 = 3 := rfl; omega)
    rcases hg with rfl | rfl | rfl | rfl <;> refine ⟨_, _, rfl, fin (by decide) (by decide) rfl rfl (by simp [f1]) (by simp [f2]), axs ?_ (by decide) (by decide), axs ?_ (by decide) (by decide)⟩ <;>
      (intro a ha; rcases (show a = 0 ∨ a = 1 ∨ a = 2 ∨ a = 3 by omega) with rfl | rfl | rfl | rfl <;> first | rfl | exact i1 | exact i2)
  · obtain ⟨x, y, x2, x3, rfl⟩ := len4 (show mn.length = 4 by have : stri 4 = 4 := rfl; omega)
    obtain ⟨z, t, z2, z3, rfl⟩ := len4 (show mx.length = 4 by have : stri 4 = 4 := rfl; omega)
    rcases hg with rfl | rfl | rfl | rfl <;> refine ⟨_, _, rfl, fin (by decide) (by decide) rfl rfl (by simp [f1]) (by simp [f2]), axs ?_ (by decide) (by decide), axs ?_ (by decide) (by decide)⟩ <;>
      (intro a ha; rcases (show a = 0 ∨ a = 1 ∨ a = 2 ∨ a = 3 by omega) with rfl | rfl | rfl | rfl <;> first | rfl | exact i1 | exact i2)

/-! #### the numbers -/
def gv (F : List Nat) (i : Nat) : Int × Int := vv (F.getD i 0)
def col (F : List Nat) (s p n : Nat) : List (Int × Int) := (List.range n).map fun t => gv F (t * s + p)
theorem col_succ (F : List Nat) (s p n : Nat) : col F s p (n + 1) = col F s p n ++ [gv F (n * s + p)] := by simp [col, List.range_succ]
theorem getD_set (l : List Nat) (i p v : Nat) (h : i < l.length) : (l.set i v).getD p 0 = if p = i then v else l.getD p 0 := by
  by_cases hp : p = i
  · subst hp; simp [List.getD, h]
  · simp [List.getD, hp, List.getElem?_set, Ne.symm hp]
/-- numbers all -/
def Nu (l : List Nat) : Prop := ∀ p, p < l.length → isn (l.getD p 0) = false
theorem Nu.set {l : List Nat} (h : Nu l) (i v : Nat) (hi : i < l.length) (hv : isn v = false) : Nu (l.set i v) := fun p hp => by
  rw [getD_set l i p v hi]
  split
  · exact hv
  · exact h p (by simpa using hp)
theorem getD_at' {l : List Nat} {i : Nat} (h : i < l.length) : l.getD i 0 = l[i] := by simp [List.getD, List.getElem?_eq_getElem h]

theorem inner_is (F mn mx : List Nat) (s x : Nat) (hs : s ≤ mn.length) (hs2 : s ≤ mx.length) (hx : x + s ≤ F.length) (hF : Nu F) (hl : F.length < 1000000000000) (n1 : Nu mn) (n2 : Nu mx) (k : Nat) (hk : s < k) :
    ∃ v, gogeom_Bounds_extendFlatCoords_l2 s F x k (mn, mx, 0) = some v ∧ v.1.length = mn.length ∧ v.2.length = mx.length ∧ Nu v.1 ∧ Nu v.2 ∧
      (∀ p, vv (v.1.getD p 0) = if p < s then lmin (vv (mn.getD p 0)) (gv F (x + p)) else vv (mn.getD p 0)) ∧ ∀ p, vv (v.2.getD p 0) = if p < s then lmax (vv (mx.getD p 0)) (gv F (x + p)) else vv (mx.getD p 0) := by
  exact loop_inv (F := gogeom_Bounds_extendFlatCoords_l2 s F x) 0 (fun m v => ∃ i : Nat, v.2.2 = (i : Int) ∧ i + m = s ∧ v.1.length = mn.length ∧ v.2.1.length = mx.length ∧ Nu v.1 ∧ Nu v.2.1 ∧
      (∀ p, vv (v.1.getD p 0) = if p < i then lmin (vv (mn.getD p 0)) (gv F (x + p)) else vv (mn.getD p 0)) ∧ ∀ p, vv (v.2.1.getD p 0) = if p < i then lmax (vv (mx.getD p 0)) (gv F (x + p)) else vv (mx.getD p 0))
    (fun v => v.1.length = mn.length ∧ v.2.length = mx.length ∧ Nu v.1 ∧ Nu v.2 ∧
      (∀ p, vv (v.1.getD p 0) = if p < s then lmin (vv (mn.getD p 0)) (gv F (x + p)) else vv (mn.getD p 0)) ∧ ∀ p, vv (v.2.getD p 0) = if p < s then lmax (vv (mx.getD p 0)) (gv F (x + p)) else vv (mx.getD p 0)) (fun k m v _ hI => by
    obtain ⟨a, b, j⟩ := v
    obtain ⟨i, h1, h2, l1, l2, m1, m2, q1, q2⟩ := hI
    simp only at h1 l1 l2 m1 m2 q1 q2
    subst h1
    by_cases hi : i < s
    · have ha : i < a.length := by omega
      have hb : i < b.length := by omega
      have hf : x + i < F.length := by omega
      have hadd : iadd .i64 (x : Int) (i : Int) = ((x + i : Nat) : Int) := by rw [iadd_i64 (by omega) (by omega)]; omega
      have na : isn a[i] = false := by have := m1 i ha; rwa [getD_at' ha] at this
      have nb : isn b[i] = false := by have := m2 i hb; rwa [getD_at' hb] at this
      have nf : isn F[x + i] = false := by have := hF (x + i) hf; rwa [getD_at' hf] at this
      obtain ⟨t1, t2⟩ := mpick_min na nf
      obtain ⟨t3, t4⟩ := mpick_max nb nf
      refine .inr ⟨m - 1, (a.set i (mpick true .lt a[i] F[x + i]), b.set i (mpick false .gt b[i] F[x + i]), ((i + 1 : Nat) : Int)), by omega, ⟨i + 1, rfl, by omega, by simpa using l1, by simpa using l2, m1.set i _ ha t1, m2.set i _ hb t3, fun p => ?_, fun p => ?_⟩, ?_⟩
      · simp only
        rw [getD_set a i p _ ha]
        by_cases hp : p = i
        · subst hp
          have e := q1 p
          rw [if_neg (by omega), getD_at' ha] at e
          rw [if_pos rfl, if_pos (by omega), t2, e]
          unfold gv; rw [getD_at' hf]
        · rw [if_neg hp, q1 p]
          by_cases h3 : p < i
          · rw [if_pos h3, if_pos (by omega)]
          · rw [if_neg h3, if_neg (by omega)]
      · simp only
        rw [getD_set b i p _ hb]
        by_cases hp : p = i
        · subst hp
          have e := q2 p
          rw [if_neg (by omega), getD_at' hb] at e
          rw [if_pos rfl, if_pos (by omega), t4, e]
          unfold gv; rw [getD_at' hf]
        · rw [if_neg hp, q2 p]
          by_cases h3 : p < i
          · rw [if_pos h3, if_pos (by omega)]
          · rw [if_neg h3, if_neg (by omega)]
      · simp only [gogeom_Bounds_extendFlatCoords_l2, gogeom_Bounds_extendFlatCoords_l2s, lt_true hi, br_true, idx_get ha, idx_get hb, hadd, idx_get hf, math_Min, math_Max, Option.bind_eq_bind, Option.bind_some, Int.toNat_natCast, iadd_one (show i < 9223372036854775807 by omega)]
    · obtain rfl : i = s := by omega
      exact .inl ⟨(a, b), by simp only [gogeom_Bounds_extendFlatCoords_l2, gogeom_Bounds_extendFlatCoords_l2s, lt_false hi, br_false], l1, l2, m1, m2, q1, q2⟩) s (mn, mx, 0) k ⟨0, rfl, by omega, rfl, rfl, n1, n2, fun p => by simp, fun p => by simp⟩ (by omega)

/-- all places of a geometry -/
theorem outer_is (F mn mx : List Nat) (s N : Nat) (hs0 : 0 < s) (hs : s ≤ mn.length) (hs2 : s ≤ mx.length) (hN : F.length = N * s) (hF : Nu F) (hl : F.length < 1000000000000) (n1 : Nu mn) (n2 : Nu mx) (k : Nat) (hk : N + s + 1 < k) :
    ∃ v, gogeom_Bounds_extendFlatCoords_l3 (F.length : Int) s F k (mn, mx, 0) = some v ∧ v.1.length = mn.length ∧ v.2.length = mx.length ∧ Nu v.1 ∧ Nu v.2 ∧
      (∀ p, vv (v.1.getD p 0) = if p < s then (col F s p N).foldl lmin (vv (mn.getD p 0)) else vv (mn.getD p 0)) ∧ ∀ p, vv (v.2.getD p 0) = if p < s then (col F s p N).foldl lmax (vv (mx.getD p 0)) else vv (mx.getD p 0) := by
  exact loop_inv (F := gogeom_Bounds_extendFlatCoords_l3 (F.length : Int) s F) (s + 1) (fun m v => ∃ i : Nat, v.2.2 = ((i * s : Nat) : Int) ∧ i + m = N ∧ v.1.length = mn.length ∧ v.2.1.length = mx.length ∧ Nu v.1 ∧ Nu v.2.1 ∧
      (∀ p, vv (v.1.getD p 0) = if p < s then (col F s p i).foldl lmin (vv (mn.getD p 0)) else vv (mn.getD p 0)) ∧ ∀ p, vv (v.2.1.getD p 0) = if p < s then (col F s p i).foldl lmax (vv (mx.getD p 0)) else vv (mx.getD p 0))
    (fun v => v.1.length = mn.length ∧ v.2.length = mx.length ∧ Nu v.1 ∧ Nu v.2 ∧
      (∀ p, vv (v.1.getD p 0) = if p < s then (col F s p N).foldl lmin (vv (mn.getD p 0)) else vv (mn.getD p 0)) ∧ ∀ p, vv (v.2.getD p 0) = if p < s then (col F s p N).foldl lmax (vv (mx.getD p 0)) else vv (mx.getD p 0)) (fun k m v hk hI => by
    obtain ⟨a, b, j⟩ := v
    obtain ⟨i, h1, h2, l1, l2, m1, m2, q1, q2⟩ := hI
    simp only at h1 l1 l2 m1 m2 q1 q2
    subst h1
    by_cases hi : i < N
    · have hle : (i + 1) * s ≤ N * s := Nat.mul_le_mul_right _ hi
      have hsm : (i + 1) * s = i * s + s := Nat.succ_mul i s
      obtain ⟨v, e1, e2, e3, e4, e5, e6, e7⟩ := inner_is F a b s (i * s) (by omega) (by omega) (by omega) hF hl m1 m2 k (by omega)
      have hadd : iadd .i64 ((i * s : Nat) : Int) (s : Int) = (((i + 1) * s : Nat) : Int) := by rw [iadd_i64 (by omega) (by omega)]; omega
      refine .inr ⟨m - 1, (v.1, v.2, (((i + 1) * s : Nat) : Int)), by omega, ⟨i + 1, rfl, by omega, by show v.1.length = _; omega, by show v.2.length = _; omega, e4, e5, fun p => ?_, fun p => ?_⟩, ?_⟩
      · simp only
        rw [e6 p, q1 p]
        by_cases hp : p < s
        · rw [if_pos hp, if_pos hp, if_pos hp, col_succ, List.foldl_append]; rfl
        · rw [if_neg hp, if_neg hp, if_neg hp]
      · simp only
        rw [e7 p, q2 p]
        by_cases hp : p < s
        · rw [if_pos hp, if_pos hp, if_pos hp, col_succ, List.foldl_append]; rfl
        · rw [if_neg hp, if_neg hp, if_neg hp]
      · have hlt : i * s < F.length := by omega
        simp only [gogeom_Bounds_extendFlatCoords_l3, gogeom_Bounds_extendFlatCoords_l3s, lt_true hlt, br_true, e1, Option.bind_eq_bind, Option.bind_some, hadd]
    · obtain rfl : i = N := by omega
      exact .inl ⟨(a, b), by simp only [gogeom_Bounds_extendFlatCoords_l3, gogeom_Bounds_extendFlatCoords_l3s, lt_false (show ¬ i * s < F.length by omega), br_false], l1, l2, m1, m2, q1, q2⟩) N (mn, mx, 0) k ⟨0, by simp, by omega, rfl, rfl, n1, n2, fun p => by simp [col], fun p => by simp [col]⟩ (by omega)

/-- of XYM in XYZM -/
theorem skew_is (F mn mx : List Nat) (N : Nat) (hs : mn.length = 4) (hs2 : mx.length = 4) (hN : F.length = N * 3) (hF : Nu F) (hl : F.length < 1000000000000) (n1 : Nu mn) (n2 : Nu mx) (k : Nat) (hk : N < k) :
    ∃ v, gogeom_Bounds_extendXYZMFlatCoordsWithXYM_l1 (F.length : Int) F k (mn, mx, 0) = some v ∧ v.1.length = 4 ∧ v.2.length = 4 ∧ Nu v.1 ∧ Nu v.2 ∧
      (∀ a, a < 4 → vv (v.1.getD a 0) = match pos 3 a with | some p => (col F 3 p N).foldl lmin (vv (mn.getD a 0)) | none => vv (mn.getD a 0)) ∧ ∀ a, a < 4 → vv (v.2.getD a 0) = match pos 3 a with | some p => (col F 3 p N).foldl lmax (vv (mx.getD a 0)) | none => vv (mx.getD a 0) := by
  exact loop_inv (F := gogeom_Bounds_extendXYZMFlatCoordsWithXYM_l1 (F.length : Int) F) 0 (fun m v => ∃ i : Nat, v.2.2 = ((i * 3 : Nat) : Int) ∧ i + m = N ∧ v.1.length = 4 ∧ v.2.1.length = 4 ∧ Nu v.1 ∧ Nu v.2.1 ∧
      (∀ a, a < 4 → vv (v.1.getD a 0) = match pos 3 a with | some p => (col F 3 p i).foldl lmin (vv (mn.getD a 0)) | none => vv (mn.getD a 0)) ∧ ∀ a, a < 4 → vv (v.2.1.getD a 0) = match pos 3 a with | some p => (col F 3 p i).foldl lmax (vv (mx.getD a 0)) | none => vv (mx.getD a 0))
    (fun v => v.1.length = 4 ∧ v.2.length = 4 ∧ Nu v.1 ∧ Nu v.2 ∧
      (∀ a, a < 4 → vv (v.1.getD a 0) = match pos 3 a with | some p => (col F 3 p N).foldl lmin (vv (mn.getD a 0)) | none => vv (mn.getD a 0)) ∧ ∀ a, a < 4 → vv (v.2.getD a 0) = match pos 3 a with | some p => (col F 3 p N).foldl lmax (vv (mx.getD a 0)) | none => vv (mx.getD a 0)) (fun k m v _ hI => by
    obtain ⟨a, b, j⟩ := v
    obtain ⟨i, h1, h2, l1, l2, m1, m2, q1, q2⟩ := hI
    simp only at h1 l1 l2 m1 m2 q1 q2
    subst h1
    by_cases hi : i < N
    · obtain ⟨x0, x1, x2, x3, rfl⟩ := len4 l1
      obtain ⟨y0, y1, y2, y3, rfl⟩ := len4 l2
      have f0 : i * 3 + 0 < F.length := by omega
      have f1 : i * 3 + 1 < F.length := by omega
      have f2 : i * 3 + 2 < F.length := by omega
      have a0 : iadd .i64 ((i * 3 : Nat) : Int) 0 = ((i * 3 + 0 : Nat) : Int) := by rw [iadd_i64 (by omega) (by omega)]; omega
      have a1 : iadd .i64 ((i * 3 : Nat) : Int) 1 = ((i * 3 + 1 : Nat) : Int) := by rw [iadd_i64 (by omega) (by omega)]; omega
      have a2 : iadd .i64 ((i * 3 : Nat) : Int) 2 = ((i * 3 + 2 : Nat) : Int) := by rw [iadd_i64 (by omega) (by omega)]; omega
      have a3 : iadd .i64 ((i * 3 : Nat) : Int) 3 = (((i + 1) * 3 : Nat) : Int) := by rw [iadd_i64 (by omega) (by omega)]; omega
      have nf : ∀ t (h : t < F.length), isn F[t] = false := fun t h => by have := hF t h; rwa [getD_at' h] at this
      have gf : ∀ t (h : t < F.length), gv F t = vv F[t] := fun t h => by unfold gv; rw [getD_at' h]
      obtain ⟨u0, w0⟩ := mpick_min (m1 0 (by simp)) (nf _ f0)
      obtain ⟨u1, w1⟩ := mpick_min (m1 1 (by simp)) (nf _ f1)
      obtain ⟨u3, w3⟩ := mpick_min (m1 3 (by simp)) (nf _ f2)
      obtain ⟨z0, o0⟩ := mpick_max (m2 0 (by simp)) (nf _ f0)
      obtain ⟨z1, o1⟩ := mpick_max (m2 1 (by simp)) (nf _ f1)
      obtain ⟨z3, o3⟩ := mpick_max (m2 3 (by simp)) (nf _ f2)
      have k2 := m1 2 (by simp)
      have k2' := m2 2 (by simp)
      refine .inr ⟨m - 1, ([mpick true .lt x0 F[i * 3 + 0], mpick true .lt x1 F[i * 3 + 1], x2, mpick true .lt x3 F[i * 3 + 2]], [mpick false .gt y0 F[i * 3 + 0], mpick false .gt y1 F[i * 3 + 1], y2, mpick false .gt y3 F[i * 3 + 2]], (((i + 1) * 3 : Nat) : Int)), by omega, ⟨i + 1, rfl, by omega, rfl, rfl, ?_, ?_, ?_, ?_⟩, ?_⟩
      · intro p hp
        have hp' : p < 4 := hp
        rcases (show p = 0 ∨ p = 1 ∨ p = 2 ∨ p = 3 by omega) with rfl | rfl | rfl | rfl
        · exact u0
        · exact u1
        · exact k2
        · exact u3
      · intro p hp
        have hp' : p < 4 := hp
        rcases (show p = 0 ∨ p = 1 ∨ p = 2 ∨ p = 3 by omega) with rfl | rfl | rfl | rfl
        · exact z0
        · exact z1
        · exact k2'
        · exact z3
      · intro p hp
        have e := q1 p hp
        rcases (show p = 0 ∨ p = 1 ∨ p = 2 ∨ p = 3 by omega) with rfl | rfl | rfl | rfl
        · show vv (mpick true .lt x0 F[i * 3 + 0]) = (col F 3 0 (i + 1)).foldl lmin (vv (mn.getD 0 0))
          have e' : vv x0 = (col F 3 0 i).foldl lmin (vv (mn.getD 0 0)) := e
          rw [col_succ, List.foldl_append, ← e']; rw [gf _ f0]; exact w0
        · show vv (mpick true .lt x1 F[i * 3 + 1]) = (col F 3 1 (i + 1)).foldl lmin (vv (mn.getD 1 0))
          have e' : vv x1 = (col F 3 1 i).foldl lmin (vv (mn.getD 1 0)) := e
          rw [col_succ, List.foldl_append, ← e']; rw [gf _ f1]; exact w1
        · exact e
        · show vv (mpick true .lt x3 F[i * 3 + 2]) = (col F 3 2 (i + 1)).foldl lmin (vv (mn.getD 3 0))
          have e' : vv x3 = (col F 3 2 i).foldl lmin (vv (mn.getD 3 0)) := e
          rw [col_succ, List.foldl_append, ← e']; rw [gf _ f2]; exact w3
      · intro p hp
        have e := q2 p hp
        rcases (show p = 0 ∨ p = 1 ∨ p = 2 ∨ p = 3 by omega) with rfl | rfl | rfl | rfl
        · show vv (mpick false .gt y0 F[i * 3 + 0]) = (col F 3 0 (i + 1)).foldl lmax (vv (mx.getD 0 0))
          have e' : vv y0 = (col F 3 0 i).foldl lmax (vv (mx.getD 0 0)) := e
          rw [col_succ, List.foldl_append, ← e']; rw [gf _ f0]; exact o0
        · show vv (mpick false .gt y1 F[i * 3 + 1]) = (col F 3 1 (i + 1)).foldl lmax (vv (mx.getD 1 0))
          have e' : vv y1 = (col F 3 1 i).foldl lmax (vv (mx.getD 1 0)) := e
          rw [col_succ, List.foldl_append, ← e']; rw [gf _ f1]; exact o1
        · exact e
        · show vv (mpick false .gt y3 F[i * 3 + 2]) = (col F 3 2 (i + 1)).foldl lmax (vv (mx.getD 3 0))
          have e' : vv y3 = (col F 3 2 i).foldl lmax (vv (mx.getD 3 0)) := e
          rw [col_succ, List.foldl_append, ← e']; rw [gf _ f2]; exact o3
      · have hlt : i * 3 < F.length := by omega
        have j0 : ∀ (l : List Nat) (x y z t : Nat), idx [x, y, z, t] 0 = some x ∧ idx [x, y, z, t] 1 = some y ∧ idx [x, y, z, t] 3 = some t := fun l x y z t => ⟨rfl, rfl, rfl⟩
        have s0 : (0 : Int).toNat = 0 := rfl
        have s1 : (1 : Int).toNat = 1 := rfl
        have s3 : (3 : Int).toNat = 3 := rfl
        simp only [gogeom_Bounds_extendXYZMFlatCoordsWithXYM_l1, gogeom_Bounds_extendXYZMFlatCoordsWithXYM_l1s, lt_true hlt, br_true, a0, a1, a2, a3, idx_get f0, idx_get f1, idx_get f2, math_Min, math_Max, Option.bind_eq_bind, Option.bind_some, s0, s1, s3, List.set_cons_zero, List.set_cons_succ, (j0 [] _ _ _ _).1, (j0 [] _ _ _ _).2.1, (j0 [] _ _ _ _).2.2]
    · obtain rfl : i = N := by omega
      exact .inl ⟨(a, b), by simp only [gogeom_Bounds_extendXYZMFlatCoordsWithXYM_l1, gogeom_Bounds_extendXYZMFlatCoordsWithXYM_l1s, lt_false (show ¬ i * 3 < F.length by omega), br_false], l1, l2, m1, m2, q1, q2⟩) N (mn, mx, 0) k ⟨0, by simp, by omega, hs, hs2, n1, n2, fun a ha => by
        rcases (show a = 0 ∨ a = 1 ∨ a = 2 ∨ a = 3 by omega) with rfl | rfl | rfl | rfl <;> rfl, fun a ha => by
        rcases (show a = 0 ∨ a = 1 ∨ a = 2 ∨ a = 3 by omega) with rfl | rfl | rfl | rfl <;> rfl⟩ (by omega)
end Go.Proofs.Ytmagcmeknclljaa
