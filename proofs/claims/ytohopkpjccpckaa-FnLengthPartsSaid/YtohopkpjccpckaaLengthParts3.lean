/-
  The length of a geometry of parts is the sum of those of its parts: what the package tells of a geometry and of its parts, and the law. Ours.
-/
import Derived.Test.YtohopkpjccpckaaLengthParts2
namespace Go.Proofs.Ytohopkpjccpckaa
open Go.Sx
set_option linter.unusedVariables false
set_option linter.unusedSimpArgs false
set_option maxRecDepth 100000

/-! #### lengths of geometries -/
theorem geo_kid (k : Nat) (kid x1 : Int) (s : Nat) (hkid : kid = 8 ∨ kid = 2) (h1 : 1 ≤ x1) (hs : stri x1 = (s : Int)) (hs2 : 2 ≤ s) (c : List Nat) (hc : Thou c) (hl : c.length ≤ 2147483647) (hsl : s + c.length ≤ 9223372036854775807) (hm : c.length % s = 0) (hk : c.length + 3 < k) :
    impl_Length k kid x1 0 c [] [] [] = some (LW c s (cn 0 c.length s) s 0, true) := by
  obtain ⟨k, rfl⟩ : ∃ j, k = j + 1 := ⟨k - 1, by omega⟩
  have hlen := len1_is c hc hl s ⟨hs2, hsl⟩ 0 c.length (k + 1) (by omega) (Nat.le_refl _) (by simpa using hm) (by omega)
  rw [Nat.zero_add] at hlen
  have hlen' : gogeom_length1 (k + 1) c 0 (c.length : Int) (s : Int) = some (LW c s (cn 0 c.length s) s 0) := hlen
  unfold impl_Length
  have hg : impl_geometry (k + 1) kid x1 0 c [] [] [] = impl_geometry_b (impl_geometry k) k kid x1 0 c [] [] [] := rfl
  rw [hg]
  unfold impl_geometry_b
  rw [floats_is _ _ hl, sbind]
  rcases hkid with rfl | rfl
  · simp only [show decide ((8 : Int) = 1) = false from rfl, show decide ((8 : Int) = 2) = false from rfl, show decide ((8 : Int) = 8) = true from rfl, decide_true, br_false, br_true, gogeom_NewLinearRingFlat, gogeom_LinearRing_SetSRID, lstride_is _ _ h1, hs, sbind, gogeom_LinearRing_Length, hlen']
  · simp only [show decide ((2 : Int) = 1) = false from rfl, show decide ((2 : Int) = 2) = true from rfl, decide_true, br_false, br_true, gogeom_NewLineStringFlat, gogeom_LineString_SetSRID, lstride_is _ _ h1, hs, sbind, gogeom_LineString_Length, hlen']

theorem geo_rows (k : Nat) (x0 x1 x2 : Int) (s : Nat) (h0 : x0 = 3 ∨ x0 = 5) (h1 : 1 ≤ x1) (hs : stri x1 = (s : Int)) (hs2 : 2 ≤ s) (c : List Nat) (hc : Thou c) (hl : c.length ≤ 2147483647) (hsl : s + c.length ≤ 9223372036854775807) (P : Nat → Nat) (hP0 : P 0 = 0) (es : List Int) (he : es.length ≤ 2147483647) (h : CH P es s c.length) (hk : es.length + c.length + 3 < k) :
    impl_Length k x0 x1 x2 c es [] [] = some (W2 c s P es.length, true) := by
  obtain ⟨k, rfl⟩ : ∃ j, k = j + 1 := ⟨k - 1, by omega⟩
  have hlen := len2_is c hc hl s ⟨hs2, hsl⟩ P es he h (k + 1) (by omega)
  rw [hP0] at hlen
  have hlen' : gogeom_length2 (k + 1) c 0 es (s : Int) = some (W2 c s P es.length) := hlen
  unfold impl_Length
  have hg : impl_geometry (k + 1) x0 x1 x2 c es [] [] = impl_geometry_b (impl_geometry k) k x0 x1 x2 c es [] [] := rfl
  rw [hg]
  unfold impl_geometry_b
  rw [floats_is _ _ hl, sbind]
  by_cases hes : es = []
  · subst hes
    rcases h0 with rfl | rfl
    · simp only [show decide ((3 : Int) = 1) = false from rfl, show decide ((3 : Int) = 2) = false from rfl, show decide ((3 : Int) = 8) = false from rfl, show decide ((3 : Int) = 3) = true from rfl, decide_true, br_false, br_true, ints_nil, gogeom_NewPolygonFlat, gogeom_Polygon_SetSRID, lstride_is _ _ h1, hs, sbind, gogeom_Polygon_Length, hlen']
    · simp only [show decide ((5 : Int) = 1) = false from rfl, show decide ((5 : Int) = 2) = false from rfl, show decide ((5 : Int) = 8) = false from rfl, show decide ((5 : Int) = 3) = false from rfl, show decide ((5 : Int) = 4) = false from rfl, show decide ((5 : Int) = 5) = true from rfl, decide_true, br_false, br_true, ints_nil, gogeom_NewMultiLineStringFlat, gogeom_MultiLineString_SetSRID, lstride_is _ _ h1, hs, sbind, gogeom_MultiLineString_Length, hlen']
  · rcases h0 with rfl | rfl
    · simp only [show decide ((3 : Int) = 1) = false from rfl, show decide ((3 : Int) = 2) = false from rfl, show decide ((3 : Int) = 8) = false from rfl, show decide ((3 : Int) = 3) = true from rfl, decide_true, br_false, br_true, ints_cons _ _ he hes, gogeom_NewPolygonFlat_v2, gogeom_Polygon_SetSRID_v2, lstride_is _ _ h1, hs, sbind, gogeom_Polygon_Length, hlen']
    · simp only [show decide ((5 : Int) = 1) = false from rfl, show decide ((5 : Int) = 2) = false from rfl, show decide ((5 : Int) = 8) = false from rfl, show decide ((5 : Int) = 3) = false from rfl, show decide ((5 : Int) = 4) = false from rfl, show decide ((5 : Int) = 5) = true from rfl, decide_true, br_false, br_true, ints_cons _ _ he hes, gogeom_NewMultiLineStringFlat_v2, gogeom_MultiLineString_SetSRID_v2, lstride_is _ _ h1, hs, sbind, gogeom_MultiLineString_Length, hlen']

/-! #### lists of ends -/
def FAA (xs : List (List Int)) (s : Nat) : Prop := ∀ j, j < xs.length → ∀ m, m < (xs.getD j []).length → FA (QQ xs j) (xs.getD j []) s m
theorem FA_le {p : Nat} {es : List Int} {s : Nat} (h : ∀ j, j < es.length → FA p es s j) : ∀ n i, es.length - i = n → i ≤ es.length → PF p es i ≤ PF p es es.length := by
  intro n
  induction n with
  | zero => intro i hn hi
            have : i = es.length := by omega
            subst this; exact Nat.le_refl _
  | succ n ih => intro i hn hi
                 have h1 := (h i (by omega)).2.1
                 have h2 := ih (i + 1) (by omega) (by omega)
                 omega
theorem QQ_step {xs : List (List Int)} {s : Nat} (h : FAA xs s) (j : Nat) (hj : j < xs.length) : QQ xs j ≤ QQ xs (j + 1) := by
  have := FA_le (h j hj) (xs.getD j []).length 0 (by omega) (by omega)
  rw [PF_zero] at this; exact this
theorem QQ_le {xs : List (List Int)} {s : Nat} (h : FAA xs s) : ∀ n i, xs.length - i = n → i ≤ xs.length → QQ xs i ≤ QQ xs xs.length := by
  intro n
  induction n with
  | zero => intro i hn hi
            have : i = xs.length := by omega
            subst this; exact Nat.le_refl _
  | succ n ih => intro i hn hi
                 have h1 := QQ_step h i (by omega)
                 have h2 := ih (i + 1) (by omega) (by omega)
                 omega
theorem CH_of {xs : List (List Int)} {s top : Nat} (h : FAA xs s) (ht : QQ xs xs.length ≤ top) (j : Nat) (hj : j < xs.length) : CH (PF (QQ xs j) (xs.getD j [])) (xs.getD j []) s top :=
  ⟨h j hj, by have := QQ_le h (xs.length - (j + 1)) (j + 1) rfl (by omega); rw [QQ] at this; omega⟩
theorem last_is {xs : List (List Int)} {s : Nat} (h : FAA xs s) (j : Nat) (hj : j < xs.length) (hne : 0 < (xs.getD j []).length) : (xs.getD j []).getD ((xs.getD j []).length - 1) 0 = (QQ xs (j + 1) : Int) := by
  have := (h j hj ((xs.getD j []).length - 1) (by omega)).1
  rw [show (xs.getD j []).length - 1 + 1 = (xs.getD j []).length from by omega] at this
  exact this
theorem idx_last {es : List Int} (h : 0 < es.length) (hl : es.length ≤ 2147483647) : idx es (isub .i64 (es.length : Int) 1) = some (es.getD (es.length - 1) 0) := by
  rw [isub_i64 (by omega) (by omega), show (es.length : Int) - 1 = ((es.length - 1 : Nat) : Int) from by omega, idx_get (show es.length - 1 < es.length by omega)]
  congr 1
  simp [List.getD, List.getElem?_eq_getElem (show es.length - 1 < es.length by omega)]

def W3 (a : List Nat) (s : Nat) (xs : List (List Int)) : Nat → Nat
  | 0 => 0
  | j + 1 => gadd (W3 a s xs j) (W2 a s (PF (QQ xs j) (xs.getD j [])) (xs.getD j []).length)
theorem W3_bound (a : List Nat) (ha : Thou a) (hl : a.length ≤ 2147483647) (s : Nat) (hs : 2 ≤ s) {xs : List (List Int)} (h : FAA xs s) (ht : QQ xs xs.length ≤ a.length) : ∀ j, j ≤ xs.length → ∃ B : Nat, D (W3 a s xs j) (B : Int) 0 ∧ B ≤ QQ xs j * 2 ^ 1086
  | 0, _ => ⟨0, D_zero 0, Nat.zero_le _⟩
  | j + 1, hj => by
    obtain ⟨A, a1, a2⟩ := W3_bound a ha hl s hs h ht j (by omega)
    have hCH := CH_of h ht j (by omega)
    obtain ⟨B, b1, b2, b3⟩ := W2_bound a ha hl s hs hCH (xs.getD j []).length (Nat.le_refl _)
    rw [PF_zero] at b2 b3
    have hq := QQ_le h (xs.length - (j + 1)) (j + 1) rfl (by omega)
    have hq2 := QQ_step h j (by omega)
    obtain ⟨C, c1, c2⟩ := add_bound a1 b1 a2 b2 (by rw [QQ] at hq hq2; omega) (by omega)
    refine ⟨C, c1, ?_⟩
    rw [show QQ xs j + (PF (QQ xs j) (xs.getD j []) (xs.getD j []).length - QQ xs j) = QQ xs (j + 1) from by rw [QQ]; omega] at c2; exact c2
theorem pack3 (a : List Nat) (ha : Thou a) (hl : a.length ≤ 2147483647) (s : Nat) (hs : 2 ≤ s ∧ s + a.length ≤ 9223372036854775807) (xs : List (List Int)) (hx : xs.length ≤ 2147483647) (hxl : ∀ es ∈ xs, es.length ≤ 2147483647) (h : FAA xs s) (ht : QQ xs xs.length ≤ a.length) (hne : ∀ j, j < xs.length → 0 < (xs.getD j []).length) : ∀ (n j k : Nat), xs.length - j = n → n + a.length + 2147483650 < k → j ≤ xs.length →
    gogeom_length3_l1 xs a (s : Int) k ((QQ xs j : Int), W3 a s xs j, (j : Int)) = some (W3 a s xs xs.length) := by
  intro n
  induction n with
  | zero =>
    intro j k hn hk hj
    obtain ⟨k, rfl⟩ : ∃ j, k = j + 1 := ⟨k - 1, by omega⟩
    have : j = xs.length := by omega
    subst this
    simp only [gogeom_length3_l1, gogeom_length3_l1s, lt_false (Nat.lt_irrefl _), br_false]
  | succ n ih =>
    intro j k hn hk hj
    obtain ⟨k, rfl⟩ : ∃ j, k = j + 1 := ⟨k - 1, by omega⟩
    have hlt : j < xs.length := by omega
    have hg : xs.getD j [] = xs[j] := by simp [List.getD, List.getElem?_eq_getElem hlt]
    have hlj : (xs.getD j []).length ≤ 2147483647 := by rw [hg]; exact hxl _ (List.getElem_mem hlt)
    have h2 := len2_is a ha hl s hs (PF (QQ xs j) (xs.getD j [])) (xs.getD j []) hlj (CH_of h ht j hlt) k (by omega)
    rw [PF_zero] at h2
    have hL := last_is h j hlt (hne j hlt)
    have hi := idx_last (hne j hlt) hlj
    rw [hL] at hi
    have := ih (j + 1) k (by omega) (by omega) (by omega)
    simp only [gogeom_length3_l1, gogeom_length3_l1s, lt_true hlt, br_true, idx_get hlt, ← hg, h2, hi, Option.bind_eq_bind, Option.bind_some, iadd_one (show j < 9223372036854775807 by omega)]
    exact this
theorem geo_polys (k : Nat) (x1 x2 : Int) (s : Nat) (h1 : 1 ≤ x1) (hs : stri x1 = (s : Int)) (hs2 : 2 ≤ s) (c : List Nat) (hc : Thou c) (hl : c.length ≤ 2147483647) (hsl : s + c.length ≤ 9223372036854775807) (xs : List (List Int)) (hx : xs.length ≤ 2147483647) (hxl : ∀ es ∈ xs, es.length ≤ 2147483647) (h : FAA xs s) (ht : QQ xs xs.length ≤ c.length) (hne : ∀ j, j < xs.length → 0 < (xs.getD j []).length) (hk : 10000000000 < k) :
    impl_Length k 6 x1 x2 c [] xs [] = some (W3 c s xs xs.length, true) := by
  obtain ⟨k, rfl⟩ : ∃ j, k = j + 1 := ⟨k - 1, by omega⟩
  have hlen := pack3 c hc hl s ⟨hs2, hsl⟩ xs hx hxl h ht hne xs.length 0 (k + 1) (by omega) (by omega) (by omega)
  have hlen' : gogeom_length3_l1 xs c (s : Int) (k + 1) (0, 0, 0) = some (W3 c s xs xs.length) := hlen
  unfold impl_Length
  have hg : impl_geometry (k + 1) 6 x1 x2 c [] xs [] = impl_geometry_b (impl_geometry k) k 6 x1 x2 c [] xs [] := rfl
  rw [hg]
  unfold impl_geometry_b
  rw [floats_is _ _ hl, sbind]
  simp only [show decide ((6 : Int) = 1) = false from rfl, show decide ((6 : Int) = 2) = false from rfl, show decide ((6 : Int) = 8) = false from rfl, show decide ((6 : Int) = 3) = false from rfl, show decide ((6 : Int) = 4) = false from rfl, show decide ((6 : Int) = 5) = false from rfl, show decide ((6 : Int) = 6) = true from rfl, decide_true, br_false, br_true, intss_is k xs hx hxl (by omega), gogeom_NewMultiPolygonFlat, gogeom_MultiPolygon_SetSRID, lstride_is _ _ h1, hs, sbind, gogeom_MultiPolygon_Length, gogeom_length3, hlen']

/-! #### the parts themselves -/
theorem part_rows (k : Nat) (x0 x1 x2 : Int) (h0 : x0 = 3 ∨ x0 = 5) (c : List Nat) (hl : c.length ≤ 2147483647) (es : List Int) (he : es.length ≤ 2147483647) (s : Nat) (h : CH (PF 0 es) es s c.length) (j : Nat) (hj : j < es.length) :
    spec_Part k x0 x1 x2 c es [] [] (j : Int) = some (if x0 = 3 then 8 else 2, x1, 0, (c.take (PF 0 es (j + 1))).drop (PF 0 es j), [], [], []) := by
  obtain ⟨h1, h2, h3⟩ := h.1 j hj
  have hg : es.getD j 0 = es[j] := by simp [List.getD, List.getElem?_eq_getElem hj]
  rw [hg] at h1
  have hP := CH_le h (es.length - (j + 1)) (j + 1) rfl (by omega)
  have hj4 : ∀ kid : Int, spec_Part_j4 k es (j : Int) c (PF 0 es j : Int) x1 kid = some (kid, x1, 0, (c.take (PF 0 es (j + 1))).drop (PF 0 es j), [], [], []) := fun kid => by
    unfold spec_Part_j4
    rw [idx_get hj, sbind, h1, cut_some (by omega) (by omega) (by omega), sbind, apd_some (by simp; omega) (by simp; omega)]
    simp
  have hj3 : spec_Part_j3 k x0 es (j : Int) c x1 (PF 0 es j : Int) = some (if x0 = 3 then 8 else 2, x1, 0, (c.take (PF 0 es (j + 1))).drop (PF 0 es j), [], [], []) := by
    unfold spec_Part_j3
    rcases h0 with rfl | rfl
    · rw [show (!decide ((3 : Int) = 3)) = false from rfl, br_false, hj4]; rfl
    · rw [show (!decide ((5 : Int) = 3)) = true from rfl, br_true, show spec_KidOf k 5 = some 2 from rfl, sbind, hj4]; rfl
  unfold spec_Part
  rw [decide_eq_false (show ¬ x0 = 7 by omega), br_false, decide_eq_false (show ¬ x0 = 6 by omega), br_false]
  rcases Nat.eq_zero_or_pos j with hz | hz
  · subst hz
    rw [show decide ((0 : Int) < ((0 : Nat) : Int)) = false from rfl, br_false]
    exact hj3
  · rw [decide_eq_true (show (0 : Int) < (j : Int) by omega), br_true, isub_i64 (by omega) (by omega), show (j : Int) - 1 = ((j - 1 : Nat) : Int) from by omega, idx_get (show j - 1 < es.length by omega), sbind]
    obtain ⟨q1, _, _⟩ := h.1 (j - 1) (by omega)
    rw [show es.getD (j - 1) 0 = es[j - 1] from by simp [List.getD, List.getElem?_eq_getElem (show j - 1 < es.length by omega)], show j - 1 + 1 = j from by omega] at q1
    rw [q1]
    exact hj3

theorem from_loop (xs : List (List Int)) (hxl : ∀ es ∈ xs, es.length ≤ 2147483647) (hx : xs.length ≤ 2147483647) {s : Nat} (h : FAA xs s) (hne : ∀ j, j < xs.length → 0 < (xs.getD j []).length) (N : Nat) (hN : N ≤ xs.length) : ∀ (n j k : Nat), N - j = n → n < k → j ≤ N →
    spec_Part_l1 (xs.take N) k ((QQ xs j : Int), (j : Int)) = some (QQ xs N : Int) := by
  intro n
  induction n with
  | zero =>
    intro j k hn hk hj
    obtain ⟨k, rfl⟩ : ∃ j, k = j + 1 := ⟨k - 1, by omega⟩
    have : j = N := by omega
    subst this
    simp only [spec_Part_l1, spec_Part_l1s, lt_false (show ¬ j < (xs.take j).length by rw [List.length_take]; omega), br_false]
  | succ n ih =>
    intro j k hn hk hj
    obtain ⟨k, rfl⟩ : ∃ j, k = j + 1 := ⟨k - 1, by omega⟩
    have hlt : j < xs.length := by omega
    have hltN : j < (xs.take N).length := by rw [List.length_take]; omega
    have hg : xs.getD j [] = xs[j] := by simp [List.getD, List.getElem?_eq_getElem hlt]
    have hget : (xs.take N)[j] = xs.getD j [] := by rw [List.getElem_take, hg]
    have hlj : (xs.getD j []).length ≤ 2147483647 := by rw [hg]; exact hxl _ (List.getElem_mem hlt)
    have hi := idx_last (hne j hlt) hlj
    rw [last_is h j hlt (hne j hlt)] at hi
    have h0 : decide (0 < ((xs.getD j []).length : Int)) = true := decide_eq_true (by have := hne j hlt; omega)
    have := ih (j + 1) k (by omega) (by omega) (by omega)
    simp only [spec_Part_l1, spec_Part_l1s, lt_true hltN, br_true, idx_get hltN, hget, h0, hi, spec_Part_j2, Option.bind_eq_bind, Option.bind_some, iadd_one (show j < 9223372036854775807 by omega)]
    exact this
theorem shift_loop (p : Nat) (es : List Int) (hl : es.length ≤ 2147483647) {s : Nat} (h : ∀ j, j < es.length → FA p es s j) (hp : PF p es es.length ≤ 2147483647) : ∀ (n j k : Nat) (xs : List Int), es.length - j = n → n < k → j ≤ es.length → xs = (es.take j).map (· - (p : Int)) →
    spec_Part_l2 es (p : Int) k (xs, (PF p es j : Int), (j : Int)) = some (es.map (· - (p : Int)), (PF p es es.length : Int)) := by
  intro n
  induction n with
  | zero =>
    intro j k xs hn hk hj hx
    obtain ⟨k, rfl⟩ : ∃ j, k = j + 1 := ⟨k - 1, by omega⟩
    have : j = es.length := by omega
    subst this
    rw [List.take_length] at hx
    simp only [spec_Part_l2, spec_Part_l2s, lt_false (Nat.lt_irrefl _), br_false, hx]
  | succ n ih =>
    intro j k xs hn hk hj hx
    obtain ⟨k, rfl⟩ : ∃ j, k = j + 1 := ⟨k - 1, by omega⟩
    have hlt : j < es.length := by omega
    obtain ⟨h1, h2, h3⟩ := h j hlt
    have hg : es.getD j 0 = es[j] := by simp [List.getD, List.getElem?_eq_getElem hlt]
    rw [hg] at h1
    have hb := FA_le h (es.length - (j + 1)) (j + 1) rfl (by omega)
    have hb0 := FA_le h es.length 0 (by omega) (by omega)
    rw [PF_zero] at hb0
    have hsub : isub .i64 es[j] (p : Int) = es[j] - (p : Int) := isub_i64 (by omega) (by omega)
    have hxl : xs.length = j := by rw [hx, List.length_map, List.length_take]; omega
    have ha : apd 8 xs [es[j] - (p : Int)] = some (xs ++ [es[j] - (p : Int)]) := apd_some (by simp; omega) (by simp; omega)
    have hx' : xs ++ [es[j] - (p : Int)] = (es.take (j + 1)).map (· - (p : Int)) := by
      rw [hx, List.take_succ_eq_append_getElem hlt, List.map_append]; rfl
    have := ih (j + 1) k _ (by omega) (by omega) (by omega) hx'
    rw [← h1] at this
    simp only [spec_Part_l2, spec_Part_l2s, lt_true hlt, br_true, idx_get hlt, hsub, ha, Option.bind_eq_bind, Option.bind_some, iadd_one (show j < 9223372036854775807 by omega)]
    exact this
theorem part_polys (k : Nat) (x1 x2 : Int) (c : List Nat) (hl : c.length ≤ 2147483647) (xs : List (List Int)) (hx : xs.length ≤ 2147483647) (hxl : ∀ es ∈ xs, es.length ≤ 2147483647) (s : Nat) (h : FAA xs s) (ht : QQ xs xs.length ≤ c.length) (hne : ∀ j, j < xs.length → 0 < (xs.getD j []).length) (j : Nat) (hj : j < xs.length) (hk : 5000000000 < k) :
    spec_Part k 6 x1 x2 c [] xs [] (j : Int) = some (3, x1, 0, (c.take (QQ xs (j + 1))).drop (QQ xs j), (xs.getD j []).map (· - (QQ xs j : Int)), [], []) := by
  have hg : xs.getD j [] = xs[j] := by simp [List.getD, List.getElem?_eq_getElem hj]
  have hlj : (xs.getD j []).length ≤ 2147483647 := by rw [hg]; exact hxl _ (List.getElem_mem hj)
  have hq := QQ_le h (xs.length - (j + 1)) (j + 1) rfl (by omega)
  have hq2 := QQ_step h j hj
  have f1 := from_loop xs hxl hx h hne j (by omega) j 0 k (by omega) (by omega) (by omega)
  have f1' : spec_Part_l1 (xs.take j) k (0, 0) = some (QQ xs j : Int) := f1
  have f2 := shift_loop (QQ xs j) (xs.getD j []) hlj (h j hj) (by rw [QQ] at hq; omega) (xs.getD j []).length 0 k [] (by omega) (by omega) (by omega) rfl
  have f2' : spec_Part_l2 (xs.getD j []) (QQ xs j : Int) k ([], (QQ xs j : Int), 0) = some ((xs.getD j []).map (· - (QQ xs j : Int)), (QQ xs (j + 1) : Int)) := f2
  unfold spec_Part
  rw [show decide ((6 : Int) = 7) = false from rfl, br_false, show decide ((6 : Int) = 6) = true from rfl, br_true, cut_some (by omega) (by omega) (by omega), sbind]
  rw [show (List.drop (0 : Int).toNat (xs.take (j : Int).toNat)) = xs.take j from by simp, f1', sbind, idx_get hj, sbind, ← hg, f2', sbind]
  simp only
  rw [cut_some (by omega) (by omega) (by omega), sbind, apd_some (by simp; omega) (by simp; omega), sbind]
  simp

theorem map_getD (es : List Int) (c : Int) (m : Nat) (hm : m < es.length) : (es.map (· - c)).getD m 0 = es.getD m 0 - c := by
  simp [List.getD, List.getElem?_map, List.getElem?_eq_getElem hm]
/-- the shifted ends of a part -/
theorem CH_shift {xs : List (List Int)} {s : Nat} (h : FAA xs s) (j : Nat) (hj : j < xs.length) : CH (fun i => PF (QQ xs j) (xs.getD j []) i - QQ xs j) ((xs.getD j []).map (· - (QQ xs j : Int))) s (QQ xs (j + 1) - QQ xs j) := by
  have hle : ∀ n i, i = n → i ≤ (xs.getD j []).length → QQ xs j ≤ PF (QQ xs j) (xs.getD j []) i := by
    intro n
    induction n with
    | zero => intro i hi _; subst hi; exact Nat.le_refl _
    | succ n ih => intro i hi h2
                   subst hi
                   have := ih n rfl (by omega)
                   have := (h j hj n (by omega)).2.1
                   omega
  refine ⟨fun m hm => ?_, ?_⟩
  · rw [List.length_map] at hm
    obtain ⟨h1, h2, h3⟩ := h j hj m hm
    have l1 := hle m m rfl (by omega)
    have l2 := hle (m + 1) (m + 1) rfl (by omega)
    refine ⟨?_, by simp only; omega, ?_⟩
    · rw [map_getD _ _ m hm, h1]
      simp only; omega
    · simp only
      rw [show PF (QQ xs j) (xs.getD j []) (m + 1) - QQ xs j - (PF (QQ xs j) (xs.getD j []) m - QQ xs j) = PF (QQ xs j) (xs.getD j []) (m + 1) - PF (QQ xs j) (xs.getD j []) m from by omega]
      exact h3
  · rw [List.length_map]; exact Nat.le_refl _

theorem hollow_is (xs : List (List Int)) (hx : xs.length ≤ 2147483647) : ∀ (n k j : Nat), xs.length - j = n → n < k → j ≤ xs.length → ∃ y, laws_gHollow_l1 xs k (j : Int) = some y ∧ (y = .inr () → ∀ i, j ≤ i → i < xs.length → 0 < (xs.getD i []).length) := by
  intro n
  induction n with
  | zero =>
    intro k j hn hk hj
    obtain ⟨k, rfl⟩ : ∃ j, k = j + 1 := ⟨k - 1, by omega⟩
    exact ⟨.inr (), by simp only [laws_gHollow_l1, laws_gHollow_l1s, lt_false (show ¬ j < xs.length by omega), br_false], fun _ i h1 h2 => by omega⟩
  | succ n ih =>
    intro k j hn hk hj
    obtain ⟨k, rfl⟩ : ∃ j, k = j + 1 := ⟨k - 1, by omega⟩
    have hlt : j < xs.length := by omega
    have hg : xs.getD j [] = xs[j] := by simp [List.getD, List.getElem?_eq_getElem hlt]
    obtain ⟨y, y1, y2⟩ := ih k (j + 1) (by omega) (by omega) (by omega)
    by_cases h0 : (xs[j].length : Int) = 0
    · refine ⟨.inl (), ?_, fun h => by cases h⟩
      simp only [laws_gHollow_l1, laws_gHollow_l1s, lt_true hlt, br_true, idx_get hlt, Option.bind_eq_bind, Option.bind_some, decide_eq_true h0]
    · refine ⟨y, ?_, fun h i h1 h2 => ?_⟩
      · simp only [laws_gHollow_l1, laws_gHollow_l1s, lt_true hlt, br_true, br_false, idx_get hlt, Option.bind_eq_bind, Option.bind_some, decide_eq_false h0, iadd_one (show j < 9223372036854775807 by omega), y1]
      · by_cases hi : i = j
        · subst hi; rw [hg]; omega
        · exact y2 h i (by omega) h2
theorem gHollow_is (k : Nat) (x0 x1 x2 : Int) (x3 : List Nat) (x4 : List Int) (x5 : List (List Int)) (x6 : List T27) (hx : x5.length ≤ 2147483647) (hk : x5.length < k) : ∃ b, laws_gHollow k x0 x1 x2 x3 x4 x5 x6 = some b ∧ (b = false → ∀ i, i < x5.length → 0 < (x5.getD i []).length) := by
  obtain ⟨y, y1, y2⟩ := hollow_is x5 hx x5.length k 0 (by omega) hk (by omega)
  have y1' : laws_gHollow_l1 x5 k 0 = some y := y1
  unfold laws_gHollow
  rw [y1', sbind]
  cases y with
  | inl u => exact ⟨true, rfl, fun h => by cases h⟩
  | inr u => exact ⟨false, rfl, fun _ i hi => y2 rfl i (by omega) hi⟩

/-- the end: both are one word -/
theorem end_is (k : Nat) (x0 x1 x2 : Int) (x3 : List Nat) (x4 : List Int) (x5 : List (List Int)) (w B : Nat) (f : Nat → T27) (N : Nat) (hD : D w (B : Int) 0)
    (h1 : impl_Length k x0 x1 x2 x3 x4 x5 [] = some (w, true)) (h2 : spec_Parts k x0 x1 x2 x3 x4 x5 [] = some ((List.range' 0 N).map f)) (h3 : laws_FnLengthParts_l1 ((List.range' 0 N).map f) k (true, 0, 0) = some (true, w)) :
    laws_FnLengthParts_j4 k x0 x1 x2 x3 x4 x5 [] false = some true := by
  have dz := near_self hD
  have hnum : num (gsub w w) = some (gsub w w) := by unfold num; rw [isn_D dz]; rfl
  unfold laws_FnLengthParts_j4
  rw [br_false, h1, sbind, h2, sbind]
  simp only
  rw [h3, sbind]
  simp only [br_true, sbind, hnum, abs_is _ _ (gsub_lt w w), laws_FnLengthParts_j7]
  rw [D_lt (D_nought (gsub_lt w w) dz 1054) D_tiny]
  rfl

theorem fact_FnLengthParts (a0 a1 a2 : Int) (a3 : List Nat) (a4 : List Int) (a5 : List (List Int)) (a6 : List T27)
    (g : (IntKind.min .i64 ≤ a0 ∧ a0 ≤ IntKind.max .i64) ∧ (IntKind.min .i64 ≤ a1 ∧ a1 ≤ IntKind.max .i64) ∧ (IntKind.min .i64 ≤ a2 ∧ a2 ≤ IntKind.max .i64) ∧ (a3.length ≤ maxLen ∧ ∀ y ∈ a3, y < 18446744073709551616) ∧ (a4.length ≤ maxLen ∧ ∀ y ∈ a4, IntKind.min .i64 ≤ y ∧ y ≤ IntKind.max .i64) ∧ (a5.length ≤ maxLen ∧ ∀ x ∈ a5, x.length ≤ maxLen ∧ ∀ y ∈ x, IntKind.min .i64 ≤ y ∧ y ≤ IntKind.max .i64) ∧ (a6.length ≤ maxLen ∧ ∀ y ∈ a6, T27.Ok y)) :
    ∃ k, laws_FnLengthParts k a0 a1 a2 a3 a4 a5 a6 = some true := by
  obtain ⟨g0, g1, g2, g3, g4, g5, g6, gk⟩ := g
  obtain ⟨K, hK⟩ := gPlain_is (T27.Ok.mk g0 g1 g2 g3 g4 g5 g6 gk)
  obtain ⟨M, hM⟩ : ∃ M, K + a5.length + 30000000000 = M := ⟨_, rfl⟩
  refine ⟨M, ?_⟩
  obtain ⟨t, hb, hbt⟩ := fits2_is M a0 a1 a2 a3 a4 a5 a6 g5.1 (by omega)
  unfold laws_FnLengthParts
  rw [hb, sbind]
  cases t
  · rfl
  obtain ⟨h3, h4, h5, h5', h6⟩ := hbt rfl
  rw [Bool.not_true, br_false]
  obtain ⟨p, hp, hpt⟩ := hK M (by omega)
  rw [hp, sbind]
  cases p
  · rfl
  obtain ⟨hk, hs, j, hg⟩ := hpt rfl
  obtain ⟨rfl, f5, f4⟩ := good_form hg (by omega)
  rw [Bool.not_true, br_false]
  obtain ⟨q, hq, hqt⟩ := gHollow_is M a0 a1 a2 a3 a4 a5 [] h5 (by omega)
  rw [hq, sbind]
  unfold laws_FnLengthParts_j1
  cases q
  case true => rfl
  rw [br_false]
  obtain ⟨e, he, het⟩ := gEach_is M a0 a1 a2 a3 a4 a5 g3.2 h3 (by omega)
  rw [he, sbind]
  unfold laws_FnLengthParts_j2
  cases e
  · rfl
  rw [Bool.not_true, br_false]
  have hT := het rfl
  have h1 := stri_pos hs
  obtain ⟨s, hs'⟩ : ∃ s : Nat, stri a1 = (s : Int) := Int.eq_ofNat_of_zero_le (by unfold stri; repeat' split <;> omega)
  have hs2 : 2 ≤ s := by
    have : 2 ≤ stri a1 := by unfold stri; repeat' split <;> omega
    omega
  have hsm : (s : Int) ≤ 9223372036854775807 := by
    have := g1.2; rw [kmax] at this
    rw [← hs']; unfold stri; repeat' split <;> omega
  have hsl : ∀ n : Nat, a3.length % s = 0 → n ≤ a3.length → s + n ≤ 9223372036854775807 := fun n hm hn => by
    rcases Nat.eq_zero_or_pos a3.length with h0 | h0
    · omega
    · have := Nat.le_of_dvd h0 (Nat.dvd_of_mod_eq_zero hm)
      omega
  by_cases k35 : a0 = 3 ∨ a0 = 5
  · obtain rfl : a5 = [] := f5.resolve_left (by omega)
    obtain ⟨hm, hge⟩ := good_rows k35 hs' hs2 hg
    obtain ⟨z1, z2⟩ := goodEnds_inv a4 s hs2 0 g4.2 h4 j _ 0 rfl (by omega) hge
    have hCH : CH (PF 0 a4) a4 s a3.length := ⟨z2, by omega⟩
    obtain ⟨B, b1, b2, b3⟩ := W2_bound a3 hT h3 s hs2 hCH a4.length (Nat.le_refl _)
    have hmain := geo_rows M a0 a1 a2 s k35 h1 hs' hs2 a3 hT h3 (hsl _ hm (Nat.le_refl _)) (PF 0 a4) rfl a4 h4 hCH (by omega)
    have hparts : spec_Parts M a0 a1 a2 a3 a4 [] [] = some ((List.range' 0 a4.length).map fun j => T27.mk (if a0 = 3 then 8 else 2) a1 0 ((a3.take (PF 0 a4 (j + 1))).drop (PF 0 a4 j)) [] [] []) := by
      have hn : spec_NumParts M a0 a1 a2 a3 a4 [] [] = some (a4.length : Int) := by
        rcases k35 with rfl | rfl <;> rfl
      unfold spec_Parts
      rw [hn, sbind]
      have := parts_gen a0 a1 a2 a3 a4 [] a4.length 0 (fun j => T27.mk (if a0 = 3 then 8 else 2) a1 0 ((a3.take (PF 0 a4 (j + 1))).drop (PF 0 a4 j)) [] [] []) h4 (fun j hj k _ => part_rows k a0 a1 a2 k35 a3 h3 a4 h4 s hCH j hj) a4.length 0 M [] (by omega) (by omega) (by omega) rfl
      have this' : spec_Parts_l1 (a4.length : Int) a0 a1 a2 a3 a4 [] [] M ([], 0) = some ((List.range' 0 a4.length).map fun j => T27.mk (if a0 = 3 then 8 else 2) a1 0 ((a3.take (PF 0 a4 (j + 1))).drop (PF 0 a4 j)) [] [] []) := by simpa using this
      rw [this', sbind]
    have hsum := sum_gen a4.length 2147483660 (fun j => T27.mk (if a0 = 3 then 8 else 2) a1 0 ((a3.take (PF 0 a4 (j + 1))).drop (PF 0 a4 j)) [] [] []) (fun j => LW a3 s (cn (PF 0 a4 j) (PF 0 a4 (j + 1)) s) (PF 0 a4 j + s) 0) (W2 a3 s (PF 0 a4)) h4 (fun _ => rfl) (fun j hj k hk => by
      obtain ⟨q1, q2, q3⟩ := hCH.1 j hj
      have hP := CH_le hCH (a4.length - (j + 1)) (j + 1) rfl (by omega)
      have hcl : ((a3.take (PF 0 a4 (j + 1))).drop (PF 0 a4 j)).length = PF 0 a4 (j + 1) - PF 0 a4 j := by rw [List.length_drop, List.length_take]; omega
      have := geo_kid k (if a0 = 3 then 8 else 2) a1 s (by split <;> omega) h1 hs' hs2 _ (Thou_cut hT (PF 0 a4 j) (PF 0 a4 (j + 1))) (by omega) (hsl _ hm (by omega)) (by rw [hcl]; exact q3) (by omega)
      have hcut := LW_cut a3 s (PF 0 a4 j) (PF 0 a4 (j + 1)) hP hs2 (cn 0 (PF 0 a4 (j + 1) - PF 0 a4 j) s) s 0 (Nat.le_refl _) (by
        rcases cn_is q2 q3 with hc | hc
        · exact .inl (by unfold cn at hc ⊢; simpa using hc.1)
        · exact .inr (by unfold cn at hc ⊢; simp only [Nat.sub_zero]; omega))
      rw [hcl, hcut] at this
      rw [show cn 0 (PF 0 a4 (j + 1) - PF 0 a4 j) s = cn (PF 0 a4 j) (PF 0 a4 (j + 1)) s from by unfold cn; simp] at this
      exact this) a4.length 0 M (by omega) (by omega) (by omega)
    have hfin := end_is M a0 a1 a2 a3 a4 [] _ B _ a4.length b1 hmain hparts hsum
    rcases k35 with rfl | rfl
    · exact hfin
    · exact hfin
  · by_cases k6 : a0 = 6
    · subst k6
      obtain rfl : a4 = [] := f4.resolve_left (by omega)
      obtain ⟨hm, hge⟩ := good_polys hs' hs2 hg
      have hne := hqt rfl
      obtain ⟨_, hz⟩ := good6_inv a5 s hs2 (fun es he x hx => (g5.2 es he).2 x hx) h5' h5 j 0 0 _ true hge (by omega)
      obtain ⟨z1, z2⟩ := hz rfl (by omega)
      have hF : FAA a5 s := fun j hj m hm => z2 j (by omega) hj m hm
      have ht : QQ a5 a5.length ≤ a3.length := by omega
      obtain ⟨B, b1, b2⟩ := W3_bound a3 hT h3 s hs2 hF ht a5.length (Nat.le_refl _)
      have hmain := geo_polys M a1 a2 s h1 hs' hs2 a3 hT h3 (hsl _ hm (Nat.le_refl _)) a5 h5 h5' hF ht hne (by omega)
      have hparts : spec_Parts M 6 a1 a2 a3 [] a5 [] = some ((List.range' 0 a5.length).map fun j => T27.mk 3 a1 0 ((a3.take (QQ a5 (j + 1))).drop (QQ a5 j)) ((a5.getD j []).map (· - (QQ a5 j : Int))) [] []) := by
        have hn : spec_NumParts M 6 a1 a2 a3 [] a5 [] = some (a5.length : Int) := rfl
        unfold spec_Parts
        rw [hn, sbind]
        have := parts_gen 6 a1 a2 a3 [] a5 a5.length 5000000001 (fun j => T27.mk 3 a1 0 ((a3.take (QQ a5 (j + 1))).drop (QQ a5 j)) ((a5.getD j []).map (· - (QQ a5 j : Int))) [] []) h5 (fun j hj k hk => part_polys k a1 a2 a3 h3 a5 h5 h5' s hF ht hne j hj (by omega)) a5.length 0 M [] (by omega) (by omega) (by omega) rfl
        have this' : spec_Parts_l1 (a5.length : Int) 6 a1 a2 a3 [] a5 [] M ([], 0) = some ((List.range' 0 a5.length).map fun j => T27.mk 3 a1 0 ((a3.take (QQ a5 (j + 1))).drop (QQ a5 j)) ((a5.getD j []).map (· - (QQ a5 j : Int))) [] []) := by simpa using this
        rw [this', sbind]
      have hsum := sum_gen a5.length 5000000000 (fun j => T27.mk 3 a1 0 ((a3.take (QQ a5 (j + 1))).drop (QQ a5 j)) ((a5.getD j []).map (· - (QQ a5 j : Int))) [] []) (fun j => W2 a3 s (PF (QQ a5 j) (a5.getD j [])) (a5.getD j []).length) (W3 a3 s a5) h5 (fun _ => rfl) (fun j hj k hk => by
        have hq := QQ_le hF (a5.length - (j + 1)) (j + 1) rfl (by omega)
        have hq2 := QQ_step hF j hj
        have hgj : a5.getD j [] = a5[j] := by simp [List.getD, List.getElem?_eq_getElem hj]
        have hlj : (a5.getD j []).length ≤ 2147483647 := by rw [hgj]; exact h5' _ (List.getElem_mem hj)
        have hcl : ((a3.take (QQ a5 (j + 1))).drop (QQ a5 j)).length = QQ a5 (j + 1) - QQ a5 j := by rw [List.length_drop, List.length_take]; omega
        have hsh := CH_shift hF j hj
        rw [← hcl] at hsh
        have := geo_rows k 3 a1 0 s (.inl rfl) h1 hs' hs2 _ (Thou_cut hT (QQ a5 j) (QQ a5 (j + 1))) (by omega) (hsl _ hm (by omega)) _ (by simp [PF_zero]) ((a5.getD j []).map (· - (QQ a5 j : Int))) (by rw [List.length_map]; exact hlj) hsh (by rw [List.length_map]; omega)
        rw [List.length_map] at this
        have hw := (W2_cut a3 s hs2 (PF (QQ a5 j) (a5.getD j [])) (a5.getD j []) (CH_of hF ht j hj) (QQ a5 j) (QQ a5 (j + 1)) rfl rfl (a5.getD j []).length (Nat.le_refl _)).1
        rw [hw] at this
        exact this) a5.length 0 M (by omega) (by omega) (by omega)
      exact end_is M 6 a1 a2 a3 [] a5 _ B _ a5.length b1 hmain hparts hsum
    · rw [decide_eq_false (show ¬ a0 = 3 by omega), Bool.not_false, br_true]
      unfold laws_FnLengthParts_j3
      rw [decide_eq_false (show ¬ a0 = 5 by omega), Bool.not_false, br_true, decide_eq_false k6]
      rfl
end Go.Proofs.Ytohopkpjccpckaa
