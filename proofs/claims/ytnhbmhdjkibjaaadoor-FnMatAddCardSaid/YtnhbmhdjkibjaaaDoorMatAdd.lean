/-
  Sums, differences and multiples of matrices: the plain statement. Ours.
-/
import Derived.Test.YtnhbmhdjkibjaaaDoorGridRows
namespace Go.Proofs.YtnhbmhdjkibjaaaDoor
open Go.Sx
open Ieee (signed)
set_option linter.unusedVariables false
set_option linter.unusedSimpArgs false
set_option maxRecDepth 100000

theorem D_1024 : D 4652218415073722368 ((1024 : Nat) : Int) 1074 := D_two 10 (by decide)
theorem offGrid_1024 {x : Nat} (hx : x < 2 ^ 64) (h : offGrid 4652218415073722368 x = false) : ∃ n : Int, D x n 1074 ∧ n.natAbs ≤ 1024 := by
  unfold offGrid at h
  simp only [Bool.not_eq_false', Bool.and_eq_true, Bool.not_eq_true'] at h
  exact grid_one (w := 4652218415073722368) (b := 1024) hx (by omega) D_1024 h.1.1 h.1.2 h.2
theorem prod_le {a b : Int} {m n : Nat} (h : a.natAbs ≤ m) (h' : b.natAbs ≤ n) : (a * b).natAbs ≤ m * n := by rw [Int.natAbs_mul]; exact Nat.mul_le_mul h h'
/-- the rows of a matrix: words and numbers -/
structure Mt (a0 a1 a2 a3 a4 a5 a6 a7 a8 : Nat) (m0 m1 m2 m3 m4 m5 m6 m7 m8 : Int) : Prop where
  d0 : D a0 m0 1074
  d1 : D a1 m1 1074
  d2 : D a2 m2 1074
  d3 : D a3 m3 1074
  d4 : D a4 m4 1074
  d5 : D a5 m5 1074
  d6 : D a6 m6 1074
  d7 : D a7 m7 1074
  d8 : D a8 m8 1074
  b0 : m0.natAbs ≤ 1024
  b1 : m1.natAbs ≤ 1024
  b2 : m2.natAbs ≤ 1024
  b3 : m3.natAbs ≤ 1024
  b4 : m4.natAbs ≤ 1024
  b5 : m5.natAbs ≤ 1024
  b6 : m6.natAbs ≤ 1024
  b7 : m7.natAbs ≤ 1024
  b8 : m8.natAbs ≤ 1024
theorem offs (l : List Nat) (h : ∀ m, m < l.length → offGrid 4652218415073722368 (l.getD m 0) = false) (hl : ∀ x ∈ l, x < 2 ^ 64) (i : Nat) (hi : i < l.length) : ∃ n : Int, D (l.getD i 0) n 1074 ∧ n.natAbs ≤ 1024 := by
  refine offGrid_1024 (hl _ ?_) (h i hi)
  rw [List.getD_eq_getElem?_getD, List.getElem?_eq_getElem hi]
  exact List.getElem_mem hi
theorem mt_of (a0 a1 a2 a3 a4 a5 a6 a7 a8 : Nat) (h0 : a0 < 2 ^ 64) (h1 : a1 < 2 ^ 64) (h2 : a2 < 2 ^ 64) (h3 : a3 < 2 ^ 64) (h4 : a4 < 2 ^ 64) (h5 : a5 < 2 ^ 64) (h6 : a6 < 2 ^ 64) (h7 : a7 < 2 ^ 64) (h8 : a8 < 2 ^ 64) (h : ∀ m, m < [a0, a1, a2, a3, a4, a5, a6, a7, a8].length → offGrid 4652218415073722368 ([a0, a1, a2, a3, a4, a5, a6, a7, a8].getD m 0) = false) : ∃ m0 m1 m2 m3 m4 m5 m6 m7 m8, Mt a0 a1 a2 a3 a4 a5 a6 a7 a8 m0 m1 m2 m3 m4 m5 m6 m7 m8 := by
  obtain ⟨m0, e0, q0⟩ := offGrid_1024 h0 (h 0 (by simp))
  obtain ⟨m1, e1, q1⟩ := offGrid_1024 h1 (h 1 (by simp))
  obtain ⟨m2, e2, q2⟩ := offGrid_1024 h2 (h 2 (by simp))
  obtain ⟨m3, e3, q3⟩ := offGrid_1024 h3 (h 3 (by simp))
  obtain ⟨m4, e4, q4⟩ := offGrid_1024 h4 (h 4 (by simp))
  obtain ⟨m5, e5, q5⟩ := offGrid_1024 h5 (h 5 (by simp))
  obtain ⟨m6, e6, q6⟩ := offGrid_1024 h6 (h 6 (by simp))
  obtain ⟨m7, e7, q7⟩ := offGrid_1024 h7 (h 7 (by simp))
  obtain ⟨m8, e8, q8⟩ := offGrid_1024 h8 (h 8 (by simp))
  exact ⟨m0, m1, m2, m3, m4, m5, m6, m7, m8, e0, e1, e2, e3, e4, e5, e6, e7, e8, q0, q1, q2, q3, q4, q5, q6, q7, q8⟩
theorem entries2_is (F : Nat) (hF : 100 < F) (a0 a1 a2 a3 a4 a5 a6 a7 a8 : Nat) (b0 b1 b2 b3 b4 b5 b6 b7 b8 : Nat) (h0 : a0 < 2 ^ 64) (h1 : a1 < 2 ^ 64) (h2 : a2 < 2 ^ 64) (h3 : a3 < 2 ^ 64) (h4 : a4 < 2 ^ 64) (h5 : a5 < 2 ^ 64) (h6 : a6 < 2 ^ 64) (h7 : a7 < 2 ^ 64) (h8 : a8 < 2 ^ 64) (g0 : b0 < 2 ^ 64) (g1 : b1 < 2 ^ 64) (g2 : b2 < 2 ^ 64) (g3 : b3 < 2 ^ 64) (g4 : b4 < 2 ^ 64) (g5 : b5 < 2 ^ 64) (g6 : b6 < 2 ^ 64) (g7 : b7 < 2 ^ 64) (g8 : b8 < 2 ^ 64) :
    ∃ b, laws_entries F [(a0, a1, a2, a3, a4, a5, a6, a7, a8), (b0, b1, b2, b3, b4, b5, b6, b7, b8)] = some b ∧ (b = true → (∃ m0 m1 m2 m3 m4 m5 m6 m7 m8, Mt a0 a1 a2 a3 a4 a5 a6 a7 a8 m0 m1 m2 m3 m4 m5 m6 m7 m8) ∧ ∃ n0 n1 n2 n3 n4 n5 n6 n7 n8, Mt b0 b1 b2 b3 b4 b5 b6 b7 b8 n0 n1 n2 n3 n4 n5 n6 n7 n8) := by
  obtain ⟨F, rfl⟩ : ∃ f, F = f + 3 := ⟨F - 3, by omega⟩
  obtain ⟨b, hg, hb⟩ := grid_rows (F + 2) [[a0, a1, a2, a3, a4, a5, a6, a7, a8]] 9 (by omega) 4652218415073722368 (by simp) (by simp; omega)
  have hg' : spec_Grid (F + 2) [[a0, a1, a2, a3, a4, a5, a6, a7, a8]] 9 4652218415073722368 = some b := hg
  obtain ⟨c, hc, hc2⟩ := grid_rows (F + 1) [[b0, b1, b2, b3, b4, b5, b6, b7, b8]] 9 (by omega) 4652218415073722368 (by simp) (by simp; omega)
  have hc' : spec_Grid (F + 1) [[b0, b1, b2, b3, b4, b5, b6, b7, b8]] 9 4652218415073722368 = some c := hc
  have i0 : idx [(a0, a1, a2, a3, a4, a5, a6, a7, a8), (b0, b1, b2, b3, b4, b5, b6, b7, b8)] 0 = some (a0, a1, a2, a3, a4, a5, a6, a7, a8) := rfl
  have i1 : idx [(a0, a1, a2, a3, a4, a5, a6, a7, a8), (b0, b1, b2, b3, b4, b5, b6, b7, b8)] 1 = some (b0, b1, b2, b3, b4, b5, b6, b7, b8) := rfl
  have l0 : decide ((0 : Int) < (([(a0, a1, a2, a3, a4, a5, a6, a7, a8), (b0, b1, b2, b3, b4, b5, b6, b7, b8)] : List (Nat × Nat × Nat × Nat × Nat × Nat × Nat × Nat × Nat)).length : Int)) = true := rfl
  have l1 : decide ((1 : Int) < (([(a0, a1, a2, a3, a4, a5, a6, a7, a8), (b0, b1, b2, b3, b4, b5, b6, b7, b8)] : List (Nat × Nat × Nat × Nat × Nat × Nat × Nat × Nat × Nat)).length : Int)) = true := rfl
  have l2 : decide ((2 : Int) < (([(a0, a1, a2, a3, a4, a5, a6, a7, a8), (b0, b1, b2, b3, b4, b5, b6, b7, b8)] : List (Nat × Nat × Nat × Nat × Nat × Nat × Nat × Nat × Nat)).length : Int)) = false := rfl
  have j0 : iadd .i64 0 1 = 1 := by decide
  have j1 : iadd .i64 1 1 = 2 := by decide
  refine ⟨b && c, ?_, fun hbt => ?_⟩
  · unfold laws_entries
    simp only [laws_entries_l1, laws_entries_l1s, i0, i1, l0, l1, l2, j0, j1, br_true, br_false, sbind, hg', hc']
    cases b <;> cases c <;> rfl
  · simp only [Bool.and_eq_true] at hbt
    exact ⟨mt_of a0 a1 a2 a3 a4 a5 a6 a7 a8 h0 h1 h2 h3 h4 h5 h6 h7 h8 (hb hbt.1 [a0, a1, a2, a3, a4, a5, a6, a7, a8] (by simp)).2, mt_of b0 b1 b2 b3 b4 b5 b6 b7 b8 g0 g1 g2 g3 g4 g5 g6 g7 g8 (hc2 hbt.2 [b0, b1, b2, b3, b4, b5, b6, b7, b8] (by simp)).2⟩
theorem ix0 (x0 x1 x2 x3 x4 x5 x6 x7 x8 : Nat) : idxn 9 [x0, x1, x2, x3, x4, x5, x6, x7, x8] 0 = some x0 := rfl
theorem ix1 (x0 x1 x2 x3 x4 x5 x6 x7 x8 : Nat) : idxn 9 [x0, x1, x2, x3, x4, x5, x6, x7, x8] 1 = some x1 := rfl
theorem ix2 (x0 x1 x2 x3 x4 x5 x6 x7 x8 : Nat) : idxn 9 [x0, x1, x2, x3, x4, x5, x6, x7, x8] 2 = some x2 := rfl
theorem ix3 (x0 x1 x2 x3 x4 x5 x6 x7 x8 : Nat) : idxn 9 [x0, x1, x2, x3, x4, x5, x6, x7, x8] 3 = some x3 := rfl
theorem ix4 (x0 x1 x2 x3 x4 x5 x6 x7 x8 : Nat) : idxn 9 [x0, x1, x2, x3, x4, x5, x6, x7, x8] 4 = some x4 := rfl
theorem ix5 (x0 x1 x2 x3 x4 x5 x6 x7 x8 : Nat) : idxn 9 [x0, x1, x2, x3, x4, x5, x6, x7, x8] 5 = some x5 := rfl
theorem ix6 (x0 x1 x2 x3 x4 x5 x6 x7 x8 : Nat) : idxn 9 [x0, x1, x2, x3, x4, x5, x6, x7, x8] 6 = some x6 := rfl
theorem ix7 (x0 x1 x2 x3 x4 x5 x6 x7 x8 : Nat) : idxn 9 [x0, x1, x2, x3, x4, x5, x6, x7, x8] 7 = some x7 := rfl
theorem ix8 (x0 x1 x2 x3 x4 x5 x6 x7 x8 : Nat) : idxn 9 [x0, x1, x2, x3, x4, x5, x6, x7, x8] 8 = some x8 := rfl
theorem D_numo {x : Nat} {n : Int} {v : Nat} (h : D x n v) : num x = some x := by
  have : isn x = false := D_num h
  unfold num; rw [this]; rfl
theorem ne_self {x : Nat} {n : Int} {v : Nat} (h : D x n v) : fne x x = false := by
  have := D_eq h h
  rw [decide_eq_true rfl] at this
  rw [fne_feq, this]; rfl
theorem fadd_g {x y : Nat} {n : Int} {v : Nat} (h : D (gadd x y) n v) (h2 : ∃ z, fadd x y = some z) : fadd x y = some (gadd x y) := by
  obtain ⟨z, hz⟩ := h2
  unfold gadd; rw [hz]; rfl
theorem fsub_g {x y : Nat} (h2 : ∃ z, fsub x y = some z) : fsub x y = some (gsub x y) := by
  obtain ⟨z, hz⟩ := h2
  unfold gsub; rw [hz]; rfl
theorem fmul_g {x y : Nat} (h2 : ∃ z, fmul x y = some z) : fmul x y = some (gmul x y) := by
  obtain ⟨z, hz⟩ := h2
  unfold gmul; rw [hz]; rfl
/-- what is known of one number of both -/
structure One (f x y : Nat) : Prop where
  na : num (gadd x y) = some (gadd x y)
  ns : num (gsub x y) = some (gsub x y)
  nm : num (gmul f x) = some (gmul f x)
  fa : fadd x y = some (gadd x y)
  fs : fsub x y = some (gsub x y)
  fm : fmul f x = some (gmul f x)
  ea : fne (gadd x y) (gadd x y) = false
  es : fne (gsub x y) (gsub x y) = false
  em : fne (gmul f x) (gmul f x) = false
theorem one_of {f x y : Nat} {k m n : Int} (hf : D f k 1074) (hx : D x m 1074) (hy : D y n 1074) (bk : k.natAbs ≤ 1024) (bm : m.natAbs ≤ 1024) (bn : n.natAbs ≤ 1024) : One f x y := by
  have p := prod_le bk bm
  obtain ⟨z1, f1, _⟩ := D_sum hx hy rfl (by omega) (by decide)
  obtain ⟨z2, f2, _⟩ := D_sub hx hy rfl (by omega) (by decide)
  obtain ⟨z3, f3, _⟩ := D_mul (u := 1074) hf hx rfl rfl (by decide) (by omega) (by decide)
  have g1 := gadd_D hx hy rfl (by omega) (by decide)
  have g2 := gsub_D hx hy rfl (by omega) (by decide)
  have g3 := gmul_D (u := 1074) hf hx rfl rfl (by decide) (by omega) (by decide)
  exact ⟨D_numo g1, D_numo g2, D_numo g3, fadd_g g1 ⟨_, f1⟩, fsub_g ⟨_, f2⟩, fmul_g ⟨_, f3⟩, ne_self g1, ne_self g2, ne_self g3⟩
theorem add_run (F : Nat) (f : Nat) (a0 a1 a2 a3 a4 a5 a6 a7 a8 b0 b1 b2 b3 b4 b5 b6 b7 b8 : Nat) : r3_Mat_Add F [a0, a1, a2, a3, a4, a5, a6, a7, a8] [b0, b1, b2, b3, b4, b5, b6, b7, b8] = (num (gadd a0 b0) >>= fun _ => (num (gadd a1 b1) >>= fun _ => (num (gadd a2 b2) >>= fun _ => (num (gadd a3 b3) >>= fun _ => (num (gadd a4 b4) >>= fun _ => (num (gadd a5 b5) >>= fun _ => (num (gadd a6 b6) >>= fun _ => (num (gadd a7 b7) >>= fun _ => (num (gadd a8 b8) >>= fun _ => some ([gadd a0 b0, gadd a1 b1, gadd a2 b2, gadd a3 b3, gadd a4 b4, gadd a5 b5, gadd a6 b6, gadd a7 b7, gadd a8 b8], [a0, a1, a2, a3, a4, a5, a6, a7, a8], [b0, b1, b2, b3, b4, b5, b6, b7, b8])))))))))) := rfl
theorem add_is (F : Nat) (f : Nat) (a0 a1 a2 a3 a4 a5 a6 a7 a8 b0 b1 b2 b3 b4 b5 b6 b7 b8 : Nat) (o0 : One f a0 b0) (o1 : One f a1 b1) (o2 : One f a2 b2) (o3 : One f a3 b3) (o4 : One f a4 b4) (o5 : One f a5 b5) (o6 : One f a6 b6) (o7 : One f a7 b7) (o8 : One f a8 b8) : impl_MatAdd F a0 a1 a2 a3 a4 a5 a6 a7 a8 b0 b1 b2 b3 b4 b5 b6 b7 b8 = some (gadd a0 b0, gadd a1 b1, gadd a2 b2, gadd a3 b3, gadd a4 b4, gadd a5 b5, gadd a6 b6, gadd a7 b7, gadd a8 b8) := by
  unfold impl_MatAdd
  rw [show impl_mat F a0 a1 a2 a3 a4 a5 a6 a7 a8 = some [a0, a1, a2, a3, a4, a5, a6, a7, a8] from rfl, sbind, show impl_mat F b0 b1 b2 b3 b4 b5 b6 b7 b8 = some [b0, b1, b2, b3, b4, b5, b6, b7, b8] from rfl, sbind, add_run F f]
  rw [o0.na, sbind, o1.na, sbind, o2.na, sbind, o3.na, sbind, o4.na, sbind, o5.na, sbind, o6.na, sbind, o7.na, sbind, o8.na, sbind]
  rfl
theorem sub_run (F : Nat) (f : Nat) (a0 a1 a2 a3 a4 a5 a6 a7 a8 b0 b1 b2 b3 b4 b5 b6 b7 b8 : Nat) : r3_Mat_Sub F [a0, a1, a2, a3, a4, a5, a6, a7, a8] [b0, b1, b2, b3, b4, b5, b6, b7, b8] = (num (gsub a0 b0) >>= fun _ => (num (gsub a1 b1) >>= fun _ => (num (gsub a2 b2) >>= fun _ => (num (gsub a3 b3) >>= fun _ => (num (gsub a4 b4) >>= fun _ => (num (gsub a5 b5) >>= fun _ => (num (gsub a6 b6) >>= fun _ => (num (gsub a7 b7) >>= fun _ => (num (gsub a8 b8) >>= fun _ => some ([gsub a0 b0, gsub a1 b1, gsub a2 b2, gsub a3 b3, gsub a4 b4, gsub a5 b5, gsub a6 b6, gsub a7 b7, gsub a8 b8], [a0, a1, a2, a3, a4, a5, a6, a7, a8], [b0, b1, b2, b3, b4, b5, b6, b7, b8])))))))))) := rfl
theorem sub_is (F : Nat) (f : Nat) (a0 a1 a2 a3 a4 a5 a6 a7 a8 b0 b1 b2 b3 b4 b5 b6 b7 b8 : Nat) (o0 : One f a0 b0) (o1 : One f a1 b1) (o2 : One f a2 b2) (o3 : One f a3 b3) (o4 : One f a4 b4) (o5 : One f a5 b5) (o6 : One f a6 b6) (o7 : One f a7 b7) (o8 : One f a8 b8) : impl_MatSub F a0 a1 a2 a3 a4 a5 a6 a7 a8 b0 b1 b2 b3 b4 b5 b6 b7 b8 = some (gsub a0 b0, gsub a1 b1, gsub a2 b2, gsub a3 b3, gsub a4 b4, gsub a5 b5, gsub a6 b6, gsub a7 b7, gsub a8 b8) := by
  unfold impl_MatSub
  rw [show impl_mat F a0 a1 a2 a3 a4 a5 a6 a7 a8 = some [a0, a1, a2, a3, a4, a5, a6, a7, a8] from rfl, sbind, show impl_mat F b0 b1 b2 b3 b4 b5 b6 b7 b8 = some [b0, b1, b2, b3, b4, b5, b6, b7, b8] from rfl, sbind, sub_run F f]
  rw [o0.ns, sbind, o1.ns, sbind, o2.ns, sbind, o3.ns, sbind, o4.ns, sbind, o5.ns, sbind, o6.ns, sbind, o7.ns, sbind, o8.ns, sbind]
  rfl
theorem scale_run (F : Nat) (f : Nat) (a0 a1 a2 a3 a4 a5 a6 a7 a8 : Nat) : r3_Mat_Scale F f [a0, a1, a2, a3, a4, a5, a6, a7, a8] = (num (gmul f a0) >>= fun _ => (num (gmul f a1) >>= fun _ => (num (gmul f a2) >>= fun _ => (num (gmul f a3) >>= fun _ => (num (gmul f a4) >>= fun _ => (num (gmul f a5) >>= fun _ => (num (gmul f a6) >>= fun _ => (num (gmul f a7) >>= fun _ => (num (gmul f a8) >>= fun _ => some ([gmul f a0, gmul f a1, gmul f a2, gmul f a3, gmul f a4, gmul f a5, gmul f a6, gmul f a7, gmul f a8], [a0, a1, a2, a3, a4, a5, a6, a7, a8])))))))))) := rfl
theorem scale_is (F : Nat) (f : Nat) (a0 a1 a2 a3 a4 a5 a6 a7 a8 b0 b1 b2 b3 b4 b5 b6 b7 b8 : Nat) (o0 : One f a0 b0) (o1 : One f a1 b1) (o2 : One f a2 b2) (o3 : One f a3 b3) (o4 : One f a4 b4) (o5 : One f a5 b5) (o6 : One f a6 b6) (o7 : One f a7 b7) (o8 : One f a8 b8) : impl_MatScale F f a0 a1 a2 a3 a4 a5 a6 a7 a8 = some (gmul f a0, gmul f a1, gmul f a2, gmul f a3, gmul f a4, gmul f a5, gmul f a6, gmul f a7, gmul f a8) := by
  unfold impl_MatScale
  rw [show impl_mat F a0 a1 a2 a3 a4 a5 a6 a7 a8 = some [a0, a1, a2, a3, a4, a5, a6, a7, a8] from rfl, sbind, scale_run F f]
  rw [o0.nm, sbind, o1.nm, sbind, o2.nm, sbind, o3.nm, sbind, o4.nm, sbind, o5.nm, sbind, o6.nm, sbind, o7.nm, sbind, o8.nm, sbind]
  rfl
theorem main (F : Nat) (hF : 100 < F) (a0 a1 a2 a3 a4 a5 a6 a7 a8 : Nat) (b0 b1 b2 b3 b4 b5 b6 b7 b8 : Nat) (f : Int) (h0 : a0 < 2 ^ 64) (h1 : a1 < 2 ^ 64) (h2 : a2 < 2 ^ 64) (h3 : a3 < 2 ^ 64) (h4 : a4 < 2 ^ 64) (h5 : a5 < 2 ^ 64) (h6 : a6 < 2 ^ 64) (h7 : a7 < 2 ^ 64) (h8 : a8 < 2 ^ 64) (g0 : b0 < 2 ^ 64) (g1 : b1 < 2 ^ 64) (g2 : b2 < 2 ^ 64) (g3 : b3 < 2 ^ 64) (g4 : b4 < 2 ^ 64) (g5 : b5 < 2 ^ 64) (g6 : b6 < 2 ^ 64) (g7 : b7 < 2 ^ 64) (g8 : b8 < 2 ^ 64) : laws_FnMatAdd F a0 a1 a2 a3 a4 a5 a6 a7 a8 b0 b1 b2 b3 b4 b5 b6 b7 b8 f = some true := by
  obtain ⟨b, hb, hb2⟩ := entries2_is F hF a0 a1 a2 a3 a4 a5 a6 a7 a8 b0 b1 b2 b3 b4 b5 b6 b7 b8 h0 h1 h2 h3 h4 h5 h6 h7 h8 g0 g1 g2 g3 g4 g5 g6 g7 g8
  unfold laws_FnMatAdd
  rw [show vec9 [a0, a1, a2, a3, a4, a5, a6, a7, a8] = some (a0, a1, a2, a3, a4, a5, a6, a7, a8) from rfl, sbind, show vec9 [b0, b1, b2, b3, b4, b5, b6, b7, b8] = some (b0, b1, b2, b3, b4, b5, b6, b7, b8) from rfl, sbind]
  dsimp only
  rw [hb, sbind]
  cases b with
  | false => rfl
  | true =>
    obtain ⟨⟨m0, m1, m2, m3, m4, m5, m6, m7, m8, ha⟩, n0, n1, n2, n3, n4, n5, n6, n7, n8, hb⟩ := hb2 rfl
    rw [Bool.not_true, br_false]
    unfold laws_FnMatAdd_j1
    by_cases c1 : f < (-1024)
    · rw [decide_eq_true c1]; rfl
    rw [decide_eq_false c1, br_false]
    unfold laws_FnMatAdd_j2
    by_cases c2 : 1024 < f
    · rw [decide_eq_true c2]; rfl
    rw [decide_eq_false c2, br_false]
    have hf := D_i2f (n := f) (by omega)
    have bf : f.natAbs ≤ 1024 := by omega
    have o0 := one_of hf ha.d0 hb.d0 bf ha.b0 hb.b0
    have o1 := one_of hf ha.d1 hb.d1 bf ha.b1 hb.b1
    have o2 := one_of hf ha.d2 hb.d2 bf ha.b2 hb.b2
    have o3 := one_of hf ha.d3 hb.d3 bf ha.b3 hb.b3
    have o4 := one_of hf ha.d4 hb.d4 bf ha.b4 hb.b4
    have o5 := one_of hf ha.d5 hb.d5 bf ha.b5 hb.b5
    have o6 := one_of hf ha.d6 hb.d6 bf ha.b6 hb.b6
    have o7 := one_of hf ha.d7 hb.d7 bf ha.b7 hb.b7
    have o8 := one_of hf ha.d8 hb.d8 bf ha.b8 hb.b8
    rw [show vec9 [a0, a1, a2, a3, a4, a5, a6, a7, a8] = some (a0, a1, a2, a3, a4, a5, a6, a7, a8) from rfl, sbind, show vec9 [b0, b1, b2, b3, b4, b5, b6, b7, b8] = some (b0, b1, b2, b3, b4, b5, b6, b7, b8) from rfl, sbind, sbind, sbind, sbind]
    dsimp only
    rw [add_is F (i2f f) a0 a1 a2 a3 a4 a5 a6 a7 a8 b0 b1 b2 b3 b4 b5 b6 b7 b8 o0 o1 o2 o3 o4 o5 o6 o7 o8, sbind]
    rw [sub_is F (i2f f) a0 a1 a2 a3 a4 a5 a6 a7 a8 b0 b1 b2 b3 b4 b5 b6 b7 b8 o0 o1 o2 o3 o4 o5 o6 o7 o8, sbind]
    rw [scale_is F (i2f f) a0 a1 a2 a3 a4 a5 a6 a7 a8 b0 b1 b2 b3 b4 b5 b6 b7 b8 o0 o1 o2 o3 o4 o5 o6 o7 o8, sbind]
    dsimp only
    rw [ix0, sbind, ix0, sbind, ix0, sbind, o0.fa, sbind, o0.ea, br_false, ix0, sbind, sbind, sbind, o0.fs, sbind, o0.es]
    unfold laws_FnMatAdd_j3
    rw [br_false]
    dsimp only
    rw [ix0, sbind, ix0, sbind, o0.fm, sbind, o0.em]
    unfold laws_FnMatAdd_j4
    rw [br_false]
    dsimp only
    rw [ix1, sbind, ix1, sbind, ix1, sbind, o1.fa, sbind, o1.ea, br_false, ix1, sbind, sbind, sbind, o1.fs, sbind, o1.es]
    unfold laws_FnMatAdd_j5
    rw [br_false]
    dsimp only
    rw [ix1, sbind, ix1, sbind, o1.fm, sbind, o1.em]
    unfold laws_FnMatAdd_j6
    rw [br_false]
    dsimp only
    rw [ix2, sbind, ix2, sbind, ix2, sbind, o2.fa, sbind, o2.ea, br_false, ix2, sbind, sbind, sbind, o2.fs, sbind, o2.es]
    unfold laws_FnMatAdd_j7
    rw [br_false]
    dsimp only
    rw [ix2, sbind, ix2, sbind, o2.fm, sbind, o2.em]
    unfold laws_FnMatAdd_j8
    rw [br_false]
    dsimp only
    rw [ix3, sbind, ix3, sbind, ix3, sbind, o3.fa, sbind, o3.ea, br_false, ix3, sbind, sbind, sbind, o3.fs, sbind, o3.es]
    unfold laws_FnMatAdd_j9
    rw [br_false]
    dsimp only
    rw [ix3, sbind, ix3, sbind, o3.fm, sbind, o3.em]
    unfold laws_FnMatAdd_j10
    rw [br_false]
    dsimp only
    rw [ix4, sbind, ix4, sbind, ix4, sbind, o4.fa, sbind, o4.ea, br_false, ix4, sbind, sbind, sbind, o4.fs, sbind, o4.es]
    unfold laws_FnMatAdd_j11
    rw [br_false]
    dsimp only
    rw [ix4, sbind, ix4, sbind, o4.fm, sbind, o4.em]
    unfold laws_FnMatAdd_j12
    rw [br_false]
    dsimp only
    rw [ix5, sbind, ix5, sbind, ix5, sbind, o5.fa, sbind, o5.ea, br_false, ix5, sbind, sbind, sbind, o5.fs, sbind, o5.es]
    unfold laws_FnMatAdd_j13
    rw [br_false]
    dsimp only
    rw [ix5, sbind, ix5, sbind, o5.fm, sbind, o5.em]
    unfold laws_FnMatAdd_j14
    rw [br_false]
    dsimp only
    rw [ix6, sbind, ix6, sbind, ix6, sbind, o6.fa, sbind, o6.ea, br_false, ix6, sbind, sbind, sbind, o6.fs, sbind, o6.es]
    unfold laws_FnMatAdd_j15
    rw [br_false]
    dsimp only
    rw [ix6, sbind, ix6, sbind, o6.fm, sbind, o6.em]
    unfold laws_FnMatAdd_j16
    rw [br_false]
    dsimp only
    rw [ix7, sbind, ix7, sbind, ix7, sbind, o7.fa, sbind, o7.ea, br_false, ix7, sbind, sbind, sbind, o7.fs, sbind, o7.es]
    unfold laws_FnMatAdd_j17
    rw [br_false]
    dsimp only
    rw [ix7, sbind, ix7, sbind, o7.fm, sbind, o7.em]
    unfold laws_FnMatAdd_j18
    rw [br_false]
    dsimp only
    rw [ix8, sbind, ix8, sbind, ix8, sbind, o8.fa, sbind, o8.ea, br_false, ix8, sbind, sbind, sbind, o8.fs, sbind, o8.es]
    unfold laws_FnMatAdd_j19
    rw [br_false]
    dsimp only
    rw [ix8, sbind, ix8, sbind, o8.fm, sbind, o8.em]
    unfold laws_FnMatAdd_j20
    rw [br_false]
theorem fact_FnMatAdd (a0 a1 a2 a3 a4 a5 a6 a7 a8 : Nat) (b0 b1 b2 b3 b4 b5 b6 b7 b8 : Nat) (f : Int) (ga : a0 < 18446744073709551616 ∧ a1 < 18446744073709551616 ∧ a2 < 18446744073709551616 ∧ a3 < 18446744073709551616 ∧ a4 < 18446744073709551616 ∧ a5 < 18446744073709551616 ∧ a6 < 18446744073709551616 ∧ a7 < 18446744073709551616 ∧ a8 < 18446744073709551616) (gb : b0 < 18446744073709551616 ∧ b1 < 18446744073709551616 ∧ b2 < 18446744073709551616 ∧ b3 < 18446744073709551616 ∧ b4 < 18446744073709551616 ∧ b5 < 18446744073709551616 ∧ b6 < 18446744073709551616 ∧ b7 < 18446744073709551616 ∧ b8 < 18446744073709551616) {p : Prop} (g2 : p) : laws_FnMatAdd 200 a0 a1 a2 a3 a4 a5 a6 a7 a8 b0 b1 b2 b3 b4 b5 b6 b7 b8 f = some true :=
  main 200 (by decide) a0 a1 a2 a3 a4 a5 a6 a7 a8 b0 b1 b2 b3 b4 b5 b6 b7 b8 f ga.1 ga.2.1 ga.2.2.1 ga.2.2.2.1 ga.2.2.2.2.1 ga.2.2.2.2.2.1 ga.2.2.2.2.2.2.1 ga.2.2.2.2.2.2.2.1 ga.2.2.2.2.2.2.2.2 gb.1 gb.2.1 gb.2.2.1 gb.2.2.2.1 gb.2.2.2.2.1 gb.2.2.2.2.2.1 gb.2.2.2.2.2.2.1 gb.2.2.2.2.2.2.2.1 gb.2.2.2.2.2.2.2.2
end Go.Proofs.YtnhbmhdjkibjaaaDoor
