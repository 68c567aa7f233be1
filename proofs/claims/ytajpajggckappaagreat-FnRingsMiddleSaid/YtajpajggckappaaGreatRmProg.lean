/-
  The program's sums over rings of whole places. Ours.
-/
import Derived.Test.YtajpajggckappaaGreatRmFold
import Derived.Test.YtajpajggckappaaGreatFlatTo
namespace Go.Proofs.YtajpajggckappaaGreat
open Go.Sx
open Ieee (signed)
set_option linter.unusedVariables false
set_option linter.unusedSimpArgs false
set_option maxRecDepth 100000

def Gd (cs : List Nat) (st i : Nat) (p : Pz) : Prop := D (cs.getD (i * st) 0) p.1 1074 ∧ D (cs.getD (i * st + 1) 0) p.2 1074 ∧ Bd p
theorem getD_of {α : Type} {l : List α} {i : Nat} {d : α} (h : i < l.length) : l[i] = l.getD i d := by simp [List.getD, List.getElem?_eq_getElem h]
theorem idx_getd {cs : List Nat} {i : Nat} (h : i < cs.length) : idx cs (i : Int) = some (cs.getD i 0) := by rw [idx_get h, getD_of h]
theorem at_lt {N st i : Nat} (hi : i < N) (h2 : 2 ≤ st) : i * st + 1 < N * st ∧ i * st + st ≤ N * st ∧ (i + 1) * st = i * st + st := by
  have := Nat.mul_le_mul_right st (show i + 1 ≤ N by omega)
  rw [Nat.add_mul, Nat.one_mul] at this
  refine ⟨by omega, this, ?_⟩
  rw [Nat.add_mul, Nat.one_mul]
theorem cut2 {xs : List Nat} {i : Nat} (h : i + 2 ≤ xs.length) : cut xs (i : Int) ((i + 2 : Nat) : Int) = some [xs.getD i 0, xs.getD (i + 1) 0] := by
  rw [cut_some (by omega) (by omega) (by omega), Int.toNat_natCast, Int.toNat_natCast, List.drop_take, show i + 2 - i = 2 by omega,
    List.drop_eq_getElem_cons (show i < xs.length by omega), List.drop_eq_getElem_cons (show i + 1 < xs.length by omega), getD_of (d := 0), getD_of (d := 0)]
  rfl
theorem dist_is {k : Nat} {a a' b b' : Nat} {p q : Pz} (h1 : D a p.1 1074) (h2 : D a' p.2 1074) (h3 : D b q.1 1074) (h4 : D b' q.2 1074) (hp : Bd p) (hq : Bd q) :
    ∃ n, inner_Distance2D k [a, a'] [b, b'] = some n ∧ Q n (rr (sq p q)) := by
  have hp' := hp
  have hq' := hq
  obtain ⟨p1, p2⟩ := hp
  obtain ⟨q1, q2⟩ := hq
  obtain ⟨x, x1, x2⟩ := D_sub h1 h3 rfl (by omega) (by omega)
  obtain ⟨y, y1, y2⟩ := D_sub h2 h4 rfl (by omega) (by omega)
  obtain ⟨s1, s2⟩ := sq_is hp' hq'
  have hsum := sq_sum (a := p.1 - q.1) (b := p.2 - q.2) (by omega) (by omega)
  have e1 : (p.1 - q.1) * (p.1 - q.1) = ((p.1 - q.1).natAbs * (p.1 - q.1).natAbs : Nat) := by rw [← Int.natAbs_mul_self]
  have e2 : (p.2 - q.2) * (p.2 - q.2) = ((p.2 - q.2).natAbs * (p.2 - q.2).natAbs : Nat) := by rw [← Int.natAbs_mul_self]
  have d1 := gmul_D (u := 1074) x2 x2 rfl rfl (by omega) (by omega) (by omega)
  have d2 := gmul_D (u := 1074) y2 y2 rfl rfl (by omega) (by omega) (by omega)
  have d3 := gadd_D d1 d2 (c := ((sq p q : Nat) : Int)) (by rw [s1]; grind) (by omega) (by omega)
  refine ⟨_, ?_, (rr_is s2).2.2 _ d3⟩
  unfold inner_Distance2D math_Sqrt
  have n3 := num_q (Q_whole d3)
  simp only [show ∀ u v : Nat, idx [u, v] 0 = some u from fun _ _ => rfl, show ∀ u v : Nat, idx [u, v] 1 = some v from fun _ _ => rfl, Option.bind_eq_bind, Option.bind_some, x1, y1, n3]
theorem inv_mono {c d t : Nat} {s : S3} {i j : Nat} (h : Inv c d t s i) (hij : i ≤ j) : Inv c d t s j := by
  obtain ⟨a, b, l, h1, h2, h3, h4, h5, h6, h7, h8, h9, h10⟩ := h
  have hj := cast_le hij
  have hL : 0 ≤ ((j : Rat) * kk - (i : Rat) * kk) * s.2.2 := Rat.mul_nonneg (by grind) (by grind)
  have hle : (i : Rat) * kk * s.2.2 ≤ (j : Rat) * kk * s.2.2 := by grind
  exact ⟨a, b, l, h1, h2, h3, sm_mono h4 hle, sm_mono h5 hle, sm_mono h6 hle, h7, h8, h9, by grind⟩

theorem line_loop {cs : List Nat} {st T : Nat} (hl : cs.length = T * st) (hT : T ≤ 200) (h2 : 2 ≤ st) (h8 : st ≤ 8) (P : Nat → Pz) (hP : ∀ i, i < T → Gd cs st i (P i)) (rest : List Nat) :
    ∀ (n k j : Nat) (c d t : Nat) (s : S3) (i : Nat), T - 1 - j = n → n + 1 < k → j ≤ T - 1 → 1 ≤ T → Inv c d t s i → i + n ≤ 4000 →
      ∃ c' d' t', xy_LineCentroidCalculator_addLine_v2_l1 (cs.length : Int) (st : Int) cs k (c :: d :: rest, t, ((j * st : Nat) : Int)) = some (c' :: d' :: rest, t') ∧ Inv c' d' t' (foldN P j n s) (i + n) := by
  have hNs : T * st ≤ 200 * 8 := Nat.mul_le_mul hT h8
  intro n
  induction n with
  | zero =>
    intro k j c d t s i hn hk hj hT1 hI hi
    obtain ⟨k, rfl⟩ : ∃ j, k = j + 1 := ⟨k - 1, by omega⟩
    have hj' : j + 1 = T := by omega
    have hl' : cs.length = j * st + st := by rw [hl, ← hj', Nat.add_mul, Nat.one_mul]
    have e : isub .i64 (cs.length : Int) (st : Int) = ((j * st : Nat) : Int) := by
      rw [isub_i64 (by omega) (by omega)]; omega
    refine ⟨c, d, t, ?_, hI⟩
    simp only [xy_LineCentroidCalculator_addLine_v2_l1, xy_LineCentroidCalculator_addLine_v2_l1s, e, lt_false (Nat.lt_irrefl _), br_false]
  | succ n ih =>
    intro k j c d t s i hn hk hj hT1 hI hi
    obtain ⟨k, rfl⟩ : ∃ j, k = j + 1 := ⟨k - 1, by omega⟩
    have hlt : j + 1 < T := by omega
    obtain ⟨b1, b2, b3⟩ := at_lt (show j < T by omega) h2
    obtain ⟨c1, c2, c3⟩ := at_lt hlt h2
    have e : isub .i64 (cs.length : Int) (st : Int) = ((cs.length - st : Nat) : Int) := by
      rw [isub_i64 (by omega) (by omega)]; omega
    obtain ⟨g1, g2, g3⟩ := hP j (by omega)
    obtain ⟨f1, f2, f3⟩ := hP (j + 1) (by omega)
    have a1 : iadd .i64 ((j * st : Nat) : Int) 1 = ((j * st + 1 : Nat) : Int) := iadd_one (by omega)
    have a2 : iadd .i64 ((j * st : Nat) : Int) 2 = ((j * st + 2 : Nat) : Int) := by rw [iadd_i64 (by omega) (by omega)]; omega
    have a3 : iadd .i64 ((j * st : Nat) : Int) (st : Int) = (((j + 1) * st : Nat) : Int) := by rw [iadd_i64 (by omega) (by omega)]; omega
    have a4 : iadd .i64 (((j + 1) * st : Nat) : Int) 1 = (((j + 1) * st + 1 : Nat) : Int) := iadd_one (by omega)
    have a5 : iadd .i64 (((j + 1) * st : Nat) : Int) 2 = (((j + 1) * st + 2 : Nat) : Int) := by rw [iadd_i64 (by omega) (by omega)]; omega
    obtain ⟨n0, n1, n2⟩ := dist_is (k := k) g1 g2 f1 f2 g3 f3
    obtain ⟨x, x1, x2⟩ := D_sum g1 f1 rfl (by have := g3.1; have := f3.1; omega) (by omega)
    obtain ⟨y, y1, y2⟩ := D_sum g2 f2 rfl (by have := g3.2; have := f3.2; omega) (by omega)
    obtain ⟨z, w, z1, w1, z2, w2, hI'⟩ := inv_b hI (by omega) g3 f3 n2 x2 y2
    obtain ⟨c', d', t', r1, r2⟩ := ih k (j + 1) _ _ _ _ (i + 1) (by omega) (by omega) (by omega) hT1 hI' (by omega)
    refine ⟨c', d', t', ?_, ?_⟩
    · simp only [xy_LineCentroidCalculator_addLine_v2_l1, xy_LineCentroidCalculator_addLine_v2_l1s, e, lt_true (show j * st < cs.length - st by omega), br_true, a1, a2, a3, a4, a5,
        cut2 (show j * st + 2 ≤ cs.length by omega), cut2 (show (j + 1) * st + 2 ≤ cs.length by omega), n1, Option.bind_eq_bind, Option.bind_some,
        idx_getd (show j * st < cs.length by omega), idx_getd (show j * st + 1 < cs.length by omega), idx_getd (show (j + 1) * st < cs.length by omega), idx_getd (show (j + 1) * st + 1 < cs.length by omega), x1, y1, z1, w1,
        show ∀ (u v : Nat) (l : List Nat), idx (u :: v :: l) 0 = some u from fun _ _ _ => rfl, show ∀ (u v : Nat) (l : List Nat), idx (u :: v :: l) 1 = some v from fun _ _ _ => rfl,
        show ∀ (u v w : Nat) (l : List Nat), (u :: v :: l).set (0 : Int).toNat w = w :: v :: l from fun _ _ _ _ => rfl, show ∀ (u v w : Nat) (l : List Nat), (u :: v :: l).set (1 : Int).toNat w = u :: w :: l from fun _ _ _ _ => rfl, z2, w2]
      exact r1
    · rw [show i + (n + 1) = i + 1 + n by omega]; exact r2

/-- what is known of the rings -/
structure Rgs (lay : Int) (st : Nat) (gs : List T38) (T : Nat → Nat) (P : Nat → Nat → Pz) : Prop where
  few : gs.length ≤ 20
  lay1 : 1 ≤ lay
  str : stri lay = (st : Int)
  st2 : 2 ≤ st
  st8 : st ≤ 8
  kd : ∀ i (h : i < gs.length), gs[i].f0 = 8
  ly : ∀ i (h : i < gs.length), gs[i].f1 = lay
  len : ∀ i (h : i < gs.length), gs[i].f3.length = T i * st
  t1 : ∀ i, i < gs.length → 1 ≤ T i
  t2 : ∀ i, i < gs.length → T i ≤ 100
  gd : ∀ i (h : i < gs.length), ∀ j, j < T i → Gd gs[i].f3 st j (P i j)
noncomputable def foldR (T : Nat → Nat) (P : Nat → Nat → Pz) (i : Nat) : Nat → S3 → S3
  | 0, s => s
  | n + 1, s => foldR T P (i + 1) n (foldN (P i) 0 (T i - 1) s)

theorem geometry_is {k : Nat} {lay srid : Int} {fl : List Nat} {en : List Int} {enn : List (List Int)} {kids : List T38} (h1 : 1 ≤ lay) (hl : fl.length ≤ 1600) :
    impl_geometry (k + 1) 8 lay srid fl en enn kids = some (.inr (.inr (.inl (lay, stri lay, fl, srid)))) := by
  simp only [impl_geometry, impl_geometry_b, impl_floats, apd_some (b := 8) (xs := ([] : List Nat)) (ys := fl) (by simp; omega) (by simp; omega), Option.bind_eq_bind, Option.bind_some, List.nil_append, gogeom_NewLinearRingFlat, lstride_is _ _ h1, gogeom_LinearRing_SetSRID]
  rfl
theorem rings_loop {lay : Int} {st : Nat} {gs : List T38} {T : Nat → Nat} {P : Nat → Nat → Pz} (hR : Rgs lay st gs T P) (rest : List Nat) :
    ∀ (n k i : Nat) (c d t : Nat) (s : S3), gs.length - i = n → n + 300 < k → i ≤ gs.length → Inv c d t s (100 * i) →
      ∃ c' d' t', impl_RingsCentroid_l1 gs k (lay, (st : Int), c :: d :: rest, t, (i : Int)) = some (lay, (st : Int), c' :: d' :: rest, t') ∧ Inv c' d' t' (foldR T P i n s) 2000 := by
  have h20 := hR.few
  intro n
  induction n with
  | zero =>
    intro k i c d t s hn hk hi hI
    obtain ⟨k, rfl⟩ : ∃ j, k = j + 1 := ⟨k - 1, by omega⟩
    refine ⟨c, d, t, ?_, inv_mono hI (by omega)⟩
    simp only [impl_RingsCentroid_l1, impl_RingsCentroid_l1s, lt_false (show ¬ i < gs.length by omega), br_false]
  | succ n ih =>
    intro k i c d t s hn hk hi hI
    obtain ⟨k, rfl⟩ : ∃ j, k = j + 1 := ⟨k - 1, by omega⟩
    obtain ⟨k', rfl⟩ : ∃ j, k = j + 1 := ⟨k - 1, by omega⟩
    have hlt : i < gs.length := by omega
    have t1 := hR.t1 i hlt
    have t2 := hR.t2 i hlt
    have hlen := hR.len i hlt
    have hbig : T i * st ≤ 100 * 8 := Nat.mul_le_mul t2 hR.st8
    obtain ⟨c', d', t', r1, r2⟩ := line_loop hlen (by omega) hR.st2 hR.st8 (P i) (hR.gd i hlt) rest (T i - 1) (k' + 1) 0 c d t s (100 * i) (by omega) (by omega) (by omega) t1 hI (by omega)
    rw [Nat.zero_mul] at r1
    have r1' : xy_LineCentroidCalculator_addLine_v2_l1 (gs[i].f3.length : Int) (st : Int) gs[i].f3 (k' + 1) (c :: d :: rest, t, 0) = some (c' :: d' :: rest, t') := r1
    obtain ⟨c2, d2, u2, q1, q2⟩ := ih (k' + 1) (i + 1) c' d' t' _ (by omega) (by omega) (by omega) (inv_mono r2 (by omega))
    refine ⟨c2, d2, u2, ?_, q2⟩
    simp only [impl_RingsCentroid_l1, impl_RingsCentroid_l1s, lt_true hlt, br_true, idx_get hlt, Option.bind_eq_bind, Option.bind_some, hR.kd i hlt, hR.ly i hlt, geometry_is hR.lay1 (show gs[i].f3.length ≤ 1600 by omega),
      xy_LineCentroidCalculator_AddLinearRing_v2, gogeom_geom0_FlatCoords, xy_LineCentroidCalculator_addLine_v2, r1', iadd_one (show i < 9223372036854775807 by omega)]
    exact q1
theorem rings_is {lay : Int} {st : Nat} {gs : List T38} {T : Nat → Nat} {P : Nat → Nat → Pz} (hR : Rgs lay st gs T P) {k : Nat} (hk : 400 < k) (hL : (foldR T P 0 gs.length (0, 0, 0)).2.2 ≠ 0) :
    ∃ z w p q, impl_RingsCentroid k lay gs = some (z :: w :: List.replicate (st - 2) 0, true) ∧ Q z p ∧ Q w q ∧
      Nr p ((foldR T P 0 gs.length (0, 0, 0)).1 / (foldR T P 0 gs.length (0, 0, 0)).2.2) (1 / 4194304) ∧ Nr q ((foldR T P 0 gs.length (0, 0, 0)).2.1 / (foldR T P 0 gs.length (0, 0, 0)).2.2) (1 / 4194304) := by
  have h20 := hR.few
  have hst := hR.st2
  have hst8 := hR.st8
  obtain ⟨c, d, t, r1, r2⟩ := rings_loop hR (List.replicate (st - 2) 0) gs.length k 0 0 0 0 (0, 0, 0) (by omega) (by omega) (by omega) inv_zero
  obtain ⟨a, b, l, h1, h2, h3, h4, h5, h6, h7, h8, h9, h10⟩ := r2
  generalize foldR T P 0 gs.length (0, 0, 0) = s at *
  have hrep : List.replicate st 0 = 0 :: 0 :: List.replicate (st - 2) 0 := by
    obtain ⟨m, rfl⟩ : ∃ m, st = m + 2 := ⟨st - 2, by omega⟩
    rfl
  have r1' : impl_RingsCentroid_l1 gs k (lay, (st : Int), 0 :: 0 :: List.replicate (st - 2) 0, 0, 0) = some (lay, (st : Int), c :: d :: List.replicate (st - 2) 0, t) := r1
  have hL2 : 1 / 2 ≤ s.2.2 := by grind
  have hL3 : s.2.2 ≤ 1000000 := by
    have : ((2000 : Nat) : Rat) = 2000 := rfl
    rw [this] at h10; grind
  have e2000 : ((2000 : Nat) : Rat) * kk = 2000 * kk := rfl
  rw [e2000] at h4 h5 h6
  obtain ⟨l0, p, p1, p2⟩ := quot_near h1 h3 h4 h6 h7 hL2 hL3 (by grind) (by grind)
  obtain ⟨_, q, q1, q2⟩ := quot_near h2 h3 h5 h6 h8 hL2 hL3 (by grind) (by grind)
  refine ⟨_, _, p, q, ?_, p1, q1, p2, q2⟩
  unfold impl_RingsCentroid xy_NewLineCentroidCalculator xy_LineCentroidCalculator_GetCentroid impl_floats
  have hm : mk 8 0 (st : Int) (st : Int) = some (List.replicate st 0) := by rw [mk_some (by omega) (by omega) (by omega) (by omega)]; simp
  simp only [lstride_is _ _ hR.lay1, hR.str, Option.bind_eq_bind, Option.bind_some, hm, hrep, r1', num_q h3, fdiv_q h1 h3 l0, fdiv_q h2 h3 l0,
    show ∀ (u v : Nat) (l : List Nat), idx (u :: v :: l) 0 = some u from fun _ _ _ => rfl, show ∀ (u v : Nat) (l : List Nat), idx (u :: v :: l) 1 = some v from fun _ _ _ => rfl,
    show ∀ (u v w : Nat) (l : List Nat), (u :: v :: l).set (0 : Int).toNat w = w :: v :: l from fun _ _ _ _ => rfl, show ∀ (u v w : Nat) (l : List Nat), (u :: v :: l).set (1 : Int).toNat w = u :: w :: l from fun _ _ _ _ => rfl]
  rw [apd_some (by simp; omega) (by simp; omega)]
  rfl
end Go.Proofs.YtajpajggckappaaGreat
