/-
  How two segments of whole places meet: signs. Ours.
-/
import Derived.Test.YthobbfpoooommaaGreatLmHow
namespace Go.Proofs.YthobbfpoooommaaGreat
open Go.Sx
open Ieee (signed)
set_option linter.unusedVariables false
set_option linter.unusedSimpArgs false
set_option maxRecDepth 100000

def dn (A B C D : Int × Int) : Int := (B.1 - A.1) * (D.2 - C.2) - (B.2 - A.2) * (D.1 - C.1)
theorem sq_nn (x : Int) : 0 ≤ x * x := by
  rcases Int.le_total 0 x with h | h
  · exact Int.mul_nonneg h h
  · exact Int.mul_nonneg_of_nonpos_of_nonpos h h
theorem sq_pos {x : Int} (h : x ≠ 0) : 0 < x * x := by
  have := sq_nn x
  have : x * x ≠ 0 := fun e => by rcases Int.mul_eq_zero.1 e with e | e <;> exact h e
  omega
theorem mul_nn {x y : Int} : 0 ≤ x * y ↔ (0 ≤ x ∧ 0 ≤ y) ∨ (x ≤ 0 ∧ y ≤ 0) := by
  constructor
  · intro h
    rcases Int.lt_trichotomy x 0 with hx | hx | hx
    · right
      refine ⟨by omega, ?_⟩
      rcases Int.lt_or_le 0 y with hy | hy
      · have := Int.mul_neg_of_neg_of_pos hx hy; omega
      · exact hy
    · subst hx; omega
    · left
      refine ⟨by omega, ?_⟩
      rcases Int.lt_or_le y 0 with hy | hy
      · have := Int.mul_neg_of_pos_of_neg hx hy; omega
      · exact hy
  · rintro (⟨h1, h2⟩ | ⟨h1, h2⟩)
    · exact Int.mul_nonneg h1 h2
    · exact Int.mul_nonneg_of_nonpos_of_nonpos h1 h2
theorem btw_iff {a b c : Int} : btw a b c ↔ 0 ≤ (c - a) * (b - c) := by
  rw [mul_nn]; unfold btw; omega
theorem nn_of {x p : Int} (hp : 0 < p) (h : 0 ≤ p * x) : 0 ≤ x := by
  rcases Int.lt_or_le x 0 with h' | h'
  · have := Int.mul_neg_of_pos_of_neg hp h'; omega
  · exact h'
theorem sgn_mul_lt {m n : Int} : sgn m * sgn n < 0 ↔ m * n < 0 := by
  have key : 0 ≤ sgn m * sgn n ↔ 0 ≤ m * n := by
    rw [mul_nn, mul_nn]
    unfold sgn
    split <;> split <;> (try split) <;> (try split) <;> omega
  omega
theorem orn_swap (A B P : Int × Int) : orn B A P = -orn A B P := by unfold orn; grind
theorem dn_swap (A B C D : Int × Int) : dn C D A B = -dn A B C D := by unfold dn; grind
theorem dn_turn (A B C D : Int × Int) : dn A B D C = -dn A B C D := by unfold dn; grind
theorem orn_diff (A B C D : Int × Int) : orn A B D = orn A B C + dn A B C D := by unfold orn dn; grind
theorem orn_diff2 (A B C D : Int × Int) : orn C D B = orn C D A - dn A B C D := by unfold orn dn; grind
theorem cram1 (A B C D : Int × Int) : dn A B C D * (C.1 - A.1) = orn C D A * (B.1 - A.1) + orn A B C * (D.1 - C.1) := by unfold orn dn; grind
theorem cram2 (A B C D : Int × Int) : dn A B C D * (C.2 - A.2) = orn C D A * (B.2 - A.2) + orn A B C * (D.2 - C.2) := by unfold orn dn; grind
/-- a place on the line of the other two lies between them just if these lie on both sides of its own line -/
theorem on_iff {A B C D : Int × Int} (h0 : dn A B C D ≠ 0) (h1 : orn A B C = 0) : onS C A B ↔ 0 ≤ -(orn C D A * orn C D B) := by
  have e1 := cram1 A B C D
  have e2 := cram2 A B C D
  rw [h1, Int.zero_mul, Int.add_zero] at e1 e2
  have hd := orn_diff2 A B C D
  have hz : ¬ (B.1 - A.1 = 0 ∧ B.2 - A.2 = 0) := by
    rintro ⟨z1, z2⟩
    apply h0
    unfold dn
    rw [z1, z2]; simp
  generalize dn A B C D = d at *
  generalize orn C D A = p at *
  generalize orn C D B = q at *
  unfold onS
  rw [btw_iff, btw_iff]
  have hdd := sq_pos h0
  have k1 : d * d * ((C.1 - A.1) * (B.1 - C.1)) = -(p * q) * ((B.1 - A.1) * (B.1 - A.1)) := by
    have : d * (B.1 - C.1) = -q * (B.1 - A.1) := by grind
    grind
  have k2 : d * d * ((C.2 - A.2) * (B.2 - C.2)) = -(p * q) * ((B.2 - A.2) * (B.2 - A.2)) := by
    have : d * (B.2 - C.2) = -q * (B.2 - A.2) := by grind
    grind
  constructor
  · rintro ⟨_, b1, b2⟩
    by_cases hx : B.1 - A.1 = 0
    · have hy : B.2 - A.2 ≠ 0 := fun hy => hz ⟨hx, hy⟩
      refine nn_of (sq_pos hy) ?_
      rw [Int.mul_comm, ← k2]
      exact Int.mul_nonneg (Int.le_of_lt hdd) b2
    · refine nn_of (sq_pos hx) ?_
      rw [Int.mul_comm, ← k1]
      exact Int.mul_nonneg (Int.le_of_lt hdd) b1
  · intro h
    refine ⟨h1, nn_of hdd ?_, nn_of hdd ?_⟩
    · rw [k1]; exact Int.mul_nonneg h (sq_nn _)
    · rw [k2]; exact Int.mul_nonneg h (sq_nn _)
theorem orn_self1 (A B : Int × Int) : orn A B A = 0 := by unfold orn; grind
theorem orn_self2 (A B : Int × Int) : orn A B B = 0 := by unfold orn; grind
theorem mem_mts {A B C D p : Int × Int} : p ∈ mts A B C D ↔ ((p = A ∨ p = B) ∧ onS p C D) ∨ ((p = C ∨ p = D) ∧ onS p A B) := by
  unfold mts; simp [List.mem_filter]
theorem mts_lines {A B C D p : Int × Int} (h : p ∈ mts A B C D) : orn A B p = 0 ∧ orn C D p = 0 := by
  rcases mem_mts.1 h with ⟨rfl | rfl, h'⟩ | ⟨rfl | rfl, h'⟩
  · exact ⟨orn_self1 _ _, h'.1⟩
  · exact ⟨orn_self2 _ _, h'.1⟩
  · exact ⟨h'.1, orn_self1 _ _⟩
  · exact ⟨h'.1, orn_self2 _ _⟩
theorem one_cross {A B C D p q : Int × Int} (h0 : dn A B C D ≠ 0) (hp : p ∈ mts A B C D) (hq : q ∈ mts A B C D) : p = q := by
  obtain ⟨p1, p2⟩ := mts_lines hp
  obtain ⟨q1, q2⟩ := mts_lines hq
  have k1 : dn A B C D * (p.1 - q.1) = 0 := by unfold orn dn at *; grind
  have k2 : dn A B C D * (p.2 - q.2) = 0 := by unfold orn dn at *; grind
  have e1 := (Int.mul_eq_zero.1 k1).resolve_left h0
  have e2 := (Int.mul_eq_zero.1 k2).resolve_left h0
  exact Prod.ext (by omega) (by omega)
def Crs (A B C D : Int × Int) : Prop := orn A B C * orn A B D ≤ 0 ∧ orn C D A * orn C D B ≤ 0
theorem on_A {A B C D : Int × Int} (h0 : dn A B C D ≠ 0) (h1 : orn C D A = 0) : onS A C D ↔ orn A B C * orn A B D ≤ 0 := by
  have := on_iff (A := C) (B := D) (C := A) (D := B) (by rw [dn_swap]; omega) h1
  rw [this]; omega
theorem on_B {A B C D : Int × Int} (h0 : dn A B C D ≠ 0) (h1 : orn C D B = 0) : onS B C D ↔ orn A B C * orn A B D ≤ 0 := by
  have := on_iff (A := C) (B := D) (C := B) (D := A) (by rw [dn_turn, dn_swap]; omega) h1
  rw [this, orn_swap A B C, orn_swap A B D, Int.neg_mul_neg]; omega
theorem on_C {A B C D : Int × Int} (h0 : dn A B C D ≠ 0) (h1 : orn A B C = 0) : onS C A B ↔ orn C D A * orn C D B ≤ 0 := by
  rw [on_iff h0 h1]; omega
theorem on_D {A B C D : Int × Int} (h0 : dn A B C D ≠ 0) (h1 : orn A B D = 0) : onS D A B ↔ orn C D A * orn C D B ≤ 0 := by
  have := on_iff (A := A) (B := B) (C := D) (D := C) (by rw [dn_turn]; omega) h1
  rw [this, orn_swap C D A, orn_swap C D B, Int.neg_mul_neg]; omega
theorem how_cross {A B C D : Int × Int} {h : Int} (h0 : dn A B C D ≠ 0) (hw : Hw A B C D h) : (h = 1 ∧ Crs A B C D) ∨ (h = 0 ∧ ¬ Crs A B C D) := by
  have some_ : ∀ p, p ∈ mts A B C D → Crs A B C D := by
    intro p hp
    obtain ⟨l1, l2⟩ := mts_lines hp
    rcases mem_mts.1 hp with ⟨rfl | rfl, h⟩ | ⟨rfl | rfl, h⟩
    · exact ⟨(on_A h0 l2).1 h, by rw [l2]; simp⟩
    · exact ⟨(on_B h0 l2).1 h, by rw [l2]; simp⟩
    · exact ⟨by rw [l1]; simp, (on_C h0 l1).1 h⟩
    · exact ⟨by rw [l1]; simp, (on_D h0 l1).1 h⟩
  rcases hw with ⟨rfl, p, q, hne, hp, hq⟩ | ⟨rfl, ⟨p, hp⟩, _⟩ | ⟨rfl, _, h1, h2⟩ | ⟨rfl, hno, hn⟩
  · exact absurd (one_cross h0 hp hq) hne
  · exact .inl ⟨rfl, some_ p hp⟩
  · rw [sgn_mul_lt] at h1 h2
    exact .inl ⟨rfl, by omega, by omega⟩
  · refine .inr ⟨rfl, fun ⟨c1, c2⟩ => ?_⟩
    rw [sgn_mul_lt, sgn_mul_lt] at hn
    have hz : orn A B C * orn A B D = 0 ∨ orn C D A * orn C D B = 0 := by omega
    rcases hz with hz | hz
    · rcases Int.mul_eq_zero.1 hz with hz | hz
      · exact hno C (mem_mts.2 (.inr ⟨.inl rfl, (on_C h0 hz).2 c2⟩))
      · exact hno D (mem_mts.2 (.inr ⟨.inr rfl, (on_D h0 hz).2 c2⟩))
    · rcases Int.mul_eq_zero.1 hz with hz | hz
      · exact hno A (mem_mts.2 (.inl ⟨.inl rfl, (on_A h0 hz).2 c1⟩))
      · exact hno B (mem_mts.2 (.inl ⟨.inr rfl, (on_B h0 hz).2 c1⟩))
/-! ### one direction -/
theorem par_apart {A B C D : Int × Int} {h : Int} (hcd : C ≠ D) (h0 : dn A B C D = 0) (h1 : orn A B C ≠ 0) (hw : Hw A B C D h) : h = 0 := by
  have e2 := orn_diff A B C D
  have c1 := cram1 A B C D
  have c2 := cram2 A B C D
  have hs := sq_pos h1
  rw [h0] at e2 c1 c2
  rw [Int.zero_mul] at c1 c2
  have hno : ∀ p, p ∉ mts A B C D := by
    intro p hp
    obtain ⟨l1, l2⟩ := mts_lines hp
    have key : orn C D A = 0 → False := by
      intro hz
      rw [hz, Int.zero_mul, Int.zero_add] at c1 c2
      have d1 := (Int.mul_eq_zero.1 c1.symm).resolve_left h1
      have d2 := (Int.mul_eq_zero.1 c2.symm).resolve_left h1
      exact hcd (Prod.ext (by omega) (by omega))
    rcases mem_mts.1 hp with ⟨rfl | rfl, h⟩ | ⟨rfl | rfl, h⟩
    · exact key l2
    · refine key ?_
      have := orn_diff2 A p C D
      rw [l2] at this; omega
    · exact h1 l1
    · rw [l1] at e2; omega
  rcases hw with ⟨rfl, p, q, hne, hp, hq⟩ | ⟨rfl, ⟨p, hp⟩, _⟩ | ⟨rfl, _, h1', h2⟩ | ⟨rfl, _, _⟩
  · exact absurd hp (hno p)
  · exact absurd hp (hno p)
  · rw [sgn_mul_lt, e2] at h1'
    rw [Int.add_zero] at h1'; omega
  · rfl
/-- along the line: both ends of the other segment behind one end -/
def Off (a b c d : Int) : Prop := ((b - a) * (b - a) < (c - a) * (b - a) ∧ (b - a) * (b - a) < (d - a) * (b - a)) ∨ ((c - a) * (b - a) < 0 ∧ (d - a) * (b - a) < 0)
theorem btw_off {a b c d : Int} (hs : b - a ≠ 0) : (btw a b c ∨ btw a b d ∨ btw c d a ∨ btw c d b) ↔ ¬ Off a b c d := by
  unfold Off
  rw [btw_iff, btw_iff, btw_iff, btw_iff]
  have hS := sq_pos hs
  have f1 : (b - a) * (b - a) * ((c - a) * (b - c)) = (c - a) * (b - a) * ((b - a) * (b - a) - (c - a) * (b - a)) := by grind
  have f2 : (b - a) * (b - a) * ((d - a) * (b - d)) = (d - a) * (b - a) * ((b - a) * (b - a) - (d - a) * (b - a)) := by grind
  have f3 : (b - a) * (b - a) * ((a - c) * (d - a)) = -((c - a) * (b - a)) * ((d - a) * (b - a)) := by grind
  have f4 : (b - a) * (b - a) * ((b - c) * (d - b)) = ((b - a) * (b - a) - (c - a) * (b - a)) * ((d - a) * (b - a) - (b - a) * (b - a)) := by grind
  have g : ∀ {x y : Int}, (b - a) * (b - a) * x = y → (0 ≤ x ↔ 0 ≤ y) := by
    intro x y e
    constructor
    · intro h; rw [← e]; exact Int.mul_nonneg (Int.le_of_lt hS) h
    · intro h; rw [← e] at h; exact nn_of hS h
  rw [g f1, g f2, g f3, g f4]
  clear f1 f2 f3 f4 g
  generalize (b - a) * (b - a) = S at *
  generalize (c - a) * (b - a) = x at *
  generalize (d - a) * (b - a) = y at *
  rw [mul_nn, mul_nn, mul_nn, mul_nn]
  omega
theorem on_axis1 {A B P : Int × Int} (hx : B.1 - A.1 ≠ 0) (h : orn A B P = 0) : onS P A B ↔ btw A.1 B.1 P.1 := by
  unfold onS
  rw [btw_iff, btw_iff]
  constructor
  · exact fun h => h.2.1
  · intro hb
    refine ⟨h, hb, nn_of (sq_pos hx) ?_⟩
    have : (B.1 - A.1) * (B.1 - A.1) * ((P.2 - A.2) * (B.2 - P.2)) = (B.2 - A.2) * (B.2 - A.2) * ((P.1 - A.1) * (B.1 - P.1)) := by
      unfold orn at h
      have e1 : (B.1 - A.1) * (P.2 - A.2) = (B.2 - A.2) * (P.1 - A.1) := by omega
      have e2 : (B.1 - A.1) * (B.2 - P.2) = (B.2 - A.2) * (B.1 - P.1) := by grind
      grind
    rw [this]; exact Int.mul_nonneg (sq_nn _) hb
theorem on_axis2 {A B P : Int × Int} (hx : B.2 - A.2 ≠ 0) (h : orn A B P = 0) : onS P A B ↔ btw A.2 B.2 P.2 := by
  unfold onS
  rw [btw_iff, btw_iff]
  constructor
  · exact fun h => h.2.2
  · intro hb
    refine ⟨h, nn_of (sq_pos hx) ?_, hb⟩
    have : (B.2 - A.2) * (B.2 - A.2) * ((P.1 - A.1) * (B.1 - P.1)) = (B.1 - A.1) * (B.1 - A.1) * ((P.2 - A.2) * (B.2 - P.2)) := by
      unfold orn at h
      have e1 : (B.1 - A.1) * (P.2 - A.2) = (B.2 - A.2) * (P.1 - A.1) := by omega
      have e2 : (B.1 - A.1) * (B.2 - P.2) = (B.2 - A.2) * (B.1 - P.1) := by grind
      grind
    rw [this]; exact Int.mul_nonneg (sq_nn _) hb
theorem col_all {A B C D : Int × Int} (hab : A ≠ B) (h0 : dn A B C D = 0) (h1 : orn A B C = 0) : orn A B D = 0 ∧ orn C D A = 0 ∧ orn C D B = 0 := by
  have e2 := orn_diff A B C D
  have c1 := cram1 A B C D
  have c2 := cram2 A B C D
  have e3 := orn_diff2 A B C D
  rw [h0] at e2 c1 c2 e3
  rw [h1, Int.zero_mul, Int.zero_mul, Int.add_zero] at c1 c2
  have h3 : orn C D A = 0 := by
    apply Classical.byContradiction
    intro hz
    have d1 := (Int.mul_eq_zero.1 c1.symm).resolve_left hz
    have d2 := (Int.mul_eq_zero.1 c2.symm).resolve_left hz
    exact hab (Prod.ext (by omega) (by omega))
  exact ⟨by omega, h3, by omega⟩
theorem how_col {A B C D : Int × Int} {h : Int} (hno : (∀ p, p ∉ mts A B C D) ∨ ∃ p, p ∈ mts A B C D) (h1 : orn A B C = 0) (hw : Hw A B C D h) : ((∀ p, p ∉ mts A B C D) ∧ h = 0) ∨ ((∃ p, p ∈ mts A B C D) ∧ (h = 1 ∨ h = 2)) := by
  rcases hw with ⟨rfl, p, q, hne, hp, hq⟩ | ⟨rfl, ⟨p, hp⟩, _⟩ | ⟨rfl, _, h1', h2⟩ | ⟨rfl, hno, _⟩
  · exact .inr ⟨⟨p, hp⟩, .inr rfl⟩
  · exact .inr ⟨⟨p, hp⟩, .inl rfl⟩
  · rw [sgn_mul_lt, h1] at h1'; omega
  · exact .inl ⟨hno, rfl⟩
theorem how_line1 {A B C D : Int × Int} {h : Int} (hcd : C ≠ D) (hx : B.1 - A.1 ≠ 0) (h0 : dn A B C D = 0) (h1 : orn A B C = 0) (hw : Hw A B C D h) :
    (h = 0 ∧ Off A.1 B.1 C.1 D.1) ∨ ((h = 1 ∨ h = 2) ∧ ¬ Off A.1 B.1 C.1 D.1) := by
  have hab : A ≠ B := fun e => hx (by rw [e]; omega)
  obtain ⟨l2, l3, l4⟩ := col_all hab h0 h1
  have hv : D.1 - C.1 ≠ 0 := by
    intro hv
    have h0' := h0
    unfold dn at h0'
    rw [hv, Int.mul_zero, Int.sub_zero] at h0'
    have := (Int.mul_eq_zero.1 h0').resolve_left hx
    exact hcd (Prod.ext (by omega) (by omega))
  have key : (∃ p, p ∈ mts A B C D) ↔ ¬ Off A.1 B.1 C.1 D.1 := by
    rw [← btw_off hx]
    constructor
    · rintro ⟨p, hp⟩
      rcases mem_mts.1 hp with ⟨rfl | rfl, h⟩ | ⟨rfl | rfl, h⟩
      · exact .inr (.inr (.inl h.2.1))
      · exact .inr (.inr (.inr h.2.1))
      · exact .inl h.2.1
      · exact .inr (.inl h.2.1)
    · rintro (h | h | h | h)
      · exact ⟨C, mem_mts.2 (.inr ⟨.inl rfl, (on_axis1 hx h1).2 h⟩)⟩
      · exact ⟨D, mem_mts.2 (.inr ⟨.inr rfl, (on_axis1 hx l2).2 h⟩)⟩
      · exact ⟨A, mem_mts.2 (.inl ⟨.inl rfl, (on_axis1 hv l3).2 h⟩)⟩
      · exact ⟨B, mem_mts.2 (.inl ⟨.inr rfl, (on_axis1 hv l4).2 h⟩)⟩
  by_cases hm : ∃ p, p ∈ mts A B C D
  · rcases how_col (.inr hm) h1 hw with ⟨hn, _⟩ | ⟨_, hh⟩
    · obtain ⟨p, hp⟩ := hm; exact absurd hp (hn p)
    · exact .inr ⟨hh, key.1 hm⟩
  · rcases how_col (.inl fun p hp => hm ⟨p, hp⟩) h1 hw with ⟨_, hh⟩ | ⟨hn, _⟩
    · exact .inl ⟨hh, Classical.byContradiction fun ho => hm (key.2 ho)⟩
    · exact absurd hn hm
theorem how_line2 {A B C D : Int × Int} {h : Int} (hcd : C ≠ D) (hx : B.2 - A.2 ≠ 0) (h0 : dn A B C D = 0) (h1 : orn A B C = 0) (hw : Hw A B C D h) :
    (h = 0 ∧ Off A.2 B.2 C.2 D.2) ∨ ((h = 1 ∨ h = 2) ∧ ¬ Off A.2 B.2 C.2 D.2) := by
  have hab : A ≠ B := fun e => hx (by rw [e]; omega)
  obtain ⟨l2, l3, l4⟩ := col_all hab h0 h1
  have hv : D.2 - C.2 ≠ 0 := by
    intro hv
    have h0' := h0
    unfold dn at h0'
    rw [hv, Int.mul_zero, Int.zero_sub] at h0'
    have := (Int.mul_eq_zero.1 (show (B.2 - A.2) * (D.1 - C.1) = 0 by omega)).resolve_left hx
    exact hcd (Prod.ext (by omega) (by omega))
  have key : (∃ p, p ∈ mts A B C D) ↔ ¬ Off A.2 B.2 C.2 D.2 := by
    rw [← btw_off hx]
    constructor
    · rintro ⟨p, hp⟩
      rcases mem_mts.1 hp with ⟨rfl | rfl, h⟩ | ⟨rfl | rfl, h⟩
      · exact .inr (.inr (.inl h.2.2))
      · exact .inr (.inr (.inr h.2.2))
      · exact .inl h.2.2
      · exact .inr (.inl h.2.2)
    · rintro (h | h | h | h)
      · exact ⟨C, mem_mts.2 (.inr ⟨.inl rfl, (on_axis2 hx h1).2 h⟩)⟩
      · exact ⟨D, mem_mts.2 (.inr ⟨.inr rfl, (on_axis2 hx l2).2 h⟩)⟩
      · exact ⟨A, mem_mts.2 (.inl ⟨.inl rfl, (on_axis2 hv l3).2 h⟩)⟩
      · exact ⟨B, mem_mts.2 (.inl ⟨.inr rfl, (on_axis2 hv l4).2 h⟩)⟩
  by_cases hm : ∃ p, p ∈ mts A B C D
  · rcases how_col (.inr hm) h1 hw with ⟨hn, _⟩ | ⟨_, hh⟩
    · obtain ⟨p, hp⟩ := hm; exact absurd hp (hn p)
    · exact .inr ⟨hh, key.1 hm⟩
  · rcases how_col (.inl fun p hp => hm ⟨p, hp⟩) h1 hw with ⟨_, hh⟩ | ⟨hn, _⟩
    · exact .inl ⟨hh, Classical.byContradiction fun ho => hm (key.2 ho)⟩
    · exact absurd hn hm
end Go.Proofs.YthobbfpoooommaaGreat
