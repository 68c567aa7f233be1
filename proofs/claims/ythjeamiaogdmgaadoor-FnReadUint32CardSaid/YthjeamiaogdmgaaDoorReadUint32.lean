/-
  A word is read from four bytes, whatever lies behind them; from fewer it is not: the plain statement. Ours.
-/
import Derived.Test.YthjeamiaogdmgaaDoorBytes4R
namespace Go.Proofs.YthjeamiaogdmgaaDoor
open Go.Sx
set_option linter.unusedVariables false
set_option linter.unusedSimpArgs false
set_option maxRecDepth 100000

theorem full0 (F : Nat) : io_ReadFull F [] 0 0 [0, 0, 0, 0] = some (.inr (.inr (.inr ([], 0, 0, [0, 0, 0, 0], 0)))) := rfl
theorem full1 (F : Nat) (a : Int) : io_ReadFull F [a] 0 0 [0, 0, 0, 0] = some (.inr (.inr (.inl ([], 0, 0, [a, 0, 0, 0], 1)))) := rfl
theorem full2 (F : Nat) (a b : Int) : io_ReadFull F [a, b] 0 0 [0, 0, 0, 0] = some (.inr (.inr (.inl ([], 0, 0, [a, b, 0, 0], 2)))) := rfl
theorem full3 (F : Nat) (a b c : Int) : io_ReadFull F [a, b, c] 0 0 [0, 0, 0, 0] = some (.inr (.inr (.inl ([], 0, 0, [a, b, c, 0], 3)))) := rfl
theorem full4 (F : Nat) (a b c d : Int) (t : List Int) : io_ReadFull F (a :: b :: c :: d :: t) 0 0 [0, 0, 0, 0] = some (.inr (.inl (a :: b :: c :: d :: t, 4, -1, [a, b, c, d], 4))) := by
  have e1 : (Nat.min (a :: b :: c :: d :: t).length [(0 : Int), 0, 0, 0].length) = 4 := by
    show min (t.length + 4) 4 = 4
    omega
  have e2 : cpy [(0 : Int), 0, 0, 0] (a :: b :: c :: d :: t) = [a, b, c, d] := by simp [cpy]
  have hr : bytes_Buffer_Read F (a :: b :: c :: d :: t) 0 0 [0, 0, 0, 0] = some (.inl (a :: b :: c :: d :: t, 4, -1, [a, b, c, d], 4)) := by
    unfold bytes_Buffer_Read bytes_Buffer_empty
    rw [sbind]
    dsimp only
    rw [decide_eq_false (by simp; omega), br_false, cut_some (by omega) (by omega) (by omega), sbind]
    have e3 : ((a :: b :: c :: d :: t).take (((a :: b :: c :: d :: t).length : Int)).toNat).drop (0 : Int).toNat = a :: b :: c :: d :: t := by
      rw [Int.toNat_natCast, List.take_length]; rfl
    rw [e3, e1, decide_eq_true (by decide), br_true]
    unfold bytes_Buffer_Read_j1
    rw [e1, e2]
    rfl
  unfold io_ReadFull io_ReadAtLeast
  rw [decide_eq_false (by decide), br_false, decide_eq_true (by decide), br_true]
  unfold io_ReadAtLeast_j2
  rw [br_true, hr]
  rfl
def okLen (l : List Int) : Bool := decide (4 ≤ (l.length : Int))
def Byts (l : List Int) : Prop := ∀ x ∈ l, 0 ≤ x ∧ x ≤ 255
theorem bytes_of {a b c d : Nat} (ha : a < 256) (hb : b < 256) (hc : c < 256) (hd : d < 256) :
    byt (d + c * 2 ^ 8 + b * 2 ^ 16 + a * 2 ^ 24) 0 = d ∧ byt (d + c * 2 ^ 8 + b * 2 ^ 16 + a * 2 ^ 24) 1 = c ∧ byt (d + c * 2 ^ 8 + b * 2 ^ 16 + a * 2 ^ 24) 2 = b ∧ byt (d + c * 2 ^ 8 + b * 2 ^ 16 + a * 2 ^ 24) 3 = a := by
  unfold byt
  simp only [Nat.mul_zero, Nat.pow_zero, Nat.div_one, Nat.mul_one, show 8 * 2 = 16 from rfl, show 8 * 3 = 24 from rfl, show 2 ^ 8 = 256 from rfl, show 2 ^ 16 = 65536 from rfl, show 2 ^ 24 = 16777216 from rfl]
  omega
theorem read4 (F : Nat) (hF : 5 ≤ F) (big : Bool) (a b c d : Nat) (t : List Int) (ha : a < 256) (hb : b < 256) (hc : c < 256) (hd : d < 256) (ht : t.length < 3000) :
    ∃ v : Int, impl_ReadUint32 F ((a : Int) :: (b : Int) :: (c : Int) :: (d : Int) :: t) big = some (v, (t.length : Int), true) ∧ spec_CountBytes F v big = some [(a : Int), (b : Int), (c : Int), (d : Int)] := by
  have hlen : isub .i64 (((a : Int) :: (b : Int) :: (c : Int) :: (d : Int) :: t).length : Int) 4 = (t.length : Int) := by
    show IntKind.wrap .i64 _ = _
    rw [List.length_cons, List.length_cons, List.length_cons, List.length_cons, wrap_i64 (by omega) (by omega)]
    omega
  unfold impl_ReadUint32 wkbcommon_DoorOrder bytes_NewBuffer
  cases big with
  | true =>
    obtain ⟨h0, h1, h2, h3⟩ := bytes_of ha hb hc hd
    refine ⟨((d + c * 2 ^ 8 + b * 2 ^ 16 + a * 2 ^ 24 : Nat) : Int), ?_, ?_⟩
    · rw [sbind, br_true, sbind]
      dsimp only
      unfold wkbcommon_ReadUInt32
      rw [full4, sbind]
      dsimp only
      rw [big_is F ha hb hc hd, sbind, sbind]
      dsimp only
      unfold bytes_Buffer_Len
      rw [sbind]
      dsimp only
      rw [hlen]
    · rw [wkbOut_is F hF true _ (by omega), if_pos rfl]
      unfold be
      rw [h0, h1, h2, h3]
  | false =>
    obtain ⟨h0, h1, h2, h3⟩ := bytes_of hd hc hb ha
    refine ⟨((a + b * 2 ^ 8 + c * 2 ^ 16 + d * 2 ^ 24 : Nat) : Int), ?_, ?_⟩
    · rw [sbind, br_false, sbind]
      dsimp only
      unfold wkbcommon_ReadUInt32_v2
      rw [full4, sbind]
      dsimp only
      rw [little_is F hd hc hb ha, sbind, sbind]
      dsimp only
      unfold bytes_Buffer_Len
      rw [sbind]
      dsimp only
      rw [hlen]
    · rw [wkbOut_is F hF false _ (by omega), if_neg (by decide)]
      unfold le
      rw [h0, h1, h2, h3]
theorem readFew (F : Nat) (big : Bool) (l : List Int) (hl : l.length < 4) : ∃ v n, impl_ReadUint32 F l big = some (v, n, false) := by
  unfold impl_ReadUint32 wkbcommon_DoorOrder bytes_NewBuffer
  rw [sbind]
  match l, hl with
  | [], _ => cases big <;> exact ⟨_, _, rfl⟩
  | [a], _ => cases big <;> exact ⟨_, _, rfl⟩
  | [a, b], _ => cases big <;> exact ⟨_, _, rfl⟩
  | [a, b, c], _ => cases big <;> exact ⟨_, _, rfl⟩
theorem two_same : impl_ReadUint32_v2 = impl_ReadUint32 := rfl
theorem main (F : Nat) (hF : 5 ≤ F) (l : List Int) (hb : Byts l) (big : Bool) : laws_FnReadUint32 F l big = some true := by
  unfold laws_FnReadUint32
  by_cases h1 : 2147483647 < (l.length : Int)
  · rw [decide_eq_true h1]; rfl
  rw [decide_eq_false h1, br_false]
  by_cases h2 : 2000 < (l.length : Int)
  · rw [decide_eq_true h2]; rfl
  rw [decide_eq_false h2, br_false, two_same]
  obtain ⟨v0, hv0, _⟩ := read4 F hF big 1 2 3 4 [] (by decide) (by decide) (by decide) (by decide) (by decide)
  have hv0' : impl_ReadUint32 F [1, 2, 3, 4] big = some (v0, ((([] : List Int).length : Nat) : Int), true) := hv0
  by_cases h4 : l.length < 4
  · obtain ⟨v, n, hv⟩ := readFew F big l h4
    rw [hv, sbind, hv0', sbind]
    dsimp only
    rw [br_true, decide_eq_false (by omega)]
    rfl
  · match l, h4, hb, h2 with
    | [], h4, _, _ => exact absurd (by decide) h4
    | [a], h4, _, _ => exact absurd (by simp) h4
    | [a, b], h4, _, _ => exact absurd (by simp) h4
    | [a, b, c], h4, _, _ => exact absurd (by simp) h4
    | a :: b :: c :: d :: t, _, hb, h2 =>
      have ga := hb a (by simp)
      have gb := hb b (by simp)
      have gc := hb c (by simp)
      have gd := hb d (by simp)
      obtain ⟨a, rfl⟩ : ∃ n : Nat, a = n := ⟨a.toNat, by omega⟩
      obtain ⟨b, rfl⟩ : ∃ n : Nat, b = n := ⟨b.toNat, by omega⟩
      obtain ⟨c, rfl⟩ : ∃ n : Nat, c = n := ⟨c.toNat, by omega⟩
      obtain ⟨d, rfl⟩ : ∃ n : Nat, d = n := ⟨d.toNat, by omega⟩
      rw [List.length_cons, List.length_cons, List.length_cons, List.length_cons] at h2
      obtain ⟨v, hv, hs⟩ := read4 F hF big a b c d t (by omega) (by omega) (by omega) (by omega) (by omega)
      rw [hv, sbind, hv0', sbind]
      dsimp only
      rw [br_true, decide_eq_true (by rw [List.length_cons, List.length_cons, List.length_cons, List.length_cons]; omega)]
      unfold laws_FnReadUint32_j1
      dsimp only
      have hcut : cut ((a : Int) :: (b : Int) :: (c : Int) :: (d : Int) :: t) 0 4 = some [(a : Int), (b : Int), (c : Int), (d : Int)] := by
        rw [cut_some (by omega) (by omega) (by rw [List.length_cons, List.length_cons, List.length_cons, List.length_cons]; omega)]
        simp
      have hlen : isub .i64 (((a : Int) :: (b : Int) :: (c : Int) :: (d : Int) :: t).length : Int) 4 = (t.length : Int) := by
        show IntKind.wrap .i64 _ = _
        rw [List.length_cons, List.length_cons, List.length_cons, List.length_cons, wrap_i64 (by omega) (by omega)]
        omega
      rw [show (true == true) = true from rfl, br_true, Bool.not_true, br_false, hcut, sbind, hs, sbind]
      unfold laws_ySame
      rw [sbind, beq_self_eq_true, br_true, hlen, decide_eq_true rfl]
      rfl
theorem fact_FnReadUint32 (l : List Int) (b : Bool) {p : Prop} (g0 : l.length ≤ maxLen ∧ ∀ x ∈ l, IntKind.min .u8 ≤ x ∧ x ≤ IntKind.max .u8) (g1 : p) : laws_FnReadUint32 100 l b = some true := by
  have h1 : IntKind.min .u8 = 0 := by decide
  have h2 : IntKind.max .u8 = 255 := by decide
  rw [h1, h2] at g0
  exact main 100 (by decide) l g0.2 b
end Go.Proofs.YthjeamiaogdmgaaDoor
