/-
  Words of 32 bits as four bytes, in both orders: reading. Ours.
-/
import Derived.Test.YthjeamiaogdmgaaDoorFun
import Derived.Test.YthjeamiaogdmgaaDoorSxW
namespace Go.Proofs.YthjeamiaogdmgaaDoor
open Go.Sx
set_option linter.unusedVariables false
set_option linter.unusedSimpArgs false
set_option maxRecDepth 100000

theorem wrap_u8 {x : Int} : IntKind.wrap .u8 x = x % 256 := by
  have h : IntKind.wrap .u8 x = x % (2 : Int) ^ 8 := rfl
  rw [h]; rfl
theorem wrap_u32 {x : Int} : IntKind.wrap .u32 x = x % 4294967296 := by
  have h : IntKind.wrap .u32 x = x % (2 : Int) ^ 32 := rfl
  rw [h]; rfl
theorem wrap_u64 {x : Int} : IntKind.wrap .u64 x = x % 18446744073709551616 := by
  have h : IntKind.wrap .u64 x = x % (2 : Int) ^ 64 := rfl
  rw [h]; rfl
/-- the i-th byte -/
def byt (v i : Nat) : Nat := v / 2 ^ (8 * i) % 256
theorem byt_lt (v i : Nat) : byt v i < 256 := Nat.mod_lt _ (by decide)
theorem cv8_is (x : Nat) : icv .u8 (x : Int) = ((x % 256 : Nat) : Int) := by
  show IntKind.wrap .u8 _ = _
  rw [wrap_u8]; omega
theorem shr32 {v n : Nat} (hn : n ≤ 32) : ishr .u32 (v : Int) (n : Int) = some ((v / 2 ^ n : Nat) : Int) := by
  unfold ishr
  rw [if_neg (by omega)]
  have e : min ((n : Int)).toNat IntKind.u32.bits = n := by
    show min ((n : Int)).toNat 32 = n
    omega
  rw [e, Int.fdiv_eq_ediv_of_nonneg _ (Int.le_of_lt (Int.pow_pos (by omega)))]
  push_cast; rfl
theorem shr64 {v n : Nat} (hn : n ≤ 64) : ishr .u64 (v : Int) (n : Int) = some ((v / 2 ^ n : Nat) : Int) := by
  unfold ishr
  rw [if_neg (by omega)]
  have e : min ((n : Int)).toNat IntKind.u64.bits = n := by
    show min ((n : Int)).toNat 64 = n
    omega
  rw [e, Int.fdiv_eq_ediv_of_nonneg _ (Int.le_of_lt (Int.pow_pos (by omega)))]
  push_cast; rfl
theorem cv32_is {x : Nat} (h : x < 4294967296) : icv .u32 (x : Int) = (x : Int) := by
  show IntKind.wrap .u32 _ = _
  rw [wrap_u32]; omega
theorem shl32 {x n : Nat} (hn : n ≤ 24) (hx : x < 256) : ishl .u32 (x : Int) (n : Int) = some ((x * 2 ^ n : Nat) : Int) := by
  have h1 : 2 ^ n ≤ 2 ^ 24 := Nat.pow_le_pow_right (by decide) hn
  have h3 : 0 < 2 ^ n := Nat.two_pow_pos n
  have h2 : x * 2 ^ n ≤ 255 * 2 ^ 24 := Nat.mul_le_mul (by omega) h1
  unfold ishl
  rw [if_neg (by omega)]
  have e : min ((n : Int)).toNat IntKind.u32.bits = n := by
    show min ((n : Int)).toNat 32 = n
    omega
  have e2 : (x : Int) * 2 ^ n = ((x * 2 ^ n : Nat) : Int) := by push_cast; rfl
  rw [e, e2, wrap_u32]
  congr 1
  omega
theorem or32 {x y n : Nat} (hx : x < 2 ^ n) (h : x + y * 2 ^ n < 4294967296) : ior .u32 (x : Int) ((y * 2 ^ n : Nat) : Int) = ((x + y * 2 ^ n : Nat) : Int) := by
  unfold ior
  show IntKind.wrap .u32 ((BitVec.ofInt 32 (x : Int) ||| BitVec.ofInt 32 ((y * 2 ^ n : Nat) : Int)).toNat : Int) = _
  have b (z : Nat) (hz : z < 4294967296) : (BitVec.ofInt 32 (z : Int)).toNat = z := by
    rw [BitVec.toNat_ofInt]
    have : ((z : Int) % ((2 ^ 32 : Nat) : Int)) = (z : Int) := by
      have : ((2 ^ 32 : Nat) : Int) = 4294967296 := rfl
      rw [this]; omega
    rw [this]; rfl
  rw [BitVec.toNat_or, b x (by omega), b _ (by omega)]
  have e : x ||| y * 2 ^ n = x + y * 2 ^ n := by
    have := Nat.shiftLeft_add_eq_or_of_lt hx y
    rw [Nat.shiftLeft_eq] at this
    rw [Nat.or_comm, ← this, Nat.add_comm]
  rw [e, wrap_u32]; omega
theorem bytes_sum {v : Nat} (h : v < 4294967296) : byt v 0 + byt v 1 * 2 ^ 8 + byt v 2 * 2 ^ 16 + byt v 3 * 2 ^ 24 = v := by
  unfold byt
  simp only [Nat.mul_zero, Nat.pow_zero, Nat.div_one, Nat.mul_one, show 8 * 2 = 16 from rfl, show 8 * 3 = 24 from rfl, show 2 ^ 8 = 256 from rfl, show 2 ^ 16 = 65536 from rfl, show 2 ^ 24 = 16777216 from rfl]
  omega
/-- the bytes in an order -/
def be (v : Nat) : List Int := [(byt v 3 : Int), (byt v 2 : Int), (byt v 1 : Int), (byt v 0 : Int)]
def le (v : Nat) : List Int := [(byt v 0 : Int), (byt v 1 : Int), (byt v 2 : Int), (byt v 3 : Int)]
theorem big_is (F : Nat) {a b c d : Nat} (ha : a < 256) (hb : b < 256) (hc : c < 256) (hd : d < 256) :
    binary_bigEndian_Uint32 F [(a : Int), (b : Int), (c : Int), (d : Int)] = some ((d + c * 2 ^ 8 + b * 2 ^ 16 + a * 2 ^ 24 : Nat) : Int) := by
  unfold binary_bigEndian_Uint32
  rw [show idx [(a : Int), (b : Int), (c : Int), (d : Int)] 3 = some (d : Int) from rfl, sbind, sbind, show idx [(a : Int), (b : Int), (c : Int), (d : Int)] 2 = some (c : Int) from rfl, sbind]
  rw [cv32_is (by omega), show (8 : Int) = ((8 : Nat) : Int) from rfl, shl32 (by decide) hc, sbind]
  rw [show idx [(a : Int), (b : Int), (c : Int), (d : Int)] 1 = some (b : Int) from rfl, sbind, cv32_is (by omega), show (16 : Int) = ((16 : Nat) : Int) from rfl, shl32 (by decide) hb, sbind]
  rw [show idx [(a : Int), (b : Int), (c : Int), (d : Int)] 0 = some (a : Int) from rfl, sbind, cv32_is (by omega), show (24 : Int) = ((24 : Nat) : Int) from rfl, shl32 (by decide) ha, sbind]
  rw [cv32_is (by omega), or32 (n := 8) (by omega) (by omega), or32 (n := 16) (by omega) (by omega), or32 (n := 24) (by omega) (by omega)]
theorem little_is (F : Nat) {a b c d : Nat} (ha : a < 256) (hb : b < 256) (hc : c < 256) (hd : d < 256) :
    binary_littleEndian_Uint32 F [(d : Int), (c : Int), (b : Int), (a : Int)] = some ((d + c * 2 ^ 8 + b * 2 ^ 16 + a * 2 ^ 24 : Nat) : Int) := by
  unfold binary_littleEndian_Uint32
  rw [show idx [(d : Int), (c : Int), (b : Int), (a : Int)] 3 = some (a : Int) from rfl, sbind, show idx [(d : Int), (c : Int), (b : Int), (a : Int)] 0 = some (d : Int) from rfl, sbind, show idx [(d : Int), (c : Int), (b : Int), (a : Int)] 1 = some (c : Int) from rfl, sbind]
  rw [cv32_is (by omega), show (8 : Int) = ((8 : Nat) : Int) from rfl, shl32 (by decide) hc, sbind]
  rw [show idx [(d : Int), (c : Int), (b : Int), (a : Int)] 2 = some (b : Int) from rfl, sbind, cv32_is (by omega), show (16 : Int) = ((16 : Nat) : Int) from rfl, shl32 (by decide) hb, sbind]
  rw [sbind, cv32_is (by omega), show (24 : Int) = ((24 : Nat) : Int) from rfl, shl32 (by decide) ha, sbind]
  rw [cv32_is (by omega), or32 (n := 8) (by omega) (by omega), or32 (n := 16) (by omega) (by omega), or32 (n := 24) (by omega) (by omega)]
/-! #### the other way of writing -/
theorem wkbOut_is (F : Nat) (hF : 5 ≤ F) (big : Bool) (v : Nat) (hv : v < 4294967296) : spec_CountBytes F (v : Int) big = some (if big then be v else le v) := by
  obtain ⟨k, rfl⟩ : ∃ k, F = k + 5 := ⟨F - 5, by omega⟩
  have hc : icv .u64 (v : Int) = (v : Int) := by
    show IntKind.wrap .u64 _ = _
    rw [wrap_u64]; omega
  have hs (n : Nat) (hn : n ≤ 64) := shr64 (v := v) (n := n) hn
  have hap (l : List Int) (x : Int) (hl : l.length < 100) : apd 1 l [x] = some (l ++ [x]) := by
    unfold apd
    rw [if_pos ⟨by simp; omega, by simp; omega⟩]
  have step (n x2 : Nat) (hx : x2 < 4) (l : List Int) (hl : l.length < 100) (rec1 : ((List Int) × Int) → Option (List Int)) (i : Nat) (hi : i < 4) :
      spec_wkbOut_uint_j2 n (v : Int) l rec1 (i : Int) (x2 : Int) = rec1 (l ++ [(byt v x2 : Int)], ((i + 1 : Nat) : Int)) := by
    have e1 : imul .i64 8 (x2 : Int) = ((8 * x2 : Nat) : Int) := by
      show IntKind.wrap .i64 _ = _
      rw [wrap_i64 (by omega) (by omega)]; push_cast; rfl
    have e2 : iadd .i64 (i : Int) 1 = ((i + 1 : Nat) : Int) := by
      show IntKind.wrap .i64 _ = _
      rw [wrap_i64 (by omega) (by omega)]; push_cast; rfl
    unfold spec_wkbOut_uint_j2
    rw [e1, hs _ (by omega), sbind, cv8_is, hap _ _ hl, sbind, e2]
    rfl
  have round (n i : Nat) (hi : i < 4) (l : List Int) (hl : l.length < 100) : spec_wkbOut_uint_l1 4 big (v : Int) (n + 1) (l, (i : Int)) = spec_wkbOut_uint_l1 4 big (v : Int) n (l ++ [(byt v (if big then 3 - i else i) : Int)], ((i + 1 : Nat) : Int)) := by
    show br (decide ((i : Int) < 4)) (br big (spec_wkbOut_uint_j2 n (v : Int) l (spec_wkbOut_uint_l1 4 big (v : Int) n) (i : Int) (isub .i64 (isub .i64 4 1) (i : Int))) (spec_wkbOut_uint_j2 n (v : Int) l (spec_wkbOut_uint_l1 4 big (v : Int) n) (i : Int) (i : Int))) (some l) = _
    rw [decide_eq_true (by omega), br_true]
    have es : isub .i64 (isub .i64 4 1) (i : Int) = ((3 - i : Nat) : Int) := by
      have e1 : isub .i64 4 1 = 3 := by decide
      rw [e1]
      show IntKind.wrap .i64 _ = _
      rw [wrap_i64 (by omega) (by omega)]; omega
    have step' (x2 : Nat) (hx : x2 < 4) : spec_wkbOut_uint_j2 n (v : Int) l (spec_wkbOut_uint_l1 4 big (v : Int) n) (i : Int) (x2 : Int) = spec_wkbOut_uint_l1 4 big (v : Int) n (l ++ [(byt v x2 : Int)], ((i + 1 : Nat) : Int)) := step n x2 hx l hl _ i hi
    cases big with
    | true => rw [br_true, es, step' _ (by omega)]; rfl
    | false => rw [br_false, step' _ hi]; rfl
  have last (n : Nat) (l : List Int) : spec_wkbOut_uint_l1 4 big (v : Int) (n + 1) (l, ((4 : Nat) : Int)) = some l := rfl
  unfold spec_CountBytes spec_wkbOut_uint
  rw [hc]
  have r0 := round (k + 4) 0 (by decide) [] (by simp)
  have r1 := round (k + 3) 1 (by decide) ([] ++ [(byt v (if big then 3 - 0 else 0) : Int)]) (by simp)
  have r2 := round (k + 2) 2 (by decide) (([] ++ [(byt v (if big then 3 - 0 else 0) : Int)]) ++ [(byt v (if big then 3 - 1 else 1) : Int)]) (by simp)
  have r3 := round (k + 1) 3 (by decide) ((([] ++ [(byt v (if big then 3 - 0 else 0) : Int)]) ++ [(byt v (if big then 3 - 1 else 1) : Int)]) ++ [(byt v (if big then 3 - 2 else 2) : Int)]) (by simp)
  have h := (r0.trans (r1.trans (r2.trans r3))).trans (last k _)
  rw [show (([] : List Int), (0 : Int)) = (([] : List Int), ((0 : Nat) : Int)) from rfl, h, sbind, sbind]
  cases big <;> rfl
end Go.Proofs.YthjeamiaogdmgaaDoor
