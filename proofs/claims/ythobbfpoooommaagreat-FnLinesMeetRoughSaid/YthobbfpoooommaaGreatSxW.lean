/-
  Words of so many bits: what the plain operations are where nothing overflows. Ours; it knows no program.
-/
import Derived.Test.YthobbfpoooommaaGreatSxR
import Derived.Test.YthobbfpoooommaaGreatSxN
namespace Go.Sx
set_option linter.unusedVariables false
set_option linter.unusedSimpArgs false
set_option maxRecDepth 100000

theorem wrap_u64 (n : Int) : IntKind.wrap .u64 n = n % 18446744073709551616 := by simp [IntKind.wrap, IntKind.signed, IntKind.bits]
theorem wrap_u32 (n : Int) : IntKind.wrap .u32 n = n % 4294967296 := by simp [IntKind.wrap, IntKind.signed, IntKind.bits]
theorem wrap_u64_id {n : Int} (h0 : 0 ≤ n) (h1 : n < 18446744073709551616) : IntKind.wrap .u64 n = n := by rw [wrap_u64]; exact Int.emod_eq_of_lt h0 h1
theorem wrap_u32_id {n : Int} (h0 : 0 ≤ n) (h1 : n < 4294967296) : IntKind.wrap .u32 n = n := by rw [wrap_u32]; exact Int.emod_eq_of_lt h0 h1
theorem icv_u64 {n : Int} (h0 : 0 ≤ n) (h1 : n < 18446744073709551616) : icv .u64 n = n := wrap_u64_id h0 h1
theorem icv_u32 (n : Int) : icv .u32 n = n % 4294967296 := wrap_u32 n
theorem icv_i64 {n : Int} (h0 : -9223372036854775808 ≤ n) (h1 : n < 9223372036854775808) : icv .i64 n = n := wrap_i64 h0 h1
theorem iadd_u64 {a b : Int} (h0 : 0 ≤ a + b) (h1 : a + b < 18446744073709551616) : iadd .u64 a b = a + b := wrap_u64_id h0 h1
theorem isub_u64 {a b : Int} (h0 : 0 ≤ a - b) (h1 : a - b < 18446744073709551616) : isub .u64 a b = a - b := wrap_u64_id h0 h1
theorem imul_u64 {a b : Int} (h0 : 0 ≤ a * b) (h1 : a * b < 18446744073709551616) : imul .u64 a b = a * b := wrap_u64_id h0 h1
theorem ishr_u {k : IntKind} {a : Int} {n : Nat} (hk : k.bits = 64 ∨ k.bits = 32) (hs : k.signed = false) (h0 : 0 ≤ a) (hn : n ≤ k.bits) (h1 : a < 2 ^ k.bits) : ishr k a (n : Int) = some (a / 2 ^ n) := by
  have h5 : min (n : Int).toNat k.bits = n := by simp; omega
  have h6 : Int.fdiv a (2 ^ n) = a / 2 ^ n := Int.fdiv_eq_ediv_of_nonneg _ (Int.le_of_lt (Int.pow_pos (by omega)))
  unfold ishr
  rw [if_neg (by omega), h5, h6]

theorem ishr_u64 {a : Int} {n : Nat} (h0 : 0 ≤ a) (h1 : a < 18446744073709551616) (hn : n ≤ 64) : ishr .u64 a (n : Int) = some (a / 2 ^ n) :=
  ishr_u (.inl rfl) rfl h0 hn (by simpa [IntKind.bits] using h1)
theorem ishl_u64 {a : Int} {n : Nat} (hn : n ≤ 64) : ishl .u64 a (n : Int) = some ((a * 2 ^ n) % 18446744073709551616) := by
  unfold ishl
  rw [if_neg (by omega)]
  have : min (n : Int).toNat IntKind.u64.bits = n := by simp [IntKind.bits]; omega
  rw [this, wrap_u64]

theorem bv_nat (n : Nat) (h : n < 2 ^ 32) : (BitVec.ofInt 32 (n : Int)).toNat = n := by
  rw [BitVec.ofInt_natCast, BitVec.toNat_ofNat, Nat.mod_eq_of_lt h]
theorem bv_nat64 (n : Nat) (h : n < 2 ^ 64) : (BitVec.ofInt 64 (n : Int)).toNat = n := by
  rw [BitVec.ofInt_natCast, BitVec.toNat_ofNat, Nat.mod_eq_of_lt h]
theorem ior_u32 {q b : Int} {t : Nat} (hq : 0 ≤ q) (hb : 0 ≤ b) (hbt : b < 2 ^ t) (h : q * 2 ^ t + b < 4294967296) : ior .u32 (q * 2 ^ t) b = q * 2 ^ t + b := by
  obtain ⟨q, rfl⟩ := Int.eq_ofNat_of_zero_le hq
  obtain ⟨b, rfl⟩ := Int.eq_ofNat_of_zero_le hb
  have hbt' : b < 2 ^ t := by exact_mod_cast hbt
  have e0 : (q : Int) * 2 ^ t = ((q * 2 ^ t : Nat) : Int) := by simp
  rw [e0] at h ⊢
  have h' : q * 2 ^ t + b < 4294967296 := by omega
  have e1 := bv_nat (q * 2 ^ t) (by omega)
  have e2 := bv_nat b (by omega)
  unfold ior
  have e3 : (BitVec.ofInt IntKind.u32.bits ((q * 2 ^ t : Nat) : Int) ||| BitVec.ofInt IntKind.u32.bits (b : Int)).toNat = q * 2 ^ t + b := by
    show (BitVec.ofInt 32 ((q * 2 ^ t : Nat) : Int) ||| BitVec.ofInt 32 (b : Int)).toNat = _
    rw [BitVec.toNat_or, e1, e2, Nat.mul_comm, Nat.two_pow_add_eq_or_of_lt hbt']
  rw [e3, wrap_u32_id (by omega) (by omega)]
  omega

theorem apd_some {α : Type} {b : Nat} {xs ys : List α} (h : (xs.length + ys.length) * b ≤ 140737488355328) (h' : xs.length + ys.length ≤ 4611686018427387904) : apd b xs ys = some (xs ++ ys) := by
  unfold apd; rw [if_pos ⟨h, h'⟩]
theorem mk_some {α : Type} {b : Nat} {z : α} {n c : Int} (h0 : 0 ≤ n) (h1 : n ≤ c) (h2 : (b : Int) * c ≤ 281474976710656) (h3 : c ≤ 4611686018427387904) : mk b z n c = some (List.replicate n.toNat z) := by
  unfold mk; rw [if_pos ⟨h0, h1, h2, h3⟩]
theorem cut_some {α : Type} {xs : List α} {lo hi : Int} (h0 : 0 ≤ lo) (h1 : lo ≤ hi) (h2 : hi ≤ xs.length) : cut xs lo hi = some ((xs.take hi.toNat).drop lo.toNat) := by
  unfold cut; rw [if_pos ⟨h0, h1, h2⟩]

theorem powle (c : Nat) {a b : Nat} (h : a ≤ b) (hc : 0 < c) : (c : Int) ^ a ≤ (c : Int) ^ b := by
  have := Nat.pow_le_pow_right hc h
  exact_mod_cast this
theorem pow32_le {a b : Nat} (h : a ≤ b) : (4294967296 : Int) ^ a ≤ 4294967296 ^ b := powle 4294967296 h (by omega)

/-! ### limbs of 32 bits, the least first -/
def lv : List Int → Int
  | [] => 0
  | x :: r => x + 4294967296 * lv r
def Lim (l : List Int) : Prop := ∀ x ∈ l, 0 ≤ x ∧ x < 4294967296
def Nrm (l : List Int) : Prop := ∀ x, l.getLast? = some x → x ≠ 0
structure Lb (l : List Int) (n : Int) : Prop where
  lim : Lim l
  nrm : Nrm l
  val : lv l = n

theorem lim_nil : Lim [] := fun _ h => by cases h
theorem lim_cons {x : Int} {l : List Int} (h : Lim (x :: l)) : (0 ≤ x ∧ x < 4294967296) ∧ Lim l := ⟨h x (by simp), fun y hy => h y (List.mem_cons_of_mem _ hy)⟩
theorem lim_app {l m : List Int} (h : Lim l) (h' : Lim m) : Lim (l ++ m) := fun x hx => by
  rcases List.mem_append.1 hx with hx | hx
  · exact h x hx
  · exact h' x hx
theorem lim_one {x : Int} (h0 : 0 ≤ x) (h1 : x < 4294967296) : Lim [x] := fun y hy => by simp at hy; subst hy; exact ⟨h0, h1⟩
theorem lim_get {l : List Int} (h : Lim l) {i : Nat} {x : Int} (hx : l[i]? = some x) : 0 ≤ x ∧ x < 4294967296 := h x (List.mem_of_getElem? hx)
theorem lim_take {l : List Int} (h : Lim l) (n : Nat) : Lim (l.take n) := fun x hx => h x (List.mem_of_mem_take hx)
theorem lv_app : ∀ (l m : List Int), lv (l ++ m) = lv l + 4294967296 ^ l.length * lv m
  | [], m => by simp [lv]
  | x :: l, m => by
    simp only [List.cons_append, lv, lv_app l m, List.length_cons, Int.pow_succ, Int.mul_add, Int.add_assoc]
    congr 2
    rw [← Int.mul_assoc, Int.mul_comm 4294967296]
theorem lv_nonneg : ∀ {l : List Int}, Lim l → 0 ≤ lv l
  | [], _ => by simp [lv]
  | x :: l, h => by
    have := lv_nonneg (lim_cons h).2
    have := (lim_cons h).1
    simp only [lv]; omega
theorem lv_lt : ∀ {l : List Int}, Lim l → lv l < 4294967296 ^ l.length
  | [], _ => by simp [lv]
  | x :: l, h => by
    have h1 := lv_lt (lim_cons h).2
    have h2 := (lim_cons h).1
    simp only [lv, List.length_cons, Int.pow_succ]
    omega
theorem lv_ge {l : List Int} (h : Lim l) (hn : Nrm l) (h0 : l ≠ []) : 4294967296 ^ (l.length - 1) ≤ lv l := by
  have hx := List.dropLast_concat_getLast h0
  rw [← hx, lv_app]
  have hl : l.getLast h0 ≠ 0 := hn _ (List.getLast?_eq_some_getLast h0)
  have h1 : 0 ≤ l.getLast h0 := (h _ (List.getLast_mem h0)).1
  have h2 : 0 ≤ lv l.dropLast := lv_nonneg fun y hy => h y (List.dropLast_subset _ hy)
  have h3 : (0 : Int) < 4294967296 ^ l.dropLast.length := Int.pow_pos (by omega)
  have hlen : (l.dropLast ++ [l.getLast h0]).length - 1 = l.dropLast.length := by simp
  rw [hlen]
  have h4 : (4294967296 : Int) ^ l.dropLast.length * 1 ≤ 4294967296 ^ l.dropLast.length * lv [l.getLast h0] := Int.mul_le_mul_of_nonneg_left (by simp [lv]; omega) (Int.le_of_lt h3)
  omega
end Go.Sx
