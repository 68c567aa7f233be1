/-
  Functions of one rational number that are smooth: a slope, and an error of the second order. No floats here. The rational function that the program takes for the arc tangent, and its slope. No floats here. Two places that are turned by the same angle: the differences of the program's arc tangent are nearly the same. No floats here. Three places whose angles make up a multiple of 45 degrees. No floats here. Ours.
-/
import Derived.Test.YtmkhoplffiakmaaSxY
namespace Go.Sx
set_option linter.unusedVariables false
set_option linter.unusedSimpArgs false

def Bd (x m : Rat) : Prop := -m ≤ x ∧ x ≤ m
theorem bd_mul {a b A B : Rat} (ha : Bd a A) (hb : Bd b B) : Bd (a * b) (A * B) := by
  obtain ⟨h1, h2⟩ := ha
  obtain ⟨h3, h4⟩ := hb
  have a1 := Rat.mul_nonneg (show 0 ≤ A - a by grind) (show 0 ≤ B + b by grind)
  have a2 := Rat.mul_nonneg (show 0 ≤ A + a by grind) (show 0 ≤ B - b by grind)
  have a3 := Rat.mul_nonneg (show 0 ≤ A - a by grind) (show 0 ≤ B - b by grind)
  have a4 := Rat.mul_nonneg (show 0 ≤ A + a by grind) (show 0 ≤ B + b by grind)
  constructor <;> grind
theorem bd_add {a b A B : Rat} (ha : Bd a A) (hb : Bd b B) : Bd (a + b) (A + B) := by
  obtain ⟨h1, h2⟩ := ha
  obtain ⟨h3, h4⟩ := hb
  constructor <;> grind
theorem bd_mono {a A B : Rat} (ha : Bd a A) (h : A ≤ B) : Bd a B := by
  obtain ⟨h1, h2⟩ := ha
  constructor <;> grind
theorem bd_nn {a A : Rat} (h : Bd a A) : 0 ≤ A := by obtain ⟨h1, h2⟩ := h; grind
theorem bd_neg {a A : Rat} (h : Bd a A) : Bd (-a) A := by obtain ⟨h1, h2⟩ := h; constructor <;> grind
theorem sq_nn_ (a : Rat) : 0 ≤ a * a := by
  rcases (show 0 ≤ a ∨ 0 ≤ -a by grind) with h | h
  · exact Rat.mul_nonneg h h
  · have := Rat.mul_nonneg h h; grind
theorem bd_self (a : Rat) : Bd a (a * a + 1) := by
  have h1 := sq_nn_ (a - 1)
  have h2 := sq_nn_ (a + 1)
  have h3 := sq_nn_ a
  constructor <;> grind
structure Sm2 (c M K : Rat) (f f' : Rat → Rat) : Prop where
  val : ∀ x, Bd x c → Bd (f x) M
  slope : ∀ x, Bd x c → Bd (f' x) M
  err : ∀ x y, Bd x c → Bd y c → Bd (f y - f x - (y - x) * f' x) (K * ((y - x) * (y - x)))
def Smo (c : Rat) (f f' : Rat → Rat) : Prop := ∃ M K, 0 ≤ M ∧ 0 ≤ K ∧ Sm2 c M K f f'
theorem smo_const (c k : Rat) : Smo c (fun _ => k) (fun _ => 0) := by
  refine ⟨k * k + 1, 0, by have := sq_nn_ k; grind, by grind, ⟨fun x hx => bd_self k, fun x hx => ?_, fun x y hx hy => ?_⟩⟩
  · have := sq_nn_ k; constructor <;> grind
  · constructor <;> grind
theorem smo_id {c : Rat} (hc : 0 ≤ c) : Smo c (fun x => x) (fun _ => 1) := by
  refine ⟨c + 1, 0, by grind, by grind, ⟨fun x hx => bd_mono hx (by grind), fun x hx => ⟨by grind, by grind⟩, fun x y hx hy => ?_⟩⟩
  constructor <;> grind
theorem smo_add {c : Rat} {f f' g g' : Rat → Rat} (hf : Smo c f f') (hg : Smo c g g') : Smo c (fun x => f x + g x) (fun x => f' x + g' x) := by
  obtain ⟨M, K, hM, hK, h1⟩ := hf
  obtain ⟨N, L, hN, hL, h2⟩ := hg
  refine ⟨M + N, K + L, by grind, by grind, ⟨fun x hx => bd_add (h1.val x hx) (h2.val x hx), fun x hx => bd_add (h1.slope x hx) (h2.slope x hx), fun x y hx hy => ?_⟩⟩
  have a := bd_add (h1.err x y hx hy) (h2.err x y hx hy)
  have e1 : f y + g y - (f x + g x) - (y - x) * (f' x + g' x) = f y - f x - (y - x) * f' x + (g y - g x - (y - x) * g' x) := by grind
  have e2 : (K + L) * ((y - x) * (y - x)) = K * ((y - x) * (y - x)) + L * ((y - x) * (y - x)) := by grind
  rw [e1, e2]; exact a
theorem sm2_step {c M K : Rat} {f f' : Rat → Rat} (h : Sm2 c M K f f') (hM : 0 ≤ M) (hK : 0 ≤ K) {x y : Rat} (hx : Bd x c) (hy : Bd y c) {d : Rat} (hd : Bd (y - x) d) : Bd (f y - f x) ((M + K * (2 * c)) * d) := by
  have h1 := h.err x y hx hy
  have h2 := bd_mul hd (h.slope x hx)
  have hd0 := bd_nn hd
  have hxy : Bd (y - x) (2 * c) := by obtain ⟨a, b⟩ := hx; obtain ⟨a', b'⟩ := hy; constructor <;> grind
  have h3 := bd_mul hxy hd
  have h4 : K * ((y - x) * (y - x)) ≤ K * (2 * c * d) := by
    have := Rat.mul_nonneg hK (show 0 ≤ 2 * c * d - (y - x) * (y - x) by have := h3.2; grind)
    grind
  obtain ⟨a1, a2⟩ := h1
  obtain ⟨b1, b2⟩ := h2
  have e1 : (M + K * (2 * c)) * d = d * M + K * (2 * c * d) := by grind
  rw [e1]
  generalize K * ((y - x) * (y - x)) = p at *
  generalize (y - x) * f' x = q at *
  constructor <;> grind
theorem smo_mul {c : Rat} {f f' g g' : Rat → Rat} (hc : 0 ≤ c) (hf : Smo c f f') (hg : Smo c g g') : Smo c (fun x => f x * g x) (fun x => f' x * g x + f x * g' x) := by
  obtain ⟨M, K, hM, hK, h1⟩ := hf
  obtain ⟨N, L, hN, hL, h2⟩ := hg
  have hMN := Rat.mul_nonneg hM hN
  have hL2 : 0 ≤ N + L * (2 * c) := by have := Rat.mul_nonneg hL (show 0 ≤ 2 * c by grind); grind
  refine ⟨M * N + M * N, K * N + M * (N + L * (2 * c)) + M * L, by grind, ?_, ⟨fun x hx => bd_mono (bd_mul (h1.val x hx) (h2.val x hx)) (by grind), fun x hx => bd_add (bd_mul (h1.slope x hx) (h2.val x hx)) (bd_mul (h1.val x hx) (h2.slope x hx)), fun x y hx hy => ?_⟩⟩
  · have a1 := Rat.mul_nonneg hK hN
    have a2 := Rat.mul_nonneg hM hL2
    have a3 := Rat.mul_nonneg hM hL
    grind
  have a1 := bd_mul (h1.err x y hx hy) (h2.val y hy)
  have hh : Bd ((y - x) * (y - x)) ((y - x) * (y - x)) := ⟨by have := sq_nn_ (y - x); grind, by grind⟩
  -- (y - x) f' x (g y - g x)
  have a2 : Bd ((y - x) * (g y - g x)) ((N + L * (2 * c)) * ((y - x) * (y - x))) := by
    rcases (show 0 ≤ y - x ∨ 0 ≤ x - y by grind) with h | h
    · have s := sm2_step h2 hN hL hx hy (d := y - x) ⟨by grind, by grind⟩
      have := bd_mul (a := y - x) (A := y - x) ⟨by grind, by grind⟩ s
      have e : (y - x) * ((N + L * (2 * c)) * (y - x)) = (N + L * (2 * c)) * ((y - x) * (y - x)) := by grind
      rw [e] at this; exact this
    · have s := sm2_step h2 hN hL hx hy (d := x - y) ⟨by grind, by grind⟩
      have := bd_mul (a := y - x) (A := x - y) ⟨by grind, by grind⟩ s
      have e : (x - y) * ((N + L * (2 * c)) * (x - y)) = (N + L * (2 * c)) * ((y - x) * (y - x)) := by grind
      rw [e] at this; exact this
  have a3 := bd_mul (h1.slope x hx) a2
  have a4 := bd_mul (h1.val x hx) (h2.err x y hx hy)
  have a5 := bd_add (bd_add a1 a3) a4
  have e1 : f y * g y - f x * g x - (y - x) * (f' x * g x + f x * g' x) = (f y - f x - (y - x) * f' x) * g y + f' x * ((y - x) * (g y - g x)) + f x * (g y - g x - (y - x) * g' x) := by grind
  have e2 : (K * N + M * (N + L * (2 * c)) + M * L) * ((y - x) * (y - x)) = K * ((y - x) * (y - x)) * N + M * ((N + L * (2 * c)) * ((y - x) * (y - x))) + M * (L * ((y - x) * (y - x))) := by grind
  rw [e1, e2]; exact a5
def pev : List Rat → Rat → Rat
  | [], _ => 0
  | a :: l, x => a + x * pev l x
def pdv : List Rat → Rat → Rat
  | [], _ => 0
  | _ :: l, x => pev l x + x * pdv l x
theorem smo_pev {c : Rat} (hc : 0 ≤ c) : ∀ l : List Rat, Smo c (pev l) (pdv l)
  | [] => smo_const c 0
  | a :: l => by
    have h := smo_add (smo_const c a) (smo_mul hc (smo_id hc) (smo_pev hc l))
    have e1 : (fun x => a + x * pev l x) = pev (a :: l) := rfl
    have e2 : (fun x => (0 : Rat) + (1 * pev l x + x * pdv l x)) = pdv (a :: l) := by
      funext x; show (0 : Rat) + (1 * pev l x + x * pdv l x) = pev l x + x * pdv l x; grind
    rw [e1, e2] at h; exact h
theorem inv_bd {g m : Rat} (hm : 0 < m) (h : m ≤ g) : 0 < 1 / g ∧ 1 / g ≤ 1 / m ∧ 1 / g * g = 1 := by
  have hg : 0 < g := by grind
  have h1 : 1 / g * g = 1 := by grind
  have h2 : 1 / m * m = 1 := by grind
  have h3 : 0 < 1 / g := by rw [Rat.div_def, Rat.one_mul]; exact Rat.inv_pos.2 hg
  refine ⟨h3, ?_, h1⟩
  by_cases hle : 1 / g ≤ 1 / m
  · exact hle
  · have k1 := Rat.mul_pos (show 0 < 1 / g - 1 / m by grind) hm
    have k2 := Rat.mul_nonneg (Rat.le_of_lt h3) (show 0 ≤ g - m by grind)
    grind
theorem smo_inv {c m : Rat} {g g' : Rat → Rat} (hc : 0 ≤ c) (hm : 0 < m) (hg : Smo c g g') (hpos : ∀ x, Bd x c → m ≤ g x) : Smo c (fun x => 1 / g x) (fun x => -(g' x * (1 / g x * (1 / g x)))) := by
  obtain ⟨N, L, hN, hL, h2⟩ := hg
  obtain ⟨k, hk⟩ : ∃ k, k = 1 / m := ⟨_, rfl⟩
  have hk0 : 0 < k := by rw [hk, Rat.div_def, Rat.one_mul]; exact Rat.inv_pos.2 hm
  have hb : ∀ x, Bd x c → Bd (1 / g x) k ∧ 1 / g x * g x = 1 := fun x hx => by
    obtain ⟨a, b, e⟩ := inv_bd hm (hpos x hx)
    exact ⟨⟨by grind, by rw [hk]; exact b⟩, e⟩
  have hkk := Rat.mul_nonneg (Rat.le_of_lt hk0) (Rat.le_of_lt hk0)
  have hNkk := Rat.mul_nonneg hN hkk
  have hL2 : 0 ≤ N + L * (2 * c) := by have := Rat.mul_nonneg hL (show 0 ≤ 2 * c by grind); grind
  refine ⟨k + N * (k * k), N * (N + L * (2 * c)) * (k * k * k) + L * (k * k), by grind, ?_, ⟨fun x hx => bd_mono (hb x hx).1 (by grind), fun x hx => ?_, fun x y hx hy => ?_⟩⟩
  · have a1 := Rat.mul_nonneg (Rat.mul_nonneg hN hL2) (Rat.mul_nonneg hkk (Rat.le_of_lt hk0))
    have a2 := Rat.mul_nonneg hL hkk
    grind
  · exact bd_mono (bd_neg (bd_mul (h2.slope x hx) (bd_mul (hb x hx).1 (hb x hx).1))) (by grind)
  obtain ⟨bx, ex⟩ := hb x hx
  obtain ⟨by_, ey⟩ := hb y hy
  have a2 : Bd ((y - x) * (g y - g x)) ((N + L * (2 * c)) * ((y - x) * (y - x))) := by
    rcases (show 0 ≤ y - x ∨ 0 ≤ x - y by grind) with h | h
    · have s := sm2_step h2 hN hL hx hy (d := y - x) ⟨by grind, by grind⟩
      have := bd_mul (a := y - x) (A := y - x) ⟨by grind, by grind⟩ s
      have e : (y - x) * ((N + L * (2 * c)) * (y - x)) = (N + L * (2 * c)) * ((y - x) * (y - x)) := by grind
      rw [e] at this; exact this
    · have s := sm2_step h2 hN hL hx hy (d := x - y) ⟨by grind, by grind⟩
      have := bd_mul (a := y - x) (A := x - y) ⟨by grind, by grind⟩ s
      have e : (x - y) * ((N + L * (2 * c)) * (x - y)) = (N + L * (2 * c)) * ((y - x) * (y - x)) := by grind
      rw [e] at this; exact this
  have a3 := bd_mul (bd_mul (h2.slope x hx) a2) (bd_mul (bd_mul bx bx) by_)
  have a4 := bd_neg (bd_mul (h2.err x y hx hy) (bd_mul bx by_))
  have a5 := bd_add a3 a4
  have e2 : (N * (N + L * (2 * c)) * (k * k * k) + L * (k * k)) * ((y - x) * (y - x)) = N * ((N + L * (2 * c)) * ((y - x) * (y - x))) * (k * k * k) + L * ((y - x) * (y - x)) * (k * k) := by grind
  rw [e2]
  generalize 1 / g x = p at *
  generalize 1 / g y = q at *
  generalize g x = u at *
  generalize g y = v at *
  generalize g' x = t at *
  have e1 : q - p - (y - x) * -(t * (p * p)) = t * ((y - x) * (v - u)) * (p * p * q) + -((v - u - (y - x) * t) * (p * q)) := by grind
  rw [e1]; exact a5
theorem whole_step {f : Rat → Rat} {e K a b : Rat} (hab : a ≤ b) (he : 0 ≤ e) (hK : 0 ≤ K) (h : ∀ x y, a ≤ x → x ≤ y → y ≤ b → Bd (f y - f x) (e * (y - x) + K * ((y - x) * (y - x)))) : Bd (f b - f a) (e * (b - a)) := by
  -- n equal parts
  have parts : ∀ (n : Nat) (d : Rat), 0 ≤ d → ∀ x, a ≤ x → x + n * d ≤ b → Bd (f (x + n * d) - f x) (n * (e * d + K * (d * d))) := by
    intro n
    induction n with
    | zero =>
      intro d hd x hx hb
      have e0 : ((0 : Nat) : Rat) = 0 := rfl
      rw [e0, Rat.zero_mul, Rat.zero_mul, Rat.add_zero]
      constructor <;> grind
    | succ n ih =>
      intro d hd x hx hb
      have e1 : ((n + 1 : Nat) : Rat) = (n : Rat) + 1 := by rw [Rat.natCast_add]; rfl
      rw [e1] at hb ⊢
      have hn : (0 : Rat) ≤ (n : Rat) * d := Rat.mul_nonneg (by have := Rat.natCast_le_natCast.2 (Nat.zero_le n); exact this) hd
      have h1 := ih d hd x hx (by grind)
      have h2 := h (x + n * d) (x + (n + 1) * d) (by grind) (by grind) hb
      have e2 : x + ((n : Rat) + 1) * d - (x + n * d) = d := by grind
      rw [e2] at h2
      have h3 := bd_add h1 h2
      have e3 : f (x + n * d) - f x + (f (x + (n + 1) * d) - f (x + n * d)) = f (x + (n + 1) * d) - f x := by grind
      have e4 : (n : Rat) * (e * d + K * (d * d)) + (e * d + K * (d * d)) = (n + 1) * (e * d + K * (d * d)) := by grind
      rw [e3, e4] at h3
      exact h3
  obtain ⟨w, hw⟩ : ∃ w, w = b - a := ⟨_, rfl⟩
  have hw0 : 0 ≤ w := by grind
  -- for every n: e w + K w w / n
  have all : ∀ n : Nat, 0 < n → Bd (f b - f a) (e * w + K * (w * w) / n) := by
    intro n hn
    have hnr : (0 : Rat) < (n : Rat) := by have := Rat.natCast_lt_natCast.2 hn; exact this
    have e1 : (n : Rat) * (w / n) = w := by grind
    have hd : 0 ≤ w / n := by rw [Rat.div_def]; exact Rat.mul_nonneg hw0 (Rat.le_of_lt (Rat.inv_pos.2 hnr))
    have h1 := parts n (w / n) hd a (by grind) (by rw [e1]; grind)
    rw [e1] at h1
    have e2 : a + w = b := by grind
    rw [e2] at h1
    have e3 : (n : Rat) * (e * (w / n) + K * (w / n * (w / n))) = e * w + K * (w * w) / n := by grind
    rw [e3] at h1; exact h1
  rw [← hw]
  have key : ∀ z : Rat, (∀ n : Nat, 0 < n → z ≤ e * w + K * (w * w) / n) → z ≤ e * w := by
    intro z hz
    by_cases hle : z ≤ e * w
    · exact hle
    · exfalso
      obtain ⟨g, hg⟩ : ∃ g, g = z - e * w := ⟨_, rfl⟩
      have hg0 : 0 < g := by grind
      have hk0 : 0 ≤ K * (w * w) := Rat.mul_nonneg hK (Rat.mul_nonneg hw0 hw0)
      -- n > K w w / g
      obtain ⟨n, hn⟩ : ∃ n : Nat, K * (w * w) / g < n := by
        refine ⟨(K * (w * w) / g).ceil.toNat + 1, ?_⟩
        have h1 := Rat.le_ceil (x := K * (w * w) / g)
        have h2 : ((K * (w * w) / g).ceil : Rat) ≤ (((K * (w * w) / g).ceil.toNat : Int) : Rat) := Rat.intCast_le_intCast.2 (Int.self_le_toNat _)
        have e1 : (((K * (w * w) / g).ceil.toNat + 1 : Nat) : Rat) = (((K * (w * w) / g).ceil.toNat : Int) : Rat) + 1 := by rw [Rat.natCast_add, Rat.intCast_natCast]; rfl
        rw [e1]; grind
      have hn0 : 0 < n := by
        rcases Nat.eq_zero_or_pos n with h | h
        · exfalso
          subst h
          have e0 : ((0 : Nat) : Rat) = 0 := rfl
          rw [e0] at hn
          have : 0 ≤ K * (w * w) / g := by rw [Rat.div_def]; exact Rat.mul_nonneg hk0 (Rat.le_of_lt (Rat.inv_pos.2 hg0))
          grind
        · exact h
      have hnr : (0 : Rat) < (n : Rat) := by have := Rat.natCast_lt_natCast.2 hn0; exact this
      have h1 := hz n hn0
      have e1 : K * (w * w) / n * n = K * (w * w) := by grind
      have e2 : K * (w * w) / g * g = K * (w * w) := by grind
      have h2 := Rat.mul_pos (show 0 < (n : Rat) - K * (w * w) / g by grind) hg0
      have h3 := Rat.mul_nonneg (show 0 ≤ K * (w * w) / n - g by grind) (Rat.le_of_lt hnr)
      generalize K * (w * w) / (n : Rat) = s at *
      generalize K * (w * w) / g = t at *
      generalize K * (w * w) = P at *
      clear hz h1 hk0 hn hg hw all parts h
      have e3 : ((n : Rat) - t) * g = n * g - P := by grind
      have e4 : (s - g) * (n : Rat) = P - n * g := by grind
      grind
  constructor
  · have := key (-(f b - f a)) (fun n hn => by have := (all n hn).1; grind)
    grind
  · exact key _ (fun n hn => (all n hn).2)
end Go.Sx
namespace Go.Sx
set_option linter.unusedVariables false
set_option linter.unusedSimpArgs false
set_option maxRecDepth 100000

def addP : List Rat → List Rat → List Rat
  | [], m => m
  | l, [] => l
  | a :: l, b :: m => (a + b) :: addP l m
def smulP (k : Rat) (l : List Rat) : List Rat := l.map (k * ·)
def mulP : List Rat → List Rat → List Rat
  | [], _ => []
  | a :: l, m => addP (smulP a m) (0 :: mulP l m)
def derP : List Rat → List Rat
  | [] => []
  | _ :: l => addP l (0 :: derP l)
theorem pev_add : ∀ (l m : List Rat) (x : Rat), pev (addP l m) x = pev l x + pev m x
  | [], m, x => by simp only [addP, pev]; grind
  | a :: l, [], x => by simp only [addP, pev]; grind
  | a :: l, b :: m, x => by simp only [addP, pev, pev_add l m x]; grind
theorem pev_smul (k : Rat) : ∀ (l : List Rat) (x : Rat), pev (smulP k l) x = k * pev l x
  | [], x => by simp only [smulP, List.map_nil, pev]; grind
  | a :: l, x => by
    have := pev_smul k l x
    unfold smulP at this
    simp only [smulP, List.map_cons, pev, this]; grind
theorem pev_mul : ∀ (l m : List Rat) (x : Rat), pev (mulP l m) x = pev l x * pev m x
  | [], m, x => by simp only [mulP, pev]; grind
  | a :: l, m, x => by simp only [mulP, pev_add, pev_smul, pev, pev_mul l m x]; grind
def dbl : List Rat → List Rat
  | [] => []
  | a :: l => a :: 0 :: dbl l
theorem pev_dbl : ∀ (l : List Rat) (z : Rat), pev (dbl l) z = pev l (z * z)
  | [], z => rfl
  | a :: l, z => by simp only [dbl, pev, pev_dbl l z]; grind
theorem pdv_dbl : ∀ (l : List Rat) (z : Rat), pdv (dbl l) z = 2 * z * pev (derP l) (z * z)
  | [], z => by simp only [dbl, pdv, derP, pev]; grind
  | a :: l, z => by simp only [dbl, pdv, pev, derP, pev_add, pdv_dbl l z, pev_dbl l z]; grind
def shiftP (c : Rat) : List Rat → List Rat
  | [] => []
  | a :: l => addP [a] (addP (smulP c (shiftP c l)) (0 :: shiftP c l))
theorem pev_shift (c : Rat) : ∀ (l : List Rat) (x : Rat), pev (shiftP c l) x = pev l (c + x)
  | [], x => rfl
  | a :: l, x => by simp only [shiftP, pev_add, pev_smul, pev, pev_shift c l x]; grind
def absR (a : Rat) : Rat := if 0 ≤ a then a else -a
def absB (h : Rat) : List Rat → Rat
  | [] => 0
  | a :: l => absR a + h * absB h l
theorem bd_abs (a : Rat) : Bd a (absR a) := by unfold absR; split <;> constructor <;> grind
theorem absB_is {h : Rat} : ∀ (l : List Rat) {x : Rat}, Bd x h → Bd (pev l x) (absB h l)
  | [], x, hx => by simp only [pev, absB]; constructor <;> grind
  | a :: l, x, hx => by simp only [pev, absB]; exact bd_add (bd_abs a) (bd_mul hx (absB_is l hx))
def nnL (l : List Rat) : Bool := l.all fun a => decide (0 ≤ a)
theorem pev_nn : ∀ (l : List Rat) {x : Rat}, nnL l = true → 0 ≤ x → 0 ≤ pev l x
  | [], x, h, hx => by simp only [pev]; grind
  | a :: l, x, h, hx => by
    simp only [nnL, List.all_cons, Bool.and_eq_true, decide_eq_true_eq] at h
    simp only [pev]
    have := Rat.mul_nonneg hx (pev_nn l (x := x) (by unfold nnL; exact h.2) hx)
    grind
theorem pev_up : ∀ (l : List Rat) {x y : Rat}, nnL l = true → 0 ≤ x → x ≤ y → pev l x ≤ pev l y
  | [], x, y, h, hx, hy => by simp only [pev]; grind
  | a :: l, x, y, h, hx, hy => by
    simp only [nnL, List.all_cons, Bool.and_eq_true, decide_eq_true_eq] at h
    simp only [pev]
    have hn : nnL l = true := by unfold nnL; exact h.2
    have h1 := pev_up l hn hx hy
    have h2 := pev_nn l (x := x) hn hx
    have k1 := Rat.mul_nonneg (show 0 ≤ y by grind) (show 0 ≤ pev l y - pev l x by grind)
    have k2 := Rat.mul_nonneg (show 0 ≤ y - x by grind) h2
    grind
def atA : List Rat := [(1711285677807803 / 8796093022208), (14796442192059789 / 35184372088832), (21813916070133447 / 70368744177664), (6334485413622231 / 70368744177664), (1224546712842209 / 140737488355328), (281337932166811 / 2251799813685248)]
def atB : List Rat := [(1711285677807803 / 8796093022208), (4269539107284213 / 8796093022208), (7615324151266875 / 17592186044416), (5806371718625829 / 35184372088832), (1749258957297679 / 70368744177664), 1]
def atN : List Rat := addP (mulP [1, 1] (addP (mulP (addP atA (smulP 2 (0 :: derP atA))) atB) (smulP (-2) (0 :: mulP atA (derP atB))))) (smulP (-1) (mulP atB atB))
abbrev e48 : Rat := 1 / 281474976710656
def okPart (k : Nat) : Bool :=
  let h : Rat := 2181 / 160000
  let c : Rat := h * (2 * k + 1)
  decide (absB h (shiftP c atN) ≤ e48 * (pev atB (c - h) * pev atB (c - h)))
theorem okParts : (List.range 16).all okPart = true := by decide +kernel
theorem b_nn : nnL atB = true := by decide +kernel
theorem eta_bd {w : Rat} (h0 : 0 ≤ w) (h1 : w ≤ 2181 / 5000) : Bd (pev atN w) (e48 * (pev atB w * pev atB w)) := by
  have part : ∃ k : Nat, k < 16 ∧ (2181 / 80000 : Rat) * k ≤ w ∧ w ≤ (2181 / 80000 : Rat) * (k + 1) := by
    have go : ∀ n : Nat, w ≤ (2181 / 80000 : Rat) * n → 0 < n → ∃ k : Nat, k < n ∧ (2181 / 80000 : Rat) * k ≤ w ∧ w ≤ (2181 / 80000 : Rat) * (k + 1) := by
      intro n
      induction n with
      | zero => exact fun h hn => absurd hn (by omega)
      | succ n ih =>
        intro h _
        have e1 : ((n + 1 : Nat) : Rat) = (n : Rat) + 1 := by rw [Rat.natCast_add]; rfl
        rw [e1] at h
        by_cases h3 : n = 0
        · subst h3
          have e0 : ((0 : Nat) : Rat) = 0 := rfl
          rw [e0] at h
          refine ⟨0, by omega, ?_, ?_⟩ <;> rw [e0]
          · grind
          · exact h
        by_cases h2 : w ≤ (2181 / 80000 : Rat) * n
        · obtain ⟨k, k1, k2⟩ := ih h2 (by omega)
          exact ⟨k, by omega, k2⟩
        · exact ⟨n, by omega, by grind, h⟩
    have e16 : ((16 : Nat) : Rat) = 16 := rfl
    exact go 16 (by rw [e16]; grind) (by omega)
  obtain ⟨k, k1, k2, k3⟩ := part
  have hk := List.all_eq_true.1 okParts k (List.mem_range.2 k1)
  unfold okPart at hk
  have hk := of_decide_eq_true hk
  have h2 := absB_is (h := 2181 / 160000) (shiftP (2181 / 160000 * (2 * (k : Rat) + 1)) atN) (x := w - 2181 / 160000 * (2 * (k : Rat) + 1)) (by constructor <;> grind)
  rw [pev_shift] at h2
  have e1 : 2181 / 160000 * (2 * (k : Rat) + 1) + (w - 2181 / 160000 * (2 * (k : Rat) + 1)) = w := by grind
  rw [e1] at h2
  refine bd_mono h2 ?_
  have kn : (0 : Rat) ≤ k := by have := Rat.natCast_le_natCast.2 (Nat.zero_le k); exact this
  have h3 := pev_up atB (x := 2181 / 160000 * (2 * (k : Rat) + 1) - 2181 / 160000) (y := w) b_nn (by grind) (by grind)
  have h4 := pev_nn atB (x := 2181 / 160000 * (2 * (k : Rat) + 1) - 2181 / 160000) b_nn (by grind)
  generalize pev atB (2181 / 160000 * (2 * (k : Rat) + 1) - 2181 / 160000) = u at *
  generalize pev atB w = v at *
  have h5 := Rat.mul_nonneg (show 0 ≤ v - u by grind) (show 0 ≤ v + u by grind)
  refine Rat.le_trans hk ?_
  grind
end Go.Sx
namespace Go.Sx
set_option linter.unusedVariables false
set_option linter.unusedSimpArgs false
set_option maxRecDepth 100000

def RR (z : Rat) : Rat := z * pev atA (z * z) * (1 / pev atB (z * z))
def RD (z : Rat) : Rat := pdv (0 :: dbl atA) z * (1 / pev (dbl atB) z) + pev (0 :: dbl atA) z * -(pdv (dbl atB) z * (1 / pev (dbl atB) z * (1 / pev (dbl atB) z)))
abbrev cT : Rat := 1651 / 2500
theorem b_low2 (w : Rat) (h : 0 ≤ w) : 389 / 2 ≤ pev atB w := by
  have h1 := pev_up atB (x := 0) (y := w) b_nn (by grind) h
  have h2 : (389 / 2 : Rat) ≤ pev atB 0 := by decide +kernel
  exact Rat.le_trans h2 h1
theorem b_low (w : Rat) (h : 0 ≤ w) : 194 ≤ pev atB w := by
  have h1 := pev_up atB (x := 0) (y := w) b_nn (by grind) h
  have h2 : (194 : Rat) ≤ pev atB 0 := by decide +kernel
  exact Rat.le_trans h2 h1
theorem rr_smo : Smo cT RR RD := by
  have h := smo_mul (c := cT) (by decide +kernel) (smo_pev (c := cT) (by decide +kernel) (0 :: dbl atA)) (smo_inv (c := cT) (m := 194) (by decide +kernel) (by decide +kernel) (smo_pev (c := cT) (by decide +kernel) (dbl atB)) (fun x hx => by rw [pev_dbl]; exact b_low _ (sq_nn_ x)))
  have e1 : (fun x => pev (0 :: dbl atA) x * (1 / pev (dbl atB) x)) = RR := by
    funext x; unfold RR; simp only [pev, pev_dbl]; grind
  have e2 : (fun x => pdv (0 :: dbl atA) x * (1 / pev (dbl atB) x) + pev (0 :: dbl atA) x * -(pdv (dbl atB) x * (1 / pev (dbl atB) x * (1 / pev (dbl atB) x)))) = RD := rfl
  rw [e1, e2] at h; exact h
theorem sq_le_ {z c : Rat} (h : Bd z c) : z * z ≤ c * c := (bd_mul h h).2
theorem rd_eta {z : Rat} (hz : Bd z cT) : Bd ((1 + z * z) * RD z - 1) e48 := by
  have w0 := sq_nn_ z
  have w1 : z * z ≤ 2181 / 5000 := Rat.le_trans (sq_le_ hz) (by decide +kernel)
  have he := eta_bd w0 w1
  have hb := b_low _ w0
  have hn : pev atN (z * z) = (1 + z * z) * ((pev atA (z * z) + 2 * (z * z * pev (derP atA) (z * z))) * pev atB (z * z) - 2 * (z * z * (pev atA (z * z) * pev (derP atB) (z * z)))) - pev atB (z * z) * pev atB (z * z) := by
    unfold atN
    simp only [pev_add, pev_mul, pev_smul, pev]
    grind
  have e1 : pdv (0 :: dbl atA) z = pev atA (z * z) + 2 * (z * z * pev (derP atA) (z * z)) := by
    simp only [pdv, pev_dbl, pdv_dbl]; grind
  have e2 : pev (0 :: dbl atA) z = z * pev atA (z * z) := by simp only [pev, pev_dbl]; grind
  obtain ⟨i0, i1, i2⟩ := inv_bd (m := 194) (by decide +kernel) hb
  have e3 : (1 + z * z) * RD z - 1 = pev atN (z * z) * (1 / pev atB (z * z) * (1 / pev atB (z * z))) := by
    unfold RD
    rw [e1, e2, pdv_dbl, pev_dbl, hn]
    generalize 1 / pev atB (z * z) = q at *
    generalize pev atB (z * z) = b at *
    generalize pev atA (z * z) = a at *
    generalize pev (derP atA) (z * z) = a' at *
    generalize pev (derP atB) (z * z) = b' at *
    have e4 : b * q = 1 := by rw [Rat.mul_comm]; exact i2
    grind
  rw [e3]
  have hq : Bd (1 / pev atB (z * z) * (1 / pev atB (z * z))) (1 / pev atB (z * z) * (1 / pev atB (z * z))) := by
    have := Rat.mul_pos i0 i0
    constructor <;> grind
  have h2 := bd_mul he hq
  have e5 : e48 * (pev atB (z * z) * pev atB (z * z)) * (1 / pev atB (z * z) * (1 / pev atB (z * z))) = e48 := by
    generalize 1 / pev atB (z * z) = q at *
    generalize pev atB (z * z) = b at *
    have e4 : b * q = 1 := by rw [Rat.mul_comm]; exact i2
    grind
  rw [e5] at h2; exact h2
def bk (t x : Rat) : Rat := (x - t) * (1 / (1 + x * t))
theorem bk_step {t x y : Rat} (hx : 0 < 1 + x * t) (hy : 0 < 1 + y * t) : bk t y - bk t x = (y - x) * ((1 + t * t) * (1 / (1 + x * t) * (1 / (1 + y * t)))) := by
  have e1 : 1 / (1 + x * t) * (1 + x * t) = 1 := by grind
  have e2 : 1 / (1 + y * t) * (1 + y * t) = 1 := by grind
  unfold bk
  generalize 1 / (1 + x * t) = p at *
  generalize 1 / (1 + y * t) = q at *
  have e3 : (y - t) * q - (x - t) * p = (y - t) * q * (p * (1 + x * t)) - (x - t) * p * (q * (1 + y * t)) := by rw [e1, e2]; grind
  rw [e3]; grind
theorem bk_sq {t x : Rat} (hx : 0 < 1 + x * t) : 1 + bk t x * bk t x = (1 + x * x) * ((1 + t * t) * (1 / (1 + x * t) * (1 / (1 + x * t)))) := by
  have e1 : 1 / (1 + x * t) * (1 + x * t) = 1 := by grind
  unfold bk
  generalize 1 / (1 + x * t) = p at *
  have e2 : (1 : Rat) = p * (1 + x * t) * (p * (1 + x * t)) := by rw [e1]; grind
  have e3 : 1 + (x - t) * p * ((x - t) * p) = p * (1 + x * t) * (p * (1 + x * t)) + (x - t) * p * ((x - t) * p) := by rw [← e2]
  rw [e3]; grind
theorem k2_alg {c p q d t X r B E S : Rat} (est : S = d * (c * (p * q))) (eq1 : q = p - d * (t * (p * q))) (eq2 : c * (p * p) = (1 + B) * r) (hE : E = (1 + B) * X - 1) : S * X = d * ((1 + E) * r) - d * d * (c * (p * q) * (t * p) * X) := by
  have e3 : p * q = p * p - d * (p * q * (t * p)) := by
    have h := congrArg (fun z => p * z) eq1
    have h2 : p * (p - d * (t * (p * q))) = p * p - d * (p * q * (t * p)) := by grind
    exact h.trans h2
  generalize p * q = m at *
  have e4 : c * m = c * (p * p) - d * (c * m * (t * p)) := by
    have h := congrArg (fun z => c * z) e3
    have h2 : c * (p * p - d * (m * (t * p))) = c * (p * p) - d * (c * m * (t * p)) := by grind
    exact h.trans h2
  rw [eq2] at e4
  have e5 : (1 + E) * r = (1 + B) * r * X := by rw [hE]; grind
  rw [est, e5]
  generalize c * m = n at *
  have e6 : d * n * X = d * ((1 + B) * r - d * (n * (t * p))) * X := by rw [← e4]
  rw [e6]; grind
theorem lemma_L {t a b : Rat} (hab : a ≤ b) (ha : 0 < 1 + a * t) (hb : 0 < 1 + b * t) (a0 : Bd a cT) (b0 : Bd b cT) (a1 : Bd (bk t a) cT) (b1 : Bd (bk t b) cT) :
    Bd (RR b - RR (bk t b) - (RR a - RR (bk t a))) (2 * e48 * (b - a)) := by
  obtain ⟨M, K, hM, hK, hs⟩ := rr_smo
  -- a lower bound of 1 + x t
  obtain ⟨m, hm0, hma, hmb⟩ : ∃ m : Rat, 0 < m ∧ m ≤ 1 + a * t ∧ m ≤ 1 + b * t := by
    rcases (show 1 + a * t ≤ 1 + b * t ∨ 1 + b * t ≤ 1 + a * t by grind) with h | h
    · exact ⟨_, ha, by grind, h⟩
    · exact ⟨_, hb, h, by grind⟩
  have low : ∀ x, a ≤ x → x ≤ b → m ≤ 1 + x * t := by
    intro x h1 h2
    rcases (show 0 ≤ t ∨ 0 ≤ -t by grind) with h | h
    · have := Rat.mul_nonneg (show 0 ≤ x - a by grind) h; grind
    · have := Rat.mul_nonneg (show 0 ≤ b - x by grind) h; grind
  obtain ⟨k, hk⟩ : ∃ k, k = 1 / m := ⟨_, rfl⟩
  have inv : ∀ x, a ≤ x → x ≤ b → 0 < 1 / (1 + x * t) ∧ 1 / (1 + x * t) ≤ k ∧ 1 / (1 + x * t) * (1 + x * t) = 1 := fun x h1 h2 => by
    rw [hk]; exact inv_bd hm0 (low x h1 h2)
  have hk0 : 0 ≤ k := by obtain ⟨p1, p2, _⟩ := inv a (by grind) hab; grind
  have htt := sq_nn_ t
  have mono : ∀ x y, a ≤ x → x ≤ y → y ≤ b → bk t x ≤ bk t y := by
    intro x y h1 h2 h3
    have px := low x h1 (by grind)
    have py := low y (by grind) h3
    have e := bk_step (t := t) (x := x) (y := y) (by grind) (by grind)
    obtain ⟨q1, _, _⟩ := inv x h1 (by grind)
    obtain ⟨q2, _, _⟩ := inv y (by grind) h3
    have := Rat.mul_nonneg (show 0 ≤ y - x by grind) (Rat.mul_nonneg (show 0 ≤ 1 + t * t by grind) (Rat.mul_nonneg (Rat.le_of_lt q1) (Rat.le_of_lt q2)))
    grind
  obtain ⟨G, hG⟩ : ∃ G, G = (1 + t * t) * (k * k) := ⟨_, rfl⟩
  have hG0 : 0 ≤ G := by rw [hG]; exact Rat.mul_nonneg (by grind) (Rat.mul_nonneg hk0 hk0)
  obtain ⟨T, hT⟩ : ∃ T, T = t * t + 1 := ⟨_, rfl⟩
  have hT1 : Bd t T := by rw [hT]; exact bd_self t
  have hT0 := bd_nn hT1
  have hH : 0 ≤ K + K * (G * G) + G * (T * k) * M := by
    have u1 := Rat.mul_nonneg hK (Rat.mul_nonneg hG0 hG0)
    have u2 := Rat.mul_nonneg (Rat.mul_nonneg hG0 (Rat.mul_nonneg hT0 hk0)) hM
    grind
  refine whole_step (f := fun x => RR x - RR (bk t x)) (K := K + K * (G * G) + G * (T * k) * M) hab (by decide +kernel) hH ?_
  intro x y h1 h2 h3
  have hx0 : Bd x cT := ⟨by have := a0.1; grind, by have := b0.2; grind⟩
  have hy0 : Bd y cT := ⟨by have := a0.1; grind, by have := b0.2; grind⟩
  have hx1 : Bd (bk t x) cT := ⟨by have := a1.1; have := mono a x (by grind) h1 (by grind); grind, by have := b1.2; have := mono x b h1 (by grind) (by grind); grind⟩
  have hy1 : Bd (bk t y) cT := ⟨by have := a1.1; have := mono a y (by grind) (by grind) h3; grind, by have := b1.2; have := mono y b (by grind) h3 (by grind); grind⟩
  have px := low x h1 (by grind)
  have py := low y (by grind) h3
  have est := bk_step (t := t) (x := x) (y := y) (by grind) (by grind)
  have esq := bk_sq (t := t) (x := x) (by grind)
  obtain ⟨p1, p2, p3⟩ := inv x h1 (by grind)
  obtain ⟨q1, q2, q3⟩ := inv y (by grind) h3
  have g1 := hs.err x y hx0 hy0
  have g2 := hs.err (bk t x) (bk t y) hx1 hy1
  have n1 := rd_eta hx0
  have n2 := rd_eta hx1
  have m2 := hs.slope (bk t x) hx1
  have hd0 : 0 ≤ y - x := by grind
  obtain ⟨d, hd⟩ : ∃ d, d = y - x := ⟨_, rfl⟩
  rw [← hd] at est g1 hd0 ⊢
  obtain ⟨p, hp⟩ : ∃ p, p = 1 / (1 + x * t) := ⟨_, rfl⟩
  obtain ⟨q, hq⟩ : ∃ q, q = 1 / (1 + y * t) := ⟨_, rfl⟩
  rw [← hp] at p1 p2 p3 est esq
  rw [← hq] at q1 q2 q3 est
  -- the step of bk
  have st1 : Bd (bk t y - bk t x) (G * d) := by
    rw [est]
    have hpq := bd_mul (a := p) (A := k) ⟨by grind, p2⟩ (b := q) (B := k) ⟨by grind, q2⟩
    have h5 : Bd ((1 + t * t) * (p * q)) G := by
      rw [hG]
      have := Rat.mul_pos p1 q1
      constructor
      · have := Rat.mul_nonneg (show 0 ≤ 1 + t * t by grind) (Rat.le_of_lt this); grind
      · have := Rat.mul_nonneg (show 0 ≤ 1 + t * t by grind) (show 0 ≤ k * k - p * q by have := hpq.2; grind); grind
    have := bd_mul (a := d) (A := d) ⟨by grind, by grind⟩ h5
    rw [show G * d = d * G by grind]; exact this
  have st2 : Bd ((bk t y - bk t x) * (bk t y - bk t x)) (G * G * (d * d)) := by
    have := bd_mul st1 st1
    rw [show G * G * (d * d) = G * d * (G * d) by grind]; exact this
  have g3 : Bd (RR (bk t y) - RR (bk t x) - (bk t y - bk t x) * RD (bk t x)) (K * (G * G) * (d * d)) := by
    refine bd_mono g2 ?_
    have := Rat.mul_nonneg hK (show 0 ≤ G * G * (d * d) - (bk t y - bk t x) * (bk t y - bk t x) by have := st2.2; grind)
    grind
  -- (bk y - bk x) RD = d (1 + eta) / (1 + x x) - d d ..
  have eq1 : q = p - d * (t * (p * q)) := by
    have e1 : q - p = p * (1 + x * t) * q - q * (1 + y * t) * p := by rw [p3, q3]; grind
    have e2 : p * (1 + x * t) * q - q * (1 + y * t) * p = -(d * (t * (p * q))) := by rw [hd]; grind
    grind
  have sx := sq_nn_ x
  obtain ⟨r, hr⟩ : ∃ r, r = 1 / (1 + x * x) := ⟨_, rfl⟩
  have r3 : r * (1 + x * x) = 1 := by rw [hr]; grind
  have r1 : 0 < r := by rw [hr, Rat.div_def, Rat.one_mul]; exact Rat.inv_pos.2 (by grind)
  have r2 : r ≤ 1 := by
    by_cases h : r ≤ 1
    · exact h
    · have := Rat.mul_nonneg (Rat.le_of_lt r1) sx; grind
  have eq2 : (1 + t * t) * (p * p) = (1 + bk t x * bk t x) * r := by
    rw [esq]
    have : (1 + x * x) * ((1 + t * t) * (p * p)) * r = (1 + t * t) * (p * p) * (r * (1 + x * x)) := by grind
    rw [this, r3]; grind
  obtain ⟨E, hE⟩ : ∃ E, E = (1 + bk t x * bk t x) * RD (bk t x) - 1 := ⟨_, rfl⟩
  obtain ⟨F, hF⟩ : ∃ F, F = (1 + x * x) * RD x - 1 := ⟨_, rfl⟩
  rw [← hE] at n2
  rw [← hF] at n1
  have k1 : RD x = (1 + F) * r := by
    have : (1 + F) * r = RD x * (r * (1 + x * x)) := by rw [hF]; grind
    rw [this, r3]; grind
  have k2 : (bk t y - bk t x) * RD (bk t x) = d * ((1 + E) * r) - d * d * ((1 + t * t) * (p * q) * (t * p) * RD (bk t x)) := by
    exact k2_alg est eq1 eq2 hE
  have z1 : Bd (d * ((F - E) * r)) (2 * e48 * d) := by
    have h5 : Bd (F - E) (2 * e48) := by obtain ⟨u1, u2⟩ := n1; obtain ⟨u3, u4⟩ := n2; constructor <;> grind
    have h6 := bd_mul h5 (show Bd r 1 from ⟨by grind, r2⟩)
    have h7 := bd_mul (a := d) (A := d) ⟨by grind, by grind⟩ h6
    rw [show 2 * e48 * d = d * (2 * e48 * 1) by grind]; exact h7
  have z2 : Bd (d * d * ((1 + t * t) * (p * q) * (t * p) * RD (bk t x))) (G * (T * k) * M * (d * d)) := by
    have h5 : Bd ((1 + t * t) * (p * q)) G := by
      have hpq := bd_mul (a := p) (A := k) ⟨by grind, p2⟩ (b := q) (B := k) ⟨by grind, q2⟩
      rw [hG]
      have := Rat.mul_pos p1 q1
      constructor
      · have := Rat.mul_nonneg (show 0 ≤ 1 + t * t by grind) (Rat.le_of_lt this); grind
      · have := Rat.mul_nonneg (show 0 ≤ 1 + t * t by grind) (show 0 ≤ k * k - p * q by have := hpq.2; grind); grind
    have h6 := bd_mul (bd_mul h5 (bd_mul hT1 (show Bd p k from ⟨by grind, p2⟩))) m2
    have h7 := bd_mul (a := d * d) (A := d * d) ⟨by have := sq_nn_ d; grind, by grind⟩ h6
    rw [show G * (T * k) * M * (d * d) = d * d * (G * (T * k) * M) by grind]; exact h7
  have z3 := bd_add (bd_add z1 z2) (bd_add g1 (bd_neg g3))
  have e1 : d * ((F - E) * r) + d * d * ((1 + t * t) * (p * q) * (t * p) * RD (bk t x)) + (RR y - RR x - d * RD x + -(RR (bk t y) - RR (bk t x) - (bk t y - bk t x) * RD (bk t x))) = RR y - RR (bk t y) - (RR x - RR (bk t x)) := by
    rw [k1, k2]
    generalize d * d * ((1 + t * t) * (p * q) * (t * p) * RD (bk t x)) = Z
    grind
  have e2 : 2 * e48 * d + G * (T * k) * M * (d * d) + (K * (d * d) + K * (G * G) * (d * d)) = 2 * e48 * d + (K + K * (G * G) + G * (T * k) * M) * (d * d) := by grind
  rw [e1, e2] at z3
  exact z3
end Go.Sx
namespace Go.Sx
set_option linter.unusedVariables false
set_option linter.unusedSimpArgs false
set_option maxRecDepth 100000

theorem rr_neg (z : Rat) : RR (-z) = -RR z := by
  unfold RR
  have : -z * -z = z * z := by grind
  rw [this]; grind
theorem rr_zero : RR 0 = 0 := by unfold RR; grind
abbrev qpi : Rat := 884279719003555 / 1125899906842624
theorem arc_two {t x y : Rat} (hx : 0 < 1 + x * t) (hy : 0 < 1 + y * t) (x0 : Bd x cT) (y0 : Bd y cT) (x1 : Bd (bk t x) cT) (y1 : Bd (bk t y) cT) {d : Rat} (hd : Bd (y - x) d) :
    Bd (RR y - RR (bk t y) - (RR x - RR (bk t x))) (2 * e48 * d) := by
  rcases (show x ≤ y ∨ y ≤ x by grind) with h | h
  · refine bd_mono (lemma_L h hx hy x0 y0 x1 y1) ?_
    have := hd.2; grind
  · have := bd_neg (lemma_L h hy hx y0 x0 y1 x1)
    have e : -(RR x - RR (bk t x) - (RR y - RR (bk t y))) = RR y - RR (bk t y) - (RR x - RR (bk t x)) := by grind
    rw [e] at this
    refine bd_mono this ?_
    have := hd.1; grind
theorem bk_self (t : Rat) : bk t t = 0 := by unfold bk; grind
theorem pos_prod {x t : Rat} (hx : Bd x cT) (ht : Bd t cT) : 0 < 1 + x * t := by
  have h := (bd_mul hx ht).1
  have : cT * cT < 1 := by decide +kernel
  grind
theorem zero_bd : Bd (0 : Rat) cT := by constructor <;> decide +kernel
theorem arc_zero {s1 s2 s3 : Rat} (h1 : Bd s1 cT) (h2 : Bd s2 cT) (h3 : Bd s3 cT) (he : s3 * (1 + s1 * s2) = s2 - s1) : Bd (RR s2 - RR s1 - RR s3) (2 * e48 * (2 * cT)) := by
  have p := pos_prod h2 h1
  have e1 : bk s1 s2 = s3 := by
    unfold bk
    have e : 1 / (1 + s2 * s1) * (1 + s2 * s1) = 1 := by grind
    generalize 1 / (1 + s2 * s1) = q at *
    have : (s2 - s1) * q = s3 * (q * (1 + s2 * s1)) := by rw [← he]; grind
    rw [this, e]; grind
  have h := arc_two (t := s1) (x := s1) (y := s2) (pos_prod h1 h1) p h1 h2 (by rw [bk_self]; exact zero_bd) (by rw [e1]; exact h3) (d := 2 * cT) (by obtain ⟨a, b⟩ := h1; obtain ⟨c, d⟩ := h2; constructor <;> grind)
  rw [e1, bk_self, rr_zero] at h
  have e : RR s2 - RR s3 - (RR s1 - 0) = RR s2 - RR s1 - RR s3 := by grind
  rw [e] at h; exact h
abbrev kT : Rat := 849 / 4151
theorem num_arc : Bd (RR cT + RR kT - qpi) (1 / 4503599627370496) := by
  constructor <;> decide +kernel
theorem arc_one {s1 s2 s3 d : Rat} (h1 : Bd s1 cT) (h2 : Bd s2 cT) (h3 : Bd s3 cT) (hd : d * (1 - s3) = 1 + s3) (hd0 : 0 < d) (he : d * (1 + s1 * s2) = s2 - s1) (hs2 : 0 < 1 + s2 * d) :
    Bd (RR s2 - RR s1 - RR s3 - qpi) (8 * e48) := by
  have hc : (0 : Rat) < cT := by decide +kernel
  obtain ⟨v, hv⟩ : ∃ v, v = bk d cT := ⟨_, rfl⟩
  have hp : 0 < 1 + cT * d := by have := Rat.mul_pos hc hd0; grind
  -- s1 is s2 turned back by d
  have e1 : bk d s2 = s1 := by
    unfold bk
    have e : 1 / (1 + s2 * d) * (1 + s2 * d) = 1 := by grind
    generalize 1 / (1 + s2 * d) = q at *
    have : (s2 - d) * q = s1 * (q * (1 + s2 * d)) := by
      have : s2 - d = s1 * (1 + s2 * d) := by grind
      rw [this]; grind
    rw [this, e]; grind
  -- v (1 + c d) = c - d
  have ev : v * (1 + cT * d) = cT - d := by
    rw [hv]; unfold bk
    have e : 1 / (1 + cT * d) * (1 + cT * d) = 1 := by grind
    generalize 1 / (1 + cT * d) = q at *
    have : (cT - d) * q * (1 + cT * d) = (cT - d) * (q * (1 + cT * d)) := by grind
    rw [this, e]; grind
  -- s1 = (s2 - d) / (1 + s2 d) >= -c, and s2 <= c: v lies between s1 and c
  have v1 : Bd v cT := by
    constructor
    · -- v >= s1
      have hst := bk_step (t := d) (x := s2) (y := cT) hs2 hp
      rw [← hv, e1] at hst
      have i1 : 0 < 1 / (1 + s2 * d) := by rw [Rat.div_def, Rat.one_mul]; exact Rat.inv_pos.2 hs2
      have i2 : 0 < 1 / (1 + cT * d) := by rw [Rat.div_def, Rat.one_mul]; exact Rat.inv_pos.2 hp
      have := Rat.mul_nonneg (show 0 ≤ cT - s2 by have := h2.2; grind) (Rat.mul_nonneg (show 0 ≤ 1 + d * d by have := sq_nn_ d; grind) (Rat.mul_nonneg (Rat.le_of_lt i1) (Rat.le_of_lt i2)))
      have := h1.1
      grind
    · by_cases h : v ≤ cT
      · exact h
      · have k1 := Rat.mul_pos (show 0 < v - cT by grind) hp
        have k2 := Rat.mul_pos hc (Rat.mul_pos hc hd0)
        grind
  have g1 := arc_two (t := d) (x := s2) (y := cT) hs2 hp h2 ⟨by grind, by grind⟩ (by rw [e1]; exact h1) (by rw [← hv]; exact v1) (d := 2 * cT) (by obtain ⟨a, b⟩ := h2; constructor <;> grind)
  rw [e1, ← hv] at g1
  -- the rest: -v is s3 turned on by k
  have hk : Bd kT cT := by constructor <;> decide +kernel
  have nv : Bd (-v) cT := bd_neg v1
  have pk := pos_prod nv hk
  have e2 : bk kT (-v) = s3 := by
    unfold bk
    have e : 1 / (1 + -v * kT) * (1 + -v * kT) = 1 := by grind
    generalize 1 / (1 + -v * kT) = q at *
    have h5 : (-v - kT) = s3 * (1 + -v * kT) := by
      -- v (1 + c d) = c - d, d (1 - s3) = 1 + s3, k = (1 - c) / (1 + c)
      have h6 : v * ((1 - s3) + cT * (1 + s3)) = cT * (1 - s3) - (1 + s3) := by
        have : v * ((1 - s3) + cT * (1 + s3)) = v * (1 + cT * d) * (1 - s3) := by rw [← hd]; grind
        rw [this, ev, ← hd]; grind
      have h7 : (4151 : Rat) * kT = 849 := by decide +kernel
      have h8 : (2500 : Rat) * cT = 1651 := by decide +kernel
      grind
    have : (-v - kT) * q = s3 * (q * (1 + -v * kT)) := by rw [h5]; grind
    rw [this, e]; grind
  have g2 := arc_two (t := kT) (x := kT) (y := -v) (pos_prod hk hk) pk hk nv (by rw [bk_self]; exact zero_bd) (by rw [e2]; exact h3) (d := 2 * cT) (by obtain ⟨a, b⟩ := nv; obtain ⟨c, d⟩ := hk; constructor <;> grind)
  rw [e2, bk_self, rr_zero, rr_neg] at g2
  have g3 := num_arc
  have g4 := bd_add (bd_add (bd_neg g1) g2) g3
  have e3 : -(RR cT - RR v - (RR s2 - RR s1)) + (-RR v - RR s3 - (RR kT - 0)) + (RR cT + RR kT - qpi) = RR s2 - RR s1 - RR s3 - qpi := by grind
  rw [e3] at g4
  exact bd_mono g4 (by decide +kernel)
end Go.Sx
