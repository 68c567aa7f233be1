/-
  A point put into a k-d tree. Plain; ours.
-/
import Derived.Test.YtjgpiealnfbkcaaKgBox
import Derived.Test.YtjgpiealnfbkcaaKtNodes
namespace Go.Proofs.Ytjgpiealnfbkcaa
open Go.Sx
set_option linter.unusedVariables false
set_option linter.unusedSimpArgs false
set_option maxRecDepth 100000

/-- a point whose numbers are not great -/
def Pb (m : Nat) (p : List Nat) : Prop := Pg m p ∧ ∀ j, j < m → (ky j p).natAbs ≤ 1048576
theorem cmp_is (k : Nat) {m q : Nat} {c p : List Nat} (hc : Pb m c) (hp : Pb m p) (hq : q < m) : ∃ x, kdtree_Point_Compare k c p (q : Int) = some x ∧ fle x 0 = decide (ky q c ≤ ky q p) := by
  have b1 := hc.2 q hq
  have b2 := hp.2 q hq
  obtain ⟨a1, a2⟩ := ky_at hc.1 hq
  obtain ⟨c1, c2⟩ := ky_at hp.1 hq
  obtain ⟨z, h1, h2⟩ := D_sub a2 c2 (c := ky q c - ky q p) rfl (by omega) (by omega)
  unfold kdtree_Point_Compare
  rw [a1, sbind, c1, sbind, h1, sbind]
  refine ⟨z, rfl, ?_⟩
  rw [D_le h2 (D_zero 1074)]
  by_cases h : ky q c ≤ ky q p
  · rw [decide_eq_true h, decide_eq_true (by omega)]
  · rw [decide_eq_false h, decide_eq_false (by omega)]

def BN : G66 → Prop
  | .c0 => True
  | .c1 _ _ a b e => e = .c0 ∧ BN a ∧ BN b
def BB (m : Nat) : G66 → Prop
  | .c0 => True
  | .c1 (.c0 p) _ a b e => (∃ u v, e = .c1 (.c0 u) (.c0 v) ∧ LB m (pts a ++ p :: pts b) u v) ∧ BB m a ∧ BB m b

theorem kins_is {m : Nat} (hm : 0 < m) (hm2 : m ≤ 6) {c : List Nat} (hc : Pb m c) : ∀ (k : Nat) (T : G66) (q : Nat), q < m → Kg m T q → (∀ x ∈ pts T, Pb m x) → BN T → sz T < k →
    ∃ T', kins c k T (q : Int) = some T' ∧ Kg m T' q ∧ (pts T').Perm (c :: pts T) ∧ BN T' := by
  intro k
  induction k with
  | zero => intro T q _ _ _ _ h; omega
  | succ k ih =>
    intro T q hq hT hx hb hk
    cases T with
    | c0 => exact ⟨_, rfl, ⟨rfl, hq, hc.1, (fun x h => by cases h), (fun x h => by cases h), trivial, trivial, trivial⟩, List.Perm.refl _, rfl, trivial, trivial⟩
    | c1 y pl a b e =>
      obtain ⟨p⟩ := y
      obtain ⟨k1, k2, k3, k4, k5, k6, k7, k8⟩ := hT
      obtain ⟨rfl, b1, b2⟩ := hb
      simp only [sz] at hk
      have hpp : Pb m p := hx p (by simp [pts])
      have hl : c.length = m := hc.1.1
      obtain ⟨x, x1, x2⟩ := cmp_is k hc hpp hq
      have hq' : (q + 1) % m < m := Nat.mod_lt _ hm
      subst k1
      have head : kins c (k + 1) (.c1 (.c0 p) (q : Int) a b .c0) (q : Int) = br (decide (ky q c ≤ ky q p)) ((kins c k a (((q + 1) % m : Nat) : Int)) >>= fun a' => some (.c1 (.c0 p) (q : Int) a' b .c0)) ((kins c k b (((q + 1) % m : Nat) : Int)) >>= fun b' => some (.c1 (.c0 p) (q : Int) a b' .c0)) := by
        show (kdtree_Point_Dims k c >>= _) = _
        unfold kdtree_Point_Dims
        rw [sbind, hl, next_is hm (by omega), sbind, x1, sbind, x2]
      rw [head]
      by_cases h : ky q c ≤ ky q p
      · obtain ⟨a', t1, t2, t3, t4⟩ := ih a _ hq' k6 (fun x h => hx x (by simp [pts, h])) b1 (by omega)
        rw [decide_eq_true h, br_true, t1, sbind]
        refine ⟨_, rfl, ⟨rfl, hq, k3, fun x hx => ?_, k5, t2, k7, trivial⟩, ?_, rfl, t4, b2⟩
        · rcases List.mem_cons.1 (t3.mem_iff.1 hx) with rfl | hx
          · exact h
          · exact k4 x hx
        · simp only [pts]; exact t3.append_right _
      · obtain ⟨b', t1, t2, t3, t4⟩ := ih b _ hq' k7 (fun x h => hx x (by simp [pts, h])) b2 (by omega)
        rw [decide_eq_false h, br_false, t1, sbind]
        refine ⟨_, rfl, ⟨rfl, hq, k3, k4, fun x hx => ?_, k6, t2, trivial⟩, ?_, rfl, b1, t4⟩
        · rcases List.mem_cons.1 (t3.mem_iff.1 hx) with rfl | hx
          · omega
          · exact k5 x hx
        · simp only [pts]
          exact (((t3.cons p).trans (List.Perm.swap _ _ _)).append_left (pts a)).trans List.perm_middle

theorem kinsB_is {m : Nat} (hm : 0 < m) (hm2 : m ≤ 6) {c : List Nat} (hc : Pb m c) : ∀ (k : Nat) (T : G66) (q : Nat), q < m → Kg m T q → (∀ x ∈ pts T, Pb m x) → BB m T → sz T + m + 1 < k →
    ∃ T', kinsB c k T (q : Int) = some T' ∧ Kg m T' q ∧ (pts T').Perm (c :: pts T) ∧ BB m T' := by
  intro k
  induction k with
  | zero => intro T q _ _ _ _ h; omega
  | succ k ih =>
    intro T q hq hT hx hb hk
    cases T with
    | c0 =>
      obtain ⟨y, y1, y2⟩ := extend1_is k hc.1 (by omega) (by omega)
      show ∃ T', (kdtree_Point_Extend k c >>= _) = some T' ∧ _
      rw [y1, sbind]
      have hl := LB.one y2
      exact ⟨_, rfl, ⟨rfl, hq, hc.1, (fun x h => by cases h), (fun x h => by cases h), trivial, trivial, hl.1.1, hl.2.1.1⟩, List.Perm.refl _, ⟨_, _, rfl, hl⟩, trivial, trivial⟩
    | c1 y pl a b e =>
      obtain ⟨p⟩ := y
      obtain ⟨k1, k2, k3, k4, k5, k6, k7, k8⟩ := hT
      obtain ⟨⟨u, v, rfl, hL⟩, b1, b2⟩ := hb
      simp only [sz] at hk
      have hpp : Pb m p := hx p (by simp [pts])
      have hl : c.length = m := hc.1.1
      obtain ⟨x, x1, x2⟩ := cmp_is k hc hpp hq
      obtain ⟨y, y1, y2⟩ := extend2_is k hL.1 hL.2.1 hc.1 (by omega) (by omega)
      have hq' : (q + 1) % m < m := Nat.mod_lt _ hm
      subst k1
      have head : kinsB c (k + 1) (.c1 (.c0 p) (q : Int) a b (.c1 (.c0 u) (.c0 v))) (q : Int) = br (decide (ky q c ≤ ky q p)) ((kinsB c k a (((q + 1) % m : Nat) : Int)) >>= fun a' => some (.c1 (.c0 p) (q : Int) a' b (.c1 (.c0 y.1) (.c0 y.2)))) ((kinsB c k b (((q + 1) % m : Nat) : Int)) >>= fun b' => some (.c1 (.c0 p) (q : Int) a b' (.c1 (.c0 y.1) (.c0 y.2)))) := by
        show (kdtree_Point_Extend_v2 k c u v >>= _) = _
        rw [y1, sbind]
        unfold kdtree_Point_Dims
        rw [sbind, hl, next_is hm (by omega), sbind, x1, sbind, x2]
      rw [head]
      have hC := hL.cons y2
      by_cases h : ky q c ≤ ky q p
      · obtain ⟨a', t1, t2, t3, t4⟩ := ih a _ hq' k6 (fun x h => hx x (by simp [pts, h])) b1 (by omega)
        rw [decide_eq_true h, br_true, t1, sbind]
        have pm : (pts a' ++ p :: pts b).Perm (c :: (pts a ++ p :: pts b)) := t3.append_right _
        refine ⟨_, rfl, ⟨rfl, hq, k3, fun x hx => ?_, k5, t2, k7, hC.1.1, hC.2.1.1⟩, ?_, ⟨_, _, rfl, hC.mem fun x => pm.symm.mem_iff⟩, t4, b2⟩
        · rcases List.mem_cons.1 (t3.mem_iff.1 hx) with rfl | hx
          · exact h
          · exact k4 x hx
        · simp only [pts]; exact pm
      · obtain ⟨b', t1, t2, t3, t4⟩ := ih b _ hq' k7 (fun x h => hx x (by simp [pts, h])) b2 (by omega)
        rw [decide_eq_false h, br_false, t1, sbind]
        have pm : (pts a ++ p :: pts b').Perm (c :: (pts a ++ p :: pts b)) := (((t3.cons p).trans (List.Perm.swap _ _ _)).append_left (pts a)).trans List.perm_middle
        refine ⟨_, rfl, ⟨rfl, hq, k3, k4, fun x hx => ?_, k6, t2, hC.1.1, hC.2.1.1⟩, ?_, ⟨_, _, rfl, hC.mem fun x => pm.symm.mem_iff⟩, b1, t4⟩
        · rcases List.mem_cons.1 (t3.mem_iff.1 hx) with rfl | hx
          · omega
          · exact k5 x hx
        · simp only [pts]; exact pm

/-! #### the tree of a list -/
theorem kbx_is (k : Nat) {m : Nat} (hm : 0 < m) (hm2 : m ≤ 1000) (e : G118) (h : Eb m e) : kbx k (blo e) (bhi e) = some e := by
  cases e with
  | c0 => rfl
  | c1 u v =>
    obtain ⟨u⟩ := u; obtain ⟨v⟩ := v
    obtain ⟨h1, h2⟩ := h
    show br (decide ((u.length : Int) = 0)) (some G118.c0) ((impl_floats k u) >>= fun r9 => (impl_floats k v) >>= fun r12 => some (G118.c1 (.c0 r9) (.c0 r12))) = _
    rw [decide_eq_false (by omega), br_false, floats_is k (by omega), sbind, floats_is k (by omega), sbind]
theorem knd_is {m : Nat} (hm : 0 < m) (hm2 : m ≤ 1000) {t : List KN} : ∀ (k : Nat) (T : G66) (n q : Nat), Nd t T n → n + sz T ≤ t.length → Kg m T q → sz T < k → knd k t (rt T n) = some T := by
  intro k
  induction k with
  | zero => intro T n q _ _ _ h; omega
  | succ k ih =>
    intro T n q h1 h2 h3 h4
    cases T with
    | c0 => rfl
    | c1 y pl a b e =>
      obtain ⟨p⟩ := y
      obtain ⟨g1, g2, g3⟩ := h1
      obtain ⟨k1, k2, k3, k4, k5, k6, k7, k8⟩ := h3
      simp only [sz] at h2 h4
      have hp := k3.1
      show br (decide ((n : Int) < 0)) (knd_b (knd k) k t (n : Int) true) (knd_b (knd k) k t (n : Int) (decide ((t.length : Int) ≤ (n : Int)))) = _
      rw [decide_eq_false (by omega), br_false, decide_eq_false (by omega)]
      unfold knd_b
      rw [br_false, g1, sbind]
      simp only []
      rw [floats_is k (by omega), sbind, kbx_is k hm hm2 e k8, sbind]
      have side : ∀ (x : G66) (s : Nat), n < s → Nd t x s → s + sz x ≤ t.length → Kg m x ((q + 1) % m) → sz x < k → br (decide ((n : Int) < rt x s)) (knd k t (rt x s)) (some .c0) = some x := fun x s w0 w1 w2 w3 w4 => by
        cases x with
        | c0 =>
          show br (decide ((n : Int) < -1)) (knd k t (-1)) (some .c0) = _
          rw [decide_eq_false (by omega), br_false]
        | c1 y pl a b e =>
          rw [decide_eq_true (show (n : Int) < rt (.c1 y pl a b e) s by simp only [rt]; omega), br_true]
          exact ih _ s _ w1 w2 w3 w4
      rw [side a (n + 1) (by omega) g2 (by omega) k6 (by omega), sbind, side b (n + 1 + sz a) (by omega) g3 (by omega) k7 (by omega), sbind]

def Bx (m : Nat) (bo : Bool) (T : G66) : Prop := if bo = true then BB m T else BN T
theorem all_is (k : Nat) {m : Nat} (hm : 0 < m) (hm2 : m ≤ 6) {c : List Nat} (hc : Pb m c) (bo : Bool) (T : G66) (hT : Kg m T 0) (hx : ∀ x ∈ pts T, Pb m x) (hb : Bx m bo T) (hs : sz T < 1000) (hk : sz T + m + 5 < k) :
    ∃ T', kInsertAll k (pre T 0) (rt T 0) c bo = some (pre T' 0, rt T' 0, true) ∧ Kg m T' 0 ∧ (pts T').Perm (c :: pts T) ∧ Bx m bo T' := by
  have hl := hc.1.1
  have key : ∃ T', kInsert k c T bo = some T' ∧ Kg m T' 0 ∧ (pts T').Perm (c :: pts T) ∧ Bx m bo T' := by
    cases bo with
    | true =>
      have hb' : BB m T := hb
      obtain ⟨T', t1, t2, t3, t4⟩ := kinsB_is hm hm2 hc k T 0 hm hT hx hb' (by omega)
      refine ⟨T', ?_, t2, t3, t4⟩
      cases T with
      | c0 => exact t1
      | c1 y pl a b e =>
        obtain ⟨p⟩ := y
        obtain ⟨⟨u, v, rfl, _⟩, _⟩ := hb'
        exact t1
    | false =>
      have hb' : BN T := hb
      obtain ⟨T', t1, t2, t3, t4⟩ := kins_is hm hm2 hc k T 0 hm hT hx hb' (by omega)
      refine ⟨T', ?_, t2, t3, t4⟩
      cases T with
      | c0 => exact t1
      | c1 y pl a b e =>
        obtain ⟨rfl, _⟩ := hb'
        exact t1
  obtain ⟨T', t1, t2, t3, t4⟩ := key
  have hs' : sz T' = sz T + 1 := by rw [← pts_len, t3.length_eq, List.length_cons, pts_len]
  refine ⟨T', ?_, t2, t3, t4⟩
  unfold kInsertAll
  rw [knd_is hm (by omega) k T 0 0 (nd_pre T) (by rw [pre_len]; omega) hT (by omega), sbind, floats_is k (by omega), sbind, t1, sbind, knodes_is m (by omega) k T' 0 t2 (by omega) (by omega), sbind]
end Go.Proofs.Ytjgpiealnfbkcaa
