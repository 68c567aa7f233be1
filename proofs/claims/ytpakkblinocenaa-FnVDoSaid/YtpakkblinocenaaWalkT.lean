/-
  A walk through a tree that is told as a list of nodes: what it goes through, and that it ends. Plain; ours.
-/
import Derived.Test.YtpakkblinocenaaSxV
namespace Go.Proofs.Ytpakkblinocenaa
open Go.Sx
set_option linter.unusedVariables false
set_option linter.unusedSimpArgs false

/-- the walk; 'sd' tells a node's sides -/
def wk (n : Int) (sd : Int → Option (Int × Int)) : Nat → Int → Int → Int → Bool → List Bool → List Int → List Int → Option (Bool × List Bool × List Int × List Int)
  | 0, _, _, _, _, _, _, _ => none
  | k + 1, i, ab, d, ok, seen, ord, dep =>
    if i = -1 ∨ ok = false then some (ok, seen, ord, dep)
    else if i ≤ ab ∨ n ≤ i then some (false, seen, ord, dep)
    else (idx seen i) >>= fun b => if b = true then some (false, seen, ord, dep) else
      (sd i) >>= fun s => (wk n sd k s.1 i (iadd .i64 d 1) ok (seen.set i.toNat true) ord dep) >>= fun r =>
      (apd 8 r.2.2.1 [i]) >>= fun o => (apd 8 r.2.2.2 [d]) >>= fun e =>
      wk n sd k s.2 i (iadd .i64 d 1) r.1 r.2.1 o e

/-- what hangs on a node, in order, with depths -/
inductive Tr (c f : Nat → Int) (N : Nat) : Int → Int → List (Nat × Int) → Prop
  | nil (d : Int) : Tr c f N (-1) d []
  | node (i : Nat) (d : Int) {l1 l2 : List (Nat × Int)} (hi : i < N) (h1 : Tr c f N (c i) (iadd .i64 d 1) l1) (h2 : Tr c f N (f i) (iadd .i64 d 1) l2)
      (g1 : c i = -1 ∨ (i : Int) < c i) (g2 : f i = -1 ∨ (i : Int) < f i) : Tr c f N i d (l1 ++ (i, d) :: l2)

theorem Tr.root {c f : Nat → Int} {N : Nat} {i d : Int} {l : List (Nat × Int)} (h : Tr c f N i d l) : (i = -1 ∧ l = []) ∨ ∃ j : Nat, i = j ∧ (j, d) ∈ l := by
  cases h with
  | nil => exact .inl ⟨rfl, rfl⟩
  | node j _ hi h1 h2 g1 g2 => exact .inr ⟨j, rfl, by simp⟩
theorem Tr.closed {c f : Nat → Int} {N : Nat} {i d : Int} {l : List (Nat × Int)} (h : Tr c f N i d l) : ∀ p ∈ l, p.1 < N ∧ (c p.1 = -1 ∨ ∃ q ∈ l, c p.1 = (q.1 : Int)) ∧ (f p.1 = -1 ∨ ∃ q ∈ l, f p.1 = (q.1 : Int)) := by
  induction h with
  | nil => intro p hp; cases hp
  | @node j d l1 l2 hi h1 h2 g1 g2 ih1 ih2 =>
    intro p hp
    rcases List.mem_append.1 hp with hp | hp
    · obtain ⟨a, b, e⟩ := ih1 p hp
      refine ⟨a, ?_, ?_⟩
      · rcases b with b | ⟨q, hq, b⟩
        · exact .inl b
        · exact .inr ⟨q, List.mem_append_left _ hq, b⟩
      · rcases e with e | ⟨q, hq, e⟩
        · exact .inl e
        · exact .inr ⟨q, List.mem_append_left _ hq, e⟩
    · rcases List.mem_cons.1 hp with rfl | hp
      · refine ⟨hi, ?_, ?_⟩
        · rcases h1.root with ⟨a, _⟩ | ⟨q, e, hq⟩
          · exact .inl a
          · exact .inr ⟨_, List.mem_append_left _ hq, e⟩
        · rcases h2.root with ⟨a, _⟩ | ⟨q, e, hq⟩
          · exact .inl a
          · exact .inr ⟨_, List.mem_append_right _ (List.mem_cons_of_mem _ hq), e⟩
      · obtain ⟨a, b, e⟩ := ih2 p hp
        refine ⟨a, ?_, ?_⟩
        · rcases b with b | ⟨q, hq, b⟩
          · exact .inl b
          · exact .inr ⟨q, List.mem_append_right _ (List.mem_cons_of_mem _ hq), b⟩
        · rcases e with e | ⟨q, hq, e⟩
          · exact .inl e
          · exact .inr ⟨q, List.mem_append_right _ (List.mem_cons_of_mem _ hq), e⟩

theorem count_set {l : List Bool} {i : Nat} (h : i < l.length) (hf : l[i] = false) : (l.set i true).count true = l.count true + 1 := by
  induction l generalizing i with
  | nil => simp at h
  | cons b l ih =>
    cases i with
    | zero =>
      simp only [List.getElem_cons_zero] at hf
      subst hf
      simp
    | succ i =>
      simp only [List.getElem_cons_succ] at hf
      simp only [List.set_cons_succ, List.count_cons, ih (by simpa using h) hf]
      omega

/-- the walk ends; where it is well, it went through a tree -/
theorem wk_is (N : Nat) (c f : Nat → Int) (sd : Int → Option (Int × Int)) (hsd : ∀ i : Nat, i < N → sd i = some (c i, f i)) (hN : N < 1000000) :
    ∀ (k : Nat) (i ab d : Int) (ok : Bool) (seen : List Bool) (ord dep : List Int), -1 ≤ ab → ab ≤ N → seen.length = N → ord.length = dep.length → ord.length ≤ seen.count true → (N : Int) - ab < k →
    ∃ r, wk N sd k i ab d ok seen ord dep = some r ∧ r.2.1.length = N ∧ r.2.2.1.length = r.2.2.2.length ∧ r.2.2.1.length ≤ r.2.1.count true ∧
      (r.1 = true → ok = true ∧ (i = -1 ∨ ab < i) ∧ ∃ l, Tr c f N i d l ∧ r.2.2.1 = ord ++ l.map (fun p => (p.1 : Int)) ∧ r.2.2.2 = dep ++ l.map (·.2)) := by
  intro k
  induction k with
  | zero => intro i ab d ok seen ord dep h1 h2 hs ho hc hk; omega
  | succ k ih =>
    intro i ab d ok seen ord dep h1 h2 hs ho hc hk
    by_cases c1 : i = -1 ∨ ok = false
    · refine ⟨(ok, seen, ord, dep), by simp only [wk, if_pos c1], hs, ho, hc, fun hok => ?_⟩
      have hok' : ok = true := hok
      rcases c1 with e | e
      · subst e
        exact ⟨hok', .inl rfl, [], .nil d, by simp, by simp⟩
      · rw [e] at hok'; cases hok'
    · have c1' : i ≠ -1 ∧ ok = true := by
        refine ⟨fun e => c1 (.inl e), ?_⟩
        cases ok
        · exact absurd (.inr rfl) c1
        · rfl
      by_cases c2 : i ≤ ab ∨ (N : Int) ≤ i
      · exact ⟨(false, seen, ord, dep), by simp only [wk, if_neg c1, if_pos c2], hs, ho, hc, fun h => by cases h⟩
      · obtain ⟨j, rfl⟩ : ∃ j : Nat, i = j := ⟨i.toNat, by omega⟩
        have hj : j < N := by omega
        have hjs : j < seen.length := by omega
        cases hb : seen[j] with
        | true =>
          refine ⟨(false, seen, ord, dep), ?_, hs, ho, hc, fun h => by cases h⟩
          simp only [wk, if_neg c1, if_neg c2, idx_get hjs, hb, Option.bind_eq_bind, Option.bind_some, if_true]
        | false =>
          have hcs := count_set hjs hb
          obtain ⟨r1, e1, s1, o1, n1, w1⟩ := ih (c j) j (iadd .i64 d 1) ok (seen.set j true) ord dep (by omega) (by omega) (by simpa using hs) ho (by omega) (by omega)
          have hmon : ∀ (k : Nat) (i ab d : Int) (ok : Bool) (seen : List Bool) (ord dep : List Int) (r : Bool × List Bool × List Int × List Int), seen.length = N → wk N sd k i ab d ok seen ord dep = some r → -1 ≤ ab →
              r.2.2.1.length + seen.count true ≤ ord.length + r.2.1.count true := by
            intro k
            induction k with
            | zero => intro i ab d ok seen ord dep r hs h _; simp [wk] at h
            | succ k ihk =>
              intro i ab d ok seen ord dep r hs h hab
              simp only [wk] at h
              split at h
              · cases h; exact Nat.le_refl _
              · split at h
                · cases h; exact Nat.le_refl _
                · rename_i q1 q2
                  obtain ⟨b, hb, h⟩ := bind_some h
                  split at h
                  · cases h; exact Nat.le_refl _
                  · rename_i q3
                    obtain ⟨s, hs', h⟩ := bind_some h
                    obtain ⟨r1, hr1, h⟩ := bind_some h
                    obtain ⟨o, hoo, h⟩ := bind_some h
                    obtain ⟨e, hee, h⟩ := bind_some h
                    obtain ⟨t0, t1, t2⟩ := idx_some hb
                    have hlt : i.toNat < seen.length := by omega
                    have hbf : seen[i.toNat] = false := by
                      rw [List.getElem?_eq_getElem hlt] at t2
                      cases b
                      · simpa using t2
                      · exact absurd rfl q3
                    have hcs := count_set hlt hbf
                    have a1 := ihk _ _ _ _ _ _ _ _ (by simpa using hs) hr1 (by omega)
                    have hol : o.length = r1.2.2.1.length + 1 := by
                      unfold apd at hoo
                      split at hoo
                      · cases hoo; simp
                      · cases hoo
                    have hsl : r1.2.1.length = N := by
                      have : ∀ (k : Nat) (i ab d : Int) (ok : Bool) (seen : List Bool) (ord dep : List Int) (r : Bool × List Bool × List Int × List Int), wk N sd k i ab d ok seen ord dep = some r → r.2.1.length = seen.length := by
                        intro k
                        induction k with
                        | zero => intro i ab d ok seen ord dep r h; simp [wk] at h
                        | succ k ihk =>
                          intro i ab d ok seen ord dep r h
                          simp only [wk] at h
                          split at h
                          · cases h; rfl
                          · split at h
                            · cases h; rfl
                            · obtain ⟨b, hb, h⟩ := bind_some h
                              split at h
                              · cases h; rfl
                              · obtain ⟨s, hs', h⟩ := bind_some h
                                obtain ⟨r1, hr1, h⟩ := bind_some h
                                obtain ⟨o, hoo, h⟩ := bind_some h
                                obtain ⟨e, hee, h⟩ := bind_some h
                                rw [ihk _ _ _ _ _ _ _ _ h, ihk _ _ _ _ _ _ _ _ hr1]; simp
                      rw [this _ _ _ _ _ _ _ _ _ hr1]; simpa using hs
                    have a2 := ihk _ _ _ _ _ _ _ _ hsl h (by omega)
                    omega
          have m1 := hmon _ _ _ _ _ _ _ _ _ (by simpa using hs) e1 (by omega)
          have hcnt : r1.2.1.count true ≤ N := by rw [← s1]; exact List.count_le_length
          have ho1 : apd 8 r1.2.2.1 [(j : Int)] = some (r1.2.2.1 ++ [(j : Int)]) := apd_some (by simp; omega) (by simp; omega)
          have ho2 : apd 8 r1.2.2.2 [d] = some (r1.2.2.2 ++ [d]) := apd_some (by simp; omega) (by simp; omega)
          obtain ⟨r2, e2, s2, o2, n2, w2⟩ := ih (f j) j (iadd .i64 d 1) r1.1 r1.2.1 (r1.2.2.1 ++ [(j : Int)]) (r1.2.2.2 ++ [d]) (by omega) (by omega) s1 (by simp [o1]) (by simp; omega) (by omega)
          refine ⟨r2, ?_, s2, o2, n2, fun hok => ?_⟩
          · simp only [wk, if_neg c1, if_neg c2, idx_get hjs, hb, Option.bind_eq_bind, Option.bind_some, Bool.false_eq_true, if_false, hsd j hj, Int.toNat_natCast, e1, ho1, ho2, e2]
          · obtain ⟨k1, k2, l2, t2, p2, q2⟩ := w2 hok
            obtain ⟨k3, k4, l1, t1, p1, q1⟩ := w1 k1
            refine ⟨c1'.2, .inr (by omega), l1 ++ (j, d) :: l2, .node j d hj t1 t2 k4 k2, ?_, ?_⟩
            · rw [p2, p1]; simp
            · rw [q2, q1]; simp

/-- it goes nowhere but where the nodes lead -/
theorem wk_in (n : Int) (c f : Nat → Int) (sd : Int → Option (Int × Int)) (R : Nat → Prop) (hsd : ∀ i : Nat, R i → sd i = some (c i, f i)) (hc : ∀ j, R j → (c j = -1 ∨ ∃ q, R q ∧ c j = (q : Int)) ∧ (f j = -1 ∨ ∃ q, R q ∧ f j = (q : Int))) :
    ∀ (k : Nat) (i ab d : Int) (ok : Bool) (seen : List Bool) (ord dep : List Int) (r : Bool × List Bool × List Int × List Int), wk n sd k i ab d ok seen ord dep = some r → (i = -1 ∨ ∃ q, R q ∧ i = (q : Int)) →
    ∀ x ∈ r.2.2.1, x ∈ ord ∨ ∃ q, R q ∧ x = (q : Int) := by
  intro k
  induction k with
  | zero => intro i ab d ok seen ord dep r h; simp [wk] at h
  | succ k ih =>
    intro i ab d ok seen ord dep r h hi
    simp only [wk] at h
    split at h
    · cases h; exact fun x hx => .inl hx
    · rename_i c1
      split at h
      · cases h; exact fun x hx => .inl hx
      · obtain ⟨b, hb, h⟩ := bind_some h
        split at h
        · cases h; exact fun x hx => .inl hx
        · obtain ⟨s, hs', h⟩ := bind_some h
          obtain ⟨r1, hr1, h⟩ := bind_some h
          obtain ⟨o, hoo, h⟩ := bind_some h
          obtain ⟨e, hee, h⟩ := bind_some h
          have hi' : ∃ q, R q ∧ i = (q : Int) := by
            rcases hi with e | e
            · exact absurd (.inl e) c1
            · exact e
          obtain ⟨q, hq, rfl⟩ := hi'
          rw [hsd q hq] at hs'
          cases hs'
          have a1 := ih _ _ _ _ _ _ _ _ hr1 (hc q hq).1
          have a2 := ih _ _ _ _ _ _ _ _ h (hc q hq).2
          have hol : o = r1.2.2.1 ++ [(q : Int)] := by
            unfold apd at hoo
            split at hoo
            · cases hoo; rfl
            · cases hoo
          intro x hx
          rcases a2 x hx with h1 | h1
          · rw [hol] at h1
            rcases List.mem_append.1 h1 with h1 | h1
            · exact a1 x h1
            · simp at h1; subst h1; exact .inr ⟨q, hq, rfl⟩
          · exact .inr h1
/-- and to places of the list alone -/
theorem wk_lt (n : Int) (sd : Int → Option (Int × Int)) :
    ∀ (k : Nat) (i ab d : Int) (ok : Bool) (seen : List Bool) (ord dep : List Int) (r : Bool × List Bool × List Int × List Int), wk n sd k i ab d ok seen ord dep = some r → -1 ≤ ab →
    ∀ x ∈ r.2.2.1, x ∈ ord ∨ ∃ q : Nat, (q : Int) < n ∧ x = (q : Int) := by
  intro k
  induction k with
  | zero => intro i ab d ok seen ord dep r h; simp [wk] at h
  | succ k ih =>
    intro i ab d ok seen ord dep r h hab
    simp only [wk] at h
    split at h
    · cases h; exact fun x hx => .inl hx
    · split at h
      · cases h; exact fun x hx => .inl hx
      · rename_i c2
        obtain ⟨b, hb, h⟩ := bind_some h
        split at h
        · cases h; exact fun x hx => .inl hx
        · obtain ⟨s, hs', h⟩ := bind_some h
          obtain ⟨r1, hr1, h⟩ := bind_some h
          obtain ⟨o, hoo, h⟩ := bind_some h
          obtain ⟨e, hee, h⟩ := bind_some h
          have a1 := ih _ _ _ _ _ _ _ _ hr1 (by omega)
          have a2 := ih _ _ _ _ _ _ _ _ h (by omega)
          have hol : o = r1.2.2.1 ++ [i] := by
            unfold apd at hoo
            split at hoo
            · cases hoo; rfl
            · cases hoo
          intro x hx
          rcases a2 x hx with h1 | h1
          · rw [hol] at h1
            rcases List.mem_append.1 h1 with h1 | h1
            · exact a1 x h1
            · simp at h1; subst h1; exact .inr ⟨x.toNat, by omega, by omega⟩
          · exact .inr h1
end Go.Proofs.Ytpakkblinocenaa
