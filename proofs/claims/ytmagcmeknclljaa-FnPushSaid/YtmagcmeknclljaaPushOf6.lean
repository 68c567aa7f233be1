/-
  The law's parts of a multi polygon, put together again. Ours.
-/
import Derived.Test.YtmagcmeknclljaaPushOf
import Derived.Test.YtmagcmeknclljaaGoodEnds
namespace Go.Proofs.Ytmagcmeknclljaa
open Go.Sx
set_option linter.unusedVariables false
set_option linter.unusedSimpArgs false
set_option maxRecDepth 100000

theorem l1_is {xs : List (List Int)} {s : Nat} (h : FAA xs s) (hl : xs.length ≤ 2147483647) (hll : ∀ es ∈ xs, es.length ≤ 2147483647) {i : Nat} (hi : i ≤ xs.length) : ∀ (n k j : Nat), i - j = n → n < k → j ≤ i → spec_Part_l1 (xs.take i) k ((QQ xs j : Nat), (j : Int)) = some ((QQ xs i : Nat) : Int) := by
  have hlen : (xs.take i).length = i := by rw [List.length_take]; omega
  intro n
  induction n with
  | zero =>
    intro k j hn hk hj
    obtain ⟨k, rfl⟩ : ∃ j, k = j + 1 := ⟨k - 1, by omega⟩
    have : j = i := by omega
    subst this
    simp only [spec_Part_l1, spec_Part_l1s, hlen, lt_false (Nat.lt_irrefl _), br_false]
  | succ n ih =>
    intro k j hn hk hj
    obtain ⟨k, rfl⟩ : ∃ j, k = j + 1 := ⟨k - 1, by omega⟩
    have hlt : j < i := by omega
    have hjx : j < xs.length := by omega
    have hgd : xs.getD j [] = xs[j] := by simp [List.getD, List.getElem?_eq_getElem hjx]
    have hidx : idx (xs.take i) (j : Int) = some xs[j] := by rw [idx_get (by rw [hlen]; exact hlt), List.getElem_take]
    have hq : QQ xs (j + 1) = PF (QQ xs j) xs[j] xs[j].length := by show PF (QQ xs j) (xs.getD j []) (xs.getD j []).length = _; rw [hgd]
    have hr := ih k (j + 1) (by omega) (by omega) (by omega)
    have hjl := hll _ (List.getElem_mem hjx)
    simp only [spec_Part_l1, spec_Part_l1s, hlen, lt_true hlt, br_true, hidx, sbind, spec_Part_j2, iadd_one (show j < 9223372036854775807 by omega)]
    by_cases h0 : 0 < xs[j].length
    · have hf := (h j hjx (xs[j].length - 1) (by rw [hgd]; omega)).1
      rw [hgd, show xs[j].length - 1 + 1 = xs[j].length by omega, ← hq] at hf
      have e1 : isub .i64 (xs[j].length : Int) 1 = ((xs[j].length - 1 : Nat) : Int) := by rw [isub_i64 (by omega) (by omega)]; omega
      have hl1 : idx xs[j] ((xs[j].length - 1 : Nat) : Int) = some ((QQ xs (j + 1) : Nat) : Int) := by
        rw [idx_get (by omega), ← hf]; simp [List.getD, List.getElem?_eq_getElem (show xs[j].length - 1 < xs[j].length by omega)]
      rw [decide_eq_true (show (0 : Int) < (xs[j].length : Int) by omega), br_true, e1, hl1, sbind]
      exact hr
    · have hz : xs[j].length = 0 := by omega
      have : QQ xs (j + 1) = QQ xs j := by rw [hq, hz]; rfl
      rw [decide_eq_false (show ¬ (0 : Int) < (xs[j].length : Int) by omega), br_false]
      rw [this] at hr; exact hr
theorem l2_is {es : List Int} {s p N : Nat} (h : ∀ j, j < es.length → FA p es s j) (hN : ∀ j, j ≤ es.length → PF p es j ≤ N) (hb : N ≤ 2147483647) (hl : es.length ≤ 2147483647) : ∀ (n k m : Nat), es.length - m = n → n < k → m ≤ es.length →
    spec_Part_l2 es (p : Int) k ((es.take m).map (fun e => e - (p : Int)), ((PF p es m : Nat) : Int), (m : Int)) = some (es.map (fun e => e - (p : Int)), ((PF p es es.length : Nat) : Int)) := by
  have hpN : p ≤ N := by have := hN 0 (by omega); rw [PF_zero] at this; exact this
  intro n
  induction n with
  | zero =>
    intro k m hn hk hm
    obtain ⟨k, rfl⟩ : ∃ j, k = j + 1 := ⟨k - 1, by omega⟩
    have : m = es.length := by omega
    subst this
    simp only [spec_Part_l2, spec_Part_l2s, lt_false (Nat.lt_irrefl _), br_false, List.take_length]
  | succ n ih =>
    intro k m hn hk hm
    obtain ⟨k, rfl⟩ : ∃ j, k = j + 1 := ⟨k - 1, by omega⟩
    have hlt : m < es.length := by omega
    obtain ⟨f1, f2, _⟩ := h m hlt
    have hn1 := hN (m + 1) (by omega)
    have hgd : es.getD m 0 = es[m] := by simp [List.getD, List.getElem?_eq_getElem hlt]
    rw [hgd] at f1
    have e1 : isub .i64 es[m] (p : Int) = es[m] - (p : Int) := isub_i64 (by omega) (by omega)
    have ha : apd 8 ((es.take m).map (fun e => e - (p : Int))) [es[m] - (p : Int)] = some ((es.take (m + 1)).map (fun e => e - (p : Int))) := by
      rw [apd_some (by simp; omega) (by simp; omega), List.take_add_one, List.getElem?_eq_getElem hlt, List.map_append]; rfl
    have hr := ih k (m + 1) (by omega) (by omega) (by omega)
    rw [← f1] at hr
    simp only [spec_Part_l2, spec_Part_l2s, lt_true hlt, br_true, idx_get hlt, sbind, e1, ha, iadd_one (show m < 9223372036854775807 by omega)]
    exact hr
def prt6 (lay : Int) (fl : List Nat) (xs : List (List Int)) (i : Nat) : T27 := .mk 3 lay 0 ((fl.take (QQ xs (i + 1))).drop (QQ xs i)) ((xs.getD i []).map fun e => e - (QQ xs i : Int)) [] []
structure En6 (xs : List (List Int)) (s n : Nat) : Prop where
  fa : FAA xs s
  top : QQ xs xs.length = n
  n31 : n ≤ 2147483647
  l31 : xs.length ≤ 2147483647
  ll : ∀ es ∈ xs, es.length ≤ 2147483647
theorem En6.le {xs : List (List Int)} {s n : Nat} (h : En6 xs s n) {i : Nat} (hi : i ≤ xs.length) : QQ xs i ≤ n := by rw [← h.top]; exact QQ_le h.fa _ i rfl hi
theorem PF_le {es : List Int} {p s : Nat} (h : ∀ j, j < es.length → FA p es s j) (j : Nat) (hj : j ≤ es.length) : PF p es j ≤ PF p es es.length := FA_le h _ j rfl hj
theorem part6_is {k : Nat} {lay srid : Int} {fl : List Nat} {es : List Int} {xs : List (List Int)} {kids : List T27} {s : Nat} (h : En6 xs s fl.length) {i : Nat} (hi : i < xs.length) (hk : xs.length + (xs.getD i []).length < k) :
    spec_Part k 6 lay srid fl es xs kids (i : Int) = some (3, lay, 0, (fl.take (QQ xs (i + 1))).drop (QQ xs i), (xs.getD i []).map (fun e => e - (QQ xs i : Int)), [], []) := by
  have hf := h.n31
  have hl := h.l31
  have h1 := h.le (show i ≤ xs.length by omega)
  have h2 := h.le (show i + 1 ≤ xs.length by omega)
  have h3 := QQ_step h.fa i hi
  have hgd : xs.getD i [] = xs[i] := by simp [List.getD, List.getElem?_eq_getElem hi]
  have hfi := h.fa i hi
  have hcut0 : cut xs 0 (i : Int) = some (xs.take i) := by rw [cut_some (by omega) (by omega) (by omega), Int.toNat_natCast]; rfl
  have hl1 := l1_is h.fa hl h.ll (show i ≤ xs.length by omega) i k 0 (by omega) (by omega) (by omega)
  have hl1' : spec_Part_l1 (xs.take i) k (0, 0) = some ((QQ xs i : Nat) : Int) := hl1
  rw [hgd] at hfi hk ⊢
  have hq : PF (QQ xs i) xs[i] xs[i].length = QQ xs (i + 1) := by show _ = PF (QQ xs i) (xs.getD i []) (xs.getD i []).length; rw [hgd]
  have hl2 := l2_is (N := fl.length) hfi (fun j hj => by have := PF_le hfi j hj; rw [hq] at this; omega) hf (h.ll _ (List.getElem_mem hi)) xs[i].length k 0 (by omega) (by omega) (by omega)
  have hl2' : spec_Part_l2 xs[i] (QQ xs i : Int) k ([], ((QQ xs i : Nat) : Int), 0) = some (xs[i].map (fun e => e - (QQ xs i : Int)), ((QQ xs (i + 1) : Nat) : Int)) := by
    have := hl2; rw [hq] at this; exact this
  have hcut : cut fl ((QQ xs i : Nat) : Int) ((QQ xs (i + 1) : Nat) : Int) = some ((fl.take (QQ xs (i + 1))).drop (QQ xs i)) := by rw [cut_some (by omega) (by omega) (by omega), Int.toNat_natCast, Int.toNat_natCast]
  have hap : apd 8 ([] : List Nat) ((fl.take (QQ xs (i + 1))).drop (QQ xs i)) = some ((fl.take (QQ xs (i + 1))).drop (QQ xs i)) := by rw [apd_some (by simp; omega) (by simp; omega), List.nil_append]
  unfold spec_Part
  rw [decide_eq_false (show ¬ (6 : Int) = 7 by decide), br_false, decide_eq_true (show (6 : Int) = 6 from rfl), br_true, hcut0, sbind, hl1', sbind, idx_get hi, sbind, hl2', sbind]
  simp only [hcut, hap, sbind]
def prts6 (lay : Int) (fl : List Nat) (xs : List (List Int)) (n : Nat) : List T27 := (List.range n).map (prt6 lay fl xs)
theorem prts6_length (lay : Int) (fl : List Nat) (xs : List (List Int)) (n : Nat) : (prts6 lay fl xs n).length = n := by unfold prts6; simp
theorem prts6_succ (lay : Int) (fl : List Nat) (xs : List (List Int)) (n : Nat) : prts6 lay fl xs (n + 1) = prts6 lay fl xs n ++ [prt6 lay fl xs n] := by unfold prts6; rw [List.range_succ, List.map_append]; rfl
theorem parts6_loop {lay srid : Int} {fl : List Nat} {es : List Int} {xs : List (List Int)} {kids : List T27} {s M : Nat} (h : En6 xs s fl.length) (hM : ∀ i, (xs.getD i []).length ≤ M) :
    ∀ (n k i : Nat), xs.length - i = n → n + xs.length + M < k → i ≤ xs.length → spec_Parts_l1 (xs.length : Int) 6 lay srid fl es xs kids k (prts6 lay fl xs i, (i : Int)) = some (prts6 lay fl xs xs.length) := by
  have hl := h.l31
  intro n
  induction n with
  | zero =>
    intro k i hn hk hi
    obtain ⟨k, rfl⟩ : ∃ j, k = j + 1 := ⟨k - 1, by omega⟩
    have : i = xs.length := by omega
    subst this
    simp only [spec_Parts_l1, spec_Parts_l1s, lt_false (Nat.lt_irrefl _), br_false]
  | succ n ih =>
    intro k i hn hk hi
    obtain ⟨k, rfl⟩ : ∃ j, k = j + 1 := ⟨k - 1, by omega⟩
    have hlt : i < xs.length := by omega
    have hMi := hM i
    have ha : apd 120 (prts6 lay fl xs i) [prt6 lay fl xs i] = some (prts6 lay fl xs (i + 1)) := by rw [prts6_succ, apd_some (by rw [prts6_length]; simp; omega) (by rw [prts6_length]; simp; omega)]
    simp only [spec_Parts_l1, spec_Parts_l1s, lt_true hlt, br_true, part6_is h hlt (show xs.length + (xs.getD i []).length < k by omega), sbind, iadd_one (show i < 9223372036854775807 by omega)]
    have ha' : apd 120 (prts6 lay fl xs i) [T27.mk 3 lay 0 ((fl.take (QQ xs (i + 1))).drop (QQ xs i)) ((xs.getD i []).map fun e => e - (QQ xs i : Int)) [] []] = some (prts6 lay fl xs (i + 1)) := ha
    rw [ha', sbind]
    exact ih k (i + 1) (by omega) (by omega) (by omega)
theorem parts6_is {k : Nat} {lay srid : Int} {fl : List Nat} {es : List Int} {xs : List (List Int)} {kids : List T27} {s M : Nat} (h : En6 xs s fl.length) (hM : ∀ i, (xs.getD i []).length ≤ M) (hk : xs.length + xs.length + M < k) :
    spec_Parts k 6 lay srid fl es xs kids = some (prts6 lay fl xs xs.length) := by
  have hn : spec_NumParts k 6 lay srid fl es xs kids = some (xs.length : Int) := rfl
  have hp := parts6_loop (srid := srid) (lay := lay) (es := es) (kids := kids) h hM xs.length k 0 rfl hk (by omega)
  have hp' : spec_Parts_l1 (xs.length : Int) 6 lay srid fl es xs kids k ([], 0) = some (prts6 lay fl xs xs.length) := hp
  unfold spec_Parts
  rw [hn, sbind, hp', sbind]
def mv (n : Nat) (es : List Int) : List Int := es.map fun e => iadd .i64 (n : Int) e
theorem of2_is {r : T27} {fl : List Nat} (hl : r.f4.length ≤ 2147483647) : ∀ (n k m : Nat), r.f4.length - m = n → n < k → m ≤ r.f4.length → spec_OfParts_l2 r fl k (mv fl.length (r.f4.take m), (m : Int)) = some (mv fl.length r.f4) := by
  intro n
  induction n with
  | zero =>
    intro k m hn hk hm
    obtain ⟨k, rfl⟩ : ∃ j, k = j + 1 := ⟨k - 1, by omega⟩
    have : m = r.f4.length := by omega
    subst this
    simp only [spec_OfParts_l2, spec_OfParts_l2s, lt_false (Nat.lt_irrefl _), br_false, List.take_length]
  | succ n ih =>
    intro k m hn hk hm
    obtain ⟨k, rfl⟩ : ∃ j, k = j + 1 := ⟨k - 1, by omega⟩
    have hlt : m < r.f4.length := by omega
    have ha : apd 8 (mv fl.length (r.f4.take m)) [iadd .i64 (fl.length : Int) r.f4[m]] = some (mv fl.length (r.f4.take (m + 1))) := by
      unfold mv
      rw [apd_some (by simp; omega) (by simp; omega), List.take_add_one, List.getElem?_eq_getElem hlt, List.map_append]; rfl
    simp only [spec_OfParts_l2, spec_OfParts_l2s, lt_true hlt, br_true, idx_get hlt, sbind, ha, iadd_one (show m < 9223372036854775807 by omega)]
    exact ih k (m + 1) (by omega) (by omega) (by omega)
theorem mv_back {xs : List (List Int)} {s n : Nat} (h : En6 xs s n) {i : Nat} (hi : i < xs.length) : mv (QQ xs i) ((xs.getD i []).map fun e => e - (QQ xs i : Int)) = xs.getD i [] := by
  have h31 := h.n31
  have h1 := h.le (show i + 1 ≤ xs.length by omega)
  have hfi := h.fa i hi
  have h0 := h.le (show i ≤ xs.length by omega)
  have hq : PF (QQ xs i) (xs.getD i []) (xs.getD i []).length = QQ xs (i + 1) := rfl
  generalize xs.getD i [] = L at *
  unfold mv
  rw [List.map_map]
  apply List.ext_getElem
  · simp
  · intro j h2 h3
    rw [List.getElem_map]
    have hf := (hfi j h3).1
    have hle := PF_le hfi (j + 1) (by omega)
    rw [show L.getD j 0 = L[j] from by simp [List.getD, List.getElem?_eq_getElem h3]] at hf
    show iadd .i64 ((QQ xs i : Nat) : Int) (L[j] - ((QQ xs i : Nat) : Int)) = L[j]
    rw [iadd_i64 (by omega) (by omega)]; omega
theorem of6_loop {lay : Int} {fl : List Nat} {xs : List (List Int)} {p : T27} {s M : Nat} (h : En6 xs s fl.length) (hpl : p.f3.length ≤ 2147483647) (hp4 : p.f4.length ≤ 2147483647) (hM : ∀ i, (xs.getD i []).length ≤ M) :
    ∀ (n k i : Nat), xs.length - i = n → n + M + p.f4.length + 2 < k → i ≤ xs.length → spec_OfParts_l3 (prts6 lay fl xs xs.length ++ [p]) 6 k (fl.take (QQ xs i), [], xs.take i, (i : Int)) = some (fl ++ p.f3, [], xs ++ [mv fl.length p.f4]) := by
  have hf := h.n31
  have hl := h.l31
  have hlen : (prts6 lay fl xs xs.length ++ [p]).length = xs.length + 1 := by rw [List.length_append, prts6_length]; rfl
  have h6 : (!decide ((6 : Int) = 6)) = false := by decide
  intro n
  induction n with
  | zero =>
    intro k i hn hk hi
    obtain ⟨k, rfl⟩ : ∃ j, k = j + 2 := ⟨k - 2, by omega⟩
    have : i = xs.length := by omega
    subst this
    have hidx : idx (prts6 lay fl xs xs.length ++ [p]) (xs.length : Int) = some p := by
      rw [idx_get (by rw [hlen]; omega)]
      congr 1
      rw [List.getElem_append_right (by rw [prts6_length]; exact Nat.le_refl _)]
      simp [prts6_length]
    have e1 : fl.take (QQ xs xs.length) = fl := by rw [h.top, List.take_length]
    have e2 : xs.take xs.length = xs := List.take_length
    have ha : apd 8 fl p.f3 = some (fl ++ p.f3) := apd_some (by omega) (by omega)
    have h2 := of2_is (r := p) (fl := fl) hp4 p.f4.length (k + 1) 0 (by omega) (by omega) (by omega)
    have h2' : spec_OfParts_l2 p fl (k + 1) ([], 0) = some (mv fl.length p.f4) := h2
    have hb : apd 24 xs [mv fl.length p.f4] = some (xs ++ [mv fl.length p.f4]) := apd_some (by simp; omega) (by simp; omega)
    rw [e1, e2]
    rw [spec_OfParts_l3, spec_OfParts_l3s, hlen, lt_true (show xs.length < xs.length + 1 by omega), br_true, hidx, sbind, ha, sbind, h6, br_false, h2', sbind, hb, sbind, spec_OfParts_j2, iadd_one (show xs.length < 9223372036854775807 by omega), spec_OfParts_l3, spec_OfParts_l3s, hlen, lt_false (Nat.lt_irrefl _), br_false]
  | succ n ih =>
    intro k i hn hk hi
    obtain ⟨k, rfl⟩ : ∃ j, k = j + 1 := ⟨k - 1, by omega⟩
    have hlt : i < xs.length := by omega
    have hMi := hM i
    have q1 := h.le (show i ≤ xs.length by omega)
    have q2 := h.le (show i + 1 ≤ xs.length by omega)
    have q3 := QQ_step h.fa i hlt
    have hidx : idx (prts6 lay fl xs xs.length ++ [p]) (i : Int) = some (prt6 lay fl xs i) := by
      rw [idx_get (by rw [hlen]; omega)]
      congr 1
      rw [List.getElem_append_left (by rw [prts6_length]; exact hlt)]
      simp [prts6]
    have ha : apd 8 (fl.take (QQ xs i)) (prt6 lay fl xs i).f3 = some (fl.take (QQ xs (i + 1))) := by
      show apd 8 (fl.take (QQ xs i)) ((fl.take (QQ xs (i + 1))).drop (QQ xs i)) = _
      rw [apd_some (by simp; omega) (by simp; omega), take_step q3]
    have hln : (fl.take (QQ xs i)).length = QQ xs i := by rw [List.length_take]; omega
    have hf4 : (prt6 lay fl xs i).f4 = (xs.getD i []).map fun e => e - (QQ xs i : Int) := rfl
    have hll : (xs.getD i []).length ≤ 2147483647 := by
      rw [show xs.getD i [] = xs[i] from by simp [List.getD, List.getElem?_eq_getElem hlt]]; exact h.ll _ (List.getElem_mem hlt)
    have h2 := of2_is (r := prt6 lay fl xs i) (fl := fl.take (QQ xs i)) (by rw [hf4, List.length_map]; exact hll) (prt6 lay fl xs i).f4.length k 0 (by omega) (by rw [hf4, List.length_map]; omega) (by omega)
    have h2' : spec_OfParts_l2 (prt6 lay fl xs i) (fl.take (QQ xs i)) k ([], 0) = some (xs.getD i []) := by
      rw [hln, hf4, mv_back h hlt] at h2; exact h2
    have hb : apd 24 (xs.take i) [xs.getD i []] = some (xs.take (i + 1)) := by
      rw [apd_some (by simp; omega) (by simp; omega), List.take_add_one]
      simp [List.getD, List.getElem?_eq_getElem hlt]
    have hr := ih k (i + 1) (by omega) (by omega) (by omega)
    rw [spec_OfParts_l3, spec_OfParts_l3s, hlen, lt_true (show i < xs.length + 1 by omega), br_true, hidx, sbind, ha, sbind, h6, br_false, h2', sbind, hb, sbind, spec_OfParts_j2, iadd_one (show i < 9223372036854775807 by omega)]
    exact hr
theorem of6_is {k : Nat} {lay : Int} {fl : List Nat} {xs : List (List Int)} {p : T27} {s M : Nat} (h : En6 xs s fl.length) (hpl : p.f3.length ≤ 2147483647) (hp4 : p.f4.length ≤ 2147483647) (hM : ∀ i, (xs.getD i []).length ≤ M) (hk : xs.length + M + p.f4.length + 2 < k) :
    spec_OfParts k 6 lay (prts6 lay fl xs xs.length ++ [p]) = some (6, lay, 0, fl ++ p.f3, [], xs ++ [mv fl.length p.f4]) := by
  have hp := of6_loop (lay := lay) h hpl hp4 hM xs.length k 0 rfl hk (by omega)
  have hp' : spec_OfParts_l3 (prts6 lay fl xs xs.length ++ [p]) 6 k ([], [], [], 0) = some (fl ++ p.f3, [], xs ++ [mv fl.length p.f4]) := hp
  unfold spec_OfParts
  rw [hp', sbind]
end Go.Proofs.Ytmagcmeknclljaa
