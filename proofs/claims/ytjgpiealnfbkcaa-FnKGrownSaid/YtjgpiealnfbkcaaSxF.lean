/-
  Steps of a walk over the symbolic state: stores, freezing, slices that the call makes. Ours; it knows no program.
-/
import Derived.Test.YtjgpiealnfbkcaaSxE
namespace Go.Sx
set_option linter.unusedVariables false
set_option linter.unusedSectionVars false
set_option linter.unusedSimpArgs false
variable [Gv]

theorem perm_set {α : Type} : ∀ {l : List α} {i : Nat} {r : α}, l[i]? = some r → ∀ x, (l.set i x).Perm (x :: l.eraseIdx i)
  | [], _, _, h, _ => by simp at h
  | y :: l, 0, _, _, x => by simp
  | y :: l, i + 1, r, h, x => by
    simp only [List.set_cons_succ, List.eraseIdx_cons_succ]
    exact ((perm_set (by simpa using h) x).cons y).trans (List.Perm.swap x y _)
theorem perm_erase {α : Type} : ∀ {l : List α} {i : Nat} {r : α}, l[i]? = some r → l.Perm (r :: l.eraseIdx i)
  | [], _, _, h => by simp at h
  | y :: l, 0, r, h => by simp at h; subst h; simp
  | y :: l, i + 1, r, h => by
    simp only [List.eraseIdx_cons_succ]
    exact ((perm_erase (by simpa using h)).cons y).trans (List.Perm.swap r y _)

section states
variable {E : Env} {s : St} {a : Act} {w : World} {U : Nat → Prop}

theorem SymAt.perm (h : SymAt E s a w U) {H' : List Res} (hp : s.H.Perm H') : SymAt E { s with H := H' } a w U where
  size := h.size
  defers := h.defers
  slot := h.slot
  own := fun r hr => h.own r (hp.mem_iff.2 hr)
  nodup := (hp.flatMap_right Res.blk).nodup_iff.1 h.nodup
  apart := fun r hr => h.apart r (hp.mem_iff.2 hr)
  base := fun r hr => h.base r (hp.mem_iff.2 hr)
  lt := h.lt
  from0 := h.from0
  to0 := h.to0
  ext := h.ext
  glob := h.glob
theorem SymAt.keep (h : SymAt E s a w U) {H' : List Res} (hp : Keep H' s.H) : SymAt E { s with H := H' } a w U where
  size := h.size
  defers := h.defers
  slot := h.slot
  own := fun r hr => h.own r (hp.subset hr)
  nodup := (sublist_flatMap hp).nodup h.nodup
  apart := fun r hr => h.apart r (hp.subset hr)
  base := fun r hr => h.base r (hp.subset hr)
  lt := h.lt
  from0 := h.from0
  to0 := h.to0
  ext := h.ext
  glob := h.glob

theorem SymAt.freeze (h : SymAt E s a w U) {i : Nat} {r : Res} (hi : s.H[i]? = some r) : ∃ U', SymAt E { s with H := s.H.eraseIdx i } a w U' ∧ (∀ k, U k → U' k) ∧ (∀ b ∈ r.blk, U' b) ∧ r.own w U' := by
  have hm : r ∈ s.H := List.mem_of_getElem? hi
  have hp := perm_erase hi
  have hn : (r.blk ++ (s.H.eraseIdx i).flatMap Res.blk).Nodup := by
    have := (hp.flatMap_right Res.blk).nodup_iff.1 h.nodup
    simpa [List.flatMap_cons] using this
  have hsub : ∀ q ∈ s.H.eraseIdx i, q ∈ s.H := fun q hq => hp.mem_iff.2 (List.mem_cons_of_mem _ hq)
  refine ⟨fun k => U k ∨ k ∈ r.blk, ?_, fun k hk => .inl hk, fun b hb => .inr hb, Res.own_mono (fun _ h => .inl h) (fun _ _ => rfl) (fun _ _ => rfl) (h.own r hm)⟩
  exact {
    size := h.size, defers := h.defers
    slot := fun k x hk => by
      obtain ⟨v, hv, hr⟩ := h.slot k x hk
      exact ⟨v, hv, x.mono (fun _ h => .inl h) (fun _ _ => rfl) hr⟩
    own := fun q hq => Res.own_mono (fun _ h => .inl h) (fun _ _ => rfl) (fun _ _ => rfl) (h.own q (hsub q hq))
    nodup := (List.nodup_append.1 hn).2.1
    apart := fun q hq b hb hu => by
      rcases hu with hu | hu
      · exact h.apart q (hsub q hq) b hb hu
      · exact absurd rfl ((List.nodup_append.1 hn).2.2 b hu b (List.mem_flatMap.2 ⟨q, hq, hb⟩))
    base := fun q hq => h.base q (hsub q hq)
    lt := fun k hk => hk.elim (h.lt k) (Res.lt (h.own r hm) k)
    from0 := fun k hk => hk.elim (h.from0 k) (fun hb => .inr (h.base r hm k hb))
    to0 := fun k hk => .inl (h.to0 k hk)
    ext := h.ext, glob := h.glob.mono (fun _ h => .inl h) (fun _ _ => rfl) }

theorem flatMap_length {α : Type} (K : Kd α) (xs : List α) : (xs.flatMap K.enc).length = xs.length * K.size := by
  induction xs with
  | nil => simp
  | cons x xs ih => simp [List.flatMap_cons, ih, K.len, Nat.succ_mul]; omega
theorem flatMap_get {α : Type} (K : Kd α) : ∀ {xs : List α} {i : Nat} {x : α}, xs[i]? = some x → ∀ {j : Nat} {y : SV}, (K.enc x)[j]? = some y → (xs.flatMap K.enc)[i * K.size + j]? = some y
  | [], _, _, h, _, _, _ => by simp at h
  | z :: xs, 0, x, h, j, y, hj => by
    simp at h; subst h
    have : j < (K.enc z).length := (List.getElem?_eq_some_iff.1 hj).1
    simp only [List.flatMap_cons, Nat.zero_mul, Nat.zero_add]
    rw [List.getElem?_append_left this]; exact hj
  | z :: xs, i + 1, x, h, j, y, hj => by
    have := flatMap_get K (xs := xs) (i := i) (by simpa using h) hj
    simp only [List.flatMap_cons]
    rw [List.getElem?_append_right (by rw [K.len, Nat.succ_mul]; omega), K.len, show (i + 1) * K.size + j - K.size = i * K.size + j from by rw [Nat.succ_mul]; omega]
    exact this

end states

theorem SymAt.imp {E : Env} {s : St} {a : Act} {w : World} {U : Nat → Prop} (h : SymAt E s a w U) {t : Nat} {x y : SV} (ht : look s.L t = some x) (hi : Imp x y) : SymAt E { s with L := (t, y) :: s.L } a w U :=
  { h with
    slot := fun k z hk => by
      simp only [look] at hk
      by_cases ek : t = k
      · subst ek
        have : Nat.beq t t = true := by simp
        rw [this] at hk; simp at hk; subst hk
        obtain ⟨v, hv, hr⟩ := h.slot t x ht
        exact ⟨v, hv, hi _ _ _ hr⟩
      · have hb' : Nat.beq t k = false := by
          cases h' : Nat.beq t k with
          | false => rfl
          | true => exact absurd (Nat.eq_of_beq_eq_true h') ek
        rw [hb'] at hk
        exact h.slot k z hk }
section stores
variable {E : Env} {P : Program} {Q : Exit → Act → World → Prop} {s : St} {ops : Array Oper} {rest : List Oper}
  {dst : Option Tmp} {ty : TypeId} {pos : String} {af : Array Edge} {g : Option (Nat × Bool)}

def AtRow (s : St) (i : Nat) (r : Res) (q : Addr) (n c size : Nat) : Prop := s.H[i]? = some r ∧ r.v = .slice (some q) n c ∧ r.row = some size

theorem rd_lenv {b : Option Addr} {n c : Nat} {X : Operand} {t e : TypeId} (hx : ev s.L X = some (Vl (.slice b n c))) (ht : P.underlying t = some (.slice e)) :
    Rd P s ⟨dst, .call { callee := .builtin .len, args := #[X], argTypes := #[t] }, ty, pos, af, g⟩ (Vl (.int .i64 n)) := fun E a w U hs => by
  have e1 : a.eval X = .slice b n c := look_ev hs hx
  exact ⟨_, rfl, fun w' _ => by simp [execOp, resolve, invoke, builtin, Builtin.len_, e1, run_underlying ht, goInt]⟩

end stores
end Go.Sx
