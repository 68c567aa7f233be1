/-
  Steps of a walk over the symbolic state: rows cut whole, arrays as rows. Ours; it knows no program.
-/
import Derived.Test.YtlipjaacncpaoaaSxT
import Derived.Laws.BytesString
import Derived.LaidEql
namespace Go.Sx
set_option linter.unusedVariables false
set_option linter.unusedSectionVars false
set_option linter.unusedSimpArgs false
variable [Gv]

section
variable {E : Env} {P : Program} {Q : Exit → Act → World → Prop} {s : St} {dst : Option Tmp} {ty : TypeId} {pos : String} {af : Array Edge} {g : Option (Nat × Bool)}

def Sp (v : Value) (size lo m : Nat) : SV := ⟨fun _ _ u => (v = .slice none 0 0 ∧ u = .slice none 0 0 ∧ lo = 0 ∧ m = 0) ∨ ∃ b n c o c', v = .slice (some ⟨b, 0, none⟩) n c ∧ u = .slice (some ⟨b, o, none⟩) m c' ∧ (m = 0 ∨ o = lo * size), fun _ _ h => h⟩
theorem cut_len {α : Type} {xs ys : List α} {lo hi : Int} (hc : cut xs lo hi = some ys) : 0 ≤ lo ∧ lo ≤ hi ∧ hi ≤ xs.length ∧ ys.length = hi.toNat - lo.toNat ∧ lo.toNat + ys.length ≤ xs.length := by
  unfold cut at hc
  split at hc
  case isFalse => cases hc
  rename_i hb
  cases hc
  have : ((xs.take hi.toNat).drop lo.toNat).length = hi.toNat - lo.toNat := by simp; omega
  exact ⟨hb.1, hb.2.1, hb.2.2, this, by rw [this]; omega⟩
theorem part_cut {α : Type} {K : Kd α} {e' : TypeId} {v : Value} {xs ys : List α} {i : Nat} {X : Operand} {lo hi : Int} {Lo Hi : Option Operand} {t e : TypeId} {z : Option Value} {bytes : Nat} (hx : ev s.L X = some (Vl v)) (hi' : s.H[i]? = some (Rw K e' v xs)) (hK : Nat.ble 1 K.size = true)
    (hl : ∀ {a : Act} {w : World} {U : Nat → Prop}, SymAt E s a w U → (Lo = none ∧ lo = 0) ∨ ∃ L k, Lo = some L ∧ a.eval L = .int k lo) (hh : ∀ {a : Act} {w : World} {U : Nat → Prop}, SymAt E s a w U → (Hi = none ∧ hi = xs.length) ∨ ∃ L k, Hi = some L ∧ a.eval L = .int k hi)
    (hc : cut xs lo hi = some ys) (ht : P.underlying t = some (.slice e)) (he : (P.info? e).map (fun i => (i.zero, i.size, i.bytes)) = some (z, K.size, bytes)) {a : Act} {w : World} {U : Nat → Prop} (hs : SymAt E s a w U) :
    ∃ u, (Sp v K.size lo.toNat ys.length).R w U u ∧ ∀ w' : World, (execOp a.eval ⟨dst, .slice t X Lo Hi none, ty, pos, af, g⟩).run P w' = .ok (.value u) w' := by
  obtain ⟨c0, c1, c2, c3, c4⟩ := cut_len hc
  have e1 : a.eval X = v := look_ev hs hx
  cases hinfo : P.info? e with
  | none => rw [hinfo] at he; simp at he
  | some inf =>
    rw [hinfo] at he; simp at he
    rcases hs.row (Nat.le_of_ble_eq_true hK) hi' with ⟨h, h'⟩ | ⟨b, cap, vs, sp, h, _, _, _, hcap, _⟩
    · subst h; subst h'
      simp only [List.length_nil] at c2 c4
      obtain rfl : lo = 0 := by omega
      obtain rfl : hi = 0 := by omega
      refine ⟨.slice none 0 0, .inl ⟨rfl, rfl, rfl, by omega⟩, fun w' => ?_⟩
      have hl' := hl hs
      have hh' := hh hs
      clear hl hh
      rcases hl' with ⟨rfl, _⟩ | ⟨L, k, rfl, e2⟩
      · rcases hh' with ⟨rfl, _⟩ | ⟨L', k', rfl, e3⟩
        · simp [execOp, Instr.sliceAt, Instr.slice, e1, run_underlying ht, Instr.sliceBounds, run_sliceBound, sizeOf, typeInfo, hinfo, he.2.1]
        · simp [execOp, Instr.sliceAt, Instr.slice, e1, e3, run_underlying ht, Instr.sliceBounds, run_sliceBound, sizeOf, typeInfo, hinfo, he.2.1]
      · rcases hh' with ⟨rfl, _⟩ | ⟨L', k', rfl, e3⟩
        · simp [execOp, Instr.sliceAt, Instr.slice, e1, e2, run_underlying ht, Instr.sliceBounds, run_sliceBound, sizeOf, typeInfo, hinfo, he.2.1]
        · simp [execOp, Instr.sliceAt, Instr.slice, e1, e2, e3, run_underlying ht, Instr.sliceBounds, run_sliceBound, sizeOf, typeInfo, hinfo, he.2.1]
    · subst h
      have h5 : hi ≤ (cap : Int) := by omega
      have h6 : lo ≤ (hi.toNat : Int) := by omega
      have hc1 : (hi.toNat : Int) = hi := Int.toNat_of_nonneg (by omega)
      have hc2 : (lo.toNat : Int) = lo := Int.toNat_of_nonneg (by omega)
      refine ⟨.slice (if cap = lo.toNat then some ⟨b, 0, none⟩ else some ⟨b, lo.toNat * K.size, none⟩) (hi.toNat - lo.toNat) (cap - lo.toNat), .inr ⟨b, xs.length, cap, if cap = lo.toNat then 0 else lo.toNat * K.size, cap - lo.toNat, rfl, ?_, ?_⟩, fun w' => ?_⟩
      · rw [c3]; split <;> rfl
      · by_cases hcl : cap = lo.toNat
        · left; omega
        · right; rw [if_neg hcl]
      · have hl' := hl hs
        have hh' := hh hs
        clear hl hh
        rcases hl' with ⟨rfl, rfl⟩ | ⟨L, k, rfl, e2⟩
        · rcases hh' with ⟨rfl, rfl⟩ | ⟨L', k', rfl, e3⟩
          · simp [execOp, Instr.sliceAt, Instr.slice, e1, run_underlying ht, Instr.sliceBounds, run_sliceBound, sizeOf, typeInfo, hinfo, he.2.1, addr_add]
          · simp [execOp, Instr.sliceAt, Instr.slice, e1, e3, run_underlying ht, Instr.sliceBounds, run_sliceBound, sizeOf, typeInfo, hinfo, he.2.1, addr_add, h5, c1]
        · rcases hh' with ⟨rfl, rfl⟩ | ⟨L', k', rfl, e3⟩
          · simp [execOp, Instr.sliceAt, Instr.slice, e1, e2, run_underlying ht, Instr.sliceBounds, run_sliceBound, sizeOf, typeInfo, hinfo, he.2.1, addr_add, c0, c1]
          · simp [execOp, Instr.sliceAt, Instr.slice, e1, e2, e3, run_underlying ht, Instr.sliceBounds, run_sliceBound, sizeOf, typeInfo, hinfo, he.2.1, addr_add, c0, c1, h6, h5, hc1, (by omega : 0 ≤ hi)]
theorem rd_cutr_lh {α : Type} {K : Kd α} {e' : TypeId} {v : Value} {xs ys : List α} {i : Nat} {X Lo Hi : Operand} {k1 k2 : IntKind} {lo hi : Int} {t e : TypeId} {z : Option Value} {bytes : Nat} (hx : ev s.L X = some (Vl v)) (hi' : s.H[i]? = some (Rw K e' v xs)) (hK : Nat.ble 1 K.size = true)
    (hl : ev s.L Lo = some (Vl (.int k1 lo))) (hh : ev s.L Hi = some (Vl (.int k2 hi))) (hc : cut xs lo hi = some ys) (ht : P.underlying t = some (.slice e)) (he : (P.info? e).map (fun i => (i.zero, i.size, i.bytes)) = some (z, K.size, bytes)) : Rd P s ⟨dst, .slice t X (some Lo) (some Hi) none, ty, pos, af, g⟩ (Sp v K.size lo.toNat ys.length) := fun E a w U hs => by
  obtain ⟨u, h1, h2⟩ := part_cut (dst := dst) (ty := ty) (pos := pos) (af := af) (g := g) (E := E) hx hi' hK (Lo := some Lo) (Hi := some Hi) (fun hs => .inr ⟨Lo, k1, rfl, look_ev hs hl⟩) (fun hs => .inr ⟨Hi, k2, rfl, look_ev hs hh⟩) hc ht he hs
  exact ⟨u, h1, fun w' _ => h2 w'⟩
def cpat {α : Type} (xs : List α) (lo m : Nat) (zs : List α) : List α := xs.take lo ++ zs.take m ++ xs.drop (lo + Nat.min zs.length m)
def idxn {α : Type} (N : Nat) (xs : List α) (i : Int) : Option α := if i < N then idx xs i else none
def need {α : Type} (n : Nat) (xs : List α) : Option Unit := if n ≤ xs.length then some () else none
def Mf (name : String) (x : SV) : SV := ⟨fun w U u => ∃ v, u = .func (.method name) #[v] #[] ∧ x.R w U v, fun h1 h2 ⟨v, e, h⟩ => ⟨v, e, x.mono h1 h2 h⟩⟩
def bytesOf (xs : List Int) : ByteArray := xs.foldl (fun r n => r.push (UInt8.ofNat n.toNat)) ByteArray.empty
def Ln (m : Nat) : SV := ⟨fun _ _ u => ∃ a c, u = .slice a m c, fun _ _ h => h⟩
abbrev Vg (x : Nat) : SV := Vl (.float .f64 x)
end
end Go.Sx
