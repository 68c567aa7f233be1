/-
  Steps of a walk over the symbolic state: calls, literals, make, append, cuts, deferred closures that have nothing to catch. Ours; it knows no program.
-/
import Derived.Test.YtekppafmaoefaaaDoorSxJ
import Derived.Laws.AppendOwn
namespace Go.Sx
set_option linter.unusedVariables false
set_option linter.unusedSectionVars false
set_option linter.unusedSimpArgs false
variable [Gv]

section
variable {E : Env} {P : Program} {s : St} {dst : Option Tmp} {ty : TypeId} {pos : String} {af : Array Edge} {g : Option (Nat × Bool)}

/-! #### calls -/
theorem ox_rowlit {d : Nat} {t e : TypeId} {len : Nat} {ps : List (Nat × Operand)} {zs : List Value} {z : Value} {bytes : Nat} {qs : List (Nat × List SV)} {α : Type} {K : Kd α} {xs : List α} (hp : PartsEv s.L ps qs)
    (ht : P.underlying t = some (.slice e)) (hz : (P.info? e).map (fun i => (i.zero, i.size, i.bytes)) = some (some z, K.size, bytes)) (hzc : z.cells = ⟨zs⟩) (hsz : Nat.ble 1 K.size = true)
    (h1 : zs.all (·.oneCell') = true) (hzl : zs.length = K.size) (hsmall : Nat.ble (len * K.size) 16777216 = true)
    (hf : fillS (fun i => some (i * K.size, K.size)) ((List.range (len * K.size)).map fun i => Vl (zs.getD (i % K.size) undef)) qs = some (xs.flatMap K.enc)) (hxl : xs.length = len) (hd : dst = some d) (hn : Nat.ble (d + 1) s.n = true) :
    OX E P ⟨dst, .buildSlice t len ⟨ps⟩, ty, pos, af, g⟩ 0 (fun g : Gs => { s with L := (d, Vl (Vs g)) :: s.L, H := Rw K e (Vs g) xs :: s.H }) s := fun Q a w U hs K' k => by
  have key := sx_buildSlice (E := E) (P := P) (s := s) (ops := #[]) (Q := Q) (rest := []) (dst := dst) (ty := ty) (pos := pos) (af := af) (g := none) (d := d) (t := t) (e := e) (len := len) hp ht hz hzc (Nat.le_of_ble_eq_true hsz) h1 hzl hsmall hf (by rw [flatMap_length, hxl]) hd hn (wt_none rfl)
  have hrun : ∃ out : List Value, (execOp a.eval ⟨dst, .buildSlice t len ⟨ps⟩, ty, pos, af, g⟩).run P w = .ok (.value (.slice (some ⟨w.heap.size, 0, none⟩) len len)) { w with heap := w.heap.push (.cells ⟨out⟩ e) } ∧ out.length = len * K.size ∧
      All2 (fun s v => s.C w U v) (xs.flatMap K.enc) out := by
    have hzall : All2 (fun s v => s.C w U v) ((List.range (len * K.size)).map fun i => Vl (zs.getD (i % K.size) undef)) ((List.range (len * K.size)).map fun i => zs.getD (i % K.size) undef) := by
      have key : ∀ (l : List Nat), All2 (fun s v => s.C w U v) (l.map fun i => Vl (zs.getD (i % K.size) undef)) (l.map fun i => zs.getD (i % K.size) undef) := by
        intro l
        induction l with
        | nil => trivial
        | cons i l ih =>
          refine ⟨⟨rfl, ?_⟩, ih⟩
          have hlt : i % K.size < zs.length := by rw [hzl]; exact Nat.mod_lt _ (Nat.le_of_ble_eq_true hsz)
          have : zs.getD (i % K.size) undef ∈ zs := by simp [List.getD, hlt]
          exact (List.all_eq_true.1 h1) _ this
      exact key _
    obtain ⟨out, ho, hR⟩ := fill_of (partsEv_at hs hp) hzall hf
    have hlo : out.length = len * K.size := by rw [← hR.length, flatMap_length, hxl]
    refine ⟨out, ?_, hlo, hR⟩
    have hsz' : 0 < K.size := Nat.le_of_ble_eq_true hsz
    cases hinfo : P.info? e with
    | none => rw [hinfo] at hz; simp at hz
    | some inf =>
      rw [hinfo] at hz; simp at hz
      have hle : len * K.size ≤ 16777216 := Nat.le_of_ble_eq_true hsmall
      have hrange : (Array.range (len * K.size)).map (fun i => (if len * K.size = 0 then (#[] : Array Value) else ⟨zs⟩)[i % (if len * K.size = 0 then (#[] : Array Value) else ⟨zs⟩).size]!) = ⟨(List.range (len * K.size)).map fun i => zs.getD (i % K.size) undef⟩ := by
        apply Array.ext'
        simp only [Array.toList_map, Array.toList_range]
        apply List.map_congr_left
        intro i hi
        have hi' : i < len * K.size := List.mem_range.1 hi
        rw [if_neg (by omega)]
        have hlt : i % K.size < zs.length := by rw [hzl]; exact Nat.mod_lt _ hsz'
        have hlt' : i % K.size < (⟨zs⟩ : Array Value).size := by simpa using hlt
        rw [show (⟨zs⟩ : Array Value).size = K.size from by simp [hzl], getElem!_pos (⟨zs⟩ : Array Value) (i % K.size) hlt']
        simp [hlt, List.getD]
      have ho' : Instr.fill (fun i => some (i * K.size, K.size)) ⟨(List.range (len * K.size)).map fun i => zs.getD (i % K.size) undef⟩ (ps.map fun x => match x with | (i, x) => (i, a.eval x)) = some ⟨out⟩ := ho
      have e1 : (Instr.buildSlice t len ((⟨ps⟩ : Array (Nat × Operand)).map fun (i, x) => (i, a.eval x))).run P w = .ok (.slice (some ⟨w.heap.size, 0, none⟩) len len) { w with heap := w.heap.push (.cells ⟨out⟩ e) } := by
        by_cases h0 : len * K.size = 0
        · simp only [h0, if_true] at hrange
          simp only [Instr.buildSlice, zeroValue, sizeOf, typeInfo, Sem.run_bind, run_program, Result.andThen_ok, hinfo, Sem.run_pure, hz.1, hz.2.1, run_underlying ht, h0, if_true]
          rw [if_neg (by omega)]
          simp only [Sem.run_bind, Sem.run_pure, Result.andThen_ok, List.map_toArray]
          rw [show ((Array.range 0).map fun x => (#[] : Array Value)[x % (#[] : Array Value).size]!) = ⟨(List.range 0).map fun i => zs.getD (i % K.size) undef⟩ from by simp]
          rw [h0] at ho'
          rw [ho']
          simp [newRow]
        · simp only [h0, if_false] at hrange
          simp only [Instr.buildSlice, zeroValue, sizeOf, typeInfo, Sem.run_bind, run_program, Result.andThen_ok, hinfo, Sem.run_pure, hz.1, hz.2.1, run_underlying ht, h0, if_false]
          rw [if_neg (by omega)]
          simp only [Sem.run_bind, Sem.run_pure, Result.andThen_ok, List.map_toArray, hzc, hinfo, hz.1, run_program]
          rw [hrange, ho']
          simp [newRow]
      simp only [execOp, Sem.run_bind]
      rw [e1]; rfl
  obtain ⟨out, hrun, hlo, hR⟩ := hrun
  unfold Oper.wp
  rw [hrun]
  show K' (a.put dst _) _
  rw [hd]
  have hnew := hs.own_new (Rw K e (.slice (some ⟨w.heap.size, 0, none⟩) len len) xs) ⟨out⟩ e (by simp [rw_blk, blkOf])
    (.inr ⟨w.heap.size, len, len, out, [], rfl, by simp [Rw], all2_new _ hs.lt hR, by show (xs.flatMap K.enc).length = _; rw [flatMap_length, hxl], by simpa using hlo, Nat.le_refl _⟩)
  exact k (some ⟨w.heap.size, 0, none⟩, len, len) _ _ ⟨U, hnew.put hn rfl⟩ (fun _ => ext_push _ _) (fun h => by cases h)

def Sr {α : Type} (P : Program) (s : St) (tx : TypeId) (Y : Operand) (K : Kd α) (ys : List α) : Prop :=
  ∀ E a w U, SymAt E s a w U → ∃ news, Src P K.size tx (a.eval Y) ys.length news w ∧ All2 (fun s v => s.C w U v) (ys.flatMap K.enc) news

def apd {α : Type} (b : Nat) (xs ys : List α) : Option (List α) := if (xs.length + ys.length) * b ≤ 140737488355328 ∧ xs.length + ys.length ≤ 4611686018427387904 then some (xs ++ ys) else none

end
end Go.Sx
