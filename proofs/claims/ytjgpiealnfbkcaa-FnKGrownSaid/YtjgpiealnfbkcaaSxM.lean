/-
  Steps of a walk over the symbolic state: make, copy, cuts, deferred closures that have nothing to catch, rows that are frozen where a cell holds them. Ours; it knows no program.
-/
import Derived.Test.YtjgpiealnfbkcaaSxK
namespace Go.Sx
set_option linter.unusedVariables false
set_option linter.unusedSectionVars false
set_option linter.unusedSimpArgs false
variable [Gv]

theorem all2_get {α β : Type} {R : α → β → Prop} : ∀ {l : List α} {m : List β}, l.length = m.length → (∀ (j : Nat) (a : α) (b : β), l[j]? = some a → m[j]? = some b → R a b) → All2 R l m
  | [], [], _, _ => trivial
  | a :: l, b :: m, h, k => ⟨k 0 a b rfl rfl, all2_get (by simpa using h) (fun j a b h1 h2 => k (j + 1) a b (by simpa using h1) (by simpa using h2))⟩
  | [], _ :: _, h, _ => by simp at h
  | _ :: _, [], h, _ => by simp at h

section
variable {E : Env} {P : Program} {s : St} {dst : Option Tmp} {ty : TypeId} {pos : String} {af : Array Edge} {g : Option (Nat × Bool)}

/-! #### make -/
def mk {α : Type} (b : Nat) (z : α) (n c : Int) : Option (List α) := if 0 ≤ n ∧ n ≤ c ∧ (b : Int) * c ≤ 281474976710656 ∧ c ≤ 4611686018427387904 then some (List.replicate n.toNat z) else none

theorem all2_len0 {α β : Type} {R : α → β → Prop} : ∀ {l : List α} {m : List β}, All2 R l m → l.length = m.length
  | [], [], _ => rfl
  | _ :: _, _ :: _, h => by simp [all2_len0 h.2]
theorem all2_at0 {α β : Type} {R : α → β → Prop} : ∀ {l : List α} {m : List β} {j : Nat} {a : α} {b : β}, All2 R l m → l[j]? = some a → m[j]? = some b → R a b
  | _ :: _, _ :: _, 0, _, _, h, h1, h2 => by cases h1; cases h2; exact h.1
  | _ :: _, _ :: _, j + 1, _, _, h, h1, h2 => all2_at0 (j := j) h.2 (by simpa using h1) (by simpa using h2)
  | [], _, _, _, _, _, h1, _ => by simp at h1
theorem all2_vl0 : ∀ (zs : List Value), All2 (fun (s : SV) v => ∀ w U, s.R w U v) (zs.map Vl) zs
  | [] => trivial
  | z :: zs => ⟨fun _ _ => rfl, all2_vl0 zs⟩
theorem ox_makes {d : Nat} {t e : TypeId} {X Y : Operand} {k1 k2 : IntKind} {n c : Int} {α : Type} {K : Kd α} {z : α} {xs : List α} {zv : Value} {zs : List Value} {bytes : Nat} (hx : ev s.L X = some (Vl (.int k1 n))) (hy : ev s.L Y = some (Vl (.int k2 c)))
    (ha : mk bytes z n c = some xs) (hK : Nat.ble 1 K.size = true) (ht : P.underlying t = some (.slice e)) (hz : (P.info? e).map (fun i => (i.zero, i.size, i.bytes)) = some (some zv, K.size, bytes)) (hzc : zv.cells = ⟨zs⟩) (h1 : zs.all (·.oneCell') = true)
    (hze : All2 (fun (y : SV) v => ∀ w U, y.R w U v) (K.enc z) zs) (hd : dst = some d) (hn : Nat.ble (d + 1) s.n = true) :
    OX E P ⟨dst, .makeSlice t X Y, ty, pos, af, g⟩ 0 (fun g : Gs => { s with L := (d, Vl (Vs g)) :: s.L, H := Rw K e (Vs g) xs :: s.H }) s := fun Q a w U hs K' k => by
  unfold mk at ha
  split at ha
  case isFalse => cases ha
  rename_i hb
  cases ha
  obtain ⟨h0, hnc, hbytes, h63⟩ := hb
  have e1 : a.eval X = .int k1 n := look_ev hs hx
  have e2 : a.eval Y = .int k2 c := look_ev hs hy
  have hK1 := Nat.le_of_ble_eq_true hK
  cases hinfo : P.info? e with
  | none => rw [hinfo] at hz; simp at hz
  | some inf =>
    rw [hinfo] at hz; simp at hz
    obtain ⟨hz1, hz2, hz3⟩ := hz
    have hrun := run_make (P := P) w t e inf zv ht hinfo hz1 k1 k2 n c h0 hnc (by rw [hz3]; exact hbytes) (by omega)
    have hexec : (execOp a.eval ⟨dst, .makeSlice t X Y, ty, pos, af, g⟩).run P w = .ok (.value (.slice (some ⟨w.heap.size, 0, none⟩) n.toNat c.toNat)) (w.alloc (.cells (madeCells zv.cells (c.toNat * inf.size)) e)) := by
      simp [execOp, e1, e2, hrun]
    unfold Oper.wp
    rw [hexec]
    show K' (a.put dst _) _
    rw [hd]
    have hzl : zs.length = K.size := by rw [← K.len z]; exact (all2_len0 hze).symm
    have hm : (madeCells zv.cells (c.toNat * inf.size)).toList = (List.range (c.toNat * K.size)).map fun i => zs.getD (i % K.size) undef := by
      rw [hzc, hz2]
      simp only [madeCells, Array.toList_map, Array.toList_range]
      apply List.map_congr_left
      intro i hi
      have hlt : i % K.size < zs.length := by rw [hzl]; exact Nat.mod_lt _ hK1
      have hlt' : i % K.size < (⟨zs⟩ : Array Value).size := by simpa using hlt
      rw [show (⟨zs⟩ : Array Value).size = K.size from by simp [hzl], getElem!_pos (⟨zs⟩ : Array Value) (i % K.size) hlt']
      simp [hlt, List.getD]
    have hnc' : n.toNat ≤ c.toNat := by omega
    have hmul : n.toNat * K.size ≤ c.toNat * K.size := Nat.mul_le_mul_right _ hnc'
    have hall : All2 (fun s v => s.C w U v) ((List.replicate n.toNat z).flatMap K.enc) ((madeCells zv.cells (c.toNat * inf.size)).toList.take (n.toNat * K.size)) := by
      refine all2_get ?_ (fun j a b hj1 hj2 => ?_)
      · rw [flatMap_length, hm, List.length_take, List.length_map, List.length_range, List.length_replicate, Nat.min_eq_left hmul]
      · have hjl : j < n.toNat * K.size := by
          have := (List.getElem?_eq_some_iff.1 hj1).1
          rw [flatMap_length] at this
          simpa using this
        have hjm : j % K.size < zs.length := by rw [hzl]; exact Nat.mod_lt _ hK1
        have hje : j % K.size < (K.enc z).length := by rw [K.len]; exact Nat.mod_lt _ hK1
        have hq : j / K.size < n.toNat := Nat.div_lt_of_lt_mul (by rw [Nat.mul_comm]; exact hjl)
        have hfl := flatMap_get K (xs := List.replicate n.toNat z) (i := j / K.size) (x := z) (by simp [hq]) (j := j % K.size) (y := (K.enc z)[j % K.size]) (by rw [List.getElem?_eq_getElem])
        rw [show j / K.size * K.size + j % K.size = j from by rw [Nat.mul_comm]; exact Nat.div_add_mod j K.size] at hfl
        rw [hfl] at hj1
        cases hj1
        rw [hm] at hj2
        simp only [List.getElem?_take, hjl, if_true, List.getElem?_map] at hj2
        rw [List.getElem?_range (by omega)] at hj2
        simp at hj2
        have hb : b = zs[j % K.size] := by
          rw [← hj2]; simp [hjm]
        subst hb
        exact ⟨all2_at0 hze (List.getElem?_eq_getElem hje) (List.getElem?_eq_getElem hjm) _ _, (List.all_eq_true.1 h1) _ (List.getElem_mem hjm)⟩
    have hnew := hs.own_new (Rw K e (.slice (some ⟨w.heap.size, 0, none⟩) n.toNat c.toNat) (List.replicate n.toNat z)) (madeCells zv.cells (c.toNat * inf.size)) e (by simp [rw_blk, blkOf])
      (.inr ⟨w.heap.size, n.toNat, c.toNat, (madeCells zv.cells (c.toNat * inf.size)).toList.take (n.toNat * K.size), (madeCells zv.cells (c.toNat * inf.size)).toList.drop (n.toNat * K.size), rfl, by
          rw [List.take_append_drop]
          simp [Rw], all2_new _ hs.lt hall, by
          show ((List.replicate n.toNat z).flatMap K.enc).length = _
          rw [flatMap_length]; simp, by
          rw [List.take_append_drop, hm]; simp, hnc'⟩)
    exact k (some ⟨w.heap.size, 0, none⟩, n.toNat, c.toNat) _ _ ⟨U, hnew.put hn rfl⟩ (fun _ => ext_push _ _) (fun h => by cases h)

theorem ox_make {d : Nat} {t e : TypeId} {X Y : Operand} {k1 k2 : IntKind} {n c : Int} {α : Type} {K : Kd α} {z : α} {xs : List α} {zv : Value} {zs : List Value} {bytes : Nat} (hx : ev s.L X = some (Vl (.int k1 n))) (hy : ev s.L Y = some (Vl (.int k2 c)))
    (ha : mk bytes z n c = some xs) (hK : Nat.ble 1 K.size = true) (ht : P.underlying t = some (.slice e)) (hz : (P.info? e).map (fun i => (i.zero, i.size, i.bytes)) = some (some zv, K.size, bytes)) (hzc : zv.cells = ⟨zs⟩) (h1 : zs.all (·.oneCell') = true)
    (hze : K.enc z = zs.map Vl) (hd : dst = some d) (hn : Nat.ble (d + 1) s.n = true) :
    OX E P ⟨dst, .makeSlice t X Y, ty, pos, af, g⟩ 0 (fun g : Gs => { s with L := (d, Vl (Vs g)) :: s.L, H := Rw K e (Vs g) xs :: s.H }) s :=
  ox_makes hx hy ha hK ht hz hzc h1 (by rw [hze]; exact all2_vl0 zs) hd hn

/-! #### cuts -/
def cut {α : Type} (xs : List α) (lo hi : Int) : Option (List α) := if 0 ≤ lo ∧ lo ≤ hi ∧ hi ≤ xs.length then some ((xs.take hi.toNat).drop lo.toNat) else none

def cpy {α : Type} (xs ys : List α) : List α := ys.take xs.length ++ xs.drop ys.length

end
end Go.Sx
