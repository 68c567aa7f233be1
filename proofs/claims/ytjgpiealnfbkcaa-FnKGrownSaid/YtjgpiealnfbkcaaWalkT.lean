/-
  A walk through a tree that is told as a list of nodes: what it goes through, and that it ends. Plain; ours.
-/
import Derived.Test.YtjgpiealnfbkcaaSxV
namespace Go.Proofs.Ytjgpiealnfbkcaa
open Go.Sx
set_option linter.unusedVariables false
set_option linter.unusedSimpArgs false

def wk (n : Int) (sd : Int → Option (Int × Int)) : Nat → Int → Int → Int → Bool → List Bool → List Int → List Int → Option (Bool × List Bool × List Int × List Int)
  | 0, _, _, _, _, _, _, _ => none
  | k + 1, i, ab, d, ok, seen, ord, dep =>
    if i = -1 ∨ ok = false then some (ok, seen, ord, dep)
    else if i ≤ ab ∨ n ≤ i then some (false, seen, ord, dep)
    else (idx seen i) >>= fun b => if b = true then some (false, seen, ord, dep) else
      (sd i) >>= fun s => (wk n sd k s.1 i (iadd .i64 d 1) ok (seen.set i.toNat true) ord dep) >>= fun r =>
      (apd 8 r.2.2.1 [i]) >>= fun o => (apd 8 r.2.2.2 [d]) >>= fun e =>
      wk n sd k s.2 i (iadd .i64 d 1) r.1 r.2.1 o e

inductive Tr (c f : Nat → Int) (N : Nat) : Int → Int → List (Nat × Int) → Prop
  | nil (d : Int) : Tr c f N (-1) d []
  | node (i : Nat) (d : Int) {l1 l2 : List (Nat × Int)} (hi : i < N) (h1 : Tr c f N (c i) (iadd .i64 d 1) l1) (h2 : Tr c f N (f i) (iadd .i64 d 1) l2)
      (g1 : c i = -1 ∨ (i : Int) < c i) (g2 : f i = -1 ∨ (i : Int) < f i) : Tr c f N i d (l1 ++ (i, d) :: l2)

end Go.Proofs.Ytjgpiealnfbkcaa
