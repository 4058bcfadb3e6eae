/- Sums with wrap: no Go in sight. -/
import Derived.Test.Qxb6617102aFiles
namespace Go.Proofs.Qxb6617102a
open Go.RowKit

/-- the sum of the first j, wrapped at each step -/
def pre (G : Nat → Int) : Nat → Int
  | 0 => 0
  | j + 1 => wrap64 (pre G j + G j)
theorem pre_succ (G : Nat → Int) (j : Nat) : pre G (j + 1) = wrap64 (pre G j + G j) := rfl
theorem pre_in (G : Nat → Int) : ∀ j, (-9223372036854775808 : Int) ≤ pre G j ∧ pre G j ≤ 9223372036854775807
  | 0 => by simp [pre]
  | j + 1 => by
    rw [pre_succ]
    unfold wrap64
    omega
theorem pre_step (G : Nat → Int) (j : Nat) (h : (-9223372036854775808 : Int) ≤ G j ∧ G j ≤ 9223372036854775807) : wrap64 (pre G (j + 1) - pre G j) = G j := by
  rw [pre_succ]
  generalize pre G j = a at *
  generalize G j = b at *
  unfold wrap64
  omega
theorem pre_congr {G G' : Nat → Int} : ∀ {j : Nat}, (∀ t, t < j → G t = G' t) → pre G j = pre G' j
  | 0, _ => rfl
  | j + 1, h => by rw [pre_succ, pre_succ, h j (by omega), pre_congr (fun t ht => h t (by omega))]
theorem pre_cut (G : Nat → Int) (k : Nat) : ∀ m, pre G (k + m) = wrap64 (pre G k + pre (fun t => G (k + t)) m)
  | 0 => by
    have h := pre_in G k
    show pre G k = wrap64 (pre G k + 0)
    unfold wrap64
    omega
  | m + 1 => by
    rw [show k + (m + 1) = (k + m) + 1 by omega, pre_succ, pre_cut G k m, pre_succ]
    generalize pre G k = a
    generalize pre (fun t => G (k + t)) m = b
    generalize G (k + m) = c
    unfold wrap64
    omega
end Go.Proofs.Qxb6617102a
