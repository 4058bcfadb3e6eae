/- FnNumFilesInsertOne: the walk. -/
import Derived.Test.Qxb6617102aFiles
namespace Go.Proofs.Qxb6617102a
open Go.RowKit

/-- x put in at k -/
def ins (F : Nat → FileV) (k : Nat) (x : FileV) (j : Nat) : FileV := if j < k then F j else if j = k then x else F (j - 1)
theorem cnt_congr {F G : Nat → FileV} : ∀ {n : Nat}, (∀ j, j < n → F j = G j) → cnt F n = cnt G n
  | 0, _ => rfl
  | n + 1, h => by rw [cnt_succ, cnt_succ, h n (by omega), cnt_congr (fun j hj => h j (by omega))]
theorem cnt_ins (F : Nat → FileV) (k : Nat) (x : FileV) : ∀ (n : Nat), k ≤ n → cnt (ins F k x) (n + 1) = cnt F n + (if x.2.2.1 then 0 else 1)
  | n, hk => by
    by_cases e : k = n
    · subst e
      rw [cnt_succ, cnt_congr (G := F) (fun j hj => by simp [ins, hj])]
      simp [ins]
    · cases n with
      | zero => omega
      | succ n =>
        rw [cnt_succ (ins F k x) (n + 1), cnt_ins F k x n (by omega), cnt_succ F n]
        have : ins F k x (n + 1) = F n := by
          unfold ins
          rw [if_neg (by omega), if_neg (by omega)]
          rfl
        rw [this]
        omega

/-- behind k rounds of the first loop -/
def Af1 (F : Nat → FileV) (t u : Nat) : FileV := if u < t then F u else file0
/-- behind t rounds of the second loop -/
def Af2 (F : Nat → FileV) (k : Nat) (x : FileV) (t u : Nat) : FileV := if u < k then F u else if u = k then x else if u < k + 1 + t then F (u - 1) else file0
theorem af1_step (F : Nat → FileV) (t u : Nat) : (if u = t then F t else Af1 F t u) = Af1 F (t + 1) u := by
  unfold Af1
  by_cases e : u = t
  · subst e; simp
  · have : (u < t + 1) ↔ (u < t) := by omega
    simp [e, this]
theorem af2_start (F : Nat → FileV) (k : Nat) (x : FileV) (u : Nat) : (if u = k then x else Af1 F k u) = Af2 F k x 0 u := by
  unfold Af1 Af2
  by_cases e : u = k
  · subst e; simp
  · by_cases h : u < k
    · simp [e, h]
    · have : ¬ u < k + 1 + 0 := by omega
      simp [e, h, this]
theorem af2_step (F : Nat → FileV) (k : Nat) (x : FileV) (t u : Nat) : (if u = k + t + 1 then F (k + t) else Af2 F k x t u) = Af2 F k x (t + 1) u := by
  unfold Af2
  by_cases e : u = k + t + 1
  · subst e
    rw [if_pos rfl, if_neg (by omega), if_neg (by omega), if_pos (by omega)]
    rfl
  · have : (u < k + 1 + (t + 1)) ↔ (u < k + 1 + t) := by omega
    simp [e, this]
theorem af2_end (F : Nat → FileV) (k : Nat) (x : FileV) (n : Nat) (hk : k ≤ n) (u : Nat) (hu : u < n + 1) : Af2 F k x (n - k) u = ins F k x u := by
  unfold Af2 ins
  by_cases h : u < k
  · simp [h]
  · by_cases e : u = k
    · simp [e]
    · rw [if_neg h, if_neg e, if_pos (by omega), if_neg h, if_neg e]

end Go.Proofs.Qxb6617102a
