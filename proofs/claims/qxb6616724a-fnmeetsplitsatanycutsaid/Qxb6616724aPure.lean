/- The plain law: what two sorted lists share. -/
import Derived.Test.Qxb6616724aKept
namespace Go.Proofs.Qxb6616724a
open Go.RowKit

/-- the order of strings, by bytes -/
abbrev ltS (a b : ByteArray) : Prop := a.data.toList < b.data.toList

theorem ltS_irrefl (a : ByteArray) : ¬ ltS a a := List.lt_irrefl _
theorem leS_trans {a b c : ByteArray} (h1 : ¬ ltS b a) (h2 : ¬ ltS c b) : ¬ ltS c a := by
  have h1' : a.data.toList ≤ b.data.toList := List.not_lt.1 h1
  have h2' : b.data.toList ≤ c.data.toList := List.not_lt.1 h2
  exact List.not_lt.2 (List.le_trans h1' h2')
theorem leS_antisymm {a b : ByteArray} (h1 : ¬ ltS b a) (h2 : ¬ ltS a b) : a = b := by
  have h1' : a.data.toList ≤ b.data.toList := List.not_lt.1 h1
  have h2' : b.data.toList ≤ a.data.toList := List.not_lt.1 h2
  have := List.le_antisymm h1' h2'
  exact ByteArray.ext (Array.ext' this)

def Sorted (A : Nat → ByteArray) (n : Nat) : Prop := ∀ i j, i ≤ j → j < n → ¬ ltS (A j) (A i)
theorem sorted_of_steps {A : Nat → ByteArray} {n : Nat} (h : ∀ i, i + 1 < n → ¬ ltS (A (i + 1)) (A i)) : Sorted A n := by
  intro i j hij
  induction j with
  | zero =>
    intro _
    have : i = 0 := by omega
    subst this
    exact ltS_irrefl _
  | succ j ih =>
    intro hj
    by_cases e : i = j + 1
    · subst e; exact ltS_irrefl _
    · exact leS_trans (ih (by omega) (by omega)) (h j hj)
theorem Sorted.shift {A : Nat → ByteArray} {n : Nat} (h : Sorted A n) (k m : Nat) (hm : k + m ≤ n) : Sorted (fun j => A (k + j)) m := fun i j hij hj => h (k + i) (k + j) (by omega) (by omega)
theorem Sorted.front {A : Nat → ByteArray} {n : Nat} (h : Sorted A n) (m : Nat) (hm : m ≤ n) : Sorted A m := fun i j hij hj => h i j hij (by omega)

/-- a path in common -/
def common (A : Nat → ByteArray) (n : Nat) (B : Nat → ByteArray) (m : Nat) : Bool := (List.range n).any fun i => (List.range m).any fun j => decide (A i = B j)
theorem common_iff {A : Nat → ByteArray} {n : Nat} {B : Nat → ByteArray} {m : Nat} : common A n B m = true ↔ ∃ i, i < n ∧ ∃ j, j < m ∧ A i = B j := by simp [common]
theorem common_comm (A : Nat → ByteArray) (n : Nat) (B : Nat → ByteArray) (m : Nat) : common A n B m = common B m A n := by
  rw [Bool.eq_iff_iff, common_iff, common_iff]
  exact ⟨fun ⟨i, hi, j, hj, e⟩ => ⟨j, hj, i, hi, e.symm⟩, fun ⟨i, hi, j, hj, e⟩ => ⟨j, hj, i, hi, e.symm⟩⟩
theorem common_cut (A : Nat → ByteArray) (n : Nat) (B : Nat → ByteArray) (m k : Nat) (hk : k ≤ m) : common A n B m = (common A n B k || common A n (fun j => B (k + j)) (m - k)) := by
  rw [Bool.eq_iff_iff, Bool.or_eq_true, common_iff, common_iff, common_iff]
  constructor
  · rintro ⟨i, hi, j, hj, e⟩
    by_cases h : j < k
    · exact .inl ⟨i, hi, j, h, e⟩
    · exact .inr ⟨i, hi, j - k, by omega, by show A i = B (k + (j - k)); rw [e]; congr 1; omega⟩
  · rintro (⟨i, hi, j, hj, e⟩ | ⟨i, hi, j, hj, e⟩)
    · exact ⟨i, hi, j, by omega, e⟩
    · exact ⟨i, hi, k + j, by omega, e⟩
theorem common_zero (A : Nat → ByteArray) (n : Nat) (B : Nat → ByteArray) : common A n B 0 = false := by
  rw [Bool.eq_false_iff]
  intro h
  obtain ⟨_, _, j, hj, _⟩ := common_iff.1 h
  omega
theorem common_self (A : Nat → ByteArray) (n : Nat) (h : 0 < n) : common A n A n = true := common_iff.2 ⟨0, h, 0, h, rfl⟩

/-- what Meet says -/
def meets (cf : Nat → ByteArray) (ncf : Nat) (cd : Nat → ByteArray) (ncd : Nat) (cr : Nat → ByteArray) (ncr : Nat) (df : Nat → ByteArray) (ndf : Nat) (dd : Nat → ByteArray) (ndd : Nat) (dr : Nat → ByteArray) (ndr : Nat) : Bool :=
  common cf ncf df ndf || common cf ncf dd ndd || common cd ncd df ndf || common cr ncr dd ndd || common cd ncd dr ndr
theorem meets_cut (cf : Nat → ByteArray) (ncf : Nat) (cd : Nat → ByteArray) (ncd : Nat) (cr : Nat → ByteArray) (ncr : Nat) (df : Nat → ByteArray) (ndf : Nat) (dd : Nat → ByteArray) (ndd : Nat) (dr : Nat → ByteArray) (ndr : Nat) (i j k : Nat) (hi : i ≤ ndf) (hj : j ≤ ndd) (hk : k ≤ ndr) :
    meets cf ncf cd ncd cr ncr df ndf dd ndd dr ndr = (meets cf ncf cd ncd cr ncr df i dd j dr k || meets cf ncf cd ncd cr ncr (fun t => df (i + t)) (ndf - i) (fun t => dd (j + t)) (ndd - j) (fun t => dr (k + t)) (ndr - k)) := by
  unfold meets
  rw [common_cut cf ncf df ndf i hi, common_cut cf ncf dd ndd j hj, common_cut cd ncd df ndf i hi, common_cut cr ncr dd ndd j hj, common_cut cd ncd dr ndr k hk]
  simp only [Bool.or_assoc, Bool.or_comm, Bool.or_left_comm]
theorem meets_nil (cf : Nat → ByteArray) (ncf : Nat) (cd : Nat → ByteArray) (ncd : Nat) (cr : Nat → ByteArray) (ncr : Nat) (df dd dr : Nat → ByteArray) : meets cf ncf cd ncd cr ncr df 0 dd 0 dr 0 = false := by
  simp [meets, common_zero]
theorem meets_self (cf : Nat → ByteArray) (ncf : Nat) (cd : Nat → ByteArray) (ncd : Nat) (cr : Nat → ByteArray) (ncr : Nat) (h : 0 < ncf) : meets cf ncf cd ncd cr ncr cf ncf cd ncd cr ncr = true := by
  simp [meets, common_self cf ncf h]

/-- counting a falling property -/
theorem count_falling (q : Nat → Bool) : ∀ (m : Nat), (∀ a b, a ≤ b → b < m → q b = true → q a = true) → (List.range m).countP q ≤ m ∧ ∀ j, j < m → (q j = true ↔ j < (List.range m).countP q) := by
  intro m
  induction m with
  | zero => intro _; exact ⟨by simp, fun j hj => by omega⟩
  | succ m ih =>
    intro h
    obtain ⟨h1, h2⟩ := ih (fun a b hab hb => h a b hab (by omega))
    rw [List.range_succ, List.countP_append]
    cases hq : q m with
    | true =>
      have hall : (List.range m).countP q = m := by
        rcases Nat.lt_or_ge ((List.range m).countP q) m with hlt | hge
        · have := (h2 _ hlt).1 (h _ m (by omega) (by omega) hq)
          omega
        · omega
      simp only [List.countP_cons, hq, List.countP_nil, hall, if_true]
      refine ⟨by omega, fun j hj => ⟨fun _ => by omega, fun _ => h j m (by omega) (by omega) hq⟩⟩
    | false =>
      simp only [List.countP_cons, hq, List.countP_nil]
      refine ⟨by simp; omega, fun j hj => ?_⟩
      by_cases e : j = m
      · subst e
        simp [hq]
        omega
      · simpa using h2 j (by omega)

end Go.Proofs.Qxb6616724a
