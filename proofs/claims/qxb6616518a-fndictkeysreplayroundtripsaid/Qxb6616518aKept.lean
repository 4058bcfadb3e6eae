/- Small words on worlds: what a call may have turned; rows of strings and scripts that lie in memory. -/
import Derived.WalkKit
import Derived.WalkSpells
import Derived.WalkLawsBesides
import Derived.Maps.OwnSet
import Derived.Deep.AppendLies
import Derived.Deep.Draws
import Derived.Test.Qxb6616518aPure
namespace Go.Proofs.Qxb6616518a
open Go.RowKit

theorem hide {p : Prop} (h : p) : Hid p := h
theorem unhide {p : Prop} (h : Hid p) : p := h

/-- w' is w but for the blocks in F and for new blocks. -/
structure Kept (F : Nat → Prop) (w w' : World) : Prop where
  os : w'.os = w.os
  tape : w'.tape = w.tape
  output : w'.output = w.output
  size : w.heap.size ≤ w'.heap.size
  block : ∀ i, i < w.heap.size → ¬ F i → w'.heap[i]? = w.heap[i]?

theorem Kept.refl (F : Nat → Prop) (w : World) : Kept F w w := ⟨rfl, rfl, rfl, Nat.le_refl _, fun _ _ _ => rfl⟩
theorem Kept.trans {F G : Nat → Prop} {a b c : World} (h : Kept F a b) (k : Kept G b c) (hs : ∀ i, i < a.heap.size → G i → F i) : Kept F a c :=
  ⟨k.os.trans h.os, k.tape.trans h.tape, k.output.trans h.output, Nat.le_trans h.size k.size,
    fun i hi hn => (k.block i (Nat.lt_of_lt_of_le hi h.size) (fun g => hn (hs i hi g))).trans (h.block i hi hn)⟩
theorem Kept.mono {F G : Nat → Prop} {a b : World} (h : Kept F a b) (hs : ∀ i, i < a.heap.size → F i → G i) : Kept G a b :=
  ⟨h.os, h.tape, h.output, h.size, fun i hi hn => h.block i hi (fun g => hn (hs i hi g))⟩
theorem Kept.drewN {F : Nat → Prop} {a b : World} (h : Kept F a b) (n : Nat) : Kept F a (b.drewN n) := ⟨h.os, h.tape, h.output, h.size, h.block⟩
theorem Kept.drew {F : Nat → Prop} {a b : World} (h : Kept F a b) : Kept F a b.drew := ⟨h.os, h.tape, h.output, h.size, h.block⟩
theorem Kept.ofDrewN (F : Nat → Prop) (w : World) (n : Nat) : Kept F w (w.drewN n) := (Kept.refl F w).drewN n
theorem Kept.alloc {F : Nat → Prop} {a b : World} (h : Kept F a b) (o : Obj) : Kept F a (b.alloc o) :=
  ⟨h.os, h.tape, h.output, by have := h.size; simp; omega, fun i hi hn => (Below.heap_alloc b o i (by have := h.size; omega)).trans (h.block i hi hn)⟩
theorem Kept.setCell {F : Nat → Prop} {a b : World} (h : Kept F a b) {p : Addr} (hp : p.block < a.heap.size → F p.block) (u : Value) : Kept F a (b.setCell p u) :=
  ⟨h.os, h.tape, h.output, by have := h.size; simp [World.setCell]; omega, fun i hi hn => (Below.heap_setCell b p u i (fun e => hn (e ▸ hp (e ▸ hi)))).trans (h.block i hi hn)⟩
theorem Kept.grown {F : Nat → Prop} {a b c : World} {row : Option Nat} (h : Kept F a b) (hg : b.grownBy c row) (hs : ∀ i, i < a.heap.size → some i = row → F i) : Kept F a c :=
  ⟨hg.os.trans h.os, hg.tape.trans h.tape, hg.output.trans h.output, Nat.le_trans h.size hg.size,
    fun i hi hn => (hg.block i (Nat.lt_of_lt_of_le hi h.size) (fun e => hn (hs i hi e))).trans (h.block i hi hn)⟩
theorem Kept.cell {F : Nat → Prop} {w w' : World} (h : Kept F w w') {a : Addr} {v : Value} (hc : w.cell? a = some v) (hn : ¬ F a.block) : w'.cell? a = some v :=
  (World.cell?_of_block (h.block a.block (World.block_lt_of_cell? w a hc) hn)).trans hc
theorem Kept.below {F : Nat → Prop} {w w' : World} {B : Nat} (h : Kept F w w') (hB : B ≤ w.heap.size) (hF : ∀ i, F i → B ≤ i) : Below B w w' :=
  ⟨h.os, h.tape, h.output, h.size, fun i hi => h.block i (by omega) (fun g => by have := hF i g; omega)⟩

/-- A slice at a, of the strings ks. -/
def Strs (w : World) (a : Option Addr) (ks : List ByteArray) : Prop :=
  ks = [] ∨ ∃ b off, a = some ⟨b, off, none⟩ ∧ ∀ j, j < ks.length → w.cell? ⟨b, off + j, none⟩ = some (.string (ks.getD j ByteArray.empty))

theorem Strs.kept {F : Nat → Prop} {w w' : World} {a : Option Addr} {ks : List ByteArray} (h : Strs w a ks) (k : Kept F w w') (hn : ∀ x, a = some x → ¬ F x.block) : Strs w' a ks := by
  rcases h with h | ⟨b, off, rfl, h⟩
  · exact .inl h
  · exact .inr ⟨b, off, rfl, fun j hj => k.cell (h j hj) (hn ⟨b, off, none⟩ rfl)⟩
theorem Strs.drewN {w : World} {a : Option Addr} {ks : List ByteArray} (h : Strs w a ks) (n : Nat) : Strs (w.drewN n) a ks := h

theorem strs_of_owns {w : World} {base n : Nat} {v : Value} {ks : List ByteArray} (h : w.ownsRow base 9 1 v n (ks.map Value.string)) :
    ∃ a c, v = .slice a ks.length c ∧ Strs w a ks ∧ v.ownBlock = a.map (·.block) := by
  have hl : ks.length = n := by simpa using h.1
  subst hl
  rcases h.2 with ⟨rfl, h0⟩ | ⟨g, cap, cur, rfl, hb, hg, _⟩
  · have e : ks = [] := List.eq_nil_of_length_eq_zero h0
    subst e
    exact ⟨none, 0, rfl, .inl rfl, rfl⟩
  · refine ⟨some ⟨g, 0, none⟩, cap, rfl, .inr ⟨g, 0, rfl, fun j hj => ?_⟩, rfl⟩
    have hc := h.cells (g := g) rfl j (.string (ks.getD j ByteArray.empty)) (by simp [hj])
    have hadd : (⟨g, 0, none⟩ : Addr).add j = ⟨g, 0 + j, none⟩ := by unfold Addr.add; split <;> simp_all
    rwa [hadd] at hc

/-- A slice at a, of n calls: keys K, values V. -/
def Script (w : World) (a : Option Addr) (n : Nat) (K : Nat → ByteArray) (V : Nat → Int) : Prop :=
  n = 0 ∨ ∃ b off, a = some ⟨b, off, none⟩ ∧ (∀ j, j < n → w.cell? ⟨b, off + j * 2, none⟩ = some (.string (K j))) ∧ (∀ j, j < n → w.cell? ⟨b, off + j * 2 + 1, none⟩ = some (.int .i64 (V j))) ∧ (∀ j, j < n → (K j).size ≤ maxLen)

theorem Script.kept {F : Nat → Prop} {w w' : World} {a : Option Addr} {n : Nat} {K : Nat → ByteArray} {V : Nat → Int} (h : Script w a n K V) (k : Kept F w w') (hn : n ≠ 0 → ∀ x, a = some x → ¬ F x.block) : Script w' a n K V := by
  by_cases h0 : n = 0
  · exact .inl h0
  have hn := hn h0
  rcases h with h | ⟨b, off, rfl, h1, h2, h3⟩
  · exact .inl h
  · exact .inr ⟨b, off, rfl, fun j hj => k.cell (h1 j hj) (hn ⟨b, off, none⟩ rfl), fun j hj => k.cell (h2 j hj) (hn ⟨b, off, none⟩ rfl), h3⟩

theorem str_eq {a b : ByteArray} (h : (a.toList == b.toList) = true) : a = b := by
  rw [beq_iff_eq, ByteArray.toList_eq, ByteArray.toList_eq] at h
  exact Go.WideShapes.bytes_inj h
theorem str_ne {a b : ByteArray} (h : (a.toList == b.toList) = false) : a ≠ b := by
  rintro rfl
  simp at h
theorem str_beq {a b : ByteArray} (h : a = b) : (a.toList == b.toList) = true := by subst h; simp
theorem str_bne {a b : ByteArray} (h : a ≠ b) : (a.toList == b.toList) = false := by
  cases e : (a.toList == b.toList) with
  | false => rfl
  | true => exact absurd (str_eq e) h

end Go.Proofs.Qxb6616518a
