/- Small words on worlds: what a call may have turned. -/
import Derived.WalkKit
import Derived.WalkSpells
import Derived.WalkLawsBesides
import Derived.Maps.OwnSet
import Derived.Deep.AppendLies
import Derived.Deep.Draws
namespace Go.Proofs.Qxb6617102a
open Go.RowKit

theorem hide {p : Prop} (h : p) : Hid p := h
theorem unhide {p : Prop} (h : Hid p) : p := h

/-- w' is w but for the blocks in F and for new blocks. -/
structure Kept (F : Nat → Prop) (w w' : World) : Prop where
  os : w'.os = w.os
  tape : w'.tape = w.tape
  output : w'.output = w.output
  size : w.heap.size ≤ w'.heap.size
  block : ∀ i, i < w.heap.size → ¬ F i → w'.heap[i]? = w.heap[i]?

theorem Kept.refl (F : Nat → Prop) (w : World) : Kept F w w := ⟨rfl, rfl, rfl, Nat.le_refl _, fun _ _ _ => rfl⟩
theorem Kept.trans {F G : Nat → Prop} {a b c : World} (h : Kept F a b) (k : Kept G b c) (hs : ∀ i, i < a.heap.size → G i → F i) : Kept F a c :=
  ⟨k.os.trans h.os, k.tape.trans h.tape, k.output.trans h.output, Nat.le_trans h.size k.size,
    fun i hi hn => (k.block i (Nat.lt_of_lt_of_le hi h.size) (fun g => hn (hs i hi g))).trans (h.block i hi hn)⟩
theorem Kept.mono {F G : Nat → Prop} {a b : World} (h : Kept F a b) (hs : ∀ i, i < a.heap.size → F i → G i) : Kept G a b :=
  ⟨h.os, h.tape, h.output, h.size, fun i hi hn => h.block i hi (fun g => hn (hs i hi g))⟩
theorem Kept.drewN {F : Nat → Prop} {a b : World} (h : Kept F a b) (n : Nat) : Kept F a (b.drewN n) := ⟨h.os, h.tape, h.output, h.size, h.block⟩
theorem Kept.drew {F : Nat → Prop} {a b : World} (h : Kept F a b) : Kept F a b.drew := ⟨h.os, h.tape, h.output, h.size, h.block⟩
theorem Kept.ofDrewN (F : Nat → Prop) (w : World) (n : Nat) : Kept F w (w.drewN n) := (Kept.refl F w).drewN n
theorem Kept.alloc {F : Nat → Prop} {a b : World} (h : Kept F a b) (o : Obj) : Kept F a (b.alloc o) :=
  ⟨h.os, h.tape, h.output, by have := h.size; simp; omega, fun i hi hn => (Below.heap_alloc b o i (by have := h.size; omega)).trans (h.block i hi hn)⟩
theorem Kept.setCell {F : Nat → Prop} {a b : World} (h : Kept F a b) {p : Addr} (hp : p.block < a.heap.size → F p.block) (u : Value) : Kept F a (b.setCell p u) :=
  ⟨h.os, h.tape, h.output, by have := h.size; simp [World.setCell]; omega, fun i hi hn => (Below.heap_setCell b p u i (fun e => hn (e ▸ hp (e ▸ hi)))).trans (h.block i hi hn)⟩
theorem Kept.grown {F : Nat → Prop} {a b c : World} {row : Option Nat} (h : Kept F a b) (hg : b.grownBy c row) (hs : ∀ i, i < a.heap.size → some i = row → F i) : Kept F a c :=
  ⟨hg.os.trans h.os, hg.tape.trans h.tape, hg.output.trans h.output, Nat.le_trans h.size hg.size,
    fun i hi hn => (hg.block i (Nat.lt_of_lt_of_le hi h.size) (fun e => hn (hs i hi e))).trans (h.block i hi hn)⟩
theorem Kept.cell {F : Nat → Prop} {w w' : World} (h : Kept F w w') {a : Addr} {v : Value} (hc : w.cell? a = some v) (hn : ¬ F a.block) : w'.cell? a = some v :=
  (World.cell?_of_block (h.block a.block (World.block_lt_of_cell? w a hc) hn)).trans hc
theorem Kept.below {F : Nat → Prop} {w w' : World} {B : Nat} (h : Kept F w w') (hB : B ≤ w.heap.size) (hF : ∀ i, F i → B ≤ i) : Below B w w' :=
  ⟨h.os, h.tape, h.output, h.size, fun i hi => h.block i (by omega) (fun g => by have := hF i g; omega)⟩

theorem Kept.turned {F : Nat → Prop} {a b c : World} {mb : Nat} (h : Kept F a b) (ht : b.mapTurned c mb) (hm : F mb) : Kept F a c :=
  h.grown ht.grown (fun i _ e => by cases e; exact hm)
theorem Kept.blk {F : Nat → Prop} {w w' : World} (h : Kept F w w') {i : Nat} {o : Obj} (hb : w.heap[i]? = some o) (hn : ¬ F i) : w'.heap[i]? = some o :=
  (h.block i (lt_of_block hb) hn).trans hb

/-- a block behind a store into it -/
theorem blk_set {w : World} {b : Nat} {cs : Array Value} {t : TypeId} (h : w.heap[b]? = some (.cells cs t (0, 0))) (k : Nat) (x : Value) : (w.setCell ⟨b, k, none⟩ x).heap[b]? = some (.cells (cs.setIfInBounds k x) t (0, 0)) := by
  simp [World.setCell, Array.getElem?_modify, h]
theorem blk_other {w : World} {b : Nat} {o : Obj} (h : w.heap[b]? = some o) {a : Addr} (hn : b ≠ a.block) (x : Value) : (w.setCell a x).heap[b]? = some o :=
  (Below.heap_setCell w a x b hn).trans h
theorem blk_cell {w : World} {b : Nat} {cs : Array Value} {t : TypeId} (h : w.heap[b]? = some (.cells cs t (0, 0))) (k : Nat) : w.cell? ⟨b, k, none⟩ = cs[k]? := by simp [World.cell?, h]
theorem blk_free {w : World} {b : Nat} {cs : Array Value} {t : TypeId} (h : w.heap[b]? = some (.cells cs t (0, 0))) (k : Nat) : w.frozen? ⟨b, k, none⟩ = false := by simp [World.frozen?, h]

end Go.Proofs.Qxb6617102a
