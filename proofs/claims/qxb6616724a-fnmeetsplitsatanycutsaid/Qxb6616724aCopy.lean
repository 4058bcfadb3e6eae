/- The copies; the makers. -/
import Derived.Test.Qxb6616724aMeet
import Derived.Deep.OwnRows
import Derived.Laws.CopyRow
namespace Go.Proofs.Qxb6616724a
open Go.RowKit

theorem Try.info9 : (Try.prog.info? 9).map (fun i => (i.zero, i.size, i.bytes)) = some (some (.string ByteArray.empty), 1, 16) := by kernel_rfl
theorem Try.size9 : (Try.prog.info? 9).map (·.size) = some 1 := by kernel_rfl

abbrev strs (A : Nat → ByteArray) (n : Nat) : List Value := (List.range n).map fun j => .string (A j)
/-- the world behind make and copy -/
def copied (w : World) (n : Nat) (A : Nat → ByteArray) : World := (w.alloc (.cells (madeCells #[.string ByteArray.empty] n) 9)).setRow w.heap.size (strs A n).toArray

theorem addr_plain (b off j : Nat) : (⟨b, off, none⟩ : Addr).add j = ⟨b, off + j, none⟩ := by unfold Addr.add; split <;> simp_all

theorem copy_run (w : World) (a : Addr) (n c : Nat) (A : Nat → ByteArray) (h : Row w (some a) n A) (ty : TypeId) :
    (Builtin.copy_ #[22, 22] ty #[.slice (some ⟨w.heap.size, 0, none⟩) n n, .slice (some a) n c]).run Try.prog (w.alloc (.cells (madeCells #[.string ByteArray.empty] n) 9)) = .ok (goInt n) (copied w n A) := by
  have hsrc : ∀ j v, (strs A n)[j]? = some v → (w.alloc (.cells (madeCells #[.string ByteArray.empty] n) 9)).cell? (a.add j) = some v := by
    intro j v hv
    obtain ⟨hj, he⟩ := List.getElem?_eq_some_iff.1 hv
    simp at hj he
    obtain ⟨b, off, e, hc⟩ := h.at (by omega)
    cases e
    rw [addr_plain]
    have k : Kept (fun _ => False) w (w.alloc (.cells (madeCells #[.string ByteArray.empty] n) 9)) := (Kept.refl _ w).alloc _
    rw [k.cell (hc j hj) (fun e => e), he]
  have hr := run_copy_row Try.prog (w.alloc (.cells (madeCells #[.string ByteArray.empty] n) 9)) 22 22 ty 9 w.heap.size 0 n n a n c (madeCells #[.string ByteArray.empty] n) 9 (strs A n) Try.underlying22 Try.size9 (heap_alloc_new w _)
    (by simp) hsrc (by simp [size_madeCells]) (by intro v hv; simp at hv; obtain ⟨j, _, rfl⟩ := hv; rfl)
  rw [hr]
  have hd : List.drop (0 + (strs A n).length) (madeCells #[.string ByteArray.empty] n).toList = [] := List.drop_eq_nil_of_le (by simp [size_madeCells])
  rw [hd]
  simp [copied]

theorem copied_blk (w : World) (n : Nat) (A : Nat → ByteArray) : (copied w n A).heap[w.heap.size]? = some (.cells (strs A n).toArray 9 (0, 0)) := setRow_heap _ _ _ _ _ _ (heap_alloc_new w _)
theorem copied_row (w : World) (n : Nat) (A : Nat → ByteArray) : Row (copied w n A) (some ⟨w.heap.size, 0, none⟩) n A := .inr ⟨_, _, rfl, fun j hj => by rw [blk_cell (copied_blk w n A)]; simp [hj]⟩
theorem copied_kept (w : World) (n : Nat) (A : Nat → ByteArray) : Kept (fun _ => False) w (copied w n A) := by
  have k : Kept (fun _ => False) w (w.alloc (.cells (madeCells #[.string ByteArray.empty] n) 9)) := (Kept.refl _ w).alloc _
  refine ⟨k.os, k.tape, k.output, ?_, fun i hi hn => ?_⟩
  · have := k.size
    simp [copied, World.setRow]
  · rw [← k.block i hi hn]
    have hne : w.heap.size ≠ i := by omega
    simp [copied, World.setRow, Array.getElem?_modify, hne]

set_option maxHeartbeats 400000 in
theorem new_any (v0 v1 v2 : Value) (a0 a1 a2 : Option Addr) (n0 c0 n1 c1 n2 c2 : Nat) (w : World) (h0 : v0 = .slice a0 n0 c0) (h1 : v1 = .slice a1 n1 c1) (h2 : v2 = .slice a2 n2 c2) :
    Calls Try.prog 8 #[v0, v1, v2] w fun e w' => e = .returned (.agg #[v0, v1, v2]) ∧ w' = w.alloc (.cells #[v0, v1, v2] 25) := by
  subst h0 h1 h2
  go_enter Try.func8, Try.ntmps8
  go_wp2
  refine bodyPost_ret (v := .agg #[.slice a0 n0 c0, .slice a1 n1 c1, .slice a2 n2 c2]) ?_ rfl ⟨rfl, rfl⟩
  simp [results, Try.results8, go_sem]

end Go.Proofs.Qxb6616724a
