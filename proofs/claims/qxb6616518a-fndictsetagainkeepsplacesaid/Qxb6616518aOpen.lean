/- The script as an argument, opened. -/
import Derived.Test.Qxb6616518aRows
import Derived.Test.Qxb6616518aSteps
import Derived.ProofKit
import Derived.OpenShut
import Derived.ShutString
import Derived.ChangeOld
import Derived.Deep.SlicePairs
namespace Go.Proofs.Qxb6616518a
open Go.ChangeShapes Go.WideShapes Go.ChangeAt Go.RowKit

theorem Try.own : ownKnob Try.prog.godebug = none := by kernel_rfl
theorem Try.laidOut : laidOutB Try.prog = true := by kernel_rfl
theorem Try.cells33 : Try.prog.cellsOf 33 = 2 := by kernel_rfl

theorem open_script {H : Type} {enc : TypeId × Value → H} {W : World} {fuel : Nat} {a : Option Addr} {n c : Nat} {x : DataW H × List MemPlace}
    (h : DataW.trod enc Try.prog W 0 (fun _ => true) true fuel 22 [.slice a n c] = some x) :
    ∃ (K : Nat → ByteArray) (V : Nat → Int), Script W a n K V ∧ n ≤ c ∧ c ≤ maxLen ∧ (n ≠ 0 → ∀ x, a = some x → x.block < W.heap.size) := by
  rcases Go.Deep.open_slice_pairs Try.underlying22 Try.underlying33 Try.cells33 rfl rfl (by kernel_rfl) (by kernel_rfl) h with ⟨hcs, _⟩ | ⟨ad, len, cap, m, k, V0, V1, D0, D1, P0, P1, hcs, _, hl, hm, hmm, _, hx⟩
  · simp at hcs
    obtain ⟨rfl, rfl, rfl⟩ := hcs
    exact ⟨fun _ => ByteArray.empty, fun _ => 0, .inl rfl, Nat.le_refl _, Nat.zero_le _, fun h => absurd rfl h⟩
  · simp at hcs
    obtain ⟨rfl, rfl, rfl⟩ := hcs
    simp only [if_true] at hmm
    rw [hmm] at hx
    clear hmm
    by_cases h0 : n = 0
    · subst h0
      exact ⟨fun _ => ByteArray.empty, fun _ => 0, .inl rfl, Nat.zero_le _, hm, fun h => absurd rfl h⟩
    obtain ⟨b, off, spot⟩ := ad
    have hspot : spot = none := by simpa [Addr.add] using World.cell?_spot (hx 0 (by omega)).1
    subst hspot
    have each : ∀ i, i < c → ∃ q : ByteArray × Int, V0 i = .string q.1 ∧ V1 i = .int .i64 q.2 ∧ q.1.size ≤ maxLen := by
      intro i hi
      obtain ⟨_, _, t0, t1⟩ := hx i hi
      obtain ⟨s, e0, _, hs⟩ := DataW.trod_string Try.underlying9 t0
      obtain ⟨z, e1, _, _⟩ := DataW.trod_int Try.underlying3 t1
      simp at e0 e1
      exact ⟨(s, z), e0, e1, hs⟩
    obtain ⟨q, hq⟩ := Go.Deep.choose_lt each
    refine ⟨fun i => (q i).1, fun i => (q i).2, .inr ⟨b, off, rfl, fun j hj => ?_, fun j hj => ?_, fun j hj => (hq j (by omega)).2.2⟩, hl, hm, fun _ y hy => ?_⟩
    · rw [← (hq j (by omega)).1, ← (hx j (by omega)).1, add_plain]
    · rw [← (hq j (by omega)).2.1, ← (hx j (by omega)).2.1, add_plain, Nat.add_assoc]
    · cases hy
      have := World.block_lt_of_cell? _ _ (hx 0 (by omega)).1
      simpa [Addr.add] using this

end Go.Proofs.Qxb6616518a
