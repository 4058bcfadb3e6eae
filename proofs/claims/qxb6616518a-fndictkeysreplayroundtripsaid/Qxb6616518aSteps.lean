/- Small steps that the laws share. -/
import Derived.Test.Qxb6616518aFeed
namespace Go.Proofs.Qxb6616518a
open Go.RowKit Go.Maps
open Pl (fk lv hk hist)

theorem Script.take {w : World} {a : Option Addr} {n m : Nat} {K : Nat → ByteArray} {V : Nat → Int} (h : Script w a n K V) (hm : m ≤ n) : Script w a m K V := by
  rcases h with h | ⟨b, off, rfl, h1, h2, h3⟩
  · exact .inl (by omega)
  · exact .inr ⟨b, off, rfl, fun j hj => h1 j (by omega), fun j hj => h2 j (by omega), fun j hj => h3 j (by omega)⟩

/-- what has turned since w: blocks from B on -/
abbrev Lo (B : Nat) (w w' : World) : Prop := Kept (fun i => B ≤ i) w w'
theorem Dict.foot_lt {B : Nat} {w : World} {db mb : Nat} {v : Value} {L : List (ByteArray × Int)} (h : Dict B w db mb v L) : ∀ i, Foot db mb v i → i < w.heap.size := by
  rintro i (rfl | rfl | e)
  · exact lt_of_block h.box
  · obtain ⟨es, c, hm⟩ := h.map.block; exact lt_of_block hm
  · exact (h.row.lt i e.symm).2
theorem run_tail (a : Option Addr) (n c m : Nat) (hm : m ≤ n) (w : World) : (Instr.slice 22 (.slice a n c) (some (.int .i64 m)) none none).run Try.prog w = .ok (.slice (if c = m then a else a.map (·.add (m * 2))) (n - m) (c - m)) w := by
  rw [run_slice_l (P := Try.prog) w 22 a n c Try.underlying22 .i64 m (by omega) (by omega)]
  have : (sizeOf (Try.prog.elem 22)).run Try.prog w = .ok 2 w := by kernel_rfl
  rw [this]
  simp [Result.andThen, sliced]

theorem Script.drop {w : World} {a : Option Addr} {n c m : Nat} {K : Nat → ByteArray} {V : Nat → Int} (h : Script w a n K V) (hm : m ≤ n) (hc : n ≤ c) :
    Script w (if c = m then a else a.map (·.add (m * 2))) (n - m) (fun j => K (m + j)) (fun j => V (m + j)) := by
  rcases h with h | ⟨b, off, rfl, h1, h2, h3⟩
  · exact .inl (by omega)
  · by_cases e : c = m
    · exact .inl (by omega)
    · rw [if_neg e]
      refine .inr ⟨b, off + m * 2, ?_, fun j hj => ?_, fun j hj => ?_, fun j hj => h3 (m + j) (by omega)⟩
      · unfold Addr.add; simp
      · have := h1 (m + j) (by omega); rw [Nat.add_mul] at this; simpa [Nat.add_assoc] using this
      · have := h2 (m + j) (by omega); rw [Nat.add_mul] at this; simpa [Nat.add_assoc] using this
theorem drop_lo {B : Nat} {a : Option Addr} {n c m : Nat} (h : n ≠ 0 → ∀ x, a = some x → x.block < B) : n - m ≠ 0 → ∀ x, (if c = m then a else a.map (·.add (m * 2))) = some x → x.block < B := by
  intro h0 x hx
  have h := h (by omega)
  split at hx
  · exact h x hx
  · cases a with
    | none => cases hx
    | some y =>
      simp at hx
      have := h y rfl
      rw [← hx]
      unfold Addr.add
      split <;> exact this
theorem Lo.script {B : Nat} {w w' : World} {a : Option Addr} {n : Nat} {K : Nat → ByteArray} {V : Nat → Int} (h : Lo B w w') (hs : Script w a n K V) (ha : n ≠ 0 → ∀ x, a = some x → x.block < B) : Script w' a n K V :=
  hs.kept h (fun h0 x hx e => by have := ha h0 x hx; omega)

theorem firsts_strs {w w1 : World} {g c : Nat} {ks : List ByteArray} (h : Firsts w w1 (.slice (some ⟨g, 0, none⟩) ks.length c) ks) : Strs w1 (some ⟨g, 0, none⟩) ks := by
  obtain ⟨a, c', e, hs, _⟩ := strs_of_owns h.1
  cases e
  exact hs
theorem strs_cell {w : World} {g : Nat} {ks : List ByteArray} {j : Nat} (h : Strs w (some ⟨g, 0, none⟩) ks) (hj : j < ks.length) : w.cell? ⟨g, j, none⟩ = some (.string (ks.getD j ByteArray.empty)) := by
  rcases h with h | ⟨b, off, e, h⟩
  · subst h; simp at hj
  · cases e
    simpa using h j hj

end Go.Proofs.Qxb6616518a
