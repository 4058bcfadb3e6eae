/- The rows' arguments, opened. -/
import Derived.Test.Qxb6617102aFiles
import Derived.ProofKit
import Derived.OpenShut
import Derived.ShutString
import Derived.ChangeOld
import Derived.ChangeSlices
import Derived.SliceStrings
import Derived.Deep.Slices
namespace Go.Proofs.Qxb6617102a
open Go.ChangeShapes Go.WideShapes Go.ChangeAt Go.RowKit

theorem Try.own : ownKnob Try.prog.godebug = none := by kernel_rfl
theorem Try.laidOut : laidOutB Try.prog = true := by kernel_rfl
theorem Try.cells9 : Try.prog.cellsOf 9 = 1 := by kernel_rfl
theorem Try.cells2 : Try.prog.cellsOf 2 = 1 := by kernel_rfl
theorem Try.cells4 : Try.prog.cellsOf 4 = 1 := by kernel_rfl
theorem addr_plain (b off j : Nat) : (⟨b, off, none⟩ : Addr).add j = ⟨b, off + j, none⟩ := by unfold Addr.add; split <;> simp_all

section
variable {H : Type} {enc : TypeId × Value → H} {W : World} {fuel : Nat} {a : Option Addr} {n c : Nat} {x : DataW H × List MemPlace}

theorem open_row (h : DataW.trod enc Try.prog W 0 (fun _ => true) true fuel 23 [.slice a n c] = some x) : ∃ A : Nat → ByteArray, Row W a n A := by
  rcases open_strings Try.underlying23 Try.underlying9 Try.cells9 h with ⟨hcs, _⟩ | ⟨ad, len, cap, ss, hcs, _, hl, hm, hlen, _, hx, _⟩
  · simp at hcs
    obtain ⟨rfl, rfl, rfl⟩ := hcs
    exact ⟨fun _ => ByteArray.empty, .inl rfl⟩
  · simp at hcs
    obtain ⟨rfl, rfl, rfl⟩ := hcs
    simp only [if_true] at hlen
    rw [hlen] at hx
    by_cases h0 : n = 0
    · exact ⟨fun _ => ByteArray.empty, .inl h0⟩
    obtain ⟨b, off, spot⟩ := ad
    have hspot : spot = none := by simpa [Addr.add] using World.cell?_spot (hx 0 (by omega))
    subst hspot
    exact ⟨fun i => ss.getD i ByteArray.empty, .inr ⟨b, off, rfl, fun j hj => by rw [← hx j (by omega), addr_plain]⟩⟩

theorem open_nums (h : DataW.trod enc Try.prog W 0 (fun _ => true) true fuel 24 [.slice a n c] = some x) :
    ∃ L : Nat → Int, Sl W a n (fun j => .int .i64 (L j)) ∧ (a = none → n = 0 ∧ c = 0) ∧ ∀ j, j < n → (-9223372036854775808 : Int) ≤ L j ∧ L j ≤ 9223372036854775807 := by
  rcases open_ints Try.underlying24 Try.underlying2 Try.cells2 h with ⟨hcs, _⟩ | ⟨ad, len, cap, zs, hcs, _, hl, hm, hlen, _, hx, hwf⟩
  · simp at hcs
    obtain ⟨rfl, rfl, rfl⟩ := hcs
    exact ⟨fun _ => 0, .inl rfl, fun _ => ⟨rfl, rfl⟩, fun j hj => by omega⟩
  · simp at hcs
    obtain ⟨rfl, rfl, rfl⟩ := hcs
    simp only [if_true] at hlen
    by_cases h0 : n = 0
    · exact ⟨fun _ => 0, .inl h0, fun e => by (cases e), fun j hj => by omega⟩
    obtain ⟨b, off, spot⟩ := ad
    have hspot : spot = none := by simpa [Addr.add] using World.cell?_spot (hx 0 (by omega))
    subst hspot
    refine ⟨fun i => zs.getD i 0, .inr ⟨b, off, rfl, fun j hj => by rw [← hx j (by omega), addr_plain]⟩, fun e => by (cases e), fun j hj => ?_⟩
    have hj' : j < zs.length := by omega
    have h1 := hwf (zs[j]'hj') (List.getElem_mem hj')
    have h2 : zs.getD j 0 = zs[j]'hj' := by simp [List.getD, hj']
    show (-9223372036854775808 : Int) ≤ zs.getD j 0 ∧ zs.getD j 0 ≤ 9223372036854775807
    rw [h2]
    simp only [Lit.wf, IntKind.min, IntKind.max, IntKind.signed, IntKind.bits, Bool.and_eq_true, decide_eq_true_eq, if_true] at h1
    omega

theorem open_bools (h : DataW.trod enc Try.prog W 0 (fun _ => true) true fuel 25 [.slice a n c] = some x) : ∃ D : Nat → Bool, Sl W a n (fun j => .bool (D j)) := by
  rcases Go.Deep.open_slice1 Try.underlying25 Try.cells4 h with ⟨hcs, _⟩ | ⟨ad, len, cap, m, k, V, D, Pl, hcs, _, hl, hm, hmm, _, hx⟩
  · simp at hcs
    obtain ⟨rfl, rfl, rfl⟩ := hcs
    exact ⟨fun _ => false, .inl rfl⟩
  · simp at hcs
    obtain ⟨rfl, rfl, rfl⟩ := hcs
    simp only [if_true] at hmm
    by_cases h0 : n = 0
    · exact ⟨fun _ => false, .inl h0⟩
    obtain ⟨b, off, spot⟩ := ad
    have hspot : spot = none := by simpa [Addr.add] using World.cell?_spot (hx 0 (by omega)).1
    subst hspot
    refine ⟨fun i => (match V i with | .bool b => b | _ => false), .inr ⟨b, off, rfl, fun j hj => ?_⟩⟩
    obtain ⟨h1, h2⟩ := hx j (by omega)
    obtain ⟨bb, hv, _⟩ := DataW.trod_bool Try.underlying4 h2
    simp at hv
    rw [addr_plain] at h1
    rw [h1]
    show some (V j) = some (.bool (match V j with | .bool b => b | _ => false))
    rw [hv]
end

theorem below_trodAll {H : Type} {enc : TypeId × Value → H} {P : Program} (hl : laidOutB P = true) {W W' : World} (hb : Below W.heap.size W W') :
    ∀ {ts : List TypeId} {vs : List Value} {ds : List (DataW H)} {ps : List MemPlace}, (∀ t ∈ ts, P.readableRec t = true ∧ t < P.types.size) → DataW.TrodAll enc P W 0 (fun _ => true) true ts vs ds ps →
      DataW.TrodAll enc P W' 0 (fun b => decide (b < W.heap.size)) true ts vs ds ps
  | [], vs, ds, ps, _, h => by
    obtain ⟨rfl, rfl, rfl⟩ := trodAll_nil h
    exact trodAll_mk0
  | t :: ts, vs, ds, ps, hr, h => by
    obtain ⟨v, vs', d, ds', p, q, rfl, rfl, rfl, h1, h2⟩ := trodAll_cons h
    refine trodAll_cons_mk (Below.trod hl (hr t (by simp)).1 (hr t (by simp)).2 h1 hb ?_) (below_trodAll hl hb (fun t ht => hr t (by simp [ht])) h2)
    obtain ⟨m, hm⟩ := h1
    exact DataW.trod_lt m _ _ _ hm

theorem r9 : Try.prog.readableRec 9 = true ∧ 9 < Try.prog.types.size := ⟨by kernel_rfl, of_decide_eq_true (by kernel_rfl)⟩
theorem r2 : Try.prog.readableRec 2 = true ∧ 2 < Try.prog.types.size := ⟨by kernel_rfl, of_decide_eq_true (by kernel_rfl)⟩
theorem r3 : Try.prog.readableRec 3 = true ∧ 3 < Try.prog.types.size := ⟨by kernel_rfl, of_decide_eq_true (by kernel_rfl)⟩
theorem r4 : Try.prog.readableRec 4 = true ∧ 4 < Try.prog.types.size := ⟨by kernel_rfl, of_decide_eq_true (by kernel_rfl)⟩
theorem r22 : Try.prog.readableRec 22 = true ∧ 22 < Try.prog.types.size := ⟨by kernel_rfl, of_decide_eq_true (by kernel_rfl)⟩
theorem r23 : Try.prog.readableRec 23 = true ∧ 23 < Try.prog.types.size := ⟨by kernel_rfl, of_decide_eq_true (by kernel_rfl)⟩
theorem r24 : Try.prog.readableRec 24 = true ∧ 24 < Try.prog.types.size := ⟨by kernel_rfl, of_decide_eq_true (by kernel_rfl)⟩
theorem r25 : Try.prog.readableRec 25 = true ∧ 25 < Try.prog.types.size := ⟨by kernel_rfl, of_decide_eq_true (by kernel_rfl)⟩
end Go.Proofs.Qxb6617102a
