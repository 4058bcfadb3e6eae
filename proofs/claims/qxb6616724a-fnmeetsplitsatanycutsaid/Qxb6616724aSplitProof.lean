/- FnMeetSplitsAtAnyCut: the row. -/
import Derived.Test.Qxb6616724aRows
import Derived.Test.Qxb6616724aSplit
import Derived.ProofKit
import Derived.OpenShut
import Derived.ShutString
import Derived.ChangeOld
import Derived.SliceStrings
namespace Go.Proofs.Qxb6616724a
open Go.ChangeShapes Go.WideShapes Go.ChangeAt Go.RowKit

theorem Try.own : ownKnob Try.prog.godebug = none := by kernel_rfl
theorem Try.laidOut : laidOutB Try.prog = true := by kernel_rfl
theorem Try.cells9 : Try.prog.cellsOf 9 = 1 := by kernel_rfl

theorem open_row {H : Type} {enc : TypeId × Value → H} {W : World} {fuel : Nat} {a : Option Addr} {n c : Nat} {x : DataW H × List MemPlace}
    (h : DataW.trod enc Try.prog W 0 (fun _ => true) true fuel 22 [.slice a n c] = some x) :
    ∃ A : Nat → ByteArray, Row W a n A ∧ (a = none → n = 0 ∧ c = 0) ∧ n ≤ 9223372036854775807 := by
  rcases open_strings Try.underlying22 Try.underlying9 Try.cells9 h with ⟨hcs, _⟩ | ⟨ad, len, cap, ss, hcs, _, hl, hm, hlen, _, hx, _⟩
  · simp at hcs
    obtain ⟨rfl, rfl, rfl⟩ := hcs
    exact ⟨fun _ => ByteArray.empty, .inl rfl, fun _ => ⟨rfl, rfl⟩, by omega⟩
  · simp at hcs
    obtain ⟨rfl, rfl, rfl⟩ := hcs
    simp only [if_true] at hlen
    rw [hlen] at hx
    have hmax : n ≤ 9223372036854775807 := by unfold maxLen at hm; omega
    by_cases h0 : n = 0
    · exact ⟨fun _ => ByteArray.empty, .inl h0, fun e => by (cases e), hmax⟩
    obtain ⟨b, off, spot⟩ := ad
    have hspot : spot = none := by simpa [Addr.add] using World.cell?_spot (hx 0 (by omega))
    subst hspot
    exact ⟨fun i => ss.getD i ByteArray.empty, .inr ⟨b, off, rfl, fun j hj => by rw [← hx j (by omega), addr_plain]⟩, fun e => by (cases e), hmax⟩

theorem below_trodAll {H : Type} {enc : TypeId × Value → H} {P : Program} (hl : laidOutB P = true) {W W' : World} (hb : Below W.heap.size W W') :
    ∀ {ts : List TypeId} {vs : List Value} {ds : List (DataW H)} {ps : List MemPlace}, (∀ t ∈ ts, P.readableRec t = true ∧ t < P.types.size) → DataW.TrodAll enc P W 0 (fun _ => true) true ts vs ds ps →
      DataW.TrodAll enc P W' 0 (fun b => decide (b < W.heap.size)) true ts vs ds ps
  | [], vs, ds, ps, _, h => by
    obtain ⟨rfl, rfl, rfl⟩ := trodAll_nil h
    exact trodAll_mk0
  | t :: ts, vs, ds, ps, hr, h => by
    obtain ⟨v, vs', d, ds', p, q, rfl, rfl, rfl, h1, h2⟩ := trodAll_cons h
    refine trodAll_cons_mk (Below.trod hl (hr t (by simp)).1 (hr t (by simp)).2 h1 hb ?_) (below_trodAll hl hb (fun t ht => hr t (by simp [ht])) h2)
    obtain ⟨m, hm⟩ := h1
    exact DataW.trod_lt m _ _ _ hm

theorem Try.reads4 : ∀ t ∈ ([22, 22, 22, 22, 22, 22, 3, 3, 3] : List TypeId), Try.prog.readableRec t = true ∧ t < Try.prog.types.size := by
  have r3 : Try.prog.readableRec 3 = true ∧ 3 < Try.prog.types.size := ⟨by kernel_rfl, of_decide_eq_true (by kernel_rfl)⟩
  have r22 : Try.prog.readableRec 22 = true ∧ 22 < Try.prog.types.size := ⟨by kernel_rfl, of_decide_eq_true (by kernel_rfl)⟩
  refine List.forall_mem_cons.2 ⟨r22, List.forall_mem_cons.2 ⟨r22, List.forall_mem_cons.2 ⟨r22, List.forall_mem_cons.2 ⟨r22, List.forall_mem_cons.2 ⟨r22, List.forall_mem_cons.2 ⟨r22, List.forall_mem_cons.2 ⟨r3, List.forall_mem_cons.2 ⟨r3, List.forall_mem_cons.2 ⟨r3, ?_⟩⟩⟩⟩⟩⟩⟩⟩⟩
  intro t ht
  cases ht

set_option maxRecDepth 100000 in
theorem split_lifted (os : Os) (started : os.Started) (H : Type) (enc : TypeId × Value → H) :
    ReturnsInHanded {} Try.checked os 4 .any (Rows.fnMeetSplitsAtAnyCutSpec.pre6 enc Try.prog Try.f4 Rows.fnMeetSplitsAtAnyCutRow.domain false) (Rows.fnMeetSplitsAtAnyCutSpec.post enc Try.prog Try.f4 false true false false) := by
  refine returnsInHanded_of_change (C := Try.checked) Try.own started (by kernel_rfl) Try.func4
    (ChangeSpec.witness6 (enc := enc) (C := Try.checked) false ⟨#[], #[.slice none 0 0, .slice none 0 0, .slice none 0 0, .slice none 0 0, .slice none 0 0, .slice none 0 0, .int .i64 0, .int .i64 0, .int .i64 0], []⟩ 8 (by kernel_rfl) (by kernel_rfl) (by kernel_rfl) (by kernel_rfl)) ?_
  intro W base args ds gs before hval0 hW hcnd _
  have hval : ∀ (j : Nat) t v, Try.f4.params[j]? = some t → args[j]? = some v → Value.okWide Try.prog W .any base t v := hval0
  have hW' := hW
  obtain ⟨p, q, hA0, hV, rfl, hfz, hnd⟩ := hW
  have hA : DataW.TrodAll enc Try.prog W 0 (fun _ => true) true Try.f4.params.toList args.toList ds p := hA0
  rw [Try.params4] at hA hval
  have hAk := hA
  obtain ⟨v0, vs0, d0, ds0, p0, q0, ea, rfl, rfl, t0, hA1⟩ := trodAll_cons hA
  obtain ⟨v1, vs1, d1, ds1, p1, q1, rfl, rfl, rfl, t1, hA2⟩ := trodAll_cons hA1
  obtain ⟨v2, vs2, d2, ds2, p2, q2, rfl, rfl, rfl, t2, hA3⟩ := trodAll_cons hA2
  obtain ⟨v3, vs3, d3, ds3, p3, q3, rfl, rfl, rfl, t3, hA4⟩ := trodAll_cons hA3
  obtain ⟨v4, vs4, d4, ds4, p4, q4, rfl, rfl, rfl, t4, hA5⟩ := trodAll_cons hA4
  obtain ⟨v5, vs5, d5, ds5, p5, q5, rfl, rfl, rfl, t5, hA6⟩ := trodAll_cons hA5
  obtain ⟨v6, vs6, d6, ds6, p6, q6, rfl, rfl, rfl, t6, hA7⟩ := trodAll_cons hA6
  obtain ⟨v7, vs7, d7, ds7, p7, q7, rfl, rfl, rfl, t7, hA8⟩ := trodAll_cons hA7
  obtain ⟨v8, vs8, d8, ds8, p8, q8, rfl, rfl, rfl, t8, hA9⟩ := trodAll_cons hA8
  obtain ⟨rfl, rfl, rfl⟩ := trodAll_nil hA9
  have eb : args = #[v0, v1, v2, v3, v4, v5, v6, v7, v8] := by cases args; simp_all
  subst eb
  clear ea hA hA1 hA2 hA3 hA4 hA5 hA6 hA7 hA8 hA9
  obtain ⟨rfl, rfl⟩ := trodVars_none hV
  obtain ⟨a0, len0, cap0, rfl⟩ := okWide_slice Try.underlying22 (hval 0 22 v0 rfl rfl)
  obtain ⟨f0, hf0⟩ := t0
  obtain ⟨K0, r0, z0, l0⟩ := open_row (by simpa [Value.cells] using hf0)
  obtain ⟨a1, len1, cap1, rfl⟩ := okWide_slice Try.underlying22 (hval 1 22 v1 rfl rfl)
  obtain ⟨f1, hf1⟩ := t1
  obtain ⟨K1, r1, z1, l1⟩ := open_row (by simpa [Value.cells] using hf1)
  obtain ⟨a2, len2, cap2, rfl⟩ := okWide_slice Try.underlying22 (hval 2 22 v2 rfl rfl)
  obtain ⟨f2, hf2⟩ := t2
  obtain ⟨K2, r2, z2, l2⟩ := open_row (by simpa [Value.cells] using hf2)
  obtain ⟨a3, len3, cap3, rfl⟩ := okWide_slice Try.underlying22 (hval 3 22 v3 rfl rfl)
  obtain ⟨f3, hf3⟩ := t3
  obtain ⟨K3, r3, z3, l3⟩ := open_row (by simpa [Value.cells] using hf3)
  obtain ⟨a4, len4, cap4, rfl⟩ := okWide_slice Try.underlying22 (hval 4 22 v4 rfl rfl)
  obtain ⟨f4, hf4⟩ := t4
  obtain ⟨K4, r4, z4, l4⟩ := open_row (by simpa [Value.cells] using hf4)
  obtain ⟨a5, len5, cap5, rfl⟩ := okWide_slice Try.underlying22 (hval 5 22 v5 rfl rfl)
  obtain ⟨f5, hf5⟩ := t5
  obtain ⟨K5, r5, z5, l5⟩ := open_row (by simpa [Value.cells] using hf5)
  obtain ⟨a6, rfl, rfl, rfl, w6⟩ := open_int Try.underlying3 (hval 6 3 v6 rfl rfl) t6
  obtain ⟨a7, rfl, rfl, rfl, w7⟩ := open_int Try.underlying3 (hval 7 3 v7 rfl rfl) t7
  obtain ⟨a8, rfl, rfl, rfl, w8⟩ := open_int Try.underlying3 (hval 8 3 v8 rfl rfl) t8
  clear hA0 hval0
  refine (split_any a0 len0 cap0 K0 a1 len1 cap1 K1 a2 len2 cap2 K2 a3 len3 cap3 K3 a4 len4 cap4 K4 a5 len5 cap5 K5 a6 a7 a8 W r0 r1 r2 r3 r4 r5 z0 z1 z2 z3 z4 z5 l0 l1 l2 l3 l4 l5).mono fun e W' ⟨he, hk⟩ => ?_
  subst he
  have bel : Below W.heap.size W W' := hk.below (Nat.le_refl _) (fun _ e => e.elim)
  exact ⟨_, rfl, _, _, _, [], _, [], hW', trodAll_mk1 (shut_bool Try.underlying4 _), below_trodAll Try.laidOut bel Try.reads4 hAk, rfl, bel.frame _, fun h => by cases h⟩

theorem split_proved : Rows.FnMeetSplitsAtAnyCutSaid :=
  OpenClaim.holds_of_wide 4 Try.f4 rfl rfl rfl rfl rfl rfl rfl ⟨rfl, rfl, rfl, rfl, rfl⟩ rfl rfl rfl rfl rfl (by kernel_rfl) Try.func4 (by kernel_rfl)
    (of_decide_eq_true (by kernel_rfl)) (by unfold Func.isWrapper; first | (rw [if_pos (by decide +kernel)]; kernel_rfl) | (rw [if_neg (by decide +kernel)]; exact ⟨rfl, rfl⟩))
    (fun os started H enc _ => split_lifted os started H enc)
end Go.Proofs.Qxb6616724a
