/- FnForgetUnlessDialingTwice: the row. -/
import Derived.Test.Qxb6616570aRows
import Derived.Test.Qxb6616570aTwice
import Derived.ProofKit
import Derived.OpenShut
import Derived.ShutString
import Derived.ChangeOld
import Derived.Deep.SlicePairs
namespace Go.Proofs.Qxb6616570a
open Go.ChangeShapes Go.WideShapes Go.ChangeAt Go.RowKit
open Go.ChangeMaps (open_string shut_string)

theorem Try.own : ownKnob Try.prog.godebug = none := by kernel_rfl
theorem Try.laidOut : laidOutB Try.prog = true := by kernel_rfl
theorem Try.cells54 : Try.prog.cellsOf 54 = 2 := by kernel_rfl

theorem open_specs {H : Type} {enc : TypeId × Value → H} {W : World} {fuel : Nat} {a : Option Addr} {n c : Nat} {x : DataW H × List MemPlace}
    (h : DataW.trod enc Try.prog W 0 (fun _ => true) true fuel 22 [.slice a n c] = some x) :
    ∃ fo ne : Nat → Bool, n ≠ 0 → ∃ b off, a = some ⟨b, off, none⟩ ∧ Specs W b off n fo ne := by
  rcases Go.Deep.open_slice_pairs Try.underlying22 Try.underlying54 Try.cells54 rfl rfl (by kernel_rfl) (by kernel_rfl) h with ⟨hcs, _⟩ | ⟨ad, len, cap, m, k, V0, V1, D0, D1, P0, P1, hcs, _, hl, hm, hmm, _, hx⟩
  · simp at hcs
    obtain ⟨rfl, rfl, rfl⟩ := hcs
    exact ⟨fun _ => false, fun _ => false, fun h => absurd rfl h⟩
  · simp at hcs
    obtain ⟨rfl, rfl, rfl⟩ := hcs
    simp only [if_true] at hmm
    rw [hmm] at hx
    clear hmm
    by_cases h0 : n = 0
    · exact ⟨fun _ => false, fun _ => false, fun h => absurd h0 h⟩
    obtain ⟨b, off, spot⟩ := ad
    have hspot : spot = none := by simpa [Addr.add] using World.cell?_spot (hx 0 (by omega)).1
    subst hspot
    have each : ∀ i, i < c → ∃ q : Bool × Bool, V0 i = .bool q.1 ∧ V1 i = .bool q.2 := by
      intro i hi
      obtain ⟨_, _, t0, t1⟩ := hx i hi
      obtain ⟨s, e0, _⟩ := DataW.trod_bool Try.underlying4 t0
      obtain ⟨z, e1, _⟩ := DataW.trod_bool Try.underlying4 t1
      simp at e0 e1
      exact ⟨(s, z), e0, e1⟩
    obtain ⟨q, hq⟩ := Go.Deep.choose_lt each
    refine ⟨fun i => (q i).1, fun i => (q i).2, fun _ => ⟨b, off, rfl, fun j hj => ?_, fun j hj => ?_⟩⟩
    · rw [← (hq j (by omega)).1, ← (hx j (by omega)).1, add_plain]
    · rw [← (hq j (by omega)).2, ← (hx j (by omega)).2.1, add_plain, Nat.add_assoc]

theorem below_trodAll {H : Type} {enc : TypeId × Value → H} {P : Program} (hl : laidOutB P = true) {W W' : World} (hb : Below W.heap.size W W') :
    ∀ {ts : List TypeId} {vs : List Value} {ds : List (DataW H)} {ps : List MemPlace}, (∀ t ∈ ts, P.readableRec t = true ∧ t < P.types.size) → DataW.TrodAll enc P W 0 (fun _ => true) true ts vs ds ps →
      DataW.TrodAll enc P W' 0 (fun b => decide (b < W.heap.size)) true ts vs ds ps
  | [], vs, ds, ps, _, h => by
    obtain ⟨rfl, rfl, rfl⟩ := trodAll_nil h
    exact trodAll_mk0
  | t :: ts, vs, ds, ps, hr, h => by
    obtain ⟨v, vs', d, ds', p, q, rfl, rfl, rfl, h1, h2⟩ := trodAll_cons h
    refine trodAll_cons_mk (Below.trod hl (hr t (by simp)).1 (hr t (by simp)).2 h1 hb ?_) (below_trodAll hl hb (fun t ht => hr t (by simp [ht])) h2)
    obtain ⟨m, hm⟩ := h1
    exact DataW.trod_lt m _ _ _ hm

theorem Try.reads3 : ∀ t ∈ ([9, 22, 3, 3, 3, 3, 4] : List TypeId), Try.prog.readableRec t = true ∧ t < Try.prog.types.size := by
  have r3 : Try.prog.readableRec 3 = true ∧ 3 < Try.prog.types.size := ⟨by kernel_rfl, of_decide_eq_true (by kernel_rfl)⟩
  refine List.forall_mem_cons.2 ⟨⟨by kernel_rfl, of_decide_eq_true (by kernel_rfl)⟩, List.forall_mem_cons.2 ⟨⟨by kernel_rfl, of_decide_eq_true (by kernel_rfl)⟩, ?_⟩⟩
  refine List.forall_mem_cons.2 ⟨r3, List.forall_mem_cons.2 ⟨r3, List.forall_mem_cons.2 ⟨r3, List.forall_mem_cons.2 ⟨r3, List.forall_mem_cons.2 ⟨⟨by kernel_rfl, of_decide_eq_true (by kernel_rfl)⟩, ?_⟩⟩⟩⟩⟩
  intro t ht
  cases ht

set_option maxRecDepth 100000 in
theorem twice_lifted (os : Os) (started : os.Started) (H : Type) (enc : TypeId × Value → H) :
    ReturnsInHanded {} Try.checked os 3 .any (Rows.fnForgetUnlessDialingTwiceSpec.pre6 enc Try.prog Try.f3 Rows.fnForgetUnlessDialingTwiceRow.domain false) (Rows.fnForgetUnlessDialingTwiceSpec.post enc Try.prog Try.f3 false true false false) := by
  refine returnsInHanded_of_change (C := Try.checked) Try.own started (by kernel_rfl) Try.func3
    (ChangeSpec.witness6 (enc := enc) (C := Try.checked) false ⟨#[], #[.string ByteArray.empty, .slice none 0 0, .int .i64 0, .int .i64 0, .int .i64 0, .int .i64 0, .bool false], []⟩ 8 (by kernel_rfl) (by kernel_rfl) (by kernel_rfl) (by kernel_rfl)) ?_
  intro W base args ds gs before hval0 hW hcnd _
  have hval : ∀ (j : Nat) t v, Try.f3.params[j]? = some t → args[j]? = some v → Value.okWide Try.prog W .any base t v := hval0
  have hW' := hW
  obtain ⟨p, q, hA0, hV, rfl, hfz, hnd⟩ := hW
  have hA : DataW.TrodAll enc Try.prog W 0 (fun _ => true) true Try.f3.params.toList args.toList ds p := hA0
  rw [Try.params3] at hA hval
  have hAk := hA
  obtain ⟨v0, vs0, d0, ds0, p0, q0, ea, rfl, rfl, t0, hA1⟩ := trodAll_cons hA
  obtain ⟨v1, vs1, d1, ds1, p1, q1, rfl, rfl, rfl, t1, hA2⟩ := trodAll_cons hA1
  obtain ⟨v2, vs2, d2, ds2, p2, q2, rfl, rfl, rfl, t2, hA3⟩ := trodAll_cons hA2
  obtain ⟨v3, vs3, d3, ds3, p3, q3, rfl, rfl, rfl, t3, hA4⟩ := trodAll_cons hA3
  obtain ⟨v4, vs4, d4, ds4, p4, q4, rfl, rfl, rfl, t4, hA5⟩ := trodAll_cons hA4
  obtain ⟨v5, vs5, d5, ds5, p5, q5, rfl, rfl, rfl, t5, hA6⟩ := trodAll_cons hA5
  obtain ⟨v6, vs6, d6, ds6, p6, q6, rfl, rfl, rfl, t6, hA7⟩ := trodAll_cons hA6
  obtain ⟨rfl, rfl, rfl⟩ := trodAll_nil hA7
  have eb : args = #[v0, v1, v2, v3, v4, v5, v6] := by cases args; simp_all
  subst eb
  clear ea hA hA1 hA2 hA3 hA4 hA5 hA6 hA7
  obtain ⟨rfl, rfl⟩ := trodVars_none hV
  obtain ⟨s0, rfl, rfl, rfl, w0⟩ := open_string Try.underlying9 (hval 0 9 v0 rfl rfl) t0
  obtain ⟨a1, len1, cap1, rfl⟩ := okWide_slice Try.underlying22 (hval 1 22 v1 rfl rfl)
  obtain ⟨fuel, hf⟩ := t1
  obtain ⟨fo, ne, hs⟩ := open_specs (by simpa [Value.cells] using hf)
  obtain ⟨a2, rfl, rfl, rfl, w2⟩ := open_int Try.underlying3 (hval 2 3 v2 rfl rfl) t2
  obtain ⟨a3, rfl, rfl, rfl, w3⟩ := open_int Try.underlying3 (hval 3 3 v3 rfl rfl) t3
  obtain ⟨a4, rfl, rfl, rfl, w4⟩ := open_int Try.underlying3 (hval 4 3 v4 rfl rfl) t4
  obtain ⟨a5, rfl, rfl, rfl, w5⟩ := open_int Try.underlying3 (hval 5 3 v5 rfl rfl) t5
  obtain ⟨a6, rfl, rfl, rfl⟩ := open_bool Try.underlying4 (hval 6 4 v6 rfl rfl) t6
  clear hA0 hval0
  refine (twice_any s0 a1 len1 cap1 a2 a3 a4 a5 a6 fo ne W w0 hs).mono fun e W' ⟨he, bel⟩ => ?_
  subst he
  exact ⟨_, rfl, _, _, _, [], _, [], hW', trodAll_mk1 (shut_bool Try.underlying4 _), below_trodAll Try.laidOut bel Try.reads3 hAk, rfl, bel.frame _, fun h => by cases h⟩

theorem twice_proved : Rows.FnForgetUnlessDialingTwiceSaid :=
  OpenClaim.holds_of_wide 3 Try.f3 rfl rfl rfl rfl rfl rfl rfl ⟨rfl, rfl, rfl, rfl, rfl⟩ rfl rfl rfl rfl rfl (by kernel_rfl) Try.func3 (by kernel_rfl)
    (of_decide_eq_true (by kernel_rfl)) (by unfold Func.isWrapper; first | (rw [if_pos (by decide +kernel)]; kernel_rfl) | (rw [if_neg (by decide +kernel)]; exact ⟨rfl, rfl⟩))
    (fun os started H enc _ => twice_lifted os started H enc)
end Go.Proofs.Qxb6616570a
