/- FnLayoutCutAndSteps: the row. -/
import Derived.Test.Qxb6617102aRows
import Derived.Test.Qxb6617102aCut
import Derived.Test.Qxb6617102aOpen
namespace Go.Proofs.Qxb6617102a
open Go.ChangeShapes Go.WideShapes Go.ChangeAt Go.RowKit

theorem Try.reads3 : ∀ t ∈ ([9, 2, 22, 2, 23, 24, 25, 25, 4, 3] : List TypeId), Try.prog.readableRec t = true ∧ t < Try.prog.types.size := by
  refine List.forall_mem_cons.2 ⟨r9, List.forall_mem_cons.2 ⟨r2, List.forall_mem_cons.2 ⟨r22, List.forall_mem_cons.2 ⟨r2, List.forall_mem_cons.2 ⟨r23, List.forall_mem_cons.2 ⟨r24, List.forall_mem_cons.2 ⟨r25, List.forall_mem_cons.2 ⟨r25, List.forall_mem_cons.2 ⟨r4, List.forall_mem_cons.2 ⟨r3, ?_⟩⟩⟩⟩⟩⟩⟩⟩⟩⟩
  intro t ht
  cases ht

set_option maxRecDepth 100000 in
theorem lifted3 (os : Os) (started : os.Started) (H : Type) (enc : TypeId × Value → H) :
    ReturnsInHanded {} Try.checked os 3 .any (Rows.fnLayoutCutAndStepsSpec.pre6 enc Try.prog Try.f3 Rows.fnLayoutCutAndStepsRow.domain false) (Rows.fnLayoutCutAndStepsSpec.post enc Try.prog Try.f3 false true false false) := by
  refine returnsInHanded_of_change (C := Try.checked) Try.own started (by kernel_rfl) Try.func3
    (ChangeSpec.witness6 (enc := enc) (C := Try.checked) false ⟨#[], #[.string ByteArray.empty, .int .i64 0, .slice none 0 0, .int .i64 0, .slice none 0 0, .slice none 0 0, .slice none 0 0, .slice none 0 0, .bool false, .int .i64 0], []⟩ 8 (by kernel_rfl) (by kernel_rfl) (by kernel_rfl) (by kernel_rfl)) ?_
  intro W base args ds gs before hval0 hW hcnd _
  have hval : ∀ (j : Nat) t v, Try.f3.params[j]? = some t → args[j]? = some v → Value.okWide Try.prog W .any base t v := hval0
  have hW' := hW
  obtain ⟨p, q, hA0, hV, rfl, hfz, hnd⟩ := hW
  have hA : DataW.TrodAll enc Try.prog W 0 (fun _ => true) true Try.f3.params.toList args.toList ds p := hA0
  rw [Try.params3] at hA hval
  have hAk := hA
  obtain ⟨v0, vs0, d0, ds0, p0, q0, ea, rfl, rfl, t0, hA1⟩ := trodAll_cons hA
  obtain ⟨v1, vs1, d1, ds1, p1, q1, rfl, rfl, rfl, t1, hA2⟩ := trodAll_cons hA1
  obtain ⟨v2, vs2, d2, ds2, p2, q2, rfl, rfl, rfl, t2, hA3⟩ := trodAll_cons hA2
  obtain ⟨v3, vs3, d3, ds3, p3, q3, rfl, rfl, rfl, t3, hA4⟩ := trodAll_cons hA3
  obtain ⟨v4, vs4, d4, ds4, p4, q4, rfl, rfl, rfl, t4, hA5⟩ := trodAll_cons hA4
  obtain ⟨v5, vs5, d5, ds5, p5, q5, rfl, rfl, rfl, t5, hA6⟩ := trodAll_cons hA5
  obtain ⟨v6, vs6, d6, ds6, p6, q6, rfl, rfl, rfl, t6, hA7⟩ := trodAll_cons hA6
  obtain ⟨v7, vs7, d7, ds7, p7, q7, rfl, rfl, rfl, t7, hA8⟩ := trodAll_cons hA7
  obtain ⟨v8, vs8, d8, ds8, p8, q8, rfl, rfl, rfl, t8, hA9⟩ := trodAll_cons hA8
  obtain ⟨v9, vs9, d9, ds9, p9, q9, rfl, rfl, rfl, t9, hA10⟩ := trodAll_cons hA9
  obtain ⟨rfl, rfl, rfl⟩ := trodAll_nil hA10
  have eb : args = #[v0, v1, v2, v3, v4, v5, v6, v7, v8, v9] := by cases args; simp_all
  subst eb
  clear ea hA hA1 hA2 hA3 hA4 hA5 hA6 hA7 hA8 hA9 hA10
  obtain ⟨rfl, rfl⟩ := trodVars_none hV
  obtain ⟨x0, rfl, rfl, rfl, l0⟩ := Go.ChangeMaps.open_string Try.underlying9 (hval 0 9 v0 rfl rfl) t0
  obtain ⟨x1, rfl, rfl, rfl, l1⟩ := open_int Try.underlying2 (hval 1 2 v1 rfl rfl) t1
  obtain ⟨a2, n2, c2, rfl⟩ := okWide_slice Try.underlying22 (hval 2 22 v2 rfl rfl)
  obtain ⟨x3, rfl, rfl, rfl, l3⟩ := open_int Try.underlying2 (hval 3 2 v3 rfl rfl) t3
  obtain ⟨a4, n4, c4, rfl⟩ := okWide_slice Try.underlying23 (hval 4 23 v4 rfl rfl)
  obtain ⟨f4, hf4⟩ := t4
  obtain ⟨K4, r4⟩ := open_row (by simpa [Value.cells] using hf4)
  obtain ⟨a5, n5, c5, rfl⟩ := okWide_slice Try.underlying24 (hval 5 24 v5 rfl rfl)
  obtain ⟨f5, hf5⟩ := t5
  obtain ⟨K5, r5, z5, in5⟩ := open_nums (by simpa [Value.cells] using hf5)
  obtain ⟨a6, n6, c6, rfl⟩ := okWide_slice Try.underlying25 (hval 6 25 v6 rfl rfl)
  obtain ⟨f6, hf6⟩ := t6
  obtain ⟨K6, r6⟩ := open_bools (by simpa [Value.cells] using hf6)
  obtain ⟨a7, n7, c7, rfl⟩ := okWide_slice Try.underlying25 (hval 7 25 v7 rfl rfl)
  obtain ⟨f7, hf7⟩ := t7
  obtain ⟨K7, r7⟩ := open_bools (by simpa [Value.cells] using hf7)
  obtain ⟨x8, rfl, rfl, rfl⟩ := open_bool Try.underlying4 (hval 8 4 v8 rfl rfl) t8
  obtain ⟨x9, rfl, rfl, rfl, l9⟩ := open_int Try.underlying3 (hval 9 3 v9 rfl rfl) t9
  clear hA0 hval0
  have hl3 : (-9223372036854775808 : Int) ≤ x3 ∧ x3 ≤ 9223372036854775807 := by
    simp only [Lit.wf, IntKind.min, IntKind.max, IntKind.signed, IntKind.bits, Bool.and_eq_true, decide_eq_true_eq, if_true] at l3
    omega
  refine (cut_any x0 x1 a2 n2 c2 x3 a4 n4 c4 K4 a5 n5 c5 K5 a6 n6 c6 K6 a7 n7 c7 K7 x8 x9 W r4 r5 r6 r7 z5 in5 hl3).mono fun e W' ⟨he, hk⟩ => ?_
  subst he
  have bel : Below W.heap.size W W' := hk.below (Nat.le_refl _) (fun _ e => e.elim)
  exact ⟨_, rfl, _, _, _, [], _, [], hW', trodAll_mk1 (shut_bool Try.underlying4 _), below_trodAll Try.laidOut bel Try.reads3 hAk, rfl, bel.frame _, fun h => by cases h⟩

theorem cut_proved : Rows.FnLayoutCutAndStepsSaid :=
  OpenClaim.holds_of_wide 3 Try.f3 rfl rfl rfl rfl rfl rfl rfl ⟨rfl, rfl, rfl, rfl, rfl⟩ rfl rfl rfl rfl rfl (by kernel_rfl) Try.func3 (by kernel_rfl)
    (of_decide_eq_true (by kernel_rfl)) (by unfold Func.isWrapper; first | (rw [if_pos (by decide +kernel)]; kernel_rfl) | (rw [if_neg (by decide +kernel)]; exact ⟨rfl, rfl⟩))
    (fun os started H enc _ => lifted3 os started H enc)
end Go.Proofs.Qxb6617102a
