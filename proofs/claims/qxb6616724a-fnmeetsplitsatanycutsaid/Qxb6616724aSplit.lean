/- The law's walk. -/
import Derived.Test.Qxb6616724aCopy
import Derived.Deep.RegionWith
import Derived.Deep.CutRange
import Derived.Deep.Light
namespace Go.Proofs.Qxb6616724a
open Go.RowKit

def Plain (d : Option Addr) : Prop := ∀ x, d = some x → x.spot = none
def backA (d : Option Addr) (n i : Nat) : Option Addr := if n = i then d else d.map (·.add (i * 1))
theorem Try.elem22 : Try.prog.elem 22 = 9 := by kernel_rfl
theorem size_run (w : World) : (sizeOf 9).run Try.prog w = .ok 1 w := by
  cases hq : Try.prog.info? 9 with
  | none => have := Try.size9; simp [hq] at this
  | some i =>
    have hi : i.size = 1 := by have := Try.size9; simpa [hq] using this
    simp [sizeOf, typeInfo, hq, hi]
theorem front_run (d : Option Addr) (n i : Nat) (hd : Plain d) (hi : i ≤ n) (w : World) : (Instr.slice 22 (.slice d n n) none (some (.int .i64 i)) none).run Try.prog w = .ok (.slice d i n) w := by
  rw [run_slice_h (P := Try.prog) w 22 d n n (by rw [Try.elem22]; exact Try.underlying22) .i64 i (by omega) (by omega), Try.elem22, size_run]
  cases d with
  | none => simp [Result.andThen, sliced]
  | some x =>
    obtain ⟨b, off, spot⟩ := x
    have : spot = none := hd _ rfl
    subst this
    simp [Result.andThen, sliced, addr_plain]
theorem back_run (d : Option Addr) (n i : Nat) (hi : i ≤ n) (w : World) : (Instr.slice 22 (.slice d n n) (some (.int .i64 i)) none none).run Try.prog w = .ok (.slice (backA d n i) (n - i) (n - i)) w := by
  rw [run_slice_l (P := Try.prog) w 22 d n n (by rw [Try.elem22]; exact Try.underlying22) .i64 i (by omega) (by omega), Try.elem22, size_run]
  simp [Result.andThen, sliced, backA]
theorem Row.front {w : World} {d : Option Addr} {n : Nat} {A : Nat → ByteArray} (h : Row w d n A) (i : Nat) (hi : i ≤ n) : Row w d i A := by
  rcases h with h | ⟨b, off, e, hc⟩
  · exact .inl (by omega)
  · exact .inr ⟨b, off, e, fun j hj => hc j (by omega)⟩
theorem Row.back {w : World} {d : Option Addr} {n : Nat} {A : Nat → ByteArray} (h : Row w d n A) (i : Nat) (_hi : i ≤ n) : Row w (backA d n i) (n - i) (fun t => A (i + t)) := by
  by_cases e : n = i
  · exact .inl (by omega)
  rcases h with h | ⟨b, off, ed, hc⟩
  · exact .inl (by omega)
  · refine .inr ⟨b, off + i, ?_, fun j hj => ?_⟩
    · subst ed
      simp [backA, e, addr_plain]
    · rw [Nat.add_assoc]; exact hc (i + j) (by omega)

/-- a list of the law's own, copied -/
def Own (w wc : World) (s : Value) (n : Nat) (A : Nat → ByteArray) : Prop := ∃ d, s = .slice d n n ∧ Row wc d n A ∧ Plain d ∧ Kept (fun _ => False) w wc
theorem own_nil (w : World) (A : Nat → ByteArray) : Own w w (.slice none 0 0) 0 A := ⟨none, rfl, .inl rfl, fun _ e => (by cases e), Kept.refl _ w⟩
theorem own_copy (w : World) (n : Nat) (A : Nat → ByteArray) : Own w (copied w n A) (.slice (some ⟨w.heap.size, 0, none⟩) n n) n A := ⟨_, rfl, copied_row _ _ _, fun _ e => (by cases e; rfl), copied_kept _ _ _⟩
/-- a variable made -/
def Made (w wc : World) (s : Value) (v0 v1 v2 : Value) : Prop := ∃ x : Nat, s = .pointer (some ⟨x, 0, none⟩) ∧ Box wc x v0 v1 v2 ∧ Kept (fun _ => False) w wc
theorem made_mk {w : World} {v0 v1 v2 : Value} : Made w ((w.alloc (.cells #[v0, v1, v2] 25)).alloc (.cells #[v0, v1, v2] 25)) (.pointer (some ⟨w.heap.size + 1, 0, none⟩)) v0 v1 v2 := by
  refine ⟨_, rfl, box_of (t := 25) ?_, ((Kept.refl _ w).alloc _).alloc _⟩
  have h := heap_alloc_new (w.alloc (.cells #[v0, v1, v2] 25)) (.cells #[v0, v1, v2] 25)
  rwa [show (w.alloc (.cells #[v0, v1, v2] 25)).heap.size = w.heap.size + 1 by simp] at h
theorem made_mk0 {w : World} {v0 v1 v2 : Value} : Made w ((w.alloc (.cells #[v0, v1, v2] 25)).alloc (.cells #[v0, v1, v2] 25)) (.pointer (some ⟨w.heap.size, 0, none⟩)) v0 v1 v2 :=
  ⟨_, rfl, box_of (t := 25) ((Below.heap_alloc (w.alloc (.cells #[v0, v1, v2] 25)) (.cells #[v0, v1, v2] 25) w.heap.size (by simp)).trans (heap_alloc_new w _)), ((Kept.refl _ w).alloc _).alloc _⟩
theorem boxm (w : World) (v0 v1 v2 : Value) : Box ((w.alloc (.cells #[v0, v1, v2] 25)).alloc (.cells #[v0, v1, v2] 25)) (w.heap.size + 1) v0 v1 v2 := by
  refine box_of (t := 25) ?_
  have h := heap_alloc_new (w.alloc (.cells #[v0, v1, v2] 25)) (.cells #[v0, v1, v2] 25)
  rwa [show (w.alloc (.cells #[v0, v1, v2] 25)).heap.size = w.heap.size + 1 by simp] at h
theorem keptm (w : World) (a b : Obj) : Kept (fun _ => False) w ((w.alloc a).alloc b) := ((Kept.refl _ w).alloc _).alloc _
theorem kept_nil {w w9 : World} {ob : Obj} (h : Kept (fun _ => False) (w.alloc ob) w9) : Kept (fun _ => False) w w9 := ((Kept.refl (fun _ => False) w).alloc ob).trans h (fun _ _ e => e)
theorem Made.drewN {w wc : World} {s v0 v1 v2 : Value} (h : Made w wc s v0 v1 v2) (q : Nat) : Made w (wc.drewN q) s v0 v1 v2 := by
  obtain ⟨x, e, hb, hk⟩ := h
  exact ⟨x, e, ⟨hb.c0, hb.c1, hb.c2⟩, hk.drewN q⟩
theorem Made.drew {w wc : World} {s v0 v1 v2 : Value} (h : Made w wc s v0 v1 v2) : Made w wc.drew s v0 v1 v2 := by
  obtain ⟨x, e, hb, hk⟩ := h
  exact ⟨x, e, ⟨hb.c0, hb.c1, hb.c2⟩, hk.drew⟩

set_option maxRecDepth 100000 in
set_option maxHeartbeats 16000000 in
theorem split_any (a0 : Option Addr) (n0 c0 : Nat) (A0 : Nat → ByteArray) (a1 : Option Addr) (n1 c1 : Nat) (A1 : Nat → ByteArray) (a2 : Option Addr) (n2 c2 : Nat) (A2 : Nat → ByteArray) (a3 : Option Addr) (n3 c3 : Nat) (A3 : Nat → ByteArray) (a4 : Option Addr) (n4 c4 : Nat) (A4 : Nat → ByteArray) (a5 : Option Addr) (n5 c5 : Nat) (A5 : Nat → ByteArray) (i j k : Int) (w : World) (h0 : Row w a0 n0 A0) (h1 : Row w a1 n1 A1) (h2 : Row w a2 n2 A2) (h3 : Row w a3 n3 A3) (h4 : Row w a4 n4 A4) (h5 : Row w a5 n5 A5) (z0 : a0 = none → n0 = 0 ∧ c0 = 0) (z1 : a1 = none → n1 = 0 ∧ c1 = 0) (z2 : a2 = none → n2 = 0 ∧ c2 = 0) (z3 : a3 = none → n3 = 0 ∧ c3 = 0) (z4 : a4 = none → n4 = 0 ∧ c4 = 0) (z5 : a5 = none → n5 = 0 ∧ c5 = 0) (l0 : n0 ≤ 9223372036854775807) (l1 : n1 ≤ 9223372036854775807) (l2 : n2 ≤ 9223372036854775807) (l3 : n3 ≤ 9223372036854775807) (l4 : n4 ≤ 9223372036854775807) (l5 : n5 ≤ 9223372036854775807) :
    Calls Try.prog 4 #[.slice a0 n0 c0, .slice a1 n1 c1, .slice a2 n2 c2, .slice a3 n3 c3, .slice a4 n4 c4, .slice a5 n5 c5, .int .i64 i, .int .i64 j, .int .i64 k] w fun e w' => e = .returned (.bool true) ∧ Kept (fun _ => False) w w' := by
  have H0 := hide h0
  have Z0 := hide z0
  have H1 := hide h1
  have Z1 := hide z1
  have H2 := hide h2
  have Z2 := hide z2
  have H3 := hide h3
  have Z3 := hide z3
  have H4 := hide h4
  have Z4 := hide z4
  have H5 := hide h5
  have Z5 := hide z5
  clear h0 h1 h2 h3 h4 h5 z0 z1 z2 z3 z4 z5
  go_enter Try.func4, Try.ntmps4
  go_wp2_with fail
  refine (zz_any a0 n0 c0 A0 a1 n1 c1 A1 a2 n2 c2 A2 a3 n3 c3 A3 a4 n4 c4 A4 a5 n5 c5 A5 i j k w (unhide H0) (unhide H1) (unhide H2) (unhide H3) (unhide H4) (unhide H5) l0 l1 l2 l3 l4 l5).mono ?_
  rintro e w1 ⟨⟨b, rfl, hs⟩, rfl⟩
  cases b with
  | false =>
    go_wp2_with fail
    go_ret
    exact ⟨rfl, Kept.refl _ w1⟩
  | true =>
  obtain ⟨m0, m1, m2, m3, m4, m5⟩ := hs rfl
  clear hs
  go_wp2_with fail
  refine (size_any a0 n0 c0 A0 a1 n1 c1 A1 a2 n2 c2 A2 a3 n3 c3 A3 a4 n4 c4 A4 a5 n5 c5 A5 w1 (unhide H0) (unhide H1) (unhide H2) (unhide H3) (unhide H4) (unhide H5) (by omega) (by omega) (by omega) (by omega) (by omega) (by omega)).mono ?_
  rintro e w2 ⟨⟨b, rfl, _⟩, rfl⟩
  cases b with
  | false =>
    go_wp2_with fail
    go_ret
    exact ⟨rfl, Kept.refl _ w2⟩
  | true =>
  by_cases qi0 : i < 0
  · go_wp2_with fail
    go_ret
    exact ⟨rfl, Kept.refl _ w2⟩
  by_cases qi1 : i ≤ n3
  rotate_left
  · go_wp2_with fail
    go_ret
    exact ⟨rfl, Kept.refl _ w2⟩
  by_cases qj0 : j < 0
  · go_wp2_with fail
    go_ret
    exact ⟨rfl, Kept.refl _ w2⟩
  by_cases qj1 : j ≤ n4
  rotate_left
  · go_wp2_with fail
    go_ret
    exact ⟨rfl, Kept.refl _ w2⟩
  by_cases qk0 : k < 0
  · go_wp2_with fail
    go_ret
    exact ⟨rfl, Kept.refl _ w2⟩
  by_cases qk1 : k ≤ n5
  rotate_left
  · go_wp2_with fail
    go_ret
    exact ⟨rfl, Kept.refl _ w2⟩
  obtain ⟨i, rfl⟩ := Int.eq_ofNat_of_zero_le (show 0 ≤ i by omega)
  obtain ⟨j, rfl⟩ := Int.eq_ofNat_of_zero_le (show 0 ≤ j by omega)
  obtain ⟨k, rfl⟩ := Int.eq_ofNat_of_zero_le (show 0 ≤ k by omega)
  go_wp2_with fail
  refine (sorted6_any a0 n0 c0 A0 a1 n1 c1 A1 a2 n2 c2 A2 a3 n3 c3 A3 a4 n4 c4 A4 a5 n5 c5 A5 w2 (unhide H0) (unhide H1) (unhide H2) (unhide H3) (unhide H4) (unhide H5) (by omega) (by omega) (by omega) (by omega) (by omega) (by omega)).mono ?_
  rintro e w3 ⟨⟨b, rfl, hs⟩, hk⟩
  cases b with
  | false =>
    go_wp2_with fail
    go_ret
    exact ⟨rfl, hk⟩
  | true =>
  obtain ⟨s0, s1, s2, s3, s4, s5⟩ := hs rfl
  have S0 := hide s0
  replace H0 := hide ((unhide H0).keptAll hk)
  have S1 := hide s1
  replace H1 := hide ((unhide H1).keptAll hk)
  have S2 := hide s2
  replace H2 := hide ((unhide H2).keptAll hk)
  have S3 := hide s3
  replace H3 := hide ((unhide H3).keptAll hk)
  have S4 := hide s4
  replace H4 := hide ((unhide H4).keptAll hk)
  have S5 := hide s5
  replace H5 := hide ((unhide H5).keptAll hk)
  have HK := hide hk
  clear hk hs s0 s1 s2 s3 s4 s5
  go_upto_if 86 with fail
  go_cut [0] from 25 (fun s wc => Own w3 wc s n0 A0)
  case first =>
    cases a0 with
    | none =>
      obtain ⟨rfl, rfl⟩ := unhide Z0 rfl
      go_wp2_with fail
      go_meet
      exact own_nil w3 A0
    | some ad =>
      have hmk := run_make_row' (P := Try.prog) 22 9 (.string ByteArray.empty) 16 Try.underlying22 Try.info9 rfl .i64 .i64 n0 (by omega) (by omega) w3
      have hcp := copy_run w3 ad n0 c0 A0 (unhide H0)
      go_wp2_with fail
      go_meet
      exact own_copy w3 n0 A0
  case rest =>
  obtain ⟨d0, rfl, hrow, hpl, hk⟩ := hcut
  replace HK := hide ((unhide HK).trans hk (fun _ _ e => e))
  replace H1 := hide ((unhide H1).keptAll hk)
  replace H2 := hide ((unhide H2).keptAll hk)
  replace H3 := hide ((unhide H3).keptAll hk)
  replace H4 := hide ((unhide H4).keptAll hk)
  replace H5 := hide ((unhide H5).keptAll hk)
  replace H0 := hide hrow
  have PL0 := hide hpl
  clear hk hrow hpl Z0
  have hwc : ∃ x, x = wc := ⟨wc, rfl⟩
  obtain ⟨wc0, hwc⟩ := hwc
  subst hwc
  go_upto_if 95 with fail
  go_cut [1] from 94 to 102 (fun s wc => Own wc0 wc s n1 A1)
  case first =>
    cases a1 with
    | none =>
      obtain ⟨rfl, rfl⟩ := unhide Z1 rfl
      go_wp2_with fail
      go_meet
      exact own_nil wc0 A1
    | some ad =>
      have hmk := run_make_row' (P := Try.prog) 22 9 (.string ByteArray.empty) 16 Try.underlying22 Try.info9 rfl .i64 .i64 n1 (by omega) (by omega) wc0
      have hcp := copy_run wc0 ad n1 c1 A1 (unhide H1)
      go_wp2_with fail
      go_meet
      exact own_copy wc0 n1 A1
  case rest =>
  obtain ⟨d1, rfl, hrow, hpl, hk⟩ := hcut
  replace HK := hide ((unhide HK).trans hk (fun _ _ e => e))
  replace H0 := hide ((unhide H0).keptAll hk)
  replace H2 := hide ((unhide H2).keptAll hk)
  replace H3 := hide ((unhide H3).keptAll hk)
  replace H4 := hide ((unhide H4).keptAll hk)
  replace H5 := hide ((unhide H5).keptAll hk)
  replace H1 := hide hrow
  have PL1 := hide hpl
  clear hk hrow hpl Z1
  have hwc : ∃ x, x = wc := ⟨wc, rfl⟩
  obtain ⟨wc0, hwc⟩ := hwc
  subst hwc
  go_upto_if 104 with fail
  go_cut [2] from 103 to 111 (fun s wc => Own wc0 wc s n2 A2)
  case first =>
    cases a2 with
    | none =>
      obtain ⟨rfl, rfl⟩ := unhide Z2 rfl
      go_wp2_with fail
      go_meet
      exact own_nil wc0 A2
    | some ad =>
      have hmk := run_make_row' (P := Try.prog) 22 9 (.string ByteArray.empty) 16 Try.underlying22 Try.info9 rfl .i64 .i64 n2 (by omega) (by omega) wc0
      have hcp := copy_run wc0 ad n2 c2 A2 (unhide H2)
      go_wp2_with fail
      go_meet
      exact own_copy wc0 n2 A2
  case rest =>
  obtain ⟨d2, rfl, hrow, hpl, hk⟩ := hcut
  replace HK := hide ((unhide HK).trans hk (fun _ _ e => e))
  replace H0 := hide ((unhide H0).keptAll hk)
  replace H1 := hide ((unhide H1).keptAll hk)
  replace H3 := hide ((unhide H3).keptAll hk)
  replace H4 := hide ((unhide H4).keptAll hk)
  replace H5 := hide ((unhide H5).keptAll hk)
  replace H2 := hide hrow
  have PL2 := hide hpl
  clear hk hrow hpl Z2
  have hwc : ∃ x, x = wc := ⟨wc, rfl⟩
  obtain ⟨wc0, hwc⟩ := hwc
  subst hwc
  go_upto_if 113 with fail
  go_cut [3] from 112 to 120 (fun s wc => Own wc0 wc s n3 A3)
  case first =>
    cases a3 with
    | none =>
      obtain ⟨rfl, rfl⟩ := unhide Z3 rfl
      go_wp2_with fail
      go_meet
      exact own_nil wc0 A3
    | some ad =>
      have hmk := run_make_row' (P := Try.prog) 22 9 (.string ByteArray.empty) 16 Try.underlying22 Try.info9 rfl .i64 .i64 n3 (by omega) (by omega) wc0
      have hcp := copy_run wc0 ad n3 c3 A3 (unhide H3)
      go_wp2_with fail
      go_meet
      exact own_copy wc0 n3 A3
  case rest =>
  obtain ⟨d3, rfl, hrow, hpl, hk⟩ := hcut
  replace HK := hide ((unhide HK).trans hk (fun _ _ e => e))
  replace H0 := hide ((unhide H0).keptAll hk)
  replace H1 := hide ((unhide H1).keptAll hk)
  replace H2 := hide ((unhide H2).keptAll hk)
  replace H4 := hide ((unhide H4).keptAll hk)
  replace H5 := hide ((unhide H5).keptAll hk)
  replace H3 := hide hrow
  have PL3 := hide hpl
  clear hk hrow hpl Z3
  have hwc : ∃ x, x = wc := ⟨wc, rfl⟩
  obtain ⟨wc0, hwc⟩ := hwc
  subst hwc
  go_upto_if 122 with fail
  go_cut [4] from 121 to 129 (fun s wc => Own wc0 wc s n4 A4)
  case first =>
    cases a4 with
    | none =>
      obtain ⟨rfl, rfl⟩ := unhide Z4 rfl
      go_wp2_with fail
      go_meet
      exact own_nil wc0 A4
    | some ad =>
      have hmk := run_make_row' (P := Try.prog) 22 9 (.string ByteArray.empty) 16 Try.underlying22 Try.info9 rfl .i64 .i64 n4 (by omega) (by omega) wc0
      have hcp := copy_run wc0 ad n4 c4 A4 (unhide H4)
      go_wp2_with fail
      go_meet
      exact own_copy wc0 n4 A4
  case rest =>
  obtain ⟨d4, rfl, hrow, hpl, hk⟩ := hcut
  replace HK := hide ((unhide HK).trans hk (fun _ _ e => e))
  replace H0 := hide ((unhide H0).keptAll hk)
  replace H1 := hide ((unhide H1).keptAll hk)
  replace H2 := hide ((unhide H2).keptAll hk)
  replace H3 := hide ((unhide H3).keptAll hk)
  replace H5 := hide ((unhide H5).keptAll hk)
  replace H4 := hide hrow
  have PL4 := hide hpl
  clear hk hrow hpl Z4
  have hwc : ∃ x, x = wc := ⟨wc, rfl⟩
  obtain ⟨wc0, hwc⟩ := hwc
  subst hwc
  go_upto_if 131 with fail
  go_cut [5] from 130 to 138 (fun s wc => Own wc0 wc s n5 A5)
  case first =>
    cases a5 with
    | none =>
      obtain ⟨rfl, rfl⟩ := unhide Z5 rfl
      go_wp2_with fail
      go_meet
      exact own_nil wc0 A5
    | some ad =>
      have hmk := run_make_row' (P := Try.prog) 22 9 (.string ByteArray.empty) 16 Try.underlying22 Try.info9 rfl .i64 .i64 n5 (by omega) (by omega) wc0
      have hcp := copy_run wc0 ad n5 c5 A5 (unhide H5)
      go_wp2_with fail
      go_meet
      exact own_copy wc0 n5 A5
  case rest =>
  obtain ⟨d5, rfl, hrow, hpl, hk⟩ := hcut
  replace HK := hide ((unhide HK).trans hk (fun _ _ e => e))
  replace H0 := hide ((unhide H0).keptAll hk)
  replace H1 := hide ((unhide H1).keptAll hk)
  replace H2 := hide ((unhide H2).keptAll hk)
  replace H3 := hide ((unhide H3).keptAll hk)
  replace H4 := hide ((unhide H4).keptAll hk)
  replace H5 := hide hrow
  have PL5 := hide hpl
  clear hk hrow hpl Z5
  have hwc : ∃ x, x = wc := ⟨wc, rfl⟩
  obtain ⟨wc0, hwc⟩ := hwc
  subst hwc
  go_wp2_with fail
  refine (new_any _ _ _ _ _ _ _ _ _ _ _ _ wc0 rfl rfl rfl).mono ?_
  rintro e w4 ⟨rfl, rfl⟩
  go_wp2_with fail
  have BC := hide (boxm wc0 (.slice d0 n0 n0) (.slice d1 n1 n1) (.slice d2 n2 n2))
  have hk := keptm wc0 (.cells #[.slice d0 n0 n0, .slice d1 n1 n1, .slice d2 n2 n2] 25) (.cells #[.slice d0 n0 n0, .slice d1 n1 n1, .slice d2 n2 n2] 25)
  replace HK := hide ((unhide HK).trans hk (fun _ _ e => e))
  replace H0 := hide ((unhide H0).keptAll hk)
  replace H1 := hide ((unhide H1).keptAll hk)
  replace H2 := hide ((unhide H2).keptAll hk)
  replace H3 := hide ((unhide H3).keptAll hk)
  replace H4 := hide ((unhide H4).keptAll hk)
  replace H5 := hide ((unhide H5).keptAll hk)
  clear hk
  generalize (wc0.alloc (.cells #[.slice d0 n0 n0, .slice d1 n1 n1, .slice d2 n2 n2] 25)).alloc (.cells #[.slice d0 n0 n0, .slice d1 n1 n1, .slice d2 n2 n2] 25) = w5 at *
  generalize wc0.heap.size + 1 = bc at *
  refine (new_any _ _ _ _ _ _ _ _ _ _ _ _ w5 rfl rfl rfl).mono ?_
  rintro e w6 ⟨rfl, rfl⟩
  go_upto_region 35 with fail
  have BD := hide (boxm w5 (.slice d3 n3 n3) (.slice d4 n4 n4) (.slice d5 n5 n5))
  have hk := keptm w5 (.cells #[.slice d3 n3 n3, .slice d4 n4 n4, .slice d5 n5 n5] 25) (.cells #[.slice d3 n3 n3, .slice d4 n4 n4, .slice d5 n5 n5] 25)
  replace HK := hide ((unhide HK).trans hk (fun _ _ e => e))
  replace H0 := hide ((unhide H0).keptAll hk)
  replace H1 := hide ((unhide H1).keptAll hk)
  replace H2 := hide ((unhide H2).keptAll hk)
  replace H3 := hide ((unhide H3).keptAll hk)
  replace H4 := hide ((unhide H4).keptAll hk)
  replace H5 := hide ((unhide H5).keptAll hk)
  replace BC := hide ((unhide BC).kept hk)
  clear hk
  generalize (w5.alloc (.cells #[.slice d3 n3 n3, .slice d4 n4 n4, .slice d5 n5 n5] 25)).alloc (.cells #[.slice d3 n3 n3, .slice d4 n4 n4, .slice d5 n5 n5] 25) = w7 at *
  generalize w5.heap.size + 1 = bd at *
  have hs3 := front_run d3 n3 i (unhide PL3) (by omega)
  have hs4 := front_run d4 n4 j (unhide PL4) (by omega)
  have hs5 := front_run d5 n5 k (unhide PL5) (by omega)
  go_cut [27] from 147 to 156 (fun s wx => Made w7 wx s (.slice d3 i n3) (.slice d4 j n4) (.slice d5 k n5))
  case first =>
    go_region_with (go_at_call 8; refine (new_any _ _ _ _ _ _ _ _ _ _ _ _ _ rfl rfl rfl).mono ?_; rintro e w8 ⟨rfl, rfl⟩)
    all_goals go_wp2_with fail
    all_goals go_meet
    all_goals go_light
    all_goals first | exact made_mk.drew | exact made_mk0.drew | exact made_mk | exact made_mk0
  case rest =>
  obtain ⟨bf, rfl, bfx, hk⟩ := hcut
  have BF := hide bfx
  clear bfx hs3 hs4 hs5
  replace HK := hide ((unhide HK).trans hk (fun _ _ e => e))
  replace H0 := hide ((unhide H0).keptAll hk)
  replace H1 := hide ((unhide H1).keptAll hk)
  replace H2 := hide ((unhide H2).keptAll hk)
  replace H3 := hide ((unhide H3).keptAll hk)
  replace H4 := hide ((unhide H4).keptAll hk)
  replace H5 := hide ((unhide H5).keptAll hk)
  replace BC := hide ((unhide BC).kept hk)
  replace BD := hide ((unhide BD).kept hk)
  clear hk
  have hs3 := back_run d3 n3 i (by omega)
  have hs4 := back_run d4 n4 j (by omega)
  have hs5 := back_run d5 n5 k (by omega)
  go_upto_region 36 with fail
  have hwc : ∃ x, x = wc := ⟨wc, rfl⟩
  obtain ⟨wc1, hwc⟩ := hwc
  subst hwc
  go_cut [28] from 157 to 166 (fun s wx => Made wc1 wx s (.slice (backA d3 n3 i) (n3 - i) (n3 - i)) (.slice (backA d4 n4 j) (n4 - j) (n4 - j)) (.slice (backA d5 n5 k) (n5 - k) (n5 - k)))
  case first =>
    go_region_with (go_at_call 8; refine (new_any _ _ _ _ _ _ _ _ _ _ _ _ _ rfl rfl rfl).mono ?_; rintro e w8 ⟨rfl, rfl⟩)
    all_goals go_wp2_with fail
    all_goals go_meet
    all_goals go_light
    all_goals first | exact made_mk.drew | exact made_mk0.drew | exact made_mk | exact made_mk0
  case rest =>
  obtain ⟨bb, rfl, bbx, hk⟩ := hcut
  have BB := hide bbx
  clear bbx hs3 hs4 hs5
  replace HK := hide ((unhide HK).trans hk (fun _ _ e => e))
  replace H0 := hide ((unhide H0).keptAll hk)
  replace H1 := hide ((unhide H1).keptAll hk)
  replace H2 := hide ((unhide H2).keptAll hk)
  replace H3 := hide ((unhide H3).keptAll hk)
  replace H4 := hide ((unhide H4).keptAll hk)
  replace H5 := hide ((unhide H5).keptAll hk)
  replace BC := hide ((unhide BC).kept hk)
  replace BD := hide ((unhide BD).kept hk)
  replace BF := hide ((unhide BF).kept hk)
  clear hk
  have hwc : ∃ x, x = wc := ⟨wc, rfl⟩
  obtain ⟨wc2, hwc⟩ := hwc
  subst hwc
  have xBC0 := (unhide BC).c0
  have xBC1 := (unhide BC).c1
  have xBC2 := (unhide BC).c2
  have xBD0 := (unhide BD).c0
  have xBD1 := (unhide BD).c1
  have xBD2 := (unhide BD).c2
  go_wp2_with fail
  refine (meet_any d0 n0 n0 A0 d1 n1 n1 A1 d2 n2 n2 A2 d3 n3 n3 A3 d4 n4 n4 A4 d5 n5 n5 A5 wc2 (unhide H0) (unhide H1) (unhide H2) (unhide H3) (unhide H4) (unhide H5) (unhide S0) (unhide S1) (unhide S2) (unhide S3) (unhide S4) (unhide S5) (by omega) (by omega) (by omega) (by omega) (by omega) (by omega)).mono ?_
  rintro e w9 ⟨rfl, hk⟩
  replace HK := hide ((unhide HK).trans hk (fun _ _ e => e))
  replace H0 := hide ((unhide H0).keptAll hk)
  replace H1 := hide ((unhide H1).keptAll hk)
  replace H2 := hide ((unhide H2).keptAll hk)
  replace H3 := hide ((unhide H3).keptAll hk)
  replace H4 := hide ((unhide H4).keptAll hk)
  replace H5 := hide ((unhide H5).keptAll hk)
  replace BC := hide ((unhide BC).kept hk)
  replace BD := hide ((unhide BD).kept hk)
  replace BF := hide ((unhide BF).kept hk)
  replace BB := hide ((unhide BB).kept hk)
  clear hk
  clear xBC0 xBC1 xBC2 xBD0 xBD1 xBD2
  rw [meets_cut A0 n0 A1 n1 A2 n2 A3 n3 A4 n4 A5 n5 i j k (by omega) (by omega) (by omega)]
  generalize hF : meets A0 n0 A1 n1 A2 n2 A3 i A4 j A5 k = F
  generalize hG : meets A0 n0 A1 n1 A2 n2 (fun t => A3 (i + t)) (n3 - i) (fun t => A4 (j + t)) (n4 - j) (fun t => A5 (k + t)) (n5 - k) = G
  have HF := hide hF
  have HG := hide hG
  clear hF hG
  go_upto_region 38 with fail
  go_cut [179] from 170 to 178 (fun s wx => s = .bool false ∧ Kept (fun _ => False) w9 wx)
  case first =>
    have xBC0 := (unhide BC).c0
    have xBC1 := (unhide BC).c1
    have xBC2 := (unhide BC).c2
    have xBF0 := (unhide BF).c0
    have xBF1 := (unhide BF).c1
    have xBF2 := (unhide BF).c2
    go_wp2_with fail
    refine (meet_any d0 n0 n0 A0 d1 n1 n1 A1 d2 n2 n2 A2 d3 i n3 A3 d4 j n4 A4 d5 k n5 A5 w9 (unhide H0) (unhide H1) (unhide H2) ((unhide H3).front i (by omega)) ((unhide H4).front j (by omega)) ((unhide H5).front k (by omega)) (unhide S0) (unhide S1) (unhide S2) ((unhide S3).front i (by omega)) ((unhide S4).front j (by omega)) ((unhide S5).front k (by omega)) (by omega) (by omega) (by omega) (by omega) (by omega) (by omega)).mono ?_
    rintro e w10 ⟨rfl, hk⟩
    rw [unhide HF]
    clear xBC0 xBC1 xBC2 xBF0 xBF1 xBF2
    have K10 := hide hk
    have BC10 := hide ((unhide BC).kept hk)
    have BB10 := hide ((unhide BB).kept hk)
    clear hk
    cases F with
    | true =>
      go_wp2_with fail
      go_meet
      exact ⟨rfl, unhide K10⟩
    | false =>
      have xBC100 := (unhide BC10).c0
      have xBC101 := (unhide BC10).c1
      have xBC102 := (unhide BC10).c2
      have xBB100 := (unhide BB10).c0
      have xBB101 := (unhide BB10).c1
      have xBB102 := (unhide BB10).c2
      go_wp2_with fail
      refine (meet_any d0 n0 n0 A0 d1 n1 n1 A1 d2 n2 n2 A2 (backA d3 n3 i) (n3 - i) (n3 - i) (fun t => A3 (i + t)) (backA d4 n4 j) (n4 - j) (n4 - j) (fun t => A4 (j + t)) (backA d5 n5 k) (n5 - k) (n5 - k) (fun t => A5 (k + t)) w10 ((unhide H0).keptAll (unhide K10)) ((unhide H1).keptAll (unhide K10)) ((unhide H2).keptAll (unhide K10)) (((unhide H3).keptAll (unhide K10)).back i (by omega)) (((unhide H4).keptAll (unhide K10)).back j (by omega)) (((unhide H5).keptAll (unhide K10)).back k (by omega)) (unhide S0) (unhide S1) (unhide S2) ((unhide S3).shift i (n3 - i) (by omega)) ((unhide S4).shift j (n4 - j) (by omega)) ((unhide S5).shift k (n5 - k) (by omega)) (by omega) (by omega) (by omega) (by omega) (by omega) (by omega)).mono ?_
      rintro e w11 ⟨rfl, hk⟩
      rw [unhide HG]
      have K11 := hide ((unhide K10).trans hk (fun _ _ e => e))
      clear xBC100 xBC101 xBC102 xBB100 xBB101 xBB102
      clear hk
      cases G with
      | true =>
        go_wp2_with fail
        go_meet
        exact ⟨rfl, unhide K11⟩
      | false =>
        go_wp2_with fail
        go_meet
        exact ⟨rfl, unhide K11⟩
  case rest =>
  obtain ⟨rfl, hk⟩ := hcut
  replace HK := hide ((unhide HK).trans hk (fun _ _ e => e))
  replace H0 := hide ((unhide H0).keptAll hk)
  replace H1 := hide ((unhide H1).keptAll hk)
  replace H2 := hide ((unhide H2).keptAll hk)
  replace H3 := hide ((unhide H3).keptAll hk)
  replace H4 := hide ((unhide H4).keptAll hk)
  replace H5 := hide ((unhide H5).keptAll hk)
  replace BC := hide ((unhide BC).kept hk)
  clear hk
  clear BD BF BB HF HG
  have hwc : ∃ x, x = wc := ⟨wc, rfl⟩
  obtain ⟨wc3, hwc⟩ := hwc
  subst hwc
  go_upto_region 40 with fail
  have xBC0 := (unhide BC).c0
  have xBC1 := (unhide BC).c1
  have xBC2 := (unhide BC).c2
  go_cut [182] from 180 to 181 (fun s wx => s = .bool false ∧ Kept (fun _ => False) wc3 wx)
  case first =>
    have BA := hide ((unhide BC).kept ((Kept.refl (fun _ => False) wc3).alloc (.cells #[.slice none 0 0, .slice none 0 0, .slice none 0 0] 25)))
    have xBA0 := (unhide BA).c0
    have xBA1 := (unhide BA).c1
    have xBA2 := (unhide BA).c2
    have hlt0 : bc < wc3.heap.size := World.block_lt_of_cell? _ _ xBC0
    have hne0 : bc ≠ wc3.heap.size := by omega
    have HM : Hid (∀ W, Kept (fun _ => False) wc3 W → Calls Try.prog 9 #[.agg #[.slice d0 n0 n0, .slice d1 n1 n1, .slice d2 n2 n2], .agg #[.slice none 0 0, .slice none 0 0, .slice none 0 0]] W fun e w' => e = .returned (.bool false) ∧ Kept (fun _ => False) wc3 w') := by
      intro W hW
      refine (meet_any d0 n0 n0 A0 d1 n1 n1 A1 d2 n2 n2 A2 none 0 0 (fun _ => ByteArray.empty) none 0 0 (fun _ => ByteArray.empty) none 0 0 (fun _ => ByteArray.empty) W
        ((unhide H0).keptAll hW) ((unhide H1).keptAll hW) ((unhide H2).keptAll hW) (.inl rfl) (.inl rfl) (.inl rfl) (unhide S0) (unhide S1) (unhide S2)
        (fun _ _ _ hj => absurd hj (Nat.not_lt_zero _)) (fun _ _ _ hj => absurd hj (Nat.not_lt_zero _)) (fun _ _ _ hj => absurd hj (Nat.not_lt_zero _)) (by omega) (by omega) (by omega) (by omega) (by omega) (by omega)).mono ?_
      rintro e w' ⟨rfl, hk⟩
      exact ⟨by rw [meets_nil], hW.trans hk (fun _ _ e => e)⟩
    go_region_with (first | (go_at_call 8; refine (new_any _ _ _ _ _ _ _ _ _ _ _ _ _ rfl rfl rfl).mono ?_; rintro e w8 ⟨rfl, rfl⟩) | (go_at_call 9; refine (unhide HM _ (by first | exact ((Kept.refl _ wc3).alloc _).drew | exact (Kept.refl _ wc3).alloc _)).mono ?_; rintro e w8 ⟨rfl, hk⟩))
    all_goals go_wp2_with fail
    all_goals go_meet
    all_goals go_light
    all_goals first | exact ⟨rfl, by assumption⟩ | exact ⟨rfl, Kept.drew (by assumption)⟩
  case rest =>
  obtain ⟨rfl, hk⟩ := hcut
  clear xBC0 xBC1 xBC2
  replace HK := hide ((unhide HK).trans hk (fun _ _ e => e))
  replace H0 := hide ((unhide H0).keptAll hk)
  replace H1 := hide ((unhide H1).keptAll hk)
  replace H2 := hide ((unhide H2).keptAll hk)
  replace H3 := hide ((unhide H3).keptAll hk)
  replace H4 := hide ((unhide H4).keptAll hk)
  replace H5 := hide ((unhide H5).keptAll hk)
  replace BC := hide ((unhide BC).kept hk)
  clear hk
  by_cases hn0 : n0 = 0
  · subst hn0
    go_wp2_with fail
    go_ret
    exact ⟨rfl, unhide HK⟩
  · have hn1 : ((n0 : Int) == 0) = false := by simpa using hn0
    have xBC0 := (unhide BC).c0
    have xBC1 := (unhide BC).c1
    have xBC2 := (unhide BC).c2
    go_wp2_with fail
    refine (meet_any d0 n0 n0 A0 d1 n1 n1 A1 d2 n2 n2 A2 d0 n0 n0 A0 d1 n1 n1 A1 d2 n2 n2 A2 wc (unhide H0) (unhide H1) (unhide H2) (unhide H0) (unhide H1) (unhide H2) (unhide S0) (unhide S1) (unhide S2) (unhide S0) (unhide S1) (unhide S2) (by omega) (by omega) (by omega) (by omega) (by omega) (by omega)).mono ?_
    rintro e w9 ⟨rfl, hk⟩
    rw [meets_self A0 n0 A1 n1 A2 n2 (by omega)]
    replace HK := hide ((unhide HK).trans hk (fun _ _ e => e))
    clear hk
    go_wp2_with fail
    go_ret
    exact ⟨rfl, unhide HK⟩

end Go.Proofs.Qxb6616724a
