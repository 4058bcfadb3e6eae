/- Meet. -/
import Derived.Test.Qxb6616724aShare
namespace Go.Proofs.Qxb6616724a
open Go.RowKit

/-- a variable of the type Changes -/
structure Box (w : World) (x : Nat) (v0 v1 v2 : Value) : Prop where
  c0 : w.cell? ⟨x, 0, none⟩ = some v0
  c1 : w.cell? ⟨x, 1, none⟩ = some v1
  c2 : w.cell? ⟨x, 2, none⟩ = some v2
theorem Box.kept {w w' : World} {x : Nat} {v0 v1 v2 : Value} (h : Box w x v0 v1 v2) (k : Kept (fun _ => False) w w') : Box w' x v0 v1 v2 := ⟨k.cell h.c0 (fun e => e), k.cell h.c1 (fun e => e), k.cell h.c2 (fun e => e)⟩
theorem Row.keptAll {w w' : World} {a : Option Addr} {n : Nat} {A : Nat → ByteArray} (h : Row w a n A) (k : Kept (fun _ => False) w w') : Row w' a n A := h.kept k (fun _ _ e => e)
theorem box_of {w : World} {x : Nat} {v0 v1 v2 : Value} {t : TypeId} (h : w.heap[x]? = some (.cells #[v0, v1, v2] t (0, 0))) : Box w x v0 v1 v2 := ⟨by rw [blk_cell h]; rfl, by rw [blk_cell h]; rfl, by rw [blk_cell h]; rfl⟩

set_option maxRecDepth 100000 in
set_option maxHeartbeats 4000000 in
theorem meet_any (a0 : Option Addr) (n0 c0 : Nat) (A0 : Nat → ByteArray) (a1 : Option Addr) (n1 c1 : Nat) (A1 : Nat → ByteArray) (a2 : Option Addr) (n2 c2 : Nat) (A2 : Nat → ByteArray) (a3 : Option Addr) (n3 c3 : Nat) (A3 : Nat → ByteArray) (a4 : Option Addr) (n4 c4 : Nat) (A4 : Nat → ByteArray) (a5 : Option Addr) (n5 c5 : Nat) (A5 : Nat → ByteArray) (w : World) (h0 : Row w a0 n0 A0) (h1 : Row w a1 n1 A1) (h2 : Row w a2 n2 A2) (h3 : Row w a3 n3 A3) (h4 : Row w a4 n4 A4) (h5 : Row w a5 n5 A5) (s0 : Sorted A0 n0) (s1 : Sorted A1 n1) (s2 : Sorted A2 n2) (s3 : Sorted A3 n3) (s4 : Sorted A4 n4) (s5 : Sorted A5 n5) (l0 : n0 < 4611686018427387904) (l1 : n1 < 4611686018427387904) (l2 : n2 < 4611686018427387904) (l3 : n3 < 4611686018427387904) (l4 : n4 < 4611686018427387904) (l5 : n5 < 4611686018427387904) :
    Calls Try.prog 9 #[.agg #[.slice a0 n0 c0, .slice a1 n1 c1, .slice a2 n2 c2], .agg #[.slice a3 n3 c3, .slice a4 n4 c4, .slice a5 n5 c5]] w fun e w' => e = .returned (.bool (meets A0 n0 A1 n1 A2 n2 A3 n3 A4 n4 A5 n5)) ∧ Kept (fun _ => False) w w' := by
  have H0 := hide h0
  have S0 := hide s0
  have H1 := hide h1
  have S1 := hide s1
  have H2 := hide h2
  have S2 := hide s2
  have H3 := hide h3
  have S3 := hide s3
  have H4 := hide h4
  have S4 := hide s4
  have H5 := hide h5
  have S5 := hide s5
  clear h0 h1 h2 h3 h4 h5 s0 s1 s2 s3 s4 s5
  go_enter Try.func9, Try.ntmps9
  go_wp2_with fail
  have hk := ((Kept.refl (fun _ => False) w).alloc (.cells #[.slice a0 n0 c0, .slice a1 n1 c1, .slice a2 n2 c2] 25)).alloc (.cells #[.slice a3 n3 c3, .slice a4 n4 c4, .slice a5 n5 c5] 25)
  have hx := (Below.heap_alloc (w.alloc (.cells #[.slice a0 n0 c0, .slice a1 n1 c1, .slice a2 n2 c2] 25)) (.cells #[.slice a3 n3 c3, .slice a4 n4 c4, .slice a5 n5 c5] 25) w.heap.size (by simp)).trans (heap_alloc_new w (.cells #[.slice a0 n0 c0, .slice a1 n1 c1, .slice a2 n2 c2] 25))
  have hy := heap_alloc_new (w.alloc (.cells #[.slice a0 n0 c0, .slice a1 n1 c1, .slice a2 n2 c2] 25)) (.cells #[.slice a3 n3 c3, .slice a4 n4 c4, .slice a5 n5 c5] 25)
  rw [show (w.alloc (.cells #[.slice a0 n0 c0, .slice a1 n1 c1, .slice a2 n2 c2] 25)).heap.size = w.heap.size + 1 by simp] at hy
  have BX := hide (box_of hx)
  have BY := hide (box_of hy)
  have HK := hide hk
  clear hk hx hy
  generalize (w.alloc (.cells #[.slice a0 n0 c0, .slice a1 n1 c1, .slice a2 n2 c2] 25)).alloc (.cells #[.slice a3 n3 c3, .slice a4 n4 c4, .slice a5 n5 c5] 25) = w0 at *
  generalize w.heap.size + 1 = y at *
  generalize w.heap.size = x at *
  refine (share_any a0 n0 c0 A0 a3 n3 c3 A3 w0 ((unhide H0).keptAll (unhide HK)) ((unhide H3).keptAll (unhide HK)) (unhide S0) (unhide S3) l0 l3).mono ?_
  rintro e w1 ⟨rfl, hk⟩
  replace HK := hide ((unhide HK).trans hk (fun _ _ e => e))
  replace BX := hide ((unhide BX).kept hk)
  replace BY := hide ((unhide BY).kept hk)
  clear hk
  have x0 := (unhide BX).c0
  have x1 := (unhide BX).c1
  have x2 := (unhide BX).c2
  have y0 := (unhide BY).c0
  have y1 := (unhide BY).c1
  have y2 := (unhide BY).c2
  cases hb0 : common A0 n0 A3 n3 with
  | true =>
    have HB0 := hide hb0
    clear hb0
    go_wp2_with fail
    go_ret
    exact ⟨by unfold meets; rw [unhide HB0]; simp, unhide HK⟩
  | false =>
    have HB0 := hide hb0
    clear hb0
    go_wp2_with fail
    clear x0 x1 x2 y0 y1 y2
    refine (share_any a0 n0 c0 A0 a4 n4 c4 A4 w1 ((unhide H0).keptAll (unhide HK)) ((unhide H4).keptAll (unhide HK)) (unhide S0) (unhide S4) l0 l4).mono ?_
    rintro e w2 ⟨rfl, hk⟩
    replace HK := hide ((unhide HK).trans hk (fun _ _ e => e))
    replace BX := hide ((unhide BX).kept hk)
    replace BY := hide ((unhide BY).kept hk)
    clear hk
    have x0 := (unhide BX).c0
    have x1 := (unhide BX).c1
    have x2 := (unhide BX).c2
    have y0 := (unhide BY).c0
    have y1 := (unhide BY).c1
    have y2 := (unhide BY).c2
    cases hb1 : common A0 n0 A4 n4 with
    | true =>
      have HB1 := hide hb1
      clear hb1
      go_wp2_with fail
      go_ret
      exact ⟨by unfold meets; rw [unhide HB0, unhide HB1]; simp, unhide HK⟩
    | false =>
      have HB1 := hide hb1
      clear hb1
      go_wp2_with fail
      clear x0 x1 x2 y0 y1 y2
      refine (share_any a1 n1 c1 A1 a3 n3 c3 A3 w2 ((unhide H1).keptAll (unhide HK)) ((unhide H3).keptAll (unhide HK)) (unhide S1) (unhide S3) l1 l3).mono ?_
      rintro e w3 ⟨rfl, hk⟩
      replace HK := hide ((unhide HK).trans hk (fun _ _ e => e))
      replace BX := hide ((unhide BX).kept hk)
      replace BY := hide ((unhide BY).kept hk)
      clear hk
      have x0 := (unhide BX).c0
      have x1 := (unhide BX).c1
      have x2 := (unhide BX).c2
      have y0 := (unhide BY).c0
      have y1 := (unhide BY).c1
      have y2 := (unhide BY).c2
      cases hb2 : common A1 n1 A3 n3 with
      | true =>
        have HB2 := hide hb2
        clear hb2
        go_wp2_with fail
        go_ret
        exact ⟨by unfold meets; rw [unhide HB0, unhide HB1, unhide HB2]; simp, unhide HK⟩
      | false =>
        have HB2 := hide hb2
        clear hb2
        go_wp2_with fail
        clear x0 x1 x2 y0 y1 y2
        refine (share_any a2 n2 c2 A2 a4 n4 c4 A4 w3 ((unhide H2).keptAll (unhide HK)) ((unhide H4).keptAll (unhide HK)) (unhide S2) (unhide S4) l2 l4).mono ?_
        rintro e w4 ⟨rfl, hk⟩
        replace HK := hide ((unhide HK).trans hk (fun _ _ e => e))
        replace BX := hide ((unhide BX).kept hk)
        replace BY := hide ((unhide BY).kept hk)
        clear hk
        have x0 := (unhide BX).c0
        have x1 := (unhide BX).c1
        have x2 := (unhide BX).c2
        have y0 := (unhide BY).c0
        have y1 := (unhide BY).c1
        have y2 := (unhide BY).c2
        cases hb3 : common A2 n2 A4 n4 with
        | true =>
          have HB3 := hide hb3
          clear hb3
          go_wp2_with fail
          go_ret
          exact ⟨by unfold meets; rw [unhide HB0, unhide HB1, unhide HB2, unhide HB3]; simp, unhide HK⟩
        | false =>
          have HB3 := hide hb3
          clear hb3
          go_wp2_with fail
          clear x0 x1 x2 y0 y1 y2
          refine (share_any a1 n1 c1 A1 a5 n5 c5 A5 w4 ((unhide H1).keptAll (unhide HK)) ((unhide H5).keptAll (unhide HK)) (unhide S1) (unhide S5) l1 l5).mono ?_
          rintro e w5 ⟨rfl, hk⟩
          replace HK := hide ((unhide HK).trans hk (fun _ _ e => e))
          replace BX := hide ((unhide BX).kept hk)
          replace BY := hide ((unhide BY).kept hk)
          clear hk
          have x0 := (unhide BX).c0
          have x1 := (unhide BX).c1
          have x2 := (unhide BX).c2
          have y0 := (unhide BY).c0
          have y1 := (unhide BY).c1
          have y2 := (unhide BY).c2
          cases hb4 : common A1 n1 A5 n5 with
          | true =>
            have HB4 := hide hb4
            clear hb4
            go_wp2_with fail
            go_ret
            exact ⟨by unfold meets; rw [unhide HB0, unhide HB1, unhide HB2, unhide HB3, unhide HB4]; simp, unhide HK⟩
          | false =>
            have HB4 := hide hb4
            clear hb4
            go_wp2_with fail
            go_ret
            exact ⟨by unfold meets; rw [unhide HB0, unhide HB1, unhide HB2, unhide HB3, unhide HB4]; simp, unhide HK⟩

end Go.Proofs.Qxb6616724a
