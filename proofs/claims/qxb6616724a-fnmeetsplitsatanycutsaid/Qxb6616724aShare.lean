/- Sorted, found, shared. -/
import Derived.Test.Qxb6616724aSizes
import Derived.Shelf.SlSorted.Search
import Derived.Shelf.Lay
import Derived.Ground.SlsoProg
import Derived.Deep.Cut
namespace Go.Proofs
open Go.Shelf
shelf_lay SlLaysO.n15 Slso 15 at Try as Try.searchStrings
end Go.Proofs
namespace Go.Proofs.Qxb6616724a
open Go.RowKit

theorem kept_of_below {w w' : World} (h : Below w.heap.size w w') : Kept (fun _ => False) w w' := ⟨h.1, h.2, h.3, h.4, fun i hi _ => h.5 i hi⟩

theorem less_iff (a b : ByteArray) : Op.bytesLess a.toList b.toList = decide (ltS a b) := by
  rw [bytesLess_eq, ByteArray.toList_eq, ByteArray.toList_eq]

theorem drewN_twice (w : World) (a b : Nat) : ∃ q, (w.drewN a).drewN b = w.drewN q := ⟨a + b, by simp [World.drewN, Nat.add_assoc]⟩

/-- where SearchStrings points -/
def Found (e : Ending) (B : Nat → ByteArray) (m : Nat) (x : ByteArray) : Prop := ∃ p : Nat, e = .returned (.int .i64 p) ∧ p ≤ m ∧ ((p < m ∧ B p = x) ↔ ∃ j, j < m ∧ x = B j)

theorem find_any (b : Option Addr) (m cb : Nat) (B : Nat → ByteArray) (x : ByteArray) (w : World) (h : Row w b m B) (hs : Sorted B m) (hm : m < 4611686018427387904) :
    Calls Try.prog 15 #[.slice b m cb, .string x] w fun e w' => Found e B m x ∧ Kept (fun _ => False) w w' := by
  by_cases h0 : m = 0
  · subst h0
    refine (Any.sort_SearchStrings_none Try.searchStrings b cb x w).mono ?_
    rintro e w' ⟨rfl, hb⟩
    exact ⟨⟨0, rfl, Nat.le_refl _, ⟨fun h => absurd h.1 (Nat.lt_irrefl _), fun ⟨j, hj, _⟩ => absurd hj (Nat.not_lt_zero _)⟩⟩, kept_of_below hb⟩
  · obtain ⟨bb, off, rfl, hc⟩ := h.at (by omega)
    have hget : ∀ i, i < m → ((List.range m).map B).toArray[i]! = B i := by
      intro i hi
      rw [getElem!_pos _ i (by simpa using hi)]
      simp
    have hsize : ((List.range m).map B).toArray.size = m := by simp
    have hcon := Any.sort_SearchStrings Try.searchStrings bb off cb ((List.range m).map B).toArray x w (fun i hi => by rw [hsize] at hi; rw [hget i hi]; exact hc i hi) (World.block_lt_of_cell? _ _ (hc 0 (by omega))) (by rw [hsize]; exact hm)
      (fun a b hab hb h1 => by
        rw [hsize] at hb
        rw [hget a (by omega)] at h1
        rw [hget b hb]
        simp only [Bool.not_eq_true', decide_eq_false_iff_not] at h1 ⊢
        exact leS_trans h1 (hs a b hab hb))
    have hcount := Lib.countP_range ((List.range m).map B).toArray (fun y => !!decide (y.data.toList < x.data.toList))
    rw [← hcount, hsize] at hcon
    have hcc : (List.range m).countP (fun i => !!decide (((List.range m).map B).toArray[i]!.data.toList < x.data.toList)) = (List.range m).countP (fun i => decide (ltS (B i) x)) := by
      refine List.countP_congr (fun i hi => ?_)
      rw [hget i (by simpa using hi), Bool.not_not]
    rw [hcc] at hcon
    obtain ⟨k1, k2⟩ := count_falling (fun i => decide (ltS (B i) x)) m (fun a b hab hb h1 => by
      simp only [decide_eq_true_eq] at h1 ⊢
      exact Classical.byContradiction fun hn => absurd h1 (leS_trans hn (hs a b hab hb)))
    refine hcon.mono ?_
    rintro e w' ⟨rfl, hb⟩
    refine ⟨⟨_, rfl, k1, ?_⟩, kept_of_below hb⟩
    generalize (List.range m).countP (fun i => decide (ltS (B i) x)) = p at *
    constructor
    · rintro ⟨h1, h2⟩
      exact ⟨p, h1, h2.symm⟩
    · rintro ⟨j, hj, rfl⟩
      have hpj : p ≤ j := by
        rcases Nat.lt_or_ge j p with hlt | hge
        · have := (k2 j hj).2 hlt
          simp only [decide_eq_true_eq] at this
          exact absurd this (ltS_irrefl _)
        · exact hge
      refine ⟨by omega, ?_⟩
      have h1 : ¬ ltS (B p) (B j) := fun hl => by
        have := (k2 p (by omega)).1 (by simpa using hl)
        omega
      exact leS_antisymm (hs p j hpj hj) h1

set_option maxRecDepth 100000 in
set_option maxHeartbeats 4000000 in
theorem sorted_any (a : Option Addr) (n c : Nat) (A : Nat → ByteArray) (w : World) (h : Row w a n A) (hn : n ≤ 4611686018427387904) :
    Calls Try.prog 13 #[.slice a n c] w fun e w' => Says e (Sorted A n) ∧ Kept (fun _ => False) w w' := by
  have HR := hide h
  clear h
  by_cases h0 : n = 0
  · subst h0
    go_enter Try.func13, Try.ntmps13
    go_wp2
    refine wp_loop_rounds 1 ?_
    rw [rounds_succ]
    go_wp2
    go_ret
    exact ⟨says_true (fun i j _ hj => absurd hj (Nat.not_lt_zero _)), Kept.refl _ w⟩
  obtain ⟨b, off, rfl, hc⟩ := (unhide HR).at (by omega)
  have HC := hide hc
  clear HR hc
  go_enter Try.func13, Try.ntmps13
  go_wp2
  go_loopw [3] (fun i wr => ∃ j : Nat, 1 ≤ j ∧ j ≤ n ∧ i = .int .i64 j ∧ (∀ t, t + 1 < j → ¬ ltS (A (t + 1)) (A t)) ∧ ∃ q, wr = w.drewN q) (fun i _ => n - (intOf i).toNat)
  case atStart => exact ⟨1, by omega, by omega, rfl, fun t ht => by omega, 0, rfl⟩
  case round =>
    obtain ⟨j, hj1, hj, rfl, hso, q, rfl⟩ := hrel
    have HSO := hide hso
    clear hso
    by_cases hlt : j < n
    · obtain ⟨k, rfl⟩ : ∃ k, j = k + 1 := ⟨j - 1, by omega⟩
      have c1 : (w.drewN q).cell? ⟨b, off + (k + 1), none⟩ = some (.string (A (k + 1))) := unhide HC (k + 1) hlt
      have c2 : (w.drewN q).cell? ⟨b, off + k, none⟩ = some (.string (A k)) := unhide HC k (by omega)
      have hks : ((k + 1 : Nat) : Int) - 1 = (k : Int) := by omega
      have hls := less_iff (A (k + 1)) (A k)
      generalize hx : A (k + 1) = x at *
      generalize hy : A k = y at *
      have HX := hide hx
      have HY := hide hy
      clear hx hy
      have HD : Hid (∃ q', w.drewN q = w.drewN q') := ⟨q, rfl⟩
      generalize w.drewN q = w1 at *
      by_cases hl : ltS x y
      · have hlb : Op.bytesLess x.toList y.toList = true := by rw [hls]; exact decide_eq_true hl
        clear hls
        go_wp2_with fail
        go_quiet (fail)
        go_wp2
        go_ret
        exact ⟨says_false _, by obtain ⟨q', e⟩ := unhide HD; rw [e]; exact (Kept.ofDrewN _ w q').drewN _⟩
      · have hlb : Op.bytesLess x.toList y.toList = false := by rw [hls]; exact decide_eq_false hl
        clear hls
        have HL := hide hl
        clear hl
        go_wp2_with fail
        go_quiet (fail)
        go_wp2
        go_roundw
        case rel => exact ⟨k + 2, by omega, by omega, by go_num, fun t ht => by
          by_cases e : t = k
          · subst e; rw [unhide HX, unhide HY]; exact unhide HL
          · exact unhide HSO t (by omega), by obtain ⟨q', e⟩ := unhide HD; rw [e]; exact drewN_twice w q' _⟩
        case measure => simp [intOf]; omega
    · have e : j = n := by omega
      subst e
      go_wp2
      go_ret
      exact ⟨says_true (sorted_of_steps (unhide HSO)), Kept.ofDrewN _ w q⟩

set_option maxRecDepth 100000 in
set_option maxHeartbeats 4000000 in
theorem sorted6_any (a0 : Option Addr) (n0 c0 : Nat) (A0 : Nat → ByteArray) (a1 : Option Addr) (n1 c1 : Nat) (A1 : Nat → ByteArray) (a2 : Option Addr) (n2 c2 : Nat) (A2 : Nat → ByteArray) (a3 : Option Addr) (n3 c3 : Nat) (A3 : Nat → ByteArray) (a4 : Option Addr) (n4 c4 : Nat) (A4 : Nat → ByteArray) (a5 : Option Addr) (n5 c5 : Nat) (A5 : Nat → ByteArray) (w : World) (h0 : Row w a0 n0 A0) (h1 : Row w a1 n1 A1) (h2 : Row w a2 n2 A2) (h3 : Row w a3 n3 A3) (h4 : Row w a4 n4 A4) (h5 : Row w a5 n5 A5) (l0 : n0 ≤ 4611686018427387904) (l1 : n1 ≤ 4611686018427387904) (l2 : n2 ≤ 4611686018427387904) (l3 : n3 ≤ 4611686018427387904) (l4 : n4 ≤ 4611686018427387904) (l5 : n5 ≤ 4611686018427387904) :
    Calls Try.prog 7 #[.slice a0 n0 c0, .slice a1 n1 c1, .slice a2 n2 c2, .slice a3 n3 c3, .slice a4 n4 c4, .slice a5 n5 c5] w fun e w' => Says e (Sorted A0 n0 ∧ Sorted A1 n1 ∧ Sorted A2 n2 ∧ Sorted A3 n3 ∧ Sorted A4 n4 ∧ Sorted A5 n5) ∧ Kept (fun _ => False) w w' := by
  have H0 := hide h0
  have H1 := hide h1
  have H2 := hide h2
  have H3 := hide h3
  have H4 := hide h4
  have H5 := hide h5
  clear h0 h1 h2 h3 h4 h5
  go_enter Try.func7, Try.ntmps7
  go_wp2_with fail
  refine (sorted_any a0 n0 c0 A0 w (unhide H0) l0).mono ?_
  rintro e w0 ⟨⟨b0, rfl, s0⟩, hk⟩
  have K0 := hide hk
  have S0 := hide s0
  clear hk s0
  cases b0 with
  | false =>
    go_wp2_with fail
    go_ret
    exact ⟨says_false _, unhide K0⟩
  | true =>
    go_wp2_with fail
    refine (sorted_any a1 n1 c1 A1 w0 ((unhide H1).kept (unhide K0) (fun _ _ e => e)) l1).mono ?_
    rintro e w1 ⟨⟨b1, rfl, s1⟩, hk⟩
    have K1 := hide ((unhide K0).trans hk (fun _ _ e => e))
    have S1 := hide s1
    clear hk s1
    cases b1 with
    | false =>
      go_wp2_with fail
      go_ret
      exact ⟨says_false _, unhide K1⟩
    | true =>
      go_wp2_with fail
      refine (sorted_any a2 n2 c2 A2 w1 ((unhide H2).kept (unhide K1) (fun _ _ e => e)) l2).mono ?_
      rintro e w2 ⟨⟨b2, rfl, s2⟩, hk⟩
      have K2 := hide ((unhide K1).trans hk (fun _ _ e => e))
      have S2 := hide s2
      clear hk s2
      cases b2 with
      | false =>
        go_wp2_with fail
        go_ret
        exact ⟨says_false _, unhide K2⟩
      | true =>
        go_wp2_with fail
        refine (sorted_any a3 n3 c3 A3 w2 ((unhide H3).kept (unhide K2) (fun _ _ e => e)) l3).mono ?_
        rintro e w3 ⟨⟨b3, rfl, s3⟩, hk⟩
        have K3 := hide ((unhide K2).trans hk (fun _ _ e => e))
        have S3 := hide s3
        clear hk s3
        cases b3 with
        | false =>
          go_wp2_with fail
          go_ret
          exact ⟨says_false _, unhide K3⟩
        | true =>
          go_wp2_with fail
          refine (sorted_any a4 n4 c4 A4 w3 ((unhide H4).kept (unhide K3) (fun _ _ e => e)) l4).mono ?_
          rintro e w4 ⟨⟨b4, rfl, s4⟩, hk⟩
          have K4 := hide ((unhide K3).trans hk (fun _ _ e => e))
          have S4 := hide s4
          clear hk s4
          cases b4 with
          | false =>
            go_wp2_with fail
            go_ret
            exact ⟨says_false _, unhide K4⟩
          | true =>
            go_wp2_with fail
            refine (sorted_any a5 n5 c5 A5 w4 ((unhide H5).kept (unhide K4) (fun _ _ e => e)) l5).mono ?_
            rintro e w5 ⟨⟨b5, rfl, s5⟩, hk⟩
            have K5 := hide ((unhide K4).trans hk (fun _ _ e => e))
            have S5 := hide s5
            clear hk s5
            cases b5 with
            | false =>
              go_wp2_with fail
              go_ret
              exact ⟨says_false _, unhide K5⟩
            | true =>
              go_wp2_with fail
              go_ret
              exact ⟨says_true ⟨unhide S0 (by first | rfl | trivial), unhide S1 (by first | rfl | trivial), unhide S2 (by first | rfl | trivial), unhide S3 (by first | rfl | trivial), unhide S4 (by first | rfl | trivial), unhide S5 (by first | rfl | trivial)⟩, unhide K5⟩

/-- the two lists, the shorter first or not -/
def Sides (w : World) (s0 s1 : Value) (r : Bool) : Prop := ∃ (a : Option Addr) (n ca : Nat) (A : Nat → ByteArray) (b : Option Addr) (m cb : Nat) (B : Nat → ByteArray), s0 = .slice a n ca ∧ s1 = .slice b m cb ∧ Row w a n A ∧ Row w b m B ∧ Sorted A n ∧ Sorted B m ∧ n < 4611686018427387904 ∧ m < 4611686018427387904 ∧ common A n B m = r

set_option maxRecDepth 100000 in
set_option maxHeartbeats 4000000 in
theorem share_any (a : Option Addr) (n ca : Nat) (A : Nat → ByteArray) (b : Option Addr) (m cb : Nat) (B : Nat → ByteArray) (w : World) (hA : Row w a n A) (hB : Row w b m B) (sA : Sorted A n) (sB : Sorted B m) (hn : n < 4611686018427387904) (hm : m < 4611686018427387904) :
    Calls Try.prog 14 #[.slice a n ca, .slice b m cb] w fun e w' => e = .returned (.bool (common A n B m)) ∧ Kept (fun _ => False) w w' := by
  have S1 : Hid (Sides w (.slice a n ca) (.slice b m cb) (common A n B m)) := ⟨a, n, ca, A, b, m, cb, B, rfl, rfl, hA, hB, sA, sB, hn, hm, rfl⟩
  have S2 : Hid (Sides w (.slice b m cb) (.slice a n ca) (common A n B m)) := ⟨b, m, cb, B, a, n, ca, A, rfl, rfl, hB, hA, sB, sA, hm, hn, common_comm B m A n⟩
  clear hA hB sA sB
  generalize common A n B m = r at *
  go_enter Try.func14, Try.ntmps14
  go_upto_if 12 with fail
  go_cut [0, 1] from 5 (fun s0 s1 wc => wc = w ∧ Sides w s0 s1 r)
  case first =>
    by_cases hnm : (m : Int) < n
    · go_wp2
      go_meet
      exact ⟨rfl, unhide S2⟩
    · go_wp2
      go_meet
      exact ⟨rfl, unhide S1⟩
  case rest =>
    obtain ⟨rfl, a, n, ca, A, b, m, cb, B, rfl, rfl, hA, hB, sA, sB, hn, hm, hr⟩ := hcut
    have HA := hide hA
    have HB := hide hB
    have SB := hide sB
    have HR := hide hr
    clear hA hB sA sB hr S1 S2
    go_wp2
    go_loopw [17, 6, 7] (fun i _ _ wr => ∃ j : Nat, j ≤ n ∧ i = .int .i64 j ∧ (∀ t, t < j → ¬ ∃ u, u < m ∧ A t = B u) ∧ Kept (fun _ => False) wc wr) (fun i _ _ _ => n - (intOf i).toNat)
    case atStart => exact ⟨0, by omega, rfl, fun t ht => by omega, Kept.refl _ wc⟩
    case round =>
      obtain ⟨j, hj, rfl, hno, hk⟩ := hrel
      have HNO := hide hno
      have HK := hide hk
      have HBr := hide ((unhide HB).kept hk (fun _ _ e => e))
      have HAr := hide ((unhide HA).kept hk (fun _ _ e => e))
      clear hno hk
      by_cases hlt : j < n
      · obtain ⟨ab, aoff, rfl, hc⟩ := (unhide HAr).at (by omega)
        have c1 := hc j hlt
        generalize hx : A j = x at *
        have HX := hide hx
        clear hc hx
        go_wp2_with fail
        refine (find_any b m cb B x wr (unhide HBr) (unhide SB) hm).mono ?_
        rintro e w2 ⟨⟨p, rfl, hpm, hp⟩, hk2⟩
        have HP := hide hp
        have HK2 := hide ((unhide HK).trans hk2 (fun _ _ e => e))
        have HB2 := hide ((unhide HBr).kept hk2 (fun _ _ e => e))
        clear hp hk2 c1 HK HBr HAr
        by_cases hpl : p < m
        · obtain ⟨bb, boff, rfl, hc⟩ := (unhide HB2).at (by omega)
          have c2 := hc p hpl
          clear hc
          by_cases hbx : B p = x
          · rw [hbx] at c2
            have hyes : r = true := by
              rw [← unhide HR, common_iff]
              obtain ⟨u, hu, e⟩ := (unhide HP).1 ⟨hpl, hbx⟩
              exact ⟨j, hlt, u, hu, (unhide HX).trans e⟩
            subst hyes
            clear hbx HP HX HNO HR
            go_wp2
            go_ret
            exact ⟨rfl, unhide HK2⟩
          · have hno2 : ¬ ∃ u, u < m ∧ x = B u := fun h => hbx ((unhide HP).2 h).2
            have HN2 := hide hno2
            clear hno2
            generalize B p = y at *
            have hyx : (y.toList == x.toList) = false := by
              rw [beq_eq_false_iff_ne]
              intro e
              rw [ByteArray.toList_eq, ByteArray.toList_eq] at e
              exact hbx (ByteArray.ext (Array.ext' e))
            clear hbx
            go_wp2
            go_roundw
            case rel => exact ⟨j + 1, by omega, by go_num, fun t ht => by
              by_cases e : t = j
              · subst e; rw [unhide HX]; exact unhide HN2
              · exact unhide HNO t (by omega), unhide HK2⟩
            case measure => simp [intOf]; omega
        · have hno2 : ¬ ∃ u, u < m ∧ x = B u := fun h => hpl ((unhide HP).2 h).1
          have HN2 := hide hno2
          clear hno2
          go_wp2
          go_roundw
          case rel => exact ⟨j + 1, by omega, by go_num, fun t ht => by
            by_cases e : t = j
            · subst e; rw [unhide HX]; exact unhide HN2
            · exact unhide HNO t (by omega), unhide HK2⟩
          case measure => simp [intOf]; omega
      · have e : j = n := by omega
        subst e
        have hnot : r = false := by
          rw [← unhide HR, Bool.eq_false_iff]
          intro h
          obtain ⟨t, ht, u⟩ := common_iff.1 h
          exact unhide HNO t ht u
        subst hnot
        clear HNO HR
        go_wp2
        go_ret
        exact ⟨rfl, unhide HK⟩

end Go.Proofs.Qxb6616724a
