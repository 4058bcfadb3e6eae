/- FnDictKeysGrowAtAnyCut: the walk. -/
import Derived.Test.Qxb6616518aSteps
namespace Go.Proofs.Qxb6616518a
open Go.RowKit Go.Maps
open Pl (fk lv hk hist)

set_option maxHeartbeats 4000000 in
theorem grow_any (a : Option Addr) (n c : Nat) (cut : Int) (K : Nat → ByteArray) (V : Nat → Int) (w : World) (hs : Script w a n K V) (ha : n ≠ 0 → ∀ x, a = some x → x.block < w.heap.size) (hnc : n ≤ c) (hcm : c ≤ maxLen) (hcut : (Lit.int .i64 cut).wf = true) :
    Calls Try.prog 4 #[.slice a n c, .int .i64 cut] w fun e w' => e = .returned (.bool true) ∧ Below w.heap.size w w' := by
  have HA := hide ha
  clear ha
  have HS := hide hs
  clear hs
  go_enter Try.func4, Try.ntmps4
  go_wp2_with fail
  refine (bytes18_any a n c cut K V w (unhide HS) (by omega)).mono ?_
  rintro e w ⟨⟨r, rfl, hr⟩, rfl⟩
  cases r with
  | false =>
    go_wp2
    go_ret
    exact ⟨rfl, Below.refl _ _⟩
  | true =>
  have hn := hr rfl
  clear hr
  go_wp2_with fail
  refine (tooBig_any a n c 0 K V _ (unhide HS) (by omega) (by omega) hn).mono ?_
  rintro e w ⟨⟨r, rfl, hr⟩, rfl⟩
  cases r with
  | true =>
    go_wp2
    go_ret
    exact ⟨rfl, Below.refl _ _⟩
  | false =>
  have hn4 := hr rfl
  clear hr
  by_cases hc0 : cut < 0
  · go_wp2
    go_ret
    exact ⟨rfl, Below.refl _ _⟩
  by_cases hc1 : (n : Int) < cut
  · go_wp2
    go_ret
    exact ⟨rfl, Below.refl _ _⟩
  obtain ⟨m, rfl⟩ : ∃ m : Nat, cut = m := ⟨cut.toNat, by omega⟩
  have hmn : m ≤ n := by omega
  clear hc0 hc1 hcut
  go_wp2_with fail
  refine (newDict_any w.heap.size w (Nat.le_refl _)).mono ?_
  rintro e wa ⟨rfl, hd, hka⟩
  have hlo : Lo w.heap.size w wa := hka.mono (fun _ _ e => e.elim)
  have HD := hide hd
  have HL := hide hlo
  clear hd hka hlo
  generalize hB : w.heap.size = B at *
  generalize hdb : B + 1 = db at *
  have HB := hide hB
  clear hB hdb
  go_wp2_with fail
  refine (feed_any B wa db B _ [] a m c K V (unhide HD) ((Lo.script (unhide HL) (unhide HS) (unhide HA)).take hmn) (fun h0 => unhide HA (by omega)) (by simp; omega) (by have := (unhide HL).size; have := unhide HB; omega)).mono ?_
  rintro e wb ⟨rfl, v1, hd1, _, hk1⟩
  rw [List.nil_append] at hd1
  obtain ⟨a1, c1, rfl, hst1, hob1⟩ := strs_of_owns hd1.row
  have hlo : Lo B w wb := (unhide HL).trans hk1 (fun i _ e => (unhide HD).foot_lo i e)
  clear HD HL hk1
  have HD := hide hd1
  have HL := hide hlo
  have HT := hide hst1
  have hl1 := Pl.fk_length (hist K V m)
  rw [Pl.hist_length] at hl1
  have HO := hide hob1
  clear hd1 hlo hst1 hob1
  go_wp2_with fail
  refine (keys_any B wb db B _ _ (unhide HD)).mono ?_
  rintro e wb ⟨rfl, rfl⟩
  go_wp2_with fail
  refine (copy_any a1 c1 _ wb (unhide HT) (by omega)).mono ?_
  rintro e wc ⟨⟨ch, rfl, hsth⟩, hkc, _⟩
  have hfoot : ¬ Foot db B (.slice a1 (fk (hist K V m)).length c1) wb.heap.size := fun e => by have := (unhide HD).foot_lt _ e; omega
  have hBh : B ≤ wb.heap.size := by have := (unhide HL).size; have := unhide HB; omega
  have hd1 := (unhide HD).kept hkc (fun _ _ e => e)
  have hlo := (unhide HL).trans hkc (fun _ _ e => e.elim)
  clear HD HL HT HO hkc
  generalize wb.heap.size = h0 at *
  have HD := hide hd1
  have HL := hide hlo
  have HH := hide hsth
  have HF := hide hfoot
  clear hd1 hlo hsth hfoot
  go_wp2_with fail
  refine (firstKeys_any a m c K V wc ((Lo.script (unhide HL) (unhide HS) (unhide HA)).take hmn) (by omega)).mono ?_
  rintro e wd ⟨v2, rfl, hown2, hkd⟩
  obtain ⟨a2, c2, rfl, hst2, _⟩ := strs_of_owns hown2
  have hd1 := (unhide HD).kept hkd (fun _ _ e => e)
  have hlo := (unhide HL).trans hkd (fun _ _ e => e.elim)
  have hsth := (unhide HH).kept hkd (fun _ _ e => e)
  clear HD HL HH hown2 hkd
  have HD := hide hd1
  have HL := hide hlo
  have HH := hide hsth
  have HT := hide hst2
  clear hd1 hlo hsth hst2
  go_wp2_with fail
  refine (same_any (some ⟨h0, 0, none⟩) a2 ch c2 _ wd (unhide HH) (unhide HT) (by omega)).mono ?_
  rintro e we ⟨rfl, q, rfl⟩
  have hd1 := (unhide HD).kept (Kept.ofDrewN (fun _ => False) wd q) (fun _ _ e => e)
  have hlo := (unhide HL).drewN q
  have hsth := (unhide HH).drewN q
  clear HD HL HH HT
  generalize wd.drewN q = we at *
  have HD := hide hd1
  have HL := hide hlo
  have HH := hide hsth
  clear hd1 hlo hsth
  have hsl := run_tail a n c m hmn
  have hdrop := (Lo.script (unhide HL) (unhide HS) (unhide HA)).drop hmn hnc
  have hdlo := drop_lo (n := n) (c := c) (m := m) (unhide HA)
  generalize (if c = m then a else a.map (·.add (m * 2))) = a3 at hsl hdrop hdlo
  have HX := hide hdrop
  have HY := hide hdlo
  clear hdrop hdlo
  go_wp2_with fail
  refine (feed_any B we db B _ _ a3 (n - m) (c - m) _ _ (unhide HD) (unhide HX) (unhide HY) (by rw [Pl.hist_length]; omega) (by have := (unhide HL).size; have := unhide HB; omega)).mono ?_
  rintro e wf ⟨rfl, v3, hd3, _, hk3⟩
  rw [Pl.hist_add, show m + (n - m) = n by omega] at hd3
  obtain ⟨a4, c4, rfl, hst4, _⟩ := strs_of_owns hd3.row
  have hlo : Lo B w wf := (unhide HL).trans hk3 (fun i _ e => (unhide HD).foot_lo i e)
  have hsth := (unhide HH).kept hk3 (fun x e => by cases e; exact unhide HF)
  have hl3 := Pl.fk_length (hist K V n)
  rw [Pl.hist_length] at hl3
  clear HD HL HH HX HY HF hk3 hsl
  have HD := hide hd3
  have HL := hide hlo
  have HT := hide hst4
  have HH := hide hsth
  clear hd3 hlo hst4 hsth
  go_wp2_with fail
  refine (keys_any B wf db B _ _ (unhide HD)).mono ?_
  rintro e wf ⟨rfl, rfl⟩
  go_wp2_with fail
  refine (copy_any a4 c4 _ wf (unhide HT) (by omega)).mono ?_
  rintro e wg ⟨⟨cg, rfl, hstg⟩, hkg, hh1⟩
  have hlo := (unhide HL).trans hkg (fun _ _ e => e.elim)
  have hsth := (unhide HH).kept hkg (fun _ _ e => e)
  clear HD HL HT HH hkg
  generalize wf.heap.size = h1 at *
  have HL := hide hlo
  have HH := hide hsth
  have HG := hide hstg
  clear hlo hsth hstg
  generalize hks1 : fk (hist K V m) = ks1 at *
  generalize hl1e : ks1.length = l1 at *
  generalize hl3e : (fk (hist K V n)).length = l3 at *
  have HK1 := hide hks1
  have HE1 := hide hl1e
  have HE3 := hide hl3e
  clear hks1 hl1e hl3e
  obtain ⟨i0, hi, hz0, hz1, hz2⟩ := info_parts Try.info9
  go_wp2_with (first | (at_make; refine wpList_make_own _ rfl _ _ 28 rfl wg.heap.size 9 i0 _ 1 Try.underlying28 hi hz0 hz1 .i64 .i64 _ (n - m) rfl rfl (by omega) (by rw [hz2]; omega) (by unfold maxLen; omega) (Nat.le_refl _) ?_; intro w5 hown5 hg5))
  go_loopw [8, 9] (fun v i wr => ∃ (k g cp : Nat) (xs : List ByteArray), m ≤ k ∧ k ≤ n ∧ i = .int .i64 k ∧ v = .slice (some ⟨g, 0, none⟩) xs.length cp ∧ Firsts wg wr v xs ∧ fk (hist K V k) = ks1 ++ xs) (fun _ i _ => n - (intOf i).toNat)
  case atStart => exact ⟨m, _, _, [], by omega, by omega, rfl, rfl, Firsts.start hown5 hg5, by rw [unhide HK1, List.append_nil]⟩
  case round =>
    obtain ⟨k, g, cp, xs, hmk, hkn, rfl, rfl, hf, hfk⟩ := hrel
    clear hown5 hg5
    have HF := hide hf
    have HX := hide hfk
    clear hf hfk
    by_cases hlt : k < n
    · have hscr := (Lo.script (unhide HL) (unhide HS) (unhide HA)).kept (unhide HF).2 (fun _ _ _ e => e)
      have HQ := hide (seen_any a n c k K V wr hscr hlt hn4)
      rcases hscr with h | ⟨b, off, rfl, hcell, _, _⟩
      · omega
      have hck := hcell k hlt
      clear hcell
      have hxl : l1 + xs.length ≤ k := by
        have := Pl.fk_length (hist K V k)
        rw [unhide HX, Pl.hist_length, List.length_append, unhide HE1] at this
        exact this
      have HE := hide (Pl.hist_succ K V k)
      have hsz := (unhide HF).2.size
      obtain ⟨sb, hsb⟩ : ∃ sb, hk (hist K V k) (K k) = sb := ⟨_, rfl⟩
      rw [hsb] at HQ
      have HSB := hide hsb
      clear hsb
      generalize hsk : K k = s at hck
      have HSK := hide hsk
      clear hsk
      cases sb with
      | true =>
        go_wp2_with (first | (go_at_call 19; refine (unhide HQ).mono ?_; rintro e w2 ⟨rfl, nq, rfl⟩))
        go_roundw
        case rel => exact ⟨k + 1, g, cp, xs, by omega, by omega, by go_num, rfl, (unhide HF).drewN _, by rw [unhide HE, Pl.fk_snoc_of_has _ _ (unhide HSB), unhide HX]⟩
        case measure => simp [intOf]; omega
      | false =>
        go_wp2_with (first | (go_at_call 19; refine (unhide HQ).mono ?_; rintro e w2 ⟨rfl, nq, rfl⟩) | (at_builtin; refine wpList_append_lies _ rfl _ _ 28 rfl wg.heap.size 9 i0 _ 1 16 Try.underlying28 hi hz0 hz1 hz2 rfl (by decide) (.slice (some ⟨g, 0, none⟩) xs.length cp) _ _ rfl (((unhide HF).drewN nq).1.alloc _) ⟨wr.heap.size, 0, none⟩ 1 1 [.string s] rfl rfl (cell_one_new _ _ _) (by simp [Value.oneCell']) (by decide) (by unfold maxLen; omega) (by omega) (by simp; omega) (wr.heap.size + 1) (by simp) ?_; intro g' cap' w3 hown3 hgrow3 hat3 hlt3))
        go_roundw
        case rel => exact ⟨k + 1, g', cap', xs ++ [s], by omega, by omega, by go_num, by simp, ((unhide HF).drewN nq).push hown3 hgrow3, by rw [unhide HE, Pl.fk_snoc_of_not _ _ (unhide HSB), unhide HX, unhide HSK, List.append_assoc]⟩
        case measure => simp [intOf]; omega
    · have e : k = n := by omega
      subst e
      have hX := unhide HX
      have hlx : l3 = l1 + xs.length := by rw [← unhide HE3, hX, List.length_append, unhide HE1]
      have hstx := firsts_strs (unhide HF)
      have hstg := (unhide HG).kept (unhide HF).2 (fun _ _ e => e)
      have hsth := (unhide HH).kept (unhide HF).2 (fun _ _ e => e)
      rw [hX] at hstg
      have hlo := (unhide HL).trans (unhide HF).2 (fun _ _ e => e.elim)
      have hh6 : h1 < wr.heap.size := by have := (unhide HF).2.size; omega
      clear hh1
      generalize hl2e : xs.length = l2 at *
      have HE2 := hide hl2e
      have HTX := hide hstx
      have HTG := hide hstg
      have HTH := hide hsth
      have HLO := hide hlo
      clear hl2e hstx hstg hsth hlo HL HH HG HF hi hz0 hz1 hz2
      subst hlx
      generalize wr = w6 at *
      go_wp2_with fail
      go_loopw [10] (fun i wr => ∃ j : Nat, j ≤ l1 ∧ i = .int .i64 j ∧ ∃ nq, wr = w6.drewN nq) (fun i _ => l1 - (intOf i).toNat)
      case atStart => exact ⟨0, by omega, rfl, 0, rfl⟩
      case round =>
        obtain ⟨j, hj, rfl, nq, rfl⟩ := hrel
        by_cases hjl : j < l1
        · have g1 := strs_cell (j := j) (unhide HTG) (by rw [List.length_append, unhide HE1]; omega)
          have g2 := strs_cell (j := j) (unhide HTH) (by rw [unhide HE1]; omega)
          have e12 : (ks1 ++ xs).getD j ByteArray.empty = ks1.getD j ByteArray.empty := by
            simp only [List.getD_eq_getElem?_getD]; rw [List.getElem?_append_left (by rw [unhide HE1]; omega)]
          rw [e12] at g1
          clear e12
          generalize ks1.getD j ByteArray.empty = s at g1 g2
          have q1 : (0 : Int) ≤ (j : Int) := by omega
          have q2 : (j : Int) < (l1 : Int) := by omega
          have q3 : (j : Int) < (l1 : Int) + (l2 : Int) := by omega
          go_wp2
          go_quiet (fail)
          go_wp2
          go_roundw
          case rel => exact ⟨j + 1, by omega, by go_num, _, rfl⟩
          case measure => simp [intOf]; omega
        · go_wp2_with fail
          go_loopw [11] (fun i wr => ∃ j : Nat, j ≤ l2 ∧ i = .int .i64 j ∧ ∃ nq, wr = w6.drewN nq) (fun i _ => l2 - (intOf i).toNat)
          case atStart => exact ⟨0, by omega, rfl, nq, rfl⟩
          case round =>
            obtain ⟨p, hp, rfl, nq2, rfl⟩ := hrel
            by_cases hpl : p < l2
            · have g1 := strs_cell (j := l1 + p) (unhide HTG) (by rw [List.length_append, unhide HE1, unhide HE2]; omega)
              have g2 := strs_cell (j := p) (unhide HTX) (by rw [unhide HE2]; omega)
              have e12 : (ks1 ++ xs).getD (l1 + p) ByteArray.empty = xs.getD p ByteArray.empty := by
                simp only [List.getD_eq_getElem?_getD]; rw [List.getElem?_append_right (by rw [unhide HE1]; omega), unhide HE1, Nat.add_sub_cancel_left]
              rw [e12] at g1
              clear e12
              generalize xs.getD p ByteArray.empty = s at g1 g2
              have q1 : (0 : Int) ≤ (p : Int) := by omega
              have q2 : (p : Int) < (l2 : Int) := by omega
              have q3 : (l1 : Int) + (p : Int) < (l1 : Int) + (l2 : Int) := by omega
              have q4 : (0 : Int) ≤ (l1 : Int) + (p : Int) := by omega
              go_wp2
              go_quiet (fail)
              go_wp2
              go_roundw
              case rel => exact ⟨p + 1, by omega, by go_num, _, rfl⟩
              case measure => simp [intOf]; omega
            · go_wp2_with fail
              have hlo := (unhide HLO).drewN nq2
              have hstg := (unhide HTG).drewN nq2
              have hBz : B ≤ (w6.drewN nq2).heap.size := by have := hlo.size; have := unhide HB; omega
              have hh7 : h1 < (w6.drewN nq2).heap.size := hh6
              clear HLO HTG HTX HTH hh6
              generalize w6.drewN nq2 = w7 at *
              refine (newDict_any B w7 hBz).mono ?_
              rintro e w8 ⟨rfl, hd8, hk8⟩
              have hlo8 := hlo.trans hk8 (fun _ _ e => e.elim)
              have hst8 := hstg.kept hk8 (fun _ _ e => e)
              have hfoot8 : ¬ Foot (w7.heap.size + 1) w7.heap.size (.slice none 0 0) h1 := by
                have : h1 < w7.heap.size := hh7
                rintro (e | e | e)
                · omega
                · omega
                · cases e
              have HD := hide hd8
              have HL := hide hlo8
              have HT := hide hst8
              have HF := hide hfoot8
              clear hd8 hk8 hlo hstg hlo8 hst8 hfoot8 hh7
              generalize w7.heap.size + 1 = d2 at *
              generalize w7.heap.size = m2 at *
              go_wp2_with fail
              refine (feed_any B w8 d2 m2 _ [] a k c K V (unhide HD) (Lo.script (unhide HL) (unhide HS) (unhide HA)) (unhide HA) (by simp; omega) (by have := (unhide HL).size; have := unhide HB; omega)).mono ?_
              rintro e w9 ⟨rfl, v9, hd9, _, hk9⟩
              rw [List.nil_append] at hd9
              obtain ⟨a9, c9, rfl, hst9, _⟩ := strs_of_owns hd9.row
              have hlo9 : Lo B w w9 := (unhide HL).trans hk9 (fun i _ e => (unhide HD).foot_lo i e)
              have hstA := (unhide HT).kept hk9 (fun x e => by cases e; exact unhide HF)
              rw [unhide HX] at hst9
              have hkeys := keys_any B w9 d2 m2 _ _ hd9
              have hsame := same_any (some ⟨h1, 0, none⟩) a9 cg c9 (ks1 ++ xs) w9 hstA hst9 (by rw [List.length_append, unhide HE1, unhide HE2]; omega)
              rw [unhide HX] at hkeys
              rw [List.length_append, unhide HE1, unhide HE2] at hkeys hsame
              have HKY := hide hkeys
              have HSM := hide hsame
              have HL9 := hide hlo9
              clear hd9 hk9 hst9 hlo9 hstA hkeys hsame HD HL HT HF
              go_wp2_with fail
              refine (unhide HKY).mono ?_
              rintro e w9 ⟨rfl, rfl⟩
              go_wp2_with fail
              refine (unhide HSM).mono ?_
              rintro e w10 ⟨rfl, q10, rfl⟩
              go_wp2
              go_ret
              refine ⟨rfl, ?_⟩
              rw [unhide HB]
              exact ((unhide HL9).drewN q10).below (by rw [unhide HB]; exact Nat.le_refl _) (fun _ e => e)

end Go.Proofs.Qxb6616518a
