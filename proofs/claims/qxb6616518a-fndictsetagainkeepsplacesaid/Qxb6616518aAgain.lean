/- FnDictSetAgainKeepsPlace: the walk. -/
import Derived.Test.Qxb6616518aSteps
namespace Go.Proofs.Qxb6616518a
open Go.RowKit Go.Maps
open Pl (fk lv hk hist back)

theorem back_step (K : Nat → ByteArray) (V : Nat → Int) (n s : Nat) (h : s < n) : back K V n (n - s) = back K V n (n - (s + 1)) ++ [(K s, V s)] := by
  rw [show n - s = (n - (s + 1)) + 1 by omega]
  simp only [Pl.back]
  rw [show n - (n - (s + 1) + 1) = s by omega]

set_option maxHeartbeats 4000000 in
theorem again_any (a : Option Addr) (n c : Nat) (K : Nat → ByteArray) (V : Nat → Int) (w : World) (hs : Script w a n K V) (ha : n ≠ 0 → ∀ x, a = some x → x.block < w.heap.size) (hnc : n ≤ c) (hcm : c ≤ maxLen) :
    Calls Try.prog 3 #[.slice a n c] w fun e w' => e = .returned (.bool true) ∧ Below w.heap.size w w' := by
  have HA := hide ha
  clear ha
  have HS := hide hs
  clear hs
  go_enter Try.func3, Try.ntmps3
  go_wp2_with fail
  refine (bytes7_any a n c K V w (unhide HS) (by omega)).mono ?_
  rintro e w ⟨⟨r, rfl, hr⟩, rfl⟩
  cases r with
  | false =>
    go_wp2
    go_ret
    exact ⟨rfl, Below.refl _ _⟩
  | true =>
  have hn := hr rfl
  clear hr
  go_wp2_with fail
  refine (tooBig_any a n c 0 K V _ (unhide HS) (by omega) (by omega) hn).mono ?_
  rintro e w ⟨⟨r, rfl, hr⟩, rfl⟩
  cases r with
  | true =>
    go_wp2
    go_ret
    exact ⟨rfl, Below.refl _ _⟩
  | false =>
  have hn4 := hr rfl
  clear hr
  go_wp2_with fail
  refine (newDict_any w.heap.size w (Nat.le_refl _)).mono ?_
  rintro e wa ⟨rfl, hd, hka⟩
  have hlo : Lo w.heap.size w wa := hka.mono (fun _ _ e => e.elim)
  have HD := hide hd
  have HL := hide hlo
  clear hd hka hlo
  generalize hB : w.heap.size = B at *
  generalize hdb : B + 1 = db at *
  have HB := hide hB
  clear hB hdb
  go_wp2_with fail
  refine (feed_any B wa db B _ [] a n c K V (unhide HD) (Lo.script (unhide HL) (unhide HS) (unhide HA)) (unhide HA) (by simp; omega) (by have := (unhide HL).size; have := unhide HB; omega)).mono ?_
  rintro e wb ⟨rfl, v1, hd1, _, hk1⟩
  rw [List.nil_append] at hd1
  obtain ⟨a1, c1, rfl, hst1, hob1⟩ := strs_of_owns hd1.row
  have hlo : Lo B w wb := (unhide HL).trans hk1 (fun i _ e => (unhide HD).foot_lo i e)
  clear HD HL hk1
  have HD := hide hd1
  have HL := hide hlo
  have HT := hide hst1
  have hl1 := Pl.fk_length (hist K V n)
  rw [Pl.hist_length] at hl1
  clear hd1 hlo hst1 hob1
  go_wp2_with fail
  refine (keys_any B wb db B _ _ (unhide HD)).mono ?_
  rintro e wb ⟨rfl, rfl⟩
  go_wp2_with fail
  refine (copy_any a1 c1 _ wb (unhide HT) (by omega)).mono ?_
  rintro e wc ⟨⟨ch, rfl, hsth⟩, hkc, _⟩
  have hfoot : ¬ Foot db B (.slice a1 (fk (hist K V n)).length c1) wb.heap.size := fun e => by have := (unhide HD).foot_lt _ e; omega
  have hd1 := (unhide HD).kept hkc (fun _ _ e => e)
  have hlo := (unhide HL).trans hkc (fun _ _ e => e.elim)
  clear HD HL HT hkc
  generalize wb.heap.size = h0 at *
  have hBc : B ≤ wc.heap.size := by have := hlo.size; have := unhide HB; omega
  have HD := hide hd1
  have HL := hide hlo
  have HH := hide hsth
  have HF := hide hfoot
  clear hd1 hlo hsth hfoot
  go_wp2_with fail
  go_loopw [5] (fun i wr => (∃ s : Nat, s < n ∧ i = .int .i64 s ∧ Fed B wc wr db B (.slice a1 (fk (hist K V n)).length c1) (hist K V n ++ back K V n (n - (s + 1)))) ∨ (i = .int .i64 (-1) ∧ Fed B wc wr db B (.slice a1 (fk (hist K V n)).length c1) (hist K V n ++ back K V n n))) (fun i _ => (intOf i + 1).toNat)
  case atStart =>
    have h0 : Fed B wc wc db B (.slice a1 (fk (hist K V n)).length c1) (hist K V n ++ back K V n 0) := by simpa [Pl.back] using Fed.start (unhide HD)
    by_cases hz : n = 0
    · subst hz; exact .inr ⟨rfl, h0⟩
    · exact .inl ⟨n - 1, by omega, by go_num, by rw [show n - (n - 1 + 1) = 0 by omega]; exact h0⟩
  case round =>
    rcases hrel with ⟨s, hsn, rfl, hf⟩ | ⟨rfl, hf⟩
    · obtain ⟨v5, hd5, hn5, hk5⟩ := hf
      have hscr := ((Lo.script (unhide HL) (unhide HS) (unhide HA))).kept hk5 (fun h0 x hx e => by have h1 := unhide HA h0 x hx; have h2 := (unhide HD).foot_lo _ e; omega)
      rcases hscr with h | ⟨b, off, rfl, hcell, hvcell, hsz⟩
      · omega
      have hck := hcell s hsn
      have hvk := hvcell s hsn
      have hsk := hsz s hsn
      have hlen : (hist K V n ++ back K V n (n - (s + 1))).length ≤ 100000 := by rw [List.length_append, Pl.hist_length, Pl.back_length]; omega
      have hB5 : B ≤ wr.heap.size := Nat.le_trans hBc hk5.size
      have HE := hide (back_step K V n s hsn)
      have HD5 := hide hd5
      have HN5 := hide hn5
      have HK5 := hide hk5
      clear hcell hvcell hsz hd5 hn5 hk5
      have HC := hide (fun q : Nat => setInt_any B (wr.drewN q) db B v5 _ (K s) (V s) ((unhide HD5).kept (Kept.ofDrewN (fun _ => False) wr q) (fun _ _ h => h)) hsk hlen hB5)
      generalize K s = ks at *
      generalize V s = vs at *
      have q1 : (0 : Int) ≤ (s : Int) := by omega
      have q2 : (s : Int) < (n : Int) := by omega
      go_wp2
      go_region_with (go_at_call 13; refine (unhide HC 1).mono ?_; rintro e w' ⟨rfl, hq⟩; have HQ := hide hq; clear hq)
      all_goals
        have R := Fed.step (unhide HN5) ((unhide HK5).drewN 1) (unhide HQ)
        rw [List.append_assoc, ← unhide HE] at R
        have HR := hide R
        clear R HQ HE
        go_wp2
        go_roundw
        case rel =>
          by_cases hs0 : s = 0
          · subst hs0; exact .inr ⟨by go_num, unhide HR⟩
          · exact .inl ⟨s - 1, by omega, by go_num, by rw [show n - (s - 1 + 1) = n - s by omega]; exact unhide HR⟩
        case measure => simp [intOf]
    · have HFD := hide hf
      clear hf
      go_wp2_with fail
      obtain ⟨v6, hd6, _, hk6⟩ := unhide HFD
      have hfk := Pl.fk_back K V n n (Nat.le_refl _)
      have hrow6 := hd6.row
      rw [hfk] at hrow6
      obtain ⟨a6, c6, rfl, hst6, _⟩ := strs_of_owns hrow6
      have hlo6 : Lo B w wr := (unhide HL).trans hk6 (fun i _ e => (unhide HD).foot_lo i e)
      have hsth6 := (unhide HH).kept hk6 (fun x e => by cases e; exact unhide HF)
      clear HFD HD HL HH HF hk6 hrow6 hfk
      generalize wr = w6 at *
      have HD := hide hd6
      have HL := hide hlo6
      have HH := hide hsth6
      have HT := hide hst6
      clear hd6 hlo6 hsth6 hst6
      refine (keys_any B w6 db B _ _ (unhide HD)).mono ?_
      rintro e w6 ⟨rfl, rfl⟩
      go_wp2_with fail
      refine (same_any a6 (some ⟨h0, 0, none⟩) c6 ch _ w6 (unhide HT) (unhide HH) (by omega)).mono ?_
      rintro e w7 ⟨rfl, q7, rfl⟩
      have hd7 := (unhide HD).kept (Kept.ofDrewN (fun _ => False) w6 q7) (fun _ _ e => e)
      have hlo7 := (unhide HL).drewN q7
      have hst7 := (unhide HT).drewN q7
      clear HD HL HH HT
      generalize w6.drewN q7 = w7 at *
      have HD := hide hd7
      have HL := hide hlo7
      have HT := hide hst7
      clear hd7 hlo7 hst7
      go_wp2_with fail
      refine (firstKeys_any a n c K V w7 (Lo.script (unhide HL) (unhide HS) (unhide HA)) (by omega)).mono ?_
      rintro e w8 ⟨v8, rfl, hown8, hk8⟩
      obtain ⟨a8, c8, rfl, hst8, _⟩ := strs_of_owns hown8
      have hd8 := (unhide HD).kept hk8 (fun _ _ e => e)
      have hlo8 := (unhide HL).trans hk8 (fun _ _ e => e.elim)
      have hsta8 := (unhide HT).kept hk8 (fun _ _ e => e)
      clear HD HL HT hown8 hk8
      have HD := hide hd8
      have HL := hide hlo8
      have HT := hide hsta8
      have HT2 := hide hst8
      clear hd8 hlo8 hsta8 hst8
      go_wp2_with fail
      refine (same_any a6 a8 c6 c8 _ w8 (unhide HT) (unhide HT2) (by omega)).mono ?_
      rintro e w9 ⟨rfl, q9, rfl⟩
      have hd9 := (unhide HD).kept (Kept.ofDrewN (fun _ => False) w8 q9) (fun _ _ e => e)
      have hlo9 := (unhide HL).drewN q9
      clear HD HL HT HT2
      generalize w8.drewN q9 = w9 at *
      have hscr := Lo.script hlo9 (unhide HS) (unhide HA)
      have HD := hide hd9
      have HL := hide hlo9
      have HSC := hide hscr
      clear hd9 hlo9 hscr
      go_wp2_with fail
      go_loopw [7, 8, 9] (fun i _ _ wr => ∃ j : Nat, j ≤ n ∧ i = .int .i64 j ∧ ∃ nq, wr = w9.drewN nq) (fun i _ _ _ => n - (intOf i).toNat)
      case atStart => exact ⟨0, by omega, rfl, 0, rfl⟩
      case round =>
        obtain ⟨j, hj, rfl, nq, rfl⟩ := hrel
        by_cases hjn : j < n
        · have hdq := (unhide HD).kept (Kept.ofDrewN (fun _ => False) w9 nq) (fun _ _ e => e)
          have hscr : Script (w9.drewN nq) a n K V := unhide HSC
          have HQ2 := hide (firstVal_any a n c j K V (w9.drewN nq) hscr hjn hn4)
          rcases hscr with h | ⟨b, off, rfl, hcell, _, hsz⟩
          · omega
          have hck := hcell j hjn
          have hsj := hsz j hjn
          clear hcell hsz
          have hhk : hk (hist K V n ++ back K V n n) (K j) = true := Pl.hk_append_left _ _ _ ((Pl.hk_hist K V n (K j)).2 ⟨j, hjn, rfl⟩)
          have HQ1 := hide (getInt_any B (w9.drewN nq) db B _ _ (K j) hdq hsj)
          rw [hhk] at HQ1
          clear hhk hdq hsj
          have HLV : Hid (∀ x, x ≤ j → K x = K j → (∀ y, y < x → K y ≠ K x) → lv (hist K V n ++ back K V n n) (K j) = some (V x)) := fun x hx e hno => by rw [← e]; exact Pl.lv_back K V n x (by omega) hno
          obtain ⟨ov, hov⟩ : ∃ ov, lv (hist K V n ++ back K V n n) (K j) = ov := ⟨_, rfl⟩
          rw [hov] at HQ1 HLV
          clear hov
          have HQ3 : Hid (Calls Try.prog 17 #[.slice (some ⟨b, off, none⟩) n c, .int .i64 j] (w9.drewN nq) fun e w' => (∃ x, ov = some x ∧ e = .returned (.int .i64 x)) ∧ ∃ nq2, w' = (w9.drewN nq).drewN nq2) := by
            refine (unhide HQ2).mono ?_
            rintro e w2 ⟨⟨x, hx, ex, hno, rfl⟩, h2⟩
            exact ⟨⟨V x, unhide HLV x hx ex hno, rfl⟩, h2⟩
          clear HQ2 HLV
          generalize hsk : K j = s at hck HQ1
          clear hsk
          go_wp2_with (first | (go_at_call 16; refine (unhide HQ1).mono ?_; rintro e w2 ⟨rfl, rfl⟩) | (go_at_call 17; refine (unhide HQ3).mono ?_; rintro e w2 ⟨⟨x, hx, rfl⟩, nq2, rfl⟩))
          go_roundw
          case rel => exact ⟨j + 1, by omega, by go_num, _, rfl⟩
          case measure => simp [intOf]; omega
        · go_wp2
          go_ret
          refine ⟨rfl, ?_⟩
          rw [unhide HB]
          exact ((unhide HL).drewN nq).below (by rw [unhide HB]; exact Nat.le_refl _) (fun _ e => e)

end Go.Proofs.Qxb6616518a
