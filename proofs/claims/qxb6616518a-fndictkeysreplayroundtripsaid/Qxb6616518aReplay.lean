/- FnDictKeysReplayRoundTrip: the walk. -/
import Derived.Test.Qxb6616518aSteps
namespace Go.Proofs.Qxb6616518a
open Go.RowKit Go.Maps
open Pl (fk lv hk hist play)

theorem fk_key {K : Nat → ByteArray} {V : Nat → Int} {n : Nat} {k : ByteArray} (h : k ∈ fk (hist K V n)) : ∃ j, j < n ∧ K j = k := (Pl.hk_hist K V n k).1 ((Pl.mem_fk _ _).1 h)
theorem getD_mem {ks : List ByteArray} {j : Nat} (h : j < ks.length) : ks.getD j ByteArray.empty ∈ ks := by
  simp only [List.getD_eq_getElem?_getD, List.getElem?_eq_getElem h, Option.getD_some]
  exact List.getElem_mem h
theorem take_snoc (ks : List ByteArray) (j : Nat) (h : j < ks.length) : ks.take (j + 1) = ks.take j ++ [ks.getD j ByteArray.empty] := by
  rw [List.take_succ_eq_append_getElem h]
  simp [List.getD_eq_getElem?_getD, h]
theorem key_size {w : World} {a : Option Addr} {n : Nat} {K : Nat → ByteArray} {V : Nat → Int} (h : Script w a n K V) {k : ByteArray} (hk : k ∈ fk (hist K V n)) : k.size ≤ maxLen := by
  obtain ⟨j, hj, rfl⟩ := fk_key hk
  rcases h with h | ⟨_, _, _, _, _, h⟩
  · omega
  · exact h j hj

set_option maxHeartbeats 4000000 in
theorem replay_any (a : Option Addr) (n c : Nat) (K : Nat → ByteArray) (V : Nat → Int) (w : World) (hs : Script w a n K V) (ha : n ≠ 0 → ∀ x, a = some x → x.block < w.heap.size) (hnc : n ≤ c) (hcm : c ≤ maxLen) :
    Calls Try.prog 5 #[.slice a n c] w fun e w' => e = .returned (.bool true) ∧ Below w.heap.size w w' := by
  have HA := hide ha
  clear ha
  have HS := hide hs
  clear hs
  go_enter Try.func5, Try.ntmps5
  go_wp2_with fail
  refine (bytes20_any a n c K V w (unhide HS) (by omega)).mono ?_
  rintro e w ⟨⟨r, rfl, hr⟩, rfl⟩
  cases r with
  | false =>
    go_wp2
    go_ret
    exact ⟨rfl, Below.refl _ _⟩
  | true =>
  have hn := hr rfl
  clear hr
  go_wp2_with fail
  refine (tooBig_any a n c 0 K V _ (unhide HS) (by omega) (by omega) hn).mono ?_
  rintro e w ⟨⟨r, rfl, hr⟩, rfl⟩
  cases r with
  | true =>
    go_wp2
    go_ret
    exact ⟨rfl, Below.refl _ _⟩
  | false =>
  have hn4 := hr rfl
  clear hr
  go_wp2_with fail
  refine (newDict_any w.heap.size w (Nat.le_refl _)).mono ?_
  rintro e wa ⟨rfl, hd, hka⟩
  have hlo : Lo w.heap.size w wa := hka.mono (fun _ _ e => e.elim)
  have HD := hide hd
  have HL := hide hlo
  clear hd hka hlo
  generalize hB : w.heap.size = B at *
  generalize hdb : B + 1 = db at *
  have HB := hide hB
  clear hB hdb
  go_wp2_with fail
  refine (feed_any B wa db B _ [] a n c K V (unhide HD) (Lo.script (unhide HL) (unhide HS) (unhide HA)) (unhide HA) (by simp; omega) (by have := (unhide HL).size; have := unhide HB; omega)).mono ?_
  rintro e wb ⟨rfl, v1, hd1, _, hk1⟩
  rw [List.nil_append] at hd1
  obtain ⟨a1, c1, rfl, hst1, hob1⟩ := strs_of_owns hd1.row
  have hlo : Lo B w wb := (unhide HL).trans hk1 (fun i _ e => (unhide HD).foot_lo i e)
  clear HD HL hk1
  have HD := hide hd1
  have HL := hide hlo
  have HT := hide hst1
  have hl1 := Pl.fk_length (hist K V n)
  rw [Pl.hist_length] at hl1
  clear hd1 hlo hst1 hob1
  go_wp2_with fail
  refine (keys_any B wb db B _ _ (unhide HD)).mono ?_
  rintro e wb ⟨rfl, rfl⟩
  go_wp2_with fail
  refine (copy_any a1 c1 _ wb (unhide HT) (by omega)).mono ?_
  rintro e wc ⟨⟨ch, rfl, hsth⟩, hkc, hh0⟩
  have hd1 := (unhide HD).kept hkc (fun _ _ e => e)
  have hlo := (unhide HL).trans hkc (fun _ _ e => e.elim)
  clear HD HL HT hkc
  generalize wb.heap.size = h0 at *
  have HD := hide hd1
  have HL := hide hlo
  have HH := hide hsth
  clear hd1 hlo hsth
  go_wp2_with fail
  refine (firstKeys_any a n c K V wc (Lo.script (unhide HL) (unhide HS) (unhide HA)) (by omega)).mono ?_
  rintro e wd ⟨v2, rfl, hown2, hkd⟩
  obtain ⟨a2, c2, rfl, hst2, _⟩ := strs_of_owns hown2
  have hd1 := (unhide HD).kept hkd (fun _ _ e => e)
  have hlo := (unhide HL).trans hkd (fun _ _ e => e.elim)
  have hsth := (unhide HH).kept hkd (fun _ _ e => e)
  have hh1 : h0 < wd.heap.size := by have := hkd.size; omega
  clear HD HL HH hown2 hkd hh0
  have HD := hide hd1
  have HL := hide hlo
  have HH := hide hsth
  have HT := hide hst2
  clear hd1 hlo hsth hst2
  go_wp2_with fail
  refine (same_any (some ⟨h0, 0, none⟩) a2 ch c2 _ wd (unhide HH) (unhide HT) (by omega)).mono ?_
  rintro e we ⟨rfl, q, rfl⟩
  have hd1 := (unhide HD).kept (Kept.ofDrewN (fun _ => False) wd q) (fun _ _ e => e)
  have hlo := (unhide HL).drewN q
  have hsth := (unhide HH).drewN q
  have hh2 : h0 < (wd.drewN q).heap.size := hh1
  have hBe : B ≤ (wd.drewN q).heap.size := by have := hlo.size; have := unhide HB; omega
  clear HD HL HH HT hh1
  generalize wd.drewN q = we at *
  have HD := hide hd1
  have HL := hide hlo
  have HH := hide hsth
  clear hd1 hlo hsth
  go_wp2_with fail
  refine (newDict_any B we hBe).mono ?_
  rintro e wf ⟨rfl, hdf, hkf⟩
  have hft : ∀ i, Foot db B (.slice a1 (fk (hist K V n)).length c1) i → i < we.heap.size := (unhide HD).foot_lt
  have hd1 := (unhide HD).kept hkf (fun _ _ e => e)
  have hlo := (unhide HL).trans hkf (fun _ _ e => e.elim)
  have hsth := (unhide HH).kept hkf (fun _ _ e => e)
  have hBf : B ≤ wf.heap.size := Nat.le_trans hBe hkf.size
  have hF1 : ∀ i, Foot db B (.slice a1 (fk (hist K V n)).length c1) i → ¬ Foot (we.heap.size + 1) we.heap.size (.slice none 0 0) i := by
    intro i hi e
    have := hft i hi
    rcases e with e | e | e
    · omega
    · omega
    · cases e
  have hF2 : ¬ Foot (we.heap.size + 1) we.heap.size (.slice none 0 0) h0 := by
    rintro (e | e | e)
    · omega
    · omega
    · cases e
  clear HD HL HH hft hkf hh2 hBe
  generalize we.heap.size + 1 = d2 at *
  generalize we.heap.size = m2 at *
  have HD := hide hd1
  have HE := hide hdf
  have HL := hide hlo
  have HH := hide hsth
  have HF1 := hide hF1
  have HF2 := hide hF2
  clear hd1 hdf hlo hsth hF1 hF2
  have HSZ : Hid (∀ k, k ∈ fk (hist K V n) → k.size ≤ maxLen) := fun k hk => key_size (unhide HS) hk
  have HMK : Hid (∀ k, k ∈ fk (hist K V n) → hk (hist K V n) k = true) := fun k hk => (Pl.mem_fk _ _).1 hk
  have HND := hide (Pl.fk_nodup (hist K V n))
  generalize hks : fk (hist K V n) = ks at *
  have HKS := hide hks
  clear hks
  generalize hln : ks.length = l at *
  have HLN := hide hln
  clear hln
  go_wp2_with fail
  go_loopw [6, 7, 8] (fun i _ _ wr => ∃ j : Nat, j ≤ l ∧ i = .int .i64 j ∧ Fed B wf wr d2 m2 (.slice none 0 0) (play (fun k => (lv (hist K V n) k).getD 0) (ks.take j))) (fun i _ _ _ => l - (intOf i).toNat)
  case atStart => exact ⟨0, by omega, rfl, Fed.start (unhide HE)⟩
  case round =>
    obtain ⟨j, hj, rfl, v5, hd5, hn5, hk5⟩ := hrel
    have hd1 := (unhide HD).kept hk5 (unhide HF1)
    have hst5 := (unhide HH).kept hk5 (fun x e => by cases e; exact unhide HF2)
    by_cases hjl : j < l
    · have hmem : ks.getD j ByteArray.empty ∈ ks := getD_mem (by rw [unhide HLN]; exact hjl)
      have hck := strs_cell (j := j) hst5 (by rw [unhide HLN]; exact hjl)
      have hsj := unhide HSZ _ hmem
      have hhk := unhide HMK _ hmem
      have HTK := hide (take_snoc ks j (by rw [unhide HLN]; exact hjl))
      have HQ1 := hide (getInt_any B wr db B _ _ _ hd1 hsj)
      rw [hhk] at HQ1
      have hlen : (play (fun k => (lv (hist K V n) k).getD 0) (ks.take j)).length ≤ 100000 := by simp [play]; omega
      have HQ2 := hide (setInt_any B wr d2 m2 v5 _ (ks.getD j ByteArray.empty) ((lv (hist K V n) (ks.getD j ByteArray.empty)).getD 0) hd5 hsj hlen (Nat.le_trans hBf hk5.size))
      have HN5 := hide hn5
      have HK5 := hide hk5
      clear hmem hhk hsj hlen hd5 hn5 hk5 hd1 hst5
      generalize hsk : ks.getD j ByteArray.empty = s at *
      clear hsk
      generalize hov : (lv (hist K V n) s).getD 0 = ov at *
      have HOV := hide hov
      clear hov
      go_wp2_with (first | (go_at_call 16; refine (unhide HQ1).mono ?_; rintro e w2 ⟨rfl, rfl⟩) | (go_at_call 13; refine (unhide HQ2).mono ?_; rintro e w2 ⟨rfl, hq2⟩; have HQ3 := hide hq2; clear hq2))
      go_roundw
      case rel =>
        have R := Fed.step (unhide HN5) (unhide HK5) (unhide HQ3)
        refine ⟨j + 1, by omega, by go_num, ?_⟩
        rw [unhide HTK, Pl.play_snoc, unhide HOV]
        exact R
      case measure => simp [intOf]; omega
    · have e : j = l := by omega
      subst e
      rw [List.take_of_length_le (by rw [unhide HLN]; exact Nat.le_refl _)] at hd5
      have hfk := Pl.fk_play (fun k => (lv (hist K V n) k).getD 0) ks (unhide HND)
      have hrow5 := hd5.row
      rw [hfk] at hrow5
      obtain ⟨a5, c5, rfl, hst6, _⟩ := strs_of_owns hrow5
      have hlo5 : Lo B w wr := (unhide HL).trans hk5 (fun i _ e => (unhide HE).foot_lo i e)
      have hkeys := keys_any B wr d2 m2 _ _ hd5
      have hsame := same_any a5 (some ⟨h0, 0, none⟩) c5 ch _ wr hst6 hst5 (by rw [unhide HLN]; omega)
      rw [unhide HLN] at hkeys hsame hd5
      have HKY := hide hkeys
      have HSM := hide hsame
      clear HD HE HL HH HF1 HF2
      have HD := hide hd1
      have HE := hide hd5
      have HL := hide hlo5
      have HH := hide hst5
      clear hd1 hd5 hn5 hk5 hst5 hst6 hrow5 hlo5 hkeys hsame hfk
      generalize wr = w6 at *
      go_wp2_with fail
      refine (unhide HKY).mono ?_
      rintro e w6 ⟨rfl, rfl⟩
      go_wp2_with fail
      refine (unhide HSM).mono ?_
      rintro e w7 ⟨rfl, q7, rfl⟩
      have hd7 := (unhide HD).kept (Kept.ofDrewN (fun _ => False) w6 q7) (fun _ _ e => e)
      have he7 := (unhide HE).kept (Kept.ofDrewN (fun _ => False) w6 q7) (fun _ _ e => e)
      have hlo7 := (unhide HL).drewN q7
      have hst7 := (unhide HH).drewN q7
      clear HD HE HL HH HKY HSM
      generalize w6.drewN q7 = w7 at *
      have HD := hide hd7
      have HE := hide he7
      have HL := hide hlo7
      have HH := hide hst7
      clear hd7 he7 hlo7 hst7
      go_wp2_with fail
      go_loopw [9, 10, 11, 12, 13] (fun i _ _ _ _ wr => ∃ p : Nat, p ≤ j ∧ i = .int .i64 p ∧ wr = w7) (fun i _ _ _ _ _ => j - (intOf i).toNat)
      case atStart => exact ⟨0, by omega, rfl, rfl⟩
      case round =>
        obtain ⟨p, hp, rfl, rfl⟩ := hrel
        by_cases hpl : p < j
        · have hmem : ks.getD p ByteArray.empty ∈ ks := getD_mem (by rw [unhide HLN]; exact hpl)
          have hck := strs_cell (j := p) (unhide HH) (by rw [unhide HLN]; exact hpl)
          have hsj := unhide HSZ _ hmem
          have hhk := unhide HMK _ hmem
          have HQ1 := hide (getInt_any B wr db B _ _ _ (unhide HD) hsj)
          rw [hhk] at HQ1
          have HQ2 := hide (getInt_any B wr d2 m2 _ _ _ (unhide HE) hsj)
          rw [(Pl.hk_play _ ks _).2 hmem, Pl.lv_play _ ks _ hmem] at HQ2
          simp only [Option.getD_some] at HQ2
          clear hmem hhk hsj
          generalize hsk : ks.getD p ByteArray.empty = s at *
          clear hsk
          generalize hov : (lv (hist K V n) s).getD 0 = ov at *
          clear hov
          go_wp2_with (first | (go_at_call_of 16 db; refine (unhide HQ1).mono ?_; rintro e w2 ⟨rfl, rfl⟩) | (go_at_call_of 16 d2; refine (unhide HQ2).mono ?_; rintro e w2 ⟨rfl, rfl⟩))
          go_roundw
          case rel => exact ⟨p + 1, by omega, by go_num, trivial⟩
          case measure => simp [intOf]; omega
        · go_wp2
          go_ret
          refine ⟨rfl, ?_⟩
          rw [unhide HB]
          exact (unhide HL).below (by rw [unhide HB]; exact Nat.le_refl _) (fun _ e => e)

end Go.Proofs.Qxb6616518a
