/- FnDictSetScriptMatchesModel: the walk. -/
import Derived.Test.Qxb6616518aSteps
namespace Go.Proofs.Qxb6616518a
open Go.RowKit Go.Maps
open Pl (fk lv hk hist)

set_option maxHeartbeats 4000000 in
theorem match_any (a : Option Addr) (n c : Nat) (pr : ByteArray) (K : Nat → ByteArray) (V : Nat → Int) (w : World) (hs : Script w a n K V) (ha : n ≠ 0 → ∀ x, a = some x → x.block < w.heap.size) (hnc : n ≤ c) (hcm : c ≤ maxLen) (hpr : pr.size ≤ maxLen) :
    Calls Try.prog 6 #[.slice a n c, .string pr] w fun e w' => e = .returned (.bool true) ∧ Below w.heap.size w w' := by
  have HA := hide ha
  clear ha
  have HS := hide hs
  clear hs
  go_enter Try.func6, Try.ntmps6
  go_wp2_with fail
  refine (bytes21_any a n c pr hpr K V w (unhide HS) (by omega)).mono ?_
  rintro e w ⟨⟨r, rfl, hr⟩, rfl⟩
  cases r with
  | false =>
    go_wp2
    go_ret
    exact ⟨rfl, Below.refl _ _⟩
  | true =>
  have hn := (hr rfl).1
  have hps := (hr rfl).2
  clear hr
  go_wp2_with fail
  refine (tooBig_any a n c (pr.size : Int) K V _ (unhide HS) (by omega) (by omega) hn).mono ?_
  rintro e w ⟨⟨r, rfl, hr⟩, rfl⟩
  cases r with
  | true =>
    go_wp2
    go_ret
    exact ⟨rfl, Below.refl _ _⟩
  | false =>
  have hn4 := hr rfl
  clear hr
  go_wp2_with fail
  refine (newDict_any w.heap.size w (Nat.le_refl _)).mono ?_
  rintro e wa ⟨rfl, hd, hka⟩
  have hlo : Lo w.heap.size w wa := hka.mono (fun _ _ e => e.elim)
  have HD := hide hd
  have HL := hide hlo
  clear hd hka hlo
  generalize hB : w.heap.size = B at *
  generalize hdb : B + 1 = db at *
  have HB := hide hB
  clear hB hdb
  go_wp2_with fail
  refine (feed_any B wa db B _ [] a n c K V (unhide HD) (Lo.script (unhide HL) (unhide HS) (unhide HA)) (unhide HA) (by simp; omega) (by have := (unhide HL).size; have := unhide HB; omega)).mono ?_
  rintro e wb ⟨rfl, v1, hd1, _, hk1⟩
  rw [List.nil_append] at hd1
  obtain ⟨a1, c1, rfl, hst1, hob1⟩ := strs_of_owns hd1.row
  have hlo : Lo B w wb := (unhide HL).trans hk1 (fun i _ e => (unhide HD).foot_lo i e)
  clear HD HL hk1
  have HD := hide hd1
  have HL := hide hlo
  have HT := hide hst1
  have hl1 := Pl.fk_length (hist K V n)
  rw [Pl.hist_length] at hl1
  clear hd1 hlo hst1 hob1
  go_wp2_with fail
  refine (keys_any B wb db B _ _ (unhide HD)).mono ?_
  rintro e wb ⟨rfl, rfl⟩
  go_wp2_with fail
  refine (firstKeys_any a n c K V wb (Lo.script (unhide HL) (unhide HS) (unhide HA)) (by omega)).mono ?_
  rintro e wd ⟨v2, rfl, hown2, hkd⟩
  obtain ⟨a2, c2, rfl, hst2, _⟩ := strs_of_owns hown2
  have hd1 := (unhide HD).kept hkd (fun _ _ e => e)
  have hlo := (unhide HL).trans hkd (fun _ _ e => e.elim)
  have hsth := (unhide HT).kept hkd (fun _ _ e => e)
  clear HD HL HT hown2 hkd
  have HD := hide hd1
  have HL := hide hlo
  have HH := hide hsth
  have HT := hide hst2
  clear hd1 hlo hsth hst2
  go_wp2_with fail
  refine (same_any a1 a2 c1 c2 _ wd (unhide HH) (unhide HT) (by omega)).mono ?_
  rintro e we ⟨rfl, q, rfl⟩
  have hd1 := (unhide HD).kept (Kept.ofDrewN (fun _ => False) wd q) (fun _ _ e => e)
  have hlo := (unhide HL).drewN q
  clear HD HL HH HT
  generalize wd.drewN q = w6 at *
  have hscr := Lo.script hlo (unhide HS) (unhide HA)
  have HD := hide hd1
  have HL := hide hlo
  have HSC := hide hscr
  clear hd1 hlo hscr
  go_wp2_with fail
  go_loopw [6, 7, 8] (fun i _ _ wr => ∃ j : Nat, j ≤ n ∧ i = .int .i64 j ∧ ∃ nq, wr = w6.drewN nq) (fun i _ _ _ => n - (intOf i).toNat)
  case atStart => exact ⟨0, by omega, rfl, 0, rfl⟩
  case round =>
    obtain ⟨j, hj, rfl, nq, rfl⟩ := hrel
    by_cases hjn : j < n
    · have hdq := (unhide HD).kept (Kept.ofDrewN (fun _ => False) w6 nq) (fun _ _ e => e)
      have hscr : Script (w6.drewN nq) a n K V := unhide HSC
      have HQ2 := hide (lastVal_any a n c j K V (w6.drewN nq) hscr hjn hn4)
      rcases hscr with h | ⟨b, off, rfl, hcell, _, hsz⟩
      · omega
      have hck := hcell j hjn
      have hsj := hsz j hjn
      clear hcell hsz
      have hhk : hk (hist K V n) (K j) = true := (Pl.hk_hist K V n (K j)).2 ⟨j, hjn, rfl⟩
      have HQ1 := hide (getInt_any B (w6.drewN nq) db B _ _ (K j) hdq hsj)
      rw [hhk] at HQ1
      clear hhk hdq hsj
      obtain ⟨ov, hov⟩ : ∃ ov, lv (hist K V n) (K j) = ov := ⟨_, rfl⟩
      rw [hov] at HQ1 HQ2
      have HOV := hide hov
      clear hov
      generalize hsk : K j = s at hck HQ1
      clear hsk
      go_wp2_with (first | (go_at_call 16; refine (unhide HQ1).mono ?_; rintro e w2 ⟨rfl, rfl⟩) | (go_at_call 22; refine (unhide HQ2).mono ?_; rintro e w2 ⟨⟨x, hx, rfl⟩, nq2, rfl⟩))
      go_roundw
      case rel => exact ⟨j + 1, by omega, by go_num, _, rfl⟩
      case measure => simp [intOf]; omega
    · go_wp2_with fail
      go_loopw [9, 10] (fun t i wr => ∃ j : Nat, j ≤ n ∧ i = .int .i64 j ∧ t = .bool (hk (hist K V j) pr) ∧ ∃ nq, wr = w6.drewN nq) (fun _ i _ => n - (intOf i).toNat)
      case atStart => exact ⟨0, by omega, rfl, rfl, nq, rfl⟩
      case round =>
        obtain ⟨p, hp, rfl, rfl, nq2, rfl⟩ := hrel
        by_cases hpn : p < n
        · have hscr : Script (w6.drewN nq2) a n K V := unhide HSC
          rcases hscr with h | ⟨b, off, rfl, hcell, _, _⟩
          · omega
          have hck := hcell p hpn
          clear hcell
          have HE := hide (Pl.hist_succ K V p)
          generalize hsk : K p = s at hck
          have HSK := hide hsk
          clear hsk
          generalize hqq : hk (hist K V p) pr = qq at *
          have HQQ := hide hqq
          clear hqq
          go_wp2
          · have e := str_eq (by assumption)
            go_roundw
            case rel => exact ⟨p + 1, by omega, by go_num, by rw [unhide HE, Pl.hk_snoc, unhide HSK, e]; simp, _, rfl⟩
            case measure => simp [intOf]; omega
          · have e := str_ne (by assumption)
            go_roundw
            case rel => exact ⟨p + 1, by omega, by go_num, by rw [unhide HE, Pl.hk_snoc, unhide HSK, unhide HQQ]; simp [e], _, rfl⟩
            case measure => simp [intOf]; omega
        · have e : p = n := by omega
          subst e
          have hdq := (unhide HD).kept (Kept.ofDrewN (fun _ => False) w6 nq2) (fun _ _ e => e)
          have HQ1 := hide (getInt_any B (w6.drewN nq2) db B _ _ pr hdq hpr)
          clear hdq
          generalize hk (hist K V p) pr = qq at *
          have hqq : (qq == qq) = true := by cases qq <;> rfl
          go_wp2_with (first | (go_at_call 16; refine (unhide HQ1).mono ?_; rintro e w2 ⟨rfl, rfl⟩))
          go_ret
          refine ⟨by simp, ?_⟩
          rw [unhide HB]
          exact ((unhide HL).drewN nq2).below (by rw [unhide HB]; exact Nat.le_refl _) (fun _ e => e)

end Go.Proofs.Qxb6616518a
