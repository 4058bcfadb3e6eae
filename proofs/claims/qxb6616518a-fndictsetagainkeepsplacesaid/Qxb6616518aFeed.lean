/- ZZDictSetInt, feed, copyStrings, firstKeys. -/
import Derived.Test.Qxb6616518aDict
import Derived.Deep.RegionHeld3
import Derived.Deep.OwnRows
namespace Go.Proofs.Qxb6616518a
open Go.RowKit Go.Maps
open Pl (fk lv hk hist)

set_option maxHeartbeats 400000 in
theorem setInt_any (B : Nat) (w : World) (db mb : Nat) (v : Value) (L : List (ByteArray × Int)) (s : ByteArray) (x : Int) (hd : Dict B w db mb v L) (hs : s.size ≤ maxLen) (hL : L.length ≤ 100000) (hB : B ≤ w.heap.size) :
    Calls Try.prog 13 #[.pointer (some ⟨db, 0, none⟩), .string s, .int .i64 x] w fun e w' => e = .returned (.tuple #[]) ∧ ∃ v', Dict B w' db mb v' (L ++ [(s, x)]) ∧ NewRow w v v' ∧ Kept (Foot db mb v) w w' := by
  have HG := hide (set_any B w db mb v L s x hd hs hL hB)
  clear hd
  go_enter Try.func13, Try.ntmps13
  go_wp2_with (go_at_call 23; refine (unhide HG).mono ?_; rintro e w' ⟨rfl, hq⟩; have HQ := hide hq; clear hq)
  go_end0
  exact ⟨rfl, unhide HQ⟩

theorem NewRow.foot {w : World} {db mb : Nat} {v v' : Value} (h : NewRow w v v') : ∀ i, i < w.heap.size → Foot db mb v' i → Foot db mb v i := by
  rintro i hi (e | e | e)
  · exact .inl e
  · exact .inr (.inl e)
  · rcases h with h | h | ⟨g, h, hg⟩
    · subst h; exact .inr (.inr e)
    · rw [h] at e; exact .inr (.inr e)
    · rw [h] at e; cases e; omega
theorem NewRow.refl (w : World) (v : Value) : NewRow w v v := .inl rfl
theorem NewRow.trans {w w' : World} {v v' v'' : Value} (h : NewRow w v v') (hs : w.heap.size ≤ w'.heap.size) (h' : NewRow w' v' v'') : NewRow w v v'' := by
  rcases h' with h' | h' | ⟨g, h', hg⟩
  · subst h'; exact h
  · rcases h with h | h | ⟨g, h, hg⟩
    · subst h; exact .inr (.inl h')
    · exact .inr (.inl (h'.trans h))
    · exact .inr (.inr ⟨g, h'.trans h, hg⟩)
  · exact .inr (.inr ⟨g, h', by omega⟩)

/-- the state of feed's loop -/
def Fed (B : Nat) (w wr : World) (db mb : Nat) (v : Value) (L : List (ByteArray × Int)) : Prop :=
  ∃ v', Dict B wr db mb v' L ∧ NewRow w v v' ∧ Kept (Foot db mb v) w wr
theorem Fed.start {B : Nat} {w : World} {db mb : Nat} {v : Value} {L : List (ByteArray × Int)} (h : Dict B w db mb v L) : Fed B w w db mb v L := ⟨v, h, .inl rfl, Kept.refl _ _⟩
theorem Fed.drewN {B : Nat} {w wr : World} {db mb : Nat} {v : Value} {L : List (ByteArray × Int)} (h : Fed B w wr db mb v L) (n : Nat) : Fed B w (wr.drewN n) db mb v L := by
  obtain ⟨v', h1, h2, h3⟩ := h
  exact ⟨v', h1.kept (Kept.ofDrewN (fun _ => False) wr n) (fun _ _ h => h), h2, h3.drewN n⟩
theorem Fed.drew {B : Nat} {w wr : World} {db mb : Nat} {v : Value} {L : List (ByteArray × Int)} (h : Fed B w wr db mb v L) : Fed B w wr.drew db mb v L := h.drewN 1
theorem Fed.step {B : Nat} {w wr w' : World} {db mb : Nat} {v v1 : Value} {L : List (ByteArray × Int)} {p : ByteArray × Int} (hn : NewRow w v v1) (hk : Kept (Foot db mb v) w wr)
    (h : ∃ v', Dict B w' db mb v' (L ++ [p]) ∧ NewRow wr v1 v' ∧ Kept (Foot db mb v1) wr w') : Fed B w w' db mb v (L ++ [p]) := by
  obtain ⟨v', h1, h2, h3⟩ := h
  exact ⟨v', h1, hn.trans hk.size h2, hk.trans h3 (fun i hi e => hn.foot i hi e)⟩

set_option maxHeartbeats 1000000 in
theorem feed_any (B : Nat) (w : World) (db mb : Nat) (v : Value) (L : List (ByteArray × Int)) (a : Option Addr) (n c : Nat) (K : Nat → ByteArray) (V : Nat → Int) (hd : Dict B w db mb v L) (hs : Script w a n K V)
    (ha : n ≠ 0 → ∀ x, a = some x → x.block < B) (hL : L.length + n ≤ 100000) (hB : B ≤ w.heap.size) :
    Calls Try.prog 10 #[.pointer (some ⟨db, 0, none⟩), .slice a n c] w fun e w' => e = .returned (.tuple #[]) ∧ Fed B w w' db mb v (L ++ hist K V n) := by
  by_cases hz : n = 0
  · subst hz
    have HD := hide hd
    clear hd
    go_enter Try.func10, Try.ntmps10
    go_wp2
    refine wp_loop_rounds 1 ?_; rw [rounds_succ]
    go_wp2
    go_end0
    exact ⟨rfl, by simpa [Pl.hist_zero] using Fed.start (unhide HD)⟩
  have HS := hide hs
  rcases hs with h | ⟨b, off, rfl, hc, hv, hsz⟩
  · omega
  have hbB : b < B := ha hz _ rfl
  clear ha
  have HD := hide hd
  clear hd
  go_enter Try.func10, Try.ntmps10
  go_wp2
  go_loopw [4] (fun i wr => ∃ k : Nat, k ≤ n ∧ i = .int .i64 k ∧ Fed B w wr db mb v (L ++ hist K V k)) (fun i _ => n - (intOf i).toNat)
  case atStart => exact ⟨0, by omega, rfl, by simpa [Pl.hist_zero] using Fed.start (unhide HD)⟩
  case round =>
    obtain ⟨k, hk, rfl, hf⟩ := hrel
    by_cases hlt : k < n
    · obtain ⟨v1, hd1, hn1, hk1⟩ := hf
      have hfoot := (unhide HD).foot_lo
      have hck := hk1.cell (hc k (by omega)) (fun e => by have := hfoot _ e; simp at this; omega)
      have hvk := hk1.cell (hv k (by omega)) (fun e => by have := hfoot _ e; simp at this; omega)
      have hsk := hsz k (by omega)
      have hB1 : B ≤ wr.heap.size := Nat.le_trans hB hk1.size
      have hlen : (L ++ hist K V k).length ≤ 100000 := by rw [List.length_append, Pl.hist_length]; omega
      have HE : Hid (hist K V (k + 1) = hist K V k ++ [(K k, V k)]) := Pl.hist_succ K V k
      have HD1 := hide hd1
      have HN1 := hide hn1
      have HK1 := hide hk1
      clear hc hv hsz hfoot hd1 hn1 hk1
      generalize K k = s at *
      generalize V k = x at *
      have HC := hide (fun q : Nat => setInt_any B (wr.drewN q) db mb v1 (L ++ hist K V k) s x ((unhide HD1).kept (Kept.ofDrewN (fun _ => False) wr q) (fun _ _ h => h)) hsk hlen hB1)
      have hki : (0 : Int) ≤ (k : Int) := by omega
      have hkn : (k : Int) < (n : Int) := by omega
      go_wp2
      go_region_with (go_at_call 13; refine (unhide HC 1).mono ?_; rintro e w' ⟨rfl, hq⟩; have HQ := hide hq; clear hq)
      all_goals
        have R := Fed.step (unhide HN1) ((unhide HK1).drewN 1) (unhide HQ)
        rw [List.append_assoc, ← unhide HE] at R
        have HR := hide R
        clear R HQ HE
        go_wp2
        go_roundw
        case rel => exact ⟨k + 1, by omega, by go_num, unhide HR⟩
        case measure => simp [intOf]; omega
    · have hkn : k = n := by omega
      have HF := hide hf
      clear hc hv hsz hf
      go_wp2
      go_end0
      subst hkn
      exact ⟨rfl, unhide HF⟩

/-- the state of copyStrings' loop -/
def Copied (w wr : World) (n k : Nat) (ks : List ByteArray) : Prop :=
  wr.rowIs w.heap.size 9 n (fun j => if j < k then .string (ks.getD j ByteArray.empty) else .string ByteArray.empty) ∧ Kept (fun _ => False) w wr
theorem Copied.step {w wr : World} {n k : Nat} {ks : List ByteArray} {s : ByteArray} (h : Copied w wr n k ks) (hs : ks.getD k ByteArray.empty = s) : Copied w (wr.setCell ⟨w.heap.size, k, none⟩ (.string s)) n (k + 1) ks := by
  refine ⟨(h.1.set k _).congr (fun i _ => ?_), h.2.setCell (fun e => absurd e (Nat.lt_irrefl _)) _⟩
  by_cases e : i = k
  · subst e; simp only [if_true]; rw [if_pos (by omega), hs]
  · by_cases e2 : i < k
    · simp only [e, if_false, e2, if_true]; rw [if_pos (by omega)]
    · simp only [e, if_false, e2]; rw [if_neg (by omega)]

set_option maxHeartbeats 400000 in
theorem copy_any (a : Option Addr) (c : Nat) (ks : List ByteArray) (w : World) (hs : Strs w a ks) (hb : ks.length ≤ 100000) :
    Calls Try.prog 11 #[.slice a ks.length c] w fun e w' => (∃ c', e = .returned (.slice (some ⟨w.heap.size, 0, none⟩) ks.length c') ∧ Strs w' (some ⟨w.heap.size, 0, none⟩) ks) ∧ Kept (fun _ => False) w w' ∧ w.heap.size < w'.heap.size := by
  have hmk := run_make_row' (P := Try.prog) 28 9 (.string ByteArray.empty) 16 Try.underlying28 Try.info9 rfl .i64 .i64 ks.length (by omega) (by omega)
  by_cases hz : ks.length = 0
  · have e : ks = [] := List.eq_nil_of_length_eq_zero hz
    subst e
    simp only [List.length_nil] at *
    have hmk' : ∀ w : World, (Instr.makeSlice 28 (.int .i64 0) (.int .i64 0)).run Try.prog w = .ok (.slice (some ⟨w.heap.size, 0, none⟩) 0 0) (w.alloc (.cells (madeCells #[.string ByteArray.empty] 0) 9)) := hmk
    clear hmk
    go_enter Try.func11, Try.ntmps11
    go_wp2
    refine wp_loop_rounds 1 ?_; rw [rounds_succ]
    go_wp2
    go_ret
    exact ⟨⟨_, rfl, .inl rfl⟩, (Kept.refl _ _).alloc _, by simp⟩
  rcases hs with h | ⟨b, off, rfl, hc⟩
  · subst h; simp at hz
  obtain ⟨n, hn⟩ : ∃ n, n = ks.length := ⟨_, rfl⟩
  rw [← hn] at hmk hc hb hz ⊢
  have HNN := hide hn
  clear hn
  have HC := hide hc
  clear hc
  go_enter Try.func11, Try.ntmps11
  go_wp2
  go_loopw [4] (fun i wr => ∃ k : Nat, k ≤ n ∧ i = .int .i64 k ∧ Copied w wr n k ks) (fun i _ => n - (intOf i).toNat)
  case atStart => exact ⟨0, by omega, rfl, (World.rowIs_made w _ n 9).congr (fun i _ => by simp), (Kept.refl _ _).alloc _⟩
  case round =>
    obtain ⟨k, hk, rfl, hr, hkept⟩ := hrel
    have HR : Hid (Copied w wr n k ks) := ⟨hr, hkept⟩
    by_cases hlt : k < n
    · have h1 := hkept.cell (unhide HC k hlt) (fun e => e)
      obtain ⟨u, h2⟩ : ∃ u, wr.cell? ⟨w.heap.size, k, none⟩ = some u := ⟨_, hr.cell hlt⟩
      have h3 := hr.frozen k
      clear hr hkept
      obtain ⟨s, hsd⟩ : ∃ s, ks.getD k ByteArray.empty = s := ⟨_, rfl⟩
      rw [hsd] at h1
      have HE := hide hsd
      clear hsd
      go_wp2
      go_roundw
      case rel => exact ⟨k + 1, by omega, by go_num, (unhide HR).step (unhide HE)⟩
      case measure => simp [intOf]; omega
    · have e : k = n := by omega
      clear hr hkept
      go_wp2
      go_ret
      subst e
      refine ⟨⟨_, rfl, .inr ⟨_, _, rfl, fun j hj => ?_⟩⟩, (unhide HR).2, (unhide HR).1.lt⟩
      rw [← unhide HNN] at hj
      have := (unhide HR).1.cell hj
      rw [if_pos hj] at this
      simpa using this

/-- the state of firstKeys' loop -/
def Firsts (w wr : World) (v : Value) (ks : List ByteArray) : Prop :=
  wr.ownsRow w.heap.size 9 1 v ks.length (ks.map Value.string) ∧ Kept (fun _ => False) w wr

theorem Firsts.start {w w1 : World} {c : Nat} (h : w1.ownsRow w.heap.size 9 1 (.slice (some ⟨w.heap.size, 0, none⟩) 0 c) 0 []) (hg : w.grownBy w1 none) : Firsts w w1 (.slice (some ⟨w.heap.size, 0, none⟩) 0 c) [] :=
  ⟨h, (Kept.refl _ _).grown hg (fun _ _ e => by cases e)⟩
theorem Firsts.drewN {w wr : World} {v : Value} {ks : List ByteArray} (h : Firsts w wr v ks) (n : Nat) : Firsts w (wr.drewN n) v ks := ⟨h.1.kept ⟨rfl, rfl, rfl, Nat.le_refl _, fun _ _ _ => rfl⟩ (row := none) (by cases v.ownBlock <;> simp), h.2.drewN n⟩
theorem Firsts.push {w wr w1 : World} {v v' : Value} {n : Nat} {ks : List ByteArray} {s : ByteArray} {o : Obj} (h : Firsts w wr v ks) (ho : w1.ownsRow w.heap.size 9 1 v' n (ks.map Value.string ++ [.string s])) (hg : (wr.alloc o).grownBy w1 v.ownBlock) :
    Firsts w w1 v' (ks ++ [s]) := by
  have e : n = (ks ++ [s]).length := by have := ho.1; simp at this; simp; omega
  subst e
  refine ⟨by simpa using ho, (h.2.alloc o).grown hg (fun i hi e => ?_)⟩
  have := (h.1.lt i e.symm).1
  omega

set_option maxHeartbeats 1000000 in
theorem firstKeys_any (a : Option Addr) (n c : Nat) (K : Nat → ByteArray) (V : Nat → Int) (w : World) (hs : Script w a n K V) (hb : n ≤ 4096) :
    Calls Try.prog 15 #[.slice a n c] w fun e w' => (∃ v, e = .returned v ∧ Firsts w w' v (fk (hist K V n))) := by
  obtain ⟨i0, hi, hz0, hz1, hz2⟩ := info_parts Try.info9
  by_cases hz : n = 0
  · subst hz
    go_enter Try.func15, Try.ntmps15
    go_wp2_with (first | (at_make; refine wpList_make_own _ rfl _ _ 28 rfl w.heap.size 9 i0 _ 1 Try.underlying28 hi hz0 hz1 .i64 .i64 _ 0 rfl rfl rfl (by omega) (by decide) (Nat.le_refl _) ?_; intro w1 hown1 hg1))
    refine wp_loop_rounds 1 ?_; rw [rounds_succ]
    go_wp2
    go_ret
    exact ⟨_, rfl, Firsts.start hown1 hg1⟩
  have HS := hide hs
  rcases hs with h | ⟨b, off, rfl, hc, _, _⟩
  · omega
  have HC := hide hc
  clear hc
  go_enter Try.func15, Try.ntmps15
  go_wp2_with (first | (at_make; refine wpList_make_own _ rfl _ _ 28 rfl w.heap.size 9 i0 _ 1 Try.underlying28 hi hz0 hz1 .i64 .i64 _ n rfl rfl rfl (by rw [hz2]; omega) (by unfold maxLen; omega) (Nat.le_refl _) ?_; intro w1 hown1 hg1))
  go_loopw [3, 4] (fun v i wr => ∃ k : Nat, k ≤ n ∧ i = .int .i64 k ∧ Firsts w wr v (fk (hist K V k))) (fun _ i _ => n - (intOf i).toNat)
  case atStart => exact ⟨0, by omega, rfl, Firsts.start hown1 hg1⟩
  case round =>
    obtain ⟨k, hkn, rfl, hf⟩ := hrel
    clear hown1 hg1
    by_cases hlt : k < n
    · have h1 := hf.2.cell (unhide HC k hlt) (fun e => e)
      have hsz := hf.2.size
      have hlen := Pl.fk_length (hist K V k)
      rw [Pl.hist_length] at hlen
      have HE := hide (Pl.hist_succ K V k)
      have HQ := hide (seen_any (some ⟨b, off, none⟩) n c k K V wr ((unhide HS).kept hf.2 (fun _ _ _ e => e)) hlt hb)
      have HF := hide hf
      have hrow := hf.1
      clear hf
      obtain ⟨sb, hsb⟩ : ∃ sb, hk (hist K V k) (K k) = sb := ⟨_, rfl⟩
      rw [hsb] at HQ
      have HSB := hide hsb
      clear hsb
      generalize hsk : K k = s at h1
      have HSK := hide hsk
      clear hsk
      generalize hks : fk (hist K V k) = ks at *
      have HKS := hide hks
      clear hks
      cases sb with
      | true =>
        go_wp2_with (first | (go_at_call 19; refine (unhide HQ).mono ?_; rintro e w2 ⟨rfl, nq, rfl⟩))
        go_roundw
        case rel => exact ⟨k + 1, by omega, by go_num, by rw [unhide HE, Pl.fk_snoc_of_has _ _ (unhide HSB), unhide HKS]; exact (unhide HF).drewN _⟩
        case measure => simp [intOf]; omega
      | false =>
        go_wp2_with (first | (go_at_call 19; refine (unhide HQ).mono ?_; rintro e w2 ⟨rfl, nq, rfl⟩) | (at_builtin; refine wpList_append_lies _ rfl _ _ 28 rfl w.heap.size 9 i0 _ 1 16 Try.underlying28 hi hz0 hz1 hz2 rfl (by decide) _ _ _ rfl (((unhide HF).drewN nq).1.alloc _) ⟨wr.heap.size, 0, none⟩ 1 1 [.string s] rfl rfl (cell_one_new _ _ _) (by simp [Value.oneCell']) (by decide) (by unfold maxLen; omega) (by omega) (by simp; omega) (wr.heap.size + 1) (by simp) ?_; intro g cap w3 hown3 hgrow3 hat3 hlt3))
        go_roundw
        case rel => exact ⟨k + 1, by omega, by go_num, by rw [unhide HE, Pl.fk_snoc_of_not _ _ (unhide HSB), unhide HKS, unhide HSK]; exact ((unhide HF).drewN nq).push hown3 hgrow3⟩
        case measure => simp [intOf]; omega
    · have e : k = n := by omega
      have HF := hide hf
      clear hf
      go_wp2
      go_ret
      subst e
      exact ⟨_, rfl, unhide HF⟩

end Go.Proofs.Qxb6616518a
