/- build: the walk. -/
import Derived.Test.Qxb6616570aBuild
namespace Go.Proofs.Qxb6616570a
open Go.RowKit Go.Maps

theorem dialed {w wr : World} {B n : Nat} {peer : ByteArray} {f d o : Int} {g : Bool} {fo ne : Nat → Bool} (hB : w.heap.size = B) (h : Marked w wr B n n peer f g fo ne) :
    St ((wr.setCell ⟨B + 3, 5, none⟩ (.pointer (pk (ebk B n) d))).setCell ⟨B + 3, 6, none⟩ (.pointer (pk (ebk B n) o))) B n peer f g (pk (ebk B n) d) (pk (ebk B n) o) fo ne n ∧
    ((wr.setCell ⟨B + 3, 5, none⟩ (.pointer (pk (ebk B n) d))).setCell ⟨B + 3, 6, none⟩ (.pointer (pk (ebk B n) o))).ownsMap Try.prog 9 recElem (B + 1) 0 (.map []) ∧
    ((wr.setCell ⟨B + 3, 5, none⟩ (.pointer (pk (ebk B n) d))).setCell ⟨B + 3, 6, none⟩ (.pointer (pk (ebk B n) o))).heap[B]? = some (.cells #[nil37, nil37, .slice none 0 0, .slice none 0 0] 30 (0, 0)) ∧
    Kept (fun _ => False) w ((wr.setCell ⟨B + 3, 5, none⟩ (.pointer (pk (ebk B n) d))).setCell ⟨B + 3, 6, none⟩ (.pointer (pk (ebk B n) o))) := by
  have K : Kept (fun i => i = B + 3) wr ((wr.setCell ⟨B + 3, 5, none⟩ (.pointer (pk (ebk B n) d))).setCell ⟨B + 3, 6, none⟩ (.pointer (pk (ebk B n) o))) :=
    ((Kept.refl (fun i => i = B + 3) wr).setCell (p := ⟨B + 3, 5, none⟩) (fun _ => rfl) _).setCell (p := ⟨B + 3, 6, none⟩) (fun _ => rfl) _
  refine ⟨⟨K.blk h.st.hist (by omega), ?_, rowIs_kept h.st.prow K (by omega), rowIs_kept h.st.erow K (by omega), fun t ht => ?_⟩, St.keptMap h.map K (by omega), K.blk h.res (by omega), h.old.trans K (fun i hi e => by omega)⟩
  · have := blk_set (blk_set h.st.rec_ 5 (.pointer (pk (ebk B n) d))) 6 (.pointer (pk (ebk B n) o))
    unfold RecBlk
    rw [this]
    rfl
  · have := (h.st.node t ht).kept K (by unfold pbk; omega) (by unfold ebk; omega) (fun g' cur hg _ e => by subst e; have := h.st.rec_; unfold RecBlk at this; rw [this] at hg; cases hg)
    simpa [ht] using this

theorem putted {w w4 w5 : World} {B n : Nat} {peer : ByteArray} {f : Int} {g : Bool} {dl ofr : Option Addr} {fo ne : Nat → Bool} (hB : w.heap.size = B)
    (h : St w4 B n peer f g dl ofr fo ne n ∧ w4.ownsMap Try.prog 9 recElem (B + 1) 0 (.map []) ∧ w4.heap[B]? = some (.cells #[nil37, nil37, .slice none 0 0, .slice none 0 0] 30 (0, 0)) ∧ Kept (fun _ => False) w w4) (ht : w4.mapTurned w5 (B + 1)) :
    St w5 B n peer f g dl ofr fo ne n ∧ w5.heap[B]? = some (.cells #[nil37, nil37, .slice none 0 0, .slice none 0 0] 30 (0, 0)) ∧ Kept (fun _ => False) w w5 := by
  obtain ⟨h1, h2, h3, h4⟩ := h
  have K : Kept (fun i => i = B + 1) w4 w5 := (Kept.refl (fun i => i = B + 1) w4).turned ht rfl
  refine ⟨⟨K.blk h1.hist (by omega), K.blk h1.rec_ (by omega), rowIs_kept h1.prow K (by omega), rowIs_kept h1.erow K (by omega), fun t ht2 => ?_⟩, K.blk h3 (by omega), h4.trans K (fun i hi e => by omega)⟩
  obtain ⟨es, c, hm, _⟩ := h2
  exact (h1.node t ht2).kept K (by unfold pbk; omega) (by unfold ebk; omega) (fun g' cur hg _ e => by subst e; rw [hm] at hg; cases hg)

theorem stored {w w5 : World} {B n : Nat} {peer : ByteArray} {f : Int} {g : Bool} {dl ofr : Option Addr} {fo ne : Nat → Bool} (hB : w.heap.size = B)
    (h : St w5 B n peer f g dl ofr fo ne n ∧ w5.heap[B]? = some (.cells #[nil37, nil37, .slice none 0 0, .slice none 0 0] 30 (0, 0)) ∧ Kept (fun _ => False) w w5) (hp : PeerMap w5 (B + 1) (B + 3) peer true) (x0 x1 x2 x3 : Value) :
    ((((w5.setCell ⟨B, 0, none⟩ x0).setCell ⟨B, 1, none⟩ x1).setCell ⟨B, 2, none⟩ x2).setCell ⟨B, 3, none⟩ x3).cell? ⟨B, 0, none⟩ = some x0 ∧
    ((((w5.setCell ⟨B, 0, none⟩ x0).setCell ⟨B, 1, none⟩ x1).setCell ⟨B, 2, none⟩ x2).setCell ⟨B, 3, none⟩ x3).cell? ⟨B, 1, none⟩ = some x1 ∧
    ((((w5.setCell ⟨B, 0, none⟩ x0).setCell ⟨B, 1, none⟩ x1).setCell ⟨B, 2, none⟩ x2).setCell ⟨B, 3, none⟩ x3).cell? ⟨B, 2, none⟩ = some x2 ∧
    ((((w5.setCell ⟨B, 0, none⟩ x0).setCell ⟨B, 1, none⟩ x1).setCell ⟨B, 2, none⟩ x2).setCell ⟨B, 3, none⟩ x3).cell? ⟨B, 3, none⟩ = some x3 ∧
    St ((((w5.setCell ⟨B, 0, none⟩ x0).setCell ⟨B, 1, none⟩ x1).setCell ⟨B, 2, none⟩ x2).setCell ⟨B, 3, none⟩ x3) B n peer f g dl ofr fo ne n ∧
    PeerMap ((((w5.setCell ⟨B, 0, none⟩ x0).setCell ⟨B, 1, none⟩ x1).setCell ⟨B, 2, none⟩ x2).setCell ⟨B, 3, none⟩ x3) (B + 1) (B + 3) peer true ∧
    Kept (fun _ => False) w ((((w5.setCell ⟨B, 0, none⟩ x0).setCell ⟨B, 1, none⟩ x1).setCell ⟨B, 2, none⟩ x2).setCell ⟨B, 3, none⟩ x3) := by
  obtain ⟨h1, h2, h3⟩ := h
  have hb := blk_set (blk_set (blk_set (blk_set h2 0 x0) 1 x1) 2 x2) 3 x3
  have K : Kept (fun i => i = B) w5 ((((w5.setCell ⟨B, 0, none⟩ x0).setCell ⟨B, 1, none⟩ x1).setCell ⟨B, 2, none⟩ x2).setCell ⟨B, 3, none⟩ x3) :=
    ((((Kept.refl (fun i => i = B) w5).setCell (p := ⟨B, 0, none⟩) (fun _ => rfl) _).setCell (p := ⟨B, 1, none⟩) (fun _ => rfl) _).setCell (p := ⟨B, 2, none⟩) (fun _ => rfl) _).setCell (p := ⟨B, 3, none⟩) (fun _ => rfl) _
  refine ⟨by rw [blk_cell hb]; rfl, by rw [blk_cell hb]; rfl, by rw [blk_cell hb]; rfl, by rw [blk_cell hb]; rfl, ⟨K.blk h1.hist (by omega), K.blk h1.rec_ (by omega), rowIs_kept h1.prow K (by omega), rowIs_kept h1.erow K (by omega), fun t ht2 => ?_⟩, hp.kept K (by omega), h3.trans K (fun i hi e => by omega)⟩
  exact (h1.node t ht2).kept K (by unfold pbk; omega) (by unfold ebk; omega) (fun g' cur hg _ e => by subst e; rw [h2] at hg; cases hg)

set_option maxRecDepth 100000 in
set_option maxHeartbeats 4000000 in
theorem build_any (peer : ByteArray) (b off n c : Nat) (d o f : Int) (g : Bool) (fo ne : Nat → Bool) (w : World) (hp : peer.size ≤ maxLen) (hs : Specs w b off n fo ne) (hn0 : 0 < n) (hn : n ≤ 65536) (hd : d < n) (ho : o < n) (B : Nat) (hB : w.heap.size = B) :
    Calls Try.prog 12 #[.string peer, .slice (some ⟨b, off, none⟩) n c, .int .i64 d, .int .i64 o, .int .i64 f, .bool g] w fun e w' =>
      e = .returned (.agg #[pt (B + 2), pt (B + 3), .slice (some ⟨B + 4, 0, none⟩) n n, .slice (some ⟨B + 5, 0, none⟩) n n]) ∧
      St w' B n peer f g (pk (ebk B n) d) (pk (ebk B n) o) fo ne n ∧ PeerMap w' (B + 1) (B + 3) peer true ∧ Kept (fun _ => False) w w' := by
  have HB := hide hB
  have HS := hide hs
  clear hs
  have hmk1 := run_make_row' (P := Try.prog) 27 60 nil37 8 Try.underlying27 Try.info60 rfl .i64 .i64 n (by omega) (by omega)
  have hmk2 := run_make_row' (P := Try.prog) 28 37 nil37 8 Try.underlying28 Try.info37 rfl .i64 .i64 n (by omega) (by omega)
  go_enter Try.func12, Try.ntmps12
  go_wp2_with fail
  refine (newHistory_at _ (B + 1) (by simp; omega)).mono ?_
  rintro e w1 ⟨rfl, rfl⟩
  go_wp2_with fail
  refine (newRecord_at f g _ (B + 3) (by simp; omega)).mono ?_
  rintro e w1 ⟨rfl, rfl⟩
  go_wp2_with fail
  have hM : Made w (start w n f g) B n n peer f g fo := Made.start hB
  unfold start at hM
  rw [hB] at hM
  rw [show B + 1 + 1 + 1 + 1 + 1 = B + 5 from rfl, show B + 1 + 1 + 1 + 1 = B + 4 from rfl, show B + 1 + 1 = B + 2 from rfl]
  generalize (((((w.alloc (.cells #[nil37, nil37, .slice none 0 0, .slice none 0 0] 30)).alloc (.map #[] 0)).alloc (.cells #[.int .i32 0, .int .u32 0, .map (some (B + 1)), .int .i64 0] 98)).alloc
    (.cells #[.int .i64 f, .int .u64 0, .int .i64 0, .pointer none, .bool g, .pointer none, .pointer none, .pointer none] 86)).alloc (.cells (madeCells #[nil37] n) 60)).alloc (.cells (madeCells #[nil37] n) 37) = w1 at hM ⊢
  have HM := hide hM
  clear hM hmk1 hmk2 hB
  go_loopw [18, 19, 20, 21] (fun nx i _ _ wr => ∃ s : Nat, s ≤ n ∧ i = .int .i64 ((s : Int) - 1) ∧ nx = .pointer (npa B n s) ∧ Made w wr B n s peer f g fo) (fun _ i _ _ _ => (intOf i + 1).toNat)
  case atStart => exact ⟨n, Nat.le_refl _, rfl, by unfold npa; rw [if_neg (Nat.lt_irrefl _)], unhide HM⟩
  case round =>
    obtain ⟨s, hs, rfl, rfl, hm⟩ := hrel
    cases s with
    | zero =>
      have HMM := hide hm
      clear hm HM
      go_wp2_with fail
      have hMk := Marked.start (ne := ne) (unhide HB) hn0 (unhide HMM)
      refine (setEntries_any (B + 3) nil37 (npa B n 0) wr (by rw [blk_cell (unhide HMM).base.rec_]; rfl) (blk_free (unhide HMM).base.rec_ 7)).mono ?_
      rintro e w2 ⟨rfl, rfl⟩
      generalize wr.setCell ⟨B + 3, 7, none⟩ (.pointer (npa B n 0)) = w2 at hMk ⊢
      have HK := hide hMk
      clear hMk HMM
      go_wp2_with fail
      go_loopw [22] (fun i wr => ∃ k : Nat, k ≤ n ∧ i = .int .i64 k ∧ Marked w wr B n k peer f g fo ne) (fun i _ => n - (intOf i).toNat)
      case atStart => exact ⟨0, by omega, rfl, unhide HK⟩
      case round =>
        obtain ⟨k, hk, rfl, hm⟩ := hrel
        clear HK
        by_cases hlt : k < n
        · have hne := hm.old.cell ((unhide HS).2 k (by omega)) (fun e => e)
          have HMM := hide hm
          have herc := hm.st.erow.cell hlt
          clear hm
          cases hnk : ne k with
          | false =>
            rw [hnk] at hne
            have HNK := hide hnk
            clear hnk
            go_wp2
            go_roundw
            case rel => exact ⟨k + 1, by omega, by go_num, (unhide HMM).skip (unhide HNK)⟩
            case measure => simp [intOf]; omega
          | true =>
            rw [hnk] at hne
            have hBw : B ≤ wr.heap.size := by have := (unhide HMM).old.size; have := unhide HB; omega
            have hnode : Node B wr (B + 2) (pbk B n k) (ebk B n k) peer (fo k) false (.pointer (rvOf B n k)) (.pointer (nxOf B n n k)) := by
              have := (unhide HMM).st.node k hlt
              simpa using this
            obtain ⟨nv, hpb, heb, hnw⟩ := hnode
            rcases hnw with ⟨_, rfl⟩ | ⟨h, _⟩
            · have HQ := hide (mark_any B (B + 2) (pbk B n k) (ebk B n k) peer (fo k) _ _ wr hBw hpb heb)
              have HNK := hide hnk
              clear hnk hpb heb
              generalize heb : ebk B n k = eb at herc HQ
              have HEB := hide heb
              clear heb
              go_wp2_with (first | (go_at_call 33; refine (unhide HQ).mono ?_; rintro e w3 ⟨rfl, hN, hK3⟩; have HN := hide hN; have HK3 := hide hK3; clear hN hK3))
              go_roundw
              case rel => exact ⟨k + 1, by omega, by go_num, (unhide HMM).mark (unhide HB) hlt (unhide HNK) (by rw [unhide HEB]; exact unhide HN) (by rw [unhide HEB]; exact unhide HK3)⟩
              case measure => simp [intOf]; omega
            · cases h
        · have hkn : k = n := by omega
          subst hkn
          have HMM := hide hm
          clear hm
          have hcell : ∀ j, j < k → wr.cell? ⟨B + 5, j, none⟩ = some (pt (ebk B k j)) := fun j hj => (unhide HMM).st.erow.cell hj
          go_wp2_with fail
          refine (pick_any (B + 5) k k (ebk B k) d wr hd hcell).mono ?_
          rintro e w3 ⟨rfl, rfl⟩
          go_wp2_with fail
          refine (pick_any (B + 5) k k (ebk B k) o _ ho hcell).mono ?_
          rintro e w3 ⟨rfl, rfl⟩
          have hrec := (unhide HMM).st.rec_
          go_wp2_with fail
          refine (setDialer_any (B + 3) nil37 nil37 _ _ _ (by rw [blk_cell hrec]; rfl) (by rw [blk_cell hrec]; rfl) (blk_free hrec 5) (blk_free hrec 6)).mono ?_
          rintro e w4 ⟨rfl, rfl⟩
          have hD := dialed (d := d) (o := o) (unhide HB) (unhide HMM)
          generalize (w3.setCell ⟨B + 3, 5, none⟩ (.pointer (pk (ebk B k) d))).setCell ⟨B + 3, 6, none⟩ (.pointer (pk (ebk B k) o)) = w4 at hD ⊢
          have HD := hide hD
          clear hD hrec hcell HMM
          go_wp2_with fail
          refine (putPeer_any (B + 2) (B + 1) (B + 3) peer w4 hp (by rw [blk_cell (unhide HD).1.hist]; rfl) (unhide HD).2.1).mono ?_
          rintro e w5 ⟨rfl, hpm, hturn⟩
          have hE := putted (unhide HB) (unhide HD) hturn
          have c0 : w5.cell? ⟨B, 0, none⟩ = some nil37 := by rw [blk_cell hE.2.1]; rfl
          have c1 : w5.cell? ⟨B, 1, none⟩ = some nil37 := by rw [blk_cell hE.2.1]; rfl
          have c2 : w5.cell? ⟨B, 2, none⟩ = some (.slice none 0 0) := by rw [blk_cell hE.2.1]; rfl
          have c3 : w5.cell? ⟨B, 3, none⟩ = some (.slice none 0 0) := by rw [blk_cell hE.2.1]; rfl
          have f0 := blk_free hE.2.1 0
          have f1 := blk_free hE.2.1 1
          have f2 := blk_free hE.2.1 2
          have f3 := blk_free hE.2.1 3
          have HE := hide hE
          have HPM := hide hpm
          clear hE hpm hturn HD
          go_wp2
          have R := stored (unhide HB) (unhide HE) (unhide HPM) (pt (B + 2)) (pt (B + 3)) (.slice (some ⟨B + 4, 0, none⟩) k k) (.slice (some ⟨B + 5, 0, none⟩) k k)
          obtain ⟨_, _, _, _, R⟩ := R
          refine bodyPost_ret (v := .agg #[pt (B + 2), pt (B + 3), .slice (some ⟨B + 4, 0, none⟩) k k, .slice (some ⟨B + 5, 0, none⟩) k k]) ?_ rfl ⟨rfl, R⟩
          simp [results, Try.results12, go_sem, c0, c1, c2, c3]
    | succ k =>
      have hfo := hm.base.old.cell ((unhide HS).1 k (by omega)) (fun e => e)
      have hsz := hm.size
      have HMM := hide hm
      have pr0 := (hm.prow.alloc (.cells #[pt (B + 2), .bool (fo k), .slice none 0 0, .chan none, .int .u32 0] 106)).alloc (.cells #[pt (pbk B n k), .string peer, pt (B + 3), .pointer (npa B n (k + 1)), .bool false, .int .u8 0] 109)
      have er0 := (((hm.erow.alloc (.cells #[pt (B + 2), .bool (fo k), .slice none 0 0, .chan none, .int .u32 0] 106)).alloc (.cells #[pt (pbk B n k), .string peer, pt (B + 3), .pointer (npa B n (k + 1)), .bool false, .int .u8 0] 109)).setOther (a := ⟨B + 4, k, none⟩) (by show B + 5 ≠ B + 4; omega) (pt (pbk B n k)))
      have p1 := pr0.cell (i := k) (by omega)
      have p2 := pr0.frozen k
      have p3 := er0.cell (i := k) (by omega)
      have p4 := er0.frozen k
      rw [if_neg (by omega)] at p1 p3
      clear pr0 er0 hm
      have HQ1 := hide (newPart_at (B + 2) (fo k) wr (pbk B n k) (by unfold pbk; omega))
      have HQ2 := hide (newEntry_at (pbk B n k) peer (B + 3) (npa B n (k + 1)) (wr.alloc (.cells #[pt (B + 2), .bool (fo k), .slice none 0 0, .chan none, .int .u32 0] 106)) (ebk B n k) (by unfold ebk; simp; omega))
      have HST := hide (Made.step (unhide HB) (by omega) (unhide HMM))
      have hks : ((k + 1 : Nat) : Int) - 1 = (k : Int) := by omega
      rw [hks]
      have q1 : (0 : Int) ≤ (k : Int) := by omega
      have q2 : (k : Int) < (n : Int) := by omega
      clear HMM hsz hks
      generalize hpb : pbk B n k = pb at *
      generalize heb : ebk B n k = eb at *
      have HEB := hide heb
      clear hpb heb
      go_wp2_with (first | (go_at_call 30; refine (unhide HQ1).mono ?_; rintro e w2 ⟨rfl, rfl⟩) | (go_at_call 31; refine (unhide HQ2).mono ?_; rintro e w2 ⟨rfl, rfl⟩))
      go_roundw
      case rel => exact ⟨k, by omega, rfl, by unfold npa; rw [if_pos (by omega), unhide HEB], unhide HST⟩
      case measure => simp [intOf]

end Go.Proofs.Qxb6616570a
