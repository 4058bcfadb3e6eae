/- holds. -/
import Derived.Test.Qxb6616570aBuild
import Derived.Test.Qxb6616570aPtr
import Derived.Deep.RegionWith
import Derived.Deep.Cut
namespace Go.Proofs.Qxb6616570a
open Go.RowKit Go.Maps

/-- the place in the list at j: the next kept one from j on -/
def curOf (gone j : Nat) : Nat := if j = gone then j + 1 else j

theorem St.keptAll {w w' : World} {B n : Nat} {peer : ByteArray} {f : Int} {g : Bool} {dl ofr : Option Addr} {fo ne : Nat → Bool} {gone : Nat} (h : St w B n peer f g dl ofr fo ne gone) (k : Kept (fun _ => False) w w') : St w' B n peer f g dl ofr fo ne gone :=
  ⟨k.blk h.hist (fun e => e), k.blk h.rec_ (fun e => e), rowIs_kept h.prow k (fun e => e), rowIs_kept h.erow k (fun e => e), fun t ht => (h.node t ht).kept k (fun e => e) (fun e => e) (fun _ _ _ _ e => e)⟩

theorem drw {wr w2 : World} {a : Nat} (h : wr = w2.drewN a) (k : Nat) : ∃ q, wr.drewN k = w2.drewN q := ⟨a + k, by rw [h]; simp [World.drewN, Nat.add_assoc]⟩

/-- all that holds reads -/
structure All (w : World) (B n gone kr or nr wb xb : Nat) (peer : ByteArray) (d o f : Int) (g : Bool) (fo ne : Nat → Bool) : Prop where
  st : St w B n peer f g (pk (ebk B n) d) (pk (ebk B n) o) fo ne gone
  pm : PeerMap w (B + 1) (B + 3) peer (decide (hdOf gone < n))
  krow : w.rowIs kr 4 n (fun t => .bool (decide (t ≠ gone)))
  orow : w.rowIs or 5 n (fun _ => .int .u8 0)
  nrow : w.rowIs nr 4 n (fun t => .bool (ne t))
  a0 : w.cell? ⟨wb, 0, none⟩ = some (pt (B + 2))
  a1 : w.cell? ⟨wb, 1, none⟩ = some (pt (B + 3))
  a2 : w.cell? ⟨wb, 2, none⟩ = some (.slice (some ⟨B + 4, 0, none⟩) n n)
  a3 : w.cell? ⟨wb, 3, none⟩ = some (.slice (some ⟨B + 5, 0, none⟩) n n)
  x0 : w.cell? ⟨xb, 0, none⟩ = some (.slice (some ⟨kr, 0, none⟩) n n)
  x1 : w.cell? ⟨xb, 1, none⟩ = some (.int .i64 d)
  x2 : w.cell? ⟨xb, 2, none⟩ = some (.int .i64 o)
  x3 : w.cell? ⟨xb, 3, none⟩ = some (.slice (some ⟨or, 0, none⟩) n n)
  x4 : w.cell? ⟨xb, 4, none⟩ = some (.slice (some ⟨nr, 0, none⟩) n n)
  x5 : w.cell? ⟨xb, 5, none⟩ = some (.int .i64 f)
  x6 : w.cell? ⟨xb, 6, none⟩ = some (.bool g)
theorem All.drewN {w : World} {B n gone kr or nr wb xb : Nat} {peer : ByteArray} {d o f : Int} {g : Bool} {fo ne : Nat → Bool} (h : All w B n gone kr or nr wb xb peer d o f g fo ne) (q : Nat) : All (w.drewN q) B n gone kr or nr wb xb peer d o f g fo ne :=
  ⟨h.st.keptAll (Kept.ofDrewN _ w q), h.pm.kept (Kept.ofDrewN (fun _ => False) w q) (fun e => e), h.krow, h.orow, h.nrow, h.a0, h.a1, h.a2, h.a3, h.x0, h.x1, h.x2, h.x3, h.x4, h.x5, h.x6⟩

theorem All.alloc {w : World} {B n gone kr or nr wb xb : Nat} {peer : ByteArray} {d o f : Int} {g : Bool} {fo ne : Nat → Bool} (h : All w B n gone kr or nr wb xb peer d o f g fo ne) (ob : Obj) : All (w.alloc ob).drew B n gone kr or nr wb xb peer d o f g fo ne := by
  have k : Kept (fun _ => False) w (w.alloc ob).drew := ((Kept.refl _ w).alloc ob).drew
  exact ⟨h.st.keptAll k, h.pm.kept k (fun e => e), rowIs_kept h.krow k (fun e => e), rowIs_kept h.orow k (fun e => e), rowIs_kept h.nrow k (fun e => e), k.cell h.a0 (fun e => e), k.cell h.a1 (fun e => e), k.cell h.a2 (fun e => e), k.cell h.a3 (fun e => e), k.cell h.x0 (fun e => e), k.cell h.x1 (fun e => e), k.cell h.x2 (fun e => e), k.cell h.x3 (fun e => e), k.cell h.x4 (fun e => e), k.cell h.x5 (fun e => e), k.cell h.x6 (fun e => e)⟩

set_option maxRecDepth 100000 in
set_option maxHeartbeats 8000000 in
theorem holds_any (w : World) (B n gone kr or nr : Nat) (peer : ByteArray) (d o f : Int) (g : Bool) (fo ne : Nat → Bool) (hp : peer.size ≤ maxLen) (hn0 : 0 < n) (hn : n ≤ 65536) (hd : d < n) (ho : o < n) (_hg : gone ≤ n)
    (h : St w B n peer f g (pk (ebk B n) d) (pk (ebk B n) o) fo ne gone) (hm : PeerMap w (B + 1) (B + 3) peer (decide (hdOf gone < n)))
    (hkr : w.rowIs kr 4 n (fun t => .bool (decide (t ≠ gone)))) (hor : w.rowIs or 5 n (fun _ => .int .u8 0)) (hnr : w.rowIs nr 4 n (fun t => .bool (ne t))) :
    Calls Try.prog 15 #[.agg #[pt (B + 2), pt (B + 3), .slice (some ⟨B + 4, 0, none⟩) n n, .slice (some ⟨B + 5, 0, none⟩) n n], .string peer,
      .agg #[.slice (some ⟨kr, 0, none⟩) n n, .int .i64 d, .int .i64 o, .slice (some ⟨or, 0, none⟩) n n, .slice (some ⟨nr, 0, none⟩) n n, .int .i64 f, .bool g]] w fun e w' => e = .returned (.bool true) ∧ Kept (fun _ => False) w w' := by
  have HST := hide h
  have HM := hide hm
  have HKR := hide hkr
  have HOR := hide hor
  have HNR := hide hnr
  clear h hm hkr hor hnr
  go_enter Try.func15, Try.ntmps15
  go_wp2_with fail
  have hK2 : Kept (fun _ => False) w ((w.alloc (.cells #[pt (B + 2), pt (B + 3), .slice (some ⟨B + 4, 0, none⟩) n n, .slice (some ⟨B + 5, 0, none⟩) n n] 30)).alloc (.cells #[.slice (some ⟨kr, 0, none⟩) n n, .int .i64 d, .int .i64 o, .slice (some ⟨or, 0, none⟩) n n, .slice (some ⟨nr, 0, none⟩) n n, .int .i64 f, .bool g] 35)) := ((Kept.refl _ w).alloc _).alloc _
  have hwb := (Below.heap_alloc (w.alloc (.cells #[pt (B + 2), pt (B + 3), .slice (some ⟨B + 4, 0, none⟩) n n, .slice (some ⟨B + 5, 0, none⟩) n n] 30)) (.cells #[.slice (some ⟨kr, 0, none⟩) n n, .int .i64 d, .int .i64 o, .slice (some ⟨or, 0, none⟩) n n, .slice (some ⟨nr, 0, none⟩) n n, .int .i64 f, .bool g] 35) w.heap.size (by simp)).trans (heap_alloc_new w _)
  have hxb := heap_alloc_new (w.alloc (.cells #[pt (B + 2), pt (B + 3), .slice (some ⟨B + 4, 0, none⟩) n n, .slice (some ⟨B + 5, 0, none⟩) n n] 30)) (.cells #[.slice (some ⟨kr, 0, none⟩) n n, .int .i64 d, .int .i64 o, .slice (some ⟨or, 0, none⟩) n n, .slice (some ⟨nr, 0, none⟩) n n, .int .i64 f, .bool g] 35)
  rw [show (w.alloc (.cells #[pt (B + 2), pt (B + 3), .slice (some ⟨B + 4, 0, none⟩) n n, .slice (some ⟨B + 5, 0, none⟩) n n] 30)).heap.size = w.heap.size + 1 by simp] at hxb
  generalize (w.alloc (.cells #[pt (B + 2), pt (B + 3), .slice (some ⟨B + 4, 0, none⟩) n n, .slice (some ⟨B + 5, 0, none⟩) n n] 30)).alloc (.cells #[.slice (some ⟨kr, 0, none⟩) n n, .int .i64 d, .int .i64 o, .slice (some ⟨or, 0, none⟩) n n, .slice (some ⟨nr, 0, none⟩) n n, .int .i64 f, .bool g] 35) = w2 at *
  generalize w.heap.size + 1 = xb at *
  generalize w.heap.size = wb at *
  have hst := (unhide HST).keptAll hK2
  have hpm := (unhide HM).kept hK2 (fun e => e)
  have hkr := rowIs_kept (unhide HKR) hK2 (fun e => e)
  have hor := rowIs_kept (unhide HOR) hK2 (fun e => e)
  have hnr := rowIs_kept (unhide HNR) hK2 (fun e => e)
  clear HST HM HKR HOR HNR
  have HK2 := hide hK2
  have a0 : w2.cell? ⟨wb, 0, none⟩ = some (pt (B + 2)) := by rw [blk_cell hwb]; rfl
  have a1 : w2.cell? ⟨wb, 1, none⟩ = some (pt (B + 3)) := by rw [blk_cell hwb]; rfl
  have a2 : w2.cell? ⟨wb, 2, none⟩ = some (.slice (some ⟨B + 4, 0, none⟩) n n) := by rw [blk_cell hwb]; rfl
  have a3 : w2.cell? ⟨wb, 3, none⟩ = some (.slice (some ⟨B + 5, 0, none⟩) n n) := by rw [blk_cell hwb]; rfl
  have x0 : w2.cell? ⟨xb, 0, none⟩ = some (.slice (some ⟨kr, 0, none⟩) n n) := by rw [blk_cell hxb]; rfl
  have x1 : w2.cell? ⟨xb, 1, none⟩ = some (.int .i64 d) := by rw [blk_cell hxb]; rfl
  have x2 : w2.cell? ⟨xb, 2, none⟩ = some (.int .i64 o) := by rw [blk_cell hxb]; rfl
  have x3 : w2.cell? ⟨xb, 3, none⟩ = some (.slice (some ⟨or, 0, none⟩) n n) := by rw [blk_cell hxb]; rfl
  have x4 : w2.cell? ⟨xb, 4, none⟩ = some (.slice (some ⟨nr, 0, none⟩) n n) := by rw [blk_cell hxb]; rfl
  have x5 : w2.cell? ⟨xb, 5, none⟩ = some (.int .i64 f) := by rw [blk_cell hxb]; rfl
  have x6 : w2.cell? ⟨xb, 6, none⟩ = some (.bool g) := by rw [blk_cell hxb]; rfl
  have HA : Hid (All w2 B n gone kr or nr wb xb peer d o f g fo ne) := ⟨hst, hpm, hkr, hor, hnr, a0, a1, a2, a3, x0, x1, x2, x3, x4, x5, x6⟩
  clear hst hpm hkr hor hnr hK2 hwb hxb a0 a1 a2 a3 x0 x1 x2 x3 x4 x5 x6
  have a1 := (unhide HA).a1
  have a3 := (unhide HA).a3
  refine (recEntries_any (B + 3) (npa B n (hdOf gone)) w2 (by rw [blk_cell (unhide HA).st.rec_]; rfl)).mono ?_
  rintro e w2 ⟨rfl, rfl⟩
  go_wp2_with fail
  go_loopw [7, 8, 9, 10, 11, 12] (fun at_ sm i _ _ _ wr => ∃ j : Nat, j ≤ n ∧ i = .int .i64 j ∧ at_ = .pointer (npa B n (curOf gone j)) ∧ sm = .bool (decide (hdOf gone < j)) ∧ ∃ nq, wr = w2.drewN nq) (fun _ _ i _ _ _ _ => n - (intOf i).toNat)
  case atStart => exact ⟨0, by omega, rfl, by unfold hdOf curOf; by_cases e : gone = 0 <;> simp [e, eq_comm], by simp, 0, rfl⟩
  case round =>
    obtain ⟨j, hj, rfl, rfl, rfl, nq, hwr⟩ := hrel
    have HW := hide hwr
    have HA2 : Hid (All wr B n gone kr or nr wb xb peer d o f g fo ne) := by rw [hwr]; exact (unhide HA).drewN nq
    clear hwr a1 a3
    have a1 := (unhide HA2).a1
    have a2 := (unhide HA2).a2
    have a3 := (unhide HA2).a3
    have x0 := (unhide HA2).x0
    have x3 := (unhide HA2).x3
    have x4 := (unhide HA2).x4
    by_cases hlt : j < n
    · have hpc := (unhide HA2).st.prow.cell hlt
      have hec := (unhide HA2).st.erow.cell hlt
      have hkc := (unhide HA2).krow.cell hlt
      have hoc := (unhide HA2).orow.cell hlt
      have hnc := (unhide HA2).nrow.cell hlt
      obtain ⟨nv, hP, hE, hN⟩ := (unhide HA2).st.node j hlt
      have E2 : wr.cell? ⟨ebk B n j, 2, none⟩ = some (.pointer (rvOf B gone j)) := by rw [blk_cell hE]; rfl
      have E3 : wr.cell? ⟨ebk B n j, 3, none⟩ = some (.pointer (nxOf B n gone j)) := by rw [blk_cell hE]; rfl
      have E4 : wr.cell? ⟨ebk B n j, 4, none⟩ = some (.bool (ne j)) := by rw [blk_cell hE]; rfl
      have E5 : wr.cell? ⟨ebk B n j, 5, none⟩ = some (.int .u8 0) := by rw [blk_cell hE]; rfl
      have P2 : wr.cell? ⟨pbk B n j, 2, none⟩ = some nv := by rw [blk_cell hP]; rfl
      have P4 : wr.cell? ⟨pbk B n j, 4, none⟩ = some (.int .u32 (if ne j then 1 else 0)) := by rw [blk_cell hP]; rfl
      have C39 := hide E2
      have C40 := hide E3
      have C41 := hide E4
      have C42 := hide E5
      have C45 := hide P4
      have hq1 := neq37 (some ⟨ebk B n j, 0, none⟩)
      have hq2 := neq26 (some ⟨B + 3, 0, none⟩)
      have q1 : (0 : Int) ≤ (j : Int) := by omega
      have q2 : (j : Int) < (n : Int) := by omega
      by_cases hjg : j = gone
      · have hkc' : wr.cell? ⟨kr, j, none⟩ = some (.bool false) := by rw [hkc]; simp [hjg]
        have hrv : rvOf B gone j = none := by unfold rvOf; rw [if_pos hjg]
        have hnx : nxOf B n gone j = none := by unfold nxOf; rw [if_pos hjg]
        have hcur : npa B n (curOf gone (j + 1)) = npa B n (curOf gone j) := by unfold curOf; rw [if_pos hjg, if_neg (by omega)]
        have hsm : decide (hdOf gone < j + 1) = decide (hdOf gone < j) := by rw [hjg]; unfold hdOf; by_cases e : gone = 0 <;> simp [e] <;> omega
        rw [hrv] at C39
        rw [hnx] at C40
        generalize hnxp : npa B n (curOf gone j) = nxp at *
        generalize hsmb : decide (hdOf gone < j) = smb at *
        have HNX := hide hcur
        have HSM := hide hsm
        clear hkc hcur hrv hnx hsm hP hE E2 E3 E4 E5 P4 hnxp hsmb hq2 hjg
        cases hnj : ne j with
        | true =>
          rw [hnj] at C41 C45 hnc hN
          rcases hN with ⟨h, _⟩ | ⟨_, gg, cc, cur, rfl, hBg, hgg, hg0⟩
          · cases h
          have G0 : wr.cell? ⟨gg, 0, none⟩ = some (pt (ebk B n j)) := by rw [blk_cell hgg]; exact hg0
          have C43 := hide P2
          have C44 := hide G0
          clear hnj hgg hg0 G0 P2
          generalize ebk B n j = eb at *
          generalize pbk B n j = pb at *
          go_wp2_with (first | (go_at_call 39; refine (entRecord_any _ _ _ (by exact unhide C39)).mono ?_; rintro e w5 ⟨rfl, rfl⟩) | (go_at_call 40; refine (entNext_any _ _ _ (by exact unhide C40)).mono ?_; rintro e w5 ⟨rfl, rfl⟩))
          go_quiet ((first | (go_at_call 41; exact (entNews_any _ _ _ (by exact unhide C41)).mono (by rintro e w5 ⟨rfl, rfl⟩; exact ⟨rfl, _, rfl⟩)) | (go_at_call 42; exact (entOutcome_any _ _ _ (by exact unhide C42)).mono (by rintro e w5 ⟨rfl, rfl⟩; exact ⟨rfl, _, rfl⟩))))
          go_wp2_with (first | (go_at_call 43; refine (newsLen_any _ _ _ _ _ (by exact unhide C43)).mono ?_; rintro e w5 ⟨rfl, rfl⟩) | (go_at_call 44; refine (newsAt_any _ _ _ _ _ (by exact unhide C43) (by exact unhide C44)).mono ?_; rintro e w5 ⟨rfl, rfl⟩) | (go_at_call 45; refine (hasNews_any _ true _ (by exact unhide C45)).mono ?_; rintro e w5 ⟨rfl, rfl⟩))
          go_roundw
          case rel => exact ⟨j + 1, by omega, by go_num, by rw [unhide HNX], by rw [unhide HSM], drw (unhide HW) _⟩
          case measure => simp [intOf]; omega
        | false =>
          rw [hnj] at C41 C45 hnc hN
          rcases hN with ⟨_, rfl⟩ | ⟨h, _⟩
          rotate_left
          · cases h
          have C43 := hide P2
          clear hnj P2
          generalize ebk B n j = eb at *
          generalize pbk B n j = pb at *
          go_wp2_with (first | (go_at_call 39; refine (entRecord_any _ _ _ (by exact unhide C39)).mono ?_; rintro e w5 ⟨rfl, rfl⟩) | (go_at_call 40; refine (entNext_any _ _ _ (by exact unhide C40)).mono ?_; rintro e w5 ⟨rfl, rfl⟩))
          go_quiet ((first | (go_at_call 41; exact (entNews_any _ _ _ (by exact unhide C41)).mono (by rintro e w5 ⟨rfl, rfl⟩; exact ⟨rfl, _, rfl⟩)) | (go_at_call 42; exact (entOutcome_any _ _ _ (by exact unhide C42)).mono (by rintro e w5 ⟨rfl, rfl⟩; exact ⟨rfl, _, rfl⟩))))
          go_wp2_with (first | (go_at_call 43; refine (newsLen_any _ 0 0 none _ (by exact unhide C43)).mono ?_; rintro e w5 ⟨rfl, rfl⟩) | (go_at_call 45; refine (hasNews_any _ false _ (by exact unhide C45)).mono ?_; rintro e w5 ⟨rfl, rfl⟩))
          go_roundw
          case rel => exact ⟨j + 1, by omega, by go_num, by rw [unhide HNX], by rw [unhide HSM], drw (unhide HW) _⟩
          case measure => simp [intOf]; omega
      · have hkc' : wr.cell? ⟨kr, j, none⟩ = some (.bool true) := by rw [hkc]; simp [hjg]
        have hcur : npa B n (curOf gone j) = some ⟨ebk B n j, 0, none⟩ := by unfold curOf npa; rw [if_neg hjg, if_pos hlt]
        have hrv : rvOf B gone j = some ⟨B + 3, 0, none⟩ := by unfold rvOf; rw [if_neg hjg]
        have hnx : nxOf B n gone j = npa B n (curOf gone (j + 1)) := by unfold nxOf curOf; rw [if_neg hjg]
        have hsm : decide (hdOf gone < j + 1) = true := by rw [decide_eq_true_eq]; unfold hdOf; split <;> omega
        rw [hrv] at C39
        rw [hnx] at C40
        rw [hcur]
        generalize hnxp : npa B n (curOf gone (j + 1)) = nxp at *
        have HNX := hide hnxp
        have HSM := hide hsm
        clear hkc hcur hrv hnx hsm hP hE E2 E3 E4 E5 P4 hnxp
        cases hnj : ne j with
        | true =>
          rw [hnj] at C41 C45 hnc hN
          rcases hN with ⟨h, _⟩ | ⟨_, gg, cc, cur, rfl, hBg, hgg, hg0⟩
          · cases h
          have G0 : wr.cell? ⟨gg, 0, none⟩ = some (pt (ebk B n j)) := by rw [blk_cell hgg]; exact hg0
          have C43 := hide P2
          have C44 := hide G0
          clear hnj hgg hg0 G0 P2
          generalize ebk B n j = eb at *
          generalize pbk B n j = pb at *
          go_wp2_with fail
          go_quiet ((go_at_call 39; exact (entRecord_any _ _ _ (by exact unhide C39)).mono (by rintro e w5 ⟨rfl, rfl⟩; exact ⟨rfl, _, rfl⟩)))
          go_wp2_with (first | (go_at_call 40; refine (entNext_any _ _ _ (by exact unhide C40)).mono ?_; rintro e w5 ⟨rfl, rfl⟩))
          go_quiet ((first | (go_at_call 41; exact (entNews_any _ _ _ (by exact unhide C41)).mono (by rintro e w5 ⟨rfl, rfl⟩; exact ⟨rfl, _, rfl⟩)) | (go_at_call 42; exact (entOutcome_any _ _ _ (by exact unhide C42)).mono (by rintro e w5 ⟨rfl, rfl⟩; exact ⟨rfl, _, rfl⟩))))
          go_wp2_with (first | (go_at_call 43; refine (newsLen_any _ _ _ _ _ (by exact unhide C43)).mono ?_; rintro e w5 ⟨rfl, rfl⟩) | (go_at_call 44; refine (newsAt_any _ _ _ _ _ (by exact unhide C43) (by exact unhide C44)).mono ?_; rintro e w5 ⟨rfl, rfl⟩) | (go_at_call 45; refine (hasNews_any _ true _ (by exact unhide C45)).mono ?_; rintro e w5 ⟨rfl, rfl⟩))
          go_roundw
          case rel => exact ⟨j + 1, by omega, by go_num, by rw [unhide HNX], by rw [unhide HSM], drw (unhide HW) _⟩
          case measure => simp [intOf]; omega
        | false =>
          rw [hnj] at C41 C45 hnc hN
          rcases hN with ⟨_, rfl⟩ | ⟨h, _⟩
          rotate_left
          · cases h
          have C43 := hide P2
          clear hnj P2
          generalize ebk B n j = eb at *
          generalize pbk B n j = pb at *
          go_wp2_with fail
          go_quiet ((go_at_call 39; exact (entRecord_any _ _ _ (by exact unhide C39)).mono (by rintro e w5 ⟨rfl, rfl⟩; exact ⟨rfl, _, rfl⟩)))
          go_wp2_with (first | (go_at_call 40; refine (entNext_any _ _ _ (by exact unhide C40)).mono ?_; rintro e w5 ⟨rfl, rfl⟩))
          go_quiet ((first | (go_at_call 41; exact (entNews_any _ _ _ (by exact unhide C41)).mono (by rintro e w5 ⟨rfl, rfl⟩; exact ⟨rfl, _, rfl⟩)) | (go_at_call 42; exact (entOutcome_any _ _ _ (by exact unhide C42)).mono (by rintro e w5 ⟨rfl, rfl⟩; exact ⟨rfl, _, rfl⟩))))
          go_wp2_with (first | (go_at_call 43; refine (newsLen_any _ 0 0 none _ (by exact unhide C43)).mono ?_; rintro e w5 ⟨rfl, rfl⟩) | (go_at_call 45; refine (hasNews_any _ false _ (by exact unhide C45)).mono ?_; rintro e w5 ⟨rfl, rfl⟩))
          go_roundw
          case rel => exact ⟨j + 1, by omega, by go_num, by rw [unhide HNX], by rw [unhide HSM], drw (unhide HW) _⟩
          case measure => simp [intOf]; omega
    · have hjn : n = j := by omega
      subst hjn
      have hnone : npa B n (curOf gone n) = none := by
        unfold curOf npa
        rw [if_neg (by split <;> omega)]
      rw [hnone]
      have hRb := (unhide HA2).st.rec_
      have R5 := hide (show wr.cell? ⟨B + 3, 5, none⟩ = some (.pointer (pk (ebk B n) d)) by rw [blk_cell hRb]; rfl)
      have R6 := hide (show wr.cell? ⟨B + 3, 6, none⟩ = some (.pointer (pk (ebk B n) o)) by rw [blk_cell hRb]; rfl)
      have HPK := hide (fun k (hk : k < n) => (unhide HA2).st.erow.cell hk)
      have q5 := neq37 (pk (ebk B n) d)
      have q6 := neq37 (pk (ebk B n) o)
      clear hnone hRb hlt hj
      have x1 := (unhide HA2).x1
      have x2 := (unhide HA2).x2
      have x5 := (unhide HA2).x5
      have x6 := (unhide HA2).x6
      have a0 := (unhide HA2).a0
      go_wp2_with fail
      go_quiet ((first | (go_at_call 46; exact (recDialer_any _ _ _ (by exact unhide R5)).mono (by rintro e w5 ⟨rfl, rfl⟩; exact ⟨rfl, _, rfl⟩)) | (go_at_call 47; exact (recOffer_any _ _ _ (by exact unhide R6)).mono (by rintro e w5 ⟨rfl, rfl⟩; exact ⟨rfl, _, rfl⟩)) | (go_at_call 35; exact (pick_any _ _ _ (ebk B n) _ _ (by first | exact hd | exact ho) (by exact unhide HPK)).mono (by rintro e w5 ⟨rfl, rfl⟩; exact ⟨rfl, _, rfl⟩))))
      go_wp2_with fail
      have HA3 : Hid (All (wr.drewN nq) B n gone kr or nr wb xb peer d o f g fo ne) := (unhide HA2).drewN nq
      have HW3 : Hid (∃ q, wr.drewN nq = w2.drewN q) := drw (unhide HW) _
      clear x1 x2 x5 x6 a0 a1 a2 a3 x0 x3 x4 R5 R6 HPK q5 q6 HA2 HW
      generalize wr.drewN nq = w3 at *
      have hRb := (unhide HA3).st.rec_
      have R0 := hide (show w3.cell? ⟨B + 3, 0, none⟩ = some (.int .i64 f) by rw [blk_cell hRb]; rfl)
      have R4 := hide (show w3.cell? ⟨B + 3, 4, none⟩ = some (.bool g) by rw [blk_cell hRb]; rfl)
      have R1 := hide (show w3.cell? ⟨B + 3, 1, none⟩ = some (.int .u64 0) by rw [blk_cell hRb]; rfl)
      have R2 := hide (show w3.cell? ⟨B + 3, 2, none⟩ = some (.int .i64 0) by rw [blk_cell hRb]; rfl)
      have R3 := hide (show w3.cell? ⟨B + 3, 3, none⟩ = some (.pointer none) by rw [blk_cell hRb]; rfl)
      have x5 := (unhide HA3).x5
      have x6 := (unhide HA3).x6
      have a1 := (unhide HA3).a1
      clear hRb
      go_cut [145] from 23 (fun c wc => c = .bool false ∧ wc = (w3.alloc (.cells #[.int .u64 0, .int .i64 0, .pointer none] 43)).drew)
      case first =>
        go_region_with (first | (go_at_call 48; refine (recFailures_any _ _ _ (by exact unhide R0)).mono ?_; rintro e w5 ⟨rfl, rfl⟩) | (go_at_call 49; refine (recFailing_any _ _ _ (by exact unhide R4)).mono ?_; rintro e w5 ⟨rfl, rfl⟩) | (go_at_call 50; refine (recZero_any _ _ (by exact unhide R1) (by exact unhide R2) (by exact unhide R3)).mono ?_; rintro e w5 ⟨rfl, rfl⟩))
        all_goals go_wp2_with fail
        all_goals go_meet
        all_goals exact ⟨rfl, rfl⟩
      case rest =>
        obtain ⟨rfl, rfl⟩ := hcut
        clear x5 x6 a1
        have HA4 : Hid (All ((w3.alloc (.cells #[.int .u64 0, .int .i64 0, .pointer none] 43)).drew) B n gone kr or nr wb xb peer d o f g fo ne) := (unhide HA3).alloc _
        have HK4 : Hid (Kept (fun _ => False) w ((w3.alloc (.cells #[.int .u64 0, .int .i64 0, .pointer none] 43)).drew)) := by
          obtain ⟨q, hq⟩ := unhide HW3
          rw [hq]
          exact (((unhide HK2).drewN q).alloc _).drew
        clear HA3 HW3 R0 R1 R2 R3 R4 HA
        generalize (w3.alloc (.cells #[.int .u64 0, .int .i64 0, .pointer none] 43)).drew = w4 at *
        have H2 : w4.cell? ⟨B + 2, 2, none⟩ = some (.map (some (B + 1))) := by rw [blk_cell (unhide HA4).st.hist]; rfl
        have C51 := hide (peerRecord_any (B + 2) (B + 1) (B + 3) peer (decide (hdOf gone < n)) w4 hp H2 (unhide HA4).pm)
        have C52 := hide (peerCount_any (B + 2) (B + 1) (B + 3) peer (decide (hdOf gone < n)) w4 H2 (unhide HA4).pm)
        have a0 := (unhide HA4).a0
        have a1 := (unhide HA4).a1
        have q26 := eql26 (some ⟨B + 3, 0, none⟩)
        clear H2
        cases hsm : decide (hdOf gone < n) with
        | true =>
          rw [hsm] at C51 C52
          go_wp2_with (first | (go_at_call 51; refine (unhide C51).mono ?_; rintro e w5 ⟨rfl, rfl⟩) | (go_at_call 52; refine (unhide C52).mono ?_; rintro e w5 ⟨rfl, rfl⟩))
          go_ret
          exact ⟨rfl, unhide HK4⟩
        | false =>
          rw [hsm] at C51 C52
          go_wp2_with (first | (go_at_call 51; refine (unhide C51).mono ?_; rintro e w5 ⟨rfl, rfl⟩) | (go_at_call 52; refine (unhide C52).mono ?_; rintro e w5 ⟨rfl, rfl⟩))
          go_ret
          exact ⟨rfl, unhide HK4⟩

end Go.Proofs.Qxb6616570a
