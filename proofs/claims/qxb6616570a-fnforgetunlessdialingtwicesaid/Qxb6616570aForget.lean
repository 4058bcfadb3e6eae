/- forget, ForgetUnlessDialing. -/
import Derived.Test.Qxb6616570aBuild
import Derived.Test.Qxb6616570aDel
import Derived.Conc.MuLone
import Derived.Deep.LoopGhost
import Derived.Deep.Cut
import Derived.Deep.RegionWith
import Derived.Deep.RegionLaw
import Derived.Deep.RegionHeld3
namespace Go.Proofs.Qxb6616570a
open Go.RowKit Go.Maps Go.MuLone

/-- a history whose lock is at lk -/
def HistL (w : World) (hb mb : Nat) (lk : Int) : Prop := w.heap[hb]? = some (.cells #[.int .i32 lk, .int .u32 0, .map (some mb), .int .i64 0] 98 (0, 0))
/-- all but the history's own block -/
structure StR (w : World) (B n : Nat) (peer : ByteArray) (f : Int) (g : Bool) (dl ofr : Option Addr) (fo ne : Nat → Bool) (gone : Nat) : Prop where
  rec_ : RecBlk w (B + 3) f g (.pointer dl) (.pointer ofr) (.pointer (npa B n (hdOf gone)))
  prow : w.rowIs (B + 4) 60 n (fun t => pt (pbk B n t))
  erow : w.rowIs (B + 5) 37 n (fun t => pt (ebk B n t))
  node : ∀ t, t < n → Node B w (B + 2) (pbk B n t) (ebk B n t) peer (fo t) (ne t) (.pointer (rvOf B gone t)) (.pointer (nxOf B n gone t))
theorem St.r {w : World} {B n : Nat} {peer : ByteArray} {f : Int} {g : Bool} {dl ofr : Option Addr} {fo ne : Nat → Bool} {gone : Nat} (h : St w B n peer f g dl ofr fo ne gone) : StR w B n peer f g dl ofr fo ne gone := ⟨h.rec_, h.prow, h.erow, h.node⟩
theorem StR.st {w : World} {B n : Nat} {peer : ByteArray} {f : Int} {g : Bool} {dl ofr : Option Addr} {fo ne : Nat → Bool} {gone : Nat} (h : StR w B n peer f g dl ofr fo ne gone) (hh : HistL w (B + 2) (B + 1) 0) : St w B n peer f g dl ofr fo ne gone := ⟨hh, h.rec_, h.prow, h.erow, h.node⟩

theorem StR.kept {F : Nat → Prop} {w w' : World} {B n : Nat} {peer : ByteArray} {f : Int} {g : Bool} {dl ofr : Option Addr} {fo ne : Nat → Bool} {gone : Nat} (h : StR w B n peer f g dl ofr fo ne gone) (k : Kept F w w')
    (h3 : ¬ F (B + 3)) (h4 : ¬ F (B + 4)) (h5 : ¬ F (B + 5)) (hp : ∀ t, t < n → ¬ F (pbk B n t)) (he : ∀ t, t < n → ¬ F (ebk B n t)) (hr : ∀ x cur, w.heap[x]? = some (.cells cur 37 (0, 0)) → B ≤ x → ¬ F x) : StR w' B n peer f g dl ofr fo ne gone :=
  ⟨k.blk h.rec_ h3, rowIs_kept h.prow k h4, rowIs_kept h.erow k h5, fun t ht => (h.node t ht).kept k (hp t ht) (he t ht) hr⟩

/-- a store into the history's own block -/
theorem StR.setH {w : World} {B n mb : Nat} {peer : ByteArray} {f : Int} {g : Bool} {dl ofr : Option Addr} {fo ne : Nat → Bool} {gone : Nat} {lk : Int} (h : StR w B n peer f g dl ofr fo ne gone) (hh : HistL w (B + 2) mb lk) (k : Nat) (v : Value) :
    StR (w.setCell ⟨B + 2, k, none⟩ v) B n peer f g dl ofr fo ne gone := by
  have K : Kept (fun i => i = B + 2) w (w.setCell ⟨B + 2, k, none⟩ v) := (Kept.refl (fun i => i = B + 2) w).setCell (p := ⟨B + 2, k, none⟩) (fun _ => rfl) v
  refine h.kept K (by omega) (by omega) (by omega) (fun t _ => by unfold pbk; omega) (fun t _ => by unfold ebk; omega) (fun x cur hx _ e => ?_)
  subst e
  unfold HistL at hh
  rw [hh] at hx
  cases hx
theorem HistL.lock {w : World} {hb mb : Nat} {lk lk' : Int} (h : HistL w hb mb lk) : HistL (w.setCell ⟨hb, 0, none⟩ (.int .i32 lk')) hb mb lk' := by
  unfold HistL
  rw [blk_set h 0 (.int .i32 lk')]
  rfl
theorem HistL.map {w : World} {hb mb : Nat} {lk : Int} (h : HistL w hb mb lk) : HistL (w.setCell ⟨hb, 2, none⟩ (.map (some mb))) hb mb lk := by
  unfold HistL
  rw [blk_set h 2 (.map (some mb))]
  rfl
theorem PeerMap.setCell {w : World} {mb rb : Nat} {peer : ByteArray} {t : Bool} (h : PeerMap w mb rb peer t) {a : Addr} (ha : mb ≠ a.block) (v : Value) : PeerMap (w.setCell a v) mb rb peer t :=
  h.kept ((Kept.refl (fun i => i = a.block) w).setCell (fun _ => rfl) v) ha

/-- the node's cells that the walk reads -/
theorem StR.ent {w : World} {B n : Nat} {peer : ByteArray} {f : Int} {g : Bool} {dl ofr : Option Addr} {fo ne : Nat → Bool} {gone : Nat} (h : StR w B n peer f g dl ofr fo ne gone) {t : Nat} (ht : t < n) :
    EntBlk w (ebk B n t) (pbk B n t) peer (.pointer (rvOf B gone t)) (.pointer (nxOf B n gone t)) (ne t) := by
  obtain ⟨_, _, he, _⟩ := h.node t ht
  exact he
theorem StR.part {w : World} {B n : Nat} {peer : ByteArray} {f : Int} {g : Bool} {dl ofr : Option Addr} {fo ne : Nat → Bool} {gone : Nat} (h : StR w B n peer f g dl ofr fo ne gone) {t : Nat} (ht : t < n) :
    w.cell? ⟨pbk B n t, 0, none⟩ = some (pt (B + 2)) := by
  obtain ⟨_, hp, _, _⟩ := h.node t ht
  rw [blk_cell hp]
  rfl

/-- what forget may turn -/
def Turn (B n : Nat) (i : Nat) : Prop := B + 1 ≤ i ∧ i < B + 6 + 2 * n

/-- locked and unlocked: nothing has turned -/
theorem relocked {w : World} {B n : Nat} {peer : ByteArray} {f : Int} {g : Bool} {dl ofr : Option Addr} {fo ne : Nat → Bool} {gone : Nat} {t : Bool} (hr : StR w B n peer f g dl ofr fo ne gone) (hh : HistL w (B + 2) (B + 1) 0) (hm : PeerMap w (B + 1) (B + 3) peer t) :
    St ((w.setCell ⟨B + 2, 0, none⟩ (.int .i32 1)).setCell ⟨B + 2, 0, none⟩ (.int .i32 0)) B n peer f g dl ofr fo ne gone ∧ PeerMap ((w.setCell ⟨B + 2, 0, none⟩ (.int .i32 1)).setCell ⟨B + 2, 0, none⟩ (.int .i32 0)) (B + 1) (B + 3) peer t ∧
    Kept (Turn B n) w ((w.setCell ⟨B + 2, 0, none⟩ (.int .i32 1)).setCell ⟨B + 2, 0, none⟩ (.int .i32 0)) := by
  refine ⟨((hr.setH hh 0 (.int .i32 1)).setH hh.lock 0 (.int .i32 0)).st hh.lock.lock, (hm.setCell (a := ⟨B + 2, 0, none⟩) (by show B + 1 ≠ B + 2; omega) _).setCell (a := ⟨B + 2, 0, none⟩) (by show B + 1 ≠ B + 2; omega) _, ?_⟩
  have ht : Turn B n (B + 2) := by unfold Turn; omega
  exact ((Kept.refl (Turn B n) w).setCell (p := ⟨B + 2, 0, none⟩) (fun _ => ht) _).setCell (p := ⟨B + 2, 0, none⟩) (fun _ => ht) _

set_option maxRecDepth 100000 in
set_option maxHeartbeats 1600000 in
/-- a dial is in flight: nothing happens -/
theorem forget_busy (w : World) (B n i : Nat) (peer : ByteArray) (f : Int) (g : Bool) (da : Addr) (ofr : Option Addr) (fo ne : Nat → Bool) (hi : i < n) (h : St w B n peer f g (some da) ofr fo ne n) (hm : PeerMap w (B + 1) (B + 3) peer true) :
    Calls Try.prog 37 #[pt (ebk B n i), .bool true] w fun e w' => e = .returned (.bool false) ∧ St w' B n peer f g (some da) ofr fo ne n ∧ PeerMap w' (B + 1) (B + 3) peer true ∧ Kept (Turn B n) w w' := by
  have hh : HistL w (B + 2) (B + 1) 0 := h.hist
  have hr := h.r
  have he := hr.ent hi
  have hrec := hr.rec_
  have e0 : w.cell? ⟨ebk B n i, 0, none⟩ = some (pt (pbk B n i)) := by rw [blk_cell he]; rfl
  have e2 : w.cell? ⟨ebk B n i, 2, none⟩ = some (pt (B + 3)) := by rw [blk_cell he, rvOf_all B n i hi]; rfl
  have p0 := hr.part hi
  have h0 : w.cell? ⟨B + 2, 0, none⟩ = some (.int .i32 0) := by rw [blk_cell hh]; rfl
  have f0 := blk_free hh 0
  have r5 : w.cell? ⟨B + 3, 5, none⟩ = some (.pointer (some da)) := by rw [blk_cell hrec]; rfl
  have n1 : ebk B n i ≠ B + 2 := by unfold ebk; omega
  have n2 : pbk B n i ≠ B + 2 := by unfold pbk; omega
  have HH := hide hh
  have HR := hide hr
  have HM := hide hm
  clear h hr he hrec hh hm
  generalize ebk B n i = eb at *
  generalize pbk B n i = pb at *
  go_enter_defers Try.func37, Try.ntmps37
  go_wp2_with (go_at_call 59; refine (lock_free muLib ⟨B + 2, 0, none⟩ _ h0 f0).mono ?_; rintro e w' ⟨rfl, rfl⟩)
  refine leaves_cons (f := 60) (args := #[.pointer (some ⟨B + 2, 0, none⟩)]) (by simp) (by simp [go_sem]) ?_
  refine (unlock_deferred muLib ⟨B + 2, 0, none⟩ .returning _ ?_ ?_).mono ?_
  · exact World.cell?_setCell_same w ⟨B + 2, 0, none⟩ (.int .i32 1) h0
  · simp [f0]
  rintro e u' w'' ⟨rfl, rfl, rfl⟩
  exact ⟨_, results_tmp rfl _ _ _, rfl, relocked (unhide HR) (unhide HH) (unhide HM)⟩

set_option maxRecDepth 100000 in
set_option maxHeartbeats 1600000 in
/-- e is forgotten already: nothing happens -/
theorem forget_gone (w : World) (B n i : Nat) (peer : ByteArray) (f : Int) (g : Bool) (dl ofr : Option Addr) (t : Bool) (fo ne : Nat → Bool) (hi : i < n) (h : St w B n peer f g dl ofr fo ne i) (hm : PeerMap w (B + 1) (B + 3) peer t) :
    Calls Try.prog 37 #[pt (ebk B n i), .bool true] w fun e w' => e = .returned (.bool true) ∧ St w' B n peer f g dl ofr fo ne i ∧ PeerMap w' (B + 1) (B + 3) peer t ∧ Kept (Turn B n) w w' := by
  have hh : HistL w (B + 2) (B + 1) 0 := h.hist
  have hr := h.r
  have he := hr.ent hi
  have e0 : w.cell? ⟨ebk B n i, 0, none⟩ = some (pt (pbk B n i)) := by rw [blk_cell he]; rfl
  have e2 : w.cell? ⟨ebk B n i, 2, none⟩ = some (.pointer none) := by rw [blk_cell he]; unfold rvOf; rw [if_pos rfl]; rfl
  have p0 := hr.part hi
  have h0 : w.cell? ⟨B + 2, 0, none⟩ = some (.int .i32 0) := by rw [blk_cell hh]; rfl
  have f0 := blk_free hh 0
  have n1 : ebk B n i ≠ B + 2 := by unfold ebk; omega
  have n2 : pbk B n i ≠ B + 2 := by unfold pbk; omega
  have HH := hide hh
  have HR := hide hr
  have HM := hide hm
  clear h hr he hh hm
  generalize ebk B n i = eb at *
  generalize pbk B n i = pb at *
  go_enter_defers Try.func37, Try.ntmps37
  go_wp2_with (go_at_call 59; refine (lock_free muLib ⟨B + 2, 0, none⟩ _ h0 f0).mono ?_; rintro e w' ⟨rfl, rfl⟩)
  refine leaves_cons (f := 60) (args := #[.pointer (some ⟨B + 2, 0, none⟩)]) (by simp) (by simp [go_sem]) ?_
  refine (unlock_deferred muLib ⟨B + 2, 0, none⟩ .returning _ ?_ ?_).mono ?_
  · exact World.cell?_setCell_same w ⟨B + 2, 0, none⟩ (.int .i32 1) h0
  · simp [f0]
  rintro e u' w'' ⟨rfl, rfl, rfl⟩
  exact ⟨_, results_tmp rfl _ _ _, rfl, relocked (unhide HR) (unhide HH) (unhide HM)⟩

/-- the place that leads to entry number k -/
def adr (B n k : Nat) : Addr := match k with | 0 => ⟨B + 3, 7, none⟩ | k + 1 => ⟨ebk B n k, 3, none⟩

theorem ebk_inj {B n k i : Nat} (hk : k < n) (hi : i < n) (h : ebk B n k = ebk B n i) : k = i := by unfold ebk at h; omega

/-- e struck from the list -/
theorem StR.strike {w : World} {B n i : Nat} {peer : ByteArray} {f : Int} {g : Bool} {dl ofr : Option Addr} {fo ne : Nat → Bool} (hi : i < n) (h : StR w B n peer f g dl ofr fo ne n) :
    StR (((w.setCell ⟨ebk B n i, 2, none⟩ (.pointer none)).setCell (adr B n i) (.pointer (npa B n (i + 1)))).setCell ⟨ebk B n i, 3, none⟩ (.pointer none)) B n peer f g dl ofr fo ne i := by
  have hent := h.ent hi
  have hrow : ∀ x cur, w.heap[x]? = some (.cells cur 37 (0, 0)) → ∀ t, t < n → x ≠ ebk B n t := by
    rintro x cur hx t ht rfl
    have := h.ent ht
    unfold EntBlk at this
    rw [this] at hx
    cases hx
  have hrec : ∀ x cur, w.heap[x]? = some (.cells cur 37 (0, 0)) → x ≠ B + 3 := by
    rintro x cur hx rfl
    have := h.rec_
    unfold RecBlk at this
    rw [this] at hx
    cases hx
  cases i with
  | zero =>
    show StR (((w.setCell ⟨ebk B n 0, 2, none⟩ (.pointer none)).setCell ⟨B + 3, 7, none⟩ (.pointer (npa B n (0 + 1)))).setCell ⟨ebk B n 0, 3, none⟩ (.pointer none)) B n peer f g dl ofr fo ne 0
    have n1 : B + 3 ≠ ebk B n 0 := by unfold ebk; omega
    have K : Kept (fun x => x = B + 3 ∨ x = ebk B n 0) w (((w.setCell ⟨ebk B n 0, 2, none⟩ (.pointer none)).setCell ⟨B + 3, 7, none⟩ (.pointer (npa B n (0 + 1)))).setCell ⟨ebk B n 0, 3, none⟩ (.pointer none)) :=
      (((Kept.refl (fun x => x = B + 3 ∨ x = ebk B n 0) w).setCell (p := ⟨ebk B n 0, 2, none⟩) (fun _ => .inr rfl) _).setCell (p := ⟨B + 3, 7, none⟩) (fun _ => .inl rfl) _).setCell (p := ⟨ebk B n 0, 3, none⟩) (fun _ => .inr rfl) _
    refine ⟨?_, rowIs_kept h.prow K (by unfold ebk; omega), rowIs_kept h.erow K (by unfold ebk; omega), fun t ht => ?_⟩
    · have b1 := blk_other h.rec_ (a := ⟨ebk B n 0, 2, none⟩) n1 (.pointer none)
      have b2 := blk_other (blk_set b1 7 (.pointer (npa B n (0 + 1)))) (a := ⟨ebk B n 0, 3, none⟩) n1 (.pointer none)
      unfold RecBlk
      rw [b2]
      rfl
    · by_cases e : t = 0
      · subst e
        obtain ⟨nv, a, b, c⟩ := h.node 0 ht
        refine ⟨nv, K.blk a (by unfold pbk ebk; omega), ?_, ?_⟩
        · have b1 := blk_set b 2 (.pointer none)
          have b2 := blk_set (blk_other b1 (a := ⟨B + 3, 7, none⟩) (Ne.symm n1) (.pointer (npa B n (0 + 1)))) 3 (.pointer none)
          unfold EntBlk
          rw [b2]
          unfold rvOf nxOf
          rw [if_pos rfl, if_pos rfl]
          rfl
        · rcases c with c | ⟨c0, x, cc, cur, c1, c2, c3, c4⟩
          · exact .inl c
          · exact .inr ⟨c0, x, cc, cur, c1, c2, K.blk c3 (by rintro (e | e); exact hrec x cur c3 e; exact hrow x cur c3 0 ht e), c4⟩
      · have e1 : rvOf B 0 t = rvOf B n t := by unfold rvOf; rw [if_neg e, if_neg (by omega)]
        have e2 : nxOf B n 0 t = nxOf B n n t := by rw [nxOf_all B n t ht]; unfold nxOf; rw [if_neg e, if_neg (by omega)]
        rw [e1, e2]
        refine (h.node t ht).kept K (by unfold pbk ebk; omega) (by rintro (e3 | e3); unfold ebk at e3; omega; exact e (ebk_inj ht hi e3)) (fun x cur hx _ => by rintro (e3 | e3); exact hrec x cur hx e3; exact hrow x cur hx 0 hi e3)
  | succ j =>
    show StR (((w.setCell ⟨ebk B n (j + 1), 2, none⟩ (.pointer none)).setCell ⟨ebk B n j, 3, none⟩ (.pointer (npa B n (j + 1 + 1)))).setCell ⟨ebk B n (j + 1), 3, none⟩ (.pointer none)) B n peer f g dl ofr fo ne (j + 1)
    have n1 : ebk B n j ≠ ebk B n (j + 1) := fun e => by have := ebk_inj (by omega) hi e; omega
    have K : Kept (fun x => x = ebk B n j ∨ x = ebk B n (j + 1)) w (((w.setCell ⟨ebk B n (j + 1), 2, none⟩ (.pointer none)).setCell ⟨ebk B n j, 3, none⟩ (.pointer (npa B n (j + 1 + 1)))).setCell ⟨ebk B n (j + 1), 3, none⟩ (.pointer none)) :=
      (((Kept.refl (fun x => x = ebk B n j ∨ x = ebk B n (j + 1)) w).setCell (p := ⟨ebk B n (j + 1), 2, none⟩) (fun _ => .inr rfl) _).setCell (p := ⟨ebk B n j, 3, none⟩) (fun _ => .inl rfl) _).setCell (p := ⟨ebk B n (j + 1), 3, none⟩) (fun _ => .inr rfl) _
    have news : ∀ x cur, w.heap[x]? = some (.cells cur 37 (0, 0)) → ¬ (x = ebk B n j ∨ x = ebk B n (j + 1)) := fun x cur hx => by
      rintro (e | e)
      · exact hrow x cur hx j (by omega) e
      · exact hrow x cur hx (j + 1) hi e
    refine ⟨?_, rowIs_kept h.prow K (by unfold ebk; omega), rowIs_kept h.erow K (by unfold ebk; omega), fun t ht => ?_⟩
    · have e1 : hdOf (j + 1) = hdOf n := by unfold hdOf; rw [if_neg (by omega), if_neg (by omega)]
      rw [e1]
      exact K.blk h.rec_ (by unfold ebk; omega)
    · by_cases e : t = j + 1
      · subst e
        obtain ⟨nv, a, b, c⟩ := h.node (j + 1) ht
        refine ⟨nv, K.blk a (by unfold pbk ebk; omega), ?_, ?_⟩
        · have b1 := blk_set b 2 (.pointer none)
          have b2 := blk_set (blk_other b1 (a := ⟨ebk B n j, 3, none⟩) (Ne.symm n1) (.pointer (npa B n (j + 1 + 1)))) 3 (.pointer none)
          unfold EntBlk
          rw [b2]
          unfold rvOf nxOf
          rw [if_pos rfl, if_pos rfl]
          rfl
        · rcases c with c | ⟨c0, x, cc, cur, c1, c2, c3, c4⟩
          · exact .inl c
          · exact .inr ⟨c0, x, cc, cur, c1, c2, K.blk c3 (news x cur c3), c4⟩
      · by_cases e' : t = j
        · subst e'
          obtain ⟨nv, a, b, c⟩ := h.node t ht
          refine ⟨nv, K.blk a (by unfold pbk ebk; omega), ?_, ?_⟩
          · have b1 := blk_set (blk_other b (a := ⟨ebk B n (t + 1), 2, none⟩) n1 (.pointer none)) 3 (.pointer (npa B n (t + 1 + 1)))
            have b2 := blk_other b1 (a := ⟨ebk B n (t + 1), 3, none⟩) n1 (.pointer none)
            have e1 : rvOf B (t + 1) t = rvOf B n t := by unfold rvOf; rw [if_neg (by omega), if_neg (by omega)]
            have e2 : nxOf B n (t + 1) t = npa B n (t + 1 + 1) := by unfold nxOf; rw [if_neg (by omega), if_pos rfl]
            rw [e1, e2]
            unfold EntBlk
            rw [b2]
            rfl
          · rcases c with c | ⟨c0, x, cc, cur, c1, c2, c3, c4⟩
            · exact .inl c
            · exact .inr ⟨c0, x, cc, cur, c1, c2, K.blk c3 (news x cur c3), c4⟩
        · have e1 : rvOf B (j + 1) t = rvOf B n t := by unfold rvOf; rw [if_neg e, if_neg (by omega)]
          have e2 : nxOf B n (j + 1) t = nxOf B n n t := by rw [nxOf_all B n t ht]; unfold nxOf; rw [if_neg e, if_neg (by omega)]
          rw [e1, e2]
          refine (h.node t ht).kept K (by unfold pbk ebk; omega) ?_ (fun x cur hx _ => news x cur hx)
          rintro (e3 | e3)
          · exact e' (ebk_inj ht (by omega) e3)
          · exact e (ebk_inj ht hi e3)

/-- the list's own cells, the lock held and e's record struck -/
theorem list_cells {w : World} {B n i : Nat} {peer : ByteArray} {f : Int} {g : Bool} {dl ofr : Option Addr} {fo ne : Nat → Bool} (hi : i < n) (h : StR w B n peer f g dl ofr fo ne n) (k : Nat) (hk : k ≤ i) :
    ((w.setCell ⟨B + 2, 0, none⟩ (.int .i32 1)).setCell ⟨ebk B n i, 2, none⟩ (.pointer none)).cell? (adr B n k) = some (.pointer (npa B n k)) ∧ ((w.setCell ⟨B + 2, 0, none⟩ (.int .i32 1)).setCell ⟨ebk B n i, 2, none⟩ (.pointer none)).frozen? (adr B n k) = false := by
  cases k with
  | zero =>
    have n1 : B + 3 ≠ ebk B n i := by unfold ebk; omega
    have b1 := blk_other (blk_other h.rec_ (a := ⟨B + 2, 0, none⟩) (by show B + 3 ≠ B + 2; omega) (.int .i32 1)) (a := ⟨ebk B n i, 2, none⟩) n1 (.pointer none)
    have e : hdOf n = 0 := by unfold hdOf; rw [if_neg (by omega)]
    rw [e] at b1
    exact ⟨by show World.cell? _ ⟨B + 3, 7, none⟩ = _; rw [blk_cell b1]; rfl, blk_free b1 7⟩
  | succ j =>
    have n1 : ebk B n j ≠ ebk B n i := fun e => by have := ebk_inj (by omega) hi e; omega
    have b1 := blk_other (blk_other (h.ent (t := j) (by omega)) (a := ⟨B + 2, 0, none⟩) (by show ebk B n j ≠ B + 2; unfold ebk; omega) (.int .i32 1)) (a := ⟨ebk B n i, 2, none⟩) n1 (.pointer none)
    rw [nxOf_all B n j (by omega)] at b1
    exact ⟨by show World.cell? _ ⟨ebk B n j, 3, none⟩ = _; rw [blk_cell b1]; rfl, blk_free b1 3⟩

theorem adr_ne {B n k : Nat} (hk : k < n) : adr B n k ≠ ⟨ebk B n k, 3, none⟩ := by
  cases k with
  | zero => intro e; have := congrArg Addr.block e; simp [adr] at this; unfold ebk at this; omega
  | succ j => intro e; have := congrArg Addr.block e; simp [adr] at this; have := ebk_inj (by omega) hk this; omega

/-- behind e's striking -/
def Struck (w w3 : World) (B n i : Nat) (peer : ByteArray) (f : Int) (g : Bool) (fo ne : Nat → Bool) (t : Bool) : Prop :=
  StR w3 B n peer f g none none fo ne i ∧ HistL w3 (B + 2) (B + 1) 1 ∧ PeerMap w3 (B + 1) (B + 3) peer t ∧ Kept (Turn B n) w w3
theorem struck {w : World} {B n i : Nat} {peer : ByteArray} {f : Int} {g : Bool} {fo ne : Nat → Bool} {t : Bool} (hi : i < n) (hr : StR w B n peer f g none none fo ne n) (hh : HistL w (B + 2) (B + 1) 0) (hm : PeerMap w (B + 1) (B + 3) peer t) :
    Struck w ((((w.setCell ⟨B + 2, 0, none⟩ (.int .i32 1)).setCell ⟨ebk B n i, 2, none⟩ (.pointer none)).setCell (adr B n i) (.pointer (npa B n (i + 1)))).setCell ⟨ebk B n i, 3, none⟩ (.pointer none)) B n i peer f g fo ne t := by
  have ab : (adr B n i).block = B + 3 ∨ ∃ j, j < n ∧ (adr B n i).block = ebk B n j := by
    cases i with
    | zero => exact .inl rfl
    | succ j => exact .inr ⟨j, by omega, rfl⟩
  have te : ∀ j, j < n → Turn B n (ebk B n j) := fun j hj => by unfold Turn ebk; omega
  have ta : Turn B n (adr B n i).block := by
    rcases ab with e | ⟨j, hj, e⟩
    · rw [e]; unfold Turn; omega
    · rw [e]; exact te j hj
  have na : ∀ x, x < B + 3 → x ≠ (adr B n i).block := by
    rintro x hx rfl
    rcases ab with e | ⟨j, hj, e⟩
    · omega
    · unfold ebk at e; omega
  have nb : ∀ x, x < B + 3 → x ≠ ebk B n i := by rintro x hx rfl; unfold ebk at hx; omega
  refine ⟨(hr.setH hh 0 (.int .i32 1)).strike hi, ?_, ?_, ?_⟩
  · exact blk_other (blk_other (blk_other hh.lock (a := ⟨ebk B n i, 2, none⟩) (nb _ (by omega)) _) (na _ (by omega)) _) (a := ⟨ebk B n i, 3, none⟩) (nb _ (by omega)) _
  · exact (((hm.setCell (a := ⟨B + 2, 0, none⟩) (by show B + 1 ≠ B + 2; omega) _).setCell (a := ⟨ebk B n i, 2, none⟩) (nb _ (by omega)) _).setCell (na _ (by omega)) _).setCell (a := ⟨ebk B n i, 3, none⟩) (nb _ (by omega)) _
  · exact ((((Kept.refl (Turn B n) w).setCell (p := ⟨B + 2, 0, none⟩) (fun _ => by show Turn B n (B + 2); unfold Turn; omega) _).setCell (p := ⟨ebk B n i, 2, none⟩) (fun _ => te i hi) _).setCell (fun _ => ta) _).setCell (p := ⟨ebk B n i, 3, none⟩) (fun _ => te i hi) _

theorem unlocked {w w3 : World} {B n i : Nat} {peer : ByteArray} {f : Int} {g : Bool} {fo ne : Nat → Bool} {t : Bool} (h : Struck w w3 B n i peer f g fo ne t) :
    St (w3.setCell ⟨B + 2, 0, none⟩ (.int .i32 0)) B n peer f g none none fo ne i ∧ PeerMap (w3.setCell ⟨B + 2, 0, none⟩ (.int .i32 0)) (B + 1) (B + 3) peer t ∧ Kept (Turn B n) w (w3.setCell ⟨B + 2, 0, none⟩ (.int .i32 0)) := by
  obtain ⟨h1, h2, h3, h4⟩ := h
  exact ⟨(h1.setH h2 0 (.int .i32 0)).st h2.lock, h3.setCell (a := ⟨B + 2, 0, none⟩) (by show B + 1 ≠ B + 2; omega) _, h4.setCell (p := ⟨B + 2, 0, none⟩) (fun _ => by show Turn B n (B + 2); unfold Turn; omega) _⟩

theorem step_delete {ops : Array Oper} {o : Oper} {a : Act} {K : Act → World → Prop} {Q : Exit → Act → World → Prop} {E : Prop} {w : World} {mb rb : Nat} {peer : ByteArray} (hgd : o.guard = none) (m x : Operand)
    (ho : o.op = .call { callee := .builtin .delete, args := #[m, x], argTypes := #[87, 9] }) (hm : a.eval m = .map (some mb)) (hx : a.eval x = .string peer) (hpm : PeerMap w mb rb peer true) (hp : peer.size ≤ maxLen)
    (h : ∀ w', PeerMap w' mb rb peer false → w.mapTurned w' mb → K (a.put o.dst (.tuple #[])) w') :
    if Region.wanted o (yielded ops a.tmps) = true then Oper.wp Try.prog o a w K Q else E := by
  have hw : Region.wanted o (yielded ops a.tmps) = true := by simp [Region.wanted, hgd]
  rw [if_pos hw]
  obtain ⟨w', hrun, r1, r2⟩ := hpm.drop hp o.type
  unfold Oper.wp
  simp [execOp, ho, resolve, invoke, builtin, hm, hx, hrun, Result.andThen]
  exact h w' r1 r2

theorem deleted_st {w w3 w4 : World} {B n i : Nat} {peer : ByteArray} {f : Int} {g : Bool} {fo ne : Nat → Bool} {t : Bool} (h : Struck w w3 B n i peer f g fo ne t) (hp : PeerMap w4 (B + 1) (B + 3) peer false) (ht : w3.drew.mapTurned w4 (B + 1)) : Struck w w4 B n i peer f g fo ne false := by
  obtain ⟨h1, h2, h3, h4⟩ := h
  obtain ⟨es, c, hmb⟩ := h3.blk
  have K : Kept (fun x => x = B + 1) w3 w4 := ((Kept.refl (fun x => x = B + 1) w3).drew).turned ht rfl
  refine ⟨h1.kept K (by omega) (by omega) (by omega) (fun t _ => by unfold pbk; omega) (fun t _ => by unfold ebk; omega) (fun x cur hx _ e => by subst e; rw [hmb] at hx; cases hx), K.blk h2 (by omega), hp, h4.trans K (fun x _ e => by subst e; unfold Turn; omega)⟩

theorem Struck.drewN {w w3 : World} {B n i : Nat} {peer : ByteArray} {f : Int} {g : Bool} {fo ne : Nat → Bool} {t : Bool} (h : Struck w w3 B n i peer f g fo ne t) (q : Nat) : Struck w (w3.drewN q) B n i peer f g fo ne t := by
  obtain ⟨h1, h2, h3, h4⟩ := h
  have K := Kept.ofDrewN (fun _ => False) w3 q
  exact ⟨h1.kept K (fun e => e) (fun e => e) (fun e => e) (fun _ _ e => e) (fun _ _ e => e) (fun _ _ _ _ e => e), h2, h3.kept K (fun e => e), h4.drewN q⟩
theorem Struck.putMap {w w3 : World} {B n i : Nat} {peer : ByteArray} {f : Int} {g : Bool} {fo ne : Nat → Bool} {t : Bool} (h : Struck w w3 B n i peer f g fo ne t) : Struck w (w3.setCell ⟨B + 2, 2, none⟩ (.map (some (B + 1)))) B n i peer f g fo ne t := by
  obtain ⟨h1, h2, h3, h4⟩ := h
  exact ⟨h1.setH h2 2 _, h2.map, h3.setCell (a := ⟨B + 2, 2, none⟩) (by show B + 1 ≠ B + 2; omega) _, h4.setCell (p := ⟨B + 2, 2, none⟩) (fun _ => by show Turn B n (B + 2); unfold Turn; omega) _⟩

set_option maxRecDepth 100000 in
set_option maxHeartbeats 4000000 in
/-- no dial is in flight: e is forgotten -/
theorem forget_free (w : World) (B n i : Nat) (peer : ByteArray) (f : Int) (g : Bool) (fo ne : Nat → Bool) (hp : peer.size ≤ maxLen) (hi : i < n) (h : St w B n peer f g none none fo ne n) (hm : PeerMap w (B + 1) (B + 3) peer true) :
    Calls Try.prog 37 #[pt (ebk B n i), .bool true] w fun e w' => e = .returned (.bool true) ∧ St w' B n peer f g none none fo ne i ∧ PeerMap w' (B + 1) (B + 3) peer (decide (1 < n)) ∧ Kept (Turn B n) w w' := by
  have hh : HistL w (B + 2) (B + 1) 0 := h.hist
  have hr := h.r
  have he := hr.ent hi
  have hrec := hr.rec_
  have e0 : w.cell? ⟨ebk B n i, 0, none⟩ = some (pt (pbk B n i)) := by rw [blk_cell he]; rfl
  have e2 : w.cell? ⟨ebk B n i, 2, none⟩ = some (pt (B + 3)) := by rw [blk_cell he, rvOf_all B n i hi]; rfl
  have e2f := blk_free he 2
  have p0 := hr.part hi
  have h0 : w.cell? ⟨B + 2, 0, none⟩ = some (.int .i32 0) := by rw [blk_cell hh]; rfl
  have f0 := blk_free hh 0
  have r5 : w.cell? ⟨B + 3, 5, none⟩ = some (.pointer none) := by rw [blk_cell hrec]; rfl
  have n1 : ebk B n i ≠ B + 2 := by unfold ebk; omega
  have n2 : pbk B n i ≠ B + 2 := by unfold pbk; omega
  have n3 : ebk B n i ≠ B + 3 := by unfold ebk; omega
  have HH := hide hh
  have HR := hide hr
  have HM := hide hm
  clear h hr he hrec hh hm
  generalize hebk : ebk B n i = eb at *
  generalize pbk B n i = pb at *
  have HEB := hide hebk
  clear hebk
  go_enter_defers Try.func37, Try.ntmps37
  go_wp2_with (go_at_call 59; refine (lock_free muLib ⟨B + 2, 0, none⟩ _ h0 f0).mono ?_; rintro e w' ⟨rfl, rfl⟩)
  refine (end_any (B + 3) eb _ ?_).mono ?_
  · rw [World.cell?_setCell_other _ _ _ _ (by simp), World.cell?_setCell_other _ _ _ _ (by simp)]; exact r5
  rintro e w2 ⟨rfl, rfl⟩
  have hlist : ∀ k, k ≤ i → ((w.setCell ⟨B + 2, 0, none⟩ (.int .i32 1)).setCell ⟨eb, 2, none⟩ (.pointer none)).cell? (adr B n k) = some (.pointer (npa B n k)) ∧ ((w.setCell ⟨B + 2, 0, none⟩ (.int .i32 1)).setCell ⟨eb, 2, none⟩ (.pointer none)).frozen? (adr B n k) = false := by
    rw [← unhide HEB]; exact fun k hk => list_cells hi (unhide HR) k hk
  have HLI := hide hlist
  have hnx : ((w.setCell ⟨B + 2, 0, none⟩ (.int .i32 1)).setCell ⟨eb, 2, none⟩ (.pointer none)).cell? ⟨eb, 3, none⟩ = some (.pointer (npa B n (i + 1))) := by
    rw [World.cell?_setCell_other _ _ _ _ (by simp), World.cell?_setCell_other _ _ _ _ (by simp), ← unhide HEB, blk_cell ((unhide HR).ent hi), nxOf_all B n i hi]; rfl
  clear hlist e0 e2 e2f p0 h0 f0 r5
  generalize hw2 : (w.setCell ⟨B + 2, 0, none⟩ (.int .i32 1)).setCell ⟨eb, 2, none⟩ (.pointer none) = w2 at *
  have HW2 := hide hw2
  clear hw2
  go_wp2_with fail
  go_loopg [8] i (fun gk p wr => ∃ k : Nat, k + gk = i ∧ p = .pointer (some (adr B n k)) ∧ wr = w2)
  case atStart => exact ⟨0, by omega, rfl, rfl⟩
  case round =>
    obtain ⟨k, hk, rfl, rfl⟩ := hrel
    have hck := (unhide HLI k (by omega)).1
    have hfk := (unhide HLI k (by omega)).2
    have hnp : npa B n k = some ⟨ebk B n k, 0, none⟩ := by unfold npa; rw [if_pos (by omega)]
    rw [hnp] at hck
    clear hnp
    by_cases hki : k = i
    · subst hki
      rw [unhide HEB] at hck
      have hstk := struck hi (unhide HR) (unhide HH) (unhide HM)
      rw [unhide HEB, unhide HW2] at hstk
      have hc3 : ∀ v, (wr.setCell (adr B n k) v).cell? ⟨eb, 3, none⟩ = some (.pointer (npa B n (k + 1))) := fun v => by
        rw [World.cell?_setCell_other _ _ _ _ (by rw [← unhide HEB]; exact adr_ne hi)]; exact hnx
      have hf3 : wr.frozen? ⟨eb, 3, none⟩ = false := by
        rw [← unhide HW2, ← unhide HEB]
        simp [World.frozen?_setCell]
        exact blk_free ((unhide HR).ent hi) 3
      generalize hadr : adr B n k = ad at *
      have HST := hide hstk
      have hq := eql37 (some ⟨eb, 0, none⟩)
      clear hadr hstk
      go_upto_region 17 with fail
      generalize (wr.setCell ad (.pointer (npa B n (k + 1)))).setCell ⟨eb, 3, none⟩ (.pointer none) = w3 at *
      clear hc3 hf3 hck hfk hnx HLI HW2 hq HR HH HM
      have hhist := (unhide HST).2.1
      have r7 : w3.cell? ⟨B + 3, 7, none⟩ = some (.pointer (npa B n (hdOf k))) := by rw [blk_cell (unhide HST).1.rec_]; rfl
      by_cases hn1 : 1 < n
      · have hnp : npa B n (hdOf k) = some ⟨ebk B n (hdOf k), 0, none⟩ := by unfold npa; rw [if_pos (by unfold hdOf; split <;> omega)]
        rw [hnp] at r7
        have h0 : w3.cell? ⟨B + 2, 0, none⟩ = some (.int .i32 1) := by rw [blk_cell hhist]; rfl
        have f0 := blk_free hhist 0
        clear hnp hhist
        go_wp2
        refine leaves_cons (f := 60) (args := #[.pointer (some ⟨B + 2, 0, none⟩)]) (by simp) (by simp [go_sem]) ?_
        refine (unlock_deferred muLib ⟨B + 2, 0, none⟩ .returning _ h0 f0).mono ?_
        rintro e u' w'' ⟨rfl, rfl, rfl⟩
        exact ⟨_, results_tmp rfl _ _ _, rfl, by rw [decide_eq_true hn1]; exact unlocked (unhide HST)⟩
      · have hk0 : k = 0 := by omega
        have hn1' : n = 1 := by omega
        have hnp : npa B n (hdOf k) = none := by unfold npa; rw [if_neg (by rw [hk0]; unfold hdOf; simp; omega)]
        rw [hnp] at r7
        have h2 : w3.cell? ⟨B + 2, 2, none⟩ = some (.map (some (B + 1))) := by rw [blk_cell hhist]; rfl
        have e1 : w3.cell? ⟨eb, 1, none⟩ = some (.string peer) := by rw [← unhide HEB, blk_cell ((unhide HST).1.ent hi)]; rfl
        have HPM : Hid (PeerMap w3.drew (B + 1) (B + 3) peer true) := (unhide HST).2.2.1
        clear hnp hhist hk0
        go_wp2
        refine wp_region_noPanic ?_
        go_region_law ((refine step_delete (by rfl) _ _ (by rfl) (by rfl) (by rfl) (unhide HPM) hp ?_; intro w4 hpm4 hturn4))
        all_goals refine NoPanic.normal ?_
        all_goals
          have hst4 := deleted_st (unhide HST) hpm4 hturn4
          have HST4 := hide hst4
          clear hst4 hpm4 hturn4
          have hhist := (unhide HST4).2.1
          have h2 : w4.cell? ⟨B + 2, 2, none⟩ = some (.map (some (B + 1))) := by rw [blk_cell hhist]; rfl
          have f2 := blk_free hhist 2
          have HQ := hide (fun q : Nat => deleted_z (B + 2) (B + 1) 0 (by omega) (w4.drewN q) (by show w4.cell? _ = _; rw [blk_cell hhist]; rfl))
          clear hhist e1 r7
          go_wp2
          refine wp_region_noPanic ?_
          go_region_with (go_at_call 61; refine (unhide HQ 1).mono ?_; rintro e w5 ⟨rfl, nq, rfl⟩)
          all_goals refine NoPanic.normal ?_
          all_goals go_wp2
          all_goals
            have hS := ((unhide HST4).drewN (1 + nq)).putMap
            generalize (w4.drewN (1 + nq)).setCell ⟨B + 2, 2, none⟩ (.map (some (B + 1))) = w6 at hS ⊢
            refine leaves_cons (f := 60) (args := #[.pointer (some ⟨B + 2, 0, none⟩)]) (by simp) (by simp [go_sem]) ?_
            refine (unlock_deferred muLib ⟨B + 2, 0, none⟩ .returning _ (by rw [blk_cell hS.2.1]; rfl) (blk_free hS.2.1 0)).mono ?_
            rintro e u' w'' ⟨rfl, rfl, rfl⟩
            exact ⟨_, results_tmp rfl _ _ _, rfl, by rw [decide_eq_false hn1]; exact unlocked hS⟩
    · have hne : ebk B n k ≠ eb := fun e => hki (ebk_inj (by omega) hi (by rw [e, unhide HEB]))
      have b1 : ∃ cs, wr.heap[ebk B n k]? = some (.cells cs 109 (0, 0)) := by
        rw [← unhide HW2]
        exact ⟨_, blk_other (blk_other ((unhide HR).ent (t := k) (by omega)) (a := ⟨B + 2, 0, none⟩) (by show ebk B n k ≠ B + 2; unfold ebk; omega) _) (a := ⟨eb, 2, none⟩) hne _⟩
      have b2 : ∃ cs, wr.heap[eb]? = some (.cells cs 109 (0, 0)) := by
        rw [← unhide HW2]
        have b3 := (unhide HR).ent hi
        rw [unhide HEB] at b3
        exact ⟨_, blk_set (blk_other b3 (a := ⟨B + 2, 0, none⟩) n1 _) 2 _⟩
      obtain ⟨c1, b1⟩ := b1
      obtain ⟨c2, b2⟩ := b2
      have hq := eql37_other (a := ⟨ebk B n k, 0, none⟩) (b := ⟨eb, 0, none⟩) wr (fun e => hne (congrArg Addr.block e)) b1 b2
      have HSA : Hid (adr B n (k + 1) = ⟨ebk B n k, 3, none⟩) := rfl
      clear b1 b2 hnx hfk
      generalize ebk B n k = ek at *
      generalize hadr : adr B n k = ad at *
      clear hadr
      go_wp2_with fail
      go_roundg (i - (k + 1))
      case measure => omega
      case rel => exact ⟨k + 1, by omega, by rw [unhide HSA], rfl⟩

/-! ### ForgetUnlessDialing -/
set_option maxHeartbeats 400000 in
theorem forgetU_any (eb : Nat) (r : Bool) (w : World) (Q : World → Prop) (h : Calls Try.prog 37 #[pt eb, .bool true] w fun e w' => e = .returned (.bool r) ∧ Q w') :
    Calls Try.prog 14 #[pt eb] w fun e w' => e = .returned (.bool r) ∧ Q w' := by
  have HQ := hide h
  clear h
  go_enter Try.func14, Try.ntmps14
  go_wp2_with (go_at_call 37; refine (unhide HQ).mono ?_; rintro e w' ⟨rfl, hq⟩; have HR := hide hq; clear hq)
  go_ret
  exact ⟨rfl, unhide HR⟩

end Go.Proofs.Qxb6616570a
