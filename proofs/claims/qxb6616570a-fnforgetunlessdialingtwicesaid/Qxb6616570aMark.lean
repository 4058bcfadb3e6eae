/- ZZmarkNews. -/
import Derived.Test.Qxb6616570aNode
import Derived.Deep.RegionLaw
namespace Go.Proofs.Qxb6616570a
open Go.RowKit Go.Maps

theorem Try.info37 : (Try.prog.info? 37).map (fun i => (i.zero, i.size, i.bytes)) = some (some (.pointer none), 1, 8) := by kernel_rfl

/-- the news of a part: none, or one entry in a row of its own -/
def NewsIs (B : Nat) (w : World) (eb : Nat) (nv : Value) (b : Bool) : Prop :=
  (b = false ∧ nv = .slice none 0 0) ∨ (b = true ∧ ∃ g c cur, nv = .slice (some ⟨g, 0, none⟩) 1 c ∧ B ≤ g ∧ w.heap[g]? = some (.cells cur 37 (0, 0)) ∧ cur[0]? = some (pt eb))

/-- a part and its entry -/
def Node (B : Nat) (w : World) (hb pb eb : Nat) (peer : ByteArray) (fo ne : Bool) (rv nx : Value) : Prop :=
  ∃ nv, PartBlk w hb pb fo nv (if ne then 1 else 0) ∧ EntBlk w eb pb peer rv nx ne ∧ NewsIs B w eb nv ne

/-- the state behind the append and its store -/
def MarkMid (B : Nat) (w w3 : World) (hb pb eb : Nat) (peer : ByteArray) (fo : Bool) (rv nx nv : Value) : Prop :=
  EntBlk w3 eb pb peer rv nx true ∧ PartBlk w3 hb pb fo nv 0 ∧ NewsIs B w3 eb nv true ∧ Kept (fun i => i = pb ∨ i = eb) w w3
theorem mark_mid {B hb pb eb gg cap : Nat} {peer : ByteArray} {fo : Bool} {rv nx : Value} {w w1 w2 : World} {o : Obj} {row : Option Nat} (hrow : row = none) (hpe : pb ≠ eb) (hk1 : Kept (fun i => i = pb ∨ i = eb) w w1)
    (hE1 : w1.heap[eb]? = some (.cells (#[pt pb, .string peer, rv, nx, .bool false, .int .u8 0].setIfInBounds 4 (.bool true)) 109 (0, 0)))
    (hP1 : w1.heap[pb]? = some (.cells #[pt hb, .bool fo, .slice none 0 0, .chan none, .int .u32 0] 106 (0, 0)))
    (hgrow : (w1.alloc o).drew.grownBy w2 row) (hown : w2.ownsRow B 37 1 (.slice (some ⟨gg, 0, none⟩) 1 cap) 1 [pt eb]) (hat : row = some gg ∨ gg = w1.heap.size + 1) :
    MarkMid B w (w2.setCell ⟨pb, 2, none⟩ (.slice (some ⟨gg, 0, none⟩) 1 cap)) hb pb eb peer fo rv nx (.slice (some ⟨gg, 0, none⟩) 1 cap) := by
  subst hrow
  have hgg : gg = w1.heap.size + 1 := by rcases hat with h | h; cases h; exact h
  have k2 : Kept (fun _ => False) w1 w2 := (((Kept.refl _ w1).alloc o).drew).grown hgrow (fun _ _ e => by cases e)
  have hE2 := k2.blk hE1 (fun e => e)
  have hP2 := k2.blk hP1 (fun e => e)
  have l2 := lt_of_block hP1
  refine ⟨?_, ?_, .inr ⟨rfl, ?_⟩, ?_⟩
  · exact blk_other hE2 (a := ⟨pb, 2, none⟩) (Ne.symm hpe) _
  · exact blk_set hP2 2 _
  · rcases hown.2 with ⟨h, _⟩ | ⟨g', c', cur, hv, hBg, hh, _, _, _, htake⟩
    · cases h
    · cases hv
      refine ⟨gg, cap, cur, rfl, hBg, blk_other hh (a := ⟨pb, 2, none⟩) (by show gg ≠ pb; omega) _, ?_⟩
      have h0 : (cur.toList.take (1 * 1))[0]? = some (pt eb) := by rw [htake]; rfl
      simpa using h0
  · exact (hk1.trans k2 (fun _ _ e => e.elim)).setCell (fun _ => .inl rfl) _
theorem mark_end {B hb pb eb : Nat} {peer : ByteArray} {fo : Bool} {rv nx nv : Value} {w w3 : World} (hpe : pb ≠ eb) (h : MarkMid B w w3 hb pb eb peer fo rv nx nv) :
    Node B (w3.setCell ⟨pb, 4, none⟩ (.int .u32 1)).drew hb pb eb peer fo true rv nx ∧ Kept (fun i => i = pb ∨ i = eb) w (w3.setCell ⟨pb, 4, none⟩ (.int .u32 1)).drew := by
  obtain ⟨h1, h2, h3, h4⟩ := h
  refine ⟨⟨nv, blk_set h2 4 _, blk_other h1 (a := ⟨pb, 4, none⟩) (Ne.symm hpe) _, ?_⟩, (h4.setCell (fun _ => .inl rfl) _).drew⟩
  rcases h3 with ⟨h, _⟩ | ⟨_, g, c, cur, rfl, hB, hh, h0⟩
  · cases h
  · refine .inr ⟨rfl, g, c, cur, rfl, hB, blk_other hh (a := ⟨pb, 4, none⟩) ?_ _, h0⟩
    rintro rfl
    unfold PartBlk at h2
    rw [h2] at hh
    cases hh

set_option maxRecDepth 100000 in
set_option maxHeartbeats 1600000 in
theorem mark_any (B hb pb eb : Nat) (peer : ByteArray) (fo : Bool) (rv nx : Value) (w : World) (hB : B ≤ w.heap.size) (hp : PartBlk w hb pb fo (.slice none 0 0) 0) (he : EntBlk w eb pb peer rv nx false) :
    Calls Try.prog 33 #[pt eb] w fun e w' => e = .returned (.tuple #[]) ∧ Node B w' hb pb eb peer fo true rv nx ∧ Kept (fun i => i = pb ∨ i = eb) w w' := by
  have hpe : pb ≠ eb := by rintro rfl; unfold PartBlk at hp; unfold EntBlk at he; rw [hp] at he; cases he
  have HP := hide hp
  have HE := hide he
  have e4 : w.cell? ⟨eb, 4, none⟩ = some (.bool false) := by rw [blk_cell he]; rfl
  have f4 := blk_free he 4
  clear hp he
  go_enter Try.func33, Try.ntmps33
  go_wp2_with fail
  have hk1 : Kept (fun i => i = pb ∨ i = eb) w (w.setCell ⟨eb, 4, none⟩ (.bool true)) := (Kept.refl _ w).setCell (fun _ => .inr rfl) _
  have hE1 := blk_set (unhide HE) 4 (.bool true)
  have hP1 := blk_other (unhide HP) (a := ⟨eb, 4, none⟩) hpe (.bool true)
  clear HP HE
  generalize w.setCell ⟨eb, 4, none⟩ (.bool true) = w1 at *
  have c0 : w1.cell? ⟨eb, 0, none⟩ = some (pt pb) := by rw [blk_cell hE1]; rfl
  have c2 : w1.cell? ⟨pb, 2, none⟩ = some (.slice none 0 0) := by rw [blk_cell hP1]; rfl
  have f2 := blk_free hP1 2
  have l1 := lt_of_block hE1
  have l2 := lt_of_block hP1
  obtain ⟨i0, hi, hz0, hz1, hz2⟩ := info_parts Try.info37
  have HK1 := hide hk1
  have HE1 := hide hE1
  have HP1 := hide hP1
  have hB1 : B ≤ w1.heap.size := Nat.le_trans hB hk1.size
  clear e4 f4 hk1 hE1 hP1
  have ca0 : ∀ o, (w1.alloc o).cell? ⟨eb, 0, none⟩ = some (pt pb) := fun o => by rw [World.cell?_alloc_past _ _ _ (by exact l1)]; exact c0
  have ca2 : ∀ o, (w1.alloc o).cell? ⟨pb, 2, none⟩ = some (.slice none 0 0) := fun o => by rw [World.cell?_alloc_past _ _ _ (by exact l2)]; exact c2
  have fa2 : ∀ o, (w1.alloc o).frozen? ⟨pb, 2, none⟩ = false := fun o => by rw [World.frozen?_alloc_old _ _ _ (by simp; omega)]; exact f2
  go_region_law ((refine step_append_lies _ (by rfl) _ _ _ (by rfl) B 37 i0 _ 1 8 Try.underlying28 hi hz0 hz1 hz2 rfl (by omega) (.slice none 0 0) 0 [] (by rfl) (World.ownsRow_nil _ _ _ _) ⟨w1.heap.size, 0, none⟩ 1 1 [pt eb] (by rfl) (by rfl) (World.news_of_block (cs := #[pt eb]) (t := 37) (fr := (0, 0)) (heap_alloc_new w1 _)) (by simp [Value.oneCell']) (by omega) (by unfold maxLen; omega) (by omega) (by simp; omega) (w1.heap.size + 1) (by simp) ?_; intro gg cap w2 hown2 hgrow hat hlt; have d0 : w2.cell? ⟨eb, 0, none⟩ = some (pt pb) := (by rw [hgrow.cell_far _ (by simp; omega) (by simp [Value.ownBlock])]; exact ca0 _); have d2 : w2.cell? ⟨pb, 2, none⟩ = some (.slice none 0 0) := (by rw [hgrow.cell_far _ (by simp; omega) (by simp [Value.ownBlock])]; exact ca2 _); have d3 : w2.frozen? ⟨pb, 2, none⟩ = false := (by rw [hgrow.frozen_far _ (by simp; omega) (by simp [Value.ownBlock])]; exact fa2 _)))
  all_goals
    have hM := mark_mid rfl hpe (unhide HK1) (unhide HE1) (unhide HP1) hgrow hown2 hat
    have HM := hide hM
    clear hM hgrow hown2 hat d0 d2 d3 hlt ca0 ca2 fa2 c0 c2 f2 l1 l2 hi hz0 hz1 hz2
    generalize w2.setCell ⟨pb, 2, none⟩ (.slice (some ⟨gg, 0, none⟩) 1 cap) = w3 at *
    have c0 : w3.cell? ⟨eb, 0, none⟩ = some (pt pb) := by rw [blk_cell (unhide HM).1]; rfl
    have HS := hide (store_any pb 4 (.int .u32 0) w3 (by rw [blk_cell (unhide HM).2.1]; rfl) (blk_free (unhide HM).2.1 4))
    go_wp2_with (go_at_call 58; refine (unhide HS).mono ?_; rintro e w4 ⟨rfl, rfl⟩)
    go_end0
    exact ⟨rfl, mark_end hpe (unhide HM)⟩

end Go.Proofs.Qxb6616570a
