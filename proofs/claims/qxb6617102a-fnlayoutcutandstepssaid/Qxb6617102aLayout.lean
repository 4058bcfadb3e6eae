/- Layout, layoutEnds. -/
import Derived.Test.Qxb6617102aPre
namespace Go.Proofs.Qxb6617102a
open Go.RowKit

theorem Try.info2 : (Try.prog.info? 2).map (fun i => (i.zero, i.size, i.bytes)) = some (some (.int .i64 0), 1, 8) := by kernel_rfl
abbrev zi : Array Value := #[.int .i64 0]
theorem make24 (w : World) (n : Nat) (hn : n ≤ 1048577) : (Instr.makeSlice 24 (.int .i64 (n : Int)) (.int .i64 (n : Int))).run Try.prog w = .ok (.slice (some ⟨w.heap.size, 0, none⟩) n n) (w.alloc (.cells (madeCells zi n) 2)) := by
  obtain ⟨i, hi, hzz⟩ := Option.map_eq_some_iff.1 Try.info2
  simp only [Prod.mk.injEq] at hzz
  obtain ⟨hz, hs, hb⟩ := hzz
  have h := run_make (P := Try.prog) w 24 2 i (.int .i64 0) Try.underlying24 hi hz .i64 .i64 (n : Int) (n : Int) (by omega) (by omega) (by rw [hb]; omega) (by omega)
  rw [hs] at h
  simpa [Value.cells] using h
/-- n whole numbers lie in block b -/
def En (w : World) (b n : Nat) (G : Nat → Int) : Prop := w.rowIs b 2 n (fun i => .int .i64 (G i))
theorem made_en (w : World) (n : Nat) : En (w.alloc (.cells (madeCells zi n) 2)) w.heap.size n (fun _ => 0) := by
  refine ⟨_, heap_alloc_new _ _, size_madeCells _ _, fun i hi => ?_⟩
  simp [madeCells, hi, Nat.mod_one]

theorem en_step {w : World} {b n : Nat} {G : Nat → Int} {t : Nat} (h : En w b n (fun u => if u < t then pre G (u + 1) else 0)) (x : Int) (hx : pre G (t + 1) = x) : En (w.setCell ⟨b, t, none⟩ (.int .i64 x)) b n (fun u => if u < t + 1 then pre G (u + 1) else 0) := by
  refine World.rowIs.congr (World.rowIs.set h t (.int .i64 x)) (fun i _ => ?_)
  by_cases e : i = t
  · subst e
    simp [hx]
  · have : (i < t + 1) ↔ (i < t) := by omega
    simp [e, this]

/-- a single file's layout -/
theorem layout_nil (ib : Nat) (ln : Int) (w : World) (hc : w.cell? ⟨ib, 4, none⟩ = some (.slice none 0 0)) (hl : w.cell? ⟨ib, 3, none⟩ = some (.int .i64 ln)) :
    Calls Try.prog 22 #[.pointer (some ⟨ib, 0, none⟩)] w fun e w' => ∃ lb eb, e = .returned (.pointer (some ⟨lb, 0, none⟩)) ∧ w'.cell? ⟨lb, 0, none⟩ = some (.slice (some ⟨eb, 0, none⟩) 1 1) ∧ w'.cell? ⟨eb, 0, none⟩ = some (.int .i64 ln) ∧ Kept (fun _ => False) w w' := by
  have q31 := eql31 none 0 0
  have k1 := (Kept.refl (fun _ => False) w).alloc (.cells #[.int .i64 ln] 2)
  have hb1 := heap_alloc_new w (.cells #[.int .i64 ln] 2)
  go_enter Try.func22, Try.ntmps22
  go_wp2
  go_ret
  have k2 := (Kept.refl (fun _ => False) (w.alloc (.cells #[.int .i64 ln] 2))).alloc (.cells #[.slice (some ⟨w.heap.size, 0, none⟩) 1 1] 50)
  have hb2 := heap_alloc_new (w.alloc (.cells #[.int .i64 ln] 2)) (.cells #[.slice (some ⟨w.heap.size, 0, none⟩) 1 1] 50)
  refine ⟨w.heap.size + 1, w.heap.size, rfl, ?_, ?_, k1.trans k2 (fun _ _ e => e)⟩
  · rw [World.size_alloc] at hb2
    rw [blk_cell hb2]
    rfl
  · exact k2.cell (by rw [blk_cell hb1]; rfl) (fun e => e)

set_option maxRecDepth 100000 in
set_option maxHeartbeats 4000000 in
theorem layout_any (ib b n : Nat) (F : Nat → FileV) (w : World) (hc : w.cell? ⟨ib, 4, none⟩ = some (.slice (some ⟨b, 0, none⟩) n n)) (hf : Fl w b n F) (hn : n ≤ 1048577) :
    Calls Try.prog 22 #[.pointer (some ⟨ib, 0, none⟩)] w fun e w' => ∃ lb eb, e = .returned (.pointer (some ⟨lb, 0, none⟩)) ∧ w'.cell? ⟨lb, 0, none⟩ = some (.slice (some ⟨eb, 0, none⟩) n n) ∧ En w' eb n (fun j => pre (fun t => (F t).2.1) (j + 1)) ∧ Kept (fun _ => False) w w' := by
  have q31 := eql31 (some ⟨b, 0, none⟩) n n
  have hmk := make24 w n hn
  have k1 := (Kept.refl (fun _ => False) w).alloc (.cells (madeCells zi n) 2)
  have HE := hide (made_en w n)
  have hc1 := k1.cell hc (fun e => e)
  have hne : b ≠ w.heap.size := by have := World.rowIs.lt hf; omega
  have HF := hide (hf.kept k1 (fun e => e))
  have HK := hide k1
  clear hf k1
  go_enter Try.func22, Try.ntmps22
  go_wp2
  clear hmk hc
  generalize (w.alloc (.cells (madeCells zi n) 2)) = w1 at *
  generalize hB : w.heap.size = B at *
  have HB := hide hB
  clear hB
  go_loopw [4, 30, 6, 5] (fun s i _ _ wr => ∃ t : Nat, t ≤ n ∧ i = .int .i64 t ∧ s = .int .i64 (pre (fun t => (F t).2.1) t) ∧ En wr B n (fun u => if u < t then pre (fun t => (F t).2.1) (u + 1) else 0) ∧ Fl wr b n F ∧ Kept (fun _ => False) w wr) (fun _ i _ _ _ => n - (intOf i).toNat)
  case atStart => exact ⟨0, by omega, rfl, rfl, by simpa using unhide HE, unhide HF, unhide HK⟩
  case round =>
    obtain ⟨t, ht, rfl, rfl, he, hf, hk⟩ := hrel
    clear HE HF HK
    by_cases hlt : t < n
    · have x0 := hf.c0 hlt
      have x1 := hf.c1 hlt
      have x2 := hf.c2 hlt
      have x3 := hf.c3 hlt
      have hsu := pre_succ (fun t => (F t).2.1) t
      have y0 := World.rowIs.cell he hlt
      have z0 := World.rowIs.frozen he t
      have hBl := World.rowIs.lt he
      have hfl := World.rowIs.lt hf
      have hsz := unhide HB
      have he2 := en_step he (wrap64 (pre (fun t => (F t).2.1) t + (F t).2.1)) hsu
      have hf2 := hf.kept ((Kept.refl (fun i => i = B) _).setCell (p := ⟨B, t, none⟩) (fun _ => rfl) (.int .i64 (wrap64 (pre (fun t => (F t).2.1) t + (F t).2.1)))) hne
      have hk2 := hk.setCell (p := ⟨B, t, none⟩) (fun e => by simp at e; omega) (.int .i64 (wrap64 (pre (fun t => (F t).2.1) t + (F t).2.1)))
      have k2 := (Kept.refl (fun _ => False) (wr.setCell ⟨B, t, none⟩ (.int .i64 (wrap64 (pre (fun t => (F t).2.1) t + (F t).2.1))))).alloc (.cells #[.string (F t).1, .int .i64 (F t).2.1, .bool (F t).2.2.1, .bool (F t).2.2.2] 33)
      have HE3 : Hid (En _ B n (fun u => if u < t + 1 then pre (fun t => (F t).2.1) (u + 1) else 0)) := hide (World.rowIs.of_block he2 (k2.block B (World.rowIs.lt he2) (fun e => e)))
      have HF3 := hide (hf2.kept k2 (fun e => e))
      have HK3 := hide (hk2.trans k2 (fun _ _ e => e))
      clear he he2 hf hk k2 hf2 hk2
      generalize hp : pre (fun t => (F t).2.1) t = pt at *
      generalize hq : pre (fun t => (F t).2.1) (t + 1) = pt1 at *
      have HQ := hide hq
      have HSU := hide hsu
      clear hp hq hsu
      generalize F t = f at *
      obtain ⟨f0, f1, f2, f3⟩ := f
      go_wp2
      go_roundw
      case rel => exact ⟨t + 1, by omega, by go_num, by rw [unhide HQ, unhide HSU], unhide HE3, unhide HF3, unhide HK3⟩
      case measure => simp [intOf]; omega
    · have e : t = n := by omega
      subst e
      go_wp2
      go_ret
      have k2 := (Kept.refl (fun _ => False) wr).alloc (.cells #[.slice (some ⟨B, 0, none⟩) t t] 50)
      refine ⟨wr.heap.size, B, rfl, ?_, ?_, hk.trans k2 (fun _ _ e => e)⟩
      · rw [blk_cell (heap_alloc_new wr (.cells #[.slice (some ⟨B, 0, none⟩) t t] 50))]
        rfl
      · exact World.rowIs.congr (World.rowIs.of_block he (k2.block B (World.rowIs.lt he) (fun e => e))) (fun i hi => by simp [hi])

end Go.Proofs.Qxb6617102a
