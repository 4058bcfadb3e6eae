/- fresh. -/
import Derived.Test.Qxb6616570aBuild
import Derived.Deep.Cut
import Derived.Deep.Light
namespace Go.Proofs.Qxb6616570a
open Go.RowKit Go.Maps

theorem Try.info4 : (Try.prog.info? 4).map (fun i => (i.zero, i.size, i.bytes)) = some (some (.bool false), 1, 1) := by kernel_rfl
theorem Try.info5 : (Try.prog.info? 5).map (fun i => (i.zero, i.size, i.bytes)) = some (some (.int .u8 0), 1, 1) := by kernel_rfl

abbrev zero35 : Array Value := #[.slice none 0 0, .int .i64 0, .int .i64 0, .slice none 0 0, .slice none 0 0, .int .i64 0, .bool false]
/-- the state behind the making of x -/
def FMid (w wc : World) (x : Value) (n : Nat) (d o f : Int) (g : Bool) : Prop :=
  ∃ y kr or nr : Nat, x = pt y ∧ wc.heap[y]? = some (.cells #[.slice (some ⟨kr, 0, none⟩) n n, .int .i64 d, .int .i64 o, .slice (some ⟨or, 0, none⟩) n n, .slice (some ⟨nr, 0, none⟩) n n, .int .i64 f, .bool g] 35 (0, 0)) ∧
    wc.heap[kr]? = some (.cells (madeCells #[.bool false] n) 4 (0, 0)) ∧ wc.heap[or]? = some (.cells (madeCells #[.int .u8 0] n) 5 (0, 0)) ∧ wc.heap[nr]? = some (.cells (madeCells #[.bool false] n) 4 (0, 0)) ∧ kr ≠ nr ∧
    w.heap.size ≤ kr ∧ w.heap.size ≤ or ∧ w.heap.size ≤ nr ∧ w.heap.size < y ∧ wc.heap[w.heap.size]? = some (.cells zero35 35 (0, 0)) ∧ Kept (fun _ => False) w wc

theorem fmid_mk {w wc : World} {n : Nat} {d o f : Int} {g : Bool} {y kr or nr : Nat} (hx : wc.heap[y]? = some (.cells #[.slice (some ⟨kr, 0, none⟩) n n, .int .i64 d, .int .i64 o, .slice (some ⟨or, 0, none⟩) n n, .slice (some ⟨nr, 0, none⟩) n n, .int .i64 f, .bool g] 35 (0, 0)))
    (hk : wc.heap[kr]? = some (.cells (madeCells #[.bool false] n) 4 (0, 0))) (ho : wc.heap[or]? = some (.cells (madeCells #[.int .u8 0] n) 5 (0, 0))) (hn : wc.heap[nr]? = some (.cells (madeCells #[.bool false] n) 4 (0, 0))) (h1 : kr ≠ nr)
    (h2 : w.heap.size ≤ kr) (h3 : w.heap.size ≤ or) (h4 : w.heap.size ≤ nr) (h5 : w.heap.size < y) (hz : wc.heap[w.heap.size]? = some (.cells zero35 35 (0, 0))) (hK : Kept (fun _ => False) w wc) : FMid w wc (pt y) n d o f g :=
  ⟨y, kr, or, nr, rfl, hx, hk, ho, hn, h1, h2, h3, h4, h5, hz, hK⟩

theorem at4 (w : World) (z a b c d : Obj) : (((((w.alloc z).alloc a).alloc b).alloc c).alloc d).drew.heap[w.heap.size + 1 + 1 + 1 + 1]? = some d := by
  have h := heap_alloc_new ((((w.alloc z).alloc a).alloc b).alloc c) d
  have e : ((((w.alloc z).alloc a).alloc b).alloc c).heap.size = w.heap.size + 1 + 1 + 1 + 1 := by simp
  rw [e] at h
  exact h
theorem at3 (w : World) (z a b c d : Obj) : (((((w.alloc z).alloc a).alloc b).alloc c).alloc d).drew.heap[w.heap.size + 1 + 1 + 1]? = some c := by
  have h := heap_alloc_new (((w.alloc z).alloc a).alloc b) c
  have e : (((w.alloc z).alloc a).alloc b).heap.size = w.heap.size + 1 + 1 + 1 := by simp
  rw [e] at h
  exact (Below.heap_alloc _ d _ (by simp)).trans h
theorem at2 (w : World) (z a b c d : Obj) : (((((w.alloc z).alloc a).alloc b).alloc c).alloc d).drew.heap[w.heap.size + 1 + 1]? = some b := by
  have h := heap_alloc_new ((w.alloc z).alloc a) b
  have e : ((w.alloc z).alloc a).heap.size = w.heap.size + 1 + 1 := by simp
  rw [e] at h
  exact (Below.heap_alloc _ d _ (by simp)).trans ((Below.heap_alloc _ c _ (by simp)).trans h)
theorem at1 (w : World) (z a b c d : Obj) : (((((w.alloc z).alloc a).alloc b).alloc c).alloc d).drew.heap[w.heap.size + 1]? = some a := by
  have h := heap_alloc_new (w.alloc z) a
  have e : (w.alloc z).heap.size = w.heap.size + 1 := by simp
  rw [e] at h
  exact (Below.heap_alloc _ d _ (by simp only [World.size_alloc]; omega)).trans ((Below.heap_alloc _ c _ (by simp only [World.size_alloc]; omega)).trans ((Below.heap_alloc _ b _ (by simp only [World.size_alloc]; omega)).trans h))
theorem at0 (w : World) (z a b c d : Obj) : (((((w.alloc z).alloc a).alloc b).alloc c).alloc d).drew.heap[w.heap.size]? = some z := by
  have h := heap_alloc_new w z
  exact (Below.heap_alloc _ d _ (by simp; omega)).trans ((Below.heap_alloc _ c _ (by simp; omega)).trans ((Below.heap_alloc _ b _ (by simp; omega)).trans ((Below.heap_alloc _ a _ (by simp)).trans h)))

/-- the state of fresh's loop -/
structure FL (w wr : World) (y kr or nr n j : Nat) (ne : Nat → Bool) (d o f : Int) (g : Bool) : Prop where
  x : wr.heap[y]? = some (.cells #[.slice (some ⟨kr, 0, none⟩) n n, .int .i64 d, .int .i64 o, .slice (some ⟨or, 0, none⟩) n n, .slice (some ⟨nr, 0, none⟩) n n, .int .i64 f, .bool g] 35 (0, 0))
  krow : wr.rowIs kr 4 n (fun t => .bool (decide (t < j)))
  orow : wr.rowIs or 5 n (fun _ => .int .u8 0)
  nrow : wr.rowIs nr 4 n (fun t => .bool (decide (t < j) && ne t))
  z : wr.heap[w.heap.size]? = some (.cells zero35 35 (0, 0))
  old : Kept (fun _ => False) w wr
theorem row_of_blk {w : World} {b n : Nat} {z : Value} {t : TypeId} (h : w.heap[b]? = some (.cells (madeCells #[z] n) t (0, 0))) : w.rowIs b t n (fun _ => z) :=
  ⟨_, h, size_madeCells _ _, fun i hi => by simp [madeCells, hi, Nat.mod_one]⟩
theorem fl_start {w wc : World} {y kr or nr n : Nat} {ne : Nat → Bool} {d o f : Int} {g : Bool} (hx : wc.heap[y]? = some (.cells #[.slice (some ⟨kr, 0, none⟩) n n, .int .i64 d, .int .i64 o, .slice (some ⟨or, 0, none⟩) n n, .slice (some ⟨nr, 0, none⟩) n n, .int .i64 f, .bool g] 35 (0, 0)))
    (hk : wc.heap[kr]? = some (.cells (madeCells #[.bool false] n) 4 (0, 0))) (ho : wc.heap[or]? = some (.cells (madeCells #[.int .u8 0] n) 5 (0, 0))) (hn : wc.heap[nr]? = some (.cells (madeCells #[.bool false] n) 4 (0, 0)))
    (hz : wc.heap[w.heap.size]? = some (.cells zero35 35 (0, 0))) (hK : Kept (fun _ => False) w wc) : FL w wc y kr or nr n 0 ne d o f g :=
  ⟨hx, (row_of_blk hk).congr (fun i _ => by simp), row_of_blk ho, (row_of_blk hn).congr (fun i _ => by simp), hz, hK⟩
/-- behind the first store of a round -/
def FL1 (w w5 : World) (y kr or nr n j : Nat) (ne : Nat → Bool) (d o f : Int) (g : Bool) : Prop :=
  w5.heap[y]? = some (.cells #[.slice (some ⟨kr, 0, none⟩) n n, .int .i64 d, .int .i64 o, .slice (some ⟨or, 0, none⟩) n n, .slice (some ⟨nr, 0, none⟩) n n, .int .i64 f, .bool g] 35 (0, 0)) ∧
  w5.rowIs nr 4 n (fun t => .bool (decide (t < j) && ne t)) ∧ w5.rowIs kr 4 n (fun t => .bool (decide (t < j + 1))) ∧ w5.rowIs or 5 n (fun _ => .int .u8 0) ∧ w5.heap[w.heap.size]? = some (.cells zero35 35 (0, 0)) ∧ Kept (fun _ => False) w w5 ∧ w.heap.size ≤ nr
theorem row_ne {w : World} {b c n m : Nat} {f g : Nat → Value} {s t : TypeId} (h : w.rowIs b s n f) (k : w.rowIs c t m g) (hst : s ≠ t) : b ≠ c := by
  rintro rfl
  obtain ⟨a, ha, _⟩ := h
  obtain ⟨a', ha', _⟩ := k
  rw [ha] at ha'
  cases ha'
  exact hst rfl
theorem row_blk_ne {w : World} {b c n : Nat} {f : Nat → Value} {s t : TypeId} {cs : Array Value} (h : w.rowIs b s n f) (k : w.heap[c]? = some (.cells cs t (0, 0))) (hst : s ≠ t) : c ≠ b := by
  rintro rfl
  obtain ⟨a, ha, _⟩ := h
  rw [ha] at k
  cases k
  exact hst rfl
theorem fl_kept {w wr : World} {y kr or nr n j : Nat} {ne : Nat → Bool} {d o f : Int} {g : Bool} (_hlt : j < n) (h : FL w wr y kr or nr n j ne d o f g) (hne : kr ≠ nr) (hge1 : w.heap.size ≤ kr) (hge3 : w.heap.size ≤ nr) : FL1 w (wr.setCell ⟨kr, j, none⟩ (.bool true)) y kr or nr n j ne d o f g := by
  refine ⟨blk_other h.x (a := ⟨kr, j, none⟩) (row_blk_ne h.krow h.x (by decide)) _, h.nrow.setOther (a := ⟨kr, j, none⟩) (Ne.symm hne) _, ?_, h.orow.setOther (a := ⟨kr, j, none⟩) (row_ne h.orow h.krow (by decide)) _, blk_other h.z (a := ⟨kr, j, none⟩) (row_blk_ne h.krow h.z (by decide)) _, h.old.setCell (fun e => by simp at e; omega) _, hge3⟩
  refine (h.krow.set j (.bool true)).congr (fun i _ => ?_)
  by_cases e : i = j
  · subst e; simp
  · have : (i < j + 1) ↔ (i < j) := by omega
    simp [e, this]
theorem fl_news {w w5 : World} {y kr or nr n j : Nat} {ne : Nat → Bool} {d o f : Int} {g : Bool} (_hlt : j < n) (h : FL1 w w5 y kr or nr n j ne d o f g) (hne : kr ≠ nr) : FL w (w5.setCell ⟨nr, j, none⟩ (.bool (ne j))).drew y kr or nr n (j + 1) ne d o f g := by
  obtain ⟨h1, h2, h3, h4, h5, h6, h7⟩ := h
  refine ⟨blk_other h1 (a := ⟨nr, j, none⟩) (row_blk_ne h2 h1 (by decide)) _, h3.setOther (a := ⟨nr, j, none⟩) hne _, h4.setOther (a := ⟨nr, j, none⟩) (row_ne h4 h2 (by decide)) _, ?_, blk_other h5 (a := ⟨nr, j, none⟩) (row_blk_ne h2 h5 (by decide)) _, (h6.setCell (fun e => by simp at e; omega) _).drew⟩
  refine (h2.set j (.bool (ne j))).congr (fun i _ => ?_)
  by_cases e : i = j
  · subst e; simp
  · have : (i < j + 1) ↔ (i < j) := by omega
    simp [e, this]

theorem fl_end {w wr : World} {y kr or nr n : Nat} {ne : Nat → Bool} {d o f : Int} {g : Bool} (h : FL w wr y kr or nr n n ne d o f g) {bb : Nat} (hbb : w.heap.size = bb) (v0 v1 v2 v3 v4 v5 v6 : Value) :
    let we := (((((((wr.setCell ⟨bb, 0, none⟩ v0).setCell ⟨bb, 1, none⟩ v1).setCell ⟨bb, 2, none⟩ v2).setCell ⟨bb, 3, none⟩ v3).setCell ⟨bb, 4, none⟩ v4).setCell ⟨bb, 5, none⟩ v5).setCell ⟨bb, 6, none⟩ v6)
    we.rowIs kr 4 n (fun _ => .bool true) ∧ we.rowIs or 5 n (fun _ => .int .u8 0) ∧ we.rowIs nr 4 n (fun t => .bool (ne t)) ∧ Kept (fun _ => False) w we := by
  intro we
  subst hbb
  have hk : ∀ {F : Nat → Prop}, F w.heap.size → Kept F wr we := fun {F} hF =>
    (((((((Kept.refl F wr).setCell (p := ⟨w.heap.size, 0, none⟩) (fun _ => hF) v0).setCell (p := ⟨w.heap.size, 1, none⟩) (fun _ => hF) v1).setCell (p := ⟨w.heap.size, 2, none⟩) (fun _ => hF) v2).setCell (p := ⟨w.heap.size, 3, none⟩) (fun _ => hF) v3).setCell (p := ⟨w.heap.size, 4, none⟩) (fun _ => hF) v4).setCell (p := ⟨w.heap.size, 5, none⟩) (fun _ => hF) v5).setCell (p := ⟨w.heap.size, 6, none⟩) (fun _ => hF) v6
  have hK : Kept (fun i => i = w.heap.size) wr we := hk rfl
  refine ⟨(rowIs_kept h.krow hK (Ne.symm (row_blk_ne h.krow h.z (by decide)))).congr (fun i hi => by simp [hi]), rowIs_kept h.orow hK (Ne.symm (row_blk_ne h.orow h.z (by decide))), (rowIs_kept h.nrow hK (Ne.symm (row_blk_ne h.nrow h.z (by decide)))).congr (fun i hi => by simp [hi]), ?_⟩
  exact h.old.trans hK (fun i hi e => by omega)

set_option maxRecDepth 100000 in
set_option maxHeartbeats 4000000 in
theorem fresh_any (b off n c : Nat) (d o f : Int) (g : Bool) (fo ne : Nat → Bool) (w : World) (hs : Specs w b off n fo ne) (hn : n ≤ 65536) :
    Calls Try.prog 13 #[.slice (some ⟨b, off, none⟩) n c, .int .i64 d, .int .i64 o, .int .i64 f, .bool g] w fun e w' =>
      ∃ kr or nr : Nat, e = .returned (.agg #[.slice (some ⟨kr, 0, none⟩) n n, .int .i64 d, .int .i64 o, .slice (some ⟨or, 0, none⟩) n n, .slice (some ⟨nr, 0, none⟩) n n, .int .i64 f, .bool g]) ∧
      w'.rowIs kr 4 n (fun _ => .bool true) ∧ w'.rowIs or 5 n (fun _ => .int .u8 0) ∧ w'.rowIs nr 4 n (fun t => .bool (ne t)) ∧ kr ≠ nr ∧ w.heap.size ≤ kr ∧ w.heap.size ≤ or ∧ w.heap.size ≤ nr ∧ Kept (fun _ => False) w w' := by
  have HS := hide hs
  clear hs
  have hmk1 := run_make_row' (P := Try.prog) 32 4 (.bool false) 1 Try.underlying32 Try.info4 rfl .i64 .i64 n (by omega) (by omega)
  have hmk2 := run_make_row' (P := Try.prog) 33 5 (.int .u8 0) 1 Try.underlying33 Try.info5 rfl .i64 .i64 n (by omega) (by omega)
  go_enter Try.func13, Try.ntmps13
  go_wp2
  go_cut [12] from 14 (fun x wc => FMid w wc x n d o f g)
  case first =>
    go_region
    all_goals go_wp2_with fail
    all_goals go_meet
    all_goals go_light
    all_goals
      exact fmid_mk (by first | exact at4 _ _ _ _ _ _ | exact at3 _ _ _ _ _ _ | exact at2 _ _ _ _ _ _ | exact at1 _ _ _ _ _ _) (by first | exact at4 _ _ _ _ _ _ | exact at3 _ _ _ _ _ _ | exact at2 _ _ _ _ _ _ | exact at1 _ _ _ _ _ _) (by first | exact at4 _ _ _ _ _ _ | exact at3 _ _ _ _ _ _ | exact at2 _ _ _ _ _ _ | exact at1 _ _ _ _ _ _) (by first | exact at4 _ _ _ _ _ _ | exact at3 _ _ _ _ _ _ | exact at2 _ _ _ _ _ _ | exact at1 _ _ _ _ _ _) (by omega) (by omega) (by omega) (by omega) (by omega) (at0 _ _ _ _ _ _) (((((Kept.refl _ w).alloc _).alloc _).alloc _).alloc _ |>.alloc _ |>.drew)
  case rest =>
    obtain ⟨y, kr, or, nr, rfl, hx, hk, ho, hn4, hne, hge1, hge2, hge3, hge4, hz, hK⟩ := hcut
    have hL : FL w wc y kr or nr n 0 ne d o f g := fl_start hx hk ho hn4 hz hK
    have HL := hide hL
    clear hmk1 hmk2 hx hk ho hn4 hz hK hL
    go_wp2
    go_loopw [13] (fun i wr => ∃ j : Nat, j ≤ n ∧ i = .int .i64 j ∧ FL w wr y kr or nr n j ne d o f g) (fun i _ => n - (intOf i).toNat)
    case atStart => exact ⟨0, by omega, rfl, unhide HL⟩
    case round =>
      obtain ⟨j, hj, rfl, hl⟩ := hrel
      clear HL
      by_cases hlt : j < n
      · have x0 : wr.cell? ⟨y, 0, none⟩ = some (.slice (some ⟨kr, 0, none⟩) n n) := by rw [blk_cell hl.x]; rfl
        have k0 := hl.krow.cell hlt
        have kf := hl.krow.frozen j
        have HFL := hide hl
        have HC1 := hide (hl.old.cell ((unhide HS).2 j hlt) (fun e => e))
        clear hl
        go_upto_region 7 with fail
        have hl1 := fl_kept hlt (unhide HFL) hne hge1 hge3
        have c1 := (Kept.refl (fun x => x = kr) wr).setCell (p := ⟨kr, j, none⟩) (fun _ => rfl) (.bool true) |>.cell (unhide HC1) (by show ¬ b = kr; have := World.block_lt_of_cell? _ _ ((unhide HS).2 j hlt); simp at this; omega)
        generalize wr.setCell ⟨kr, j, none⟩ (.bool true) = w5 at *
        have x4 : w5.cell? ⟨y, 4, none⟩ = some (.slice (some ⟨nr, 0, none⟩) n n) := by rw [blk_cell hl1.1]; rfl
        have n0 := hl1.2.1.cell hlt
        have nf := hl1.2.1.frozen j
        have HL1 := hide hl1
        clear x0 k0 kf hl1 HC1 HFL
        have q1 : (0 : Int) ≤ (j : Int) := by omega
        have q2 : (j : Int) < (n : Int) := by omega
        go_region
        all_goals
          have hl2 := fl_news hlt (unhide HL1) hne
          have HL2 := hide hl2
          clear hl2
          go_wp2
          go_roundw
          case rel => exact ⟨j + 1, by omega, by go_num, unhide HL2⟩
          case measure => simp [intOf]; omega
      · have e : j = n := by omega
        subst e
        have x0 : wr.cell? ⟨y, 0, none⟩ = some (.slice (some ⟨kr, 0, none⟩) j j) := by rw [blk_cell hl.x]; rfl
        have x1 : wr.cell? ⟨y, 1, none⟩ = some (.int .i64 d) := by rw [blk_cell hl.x]; rfl
        have x2 : wr.cell? ⟨y, 2, none⟩ = some (.int .i64 o) := by rw [blk_cell hl.x]; rfl
        have x3 : wr.cell? ⟨y, 3, none⟩ = some (.slice (some ⟨or, 0, none⟩) j j) := by rw [blk_cell hl.x]; rfl
        have x4 : wr.cell? ⟨y, 4, none⟩ = some (.slice (some ⟨nr, 0, none⟩) j j) := by rw [blk_cell hl.x]; rfl
        have x5 : wr.cell? ⟨y, 5, none⟩ = some (.int .i64 f) := by rw [blk_cell hl.x]; rfl
        have x6 : wr.cell? ⟨y, 6, none⟩ = some (.bool g) := by rw [blk_cell hl.x]; rfl
        have z0 : wr.cell? ⟨w.heap.size, 0, none⟩ = some (.slice none 0 0) := by rw [blk_cell hl.z]; rfl
        have z1 : wr.cell? ⟨w.heap.size, 1, none⟩ = some (.int .i64 0) := by rw [blk_cell hl.z]; rfl
        have z2 : wr.cell? ⟨w.heap.size, 2, none⟩ = some (.int .i64 0) := by rw [blk_cell hl.z]; rfl
        have z3 : wr.cell? ⟨w.heap.size, 3, none⟩ = some (.slice none 0 0) := by rw [blk_cell hl.z]; rfl
        have z4 : wr.cell? ⟨w.heap.size, 4, none⟩ = some (.slice none 0 0) := by rw [blk_cell hl.z]; rfl
        have z5 : wr.cell? ⟨w.heap.size, 5, none⟩ = some (.int .i64 0) := by rw [blk_cell hl.z]; rfl
        have z6 : wr.cell? ⟨w.heap.size, 6, none⟩ = some (.bool false) := by rw [blk_cell hl.z]; rfl
        have f0 := blk_free hl.z 0
        have f1 := blk_free hl.z 1
        have f2 := blk_free hl.z 2
        have f3 := blk_free hl.z 3
        have f4 := blk_free hl.z 4
        have f5 := blk_free hl.z 5
        have f6 := blk_free hl.z 6
        have HFL := hide hl
        clear hl
        generalize hbb : w.heap.size = bb at *
        have HBB := hide hbb
        clear hbb
        go_wp2
        have R := fl_end (unhide HFL) (unhide HBB) (.slice (some ⟨kr, 0, none⟩) j j) (.int .i64 d) (.int .i64 o) (.slice (some ⟨or, 0, none⟩) j j) (.slice (some ⟨nr, 0, none⟩) j j) (.int .i64 f) (.bool g)
        refine bodyPost_ret (v := .agg #[.slice (some ⟨kr, 0, none⟩) j j, .int .i64 d, .int .i64 o, .slice (some ⟨or, 0, none⟩) j j, .slice (some ⟨nr, 0, none⟩) j j, .int .i64 f, .bool g]) ?_ rfl ⟨kr, or, nr, rfl, R.1, R.2.1, R.2.2.1, hne, by have := unhide HBB; omega, by have := unhide HBB; omega, by have := unhide HBB; omega, R.2.2.2⟩
        simp [results, Try.results13, go_sem, z0, z1, z2, z3, z4, z5, z6]

end Go.Proofs.Qxb6616570a
