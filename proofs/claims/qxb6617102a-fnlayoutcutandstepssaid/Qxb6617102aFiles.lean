/- The files in memory; mkFiles, mkInfo, NumFiles. -/
import Derived.Test.Qxb6617102aSizes
import Derived.Deep.OwnRows
import Derived.Laws.MakeOwn
import Derived.BigRegion
import Derived.Lib.SliceRun
namespace Go.Proofs.Qxb6617102a
open Go.RowKit

/-- one file: path, length, padding, executable -/
abbrev FileV : Type := ByteArray × Int × Bool × Bool
def cellOf (x : FileV) (r : Nat) : Value := if r = 0 then .string x.1 else if r = 1 then .int .i64 x.2.1 else if r = 2 then .bool x.2.2.1 else .bool x.2.2.2
abbrev zf : Array Value := #[.string ByteArray.empty, .int .i64 0, .bool false, .bool false]
abbrev file0 : FileV := (ByteArray.empty, 0, false, false)
/-- n files lie in block b -/
def Fl (w : World) (b n : Nat) (F : Nat → FileV) : Prop := w.rowIs b 33 (n * 4) (fun i => cellOf (F (i / 4)) (i % 4))

section
variable {w : World} {b n : Nat} {F : Nat → FileV}
theorem Fl.at (h : Fl w b n F) {j r : Nat} (hj : j < n) (hr : r < 4) : w.cell? ⟨b, j * 4 + r, none⟩ = some (cellOf (F j) r) := by
  have h1 := World.rowIs.cell h (i := j * 4 + r) (by omega)
  rwa [show (j * 4 + r) / 4 = j by omega, show (j * 4 + r) % 4 = r by omega] at h1
theorem Fl.c0 (h : Fl w b n F) {j : Nat} (hj : j < n) : w.cell? ⟨b, j * 4, none⟩ = some (.string (F j).1) := h.at (r := 0) hj (by omega)
theorem Fl.c1 (h : Fl w b n F) {j : Nat} (hj : j < n) : w.cell? ⟨b, j * 4 + 1, none⟩ = some (.int .i64 (F j).2.1) := h.at (r := 1) hj (by omega)
theorem Fl.c2 (h : Fl w b n F) {j : Nat} (hj : j < n) : w.cell? ⟨b, j * 4 + 2, none⟩ = some (.bool (F j).2.2.1) := h.at (r := 2) hj (by omega)
theorem Fl.c3 (h : Fl w b n F) {j : Nat} (hj : j < n) : w.cell? ⟨b, j * 4 + 3, none⟩ = some (.bool (F j).2.2.2) := h.at (r := 3) hj (by omega)
theorem Fl.free (h : Fl w b n F) (i : Nat) : w.frozen? ⟨b, i, none⟩ = false := World.rowIs.frozen h i
theorem Fl.kept {G : Nat → Prop} {w' : World} (h : Fl w b n F) (k : Kept G w w') (hn : ¬ G b) : Fl w' b n F := World.rowIs.of_block h (k.block b (World.rowIs.lt h) hn)
theorem Fl.congr {F' : Nat → FileV} (h : Fl w b n F) (e : ∀ j, j < n → F j = F' j) : Fl w b n F' := World.rowIs.congr h (fun i hi => by rw [e (i / 4) (by omega)])
/-- the four stores -/
def put4 (w : World) (b j : Nat) (x : FileV) : World := (((w.setCell ⟨b, j * 4, none⟩ (.string x.1)).setCell ⟨b, j * 4 + 1, none⟩ (.int .i64 x.2.1)).setCell ⟨b, j * 4 + 2, none⟩ (.bool x.2.2.1)).setCell ⟨b, j * 4 + 3, none⟩ (.bool x.2.2.2)
theorem Fl.put (h : Fl w b n F) (j : Nat) (x : FileV) : Fl (put4 w b j x) b n (fun t => if t = j then x else F t) := by
  refine World.rowIs.congr ((((World.rowIs.set h (j * 4) (.string x.1)).set (j * 4 + 1) (.int .i64 x.2.1)).set (j * 4 + 2) (.bool x.2.2.1)).set (j * 4 + 3) (.bool x.2.2.2)) (fun i _ => ?_)
  have hr : i % 4 = 0 ∨ i % 4 = 1 ∨ i % 4 = 2 ∨ i % 4 = 3 := by omega
  by_cases e : i / 4 = j
  · rcases hr with r | r | r | r
    · have : i = j * 4 := by omega
      subst this
      simp [cellOf, show j * 4 / 4 = j by omega, show j * 4 % 4 = 0 by omega]
    · have : i = j * 4 + 1 := by omega
      subst this
      simp [cellOf, show (j * 4 + 1) / 4 = j by omega, show (j * 4 + 1) % 4 = 1 by omega]
    · have : i = j * 4 + 2 := by omega
      subst this
      simp [cellOf, show (j * 4 + 2) / 4 = j by omega, show (j * 4 + 2) % 4 = 2 by omega]
    · have : i = j * 4 + 3 := by omega
      subst this
      simp [cellOf, show (j * 4 + 3) / 4 = j by omega, show (j * 4 + 3) % 4 = 3 by omega]
  · rw [if_neg (by omega), if_neg (by omega), if_neg (by omega), if_neg (by omega)]
    simp [e]
theorem put4_kept {G : Nat → Prop} {w0 : World} (k : Kept G w0 w) (j : Nat) (x : FileV) (hb : b < w0.heap.size → G b) : Kept G w0 (put4 w b j x) :=
  (((k.setCell (p := ⟨b, j * 4, none⟩) hb _).setCell (p := ⟨b, j * 4 + 1, none⟩) hb _).setCell (p := ⟨b, j * 4 + 2, none⟩) hb _).setCell (p := ⟨b, j * 4 + 3, none⟩) hb _
end

theorem Try.info33 : (Try.prog.info? 33).map (fun i => (i.zero, i.size, i.bytes)) = some (some (.agg zf), 4, 32) := by kernel_rfl
theorem make_run (w : World) (n : Nat) (hn : n ≤ 1048577) : (Instr.makeSlice 31 (.int .i64 (n : Int)) (.int .i64 (n : Int))).run Try.prog w = .ok (.slice (some ⟨w.heap.size, 0, none⟩) n n) (w.alloc (.cells (madeCells zf (n * 4)) 33)) := by
  obtain ⟨i, hi, hzz⟩ := Option.map_eq_some_iff.1 Try.info33
  simp only [Prod.mk.injEq] at hzz
  obtain ⟨hz, hs, hb⟩ := hzz
  have h := run_make (P := Try.prog) w 31 33 i (.agg zf) Try.underlying31 hi hz .i64 .i64 (n : Int) (n : Int) (by omega) (by omega) (by rw [hb]; omega) (by omega)
  rw [hs] at h
  simpa [Value.cells] using h
theorem made_fl (w : World) (n : Nat) : Fl (w.alloc (.cells (madeCells zf (n * 4)) 33)) w.heap.size n (fun _ => file0) := by
  refine ⟨_, heap_alloc_new _ _, size_madeCells _ _, fun i hi => ?_⟩
  have hr : i % 4 = 0 ∨ i % 4 = 1 ∨ i % 4 = 2 ∨ i % 4 = 3 := by omega
  rcases hr with r | r | r | r <;> simp [madeCells, hi, r, cellOf]

/-- values of one cell lie in the slice -/
def Sl (w : World) (a : Option Addr) (n : Nat) (f : Nat → Value) : Prop := n = 0 ∨ ∃ b off, a = some ⟨b, off, none⟩ ∧ ∀ j, j < n → w.cell? ⟨b, off + j, none⟩ = some (f j)
theorem Sl.kept {w w' : World} {a : Option Addr} {n : Nat} {f : Nat → Value} (h : Sl w a n f) (k : Kept (fun _ => False) w w') : Sl w' a n f := by
  rcases h with h | ⟨b, off, e, hc⟩
  · exact .inl h
  · exact .inr ⟨b, off, e, fun j hj => k.cell (hc j hj) (fun e => e)⟩
theorem Sl.at {w : World} {a : Option Addr} {n : Nat} {f : Nat → Value} (h : Sl w a n f) (hn : 0 < n) : ∃ b off, a = some ⟨b, off, none⟩ ∧ ∀ j, j < n → w.cell? ⟨b, off + j, none⟩ = some (f j) := by
  rcases h with h | h
  · omega
  · exact h

theorem fl_step {w : World} {b n t : Nat} {x : FileV} {F : Nat → FileV} (h : Fl w b n (fun u => if u = t then x else if u < t then F u else file0)) (hx : F t = x) : Fl w.drew b n (fun u => if u < t + 1 then F u else file0) := by
  have h' : Fl w b n (fun u => if u < t + 1 then F u else file0) := by
    refine Fl.congr h (fun u _ => ?_)
    by_cases e : u = t
    · subst e
      simp [hx]
    · have : (u < t + 1) ↔ (u < t) := by omega
      simp [e, this]
  exact h'

set_option maxRecDepth 100000 in
set_option maxHeartbeats 4000000 in
theorem mkFiles_any (a0 : Option Addr) (c0 : Nat) (A : Nat → ByteArray) (a1 : Option Addr) (c1 : Nat) (L : Nat → Int) (a2 : Option Addr) (c2 : Nat) (D : Nat → Bool) (a3 : Option Addr) (c3 : Nat) (E : Nat → Bool) (n lo m : Nat) (w : World)
    (h0 : Row w a0 n A) (h1 : Sl w a1 n (fun j => .int .i64 (L j))) (h2 : Sl w a2 n (fun j => .bool (D j))) (h3 : Sl w a3 n (fun j => .bool (E j))) (hm : lo + m ≤ n) (hn : n ≤ 1048576) :
    Calls Try.prog 13 #[.slice a0 n c0, .slice a1 n c1, .slice a2 n c2, .slice a3 n c3, .int .i64 lo, .int .i64 ((lo + m : Nat) : Int)] w fun e w' =>
      e = .returned (.slice (some ⟨w.heap.size, 0, none⟩) m m) ∧ Fl w' w.heap.size m (fun t => (A (lo + t), L (lo + t), D (lo + t), E (lo + t))) ∧ Kept (fun _ => False) w w' := by
  have H0 := hide h0
  have H1 := hide h1
  have H2 := hide h2
  have H3 := hide h3
  clear h0 h1 h2 h3
  have hmk := make_run w m (by omega)
  have hsub : ((lo + m : Nat) : Int) - (lo : Int) = (m : Int) := by omega
  generalize hhi : lo + m = hi at *
  go_enter Try.func13, Try.ntmps13
  go_wp2
  have hk0 := (Kept.refl (fun _ => False) w).alloc (.cells (madeCells zf (m * 4)) 33)
  have hf0 := made_fl w m
  have HK0 := hide hk0
  have HF0 := hide hf0
  clear hk0 hf0 hmk
  generalize (w.alloc (.cells (madeCells zf (m * 4)) 33)) = w1 at *
  generalize hB : w.heap.size = B at *
  have HB := hide hB
  clear hB
  go_loopw [14] (fun i wr => ∃ t : Nat, t ≤ m ∧ i = .int .i64 ((lo + t : Nat) : Int) ∧ Fl wr B m (fun u => if u < t then (A (lo + u), L (lo + u), D (lo + u), E (lo + u)) else file0) ∧ Kept (fun _ => False) w wr) (fun i _ => m - ((intOf i).toNat - lo))
  case atStart => exact ⟨0, by omega, by simp, by simpa using unhide HF0, unhide HK0⟩
  case round =>
    obtain ⟨t, ht, rfl, hfl, hk⟩ := hrel
    have HK := hide hk
    have HFL := hide hfl
    have H0r := hide ((unhide H0).kept hk)
    have H1r := hide ((unhide H1).kept hk)
    have H2r := hide ((unhide H2).kept hk)
    have H3r := hide ((unhide H3).kept hk)
    clear hk hfl HF0 HK0
    by_cases hlt : t < m
    · obtain ⟨b0, o0, rfl, g0⟩ := (unhide H0r).at (by omega)
      obtain ⟨b1, o1, rfl, g1⟩ := (unhide H1r).at (by omega)
      obtain ⟨b2, o2, rfl, g2⟩ := (unhide H2r).at (by omega)
      obtain ⟨b3, o3, rfl, g3⟩ := (unhide H3r).at (by omega)
      have x0 := g0 (lo + t) (by omega)
      have x1 := g1 (lo + t) (by omega)
      have x2 := g2 (lo + t) (by omega)
      have x3 := g3 (lo + t) (by omega)
      have y0 := (unhide HFL).c0 hlt
      have y1 := (unhide HFL).c1 hlt
      have y2 := (unhide HFL).c2 hlt
      have y3 := (unhide HFL).c3 hlt
      have z0 := (unhide HFL).free (t * 4)
      have z1 := (unhide HFL).free (t * 4 + 1)
      have z2 := (unhide HFL).free (t * 4 + 2)
      have z3 := (unhide HFL).free (t * 4 + 3)
      clear g0 g1 g2 g3
      have hsub2 : ((lo + t : Nat) : Int) - (lo : Int) = (t : Int) := by omega
      have hput := (unhide HFL).put t (A (lo + t), L (lo + t), D (lo + t), E (lo + t))
      have HPUT := hide hput
      have HKP := hide (put4_kept (b := B) (unhide HK) t (A (lo + t), L (lo + t), D (lo + t), E (lo + t)) (fun e => by have := unhide HB; omega))
      clear hput
      generalize hpa : A (lo + t) = pa at *
      generalize hle : L (lo + t) = le at *
      generalize hpd : D (lo + t) = pd at *
      generalize hex : E (lo + t) = ex at *
      have HPA := hide hpa
      have HLE := hide hle
      have HPD := hide hpd
      have HEX := hide hex
      clear hpa hle hpd hex
      generalize hjj : lo + t = jj at *
      have q1 : jj < n := by omega
      have q2 : jj < hi := by omega
      go_wp2
      go_region
      go_wp2
      go_roundw
      case rel => exact ⟨t + 1, by omega, by subst hjj; go_num, fl_step (unhide HPUT) (by subst hjj; rw [unhide HPA, unhide HLE, unhide HPD, unhide HEX]), (unhide HKP).drew⟩
      case measure => simp [intOf]; omega
    · have e : t = m := by omega
      subst e
      have hb := unhide HB
      subst hb
      go_wp2
      go_ret
      exact ⟨rfl, Fl.congr (unhide HFL) (fun u hu => by simp [hu]), unhide HK⟩

theorem eql31 (a : Option Addr) (n c : Nat) (w : World) : (binOp .eql 31 (.slice a n c) (.slice none 0 0)).run Try.prog w = .ok (.bool a.isNone) w := Lib.run_eql_slice_nil w 31 33 a n c 0 0 Try.underlying31
theorem eql24 (a : Option Addr) (n c : Nat) (w : World) : (binOp .eql 24 (.slice a n c) (.slice none 0 0)).run Try.prog w = .ok (.bool a.isNone) w := Lib.run_eql_slice_nil w 24 2 a n c 0 0 Try.underlying24

/-- a variable of the type Info -/
theorem mkInfo_any (name : ByteArray) (pl : Int) (ap : Option Addr) (np cp : Nat) (ln : Int) (af : Option Addr) (nf cf : Nat) (ex : Bool) (w : World) :
    Calls Try.prog 11 #[.string name, .int .i64 pl, .slice ap np cp, .int .i64 ln, .slice af nf cf, .bool ex] w fun e w' =>
      e = .returned (.pointer (some ⟨w.heap.size, 0, none⟩)) ∧ w' = w.alloc (.cells #[.string name, .int .i64 pl, .slice ap np cp, .int .i64 ln, .slice af nf cf, .bool ex] 44) := by
  go_enter Try.func11, Try.ntmps11
  go_wp2
  go_ret
  exact ⟨rfl, rfl⟩

def cnt (F : Nat → FileV) (n : Nat) : Nat := (List.range n).countP (fun j => !(F j).2.2.1)
theorem cnt_succ (F : Nat → FileV) (n : Nat) : cnt F (n + 1) = cnt F n + (if (F n).2.2.1 then 0 else 1) := by
  unfold cnt
  rw [List.range_succ, List.countP_append]
  cases hb : (F n).2.2.1 <;> simp [hb]
theorem cnt_le (F : Nat → FileV) (n : Nat) : cnt F n ≤ n := by
  have := List.countP_le_length (p := fun j => !(F j).2.2.1) (l := List.range n)
  simpa [cnt] using this

theorem num_nil (ib : Nat) (w : World) (hc : w.cell? ⟨ib, 4, none⟩ = some (.slice none 0 0)) :
    Calls Try.prog 15 #[.pointer (some ⟨ib, 0, none⟩)] w fun e w' => e = .returned (.int .i64 1) ∧ w' = w := by
  have q31 := eql31 none 0 0
  go_enter Try.func15, Try.ntmps15
  go_wp2
  go_ret
  exact ⟨rfl, rfl⟩

set_option maxRecDepth 100000 in
set_option maxHeartbeats 4000000 in
theorem num_any (ib b n : Nat) (F : Nat → FileV) (w : World) (hc : w.cell? ⟨ib, 4, none⟩ = some (.slice (some ⟨b, 0, none⟩) n n)) (hf : Fl w b n F) (hn : n ≤ 1048577) :
    Calls Try.prog 15 #[.pointer (some ⟨ib, 0, none⟩)] w fun e w' => e = .returned (.int .i64 (cnt F n)) ∧ Kept (fun _ => False) w w' := by
  have HF := hide hf
  clear hf
  have q31 := eql31 (some ⟨b, 0, none⟩) n n
  go_enter Try.func15, Try.ntmps15
  go_wp2
  go_loopw [3, 16, 5] (fun s i _ wr => ∃ t : Nat, t ≤ n ∧ i = .int .i64 t ∧ s = .int .i64 (cnt F t) ∧ Kept (fun _ => False) w wr) (fun _ i _ _ => n - (intOf i).toNat)
  case atStart => exact ⟨0, by omega, rfl, rfl, Kept.refl _ w⟩
  case round =>
    obtain ⟨t, ht, rfl, rfl, hk⟩ := hrel
    have HFr := hide ((unhide HF).kept hk (fun e => e))
    have HK := hide hk
    clear hk hc
    by_cases hlt : t < n
    · have x0 := (unhide HFr).c0 hlt
      have x1 := (unhide HFr).c1 hlt
      have x2 := (unhide HFr).c2 hlt
      have x3 := (unhide HFr).c3 hlt
      have hle := cnt_le F t
      have hsu := cnt_succ F t
      generalize hF : F t = f at *
      have HS := hide hsu
      clear hF hsu
      obtain ⟨f0, f1, f2, f3⟩ := f
      generalize cnt F t = ct at *
      cases f2 with
      | true =>
        go_wp2
        go_roundw
        case rel => exact ⟨t + 1, by omega, by go_num, by rw [unhide HS]; simp, (unhide HK).alloc _⟩
        case measure => simp [intOf]; omega
      | false =>
        go_wp2
        go_roundw
        case rel => exact ⟨t + 1, by omega, by go_num, by rw [unhide HS]; simp, (unhide HK).alloc _⟩
        case measure => simp [intOf]; omega
    · have e : t = n := by omega
      subst e
      go_wp2
      go_ret
      exact ⟨rfl, unhide HK⟩

end Go.Proofs.Qxb6617102a
