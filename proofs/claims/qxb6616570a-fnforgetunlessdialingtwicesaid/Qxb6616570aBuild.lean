/- build. -/
import Derived.Test.Qxb6616570aMark
namespace Go.Proofs.Qxb6616570a
open Go.RowKit Go.Maps

/-- the blocks of part and entry number j -/
def pbk (B n j : Nat) : Nat := B + 6 + 2 * (n - 1 - j)
def ebk (B n j : Nat) : Nat := B + 7 + 2 * (n - 1 - j)
/-- the entry at place k, or nil behind the last -/
def npa (B n k : Nat) : Option Addr := if k < n then some ⟨ebk B n k, 0, none⟩ else none

theorem newPart_at (hb : Nat) (fo : Bool) (w : World) (Q : Nat) (h : w.heap.size = Q) :
    Calls Try.prog 30 #[pt hb, .bool fo] w fun e w' => e = .returned (pt Q) ∧ w' = w.alloc (.cells #[pt hb, .bool fo, .slice none 0 0, .chan none, .int .u32 0] 106) := by
  subst h; exact newPart_any hb fo w
theorem newEntry_at (pb : Nat) (peer : ByteArray) (rb : Nat) (nx : Option Addr) (w : World) (Q : Nat) (h : w.heap.size = Q) :
    Calls Try.prog 31 #[pt pb, .string peer, pt rb, .pointer nx] w fun e w' => e = .returned (pt Q) ∧ w' = w.alloc (.cells #[pt pb, .string peer, pt rb, .pointer nx, .bool false, .int .u8 0] 109) := by
  subst h; exact newEntry_any pb peer rb nx w

/-- the argument specs -/
def Specs (w : World) (b off n : Nat) (fo ne : Nat → Bool) : Prop :=
  (∀ j, j < n → w.cell? ⟨b, off + j * 2, none⟩ = some (.bool (fo j))) ∧ (∀ j, j < n → w.cell? ⟨b, off + j * 2 + 1, none⟩ = some (.bool (ne j)))
theorem Specs.kept {F : Nat → Prop} {w w' : World} {b off n : Nat} {fo ne : Nat → Bool} (h : Specs w b off n fo ne) (k : Kept F w w') (hn : ¬ F b) : Specs w' b off n fo ne :=
  ⟨fun j hj => k.cell (h.1 j hj) hn, fun j hj => k.cell (h.2 j hj) hn⟩

theorem Node.kept {F : Nat → Prop} {B : Nat} {w w' : World} {hb pb eb : Nat} {peer : ByteArray} {fo ne : Bool} {rv nx : Value} (h : Node B w hb pb eb peer fo ne rv nx) (k : Kept F w w') (h1 : ¬ F pb) (h2 : ¬ F eb)
    (h3 : ∀ g cur, w.heap[g]? = some (.cells cur 37 (0, 0)) → B ≤ g → ¬ F g) : Node B w' hb pb eb peer fo ne rv nx := by
  obtain ⟨nv, a, b, c⟩ := h
  refine ⟨nv, k.blk a h1, k.blk b h2, ?_⟩
  rcases c with c | ⟨c0, g, cc, cur, c1, c2, c3, c4⟩
  · exact .inl c
  · exact .inr ⟨c0, g, cc, cur, c1, c2, k.blk c3 (h3 g cur c3 c2), c4⟩
/-- .. where nothing is in the news no row is asked -/
theorem Node.kept0 {F : Nat → Prop} {B : Nat} {w w' : World} {hb pb eb : Nat} {peer : ByteArray} {fo : Bool} {rv nx : Value} (h : Node B w hb pb eb peer fo false rv nx) (k : Kept F w w') (h1 : ¬ F pb) (h2 : ¬ F eb) : Node B w' hb pb eb peer fo false rv nx := by
  obtain ⟨nv, a, b, c⟩ := h
  refine ⟨nv, k.blk a h1, k.blk b h2, ?_⟩
  rcases c with c | ⟨c0, _⟩
  · exact .inl c
  · cases c0

/-- what is there from the first on -/
structure Base (w wr : World) (B n : Nat) (f : Int) (g : Bool) : Prop where
  hist : HistBlk wr (B + 2) (B + 1)
  rec_ : RecBlk wr (B + 3) f g nil37 nil37 nil37
  map : wr.ownsMap Try.prog 9 recElem (B + 1) 0 (.map [])
  res : wr.heap[B]? = some (.cells #[nil37, nil37, .slice none 0 0, .slice none 0 0] 30 (0, 0))
  old : Kept (fun _ => False) w wr
theorem Base.kept {F : Nat → Prop} {w wr w' : World} {B n : Nat} {f : Int} {g : Bool} (h : Base w wr B n f g) (hB : w.heap.size = B) (k : Kept F wr w') (hF : ∀ i, i < B + 4 → ¬ F i) : Base w w' B n f g := by
  refine ⟨k.blk h.hist (hF _ (by omega)), k.blk h.rec_ (hF _ (by omega)), ?_, k.blk h.res (hF _ (by omega)), ?_⟩
  · have hlt := h.map.lt
    obtain ⟨es, clock, hb, rest⟩ := h.map
    exact ⟨es, clock, (k.block _ hlt (hF _ (by omega))).trans hb, rest⟩
  · exact h.old.trans k (fun i hi e => hF i (by omega) e)

/-- the state of build's first loop: the places from s on are made -/
structure Made (w wr : World) (B n s : Nat) (peer : ByteArray) (f : Int) (g : Bool) (fo : Nat → Bool) : Prop where
  base : Base w wr B n f g
  size : wr.heap.size = B + 6 + 2 * (n - s)
  prow : wr.rowIs (B + 4) 60 n (fun t => if s ≤ t then pt (pbk B n t) else nil37)
  erow : wr.rowIs (B + 5) 37 n (fun t => if s ≤ t then pt (ebk B n t) else nil37)
  node : ∀ t, s ≤ t → t < n → Node B wr (B + 2) (pbk B n t) (ebk B n t) peer (fo t) false (pt (B + 3)) (.pointer (npa B n (t + 1)))

theorem Made.step {w wr : World} {B n k : Nat} {peer : ByteArray} {f : Int} {g : Bool} {fo : Nat → Bool} (hB : w.heap.size = B) (hk : k < n) (h : Made w wr B n (k + 1) peer f g fo) :
    Made w ((((wr.alloc (.cells #[pt (B + 2), .bool (fo k), .slice none 0 0, .chan none, .int .u32 0] 106)).alloc (.cells #[pt (pbk B n k), .string peer, pt (B + 3), .pointer (npa B n (k + 1)), .bool false, .int .u8 0] 109)).setCell ⟨B + 4, k, none⟩ (pt (pbk B n k))).setCell ⟨B + 5, k, none⟩ (pt (ebk B n k))) B n k peer f g fo := by
  have hs := h.size
  have e1 : pbk B n k = wr.heap.size := by unfold pbk; omega
  have e2 : ebk B n k = wr.heap.size + 1 := by unfold ebk; omega
  generalize ho1 : Obj.cells #[pt (B + 2), .bool (fo k), .slice none 0 0, .chan none, .int .u32 0] 106 = o1
  generalize ho2 : Obj.cells #[pt (pbk B n k), .string peer, pt (B + 3), .pointer (npa B n (k + 1)), .bool false, .int .u8 0] 109 = o2
  have K : Kept (fun i => i = B + 4 ∨ i = B + 5) wr ((((wr.alloc o1).alloc o2).setCell ⟨B + 4, k, none⟩ (pt (pbk B n k))).setCell ⟨B + 5, k, none⟩ (pt (ebk B n k))) :=
    ((((Kept.refl _ wr).alloc o1).alloc o2).setCell (fun _ => .inl rfl) _).setCell (fun _ => .inr rfl) _
  have bk1 : ((((wr.alloc o1).alloc o2).setCell ⟨B + 4, k, none⟩ (pt (pbk B n k))).setCell ⟨B + 5, k, none⟩ (pt (ebk B n k))).heap[pbk B n k]? = some o1 := by
    rw [Below.heap_setCell _ _ _ _ (by show pbk B n k ≠ B + 5; omega), Below.heap_setCell _ _ _ _ (by show pbk B n k ≠ B + 4; omega), Below.heap_alloc _ _ _ (by simp; omega), e1]
    exact heap_alloc_new wr o1
  have bk2 : ((((wr.alloc o1).alloc o2).setCell ⟨B + 4, k, none⟩ (pt (pbk B n k))).setCell ⟨B + 5, k, none⟩ (pt (ebk B n k))).heap[ebk B n k]? = some o2 := by
    rw [Below.heap_setCell _ _ _ _ (by show ebk B n k ≠ B + 5; omega), Below.heap_setCell _ _ _ _ (by show ebk B n k ≠ B + 4; omega), e2]
    have := heap_alloc_new (wr.alloc o1) o2
    simpa using this
  refine ⟨h.base.kept hB K (fun i hi => by omega), ?_, ?_, ?_, ?_⟩
  · simp [World.setCell]; omega
  · have := (((h.prow.alloc o1).alloc o2).set k (pt (pbk B n k))).setOther (a := ⟨B + 5, k, none⟩) (by show B + 4 ≠ B + 5; omega) (pt (ebk B n k))
    refine this.congr (fun i _ => ?_)
    by_cases e : i = k
    · subst e; simp
    · by_cases e3 : k ≤ i
      · simp only [e, if_false]; rw [if_pos (by omega), if_pos e3]
      · simp only [e, if_false]; rw [if_neg (by omega), if_neg e3]
  · have := (((h.erow.alloc o1).alloc o2).setOther (a := ⟨B + 4, k, none⟩) (by show B + 5 ≠ B + 4; omega) (pt (pbk B n k))).set k (pt (ebk B n k))
    refine this.congr (fun i _ => ?_)
    by_cases e : i = k
    · subst e; simp
    · by_cases e3 : k ≤ i
      · simp only [e, if_false]; rw [if_pos (by omega), if_pos e3]
      · simp only [e, if_false]; rw [if_neg (by omega), if_neg e3]
  · intro t ht htn
    by_cases e : t = k
    · subst e
      refine ⟨.slice none 0 0, ?_, ?_, .inl ⟨rfl, rfl⟩⟩
      · unfold PartBlk; rw [bk1, ← ho1]; rfl
      · unfold EntBlk; rw [bk2, ← ho2]
    · exact (h.node t (by omega) htn).kept0 K (by unfold pbk; omega) (by unfold ebk; omega)

theorem newHistory_at (w : World) (Q : Nat) (h : w.heap.size = Q) :
    Calls Try.prog 28 #[] w fun e w' => e = .returned (pt (Q + 1)) ∧ w' = (w.alloc (.map #[] 0)).alloc (.cells #[.int .i32 0, .int .u32 0, .map (some Q), .int .i64 0] 98) := by
  subst h; exact newHistory_any w
theorem newRecord_at (f : Int) (g : Bool) (w : World) (Q : Nat) (h : w.heap.size = Q) :
    Calls Try.prog 29 #[.int .i64 f, .bool g] w fun e w' => e = .returned (pt Q) ∧ w' = w.alloc (.cells #[.int .i64 f, .int .u64 0, .int .i64 0, .pointer none, .bool g, .pointer none, .pointer none, .pointer none] 86) := by
  subst h; exact newRecord_any f g w

theorem Try.info60 : (Try.prog.info? 60).map (fun i => (i.zero, i.size, i.bytes)) = some (some (.pointer none), 1, 8) := by kernel_rfl

/-- the world ahead of the first loop -/
def start (w : World) (n : Nat) (f : Int) (g : Bool) : World :=
  (((((w.alloc (.cells #[nil37, nil37, .slice none 0 0, .slice none 0 0] 30)).alloc (.map #[] 0)).alloc (.cells #[.int .i32 0, .int .u32 0, .map (some (w.heap.size + 1)), .int .i64 0] 98)).alloc
    (.cells #[.int .i64 f, .int .u64 0, .int .i64 0, .pointer none, .bool g, .pointer none, .pointer none, .pointer none] 86)).alloc (.cells (madeCells #[nil37] n) 60)).alloc (.cells (madeCells #[nil37] n) 37)
theorem Made.start {w : World} {B n : Nat} {peer : ByteArray} {f : Int} {g : Bool} {fo : Nat → Bool} (hB : w.heap.size = B) : Made w (start w n f g) B n n peer f g fo := by
  subst hB
  unfold Qxb6616570a.start
  generalize h1 : w.alloc (.cells #[nil37, nil37, .slice none 0 0, .slice none 0 0] 30) = w1
  have s1 : w1.heap.size = w.heap.size + 1 := by rw [← h1]; simp
  generalize h2 : w1.alloc (.map #[] 0) = w2
  have s2 : w2.heap.size = w.heap.size + 2 := by rw [← h2]; simp; omega
  generalize h3 : w2.alloc (.cells #[.int .i32 0, .int .u32 0, .map (some (w.heap.size + 1)), .int .i64 0] 98) = w3
  have s3 : w3.heap.size = w.heap.size + 3 := by rw [← h3]; simp; omega
  generalize h4 : w3.alloc (.cells #[.int .i64 f, .int .u64 0, .int .i64 0, .pointer none, .bool g, .pointer none, .pointer none, .pointer none] 86) = w4
  have s4 : w4.heap.size = w.heap.size + 4 := by rw [← h4]; simp; omega
  have b1 : w1.heap[w.heap.size]? = some (.cells #[nil37, nil37, .slice none 0 0, .slice none 0 0] 30 (0, 0)) := by rw [← h1]; exact heap_alloc_new w _
  have b2 : w2.ownsMap Try.prog 9 recElem (w.heap.size + 1) 0 (.map []) := by rw [← h2, ← s1]; exact World.ownsMap_made w1 _ _ _
  have b3 : HistBlk w3 (w.heap.size + 2) (w.heap.size + 1) := by unfold HistBlk; rw [← h3, ← s2]; exact heap_alloc_new w2 _
  have b4 : RecBlk w4 (w.heap.size + 3) f g nil37 nil37 nil37 := by unfold RecBlk; rw [← h4, ← s3]; exact heap_alloc_new w3 _
  have k1 : Kept (fun _ => False) w w1 := by rw [← h1]; exact (Kept.refl _ _).alloc _
  have k2 : Kept (fun _ => False) w1 w2 := by rw [← h2]; exact (Kept.refl _ _).alloc _
  have k3 : Kept (fun _ => False) w2 w3 := by rw [← h3]; exact (Kept.refl _ _).alloc _
  have k4 : Kept (fun _ => False) w3 w4 := by rw [← h4]; exact (Kept.refl _ _).alloc _
  have p5 := World.rowIs_made w4 nil37 n 60
  have k5 : Kept (fun _ => False) w4 ((w4.alloc (.cells (madeCells #[nil37] n) 60)).alloc (.cells (madeCells #[nil37] n) 37)) := ((Kept.refl _ _).alloc _).alloc _
  have p6 := World.rowIs_made (w4.alloc (.cells (madeCells #[nil37] n) 60)) nil37 n 37
  have k24 : Kept (fun _ => False) w2 ((w4.alloc (.cells (madeCells #[nil37] n) 60)).alloc (.cells (madeCells #[nil37] n) 37)) := (k3.trans k4 (fun _ _ e => e)).trans k5 (fun _ _ e => e)
  refine ⟨⟨?_, ?_, ?_, ?_, ?_⟩, ?_, ?_, ?_, ?_⟩
  · exact k5.blk (k4.blk b3 (fun e => e)) (fun e => e)
  · exact k5.blk b4 (fun e => e)
  · have hlt := b2.lt
    obtain ⟨es, clock, hb, rest⟩ := b2
    exact ⟨es, clock, (k24.block _ hlt (fun e => e)).trans hb, rest⟩
  · exact k24.blk (k2.blk b1 (fun e => e)) (fun e => e)
  · exact ((k1.trans k2 (fun _ _ e => e)).trans k24 (fun _ _ e => e))
  · simp; omega
  · rw [s4] at p5
    refine (p5.alloc _).congr (fun i hi => ?_)
    rw [if_neg (by omega)]
  · have s5 : (w4.alloc (.cells (madeCells #[nil37] n) 60)).heap.size = w.heap.size + 5 := by simp; omega
    rw [s5] at p6
    refine p6.congr (fun i hi => ?_)
    rw [if_neg (by omega)]
  · intro t ht htn; omega

/-! ### the state of a history -/
def hdOf (gone : Nat) : Nat := if gone = 0 then 1 else 0
def nxOf (B n gone t : Nat) : Option Addr := if t = gone then none else npa B n (if t + 1 = gone then t + 2 else t + 1)
def rvOf (B gone t : Nat) : Option Addr := if t = gone then none else some ⟨B + 3, 0, none⟩
theorem nxOf_all (B n t : Nat) (h : t < n) : nxOf B n n t = npa B n (t + 1) := by
  unfold nxOf
  rw [if_neg (by omega)]
  by_cases e : t + 1 = n
  · rw [if_pos e]; unfold npa; rw [if_neg (by omega), if_neg (by omega)]
  · rw [if_neg e]
theorem rvOf_all (B n t : Nat) (h : t < n) : rvOf B n t = some ⟨B + 3, 0, none⟩ := by unfold rvOf; rw [if_neg (by omega)]

structure St (w : World) (B n : Nat) (peer : ByteArray) (f : Int) (g : Bool) (dl ofr : Option Addr) (fo ne : Nat → Bool) (gone : Nat) : Prop where
  hist : HistBlk w (B + 2) (B + 1)
  rec_ : RecBlk w (B + 3) f g (.pointer dl) (.pointer ofr) (.pointer (npa B n (hdOf gone)))
  prow : w.rowIs (B + 4) 60 n (fun t => pt (pbk B n t))
  erow : w.rowIs (B + 5) 37 n (fun t => pt (ebk B n t))
  node : ∀ t, t < n → Node B w (B + 2) (pbk B n t) (ebk B n t) peer (fo t) (ne t) (.pointer (rvOf B gone t)) (.pointer (nxOf B n gone t))

/-- the state of build's second loop: the marks of the places below k are made -/
structure Marked (w wr : World) (B n k : Nat) (peer : ByteArray) (f : Int) (g : Bool) (fo ne : Nat → Bool) : Prop where
  st : St wr B n peer f g none none fo (fun t => decide (t < k) && ne t) n
  map : wr.ownsMap Try.prog 9 recElem (B + 1) 0 (.map [])
  res : wr.heap[B]? = some (.cells #[nil37, nil37, .slice none 0 0, .slice none 0 0] 30 (0, 0))
  old : Kept (fun _ => False) w wr

theorem Marked.start {w wr : World} {B n : Nat} {peer : ByteArray} {f : Int} {g : Bool} {fo ne : Nat → Bool} (hB : w.heap.size = B) (hn : 0 < n) (h : Made w wr B n 0 peer f g fo) :
    Marked w (wr.setCell ⟨B + 3, 7, none⟩ (.pointer (npa B n 0))) B n 0 peer f g fo ne := by
  have K : Kept (fun i => i = B + 3) wr (wr.setCell ⟨B + 3, 7, none⟩ (.pointer (npa B n 0))) := (Kept.refl (fun i => i = B + 3) wr).setCell (p := ⟨B + 3, 7, none⟩) (fun _ => rfl) _
  refine ⟨⟨K.blk h.base.hist (by omega), ?_, ?_, ?_, ?_⟩, ?_, K.blk h.base.res (by omega), h.base.old.trans K (fun i hi e => by omega)⟩
  · have := blk_set h.base.rec_ 7 (.pointer (npa B n 0))
    have e : hdOf n = 0 := by unfold hdOf; rw [if_neg (by omega)]
    unfold RecBlk
    rw [this, e]
    rfl
  · refine (h.prow.setOther (a := ⟨B + 3, 7, none⟩) (by show B + 4 ≠ B + 3; omega) _).congr (fun i _ => ?_)
    rw [if_pos (Nat.zero_le _)]
  · refine (h.erow.setOther (a := ⟨B + 3, 7, none⟩) (by show B + 5 ≠ B + 3; omega) _).congr (fun i _ => ?_)
    rw [if_pos (Nat.zero_le _)]
  · intro t ht
    rw [nxOf_all B n t ht, rvOf_all B n t ht]
    have := (h.node t (Nat.zero_le _) ht).kept0 K (by unfold pbk; omega) (by unfold ebk; omega)
    simpa using this
  · exact h.base.map.setCell (by show B + 1 ≠ B + 3; omega) _

theorem St.keptMap {w w' : World} {mb n : Nat} {D : DataW Unit} (h : w.ownsMap Try.prog 9 recElem mb n D) {F : Nat → Prop} (k : Kept F w w') (hF : ¬ F mb) : w'.ownsMap Try.prog 9 recElem mb n D := by
  have hlt := h.lt
  obtain ⟨es, clock, hb, rest⟩ := h
  exact ⟨es, clock, (k.block _ hlt hF).trans hb, rest⟩

theorem rowIs_kept {F : Nat → Prop} {w w' : World} {b n : Nat} {t : TypeId} {fn : Nat → Value} (h : w.rowIs b t n fn) (k : Kept F w w') (hF : ¬ F b) : w'.rowIs b t n fn :=
  h.of_block (k.block _ h.lt hF)

theorem Marked.skip {w wr : World} {B n k : Nat} {peer : ByteArray} {f : Int} {g : Bool} {fo ne : Nat → Bool} (h : Marked w wr B n k peer f g fo ne) (hk : ne k = false) : Marked w wr B n (k + 1) peer f g fo ne := by
  refine ⟨⟨h.st.hist, h.st.rec_, h.st.prow, h.st.erow, fun t ht => ?_⟩, h.map, h.res, h.old⟩
  have := h.st.node t ht
  have e : (decide (t < k + 1) && ne t) = (decide (t < k) && ne t) := by
    by_cases e1 : t = k
    · subst e1; simp [hk]
    · have : (t < k + 1) ↔ (t < k) := by omega
      simp [this]
  simp only [e]
  exact this

theorem Marked.mark {w wr w' : World} {B n k : Nat} {peer : ByteArray} {f : Int} {g : Bool} {fo ne : Nat → Bool} (hB : w.heap.size = B) (hkn : k < n) (h : Marked w wr B n k peer f g fo ne) (hk : ne k = true)
    (hN : Node B w' (B + 2) (pbk B n k) (ebk B n k) peer (fo k) true (.pointer (rvOf B n k)) (.pointer (nxOf B n n k))) (K : Kept (fun i => i = pbk B n k ∨ i = ebk B n k) wr w') : Marked w w' B n (k + 1) peer f g fo ne := by
  have far : ∀ i, i < B + 6 → ¬ (i = pbk B n k ∨ i = ebk B n k) := by intro i hi; unfold pbk ebk; omega
  refine ⟨⟨K.blk h.st.hist (far _ (by omega)), K.blk h.st.rec_ (far _ (by omega)), rowIs_kept h.st.prow K (far _ (by omega)), rowIs_kept h.st.erow K (far _ (by omega)), fun t ht => ?_⟩, St.keptMap h.map K (far _ (by omega)), K.blk h.res (far _ (by omega)), h.old.trans K (fun i hi e => absurd e (far i (by omega)))⟩
  by_cases e1 : t = k
  · subst e1
    have e : (decide (t < t + 1) && ne t) = true := by simp [hk]
    simp only [e]
    exact hN
  · have e : (decide (t < k + 1) && ne t) = (decide (t < k) && ne t) := by
      have : (t < k + 1) ↔ (t < k) := by omega
      simp [this]
    simp only [e]
    refine (h.st.node t ht).kept K (by unfold pbk ebk; omega) (by unfold pbk ebk; omega) (fun g' cur hg _ => ?_)
    obtain ⟨nv, a, b, _⟩ := h.st.node k hkn
    rintro (rfl | rfl)
    · unfold PartBlk at a; rw [a] at hg; cases hg
    · unfold EntBlk at b; rw [b] at hg; cases hg

end Go.Proofs.Qxb6616570a
