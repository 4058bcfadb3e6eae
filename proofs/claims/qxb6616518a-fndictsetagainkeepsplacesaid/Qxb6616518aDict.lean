/- A Dict in memory: a box of two cells (the keys' slice, the map), the keys' row, the map. -/
import Derived.Test.Qxb6616518aSizes
namespace Go.Proofs.Qxb6616518a
open Go.RowKit Go.Maps
open Pl (fk lv hk hist)

theorem Try.info9 : (Try.prog.info? 9).map (fun i => (i.zero, i.size, i.bytes)) = some (some (.string ByteArray.empty), 1, 16) := by kernel_rfl
theorem law9 : Keyed Try.prog 9 := string_keyed Try.underlying9
theorem zero20 (w : World) : (zeroValue 20).run Try.prog w = .ok .nilIface w := by kernel_rfl

/-- how an element of the map reads: an int in an interface, or none -/
def anyElem : Value → Option (DataW Unit × List MemPlace)
  | .iface 3 (.int .i64 x) => some (.lit (.int .i64 x), [])
  | .nilIface => some (.nil, [])
  | _ => none
def dOf : Option Int → DataW Unit
  | some x => .lit (.int .i64 x)
  | none => .nil
def vOf : Option Int → Value
  | some x => .iface 3 (.int .i64 x)
  | none => .nilIface
theorem anyElem_inv {v : Value} {o : Option Int} {ps : List MemPlace} (h : anyElem v = some (dOf o, ps)) : v = vOf o := by
  unfold anyElem at h
  split at h
  · cases o with
    | none => simp [dOf] at h
    | some x => simp [dOf] at h; simp [vOf, h]
  · cases o with
    | none => rfl
    | some x => simp [dOf] at h
  · cases h

/-- block mb is a map that holds what the calls L have set -/
def MapIs (w : World) (mb : Nat) (L : List (ByteArray × Int)) : Prop :=
  ∃ D : DataW Unit, w.ownsMap Try.prog 9 anyElem mb L.length D ∧
    ∀ k : ByteArray, Maps.has D (.string k.data.toList) = hk L k ∧ D.atKey (.string k.data.toList) .nil = dOf (lv L k)

theorem keyne {a b : ByteArray} (h : a ≠ b) : Lit.string a.data.toList ≠ Lit.string b.data.toList := fun e => h (Go.WideShapes.bytes_inj (by simpa using e))

theorem MapIs.made (w : World) : MapIs (w.alloc (.map #[] 0)) w.heap.size [] :=
  ⟨.map [], World.ownsMap_made w _ _ _, fun _ => ⟨rfl, rfl⟩⟩

theorem MapIs.kept {F : Nat → Prop} {w w' : World} {mb : Nat} {L : List (ByteArray × Int)} (h : MapIs w mb L) (k : Kept F w w') (hn : ¬ F mb) : MapIs w' mb L := by
  obtain ⟨D, ho, r⟩ := h
  have hlt := ho.lt
  obtain ⟨es, clock, hb, rest⟩ := ho
  exact ⟨D, ⟨es, clock, (k.block mb hlt hn).trans hb, rest⟩, r⟩

theorem MapIs.put {D : DataW Unit} {L : List (ByteArray × Int)} (hm : Maps.IsMap D) (s : ByteArray) (x : Int) (h : ∀ k : ByteArray, Maps.has D (.string k.data.toList) = hk L k ∧ D.atKey (.string k.data.toList) .nil = dOf (lv L k)) :
    ∀ k : ByteArray, Maps.has (D.put (.string s.data.toList) (.lit (.int .i64 x))) (.string k.data.toList) = hk (L ++ [(s, x)]) k ∧ (D.put (.string s.data.toList) (.lit (.int .i64 x))).atKey (.string k.data.toList) .nil = dOf (lv (L ++ [(s, x)]) k) := by
  intro k
  rw [Pl.hk_snoc, Pl.lv_snoc]
  by_cases e : s = k
  · subst e
    simp only [decide_true, Bool.true_or, if_true]
    exact ⟨has_put_same hm (k := .string s.data.toList) True.intro _, atKey_put_same hm (k := .string s.data.toList) True.intro _ _⟩
  · simp only [e, decide_false, Bool.false_or, if_false]
    rw [has_put_other (keyne (Ne.symm e)), atKey_put_other (keyne (Ne.symm e))]
    exact h k

/-- block db is a Dict of the calls L: its map is block mb, its keys' row block g; all from block B on -/
structure Dict (B : Nat) (w : World) (db mb : Nat) (v : Value) (L : List (ByteArray × Int)) : Prop where
  box : w.heap[db]? = some (.cells #[v, .map (some mb)] 42 (0, 0))
  row : w.ownsRow B 9 1 v (fk L).length ((fk L).map Value.string)
  map : MapIs w mb L
  lo1 : B ≤ db
  lo2 : B ≤ mb

/-- what a Dict may turn -/
def Foot (db mb : Nat) (v : Value) (i : Nat) : Prop := i = db ∨ i = mb ∨ some i = v.ownBlock

theorem Dict.kept {B : Nat} {F : Nat → Prop} {w w' : World} {db mb : Nat} {v : Value} {L : List (ByteArray × Int)} (h : Dict B w db mb v L) (k : Kept F w w') (hn : ∀ i, Foot db mb v i → ¬ F i) : Dict B w' db mb v L := by
  refine ⟨?_, ?_, h.map.kept k (hn _ (.inr (.inl rfl))), h.lo1, h.lo2⟩
  · exact (k.block db (lt_of_block h.box) (hn _ (.inl rfl))).trans h.box
  · obtain ⟨h1, h2⟩ := h.row
    refine ⟨h1, ?_⟩
    rcases h2 with h2 | ⟨g, cap, cur, rfl, hb, hg, r⟩
    · exact .inl h2
    · exact .inr ⟨g, cap, cur, rfl, hb, (k.block g (lt_of_block hg) (hn _ (.inr (.inr rfl)))).trans hg, r⟩

theorem Dict.foot_lo {B : Nat} {w : World} {db mb : Nat} {v : Value} {L : List (ByteArray × Int)} (h : Dict B w db mb v L) : ∀ i, Foot db mb v i → B ≤ i := by
  rintro i (rfl | rfl | e)
  · exact h.lo1
  · exact h.lo2
  · exact (h.row.lt i e.symm).1

theorem Dict.c0 {B : Nat} {w : World} {db mb : Nat} {v : Value} {L : List (ByteArray × Int)} (h : Dict B w db mb v L) : w.cell? ⟨db, 0, none⟩ = some v := by simp [World.cell?, h.box]
theorem Dict.c1 {B : Nat} {w : World} {db mb : Nat} {v : Value} {L : List (ByteArray × Int)} (h : Dict B w db mb v L) : w.cell? ⟨db, 1, none⟩ = some (.map (some mb)) := by simp [World.cell?, h.box]
theorem Dict.f0 {B : Nat} {w : World} {db mb : Nat} {v : Value} {L : List (ByteArray × Int)} (h : Dict B w db mb v L) : w.frozen? ⟨db, 0, none⟩ = false := by simp [World.frozen?, h.box]

set_option maxHeartbeats 400000 in
theorem newDict_any (B : Nat) (w : World) (hB : B ≤ w.heap.size) :
    Calls Try.prog 9 #[] w fun e w' => e = .returned (.pointer (some ⟨w.heap.size + 1, 0, none⟩)) ∧ Dict B w' (w.heap.size + 1) w.heap.size (.slice none 0 0) [] ∧ Kept (fun _ => False) w w' := by
  have hmm := @run_makeMap Try.prog
  go_enter Try.func9, Try.ntmps9
  go_wp2
  go_ret
  refine ⟨rfl, ⟨?_, World.ownsRow_nil _ _ _ _, ?_, by omega, by omega⟩, ((Kept.refl _ _).alloc _).alloc _⟩
  · have := heap_alloc_new (w.alloc (.map #[] 0)) (.cells #[.slice none 0 0, .map (some w.heap.size)] 42)
    simpa using this
  · exact (MapIs.made w).kept (((Kept.refl (fun _ => False) _)).alloc _) (fun h => h)

set_option maxHeartbeats 400000 in
theorem keys_any (B : Nat) (w : World) (db mb : Nat) (v : Value) (L : List (ByteArray × Int)) (hd : Dict B w db mb v L) :
    Calls Try.prog 12 #[.pointer (some ⟨db, 0, none⟩)] w fun e w' => e = .returned v ∧ w' = w := by
  obtain ⟨a, c, rfl, _, _⟩ := strs_of_owns hd.row
  have c0 := hd.c0
  clear hd
  go_enter Try.func12, Try.ntmps12
  go_wp2
  go_ret
  exact ⟨rfl, rfl⟩

set_option maxHeartbeats 400000 in
theorem get_any (B : Nat) (w : World) (db mb : Nat) (v : Value) (L : List (ByteArray × Int)) (s : ByteArray) (hd : Dict B w db mb v L) (hs : s.size ≤ maxLen) :
    Calls Try.prog 24 #[.pointer (some ⟨db, 0, none⟩), .string s] w fun e w' => e = .returned (.tuple #[vOf (lv L s), .bool (hk L s)]) ∧ w' = w := by
  have c1 := hd.c1
  obtain ⟨D, hown, hD⟩ := hd.map
  obtain ⟨u, ps, hrun, hv⟩ := hown.look_ok law9 Try.underlying40 (zero20 w) (zd := .nil) (zp := []) rfl (Go.WideMaps.keyOf_string_mk Try.underlying9 hs)
  rw [(hD s).2] at hv
  rw [(hD s).1] at hrun
  have e := anyElem_inv hv
  subst e
  clear hown hD hv hd
  go_enter Try.func24, Try.ntmps24
  go_wp2
  go_ret2
  exact ⟨rfl, rfl⟩

theorem ta_nil (w : World) : (Instr.typeAssert .nilIface 20 3 true).run Try.prog w = .ok (.tuple #[.int .i64 0, .bool false]) w := by kernel_rfl
theorem ta_int (x : Int) (w : World) : (Instr.typeAssert (.iface 3 (.int .i64 x)) 20 3 true).run Try.prog w = .ok (.tuple #[.int .i64 x, .bool true]) w := by kernel_rfl

set_option maxHeartbeats 400000 in
theorem getInt_any (B : Nat) (w : World) (db mb : Nat) (v : Value) (L : List (ByteArray × Int)) (s : ByteArray) (hd : Dict B w db mb v L) (hs : s.size ≤ maxLen) :
    Calls Try.prog 16 #[.pointer (some ⟨db, 0, none⟩), .string s] w fun e w' => e = .returned (.tuple #[.int .i64 ((lv L s).getD 0), .bool (hk L s)]) ∧ w' = w := by
  have hg := get_any B w db mb v L s hd hs
  cases ho : lv L s with
  | none =>
    rw [ho] at hg
    simp only [vOf] at hg
    generalize hk L s = q at *
    have HG : Hid (Calls Try.prog 24 #[.pointer (some ⟨db, 0, none⟩), .string s] w fun e w' => e = .returned (.tuple #[.nilIface, .bool q]) ∧ w' = w) := hg
    clear hg hd ho
    have ht1 := ta_nil
    have ht2 := ta_int
    go_enter Try.func16, Try.ntmps16
    go_wp2_with (go_at_call 24; refine HG.out.mono ?_; rintro e w' ⟨rfl, rfl⟩)
    go_ret2
    exact ⟨rfl, rfl⟩
  | some x =>
    rw [ho] at hg
    simp only [vOf] at hg
    generalize hk L s = q at *
    have HG : Hid (Calls Try.prog 24 #[.pointer (some ⟨db, 0, none⟩), .string s] w fun e w' => e = .returned (.tuple #[.iface 3 (.int .i64 x), .bool q]) ∧ w' = w) := hg
    clear hg hd ho
    have ht1 := ta_nil
    have ht2 := ta_int
    go_enter Try.func16, Try.ntmps16
    go_wp2_with (go_at_call 24; refine HG.out.mono ?_; rintro e w' ⟨rfl, rfl⟩)
    go_ret2
    exact ⟨rfl, rfl⟩

/-- the new keys' slice is the old row, or a new one -/
def NewRow (w : World) (v v' : Value) : Prop := v' = v ∨ v'.ownBlock = v.ownBlock ∨ ∃ g, v'.ownBlock = some g ∧ w.heap.size ≤ g

theorem Kept.turned {F : Nat → Prop} {a b c : World} {mb : Nat} (h : Kept F a b) (ht : b.mapTurned c mb) (hm : F mb) : Kept F a c :=
  h.grown ht.grown (fun i _ e => by cases e; exact hm)

theorem owns_kept {F : Nat → Prop} {w w' : World} {base n : Nat} {e : TypeId} {size : Nat} {v : Value} {xs : List Value} (h : w.ownsRow base e size v n xs) (k : Kept F w w') (hn : ∀ i, some i = v.ownBlock → ¬ F i) : w'.ownsRow base e size v n xs := by
  obtain ⟨h1, h2⟩ := h
  refine ⟨h1, ?_⟩
  rcases h2 with h2 | ⟨g, cap, cur, rfl, hb, hg, r⟩
  · exact .inl h2
  · exact .inr ⟨g, cap, cur, rfl, hb, (k.block g (lt_of_block hg) (hn _ rfl)).trans hg, r⟩

theorem block_of_row {w : World} {base n : Nat} {e : TypeId} {size g : Nat} {v : Value} {xs : List Value} (h : w.ownsRow base e size v n xs) (hg : v.ownBlock = some g) : ∃ cur, w.heap[g]? = some (.cells cur e (0, 0)) := by
  rcases h.2 with ⟨rfl, _⟩ | ⟨g', cap, cur, rfl, _, hgg, _⟩
  · cases hg
  · cases hg; exact ⟨cur, hgg⟩

theorem Dict.db_row {B : Nat} {w : World} {db mb : Nat} {v : Value} {L : List (ByteArray × Int)} (h : Dict B w db mb v L) : some db ≠ v.ownBlock := by
  intro e
  obtain ⟨cur, hc⟩ := block_of_row h.row e.symm
  rw [h.box] at hc
  cases hc
theorem MapIs.block {w : World} {mb : Nat} {L : List (ByteArray × Int)} (h : MapIs w mb L) : ∃ es c, w.heap[mb]? = some (.map es c) := by
  obtain ⟨D, ⟨es, c, hb, _⟩, _⟩ := h
  exact ⟨es, c, hb⟩
theorem Dict.mb_row {B : Nat} {w : World} {db mb : Nat} {v : Value} {L : List (ByteArray × Int)} (h : Dict B w db mb v L) : some mb ≠ v.ownBlock := by
  intro e
  obtain ⟨cur, hc⟩ := block_of_row h.row e.symm
  obtain ⟨es, c, hm⟩ := h.map.block
  rw [hm] at hc
  cases hc
theorem Dict.db_mb {B : Nat} {w : World} {db mb : Nat} {v : Value} {L : List (ByteArray × Int)} (h : Dict B w db mb v L) : db ≠ mb := by
  intro e
  obtain ⟨es, c, hm⟩ := h.map.block
  rw [← e, h.box] at hm
  cases hm

theorem set_has {B : Nat} {w w1 : World} {db mb : Nat} {v : Value} {L : List (ByteArray × Int)} {s : ByteArray} {x : Int} {D : DataW Unit} (hd : Dict B w db mb v L) (hh : hk L s = true)
    (hD : ∀ k : ByteArray, Maps.has D (.string k.data.toList) = hk L k ∧ D.atKey (.string k.data.toList) .nil = dOf (lv L k)) (hm : Maps.IsMap D)
    (ho : w1.ownsMap Try.prog 9 anyElem mb (L.length + 1) (D.put (.string s.data.toList) (.lit (.int .i64 x)))) (ht : w.mapTurned w1 mb) :
    Dict B w1 db mb v (L ++ [(s, x)]) ∧ NewRow w v v ∧ Kept (Foot db mb v) w w1 := by
  have k : Kept (fun i => i = mb) w w1 := (Kept.refl _ w).turned ht rfl
  refine ⟨⟨(k.block db (lt_of_block hd.box) hd.db_mb).trans hd.box, ?_, ⟨_, by simpa using ho, MapIs.put hm s x hD⟩, hd.lo1, hd.lo2⟩, .inl rfl, k.mono (fun i _ e => .inr (.inl e))⟩
  rw [Pl.fk_snoc_of_has _ _ hh]
  exact owns_kept hd.row k (fun i e e2 => hd.mb_row (by rw [← e2]; exact e))

theorem after_append {B : Nat} {w w1 : World} {db mb : Nat} {v : Value} {L : List (ByteArray × Int)} {o : Obj} {D : DataW Unit} {n : Nat} (hd : Dict B w db mb v L) (hg : (w.alloc o).grownBy w1 v.ownBlock) (ho : w.ownsMap Try.prog 9 anyElem mb n D) :
    w1.cell? ⟨db, 0, none⟩ = some v ∧ w1.frozen? ⟨db, 0, none⟩ = false ∧ w1.cell? ⟨db, 1, none⟩ = some (.map (some mb)) ∧ ∀ u, (w1.setCell ⟨db, 0, none⟩ u).ownsMap Try.prog 9 anyElem mb n D := by
  have k : Kept (fun i => some i = v.ownBlock) w w1 := ((Kept.refl _ w).alloc o).grown hg (fun _ _ e => e)
  have hb := (k.block db (lt_of_block hd.box) hd.db_row).trans hd.box
  refine ⟨by simp [World.cell?, hb], by simp [World.frozen?, hb], by simp [World.cell?, hb], fun u => ?_⟩
  have hlt := ho.lt
  obtain ⟨es, c, hm, r⟩ := ho
  have : w1.ownsMap Try.prog 9 anyElem mb n D := ⟨es, c, (k.block mb hlt hd.mb_row).trans hm, r⟩
  exact this.setCell (Ne.symm hd.db_mb) u

theorem box_setCell {w : World} {b : Nat} {v u x : Value} {t : TypeId} (h : w.heap[b]? = some (.cells #[v, u] t (0, 0))) : (w.setCell ⟨b, 0, none⟩ x).heap[b]? = some (.cells #[x, u] t (0, 0)) := by
  simp [World.setCell, Array.getElem?_modify, h]

theorem set_new {B : Nat} {w w1 w2 : World} {db mb g cap : Nat} {v : Value} {L : List (ByteArray × Int)} {s : ByteArray} {x : Int} {D : DataW Unit} {o : Obj} (hd : Dict B w db mb v L) (hh : hk L s = false)
    (hD : ∀ k : ByteArray, Maps.has D (.string k.data.toList) = hk L k ∧ D.atKey (.string k.data.toList) .nil = dOf (lv L k)) (hm : Maps.IsMap D)
    (hg : (w.alloc o).grownBy w1 v.ownBlock) (hrow : w1.ownsRow B 9 1 (.slice (some ⟨g, 0, none⟩) ((fk L).length + 1) cap) ((fk L).length + 1) ((fk L).map Value.string ++ [.string s])) (hat : v.ownBlock = some g ∨ g = w.heap.size + 1)
    (ho : w2.ownsMap Try.prog 9 anyElem mb (L.length + 1) (D.put (.string s.data.toList) (.lit (.int .i64 x)))) (ht : (w1.setCell ⟨db, 0, none⟩ (.slice (some ⟨g, 0, none⟩) ((fk L).length + 1) cap)).mapTurned w2 mb) :
    Dict B w2 db mb (.slice (some ⟨g, 0, none⟩) ((fk L).length + 1) cap) (L ++ [(s, x)]) ∧ NewRow w v (.slice (some ⟨g, 0, none⟩) ((fk L).length + 1) cap) ∧ Kept (Foot db mb v) w w2 := by
  have k1 : Kept (fun i => some i = v.ownBlock) w w1 := ((Kept.refl _ w).alloc o).grown hg (fun _ _ e => e)
  have hb1 := (k1.block db (lt_of_block hd.box) hd.db_row).trans hd.box
  obtain ⟨cur, hcur⟩ := block_of_row hrow (g := g) rfl
  have hgdb : g ≠ db := by rintro rfl; rw [hb1] at hcur; cases hcur
  obtain ⟨es, c, hmb⟩ := hd.map.block
  have hmb1 := (k1.block mb (lt_of_block hmb) hd.mb_row).trans hmb
  have hgmb : g ≠ mb := by rintro rfl; rw [hmb1] at hcur; cases hcur
  generalize hv' : Value.slice (some ⟨g, 0, none⟩) ((fk L).length + 1) cap = v' at *
  have hown' : v'.ownBlock = some g := by rw [← hv']; rfl
  have k2 : Kept (fun i => i = db ∨ i = mb) w1 w2 := ((Kept.refl _ w1).setCell (p := ⟨db, 0, none⟩) (fun _ => .inl rfl) v').turned ht (.inr rfl)
  have hb2 := box_setCell (x := v') hb1
  have hb3 : w2.heap[db]? = some (.cells #[v', .map (some mb)] 42 (0, 0)) := by
    have := (Kept.refl (fun i => i = mb) (w1.setCell ⟨db, 0, none⟩ v')).turned ht rfl
    exact (this.block db (lt_of_block hb2) hd.db_mb).trans hb2
  refine ⟨⟨hb3, ?_, ⟨_, by simpa using ho, MapIs.put hm s x hD⟩, hd.lo1, hd.lo2⟩, ?_, ?_⟩
  · rw [Pl.fk_snoc_of_not _ _ hh]
    have := owns_kept hrow k2 (fun i e e2 => by
      rw [hown'] at e; cases e
      rcases e2 with e2 | e2
      · exact hgdb e2
      · exact hgmb e2)
    simpa using this
  · rcases hat with h | h
    · exact .inr (.inl (by rw [hown', h]))
    · exact .inr (.inr ⟨g, hown', by omega⟩)
  · refine (k1.mono (fun i _ e => .inr (.inr e))).trans k2 (fun i _ e => ?_)
    rcases e with e | e
    · exact .inl e
    · exact .inr (.inl e)

set_option maxHeartbeats 1000000 in
theorem set_any (B : Nat) (w : World) (db mb : Nat) (v : Value) (L : List (ByteArray × Int)) (s : ByteArray) (x : Int) (hd : Dict B w db mb v L) (hs : s.size ≤ maxLen) (hL : L.length ≤ 100000) (hB : B ≤ w.heap.size) :
    Calls Try.prog 23 #[.pointer (some ⟨db, 0, none⟩), .string s, .iface 3 (.int .i64 x)] w fun e w' => e = .returned (.tuple #[]) ∧ ∃ v', Dict B w' db mb v' (L ++ [(s, x)]) ∧ NewRow w v v' ∧ Kept (Foot db mb v) w w' := by
  have c1 := hd.c1
  have c0 := hd.c0
  have f0 := hd.f0
  obtain ⟨D, hown, hD⟩ := hd.map
  obtain ⟨u, ps, hrun, hv⟩ := hown.look_ok law9 Try.underlying40 (zero20 w) (zd := .nil) (zp := []) rfl (Go.WideMaps.keyOf_string_mk Try.underlying9 hs)
  rw [(hD s).2] at hv
  rw [(hD s).1] at hrun
  have e := anyElem_inv hv
  subst e
  clear hv
  have hkey := Go.WideMaps.keyOf_string_mk Try.underlying9 hs
  have HD : Hid (Dict B w db mb v L) := hd
  have HK : Hid (∀ k : ByteArray, Maps.has D (.string k.data.toList) = hk L k ∧ D.atKey (.string k.data.toList) .nil = dOf (lv L k)) := hD
  have hrow := hd.row
  have hlen := Pl.fk_length L
  obtain ⟨a, c, rfl, _, _⟩ := strs_of_owns hd.row
  cases hh : hk L s with
  | true =>
    rw [hh] at hrun
    have HH : Hid (hk L s = true) := hh
    clear hd hD hh hrow
    generalize vOf (lv L s) = u0 at hrun
    go_enter Try.func23, Try.ntmps23
    go_wp2_with (first | (at_mapUpdate; refine wpList_mapUpdate_in _ rfl _ _ _ 40 rfl 9 20 law9 Try.underlying40 _ mb L.length D rfl hown (by unfold maxLen; omega) _ _ _ rfl rfl hkey (.lit (.int .i64 x)) [] rfl ?_; intro w1 hown1 hturn1))
    go_end0
    exact ⟨rfl, _, set_has HD.out HH.out HK.out hown.isMap hown1 hturn1⟩
  | false =>
    rw [hh] at hrun
    have HH : Hid (hk L s = false) := hh
    clear hd hD hh
    generalize vOf (lv L s) = u0 at hrun
    obtain ⟨i0, hi, hz0, hz1, hz2⟩ := info_parts Try.info9
    go_enter Try.func23, Try.ntmps23
    go_wp2_with (first | (at_builtin; refine wpList_append_lies _ rfl _ _ 28 rfl B 9 i0 _ 1 16 Try.underlying28 hi hz0 hz1 hz2 rfl (by decide) (.slice a (fk L).length c) _ _ rfl (hrow.alloc _) ⟨w.heap.size, 0, none⟩ 1 1 [.string s] rfl rfl (cell_one_new _ _ _) (by simp [Value.oneCell']) (by decide) (by unfold maxLen; omega) (by omega) (by simp; omega) (w.heap.size + 1) (by simp) ?_; intro g cap w1 hown1 hgrow1 hat hlt; obtain ⟨q0, q1, q2, q3⟩ := after_append HD.out hgrow1 hown; have HQ := hide q3; clear q3) | (at_mapUpdate; refine wpList_mapUpdate_in _ rfl _ _ _ 40 rfl 9 20 law9 Try.underlying40 _ mb L.length D rfl (unhide HQ _) (by unfold maxLen; omega) _ _ _ rfl rfl hkey (.lit (.int .i64 x)) [] rfl ?_; intro w2 hown2 hturn2))
    go_end0
    exact ⟨rfl, _, set_new HD.out HH.out HK.out hown.isMap hgrow1 hown1 hat hown2 hturn2⟩

end Go.Proofs.Qxb6616518a
