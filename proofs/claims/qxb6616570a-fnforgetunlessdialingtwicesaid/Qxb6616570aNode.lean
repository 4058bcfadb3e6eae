/- The makers and setters; how a history lies in memory. -/
import Derived.Test.Qxb6616570aSmall
import Derived.Deep.OwnRows
namespace Go.Proofs.Qxb6616570a
open Go.RowKit Go.Maps

abbrev nil37 : Value := .pointer none
/-- a pointer to block b -/
abbrev pt (b : Nat) : Value := .pointer (some ⟨b, 0, none⟩)

def HistBlk (w : World) (hb mb : Nat) : Prop := w.heap[hb]? = some (.cells #[.int .i32 0, .int .u32 0, .map (some mb), .int .i64 0] 98 (0, 0))
def RecBlk (w : World) (rb : Nat) (f : Int) (g : Bool) (dl ofr en : Value) : Prop := w.heap[rb]? = some (.cells #[.int .i64 f, .int .u64 0, .int .i64 0, .pointer none, .bool g, dl, ofr, en] 86 (0, 0))
def PartBlk (w : World) (hb pb : Nat) (fo : Bool) (nv : Value) (hn : Int) : Prop := w.heap[pb]? = some (.cells #[pt hb, .bool fo, nv, .chan none, .int .u32 hn] 106 (0, 0))
def EntBlk (w : World) (eb pb : Nat) (peer : ByteArray) (rv nx : Value) (ne : Bool) : Prop := w.heap[eb]? = some (.cells #[pt pb, .string peer, rv, nx, .bool ne, .int .u8 0] 109 (0, 0))

set_option maxHeartbeats 400000 in
theorem newHistory_any (w : World) :
    Calls Try.prog 28 #[] w fun e w' => e = .returned (pt (w.heap.size + 1)) ∧ w' = (w.alloc (.map #[] 0)).alloc (.cells #[.int .i32 0, .int .u32 0, .map (some w.heap.size), .int .i64 0] 98) := by
  have hmm := @run_makeMap Try.prog
  go_enter Try.func28, Try.ntmps28
  go_wp2
  go_ret
  exact ⟨rfl, rfl⟩

set_option maxHeartbeats 400000 in
theorem newRecord_any (f : Int) (g : Bool) (w : World) :
    Calls Try.prog 29 #[.int .i64 f, .bool g] w fun e w' => e = .returned (pt w.heap.size) ∧ w' = w.alloc (.cells #[.int .i64 f, .int .u64 0, .int .i64 0, .pointer none, .bool g, .pointer none, .pointer none, .pointer none] 86) := by
  go_enter Try.func29, Try.ntmps29
  go_wp2
  go_ret
  exact ⟨rfl, rfl⟩

set_option maxHeartbeats 400000 in
theorem newPart_any (hb : Nat) (fo : Bool) (w : World) :
    Calls Try.prog 30 #[pt hb, .bool fo] w fun e w' => e = .returned (pt w.heap.size) ∧ w' = w.alloc (.cells #[pt hb, .bool fo, .slice none 0 0, .chan none, .int .u32 0] 106) := by
  go_enter Try.func30, Try.ntmps30
  go_wp2
  go_ret
  exact ⟨rfl, rfl⟩

set_option maxHeartbeats 400000 in
theorem newEntry_any (pb : Nat) (peer : ByteArray) (rb : Nat) (nx : Option Addr) (w : World) :
    Calls Try.prog 31 #[pt pb, .string peer, pt rb, .pointer nx] w fun e w' => e = .returned (pt w.heap.size) ∧ w' = w.alloc (.cells #[pt pb, .string peer, pt rb, .pointer nx, .bool false, .int .u8 0] 109) := by
  go_enter Try.func31, Try.ntmps31
  go_wp2
  go_ret
  exact ⟨rfl, rfl⟩

set_option maxHeartbeats 400000 in
theorem setEntries_any (rb : Nat) (u : Value) (p : Option Addr) (w : World) (hc : w.cell? ⟨rb, 7, none⟩ = some u) (hz : w.frozen? ⟨rb, 7, none⟩ = false) :
    Calls Try.prog 32 #[pt rb, .pointer p] w fun e w' => e = .returned (.tuple #[]) ∧ w' = w.setCell ⟨rb, 7, none⟩ (.pointer p) := by
  go_enter Try.func32, Try.ntmps32
  go_wp2
  go_end0
  exact ⟨rfl, rfl⟩

set_option maxHeartbeats 400000 in
theorem setDialer_any (rb : Nat) (u v : Value) (p q : Option Addr) (w : World) (hc : w.cell? ⟨rb, 5, none⟩ = some u) (hd : w.cell? ⟨rb, 6, none⟩ = some v) (hz : w.frozen? ⟨rb, 5, none⟩ = false) (hy : w.frozen? ⟨rb, 6, none⟩ = false) :
    Calls Try.prog 34 #[pt rb, .pointer p, .pointer q] w fun e w' => e = .returned (.tuple #[]) ∧ w' = (w.setCell ⟨rb, 5, none⟩ (.pointer p)).setCell ⟨rb, 6, none⟩ (.pointer q) := by
  go_enter Try.func34, Try.ntmps34
  go_wp2
  go_end0
  exact ⟨rfl, rfl⟩

/-- the pointer that 'pick' gives -/
def pk (eb : Nat → Nat) (k : Int) : Option Addr := if k < 0 then none else some ⟨eb k.toNat, 0, none⟩

set_option maxHeartbeats 400000 in
theorem pick_any (er n c : Nat) (eb : Nat → Nat) (k : Int) (w : World) (hk : k < n) (hc : ∀ j, j < n → w.cell? ⟨er, j, none⟩ = some (pt (eb j))) :
    Calls Try.prog 35 #[.slice (some ⟨er, 0, none⟩) n c, .int .i64 k] w fun e w' => e = .returned (.pointer (pk eb k)) ∧ w' = w := by
  unfold pk
  by_cases h0 : k < 0
  · rw [if_pos h0]
    go_enter Try.func35, Try.ntmps35
    go_wp2
    go_ret
    exact ⟨rfl, rfl⟩
  · rw [if_neg h0]
    obtain ⟨m, rfl⟩ : ∃ m : Nat, k = m := ⟨k.toNat, by omega⟩
    rw [Int.toNat_natCast]
    have hcm := hc m (by omega)
    clear hc
    generalize eb m = x at *
    go_enter Try.func35, Try.ntmps35
    go_wp2
    go_ret
    exact ⟨rfl, rfl⟩

/-! ### the map of peers -/
theorem law9 : Keyed Try.prog 9 := string_keyed Try.underlying9
theorem zero26 (w : World) : (zeroValue 26).run Try.prog w = .ok (.pointer none) w := by kernel_rfl
def recElem : Value → Option (DataW Unit × List MemPlace)
  | .pointer none => some (.nil, [])
  | .pointer (some ⟨b, 0, none⟩) => some (.lit (.int .i64 b), [])
  | _ => none
theorem recElem_inv {v : Value} {b : Nat} {ps : List MemPlace} (h : recElem v = some (.lit (.int .i64 b), ps)) : v = pt b := by
  unfold recElem at h
  split at h
  · simp at h
  · rename_i b'
    simp at h
    obtain ⟨h, _⟩ := h
    obtain rfl : b' = b := by omega
    rfl
  · cases h
theorem recElem_nil {v : Value} {ps : List MemPlace} (h : recElem v = some (.nil, ps)) : v = .pointer none := by
  unfold recElem at h
  split at h
  · rfl
  · simp at h
  · cases h

/-- block mb is a map: peer leads to the record in block rb, or nothing is there -/
def PeerMap (w : World) (mb rb : Nat) (peer : ByteArray) (there : Bool) : Prop :=
  ∃ n D, w.ownsMap Try.prog 9 recElem mb n D ∧ n < 10 ∧ Maps.has D (.string peer.data.toList) = there ∧ Maps.size D = (if there then 1 else 0) ∧ D.atKey (.string peer.data.toList) .nil = (if there then .lit (.int .i64 rb) else .nil)

theorem PeerMap.kept {F : Nat → Prop} {w w' : World} {mb rb : Nat} {peer : ByteArray} {t : Bool} (h : PeerMap w mb rb peer t) (k : Kept F w w') (hn : ¬ F mb) : PeerMap w' mb rb peer t := by
  obtain ⟨n, D, ho, r⟩ := h
  have hlt := ho.lt
  obtain ⟨es, clock, hb, rest⟩ := ho
  exact ⟨n, D, ⟨es, clock, (k.block mb hlt hn).trans hb, rest⟩, r⟩
theorem PeerMap.blk {w : World} {mb rb : Nat} {peer : ByteArray} {t : Bool} (h : PeerMap w mb rb peer t) : ∃ es c, w.heap[mb]? = some (.map es c) := by
  obtain ⟨n, D, ⟨es, clock, hb, _⟩, _⟩ := h
  exact ⟨es, clock, hb⟩

set_option maxHeartbeats 400000 in
theorem putPeer_any (hb mb rb : Nat) (peer : ByteArray) (w : World) (hp : peer.size ≤ maxLen) (hc : w.cell? ⟨hb, 2, none⟩ = some (.map (some mb))) (ho : w.ownsMap Try.prog 9 recElem mb 0 (.map [])) :
    Calls Try.prog 36 #[pt hb, .string peer, pt rb] w fun e w' => e = .returned (.tuple #[]) ∧ PeerMap w' mb rb peer true ∧ w.mapTurned w' mb := by
  have hkey := Go.WideMaps.keyOf_string_mk Try.underlying9 hp
  go_enter Try.func36, Try.ntmps36
  go_wp2_with (first | (at_mapUpdate; refine wpList_mapUpdate_in _ rfl _ _ _ 87 rfl 9 26 law9 Try.underlying87 _ mb 0 (.map []) rfl ho (by unfold maxLen; omega) _ _ _ rfl rfl hkey (.lit (.int .i64 rb)) [] rfl ?_; intro w1 hown1 hturn1))
  go_end0
  refine ⟨rfl, ⟨1, _, hown1, by omega, ?_, ?_, ?_⟩, hturn1⟩
  · exact has_put_same isMap_empty (k := .string peer.data.toList) True.intro _
  · rw [size_put tidy_empty]; rfl
  · exact atKey_put_same isMap_empty (k := .string peer.data.toList) True.intro _ _

set_option maxHeartbeats 400000 in
theorem peerRecord_any (hb mb rb : Nat) (peer : ByteArray) (t : Bool) (w : World) (hp : peer.size ≤ maxLen) (hc : w.cell? ⟨hb, 2, none⟩ = some (.map (some mb))) (hm : PeerMap w mb rb peer t) :
    Calls Try.prog 51 #[pt hb, .string peer] w fun e w' => e = .returned (.tuple #[if t then pt rb else .pointer none, .bool t]) ∧ w' = w := by
  obtain ⟨n, D, hown, _, hh, _, hat⟩ := hm
  obtain ⟨u, ps, hrun, hv⟩ := hown.look_ok law9 Try.underlying87 (zero26 w) (zd := .nil) (zp := []) rfl (Go.WideMaps.keyOf_string_mk Try.underlying9 hp)
  rw [hat] at hv
  rw [hh] at hrun
  clear hown hat hh
  cases t with
  | true =>
    simp only [if_true] at hv ⊢
    have e := recElem_inv hv
    subst e
    clear hv
    go_enter Try.func51, Try.ntmps51
    go_wp2
    go_ret2
    exact ⟨rfl, rfl⟩
  | false =>
    simp only [Bool.false_eq_true, if_false] at hv ⊢
    have e := recElem_nil hv
    subst e
    clear hv
    go_enter Try.func51, Try.ntmps51
    go_wp2
    go_ret2
    exact ⟨rfl, rfl⟩

set_option maxHeartbeats 400000 in
theorem peerCount_any (hb mb rb : Nat) (peer : ByteArray) (t : Bool) (w : World) (hc : w.cell? ⟨hb, 2, none⟩ = some (.map (some mb))) (hm : PeerMap w mb rb peer t) :
    Calls Try.prog 52 #[pt hb] w fun e w' => e = .returned (.int .i64 (if t then 1 else 0)) ∧ w' = w := by
  obtain ⟨n, D, hown, _, _, hs, _⟩ := hm
  have hl := hown.len Try.underlying87
  rw [hs] at hl
  clear hown hs
  cases t with
  | true =>
    go_enter Try.func52, Try.ntmps52
    go_wp2
    go_ret
    exact ⟨rfl, rfl⟩
  | false =>
    go_enter Try.func52, Try.ntmps52
    go_wp2
    go_ret
    exact ⟨rfl, rfl⟩

/-- what 'delete' does to it -/
theorem PeerMap.drop {w : World} {mb rb : Nat} {peer : ByteArray} (h : PeerMap w mb rb peer true) (hp : peer.size ≤ maxLen) (ty : TypeId) :
    ∃ w', (Builtin.delete_ #[87, 9] ty #[.map (some mb), .string peer]).run Try.prog w = .ok (.tuple #[]) w' ∧ PeerMap w' mb rb peer false ∧ w.mapTurned w' mb := by
  obtain ⟨n, D, hown, hn, hh, hs, _⟩ := h
  obtain ⟨w', hrun, hown', hturn⟩ := hown.drop law9 Try.underlying87 (Go.WideMaps.keyOf_string_mk Try.underlying9 hp) ty
  have hsz := size_del (k := .string peer.data.toList) (hown.tidy law9)
  rw [hh, hs] at hsz
  refine ⟨w', hrun, ⟨n, _, hown', hn, has_del_same, ?_, atKey_del_same _⟩, hturn⟩
  simp only [if_true] at hsz
  simp only [Bool.false_eq_true, if_false]
  omega

end Go.Proofs.Qxb6616570a
