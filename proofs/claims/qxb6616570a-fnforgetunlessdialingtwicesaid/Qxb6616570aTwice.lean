/- The law's walk. -/
import Derived.Test.Qxb6616570aBuildWalk
import Derived.Test.Qxb6616570aForget
import Derived.Test.Qxb6616570aFresh
import Derived.Test.Qxb6616570aHolds
namespace Go.Proofs.Qxb6616570a
open Go.RowKit Go.Maps

/-- what shapeOK's 'true' says -/
def Shape (n : Nat) (i d o : Int) : Prop := 1 ≤ n ∧ 0 ≤ i ∧ i < n ∧ -1 ≤ d ∧ d < n ∧ -1 ≤ o ∧ o < n ∧ (d = -1 → o = -1)

/-- an answer that is a truth value -/
def Says (e : Ending) (p : Prop) : Prop := ∃ b, e = .returned (.bool b) ∧ (b = true → p)
theorem says_false (p : Prop) : Says (.returned (.bool false)) p := ⟨false, rfl, fun h => by cases h⟩
theorem says_any {b : Bool} {p : Prop} (h : b = true → p) : Says (.returned (.bool b)) p := ⟨b, rfl, h⟩
theorem says_true {p : Prop} (h : p) : Says (.returned (.bool true)) p := ⟨true, rfl, fun _ => h⟩

set_option maxRecDepth 100000 in
set_option maxHeartbeats 4000000 in
theorem zz_any (peer : ByteArray) (a : Option Addr) (n c : Nat) (i d o f : Int) (g : Bool) (w : World) :
    Calls Try.prog 10 #[.string peer, .slice a n c, .int .i64 i, .int .i64 d, .int .i64 o, .int .i64 f, .bool g] w fun e w' => Says e True ∧ w' = w := by
  by_cases h1 : peer.size ≤ 1048576
  · by_cases h2 : n ≤ 1048576
    · by_cases h3 : peer.size + n ≤ 1048576
      · go_enter Try.func10, Try.ntmps10
        go_wp2
        go_ret
        first | exact ⟨says_false _, rfl⟩ | exact ⟨says_true trivial, rfl⟩
      · go_enter Try.func10, Try.ntmps10
        go_wp2
        go_ret
        first | exact ⟨says_false _, rfl⟩ | exact ⟨says_true trivial, rfl⟩
    · go_enter Try.func10, Try.ntmps10
      go_wp2
      go_ret
      first | exact ⟨says_false _, rfl⟩ | exact ⟨says_true trivial, rfl⟩
  · go_enter Try.func10, Try.ntmps10
    go_wp2
    go_ret
    first | exact ⟨says_false _, rfl⟩ | exact ⟨says_true trivial, rfl⟩

set_option maxRecDepth 100000 in
set_option maxHeartbeats 4000000 in
theorem shape_any (n : Nat) (i d o : Int) (w : World) :
    Calls Try.prog 11 #[.int .i64 n, .int .i64 i, .int .i64 d, .int .i64 o] w fun e w' => Says e (Shape n i d o) ∧ w' = w := by
  by_cases h1 : (n : Int) < 1
  · go_enter Try.func11, Try.ntmps11
    go_wp2
    go_ret
    exact ⟨says_false _, rfl⟩
  by_cases h2 : i < 0
  · go_enter Try.func11, Try.ntmps11
    go_wp2
    go_ret
    exact ⟨says_false _, rfl⟩
  by_cases h3 : i < n
  · by_cases h4 : d < -1
    · go_enter Try.func11, Try.ntmps11
      go_wp2
      go_ret
      exact ⟨says_false _, rfl⟩
    by_cases h5 : d < n
    · by_cases h6 : o < -1
      · go_enter Try.func11, Try.ntmps11
        go_wp2
        go_ret
        exact ⟨says_false _, rfl⟩
      by_cases h7 : o < n
      · by_cases h8 : d = -1
        · by_cases h9 : o = -1
          · go_enter Try.func11, Try.ntmps11
            go_wp2
            go_ret
            exact ⟨says_true (by unfold Shape; omega), rfl⟩
          · go_enter Try.func11, Try.ntmps11
            go_wp2
            go_ret
            exact ⟨says_any (fun h => absurd (by simpa using h) h9), rfl⟩
        · go_enter Try.func11, Try.ntmps11
          go_wp2
          go_ret
          exact ⟨says_true (by unfold Shape; omega), rfl⟩
      · go_enter Try.func11, Try.ntmps11
        go_wp2
        go_ret
        exact ⟨says_false _, rfl⟩
    · go_enter Try.func11, Try.ntmps11
      go_wp2
      go_ret
      exact ⟨says_false _, rfl⟩
  · go_enter Try.func11, Try.ntmps11
    go_wp2
    go_ret
    exact ⟨says_false _, rfl⟩

/-- behind the law's preparations: what forget does not touch is kept -/
theorem All.turn {w w' : World} {B n gone gone' kr or nr wb xb : Nat} {peer : ByteArray} {d o f : Int} {g : Bool} {fo ne : Nat → Bool} (h : All w B n gone kr or nr wb xb peer d o f g fo ne)
    (st : St w' B n peer f g (pk (ebk B n) d) (pk (ebk B n) o) fo ne gone') (pm : PeerMap w' (B + 1) (B + 3) peer (decide (hdOf gone' < n))) (k : Kept (Turn B n) w w') (hlo : B + 6 + 2 * n ≤ kr ∧ B + 6 + 2 * n ≤ or ∧ B + 6 + 2 * n ≤ nr ∧ B + 6 + 2 * n ≤ wb ∧ B + 6 + 2 * n ≤ xb) (hg : gone' = gone) :
    All w' B n gone' kr or nr wb xb peer d o f g fo ne := by
  subst hg
  have nt : ∀ {b : Nat}, B + 6 + 2 * n ≤ b → ¬ Turn B n b := fun hb ht => by unfold Turn at ht; omega
  exact ⟨st, pm, rowIs_kept h.krow k (nt hlo.1), rowIs_kept h.orow k (nt hlo.2.1), rowIs_kept h.nrow k (nt hlo.2.2.1), k.cell h.a0 (nt hlo.2.2.2.1), k.cell h.a1 (nt hlo.2.2.2.1), k.cell h.a2 (nt hlo.2.2.2.1), k.cell h.a3 (nt hlo.2.2.2.1), k.cell h.x0 (nt hlo.2.2.2.2), k.cell h.x1 (nt hlo.2.2.2.2), k.cell h.x2 (nt hlo.2.2.2.2), k.cell h.x3 (nt hlo.2.2.2.2), k.cell h.x4 (nt hlo.2.2.2.2), k.cell h.x5 (nt hlo.2.2.2.2), k.cell h.x6 (nt hlo.2.2.2.2)⟩

theorem All.keptAll {w w' : World} {B n gone kr or nr wb xb : Nat} {peer : ByteArray} {d o f : Int} {g : Bool} {fo ne : Nat → Bool} (h : All w B n gone kr or nr wb xb peer d o f g fo ne) (k : Kept (fun _ => False) w w') : All w' B n gone kr or nr wb xb peer d o f g fo ne :=
  ⟨h.st.keptAll k, h.pm.kept k (fun e => e), rowIs_kept h.krow k (fun e => e), rowIs_kept h.orow k (fun e => e), rowIs_kept h.nrow k (fun e => e), k.cell h.a0 (fun e => e), k.cell h.a1 (fun e => e), k.cell h.a2 (fun e => e), k.cell h.a3 (fun e => e), k.cell h.x0 (fun e => e), k.cell h.x1 (fun e => e), k.cell h.x2 (fun e => e), k.cell h.x3 (fun e => e), k.cell h.x4 (fun e => e), k.cell h.x5 (fun e => e), k.cell h.x6 (fun e => e)⟩

theorem blk_lt {w : World} {b : Nat} {ob : Obj} (h : w.heap[b]? = some ob) : b < w.heap.size := by
  rcases Nat.lt_or_ge b w.heap.size with h' | h'
  · exact h'
  · rw [Array.getElem?_eq_none h'] at h; cases h

/-- all but the map, the list and the kept row -/
structure Rest (w : World) (B n kr or nr wb xb : Nat) (d o f : Int) (g : Bool) (ne : Nat → Bool) : Prop where
  orow : w.rowIs or 5 n (fun _ => .int .u8 0)
  nrow : w.rowIs nr 4 n (fun t => .bool (ne t))
  a0 : w.cell? ⟨wb, 0, none⟩ = some (pt (B + 2))
  a1 : w.cell? ⟨wb, 1, none⟩ = some (pt (B + 3))
  a2 : w.cell? ⟨wb, 2, none⟩ = some (.slice (some ⟨B + 4, 0, none⟩) n n)
  a3 : w.cell? ⟨wb, 3, none⟩ = some (.slice (some ⟨B + 5, 0, none⟩) n n)
  x0 : w.cell? ⟨xb, 0, none⟩ = some (.slice (some ⟨kr, 0, none⟩) n n)
  x1 : w.cell? ⟨xb, 1, none⟩ = some (.int .i64 d)
  x2 : w.cell? ⟨xb, 2, none⟩ = some (.int .i64 o)
  x3 : w.cell? ⟨xb, 3, none⟩ = some (.slice (some ⟨or, 0, none⟩) n n)
  x4 : w.cell? ⟨xb, 4, none⟩ = some (.slice (some ⟨nr, 0, none⟩) n n)
  x5 : w.cell? ⟨xb, 5, none⟩ = some (.int .i64 f)
  x6 : w.cell? ⟨xb, 6, none⟩ = some (.bool g)
theorem All.rest {w : World} {B n gone kr or nr wb xb : Nat} {peer : ByteArray} {d o f : Int} {g : Bool} {fo ne : Nat → Bool} (h : All w B n gone kr or nr wb xb peer d o f g fo ne) : Rest w B n kr or nr wb xb d o f g ne :=
  ⟨h.orow, h.nrow, h.a0, h.a1, h.a2, h.a3, h.x0, h.x1, h.x2, h.x3, h.x4, h.x5, h.x6⟩
theorem Rest.kept {F : Nat → Prop} {w w' : World} {B n kr or nr wb xb : Nat} {d o f : Int} {g : Bool} {ne : Nat → Bool} (h : Rest w B n kr or nr wb xb d o f g ne) (k : Kept F w w') (h1 : ¬ F or) (h2 : ¬ F nr) (h3 : ¬ F wb) (h4 : ¬ F xb) : Rest w' B n kr or nr wb xb d o f g ne :=
  ⟨rowIs_kept h.orow k h1, rowIs_kept h.nrow k h2, k.cell h.a0 h3, k.cell h.a1 h3, k.cell h.a2 h3, k.cell h.a3 h3, k.cell h.x0 h4, k.cell h.x1 h4, k.cell h.x2 h4, k.cell h.x3 h4, k.cell h.x4 h4, k.cell h.x5 h4, k.cell h.x6 h4⟩

theorem St.kept2 {F : Nat → Prop} {w w' : World} {B n lo : Nat} {peer : ByteArray} {f : Int} {g : Bool} {dl ofr : Option Addr} {fo ne : Nat → Bool} {gone : Nat} (h : St w B n peer f g dl ofr fo ne gone) (k : Kept F w w') (hF : ∀ i, F i → lo ≤ i) (hlo : B + 6 + 2 * n ≤ lo)
    (hg : ∀ gb cur, w.heap[gb]? = some (.cells cur 37 (0, 0)) → B ≤ gb → ¬ F gb) : St w' B n peer f g dl ofr fo ne gone :=
  ⟨k.blk h.hist (fun e => by have := hF _ e; omega), k.blk h.rec_ (fun e => by have := hF _ e; omega), rowIs_kept h.prow k (fun e => by have := hF _ e; omega), rowIs_kept h.erow k (fun e => by have := hF _ e; omega),
    fun t ht => (h.node t ht).kept k (fun e => by have := hF _ e; unfold pbk at this; omega) (fun e => by have := hF _ e; unfold ebk at this; omega) hg⟩

theorem st_size {w : World} {B n : Nat} {peer : ByteArray} {f : Int} {g : Bool} {dl ofr : Option Addr} {fo ne : Nat → Bool} {gone : Nat} (h : St w B n peer f g dl ofr fo ne gone) (hn : 0 < n) : B + 6 + 2 * n ≤ w.heap.size := by
  obtain ⟨nv, _, hE, _⟩ := h.node 0 hn
  have hlt : ebk B n 0 < w.heap.size := by
    rcases Nat.lt_or_ge (ebk B n 0) w.heap.size with h | h
    · exact h
    · unfold EntBlk at hE; rw [Array.getElem?_eq_none h] at hE; cases hE
  unfold ebk at hlt
  omega

/-- the turn that forgets, and x.kept[i] = false -/
theorem All.forgot {w w' : World} {B n i kr or nr wb xb : Nat} {peer : ByteArray} {d o f : Int} {g : Bool} {fo ne : Nat → Bool} (h : All w B n n kr or nr wb xb peer d o f g fo ne) (hi : i < n) (hkn : kr ≠ nr)
    (st : St w' B n peer f g (pk (ebk B n) d) (pk (ebk B n) o) fo ne i) (pm : PeerMap w' (B + 1) (B + 3) peer (decide (1 < n))) (k : Kept (Turn B n) w w') (hlo : B + 6 + 2 * n ≤ kr ∧ B + 6 + 2 * n ≤ or ∧ B + 6 + 2 * n ≤ nr ∧ B + 6 + 2 * n ≤ wb ∧ B + 6 + 2 * n ≤ xb) (hwk : wb ≠ kr) (hxk : xb ≠ kr) :
    All (w'.setCell ⟨kr, i, none⟩ (.bool false)) B n i kr or nr wb xb peer d o f g fo ne := by
  have nt : ∀ {b : Nat}, B + 6 + 2 * n ≤ b → ¬ Turn B n b := fun hb ht => by unfold Turn at ht; omega
  have hk := rowIs_kept h.krow k (nt hlo.1)
  have ho := rowIs_kept h.orow k (nt hlo.2.1)
  have r1 := h.rest.kept k (nt hlo.2.1) (nt hlo.2.2.1) (nt hlo.2.2.2.1) (nt hlo.2.2.2.2)
  have k2 : Kept (fun j => j = kr) w' (w'.setCell ⟨kr, i, none⟩ (.bool false)) := (Kept.refl (fun j => j = kr) w').setCell (p := ⟨kr, i, none⟩) (fun _ => rfl) (.bool false)
  have r2 := r1.kept k2 (row_ne ho hk (by decide)) (Ne.symm hkn) hwk hxk
  have st2 := st.kept2 (lo := B + 6 + 2 * n) k2 (fun j e => by subst e; exact hlo.1) (Nat.le_refl _) (fun gb cur hgb _ e => by subst e; obtain ⟨cs, hcs, _⟩ := hk; rw [hcs] at hgb; cases hgb)
  refine ⟨st2, ?_, ?_, r2.orow, r2.nrow, r2.a0, r2.a1, r2.a2, r2.a3, r2.x0, r2.x1, r2.x2, r2.x3, r2.x4, r2.x5, r2.x6⟩
  · have e : decide (hdOf i < n) = decide (1 < n) := by unfold hdOf; by_cases h0 : i = 0 <;> simp [h0] <;> omega
    rw [e]
    exact pm.kept k2 (by omega)
  · refine (hk.set i (.bool false)).congr (fun t ht => ?_)
    by_cases e : t = i
    · subst e; simp
    · have : t ≠ n := by omega
      simp [e, this]

set_option maxRecDepth 100000 in
set_option maxHeartbeats 8000000 in
theorem twice_any (peer : ByteArray) (a : Option Addr) (n c : Nat) (i d o f : Int) (g : Bool) (fo ne : Nat → Bool) (w : World) (hp : peer.size ≤ maxLen) (hs : n ≠ 0 → ∃ b off, a = some ⟨b, off, none⟩ ∧ Specs w b off n fo ne) :
    Calls Try.prog 3 #[.string peer, .slice a n c, .int .i64 i, .int .i64 d, .int .i64 o, .int .i64 f, .bool g] w fun e w' => e = .returned (.bool true) ∧ Below w.heap.size w w' := by
  have HS := hide hs
  clear hs
  by_cases h1 : peer.size ≤ 65536
  · by_cases h2 : n ≤ 65536
    · go_enter Try.func3, Try.ntmps3
      go_wp2_with fail
      refine (zz_any peer a n c i d o f g w).mono ?_
      rintro e w1 ⟨⟨b, rfl, _⟩, rfl⟩
      cases b with
      | false =>
        go_wp2_with fail
        go_ret
        exact ⟨rfl, (Kept.refl (fun _ => False) w1).below (Nat.le_refl _) (fun i h => h.elim)⟩
      | true =>
        go_wp2_with fail
        refine (shape_any n i d o w1).mono ?_
        rintro e w1 ⟨⟨b, rfl, hsh⟩, rfl⟩
        cases b with
        | false =>
          go_wp2_with fail
          go_ret
          exact ⟨rfl, (Kept.refl (fun _ => False) w1).below (Nat.le_refl _) (fun i h => h.elim)⟩
        | true =>
          obtain ⟨s1, s2, s3, s4, s5, s6, s7, s8⟩ := hsh rfl
          obtain ⟨i, rfl⟩ := Int.eq_ofNat_of_zero_le s2
          obtain ⟨b, off, rfl, hsp⟩ := unhide HS (by omega)
          clear HS hsh
          have HSP := hide hsp
          have HS8 := hide s8
          clear hsp s8
          go_wp2_with fail
          refine (build_any peer b off n c d o f g fo ne w1 hp (unhide HSP) (by omega) h2 s5 s7 w1.heap.size rfl).mono ?_
          rintro e w2 ⟨rfl, hst, hpm, hk⟩
          generalize hB : w1.heap.size = B at *
          have HB := hide hB
          have hsz := st_size hst (by omega)
          have HST := hide hst
          have HPM := hide hpm
          have HK := hide hk
          clear hB hst hpm hk
          go_wp2_with fail
          have hwb := heap_alloc_new w2 (.cells #[pt (B + 2), pt (B + 3), .slice (some ⟨B + 4, 0, none⟩) n n, .slice (some ⟨B + 5, 0, none⟩) n n] 30)
          have hk2 := (unhide HK).alloc (.cells #[pt (B + 2), pt (B + 3), .slice (some ⟨B + 4, 0, none⟩) n n, .slice (some ⟨B + 5, 0, none⟩) n n] 30)
          have hkk := (Kept.refl (fun _ => False) w2).alloc (.cells #[pt (B + 2), pt (B + 3), .slice (some ⟨B + 4, 0, none⟩) n n, .slice (some ⟨B + 5, 0, none⟩) n n] 30)
          have hst2 := (unhide HST).keptAll hkk
          have hpm2 := (unhide HPM).kept hkk (fun e => e)
          have hsz2 : (w2.alloc (.cells #[pt (B + 2), pt (B + 3), .slice (some ⟨B + 4, 0, none⟩) n n, .slice (some ⟨B + 5, 0, none⟩) n n] 30)).heap.size = w2.heap.size + 1 := by simp
          clear hkk HK HST HPM
          generalize (w2.alloc (.cells #[pt (B + 2), pt (B + 3), .slice (some ⟨B + 4, 0, none⟩) n n, .slice (some ⟨B + 5, 0, none⟩) n n] 30)) = w3 at *
          generalize w2.heap.size = wb at *
          refine (fresh_any b off n c d o f g fo ne w3 ((unhide HSP).kept hk2 (fun e => e)) h2).mono ?_
          rintro e w4 ⟨kr, or, nr, rfl, hkr, hor, hnr, hkn, g1, g2, g3, hk4⟩
          have hk5 := hk4.alloc (.cells #[.slice (some ⟨kr, 0, none⟩) n n, .int .i64 d, .int .i64 o, .slice (some ⟨or, 0, none⟩) n n, .slice (some ⟨nr, 0, none⟩) n n, .int .i64 f, .bool g] 35)
          have hk45 := (Kept.refl (fun _ => False) w4).alloc (.cells #[.slice (some ⟨kr, 0, none⟩) n n, .int .i64 d, .int .i64 o, .slice (some ⟨or, 0, none⟩) n n, .slice (some ⟨nr, 0, none⟩) n n, .int .i64 f, .bool g] 35)
          have hxb := heap_alloc_new w4 (.cells #[.slice (some ⟨kr, 0, none⟩) n n, .int .i64 d, .int .i64 o, .slice (some ⟨or, 0, none⟩) n n, .slice (some ⟨nr, 0, none⟩) n n, .int .i64 f, .bool g] 35)
          have hwb5 := hk5.blk hwb (fun e => e)
          have hkx : kr < w4.heap.size := by obtain ⟨cs, hcs, _⟩ := hkr; exact blk_lt hcs
          have hox : w3.heap.size ≤ w4.heap.size := hk4.size
          have hst5 := hst2.keptAll hk5
          have hpm5 := hpm2.kept hk5 (fun e => e)
          have hkr5 := (rowIs_kept hkr hk45 (fun e => e)).congr (g := fun t => .bool (decide (t ≠ n))) (fun t ht => by simp; omega)
          have hor5 := rowIs_kept hor hk45 (fun e => e)
          have hnr5 := rowIs_kept hnr hk45 (fun e => e)
          have hk15 := hk2.trans hk5 (fun i _ e => e)
          have a3 : (w4.alloc (.cells #[.slice (some ⟨kr, 0, none⟩) n n, .int .i64 d, .int .i64 o, .slice (some ⟨or, 0, none⟩) n n, .slice (some ⟨nr, 0, none⟩) n n, .int .i64 f, .bool g] 35)).cell? ⟨wb, 3, none⟩ = some (.slice (some ⟨B + 5, 0, none⟩) n n) := by rw [blk_cell hwb5]; rfl
          have HA : Hid (All (w4.alloc (.cells #[.slice (some ⟨kr, 0, none⟩) n n, .int .i64 d, .int .i64 o, .slice (some ⟨or, 0, none⟩) n n, .slice (some ⟨nr, 0, none⟩) n n, .int .i64 f, .bool g] 35)) B n n kr or nr wb w4.heap.size peer d o f g fo ne) := by
            refine ⟨hst5, ?_, hkr5, hor5, hnr5, ?_, ?_, ?_, a3, ?_, ?_, ?_, ?_, ?_, ?_, ?_⟩
            · have e : decide (hdOf n < n) = true := by rw [decide_eq_true_eq]; unfold hdOf; split <;> omega
              rw [e]
              exact hpm5
            all_goals first | (rw [blk_cell hwb5]; rfl) | (rw [blk_cell hxb]; rfl)
          have ei := hst5.erow.cell (i := i) (by omega)
          have HLO : Hid (B + 6 + 2 * n ≤ kr ∧ B + 6 + 2 * n ≤ or ∧ B + 6 + 2 * n ≤ nr ∧ B + 6 + 2 * n ≤ wb ∧ B + 6 + 2 * n ≤ w4.heap.size) := by refine ⟨?_, ?_, ?_, ?_, ?_⟩ <;> omega
          have HWK : Hid (wb ≠ kr) := by show wb ≠ kr; omega
          have HXK : Hid (w4.heap.size ≠ kr) := by show w4.heap.size ≠ kr; omega
          have HK15 := hide hk15
          clear hk5 hk45 hxb hwb5 hkx hox hst5 hpm5 hkr5 hor5 hnr5 hk15 hwb hk2 hst2 hpm2 hsz2 hkr hor hnr g1 g2 g3 hk4
          go_wp2_with fail
          clear a3 ei HSP
          generalize (w4.alloc (.cells #[.slice (some ⟨kr, 0, none⟩) n n, .int .i64 d, .int .i64 o, .slice (some ⟨or, 0, none⟩) n n, .slice (some ⟨nr, 0, none⟩) n n, .int .i64 f, .bool g] 35)) = w5 at *
          generalize w4.heap.size = xb at *
          have hnt : ∀ b : Nat, B + 6 + 2 * n ≤ b → ¬ Turn B n b := fun b hb ht => by unfold Turn at ht; omega
          have HNT := hide hnt
          clear hnt
          have hhd : decide (hdOf n < n) = true := by rw [decide_eq_true_eq]; unfold hdOf; split <;> omega
          have HHD := hide hhd
          clear hhd
          have hge : ∀ j, j < w1.heap.size → Turn B n j → False := fun j hj ht => by have := unhide HB; unfold Turn at ht; omega
          have HGE := hide hge
          clear hge
          by_cases hd1 : d = -1
          · have ho1 := unhide HS8 hd1
            subst hd1 ho1
            clear HS8
            refine (forgetU_any (ebk B n i) true w5 _ (forget_free w5 B n i peer f g fo ne hp (by omega) (unhide HA).st (by have h := (unhide HA).pm; rw [unhide HHD] at h; exact h))).mono ?_
            rintro e w6 ⟨rfl, hst6, hpm6, hk6⟩
            have x0 := ((unhide HA).rest.kept hk6 (unhide HNT _ (unhide HLO).2.1) (unhide HNT _ (unhide HLO).2.2.1) (unhide HNT _ (unhide HLO).2.2.2.1) (unhide HNT _ (unhide HLO).2.2.2.2)).x0
            have hkr6 := rowIs_kept (unhide HA).krow hk6 (unhide HNT _ (unhide HLO).1)
            have kc := hkr6.cell (i := i) (by omega)
            have kf := hkr6.frozen i
            have HA7 := hide ((unhide HA).forgot (i := i) (by omega) hkn hst6 hpm6 hk6 (unhide HLO) (unhide HWK) (unhide HXK))
            have HK7 := hide (((unhide HK15).trans hk6 (unhide HGE)).setCell (p := ⟨kr, i, none⟩) (fun e => by have := (unhide HLO).1; have := unhide HB; simp at e; omega) (.bool false))
            clear hst6 hpm6 hk6 hkr6 HA HK15
            go_upto_region 13 with fail
            generalize (w6.setCell ⟨kr, i, none⟩ (.bool false)) = w7 at *
            clear x0 kc kf
            have a0 := (unhide HA7).a0
            have a1 := (unhide HA7).a1
            have a2 := (unhide HA7).a2
            have a3 := (unhide HA7).a3
            have x0 := (unhide HA7).x0
            have x1 := (unhide HA7).x1
            have x2 := (unhide HA7).x2
            have x3 := (unhide HA7).x3
            have x4 := (unhide HA7).x4
            have x5 := (unhide HA7).x5
            have x6 := (unhide HA7).x6
            go_wp2_with fail
            refine (holds_any w7 B n i kr or nr peer _ _ f g fo ne hp (by omega) h2 (by omega) (by omega) (by omega) (unhide HA7).st (unhide HA7).pm (unhide HA7).krow (unhide HA7).orow (unhide HA7).nrow).mono ?_
            rintro e w8 ⟨rfl, hk⟩
            have HA8 := hide ((unhide HA7).keptAll hk)
            have HK8 := hide ((unhide HK7).trans hk (fun j _ e => e))
            clear hk a0 a1 a2 a3 x0 x1 x2 x3 x4 x5 x6 HA7 HK7
            go_wp2_with fail
            refine (forgetU_any (ebk B n i) true w8 _ (forget_gone w8 B n i peer f g _ _ _ fo ne (by omega) (unhide HA8).st (unhide HA8).pm)).mono ?_
            rintro e w9 ⟨rfl, hst9, hpm9, hk9⟩
            have HA9 := hide ((unhide HA8).turn hst9 hpm9 hk9 (unhide HLO) rfl)
            have HK9 := hide ((unhide HK8).trans hk9 (unhide HGE))
            clear hst9 hpm9 hk9 HA8 HK8
            have a0 := (unhide HA9).a0
            have a1 := (unhide HA9).a1
            have a2 := (unhide HA9).a2
            have a3 := (unhide HA9).a3
            have x0 := (unhide HA9).x0
            have x1 := (unhide HA9).x1
            have x2 := (unhide HA9).x2
            have x3 := (unhide HA9).x3
            have x4 := (unhide HA9).x4
            have x5 := (unhide HA9).x5
            have x6 := (unhide HA9).x6
            go_wp2_with fail
            refine (holds_any w9 B n i kr or nr peer _ _ f g fo ne hp (by omega) h2 (by omega) (by omega) (by omega) (unhide HA9).st (unhide HA9).pm (unhide HA9).krow (unhide HA9).orow (unhide HA9).nrow).mono ?_
            rintro e w10 ⟨rfl, hk⟩
            have HA10 := hide ((unhide HA9).keptAll hk)
            have HK10 := hide ((unhide HK9).trans hk (fun j _ e => e))
            clear hk a0 a1 a2 a3 x0 x1 x2 x3 x4 x5 x6 HA9 HK9
            go_wp2_with fail
            go_ret
            exact ⟨rfl, (unhide HK10).below (Nat.le_refl _) (fun j e => e.elim)⟩
          · have hpk : pk (ebk B n) d = some ⟨ebk B n d.toNat, 0, none⟩ := by unfold pk; rw [if_neg (by omega)]
            have HPK := hide hpk
            clear hpk HS8
            refine (forgetU_any (ebk B n i) false w5 _ (forget_busy w5 B n i peer f g _ _ fo ne (by omega) (by have h := (unhide HA).st; rw [unhide HPK] at h; exact h) (by have h := (unhide HA).pm; rw [unhide HHD] at h; exact h))).mono ?_
            rintro e w7 ⟨rfl, hst6, hpm6, hk6⟩
            have HA7 := hide ((unhide HA).turn (by rw [unhide HPK]; exact hst6) (by rw [unhide HHD]; exact hpm6) hk6 (unhide HLO) rfl)
            have HK7 := hide ((unhide HK15).trans hk6 (unhide HGE))
            clear hst6 hpm6 hk6 HA HK15
            go_upto_region 13 with fail
            have a0 := (unhide HA7).a0
            have a1 := (unhide HA7).a1
            have a2 := (unhide HA7).a2
            have a3 := (unhide HA7).a3
            have x0 := (unhide HA7).x0
            have x1 := (unhide HA7).x1
            have x2 := (unhide HA7).x2
            have x3 := (unhide HA7).x3
            have x4 := (unhide HA7).x4
            have x5 := (unhide HA7).x5
            have x6 := (unhide HA7).x6
            go_wp2_with fail
            refine (holds_any w7 B n n kr or nr peer _ _ f g fo ne hp (by omega) h2 (by omega) (by omega) (by omega) (unhide HA7).st (unhide HA7).pm (unhide HA7).krow (unhide HA7).orow (unhide HA7).nrow).mono ?_
            rintro e w8 ⟨rfl, hk⟩
            have HA8 := hide ((unhide HA7).keptAll hk)
            have HK8 := hide ((unhide HK7).trans hk (fun j _ e => e))
            clear hk a0 a1 a2 a3 x0 x1 x2 x3 x4 x5 x6 HA7 HK7
            go_wp2_with fail
            refine (forgetU_any (ebk B n i) false w8 _ (forget_busy w8 B n i peer f g _ _ fo ne (by omega) (by have h := (unhide HA8).st; rw [unhide HPK] at h; exact h) (by have h := (unhide HA8).pm; rw [unhide HHD] at h; exact h))).mono ?_
            rintro e w9 ⟨rfl, hst9, hpm9, hk9⟩
            have HA9 := hide ((unhide HA8).turn (by rw [unhide HPK]; exact hst9) (by rw [unhide HHD]; exact hpm9) hk9 (unhide HLO) rfl)
            have HK9 := hide ((unhide HK8).trans hk9 (unhide HGE))
            clear hst9 hpm9 hk9 HA8 HK8
            have a0 := (unhide HA9).a0
            have a1 := (unhide HA9).a1
            have a2 := (unhide HA9).a2
            have a3 := (unhide HA9).a3
            have x0 := (unhide HA9).x0
            have x1 := (unhide HA9).x1
            have x2 := (unhide HA9).x2
            have x3 := (unhide HA9).x3
            have x4 := (unhide HA9).x4
            have x5 := (unhide HA9).x5
            have x6 := (unhide HA9).x6
            go_wp2_with fail
            refine (holds_any w9 B n n kr or nr peer _ _ f g fo ne hp (by omega) h2 (by omega) (by omega) (by omega) (unhide HA9).st (unhide HA9).pm (unhide HA9).krow (unhide HA9).orow (unhide HA9).nrow).mono ?_
            rintro e w10 ⟨rfl, hk⟩
            have HA10 := hide ((unhide HA9).keptAll hk)
            have HK10 := hide ((unhide HK9).trans hk (fun j _ e => e))
            clear hk a0 a1 a2 a3 x0 x1 x2 x3 x4 x5 x6 HA9 HK9
            go_wp2_with fail
            go_ret
            exact ⟨rfl, (unhide HK10).below (Nat.le_refl _) (fun j e => e.elim)⟩
    · go_enter Try.func3, Try.ntmps3
      go_wp2_with fail
      refine (zz_any peer a n c i d o f g w).mono ?_
      rintro e w1 ⟨⟨b, rfl, _⟩, rfl⟩
      cases b with
      | false =>
        go_wp2_with fail
        go_ret
        exact ⟨rfl, (Kept.refl (fun _ => False) w1).below (Nat.le_refl _) (fun i h => h.elim)⟩
      | true =>
        go_wp2_with fail
        go_ret
        exact ⟨rfl, (Kept.refl (fun _ => False) w1).below (Nat.le_refl _) (fun i h => h.elim)⟩
  · go_enter Try.func3, Try.ntmps3
    go_wp2_with fail
    refine (zz_any peer a n c i d o f g w).mono ?_
    rintro e w1 ⟨⟨b, rfl, _⟩, rfl⟩
    cases b with
    | false =>
      go_wp2_with fail
      go_ret
      exact ⟨rfl, (Kept.refl (fun _ => False) w1).below (Nat.le_refl _) (fun i h => h.elim)⟩
    | true =>
      go_wp2_with fail
      go_ret
      exact ⟨rfl, (Kept.refl (fun _ => False) w1).below (Nat.le_refl _) (fun i h => h.elim)⟩

end Go.Proofs.Qxb6616570a
