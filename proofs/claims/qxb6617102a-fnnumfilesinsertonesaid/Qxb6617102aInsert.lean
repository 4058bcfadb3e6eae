/- FnNumFilesInsertOne: the law's walk. -/
import Derived.Test.Qxb6617102aIns
import Derived.Deep.Cut
import Derived.Deep.CutRange
namespace Go.Proofs.Qxb6617102a
open Go.RowKit

def addOf (b : Bool) : Int := if b then 0 else 1

set_option maxRecDepth 100000 in
set_option maxHeartbeats 16000000 in
theorem insert_any (name : ByteArray) (pl : Int) (ap : Option Addr) (np cp : Nat) (ln : Int) (a0 : Option Addr) (n0 c0 : Nat) (A : Nat → ByteArray) (a1 : Option Addr) (n1 c1 : Nat) (L : Nat → Int) (a2 : Option Addr) (n2 c2 : Nat) (D : Nat → Bool) (a3 : Option Addr) (n3 c3 : Nat) (E : Nat → Bool) (ex : Bool) (k nl : Int) (npd : Bool) (w : World)
    (h0 : Row w a0 n0 A) (h1 : Sl w a1 n1 (fun j => .int .i64 (L j))) (h2 : Sl w a2 n2 (fun j => .bool (D j))) (h3 : Sl w a3 n3 (fun j => .bool (E j))) (z1 : a1 = none → n1 = 0 ∧ c1 = 0) :
    Calls Try.prog 4 #[.string name, .int .i64 pl, .slice ap np cp, .int .i64 ln, .slice a0 n0 c0, .slice a1 n1 c1, .slice a2 n2 c2, .slice a3 n3 c3, .bool ex, .int .i64 k, .int .i64 nl, .bool npd] w fun e w' => e = .returned (.bool true) ∧ Kept (fun _ => False) w w' := by
  have H0 := hide h0
  have H1 := hide h1
  have H2 := hide h2
  have H3 := hide h3
  have Z1 := hide z1
  clear h0 h1 h2 h3 z1
  go_enter Try.func4, Try.ntmps4
  go_wp2_with fail
  refine (zzInsert_any name pl ap np cp ln a0 n0 c0 A a1 n1 c1 a2 n2 c2 a3 n3 c3 ex k nl npd w (unhide H0)).mono ?_
  rintro e w1 ⟨⟨b, rfl, hs⟩, rfl⟩
  cases b with
  | false =>
    go_wp2_with fail
    go_ret
    exact ⟨rfl, Kept.refl _ w1⟩
  | true =>
  obtain ⟨m0, m1, m2, m3⟩ := hs rfl
  clear hs
  go_wp2_with fail
  refine (big_any name ap np cp a0 n0 c0 A a1 n1 c1 a2 n2 c2 a3 n3 c3 w1 (unhide H0)).mono ?_
  rintro e w2 ⟨⟨b, rfl, _⟩, rfl⟩
  cases b with
  | true =>
    go_wp2_with fail
    go_ret
    exact ⟨rfl, Kept.refl _ w2⟩
  | false =>
  go_wp2_with fail
  refine (shape_any a0 n0 c0 a1 n1 c1 a2 n2 c2 a3 n3 c3 w2).mono ?_
  rintro e w3 ⟨⟨b, rfl, hs⟩, rfl⟩
  cases b with
  | false =>
    go_wp2_with fail
    go_ret
    exact ⟨rfl, Kept.refl _ w3⟩
  | true =>
  obtain ⟨e0, e2, e3⟩ := hs rfl
  clear hs
  subst e0
  subst e2
  subst e3
  go_upto_if 64 with fail
  go_cut [25] from 27 (fun s wc => wc = w3 ∧ s = .int .i64 (addOf npd))
  case first =>
    cases npd with
    | true =>
      go_wp2_with fail
      go_meet
      exact ⟨rfl, rfl⟩
    | false =>
      go_wp2_with fail
      go_meet
      exact ⟨rfl, rfl⟩
  case rest =>
  obtain ⟨rfl, rfl⟩ := hcut
  have q24 := eql24 a1 n3 c1
  cases a1 with
  | none =>
    obtain ⟨rfl, rfl⟩ := unhide Z1 rfl
    clear Z1
    go_wp2_with fail
    have hnb := heap_alloc_new wc (.cells #[.string name, .int .i64 nl, .bool npd, .bool false] 33)
    have HK := hide ((Kept.refl (fun _ => False) wc).alloc (.cells #[.string name, .int .i64 nl, .bool npd, .bool false] 33))
    generalize (wc.alloc (.cells #[.string name, .int .i64 nl, .bool npd, .bool false] 33)) = w4 at *
    generalize hnbq : wc.heap.size = nb at *
    have HNQ := hide hnbq
    clear hnbq
    have HNB := hide hnb
    clear hnb H0 H1 H2 H3
    refine (mkInfo_any name pl ap np cp ln none 0 0 ex w4).mono ?_
    rintro e w5 ⟨rfl, rfl⟩
    go_wp2_with fail
    refine (num_nil w4.heap.size _ (by rw [blk_cell (heap_alloc_new w4 (.cells #[.string name, .int .i64 pl, .slice ap np cp, .int .i64 ln, .slice none 0 0, .bool ex] 44))]; rfl)).mono ?_
    rintro e w6 ⟨rfl, rfl⟩
    have k1 := (Kept.refl (fun _ => False) w4).alloc (.cells #[.string name, .int .i64 pl, .slice ap np cp, .int .i64 ln, .slice none 0 0, .bool ex] 44)
    replace HK := hide ((unhide HK).trans k1 (fun _ _ e => e))
    replace HNB := hide (k1.blk (unhide HNB) (fun e => e))
    clear k1
    generalize (w4.alloc (.cells #[.string name, .int .i64 pl, .slice ap np cp, .int .i64 ln, .slice none 0 0, .bool ex] 44)) = w7 at *
    have hmk : (Instr.makeSlice 31 (.int .i64 1) (.int .i64 1)).run Try.prog w7 = .ok (.slice (some ⟨w7.heap.size, 0, none⟩) 1 1) (w7.alloc (.cells (madeCells zf (1 * 4)) 33)) := make_run w7 1 (by omega)
    go_upto_region 14 with fail
    have hfl := made_fl w7 1
    have hge := (unhide HK).size
    have k1 := (Kept.refl (fun _ => False) w7).alloc (.cells (madeCells zf (1 * 4)) 33)
    have hnb := k1.blk (unhide HNB) (fun e => e)
    replace HK := hide ((unhide HK).trans k1 (fun _ _ e => e))
    have hn7 := unhide HNB
    clear k1 hmk HNB
    have hne : nb ≠ w7.heap.size := by have := lt_of_block hn7; omega
    have HGE := hide hge
    clear hn7 hge
    generalize (w7.alloc (.cells (madeCells zf (1 * 4)) 33)) = w8 at *
    generalize w7.heap.size = fb at *
    have b0 : w8.cell? ⟨nb, 0, none⟩ = some (.string name) := by rw [blk_cell hnb]; rfl
    have b1 : w8.cell? ⟨nb, 1, none⟩ = some (.int .i64 nl) := by rw [blk_cell hnb]; rfl
    have b2 : w8.cell? ⟨nb, 2, none⟩ = some (.bool npd) := by rw [blk_cell hnb]; rfl
    have b3 : w8.cell? ⟨nb, 3, none⟩ = some (.bool false) := by rw [blk_cell hnb]; rfl
    have y0 : w8.cell? ⟨fb, 0, none⟩ = some (.string ByteArray.empty) := hfl.c0 (j := 0) (by omega)
    have y1 : w8.cell? ⟨fb, 1, none⟩ = some (.int .i64 0) := hfl.c1 (j := 0) (by omega)
    have y2 : w8.cell? ⟨fb, 2, none⟩ = some (.bool false) := hfl.c2 (j := 0) (by omega)
    have y3 : w8.cell? ⟨fb, 3, none⟩ = some (.bool false) := hfl.c3 (j := 0) (by omega)
    have f0 := hfl.free 0
    have f1 := hfl.free 1
    have f2 := hfl.free 2
    have f3 := hfl.free 3
    have HFL := hide (hfl.put 0 (name, nl, npd, false))
    have HKP := hide (put4_kept (b := fb) (unhide HK) 0 (name, nl, npd, false) (fun e => by have := unhide HGE; omega))
    clear hfl hnb
    go_wp2_with fail
    have HFL2 : Hid (Fl ((((w8.setCell ⟨fb, 0, none⟩ (.string name)).setCell ⟨fb, 1, none⟩ (.int .i64 nl)).setCell ⟨fb, 2, none⟩ (.bool npd)).setCell ⟨fb, 3, none⟩ (.bool false)) fb 1 (fun t => if t = 0 then (name, nl, npd, false) else file0)) := HFL
    have HK2 : Hid (Kept (fun _ => False) wc ((((w8.setCell ⟨fb, 0, none⟩ (.string name)).setCell ⟨fb, 1, none⟩ (.int .i64 nl)).setCell ⟨fb, 2, none⟩ (.bool npd)).setCell ⟨fb, 3, none⟩ (.bool false))) := HKP
    clear HFL HKP HK b0 b1 b2 b3 y0 y1 y2 y3 f0 f1 f2 f3
    generalize ((((w8.setCell ⟨fb, 0, none⟩ (.string name)).setCell ⟨fb, 1, none⟩ (.int .i64 nl)).setCell ⟨fb, 2, none⟩ (.bool npd)).setCell ⟨fb, 3, none⟩ (.bool false)) = w9 at *
    refine (mkInfo_any name pl ap np cp ln (some ⟨fb, 0, none⟩) 1 1 false w9).mono ?_
    rintro e w10 ⟨rfl, rfl⟩
    go_wp2_with fail
    refine (num_any w9.heap.size fb 1 (fun t => if t = 0 then (name, nl, npd, false) else file0) _ (by rw [blk_cell (heap_alloc_new w9 (.cells #[.string name, .int .i64 pl, .slice ap np cp, .int .i64 ln, .slice (some ⟨fb, 0, none⟩) 1 1, .bool false] 44))]; rfl) ((unhide HFL2).kept ((Kept.refl (fun _ => False) w9).alloc _) (fun e => e)) (by omega)).mono ?_
    rintro e w11 ⟨rfl, hk⟩
    have hcn : ((cnt (fun t => if t = 0 then (name, nl, npd, false) else file0) 1 : Nat) : Int) = addOf npd := by
      rw [cnt_succ]
      cases npd <;> simp [cnt, addOf]
    rw [hcn]
    have HK3 := hide (((unhide HK2).alloc (.cells #[.string name, .int .i64 pl, .slice ap np cp, .int .i64 ln, .slice (some ⟨fb, 0, none⟩) 1 1, .bool false] 44)).trans hk (fun _ _ e => e))
    clear hk hcn
    generalize addOf npd = ad
    go_wp2_with fail
    go_ret
    exact ⟨rfl, unhide HK3⟩
  | some ad =>
    by_cases k0 : k < 0
    · go_wp2_with fail
      go_ret
      exact ⟨rfl, (Kept.refl _ wc).alloc _⟩
    by_cases k1 : k ≤ n3
    rotate_left
    · go_wp2_with fail
      go_ret
      exact ⟨rfl, (Kept.refl _ wc).alloc _⟩
    obtain ⟨k, rfl⟩ := Int.eq_ofNat_of_zero_le (show 0 ≤ k by omega)
    go_wp2_with fail
    have hnb := heap_alloc_new wc (.cells #[.string name, .int .i64 nl, .bool npd, .bool false] 33)
    have hk4 := (Kept.refl (fun _ => False) wc).alloc (.cells #[.string name, .int .i64 nl, .bool npd, .bool false] 33)
    replace H0 := hide ((unhide H0).kept hk4)
    replace H1 := hide ((unhide H1).kept hk4)
    replace H2 := hide ((unhide H2).kept hk4)
    replace H3 := hide ((unhide H3).kept hk4)
    have HK := hide hk4
    generalize (wc.alloc (.cells #[.string name, .int .i64 nl, .bool npd, .bool false] 33)) = w4 at *
    generalize hnbq : wc.heap.size = nb at *
    have HNQ := hide hnbq
    have HNB := hide hnb
    clear hnbq hnb hk4 q24 Z1
    have hmf := mkFiles_any a0 c0 A (some ad) c1 L a2 c2 D a3 c3 E n3 0 n3 w4 (unhide H0) (unhide H1) (unhide H2) (unhide H3) (by omega) m3
    simp only [Nat.zero_add] at hmf
    refine hmf.mono ?_
    rintro e w5 ⟨rfl, hfl, hk⟩
    clear hmf
    have hmk : (Instr.makeSlice 31 (.int .i64 ((n3 : Int) + 1)) (.int .i64 ((n3 : Int) + 1))).run Try.prog w5 = .ok (.slice (some ⟨w5.heap.size, 0, none⟩) (n3 + 1) (n3 + 1)) (w5.alloc (.cells (madeCells zf ((n3 + 1) * 4)) 33)) := by
      rw [show ((n3 : Int) + 1) = ((n3 + 1 : Nat) : Int) by omega]
      exact make_run w5 (n3 + 1) (by omega)
    have HFB := hide hfl
    have HK5 := hide hk
    clear hfl hk
    go_wp2_with fail
    have k6 := (Kept.refl (fun _ => False) w5).alloc (.cells (madeCells zf ((n3 + 1) * 4)) 33)
    have HA6 := hide (made_fl w5 (n3 + 1))
    have HB6 := hide ((unhide HFB).kept k6 (fun e => e))
    have HN6 := hide (k6.blk ((unhide HK5).blk (unhide HNB) (fun e => e)) (fun e => e))
    have HK6 := hide (((unhide HK).trans (unhide HK5) (fun _ _ e => e)).trans k6 (fun _ _ e => e))
    have hn4 := lt_of_block (unhide HNB)
    have hs45 := World.rowIs.lt (unhide HFB)
    have hs4 := (unhide HK).size
    clear k6 hmk HFB HK5 HNB HK H0 H1 H2 H3
    generalize (w5.alloc (.cells (madeCells zf ((n3 + 1) * 4)) 33)) = w6 at *
    generalize w5.heap.size = ab at *
    generalize w4.heap.size = fb at *
    generalize hFF : (fun t => (A t, L t, D t, E t)) = F at *
    clear hFF
    go_loopw [33] (fun i wr => ∃ t : Nat, t ≤ k ∧ i = .int .i64 t ∧ Fl wr ab (n3 + 1) (Af1 F t) ∧ Fl wr fb n3 F ∧ wr.heap[nb]? = some (.cells #[.string name, .int .i64 nl, .bool npd, .bool false] 33 (0, 0)) ∧ Kept (fun _ => False) wc wr) (fun i _ => k - (intOf i).toNat)
    case atStart => exact ⟨0, by omega, rfl, unhide HA6, unhide HB6, unhide HN6, unhide HK6⟩
    case round =>
      obtain ⟨t, ht, rfl, ha, hb, hnn, hk⟩ := hrel
      clear HA6 HB6 HN6 HK6
      by_cases hlt : t < k
      · have x0 := hb.c0 (j := t) (by omega)
        have x1 := hb.c1 (j := t) (by omega)
        have x2 := hb.c2 (j := t) (by omega)
        have x3 := hb.c3 (j := t) (by omega)
        have y0 := ha.c0 (j := t) (by omega)
        have y1 := ha.c1 (j := t) (by omega)
        have y2 := ha.c2 (j := t) (by omega)
        have y3 := ha.c3 (j := t) (by omega)
        have f0 := ha.free (t * 4)
        have f1 := ha.free (t * 4 + 1)
        have f2 := ha.free (t * 4 + 2)
        have f3 := ha.free (t * 4 + 3)
        have HP := hide ((ha.put t (F t)).congr (fun u _ => af1_step F t u))
        have k7 := put4_kept (G := fun i => i = ab) (b := ab) (Kept.refl (fun i => i = ab) wr) t (F t) (fun _ => rfl)
        have HB7 := hide (hb.kept k7 (by omega))
        have HN7 := hide (k7.blk hnn (by omega))
        have HK7 := hide (put4_kept (b := ab) hk t (F t) (fun e => by omega))
        clear ha hb hnn hk k7
        generalize F t = x at *
        obtain ⟨p0, p1, p2, p3⟩ := x
        go_wp2_with fail
        go_roundw
        case rel => exact ⟨t + 1, by omega, by go_num, unhide HP, unhide HB7, unhide HN7, unhide HK7⟩
        case measure => simp [intOf]; omega
      · have e : t = k := by omega
        subst e
        have b0 : wr.cell? ⟨nb, 0, none⟩ = some (.string name) := by rw [blk_cell hnn]; rfl
        have b1 : wr.cell? ⟨nb, 1, none⟩ = some (.int .i64 nl) := by rw [blk_cell hnn]; rfl
        have b2 : wr.cell? ⟨nb, 2, none⟩ = some (.bool npd) := by rw [blk_cell hnn]; rfl
        have b3 : wr.cell? ⟨nb, 3, none⟩ = some (.bool false) := by rw [blk_cell hnn]; rfl
        have y0 := ha.c0 (j := t) (by omega)
        have y1 := ha.c1 (j := t) (by omega)
        have y2 := ha.c2 (j := t) (by omega)
        have y3 := ha.c3 (j := t) (by omega)
        have f0 := ha.free (t * 4)
        have f1 := ha.free (t * 4 + 1)
        have f2 := ha.free (t * 4 + 2)
        have f3 := ha.free (t * 4 + 3)
        have HP := hide ((ha.put t (name, nl, npd, false)).congr (fun u _ => af2_start F t (name, nl, npd, false) u))
        have k7 := put4_kept (G := fun i => i = ab) (b := ab) (Kept.refl (fun i => i = ab) wr) t (name, nl, npd, false) (fun _ => rfl)
        have HB7 := hide (hb.kept k7 (by omega))
        have HK7 := hide (put4_kept (b := ab) hk t (name, nl, npd, false) (fun e => by omega))
        clear ha hb hnn hk k7
        go_wp2_with fail
        have HP2 : Hid (Fl ((((wr.setCell ⟨ab, t * 4, none⟩ (.string name)).setCell ⟨ab, t * 4 + 1, none⟩ (.int .i64 nl)).setCell ⟨ab, t * 4 + 2, none⟩ (.bool npd)).setCell ⟨ab, t * 4 + 3, none⟩ (.bool false)) ab (n3 + 1) (Af2 F t (name, nl, npd, false) 0)) := HP
        have HB2 : Hid (Fl ((((wr.setCell ⟨ab, t * 4, none⟩ (.string name)).setCell ⟨ab, t * 4 + 1, none⟩ (.int .i64 nl)).setCell ⟨ab, t * 4 + 2, none⟩ (.bool npd)).setCell ⟨ab, t * 4 + 3, none⟩ (.bool false)) fb n3 F) := HB7
        have HK2 : Hid (Kept (fun _ => False) wc ((((wr.setCell ⟨ab, t * 4, none⟩ (.string name)).setCell ⟨ab, t * 4 + 1, none⟩ (.int .i64 nl)).setCell ⟨ab, t * 4 + 2, none⟩ (.bool npd)).setCell ⟨ab, t * 4 + 3, none⟩ (.bool false))) := HK7
        clear HP HB7 HK7 b0 b1 b2 b3 y0 y1 y2 y3 f0 f1 f2 f3
        generalize ((((wr.setCell ⟨ab, t * 4, none⟩ (.string name)).setCell ⟨ab, t * 4 + 1, none⟩ (.int .i64 nl)).setCell ⟨ab, t * 4 + 2, none⟩ (.bool npd)).setCell ⟨ab, t * 4 + 3, none⟩ (.bool false)) = w9 at *
        generalize hx9 : ((name, nl, npd, false) : FileV) = x9 at *
        have hx92 : x9.2.2.1 = npd := by rw [← hx9]
        clear hx9
        go_loopw [34] (fun i wr2 => ∃ j : Nat, t ≤ j ∧ j ≤ n3 ∧ i = .int .i64 j ∧ Fl wr2 ab (n3 + 1) (Af2 F t x9 (j - t)) ∧ Fl wr2 fb n3 F ∧ Kept (fun _ => False) wc wr2) (fun i _ => n3 - (intOf i).toNat)
        case atStart => exact ⟨t, by omega, by omega, rfl, by simpa using unhide HP2, unhide HB2, unhide HK2⟩
        case round =>
          obtain ⟨j, hj1, hj2, rfl, ha, hb, hk⟩ := hrel
          clear HP2 HB2 HK2
          by_cases hlt2 : j < n3
          · have x0 := hb.c0 (j := j) (by omega)
            have x1 := hb.c1 (j := j) (by omega)
            have x2 := hb.c2 (j := j) (by omega)
            have x3 := hb.c3 (j := j) (by omega)
            have y0 := ha.c0 (j := j + 1) (by omega)
            have y1 := ha.c1 (j := j + 1) (by omega)
            have y2 := ha.c2 (j := j + 1) (by omega)
            have y3 := ha.c3 (j := j + 1) (by omega)
            have f0 := ha.free ((j + 1) * 4)
            have f1 := ha.free ((j + 1) * 4 + 1)
            have f2 := ha.free ((j + 1) * 4 + 2)
            have f3 := ha.free ((j + 1) * 4 + 3)
            have HP := hide ((ha.put (j + 1) (F j)).congr (F' := Af2 F t x9 (j + 1 - t)) (fun u _ => by
              have h9 := af2_step F t x9 (j - t) u
              rwa [show t + (j - t) + 1 = j + 1 by omega, show t + (j - t) = j by omega, show j - t + 1 = j + 1 - t by omega] at h9))
            have k7 := put4_kept (G := fun i => i = ab) (b := ab) (Kept.refl (fun i => i = ab) wr) (j + 1) (F j) (fun _ => rfl)
            have HB7 := hide (hb.kept k7 (by omega))
            have HK7 := hide (put4_kept (b := ab) hk (j + 1) (F j) (fun e => by omega))
            clear ha hb hk k7
            generalize F j = x at *
            obtain ⟨p0, p1, p2, p3⟩ := x
            go_wp2_with fail
            go_roundw
            case rel => exact ⟨j + 1, by omega, by omega, by go_num, unhide HP, unhide HB7, unhide HK7⟩
            case measure => simp [intOf]; omega
          · have e : j = n3 := by omega
            subst e
            have HA := hide (ha.congr (fun u hu => af2_end F t x9 j hj1 u hu))
            have HB := hide hb
            have HK := hide hk
            clear ha hb hk
            go_wp2_with fail
            refine (mkInfo_any name pl ap np cp ln (some ⟨fb, 0, none⟩) j j ex wr).mono ?_
            rintro e w10 ⟨rfl, rfl⟩
            go_wp2_with fail
            have k10 := (Kept.refl (fun _ => False) wr).alloc (.cells #[.string name, .int .i64 pl, .slice ap np cp, .int .i64 ln, .slice (some ⟨fb, 0, none⟩) j j, .bool ex] 44)
            have hc10 : (wr.alloc (.cells #[.string name, .int .i64 pl, .slice ap np cp, .int .i64 ln, .slice (some ⟨fb, 0, none⟩) j j, .bool ex] 44)).cell? ⟨wr.heap.size, 4, none⟩ = some (.slice (some ⟨fb, 0, none⟩) j j) := by
              rw [blk_cell (heap_alloc_new wr (.cells #[.string name, .int .i64 pl, .slice ap np cp, .int .i64 ln, .slice (some ⟨fb, 0, none⟩) j j, .bool ex] 44))]; rfl
            replace HA := hide ((unhide HA).kept k10 (fun e => e))
            replace HB := hide ((unhide HB).kept k10 (fun e => e))
            replace HK := hide ((unhide HK).trans k10 (fun _ _ e => e))
            clear k10
            generalize (wr.alloc (.cells #[.string name, .int .i64 pl, .slice ap np cp, .int .i64 ln, .slice (some ⟨fb, 0, none⟩) j j, .bool ex] 44)) = w11 at *
            generalize wr.heap.size = ib at *
            refine (num_any ib fb j F w11 hc10 (unhide HB) (by omega)).mono ?_
            rintro e w12 ⟨rfl, k12⟩
            replace HA := hide ((unhide HA).kept k12 (fun e => e))
            replace HK := hide ((unhide HK).trans k12 (fun _ _ e => e))
            clear k12 HB hc10
            have hle := cnt_le F j
            have hci := cnt_ins F t x9 j hj1
            rw [hx92] at hci
            generalize cnt F j = cb at *
            go_wp2_with fail
            refine (mkInfo_any name pl ap np cp ln (some ⟨ab, 0, none⟩) (j + 1) (j + 1) ex w12).mono ?_
            rintro e w13 ⟨rfl, rfl⟩
            go_wp2_with fail
            have k13 := (Kept.refl (fun _ => False) w12).alloc (.cells #[.string name, .int .i64 pl, .slice ap np cp, .int .i64 ln, .slice (some ⟨ab, 0, none⟩) (j + 1) (j + 1), .bool ex] 44)
            have hc13 : (w12.alloc (.cells #[.string name, .int .i64 pl, .slice ap np cp, .int .i64 ln, .slice (some ⟨ab, 0, none⟩) (j + 1) (j + 1), .bool ex] 44)).cell? ⟨w12.heap.size, 4, none⟩ = some (.slice (some ⟨ab, 0, none⟩) (j + 1) (j + 1)) := by
              rw [blk_cell (heap_alloc_new w12 (.cells #[.string name, .int .i64 pl, .slice ap np cp, .int .i64 ln, .slice (some ⟨ab, 0, none⟩) (j + 1) (j + 1), .bool ex] 44))]; rfl
            replace HA := hide ((unhide HA).kept k13 (fun e => e))
            replace HK := hide ((unhide HK).trans k13 (fun _ _ e => e))
            clear k13
            generalize (w12.alloc (.cells #[.string name, .int .i64 pl, .slice ap np cp, .int .i64 ln, .slice (some ⟨ab, 0, none⟩) (j + 1) (j + 1), .bool ex] 44)) = w14 at *
            generalize w12.heap.size = ic at *
            refine (num_any ic ab (j + 1) (ins F t x9) w14 hc13 (unhide HA) (by omega)).mono ?_
            rintro e w15 ⟨rfl, k15⟩
            replace HK := hide ((unhide HK).trans k15 (fun _ _ e => e))
            clear k15 HA hc13
            have hcz : ((cnt (ins F t x9) (j + 1) : Nat) : Int) = (cb : Int) + addOf npd := by
              rw [hci]
              cases npd <;> simp [addOf]
            rw [hcz]
            have hadr : (0 : Int) ≤ addOf npd ∧ addOf npd ≤ 1 := by cases npd <;> simp [addOf]
            obtain ⟨had1, had2⟩ := hadr
            clear hcz hci
            generalize addOf npd = ad9 at *
            go_wp2_with fail
            go_ret
            exact ⟨rfl, unhide HK⟩

end Go.Proofs.Qxb6617102a
