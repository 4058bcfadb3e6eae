/- FnLayoutCutAndSteps: the law's walk. -/
import Derived.Test.Qxb6617102aEnds
import Derived.Deep.Cut
import Derived.Deep.CutRange
import Derived.BigQuiet
namespace Go.Proofs.Qxb6617102a
open Go.RowKit

theorem En.kept {w w' : World} {b n : Nat} {G : Nat → Int} (h : En w b n G) (k : Kept (fun _ => False) w w') : En w' b n G := World.rowIs.of_block h (k.block b (World.rowIs.lt h) (fun e => e))
theorem En.at {w w' : World} {b n : Nat} {G : Nat → Int} (h : En w b n G) (k : Kept (fun _ => False) w w') {j : Nat} (hj : j < n) : w'.cell? ⟨b, j, none⟩ = some (.int .i64 (G j)) := World.rowIs.cell (h.kept k) hj

set_option maxRecDepth 100000 in
set_option maxHeartbeats 16000000 in
theorem cut_any (name : ByteArray) (pl : Int) (ap : Option Addr) (np cp : Nat) (ln : Int) (a0 : Option Addr) (n0 c0 : Nat) (A : Nat → ByteArray) (a1 : Option Addr) (n1 c1 : Nat) (L : Nat → Int) (a2 : Option Addr) (n2 c2 : Nat) (D : Nat → Bool) (a3 : Option Addr) (n3 c3 : Nat) (E : Nat → Bool) (ex : Bool) (k : Int) (w : World)
    (h0 : Row w a0 n0 A) (h1 : Sl w a1 n1 (fun j => .int .i64 (L j))) (h2 : Sl w a2 n2 (fun j => .bool (D j))) (h3 : Sl w a3 n3 (fun j => .bool (E j))) (z1 : a1 = none → n1 = 0 ∧ c1 = 0)
    (hin : ∀ j, j < n1 → (-9223372036854775808 : Int) ≤ L j ∧ L j ≤ 9223372036854775807) (hln : (-9223372036854775808 : Int) ≤ ln ∧ ln ≤ 9223372036854775807) :
    Calls Try.prog 3 #[.string name, .int .i64 pl, .slice ap np cp, .int .i64 ln, .slice a0 n0 c0, .slice a1 n1 c1, .slice a2 n2 c2, .slice a3 n3 c3, .bool ex, .int .i64 k] w fun e w' => e = .returned (.bool true) ∧ Kept (fun _ => False) w w' := by
  have H0 := hide h0
  have H1 := hide h1
  have H2 := hide h2
  have H3 := hide h3
  have Z1 := hide z1
  have HIN := hide hin
  have HLN := hide hln
  clear h0 h1 h2 h3 z1 hin hln
  go_enter Try.func3, Try.ntmps3
  go_wp2_with fail
  refine (zzCut_any name pl ap np cp ln a0 n0 c0 A a1 n1 c1 a2 n2 c2 a3 n3 c3 ex k w (unhide H0)).mono ?_
  rintro e w1 ⟨⟨b, rfl, hs⟩, rfl⟩
  cases b with
  | false =>
    go_wp2_with fail
    go_ret
    exact ⟨rfl, Kept.refl _ w1⟩
  | true =>
  obtain ⟨m0, m1, m2, m3⟩ := hs rfl
  clear hs
  go_wp2_with fail
  refine (big_any name ap np cp a0 n0 c0 A a1 n1 c1 a2 n2 c2 a3 n3 c3 w1 (unhide H0)).mono ?_
  rintro e w2 ⟨⟨b, rfl, _⟩, rfl⟩
  cases b with
  | true =>
    go_wp2_with fail
    go_ret
    exact ⟨rfl, Kept.refl _ w2⟩
  | false =>
  go_wp2_with fail
  refine (shape_any a0 n0 c0 a1 n1 c1 a2 n2 c2 a3 n3 c3 w2).mono ?_
  rintro e wc ⟨⟨b, rfl, hs⟩, rfl⟩
  cases b with
  | false =>
    go_wp2_with fail
    go_ret
    exact ⟨rfl, Kept.refl _ wc⟩
  | true =>
  obtain ⟨e0, e2, e3⟩ := hs rfl
  clear hs
  subst e0
  subst e2
  subst e3
  have q24 := eql24 a1 n3 c1
  cases a1 with
  | none =>
    obtain ⟨rfl, rfl⟩ := unhide Z1 rfl
    clear Z1 H0 H1 H2 H3 HIN
    go_wp2_with fail
    refine (mkInfo_any name pl ap np cp ln none 0 0 ex wc).mono ?_
    rintro e w5 ⟨rfl, rfl⟩
    have hnb := heap_alloc_new wc (.cells #[.string name, .int .i64 pl, .slice ap np cp, .int .i64 ln, .slice none 0 0, .bool ex] 44)
    have HK := hide ((Kept.refl (fun _ => False) wc).alloc (.cells #[.string name, .int .i64 pl, .slice ap np cp, .int .i64 ln, .slice none 0 0, .bool ex] 44))
    generalize (wc.alloc (.cells #[.string name, .int .i64 pl, .slice ap np cp, .int .i64 ln, .slice none 0 0, .bool ex] 44)) = w7 at *
    generalize hnbq : wc.heap.size = nb at *
    have HNQ := hide hnbq
    have HNB := hide hnb
    clear hnb hnbq q24
    have hmk : (Instr.makeSlice 31 (.int .i64 1) (.int .i64 1)).run Try.prog w7 = .ok (.slice (some ⟨w7.heap.size, 0, none⟩) 1 1) (w7.alloc (.cells (madeCells zf (1 * 4)) 33)) := make_run w7 1 (by omega)
    go_upto_region 10 with fail
    have hfl := made_fl w7 1
    have hge := (unhide HK).size
    have k1 := (Kept.refl (fun _ => False) w7).alloc (.cells (madeCells zf (1 * 4)) 33)
    have hnb := k1.blk (unhide HNB) (fun e => e)
    replace HK := hide ((unhide HK).trans k1 (fun _ _ e => e))
    have hn7 := unhide HNB
    clear k1 hmk HNB
    have hne : nb ≠ w7.heap.size := by have := lt_of_block hn7; omega
    have HGE := hide hge
    have HNB := hide hnb
    clear hn7 hge hnb
    generalize (w7.alloc (.cells (madeCells zf (1 * 4)) 33)) = w8 at *
    generalize w7.heap.size = fb at *
    have y0 : w8.cell? ⟨fb, 0, none⟩ = some (.string ByteArray.empty) := hfl.c0 (j := 0) (by omega)
    have y1 : w8.cell? ⟨fb, 1, none⟩ = some (.int .i64 0) := hfl.c1 (j := 0) (by omega)
    have y2 : w8.cell? ⟨fb, 2, none⟩ = some (.bool false) := hfl.c2 (j := 0) (by omega)
    have y3 : w8.cell? ⟨fb, 3, none⟩ = some (.bool false) := hfl.c3 (j := 0) (by omega)
    have f0 := hfl.free 0
    have f1 := hfl.free 1
    have f2 := hfl.free 2
    have f3 := hfl.free 3
    have HFL := hide (hfl.put 0 (name, ln, false, ex))
    have k8 := put4_kept (G := fun i => i = fb) (b := fb) (Kept.refl (fun i => i = fb) w8) 0 (name, ln, false, ex) (fun _ => rfl)
    have HNB8 := hide (k8.blk (unhide HNB) hne)
    have HKP := hide (put4_kept (b := fb) (unhide HK) 0 (name, ln, false, ex) (fun e => by have := unhide HGE; have := (unhide HNQ); omega))
    clear hfl k8
    go_wp2_with fail
    have HFL2 : Hid (Fl ((((w8.setCell ⟨fb, 0, none⟩ (.string name)).setCell ⟨fb, 1, none⟩ (.int .i64 ln)).setCell ⟨fb, 2, none⟩ (.bool false)).setCell ⟨fb, 3, none⟩ (.bool ex)) fb 1 (fun t => if t = 0 then (name, ln, false, ex) else file0)) := HFL
    have HK2 : Hid (Kept (fun _ => False) wc ((((w8.setCell ⟨fb, 0, none⟩ (.string name)).setCell ⟨fb, 1, none⟩ (.int .i64 ln)).setCell ⟨fb, 2, none⟩ (.bool false)).setCell ⟨fb, 3, none⟩ (.bool ex))) := HKP
    have HNB2 : Hid (((((w8.setCell ⟨fb, 0, none⟩ (.string name)).setCell ⟨fb, 1, none⟩ (.int .i64 ln)).setCell ⟨fb, 2, none⟩ (.bool false)).setCell ⟨fb, 3, none⟩ (.bool ex)).heap[nb]? = some (.cells #[.string name, .int .i64 pl, .slice ap np cp, .int .i64 ln, .slice none 0 0, .bool ex] 44 (0, 0))) := HNB8
    clear HFL HKP HK HNB HNB8 y0 y1 y2 y3 f0 f1 f2 f3
    generalize ((((w8.setCell ⟨fb, 0, none⟩ (.string name)).setCell ⟨fb, 1, none⟩ (.int .i64 ln)).setCell ⟨fb, 2, none⟩ (.bool false)).setCell ⟨fb, 3, none⟩ (.bool ex)) = w9 at *
    refine (mkInfo_any name pl ap np cp ln (some ⟨fb, 0, none⟩) 1 1 false w9).mono ?_
    rintro e w10 ⟨rfl, rfl⟩
    have k10 := (Kept.refl (fun _ => False) w9).alloc (.cells #[.string name, .int .i64 pl, .slice ap np cp, .int .i64 ln, .slice (some ⟨fb, 0, none⟩) 1 1, .bool false] 44)
    have HC10 := hide (heap_alloc_new w9 (.cells #[.string name, .int .i64 pl, .slice ap np cp, .int .i64 ln, .slice (some ⟨fb, 0, none⟩) 1 1, .bool false] 44))
    replace HFL2 := hide ((unhide HFL2).kept k10 (fun e => e))
    replace HK2 := hide ((unhide HK2).trans k10 (fun _ _ e => e))
    replace HNB2 := hide (k10.blk (unhide HNB2) (fun e => e))
    clear k10
    generalize (w9.alloc (.cells #[.string name, .int .i64 pl, .slice ap np cp, .int .i64 ln, .slice (some ⟨fb, 0, none⟩) 1 1, .bool false] 44)) = w10 at *
    generalize w9.heap.size = ib at *
    go_wp2_with fail
    refine (ends_nil nb ln w10 (by rw [blk_cell (unhide HNB2)]; rfl) (by rw [blk_cell (unhide HNB2)]; rfl)).mono ?_
    rintro e w11 ⟨es, rfl, hes, k11⟩
    replace HFL2 := hide ((unhide HFL2).kept k11 (fun e => e))
    replace HK2 := hide ((unhide HK2).trans k11 (fun _ _ e => e))
    replace HC10 := hide (k11.blk (unhide HC10) (fun e => e))
    have HES := hide hes
    clear k11 HNB2 hes
    go_wp2_with fail
    refine (ends_any ib fb 1 _ w11 (by rw [blk_cell (unhide HC10)]; rfl) (unhide HFL2) (by omega)).mono ?_
    rintro e w12 ⟨eo, rfl, heo, k12⟩
    have hx0 := k12.cell (unhide HES) (fun e => e)
    have hx1 : w12.cell? ⟨eo, 0, none⟩ = some (.int .i64 (pre (fun t => (if t = 0 then ((name, ln, false, ex) : FileV) else file0).2.1) (0 + 1))) := World.rowIs.cell heo (i := 0) (by omega)
    have hpre : pre (fun t => (if t = 0 then ((name, ln, false, ex) : FileV) else file0).2.1) (0 + 1) = ln := by
      have := unhide HLN
      rw [pre_succ]
      simp only [pre, if_true]
      unfold wrap64
      omega
    replace HK2 := hide ((unhide HK2).trans k12 (fun _ _ e => e))
    rw [hpre] at hx1
    clear k12 heo HC10 HFL2 HES hpre
    go_wp2_with fail
    go_quiet (fail)
    go_wp2_with fail
    go_ret
    exact ⟨rfl, (unhide HK2).drewN _⟩
  | some ad =>
    by_cases k0 : k < 0
    · go_wp2_with fail
      go_ret
      exact ⟨rfl, Kept.refl _ wc⟩
    by_cases k1 : k ≤ n3
    rotate_left
    · go_wp2_with fail
      go_ret
      exact ⟨rfl, Kept.refl _ wc⟩
    obtain ⟨k, rfl⟩ := Int.eq_ofNat_of_zero_le (show 0 ≤ k by omega)
    go_wp2_with fail
    clear q24 Z1 HLN
    obtain ⟨m, hm⟩ : ∃ m, k + m = n3 := ⟨n3 - k, by omega⟩
    have hm2 : (n3 : Int) - (k : Int) = (m : Int) := by omega
    have HK := hide (Kept.refl (fun _ => False) wc)
    have hmf := mkFiles_any a0 c0 A (some ad) c1 L a2 c2 D a3 c3 E n3 0 n3 wc (unhide H0) (unhide H1) (unhide H2) (unhide H3) (by omega) m3
    simp only [Nat.zero_add] at hmf
    refine hmf.mono ?_
    rintro e wa1 ⟨rfl, hfl, hk⟩
    clear hmf
    replace H0 := hide ((unhide H0).kept hk)
    replace H1 := hide ((unhide H1).kept hk)
    replace H2 := hide ((unhide H2).kept hk)
    replace H3 := hide ((unhide H3).kept hk)
    replace HK := hide ((unhide HK).trans hk (fun _ _ e => e))
    have HF : Hid (Fl wa1 wc.heap.size n3 (fun t => (A t, L t, D t, E t))) := hide hfl
    clear hfl hk
    generalize wc.heap.size = fb1 at *
    go_wp2_with fail
    refine (mkInfo_any name pl ap np cp ln (some ⟨fb1, 0, none⟩) n3 n3 ex wa1).mono ?_
    rintro e wb ⟨rfl, rfl⟩
    have hk := (Kept.refl (fun _ => False) wa1).alloc (.cells #[.string name, .int .i64 pl, .slice ap np cp, .int .i64 ln, .slice (some ⟨fb1, 0, none⟩) n3 n3, .bool ex] 44)
    have HC := hide (heap_alloc_new wa1 (.cells #[.string name, .int .i64 pl, .slice ap np cp, .int .i64 ln, .slice (some ⟨fb1, 0, none⟩) n3 n3, .bool ex] 44))
    replace H0 := hide ((unhide H0).kept hk)
    replace H1 := hide ((unhide H1).kept hk)
    replace H2 := hide ((unhide H2).kept hk)
    replace H3 := hide ((unhide H3).kept hk)
    replace HK := hide ((unhide HK).trans hk (fun _ _ e => e))
    replace HF := hide ((unhide HF).kept hk (fun e => e))
    clear hk
    generalize (wa1.alloc (.cells #[.string name, .int .i64 pl, .slice ap np cp, .int .i64 ln, .slice (some ⟨fb1, 0, none⟩) n3 n3, .bool ex] 44)) = wb1 at *
    generalize wa1.heap.size = ib1 at *
    go_wp2_with fail
    refine (ends_any ib1 fb1 n3 _ wb1 (by rw [blk_cell (unhide HC)]; rfl) (unhide HF) (by omega)).mono ?_
    rintro e wd1 ⟨eb1, rfl, hen, hk⟩
    have HE1 : Hid (En wd1 eb1 n3 (fun j => pre L (j + 1))) := hide hen
    replace H0 := hide ((unhide H0).kept hk)
    replace H1 := hide ((unhide H1).kept hk)
    replace H2 := hide ((unhide H2).kept hk)
    replace H3 := hide ((unhide H3).kept hk)
    replace HK := hide ((unhide HK).trans hk (fun _ _ e => e))
    clear hk hen HF HC
    go_wp2_with fail
    have hmf := mkFiles_any a0 c0 A (some ad) c1 L a2 c2 D a3 c3 E n3 0 k wd1 (unhide H0) (unhide H1) (unhide H2) (unhide H3) (by omega) m3
    simp only [Nat.zero_add] at hmf
    refine hmf.mono ?_
    rintro e wa2 ⟨rfl, hfl, hk⟩
    clear hmf
    replace H0 := hide ((unhide H0).kept hk)
    replace H1 := hide ((unhide H1).kept hk)
    replace H2 := hide ((unhide H2).kept hk)
    replace H3 := hide ((unhide H3).kept hk)
    replace HK := hide ((unhide HK).trans hk (fun _ _ e => e))
    have HF : Hid (Fl wa2 wd1.heap.size k (fun t => (A t, L t, D t, E t))) := hide hfl
    replace HE1 := hide ((unhide HE1).kept hk)
    clear hfl hk
    generalize wd1.heap.size = fb2 at *
    go_wp2_with fail
    refine (mkInfo_any name pl ap np cp ln (some ⟨fb2, 0, none⟩) k k ex wa2).mono ?_
    rintro e wb ⟨rfl, rfl⟩
    have hk := (Kept.refl (fun _ => False) wa2).alloc (.cells #[.string name, .int .i64 pl, .slice ap np cp, .int .i64 ln, .slice (some ⟨fb2, 0, none⟩) k k, .bool ex] 44)
    have HC := hide (heap_alloc_new wa2 (.cells #[.string name, .int .i64 pl, .slice ap np cp, .int .i64 ln, .slice (some ⟨fb2, 0, none⟩) k k, .bool ex] 44))
    replace H0 := hide ((unhide H0).kept hk)
    replace H1 := hide ((unhide H1).kept hk)
    replace H2 := hide ((unhide H2).kept hk)
    replace H3 := hide ((unhide H3).kept hk)
    replace HK := hide ((unhide HK).trans hk (fun _ _ e => e))
    replace HF := hide ((unhide HF).kept hk (fun e => e))
    replace HE1 := hide ((unhide HE1).kept hk)
    clear hk
    generalize (wa2.alloc (.cells #[.string name, .int .i64 pl, .slice ap np cp, .int .i64 ln, .slice (some ⟨fb2, 0, none⟩) k k, .bool ex] 44)) = wb2 at *
    generalize wa2.heap.size = ib2 at *
    go_wp2_with fail
    refine (ends_any ib2 fb2 k _ wb2 (by rw [blk_cell (unhide HC)]; rfl) (unhide HF) (by omega)).mono ?_
    rintro e wd2 ⟨eb2, rfl, hen, hk⟩
    have HE2 : Hid (En wd2 eb2 k (fun j => pre L (j + 1))) := hide hen
    replace H0 := hide ((unhide H0).kept hk)
    replace H1 := hide ((unhide H1).kept hk)
    replace H2 := hide ((unhide H2).kept hk)
    replace H3 := hide ((unhide H3).kept hk)
    replace HK := hide ((unhide HK).trans hk (fun _ _ e => e))
    replace HE1 := hide ((unhide HE1).kept hk)
    clear hk hen HF HC
    go_wp2_with fail
    have hmf := mkFiles_any a0 c0 A (some ad) c1 L a2 c2 D a3 c3 E n3 k m wd2 (unhide H0) (unhide H1) (unhide H2) (unhide H3) (by omega) m3
    rw [hm] at hmf
    refine hmf.mono ?_
    rintro e wa3 ⟨rfl, hfl, hk⟩
    clear hmf
    replace H0 := hide ((unhide H0).kept hk)
    replace H1 := hide ((unhide H1).kept hk)
    replace H2 := hide ((unhide H2).kept hk)
    replace H3 := hide ((unhide H3).kept hk)
    replace HK := hide ((unhide HK).trans hk (fun _ _ e => e))
    have HF : Hid (Fl wa3 wd2.heap.size m (fun t => (A (k + t), L (k + t), D (k + t), E (k + t)))) := hide hfl
    replace HE1 := hide ((unhide HE1).kept hk)
    replace HE2 := hide ((unhide HE2).kept hk)
    clear hfl hk
    generalize wd2.heap.size = fb3 at *
    go_wp2_with fail
    refine (mkInfo_any name pl ap np cp ln (some ⟨fb3, 0, none⟩) m m ex wa3).mono ?_
    rintro e wb ⟨rfl, rfl⟩
    have hk := (Kept.refl (fun _ => False) wa3).alloc (.cells #[.string name, .int .i64 pl, .slice ap np cp, .int .i64 ln, .slice (some ⟨fb3, 0, none⟩) m m, .bool ex] 44)
    have HC := hide (heap_alloc_new wa3 (.cells #[.string name, .int .i64 pl, .slice ap np cp, .int .i64 ln, .slice (some ⟨fb3, 0, none⟩) m m, .bool ex] 44))
    replace H0 := hide ((unhide H0).kept hk)
    replace H1 := hide ((unhide H1).kept hk)
    replace H2 := hide ((unhide H2).kept hk)
    replace H3 := hide ((unhide H3).kept hk)
    replace HK := hide ((unhide HK).trans hk (fun _ _ e => e))
    replace HF := hide ((unhide HF).kept hk (fun e => e))
    replace HE1 := hide ((unhide HE1).kept hk)
    replace HE2 := hide ((unhide HE2).kept hk)
    clear hk
    generalize (wa3.alloc (.cells #[.string name, .int .i64 pl, .slice ap np cp, .int .i64 ln, .slice (some ⟨fb3, 0, none⟩) m m, .bool ex] 44)) = wb3 at *
    generalize wa3.heap.size = ib3 at *
    go_wp2_with fail
    refine (ends_any ib3 fb3 m _ wb3 (by rw [blk_cell (unhide HC)]; rfl) (unhide HF) (by omega)).mono ?_
    rintro e wd3 ⟨eb3, rfl, hen, hk⟩
    have HE3 : Hid (En wd3 eb3 m (fun j => pre (fun t => L (k + t)) (j + 1))) := hide hen
    replace H0 := hide ((unhide H0).kept hk)
    replace H1 := hide ((unhide H1).kept hk)
    replace H2 := hide ((unhide H2).kept hk)
    replace H3 := hide ((unhide H3).kept hk)
    replace HK := hide ((unhide HK).trans hk (fun _ _ e => e))
    replace HE1 := hide ((unhide HE1).kept hk)
    replace HE2 := hide ((unhide HE2).kept hk)
    clear hk hen HF HC
    go_wp2_with fail
    clear H0 H2 H3
    go_loopw [35, 36] (fun p i wr => ∃ t : Nat, t ≤ n3 ∧ i = .int .i64 t ∧ p = .int .i64 (pre L t) ∧ Kept (fun _ => False) wd3 wr) (fun _ i _ => n3 - (intOf i).toNat)
    case atStart => exact ⟨0, by omega, rfl, rfl, Kept.refl _ wd3⟩
    case round =>
      obtain ⟨t, ht, rfl, rfl, hk⟩ := hrel
      by_cases hlt : t < n3
      · have x0 := (unhide HE1).at hk hlt
        obtain ⟨b1, o1, e1, g1⟩ := ((unhide H1).kept hk).at (by omega)
        cases e1
        have x1 := g1 t hlt
        have hst := pre_step L t (unhide HIN t hlt)
        have hd : (wrap64 (pre L (t + 1) - pre L t) != L t) = false := by rw [hst]; simp
        have HKr := hide hk
        clear g1 hk hst
        generalize hp1 : pre L (t + 1) = p1 at *
        generalize pre L t = p0 at *
        generalize L t = l0 at *
        have HP1 := hide hp1
        clear hp1
        go_wp2_with fail
        go_quiet (fail)
        go_wp2_with fail
        go_roundw
        case rel => exact ⟨t + 1, by omega, by go_num, by rw [unhide HP1], (unhide HKr).drewN _⟩
        case measure => simp [intOf]; omega
      · have e : t = n3 := by omega
        subst e
        have HK4 := hide hk
        clear hk
        go_wp2_with fail
        go_loopw [37] (fun i wr => ∃ s : Nat, s ≤ k ∧ i = .int .i64 s ∧ Kept (fun _ => False) wd3 wr) (fun i _ => k - (intOf i).toNat)
        case atStart => exact ⟨0, by omega, rfl, unhide HK4⟩
        case round =>
          obtain ⟨s, hs, rfl, hk⟩ := hrel
          by_cases hlt2 : s < k
          · have x0 := (unhide HE1).at hk (j := s) (by omega)
            have x1 := (unhide HE2).at hk (j := s) hlt2
            have HKr := hide hk
            clear hk
            generalize pre L (s + 1) = p1 at *
            go_wp2_with fail
            go_quiet (fail)
            go_wp2_with fail
            go_roundw
            case rel => exact ⟨s + 1, by omega, by go_num, (unhide HKr).drewN _⟩
            case measure => simp [intOf]; omega
          · have e : s = k := by omega
            subst e
            clear HK4
            have HK5 := hide hk
            clear hk
            go_upto_if 245 with fail
            go_cut [38] from 246 to 250 (fun v wz => wz = wr ∧ v = .int .i64 (pre L s))
            case first =>
              cases s with
              | zero =>
                go_wp2_with fail
                go_meet
                exact ⟨rfl, rfl⟩
              | succ s =>
                have x1 := (unhide HE2).at (unhide HK5) (j := s) (by omega)
                have hj1 : ((s + 1 : Nat) : Int) - 1 = (s : Int) := by omega
                generalize pre L (s + 1) = p1 at *
                go_wp2_with fail
                go_meet
                exact ⟨rfl, rfl⟩
            case rest =>
            obtain ⟨rfl, rfl⟩ := hcut
            go_wp2_with fail
            go_loopw [39] (fun i wr => ∃ j : Nat, s ≤ j ∧ j ≤ t ∧ i = .int .i64 j ∧ Kept (fun _ => False) wd3 wr) (fun i _ => t - (intOf i).toNat)
            case atStart => exact ⟨s, by omega, by omega, rfl, unhide HK5⟩
            case round =>
              obtain ⟨j, hj1, hj2, rfl, hk⟩ := hrel
              by_cases hlt3 : j < t
              · obtain ⟨q, hq⟩ : ∃ q, s + q = j := ⟨j - s, by omega⟩
                have hsub : (j : Int) - (s : Int) = (q : Int) := by omega
                have hqm : q < m := by omega
                have x0 := (unhide HE1).at hk (j := j) hlt3
                have x1 := (unhide HE3).at hk (j := q) hqm
                have hpc := pre_cut L s (q + 1)
                rw [show s + (q + 1) = j + 1 by omega] at hpc
                have hd : (pre L (j + 1) != wrap64 (pre L s + pre (fun t => L (s + t)) (q + 1))) = false := by rw [hpc]; simp
                have HKr := hide hk
                clear hk hpc
                generalize pre L (j + 1) = p1 at *
                generalize pre (fun t => L (s + t)) (q + 1) = p3 at *
                generalize pre L s = p0 at *
                go_wp2_with fail
                go_quiet (fail)
                go_wp2_with fail
                go_roundw
                case rel => exact ⟨j + 1, by omega, by omega, by go_num, (unhide HKr).drewN _⟩
                case measure => simp [intOf]; omega
              · have e : j = t := by omega
                subst e
                go_wp2_with fail
                go_ret
                exact ⟨rfl, (unhide HK).trans hk (fun _ _ e => e)⟩

end Go.Proofs.Qxb6617102a
