/- The functions that only read. -/
import Derived.Test.Qxb6616518aChecked
import Derived.Test.Qxb6616518aKept
import Derived.BigQuiet
import Derived.Deep.QuietTactic
namespace Go.Proofs.Qxb6616518a
open Go.RowKit
open Pl (fk lv hk hist lastTo)

theorem ret_bool {a b : Bool} (h : a = b) : Ending.returned (.bool a) = .returned (.bool b) := by rw [h]
theorem ret_i64 {a b : Int} (h : a = b) : Ending.returned (.int .i64 a) = .returned (.int .i64 b) := by rw [h]

theorem dr2 (w : World) (a b : Nat) : ∃ q, (w.drewN a).drewN b = w.drewN q := ⟨a + b, by simp [World.drewN, Nat.add_assoc]⟩

set_option maxHeartbeats 400000 in
theorem seen_any (a : Option Addr) (n c i : Nat) (K : Nat → ByteArray) (V : Nat → Int) (w : World) (hs : Script w a n K V) (hi : i < n) (hb : n ≤ 4096) :
    Calls Try.prog 19 #[.slice a n c, .int .i64 i] w fun e w' => e = .returned (.bool (hk (hist K V i) (K i))) ∧ ∃ nq, w' = w.drewN nq := by
  rcases hs with h | ⟨b, off, rfl, hc, _, _⟩
  · omega
  go_enter Try.func19, Try.ntmps19
  go_wp2
  go_loopw [5] (fun v wr => ∃ k : Nat, k ≤ i ∧ v = .int .i64 k ∧ (∀ j, j < k → K j ≠ K i) ∧ ∃ nq, wr = w.drewN nq) (fun v _ => i - (intOf v).toNat)
  case atStart => exact ⟨0, by omega, rfl, by intro j h; omega, 0, rfl⟩
  case round =>
    obtain ⟨k, hk, rfl, hno, nq, rfl⟩ := hrel
    have HN : Hid (∀ j, j < k → K j ≠ K i) := hno
    clear hno
    have hci := hc i (by omega)
    by_cases hlt : k < i
    · have hck := hc k (by omega)
      clear hc
      go_wp2
      go_quiet (fail)
      go_wp2
      · have e := str_eq (by assumption)
        go_ret
        exact ⟨ret_bool ((Pl.hk_hist K V i (K i)).2 ⟨k, hlt, e⟩).symm, dr2 _ _ _⟩
      · have e := str_ne (by assumption)
        go_roundw
        case rel => exact ⟨k + 1, by omega, by go_num, by intro j hj; (by_cases e2 : j = k); (subst e2; exact e); exact HN.out j (by omega), _, rfl⟩
        case measure => simp [intOf]; omega
    · clear hc
      go_wp2
      go_ret
      refine ⟨ret_bool ?_, _, rfl⟩
      cases e : Pl.hk (hist K V i) (K i) with
      | false => rfl
      | true =>
        obtain ⟨j, hj, ej⟩ := (Pl.hk_hist K V i (K i)).1 e
        exact absurd ej (HN.out j (by omega))

set_option maxHeartbeats 400000 in
theorem firstVal_any (a : Option Addr) (n c i : Nat) (K : Nat → ByteArray) (V : Nat → Int) (w : World) (hs : Script w a n K V) (hi : i < n) (hb : n ≤ 4096) :
    Calls Try.prog 17 #[.slice a n c, .int .i64 i] w fun e w' => (∃ j, j ≤ i ∧ K j = K i ∧ (∀ x, x < j → K x ≠ K j) ∧ e = .returned (.int .i64 (V j))) ∧ ∃ nq, w' = w.drewN nq := by
  rcases hs with h | ⟨b, off, rfl, hc, hv, _⟩
  · omega
  go_enter Try.func17, Try.ntmps17
  go_wp2
  go_loopw [5] (fun v wr => ∃ k : Nat, k ≤ i ∧ v = .int .i64 k ∧ (∀ j, j < k → K j ≠ K i) ∧ ∃ nq, wr = w.drewN nq) (fun v _ => i - (intOf v).toNat)
  case atStart => exact ⟨0, by omega, rfl, by intro j h; omega, 0, rfl⟩
  case round =>
    obtain ⟨k, hk, rfl, hno, nq, rfl⟩ := hrel
    have HN : Hid (∀ j, j < k → K j ≠ K i) := hno
    clear hno
    have hci := hc i (by omega)
    have hvi := hv i (by omega)
    by_cases hlt : k < i
    · have hck := hc k (by omega)
      have hvk := hv k (by omega)
      clear hc hv
      go_wp2
      go_quiet (fail)
      go_wp2
      · have e := str_eq (by assumption)
        go_ret
        exact ⟨⟨k, hk, e, by rw [e]; exact HN.out, rfl⟩, _, rfl⟩
      · have e := str_ne (by assumption)
        go_roundw
        case rel => exact ⟨k + 1, by omega, by go_num, by intro j hj; (by_cases e2 : j = k); (subst e2; exact e); exact HN.out j (by omega), _, rfl⟩
        case measure => simp [intOf]; omega
    · clear hc hv
      go_wp2
      go_ret
      exact ⟨⟨i, Nat.le_refl _, rfl, fun x hx => HN.out x (by omega), rfl⟩, _, rfl⟩

set_option maxHeartbeats 400000 in
theorem lastVal_any (a : Option Addr) (n c i : Nat) (K : Nat → ByteArray) (V : Nat → Int) (w : World) (hs : Script w a n K V) (hi : i < n) (hb : n ≤ 4096) :
    Calls Try.prog 22 #[.slice a n c, .int .i64 i] w fun e w' => (∃ x, lv (hist K V n) (K i) = some x ∧ e = .returned (.int .i64 x)) ∧ ∃ nq, w' = w.drewN nq := by
  rcases hs with h | ⟨b, off, rfl, hc, hv, _⟩
  · omega
  have hci := hc i (by omega)
  have hvi := hv i (by omega)
  go_enter Try.func22, Try.ntmps22
  go_wp2
  go_loopw [5, 6] (fun t v wr => ∃ (j : Nat) (x : Int), i + 1 ≤ j ∧ j ≤ n ∧ v = .int .i64 j ∧ t = .int .i64 x ∧ lv (hist K V j) (K i) = some x ∧ ∃ nq, wr = w.drewN nq) (fun _ v _ => n - (intOf v).toNat)
  case atStart => exact ⟨i + 1, V i, by omega, by omega, by go_num, rfl, by rw [Pl.hist_succ, Pl.lv_snoc]; simp, 0, rfl⟩
  case round =>
    obtain ⟨j, x, hj0, hj, rfl, rfl, hl, nq, rfl⟩ := hrel
    have HL : Hid (lv (hist K V j) (K i) = some x) := hl
    clear hl
    by_cases hlt : j < n
    · have hck := hc j (by omega)
      have hvk := hv j (by omega)
      clear hc hv
      go_wp2
      go_quiet (fail)
      go_wp2
      · have e := str_eq (by assumption)
        go_roundw
        case rel => exact ⟨j + 1, V j, by omega, by omega, by go_num, rfl, by rw [Pl.hist_succ, Pl.lv_snoc, if_pos e], _, rfl⟩
        case measure => simp [intOf]; omega
      · have e := str_ne (by assumption)
        go_roundw
        case rel => exact ⟨j + 1, x, by omega, by omega, by go_num, rfl, by rw [Pl.hist_succ, Pl.lv_snoc, if_neg e]; exact HL.out, _, rfl⟩
        case measure => simp [intOf]; omega
    · clear hc hv
      go_wp2
      go_ret
      have e : j = n := by omega
      subst e
      exact ⟨⟨x, HL.out, rfl⟩, _, rfl⟩

set_option maxHeartbeats 400000 in
theorem same_any (a1 a2 : Option Addr) (c1 c2 : Nat) (ks : List ByteArray) (w : World) (h1 : Strs w a1 ks) (h2 : Strs w a2 ks) (hb : ks.length ≤ 1048576) :
    Calls Try.prog 14 #[.slice a1 ks.length c1, .slice a2 ks.length c2] w fun e w' => e = .returned (.bool true) ∧ ∃ nq, w' = w.drewN nq := by
  by_cases h0 : ks.length = 0
  · rw [h0]
    go_enter Try.func14, Try.ntmps14
    go_wp2
    refine wp_loop_rounds 1 ?_; rw [rounds_succ]
    go_wp2
    go_ret
    exact ⟨rfl, 0, rfl⟩
  rcases h1 with h | ⟨b1, o1, rfl, hc1⟩
  · subst h; simp at h0
  rcases h2 with h | ⟨b2, o2, rfl, hc2⟩
  · subst h; simp at h0
  generalize hn : ks.length = n at *
  clear hn h0
  go_enter Try.func14, Try.ntmps14
  go_wp2
  go_loopw [5] (fun v wr => ∃ k : Nat, k ≤ n ∧ v = .int .i64 k ∧ ∃ nq, wr = w.drewN nq) (fun v _ => n - (intOf v).toNat)
  case atStart => exact ⟨0, by omega, rfl, 0, rfl⟩
  case round =>
    obtain ⟨k, hk, rfl, nq, rfl⟩ := hrel
    by_cases hlt : k < n
    · have h1 := hc1 k hlt
      have h2 := hc2 k hlt
      clear hc1 hc2
      generalize ks.getD k ByteArray.empty = s at h1 h2
      go_wp2
      go_quiet (fail)
      go_wp2
      go_roundw
      case rel => exact ⟨k + 1, by omega, by go_num, _, rfl⟩
      case measure => simp [intOf]; omega
    · clear hc1 hc2
      go_wp2
      go_ret
      exact ⟨rfl, _, rfl⟩

end Go.Proofs.Qxb6616518a
