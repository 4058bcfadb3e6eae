/- The tests on sizes: they return, and 'not too big' bounds the script. -/
import Derived.Test.Qxb6616518aReads
namespace Go.Proofs.Qxb6616518a
open Go.RowKit

/-- a bool comes back; if it is b, then p -/
def Says (b : Bool) (e : Ending) (p : Prop) : Prop := ∃ r : Bool, e = .returned (.bool r) ∧ (r = b → p)
theorem says_mk {b : Bool} {v : Value} {p : Prop} (r : Bool) (hv : v = .bool r) (h : r = b → p) : Says b (.returned v) p := ⟨r, by rw [hv], h⟩

set_option maxHeartbeats 1000000 in
theorem tooBig_any (a : Option Addr) (n c : Nat) (st : Int) (K : Nat → ByteArray) (V : Nat → Int) (w : World) (hs : Script w a n K V) (h0 : 0 ≤ st) (h1 : st ≤ 1048576) (hn : n ≤ 1048576) :
    Calls Try.prog 8 #[.slice a n c, .int .i64 st] w fun e w' => Says false e (n ≤ 4096) ∧ w' = w := by
  by_cases hbig : 4096 < n
  · go_enter Try.func8, Try.ntmps8
    go_wp2
    go_ret
    exact ⟨says_mk true rfl (fun h => by cases h), rfl⟩
  by_cases hz : n = 0
  · subst hz
    go_enter Try.func8, Try.ntmps8
    go_wp2
    refine wp_loop_rounds 1 ?_; rw [rounds_succ]
    go_wp2
    go_ret
    exact ⟨says_mk false rfl (fun _ => by omega), rfl⟩
  rcases hs with h | ⟨b, off, rfl, hc, _, hsz⟩
  · omega
  go_enter Try.func8, Try.ntmps8
  go_wp2
  go_loop [5, 6, 7] (fun t v _ => ∃ (k : Nat) (x : Int), k ≤ n ∧ v = .int .i64 k ∧ t = .int .i64 x ∧ 0 ≤ x ∧ x ≤ 1048576) (fun _ v _ => n - (intOf v).toNat)
  case atStart => exact ⟨0, st, by omega, rfl, rfl, h0, h1⟩
  case round =>
    obtain ⟨k, x, hk, rfl, rfl, hx0, hx1⟩ := hrel
    by_cases hlt : k < n
    · have hck := hc k (by omega)
      have hs := hsz k (by omega)
      unfold maxLen at hs
      clear hc hsz
      generalize K k = s at hck hs
      go_wp2
      · go_ret
        exact ⟨says_mk true rfl (fun h => by cases h), rfl⟩
      · go_round
        case rel => exact ⟨k + 1, x + ((s.size : Int) + 24), by omega, by go_num, by go_num, by omega, by omega⟩
        case measure => simp [intOf]; omega
    · clear hc hsz
      go_wp2
      go_ret
      exact ⟨says_mk false rfl (fun _ => by omega), rfl⟩

set_option maxHeartbeats 1000000 in
theorem bytes7_any (a : Option Addr) (n c : Nat) (K : Nat → ByteArray) (V : Nat → Int) (w : World) (hs : Script w a n K V) (hn0 : n ≤ maxLen) :
    Calls Try.prog 7 #[.slice a n c] w fun e w' => Says true e (n ≤ 1048576) ∧ w' = w := by
  unfold maxLen at hn0
  by_cases hbig : 1048576 < n
  · go_enter Try.func7, Try.ntmps7
    go_wp2
    go_ret
    exact ⟨says_mk false rfl (fun h => by cases h), rfl⟩
  by_cases hz : n = 0
  · subst hz
    go_enter Try.func7, Try.ntmps7
    go_wp2
    refine wp_loop_rounds 1 ?_; rw [rounds_succ]
    go_wp2
    all_goals go_ret
    all_goals (first | exact ⟨says_mk false rfl (fun h => by cases h), rfl⟩ | exact ⟨says_mk true rfl (fun _ => by omega), rfl⟩)
  rcases hs with h | ⟨b, off, rfl, hc, _, hsz⟩
  · omega
  go_enter Try.func7, Try.ntmps7
  go_wp2
  go_loop [3, 4] (fun t v => ∃ (k : Nat) (x : Int), k ≤ n ∧ v = .int .i64 k ∧ t = .int .i64 x ∧ 0 ≤ x ∧ x ≤ 1048576) (fun _ v => n - (intOf v).toNat)
  case atStart => exact ⟨0, n, by omega, rfl, by go_num, by omega, by omega⟩
  case round =>
    obtain ⟨k, x, hk, rfl, rfl, hx0, hx1⟩ := hrel
    by_cases hlt : k < n
    · have hck := hc k (by omega)
      have hs := hsz k (by omega)
      unfold maxLen at hs
      clear hc hsz
      generalize K k = s at hck hs
      go_wp2
      · go_ret
        exact ⟨says_mk false rfl (fun h => by cases h), rfl⟩
      · go_ret
        exact ⟨says_mk false rfl (fun h => by cases h), rfl⟩
      · go_round
        case rel => exact ⟨k + 1, x + (s.size : Int), by omega, by go_num, by go_num, by omega, by omega⟩
        case measure => simp [intOf]; omega
    · clear hc hsz
      go_wp2
      all_goals go_ret
      all_goals (first | exact ⟨says_mk false rfl (fun h => by cases h), rfl⟩ | exact ⟨says_mk true rfl (fun _ => by omega), rfl⟩)

set_option maxHeartbeats 1000000 in
theorem bytes18_any (a : Option Addr) (n c : Nat) (q : Int) (K : Nat → ByteArray) (V : Nat → Int) (w : World) (hs : Script w a n K V) (hn0 : n ≤ maxLen) :
    Calls Try.prog 18 #[.slice a n c, .int .i64 q] w fun e w' => Says true e (n ≤ 1048576) ∧ w' = w := by
  unfold maxLen at hn0
  by_cases hbig : 1048576 < n
  · go_enter Try.func18, Try.ntmps18
    go_wp2
    go_ret
    exact ⟨says_mk false rfl (fun h => by cases h), rfl⟩
  by_cases hz : n = 0
  · subst hz
    go_enter Try.func18, Try.ntmps18
    go_wp2
    refine wp_loop_rounds 1 ?_; rw [rounds_succ]
    go_wp2
    all_goals go_ret
    all_goals (first | exact ⟨says_mk false rfl (fun h => by cases h), rfl⟩ | exact ⟨says_mk true rfl (fun _ => by omega), rfl⟩)
  rcases hs with h | ⟨b, off, rfl, hc, _, hsz⟩
  · omega
  go_enter Try.func18, Try.ntmps18
  go_wp2
  go_loop [5, 6] (fun t v => ∃ (k : Nat) (x : Int), k ≤ n ∧ v = .int .i64 k ∧ t = .int .i64 x ∧ 0 ≤ x ∧ x ≤ 1048576) (fun _ v => n - (intOf v).toNat)
  case atStart => exact ⟨0, n, by omega, rfl, by go_num, by omega, by omega⟩
  case round =>
    obtain ⟨k, x, hk, rfl, rfl, hx0, hx1⟩ := hrel
    by_cases hlt : k < n
    · have hck := hc k (by omega)
      have hs := hsz k (by omega)
      unfold maxLen at hs
      clear hc hsz
      generalize K k = s at hck hs
      go_wp2
      · go_ret
        exact ⟨says_mk false rfl (fun h => by cases h), rfl⟩
      · go_ret
        exact ⟨says_mk false rfl (fun h => by cases h), rfl⟩
      · go_round
        case rel => exact ⟨k + 1, x + (s.size : Int), by omega, by go_num, by go_num, by omega, by omega⟩
        case measure => simp [intOf]; omega
    · clear hc hsz
      go_wp2
      all_goals go_ret
      all_goals (first | exact ⟨says_mk false rfl (fun h => by cases h), rfl⟩ | exact ⟨says_mk true rfl (fun _ => by omega), rfl⟩)

set_option maxHeartbeats 1000000 in
theorem bytes20_any (a : Option Addr) (n c : Nat) (K : Nat → ByteArray) (V : Nat → Int) (w : World) (hs : Script w a n K V) (hn0 : n ≤ maxLen) :
    Calls Try.prog 20 #[.slice a n c] w fun e w' => Says true e (n ≤ 1048576) ∧ w' = w := by
  unfold maxLen at hn0
  by_cases hbig : 1048576 < n
  · go_enter Try.func20, Try.ntmps20
    go_wp2
    go_ret
    exact ⟨says_mk false rfl (fun h => by cases h), rfl⟩
  by_cases hz : n = 0
  · subst hz
    go_enter Try.func20, Try.ntmps20
    go_wp2
    refine wp_loop_rounds 1 ?_; rw [rounds_succ]
    go_wp2
    all_goals go_ret
    all_goals (first | exact ⟨says_mk false rfl (fun h => by cases h), rfl⟩ | exact ⟨says_mk true rfl (fun _ => by omega), rfl⟩)
  rcases hs with h | ⟨b, off, rfl, hc, _, hsz⟩
  · omega
  go_enter Try.func20, Try.ntmps20
  go_wp2
  go_loop [3, 4] (fun t v => ∃ (k : Nat) (x : Int), k ≤ n ∧ v = .int .i64 k ∧ t = .int .i64 x ∧ 0 ≤ x ∧ x ≤ 1048576) (fun _ v => n - (intOf v).toNat)
  case atStart => exact ⟨0, n, by omega, rfl, by go_num, by omega, by omega⟩
  case round =>
    obtain ⟨k, x, hk, rfl, rfl, hx0, hx1⟩ := hrel
    by_cases hlt : k < n
    · have hck := hc k (by omega)
      have hs := hsz k (by omega)
      unfold maxLen at hs
      clear hc hsz
      generalize K k = s at hck hs
      go_wp2
      · go_ret
        exact ⟨says_mk false rfl (fun h => by cases h), rfl⟩
      · go_ret
        exact ⟨says_mk false rfl (fun h => by cases h), rfl⟩
      · go_round
        case rel => exact ⟨k + 1, x + (s.size : Int), by omega, by go_num, by go_num, by omega, by omega⟩
        case measure => simp [intOf]; omega
    · clear hc hsz
      go_wp2
      all_goals go_ret
      all_goals (first | exact ⟨says_mk false rfl (fun h => by cases h), rfl⟩ | exact ⟨says_mk true rfl (fun _ => by omega), rfl⟩)

set_option maxHeartbeats 1000000 in
theorem bytes21_any (a : Option Addr) (n c : Nat) (q : ByteArray) (hq : q.size ≤ maxLen) (K : Nat → ByteArray) (V : Nat → Int) (w : World) (hs : Script w a n K V) (hn0 : n ≤ maxLen) :
    Calls Try.prog 21 #[.slice a n c, .string q] w fun e w' => Says true e (n ≤ 1048576 ∧ q.size ≤ 1048576) ∧ w' = w := by
  unfold maxLen at hn0 hq
  by_cases hbig : 1048576 < n
  · go_enter Try.func21, Try.ntmps21
    go_wp2
    go_ret
    exact ⟨says_mk false rfl (fun h => by cases h), rfl⟩
  by_cases hz : n = 0
  · subst hz
    go_enter Try.func21, Try.ntmps21
    go_wp2
    refine wp_loop_rounds 1 ?_; rw [rounds_succ]
    go_wp2
    all_goals go_ret
    all_goals (first | exact ⟨says_mk false rfl (fun h => by cases h), rfl⟩ | exact ⟨says_mk true rfl (fun _ => by omega), rfl⟩)
  rcases hs with h | ⟨b, off, rfl, hc, _, hsz⟩
  · omega
  go_enter Try.func21, Try.ntmps21
  go_wp2
  go_loop [5, 6] (fun t v => ∃ (k : Nat) (x : Int), k ≤ n ∧ v = .int .i64 k ∧ t = .int .i64 x ∧ 0 ≤ x ∧ x ≤ 1048576) (fun _ v => n - (intOf v).toNat)
  case atStart => exact ⟨0, n, by omega, rfl, by go_num, by omega, by omega⟩
  case round =>
    obtain ⟨k, x, hk, rfl, rfl, hx0, hx1⟩ := hrel
    by_cases hlt : k < n
    · have hck := hc k (by omega)
      have hs := hsz k (by omega)
      unfold maxLen at hs
      clear hc hsz
      generalize K k = s at hck hs
      go_wp2
      · go_ret
        exact ⟨says_mk false rfl (fun h => by cases h), rfl⟩
      · go_ret
        exact ⟨says_mk false rfl (fun h => by cases h), rfl⟩
      · go_round
        case rel => exact ⟨k + 1, x + (s.size : Int), by omega, by go_num, by go_num, by omega, by omega⟩
        case measure => simp [intOf]; omega
    · clear hc hsz
      go_wp2
      all_goals go_ret
      all_goals (first | exact ⟨says_mk false rfl (fun h => by cases h), rfl⟩ | exact ⟨says_mk true rfl (fun _ => by omega), rfl⟩)

end Go.Proofs.Qxb6616518a
