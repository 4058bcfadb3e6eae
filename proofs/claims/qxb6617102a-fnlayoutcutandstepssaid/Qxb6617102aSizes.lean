/- The size and shape checks. -/
import Derived.Test.Qxb6617102aKept
import Derived.Test.Qxb6617102aProg
import Derived.KernelRfl
namespace Go.Proofs.Qxb6617102a
open Go.RowKit

/-- the strings A lie in the slice -/
def Row (w : World) (a : Option Addr) (n : Nat) (A : Nat → ByteArray) : Prop := n = 0 ∨ ∃ b off, a = some ⟨b, off, none⟩ ∧ ∀ j, j < n → w.cell? ⟨b, off + j, none⟩ = some (.string (A j))
theorem Row.kept {w w' : World} {a : Option Addr} {n : Nat} {A : Nat → ByteArray} (h : Row w a n A) (k : Kept (fun _ => False) w w') : Row w' a n A := by
  rcases h with h | ⟨b, off, e, hc⟩
  · exact .inl h
  · exact .inr ⟨b, off, e, fun j hj => k.cell (hc j hj) (fun e => e)⟩
theorem Row.at {w : World} {a : Option Addr} {n : Nat} {A : Nat → ByteArray} (h : Row w a n A) (hn : 0 < n) : ∃ b off, a = some ⟨b, off, none⟩ ∧ ∀ j, j < n → w.cell? ⟨b, off + j, none⟩ = some (.string (A j)) := by
  rcases h with h | h
  · omega
  · exact h

/-- an answer that is a truth value -/
def Says (e : Ending) (p : Prop) : Prop := ∃ b, e = .returned (.bool b) ∧ (b = true → p)
theorem says_false (p : Prop) : Says (.returned (.bool false)) p := ⟨false, rfl, fun h => by cases h⟩
theorem says_true {p : Prop} (h : p) : Says (.returned (.bool true)) p := ⟨true, rfl, fun _ => h⟩

set_option maxRecDepth 100000 in
set_option maxHeartbeats 16000000 in
theorem zzInsert_any (name : ByteArray) (pl : Int) (ap : Option Addr) (np cp : Nat) (ln : Int) (a0 : Option Addr) (n0 c0 : Nat) (A : Nat → ByteArray) (a1 : Option Addr) (n1 c1 : Nat) (a2 : Option Addr) (n2 c2 : Nat) (a3 : Option Addr) (n3 c3 : Nat) (ex : Bool) (k : Int) (nl : Int) (npd : Bool) (w : World) (h : Row w a0 n0 A) :
    Calls Try.prog 14 #[.string name, .int .i64 pl, .slice ap np cp, .int .i64 ln, .slice a0 n0 c0, .slice a1 n1 c1, .slice a2 n2 c2, .slice a3 n3 c3, .bool ex, .int .i64 k, .int .i64 nl, .bool npd] w fun e w' => Says e (n0 ≤ 1048576 ∧ n1 ≤ 1048576 ∧ n2 ≤ 1048576 ∧ n3 ≤ 1048576) ∧ w' = w := by
  have HR := hide h
  clear h
  go_enter Try.func14, Try.ntmps14
  by_cases m0 : name.size ≤ 1048576
  rotate_left
  · go_wp2
    go_ret
    exact ⟨says_false _, rfl⟩
  by_cases m1 : np ≤ 1048576
  rotate_left
  · go_wp2
    go_ret
    exact ⟨says_false _, rfl⟩
  by_cases m2 : name.size + np ≤ 1048576
  rotate_left
  · go_wp2
    go_ret
    exact ⟨says_false _, rfl⟩
  by_cases m3 : n0 ≤ 1048576
  rotate_left
  · go_wp2
    go_ret
    exact ⟨says_false _, rfl⟩
  by_cases m4 : name.size + np + n0 ≤ 1048576
  rotate_left
  · go_wp2
    go_ret
    exact ⟨says_false _, rfl⟩
  go_wp2
  go_loopw [25, 26] (fun s i wx => wx = w ∧ ∃ j : Nat, j ≤ n0 ∧ i = .int .i64 j ∧ ∃ z : Nat, s = .int .i64 z ∧ z ≤ 1048576) (fun _ i _ => n0 - (intOf i).toNat)
  case atStart => exact ⟨rfl, 0, by omega, rfl, name.size + np + n0, by simp, by omega⟩
  case round =>
  obtain ⟨rfl, j, hj, rfl, z, rfl, hz⟩ := hrel
  by_cases hlt : j < n0
  · obtain ⟨b, off, rfl, hc⟩ := (unhide HR).at (by omega)
    have c1 := hc j hlt
    clear hc
    generalize A j = s at *
    by_cases h16 : s.size ≤ 1048576
    · by_cases hs : z + s.size ≤ 1048576
      · go_wp2
        go_roundw
        case rel => exact ⟨by first | trivial | rfl, j + 1, by omega, by go_num, z + s.size, by simp, hs⟩
        case measure => simp [intOf]; omega
      · go_wp2
        go_ret
        exact ⟨says_false _, rfl⟩
    · go_wp2
      go_ret
      exact ⟨says_false _, rfl⟩
  by_cases m5 : n1 ≤ 1048576
  rotate_left
  · go_wp2
    go_ret
    exact ⟨says_false _, rfl⟩
  by_cases m6 : z + n1 ≤ 1048576
  rotate_left
  · go_wp2
    go_ret
    exact ⟨says_false _, rfl⟩
  by_cases m7 : n2 ≤ 1048576
  rotate_left
  · go_wp2
    go_ret
    exact ⟨says_false _, rfl⟩
  by_cases m8 : z + n1 + n2 ≤ 1048576
  rotate_left
  · go_wp2
    go_ret
    exact ⟨says_false _, rfl⟩
  by_cases m9 : n3 ≤ 1048576
  rotate_left
  · go_wp2
    go_ret
    exact ⟨says_false _, rfl⟩
  by_cases m10 : z + n1 + n2 + n3 ≤ 1048576
  rotate_left
  · go_wp2
    go_ret
    exact ⟨says_false _, rfl⟩
  go_wp2
  go_ret
  exact ⟨says_true ⟨m3, m5, m7, m9⟩, rfl⟩

set_option maxRecDepth 100000 in
set_option maxHeartbeats 16000000 in
theorem zzCut_any (name : ByteArray) (pl : Int) (ap : Option Addr) (np cp : Nat) (ln : Int) (a0 : Option Addr) (n0 c0 : Nat) (A : Nat → ByteArray) (a1 : Option Addr) (n1 c1 : Nat) (a2 : Option Addr) (n2 c2 : Nat) (a3 : Option Addr) (n3 c3 : Nat) (ex : Bool) (k : Int) (w : World) (h : Row w a0 n0 A) :
    Calls Try.prog 8 #[.string name, .int .i64 pl, .slice ap np cp, .int .i64 ln, .slice a0 n0 c0, .slice a1 n1 c1, .slice a2 n2 c2, .slice a3 n3 c3, .bool ex, .int .i64 k] w fun e w' => Says e (n0 ≤ 1048576 ∧ n1 ≤ 1048576 ∧ n2 ≤ 1048576 ∧ n3 ≤ 1048576) ∧ w' = w := by
  have HR := hide h
  clear h
  go_enter Try.func8, Try.ntmps8
  by_cases m0 : name.size ≤ 1048576
  rotate_left
  · go_wp2
    go_ret
    exact ⟨says_false _, rfl⟩
  by_cases m1 : np ≤ 1048576
  rotate_left
  · go_wp2
    go_ret
    exact ⟨says_false _, rfl⟩
  by_cases m2 : name.size + np ≤ 1048576
  rotate_left
  · go_wp2
    go_ret
    exact ⟨says_false _, rfl⟩
  by_cases m3 : n0 ≤ 1048576
  rotate_left
  · go_wp2
    go_ret
    exact ⟨says_false _, rfl⟩
  by_cases m4 : name.size + np + n0 ≤ 1048576
  rotate_left
  · go_wp2
    go_ret
    exact ⟨says_false _, rfl⟩
  go_wp2
  go_loopw [21, 22] (fun s i wx => wx = w ∧ ∃ j : Nat, j ≤ n0 ∧ i = .int .i64 j ∧ ∃ z : Nat, s = .int .i64 z ∧ z ≤ 1048576) (fun _ i _ => n0 - (intOf i).toNat)
  case atStart => exact ⟨rfl, 0, by omega, rfl, name.size + np + n0, by simp, by omega⟩
  case round =>
  obtain ⟨rfl, j, hj, rfl, z, rfl, hz⟩ := hrel
  by_cases hlt : j < n0
  · obtain ⟨b, off, rfl, hc⟩ := (unhide HR).at (by omega)
    have c1 := hc j hlt
    clear hc
    generalize A j = s at *
    by_cases h16 : s.size ≤ 1048576
    · by_cases hs : z + s.size ≤ 1048576
      · go_wp2
        go_roundw
        case rel => exact ⟨by first | trivial | rfl, j + 1, by omega, by go_num, z + s.size, by simp, hs⟩
        case measure => simp [intOf]; omega
      · go_wp2
        go_ret
        exact ⟨says_false _, rfl⟩
    · go_wp2
      go_ret
      exact ⟨says_false _, rfl⟩
  by_cases m5 : n1 ≤ 1048576
  rotate_left
  · go_wp2
    go_ret
    exact ⟨says_false _, rfl⟩
  by_cases m6 : z + n1 ≤ 1048576
  rotate_left
  · go_wp2
    go_ret
    exact ⟨says_false _, rfl⟩
  by_cases m7 : n2 ≤ 1048576
  rotate_left
  · go_wp2
    go_ret
    exact ⟨says_false _, rfl⟩
  by_cases m8 : z + n1 + n2 ≤ 1048576
  rotate_left
  · go_wp2
    go_ret
    exact ⟨says_false _, rfl⟩
  by_cases m9 : n3 ≤ 1048576
  rotate_left
  · go_wp2
    go_ret
    exact ⟨says_false _, rfl⟩
  by_cases m10 : z + n1 + n2 + n3 ≤ 1048576
  rotate_left
  · go_wp2
    go_ret
    exact ⟨says_false _, rfl⟩
  go_wp2
  go_ret
  exact ⟨says_true ⟨m3, m5, m7, m9⟩, rfl⟩

set_option maxRecDepth 100000 in
set_option maxHeartbeats 16000000 in
theorem big_any (name : ByteArray) (ap : Option Addr) (np cp : Nat) (a0 : Option Addr) (n0 c0 : Nat) (A : Nat → ByteArray) (a1 : Option Addr) (n1 c1 : Nat) (a2 : Option Addr) (n2 c2 : Nat) (a3 : Option Addr) (n3 c3 : Nat) (w : World) (h : Row w a0 n0 A) :
    Calls Try.prog 9 #[.string name, .slice ap np cp, .slice a0 n0 c0, .slice a1 n1 c1, .slice a2 n2 c2, .slice a3 n3 c3] w fun e w' => Says e True ∧ w' = w := by
  have HR := hide h
  clear h
  go_enter Try.func9, Try.ntmps9
  by_cases m0 : name.size ≤ 1048576
  rotate_left
  · go_wp2
    go_ret
    exact ⟨says_true trivial, rfl⟩
  by_cases m1 : np ≤ 1048576
  rotate_left
  · go_wp2
    go_ret
    exact ⟨says_true trivial, rfl⟩
  by_cases m2 : n0 ≤ 131072
  rotate_left
  · go_wp2
    go_ret
    exact ⟨says_true trivial, rfl⟩
  by_cases m3 : n1 ≤ 131072
  rotate_left
  · go_wp2
    go_ret
    exact ⟨says_true trivial, rfl⟩
  by_cases m4 : n2 ≤ 1048576
  rotate_left
  · go_wp2
    go_ret
    exact ⟨says_true trivial, rfl⟩
  by_cases m5 : n3 ≤ 1048576
  rotate_left
  · go_wp2
    go_ret
    exact ⟨says_true trivial, rfl⟩
  by_cases m6 : name.size + np + 8 * n0 + 8 * n1 + n2 + n3 ≤ 1048576
  rotate_left
  · go_wp2
    go_ret
    exact ⟨says_true trivial, rfl⟩
  go_wp2
  go_loopw [13, 14] (fun s i wx => wx = w ∧ ∃ j : Nat, j ≤ n0 ∧ i = .int .i64 j ∧ ∃ z : Nat, s = .int .i64 z ∧ z ≤ 1048576) (fun _ i _ => n0 - (intOf i).toNat)
  case atStart => exact ⟨rfl, 0, by omega, rfl, name.size + np + 8 * n0 + 8 * n1 + n2 + n3, by simp, by omega⟩
  case round =>
  obtain ⟨rfl, j, hj, rfl, z, rfl, hz⟩ := hrel
  by_cases hlt : j < n0
  · obtain ⟨b, off, rfl, hc⟩ := (unhide HR).at (by omega)
    have c1 := hc j hlt
    clear hc
    generalize A j = s at *
    by_cases h16 : s.size ≤ 1048576
    · by_cases hs : z + s.size ≤ 1048576
      · go_wp2
        go_roundw
        case rel => exact ⟨by first | trivial | rfl, j + 1, by omega, by go_num, z + s.size, by simp, hs⟩
        case measure => simp [intOf]; omega
      · go_wp2
        go_ret
        exact ⟨says_true trivial, rfl⟩
    · go_wp2
      go_ret
      exact ⟨says_true trivial, rfl⟩
  go_wp2
  go_ret
  exact ⟨says_false _, rfl⟩

set_option maxRecDepth 100000 in
set_option maxHeartbeats 4000000 in
theorem shape_any (a0 : Option Addr) (n0 c0 : Nat) (a1 : Option Addr) (n1 c1 : Nat) (a2 : Option Addr) (n2 c2 : Nat) (a3 : Option Addr) (n3 c3 : Nat) (w : World) :
    Calls Try.prog 10 #[.slice a0 n0 c0, .slice a1 n1 c1, .slice a2 n2 c2, .slice a3 n3 c3] w fun e w' => Says e (n0 = n1 ∧ n2 = n1 ∧ n3 = n1) ∧ w' = w := by
  by_cases e0 : n0 = n1
  · by_cases e2 : n2 = n1
    · by_cases e3 : n3 = n1
      · subst e0
        subst e2
        subst e3
        go_enter Try.func10, Try.ntmps10
        go_wp2
        go_ret
        exact ⟨says_true (by refine ⟨?_, ?_, ?_⟩ <;> first | trivial | rfl), rfl⟩
      · subst e0
        subst e2
        have b3 : ((n3 : Int) == n2) = false := by simpa using (fun e => e3 (by omega) : ¬ ((n3 : Int) = n2))
        go_enter Try.func10, Try.ntmps10
        go_wp2
        go_ret
        exact ⟨says_false _, rfl⟩
    · subst e0
      have b2 : ((n2 : Int) == n0) = false := by simpa using (fun e => e2 (by omega) : ¬ ((n2 : Int) = n0))
      go_enter Try.func10, Try.ntmps10
      go_wp2
      go_ret
      exact ⟨says_false _, rfl⟩
  · have b0 : ((n0 : Int) == n1) = false := by simpa using (fun e => e0 (by omega) : ¬ ((n0 : Int) = n1))
    go_enter Try.func10, Try.ntmps10
    go_wp2
    go_ret
    exact ⟨says_false _, rfl⟩

end Go.Proofs.Qxb6617102a
