/- The size and order checks. -/
import Derived.Test.Qxb6616724aPure
import Derived.Test.Qxb6616724aProg
import Derived.KernelRfl
import Derived.BigQuiet
namespace Go.Proofs.Qxb6616724a
open Go.RowKit

/-- the strings A lie in the slice -/
def Row (w : World) (a : Option Addr) (n : Nat) (A : Nat → ByteArray) : Prop := n = 0 ∨ ∃ b off, a = some ⟨b, off, none⟩ ∧ ∀ j, j < n → w.cell? ⟨b, off + j, none⟩ = some (.string (A j))
theorem Row.kept {F : Nat → Prop} {w w' : World} {a : Option Addr} {n : Nat} {A : Nat → ByteArray} (h : Row w a n A) (k : Kept F w w') (hF : ∀ i, i < w.heap.size → ¬ F i) : Row w' a n A := by
  rcases h with h | ⟨b, off, e, hc⟩
  · exact .inl h
  · exact .inr ⟨b, off, e, fun j hj => k.cell (hc j hj) (hF b (World.block_lt_of_cell? _ _ (hc j hj)))⟩
theorem Row.at {w : World} {a : Option Addr} {n : Nat} {A : Nat → ByteArray} (h : Row w a n A) (hn : 0 < n) : ∃ b off, a = some ⟨b, off, none⟩ ∧ ∀ j, j < n → w.cell? ⟨b, off + j, none⟩ = some (.string (A j)) := by
  rcases h with h | h
  · omega
  · exact h

/-- an answer that is a truth value -/
def Says (e : Ending) (p : Prop) : Prop := ∃ b, e = .returned (.bool b) ∧ (b = true → p)
theorem says_false (p : Prop) : Says (.returned (.bool false)) p := ⟨false, rfl, fun h => by cases h⟩
theorem says_true {p : Prop} (h : p) : Says (.returned (.bool true)) p := ⟨true, rfl, fun _ => h⟩
/-- an answer that is a number up to 2^20 -/
def Left (e : Ending) : Prop := ∃ r : Int, e = .returned (.int .i64 r) ∧ -1 ≤ r ∧ r ≤ 1048576
theorem left_mk {r : Int} (h : -1 ≤ r) (h' : r ≤ 1048576) : Left (.returned (.int .i64 r)) := ⟨r, rfl, h, h'⟩

set_option maxRecDepth 100000 in
set_option maxHeartbeats 4000000 in
theorem spend_any (l : Int) (a : Option Addr) (n c : Nat) (A : Nat → ByteArray) (w : World) (h : Row w a n A) (_h0 : -1 ≤ l) (h1 : l ≤ 1048576) (hn : n ≤ 4611686018427387904) :
    Calls Try.prog 12 #[.int .i64 l, .slice a n c] w fun e w' => Left e ∧ w' = w := by
  have HR := hide h
  clear h
  by_cases hl : l < 0
  · go_enter Try.func12, Try.ntmps12
    go_wp2
    go_ret
    exact ⟨left_mk (by omega) (by omega), rfl⟩
  · go_enter Try.func12, Try.ntmps12
    go_wp2
    go_loopw [0, 5] (fun s i wr => wr = w ∧ ∃ j : Nat, j ≤ n ∧ i = .int .i64 j ∧ ∃ z : Int, s = .int .i64 z ∧ 0 ≤ z ∧ z ≤ 1048576) (fun _ i _ => n - (intOf i).toNat)
    case atStart => exact ⟨rfl, 0, by omega, rfl, l, rfl, by omega, h1⟩
    case round =>
      obtain ⟨rfl, j, hj, rfl, z, rfl, hz0, hz1⟩ := hrel
      by_cases hlt : j < n
      · obtain ⟨b, off, rfl, hc⟩ := (unhide HR).at (by omega)
        have c1 := hc j hlt
        clear hc
        generalize A j = s at *
        by_cases h16 : z < 16
        · go_wp2
          go_ret
          exact ⟨left_mk (by omega) (by omega), rfl⟩
        · by_cases hs : (s.size : Int) ≤ z - 16
          · go_wp2
            go_roundw
            case rel => exact ⟨by first | trivial | rfl, j + 1, by omega, by go_num, z - 16 - s.size, rfl, by omega, by omega⟩
            case measure => simp [intOf]; omega
          · go_wp2
            go_ret
            exact ⟨left_mk (by omega) (by omega), rfl⟩
      · go_wp2
        go_ret
        exact ⟨left_mk (by omega) (by omega), rfl⟩

set_option maxRecDepth 100000 in
set_option maxHeartbeats 4000000 in
theorem size_any (a0 : Option Addr) (n0 c0 : Nat) (A0 : Nat → ByteArray) (a1 : Option Addr) (n1 c1 : Nat) (A1 : Nat → ByteArray) (a2 : Option Addr) (n2 c2 : Nat) (A2 : Nat → ByteArray) (a3 : Option Addr) (n3 c3 : Nat) (A3 : Nat → ByteArray) (a4 : Option Addr) (n4 c4 : Nat) (A4 : Nat → ByteArray) (a5 : Option Addr) (n5 c5 : Nat) (A5 : Nat → ByteArray) (w : World) (h0 : Row w a0 n0 A0) (h1 : Row w a1 n1 A1) (h2 : Row w a2 n2 A2) (h3 : Row w a3 n3 A3) (h4 : Row w a4 n4 A4) (h5 : Row w a5 n5 A5) (l0 : n0 ≤ 4611686018427387904) (l1 : n1 ≤ 4611686018427387904) (l2 : n2 ≤ 4611686018427387904) (l3 : n3 ≤ 4611686018427387904) (l4 : n4 ≤ 4611686018427387904) (l5 : n5 ≤ 4611686018427387904) :
    Calls Try.prog 6 #[.slice a0 n0 c0, .slice a1 n1 c1, .slice a2 n2 c2, .slice a3 n3 c3, .slice a4 n4 c4, .slice a5 n5 c5] w fun e w' => Says e True ∧ w' = w := by
  have H0 := hide h0
  have H1 := hide h1
  have H2 := hide h2
  have H3 := hide h3
  have H4 := hide h4
  have H5 := hide h5
  clear h0 h1 h2 h3 h4 h5
  go_enter Try.func6, Try.ntmps6
  go_wp2_with fail
  refine (spend_any 1048576 a0 n0 c0 A0 w (unhide H0) (by omega) (by omega) l0).mono ?_
  rintro e w ⟨⟨r0, rfl, p0, q0⟩, rfl⟩
  go_wp2_with fail
  refine (spend_any r0 a1 n1 c1 A1 w (unhide H1) p0 q0 l1).mono ?_
  rintro e w ⟨⟨r1, rfl, p1, q1⟩, rfl⟩
  go_wp2_with fail
  refine (spend_any r1 a2 n2 c2 A2 w (unhide H2) p1 q1 l2).mono ?_
  rintro e w ⟨⟨r2, rfl, p2, q2⟩, rfl⟩
  go_wp2_with fail
  refine (spend_any r2 a3 n3 c3 A3 w (unhide H3) p2 q2 l3).mono ?_
  rintro e w ⟨⟨r3, rfl, p3, q3⟩, rfl⟩
  go_wp2_with fail
  refine (spend_any r3 a4 n4 c4 A4 w (unhide H4) p3 q3 l4).mono ?_
  rintro e w ⟨⟨r4, rfl, p4, q4⟩, rfl⟩
  go_wp2_with fail
  refine (spend_any r4 a5 n5 c5 A5 w (unhide H5) p4 q4 l5).mono ?_
  rintro e w ⟨⟨r5, rfl, p5, q5⟩, rfl⟩
  go_wp2_with fail
  go_ret
  exact ⟨⟨_, rfl, fun _ => trivial⟩, rfl⟩

set_option maxRecDepth 100000 in
set_option maxHeartbeats 16000000 in
theorem zz_any (a0 : Option Addr) (n0 c0 : Nat) (A0 : Nat → ByteArray) (a1 : Option Addr) (n1 c1 : Nat) (A1 : Nat → ByteArray) (a2 : Option Addr) (n2 c2 : Nat) (A2 : Nat → ByteArray) (a3 : Option Addr) (n3 c3 : Nat) (A3 : Nat → ByteArray) (a4 : Option Addr) (n4 c4 : Nat) (A4 : Nat → ByteArray) (a5 : Option Addr) (n5 c5 : Nat) (A5 : Nat → ByteArray) (i j k : Int) (w : World) (h0 : Row w a0 n0 A0) (h1 : Row w a1 n1 A1) (h2 : Row w a2 n2 A2) (h3 : Row w a3 n3 A3) (h4 : Row w a4 n4 A4) (h5 : Row w a5 n5 A5) (l0 : n0 ≤ 9223372036854775807) (l1 : n1 ≤ 9223372036854775807) (l2 : n2 ≤ 9223372036854775807) (l3 : n3 ≤ 9223372036854775807) (l4 : n4 ≤ 9223372036854775807) (l5 : n5 ≤ 9223372036854775807) :
    Calls Try.prog 11 #[.slice a0 n0 c0, .slice a1 n1 c1, .slice a2 n2 c2, .slice a3 n3 c3, .slice a4 n4 c4, .slice a5 n5 c5, .int .i64 i, .int .i64 j, .int .i64 k] w fun e w' => Says e (n0 ≤ 1048576 ∧ n1 ≤ 1048576 ∧ n2 ≤ 1048576 ∧ n3 ≤ 1048576 ∧ n4 ≤ 1048576 ∧ n5 ≤ 1048576) ∧ w' = w := by
  have H0 := hide h0
  have H1 := hide h1
  have H2 := hide h2
  have H3 := hide h3
  have H4 := hide h4
  have H5 := hide h5
  clear h0 h1 h2 h3 h4 h5
  go_enter Try.func11, Try.ntmps11
  by_cases m0 : n0 ≤ 1048576
  rotate_left
  · go_wp2
    go_ret
    exact ⟨says_false _, rfl⟩
  go_wp2
  go_loopw [19, 20] (fun s i wx => wx = w ∧ ∃ j : Nat, j ≤ n0 ∧ i = .int .i64 j ∧ ∃ z : Int, s = .int .i64 z ∧ 0 ≤ z ∧ z ≤ 1048576) (fun _ i _ => n0 - (intOf i).toNat)
  case atStart => exact ⟨rfl, 0, by omega, rfl, n0, rfl, by omega, by omega⟩
  case round =>
    obtain ⟨rfl, j0, hj0, rfl, z0, rfl, zl0, zu0⟩ := hrel
    by_cases hlt : j0 < n0
    · obtain ⟨b, off, rfl, hc⟩ := (unhide H0).at (by omega)
      have c1 := hc j0 hlt
      clear hc
      generalize A0 j0 = s at *
      by_cases h16 : (s.size : Int) ≤ 1048576
      · by_cases hs : z0 + (s.size : Int) ≤ 1048576
        · go_wp2
          go_roundw
          case rel => exact ⟨by first | trivial | rfl, j0 + 1, by omega, by go_num, z0 + s.size, rfl, by omega, by omega⟩
          case measure => simp [intOf]; omega
        · go_wp2
          go_ret
          exact ⟨says_false _, rfl⟩
      · go_wp2
        go_ret
        exact ⟨says_false _, rfl⟩
    clear H0
    by_cases m1 : n1 ≤ 1048576
    rotate_left
    · go_wp2
      go_ret
      exact ⟨says_false _, rfl⟩
    by_cases t1 : z0 + (n1 : Int) ≤ 1048576
    rotate_left
    · go_wp2
      go_ret
      exact ⟨says_false _, rfl⟩
    go_wp2
    go_loopw [19, 21] (fun s i wx => wx = wr ∧ ∃ j : Nat, j ≤ n1 ∧ i = .int .i64 j ∧ ∃ z : Int, s = .int .i64 z ∧ 0 ≤ z ∧ z ≤ 1048576) (fun _ i _ => n1 - (intOf i).toNat)
    case atStart => exact ⟨rfl, 0, by omega, rfl, z0 + n1, rfl, by omega, by omega⟩
    case round =>
      obtain ⟨rfl, j1, hj1, rfl, z1, rfl, zl1, zu1⟩ := hrel
      by_cases hlt : j1 < n1
      · obtain ⟨b, off, rfl, hc⟩ := (unhide H1).at (by omega)
        have c1 := hc j1 hlt
        clear hc
        generalize A1 j1 = s at *
        by_cases h16 : (s.size : Int) ≤ 1048576
        · by_cases hs : z1 + (s.size : Int) ≤ 1048576
          · go_wp2
            go_roundw
            case rel => exact ⟨by first | trivial | rfl, j1 + 1, by omega, by go_num, z1 + s.size, rfl, by omega, by omega⟩
            case measure => simp [intOf]; omega
          · go_wp2
            go_ret
            exact ⟨says_false _, rfl⟩
        · go_wp2
          go_ret
          exact ⟨says_false _, rfl⟩
      clear H1
      by_cases m2 : n2 ≤ 1048576
      rotate_left
      · go_wp2
        go_ret
        exact ⟨says_false _, rfl⟩
      by_cases t2 : z1 + (n2 : Int) ≤ 1048576
      rotate_left
      · go_wp2
        go_ret
        exact ⟨says_false _, rfl⟩
      go_wp2
      go_loopw [19, 22] (fun s i wx => wx = wr ∧ ∃ j : Nat, j ≤ n2 ∧ i = .int .i64 j ∧ ∃ z : Int, s = .int .i64 z ∧ 0 ≤ z ∧ z ≤ 1048576) (fun _ i _ => n2 - (intOf i).toNat)
      case atStart => exact ⟨rfl, 0, by omega, rfl, z1 + n2, rfl, by omega, by omega⟩
      case round =>
        obtain ⟨rfl, j2, hj2, rfl, z2, rfl, zl2, zu2⟩ := hrel
        by_cases hlt : j2 < n2
        · obtain ⟨b, off, rfl, hc⟩ := (unhide H2).at (by omega)
          have c1 := hc j2 hlt
          clear hc
          generalize A2 j2 = s at *
          by_cases h16 : (s.size : Int) ≤ 1048576
          · by_cases hs : z2 + (s.size : Int) ≤ 1048576
            · go_wp2
              go_roundw
              case rel => exact ⟨by first | trivial | rfl, j2 + 1, by omega, by go_num, z2 + s.size, rfl, by omega, by omega⟩
              case measure => simp [intOf]; omega
            · go_wp2
              go_ret
              exact ⟨says_false _, rfl⟩
          · go_wp2
            go_ret
            exact ⟨says_false _, rfl⟩
        clear H2
        by_cases m3 : n3 ≤ 1048576
        rotate_left
        · go_wp2
          go_ret
          exact ⟨says_false _, rfl⟩
        by_cases t3 : z2 + (n3 : Int) ≤ 1048576
        rotate_left
        · go_wp2
          go_ret
          exact ⟨says_false _, rfl⟩
        go_wp2
        go_loopw [19, 23] (fun s i wx => wx = wr ∧ ∃ j : Nat, j ≤ n3 ∧ i = .int .i64 j ∧ ∃ z : Int, s = .int .i64 z ∧ 0 ≤ z ∧ z ≤ 1048576) (fun _ i _ => n3 - (intOf i).toNat)
        case atStart => exact ⟨rfl, 0, by omega, rfl, z2 + n3, rfl, by omega, by omega⟩
        case round =>
          obtain ⟨rfl, j3, hj3, rfl, z3, rfl, zl3, zu3⟩ := hrel
          by_cases hlt : j3 < n3
          · obtain ⟨b, off, rfl, hc⟩ := (unhide H3).at (by omega)
            have c1 := hc j3 hlt
            clear hc
            generalize A3 j3 = s at *
            by_cases h16 : (s.size : Int) ≤ 1048576
            · by_cases hs : z3 + (s.size : Int) ≤ 1048576
              · go_wp2
                go_roundw
                case rel => exact ⟨by first | trivial | rfl, j3 + 1, by omega, by go_num, z3 + s.size, rfl, by omega, by omega⟩
                case measure => simp [intOf]; omega
              · go_wp2
                go_ret
                exact ⟨says_false _, rfl⟩
            · go_wp2
              go_ret
              exact ⟨says_false _, rfl⟩
          clear H3
          by_cases m4 : n4 ≤ 1048576
          rotate_left
          · go_wp2
            go_ret
            exact ⟨says_false _, rfl⟩
          by_cases t4 : z3 + (n4 : Int) ≤ 1048576
          rotate_left
          · go_wp2
            go_ret
            exact ⟨says_false _, rfl⟩
          go_wp2
          go_loopw [19, 24] (fun s i wx => wx = wr ∧ ∃ j : Nat, j ≤ n4 ∧ i = .int .i64 j ∧ ∃ z : Int, s = .int .i64 z ∧ 0 ≤ z ∧ z ≤ 1048576) (fun _ i _ => n4 - (intOf i).toNat)
          case atStart => exact ⟨rfl, 0, by omega, rfl, z3 + n4, rfl, by omega, by omega⟩
          case round =>
            obtain ⟨rfl, j4, hj4, rfl, z4, rfl, zl4, zu4⟩ := hrel
            by_cases hlt : j4 < n4
            · obtain ⟨b, off, rfl, hc⟩ := (unhide H4).at (by omega)
              have c1 := hc j4 hlt
              clear hc
              generalize A4 j4 = s at *
              by_cases h16 : (s.size : Int) ≤ 1048576
              · by_cases hs : z4 + (s.size : Int) ≤ 1048576
                · go_wp2
                  go_roundw
                  case rel => exact ⟨by first | trivial | rfl, j4 + 1, by omega, by go_num, z4 + s.size, rfl, by omega, by omega⟩
                  case measure => simp [intOf]; omega
                · go_wp2
                  go_ret
                  exact ⟨says_false _, rfl⟩
              · go_wp2
                go_ret
                exact ⟨says_false _, rfl⟩
            clear H4
            by_cases m5 : n5 ≤ 1048576
            rotate_left
            · go_wp2
              go_ret
              exact ⟨says_false _, rfl⟩
            by_cases t5 : z4 + (n5 : Int) ≤ 1048576
            rotate_left
            · go_wp2
              go_ret
              exact ⟨says_false _, rfl⟩
            go_wp2
            go_loopw [19, 25] (fun s i wx => wx = wr ∧ ∃ j : Nat, j ≤ n5 ∧ i = .int .i64 j ∧ ∃ z : Int, s = .int .i64 z ∧ 0 ≤ z ∧ z ≤ 1048576) (fun _ i _ => n5 - (intOf i).toNat)
            case atStart => exact ⟨rfl, 0, by omega, rfl, z4 + n5, rfl, by omega, by omega⟩
            case round =>
              obtain ⟨rfl, j5, hj5, rfl, z5, rfl, zl5, zu5⟩ := hrel
              by_cases hlt : j5 < n5
              · obtain ⟨b, off, rfl, hc⟩ := (unhide H5).at (by omega)
                have c1 := hc j5 hlt
                clear hc
                generalize A5 j5 = s at *
                by_cases h16 : (s.size : Int) ≤ 1048576
                · by_cases hs : z5 + (s.size : Int) ≤ 1048576
                  · go_wp2
                    go_roundw
                    case rel => exact ⟨by first | trivial | rfl, j5 + 1, by omega, by go_num, z5 + s.size, rfl, by omega, by omega⟩
                    case measure => simp [intOf]; omega
                  · go_wp2
                    go_ret
                    exact ⟨says_false _, rfl⟩
                · go_wp2
                  go_ret
                  exact ⟨says_false _, rfl⟩
              clear H5
              go_wp2
              go_ret
              exact ⟨says_true (by refine ⟨?_, ?_, ?_, ?_, ?_, ?_⟩ <;> omega), rfl⟩

end Go.Proofs.Qxb6616724a
