/- The small functions of package dialhistory. -/
import Derived.Test.Qxb6616570aChecked
import Derived.Test.Qxb6616570aKept
import Derived.Test.Qxb6616570aLocks
import Derived.BigQuiet
import Derived.Deep.QuietTactic
import Derived.Deep.RegionHeld3
namespace Go.Proofs.Qxb6616570a
open Go.RowKit Go.Maps

set_option maxHeartbeats 400000 in
theorem recEntries_any (b : Nat) (p : Option Addr) (w : World) (hc : w.cell? ⟨b, 7, none⟩ = some (.pointer p)) :
    Calls Try.prog 38 #[.pointer (some ⟨b, 0, none⟩)] w fun e w' => e = .returned (.pointer p) ∧ w' = w := by
  go_enter Try.func38, Try.ntmps38
  go_wp2
  go_ret
  exact ⟨rfl, rfl⟩

set_option maxHeartbeats 400000 in
theorem recDialer_any (b : Nat) (p : Option Addr) (w : World) (hc : w.cell? ⟨b, 5, none⟩ = some (.pointer p)) :
    Calls Try.prog 46 #[.pointer (some ⟨b, 0, none⟩)] w fun e w' => e = .returned (.pointer p) ∧ w' = w := by
  go_enter Try.func46, Try.ntmps46
  go_wp2
  go_ret
  exact ⟨rfl, rfl⟩

set_option maxHeartbeats 400000 in
theorem recOffer_any (b : Nat) (p : Option Addr) (w : World) (hc : w.cell? ⟨b, 6, none⟩ = some (.pointer p)) :
    Calls Try.prog 47 #[.pointer (some ⟨b, 0, none⟩)] w fun e w' => e = .returned (.pointer p) ∧ w' = w := by
  go_enter Try.func47, Try.ntmps47
  go_wp2
  go_ret
  exact ⟨rfl, rfl⟩

set_option maxHeartbeats 400000 in
theorem recFailures_any (b : Nat) (x : Int) (w : World) (hc : w.cell? ⟨b, 0, none⟩ = some (.int .i64 x)) :
    Calls Try.prog 48 #[.pointer (some ⟨b, 0, none⟩)] w fun e w' => e = .returned (.int .i64 x) ∧ w' = w := by
  go_enter Try.func48, Try.ntmps48
  go_wp2
  go_ret
  exact ⟨rfl, rfl⟩

set_option maxHeartbeats 400000 in
theorem recFailing_any (b : Nat) (x : Bool) (w : World) (hc : w.cell? ⟨b, 4, none⟩ = some (.bool x)) :
    Calls Try.prog 49 #[.pointer (some ⟨b, 0, none⟩)] w fun e w' => e = .returned (.bool x) ∧ w' = w := by
  go_enter Try.func49, Try.ntmps49
  go_wp2
  go_ret
  exact ⟨rfl, rfl⟩

set_option maxHeartbeats 400000 in
theorem entRecord_any (b : Nat) (p : Option Addr) (w : World) (hc : w.cell? ⟨b, 2, none⟩ = some (.pointer p)) :
    Calls Try.prog 39 #[.pointer (some ⟨b, 0, none⟩)] w fun e w' => e = .returned (.pointer p) ∧ w' = w := by
  go_enter Try.func39, Try.ntmps39
  go_wp2
  go_ret
  exact ⟨rfl, rfl⟩

set_option maxHeartbeats 400000 in
theorem entNext_any (b : Nat) (p : Option Addr) (w : World) (hc : w.cell? ⟨b, 3, none⟩ = some (.pointer p)) :
    Calls Try.prog 40 #[.pointer (some ⟨b, 0, none⟩)] w fun e w' => e = .returned (.pointer p) ∧ w' = w := by
  go_enter Try.func40, Try.ntmps40
  go_wp2
  go_ret
  exact ⟨rfl, rfl⟩

set_option maxHeartbeats 400000 in
theorem entNews_any (b : Nat) (x : Bool) (w : World) (hc : w.cell? ⟨b, 4, none⟩ = some (.bool x)) :
    Calls Try.prog 41 #[.pointer (some ⟨b, 0, none⟩)] w fun e w' => e = .returned (.bool x) ∧ w' = w := by
  go_enter Try.func41, Try.ntmps41
  go_wp2
  go_ret
  exact ⟨rfl, rfl⟩

set_option maxHeartbeats 400000 in
theorem entOutcome_any (b : Nat) (x : Int) (w : World) (hc : w.cell? ⟨b, 5, none⟩ = some (.int .u8 x)) :
    Calls Try.prog 42 #[.pointer (some ⟨b, 0, none⟩)] w fun e w' => e = .returned (.int .u8 x) ∧ w' = w := by
  go_enter Try.func42, Try.ntmps42
  go_wp2
  go_ret
  exact ⟨rfl, rfl⟩

set_option maxHeartbeats 400000 in
theorem newsLen_any (b n c : Nat) (a : Option Addr) (w : World) (hc : w.cell? ⟨b, 2, none⟩ = some (.slice a n c)) :
    Calls Try.prog 43 #[.pointer (some ⟨b, 0, none⟩)] w fun e w' => e = .returned (.int .i64 n) ∧ w' = w := by
  go_enter Try.func43, Try.ntmps43
  go_wp2
  go_ret
  exact ⟨rfl, rfl⟩

set_option maxHeartbeats 400000 in
theorem newsAt_any (b g c : Nat) (p : Option Addr) (w : World) (hc : w.cell? ⟨b, 2, none⟩ = some (.slice (some ⟨g, 0, none⟩) 1 c)) (hg : w.cell? ⟨g, 0, none⟩ = some (.pointer p)) :
    Calls Try.prog 44 #[.pointer (some ⟨b, 0, none⟩), .int .i64 0] w fun e w' => e = .returned (.pointer p) ∧ w' = w := by
  go_enter Try.func44, Try.ntmps44
  go_wp2
  go_ret
  exact ⟨rfl, rfl⟩

set_option maxHeartbeats 400000 in
theorem load_any (b o : Nat) (x : Bool) (w : World) (hc : w.cell? ⟨b, o, none⟩ = some (.int .u32 (if x then 1 else 0))) :
    Calls Try.prog 63 #[.pointer (some ⟨b, o, none⟩)] w fun e w' => e = .returned (.bool x) ∧ w' = w := by
  have hl := run_call_load (P := Try.prog) Try.func72 (by kernel_rfl) (by kernel_rfl) (by kernel_rfl) .u32 (by kernel_rfl) hc
  cases x with
  | true =>
    simp only [if_true] at hl hc
    go_enter Try.func63, Try.ntmps63
    go_wp2
    go_ret
    exact ⟨rfl, rfl⟩
  | false =>
    simp only [Bool.false_eq_true, if_false] at hl hc
    go_enter Try.func63, Try.ntmps63
    go_wp2
    go_ret
    exact ⟨rfl, rfl⟩

set_option maxHeartbeats 400000 in
theorem hasNews_any (b : Nat) (x : Bool) (w : World) (hc : w.cell? ⟨b, 4, none⟩ = some (.int .u32 (if x then 1 else 0))) :
    Calls Try.prog 45 #[.pointer (some ⟨b, 0, none⟩)] w fun e w' => e = .returned (.bool x) ∧ w' = w := by
  have HQ := hide (load_any b 4 x w hc)
  clear hc
  go_enter Try.func45, Try.ntmps45
  go_wp2_with (go_at_call 63; refine (unhide HQ).mono ?_; rintro e w' ⟨rfl, rfl⟩)
  go_ret
  exact ⟨rfl, rfl⟩

set_option maxHeartbeats 400000 in
theorem b32_any (w : World) : Calls Try.prog 67 #[.bool true] w fun e w' => e = .returned (.int .u32 1) ∧ w' = w := by
  go_enter Try.func67, Try.ntmps67
  go_wp2
  go_ret
  exact ⟨rfl, rfl⟩

set_option maxHeartbeats 400000 in
theorem store_any (b o : Nat) (u : Value) (w : World) (hc : w.cell? ⟨b, o, none⟩ = some u) (hz : w.frozen? ⟨b, o, none⟩ = false) :
    Calls Try.prog 58 #[.pointer (some ⟨b, o, none⟩), .bool true] w fun e w' => e = .returned (.tuple #[]) ∧ w' = (w.setCell ⟨b, o, none⟩ (.int .u32 1)).drew := by
  have hl : (callFunc 66 #[.pointer (some ⟨b, o, none⟩), .int .u32 1]).run Try.prog w.drew = _ := run_call_store (P := Try.prog) Try.func66 (by kernel_rfl) (by kernel_rfl) (by kernel_rfl) (by kernel_rfl) (w := w.drew) hc hz
  go_enter Try.func58, Try.ntmps58
  go_wp2
  go_region_calls
  all_goals go_end0
  all_goals exact ⟨rfl, rfl⟩

set_option maxHeartbeats 400000 in
theorem isZero_any (w : World) :
    Calls Try.prog 64 #[.agg #[.int .u64 0, .int .i64 0, .pointer none]] w fun e w' => e = .returned (.bool true) ∧ w' = w.alloc (.cells #[.int .u64 0, .int .i64 0, .pointer none] 43) := by
  go_enter Try.func64, Try.ntmps64
  go_wp2
  go_ret
  exact ⟨rfl, rfl⟩

set_option maxHeartbeats 400000 in
theorem recZero_any (b : Nat) (w : World) (h1 : w.cell? ⟨b, 1, none⟩ = some (.int .u64 0)) (h2 : w.cell? ⟨b, 2, none⟩ = some (.int .i64 0)) (h3 : w.cell? ⟨b, 3, none⟩ = some (.pointer none)) :
    Calls Try.prog 50 #[.pointer (some ⟨b, 0, none⟩)] w fun e w' => e = .returned (.bool true) ∧ w' = w.alloc (.cells #[.int .u64 0, .int .i64 0, .pointer none] 43) := by
  have HQ := hide (isZero_any w)
  go_enter Try.func50, Try.ntmps50
  go_wp2_with (go_at_call 64; refine (unhide HQ).mono ?_; rintro e w' ⟨rfl, rfl⟩)
  go_ret
  exact ⟨rfl, rfl⟩

end Go.Proofs.Qxb6616570a
