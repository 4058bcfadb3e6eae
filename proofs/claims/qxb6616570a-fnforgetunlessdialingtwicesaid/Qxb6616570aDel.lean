/- end, Deleted. -/
import Derived.Test.Qxb6616570aNode
import Derived.Test.Qxb6616570aPtr
namespace Go.Proofs.Qxb6616570a
open Go.RowKit Go.Maps

set_option maxHeartbeats 400000 in
theorem end_any (rb eb : Nat) (w : World) (h5 : w.cell? ⟨rb, 5, none⟩ = some (.pointer none)) :
    Calls Try.prog 55 #[pt eb, pt rb, .bool false] w fun e w' => e = .returned (.bool false) ∧ w' = w := by
  have hq := neq37_nil ⟨eb, 0, none⟩
  go_enter Try.func55, Try.ntmps55
  go_wp2
  go_ret
  exact ⟨rfl, rfl⟩

set_option maxHeartbeats 400000 in
theorem deleted_z (hb mb : Nat) (z : Int) (hz : z < 64) (w : World) (h3 : w.cell? ⟨hb, 3, none⟩ = some (.int .i64 z)) :
    Calls Try.prog 61 #[.pointer (some ⟨hb, 3, none⟩), .map (some mb)] w fun e w' => e = .returned (.map (some mb)) ∧ ∃ nq, w' = w.drewN nq := by
  go_enter Try.func61, Try.ntmps61
  go_wp2
  go_quiet (fail)
  go_wp2
  go_ret
  exact ⟨rfl, _, rfl⟩

end Go.Proofs.Qxb6616570a
