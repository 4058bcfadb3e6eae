/- layoutEnds. -/
import Derived.Test.Qxb6617102aLayout
namespace Go.Proofs.Qxb6617102a
open Go.RowKit

theorem zzends_any (lb : Nat) (v : Value) (w : World) (hc : w.cell? ⟨lb, 0, none⟩ = some v) : Calls Try.prog 23 #[.pointer (some ⟨lb, 0, none⟩)] w fun e w' => e = .returned v ∧ w' = w := by
  go_enter Try.func23, Try.ntmps23
  go_wp2
  go_ret
  exact ⟨rfl, rfl⟩

theorem ends_nil (ib : Nat) (ln : Int) (w : World) (hc : w.cell? ⟨ib, 4, none⟩ = some (.slice none 0 0)) (hl : w.cell? ⟨ib, 3, none⟩ = some (.int .i64 ln)) :
    Calls Try.prog 12 #[.pointer (some ⟨ib, 0, none⟩)] w fun e w' => ∃ eb, e = .returned (.tuple #[.slice (some ⟨eb, 0, none⟩) 1 1, .bool true]) ∧ w'.cell? ⟨eb, 0, none⟩ = some (.int .i64 ln) ∧ Kept (fun _ => False) w w' := by
  have HC := hide hc
  have HL := hide hl
  clear hc hl
  go_enter Try.func12, Try.ntmps12
  go_wp2_with fail
  refine (layout_nil ib ln w (unhide HC) (unhide HL)).mono ?_
  rintro e w1 ⟨lb, eb, rfl, h1, h2, hk⟩
  have H1 := hide h1
  have H2 := hide h2
  have HK := hide hk
  clear h1 h2 hk
  go_wp2_with fail
  refine (zzends_any lb _ w1 (unhide H1)).mono ?_
  rintro e w2 ⟨rfl, rfl⟩
  go_wp2_with fail
  go_ret2
  exact ⟨eb, rfl, unhide H2, unhide HK⟩

theorem ends_any (ib b n : Nat) (F : Nat → FileV) (w : World) (hc : w.cell? ⟨ib, 4, none⟩ = some (.slice (some ⟨b, 0, none⟩) n n)) (hf : Fl w b n F) (hn : n ≤ 1048577) :
    Calls Try.prog 12 #[.pointer (some ⟨ib, 0, none⟩)] w fun e w' => ∃ eb, e = .returned (.tuple #[.slice (some ⟨eb, 0, none⟩) n n, .bool true]) ∧ En w' eb n (fun j => pre (fun t => (F t).2.1) (j + 1)) ∧ Kept (fun _ => False) w w' := by
  have HC := hide hc
  have HF := hide hf
  clear hc hf
  go_enter Try.func12, Try.ntmps12
  go_wp2_with fail
  refine (layout_any ib b n F w (unhide HC) (unhide HF) hn).mono ?_
  rintro e w1 ⟨lb, eb, rfl, h1, h2, hk⟩
  have H1 := hide h1
  have H2 := hide h2
  have HK := hide hk
  clear h1 h2 hk
  go_wp2_with fail
  refine (zzends_any lb _ w1 (unhide H1)).mono ?_
  rintro e w2 ⟨rfl, rfl⟩
  go_wp2_with fail
  go_ret2
  exact ⟨eb, rfl, unhide H2, unhide HK⟩

end Go.Proofs.Qxb6617102a
