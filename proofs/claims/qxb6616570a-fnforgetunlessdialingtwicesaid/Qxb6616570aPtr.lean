/- '==' and '!=' between pointers. -/
import Derived.LaidEqlPtr
import Derived.Laws.Pointers
import Derived.Test.Qxb6616570aProg
import Derived.KernelRfl
namespace Go.Proofs.Qxb6616570a

section
variable {P : Program} (w : World)
theorem run_equal_self {tp te : TypeId} {j : TypeInfo} (p : Option Addr) (hp : P.underlying tp = some (.pointer te)) (hte : P.info? te = some j) (d : Nat) : (Op.equalIn (d + 1) tp (.pointer p) (.pointer p)).run P w = .ok true w := by
  cases p with
  | none => simp [Op.equalIn, run_underlying hp]
  | some a => simp [Op.equalIn, run_underlying hp, sizeOf, typeInfo, hte, run_sameAddr_same]
theorem run_eql_self {tp te : TypeId} {j : TypeInfo} (p : Option Addr) (hp : P.underlying tp = some (.pointer te)) (hte : P.info? te = some j) : (binOp .eql tp (.pointer p) (.pointer p)).run P w = .ok (.bool true) w := by
  simp only [binOp]
  simp [Op.equal, Op.maxDepth, run_equal_self w p hp hte 9999]
theorem run_neq_self {tp te : TypeId} {j : TypeInfo} (p : Option Addr) (hp : P.underlying tp = some (.pointer te)) (hte : P.info? te = some j) : (binOp .neq tp (.pointer p) (.pointer p)).run P w = .ok (.bool false) w := by
  simp only [binOp]
  simp [Op.equal, Op.maxDepth, run_equal_self w p hp hte 9999]
theorem run_neq_nil_some {tp te : TypeId} (a : Addr) (hp : P.underlying tp = some (.pointer te)) : (binOp .neq tp (.pointer none) (.pointer (some a))).run P w = .ok (.bool true) w := by
  have h : ∀ d : Nat, (Op.equalIn (d + 1) tp (.pointer none) (.pointer (some a))).run P w = .ok false w := fun d => by simp [Op.equalIn, run_underlying hp]
  simp only [binOp]
  simp [Op.equal, Op.maxDepth, h 9999]
end

theorem i109 : ∃ j, Try.prog.info? 109 = some j ∧ j.size ≠ 0 := by
  have h : (Try.prog.info? 109).map (fun i => decide (i.size ≠ 0)) = some true := by kernel_rfl
  obtain ⟨j, hj, hs⟩ := Option.map_eq_some_iff.1 h
  exact ⟨j, hj, by simpa using hs⟩
theorem i86 : ∃ j, Try.prog.info? 86 = some j ∧ j.size ≠ 0 := by
  have h : (Try.prog.info? 86).map (fun i => decide (i.size ≠ 0)) = some true := by kernel_rfl
  obtain ⟨j, hj, hs⟩ := Option.map_eq_some_iff.1 h
  exact ⟨j, hj, by simpa using hs⟩
theorem eql37 (p : Option Addr) (w : World) : (binOp .eql 37 (.pointer p) (.pointer p)).run Try.prog w = .ok (.bool true) w := let ⟨_, h, _⟩ := i109; run_eql_self w p Try.underlying37 h
theorem neq37 (p : Option Addr) (w : World) : (binOp .neq 37 (.pointer p) (.pointer p)).run Try.prog w = .ok (.bool false) w := let ⟨_, h, _⟩ := i109; run_neq_self w p Try.underlying37 h
theorem neq37_nil (a : Addr) (w : World) : (binOp .neq 37 (.pointer none) (.pointer (some a))).run Try.prog w = .ok (.bool true) w := run_neq_nil_some w a Try.underlying37
theorem eql26 (p : Option Addr) (w : World) : (binOp .eql 26 (.pointer p) (.pointer p)).run Try.prog w = .ok (.bool true) w := let ⟨_, h, _⟩ := i86; run_eql_self w p Try.underlying26 h
theorem neq26 (p : Option Addr) (w : World) : (binOp .neq 26 (.pointer p) (.pointer p)).run Try.prog w = .ok (.bool false) w := let ⟨_, h, _⟩ := i86; run_neq_self w p Try.underlying26 h
theorem eql37_other {a b : Addr} {ca cb : Array Value} {ta tb : TypeId} (w : World) (hne : a ≠ b) (ha : w.heap[a.block]? = some (.cells ca ta (0, 0))) (hb : w.heap[b.block]? = some (.cells cb tb (0, 0))) :
    (binOp .eql 37 (.pointer (some a)) (.pointer (some b))).run Try.prog w = .ok (.bool false) w := let ⟨_, h, hs⟩ := i109; run_eql_ptr_other w Try.underlying37 h hs hne ha hb
end Go.Proofs.Qxb6616570a
