import Derived.Test.Qxb6612204aEnv
import Derived.LaidEql
namespace Go.Proofs.Qxb6612204a
open Go.RowKit

theorem Try.info57 : (Try.prog.info? 57).map (·.size) = some 1024 := by kernel_rfl
theorem ptr_same' (d : Nat) (a : Addr) (w : World) : (Op.equalIn (d + 1) 47 (.pointer (some a)) (.pointer (some a))).run Try.prog w = .ok true w := by
  obtain ⟨j, hj, hs⟩ := Option.map_eq_some_iff.1 Try.info57
  simp [Op.equalIn, run_underlying Try.underlying47, typeInfo, sizeOf, run_sameAddr_same, hj]
theorem ptr_other' (d : Nat) {a b : Addr} {ca cb : Array Value} {ta tb : TypeId} (w : World) (hne : a ≠ b) (ha : w.heap[a.block]? = some (.cells ca ta (0, 0))) (hb : w.heap[b.block]? = some (.cells cb tb (0, 0))) :
    (Op.equalIn (d + 1) 47 (.pointer (some a)) (.pointer (some b))).run Try.prog w = .ok false w := by
  obtain ⟨j, hj, hs⟩ := Option.map_eq_some_iff.1 Try.info57
  simp [Op.equalIn, run_underlying Try.underlying47, typeInfo, sizeOf, hj, hs, run_sameAddr_other w hne ha hb]
theorem ptr_nil' (d : Nat) (a : Addr) (w : World) : (Op.equalIn (d + 1) 47 (.pointer (some a)) (.pointer none)).run Try.prog w = .ok false w := by
  simp [Op.equalIn, run_underlying Try.underlying47]
theorem ptr_same (a : Addr) (w : World) : (Op.equalIn 10000 47 (.pointer (some a)) (.pointer (some a))).run Try.prog w = .ok true w := ptr_same' 9999 a w
theorem ptr_other {a b : Addr} {ca cb : Array Value} {ta tb : TypeId} (w : World) (hne : a ≠ b) (ha : w.heap[a.block]? = some (.cells ca ta (0, 0))) (hb : w.heap[b.block]? = some (.cells cb tb (0, 0))) :
    (Op.equalIn 10000 47 (.pointer (some a)) (.pointer (some b))).run Try.prog w = .ok false w := ptr_other' 9999 w hne ha hb
theorem ptr_nil (a : Addr) (w : World) : (Op.equalIn 10000 47 (.pointer (some a)) (.pointer none)).run Try.prog w = .ok false w := ptr_nil' 9999 a w
theorem Try.eqg47 : Try.prog.eqGuardType Try.prog.depth 47 = false := by kernel_rfl
theorem eql_same (a : Addr) (w : World) : (binOp .eql 47 (.pointer (some a)) (.pointer (some a))).run Try.prog w = .ok (.bool true) w := by
  simp only [binOp]
  simp [Op.equal, Op.maxDepth, ptr_same a w]
theorem eql_other {a b : Addr} {ca cb : Array Value} {ta tb : TypeId} (w : World) (hne : a ≠ b) (ha : w.heap[a.block]? = some (.cells ca ta (0, 0))) (hb : w.heap[b.block]? = some (.cells cb tb (0, 0))) :
    (binOp .eql 47 (.pointer (some a)) (.pointer (some b))).run Try.prog w = .ok (.bool false) w := by
  simp only [binOp]
  simp [Op.equal, Op.maxDepth, ptr_other w hne ha hb]
theorem eql_nil (a : Addr) (w : World) : (binOp .eql 47 (.pointer (some a)) (.pointer none)).run Try.prog w = .ok (.bool false) w := by
  simp only [binOp]
  simp [Op.equal, Op.maxDepth, ptr_nil a w]
end Go.Proofs.Qxb6612204a
