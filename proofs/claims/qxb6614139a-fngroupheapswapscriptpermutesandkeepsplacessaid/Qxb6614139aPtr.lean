import Derived.Test.Qxb6614139aBuild
import Derived.LaidEql
namespace Go.Proofs.Qxb6614139a
open Go.RowKit

theorem run_equalIn_ptr_same (d : Nat) (w : World) (a : Addr) : (Op.equalIn (d + 1) 36 (.pointer (some a)) (.pointer (some a))).run Try.prog w = .ok true w := by
  simp [Op.equalIn, run_underlying Try.underlying36, run_sameAddr_same, Try.sizeOf54]

theorem run_eql_ptr_same (w : World) (a : Addr) : (binOp .eql 36 (.pointer (some a)) (.pointer (some a))).run Try.prog w = .ok (.bool true) w := by
  simp only [binOp]
  simp [Op.equal, Op.maxDepth, run_equalIn_ptr_same 9999 w a]

theorem run_neq_ptr_same (w : World) (a : Addr) : (binOp .neq 36 (.pointer (some a)) (.pointer (some a))).run Try.prog w = .ok (.bool false) w := by
  simp only [binOp]
  simp [Op.equal, Op.maxDepth, run_equalIn_ptr_same 9999 w a]
end Go.Proofs.Qxb6614139a
