import Derived.Test.YbulkdbdsProg
import Derived.WalkKit
import Derived.LaidEql
import Derived.KernelRfl
namespace Go.Proofs.Ybulkdbds
open Go
theorem assert42 (a : Option Addr) (w : World) : (Instr.typeAssert (.iface 45 (.pointer a)) 42 45 true).run Yba.prog w = .ok (.tuple #[.pointer a, .bool true]) w := by kernel_rfl
theorem assert35 (a : Option Addr) (w : World) : (Instr.typeAssert (.iface 45 (.pointer a)) 35 45 true).run Yba.prog w = .ok (.tuple #[.pointer a, .bool true]) w := by kernel_rfl
theorem some48 : (Yba.prog.info? 48).isSome = true := by kernel_rfl
theorem some40 : (Yba.prog.info? 40).isSome = true := by kernel_rfl
theorem eqIn45 (d : Nat) (a : Addr) (w : World) : (Op.equalIn (d + 1) 45 (.pointer (some a)) (.pointer (some a))).run Yba.prog w = .ok true w := by
  obtain ⟨j, hj⟩ := Option.isSome_iff_exists.1 some48
  simp [Op.equalIn, run_underlying Yba.underlying45, sizeOf, typeInfo, hj, run_sameAddr_same]
theorem eqIn29 (d : Nat) (a : Addr) (w : World) : (Op.equalIn (d + 1) 29 (.pointer (some a)) (.pointer (some a))).run Yba.prog w = .ok true w := by
  obtain ⟨j, hj⟩ := Option.isSome_iff_exists.1 some40
  simp [Op.equalIn, run_underlying Yba.underlying29, sizeOf, typeInfo, hj, run_sameAddr_same]
theorem eqIn1 (d : Nat) (f : Fn) (a b : Array Value) (w : World) : (Op.equalIn (d + 1) 1 (.func f a b) .nilFunc).run Yba.prog w = .ok false w := by
  simp [Op.equalIn, run_underlying Yba.underlying1]
theorem neq45 (a : Addr) (w : World) : (binOp .neq 45 (.pointer (some a)) (.pointer (some a))).run Yba.prog w = .ok (.bool false) w := by
  simp only [binOp]
  simp [Op.equal, Op.maxDepth, eqIn45 9999 a w]
theorem neq29 (a : Addr) (w : World) : (binOp .neq 29 (.pointer (some a)) (.pointer (some a))).run Yba.prog w = .ok (.bool false) w := by
  simp only [binOp]
  simp [Op.equal, Op.maxDepth, eqIn29 9999 a w]
theorem eql1 (f : Fn) (a b : Array Value) (w : World) : (binOp .eql 1 (.func f a b) .nilFunc).run Yba.prog w = .ok (.bool false) w := by
  simp only [binOp]
  simp [Op.equal, Op.maxDepth, eqIn1 9999 f a b w]
end Go.Proofs.Ybulkdbds
