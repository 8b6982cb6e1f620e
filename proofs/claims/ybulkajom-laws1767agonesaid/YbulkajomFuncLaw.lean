import Derived.LaidEql
import Derived.Test.YbulkajomProg
/-! 'f == nil' of a function value: two small laws that the walk's own set lacks. -/
namespace Go.Proofs.Ybulkajom.FuncLaw
section
variable {P : Program} (w : World)
theorem run_equalIn_nilFunc (d : Nat) {t : TypeId} {a b : Array TypeId} {c : Bool} (h : P.underlying t = some (.func a b c)) : (Op.equalIn (d + 1) t .nilFunc .nilFunc).run P w = .ok true w := by
  simp [Op.equalIn, run_underlying h]
theorem run_equalIn_func (d : Nat) {t : TypeId} {a b : Array TypeId} {c : Bool} (h : P.underlying t = some (.func a b c)) (f : Fn) (x y : Array Value) : (Op.equalIn (d + 1) t (.func f x y) .nilFunc).run P w = .ok false w := by
  simp [Op.equalIn, run_underlying h]
theorem run_eql_nilFunc {t : TypeId} {a b : Array TypeId} {c : Bool} (h : P.underlying t = some (.func a b c)) : (binOp .eql t .nilFunc .nilFunc).run P w = .ok (.bool true) w := by
  simp only [binOp]
  simp [Op.equal, Op.maxDepth, run_equalIn_nilFunc w 9999 h]
theorem run_eql_func {t : TypeId} {a b : Array TypeId} {c : Bool} (h : P.underlying t = some (.func a b c)) (f : Fn) (x y : Array Value) : (binOp .eql t (.func f x y) .nilFunc).run P w = .ok (.bool false) w := by
  simp only [binOp]
  simp [Op.equal, Op.maxDepth, run_equalIn_func w 9999 h f x y]
end
theorem nil31 (w : World) : (binOp .eql 31 .nilFunc .nilFunc).run Yba.prog w = .ok (.bool true) w := run_eql_nilFunc w Yba.underlying31
theorem func31 (w : World) (f : Fn) (x y : Array Value) : (binOp .eql 31 (.func f x y) .nilFunc).run Yba.prog w = .ok (.bool false) w := run_eql_func w Yba.underlying31 f x y
end Go.Proofs.Ybulkajom.FuncLaw
