import Derived.Tactics
namespace Go.Proofs.Qxb6616109a
/-- The first k statements of a body, and C behind them. -/
def cutAt : Nat → Code → Code → Code
  | 0, _, C => C
  | k + 1, .seq a b, C => .seq a (cutAt k b C)
  | _ + 1, c, _ => c
/-- What lies behind the first k statements. -/
def dropAt : Nat → Code → Code
  | 0, c => c
  | k + 1, .seq _ b => dropAt k b
  | _ + 1, c => c
end Go.Proofs.Qxb6616109a
