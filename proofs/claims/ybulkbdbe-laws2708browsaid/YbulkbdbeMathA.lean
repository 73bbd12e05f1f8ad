import Derived.Test.YbulkbdbeRows
import Derived.WalkKit
import Derived.WalkSpells
import Derived.WalkLawsBesides
namespace Go.Proofs.Ybulkbdbe
open Go.RowKit

theorem run_frombits (b : Int) (w : World) : (callFunc 27 #[.int .u64 b]).run Yba.prog w = .ok (.value (.float .f64 b.toNat)) w := by
  rw [run_callFunc_extern (P := Yba.prog) Yba.func27 (by kernel_rfl) (by kernel_rfl) (by kernel_rfl) (e := Extern.MathFloatBits.float64frombits) (by kernel_rfl)]
  rfl

theorem run_bits (b : Nat) (w : World) : (callFunc 37 #[.float .f64 b]).run Yba.prog w = .ok (.value (.int .u64 b)) w := by
  rw [run_callFunc_extern (P := Yba.prog) Yba.func37 (by kernel_rfl) (by kernel_rfl) (by kernel_rfl) (e := Extern.MathFloatBits.float64bits) (by kernel_rfl)]
  rfl

theorem run_neg (b : Nat) (w : World) : (Op.unary .neg (.float .f64 b)).run Yba.prog w = .ok (.float .f64 (Op.negFloat .f64 b)) w := rfl

/-- IsInf(x, -1): -x > MaxFloat64 -/
def negInfB (x : Nat) : Bool := FloatKind.f64.format.order (Op.negFloat .f64 x) 9218868437227405311 == some .gt

set_option maxHeartbeats 400000 in
theorem isinf_neg (x : Nat) (w : World) :
    Calls Yba.prog 12 #[.float .f64 x, .int .i64 (-1)] w fun e w' => e = .returned (.bool (negInfB x)) ∧ w' = w := by
  have hn := run_neg
  go_enter Yba.func12, Yba.ntmps12
  go_wp2
  go_ret
  exact ⟨rfl, rfl⟩

end Go.Proofs.Ybulkbdbe
