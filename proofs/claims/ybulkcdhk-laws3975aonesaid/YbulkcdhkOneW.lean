import Derived.Test.YbulkcdhkOneP
import Derived.Test.YbulkcdhkArr
import Derived.Laws.Rows
import Derived.RegionTactic
import Derived.BigRegion
namespace Go.Proofs.Ybulkcdhk
open Go.RowKit

/-- math.Float64frombits. -/
theorem f64from (n : Int) (w : World) : (callFunc 14 #[.int .u64 n]).run Yba.prog w = .ok (.value (.float .f64 n.toNat)) w := by
  rw [run_callFunc_extern Yba.func14 (by kernel_rfl) (by kernel_rfl) (by kernel_rfl) (e := Extern.MathFloatBits.float64frombits) (by kernel_rfl)]
  rfl

theorem abs_any (b : Nat) (w : World) : Calls Yba.prog 13 #[.float .f64 b] w fun e w' => e = .returned (.float .f64 (absW b)) ∧ w' = w := by
  have h1 := f64bits
  have h2 := f64from
  go_enter Yba.func13, Yba.ntmps13
  go_wp2
  go_ret
  exact ⟨rfl, rfl⟩

theorem inf_any (b : Nat) (w : World) : Calls Yba.prog 10 #[.float .f64 b, .int .i64 0] w fun e w' => e = .returned (.bool (infB b)) ∧ w' = w := by
  go_enter Yba.func10, Yba.ntmps10
  go_wp2_with (first | (go_at_call 13; refine (abs_any b w).mono ?_; rintro e w' ⟨rfl, rfl⟩) | fail)
  go_ret
  exact ⟨rfl, rfl⟩

theorem nan_any (b : Nat) (w : World) : Calls Yba.prog 11 #[.float .f64 b] w fun e w' => e = .returned (.bool (FloatKind.f64.format.order b b != some .eq)) ∧ w' = w := by
  go_enter Yba.func11, Yba.ntmps11
  go_wp2
  go_ret
  exact ⟨rfl, rfl⟩
end Go.Proofs.Ybulkcdhk
