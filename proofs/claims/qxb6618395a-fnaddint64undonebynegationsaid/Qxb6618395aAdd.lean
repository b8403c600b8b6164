/-
  What both laws of this seat share: the contracts of addInt64 and of ZZaddInt64, and the plain arithmetic of 64-bit wrap.
-/
import Derived.Test.Qxb6618395aRows
import Derived.WalkKit
import Derived.ProofKit
import Derived.OpenShut
import Derived.ShutString
namespace Go.Proofs.Qxb6618395a
open Go.ChangeShapes Go.WideShapes Go.ChangeAt Go.RowKit

/-- The second result of addInt64(a, b). -/
def okB (a b : Int) : Bool := (decide (a < wrap64 (a + b)) == decide (0 < b))

theorem add_any (a b : Int) (w : World) :
    Calls Try.prog 7 #[.int .i64 a, .int .i64 b] w fun e w' => e = .returned (.tuple #[.int .i64 (wrap64 (a + b)), .bool (okB a b)]) ∧ w' = w := by
  go_enter Try.func7, Try.ntmps7
  go_wp2
  go_ret2
  exact ⟨rfl, rfl⟩
theorem zz_any (a b : Int) (w : World) :
    Calls Try.prog 5 #[.int .i64 a, .int .i64 b] w fun e w' => e = .returned (.tuple #[.int .i64 (wrap64 (a + b)), .bool (okB a b)]) ∧ w' = w := by
  go_enter Try.func5, Try.ntmps5
  go_wp2_with (go_at_call 7; refine (add_any _ _ _).mono ?_; rintro e w' ⟨rfl, rfl⟩)
  go_ret2
  exact ⟨rfl, rfl⟩

/-! ### The plain law -/
theorem bd {a : Int} (h : (Lit.int .i64 a).wf = true) : -9223372036854775808 ≤ a ∧ a ≤ 9223372036854775807 := by
  have := bounds_i64 h
  omega
theorem wb (x : Int) : -9223372036854775808 ≤ wrap64 x ∧ wrap64 x ≤ 9223372036854775807 := by unfold wrap64; omega
/-- 'ok' says that the true sum fits. -/
theorem okB_eq {a b : Int} (A : -9223372036854775808 ≤ a ∧ a ≤ 9223372036854775807) (B : -9223372036854775808 ≤ b ∧ b ≤ 9223372036854775807) :
    okB a b = decide (-9223372036854775808 ≤ a + b ∧ a + b ≤ 9223372036854775807) := by
  unfold okB wrap64
  rw [Bool.eq_iff_iff]
  simp only [beq_iff_eq, decide_eq_decide, decide_eq_true_eq]
  omega
end Go.Proofs.Qxb6618395a
