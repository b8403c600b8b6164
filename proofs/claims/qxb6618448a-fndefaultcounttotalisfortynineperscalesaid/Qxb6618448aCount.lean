/-
  What both laws of this seat share: defaultCount as a plain function, its contract, and the plain sums.
-/
import Derived.Test.Qxb6618448aRows
import Derived.WalkKit
import Derived.ProofKit
import Derived.OpenShut
import Derived.ShutString
import Derived.Deep.LoopGhost
namespace Go.Proofs.Qxb6618448a
open Go.ChangeShapes Go.WideShapes Go.ChangeAt Go.RowKit

/-- The defaults of the function at place r of its block of 29. -/
def dm (r : Int) : Int := if r = 0 then 7 else if r ≤ 14 then 2 else 1
/-- defaultCount(i, scale). -/
def dc (i s : Int) : Int := if i < 3000 then 0 else if 3000 + 29 * s ≤ i then 0 else dm ((i - 3000) % 29)
/-- The defaults of the first u functions of a block. -/
def Sm (u : Int) : Int := if u = 0 then 0 else if u ≤ 15 then 5 + 2 * u else 20 + u

theorem count_any (i s c : Int) (w : World) (h1 : -1000000 ≤ i) (h2 : i ≤ 4000000000) (h3 : -2048 ≤ s) (h4 : s ≤ 67108864) (hc : dc i s = c) :
    Calls Try.prog 6 #[.int .i64 i, .int .i64 s] w fun e w' => e = .returned (.int .i64 c) ∧ w' = w := by
  by_cases a : i < 3000
  · obtain rfl : c = 0 := by rw [← hc]; simp [dc, a]
    clear hc
    go_enter Try.func6, Try.ntmps6
    go_wp2
    go_ret
    exact ⟨rfl, rfl⟩
  by_cases b : 3000 + 29 * s ≤ i
  · obtain rfl : c = 0 := by rw [← hc]; simp [dc, a, b]
    have a' : 3000 ≤ i := by omega
    clear hc a
    go_enter Try.func6, Try.ntmps6
    go_wp2
    go_ret
    exact ⟨rfl, rfl⟩
  have hd : dm ((i - 3000) % 29) = c := by rw [← hc]; simp [dc, a, b]
  have a' : 3000 ≤ i := by omega
  have b' : i < 3000 + 29 * s := by omega
  clear hc a b
  by_cases r0 : (i - 3000) % 29 = 0
  · obtain rfl : c = 7 := by rw [← hd]; simp [dm, r0]
    clear hd
    go_enter Try.func6, Try.ntmps6
    go_wp2
    go_ret
    exact ⟨rfl, rfl⟩
  by_cases r1 : (i - 3000) % 29 ≤ 14
  · obtain rfl : c = 2 := by rw [← hd]; simp [dm, r0, r1]
    have r0' : ((i - 3000) % 29 == 0) = false := by simpa using r0
    clear hd r0
    go_enter Try.func6, Try.ntmps6
    go_wp2
    go_ret
    exact ⟨rfl, rfl⟩
  · obtain rfl : c = 1 := by rw [← hd]; simp [dm, r0, r1]
    have r0' : ((i - 3000) % 29 == 0) = false := by simpa using r0
    clear hd r0
    go_enter Try.func6, Try.ntmps6
    go_wp2
    go_ret
    exact ⟨rfl, rfl⟩
theorem zz_any (i s c : Int) (w : World) (h1 : -1000000 ≤ i) (h2 : i ≤ 4000000000) (h3 : -2048 ≤ s) (h4 : s ≤ 67108864) (hc : dc i s = c) :
    Calls Try.prog 5 #[.int .i64 i, .int .i64 s] w fun e w' => e = .returned (.int .i64 c) ∧ w' = w := by
  go_enter Try.func5, Try.ntmps5
  go_wp2_with fail
  refine (count_any i s c w h1 h2 h3 h4 hc).mono ?_
  rintro e w' ⟨rfl, rfl⟩
  clear hc
  go_wp2
  go_ret
  exact ⟨rfl, rfl⟩
end Go.Proofs.Qxb6618448a
