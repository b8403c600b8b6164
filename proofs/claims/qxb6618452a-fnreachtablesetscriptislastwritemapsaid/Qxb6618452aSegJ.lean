/-
  The last segment: the table's words against the expected ones.
-/
import Derived.Test.Qxb6618452aGoals
namespace Go.Proofs.Qxb6618452a
open Go.ChangeShapes Go.WideShapes Go.ChangeAt Go.RowKit
set_option maxRecDepth 1000000
set_option linter.unusedVariables false

set_option maxHeartbeats 1000000 in
theorem segJ : Goal10 := by
  unfold Goal10
  intro w0 w n m bt bp bm be X hm hb ht h1 h2
  intros
  conv => arg 2; whnf
  have f0 : w.cell? ⟨bt, 0, none⟩ = some (.slice (some ⟨bp, 0, none⟩) n n) := heap_cell ht 0
  have f1 : w.cell? ⟨bt, 1, none⟩ = some (.slice (some ⟨bm, 0, none⟩) m m) := heap_cell ht 1
  go_wp2_with fail
  refine (words_any .nilFunc bm m m bp n n w).mono ?_
  rintro e w1 ⟨rfl, o, rfl⟩
  have g1 := h1.alloc o
  have g2 := h2.alloc o
  have hb1 : Hid (Below w0.heap.size w0 (w.alloc o) ∧ (w.alloc o).rowIs bm 26 m (fun j => .int .u64 (X j)) ∧ (w.alloc o).rowIs be 26 m (fun j => .int .u64 (X j))) := ⟨hb.alloc hb.size o, g1, g2⟩
  obtain ⟨w1, hw1⟩ : ∃ w1, w1 = w.alloc o := ⟨_, rfl⟩
  rw [← hw1] at hb1 ⊢
  clear g1 g2 h1 h2 hb f0 f1 ht hw1
  go_wp2_with fail
  go_loopg [35] m (fun gk ii wr => ∃ k q : Nat, k ≤ m ∧ gk = m - k ∧ ii = .int .i64 (k : Int) ∧ wr = w1.drewN q)
  case atStart => exact ⟨0, 0, by omega, rfl, rfl, rfl⟩
  case round =>
    obtain ⟨k, q, hk, rfl, rfl, rfl⟩ := hrel
    by_cases hlt : k < m
    · have hlt' : (k : Int) < (m : Int) := by omega
      have c1 := hb1.out.2.1.cell hlt
      have c2 := hb1.out.2.2.cell hlt
      go_wp2_with fail
      go_quiet (fail)
      go_wp2_with fail
      go_roundg (m - (k + 1))
      case measure => omega
      case rel => exact ⟨k + 1, _, by omega, rfl, by go_num, rfl⟩
    · obtain rfl : k = m := by omega
      go_wp2
      go_ret
      exact ⟨rfl, below_drewN hb1.out.1 _⟩
end Go.Proofs.Qxb6618452a
