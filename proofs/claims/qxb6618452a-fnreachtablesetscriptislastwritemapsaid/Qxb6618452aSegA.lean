/-
  The segment that asks whether every block of the script lies in the table.
-/
import Derived.Test.Qxb6618452aSegs
namespace Go.Proofs.Qxb6618452a
open Go.ChangeShapes Go.WideShapes Go.ChangeAt Go.RowKit
set_option maxRecDepth 1000000
set_option linter.unusedVariables false

set_option maxHeartbeats 1000000 in
theorem segA (hN : Goal2) : Goal1 := by
  unfold Goal1
  intro w0 w n m s hc mc sc hb xb xo yb yo hp mp sp H M Bk R L hE hHv hbel
  intros
  have hN' : Hid (Goal2 ∧ Env w0 n m s hb xb xo yb yo hp mp sp H M Bk R L ∧ HaveOk w n hb H ∧ Below w0.heap.size w0 w) := ⟨hN, hE, hHv, hbel⟩
  conv => arg 2; whnf
  obtain ⟨hn, hm, hs, hnm, hhp, hmp, hsp, hM, hMb, hB, hR, hL⟩ := hE
  have HB : Hid (∀ i, i < s → w.cell? ⟨yb, yo + i * 3, none⟩ = some (.int .u64 (Bk i : Int))) := fun i hi => (hbel.cell (by exact cell_lt (hB i hi))).trans (hB i hi)
  clear hHv hbel hMb hN hmp hhp hM hB hR hL
  refine wp_seq_hid fun K HK => ?_
  go_wp2_with fail
  go_loopg [8] s (fun gk kk wr => ∃ k : Nat, k ≤ s ∧ gk = s - k ∧ kk = .int .i64 (k : Int) ∧ wr = w ∧ (∀ j, j < k → Bk j < n * 1024))
  case atStart => exact ⟨0, by omega, rfl, rfl, rfl, fun j hj => by omega⟩
  case round =>
    obtain ⟨k, hk, rfl, rfl, rfl, hall⟩ := hrel
    by_cases hlt : k < s
    · have hlt' : (k : Int) < (s : Int) := by omega
      obtain rfl := hsp (by omega)
      have hcb := HB.out k hlt
      by_cases hd : Bk k < n * 1024
      · have hd' : (Bk k : Int) < (n : Int) * 1024 := by omega
        have RR : Hid (∀ j, j < k + 1 → Bk j < n * 1024) := fun j hj => by
          by_cases e : j = k
          · subst e; exact hd
          · exact hall j (by omega)
        clear hall hd
        go_wp2_with fail
        go_roundg (s - (k + 1))
        case measure => omega
        case rel => exact ⟨k + 1, by omega, rfl, by go_num, rfl, RR.out⟩
      · have hd' : (n : Int) * 1024 ≤ (Bk k : Int) := by omega
        clear hall hd
        go_wp2_with fail
        go_ret
        exact ⟨rfl, hN'.out.2.2.2⟩
    · obtain rfl : k = s := by omega
      have RR : Hid (∀ j, j < k → Bk j < n * 1024) := hall
      clear hall
      go_wp2_with fail
      refine HK.out _ _ ?_
      obtain ⟨n1, n2, n3, n4⟩ := hN'.out
      exact n1 w0 wr n m k hc mc sc hb xb xo yb yo hp mp sp H M Bk R L n2 n3 n4 RR.out
end Go.Proofs.Qxb6618452a
