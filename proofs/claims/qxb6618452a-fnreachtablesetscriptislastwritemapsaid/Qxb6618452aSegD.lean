/-
  The segment that marks the pieces which the script touches.
-/
import Derived.Test.Qxb6618452aSegs
namespace Go.Proofs.Qxb6618452a
open Go.ChangeShapes Go.WideShapes Go.ChangeAt Go.RowKit
set_option maxRecDepth 1000000
set_option linter.unusedVariables false

theorem info4 : (Try.prog.info? 4).map (fun i => (i.zero, i.size, i.bytes)) = some (some (.bool false), 1, 1) := by kernel_rfl

set_option maxHeartbeats 1000000 in
theorem segD (hN : Goal5) : Goal4 := by
  unfold Goal4
  intro w0 w n m s hc mc sc hb xb xo yb yo hp mp sp H M Bk R L bt bp bm P hE hdom hS hPH
  intros
  have hN' : Hid (Goal5 ∧ Env w0 n m s hb xb xo yb yo hp mp sp H M Bk R L ∧ (∀ k, k < s → Bk k < n * 1024) ∧ (∀ i, i < n → (P i = none ↔ (H i || Tch Bk s i) = false))) := ⟨hN, hE, hdom, hPH⟩
  have K0 : Hid (St w0 w n m hb bt bp bm H P (fun i e => Ent Bk R L s (i * 1024 + e)) (Wd H M Bk s)) := hS
  conv => arg 2; whnf
  obtain ⟨hn, hm, hs, hnm, hhp, hmp, hsp, hM, hMb, hB, hR, hL⟩ := hE
  have HB : Hid (∀ i, i < s → w0.cell? ⟨yb, yo + i * 3, none⟩ = some (.int .u64 (Bk i : Int))) := hB
  have hmk := run_make_row' (P := Try.prog) 22 4 (.bool false) 1 Try.underlying22 info4 rfl .i64 .i64 n (by omega) (by omega)
  clear hS hMb hdom hPH hN hmp hhp hM hB hR hL
  refine wp_seq_hid fun K HK => ?_
  go_wp2_with fail
  refine HK.out _ _ ?_
  clear HK K hmk
  obtain ⟨w1, hw1⟩ : ∃ w1, w1 = w.alloc (.cells (madeCells #[.bool false] n) 4) := ⟨_, rfl⟩
  have K1 : Hid (St w0 w1 n m hb bt bp bm H P (fun i e => Ent Bk R L s (i * 1024 + e)) (Wd H M Bk s) ∧ w1.rowIs w.heap.size 4 n (fun _ => .bool false) ∧ w0.heap.size ≤ w.heap.size ∧ (0 < n → w.heap.size ≠ hb)) := by
    rw [hw1]
    refine ⟨K0.out.alloc _, World.rowIs_made _ _ _ _, K0.out.below.size, fun h => ?_⟩
    rcases K0.out.have_ with e | e
    · omega
    · exact Nat.ne_of_gt e.lt
  rw [← hw1]
  obtain ⟨bc, hbc⟩ : ∃ bc, bc = w.heap.size := ⟨_, rfl⟩
  rw [← hbc] at K1 ⊢
  clear hw1 K0 hbc
  refine wp_seq_hid fun K HK => ?_
  go_wp2_with fail
  go_loopg [14] s (fun gk kk wr => ∃ (k : Nat), k ≤ s ∧ gk = s - k ∧ kk = .int .i64 (k : Int) ∧ St w0 wr n m hb bt bp bm H P (fun i e => Ent Bk R L s (i * 1024 + e)) (Wd H M Bk s) ∧ wr.rowIs bc 4 n (fun i => .bool (Tch Bk k i)))
  case atStart => exact ⟨0, by omega, rfl, rfl, K1.out.1, K1.out.2.1⟩
  case round =>
    obtain ⟨k, hks, rfl, rfl, hst, hrow⟩ := hrel
    by_cases hlt : k < s
    · have hlt' : (k : Int) < (s : Int) := by omega
      obtain rfl := hsp (by omega)
      have hd := hN'.out.2.2.1 k hlt
      have hp1 : Bk k / 1024 < n := by omega
      have hp2 : (Bk k : Int) / 1024 < (n : Int) := by omega
      have hb4 : (Bk k : Int) < 4194304 := by omega
      have hcb : wr.cell? ⟨yb, yo + k * 3, none⟩ = some (.int .u64 (Bk k : Int)) := (hst.below.cell (by exact cell_lt (HB.out k hlt))).trans (HB.out k hlt)
      have hct := hrow.cell hp1
      have hft := hrow.frozen (Bk k / 1024)
      obtain ⟨v0, hv0⟩ : ∃ v0, v0 = Tch Bk k (Bk k / 1024) := ⟨_, rfl⟩
      rw [← hv0] at hct
      have HR : Hid (St w0 (wr.setCell ⟨bc, Bk k / 1024, none⟩ (.bool true)) n m hb bt bp bm H P (fun i e => Ent Bk R L s (i * 1024 + e)) (Wd H M Bk s) ∧ (wr.setCell ⟨bc, Bk k / 1024, none⟩ (.bool true)).rowIs bc 4 n (fun i => .bool (Tch Bk (k + 1) i))) := by
        refine ⟨hst.setOther hrow (by decide) (by decide) (by decide) (fun e => absurd e (by decide)) (fun _ => K1.out.2.2.2 (by omega)) K1.out.2.2.1 _ _, (hrow.set _ _).congr fun i _ => ?_⟩
        by_cases e : i = Bk k / 1024
        · simp [e, Tch]
        · have e' : ¬ Bk k / 1024 = i := fun h => e h.symm
          simp [e, e', Tch]
      clear hst hrow hd hv0
      go_wp2_with fail
      go_roundg (s - (k + 1))
      case measure => omega
      case rel => exact ⟨k + 1, by omega, rfl, by go_num, HR.out⟩
    · obtain rfl : k = s := by omega
      have HZ : Hid (St w0 wr n m hb bt bp bm H P (fun i e => Ent Bk R L k (i * 1024 + e)) (Wd H M Bk k) ∧ wr.rowIs bc 4 n (fun i => .bool (Tch Bk k i))) := ⟨hst, hrow⟩
      clear hst hrow
      go_wp2_with fail
      refine HK.out _ _ ?_
      obtain ⟨n1, n2, n3, n4⟩ := hN'.out
      exact n1 w0 wr n m k hc mc sc hb xb xo yb yo hp mp sp H M Bk R L bt bp bm P bc n2 n3 HZ.out.1 n4 HZ.out.2 K1.out.2.2.1
end Go.Proofs.Qxb6618452a
