/-
  The segment that makes the expected words: a copy of 'made'.
-/
import Derived.Test.Qxb6618452aSegs
namespace Go.Proofs.Qxb6618452a
open Go.ChangeShapes Go.WideShapes Go.ChangeAt Go.RowKit
set_option maxRecDepth 1000000
set_option linter.unusedVariables false

theorem info26 : (Try.prog.info? 26).map (fun i => (i.zero, i.size, i.bytes)) = some (some (.int .u64 0), 1, 8) := by kernel_rfl

set_option maxHeartbeats 1000000 in
theorem segH (hN : Goal9) : Goal8 := by
  unfold Goal8
  intro w0 w n m s hc mc sc hb xb xo yb yo hp mp sp H M Bk R L bt bp bm P bc bi c hE hdom hS hPH htch
  intros
  have hN' : Hid (Goal9 ∧ Env w0 n m s hb xb xo yb yo hp mp sp H M Bk R L ∧ (∀ k, k < s → Bk k < n * 1024) ∧ (∀ i, i < n → (P i = none ↔ (H i || Tch Bk s i) = false))) := ⟨hN, hE, hdom, hPH⟩
  conv => arg 2; whnf
  obtain ⟨hn, hm, hs, hnm, hhp, hmp, hsp, hM, hMb, hB, hR, hL⟩ := hE
  have hmk := run_make_row' (P := Try.prog) 23 26 (.int .u64 0) 8 Try.underlying23 info26 rfl .i64 .i64 m (by omega) (by omega)
  have K0 : Hid (w.rowIs bc 4 n (fun i => .bool (Tch Bk s i)) ∧ St w0 w n m hb bt bp bm H P (fun i e => Ent Bk R L s (i * 1024 + e)) (Wd H M Bk s)) := ⟨htch, hS⟩
  have hc0 : ((c : Int) != (c : Int)) = false := by simp
  clear htch hS hMb hB hR hL hdom hPH hsp hN hhp
  refine wp_seq_hid fun K HK => ?_
  go_wp2_with fail
  refine HK.out _ _ ?_
  clear HK K
  refine wp_seq_hid fun K HK => ?_
  go_wp2_with fail
  refine HK.out _ _ ?_
  clear HK K hmk
  obtain ⟨w1, hw1⟩ : ∃ w1, w1 = w.alloc (.cells (madeCells #[.int .u64 0] m) 26) := ⟨_, rfl⟩
  have K1 : Hid (w1.rowIs w.heap.size 26 m (fun _ => .int .u64 0) ∧ w1.rowIs bc 4 n (fun i => .bool (Tch Bk s i)) ∧ St w0 w1 n m hb bt bp bm H P (fun i e => Ent Bk R L s (i * 1024 + e)) (Wd H M Bk s) ∧ w.heap.size ≠ bm ∧ w0.heap.size ≤ w.heap.size) := by
    rw [hw1]
    exact ⟨World.rowIs_made _ _ _ _, K0.out.1.alloc _, K0.out.2.alloc _, Nat.ne_of_gt K0.out.2.tab.words.lt, K0.out.2.below.size⟩
  rw [← hw1]
  obtain ⟨be, hbe⟩ : ∃ be, be = w.heap.size := ⟨_, rfl⟩
  rw [← hbe] at K1 ⊢
  clear hw1 K0 hbe hc0
  refine wp_seq_hid fun K HK => ?_
  go_wp2_with fail
  go_loopg [32] m (fun gk ii wr => ∃ k : Nat, k ≤ m ∧ gk = m - k ∧ ii = .int .i64 (k : Int) ∧ wr.rowIs be 26 m (fun j => .int .u64 (if j < k then M j else 0)) ∧ wr.rowIs bc 4 n (fun i => .bool (Tch Bk s i)) ∧ St w0 wr n m hb bt bp bm H P (fun i e => Ent Bk R L s (i * 1024 + e)) (Wd H M Bk s))
  case atStart => exact ⟨0, by omega, rfl, rfl, K1.out.1.congr fun j _ => by simp, K1.out.2.1, K1.out.2.2.1⟩
  case round =>
    obtain ⟨k, hk, rfl, rfl, r1, r2, r3⟩ := hrel
    by_cases hlt : k < m
    · have hlt' : (k : Int) < (m : Int) := by omega
      obtain rfl := hmp (by omega)
      have hck : wr.cell? ⟨xb, xo + k, none⟩ = some (.int .u64 (M k)) := (r3.below.cell (by exact cell_lt (hM k hlt))).trans (hM k hlt)
      have hcx := r1.cell hlt
      have hfx := r1.frozen k
      have RR : Hid ((wr.setCell ⟨be, k, none⟩ (.int .u64 (M k))).rowIs be 26 m (fun j => .int .u64 (if j < k + 1 then M j else 0)) ∧ (wr.setCell ⟨be, k, none⟩ (.int .u64 (M k))).rowIs bc 4 n (fun i => .bool (Tch Bk s i)) ∧ St w0 (wr.setCell ⟨be, k, none⟩ (.int .u64 (M k))) n m hb bt bp bm H P (fun i e => Ent Bk R L s (i * 1024 + e)) (Wd H M Bk s)) := by
        refine ⟨(r1.set _ _).congr fun j _ => ?_, r2.setOther (a := ⟨be, _, none⟩) (rowIs_ne r2 r1 (by decide)) _, r3.setOther r1 (by decide) (by decide) (by decide) (fun _ => K1.out.2.2.2.1) (fun e => absurd e (by decide)) K1.out.2.2.2.2 _ _⟩
        by_cases e : j = k
        · subst e; simp
        · have : j < k + 1 ↔ j < k := by omega
          simp [e, this]
      clear r1 r2 r3 hM
      go_wp2_with fail
      go_roundg (m - (k + 1))
      case measure => omega
      case rel => exact ⟨k + 1, by omega, rfl, by go_num, RR.out⟩
    · obtain rfl : k = m := by omega
      have RR : Hid (wr.rowIs be 26 k (fun j => .int .u64 (M j)) ∧ wr.rowIs bc 4 n (fun i => .bool (Tch Bk s i)) ∧ St w0 wr n k hb bt bp bm H P (fun i e => Ent Bk R L s (i * 1024 + e)) (Wd H M Bk s)) :=
        ⟨r1.congr fun j hj => by simp [hj], r2, r3⟩
      clear r1 r2 r3 hM
      go_wp2_with fail
      refine HK.out _ _ ?_
      obtain ⟨n1, n2, n3, n4⟩ := hN'.out
      exact n1 w0 wr n k s hc mc sc hb xb xo yb yo hp mp sp H M Bk R L bt bp bm P bc be n2 n3 RR.out.2.2 n4 RR.out.2.1 RR.out.1 K1.out.2.2.2.1 K1.out.2.2.2.2
end Go.Proofs.Qxb6618452a
