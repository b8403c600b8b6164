/-
  The segment before the last: the expected words.
-/
import Derived.Test.Qxb6618452aSegs
import Derived.Test.Qxb6618452aMath
namespace Go.Proofs.Qxb6618452a
open Go.ChangeShapes Go.WideShapes Go.ChangeAt Go.RowKit
set_option maxRecDepth 1000000
set_option linter.unusedVariables false

set_option maxHeartbeats 1000000 in
theorem segI (hN : Goal10) : Goal9 := by
  unfold Goal9
  intro w0 w n m s hc mc sc hb xb xo yb yo hp mp sp H M Bk R L bt bp bm P bc be hE hdom hS hPH htch hex hne hbe
  intros
  conv => arg 2; whnf
  obtain ⟨hn, hm, hs, hnm, hhp, hmp, hsp, hM, hMb, hB, hR, hL⟩ := hE
  have K0 : Hid (w.rowIs be 26 m (fun j => .int .u64 (M j)) ∧ w.rowIs bc 4 n (fun i => .bool (Tch Bk s i)) ∧ St w0 w n m hb bt bp bm H P (fun i e => Ent Bk R L s (i * 1024 + e)) (Wd H M Bk s)) := ⟨hex, htch, hS⟩
  have K1 : Hid ((∀ k, k < s → Bk k < n * 1024) ∧ (∀ i, i < m → 0 ≤ M i ∧ M i < 18446744073709551616)) := ⟨hdom, hMb⟩
  clear hex htch hS hM hMb hB hR hL hdom hPH hsp hmp
  refine wp_seq_hid fun K HK => ?_
  go_wp2_with fail
  go_loopg [33] n (fun gk ii wr => ∃ k : Nat, k ≤ n ∧ gk = n - k ∧ ii = .int .i64 (k : Int) ∧ wr.rowIs be 26 m (fun j => .int .u64 (Ex H M Bk s k j)) ∧ wr.rowIs bc 4 n (fun i => .bool (Tch Bk s i)) ∧ St w0 wr n m hb bt bp bm H P (fun i e => Ent Bk R L s (i * 1024 + e)) (Wd H M Bk s))
  case atStart => exact ⟨0, by omega, rfl, rfl, K0.out⟩
  case round =>
    obtain ⟨k, hk, rfl, rfl, r1, r2, r3⟩ := hrel
    by_cases hlt : k < n
    · have hlt' : (k : Int) < (n : Int) := by omega
      obtain rfl := hhp (by omega)
      have hck := r3.have_.cell hlt
      have htk := r2.cell hlt
      cases hHk : H k with
      | true =>
        rw [hHk] at hck
        have RR : Hid (wr.rowIs be 26 m (fun j => .int .u64 (Ex H M Bk s (k + 1) j)) ∧ wr.rowIs bc 4 n (fun i => .bool (Tch Bk s i)) ∧ St w0 wr n m hb bt bp bm H P (fun i e => Ent Bk R L s (i * 1024 + e)) (Wd H M Bk s)) :=
          ⟨r1.congr fun j _ => by simp [Ex, hHk], r2, r3⟩
        clear r1 r2 r3 K0 K1 htk hN
        go_wp2_with fail
        go_roundg (n - (k + 1))
        case measure => omega
        case rel => exact ⟨k + 1, by omega, rfl, by go_num, RR.out⟩
      | false =>
        rw [hHk] at hck
        cases hTk : Tch Bk s k with
        | false =>
          rw [hTk] at htk
          have RR : Hid (wr.rowIs be 26 m (fun j => .int .u64 (Ex H M Bk s (k + 1) j)) ∧ wr.rowIs bc 4 n (fun i => .bool (Tch Bk s i)) ∧ St w0 wr n m hb bt bp bm H P (fun i e => Ent Bk R L s (i * 1024 + e)) (Wd H M Bk s)) :=
            ⟨r1.congr fun j _ => by simp [Ex, hTk], r2, r3⟩
          clear r1 r2 r3 K0 K1 hN
          go_wp2_with fail
          go_roundg (n - (k + 1))
          case measure => omega
          case rel => exact ⟨k + 1, by omega, rfl, by go_num, RR.out⟩
        | true =>
          rw [hTk] at htk
          have hj : k / 64 < m := by omega
          have hj' : (k : Int) / 64 < (m : Int) := by omega
          obtain ⟨x, hx⟩ : ∃ x, x = Ex H M Bk s k (k / 64) := ⟨_, rfl⟩
          have hcx := r1.cell hj
          rw [← hx] at hcx
          have hfx := r1.frozen (k / 64)
          have RR : Hid ((wr.setCell ⟨be, k / 64, none⟩ (.int .u64 (orb x (k % 64)))).rowIs be 26 m (fun j => .int .u64 (Ex H M Bk s (k + 1) j)) ∧ (wr.setCell ⟨be, k / 64, none⟩ (.int .u64 (orb x (k % 64)))).rowIs bc 4 n (fun i => .bool (Tch Bk s i)) ∧ St w0 (wr.setCell ⟨be, k / 64, none⟩ (.int .u64 (orb x (k % 64)))) n m hb bt bp bm H P (fun i e => Ent Bk R L s (i * 1024 + e)) (Wd H M Bk s)) := by
            refine ⟨(r1.set _ _).congr fun j _ => ?_, r2.setOther (a := ⟨be, _, none⟩) (rowIs_ne r2 r1 (by decide)) _, r3.setOther r1 (by decide) (by decide) (by decide) (fun _ => hne) (fun e => absurd e (by decide)) hbe _ _⟩
            by_cases e : j = k / 64
            · subst e; simp [Ex, hHk, hTk, hx]
            · simp [Ex, e]
          clear r1 r2 r3 K0 K1 hN hx
          go_wp2_with fail
          go_roundg (n - (k + 1))
          case measure => omega
          case rel => exact ⟨k + 1, by omega, rfl, by go_num, RR.out⟩
    · obtain rfl : k = n := by omega
      have hX : Hid (wr.rowIs be 26 m (fun j => .int .u64 (Wd H M Bk s j))) := r1.congr fun j hj => by rw [ex_eq_wd H M Bk s k m K1.out.2 K1.out.1 j hj]
      have hN' : Hid Goal10 := hN
      have H3 : Hid (St w0 wr k m hb bt bp bm H P (fun i e => Ent Bk R L s (i * 1024 + e)) (Wd H M Bk s)) := r3
      clear r1 r2 r3 K0 K1 hN
      go_wp2_with fail
      refine HK.out _ _ ?_
      exact hN'.out w0 wr k m bt bp bm be (Wd H M Bk s) hm H3.out.below H3.out.tvar H3.out.tab.words hX.out
end Go.Proofs.Qxb6618452a
