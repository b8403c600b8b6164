/-
  The segment that copies 'made' and makes the table.
-/
import Derived.Test.Qxb6618452aSegs
namespace Go.Proofs.Qxb6618452a
open Go.ChangeShapes Go.WideShapes Go.ChangeAt Go.RowKit
set_option maxRecDepth 1000000
set_option linter.unusedVariables false

theorem info26' : (Try.prog.info? 26).map (fun i => (i.zero, i.size, i.bytes)) = some (some (.int .u64 0), 1, 8) := by kernel_rfl

set_option maxHeartbeats 1000000 in
theorem segB (hN : Goal3) : Goal2 := by
  unfold Goal2
  intro w0 w n m s hc mc sc hb xb xo yb yo hp mp sp H M Bk R L hE hHv hbel hdom
  intros
  have hN' : Hid (Goal3 ∧ Env w0 n m s hb xb xo yb yo hp mp sp H M Bk R L ∧ (∀ k, k < s → Bk k < n * 1024)) := ⟨hN, hE, hdom⟩
  have K0 : Hid (HaveOk w n hb H ∧ Below w0.heap.size w0 w) := ⟨hHv, hbel⟩
  conv => arg 2; whnf
  obtain ⟨hn, hm, hs, hnm, hhp, hmp, hsp, hM, hMb, hB, hR, hL⟩ := hE
  have HM : Hid (∀ i, i < m → w0.cell? ⟨xb, xo + i, none⟩ = some (.int .u64 (M i))) := hM
  have HHP : Hid (0 < n → hp = some ⟨hb, 0, none⟩) := hhp
  have hmk := run_make_row' (P := Try.prog) 23 26 (.int .u64 0) 8 Try.underlying23 info26' rfl .i64 .i64 m (by omega) (by omega)
  clear hHv hbel hMb hdom hN hsp hhp hM hB hR hL
  refine wp_seq_hid fun K HK => ?_
  go_wp2_with fail
  refine HK.out _ _ ?_
  clear HK K hmk
  obtain ⟨w1, hw1⟩ : ∃ w1, w1 = w.alloc (.cells (madeCells #[.int .u64 0] m) 26) := ⟨_, rfl⟩
  have K1 : Hid (HaveOk w1 n hb H ∧ Below w0.heap.size w0 w1 ∧ w1.rowIs w.heap.size 26 m (fun _ => .int .u64 0) ∧ w0.heap.size ≤ w.heap.size) := by
    rw [hw1]
    exact ⟨K0.out.1.alloc _, K0.out.2.alloc K0.out.2.size _, World.rowIs_made _ _ _ _, K0.out.2.size⟩
  rw [← hw1]
  obtain ⟨bm, hbm⟩ : ∃ bm, bm = w.heap.size := ⟨_, rfl⟩
  rw [← hbm] at K1 ⊢
  clear hw1 K0 hbm
  refine wp_seq_hid fun K HK => ?_
  go_wp2_with fail
  go_loopg [10] m (fun gk ii wr => ∃ k : Nat, k ≤ m ∧ gk = m - k ∧ ii = .int .i64 (k : Int) ∧ HaveOk wr n hb H ∧ Below w0.heap.size w0 wr ∧ wr.rowIs bm 26 m (fun j => .int .u64 (if j < k then M j else 0)))
  case atStart => exact ⟨0, by omega, rfl, rfl, K1.out.1, K1.out.2.1, K1.out.2.2.1.congr fun j _ => by simp⟩
  case round =>
    obtain ⟨k, hk, rfl, rfl, r1, r2, r3⟩ := hrel
    by_cases hlt : k < m
    · have hlt' : (k : Int) < (m : Int) := by omega
      obtain rfl := hmp (by omega)
      have hck : wr.cell? ⟨xb, xo + k, none⟩ = some (.int .u64 (M k)) := (r2.cell (by exact cell_lt (HM.out k hlt))).trans (HM.out k hlt)
      have hcx := r3.cell hlt
      have hfx := r3.frozen k
      have RR : Hid (HaveOk (wr.setCell ⟨bm, k, none⟩ (.int .u64 (M k))) n hb H ∧ Below w0.heap.size w0 (wr.setCell ⟨bm, k, none⟩ (.int .u64 (M k))) ∧ (wr.setCell ⟨bm, k, none⟩ (.int .u64 (M k))).rowIs bm 26 m (fun j => .int .u64 (if j < k + 1 then M j else 0))) := by
        refine ⟨r1.setOther r3 (fun e => absurd e (by decide)) _ _, r2.setCell K1.out.2.2.2 _, (r3.set _ _).congr fun j _ => ?_⟩
        by_cases e : j = k
        · subst e; simp
        · have : j < k + 1 ↔ j < k := by omega
          simp [e, this]
      clear r1 r2 r3
      go_wp2_with fail
      go_roundg (m - (k + 1))
      case measure => omega
      case rel => exact ⟨k + 1, by omega, rfl, by go_num, RR.out⟩
    · obtain rfl : k = m := by omega
      have RR : Hid (HaveOk wr n hb H ∧ Below w0.heap.size w0 wr ∧ wr.rowIs bm 26 k (fun j => .int .u64 (M j))) :=
        ⟨r1, r2, r3.congr fun j hj => by simp [hj]⟩
      clear r1 r2 r3
      go_wp2_with fail
      refine HK.out _ _ ?_
      clear HK
      refine wp_seq_hid fun K2 HK2 => ?_
      go_wp2_with fail
      refine (new_any wr w0.heap.size n k bm k hb hc hp H M RR.out.2.2 hn hm K1.out.2.2.2 RR.out.2.1.size HHP.out (fun i hi => RR.out.1.cell hi) (fun h => ?_)).mono ?_
      · exact cell_lt (RR.out.1.cell h)
      rintro e w2 ⟨bp, rfl, ⟨P, hT, hPH⟩, hF⟩
      have HZ : Hid (HaveOk w2 n hb H ∧ Below w0.heap.size w0 w2 ∧ Tab w2 w0.heap.size n k bp bm P (fun _ _ => (0, 0)) M ∧ (∀ i, i < n → (P i = none ↔ H i = false))) :=
        ⟨RR.out.1.fr hF, RR.out.2.1.trans hF.1, hT, hPH⟩
      clear hT hPH hF RR
      go_wp2_with fail
      refine HK2.out _ _ ?_
      obtain ⟨n1, n2, n3⟩ := hN'.out
      obtain ⟨z1, z2, z3, z4⟩ := HZ.out
      exact n1 w0 _ n k s hc mc sc hb xb xo yb yo hp mp sp H M Bk R L w2.heap.size bp bm P n2 n3 ⟨z2.alloc z2.size _, z1.alloc _, Go.Deep.blk_alloc_new _ _, z3.alloc _⟩ z4
end Go.Proofs.Qxb6618452a
