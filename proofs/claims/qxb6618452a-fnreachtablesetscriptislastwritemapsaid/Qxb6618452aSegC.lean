/-
  The segment that runs the script.
-/
import Derived.Test.Qxb6618452aSegs
import Derived.Deep.RegionHeld3
namespace Go.Proofs.Qxb6618452a
open Go.ChangeShapes Go.WideShapes Go.ChangeAt Go.RowKit
set_option maxRecDepth 1000000
set_option linter.unusedVariables false

/-- What one call of set does to the state. -/
theorem St.step {w0 w w' : World} {n m hb bt bp bm : Nat} {H : Nat → Bool} {M : Nat → Int} {Bk : Nat → Nat} {R L : Nat → Int} {P P' : Nat → Option Nat} {k : Nat}
    (h : St w0 w n m hb bt bp bm H P (fun i e => Ent Bk R L k (i * 1024 + e)) (Wd H M Bk k)) (hP : ∀ i, i < n → (P i = none ↔ (H i || Tch Bk k i) = false)) (hbk : Bk k < n * 1024)
    (hT : Tab w' w0.heap.size n m bp bm P' (setE (fun i e => Ent Bk R L k (i * 1024 + e)) (Bk k) (R k) (L k)) (setW P (Wd H M Bk k) (Bk k))) (hP' : ∀ i, P' i = none ↔ (P i = none ∧ i ≠ Bk k / 1024)) (hF : Fr w0.heap.size w w') :
    St w0 w' n m hb bt bp bm H P' (fun i e => Ent Bk R L (k + 1) (i * 1024 + e)) (Wd H M Bk (k + 1)) ∧ ∀ i, i < n → (P' i = none ↔ (H i || Tch Bk (k + 1) i) = false) := by
  refine ⟨⟨h.below.trans hF.1, h.have_.fr hF, hF.2 _ _ _ _ (by decide) (by decide) (by decide) h.tvar, hT.congr (fun i e hi he => ?_) (fun j hj => ?_)⟩, fun i hi => ?_⟩
  · simp only [setE, Ent]
    by_cases e1 : i = Bk k / 1024 ∧ e = Bk k % 1024
    · rw [if_pos e1, if_pos (by omega)]
    · rw [if_neg e1, if_neg (by omega)]
  · simp only [setW, Wd]
    have := hP (Bk k / 1024) (by omega)
    by_cases e1 : P (Bk k / 1024) = none
    · have e2 := this.1 e1
      simp [e1, e2]
    · have e2 : ¬ (H (Bk k / 1024) || Tch Bk k (Bk k / 1024)) = false := fun h => e1 (this.2 h)
      rw [if_neg (fun h => e1 h.1), if_neg (fun h => e2 h.1)]
  · rw [hP' i, hP i hi, Tch]
    by_cases e : i = Bk k / 1024
    · have e' : Bk k / 1024 = i := e.symm
      simp [e]
    · have e' : ¬ Bk k / 1024 = i := fun h => e h.symm
      simp [e, e']

set_option maxHeartbeats 2000000 in
theorem segC (hN : Goal4) : Goal3 := by
  unfold Goal3
  intro w0 w n m s hc mc sc hb xb xo yb yo hp mp sp H M Bk R L bt bp bm P hE hdom hS hPH
  intros
  have hN' : Hid (Goal4 ∧ Env w0 n m s hb xb xo yb yo hp mp sp H M Bk R L ∧ (∀ k, k < s → Bk k < n * 1024)) := ⟨hN, hE, hdom⟩
  have K0 : Hid (St w0 w n m hb bt bp bm H P (fun _ _ => (0, 0)) M ∧ (∀ i, i < n → (P i = none ↔ H i = false))) := ⟨hS, hPH⟩
  conv => arg 2; whnf
  obtain ⟨hn, hm, hs, hnm, hhp, hmp, hsp, hM, hMb, hB, hR, hL⟩ := hE
  have HB : Hid ((∀ i, i < s → w0.cell? ⟨yb, yo + i * 3, none⟩ = some (.int .u64 (Bk i : Int))) ∧ (∀ i, i < s → w0.cell? ⟨yb, yo + i * 3 + 1, none⟩ = some (.int .u32 (R i))) ∧ (∀ i, i < s → w0.cell? ⟨yb, yo + i * 3 + 2, none⟩ = some (.int .i8 (L i)))) := ⟨hB, hR, hL⟩
  clear hS hMb hdom hPH hN hmp hhp hM hB hR hL
  refine wp_seq_hid fun K HK => ?_
  go_wp2_with fail
  go_loopg [12] s (fun gk kk wr => ∃ (k : Nat) (P : Nat → Option Nat), k ≤ s ∧ gk = s - k ∧ kk = .int .i64 (k : Int) ∧ St w0 wr n m hb bt bp bm H P (fun i e => Ent Bk R L k (i * 1024 + e)) (Wd H M Bk k) ∧ (∀ i, i < n → (P i = none ↔ (H i || Tch Bk k i) = false)))
  case atStart => exact ⟨0, P, by omega, rfl, rfl, K0.out.1, fun i hi => by rw [K0.out.2 i hi]; simp [Tch]⟩
  case round =>
    obtain ⟨k, P, hks, rfl, rfl, hst, hPk⟩ := hrel
    by_cases hlt : k < s
    · have hlt' : (k : Int) < (s : Int) := by omega
      have hk0 : (0 : Int) ≤ (k : Int) := by omega
      obtain rfl := hsp (by omega)
      have hd : Bk k < n * 1024 := hN'.out.2.2 k hlt
      have c1 : wr.cell? ⟨yb, yo + k * 3, none⟩ = some (.int .u64 (Bk k : Int)) := (hst.below.cell (by exact cell_lt (HB.out.1 k hlt))).trans (HB.out.1 k hlt)
      have c2 : wr.cell? ⟨yb, yo + k * 3 + 1, none⟩ = some (.int .u32 (R k)) := (hst.below.cell (by exact cell_lt (HB.out.2.1 k hlt))).trans (HB.out.2.1 k hlt)
      have c3 : wr.cell? ⟨yb, yo + k * 3 + 2, none⟩ = some (.int .i8 (L k)) := (hst.below.cell (by exact cell_lt (HB.out.2.2 k hlt))).trans (HB.out.2.2 k hlt)
      have t0 := hst.t0
      have t1 := hst.t1
      have HZ : Hid (St w0 wr n m hb bt bp bm H P (fun i e => Ent Bk R L k (i * 1024 + e)) (Wd H M Bk k) ∧ (∀ i, i < n → (P i = none ↔ (H i || Tch Bk k i) = false)) ∧ Bk k < n * 1024) := ⟨hst, hPk, hd⟩
      have HS : Hid (∀ w2, Fr w0.heap.size (wr.drewN 1) w2 → w2.cell? ⟨yb, yo + k * 3, none⟩ = some (.int .u64 (Bk k : Int)) ∧ w2.cell? ⟨yb, yo + k * 3 + 1, none⟩ = some (.int .u32 (R k)) ∧ w2.cell? ⟨yb, yo + k * 3 + 2, none⟩ = some (.int .i8 (L k)) ∧ w2.cell? ⟨bt, 0, none⟩ = some (.slice (some ⟨bp, 0, none⟩) n n) ∧ w2.cell? ⟨bt, 1, none⟩ = some (.slice (some ⟨bm, 0, none⟩) m m)) := by
        intro w2 hF
        have hv := hF.2 _ _ _ _ (by decide) (by decide) (by decide) (show (wr.drewN 1).heap[bt]? = _ from hst.tvar)
        have hlt0 := cell_lt (HB.out.1 k hlt)
        exact ⟨(hF.1.cell (by exact hlt0)).trans c1, (hF.1.cell (by exact hlt0)).trans c2, (hF.1.cell (by exact hlt0)).trans c3, heap_cell hv 0, heap_cell hv 1⟩
      have HR : Hid (∀ w2, (∃ P', Tab w2 w0.heap.size n m bp bm P' (setE (fun i e => Ent Bk R L k (i * 1024 + e)) (Bk k) (R k) (L k)) (setW P (Wd H M Bk k) (Bk k)) ∧ ∀ i, P' i = none ↔ (P i = none ∧ i ≠ Bk k / 1024)) → Fr w0.heap.size (wr.drewN 1) w2 → ∃ (k' : Nat) (P' : Nat → Option Nat), k' ≤ s ∧ s - (k + 1) = s - k' ∧ Value.int .i64 ((k : Int) + 1) = .int .i64 (k' : Int) ∧ St w0 w2 n m hb bt bp bm H P' (fun i e => Ent Bk R L k' (i * 1024 + e)) (Wd H M Bk k') ∧ (∀ i, i < n → (P' i = none ↔ (H i || Tch Bk k' i) = false))) := by
        intro w2 h1 h2
        obtain ⟨P', h3, h4⟩ := h1
        have := (hst.drewN 1).step hPk hd h3 h4 h2
        exact ⟨k + 1, P', by omega, rfl, by go_num, this.1, this.2⟩
      clear hst hPk hd K0
      go_wp2_with fail
      go_region_held3 (fun w' => w'.cell? ⟨yb, yo + k * 3, none⟩ = some (.int .u64 (Bk k : Int)) ∧ w'.cell? ⟨yb, yo + k * 3 + 1, none⟩ = some (.int .u32 (R k)) ∧ w'.cell? ⟨yb, yo + k * 3 + 2, none⟩ = some (.int .i8 (L k)) ∧ w'.cell? ⟨bt, 0, none⟩ = some (.slice (some ⟨bp, 0, none⟩) n n) ∧ w'.cell? ⟨bt, 1, none⟩ = some (.slice (some ⟨bm, 0, none⟩) m m)) (go_keep)
        ((go_at_call 6; refine (zzset_any _ w0.heap.size n m bp bm n m (Bk k) P _ _ (R k) (L k) (HZ.out.1.drewN 1).tab hn hm hnm HZ.out.2.2 HZ.out.1.below.size).mono ?_; rintro e w2 ⟨rfl, hT2, hF2⟩; obtain ⟨q1, q2, q3, q4, q5⟩ := HS.out w2 hF2))
      go_wp2_with fail
      go_roundg (s - (k + 1))
      case measure => omega
      case rel => exact HR.out _ hT2 hF2
    · obtain rfl : k = s := by omega
      have HZ : Hid (St w0 wr n m hb bt bp bm H P (fun i e => Ent Bk R L k (i * 1024 + e)) (Wd H M Bk k) ∧ (∀ i, i < n → (P i = none ↔ (H i || Tch Bk k i) = false))) := ⟨hst, hPk⟩
      clear hst hPk
      go_wp2_with fail
      refine HK.out _ _ ?_
      obtain ⟨n1, n2, n3⟩ := hN'.out
      exact n1 w0 wr n m k hc mc sc hb xb xo yb yo hp mp sp H M Bk R L bt bp bm P n2 n3 HZ.out.1 HZ.out.2
end Go.Proofs.Qxb6618452a
