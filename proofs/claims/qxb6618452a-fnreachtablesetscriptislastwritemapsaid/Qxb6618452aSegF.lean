/-
  The segment that sorts the last writes by their blocks.
-/
import Derived.Test.Qxb6618452aSegs
import Derived.Test.Qxb6618452aMath
namespace Go.Proofs.Qxb6618452a
open Go.ChangeShapes Go.WideShapes Go.ChangeAt Go.RowKit
set_option maxRecDepth 1000000
set_option linter.unusedVariables false

set_option maxHeartbeats 2000000 in
theorem segF (hN : Goal7) : Goal6 := by
  unfold Goal6
  intro w0 w n m s hc mc sc hb xb xo yb yo hp mp sp H M Bk R L bt bp bm P bc bi c f Y hE hdom hS hPH htch hidx hcs hfY hLs hbi
  intros
  have hN' : Hid (Goal7 ∧ Env w0 n m s hb xb xo yb yo hp mp sp H M Bk R L ∧ (∀ k, k < s → Bk k < n * 1024) ∧ (∀ i, i < n → (P i = none ↔ (H i || Tch Bk s i) = false)) ∧ w0.heap.size ≤ bi) := ⟨hN, hE, hdom, hPH, hbi⟩
  have K0 : Hid (WF w0 w n m s hb bt bp bm bc bi H P (fun i e => Ent Bk R L s (i * 1024 + e)) (Wd H M Bk s) (Tch Bk s) f ∧ (∀ i, i < c → f i = .int .i64 (Y i : Int)) ∧ Lasts Bk s c Y) := ⟨⟨hS, htch, hidx⟩, hfY, hLs⟩
  conv => arg 2; whnf
  obtain ⟨hn, hm, hs, hnm, hhp, hmp, hsp, hM, hMb, hB, hR, hL⟩ := hE
  have HB : Hid (∀ i, i < s → w0.cell? ⟨yb, yo + i * 3, none⟩ = some (.int .u64 (Bk i : Int))) := hB
  clear htch hS hidx hMb hdom hPH hN hmp hhp hLs hfY hM hB hR hL hbi
  refine wp_seq_hid fun K HK => ?_
  go_wp2_with fail
  go_loopg [19] (c - 1) (fun gk ii wr => ∃ (i : Nat) (Y : Nat → Nat) (f : Nat → Value), 1 ≤ i ∧ (i ≤ c ∨ i = 1) ∧ gk = c - i ∧ ii = .int .i64 (i : Int) ∧ WF w0 wr n m s hb bt bp bm bc bi H P (fun i e => Ent Bk R L s (i * 1024 + e)) (Wd H M Bk s) (Tch Bk s) f ∧ (∀ t, t < c → f t = .int .i64 (Y t : Int)) ∧ Lasts Bk s c Y ∧ SortTo Bk Y c i)
  case atStart => exact ⟨1, Y, f, by omega, .inr rfl, rfl, rfl, K0.out.1, K0.out.2.1, K0.out.2.2, fun p q h1 h2 _ => by omega⟩
  case round =>
    obtain ⟨i, Y, f, h1i, hic, rfl, rfl, hwf, hfY, hLs, hSo⟩ := hrel
    by_cases hlt : i < c
    · have hlt' : (i : Int) < (c : Int) := by omega
      have hci : wr.cell? ⟨bi, i, none⟩ = some (.int .i64 (Y i : Int)) := (hwf.2.2.cell (by omega)).trans (by rw [hfY i hlt])
      have hYs : Y i < s := hLs.lt i hlt
      obtain ⟨y, hy⟩ : ∃ y, y = Y i := ⟨_, rfl⟩
      rw [← hy] at hYs hci
      have hYs' : (y : Int) < (s : Int) := by omega
      obtain rfl := hsp (by omega)
      have HZ : Hid (WF w0 wr n m s hb bt bp bm bc bi H P (fun i e => Ent Bk R L s (i * 1024 + e)) (Wd H M Bk s) (Tch Bk s) f ∧ (∀ t, t < c → f t = .int .i64 (Y t : Int)) ∧ Lasts Bk s c Y ∧ SortTo Bk Y c i ∧ y = Y i) := ⟨hwf, hfY, hLs, hSo, hy⟩
      clear hwf hfY hLs hSo hy K0
      go_wp2_with fail
      go_loopg [21] i (fun gk jj wx => ∃ (h : Nat) (f' : Nat → Value), h ≤ i ∧ h = gk ∧ jj = .int .i64 ((h : Int) - 1) ∧ WF w0 wx n m s hb bt bp bm bc bi H P (fun i e => Ent Bk R L s (i * 1024 + e)) (Wd H M Bk s) (Tch Bk s) f' ∧ (∀ t, t < c → f' t = .int .i64 (shift Y h i t : Int)) ∧ (∀ t, h ≤ t → t < i → Bk y < Bk (Y t)))
      case atStart => exact ⟨i, f, Nat.le_refl _, rfl, rfl, HZ.out.1, fun t ht => by rw [HZ.out.2.1 t ht]; unfold shift; (repeat' split) <;> first | rfl | omega, fun t _ _ => by omega⟩
      case round =>
        obtain ⟨h, f', hhi, rfl, rfl, hwf, hfS, hgt⟩ := hrel
        have hcy : wr.cell? ⟨yb, yo + y * 3, none⟩ = some (.int .u64 (Bk y : Int)) := (hwf.1.below.cell (by exact cell_lt (HB.out y hYs))).trans (HB.out y hYs)
        rcases Nat.eq_zero_or_pos h with hz | hz
        · subst hz
          have hd : decide ((0 : Int) ≤ ((0 : Nat) : Int) - 1) = false := by simp
          have hch : wr.cell? ⟨bi, 0, none⟩ = some (f' 0) := hwf.2.2.cell (by omega)
          have hfh := hwf.2.2.frozen 0
          obtain ⟨v0, hv0⟩ : ∃ v0, v0 = Y 0 := ⟨_, rfl⟩
          rw [hfS 0 (by omega), show shift Y 0 i 0 = Y 0 from by simp [shift], ← hv0] at hch
          have HZ1 : Hid (∀ q, ∃ (i' : Nat) (Y' : Nat → Nat) (g : Nat → Value), 1 ≤ i' ∧ (i' ≤ c ∨ i' = 1) ∧ c - (i + 1) = c - i' ∧ Value.int .i64 ((i : Int) + 1) = .int .i64 (i' : Int) ∧ WF w0 ((wr.drewN q).setCell ⟨bi, 0, none⟩ (.int .i64 (y : Int))) n m s hb bt bp bm bc bi H P (fun i e => Ent Bk R L s (i * 1024 + e)) (Wd H M Bk s) (Tch Bk s) g ∧ (∀ t, t < c → g t = .int .i64 (Y' t : Int)) ∧ Lasts Bk s c Y' ∧ SortTo Bk Y' c i') := by
            intro q
            obtain ⟨z1, z2, z3, z4, z5⟩ := HZ.out
            refine ⟨i + 1, ins Y 0 i, fun t => if t = 0 then .int .i64 (y : Int) else f' t, by omega, by omega, rfl, by go_num, (hwf.drewN q).setIdx hN'.out.2.2.2.2 _ _ (fun t _ => rfl), fun t ht => ?_, z3.ins (by omega) hlt, z4.ins z3 (by omega) hlt (fun t h1 h2 => by rw [← z5]; exact hgt t h1 h2) (fun h => by omega)⟩
            by_cases e : t = 0
            · simp [e, ins, z5]
            · simp [e, ins, hfS t ht]
          clear hwf hfS hgt HZ hv0
          go_wp2_with fail
          go_quiet (fail)
          go_wp2_with fail
          go_roundg (c - (i + 1))
          case measure => omega
          case rel => exact HZ1.out _
        · obtain ⟨j, rfl⟩ : ∃ j, h = j + 1 := ⟨h - 1, by omega⟩
          rw [show (((j + 1 : Nat)) : Int) - 1 = (j : Int) from by omega]
          have hj0 : (0 : Int) ≤ (j : Int) := by omega
          have hjc : (j : Int) < (c : Int) := by omega
          have hjc1 : (j : Int) + 1 < (c : Int) := by omega
          obtain ⟨yj, hyj⟩ : ∃ yj, yj = Y j := ⟨_, rfl⟩
          have hcj : wr.cell? ⟨bi, j, none⟩ = some (.int .i64 (yj : Int)) := (hwf.2.2.cell (by omega)).trans (by rw [hfS j (by omega), hyj]; simp [shift])
          have hch : wr.cell? ⟨bi, j + 1, none⟩ = some (f' (j + 1)) := hwf.2.2.cell (by omega)
          have hfh := hwf.2.2.frozen (j + 1)
          obtain ⟨v0, hv0⟩ : ∃ v0, v0 = Y (j + 1) := ⟨_, rfl⟩
          rw [hfS (j + 1) (by omega), show shift Y (j + 1) i (j + 1) = Y (j + 1) from by simp [shift], ← hv0] at hch
          have hyjs : yj < s := by rw [hyj]; exact HZ.out.2.2.1.lt j (by omega)
          have hyjs' : (yj : Int) < (s : Int) := by omega
          have hcyj : wr.cell? ⟨yb, yo + yj * 3, none⟩ = some (.int .u64 (Bk yj : Int)) := (hwf.1.below.cell (by exact cell_lt (HB.out yj hyjs))).trans (HB.out yj hyjs)
          by_cases hg : Bk y < Bk yj
          · have hg' : (Bk y : Int) < (Bk yj : Int) := by omega
            have HZ1 : Hid (∀ q, ∃ (h : Nat) (f'' : Nat → Value), h ≤ i ∧ h = j ∧ Value.int .i64 ((j : Int) - 1) = .int .i64 ((h : Int) - 1) ∧ WF w0 ((wr.drewN q).setCell ⟨bi, j + 1, none⟩ (.int .i64 (yj : Int))) n m s hb bt bp bm bc bi H P (fun i e => Ent Bk R L s (i * 1024 + e)) (Wd H M Bk s) (Tch Bk s) f'' ∧ (∀ t, t < c → f'' t = .int .i64 (shift Y h i t : Int)) ∧ (∀ t, h ≤ t → t < i → Bk y < Bk (Y t))) := by
              intro q
              refine ⟨j, fun t => if t = j + 1 then .int .i64 (yj : Int) else f' t, by omega, rfl, rfl, (hwf.drewN q).setIdx hN'.out.2.2.2.2 _ _ (fun t _ => rfl), fun t ht => ?_, fun t h1 h2 => ?_⟩
              · by_cases e : t = j + 1
                · subst e; simp only [if_true]; rw [hyj]; unfold shift; rw [if_neg (by omega), if_pos (by omega)]; rfl
                · simp only [e, if_false]; rw [hfS t ht]; unfold shift
                  (repeat' split) <;> first | rfl | omega
              · by_cases e : t = j
                · subst e; rw [← hyj]; exact hg
                · exact hgt t (by omega) h2
            clear hwf hfS hgt HZ hv0 hyj hg
            go_wp2_with fail
            go_quiet (fail)
            go_wp2_with fail
            go_roundg j
            case measure => omega
            case rel => exact HZ1.out _
          · have hg' : decide (Bk y < Bk yj) = false := by simp; omega
            have hg3 : (Bk yj : Int) ≤ (Bk y : Int) := by omega
            have HZ1 : Hid (∀ q, ∃ (i' : Nat) (Y' : Nat → Nat) (g : Nat → Value), 1 ≤ i' ∧ (i' ≤ c ∨ i' = 1) ∧ c - (i + 1) = c - i' ∧ Value.int .i64 ((i : Int) + 1) = .int .i64 (i' : Int) ∧ WF w0 ((wr.drewN q).setCell ⟨bi, j + 1, none⟩ (.int .i64 (y : Int))) n m s hb bt bp bm bc bi H P (fun i e => Ent Bk R L s (i * 1024 + e)) (Wd H M Bk s) (Tch Bk s) g ∧ (∀ t, t < c → g t = .int .i64 (Y' t : Int)) ∧ Lasts Bk s c Y' ∧ SortTo Bk Y' c i') := by
              intro q
              obtain ⟨z1, z2, z3, z4, z5⟩ := HZ.out
              refine ⟨i + 1, ins Y (j + 1) i, fun t => if t = j + 1 then .int .i64 (y : Int) else f' t, by omega, by omega, rfl, by go_num, (hwf.drewN q).setIdx hN'.out.2.2.2.2 _ _ (fun t _ => rfl), fun t ht => ?_, z3.ins (by omega) hlt, z4.ins z3 (by omega) hlt (fun t h1 h2 => by rw [← z5]; exact hgt t h1 h2) (fun h => by rw [Nat.add_sub_cancel, ← hyj, ← z5]; omega)⟩
              by_cases e : t = j + 1
              · simp [e, ins, z5]
              · simp [e, ins, hfS t ht]
            clear hwf hfS hgt HZ hv0 hyj hg
            go_wp2_with fail
            go_quiet (fail)
            go_wp2_with fail
            go_roundg (c - (i + 1))
            case measure => omega
            case rel => exact HZ1.out _
    · have HZ : Hid (WF w0 wr n m s hb bt bp bm bc bi H P (fun i e => Ent Bk R L s (i * 1024 + e)) (Wd H M Bk s) (Tch Bk s) f ∧ (∀ t, t < c → f t = .int .i64 (Y t : Int)) ∧ Lasts Bk s c Y ∧ Sorted Bk c Y) :=
        ⟨hwf, hfY, hLs, fun p q h1 h2 => hSo p q h1 (by omega) h2⟩
      have hlt' : (c : Int) ≤ (i : Int) := by omega
      clear hwf hfY hLs hSo K0
      go_wp2_with fail
      refine HK.out _ _ ?_
      obtain ⟨n1, n2, n3, n4, n5⟩ := hN'.out
      obtain ⟨z1, z2, z3, z4⟩ := HZ.out
      exact n1 w0 wr n m s hc mc sc hb xb xo yb yo hp mp sp H M Bk R L bt bp bm P bc bi c f Y n2 n3 z1.1 n4 z1.2.1 z1.2.2 hcs z2 z3 n5 z4
end Go.Proofs.Qxb6618452a
