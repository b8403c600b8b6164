/-
  The segment that reads every piece and every entry back.
-/
import Derived.Test.Qxb6618452aSegs
import Derived.Test.Qxb6618452aMath
import Derived.Deep.DeepCutAuto
namespace Go.Proofs.Qxb6618452a
open Go.ChangeShapes Go.WideShapes Go.ChangeAt Go.RowKit
set_option maxRecDepth 1000000
set_option linter.unusedVariables false

theorem entry_val (w : World) (B0 n m bp bm c1 c2 b : Nat) (x r l : Int) (P : Nat → Option Nat) (E : Nat → Nat → Int × Int) (W : Nat → Int) (hT : Tab w B0 n m bp bm P E W) (hb : b < n * 1024) (hn : n ≤ 4096) (hP : P (b / 1024) ≠ none)
    (hx : x = (b : Int)) (hE : E (b / 1024) (b % 1024) = (r, l)) :
    Calls Try.prog 8 #[.agg #[.slice (some ⟨bp, 0, none⟩) n c1, .slice (some ⟨bm, 0, none⟩) m c2], .int .u64 x] w fun e w' =>
      e = .returned (.tuple #[.int .u32 r, .int .i8 l]) ∧ ∃ o k, w' = (w.alloc o).drewN k := by
  subst hx
  refine (entry_any w B0 n m bp bm c1 c2 b P E W hT hb hn hP).mono ?_
  intro e w' h
  rw [hE] at h
  exact h

theorem has_yes (w : World) (B0 n m bp bm i : Nat) (x : Int) (P : Nat → Option Nat) (E : Nat → Nat → Int × Int) (W : Nat → Int) (hT : Tab w B0 n m bp bm P E W) (hi : i < n) (hn : n ≤ 4096) (hx : x = (i : Int)) (hP : (P i).isSome = true) :
    Calls Try.prog 7 #[.agg #[.slice (some ⟨bp, 0, none⟩) n n, .slice (some ⟨bm, 0, none⟩) m m], .int .u64 x] w fun e w' => e = .returned (.bool true) ∧ ∃ o, w' = w.alloc o := by
  subst hx
  refine (has_any w B0 n m bp bm n m i P E W hT hi hn).mono ?_
  intro e w' h
  rw [hP] at h
  exact h
theorem has_no (w : World) (B0 n m bp bm i : Nat) (x : Int) (P : Nat → Option Nat) (E : Nat → Nat → Int × Int) (W : Nat → Int) (hT : Tab w B0 n m bp bm P E W) (hi : i < n) (hn : n ≤ 4096) (hx : x = (i : Int)) (hP : (P i).isSome = false) :
    Calls Try.prog 7 #[.agg #[.slice (some ⟨bp, 0, none⟩) n n, .slice (some ⟨bm, 0, none⟩) m m], .int .u64 x] w fun e w' => e = .returned (.bool false) ∧ ∃ o, w' = w.alloc o := by
  subst hx
  refine (has_any w B0 n m bp bm n m i P E W hT hi hn).mono ?_
  intro e w' h
  rw [hP] at h
  exact h
theorem or_cases {a b : Bool} (h : (a || b) = true) : a = true ∨ (a = false ∧ b = true) := by
  cases a <;> cases b <;> simp_all
theorem or_none {a b : Bool} (h : ¬ (a || b) = true) : a = false ∧ b = false := by
  cases a <;> cases b <;> simp_all
theorem isSome_of {a : Option Nat} {b : Bool} (h : a = none ↔ b = false) : a.isSome = b := by
  cases a <;> cases b <;> simp_all
theorem ne_none_of {a : Option Nat} (h : a.isSome = true) : a ≠ none := by
  cases a <;> simp_all
set_option maxHeartbeats 2000000 in
theorem segG (hN : Goal8) : Goal7 := by
  unfold Goal7
  intro w0 w n m s hc mc sc hb xb xo yb yo hp mp sp H M Bk R L bt bp bm P bc bi c f Y hE hdom hS hPH htch hidx hcs hfY hLs hbi hSo
  intros
  have hN' : Hid (Goal8 ∧ Env w0 n m s hb xb xo yb yo hp mp sp H M Bk R L ∧ (∀ k, k < s → Bk k < n * 1024) ∧ (∀ i, i < n → (P i = none ↔ (H i || Tch Bk s i) = false)) ∧ Lasts Bk s c Y ∧ Sorted Bk c Y ∧ (∀ i, i < c → f i = .int .i64 (Y i : Int))) := ⟨hN, hE, hdom, hPH, hLs, hSo, hfY⟩
  have K0 : Hid (WF w0 w n m s hb bt bp bm bc bi H P (fun i e => Ent Bk R L s (i * 1024 + e)) (Wd H M Bk s) (Tch Bk s) f) := ⟨hS, htch, hidx⟩
  conv => arg 2; whnf
  obtain ⟨hn, hm, hs, hnm, hhp, hmp, hsp, hM, hMb, hB, hR, hL⟩ := hE
  have HB : Hid ((∀ i, i < s → w0.cell? ⟨yb, yo + i * 3, none⟩ = some (.int .u64 (Bk i : Int))) ∧ (∀ i, i < s → w0.cell? ⟨yb, yo + i * 3 + 1, none⟩ = some (.int .u32 (R i))) ∧ (∀ i, i < s → w0.cell? ⟨yb, yo + i * 3 + 2, none⟩ = some (.int .i8 (L i)))) := ⟨hB, hR, hL⟩
  clear htch hS hidx hMb hdom hPH hN hmp hLs hSo hfY hM hB hR hL hbi
  refine wp_seq_hid fun K HK => ?_
  go_wp2_with fail
  refine HK.out _ _ ?_
  clear HK K
  refine wp_seq_hid fun K HK => ?_
  go_wp2_with fail
  go_loopg [22, 23] n (fun gk qq pp wr => ∃ p q : Nat, p ≤ n ∧ gk = n - p ∧ pp = .int .i64 (p : Int) ∧ qq = .int .i64 (q : Int) ∧ Part Bk Y c q (p * 1024) ∧ WF w0 wr n m s hb bt bp bm bc bi H P (fun i e => Ent Bk R L s (i * 1024 + e)) (Wd H M Bk s) (Tch Bk s) f)
  case atStart => exact ⟨0, 0, by omega, rfl, rfl, rfl, ⟨by omega, by omega, by omega⟩, K0.out⟩
  case round =>
    obtain ⟨p, q, hpn, rfl, rfl, rfl, hpart, hwf⟩ := hrel
    have hqc : q ≤ c := hpart.1
    by_cases hlt : p < n
    · have hlt' : (p : Int) < (n : Int) := by omega
      obtain rfl := hhp (by omega)
      have hck := hwf.1.have_.cell hlt
      have htk := hwf.2.1.cell hlt
      have t0 := hwf.1.t0
      have t1 := hwf.1.t1
      have hPs : (P p).isSome = (H p || Tch Bk s p) := isSome_of (hN'.out.2.2.2.1 p hlt)
      have HW : Hid (WF w0 wr n m s hb bt bp bm bc bi H P (fun i e => Ent Bk R L s (i * 1024 + e)) (Wd H M Bk s) (Tch Bk s) f ∧ Part Bk Y c q (p * 1024) ∧ (P p).isSome = (H p || Tch Bk s p)) := ⟨hwf, hpart, hPs⟩
      clear hwf hpart hPs K0
      by_cases hex : (H p || Tch Bk s p) = true
      · have HX : Hid ((P p).isSome = true) := HW.out.2.2.trans hex
        go_upto_region 60 with fail
        go_cut [24] (fun v wc => v = .bool true ∧ wc = wr)
        case first =>
          rcases or_cases hex with h1 | ⟨h1, h2⟩
          · rw [h1] at hck
            clear hex h1 htk
            go_wp2_with fail
            go_meet
            case rel => exact ⟨rfl, rfl⟩
          · rw [h1] at hck
            rw [h2] at htk
            clear hex h1 h2
            go_wp2_with fail
            go_meet
            case rel => exact ⟨rfl, rfl⟩
        case rest =>
          obtain ⟨rfl, rfl⟩ := hcut
          clear hck htk hex
          go_wp2_with fail
          refine (has_yes _ w0.heap.size n m bp bm p _ P _ _ HW.out.1.1.tab hlt hn rfl HX.out).mono ?_
          rintro e w1 ⟨rfl, o, rfl⟩
          go_wp2_with fail
          have HW1 : Hid (WF w0 (wc.alloc o) n m s hb bt bp bm bc bi H P (fun i e => Ent Bk R L s (i * 1024 + e)) (Wd H M Bk s) (Tch Bk s) f) := HW.out.1.alloc o
          obtain ⟨w1, hw1⟩ : ∃ w1, w1 = wc.alloc o := ⟨_, rfl⟩
          rw [← hw1] at HW1 ⊢
          clear hw1 t0 t1
          go_loopg [22, 25] 1024 (fun gk qq ee wx => ∃ e q : Nat, e ≤ 1024 ∧ gk = 1024 - e ∧ ee = .int .i64 (e : Int) ∧ qq = .int .i64 (q : Int) ∧ Part Bk Y c q (p * 1024 + e) ∧ WF w0 wx n m s hb bt bp bm bc bi H P (fun i e => Ent Bk R L s (i * 1024 + e)) (Wd H M Bk s) (Tch Bk s) f)
          case atStart => exact ⟨0, q, by omega, rfl, rfl, rfl, HW.out.2.1, HW1.out⟩
          case round =>
            obtain ⟨e, q1, he, rfl, rfl, rfl, hpart, hwf⟩ := hrel
            have hqc1 : q1 ≤ c := hpart.1
            by_cases hlt2 : e < 1024
            · have hlt2' : (e : Int) < 1024 := by omega
              have t0 := hwf.1.t0
              have t1 := hwf.1.t1
              by_cases hq : q1 < c
              · have hq' : (q1 : Int) < (c : Int) := by omega
                have hYs : Y q1 < s := hN'.out.2.2.2.2.1.lt q1 hq
                obtain rfl := hsp (by omega)
                obtain ⟨y, hy⟩ : ∃ y, y = Y q1 := ⟨_, rfl⟩
                rw [← hy] at hYs
                have hYs' : (y : Int) < (s : Int) := by omega
                have hci : wr.cell? ⟨bi, q1, none⟩ = some (.int .i64 (y : Int)) := (hwf.2.2.cell (by omega)).trans (by rw [hN'.out.2.2.2.2.2.2 q1 hq, hy])
                have hcB : wr.cell? ⟨yb, yo + y * 3, none⟩ = some (.int .u64 (Bk y : Int)) := (hwf.1.below.cell (by exact cell_lt (HB.out.1 y hYs))).trans (HB.out.1 y hYs)
                have hcR : wr.cell? ⟨yb, yo + y * 3 + 1, none⟩ = some (.int .u32 (R y)) := (hwf.1.below.cell (by exact cell_lt (HB.out.2.1 y hYs))).trans (HB.out.2.1 y hYs)
                have hcL : wr.cell? ⟨yb, yo + y * 3 + 2, none⟩ = some (.int .i8 (L y)) := (hwf.1.below.cell (by exact cell_lt (HB.out.2.2 y hYs))).trans (HB.out.2.2 y hYs)
                have hpe : p * 1024 + e < n * 1024 := by omega
                have hPn : P ((p * 1024 + e) / 1024) ≠ none := by
                  rw [show (p * 1024 + e) / 1024 = p from by omega]; exact ne_none_of HX.out
                have hEe : (p * 1024 + e) / 1024 * 1024 + (p * 1024 + e) % 1024 = p * 1024 + e := by omega
                by_cases hk : Bk y = p * 1024 + e
                · have hk' : ((Bk y : Int) == (p : Int) * 1024 + (e : Int)) = true := by
                    rw [beq_iff_eq]; omega
                  have hEnt : Ent Bk R L s (p * 1024 + e) = (R y, L y) := by
                    rw [hy] at hk ⊢
                    exact ent_hit Bk R L hN'.out.2.2.2.2.1 hq hk
                  have HZ : Hid (Part Bk Y c (q1 + 1) (p * 1024 + (e + 1)) ∧ WF w0 wr n m s hb bt bp bm bc bi H P (fun i e => Ent Bk R L s (i * 1024 + e)) (Wd H M Bk s) (Tch Bk s) f ∧ P ((p * 1024 + e) / 1024) ≠ none ∧ Ent Bk R L s ((p * 1024 + e) / 1024 * 1024 + (p * 1024 + e) % 1024) = (R y, L y) ∧ p * 1024 + e < n * 1024) :=
                    ⟨hpart.hit hN'.out.2.2.2.2.2.1 hq (by rw [← hy]; exact hk), hwf, hPn, by rw [hEe]; exact hEnt, hpe⟩
                  clear hpart hwf hPn hEnt hEe hk hy hpe HW HW1
                  go_wp2_with fail
                  refine (entry_val _ w0.heap.size n m bp bm n m (p * 1024 + e) _ (R y) (L y) P _ _ HZ.out.2.1.1.tab HZ.out.2.2.2.2 hn HZ.out.2.2.1 (by omega) HZ.out.2.2.2.1).mono ?_
                  rintro e1 w2 ⟨rfl, o2, k2, rfl⟩
                  go_wp2_with fail
                  go_roundg (1024 - (e + 1))
                  case measure => omega
                  case rel => exact ⟨e + 1, q1 + 1, by omega, rfl, by go_num, by go_num, HZ.out.1, (HZ.out.2.1.alloc o2).drewN k2⟩
                · have hk' : ((Bk y : Int) == (p : Int) * 1024 + (e : Int)) = false := by
                    rw [beq_eq_false_iff_ne]; omega
                  have hEnt : Ent Bk R L s (p * 1024 + e) = (0, 0) := ent_miss Bk R L hN'.out.2.2.2.2.1 hN'.out.2.2.2.2.2.1 hpart (fun _ => by rw [← hy]; exact hk)
                  have HZ : Hid (Part Bk Y c q1 (p * 1024 + (e + 1)) ∧ WF w0 wr n m s hb bt bp bm bc bi H P (fun i e => Ent Bk R L s (i * 1024 + e)) (Wd H M Bk s) (Tch Bk s) f ∧ P ((p * 1024 + e) / 1024) ≠ none ∧ Ent Bk R L s ((p * 1024 + e) / 1024 * 1024 + (p * 1024 + e) % 1024) = (0, 0) ∧ p * 1024 + e < n * 1024) :=
                    ⟨hpart.miss hN'.out.2.2.2.2.2.1 (fun _ => by rw [← hy]; exact hk), hwf, hPn, by rw [hEe]; exact hEnt, hpe⟩
                  clear hpart hwf hPn hEnt hEe hk hy hpe HW HW1
                  go_wp2_with fail
                  refine (entry_val _ w0.heap.size n m bp bm n m (p * 1024 + e) _ 0 0 P _ _ HZ.out.2.1.1.tab HZ.out.2.2.2.2 hn HZ.out.2.2.1 (by omega) HZ.out.2.2.2.1).mono ?_
                  rintro e1 w2 ⟨rfl, o2, k2, rfl⟩
                  go_wp2_with fail
                  go_roundg (1024 - (e + 1))
                  case measure => omega
                  case rel => exact ⟨e + 1, q1, by omega, rfl, by go_num, rfl, HZ.out.1, (HZ.out.2.1.alloc o2).drewN k2⟩
              · have hq' : (c : Int) ≤ (q1 : Int) := by omega
                have hpe : p * 1024 + e < n * 1024 := by omega
                have hPn : P ((p * 1024 + e) / 1024) ≠ none := by
                  rw [show (p * 1024 + e) / 1024 = p from by omega]; exact ne_none_of HX.out
                have hEe : (p * 1024 + e) / 1024 * 1024 + (p * 1024 + e) % 1024 = p * 1024 + e := by omega
                have hEnt : Ent Bk R L s (p * 1024 + e) = (0, 0) := ent_miss Bk R L hN'.out.2.2.2.2.1 hN'.out.2.2.2.2.2.1 hpart (fun h => absurd h hq)
                have HZ : Hid (Part Bk Y c q1 (p * 1024 + (e + 1)) ∧ WF w0 wr n m s hb bt bp bm bc bi H P (fun i e => Ent Bk R L s (i * 1024 + e)) (Wd H M Bk s) (Tch Bk s) f ∧ P ((p * 1024 + e) / 1024) ≠ none ∧ Ent Bk R L s ((p * 1024 + e) / 1024 * 1024 + (p * 1024 + e) % 1024) = (0, 0) ∧ p * 1024 + e < n * 1024) :=
                  ⟨hpart.miss hN'.out.2.2.2.2.2.1 (fun h => absurd h hq), hwf, hPn, by rw [hEe]; exact hEnt, hpe⟩
                clear hpart hwf hPn hEnt hEe hpe HW HW1 hq
                go_wp2_with fail
                refine (entry_val _ w0.heap.size n m bp bm n m (p * 1024 + e) _ 0 0 P _ _ HZ.out.2.1.1.tab HZ.out.2.2.2.2 hn HZ.out.2.2.1 (by omega) HZ.out.2.2.2.1).mono ?_
                rintro e1 w2 ⟨rfl, o2, k2, rfl⟩
                go_wp2_with fail
                go_roundg (1024 - (e + 1))
                case measure => omega
                case rel => exact ⟨e + 1, q1, by omega, rfl, by go_num, rfl, HZ.out.1, (HZ.out.2.1.alloc o2).drewN k2⟩
            · obtain rfl : e = 1024 := by omega
              have HZ : Hid (Part Bk Y c q1 ((p + 1) * 1024) ∧ WF w0 wr n m s hb bt bp bm bc bi H P (fun i e => Ent Bk R L s (i * 1024 + e)) (Wd H M Bk s) (Tch Bk s) f) :=
                ⟨by rw [show (p + 1) * 1024 = p * 1024 + 1024 from by omega]; exact hpart, hwf⟩
              clear hpart hwf HW HW1
              go_wp2_with fail
              go_roundg (n - (p + 1))
              case measure => omega
              case rel => exact ⟨p + 1, q1, by omega, rfl, by go_num, rfl, HZ.out⟩
      · obtain ⟨h1, h2⟩ := or_none hex
        have HX : Hid ((P p).isSome = false) := HW.out.2.2.trans (by simpa using hex)
        rw [h1] at hck
        rw [h2] at htk
        have HZ : Hid (Part Bk Y c q ((p + 1) * 1024) ∧ WF w0 wr n m s hb bt bp bm bc bi H P (fun i e => Ent Bk R L s (i * 1024 + e)) (Wd H M Bk s) (Tch Bk s) f) := by
          refine ⟨HW.out.2.1.skip fun t ht e => ?_, HW.out.1⟩
          have := tch_of Bk s (Y t) p (hN'.out.2.2.2.2.1.lt t ht) e
          rw [h2] at this
          cases this
        clear hex h1 h2
        go_wp2_with fail
        refine (has_no _ w0.heap.size n m bp bm p _ P _ _ HW.out.1.1.tab hlt hn rfl HX.out).mono ?_
        rintro e w1 ⟨rfl, o, rfl⟩
        go_wp2_with fail
        go_roundg (n - (p + 1))
        case measure => omega
        case rel => exact ⟨p + 1, q, by omega, rfl, by go_num, rfl, HZ.out.1, HZ.out.2.alloc o⟩
    · obtain rfl : p = n := by omega
      have hq : Hid (q = c ∧ WF w0 wr p m s hb bt bp bm bc bi H P (fun i e => Ent Bk R L s (i * 1024 + e)) (Wd H M Bk s) (Tch Bk s) f) := by
        refine ⟨?_, hwf⟩
        rcases Nat.lt_or_ge q c with h | h
        · have h1 := hpart.2.2 q (Nat.le_refl _) h
          have h2 := hN'.out.2.2.1 (Y q) (hN'.out.2.2.2.2.1.lt q h)
          omega
        · omega
      clear hwf hpart K0
      go_wp2_with fail
      refine HK.out _ _ ?_
      obtain ⟨rfl, hwf⟩ := hq.out
      obtain ⟨n1, n2, n3, n4, _⟩ := hN'.out
      exact n1 w0 wr p m s hc mc sc hb xb xo yb yo hp mp sp H M Bk R L bt bp bm P bc bi q n2 n3 hwf.1 n4 hwf.2.1
end Go.Proofs.Qxb6618452a
