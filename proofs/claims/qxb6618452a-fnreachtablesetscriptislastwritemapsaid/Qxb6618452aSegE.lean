/-
  The segment that gathers the last writes.
-/
import Derived.Test.Qxb6618452aSegs
import Derived.Test.Qxb6618452aMath
import Derived.ArgAppend
namespace Go.Proofs.Qxb6618452a
open Go.ChangeShapes Go.WideShapes Go.ChangeAt Go.RowKit
set_option maxRecDepth 1000000
set_option linter.unusedVariables false

theorem info3 : (Try.prog.info? 3).map (fun i => (i.zero, i.size, i.bytes)) = some (some (.int .i64 0), 1, 8) := by kernel_rfl

theorem run_make_cap (s : Nat) (hs : s ≤ 4096) (w : World) : (Instr.makeSlice 37 (.int .i64 0) (.int .i64 (s : Int))).run Try.prog w = .ok (.slice (some ⟨w.heap.size, 0, none⟩) 0 s) (w.alloc (.cells (madeCells #[.int .i64 0] s) 3)) := by
  obtain ⟨i, hi, hzz⟩ := Option.map_eq_some_iff.1 info3
  simp only [Prod.mk.injEq] at hzz
  obtain ⟨hz, h1, hb⟩ := hzz
  have := run_make (P := Try.prog) w 37 3 i (.int .i64 0) Try.underlying37 hi hz .i64 .i64 0 (s : Int) (by omega) (by omega) (by rw [hb]; omega) (by omega)
  simpa [h1, Value.cells] using this

/-- 'append(idx, v)' where there is room: the cell behind the last is written, the length goes up by one. -/
theorem wpList_append_one {w : World} {ops : Array Oper} {rest : List Oper} {o : Oper} {a : Act} {Q : Exit → Act → World → Prop} (hgd : o.guard = none) (s x : Operand)
    (hop : o.op = Op.call { callee := Callee.builtin Builtin.append, args := #[s, x], argTypes := #[37, 37] }) (b c cap : Nat) (f : Nat → Value) (v : Value) (ad : Addr)
    (hs : a.eval s = .slice (some ⟨b, 0, none⟩) c cap) (hx : a.eval x = .slice (some ad) 1 1) (hv : w.cell? (ad.add 0) = some v) (h1 : v.oneCell' = true) (hroom : c < cap) (hrow : w.rowIs b 3 cap f)
    (h : ∀ w', Hid (w' = w.setCell ⟨b, c, none⟩ v) → wpList Try.prog ops Q rest (a.put o.dst (.slice (some ⟨b, 0, none⟩) (c + 1) cap)) w') : wpList Try.prog ops Q (o :: rest) a w := by
  refine wpList_plain hgd fun K hK => ?_
  obtain ⟨i, hi, hzz⟩ := Option.map_eq_some_iff.1 info3
  simp only [Prod.mk.injEq] at hzz
  obtain ⟨hz, hsz, hb⟩ := hzz
  have hrun := run_append_room_cells (P := Try.prog) w 37 o.type 3 i Try.underlying37 hi b 0 c cap ad 1 1 [v] (by simp [hsz]) (by
      intro j u hj
      match j, hj with
      | 0, hj => simp at hj; subst hj; exact hv) (by intro u hu; simp at hu; subst hu; exact h1) (by omega) (by
      intro j hj
      simp at hj
      subst hj
      simp [hsz, hrow.cell hroom]) (by intro j hj; exact hrow.frozen _)
  simp only [hsz, Nat.mul_one, Nat.zero_add, World.setCells] at hrun
  unfold Oper.wp
  simp [execOp, hop, resolve, invoke, builtin, hs, hx, hrun, Result.andThen]
  exact hK _ _ (h _ rfl)

theorem one_new (w : World) (q : Nat) (v : Value) : ((w.drewN q).alloc (.cells #[v] 3)).cell? ((⟨w.heap.size, 0, none⟩ : Addr).add 0) = some v :=
  (World.cell?_alloc_at (w := w.drewN q) #[v] 3 w.heap.size 0 rfl)

set_option maxHeartbeats 2000000 in
theorem segE (hN : Goal6) : Goal5 := by
  unfold Goal5
  intro w0 w n m s hc mc sc hb xb xo yb yo hp mp sp H M Bk R L bt bp bm P bc hE hdom hS hPH htch hbc
  intros
  have hN' : Hid (Goal6 ∧ Env w0 n m s hb xb xo yb yo hp mp sp H M Bk R L ∧ (∀ k, k < s → Bk k < n * 1024) ∧ (∀ i, i < n → (P i = none ↔ (H i || Tch Bk s i) = false))) := ⟨hN, hE, hdom, hPH⟩
  have K0 : Hid (St w0 w n m hb bt bp bm H P (fun i e => Ent Bk R L s (i * 1024 + e)) (Wd H M Bk s) ∧ w.rowIs bc 4 n (fun i => .bool (Tch Bk s i))) := ⟨hS, htch⟩
  conv => arg 2; whnf
  obtain ⟨hn, hm, hs, hnm, hhp, hmp, hsp, hM, hMb, hB, hR, hL⟩ := hE
  have HB : Hid (∀ i, i < s → w0.cell? ⟨yb, yo + i * 3, none⟩ = some (.int .u64 (Bk i : Int))) := hB
  have hmk := run_make_cap s hs
  clear htch hS hMb hdom hPH hN hmp hhp hM hB hR hL
  refine wp_seq_hid fun K HK => ?_
  go_wp2_with fail
  refine HK.out _ _ ?_
  clear HK K hmk
  obtain ⟨w1, hw1⟩ : ∃ w1, w1 = w.alloc (.cells (madeCells #[.int .i64 0] s) 3) := ⟨_, rfl⟩
  have K1 : Hid (WF w0 w1 n m s hb bt bp bm bc w.heap.size H P (fun i e => Ent Bk R L s (i * 1024 + e)) (Wd H M Bk s) (Tch Bk s) (fun _ => .int .i64 0) ∧ w0.heap.size ≤ w.heap.size) := by
    rw [hw1]
    exact ⟨⟨K0.out.1.alloc _, K0.out.2.alloc _, World.rowIs_made _ _ _ _⟩, K0.out.1.below.size⟩
  rw [← hw1]
  obtain ⟨bi, hbi⟩ : ∃ bi, bi = w.heap.size := ⟨_, rfl⟩
  rw [← hbi] at K1 ⊢
  clear hw1 K0 hbi
  refine wp_seq_hid fun K HK => ?_
  go_wp2_with fail
  go_loopg [15, 16] s (fun gk xx kk wr => ∃ (k c : Nat) (Y : Nat → Nat) (f : Nat → Value), k ≤ s ∧ gk = s - k ∧ kk = .int .i64 (k : Int) ∧ c ≤ k ∧ xx = .slice (some ⟨bi, 0, none⟩) c s ∧ WF w0 wr n m s hb bt bp bm bc bi H P (fun i e => Ent Bk R L s (i * 1024 + e)) (Wd H M Bk s) (Tch Bk s) f ∧ (∀ t, t < c → f t = .int .i64 (Y t : Int)) ∧ LTo Bk s k c Y)
  case atStart => exact ⟨0, 0, id, _, by omega, rfl, rfl, by omega, rfl, K1.out.1, fun t ht => by omega, LTo.zero Bk s id⟩
  case round =>
    obtain ⟨k, c, Y, f, hks, rfl, rfl, hck, rfl, hwf, hfY, hLT⟩ := hrel
    by_cases hlt : k < s
    · have hlt' : (k : Int) < (s : Int) := by omega
      obtain rfl := hsp (by omega)
      have HZ : Hid (WF w0 wr n m s hb bt bp bm bc bi H P (fun i e => Ent Bk R L s (i * 1024 + e)) (Wd H M Bk s) (Tch Bk s) f ∧ (∀ t, t < c → f t = .int .i64 (Y t : Int)) ∧ LTo Bk s k c Y) := ⟨hwf, hfY, hLT⟩
      have hcbk : wr.cell? ⟨yb, yo + k * 3, none⟩ = some (.int .u64 (Bk k : Int)) := (hwf.1.below.cell (by exact cell_lt (HB.out k hlt))).trans (HB.out k hlt)
      have Hcb : Hid (∀ j, j < s → wr.cell? ⟨yb, yo + j * 3, none⟩ = some (.int .u64 (Bk j : Int))) := fun j hj => (hwf.1.below.cell (by exact cell_lt (HB.out j hj))).trans (HB.out j hj)
      clear hwf hfY hLT
      go_wp2_with fail
      go_loopg [17, 18] (s - (k + 1)) (fun gk ll jj wx => ∃ (j q : Nat), k + 1 ≤ j ∧ j ≤ s ∧ gk = s - j ∧ jj = .int .i64 (j : Int) ∧ ll = .bool true ∧ wx = wr.drewN q ∧ (∀ t, k < t → t < j → Bk t ≠ Bk k))
      case atStart => exact ⟨k + 1, 0, by omega, by omega, rfl, by go_num, rfl, rfl, fun t h1 h2 => by omega⟩
      case round =>
        obtain ⟨j, q, hkj, hjs, rfl, rfl, rfl, rfl, hne⟩ := hrel
        by_cases hjl : j < s
        · have hjl' : (j : Int) < (s : Int) := by omega
          have hcj := Hcb.out j hjl
          by_cases he : Bk j = Bk k
          · have he' : ((Bk j : Int) == (Bk k : Int)) = true := by rw [beq_iff_eq]; omega
            have hx : Hid (LTo Bk s (k + 1) c Y) := HZ.out.2.2.pass (fun hl => hl j (by omega) hjl he)
            clear he hne
            go_wp2_with fail
            go_quiet (fail)
            go_wp2_with fail
            go_roundg (s - (k + 1))
            case measure => omega
            case rel => exact ⟨k + 1, c, Y, f, by omega, rfl, by go_num, by omega, rfl, HZ.out.1.drewN _, HZ.out.2.1, hx.out⟩
          · have he' : ((Bk j : Int) == (Bk k : Int)) = false := by rw [beq_eq_false_iff_ne]; omega
            have hx : Hid (∀ t, k < t → t < j + 1 → Bk t ≠ Bk k) := fun t h1 h2 => by
              by_cases e : t = j
              · subst e; exact he
              · exact hne t h1 (by omega)
            clear he hne
            go_wp2_with fail
            go_quiet (fail)
            go_wp2_with fail
            go_roundg (s - (j + 1))
            case measure => omega
            case rel => exact ⟨j + 1, _, by omega, by omega, rfl, by go_num, rfl, rfl, hx.out⟩
        · obtain rfl : j = s := by omega
          have hx : Hid (LTo Bk j (k + 1) (c + 1) (fun t => if t = c then k else Y t)) := HZ.out.2.2.add (fun t h1 h2 => hne t h1 h2)
          clear hne
          go_wp2_with (at_builtin; refine wpList_append_one rfl (.tmp 170) (.tmp 172) rfl bi c j f (.int .i64 (k : Int)) ⟨wr.heap.size, 0, none⟩ rfl rfl ?_ rfl (by omega) ?_ ?_)
          · exact one_new wr q _
          · exact (rowIs_drewN HZ.out.1.2.2 q).alloc _
          intro w2 HW2
          have HR : Hid (∃ (k' c' : Nat) (Y' : Nat → Nat) (f' : Nat → Value), k' ≤ j ∧ j - (k + 1) = j - k' ∧ Value.int .i64 ((k : Int) + 1) = .int .i64 (k' : Int) ∧ c' ≤ k' ∧ Value.slice (some ⟨bi, 0, none⟩) (c + 1) j = .slice (some ⟨bi, 0, none⟩) c' j ∧ WF w0 w2 n m j hb bt bp bm bc bi H P (fun i e => Ent Bk R L j (i * 1024 + e)) (Wd H M Bk j) (Tch Bk j) f' ∧ (∀ t, t < c' → f' t = .int .i64 (Y' t : Int)) ∧ LTo Bk j k' c' Y') := by
            rw [HW2.out]
            refine ⟨k + 1, c + 1, _, fun t => if t = c then .int .i64 (k : Int) else f t, by omega, rfl, by go_num, by omega, rfl, ((HZ.out.1.drewN q).alloc _).setIdx K1.out.2 _ _ (fun t _ => rfl), fun t ht => ?_, hx.out⟩
            by_cases e : t = c
            · simp [e]
            · simp only [e, if_false]; exact HZ.out.2.1 t (by omega)
          clear HW2 hx HZ
          go_wp2_with fail
          go_roundg (j - (k + 1))
          case measure => omega
          case rel => exact HR.out
    · obtain rfl : k = s := by omega
      have HZ : Hid (WF w0 wr n m k hb bt bp bm bc bi H P (fun i e => Ent Bk R L k (i * 1024 + e)) (Wd H M Bk k) (Tch Bk k) f ∧ (∀ t, t < c → f t = .int .i64 (Y t : Int)) ∧ Lasts Bk k c Y) := ⟨hwf, hfY, hLT.done⟩
      clear hwf hfY hLT
      go_wp2_with fail
      refine HK.out _ _ ?_
      obtain ⟨n1, n2, n3, n4⟩ := hN'.out
      obtain ⟨z1, z2, z3⟩ := HZ.out
      exact n1 w0 wr n m k hc mc sc hb xb xo yb yo hp mp sp H M Bk R L bt bp bm P bc bi c f Y n2 n3 z1.1 n4 z1.2.1 z1.2.2 hck z2 z3 K1.out.2
end Go.Proofs.Qxb6618452a
