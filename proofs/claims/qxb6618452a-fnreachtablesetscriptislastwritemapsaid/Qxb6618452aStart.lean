/-
  The law's first tests and the copy of 'have'; and the whole walk.
-/
import Derived.Test.Qxb6618452aSegs
namespace Go.Proofs.Qxb6618452a
open Go.ChangeShapes Go.WideShapes Go.ChangeAt Go.RowKit
set_option maxRecDepth 1000000
set_option linter.unusedVariables false

theorem bytes_any (a0 a1 a2 : Option Addr) (n c0 m c1 s c2 : Nat) (w : World) :
    Calls Try.prog 4 #[.slice a0 n c0, .slice a1 m c1, .slice a2 s c2] w fun e w' => ∃ b, e = .returned (.bool b) ∧ w' = w := by
  go_enter Try.func4, Try.ntmps4
  go_wp2
  all_goals go_ret
  all_goals exact ⟨_, rfl, rfl⟩
/-- 'copy(dst, src)', dst a row of n cells of the call's own at its head, src of n elements. -/
theorem wpList_copy_full {P : Program} {w : World} {ops : Array Oper} {rest : List Oper} {o : Oper} {a : Act} {Q : Exit → Act → World → Prop} (hgd : o.guard = none) (d s : Operand) (dT sT : TypeId)
    (ho : o.op = .call { callee := .builtin .copy, args := #[d, s], argTypes := #[dT, sT] }) (elem : TypeId) (hu : P.underlying dT = some (.slice elem)) (hsz : (P.info? elem).map (·.size) = some 1)
    (g n dCap sCap : Nat) (sp : Option Addr) (hd : a.eval d = .slice (some ⟨g, 0, none⟩) n dCap) (hs : a.eval s = .slice sp n sCap) (t : TypeId) (f S : Nat → Value)
    (hrow : w.rowIs g t n f) (hsrc : ∀ j, j < n → ∃ ad, sp = some ad ∧ w.cell? (ad.add j) = some (S j)) (h1 : ∀ j, j < n → (S j).oneCell' = true) (B : Nat) (w0 : World) (hb : Below B w0 w) (hBg : B ≤ g)
    (h : ∀ w', w'.rowIs g t n S → Below B w0 w' → wpList P ops Q rest (a.put o.dst (goInt n)) w') : wpList P ops Q (o :: rest) a w := by
  obtain ⟨c, hc, hcn, hci⟩ := hrow
  have hlen : ((List.range n).map S).length = n := by simp
  refine wpList_copy_splice hgd d s dT sT ho elem hu hsz (some ⟨g, 0, none⟩) sp n dCap n sCap hd hs g 0 c.toList t (by simpa using hc) ((List.range n).map S) (by simp) ?_ (by simp [hcn]) ?_ B w0 hb hBg ?_
  · intro hpos
    refine ⟨rfl, ?_⟩
    obtain ⟨ad, hsp, _⟩ := hsrc 0 (by simpa using hpos)
    refine ⟨ad, hsp, ?_⟩
    intro j v hj
    simp only [List.getElem?_map, Option.map_eq_some_iff] at hj
    obtain ⟨i, hi, rfl⟩ := hj
    have hjn : j < n := by
      rcases Nat.lt_or_ge j n with h' | h'
      · exact h'
      · simp [h'] at hi
    obtain ⟨ad', hsp', hcell⟩ := hsrc j hjn
    rw [hsp] at hsp'
    obtain rfl := Option.some.inj hsp'
    simp [hjn] at hi
    subst hi
    exact hcell
  · intro v hv
    simp only [List.mem_map, List.mem_range] at hv
    obtain ⟨j, hj, rfl⟩ := hv
    exact h1 j hj
  · intro w' H' hb'
    rw [hlen]
    refine h w' ⟨_, H'.out, ?_, ?_⟩ hb'
    · simp [splice, hcn]
    · intro i hi
      simp [splice, hcn, hi]


theorem info4s : (Try.prog.info? 4).map (fun i => (i.zero, i.size, i.bytes)) = some (some (.bool false), 1, 1) := by kernel_rfl
theorem size4 : (Try.prog.info? 4).map (·.size) = some 1 := by kernel_rfl

set_option maxHeartbeats 2000000 in
theorem start (hN : Goal1) (a0 mp sp : Option Addr) (n c0 m mc s sc xb xo yb yo : Nat) (H : Nat → Bool) (M : Nat → Int) (Bk : Nat → Nat) (R L : Nat → Int) (w : World)
    (h0 : (a0 = none ∧ n = 0) ∨ ∃ x, a0 = some x ∧ ∀ i, i < n → w.cell? (x.add i) = some (.bool (H i)))
    (hmp : 0 < m → mp = some ⟨xb, xo, none⟩) (hM : ∀ i, i < m → w.cell? ⟨xb, xo + i, none⟩ = some (.int .u64 (M i))) (hMb : ∀ i, i < m → 0 ≤ M i ∧ M i < 18446744073709551616)
    (hsp : 0 < s → sp = some ⟨yb, yo, none⟩) (hB : ∀ i, i < s → w.cell? ⟨yb, yo + i * 3, none⟩ = some (.int .u64 (Bk i : Int))) (hR : ∀ i, i < s → w.cell? ⟨yb, yo + i * 3 + 1, none⟩ = some (.int .u32 (R i))) (hL : ∀ i, i < s → w.cell? ⟨yb, yo + i * 3 + 2, none⟩ = some (.int .i8 (L i))) :
    Calls Try.prog 3 #[.slice a0 n c0, .slice mp m mc, .slice sp s sc] w fun e w' => e = .returned (.bool true) ∧ Below w.heap.size w w' := by
  have KE : Hid (Goal1 ∧ (n ≤ 4096 → m ≤ 65536 → s ≤ 4096 → n ≤ 64 * m → ∀ hb hp, (0 < n → hp = some ⟨hb, 0, none⟩) → Env w n m s hb xb xo yb yo hp mp sp H M Bk R L)) :=
    ⟨hN, fun h1 h2 h3 h4 hb hp h5 => ⟨h1, h2, h3, h4, h5, hmp, hsp, hM, hMb, hB, hR, hL⟩⟩
  clear hN hmp hM hMb hsp hB hR hL
  go_enter Try.func3, Try.ntmps3
  conv => arg 2; whnf
  refine wp_seq_hid fun K HK => ?_
  go_wp2_with fail
  refine HK.out _ _ ?_
  clear HK K
  refine wp_seq_hid fun K HK => ?_
  go_wp2_with fail
  refine (bytes_any _ _ _ _ _ _ _ _ _ _).mono ?_
  rintro e w' ⟨b, rfl, rfl⟩
  cases b
  · go_wp2_with fail
    go_ret
    exact ⟨rfl, Below.refl _ _⟩
  go_wp2_with fail
  refine HK.out _ _ ?_
  clear HK
  refine wp_seq_hid fun K2 HK => ?_
  by_cases h1 : 4096 < n
  · have h1' : (4096 : Int) < (n : Int) := by omega
    go_wp2_with fail
    go_ret
    exact ⟨rfl, Below.refl _ _⟩
  have h1' : (n : Int) ≤ 4096 := by omega
  go_wp2_with fail
  refine HK.out _ _ ?_
  clear HK
  refine wp_seq_hid fun K3 HK => ?_
  by_cases h2 : 65536 < m
  · have h2' : (65536 : Int) < (m : Int) := by omega
    go_wp2_with fail
    go_ret
    exact ⟨rfl, Below.refl _ _⟩
  have h2' : (m : Int) ≤ 65536 := by omega
  go_wp2_with fail
  refine HK.out _ _ ?_
  clear HK
  refine wp_seq_hid fun K4 HK => ?_
  by_cases h3 : 4096 < s
  · have h3' : (4096 : Int) < (s : Int) := by omega
    go_wp2_with fail
    go_ret
    exact ⟨rfl, Below.refl _ _⟩
  have h3' : (s : Int) ≤ 4096 := by omega
  go_wp2_with fail
  refine HK.out _ _ ?_
  clear HK
  refine wp_seq_hid fun K5 HK => ?_
  by_cases h4 : m < (n + 63) / 64
  · have h4' : (m : Int) < ((n : Int) + 63) / 64 := by omega
    go_wp2_with fail
    go_ret
    exact ⟨rfl, Below.refl _ _⟩
  have h4' : ((n : Int) + 63) / 64 ≤ (m : Int) := by omega
  go_wp2_with fail
  refine HK.out _ _ ?_
  clear HK
  have KF := KE.out.2 (by omega) (by omega) (by omega) (by omega)
  have KG : Hid _ := KF
  clear KF
  refine wp_seq_hid fun K6 HK => ?_
  rcases h0 with ⟨rfl, rfl⟩ | ⟨x, rfl, hx⟩
  · have hq := fun (w : World) => run_neq_slice_nil_any (P := Try.prog) w 22 4 none 0 c0 0 0 Try.underlying22
    go_wp2_with fail
    refine HK.out _ _ ?_
    exact KE.out.1 _ _ 0 m s c0 mc sc 0 xb xo yb yo none mp sp H M Bk R L (KG.out 0 none (fun h => by omega)) (.inl rfl) (Below.refl _ _)
  · have hq := fun (w : World) => run_neq_slice_nil_any (P := Try.prog) w 22 4 (some x) n c0 0 0 Try.underlying22
    have hmk := run_make_row' (P := Try.prog) 22 4 (.bool false) 1 Try.underlying22 info4s rfl .i64 .i64 n (by omega) (by omega)
    have HX : Hid (∀ i, i < n → w'.cell? (x.add i) = some (.bool (H i))) := hx
    clear hx
    go_wp2_with (refine wpList_copy_full rfl (.tmp 62) (.tmp 63) 22 22 rfl 4 Try.underlying22 size4 w'.heap.size n n c0 (some x) rfl rfl 4 (fun _ => .bool false) (fun i => .bool (H i)) (World.rowIs_made _ _ _ _) ?_ ?_ w'.heap.size w' ?_ (Nat.le_refl _) ?_)
    · intro j hj
      have hc := HX.out j hj
      exact ⟨x, rfl, (World.cell?_alloc_lt _ _ _ (cell_lt hc)).trans hc⟩
    · intro j hj; rfl
    · exact (Below.refl _ _).alloc (Nat.le_refl _) _
    intro w2 hrow hb2
    have HW : Hid (w2.rowIs w'.heap.size 4 n (fun i => .bool (H i)) ∧ Below w'.heap.size w' w2) := ⟨hrow, hb2⟩
    clear hrow hb2 hmk hq
    go_wp2_with fail
    refine HK.out _ _ ?_
    exact KE.out.1 w' w2 n m s n mc sc w'.heap.size xb xo yb yo (some ⟨w'.heap.size, 0, none⟩) mp sp H M Bk R L (KG.out _ _ (fun _ => rfl)) (.inr HW.out.1) HW.out.2
end Go.Proofs.Qxb6618452a
