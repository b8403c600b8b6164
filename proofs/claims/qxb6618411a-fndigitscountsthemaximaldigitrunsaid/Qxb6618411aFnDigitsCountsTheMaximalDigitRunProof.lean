/-
  Proof of 'Rows.FnDigitsCountsTheMaximalDigitRunSaid'. The frame (behind the walk) was written by the kit's proof-skeleton.mjs for this function.
-/
import Derived.Test.Qxb6618411aRows
import Derived.Test.Qxb6618411aDigits
import Derived.Deep.OwnRows
import Derived.WalkSpells
import Derived.WalkKit
import Derived.ProofKit
import Derived.OpenShut
import Derived.ShutString
import Derived.ChangeOld
import Derived.Below
namespace Go.Proofs.Qxb6618411a.fnDigitsCountsTheMaximalDigitRun
open Go.ChangeShapes Go.WideShapes Go.ChangeAt Go.RowKit
open Go.ChangeMaps (open_string shut_string)
set_option linter.unusedVariables false

theorem own : ownKnob Try.prog.godebug = none := by kernel_rfl
theorem laidOut : laidOutB Try.prog = true := by kernel_rfl

/-- WHAT THE WALK IS TOLD OF A SLICE OF INTEGERS THAT CAME IN: it is nil; or it leads to a row of 'cap' cells, the numbers 'zs' (the first 'len' are its elements, the rest its spare room), each fitting its kind. -/
def IsRow (k : IntKind) (w : World) (a : Option Addr) (len cap : Nat) (zs : List Int) : Prop :=
  (a = none ∧ len = 0 ∧ cap = 0 ∧ zs = []) ∨
  ∃ x, a = some x ∧ len ≤ cap ∧ cap ≤ maxLen ∧ zs.length = cap ∧ (∀ i, i < zs.length → w.cell? (x.add i) = some (.int k (zs.getD i 0))) ∧ ∀ n ∈ zs, (Lit.int k n).wf = true

/-! ### The walk -/
/-- 'copy(dst, src)', dst a row of n cells of the call's own at its head, src of n elements. -/
theorem wpList_copy_full {P : Program} {w : World} {ops : Array Oper} {rest : List Oper} {o : Oper} {a : Act} {Q : Exit → Act → World → Prop} (hgd : o.guard = none) (d s : Operand) (dT sT : TypeId)
    (ho : o.op = .call { callee := .builtin .copy, args := #[d, s], argTypes := #[dT, sT] }) (elem : TypeId) (hu : P.underlying dT = some (.slice elem)) (hsz : (P.info? elem).map (·.size) = some 1)
    (g n dCap sCap : Nat) (sp : Option Addr) (hd : a.eval d = .slice (some ⟨g, 0, none⟩) n dCap) (hs : a.eval s = .slice sp n sCap) (t : TypeId) (f S : Nat → Value)
    (hrow : w.rowIs g t n f) (hsrc : ∀ j, j < n → ∃ ad, sp = some ad ∧ w.cell? (ad.add j) = some (S j)) (h1 : ∀ j, j < n → (S j).oneCell' = true) (B : Nat) (w0 : World) (hb : Below B w0 w) (hBg : B ≤ g)
    (h : ∀ w', w'.rowIs g t n S → Below B w0 w' → wpList P ops Q rest (a.put o.dst (goInt n)) w') : wpList P ops Q (o :: rest) a w := by
  obtain ⟨c, hc, hcn, hci⟩ := hrow
  have hlen : ((List.range n).map S).length = n := by simp
  refine wpList_copy_splice hgd d s dT sT ho elem hu hsz (some ⟨g, 0, none⟩) sp n dCap n sCap hd hs g 0 c.toList t (by simpa using hc) ((List.range n).map S) (by simp) ?_ (by simp [hcn]) ?_ B w0 hb hBg ?_
  · intro hpos
    refine ⟨rfl, ?_⟩
    obtain ⟨ad, hsp, _⟩ := hsrc 0 (by simpa using hpos)
    refine ⟨ad, hsp, ?_⟩
    intro j v hj
    simp only [List.getElem?_map, Option.map_eq_some_iff] at hj
    obtain ⟨i, hi, rfl⟩ := hj
    have hjn : j < n := by
      rcases Nat.lt_or_ge j n with h' | h'
      · exact h'
      · simp [h'] at hi
    obtain ⟨ad', hsp', hcell⟩ := hsrc j hjn
    rw [hsp] at hsp'
    obtain rfl := Option.some.inj hsp'
    simp [hjn] at hi
    subst hi
    exact hcell
  · intro v hv
    simp only [List.mem_map, List.mem_range] at hv
    obtain ⟨j, hj, rfl⟩ := hv
    exact h1 j hj
  · intro w' H' hb'
    rw [hlen]
    refine h w' ⟨_, H'.out, ?_, ?_⟩ hb'
    · simp [splice, hcn]
    · intro i hi
      simp [splice, hcn, hi]

theorem bytes_any (a0 : Option Addr) (len0 cap0 : Nat) (a1 : Int) (w : World) (hl : len0 ≤ 1048576) :
    Calls Try.prog 4 #[.slice a0 len0 cap0, .int .i64 a1] w fun e w' => e = .returned (.bool true) ∧ w' = w := by
  have hl' : (len0 : Int) ≤ 1048576 := by omega
  go_enter Try.func4, Try.ntmps4
  go_wp2
  go_ret
  exact ⟨rfl, rfl⟩
theorem bytes_no (a0 : Option Addr) (len0 cap0 : Nat) (a1 : Int) (w : World) (hl : 1048576 < len0) :
    Calls Try.prog 4 #[.slice a0 len0 cap0, .int .i64 a1] w fun e w' => e = .returned (.bool false) ∧ w' = w := by
  have hl' : 1048576 < (len0 : Int) := by omega
  go_enter Try.func4, Try.ntmps4
  go_wp2
  go_ret
  exact ⟨rfl, rfl⟩

theorem cell_lt {w : World} {a : Addr} {v : Value} (h : w.cell? a = some v) : a.block < w.heap.size := by
  rcases Nat.lt_or_ge a.block w.heap.size with h' | h'
  · exact h'
  · have : w.heap[a.block]? = none := by simp [h']
    simp [World.cell?, this] at h
theorem info5 : (Try.prog.info? 5).map (fun i => (i.zero, i.size, i.bytes)) = some (some (.int .u8 0), 1, 1) := by kernel_rfl
theorem size5 : (Try.prog.info? 5).map (·.size) = some 1 := by kernel_rfl
set_option maxHeartbeats 400000 in
theorem walk (a0 : Option Addr) (len0 cap0 : Nat) (z0 : List Int) (a1 : Int) (w : World) (w0 : IsRow .u8 w a0 len0 cap0 z0) (w1 : (Lit.int .i64 a1).wf = true) :
    Calls Try.prog 3 #[.slice a0 len0 cap0, .int .i64 a1] w fun e w' => e = .returned (.bool true) ∧ Below w.heap.size w w' := by
  by_cases hl : len0 ≤ 1048576
  case neg =>
    go_enter Try.func3, Try.ntmps3
    go_wp2_with (go_at_call 4; refine (bytes_no _ _ _ _ _ (by omega)).mono ?_; rintro e w' ⟨rfl, rfl⟩)
    go_ret
    exact ⟨rfl, Below.refl _ _⟩
  have hl' : (len0 : Int) ≤ 1048576 := by omega
  by_cases hneg : a1 < 0
  · go_enter Try.func3, Try.ntmps3
    go_wp2_with (go_at_call 4; refine (bytes_any _ _ _ _ _ (by omega)).mono ?_; rintro e w' ⟨rfl, rfl⟩)
    go_ret
    exact ⟨rfl, Below.refl _ _⟩
  have hbd := bounds_i64 w1
  obtain ⟨p, rfl⟩ := Int.eq_ofNat_of_zero_le (Int.not_lt.mp hneg)
  have hp : p ≤ 9223372036854775807 := by omega
  clear hneg w1 hbd
  rcases w0 with ⟨rfl, rfl, rfl, rfl⟩ | ⟨x, rfl, hlc, hcm, hzl, hcell, hwf⟩
  · have hq := fun (w : World) => run_neq_slice_nil_any (P := Try.prog) w 22 5 none 0 0 0 0 Try.underlying22
    go_enter Try.func3, Try.ntmps3
    go_wp2_with fail
    refine (bytes_any _ _ _ _ _ (by omega)).mono ?_
    rintro e w' ⟨rfl, rfl⟩
    go_wp2_with fail
    refine (zz_any 0 0 0 p none [] _ rfl (by omega) (by omega) hp (by omega) (by omega)).mono ?_
    rintro e w1 ⟨q, hpq, hq, rfl, hb, _, _⟩
    obtain rfl : q = p := by omega
    go_wp2
    go_ret
    exact ⟨rfl, hb⟩
  · have hq := fun (w : World) => run_neq_slice_nil_any (P := Try.prog) w 22 5 (some x) len0 cap0 0 0 Try.underlying22
    have hmk := run_make_row' (P := Try.prog) 22 5 (.int .u8 0) 1 Try.underlying22 info5 rfl .i64 .i64 len0 (by omega) (by omega)
    obtain ⟨xs, hxs⟩ : ∃ xs, xs = z0.take len0 := ⟨_, rfl⟩
    have hxl : xs.length = len0 := by rw [hxs]; simp; omega
    have hpk : ∀ i, i < len0 → pk xs i = z0.getD i 0 := by
      intro i hi; rw [hxs]; simp [pk, List.getD, hi]
    have HP : Hid ((xs.length = len0) ∧ ∀ i, i < len0 → w.cell? (x.add i) = some (.int .u8 (pk xs i))) := ⟨hxl, fun i hi => by rw [hpk i hi]; exact hcell i (by omega)⟩
    clear hxs hxl hpk hcell hwf hcm hzl
    go_enter Try.func3, Try.ntmps3
    go_wp2_with fail
    refine (bytes_any _ _ _ _ _ (by omega)).mono ?_
    rintro e w' ⟨rfl, rfl⟩
    go_wp2_with (refine wpList_copy_full rfl (.tmp 23) (.tmp 24) 22 22 rfl 5 Try.underlying22 size5 w'.heap.size len0 len0 cap0 (some x) rfl rfl 5 (fun _ => .int .u8 0) (fun i => .int .u8 (pk xs i)) (World.rowIs_made _ _ _ _) ?_ ?_ w'.heap.size w' ?_ (Nat.le_refl _) ?_)
    · intro j hj
      have hc := HP.out.2 j hj
      exact ⟨x, rfl, (World.cell?_alloc_lt _ _ _ (cell_lt hc)).trans hc⟩
    · intro j hj; rfl
    · exact (Below.refl _ _).alloc (Nat.le_refl _) _
    intro w2 hrow hb2
    go_wp2_with fail
    refine (zz_any w'.heap.size len0 len0 p (some ⟨w'.heap.size, 0, none⟩) xs _ HP.out.1 (fun _ => hrow.lt) hl hp (fun _ => rfl) (fun i hi => hrow.cell hi)).mono ?_
    rintro e w3 ⟨q, hpq, hq', rfl, hb3, hall, hnd⟩
    have hc3 : Hid (∀ i, i < len0 → w3.cell? ⟨w'.heap.size, i, none⟩ = some (.int .u8 (pk xs i))) := fun i hi => (hb3.cell (by exact hrow.lt)).trans (hrow.cell hi)
    have hB : Hid (Below w'.heap.size w' w3) := hb2.trans (hb3.mono (Nat.le_of_lt hrow.lt))
    have HA : Hid ((∀ i, p ≤ i → i < q → isD (pk xs i) = true) ∧ isD (pk xs q) = false) := ⟨hall, hnd⟩
    clear hall hnd hb3 hb2 hrow hmk hq HP
    by_cases hpl : len0 ≤ p
    · obtain rfl : q = p := by omega
      have hpl' : (len0 : Int) ≤ (q : Int) := by omega
      go_wp2
      go_ret
      exact ⟨rfl, hB.out⟩
    · have hql : q ≤ len0 := by omega
      have hpl' : (p : Int) < (len0 : Int) := by omega
      have t1 : decide (len0 < q) = false := by simp; omega
      have t2 : ((q : Int) != (p : Int) + ((q : Int) - (p : Int))) = false := by simp; omega
      clear hpl hq'
      go_wp2_with fail
      go_loopg [8] (q - p) (fun gk c wr => ∃ j : Nat, p ≤ j ∧ j ≤ q ∧ gk = q - j ∧ c = .int .i64 (j : Int) ∧ wr = w3)
      case atStart => exact ⟨p, Nat.le_refl _, hpq, rfl, rfl, rfl⟩
      case round =>
        obtain ⟨j, hpj, hjq, rfl, rfl, rfl⟩ := hrel
        by_cases hlt : j < q
        · have hc := hc3.out j (by omega)
          have hdj : isD (pk xs j) = true := HA.out.1 j hpj hlt
          have hlt' : (j : Int) < (q : Int) := by omega
          go_wp2_with (go_at_call 6; refine (digit_any _ _).mono ?_; rintro e w'' ⟨rfl, rfl⟩)
          go_roundg (q - (j + 1))
          case measure => omega
          case rel => exact ⟨j + 1, by omega, by omega, rfl, by go_num, rfl⟩
        · obtain rfl : j = q := by omega
          clear hlt
          by_cases hlt : j < len0
          · have hc := hc3.out j (by omega)
            have hdj : isD (pk xs j) = false := HA.out.2
            have hlt' : (j : Int) < (len0 : Int) := by omega
            go_wp2_with (go_at_call 6; refine (digit_any _ _).mono ?_; rintro e w'' ⟨rfl, rfl⟩)
            go_ret
            exact ⟨rfl, hB.out⟩
          · have hlt' : (len0 : Int) ≤ (j : Int) := by omega
            go_wp2_with (go_at_call 6; refine (digit_any _ _).mono ?_; rintro e w'' ⟨rfl, rfl⟩)
            go_ret
            exact ⟨rfl, hB.out⟩

/-! ### THE ROW's STEP: WRITTEN OUT: LEAVE IT -/
set_option maxRecDepth 100000 in
theorem lifted (os : Os) (started : os.Started) (H : Type) (enc : TypeId × Value → H) :
    ReturnsInHanded {} Try.checked os 3 .any (Rows.fnDigitsCountsTheMaximalDigitRunSpec.pre6 enc Try.prog Try.f3 Rows.fnDigitsCountsTheMaximalDigitRunRow.domain false) (Rows.fnDigitsCountsTheMaximalDigitRunSpec.post enc Try.prog Try.f3 false true false false) := by
  refine returnsInHanded_of_change (C := Try.checked) own started (by kernel_rfl) Try.func3
    (ChangeSpec.witness6 (enc := enc) (C := Try.checked) false ⟨#[], #[.slice none 0 0, .int .i64 0], []⟩ 8 (by kernel_rfl) (by kernel_rfl) (by kernel_rfl) (by kernel_rfl)) ?_
  intro W base args ds gs before hval0 hW hcnd _
  have hval : ∀ (j : Nat) t v, Try.f3.params[j]? = some t → args[j]? = some v → Value.okWide Try.prog W .any base t v := hval0
  have hW' := hW
  obtain ⟨p, q, hA0, hV, rfl, hfz, hnd⟩ := hW
  have hA : DataW.TrodAll enc Try.prog W 0 (fun _ => true) true Try.f3.params.toList args.toList ds p := hA0
  rw [Try.params3] at hA hval
  obtain ⟨v0, vs0, d0, ds0, p0, q0, hargs, rfl, rfl, h0, r0⟩ := trodAll_cons hA
  obtain ⟨v1, vs1, d1, ds1, p1, q1, rfl, rfl, rfl, h1, r1⟩ := trodAll_cons r0
  obtain ⟨rfl, rfl, rfl⟩ := trodAll_nil r1
  obtain rfl : args = #[v0, v1] := by cases args; simp_all
  obtain ⟨rfl, rfl⟩ := trodVars_none hV
  obtain ⟨a0, len0, cap0, rfl⟩ := okWide_slice Try.underlying22 (hval 0 22 v0 rfl rfl)
  have k0 := h0
  have lt0 : ∀ x ∈ p0, x.block < W.heap.size := by obtain ⟨m, hm⟩ := k0; exact DataW.trod_lt m _ _ _ hm
  obtain ⟨z0, w0⟩ : ∃ zs, IsRow .u8 W a0 len0 cap0 zs := by
    obtain ⟨fuel, hf⟩ := h0
    rcases open_ints Try.underlying22 Try.underlying5 (by kernel_rfl) hf with ⟨hcs, _⟩ | ⟨x, l, c, zs, hcs, _, hl, hm, hz, _, hcell, hwz⟩
    · simp [Value.cells] at hcs
      obtain ⟨rfl, rfl, rfl⟩ := hcs
      exact ⟨[], .inl ⟨rfl, rfl, rfl, rfl⟩⟩
    · simp [Value.cells] at hcs
      obtain ⟨rfl, rfl, rfl⟩ := hcs
      exact ⟨zs, .inr ⟨_, rfl, hl, hm, by simpa using hz, hcell, hwz⟩⟩
  obtain ⟨a1, rfl, rfl, rfl, w1⟩ := open_int Try.underlying3 (hval 1 3 v1 rfl rfl) h1
  clear hA0 hval0
  refine (walk a0 len0 cap0 z0 a1 W w0 w1).mono fun e W' ⟨he, bel⟩ => ?_
  subst he
  exact ⟨_, rfl, _, _, _, [], _, [], hW', trodAll_mk1 (shut_bool Try.underlying4 _), (trodAll_cons_mk (Below.trod laidOut (by kernel_rfl) (of_decide_eq_true (by kernel_rfl)) k0 bel lt0) (trodAll_cons_mk (shut_int Try.underlying3 w1) trodAll_mk0)), rfl, bel.frame _, fun h => by cases h⟩

theorem over : Rows.fnDigitsCountsTheMaximalDigitRunRow.holds Try.pinned (OpenSpec.ofChange Rows.fnDigitsCountsTheMaximalDigitRunSpec) :=
  OpenClaim.holds_of_wide 3 Try.f3 rfl rfl rfl rfl rfl rfl rfl ⟨rfl, rfl, rfl, rfl, rfl⟩ rfl rfl rfl rfl rfl (by kernel_rfl) Try.func3 (by kernel_rfl)
    (of_decide_eq_true (by kernel_rfl)) (by unfold Func.isWrapper; first | (rw [if_pos (by decide +kernel)]; kernel_rfl) | (rw [if_neg (by decide +kernel)]; exact ⟨rfl, rfl⟩))
    (fun os started H enc _ => lifted os started H enc)

/-- ████ THE STATEMENT ████ -/
theorem proved : Rows.FnDigitsCountsTheMaximalDigitRunSaid := over
#print axioms proved
end Go.Proofs.Qxb6618411a.fnDigitsCountsTheMaximalDigitRun
