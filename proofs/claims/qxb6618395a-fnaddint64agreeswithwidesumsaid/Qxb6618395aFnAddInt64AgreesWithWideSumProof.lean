/-
  Proof of 'Rows.FnAddInt64AgreesWithWideSumSaid'. The frame (behind the walk) was written by the kit's proof-skeleton.mjs for this function.
-/
import Derived.Test.Qxb6618395aRows
import Derived.Test.Qxb6618395aAdd
import Derived.WalkKit
import Derived.ProofKit
import Derived.OpenShut
import Derived.ShutString
namespace Go.Proofs.Qxb6618395a.fnAddInt64AgreesWithWideSum
open Go.ChangeShapes Go.WideShapes Go.ChangeAt Go.RowKit
open Go.ChangeMaps (open_string shut_string)
set_option linter.unusedVariables false      -- a walk need not use every 'w<i>' (that an integer argument fits its kind)

theorem own : ownKnob Try.prog.godebug = none := by kernel_rfl

/-! ### The plain law, the wide sum, the walk -/
theorem uw (a : Int) : IntKind.u64.wrap a = a % 18446744073709551616 := by
  simp [IntKind.wrap, IntKind.signed, IntKind.bits]
theorem ret2 {a a' : Int} {b b' : Bool} (h : a = a') (k : b = b') : Ending.returned (.tuple #[.int .i64 a, .bool b]) = .returned (.tuple #[.int .i64 a', .bool b']) := by
  rw [h, k]
theorem lo_eq (a b : Int) : wrap64 (IntKind.u64.wrap (IntKind.u64.wrap a + IntKind.u64.wrap b)) = wrap64 (a + b) := by
  simp only [uw]; unfold wrap64; omega
theorem hi1 {a b : Int} (A : -9223372036854775808 ≤ a ∧ a ≤ 9223372036854775807) (B : -9223372036854775808 ≤ b ∧ b ≤ 9223372036854775807)
    (h : IntKind.u64.wrap (IntKind.u64.wrap a + IntKind.u64.wrap b) < IntKind.u64.wrap a) :
    (wrap64 (wrap64 (a / 9223372036854775808 + b / 9223372036854775808) + 1) == wrap64 (IntKind.u64.wrap (IntKind.u64.wrap a + IntKind.u64.wrap b)) / 9223372036854775808) = okB a b := by
  rw [lo_eq, okB_eq A B]; simp only [uw] at h
  rw [Bool.eq_iff_iff]
  simp only [beq_iff_eq, decide_eq_true_eq]
  unfold wrap64; omega
theorem hi0 {a b : Int} (A : -9223372036854775808 ≤ a ∧ a ≤ 9223372036854775807) (B : -9223372036854775808 ≤ b ∧ b ≤ 9223372036854775807)
    (h : IntKind.u64.wrap a ≤ IntKind.u64.wrap (IntKind.u64.wrap a + IntKind.u64.wrap b)) :
    (wrap64 (wrap64 (a / 9223372036854775808 + b / 9223372036854775808)) == wrap64 (IntKind.u64.wrap (IntKind.u64.wrap a + IntKind.u64.wrap b)) / 9223372036854775808) = okB a b := by
  rw [lo_eq, okB_eq A B]; simp only [uw] at h
  rw [Bool.eq_iff_iff]
  simp only [beq_iff_eq, decide_eq_true_eq]
  unfold wrap64; omega
theorem wide_any (a b : Int) (w0 : (Lit.int .i64 a).wf = true) (w1 : (Lit.int .i64 b).wf = true) (w : World) :
    Calls Try.prog 6 #[.int .i64 a, .int .i64 b] w fun e w' => e = .returned (.tuple #[.int .i64 (wrap64 (a + b)), .bool (okB a b)]) ∧ w' = w := by
  go_enter Try.func6, Try.ntmps6
  go_wp2
  all_goals go_ret2
  · exact ⟨ret2 (lo_eq a b) (hi1 (bd w0) (bd w1) ‹_›), rfl⟩
  · exact ⟨ret2 (lo_eq a b) (hi0 (bd w0) (bd w1) ‹_›), rfl⟩
theorem walk (a0 : Int) (a1 : Int) (w0 : (Lit.int .i64 a0).wf = true) (w1 : (Lit.int .i64 a1).wf = true) (w : World) :
    Calls Try.prog 3 #[.int .i64 a0, .int .i64 a1] w fun e w' => e = .returned (.bool true) ∧ Grown w w' := by
  have e1 : wrap64 (a1 + a0) = wrap64 (a0 + a1) := by rw [Int.add_comm]
  have e2 : okB a1 a0 = okB a0 a1 := by rw [okB_eq (bd w1) (bd w0), okB_eq (bd w0) (bd w1), Int.add_comm]
  go_enter Try.func3, Try.ntmps3
  go_wp2_with (first
    | (go_at_call 5; refine (zz_any _ _ _).mono ?_; rintro e w' ⟨rfl, rfl⟩)
    | (go_at_call 6; refine (wide_any _ _ w0 w1 _).mono ?_; rintro e w' ⟨rfl, rfl⟩))
  go_ret
  exact ⟨rfl, Grown.refl _⟩

/-! ### THE ROW's STEP: WRITTEN OUT: LEAVE IT -/
set_option maxRecDepth 100000 in
theorem lifted (os : Os) (started : os.Started) (H : Type) (enc : TypeId × Value → H) :
    ReturnsInHanded {} Try.checked os 3 .any (Rows.fnAddInt64AgreesWithWideSumSpec.pre6 enc Try.prog Try.f3 Rows.fnAddInt64AgreesWithWideSumRow.domain false) (Rows.fnAddInt64AgreesWithWideSumSpec.post enc Try.prog Try.f3 false true false false) := by
  refine returnsInHanded_of_change (C := Try.checked) own started (by kernel_rfl) Try.func3
    (ChangeSpec.witness6 (enc := enc) (C := Try.checked) false ⟨#[], #[.int .i64 0, .int .i64 0], []⟩ 8 (by kernel_rfl) (by kernel_rfl) (by kernel_rfl) (by kernel_rfl)) ?_
  intro W base args ds gs before hval0 hW hcnd _
  have hval : ∀ (j : Nat) t v, Try.f3.params[j]? = some t → args[j]? = some v → Value.okWide Try.prog W .any base t v := hval0
  have hW' := hW
  obtain ⟨p, q, hA0, hV, rfl, hfz, hnd⟩ := hW
  have hA : DataW.TrodAll enc Try.prog W 0 (fun _ => true) true Try.f3.params.toList args.toList ds p := hA0
  rw [Try.params3] at hA hval
  obtain ⟨v0, vs0, d0, ds0, p0, q0, hargs, rfl, rfl, h0, r0⟩ := trodAll_cons hA
  obtain ⟨v1, vs1, d1, ds1, p1, q1, rfl, rfl, rfl, h1, r1⟩ := trodAll_cons r0
  obtain ⟨rfl, rfl, rfl⟩ := trodAll_nil r1
  obtain rfl : args = #[v0, v1] := by cases args; simp_all
  obtain ⟨rfl, rfl⟩ := trodVars_none hV
  obtain ⟨a0, rfl, rfl, rfl, w0⟩ := open_int Try.underlying2 (hval 0 2 v0 rfl rfl) h0
  obtain ⟨a1, rfl, rfl, rfl, w1⟩ := open_int Try.underlying2 (hval 1 2 v1 rfl rfl) h1
  clear hA0 hval0
  simp only [List.append_nil] at hW'
  refine (walk a0 a1 w0 w1 W).mono fun e W' ⟨he, hg⟩ => ?_
  subst he
  exact ⟨_, rfl, post_of_same (pa := []) (pv := []) hW' (fun _ _ _ => (trodAll_cons_mk (shut_bool Try.underlying4 _) trodAll_mk0)) (fun sp _ => (trodAll_cons_mk (shut_int Try.underlying2 w0) (trodAll_cons_mk (shut_int Try.underlying2 w1) trodAll_mk0))) (fun _ _ => rfl) rfl
    (hg.frame _) hg.2.1 (ok_one (by kernel_rfl) rfl (okWide_bool_mk Try.underlying4 _))⟩

theorem over : Rows.fnAddInt64AgreesWithWideSumRow.holds Try.pinned (OpenSpec.ofChange Rows.fnAddInt64AgreesWithWideSumSpec) :=
  OpenClaim.holds_of_wide 3 Try.f3 rfl rfl rfl rfl rfl rfl rfl ⟨rfl, rfl, rfl, rfl, rfl⟩ rfl rfl rfl rfl rfl (by kernel_rfl) Try.func3 (by kernel_rfl)
    (of_decide_eq_true (by kernel_rfl)) (by unfold Func.isWrapper; first | (rw [if_pos (by decide +kernel)]; kernel_rfl) | (rw [if_neg (by decide +kernel)]; exact ⟨rfl, rfl⟩))
    (fun os started H enc _ => lifted os started H enc)

/-- ████ THE STATEMENT ████ -/
theorem proved : Rows.FnAddInt64AgreesWithWideSumSaid :=
  over
#print axioms proved
end Go.Proofs.Qxb6618395a.fnAddInt64AgreesWithWideSum
