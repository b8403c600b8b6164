/-
  Proof of 'Rows.FnAddInt64UndoneByNegationSaid'. The frame (behind the walk) was written by the kit's proof-skeleton.mjs for this function.
-/
import Derived.Test.Qxb6618395aRows
import Derived.Test.Qxb6618395aAdd
import Derived.WalkKit
import Derived.ProofKit
import Derived.OpenShut
import Derived.ShutString
namespace Go.Proofs.Qxb6618395a.fnAddInt64UndoneByNegation
open Go.ChangeShapes Go.WideShapes Go.ChangeAt Go.RowKit
open Go.ChangeMaps (open_string shut_string)
set_option linter.unusedVariables false      -- a walk need not use every 'w<i>' (that an integer argument fits its kind)

theorem own : ownKnob Try.prog.godebug = none := by kernel_rfl

/-! ### The plain law -/
theorem back {a b : Int} (A : -9223372036854775808 ≤ a ∧ a ≤ 9223372036854775807) : wrap64 (wrap64 (a + b) + wrap64 (-b)) = a := by
  unfold wrap64; omega
theorem pos1 {a b : Int} (A : -9223372036854775808 ≤ a ∧ a ≤ 9223372036854775807) (B : -9223372036854775808 ≤ b ∧ b ≤ 9223372036854775807) (c : 0 < b) :
    okB a b = decide (a ≤ wrap64 (9223372036854775807 - b)) := by
  rw [okB_eq A B]; unfold wrap64
  rw [decide_eq_decide]; omega
theorem neg1 {a b : Int} (A : -9223372036854775808 ≤ a ∧ a ≤ 9223372036854775807) (B : -9223372036854775808 ≤ b ∧ b ≤ 9223372036854775807) (c : b ≤ 0) :
    okB a b = decide (wrap64 (-9223372036854775808 - b) ≤ a) := by
  rw [okB_eq A B]; unfold wrap64
  rw [decide_eq_decide]; omega
theorem ok2 {a b : Int} (A : -9223372036854775808 ≤ a ∧ a ≤ 9223372036854775807) (B : -9223372036854775808 < b ∧ b ≤ 9223372036854775807) :
    okB (wrap64 (a + b)) (wrap64 (-b)) = okB a b := by
  rw [okB_eq (wb _) (wb _), okB_eq A (by omega), decide_eq_decide]
  unfold wrap64; omega
theorem ok2m {a b : Int} (A : -9223372036854775808 ≤ a ∧ a ≤ 9223372036854775807) (B : b = -9223372036854775808) :
    okB (wrap64 (a + b)) (wrap64 (-b)) = !okB a b := by
  rw [okB_eq (wb _) (wb _), okB_eq A (by omega), Bool.eq_iff_iff]
  simp only [decide_eq_true_eq, Bool.not_eq_true', decide_eq_false_iff_not]
  unfold wrap64; omega

/-! ### The walk -/
theorem walk (a0 : Int) (a1 : Int) (w0 : (Lit.int .i64 a0).wf = true) (w1 : (Lit.int .i64 a1).wf = true) (w : World) :
    Calls Try.prog 4 #[.int .i64 a0, .int .i64 a1] w fun e w' => e = .returned (.bool true) ∧ Grown w w' := by
  by_cases c : 0 < a1
  · go_enter Try.func4, Try.ntmps4
    go_wp2_with (go_at_call 5; refine (zz_any _ _ _).mono ?_; rintro e w' ⟨rfl, rfl⟩)
    all_goals first
      | exact absurd (pos1 (bd w0) (bd w1) c) ‹_›
      | exact absurd (back (bd w0)) ‹_›
      | skip
    go_ret
    refine ⟨?_, Grown.refl _⟩
    rw [ok2 (bd w0) (by have := bd w1; omega), pos1 (bd w0) (bd w1) c]; simp
  · by_cases c2 : a1 = -9223372036854775808
    · have c3 : (a1 == -9223372036854775808) = true := by simp [c2]
      have C2 : Hid (a1 = -9223372036854775808) := c2
      have C : Hid (a1 ≤ 0) := Int.not_lt.mp c
      clear c2
      go_enter Try.func4, Try.ntmps4
      go_wp2_with (go_at_call 5; refine (zz_any _ _ _).mono ?_; rintro e w' ⟨rfl, rfl⟩)
      all_goals first
        | exact absurd (neg1 (bd w0) (bd w1) C.out) ‹_›
        | exact absurd (back (bd w0)) ‹_›
        | skip
      go_ret
      refine ⟨?_, Grown.refl _⟩
      rw [ok2m (bd w0) C2.out, neg1 (bd w0) (bd w1) C.out]; simp
    · have c3 : (a1 == -9223372036854775808) = false := by simp [c2]
      have C2 : Hid (¬ a1 = -9223372036854775808) := c2
      have C : Hid (a1 ≤ 0) := Int.not_lt.mp c
      clear c2
      go_enter Try.func4, Try.ntmps4
      go_wp2_with (go_at_call 5; refine (zz_any _ _ _).mono ?_; rintro e w' ⟨rfl, rfl⟩)
      all_goals first
        | exact absurd (neg1 (bd w0) (bd w1) C.out) ‹_›
        | exact absurd (back (bd w0)) ‹_›
        | skip
      go_ret
      refine ⟨?_, Grown.refl _⟩
      rw [ok2 (bd w0) (by have := bd w1; have := C2.out; omega), neg1 (bd w0) (bd w1) C.out]; simp

/-! ### THE ROW's STEP: WRITTEN OUT: LEAVE IT -/
set_option maxRecDepth 100000 in
theorem lifted (os : Os) (started : os.Started) (H : Type) (enc : TypeId × Value → H) :
    ReturnsInHanded {} Try.checked os 4 .any (Rows.fnAddInt64UndoneByNegationSpec.pre6 enc Try.prog Try.f4 Rows.fnAddInt64UndoneByNegationRow.domain false) (Rows.fnAddInt64UndoneByNegationSpec.post enc Try.prog Try.f4 false true false false) := by
  refine returnsInHanded_of_change (C := Try.checked) own started (by kernel_rfl) Try.func4
    (ChangeSpec.witness6 (enc := enc) (C := Try.checked) false ⟨#[], #[.int .i64 0, .int .i64 0], []⟩ 8 (by kernel_rfl) (by kernel_rfl) (by kernel_rfl) (by kernel_rfl)) ?_
  intro W base args ds gs before hval0 hW hcnd _
  have hval : ∀ (j : Nat) t v, Try.f4.params[j]? = some t → args[j]? = some v → Value.okWide Try.prog W .any base t v := hval0
  have hW' := hW
  obtain ⟨p, q, hA0, hV, rfl, hfz, hnd⟩ := hW
  have hA : DataW.TrodAll enc Try.prog W 0 (fun _ => true) true Try.f4.params.toList args.toList ds p := hA0
  rw [Try.params4] at hA hval
  obtain ⟨v0, vs0, d0, ds0, p0, q0, hargs, rfl, rfl, h0, r0⟩ := trodAll_cons hA
  obtain ⟨v1, vs1, d1, ds1, p1, q1, rfl, rfl, rfl, h1, r1⟩ := trodAll_cons r0
  obtain ⟨rfl, rfl, rfl⟩ := trodAll_nil r1
  obtain rfl : args = #[v0, v1] := by cases args; simp_all
  obtain ⟨rfl, rfl⟩ := trodVars_none hV
  obtain ⟨a0, rfl, rfl, rfl, w0⟩ := open_int Try.underlying2 (hval 0 2 v0 rfl rfl) h0
  obtain ⟨a1, rfl, rfl, rfl, w1⟩ := open_int Try.underlying2 (hval 1 2 v1 rfl rfl) h1
  clear hA0 hval0
  simp only [List.append_nil] at hW'
  refine (walk a0 a1 w0 w1 W).mono fun e W' ⟨he, hg⟩ => ?_
  subst he
  exact ⟨_, rfl, post_of_same (pa := []) (pv := []) hW' (fun _ _ _ => (trodAll_cons_mk (shut_bool Try.underlying4 _) trodAll_mk0)) (fun sp _ => (trodAll_cons_mk (shut_int Try.underlying2 w0) (trodAll_cons_mk (shut_int Try.underlying2 w1) trodAll_mk0))) (fun _ _ => rfl) rfl
    (hg.frame _) hg.2.1 (ok_one (by kernel_rfl) rfl (okWide_bool_mk Try.underlying4 _))⟩

theorem over : Rows.fnAddInt64UndoneByNegationRow.holds Try.pinned (OpenSpec.ofChange Rows.fnAddInt64UndoneByNegationSpec) :=
  OpenClaim.holds_of_wide 4 Try.f4 rfl rfl rfl rfl rfl rfl rfl ⟨rfl, rfl, rfl, rfl, rfl⟩ rfl rfl rfl rfl rfl (by kernel_rfl) Try.func4 (by kernel_rfl)
    (of_decide_eq_true (by kernel_rfl)) (by unfold Func.isWrapper; first | (rw [if_pos (by decide +kernel)]; kernel_rfl) | (rw [if_neg (by decide +kernel)]; exact ⟨rfl, rfl⟩))
    (fun os started H enc _ => lifted os started H enc)

/-- ████ THE STATEMENT ████ -/
theorem proved : Rows.FnAddInt64UndoneByNegationSaid :=
  over
#print axioms proved
end Go.Proofs.Qxb6618395a.fnAddInt64UndoneByNegation
