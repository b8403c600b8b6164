/-
  Proof of 'Rows.FnDefaultCountEachBlockHoldsFortyNineSaid'. The frame (behind the walk) was written by the kit's proof-skeleton.mjs for this function.
-/
import Derived.Test.Qxb6618448aRows
import Derived.Test.Qxb6618448aCount
import Derived.WalkKit
import Derived.ProofKit
import Derived.OpenShut
import Derived.ShutString
namespace Go.Proofs.Qxb6618448a.fnDefaultCountEachBlockHoldsFortyNine
open Go.ChangeShapes Go.WideShapes Go.ChangeAt Go.RowKit
open Go.ChangeMaps (open_string shut_string)
set_option linter.unusedVariables false      -- a walk need not use every 'w<i>' (that an integer argument fits its kind)

theorem own : ownKnob Try.prog.godebug = none := by kernel_rfl

/-! ### The plain law and the walk -/
def Sv (u : Int) : Int := if u = 0 then 0 else 1
def Pv (u : Int) : Int := if u = 0 then 0 else dm (u - 1)

theorem dc_blk (k s u : Int) (h0 : 0 ≤ k) (h1 : k < s) (h2 : 0 ≤ u) (h3 : u < 29) : dc (3000 + 29 * k + u) s = dm u := by
  have e : (3000 + 29 * k + u - 3000) % 29 = u := by omega
  unfold dc
  rw [if_neg (by omega), if_neg (by omega), e]
theorem dc_one (u : Int) (h2 : 0 ≤ u) (h3 : u < 29) : dc (3000 + u) 1 = dm u := by
  have := dc_blk 0 1 u (by omega) (by omega) h2 h3
  simpa using this

theorem step (u : Int) (h0 : 1 ≤ u) (h1 : u < 29) :
    1 ≤ dm u ∧ dm u ≤ 2 ∧ dm u ≤ Pv u ∧ 0 ≤ Sm u ∧ Sm u ≤ 49 ∧ Sm (u + 1) = Sm u + dm u ∧ Sv (u + 1) = 1 ∧ Pv (u + 1) = dm u ∧ Sv u = 1 := by
  have e : u + 1 - 1 = u := by omega
  unfold Sm Sv Pv
  rw [if_neg (show ¬ u = 0 by omega), if_neg (show ¬ u + 1 = 0 by omega), if_neg (show ¬ u + 1 = 0 by omega), if_neg (show ¬ u + 1 = 0 by omega), if_neg (show ¬ u = 0 by omega), e]
  unfold dm
  rw [if_neg (show ¬ u = 0 by omega)]
  refine ⟨?_, ?_, ?_, ?_, ?_, ?_, rfl, rfl, ?_⟩ <;> (repeat' split) <;> omega

set_option maxHeartbeats 400000 in
theorem walk (a0 : Int) (a1 : Int) (w0 : (Lit.int .i64 a0).wf = true) (w1 : (Lit.int .i64 a1).wf = true) (w : World) :
    Calls Try.prog 3 #[.int .i64 a0, .int .i64 a1] w fun e w' => e = .returned (.bool true) ∧ Grown w w' := by
  by_cases c1 : a1 < 1
  · go_enter Try.func3, Try.ntmps3
    go_wp2
    go_ret
    exact ⟨rfl, Grown.refl _⟩
  by_cases c2 : 67108864 < a1
  · go_enter Try.func3, Try.ntmps3
    go_wp2
    go_ret
    exact ⟨rfl, Grown.refl _⟩
  by_cases c3 : a0 < 0
  · go_enter Try.func3, Try.ntmps3
    go_wp2
    go_ret
    exact ⟨rfl, Grown.refl _⟩
  by_cases c4 : a1 ≤ a0
  · go_enter Try.func3, Try.ntmps3
    go_wp2
    go_ret
    exact ⟨rfl, Grown.refl _⟩
  replace c1 : 1 ≤ a1 := by omega
  replace c2 : a1 ≤ 67108864 := by omega
  replace c3 : 0 ≤ a0 := by omega
  replace c4 : a0 < a1 := by omega
  clear w0 w1
  go_enter Try.func3, Try.ntmps3
  go_wp2_with fail
  go_loopg [6, 7, 8, 9] 29 (fun gk su se pr uu wr => ∃ u : Nat, u ≤ 29 ∧ gk = 29 - u ∧ uu = .int .i64 (u : Int) ∧ su = .int .i64 (Sm u) ∧ se = .int .i64 (Sv u) ∧ pr = .int .i64 (Pv u) ∧ wr = w)
  case atStart => exact ⟨0, by omega, rfl, rfl, rfl, rfl, rfl, rfl⟩
  case round =>
    obtain ⟨u, hu, rfl, rfl, rfl, rfl, rfl, rfl⟩ := hrel
    by_cases u0 : u = 0
    · subst u0
      have e1 : Sm (0 : Nat) = 0 := rfl
      have e2 : Sv (0 : Nat) = 0 := rfl
      have e3 : Pv (0 : Nat) = 0 := rfl
      rw [e1, e2, e3]
      clear e1 e2 e3
      go_wp2_with fail
      refine (zz_any _ _ 7 _ (by omega) (by omega) (by omega) (by omega) ?_).mono ?_
      · have := dc_blk a0 a1 0 c3 c4 (by omega) (by omega); simpa [dm] using this
      rintro e w' ⟨rfl, rfl⟩
      go_wp2_with fail
      refine (zz_any _ _ 7 _ (by omega) (by omega) (by omega) (by omega) ?_).mono ?_
      · have := dc_one 0 (by omega) (by omega); simpa [dm] using this
      rintro e w' ⟨rfl, rfl⟩
      go_wp2_with fail
      go_roundg 28
      case measure => omega
      case rel => exact ⟨1, by omega, rfl, rfl, rfl, rfl, rfl, rfl⟩
    by_cases u1 : u < 29
    · obtain ⟨c, S, P, hc, hS, hP⟩ : ∃ c S P, c = dm u ∧ S = Sm u ∧ P = Pv u := ⟨_, _, _, rfl, rfl, rfl⟩
      obtain ⟨f1, f2, f3, f4, f5, f6, f7, f8, f9⟩ := step (u : Int) (by omega) (by omega)
      rw [f9, ← hP, ← hS]
      rw [← hc] at f1 f2 f3 f6 f8
      rw [← hP] at f3
      rw [← hS] at f4 f5 f6
      have HP : Hid (Sm (u + 1) = S + c ∧ Sv (u + 1) = 1 ∧ Pv (u + 1) = c ∧ c = dm u) := ⟨f6, f7, f8, hc⟩
      clear hP hS hc f6 f7 f8 f9
      have u0' : 0 < (u : Int) := by omega
      have u1' : (u : Int) < 29 := by omega
      clear u0 u1
      go_wp2_with fail
      refine (zz_any _ _ c _ (by omega) (by omega) (by omega) (by omega) ?_).mono ?_
      · rw [dc_blk a0 a1 u c3 c4 (by omega) (by omega), HP.out.2.2.2]
      rintro e w' ⟨rfl, rfl⟩
      go_wp2_with fail
      refine (zz_any _ _ c _ (by omega) (by omega) (by omega) (by omega) ?_).mono ?_
      · rw [dc_one u (by omega) (by omega), HP.out.2.2.2]
      rintro e w' ⟨rfl, rfl⟩
      go_wp2_with fail
      go_roundg (29 - (u + 1))
      case measure => omega
      case rel =>
        obtain ⟨g1, g2, g3, _⟩ := HP.out
        exact ⟨u + 1, by omega, rfl, by go_num, by rw [← g1]; rfl, by rw [← g2]; rfl, by rw [← g3]; rfl, rfl⟩
    · obtain rfl : u = 29 := by omega
      have e1 : Sm (29 : Nat) = 49 := rfl
      have e2 : Sv (29 : Nat) = 1 := rfl
      rw [e1, e2]
      clear e1 e2
      go_wp2
      go_ret
      exact ⟨rfl, Grown.refl _⟩

/-! ### THE ROW's STEP: WRITTEN OUT: LEAVE IT -/
set_option maxRecDepth 100000 in
theorem lifted (os : Os) (started : os.Started) (H : Type) (enc : TypeId × Value → H) :
    ReturnsInHanded {} Try.checked os 3 .any (Rows.fnDefaultCountEachBlockHoldsFortyNineSpec.pre6 enc Try.prog Try.f3 Rows.fnDefaultCountEachBlockHoldsFortyNineRow.domain false) (Rows.fnDefaultCountEachBlockHoldsFortyNineSpec.post enc Try.prog Try.f3 false true false false) := by
  refine returnsInHanded_of_change (C := Try.checked) own started (by kernel_rfl) Try.func3
    (ChangeSpec.witness6 (enc := enc) (C := Try.checked) false ⟨#[], #[.int .i64 0, .int .i64 0], []⟩ 8 (by kernel_rfl) (by kernel_rfl) (by kernel_rfl) (by kernel_rfl)) ?_
  intro W base args ds gs before hval0 hW hcnd _
  have hval : ∀ (j : Nat) t v, Try.f3.params[j]? = some t → args[j]? = some v → Value.okWide Try.prog W .any base t v := hval0
  have hW' := hW
  obtain ⟨p, q, hA0, hV, rfl, hfz, hnd⟩ := hW
  have hA : DataW.TrodAll enc Try.prog W 0 (fun _ => true) true Try.f3.params.toList args.toList ds p := hA0
  rw [Try.params3] at hA hval
  obtain ⟨v0, vs0, d0, ds0, p0, q0, hargs, rfl, rfl, h0, r0⟩ := trodAll_cons hA
  obtain ⟨v1, vs1, d1, ds1, p1, q1, rfl, rfl, rfl, h1, r1⟩ := trodAll_cons r0
  obtain ⟨rfl, rfl, rfl⟩ := trodAll_nil r1
  obtain rfl : args = #[v0, v1] := by cases args; simp_all
  obtain ⟨rfl, rfl⟩ := trodVars_none hV
  obtain ⟨a0, rfl, rfl, rfl, w0⟩ := open_int Try.underlying3 (hval 0 3 v0 rfl rfl) h0
  obtain ⟨a1, rfl, rfl, rfl, w1⟩ := open_int Try.underlying3 (hval 1 3 v1 rfl rfl) h1
  clear hA0 hval0
  simp only [List.append_nil] at hW'
  refine (walk a0 a1 w0 w1 W).mono fun e W' ⟨he, hg⟩ => ?_
  subst he
  exact ⟨_, rfl, post_of_same (pa := []) (pv := []) hW' (fun _ _ _ => (trodAll_cons_mk (shut_bool Try.underlying4 _) trodAll_mk0)) (fun sp _ => (trodAll_cons_mk (shut_int Try.underlying3 w0) (trodAll_cons_mk (shut_int Try.underlying3 w1) trodAll_mk0))) (fun _ _ => rfl) rfl
    (hg.frame _) hg.2.1 (ok_one (by kernel_rfl) rfl (okWide_bool_mk Try.underlying4 _))⟩

theorem over : Rows.fnDefaultCountEachBlockHoldsFortyNineRow.holds Try.pinned (OpenSpec.ofChange Rows.fnDefaultCountEachBlockHoldsFortyNineSpec) :=
  OpenClaim.holds_of_wide 3 Try.f3 rfl rfl rfl rfl rfl rfl rfl ⟨rfl, rfl, rfl, rfl, rfl⟩ rfl rfl rfl rfl rfl (by kernel_rfl) Try.func3 (by kernel_rfl)
    (of_decide_eq_true (by kernel_rfl)) (by unfold Func.isWrapper; first | (rw [if_pos (by decide +kernel)]; kernel_rfl) | (rw [if_neg (by decide +kernel)]; exact ⟨rfl, rfl⟩))
    (fun os started H enc _ => lifted os started H enc)

/-- ████ THE STATEMENT ████ -/
theorem proved : Rows.FnDefaultCountEachBlockHoldsFortyNineSaid :=
  over
#print axioms proved
end Go.Proofs.Qxb6618448a.fnDefaultCountEachBlockHoldsFortyNine
