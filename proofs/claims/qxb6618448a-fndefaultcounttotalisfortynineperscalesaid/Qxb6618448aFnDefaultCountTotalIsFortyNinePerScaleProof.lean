/-
  Proof of 'Rows.FnDefaultCountTotalIsFortyNinePerScaleSaid'. The frame (behind the walk) was written by the kit's proof-skeleton.mjs for this function.
-/
import Derived.Test.Qxb6618448aRows
import Derived.Test.Qxb6618448aCount
import Derived.WalkKit
import Derived.ProofKit
import Derived.OpenShut
import Derived.ShutString
namespace Go.Proofs.Qxb6618448a.fnDefaultCountTotalIsFortyNinePerScale
open Go.ChangeShapes Go.WideShapes Go.ChangeAt Go.RowKit
open Go.ChangeMaps (open_string shut_string)
set_option linter.unusedVariables false      -- a walk need not use every 'w<i>' (that an integer argument fits its kind)

theorem own : ownKnob Try.prog.godebug = none := by kernel_rfl

/-! ### The plain law and the walk -/
/-- How many functions ahead of i have a default. -/
def cl (span i : Int) : Int := if i < 3000 then 0 else if 3000 + span ≤ i then span else i - 3000
/-- The defaults of the first n functions behind the called ones. -/
def tot (n : Int) : Int := 49 * (n / 29) + Sm (n % 29)

theorem tot_bd (n : Int) (h0 : 0 ≤ n) (h1 : n ≤ 100000) : 0 ≤ tot n ∧ tot n ≤ 1000000 := by
  unfold tot Sm; (repeat' split) <;> omega
theorem tot_succ (n : Int) : tot (n + 1) = tot n + dm (n % 29) := by
  unfold tot Sm dm
  (repeat' split) <;> omega
theorem tot_blk (s : Int) : tot (29 * s) = 49 * s := by
  have e : (29 * s) % 29 = 0 := by omega
  unfold tot; rw [e]; simp [Sm]
theorem cl_lo {span i : Int} (h : i ≤ 3000) (h0 : 0 ≤ span) : cl span i = 0 := by
  unfold cl; (repeat' split) <;> omega
theorem cl_hi {span i : Int} (h : 3000 + span ≤ i) (h0 : 0 ≤ span) : cl span i = span := by
  unfold cl; (repeat' split) <;> omega
theorem cl_in {span i : Int} (h : 3000 ≤ i) (h1 : i ≤ 3000 + span) : cl span i = i - 3000 := by
  unfold cl; (repeat' split) <;> omega
theorem dm_bd (r : Int) : 1 ≤ dm r ∧ dm r ≤ 7 := by unfold dm; (repeat' split) <;> omega
theorem dc_lo {i s : Int} (h : i < 3000) : dc i s = 0 := by unfold dc; rw [if_pos h]
theorem dc_hi {i s : Int} (h : 3000 + 29 * s ≤ i) : dc i s = 0 := by unfold dc; (repeat' split) <;> omega
theorem dc_in {i s : Int} (h : 3000 ≤ i) (h1 : i < 3000 + 29 * s) : dc i s = dm ((i - 3000) % 29) := by unfold dc; rw [if_neg (by omega), if_neg (by omega)]

set_option maxHeartbeats 400000 in
theorem walk_pos (a0 : Int) (a1 : Int) (w : World) (c1 : 0 < a0) (c2 : a0 ≤ 2048) (c3 : 0 ≤ a1) (c4 : a1 ≤ 1024) :
    Calls Try.prog 4 #[.int .i64 a0, .int .i64 a1] w fun e w' => e = .returned (.bool true) ∧ Grown w w' := by
  go_enter Try.func4, Try.ntmps4
  go_wp2_with fail
  go_loopg [8, 9, 10] ((3000 + 29 * a0 + a1) - (3000 - a1)).toNat (fun gk tt nz ii wr => ∃ i : Int, 3000 - a1 ≤ i ∧ i ≤ 3000 + 29 * a0 + a1 ∧ gk = ((3000 + 29 * a0 + a1) - i).toNat ∧ ii = .int .i64 i ∧ tt = .int .i64 (tot (cl (29 * a0) i)) ∧ nz = .int .i64 (cl (29 * a0) i) ∧ wr = w)
  case atStart => exact ⟨3000 - a1, by omega, by omega, rfl, rfl, by rw [cl_lo (by omega) (by omega)]; rfl, by rw [cl_lo (by omega) (by omega)], rfl⟩
  case round =>
    obtain ⟨i, hi1, hi2, rfl, rfl, rfl, rfl, rfl⟩ := hrel
    by_cases hlt : i < 3000 + 29 * a0 + a1
    · by_cases r1 : i < 3000
      · have E : Hid (cl (29 * a0) (i + 1) = 0) := cl_lo (by omega) (by omega)
        have D : Hid (dc i a0 = 0) := dc_lo r1
        rw [cl_lo (by omega) (by omega), show tot 0 = 0 from rfl]
        go_wp2_with fail
        refine (zz_any _ _ 0 _ (by omega) (by omega) (by omega) (by omega) D.out).mono ?_
        rintro e w' ⟨rfl, rfl⟩
        go_wp2_with fail
        go_roundg ((3000 + 29 * a0 + a1) - (i + 1)).toNat
        case measure => omega
        case rel => exact ⟨i + 1, by omega, by omega, rfl, rfl, by rw [E.out]; rfl, by rw [E.out], rfl⟩
      by_cases r2 : 3000 + 29 * a0 ≤ i
      · have E : Hid (cl (29 * a0) (i + 1) = 29 * a0) := cl_hi (by omega) (by omega)
        have D : Hid (dc i a0 = 0) := dc_hi r2
        rw [cl_hi (by omega) (by omega), tot_blk]
        have r1' : 3000 ≤ i := by omega
        clear r1
        go_wp2_with fail
        refine (zz_any _ _ 0 _ (by omega) (by omega) (by omega) (by omega) D.out).mono ?_
        rintro e w' ⟨rfl, rfl⟩
        go_wp2_with fail
        go_roundg ((3000 + 29 * a0 + a1) - (i + 1)).toNat
        case measure => omega
        case rel => exact ⟨i + 1, by omega, by omega, rfl, rfl, by rw [E.out, tot_blk], by rw [E.out], rfl⟩
      · have E : cl (29 * a0) (i + 1) = i - 3000 + 1 := by rw [cl_in (by omega) (by omega)]; omega
        have D : dc i a0 = dm ((i - 3000) % 29) := dc_in (by omega) (by omega)
        obtain ⟨c, hc⟩ : ∃ c, c = dm ((i - 3000) % 29) := ⟨_, rfl⟩
        obtain ⟨T, hT⟩ : ∃ T, T = tot (i - 3000) := ⟨_, rfl⟩
        have hcb := dm_bd ((i - 3000) % 29)
        have hTb := tot_bd (i - 3000) (by omega) (by omega)
        have hts := tot_succ (i - 3000)
        rw [cl_in (by omega) (by omega), ← hT]
        rw [← hc] at hcb D hts
        rw [← hT] at hTb hts
        have H : Hid (cl (29 * a0) (i + 1) = i - 3000 + 1 ∧ dc i a0 = c ∧ tot (i - 3000 + 1) = T + c) := ⟨E, D, hts⟩
        clear E D hts hc hT
        have r1' : 3000 ≤ i := by omega
        have r2' : i < 3000 + 29 * a0 := by omega
        clear r1 r2
        obtain ⟨hc1, hc2⟩ := hcb
        obtain ⟨hT1, hT2⟩ := hTb
        have hcn : (c != 0) = true := by simp; omega
        go_wp2_with fail
        refine (zz_any _ _ c _ (by omega) (by omega) (by omega) (by omega) H.out.2.1).mono ?_
        rintro e w' ⟨rfl, rfl⟩
        go_wp2_with fail
        go_roundg ((3000 + 29 * a0 + a1) - (i + 1)).toNat
        case measure => omega
        case rel => exact ⟨i + 1, by omega, by omega, rfl, rfl, by rw [H.out.1, H.out.2.2], by rw [H.out.1], rfl⟩
    · obtain rfl : i = 3000 + 29 * a0 + a1 := by omega
      rw [cl_hi (by omega) (by omega), tot_blk]
      go_wp2
      go_ret
      exact ⟨rfl, Grown.refl _⟩

set_option maxHeartbeats 400000 in
theorem walk_neg (a0 : Int) (a1 : Int) (w : World) (c1 : a0 ≤ 0) (c2 : -2048 ≤ a0) (c3 : 0 ≤ a1) (c4 : a1 ≤ 1024) :
    Calls Try.prog 4 #[.int .i64 a0, .int .i64 a1] w fun e w' => e = .returned (.bool true) ∧ Grown w w' := by
  go_enter Try.func4, Try.ntmps4
  go_wp2_with fail
  go_loopg [8, 9, 10] ((3000 + a1) - (3000 - a1)).toNat (fun gk tt nz ii wr => ∃ i : Int, 3000 - a1 ≤ i ∧ i ≤ 3000 + a1 ∧ gk = ((3000 + a1) - i).toNat ∧ ii = .int .i64 i ∧ tt = .int .i64 0 ∧ nz = .int .i64 0 ∧ wr = w)
  case atStart => exact ⟨3000 - a1, by omega, by omega, rfl, rfl, rfl, rfl, rfl⟩
  case round =>
    obtain ⟨i, hi1, hi2, rfl, rfl, rfl, rfl, rfl⟩ := hrel
    by_cases hlt : i < 3000 + a1
    · have D : Hid (dc i a0 = 0) := by
        by_cases r1 : i < 3000
        · exact dc_lo r1
        · exact dc_hi (by omega)
      by_cases r1 : i < 3000
      · go_wp2_with fail
        refine (zz_any _ _ 0 _ (by omega) (by omega) (by omega) (by omega) D.out).mono ?_
        rintro e w' ⟨rfl, rfl⟩
        go_wp2_with fail
        go_roundg ((3000 + a1) - (i + 1)).toNat
        case measure => omega
        case rel => exact ⟨i + 1, by omega, by omega, rfl, rfl, rfl, rfl, rfl⟩
      · have r1' : 3000 ≤ i := by omega
        clear r1
        go_wp2_with fail
        refine (zz_any _ _ 0 _ (by omega) (by omega) (by omega) (by omega) D.out).mono ?_
        rintro e w' ⟨rfl, rfl⟩
        go_wp2_with fail
        go_roundg ((3000 + a1) - (i + 1)).toNat
        case measure => omega
        case rel => exact ⟨i + 1, by omega, by omega, rfl, rfl, rfl, rfl, rfl⟩
    · obtain rfl : i = 3000 + a1 := by omega
      go_wp2
      go_ret
      exact ⟨rfl, Grown.refl _⟩

theorem walk (a0 : Int) (a1 : Int) (w0 : (Lit.int .i64 a0).wf = true) (w1 : (Lit.int .i64 a1).wf = true) (w : World) :
    Calls Try.prog 4 #[.int .i64 a0, .int .i64 a1] w fun e w' => e = .returned (.bool true) ∧ Grown w w' := by
  by_cases c1 : a0 < -2048
  · go_enter Try.func4, Try.ntmps4
    go_wp2
    go_ret
    exact ⟨rfl, Grown.refl _⟩
  by_cases c2 : 2048 < a0
  · go_enter Try.func4, Try.ntmps4
    go_wp2
    go_ret
    exact ⟨rfl, Grown.refl _⟩
  by_cases c3 : a1 < 0
  · go_enter Try.func4, Try.ntmps4
    go_wp2
    go_ret
    exact ⟨rfl, Grown.refl _⟩
  by_cases c4 : 1024 < a1
  · go_enter Try.func4, Try.ntmps4
    go_wp2
    go_ret
    exact ⟨rfl, Grown.refl _⟩
  by_cases c5 : 0 < a0
  · exact walk_pos a0 a1 w c5 (by omega) (by omega) (by omega)
  · exact walk_neg a0 a1 w (by omega) (by omega) (by omega) (by omega)

/-! ### THE ROW's STEP: WRITTEN OUT: LEAVE IT -/
set_option maxRecDepth 100000 in
theorem lifted (os : Os) (started : os.Started) (H : Type) (enc : TypeId × Value → H) :
    ReturnsInHanded {} Try.checked os 4 .any (Rows.fnDefaultCountTotalIsFortyNinePerScaleSpec.pre6 enc Try.prog Try.f4 Rows.fnDefaultCountTotalIsFortyNinePerScaleRow.domain false) (Rows.fnDefaultCountTotalIsFortyNinePerScaleSpec.post enc Try.prog Try.f4 false true false false) := by
  refine returnsInHanded_of_change (C := Try.checked) own started (by kernel_rfl) Try.func4
    (ChangeSpec.witness6 (enc := enc) (C := Try.checked) false ⟨#[], #[.int .i64 0, .int .i64 0], []⟩ 8 (by kernel_rfl) (by kernel_rfl) (by kernel_rfl) (by kernel_rfl)) ?_
  intro W base args ds gs before hval0 hW hcnd _
  have hval : ∀ (j : Nat) t v, Try.f4.params[j]? = some t → args[j]? = some v → Value.okWide Try.prog W .any base t v := hval0
  have hW' := hW
  obtain ⟨p, q, hA0, hV, rfl, hfz, hnd⟩ := hW
  have hA : DataW.TrodAll enc Try.prog W 0 (fun _ => true) true Try.f4.params.toList args.toList ds p := hA0
  rw [Try.params4] at hA hval
  obtain ⟨v0, vs0, d0, ds0, p0, q0, hargs, rfl, rfl, h0, r0⟩ := trodAll_cons hA
  obtain ⟨v1, vs1, d1, ds1, p1, q1, rfl, rfl, rfl, h1, r1⟩ := trodAll_cons r0
  obtain ⟨rfl, rfl, rfl⟩ := trodAll_nil r1
  obtain rfl : args = #[v0, v1] := by cases args; simp_all
  obtain ⟨rfl, rfl⟩ := trodVars_none hV
  obtain ⟨a0, rfl, rfl, rfl, w0⟩ := open_int Try.underlying3 (hval 0 3 v0 rfl rfl) h0
  obtain ⟨a1, rfl, rfl, rfl, w1⟩ := open_int Try.underlying3 (hval 1 3 v1 rfl rfl) h1
  clear hA0 hval0
  simp only [List.append_nil] at hW'
  refine (walk a0 a1 w0 w1 W).mono fun e W' ⟨he, hg⟩ => ?_
  subst he
  exact ⟨_, rfl, post_of_same (pa := []) (pv := []) hW' (fun _ _ _ => (trodAll_cons_mk (shut_bool Try.underlying4 _) trodAll_mk0)) (fun sp _ => (trodAll_cons_mk (shut_int Try.underlying3 w0) (trodAll_cons_mk (shut_int Try.underlying3 w1) trodAll_mk0))) (fun _ _ => rfl) rfl
    (hg.frame _) hg.2.1 (ok_one (by kernel_rfl) rfl (okWide_bool_mk Try.underlying4 _))⟩

theorem over : Rows.fnDefaultCountTotalIsFortyNinePerScaleRow.holds Try.pinned (OpenSpec.ofChange Rows.fnDefaultCountTotalIsFortyNinePerScaleSpec) :=
  OpenClaim.holds_of_wide 4 Try.f4 rfl rfl rfl rfl rfl rfl rfl ⟨rfl, rfl, rfl, rfl, rfl⟩ rfl rfl rfl rfl rfl (by kernel_rfl) Try.func4 (by kernel_rfl)
    (of_decide_eq_true (by kernel_rfl)) (by unfold Func.isWrapper; first | (rw [if_pos (by decide +kernel)]; kernel_rfl) | (rw [if_neg (by decide +kernel)]; exact ⟨rfl, rfl⟩))
    (fun os started H enc _ => lifted os started H enc)

/-- ████ THE STATEMENT ████ -/
theorem proved : Rows.FnDefaultCountTotalIsFortyNinePerScaleSaid :=
  over
#print axioms proved
end Go.Proofs.Qxb6618448a.fnDefaultCountTotalIsFortyNinePerScale
