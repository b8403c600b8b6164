/-
  Contracts of the exports ZZSet, ZZHasPiece, ZZEntry, ZZMadeWords over a table.
-/
import Derived.Test.Qxb6618452aTab
namespace Go.Proofs.Qxb6618452a
open Go.ChangeShapes Go.WideShapes Go.ChangeAt Go.RowKit
set_option maxRecDepth 100000
set_option linter.unusedVariables false

theorem zzset_any (w : World) (B0 n m bp bm c1 c2 b : Nat) (P : Nat → Option Nat) (E : Nat → Nat → Int × Int) (W : Nat → Int) (r l : Int) (hT : Tab w B0 n m bp bm P E W)
    (hn : n ≤ 4096) (hm : m ≤ 65536) (hnm : n ≤ 64 * m) (hb : b < n * 1024) (hB : B0 ≤ w.heap.size) :
    Calls Try.prog 6 #[.agg #[.slice (some ⟨bp, 0, none⟩) n c1, .slice (some ⟨bm, 0, none⟩) m c2], .int .u64 (b : Int), .int .u32 r, .int .i8 l] w fun e w' => e = .returned (.tuple #[]) ∧
      (∃ P', Tab w' B0 n m bp bm P' (setE E b r l) (setW P W b) ∧ ∀ i, P' i = none ↔ (P i = none ∧ i ≠ b / 1024)) ∧ Fr B0 w w' := by
  go_enter Try.func6, Try.ntmps6
  go_wp2_with fail
  refine (set_any _ B0 n m bp bm c1 c2 b P E W r l (hT.alloc _) hn hm hnm hb (by simp; omega)).mono ?_
  rintro e w' ⟨rfl, h1, h2⟩
  clear hT
  go_wp2_with fail
  go_end0
  exact ⟨rfl, h1, ((Fr.refl B0 w).alloc hB _).trans h2⟩

theorem has_some (w : World) (n m bp bm c1 c2 i g : Nat) (hi : i < n) (hn : n ≤ 4096) (hc : w.cell? ⟨bp, i, none⟩ = some (.pointer (some ⟨g, 0, none⟩))) (hbp : bp < w.heap.size) :
    Calls Try.prog 7 #[.agg #[.slice (some ⟨bp, 0, none⟩) n c1, .slice (some ⟨bm, 0, none⟩) m c2], .int .u64 (i : Int)] w fun e w' => e = .returned (.bool true) ∧ ∃ o, w' = w.alloc o := by
  have h1 : (i : Int) < (n : Int) := by omega
  go_enter Try.func7, Try.ntmps7
  go_wp2
  go_ret
  exact ⟨rfl, _, rfl⟩
theorem has_none (w : World) (n m bp bm c1 c2 i : Nat) (hi : i < n) (hn : n ≤ 4096) (hc : w.cell? ⟨bp, i, none⟩ = some (.pointer none)) (hbp : bp < w.heap.size) :
    Calls Try.prog 7 #[.agg #[.slice (some ⟨bp, 0, none⟩) n c1, .slice (some ⟨bm, 0, none⟩) m c2], .int .u64 (i : Int)] w fun e w' => e = .returned (.bool false) ∧ ∃ o, w' = w.alloc o := by
  have h1 : (i : Int) < (n : Int) := by omega
  go_enter Try.func7, Try.ntmps7
  go_wp2
  go_ret
  exact ⟨rfl, _, rfl⟩
theorem has_any (w : World) (B0 n m bp bm c1 c2 i : Nat) (P : Nat → Option Nat) (E : Nat → Nat → Int × Int) (W : Nat → Int) (hT : Tab w B0 n m bp bm P E W) (hi : i < n) (hn : n ≤ 4096) :
    Calls Try.prog 7 #[.agg #[.slice (some ⟨bp, 0, none⟩) n c1, .slice (some ⟨bm, 0, none⟩) m c2], .int .u64 (i : Int)] w fun e w' => e = .returned (.bool (P i).isSome) ∧ ∃ o, w' = w.alloc o := by
  have hc := hT.pieces.cell hi
  cases hP : P i with
  | none => rw [hP] at hc; exact has_none w n m bp bm c1 c2 i hi hn hc hT.pieces.lt
  | some g => rw [hP] at hc; exact has_some w n m bp bm c1 c2 i g hi hn hc hT.pieces.lt

theorem entry_at (w : World) (n m bp bm c1 c2 b g : Nat) (r l : Int) (hb : b < n * 1024) (hn : n ≤ 4096) (hc : w.cell? ⟨bp, b / 1024, none⟩ = some (.pointer (some ⟨g, 0, none⟩)))
    (h1 : w.cell? ⟨g, b % 1024 * 2, none⟩ = some (.int .u32 r)) (h2 : w.cell? ⟨g, b % 1024 * 2 + 1, none⟩ = some (.int .i8 l)) (hbp : bp < w.heap.size) (hg : g < w.heap.size) :
    Calls Try.prog 8 #[.agg #[.slice (some ⟨bp, 0, none⟩) n c1, .slice (some ⟨bm, 0, none⟩) m c2], .int .u64 (b : Int)] w fun e w' => e = .returned (.tuple #[.int .u32 r, .int .i8 l]) ∧ ∃ o k, w' = (w.alloc o).drewN k := by
  have h3 : (b : Int) / 1024 < (n : Int) := by omega
  have h4 : (b : Int) < 4194304 := by omega
  go_enter Try.func8, Try.ntmps8
  go_wp2
  go_quiet (fail)
  go_wp2
  go_ret2
  exact ⟨rfl, _, _, rfl⟩
theorem entry_any (w : World) (B0 n m bp bm c1 c2 b : Nat) (P : Nat → Option Nat) (E : Nat → Nat → Int × Int) (W : Nat → Int) (hT : Tab w B0 n m bp bm P E W) (hb : b < n * 1024) (hn : n ≤ 4096) (hP : P (b / 1024) ≠ none) :
    Calls Try.prog 8 #[.agg #[.slice (some ⟨bp, 0, none⟩) n c1, .slice (some ⟨bm, 0, none⟩) m c2], .int .u64 (b : Int)] w fun e w' =>
      e = .returned (.tuple #[.int .u32 (E (b / 1024) (b % 1024)).1, .int .i8 (E (b / 1024) (b % 1024)).2]) ∧ ∃ o k, w' = (w.alloc o).drewN k := by
  have hp : b / 1024 < n := by omega
  have hcp := hT.pieces.cell hp
  cases hP' : P (b / 1024) with
  | none => exact absurd hP' hP
  | some g =>
    rw [hP'] at hcp
    have hg := hT.piece _ g hp hP'
    have k1 := hg.cell (i := b % 1024 * 2) (by omega)
    have k2 := hg.cell (i := b % 1024 * 2 + 1) (by omega)
    rw [show ent (E (b / 1024)) (b % 1024 * 2) = .int .u32 (E (b / 1024) (b % 1024)).1 from by
      unfold ent; rw [if_pos (by omega), show b % 1024 * 2 / 2 = b % 1024 from by omega]] at k1
    rw [show ent (E (b / 1024)) (b % 1024 * 2 + 1) = .int .i8 (E (b / 1024) (b % 1024)).2 from by
      unfold ent; rw [if_neg (by omega), show (b % 1024 * 2 + 1) / 2 = b % 1024 from by omega]] at k2
    exact entry_at w n m bp bm c1 c2 b g _ _ hb hn hcp k1 k2 hT.pieces.lt hg.lt

theorem words_any (v : Value) (bm m c2 : Nat) (bp n c1 : Nat) (w : World) :
    Calls Try.prog 9 #[.agg #[.slice (some ⟨bp, 0, none⟩) n c1, .slice (some ⟨bm, 0, none⟩) m c2]] w fun e w' => e = .returned (.slice (some ⟨bm, 0, none⟩) m c2) ∧ ∃ o, w' = w.alloc o := by
  go_enter Try.func9, Try.ntmps9
  go_wp2
  go_ret
  exact ⟨rfl, _, rfl⟩
end Go.Proofs.Qxb6618452a
