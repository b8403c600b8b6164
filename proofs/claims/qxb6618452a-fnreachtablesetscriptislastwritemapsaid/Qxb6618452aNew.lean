/-
  The contract of ZZNewReachTable.
-/
import Derived.Test.Qxb6618452aCalls
namespace Go.Proofs.Qxb6618452a
open Go.ChangeShapes Go.WideShapes Go.ChangeAt Go.RowKit
set_option maxRecDepth 100000
set_option linter.unusedVariables false

theorem info43 : (Try.prog.info? 43).map (fun i => (i.zero, i.size, i.bytes)) = some (some (.pointer none), 1, 8) := by kernel_rfl

theorem heap_cell {w : World} {b t : Nat} {c : Array Value} (h : w.heap[b]? = some (.cells c t (0, 0))) (i : Nat) : w.cell? ⟨b, i, none⟩ = c[i]? := by
  simp [World.cell?, h]
theorem heap_free {w : World} {b t : Nat} {c : Array Value} (h : w.heap[b]? = some (.cells c t (0, 0))) (i : Nat) : w.frozen? ⟨b, i, none⟩ = false := by
  simp [World.frozen?, h]
theorem Fr.setNew {B0 : Nat} {a w : World} (h : Fr B0 a w) {b : Nat} (hb : a.heap.size ≤ b) (hB : B0 ≤ b) (i : Nat) (v : Value) : Fr B0 a (w.setCell ⟨b, i, none⟩ v) := by
  refine ⟨h.1.setCell hB v, fun g x t' fz h1 h2 h3 h4 => ?_⟩
  rw [Below.heap_setCell _ _ _ _ (by have := blk_lt h4; simp; omega)]
  exact h.2 g x t' fz h1 h2 h3 h4
/-- A piece more: a new block of zero entries, its pointer stored at place k of the row of pieces. -/
theorem Tab.born {w w1 : World} {B0 n m bp bm k : Nat} {P : Nat → Option Nat} {W : Nat → Int} (h : Tab w B0 n m bp bm P (fun _ _ => (0, 0)) W) (hw1 : w1 = w.alloc (.cells Z46 46)) (hk : k < n) (hP : P k = none) (hB : B0 ≤ w.heap.size) :
    Tab (w1.setCell ⟨bp, k, none⟩ (.pointer (some ⟨w.heap.size, 0, none⟩))) B0 n m bp bm (fun i => if i = k then some w.heap.size else P i) (fun _ _ => (0, 0)) W := by
  have h1 : Tab w1 B0 n m bp bm P (fun _ _ => (0, 0)) W := by rw [hw1]; exact h.alloc _
  have hg : w1.rowIs w.heap.size 46 2048 (ent fun _ => (0, 0)) := by
    have := World.rowIs_alloc w Z46 46 (ent fun _ => (0, 0)) (fun i hi => by rw [Z46_get i (by rw [Z46_size] at hi; exact hi)]; rfl)
    rw [Z46_size, ← hw1] at this
    exact this
  have ne : bp ≠ bm := rowIs_ne h.pieces h.words (by decide)
  have nep : bp ≠ w.heap.size := rowIs_ne h1.pieces hg (by decide)
  have hgn : ∀ i b', i < n → P i = some b' → b' ≠ w.heap.size := fun i b' hi hb' => Nat.ne_of_lt (h.piece i b' hi hb').lt
  refine ⟨?_, h1.words.setOther (a := ⟨bp, _, none⟩) ne.symm _, ?_, ?_, ?_, h.lowp, h.lowm, ?_⟩
  · refine (h1.pieces.set _ _).congr fun i _ => ?_
    by_cases e : i = k
    · simp [e]
    · simp [e]
  · intro i b' hi hb'
    by_cases e : i = k
    · simp [e] at hb'
      subst hb'
      exact hg.setOther (a := ⟨bp, _, none⟩) nep.symm _
    · simp [e] at hb'
      exact (h1.piece i b' hi hb').setOther (a := ⟨bp, _, none⟩) (rowIs_ne (h1.piece i b' hi hb') h1.pieces (by decide)) _
  · intro i j b' hi hj h2 h3
    by_cases e : i = k
    · by_cases e' : j = k
      · rw [e, e']
      · simp [e] at h2
        simp [e'] at h3
        exact absurd h2.symm (hgn j b' hj h3)
    · by_cases e' : j = k
      · simp [e'] at h3
        simp [e] at h2
        exact absurd h3.symm (hgn i b' hi h2)
      · simp [e] at h2
        simp [e'] at h3
        exact h.apart i j b' hi hj h2 h3
  · intro i hi hPi e he; rfl
  · intro i b' hi hb'
    by_cases e : i = k
    · simp [e] at hb'; omega
    · simp [e] at hb'
      exact h.low i b' hi hb'

set_option maxHeartbeats 400000 in
theorem new_any (w : World) (B0 n m bm c2 hb hc : Nat) (hp : Option Addr) (H : Nat → Bool) (W : Nat → Int) (hw : w.rowIs bm 26 m (fun j => .int .u64 (W j)))
    (hn : n ≤ 4096) (hm : m ≤ 65536) (hB : B0 ≤ bm) (hB' : B0 ≤ w.heap.size) (hpa : 0 < n → hp = some ⟨hb, 0, none⟩) (hH : ∀ i, i < n → w.cell? ⟨hb, i, none⟩ = some (.bool (H i))) (hhb : 0 < n → hb < w.heap.size) :
    Calls Try.prog 5 #[.slice hp n hc, .slice (some ⟨bm, 0, none⟩) m c2] w fun e w' => ∃ bp, e = .returned (.agg #[.slice (some ⟨bp, 0, none⟩) n n, .slice (some ⟨bm, 0, none⟩) m c2]) ∧
      (∃ P, Tab w' B0 n m bp bm P (fun _ _ => (0, 0)) W ∧ ∀ i, i < n → (P i = none ↔ H i = false)) ∧ Fr B0 w w' := by
  have hmk := run_make_row' (P := Try.prog) 31 43 (.pointer none) 8 Try.underlying31 info43 rfl .i64 .i64 n (by omega) (by omega)
  go_enter Try.func5, Try.ntmps5
  go_wp2_with fail
  obtain ⟨wa, hwa⟩ : ∃ wa, wa = ((w.alloc (.cells #[.slice none 0 0, .slice none 0 0] 34)).alloc (.cells (madeCells #[.pointer none] n) 43)).alloc (.cells #[.slice (some ⟨w.heap.size + 1, 0, none⟩) n n, .slice (some ⟨bm, 0, none⟩) m c2] 34) := ⟨_, rfl⟩
  rw [← hwa]
  have hb0 : Below w.heap.size w wa := by rw [hwa]; exact (((Below.refl _ _).alloc (Nat.le_refl _) _).alloc (by simp) _).alloc (by simp; omega) _
  have hr : wa.rowIs (w.heap.size + 1) 43 n (fun _ => .pointer none) := by
    rw [hwa]
    have := (World.rowIs_made (w.alloc (.cells #[.slice none 0 0, .slice none 0 0] 34)) (.pointer none) n 43)
    simp only [World.size_alloc] at this
    exact this.alloc _
  have h34 : wa.heap[w.heap.size]? = some (.cells #[.slice none 0 0, .slice none 0 0] 34 (0, 0)) := by
    rw [hwa, Below.heap_alloc _ _ _ (by simp; omega), Below.heap_alloc _ _ _ (by simp)]; exact Go.Deep.blk_alloc_new _ _
  have h34' : wa.heap[w.heap.size + 1 + 1]? = some (.cells #[.slice (some ⟨w.heap.size + 1, 0, none⟩) n n, .slice (some ⟨bm, 0, none⟩) m c2] 34 (0, 0)) := by
    rw [hwa]
    have := Go.Deep.blk_alloc_new ((w.alloc (.cells #[.slice none 0 0, .slice none 0 0] 34)).alloc (.cells (madeCells #[.pointer none] n) 43)) (.cells #[.slice (some ⟨w.heap.size + 1, 0, none⟩) n n, .slice (some ⟨bm, 0, none⟩) m c2] 34)
    simpa only [World.size_alloc] using this
  have hF : Fr B0 w wa := by rw [hwa]; exact (((Fr.refl B0 w).alloc hB' _).alloc (by simp; omega) _).alloc (by simp; omega) _
  have hT0 : Tab wa B0 n m (w.heap.size + 1) bm (fun _ => none) (fun _ _ => (0, 0)) W :=
    ⟨hr, by rw [hwa]; exact ((hw.alloc _).alloc _).alloc _, fun _ _ _ h => (by cases h), fun _ _ _ _ _ h => (by cases h), fun _ _ _ _ _ => rfl, by omega, hB, fun _ _ _ h => (by cases h)⟩
  have KK : Hid (Below w.heap.size w wa ∧ Fr B0 w wa ∧ Tab wa B0 n m (w.heap.size + 1) bm (fun _ => none) (fun _ _ => (0, 0)) W ∧ (∀ i, i < n → w.cell? ⟨hb, i, none⟩ = some (.bool (H i))) ∧ (0 < n → hb < w.heap.size) ∧ (0 < n → hp = some ⟨hb, 0, none⟩) ∧
    wa.heap[w.heap.size]? = some (.cells #[.slice none 0 0, .slice none 0 0] 34 (0, 0)) ∧ wa.heap[w.heap.size + 1 + 1]? = some (.cells #[.slice (some ⟨w.heap.size + 1, 0, none⟩) n n, .slice (some ⟨bm, 0, none⟩) m c2] 34 (0, 0)) ∧ w.heap.size + 1 + 1 < wa.heap.size) :=
    ⟨hb0, hF, hT0, hH, hhb, hpa, h34, h34', blk_lt h34'⟩
  clear hb0 hF hT0 hH hhb hpa h34 h34' hr hwa hw hmk
  go_loopg [6] n (fun gk ii wr => ∃ k : Nat, k ≤ n ∧ gk = n - k ∧ ii = .int .i64 (k : Int) ∧ (∃ P, Tab wr B0 n m (w.heap.size + 1) bm P (fun _ _ => (0, 0)) W ∧ ∀ i, P i = none ↔ ¬ (i < k ∧ H i = true)) ∧ Fr B0 wa wr ∧ Below w.heap.size wa wr)
  case atStart => exact ⟨0, by omega, rfl, rfl, ⟨_, KK.out.2.2.1, fun i => by simp⟩, Fr.refl _ _, Below.refl _ _⟩
  case round =>
    obtain ⟨k, hk, rfl, rfl, ⟨P, hT, hPk⟩, hF, hbl⟩ := hrel
    obtain ⟨q1, q2, q3, q4, q5, q6, q7, q8, q9⟩ := KK.out
    have v0 := hF.2 _ _ _ _ (by decide) (by decide) (by decide) q7
    have v1 := hF.2 _ _ _ _ (by decide) (by decide) (by decide) q8
    by_cases hlt : k < n
    · have hlt' : (k : Int) < (n : Int) := by omega
      obtain rfl := q6 (by omega)
      have hck : wr.cell? ⟨hb, k, none⟩ = some (.bool (H k)) := ((q1.trans hbl).cell (by exact q5 (by omega))).trans (q4 k hlt)
      cases hHk : H k with
      | false =>
        rw [hHk] at hck
        have R : Hid ((∃ P, Tab wr B0 n m (w.heap.size + 1) bm P (fun _ _ => (0, 0)) W ∧ ∀ i, P i = none ↔ ¬ (i < k + 1 ∧ H i = true)) ∧ Fr B0 wa wr ∧ Below w.heap.size wa wr) := by
          refine ⟨⟨P, hT, fun i => ?_⟩, hF, hbl⟩
          rw [hPk i]
          by_cases e : i = k
          · subst e; simp [hHk]
          · have : i < k ↔ i < k + 1 := by omega
            rw [this]
        clear hT hPk hF hbl q1 q2 q3 q4 q5 q6 q7 q8 q9 v0 v1 KK
        go_wp2_with fail
        go_roundg (n - (k + 1))
        case measure => omega
        case rel => exact ⟨k + 1, by omega, rfl, by go_num, R.out⟩
      | true =>
        rw [hHk] at hck
        have hPn : P k = none := by rw [hPk]; omega
        have f0 := heap_cell v1 0
        have hpc := hT.pieces.cell hlt
        rw [hPn] at hpc
        have hpf := hT.pieces.frozen k
        have hpl := hT.pieces.lt
        have hsz : w.heap.size ≤ wr.heap.size := by have := hbl.size; omega
        have R : Hid (∀ w1, w1 = wr.alloc (.cells Z46 46) → (∃ P, Tab (w1.setCell ⟨w.heap.size + 1, k, none⟩ (.pointer (some ⟨wr.heap.size, 0, none⟩))) B0 n m (w.heap.size + 1) bm P (fun _ _ => (0, 0)) W ∧ ∀ i, P i = none ↔ ¬ (i < k + 1 ∧ H i = true)) ∧ Fr B0 wa (w1.setCell ⟨w.heap.size + 1, k, none⟩ (.pointer (some ⟨wr.heap.size, 0, none⟩))) ∧ Below w.heap.size wa (w1.setCell ⟨w.heap.size + 1, k, none⟩ (.pointer (some ⟨wr.heap.size, 0, none⟩)))) := by
          intro w1 hw1
          refine ⟨⟨_, hT.born hw1 hlt hPn (by omega), fun i => ?_⟩, ?_, ?_⟩
          · by_cases e : i = k
            · subst e; simp [hHk]
            · have : i < k ↔ i < k + 1 := by omega
              simp [e, hPk i, this]
          · have hF1 : Fr B0 wa w1 := by rw [hw1]; exact hF.alloc (by omega) _
            exact hF1.set (by rw [hw1]; exact hT.pieces.alloc _) (by simp) (by omega) _ _
          · rw [hw1]; exact (hbl.alloc (by omega) _).setCell (by simp) _
        have F : Hid (∀ w1, w1 = wr.alloc (.cells Z46 46) → w1.cell? ⟨w.heap.size + 1, k, none⟩ = some (.pointer none) ∧ w1.frozen? ⟨w.heap.size + 1, k, none⟩ = false) := by
          intro w1 hw1
          rw [hw1]
          exact ⟨(World.cell?_alloc_lt _ _ _ hpl).trans hpc, (World.frozen?_alloc_old _ _ _ (Nat.ne_of_lt hpl)).trans hpf⟩
        clear hT hPk hF hbl q1 q2 q3 q4 q5 q6 q7 q8 q9 v0 v1 KK hpc hpf hPn
        go_wp2_with (refine wpList_alloc46 rfl rfl ?_)
        intro w1 HW
        obtain ⟨g1, g2⟩ := F.out w1 HW.out
        have R' := R.out w1 HW.out
        have R2 : Hid _ := R'
        clear R' R F HW
        go_wp2_with fail
        go_roundg (n - (k + 1))
        case measure => omega
        case rel => exact ⟨k + 1, by omega, rfl, by go_num, R2.out⟩
    · obtain rfl : k = n := by omega
      have f0 : wr.cell? ⟨w.heap.size, 0, none⟩ = some (.slice none 0 0) := heap_cell v0 0
      have f1 : wr.cell? ⟨w.heap.size, 1, none⟩ = some (.slice none 0 0) := heap_cell v0 1
      have f2 : wr.cell? ⟨w.heap.size + 1 + 1, 0, none⟩ = some (.slice (some ⟨w.heap.size + 1, 0, none⟩) k k) := heap_cell v1 0
      have f3 : wr.cell? ⟨w.heap.size + 1 + 1, 1, none⟩ = some (.slice (some ⟨bm, 0, none⟩) m c2) := heap_cell v1 1
      have f4 := heap_free v0 0
      have f5 := heap_free v0 1
      have R : Hid ((∃ P, Tab wr B0 k m (w.heap.size + 1) bm P (fun _ _ => (0, 0)) W ∧ ∀ i, i < k → (P i = none ↔ H i = false)) ∧ Fr B0 w wr) :=
        ⟨⟨P, hT, fun i hi => by rw [hPk i]; simp [hi]⟩, q2.trans hF⟩
      have n0 : wr.rowIs w.heap.size 34 2 (fun i => .slice none 0 0) := ⟨_, v0, rfl, fun i hi => by
        match i, hi with
        | 0, _ => rfl
        | 1, _ => rfl⟩
      have N0 : Hid (wr.rowIs w.heap.size 34 2 (fun i => .slice none 0 0)) := n0
      clear n0
      clear hT hPk hF hbl q1 q2 q3 q4 q5 q6 q7 q8 q9 v0 v1 KK
      go_wp2_with fail
      obtain ⟨⟨P, hT, hP⟩, hF⟩ := R.out
      refine bodyPost_ret (v := .agg #[.slice (some ⟨w.heap.size + 1, 0, none⟩) k k, .slice (some ⟨bm, 0, none⟩) m c2]) (by simp [results, Try.results5, go_sem, f0, f1]) rfl ⟨w.heap.size + 1, rfl, ⟨P, ?_, hP⟩, ?_⟩
      · exact (hT.setOther N0.out (by decide) (by decide) (fun e => absurd e (by decide)) _ _).setOther (N0.out.set _ _) (by decide) (by decide) (fun e => absurd e (by decide)) _ _
      · exact (hF.setNew (Nat.le_refl _) hB' _ _).setNew (Nat.le_refl _) hB' _ _
end Go.Proofs.Qxb6618452a
