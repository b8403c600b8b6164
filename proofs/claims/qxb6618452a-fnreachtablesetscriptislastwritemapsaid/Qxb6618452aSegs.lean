/-
  Small laws on the segments' state.
-/
import Derived.Test.Qxb6618452aGoals
namespace Go.Proofs.Qxb6618452a
open Go.ChangeShapes Go.WideShapes Go.ChangeAt Go.RowKit
set_option linter.unusedVariables false

theorem cell_lt {w : World} {a : Addr} {v : Value} (h : w.cell? a = some v) : a.block < w.heap.size := by
  rcases Nat.lt_or_ge a.block w.heap.size with h' | h'
  · exact h'
  · have : w.heap[a.block]? = none := by simp [h']
    simp [World.cell?, this] at h
theorem HaveOk.of_block {w w' : World} {n hb : Nat} {H : Nat → Bool} (h : HaveOk w n hb H) (e : ∀ c, w.heap[hb]? = some (.cells c 4 (0, 0)) → w'.heap[hb]? = w.heap[hb]?) : HaveOk w' n hb H := by
  rcases h with h | h
  · exact .inl h
  · obtain ⟨c, hc⟩ := rowIs_block h
    exact .inr (h.of_block (e c hc))
theorem HaveOk.cell {w : World} {n hb : Nat} {H : Nat → Bool} (h : HaveOk w n hb H) {i : Nat} (hi : i < n) : w.cell? ⟨hb, i, none⟩ = some (.bool (H i)) := by
  rcases h with h | h
  · omega
  · exact h.cell hi
theorem HaveOk.alloc {w : World} {n hb : Nat} {H : Nat → Bool} (h : HaveOk w n hb H) (o : Obj) : HaveOk (w.alloc o) n hb H := h.of_block fun c hc => Below.heap_alloc _ _ _ (blk_lt hc)
theorem HaveOk.drewN {w : World} {n hb : Nat} {H : Nat → Bool} (h : HaveOk w n hb H) (k : Nat) : HaveOk (w.drewN k) n hb H := h.of_block fun c hc => rfl
theorem HaveOk.setOther {w : World} {n hb : Nat} {H : Nat → Bool} (h : HaveOk w n hb H) {b t k : Nat} {f : Nat → Value} (hr : w.rowIs b t k f) (ht : t = 4 → b ≠ hb) (i : Nat) (v : Value) : HaveOk (w.setCell ⟨b, i, none⟩ v) n hb H := by
  refine h.of_block fun c hc => Below.heap_setCell _ _ _ _ ?_
  intro e
  have e' : hb = b := e
  by_cases e4 : t = 4
  · exact ht e4 e'.symm
  · obtain ⟨c', hc'⟩ := rowIs_block hr
    rw [← e', hc] at hc'
    injection hc' with hc'
    injection hc' with _ hc' _
    exact e4 hc'.symm
theorem HaveOk.fr {B0 : Nat} {w w' : World} {n hb : Nat} {H : Nat → Bool} (h : HaveOk w n hb H) (hF : Fr B0 w w') : HaveOk w' n hb H :=
  h.of_block fun c hc => (hF.2 _ _ _ _ (by decide) (by decide) (by decide) hc).trans hc.symm

theorem rowIs_drewN {w : World} {b t n : Nat} {f : Nat → Value} (h : w.rowIs b t n f) (k : Nat) : (w.drewN k).rowIs b t n f := h.of_block rfl

variable {w0 w : World} {n m hb bt bp bm : Nat} {H : Nat → Bool} {P : Nat → Option Nat} {E : Nat → Nat → Int × Int} {W : Nat → Int}
theorem St.alloc (h : St w0 w n m hb bt bp bm H P E W) (o : Obj) : St w0 (w.alloc o) n m hb bt bp bm H P E W :=
  ⟨h.below.alloc h.below.size o, h.have_.alloc o, (Below.heap_alloc _ _ _ (blk_lt h.tvar)).trans h.tvar, h.tab.alloc o⟩
theorem St.drewN (h : St w0 w n m hb bt bp bm H P E W) (k : Nat) : St w0 (w.drewN k) n m hb bt bp bm H P E W :=
  ⟨below_drewN h.below k, h.have_.drewN k, h.tvar, h.tab.drewN k⟩
theorem St.setOther (h : St w0 w n m hb bt bp bm H P E W) {b t k : Nat} {f : Nat → Value} (hr : w.rowIs b t k f) (h1 : t ≠ 43) (h3 : t ≠ 46) (h4 : t ≠ 34) (h2 : t = 26 → b ≠ bm) (h5 : t = 4 → b ≠ hb) (hB : w0.heap.size ≤ b) (i : Nat) (v : Value) :
    St w0 (w.setCell ⟨b, i, none⟩ v) n m hb bt bp bm H P E W := by
  refine ⟨h.below.setCell hB v, h.have_.setOther hr h5 i v, ?_, h.tab.setOther hr h1 h3 h2 i v⟩
  refine (Below.heap_setCell _ _ _ _ ?_).trans h.tvar
  intro e
  have e' : bt = b := e
  obtain ⟨c, hc⟩ := rowIs_block hr
  rw [← e', h.tvar] at hc
  injection hc with hc
  injection hc with _ hc _
  exact h4 hc.symm
theorem St.t0 (h : St w0 w n m hb bt bp bm H P E W) : w.cell? ⟨bt, 0, none⟩ = some (.slice (some ⟨bp, 0, none⟩) n n) := heap_cell h.tvar 0
theorem St.t1 (h : St w0 w n m hb bt bp bm H P E W) : w.cell? ⟨bt, 1, none⟩ = some (.slice (some ⟨bm, 0, none⟩) m m) := heap_cell h.tvar 1

/-- The memory that the later segments read. -/
def WF (w0 w : World) (n m s hb bt bp bm bc bi : Nat) (H : Nat → Bool) (P : Nat → Option Nat) (E : Nat → Nat → Int × Int) (W : Nat → Int) (T : Nat → Bool) (f : Nat → Value) : Prop :=
  St w0 w n m hb bt bp bm H P E W ∧ w.rowIs bc 4 n (fun i => .bool (T i)) ∧ w.rowIs bi 3 s f
theorem WF.alloc {w0 w : World} {n m s hb bt bp bm bc bi : Nat} {H : Nat → Bool} {P : Nat → Option Nat} {E : Nat → Nat → Int × Int} {W : Nat → Int} {T : Nat → Bool} {f : Nat → Value} (h : WF w0 w n m s hb bt bp bm bc bi H P E W T f) (o : Obj) : WF w0 (w.alloc o) n m s hb bt bp bm bc bi H P E W T f :=
  ⟨h.1.alloc o, h.2.1.alloc o, h.2.2.alloc o⟩
theorem WF.drewN {w0 w : World} {n m s hb bt bp bm bc bi : Nat} {H : Nat → Bool} {P : Nat → Option Nat} {E : Nat → Nat → Int × Int} {W : Nat → Int} {T : Nat → Bool} {f : Nat → Value} (h : WF w0 w n m s hb bt bp bm bc bi H P E W T f) (k : Nat) : WF w0 (w.drewN k) n m s hb bt bp bm bc bi H P E W T f :=
  ⟨h.1.drewN k, rowIs_drewN h.2.1 k, rowIs_drewN h.2.2 k⟩

theorem WF.setIdx {w0 w : World} {n m s hb bt bp bm bc bi : Nat} {H : Nat → Bool} {P : Nat → Option Nat} {E : Nat → Nat → Int × Int} {W : Nat → Int} {T : Nat → Bool} {f g : Nat → Value} (h : WF w0 w n m s hb bt bp bm bc bi H P E W T f) (hbi : w0.heap.size ≤ bi) (i : Nat) (v : Value)
    (hg : ∀ t, t < s → g t = if t = i then v else f t) : WF w0 (w.setCell ⟨bi, i, none⟩ v) n m s hb bt bp bm bc bi H P E W T g :=
  ⟨h.1.setOther h.2.2 (by decide) (by decide) (by decide) (fun e => absurd e (by decide)) (fun e => absurd e (by decide)) hbi i v,
    h.2.1.setOther (a := ⟨bi, i, none⟩) (rowIs_ne h.2.1 h.2.2 (by decide)) v, (h.2.2.set i v).congr fun t ht => (hg t ht).symm⟩

end Go.Proofs.Qxb6618452a
