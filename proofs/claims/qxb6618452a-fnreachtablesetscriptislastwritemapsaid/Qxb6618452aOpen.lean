/-
  The arguments opened: a slice of bools, of words, of steps.
-/
import Derived.Test.Qxb6618452aRows
import Derived.WalkKit
import Derived.ProofKit
import Derived.OpenShut
import Derived.ShutString
import Derived.ChangeOld
import Derived.Below
import Derived.Deep.Slices
import Derived.Deep.Strs
namespace Go.Proofs.Qxb6618452a
open Go.ChangeShapes Go.WideShapes Go.ChangeAt Go.RowKit Go.Deep
set_option linter.unusedVariables false

theorem spot_of {w : World} {a : Addr} {v : Value} (h : w.cell? a = some v) : a = ⟨a.block, a.off, none⟩ := by
  obtain ⟨b, o, s⟩ := a
  cases s with
  | none => rfl
  | some x =>
    unfold World.cell? at h
    split at h
    · simp at h
    · cases h
theorem add_zero_form (a : Addr) : a.add 0 = a := by
  unfold Addr.add; simp
theorem add_form (b o i : Nat) : (⟨b, o, none⟩ : Addr).add i = ⟨b, o + i, none⟩ := by
  unfold Addr.add
  by_cases hi : i = 0 <;> simp [hi]

section
variable {H : Type} {enc : TypeId × Value → H} {w : World} {base : Nat} {spare : Nat → Bool} {held : Bool}

theorem open_have {fuel n c : Nat} {a0 : Option Addr} {x : DataW H × List MemPlace} (h : DataW.trod enc Try.prog w base spare held fuel 22 [.slice a0 n c] = some x) :
    ∃ Hv : Nat → Bool, (a0 = none ∧ n = 0) ∨ ∃ x, a0 = some x ∧ ∀ i, i < n → w.cell? (x.add i) = some (.bool (Hv i)) := by
  rcases open_slice1 Try.underlying22 (by kernel_rfl) h with ⟨hcs, _⟩ | ⟨a, len, cap, m, k, V, D, Pl, hcs, _, hl, _, hm, _, hx⟩
  · simp at hcs
    exact ⟨fun _ => false, .inl ⟨hcs.1, hcs.2.1⟩⟩
  · simp at hcs
    obtain ⟨rfl, rfl, rfl⟩ := hcs
    have hle : n ≤ m := by rw [hm]; split <;> omega
    obtain ⟨f, hf⟩ := choose_lt (α := Bool) (n := n) (p := fun i b => w.cell? (a.add i) = some (.bool b)) (fun i hi => by
      obtain ⟨h1, h2⟩ := hx i (by omega)
      obtain ⟨b, h3, _⟩ := DataW.trod_bool Try.underlying4 h2
      simp at h3
      exact ⟨b, by rw [h1, h3]⟩)
    exact ⟨f, .inr ⟨a, rfl, hf⟩⟩

theorem open_made {fuel m c : Nat} {a0 : Option Addr} {x : DataW H × List MemPlace} (h : DataW.trod enc Try.prog w base spare held fuel 23 [.slice a0 m c] = some x) :
    ∃ (xb xo : Nat) (M : Nat → Int), (0 < m → a0 = some ⟨xb, xo, none⟩) ∧ (∀ i, i < m → w.cell? ⟨xb, xo + i, none⟩ = some (.int .u64 (M i))) ∧ ∀ i, i < m → 0 ≤ M i ∧ M i < 18446744073709551616 := by
  rcases open_slice1 Try.underlying23 (by kernel_rfl) h with ⟨hcs, _⟩ | ⟨a, len, cap, k, j, V, D, Pl, hcs, _, hl, _, hm, _, hx⟩
  · simp at hcs
    obtain ⟨rfl, rfl, rfl⟩ := hcs
    exact ⟨0, 0, fun _ => 0, fun h => by omega, fun i h => by omega, fun i h => by omega⟩
  · simp at hcs
    obtain ⟨rfl, rfl, rfl⟩ := hcs
    have hle : m ≤ k := by rw [hm]; split <;> omega
    obtain ⟨f, hf⟩ := choose_lt (α := Int) (n := m) (p := fun i b => w.cell? (a.add i) = some (.int .u64 b) ∧ (Lit.int .u64 b).wf = true) (fun i hi => by
      obtain ⟨h1, h2⟩ := hx i (by omega)
      obtain ⟨b, h3, _, h4⟩ := DataW.trod_int Try.underlying26 h2
      simp at h3
      exact ⟨b, by rw [h1, h3], h4⟩)
    refine ⟨a.block, a.off, f, fun h => ?_, fun i hi => ?_, fun i hi => ?_⟩
    · have := (hf 0 h).1
      rw [add_zero_form] at this
      rw [← spot_of this]
    · have h0 := (hf 0 (by omega)).1
      rw [add_zero_form] at h0
      have := (hf i hi).1
      rw [spot_of h0, add_form] at this
      exact this
    · have := bounds_u64 (hf i hi).2
      omega

theorem open_steps {fuel s c : Nat} {a0 : Option Addr} {x : DataW H × List MemPlace} (h : DataW.trod enc Try.prog w base spare held fuel 24 [.slice a0 s c] = some x) :
    ∃ (yb yo : Nat) (Bk : Nat → Nat) (R L : Nat → Int), (0 < s → a0 = some ⟨yb, yo, none⟩) ∧ (∀ i, i < s → w.cell? ⟨yb, yo + i * 3, none⟩ = some (.int .u64 (Bk i : Int))) ∧
      (∀ i, i < s → w.cell? ⟨yb, yo + i * 3 + 1, none⟩ = some (.int .u32 (R i))) ∧ (∀ i, i < s → w.cell? ⟨yb, yo + i * 3 + 2, none⟩ = some (.int .i8 (L i))) := by
  have hc3 : Try.prog.cellsOf 30 = 3 := by kernel_rfl
  have hc26 : Try.prog.cellsOf 26 = 1 := by kernel_rfl
  have hc27 : Try.prog.cellsOf 27 = 1 := by kernel_rfl
  have hc28 : Try.prog.cellsOf 28 = 1 := by kernel_rfl
  rcases open_slice Try.underlying24 h with ⟨hcs, _⟩ | ⟨a, len, cap, k, j, D, Pl, hcs, _, hl, _, hm, _, hx⟩
  · simp at hcs
    obtain ⟨rfl, rfl, rfl⟩ := hcs
    exact ⟨0, 0, fun _ => 0, fun _ => 0, fun _ => 0, fun h => by omega, fun i h => by omega, fun i h => by omega, fun i h => by omega⟩
  · simp at hcs
    obtain ⟨rfl, rfl, rfl⟩ := hcs
    have hle : s ≤ k := by rw [hm]; split <;> omega
    obtain ⟨f, hf⟩ := choose_lt (α := Nat × Int × Int) (n := s) (p := fun i b => w.cell? (a.add (i * 3)) = some (.int .u64 (b.1 : Int)) ∧ w.cell? (a.add (i * 3 + 1)) = some (.int .u32 b.2.1) ∧ w.cell? (a.add (i * 3 + 2)) = some (.int .i8 b.2.2)) (fun i hi => by
      obtain ⟨cs, h1, h2⟩ := hx i (by omega)
      rw [hc3] at h1
      obtain ⟨_, hlen, hcell⟩ := World.cells?_some h1
      obtain ⟨y0, y1, y2, n', _, _, g0, g1, g2⟩ := trod_struct3 Try.underlying30 h2
      match cs, hlen with
      | [v0, v1, v2], _ =>
        simp only [hc26, hc27, hc28, List.drop_zero, List.drop_succ_cons, List.take_succ_cons, List.take_zero] at g0 g1 g2
        obtain ⟨b0, e0, _, w0⟩ := DataW.trod_int Try.underlying26 g0
        obtain ⟨b1, e1, _, _⟩ := DataW.trod_int Try.underlying27 g1
        obtain ⟨b2, e2, _, _⟩ := DataW.trod_int Try.underlying28 g2
        simp at e0 e1 e2
        have hb := bounds_u64 w0
        obtain ⟨n0, hn0⟩ := Int.eq_ofNat_of_zero_le (show 0 ≤ b0 by omega)
        have c0 := hcell 0 (by omega)
        have c1 := hcell 1 (by omega)
        have c2 := hcell 2 (by omega)
        rw [add_add] at c0 c1 c2
        refine ⟨(n0, b1, b2), ?_, ?_, ?_⟩
        · rw [show i * 3 = i * 3 + 0 from rfl, c0]; simp [e0, hn0]
        · rw [c1]; simp [e1]
        · rw [c2]; simp [e2])
    refine ⟨a.block, a.off, fun i => (f i).1, fun i => (f i).2.1, fun i => (f i).2.2, fun h => ?_, fun i hi => ?_, fun i hi => ?_, fun i hi => ?_⟩
    · have := (hf 0 h).1
      rw [Nat.zero_mul, add_zero_form] at this
      rw [← spot_of this]
    · have h0 := (hf 0 (by omega)).1
      rw [Nat.zero_mul, add_zero_form] at h0
      have := (hf i hi).1
      rw [spot_of h0, add_form] at this
      exact this
    · have h0 := (hf 0 (by omega)).1
      rw [Nat.zero_mul, add_zero_form] at h0
      have := (hf i hi).2.1
      rw [spot_of h0, add_form] at this
      rw [Nat.add_assoc]; exact this
    · have h0 := (hf 0 (by omega)).1
      rw [Nat.zero_mul, add_zero_form] at h0
      have := (hf i hi).2.2
      rw [spot_of h0, add_form] at this
      rw [Nat.add_assoc]; exact this
end
end Go.Proofs.Qxb6618452a
