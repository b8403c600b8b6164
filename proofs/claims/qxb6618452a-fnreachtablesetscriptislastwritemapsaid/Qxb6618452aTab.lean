/-
  What a table holds, as a relation on worlds; the contracts of set and of its exports over it.
-/
import Derived.Test.Qxb6618452aBase
namespace Go.Proofs.Qxb6618452a
open Go.ChangeShapes Go.WideShapes Go.ChangeAt Go.RowKit
set_option maxRecDepth 100000
set_option linter.unusedVariables false

/-- Below B0 nothing has turned; and no block of a type other than the table's own three has turned. -/
def Fr (B0 : Nat) (w w' : World) : Prop :=
  Below B0 w w' ∧ ∀ (g : Nat) (c : Array Value) (t : TypeId) (fz : Nat × Nat), t ≠ 43 → t ≠ 26 → t ≠ 46 → w.heap[g]? = some (.cells c t fz) → w'.heap[g]? = some (.cells c t fz)

theorem Fr.refl (B0 : Nat) (w : World) : Fr B0 w w := ⟨Below.refl _ _, fun _ _ _ _ _ _ _ h => h⟩
theorem Fr.trans {B0 : Nat} {a b c : World} (h : Fr B0 a b) (k : Fr B0 b c) : Fr B0 a c :=
  ⟨h.1.trans k.1, fun g x t fz h1 h2 h3 h4 => k.2 g x t fz h1 h2 h3 (h.2 g x t fz h1 h2 h3 h4)⟩
theorem blk_lt {w : World} {g : Nat} {o : Obj} (h : w.heap[g]? = some o) : g < w.heap.size := by
  obtain ⟨hlt, _⟩ := Array.getElem?_eq_some_iff.1 h
  exact hlt
theorem Fr.alloc {B0 : Nat} {a w : World} (h : Fr B0 a w) (hB : B0 ≤ w.heap.size) (o : Obj) : Fr B0 a (w.alloc o) :=
  h.trans ⟨(Below.refl _ _).alloc hB o, fun g x t fz _ _ _ h4 => (Below.heap_alloc _ _ _ (blk_lt h4)).trans h4⟩
theorem Fr.drew {B0 : Nat} {a w : World} (h : Fr B0 a w) : Fr B0 a w.drew := ⟨h.1.drew, h.2⟩
theorem Fr.drewN {B0 : Nat} {a w : World} (h : Fr B0 a w) (n : Nat) : Fr B0 a (w.drewN n) := ⟨below_drewN h.1 n, h.2⟩
theorem rowIs_block {w : World} {b t n : Nat} {f : Nat → Value} (h : w.rowIs b t n f) : ∃ c, w.heap[b]? = some (.cells c t (0, 0)) := by
  obtain ⟨c, hc, _⟩ := h; exact ⟨c, hc⟩
theorem Fr.set {B0 : Nat} {a w : World} (h : Fr B0 a w) {b t n : Nat} {f : Nat → Value} (hr : w.rowIs b t n f) (ht : t = 43 ∨ t = 26 ∨ t = 46) (hB : B0 ≤ b) (i : Nat) (v : Value) : Fr B0 a (w.setCell ⟨b, i, none⟩ v) := by
  refine h.trans ⟨(Below.refl _ _).setCell hB v, fun g x t' fz h1 h2 h3 h4 => ?_⟩
  obtain ⟨c, hc⟩ := rowIs_block hr
  rw [Below.heap_setCell _ _ _ _ ?_]
  · exact h4
  · intro e
    have e' : g = b := e
    subst e'
    rw [h4] at hc
    injection hc with hc
    injection hc with _ hc _
    rcases ht with e | e | e
    · exact h1 (hc.trans e)
    · exact h2 (hc.trans e)
    · exact h3 (hc.trans e)
theorem rowIs_ne {w : World} {b b' t t' n n' : Nat} {f f' : Nat → Value} (h : w.rowIs b t n f) (h' : w.rowIs b' t' n' f') (hne : t ≠ t') : b ≠ b' := by
  intro e; subst e
  obtain ⟨c, hc⟩ := rowIs_block h
  obtain ⟨c', hc'⟩ := rowIs_block h'
  rw [hc] at hc'
  simp at hc'
  exact hne hc'.2
theorem Fr.row {B0 : Nat} {w w' : World} (h : Fr B0 w w') {b t n : Nat} {f : Nat → Value} (hr : w.rowIs b t n f) (h1 : t ≠ 43) (h2 : t ≠ 26) (h3 : t ≠ 46) : w'.rowIs b t n f := by
  obtain ⟨c, hc⟩ := rowIs_block hr
  exact hr.of_block ((h.2 b c t _ h1 h2 h3 hc).trans hc.symm)

/-- The value of cell c of a piece whose entry e is 'E e'. -/
def ent (E : Nat → Int × Int) (c : Nat) : Value := if c % 2 = 0 then .int .u32 (E (c / 2)).1 else .int .i8 (E (c / 2)).2

/-- A TABLE: its row of pieces at block bp, its bitmap's words at block bm; piece i lies at block 'P i', its entry e is 'E i e'; word j is 'W j'. -/
structure Tab (w : World) (B0 n m bp bm : Nat) (P : Nat → Option Nat) (E : Nat → Nat → Int × Int) (W : Nat → Int) : Prop where
  pieces : w.rowIs bp 43 n (fun i => .pointer ((P i).map fun b => ⟨b, 0, none⟩))
  words : w.rowIs bm 26 m (fun j => .int .u64 (W j))
  piece : ∀ i b, i < n → P i = some b → w.rowIs b 46 2048 (ent (E i))
  apart : ∀ i j b, i < n → j < n → P i = some b → P j = some b → i = j
  empty : ∀ i, i < n → P i = none → ∀ e, e < 1024 → E i e = (0, 0)
  lowp : B0 ≤ bp
  lowm : B0 ≤ bm
  low : ∀ i b, i < n → P i = some b → B0 ≤ b

theorem Tab.of_blocks {w w' : World} {B0 n m bp bm : Nat} {P : Nat → Option Nat} {E : Nat → Nat → Int × Int} {W : Nat → Int} (h : Tab w B0 n m bp bm P E W)
    (hk : ∀ (g : Nat) (c : Array Value) (t : TypeId), t = 43 ∨ t = 26 ∨ t = 46 → w.heap[g]? = some (.cells c t (0, 0)) → w'.heap[g]? = w.heap[g]?) : Tab w' B0 n m bp bm P E W := by
  refine ⟨?_, ?_, ?_, h.apart, h.empty, h.lowp, h.lowm, h.low⟩
  · obtain ⟨c, hc⟩ := rowIs_block h.pieces
    exact h.pieces.of_block (hk _ c 43 (by simp) hc)
  · obtain ⟨c, hc⟩ := rowIs_block h.words
    exact h.words.of_block (hk _ c 26 (by simp) hc)
  · intro i b hi hb
    obtain ⟨c, hc⟩ := rowIs_block (h.piece i b hi hb)
    exact (h.piece i b hi hb).of_block (hk _ c 46 (by simp) hc)
theorem Tab.alloc {w : World} {B0 n m bp bm : Nat} {P : Nat → Option Nat} {E : Nat → Nat → Int × Int} {W : Nat → Int} (h : Tab w B0 n m bp bm P E W) (o : Obj) : Tab (w.alloc o) B0 n m bp bm P E W :=
  h.of_blocks fun g c t _ hc => Below.heap_alloc _ _ _ (blk_lt hc)
theorem Tab.drewN {w : World} {B0 n m bp bm : Nat} {P : Nat → Option Nat} {E : Nat → Nat → Int × Int} {W : Nat → Int} (h : Tab w B0 n m bp bm P E W) (k : Nat) : Tab (w.drewN k) B0 n m bp bm P E W :=
  h.of_blocks fun _ _ _ _ _ => rfl
theorem Tab.drew {w : World} {B0 n m bp bm : Nat} {P : Nat → Option Nat} {E : Nat → Nat → Int × Int} {W : Nat → Int} (h : Tab w B0 n m bp bm P E W) : Tab w.drew B0 n m bp bm P E W :=
  h.of_blocks fun _ _ _ _ _ => rfl
/-- A store into a block that is none of the table's. -/
theorem Tab.setOther {w : World} {B0 n m bp bm : Nat} {P : Nat → Option Nat} {E : Nat → Nat → Int × Int} {W : Nat → Int} (h : Tab w B0 n m bp bm P E W) {b t k : Nat} {f : Nat → Value} (hr : w.rowIs b t k f)
    (h1 : t ≠ 43) (h3 : t ≠ 46) (h2 : t = 26 → b ≠ bm) (i : Nat) (v : Value) : Tab (w.setCell ⟨b, i, none⟩ v) B0 n m bp bm P E W := by
  have hne : ∀ {b' t' k' : Nat} {f' : Nat → Value}, w.rowIs b' t' k' f' → t' ≠ t → b' ≠ b := fun h' ht => rowIs_ne h' hr ht
  refine ⟨h.pieces.setOther (hne h.pieces (fun e => h1 e.symm)) v, h.words.setOther ?_ v, fun i b hi hb => (h.piece i b hi hb).setOther (hne (h.piece i b hi hb) (fun e => h3 e.symm)) v, h.apart, h.empty, h.lowp, h.lowm, h.low⟩
  by_cases e : t = 26
  · exact fun e' => h2 e e'.symm
  · exact hne h.words (fun e' => e e'.symm)

/-- The entries behind a set. -/
def setE (E : Nat → Nat → Int × Int) (b : Nat) (r l : Int) (i e : Nat) : Int × Int := if i = b / 1024 ∧ e = b % 1024 then (r, l) else E i e
/-- The words behind a set. -/
def setW (P : Nat → Option Nat) (W : Nat → Int) (b j : Nat) : Int := if P (b / 1024) = none ∧ j = b / 1024 / 64 then orb (W j) (b / 1024 % 64) else W j

theorem ent_congr {E E' : Nat → Int × Int} {c : Nat} (h : E (c / 2) = E' (c / 2)) : ent E c = ent E' c := by unfold ent; rw [h]
theorem ent_set {E : Nat → Int × Int} {e : Nat} {r l : Int} (c : Nat) :
    (if c = e * 2 + 1 then Value.int .i8 l else if c = e * 2 then .int .u32 r else ent E c) = ent (fun e' => if e' = e then (r, l) else E e') c := by
  unfold ent
  by_cases h1 : c = e * 2 + 1
  · have h3 : c / 2 = e := by omega
    have h2 : ¬ c % 2 = 0 := by omega
    rw [if_pos h1, if_neg h2, h3]; simp
  · by_cases h2 : c = e * 2
    · subst h2; simp
    · have h3 : ¬ c / 2 = e := by omega
      simp [h1, h2, h3]

/-- The same table, its entries and words said otherwise. -/
theorem Tab.congr {w : World} {B0 n m bp bm : Nat} {P : Nat → Option Nat} {E E' : Nat → Nat → Int × Int} {W W' : Nat → Int} (h : Tab w B0 n m bp bm P E W) (hE : ∀ i e, i < n → e < 1024 → E i e = E' i e) (hW : ∀ j, j < m → W j = W' j) : Tab w B0 n m bp bm P E' W' :=
  ⟨h.pieces, h.words.congr fun j hj => by rw [hW j hj], fun i b hi hb => (h.piece i b hi hb).congr fun c hc => ent_congr (hE i (c / 2) hi (by omega)), h.apart,
    fun i hi hP e he => by rw [← hE i e hi he]; exact h.empty i hi hP e he, h.lowp, h.lowm, h.low⟩

theorem set_any (w : World) (B0 n m bp bm c1 c2 b : Nat) (P : Nat → Option Nat) (E : Nat → Nat → Int × Int) (W : Nat → Int) (r l : Int) (hT : Tab w B0 n m bp bm P E W)
    (hn : n ≤ 4096) (hm : m ≤ 65536) (hnm : n ≤ 64 * m) (hb : b < n * 1024) (hB : B0 ≤ w.heap.size) :
    Calls Try.prog 10 #[.agg #[.slice (some ⟨bp, 0, none⟩) n c1, .slice (some ⟨bm, 0, none⟩) m c2], .int .u64 (b : Int), .agg #[.int .u32 r, .int .i8 l]] w fun e w' => e = .returned (.tuple #[]) ∧
      (∃ P', Tab w' B0 n m bp bm P' (setE E b r l) (setW P W b) ∧ ∀ i, P' i = none ↔ (P i = none ∧ i ≠ b / 1024)) ∧ Fr B0 w w' := by
  have hp : b / 1024 < n := by omega
  have hcp := hT.pieces.cell hp
  cases hP : P (b / 1024) with
  | some g =>
    rw [hP] at hcp
    have hg := hT.piece _ g hp hP
    have hgB := hT.low _ g hp hP
    have k1 := hg.cell (i := b % 1024 * 2) (by omega)
    have k2 := hg.cell (i := b % 1024 * 2 + 1) (by omega)
    rw [show ent (E (b / 1024)) (b % 1024 * 2) = .int .u32 (E (b / 1024) (b % 1024)).1 from by
      unfold ent; rw [if_pos (by omega), show b % 1024 * 2 / 2 = b % 1024 from by omega]] at k1
    rw [show ent (E (b / 1024)) (b % 1024 * 2 + 1) = .int .i8 (E (b / 1024) (b % 1024)).2 from by
      unfold ent; rw [if_neg (by omega), show (b % 1024 * 2 + 1) / 2 = b % 1024 from by omega]] at k2
    refine (set_some bp bm n m c1 c2 b g r l _ _ w hp hn (by omega) hcp k1 k2 (hg.frozen _) (hg.frozen _) hT.pieces.lt hg.lt).mono ?_
    rintro e w' ⟨rfl, rfl⟩
    refine ⟨rfl, ⟨P, ?_, ?_⟩, ?_⟩
    · refine Tab.drew (Tab.alloc (Tab.alloc ?_ _) _)
      have hg1 := hg.set (b % 1024 * 2) (.int .u32 r)
      have hg2 := hg1.set (b % 1024 * 2 + 1) (.int .i8 l)
      have nep : bp ≠ g := rowIs_ne hT.pieces hg (by decide)
      have nem : bm ≠ g := rowIs_ne hT.words hg (by decide)
      refine ⟨(hT.pieces.setOther nep _).setOther nep _, ?_, ?_, hT.apart, ?_, hT.lowp, hT.lowm, hT.low⟩
      · refine ((hT.words.setOther nem _).setOther nem _).congr fun j _ => ?_
        simp [setW, hP]
      · intro i b' hi hb'
        by_cases e : i = b / 1024
        · subst e
          rw [hP] at hb'
          obtain rfl := Option.some.inj hb'
          refine hg2.congr fun c _ => ?_
          rw [ent_set]
          congr 1
          funext e'
          simp [setE]
        · have neg : b' ≠ g := fun e' => e (hT.apart i _ g hi hp (e' ▸ hb') hP)
          have := ((hT.piece i b' hi hb').setOther (a := ⟨g, b % 1024 * 2, none⟩) neg (.int .u32 r)).setOther (a := ⟨g, b % 1024 * 2 + 1, none⟩) neg (.int .i8 l)
          refine this.congr fun c _ => ?_
          congr 1
          funext e'
          simp [setE, e]
      · intro i hi hPi e he
        have : i ≠ b / 1024 := fun h => by rw [h, hP] at hPi; cases hPi
        simp [setE, this, hT.empty i hi hPi e he]
    · intro i
      constructor
      · intro h
        exact ⟨h, fun e => by rw [e, hP] at h; cases h⟩
      · exact fun h => h.1
    · refine Fr.drew (Fr.alloc (Fr.alloc ?_ (by simpa using hB) _) (by simp; omega) _)
      exact ((Fr.refl B0 w).set hg (by simp) hgB _ _).set (hg.set _ _) (by simp) hgB _ _
  | none =>
    rw [hP] at hcp
    have hj : b / 1024 / 64 < m := by omega
    have ne : bp ≠ bm := rowIs_ne hT.pieces hT.words (by decide)
    refine (set_none bp bm n m c1 c2 b r l (W (b / 1024 / 64)) w hp hn (by omega) hm hj hcp (hT.pieces.frozen _) (hT.words.cell hj) (hT.words.frozen _) ne hT.pieces.lt hT.words.lt).mono ?_
    rintro e w' ⟨rfl, rfl⟩
    obtain ⟨w3, hw3⟩ : ∃ w3, w3 = ((w.alloc (.cells #[.slice (some ⟨bp, 0, none⟩) n c1, .slice (some ⟨bm, 0, none⟩) m c2] 34)).alloc (.cells #[.int .u32 r, .int .i8 l] 45)).alloc (.cells Z46 46) := ⟨_, rfl⟩
    rw [← hw3]
    have hT3 : Tab w3 B0 n m bp bm P E W := by rw [hw3]; exact ((hT.alloc _).alloc _).alloc _
    have hF3 : Fr B0 w w3 := by rw [hw3]; exact (((Fr.refl B0 w).alloc hB _).alloc (by simp; omega) _).alloc (by simp; omega) _
    obtain ⟨g, hg0⟩ : ∃ g, g = w.heap.size + 1 + 1 := ⟨_, rfl⟩
    have hg : w3.rowIs g 46 2048 (ent fun _ => (0, 0)) := by
      have := World.rowIs_alloc ((w.alloc (.cells #[.slice (some ⟨bp, 0, none⟩) n c1, .slice (some ⟨bm, 0, none⟩) m c2] 34)).alloc (.cells #[.int .u32 r, .int .i8 l] 45)) Z46 46 (ent fun _ => (0, 0)) (fun i hi => by
        rw [Z46_get i (by rw [Z46_size] at hi; exact hi)]; rfl)
      rw [Z46_size, ← hw3] at this
      rw [hg0]
      simpa using this
    have hgB : B0 ≤ g := by omega
    have hgn : ∀ i b', i < n → P i = some b' → b' ≠ g := fun i b' hi hb' e => by
      have := (hT.piece i b' hi hb').lt
      omega
    rw [← hg0]
    clear hg0 hw3
    have nep : bp ≠ g := rowIs_ne hT3.pieces hg (by decide)
    have nem : bm ≠ g := rowIs_ne hT3.words hg (by decide)
    refine ⟨rfl, ⟨fun i => if i = b / 1024 then some g else P i, ?_, ?_⟩, ?_⟩
    · refine Tab.drew ?_
      refine ⟨?_, ?_, ?_, ?_, ?_, hT.lowp, hT.lowm, ?_⟩
      · refine ((((hT3.pieces.set _ _).setOther (a := ⟨bm, _, none⟩) ne _).setOther (a := ⟨g, _, none⟩) nep _).setOther (a := ⟨g, _, none⟩) nep _).congr fun i _ => ?_
        by_cases e : i = b / 1024
        · simp [e]
        · simp [e]
      · refine ((((hT3.words.setOther (a := ⟨bp, _, none⟩) ne.symm _).set _ _).setOther (a := ⟨g, _, none⟩) nem _).setOther (a := ⟨g, _, none⟩) nem _).congr fun j _ => ?_
        by_cases e : j = b / 1024 / 64
        · subst e; simp [setW, hP]
        · simp [setW, e]
      · intro i b' hi hb'
        by_cases e : i = b / 1024
        · subst e
          simp at hb'
          subst hb'
          refine ((((hg.setOther (a := ⟨bp, _, none⟩) nep.symm _).setOther (a := ⟨bm, _, none⟩) nem.symm _).set _ _).set _ _).congr fun c hc => ?_
          rw [ent_set]
          refine ent_congr ?_
          simp [setE, hT.empty _ hp hP (c / 2) (by omega)]
        · simp [e] at hb'
          have neg := hgn i b' hi hb'
          have nb1 : b' ≠ bp := rowIs_ne (hT3.piece i b' hi hb') hT3.pieces (by decide)
          have nb2 : b' ≠ bm := rowIs_ne (hT3.piece i b' hi hb') hT3.words (by decide)
          refine (((((hT3.piece i b' hi hb').setOther (a := ⟨bp, _, none⟩) nb1 _).setOther (a := ⟨bm, _, none⟩) nb2 _).setOther (a := ⟨g, _, none⟩) neg _).setOther (a := ⟨g, _, none⟩) neg _).congr fun c _ => ?_
          congr 1
          funext e'
          simp [setE, e]
      · intro i j b' hi hj' h1 h2
        by_cases e : i = b / 1024
        · by_cases e' : j = b / 1024
          · rw [e, e']
          · simp [e] at h1
            simp [e'] at h2
            exact absurd h1.symm (hgn j b' hj' h2)
        · by_cases e' : j = b / 1024
          · simp [e'] at h2
            simp [e] at h1
            exact absurd h2.symm (hgn i b' hi h1)
          · simp [e] at h1
            simp [e'] at h2
            exact hT.apart i j b' hi hj' h1 h2
      · intro i hi hPi e he
        by_cases e1 : i = b / 1024
        · simp [e1] at hPi
        · simp [e1] at hPi
          simp [setE, e1, hT.empty i hi hPi e he]
      · intro i b' hi hb'
        by_cases e : i = b / 1024
        · simp [e] at hb'; omega
        · simp [e] at hb'
          exact hT.low i b' hi hb'
    · intro i
      by_cases e : i = b / 1024
      · simp [e]
      · simp [e]
    · refine Fr.drew ?_
      have s1 := hT3.pieces.set (b / 1024) (.pointer (some ⟨g, 0, none⟩))
      have hw1 := hT3.words.setOther (a := ⟨bp, b / 1024, none⟩) ne.symm (.pointer (some ⟨g, 0, none⟩))
      have hg1 := hg.setOther (a := ⟨bp, b / 1024, none⟩) nep.symm (.pointer (some ⟨g, 0, none⟩))
      have hg2 := hg1.setOther (a := ⟨bm, b / 1024 / 64, none⟩) nem.symm (.int .u64 (orb (W (b / 1024 / 64)) (b / 1024 % 64)))
      exact (((hF3.set hT3.pieces (by simp) hT.lowp _ _).set hw1 (by simp) hT.lowm _ _).set hg2 (by simp) hgB _ _).set (hg2.set _ _) (by simp) hgB _ _
end Go.Proofs.Qxb6618452a
