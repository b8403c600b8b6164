/-
  Plain laws: no Go in sight.
-/
import Derived.Test.Qxb6618452aPlain
namespace Go.Proofs.Qxb6618452a
set_option linter.unusedVariables false
set_option maxRecDepth 100000

/-! ### Entries -/
theorem ent_none (Bk : Nat → Nat) (R L : Nat → Int) : ∀ (s b : Nat), (∀ k, k < s → Bk k ≠ b) → Ent Bk R L s b = (0, 0)
  | 0, b, _ => rfl
  | s + 1, b, h => by
    rw [Ent, if_neg (h s (by omega))]
    exact ent_none Bk R L s b fun k hk => h k (by omega)
theorem ent_last (Bk : Nat → Nat) (R L : Nat → Int) : ∀ (s k : Nat), k < s → Last Bk s k → Ent Bk R L s (Bk k) = (R k, L k)
  | 0, k, h, _ => by omega
  | s + 1, k, h, hl => by
    rw [Ent]
    by_cases e : k = s
    · subst e; simp
    · rw [if_neg (hl s (by omega) (by omega))]
      exact ent_last Bk R L s k (by omega) fun j h1 h2 => hl j h1 (by omega)
theorem last_exists (Bk : Nat → Nat) : ∀ (s b : Nat), (∃ k, k < s ∧ Bk k = b) → ∃ k, k < s ∧ Last Bk s k ∧ Bk k = b
  | 0, b, ⟨k, hk, _⟩ => by omega
  | s + 1, b, ⟨k, hk, hb⟩ => by
    by_cases e : Bk s = b
    · exact ⟨s, by omega, fun j h1 h2 => by omega, e⟩
    · have hks : k < s := by
        rcases Nat.lt_or_ge k s with h | h
        · exact h
        · have : k = s := by omega
          subst this; exact absurd hb e
      obtain ⟨k', h1, h2, h3⟩ := last_exists Bk s b ⟨k, hks, hb⟩
      refine ⟨k', by omega, fun j h4 h5 => ?_, h3⟩
      by_cases e' : j = s
      · subst e'; rw [h3]; exact e
      · exact h2 j h4 (by omega)

/-! ### Pieces -/
theorem tch_of (Bk : Nat → Nat) : ∀ (s k i : Nat), k < s → Bk k / 1024 = i → Tch Bk s i = true
  | 0, k, i, h, _ => by omega
  | s + 1, k, i, h, e => by
    rw [Tch]
    by_cases e' : k = s
    · subst e'; simp [e]
    · rw [tch_of Bk s k i (by omega) e]; rfl
theorem tch_lt (Bk : Nat → Nat) (n : Nat) : ∀ (s i : Nat), (∀ k, k < s → Bk k < n * 1024) → Tch Bk s i = true → i < n
  | 0, i, _, h => by cases h
  | s + 1, i, hd, h => by
    rw [Tch] at h
    by_cases e : Tch Bk s i = true
    · exact tch_lt Bk n s i (fun k hk => hd k (by omega)) e
    · have e' : Tch Bk s i = false := by simpa using e
      rw [e'] at h
      have h2 : Bk s / 1024 = i := by simpa using h
      have := hd s (by omega)
      omega

/-! ### The parting place -/
/-- Place q parts the keys at x. -/
def Part (Bk : Nat → Nat) (Y : Nat → Nat) (c q x : Nat) : Prop := q ≤ c ∧ (∀ t, t < q → Bk (Y t) < x) ∧ (∀ t, q ≤ t → t < c → x ≤ Bk (Y t))
theorem Part.hit {Bk Y : Nat → Nat} {c q x : Nat} (hS : Sorted Bk c Y) (h : Part Bk Y c q x) (hq : q < c) (e : Bk (Y q) = x) : Part Bk Y c (q + 1) (x + 1) := by
  refine ⟨by omega, fun t ht => ?_, fun t h1 h2 => ?_⟩
  · by_cases e' : t = q
    · subst e'; omega
    · have := h.2.1 t (by omega); omega
  · have := hS q t (by omega) h2
    omega
theorem Part.ne {Bk Y : Nat → Nat} {c q x : Nat} (hS : Sorted Bk c Y) (h : Part Bk Y c q x) (e : q < c → Bk (Y q) ≠ x) (t : Nat) (ht : t < c) : Bk (Y t) ≠ x := by
  rcases Nat.lt_or_ge t q with h1 | h1
  · have := h.2.1 t h1; omega
  · by_cases e' : t = q
    · subst e'; exact e ht
    · have h2 := hS q t (by omega) ht
      have h3 := h.2.2 q (Nat.le_refl _) (by omega)
      omega
theorem Part.miss {Bk Y : Nat → Nat} {c q x : Nat} (hS : Sorted Bk c Y) (h : Part Bk Y c q x) (e : q < c → Bk (Y q) ≠ x) : Part Bk Y c q (x + 1) := by
  refine ⟨h.1, fun t ht => ?_, fun t h1 h2 => ?_⟩
  · have := h.2.1 t ht; omega
  · have h3 := h.2.2 t h1 h2
    have h4 := h.ne hS e t h2
    omega
theorem Part.skip {Bk Y : Nat → Nat} {c q p : Nat} (h : Part Bk Y c q (p * 1024)) (e : ∀ t, t < c → Bk (Y t) / 1024 ≠ p) : Part Bk Y c q ((p + 1) * 1024) := by
  refine ⟨h.1, fun t ht => ?_, fun t h1 h2 => ?_⟩
  · have := h.2.1 t ht; omega
  · have h3 := h.2.2 t h1 h2
    have h4 := e t h2
    omega
theorem ent_hit (Bk : Nat → Nat) (R L : Nat → Int) {s c q x : Nat} {Y : Nat → Nat} (hL : Lasts Bk s c Y) (hq : q < c) (e : Bk (Y q) = x) : Ent Bk R L s x = (R (Y q), L (Y q)) := by
  rw [← e]; exact ent_last Bk R L s (Y q) (hL.lt q hq) (hL.last q hq)
theorem ent_miss (Bk : Nat → Nat) (R L : Nat → Int) {s c q x : Nat} {Y : Nat → Nat} (hL : Lasts Bk s c Y) (hS : Sorted Bk c Y) (h : Part Bk Y c q x) (e : q < c → Bk (Y q) ≠ x) : Ent Bk R L s x = (0, 0) := by
  refine ent_none Bk R L s x fun k hk hb => ?_
  obtain ⟨k', h1, h2, h3⟩ := last_exists Bk s x ⟨k, hk, hb⟩
  obtain ⟨p, hp, rfl⟩ := hL.all k' h1 h2
  exact h.ne hS e p hp h3

/-! ### Insertion -/
/-- The row while the hole stands at h: place h holds what it held, the places behind it up to i have moved by one. -/
def shift (Y : Nat → Nat) (h i t : Nat) : Nat := if t ≤ h then Y t else if t ≤ i then Y (t - 1) else Y t
/-- The row behind the insertion of Y i at place h. -/
def ins (Y : Nat → Nat) (h i t : Nat) : Nat := if t = h then Y i else shift Y h i t
/-- Where place t of the new row was in the old one. -/
def from_ (h i t : Nat) : Nat := if t = h then i else if t ≤ h then t else if t ≤ i then t - 1 else t
theorem ins_from (Y : Nat → Nat) (h i t : Nat) : ins Y h i t = Y (from_ h i t) := by
  unfold ins shift from_
  (repeat' split) <;> first | rfl | omega
theorem from_lt {h i c t : Nat} (hi : i < c) (ht : t < c) : from_ h i t < c := by
  unfold from_; (repeat' split) <;> omega
theorem from_inj {h i t u : Nat} (hh : h ≤ i) (e : from_ h i t = from_ h i u) : t = u := by
  unfold from_ at e; (repeat' split at e) <;> omega
theorem from_onto {h i c t : Nat} (hh : h ≤ i) (hi : i < c) (ht : t < c) : ∃ u, u < c ∧ from_ h i u = t := by
  refine ⟨if t = i then h else if t < h then t else if t < i then t + 1 else t, ?_, ?_⟩
  · (repeat' split) <;> omega
  · unfold from_; (repeat' split) <;> omega
theorem Lasts.ins {Bk Y : Nat → Nat} {s c h i : Nat} (hL : Lasts Bk s c Y) (hh : h ≤ i) (hi : i < c) : Lasts Bk s c (ins Y h i) := by
  refine ⟨fun p hp => ?_, fun p hp => ?_, fun p q hp hq e => ?_, fun k hk hl => ?_⟩
  · rw [ins_from]; exact hL.lt _ (from_lt hi hp)
  · rw [ins_from]; exact hL.last _ (from_lt hi hp)
  · rw [ins_from, ins_from] at e
    exact from_inj hh (hL.inj _ _ (from_lt hi hp) (from_lt hi hq) e)
  · obtain ⟨p, hp, rfl⟩ := hL.all k hk hl
    obtain ⟨u, hu, rfl⟩ := from_onto hh hi hp
    exact ⟨u, hu, by rw [ins_from]⟩
/-- The first i places are in order. -/
def SortTo (Bk Y : Nat → Nat) (c i : Nat) : Prop := ∀ p q, p < q → q < i → q < c → Bk (Y p) < Bk (Y q)
theorem SortTo.ins {Bk Y : Nat → Nat} {s c h i : Nat} (hL : Lasts Bk s c Y) (hS : SortTo Bk Y c i) (hh : h ≤ i) (hi : i < c) (h1 : ∀ t, h ≤ t → t < i → Bk (Y i) < Bk (Y t)) (h2 : 0 < h → Bk (Y (h - 1)) ≤ Bk (Y i)) :
    SortTo Bk (Proofs.Qxb6618452a.ins Y h i) c (i + 1) := by
  have h3 : ∀ t, t < h → Bk (Y t) < Bk (Y i) := by
    intro t ht
    have a := h2 (by omega)
    have b : Bk (Y (h - 1)) ≠ Bk (Y i) := fun e => by
      have := hL.inj _ _ (by omega) hi e
      omega
    by_cases e : t = h - 1
    · subst e; omega
    · have := hS t (h - 1) (by omega) (by omega) (by omega)
      omega
  intro p q hpq hq hqc
  rw [ins_from, ins_from]
  by_cases e : p = h
  · have e1 : from_ h i p = i := by unfold from_; rw [if_pos e]
    have e2 : from_ h i q = q - 1 := by unfold from_; (repeat' split) <;> omega
    rw [e1, e2]
    exact h1 (q - 1) (by omega) (by omega)
  · by_cases e' : q = h
    · have e1 : from_ h i p = p := by unfold from_; (repeat' split) <;> omega
      have e2 : from_ h i q = i := by unfold from_; rw [if_pos e']
      rw [e1, e2]
      exact h3 p (by omega)
    · have a : from_ h i p < from_ h i q := by unfold from_; (repeat' split) <;> omega
      have b : from_ h i q < i := by unfold from_; (repeat' split) <;> omega
      exact hS _ _ a b (by omega)

/-! ### Gathering the last writes -/
/-- Y 0 .. Y (c - 1) are, in order, the last writes among the first k steps. -/
structure LTo (Bk : Nat → Nat) (s k c : Nat) (Y : Nat → Nat) : Prop where
  mono : ∀ p q, p < q → q < c → Y p < Y q
  lt : ∀ p, p < c → Y p < k
  last : ∀ p, p < c → Last Bk s (Y p)
  all : ∀ k', k' < k → Last Bk s k' → ∃ p, p < c ∧ Y p = k'
theorem LTo.zero (Bk : Nat → Nat) (s : Nat) (Y : Nat → Nat) : LTo Bk s 0 0 Y :=
  ⟨fun _ _ _ h => by omega, fun _ h => by omega, fun _ h => by omega, fun _ h => by omega⟩
theorem LTo.add {Bk : Nat → Nat} {s k c : Nat} {Y : Nat → Nat} (h : LTo Bk s k c Y) (hl : Last Bk s k) : LTo Bk s (k + 1) (c + 1) (fun t => if t = c then k else Y t) := by
  refine ⟨fun p q h1 h2 => ?_, fun p hp => ?_, fun p hp => ?_, fun k' hk hl' => ?_⟩
  · have e : p ≠ c := by omega
    by_cases e' : q = c
    · simp only [e, e', if_true, if_false]; exact h.lt p (by omega)
    · simp only [e, e', if_false]; exact h.mono p q h1 (by omega)
  · by_cases e : p = c
    · simp only [e, if_true]; omega
    · simp only [e, if_false]; have := h.lt p (by omega); omega
  · by_cases e : p = c
    · simp only [e, if_true]; exact hl
    · simp only [e, if_false]; exact h.last p (by omega)
  · by_cases e : k' = k
    · exact ⟨c, by omega, by simp [e]⟩
    · obtain ⟨p, hp, hY⟩ := h.all k' (by omega) hl'
      exact ⟨p, by omega, by rw [if_neg (by omega)]; exact hY⟩
theorem LTo.pass {Bk : Nat → Nat} {s k c : Nat} {Y : Nat → Nat} (h : LTo Bk s k c Y) (hl : ¬ Last Bk s k) : LTo Bk s (k + 1) c Y := by
  refine ⟨h.mono, fun p hp => ?_, h.last, fun k' hk hl' => ?_⟩
  · have := h.lt p hp; omega
  · by_cases e : k' = k
    · subst e; exact absurd hl' hl
    · exact h.all k' (by omega) hl'
theorem LTo.done {Bk : Nat → Nat} {s c : Nat} {Y : Nat → Nat} (h : LTo Bk s s c Y) : Lasts Bk s c Y := by
  refine ⟨h.lt, h.last, fun p q hp hq e => ?_, h.all⟩
  rcases Nat.lt_trichotomy p q with h1 | h1 | h1
  · exact absurd e.symm (h.last p hp _ (h.mono p q h1 hq) (h.lt q hq))
  · exact h1
  · exact absurd e (h.last q hq _ (h.mono q p h1 hp) (h.lt p hp))

/-! ### Words -/
theorem wrap64u (n : Int) : IntKind.u64.wrap n = n % 18446744073709551616 := by simp [IntKind.wrap, IntKind.bits, IntKind.signed]
theorem bits_or_nat (a b : Nat) (ha : a < 18446744073709551616) (hb : b < 18446744073709551616) : bits .or .u64 (a : Int) (b : Int) = ((a ||| b : Nat) : Int) := by
  have hx : a ||| b < 2 ^ 64 := Nat.or_lt_two_pow (by omega) (by omega)
  have h1 : (BitVec.ofInt 64 (a : Int)).toNat = a := by
    rw [BitVec.ofInt_natCast, BitVec.toNat_ofNat]; exact Nat.mod_eq_of_lt (by omega)
  have h2 : (BitVec.ofInt 64 (b : Int)).toNat = b := by
    rw [BitVec.ofInt_natCast, BitVec.toNat_ofNat]; exact Nat.mod_eq_of_lt (by omega)
  show IntKind.u64.wrap ((BitVec.ofInt 64 (a : Int) ||| BitVec.ofInt 64 (b : Int)).toNat : Int) = _
  rw [BitVec.toNat_or, h1, h2, wrap64u]
  omega
theorem pow_lt (t : Nat) (ht : t < 64) : 2 ^ t < 18446744073709551616 := by
  have : 2 ^ t < 2 ^ 64 := Nat.pow_lt_pow_right (by omega) ht
  omega
theorem orb_nat (x t : Nat) (hx : x < 18446744073709551616) (ht : t < 64) : orb (x : Int) t = ((x ||| 2 ^ t : Nat) : Int) := by
  have hp := pow_lt t ht
  unfold orb
  have e : IntKind.u64.wrap (2 ^ t) = ((2 ^ t : Nat) : Int) := by
    rw [wrap64u]
    have : ((2 : Int) ^ t) = ((2 ^ t : Nat) : Int) := by simp
    rw [this]
    obtain ⟨z, hz⟩ : ∃ z, z = 2 ^ t := ⟨_, rfl⟩
    rw [← hz] at hp ⊢
    omega
  rw [e]
  exact bits_or_nat x (2 ^ t) hx hp
theorem or_bit (x u t : Nat) : (x ||| 2 ^ u).testBit t = (x.testBit t || decide (u = t)) := by
  rw [Nat.testBit_or, Nat.testBit_two_pow]

theorem wd_bits (H : Nat → Bool) (M : Nat → Int) (Bk : Nat → Nat) (j μ : Nat) (hμ : M j = (μ : Int)) (hl : μ < 18446744073709551616) : ∀ k, ∃ x : Nat, x < 18446744073709551616 ∧ Wd H M Bk k j = (x : Int) ∧
    ∀ t, t < 64 → x.testBit t = (μ.testBit t || (!H (64 * j + t) && Tch Bk k (64 * j + t)))
  | 0 => ⟨μ, hl, hμ, fun t _ => by simp [Tch]⟩
  | k + 1 => by
    obtain ⟨x, hx, hw, hb⟩ := wd_bits H M Bk j μ hμ hl k
    by_cases e : (H (Bk k / 1024) || Tch Bk k (Bk k / 1024)) = false ∧ j = Bk k / 1024 / 64
    · have hu : Bk k / 1024 % 64 < 64 := by omega
      refine ⟨x ||| 2 ^ (Bk k / 1024 % 64), ?_, ?_, fun t ht => ?_⟩
      · have := pow_lt _ hu
        have : x ||| 2 ^ (Bk k / 1024 % 64) < 2 ^ 64 := Nat.or_lt_two_pow (by omega) (by omega)
        omega
      · rw [Wd, if_pos e, hw, orb_nat x _ hx hu]
      · rw [or_bit, hb t ht, Tch]
        by_cases e2 : Bk k / 1024 % 64 = t
        · have e3 : Bk k / 1024 = 64 * j + t := by omega
          have e4 := e.1
          rw [e3] at e4
          have e5 : H (64 * j + t) = false := by
            cases h : H (64 * j + t) with
            | false => rfl
            | true => rw [h] at e4; simp at e4
          simp [e3, e5, ht]
        · have e3 : ¬ Bk k / 1024 = 64 * j + t := by omega
          simp [e2, e3]
    · refine ⟨x, hx, by rw [Wd, if_neg e, hw], fun t ht => ?_⟩
      rw [hb t ht, Tch]
      by_cases e2 : Bk k / 1024 = 64 * j + t
      · have e3 : j = Bk k / 1024 / 64 := by omega
        have e4 : ¬ (H (Bk k / 1024) || Tch Bk k (Bk k / 1024)) = false := fun h => e ⟨h, e3⟩
        rw [e2] at e4
        cases h1 : H (64 * j + t) with
        | true => simp
        | false =>
          cases h2 : Tch Bk k (64 * j + t) with
          | true => simp
          | false => rw [h1, h2] at e4; simp at e4
      · simp [e2]
theorem ex_bits (H : Nat → Bool) (M : Nat → Int) (Bk : Nat → Nat) (s j μ : Nat) (hμ : M j = (μ : Int)) (hl : μ < 18446744073709551616) : ∀ i, ∃ x : Nat, x < 18446744073709551616 ∧ Ex H M Bk s i j = (x : Int) ∧
    ∀ t, t < 64 → x.testBit t = (μ.testBit t || (decide (64 * j + t < i) && (!H (64 * j + t) && Tch Bk s (64 * j + t))))
  | 0 => ⟨μ, hl, hμ, fun t _ => by simp⟩
  | i + 1 => by
    obtain ⟨x, hx, hw, hb⟩ := ex_bits H M Bk s j μ hμ hl i
    by_cases e : (!H i && Tch Bk s i) = true ∧ j = i / 64
    · have hu : i % 64 < 64 := by omega
      refine ⟨x ||| 2 ^ (i % 64), ?_, ?_, fun t ht => ?_⟩
      · have := pow_lt _ hu
        have : x ||| 2 ^ (i % 64) < 2 ^ 64 := Nat.or_lt_two_pow (by omega) (by omega)
        omega
      · rw [Ex, if_pos e, hw, orb_nat x _ hx hu]
      · rw [or_bit, hb t ht]
        by_cases e2 : i % 64 = t
        · have e3 : 64 * j + t = i := by omega
          have e4 := e.1
          rw [e3]
          simp [e2, e4]
        · have e3 : (64 * j + t < i + 1) ↔ (64 * j + t < i) := by omega
          simp [e2, e3]
    · refine ⟨x, hx, by rw [Ex, if_neg e, hw], fun t ht => ?_⟩
      rw [hb t ht]
      by_cases e2 : 64 * j + t = i
      · have e3 : j = i / 64 := by omega
        have e4 : (!H i && Tch Bk s i) = false := by
          cases h : (!H i && Tch Bk s i) with
          | false => rfl
          | true => exact absurd ⟨h, e3⟩ e
        rw [e2, e4]
        simp
      · have e3 : (64 * j + t < i + 1) ↔ (64 * j + t < i) := by omega
        simp [e3]
theorem ex_eq_wd (H : Nat → Bool) (M : Nat → Int) (Bk : Nat → Nat) (s n m : Nat) (hM : ∀ i, i < m → 0 ≤ M i ∧ M i < 18446744073709551616) (hd : ∀ k, k < s → Bk k < n * 1024) (j : Nat) (hj : j < m) :
    Ex H M Bk s n j = Wd H M Bk s j := by
  obtain ⟨h1, h2⟩ := hM j hj
  obtain ⟨μ, hμ⟩ := Int.eq_ofNat_of_zero_le h1
  have hl : μ < 18446744073709551616 := by omega
  obtain ⟨x, hx, ex, bx⟩ := ex_bits H M Bk s j μ hμ hl n
  obtain ⟨y, hy, ey, wy⟩ := wd_bits H M Bk j μ hμ hl s
  rw [ex, ey]
  have : x = y := by
    apply Nat.eq_of_testBit_eq
    intro t
    by_cases ht : t < 64
    · rw [bx t ht, wy t ht]
      cases hT : Tch Bk s (64 * j + t) with
      | false => simp
      | true =>
        have := tch_lt Bk n s (64 * j + t) hd hT
        simp [this]
    · have a : ∀ z : Nat, z < 18446744073709551616 → z.testBit t = false := fun z hz => by
        apply Nat.testBit_lt_two_pow
        have : 2 ^ 64 ≤ 2 ^ t := Nat.pow_le_pow_right (by omega) (by omega)
        omega
      rw [a x hx, a y hy]
  rw [this]
end Go.Proofs.Qxb6618452a
