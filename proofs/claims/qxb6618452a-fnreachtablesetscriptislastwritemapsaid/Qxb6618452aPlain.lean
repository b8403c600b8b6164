/-
  The plain mathematics: the entry that a script leaves at a block, the pieces that it touches, the words of the bitmap, the indices of the last writes. No Go in sight.
-/
import Derived.Test.Qxb6618452aBase
namespace Go.Proofs.Qxb6618452a

/-- Block b's entry behind the first k steps. -/
def Ent (Bk : Nat → Nat) (R L : Nat → Int) : Nat → Nat → Int × Int
  | 0, _ => (0, 0)
  | k + 1, b => if Bk k = b then (R k, L k) else Ent Bk R L k b
/-- Have the first k steps touched piece i? -/
def Tch (Bk : Nat → Nat) : Nat → Nat → Bool
  | 0, _ => false
  | k + 1, i => Tch Bk k i || decide (Bk k / 1024 = i)
/-- Word j of the made bitmap behind the first k steps. -/
def Wd (H : Nat → Bool) (M : Nat → Int) (Bk : Nat → Nat) : Nat → Nat → Int
  | 0, j => M j
  | k + 1, j => if (H (Bk k / 1024) || Tch Bk k (Bk k / 1024)) = false ∧ j = Bk k / 1024 / 64 then orb (Wd H M Bk k j) (Bk k / 1024 % 64) else Wd H M Bk k j
/-- Word j of the expected bitmap behind the first i pieces. -/
def Ex (H : Nat → Bool) (M : Nat → Int) (Bk : Nat → Nat) (s : Nat) : Nat → Nat → Int
  | 0, j => M j
  | i + 1, j => if (!H i && Tch Bk s i) = true ∧ j = i / 64 then orb (Ex H M Bk s i j) (i % 64) else Ex H M Bk s i j
/-- Step k is the last that writes its block. -/
def Last (Bk : Nat → Nat) (s k : Nat) : Prop := ∀ j, k < j → j < s → Bk j ≠ Bk k
/-- Y 0 .. Y (c - 1) are the last writes, each once. -/
structure Lasts (Bk : Nat → Nat) (s c : Nat) (Y : Nat → Nat) : Prop where
  lt : ∀ p, p < c → Y p < s
  last : ∀ p, p < c → Last Bk s (Y p)
  inj : ∀ p q, p < c → q < c → Bk (Y p) = Bk (Y q) → p = q
  all : ∀ k, k < s → Last Bk s k → ∃ p, p < c ∧ Y p = k
def Sorted (Bk : Nat → Nat) (c : Nat) (Y : Nat → Nat) : Prop := ∀ p q, p < q → q < c → Bk (Y p) < Bk (Y q)
end Go.Proofs.Qxb6618452a
