/-
  Contracts of the functions below the law: zzIsDigit, peek, digits, ZZDigits.
-/
import Derived.Test.Qxb6618411aRows
import Derived.WalkKit
import Derived.ProofKit
import Derived.OpenShut
import Derived.ShutString
import Derived.ChangeOld
import Derived.Below
import Derived.WalkSmall
import Derived.Deep.QuietTactic
import Derived.BigQuiet
import Derived.Deep.LoopGhost
import Derived.Laws.CopyOwn
namespace Go.Proofs.Qxb6618411a
open Go.ChangeShapes Go.WideShapes Go.ChangeAt Go.RowKit

theorem sc_same {w : World} {a : Addr} {u : Value} (v : Value) (h : w.cell? a = some u) : (w.setCell a v).cell? a = some v := World.cell?_setCell_same _ _ _ h
theorem sc_off (w : World) (b : Nat) {o o' : Nat} (v : Value) (h : o ≠ o') : (w.setCell ⟨b, o, none⟩ v).cell? ⟨b, o', none⟩ = w.cell? ⟨b, o', none⟩ :=
  World.cell?_setCell_other _ _ _ _ (fun e => h (congrArg Addr.off e))
theorem sc_blk (w : World) {b b' : Nat} (o o' : Nat) (v : Value) (h : b ≠ b') : (w.setCell ⟨b, o, none⟩ v).cell? ⟨b', o', none⟩ = w.cell? ⟨b', o', none⟩ :=
  World.cell?_setCell_other _ _ _ _ (fun e => h (congrArg Addr.block e))
theorem sc_fz (w : World) (a p : Addr) (v : Value) : (w.setCell a v).frozen? p = w.frozen? p := by simp

def isD (c : Int) : Bool := decide (48 ≤ c ∧ c ≤ 57)
def pk (xs : List Int) (p : Nat) : Int := xs.getD p 0
theorem pk_out {xs : List Int} {p : Nat} (h : xs.length ≤ p) : pk xs p = 0 := by simp [pk, h]

theorem digit_any (c : Int) (w : World) :
    Calls Try.prog 6 #[.int .u8 c] w fun e w' => e = .returned (.bool (isD c)) ∧ w' = w := by
  unfold isD
  go_enter Try.func6, Try.ntmps6
  go_wp2
  all_goals go_ret
  all_goals (refine ⟨?_, rfl⟩)
  all_goals simp [*]
  all_goals omega
  
theorem peek_any (B g : Nat) (len cap p : Nat) (ad : Option Addr) (xs : List Int) (w : World) (hl : xs.length = len) (h0 : w.cell? ⟨B, 0, none⟩ = some (.slice ad len cap)) (h1 : w.cell? ⟨B, 1, none⟩ = some (.int .i64 (p : Int)))
    (ha : 0 < len → ad = some ⟨g, 0, none⟩) (hz : ∀ i, i < len → w.cell? ⟨g, i, none⟩ = some (.int .u8 (pk xs i))) : Calls Try.prog 8 #[.pointer (some ⟨B, 0, none⟩)] w fun e w' => e = .returned (.int .u8 (pk xs p)) ∧ ∃ n, w' = w.drewN n := by
  by_cases hp : p < len
  · have hp' : (p : Int) < (len : Int) := by omega
    have hz' := hz p hp
    obtain rfl := ha (by omega)
    clear hz ha hl
    go_enter Try.func8, Try.ntmps8
    go_wp2
    go_quiet (fail)
    go_wp2
    go_quiet (fail)
    go_wp2
    go_ret
    exact ⟨rfl, _, World.drewN_drewN _ _ _⟩
  · have hp' : (len : Int) ≤ (p : Int) := by omega
    rw [pk_out (by omega)]
    clear hz ha hl
    go_enter Try.func8, Try.ntmps8
    go_wp2
    go_quiet (fail)
    go_wp2
    go_ret
    exact ⟨rfl, _, rfl⟩

set_option maxHeartbeats 400000 in
theorem digits_any (B g : Nat) (len cap p : Nat) (ad : Option Addr) (xs : List Int) (w : World) (hl : xs.length = len) (h0 : w.cell? ⟨B, 0, none⟩ = some (.slice ad len cap)) (h1 : w.cell? ⟨B, 1, none⟩ = some (.int .i64 (p : Int)))
    (hf : w.frozen? ⟨B, 1, none⟩ = false) (hgB : 0 < len → g < B) (hlen : len ≤ 1048576) (hp : p ≤ 9223372036854775807)
    (ha : 0 < len → ad = some ⟨g, 0, none⟩) (hz : ∀ i, i < len → w.cell? ⟨g, i, none⟩ = some (.int .u8 (pk xs i))) : Calls Try.prog 7 #[.pointer (some ⟨B, 0, none⟩)] w fun e w' =>
      ∃ q : Nat, p ≤ q ∧ (q = p ∨ q ≤ len) ∧ e = .returned (.int .i64 ((q : Int) - p)) ∧ w'.cell? ⟨B, 1, none⟩ = some (.int .i64 (q : Int)) ∧ Below B w w' ∧ (∀ i, p ≤ i → i < q → isD (pk xs i) = true) ∧ isD (pk xs q) = false := by
  go_enter Try.func7, Try.ntmps7
  go_wp2_with fail
  refine (peek_any B g len cap p ad xs _ hl (by simpa using h0) (by simpa using h1) ha (by simpa using hz)).mono ?_
  rintro e w' ⟨rfl, n, rfl⟩
  go_wp2_with fail
  go_loopg [4] (len - p) (fun gk c wr => ∃ q : Nat, p ≤ q ∧ (q = p ∨ q ≤ len) ∧ gk = len - q ∧ c = .int .u8 (pk xs q) ∧ wr.cell? ⟨B, 0, none⟩ = some (.slice ad len cap) ∧ wr.cell? ⟨B, 1, none⟩ = some (.int .i64 (q : Int)) ∧ wr.frozen? ⟨B, 1, none⟩ = false ∧ Below B w wr ∧ (∀ i, p ≤ i → i < q → isD (pk xs i) = true))
  case atStart => exact ⟨p, Nat.le_refl _, .inl rfl, rfl, rfl, h0, h1, hf, below_drewN (Below.refl _ _) _, fun i _ _ => by omega⟩
  case round =>
    obtain ⟨q, hpq, hq, rfl, rfl, g0, g1, gf, hb, hall⟩ := hrel
    have H : Hid ((∀ i, p ≤ i → i < q → isD (pk xs i) = true) ∧ (∀ i, i < len → wr.cell? ⟨g, i, none⟩ = some (.int .u8 (pk xs i))) ∧ (0 < len → ad = some ⟨g, 0, none⟩) ∧ xs.length = len) := ⟨hall, fun i hi => (hb.cell (by exact hgB (by omega))).trans (hz i hi), ha, hl⟩
    by_cases hd : 48 ≤ pk xs q ∧ pk xs q ≤ 57
    · have hql : q < len := by
        rcases Nat.lt_or_ge q len with h | h
        · exact h
        · have := pk_out (xs := xs) (p := q) (by omega); omega
      obtain ⟨hd1, hd2⟩ := hd
      clear hall ha hl hz h0 h1 hf
      go_wp2_with fail
      obtain ⟨H1, H2, H3, H4⟩ := H.out
      refine (peek_any B g len cap (q + 1) ad xs _ H4 ?_ ?_ H3 ?_).mono ?_
      · exact (sc_off _ _ _ (by decide)).trans g0
      · exact sc_same _ g1
      · intro i hi
        have := hgB (by omega)
        exact (sc_blk _ _ _ _ (by omega)).trans (H2 i hi)
      rintro e w' ⟨rfl, n', rfl⟩
      go_wp2_with fail
      go_roundg (len - (q + 1))
      case measure => omega
      case rel =>
        refine ⟨q + 1, by omega, .inr (by omega), rfl, rfl, ?_, ?_, ?_, ?_, ?_⟩
        · exact (sc_off _ _ _ (by decide)).trans g0
        · exact sc_same _ g1
        · exact (sc_fz _ _ _ _).trans gf
        · exact below_drewN (hb.setCell (by simp) _) _
        · intro i h1 h2
          by_cases e : i = q
          · subst e; simp [isD, hd1, hd2]
          · exact H1 i h1 (by omega)
    · have hnd : isD (pk xs q) = false := by simp [isD]; omega
      have HN : Hid (isD (pk xs q) = false) := hnd
      clear hall ha hl hz h0 h1 hf hnd
      by_cases hd1 : 48 ≤ pk xs q
      · have hd2 : 57 < pk xs q := by omega
        clear hd
        go_wp2
        go_ret
        exact ⟨q, hpq, hq, rfl, g1, hb, H.out.1, HN.out⟩
      · clear hd
        go_wp2
        go_ret
        exact ⟨q, hpq, hq, rfl, g1, hb, H.out.1, HN.out⟩

set_option maxHeartbeats 400000 in
theorem zz_any (g : Nat) (len cap p : Nat) (ad : Option Addr) (xs : List Int) (w : World) (hl : xs.length = len) (hg : 0 < len → g < w.heap.size) (hlen : len ≤ 1048576) (hp : p ≤ 9223372036854775807)
    (ha : 0 < len → ad = some ⟨g, 0, none⟩) (hz : ∀ i, i < len → w.cell? ⟨g, i, none⟩ = some (.int .u8 (pk xs i))) : Calls Try.prog 5 #[.slice ad len cap, .int .i64 (p : Int)] w fun e w' =>
      ∃ q : Nat, p ≤ q ∧ (q = p ∨ q ≤ len) ∧ e = .returned (.tuple #[.int .i64 ((q : Int) - p), .int .i64 (q : Int)]) ∧ Below w.heap.size w w' ∧ (∀ i, p ≤ i → i < q → isD (pk xs i) = true) ∧ isD (pk xs q) = false := by
  go_enter Try.func5, Try.ntmps5
  go_wp2_with fail
  refine (digits_any w.heap.size g len cap p ad xs _ hl (by simp) (by simp) (by simp) hg hlen hp ha ?_).mono ?_
  · intro i hi; rw [World.cell?_alloc_lt _ _ _ (by exact hg (by omega))]; exact hz i hi
  rintro e w' ⟨q, h1, h2, rfl, h4, h5, h6, h7⟩
  have H : Hid ((∀ i, p ≤ i → i < q → isD (pk xs i) = true) ∧ isD (pk xs q) = false) := ⟨h6, h7⟩
  clear h6 h7 hz ha
  go_wp2_with fail
  go_quiet (fail)
  go_wp2
  go_ret2
  refine ⟨q, h1, h2, rfl, ?_, H.out.1, H.out.2⟩
  exact below_drewN (((Below.refl _ _).alloc (Nat.le_refl _) _).trans h5) _
end Go.Proofs.Qxb6618411a
