/-
  Contracts of bitmap.add and reachTable.set, the world written out; small laws on cells. No statement of the seat is touched.
-/
import Derived.Test.Qxb6618452aRows
import Derived.WalkKit
import Derived.ProofKit
import Derived.WalkSmall
import Derived.WalkSpells
import Derived.Deep.QuietTactic
import Derived.BigQuiet
import Derived.Deep.LoopGhost
import Derived.Deep.OwnRows
import Derived.Laws.CopyOwn
namespace Go.Proofs.Qxb6618452a
open Go.ChangeShapes Go.WideShapes Go.ChangeAt Go.RowKit
set_option maxRecDepth 100000

def Z46 : Array Value := (List.replicate 1024 [Value.int .u32 0, Value.int .i8 0]).flatten.toArray
theorem run_zero46 (w : World) : (zeroValue 46).run Try.prog w = .ok (.agg Z46) w := by kernel_rfl

def orb (x : Int) (t : Nat) : Int := bits BinOp.or IntKind.u64 x (IntKind.u64.wrap (2 ^ t))

theorem sc_same {w : World} {a : Addr} {u : Value} (v : Value) (h : w.cell? a = some u) : (w.setCell a v).cell? a = some v := World.cell?_setCell_same _ _ _ h
theorem sc_off (w : World) (b : Nat) {o o' : Nat} (v : Value) (h : o ≠ o') : (w.setCell ⟨b, o, none⟩ v).cell? ⟨b, o', none⟩ = w.cell? ⟨b, o', none⟩ :=
  World.cell?_setCell_other _ _ _ _ (fun e => h (congrArg Addr.off e))
theorem sc_blk (w : World) {b b' : Nat} (o o' : Nat) (v : Value) (h : b ≠ b') : (w.setCell ⟨b, o, none⟩ v).cell? ⟨b', o', none⟩ = w.cell? ⟨b', o', none⟩ :=
  World.cell?_setCell_other _ _ _ _ (fun e => h (congrArg Addr.block e))
theorem sc_fz (w : World) (a p : Addr) (v : Value) : (w.setCell a v).frozen? p = w.frozen? p := by simp

theorem add_any (bm m cap p : Nat) (x : Int) (w : World) (hp : p / 64 < m) (hm : m ≤ 65536) (hpb : p ≤ 4096) (hc : w.cell? ⟨bm, p / 64, none⟩ = some (.int .u64 x)) (hf : w.frozen? ⟨bm, p / 64, none⟩ = false)  :
    Calls Try.prog 11 #[.slice (some ⟨bm, 0, none⟩) m cap, .int .u64 (p : Int)] w fun e w' => e = .returned (.tuple #[]) ∧ w' = w.setCell ⟨bm, p / 64, none⟩ (.int .u64 (orb x (p % 64))) := by
  have h1 : (p : Int) / 64 < (m : Int) := by omega
  go_enter Try.func11, Try.ntmps11
  go_wp2
  go_end0
  exact ⟨rfl, rfl⟩

theorem set_some (bp bm n m c1 c2 b g : Nat) (r l v1 v2 : Int) (w : World) (hb : b / 1024 < n) (hn : n ≤ 4096) (hbb : b < 4194304)
   (hc : w.cell? ⟨bp, b / 1024, none⟩ = some (.pointer (some ⟨g, 0, none⟩))) (h1 : w.cell? ⟨g, b % 1024 * 2, none⟩ = some (.int .u32 v1)) (h2 : w.cell? ⟨g, b % 1024 * 2 + 1, none⟩ = some (.int .i8 v2))
   (hf1 : w.frozen? ⟨g, b % 1024 * 2, none⟩ = false) (hf2 : w.frozen? ⟨g, b % 1024 * 2 + 1, none⟩ = false) (hbp : bp < w.heap.size) (hg : g < w.heap.size) :
    Calls Try.prog 10 #[.agg #[.slice (some ⟨bp, 0, none⟩) n c1, .slice (some ⟨bm, 0, none⟩) m c2], .int .u64 (b : Int), .agg #[.int .u32 r, .int .i8 l]] w fun e w' => e = .returned (.tuple #[]) ∧
      w' = ((((w.setCell ⟨g, b % 1024 * 2, none⟩ (.int .u32 r)).setCell ⟨g, b % 1024 * 2 + 1, none⟩ (.int .i8 l)).alloc (.cells #[.slice (some ⟨bp, 0, none⟩) n c1, .slice (some ⟨bm, 0, none⟩) m c2] 34)).alloc (.cells #[.int .u32 r, .int .i8 l] 45)).drew := by
  have h3 : (b : Int) / 1024 < (n : Int) := by omega
  go_enter Try.func10, Try.ntmps10
  go_wp2_with fail
  go_region
  go_end0
  exact ⟨rfl, rfl⟩

theorem flat2 (a b : Value) : ∀ (n c : Nat), c < 2 * n → ((List.replicate n [a, b]).flatten)[c]? = some (if c % 2 = 0 then a else b)
  | 0, c, h => by omega
  | n + 1, c, h => by
    rw [List.replicate_succ, List.flatten_cons]
    match c with
    | 0 => rfl
    | 1 => rfl
    | c + 2 =>
      have := flat2 a b n c (by omega)
      have e : (c + 2) % 2 = c % 2 := by omega
      rw [e]
      simpa using this
theorem Z46_size : Z46.size = 2048 := by kernel_rfl
theorem Z46_get (c : Nat) (h : c < 2048) : Z46[c]? = some (if c % 2 = 0 then .int .u32 0 else .int .i8 0) := by
  have := flat2 (.int .u32 0) (.int .i8 0) 1024 c (by omega)
  unfold Z46
  simpa using this

theorem wpList_alloc46 {w : World} {ops : Array Oper} {rest : List Oper} {o : Oper} {a : Act} {Q : Exit → Act → World → Prop} (hgd : o.guard = none) (ho : o.op = Op.alloc 46)
    (h : ∀ w', Hid (w' = w.alloc (.cells Z46 46)) → wpList Try.prog ops Q rest (a.put o.dst (.pointer (some ⟨w.heap.size, 0, none⟩))) w') : wpList Try.prog ops Q (o :: rest) a w := by
  refine wpList_plain hgd fun K hK => ?_
  have hrun : (Instr.alloc 46 true (.tuple #[])).run Try.prog w = .ok (.pointer (some ⟨w.heap.size, 0, none⟩)) (w.alloc (.cells Z46 46)) := by kernel_rfl
  unfold Oper.wp
  simp [execOp, ho, hrun, Result.andThen]
  exact hK _ _ (h _ rfl)
theorem old3 (w : World) (o1 o2 o3 : Obj) (off : Nat) {b : Nat} (h : b < w.heap.size) : (((w.alloc o1).alloc o2).alloc o3).cell? ⟨b, off, none⟩ = w.cell? ⟨b, off, none⟩ := by
  rw [World.cell?_alloc_lt _ _ _ (by simp; omega), World.cell?_alloc_lt _ _ _ (by simp; omega), World.cell?_alloc_lt _ _ _ h]
theorem oldf3 (w : World) (o1 o2 o3 : Obj) (off : Nat) {b : Nat} (h : b < w.heap.size) : (((w.alloc o1).alloc o2).alloc o3).frozen? ⟨b, off, none⟩ = w.frozen? ⟨b, off, none⟩ := by
  rw [World.frozen?_alloc_old _ _ _ (by simp; omega), World.frozen?_alloc_old _ _ _ (by simp; omega), World.frozen?_alloc_old _ _ _ (by simp; omega)]
theorem newZ (w : World) (o1 o2 : Obj) (i : Nat) (h : i < 2048) (h' : i % 2 = 0) : (((w.alloc o1).alloc o2).alloc (.cells Z46 46)).cell? ⟨w.heap.size + 1 + 1, i, none⟩ = some (.int .u32 0) := by
  have e : w.heap.size + 1 + 1 = ((w.alloc o1).alloc o2).heap.size := by simp
  rw [e, World.cell?_alloc_at _ _ _ _ rfl, Z46_get i h, if_pos h']
theorem newZ' (w : World) (o1 o2 : Obj) (i : Nat) (h : i < 2048) (h' : i % 2 = 1) : (((w.alloc o1).alloc o2).alloc (.cells Z46 46)).cell? ⟨w.heap.size + 1 + 1, i, none⟩ = some (.int .i8 0) := by
  have e : w.heap.size + 1 + 1 = ((w.alloc o1).alloc o2).heap.size := by simp
  rw [e, World.cell?_alloc_at _ _ _ _ rfl, Z46_get i h, if_neg (by omega)]
theorem new1 (w : World) (c : Array Value) (t : TypeId) (o2 o3 : Obj) (i : Nat) : (((w.alloc (.cells c t)).alloc o2).alloc o3).cell? ⟨w.heap.size, i, none⟩ = c[i]? := by
  rw [World.cell?_alloc_lt _ _ _ (by simp; omega), World.cell?_alloc_lt _ _ _ (by simp), World.cell?_alloc_at _ _ _ _ rfl]
theorem new2 (w : World) (o1 : Obj) (c : Array Value) (t : TypeId) (o3 : Obj) (i : Nat) : (((w.alloc o1).alloc (.cells c t)).alloc o3).cell? ⟨w.heap.size + 1, i, none⟩ = c[i]? := by
  rw [World.cell?_alloc_lt _ _ _ (by simp), World.cell?_alloc_at _ _ _ _ (by simp)]
theorem newF (w : World) (o1 o2 : Obj) (i : Nat) : (((w.alloc o1).alloc o2).alloc (.cells Z46 46)).frozen? ⟨w.heap.size + 1 + 1, i, none⟩ = false := by
  have e : w.heap.size + 1 + 1 = ((w.alloc o1).alloc o2).heap.size := by simp
  rw [e]; exact World.frozen?_alloc_new _ _ _ _

theorem set_none (bp bm n m c1 c2 b : Nat) (r l x : Int) (w : World) (hb : b / 1024 < n) (hn : n ≤ 4096) (hbb : b < 4194304) (hm : m ≤ 65536) (hpm : b / 1024 / 64 < m)
   (hc : w.cell? ⟨bp, b / 1024, none⟩ = some (.pointer none)) (hf : w.frozen? ⟨bp, b / 1024, none⟩ = false) (hx : w.cell? ⟨bm, b / 1024 / 64, none⟩ = some (.int .u64 x)) (hfx : w.frozen? ⟨bm, b / 1024 / 64, none⟩ = false)
   (hne : bp ≠ bm) (hbp : bp < w.heap.size) (hbm : bm < w.heap.size) :
    Calls Try.prog 10 #[.agg #[.slice (some ⟨bp, 0, none⟩) n c1, .slice (some ⟨bm, 0, none⟩) m c2], .int .u64 (b : Int), .agg #[.int .u32 r, .int .i8 l]] w fun e w' => e = .returned (.tuple #[]) ∧
      w' = ((((((((w.alloc (.cells #[.slice (some ⟨bp, 0, none⟩) n c1, .slice (some ⟨bm, 0, none⟩) m c2] 34)).alloc (.cells #[.int .u32 r, .int .i8 l] 45)).alloc (.cells Z46 46)).setCell ⟨bp, b / 1024, none⟩ (.pointer (some ⟨w.heap.size + 1 + 1, 0, none⟩))).setCell ⟨bm, b / 1024 / 64, none⟩ (.int .u64 (orb x (b / 1024 % 64)))).setCell ⟨w.heap.size + 1 + 1, b % 1024 * 2, none⟩ (.int .u32 r)).setCell ⟨w.heap.size + 1 + 1, b % 1024 * 2 + 1, none⟩ (.int .i8 l)).drew) := by
  have h3 : (b : Int) / 1024 < (n : Int) := by omega
  go_enter Try.func10, Try.ntmps10
  go_wp2_with (refine wpList_alloc46 rfl rfl ?_)
  intro w3 HW3
  have hw3 := HW3.out
  clear HW3
  have HW3 : Hid (w3 = ((w.alloc (.cells #[.slice (some ⟨bp, 0, none⟩) n c1, .slice (some ⟨bm, 0, none⟩) m c2] 34)).alloc (.cells #[.int .u32 r, .int .i8 l] 45)).alloc (.cells Z46 46)) := hw3
  have a0 : w3.cell? ⟨w.heap.size, 0, none⟩ = some (.slice (some ⟨bp, 0, none⟩) n c1) := by rw [hw3, new1]; rfl
  have a1 : w3.cell? ⟨w.heap.size, 1, none⟩ = some (.slice (some ⟨bm, 0, none⟩) m c2) := by rw [hw3, new1]; rfl
  have a2 : w3.cell? ⟨w.heap.size + 1, 0, none⟩ = some (.int .u32 r) := by rw [hw3, new2]; rfl
  have a3 : w3.cell? ⟨w.heap.size + 1, 1, none⟩ = some (.int .i8 l) := by rw [hw3, new2]; rfl
  have a4 : w3.cell? ⟨bp, b / 1024, none⟩ = some (.pointer none) := by rw [hw3, old3 _ _ _ _ _ hbp]; exact hc
  have a5 : w3.frozen? ⟨bp, b / 1024, none⟩ = false := by rw [hw3, oldf3 _ _ _ _ _ hbp]; exact hf
  have a6 : w3.cell? ⟨bm, b / 1024 / 64, none⟩ = some (.int .u64 x) := by rw [hw3, old3 _ _ _ _ _ hbm]; exact hx
  have a7 : w3.frozen? ⟨bm, b / 1024 / 64, none⟩ = false := by rw [hw3, oldf3 _ _ _ _ _ hbm]; exact hfx
  have a8 : w3.cell? ⟨w.heap.size + 1 + 1, b % 1024 * 2, none⟩ = some (.int .u32 0) := by rw [hw3]; exact newZ _ _ _ _ (by omega) (by omega)
  have a9 : w3.cell? ⟨w.heap.size + 1 + 1, b % 1024 * 2 + 1, none⟩ = some (.int .i8 0) := by rw [hw3]; exact newZ' _ _ _ _ (by omega) (by omega)
  have a10 : ∀ i, w3.frozen? ⟨w.heap.size + 1 + 1, i, none⟩ = false := by intro i; rw [hw3]; exact newF _ _ _ _
  clear hw3 hc hf hx hfx
  go_wp2_with fail
  refine (add_any bm m c2 (b / 1024) x _ hpm hm (by omega) ?_ ?_).mono ?_
  · exact (sc_blk _ _ _ _ hne).trans a6
  · exact (sc_fz _ _ _ _).trans a7
  rintro e w4 ⟨rfl, hw4⟩
  have HW4 : Hid (w4 = (w3.setCell ⟨bp, b / 1024, none⟩ (.pointer (some ⟨w.heap.size + 1 + 1, 0, none⟩))).setCell ⟨bm, b / 1024 / 64, none⟩ (.int .u64 (orb x (b / 1024 % 64)))) := hw4
  have b2 : w4.cell? ⟨w.heap.size + 1, 0, none⟩ = some (.int .u32 r) := by rw [hw4, sc_blk _ _ _ _ (by omega), sc_blk _ _ _ _ (by omega)]; exact a2
  have b3 : w4.cell? ⟨w.heap.size + 1, 1, none⟩ = some (.int .i8 l) := by rw [hw4, sc_blk _ _ _ _ (by omega), sc_blk _ _ _ _ (by omega)]; exact a3
  have b8 : w4.cell? ⟨w.heap.size + 1 + 1, b % 1024 * 2, none⟩ = some (.int .u32 0) := by rw [hw4, sc_blk _ _ _ _ (by omega), sc_blk _ _ _ _ (by omega)]; exact a8
  have b9 : w4.cell? ⟨w.heap.size + 1 + 1, b % 1024 * 2 + 1, none⟩ = some (.int .i8 0) := by rw [hw4, sc_blk _ _ _ _ (by omega), sc_blk _ _ _ _ (by omega)]; exact a9
  have b10 : w4.frozen? ⟨w.heap.size + 1 + 1, b % 1024 * 2, none⟩ = false := by rw [hw4, sc_fz, sc_fz]; exact a10 _
  have b11 : w4.frozen? ⟨w.heap.size + 1 + 1, b % 1024 * 2 + 1, none⟩ = false := by rw [hw4, sc_fz, sc_fz]; exact a10 _
  clear hw4 a0 a1 a2 a3 a4 a5 a6 a7 a8 a9 a10
  go_wp2_with fail
  go_region
  go_end0
  refine ⟨rfl, ?_⟩
  rw [HW4.out, HW3.out]
end Go.Proofs.Qxb6618452a
