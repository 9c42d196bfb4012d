/- The walks of the small functions: a rectangle that begins at 0 (Rect, Empty, Dx, Size), the pictures' Bounds, a colour's RGBA. -/
import Derived.Test.YtfefgopomhhpfaaDoorKeep
import Derived.Deep.QuietTactic
import Derived.BigQuiet
namespace Go.Proofs.YtfefgopomhhpfaaDoor
open Go.RowKit

theorem bdrewN {B : Nat} {a w : World} (h : Below B a w) (n : Nat) : Below B a (w.drewN n) := ⟨h.os, h.tape, h.output, h.size, h.block⟩
/-- A rectangle from 0. -/
def rect (W H : Nat) : Value := .agg #[.int .i64 0, .int .i64 0, .int .i64 W, .int .i64 H]
def Ret (v : Value) (W : World) (e : Ending) (w' : World) : Prop := e = .returned v ∧ Below W.heap.size W w'

theorem empty_any (W H : Nat) (hW : 0 < W) (hH : 0 < H) (w : World) : Calls Tryd.prog 25 #[.agg #[.int .i64 0, .int .i64 0, .int .i64 W, .int .i64 H]] w (Ret (.bool false) w) := by
  have h1 : decide ((W : Int) ≤ 0) = false := by simp; omega
  have h2 : decide ((H : Int) ≤ 0) = false := by simp; omega
  go_enter Tryd.func25, Tryd.ntmps25
  go_wp2
  go_ret
  exact ⟨by simp; omega, (Below.refl _ _).alloc (Nat.le_refl _) _⟩

theorem dx_any (W H : Nat) (hW : W ≤ 1000) (w : World) : Calls Tryd.prog 26 #[.agg #[.int .i64 0, .int .i64 0, .int .i64 W, .int .i64 H]] w (Ret (.int .i64 W) w) := by
  go_enter Tryd.func26, Tryd.ntmps26
  go_wp2
  go_ret
  exact ⟨by simp, (Below.refl _ _).alloc (Nat.le_refl _) _⟩

theorem size_any (W H : Nat) (hW : W ≤ 1000) (hH : H ≤ 1000) (w : World) : Calls Tryd.prog 13 #[.agg #[.int .i64 0, .int .i64 0, .int .i64 W, .int .i64 H]] w (Ret (.agg #[.int .i64 W, .int .i64 H]) w) := by
  go_enter Tryd.func13, Tryd.ntmps13
  go_wp2
  refine bodyPost_ret (v := .agg #[.int .i64 W, .int .i64 H]) (by simp [results, Tryd.results13, go_sem]) rfl ⟨rfl, ?_⟩
  exact ((Below.refl _ _).alloc (Nat.le_refl _) _).alloc (by simp) _

theorem rect_any (W H : Nat) (w : World) : Calls Tryd.prog 22 #[.int .i64 0, .int .i64 0, .int .i64 W, .int .i64 H] w (Ret (.agg #[.int .i64 0, .int .i64 0, .int .i64 W, .int .i64 H]) w) := by
  have h1 : ¬ (W : Int) < 0 := by omega
  have h2 : ¬ (H : Int) < 0 := by omega
  go_enter Tryd.func22, Tryd.ntmps22
  go_wp2
  refine bodyPost_ret (v := .agg #[.int .i64 0, .int .i64 0, .int .i64 W, .int .i64 H]) (by simp [results, Tryd.results22, go_sem]) rfl ⟨rfl, ?_⟩
  exact ((Below.refl _ _).alloc (Nat.le_refl _) _)

theorem bounds_gray (mb : Nat) (v : Value) (S W H : Int) (w : World) (hm : w.heap[mb]? = some (.cells #[v, .int .i64 S, .int .i64 0, .int .i64 0, .int .i64 W, .int .i64 H] 91 (0, 0))) :
    Calls Tryd.prog 61 #[.pointer (some ⟨mb, 0, none⟩)] w (Ret (.agg #[.int .i64 0, .int .i64 0, .int .i64 W, .int .i64 H]) w) := by
  have hlt := Lib.lt_of_heap hm
  have c2 : w.cell? ⟨mb, 2, none⟩ = some (.int .i64 0) := (Lib.cell_of_heap hm 2).trans rfl
  have c3 : w.cell? ⟨mb, 3, none⟩ = some (.int .i64 0) := (Lib.cell_of_heap hm 3).trans rfl
  have c4 : w.cell? ⟨mb, 4, none⟩ = some (.int .i64 W) := (Lib.cell_of_heap hm 4).trans rfl
  have c5 : w.cell? ⟨mb, 5, none⟩ = some (.int .i64 H) := (Lib.cell_of_heap hm 5).trans rfl
  have hne : ¬ mb = w.heap.size := by omega
  clear hm
  go_enter Tryd.func61, Tryd.ntmps61
  go_wp2
  refine bodyPost_ret (v := .agg #[.int .i64 0, .int .i64 0, .int .i64 W, .int .i64 H]) (by simp [results, Tryd.results61, go_sem]) rfl ⟨rfl, ?_⟩
  exact ((Below.refl _ _).alloc (Nat.le_refl _) _)

theorem bounds_rgba (mb : Nat) (v : Value) (S W H : Int) (w : World) (hm : w.heap[mb]? = some (.cells #[v, .int .i64 S, .int .i64 0, .int .i64 0, .int .i64 W, .int .i64 H] 93 (0, 0))) :
    Calls Tryd.prog 73 #[.pointer (some ⟨mb, 0, none⟩)] w (Ret (.agg #[.int .i64 0, .int .i64 0, .int .i64 W, .int .i64 H]) w) := by
  have hlt := Lib.lt_of_heap hm
  have c2 : w.cell? ⟨mb, 2, none⟩ = some (.int .i64 0) := (Lib.cell_of_heap hm 2).trans rfl
  have c3 : w.cell? ⟨mb, 3, none⟩ = some (.int .i64 0) := (Lib.cell_of_heap hm 3).trans rfl
  have c4 : w.cell? ⟨mb, 4, none⟩ = some (.int .i64 W) := (Lib.cell_of_heap hm 4).trans rfl
  have c5 : w.cell? ⟨mb, 5, none⟩ = some (.int .i64 H) := (Lib.cell_of_heap hm 5).trans rfl
  have hne : ¬ mb = w.heap.size := by omega
  clear hm
  go_enter Tryd.func73, Tryd.ntmps73
  go_wp2
  refine bodyPost_ret (v := .agg #[.int .i64 0, .int .i64 0, .int .i64 W, .int .i64 H]) (by simp [results, Tryd.results73, go_sem]) rfl ⟨rfl, ?_⟩
  exact ((Below.refl _ _).alloc (Nat.le_refl _) _)

theorem bounds_nrgba (mb : Nat) (v : Value) (S W H : Int) (w : World) (hm : w.heap[mb]? = some (.cells #[v, .int .i64 S, .int .i64 0, .int .i64 0, .int .i64 W, .int .i64 H] 94 (0, 0))) :
    Calls Tryd.prog 78 #[.pointer (some ⟨mb, 0, none⟩)] w (Ret (.agg #[.int .i64 0, .int .i64 0, .int .i64 W, .int .i64 H]) w) := by
  have hlt := Lib.lt_of_heap hm
  have c2 : w.cell? ⟨mb, 2, none⟩ = some (.int .i64 0) := (Lib.cell_of_heap hm 2).trans rfl
  have c3 : w.cell? ⟨mb, 3, none⟩ = some (.int .i64 0) := (Lib.cell_of_heap hm 3).trans rfl
  have c4 : w.cell? ⟨mb, 4, none⟩ = some (.int .i64 W) := (Lib.cell_of_heap hm 4).trans rfl
  have c5 : w.cell? ⟨mb, 5, none⟩ = some (.int .i64 H) := (Lib.cell_of_heap hm 5).trans rfl
  have hne : ¬ mb = w.heap.size := by omega
  clear hm
  go_enter Tryd.func78, Tryd.ntmps78
  go_wp2
  refine bodyPost_ret (v := .agg #[.int .i64 0, .int .i64 0, .int .i64 W, .int .i64 H]) (by simp [results, Tryd.results78, go_sem]) rfl ⟨rfl, ?_⟩
  exact ((Below.refl _ _).alloc (Nat.le_refl _) _)

theorem bounds_pal (mb : Nat) (v q : Value) (S W H : Int) (w : World) (hm : w.heap[mb]? = some (.cells #[v, .int .i64 S, .int .i64 0, .int .i64 0, .int .i64 W, .int .i64 H, q] 78 (0, 0))) :
    Calls Tryd.prog 67 #[.pointer (some ⟨mb, 0, none⟩)] w (Ret (.agg #[.int .i64 0, .int .i64 0, .int .i64 W, .int .i64 H]) w) := by
  have hlt := Lib.lt_of_heap hm
  have c2 : w.cell? ⟨mb, 2, none⟩ = some (.int .i64 0) := (Lib.cell_of_heap hm 2).trans rfl
  have c3 : w.cell? ⟨mb, 3, none⟩ = some (.int .i64 0) := (Lib.cell_of_heap hm 3).trans rfl
  have c4 : w.cell? ⟨mb, 4, none⟩ = some (.int .i64 W) := (Lib.cell_of_heap hm 4).trans rfl
  have c5 : w.cell? ⟨mb, 5, none⟩ = some (.int .i64 H) := (Lib.cell_of_heap hm 5).trans rfl
  have hne : ¬ mb = w.heap.size := by omega
  clear hm
  go_enter Tryd.func67, Tryd.ntmps67
  go_wp2
  refine bodyPost_ret (v := .agg #[.int .i64 0, .int .i64 0, .int .i64 W, .int .i64 H]) (by simp [results, Tryd.results67, go_sem]) rfl ⟨rfl, ?_⟩
  exact ((Below.refl _ _).alloc (Nat.le_refl _) _)

theorem or_all : ((List.range 256).all fun n : Nat => bits BinOp.or IntKind.u32 (n : Int) ((n : Int) * 256) == (n : Int) * 257) = true := by kernel_rfl
theorem or257 {x : Int} (h0 : 0 ≤ x) (h1 : x < 256) : bits BinOp.or IntKind.u32 x (x * 256) = x * 257 := by
  obtain ⟨n, rfl⟩ := Int.eq_ofNat_of_zero_le h0
  have h := List.all_eq_true.1 or_all n (List.mem_range.2 (by omega))
  exact beq_iff_eq.1 h
theorem mul_small {x a : Int} (h0 : 0 ≤ x) (h1 : x < 256) (a0 : 0 ≤ a) (a1 : a < 256) : x * 257 * a % 4294967296 = x * 257 * a := by
  have e0 : 0 ≤ x * 257 * a := Int.mul_nonneg (by omega) a0
  have e1 : x * 257 * a ≤ 65535 * 255 := Int.mul_le_mul (by omega) (by omega) a0 (by omega)
  exact Int.emod_eq_of_lt e0 (by omega)

set_option maxHeartbeats 400000 in
set_option maxRecDepth 100000 in
theorem rgba_any (R G B A : Int) (w : World) (r0 : 0 ≤ R) (r1 : R < 256) (g0 : 0 ≤ G) (g1 : G < 256) (b0 : 0 ≤ B) (b1 : B < 256) (a0 : 0 ≤ A) (a1 : A < 256) :
    Calls Tryd.prog 82 #[.agg #[.int .u8 R, .int .u8 G, .int .u8 B, .int .u8 A]] w (Ret (.tuple #[.int .u32 (R * 257 * A / 255), .int .u32 (G * 257 * A / 255), .int .u32 (B * 257 * A / 255), .int .u32 (A * 257)]) w) := by
  go_enter Tryd.func82, Tryd.ntmps82
  go_wp2
  refine bodyPost_ret (v := .tuple #[.int .u32 (R * 257 * A / 255), .int .u32 (G * 257 * A / 255), .int .u32 (B * 257 * A / 255), .int .u32 (A * 257)]) ?_ rfl ⟨rfl, ?_⟩
  · simp [results, Tryd.results82, go_sem]
    rw [or257 r0 r1, or257 g0 g1, or257 b0 b1, or257 a0 a1, mul_small r0 r1 a0 a1, mul_small g0 g1 a0 a1, mul_small b0 b1 a0 a1]
    exact ⟨rfl, rfl, rfl, rfl⟩
  · exact ((Below.refl _ _).alloc (Nat.le_refl _) _)
end Go.Proofs.YtfefgopomhhpfaaDoor
