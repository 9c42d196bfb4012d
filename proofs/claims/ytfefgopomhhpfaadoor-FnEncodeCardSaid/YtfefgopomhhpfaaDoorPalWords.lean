/- A palette's colours times their alpha; the method RGBA called through an interface value. -/
import Derived.Test.YtfefgopomhhpfaaDoorReady
import Derived.Test.YtfefgopomhhpfaaDoorImagePal
namespace Go.Proofs.YtfefgopomhhpfaaDoor
open Go.RowKit

/-- A number of a colour times its alpha, in sixteen bits. -/
def mulA (c a : Int) : Int := c * 257 * a / 255
theorem mulA_lo {c a : Int} (c0 : 0 ≤ c) (a0 : 0 ≤ a) : 0 ≤ mulA c a := Int.ediv_nonneg (Int.mul_nonneg (by omega) a0) (by omega)
theorem mulA_hi {c a : Int} (c1 : c < 256) (a0 : 0 ≤ a) (a1 : a < 256) : mulA c a ≤ 65535 := by
  have e1 : c * 257 * a ≤ 65535 * a := Int.mul_le_mul_of_nonneg_right (by omega) a0
  unfold mulA
  omega

theorem rgba_mul (R G B A : Int) (w : World) (r0 : 0 ≤ R) (r1 : R < 256) (g0 : 0 ≤ G) (g1 : G < 256) (b0 : 0 ≤ B) (b1 : B < 256) (a0 : 0 ≤ A) (a1 : A < 256) :
    Calls Tryd.prog 82 #[.agg #[.int .u8 R, .int .u8 G, .int .u8 B, .int .u8 A]] w (Ret (.tuple #[.int .u32 (mulA R A), .int .u32 (mulA G A), .int .u32 (mulA B A), .int .u32 (A * 257)]) w) :=
  rgba_any R G B A w r0 r1 g0 g1 b0 b1 a0 a1

theorem method_rgba (r g b a : Int) (w : World) : (method 272 98 (.agg #[.int .u8 r, .int .u8 g, .int .u8 b, .int .u8 a]) "RGBA").run Tryd.prog w = .ok (82, .agg #[.int .u8 r, .int .u8 g, .int .u8 b, .int .u8 a]) w := by kernel_rfl
theorem nil_rgba (r g b a : Int) (w : World) : (nilAhead 272 98 (.agg #[.int .u8 r, .int .u8 g, .int .u8 b, .int .u8 a]) "RGBA").run Tryd.prog w = .ok (some false) w := by kernel_rfl

/-- The palette that is written. -/
def palF (C : Nat → Int) (i : Nat) : Int :=
  if i % 4 = 0 then mulA (C (4 * (i / 4) + 2)) (C (4 * (i / 4) + 3)) / 256
  else if i % 4 = 1 then mulA (C (4 * (i / 4) + 1)) (C (4 * (i / 4) + 3)) / 256
  else if i % 4 = 2 then mulA (C (4 * (i / 4))) (C (4 * (i / 4) + 3)) / 256
  else 255
theorem palF_0 (C : Nat → Int) (k : Nat) : palF C (k * 4) = mulA (C (4 * k + 2)) (C (4 * k + 3)) / 256 := by
  have h1 : k * 4 % 4 = 0 := by omega
  have h2 : k * 4 / 4 = k := by omega
  rw [palF, h1, h2, if_pos rfl]
theorem palF_1 (C : Nat → Int) (k : Nat) : palF C (k * 4 + 1) = mulA (C (4 * k + 1)) (C (4 * k + 3)) / 256 := by
  have h1 : (k * 4 + 1) % 4 = 1 := by omega
  have h2 : (k * 4 + 1) / 4 = k := by omega
  rw [palF, h1, h2, if_neg (by omega), if_pos rfl]
theorem palF_2 (C : Nat → Int) (k : Nat) : palF C (k * 4 + 2) = mulA (C (4 * k)) (C (4 * k + 3)) / 256 := by
  have h1 : (k * 4 + 2) % 4 = 2 := by omega
  have h2 : (k * 4 + 2) / 4 = k := by omega
  rw [palF, h1, h2, if_neg (by omega), if_neg (by omega), if_pos rfl]
theorem palF_3 (C : Nat → Int) (k : Nat) : palF C (k * 4 + 3) = 255 := by
  have h1 : (k * 4 + 3) % 4 = 3 := by omega
  rw [palF, h1, if_neg (by omega), if_neg (by omega), if_neg (by omega)]

theorem Two.later {w W0 W1 : World} {db W H : Nat} {hc : Array Value} (h : Two w W0 db W H hc) (hb : Below W0.heap.size W0 W1) : Two w W1 db W H hc :=
  ⟨(hb.block _ (Lib.lt_of_heap h.d)).trans h.d, (hb.block _ (Lib.lt_of_heap h.h)).trans h.h, h.own, h.below.trans (hb.mono h.below.size)⟩
end Go.Proofs.YtfefgopomhhpfaaDoor
