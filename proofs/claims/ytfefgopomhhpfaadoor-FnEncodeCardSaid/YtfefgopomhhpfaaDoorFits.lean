/- impl.fits at a picture that begins at 0: it is let by. -/
import Derived.Test.YtfefgopomhhpfaaDoorSmall
namespace Go.Proofs.YtfefgopomhhpfaaDoor
open Go.RowKit

set_option maxHeartbeats 800000 in
set_option maxRecDepth 100000 in
theorem fits_1 (W H S n cp pn pc : Nat) (pa : Option Addr) (a : Addr) (w : World) (hW : 0 < W) (hW2 : W ≤ 40) (hH : 0 < H) (hH2 : H ≤ 40) (hS : 1 * W ≤ S) (hS2 : S ≤ 1000) (hn : S * (H - 1) + 1 * W ≤ n) (hn2 : n ≤ 100000000) (hpn : pn ≤ 256) :
    Calls Tryd.prog 7 #[.agg #[.int .i64 1, .int .i64 0, .int .i64 0, .int .i64 W, .int .i64 H, .int .i64 S, .slice (some a) n cp, .slice pa pn pc]] w (Ret (.bool true) w) := by
  obtain ⟨p, hp⟩ : ∃ p : Nat, p = S * (H - 1) := ⟨_, rfl⟩
  have hp2 : (S : Int) * ((H : Int) - 1) = (p : Int) := by rw [hp, Int.natCast_mul, Int.natCast_sub (by omega)]; rfl
  rw [← hp] at hn
  have hpb : p ≤ 40000 := by rw [hp]; exact Nat.le_trans (Nat.mul_le_mul hS2 (show H - 1 ≤ 40 by omega)) (by omega)
  clear hp
  have z1 : ((H : Int) == 0) = false := by rw [beq_eq_false_iff_ne]; omega
  go_enter Tryd.func7, Tryd.ntmps7
  go_wp2
  go_quiet (fail)
  go_wp2
  go_ret
  exact ⟨by simp; omega, bdrewN ((Below.refl _ _).alloc (Nat.le_refl _) _) _⟩

set_option maxHeartbeats 800000 in
set_option maxRecDepth 100000 in
theorem fits_3 (W H S n cp pn pc : Nat) (pa : Option Addr) (a : Addr) (w : World) (hW : 0 < W) (hW2 : W ≤ 40) (hH : 0 < H) (hH2 : H ≤ 40) (hS : 4 * W ≤ S) (hS2 : S ≤ 1000) (hn : S * (H - 1) + 4 * W ≤ n) (hn2 : n ≤ 100000000) (hpn : pn ≤ 256) :
    Calls Tryd.prog 7 #[.agg #[.int .i64 3, .int .i64 0, .int .i64 0, .int .i64 W, .int .i64 H, .int .i64 S, .slice (some a) n cp, .slice pa pn pc]] w (Ret (.bool true) w) := by
  obtain ⟨p, hp⟩ : ∃ p : Nat, p = S * (H - 1) := ⟨_, rfl⟩
  have hp2 : (S : Int) * ((H : Int) - 1) = (p : Int) := by rw [hp, Int.natCast_mul, Int.natCast_sub (by omega)]; rfl
  rw [← hp] at hn
  have hpb : p ≤ 40000 := by rw [hp]; exact Nat.le_trans (Nat.mul_le_mul hS2 (show H - 1 ≤ 40 by omega)) (by omega)
  clear hp
  have z1 : ((H : Int) == 0) = false := by rw [beq_eq_false_iff_ne]; omega
  go_enter Tryd.func7, Tryd.ntmps7
  go_wp2
  go_quiet (fail)
  go_wp2
  go_ret
  exact ⟨by simp; omega, bdrewN ((Below.refl _ _).alloc (Nat.le_refl _) _) _⟩

set_option maxHeartbeats 800000 in
set_option maxRecDepth 100000 in
theorem fits_5 (W H S n cp pn pc : Nat) (pa : Option Addr) (a : Addr) (w : World) (hW : 0 < W) (hW2 : W ≤ 40) (hH : 0 < H) (hH2 : H ≤ 40) (hS : 4 * W ≤ S) (hS2 : S ≤ 1000) (hn : S * (H - 1) + 4 * W ≤ n) (hn2 : n ≤ 100000000) (hpn : pn ≤ 256) :
    Calls Tryd.prog 7 #[.agg #[.int .i64 5, .int .i64 0, .int .i64 0, .int .i64 W, .int .i64 H, .int .i64 S, .slice (some a) n cp, .slice pa pn pc]] w (Ret (.bool true) w) := by
  obtain ⟨p, hp⟩ : ∃ p : Nat, p = S * (H - 1) := ⟨_, rfl⟩
  have hp2 : (S : Int) * ((H : Int) - 1) = (p : Int) := by rw [hp, Int.natCast_mul, Int.natCast_sub (by omega)]; rfl
  rw [← hp] at hn
  have hpb : p ≤ 40000 := by rw [hp]; exact Nat.le_trans (Nat.mul_le_mul hS2 (show H - 1 ≤ 40 by omega)) (by omega)
  clear hp
  have z1 : ((H : Int) == 0) = false := by rw [beq_eq_false_iff_ne]; omega
  go_enter Tryd.func7, Tryd.ntmps7
  go_wp2
  go_quiet (fail)
  go_wp2
  go_ret
  exact ⟨by simp; omega, bdrewN ((Below.refl _ _).alloc (Nat.le_refl _) _) _⟩

set_option maxHeartbeats 800000 in
set_option maxRecDepth 100000 in
theorem fits_7 (W H S n cp pn pc : Nat) (pa : Option Addr) (a : Addr) (w : World) (hW : 0 < W) (hW2 : W ≤ 40) (hH : 0 < H) (hH2 : H ≤ 40) (hS : 1 * W ≤ S) (hS2 : S ≤ 1000) (hn : S * (H - 1) + 1 * W ≤ n) (hn2 : n ≤ 100000000) (hpn : pn ≤ 256) :
    Calls Tryd.prog 7 #[.agg #[.int .i64 7, .int .i64 0, .int .i64 0, .int .i64 W, .int .i64 H, .int .i64 S, .slice (some a) n cp, .slice pa pn pc]] w (Ret (.bool true) w) := by
  obtain ⟨p, hp⟩ : ∃ p : Nat, p = S * (H - 1) := ⟨_, rfl⟩
  have hp2 : (S : Int) * ((H : Int) - 1) = (p : Int) := by rw [hp, Int.natCast_mul, Int.natCast_sub (by omega)]; rfl
  rw [← hp] at hn
  have hpb : p ≤ 40000 := by rw [hp]; exact Nat.le_trans (Nat.mul_le_mul hS2 (show H - 1 ≤ 40 by omega)) (by omega)
  clear hp
  have z1 : ((H : Int) == 0) = false := by rw [beq_eq_false_iff_ne]; omega
  go_enter Tryd.func7, Tryd.ntmps7
  go_wp2
  go_quiet (fail)
  go_wp2
  go_ret
  exact ⟨by simp; omega, bdrewN ((Below.refl _ _).alloc (Nat.le_refl _) _) _⟩

end Go.Proofs.YtfefgopomhhpfaaDoor
