/- laws.pictureOf: what it hands back where there are colors. -/
import Derived.Test.YtfefgopomhhpfaaDoorPicOut
import Derived.Test.YtfefgopomhhpfaaDoorPalWords
namespace Go.Proofs.YtfefgopomhhpfaaDoor
open Go.RowKit
/-- The colors that spec takes: three bytes each. -/
def palQ (Qs : List Int) (i : Nat) : Int := mulA (Qs.getD (4 * (i / 3) + i % 3) 0) (Qs.getD (4 * (i / 3) + 3) 0) / 256
/-- The two pictures, with colors. -/
def PicOut7 (Qs : List Int) (W H S N : Nat) (D : List Int) (hi : Bool) (w : World) (x : Ending) (w' : World) : Prop :=
  ∃ gs cs gp cp qv pv, x = .returned (.tuple #[.agg #[.int .i64 7, .int .i64 0, .int .i64 0, .int .i64 W, .int .i64 H, .int .i64 S, .slice (some ⟨gs, 0, none⟩) (S * H) cs, qv], .agg #[.int .i64 7, .int .i64 W, .int .i64 H, .slice (some ⟨gp, 0, none⟩) N cp, pv]]) ∧
    w'.ownsRow w.heap.size 5 1 (.slice (some ⟨gs, 0, none⟩) (S * H) cs) (S * H) (u8s (rowsUp (lineOf (pixv D hi) W S) H)) ∧ w'.ownsRow w.heap.size 5 1 (.slice (some ⟨gp, 0, none⟩) N cp) N (u8s (pixs D hi N)) ∧
    w'.ownsRow w.heap.size 38 4 qv (Qs.length / 4) (u8s (rowOf (fun i => Qs.getD i 0) (4 * (Qs.length / 4)))) ∧ w'.ownsRow w.heap.size 40 3 pv (Qs.length / 4) (u8s (rowOf (palQ Qs) (3 * (Qs.length / 4)))) ∧ Below w.heap.size w w'
/-- Rows of two kinds of elements lie apart. -/
theorem owns_apart {w : World} {b b' e e' s s' n n' : Nat} {v v' : Value} {xs xs' : List Value} (h : w.ownsRow b e s v n xs) (h' : w.ownsRow b' e' s' v' n' xs') (he : e ≠ e') : ∀ q, v.ownBlock = some q → v'.ownBlock ≠ some q := by
  intro q hq hq'
  rcases h.2 with ⟨rfl, _⟩ | ⟨g, cap, cur, rfl, _, hh, _⟩
  · simp [Value.ownBlock] at hq
  · rcases h'.2 with ⟨rfl, _⟩ | ⟨g', cap', cur', rfl, _, hh', _⟩
    · simp [Value.ownBlock] at hq'
    · simp [Value.ownBlock] at hq hq'
      subst hq
      subst hq'
      rw [hh] at hh'
      injection hh' with h1
      injection h1 with _ h2
      exact he h2
/-- What a row owned stays where its block does, whatever the value. -/
theorem owns_keep3 {S : Nat → Prop} {w w' : World} {base n e size : Nat} {v : Value} {xs : List Value} (h : w.ownsRow base e size v n xs) (k : Keep S w w') (hq : ∀ g, base ≤ g → ¬ S g) : w'.ownsRow base e size v n xs := by
  obtain ⟨h1, h2⟩ := h
  refine ⟨h1, ?_⟩
  rcases h2 with h2 | ⟨g, cap, cur, hv, hg, hh, r⟩
  · exact Or.inl h2
  · exact Or.inr ⟨g, cap, cur, hv, hg, (k.block g (Lib.lt_of_heap hh) (hq g hg)).trans hh, r⟩
/-- The numbers on the way of a color to its byte. -/
theorem shade_num {c a : Int} (c0 : 0 ≤ c) (c1 : c < 256) (a0 : 0 ≤ a) (a1 : a < 256) : ∃ p m q : Int, c * 257 * a = p ∧ 0 ≤ p ∧ p ≤ 16711425 ∧ p / 255 = m ∧ p.tdiv 255 = m ∧ 0 ≤ m ∧ m ≤ 65535 ∧ m / 256 = q ∧ m >>> 8 = q ∧ 0 ≤ q ∧ q < 256 ∧ q = mulA c a / 256 := by
  have e1 : c * 257 * a ≤ 65535 * a := Int.mul_le_mul_of_nonneg_right (by omega) a0
  have e0 : 0 ≤ c * 257 * a := Int.mul_nonneg (by omega) a0
  have m0 := mulA_lo c0 a0
  have m1 := mulA_hi c1 a0 a1
  refine ⟨c * 257 * a, mulA c a, mulA c a / 256, rfl, e0, by omega, rfl, Int.tdiv_eq_ediv_of_nonneg e0, m0, m1, rfl, ?_, by omega, by omega, rfl⟩
  rw [Int.shiftRight_eq_div_pow]
  rfl
theorem rowOf_four (f : Nat → Int) (j : Nat) : rowOf f (4 * (j + 1)) = rowOf f (4 * j) ++ [f (4 * j), f (4 * j + 1), f (4 * j + 2), f (4 * j + 3)] := by
  simp [rowOf, Nat.mul_add, List.range_succ]
theorem rowOf_three (f : Nat → Int) (j : Nat) : rowOf f (3 * (j + 1)) = rowOf f (3 * j) ++ [f (3 * j), f (3 * j + 1), f (3 * j + 2)] := by
  simp [rowOf, Nat.mul_add, List.range_succ]
theorem palQ_0 (Qs : List Int) (j : Nat) : palQ Qs (3 * j) = mulA (Qs.getD (4 * j) 0) (Qs.getD (4 * j + 3) 0) / 256 := by
  have h1 : 3 * j / 3 = j := by omega
  have h2 : 3 * j % 3 = 0 := by omega
  rw [palQ, h1, h2]
  rfl
theorem palQ_1 (Qs : List Int) (j : Nat) : palQ Qs (3 * j + 1) = mulA (Qs.getD (4 * j + 1) 0) (Qs.getD (4 * j + 3) 0) / 256 := by
  have h1 : (3 * j + 1) / 3 = j := by omega
  have h2 : (3 * j + 1) % 3 = 1 := by omega
  rw [palQ, h1, h2]
theorem palQ_2 (Qs : List Int) (j : Nat) : palQ Qs (3 * j + 2) = mulA (Qs.getD (4 * j + 2) 0) (Qs.getD (4 * j + 3) 0) / 256 := by
  have h1 : (3 * j + 2) / 3 = j := by omega
  have h2 : (3 * j + 2) % 3 = 2 := by omega
  rw [palQ, h1, h2]
/-- The block that a row owned is no block of another kind. -/
theorem owns_other {w : World} {b e s n nb e' : Nat} {v : Value} {xs : List Value} {c : Array Value} {fr : Nat × Nat} (h : w.ownsRow b e s v n xs) (hn : w.heap[nb]? = some (.cells c e' fr)) (he : e ≠ e') : v.ownBlock ≠ some nb := by
  intro hq
  rcases h.2 with ⟨rfl, _⟩ | ⟨g, cap, cur, rfl, _, hh, _⟩
  · simp [Value.ownBlock] at hq
  · simp [Value.ownBlock] at hq
    subst hq
    rw [hh] at hn
    injection hn with h1
    injection h1 with _ h2
    exact he h2
/-- What a row owned stays where its own block does, whatever the value. -/
theorem owns_keep4 {S : Nat → Prop} {w w' : World} {base n e size : Nat} {v : Value} {xs : List Value} (h : w.ownsRow base e size v n xs) (k : Keep S w w') (hq : ∀ g, v.ownBlock = some g → ¬ S g) : w'.ownsRow base e size v n xs := by
  obtain ⟨h1, h2⟩ := h
  refine ⟨h1, ?_⟩
  rcases h2 with h2 | ⟨g, cap, cur, hv, hg, hh, r⟩
  · exact Or.inl h2
  · exact Or.inr ⟨g, cap, cur, hv, hg, (k.block g (Lib.lt_of_heap hh) (hq g (by rw [hv]; rfl))).trans hh, r⟩
/-- A round of the colors, when the first slice has grown. -/
structure Mid7 (W3 : World) (B j nb g1 cap1 : Nat) (c25 c28 c36 : Array Value) (xq xp : List Value) (pv : Value) (wx : World) : Prop where
  h4 : wx.heap[B + 1 + 1 + 1 + 1]? = some (.cells c25 25)
  h3 : wx.heap[B + 1 + 1 + 1]? = some (.cells c28 28)
  hn : wx.heap[nb]? = some (.cells c36 36)
  hq : wx.ownsRow W3.heap.size 38 4 (.slice (some ⟨g1, 0, none⟩) (j + 1) cap1) (j + 1) xq
  hp : wx.ownsRow W3.heap.size 40 3 pv j xp
  keep : Keep (fun q => q = B + 1 + 1 + 1 ∨ q = B + 1 + 1 + 1 + 1) W3 wx
theorem mid7 {W3 W1 w1 : World} {B j nb g1 cap1 : Nat} {qv pv : Value} {c25 c28 c36 : Array Value} {xq xp xq' : List Value}
    (h53 : B + 5 ≤ W3.heap.size) (hqw : W1.ownsRow W3.heap.size 38 4 qv j xq) (hpw : W1.ownsRow W3.heap.size 40 3 pv j xp) (hkw : Keep (fun q => q = B + 1 + 1 + 1 ∨ q = B + 1 + 1 + 1 + 1) W3 W1)
    (hb4 : W1.heap[B + 1 + 1 + 1 + 1]? = some (.cells c25 25)) (hb3 : W1.heap[B + 1 + 1 + 1]? = some (.cells c28 28)) (hn : W1.heap[nb]? = some (.cells c36 36)) (hnb : W3.heap.size ≤ nb)
    (hA : Keep (fun k => qv.ownBlock = some k) W1 w1) (hown : w1.ownsRow W3.heap.size 38 4 (.slice (some ⟨g1, 0, none⟩) (j + 1) cap1) (j + 1) xq') :
    Mid7 W3 B j nb g1 cap1 (c25.setIfInBounds 7 (.slice (some ⟨g1, 0, none⟩) (j + 1) cap1)) c28 c36 xq' xp pv (w1.setCell ⟨B + 1 + 1 + 1 + 1, 7, none⟩ (.slice (some ⟨g1, 0, none⟩) (j + 1) cap1)) := by
  have b4 := (hA.block _ (Lib.lt_of_heap hb4) (owns_other hqw hb4 (by decide))).trans hb4
  have b3 := (hA.block _ (Lib.lt_of_heap hb3) (owns_other hqw hb3 (by decide))).trans hb3
  have bn := (hA.block _ (Lib.lt_of_heap hn) (owns_other hqw hn (by decide))).trans hn
  refine ⟨Lib.heap_setCell_same (i := 7) b4 _, ?_, ?_, ?_, ?_, ?_⟩
  · exact (Below.heap_setCell w1 ⟨B + 1 + 1 + 1 + 1, 7, none⟩ _ (B + 1 + 1 + 1) (by show B + 1 + 1 + 1 ≠ B + 1 + 1 + 1 + 1; omega)).trans b3
  · exact (Below.heap_setCell w1 ⟨B + 1 + 1 + 1 + 1, 7, none⟩ _ nb (by show nb ≠ B + 1 + 1 + 1 + 1; omega)).trans bn
  · exact ownsRow_setCell_below hown (a := ⟨B + 1 + 1 + 1 + 1, 7, none⟩) (by show B + 1 + 1 + 1 + 1 < W3.heap.size; omega) _
  · exact ownsRow_setCell_below (owns_keep4 hpw hA (fun g hg hq => owns_apart hpw hqw (by decide) g hg hq)) (a := ⟨B + 1 + 1 + 1 + 1, 7, none⟩) (by show B + 1 + 1 + 1 + 1 < W3.heap.size; omega) _
  · refine Keep.setCell ⟨hA.os.trans hkw.os, hA.tape.trans hkw.tape, hA.output.trans hkw.output, Nat.le_trans hkw.size hA.size, fun k hk hs => ?_⟩ (p := ⟨B + 1 + 1 + 1 + 1, 7, none⟩) (.inl (.inr rfl)) _
    exact (hA.block k (Nat.lt_of_lt_of_le hk hkw.size) (fun e => by have := (hqw.lt k e).1; omega)).trans (hkw.block k hk hs)
theorem end7 {W3 wc w5 : World} {B j nb g1 cap1 g5 cap5 : Nat} {pv : Value} {c25 c28 c36 : Array Value} {xq xp xp' : List Value}
    (h53 : B + 5 ≤ W3.heap.size) (hM : Mid7 W3 B j nb g1 cap1 c25 c28 c36 xq xp pv wc)
    (hA : Keep (fun k => pv.ownBlock = some k) wc w5) (hown : w5.ownsRow W3.heap.size 40 3 (.slice (some ⟨g5, 0, none⟩) (j + 1) cap5) (j + 1) xp') :
    (w5.setCell ⟨B + 1 + 1 + 1, 4, none⟩ (.slice (some ⟨g5, 0, none⟩) (j + 1) cap5)).heap[B + 1 + 1 + 1 + 1]? = some (.cells c25 25) ∧
    (w5.setCell ⟨B + 1 + 1 + 1, 4, none⟩ (.slice (some ⟨g5, 0, none⟩) (j + 1) cap5)).heap[B + 1 + 1 + 1]? = some (.cells (c28.setIfInBounds 4 (.slice (some ⟨g5, 0, none⟩) (j + 1) cap5)) 28) ∧
    (w5.setCell ⟨B + 1 + 1 + 1, 4, none⟩ (.slice (some ⟨g5, 0, none⟩) (j + 1) cap5)).ownsRow W3.heap.size 38 4 (.slice (some ⟨g1, 0, none⟩) (j + 1) cap1) (j + 1) xq ∧
    (w5.setCell ⟨B + 1 + 1 + 1, 4, none⟩ (.slice (some ⟨g5, 0, none⟩) (j + 1) cap5)).ownsRow W3.heap.size 40 3 (.slice (some ⟨g5, 0, none⟩) (j + 1) cap5) (j + 1) xp' ∧
    Keep (fun q => q = B + 1 + 1 + 1 ∨ q = B + 1 + 1 + 1 + 1) W3 (w5.setCell ⟨B + 1 + 1 + 1, 4, none⟩ (.slice (some ⟨g5, 0, none⟩) (j + 1) cap5)) := by
  have b4 := (hA.block _ (Lib.lt_of_heap hM.h4) (owns_other hM.hp hM.h4 (by decide))).trans hM.h4
  have b3 := (hA.block _ (Lib.lt_of_heap hM.h3) (owns_other hM.hp hM.h3 (by decide))).trans hM.h3
  refine ⟨?_, Lib.heap_setCell_same (i := 4) b3 _, ?_, ?_, ?_⟩
  · exact (Below.heap_setCell w5 ⟨B + 1 + 1 + 1, 4, none⟩ _ (B + 1 + 1 + 1 + 1) (by show B + 1 + 1 + 1 + 1 ≠ B + 1 + 1 + 1; omega)).trans b4
  · exact ownsRow_setCell_below (owns_keep4 hM.hq hA (fun g hg hq => owns_apart hM.hq hM.hp (by decide) g hg hq)) (a := ⟨B + 1 + 1 + 1, 4, none⟩) (by show B + 1 + 1 + 1 < W3.heap.size; omega) _
  · exact ownsRow_setCell_below hown (a := ⟨B + 1 + 1 + 1, 4, none⟩) (by show B + 1 + 1 + 1 < W3.heap.size; omega) _
  · refine Keep.setCell ⟨hA.os.trans hM.keep.os, hA.tape.trans hM.keep.tape, hA.output.trans hM.keep.output, Nat.le_trans hM.keep.size hA.size, fun k hk hs => ?_⟩ (p := ⟨B + 1 + 1 + 1, 4, none⟩) (.inl (.inl rfl)) _
    exact (hA.block k (Nat.lt_of_lt_of_le hk hM.keep.size) (fun e => by have := (hM.hp.lt k e).1; omega)).trans (hM.keep.block k hk hs)
end Go.Proofs.YtfefgopomhhpfaaDoor
