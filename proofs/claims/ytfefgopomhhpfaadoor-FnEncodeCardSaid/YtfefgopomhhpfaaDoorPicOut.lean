/- laws.pictureOf: what it hands back. -/
import Derived.Test.YtfefgopomhhpfaaDoorPicBase
namespace Go.Proofs.YtfefgopomhhpfaaDoor
open Go.RowKit

/-- The two pictures, without colors. -/
def PicOut (kd z W H S N : Nat) (D : List Int) (hi : Bool) (w : World) (x : Ending) (w' : World) : Prop :=
  ∃ gs cs gp cp, x = .returned (.tuple #[.agg #[.int .i64 kd, .int .i64 0, .int .i64 0, .int .i64 W, .int .i64 H, .int .i64 S, .slice (some ⟨gs, 0, none⟩) (S * H) cs, .slice none 0 0], .agg #[.int .i64 kd, .int .i64 W, .int .i64 H, .slice (some ⟨gp, 0, none⟩) N cp, .slice none 0 0]]) ∧
    w'.ownsRow w.heap.size 5 1 (.slice (some ⟨gs, 0, none⟩) (S * H) cs) (S * H) (u8s (rowsUp (lineOf (pixv D hi) (W * z) S) H)) ∧ w'.ownsRow w.heap.size 5 1 (.slice (some ⟨gp, 0, none⟩) N cp) N (u8s (pixs D hi N)) ∧ Below w.heap.size w w'

theorem store8 {w : World} {b : Nat} {a0 a1 a2 a3 a4 a5 a6 a7 : Value} (h0 : w.heap[b]? = some (.cells #[a0, a1, a2, a3, a4, a5, a6, a7] 25)) (v0 v1 v2 v3 v4 v5 v6 v7 : Value) :
    ((((((((w.setCell ⟨b, 0, none⟩ v0).setCell ⟨b, 1, none⟩ v1).setCell ⟨b, 2, none⟩ v2).setCell ⟨b, 3, none⟩ v3).setCell ⟨b, 4, none⟩ v4).setCell ⟨b, 5, none⟩ v5).setCell ⟨b, 6, none⟩ v6).setCell ⟨b, 7, none⟩ v7).heap[b]? = some (.cells #[v0, v1, v2, v3, v4, v5, v6, v7] 25) ∧ Keep (· = b) w ((((((((w.setCell ⟨b, 0, none⟩ v0).setCell ⟨b, 1, none⟩ v1).setCell ⟨b, 2, none⟩ v2).setCell ⟨b, 3, none⟩ v3).setCell ⟨b, 4, none⟩ v4).setCell ⟨b, 5, none⟩ v5).setCell ⟨b, 6, none⟩ v6).setCell ⟨b, 7, none⟩ v7) := by
  have e1 : (w.setCell ⟨b, 0, none⟩ v0).heap[b]? = some (.cells #[v0, a1, a2, a3, a4, a5, a6, a7] 25) := Lib.heap_setCell_same (i := 0) h0 v0
  have k1 : Keep (· = b) w (w.setCell ⟨b, 0, none⟩ v0) := Keep.setCell (Keep.refl (· = b) _) (p := ⟨b, 0, none⟩) (.inl rfl) v0
  have e2 : ((w.setCell ⟨b, 0, none⟩ v0).setCell ⟨b, 1, none⟩ v1).heap[b]? = some (.cells #[v0, v1, a2, a3, a4, a5, a6, a7] 25) := Lib.heap_setCell_same (i := 1) e1 v1
  have k2 : Keep (· = b) w ((w.setCell ⟨b, 0, none⟩ v0).setCell ⟨b, 1, none⟩ v1) := Keep.setCell (k1) (p := ⟨b, 1, none⟩) (.inl rfl) v1
  have e3 : (((w.setCell ⟨b, 0, none⟩ v0).setCell ⟨b, 1, none⟩ v1).setCell ⟨b, 2, none⟩ v2).heap[b]? = some (.cells #[v0, v1, v2, a3, a4, a5, a6, a7] 25) := Lib.heap_setCell_same (i := 2) e2 v2
  have k3 : Keep (· = b) w (((w.setCell ⟨b, 0, none⟩ v0).setCell ⟨b, 1, none⟩ v1).setCell ⟨b, 2, none⟩ v2) := Keep.setCell (k2) (p := ⟨b, 2, none⟩) (.inl rfl) v2
  have e4 : ((((w.setCell ⟨b, 0, none⟩ v0).setCell ⟨b, 1, none⟩ v1).setCell ⟨b, 2, none⟩ v2).setCell ⟨b, 3, none⟩ v3).heap[b]? = some (.cells #[v0, v1, v2, v3, a4, a5, a6, a7] 25) := Lib.heap_setCell_same (i := 3) e3 v3
  have k4 : Keep (· = b) w ((((w.setCell ⟨b, 0, none⟩ v0).setCell ⟨b, 1, none⟩ v1).setCell ⟨b, 2, none⟩ v2).setCell ⟨b, 3, none⟩ v3) := Keep.setCell (k3) (p := ⟨b, 3, none⟩) (.inl rfl) v3
  have e5 : (((((w.setCell ⟨b, 0, none⟩ v0).setCell ⟨b, 1, none⟩ v1).setCell ⟨b, 2, none⟩ v2).setCell ⟨b, 3, none⟩ v3).setCell ⟨b, 4, none⟩ v4).heap[b]? = some (.cells #[v0, v1, v2, v3, v4, a5, a6, a7] 25) := Lib.heap_setCell_same (i := 4) e4 v4
  have k5 : Keep (· = b) w (((((w.setCell ⟨b, 0, none⟩ v0).setCell ⟨b, 1, none⟩ v1).setCell ⟨b, 2, none⟩ v2).setCell ⟨b, 3, none⟩ v3).setCell ⟨b, 4, none⟩ v4) := Keep.setCell (k4) (p := ⟨b, 4, none⟩) (.inl rfl) v4
  have e6 : ((((((w.setCell ⟨b, 0, none⟩ v0).setCell ⟨b, 1, none⟩ v1).setCell ⟨b, 2, none⟩ v2).setCell ⟨b, 3, none⟩ v3).setCell ⟨b, 4, none⟩ v4).setCell ⟨b, 5, none⟩ v5).heap[b]? = some (.cells #[v0, v1, v2, v3, v4, v5, a6, a7] 25) := Lib.heap_setCell_same (i := 5) e5 v5
  have k6 : Keep (· = b) w ((((((w.setCell ⟨b, 0, none⟩ v0).setCell ⟨b, 1, none⟩ v1).setCell ⟨b, 2, none⟩ v2).setCell ⟨b, 3, none⟩ v3).setCell ⟨b, 4, none⟩ v4).setCell ⟨b, 5, none⟩ v5) := Keep.setCell (k5) (p := ⟨b, 5, none⟩) (.inl rfl) v5
  have e7 : (((((((w.setCell ⟨b, 0, none⟩ v0).setCell ⟨b, 1, none⟩ v1).setCell ⟨b, 2, none⟩ v2).setCell ⟨b, 3, none⟩ v3).setCell ⟨b, 4, none⟩ v4).setCell ⟨b, 5, none⟩ v5).setCell ⟨b, 6, none⟩ v6).heap[b]? = some (.cells #[v0, v1, v2, v3, v4, v5, v6, a7] 25) := Lib.heap_setCell_same (i := 6) e6 v6
  have k7 : Keep (· = b) w (((((((w.setCell ⟨b, 0, none⟩ v0).setCell ⟨b, 1, none⟩ v1).setCell ⟨b, 2, none⟩ v2).setCell ⟨b, 3, none⟩ v3).setCell ⟨b, 4, none⟩ v4).setCell ⟨b, 5, none⟩ v5).setCell ⟨b, 6, none⟩ v6) := Keep.setCell (k6) (p := ⟨b, 6, none⟩) (.inl rfl) v6
  have e8 : ((((((((w.setCell ⟨b, 0, none⟩ v0).setCell ⟨b, 1, none⟩ v1).setCell ⟨b, 2, none⟩ v2).setCell ⟨b, 3, none⟩ v3).setCell ⟨b, 4, none⟩ v4).setCell ⟨b, 5, none⟩ v5).setCell ⟨b, 6, none⟩ v6).setCell ⟨b, 7, none⟩ v7).heap[b]? = some (.cells #[v0, v1, v2, v3, v4, v5, v6, v7] 25) := Lib.heap_setCell_same (i := 7) e7 v7
  have k8 : Keep (· = b) w ((((((((w.setCell ⟨b, 0, none⟩ v0).setCell ⟨b, 1, none⟩ v1).setCell ⟨b, 2, none⟩ v2).setCell ⟨b, 3, none⟩ v3).setCell ⟨b, 4, none⟩ v4).setCell ⟨b, 5, none⟩ v5).setCell ⟨b, 6, none⟩ v6).setCell ⟨b, 7, none⟩ v7) := Keep.setCell (k7) (p := ⟨b, 7, none⟩) (.inl rfl) v7
  exact ⟨e8, k8⟩
theorem store5 {w : World} {b : Nat} {a0 a1 a2 a3 a4 : Value} (h0 : w.heap[b]? = some (.cells #[a0, a1, a2, a3, a4] 28)) (v0 v1 v2 v3 v4 : Value) :
    (((((w.setCell ⟨b, 0, none⟩ v0).setCell ⟨b, 1, none⟩ v1).setCell ⟨b, 2, none⟩ v2).setCell ⟨b, 3, none⟩ v3).setCell ⟨b, 4, none⟩ v4).heap[b]? = some (.cells #[v0, v1, v2, v3, v4] 28) ∧ Keep (· = b) w (((((w.setCell ⟨b, 0, none⟩ v0).setCell ⟨b, 1, none⟩ v1).setCell ⟨b, 2, none⟩ v2).setCell ⟨b, 3, none⟩ v3).setCell ⟨b, 4, none⟩ v4) := by
  have e1 : (w.setCell ⟨b, 0, none⟩ v0).heap[b]? = some (.cells #[v0, a1, a2, a3, a4] 28) := Lib.heap_setCell_same (i := 0) h0 v0
  have k1 : Keep (· = b) w (w.setCell ⟨b, 0, none⟩ v0) := Keep.setCell (Keep.refl (· = b) _) (p := ⟨b, 0, none⟩) (.inl rfl) v0
  have e2 : ((w.setCell ⟨b, 0, none⟩ v0).setCell ⟨b, 1, none⟩ v1).heap[b]? = some (.cells #[v0, v1, a2, a3, a4] 28) := Lib.heap_setCell_same (i := 1) e1 v1
  have k2 : Keep (· = b) w ((w.setCell ⟨b, 0, none⟩ v0).setCell ⟨b, 1, none⟩ v1) := Keep.setCell (k1) (p := ⟨b, 1, none⟩) (.inl rfl) v1
  have e3 : (((w.setCell ⟨b, 0, none⟩ v0).setCell ⟨b, 1, none⟩ v1).setCell ⟨b, 2, none⟩ v2).heap[b]? = some (.cells #[v0, v1, v2, a3, a4] 28) := Lib.heap_setCell_same (i := 2) e2 v2
  have k3 : Keep (· = b) w (((w.setCell ⟨b, 0, none⟩ v0).setCell ⟨b, 1, none⟩ v1).setCell ⟨b, 2, none⟩ v2) := Keep.setCell (k2) (p := ⟨b, 2, none⟩) (.inl rfl) v2
  have e4 : ((((w.setCell ⟨b, 0, none⟩ v0).setCell ⟨b, 1, none⟩ v1).setCell ⟨b, 2, none⟩ v2).setCell ⟨b, 3, none⟩ v3).heap[b]? = some (.cells #[v0, v1, v2, v3, a4] 28) := Lib.heap_setCell_same (i := 3) e3 v3
  have k4 : Keep (· = b) w ((((w.setCell ⟨b, 0, none⟩ v0).setCell ⟨b, 1, none⟩ v1).setCell ⟨b, 2, none⟩ v2).setCell ⟨b, 3, none⟩ v3) := Keep.setCell (k3) (p := ⟨b, 3, none⟩) (.inl rfl) v3
  have e5 : (((((w.setCell ⟨b, 0, none⟩ v0).setCell ⟨b, 1, none⟩ v1).setCell ⟨b, 2, none⟩ v2).setCell ⟨b, 3, none⟩ v3).setCell ⟨b, 4, none⟩ v4).heap[b]? = some (.cells #[v0, v1, v2, v3, v4] 28) := Lib.heap_setCell_same (i := 4) e4 v4
  have k5 : Keep (· = b) w (((((w.setCell ⟨b, 0, none⟩ v0).setCell ⟨b, 1, none⟩ v1).setCell ⟨b, 2, none⟩ v2).setCell ⟨b, 3, none⟩ v3).setCell ⟨b, 4, none⟩ v4) := Keep.setCell (k4) (p := ⟨b, 4, none⟩) (.inl rfl) v4
  exact ⟨e5, k5⟩
theorem two_stored {w : World} {B : Nat} {a0 a1 a2 a3 a4 a5 a6 a7 b0 b1 b2 b3 b4 : Value} (h0 : w.heap[B]? = some (.cells #[a0, a1, a2, a3, a4, a5, a6, a7] 25)) (h1 : w.heap[B + 1]? = some (.cells #[b0, b1, b2, b3, b4] 28)) (v0 v1 v2 v3 v4 v5 v6 v7 u0 u1 u2 u3 u4 : Value) :
    (((((((((((((w.setCell ⟨B, 0, none⟩ v0).setCell ⟨B, 1, none⟩ v1).setCell ⟨B, 2, none⟩ v2).setCell ⟨B, 3, none⟩ v3).setCell ⟨B, 4, none⟩ v4).setCell ⟨B, 5, none⟩ v5).setCell ⟨B, 6, none⟩ v6).setCell ⟨B, 7, none⟩ v7).setCell ⟨B + 1, 0, none⟩ u0).setCell ⟨B + 1, 1, none⟩ u1).setCell ⟨B + 1, 2, none⟩ u2).setCell ⟨B + 1, 3, none⟩ u3).setCell ⟨B + 1, 4, none⟩ u4).heap[B]? = some (.cells #[v0, v1, v2, v3, v4, v5, v6, v7] 25) ∧ (((((((((((((w.setCell ⟨B, 0, none⟩ v0).setCell ⟨B, 1, none⟩ v1).setCell ⟨B, 2, none⟩ v2).setCell ⟨B, 3, none⟩ v3).setCell ⟨B, 4, none⟩ v4).setCell ⟨B, 5, none⟩ v5).setCell ⟨B, 6, none⟩ v6).setCell ⟨B, 7, none⟩ v7).setCell ⟨B + 1, 0, none⟩ u0).setCell ⟨B + 1, 1, none⟩ u1).setCell ⟨B + 1, 2, none⟩ u2).setCell ⟨B + 1, 3, none⟩ u3).setCell ⟨B + 1, 4, none⟩ u4).heap[B + 1]? = some (.cells #[u0, u1, u2, u3, u4] 28) ∧ Keep (fun k => k = B ∨ k = B + 1) w (((((((((((((w.setCell ⟨B, 0, none⟩ v0).setCell ⟨B, 1, none⟩ v1).setCell ⟨B, 2, none⟩ v2).setCell ⟨B, 3, none⟩ v3).setCell ⟨B, 4, none⟩ v4).setCell ⟨B, 5, none⟩ v5).setCell ⟨B, 6, none⟩ v6).setCell ⟨B, 7, none⟩ v7).setCell ⟨B + 1, 0, none⟩ u0).setCell ⟨B + 1, 1, none⟩ u1).setCell ⟨B + 1, 2, none⟩ u2).setCell ⟨B + 1, 3, none⟩ u3).setCell ⟨B + 1, 4, none⟩ u4) := by
  obtain ⟨e0, k0⟩ := store8 h0 v0 v1 v2 v3 v4 v5 v6 v7
  generalize ((((((((w.setCell ⟨B, 0, none⟩ v0).setCell ⟨B, 1, none⟩ v1).setCell ⟨B, 2, none⟩ v2).setCell ⟨B, 3, none⟩ v3).setCell ⟨B, 4, none⟩ v4).setCell ⟨B, 5, none⟩ v5).setCell ⟨B, 6, none⟩ v6).setCell ⟨B, 7, none⟩ v7) = w8 at e0 k0 ⊢
  have h1' : w8.heap[B + 1]? = some (.cells #[b0, b1, b2, b3, b4] 28) := (k0.block _ (Lib.lt_of_heap h1) (by omega)).trans h1
  obtain ⟨e1, k1⟩ := store5 h1' u0 u1 u2 u3 u4
  refine ⟨(k1.block _ (Lib.lt_of_heap e0) (by omega)).trans e0, e1, ⟨k1.os.trans k0.os, k1.tape.trans k0.tape, k1.output.trans k0.output, Nat.le_trans k0.size k1.size, fun k hk hs => ?_⟩⟩
  exact (k1.block k (Nat.lt_of_lt_of_le hk k0.size) (fun e => hs (.inr e))).trans (k0.block k hk (fun e => hs (.inl e)))
/-- One more row and its noughts behind the rows, where a pixel is one byte. -/
theorem line_step1 {w : World} {B b i g cap S y W p m : Nat} {px : Nat → Int} {v : Value} (h : w.ownsRow B 5 1 (.slice (some ⟨g, 0, none⟩) (S * y + W + m) cap) (S * y + W + m) (u8s (rowsUp (lineOf px W S) y) ++ u8s (rowOf (fun x => px (p + x)) W) ++ List.replicate m (.int .u8 0)))
    (hp : p = y * W) (hm : m = S - W) (hWS : W ≤ S) (hb : b < B) (hv : v = .slice (some ⟨g, 0, none⟩) (S * y + W + m) cap := by rfl) :
    (w.setCell ⟨b, i, none⟩ v).ownsRow B 5 1 v (S * (y + 1)) (u8s (rowsUp (lineOf px W S) (y + 1))) := by
  have h2 := line_step (z := 1) (px := px) (W := W) (S := S) (y := y) (p := p) (m := m) (i := i) (v := v) (by simpa only [Nat.mul_one] using h) hp (by simpa only [Nat.mul_one] using hm) (by simpa only [Nat.mul_one] using hWS) hb (by simpa only [Nat.mul_one] using hv)
  simpa only [Nat.mul_one] using h2
/-- What is owned from B on is owned from b on. -/
theorem owns_base {w : World} {B b e size n : Nat} {v : Value} {xs : List Value} (h : w.ownsRow B e size v n xs) (hb : b ≤ B) : w.ownsRow b e size v n xs := by
  obtain ⟨h1, h2⟩ := h
  refine ⟨h1, ?_⟩
  rcases h2 with h2 | ⟨g, cap, cur, hv, hg, r⟩
  · exact Or.inl h2
  · exact Or.inr ⟨g, cap, cur, hv, Nat.le_trans hb hg, r⟩
/-- What a row owned stays where its block does. -/
theorem owns_keep2 {S : Nat → Prop} {w w' : World} {base n g cap e size : Nat} {xs : List Value} (h : w.ownsRow base e size (.slice (some ⟨g, 0, none⟩) n cap) n xs) (k : Keep S w w') (hq : ¬ S g) : w'.ownsRow base e size (.slice (some ⟨g, 0, none⟩) n cap) n xs := by
  obtain ⟨h1, h2⟩ := h
  refine ⟨h1, ?_⟩
  rcases h2 with ⟨h2, _⟩ | ⟨g', cap', cur, hv, hg, hh, r⟩
  · cases h2
  · cases hv
    exact Or.inr ⟨g, cap, cur, rfl, hg, (k.block g (Lib.lt_of_heap hh) hq).trans hh, r⟩
end Go.Proofs.YtfefgopomhhpfaaDoor
