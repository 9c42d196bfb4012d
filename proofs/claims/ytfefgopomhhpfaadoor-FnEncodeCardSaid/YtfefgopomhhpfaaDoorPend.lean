/- A slice of bytes that grows by other slices of bytes that the call has made: what is held between the appends. -/
import Derived.Test.YtfefgopomhhpfaaDoorAppZero
import Derived.Test.YtfefgopomhhpfaaDoorHead
import Derived.Test.YtfefgopomhhpfaaDoorImagePal
namespace Go.Proofs.YtfefgopomhhpfaaDoor
open Go.RowKit

/-- A row of bytes apart from block g. -/
def Apart (w : World) (B g : Nat) (v : Value) (ys : List Int) : Prop := ∃ k c, v = .slice (some ⟨k, 0, none⟩) ys.length c ∧ k ≠ g ∧ w.ownsRow B 5 1 v ys.length (u8s ys)

/-- out lies in block g; ps are still to be appended. -/
structure Pend (w0 w : World) (g cap : Nat) (xs : List Int) (ps : List (Value × List Int)) : Prop where
  own : w.ownsRow w0.heap.size 5 1 (.slice (some ⟨g, 0, none⟩) xs.length cap) xs.length (u8s xs)
  pend : ∀ p ∈ ps, Apart w w0.heap.size g p.1 p.2
  below : Below w0.heap.size w0 w

namespace Pend
variable {w0 w w' : World} {g cap : Nat} {xs : List Int} {ps : List (Value × List Int)}
theorem lt (h : Pend w0 w g cap xs ps) : w0.heap.size ≤ g ∧ g < w.heap.size := h.own.lt g rfl
/-- More memory, nothing turned. -/
theorem later (h : Pend w0 w g cap xs ps) (hb : Below w.heap.size w w') : Pend w0 w' g cap xs ps := by
  have hz := h.below.size
  refine ⟨h.own.kept ⟨hb.os, hb.tape, hb.output, hb.size, fun k hk _ => hb.block k hk⟩ (row := none) (by simp [Value.ownBlock]), ?_, h.below.trans (hb.mono hz)⟩
  intro p hp
  obtain ⟨k, c, h1, h2, h3⟩ := h.pend p hp
  exact ⟨k, c, h1, h2, h3.kept ⟨hb.os, hb.tape, hb.output, hb.size, fun k hk _ => hb.block k hk⟩ (row := none) (by rw [h1]; simp [Value.ownBlock])⟩
theorem add (h : Pend w0 w g cap xs ps) {v : Value} {ys : List Int} {k c : Nat} (hv : v = .slice (some ⟨k, 0, none⟩) ys.length c) (hk : k ≠ g) (ho : w.ownsRow w0.heap.size 5 1 v ys.length (u8s ys)) : Pend w0 w g cap xs ((v, ys) :: ps) := by
  refine ⟨h.own, ?_, h.below⟩
  intro p hp
  rcases List.mem_cons.1 hp with rfl | hp
  · exact ⟨k, c, hv, hk, ho⟩
  · exact h.pend p hp
/-- A call of a function that makes bytes. -/
theorem put (h : Pend w0 w g cap xs ps) {k c n : Nat} {ys : List Int} (hn : ys.length = n) (ho : w'.ownsRow w.heap.size 5 1 (.slice (some ⟨k, 0, none⟩) n c) n (u8s ys)) (hb : Below w.heap.size w w') :
    Pend w0 w' g cap xs ((.slice (some ⟨k, 0, none⟩) n c, ys) :: ps) := by
  subst hn
  have h1 := (ho.lt k rfl).1
  have h2 := h.lt
  have hz := h.below.size
  exact (h.later hb).add rfl (by omega) (owns_mono ho hz)
/-- A literal of bytes. -/
theorem lit (h : Pend w0 w g cap xs ps) {ys : List Int} (hy : ys.length ≤ 100) : Pend w0 (w.alloc (.cells (u8s ys).toArray 5)) g cap xs ((.slice (some ⟨w.heap.size, 0, none⟩) ys.length ys.length, ys) :: ps) := by
  have h2 := h.lt
  have hz := h.below.size
  refine (h.later ((Below.refl _ w).alloc (Nat.le_refl _) _)).add rfl (by omega) ?_
  have hl : (u8s ys).length = ys.length := by simp [u8s]
  exact ⟨by rw [hl, Nat.mul_one], .inr ⟨w.heap.size, ys.length, _, rfl, hz, heap_alloc_new w _, Nat.le_refl _, by unfold maxLen; omega, by simp [hl], by simp [← hl]⟩⟩
theorem take (h : Pend w0 w g cap xs ps) {v : Value} {ys : List Int} (e : (v, ys) ∈ ps) : ∃ k c, v = .slice (some ⟨k, 0, none⟩) ys.length c ∧ ∀ j u, (u8s ys)[j]? = some u → w.cell? ((⟨k, 0, none⟩ : Addr).add j) = some u := by
  obtain ⟨k, c, h1, h2, h3⟩ := h.pend (v, ys) e
  have h4 : v = .slice (some ⟨k, 0, none⟩) ys.length c := h1
  exact ⟨k, c, h4, h3.cells (g := k) (by rw [h1]; rfl)⟩
/-- One of what is still to come is appended. -/
theorem app (h : Pend w0 w g cap xs ps) {ys : List Int} {g' cap' n m H : Nat} (hn : n = xs.length) (hm : m = ys.length)
    (ho : w'.ownsRow w0.heap.size 5 1 (.slice (some ⟨g', 0, none⟩) (n + m) cap') (n + m) (u8s xs ++ u8s ys)) (hg : w.grownBy w' (some g)) (hl : some g = some g' ∨ g' = H) (hH : w.heap.size = H) : Pend w0 w' g' cap' (xs ++ ys) ps := by
  subst hn; subst hm
  have h2 := h.lt
  refine ⟨by rw [List.length_append, u8s_append]; exact ho, ?_, h.below.grown hg h.below.size (fun q hq => by injection hq with hq; omega)⟩
  intro p hp
  obtain ⟨k, c, h3, h4, h5⟩ := h.pend p hp
  have h6 := (h5.lt k (by rw [h3]; rfl)).2
  refine ⟨k, c, h3, ?_, h5.kept hg (by rw [h3]; simp [Value.ownBlock]; omega)⟩
  rcases hl with hl | hl
  · injection hl with hl; omega
  · omega
/-- Noughts are appended. -/
theorem zeros (h : Pend w0 w g cap xs ps) {g' cap' n m : Nat} (hn : n = xs.length)
    (ho : w'.ownsRow w0.heap.size 5 1 (.slice (some ⟨g', 0, none⟩) (n + m) cap') (n + m) (u8s xs ++ List.replicate m (.int .u8 0))) (hg : w.grownBy w' (some g)) (hl : g' = g ∨ g' = w.heap.size) : Pend w0 w' g' cap' (xs ++ List.replicate m 0) ps := by
  subst hn
  have h2 := h.lt
  have e : u8s xs ++ List.replicate m (Value.int .u8 0) = u8s (xs ++ List.replicate m 0) := by rw [u8s_append]; simp [u8s]
  refine ⟨by rw [List.length_append, List.length_replicate, ← e]; exact ho, ?_, h.below.grown hg h.below.size (fun q hq => by injection hq with hq; omega)⟩
  intro p hp
  obtain ⟨k, c, h3, h4, h5⟩ := h.pend p hp
  have h6 := (h5.lt k (by rw [h3]; rfl)).2
  exact ⟨k, c, h3, by omega, h5.kept hg (by rw [h3]; simp [Value.ownBlock]; omega)⟩
end Pend
end Go.Proofs.YtfefgopomhhpfaaDoor
