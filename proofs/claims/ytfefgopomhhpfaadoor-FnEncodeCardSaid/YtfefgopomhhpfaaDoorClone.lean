/- slices.Clone of a slice of bytes that holds one or more; impl.fits at a picture that begins at 0. -/
import Derived.Test.YtfefgopomhhpfaaDoorPut
import Derived.Test.YtfefgopomhhpfaaDoorFill
import Derived.Test.YtfefgopomhhpfaaDoorSmall
namespace Go.Proofs.YtfefgopomhhpfaaDoor
open Go.RowKit

set_option maxHeartbeats 400000 in
set_option maxRecDepth 100000 in
theorem clone_any (a : Addr) (n c : Nat) (xs : List Int) (w : World) (hr : Reads w a xs) (hn : xs.length = n) (hn0 : 0 < n) (hn2 : n ≤ 100000000) :
    Calls Tryd.prog 23 #[.slice (some a) n c] w (Gives w n xs) := by
  obtain ⟨i0, hi, hz0, hz1, hz2⟩ := info_parts info5
  have hlt : a.block < w.heap.size := by
    have h := World.block_lt_of_cell? w (a.add 0) (hr 0 (by omega))
    rwa [Lib.block_add] at h
  have hnil : ∀ W, (binOp .eql 22 (.slice (some a) n c) (.slice none 0 0)).run Tryd.prog W = .ok (.bool false) W := fun W => Lib.run_eql_slice_some_nil W _ _ _ Tryd.underlying22
  have hnews : ∀ j u, (u8s xs)[j]? = some u → (w.alloc (.cells #[] 5)).cell? (a.add j) = some u := fun j u hu => by
    rw [World.cell?_of_block (w := w) (Below.heap_alloc w _ _ (by rw [Lib.block_add]; exact hlt))]
    exact hr.get j u hu
  have hown : (w.alloc (.cells #[] 5)).ownsRow w.heap.size 5 1 (.slice (some ⟨w.heap.size, 0, none⟩) 0 0) 0 [] :=
    ⟨rfl, Or.inr ⟨w.heap.size, 0, #[], rfl, Nat.le_refl _, heap_alloc_new w _, Nat.le_refl _, by unfold maxLen; omega, rfl, rfl⟩⟩
  have hl : (u8s xs).length = n * 1 := by rw [u8s_length, hn, Nat.mul_one]
  have HN := Lib.hid hn
  have HL := Lib.hid hl
  clear hn hl hr
  go_enter Tryd.func23, Tryd.ntmps23
  go_wp2_with (at_builtin; refine wpList_append_lies _ rfl (.tmp 5) (.tmp 6) 22 rfl w.heap.size 5 i0 (.int .u8 0) 1 1 Tryd.underlying22 hi hz0 hz1 hz2 rfl (by omega) _ 0 [] (by rfl) hown a n c (u8s xs) (by rfl) HL.out hnews (u8s_one xs) hn0 (by unfold maxLen; omega) (by omega) (by simp) (w.heap.size + 1) (by simp) ?_; intro g' cap' w1 hown' hgrow _ _)
  go_ret
  have hB : Below w.heap.size w w1 := ((Below.refl _ _).alloc (Nat.le_refl _) _).grown hgrow (by simp) (fun q hq => by simp [Value.ownBlock] at hq; omega)
  exact ⟨g', cap', by simp, by simpa using hown', hB⟩

#print axioms clone_any
end Go.Proofs.YtfefgopomhhpfaaDoor
