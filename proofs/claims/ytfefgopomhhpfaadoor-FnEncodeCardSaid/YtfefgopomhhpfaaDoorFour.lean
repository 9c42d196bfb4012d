/- The two closures of headerBytes: each appends a number's bytes, the lowest first, to the captured slice. -/
import Derived.Test.YtfefgopomhhpfaaDoorPut
import Derived.Test.YtfefgopomhhpfaaDoorKeep
namespace Go.Proofs.YtfefgopomhhpfaaDoor
open Go.RowKit

/-- The captured slice in block q, its bytes in a block of the call's own (from B on). -/
def Acc (w : World) (q B : Nat) (xs : List Int) : Prop :=
  B ≤ q ∧ ∃ n g cap, n = xs.length ∧ w.heap[q]? = some (.cells #[.slice (some ⟨g, 0, none⟩) n cap] 22 (0, 0)) ∧ w.ownsRow B 5 1 (.slice (some ⟨g, 0, none⟩) n cap) n (u8s xs) ∧ g ≠ q

def Added (q B : Nat) (xs ys : List Int) (w : World) (e : Ending) (w' : World) : Prop :=
  e = .returned (.tuple #[]) ∧ Acc w' q B (xs ++ ys) ∧ Below B w w'

theorem le4 (x : Int) : le 4 x = [x % 256, x / 256 % 256, x / 65536 % 256, x / 16777216 % 256] := by
  simp [le, List.range_succ]
theorem le2 (x : Int) : le 2 x = [x % 256, x / 256 % 256] := by
  simp [le, List.range_succ]

theorem added_end {q B n g cap g' cap' m : Nat} {xs ys : List Int} {w w1 : World} {o : Obj} (hB : B ≤ q) (hn : n = xs.length) (hq : w.heap[q]? = some (.cells #[.slice (some ⟨g, 0, none⟩) n cap] 22 (0, 0)))
    (hown : w.ownsRow B 5 1 (.slice (some ⟨g, 0, none⟩) n cap) n (u8s xs)) (hgq : g ≠ q) (hm : ys.length = m)
    (hown' : w1.ownsRow B 5 1 (.slice (some ⟨g', 0, none⟩) (n + m) cap') (n + m) (u8s xs ++ u8s ys)) (hgrow : (w.alloc o).grownBy w1 (Value.slice (some ⟨g, 0, none⟩) n cap).ownBlock)
    (hg' : (Value.slice (some ⟨g, 0, none⟩) n cap).ownBlock = some g' ∨ g' = w.heap.size + 1) :
    Added q B xs ys w (.returned (.tuple #[])) (w1.setCell ⟨q, 0, none⟩ (.slice (some ⟨g', 0, none⟩) (n + m) cap')) := by
  have hlt := Lib.lt_of_heap hq
  have hBg : B ≤ g := (hown.lt g rfl).1
  have hg2 : g' ≠ q := by
    rcases hg' with h | h
    · simp [Value.ownBlock] at h; omega
    · omega
  have hBw : B ≤ w.heap.size := by omega
  have hq1 : w1.heap[q]? = some (.cells #[.slice (some ⟨g, 0, none⟩) n cap] 22 (0, 0)) := by
    rw [hgrow.block q (by simp; omega) (by simp [Value.ownBlock]; omega), Below.heap_alloc _ _ _ hlt]
    exact hq
  refine ⟨rfl, ⟨hB, n + m, g', cap', by rw [List.length_append]; omega, Lib.heap_setCell_same (i := 0) hq1 _, ?_, hg2⟩, ?_⟩
  · rw [u8s_append]
    exact hown'.kept (Lib.grownBy_setCell w1 q 0 _) (.inr (by simp [Value.ownBlock]; exact hg2))
  · exact (((Below.refl B w).alloc hBw _).grown hgrow (by simp; omega) (fun k hk => by simp [Value.ownBlock] at hk; omega)).setCell (p := ⟨q, 0, none⟩) hB _

theorem acc_kept {q n g cap : Nat} {w w1 : World} {o : Obj} (hq : w.heap[q]? = some (.cells #[.slice (some ⟨g, 0, none⟩) n cap] 22 (0, 0))) (hgq : g ≠ q)
    (hgrow : (w.alloc o).grownBy w1 (Value.slice (some ⟨g, 0, none⟩) n cap).ownBlock) : w1.heap[q]? = some (.cells #[.slice (some ⟨g, 0, none⟩) n cap] 22 (0, 0)) := by
  have hlt := Lib.lt_of_heap hq
  rw [hgrow.block q (by simp; omega) (by simp [Value.ownBlock]; omega), Below.heap_alloc _ _ _ hlt]
  exact hq

set_option maxHeartbeats 400000 in
set_option maxRecDepth 100000 in
theorem four_any (q B : Nat) (xs : List Int) (x : Int) (w : World) (h : Acc w q B xs) (hx0 : 0 ≤ x) (hx : x < 4294967296) (hl : xs.length ≤ 1000) :
    Calls Tryd.prog 27 #[.int .u32 x, .pointer (some ⟨q, 0, none⟩)] w (Added q B xs (le 4 x) w) := by
  obtain ⟨hB, n, g, cap, hn, hq, hown, hgq⟩ := h
  obtain ⟨i0, hi, hz0, hz1, hz2⟩ := info_parts info5
  have c0 : w.cell? ⟨q, 0, none⟩ = some (.slice (some ⟨g, 0, none⟩) n cap) := by rw [Lib.cell_of_heap hq]; rfl
  have hlt := Lib.lt_of_heap hq
  have hn2 : n ≤ 1000 := by omega
  have HN := Lib.hid hn
  have HQ := Lib.hid hq
  clear hn hq hl
  go_enter Tryd.func27, Tryd.ntmps27
  go_wp2_with (at_builtin; refine wpList_append_lies _ rfl (.tmp 3) (.tmp 15) 22 rfl B 5 i0 (.int .u8 0) 1 1 Tryd.underlying22 hi hz0 hz1 hz2 rfl (by omega) _ n (u8s xs) (by rfl) (hown.alloc _) ⟨w.heap.size, 0, none⟩ 4 4 _ (by rfl) (by rfl) (World.news_of_block (heap_alloc_new w _)) (by simp [Value.oneCell']) (by omega) (by unfold maxLen; omega) (by omega) (by simp; omega) (w.heap.size + 1) (by simp) ?_; intro g' cap' w1 hown' hgrow hg' _; have hq1 := acc_kept HQ.out hgq hgrow; have d0 : w1.cell? ⟨q, 0, none⟩ = some (.slice (some ⟨g, 0, none⟩) n cap) := (Lib.cell_of_heap hq1 0).trans rfl; have f0 : w1.frozen? ⟨q, 0, none⟩ = false := Lib.frozen_of_heap hq1 0; have HQ1 := Lib.hid hq1; clear hq1)
  go_end0
  refine added_end (o := _) hB HN.out HQ.out hown hgq (by rw [le4]; rfl) ?_ hgrow hg'
  rw [le4]
  have e4 : x / 16777216 % 256 = x / 16777216 := by omega
  rw [e4]
  exact hown'

set_option maxHeartbeats 400000 in
set_option maxRecDepth 100000 in
theorem two_any (q B : Nat) (xs : List Int) (x : Int) (w : World) (h : Acc w q B xs) (hx0 : 0 ≤ x) (hx : x < 65536) (hl : xs.length ≤ 1000) :
    Calls Tryd.prog 28 #[.int .u16 x, .pointer (some ⟨q, 0, none⟩)] w (Added q B xs (le 2 x) w) := by
  obtain ⟨hB, n, g, cap, hn, hq, hown, hgq⟩ := h
  obtain ⟨i0, hi, hz0, hz1, hz2⟩ := info_parts info5
  have c0 : w.cell? ⟨q, 0, none⟩ = some (.slice (some ⟨g, 0, none⟩) n cap) := by rw [Lib.cell_of_heap hq]; rfl
  have hlt := Lib.lt_of_heap hq
  have hn2 : n ≤ 1000 := by omega
  have HN := Lib.hid hn
  have HQ := Lib.hid hq
  clear hn hq hl
  go_enter Tryd.func28, Tryd.ntmps28
  go_wp2_with (at_builtin; refine wpList_append_lies _ rfl (.tmp 3) (.tmp 9) 22 rfl B 5 i0 (.int .u8 0) 1 1 Tryd.underlying22 hi hz0 hz1 hz2 rfl (by omega) _ n (u8s xs) (by rfl) (hown.alloc _) ⟨w.heap.size, 0, none⟩ 2 2 _ (by rfl) (by rfl) (World.news_of_block (heap_alloc_new w _)) (by simp [Value.oneCell']) (by omega) (by unfold maxLen; omega) (by omega) (by simp; omega) (w.heap.size + 1) (by simp) ?_; intro g' cap' w1 hown' hgrow hg' _; have hq1 := acc_kept HQ.out hgq hgrow; have d0 : w1.cell? ⟨q, 0, none⟩ = some (.slice (some ⟨g, 0, none⟩) n cap) := (Lib.cell_of_heap hq1 0).trans rfl; have f0 : w1.frozen? ⟨q, 0, none⟩ = false := Lib.frozen_of_heap hq1 0; have HQ1 := Lib.hid hq1; clear hq1)
  go_end0
  refine added_end (o := _) hB HN.out HQ.out hown hgq (by rw [le2]; rfl) ?_ hgrow hg'
  rw [le2]
  have e2 : x / 256 % 256 = x / 256 := by omega
  rw [e2]
  exact hown'

#print axioms four_any
#print axioms two_any
end Go.Proofs.YtfefgopomhhpfaaDoor
