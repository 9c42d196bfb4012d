/- (*bytes.Buffer).grow where the buffer holds a row without room, and where it holds none yet (n at most 64): what is left, with a frame that names each block that stays. -/
import Derived.Test.YtfefgopomhhpfaaDoorKeep
namespace Go.Proofs.YtfefgopomhhpfaaDoor
open Go.RowKit

/-- What grow leaves where the row has no room: a new row. -/
def Grew (b l n : Nat) (cur : Array Value) (w : World) (e : Ending) (w' : World) : Prop :=
  e = .returned (.int .i64 l) ∧ ∃ cap' cur', BufAt w' b w.heap.size (l + n) cap' cur' ∧ cur'.toList.take l = cur.toList.take l ∧ Keep (· = b) w w'

theorem grew_end {w W0 w2 : World} {b g l cap n k cap2 : Nat} {lr : Int} {cur cells : Array Value} (hW0 : W0 = w.drewN k) (hbW : b < W0.heap.size)
    (hbk2 : w2.heap[b]? = some (.cells #[.slice (some ⟨g, 0, none⟩) l cap, .int .i64 0, .int .i8 lr] 45 (0, 0)))
    (hN : w2.heap[W0.drew.heap.size]? = some (.cells cells 5 (0, 0))) (hcsz : cells.size = cap2) (htk : cells.toList.take l = cur.toList.take l)
    (hcap2 : l + n ≤ cap2) (hcm2 : cap2 ≤ maxLen) (hbel : Below W0.drew.heap.size W0.drew w2) :
    Grew b l n cur w (.returned (.int .i64 l)) (((w2.setCell ⟨b, 0, none⟩ (.slice (some ⟨W0.heap.size, 0, none⟩) l cap2)).setCell ⟨b, 1, none⟩ (.int .i64 0)).setCell ⟨b, 0, none⟩ (.slice (some ⟨W0.heap.size, 0, none⟩) (l + n) cap2)) := by
  subst hW0
  have hs : (w.drewN k).heap.size = w.heap.size := rfl
  have hs2 : (w.drewN k).drew.heap.size = w.heap.size := rfl
  rw [hs] at hbW
  rw [hs2] at hN
  refine ⟨rfl, cap2, cells, ⟨⟨lr, ?_⟩, ?_, hcap2, hcm2, hcsz, by omega⟩, htk, ?_⟩
  · exact Lib.heap_setCell_same (i := 0) (Lib.heap_setCell_same (i := 1) (Lib.heap_setCell_same (i := 0) hbk2 _) _) _
  · rw [Below.heap_setCell _ _ _ _ (by show w.heap.size ≠ b; omega), Below.heap_setCell _ _ _ _ (by show w.heap.size ≠ b; omega), Below.heap_setCell _ _ _ _ (by show w.heap.size ≠ b; omega)]
    exact hN
  · have k0 : Keep (· = b) w w2 := ((Keep.refl (· = b) w).drewN k).drew.below hbel (fun q hq _ => hq)
    exact ((k0.setCell (p := ⟨b, 0, none⟩) (.inl rfl) _).setCell (p := ⟨b, 1, none⟩) (.inl rfl) _).setCell (p := ⟨b, 0, none⟩) (.inl rfl) _

set_option maxHeartbeats 1600000 in
set_option maxRecDepth 100000 in
theorem grow_row (b g l cap n : Nat) (cur : Array Value) (w : World) (h : BufAt w b g l cap cur) (hl : 0 < l) (hn : 0 < n) (hroom : cap - l < n) (hlim : l + n ≤ 140737488355328)
    (h1 : ∀ v ∈ cur.toList.take l, v.oneCell' = true) :
    Calls Tryd.prog 50 #[.pointer (some ⟨b, 0, none⟩), .int .i64 n] w (Grew b l n cur w) := by
  have hIs := h.buffer
  have hlen : (cur.toList.take l).length = l := by rw [List.length_take, Array.length_toList]; have := h.cs; have := h.le; omega
  obtain ⟨⟨lr, hbk⟩, hg, hlc, hcm, hcs, hgb⟩ := h
  have hnil : ∀ W, (binOp .eql 22 (.slice (some ⟨g, 0, none⟩) l cap) (.slice none 0 0)).run Tryd.prog W = .ok (.bool false) W := fun W => Lib.run_eql_slice_some_nil W _ _ _ Tryd.underlying22
  have hc2 : cap ≤ 140737488355328 := by omega
  have hl0 : ((l : Int) == 0) = false := by rw [beq_eq_false_iff_ne]; omega
  go_enter Tryd.func50, Tryd.ntmps50
  go_wp2_with (go_at_call 51; refine (Tryd.Buffer_Len 0 b _ _ hIs).mono ?_)
  rintro e W0 ⟨rfl, k, hW0⟩
  rw [hlen]
  have hbk0 : W0.heap[b]? = some (.cells #[.slice (some ⟨g, 0, none⟩) l cap, .int .i64 0, .int .i8 lr] 45 (0, 0)) := by rw [hW0]; exact hbk
  have hg0 : W0.heap[g]? = some (.cells cur 5 (0, 0)) := by rw [hW0]; exact hg
  have c0 : W0.cell? ⟨b, 0, none⟩ = some (.slice (some ⟨g, 0, none⟩) l cap) := by rw [Lib.cell_of_heap hbk0]; rfl
  have c1 : W0.cell? ⟨b, 1, none⟩ = some (.int .i64 0) := by rw [Lib.cell_of_heap hbk0]; rfl
  have f0 : W0.frozen? ⟨b, 0, none⟩ = false := Lib.frozen_of_heap hbk0 0
  have f1 : W0.frozen? ⟨b, 1, none⟩ = false := Lib.frozen_of_heap hbk0 1
  have HW0 := Lib.hid hW0
  clear hW0 hIs hlen
  have HL := Lib.hid hcs
  clear hcs
  go_wp2_with (go_at_call 49; refine (Tryd.Buffer_tryGrow_none b _ l cap n _ c0 hlc hcm hroom).mono ?_; rintro e w' ⟨rfl, rfl⟩)
  have hbW := Lib.lt_of_heap hbk0
  have hwn : IntKind.i64.wrap (n : Int) = n := by rw [IntKind.wrap_i64]; omega
  go_region_with (
      go_at_call 52
      refine (Tryd.bytes_growSlice_row g l cap n cur _ ?_ HL.out hlc hn hlim hc2 h1).mono ?_
      exact hg0
      rintro e w2 ⟨cap2, cells, rfl, hN, hcsz, htk, hcap2, hcm2, hbel⟩
      have hbk2 : w2.heap[b]? = some (.cells #[.slice (some ⟨g, 0, none⟩) l cap, .int .i64 0, .int .i8 lr] 45 (0, 0)) := (hbel.block b hbW).trans hbk0
      have d0 : w2.cell? ⟨b, 0, none⟩ = some (.slice (some ⟨g, 0, none⟩) l cap) := by rw [Lib.cell_of_heap hbk2]; rfl
      have d1 : w2.cell? ⟨b, 1, none⟩ = some (.int .i64 0) := by rw [Lib.cell_of_heap hbk2]; rfl
      have e0 : w2.frozen? ⟨b, 0, none⟩ = false := Lib.frozen_of_heap hbk2 0
      have e1 : w2.frozen? ⟨b, 1, none⟩ = false := Lib.frozen_of_heap hbk2 1)
  all_goals (
    go_wp2
    go_ret
    exact grew_end HW0.out hbW hbk2 hN hcsz htk hcap2 hcm2 hbel)

#print axioms grow_row
end Go.Proofs.YtfefgopomhhpfaaDoor
