/- (*bytes.Buffer).grow where the buffer holds no row yet, n at most 64. -/
import Derived.Test.YtfefgopomhhpfaaDoorKeep
import Derived.Laws.MakeOwn
namespace Go.Proofs.YtfefgopomhhpfaaDoor
open Go.RowKit

/-- What grow leaves where there was no row: one of 64 bytes. -/
def GrewNil (b n : Nat) (w : World) (e : Ending) (w' : World) : Prop :=
  e = .returned (.int .i64 0) ∧ ∃ g cur', BufAt w' b g n 64 cur' ∧ w.heap.size ≤ g ∧ Keep (· = b) w w'

set_option maxHeartbeats 1600000 in
set_option maxRecDepth 100000 in
theorem grow_nil (b n : Nat) (lr : Int) (w : World) (hbk : w.heap[b]? = some (.cells #[.slice none 0 0, .int .i64 0, .int .i8 lr] 45 (0, 0))) (hn : 0 < n) (h64 : n ≤ 64) :
    Calls Tryd.prog 50 #[.pointer (some ⟨b, 0, none⟩), .int .i64 n] w (GrewNil b n w) := by
  obtain ⟨i0, hi, hz0, hz1, hz2⟩ := info_parts info5
  obtain ⟨M, hM⟩ : ∃ M, M = madeCells (Value.int .u8 0).cells ((64 : Int).toNat * i0.size) := ⟨_, rfl⟩
  have hMs : M.size = 64 := by rw [hM, size_madeCells, hz1]; rfl
  have hmk : ∀ W : World, (Instr.makeSlice 22 (.int .i64 (n : Int)) (.int .i64 64)).run Tryd.prog W = .ok (.slice (some ⟨W.heap.size, 0, none⟩) n 64) (W.alloc (.cells M 5)) := fun W => by
    have h := run_makeSlice (P := Tryd.prog) W 22 5 i0 (.int .u8 0) Tryd.underlying22 hi hz0 .i64 .i64 (n : Int) 64 (by omega) (by omega) (by rw [hz1]; decide) (by rw [hz2]; decide) (by decide)
    rw [← hM] at h
    simpa using h
  clear hM
  have hIs : Lib.IsBuffer 45 5 0 b [] w := ⟨Nat.zero_le _, _, _, hbk, World.ownsRow_nil _ _ _ _, by simp [Value.ownBlock]⟩
  have hnil : ∀ W, (binOp .eql 22 (.slice none 0 0) (.slice none 0 0)).run Tryd.prog W = .ok (.bool true) W := fun W => Lib.run_eql_slice_nil_nil W _ _ Tryd.underlying22
  go_enter Tryd.func50, Tryd.ntmps50
  go_wp2_with (go_at_call 51; refine (Tryd.Buffer_Len 0 b [] _ hIs).mono ?_)
  rintro e W0 ⟨rfl, k, hW0⟩
  have hbk0 : W0.heap[b]? = some (.cells #[.slice none 0 0, .int .i64 0, .int .i8 lr] 45 (0, 0)) := by rw [hW0]; exact hbk
  have c0 : W0.cell? ⟨b, 0, none⟩ = some (.slice none 0 0) := by rw [Lib.cell_of_heap hbk0]; rfl
  have c1 : W0.cell? ⟨b, 1, none⟩ = some (.int .i64 0) := by rw [Lib.cell_of_heap hbk0]; rfl
  have f0 : W0.frozen? ⟨b, 0, none⟩ = false := Lib.frozen_of_heap hbk0 0
  have f1 : W0.frozen? ⟨b, 1, none⟩ = false := Lib.frozen_of_heap hbk0 1
  have hbW0 := Lib.lt_of_heap hbk0
  have c0a : ∀ o, (W0.alloc o).cell? ⟨b, 0, none⟩ = some (.slice none 0 0) := fun o => (World.cell?_of_block (a := ⟨b, 0, none⟩) (Below.heap_alloc W0 o b hbW0)).trans c0
  have f0a : ∀ o, (W0.alloc o).frozen? ⟨b, 0, none⟩ = false := fun o => (World.frozen?_of_block (a := ⟨b, 0, none⟩) (Below.heap_alloc W0 o b hbW0)).trans f0
  have HW0 := Lib.hid hW0
  clear hW0 hIs
  go_wp2_with (go_at_call 49; refine (Tryd.Buffer_tryGrow_none b _ 0 0 n _ c0 (Nat.le_refl _) (Nat.zero_le _) (by omega)).mono ?_; rintro e w' ⟨rfl, rfl⟩)
  go_ret
  have hs : w'.heap.size = w.heap.size := by rw [HW0.out]; rfl
  have k0 : Keep (· = b) w w' := by rw [HW0.out]; exact (Keep.refl _ _).drewN k
  have hbs : b < w.heap.size := by omega
  refine ⟨rfl, w'.heap.size, M, ⟨⟨lr, ?_⟩, ?_, h64, by unfold maxLen; omega, hMs, by omega⟩, by omega, (k0.setCell (p := ⟨b, 0, none⟩) (.inl rfl) _).alloc _⟩
  · rw [Below.heap_alloc _ _ _ (by simpa [World.setCell] using hbW0)]
    exact Lib.heap_setCell_same (i := 0) hbk0 _
  · have := heap_alloc_new (w'.setCell ⟨b, 0, none⟩ (.slice (some ⟨w'.heap.size, 0, none⟩) n 64)) (.cells M 5)
    simpa [World.setCell] using this
end Go.Proofs.YtfefgopomhhpfaaDoor
