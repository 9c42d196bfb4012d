/- A bytes.Buffer that the call itself has made and only written: what its Write leaves, said with a frame that names each block that stays. Walks of grow and Write over the shelf's contracts of the callees. -/
import Derived.Test.YtfefgopomhhpfaaDoorBase
import Derived.Test.YtfefgopomhhpfaaDoorShelf
import Derived.RegionTactic
import Derived.Deep.RegionWith
import Derived.Deep.RegionHeld3
import Derived.StillTailTactics
import Derived.Deep.Draws
import Derived.BigCall
import Derived.BigGuard
import Derived.Lib.BufferWrite
import Derived.Laws.CopyRow
namespace Go.Proofs.YtfefgopomhhpfaaDoor
open Go.RowKit

/-- All blocks of w but those in S are in w' as they were. -/
structure Keep (S : Nat → Prop) (w w' : World) : Prop where
  os : w'.os = w.os
  tape : w'.tape = w.tape
  output : w'.output = w.output
  size : w.heap.size ≤ w'.heap.size
  block : ∀ k, k < w.heap.size → ¬ S k → w'.heap[k]? = w.heap[k]?

namespace Keep
variable {S T : Nat → Prop} {w w' w'' : World}
theorem refl (S : Nat → Prop) (w : World) : Keep S w w := ⟨rfl, rfl, rfl, Nat.le_refl _, fun _ _ _ => rfl⟩
theorem trans (h : Keep S w w') (k : Keep S w' w'') : Keep S w w'' :=
  ⟨k.os.trans h.os, k.tape.trans h.tape, k.output.trans h.output, Nat.le_trans h.size k.size, fun i hi hs => (k.block i (Nat.lt_of_lt_of_le hi h.size) hs).trans (h.block i hi hs)⟩
theorem weaken (h : Keep S w w') (hst : ∀ k, k < w.heap.size → S k → T k) : Keep T w w' :=
  ⟨h.os, h.tape, h.output, h.size, fun i hi hs => h.block i hi (fun e => hs (hst i hi e))⟩
theorem drew (h : Keep S w w') : Keep S w w'.drew := ⟨h.os, h.tape, h.output, h.size, h.block⟩
theorem drewN (h : Keep S w w') (n : Nat) : Keep S w (w'.drewN n) := ⟨h.os, h.tape, h.output, h.size, h.block⟩
theorem alloc (h : Keep S w w') (o : Obj) : Keep S w (w'.alloc o) :=
  ⟨h.os, h.tape, h.output, by have := h.size; simp; omega, fun k hk hs => (Below.heap_alloc _ _ _ (Nat.lt_of_lt_of_le hk h.size)).trans (h.block k hk hs)⟩
theorem setCell (h : Keep S w w') {p : Addr} (hp : S p.block ∨ w.heap.size ≤ p.block) (u : Value) : Keep S w (w'.setCell p u) :=
  ⟨h.os, h.tape, h.output, by have := h.size; simpa [World.setCell] using this, fun k hk hs => (Below.heap_setCell _ _ _ _ (fun e => by
    rcases hp with hp | hp
    · exact hs (e ▸ hp)
    · omega)).trans (h.block k hk hs)⟩
theorem setRow (h : Keep S w w') {g : Nat} (hp : S g ∨ w.heap.size ≤ g) (cs : Array Value) : Keep S w (w'.setRow g cs) :=
  ⟨h.os, h.tape, h.output, by have := h.size; simpa [World.setRow] using this, fun k hk hs => by
    have hne : k ≠ g := by
      rintro rfl
      rcases hp with hp | hp
      · exact hs hp
      · omega
    have : (w'.setRow g cs).heap[k]? = w'.heap[k]? := by
      simp only [World.setRow, Array.getElem?_modify]
      rw [if_neg (fun e => hne e.symm)]
    exact this.trans (h.block k hk hs)⟩
theorem below {B : Nat} (h : Keep S w w') (hb : Below B w' w'') (hB : ∀ k, k < w.heap.size → ¬ S k → k < B) : Keep S w w'' :=
  ⟨hb.os.trans h.os, hb.tape.trans h.tape, hb.output.trans h.output, Nat.le_trans h.size hb.size, fun k hk hs => (hb.block k (hB k hk hs)).trans (h.block k hk hs)⟩
theorem grown {row : Option Nat} (h : Keep S w w') (hg : w'.grownBy w'' row) (hr : ∀ k, row = some k → S k ∨ w.heap.size ≤ k) : Keep S w w'' :=
  ⟨hg.os.trans h.os, hg.tape.trans h.tape, hg.output.trans h.output, Nat.le_trans h.size hg.size, fun k hk hs => (hg.block k (Nat.lt_of_lt_of_le hk h.size) (fun e => by
    rcases hr k e.symm with hp | hp
    · exact hs hp
    · omega)).trans (h.block k hk hs)⟩
theorem toBelow (h : Keep S w w') {B : Nat} (hB : B ≤ w.heap.size) (hS : ∀ k, k < B → ¬ S k) : Below B w w' :=
  ⟨h.os, h.tape, h.output, h.size, fun k hk => h.block k (Nat.lt_of_lt_of_le hk hB) (hS k hk)⟩
theorem ofBelow (hb : Below w.heap.size w w') : Keep S w w' := ⟨hb.os, hb.tape, hb.output, hb.size, fun k hk _ => hb.block k hk⟩
theorem cell (h : Keep S w w') {p : Addr} (hp : p.block < w.heap.size) (hs : ¬ S p.block) : w'.cell? p = w.cell? p := World.cell?_of_block (w := w) (h.block _ hp hs)
end Keep

/-- A buffer in block b whose bytes lie in row g: l bytes, room for cap. -/
structure BufAt (w : World) (b g l cap : Nat) (cur : Array Value) : Prop where
  hdr : ∃ lr, w.heap[b]? = some (.cells #[.slice (some ⟨g, 0, none⟩) l cap, .int .i64 0, .int .i8 lr] 45 (0, 0))
  row : w.heap[g]? = some (.cells cur 5 (0, 0))
  le : l ≤ cap
  cm : cap ≤ maxLen
  cs : cur.size = cap
  ne : g ≠ b

theorem BufAt.buffer {w : World} {b g l cap : Nat} {cur : Array Value} (h : BufAt w b g l cap cur) : Lib.IsBuffer 45 5 0 b (cur.toList.take l) w := by
  obtain ⟨⟨lr, hh⟩, hr, hle, hcm, hcs, hne⟩ := h
  have hlen : (cur.toList.take l).length = l := by rw [List.length_take, Array.length_toList]; omega
  exact ⟨Nat.zero_le _, _, lr, hh, ⟨by rw [hlen, Nat.mul_one], .inr ⟨g, cap, cur, by rw [hlen], Nat.zero_le _, hr, by omega, hcm, by omega, by rw [hlen, Nat.mul_one]⟩⟩, by simp [Value.ownBlock]; exact hne⟩

end Go.Proofs.YtfefgopomhhpfaaDoor
