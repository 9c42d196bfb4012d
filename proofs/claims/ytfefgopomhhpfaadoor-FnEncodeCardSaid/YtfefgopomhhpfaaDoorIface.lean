/- Closed facts on the methods that are called through interface values, and rows laid from below. -/
import Derived.Test.YtfefgopomhhpfaaDoorWrite
namespace Go.Proofs.YtfefgopomhhpfaaDoor
open Go.RowKit

theorem nil_write (a : Addr) (w : World) : (nilAhead 272 49 (.pointer (some a)) "Write").run Tryd.prog w = .ok (some false) w := by kernel_rfl
theorem method_write (a : Addr) (w : World) : (method 272 49 (.pointer (some a)) "Write").run Tryd.prog w = .ok (48, .pointer (some a)) w := by kernel_rfl

theorem Buf.drew {w : World} {b g : Nat} {bs : List Int} (h : Buf w b g bs) : Buf w.drew b g bs := by
  obtain ⟨cap, cur, ⟨h1, h2, h3, h4, h5, h6⟩, ht⟩ := h
  exact ⟨cap, cur, ⟨h1, h2, h3, h4, h5, h6⟩, ht⟩
theorem Buf.drewN {w : World} {b g : Nat} {bs : List Int} (h : Buf w b g bs) (n : Nat) : Buf (w.drewN n) b g bs := by
  obtain ⟨cap, cur, ⟨h1, h2, h3, h4, h5, h6⟩, ht⟩ := h
  exact ⟨cap, cur, ⟨h1, h2, h3, h4, h5, h6⟩, ht⟩
/-- A buffer stays where nothing of its two blocks turns. -/
theorem Buf.keep {S : Nat → Prop} {w w' : World} {b g : Nat} {bs : List Int} (h : Buf w b g bs) (k : Keep S w w') (hb : ¬ S b) (hg : ¬ S g) : Buf w' b g bs := by
  obtain ⟨cap, cur, ⟨⟨lr, h1⟩, h2, h3, h4, h5, h6⟩, ht⟩ := h
  exact ⟨cap, cur, ⟨⟨lr, (k.block b (Lib.lt_of_heap h1) hb).trans h1⟩, (k.block g (Lib.lt_of_heap h2) hg).trans h2, h3, h4, h5, h6⟩, ht⟩
theorem Buf.lt {w : World} {b g : Nat} {bs : List Int} (h : Buf w b g bs) : b < w.heap.size ∧ g < w.heap.size ∧ g ≠ b := by
  obtain ⟨cap, cur, ⟨⟨lr, h1⟩, h2, h3, h4, h5, h6⟩, ht⟩ := h
  exact ⟨Lib.lt_of_heap h1, Lib.lt_of_heap h2, h6⟩

/-- Rows f (n - 1), .., f 0, one behind the other. -/
def rowsDown (f : Nat → List Int) : Nat → List Int
  | 0 => []
  | n + 1 => f n ++ rowsDown f n

/-- The blocks that an encoder may turn: the buffer's own two, and those that are new. -/
def May (w : World) (b g0 k : Nat) : Prop := k = b ∨ k = g0 ∨ w.heap.size ≤ k

/-- What an encoder leaves: the rows behind what was written. -/
def Encoded (b g0 : Nat) (tot : List Int) (w : World) (e : Ending) (w' : World) : Prop :=
  e = .returned .nilIface ∧ ∃ g, Buf w' b g tot ∧ (g = g0 ∨ w.heap.size ≤ g) ∧ Keep (May w b g0) w w'

/-- .. and while m rows are still to come. -/
structure Laid (w wr : World) (b g0 : Nat) (f : Nat → List Int) (T : Nat) (tot : List Int) (m g : Nat) (out : List Int) : Prop where
  buf : Buf wr b g out
  tot : out ++ rowsDown f m = tot
  pos : 0 < out.length
  lim : out.length + T * m ≤ 100000000
  own : g = g0 ∨ w.heap.size ≤ g
  keep : Keep (May w b g0) w wr

theorem Laid.step {w wr wx : World} {b g0 : Nat} {f : Nat → List Int} {T : Nat} {tot : List Int} {m g g' : Nat} {out : List Int} (h : Laid w wr b g0 f T tot (m + 1) g out)
    (hb : Buf wx b g' (out ++ f m)) (hf : (f m).length = T) (hg : g' = g ∨ w.heap.size ≤ g') (hk : Keep (May w b g) wr wx) : Laid w wx b g0 f T tot m g' (out ++ f m) := by
  obtain ⟨h1, h2, h3, h4, h5, h6⟩ := h
  refine ⟨hb, by rw [← h2, List.append_assoc]; rfl, by rw [List.length_append]; omega, ?_, by omega, h6.trans (hk.weaken fun k _ hs => ?_)⟩
  · rw [List.length_append, hf]
    have : T * (m + 1) = T * m + T := Nat.mul_succ T m
    omega
  · unfold May at *
    omega

theorem Laid.done {w wr : World} {b g0 : Nat} {f : Nat → List Int} {T : Nat} {tot : List Int} {g : Nat} {out : List Int} (h : Laid w wr b g0 f T tot 0 g out) : Encoded b g0 tot w (.returned .nilIface) wr := by
  obtain ⟨h1, h2, h3, h4, h5, h6⟩ := h
  have h2' : out = tot := by simpa [rowsDown] using h2
  subst h2'
  exact ⟨rfl, g, h1, h5, h6⟩

theorem Laid.start {w wr : World} {b g0 : Nat} {f : Nat → List Int} {T H : Nat} {bs : List Int} (hB : Buf wr b g0 bs) (hl : 0 < bs.length) (hlim : bs.length + T * H ≤ 100000000) (hk : Keep (May w b g0) w wr) :
    Laid w wr b g0 f T (bs ++ rowsDown f H) H g0 bs := ⟨hB, rfl, hl, hlim, .inl rfl, hk⟩

/-- A Write's frame, as an encoder's. -/
theorem Keep.may {w wr wx : World} {b g : Nat} (h : Keep (fun k => k = b ∨ k = g) wr wx) : Keep (May w b g) wr wx := h.weaken fun k _ hs => by unfold May; omega

/-- A row of W bytes of a picture. -/
def rowOf (px : Nat → Int) (W : Nat) : List Int := (List.range W).map px
theorem rowOf_length (px : Nat → Int) (W : Nat) : (rowOf px W).length = W := by simp [rowOf]
theorem rowOf_reads {w : World} {g o W : Nat} {px : Nat → Int} (h : ∀ x, x < W → w.cell? ⟨g, o + x, none⟩ = some (.int .u8 (px x))) : Reads w ⟨g, o, none⟩ (rowOf px W) := by
  intro j hj
  rw [rowOf_length] at hj
  rw [Lib.addr_add, h j hj]
  simp [rowOf, List.getD_eq_getElem?_getD, hj]
theorem zeros_reads {w : World} {g n : Nat} (h : w.rowIs g 5 n (fun _ => .int .u8 0)) : Reads w ⟨g, 0, none⟩ (List.replicate n 0) := by
  intro j hj
  rw [List.length_replicate] at hj
  rw [Lib.addr_add, Nat.zero_add, h.cell hj]
  simp [List.getD_eq_getElem?_getD, hj]
/-- A row filled with noughts to T bytes. -/
def padRow (px : Nat → Nat → Int) (W T : Nat) (y : Nat) : List Int := rowOf (px y) W ++ List.replicate (T - W) 0
theorem padRow_length (px : Nat → Nat → Int) (W T y : Nat) (h : W ≤ T) : (padRow px W T y).length = T := by simp [padRow, rowOf_length]; omega
end Go.Proofs.YtfefgopomhhpfaaDoor
