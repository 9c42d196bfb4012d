/- A row of a picture that is laid pixel by pixel into one buffer: what the buffer holds while it is filled; the three ways of a pixel. No program in sight. -/
import Derived.Test.YtfefgopomhhpfaaDoorIface
namespace Go.Proofs.YtfefgopomhhpfaaDoor
open Go.RowKit

/-- Blue, green, red of a pixel of four bytes. -/
def row24 (px : Nat → Int) (i : Nat) : Int := px (4 * (i / 3) + (2 - i % 3))
/-- A colour by its alpha. -/
def conv (a p : Int) : Int := if a = 0 then 0 else if a = 255 then p else p * 65535 / a / 256 % 256
def row32r (px : Nat → Int) (i : Nat) : Int := if i % 4 = 3 then px (4 * (i / 4) + 3) else conv (px (4 * (i / 4) + 3)) (px (4 * (i / 4) + (2 - i % 4)))
def row32n (px : Nat → Int) (i : Nat) : Int := if i % 4 = 3 then px (4 * (i / 4) + 3) else px (4 * (i / 4) + (2 - i % 4))

/-- What a buffer holds when its first o bytes are f's, the rest F's. -/
def part (f F : Nat → Int) (o : Nat) : Nat → Value := fun i => .int .u8 (if i < o then f i else F i)

theorem fill3 {w : World} {b T o : Nat} {f F : Nat → Int} (h : w.rowIs b 5 T (part f F o)) {v0 v1 v2 : Int} (h0 : v0 = f o) (h1 : v1 = f (o + 1)) (h2 : v2 = f (o + 2)) :
    (((w.setCell ⟨b, o + 2, none⟩ (.int .u8 v2)).setCell ⟨b, o + 1, none⟩ (.int .u8 v1)).setCell ⟨b, o, none⟩ (.int .u8 v0)).rowIs b 5 T (part f F (o + 3)) := by
  subst h0; subst h1; subst h2
  refine (((h.set (o + 2) _).set (o + 1) _).set o _).congr fun i _ => ?_
  simp only [part]
  by_cases e0 : i = o
  · subst e0; rw [if_pos rfl, if_pos (by omega)]
  · rw [if_neg e0]
    by_cases e1 : i = o + 1
    · subst e1; rw [if_pos rfl, if_pos (by omega)]
    · rw [if_neg e1]
      by_cases e2 : i = o + 2
      · subst e2; rw [if_pos rfl, if_pos (by omega)]
      · rw [if_neg e2]
        by_cases e3 : i < o
        · rw [if_pos e3, if_pos (by omega)]
        · rw [if_neg e3, if_neg (by omega)]

theorem fill4 {w : World} {b T o : Nat} {f F : Nat → Int} (h : w.rowIs b 5 T (part f F o)) {v0 v1 v2 v3 : Int} (h0 : v0 = f o) (h1 : v1 = f (o + 1)) (h2 : v2 = f (o + 2)) (h3 : v3 = f (o + 3)) :
    ((((w.setCell ⟨b, o + 2, none⟩ (.int .u8 v2)).setCell ⟨b, o + 1, none⟩ (.int .u8 v1)).setCell ⟨b, o, none⟩ (.int .u8 v0)).setCell ⟨b, o + 3, none⟩ (.int .u8 v3)).rowIs b 5 T (part f F (o + 4)) := by
  subst h3
  refine ((fill3 h h0 h1 h2).set (o + 3) _).congr fun i _ => ?_
  simp only [part]
  by_cases e0 : i = o + 3
  · subst e0; rw [if_pos rfl, if_pos (by omega)]
  · rw [if_neg e0]
    by_cases e3 : i < o + 3
    · rw [if_pos e3, if_pos (by omega)]
    · rw [if_neg e3, if_neg (by omega)]

/-- The row that is laid: N bytes of f, then noughts. -/
def fullRow (f : Nat → Int) (N T : Nat) : List Int := rowOf (fun i => if i < N then f i else 0) T
theorem fullRow_length (f : Nat → Int) (N T : Nat) : (fullRow f N T).length = T := rowOf_length _ _
/-- The filled buffer reads as the row. -/
theorem part_reads {w : World} {b T N : Nat} {f F : Nat → Int} (h : w.rowIs b 5 T (part f F N)) (hF : ∀ i, N ≤ i → i < T → F i = 0) : Reads w ⟨b, 0, none⟩ (fullRow f N T) := by
  refine rowOf_reads fun x hx => ?_
  rw [Nat.zero_add, h.cell hx]
  simp only [part]
  by_cases e : x < N
  · rw [if_pos e, if_pos e]
  · rw [if_neg e, if_neg e, hF x (by omega) hx]
/-- .. and is where the next row begins. -/
theorem part_next {w : World} {b T N : Nat} {f F g : Nat → Int} (h : w.rowIs b 5 T (part f F N)) (hF : ∀ i, N ≤ i → i < T → F i = 0) : w.rowIs b 5 T (part g (fun i => if i < N then f i else 0) 0) :=
  h.congr fun i hi => by
    simp only [part, Nat.not_lt_zero, if_false]
    by_cases e : i < N
    · rw [if_pos e, if_pos e]
    · rw [if_neg e, if_neg e, hF i (by omega) hi]
theorem part_made (w : World) (T : Nat) (g : Nat → Int) : (w.alloc (.cells (madeCells #[.int .u8 0] T) 5)).rowIs w.heap.size 5 T (part g (fun _ => 0) 0) :=
  (World.rowIs_made w (.int .u8 0) T 5).congr fun i _ => by simp [part]

theorem row24_0 (px : Nat → Int) (x : Nat) : px (4 * x + 2) = row24 px (3 * x) := by
  have h1 : 3 * x / 3 = x := by omega
  have h2 : 3 * x % 3 = 0 := by omega
  simp only [row24, h1, h2]
theorem row24_1 (px : Nat → Int) (x : Nat) : px (4 * x + 1) = row24 px (3 * x + 1) := by
  have h1 : (3 * x + 1) / 3 = x := by omega
  have h2 : (3 * x + 1) % 3 = 1 := by omega
  simp only [row24, h1, h2]
theorem row24_2 (px : Nat → Int) (x : Nat) : px (4 * x) = row24 px (3 * x + 2) := by
  have h1 : (3 * x + 2) / 3 = x := by omega
  have h2 : (3 * x + 2) % 3 = 2 := by omega
  simp only [row24, h1, h2, Nat.sub_self, Nat.add_zero]
theorem row32_at (x j : Nat) (hj : j < 4) : (4 * x + j) / 4 = x ∧ (4 * x + j) % 4 = j := by omega
theorem row32n_0 (px : Nat → Int) (x : Nat) : px (4 * x + 2) = row32n px (4 * x) := by
  obtain ⟨h1, h2⟩ := row32_at x 0 (by omega)
  rw [Nat.add_zero] at h1 h2
  simp [row32n, h1, h2]
theorem row32n_1 (px : Nat → Int) (x : Nat) : px (4 * x + 1) = row32n px (4 * x + 1) := by
  obtain ⟨h1, h2⟩ := row32_at x 1 (by omega)
  simp [row32n, h1, h2]
theorem row32n_2 (px : Nat → Int) (x : Nat) : px (4 * x) = row32n px (4 * x + 2) := by
  obtain ⟨h1, h2⟩ := row32_at x 2 (by omega)
  simp [row32n, h1, h2]
theorem row32n_3 (px : Nat → Int) (x : Nat) : px (4 * x + 3) = row32n px (4 * x + 3) := by
  obtain ⟨h1, h2⟩ := row32_at x 3 (by omega)
  simp [row32n, h1, h2]
theorem row32r_0 (px : Nat → Int) (x : Nat) : conv (px (4 * x + 3)) (px (4 * x + 2)) = row32r px (4 * x) := by
  obtain ⟨h1, h2⟩ := row32_at x 0 (by omega)
  rw [Nat.add_zero] at h1 h2
  simp [row32r, h1, h2]
theorem row32r_1 (px : Nat → Int) (x : Nat) : conv (px (4 * x + 3)) (px (4 * x + 1)) = row32r px (4 * x + 1) := by
  obtain ⟨h1, h2⟩ := row32_at x 1 (by omega)
  simp [row32r, h1, h2]
theorem row32r_2 (px : Nat → Int) (x : Nat) : conv (px (4 * x + 3)) (px (4 * x)) = row32r px (4 * x + 2) := by
  obtain ⟨h1, h2⟩ := row32_at x 2 (by omega)
  simp [row32r, h1, h2]
theorem row32r_3 (px : Nat → Int) (x : Nat) : px (4 * x + 3) = row32r px (4 * x + 3) := by
  obtain ⟨h1, h2⟩ := row32_at x 3 (by omega)
  simp [row32r, h1, h2]
end Go.Proofs.YtfefgopomhhpfaaDoor
