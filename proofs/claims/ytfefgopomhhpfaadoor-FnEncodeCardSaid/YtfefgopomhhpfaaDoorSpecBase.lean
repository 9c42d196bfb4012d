/- spec.Encoded: words that its walks share. -/
import Derived.Test.YtfefgopomhhpfaaDoorPendLaw
import Derived.Test.YtfefgopomhhpfaaDoorCopyPart
import Derived.Test.YtfefgopomhhpfaaDoorHead
import Derived.Test.YtfefgopomhhpfaaDoorOpaque
namespace Go.Proofs.YtfefgopomhhpfaaDoor
open Go.RowKit

/-- A row that is filled belongs to the call. -/
theorem row_owns {w : World} {g T N B : Nat} {f F : Nat → Int} (h : w.rowIs g 5 T (part f F N)) (hB : B ≤ g) (hT : T ≤ 1000000) (hF : ∀ i, N ≤ i → i < T → F i = 0) :
    w.ownsRow B 5 1 (.slice (some ⟨g, 0, none⟩) T T) T (u8s (fullRow f N T)) := by
  obtain ⟨cur, hb, hn, hc⟩ := h
  have hl : (u8s (fullRow f N T)).length = T := by simp [u8s, fullRow_length]
  refine ⟨by rw [hl, Nat.mul_one], .inr ⟨g, T, cur, rfl, hB, hb, Nat.le_refl _, by unfold maxLen; omega, by omega, ?_⟩⟩
  refine List.ext_getElem? fun i => ?_
  rw [Nat.mul_one, List.getElem?_take]
  by_cases hi : i < T
  · rw [if_pos hi, Array.getElem?_toList, hc i hi, u8s, List.getElem?_map, fullRow, rowOf, List.getElem?_map, List.getElem?_range hi]
    simp only [part, Option.map_some]
    by_cases e : i < N
    · rw [if_pos e, if_pos e]
    · rw [if_neg e, if_neg e, hF i (by omega) hi]
  · rw [if_neg hi, List.getElem?_eq_none (by omega)]
/-- A block that is not out's turns. -/
theorem Pend.turned {w0 w w' : World} {g cap q : Nat} {xs : List Int} (h : Pend w0 w g cap xs []) (k : Keep (· = q) w w') (hq : q ≠ g) (hq2 : w0.heap.size ≤ q) : Pend w0 w' g cap xs [] :=
  ⟨h.own.kept (row := some q) ⟨k.os, k.tape, k.output, k.size, fun j hj hne => k.block j hj (fun e => hne (by rw [e]))⟩ (by simp [Value.ownBlock]; omega), fun p hp => absurd hp (by simp), h.below.trans (k.toBelow h.below.size (fun r hr => by omega))⟩
/-- A line is made, filled, and to be appended. -/
theorem Pend.line {w0 wo wr : World} {g cap T N : Nat} {xs : List Int} {f : Nat → Int} {o : Obj} (h : Pend w0 wo g cap xs []) (k : Keep (· = wo.heap.size) (wo.alloc o) wr) (hr : wr.rowIs wo.heap.size 5 T (part f (fun _ => 0) N)) (hT : T ≤ 1000000) :
    Pend w0 wr g cap xs [(.slice (some ⟨wo.heap.size, 0, none⟩) T T, fullRow f N T)] := by
  have h1 := h.lt
  have h2 := h.below.size
  have h3 := (h.later ((Below.refl _ wo).alloc (Nat.le_refl _) o)).turned k (by omega) h2
  exact h3.add (by rw [fullRow_length]) (by omega) (by rw [fullRow_length]; exact row_owns hr h2 hT (fun _ _ _ => rfl))
theorem spec_head (fs po W H d isz : Int) (pal : List Int) :
    ((((([66, 77] ++ le 4 fs ++ [0, 0, 0, 0]) ++ le 4 po) ++ le 4 40 ++ le 4 W ++ le 4 H) ++ [1, 0] ++ le 2 d ++ le 4 0 ++ le 4 isz ++ List.replicate 16 0) ++ pal : List Int) = hbytes fs po W H d isz ++ pal := by
  have e1 : ([0, 0, 0, 0] : List Int) = le 2 0 ++ le 2 0 := by decide
  have e2 : ([1, 0] : List Int) = le 2 1 := by decide
  have e3 : (List.replicate 16 0 : List Int) = le 4 0 ++ le 4 0 ++ le 4 0 ++ le 4 0 := by decide
  rw [e1, e2, e3, hbytes]
  simp only [List.append_assoc]
theorem spec_done {w w0 wr : World} {pb g cap n : Nat} {out tot : List Int} (hb0 : Below pb w w0) (hpb : w.heap.size = pb) (hz0 : w0.heap.size = pb + 1) (hP : Pend w0 wr g cap out []) (ht : out = tot) (hn : tot.length = n) :
    Gives w n tot (.returned (.slice (some ⟨g, 0, none⟩) out.length cap)) wr := by
  subst ht
  subst hn
  exact ⟨g, cap, rfl, owns_mono hP.own (by omega), hpb ▸ hb0.trans (hP.below.mono (by omega))⟩
theorem fill1 {w : World} {g T o : Nat} {f F : Nat → Int} (h : w.rowIs g 5 T (part f F o)) {v : Int} (hv : v = f o) : (w.setCell ⟨g, o, none⟩ (.int .u8 v)).rowIs g 5 T (part f F (o + 1)) := by
  subst hv
  refine (h.set o _).congr fun i _ => ?_
  simp only [part]
  by_cases e : i = o
  · subst e; rw [if_pos rfl, if_pos (by omega)]
  · rw [if_neg e]
    by_cases e1 : i < o
    · rw [if_pos e1, if_pos (by omega)]
    · rw [if_neg e1, if_neg (by omega)]
theorem rowsDown_length {f : Nat → List Int} {T : Nat} (h : ∀ y, (f y).length = T) : ∀ n, (rowsDown f n).length = T * n
  | 0 => rfl
  | n + 1 => by rw [rowsDown, List.length_append, h, rowsDown_length h n, Nat.mul_succ, Nat.add_comm]
/-- A palette of three bytes a colour, as it is written. -/
def qF (Q : Nat → Int) (i : Nat) : Int := if i % 4 = 3 then 255 else Q (3 * (i / 4) + (2 - i % 4))
theorem qF_0 (Q : Nat → Int) (k : Nat) : qF Q (4 * k) = Q (3 * k + 2) := by
  have h1 : 4 * k % 4 = 0 := by omega
  have h2 : 4 * k / 4 = k := by omega
  rw [qF, h1, h2, if_neg (by omega)]
theorem qF_1 (Q : Nat → Int) (k : Nat) : qF Q (4 * k + 1) = Q (3 * k + 1) := by
  have h1 : (4 * k + 1) % 4 = 1 := by omega
  have h2 : (4 * k + 1) / 4 = k := by omega
  rw [qF, h1, h2, if_neg (by omega)]
theorem qF_2 (Q : Nat → Int) (k : Nat) : qF Q (4 * k + 2) = Q (3 * k) := by
  have h1 : (4 * k + 2) % 4 = 2 := by omega
  have h2 : (4 * k + 2) / 4 = k := by omega
  rw [qF, h1, h2, if_neg (by omega)]
  rfl
theorem qF_3 (Q : Nat → Int) (k : Nat) : qF Q (4 * k + 3) = 255 := by
  have h1 : (4 * k + 3) % 4 = 3 := by omega
  rw [qF, h1, if_pos rfl]
theorem Pend.turned2 {w0 w w' : World} {g cap q : Nat} {xs : List Int} (h : Pend w0 w g cap xs []) (k : Keep (fun r => r = q ∨ w.heap.size ≤ r) w w') (hq : q ≠ g) (hq2 : w0.heap.size ≤ q) : Pend w0 w' g cap xs [] :=
  have hl := h.lt
  ⟨h.own.kept (row := some q) ⟨k.os, k.tape, k.output, k.size, fun j hj hne => k.block j hj (fun e => by rcases e with e | e; exact hne (by rw [e]); omega)⟩ (by simp [Value.ownBlock]; omega), fun p hp => absurd hp (by simp), h.below.trans (k.toBelow h.below.size (fun r hr => by have := h.below.size; omega))⟩
theorem Pend.line2 {w0 wo wr : World} {g cap T N : Nat} {xs : List Int} {f : Nat → Int} {o : Obj} (h : Pend w0 wo g cap xs []) (k : Keep (fun r => r = wo.heap.size ∨ (wo.alloc o).heap.size ≤ r) (wo.alloc o) wr) (hr : wr.rowIs wo.heap.size 5 T (part f (fun _ => 0) N)) (hT : T ≤ 1000000) :
    Pend w0 wr g cap xs [(.slice (some ⟨wo.heap.size, 0, none⟩) T T, fullRow f N T)] := by
  have h1 := h.lt
  have h2 := h.below.size
  have h3 := (h.later ((Below.refl _ wo).alloc (Nat.le_refl _) o)).turned2 k (by omega) h2
  exact h3.add (by rw [fullRow_length]) (by omega) (by rw [fullRow_length]; exact row_owns hr h2 hT (fun _ _ _ => rfl))
/-- Whether the first j pixels are opaque. -/
def opqN (px : Nat → Nat → Int) (W j : Nat) : Bool := (List.range j).all fun t => px (t / W) (4 * (t % W) + 3) == 255
theorem opqN_succ (px : Nat → Nat → Int) (W j : Nat) : opqN px W (j + 1) = (opqN px W j && px (j / W) (4 * (j % W) + 3) == 255) := by
  simp [opqN, List.range_succ]
theorem opqN_all (px : Nat → Nat → Int) (W H : Nat) (hW : 0 < W) : opqN px W (H * W) = opq px W H := by
  rw [Bool.eq_iff_iff]
  constructor
  · intro h
    refine opq_yes fun y x hy hx => ?_
    have h1 := List.all_eq_true.1 h (y * W + x) (List.mem_range.2 (by
      have := Nat.mul_le_mul_right W (show y + 1 ≤ H by omega)
      rw [Nat.add_mul, Nat.one_mul] at this
      omega))
    have e1 : (y * W + x) / W = y := by rw [Nat.mul_comm, Nat.mul_add_div hW, Nat.div_eq_of_lt hx, Nat.add_zero]
    have e2 : (y * W + x) % W = x := by rw [Nat.mul_comm, Nat.mul_add_mod, Nat.mod_eq_of_lt hx]
    rw [e1, e2] at h1
    exact beq_iff_eq.1 h1
  · intro h
    refine List.all_eq_true.2 fun t ht => ?_
    have h2 : t < H * W := List.mem_range.1 ht
    have h3 : t / W < H := (Nat.div_lt_iff_lt_mul hW).2 h2
    exact List.all_eq_true.1 (List.all_eq_true.1 h (t / W) (List.mem_range.2 h3)) (t % W) (List.mem_range.2 (Nat.mod_lt _ hW))
end Go.Proofs.YtfefgopomhhpfaaDoor
