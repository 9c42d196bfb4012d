/- The walk of impl.imageOf: a picture of plain data as an image of its kind (gray, RGBA, NRGBA). -/
import Derived.Test.YtfefgopomhhpfaaDoorClone
import Derived.Deep.DeepCutAuto
import Derived.Deep.RegionHeld3
namespace Go.Proofs.YtfefgopomhhpfaaDoor
open Go.RowKit

theorem bcell {W w1 : World} (hb : Below W.heap.size W w1) : (∀ b o, b < W.heap.size → w1.cell? ⟨b, o, none⟩ = W.cell? ⟨b, o, none⟩) ∧ (∀ b o, b < W.heap.size → w1.frozen? ⟨b, o, none⟩ = W.frozen? ⟨b, o, none⟩) :=
  ⟨fun b o h => hb.cell (p := ⟨b, o, none⟩) h, fun b o h => hb.frozen (p := ⟨b, o, none⟩) h⟩
theorem Reads.below {w w' : World} {a : Addr} {xs : List Int} {B : Nat} (h : Reads w a xs) (hb : Below B w w') (ha : a.block < B) : Reads w' a xs := fun j hj =>
  (hb.cell (p := a.add j) (by rw [Lib.block_add]; exact ha)).trans (h j hj)
theorem owns_mono {w : World} {B B' e s n : Nat} {v : Value} {xs : List Value} (h : w.ownsRow B e s v n xs) (hB : B' ≤ B) : w.ownsRow B' e s v n xs := by
  obtain ⟨h1, h2⟩ := h
  refine ⟨h1, h2.imp_right ?_⟩
  rintro ⟨g, cap, cur, a, b, c⟩
  exact ⟨g, cap, cur, a, by omega, c⟩

/-- Behind 'r, pix := image.Rect(..), slices.Clone(p.Pix)'. -/
structure MidImage (w : World) (box : Array Value) (n W H r g c : Nat) (xs : List Int) (wx : World) : Prop where
  box : wx.heap[w.heap.size]? = some (.cells box 25 (0, 0))
  rect : wx.heap[r]? = some (.cells #[.int .i64 0, .int .i64 0, .int .i64 W, .int .i64 H] 62 (0, 0))
  own : wx.ownsRow w.heap.size 5 1 (.slice (some ⟨g, 0, none⟩) n c) n (u8s xs)
  below : Below w.heap.size w wx

theorem rect_stored {w : World} {r W H : Nat} (h : w.heap[r]? = some (.cells #[.int .i64 0, .int .i64 0, .int .i64 0, .int .i64 0] 62 (0, 0))) :
    ((((w.setCell ⟨r, 0, none⟩ (.int .i64 0)).setCell ⟨r, 1, none⟩ (.int .i64 0)).setCell ⟨r, 2, none⟩ (.int .i64 W)).setCell ⟨r, 3, none⟩ (.int .i64 H)).heap[r]? = some (.cells #[.int .i64 0, .int .i64 0, .int .i64 W, .int .i64 H] 62 (0, 0)) :=
  Lib.heap_setCell_same (i := 3) (Lib.heap_setCell_same (i := 2) (Lib.heap_setCell_same (i := 1) (Lib.heap_setCell_same (i := 0) h _) _) _) _

section
variable {w wb w1 w2 : World} {box : Array Value} {n W H g c B : Nat} {xs : List Int}
theorem mid_c (hwb : Below w.heap.size w wb) (_hws : w.heap.size + 1 ≤ wb.heap.size) (hbx : wb.heap[w.heap.size]? = some (.cells box 25 (0, 0))) (hb2 : Below (w.heap.size + 1) wb w2)
    (hown : w2.ownsRow w1.heap.size 5 1 (.slice (some ⟨g, 0, none⟩) n c) n (u8s xs)) (hz1 : w.heap.size + 1 ≤ w1.heap.size) :
    MidImage w box n W H w2.heap.size g c xs (w2.alloc (.cells #[.int .i64 0, .int .i64 0, .int .i64 W, .int .i64 H] 62)) := by
  have hs := hb2.size
  refine ⟨?_, heap_alloc_new w2 _, (owns_mono hown (by omega)).alloc _, (hwb.trans (hb2.mono (by omega))).alloc (by omega) _⟩
  rw [Below.heap_alloc _ _ _ (by omega), hb2.block _ (by omega)]
  exact hbx
theorem mid_set {r : Nat} (hwb : Below w.heap.size w wb) (_hws : w.heap.size + 1 ≤ wb.heap.size) (hbx : wb.heap[w.heap.size]? = some (.cells box 25 (0, 0))) (hb2 : Below (w.heap.size + 1) wb w2)
    (hr : w2.heap[r]? = some (.cells #[.int .i64 0, .int .i64 0, .int .i64 0, .int .i64 0] 62 (0, 0))) (hrw : w.heap.size < r) (hrB : r < B) (hown : w2.ownsRow B 5 1 (.slice (some ⟨g, 0, none⟩) n c) n (u8s xs)) :
    MidImage w box n W H r g c xs ((((w2.setCell ⟨r, 0, none⟩ (.int .i64 0)).setCell ⟨r, 1, none⟩ (.int .i64 0)).setCell ⟨r, 2, none⟩ (.int .i64 W)).setCell ⟨r, 3, none⟩ (.int .i64 H)) := by
  have hs := hb2.size
  refine ⟨?_, rect_stored hr, ?_, ?_⟩
  · rw [Below.heap_setCell _ _ _ _ (by show w.heap.size ≠ r; omega), Below.heap_setCell _ _ _ _ (by show w.heap.size ≠ r; omega), Below.heap_setCell _ _ _ _ (by show w.heap.size ≠ r; omega), Below.heap_setCell _ _ _ _ (by show w.heap.size ≠ r; omega), hb2.block _ (by omega)]
    exact hbx
  · have h1 := ownsRow_setCell_below (ownsRow_setCell_below (ownsRow_setCell_below (ownsRow_setCell_below hown (a := ⟨r, 0, none⟩) hrB (.int .i64 0)) (a := ⟨r, 1, none⟩) hrB (.int .i64 0)) (a := ⟨r, 2, none⟩) hrB (.int .i64 W)) (a := ⟨r, 3, none⟩) hrB (.int .i64 H)
    exact owns_mono h1 (by omega)
  · have h0 : Below w.heap.size w w2 := hwb.trans (hb2.mono (by omega))
    exact (((h0.setCell (p := ⟨r, 0, none⟩) (by show w.heap.size ≤ r; omega) _).setCell (p := ⟨r, 1, none⟩) (by show w.heap.size ≤ r; omega) _).setCell (p := ⟨r, 2, none⟩) (by show w.heap.size ≤ r; omega) _).setCell (p := ⟨r, 3, none⟩) (by show w.heap.size ≤ r; omega) _
theorem mid_b (hwb : Below w.heap.size w wb) (hws : w.heap.size + 1 ≤ wb.heap.size) (hbx : wb.heap[w.heap.size]? = some (.cells box 25 (0, 0))) (hB2 : Below (w.heap.size + 1) wb w2)
    (hb2 : Below (w1.alloc (.cells #[.int .i64 0, .int .i64 0, .int .i64 0, .int .i64 0] 62)).heap.size (w1.alloc (.cells #[.int .i64 0, .int .i64 0, .int .i64 0, .int .i64 0] 62)) w2)
    (hown : w2.ownsRow (w1.alloc (.cells #[.int .i64 0, .int .i64 0, .int .i64 0, .int .i64 0] 62)).heap.size 5 1 (.slice (some ⟨g, 0, none⟩) n c) n (u8s xs)) (hz1 : w.heap.size + 1 ≤ w1.heap.size) :
    MidImage w box n W H w1.heap.size g c xs ((((w2.setCell ⟨w1.heap.size, 0, none⟩ (.int .i64 0)).setCell ⟨w1.heap.size, 1, none⟩ (.int .i64 0)).setCell ⟨w1.heap.size, 2, none⟩ (.int .i64 W)).setCell ⟨w1.heap.size, 3, none⟩ (.int .i64 H)) :=
  mid_set hwb hws hbx hB2 ((hb2.block _ (by simp)).trans (heap_alloc_new w1 _)) (by omega) (by simp) hown
theorem mid_a (hwb : Below w.heap.size w wb) (hws : w.heap.size + 1 ≤ wb.heap.size) (hbx : wb.heap[w.heap.size]? = some (.cells box 25 (0, 0))) (hB2 : Below (w.heap.size + 1) wb w2)
    {wa : World} (hb1 : Below wa.heap.size wa w1) (hb2 : Below w1.heap.size w1 w2) (hown : w2.ownsRow w1.heap.size 5 1 (.slice (some ⟨g, 0, none⟩) n c) n (u8s xs)) (hl1 : wb.heap.size < w1.heap.size)
    (hwa : wa = (wb.alloc (.cells #[.int .i64 0, .int .i64 0, .int .i64 0, .int .i64 0] 62)).drew := by rfl) :
    MidImage w box n W H wb.heap.size g c xs ((((w2.setCell ⟨wb.heap.size, 0, none⟩ (.int .i64 0)).setCell ⟨wb.heap.size, 1, none⟩ (.int .i64 0)).setCell ⟨wb.heap.size, 2, none⟩ (.int .i64 W)).setCell ⟨wb.heap.size, 3, none⟩ (.int .i64 H)) := by
  subst hwa
  have hs : (wb.alloc (.cells #[.int .i64 0, .int .i64 0, .int .i64 0, .int .i64 0] 62)).drew.heap.size = wb.heap.size + 1 := by
    show (wb.alloc _).heap.size = _
    simp
  refine mid_set hwb hws hbx hB2 ?_ (by omega) hl1 hown
  rw [hb2.block _ hl1, hb1.block _ (by omega)]
  exact heap_alloc_new wb _
end

/-- What imageOf leaves: an image of type tp over a struct of type T. -/
def ImageOf (T tp : TypeId) (n W H S : Nat) (xs : List Int) (w : World) (e : Ending) (w' : World) : Prop :=
  ∃ mb g c : Nat, e = .returned (.iface tp (.pointer (some ⟨mb, 0, none⟩))) ∧ w'.heap[mb]? = some (.cells #[.slice (some ⟨g, 0, none⟩) n c, .int .i64 S, .int .i64 0, .int .i64 0, .int .i64 W, .int .i64 H] T (0, 0)) ∧
    w'.ownsRow w.heap.size 5 1 (.slice (some ⟨g, 0, none⟩) n c) n (u8s xs) ∧ w.heap.size ≤ mb ∧ Below w.heap.size w w'

set_option maxHeartbeats 1600000 in
set_option maxRecDepth 100000 in
theorem image_gray (W H S n cp gp : Nat) (xs : List Int) (w : World) (hr : Reads w ⟨gp, 0, none⟩ xs) (hn : xs.length = n) (hn0 : 0 < n) (hn2 : n ≤ 100000000) :
    Calls Tryd.prog 9 #[.agg #[.int .i64 1, .int .i64 0, .int .i64 0, .int .i64 W, .int .i64 H, .int .i64 S, .slice (some ⟨gp, 0, none⟩) n cp, .slice none 0 0]] w (ImageOf 91 73 n W H S xs w) := by
  have hlt : gp < w.heap.size := World.block_lt_of_cell? w ((⟨gp, 0, none⟩ : Addr).add 0) (hr 0 (by omega))
  have HR := Lib.hid hr
  have HN := Lib.hid hn
  clear hr hn
  go_enter Tryd.func9, Tryd.ntmps9
  go_upto_region 1 with (fail)
  go_cut [3, 4] (fun s3 s4 wx => ∃ (r g c : Nat), s3 = .pointer (some ⟨r, 0, none⟩) ∧ s4 = .slice (some ⟨g, 0, none⟩) n c ∧ MidImage w #[.int .i64 1, .int .i64 0, .int .i64 0, .int .i64 W, .int .i64 H, .int .i64 S, .slice (some ⟨gp, 0, none⟩) n cp, .slice none 0 0] n W H r g c xs wx)
  case first =>
    have k1 : (w.alloc (.cells #[.int .i64 1, .int .i64 0, .int .i64 0, .int .i64 W, .int .i64 H, .int .i64 S, .slice (some ⟨gp, 0, none⟩) n cp, .slice none 0 0] 25)).cell? ⟨w.heap.size, 1, none⟩ = some (.int .i64 0) := (Lib.cell_of_heap (heap_alloc_new w _) 1).trans rfl
    have k2 : (w.alloc (.cells #[.int .i64 1, .int .i64 0, .int .i64 0, .int .i64 W, .int .i64 H, .int .i64 S, .slice (some ⟨gp, 0, none⟩) n cp, .slice none 0 0] 25)).cell? ⟨w.heap.size, 2, none⟩ = some (.int .i64 0) := (Lib.cell_of_heap (heap_alloc_new w _) 2).trans rfl
    have k3 : (w.alloc (.cells #[.int .i64 1, .int .i64 0, .int .i64 0, .int .i64 W, .int .i64 H, .int .i64 S, .slice (some ⟨gp, 0, none⟩) n cp, .slice none 0 0] 25)).cell? ⟨w.heap.size, 3, none⟩ = some (.int .i64 W) := (Lib.cell_of_heap (heap_alloc_new w _) 3).trans rfl
    have k4 : (w.alloc (.cells #[.int .i64 1, .int .i64 0, .int .i64 0, .int .i64 W, .int .i64 H, .int .i64 S, .slice (some ⟨gp, 0, none⟩) n cp, .slice none 0 0] 25)).cell? ⟨w.heap.size, 4, none⟩ = some (.int .i64 H) := (Lib.cell_of_heap (heap_alloc_new w _) 4).trans rfl
    have k6 : (w.alloc (.cells #[.int .i64 1, .int .i64 0, .int .i64 0, .int .i64 W, .int .i64 H, .int .i64 S, .slice (some ⟨gp, 0, none⟩) n cp, .slice none 0 0] 25)).cell? ⟨w.heap.size, 6, none⟩ = some (.slice (some ⟨gp, 0, none⟩) n cp) := (Lib.cell_of_heap (heap_alloc_new w _) 6).trans rfl
    have hwb : Below w.heap.size w (w.alloc (.cells #[.int .i64 1, .int .i64 0, .int .i64 0, .int .i64 W, .int .i64 H, .int .i64 S, .slice (some ⟨gp, 0, none⟩) n cp, .slice none 0 0] 25)) := (Below.refl _ _).alloc (Nat.le_refl _) _
    have hws : w.heap.size + 1 ≤ (w.alloc (.cells #[.int .i64 1, .int .i64 0, .int .i64 0, .int .i64 W, .int .i64 H, .int .i64 S, .slice (some ⟨gp, 0, none⟩) n cp, .slice none 0 0] 25)).heap.size := by simp
    have hbx := heap_alloc_new w (.cells #[.int .i64 1, .int .i64 0, .int .i64 0, .int .i64 W, .int .i64 H, .int .i64 S, .slice (some ⟨gp, 0, none⟩) n cp, .slice none 0 0] 25)
    generalize w.alloc (.cells #[.int .i64 1, .int .i64 0, .int .i64 0, .int .i64 W, .int .i64 H, .int .i64 S, .slice (some ⟨gp, 0, none⟩) n cp, .slice none 0 0] 25) = wb at k1 k2 k3 k4 k6 hwb hws hbx ⊢
    have HBX := Lib.hid hbx
    have hR0 : Reads wb ⟨gp, 0, none⟩ xs := HR.out.below hwb hlt
    have HR0 := Lib.hid hR0
    clear hR0 hbx
    have hn0' : wb.heap.size ≠ w.heap.size := by omega
    have hm0' : w.heap.size ≠ wb.heap.size := by omega
    go_region_held3 (fun w' => w'.cell? ⟨w.heap.size, 1, none⟩ = some (.int .i64 0) ∧ w'.cell? ⟨w.heap.size, 2, none⟩ = some (.int .i64 0) ∧ w'.cell? ⟨w.heap.size, 3, none⟩ = some (.int .i64 W) ∧ w'.cell? ⟨w.heap.size, 4, none⟩ = some (.int .i64 H) ∧ w'.cell? ⟨w.heap.size, 6, none⟩ = some (.slice (some ⟨gp, 0, none⟩) n cp)) (go_keep)
      (first
        | (go_at_call 22
           refine (rect_any W H _).mono ?_
           rintro e w1 ⟨rfl, hb1⟩
           have HB1 : Below (w.heap.size + 1) wb w1 := by
             refine Below.trans ?_ (hb1.mono ?_)
             rotate_left
             · first | omega | (simp; omega)
             · (repeat (first | assumption | exact Below.refl _ _ | refine Below.drew ?_ | refine Below.alloc ?_ ?_ _ | omega | (simp; done) | (simp; omega)))
           have hz1 : w.heap.size + 1 ≤ w1.heap.size := by have := HB1.size; omega
           obtain ⟨hc1, hf1⟩ := bcell hb1
           have hy1 := hb1.size
           try simp at hy1
           have hn1 : w1.heap.size ≠ w.heap.size := by omega
           have hl1 : wb.heap.size + 1 ≤ w1.heap.size → wb.heap.size < w1.heap.size := fun h => h
           try replace hl1 := hl1 (by have := hb1.size; simp at this; omega)
           have hm1 : w.heap.size ≠ w1.heap.size := by omega
           have sw11 : w1.cell? ⟨w.heap.size, 1, none⟩ = some (.int .i64 0) := (HB1.cell (p := ⟨w.heap.size, 1, none⟩) (by show w.heap.size < w.heap.size + 1; omega)).trans k1
           have sw12 : w1.cell? ⟨w.heap.size, 2, none⟩ = some (.int .i64 0) := (HB1.cell (p := ⟨w.heap.size, 2, none⟩) (by show w.heap.size < w.heap.size + 1; omega)).trans k2
           have sw13 : w1.cell? ⟨w.heap.size, 3, none⟩ = some (.int .i64 W) := (HB1.cell (p := ⟨w.heap.size, 3, none⟩) (by show w.heap.size < w.heap.size + 1; omega)).trans k3
           have sw14 : w1.cell? ⟨w.heap.size, 4, none⟩ = some (.int .i64 H) := (HB1.cell (p := ⟨w.heap.size, 4, none⟩) (by show w.heap.size < w.heap.size + 1; omega)).trans k4
           have sw16 : w1.cell? ⟨w.heap.size, 6, none⟩ = some (.slice (some ⟨gp, 0, none⟩) n cp) := (HB1.cell (p := ⟨w.heap.size, 6, none⟩) (by show w.heap.size < w.heap.size + 1; omega)).trans k6)
        | (go_at_call 23
           refine (clone_any ⟨gp, 0, none⟩ n cp xs _ ?_ HN.out hn0 hn2).mono ?_
           · refine HR0.out.below (B := w.heap.size + 1) ?_ (by show gp < w.heap.size + 1; omega)
             (repeat (first | assumption | exact Below.refl _ _ | refine Below.drew ?_ | refine Below.alloc ?_ ?_ _ | omega | (simp; done) | (simp; omega)))
           rintro e w2 ⟨g, c, rfl, hown, hb2⟩
           have HB2 : Below (w.heap.size + 1) wb w2 := by
             refine Below.trans ?_ (hb2.mono ?_)
             rotate_left
             · first | omega | (simp; omega)
             · (repeat (first | assumption | exact Below.refl _ _ | refine Below.drew ?_ | refine Below.alloc ?_ ?_ _ | omega | (simp; done) | (simp; omega)))
           have hz2 : w.heap.size + 1 ≤ w2.heap.size := by have := HB2.size; omega
           obtain ⟨hc2, hf2⟩ := bcell hb2
           have hy2 := hb2.size
           try simp at hy2
           have hn2' : w2.heap.size ≠ w.heap.size := by omega
           have hm2' : w.heap.size ≠ w2.heap.size := by omega
           have sw21 : w2.cell? ⟨w.heap.size, 1, none⟩ = some (.int .i64 0) := (HB2.cell (p := ⟨w.heap.size, 1, none⟩) (by show w.heap.size < w.heap.size + 1; omega)).trans k1
           have sw22 : w2.cell? ⟨w.heap.size, 2, none⟩ = some (.int .i64 0) := (HB2.cell (p := ⟨w.heap.size, 2, none⟩) (by show w.heap.size < w.heap.size + 1; omega)).trans k2
           have sw23 : w2.cell? ⟨w.heap.size, 3, none⟩ = some (.int .i64 W) := (HB2.cell (p := ⟨w.heap.size, 3, none⟩) (by show w.heap.size < w.heap.size + 1; omega)).trans k3
           have sw24 : w2.cell? ⟨w.heap.size, 4, none⟩ = some (.int .i64 H) := (HB2.cell (p := ⟨w.heap.size, 4, none⟩) (by show w.heap.size < w.heap.size + 1; omega)).trans k4
           have sw26 : w2.cell? ⟨w.heap.size, 6, none⟩ = some (.slice (some ⟨gp, 0, none⟩) n cp) := (HB2.cell (p := ⟨w.heap.size, 6, none⟩) (by show w.heap.size < w.heap.size + 1; omega)).trans k6))
    all_goals
      (go_wp2_with fail
       go_meet
       go_light
       first
         | exact ⟨_, g, c, rfl, rfl, mid_c hwb hws HBX.out HB2 hown hz1⟩
         | exact ⟨_, g, c, rfl, rfl, mid_b hwb hws HBX.out HB2 hb2 hown hz1⟩
         | exact ⟨_, g, c, rfl, rfl, mid_a hwb hws HBX.out HB2 hb1 hb2 hown hl1⟩)
  case rest =>
    obtain ⟨r, g, c, rfl, rfl, hM⟩ := hcut
    obtain ⟨hbx, hrc, hown, hbel⟩ := hM
    have b0 : wc.cell? ⟨w.heap.size, 0, none⟩ = some (.int .i64 1) := (Lib.cell_of_heap hbx 0).trans rfl
    have b5 : wc.cell? ⟨w.heap.size, 5, none⟩ = some (.int .i64 S) := (Lib.cell_of_heap hbx 5).trans rfl
    have r0 : wc.cell? ⟨r, 0, none⟩ = some (.int .i64 0) := (Lib.cell_of_heap hrc 0).trans rfl
    have r1 : wc.cell? ⟨r, 1, none⟩ = some (.int .i64 0) := (Lib.cell_of_heap hrc 1).trans rfl
    have r2 : wc.cell? ⟨r, 2, none⟩ = some (.int .i64 W) := (Lib.cell_of_heap hrc 2).trans rfl
    have r3 : wc.cell? ⟨r, 3, none⟩ = some (.int .i64 H) := (Lib.cell_of_heap hrc 3).trans rfl
    clear hbx hrc
    go_wp2
    go_ret
    exact ⟨_, g, c, rfl, heap_alloc_new wc _, hown.alloc _, hbel.size, hbel.alloc hbel.size _⟩

#print axioms image_gray
set_option maxHeartbeats 1600000 in
set_option maxRecDepth 100000 in
theorem image_rgba (W H S n cp gp : Nat) (xs : List Int) (w : World) (hr : Reads w ⟨gp, 0, none⟩ xs) (hn : xs.length = n) (hn0 : 0 < n) (hn2 : n ≤ 100000000) :
    Calls Tryd.prog 9 #[.agg #[.int .i64 3, .int .i64 0, .int .i64 0, .int .i64 W, .int .i64 H, .int .i64 S, .slice (some ⟨gp, 0, none⟩) n cp, .slice none 0 0]] w (ImageOf 93 83 n W H S xs w) := by
  have hlt : gp < w.heap.size := World.block_lt_of_cell? w ((⟨gp, 0, none⟩ : Addr).add 0) (hr 0 (by omega))
  have HR := Lib.hid hr
  have HN := Lib.hid hn
  clear hr hn
  go_enter Tryd.func9, Tryd.ntmps9
  go_upto_region 1 with (fail)
  go_cut [3, 4] (fun s3 s4 wx => ∃ (r g c : Nat), s3 = .pointer (some ⟨r, 0, none⟩) ∧ s4 = .slice (some ⟨g, 0, none⟩) n c ∧ MidImage w #[.int .i64 3, .int .i64 0, .int .i64 0, .int .i64 W, .int .i64 H, .int .i64 S, .slice (some ⟨gp, 0, none⟩) n cp, .slice none 0 0] n W H r g c xs wx)
  case first =>
    have k1 : (w.alloc (.cells #[.int .i64 3, .int .i64 0, .int .i64 0, .int .i64 W, .int .i64 H, .int .i64 S, .slice (some ⟨gp, 0, none⟩) n cp, .slice none 0 0] 25)).cell? ⟨w.heap.size, 1, none⟩ = some (.int .i64 0) := (Lib.cell_of_heap (heap_alloc_new w _) 1).trans rfl
    have k2 : (w.alloc (.cells #[.int .i64 3, .int .i64 0, .int .i64 0, .int .i64 W, .int .i64 H, .int .i64 S, .slice (some ⟨gp, 0, none⟩) n cp, .slice none 0 0] 25)).cell? ⟨w.heap.size, 2, none⟩ = some (.int .i64 0) := (Lib.cell_of_heap (heap_alloc_new w _) 2).trans rfl
    have k3 : (w.alloc (.cells #[.int .i64 3, .int .i64 0, .int .i64 0, .int .i64 W, .int .i64 H, .int .i64 S, .slice (some ⟨gp, 0, none⟩) n cp, .slice none 0 0] 25)).cell? ⟨w.heap.size, 3, none⟩ = some (.int .i64 W) := (Lib.cell_of_heap (heap_alloc_new w _) 3).trans rfl
    have k4 : (w.alloc (.cells #[.int .i64 3, .int .i64 0, .int .i64 0, .int .i64 W, .int .i64 H, .int .i64 S, .slice (some ⟨gp, 0, none⟩) n cp, .slice none 0 0] 25)).cell? ⟨w.heap.size, 4, none⟩ = some (.int .i64 H) := (Lib.cell_of_heap (heap_alloc_new w _) 4).trans rfl
    have k6 : (w.alloc (.cells #[.int .i64 3, .int .i64 0, .int .i64 0, .int .i64 W, .int .i64 H, .int .i64 S, .slice (some ⟨gp, 0, none⟩) n cp, .slice none 0 0] 25)).cell? ⟨w.heap.size, 6, none⟩ = some (.slice (some ⟨gp, 0, none⟩) n cp) := (Lib.cell_of_heap (heap_alloc_new w _) 6).trans rfl
    have hwb : Below w.heap.size w (w.alloc (.cells #[.int .i64 3, .int .i64 0, .int .i64 0, .int .i64 W, .int .i64 H, .int .i64 S, .slice (some ⟨gp, 0, none⟩) n cp, .slice none 0 0] 25)) := (Below.refl _ _).alloc (Nat.le_refl _) _
    have hws : w.heap.size + 1 ≤ (w.alloc (.cells #[.int .i64 3, .int .i64 0, .int .i64 0, .int .i64 W, .int .i64 H, .int .i64 S, .slice (some ⟨gp, 0, none⟩) n cp, .slice none 0 0] 25)).heap.size := by simp
    have hbx := heap_alloc_new w (.cells #[.int .i64 3, .int .i64 0, .int .i64 0, .int .i64 W, .int .i64 H, .int .i64 S, .slice (some ⟨gp, 0, none⟩) n cp, .slice none 0 0] 25)
    generalize w.alloc (.cells #[.int .i64 3, .int .i64 0, .int .i64 0, .int .i64 W, .int .i64 H, .int .i64 S, .slice (some ⟨gp, 0, none⟩) n cp, .slice none 0 0] 25) = wb at k1 k2 k3 k4 k6 hwb hws hbx ⊢
    have HBX := Lib.hid hbx
    have hR0 : Reads wb ⟨gp, 0, none⟩ xs := HR.out.below hwb hlt
    have HR0 := Lib.hid hR0
    clear hR0 hbx
    have hn0' : wb.heap.size ≠ w.heap.size := by omega
    have hm0' : w.heap.size ≠ wb.heap.size := by omega
    go_region_held3 (fun w' => w'.cell? ⟨w.heap.size, 1, none⟩ = some (.int .i64 0) ∧ w'.cell? ⟨w.heap.size, 2, none⟩ = some (.int .i64 0) ∧ w'.cell? ⟨w.heap.size, 3, none⟩ = some (.int .i64 W) ∧ w'.cell? ⟨w.heap.size, 4, none⟩ = some (.int .i64 H) ∧ w'.cell? ⟨w.heap.size, 6, none⟩ = some (.slice (some ⟨gp, 0, none⟩) n cp)) (go_keep)
      (first
        | (go_at_call 22
           refine (rect_any W H _).mono ?_
           rintro e w1 ⟨rfl, hb1⟩
           have HB1 : Below (w.heap.size + 1) wb w1 := by
             refine Below.trans ?_ (hb1.mono ?_)
             rotate_left
             · first | omega | (simp; omega)
             · (repeat (first | assumption | exact Below.refl _ _ | refine Below.drew ?_ | refine Below.alloc ?_ ?_ _ | omega | (simp; done) | (simp; omega)))
           have hz1 : w.heap.size + 1 ≤ w1.heap.size := by have := HB1.size; omega
           obtain ⟨hc1, hf1⟩ := bcell hb1
           have hy1 := hb1.size
           try simp at hy1
           have hn1 : w1.heap.size ≠ w.heap.size := by omega
           have hl1 : wb.heap.size + 1 ≤ w1.heap.size → wb.heap.size < w1.heap.size := fun h => h
           try replace hl1 := hl1 (by have := hb1.size; simp at this; omega)
           have hm1 : w.heap.size ≠ w1.heap.size := by omega
           have sw11 : w1.cell? ⟨w.heap.size, 1, none⟩ = some (.int .i64 0) := (HB1.cell (p := ⟨w.heap.size, 1, none⟩) (by show w.heap.size < w.heap.size + 1; omega)).trans k1
           have sw12 : w1.cell? ⟨w.heap.size, 2, none⟩ = some (.int .i64 0) := (HB1.cell (p := ⟨w.heap.size, 2, none⟩) (by show w.heap.size < w.heap.size + 1; omega)).trans k2
           have sw13 : w1.cell? ⟨w.heap.size, 3, none⟩ = some (.int .i64 W) := (HB1.cell (p := ⟨w.heap.size, 3, none⟩) (by show w.heap.size < w.heap.size + 1; omega)).trans k3
           have sw14 : w1.cell? ⟨w.heap.size, 4, none⟩ = some (.int .i64 H) := (HB1.cell (p := ⟨w.heap.size, 4, none⟩) (by show w.heap.size < w.heap.size + 1; omega)).trans k4
           have sw16 : w1.cell? ⟨w.heap.size, 6, none⟩ = some (.slice (some ⟨gp, 0, none⟩) n cp) := (HB1.cell (p := ⟨w.heap.size, 6, none⟩) (by show w.heap.size < w.heap.size + 1; omega)).trans k6)
        | (go_at_call 23
           refine (clone_any ⟨gp, 0, none⟩ n cp xs _ ?_ HN.out hn0 hn2).mono ?_
           · refine HR0.out.below (B := w.heap.size + 1) ?_ (by show gp < w.heap.size + 1; omega)
             (repeat (first | assumption | exact Below.refl _ _ | refine Below.drew ?_ | refine Below.alloc ?_ ?_ _ | omega | (simp; done) | (simp; omega)))
           rintro e w2 ⟨g, c, rfl, hown, hb2⟩
           have HB2 : Below (w.heap.size + 1) wb w2 := by
             refine Below.trans ?_ (hb2.mono ?_)
             rotate_left
             · first | omega | (simp; omega)
             · (repeat (first | assumption | exact Below.refl _ _ | refine Below.drew ?_ | refine Below.alloc ?_ ?_ _ | omega | (simp; done) | (simp; omega)))
           have hz2 : w.heap.size + 1 ≤ w2.heap.size := by have := HB2.size; omega
           obtain ⟨hc2, hf2⟩ := bcell hb2
           have hy2 := hb2.size
           try simp at hy2
           have hn2' : w2.heap.size ≠ w.heap.size := by omega
           have hm2' : w.heap.size ≠ w2.heap.size := by omega
           have sw21 : w2.cell? ⟨w.heap.size, 1, none⟩ = some (.int .i64 0) := (HB2.cell (p := ⟨w.heap.size, 1, none⟩) (by show w.heap.size < w.heap.size + 1; omega)).trans k1
           have sw22 : w2.cell? ⟨w.heap.size, 2, none⟩ = some (.int .i64 0) := (HB2.cell (p := ⟨w.heap.size, 2, none⟩) (by show w.heap.size < w.heap.size + 1; omega)).trans k2
           have sw23 : w2.cell? ⟨w.heap.size, 3, none⟩ = some (.int .i64 W) := (HB2.cell (p := ⟨w.heap.size, 3, none⟩) (by show w.heap.size < w.heap.size + 1; omega)).trans k3
           have sw24 : w2.cell? ⟨w.heap.size, 4, none⟩ = some (.int .i64 H) := (HB2.cell (p := ⟨w.heap.size, 4, none⟩) (by show w.heap.size < w.heap.size + 1; omega)).trans k4
           have sw26 : w2.cell? ⟨w.heap.size, 6, none⟩ = some (.slice (some ⟨gp, 0, none⟩) n cp) := (HB2.cell (p := ⟨w.heap.size, 6, none⟩) (by show w.heap.size < w.heap.size + 1; omega)).trans k6))
    all_goals
      (go_wp2_with fail
       go_meet
       go_light
       first
         | exact ⟨_, g, c, rfl, rfl, mid_c hwb hws HBX.out HB2 hown hz1⟩
         | exact ⟨_, g, c, rfl, rfl, mid_b hwb hws HBX.out HB2 hb2 hown hz1⟩
         | exact ⟨_, g, c, rfl, rfl, mid_a hwb hws HBX.out HB2 hb1 hb2 hown hl1⟩)
  case rest =>
    obtain ⟨r, g, c, rfl, rfl, hM⟩ := hcut
    obtain ⟨hbx, hrc, hown, hbel⟩ := hM
    have b0 : wc.cell? ⟨w.heap.size, 0, none⟩ = some (.int .i64 3) := (Lib.cell_of_heap hbx 0).trans rfl
    have b5 : wc.cell? ⟨w.heap.size, 5, none⟩ = some (.int .i64 S) := (Lib.cell_of_heap hbx 5).trans rfl
    have r0 : wc.cell? ⟨r, 0, none⟩ = some (.int .i64 0) := (Lib.cell_of_heap hrc 0).trans rfl
    have r1 : wc.cell? ⟨r, 1, none⟩ = some (.int .i64 0) := (Lib.cell_of_heap hrc 1).trans rfl
    have r2 : wc.cell? ⟨r, 2, none⟩ = some (.int .i64 W) := (Lib.cell_of_heap hrc 2).trans rfl
    have r3 : wc.cell? ⟨r, 3, none⟩ = some (.int .i64 H) := (Lib.cell_of_heap hrc 3).trans rfl
    clear hbx hrc
    go_wp2
    go_ret
    exact ⟨_, g, c, rfl, heap_alloc_new wc _, hown.alloc _, hbel.size, hbel.alloc hbel.size _⟩

#print axioms image_rgba
set_option maxHeartbeats 1600000 in
set_option maxRecDepth 100000 in
theorem image_nrgba (W H S n cp gp : Nat) (xs : List Int) (w : World) (hr : Reads w ⟨gp, 0, none⟩ xs) (hn : xs.length = n) (hn0 : 0 < n) (hn2 : n ≤ 100000000) :
    Calls Tryd.prog 9 #[.agg #[.int .i64 5, .int .i64 0, .int .i64 0, .int .i64 W, .int .i64 H, .int .i64 S, .slice (some ⟨gp, 0, none⟩) n cp, .slice none 0 0]] w (ImageOf 94 85 n W H S xs w) := by
  have hlt : gp < w.heap.size := World.block_lt_of_cell? w ((⟨gp, 0, none⟩ : Addr).add 0) (hr 0 (by omega))
  have HR := Lib.hid hr
  have HN := Lib.hid hn
  clear hr hn
  go_enter Tryd.func9, Tryd.ntmps9
  go_upto_region 1 with (fail)
  go_cut [3, 4] (fun s3 s4 wx => ∃ (r g c : Nat), s3 = .pointer (some ⟨r, 0, none⟩) ∧ s4 = .slice (some ⟨g, 0, none⟩) n c ∧ MidImage w #[.int .i64 5, .int .i64 0, .int .i64 0, .int .i64 W, .int .i64 H, .int .i64 S, .slice (some ⟨gp, 0, none⟩) n cp, .slice none 0 0] n W H r g c xs wx)
  case first =>
    have k1 : (w.alloc (.cells #[.int .i64 5, .int .i64 0, .int .i64 0, .int .i64 W, .int .i64 H, .int .i64 S, .slice (some ⟨gp, 0, none⟩) n cp, .slice none 0 0] 25)).cell? ⟨w.heap.size, 1, none⟩ = some (.int .i64 0) := (Lib.cell_of_heap (heap_alloc_new w _) 1).trans rfl
    have k2 : (w.alloc (.cells #[.int .i64 5, .int .i64 0, .int .i64 0, .int .i64 W, .int .i64 H, .int .i64 S, .slice (some ⟨gp, 0, none⟩) n cp, .slice none 0 0] 25)).cell? ⟨w.heap.size, 2, none⟩ = some (.int .i64 0) := (Lib.cell_of_heap (heap_alloc_new w _) 2).trans rfl
    have k3 : (w.alloc (.cells #[.int .i64 5, .int .i64 0, .int .i64 0, .int .i64 W, .int .i64 H, .int .i64 S, .slice (some ⟨gp, 0, none⟩) n cp, .slice none 0 0] 25)).cell? ⟨w.heap.size, 3, none⟩ = some (.int .i64 W) := (Lib.cell_of_heap (heap_alloc_new w _) 3).trans rfl
    have k4 : (w.alloc (.cells #[.int .i64 5, .int .i64 0, .int .i64 0, .int .i64 W, .int .i64 H, .int .i64 S, .slice (some ⟨gp, 0, none⟩) n cp, .slice none 0 0] 25)).cell? ⟨w.heap.size, 4, none⟩ = some (.int .i64 H) := (Lib.cell_of_heap (heap_alloc_new w _) 4).trans rfl
    have k6 : (w.alloc (.cells #[.int .i64 5, .int .i64 0, .int .i64 0, .int .i64 W, .int .i64 H, .int .i64 S, .slice (some ⟨gp, 0, none⟩) n cp, .slice none 0 0] 25)).cell? ⟨w.heap.size, 6, none⟩ = some (.slice (some ⟨gp, 0, none⟩) n cp) := (Lib.cell_of_heap (heap_alloc_new w _) 6).trans rfl
    have hwb : Below w.heap.size w (w.alloc (.cells #[.int .i64 5, .int .i64 0, .int .i64 0, .int .i64 W, .int .i64 H, .int .i64 S, .slice (some ⟨gp, 0, none⟩) n cp, .slice none 0 0] 25)) := (Below.refl _ _).alloc (Nat.le_refl _) _
    have hws : w.heap.size + 1 ≤ (w.alloc (.cells #[.int .i64 5, .int .i64 0, .int .i64 0, .int .i64 W, .int .i64 H, .int .i64 S, .slice (some ⟨gp, 0, none⟩) n cp, .slice none 0 0] 25)).heap.size := by simp
    have hbx := heap_alloc_new w (.cells #[.int .i64 5, .int .i64 0, .int .i64 0, .int .i64 W, .int .i64 H, .int .i64 S, .slice (some ⟨gp, 0, none⟩) n cp, .slice none 0 0] 25)
    generalize w.alloc (.cells #[.int .i64 5, .int .i64 0, .int .i64 0, .int .i64 W, .int .i64 H, .int .i64 S, .slice (some ⟨gp, 0, none⟩) n cp, .slice none 0 0] 25) = wb at k1 k2 k3 k4 k6 hwb hws hbx ⊢
    have HBX := Lib.hid hbx
    have hR0 : Reads wb ⟨gp, 0, none⟩ xs := HR.out.below hwb hlt
    have HR0 := Lib.hid hR0
    clear hR0 hbx
    have hn0' : wb.heap.size ≠ w.heap.size := by omega
    have hm0' : w.heap.size ≠ wb.heap.size := by omega
    go_region_held3 (fun w' => w'.cell? ⟨w.heap.size, 1, none⟩ = some (.int .i64 0) ∧ w'.cell? ⟨w.heap.size, 2, none⟩ = some (.int .i64 0) ∧ w'.cell? ⟨w.heap.size, 3, none⟩ = some (.int .i64 W) ∧ w'.cell? ⟨w.heap.size, 4, none⟩ = some (.int .i64 H) ∧ w'.cell? ⟨w.heap.size, 6, none⟩ = some (.slice (some ⟨gp, 0, none⟩) n cp)) (go_keep)
      (first
        | (go_at_call 22
           refine (rect_any W H _).mono ?_
           rintro e w1 ⟨rfl, hb1⟩
           have HB1 : Below (w.heap.size + 1) wb w1 := by
             refine Below.trans ?_ (hb1.mono ?_)
             rotate_left
             · first | omega | (simp; omega)
             · (repeat (first | assumption | exact Below.refl _ _ | refine Below.drew ?_ | refine Below.alloc ?_ ?_ _ | omega | (simp; done) | (simp; omega)))
           have hz1 : w.heap.size + 1 ≤ w1.heap.size := by have := HB1.size; omega
           obtain ⟨hc1, hf1⟩ := bcell hb1
           have hy1 := hb1.size
           try simp at hy1
           have hn1 : w1.heap.size ≠ w.heap.size := by omega
           have hl1 : wb.heap.size + 1 ≤ w1.heap.size → wb.heap.size < w1.heap.size := fun h => h
           try replace hl1 := hl1 (by have := hb1.size; simp at this; omega)
           have hm1 : w.heap.size ≠ w1.heap.size := by omega
           have sw11 : w1.cell? ⟨w.heap.size, 1, none⟩ = some (.int .i64 0) := (HB1.cell (p := ⟨w.heap.size, 1, none⟩) (by show w.heap.size < w.heap.size + 1; omega)).trans k1
           have sw12 : w1.cell? ⟨w.heap.size, 2, none⟩ = some (.int .i64 0) := (HB1.cell (p := ⟨w.heap.size, 2, none⟩) (by show w.heap.size < w.heap.size + 1; omega)).trans k2
           have sw13 : w1.cell? ⟨w.heap.size, 3, none⟩ = some (.int .i64 W) := (HB1.cell (p := ⟨w.heap.size, 3, none⟩) (by show w.heap.size < w.heap.size + 1; omega)).trans k3
           have sw14 : w1.cell? ⟨w.heap.size, 4, none⟩ = some (.int .i64 H) := (HB1.cell (p := ⟨w.heap.size, 4, none⟩) (by show w.heap.size < w.heap.size + 1; omega)).trans k4
           have sw16 : w1.cell? ⟨w.heap.size, 6, none⟩ = some (.slice (some ⟨gp, 0, none⟩) n cp) := (HB1.cell (p := ⟨w.heap.size, 6, none⟩) (by show w.heap.size < w.heap.size + 1; omega)).trans k6)
        | (go_at_call 23
           refine (clone_any ⟨gp, 0, none⟩ n cp xs _ ?_ HN.out hn0 hn2).mono ?_
           · refine HR0.out.below (B := w.heap.size + 1) ?_ (by show gp < w.heap.size + 1; omega)
             (repeat (first | assumption | exact Below.refl _ _ | refine Below.drew ?_ | refine Below.alloc ?_ ?_ _ | omega | (simp; done) | (simp; omega)))
           rintro e w2 ⟨g, c, rfl, hown, hb2⟩
           have HB2 : Below (w.heap.size + 1) wb w2 := by
             refine Below.trans ?_ (hb2.mono ?_)
             rotate_left
             · first | omega | (simp; omega)
             · (repeat (first | assumption | exact Below.refl _ _ | refine Below.drew ?_ | refine Below.alloc ?_ ?_ _ | omega | (simp; done) | (simp; omega)))
           have hz2 : w.heap.size + 1 ≤ w2.heap.size := by have := HB2.size; omega
           obtain ⟨hc2, hf2⟩ := bcell hb2
           have hy2 := hb2.size
           try simp at hy2
           have hn2' : w2.heap.size ≠ w.heap.size := by omega
           have hm2' : w.heap.size ≠ w2.heap.size := by omega
           have sw21 : w2.cell? ⟨w.heap.size, 1, none⟩ = some (.int .i64 0) := (HB2.cell (p := ⟨w.heap.size, 1, none⟩) (by show w.heap.size < w.heap.size + 1; omega)).trans k1
           have sw22 : w2.cell? ⟨w.heap.size, 2, none⟩ = some (.int .i64 0) := (HB2.cell (p := ⟨w.heap.size, 2, none⟩) (by show w.heap.size < w.heap.size + 1; omega)).trans k2
           have sw23 : w2.cell? ⟨w.heap.size, 3, none⟩ = some (.int .i64 W) := (HB2.cell (p := ⟨w.heap.size, 3, none⟩) (by show w.heap.size < w.heap.size + 1; omega)).trans k3
           have sw24 : w2.cell? ⟨w.heap.size, 4, none⟩ = some (.int .i64 H) := (HB2.cell (p := ⟨w.heap.size, 4, none⟩) (by show w.heap.size < w.heap.size + 1; omega)).trans k4
           have sw26 : w2.cell? ⟨w.heap.size, 6, none⟩ = some (.slice (some ⟨gp, 0, none⟩) n cp) := (HB2.cell (p := ⟨w.heap.size, 6, none⟩) (by show w.heap.size < w.heap.size + 1; omega)).trans k6))
    all_goals
      (go_wp2_with fail
       go_meet
       go_light
       first
         | exact ⟨_, g, c, rfl, rfl, mid_c hwb hws HBX.out HB2 hown hz1⟩
         | exact ⟨_, g, c, rfl, rfl, mid_b hwb hws HBX.out HB2 hb2 hown hz1⟩
         | exact ⟨_, g, c, rfl, rfl, mid_a hwb hws HBX.out HB2 hb1 hb2 hown hl1⟩)
  case rest =>
    obtain ⟨r, g, c, rfl, rfl, hM⟩ := hcut
    obtain ⟨hbx, hrc, hown, hbel⟩ := hM
    have b0 : wc.cell? ⟨w.heap.size, 0, none⟩ = some (.int .i64 5) := (Lib.cell_of_heap hbx 0).trans rfl
    have b5 : wc.cell? ⟨w.heap.size, 5, none⟩ = some (.int .i64 S) := (Lib.cell_of_heap hbx 5).trans rfl
    have r0 : wc.cell? ⟨r, 0, none⟩ = some (.int .i64 0) := (Lib.cell_of_heap hrc 0).trans rfl
    have r1 : wc.cell? ⟨r, 1, none⟩ = some (.int .i64 0) := (Lib.cell_of_heap hrc 1).trans rfl
    have r2 : wc.cell? ⟨r, 2, none⟩ = some (.int .i64 W) := (Lib.cell_of_heap hrc 2).trans rfl
    have r3 : wc.cell? ⟨r, 3, none⟩ = some (.int .i64 H) := (Lib.cell_of_heap hrc 3).trans rfl
    clear hbx hrc
    go_wp2
    go_ret
    exact ⟨_, g, c, rfl, heap_alloc_new wc _, hown.alloc _, hbel.size, hbel.alloc hbel.size _⟩

#print axioms image_nrgba
end Go.Proofs.YtfefgopomhhpfaaDoor
