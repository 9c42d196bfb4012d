/- laws.FnEncode: its walk, from what pictureOf, impl.Encode and spec.Encoded give. -/
import Derived.Test.YtfefgopomhhpfaaDoorPicBase
import Derived.Test.YtfefgopomhhpfaaDoorImplEncode
import Derived.Deep.DeepCutAuto
import Derived.Deep.RegionHeld3
import Derived.Laws.BytesArg
namespace Go.Proofs.YtfefgopomhhpfaaDoor
open Go.RowKit

/-- Too long: it returns true at once. -/
theorem fn_long (t a b e : Int) (dp qp : Option Addr) (dn dc qn qc : Nat) (w : World) (h : ¬ (dn ≤ 1000 ∧ qn ≤ 1024)) :
    Calls Tryd.prog 3 #[.int .u8 t, .int .u8 a, .int .u8 b, .slice dp dn dc, .slice qp qn qc, .int .u8 e] w fun x w' => x = .returned (.bool true) ∧ Below w.heap.size w w' := by
  go_enter Tryd.func3, Tryd.ntmps3
  by_cases d1 : 2147483647 < dn
  · go_wp2
    all_goals go_ret
    all_goals exact ⟨rfl, Below.refl _ _⟩
  · by_cases q1 : 2147483647 < qn
    · go_wp2
      all_goals go_ret
      all_goals exact ⟨rfl, Below.refl _ _⟩
    · by_cases d2 : 1000 < dn
      · go_wp2
        all_goals go_ret
        all_goals exact ⟨rfl, Below.refl _ _⟩
      · have q2 : 1024 < qn := by omega
        clear h
        go_wp2
        all_goals go_ret
        all_goals exact ⟨rfl, Below.refl _ _⟩

/-- The two pictures, and what becomes of them. -/
def Both (tot : List Int) (w : World) (x : Ending) (w1 : World) : Prop :=
  ∃ (kd W H S n cp pn pc nx cx qn qc : Nat) (ga pa gx qa : Option Addr),
    x = .returned (.tuple #[.agg #[.int .i64 kd, .int .i64 0, .int .i64 0, .int .i64 W, .int .i64 H, .int .i64 S, .slice ga n cp, .slice pa pn pc], .agg #[.int .i64 kd, .int .i64 W, .int .i64 H, .slice gx nx cx, .slice qa qn qc]]) ∧
    (∀ W', Below w1.heap.size w1 W' → Calls Tryd.prog 5 #[.agg #[.int .i64 kd, .int .i64 0, .int .i64 0, .int .i64 W, .int .i64 H, .int .i64 S, .slice ga n cp, .slice pa pn pc]] W' (EncOut tot W')) ∧
    (∀ W', Below w1.heap.size w1 W' → Calls Tryd.prog 6 #[.agg #[.int .i64 kd, .int .i64 W, .int .i64 H, .slice gx nx cx, .slice qa qn qc]] W' (Gives W' tot.length tot)) ∧
    Below w.heap.size w w1

theorem bytes_cells {w : World} {base g cap : Nat} {tot : List Int} (h : w.ownsRow base 5 1 (.slice (some ⟨g, 0, none⟩) tot.length cap) tot.length (u8s tot)) : ∀ i, i < tot.length → w.cell? ⟨g, 0 + i, none⟩ = some (.int .u8 (tot.getD i 0)) := by
  intro i hi
  have h2 := h.cells (g := g) rfl i (.int .u8 (tot.getD i 0)) (by rw [u8s, List.getElem?_map, List.getD_eq_getElem?_getD, List.getElem?_eq_getElem hi]; rfl)
  rwa [Go.WideShapes.add_plain] at h2

set_option maxHeartbeats 1600000 in
set_option maxRecDepth 100000 in
theorem fn_main (t a b e : Int) (dp qp : Option Addr) (dn dc qn qc : Nat) (w : World) (hdn : dn ≤ 1000) (hqn : qn ≤ 1024)
    (hpic : Calls Tryd.prog 4 #[.int .u8 t, .int .u8 a, .int .u8 b, .slice dp dn dc, .slice qp qn qc, .int .u8 e] w fun x w1 => ∃ tot : List Int, 0 < tot.length ∧ Both tot w x w1) :
    Calls Tryd.prog 3 #[.int .u8 t, .int .u8 a, .int .u8 b, .slice dp dn dc, .slice qp qn qc, .int .u8 e] w fun x w' => x = .returned (.bool true) ∧ Below w.heap.size w w' := by
  have HPIC := Lib.hid hpic
  clear hpic
  go_enter Tryd.func3, Tryd.ntmps3
  go_wp2_with fail
  refine HPIC.out.mono ?_
  rintro x w1 ⟨tot, htot, kd, W, H, S, n, cp, pn, pc, nx, cx, qn2, qc2, ga, pa, gx, qa, rfl, henc, hspec, hb1⟩
  have HENC := Lib.hid henc
  have HSPEC := Lib.hid hspec
  clear henc hspec HPIC
  go_upto_region 6 with (fail)
  have k5 : ((w1.alloc (.cells #[.int .i64 kd, .int .i64 0, .int .i64 0, .int .i64 W, .int .i64 H, .int .i64 S, .slice ga n cp, .slice pa pn pc] 25)).alloc (.cells #[.int .i64 kd, .int .i64 W, .int .i64 H, .slice gx nx cx, .slice qa qn2 qc2] 28)).heap[w1.heap.size]? = some (.cells #[.int .i64 kd, .int .i64 0, .int .i64 0, .int .i64 W, .int .i64 H, .int .i64 S, .slice ga n cp, .slice pa pn pc] 25) := (Below.heap_alloc _ _ _ (by simp)).trans (heap_alloc_new w1 _)
  have k8 : ((w1.alloc (.cells #[.int .i64 kd, .int .i64 0, .int .i64 0, .int .i64 W, .int .i64 H, .int .i64 S, .slice ga n cp, .slice pa pn pc] 25)).alloc (.cells #[.int .i64 kd, .int .i64 W, .int .i64 H, .slice gx nx cx, .slice qa qn2 qc2] 28)).heap[w1.heap.size + 1]? = some (.cells #[.int .i64 kd, .int .i64 W, .int .i64 H, .slice gx nx cx, .slice qa qn2 qc2] 28) := by
    have := heap_alloc_new (w1.alloc (.cells #[.int .i64 kd, .int .i64 0, .int .i64 0, .int .i64 W, .int .i64 H, .int .i64 S, .slice ga n cp, .slice pa pn pc] 25)) (.cells #[.int .i64 kd, .int .i64 W, .int .i64 H, .slice gx nx cx, .slice qa qn2 qc2] 28)
    simpa using this
  have hb2 : Below w1.heap.size w1 ((w1.alloc (.cells #[.int .i64 kd, .int .i64 0, .int .i64 0, .int .i64 W, .int .i64 H, .int .i64 S, .slice ga n cp, .slice pa pn pc] 25)).alloc (.cells #[.int .i64 kd, .int .i64 W, .int .i64 H, .slice gx nx cx, .slice qa qn2 qc2] 28)) := ((Below.refl _ _).alloc (Nat.le_refl _) _).alloc (by simp) _
  have hz2 : ((w1.alloc (.cells #[.int .i64 kd, .int .i64 0, .int .i64 0, .int .i64 W, .int .i64 H, .int .i64 S, .slice ga n cp, .slice pa pn pc] 25)).alloc (.cells #[.int .i64 kd, .int .i64 W, .int .i64 H, .slice gx nx cx, .slice qa qn2 qc2] 28)).heap.size = w1.heap.size + 2 := by simp
  generalize ((w1.alloc (.cells #[.int .i64 kd, .int .i64 0, .int .i64 0, .int .i64 W, .int .i64 H, .int .i64 S, .slice ga n cp, .slice pa pn pc] 25)).alloc (.cells #[.int .i64 kd, .int .i64 W, .int .i64 H, .slice gx nx cx, .slice qa qn2 qc2] 28)) = W2 at k5 k8 hb2 hz2 ⊢
  have hz2a : w1.heap.size + 2 ≤ W2.heap.size := by omega
  clear hz2
  have x0 : W2.cell? ⟨w1.heap.size, 0, none⟩ = _ := (Lib.cell_of_heap k5 0).trans rfl
  have x1 : W2.cell? ⟨w1.heap.size, 1, none⟩ = _ := (Lib.cell_of_heap k5 1).trans rfl
  have x2 : W2.cell? ⟨w1.heap.size, 2, none⟩ = _ := (Lib.cell_of_heap k5 2).trans rfl
  have x3 : W2.cell? ⟨w1.heap.size, 3, none⟩ = _ := (Lib.cell_of_heap k5 3).trans rfl
  have x4 : W2.cell? ⟨w1.heap.size, 4, none⟩ = _ := (Lib.cell_of_heap k5 4).trans rfl
  have x5 : W2.cell? ⟨w1.heap.size, 5, none⟩ = _ := (Lib.cell_of_heap k5 5).trans rfl
  have x6 : W2.cell? ⟨w1.heap.size, 6, none⟩ = _ := (Lib.cell_of_heap k5 6).trans rfl
  have x7 : W2.cell? ⟨w1.heap.size, 7, none⟩ = _ := (Lib.cell_of_heap k5 7).trans rfl
  go_wp2_with fail
  clear x0 x1 x2 x3 x4 x5 x6 x7 k5
  refine (HENC.out W2 hb2).mono ?_
  rintro x w3 ⟨v, rfl, hown, hb3⟩
  obtain ⟨gb, cb, rfl, hgb1, hgb2⟩ := hown.form htot
  have k8' := (hb3.block (w1.heap.size + 1) (by omega)).trans k8
  have hb13 : Below w1.heap.size w1 w3 := hb2.trans (hb3.mono (by omega))
  have y0 : w3.cell? ⟨w1.heap.size + 1, 0, none⟩ = _ := (Lib.cell_of_heap k8' 0).trans rfl
  have y1 : w3.cell? ⟨w1.heap.size + 1, 1, none⟩ = _ := (Lib.cell_of_heap k8' 1).trans rfl
  have y2 : w3.cell? ⟨w1.heap.size + 1, 2, none⟩ = _ := (Lib.cell_of_heap k8' 2).trans rfl
  have y3 : w3.cell? ⟨w1.heap.size + 1, 3, none⟩ = _ := (Lib.cell_of_heap k8' 3).trans rfl
  have y4 : w3.cell? ⟨w1.heap.size + 1, 4, none⟩ = _ := (Lib.cell_of_heap k8' 4).trans rfl
  have HK8 := Lib.hid k8'
  have hcell := bytes_cells hown
  have cv3 : (convert 22 9 (.slice (some ⟨gb, 0, none⟩) tot.length cb)).run Tryd.prog w3.drew = .ok (.string (strOfNums tot)) w3.drew := run_convert_bytes_arg w3.drew 22 5 Tryd.underlying22 Tryd.underlying5 gb 0 tot.length cb tot rfl hcell 9 Tryd.underlying9
  obtain ⟨str, hstr⟩ : ∃ s, s = strOfNums tot := ⟨_, rfl⟩
  rw [← hstr] at cv3
  have HSTR := Lib.hid hstr
  have HCELL := Lib.hid hcell
  clear hstr hcell k8 k8'
  go_upto_region 7 with (fail)
  go_region_with
    (first
      | (go_at_call 6
         refine (HSPEC.out w3.drew (hb13.trans ⟨rfl, rfl, rfl, Nat.le_refl _, fun _ _ => rfl⟩)).mono ?_
         rintro x w4 ⟨gc, cc, rfl, hown4, hb4⟩
         have k84 := (hb4.block (w1.heap.size + 1) (by show w1.heap.size + 1 < w3.heap.size; omega)).trans HK8.out
         have y40 : w4.cell? ⟨w1.heap.size + 1, 0, none⟩ = _ := (Lib.cell_of_heap k84 0).trans rfl
         have y41 : w4.cell? ⟨w1.heap.size + 1, 1, none⟩ = _ := (Lib.cell_of_heap k84 1).trans rfl
         have y42 : w4.cell? ⟨w1.heap.size + 1, 2, none⟩ = _ := (Lib.cell_of_heap k84 2).trans rfl
         have y43 : w4.cell? ⟨w1.heap.size + 1, 3, none⟩ = _ := (Lib.cell_of_heap k84 3).trans rfl
         have y44 : w4.cell? ⟨w1.heap.size + 1, 4, none⟩ = _ := (Lib.cell_of_heap k84 4).trans rfl
         have cv4 : (convert 22 9 (.slice (some ⟨gb, 0, none⟩) tot.length cb)).run Tryd.prog w4 = .ok (.string str) w4 := by
           rw [HSTR.out]
           exact run_convert_bytes_arg w4 22 5 Tryd.underlying22 Tryd.underlying5 gb 0 tot.length cb tot rfl (fun i hi => (hb4.cell (p := ⟨gb, 0 + i, none⟩) (by show gb < w3.heap.size; omega)).trans (HCELL.out i hi)) 9 Tryd.underlying9
         have cv5 : (convert 22 9 (.slice (some ⟨gc, 0, none⟩) tot.length cc)).run Tryd.prog w4 = .ok (.string str) w4 := by
           rw [HSTR.out]
           exact run_convert_bytes_arg w4 22 5 Tryd.underlying22 Tryd.underlying5 gc 0 tot.length cc tot rfl (bytes_cells hown4) 9 Tryd.underlying9))
  all_goals
    (go_wp2_with fail
     go_ret
     exact ⟨by first | rfl | simp [Act.put], ((hb1.trans (hb13.mono hb1.size)).drew).trans (hb4.mono (by have := hb13.size; have := hb1.size; show w.heap.size ≤ w3.heap.size; omega))⟩)
end Go.Proofs.YtfefgopomhhpfaaDoor
