/- headerBytes: a head's 54 bytes. Conditions: the fields are numbers of their kinds. -/
import Derived.Test.YtfefgopomhhpfaaDoorFour
import Derived.Deep.DeepCutAuto
import Derived.Deep.RegionHeld3
namespace Go.Proofs.YtfefgopomhhpfaaDoor
open Go.RowKit

/-- The head's 17 cells. -/
def hcells (fs po wd hg bpp isz : Int) : Array Value :=
  #[.int .u8 66, .int .u8 77, .int .u32 fs, .int .u16 0, .int .u16 0, .int .u32 po, .int .u32 40, .int .u32 wd, .int .u32 hg, .int .u16 1, .int .u16 bpp, .int .u32 0, .int .u32 isz, .int .u32 0, .int .u32 0, .int .u32 0, .int .u32 0]
/-- The head's 54 bytes. -/
def hbytes (fs po wd hg bpp isz : Int) : List Int :=
  [66, 77] ++ le 4 fs ++ le 2 0 ++ le 2 0 ++ le 4 po ++ le 4 40 ++ le 4 wd ++ le 4 hg ++ le 2 1 ++ le 2 bpp ++ le 4 0 ++ le 4 isz ++ le 4 0 ++ le 4 0 ++ le 4 0 ++ le 4 0
theorem hbytes_length (fs po wd hg bpp isz : Int) : (hbytes fs po wd hg bpp isz).length = 54 := by simp [hbytes, le_length]

theorem Acc.drew {w : World} {q B : Nat} {xs : List Int} (h : Acc w q B xs) : Acc w.drew q B xs := h
theorem acc_two1 (w : World) : Acc ((w.alloc (.cells #[.int .u8 66, .int .u8 77] 5)).alloc (.cells #[.slice (some ⟨w.heap.size, 0, none⟩) 2 2] 22)) (w.heap.size + 1) w.heap.size [66, 77] := by
  refine ⟨by omega, 2, w.heap.size, 2, rfl, ?_, ?_, by omega⟩
  · have := heap_alloc_new (w.alloc (.cells #[.int .u8 66, .int .u8 77] 5)) (.cells #[.slice (some ⟨w.heap.size, 0, none⟩) 2 2] 22)
    simpa using this
  · have h0 : (w.alloc (.cells #[.int .u8 66, .int .u8 77] 5)).ownsRow w.heap.size 5 1 (.slice (some ⟨w.heap.size, 0, none⟩) 2 2) 2 (u8s [66, 77]) :=
      ⟨rfl, .inr ⟨_, 2, #[.int .u8 66, .int .u8 77], rfl, Nat.le_refl _, heap_alloc_new w _, Nat.le_refl _, by unfold maxLen; omega, rfl, rfl⟩⟩
    exact h0.alloc _
theorem acc_two2 (w : World) : Acc ((w.alloc (.cells #[.slice (some ⟨w.heap.size + 1, 0, none⟩) 2 2] 22)).alloc (.cells #[.int .u8 66, .int .u8 77] 5)) w.heap.size w.heap.size [66, 77] := by
  refine ⟨by omega, 2, w.heap.size + 1, 2, rfl, ?_, ?_, by omega⟩
  · rw [Below.heap_alloc _ _ _ (by simp)]
    exact heap_alloc_new w _
  · refine ⟨rfl, .inr ⟨_, 2, #[.int .u8 66, .int .u8 77], rfl, by omega, ?_, Nat.le_refl _, by unfold maxLen; omega, rfl, rfl⟩⟩
    have := heap_alloc_new (w.alloc (.cells #[.slice (some ⟨w.heap.size + 1, 0, none⟩) 2 2] 22)) (.cells #[.int .u8 66, .int .u8 77] 5)
    simpa using this
theorem two1_below (w : World) (o o' : Obj) : Below w.heap.size w ((w.alloc o).alloc o') := ((Below.refl _ _).alloc (Nat.le_refl _) _).alloc (by simp) _

set_option maxHeartbeats 3200000 in
set_option maxRecDepth 100000 in
theorem header_any (hb : Nat) (fs po wd hg bpp isz : Int) (w : World) (hh : w.heap[hb]? = some (.cells (hcells fs po wd hg bpp isz) 72 (0, 0)))
    (f0 : 0 ≤ fs) (f1 : fs < 4294967296) (p0 : 0 ≤ po) (p1 : po < 4294967296) (w0 : 0 ≤ wd) (w1 : wd < 4294967296) (g0 : 0 ≤ hg) (g1 : hg < 4294967296) (b0 : 0 ≤ bpp) (b1 : bpp < 65536) (i0 : 0 ≤ isz) (i1 : isz < 4294967296) :
    Calls Tryd.prog 17 #[.pointer (some ⟨hb, 0, none⟩)] w (Gives w 54 (hbytes fs po wd hg bpp isz)) := by
  have hlt := Lib.lt_of_heap hh
  have c0 : w.cell? ⟨hb, 0, none⟩ = some (.int .u8 66) := (Lib.cell_of_heap hh 0).trans rfl
  have c1 : w.cell? ⟨hb, 1, none⟩ = some (.int .u8 77) := (Lib.cell_of_heap hh 1).trans rfl
  have e0 := World.new_ne w ⟨hb, 0, none⟩ c0
  have e1 := World.new_ne w ⟨hb, 1, none⟩ c1
  have HH := Lib.hid hh
  clear hh
  go_enter Tryd.func17, Tryd.ntmps17
  go_upto_region 1 with (fail)
  go_cut [3] (fun s3 wx => ∃ q : Nat, s3 = .pointer (some ⟨q, 0, none⟩) ∧ Acc wx q w.heap.size [66, 77] ∧ Below w.heap.size w wx)
  case first =>
    go_region_held3 (fun w' => w'.cell? ⟨hb, 0, none⟩ = some (.int .u8 66) ∧ w'.cell? ⟨hb, 1, none⟩ = some (.int .u8 77)) (go_keep) (fail)
    all_goals (go_wp2_with fail; go_meet; go_light; first | exact ⟨_, rfl, (acc_two1 w).drew, (two1_below w _ _).drew⟩ | exact ⟨_, rfl, (acc_two2 w).drew, (two1_below w _ _).drew⟩)
  case rest =>
    obtain ⟨q, rfl, hA0, hbel0⟩ := hcut
    have HW0 : Hid (wc.heap[hb]? = some (.cells (hcells fs po wd hg bpp isz) 72 (0, 0))) := (hbel0.block hb hlt).trans HH.out
    clear c0 c1 e0 e1 HH
    have d0 : wc.cell? ⟨hb, 2, none⟩ = some (.int .u32 fs) := (Lib.cell_of_heap HW0.out 2).trans rfl
    go_wp2_with fail
    refine (four_any q w.heap.size _ fs _ hA0 (by omega) (by omega) (by simp)).mono ?_
    rintro e W1 ⟨rfl, hA1, hb1⟩
    have HW1 : Hid (W1.heap[hb]? = some (.cells (hcells fs po wd hg bpp isz) 72 (0, 0))) := (hb1.block hb hlt).trans HW0.out
    have hbel1 := hbel0.trans hb1
    clear d0 hb1 hA0 HW0 hbel0
    have d0 : W1.cell? ⟨hb, 3, none⟩ = some (.int .u16 0) := (Lib.cell_of_heap HW1.out 3).trans rfl
    go_wp2_with fail
    refine (two_any q w.heap.size _ 0 _ hA1 (by omega) (by omega) (by simp [le_length])).mono ?_
    rintro e W2 ⟨rfl, hA2, hb2⟩
    have HW2 : Hid (W2.heap[hb]? = some (.cells (hcells fs po wd hg bpp isz) 72 (0, 0))) := (hb2.block hb hlt).trans HW1.out
    have hbel2 := hbel1.trans hb2
    clear d0 hb2 hA1 HW1 hbel1
    have d0 : W2.cell? ⟨hb, 4, none⟩ = some (.int .u16 0) := (Lib.cell_of_heap HW2.out 4).trans rfl
    go_wp2_with fail
    refine (two_any q w.heap.size _ 0 _ hA2 (by omega) (by omega) (by simp [le_length])).mono ?_
    rintro e W3 ⟨rfl, hA3, hb3⟩
    have HW3 : Hid (W3.heap[hb]? = some (.cells (hcells fs po wd hg bpp isz) 72 (0, 0))) := (hb3.block hb hlt).trans HW2.out
    have hbel3 := hbel2.trans hb3
    clear d0 hb3 hA2 HW2 hbel2
    have d0 : W3.cell? ⟨hb, 5, none⟩ = some (.int .u32 po) := (Lib.cell_of_heap HW3.out 5).trans rfl
    go_wp2_with fail
    refine (four_any q w.heap.size _ po _ hA3 (by omega) (by omega) (by simp [le_length])).mono ?_
    rintro e W4 ⟨rfl, hA4, hb4⟩
    have HW4 : Hid (W4.heap[hb]? = some (.cells (hcells fs po wd hg bpp isz) 72 (0, 0))) := (hb4.block hb hlt).trans HW3.out
    have hbel4 := hbel3.trans hb4
    clear d0 hb4 hA3 HW3 hbel3
    have d0 : W4.cell? ⟨hb, 6, none⟩ = some (.int .u32 40) := (Lib.cell_of_heap HW4.out 6).trans rfl
    go_wp2_with fail
    refine (four_any q w.heap.size _ 40 _ hA4 (by omega) (by omega) (by simp [le_length])).mono ?_
    rintro e W5 ⟨rfl, hA5, hb5⟩
    have HW5 : Hid (W5.heap[hb]? = some (.cells (hcells fs po wd hg bpp isz) 72 (0, 0))) := (hb5.block hb hlt).trans HW4.out
    have hbel5 := hbel4.trans hb5
    clear d0 hb5 hA4 HW4 hbel4
    have d0 : W5.cell? ⟨hb, 7, none⟩ = some (.int .u32 wd) := (Lib.cell_of_heap HW5.out 7).trans rfl
    go_wp2_with fail
    refine (four_any q w.heap.size _ wd _ hA5 (by omega) (by omega) (by simp [le_length])).mono ?_
    rintro e W6 ⟨rfl, hA6, hb6⟩
    have HW6 : Hid (W6.heap[hb]? = some (.cells (hcells fs po wd hg bpp isz) 72 (0, 0))) := (hb6.block hb hlt).trans HW5.out
    have hbel6 := hbel5.trans hb6
    clear d0 hb6 hA5 HW5 hbel5
    have d0 : W6.cell? ⟨hb, 8, none⟩ = some (.int .u32 hg) := (Lib.cell_of_heap HW6.out 8).trans rfl
    go_wp2_with fail
    refine (four_any q w.heap.size _ hg _ hA6 (by omega) (by omega) (by simp [le_length])).mono ?_
    rintro e W7 ⟨rfl, hA7, hb7⟩
    have HW7 : Hid (W7.heap[hb]? = some (.cells (hcells fs po wd hg bpp isz) 72 (0, 0))) := (hb7.block hb hlt).trans HW6.out
    have hbel7 := hbel6.trans hb7
    clear d0 hb7 hA6 HW6 hbel6
    have d0 : W7.cell? ⟨hb, 9, none⟩ = some (.int .u16 1) := (Lib.cell_of_heap HW7.out 9).trans rfl
    go_wp2_with fail
    refine (two_any q w.heap.size _ 1 _ hA7 (by omega) (by omega) (by simp [le_length])).mono ?_
    rintro e W8 ⟨rfl, hA8, hb8⟩
    have HW8 : Hid (W8.heap[hb]? = some (.cells (hcells fs po wd hg bpp isz) 72 (0, 0))) := (hb8.block hb hlt).trans HW7.out
    have hbel8 := hbel7.trans hb8
    clear d0 hb8 hA7 HW7 hbel7
    have d0 : W8.cell? ⟨hb, 10, none⟩ = some (.int .u16 bpp) := (Lib.cell_of_heap HW8.out 10).trans rfl
    go_wp2_with fail
    refine (two_any q w.heap.size _ bpp _ hA8 (by omega) (by omega) (by simp [le_length])).mono ?_
    rintro e W9 ⟨rfl, hA9, hb9⟩
    have HW9 : Hid (W9.heap[hb]? = some (.cells (hcells fs po wd hg bpp isz) 72 (0, 0))) := (hb9.block hb hlt).trans HW8.out
    have hbel9 := hbel8.trans hb9
    clear d0 hb9 hA8 HW8 hbel8
    have d0 : W9.cell? ⟨hb, 11, none⟩ = some (.int .u32 0) := (Lib.cell_of_heap HW9.out 11).trans rfl
    go_wp2_with fail
    refine (four_any q w.heap.size _ 0 _ hA9 (by omega) (by omega) (by simp [le_length])).mono ?_
    rintro e W10 ⟨rfl, hA10, hb10⟩
    have HW10 : Hid (W10.heap[hb]? = some (.cells (hcells fs po wd hg bpp isz) 72 (0, 0))) := (hb10.block hb hlt).trans HW9.out
    have hbel10 := hbel9.trans hb10
    clear d0 hb10 hA9 HW9 hbel9
    have d0 : W10.cell? ⟨hb, 12, none⟩ = some (.int .u32 isz) := (Lib.cell_of_heap HW10.out 12).trans rfl
    go_wp2_with fail
    refine (four_any q w.heap.size _ isz _ hA10 (by omega) (by omega) (by simp [le_length])).mono ?_
    rintro e W11 ⟨rfl, hA11, hb11⟩
    have HW11 : Hid (W11.heap[hb]? = some (.cells (hcells fs po wd hg bpp isz) 72 (0, 0))) := (hb11.block hb hlt).trans HW10.out
    have hbel11 := hbel10.trans hb11
    clear d0 hb11 hA10 HW10 hbel10
    have d0 : W11.cell? ⟨hb, 13, none⟩ = some (.int .u32 0) := (Lib.cell_of_heap HW11.out 13).trans rfl
    go_wp2_with fail
    refine (four_any q w.heap.size _ 0 _ hA11 (by omega) (by omega) (by simp [le_length])).mono ?_
    rintro e W12 ⟨rfl, hA12, hb12⟩
    have HW12 : Hid (W12.heap[hb]? = some (.cells (hcells fs po wd hg bpp isz) 72 (0, 0))) := (hb12.block hb hlt).trans HW11.out
    have hbel12 := hbel11.trans hb12
    clear d0 hb12 hA11 HW11 hbel11
    have d0 : W12.cell? ⟨hb, 14, none⟩ = some (.int .u32 0) := (Lib.cell_of_heap HW12.out 14).trans rfl
    go_wp2_with fail
    refine (four_any q w.heap.size _ 0 _ hA12 (by omega) (by omega) (by simp [le_length])).mono ?_
    rintro e W13 ⟨rfl, hA13, hb13⟩
    have HW13 : Hid (W13.heap[hb]? = some (.cells (hcells fs po wd hg bpp isz) 72 (0, 0))) := (hb13.block hb hlt).trans HW12.out
    have hbel13 := hbel12.trans hb13
    clear d0 hb13 hA12 HW12 hbel12
    have d0 : W13.cell? ⟨hb, 15, none⟩ = some (.int .u32 0) := (Lib.cell_of_heap HW13.out 15).trans rfl
    go_wp2_with fail
    refine (four_any q w.heap.size _ 0 _ hA13 (by omega) (by omega) (by simp [le_length])).mono ?_
    rintro e W14 ⟨rfl, hA14, hb14⟩
    have HW14 : Hid (W14.heap[hb]? = some (.cells (hcells fs po wd hg bpp isz) 72 (0, 0))) := (hb14.block hb hlt).trans HW13.out
    have hbel14 := hbel13.trans hb14
    clear d0 hb14 hA13 HW13 hbel13
    have d0 : W14.cell? ⟨hb, 16, none⟩ = some (.int .u32 0) := (Lib.cell_of_heap HW14.out 16).trans rfl
    go_wp2_with fail
    refine (four_any q w.heap.size _ 0 _ hA14 (by omega) (by omega) (by simp [le_length])).mono ?_
    rintro e W15 ⟨rfl, hA15, hb15⟩
    have HW15 : Hid (W15.heap[hb]? = some (.cells (hcells fs po wd hg bpp isz) 72 (0, 0))) := (hb15.block hb hlt).trans HW14.out
    have hbel15 := hbel14.trans hb15
    clear d0 hb15 hA14 HW14 hbel14
    obtain ⟨-, n, g, cap, hn, hq, hown, -⟩ := hA15
    have d0 : W15.cell? ⟨q, 0, none⟩ = some (.slice (some ⟨g, 0, none⟩) n cap) := (Lib.cell_of_heap hq 0).trans rfl
    obtain rfl : n = 54 := by rw [hn]; simp [le_length]
    clear hn hq
    go_wp2
    go_ret
    exact ⟨g, cap, rfl, hown, hbel15⟩
#print axioms header_any
end Go.Proofs.YtfefgopomhhpfaaDoor
