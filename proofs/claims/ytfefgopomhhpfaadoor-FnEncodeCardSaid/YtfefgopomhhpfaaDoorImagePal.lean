/- The walk of impl.imageOf at a paletted picture. -/
import Derived.Test.YtfefgopomhhpfaaDoorImage
namespace Go.Proofs.YtfefgopomhhpfaaDoor
open Go.RowKit

/-- The colours of a palette as values. -/
def col (C : Nat → Int) (j : Nat) : Value := .iface 98 (.agg #[.int .u8 (C (4 * j)), .int .u8 (C (4 * j + 1)), .int .u8 (C (4 * j + 2)), .int .u8 (C (4 * j + 3))])
def cols (C : Nat → Int) (k : Nat) : List Value := (List.range k).map (col C)
theorem cols_succ (C : Nat → Int) (k : Nat) : cols C (k + 1) = cols C k ++ [col C k] := by simp [cols, List.range_succ]
theorem cols_length (C : Nat → Int) (k : Nat) : (cols C k).length = k := by simp [cols]

theorem owns_slice {w : World} {B e s n : Nat} {v : Value} {xs : List Value} (h : w.ownsRow B e s v n xs) : ∃ a l c, v = .slice a l c := by
  rcases h.2 with ⟨rfl, _⟩ | ⟨g, cap, cur, rfl, _⟩
  · exact ⟨_, _, _, rfl⟩
  · exact ⟨_, _, _, rfl⟩

/-- What imageOf leaves of a paletted picture. -/
def PalOf (n pn W H S : Nat) (xs : List Int) (C : Nat → Int) (w : World) (e : Ending) (w' : World) : Prop :=
  ∃ (mb g c : Nat) (q : Value), e = .returned (.iface 74 (.pointer (some ⟨mb, 0, none⟩))) ∧ w'.heap[mb]? = some (.cells #[.slice (some ⟨g, 0, none⟩) n c, .int .i64 S, .int .i64 0, .int .i64 0, .int .i64 W, .int .i64 H, q] 78 (0, 0)) ∧
    w'.ownsRow w.heap.size 5 1 (.slice (some ⟨g, 0, none⟩) n c) n (u8s xs) ∧ w'.ownsRow w.heap.size 81 1 q pn (cols C pn) ∧ w.heap.size ≤ mb ∧ Below w.heap.size w w'

set_option maxHeartbeats 1600000 in
set_option maxRecDepth 100000 in
theorem image_pal (W H S n cp gp gq pn pc : Nat) (pa : Option Addr) (xs : List Int) (C : Nat → Int) (w : World) (hr : Reads w ⟨gp, 0, none⟩ xs) (hn : xs.length = n) (hn0 : 0 < n) (hn2 : n ≤ 100000000)
    (hpa : 0 < pn → pa = some ⟨gq, 0, none⟩) (hpn : pn ≤ 1000) (hC : ∀ i, i < 4 * pn → w.cell? ⟨gq, i, none⟩ = some (.int .u8 (C i))) :
    Calls Tryd.prog 9 #[.agg #[.int .i64 7, .int .i64 0, .int .i64 0, .int .i64 W, .int .i64 H, .int .i64 S, .slice (some ⟨gp, 0, none⟩) n cp, .slice pa pn pc]] w (PalOf n pn W H S xs C w) := by
  obtain ⟨i0, hi, hz0, hz1, hz2⟩ := info_parts info81
  have HPA := Lib.hid hpa
  have HCC := Lib.hid hC
  clear hpa hC
  have hlt : gp < w.heap.size := World.block_lt_of_cell? w ((⟨gp, 0, none⟩ : Addr).add 0) (hr 0 (by omega))
  have HR := Lib.hid hr
  have HN := Lib.hid hn
  clear hr hn
  go_enter Tryd.func9, Tryd.ntmps9
  go_upto_region 1 with (fail)
  go_cut [3, 4] (fun s3 s4 wx => ∃ (r g c : Nat), s3 = .pointer (some ⟨r, 0, none⟩) ∧ s4 = .slice (some ⟨g, 0, none⟩) n c ∧ MidImage w #[.int .i64 7, .int .i64 0, .int .i64 0, .int .i64 W, .int .i64 H, .int .i64 S, .slice (some ⟨gp, 0, none⟩) n cp, .slice pa pn pc] n W H r g c xs wx)
  case first =>
    have k1 : (w.alloc (.cells #[.int .i64 7, .int .i64 0, .int .i64 0, .int .i64 W, .int .i64 H, .int .i64 S, .slice (some ⟨gp, 0, none⟩) n cp, .slice pa pn pc] 25)).cell? ⟨w.heap.size, 1, none⟩ = some (.int .i64 0) := (Lib.cell_of_heap (heap_alloc_new w _) 1).trans rfl
    have k2 : (w.alloc (.cells #[.int .i64 7, .int .i64 0, .int .i64 0, .int .i64 W, .int .i64 H, .int .i64 S, .slice (some ⟨gp, 0, none⟩) n cp, .slice pa pn pc] 25)).cell? ⟨w.heap.size, 2, none⟩ = some (.int .i64 0) := (Lib.cell_of_heap (heap_alloc_new w _) 2).trans rfl
    have k3 : (w.alloc (.cells #[.int .i64 7, .int .i64 0, .int .i64 0, .int .i64 W, .int .i64 H, .int .i64 S, .slice (some ⟨gp, 0, none⟩) n cp, .slice pa pn pc] 25)).cell? ⟨w.heap.size, 3, none⟩ = some (.int .i64 W) := (Lib.cell_of_heap (heap_alloc_new w _) 3).trans rfl
    have k4 : (w.alloc (.cells #[.int .i64 7, .int .i64 0, .int .i64 0, .int .i64 W, .int .i64 H, .int .i64 S, .slice (some ⟨gp, 0, none⟩) n cp, .slice pa pn pc] 25)).cell? ⟨w.heap.size, 4, none⟩ = some (.int .i64 H) := (Lib.cell_of_heap (heap_alloc_new w _) 4).trans rfl
    have k6 : (w.alloc (.cells #[.int .i64 7, .int .i64 0, .int .i64 0, .int .i64 W, .int .i64 H, .int .i64 S, .slice (some ⟨gp, 0, none⟩) n cp, .slice pa pn pc] 25)).cell? ⟨w.heap.size, 6, none⟩ = some (.slice (some ⟨gp, 0, none⟩) n cp) := (Lib.cell_of_heap (heap_alloc_new w _) 6).trans rfl
    have hwb : Below w.heap.size w (w.alloc (.cells #[.int .i64 7, .int .i64 0, .int .i64 0, .int .i64 W, .int .i64 H, .int .i64 S, .slice (some ⟨gp, 0, none⟩) n cp, .slice pa pn pc] 25)) := (Below.refl _ _).alloc (Nat.le_refl _) _
    have hws : w.heap.size + 1 ≤ (w.alloc (.cells #[.int .i64 7, .int .i64 0, .int .i64 0, .int .i64 W, .int .i64 H, .int .i64 S, .slice (some ⟨gp, 0, none⟩) n cp, .slice pa pn pc] 25)).heap.size := by simp
    have hbx := heap_alloc_new w (.cells #[.int .i64 7, .int .i64 0, .int .i64 0, .int .i64 W, .int .i64 H, .int .i64 S, .slice (some ⟨gp, 0, none⟩) n cp, .slice pa pn pc] 25)
    generalize w.alloc (.cells #[.int .i64 7, .int .i64 0, .int .i64 0, .int .i64 W, .int .i64 H, .int .i64 S, .slice (some ⟨gp, 0, none⟩) n cp, .slice pa pn pc] 25) = wb at k1 k2 k3 k4 k6 hwb hws hbx ⊢
    have HBX := Lib.hid hbx
    have hR0 : Reads wb ⟨gp, 0, none⟩ xs := HR.out.below hwb hlt
    have HR0 := Lib.hid hR0
    clear hR0 hbx
    have hn0' : wb.heap.size ≠ w.heap.size := by omega
    have hm0' : w.heap.size ≠ wb.heap.size := by omega
    go_region_held3 (fun w' => w'.cell? ⟨w.heap.size, 1, none⟩ = some (.int .i64 0) ∧ w'.cell? ⟨w.heap.size, 2, none⟩ = some (.int .i64 0) ∧ w'.cell? ⟨w.heap.size, 3, none⟩ = some (.int .i64 W) ∧ w'.cell? ⟨w.heap.size, 4, none⟩ = some (.int .i64 H) ∧ w'.cell? ⟨w.heap.size, 6, none⟩ = some (.slice (some ⟨gp, 0, none⟩) n cp)) (go_keep)
      (first
        | (go_at_call 22
           refine (rect_any W H _).mono ?_
           rintro e w1 ⟨rfl, hb1⟩
           have HB1 : Below (w.heap.size + 1) wb w1 := by
             refine Below.trans ?_ (hb1.mono ?_)
             rotate_left
             · first | omega | (simp; omega)
             · (repeat (first | assumption | exact Below.refl _ _ | refine Below.drew ?_ | refine Below.alloc ?_ ?_ _ | omega | (simp; done) | (simp; omega)))
           have hz1 : w.heap.size + 1 ≤ w1.heap.size := by have := HB1.size; omega
           obtain ⟨hc1, hf1⟩ := bcell hb1
           have hy1 := hb1.size
           try simp at hy1
           have hn1 : w1.heap.size ≠ w.heap.size := by omega
           have hl1 : wb.heap.size + 1 ≤ w1.heap.size → wb.heap.size < w1.heap.size := fun h => h
           try replace hl1 := hl1 (by have := hb1.size; simp at this; omega)
           have hm1 : w.heap.size ≠ w1.heap.size := by omega
           have sw11 : w1.cell? ⟨w.heap.size, 1, none⟩ = some (.int .i64 0) := (HB1.cell (p := ⟨w.heap.size, 1, none⟩) (by show w.heap.size < w.heap.size + 1; omega)).trans k1
           have sw12 : w1.cell? ⟨w.heap.size, 2, none⟩ = some (.int .i64 0) := (HB1.cell (p := ⟨w.heap.size, 2, none⟩) (by show w.heap.size < w.heap.size + 1; omega)).trans k2
           have sw13 : w1.cell? ⟨w.heap.size, 3, none⟩ = some (.int .i64 W) := (HB1.cell (p := ⟨w.heap.size, 3, none⟩) (by show w.heap.size < w.heap.size + 1; omega)).trans k3
           have sw14 : w1.cell? ⟨w.heap.size, 4, none⟩ = some (.int .i64 H) := (HB1.cell (p := ⟨w.heap.size, 4, none⟩) (by show w.heap.size < w.heap.size + 1; omega)).trans k4
           have sw16 : w1.cell? ⟨w.heap.size, 6, none⟩ = some (.slice (some ⟨gp, 0, none⟩) n cp) := (HB1.cell (p := ⟨w.heap.size, 6, none⟩) (by show w.heap.size < w.heap.size + 1; omega)).trans k6)
        | (go_at_call 23
           refine (clone_any ⟨gp, 0, none⟩ n cp xs _ ?_ HN.out hn0 hn2).mono ?_
           · refine HR0.out.below (B := w.heap.size + 1) ?_ (by show gp < w.heap.size + 1; omega)
             (repeat (first | assumption | exact Below.refl _ _ | refine Below.drew ?_ | refine Below.alloc ?_ ?_ _ | omega | (simp; done) | (simp; omega)))
           rintro e w2 ⟨g, c, rfl, hown, hb2⟩
           have HB2 : Below (w.heap.size + 1) wb w2 := by
             refine Below.trans ?_ (hb2.mono ?_)
             rotate_left
             · first | omega | (simp; omega)
             · (repeat (first | assumption | exact Below.refl _ _ | refine Below.drew ?_ | refine Below.alloc ?_ ?_ _ | omega | (simp; done) | (simp; omega)))
           have hz2 : w.heap.size + 1 ≤ w2.heap.size := by have := HB2.size; omega
           obtain ⟨hc2, hf2⟩ := bcell hb2
           have hy2 := hb2.size
           try simp at hy2
           have hn2' : w2.heap.size ≠ w.heap.size := by omega
           have hm2' : w.heap.size ≠ w2.heap.size := by omega
           have sw21 : w2.cell? ⟨w.heap.size, 1, none⟩ = some (.int .i64 0) := (HB2.cell (p := ⟨w.heap.size, 1, none⟩) (by show w.heap.size < w.heap.size + 1; omega)).trans k1
           have sw22 : w2.cell? ⟨w.heap.size, 2, none⟩ = some (.int .i64 0) := (HB2.cell (p := ⟨w.heap.size, 2, none⟩) (by show w.heap.size < w.heap.size + 1; omega)).trans k2
           have sw23 : w2.cell? ⟨w.heap.size, 3, none⟩ = some (.int .i64 W) := (HB2.cell (p := ⟨w.heap.size, 3, none⟩) (by show w.heap.size < w.heap.size + 1; omega)).trans k3
           have sw24 : w2.cell? ⟨w.heap.size, 4, none⟩ = some (.int .i64 H) := (HB2.cell (p := ⟨w.heap.size, 4, none⟩) (by show w.heap.size < w.heap.size + 1; omega)).trans k4
           have sw26 : w2.cell? ⟨w.heap.size, 6, none⟩ = some (.slice (some ⟨gp, 0, none⟩) n cp) := (HB2.cell (p := ⟨w.heap.size, 6, none⟩) (by show w.heap.size < w.heap.size + 1; omega)).trans k6))
    all_goals
      (go_wp2_with fail
       go_meet
       go_light
       first
         | exact ⟨_, g, c, rfl, rfl, mid_c hwb hws HBX.out HB2 hown hz1⟩
         | exact ⟨_, g, c, rfl, rfl, mid_b hwb hws HBX.out HB2 hb2 hown hz1⟩
         | exact ⟨_, g, c, rfl, rfl, mid_a hwb hws HBX.out HB2 hb1 hb2 hown hl1⟩)
  case rest =>
    obtain ⟨r, g, c, rfl, rfl, hM⟩ := hcut
    obtain ⟨hbx, hrc, hown, hbel⟩ := hM
    have b0 : wc.cell? ⟨w.heap.size, 0, none⟩ = some (.int .i64 7) := (Lib.cell_of_heap hbx 0).trans rfl
    have b5 : wc.cell? ⟨w.heap.size, 5, none⟩ = some (.int .i64 S) := (Lib.cell_of_heap hbx 5).trans rfl
    have r0 : wc.cell? ⟨r, 0, none⟩ = some (.int .i64 0) := (Lib.cell_of_heap hrc 0).trans rfl
    have r1 : wc.cell? ⟨r, 1, none⟩ = some (.int .i64 0) := (Lib.cell_of_heap hrc 1).trans rfl
    have r2 : wc.cell? ⟨r, 2, none⟩ = some (.int .i64 W) := (Lib.cell_of_heap hrc 2).trans rfl
    have r3 : wc.cell? ⟨r, 3, none⟩ = some (.int .i64 H) := (Lib.cell_of_heap hrc 3).trans rfl
    have b7 : wc.cell? ⟨w.heap.size, 7, none⟩ = some (.slice pa pn pc) := (Lib.cell_of_heap hbx 7).trans rfl
    have HBX := Lib.hid hbx
    have HRC := Lib.hid hrc
    have hrl := Lib.lt_of_heap hrc
    have hbl := Lib.lt_of_heap hbx
    clear hbx hrc
    go_wp2_with fail
    clear b0 b5 b7 r0 r1 r2 r3
    go_loopw [5, 52] (fun s i wr => ∃ (k : Nat) (v : Value), k ≤ pn ∧ i = .int .i64 k ∧ s = v ∧ wr.ownsRow wc.heap.size 81 1 v k (cols C k) ∧ Below wc.heap.size wc wr) (fun _ i _ => pn - (intOf i).toNat)
    case atStart => exact ⟨0, _, Nat.zero_le _, rfl, rfl, World.ownsRow_nil _ _ _ _, Below.refl _ _⟩
    case round =>
      obtain ⟨k, v, hk, rfl, rfl, hq, hb2⟩ := hrel
      have hsz := hb2.size
      by_cases hlt2 : k < pn
      · obtain rfl := HPA.out (by omega)
        have hgq : gq < w.heap.size := World.block_lt_of_cell? _ _ (HCC.out 0 (by omega))
        have cc : ∀ i, i < 4 * pn → wr.cell? ⟨gq, i, none⟩ = some (.int .u8 (C i)) := fun i h => by
          rw [hb2.cell (p := ⟨gq, i, none⟩) (by show gq < wc.heap.size; omega), hbel.cell (p := ⟨gq, i, none⟩) hgq]
          exact HCC.out i h
        have c0 : wr.cell? ⟨gq, k * 4, none⟩ = some (.int .u8 (C (4 * k))) := by rw [Nat.mul_comm]; exact cc _ (by omega)
        have c1 : wr.cell? ⟨gq, k * 4 + 1, none⟩ = some (.int .u8 (C (4 * k + 1))) := by rw [Nat.mul_comm]; exact cc _ (by omega)
        have c2 : wr.cell? ⟨gq, k * 4 + 2, none⟩ = some (.int .u8 (C (4 * k + 2))) := by rw [Nat.mul_comm]; exact cc _ (by omega)
        have c3 : wr.cell? ⟨gq, k * 4 + 3, none⟩ = some (.int .u8 (C (4 * k + 3))) := by rw [Nat.mul_comm]; exact cc _ (by omega)
        clear cc
        have HNW := Lib.hid (World.news_of_block (heap_alloc_new (wr.alloc (.cells #[.int .u8 (C (4 * k)), .int .u8 (C (4 * k + 1)), .int .u8 (C (4 * k + 2)), .int .u8 (C (4 * k + 3))] 38)) (.cells #[col C k] 81)))
        go_wp2_with (at_builtin; refine wpList_append_lies _ rfl (.tmp 56) (.tmp 67) 76 rfl wc.heap.size 81 i0 .nilIface 1 16 Tryd.underlying76 hi hz0 hz1 hz2 rfl (by omega) _ k (cols C k) (by rfl) ((hq.alloc _).alloc _) ⟨wr.heap.size + 1, 0, none⟩ 1 1 [col C k] (by rfl) (by rfl) (by simpa [col] using HNW.out) (by simp [Value.oneCell', col]) (by omega) (by unfold maxLen; omega) (by omega) (by simp; omega) (wr.heap.size + 2) (by simp) ?_; intro g' cap' w1 hown' hgrow _ _)
        go_roundw
        case measure => simp [intOf]; omega
        case rel =>
          go_light
          exact ⟨k + 1, _, by omega, by go_num, rfl, by rw [cols_succ]; exact hown', ((hb2.alloc hsz _).alloc (by simp; omega) _).grown hgrow (by simp; omega) (fun q hv => (hq.lt q hv).1)⟩
      · obtain rfl : k = pn := by omega
        have HB5 : wr.heap[w.heap.size]? = _ := (hb2.block _ hbl).trans HBX.out
        have HR5 : wr.heap[r]? = _ := (hb2.block _ hrl).trans HRC.out
        have b5 : wr.cell? ⟨w.heap.size, 5, none⟩ = some (.int .i64 S) := (Lib.cell_of_heap HB5 5).trans rfl
        have r0 : wr.cell? ⟨r, 0, none⟩ = some (.int .i64 0) := (Lib.cell_of_heap HR5 0).trans rfl
        have r1 : wr.cell? ⟨r, 1, none⟩ = some (.int .i64 0) := (Lib.cell_of_heap HR5 1).trans rfl
        have r2 : wr.cell? ⟨r, 2, none⟩ = some (.int .i64 W) := (Lib.cell_of_heap HR5 2).trans rfl
        have r3 : wr.cell? ⟨r, 3, none⟩ = some (.int .i64 H) := (Lib.cell_of_heap HR5 3).trans rfl
        have hgl := (hown.lt g rfl)
        have hown2 : wr.ownsRow w.heap.size 5 1 (.slice (some ⟨g, 0, none⟩) n c) n (u8s xs) := hown.kept (row := none) ⟨hb2.os, hb2.tape, hb2.output, hb2.size, fun q hq _ => hb2.block q hq⟩ (by simp [Value.ownBlock])
        have hbelw : Below w.heap.size w wr := hbel.trans (hb2.mono hbel.size)
        clear HB5 HR5 hown
        obtain ⟨ao, nn, cc2, rfl⟩ := owns_slice hq
        go_wp2
        go_ret
        exact ⟨_, g, c, _, rfl, heap_alloc_new wr _, hown2.alloc _, (owns_mono hq hbel.size).alloc _, hbelw.size, hbelw.alloc hbelw.size _⟩

#print axioms image_pal
end Go.Proofs.YtfefgopomhhpfaaDoor
