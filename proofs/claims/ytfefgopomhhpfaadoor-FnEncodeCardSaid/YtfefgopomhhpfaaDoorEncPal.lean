/- bmp.Encode at a paletted picture. -/
import Derived.Test.YtfefgopomhhpfaaDoorReady
import Derived.Test.YtfefgopomhhpfaaDoorPalWords
import Derived.Deep.DeepCutAuto
import Derived.Deep.RegionHeld3
import Derived.RegionTactic
import Derived.BigRegion
namespace Go.Proofs.YtfefgopomhhpfaaDoor
open Go.RowKit

theorem pal_cells {w : World} {B pn : Nat} {q : Value} {C : Nat → Int} (h : w.ownsRow B 81 1 q pn (cols C pn)) :
    ∃ qa cq, q = .slice qa pn cq ∧ ∀ i, i < pn → ∃ gq, qa = some ⟨gq, 0, none⟩ ∧ gq < w.heap.size ∧ w.cell? ⟨gq, i, none⟩ = some (col C i) := by
  obtain ⟨a, l, c, rfl⟩ := owns_slice h
  have hl : l = pn := by
    rcases h.2 with ⟨h1, h2⟩ | ⟨g, cap, cur, h1, h2⟩
    · injection h1 with h3 h4 h5
      omega
    · injection h1
  subst hl
  refine ⟨a, c, rfl, fun i hi => ?_⟩
  rcases h.2 with ⟨h1, h2⟩ | ⟨g, cap, cur, h1, h2⟩
  · omega
  · injection h1 with h3 h4 h5
    subst h3
    refine ⟨g, rfl, (h.lt g rfl).2, ?_⟩
    have h7 := h.cells (g := g) rfl i (col C i) (by rw [cols, List.getElem?_map, List.getElem?_range hi]; rfl)
    have hadd : (⟨g, 0, none⟩ : Addr).add i = ⟨g, i, none⟩ := by unfold Addr.add; split <;> simp_all
    rw [hadd] at h7
    exact h7
theorem Two.keepOr {w W0 W1 : World} {db W H : Nat} {hc : Array Value} (h : Two w W0 db W H hc) (k : Keep (fun r => r = db + 1 + 1 ∨ W0.heap.size ≤ r) W0 W1) : Two w W1 db W H hc :=
  have h1 := Lib.lt_of_heap h.d
  have h2 := Lib.lt_of_heap h.h
  ⟨(k.block _ h1 (by omega)).trans h.d, (k.block _ h2 (by omega)).trans h.h, h.own, h.below.trans (k.toBelow h.below.size (fun r hr => by have := h.own; have := h.below.size; omega))⟩

set_option maxHeartbeats 3200000 in
set_option maxRecDepth 100000 in
theorem bmp_pal (b mb gp n cp W H S T I B pn : Nat) (lr : Int) (px : Nat → Nat → Int) (C : Nat → Int) (q : Value) (w : World) (hbk : w.heap[b]? = some (.cells #[.slice none 0 0, .int .i64 0, .int .i8 lr] 45 (0, 0)))
    (hm : w.heap[mb]? = some (.cells #[.slice (some ⟨gp, 0, none⟩) n cp, .int .i64 S, .int .i64 0, .int .i64 0, .int .i64 W, .int .i64 H, q] 78 (0, 0))) (hmb : mb ≠ b)
    (hq : w.ownsRow B 81 1 q pn (cols C pn)) (hpn : pn ≤ 256) (hCb : ∀ j, 0 ≤ C j ∧ C j < 256)
    (hW : 0 < W) (hW2 : W ≤ 40) (hH : 0 < H) (hH2 : H ≤ 40) (hn : (H - 1) * S + W ≤ cp) (hn2 : cp ≤ 9223372036854775807) (hgb : gp ≠ b) (hT : T = (W + 3) / 4 * 4) (hI : I = H * T)
    (hpx : ∀ y x, y < H → x < W → w.cell? ⟨gp, y * S + x, none⟩ = some (.int .u8 (px y x))) :
    Calls Tryd.prog 8 #[.iface 49 (.pointer (some ⟨b, 0, none⟩)), .iface 74 (.pointer (some ⟨mb, 0, none⟩))] w (BmpOut b ((hbytes (54 + (1024 + (I : Int))) 1078 W H 8 I ++ fullRow (palF C) (pn * 4) 1024) ++ rowsDown (padRow px W T) H) w) := by
  obtain ⟨qa, cq, rfl, hqc⟩ := pal_cells hq
  have HQ := Lib.hid hqc
  have HCB := Lib.hid hCb
  clear hq hqc hCb
  have hml := Lib.lt_of_heap hm
  have hbl := Lib.lt_of_heap hbk
  have hgl : gp < w.heap.size := World.block_lt_of_cell? _ _ (hpx 0 0 hH hW)
  have HM := Lib.hid hm
  have HBK := Lib.hid hbk
  have HPX := Lib.hid hpx
  obtain ⟨M, hmk, hMr⟩ := make1024
  have HMR := Lib.hid hMr
  have hTb : T ≤ 43 := by omega
  have hTW : W ≤ T := by omega
  have hst : bits BinOp.andNot IntKind.i64 ((W : Int) + 3) 3 = (T : Int) := by
    have := round4 (n := W + 3) (by omega)
    rw [← hT] at this
    exact this
  have hHT : (H : Int) * (T : Int) = (I : Int) := by rw [hI]; simp
  have hIb : I ≤ 1720 := by rw [hI]; exact Nat.le_trans (Nat.mul_le_mul hH2 hTb) (by omega)
  have HT := Lib.hid hT
  have HI := Lib.hid hI
  clear hMr hm hbk hpx hT hI
  have hna := nil_bounds74
  have hme := method_bounds74
  have hnw := nil_write
  have hmw' := method_write
  have hta73 := assert_74_73
  have hta := assert_74_74
  have hnr := nil_rgba
  have hmr := method_rgba
  have hns := fun (W' : World) (a : Option Addr) (n c : Nat) => run_neq_slice_nil_any (P := Tryd.prog) W' 22 5 a n c 0 0 Tryd.underlying22
  go_enter Tryd.func8, Tryd.ntmps8
  go_wp2_with fail
  refine (bounds_pal mb _ _ S W H _ HM.out).mono ?_
  rintro e w1 ⟨rfl, hb1⟩
  go_wp2_with fail
  refine (size_any W H (by omega) (by omega) _).mono ?_
  rintro e w2 ⟨rfl, hb2⟩
  go_wp2_with fail
  have hb12 : Below w.heap.size w w2 := hb1.trans (hb2.mono hb1.size)
  have h3 := (two_made hb12 W H #[.int .u8 66, .int .u8 77, .int .u32 54, .int .u16 0, .int .u16 0, .int .u32 54, .int .u32 40, .int .u32 W, .int .u32 H, .int .u16 1, .int .u16 0, .int .u32 0, .int .u32 0, .int .u32 0, .int .u32 0, .int .u32 0, .int .u32 0]).alloc (.cells M 5)
  have hr0 : ((((w2.alloc (.cells #[.int .i64 W, .int .i64 H] 60)).alloc (.cells #[.int .u8 66, .int .u8 77, .int .u32 54, .int .u16 0, .int .u16 0, .int .u32 54, .int .u32 40, .int .u32 W, .int .u32 H, .int .u16 1, .int .u16 0, .int .u32 0, .int .u32 0, .int .u32 0, .int .u32 0, .int .u32 0, .int .u32 0] 72)).alloc (.cells M 5)).rowIs (w2.heap.size + 1 + 1) 5 1024 (part (palF C) (fun _ => 0) 0)) := by
    have := (HMR.out ((w2.alloc (.cells #[.int .i64 W, .int .i64 H] 60)).alloc (.cells #[.int .u8 66, .int .u8 77, .int .u32 54, .int .u16 0, .int .u16 0, .int .u32 54, .int .u32 40, .int .u32 W, .int .u32 H, .int .u16 1, .int .u16 0, .int .u32 0, .int .u32 0, .int .u32 0, .int .u32 0, .int .u32 0, .int .u32 0] 72))).congr (g := part (palF C) (fun _ => 0) 0) (fun i _ => by simp [part])
    simpa using this
  generalize (((w2.alloc (.cells #[.int .i64 W, .int .i64 H] 60)).alloc (.cells #[.int .u8 66, .int .u8 77, .int .u32 54, .int .u16 0, .int .u16 0, .int .u32 54, .int .u32 40, .int .u32 W, .int .u32 H, .int .u16 1, .int .u16 0, .int .u32 0, .int .u32 0, .int .u32 0, .int .u32 0, .int .u32 0, .int .u32 0] 72)).alloc (.cells M 5)) = W0 at h3 hr0 ⊢
  generalize w2.heap.size = db at h3 hr0 ⊢
  clear hb1 hb2 hb12 hmk
  go_loopw [13] (fun i wr => ∃ k : Nat, k ≤ pn ∧ i = .int .i64 k ∧ wr.rowIs (db + 1 + 1) 5 1024 (part (palF C) (fun _ => 0) (k * 4)) ∧ Keep (fun r => r = db + 1 + 1 ∨ W0.heap.size ≤ r) W0 wr) (fun i _ => pn - (intOf i).toNat)
  case atStart => exact ⟨0, Nat.zero_le _, rfl, by rw [Nat.zero_mul]; exact hr0, Keep.refl _ _⟩
  case round =>
    obtain ⟨k, hk, rfl, hr, hkp⟩ := hrel
    have hz0 : w.heap.size ≤ W0.heap.size := h3.below.size
    have hz1 := h3.own
    have hz2 := hr0.lt
    have c6 : wr.cell? ⟨mb, 6, none⟩ = some (.slice qa pn cq) := ((hkp.cell (p := ⟨mb, 6, none⟩) (by show mb < W0.heap.size; omega) (by show ¬ (mb = db + 1 + 1 ∨ W0.heap.size ≤ mb); omega)).trans (h3.below.cell (p := ⟨mb, 6, none⟩) hml)).trans ((Lib.cell_of_heap HM.out 6).trans rfl)
    by_cases hlt : k < pn
    · as_aux_lemma =>
      obtain ⟨gq, rfl, hgq, hcc⟩ := HQ.out k hlt
      have cc : wr.cell? ⟨gq, k, none⟩ = some (col C k) := ((hkp.cell (p := ⟨gq, k, none⟩) (by show gq < W0.heap.size; omega) (by show ¬ (gq = db + 1 + 1 ∨ W0.heap.size ≤ gq); omega)).trans (h3.below.cell (p := ⟨gq, k, none⟩) hgq)).trans hcc
      have e0 := Lib.hid (palF_0 C k)
      have e1 := Lib.hid (palF_1 C k)
      have e2 := Lib.hid (palF_2 C k)
      have e3 := Lib.hid (palF_3 C k)
      obtain ⟨r0, r1⟩ := HCB.out (4 * k)
      obtain ⟨g0, g1⟩ := HCB.out (4 * k + 1)
      obtain ⟨b0, b1⟩ := HCB.out (4 * k + 2)
      obtain ⟨a0, a1⟩ := HCB.out (4 * k + 3)
      have m0 := mulA_lo b0 a0
      have m0' := mulA_hi b1 a0 a1
      have m1 := mulA_lo g0 a0
      have m1' := mulA_hi g1 a0 a1
      have m2 := mulA_lo r0 a0
      have m2' := mulA_hi r1 a0 a1
      have hcall := fun W' : World => rgba_mul (C (4 * k)) (C (4 * k + 1)) (C (4 * k + 2)) (C (4 * k + 3)) W' r0 r1 g0 g1 b0 b1 a0 a1
      unfold col at cc
      generalize mulA (C (4 * k + 2)) (C (4 * k + 3)) = x0 at e0 m0 m0' hcall
      generalize mulA (C (4 * k + 1)) (C (4 * k + 3)) = x1 at e1 m1 m1' hcall
      generalize mulA (C (4 * k)) (C (4 * k + 3)) = x2 at e2 m2 m2' hcall
      generalize C (4 * k) = y0 at cc hcall r0 r1
      generalize C (4 * k + 1) = y1 at cc hcall g0 g1
      generalize C (4 * k + 2) = y2 at cc hcall b0 b1
      generalize C (4 * k + 3) = y3 at cc hcall a0 a1
      clear hgq hcc
      go_wp2_with fail
      refine (hcall _).mono ?_
      clear hcall
      rintro e wq ⟨rfl, hbq⟩
      have hrq : wq.rowIs (db + 1 + 1) 5 1024 (part (palF C) (fun _ => 0) (k * 4)) := hr.of_block (hbq.block _ hr.lt)
      have hkq : Keep (fun r => r = db + 1 + 1 ∨ W0.heap.size ≤ r) W0 wq := hkp.trans (Keep.ofBelow hbq)
      clear c6 cc hbq hr hkp
      have s0 : wq.cell? ⟨db + 1 + 1, k * 4, none⟩ = some (part (palF C) (fun _ => 0) (k * 4) (k * 4)) := hrq.cell (by omega)
      have s1 : wq.cell? ⟨db + 1 + 1, k * 4 + 1, none⟩ = some (part (palF C) (fun _ => 0) (k * 4) (k * 4 + 1)) := hrq.cell (by omega)
      have s2 : wq.cell? ⟨db + 1 + 1, k * 4 + 2, none⟩ = some (part (palF C) (fun _ => 0) (k * 4) (k * 4 + 2)) := hrq.cell (by omega)
      have s3 : wq.cell? ⟨db + 1 + 1, k * 4 + 3, none⟩ = some (part (palF C) (fun _ => 0) (k * 4) (k * 4 + 3)) := hrq.cell (by omega)
      have z0 : ∀ i, wq.frozen? ⟨db + 1 + 1, i, none⟩ = false := hrq.frozen
      generalize part (palF C) (fun _ => 0) (k * 4) (k * 4) = v0 at s0
      generalize part (palF C) (fun _ => 0) (k * 4) (k * 4 + 1) = v1 at s1
      generalize part (palF C) (fun _ => 0) (k * 4) (k * 4 + 2) = v2 at s2
      generalize part (palF C) (fun _ => 0) (k * 4) (k * 4 + 3) = v3 at s3
      go_wp2
      go_roundw
      case measure => simp [intOf]; omega
      case rel =>
        go_light
        refine ⟨k + 1, by omega, by go_num, ?_, (((hkq.setCell (p := ⟨db + 1 + 1, _, none⟩) (.inl (.inl rfl)) _).setCell (p := ⟨db + 1 + 1, _, none⟩) (.inl (.inl rfl)) _).setCell (p := ⟨db + 1 + 1, _, none⟩) (.inl (.inl rfl)) _).setCell (p := ⟨db + 1 + 1, _, none⟩) (.inl (.inl rfl)) _⟩
        rw [Nat.succ_mul]
        exact fill4' hrq (by rw [e0.out]) (by rw [e1.out]) (by rw [e2.out]) e3.out.symm
    · have hkn : k = pn := by omega
      rw [hkn] at hr
      clear hkn
      have h3' := h3.keepOr hkp
      clear h3
      have cd0 : wr.cell? ⟨db, 0, none⟩ = some (.int .i64 W) := (Lib.cell_of_heap h3'.d 0).trans rfl
      have cd1 : wr.cell? ⟨db, 1, none⟩ = some (.int .i64 H) := (Lib.cell_of_heap h3'.d 1).trans rfl
      have ch1 : wr.cell? ⟨db + 1, 2, none⟩ = some (.int .u32 54) := (Lib.cell_of_heap h3'.h 2).trans rfl
      have ch5 : wr.cell? ⟨db + 1, 5, none⟩ = some (.int .u32 54) := (Lib.cell_of_heap h3'.h 5).trans rfl
      have chb : wr.cell? ⟨db + 1, 10, none⟩ = some (.int .u16 0) := (Lib.cell_of_heap h3'.h 10).trans rfl
      have chi : wr.cell? ⟨db + 1, 12, none⟩ = some (.int .u32 0) := (Lib.cell_of_heap h3'.h 12).trans rfl
      have zh : ∀ i, wr.frozen? ⟨db + 1, i, none⟩ = false := fun i => Lib.frozen_of_heap h3'.h i
      go_wp2_with fail
      go_big_region
      go_upto_region 65 with (fail)
      have hR : Two w ((((wr.setCell ⟨db + 1, 12, none⟩ (.int .u32 I)).setCell ⟨db + 1, 2, none⟩ (.int .u32 (54 + (1024 + (I : Int))))).setCell ⟨db + 1, 5, none⟩ (.int .u32 1078)).setCell ⟨db + 1, 10, none⟩ (.int .u16 8)).drew db W H (hcells (54 + (1024 + (I : Int))) 1078 W H 8 I) :=
        ((((h3'.set 12 _).set 2 _).set 5 _).set 10 _).drew
      have hpal : ((((wr.setCell ⟨db + 1, 12, none⟩ (.int .u32 I)).setCell ⟨db + 1, 2, none⟩ (.int .u32 (54 + (1024 + (I : Int))))).setCell ⟨db + 1, 5, none⟩ (.int .u32 1078)).setCell ⟨db + 1, 10, none⟩ (.int .u16 8)).drew.rowIs (db + 1 + 1) 5 1024 (part (palF C) (fun _ => 0) (pn * 4)) :=
        ((((hr.setOther (a := ⟨db + 1, 12, none⟩) (by show db + 1 + 1 ≠ db + 1; omega) _).setOther (a := ⟨db + 1, 2, none⟩) (by show db + 1 + 1 ≠ db + 1; omega) _).setOther (a := ⟨db + 1, 5, none⟩) (by show db + 1 + 1 ≠ db + 1; omega) _).setOther (a := ⟨db + 1, 10, none⟩) (by show db + 1 + 1 ≠ db + 1; omega) _).drew
      generalize ((((wr.setCell ⟨db + 1, 12, none⟩ (.int .u32 I)).setCell ⟨db + 1, 2, none⟩ (.int .u32 (54 + (1024 + (I : Int))))).setCell ⟨db + 1, 5, none⟩ (.int .u32 1078)).setCell ⟨db + 1, 10, none⟩ (.int .u16 8)).drew = W1 at hR hpal ⊢
      clear h3' cd0 cd1 ch1 ch5 chb chi zh hr hkp hr0
      have hwd := hR.own
      have hbw : b < W1.heap.size := by have := hR.below.size; omega
      have hmw : mb < W1.heap.size := by have := hR.below.size; omega
      have hdw : db < W1.heap.size := Lib.lt_of_heap hR.d
      go_cut [22] (fun s22 wx => ∃ gB, s22 = .nilIface ∧ Buf wx b gB (hbytes (54 + (1024 + (I : Int))) (1078) W H (8) ((I : Int))) ∧ W1.heap.size ≤ gB ∧ Keep (· = b) W1 wx)
      case first =>
        as_aux_lemma =>
        go_region_held3 (fun _ => True) (trivial)
          (first
            | (go_at_call 17
               refine (header_any (db + 1) (54 + (1024 + (I : Int))) (1078) W H (8) ((I : Int)) _ ?_ (by omega) (by omega) (by omega) (by omega) (by omega) (by omega) (by omega) (by omega) (by omega) (by omega) (by omega) (by omega)).mono ?_
               exact hR.h
               rintro e w3 ⟨g3, c3, rfl, hown3, hb3⟩
               have hg3 : W1.heap.size ≤ g3 := (hown3.lt g3 rfl).1
               have hb3' : Below W1.heap.size W1 w3 := ⟨hb3.os, hb3.tape, hb3.output, hb3.size, hb3.block⟩)
            | (go_at_call 48
               have t0 : w3.heap[b]? = some (.cells #[.slice none 0 0, .int .i64 0, .int .i8 lr] 45 (0, 0)) := (hb3'.block b hbw).trans ((hR.below.block b hbl).trans HBK.out)
               have t1 : g3 ≠ b := by omega
               have t2 := owns_reads hown3
               have t3 := write_first b lr (hbytes (54 + (1024 + (I : Int))) (1078) W H (8) ((I : Int))) ⟨g3, 0, none⟩ 54 c3 w3 t0 (hbytes_length _ _ _ _ _ _) (by omega) (by omega) t1 t2
               refine t3.mono ?_
               rintro e w4 ⟨rfl, gB, hBuf4, hgB, hK4⟩))
        all_goals
          (go_wp2_with fail
           go_meet
           go_light
           have hz3 : W1.heap.size ≤ w3.heap.size := hb3'.size
           exact ⟨gB, rfl, hBuf4, Nat.le_trans hz3 hgB, (Keep.ofBelow hb3').trans hK4⟩)
      case rest =>
        obtain ⟨gB, rfl, hBuf4, hgB', hK4'⟩ := hcut
        as_aux_lemma =>
        have HB4 := hbytes_length (54 + (1024 + (I : Int))) (1078) W H (8) ((I : Int))
        have HBL := Lib.hid HB4
        clear HB4
        have hPw : db + 1 + 1 < W1.heap.size := hpal.lt
        have hpal4 : wc.rowIs (db + 1 + 1) 5 1024 (part (palF C) (fun _ => 0) (pn * 4)) := hpal.of_block (hK4'.block _ hPw (by omega))
        go_wp2_with fail
        refine (write_buf b gB (hbytes (54 + (1024 + (I : Int))) (1078) W H (8) ((I : Int))) (fullRow (palF C) (pn * 4) 1024) ⟨db + 1 + 1, 0, none⟩ 1024 _ _ hBuf4 (by rw [HBL.out]; omega) (fullRow_length _ _ _) (by omega) (by show db + 1 + 1 ≠ b; omega) (by show db + 1 + 1 ≠ gB; omega) (part_reads hpal4 (fun _ _ _ => rfl)) (by rw [HBL.out]; omega)).mono ?_
        rintro e w5 ⟨rfl, gC, hBuf5, hgC, hK5⟩
        have hK5' : Keep (May W1 b gB) W1 w5 := (hK4'.weaken fun q _ h => .inl h).trans (hK5.weaken fun q _ hs => by unfold May; omega)
        have hz4 : W1.heap.size ≤ wc.heap.size := hK4'.size
        have hgC' : W1.heap.size ≤ gC := by omega
        have hlen5 : (hbytes (54 + (1024 + (I : Int))) (1078) W H (8) ((I : Int)) ++ fullRow (palF C) (pn * 4) 1024).length = 1078 := by rw [List.length_append, HBL.out, fullRow_length]
        have HL5 := Lib.hid hlen5
        clear hlen5 hK4' hK5 hpal4
        have nb : ¬ May W1 b gB mb := by unfold May; omega
        have nd : ¬ May W1 b gB db := by unfold May; omega
        have np : ¬ May W1 b gB gp := by unfold May; omega
        have hmm : w5.heap[mb]? = _ := (hK5'.block mb hmw nb).trans ((hR.below.block mb hml).trans HM.out)
        have hdd : w5.heap[db]? = _ := (hK5'.block db hdw nd).trans hR.d
        have cm0 : w5.cell? ⟨mb, 0, none⟩ = some (.slice (some ⟨gp, 0, none⟩) n cp) := (Lib.cell_of_heap hmm 0).trans rfl
        have cm1 : w5.cell? ⟨mb, 1, none⟩ = some (.int .i64 S) := (Lib.cell_of_heap hmm 1).trans rfl
        have ce0 : w5.cell? ⟨db, 0, none⟩ = some (.int .i64 W) := (Lib.cell_of_heap hdd 0).trans rfl
        have ce1 : w5.cell? ⟨db, 1, none⟩ = some (.int .i64 H) := (Lib.cell_of_heap hdd 1).trans rfl
        have hgpw : gp < W1.heap.size := Nat.lt_of_lt_of_le hgl hR.below.size
        have HPY : Hid (∀ y x, y < H → x < W → w5.cell? ⟨gp, y * S + x, none⟩ = some (.int .u8 (px y x))) := fun y x hy hx => (hK5'.cell (p := ⟨gp, y * S + x, none⟩) hgpw np).trans ((hR.below.cell (p := ⟨gp, y * S + x, none⟩) hgl).trans (HPX.out y x hy hx))
        have HMM := Lib.hid hmm
        have HDD := Lib.hid hdd
        have hsz5 : W1.heap.size ≤ w5.heap.size := hK5'.size
        clear hmm hdd
        have z1 : ((W : Int) == 0) = false := by rw [beq_eq_false_iff_ne]; omega
        have z2 : ((H : Int) == 0) = false := by rw [beq_eq_false_iff_ne]; omega
        go_wp2_with fail
        go_region_held3 (fun w' => w'.cell? ⟨mb, 0, none⟩ = some (.slice (some ⟨gp, 0, none⟩) n cp) ∧ w'.cell? ⟨mb, 1, none⟩ = some (.int .i64 S) ∧ w'.cell? ⟨db, 0, none⟩ = some (.int .i64 W) ∧ w'.cell? ⟨db, 1, none⟩ = some (.int .i64 H)) (go_keep)
          (first
            | (go_at_call 18
               refine (pal_any b gC gp (hbytes (54 + (1024 + (I : Int))) (1078) W H (8) ((I : Int)) ++ fullRow (palF C) (pn * 4) 1024) n cp W H S T px _ hBuf5.drew (by rw [HL5.out]; omega) hgb (by omega) (by omega) (by omega) hW hH (by omega) (by omega) (by omega) HPY.out (by rw [HL5.out, Nat.mul_comm T H, ← HI.out]; omega)).mono ?_
               rintro e w6 ⟨rfl, g6, hBuf6, hg6, hK6⟩
               have ng : ¬ May w5.drew b gC mb := by unfold May; show ¬ (mb = b ∨ mb = gC ∨ w5.heap.size ≤ mb); omega
               have nh : ¬ May w5.drew b gC db := by unfold May; show ¬ (db = b ∨ db = gC ∨ w5.heap.size ≤ db); omega
               have cn0 : w6.cell? ⟨mb, 0, none⟩ = some (.slice (some ⟨gp, 0, none⟩) n cp) := (hK6.cell (p := ⟨mb, 0, none⟩) (by show mb < w5.heap.size; omega) ng).trans cm0
               have cn1 : w6.cell? ⟨mb, 1, none⟩ = some (.int .i64 S) := (hK6.cell (p := ⟨mb, 1, none⟩) (by show mb < w5.heap.size; omega) ng).trans cm1
               have cn2 : w6.cell? ⟨db, 0, none⟩ = some (.int .i64 W) := (hK6.cell (p := ⟨db, 0, none⟩) (by show db < w5.heap.size; omega) nh).trans ce0
               have cn3 : w6.cell? ⟨db, 1, none⟩ = some (.int .i64 H) := (hK6.cell (p := ⟨db, 1, none⟩) (by show db < w5.heap.size; omega) nh).trans ce1))
        go_wp2
        go_ret
        have hg6' : g6 = gC ∨ w5.heap.size ≤ g6 := hg6
        refine ⟨rfl, g6, hBuf6, ?_, ?_⟩
        · have := hR.below.size; omega
        · have k1 : Keep (· = b) w W1 := Keep.ofBelow hR.below
          have k2 : Keep (May w b gC) w w6 := (k1.weaken fun q _ h => .inl h).trans ((hK5'.weaken fun q hq hs => by unfold May at *; have := hR.below.size; omega).trans ⟨hK6.os, hK6.tape, hK6.output, hK6.size, fun q hq hs => hK6.block q hq (fun h' => hs (by unfold May at *; have := hR.below.size; have h'' : q = b ∨ q = gC ∨ w5.heap.size ≤ q := h'; omega))⟩)
          exact k2.weaken fun q hq hs => by unfold May at hs; have := hR.below.size; omega

#print axioms bmp_pal
end Go.Proofs.YtfefgopomhhpfaaDoor
