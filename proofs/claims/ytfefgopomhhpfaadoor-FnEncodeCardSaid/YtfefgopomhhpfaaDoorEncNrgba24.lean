/- bmp.Encode at an opaque nrgba picture. -/
import Derived.Test.YtfefgopomhhpfaaDoorReady
import Derived.Test.YtfefgopomhhpfaaDoorEnc24
import Derived.Test.YtfefgopomhhpfaaDoorPalWords
import Derived.Deep.DeepCutAuto
import Derived.Deep.RegionHeld3
import Derived.RegionTactic
import Derived.BigRegion
namespace Go.Proofs.YtfefgopomhhpfaaDoor
open Go.RowKit

set_option maxHeartbeats 3200000 in
set_option maxRecDepth 100000 in
theorem bmp_nrgba24 (b mb gp n cp W H S T I : Nat) (lr : Int) (px : Nat → Nat → Int) (w : World) (hbk : w.heap[b]? = some (.cells #[.slice none 0 0, .int .i64 0, .int .i8 lr] 45 (0, 0)))
    (hm : w.heap[mb]? = some (.cells #[.slice (some ⟨gp, 0, none⟩) n cp, .int .i64 S, .int .i64 0, .int .i64 0, .int .i64 W, .int .i64 H] 94 (0, 0))) (hmb : mb ≠ b)
    (hW : 0 < W) (hW2 : W ≤ 40) (hH : 0 < H) (hH2 : H ≤ 40) (hS : S ≤ 10000) (hn : (H - 1) * S + 4 * W ≤ n) (hn2 : n ≤ 100000000) (hgb : gp ≠ b) (hT : T = (3 * W + 3) / 4 * 4) (hI : I = H * T)
    (hpx : ∀ y x, y < H → x < 4 * W → w.cell? ⟨gp, y * S + x, none⟩ = some (.int .u8 (px y x))) (hbd : ∀ y x, 0 ≤ px y x ∧ px y x < 256) (hop : opq px W H = true) :
    Calls Tryd.prog 8 #[.iface 49 (.pointer (some ⟨b, 0, none⟩)), .iface 85 (.pointer (some ⟨mb, 0, none⟩))] w (BmpOut b (hbytes (54 + (I : Int)) 54 W H 24 I ++ rowsDown (fun y => fullRow (row24 (px y)) (3 * W) T) H) w) := by
  have hml := Lib.lt_of_heap hm
  have hbl := Lib.lt_of_heap hbk
  have hgl : gp < w.heap.size := World.block_lt_of_cell? _ _ (hpx 0 0 hH (by omega))
  have HM := Lib.hid hm
  have HBK := Lib.hid hbk
  have HPX := Lib.hid hpx
  have HBD := Lib.hid hbd
  have hTb : T ≤ 160 := by omega
  have hTW : 3 * W ≤ T := by omega
  have hst : bits BinOp.andNot IntKind.i64 (3 * (W : Int) + 3) 3 = (T : Int) := by
    have := round4 (n := 3 * W + 3) (by omega)
    rw [← hT] at this
    exact this
  have hHT : (H : Int) * (T : Int) = (I : Int) := by rw [hI]; simp
  have hIb : I ≤ 6400 := by rw [hI]; exact Nat.le_trans (Nat.mul_le_mul hH2 hTb) (by omega)
  have HT := Lib.hid hT
  have HI := Lib.hid hI
  have HOP := Lib.hid hop
  clear hm hbk hpx hT hI hbd hop
  have hna := nil_bounds85
  have hme := method_bounds85
  have hnw := nil_write
  have hmw' := method_write
  have hta73 := assert_85_73
  have hta74 := assert_85_74
  have hta83 := assert_85_83
  have hta85 := assert_85_85
  go_enter Tryd.func8, Tryd.ntmps8
  go_wp2_with fail
  refine (bounds_nrgba mb _ S W H _ HM.out).mono ?_
  rintro e w1 ⟨rfl, hb1⟩
  go_wp2_with fail
  refine (size_any W H (by omega) (by omega) _).mono ?_
  rintro e w2 ⟨rfl, hb2⟩
  go_wp2_with fail
  have hb12 : Below w.heap.size w w2 := hb1.trans (hb2.mono hb1.size)
  have h3 := two_made hb12 W H #[.int .u8 66, .int .u8 77, .int .u32 54, .int .u16 0, .int .u16 0, .int .u32 54, .int .u32 40, .int .u32 W, .int .u32 H, .int .u16 1, .int .u16 0, .int .u32 0, .int .u32 0, .int .u32 0, .int .u32 0, .int .u32 0, .int .u32 0]
  generalize ((w2.alloc (.cells #[.int .i64 W, .int .i64 H] 60)).alloc (.cells #[.int .u8 66, .int .u8 77, .int .u32 54, .int .u16 0, .int .u16 0, .int .u32 54, .int .u32 40, .int .u32 W, .int .u32 H, .int .u16 1, .int .u16 0, .int .u32 0, .int .u32 0, .int .u32 0, .int .u32 0, .int .u32 0, .int .u32 0] 72)) = W0 at h3 ⊢
  generalize w2.heap.size = db at h3 ⊢
  clear hb1 hb2 hb12
  have hO := opaque_nrgba mb gp n cp W H S px W0 ((h3.below.block mb hml).trans HM.out) hW (by omega) hH (by omega) hS hn hn2 (fun y x hy hx => (h3.below.cell (p := ⟨gp, y * S + x, none⟩) hgl).trans (HPX.out y x hy hx))
  rw [HOP.out] at hO
  refine hO.mono ?_
  rintro e wr ⟨rfl, hb3⟩
  have h3' := h3.later hb3
  clear hO h3 hb3
  have cd0 : wr.cell? ⟨db, 0, none⟩ = some (.int .i64 W) := (Lib.cell_of_heap h3'.d 0).trans rfl
  have cd1 : wr.cell? ⟨db, 1, none⟩ = some (.int .i64 H) := (Lib.cell_of_heap h3'.d 1).trans rfl
  have ch1 : wr.cell? ⟨db + 1, 2, none⟩ = some (.int .u32 54) := (Lib.cell_of_heap h3'.h 2).trans rfl
  have chb : wr.cell? ⟨db + 1, 10, none⟩ = some (.int .u16 0) := (Lib.cell_of_heap h3'.h 10).trans rfl
  have chi : wr.cell? ⟨db + 1, 12, none⟩ = some (.int .u32 0) := (Lib.cell_of_heap h3'.h 12).trans rfl
  have zh : ∀ i, wr.frozen? ⟨db + 1, i, none⟩ = false := fun i => Lib.frozen_of_heap h3'.h i
  go_wp2_with fail
  go_big_region
  go_upto_region 65 with (fail)
  have hR : Two w (((wr.setCell ⟨db + 1, 10, none⟩ (.int .u16 24)).setCell ⟨db + 1, 12, none⟩ (.int .u32 I)).setCell ⟨db + 1, 2, none⟩ (.int .u32 (54 + (I : Int)))).drew db W H (hcells (54 + (I : Int)) 54 W H 24 I) :=
    (((h3'.set 10 _).set 12 _).set 2 _).drew
  generalize (((wr.setCell ⟨db + 1, 10, none⟩ (.int .u16 24)).setCell ⟨db + 1, 12, none⟩ (.int .u32 I)).setCell ⟨db + 1, 2, none⟩ (.int .u32 (54 + (I : Int)))).drew = W1 at hR ⊢
  clear h3' cd0 cd1 ch1 chb chi zh
  have hwd := hR.own
  have hbw : b < W1.heap.size := by have := hR.below.size; omega
  have hmw : mb < W1.heap.size := by have := hR.below.size; omega
  have hdw : db < W1.heap.size := Lib.lt_of_heap hR.d
  go_cut [22] (fun s22 wx => ∃ gB, s22 = .nilIface ∧ Buf wx b gB (hbytes (54 + (I : Int)) (54) W H (24) ((I : Int))) ∧ W1.heap.size ≤ gB ∧ Keep (· = b) W1 wx)
  case first =>
    as_aux_lemma =>
    go_region_held3 (fun _ => True) (trivial)
      (first
        | (go_at_call 17
           refine (header_any (db + 1) (54 + (I : Int)) (54) W H (24) ((I : Int)) _ ?_ (by omega) (by omega) (by omega) (by omega) (by omega) (by omega) (by omega) (by omega) (by omega) (by omega) (by omega) (by omega)).mono ?_
           exact hR.h
           rintro e w3 ⟨g3, c3, rfl, hown3, hb3⟩
           have hg3 : W1.heap.size ≤ g3 := (hown3.lt g3 rfl).1
           have hb3' : Below W1.heap.size W1 w3 := ⟨hb3.os, hb3.tape, hb3.output, hb3.size, hb3.block⟩)
        | (go_at_call 48
           have t0 : w3.heap[b]? = some (.cells #[.slice none 0 0, .int .i64 0, .int .i8 lr] 45 (0, 0)) := (hb3'.block b hbw).trans ((hR.below.block b hbl).trans HBK.out)
           have t1 : g3 ≠ b := by omega
           have t2 := owns_reads hown3
           have t3 := write_first b lr (hbytes (54 + (I : Int)) (54) W H (24) ((I : Int))) ⟨g3, 0, none⟩ 54 c3 w3 t0 (hbytes_length _ _ _ _ _ _) (by omega) (by omega) t1 t2
           refine t3.mono ?_
           rintro e w4 ⟨rfl, gB, hBuf4, hgB, hK4⟩))
    all_goals
      (go_wp2_with fail
       go_meet
       go_light
       have hz3 : W1.heap.size ≤ w3.heap.size := hb3'.size
       exact ⟨gB, rfl, hBuf4, Nat.le_trans hz3 hgB, (Keep.ofBelow hb3').trans hK4⟩)
  case rest =>
    obtain ⟨gB, rfl, hBuf4, hgB', hK4'⟩ := hcut
    as_aux_lemma =>
    have HB4 := hbytes_length (54 + (I : Int)) (54) W H (24) ((I : Int))
    have HBL := Lib.hid HB4
    clear HB4
    have hK5' : Keep (May W1 b gB) W1 wc := hK4'.weaken fun q _ h => .inl h
    clear hK4' 
    have nb : ¬ May W1 b gB mb := by unfold May; omega
    have nd : ¬ May W1 b gB db := by unfold May; omega
    have np : ¬ May W1 b gB gp := by unfold May; omega
    have hmm : wc.heap[mb]? = _ := (hK5'.block mb hmw nb).trans ((hR.below.block mb hml).trans HM.out)
    have hdd : wc.heap[db]? = _ := (hK5'.block db hdw nd).trans hR.d
    have cm0 : wc.cell? ⟨mb, 0, none⟩ = some (.slice (some ⟨gp, 0, none⟩) n cp) := (Lib.cell_of_heap hmm 0).trans rfl
    have cm1 : wc.cell? ⟨mb, 1, none⟩ = some (.int .i64 S) := (Lib.cell_of_heap hmm 1).trans rfl
    have ce0 : wc.cell? ⟨db, 0, none⟩ = some (.int .i64 W) := (Lib.cell_of_heap hdd 0).trans rfl
    have ce1 : wc.cell? ⟨db, 1, none⟩ = some (.int .i64 H) := (Lib.cell_of_heap hdd 1).trans rfl
    have hgpw : gp < W1.heap.size := Nat.lt_of_lt_of_le hgl hR.below.size
    have HPY : Hid (∀ y x, y < H → x < 4 * W → wc.cell? ⟨gp, y * S + x, none⟩ = some (.int .u8 (px y x))) := fun y x hy hx => (hK5'.cell (p := ⟨gp, y * S + x, none⟩) hgpw np).trans ((hR.below.cell (p := ⟨gp, y * S + x, none⟩) hgl).trans (HPX.out y x hy hx))
    have HMM := Lib.hid hmm
    have HDD := Lib.hid hdd
    have hsz5 : W1.heap.size ≤ wc.heap.size := hK5'.size
    clear hmm hdd
    have z1 : ((W : Int) == 0) = false := by rw [beq_eq_false_iff_ne]; omega
    have z2 : ((H : Int) == 0) = false := by rw [beq_eq_false_iff_ne]; omega
    go_wp2_with fail
    go_region_held3 (fun w' => w'.cell? ⟨mb, 0, none⟩ = some (.slice (some ⟨gp, 0, none⟩) n cp) ∧ w'.cell? ⟨mb, 1, none⟩ = some (.int .i64 S) ∧ w'.cell? ⟨db, 0, none⟩ = some (.int .i64 W) ∧ w'.cell? ⟨db, 1, none⟩ = some (.int .i64 H)) (go_keep)
      (first
        | (go_at_call 20
           refine (nrgba24 b gB gp (hbytes (54 + (I : Int)) (54) W H (24) ((I : Int))) n cp W H S T px _ hBuf4.drew (by rw [HBL.out]; omega) hgb (by omega) (by omega) (by omega) hW hH (by omega) hn hn2 HPY.out HBD.out (by rw [HBL.out, Nat.mul_comm T H, ← HI.out]; omega)).mono ?_
           rintro e w6 ⟨rfl, g6, hBuf6, hg6, hK6⟩
           have ng : ¬ May wc.drew b gB mb := by unfold May; show ¬ (mb = b ∨ mb = gB ∨ wc.heap.size ≤ mb); omega
           have nh : ¬ May wc.drew b gB db := by unfold May; show ¬ (db = b ∨ db = gB ∨ wc.heap.size ≤ db); omega
           have cn0 : w6.cell? ⟨mb, 0, none⟩ = some (.slice (some ⟨gp, 0, none⟩) n cp) := (hK6.cell (p := ⟨mb, 0, none⟩) (by show mb < wc.heap.size; omega) ng).trans cm0
           have cn1 : w6.cell? ⟨mb, 1, none⟩ = some (.int .i64 S) := (hK6.cell (p := ⟨mb, 1, none⟩) (by show mb < wc.heap.size; omega) ng).trans cm1
           have cn2 : w6.cell? ⟨db, 0, none⟩ = some (.int .i64 W) := (hK6.cell (p := ⟨db, 0, none⟩) (by show db < wc.heap.size; omega) nh).trans ce0
           have cn3 : w6.cell? ⟨db, 1, none⟩ = some (.int .i64 H) := (hK6.cell (p := ⟨db, 1, none⟩) (by show db < wc.heap.size; omega) nh).trans ce1))
    go_wp2
    go_ret
    have hg6' : g6 = gB ∨ wc.heap.size ≤ g6 := hg6
    refine ⟨rfl, g6, hBuf6, ?_, ?_⟩
    · have := hR.below.size; omega
    · have k1 : Keep (· = b) w W1 := Keep.ofBelow hR.below
      have k2 : Keep (May w b gB) w w6 := (k1.weaken fun q _ h => .inl h).trans ((hK5'.weaken fun q hq hs => by unfold May at *; have := hR.below.size; omega).trans ⟨hK6.os, hK6.tape, hK6.output, hK6.size, fun q hq hs => hK6.block q hq (fun h' => hs (by unfold May at *; have := hR.below.size; have h'' : q = b ∨ q = gB ∨ wc.heap.size ≤ q := h'; omega))⟩)
      exact k2.weaken fun q hq hs => by unfold May at hs; have := hR.below.size; omega

#print axioms bmp_nrgba24
end Go.Proofs.YtfefgopomhhpfaaDoor
