/- spec.Encoded: a gray picture. -/
import Derived.Test.YtfefgopomhhpfaaDoorPendLaw
import Derived.Test.YtfefgopomhhpfaaDoorCopyPart
import Derived.Test.YtfefgopomhhpfaaDoorReady
import Derived.Test.YtfefgopomhhpfaaDoorSpecBase
import Derived.Deep.DeepCutAuto
import Derived.Deep.RegionHeld3
import Derived.Lib.SlBytesConst
namespace Go.Proofs.YtfefgopomhhpfaaDoor
open Go.RowKit

set_option maxHeartbeats 3200000 in
set_option maxRecDepth 100000 in
theorem spec_gray (T I W H nx cx pn pc : Nat) (gx : Nat) (pa : Option Addr) (w : World) (hW : 0 < W) (hW2 : W ≤ 40) (hH : 0 < H) (hH2 : H ≤ 40) (hT : T = (W + 3) / 4 * 4) (hI : I = T * H) (hnx : H * W ≤ nx) (_hnx2 : nx ≤ 100000000)
    (px : Nat → Nat → Int) (hpx : ∀ y x, y < H → x < W → w.cell? ⟨gx, y * W + x, none⟩ = some (.int .u8 (px y x))) :
    Calls Tryd.prog 6 #[.agg #[.int .i64 1, .int .i64 W, .int .i64 H, .slice (some ⟨gx, 0, none⟩) nx cx, .slice pa pn pc]] w (Gives w (1024 + 54 + I) (hbytes (1078 + (I : Int)) 1078 W H 8 I ++ fullRow grays 1024 1024 ++ rowsDown (fun y => fullRow (px y) W T) H)) := by
  have hIT : 54 + 1024 + T * H = 1024 + 54 + I := by omega
  have hcv := fun (W' : World) (C : Array Value) (n c : Nat) => Lib.run_convert_bytes_const (P := Tryd.prog) W' 22 5 C n c Tryd.underlying22 Tryd.underlying5
  have hst : ((W : Int) * 8 + 31) / 32 * 4 = (T : Int) := by omega
  have hTb : T ≤ 40 := by omega
  have hTH : (T : Int) * (H : Int) = (I : Int) := by rw [hI]; simp
  have hIb : I ≤ 1600 := by rw [hI]; exact Nat.le_trans (Nat.mul_le_mul hTb hH2) (by omega)
  have hWT : W ≤ T := by omega
  have hgx : gx < w.heap.size := World.block_lt_of_cell? _ _ (hpx 0 0 hH hW)
  have HPX := Lib.hid hpx
  clear hT hI hpx
  have hmk := run_make_row' (P := Tryd.prog) 22 5 (.int .u8 0) 1 Tryd.underlying22 info5 rfl .i64 .i64 T (by omega) (by omega)
  obtain ⟨M, hmM, hMr⟩ := make1024
  have HMR := Lib.hid hMr
  clear hMr
  go_enter Tryd.func6, Tryd.ntmps6
  go_wp2_with fail
  have hbx : (w.alloc (.cells #[.int .i64 1, .int .i64 W, .int .i64 H, .slice (some ⟨gx, 0, none⟩) nx cx, .slice pa pn pc] 28)).heap[w.heap.size]? = _ := heap_alloc_new w _
  have hb0 : Below w.heap.size w (w.alloc (.cells #[.int .i64 1, .int .i64 W, .int .i64 H, .slice (some ⟨gx, 0, none⟩) nx cx, .slice pa pn pc] 28)) := (Below.refl _ w).alloc (Nat.le_refl _) _
  have hz0 : (w.alloc (.cells #[.int .i64 1, .int .i64 W, .int .i64 H, .slice (some ⟨gx, 0, none⟩) nx cx, .slice pa pn pc] 28)).heap.size = w.heap.size + 1 := by simp
  generalize w.alloc (.cells #[.int .i64 1, .int .i64 W, .int .i64 H, .slice (some ⟨gx, 0, none⟩) nx cx, .slice pa pn pc] 28) = w0 at hbx hb0 hz0 ⊢
  generalize hpb : w.heap.size = pb at hbx hb0 hz0 hgx ⊢
  have hr0 : (((w0.alloc (.cells #[] 5)).alloc (.cells M 5))).rowIs (pb + 1 + 1) 5 1024 (part grays (fun _ => 0) 0) := by
    have := (HMR.out (w0.alloc (.cells #[] 5))).congr (g := part grays (fun _ => 0) 0) (fun i _ => by simp [part])
    simpa [hz0] using this
  have hb1 : Below w0.heap.size w0 ((w0.alloc (.cells #[] 5)).alloc (.cells M 5)) := ((Below.refl _ w0).alloc (Nat.le_refl _) _).alloc (by simp) _
  have hz1 : pb + 3 ≤ ((w0.alloc (.cells #[] 5)).alloc (.cells M 5)).heap.size := by simp [hz0]
  generalize ((w0.alloc (.cells #[] 5)).alloc (.cells M 5)) = W0 at hr0 hb1 hz1 ⊢
  have HB0 := Lib.hid hbx
  clear hbx hmM
  go_loopw [44] (fun i wr => ∃ k : Nat, k ≤ 256 ∧ i = .int .i64 k ∧ wr.rowIs (pb + 1 + 1) 5 1024 (part grays (fun _ => 0) (4 * k)) ∧ Keep (fun r => r = pb + 1 + 1 ∨ W0.heap.size ≤ r) W0 wr) (fun i _ => 256 - (intOf i).toNat)
  case atStart => exact ⟨0, Nat.zero_le _, rfl, by rw [Nat.mul_zero]; exact hr0, Keep.refl _ _⟩
  case round =>
    obtain ⟨k, hk, rfl, hr, hkp⟩ := hrel
    have hbw : Below w0.heap.size w0 wr := hb1.trans (hkp.toBelow hb1.size (fun r hr => by omega))
    by_cases hlt : k < 256
    · have c0 : wr.cell? ⟨pb, 0, none⟩ = some (.int .i64 1) := (hbw.cell (p := ⟨pb, 0, none⟩) (by show pb < w0.heap.size; omega)).trans ((Lib.cell_of_heap HB0.out 0).trans rfl)
      have hsrc : ∀ j, j < 4 → (wr.alloc (.cells #[.int .u8 k, .int .u8 k, .int .u8 k, .int .u8 255] 5)).cell? ((⟨wr.heap.size, 0, none⟩ : Addr).add j) = some (.int .u8 (grays (4 * k + j))) := by
        intro j hj
        have hg : ((#[.int .u8 k, .int .u8 k, .int .u8 k, .int .u8 255] : Array Value).toList[j]?) = some (.int .u8 (grays (4 * k + j))) := by
          have e0 := grays_at k 0 (by omega)
          have e1 := grays_at k 1 (by omega)
          have e2 := grays_at k 2 (by omega)
          have e3 := grays_3 k
          rw [Nat.mul_comm] at e0 e1 e2 e3
          match j, hj with
          | 0, _ => simp; exact e0.symm
          | 1, _ => simp; exact e1.symm
          | 2, _ => simp; exact e2.symm
          | 3, _ => simp; exact e3.symm
        exact World.news_of_block (heap_alloc_new wr _) j _ hg
      obtain ⟨wy, hcp, hry, hky⟩ := run_copy_part _ 3 (pb + 1 + 1) 1024 (4 * k) (1024 - 4 * k) (1024 - 4 * k) ⟨wr.heap.size, 0, none⟩ 4 4 4 grays (fun _ => 0) (hr.alloc _) (by simp [Nat.min_def]; omega) hsrc (by omega)
      clear hsrc hbw
      go_wp2
      go_roundw
      case measure => simp [intOf]; omega
      case rel =>
        go_light
        exact ⟨k + 1, by omega, by go_num, hry, (hkp.alloc _).trans (hky.weaken fun q _ hs => by omega)⟩
    · obtain rfl : k = 256 := by omega
      have hpal : wr.ownsRow w0.heap.size 5 1 (.slice (some ⟨pb + 1 + 1, 0, none⟩) 1024 1024) 1024 (u8s (fullRow grays 1024 1024)) := row_owns hr (by omega) (by omega) (fun _ _ _ => rfl)
      clear hr hkp hr0 hb1 hz1
      have hpw : pb < wr.heap.size := by have := hbw.size; omega
      have hpn : pb ≠ wr.heap.size := by omega
      have c1 : wr.cell? ⟨pb, 1, none⟩ = some (.int .i64 W) := (hbw.cell (p := ⟨pb, 1, none⟩) (by show pb < w0.heap.size; omega)).trans ((Lib.cell_of_heap HB0.out 1).trans rfl)
      have c2 : wr.cell? ⟨pb, 2, none⟩ = some (.int .i64 H) := (hbw.cell (p := ⟨pb, 2, none⟩) (by show pb < w0.heap.size; omega)).trans ((Lib.cell_of_heap HB0.out 2).trans rfl)
      go_wp2_with fail
      have hrow : (wr.alloc (.cells #[.int .u8 66, .int .u8 77] 5 (2, 3))).heap[wr.heap.size]? = some (.cells #[.int .u8 66, .int .u8 77] 5 (2, 3)) := heap_alloc_new wr _
      have hba : Below w0.heap.size w0 (wr.alloc (.cells #[.int .u8 66, .int .u8 77] 5 (2, 3))) := hbw.alloc hbw.size _
      have hza : (wr.alloc (.cells #[.int .u8 66, .int .u8 77] 5 (2, 3))).heap.size = wr.heap.size + 1 := by simp
      have hpalF : ∀ w' : World, w'.ownsRow w0.heap.size 5 1 (.slice (some ⟨pb + 1 + 1, 0, none⟩) 1024 1024) 1024 (u8s (fullRow grays 1024 1024)) → w'.ownsRow w0.heap.size 5 1 (.slice (some ⟨pb + 1 + 1, 0, none⟩) 1024 1024) (fullRow grays 1024 1024).length (u8s (fullRow grays 1024 1024)) := fun w' h => by rw [fullRow_length]; exact h
      have hpala := hpal.alloc (.cells #[.int .u8 66, .int .u8 77] 5 (2, 3))
      clear hpal
      generalize wr.alloc (.cells #[.int .u8 66, .int .u8 77] 5 (2, 3)) = wa at hrow hba hza hpala ⊢
      have hzw := hbw.size
      generalize hlit : wr.heap.size = lb at hrow hza hpw hpn hzw ⊢
      clear c1 c2 hbw
      refine (put_any _ 4 (by omega) (by omega) _).mono ?_
      rintro e w1 ⟨k1, q1, rfl, ho1, hb1⟩
      have hpal1 := hpala.kept (w' := w1) (row := none) ⟨hb1.os, hb1.tape, hb1.output, hb1.size, fun k hk _ => hb1.block k hk⟩ (by simp [Value.ownBlock])
      go_upto_region 26 with (at_builtin; refine wpList_append_first (w0 := w0) rfl (.tmp 96) (.tmp 103) rfl ((hb1.block _ (by omega)).trans hrow) (owns_mono ho1 hba.size) (by rfl) (by rfl) 6 (le_length _ _) (by omega) (by omega) rfl (hba.trans (hb1.mono hba.size)) (ps := [((.slice (some ⟨pb + 1 + 1, 0, none⟩) 1024 1024), fullRow grays 1024 1024)]) (fun p hp => by obtain rfl := List.mem_singleton.1 hp; exact ⟨_, _, by rw [fullRow_length], hpalF _ hpal1⟩) ?_; intro g1 cap1 wx1 hP)
      clear ho1 hb1 hrow hba hza hpala hpal1
      go_wp2_with (at_builtin; refine wpList_append_pend rfl (.tmp 105) (.tmp 106) rfl (hP.lit (ys := [0, 0, 0, 0]) (by decide)) 6 10 (by rfl) (by rfl) (.head _) (by simp [le_length]) (by simp [le_length]) (by decide) (by omega) ?_; clear hP; intro g1 cap1 wx1 hP)
      refine (put_any _ 4 (by omega) (by omega) _).mono ?_
      intro e w1 hG
      obtain ⟨k1, q1, rfl, hQ⟩ := hP.calls hG
      clear hG hP
      go_upto_region 27 with (at_builtin; refine wpList_append_pend rfl (.tmp 107) (.tmp 109) rfl hQ 10 14 (by rfl) (by rfl) (.head _) (by simp [le_length]) (by simp [le_length]) (by simp [le_length]) (by omega) ?_; clear hQ; intro g1 cap1 wx1 hP)
      obtain ⟨xs14, hx14⟩ : ∃ x, x = (([66, 77] ++ le 4 (1078 + (I : Int)) ++ [0, 0, 0, 0]) ++ le 4 1078 : List Int) := ⟨_, rfl⟩
      have hl14 : xs14.length = 14 := by rw [hx14]; simp [le_length]
      have HX14 := Lib.hid hx14
      rw [← hx14] at hP
      clear hx14
      obtain ⟨qs, hqs⟩ : ∃ q : List (Value × List Int), (∀ p ∈ [((.slice (some ⟨pb + 1 + 1, 0, none⟩) 1024 1024), fullRow grays 1024 1024)], p ∈ q) ∧ Pend w0 wx1 g1 cap1 xs14 q := ⟨_, (fun p hp => by simp at hp ⊢; simp [hp]), hP⟩
      obtain ⟨hin, hPb⟩ := hqs
      clear hP
      have hP := hPb
      clear hPb
      have HIN := Lib.hid hin
      clear hin
      have b1 : ∀ wz : World, Below w0.heap.size w0 wz → wz.cell? ⟨pb, 1, none⟩ = some (.int .i64 W) := fun wz h => (h.cell (p := ⟨pb, 1, none⟩) (by show pb < w0.heap.size; omega)).trans ((Lib.cell_of_heap HB0.out 1).trans rfl)
      have b2 : ∀ wz : World, Below w0.heap.size w0 wz → wz.cell? ⟨pb, 2, none⟩ = some (.int .i64 H) := fun wz h => (h.cell (p := ⟨pb, 2, none⟩) (by show pb < w0.heap.size; omega)).trans ((Lib.cell_of_heap HB0.out 2).trans rfl)
      have HC1 := Lib.hid b1
      have HC2 := Lib.hid b2
      clear b1 b2
      clear hlit hpw hpn hzw
      go_cut [11] (fun s11 wx => ∃ g cap, s11 = .slice (some ⟨g, 0, none⟩) 26 cap ∧ ∃ q, (∀ p ∈ [((.slice (some ⟨pb + 1 + 1, 0, none⟩) 1024 1024), fullRow grays 1024 1024)], p ∈ q) ∧ Pend w0 wx g cap (xs14 ++ le 4 40 ++ le 4 (W : Int) ++ le 4 (H : Int)) q)
      case first =>
        have d1 := HC1.out _ hP.below
        have d2 := HC2.out _ hP.below
        have hPd := hP.drew
        clear hP
        have hP := hPd
        clear hPd
        go_region_held3 (fun w' => w'.cell? ⟨pb, 1, none⟩ = some (.int .i64 W) ∧ w'.cell? ⟨pb, 2, none⟩ = some (.int .i64 H)) (go_keep)
          (first
            | (refine step_append_pend rfl (.tmp 111) (.tmp 112) rfl hP 14 18 (by rfl) (by rfl) (.head _) hl14 (by rw [hl14, le_length]) (by rw [le_length]; omega) (by omega) ?_
               intro gz capz wz hPz
               clear hP
               have hP := hPz
               clear hPz
               have d1 := HC1.out _ hP.below
               have d2 := HC2.out _ hP.below)
            | (refine step_append_pend rfl (.tmp 113) (.tmp 116) rfl hP 18 22 (by rfl) (by rfl) (.head _) (by rw [List.length_append, hl14, le_length]) (by rw [List.length_append, hl14, le_length, le_length]) (by rw [le_length]; omega) (by omega) ?_
               intro gz capz wz hPz
               clear hP
               have hP := hPz
               clear hPz
               have d1 := HC1.out _ hP.below
               have d2 := HC2.out _ hP.below)
            | (refine step_append_pend rfl (.tmp 117) (.tmp 120) rfl hP 22 26 (by rfl) (by rfl) (.head _) (by rw [List.length_append, List.length_append, hl14, le_length, le_length]) (by rw [List.length_append, List.length_append, hl14, le_length, le_length, le_length]) (by rw [le_length]; omega) (by omega) ?_
               intro gz capz wz hPz
               clear hP
               have hP := hPz
               clear hPz
               have d1 := HC1.out _ hP.below
               have d2 := HC2.out _ hP.below)
            | (go_at_call 12
               refine (put_any _ 4 (by omega) (by omega) _).mono ?_
               intro e wz hG
               obtain ⟨kz, qz, rfl, hPz⟩ := hP.calls hG
               clear hG hP
               have hP := hPz
               clear hPz
               have d1 := HC1.out _ hP.below
               have d2 := HC2.out _ hP.below))
        all_goals
          (go_wp2_with fail
           go_meet
           go_light
           exact ⟨_, _, rfl, _, (fun p hp => .tail _ (.tail _ (.tail _ (HIN.out p hp)))), hP⟩)
      case rest =>
        obtain ⟨g26, cap26, rfl, q26, hin26, hP⟩ := hcut
        obtain ⟨xs26, hx26⟩ : ∃ x, x = (xs14 ++ le 4 40 ++ le 4 (W : Int) ++ le 4 (H : Int) : List Int) := ⟨_, rfl⟩
        have hl26 : xs26.length = 26 := by rw [hx26]; simp [le_length, hl14]
        have HX26 := Lib.hid hx26
        rw [← hx26] at hP
        clear hx26 hl14
        have HIN26 := Lib.hid hin26
        clear hin26
        go_wp2_with (at_builtin; refine wpList_append_pend rfl (.tmp 122) (.tmp 123) rfl (hP.lit (ys := [1, 0]) (by decide)) 26 28 (by rfl) (by rfl) (.head _) hl26 (by rw [hl26]; rfl) (by decide) (by omega) ?_; clear hP; intro g1 cap1 wx1 hP)
        refine (put_any _ 2 (by omega) (by omega) _).mono ?_
        intro e w1 hG
        obtain ⟨k1, q1, rfl, hQ⟩ := hP.calls hG
        clear hG hP
        go_wp2_with (at_builtin; refine wpList_append_pend rfl (.tmp 124) (.tmp 126) rfl hQ 28 30 (by rfl) (by rfl) (.head _) (by simp [hl26]) (by simp [le_length, hl26]) (by rw [le_length]; omega) (by omega) ?_; clear hQ; intro g1 cap1 wx1 hP)
        refine (put_any _ 4 (by omega) (by omega) _).mono ?_
        intro e w1 hG
        obtain ⟨k1, q1, rfl, hQ⟩ := hP.calls hG
        clear hG hP
        go_upto_region 29 with (at_builtin; refine wpList_append_pend rfl (.tmp 127) (.tmp 128) rfl hQ 30 34 (by rfl) (by rfl) (.head _) (by simp [le_length, hl26]) (by simp [le_length, hl26]) (by rw [le_length]; omega) (by omega) ?_; clear hQ; intro g1 cap1 wx1 hP)
        have d2 := HC2.out _ hP.below
        go_wp2_with fail
        refine (put_any _ 4 (by omega) (by omega) _).mono ?_
        intro e w1 hG
        obtain ⟨k1, q1, rfl, hQ⟩ := hP.calls hG
        clear hG hP d2
        go_upto_region 30 with (first
          | (at_builtin; refine wpList_append_pend rfl (.tmp 130) (.tmp 135) rfl hQ 34 38 (by rfl) (by rfl) (.head _) (by simp [le_length, hl26]) (by simp [le_length, hl26]) (by rw [le_length]; omega) (by omega) ?_; clear hQ; intro g1 cap1 wx1 hP)
          | (at_builtin; refine wpList_append_noughts rfl (.tmp 136) (.const (.int .i64 16)) rfl hP 38 16 54 (by rfl) (by rfl) (by simp [le_length, hl26]) rfl (by omega) (by omega) ?_; clear hP; intro g1 cap1 wx1 hR)
          | (at_builtin; refine wpList_append_pend rfl (.tmp 137) (.tmp 138) rfl hR 54 1078 (by rfl) (by rfl) (.tail _ (.tail _ (.tail _ (.tail _ (HIN26.out _ (.head _)))))) (by simp [le_length, hl26]) (by simp [le_length, hl26, fullRow_length]) (by rw [fullRow_length]; omega) (by omega) ?_; clear hR; intro g1 cap1 wx1 hS))
        have d2 := HC2.out _ hS.below
        obtain ⟨hdr, hhd⟩ : ∃ x, x = (xs26 ++ [1, 0] ++ le 2 8 ++ le 4 0 ++ le 4 (I : Int) ++ List.replicate 16 0 ++ fullRow grays 1024 1024 : List Int) := ⟨_, rfl⟩
        have hlh : hdr.length = 1078 := by rw [hhd]; simp [le_length, hl26, fullRow_length]
        have HHD := Lib.hid hhd
        rw [← hhd] at hS
        clear hhd hl26 hP hk hlt hpalF
        have hP0 : Pend w0 wx1 g1 cap1 hdr [] := ⟨hS.own, fun p hp => absurd hp (by simp), hS.below⟩
        clear hS
        have HC3 : Hid (∀ wz : World, Below w0.heap.size w0 wz → wz.cell? ⟨pb, 3, none⟩ = some (.slice (some ⟨gx, 0, none⟩) nx cx)) := fun wz h => (h.cell (p := ⟨pb, 3, none⟩) (by show pb < w0.heap.size; omega)).trans ((Lib.cell_of_heap HB0.out 3).trans rfl)
        have HPZ : Hid (∀ wz : World, Below w0.heap.size w0 wz → ∀ y x, y < H → x < W → wz.cell? ⟨gx, y * W + x, none⟩ = some (.int .u8 (px y x))) := fun wz h y x hy hx => ((h.cell (p := ⟨gx, y * W + x, none⟩) (by show gx < w0.heap.size; omega)).trans (hb0.cell (p := ⟨gx, y * W + x, none⟩) (by show gx < pb; omega))).trans (HPX.out y x hy hx)
        go_wp2_with fail
        go_loopw [11, 12] (fun s i wr => ∃ (m g cap : Nat) (out : List Int), m ≤ H ∧ i = .int .i64 ((m : Int) - 1) ∧ s = .slice (some ⟨g, 0, none⟩) out.length cap ∧ Pend w0 wr g cap out [] ∧ out ++ rowsDown (fun y => fullRow (px y) W T) m = hdr ++ rowsDown (fun y => fullRow (px y) W T) H ∧ out.length + T * m = 1078 + T * H) (fun _ i _ => (intOf i + 1).toNat)
        case atStart => exact ⟨H, g1, cap1, hdr, Nat.le_refl _, rfl, by rw [hlh], hP0, rfl, by rw [hlh]⟩
        case round =>
          obtain ⟨m, g, cap, out, hm, rfl, rfl, hP, htot, hlen⟩ := hrel
          clear hP0 d2 hlh
          have HTOT := Lib.hid htot
          have HLEN := Lib.hid hlen
          clear htot hlen
          by_cases hm0 : m = 0
          · subst hm0
            go_wp2
            go_ret
            have hout : out = hbytes (1078 + (I : Int)) 1078 W H 8 I ++ fullRow grays 1024 1024 ++ rowsDown (fun y => fullRow (px y) W T) H := by
              have h1 : out ++ [] = hdr ++ rowsDown (fun y => fullRow (px y) W T) H := HTOT.out
              rw [List.append_nil] at h1
              rw [h1, HHD.out, HX26.out, HX14.out]
              exact congrArg (· ++ _) (spec_head _ _ _ _ _ _ _)
            exact spec_done hb0 hpb hz0 hP hout (by rw [List.length_append, List.length_append, hbytes_length, fullRow_length, rowsDown_length (fun _ => fullRow_length _ _ _), hIT])
          · obtain ⟨k, rfl⟩ : ∃ k, m = k + 1 := ⟨m - 1, by omega⟩
            have hk1 : (((k + 1 : Nat) : Int) - 1) = k := by omega
            obtain ⟨p, hp⟩ : ∃ p : Nat, p = k * W := ⟨_, rfl⟩
            have hp2 : (k : Int) * (W : Int) = (p : Int) := by rw [hp]; simp
            have hps : p + W ≤ H * W := by
              have := Nat.mul_le_mul_right W (show k + 1 ≤ H by omega)
              rw [Nat.add_mul, Nat.one_mul] at this
              omega
            have HP := Lib.hid hp
            clear hp
            have hpn : p + W ≤ nx := Nat.le_trans hps hnx
            have hpb2 : p + W ≤ 1600 := Nat.le_trans hps (Nat.le_trans (Nat.mul_le_mul hH2 hW2) (by omega))
            clear hps
            obtain ⟨wo, rfl⟩ : ∃ wo : World, wo = wr := ⟨_, rfl⟩
            go_upto_region 34 with (fail)
            have hr1 := part_made wo T (px k)
            have hW1 : Keep (· = wo.heap.size) (wo.alloc (.cells (madeCells #[.int .u8 0] T) 5)) (wo.alloc (.cells (madeCells #[.int .u8 0] T) 5)) := Keep.refl _ _
            have hbW : Below w0.heap.size w0 (wo.alloc (.cells (madeCells #[.int .u8 0] T) 5)) := hP.below.alloc hP.below.size _
            have hlb : pb < wo.heap.size := by have := hP.below.size; omega
            have hgl : gx < wo.heap.size := by omega
            generalize hw1 : wo.alloc (.cells (madeCells #[.int .u8 0] T) 5) = W1 at hr1 hW1 hbW ⊢
            have HW1 := Lib.hid hw1
            clear hw1
            have e1 := HC1.out _ hbW
            go_wp2_with fail
            clear e1
            go_loopw [151] (fun i wr => ∃ x : Nat, x ≤ W ∧ i = .int .i64 x ∧ wr.rowIs wo.heap.size 5 T (part (px k) (fun _ => 0) x) ∧ Keep (· = wo.heap.size) W1 wr) (fun i _ => W - (intOf i).toNat)
            case atStart => exact ⟨0, Nat.zero_le _, rfl, hr1, hW1⟩
            case round =>
              obtain ⟨x, hx, rfl, hr, hkx⟩ := hrel
              have hbx : Below w0.heap.size w0 wr := hbW.trans (hkx.toBelow hbW.size (fun r hr => by have := hP.below.size; omega))
              by_cases hlt : x < W
              · have e1 := HC1.out _ hbx
                have e3 := HC3.out _ hbx
                have e5 : wr.cell? ⟨gx, p + x, none⟩ = some (.int .u8 (px k x)) := by rw [HP.out]; exact HPZ.out _ hbx k x (by omega) hlt
                have s0 : wr.cell? ⟨wo.heap.size, x, none⟩ = some (part (px k) (fun _ => 0) x x) := hr.cell (by omega)
                have z0 : ∀ i, wr.frozen? ⟨wo.heap.size, i, none⟩ = false := hr.frozen
                generalize part (px k) (fun _ => 0) x x = v0 at s0
                clear hbx
                go_wp2
                go_roundw
                case measure => simp [intOf]; omega
                case rel =>
                  go_light
                  exact ⟨x + 1, by omega, by go_num, fill1 hr rfl, hkx.setCell (p := ⟨wo.heap.size, _, none⟩) (.inl rfl) _⟩
              · obtain rfl : x = W := by omega
                have hQ : Pend w0 wr g cap out [(.slice (some ⟨wo.heap.size, 0, none⟩) T T, fullRow (px k) x T)] := hP.line (o := .cells (madeCells #[.int .u8 0] T) 5) (by rw [HW1.out]; exact hkx) hr (by omega)
                have hlim : out.length + T ≤ 100000000 := by
                  have := HLEN.out
                  have h2 : T * H ≤ 40 * 40 := Nat.mul_le_mul hTb hH2
                  rw [Nat.mul_succ] at this
                  omega
                clear hbx hr hkx
                go_wp2_with (at_builtin; refine wpList_append_pend rfl (.tmp 242) (.tmp 243) rfl hQ out.length (out.length + T) (by rfl) (by rfl) (.head _) rfl (by rw [fullRow_length]) (by rw [fullRow_length]; omega) hlim ?_; clear hQ; intro g1 cap1 wx1 hR)
                go_roundw
                case measure => (simp [intOf]) <;> omega
                case rel =>
                  go_light
                  refine ⟨k, g1, cap1, out ++ fullRow (px k) x T, by omega, by go_num, by rw [List.length_append, fullRow_length], ⟨hR.own, fun p hp => absurd hp (by simp), hR.below⟩, ?_, ?_⟩
                  · rw [List.append_assoc]; exact HTOT.out
                  · rw [List.length_append, fullRow_length, ← HLEN.out, Nat.mul_succ]; omega
end Go.Proofs.YtfefgopomhhpfaaDoor
