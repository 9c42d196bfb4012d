/- spec.Encoded: an nrgba picture. -/
import Derived.Test.YtfefgopomhhpfaaDoorPendLaw
import Derived.Test.YtfefgopomhhpfaaDoorCopyPart
import Derived.Test.YtfefgopomhhpfaaDoorReady
import Derived.Test.YtfefgopomhhpfaaDoorSpecBase
import Derived.Deep.DeepCutAuto
import Derived.Deep.RegionHeld3
import Derived.Lib.SlBytesConst
namespace Go.Proofs.YtfefgopomhhpfaaDoor
open Go.RowKit

set_option maxHeartbeats 3200000 in
set_option maxRecDepth 100000 in
theorem spec_nrgba32 (T I W H nx cx pn pc : Nat) (gx : Nat) (pa : Option Addr) (w : World) (hW : 0 < W) (hW2 : W ≤ 40) (hH : 0 < H) (hH2 : H ≤ 40) (hT : T = 4 * W) (hI : I = T * H) (hnx : nx = 4 * (H * W)) (hcx : nx ≤ cx)
    (px : Nat → Nat → Int) (hpx : ∀ y x j, y < H → x < W → j < 4 → w.cell? ⟨gx, 4 * (y * W + x) + j, none⟩ = some (.int .u8 (px y (4 * x + j)))) (hbd : ∀ y x, 0 ≤ px y x ∧ px y x < 256) (hop : opq px W H = false) :
    Calls Tryd.prog 6 #[.agg #[.int .i64 5, .int .i64 W, .int .i64 H, .slice (some ⟨gx, 0, none⟩) nx cx, .slice pa pn pc]] w (Gives w (54 + I) (hbytes (54 + (I : Int)) 54 W H 32 I ++ rowsDown (fun y => fullRow (row32n (px y)) (4 * W) T) H)) := by
  have hIT : 54 + T * H = 54 + I := by omega
  have hcv := fun (W' : World) (C : Array Value) (n c : Nat) => Lib.run_convert_bytes_const (P := Tryd.prog) W' 22 5 C n c Tryd.underlying22 Tryd.underlying5
  have hst : ((W : Int) * 32 + 31) / 32 * 4 = (T : Int) := by omega
  have hTb : T ≤ 160 := by omega
  have hTH : (T : Int) * (H : Int) = (I : Int) := by rw [hI]; simp
  have hIb : I ≤ 6400 := by rw [hI]; exact Nat.le_trans (Nat.mul_le_mul hTb hH2) (by omega)
  have hWT : 4 * W ≤ T := by omega
  have hgx : gx < w.heap.size := World.block_lt_of_cell? _ _ (hpx 0 0 0 hH hW (by omega))
  obtain ⟨N, hN⟩ : ∃ N, N = H * W := ⟨_, rfl⟩
  have hNb : N ≤ 1600 := by rw [hN]; exact Nat.le_trans (Nat.mul_le_mul hH2 hW2) (by omega)
  have HPX := Lib.hid hpx
  have HBD := Lib.hid hbd
  have HN := Lib.hid hN
  have HOP : Hid (opqN px W N = false) := by show _ = _; rw [hN, opqN_all px W H hW]; exact hop
  have hnx1 : nx ≤ 4 * N := by rw [hN]; omega
  have hnx2 : 4 * N ≤ nx := by rw [hN]; omega
  clear hT hI hpx hbd hN hop hnx
  have hmk := run_make_row' (P := Tryd.prog) 22 5 (.int .u8 0) 1 Tryd.underlying22 info5 rfl .i64 .i64 T (by omega) (by omega)
  go_enter Tryd.func6, Tryd.ntmps6
  go_wp2_with fail
  have hbx : (w.alloc (.cells #[.int .i64 5, .int .i64 W, .int .i64 H, .slice (some ⟨gx, 0, none⟩) nx cx, .slice pa pn pc] 28)).heap[w.heap.size]? = _ := heap_alloc_new w _
  have hb0 : Below w.heap.size w (w.alloc (.cells #[.int .i64 5, .int .i64 W, .int .i64 H, .slice (some ⟨gx, 0, none⟩) nx cx, .slice pa pn pc] 28)) := (Below.refl _ w).alloc (Nat.le_refl _) _
  have hz0 : (w.alloc (.cells #[.int .i64 5, .int .i64 W, .int .i64 H, .slice (some ⟨gx, 0, none⟩) nx cx, .slice pa pn pc] 28)).heap.size = w.heap.size + 1 := by simp
  generalize w.alloc (.cells #[.int .i64 5, .int .i64 W, .int .i64 H, .slice (some ⟨gx, 0, none⟩) nx cx, .slice pa pn pc] 28) = w0 at hbx hb0 hz0 ⊢
  generalize hpb : w.heap.size = pb at hbx hb0 hz0 hgx ⊢
  have hb1 : Below w0.heap.size w0 (w0.alloc (.cells #[] 5)) := (Below.refl _ w0).alloc (Nat.le_refl _) _
  have hz1 : pb + 2 ≤ (w0.alloc (.cells #[] 5)).heap.size := by simp [hz0]
  generalize (w0.alloc (.cells #[] 5)) = W0 at hb1 hz1 ⊢
  have HB0 := Lib.hid hbx
  clear hbx
  have HC3 : Hid (∀ wz : World, Below w0.heap.size w0 wz → wz.cell? ⟨pb, 3, none⟩ = some (.slice (some ⟨gx, 0, none⟩) nx cx)) := fun wz h => (h.cell (p := ⟨pb, 3, none⟩) (by show pb < w0.heap.size; omega)).trans ((Lib.cell_of_heap HB0.out 3).trans rfl)
  have HPZ : Hid (∀ wz : World, Below w0.heap.size w0 wz → ∀ y x j, y < H → x < W → j < 4 → wz.cell? ⟨gx, 4 * (y * W + x) + j, none⟩ = some (.int .u8 (px y (4 * x + j)))) := fun wz h y x j hy hx hj => ((h.cell (p := ⟨gx, 4 * (y * W + x) + j, none⟩) (by show gx < w0.heap.size; omega)).trans (hb0.cell (p := ⟨gx, 4 * (y * W + x) + j, none⟩) (by show gx < pb; omega))).trans (HPX.out y x j hy hx hj)
  go_loopw [5, 8] (fun s i wr => ∃ j : Nat, j ≤ N ∧ i = .int .i64 (4 * (j : Int) + 3) ∧ s = .bool (opqN px W j) ∧ wr = W0) (fun _ i _ => (4 * N + 3 - intOf i).toNat)
  case atStart => exact ⟨0, Nat.zero_le _, rfl, rfl, rfl⟩
  case round =>
  obtain ⟨j, hj, rfl, rfl, rfl⟩ := hrel
  have c3 := HC3.out _ hb1
  by_cases hlt : j < N
  · have hjH : j / W < H := (Nat.div_lt_iff_lt_mul hW).2 (by rw [← HN.out]; exact hlt)
    have c5 : wr.cell? ⟨gx, 4 * j + 3, none⟩ = some (.int .u8 (px (j / W) (4 * (j % W) + 3))) := by
      have := HPZ.out _ hb1 (j / W) (j % W) 3 hjH (Nat.mod_lt _ hW) (by omega)
      rw [Nat.mul_comm (j / W) W, Nat.div_add_mod] at this
      exact this
    have hso := opqN_succ px W j
    generalize px (j / W) (4 * (j % W) + 3) = a at c5 hso
    have HSO := Lib.hid hso
    clear hso
    cases hq : opqN px W j
    · rw [hq] at HSO
      go_wp2
      go_roundw
      case measure => simp [intOf]; omega
      case rel =>
        go_light
        exact ⟨j + 1, by omega, by go_num, by rw [HSO.out]; rfl, trivial⟩
    · rw [hq] at HSO
      go_wp2
      go_roundw
      case measure => simp [intOf]; omega
      case rel =>
        go_light
        exact ⟨j + 1, by omega, by go_num, by rw [HSO.out]; rfl, trivial⟩
  · obtain rfl : j = N := by omega
    have hq := HOP.out
    rw [hq]
    clear hq
    have hbw : Below w0.heap.size w0 wr := hb1
    have hk : True := trivial
    have hlt := hk
    have hpalF := hk
    clear hb1
    have hpw : pb < wr.heap.size := by have := hbw.size; omega
    have hpn : pb ≠ wr.heap.size := by omega
    have c1 : wr.cell? ⟨pb, 1, none⟩ = some (.int .i64 W) := (hbw.cell (p := ⟨pb, 1, none⟩) (by show pb < w0.heap.size; omega)).trans ((Lib.cell_of_heap HB0.out 1).trans rfl)
    have c2 : wr.cell? ⟨pb, 2, none⟩ = some (.int .i64 H) := (hbw.cell (p := ⟨pb, 2, none⟩) (by show pb < w0.heap.size; omega)).trans ((Lib.cell_of_heap HB0.out 2).trans rfl)
    go_wp2_with fail
    have hrow : (wr.alloc (.cells #[.int .u8 66, .int .u8 77] 5 (2, 3))).heap[wr.heap.size]? = some (.cells #[.int .u8 66, .int .u8 77] 5 (2, 3)) := heap_alloc_new wr _
    have hba : Below w0.heap.size w0 (wr.alloc (.cells #[.int .u8 66, .int .u8 77] 5 (2, 3))) := hbw.alloc hbw.size _
    have hza : (wr.alloc (.cells #[.int .u8 66, .int .u8 77] 5 (2, 3))).heap.size = wr.heap.size + 1 := by simp
    generalize wr.alloc (.cells #[.int .u8 66, .int .u8 77] 5 (2, 3)) = wa at hrow hba hza ⊢
    have hzw := hbw.size
    generalize hlit : wr.heap.size = lb at hrow hza hpw hpn hzw ⊢
    clear c1 c2 hbw
    refine (put_any _ 4 (by omega) (by omega) _).mono ?_
    rintro e w1 ⟨k1, q1, rfl, ho1, hb1⟩
    go_upto_region 26 with (at_builtin; refine wpList_append_first (w0 := w0) rfl (.tmp 96) (.tmp 103) rfl ((hb1.block _ (by omega)).trans hrow) (owns_mono ho1 hba.size) (by rfl) (by rfl) 6 (le_length _ _) (by omega) (by omega) rfl (hba.trans (hb1.mono hba.size)) (ps := []) (fun p hp => absurd hp (by simp)) ?_; intro g1 cap1 wx1 hP)
    clear ho1 hb1 hrow hba hza
    go_wp2_with (at_builtin; refine wpList_append_pend rfl (.tmp 105) (.tmp 106) rfl (hP.lit (ys := [0, 0, 0, 0]) (by decide)) 6 10 (by rfl) (by rfl) (.head _) (by simp [le_length]) (by simp [le_length]) (by decide) (by omega) ?_; clear hP; intro g1 cap1 wx1 hP)
    refine (put_any _ 4 (by omega) (by omega) _).mono ?_
    intro e w1 hG
    obtain ⟨k1, q1, rfl, hQ⟩ := hP.calls hG
    clear hG hP
    go_upto_region 27 with (at_builtin; refine wpList_append_pend rfl (.tmp 107) (.tmp 109) rfl hQ 10 14 (by rfl) (by rfl) (.head _) (by simp [le_length]) (by simp [le_length]) (by simp [le_length]) (by omega) ?_; clear hQ; intro g1 cap1 wx1 hP)
    obtain ⟨xs14, hx14⟩ : ∃ x, x = (([66, 77] ++ le 4 (54 + (I : Int)) ++ [0, 0, 0, 0]) ++ le 4 54 : List Int) := ⟨_, rfl⟩
    have hl14 : xs14.length = 14 := by rw [hx14]; simp [le_length]
    have HX14 := Lib.hid hx14
    rw [← hx14] at hP
    clear hx14
    obtain ⟨qs, hqs⟩ : ∃ q : List (Value × List Int), (∀ p ∈ [], p ∈ q) ∧ Pend w0 wx1 g1 cap1 xs14 q := ⟨_, (fun p hp => by first | exact absurd hp (by simp) | (simp at hp ⊢; simp [hp])), hP⟩
    obtain ⟨hin, hPb⟩ := hqs
    clear hP
    have hP := hPb
    clear hPb
    have HIN := Lib.hid hin
    clear hin
    have b1 : ∀ wz : World, Below w0.heap.size w0 wz → wz.cell? ⟨pb, 1, none⟩ = some (.int .i64 W) := fun wz h => (h.cell (p := ⟨pb, 1, none⟩) (by show pb < w0.heap.size; omega)).trans ((Lib.cell_of_heap HB0.out 1).trans rfl)
    have b2 : ∀ wz : World, Below w0.heap.size w0 wz → wz.cell? ⟨pb, 2, none⟩ = some (.int .i64 H) := fun wz h => (h.cell (p := ⟨pb, 2, none⟩) (by show pb < w0.heap.size; omega)).trans ((Lib.cell_of_heap HB0.out 2).trans rfl)
    have HC1 := Lib.hid b1
    have HC2 := Lib.hid b2
    clear b1 b2
    clear hlit hpw hpn hzw
    go_cut [11] (fun s11 wx => ∃ g cap, s11 = .slice (some ⟨g, 0, none⟩) 26 cap ∧ ∃ q, (∀ p ∈ [], p ∈ q) ∧ Pend w0 wx g cap (xs14 ++ le 4 40 ++ le 4 (W : Int) ++ le 4 (H : Int)) q)
    case first =>
      have d1 := HC1.out _ hP.below
      have d2 := HC2.out _ hP.below
      have hPd := hP.drew
      clear hP
      have hP := hPd
      clear hPd
      go_region_held3 (fun w' => w'.cell? ⟨pb, 1, none⟩ = some (.int .i64 W) ∧ w'.cell? ⟨pb, 2, none⟩ = some (.int .i64 H)) (go_keep)
        (first
          | (refine step_append_pend rfl (.tmp 111) (.tmp 112) rfl hP 14 18 (by rfl) (by rfl) (.head _) hl14 (by rw [hl14, le_length]) (by rw [le_length]; omega) (by omega) ?_
             intro gz capz wz hPz
             clear hP
             have hP := hPz
             clear hPz
             have d1 := HC1.out _ hP.below
             have d2 := HC2.out _ hP.below)
          | (refine step_append_pend rfl (.tmp 113) (.tmp 116) rfl hP 18 22 (by rfl) (by rfl) (.head _) (by rw [List.length_append, hl14, le_length]) (by rw [List.length_append, hl14, le_length, le_length]) (by rw [le_length]; omega) (by omega) ?_
             intro gz capz wz hPz
             clear hP
             have hP := hPz
             clear hPz
             have d1 := HC1.out _ hP.below
             have d2 := HC2.out _ hP.below)
          | (refine step_append_pend rfl (.tmp 117) (.tmp 120) rfl hP 22 26 (by rfl) (by rfl) (.head _) (by rw [List.length_append, List.length_append, hl14, le_length, le_length]) (by rw [List.length_append, List.length_append, hl14, le_length, le_length, le_length]) (by rw [le_length]; omega) (by omega) ?_
             intro gz capz wz hPz
             clear hP
             have hP := hPz
             clear hPz
             have d1 := HC1.out _ hP.below
             have d2 := HC2.out _ hP.below)
          | (go_at_call 12
             refine (put_any _ 4 (by omega) (by omega) _).mono ?_
             intro e wz hG
             obtain ⟨kz, qz, rfl, hPz⟩ := hP.calls hG
             clear hG hP
             have hP := hPz
             clear hPz
             have d1 := HC1.out _ hP.below
             have d2 := HC2.out _ hP.below))
      all_goals
        (go_wp2_with fail
         go_meet
         go_light
         exact ⟨_, _, rfl, _, (fun p hp => .tail _ (.tail _ (.tail _ (HIN.out p hp)))), hP⟩)
    case rest =>
      obtain ⟨g26, cap26, rfl, q26, hin26, hP⟩ := hcut
      obtain ⟨xs26, hx26⟩ : ∃ x, x = (xs14 ++ le 4 40 ++ le 4 (W : Int) ++ le 4 (H : Int) : List Int) := ⟨_, rfl⟩
      have hl26 : xs26.length = 26 := by rw [hx26]; simp [le_length, hl14]
      have HX26 := Lib.hid hx26
      rw [← hx26] at hP
      clear hx26 hl14
      have HIN26 := Lib.hid hin26
      clear hin26
      go_wp2_with (at_builtin; refine wpList_append_pend rfl (.tmp 122) (.tmp 123) rfl (hP.lit (ys := [1, 0]) (by decide)) 26 28 (by rfl) (by rfl) (.head _) hl26 (by rw [hl26]; rfl) (by decide) (by omega) ?_; clear hP; intro g1 cap1 wx1 hP)
      refine (put_any _ 2 (by omega) (by omega) _).mono ?_
      intro e w1 hG
      obtain ⟨k1, q1, rfl, hQ⟩ := hP.calls hG
      clear hG hP
      go_wp2_with (at_builtin; refine wpList_append_pend rfl (.tmp 124) (.tmp 126) rfl hQ 28 30 (by rfl) (by rfl) (.head _) (by simp [hl26]) (by simp [le_length, hl26]) (by rw [le_length]; omega) (by omega) ?_; clear hQ; intro g1 cap1 wx1 hP)
      refine (put_any _ 4 (by omega) (by omega) _).mono ?_
      intro e w1 hG
      obtain ⟨k1, q1, rfl, hQ⟩ := hP.calls hG
      clear hG hP
      go_upto_region 29 with (at_builtin; refine wpList_append_pend rfl (.tmp 127) (.tmp 128) rfl hQ 30 34 (by rfl) (by rfl) (.head _) (by simp [le_length, hl26]) (by simp [le_length, hl26]) (by rw [le_length]; omega) (by omega) ?_; clear hQ; intro g1 cap1 wx1 hP)
      have d2 := HC2.out _ hP.below
      go_wp2_with fail
      refine (put_any _ 4 (by omega) (by omega) _).mono ?_
      intro e w1 hG
      obtain ⟨k1, q1, rfl, hQ⟩ := hP.calls hG
      clear hG hP d2
      go_upto_region 30 with (first
        | (at_builtin; refine wpList_append_pend rfl (.tmp 130) (.tmp 135) rfl hQ 34 38 (by rfl) (by rfl) (.head _) (by simp [le_length, hl26]) (by simp [le_length, hl26]) (by rw [le_length]; omega) (by omega) ?_; clear hQ; intro g1 cap1 wx1 hP)
        | (at_builtin; refine wpList_append_noughts rfl (.tmp 136) (.const (.int .i64 16)) rfl hP 38 16 54 (by rfl) (by rfl) (by simp [le_length, hl26]) rfl (by omega) (by omega) ?_; clear hP; intro g1 cap1 wx1 hR)
        | (at_builtin; refine wpList_append_none rfl (.tmp 137) (.tmp 138) rfl hR 54 0 ⟨pb + 1, 0, none⟩ (by rfl) (by rfl) (by simp [le_length, hl26]) ?_))
      have d2 := HC2.out _ hR.below
      obtain ⟨hdr, hhd⟩ : ∃ x, x = (xs26 ++ [1, 0] ++ le 2 32 ++ le 4 0 ++ le 4 (I : Int) ++ List.replicate 16 0 : List Int) := ⟨_, rfl⟩
      have hlh : hdr.length = 54 := by rw [hhd]; simp [le_length, hl26]
      have HHD := Lib.hid hhd
      rw [← hhd] at hR
      clear hhd hl26 hP hk hlt hpalF
      have hP0 : Pend w0 wx1 g1 cap1 hdr [] := ⟨hR.own, fun p hp => absurd hp (by simp), hR.below⟩
      clear hR
      go_wp2_with fail
      go_loopw [11, 12] (fun s i wr => ∃ (m g cap : Nat) (out : List Int), m ≤ H ∧ i = .int .i64 ((m : Int) - 1) ∧ s = .slice (some ⟨g, 0, none⟩) out.length cap ∧ Pend w0 wr g cap out [] ∧ out ++ rowsDown (fun y => fullRow (row32n (px y)) (4 * W) T) m = hdr ++ rowsDown (fun y => fullRow (row32n (px y)) (4 * W) T) H ∧ out.length + T * m = 54 + T * H) (fun _ i _ => (intOf i + 1).toNat)
      case atStart => exact ⟨H, g1, cap1, hdr, Nat.le_refl _, rfl, by rw [hlh], hP0, rfl, by rw [hlh]⟩
      case round =>
        obtain ⟨m, g, cap, out, hm, rfl, rfl, hP, htot, hlen⟩ := hrel
        clear hP0 d2 hlh
        have HTOT := Lib.hid htot
        have HLEN := Lib.hid hlen
        clear htot hlen
        by_cases hm0 : m = 0
        · subst hm0
          go_wp2
          go_ret
          have hout : out = hbytes (54 + (I : Int)) 54 W H 32 I ++ rowsDown (fun y => fullRow (row32n (px y)) (4 * W) T) H := by
            have h1 : out ++ [] = hdr ++ rowsDown (fun y => fullRow (row32n (px y)) (4 * W) T) H := HTOT.out
            have h2 := spec_head (54 + (I : Int)) 54 W H 32 I []
            rw [List.append_nil, List.append_nil] at h2
            rw [List.append_nil] at h1
            rw [h1, HHD.out, HX26.out, HX14.out]
            exact congrArg (· ++ _) h2
          exact spec_done hb0 hpb hz0 hP hout (by rw [List.length_append, hbytes_length, rowsDown_length (fun _ => fullRow_length _ _ _), hIT])
        · obtain ⟨k, rfl⟩ : ∃ k, m = k + 1 := ⟨m - 1, by omega⟩
          have hk1 : (((k + 1 : Nat) : Int) - 1) = k := by omega
          obtain ⟨p, hp⟩ : ∃ p : Nat, p = k * W := ⟨_, rfl⟩
          have hp2 : (k : Int) * (W : Int) = (p : Int) := by rw [hp]; simp
          have hps : p + W ≤ j := by
            have := Nat.mul_le_mul_right W (show k + 1 ≤ H by omega)
            rw [Nat.add_mul, Nat.one_mul] at this
            rw [HN.out]
            omega
          have HP := Lib.hid hp
          clear hp
          obtain ⟨wo, rfl⟩ : ∃ wo : World, wo = wr := ⟨_, rfl⟩
          go_upto_region 34 with (fail)
          have hr1 := part_made wo T (row32n (px k))
          have hW1 : Keep (fun r => r = wo.heap.size ∨ (wo.alloc (.cells (madeCells #[.int .u8 0] T) 5)).heap.size ≤ r) (wo.alloc (.cells (madeCells #[.int .u8 0] T) 5)) (wo.alloc (.cells (madeCells #[.int .u8 0] T) 5)) := Keep.refl _ _
          have hbW : Below w0.heap.size w0 (wo.alloc (.cells (madeCells #[.int .u8 0] T) 5)) := hP.below.alloc hP.below.size _
          have hlb : pb < wo.heap.size := by have := hP.below.size; omega
          have hgl : gx < wo.heap.size := by omega
          generalize hw1 : wo.alloc (.cells (madeCells #[.int .u8 0] T) 5) = W1 at hr1 hW1 hbW ⊢
          have HW1 := Lib.hid hw1
          clear hw1
          have e1 := HC1.out _ hbW
          go_wp2_with fail
          clear e1
          go_loopw [151] (fun i wr => ∃ x : Nat, x ≤ W ∧ i = .int .i64 x ∧ wr.rowIs wo.heap.size 5 T (part (row32n (px k)) (fun _ => 0) (4 * x)) ∧ Keep (fun r => r = wo.heap.size ∨ W1.heap.size ≤ r) W1 wr) (fun i _ => W - (intOf i).toNat)
          case atStart => exact ⟨0, Nat.zero_le _, rfl, hr1, hW1⟩
          case round =>
            obtain ⟨x, hx, rfl, hr, hkx⟩ := hrel
            have hbx : Below w0.heap.size w0 wr := hbW.trans (hkx.toBelow hbW.size (fun r hr => by have := hP.below.size; have := hbW.size; omega))
            by_cases hlt : x < W
            · have e1 := HC1.out _ hbx
              have e3 := HC3.out _ hbx
              have ej : ∀ i, i < 4 → wr.cell? ⟨gx, 4 * (p + x) + i, none⟩ = some (.int .u8 (px k (4 * x + i))) := fun i hi => by rw [HP.out]; exact HPZ.out _ hbx k x i (by omega) hlt hi
              have b0 : wr.cell? ⟨gx, 4 * (p + x), none⟩ = some (.int .u8 (px k (4 * x))) := ej 0 (by omega)
              have b1 := ej 1 (by omega)
              have b2 := ej 2 (by omega)
              have b3 := ej 3 (by omega)
              obtain ⟨l0, u0⟩ := HBD.out k (4 * x)
              obtain ⟨l1, u1⟩ := HBD.out k (4 * x + 1)
              obtain ⟨l2, u2⟩ := HBD.out k (4 * x + 2)
              obtain ⟨l3, u3⟩ := HBD.out k (4 * x + 3)
              have f0 := Lib.hid (row32n_0 (px k) x); have f1 := Lib.hid (row32n_1 (px k) x); have f2 := Lib.hid (row32n_2 (px k) x); have f3 := Lib.hid (row32n_3 (px k) x)
              generalize px k (4 * x) = y0 at b0 l0 u0 f2
              generalize px k (4 * x + 1) = y1 at b1 l1 u1 f1
              generalize px k (4 * x + 2) = y2 at b2 l2 u2 f0
              generalize px k (4 * x + 3) = y3 at b3 l3 u3 f3
              have hgr : gx < wr.heap.size := by have := hbx.size; omega
              have hgn : gx ≠ wr.heap.size := by omega
              clear ej hbx
              go_upto_region 41 with (fail)
              clear e1 e3
              go_region
              obtain ⟨o, ho⟩ : ∃ o : Nat, o = 4 * x := ⟨_, rfl⟩
              have hlo : (x : Int) * 32 / 8 = (o : Int) := by omega
              have hhi : ((x : Int) + 1) * 32 / 8 = (o : Int) + 4 := by omega
              have hoT : o + 4 ≤ T := by omega
              have hoT2 : o < T := by omega
              rw [← ho] at hr
              have HO := Lib.hid ho
              clear ho
              have hrz := (hr.alloc (.cells #[.int .u8 y2, .int .u8 y1, .int .u8 y0, .int .u8 y3] 56)).drew
              have hkz := (hkx.alloc (.cells #[.int .u8 y2, .int .u8 y1, .int .u8 y0, .int .u8 y3] 56)).drew
              have hnz : (wr.alloc (.cells #[.int .u8 y2, .int .u8 y1, .int .u8 y0, .int .u8 y3] 56)).drew.heap[wr.heap.size]? = some (.cells #[.int .u8 y2, .int .u8 y1, .int .u8 y0, .int .u8 y3] 56) := heap_alloc_new wr _
              have hbz : Below w0.heap.size w0 (wr.alloc (.cells #[.int .u8 y2, .int .u8 y1, .int .u8 y0, .int .u8 y3] 56)).drew := hbW.trans (hkz.toBelow hbW.size (fun r hr => by have := hP.below.size; have := hbW.size; omega))
              have hbb : Below wr.heap.size wr (wr.alloc (.cells #[.int .u8 y2, .int .u8 y1, .int .u8 y0, .int .u8 y3] 56)).drew := ((Below.refl _ _).alloc (Nat.le_refl _) _).drew
              have bz0 := (hbb.cell (p := ⟨gx, 4 * (p + x), none⟩) hgr).trans b0
              have bz1 := (hbb.cell (p := ⟨gx, 4 * (p + x) + 1, none⟩) hgr).trans b1
              have bz2 := (hbb.cell (p := ⟨gx, 4 * (p + x) + 2, none⟩) hgr).trans b2
              clear hbb
              generalize (wr.alloc (.cells #[.int .u8 y2, .int .u8 y1, .int .u8 y0, .int .u8 y3] 56)).drew = wz at hrz hkz hnz hbz bz0 bz1 bz2 ⊢
              generalize hnb : wr.heap.size = nb at hnz hgr hgn ⊢
              have hnW : W1.heap.size ≤ nb := by rw [← hnb]; exact hkx.size
              have HNZ := Lib.hid hnz
              have c0 : wz.cell? ⟨pb, 0, none⟩ = some (.int .i64 5) := (hbz.cell (p := ⟨pb, 0, none⟩) (by show pb < w0.heap.size; omega)).trans ((Lib.cell_of_heap HB0.out 0).trans rfl)
              clear hr hkx hnz hnb b0 b1 b2 b3
              go_upto_region 50 with (fail)
              have hsrc : ∀ i, i < 4 → wz.drew.cell? ((⟨nb, 0, none⟩ : Addr).add i) = some (.int .u8 (row32n (px k) (o + i))) := by
                intro i hi
                have hg : ((#[.int .u8 y2, .int .u8 y1, .int .u8 y0, .int .u8 y3] : Array Value).toList[i]?) = some (.int .u8 (row32n (px k) (o + i))) := by
                  rw [HO.out]
                  match i, hi with
                  | 0, _ => simp; exact f0.out
                  | 1, _ => simp; exact f1.out
                  | 2, _ => simp; exact f2.out
                  | 3, _ => simp; exact f3.out
                exact World.news_of_block (w := wz.drew) HNZ.out i _ hg
              obtain ⟨wy, hcp, hry, hky⟩ := run_copy_part wz.drew 3 wo.heap.size T o 4 (T - o) ⟨nb, 0, none⟩ 4 4 4 (row32n (px k)) (fun _ => 0) hrz.drew (by decide) hsrc (by omega)
              clear hsrc
              have q0 : (0 : Int) ≤ (o : Int) := by omega
              have q1 : (o : Int) + 4 ≤ (T : Int) := by omega
              have q2 : (o : Int) ≤ (o : Int) + 4 := by omega
              have q3 : ¬ T = o := by omega
              have q4 : ((o : Int) + 4).toNat - o = 4 := by omega
              clear hrz
              go_region
              all_goals
                (go_wp2_with fail
                 go_roundw
                 case measure => simp [intOf]; omega
                 case rel =>
                   go_light
                   refine ⟨x + 1, by omega, by go_num, ?_, (hkz.drew).trans (hky.weaken fun q _ hs => by omega)⟩
                   have e : o + 4 = 4 * (x + 1) := by have := HO.out; omega
                   rw [← e]
                   exact hry)
            · obtain rfl : x = W := by omega
              have hQ : Pend w0 wr g cap out [(.slice (some ⟨wo.heap.size, 0, none⟩) T T, fullRow (row32n (px k)) (4 * x) T)] := hP.line2 (o := .cells (madeCells #[.int .u8 0] T) 5) (by rw [HW1.out]; exact hkx) hr (by omega)
              have hlim : out.length + T ≤ 100000000 := by
                have := HLEN.out
                have h2 : T * H ≤ 160 * 40 := Nat.mul_le_mul hTb hH2
                rw [Nat.mul_succ] at this
                omega
              clear hbx hr hkx
              go_wp2_with (at_builtin; refine wpList_append_pend rfl (.tmp 242) (.tmp 243) rfl hQ out.length (out.length + T) (by rfl) (by rfl) (.head _) rfl (by rw [fullRow_length]) (by rw [fullRow_length]; omega) hlim ?_; clear hQ; intro g1 cap1 wx1 hR)
              go_roundw
              case measure => (simp [intOf]) <;> omega
              case rel =>
                go_light
                refine ⟨k, g1, cap1, out ++ fullRow (row32n (px k)) (4 * x) T, by omega, by go_num, by rw [List.length_append, fullRow_length], ⟨hR.own, fun p hp => absurd hp (by simp), hR.below⟩, ?_, ?_⟩
                · rw [List.append_assoc]; exact HTOT.out
                · rw [List.length_append, fullRow_length, ← HLEN.out, Nat.mul_succ]; omega
end Go.Proofs.YtfefgopomhhpfaaDoor
