/- laws.pictureOf at kind 1. -/
import Derived.Test.YtfefgopomhhpfaaDoorPicOut7
import Derived.Deep.DeepCutAuto
import Derived.Deep.RegionHeld3
import Derived.BigRegion
import Derived.BigQuiet
namespace Go.Proofs.YtfefgopomhhpfaaDoor
open Go.RowKit

set_option maxHeartbeats 3200000 in
set_option maxRecDepth 100000 in
theorem picture_1 (t a b e : Int) (dp qp : Option Addr) (dn dc qn qc W H S N : Nat) (D _Qs : List Int) (w : World) (ht0 : 0 ≤ t) (ht1 : t < 256) (htk : t % 4 = 0) (ha0 : 0 ≤ a) (ha1 : a < 256) (hb0 : 0 ≤ b) (hb1 : b < 256) (he0 : 0 ≤ e) (he1 : e < 256)
    (hW : 1 + a % 40 = (W : Int)) (hH : 1 + b % 40 = (H : Int)) (hS : (W : Int) * 1 + e % 5 = (S : Int)) (hN : N = W * H * 1) (hdn : D.length = dn) (hdn2 : dn ≤ 1000) (hD : ∀ i, i < dn → ∃ ad, dp = some ad ∧ ad.block < w.heap.size ∧ w.cell? (ad.add i) = some (.int .u8 (D.getD i 0))) (hDb : ∀ i, 0 ≤ D.getD i 0 ∧ D.getD i 0 < 256) :
    Calls Tryd.prog 4 #[.int .u8 t, .int .u8 a, .int .u8 b, .slice dp dn dc, .slice qp qn qc, .int .u8 e] w (PicOut 1 1 W H S N D (decide (t / 4 % 2 = 1)) w) := by
  have hWb : W ≤ 40 := by omega
  have hHb : H ≤ 40 := by omega
  have hW0 : 0 < W := by omega
  have hH0 : 0 < H := by omega
  have hSb : S ≤ 170 := by omega
  have hWS : W * 1 ≤ S := by omega
  have hN2 : (W : Int) * (H : Int) * 1 = (N : Int) := by rw [hN]; simp
  have hWH : W * H ≤ 1600 := Nat.le_trans (Nat.mul_le_mul hWb hHb) (by omega)
  have hNb : N ≤ 6400 := by omega
  have hWHi : (W : Int) * (H : Int) ≤ 1600 := by exact_mod_cast hWH
  have hWHj : (0 : Int) ≤ (W : Int) * (H : Int) := Int.mul_nonneg (by omega) (by omega)
  have hS1 : (W : Int) + e % 5 = (S : Int) := by omega
  have hN3 : (W : Int) * (H : Int) = (N : Int) := by omega
  have HD := Lib.hid hD
  have HDB := Lib.hid hDb
  have HN := Lib.hid hN
  have HDN := Lib.hid hdn
  clear hD hDb hN hdn
  go_enter Tryd.func4, Tryd.ntmps4
  go_wp2_with fail
  have h5 := five_made w (.cells #[.int .i64 0, .int .i64 0, .int .i64 0, .int .i64 0, .int .i64 0, .int .i64 0, .slice none 0 0, .slice none 0 0] 25) (.cells #[.int .i64 0, .int .i64 0, .int .i64 0, .slice none 0 0, .slice none 0 0] 28) (.cells #[.int .i64 1, .int .i64 3, .int .i64 5, .int .i64 7] 3) (.cells #[.int .i64 1, .int .i64 W, .int .i64 H, .slice none 0 0, .slice none 0 0] 28) (.cells #[.int .i64 1, .int .i64 0, .int .i64 0, .int .i64 W, .int .i64 H, .int .i64 S, .slice none 0 0, .slice none 0 0] 25)
  generalize (((((w.alloc (.cells #[.int .i64 0, .int .i64 0, .int .i64 0, .int .i64 0, .int .i64 0, .int .i64 0, .slice none 0 0, .slice none 0 0] 25)).alloc (.cells #[.int .i64 0, .int .i64 0, .int .i64 0, .slice none 0 0, .slice none 0 0] 28)).alloc (.cells #[.int .i64 1, .int .i64 3, .int .i64 5, .int .i64 7] 3)).alloc (.cells #[.int .i64 1, .int .i64 W, .int .i64 H, .slice none 0 0, .slice none 0 0] 28)).alloc (.cells #[.int .i64 1, .int .i64 0, .int .i64 0, .int .i64 W, .int .i64 H, .int .i64 S, .slice none 0 0, .slice none 0 0] 25)) = W0 at h5 ⊢
  generalize hB : w.heap.size = B at h5 ⊢
  obtain ⟨i0, hi0, hz0, hz1, hz2⟩ := info_parts info5
  obtain ⟨g0, g1, g3, g4, hbl, ⟨hsz1, hsz2⟩, _⟩ := h5
  have HG0 := Lib.hid g0
  have HG1 := Lib.hid g1
  have HG4 := Lib.hid g4
  clear g0 g1 g4
  obtain ⟨hi, hhi⟩ : ∃ hi : Bool, hi = decide (t / 4 % 2 = 1) := ⟨_, rfl⟩
  have HHI := Lib.hid hhi
  clear hhi
  go_loopw [67] (fun i wr => ∃ (k : Nat) (v : Value), k ≤ N ∧ i = .int .i64 k ∧ wr.heap[B + 1 + 1 + 1]? = some (.cells #[.int .i64 1, .int .i64 W, .int .i64 H, v, .slice none 0 0] 28) ∧ wr.ownsRow (B + 5) 5 1 v k (u8s (pixs D hi k)) ∧ Keep (· = B + 1 + 1 + 1) W0 wr) (fun i _ => N - (intOf i).toNat)
  case atStart => exact ⟨0, .slice none 0 0, Nat.zero_le _, rfl, g3, World.ownsRow_nil _ _ _ _, Keep.refl _ _⟩
  case round =>
    obtain ⟨k, v, hk, rfl, hbx, hown, hkp⟩ := hrel
    have hsw : B + 5 ≤ wr.heap.size := by have := hkp.size; omega
    by_cases hlt : k < N
    · have c3 : wr.cell? ⟨B + 1 + 1 + 1, 3, none⟩ = some v := (Lib.cell_of_heap hbx 3).trans rfl
      have HBX := Lib.hid hbx
      clear hbx
      by_cases hd : dn = 0
      · subst hd
        by_cases ht2 : hi = true
        · by_cases hc2 : k % 4 = 3
          · have ht3 : t / 4 % 2 = 1 := by have h := HHI.out; rw [ht2] at h; exact of_decide_eq_true h.symm
            have hk4 : (k : Int) % 4 = 3 := by omega
            have HT := Lib.hid ht2
            clear ht2
            go_wp2_with (at_builtin; refine wpList_append_lies _ rfl (.tmp 99) (.tmp 101) 22 rfl (B + 5) 5 i0 (.int .u8 0) 1 1 Tryd.underlying22 hi0 hz0 hz1 hz2 rfl (by omega) _ k (u8s (pixs D hi k)) (by rfl) (World.ownsRow.alloc (w := wr) hown _) ⟨wr.heap.size, 0, none⟩ 1 1 _ (by rfl) (by rfl) (World.news_of_block (heap_alloc_new wr _)) (by simp [Value.oneCell']) (by omega) (by unfold maxLen; omega) (by omega) (by simp; omega) (wr.heap.size + 1) (by simp) ?_; intro gz capz w1 hown1 hgrow _ hlt1; have hb1 : w1.heap[B + 1 + 1 + 1]? = some (.cells #[.int .i64 1, .int .i64 W, .int .i64 H, v, .slice none 0 0] 28) := (hgrow.block (B + 1 + 1 + 1) (by simp; omega) (fun e => by have := (hown.lt (B + 1 + 1 + 1) e.symm).1; omega)).trans ((Below.heap_alloc _ _ _ (by show B + 1 + 1 + 1 < wr.heap.size; omega)).trans HBX.out); have c3' : w1.cell? ⟨B + 1 + 1 + 1, 3, none⟩ = some v := (Lib.cell_of_heap hb1 3).trans rfl; have zf : ∀ i, w1.frozen? ⟨B + 1 + 1 + 1, i, none⟩ = false := fun i => Lib.frozen_of_heap hb1 i)
            go_roundw
            case measure => (simp [intOf]) <;> omega
            case rel =>
              go_light
              have r1 := Lib.heap_setCell_same (i := 3) hb1 (.slice (some ⟨gz, 0, none⟩) (k + 1) capz)
              have r2 := pix_step (b := B + 1 + 1 + 1) (u := .slice (some ⟨gz, 0, none⟩) (k + 1) capz) hown1 ((pixv_hi HT.out hc2).symm) (by omega)
              have r3 := (Keep.grown (Keep.alloc hkp _) hgrow (fun q hq => .inr (by have := (hown.lt q hq).1; omega))).setCell (p := ⟨B + 1 + 1 + 1, 3, none⟩) (.inl rfl) (.slice (some ⟨gz, 0, none⟩) (k + 1) capz)
              refine ⟨_, _, _, ⟨k + 1, by omega, ?_, _, r1, r2, r3⟩, rfl, rfl, rfl⟩
              go_num
          · have ht3 : t / 4 % 2 = 1 := by have h := HHI.out; rw [ht2] at h; exact of_decide_eq_true h.symm
            have hk4 : ¬ (k : Int) % 4 = 3 := by omega
            have HC : Hid (¬ (hi = true ∧ k % 4 = 3)) := fun h => hc2 h.2
            clear ht2
            go_wp2_with (at_builtin; refine wpList_append_lies _ rfl (.tmp 99) (.tmp 101) 22 rfl (B + 5) 5 i0 (.int .u8 0) 1 1 Tryd.underlying22 hi0 hz0 hz1 hz2 rfl (by omega) _ k (u8s (pixs D hi k)) (by rfl) (World.ownsRow.alloc (w := wr) hown _) ⟨wr.heap.size, 0, none⟩ 1 1 _ (by rfl) (by rfl) (World.news_of_block (heap_alloc_new wr _)) (by simp [Value.oneCell']) (by omega) (by unfold maxLen; omega) (by omega) (by simp; omega) (wr.heap.size + 1) (by simp) ?_; intro gz capz w1 hown1 hgrow _ hlt1; have hb1 : w1.heap[B + 1 + 1 + 1]? = some (.cells #[.int .i64 1, .int .i64 W, .int .i64 H, v, .slice none 0 0] 28) := (hgrow.block (B + 1 + 1 + 1) (by simp; omega) (fun e => by have := (hown.lt (B + 1 + 1 + 1) e.symm).1; omega)).trans ((Below.heap_alloc _ _ _ (by show B + 1 + 1 + 1 < wr.heap.size; omega)).trans HBX.out); have c3' : w1.cell? ⟨B + 1 + 1 + 1, 3, none⟩ = some v := (Lib.cell_of_heap hb1 3).trans rfl; have zf : ∀ i, w1.frozen? ⟨B + 1 + 1 + 1, i, none⟩ = false := fun i => Lib.frozen_of_heap hb1 i)
            go_roundw
            case measure => (simp [intOf]) <;> omega
            case rel =>
              go_light
              have r1 := Lib.heap_setCell_same (i := 3) hb1 (.slice (some ⟨gz, 0, none⟩) (k + 1) capz)
              have r2 := pix_step (b := B + 1 + 1 + 1) (u := .slice (some ⟨gz, 0, none⟩) (k + 1) capz) hown1 ((pixv_nil HC.out HDN.out).symm) (by omega)
              have r3 := (Keep.grown (Keep.alloc hkp _) hgrow (fun q hq => .inr (by have := (hown.lt q hq).1; omega))).setCell (p := ⟨B + 1 + 1 + 1, 3, none⟩) (.inl rfl) (.slice (some ⟨gz, 0, none⟩) (k + 1) capz)
              refine ⟨_, _, _, ⟨k + 1, by omega, ?_, _, r1, r2, r3⟩, rfl, rfl, rfl⟩
              go_num
        · have ht3 : ¬ (t / 4 % 2 = 1) := fun h => by have h2 := HHI.out; rw [decide_eq_true h] at h2; exact ht2 h2
          have HC : Hid (¬ (hi = true ∧ k % 4 = 3)) := fun h => ht2 h.1
          clear ht2
          go_wp2_with (at_builtin; refine wpList_append_lies _ rfl (.tmp 99) (.tmp 101) 22 rfl (B + 5) 5 i0 (.int .u8 0) 1 1 Tryd.underlying22 hi0 hz0 hz1 hz2 rfl (by omega) _ k (u8s (pixs D hi k)) (by rfl) (World.ownsRow.alloc (w := wr) hown _) ⟨wr.heap.size, 0, none⟩ 1 1 _ (by rfl) (by rfl) (World.news_of_block (heap_alloc_new wr _)) (by simp [Value.oneCell']) (by omega) (by unfold maxLen; omega) (by omega) (by simp; omega) (wr.heap.size + 1) (by simp) ?_; intro gz capz w1 hown1 hgrow _ hlt1; have hb1 : w1.heap[B + 1 + 1 + 1]? = some (.cells #[.int .i64 1, .int .i64 W, .int .i64 H, v, .slice none 0 0] 28) := (hgrow.block (B + 1 + 1 + 1) (by simp; omega) (fun e => by have := (hown.lt (B + 1 + 1 + 1) e.symm).1; omega)).trans ((Below.heap_alloc _ _ _ (by show B + 1 + 1 + 1 < wr.heap.size; omega)).trans HBX.out); have c3' : w1.cell? ⟨B + 1 + 1 + 1, 3, none⟩ = some v := (Lib.cell_of_heap hb1 3).trans rfl; have zf : ∀ i, w1.frozen? ⟨B + 1 + 1 + 1, i, none⟩ = false := fun i => Lib.frozen_of_heap hb1 i)
          go_roundw
          case measure => (simp [intOf]) <;> omega
          case rel =>
            go_light
            have r1 := Lib.heap_setCell_same (i := 3) hb1 (.slice (some ⟨gz, 0, none⟩) (k + 1) capz)
            have r2 := pix_step (b := B + 1 + 1 + 1) (u := .slice (some ⟨gz, 0, none⟩) (k + 1) capz) hown1 ((pixv_nil HC.out HDN.out).symm) (by omega)
            have r3 := (Keep.grown (Keep.alloc hkp _) hgrow (fun q hq => .inr (by have := (hown.lt q hq).1; omega))).setCell (p := ⟨B + 1 + 1 + 1, 3, none⟩) (.inl rfl) (.slice (some ⟨gz, 0, none⟩) (k + 1) capz)
            refine ⟨_, _, _, ⟨k + 1, by omega, ?_, _, r1, r2, r3⟩, rfl, rfl, rfl⟩
            go_num
      · have hd1 : 0 < dn := by omega
        by_cases ht2 : hi = true
        · by_cases hc2 : k % 4 = 3
          · have ht3 : t / 4 % 2 = 1 := by have h := HHI.out; rw [ht2] at h; exact of_decide_eq_true h.symm
            have hk4 : (k : Int) % 4 = 3 := by omega
            have HT := Lib.hid ht2
            clear ht2
            obtain ⟨r, hr⟩ : ∃ r : Nat, r = k % dn := ⟨_, rfl⟩
            obtain ⟨q, hq⟩ : ∃ q : Nat, q = k / dn := ⟨_, rfl⟩
            have hr1 : (k : Int) % (dn : Int) = (r : Int) := by rw [hr]; simp
            have hr2 : (k : Int).tmod (dn : Int) = (r : Int) := by rw [Int.tmod_eq_emod_of_nonneg (by omega)]; exact hr1
            have hq1 : (k : Int) / (dn : Int) = (q : Int) := by rw [hq]; simp
            have hq2 : (k : Int).tdiv (dn : Int) = (q : Int) := by rw [Int.tdiv_eq_ediv_of_nonneg (by omega)]; exact hq1
            have hrl : r < dn := by rw [hr]; exact Nat.mod_lt _ hd1
            have hql : q ≤ 6400 := by rw [hq]; exact Nat.le_trans (Nat.div_le_self _ _) (by omega)
            obtain ⟨ad, hda, hdl, hdc⟩ := HD.out (k % dn) (Nat.mod_lt _ (by omega))
            rw [← hr] at hdc
            have HR := Lib.hid hr
            have HQ := Lib.hid hq
            clear hr hq
            have hdr : wr.cell? (ad.add r) = some (.int .u8 (D.getD r 0)) := ((hkp.cell (p := ad.add r) (by rw [Lib.block_add]; omega) (by rw [Lib.block_add]; omega)).trans (hbl.cell (p := ad.add r) (by rw [Lib.block_add]; omega))).trans hdc
            subst hda
            obtain ⟨hy0, hy1⟩ := HDB.out r
            obtain ⟨y, hy⟩ : ∃ y, y = D.getD r 0 := ⟨_, rfl⟩
            rw [← hy] at hdr hy0 hy1
            have HY := Lib.hid hy
            clear hy hdl hdc
            go_upto_region 11 with (fail)
            go_quiet (fail)
            go_wp2_with (at_builtin; refine wpList_append_lies _ rfl (.tmp 99) (.tmp 101) 22 rfl (B + 5) 5 i0 (.int .u8 0) 1 1 Tryd.underlying22 hi0 hz0 hz1 hz2 rfl (by omega) _ k (u8s (pixs D hi k)) (by rfl) (World.ownsRow.alloc (w := (wr.drewN _)) hown _) ⟨wr.heap.size, 0, none⟩ 1 1 _ (by rfl) (by rfl) (World.news_of_block (heap_alloc_new (wr.drewN _) _)) (by simp [Value.oneCell']) (by omega) (by unfold maxLen; omega) (by omega) (by simp; omega) (wr.heap.size + 1) (by simp) ?_; intro gz capz w1 hown1 hgrow _ hlt1; have hb1 : w1.heap[B + 1 + 1 + 1]? = some (.cells #[.int .i64 1, .int .i64 W, .int .i64 H, v, .slice none 0 0] 28) := (hgrow.block (B + 1 + 1 + 1) (by simp; omega) (fun e => by have := (hown.lt (B + 1 + 1 + 1) e.symm).1; omega)).trans ((Below.heap_alloc _ _ _ (by show B + 1 + 1 + 1 < wr.heap.size; omega)).trans HBX.out); have c3' : w1.cell? ⟨B + 1 + 1 + 1, 3, none⟩ = some v := (Lib.cell_of_heap hb1 3).trans rfl; have zf : ∀ i, w1.frozen? ⟨B + 1 + 1 + 1, i, none⟩ = false := fun i => Lib.frozen_of_heap hb1 i)
            go_roundw
            case measure => (simp [intOf]) <;> omega
            case rel =>
              go_light
              have r1 := Lib.heap_setCell_same (i := 3) hb1 (.slice (some ⟨gz, 0, none⟩) (k + 1) capz)
              have r2 := pix_step (b := B + 1 + 1 + 1) (u := .slice (some ⟨gz, 0, none⟩) (k + 1) capz) hown1 ((pixv_hi HT.out hc2).symm) (by omega)
              have r3 := (Keep.grown (Keep.alloc (Keep.drewN hkp _) _) hgrow (fun q hq => .inr (by have := (hown.lt q hq).1; omega))).setCell (p := ⟨B + 1 + 1 + 1, 3, none⟩) (.inl rfl) (.slice (some ⟨gz, 0, none⟩) (k + 1) capz)
              refine ⟨_, _, _, ⟨k + 1, by omega, ?_, _, r1, r2, r3⟩, rfl, rfl, rfl⟩
              go_num
          · have ht3 : t / 4 % 2 = 1 := by have h := HHI.out; rw [ht2] at h; exact of_decide_eq_true h.symm
            have hk4 : ¬ (k : Int) % 4 = 3 := by omega
            have HC : Hid (¬ (hi = true ∧ k % 4 = 3)) := fun h => hc2 h.2
            clear ht2
            obtain ⟨r, hr⟩ : ∃ r : Nat, r = k % dn := ⟨_, rfl⟩
            obtain ⟨q, hq⟩ : ∃ q : Nat, q = k / dn := ⟨_, rfl⟩
            have hr1 : (k : Int) % (dn : Int) = (r : Int) := by rw [hr]; simp
            have hr2 : (k : Int).tmod (dn : Int) = (r : Int) := by rw [Int.tmod_eq_emod_of_nonneg (by omega)]; exact hr1
            have hq1 : (k : Int) / (dn : Int) = (q : Int) := by rw [hq]; simp
            have hq2 : (k : Int).tdiv (dn : Int) = (q : Int) := by rw [Int.tdiv_eq_ediv_of_nonneg (by omega)]; exact hq1
            have hrl : r < dn := by rw [hr]; exact Nat.mod_lt _ hd1
            have hql : q ≤ 6400 := by rw [hq]; exact Nat.le_trans (Nat.div_le_self _ _) (by omega)
            obtain ⟨ad, hda, hdl, hdc⟩ := HD.out (k % dn) (Nat.mod_lt _ (by omega))
            rw [← hr] at hdc
            have HR := Lib.hid hr
            have HQ := Lib.hid hq
            clear hr hq
            have hdr : wr.cell? (ad.add r) = some (.int .u8 (D.getD r 0)) := ((hkp.cell (p := ad.add r) (by rw [Lib.block_add]; omega) (by rw [Lib.block_add]; omega)).trans (hbl.cell (p := ad.add r) (by rw [Lib.block_add]; omega))).trans hdc
            subst hda
            obtain ⟨hy0, hy1⟩ := HDB.out r
            obtain ⟨y, hy⟩ : ∃ y, y = D.getD r 0 := ⟨_, rfl⟩
            rw [← hy] at hdr hy0 hy1
            have HY := Lib.hid hy
            clear hy hdl hdc
            go_upto_region 11 with (fail)
            go_quiet (fail)
            go_wp2_with (at_builtin; refine wpList_append_lies _ rfl (.tmp 99) (.tmp 101) 22 rfl (B + 5) 5 i0 (.int .u8 0) 1 1 Tryd.underlying22 hi0 hz0 hz1 hz2 rfl (by omega) _ k (u8s (pixs D hi k)) (by rfl) (World.ownsRow.alloc (w := (wr.drewN _)) hown _) ⟨wr.heap.size, 0, none⟩ 1 1 _ (by rfl) (by rfl) (World.news_of_block (heap_alloc_new (wr.drewN _) _)) (by simp [Value.oneCell']) (by omega) (by unfold maxLen; omega) (by omega) (by simp; omega) (wr.heap.size + 1) (by simp) ?_; intro gz capz w1 hown1 hgrow _ hlt1; have hb1 : w1.heap[B + 1 + 1 + 1]? = some (.cells #[.int .i64 1, .int .i64 W, .int .i64 H, v, .slice none 0 0] 28) := (hgrow.block (B + 1 + 1 + 1) (by simp; omega) (fun e => by have := (hown.lt (B + 1 + 1 + 1) e.symm).1; omega)).trans ((Below.heap_alloc _ _ _ (by show B + 1 + 1 + 1 < wr.heap.size; omega)).trans HBX.out); have c3' : w1.cell? ⟨B + 1 + 1 + 1, 3, none⟩ = some v := (Lib.cell_of_heap hb1 3).trans rfl; have zf : ∀ i, w1.frozen? ⟨B + 1 + 1 + 1, i, none⟩ = false := fun i => Lib.frozen_of_heap hb1 i)
            go_roundw
            case measure => (simp [intOf]) <;> omega
            case rel =>
              go_light
              have r1 := Lib.heap_setCell_same (i := 3) hb1 (.slice (some ⟨gz, 0, none⟩) (k + 1) capz)
              have r2 := pix_step (b := B + 1 + 1 + 1) (u := .slice (some ⟨gz, 0, none⟩) (k + 1) capz) hown1 ((by rw [pixv_dat HC.out (by rw [HDN.out]; omega), HDN.out, ← HR.out, ← HQ.out, ← HY.out]; omega)) (by omega)
              have r3 := (Keep.grown (Keep.alloc (Keep.drewN hkp _) _) hgrow (fun q hq => .inr (by have := (hown.lt q hq).1; omega))).setCell (p := ⟨B + 1 + 1 + 1, 3, none⟩) (.inl rfl) (.slice (some ⟨gz, 0, none⟩) (k + 1) capz)
              refine ⟨_, _, _, ⟨k + 1, by omega, ?_, _, r1, r2, r3⟩, rfl, rfl, rfl⟩
              go_num
        · have ht3 : ¬ (t / 4 % 2 = 1) := fun h => by have h2 := HHI.out; rw [decide_eq_true h] at h2; exact ht2 h2
          have HC : Hid (¬ (hi = true ∧ k % 4 = 3)) := fun h => ht2 h.1
          clear ht2
          obtain ⟨r, hr⟩ : ∃ r : Nat, r = k % dn := ⟨_, rfl⟩
          obtain ⟨q, hq⟩ : ∃ q : Nat, q = k / dn := ⟨_, rfl⟩
          have hr1 : (k : Int) % (dn : Int) = (r : Int) := by rw [hr]; simp
          have hr2 : (k : Int).tmod (dn : Int) = (r : Int) := by rw [Int.tmod_eq_emod_of_nonneg (by omega)]; exact hr1
          have hq1 : (k : Int) / (dn : Int) = (q : Int) := by rw [hq]; simp
          have hq2 : (k : Int).tdiv (dn : Int) = (q : Int) := by rw [Int.tdiv_eq_ediv_of_nonneg (by omega)]; exact hq1
          have hrl : r < dn := by rw [hr]; exact Nat.mod_lt _ hd1
          have hql : q ≤ 6400 := by rw [hq]; exact Nat.le_trans (Nat.div_le_self _ _) (by omega)
          obtain ⟨ad, hda, hdl, hdc⟩ := HD.out (k % dn) (Nat.mod_lt _ (by omega))
          rw [← hr] at hdc
          have HR := Lib.hid hr
          have HQ := Lib.hid hq
          clear hr hq
          have hdr : wr.cell? (ad.add r) = some (.int .u8 (D.getD r 0)) := ((hkp.cell (p := ad.add r) (by rw [Lib.block_add]; omega) (by rw [Lib.block_add]; omega)).trans (hbl.cell (p := ad.add r) (by rw [Lib.block_add]; omega))).trans hdc
          subst hda
          obtain ⟨hy0, hy1⟩ := HDB.out r
          obtain ⟨y, hy⟩ : ∃ y, y = D.getD r 0 := ⟨_, rfl⟩
          rw [← hy] at hdr hy0 hy1
          have HY := Lib.hid hy
          clear hy hdl hdc
          go_upto_region 11 with (fail)
          go_quiet (fail)
          go_wp2_with (at_builtin; refine wpList_append_lies _ rfl (.tmp 99) (.tmp 101) 22 rfl (B + 5) 5 i0 (.int .u8 0) 1 1 Tryd.underlying22 hi0 hz0 hz1 hz2 rfl (by omega) _ k (u8s (pixs D hi k)) (by rfl) (World.ownsRow.alloc (w := (wr.drewN _)) hown _) ⟨wr.heap.size, 0, none⟩ 1 1 _ (by rfl) (by rfl) (World.news_of_block (heap_alloc_new (wr.drewN _) _)) (by simp [Value.oneCell']) (by omega) (by unfold maxLen; omega) (by omega) (by simp; omega) (wr.heap.size + 1) (by simp) ?_; intro gz capz w1 hown1 hgrow _ hlt1; have hb1 : w1.heap[B + 1 + 1 + 1]? = some (.cells #[.int .i64 1, .int .i64 W, .int .i64 H, v, .slice none 0 0] 28) := (hgrow.block (B + 1 + 1 + 1) (by simp; omega) (fun e => by have := (hown.lt (B + 1 + 1 + 1) e.symm).1; omega)).trans ((Below.heap_alloc _ _ _ (by show B + 1 + 1 + 1 < wr.heap.size; omega)).trans HBX.out); have c3' : w1.cell? ⟨B + 1 + 1 + 1, 3, none⟩ = some v := (Lib.cell_of_heap hb1 3).trans rfl; have zf : ∀ i, w1.frozen? ⟨B + 1 + 1 + 1, i, none⟩ = false := fun i => Lib.frozen_of_heap hb1 i)
          go_roundw
          case measure => (simp [intOf]) <;> omega
          case rel =>
            go_light
            have r1 := Lib.heap_setCell_same (i := 3) hb1 (.slice (some ⟨gz, 0, none⟩) (k + 1) capz)
            have r2 := pix_step (b := B + 1 + 1 + 1) (u := .slice (some ⟨gz, 0, none⟩) (k + 1) capz) hown1 ((by rw [pixv_dat HC.out (by rw [HDN.out]; omega), HDN.out, ← HR.out, ← HQ.out, ← HY.out]; omega)) (by omega)
            have r3 := (Keep.grown (Keep.alloc (Keep.drewN hkp _) _) hgrow (fun q hq => .inr (by have := (hown.lt q hq).1; omega))).setCell (p := ⟨B + 1 + 1 + 1, 3, none⟩) (.inl rfl) (.slice (some ⟨gz, 0, none⟩) (k + 1) capz)
            refine ⟨_, _, _, ⟨k + 1, by omega, ?_, _, r1, r2, r3⟩, rfl, rfl, rfl⟩
            go_num
    · have hkN : k = N := by omega
      have hN0 : 0 < N := by rw [HN.out]; exact Nat.mul_pos (Nat.mul_pos hW0 hH0) (by omega)
      rw [hkN] at hown
      clear hkN
      obtain ⟨gp, cp, rfl, hgp1, hgp2⟩ := hown.form hN0
      have c2 : wr.cell? ⟨B + 1 + 1 + 1, 2, none⟩ = some (.int .i64 H) := (Lib.cell_of_heap hbx 2).trans rfl
      have HB2 := Lib.hid hbx
      clear hbx
      go_wp2_with fail
      clear c2
      obtain ⟨W2, rfl⟩ : ∃ W2 : World, W2 = wr := ⟨_, rfl⟩
      have hg4 : W2.heap[B + 1 + 1 + 1 + 1]? = some (.cells #[.int .i64 1, .int .i64 0, .int .i64 0, .int .i64 W, .int .i64 H, .int .i64 S, .slice none 0 0, .slice none 0 0] 25) := (hkp.block _ (by omega) (by omega)).trans HG4.out
      have hNcp : N ≤ cp := by
        rcases hown.2 with ⟨h1, _⟩ | ⟨g', cap', cur, h1, _, _, h2, _⟩
        · injection h1 with h3; cases h3
        · injection h1 with h3 h4 h5
          omega
      have hcpm : cp ≤ 9223372036854775807 := by
        rcases hown.2 with ⟨h1, _⟩ | ⟨g', cap', cur, h1, _, _, _, h2, _⟩
        · injection h1 with h3; cases h3
        · injection h1 with h3 h4 h5
          unfold maxLen at h2
          omega
      have HOWN := Lib.hid hown
      clear hown
      go_loopw [107] (fun i wr => ∃ (y : Nat) (u : Value), y ≤ H ∧ i = .int .i64 y ∧ wr.heap[B + 1 + 1 + 1 + 1]? = some (.cells #[.int .i64 1, .int .i64 0, .int .i64 0, .int .i64 W, .int .i64 H, .int .i64 S, u, .slice none 0 0] 25) ∧ wr.ownsRow W2.heap.size 5 1 u (S * y) (u8s (rowsUp (lineOf (pixv D hi) (W) S) y)) ∧ Keep (· = B + 1 + 1 + 1 + 1) W2 wr) (fun i _ => H - (intOf i).toNat)
      case atStart => exact ⟨0, .slice none 0 0, Nat.zero_le _, rfl, hg4, World.ownsRow_nil _ _ _ _, Keep.refl _ _⟩
      case round =>
        obtain ⟨y, u, hy, rfl, hb4, hou, hky⟩ := hrel
        have hsy : W2.heap.size ≤ wr.heap.size := hky.size
        by_cases hly : y < H
        · have e1 : wr.cell? ⟨B + 1 + 1 + 1, 1, none⟩ = some (.int .i64 W) := (Lib.cell_of_heap ((hky.block _ (by omega) (by omega)).trans HB2.out) 1).trans rfl
          have e3 : wr.cell? ⟨B + 1 + 1 + 1, 3, none⟩ = some (.slice (some ⟨gp, 0, none⟩) N cp) := (Lib.cell_of_heap ((hky.block _ (by omega) (by omega)).trans HB2.out) 3).trans rfl
          obtain ⟨p, hp⟩ : ∃ p : Nat, p = y * W := ⟨_, rfl⟩
          have hp1 : (y : Int) * (W : Int) = (p : Int) := by rw [hp]; simp
          have hp2 : ((y : Int) + 1) * (W : Int) = (p : Int) + W := by rw [Int.add_mul, hp1, Int.one_mul]
          have hpN : (p + W) ≤ N := by
            have h1 := Nat.mul_le_mul_right W (show y + 1 ≤ H by omega)
            rw [Nat.add_mul, Nat.one_mul, ← hp] at h1
            rw [HN.out, Nat.mul_comm W H]
            rw [Nat.mul_one]
            exact h1
          have HP := Lib.hid hp
          clear hp
          have q1 : ¬ cp = p := by omega
          have q2 : (p + W) - p = W := by omega
          obtain ⟨m, hm⟩ : ∃ m : Nat, m = S - W := ⟨_, rfl⟩
          have hm1 : (S : Int) - (W : Int) = (m : Int) := by omega
          have hm2 : m ≤ 1000 := by omega
          have HM := Lib.hid hm
          clear hm
          go_upto_region 20 with (fail)
          clear e1 e3
          have e6 : wr.cell? ⟨B + 1 + 1 + 1 + 1, 6, none⟩ = some u := (Lib.cell_of_heap hb4 6).trans rfl
          have e5 : wr.cell? ⟨B + 1 + 1 + 1 + 1, 5, none⟩ = some (.int .i64 S) := (Lib.cell_of_heap hb4 5).trans rfl
          have HB4 := Lib.hid hb4
          clear hb4
          have hnews := row_news (off := p) (L := W) (owns_keep HOWN.out hky (by omega)) (by omega)
          have hSy : S * y ≤ 170 * 40 := Nat.mul_le_mul hSb (by omega)
          have hL0 : 0 < W := by omega
          go_region_law
            (first
              | (refine step_append_lies _ rfl (.tmp 127) (.tmp 128) 22 rfl W2.heap.size 5 i0 (.int .u8 0) 1 1 Tryd.underlying22 hi0 hz0 hz1 hz2 rfl (by omega) u (S * y) (u8s (rowsUp (lineOf (pixv D hi) (W) S) y)) (by rfl) hou ⟨gp, p, none⟩ _ (cp - p) (u8s (rowOf (fun x => pixv D hi (p + x)) (W))) (by rfl) (by simp [u8s, rowOf_length]; try omega) hnews (u8s_one _) (by omega) (by unfold maxLen; omega) (by omega) hsy wr.heap.size rfl ?_
                 intro g1 cap1 w1 hown1 hgrow1 _ hlt1
                 have hb41 : w1.heap[B + 1 + 1 + 1 + 1]? = some (.cells #[.int .i64 1, .int .i64 0, .int .i64 0, .int .i64 W, .int .i64 H, .int .i64 S, u, .slice none 0 0] 25) := (hgrow1.block (B + 1 + 1 + 1 + 1) (by show B + 1 + 1 + 1 + 1 < wr.heap.size; omega) (fun e => by have := (hou.lt (B + 1 + 1 + 1 + 1) e.symm).1; omega)).trans HB4.out
                 have k6 : w1.cell? ⟨B + 1 + 1 + 1 + 1, 6, none⟩ = some u := (Lib.cell_of_heap hb41 6).trans rfl
                 have k5 : w1.cell? ⟨B + 1 + 1 + 1 + 1, 5, none⟩ = some (.int .i64 S) := (Lib.cell_of_heap hb41 5).trans rfl)
              | (obtain ⟨g2, cap2, w2, hr2, hown2, hgrow2⟩ := run_append_zeros' w1 W2.heap.size 22 g1 _ cap1 _ hown1 m (by omega) (by omega) (by have := hgrow1.size; have h2 : wr.heap.size ≤ w1.heap.size := this; omega)
                 refine step_append_run rfl (.tmp 129) (.tmp 134) 22 3 rfl _ _ (by rfl) (by first | rfl | (simp [Act.eval, Act.put]; done) | (simp [Act.eval, Act.put, IntKind.wrap_i64]; omega)) _ _ hr2 ?_
                 have hb42 : w2.heap[B + 1 + 1 + 1 + 1]? = some (.cells #[.int .i64 1, .int .i64 0, .int .i64 0, .int .i64 W, .int .i64 H, .int .i64 S, u, .slice none 0 0] 25) := (hgrow2.block (B + 1 + 1 + 1 + 1) (Lib.lt_of_heap hb41) (fun e => by have := (hown1.lt g1 rfl).1; injection e with e; omega)).trans hb41
                 have k6 : w2.cell? ⟨B + 1 + 1 + 1 + 1, 6, none⟩ = some u := (Lib.cell_of_heap hb42 6).trans rfl
                 have k5 : w2.cell? ⟨B + 1 + 1 + 1 + 1, 5, none⟩ = some (.int .i64 S) := (Lib.cell_of_heap hb42 5).trans rfl
                 have zf : ∀ i, w2.frozen? ⟨B + 1 + 1 + 1 + 1, i, none⟩ = false := fun i => Lib.frozen_of_heap hb42 i))
          all_goals
            (go_wp2_with fail
             go_roundw
             case measure => (simp [intOf]) <;> omega
             case rel =>
               repeat (apply Exists.intro)
               refine And.intro ?rel2 ?eqs2
               case eqs2 =>
                 simp only [htk]
                 repeat (first | exact rfl | refine And.intro rfl ?_)
               case rel2 =>
                 have r1 := Lib.heap_setCell_same (i := 6) hb42 (.slice (some ⟨g2, 0, none⟩) (S * y + W + m) cap2)
                 have r2 := line_step1 (b := B + 1 + 1 + 1 + 1) (i := 6) (v := .slice (some ⟨g2, 0, none⟩) (S * y + W + m) cap2) hown2 HP.out HM.out (by omega) (by omega)
                 have r3 := (Keep.grown (Keep.grown (Keep.drew hky) hgrow1 (fun q hq => .inr (hou.lt q hq).1)) hgrow2 (fun q hq => .inr (by have := (hown1.lt q hq).1; omega))).setCell (p := ⟨B + 1 + 1 + 1 + 1, 6, none⟩) (.inl rfl) (.slice (some ⟨g2, 0, none⟩) (S * y + W + m) cap2)
                 refine ⟨y + 1, _, by omega, ?_, r1, r2, r3⟩
                 go_num)
        · have hyH : y = H := by omega
          have hSH : 0 < S * H := Nat.mul_pos (by omega) hH0
          rw [hyH] at hou
          clear hyH
          obtain ⟨gs, cs, rfl, hgs1, hgs2⟩ := hou.form hSH
          have hb3 := (hky.block (B + 1 + 1 + 1) (by omega) (by omega)).trans HB2.out
          have hb0 := (hky.block B (by omega) (by omega)).trans ((hkp.block B (by omega) (by omega)).trans HG0.out)
          have hb1 := (hky.block (B + 1) (by omega) (by omega)).trans ((hkp.block (B + 1) (by omega) (by omega)).trans HG1.out)
          have x0 : wr.cell? ⟨B + 1 + 1 + 1 + 1, 0, none⟩ = _ := (Lib.cell_of_heap hb4 0).trans rfl
          have x1 : wr.cell? ⟨B + 1 + 1 + 1 + 1, 1, none⟩ = _ := (Lib.cell_of_heap hb4 1).trans rfl
          have x2 : wr.cell? ⟨B + 1 + 1 + 1 + 1, 2, none⟩ = _ := (Lib.cell_of_heap hb4 2).trans rfl
          have x3 : wr.cell? ⟨B + 1 + 1 + 1 + 1, 3, none⟩ = _ := (Lib.cell_of_heap hb4 3).trans rfl
          have x4 : wr.cell? ⟨B + 1 + 1 + 1 + 1, 4, none⟩ = _ := (Lib.cell_of_heap hb4 4).trans rfl
          have x5 : wr.cell? ⟨B + 1 + 1 + 1 + 1, 5, none⟩ = _ := (Lib.cell_of_heap hb4 5).trans rfl
          have x6 : wr.cell? ⟨B + 1 + 1 + 1 + 1, 6, none⟩ = _ := (Lib.cell_of_heap hb4 6).trans rfl
          have x7 : wr.cell? ⟨B + 1 + 1 + 1 + 1, 7, none⟩ = _ := (Lib.cell_of_heap hb4 7).trans rfl
          have y0 : wr.cell? ⟨B + 1 + 1 + 1, 0, none⟩ = _ := (Lib.cell_of_heap hb3 0).trans rfl
          have y1 : wr.cell? ⟨B + 1 + 1 + 1, 1, none⟩ = _ := (Lib.cell_of_heap hb3 1).trans rfl
          have y2 : wr.cell? ⟨B + 1 + 1 + 1, 2, none⟩ = _ := (Lib.cell_of_heap hb3 2).trans rfl
          have y3 : wr.cell? ⟨B + 1 + 1 + 1, 3, none⟩ = _ := (Lib.cell_of_heap hb3 3).trans rfl
          have y4 : wr.cell? ⟨B + 1 + 1 + 1, 4, none⟩ = _ := (Lib.cell_of_heap hb3 4).trans rfl
          have s0 : wr.cell? ⟨B, 0, none⟩ = _ := (Lib.cell_of_heap hb0 0).trans rfl
          have s1 : wr.cell? ⟨B, 1, none⟩ = _ := (Lib.cell_of_heap hb0 1).trans rfl
          have s2 : wr.cell? ⟨B, 2, none⟩ = _ := (Lib.cell_of_heap hb0 2).trans rfl
          have s3 : wr.cell? ⟨B, 3, none⟩ = _ := (Lib.cell_of_heap hb0 3).trans rfl
          have s4 : wr.cell? ⟨B, 4, none⟩ = _ := (Lib.cell_of_heap hb0 4).trans rfl
          have s5 : wr.cell? ⟨B, 5, none⟩ = _ := (Lib.cell_of_heap hb0 5).trans rfl
          have s6 : wr.cell? ⟨B, 6, none⟩ = _ := (Lib.cell_of_heap hb0 6).trans rfl
          have s7 : wr.cell? ⟨B, 7, none⟩ = _ := (Lib.cell_of_heap hb0 7).trans rfl
          have t0 : wr.cell? ⟨B + 1, 0, none⟩ = _ := (Lib.cell_of_heap hb1 0).trans rfl
          have t1 : wr.cell? ⟨B + 1, 1, none⟩ = _ := (Lib.cell_of_heap hb1 1).trans rfl
          have t2 : wr.cell? ⟨B + 1, 2, none⟩ = _ := (Lib.cell_of_heap hb1 2).trans rfl
          have t3 : wr.cell? ⟨B + 1, 3, none⟩ = _ := (Lib.cell_of_heap hb1 3).trans rfl
          have t4 : wr.cell? ⟨B + 1, 4, none⟩ = _ := (Lib.cell_of_heap hb1 4).trans rfl
          have zf0 : ∀ i, wr.frozen? ⟨B, i, none⟩ = false := fun i => Lib.frozen_of_heap hb0 i
          have zf1 : ∀ i, wr.frozen? ⟨B + 1, i, none⟩ = false := fun i => Lib.frozen_of_heap hb1 i
          have HH3 := Lib.hid hb3
          have HH4 := Lib.hid hb4
          have HH0 := Lib.hid hb0
          have HH1 := Lib.hid hb1
          clear hb3 hb4 hb0 hb1
          go_upto_region 29 with (fail)
          go_region
          have hz := two_stored HH0.out HH1.out (.int .i64 1) (.int .i64 0) (.int .i64 0) (.int .i64 W) (.int .i64 H) (.int .i64 S) (.slice (some ⟨gs, 0, none⟩) (S * H) cs) (.slice none 0 0) (.int .i64 1) (.int .i64 W) (.int .i64 H) (.slice (some ⟨gp, 0, none⟩) N cp) (.slice none 0 0)
          clear x0 x1 x2 x3 x4 x5 x6 x7 y0 y1 y2 y3 y4 s0 s1 s2 s3 s4 s5 s6 s7 t0 t1 t2 t3 t4 zf0 zf1
          generalize (((((((((((((wr.setCell ⟨B, 0, none⟩ (.int .i64 1)).setCell ⟨B, 1, none⟩ (.int .i64 0)).setCell ⟨B, 2, none⟩ (.int .i64 0)).setCell ⟨B, 3, none⟩ (.int .i64 W)).setCell ⟨B, 4, none⟩ (.int .i64 H)).setCell ⟨B, 5, none⟩ (.int .i64 S)).setCell ⟨B, 6, none⟩ (.slice (some ⟨gs, 0, none⟩) (S * H) cs)).setCell ⟨B, 7, none⟩ (.slice none 0 0)).setCell ⟨B + 1, 0, none⟩ (.int .i64 1)).setCell ⟨B + 1, 1, none⟩ (.int .i64 W)).setCell ⟨B + 1, 2, none⟩ (.int .i64 H)).setCell ⟨B + 1, 3, none⟩ (.slice (some ⟨gp, 0, none⟩) N cp)).setCell ⟨B + 1, 4, none⟩ (.slice none 0 0)) = wz at hz ⊢
          obtain ⟨z0, z1, zk⟩ := hz
          have s0 : wz.cell? ⟨B, 0, none⟩ = _ := (Lib.cell_of_heap z0 0).trans rfl
          have s1 : wz.cell? ⟨B, 1, none⟩ = _ := (Lib.cell_of_heap z0 1).trans rfl
          have s2 : wz.cell? ⟨B, 2, none⟩ = _ := (Lib.cell_of_heap z0 2).trans rfl
          have s3 : wz.cell? ⟨B, 3, none⟩ = _ := (Lib.cell_of_heap z0 3).trans rfl
          have s4 : wz.cell? ⟨B, 4, none⟩ = _ := (Lib.cell_of_heap z0 4).trans rfl
          have s5 : wz.cell? ⟨B, 5, none⟩ = _ := (Lib.cell_of_heap z0 5).trans rfl
          have s6 : wz.cell? ⟨B, 6, none⟩ = _ := (Lib.cell_of_heap z0 6).trans rfl
          have s7 : wz.cell? ⟨B, 7, none⟩ = _ := (Lib.cell_of_heap z0 7).trans rfl
          have t0 : wz.cell? ⟨B + 1, 0, none⟩ = _ := (Lib.cell_of_heap z1 0).trans rfl
          have t1 : wz.cell? ⟨B + 1, 1, none⟩ = _ := (Lib.cell_of_heap z1 1).trans rfl
          have t2 : wz.cell? ⟨B + 1, 2, none⟩ = _ := (Lib.cell_of_heap z1 2).trans rfl
          have t3 : wz.cell? ⟨B + 1, 3, none⟩ = _ := (Lib.cell_of_heap z1 3).trans rfl
          have t4 : wz.cell? ⟨B + 1, 4, none⟩ = _ := (Lib.cell_of_heap z1 4).trans rfl
          clear z0 z1
          go_wp2_with fail
          try simp only [Exit.inBlock, Exit.then]
          refine bodyPost_ret (by simp [results, Tryd.results4, go_sem, s0, s1, s2, s3, s4, s5, s6, s7, t0, t1, t2, t3, t4]; try rfl) rfl ?_
          have h5 : B ≤ W0.heap.size := by omega
          rw [← HHI.out]
          unfold PicOut
          rw [Nat.mul_one]
          refine ⟨gs, cs, gp, cp, rfl, ?_, ?_, ?_⟩
          · exact owns_base (B := W2.heap.size) (owns_keep2 hou (Keep.drew zk) (by show ¬ (gs = B ∨ gs = B + 1); omega)) (by omega)
          · exact owns_base (B := B + 5) (owns_keep2 (owns_keep2 HOWN.out hky (by show ¬ (gp = B + 1 + 1 + 1 + 1); omega)) (Keep.drew zk) (by show ¬ (gp = B ∨ gp = B + 1); omega)) (by omega)
          · rw [hB]
            exact ((hbl.trans (hkp.toBelow (by omega) (fun k hk (h : k = B + 1 + 1 + 1) => by omega))).trans (hky.toBelow (by omega) (fun k hk (h : k = B + 1 + 1 + 1 + 1) => by omega))).trans ((Keep.drew zk).toBelow (by omega) (fun k hk (h : k = B ∨ k = B + 1) => by omega))
end Go.Proofs.YtfefgopomhhpfaaDoor
