/- laws.pictureOf at kind 7. -/
import Derived.Test.YtfefgopomhhpfaaDoorPicOut7
import Derived.Deep.DeepCutAuto
import Derived.Deep.RegionHeld3
import Derived.BigRegion
import Derived.BigQuiet
namespace Go.Proofs.YtfefgopomhhpfaaDoor
open Go.RowKit

set_option maxHeartbeats 32000000 in
set_option maxRecDepth 100000 in
theorem picture_7 (t a b e : Int) (dp qp : Option Addr) (dn dc qn qc W H S N : Nat) (D Qs : List Int) (w : World) (ht0 : 0 ≤ t) (ht1 : t < 256) (htk : t % 4 = 3) (ha0 : 0 ≤ a) (ha1 : a < 256) (hb0 : 0 ≤ b) (hb1 : b < 256) (he0 : 0 ≤ e) (he1 : e < 256)
    (hW : 1 + a % 40 = (W : Int)) (hH : 1 + b % 40 = (H : Int)) (hS : (W : Int) * 1 + e % 5 = (S : Int)) (hN : N = W * H * 1) (hdn : D.length = dn) (hdn2 : dn ≤ 1000) (hD : ∀ i, i < dn → ∃ ad, dp = some ad ∧ ad.block < w.heap.size ∧ w.cell? (ad.add i) = some (.int .u8 (D.getD i 0))) (hDb : ∀ i, 0 ≤ D.getD i 0 ∧ D.getD i 0 < 256) (hqn : Qs.length = qn) (hqn2 : qn ≤ 1024) (hQD : ∀ i, i < qn → ∃ ad, qp = some ad ∧ ad.block < w.heap.size ∧ w.cell? (ad.add i) = some (.int .u8 (Qs.getD i 0))) (hQB : ∀ i, 0 ≤ Qs.getD i 0 ∧ Qs.getD i 0 < 256) :
    Calls Tryd.prog 4 #[.int .u8 t, .int .u8 a, .int .u8 b, .slice dp dn dc, .slice qp qn qc, .int .u8 e] w (PicOut7 Qs W H S N D (decide (t / 4 % 2 = 1)) w) := by
  have hWb : W ≤ 40 := by omega
  have hHb : H ≤ 40 := by omega
  have hW0 : 0 < W := by omega
  have hH0 : 0 < H := by omega
  have hSb : S ≤ 170 := by omega
  have hWS : W * 1 ≤ S := by omega
  have hN2 : (W : Int) * (H : Int) * 1 = (N : Int) := by rw [hN]; simp
  have hWH : W * H ≤ 1600 := Nat.le_trans (Nat.mul_le_mul hWb hHb) (by omega)
  have hNb : N ≤ 6400 := by omega
  have hWHi : (W : Int) * (H : Int) ≤ 1600 := by exact_mod_cast hWH
  have hWHj : (0 : Int) ≤ (W : Int) * (H : Int) := Int.mul_nonneg (by omega) (by omega)
  have hS1 : (W : Int) + e % 5 = (S : Int) := by omega
  have hN3 : (W : Int) * (H : Int) = (N : Int) := by omega
  have HD := Lib.hid hD
  have HDB := Lib.hid hDb
  have HN := Lib.hid hN
  have HDN := Lib.hid hdn
  clear hD hDb hN hdn
  have HQD := Lib.hid hQD
  have HQB := Lib.hid hQB
  obtain ⟨pn, hpn⟩ : ∃ pn : Nat, pn = qn / 4 := ⟨_, rfl⟩
  have hpn1 : 4 * pn ≤ qn := by omega
  have hpn2 : qn < 4 * pn + 4 := by omega
  have HPN := Lib.hid hpn
  have HQN := Lib.hid hqn
  clear hQD hQB hpn hqn
  go_enter Tryd.func4, Tryd.ntmps4
  go_wp2_with fail
  have h5 := five_made w (.cells #[.int .i64 0, .int .i64 0, .int .i64 0, .int .i64 0, .int .i64 0, .int .i64 0, .slice none 0 0, .slice none 0 0] 25) (.cells #[.int .i64 0, .int .i64 0, .int .i64 0, .slice none 0 0, .slice none 0 0] 28) (.cells #[.int .i64 1, .int .i64 3, .int .i64 5, .int .i64 7] 3) (.cells #[.int .i64 7, .int .i64 W, .int .i64 H, .slice none 0 0, .slice none 0 0] 28) (.cells #[.int .i64 7, .int .i64 0, .int .i64 0, .int .i64 W, .int .i64 H, .int .i64 S, .slice none 0 0, .slice none 0 0] 25)
  generalize (((((w.alloc (.cells #[.int .i64 0, .int .i64 0, .int .i64 0, .int .i64 0, .int .i64 0, .int .i64 0, .slice none 0 0, .slice none 0 0] 25)).alloc (.cells #[.int .i64 0, .int .i64 0, .int .i64 0, .slice none 0 0, .slice none 0 0] 28)).alloc (.cells #[.int .i64 1, .int .i64 3, .int .i64 5, .int .i64 7] 3)).alloc (.cells #[.int .i64 7, .int .i64 W, .int .i64 H, .slice none 0 0, .slice none 0 0] 28)).alloc (.cells #[.int .i64 7, .int .i64 0, .int .i64 0, .int .i64 W, .int .i64 H, .int .i64 S, .slice none 0 0, .slice none 0 0] 25)) = W0 at h5 ⊢
  generalize hB : w.heap.size = B at h5 ⊢
  obtain ⟨i0, hi0, hz0, hz1, hz2⟩ := info_parts info5
  obtain ⟨g0, g1, g3, g4, hbl, ⟨hsz1, hsz2⟩, _⟩ := h5
  have HG0 := Lib.hid g0
  have HG1 := Lib.hid g1
  have HG4 := Lib.hid g4
  clear g0 g1 g4
  obtain ⟨hi, hhi⟩ : ∃ hi : Bool, hi = decide (t / 4 % 2 = 1) := ⟨_, rfl⟩
  have HHI := Lib.hid hhi
  clear hhi
  go_loopw [67] (fun i wr => ∃ (k : Nat) (v : Value), k ≤ N ∧ i = .int .i64 k ∧ wr.heap[B + 1 + 1 + 1]? = some (.cells #[.int .i64 7, .int .i64 W, .int .i64 H, v, .slice none 0 0] 28) ∧ wr.ownsRow (B + 5) 5 1 v k (u8s (pixs D hi k)) ∧ Keep (· = B + 1 + 1 + 1) W0 wr) (fun i _ => N - (intOf i).toNat)
  case atStart => exact ⟨0, .slice none 0 0, Nat.zero_le _, rfl, g3, World.ownsRow_nil _ _ _ _, Keep.refl _ _⟩
  case round =>
    obtain ⟨k, v, hk, rfl, hbx, hown, hkp⟩ := hrel
    have hsw : B + 5 ≤ wr.heap.size := by have := hkp.size; omega
    by_cases hlt : k < N
    · have c3 : wr.cell? ⟨B + 1 + 1 + 1, 3, none⟩ = some v := (Lib.cell_of_heap hbx 3).trans rfl
      have HBX := Lib.hid hbx
      clear hbx
      by_cases hd : dn = 0
      · subst hd
        by_cases ht2 : hi = true
        · by_cases hc2 : k % 4 = 3
          · have ht3 : t / 4 % 2 = 1 := by have h := HHI.out; rw [ht2] at h; exact of_decide_eq_true h.symm
            have hk4 : (k : Int) % 4 = 3 := by omega
            have HT := Lib.hid ht2
            clear ht2
            go_wp2_with (at_builtin; refine wpList_append_lies _ rfl (.tmp 99) (.tmp 101) 22 rfl (B + 5) 5 i0 (.int .u8 0) 1 1 Tryd.underlying22 hi0 hz0 hz1 hz2 rfl (by omega) _ k (u8s (pixs D hi k)) (by rfl) (World.ownsRow.alloc (w := wr) hown _) ⟨wr.heap.size, 0, none⟩ 1 1 _ (by rfl) (by rfl) (World.news_of_block (heap_alloc_new wr _)) (by simp [Value.oneCell']) (by omega) (by unfold maxLen; omega) (by omega) (by simp; omega) (wr.heap.size + 1) (by simp) ?_; intro gz capz w1 hown1 hgrow _ hlt1; have hb1 : w1.heap[B + 1 + 1 + 1]? = some (.cells #[.int .i64 7, .int .i64 W, .int .i64 H, v, .slice none 0 0] 28) := (hgrow.block (B + 1 + 1 + 1) (by simp; omega) (fun e => by have := (hown.lt (B + 1 + 1 + 1) e.symm).1; omega)).trans ((Below.heap_alloc _ _ _ (by show B + 1 + 1 + 1 < wr.heap.size; omega)).trans HBX.out); have c3' : w1.cell? ⟨B + 1 + 1 + 1, 3, none⟩ = some v := (Lib.cell_of_heap hb1 3).trans rfl; have zf : ∀ i, w1.frozen? ⟨B + 1 + 1 + 1, i, none⟩ = false := fun i => Lib.frozen_of_heap hb1 i)
            go_roundw
            case measure => (simp [intOf]) <;> omega
            case rel =>
              go_light
              have r1 := Lib.heap_setCell_same (i := 3) hb1 (.slice (some ⟨gz, 0, none⟩) (k + 1) capz)
              have r2 := pix_step (b := B + 1 + 1 + 1) (u := .slice (some ⟨gz, 0, none⟩) (k + 1) capz) hown1 ((pixv_hi HT.out hc2).symm) (by omega)
              have r3 := (Keep.grown (Keep.alloc hkp _) hgrow (fun q hq => .inr (by have := (hown.lt q hq).1; omega))).setCell (p := ⟨B + 1 + 1 + 1, 3, none⟩) (.inl rfl) (.slice (some ⟨gz, 0, none⟩) (k + 1) capz)
              refine ⟨_, _, _, ⟨k + 1, by omega, ?_, _, r1, r2, r3⟩, rfl, rfl, rfl⟩
              go_num
          · have ht3 : t / 4 % 2 = 1 := by have h := HHI.out; rw [ht2] at h; exact of_decide_eq_true h.symm
            have hk4 : ¬ (k : Int) % 4 = 3 := by omega
            have HC : Hid (¬ (hi = true ∧ k % 4 = 3)) := fun h => hc2 h.2
            clear ht2
            go_wp2_with (at_builtin; refine wpList_append_lies _ rfl (.tmp 99) (.tmp 101) 22 rfl (B + 5) 5 i0 (.int .u8 0) 1 1 Tryd.underlying22 hi0 hz0 hz1 hz2 rfl (by omega) _ k (u8s (pixs D hi k)) (by rfl) (World.ownsRow.alloc (w := wr) hown _) ⟨wr.heap.size, 0, none⟩ 1 1 _ (by rfl) (by rfl) (World.news_of_block (heap_alloc_new wr _)) (by simp [Value.oneCell']) (by omega) (by unfold maxLen; omega) (by omega) (by simp; omega) (wr.heap.size + 1) (by simp) ?_; intro gz capz w1 hown1 hgrow _ hlt1; have hb1 : w1.heap[B + 1 + 1 + 1]? = some (.cells #[.int .i64 7, .int .i64 W, .int .i64 H, v, .slice none 0 0] 28) := (hgrow.block (B + 1 + 1 + 1) (by simp; omega) (fun e => by have := (hown.lt (B + 1 + 1 + 1) e.symm).1; omega)).trans ((Below.heap_alloc _ _ _ (by show B + 1 + 1 + 1 < wr.heap.size; omega)).trans HBX.out); have c3' : w1.cell? ⟨B + 1 + 1 + 1, 3, none⟩ = some v := (Lib.cell_of_heap hb1 3).trans rfl; have zf : ∀ i, w1.frozen? ⟨B + 1 + 1 + 1, i, none⟩ = false := fun i => Lib.frozen_of_heap hb1 i)
            go_roundw
            case measure => (simp [intOf]) <;> omega
            case rel =>
              go_light
              have r1 := Lib.heap_setCell_same (i := 3) hb1 (.slice (some ⟨gz, 0, none⟩) (k + 1) capz)
              have r2 := pix_step (b := B + 1 + 1 + 1) (u := .slice (some ⟨gz, 0, none⟩) (k + 1) capz) hown1 ((pixv_nil HC.out HDN.out).symm) (by omega)
              have r3 := (Keep.grown (Keep.alloc hkp _) hgrow (fun q hq => .inr (by have := (hown.lt q hq).1; omega))).setCell (p := ⟨B + 1 + 1 + 1, 3, none⟩) (.inl rfl) (.slice (some ⟨gz, 0, none⟩) (k + 1) capz)
              refine ⟨_, _, _, ⟨k + 1, by omega, ?_, _, r1, r2, r3⟩, rfl, rfl, rfl⟩
              go_num
        · have ht3 : ¬ (t / 4 % 2 = 1) := fun h => by have h2 := HHI.out; rw [decide_eq_true h] at h2; exact ht2 h2
          have HC : Hid (¬ (hi = true ∧ k % 4 = 3)) := fun h => ht2 h.1
          clear ht2
          go_wp2_with (at_builtin; refine wpList_append_lies _ rfl (.tmp 99) (.tmp 101) 22 rfl (B + 5) 5 i0 (.int .u8 0) 1 1 Tryd.underlying22 hi0 hz0 hz1 hz2 rfl (by omega) _ k (u8s (pixs D hi k)) (by rfl) (World.ownsRow.alloc (w := wr) hown _) ⟨wr.heap.size, 0, none⟩ 1 1 _ (by rfl) (by rfl) (World.news_of_block (heap_alloc_new wr _)) (by simp [Value.oneCell']) (by omega) (by unfold maxLen; omega) (by omega) (by simp; omega) (wr.heap.size + 1) (by simp) ?_; intro gz capz w1 hown1 hgrow _ hlt1; have hb1 : w1.heap[B + 1 + 1 + 1]? = some (.cells #[.int .i64 7, .int .i64 W, .int .i64 H, v, .slice none 0 0] 28) := (hgrow.block (B + 1 + 1 + 1) (by simp; omega) (fun e => by have := (hown.lt (B + 1 + 1 + 1) e.symm).1; omega)).trans ((Below.heap_alloc _ _ _ (by show B + 1 + 1 + 1 < wr.heap.size; omega)).trans HBX.out); have c3' : w1.cell? ⟨B + 1 + 1 + 1, 3, none⟩ = some v := (Lib.cell_of_heap hb1 3).trans rfl; have zf : ∀ i, w1.frozen? ⟨B + 1 + 1 + 1, i, none⟩ = false := fun i => Lib.frozen_of_heap hb1 i)
          go_roundw
          case measure => (simp [intOf]) <;> omega
          case rel =>
            go_light
            have r1 := Lib.heap_setCell_same (i := 3) hb1 (.slice (some ⟨gz, 0, none⟩) (k + 1) capz)
            have r2 := pix_step (b := B + 1 + 1 + 1) (u := .slice (some ⟨gz, 0, none⟩) (k + 1) capz) hown1 ((pixv_nil HC.out HDN.out).symm) (by omega)
            have r3 := (Keep.grown (Keep.alloc hkp _) hgrow (fun q hq => .inr (by have := (hown.lt q hq).1; omega))).setCell (p := ⟨B + 1 + 1 + 1, 3, none⟩) (.inl rfl) (.slice (some ⟨gz, 0, none⟩) (k + 1) capz)
            refine ⟨_, _, _, ⟨k + 1, by omega, ?_, _, r1, r2, r3⟩, rfl, rfl, rfl⟩
            go_num
      · have hd1 : 0 < dn := by omega
        by_cases ht2 : hi = true
        · by_cases hc2 : k % 4 = 3
          · have ht3 : t / 4 % 2 = 1 := by have h := HHI.out; rw [ht2] at h; exact of_decide_eq_true h.symm
            have hk4 : (k : Int) % 4 = 3 := by omega
            have HT := Lib.hid ht2
            clear ht2
            obtain ⟨r, hr⟩ : ∃ r : Nat, r = k % dn := ⟨_, rfl⟩
            obtain ⟨q, hq⟩ : ∃ q : Nat, q = k / dn := ⟨_, rfl⟩
            have hr1 : (k : Int) % (dn : Int) = (r : Int) := by rw [hr]; simp
            have hr2 : (k : Int).tmod (dn : Int) = (r : Int) := by rw [Int.tmod_eq_emod_of_nonneg (by omega)]; exact hr1
            have hq1 : (k : Int) / (dn : Int) = (q : Int) := by rw [hq]; simp
            have hq2 : (k : Int).tdiv (dn : Int) = (q : Int) := by rw [Int.tdiv_eq_ediv_of_nonneg (by omega)]; exact hq1
            have hrl : r < dn := by rw [hr]; exact Nat.mod_lt _ hd1
            have hql : q ≤ 6400 := by rw [hq]; exact Nat.le_trans (Nat.div_le_self _ _) (by omega)
            obtain ⟨ad, hda, hdl, hdc⟩ := HD.out (k % dn) (Nat.mod_lt _ (by omega))
            rw [← hr] at hdc
            have HR := Lib.hid hr
            have HQ := Lib.hid hq
            clear hr hq
            have hdr : wr.cell? (ad.add r) = some (.int .u8 (D.getD r 0)) := ((hkp.cell (p := ad.add r) (by rw [Lib.block_add]; omega) (by rw [Lib.block_add]; omega)).trans (hbl.cell (p := ad.add r) (by rw [Lib.block_add]; omega))).trans hdc
            subst hda
            obtain ⟨hy0, hy1⟩ := HDB.out r
            obtain ⟨y, hy⟩ : ∃ y, y = D.getD r 0 := ⟨_, rfl⟩
            rw [← hy] at hdr hy0 hy1
            have HY := Lib.hid hy
            clear hy hdl hdc
            go_upto_region 11 with (fail)
            go_quiet (fail)
            go_wp2_with (at_builtin; refine wpList_append_lies _ rfl (.tmp 99) (.tmp 101) 22 rfl (B + 5) 5 i0 (.int .u8 0) 1 1 Tryd.underlying22 hi0 hz0 hz1 hz2 rfl (by omega) _ k (u8s (pixs D hi k)) (by rfl) (World.ownsRow.alloc (w := (wr.drewN _)) hown _) ⟨wr.heap.size, 0, none⟩ 1 1 _ (by rfl) (by rfl) (World.news_of_block (heap_alloc_new (wr.drewN _) _)) (by simp [Value.oneCell']) (by omega) (by unfold maxLen; omega) (by omega) (by simp; omega) (wr.heap.size + 1) (by simp) ?_; intro gz capz w1 hown1 hgrow _ hlt1; have hb1 : w1.heap[B + 1 + 1 + 1]? = some (.cells #[.int .i64 7, .int .i64 W, .int .i64 H, v, .slice none 0 0] 28) := (hgrow.block (B + 1 + 1 + 1) (by simp; omega) (fun e => by have := (hown.lt (B + 1 + 1 + 1) e.symm).1; omega)).trans ((Below.heap_alloc _ _ _ (by show B + 1 + 1 + 1 < wr.heap.size; omega)).trans HBX.out); have c3' : w1.cell? ⟨B + 1 + 1 + 1, 3, none⟩ = some v := (Lib.cell_of_heap hb1 3).trans rfl; have zf : ∀ i, w1.frozen? ⟨B + 1 + 1 + 1, i, none⟩ = false := fun i => Lib.frozen_of_heap hb1 i)
            go_roundw
            case measure => (simp [intOf]) <;> omega
            case rel =>
              go_light
              have r1 := Lib.heap_setCell_same (i := 3) hb1 (.slice (some ⟨gz, 0, none⟩) (k + 1) capz)
              have r2 := pix_step (b := B + 1 + 1 + 1) (u := .slice (some ⟨gz, 0, none⟩) (k + 1) capz) hown1 ((pixv_hi HT.out hc2).symm) (by omega)
              have r3 := (Keep.grown (Keep.alloc (Keep.drewN hkp _) _) hgrow (fun q hq => .inr (by have := (hown.lt q hq).1; omega))).setCell (p := ⟨B + 1 + 1 + 1, 3, none⟩) (.inl rfl) (.slice (some ⟨gz, 0, none⟩) (k + 1) capz)
              refine ⟨_, _, _, ⟨k + 1, by omega, ?_, _, r1, r2, r3⟩, rfl, rfl, rfl⟩
              go_num
          · have ht3 : t / 4 % 2 = 1 := by have h := HHI.out; rw [ht2] at h; exact of_decide_eq_true h.symm
            have hk4 : ¬ (k : Int) % 4 = 3 := by omega
            have HC : Hid (¬ (hi = true ∧ k % 4 = 3)) := fun h => hc2 h.2
            clear ht2
            obtain ⟨r, hr⟩ : ∃ r : Nat, r = k % dn := ⟨_, rfl⟩
            obtain ⟨q, hq⟩ : ∃ q : Nat, q = k / dn := ⟨_, rfl⟩
            have hr1 : (k : Int) % (dn : Int) = (r : Int) := by rw [hr]; simp
            have hr2 : (k : Int).tmod (dn : Int) = (r : Int) := by rw [Int.tmod_eq_emod_of_nonneg (by omega)]; exact hr1
            have hq1 : (k : Int) / (dn : Int) = (q : Int) := by rw [hq]; simp
            have hq2 : (k : Int).tdiv (dn : Int) = (q : Int) := by rw [Int.tdiv_eq_ediv_of_nonneg (by omega)]; exact hq1
            have hrl : r < dn := by rw [hr]; exact Nat.mod_lt _ hd1
            have hql : q ≤ 6400 := by rw [hq]; exact Nat.le_trans (Nat.div_le_self _ _) (by omega)
            obtain ⟨ad, hda, hdl, hdc⟩ := HD.out (k % dn) (Nat.mod_lt _ (by omega))
            rw [← hr] at hdc
            have HR := Lib.hid hr
            have HQ := Lib.hid hq
            clear hr hq
            have hdr : wr.cell? (ad.add r) = some (.int .u8 (D.getD r 0)) := ((hkp.cell (p := ad.add r) (by rw [Lib.block_add]; omega) (by rw [Lib.block_add]; omega)).trans (hbl.cell (p := ad.add r) (by rw [Lib.block_add]; omega))).trans hdc
            subst hda
            obtain ⟨hy0, hy1⟩ := HDB.out r
            obtain ⟨y, hy⟩ : ∃ y, y = D.getD r 0 := ⟨_, rfl⟩
            rw [← hy] at hdr hy0 hy1
            have HY := Lib.hid hy
            clear hy hdl hdc
            go_upto_region 11 with (fail)
            go_quiet (fail)
            go_wp2_with (at_builtin; refine wpList_append_lies _ rfl (.tmp 99) (.tmp 101) 22 rfl (B + 5) 5 i0 (.int .u8 0) 1 1 Tryd.underlying22 hi0 hz0 hz1 hz2 rfl (by omega) _ k (u8s (pixs D hi k)) (by rfl) (World.ownsRow.alloc (w := (wr.drewN _)) hown _) ⟨wr.heap.size, 0, none⟩ 1 1 _ (by rfl) (by rfl) (World.news_of_block (heap_alloc_new (wr.drewN _) _)) (by simp [Value.oneCell']) (by omega) (by unfold maxLen; omega) (by omega) (by simp; omega) (wr.heap.size + 1) (by simp) ?_; intro gz capz w1 hown1 hgrow _ hlt1; have hb1 : w1.heap[B + 1 + 1 + 1]? = some (.cells #[.int .i64 7, .int .i64 W, .int .i64 H, v, .slice none 0 0] 28) := (hgrow.block (B + 1 + 1 + 1) (by simp; omega) (fun e => by have := (hown.lt (B + 1 + 1 + 1) e.symm).1; omega)).trans ((Below.heap_alloc _ _ _ (by show B + 1 + 1 + 1 < wr.heap.size; omega)).trans HBX.out); have c3' : w1.cell? ⟨B + 1 + 1 + 1, 3, none⟩ = some v := (Lib.cell_of_heap hb1 3).trans rfl; have zf : ∀ i, w1.frozen? ⟨B + 1 + 1 + 1, i, none⟩ = false := fun i => Lib.frozen_of_heap hb1 i)
            go_roundw
            case measure => (simp [intOf]) <;> omega
            case rel =>
              go_light
              have r1 := Lib.heap_setCell_same (i := 3) hb1 (.slice (some ⟨gz, 0, none⟩) (k + 1) capz)
              have r2 := pix_step (b := B + 1 + 1 + 1) (u := .slice (some ⟨gz, 0, none⟩) (k + 1) capz) hown1 ((by rw [pixv_dat HC.out (by rw [HDN.out]; omega), HDN.out, ← HR.out, ← HQ.out, ← HY.out]; omega)) (by omega)
              have r3 := (Keep.grown (Keep.alloc (Keep.drewN hkp _) _) hgrow (fun q hq => .inr (by have := (hown.lt q hq).1; omega))).setCell (p := ⟨B + 1 + 1 + 1, 3, none⟩) (.inl rfl) (.slice (some ⟨gz, 0, none⟩) (k + 1) capz)
              refine ⟨_, _, _, ⟨k + 1, by omega, ?_, _, r1, r2, r3⟩, rfl, rfl, rfl⟩
              go_num
        · have ht3 : ¬ (t / 4 % 2 = 1) := fun h => by have h2 := HHI.out; rw [decide_eq_true h] at h2; exact ht2 h2
          have HC : Hid (¬ (hi = true ∧ k % 4 = 3)) := fun h => ht2 h.1
          clear ht2
          obtain ⟨r, hr⟩ : ∃ r : Nat, r = k % dn := ⟨_, rfl⟩
          obtain ⟨q, hq⟩ : ∃ q : Nat, q = k / dn := ⟨_, rfl⟩
          have hr1 : (k : Int) % (dn : Int) = (r : Int) := by rw [hr]; simp
          have hr2 : (k : Int).tmod (dn : Int) = (r : Int) := by rw [Int.tmod_eq_emod_of_nonneg (by omega)]; exact hr1
          have hq1 : (k : Int) / (dn : Int) = (q : Int) := by rw [hq]; simp
          have hq2 : (k : Int).tdiv (dn : Int) = (q : Int) := by rw [Int.tdiv_eq_ediv_of_nonneg (by omega)]; exact hq1
          have hrl : r < dn := by rw [hr]; exact Nat.mod_lt _ hd1
          have hql : q ≤ 6400 := by rw [hq]; exact Nat.le_trans (Nat.div_le_self _ _) (by omega)
          obtain ⟨ad, hda, hdl, hdc⟩ := HD.out (k % dn) (Nat.mod_lt _ (by omega))
          rw [← hr] at hdc
          have HR := Lib.hid hr
          have HQ := Lib.hid hq
          clear hr hq
          have hdr : wr.cell? (ad.add r) = some (.int .u8 (D.getD r 0)) := ((hkp.cell (p := ad.add r) (by rw [Lib.block_add]; omega) (by rw [Lib.block_add]; omega)).trans (hbl.cell (p := ad.add r) (by rw [Lib.block_add]; omega))).trans hdc
          subst hda
          obtain ⟨hy0, hy1⟩ := HDB.out r
          obtain ⟨y, hy⟩ : ∃ y, y = D.getD r 0 := ⟨_, rfl⟩
          rw [← hy] at hdr hy0 hy1
          have HY := Lib.hid hy
          clear hy hdl hdc
          go_upto_region 11 with (fail)
          go_quiet (fail)
          go_wp2_with (at_builtin; refine wpList_append_lies _ rfl (.tmp 99) (.tmp 101) 22 rfl (B + 5) 5 i0 (.int .u8 0) 1 1 Tryd.underlying22 hi0 hz0 hz1 hz2 rfl (by omega) _ k (u8s (pixs D hi k)) (by rfl) (World.ownsRow.alloc (w := (wr.drewN _)) hown _) ⟨wr.heap.size, 0, none⟩ 1 1 _ (by rfl) (by rfl) (World.news_of_block (heap_alloc_new (wr.drewN _) _)) (by simp [Value.oneCell']) (by omega) (by unfold maxLen; omega) (by omega) (by simp; omega) (wr.heap.size + 1) (by simp) ?_; intro gz capz w1 hown1 hgrow _ hlt1; have hb1 : w1.heap[B + 1 + 1 + 1]? = some (.cells #[.int .i64 7, .int .i64 W, .int .i64 H, v, .slice none 0 0] 28) := (hgrow.block (B + 1 + 1 + 1) (by simp; omega) (fun e => by have := (hown.lt (B + 1 + 1 + 1) e.symm).1; omega)).trans ((Below.heap_alloc _ _ _ (by show B + 1 + 1 + 1 < wr.heap.size; omega)).trans HBX.out); have c3' : w1.cell? ⟨B + 1 + 1 + 1, 3, none⟩ = some v := (Lib.cell_of_heap hb1 3).trans rfl; have zf : ∀ i, w1.frozen? ⟨B + 1 + 1 + 1, i, none⟩ = false := fun i => Lib.frozen_of_heap hb1 i)
          go_roundw
          case measure => (simp [intOf]) <;> omega
          case rel =>
            go_light
            have r1 := Lib.heap_setCell_same (i := 3) hb1 (.slice (some ⟨gz, 0, none⟩) (k + 1) capz)
            have r2 := pix_step (b := B + 1 + 1 + 1) (u := .slice (some ⟨gz, 0, none⟩) (k + 1) capz) hown1 ((by rw [pixv_dat HC.out (by rw [HDN.out]; omega), HDN.out, ← HR.out, ← HQ.out, ← HY.out]; omega)) (by omega)
            have r3 := (Keep.grown (Keep.alloc (Keep.drewN hkp _) _) hgrow (fun q hq => .inr (by have := (hown.lt q hq).1; omega))).setCell (p := ⟨B + 1 + 1 + 1, 3, none⟩) (.inl rfl) (.slice (some ⟨gz, 0, none⟩) (k + 1) capz)
            refine ⟨_, _, _, ⟨k + 1, by omega, ?_, _, r1, r2, r3⟩, rfl, rfl, rfl⟩
            go_num
    · have hkN : k = N := by omega
      have hN0 : 0 < N := by rw [HN.out]; exact Nat.mul_pos (Nat.mul_pos hW0 hH0) (by omega)
      rw [hkN] at hown
      clear hkN
      obtain ⟨gp, cp, rfl, hgp1, hgp2⟩ := hown.form hN0
      have c2 : wr.cell? ⟨B + 1 + 1 + 1, 2, none⟩ = some (.int .i64 H) := (Lib.cell_of_heap hbx 2).trans rfl
      have HB2 := Lib.hid hbx
      clear hbx
      go_wp2_with fail
      clear c2
      obtain ⟨W2, rfl⟩ : ∃ W2 : World, W2 = wr := ⟨_, rfl⟩
      have hg4 : W2.heap[B + 1 + 1 + 1 + 1]? = some (.cells #[.int .i64 7, .int .i64 0, .int .i64 0, .int .i64 W, .int .i64 H, .int .i64 S, .slice none 0 0, .slice none 0 0] 25) := (hkp.block _ (by omega) (by omega)).trans HG4.out
      have hNcp : N ≤ cp := by
        rcases hown.2 with ⟨h1, _⟩ | ⟨g', cap', cur, h1, _, _, h2, _⟩
        · injection h1 with h3; cases h3
        · injection h1 with h3 h4 h5
          omega
      have hcpm : cp ≤ 9223372036854775807 := by
        rcases hown.2 with ⟨h1, _⟩ | ⟨g', cap', cur, h1, _, _, _, h2, _⟩
        · injection h1 with h3; cases h3
        · injection h1 with h3 h4 h5
          unfold maxLen at h2
          omega
      have HOWN := Lib.hid hown
      clear hown
      go_loopw [107] (fun i wr => ∃ (y : Nat) (u : Value), y ≤ H ∧ i = .int .i64 y ∧ wr.heap[B + 1 + 1 + 1 + 1]? = some (.cells #[.int .i64 7, .int .i64 0, .int .i64 0, .int .i64 W, .int .i64 H, .int .i64 S, u, .slice none 0 0] 25) ∧ wr.ownsRow W2.heap.size 5 1 u (S * y) (u8s (rowsUp (lineOf (pixv D hi) (W) S) y)) ∧ Keep (· = B + 1 + 1 + 1 + 1) W2 wr) (fun i _ => H - (intOf i).toNat)
      case atStart => exact ⟨0, .slice none 0 0, Nat.zero_le _, rfl, hg4, World.ownsRow_nil _ _ _ _, Keep.refl _ _⟩
      case round =>
        obtain ⟨y, u, hy, rfl, hb4, hou, hky⟩ := hrel
        have hsy : W2.heap.size ≤ wr.heap.size := hky.size
        by_cases hly : y < H
        · have e1 : wr.cell? ⟨B + 1 + 1 + 1, 1, none⟩ = some (.int .i64 W) := (Lib.cell_of_heap ((hky.block _ (by omega) (by omega)).trans HB2.out) 1).trans rfl
          have e3 : wr.cell? ⟨B + 1 + 1 + 1, 3, none⟩ = some (.slice (some ⟨gp, 0, none⟩) N cp) := (Lib.cell_of_heap ((hky.block _ (by omega) (by omega)).trans HB2.out) 3).trans rfl
          obtain ⟨p, hp⟩ : ∃ p : Nat, p = y * W := ⟨_, rfl⟩
          have hp1 : (y : Int) * (W : Int) = (p : Int) := by rw [hp]; simp
          have hp2 : ((y : Int) + 1) * (W : Int) = (p : Int) + W := by rw [Int.add_mul, hp1, Int.one_mul]
          have hpN : (p + W) ≤ N := by
            have h1 := Nat.mul_le_mul_right W (show y + 1 ≤ H by omega)
            rw [Nat.add_mul, Nat.one_mul, ← hp] at h1
            rw [HN.out, Nat.mul_comm W H]
            rw [Nat.mul_one]
            exact h1
          have HP := Lib.hid hp
          clear hp
          have q1 : ¬ cp = p := by omega
          have q2 : (p + W) - p = W := by omega
          obtain ⟨m, hm⟩ : ∃ m : Nat, m = S - W := ⟨_, rfl⟩
          have hm1 : (S : Int) - (W : Int) = (m : Int) := by omega
          have hm2 : m ≤ 1000 := by omega
          have HM := Lib.hid hm
          clear hm
          go_upto_region 20 with (fail)
          clear e1 e3
          have e6 : wr.cell? ⟨B + 1 + 1 + 1 + 1, 6, none⟩ = some u := (Lib.cell_of_heap hb4 6).trans rfl
          have e5 : wr.cell? ⟨B + 1 + 1 + 1 + 1, 5, none⟩ = some (.int .i64 S) := (Lib.cell_of_heap hb4 5).trans rfl
          have HB4 := Lib.hid hb4
          clear hb4
          have hnews := row_news (off := p) (L := W) (owns_keep HOWN.out hky (by omega)) (by omega)
          have hSy : S * y ≤ 170 * 40 := Nat.mul_le_mul hSb (by omega)
          have hL0 : 0 < W := by omega
          go_region_law
            (first
              | (refine step_append_lies _ rfl (.tmp 127) (.tmp 128) 22 rfl W2.heap.size 5 i0 (.int .u8 0) 1 1 Tryd.underlying22 hi0 hz0 hz1 hz2 rfl (by omega) u (S * y) (u8s (rowsUp (lineOf (pixv D hi) (W) S) y)) (by rfl) hou ⟨gp, p, none⟩ _ (cp - p) (u8s (rowOf (fun x => pixv D hi (p + x)) (W))) (by rfl) (by simp [u8s, rowOf_length]; try omega) hnews (u8s_one _) (by omega) (by unfold maxLen; omega) (by omega) hsy wr.heap.size rfl ?_
                 intro g1 cap1 w1 hown1 hgrow1 _ hlt1
                 have hb41 : w1.heap[B + 1 + 1 + 1 + 1]? = some (.cells #[.int .i64 7, .int .i64 0, .int .i64 0, .int .i64 W, .int .i64 H, .int .i64 S, u, .slice none 0 0] 25) := (hgrow1.block (B + 1 + 1 + 1 + 1) (by show B + 1 + 1 + 1 + 1 < wr.heap.size; omega) (fun e => by have := (hou.lt (B + 1 + 1 + 1 + 1) e.symm).1; omega)).trans HB4.out
                 have k6 : w1.cell? ⟨B + 1 + 1 + 1 + 1, 6, none⟩ = some u := (Lib.cell_of_heap hb41 6).trans rfl
                 have k5 : w1.cell? ⟨B + 1 + 1 + 1 + 1, 5, none⟩ = some (.int .i64 S) := (Lib.cell_of_heap hb41 5).trans rfl)
              | (obtain ⟨g2, cap2, w2, hr2, hown2, hgrow2⟩ := run_append_zeros' w1 W2.heap.size 22 g1 _ cap1 _ hown1 m (by omega) (by omega) (by have := hgrow1.size; have h2 : wr.heap.size ≤ w1.heap.size := this; omega)
                 refine step_append_run rfl (.tmp 129) (.tmp 134) 22 3 rfl _ _ (by rfl) (by first | rfl | (simp [Act.eval, Act.put]; done) | (simp [Act.eval, Act.put, IntKind.wrap_i64]; omega)) _ _ hr2 ?_
                 have hb42 : w2.heap[B + 1 + 1 + 1 + 1]? = some (.cells #[.int .i64 7, .int .i64 0, .int .i64 0, .int .i64 W, .int .i64 H, .int .i64 S, u, .slice none 0 0] 25) := (hgrow2.block (B + 1 + 1 + 1 + 1) (Lib.lt_of_heap hb41) (fun e => by have := (hown1.lt g1 rfl).1; injection e with e; omega)).trans hb41
                 have k6 : w2.cell? ⟨B + 1 + 1 + 1 + 1, 6, none⟩ = some u := (Lib.cell_of_heap hb42 6).trans rfl
                 have k5 : w2.cell? ⟨B + 1 + 1 + 1 + 1, 5, none⟩ = some (.int .i64 S) := (Lib.cell_of_heap hb42 5).trans rfl
                 have zf : ∀ i, w2.frozen? ⟨B + 1 + 1 + 1 + 1, i, none⟩ = false := fun i => Lib.frozen_of_heap hb42 i))
          all_goals
            (go_wp2_with fail
             go_roundw
             case measure => (simp [intOf]) <;> omega
             case rel =>
               repeat (apply Exists.intro)
               refine And.intro ?rel2 ?eqs2
               case eqs2 =>
                 simp only [htk]
                 repeat (first | exact rfl | refine And.intro rfl ?_)
               case rel2 =>
                 have r1 := Lib.heap_setCell_same (i := 6) hb42 (.slice (some ⟨g2, 0, none⟩) (S * y + W + m) cap2)
                 have r2 := line_step1 (b := B + 1 + 1 + 1 + 1) (i := 6) (v := .slice (some ⟨g2, 0, none⟩) (S * y + W + m) cap2) hown2 HP.out HM.out (by omega) (by omega)
                 have r3 := (Keep.grown (Keep.grown (Keep.drew hky) hgrow1 (fun q hq => .inr (hou.lt q hq).1)) hgrow2 (fun q hq => .inr (by have := (hown1.lt q hq).1; omega))).setCell (p := ⟨B + 1 + 1 + 1 + 1, 6, none⟩) (.inl rfl) (.slice (some ⟨g2, 0, none⟩) (S * y + W + m) cap2)
                 refine ⟨y + 1, _, by omega, ?_, r1, r2, r3⟩
                 go_num)
        · have hyH : y = H := by omega
          have hSH : 0 < S * H := Nat.mul_pos (by omega) hH0
          rw [hyH] at hou
          clear hyH
          obtain ⟨gs, cs, rfl, hgs1, hgs2⟩ := hou.form hSH
          have hb3 := (hky.block (B + 1 + 1 + 1) (by omega) (by omega)).trans HB2.out
          have hb0 := (hky.block B (by omega) (by omega)).trans ((hkp.block B (by omega) (by omega)).trans HG0.out)
          have hb1 := (hky.block (B + 1) (by omega) (by omega)).trans ((hkp.block (B + 1) (by omega) (by omega)).trans HG1.out)
          have y0 : wr.cell? ⟨B + 1 + 1 + 1, 0, none⟩ = _ := (Lib.cell_of_heap hb3 0).trans rfl
          have hg3 := Lib.hid hb3
          have hg4 := Lib.hid hb4
          have HH0 := Lib.hid hb0
          have HH1 := Lib.hid hb1
          clear hb3 hb4 hb0 hb1
          go_upto_region 24 with (fail)
          clear y0
          obtain ⟨W3, rfl⟩ : ∃ W3 : World, W3 = wr := ⟨_, rfl⟩
          have HOU := Lib.hid hou
          clear hou
          have h53 : B + 5 ≤ W3.heap.size := by omega
          go_loopw [21] (fun i wr => ∃ (j o : Nat) (qv pv : Value), j ≤ pn ∧ o = 4 * j ∧ i = .int .i64 o ∧ wr.heap[B + 1 + 1 + 1 + 1]? = some (.cells #[.int .i64 7, .int .i64 0, .int .i64 0, .int .i64 W, .int .i64 H, .int .i64 S, .slice (some ⟨gs, 0, none⟩) (S * H) cs, qv] 25) ∧ wr.heap[B + 1 + 1 + 1]? = some (.cells #[.int .i64 7, .int .i64 W, .int .i64 H, .slice (some ⟨gp, 0, none⟩) N cp, pv] 28) ∧ wr.ownsRow W3.heap.size 38 4 qv j (u8s (rowOf (fun i => Qs.getD i 0) (4 * j))) ∧ wr.ownsRow W3.heap.size 40 3 pv j (u8s (rowOf (palQ Qs) (3 * j))) ∧ Keep (fun q => q = B + 1 + 1 + 1 ∨ q = B + 1 + 1 + 1 + 1) W3 wr) (fun i _ => 1024 - (intOf i).toNat)
          case atStart => exact ⟨0, 0, .slice none 0 0, .slice none 0 0, Nat.zero_le _, rfl, rfl, hg4.out, hg3.out, World.ownsRow_nil _ _ _ _, World.ownsRow_nil _ _ _ _, Keep.refl _ _⟩
          case round =>
            obtain ⟨j, o, qv, pv, hj, ho, rfl, hb4, hb3, hq, hp, hkq⟩ := hrel
            have ho1 : o ≤ 4 * j := by omega
            have ho2 : 4 * j ≤ o := by omega
            have HO := Lib.hid ho
            clear ho
            have hsw3 : W3.heap.size ≤ wr.heap.size := hkq.size
            by_cases hlj : j < pn
            · obtain ⟨ad, hqa, hql, hqc0⟩ := HQD.out 0 (by omega)
              have rd : ∀ i, i < 4 → wr.cell? (ad.add (o + i)) = some (.int .u8 (Qs.getD (o + i) 0)) := fun i hi => by
                obtain ⟨ad', hqa', _, hqc⟩ := HQD.out (o + i) (by omega)
                obtain rfl : ad = ad' := by rw [hqa] at hqa'; injection hqa'
                have hl : (ad.add (o + i)).block < B := by rw [Lib.block_add]; omega
                exact (hkq.cell (p := ad.add (o + i)) (by omega) (by show ¬ ((ad.add (o + i)).block = _ ∨ _); omega)).trans ((hky.cell (p := ad.add (o + i)) (by omega) (by show ¬ ((ad.add (o + i)).block = _); omega)).trans ((hkp.cell (p := ad.add (o + i)) (by omega) (by show ¬ ((ad.add (o + i)).block = _); omega)).trans ((hbl.cell (p := ad.add (o + i)) hl).trans hqc)))
              obtain ⟨a0, a1⟩ := HQB.out o
              obtain ⟨a2, a3⟩ := HQB.out (o + 1)
              obtain ⟨a4, a5⟩ := HQB.out (o + 2)
              obtain ⟨a6, a7⟩ := HQB.out (o + 3)
              have rd0 := rd 0 (by omega)
              have rd1 := rd 1 (by omega)
              have rd2 := rd 2 (by omega)
              have rd3 := rd 3 (by omega)
              obtain ⟨r0, hr0⟩ : ∃ y, y = Qs.getD o 0 := ⟨_, rfl⟩
              obtain ⟨r1, hr1⟩ : ∃ y, y = Qs.getD (o + 1) 0 := ⟨_, rfl⟩
              obtain ⟨r2, hr2⟩ : ∃ y, y = Qs.getD (o + 2) 0 := ⟨_, rfl⟩
              obtain ⟨r3, hr3⟩ : ∃ y, y = Qs.getD (o + 3) 0 := ⟨_, rfl⟩
              rw [Nat.add_zero, ← hr0] at rd0
              rw [← hr1] at rd1
              rw [← hr2] at rd2
              rw [← hr3] at rd3
              rw [← hr0] at a0 a1
              rw [← hr1] at a2 a3
              rw [← hr2] at a4 a5
              rw [← hr3] at a6 a7
              have HR0 := Lib.hid hr0
              have HR1 := Lib.hid hr1
              have HR2 := Lib.hid hr2
              have HR3 := Lib.hid hr3
              clear hr0 hr1 hr2 hr3 rd
              clear ht0 ht1 ha0 ha1 hb0 hb1 he0 he1 hW hH hS hdn2 hWb hHb hW0 hH0 hSb hWS hN2 hWH hNb hWHi hWHj hS1 hN3 HD HDB HN HDN HQB hi0 hz0 hz1 hz2 g3 HG0 HG1 HG4 hk hlt hN0 hgp1 hsw hgp2 HB2 hNcp hcpm HOWN hy hly hSH hgs1 hsy hgs2 hg3 hg4 HH0 HH1 HOU hbl hkp hky hsz1 hsz2
              have HB4 := Lib.hid hb4
              have HB3 := Lib.hid hb3
              have HQO := Lib.hid hq
              have HPO := Lib.hid hp
              clear hb4 hb3 hq hp
              have hadw : ad.block < wr.heap.size := by omega
              obtain ⟨ab, ao, asp⟩ := ad
              have hasp : asp = none := by simpa [Addr.add] using World.cell?_spot hqc0
              subst hasp
              simp only [Go.WideShapes.add_plain] at rd0 rd1 rd2 rd3
              have hab0 : ab < B := by have h : ab < w.heap.size := hql; omega
              have hab1 : ab < wr.heap.size := hadw
              have hab2 : ab ≠ wr.heap.size := by omega
              subst hqa
              clear hadw hql hqc0
              have lo0 : o < qn := by omega
              have lo1 : o + 1 < qn := by omega
              have lo2 : o + 2 < qn := by omega
              have lo3 : o + 3 < qn := by omega
              go_upto_region 26 with (fail)
              go_region
              have hn1 : (wr.alloc (.cells #[.int .i64 r0, .int .i64 r1, .int .i64 r2, .int .i64 r3] 36)).drew.heap[wr.heap.size]? = some (.cells #[.int .i64 r0, .int .i64 r1, .int .i64 r2, .int .i64 r3] 36) := heap_alloc_new wr _
              have hbw : Below wr.heap.size wr (wr.alloc (.cells #[.int .i64 r0, .int .i64 r1, .int .i64 r2, .int .i64 r3] 36)).drew := ((Below.refl _ _).alloc (Nat.le_refl _) _).drew
              have hqw : (wr.alloc (.cells #[.int .i64 r0, .int .i64 r1, .int .i64 r2, .int .i64 r3] 36)).drew.ownsRow W3.heap.size 38 4 qv j (u8s (rowOf (fun i => Qs.getD i 0) (4 * j))) := World.ownsRow.drew (World.ownsRow.alloc HQO.out _)
              have hpw : (wr.alloc (.cells #[.int .i64 r0, .int .i64 r1, .int .i64 r2, .int .i64 r3] 36)).drew.ownsRow W3.heap.size 40 3 pv j (u8s (rowOf (palQ Qs) (3 * j))) := World.ownsRow.drew (World.ownsRow.alloc HPO.out _)
              have hkw := (Keep.alloc hkq (.cells #[.int .i64 r0, .int .i64 r1, .int .i64 r2, .int .i64 r3] 36)).drew
              have hsw1 : wr.heap.size < (wr.alloc (.cells #[.int .i64 r0, .int .i64 r1, .int .i64 r2, .int .i64 r3] 36)).drew.heap.size := by show wr.heap.size < (wr.heap.push _).size; simp
              clear HPO HQO hkq
              generalize (wr.alloc (.cells #[.int .i64 r0, .int .i64 r1, .int .i64 r2, .int .i64 r3] 36)).drew = W1 at hn1 hbw hqw hpw hkw hsw1 ⊢
              generalize hnb : wr.heap.size = nb at hn1 hbw hsw1 hab1 hab2 hsw3 ⊢
              have rd0 := (hbw.cell (p := ⟨ab, ao + o, none⟩) hab1).trans rd0
              have rd1 := (hbw.cell (p := ⟨ab, ao + (o + 1), none⟩) hab1).trans rd1
              have rd2 := (hbw.cell (p := ⟨ab, ao + (o + 2), none⟩) hab1).trans rd2
              have rd3 := (hbw.cell (p := ⟨ab, ao + (o + 3), none⟩) hab1).trans rd3
              have hb4 := (hbw.block (B + 1 + 1 + 1 + 1) (by omega)).trans HB4.out
              have hb3 := (hbw.block (B + 1 + 1 + 1) (by omega)).trans HB3.out
              clear HB3 HB4 hbw hnb hab2
              have x7 : W1.cell? ⟨B + 1 + 1 + 1 + 1, 7, none⟩ = some qv := (Lib.cell_of_heap hb4 7).trans rfl
              have HB4 := Lib.hid hb4
              have HB3 := Lib.hid hb3
              have HN1 := Lib.hid hn1
              have HPW := Lib.hid hpw
              clear hb4 hb3 hn1 hpw
              have hab1 : ab < W1.heap.size := by omega
              have hab2 : ab ≠ W1.heap.size := by omega
              obtain ⟨o1, ho1⟩ : ∃ o1, o1 = o + 1 := ⟨_, rfl⟩
              obtain ⟨o2, ho2⟩ : ∃ o2, o2 = o + 2 := ⟨_, rfl⟩
              obtain ⟨o3, ho3⟩ : ∃ o3, o3 = o + 3 := ⟨_, rfl⟩
              rw [← ho1] at rd1 lo1 HR1
              rw [← ho2] at rd2 lo2 HR2
              rw [← ho3] at rd3 lo3 HR3
              have ow1 : IntKind.i64.wrap (o1 : Int) = (o1 : Int) := by simp [IntKind.wrap_i64]; omega
              have ow2 : IntKind.i64.wrap (o2 : Int) = (o2 : Int) := by simp [IntKind.wrap_i64]; omega
              have ow3 : IntKind.i64.wrap (o3 : Int) = (o3 : Int) := by simp [IntKind.wrap_i64]; omega
              have op1 : (o : Int) + 1 = (o1 : Int) := by omega
              have op2 : (o : Int) + 2 = (o2 : Int) := by omega
              have op3 : (o : Int) + 3 = (o3 : Int) := by omega
              have HO1 := Lib.hid ho1
              have HO2 := Lib.hid ho2
              have HO3 := Lib.hid ho3
              clear ho1 ho2 ho3
              obtain ⟨i3, hi3, hy0, hy1, hy2⟩ := info_parts info38
              have hj256 : j < 256 := by omega
              go_upto_region 27 with (fail)
              have hab3 : ab ≠ B + 1 + 1 + 1 + 1 := by omega
              have hab4 : ¬ B + 1 + 1 + 1 + 1 = ab := by omega
              have hB41 : B + 1 + 1 + 1 + 1 < W1.heap.size := by omega
              have hB42 : B + 1 + 1 + 1 + 1 ≠ W1.heap.size := by omega
              go_cut [199] (fun _ wx => ∃ g1 cap1, Mid7 W3 B j nb g1 cap1 #[.int .i64 7, .int .i64 0, .int .i64 0, .int .i64 W, .int .i64 H, .int .i64 S, .slice (some ⟨gs, 0, none⟩) (S * H) cs, .slice (some ⟨g1, 0, none⟩) (j + 1) cap1] #[.int .i64 7, .int .i64 W, .int .i64 H, .slice (some ⟨gp, 0, none⟩) N cp, pv] #[.int .i64 r0, .int .i64 r1, .int .i64 r2, .int .i64 r3] (u8s (rowOf (fun i => Qs.getD i 0) (4 * j)) ++ [.int .u8 r0, .int .u8 r1, .int .u8 r2, .int .u8 r3]) (u8s (rowOf (palQ Qs) (3 * j))) pv wx)
              case first =>
                as_aux_lemma =>
                  refine wp_region_held_drew (S := (fun w' => w'.cell? ⟨ab, ao + o, none⟩ = some (.int .u8 r0) ∧ w'.cell? ⟨ab, ao + o1, none⟩ = some (.int .u8 r1) ∧ w'.cell? ⟨ab, ao + o2, none⟩ = some (.int .u8 r2) ∧ w'.cell? ⟨ab, ao + o3, none⟩ = some (.int .u8 r3))) (by kernel_rfl) ?_ (fun hHeld => ?_)
                  · go_keep
                  refine wpAnyH_take (i := 0) (oi := _) (v := ?_) (by (simp only [List.getElem?_toArray, List.getElem?_cons_zero]); exact rfl) (by kernel_rfl) (by kernel_rfl) (by kernel_rfl) (by exact fun _ _ _ h => h) (Or.inl ⟨by rfl, ?_⟩) (by assumption) ?_
                  rotate_left
                  · intro w hSw
                    try dsimp only at hSw
                    go_simp
                    try with_reducible rfl
                  try simp only [Act.put, List.setIfInBounds_toArray, List.set_cons_zero, List.set_cons_succ]
                  refine wpAnyH_take (i := 2) (oi := _) (v := ?_) (by (simp only [List.getElem?_toArray, List.getElem?_cons_succ, List.getElem?_cons_zero]); exact rfl) (by kernel_rfl) (by kernel_rfl) (by kernel_rfl) (by exact fun _ _ _ h => h) (Or.inl ⟨by rfl, ?_⟩) (by assumption) ?_
                  rotate_left
                  · intro w hSw
                    try dsimp only at hSw
                    go_simp
                    try with_reducible rfl
                  try simp only [Act.put, List.setIfInBounds_toArray, List.set_cons_zero, List.set_cons_succ]
                  refine wpAnyH_take (i := 3) (oi := _) (v := ?_) (by (simp only [List.getElem?_toArray, List.getElem?_cons_succ, List.getElem?_cons_zero]); exact rfl) (by kernel_rfl) (by kernel_rfl) (by kernel_rfl) (by exact fun _ _ _ h => h) (Or.inl ⟨by rfl, ?_⟩) (by assumption) ?_
                  rotate_left
                  · intro w hSw
                    try dsimp only at hSw
                    go_simp
                    try with_reducible rfl
                  try simp only [Act.put, List.setIfInBounds_toArray, List.set_cons_zero, List.set_cons_succ]
                  refine wpAnyH_take (i := 4) (oi := _) (v := ?_) (by (simp only [List.getElem?_toArray, List.getElem?_cons_succ, List.getElem?_cons_zero]); exact rfl) (by kernel_rfl) (by kernel_rfl) (by kernel_rfl) (by exact fun _ _ _ h => h) (Or.inl ⟨by rfl, ?_⟩) (by assumption) ?_
                  rotate_left
                  · intro w hSw
                    try dsimp only at hSw
                    go_simp
                    try with_reducible rfl
                  try simp only [Act.put, List.setIfInBounds_toArray, List.set_cons_zero, List.set_cons_succ]
                  refine wpAnyH_take (i := 5) (oi := _) (v := ?_) (by (simp only [List.getElem?_toArray, List.getElem?_cons_succ, List.getElem?_cons_zero]); exact rfl) (by kernel_rfl) (by kernel_rfl) (by kernel_rfl) (by exact fun _ _ _ h => h) (Or.inl ⟨by rfl, ?_⟩) (by assumption) ?_
                  rotate_left
                  · intro w hSw
                    try dsimp only at hSw
                    go_simp
                    try with_reducible rfl
                  try simp only [Act.put, List.setIfInBounds_toArray, List.set_cons_zero, List.set_cons_succ]
                  refine wpAnyH_take (i := 6) (oi := _) (v := ?_) (by (simp only [List.getElem?_toArray, List.getElem?_cons_succ, List.getElem?_cons_zero]); exact rfl) (by kernel_rfl) (by kernel_rfl) (by kernel_rfl) (by exact fun _ _ _ h => h) (Or.inl ⟨by rfl, ?_⟩) (by assumption) ?_
                  rotate_left
                  · intro w hSw
                    try dsimp only at hSw
                    go_simp
                    try with_reducible rfl
                  try simp only [Act.put, List.setIfInBounds_toArray, List.set_cons_zero, List.set_cons_succ]
                  refine wpAnyH_take (i := 7) (oi := _) (v := ?_) (by (simp only [List.getElem?_toArray, List.getElem?_cons_succ, List.getElem?_cons_zero]); exact rfl) (by kernel_rfl) (by kernel_rfl) (by kernel_rfl) (by exact fun _ _ _ h => h) (Or.inl ⟨by rfl, ?_⟩) (by assumption) ?_
                  rotate_left
                  · intro w hSw
                    try dsimp only at hSw
                    go_simp
                    try with_reducible rfl
                  try simp only [Act.put, List.setIfInBounds_toArray, List.set_cons_zero, List.set_cons_succ]
                  refine wpAnyH_take (i := 8) (oi := _) (v := ?_) (by (simp only [List.getElem?_toArray, List.getElem?_cons_succ, List.getElem?_cons_zero]); exact rfl) (by kernel_rfl) (by kernel_rfl) (by kernel_rfl) (by exact fun _ _ _ h => h) (Or.inl ⟨by rfl, ?_⟩) (by assumption) ?_
                  rotate_left
                  · intro w hSw
                    try dsimp only at hSw
                    go_simp
                    try with_reducible rfl
                  try simp only [Act.put, List.setIfInBounds_toArray, List.set_cons_zero, List.set_cons_succ]
                  refine wpAnyH_take (i := 9) (oi := _) (v := ?_) (by (simp only [List.getElem?_toArray, List.getElem?_cons_succ, List.getElem?_cons_zero]); exact rfl) (by kernel_rfl) (by kernel_rfl) (by kernel_rfl) (by exact fun _ _ _ h => h) (Or.inl ⟨by rfl, ?_⟩) (by assumption) ?_
                  rotate_left
                  · intro w hSw
                    try dsimp only at hSw
                    go_simp
                    try with_reducible rfl
                  try simp only [Act.put, List.setIfInBounds_toArray, List.set_cons_zero, List.set_cons_succ]
                  refine wpAnyH_take (i := 10) (oi := _) (v := ?_) (by (simp only [List.getElem?_toArray, List.getElem?_cons_succ, List.getElem?_cons_zero]); exact rfl) (by kernel_rfl) (by kernel_rfl) (by kernel_rfl) (by exact fun _ _ _ h => h) (Or.inl ⟨by rfl, ?_⟩) (by assumption) ?_
                  rotate_left
                  · intro w hSw
                    try dsimp only at hSw
                    go_simp
                    try with_reducible rfl
                  try simp only [Act.put, List.setIfInBounds_toArray, List.set_cons_zero, List.set_cons_succ]
                  refine wpAnyH_take (i := 11) (oi := _) (v := ?_) (by (simp only [List.getElem?_toArray, List.getElem?_cons_succ, List.getElem?_cons_zero]); exact rfl) (by kernel_rfl) (by kernel_rfl) (by kernel_rfl) (by exact fun _ _ _ h => h) (Or.inl ⟨by rfl, ?_⟩) (by assumption) ?_
                  rotate_left
                  · intro w hSw
                    try dsimp only at hSw
                    go_simp
                    try with_reducible rfl
                  try simp only [Act.put, List.setIfInBounds_toArray, List.set_cons_zero, List.set_cons_succ]
                  refine wpAnyH_take (i := 12) (oi := _) (v := ?_) (by (simp only [List.getElem?_toArray, List.getElem?_cons_succ, List.getElem?_cons_zero]); exact rfl) (by kernel_rfl) (by kernel_rfl) (by kernel_rfl) (by exact fun _ _ _ h => h) (Or.inl ⟨by rfl, ?_⟩) (by assumption) ?_
                  rotate_left
                  · intro w hSw
                    try dsimp only at hSw
                    go_simp
                    try with_reducible rfl
                  try simp only [Act.put, List.setIfInBounds_toArray, List.set_cons_zero, List.set_cons_succ]
                  refine wpAnyH_take (i := 13) (oi := _) (v := ?_) (by (simp only [List.getElem?_toArray, List.getElem?_cons_succ, List.getElem?_cons_zero]); exact rfl) (by kernel_rfl) (by kernel_rfl) (by kernel_rfl) (by exact fun _ _ _ h => h) (Or.inl ⟨by rfl, ?_⟩) (by assumption) ?_
                  rotate_left
                  · intro w hSw
                    try dsimp only at hSw
                    go_simp
                    try with_reducible rfl
                  try simp only [Act.put, List.setIfInBounds_toArray, List.set_cons_zero, List.set_cons_succ]
                  refine wpAnyH_take (i := 14) (oi := _) (v := ?_) (by (simp only [List.getElem?_toArray, List.getElem?_cons_succ, List.getElem?_cons_zero]); exact rfl) (by kernel_rfl) (by kernel_rfl) (by kernel_rfl) (by exact fun _ _ _ h => h) (Or.inl ⟨by rfl, ?_⟩) (by assumption) ?_
                  rotate_left
                  · intro w hSw
                    try dsimp only at hSw
                    go_simp
                    try with_reducible rfl
                  try simp only [Act.put, List.setIfInBounds_toArray, List.set_cons_zero, List.set_cons_succ]
                  refine wpAnyH_take (i := 15) (oi := _) (v := ?_) (by (simp only [List.getElem?_toArray, List.getElem?_cons_succ, List.getElem?_cons_zero]); exact rfl) (by kernel_rfl) (by kernel_rfl) (by kernel_rfl) (by exact fun _ _ _ h => h) (Or.inl ⟨by rfl, ?_⟩) (by assumption) ?_
                  rotate_left
                  · intro w hSw
                    try dsimp only at hSw
                    go_simp
                    try with_reducible rfl
                  try simp only [Act.put, List.setIfInBounds_toArray, List.set_cons_zero, List.set_cons_succ]
                  refine wpAnyH_take (i := 16) (oi := _) (v := ?_) (by (simp only [List.getElem?_toArray, List.getElem?_cons_succ, List.getElem?_cons_zero]); exact rfl) (by kernel_rfl) (by kernel_rfl) (by kernel_rfl) (by exact fun _ _ _ h => h) (Or.inl ⟨by rfl, ?_⟩) (by assumption) ?_
                  rotate_left
                  · intro w hSw
                    try dsimp only at hSw
                    go_simp
                    try with_reducible rfl
                  try simp only [Act.put, List.setIfInBounds_toArray, List.set_cons_zero, List.set_cons_succ]
                  refine wpAnyH_take (i := 17) (oi := _) (v := ?_) (by (simp only [List.getElem?_toArray, List.getElem?_cons_succ, List.getElem?_cons_zero]); exact rfl) (by kernel_rfl) (by kernel_rfl) (by kernel_rfl) (by exact fun _ _ _ h => h) (Or.inl ⟨by rfl, ?_⟩) (by assumption) ?_
                  rotate_left
                  · intro w hSw
                    try dsimp only at hSw
                    go_simp
                    try with_reducible rfl
                  try simp only [Act.put, List.setIfInBounds_toArray, List.set_cons_zero, List.set_cons_succ]
                  refine wpAnyH_take (i := 18) (oi := _) (v := ?_) (by (simp only [List.getElem?_toArray, List.getElem?_cons_succ, List.getElem?_cons_zero]); exact rfl) (by kernel_rfl) (by kernel_rfl) (by kernel_rfl) (by exact fun _ _ _ h => h) (Or.inl ⟨by rfl, ?_⟩) (by assumption) ?_
                  rotate_left
                  · intro w hSw
                    try dsimp only at hSw
                    go_simp
                    try with_reducible rfl
                  try simp only [Act.put, List.setIfInBounds_toArray, List.set_cons_zero, List.set_cons_succ]
                  refine wpAnyH_take (i := 19) (oi := _) (v := ?_) (by (simp only [List.getElem?_toArray, List.getElem?_cons_succ, List.getElem?_cons_zero]); exact rfl) (by kernel_rfl) (by kernel_rfl) (by kernel_rfl) (by exact fun _ _ _ h => h) (Or.inl ⟨by rfl, ?_⟩) (by assumption) ?_
                  rotate_left
                  · intro w hSw
                    try dsimp only at hSw
                    go_simp
                    try with_reducible rfl
                  try simp only [Act.put, List.setIfInBounds_toArray, List.set_cons_zero, List.set_cons_succ]
                  refine wpAnyH_take (i := 20) (oi := _) (v := ?_) (by (simp only [List.getElem?_toArray, List.getElem?_cons_succ, List.getElem?_cons_zero]); exact rfl) (by kernel_rfl) (by kernel_rfl) (by kernel_rfl) (by exact fun _ _ _ h => h) (Or.inl ⟨by rfl, ?_⟩) (by assumption) ?_
                  rotate_left
                  · intro w hSw
                    try dsimp only at hSw
                    go_simp
                    try with_reducible rfl
                  try simp only [Act.put, List.setIfInBounds_toArray, List.set_cons_zero, List.set_cons_succ]
                  refine wpAnyH_take (i := 21) (oi := _) (v := ?_) (by (simp only [List.getElem?_toArray, List.getElem?_cons_succ, List.getElem?_cons_zero]); exact rfl) (by kernel_rfl) (by kernel_rfl) (by kernel_rfl) (by exact fun _ _ _ h => h) (Or.inl ⟨by rfl, ?_⟩) (by assumption) ?_
                  rotate_left
                  · intro w hSw
                    try dsimp only at hSw
                    go_simp
                    try with_reducible rfl
                  try simp only [Act.put, List.setIfInBounds_toArray, List.set_cons_zero, List.set_cons_succ]
                  refine wpAnyH_ready (rs := [1, 22]) (by kernel_rfl) (by simp) ?_
                  refine AllReadyH.cons (o := _) (by (simp only [List.getElem?_toArray, List.getElem?_cons_succ, List.getElem?_cons_zero]); exact rfl) (fun K hK => ?_) ?_
                  · as_aux_lemma =>
                      go_simp
                      refine hK.out _ _ ?_ (fun hHeld => ?_)
                      · (try dsimp only)
                        go_keep
                      clear hK K
                      try simp only [Act.put, List.setIfInBounds_toArray, List.set_cons_zero, List.set_cons_succ]
                      refine wpAnyH_ready (rs := [22]) (by kernel_rfl) (by simp) ?_
                      refine AllReadyH.cons (o := _) (by (simp only [List.getElem?_toArray, List.getElem?_cons_succ, List.getElem?_cons_zero]); exact rfl) (fun K hK => ?_) AllReadyH.nil
                      go_simp
                      refine hK.out _ _ ?_ (fun hHeld => ?_)
                      · (try dsimp only)
                        go_keep
                      clear hK K
                      try simp only [Act.put, List.setIfInBounds_toArray, List.set_cons_zero, List.set_cons_succ]
                      refine wpAnyH_ready (rs := [23]) (by kernel_rfl) (by simp) ?_
                      refine AllReadyH.cons (o := _) (by (simp only [List.getElem?_toArray, List.getElem?_cons_succ, List.getElem?_cons_zero]); exact rfl) (fun K hK => ?_) AllReadyH.nil
                      refine step_append_lies _ rfl (.tmp 177) (.tmp 198) 23 rfl W3.heap.size 38 i3 (.agg #[.int .u8 0, .int .u8 0, .int .u8 0, .int .u8 0]) 4 4 Tryd.underlying23 hi3 hy0 hy1 hy2 rfl (by omega) qv j (u8s (rowOf (fun i => Qs.getD i 0) (4 * j))) (by rfl) (World.ownsRow.alloc hqw _) ⟨W1.heap.size, 0, none⟩ 1 1 _ (by rfl) (by rfl) (World.news_of_block (heap_alloc_new W1 _)) (by simp [Value.oneCell']) (by omega) (by unfold maxLen; omega) (by omega) (by simp; omega) (W1.heap.size + 1) (by simp) ?_
                      intro g1 cap1 w1 hown1 hgrow1 _ hlt1
                      have hgb : ∀ k, k < W1.heap.size → qv.ownBlock ≠ some k → w1.heap[k]? = W1.heap[k]? := fun k hk hne => (hgrow1.block k (by simp; omega) (fun e => hne e.symm)).trans (Below.heap_alloc W1 _ k hk)
                      have hA : Keep (fun k => qv.ownBlock = some k) W1 w1 := ⟨hgrow1.os, hgrow1.tape, hgrow1.output, by have := hgrow1.size; simp at this; omega, fun k hk hs => hgb k hk hs⟩
                      have hb41 := (hgb (B + 1 + 1 + 1 + 1) (by omega) (fun e => by have := (hqw.lt (B + 1 + 1 + 1 + 1) e).1; omega)).trans HB4.out
                      have x7 : w1.cell? ⟨B + 1 + 1 + 1 + 1, 7, none⟩ = some qv := (Lib.cell_of_heap hb41 7).trans rfl
                      have hga := hgb ab hab1 (fun e => by have := (hqw.lt ab e).1; omega)
                      have sd0 := (World.cell?_of_block (w := W1) (a := ⟨ab, ao + o, none⟩) hga).trans rd0
                      have sd1 := (World.cell?_of_block (w := W1) (a := ⟨ab, ao + o1, none⟩) hga).trans rd1
                      have sd2 := (World.cell?_of_block (w := W1) (a := ⟨ab, ao + o2, none⟩) hga).trans rd2
                      have sd3 := (World.cell?_of_block (w := W1) (a := ⟨ab, ao + o3, none⟩) hga).trans rd3
                      have zf : ∀ i, w1.frozen? ⟨B + 1 + 1 + 1 + 1, i, none⟩ = false := fun i => Lib.frozen_of_heap hb41 i
                      clear hga
                      refine hK.out _ _ ?_ (fun hHeld => ?_)
                      · (try dsimp only)
                        go_keep
                      clear hK K
                      try simp only [Act.put, List.setIfInBounds_toArray, List.set_cons_zero, List.set_cons_succ]
                      refine wpAnyH_ready (rs := [24]) (by kernel_rfl) (by simp) ?_
                      refine AllReadyH.cons (o := _) (by (simp only [List.getElem?_toArray, List.getElem?_cons_succ, List.getElem?_cons_zero]); exact rfl) (fun K hK => ?_) AllReadyH.nil
                      go_simp
                      refine hK.out _ _ ?_ (fun hHeld => ?_)
                      · (try dsimp only)
                        go_keep
                      clear hK K
                      try simp only [Act.put, List.setIfInBounds_toArray, List.set_cons_zero, List.set_cons_succ]
                      refine wpAnyH_ready (rs := [25]) (by kernel_rfl) (by simp) ?_
                      refine AllReadyH.cons (o := _) (by (simp only [List.getElem?_toArray, List.getElem?_cons_succ, List.getElem?_cons_zero]); exact rfl) (fun K hK => ?_) AllReadyH.nil
                      go_simp
                      refine hK.out _ _ ?_ (fun hHeld => ?_)
                      · (try dsimp only)
                        go_keep
                      clear hK K
                      try simp only [Act.put, List.setIfInBounds_toArray, List.set_cons_zero, List.set_cons_succ]
                      refine wpAnyH_done (by kernel_rfl) ?_ _
                      as_aux_lemma =>
                        go_wp2_with fail
                        go_meet
                        go_light
                        first
                          | exact ⟨_, _, mid7 h53 hqw HPW.out hkw HB4.out HB3.out HN1.out hsw3 hA hown1⟩
                          | (repeat (apply Exists.intro)
                             exact mid7 h53 hqw HPW.out hkw HB4.out HB3.out HN1.out hsw3 hA hown1)
                          | (repeat (apply Exists.intro)
                             refine And.intro ?rel2 ?eqs2
                             case eqs2 =>
                               (try simp only [htk])
                               repeat (first | exact rfl | refine And.intro rfl ?_)
                             case rel2 => exact ⟨_, _, mid7 h53 hqw HPW.out hkw HB4.out HB3.out HN1.out hsw3 hA hown1⟩)
                  refine AllReadyH.cons (o := _) (by (simp only [List.getElem?_toArray, List.getElem?_cons_succ, List.getElem?_cons_zero]); exact rfl) (fun K hK => ?_) AllReadyH.nil
                  as_aux_lemma =>
                    go_simp
                    refine hK.out _ _ ?_ (fun hHeld => ?_)
                    · (try dsimp only)
                      go_keep
                    clear hK K
                    try simp only [Act.put, List.setIfInBounds_toArray, List.set_cons_zero, List.set_cons_succ]
                    refine wpAnyH_ready (rs := [1]) (by kernel_rfl) (by simp) ?_
                    refine AllReadyH.cons (o := _) (by (simp only [List.getElem?_toArray, List.getElem?_cons_succ, List.getElem?_cons_zero]); exact rfl) (fun K hK => ?_) AllReadyH.nil
                    go_simp
                    refine hK.out _ _ ?_ (fun hHeld => ?_)
                    · (try dsimp only)
                      go_keep
                    clear hK K
                    try simp only [Act.put, List.setIfInBounds_toArray, List.set_cons_zero, List.set_cons_succ]
                    refine wpAnyH_ready (rs := [23]) (by kernel_rfl) (by simp) ?_
                    refine AllReadyH.cons (o := _) (by (simp only [List.getElem?_toArray, List.getElem?_cons_succ, List.getElem?_cons_zero]); exact rfl) (fun K hK => ?_) AllReadyH.nil
                    refine step_append_lies _ rfl (.tmp 177) (.tmp 198) 23 rfl W3.heap.size 38 i3 (.agg #[.int .u8 0, .int .u8 0, .int .u8 0, .int .u8 0]) 4 4 Tryd.underlying23 hi3 hy0 hy1 hy2 rfl (by omega) qv j (u8s (rowOf (fun i => Qs.getD i 0) (4 * j))) (by rfl) (World.ownsRow.alloc hqw _) ⟨W1.heap.size, 0, none⟩ 1 1 _ (by rfl) (by rfl) (World.news_of_block (heap_alloc_new W1 _)) (by simp [Value.oneCell']) (by omega) (by unfold maxLen; omega) (by omega) (by simp; omega) (W1.heap.size + 1) (by simp) ?_
                    intro g1 cap1 w1 hown1 hgrow1 _ hlt1
                    have hgb : ∀ k, k < W1.heap.size → qv.ownBlock ≠ some k → w1.heap[k]? = W1.heap[k]? := fun k hk hne => (hgrow1.block k (by simp; omega) (fun e => hne e.symm)).trans (Below.heap_alloc W1 _ k hk)
                    have hA : Keep (fun k => qv.ownBlock = some k) W1 w1 := ⟨hgrow1.os, hgrow1.tape, hgrow1.output, by have := hgrow1.size; simp at this; omega, fun k hk hs => hgb k hk hs⟩
                    have hb41 := (hgb (B + 1 + 1 + 1 + 1) (by omega) (fun e => by have := (hqw.lt (B + 1 + 1 + 1 + 1) e).1; omega)).trans HB4.out
                    have x7 : w1.cell? ⟨B + 1 + 1 + 1 + 1, 7, none⟩ = some qv := (Lib.cell_of_heap hb41 7).trans rfl
                    have hga := hgb ab hab1 (fun e => by have := (hqw.lt ab e).1; omega)
                    have sd0 := (World.cell?_of_block (w := W1) (a := ⟨ab, ao + o, none⟩) hga).trans rd0
                    have sd1 := (World.cell?_of_block (w := W1) (a := ⟨ab, ao + o1, none⟩) hga).trans rd1
                    have sd2 := (World.cell?_of_block (w := W1) (a := ⟨ab, ao + o2, none⟩) hga).trans rd2
                    have sd3 := (World.cell?_of_block (w := W1) (a := ⟨ab, ao + o3, none⟩) hga).trans rd3
                    have zf : ∀ i, w1.frozen? ⟨B + 1 + 1 + 1 + 1, i, none⟩ = false := fun i => Lib.frozen_of_heap hb41 i
                    clear hga
                    refine hK.out _ _ ?_ (fun hHeld => ?_)
                    · (try dsimp only)
                      go_keep
                    clear hK K
                    try simp only [Act.put, List.setIfInBounds_toArray, List.set_cons_zero, List.set_cons_succ]
                    refine wpAnyH_ready (rs := [24]) (by kernel_rfl) (by simp) ?_
                    refine AllReadyH.cons (o := _) (by (simp only [List.getElem?_toArray, List.getElem?_cons_succ, List.getElem?_cons_zero]); exact rfl) (fun K hK => ?_) AllReadyH.nil
                    go_simp
                    refine hK.out _ _ ?_ (fun hHeld => ?_)
                    · (try dsimp only)
                      go_keep
                    clear hK K
                    try simp only [Act.put, List.setIfInBounds_toArray, List.set_cons_zero, List.set_cons_succ]
                    refine wpAnyH_ready (rs := [25]) (by kernel_rfl) (by simp) ?_
                    refine AllReadyH.cons (o := _) (by (simp only [List.getElem?_toArray, List.getElem?_cons_succ, List.getElem?_cons_zero]); exact rfl) (fun K hK => ?_) AllReadyH.nil
                    go_simp
                    refine hK.out _ _ ?_ (fun hHeld => ?_)
                    · (try dsimp only)
                      go_keep
                    clear hK K
                    try simp only [Act.put, List.setIfInBounds_toArray, List.set_cons_zero, List.set_cons_succ]
                    refine wpAnyH_done (by kernel_rfl) ?_ _
                    as_aux_lemma =>
                      go_wp2_with fail
                      go_meet
                      go_light
                      first
                        | exact ⟨_, _, mid7 h53 hqw HPW.out hkw HB4.out HB3.out HN1.out hsw3 hA hown1⟩
                        | (repeat (apply Exists.intro)
                           exact mid7 h53 hqw HPW.out hkw HB4.out HB3.out HN1.out hsw3 hA hown1)
                        | (repeat (apply Exists.intro)
                           refine And.intro ?rel2 ?eqs2
                           case eqs2 =>
                             (try simp only [htk])
                             repeat (first | exact rfl | refine And.intro rfl ?_)
                           case rel2 => exact ⟨_, _, mid7 h53 hqw HPW.out hkw HB4.out HB3.out HN1.out hsw3 hA hown1⟩)
              case rest =>
                as_aux_lemma =>
                  obtain ⟨g1, cap1, hM⟩ := hcut
                  have eq1 : u8s (rowOf (fun i => Qs.getD i 0) (4 * (j + 1))) = u8s (rowOf (fun i => Qs.getD i 0) (4 * j)) ++ [.int .u8 r0, .int .u8 r1, .int .u8 r2, .int .u8 r3] := by
                    rw [rowOf_four, u8s_append, HR0.out, HR1.out, HR2.out, HR3.out, HO1.out, HO2.out, HO3.out, HO.out]
                    rfl
                  obtain ⟨p0, m0, q0, hp0, hp0a, hp0b, hm0, hm0t, hm0a, hm0b, hq0, hq0s, hq0a, hq0b, hq0e⟩ := shade_num a0 a1 a6 a7
                  obtain ⟨p1, m1, q1, hp1, hp1a, hp1b, hm1, hm1t, hm1a, hm1b, hq1, hq1s, hq1a, hq1b, hq1e⟩ := shade_num a2 a3 a6 a7
                  obtain ⟨p2, m2, q2, hp2, hp2a, hp2b, hm2, hm2t, hm2a, hm2b, hq2, hq2s, hq2a, hq2b, hq2e⟩ := shade_num a4 a5 a6 a7
                  have eq2 : u8s (rowOf (palQ Qs) (3 * (j + 1))) = u8s (rowOf (palQ Qs) (3 * j)) ++ [.int .u8 q0, .int .u8 q1, .int .u8 q2] := by
                    rw [rowOf_three, u8s_append, palQ_0, palQ_1, palQ_2, hq0e, hq1e, hq2e, HR0.out, HR1.out, HR2.out, HR3.out, HO1.out, HO2.out, HO3.out, HO.out]
                    rfl
                  have EQ1 := Lib.hid eq1
                  have EQ2 := Lib.hid eq2
                  clear eq1 eq2 hq0e hq1e hq2e
                  have x4 : wc.cell? ⟨B + 1 + 1 + 1, 4, none⟩ = some pv := (Lib.cell_of_heap hM.h3 4).trans rfl
                  have n0 : wc.cell? ⟨nb, 0, none⟩ = some (.int .i64 r0) := (Lib.cell_of_heap hM.hn 0).trans rfl
                  have n1 : wc.cell? ⟨nb, 1, none⟩ = some (.int .i64 r1) := (Lib.cell_of_heap hM.hn 1).trans rfl
                  have n2 : wc.cell? ⟨nb, 2, none⟩ = some (.int .i64 r2) := (Lib.cell_of_heap hM.hn 2).trans rfl
                  have n3 : wc.cell? ⟨nb, 3, none⟩ = some (.int .i64 r3) := (Lib.cell_of_heap hM.hn 3).trans rfl
                  have hswc : W3.heap.size ≤ wc.heap.size := hM.keep.size
                  obtain ⟨i4, hi4, hw0, hw1, hw2⟩ := info_parts info40
                  clear rd0 rd1 rd2 rd3 hab1 hab2 hab3 hab4 hB41 hB42 hqw hkw hsw1 hi3 hy0 hy1 hy2 x7
                  go_wp2_with (at_builtin; refine wpList_append_lies _ rfl (.tmp 202) (.tmp 231) 26 rfl W3.heap.size 40 i4 (.agg #[.int .u8 0, .int .u8 0, .int .u8 0]) 3 3 Tryd.underlying26 hi4 hw0 hw1 hw2 rfl (by omega) pv j (u8s (rowOf (palQ Qs) (3 * j))) (by rfl) (World.ownsRow.alloc (w := wc) hM.hp _) ⟨wc.heap.size, 0, none⟩ 1 1 _ (by rfl) (by rfl) (World.news_of_block (heap_alloc_new wc _)) (by simp [Value.oneCell']) (by omega) (by unfold maxLen; omega) (by omega) (by simp; omega) (wc.heap.size + 1) (by simp) ?_; intro g5 cap5 w5 hown5 hgrow5 _ hlt5; have hA5 : Keep (fun k => pv.ownBlock = some k) wc w5 := ⟨hgrow5.os, hgrow5.tape, hgrow5.output, by have := hgrow5.size; simp at this; omega, fun k hk hne => (hgrow5.block k (by simp; omega) (fun e => hne e.symm)).trans (Below.heap_alloc wc _ k hk)⟩; have hb35 := (hA5.block _ (Lib.lt_of_heap hM.h3) (owns_other hM.hp hM.h3 (by decide))).trans hM.h3; have x4' : w5.cell? ⟨B + 1 + 1 + 1, 4, none⟩ = some pv := (Lib.cell_of_heap hb35 4).trans rfl; have zf5 : ∀ i, w5.frozen? ⟨B + 1 + 1 + 1, i, none⟩ = false := fun i => Lib.frozen_of_heap hb35 i)
                  go_roundw
                  case measure => (simp [intOf]) <;> omega
                  case rel =>
                    repeat (apply Exists.intro)
                    refine And.intro ?rel2 ?eqs2
                    case eqs2 =>
                      simp only [htk]
                      repeat (first | exact rfl | refine And.intro rfl ?_)
                    case rel2 =>
                      obtain ⟨t4, t3, tq, tp, tk⟩ := end7 h53 hM hA5 hown5
                      refine ⟨j + 1, o + 4, _, _, by omega, by have := HO.out; omega, ?_, t4, t3, ?_, ?_, tk⟩
                      · go_num
                      · rw [EQ1.out]
                        exact tq
                      · rw [EQ2.out]
                        exact tp
            · have hjp : j = pn := by omega
              obtain ⟨qo, ql, qc2, rfl⟩ := owns_slice hq
              obtain ⟨po, pl, pc2, rfl⟩ := owns_slice hp
              rw [hjp] at hq hp
              have hno : ¬ ((o : Int) + 3 < (qn : Int)) := by omega
              clear hjp
              have hb0 := (hkq.block B (by omega) (by show ¬ (B = B + 1 + 1 + 1 ∨ B = B + 1 + 1 + 1 + 1); omega)).trans HH0.out
              have hb1 := (hkq.block (B + 1) (by omega) (by show ¬ (B + 1 = B + 1 + 1 + 1 ∨ B + 1 = B + 1 + 1 + 1 + 1); omega)).trans HH1.out
              have x0 : wr.cell? ⟨B + 1 + 1 + 1 + 1, 0, none⟩ = _ := (Lib.cell_of_heap hb4 0).trans rfl
              have x1 : wr.cell? ⟨B + 1 + 1 + 1 + 1, 1, none⟩ = _ := (Lib.cell_of_heap hb4 1).trans rfl
              have x2 : wr.cell? ⟨B + 1 + 1 + 1 + 1, 2, none⟩ = _ := (Lib.cell_of_heap hb4 2).trans rfl
              have x3 : wr.cell? ⟨B + 1 + 1 + 1 + 1, 3, none⟩ = _ := (Lib.cell_of_heap hb4 3).trans rfl
              have x4 : wr.cell? ⟨B + 1 + 1 + 1 + 1, 4, none⟩ = _ := (Lib.cell_of_heap hb4 4).trans rfl
              have x5 : wr.cell? ⟨B + 1 + 1 + 1 + 1, 5, none⟩ = _ := (Lib.cell_of_heap hb4 5).trans rfl
              have x6 : wr.cell? ⟨B + 1 + 1 + 1 + 1, 6, none⟩ = _ := (Lib.cell_of_heap hb4 6).trans rfl
              have x7 : wr.cell? ⟨B + 1 + 1 + 1 + 1, 7, none⟩ = _ := (Lib.cell_of_heap hb4 7).trans rfl
              have y0 : wr.cell? ⟨B + 1 + 1 + 1, 0, none⟩ = _ := (Lib.cell_of_heap hb3 0).trans rfl
              have y1 : wr.cell? ⟨B + 1 + 1 + 1, 1, none⟩ = _ := (Lib.cell_of_heap hb3 1).trans rfl
              have y2 : wr.cell? ⟨B + 1 + 1 + 1, 2, none⟩ = _ := (Lib.cell_of_heap hb3 2).trans rfl
              have y3 : wr.cell? ⟨B + 1 + 1 + 1, 3, none⟩ = _ := (Lib.cell_of_heap hb3 3).trans rfl
              have y4 : wr.cell? ⟨B + 1 + 1 + 1, 4, none⟩ = _ := (Lib.cell_of_heap hb3 4).trans rfl
              have s0 : wr.cell? ⟨B, 0, none⟩ = _ := (Lib.cell_of_heap hb0 0).trans rfl
              have s1 : wr.cell? ⟨B, 1, none⟩ = _ := (Lib.cell_of_heap hb0 1).trans rfl
              have s2 : wr.cell? ⟨B, 2, none⟩ = _ := (Lib.cell_of_heap hb0 2).trans rfl
              have s3 : wr.cell? ⟨B, 3, none⟩ = _ := (Lib.cell_of_heap hb0 3).trans rfl
              have s4 : wr.cell? ⟨B, 4, none⟩ = _ := (Lib.cell_of_heap hb0 4).trans rfl
              have s5 : wr.cell? ⟨B, 5, none⟩ = _ := (Lib.cell_of_heap hb0 5).trans rfl
              have s6 : wr.cell? ⟨B, 6, none⟩ = _ := (Lib.cell_of_heap hb0 6).trans rfl
              have s7 : wr.cell? ⟨B, 7, none⟩ = _ := (Lib.cell_of_heap hb0 7).trans rfl
              have t0 : wr.cell? ⟨B + 1, 0, none⟩ = _ := (Lib.cell_of_heap hb1 0).trans rfl
              have t1 : wr.cell? ⟨B + 1, 1, none⟩ = _ := (Lib.cell_of_heap hb1 1).trans rfl
              have t2 : wr.cell? ⟨B + 1, 2, none⟩ = _ := (Lib.cell_of_heap hb1 2).trans rfl
              have t3 : wr.cell? ⟨B + 1, 3, none⟩ = _ := (Lib.cell_of_heap hb1 3).trans rfl
              have t4 : wr.cell? ⟨B + 1, 4, none⟩ = _ := (Lib.cell_of_heap hb1 4).trans rfl
              have zf0 : ∀ i, wr.frozen? ⟨B, i, none⟩ = false := fun i => Lib.frozen_of_heap hb0 i
              have zf1 : ∀ i, wr.frozen? ⟨B + 1, i, none⟩ = false := fun i => Lib.frozen_of_heap hb1 i
              have HH3 := Lib.hid hb3
              have HH4 := Lib.hid hb4
              have HK0 := Lib.hid hb0
              have HK1 := Lib.hid hb1
              have HQQ := Lib.hid hq
              have HPP := Lib.hid hp
              clear hb3 hb4 hb0 hb1 hq hp
              go_upto_region 29 with (fail)
              go_region
              have hz := two_stored HK0.out HK1.out (.int .i64 7) (.int .i64 0) (.int .i64 0) (.int .i64 W) (.int .i64 H) (.int .i64 S) (.slice (some ⟨gs, 0, none⟩) (S * H) cs) (.slice qo ql qc2) (.int .i64 7) (.int .i64 W) (.int .i64 H) (.slice (some ⟨gp, 0, none⟩) N cp) (.slice po pl pc2)
              clear x0 x1 x2 x3 x4 x5 x6 x7 y0 y1 y2 y3 y4 s0 s1 s2 s3 s4 s5 s6 s7 t0 t1 t2 t3 t4 zf0 zf1
              generalize (((((((((((((wr.setCell ⟨B, 0, none⟩ (.int .i64 7)).setCell ⟨B, 1, none⟩ (.int .i64 0)).setCell ⟨B, 2, none⟩ (.int .i64 0)).setCell ⟨B, 3, none⟩ (.int .i64 W)).setCell ⟨B, 4, none⟩ (.int .i64 H)).setCell ⟨B, 5, none⟩ (.int .i64 S)).setCell ⟨B, 6, none⟩ (.slice (some ⟨gs, 0, none⟩) (S * H) cs)).setCell ⟨B, 7, none⟩ (.slice qo ql qc2)).setCell ⟨B + 1, 0, none⟩ (.int .i64 7)).setCell ⟨B + 1, 1, none⟩ (.int .i64 W)).setCell ⟨B + 1, 2, none⟩ (.int .i64 H)).setCell ⟨B + 1, 3, none⟩ (.slice (some ⟨gp, 0, none⟩) N cp)).setCell ⟨B + 1, 4, none⟩ (.slice po pl pc2)) = wz at hz ⊢
              obtain ⟨z0, z1, zk⟩ := hz
              have s0 : wz.cell? ⟨B, 0, none⟩ = _ := (Lib.cell_of_heap z0 0).trans rfl
              have s1 : wz.cell? ⟨B, 1, none⟩ = _ := (Lib.cell_of_heap z0 1).trans rfl
              have s2 : wz.cell? ⟨B, 2, none⟩ = _ := (Lib.cell_of_heap z0 2).trans rfl
              have s3 : wz.cell? ⟨B, 3, none⟩ = _ := (Lib.cell_of_heap z0 3).trans rfl
              have s4 : wz.cell? ⟨B, 4, none⟩ = _ := (Lib.cell_of_heap z0 4).trans rfl
              have s5 : wz.cell? ⟨B, 5, none⟩ = _ := (Lib.cell_of_heap z0 5).trans rfl
              have s6 : wz.cell? ⟨B, 6, none⟩ = _ := (Lib.cell_of_heap z0 6).trans rfl
              have s7 : wz.cell? ⟨B, 7, none⟩ = _ := (Lib.cell_of_heap z0 7).trans rfl
              have t0 : wz.cell? ⟨B + 1, 0, none⟩ = _ := (Lib.cell_of_heap z1 0).trans rfl
              have t1 : wz.cell? ⟨B + 1, 1, none⟩ = _ := (Lib.cell_of_heap z1 1).trans rfl
              have t2 : wz.cell? ⟨B + 1, 2, none⟩ = _ := (Lib.cell_of_heap z1 2).trans rfl
              have t3 : wz.cell? ⟨B + 1, 3, none⟩ = _ := (Lib.cell_of_heap z1 3).trans rfl
              have t4 : wz.cell? ⟨B + 1, 4, none⟩ = _ := (Lib.cell_of_heap z1 4).trans rfl
              clear z0 z1
              go_wp2_with fail
              try simp only [Exit.inBlock, Exit.then]
              refine bodyPost_ret (by simp [results, Tryd.results4, go_sem, s0, s1, s2, s3, s4, s5, s6, s7, t0, t1, t2, t3, t4]; try rfl) rfl ?_
              have h5 : B ≤ W0.heap.size := by omega
              have e4 : Qs.length / 4 = pn := by rw [HQN.out, HPN.out]
              rw [← HHI.out]
              unfold PicOut7
              rw [e4]
              refine ⟨gs, cs, gp, cp, _, _, rfl, ?_, ?_, ?_, ?_, ?_⟩
              · exact owns_base (B := W2.heap.size) (owns_keep2 (owns_keep2 HOU.out hkq (by show ¬ (gs = B + 1 + 1 + 1 ∨ gs = B + 1 + 1 + 1 + 1); omega)) (Keep.drew zk) (by show ¬ (gs = B ∨ gs = B + 1); omega)) (by omega)
              · exact owns_base (B := B + 5) (owns_keep2 (owns_keep2 (owns_keep2 HOWN.out hky (by show ¬ (gp = B + 1 + 1 + 1 + 1); omega)) hkq (by show ¬ (gp = B + 1 + 1 + 1 ∨ gp = B + 1 + 1 + 1 + 1); omega)) (Keep.drew zk) (by show ¬ (gp = B ∨ gp = B + 1); omega)) (by omega)
              · exact owns_base (B := W3.heap.size) (owns_keep3 HQQ.out (Keep.drew zk) (fun g hg => by show ¬ (g = B ∨ g = B + 1); omega)) (by omega)
              · exact owns_base (B := W3.heap.size) (owns_keep3 HPP.out (Keep.drew zk) (fun g hg => by show ¬ (g = B ∨ g = B + 1); omega)) (by omega)
              · rw [hB]
                exact (((hbl.trans (hkp.toBelow (by omega) (fun k hk (h : k = B + 1 + 1 + 1) => by omega))).trans (hky.toBelow (by omega) (fun k hk (h : k = B + 1 + 1 + 1 + 1) => by omega))).trans (hkq.toBelow (by omega) (fun k hk (h : k = B + 1 + 1 + 1 ∨ k = B + 1 + 1 + 1 + 1) => by omega))).trans ((Keep.drew zk).toBelow (by omega) (fun k hk (h : k = B ∨ k = B + 1) => by omega))
end Go.Proofs.YtfefgopomhhpfaaDoor
