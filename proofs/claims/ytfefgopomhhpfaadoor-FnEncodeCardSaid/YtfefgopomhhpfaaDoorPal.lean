/- The walk of encodePaletted: the rows from below, each filled with noughts to step bytes. -/
import Derived.Test.YtfefgopomhhpfaaDoorIface
import Derived.Deep.DeepCutAuto
import Derived.Deep.RegionHeld3
namespace Go.Proofs.YtfefgopomhhpfaaDoor
open Go.RowKit

set_option maxHeartbeats 1600000 in
set_option maxRecDepth 100000 in
theorem pal_pad (b g0 gp : Nat) (bs : List Int) (n cp W H S T : Nat) (px : Nat → Nat → Int) (w : World) (hB : Buf w b g0 bs) (hl : 0 < bs.length) (hgb : gp ≠ b) (hgg : gp ≠ g0)
    (hT : W < T) (hT2 : T ≤ 1000) (hW : 0 < W) (hH : 0 < H) (hH2 : H ≤ 1000) (hcp : (H - 1) * S + W ≤ cp) (hcp2 : cp ≤ 9223372036854775807)
    (hpx : ∀ y x, y < H → x < W → w.cell? ⟨gp, y * S + x, none⟩ = some (.int .u8 (px y x))) (hlim : bs.length + T * H ≤ 100000000) :
    Calls Tryd.prog 18 #[.iface 49 (.pointer (some ⟨b, 0, none⟩)), .slice (some ⟨gp, 0, none⟩) n cp, .int .i64 W, .int .i64 H, .int .i64 S, .int .i64 T] w (Encoded b g0 (bs ++ rowsDown (padRow px W T) H) w) := by
  have hmk := run_make_row' (P := Tryd.prog) 22 5 (.int .u8 0) 1 Tryd.underlying22 info5 rfl .i64 .i64 (T - W) (by omega) (by omega)
  have hTW : ((T - W : Nat) : Int) = (T : Int) - W := by omega
  rw [hTW] at hmk
  have HTW := Lib.hid hTW
  clear hTW
  have hns := fun (W' : World) (a : Option Addr) (n c : Nat) => run_neq_slice_nil_any (P := Tryd.prog) W' 22 5 a n c 0 0 Tryd.underlying22
  have hna := nil_write
  have hme := method_write
  go_enter Tryd.func18, Tryd.ntmps18
  go_wp2_with fail
  go_loopw [14] (fun y wr => ∃ (m g : Nat) (out : List Int), m ≤ H ∧ y = .int .i64 ((m : Int) - 1) ∧ Laid w wr b g0 (padRow px W T) T (bs ++ rowsDown (padRow px W T) H) m g out ∧ g ≠ w.heap.size ∧ wr.rowIs w.heap.size 5 (T - W) (fun _ => .int .u8 0)) (fun y _ => (intOf y + 1).toNat)
  case atStart =>
    have hgl := hB.lt
    exact ⟨H, g0, bs, Nat.le_refl _, rfl, Laid.start (hB.keep ((Keep.refl (fun _ => False) w).alloc _) (by simp) (by simp)) hl hlim ((Keep.refl _ w).alloc _), by omega, World.rowIs_made w _ _ _⟩
  case round =>
    obtain ⟨m, g, out, hm, rfl, hL, hgp, hpad⟩ := hrel
    by_cases hm0 : m = 0
    · subst hm0
      go_wp2_with fail
      go_ret
      exact hL.done
    · obtain ⟨k, rfl⟩ : ∃ k, m = k + 1 := ⟨m - 1, by omega⟩
      have hk1 : (((k + 1 : Nat) : Int) - 1) = k := by omega
      rw [hk1]
      clear hk1
      obtain ⟨p, hp⟩ : ∃ p : Nat, p = k * S := ⟨_, rfl⟩
      have hps : p ≤ (H - 1) * S := by rw [hp]; exact Nat.mul_le_mul_right S (by omega)
      have hp2 : (k : Int) * (S : Int) = (p : Int) := by rw [hp]; simp
      have HP := Lib.hid hp
      have hpc : p + W ≤ cp := by omega
      have hgpw : gp < w.heap.size := by
        have := World.block_lt_of_cell? _ _ (hpx 0 0 hH hW)
        exact this
      have hgg' : gp ≠ g := by have := hL.own; omega
      have hsrc : Reads wr ⟨gp, p, none⟩ (rowOf (px k) W) := by
        refine rowOf_reads fun x hx => ?_
        rw [hL.keep.cell (p := ⟨gp, p + x, none⟩) hgpw (by unfold May; show ¬ (gp = b ∨ gp = g0 ∨ w.heap.size ≤ gp); omega), hp]
        exact hpx k x (by omega) hx
      have hout' : out.length + W ≤ 140737488355328 := by
        have : T * (k + 1) = T * k + T := Nat.mul_succ T k
        have := hL.lim
        omega
      have q1 : (0 : Int) ≤ (p : Int) := by omega
      have q2 : (p : Int) + (W : Int) ≤ (cp : Int) := by omega
      have q3 : (p : Int) ≤ (p : Int) + (W : Int) := by omega
      have q4 : ¬ cp = p := by omega
      have q5 : ((p : Int) + (W : Int)).toNat - p = W := by omega
      clear hp hps hcp hpx
      go_wp2_with fail
      go_region_held3 (fun _ => True) (trivial)
        (first
          | (go_at_call 48
             refine (write_buf b g out (rowOf (px k) W) ⟨gp, p, none⟩ W _ _ ?_ hL.pos (rowOf_length _ _) hW hgb ?_ ?_ (by omega)).mono ?_
             exact hL.buf.drew
             exact hgg'
             exact hsrc
             rintro e w1 ⟨rfl, g1, hBuf1, hg1, hK1⟩))
      clear q4 q5 hsrc hgg' q1 q2 q3
      go_wp2_with fail
      have hne1 : w.heap.size ≠ b := by have := (hB.lt).1; omega
      have hne2 : w.heap.size ≠ g1 := by
        have h1 := hpad.lt
        have h2 : g1 = g ∨ wr.heap.size ≤ g1 := hg1
        omega
      have hpad1 : w1.rowIs w.heap.size 5 (T - W) (fun _ => .int .u8 0) := hpad.of_block (hK1.block _ hpad.lt (by rintro (h | h) <;> omega))
      refine (write_buf b g1 (out ++ rowOf (px k) W) (List.replicate (T - W) 0) ⟨w.heap.size, 0, none⟩ (T - W) _ _ hBuf1 (by have := hL.pos; rw [List.length_append]; omega) (by simp) (by omega) hne1 hne2 (zeros_reads hpad1) (by rw [List.length_append, rowOf_length]; have : T * (k + 1) = T * k + T := Nat.mul_succ T k; have := hL.lim; omega)).mono ?_
      rintro e w2 ⟨rfl, g2, hBuf2, hg2, hK2⟩
      go_wp2
      go_roundw
      case measure => simp [intOf]
      case rel =>
        go_light
        have e1 : g1 = g ∨ wr.heap.size ≤ g1 := hg1
        have hsz := hL.keep.size
        have hsz1 : wr.heap.size ≤ w1.heap.size := hK1.size
        have hlt := hpad.lt
        have hw : w.heap.size ≠ b := hne1
        refine ⟨k, g2, _, by omega, rfl, hL.step (by rw [padRow, ← List.append_assoc]; exact hBuf2) (padRow_length px W T k (by omega)) (by omega) ?_, by omega, hpad1.of_block (hK2.block _ hpad1.lt (by rintro (h | h) <;> omega))⟩
        have k1 : Keep (May w b g) wr w1 := (Keep.drew (Keep.refl _ wr)).trans hK1.may
        exact k1.trans (hK2.weaken fun q _ hs => by unfold May; omega)

set_option maxHeartbeats 1600000 in
set_option maxRecDepth 100000 in
theorem pal_full (b g0 gp : Nat) (bs : List Int) (n cp W H S : Nat) (px : Nat → Nat → Int) (w : World) (hB : Buf w b g0 bs) (hl : 0 < bs.length) (hgb : gp ≠ b) (hgg : gp ≠ g0)
    (hW2 : W ≤ 1000) (hW : 0 < W) (hH : 0 < H) (hH2 : H ≤ 1000) (hcp : (H - 1) * S + W ≤ cp) (hcp2 : cp ≤ 9223372036854775807)
    (hpx : ∀ y x, y < H → x < W → w.cell? ⟨gp, y * S + x, none⟩ = some (.int .u8 (px y x))) (hlim : bs.length + W * H ≤ 100000000) :
    Calls Tryd.prog 18 #[.iface 49 (.pointer (some ⟨b, 0, none⟩)), .slice (some ⟨gp, 0, none⟩) n cp, .int .i64 W, .int .i64 H, .int .i64 S, .int .i64 W] w (Encoded b g0 (bs ++ rowsDown ((fun y => rowOf (px y) W)) H) w) := by
  have hns := fun (W' : World) (a : Option Addr) (n c : Nat) => run_neq_slice_nil_any (P := Tryd.prog) W' 22 5 a n c 0 0 Tryd.underlying22
  have hna := nil_write
  have hme := method_write
  go_enter Tryd.func18, Tryd.ntmps18
  go_wp2_with fail
  go_loopw [14] (fun y wr => ∃ (m g : Nat) (out : List Int), m ≤ H ∧ y = .int .i64 ((m : Int) - 1) ∧ Laid w wr b g0 (fun y => rowOf (px y) W) W (bs ++ rowsDown ((fun y => rowOf (px y) W)) H) m g out) (fun y _ => (intOf y + 1).toNat)
  case atStart =>
    exact ⟨H, g0, bs, Nat.le_refl _, rfl, Laid.start hB hl hlim (Keep.refl _ w)⟩
  case round =>
    obtain ⟨m, g, out, hm, rfl, hL⟩ := hrel
    by_cases hm0 : m = 0
    · subst hm0
      go_wp2_with fail
      go_ret
      exact hL.done
    · obtain ⟨k, rfl⟩ : ∃ k, m = k + 1 := ⟨m - 1, by omega⟩
      have hk1 : (((k + 1 : Nat) : Int) - 1) = k := by omega
      rw [hk1]
      clear hk1
      obtain ⟨p, hp⟩ : ∃ p : Nat, p = k * S := ⟨_, rfl⟩
      have hps : p ≤ (H - 1) * S := by rw [hp]; exact Nat.mul_le_mul_right S (by omega)
      have hp2 : (k : Int) * (S : Int) = (p : Int) := by rw [hp]; simp
      have HP := Lib.hid hp
      have hpc : p + W ≤ cp := by omega
      have hgpw : gp < w.heap.size := by
        have := World.block_lt_of_cell? _ _ (hpx 0 0 hH hW)
        exact this
      have hgg' : gp ≠ g := by have := hL.own; omega
      have hsrc : Reads wr ⟨gp, p, none⟩ (rowOf (px k) W) := by
        refine rowOf_reads fun x hx => ?_
        rw [hL.keep.cell (p := ⟨gp, p + x, none⟩) hgpw (by unfold May; show ¬ (gp = b ∨ gp = g0 ∨ w.heap.size ≤ gp); omega), hp]
        exact hpx k x (by omega) hx
      have hout' : out.length + W ≤ 140737488355328 := by
        have : W * (k + 1) = W * k + W := Nat.mul_succ W k
        have := hL.lim
        omega
      have q1 : (0 : Int) ≤ (p : Int) := by omega
      have q2 : (p : Int) + (W : Int) ≤ (cp : Int) := by omega
      have q3 : (p : Int) ≤ (p : Int) + (W : Int) := by omega
      have q4 : ¬ cp = p := by omega
      have q5 : ((p : Int) + (W : Int)).toNat - p = W := by omega
      clear hp hps hcp hpx
      go_wp2_with fail
      go_region_held3 (fun _ => True) (trivial)
        (first
          | (go_at_call 48
             refine (write_buf b g out (rowOf (px k) W) ⟨gp, p, none⟩ W _ _ ?_ hL.pos (rowOf_length _ _) hW hgb ?_ ?_ (by omega)).mono ?_
             exact hL.buf.drew
             exact hgg'
             exact hsrc
             rintro e w1 ⟨rfl, g1, hBuf1, hg1, hK1⟩))
      clear q4 q5 hsrc hgg' q1 q2 q3
      go_wp2
      go_roundw
      case measure => simp [intOf]
      case rel =>
        go_light
        have e1 : g1 = g ∨ wr.heap.size ≤ g1 := hg1
        have hsz := hL.keep.size
        have k1 : Keep (May w b g) wr w1 := (Keep.drew (Keep.refl _ wr)).trans (hK1.weaken fun q _ hs => by unfold May; omega)
        exact ⟨k, g1, _, by omega, rfl, hL.step hBuf1 (rowOf_length _ _) (by omega) k1⟩

#print axioms pal_pad
#print axioms pal_full
end Go.Proofs.YtfefgopomhhpfaaDoor
