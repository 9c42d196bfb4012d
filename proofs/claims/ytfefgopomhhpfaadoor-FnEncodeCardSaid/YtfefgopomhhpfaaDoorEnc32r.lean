/- The walk of encodeRGBA where not all pixels are opaque: 32 bits a pixel. -/
import Derived.Test.YtfefgopomhhpfaaDoorFill
import Derived.Deep.DeepCutAuto
namespace Go.Proofs.YtfefgopomhhpfaaDoor
open Go.RowKit

theorem conv_0 {a : Int} (h : a = 0) (p : Int) : conv a p = 0 := if_pos h
theorem conv_255 {a : Int} (h : a = 255) (p : Int) : conv a p = p := by rw [conv, if_neg (by omega), if_pos h]
theorem conv_mid {a : Int} (h : a ≠ 0) (h' : a ≠ 255) (p : Int) : conv a p = p * 65535 / a / 256 % 256 := by rw [conv, if_neg h, if_neg h']

set_option maxHeartbeats 3200000 in
set_option maxRecDepth 100000 in
theorem rgba32 (b g0 gp : Nat) (bs : List Int) (n cp W H S T : Nat) (px : Nat → Nat → Int) (w : World) (hB : Buf w b g0 bs) (hl : 0 < bs.length) (hgb : gp ≠ b) (hgg : gp ≠ g0)
    (hWT : 4 * W ≤ T) (hT2 : T ≤ 1000) (hW : 0 < W) (hH : 0 < H) (hH2 : H ≤ 1000) (hn : (H - 1) * S + 4 * W ≤ n) (hn2 : n ≤ 100000000)
    (hpx : ∀ y x, y < H → x < 4 * W → w.cell? ⟨gp, y * S + x, none⟩ = some (.int .u8 (px y x))) (hbd : ∀ y x, 0 ≤ px y x ∧ px y x < 256) (hlim : bs.length + T * H ≤ 100000000) :
    Calls Tryd.prog 19 #[.iface 49 (.pointer (some ⟨b, 0, none⟩)), .slice (some ⟨gp, 0, none⟩) n cp, .int .i64 W, .int .i64 H, .int .i64 S, .int .i64 T, .bool false] w (Encoded b g0 (bs ++ rowsDown (fun y => fullRow (row32r (px y)) (4 * W) T) H) w) := by
  have hmk := run_make_row' (P := Tryd.prog) 22 5 (.int .u8 0) 1 Tryd.underlying22 info5 rfl .i64 .i64 T (by omega) (by omega)
  have hna := nil_write
  have hme := method_write
  go_enter Tryd.func19, Tryd.ntmps19
  go_wp2_with fail
  clear hmk
  go_loopw [23] (fun y wr => ∃ (m g : Nat) (out : List Int) (F : Nat → Int), m ≤ H ∧ y = .int .i64 ((m : Int) - 1) ∧ Laid w wr b g0 (fun y => fullRow (row32r (px y)) (4 * W) T) T (bs ++ rowsDown (fun y => fullRow (row32r (px y)) (4 * W) T) H) m g out ∧ g ≠ w.heap.size ∧ wr.rowIs w.heap.size 5 T (part (row32r (px (m - 1))) F 0) ∧ (∀ i, 4 * W ≤ i → i < T → F i = 0)) (fun y _ => (intOf y + 1).toNat)
  case atStart =>
    have hgl := hB.lt
    exact ⟨H, g0, bs, fun _ => 0, Nat.le_refl _, rfl, Laid.start (hB.keep ((Keep.refl (fun _ => False) w).alloc _) (by simp) (by simp)) hl hlim ((Keep.refl _ w).alloc _), by omega, part_made w T _, fun _ _ _ => rfl⟩
  case round =>
    obtain ⟨m, g, out, F, hm, rfl, hL, hgp, hrow, hF⟩ := hrel
    by_cases hm0 : m = 0
    · subst hm0
      go_wp2_with fail
      go_ret
      exact hL.done
    · obtain ⟨k, rfl⟩ : ∃ k, m = k + 1 := ⟨m - 1, by omega⟩
      have hk1 : (((k + 1 : Nat) : Int) - 1) = k := by omega
      rw [hk1]
      clear hk1
      rw [Nat.add_sub_cancel] at hrow
      obtain ⟨p, hp⟩ : ∃ p : Nat, p = k * S := ⟨_, rfl⟩
      have hps : p ≤ (H - 1) * S := by rw [hp]; exact Nat.mul_le_mul_right S (by omega)
      have hp2 : (k : Int) * (S : Int) = (p : Int) := by rw [hp]; simp
      have hpc : p + 4 * W ≤ n := by omega
      have hgpw : gp < w.heap.size := World.block_lt_of_cell? _ _ (hpx 0 0 hH (by omega))
      have hne : gp ≠ w.heap.size := by omega
      have hne' : w.heap.size ≠ gp := by omega
      have hwb : w.heap.size ≠ b := by have := (hB.lt).1; omega
      have hcell : ∀ x, x < 4 * W → wr.cell? ⟨gp, p + x, none⟩ = some (.int .u8 (px k x)) := fun x hx => by
        rw [hL.keep.cell (p := ⟨gp, p + x, none⟩) hgpw (by unfold May; show ¬ (gp = b ∨ gp = g0 ∨ w.heap.size ≤ gp); omega), hp]
        exact hpx k x (by omega) hx
      have HC := Lib.hid hcell
      have HF := Lib.hid hF
      have hsz := hL.keep.size
      obtain ⟨f, hf⟩ : ∃ f, f = row32r (px k) := ⟨_, rfl⟩
      rw [← hf] at hrow
      have Hf := Lib.hid hf
      have HX := Lib.hid hbd
      clear hp hps hcell hF hf hpx hbd hn
      obtain ⟨wo, rfl⟩ : ∃ wo : World, wo = wr := ⟨_, rfl⟩
      go_wp2_with fail
      go_loopw [26, 27] (fun o q wi => ∃ x on qn : Nat, x ≤ W ∧ o = .int .i64 on ∧ q = .int .i64 qn ∧ on ≤ 4 * x ∧ 4 * x ≤ on ∧ qn ≤ p + 4 * x ∧ p + 4 * x ≤ qn ∧ wi.rowIs w.heap.size 5 T (part f F on) ∧ Keep (· = w.heap.size) wo wi) (fun _ q _ => p + 4 * W - (intOf q).toNat)
      case atStart => exact ⟨0, 0, p, Nat.zero_le _, rfl, rfl, by omega, by omega, by omega, by omega, hrow, Keep.refl _ _⟩
      case round =>
        obtain ⟨x, on, qn, hx, rfl, rfl, ho1, ho2, hq1, hq2, hri, hki⟩ := hrel
        by_cases hxW : x < W
        · have hqp : qn = p + 4 * x := by omega
          obtain ⟨P0, hP0⟩ : ∃ P, P = px k (4 * x) := ⟨_, rfl⟩
          have p0a : 0 ≤ P0 := by rw [hP0]; exact (HX.out _ _).1
          have p0b : P0 < 256 := by rw [hP0]; exact (HX.out _ _).2
          have E0 := Lib.hid hP0
          clear hP0
          obtain ⟨P1, hP1⟩ : ∃ P, P = px k (4 * x + 1) := ⟨_, rfl⟩
          have p1a : 0 ≤ P1 := by rw [hP1]; exact (HX.out _ _).1
          have p1b : P1 < 256 := by rw [hP1]; exact (HX.out _ _).2
          have E1 := Lib.hid hP1
          clear hP1
          obtain ⟨P2, hP2⟩ : ∃ P, P = px k (4 * x + 2) := ⟨_, rfl⟩
          have p2a : 0 ≤ P2 := by rw [hP2]; exact (HX.out _ _).1
          have p2b : P2 < 256 := by rw [hP2]; exact (HX.out _ _).2
          have E2 := Lib.hid hP2
          clear hP2
          obtain ⟨P3, hP3⟩ : ∃ P, P = px k (4 * x + 3) := ⟨_, rfl⟩
          have p3a : 0 ≤ P3 := by rw [hP3]; exact (HX.out _ _).1
          have p3b : P3 < 256 := by rw [hP3]; exact (HX.out _ _).2
          have E3 := Lib.hid hP3
          clear hP3
          have c0 : wr.cell? ⟨gp, qn, none⟩ = some (.int .u8 P0) := by rw [hki.cell (p := ⟨gp, qn, none⟩) (by show gp < wo.heap.size; omega) (by show ¬ gp = w.heap.size; omega), hqp]; rw [HC.out (4 * x) (by omega), E0.out]
          have c1 : wr.cell? ⟨gp, qn + 1, none⟩ = some (.int .u8 P1) := by rw [hki.cell (p := ⟨gp, qn + 1, none⟩) (by show gp < wo.heap.size; omega) (by show ¬ gp = w.heap.size; omega), hqp]; rw [Nat.add_assoc]; rw [HC.out (4 * x + 1) (by omega), E1.out]
          have c2 : wr.cell? ⟨gp, qn + 2, none⟩ = some (.int .u8 P2) := by rw [hki.cell (p := ⟨gp, qn + 2, none⟩) (by show gp < wo.heap.size; omega) (by show ¬ gp = w.heap.size; omega), hqp]; rw [Nat.add_assoc]; rw [HC.out (4 * x + 2) (by omega), E2.out]
          have c3 : wr.cell? ⟨gp, qn + 3, none⟩ = some (.int .u8 P3) := by rw [hki.cell (p := ⟨gp, qn + 3, none⟩) (by show gp < wo.heap.size; omega) (by show ¬ gp = w.heap.size; omega), hqp]; rw [Nat.add_assoc]; rw [HC.out (4 * x + 3) (by omega), E3.out]
          have s0 : wr.cell? ⟨w.heap.size, on, none⟩ = some (part f F on (on)) := hri.cell (by omega)
          have z0 : wr.frozen? ⟨w.heap.size, on, none⟩ = false := hri.frozen _
          obtain ⟨V0, hV0⟩ : ∃ v, v = part f F on (on) := ⟨_, rfl⟩
          rw [← hV0] at s0
          clear hV0
          have s1 : wr.cell? ⟨w.heap.size, on + 1, none⟩ = some (part f F on (on + 1)) := hri.cell (by omega)
          have z1 : wr.frozen? ⟨w.heap.size, on + 1, none⟩ = false := hri.frozen _
          obtain ⟨V1, hV1⟩ : ∃ v, v = part f F on (on + 1) := ⟨_, rfl⟩
          rw [← hV1] at s1
          clear hV1
          have s2 : wr.cell? ⟨w.heap.size, on + 2, none⟩ = some (part f F on (on + 2)) := hri.cell (by omega)
          have z2 : wr.frozen? ⟨w.heap.size, on + 2, none⟩ = false := hri.frozen _
          obtain ⟨V2, hV2⟩ : ∃ v, v = part f F on (on + 2) := ⟨_, rfl⟩
          rw [← hV2] at s2
          clear hV2
          have s3 : wr.cell? ⟨w.heap.size, on + 3, none⟩ = some (part f F on (on + 3)) := hri.cell (by omega)
          have z3 : wr.frozen? ⟨w.heap.size, on + 3, none⟩ = false := hri.frozen _
          obtain ⟨V3, hV3⟩ : ∃ v, v = part f F on (on + 3) := ⟨_, rfl⟩
          rw [← hV3] at s3
          clear hV3
          have t1 : on + 4 ≤ T := by omega
          have t2 : qn + 4 ≤ n := by omega
          have t3 : qn < p + 4 * W := by omega
          clear hqp
          by_cases hA0 : P3 = 0
          · have b0 : (P3 == 0) = true := beq_iff_eq.2 hA0
            go_wp2
            go_roundw
            case measure => simp [intOf]; omega
            case rel =>
              go_light
              have hoe : on = 4 * x := by omega
              exact ⟨x + 1, on + 4, qn + 4, by omega, by go_num, by go_num, by omega, by omega, by omega, by omega,
                fill4 hri (by rw [Hf.out, hoe, ← row32r_0, ← E3.out, ← E2.out]; exact (conv_0 hA0 _).symm) (by rw [Hf.out, hoe, ← row32r_1, ← E3.out, ← E1.out]; exact (conv_0 hA0 _).symm) (by rw [Hf.out, hoe, ← row32r_2, ← E3.out, ← E0.out]; exact (conv_0 hA0 _).symm) (by rw [Hf.out, hoe, ← row32r_3, ← E3.out]; exact hA0.symm),
                (((hki.setCell (p := ⟨w.heap.size, _, none⟩) (.inl rfl) _).setCell (p := ⟨w.heap.size, _, none⟩) (.inl rfl) _).setCell (p := ⟨w.heap.size, _, none⟩) (.inl rfl) _).setCell (p := ⟨w.heap.size, _, none⟩) (.inl rfl) _⟩
          by_cases hA1 : P3 = 255
          · have b0 : (P3 == 0) = false := beq_eq_false_iff_ne.2 hA0
            have b1 : (P3 == 255) = true := beq_iff_eq.2 hA1
            go_wp2
            go_roundw
            case measure => simp [intOf]; omega
            case rel =>
              go_light
              have hoe : on = 4 * x := by omega
              exact ⟨x + 1, on + 4, qn + 4, by omega, by go_num, by go_num, by omega, by omega, by omega, by omega,
                fill4 hri (by rw [Hf.out, hoe, ← row32r_0, ← E3.out, ← E2.out]; exact (conv_255 hA1 _).symm) (by rw [Hf.out, hoe, ← row32r_1, ← E3.out, ← E1.out]; exact (conv_255 hA1 _).symm) (by rw [Hf.out, hoe, ← row32r_2, ← E3.out, ← E0.out]; exact (conv_255 hA1 _).symm) (by rw [Hf.out, hoe, ← row32r_3, ← E3.out]; exact hA1.symm),
                (((hki.setCell (p := ⟨w.heap.size, _, none⟩) (.inl rfl) _).setCell (p := ⟨w.heap.size, _, none⟩) (.inl rfl) _).setCell (p := ⟨w.heap.size, _, none⟩) (.inl rfl) _).setCell (p := ⟨w.heap.size, _, none⟩) (.inl rfl) _⟩
          · have b0 : (P3 == 0) = false := beq_eq_false_iff_ne.2 hA0
            have b1 : (P3 == 255) = false := beq_eq_false_iff_ne.2 hA1
            have a1 : 1 ≤ P3 := by omega
            have d0a : 0 ≤ P0 * 65535 / P3 := Int.ediv_nonneg (by omega) (by omega)
            have d0b : P0 * 65535 / P3 ≤ P0 * 65535 := Int.ediv_le_self _ (by omega)
            have d1a : 0 ≤ P1 * 65535 / P3 := Int.ediv_nonneg (by omega) (by omega)
            have d1b : P1 * 65535 / P3 ≤ P1 * 65535 := Int.ediv_le_self _ (by omega)
            have d2a : 0 ≤ P2 * 65535 / P3 := Int.ediv_nonneg (by omega) (by omega)
            have d2b : P2 * 65535 / P3 ≤ P2 * 65535 := Int.ediv_le_self _ (by omega)
            go_wp2
            go_roundw
            case measure => simp [intOf]; omega
            case rel =>
              go_light
              have hoe : on = 4 * x := by omega
              exact ⟨x + 1, on + 4, qn + 4, by omega, by go_num, by go_num, by omega, by omega, by omega, by omega,
                fill4 hri (by rw [Hf.out, hoe, ← row32r_0, ← E3.out, ← E2.out]; exact (conv_mid hA0 hA1 _).symm) (by rw [Hf.out, hoe, ← row32r_1, ← E3.out, ← E1.out]; exact (conv_mid hA0 hA1 _).symm) (by rw [Hf.out, hoe, ← row32r_2, ← E3.out, ← E0.out]; exact (conv_mid hA0 hA1 _).symm) (by rw [Hf.out, hoe, ← row32r_3, ← E3.out]),
                (((hki.setCell (p := ⟨w.heap.size, _, none⟩) (.inl rfl) _).setCell (p := ⟨w.heap.size, _, none⟩) (.inl rfl) _).setCell (p := ⟨w.heap.size, _, none⟩) (.inl rfl) _).setCell (p := ⟨w.heap.size, _, none⟩) (.inl rfl) _⟩
        · have hxe : x = W := by omega
          have hoe : on = 4 * W := by omega
          rw [hoe] at hri
          clear hoe
          have hrd := part_reads hri HF.out
          have hbufi : Buf wr b g out := hL.buf.keep hki (by show ¬ b = w.heap.size; omega) (by show ¬ g = w.heap.size; omega)
          have hlen := fullRow_length f (4 * W) T
          have HLEN := Lib.hid hlen
          clear hlen hxe
          go_wp2_with fail
          refine (write_buf b g out (fullRow f (4 * W) T) ⟨w.heap.size, 0, none⟩ T _ _ hbufi hL.pos HLEN.out (by omega) hwb (by show w.heap.size ≠ g; omega) hrd (by have : T * (k + 1) = T * k + T := Nat.mul_succ T k; have := hL.lim; omega)).mono ?_
          rintro e w1 ⟨rfl, g1, hBuf1, hg1, hK1⟩
          go_wp2
          go_roundw
          case measure => simp [intOf]
          case rel =>
            go_light
            have hsi : wo.heap.size ≤ wr.heap.size := hki.size
            have hlt := hri.lt
            refine ⟨k, g1, _, _, by omega, rfl, hL.step (g' := g1) (by rw [Hf.out] at hBuf1; exact hBuf1) (fullRow_length _ _ _) (by omega) ?_, by omega, part_next (hri.of_block (hK1.block _ hri.lt (by show ¬ (w.heap.size = b ∨ w.heap.size = g); omega))) HF.out, fun i h1 _ => if_neg (by omega)⟩
            exact (hki.weaken fun q _ hs => by unfold May; omega).trans (hK1.weaken fun q _ hs => by unfold May; omega)
#print axioms rgba32
end Go.Proofs.YtfefgopomhhpfaaDoor
