/- The walks of (*image.RGBA).Opaque and (*image.NRGBA).Opaque at a picture that begins at 0. -/
import Derived.Test.YtfefgopomhhpfaaDoorSmall
namespace Go.Proofs.YtfefgopomhhpfaaDoor
open Go.RowKit

/-- All of the first m rows are opaque. -/
def opqTo (px : Nat → Nat → Int) (W m : Nat) : Prop := ∀ y x, y < m → x < W → px y (4 * x + 3) = 255
/-- Whether the picture is opaque. -/
def opq (px : Nat → Nat → Int) (W H : Nat) : Bool := (List.range H).all fun y => (List.range W).all fun x => px y (4 * x + 3) == 255
theorem opq_yes {px : Nat → Nat → Int} {W H : Nat} (h : opqTo px W H) : opq px W H = true :=
  List.all_eq_true.2 fun y hy => List.all_eq_true.2 fun x hx => beq_iff_eq.2 (h y x (List.mem_range.1 hy) (List.mem_range.1 hx))
theorem opq_no {px : Nat → Nat → Int} {W H y x : Nat} (hy : y < H) (hx : x < W) (h : px y (4 * x + 3) ≠ 255) : opq px W H = false := by
  rw [Bool.eq_false_iff]
  intro h'
  exact h (beq_iff_eq.1 (List.all_eq_true.1 (List.all_eq_true.1 h' y (List.mem_range.2 hy)) x (List.mem_range.2 hx)))
theorem opqTo_step {px : Nat → Nat → Int} {W k : Nat} (h : opqTo px W k) (h' : ∀ x, x < W → px k (4 * x + 3) = 255) : opqTo px W (k + 1) := fun y x hy hx => by
  by_cases e : y = k
  · subst e; exact h' x hx
  · exact h y x (by omega) hx

set_option maxHeartbeats 1600000 in
set_option maxRecDepth 100000 in
theorem opaque_rgba (mb gp n cp W H S : Nat) (px : Nat → Nat → Int) (w : World) (hm : w.heap[mb]? = some (.cells #[.slice (some ⟨gp, 0, none⟩) n cp, .int .i64 S, .int .i64 0, .int .i64 0, .int .i64 W, .int .i64 H] 93 (0, 0)))
    (hW : 0 < W) (hW2 : W ≤ 1000) (hH : 0 < H) (hH2 : H ≤ 1000) (hS : S ≤ 10000) (hn : (H - 1) * S + 4 * W ≤ n) (hn2 : n ≤ 100000000)
    (hpx : ∀ y x, y < H → x < 4 * W → w.cell? ⟨gp, y * S + x, none⟩ = some (.int .u8 (px y x))) :
    Calls Tryd.prog 15 #[.pointer (some ⟨mb, 0, none⟩)] w (Ret (.bool (opq px W H)) w) := by
  have hlt := Lib.lt_of_heap hm
  have hgpw : gp < w.heap.size := World.block_lt_of_cell? _ _ (hpx 0 0 hH (by omega))
  have c2 : w.cell? ⟨mb, 2, none⟩ = some (.int .i64 0) := (Lib.cell_of_heap hm 2).trans rfl
  have c3 : w.cell? ⟨mb, 3, none⟩ = some (.int .i64 0) := (Lib.cell_of_heap hm 3).trans rfl
  have c4 : w.cell? ⟨mb, 4, none⟩ = some (.int .i64 W) := (Lib.cell_of_heap hm 4).trans rfl
  have c5 : w.cell? ⟨mb, 5, none⟩ = some (.int .i64 H) := (Lib.cell_of_heap hm 5).trans rfl
  have HM := Lib.hid hm
  have HX := Lib.hid hpx
  clear hm hpx
  go_enter Tryd.func15, Tryd.ntmps15
  go_wp2_with fail
  refine (empty_any W H hW hH _).mono ?_
  rintro e w1 ⟨rfl, hb1⟩
  have HM1 := Lib.hid ((hb1.block mb hlt).trans HM.out)
  have d2 : w1.cell? ⟨mb, 2, none⟩ = some (.int .i64 0) := (Lib.cell_of_heap HM1.out 2).trans rfl
  have d3 : w1.cell? ⟨mb, 3, none⟩ = some (.int .i64 0) := (Lib.cell_of_heap HM1.out 3).trans rfl
  have d4 : w1.cell? ⟨mb, 4, none⟩ = some (.int .i64 W) := (Lib.cell_of_heap HM1.out 4).trans rfl
  have d5 : w1.cell? ⟨mb, 5, none⟩ = some (.int .i64 H) := (Lib.cell_of_heap HM1.out 5).trans rfl
  clear c2 c3 c4 c5
  go_wp2_with fail
  refine (dx_any W H hW2 _).mono ?_
  rintro e w2 ⟨rfl, hb2⟩
  have HM2 := Lib.hid ((hb2.block mb (Nat.lt_of_lt_of_le hlt hb1.size)).trans HM1.out)
  have hb : Below w.heap.size w w2 := hb1.trans (hb2.mono hb1.size)
  have e1 : w2.cell? ⟨mb, 1, none⟩ = some (.int .i64 S) := (Lib.cell_of_heap HM2.out 1).trans rfl
  have e0 : w2.cell? ⟨mb, 0, none⟩ = some (.slice (some ⟨gp, 0, none⟩) n cp) := (Lib.cell_of_heap HM2.out 0).trans rfl
  have e3 : w2.cell? ⟨mb, 3, none⟩ = some (.int .i64 0) := (Lib.cell_of_heap HM2.out 3).trans rfl
  have e5 : w2.cell? ⟨mb, 5, none⟩ = some (.int .i64 H) := (Lib.cell_of_heap HM2.out 5).trans rfl
  have HX2 : Hid (∀ y x, y < H → x < 4 * W → w2.cell? ⟨gp, y * S + x, none⟩ = some (.int .u8 (px y x))) := fun y x hy hx => (hb.cell (p := ⟨gp, y * S + x, none⟩) hgpw).trans (HX.out y x hy hx)
  clear hb1 hb2 HM HM1 HM2 d2 d3 d4 d5 HX
  go_wp2_with fail
  go_loop [3, 4, 5] (fun i0 i1 y => ∃ k p : Nat, k ≤ H ∧ y = .int .i64 k ∧ i0 = .int .i64 ((p : Int) + 3) ∧ i1 = .int .i64 ((p : Int) + 4 * W) ∧ Hid (p = k * S) ∧ p ≤ 10000000 ∧ Hid (opqTo px W k)) (fun _ _ y => H - (intOf y).toNat)
  case atStart => exact ⟨0, 0, Nat.zero_le _, rfl, by simp, by simp; omega, by unfold Hid; simp, by omega, fun y x hy => absurd hy (Nat.not_lt_zero _)⟩
  case round =>
    obtain ⟨k, p, hk, rfl, rfl, rfl, hp, hpb, ho⟩ := hrel
    by_cases hlt2 : k < H
    · have hps : p ≤ (H - 1) * S := by rw [hp.out]; exact Nat.mul_le_mul_right S (by omega)
      have hpn : p + 4 * W ≤ n := by omega
      clear hps hn
      go_wp2_with fail
      go_loop [6] (fun q => ∃ x qn : Nat, x ≤ W ∧ q = .int .i64 qn ∧ qn ≤ p + 4 * x + 3 ∧ p + 4 * x + 3 ≤ qn ∧ Hid (∀ x', x' < x → px k (4 * x' + 3) = 255)) (fun q => p + 4 * W + 3 - (intOf q).toNat)
      case atStart => exact ⟨0, p + 3, Nat.zero_le _, by simp, by omega, by omega, fun x' h => absurd h (Nat.not_lt_zero _)⟩
      case round =>
        obtain ⟨x, qn, hx, rfl, hq1, hq2, hox⟩ := hrel
        by_cases hxW : x < W
        · have hqe : qn = p + (4 * x + 3) := by omega
          obtain ⟨P, hP⟩ : ∃ P, P = px k (4 * x + 3) := ⟨_, rfl⟩
          have c0 : w2.cell? ⟨gp, qn, none⟩ = some (.int .u8 P) := by rw [hqe, hp.out, HX2.out k _ hlt2 (by omega), hP]
          have t1 : qn < n := by omega
          have t2 : (qn : Int) < (p : Int) + 4 * W := by omega
          have HP := Lib.hid hP
          clear hP hqe
          by_cases hA : P = 255
          · have b0 : (P != 255) = false := by simp [hA]
            have HA := Lib.hid hA
            clear hA
            go_wp2
            go_round
            case measure => simp [intOf]; omega
            case rel =>
              go_light
              refine ⟨x + 1, qn + 4, by omega, by go_num, by omega, by omega, fun x' h => ?_⟩
              by_cases e : x' = x
              · subst e; rw [← HP.out]; exact HA.out
              · exact hox.out x' (by omega)
          · have b0 : (P != 255) = true := by simp [hA]
            go_wp2
            go_ret
            exact ⟨by rw [opq_no hlt2 hxW (by rw [← HP.out]; exact hA)]; rfl, hb⟩
        · have hxe : x = W := by omega
          have t2 : ¬ (qn : Int) < (p : Int) + 4 * W := by omega
          subst hxe
          go_wp2
          go_round
          case measure => simp [intOf]; omega
          case rel =>
            go_light
            refine ⟨k + 1, p + S, by omega, by go_num, by simp; omega, by simp; omega, ?_, ?_, opqTo_step ho.out hox.out⟩
            · unfold Hid; rw [hp.out, Nat.succ_mul]
            · have h1 : p + S = (k + 1) * S := by rw [hp.out, Nat.succ_mul]
              rw [h1]
              exact Nat.le_trans (Nat.mul_le_mul (show k + 1 ≤ 1000 by omega) hS) (by omega)
    · have hke : k = H := by omega
      subst hke
      go_wp2
      go_ret
      exact ⟨by rw [opq_yes ho.out]; rfl, hb⟩

#print axioms opaque_rgba
set_option maxHeartbeats 1600000 in
set_option maxRecDepth 100000 in
theorem opaque_nrgba (mb gp n cp W H S : Nat) (px : Nat → Nat → Int) (w : World) (hm : w.heap[mb]? = some (.cells #[.slice (some ⟨gp, 0, none⟩) n cp, .int .i64 S, .int .i64 0, .int .i64 0, .int .i64 W, .int .i64 H] 94 (0, 0)))
    (hW : 0 < W) (hW2 : W ≤ 1000) (hH : 0 < H) (hH2 : H ≤ 1000) (hS : S ≤ 10000) (hn : (H - 1) * S + 4 * W ≤ n) (hn2 : n ≤ 100000000)
    (hpx : ∀ y x, y < H → x < 4 * W → w.cell? ⟨gp, y * S + x, none⟩ = some (.int .u8 (px y x))) :
    Calls Tryd.prog 16 #[.pointer (some ⟨mb, 0, none⟩)] w (Ret (.bool (opq px W H)) w) := by
  have hlt := Lib.lt_of_heap hm
  have hgpw : gp < w.heap.size := World.block_lt_of_cell? _ _ (hpx 0 0 hH (by omega))
  have c2 : w.cell? ⟨mb, 2, none⟩ = some (.int .i64 0) := (Lib.cell_of_heap hm 2).trans rfl
  have c3 : w.cell? ⟨mb, 3, none⟩ = some (.int .i64 0) := (Lib.cell_of_heap hm 3).trans rfl
  have c4 : w.cell? ⟨mb, 4, none⟩ = some (.int .i64 W) := (Lib.cell_of_heap hm 4).trans rfl
  have c5 : w.cell? ⟨mb, 5, none⟩ = some (.int .i64 H) := (Lib.cell_of_heap hm 5).trans rfl
  have HM := Lib.hid hm
  have HX := Lib.hid hpx
  clear hm hpx
  go_enter Tryd.func16, Tryd.ntmps16
  go_wp2_with fail
  refine (empty_any W H hW hH _).mono ?_
  rintro e w1 ⟨rfl, hb1⟩
  have HM1 := Lib.hid ((hb1.block mb hlt).trans HM.out)
  have d2 : w1.cell? ⟨mb, 2, none⟩ = some (.int .i64 0) := (Lib.cell_of_heap HM1.out 2).trans rfl
  have d3 : w1.cell? ⟨mb, 3, none⟩ = some (.int .i64 0) := (Lib.cell_of_heap HM1.out 3).trans rfl
  have d4 : w1.cell? ⟨mb, 4, none⟩ = some (.int .i64 W) := (Lib.cell_of_heap HM1.out 4).trans rfl
  have d5 : w1.cell? ⟨mb, 5, none⟩ = some (.int .i64 H) := (Lib.cell_of_heap HM1.out 5).trans rfl
  clear c2 c3 c4 c5
  go_wp2_with fail
  refine (dx_any W H hW2 _).mono ?_
  rintro e w2 ⟨rfl, hb2⟩
  have HM2 := Lib.hid ((hb2.block mb (Nat.lt_of_lt_of_le hlt hb1.size)).trans HM1.out)
  have hb : Below w.heap.size w w2 := hb1.trans (hb2.mono hb1.size)
  have e1 : w2.cell? ⟨mb, 1, none⟩ = some (.int .i64 S) := (Lib.cell_of_heap HM2.out 1).trans rfl
  have e0 : w2.cell? ⟨mb, 0, none⟩ = some (.slice (some ⟨gp, 0, none⟩) n cp) := (Lib.cell_of_heap HM2.out 0).trans rfl
  have e3 : w2.cell? ⟨mb, 3, none⟩ = some (.int .i64 0) := (Lib.cell_of_heap HM2.out 3).trans rfl
  have e5 : w2.cell? ⟨mb, 5, none⟩ = some (.int .i64 H) := (Lib.cell_of_heap HM2.out 5).trans rfl
  have HX2 : Hid (∀ y x, y < H → x < 4 * W → w2.cell? ⟨gp, y * S + x, none⟩ = some (.int .u8 (px y x))) := fun y x hy hx => (hb.cell (p := ⟨gp, y * S + x, none⟩) hgpw).trans (HX.out y x hy hx)
  clear hb1 hb2 HM HM1 HM2 d2 d3 d4 d5 HX
  go_wp2_with fail
  go_loop [3, 4, 5] (fun i0 i1 y => ∃ k p : Nat, k ≤ H ∧ y = .int .i64 k ∧ i0 = .int .i64 ((p : Int) + 3) ∧ i1 = .int .i64 ((p : Int) + 4 * W) ∧ Hid (p = k * S) ∧ p ≤ 10000000 ∧ Hid (opqTo px W k)) (fun _ _ y => H - (intOf y).toNat)
  case atStart => exact ⟨0, 0, Nat.zero_le _, rfl, by simp, by simp; omega, by unfold Hid; simp, by omega, fun y x hy => absurd hy (Nat.not_lt_zero _)⟩
  case round =>
    obtain ⟨k, p, hk, rfl, rfl, rfl, hp, hpb, ho⟩ := hrel
    by_cases hlt2 : k < H
    · have hps : p ≤ (H - 1) * S := by rw [hp.out]; exact Nat.mul_le_mul_right S (by omega)
      have hpn : p + 4 * W ≤ n := by omega
      clear hps hn
      go_wp2_with fail
      go_loop [6] (fun q => ∃ x qn : Nat, x ≤ W ∧ q = .int .i64 qn ∧ qn ≤ p + 4 * x + 3 ∧ p + 4 * x + 3 ≤ qn ∧ Hid (∀ x', x' < x → px k (4 * x' + 3) = 255)) (fun q => p + 4 * W + 3 - (intOf q).toNat)
      case atStart => exact ⟨0, p + 3, Nat.zero_le _, by simp, by omega, by omega, fun x' h => absurd h (Nat.not_lt_zero _)⟩
      case round =>
        obtain ⟨x, qn, hx, rfl, hq1, hq2, hox⟩ := hrel
        by_cases hxW : x < W
        · have hqe : qn = p + (4 * x + 3) := by omega
          obtain ⟨P, hP⟩ : ∃ P, P = px k (4 * x + 3) := ⟨_, rfl⟩
          have c0 : w2.cell? ⟨gp, qn, none⟩ = some (.int .u8 P) := by rw [hqe, hp.out, HX2.out k _ hlt2 (by omega), hP]
          have t1 : qn < n := by omega
          have t2 : (qn : Int) < (p : Int) + 4 * W := by omega
          have HP := Lib.hid hP
          clear hP hqe
          by_cases hA : P = 255
          · have b0 : (P != 255) = false := by simp [hA]
            have HA := Lib.hid hA
            clear hA
            go_wp2
            go_round
            case measure => simp [intOf]; omega
            case rel =>
              go_light
              refine ⟨x + 1, qn + 4, by omega, by go_num, by omega, by omega, fun x' h => ?_⟩
              by_cases e : x' = x
              · subst e; rw [← HP.out]; exact HA.out
              · exact hox.out x' (by omega)
          · have b0 : (P != 255) = true := by simp [hA]
            go_wp2
            go_ret
            exact ⟨by rw [opq_no hlt2 hxW (by rw [← HP.out]; exact hA)]; rfl, hb⟩
        · have hxe : x = W := by omega
          have t2 : ¬ (qn : Int) < (p : Int) + 4 * W := by omega
          subst hxe
          go_wp2
          go_round
          case measure => simp [intOf]; omega
          case rel =>
            go_light
            refine ⟨k + 1, p + S, by omega, by go_num, by simp; omega, by simp; omega, ?_, ?_, opqTo_step ho.out hox.out⟩
            · unfold Hid; rw [hp.out, Nat.succ_mul]
            · have h1 : p + S = (k + 1) * S := by rw [hp.out, Nat.succ_mul]
              rw [h1]
              exact Nat.le_trans (Nat.mul_le_mul (show k + 1 ≤ 1000 by omega) hS) (by omega)
    · have hke : k = H := by omega
      subst hke
      go_wp2
      go_ret
      exact ⟨by rw [opq_yes ho.out]; rfl, hb⟩

#print axioms opaque_nrgba
end Go.Proofs.YtfefgopomhhpfaaDoor
