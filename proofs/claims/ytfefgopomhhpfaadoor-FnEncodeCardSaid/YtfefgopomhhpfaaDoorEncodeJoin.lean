/- laws.FnEncode: impl.Encode and spec.Encoded at the pictures that pictureOf gives: one list of bytes, kind by kind. -/
import Derived.Test.YtfefgopomhhpfaaDoorEncodeMain
import Derived.Test.YtfefgopomhhpfaaDoorPicOut7
import Derived.Test.YtfefgopomhhpfaaDoorFits
import Derived.Test.YtfefgopomhhpfaaDoorImagePal
import Derived.Test.YtfefgopomhhpfaaDoorEncGray
import Derived.Test.YtfefgopomhhpfaaDoorEncPal
import Derived.Test.YtfefgopomhhpfaaDoorEncRgba24
import Derived.Test.YtfefgopomhhpfaaDoorEncRgba32
import Derived.Test.YtfefgopomhhpfaaDoorEncNrgba24
import Derived.Test.YtfefgopomhhpfaaDoorEncNrgba32
import Derived.Test.YtfefgopomhhpfaaDoorSpecGray
import Derived.Test.YtfefgopomhhpfaaDoorSpecPal
import Derived.Test.YtfefgopomhhpfaaDoorSpecRgba24
import Derived.Test.YtfefgopomhhpfaaDoorSpecRgba32
import Derived.Test.YtfefgopomhhpfaaDoorSpecNrgba24
import Derived.Test.YtfefgopomhhpfaaDoorSpecNrgba32
namespace Go.Proofs.YtfefgopomhhpfaaDoor
open Go.RowKit

theorem pixv_bd (D : List Int) (hi : Bool) (i : Nat) : 0 ≤ pixv D hi i ∧ pixv D hi i < 256 := by
  unfold pixv
  split
  · omega
  · split <;> omega
/-- The byte at place x of row y. -/
def pxOf (D : List Int) (hi : Bool) (L : Nat) (y x : Nat) : Int := pixv D hi (y * L + x)
theorem pxOf_bd (D : List Int) (hi : Bool) (L : Nat) : ∀ y x, 0 ≤ pxOf D hi L y x ∧ pxOf D hi L y x < 256 := fun _ _ => pixv_bd _ _ _

theorem rowOf_get (f : Nat → Int) (n i : Nat) (h : i < n) : (rowOf f n)[i]? = some (f i) := by
  rw [rowOf, List.getElem?_map, List.getElem?_range h]
  rfl
theorem rowsUp_get {f : Nat → List Int} {S : Nat} (hf : ∀ y, (f y).length = S) : ∀ (n y x : Nat), y < n → x < S → (rowsUp f n)[y * S + x]? = (f y)[x]?
  | 0, _, _, h, _ => absurd h (Nat.not_lt_zero _)
  | n + 1, y, x, h, hx => by
    rw [rowsUp]
    by_cases hy : y = n
    · subst hy
      rw [List.getElem?_append_right (by rw [rowsUp_length hf, Nat.mul_comm]; omega), rowsUp_length hf, Nat.mul_comm S y, Nat.add_sub_cancel_left]
    · have h1 : y < n := by omega
      have h2 : y * S + x < S * n := by
        have := Nat.mul_le_mul_right S (show y + 1 ≤ n from h1)
        rw [Nat.add_mul, Nat.one_mul, Nat.mul_comm n S] at this
        omega
      rw [List.getElem?_append_left (by rw [rowsUp_length hf]; exact h2), rowsUp_get hf n y x h1 hx]
theorem up_get {px : Nat → Int} {L S H y x : Nat} (hL : L ≤ S) (hy : y < H) (hx : x < L) : (rowsUp (lineOf px L S) H)[y * S + x]? = some (px (y * L + x)) := by
  rw [rowsUp_get (fun y => lineOf_length hL) H y x hy (by omega), lineOf, List.getElem?_append_left (by rw [rowOf_length]; exact hx), rowOf_get _ _ _ hx]

/-- A cell of a row that is owned. -/
theorem owns_cell {w : World} {b g n cap i : Nat} {xs : List Int} {v : Int} (h : w.ownsRow b 5 1 (.slice (some ⟨g, 0, none⟩) n cap) n (u8s xs)) (hi : xs[i]? = some v) : w.cell? ⟨g, i, none⟩ = some (.int .u8 v) := by
  have h2 := h.cells (g := g) rfl i (.int .u8 v) (by rw [u8s, List.getElem?_map, hi]; rfl)
  rwa [Go.WideShapes.add_plain, Nat.zero_add] at h2
theorem owns_cell4 {w : World} {b g e s n cap i : Nat} {xs : List Int} {v : Int} (h : w.ownsRow b e s (.slice (some ⟨g, 0, none⟩) n cap) n (u8s xs)) (hi : xs[i]? = some v) : w.cell? ⟨g, i, none⟩ = some (.int .u8 v) := by
  have h2 := h.cells (g := g) rfl i (.int .u8 v) (by rw [u8s, List.getElem?_map, hi]; rfl)
  rwa [Go.WideShapes.add_plain, Nat.zero_add] at h2
theorem owns_cap {w : World} {b g e s n cap : Nat} {xs : List Value} (h : w.ownsRow b e s (.slice (some ⟨g, 0, none⟩) n cap) n xs) : n ≤ cap ∧ cap ≤ 9223372036854775807 ∧ b ≤ g ∧ g < w.heap.size := by
  rcases h.2 with ⟨h1, _⟩ | ⟨g', cap', cur, hv, hb, hh, h2, h3, _⟩
  · cases h1
  · cases hv
    unfold maxLen at h3
    exact ⟨h2, h3, hb, Lib.lt_of_heap hh⟩
theorem pad_full (px : Nat → Nat → Int) (W T y : Nat) (h : W ≤ T) : padRow px W T y = fullRow (px y) W T := by
  rw [padRow, fullRow]
  apply List.ext_getElem?
  intro i
  by_cases h1 : i < W
  · rw [List.getElem?_append_left (by rw [rowOf_length]; exact h1), rowOf_get _ _ _ h1, rowOf_get _ _ _ (by omega), if_pos h1]
  · rw [List.getElem?_append_right (by rw [rowOf_length]; omega), rowOf_length]
    by_cases h2 : i < T
    · rw [rowOf_get _ _ _ h2, if_neg h1, List.getElem?_replicate, if_pos (by omega)]
    · rw [List.getElem?_eq_none (by simp; omega), List.getElem?_eq_none (by rw [rowOf_length]; omega)]
theorem fullRow_congr {f g : Nat → Int} {N T : Nat} (h : ∀ i, i < N → f i = g i) : fullRow f N T = fullRow g N T := by
  unfold fullRow rowOf
  apply List.map_congr_left
  intro i _
  by_cases hi : i < N
  · rw [if_pos hi, if_pos hi, h i hi]
  · rw [if_neg hi, if_neg hi]
/-- The palettes are one. -/
theorem pal_same (Qs : List Int) (i : Nat) : palF (fun i => Qs.getD i 0) i = qF (palQ Qs) i := by
  have hk : i = 4 * (i / 4) + i % 4 := by omega
  have hm : i % 4 = 0 ∨ i % 4 = 1 ∨ i % 4 = 2 ∨ i % 4 = 3 := by omega
  generalize i / 4 = k at hk
  rcases hm with h | h | h | h <;> rw [h] at hk <;> subst hk
  · have h1 : (4 * k + 0) % 4 = 0 := by omega
    have h2 : (4 * k + 0) / 4 = k := by omega
    rw [palF, h1, h2, qF, h1, h2]
    exact (palQ_2 Qs k).symm
  · have h1 : (4 * k + 1) % 4 = 1 := by omega
    have h2 : (4 * k + 1) / 4 = k := by omega
    rw [palF, h1, h2, qF, h1, h2]
    exact (palQ_1 Qs k).symm
  · have h1 : (4 * k + 2) % 4 = 2 := by omega
    have h2 : (4 * k + 2) / 4 = k := by omega
    rw [palF, h1, h2, qF, h1, h2]
    exact (palQ_0 Qs k).symm
  · have h1 : (4 * k + 3) % 4 = 3 := by omega
    have h2 : (4 * k + 3) / 4 = k := by omega
    rw [palF, h1, h2, qF, h1, h2]
    rfl
theorem room_ok {H S L : Nat} (hH : 0 < H) (hL : L ≤ S) : (H - 1) * S + L ≤ S * H := by
  obtain ⟨h, rfl⟩ : ∃ h, H = h + 1 := ⟨H - 1, by omega⟩
  rw [Nat.add_sub_cancel, Nat.mul_succ, Nat.mul_comm h S]
  omega
theorem room_ok' {H S L : Nat} (hH : 0 < H) (hL : L ≤ S) : S * (H - 1) + L ≤ S * H := by
  rw [Nat.mul_comm S (H - 1)]
  exact room_ok hH hL

/-- A picture as impl.Picture's image: what bmp.Encode is handed. -/
def ImgAt (tp T : TypeId) (n W H S : Nat) (xs : List Int) (B : Nat) (d : Value) (wz : World) : Prop :=
  ∃ mb g c, d = .iface tp (.pointer (some ⟨mb, 0, none⟩)) ∧ wz.heap[mb]? = some (.cells #[.slice (some ⟨g, 0, none⟩) n c, .int .i64 S, .int .i64 0, .int .i64 0, .int .i64 W, .int .i64 H] T (0, 0)) ∧ wz.ownsRow B 5 1 (.slice (some ⟨g, 0, none⟩) n c) n (u8s xs) ∧ B ≤ mb

/-- impl.Encode where the image is made by a copy of the pixels. -/
theorem enc_kind (kd tp T : Nat) (W H S n cp gs : Nat) (xs tot : List Int) (w1 W' : World) (hgs : gs < w1.heap.size) (hb : Below w1.heap.size w1 W') (hr : Reads w1 ⟨gs, 0, none⟩ xs)
    (hfit : ∀ W' : World, Calls Tryd.prog 7 #[.agg #[.int .i64 kd, .int .i64 0, .int .i64 0, .int .i64 W, .int .i64 H, .int .i64 S, .slice (some ⟨gs, 0, none⟩) n cp, .slice none 0 0]] W' (Ret (.bool true) W'))
    (himg : ∀ W' : World, Reads W' ⟨gs, 0, none⟩ xs → Calls Tryd.prog 9 #[.agg #[.int .i64 kd, .int .i64 0, .int .i64 0, .int .i64 W, .int .i64 H, .int .i64 S, .slice (some ⟨gs, 0, none⟩) n cp, .slice none 0 0]] W' (ImageOf T tp n W H S xs W'))
    (hbmp : ∀ (B mb g c b : Nat) (W' : World), W'.heap[mb]? = some (.cells #[.slice (some ⟨g, 0, none⟩) n c, .int .i64 S, .int .i64 0, .int .i64 0, .int .i64 W, .int .i64 H] T (0, 0)) → W'.ownsRow B 5 1 (.slice (some ⟨g, 0, none⟩) n c) n (u8s xs) → mb ≠ b → g ≠ b → W'.heap[b]? = some bufCells →
      Calls Tryd.prog 8 #[.iface 49 (.pointer (some ⟨b, 0, none⟩)), .iface tp (.pointer (some ⟨mb, 0, none⟩))] W' (BmpOut b tot W')) :
    Calls Tryd.prog 5 #[.agg #[.int .i64 kd, .int .i64 0, .int .i64 0, .int .i64 W, .int .i64 H, .int .i64 S, .slice (some ⟨gs, 0, none⟩) n cp, .slice none 0 0]] W' (EncOut tot W') := by
  refine encode_any kd W H S n cp 0 0 (some ⟨gs, 0, none⟩) none tot W' (ImgAt tp T n W H S xs) hfit ?_ ?_
  · intro W'' hb2
    refine (himg W'' (hr.below (hb.trans (hb2.mono hb.size)) hgs)).mono ?_
    rintro e w2 ⟨mb, g, c, rfl, h1, h2, h3, h4⟩
    exact ⟨_, rfl, ⟨mb, g, c, rfl, h1, h2, h3⟩, h4⟩
  · rintro B d W'' b ⟨mb, g, c, rfl, h1, h2, h3⟩ hbB hbuf
    have h4 := (owns_cap h2).2.2.1
    exact hbmp B mb g c b W'' h1 h2 (by omega) (by omega) hbuf

theorem gives_length {W' : World} {n : Nat} {tot : List Int} {e : Ending} {w' : World} (h : Gives W' n tot e w') (hl : tot.length = n) : Gives W' tot.length tot e w' := by rw [hl]; exact h


theorem both_gray (W H S N : Nat) (D : List Int) (hi : Bool) (w : World) (x : Ending) (w1 : World) (hW : 0 < W) (hW2 : W ≤ 40) (hH : 0 < H) (hH2 : H ≤ 40) (hS : W * 1 ≤ S) (hS2 : S ≤ 170) (hN : N = W * H * 1) (h : PicOut 1 1 W H S N D hi w x w1) : ∃ tot : List Int, 0 < tot.length ∧ Both tot w x w1 := by
  obtain ⟨gs, cs, gp, cp, rfl, o1, o2, hbl⟩ := h
  rw [Nat.mul_one] at hS hN o1
  obtain ⟨T, hT⟩ : ∃ T, T = (W + 3) / 4 * 4 := ⟨_, rfl⟩
  obtain ⟨I, hI⟩ : ∃ I, I = H * T := ⟨_, rfl⟩
  have hWT : W ≤ T := by omega
  have hSH : S * H ≤ 170 * 40 := Nat.mul_le_mul hS2 hH2
  have hWH : H * W ≤ 40 * 40 := Nat.mul_le_mul hH2 hW2
  have hNW : N = H * W := by rw [hN, Nat.mul_comm]
  have l1 : (54 + (1024 + (I : Int)) : Int) = 1078 + (I : Int) := by omega
  have l2 : padRow (pxOf D hi W) W T = fun y => fullRow (pxOf D hi W y) W T := funext fun y => pad_full _ _ _ _ hWT
  refine ⟨hbytes (1078 + (I : Int)) 1078 W H 8 I ++ fullRow grays 1024 1024 ++ rowsDown (fun y => fullRow (pxOf D hi W y) W T) H, by simp [hbytes_length]; omega, 1, W, H, S, S * H, cs, 0, 0, N, cp, 0, 0, some ⟨gs, 0, none⟩, none, some ⟨gp, 0, none⟩, none, rfl, ?_, ?_, hbl⟩
  · intro W' hb
    refine enc_kind 1 73 91 W H S (S * H) cs gs _ _ w1 W' (owns_cap o1).2.2.2 hb (owns_reads o1) (fun W' => fits_1 W H S (S * H) cs 0 0 none ⟨gs, 0, none⟩ W' hW hW2 hH hH2 (by omega) (by omega) (by rw [Nat.one_mul]; exact room_ok' hH hS) (by omega) (by omega)) (fun W' hr => image_gray W H S (S * H) cs gs _ W' hr (by rw [rowsUp_length (fun y => lineOf_length hS)]) (Nat.mul_pos (by omega) hH) (by omega)) ?_
    intro B mb g c b W'' h1 h2 hmb hg hbuf
    obtain ⟨c1, c2, _, _⟩ := owns_cap h2
    have hr := room_ok hH hS
    have h8 := bmp_gray b mb g (S * H) c W H S T I 0 (pxOf D hi W) W'' hbuf h1 hmb hW hW2 hH hH2 (by omega) c2 hg hT hI (fun y x hy hx => owns_cell h2 (up_get hS hy hx))
    rw [l1, l2] at h8
    exact h8
  · intro W' hb
    refine (spec_gray T I W H N cp 0 0 gp none W' hW hW2 hH hH2 hT (by rw [hI, Nat.mul_comm]) (by omega) (by omega) (pxOf D hi W) ?_).mono fun e w' hg => gives_length hg ?_
    · intro y x hy hx
      have hlt : y * W + x < N := by
        have := Nat.mul_le_mul_right W (show y + 1 ≤ H from hy)
        rw [Nat.add_mul, Nat.one_mul] at this
        omega
      exact (hb.cell (p := ⟨gp, y * W + x, none⟩) (owns_cap o2).2.2.2).trans (owns_cell o2 (rowOf_get _ _ _ hlt))
    · rw [List.length_append, List.length_append, hbytes_length, fullRow_length, rowsDown_length (fun _ => fullRow_length _ _ _), hI, Nat.mul_comm]
theorem both_rgba (W H S N : Nat) (D : List Int) (hi : Bool) (w : World) (x : Ending) (w1 : World) (hW : 0 < W) (hW2 : W ≤ 40) (hH : 0 < H) (hH2 : H ≤ 40) (hS : W * 4 ≤ S) (hS2 : S ≤ 170) (hN : N = W * H * 4) (h : PicOut 3 4 W H S N D hi w x w1) : ∃ tot : List Int, 0 < tot.length ∧ Both tot w x w1 := by
  obtain ⟨gs, cs, gp, cp, rfl, o1, o2, hbl⟩ := h
  rw [Nat.mul_comm W 4] at hS o1
  have hSH : S * H ≤ 170 * 40 := Nat.mul_le_mul hS2 hH2
  have hWH : H * W ≤ 40 * 40 := Nat.mul_le_mul hH2 hW2
  have hNW : N = 4 * (H * W) := by rw [hN, Nat.mul_comm W H, Nat.mul_comm]
  have hcp := (owns_cap o2).1
  have himg := fun (W' : World) (hr : Reads W' ⟨gs, 0, none⟩ (rowsUp (lineOf (pixv D hi) (4 * W) S) H)) => image_rgba W H S (S * H) cs gs _ W' hr (by rw [rowsUp_length (fun y => lineOf_length hS)]) (Nat.mul_pos (by omega) hH) (by omega)
  have hfit := fun W' : World => fits_3 W H S (S * H) cs 0 0 none ⟨gs, 0, none⟩ W' hW hW2 hH hH2 hS (by omega) (room_ok' hH hS) (by omega) (by omega)
  have hsp : ∀ W', Below w1.heap.size w1 W' → ∀ y x j, y < H → x < W → j < 4 → W'.cell? ⟨gp, 4 * (y * W + x) + j, none⟩ = some (.int .u8 (pxOf D hi (4 * W) y (4 * x + j))) := by
    intro W' hb y x j hy hx hj
    have e : y * (4 * W) + (4 * x + j) = 4 * (y * W + x) + j := by rw [Nat.mul_left_comm]; omega
    have hlt : 4 * (y * W + x) + j < N := by
      have := Nat.mul_le_mul_right W (show y + 1 ≤ H from hy)
      rw [Nat.add_mul, Nat.one_mul] at this
      omega
    unfold pxOf
    rw [e]
    exact (hb.cell (p := ⟨gp, 4 * (y * W + x) + j, none⟩) (owns_cap o2).2.2.2).trans (owns_cell o2 (rowOf_get _ _ _ hlt))
  by_cases hop : opq (pxOf D hi (4 * W)) W H = true
  · obtain ⟨T, hT⟩ : ∃ T, T = (3 * W + 3) / 4 * 4 := ⟨_, rfl⟩
    obtain ⟨I, hI⟩ : ∃ I, I = H * T := ⟨_, rfl⟩
    refine ⟨hbytes (54 + (I : Int)) 54 W H 24 I ++ rowsDown (fun y => fullRow (row24 (pxOf D hi (4 * W) y)) (3 * W) T) H, by simp [hbytes_length]; omega, 3, W, H, S, S * H, cs, 0, 0, N, cp, 0, 0, some ⟨gs, 0, none⟩, none, some ⟨gp, 0, none⟩, none, rfl, ?_, ?_, hbl⟩
    · intro W' hb
      refine enc_kind 3 83 93 W H S (S * H) cs gs _ _ w1 W' (owns_cap o1).2.2.2 hb (owns_reads o1) hfit himg ?_
      intro B mb g c b W'' h1 h2 hmb hg hbuf
      have hr := room_ok hH hS
      exact bmp_rgba24 b mb g (S * H) c W H S T I 0 (pxOf D hi (4 * W)) W'' hbuf h1 hmb hW hW2 hH hH2 (by omega) hr (by omega) hg hT hI (fun y x hy hx => owns_cell h2 (up_get hS hy hx)) (pxOf_bd D hi (4 * W)) hop
    · intro W' hb
      refine (spec_rgba24 T I W H N cp 0 0 gp none W' hW hW2 hH hH2 hT (by rw [hI, Nat.mul_comm]) hNW hcp (pxOf D hi (4 * W)) (hsp W' hb) (pxOf_bd D hi (4 * W)) hop).mono fun e w' hg => gives_length hg ?_
      rw [List.length_append, hbytes_length, rowsDown_length (fun _ => fullRow_length _ _ _), hI, Nat.mul_comm]
  · obtain ⟨T, hT⟩ : ∃ T, T = 4 * W := ⟨_, rfl⟩
    obtain ⟨I, hI⟩ : ∃ I, I = H * T := ⟨_, rfl⟩
    refine ⟨hbytes (54 + (I : Int)) 54 W H 32 I ++ rowsDown (fun y => fullRow (row32r (pxOf D hi (4 * W) y)) (4 * W) T) H, by simp [hbytes_length]; omega, 3, W, H, S, S * H, cs, 0, 0, N, cp, 0, 0, some ⟨gs, 0, none⟩, none, some ⟨gp, 0, none⟩, none, rfl, ?_, ?_, hbl⟩
    · intro W' hb
      refine enc_kind 3 83 93 W H S (S * H) cs gs _ _ w1 W' (owns_cap o1).2.2.2 hb (owns_reads o1) hfit himg ?_
      intro B mb g c b W'' h1 h2 hmb hg hbuf
      have hr := room_ok hH hS
      exact bmp_rgba32 b mb g (S * H) c W H S T I 0 (pxOf D hi (4 * W)) W'' hbuf h1 hmb hW hW2 hH hH2 (by omega) hr (by omega) hg hT hI (fun y x hy hx => owns_cell h2 (up_get hS hy hx)) (pxOf_bd D hi (4 * W)) (Bool.eq_false_iff.2 hop)
    · intro W' hb
      refine (spec_rgba32 T I W H N cp 0 0 gp none W' hW hW2 hH hH2 hT (by rw [hI, Nat.mul_comm]) hNW hcp (pxOf D hi (4 * W)) (hsp W' hb) (pxOf_bd D hi (4 * W)) (Bool.eq_false_iff.2 hop)).mono fun e w' hg => gives_length hg ?_
      rw [List.length_append, hbytes_length, rowsDown_length (fun _ => fullRow_length _ _ _), hI, Nat.mul_comm]
theorem both_nrgba (W H S N : Nat) (D : List Int) (hi : Bool) (w : World) (x : Ending) (w1 : World) (hW : 0 < W) (hW2 : W ≤ 40) (hH : 0 < H) (hH2 : H ≤ 40) (hS : W * 4 ≤ S) (hS2 : S ≤ 170) (hN : N = W * H * 4) (h : PicOut 5 4 W H S N D hi w x w1) : ∃ tot : List Int, 0 < tot.length ∧ Both tot w x w1 := by
  obtain ⟨gs, cs, gp, cp, rfl, o1, o2, hbl⟩ := h
  rw [Nat.mul_comm W 4] at hS o1
  have hSH : S * H ≤ 170 * 40 := Nat.mul_le_mul hS2 hH2
  have hWH : H * W ≤ 40 * 40 := Nat.mul_le_mul hH2 hW2
  have hNW : N = 4 * (H * W) := by rw [hN, Nat.mul_comm W H, Nat.mul_comm]
  have hcp := (owns_cap o2).1
  have himg := fun (W' : World) (hr : Reads W' ⟨gs, 0, none⟩ (rowsUp (lineOf (pixv D hi) (4 * W) S) H)) => image_nrgba W H S (S * H) cs gs _ W' hr (by rw [rowsUp_length (fun y => lineOf_length hS)]) (Nat.mul_pos (by omega) hH) (by omega)
  have hfit := fun W' : World => fits_5 W H S (S * H) cs 0 0 none ⟨gs, 0, none⟩ W' hW hW2 hH hH2 hS (by omega) (room_ok' hH hS) (by omega) (by omega)
  have hsp : ∀ W', Below w1.heap.size w1 W' → ∀ y x j, y < H → x < W → j < 4 → W'.cell? ⟨gp, 4 * (y * W + x) + j, none⟩ = some (.int .u8 (pxOf D hi (4 * W) y (4 * x + j))) := by
    intro W' hb y x j hy hx hj
    have e : y * (4 * W) + (4 * x + j) = 4 * (y * W + x) + j := by rw [Nat.mul_left_comm]; omega
    have hlt : 4 * (y * W + x) + j < N := by
      have := Nat.mul_le_mul_right W (show y + 1 ≤ H from hy)
      rw [Nat.add_mul, Nat.one_mul] at this
      omega
    unfold pxOf
    rw [e]
    exact (hb.cell (p := ⟨gp, 4 * (y * W + x) + j, none⟩) (owns_cap o2).2.2.2).trans (owns_cell o2 (rowOf_get _ _ _ hlt))
  by_cases hop : opq (pxOf D hi (4 * W)) W H = true
  · obtain ⟨T, hT⟩ : ∃ T, T = (3 * W + 3) / 4 * 4 := ⟨_, rfl⟩
    obtain ⟨I, hI⟩ : ∃ I, I = H * T := ⟨_, rfl⟩
    refine ⟨hbytes (54 + (I : Int)) 54 W H 24 I ++ rowsDown (fun y => fullRow (row24 (pxOf D hi (4 * W) y)) (3 * W) T) H, by simp [hbytes_length]; omega, 5, W, H, S, S * H, cs, 0, 0, N, cp, 0, 0, some ⟨gs, 0, none⟩, none, some ⟨gp, 0, none⟩, none, rfl, ?_, ?_, hbl⟩
    · intro W' hb
      refine enc_kind 5 85 94 W H S (S * H) cs gs _ _ w1 W' (owns_cap o1).2.2.2 hb (owns_reads o1) hfit himg ?_
      intro B mb g c b W'' h1 h2 hmb hg hbuf
      have hr := room_ok hH hS
      exact bmp_nrgba24 b mb g (S * H) c W H S T I 0 (pxOf D hi (4 * W)) W'' hbuf h1 hmb hW hW2 hH hH2 (by omega) hr (by omega) hg hT hI (fun y x hy hx => owns_cell h2 (up_get hS hy hx)) (pxOf_bd D hi (4 * W)) hop
    · intro W' hb
      refine (spec_nrgba24 T I W H N cp 0 0 gp none W' hW hW2 hH hH2 hT (by rw [hI, Nat.mul_comm]) hNW hcp (pxOf D hi (4 * W)) (hsp W' hb) (pxOf_bd D hi (4 * W)) hop).mono fun e w' hg => gives_length hg ?_
      rw [List.length_append, hbytes_length, rowsDown_length (fun _ => fullRow_length _ _ _), hI, Nat.mul_comm]
  · obtain ⟨T, hT⟩ : ∃ T, T = 4 * W := ⟨_, rfl⟩
    obtain ⟨I, hI⟩ : ∃ I, I = H * T := ⟨_, rfl⟩
    refine ⟨hbytes (54 + (I : Int)) 54 W H 32 I ++ rowsDown (fun y => fullRow (row32n (pxOf D hi (4 * W) y)) (4 * W) T) H, by simp [hbytes_length]; omega, 5, W, H, S, S * H, cs, 0, 0, N, cp, 0, 0, some ⟨gs, 0, none⟩, none, some ⟨gp, 0, none⟩, none, rfl, ?_, ?_, hbl⟩
    · intro W' hb
      refine enc_kind 5 85 94 W H S (S * H) cs gs _ _ w1 W' (owns_cap o1).2.2.2 hb (owns_reads o1) hfit himg ?_
      intro B mb g c b W'' h1 h2 hmb hg hbuf
      have hr := room_ok hH hS
      exact bmp_nrgba32 b mb g (S * H) c W H S T I 0 (pxOf D hi (4 * W)) W'' hbuf h1 hmb hW hW2 hH hH2 (by omega) hr (by omega) hg hT hI (fun y x hy hx => owns_cell h2 (up_get hS hy hx)) (pxOf_bd D hi (4 * W)) (Bool.eq_false_iff.2 hop)
    · intro W' hb
      refine (spec_nrgba32 T I W H N cp 0 0 gp none W' hW hW2 hH hH2 hT (by rw [hI, Nat.mul_comm]) hNW hcp (pxOf D hi (4 * W)) (hsp W' hb) (pxOf_bd D hi (4 * W)) (Bool.eq_false_iff.2 hop)).mono fun e w' hg => gives_length hg ?_
      rw [List.length_append, hbytes_length, rowsDown_length (fun _ => fullRow_length _ _ _), hI, Nat.mul_comm]

/-- A picture with a palette: what bmp.Encode is handed. -/
def ImgAt7 (n pn W H S : Nat) (xs : List Int) (C : Nat → Int) (B : Nat) (d : Value) (wz : World) : Prop :=
  ∃ mb g c q, d = .iface 74 (.pointer (some ⟨mb, 0, none⟩)) ∧ wz.heap[mb]? = some (.cells #[.slice (some ⟨g, 0, none⟩) n c, .int .i64 S, .int .i64 0, .int .i64 0, .int .i64 W, .int .i64 H, q] 78 (0, 0)) ∧ wz.ownsRow B 5 1 (.slice (some ⟨g, 0, none⟩) n c) n (u8s xs) ∧ wz.ownsRow B 81 1 q pn (cols C pn) ∧ B ≤ mb
/-- A slice that may be nil, its cells. -/
theorem owns_open {w : World} {b e s n : Nat} {v : Value} {xs : List Int} (h : w.ownsRow b e s v n (u8s xs)) : ∃ (o : Option Addr) (g l c : Nat), v = .slice o l c ∧ l = n ∧ (0 < n → o = some ⟨g, 0, none⟩) ∧ (0 < n → g < w.heap.size) ∧ ∀ i y, xs[i]? = some y → w.cell? ⟨g, i, none⟩ = some (.int .u8 y) := by
  rcases h.2 with ⟨rfl, h0⟩ | ⟨g, cap, cur, rfl, _, hh, _⟩
  · refine ⟨none, 0, 0, 0, rfl, h0.symm, fun hp => by omega, fun hp => by omega, fun i y hi => ?_⟩
    have h1 := h.1
    rw [u8s_length, h0, Nat.zero_mul] at h1
    rw [List.length_eq_zero_iff.1 h1] at hi
    simp at hi
  · exact ⟨some ⟨g, 0, none⟩, g, n, cap, rfl, rfl, fun _ => rfl, fun _ => Lib.lt_of_heap hh, fun i y hi => owns_cell4 h hi⟩

theorem both_pal (W H S N : Nat) (D : List Int) (hi : Bool) (w : World) (x : Ending) (w1 : World) (hW : 0 < W) (hW2 : W ≤ 40) (hH : 0 < H) (hH2 : H ≤ 40) (Qs : List Int) (hq0 : Qs.length ≤ 1024) (hqb : ∀ i, 0 ≤ Qs.getD i 0 ∧ Qs.getD i 0 < 256) (hS : W ≤ S) (hS2 : S ≤ 170) (hN : N = W * H) (h : PicOut7 Qs W H S N D hi w x w1) : ∃ tot : List Int, 0 < tot.length ∧ Both tot w x w1 := by
  obtain ⟨gs, cs, gp, cp, qv, pv, rfl, o1, o2, o3, o4, hbl⟩ := h
  obtain ⟨pn, hpn⟩ : ∃ pn, pn = Qs.length / 4 := ⟨_, rfl⟩
  rw [← hpn] at o3 o4
  have hpn2 : pn ≤ 256 := by omega
  obtain ⟨qo, gq, ql, qc, rfl, rfl, q1, q2, q3⟩ := owns_open o3
  obtain ⟨po, gr, pl, pc, rfl, e2, r1, r2, r3⟩ := owns_open o4
  subst e2
  obtain ⟨T, hT⟩ : ∃ T, T = (W + 3) / 4 * 4 := ⟨_, rfl⟩
  obtain ⟨I, hI⟩ : ∃ I, I = H * T := ⟨_, rfl⟩
  have hWT : W ≤ T := by omega
  have hSH : S * H ≤ 170 * 40 := Nat.mul_le_mul hS2 hH2
  have hWH : H * W ≤ 40 * 40 := Nat.mul_le_mul hH2 hW2
  have hNW : N = H * W := by rw [hN, Nat.mul_comm]
  have l1 : (54 + (1024 + (I : Int)) : Int) = 1078 + (I : Int) := by omega
  have l2 : padRow (pxOf D hi W) W T = fun y => fullRow (pxOf D hi W y) W T := funext fun y => pad_full _ _ _ _ hWT
  have l3 : fullRow (palF fun i => Qs.getD i 0) (pl * 4) 1024 = fullRow (qF (palQ Qs)) (4 * pl) 1024 := by
    rw [Nat.mul_comm pl 4]
    exact fullRow_congr fun i _ => pal_same Qs i
  refine ⟨hbytes (1078 + (I : Int)) 1078 W H 8 I ++ fullRow (qF (palQ Qs)) (4 * pl) 1024 ++ rowsDown (fun y => fullRow (pxOf D hi W y) W T) H, by simp [hbytes_length]; omega, 7, W, H, S, S * H, cs, pl, qc, N, cp, pl, pc, some ⟨gs, 0, none⟩, qo, some ⟨gp, 0, none⟩, po, rfl, ?_, ?_, hbl⟩
  · intro W' hb
    refine encode_any 7 W H S (S * H) cs pl qc (some ⟨gs, 0, none⟩) qo _ W' (ImgAt7 (S * H) pl W H S (rowsUp (lineOf (pixv D hi) W S) H) fun i => Qs.getD i 0) (fun W' => fits_7 W H S (S * H) cs pl qc qo ⟨gs, 0, none⟩ W' hW hW2 hH hH2 (by omega) (by omega) (by rw [Nat.one_mul]; exact room_ok' hH hS) (by omega) hpn2) ?_ ?_
    · intro W'' hb2
      have hb3 : Below w1.heap.size w1 W'' := hb.trans (hb2.mono hb.size)
      refine (image_pal W H S (S * H) cs gs gq pl qc qo _ (fun i => Qs.getD i 0) W'' ((owns_reads o1).below hb3 (owns_cap o1).2.2.2) (by rw [rowsUp_length (fun y => lineOf_length hS)]) (Nat.mul_pos (by omega) hH) (by omega) q1 (by omega) (fun i hi => ?_)).mono ?_
      · exact (hb3.cell (p := ⟨gq, i, none⟩) (q2 (by omega))).trans (q3 i _ (rowOf_get _ _ _ hi))
      · rintro e w2 ⟨mb, g, c, q, rfl, h1, h2, h3, h4, h5⟩
        exact ⟨_, rfl, ⟨mb, g, c, q, rfl, h1, h2, h3, h4⟩, h5⟩
    · rintro B d W'' b ⟨mb, g, c, q, rfl, h1, h2, h3, h4⟩ hbB hbuf
      obtain ⟨c1, c2, c3, _⟩ := owns_cap h2
      have hr := room_ok hH hS
      have h8 := bmp_pal b mb g (S * H) c W H S T I B pl 0 (pxOf D hi W) (fun i => Qs.getD i 0) q W'' hbuf h1 (by omega) h3 hpn2 hqb hW hW2 hH hH2 (by omega) c2 (by omega) hT hI (fun y x hy hx => owns_cell h2 (up_get hS hy hx))
      rw [l1, l2, l3] at h8
      exact h8
  · intro W' hb
    refine (spec_pal T I W H N cp pl pc gr gp po (palQ Qs) W' r1 hpn2 (fun i hi => (hb.cell (p := ⟨gr, i, none⟩) (r2 (by omega))).trans (r3 i _ (rowOf_get _ _ _ hi))) hW hW2 hH hH2 hT (by rw [hI, Nat.mul_comm]) (by omega) (by omega) (pxOf D hi W) ?_).mono fun e w' hg => gives_length hg ?_
    · intro y x hy hx
      have hlt : y * W + x < N := by
        have := Nat.mul_le_mul_right W (show y + 1 ≤ H from hy)
        rw [Nat.add_mul, Nat.one_mul] at this
        omega
      exact (hb.cell (p := ⟨gp, y * W + x, none⟩) (owns_cap o2).2.2.2).trans (owns_cell o2 (rowOf_get _ _ _ hlt))
    · rw [List.length_append, List.length_append, hbytes_length, fullRow_length, rowsDown_length (fun _ => fullRow_length _ _ _), hI, Nat.mul_comm]
end Go.Proofs.YtfefgopomhhpfaaDoor
