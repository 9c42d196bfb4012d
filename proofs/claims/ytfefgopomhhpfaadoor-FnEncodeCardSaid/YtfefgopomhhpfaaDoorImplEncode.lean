/- impl.Encode, with what its three callees do left open: the kinds of pictures are put in afterwards. -/
import Derived.Test.YtfefgopomhhpfaaDoorReady
import Derived.Deep.DeepCutAuto
import Derived.Deep.RegionHeld3
namespace Go.Proofs.YtfefgopomhhpfaaDoor
open Go.RowKit

/-- A buffer whose two blocks lie from B on. -/
theorem Buf.bytes {w : World} {b g B : Nat} {bs : List Int} (h : Buf w b g bs) (hb : B ≤ b) (hg : B ≤ g) : Lib.IsBuffer 45 5 B b (u8s bs) w := by
  obtain ⟨cap, cur, ⟨⟨lr, hh⟩, hr, hle, hcm, hcs, hne⟩, ht⟩ := h
  have hlen : (u8s bs).length = bs.length := by simp [u8s]
  exact ⟨hb, _, lr, hh, ⟨by rw [Nat.mul_one], .inr ⟨g, cap, cur, by rw [hlen], hg, hr, by omega, hcm, by omega, by rw [hlen, Nat.mul_one, ht]⟩⟩, by simp [Value.ownBlock]; exact hne⟩

/-- What impl.Encode leaves. -/
def EncOut (tot : List Int) (w : World) (e : Ending) (w' : World) : Prop :=
  ∃ v, e = .returned (.tuple #[v, .int .i64 0]) ∧ w'.ownsRow w.heap.size 5 1 v tot.length (u8s tot) ∧ Below w.heap.size w w'

/-- The buffer that is empty. -/
def bufCells : Obj := .cells #[.slice none 0 0, .int .i64 0, .int .i8 0] 45 (0, 0)

set_option maxHeartbeats 1600000 in
set_option maxRecDepth 100000 in
theorem encode_any (kd W H S n cp pn pc : Nat) (ga pa : Option Addr) (tot : List Int) (w : World) (Img : Nat → Value → World → Prop)
    (hfit : ∀ W' : World, Calls Tryd.prog 7 #[.agg #[.int .i64 kd, .int .i64 0, .int .i64 0, .int .i64 W, .int .i64 H, .int .i64 S, .slice ga n cp, .slice pa pn pc]] W' (Ret (.bool true) W'))
    (himg : ∀ W' : World, Below w.heap.size w W' → Calls Tryd.prog 9 #[.agg #[.int .i64 kd, .int .i64 0, .int .i64 0, .int .i64 W, .int .i64 H, .int .i64 S, .slice ga n cp, .slice pa pn pc]] W' (fun e w' => ∃ d, e = .returned d ∧ Img W'.heap.size d w' ∧ Below W'.heap.size W' w'))
    (hbmp : ∀ (B : Nat) (d : Value) (W' : World) (b : Nat), Img B d W' → b < B → W'.heap[b]? = some bufCells → Calls Tryd.prog 8 #[.iface 49 (.pointer (some ⟨b, 0, none⟩)), d] W' (BmpOut b tot W')) :
    Calls Tryd.prog 5 #[.agg #[.int .i64 kd, .int .i64 0, .int .i64 0, .int .i64 W, .int .i64 H, .int .i64 S, .slice ga n cp, .slice pa pn pc]] w (EncOut tot w) := by
  have HI := Lib.hid himg
  have HB := Lib.hid hbmp
  clear himg hbmp
  go_enter Tryd.func5, Tryd.ntmps5
  go_wp2_with fail
  refine (hfit _).mono ?_
  rintro e w1 ⟨rfl, hb1⟩
  have hbx : (w.alloc (.cells #[.int .i64 kd, .int .i64 0, .int .i64 0, .int .i64 W, .int .i64 H, .int .i64 S, .slice ga n cp, .slice pa pn pc] 25)).heap[w.heap.size]? = _ := heap_alloc_new w _
  have hb0 : Below w.heap.size w (w.alloc (.cells #[.int .i64 kd, .int .i64 0, .int .i64 0, .int .i64 W, .int .i64 H, .int .i64 S, .slice ga n cp, .slice pa pn pc] 25)) := (Below.refl _ w).alloc (Nat.le_refl _) _
  have hs0 : (w.alloc (.cells #[.int .i64 kd, .int .i64 0, .int .i64 0, .int .i64 W, .int .i64 H, .int .i64 S, .slice ga n cp, .slice pa pn pc] 25)).heap.size = w.heap.size + 1 := by simp
  have hx1 := (hb1.block _ (by omega)).trans hbx
  have hb01 : Below w.heap.size w w1 := hb0.trans (hb1.mono (by omega))
  have hs1 : w.heap.size + 1 ≤ w1.heap.size := by have := hb1.size; omega
  generalize w.alloc (.cells #[.int .i64 kd, .int .i64 0, .int .i64 0, .int .i64 W, .int .i64 H, .int .i64 S, .slice ga n cp, .slice pa pn pc] 25) = wx at hb1 ⊢
  clear hb1 hb0 hbx hs0
  have hX : ∀ o : Obj, (w1.alloc o).heap[w.heap.size]? = _ := fun o => (Below.heap_alloc _ _ _ (by omega)).trans hx1
  have c0 := fun o => Lib.cell_of_heap (hX o) 0
  have c1 := fun o => Lib.cell_of_heap (hX o) 1
  have c2 := fun o => Lib.cell_of_heap (hX o) 2
  have c3 := fun o => Lib.cell_of_heap (hX o) 3
  have c4 := fun o => Lib.cell_of_heap (hX o) 4
  have c5 := fun o => Lib.cell_of_heap (hX o) 5
  have c6 := fun o => Lib.cell_of_heap (hX o) 6
  have c7 := fun o => Lib.cell_of_heap (hX o) 7
  go_wp2_with fail
  have hb2 : Below w.heap.size w (w1.alloc (.cells #[.slice none 0 0, .int .i64 0, .int .i8 0] 45)) := hb01.alloc (by omega) _
  have hz2 : (w1.alloc (.cells #[.slice none 0 0, .int .i64 0, .int .i8 0] 45)).heap.size = w1.heap.size + 1 := by simp
  have hbk : (w1.alloc (.cells #[.slice none 0 0, .int .i64 0, .int .i8 0] 45)).heap[w1.heap.size]? = some bufCells := heap_alloc_new w1 _
  generalize (w1.alloc (.cells #[.slice none 0 0, .int .i64 0, .int .i8 0] 45)) = w2 at hb2 hz2 hbk ⊢
  clear c0 c1 c2 c3 c4 c5 c6 c7 hX hx1
  refine (HI.out w2 hb2).mono ?_
  rintro e w3 ⟨d, rfl, hd, hb3⟩
  go_wp2_with fail
  refine (HB.out w2.heap.size d w3 w1.heap.size hd (by omega) ((hb3.block _ (by omega)).trans hbk)).mono ?_
  rintro e w4 ⟨rfl, g, hBuf, hg, hK⟩
  go_wp2_with fail
  have hz3 := hb3.size
  refine (Tryd.Buffer_Bytes w.heap.size w1.heap.size (u8s tot) _ (hBuf.bytes (by omega) (by omega))).mono ?_
  rintro e w5 ⟨v, rfl, hown, nn, rfl⟩
  go_wp2_with fail
  refine bodyPost_ret (v := .tuple #[v, .int .i64 0]) (by simp [results, Tryd.results5, go_sem]) rfl ⟨v, rfl, ?_, ?_⟩
  · simpa [u8s] using hown
  · exact bdrewN ((hb2.trans (hb3.mono (by omega))).trans (hK.toBelow (by omega) (fun r hr => by omega))) nn
end Go.Proofs.YtfefgopomhhpfaaDoor
