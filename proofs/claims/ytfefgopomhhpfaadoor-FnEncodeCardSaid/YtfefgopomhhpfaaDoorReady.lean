/- What bmp.Encode has made when it begins to write: words that its four walks share. -/
import Derived.Test.YtfefgopomhhpfaaDoorHead
import Derived.Test.YtfefgopomhhpfaaDoorPal
import Derived.Test.YtfefgopomhhpfaaDoorFill
import Derived.Test.YtfefgopomhhpfaaDoorAssert
import Derived.Test.YtfefgopomhhpfaaDoorSmall
import Derived.Test.YtfefgopomhhpfaaDoorOpaque
namespace Go.Proofs.YtfefgopomhhpfaaDoor
open Go.RowKit

/-- encodePaletted at any width of a row. -/
theorem pal_any (b g0 gp : Nat) (bs : List Int) (n cp W H S T : Nat) (px : Nat → Nat → Int) (w : World) (hB : Buf w b g0 bs) (hl : 0 < bs.length) (hgb : gp ≠ b) (hgg : gp ≠ g0)
    (hT : W ≤ T) (hT2 : T ≤ 1000) (hW : 0 < W) (hH : 0 < H) (hH2 : H ≤ 1000) (hcp : (H - 1) * S + W ≤ cp) (hcp2 : cp ≤ 9223372036854775807)
    (hpx : ∀ y x, y < H → x < W → w.cell? ⟨gp, y * S + x, none⟩ = some (.int .u8 (px y x))) (hlim : bs.length + T * H ≤ 100000000) :
    Calls Tryd.prog 18 #[.iface 49 (.pointer (some ⟨b, 0, none⟩)), .slice (some ⟨gp, 0, none⟩) n cp, .int .i64 W, .int .i64 H, .int .i64 S, .int .i64 T] w (Encoded b g0 (bs ++ rowsDown (padRow px W T) H) w) := by
  by_cases h : W < T
  · exact pal_pad b g0 gp bs n cp W H S T px w hB hl hgb hgg h hT2 hW hH hH2 hcp hcp2 hpx hlim
  · obtain rfl : T = W := by omega
    have e : padRow px T T = fun y => rowOf (px y) T := by
      funext y
      simp [padRow]
    rw [e]
    exact pal_full b g0 gp bs n cp T H S px w hB hl hgb hgg hT2 hW hH hH2 hcp hcp2 hpx hlim

/-- What bmp.Encode leaves. -/
def BmpOut (b : Nat) (tot : List Int) (w : World) (e : Ending) (w' : World) : Prop :=
  e = .returned .nilIface ∧ ∃ g, Buf w' b g tot ∧ w.heap.size ≤ g ∧ Keep (· = b) w w'

/-- 'x &^ 3'. -/
theorem round4_all : ((List.range 200).all fun n : Nat => bits BinOp.andNot IntKind.i64 (n : Int) 3 == ((n / 4 * 4 : Nat) : Int)) = true := by kernel_rfl
theorem round4 {n : Nat} (h : n < 200) : bits BinOp.andNot IntKind.i64 (n : Int) 3 = ((n / 4 * 4 : Nat) : Int) :=
  beq_iff_eq.1 (List.all_eq_true.1 round4_all n (List.mem_range.2 h))

theorem fill4' {w : World} {b T o : Nat} {f F : Nat → Int} (h : w.rowIs b 5 T (part f F o)) {v0 v1 v2 v3 : Int} (h0 : v0 = f o) (h1 : v1 = f (o + 1)) (h2 : v2 = f (o + 2)) (h3 : v3 = f (o + 3)) :
    ((((w.setCell ⟨b, o, none⟩ (.int .u8 v0)).setCell ⟨b, o + 1, none⟩ (.int .u8 v1)).setCell ⟨b, o + 2, none⟩ (.int .u8 v2)).setCell ⟨b, o + 3, none⟩ (.int .u8 v3)).rowIs b 5 T (part f F (o + 4)) := by
  subst h0; subst h1; subst h2; subst h3
  refine ((((h.set o _).set (o + 1) _).set (o + 2) _).set (o + 3) _).congr fun i _ => ?_
  simp only [part]
  by_cases e3 : i = o + 3
  · subst e3; rw [if_pos rfl, if_pos (by omega)]
  · rw [if_neg e3]
    by_cases e2 : i = o + 2
    · subst e2; rw [if_pos rfl, if_pos (by omega)]
    · rw [if_neg e2]
      by_cases e1 : i = o + 1
      · subst e1; rw [if_pos rfl, if_pos (by omega)]
      · rw [if_neg e1]
        by_cases e0 : i = o
        · subst e0; rw [if_pos rfl, if_pos (by omega)]
        · rw [if_neg e0]
          by_cases e : i < o
          · rw [if_pos e, if_pos (by omega)]
          · rw [if_neg e, if_neg (by omega)]

/-- The grays of a palette. -/
def grays (i : Nat) : Int := if i % 4 = 3 then 255 else (i / 4 : Nat)
theorem grays_at (k j : Nat) (hj : j < 3) : grays (k * 4 + j) = (k : Int) := by
  have h1 : (k * 4 + j) % 4 = j := by omega
  have h2 : (k * 4 + j) / 4 = k := by omega
  rw [grays, h1, h2, if_neg (by omega)]
theorem grays_3 (k : Nat) : grays (k * 4 + 3) = 255 := by
  have h1 : (k * 4 + 3) % 4 = 3 := by omega
  rw [grays, h1, if_pos rfl]

/-- The head as it is first laid. -/
def hfirst (W H : Int) : Array Value :=
  #[.int .u8 66, .int .u8 77, .int .u32 54, .int .u16 0, .int .u16 0, .int .u32 54, .int .u32 40, .int .u32 W, .int .u32 H, .int .u16 1, .int .u16 0, .int .u32 0, .int .u32 0, .int .u32 0, .int .u32 0, .int .u32 0, .int .u32 0]

/-- d and h lie in two blocks, the second behind the first; nothing that was there has turned. -/
structure Two (w W0 : World) (db W H : Nat) (hc : Array Value) : Prop where
  d : W0.heap[db]? = some (.cells #[.int .i64 W, .int .i64 H] 60 (0, 0))
  h : W0.heap[db + 1]? = some (.cells hc 72 (0, 0))
  own : w.heap.size ≤ db
  below : Below w.heap.size w W0
theorem two_made {w w2 : World} (hb : Below w.heap.size w w2) (W H : Nat) (hc : Array Value) : Two w ((w2.alloc (.cells #[.int .i64 W, .int .i64 H] 60)).alloc (.cells hc 72)) w2.heap.size W H hc := by
  refine ⟨?_, ?_, hb.size, (hb.alloc hb.size _).alloc (by have := hb.size; simp; omega) _⟩
  · rw [Below.heap_alloc _ _ _ (by simp)]
    exact heap_alloc_new w2 _
  · have := heap_alloc_new (w2.alloc (.cells #[.int .i64 W, .int .i64 H] 60)) (.cells hc 72)
    simpa using this
theorem Two.alloc {w W0 : World} {db W H : Nat} {hc : Array Value} (h : Two w W0 db W H hc) (o : Obj) : Two w (W0.alloc o) db W H hc := by
  obtain ⟨h1, h2, h3, h4⟩ := h
  exact ⟨(Below.heap_alloc _ _ _ (Lib.lt_of_heap h1)).trans h1, (Below.heap_alloc _ _ _ (Lib.lt_of_heap h2)).trans h2, h3, h4.alloc h4.size _⟩
theorem Two.keep {w W0 W1 : World} {db W H q : Nat} {hc : Array Value} (h : Two w W0 db W H hc) (k : Keep (· = q) W0 W1) (hq : db + 1 < q) : Two w W1 db W H hc :=
  ⟨(k.block _ (Lib.lt_of_heap h.d) (by omega)).trans h.d, (k.block _ (Lib.lt_of_heap h.h) (by omega)).trans h.h, h.own, h.below.trans (k.toBelow h.below.size (fun r hr => by have := h.own; omega))⟩
theorem Two.drew {w W0 : World} {db W H : Nat} {hc : Array Value} (h : Two w W0 db W H hc) : Two w W0.drew db W H hc := ⟨h.d, h.h, h.own, h.below.drew⟩
/-- A store into h. -/
theorem Two.set {w W0 : World} {db W H : Nat} {hc : Array Value} (h : Two w W0 db W H hc) (i : Nat) (v : Value) : Two w (W0.setCell ⟨db + 1, i, none⟩ v) db W H (hc.setIfInBounds i v) :=
  ⟨(Below.heap_setCell _ _ _ _ (by show db ≠ db + 1; omega)).trans h.d, Lib.heap_setCell_same h.h v, h.own, h.below.setCell (p := ⟨db + 1, i, none⟩) (by have := h.own; show w.heap.size ≤ db + 1; omega) v⟩

theorem owns_reads {w : World} {B g n c : Nat} {xs : List Int} (h : w.ownsRow B 5 1 (.slice (some ⟨g, 0, none⟩) n c) n (u8s xs)) : Reads w ⟨g, 0, none⟩ xs := by
  intro j hj
  refine h.cells (g := g) rfl j _ ?_
  rw [u8s, List.getElem?_map, List.getElem?_eq_getElem hj, List.getD_eq_getElem?_getD, List.getElem?_eq_getElem hj]
  rfl
theorem Reads.drew {w : World} {a : Addr} {xs : List Int} (h : Reads w a xs) : Reads w.drew a xs := fun j hj => h j hj
end Go.Proofs.YtfefgopomhhpfaaDoor
