/- (*bytes.Buffer).Write on a buffer that the call itself has made and only written: the bytes stand behind those that it held; every block but the buffer's own two stays. Conditions: at least one byte is written; p lies in another block; fewer than 2^47 bytes in all. -/
import Derived.Test.YtfefgopomhhpfaaDoorGrow
import Derived.Test.YtfefgopomhhpfaaDoorGrowNil
import Derived.Lib.BufferSrc
import Derived.Lib.BufferOwn
namespace Go.Proofs.YtfefgopomhhpfaaDoor
open Go.RowKit

/-- The cells at a are the bytes ys. -/
def Reads (w : World) (a : Addr) (ys : List Int) : Prop := ∀ j, j < ys.length → w.cell? (a.add j) = some (.int .u8 (ys.getD j 0))

theorem Reads.get {w : World} {a : Addr} {ys : List Int} (h : Reads w a ys) : ∀ j v, (u8s ys)[j]? = some v → w.cell? (a.add j) = some v := by
  intro j v hj
  simp only [u8s, List.getElem?_map, Option.map_eq_some_iff] at hj
  obtain ⟨x, hx, rfl⟩ := hj
  obtain ⟨hlt, rfl⟩ := List.getElem?_eq_some_iff.1 hx
  rw [h j hlt, List.getD_eq_getElem?_getD, List.getElem?_eq_getElem hlt]; rfl

/-- A buffer in block b, its row in block g, holding the bytes bs. -/
def Buf (w : World) (b g : Nat) (bs : List Int) : Prop := ∃ cap cur, BufAt w b g bs.length cap cur ∧ cur.toList.take bs.length = u8s bs

/-- 'copy' into the row: what the row holds then. -/
theorem take_written {cur : Array Value} {l n : Nat} {cs : List Value} (hn : cs.length = n) (hl : l + n ≤ cur.size) :
    ((cur.toList.take l ++ (cs ++ cur.toList.drop (l + n))).toArray.toList).take (l + n) = cur.toList.take l ++ cs := by
  have h1 : (cur.toList.take l).length = l := by rw [List.length_take, Array.length_toList]; omega
  show List.take (l + n) (cur.toList.take l ++ (cs ++ cur.toList.drop (l + n))) = _
  rw [← List.append_assoc, List.take_left' (by simp [h1, hn])]

/-- What Write leaves: n cells more. -/
def WroteAt (b g l n : Nat) (cur : Array Value) (cs : List Value) (w : World) (e : Ending) (w' : World) : Prop :=
  e = .returned (.tuple #[.int .i64 n, .nilIface]) ∧ ∃ g' cap' cur', BufAt w' b g' (l + n) cap' cur' ∧ cur'.toList.take (l + n) = cur.toList.take l ++ cs ∧ (g' = g ∨ w.heap.size ≤ g') ∧ Keep (fun k => k = b ∨ k = g) w w'

theorem BufAt.setLast {w : World} {b g l cap : Nat} {cur : Array Value} (h : BufAt w b g l cap cur) (x : Int) : BufAt (w.setCell ⟨b, 2, none⟩ (.int .i8 x)) b g l cap cur := by
  obtain ⟨⟨lr, hh⟩, hr, hle, hcm, hcs, hne⟩ := h
  exact ⟨⟨x, Lib.heap_setCell_same (i := 2) hh _⟩, by rw [Below.heap_setCell _ _ _ _ (by exact hne)]; exact hr, hle, hcm, hcs, hne⟩

/-- 'copy(b.buf[m:], p)' behind whatever made the room. -/
theorem BufAt.written {w : World} {b g l n cap : Nat} {cur : Array Value} {cs : List Value} (h : BufAt w b g (l + n) cap cur) (hn : cs.length = n) :
    BufAt (w.setRow g (cur.toList.take l ++ (cs ++ cur.toList.drop (l + n))).toArray) b g (l + n) cap (cur.toList.take l ++ (cs ++ cur.toList.drop (l + n))).toArray := by
  obtain ⟨⟨lr, hh⟩, hr, hle, hcm, hcs, hne⟩ := h
  refine ⟨⟨lr, ?_⟩, ?_, hle, hcm, ?_, hne⟩
  · simp only [World.setRow, Array.getElem?_modify]
    rw [if_neg hne]; exact hh
  · simp only [World.setRow, Array.getElem?_modify]
    simp [hr]
  · simp; omega

set_option maxHeartbeats 1600000 in
set_option maxRecDepth 100000 in
theorem write_at (b g l cap n : Nat) (cur : Array Value) (cs : List Value) (a : Addr) (c : Nat) (w : World) (hB : BufAt w b g l cap cur) (hl : 0 < l) (hlen : cs.length = n) (hn0 : 0 < n) (hab : a.block ≠ b) (hag : a.block ≠ g)
    (hsrc : ∀ j v, cs[j]? = some v → w.cell? (a.add j) = some v) (h1c : ∀ v ∈ cs, v.oneCell' = true) (h1 : ∀ v ∈ cur.toList.take l, v.oneCell' = true) (hlim : l + n ≤ 140737488355328) :
    Calls Tryd.prog 48 #[.pointer (some ⟨b, 0, none⟩), .slice (some a) n c] w (WroteAt b g l n cur cs w) := by
  have hinfo : (Tryd.prog.info? 5).map (·.size) = some 1 := by
    obtain ⟨i0, hi, -, hz1, -⟩ := info_parts info5
    rw [hi]; simp [hz1]
  have hB' := hB.setLast 0
  obtain ⟨⟨lr, hbk⟩, hg, hlc, hcm, hcs, hgb⟩ := hB
  have hag2 : a.block < w.heap.size := World.block_lt_of_cell? w (a.add 0) (hsrc 0 (cs[0]'(by omega)) (by simp)) |> fun h => by simpa [Lib.block_add] using h
  have c2 : w.cell? ⟨b, 2, none⟩ = some (.int .i8 lr) := by rw [Lib.cell_of_heap hbk]; rfl
  have f2 : w.frozen? ⟨b, 2, none⟩ = false := Lib.frozen_of_heap hbk 2
  obtain ⟨⟨lr', hbk1⟩, hg1, -, -, -, -⟩ := id hB'
  have k0 : Keep (fun k => k = b ∨ k = g) w (w.setCell ⟨b, 2, none⟩ (.int .i8 0)) := (Keep.refl _ w).setCell (p := ⟨b, 2, none⟩) (.inl (.inl rfl)) _
  have d0 : (w.setCell ⟨b, 2, none⟩ (.int .i8 0)).cell? ⟨b, 0, none⟩ = some (.slice (some ⟨g, 0, none⟩) l cap) := by rw [Lib.cell_of_heap hbk1]; rfl
  have e0 : (w.setCell ⟨b, 2, none⟩ (.int .i8 0)).frozen? ⟨b, 0, none⟩ = false := Lib.frozen_of_heap hbk1 0
  have HC := Lib.hid hcs
  have HLEN := Lib.hid hlen
  clear hcs hlen hbk hg
  by_cases hroom : n ≤ cap - l
  · go_enter Tryd.func48, Tryd.ntmps48
    go_wp2_with (go_at_call 49; refine (Tryd.Buffer_tryGrow_room b _ l cap n _ d0 e0 hlc hcm hroom).mono ?_)
    rintro e W1 ⟨rfl, hW1⟩
    have hB1 : BufAt W1 b g (l + n) cap cur := by
      rw [hW1]
      exact ⟨⟨lr', Lib.heap_setCell_same (i := 0) hbk1 _⟩, by rw [Below.heap_setCell _ _ _ _ (by exact hgb)]; exact hg1, by omega, hcm, HC.out, hgb⟩
    have k1 : Keep (fun k => k = b ∨ k = g) w W1 := by rw [hW1]; exact k0.setCell (p := ⟨b, 0, none⟩) (.inl (.inl rfl)) _
    clear hW1 hbk1 hg1 d0 e0 c2 f2 k0 hB'
    obtain ⟨⟨lr2, hbk2⟩, hg2, -, -, -, -⟩ := id hB1
    have d0 : W1.cell? ⟨b, 0, none⟩ = some (.slice (some ⟨g, 0, none⟩) (l + n) cap) := by rw [Lib.cell_of_heap hbk2]; rfl
    have hne : ¬ cap = l := by omega
    have hsrc1 : ∀ j v, cs[j]? = some v → W1.cell? (a.add j) = some v := fun j v hj => (k1.cell (by rw [Lib.block_add]; exact hag2) (by rw [Lib.block_add]; rintro (h | h) <;> contradiction)).trans (hsrc j v hj)
    have hcp := run_copy_row (P := Tryd.prog) W1 22 22 3 5 g l n (cap - l) a n c cur 5 cs Tryd.underlying22 hinfo hg2 (by rw [HLEN.out]; exact (Nat.min_self n).symm) hsrc1 (by rw [HLEN.out, HC.out]; omega) h1c
    rw [HLEN.out] at hcp
    clear hbk2 hg2
    have hcm' := hcm
    unfold maxLen at hcm'
    go_wp2
    go_ret2
    exact ⟨rfl, g, cap, _, hB1.written HLEN.out, take_written HLEN.out (by rw [HC.out]; omega), .inl rfl, k1.setRow (.inl (.inr rfl)) _⟩
  · go_enter Tryd.func48, Tryd.ntmps48
    go_wp2_with (go_at_call 49; refine (Tryd.Buffer_tryGrow_none b _ l cap n _ d0 hlc hcm (by omega)).mono ?_)
    rintro e W1 ⟨rfl, rfl⟩
    go_wp2_with (go_at_call 50; refine (grow_row b g l cap n cur _ ?_ hl hn0 (by omega) hlim h1).mono ?_)
    · exact hB'
    rintro e W1 ⟨rfl, cap', cur', hB1, htk1, k1⟩
    have hs0 : (w.setCell ⟨b, 2, none⟩ (.int .i8 0)).heap.size = w.heap.size := by simp [World.setCell]
    rw [hs0] at hB1
    have k2 : Keep (fun k => k = b ∨ k = g) w W1 := k0.trans (k1.weaken (fun q _ h => .inl h))
    clear hbk1 hg1 d0 e0 c2 f2 k0 hB' k1
    obtain ⟨⟨lr2, hbk2⟩, hg2, hlc1, hcm1, hcs1, -⟩ := id hB1
    have HT := Lib.hid htk1
    have HC1 := Lib.hid hcs1
    clear htk1 hcs1
    have d0 : W1.cell? ⟨b, 0, none⟩ = some (.slice (some ⟨w.heap.size, 0, none⟩) (l + n) cap') := by rw [Lib.cell_of_heap hbk2]; rfl
    have hne : ¬ cap' = l := by omega
    have hsrc1 : ∀ j v, cs[j]? = some v → W1.cell? (a.add j) = some v := fun j v hj => (k2.cell (by rw [Lib.block_add]; exact hag2) (by rw [Lib.block_add]; rintro (h | h) <;> contradiction)).trans (hsrc j v hj)
    have hcp := run_copy_row (P := Tryd.prog) W1 22 22 3 5 w.heap.size l n (cap' - l) a n c cur' 5 cs Tryd.underlying22 hinfo hg2 (by rw [HLEN.out]; exact (Nat.min_self n).symm) hsrc1 (by rw [HLEN.out, HC1.out]; omega) h1c
    rw [HLEN.out] at hcp
    clear hbk2 hg2
    have hcm' := hcm1
    unfold maxLen at hcm'
    go_wp2
    go_ret2
    exact ⟨rfl, _, cap', _, hB1.written HLEN.out, (take_written HLEN.out (by rw [HC1.out]; omega)).trans (by rw [HT.out]), .inr (Nat.le_refl _), k2.setRow (.inr (Nat.le_refl _)) _⟩

/-- What a further Write leaves. -/
def Wrote (b g : Nat) (bs ys : List Int) (w : World) (e : Ending) (w' : World) : Prop :=
  e = .returned (.tuple #[.int .i64 ys.length, .nilIface]) ∧ ∃ g', Buf w' b g' (bs ++ ys) ∧ (g' = g ∨ w.heap.size ≤ g') ∧ Keep (fun k => k = b ∨ k = g) w w'

theorem write_buf (b g : Nat) (bs ys : List Int) (a : Addr) (n c : Nat) (w : World) (h : Buf w b g bs) (hl : 0 < bs.length) (hn : ys.length = n) (hn0 : 0 < n) (hab : a.block ≠ b) (hag : a.block ≠ g)
    (hsrc : Reads w a ys) (hlim : bs.length + n ≤ 140737488355328) :
    Calls Tryd.prog 48 #[.pointer (some ⟨b, 0, none⟩), .slice (some a) n c] w (Wrote b g bs ys w) := by
  obtain ⟨cap, cur, hB, htk⟩ := h
  refine (write_at b g bs.length cap n cur (u8s ys) a c w hB hl (by rw [u8s_length, hn]) hn0 hab hag hsrc.get (u8s_one ys) (by rw [htk]; exact u8s_one bs) hlim).mono ?_
  rintro e w' ⟨rfl, g', cap', cur', hB', htk', hg', hk⟩
  subst hn
  exact ⟨rfl, g', ⟨cap', cur', by rw [List.length_append]; exact hB', by rw [List.length_append, htk', htk, u8s_append]⟩, hg', hk⟩

/-- What the first Write leaves. -/
def WroteFirst (b : Nat) (ys : List Int) (w : World) (e : Ending) (w' : World) : Prop :=
  e = .returned (.tuple #[.int .i64 ys.length, .nilIface]) ∧ ∃ g', Buf w' b g' ys ∧ w.heap.size ≤ g' ∧ Keep (· = b) w w'

set_option maxHeartbeats 1600000 in
set_option maxRecDepth 100000 in
theorem write_first_at (b n : Nat) (lr : Int) (cs : List Value) (a : Addr) (c : Nat) (w : World) (hbk : w.heap[b]? = some (.cells #[.slice none 0 0, .int .i64 0, .int .i8 lr] 45 (0, 0))) (hlen : cs.length = n) (hn0 : 0 < n) (h64 : n ≤ 64) (hab : a.block ≠ b)
    (hsrc : ∀ j v, cs[j]? = some v → w.cell? (a.add j) = some v) (h1c : ∀ v ∈ cs, v.oneCell' = true) :
    Calls Tryd.prog 48 #[.pointer (some ⟨b, 0, none⟩), .slice (some a) n c] w fun e w' =>
      e = .returned (.tuple #[.int .i64 n, .nilIface]) ∧ ∃ g' cap' cur', BufAt w' b g' n cap' cur' ∧ cur'.toList.take n = cs ∧ w.heap.size ≤ g' ∧ Keep (· = b) w w' := by
  have hinfo : (Tryd.prog.info? 5).map (·.size) = some 1 := by
    obtain ⟨i0, hi, -, hz1, -⟩ := info_parts info5
    rw [hi]; simp [hz1]
  have hag2 : a.block < w.heap.size := by
    have h := World.block_lt_of_cell? w (a.add 0) (hsrc 0 (cs[0]'(by omega)) (by simp))
    rwa [Lib.block_add] at h
  have c2 : w.cell? ⟨b, 2, none⟩ = some (.int .i8 lr) := by rw [Lib.cell_of_heap hbk]; rfl
  have f2 : w.frozen? ⟨b, 2, none⟩ = false := Lib.frozen_of_heap hbk 2
  have hbk1 : (w.setCell ⟨b, 2, none⟩ (.int .i8 0)).heap[b]? = some (.cells #[.slice none 0 0, .int .i64 0, .int .i8 0] 45 (0, 0)) := Lib.heap_setCell_same (i := 2) hbk _
  have k0 : Keep (· = b) w (w.setCell ⟨b, 2, none⟩ (.int .i8 0)) := (Keep.refl (· = b) w).setCell (p := ⟨b, 2, none⟩) (.inl rfl) _
  have d0 : (w.setCell ⟨b, 2, none⟩ (.int .i8 0)).cell? ⟨b, 0, none⟩ = some (.slice none 0 0) := by rw [Lib.cell_of_heap hbk1]; rfl
  have HLEN := Lib.hid hlen
  clear hlen hbk
  go_enter Tryd.func48, Tryd.ntmps48
  go_wp2_with (go_at_call 49; refine (Tryd.Buffer_tryGrow_none b _ 0 0 n _ d0 (Nat.le_refl _) (Nat.zero_le _) (by omega)).mono ?_)
  rintro e W1 ⟨rfl, rfl⟩
  go_wp2_with (go_at_call 50; refine (grow_nil b n 0 _ hbk1 hn0 h64).mono ?_)
  rintro e W1 ⟨rfl, g, cur', hB1, hg, k1⟩
  have hs0 : (w.setCell ⟨b, 2, none⟩ (.int .i8 0)).heap.size = w.heap.size := by simp [World.setCell]
  rw [hs0] at hg
  have k2 : Keep (· = b) w W1 := k0.trans k1
  clear hbk1 d0 c2 f2 k0 k1 hs0
  obtain ⟨⟨lr2, hbk2⟩, hg2, hlc1, hcm1, hcs1, -⟩ := id hB1
  have HC1 := Lib.hid hcs1
  clear hcs1
  have d0 : W1.cell? ⟨b, 0, none⟩ = some (.slice (some ⟨g, 0, none⟩) n 64) := by rw [Lib.cell_of_heap hbk2]; rfl
  have hsrc1 : ∀ j v, cs[j]? = some v → W1.cell? (a.add j) = some v := fun j v hj => (k2.cell (by rw [Lib.block_add]; exact hag2) (by rw [Lib.block_add]; exact hab)).trans (hsrc j v hj)
  have hcp := run_copy_row (P := Tryd.prog) W1 22 22 3 5 g 0 n 64 a n c cur' 5 cs Tryd.underlying22 hinfo hg2 (by rw [HLEN.out]; exact (Nat.min_self n).symm) hsrc1 (by rw [HLEN.out, HC1.out]; omega) h1c
  rw [HLEN.out] at hcp
  have hB2 : BufAt W1 b g (0 + n) 64 cur' := by rw [Nat.zero_add]; exact hB1
  have hW := hB2.written HLEN.out
  have hT := take_written (cur := cur') (l := 0) HLEN.out (by rw [HC1.out]; omega)
  have HW := Lib.hid hW
  have HT := Lib.hid hT
  clear hbk2 hg2 hW hT hB2 hB1
  go_wp2
  go_ret2
  refine ⟨rfl, g, 64, _, by simpa using HW.out, by simpa using HT.out, hg, ?_⟩
  first | exact k2.setRow (.inr hg) _ | trace_state

theorem write_first (b : Nat) (lr : Int) (ys : List Int) (a : Addr) (n c : Nat) (w : World) (hbk : w.heap[b]? = some (.cells #[.slice none 0 0, .int .i64 0, .int .i8 lr] 45 (0, 0))) (hn : ys.length = n) (hn0 : 0 < n) (h64 : n ≤ 64) (hab : a.block ≠ b)
    (hsrc : Reads w a ys) : Calls Tryd.prog 48 #[.pointer (some ⟨b, 0, none⟩), .slice (some a) n c] w (WroteFirst b ys w) := by
  refine (write_first_at b n lr (u8s ys) a c w hbk (by rw [u8s_length, hn]) hn0 h64 hab hsrc.get (u8s_one ys)).mono ?_
  rintro e w' ⟨rfl, g', cap', cur', hB', htk', hg', hk⟩
  subst hn
  exact ⟨rfl, g', ⟨cap', cur', hB', htk'⟩, hg', hk⟩

#print axioms write_buf
#print axioms write_first
end Go.Proofs.YtfefgopomhhpfaaDoor
