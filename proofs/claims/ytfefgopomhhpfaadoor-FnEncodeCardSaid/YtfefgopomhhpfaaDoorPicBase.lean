/- laws.pictureOf: words that its walks share. -/
import Derived.Test.YtfefgopomhhpfaaDoorSpecBase
namespace Go.Proofs.YtfefgopomhhpfaaDoor
open Go.RowKit

/-- A byte of a picture's pixels. -/
def pixv (D : List Int) (hi : Bool) (i : Nat) : Int :=
  if hi = true ∧ i % 4 = 3 then 255 else if D.length = 0 then (i : Int) * 7 % 256 else (D.getD (i % D.length) 0 + ((i / D.length : Nat) : Int) % 256) % 256
/-- The first n of them. -/
def pixs (D : List Int) (hi : Bool) (n : Nat) : List Int := rowOf (pixv D hi) n
theorem pixs_succ (D : List Int) (hi : Bool) (n : Nat) : pixs D hi (n + 1) = pixs D hi n ++ [pixv D hi n] := by simp [pixs, rowOf, List.range_succ]
theorem pixs_length (D : List Int) (hi : Bool) (n : Nat) : (pixs D hi n).length = n := rowOf_length _ _
theorem pixv_hi {D : List Int} {hi : Bool} {i : Nat} (h : hi = true) (h' : i % 4 = 3) : pixv D hi i = 255 := if_pos ⟨h, h'⟩
theorem pixv_nil {D : List Int} {hi : Bool} {i : Nat} (h : ¬ (hi = true ∧ i % 4 = 3)) (h' : D.length = 0) : pixv D hi i = (i : Int) * 7 % 256 := by rw [pixv, if_neg h, if_pos h']
theorem pixv_dat {D : List Int} {hi : Bool} {i : Nat} (h : ¬ (hi = true ∧ i % 4 = 3)) (h' : 0 < D.length) : pixv D hi i = (D.getD (i % D.length) 0 + ((i / D.length : Nat) : Int) % 256) % 256 := by rw [pixv, if_neg h, if_neg (by omega)]

theorem pix_step {w1 : World} {B b k : Nat} {v' u : Value} {D : List Int} {hi : Bool} {y : Int} (h : w1.ownsRow B 5 1 v' (k + 1) (u8s (pixs D hi k) ++ [.int .u8 y])) (hy : y = pixv D hi k) (hb : b < B) :
    (w1.setCell ⟨b, 3, none⟩ u).ownsRow B 5 1 v' (k + 1) (u8s (pixs D hi (k + 1))) := by
  subst hy
  have e : u8s (pixs D hi (k + 1)) = u8s (pixs D hi k) ++ [.int .u8 (pixv D hi k)] := by rw [pixs_succ, u8s_append]; rfl
  rw [e]
  exact ownsRow_setCell_below h (a := ⟨b, 3, none⟩) hb u

/-- The five blocks that pictureOf lays first. -/
structure Five (w W0 : World) (B : Nat) (o0 o1 o3 o4 : Obj) : Prop where
  h0 : W0.heap[B]? = some o0
  h1 : W0.heap[B + 1]? = some o1
  h3 : W0.heap[B + 1 + 1 + 1]? = some o3
  h4 : W0.heap[B + 1 + 1 + 1 + 1]? = some o4
  below : Below B w W0
  size : B + 5 ≤ W0.heap.size ∧ W0.heap.size ≤ B + 5
  hB : w.heap.size = B
theorem five_made (w : World) (o0 o1 o2 o3 o4 : Obj) : Five w (((((w.alloc o0).alloc o1).alloc o2).alloc o3).alloc o4) w.heap.size o0 o1 o3 o4 := by
  have e0 := heap_alloc_new w o0
  have e1 := heap_alloc_new (w.alloc o0) o1
  have e3 := heap_alloc_new (((w.alloc o0).alloc o1).alloc o2) o3
  have e4 := heap_alloc_new ((((w.alloc o0).alloc o1).alloc o2).alloc o3) o4
  simp only [World.alloc, Array.size_push] at e0 e1 e3 e4
  refine ⟨?_, ?_, ?_, ?_, ((((((Below.refl _ w).alloc (Nat.le_refl _) _).alloc (by simp) _).alloc (by first | (simp; done) | (simp; omega)) _).alloc (by first | (simp; done) | (simp; omega)) _).alloc (by first | (simp; done) | (simp; omega)) _), by simp, rfl⟩
  · rw [Below.heap_alloc _ _ _ (by first | (simp; done) | (simp; omega)), Below.heap_alloc _ _ _ (by first | (simp; done) | (simp; omega)), Below.heap_alloc _ _ _ (by first | (simp; done) | (simp; omega)), Below.heap_alloc _ _ _ (by first | (simp; done) | (simp; omega))]
    exact heap_alloc_new w o0
  · rw [Below.heap_alloc _ _ _ (by first | (simp; done) | (simp; omega)), Below.heap_alloc _ _ _ (by first | (simp; done) | (simp; omega)), Below.heap_alloc _ _ _ (by first | (simp; done) | (simp; omega))]
    have := heap_alloc_new (w.alloc o0) o1
    simpa using this
  · rw [Below.heap_alloc _ _ _ (by first | (simp; done) | (simp; omega))]
    have := heap_alloc_new (((w.alloc o0).alloc o1).alloc o2) o3
    simpa using this
  · have := heap_alloc_new ((((w.alloc o0).alloc o1).alloc o2).alloc o3) o4
    simpa using this
/-- Rows f 0, .., f (n - 1), one behind the other. -/
def rowsUp (f : Nat → List Int) : Nat → List Int
  | 0 => []
  | n + 1 => rowsUp f n ++ f n
theorem rowsUp_length {f : Nat → List Int} {S : Nat} (h : ∀ y, (f y).length = S) : ∀ n, (rowsUp f n).length = S * n
  | 0 => rfl
  | n + 1 => by rw [rowsUp, List.length_append, h, rowsUp_length h n, Nat.mul_succ]
/-- A row of the picture: L bytes from k * L on, and noughts. -/
def lineOf (px : Nat → Int) (L S k : Nat) : List Int := rowOf (fun x => px (k * L + x)) L ++ List.replicate (S - L) 0
theorem lineOf_length {px : Nat → Int} {L S k : Nat} (h : L ≤ S) : (lineOf px L S k).length = S := by
  rw [lineOf, List.length_append, rowOf_length, List.length_replicate]
  omega

theorem step_append_run {P : Program} {ops : Array Oper} {o : Oper} {a : Act} {w : World} {K : Act → World → Prop} {Q : Exit → Act → World → Prop} {E : Prop} (hgd : o.guard = none) (s x : Operand) (t tn : TypeId)
    (ho : o.op = .call { callee := .builtin .append, args := #[s, x], argTypes := #[t, tn] }) (vs vx : Value) (hs : a.eval s = vs) (hx : a.eval x = vx)
    (v' : Value) (w' : World) (hr : (Builtin.append_ #[t, tn] o.type #[vs, vx]).run P w = .ok v' w') (h : K (a.put o.dst v') w') :
    if Region.wanted o (yielded ops a.tmps) = true then Oper.wp P o a w K Q else E := by
  have hw : Region.wanted o (yielded ops a.tmps) = true := by simp [Region.wanted, hgd]
  rw [if_pos hw]
  exact Lib.wp_append_run w s x t tn ho vs vx hs hx v' w' hr h

/-- Noughts, or none. -/
theorem run_append_zeros' (w : World) (base : Nat) (ty : TypeId) (g n cap : Nat) (xs : List Value) (hown : w.ownsRow base 5 1 (.slice (some ⟨g, 0, none⟩) n cap) n xs) (m : Nat) (hm2 : m ≤ 100000000) (hn : n ≤ 100000000) (hbase : base ≤ w.heap.size) :
    ∃ g' cap' w', (Builtin.append_ #[22, 3] ty #[.slice (some ⟨g, 0, none⟩) n cap, .int .i64 m]).run Tryd.prog w = .ok (.slice (some ⟨g', 0, none⟩) (n + m) cap') w' ∧
      w'.ownsRow base 5 1 (.slice (some ⟨g', 0, none⟩) (n + m) cap') (n + m) (xs ++ List.replicate m (.int .u8 0)) ∧ w.grownBy w' (some g) := by
  obtain ⟨i0, hi, hz0, hz1, hz2⟩ := info_parts info5
  by_cases h0 : m = 0
  · subst h0
    have hc : n ≤ cap := by
      rcases hown.2 with ⟨h1, _⟩ | ⟨g', cap', cur, h1, _, _, h2, _⟩
      · injection h1 with h3; cases h3
      · injection h1 with h3 h4 h5
        omega
    refine ⟨g, cap, w, ?_, by simpa using hown, ⟨rfl, rfl, rfl, Nat.le_refl _, fun _ _ _ => rfl⟩⟩
    have hw0 : IntKind.i64.wrap 0 = 0 := by decide
    simp [Builtin.append_, run_underlying Tryd.underlying22, run_underlying Tryd.underlying3, sizeOf, typeInfo, hi, hz2, hc, asInt, asIntOf, storeCells, hw0]
  · obtain ⟨g', cap', w', h1, h2, h3, _⟩ := run_append_zeros (P := Tryd.prog) w base 22 3 ty 5 i0 .i64 .i64 Tryd.underlying22 Tryd.underlying3 hi hz0 hz1 hz2 g n cap xs hown m (by omega) hm2 hn hbase
    exact ⟨g', cap', w', h1, h2, h3⟩
theorem row_news {w : World} {g cap N off L base : Nat} {px : Nat → Int} (h : w.ownsRow base 5 1 (.slice (some ⟨g, 0, none⟩) N cap) N (u8s (rowOf px N))) (hL : off + L ≤ N) :
    ∀ j u, (u8s (rowOf (fun x => px (off + x)) L))[j]? = some u → w.cell? ((⟨g, off, none⟩ : Addr).add j) = some u := by
  intro j u hj
  rw [u8s, List.getElem?_map, rowOf, List.getElem?_map, Option.map_eq_some_iff] at hj
  obtain ⟨x, hx, rfl⟩ := hj
  rw [Option.map_eq_some_iff] at hx
  obtain ⟨x', hx', rfl⟩ := hx
  obtain ⟨hlt, rfl⟩ := List.getElem?_eq_some_iff.1 hx'
  simp only [List.length_range] at hlt
  simp only [List.getElem_range]
  have h2 := h.cells (g := g) rfl (off + j) (.int .u8 (px (off + j))) (by rw [u8s, List.getElem?_map, rowOf, List.getElem?_map, List.getElem?_range (by omega)]; rfl)
  have e1 : (⟨g, 0, none⟩ : Addr).add (off + j) = ⟨g, off + j, none⟩ := by unfold Addr.add; split <;> simp_all
  have e2 : (⟨g, off, none⟩ : Addr).add j = ⟨g, off + j, none⟩ := by unfold Addr.add; split <;> simp_all
  rw [e1] at h2
  rw [e2]
  exact h2
/-- What a row owned stays under Keep. -/
theorem owns_keep {w w' : World} {base n q g cap e : Nat} {xs : List Value} (h : w.ownsRow base e 1 (.slice (some ⟨g, 0, none⟩) n cap) n xs) (k : Keep (· = q) w w') (hq : q ≠ g) : w'.ownsRow base e 1 (.slice (some ⟨g, 0, none⟩) n cap) n xs :=
  h.kept (row := some q) ⟨k.os, k.tape, k.output, k.size, fun j hj hne => k.block j hj (fun e => hne (by rw [e]))⟩ (by simp [Value.ownBlock]; omega)
/-- One more row and its noughts behind the rows. -/
theorem line_step {w : World} {B b i g cap S y W z p m : Nat} {px : Nat → Int} {v : Value} (h : w.ownsRow B 5 1 (.slice (some ⟨g, 0, none⟩) (S * y + W * z + m) cap) (S * y + W * z + m) (u8s (rowsUp (lineOf px (W * z) S) y) ++ u8s (rowOf (fun x => px (p * z + x)) (W * z)) ++ List.replicate m (.int .u8 0)))
    (hp : p = y * W) (hm : m = S - W * z) (hWS : W * z ≤ S) (hb : b < B) (hv : v = .slice (some ⟨g, 0, none⟩) (S * y + W * z + m) cap := by rfl) :
    (w.setCell ⟨b, i, none⟩ v).ownsRow B 5 1 v (S * (y + 1)) (u8s (rowsUp (lineOf px (W * z) S) (y + 1))) := by
  subst hv
  have e1 : S * y + W * z + m = S * (y + 1) := by
    rw [Nat.mul_succ]
    omega
  have e3 : p * z = y * (W * z) := by rw [hp, Nat.mul_assoc]
  have e2 : u8s (rowsUp (lineOf px (W * z) S) (y + 1)) = u8s (rowsUp (lineOf px (W * z) S) y) ++ u8s (rowOf (fun x => px (p * z + x)) (W * z)) ++ List.replicate m (.int .u8 0) := by
    rw [rowsUp, lineOf, u8s_append, u8s_append, List.append_assoc, e3, ← hm]
    congr 2
    simp [u8s]
  rw [e2]
  rw [e1] at h
  have h2 := ownsRow_setCell_below h (a := ⟨b, i, none⟩) hb (.slice (some ⟨g, 0, none⟩) (S * (y + 1)) cap)
  rw [e1]
  exact h2
end Go.Proofs.YtfefgopomhhpfaaDoor
