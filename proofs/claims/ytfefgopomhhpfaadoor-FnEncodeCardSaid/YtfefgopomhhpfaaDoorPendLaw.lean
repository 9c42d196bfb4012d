/- append of what is pending, as a law for the walk. -/
import Derived.Test.YtfefgopomhhpfaaDoorPend
import Derived.Test.YtfefgopomhhpfaaDoorPut
import Derived.Deep.AppendLies
namespace Go.Proofs.YtfefgopomhhpfaaDoor
open Go.RowKit

/-- The head's two letters, and what is appended to them first: the literal has no room. -/
theorem run_append_first {w0 w : World} (ty : TypeId) {g k n c : Nat} {fr : Nat × Nat} {ys : List Int} (hrow : w.heap[g]? = some (.cells #[.int .u8 66, .int .u8 77] 5 fr)) (hv : w.ownsRow w0.heap.size 5 1 (.slice (some ⟨k, 0, none⟩) n c) n (u8s ys)) (hn : ys.length = n) (h0 : 0 < n) (h1 : n ≤ 1000) (hb : Below w0.heap.size w0 w) {ps : List (Value × List Int)} (hps : ∀ p ∈ ps, ∃ k c, p.1 = .slice (some ⟨k, 0, none⟩) p.2.length c ∧ w.ownsRow w0.heap.size 5 1 p.1 p.2.length (u8s p.2)) :
    ∃ g' cap' w', (Builtin.append_ #[22, 22] ty #[.slice (some ⟨g, 0, none⟩) 2 2, .slice (some ⟨k, 0, none⟩) n c]).run Tryd.prog w = .ok (.slice (some ⟨g', 0, none⟩) (2 + n) cap') w' ∧ Pend w0 w' g' cap' ([66, 77] ++ ys) ps := by
  obtain ⟨i0, hi, hz0, hz1, hz2⟩ := info_parts info5
  have hu : (u8s ys).length = ys.length := by simp [u8s]
  have hr := run_append_grow (P := Tryd.prog) w 22 ty 5 i0 (.int .u8 0) Tryd.underlying22 hi hz0 ⟨g, 0, none⟩ 2 2 [.int .u8 66, .int .u8 77] (by rw [hz1]; rfl) (World.news_of_block hrow) ⟨k, 0, none⟩ n c (u8s ys) (by rw [hz1]; omega) (hv.cells (g := k) rfl) (by omega) (by omega)
    (by rw [hz2]; exact growslice_fits (by omega) (by omega))
  have hge := grownCap_ge w (2 + n) 2 5
  have hcm : grownCap w (2 + n) 2 5 ≤ maxLen := grownCap_le_maxLen w (2 + n) 2 5 (by unfold maxLen; omega)
  have hz := hb.size
  have hl : (u8s ([66, 77] ++ ys)).length = 2 + n := by rw [u8s_append]; simp [u8s]; omega
  refine ⟨_, _, _, hr, ⟨⟨by rw [hl]; simp; omega, .inr ⟨w.heap.size, grownCap w (2 + n) 2 5, _, by simp [← hn, Nat.add_comm], hz, heap_alloc_new w.drew _, by simp; omega, hcm, ?_, ?_⟩⟩, ?_, hb.drew.alloc (by simp; omega) _⟩⟩
  · have hzc : (Value.int .u8 0).cells.size = 1 := rfl
    simp [size_zeroCells, hu, hn, hzc]; omega
  · rw [u8s_append]
    simp only [Array.toList_append, List.append_assoc]
    rw [← List.append_assoc, List.take_append_of_le_length (by simp [hu]), List.take_of_length_le (by simp [hu])]
    rfl
  · intro p hp
    obtain ⟨k, c, h3, h5⟩ := hps p hp
    have h6 := (h5.lt k (by rw [h3]; rfl)).2
    exact ⟨k, c, h3, by omega, h5.alloc _⟩
theorem wpList_append_first {w0 w : World} {ops : Array Oper} {rest : List Oper} {o' : Oper} {a : Act} {Q : Exit → Act → World → Prop} (hgd : o'.guard = none) (s x : Operand) (ho : o'.op = .call { callee := .builtin .append, args := #[s, x], argTypes := #[22, 22] })
    {g k n c : Nat} {fr : Nat × Nat} {ys : List Int} (hrow : w.heap[g]? = some (.cells #[.int .u8 66, .int .u8 77] 5 fr)) (hv : w.ownsRow w0.heap.size 5 1 (.slice (some ⟨k, 0, none⟩) n c) n (u8s ys)) (hs : a.eval s = .slice (some ⟨g, 0, none⟩) 2 2) (hx : a.eval x = .slice (some ⟨k, 0, none⟩) n c) (L : Nat) (hn : ys.length = n) (h0 : 0 < n) (h1 : n ≤ 1000) (hL : 2 + n = L) (hb : Below w0.heap.size w0 w) {ps : List (Value × List Int)} (hps : ∀ p ∈ ps, ∃ k c, p.1 = .slice (some ⟨k, 0, none⟩) p.2.length c ∧ w.ownsRow w0.heap.size 5 1 p.1 p.2.length (u8s p.2))
    (h : ∀ g' cap' w', Pend w0 w' g' cap' ([66, 77] ++ ys) ps → wpList Tryd.prog ops Q rest (a.put o'.dst (.slice (some ⟨g', 0, none⟩) L cap')) w') : wpList Tryd.prog ops Q (o' :: rest) a w := by
  obtain ⟨g', cap', w', hr, hP⟩ := run_append_first (w0 := w0) o'.type hrow hv hn h0 h1 hb hps
  subst hL
  exact Lib.wpList_append_run w hgd s x 22 22 ho _ _ hs hx _ _ hr (h _ _ _ hP)
theorem Pend.drew {w0 w : World} {g cap : Nat} {xs : List Int} {ps : List (Value × List Int)} (h : Pend w0 w g cap xs ps) : Pend w0 w.drew g cap xs ps :=
  h.later ((Below.refl _ w).drew)
/-- Another world that stands at the beginning. -/
theorem Pend.calls {w0 w w' : World} {g cap : Nat} {xs : List Int} {ps : List (Value × List Int)} (h : Pend w0 w g cap xs ps) {n : Nat} {v : Int} {e : Ending} (hg : Gives w n (le n v) e w') :
    ∃ k c, e = .returned (.slice (some ⟨k, 0, none⟩) n c) ∧ Pend w0 w' g cap xs ((.slice (some ⟨k, 0, none⟩) n c, le n v) :: ps) := by
  obtain ⟨k, c, rfl, h1, h2⟩ := hg
  exact ⟨k, c, rfl, h.put (le_length n v) h1 h2⟩

theorem run_append_pend {w0 w : World} (ty : TypeId) {g cap : Nat} {xs : List Int} {v : Value} {ys : List Int} {qs : List (Value × List Int)} (hP : Pend w0 w g cap xs qs) (he : (v, ys) ∈ qs) (n L : Nat) (hn : xs.length = n) (hL : xs.length + ys.length = L) (hm : 0 < ys.length) (hlim : L ≤ 100000000) :
    ∃ g' cap' w', (Builtin.append_ #[22, 22] ty #[.slice (some ⟨g, 0, none⟩) n cap, v]).run Tryd.prog w = .ok (.slice (some ⟨g', 0, none⟩) L cap') w' ∧ Pend w0 w' g' cap' (xs ++ ys) qs := by
  obtain ⟨i0, hi, hz0, hz1, hz2⟩ := info_parts info5
  obtain ⟨k, c, rfl, hnews⟩ := hP.take he
  subst hn
  subst hL
  have hu : (u8s ys).length = ys.length := by simp [u8s]
  obtain ⟨g', cap', w', hr, h1, h2, h3, h4⟩ := run_append_lies (P := Tryd.prog) w 22 ty w0.heap.size 5 i0 (.int .u8 0) 1 1 Tryd.underlying22 hi hz0 hz1 hz2 rfl (by omega) _ xs.length (u8s xs) hP.own ⟨k, 0, none⟩ ys.length c (u8s ys) (by omega) hnews (u8s_one ys) hm (by unfold maxLen; omega) (by omega) hP.below.size w.heap.size rfl
  exact ⟨g', cap', w', hr, hP.app rfl rfl h1 h2 h3 rfl⟩
theorem wp_append_pend {w0 w : World} {o' : Oper} {a : Act} {K : Act → World → Prop} {Q : Exit → Act → World → Prop} (s x : Operand) (ho : o'.op = .call { callee := .builtin .append, args := #[s, x], argTypes := #[22, 22] })
    {g cap : Nat} {xs : List Int} {v : Value} {ys : List Int} {qs : List (Value × List Int)} (hP : Pend w0 w g cap xs qs) (n L : Nat) (hs : a.eval s = .slice (some ⟨g, 0, none⟩) n cap) (hx : a.eval x = v) (he : (v, ys) ∈ qs) (hn : xs.length = n) (hL : xs.length + ys.length = L) (hm : 0 < ys.length) (hlim : L ≤ 100000000)
    (h : ∀ g' cap' w', Pend w0 w' g' cap' (xs ++ ys) qs → K (a.put o'.dst (.slice (some ⟨g', 0, none⟩) L cap')) w') : o'.wp Tryd.prog a w K Q := by
  obtain ⟨g', cap', w', hr, h1⟩ := run_append_pend o'.type hP he n L hn hL hm hlim
  unfold Oper.wp execOp
  simp only [ho, resolve, invoke, builtin, Sem.run_bind, Sem.run_pure, Result.andThen_ok, List.map_toArray, List.map_cons, List.map_nil, hs, hx, hr]
  exact h _ _ _ h1
theorem wpList_append_pend {w0 w : World} {ops : Array Oper} {rest : List Oper} {o' : Oper} {a : Act} {Q : Exit → Act → World → Prop} (hgd : o'.guard = none) (s x : Operand) (ho : o'.op = .call { callee := .builtin .append, args := #[s, x], argTypes := #[22, 22] })
    {g cap : Nat} {xs : List Int} {v : Value} {ys : List Int} {qs : List (Value × List Int)} (hP : Pend w0 w g cap xs qs) (n L : Nat) (hs : a.eval s = .slice (some ⟨g, 0, none⟩) n cap) (hx : a.eval x = v) (he : (v, ys) ∈ qs) (hn : xs.length = n) (hL : xs.length + ys.length = L) (hm : 0 < ys.length) (hlim : L ≤ 100000000)
    (h : ∀ g' cap' w', Pend w0 w' g' cap' (xs ++ ys) qs → wpList Tryd.prog ops Q rest (a.put o'.dst (.slice (some ⟨g', 0, none⟩) L cap')) w') : wpList Tryd.prog ops Q (o' :: rest) a w :=
  wpList_plain hgd fun _ hK => wp_append_pend s x ho hP n L hs hx he hn hL hm hlim fun g' cap' w' h1 => hK _ _ (h g' cap' w' h1)
theorem step_append_pend {w0 w : World} {ops : Array Oper} {o' : Oper} {a : Act} {K : Act → World → Prop} {Q : Exit → Act → World → Prop} {E : Prop} (hgd : o'.guard = none) (s x : Operand) (ho : o'.op = .call { callee := .builtin .append, args := #[s, x], argTypes := #[22, 22] })
    {g cap : Nat} {xs : List Int} {v : Value} {ys : List Int} {qs : List (Value × List Int)} (hP : Pend w0 w g cap xs qs) (n L : Nat) (hs : a.eval s = .slice (some ⟨g, 0, none⟩) n cap) (hx : a.eval x = v) (he : (v, ys) ∈ qs) (hn : xs.length = n) (hL : xs.length + ys.length = L) (hm : 0 < ys.length) (hlim : L ≤ 100000000)
    (h : ∀ g' cap' w', Pend w0 w' g' cap' (xs ++ ys) qs → K (a.put o'.dst (.slice (some ⟨g', 0, none⟩) L cap')) w') :
    if Region.wanted o' (yielded ops a.tmps) = true then Oper.wp Tryd.prog o' a w K Q else E := by
  have hw : Region.wanted o' (yielded ops a.tmps) = true := by simp [Region.wanted, hgd]
  rw [if_pos hw]
  exact wp_append_pend s x ho hP n L hs hx he hn hL hm hlim h
/-- Noughts. -/
theorem wpList_append_noughts {w0 w : World} {ops : Array Oper} {rest : List Oper} {o' : Oper} {a : Act} {Q : Exit → Act → World → Prop} (hgd : o'.guard = none) (s x : Operand) (ho : o'.op = .call { callee := .builtin .append, args := #[s, x], argTypes := #[22, 3] })
    {g cap : Nat} {xs : List Int} {qs : List (Value × List Int)} (hP : Pend w0 w g cap xs qs) (n m L : Nat) (hs : a.eval s = .slice (some ⟨g, 0, none⟩) n cap) (hx : a.eval x = .int .i64 m) (hn : xs.length = n) (hL : n + m = L) (hm : 0 < m) (hlim : L ≤ 100000000)
    (h : ∀ g' cap' w', Pend w0 w' g' cap' (xs ++ List.replicate m 0) qs → wpList Tryd.prog ops Q rest (a.put o'.dst (.slice (some ⟨g', 0, none⟩) L cap')) w') : wpList Tryd.prog ops Q (o' :: rest) a w := by
  obtain ⟨i0, hi, hz0, hz1, hz2⟩ := info_parts info5
  subst hn
  subst hL
  obtain ⟨g', cap', w', hr, h1, h2, h3⟩ := run_append_zeros (P := Tryd.prog) w w0.heap.size 22 3 o'.type 5 i0 .i64 .i64 Tryd.underlying22 Tryd.underlying3 hi hz0 hz1 hz2 g xs.length cap (u8s xs) hP.own m hm (by omega) (by omega) hP.below.size
  exact Lib.wpList_append_run w hgd s x 22 3 ho _ _ hs hx _ _ hr (h _ _ _ (hP.zeros rfl h1 h2 h3))
/-- Nothing. -/
theorem wpList_append_none {w0 w : World} {ops : Array Oper} {rest : List Oper} {o' : Oper} {a : Act} {Q : Exit → Act → World → Prop} (hgd : o'.guard = none) (s x : Operand) (ho : o'.op = .call { callee := .builtin .append, args := #[s, x], argTypes := #[22, 22] })
    {g cap : Nat} {xs : List Int} {qs : List (Value × List Int)} (hP : Pend w0 w g cap xs qs) (n c : Nat) (ad : Addr) (hs : a.eval s = .slice (some ⟨g, 0, none⟩) n cap) (hx : a.eval x = .slice (some ad) 0 c) (hn : xs.length = n)
    (h : wpList Tryd.prog ops Q rest (a.put o'.dst (.slice (some ⟨g, 0, none⟩) n cap)) w) : wpList Tryd.prog ops Q (o' :: rest) a w := by
  obtain ⟨i0, hi, hz0, hz1, hz2⟩ := info_parts info5
  have hc : n ≤ cap := by
    rcases hP.own.2 with ⟨h1, _⟩ | ⟨g', cap', cur, h1, _, _, h2, _⟩
    · injection h1 with h3; cases h3
    · injection h1 with h3 h4 h5
      omega
  have hr : (Builtin.append_ #[22, 22] o'.type #[.slice (some ⟨g, 0, none⟩) n cap, .slice (some ad) 0 c]).run Tryd.prog w = .ok (.slice (some ⟨g, 0, none⟩) n cap) w := by
    simp [Builtin.append_, run_underlying Tryd.underlying22, sizeOf, typeInfo, hi, Builtin.lenOf, hc, Builtin.firstCells, loadCells, loadCellsFrom, storeCells]
  exact Lib.wpList_append_run w hgd s x 22 22 ho _ _ hs hx _ _ hr h
end Go.Proofs.YtfefgopomhhpfaaDoor
