/- 'copy' into a row that is being filled. -/
import Derived.Test.YtfefgopomhhpfaaDoorFill
import Derived.Laws.CopyOwn
namespace Go.Proofs.YtfefgopomhhpfaaDoor
open Go.RowKit

theorem rowIs_written {w : World} {g T o n : Nat} {f F : Nat → Int} (h : w.rowIs g 5 T (part f F o)) (hfit : o + n ≤ T) :
    ∃ cur : Array Value, w.heap[g]? = some (.cells cur 5 (0, 0)) ∧ cur.size = T ∧
      ∀ w' : World, w' = w.setRow g (cur.toList.take o ++ (List.range n).map (fun j => Value.int .u8 (f (o + j))) ++ cur.toList.drop (o + n)).toArray → w'.rowIs g 5 T (part f F (o + n)) := by
  obtain ⟨cur, hb, hn, hc⟩ := h
  refine ⟨cur, hb, hn, ?_⟩
  rintro w' rfl
  have hl : (cur.toList.take o).length = o := by rw [List.length_take, Array.length_toList]; omega
  refine ⟨_, setRow_heap w g cur _ 5 _ hb, by simp; omega, fun i hi => ?_⟩
  rw [List.getElem?_toArray, List.append_assoc]
  by_cases h1 : i < o
  · rw [List.getElem?_append_left (by omega), List.getElem?_take, if_pos h1, Array.getElem?_toList, hc i hi]
    simp only [part]
    rw [if_pos h1, if_pos (by omega)]
  · rw [List.getElem?_append_right (by omega), hl]
    by_cases h2 : i < o + n
    · rw [List.getElem?_append_left (by simp; omega), List.getElem?_map, List.getElem?_range (by omega)]
      simp only [part, Option.map_some]
      rw [if_pos h2, show o + (i - o) = i by omega]
    · rw [List.getElem?_append_right (by simp; omega), List.length_map, List.length_range, List.getElem?_drop, show o + n + (i - o - n) = i by omega, Array.getElem?_toList, hc i hi]
      simp only [part]
      rw [if_neg h1, if_neg h2]

theorem run_copy_part (w : World) (ty : TypeId) (g T o dLen dCap : Nat) (a : Addr) (sLen sCap n : Nat) (f F : Nat → Int) (h : w.rowIs g 5 T (part f F o)) (hn : n = Nat.min sLen dLen)
    (hsrc : ∀ j, j < n → w.cell? (a.add j) = some (.int .u8 (f (o + j)))) (hfit : o + n ≤ T) :
    ∃ w', (Builtin.copy_ #[22, 22] ty #[.slice (some ⟨g, o, none⟩) dLen dCap, .slice (some a) sLen sCap]).run Tryd.prog w = .ok (goInt n) w' ∧ w'.rowIs g 5 T (part f F (o + n)) ∧ Keep (· = g) w w' := by
  obtain ⟨i0, hi, hz0, hz1, hz2⟩ := info_parts info5
  obtain ⟨cur, hb, hcs, hrow⟩ := rowIs_written h hfit
  have hl : ((List.range n).map fun j => Value.int .u8 (f (o + j))).length = n := by simp
  have hr := run_copy_row (P := Tryd.prog) w 22 22 ty 5 g o dLen dCap a sLen sCap cur 5 ((List.range n).map fun j => Value.int .u8 (f (o + j))) Tryd.underlying22 (by rw [hi]; exact congrArg some hz1) hb (by rw [hl]; exact hn)
    (by
      intro j v hj
      rw [List.getElem?_map, Option.map_eq_some_iff] at hj
      obtain ⟨x, hx, rfl⟩ := hj
      obtain ⟨hlt, rfl⟩ := List.getElem?_eq_some_iff.1 hx
      simp at hlt
      simpa using hsrc j hlt) (by rw [hl]; omega) (by simp [Value.oneCell'])
  rw [hl] at hr
  exact ⟨_, hr, hrow _ rfl, ⟨rfl, rfl, rfl, by simp [World.setRow], fun k hk hs => setRow_other w g k _ (fun e => hs e)⟩⟩

theorem wp_copy_part {w : World} {o' : Oper} {a : Act} {K : Act → World → Prop} {Q : Exit → Act → World → Prop} (d s : Operand) (ho : o'.op = .call { callee := .builtin .copy, args := #[d, s], argTypes := #[22, 22] })
    (g T o dLen dCap : Nat) (ad : Addr) (sLen sCap n : Nat) (f F : Nat → Int) (hd : a.eval d = .slice (some ⟨g, o, none⟩) dLen dCap) (hs : a.eval s = .slice (some ad) sLen sCap)
    (h : w.rowIs g 5 T (part f F o)) (hn : n = Nat.min sLen dLen) (hsrc : ∀ j, j < n → w.cell? (ad.add j) = some (.int .u8 (f (o + j)))) (hfit : o + n ≤ T)
    (hk : ∀ w', w'.rowIs g 5 T (part f F (o + n)) → Keep (· = g) w w' → K (a.put o'.dst (goInt n)) w') : o'.wp Tryd.prog a w K Q := by
  obtain ⟨w', hr, h1, h2⟩ := run_copy_part w o'.type g T o dLen dCap ad sLen sCap n f F h hn hsrc hfit
  unfold Oper.wp
  simp [execOp, ho, resolve, invoke, builtin, hd, hs, hr, Result.andThen]
  exact hk _ h1 h2

theorem wpList_copy_part {w : World} {ops : Array Oper} {rest : List Oper} {o' : Oper} {a : Act} {Q : Exit → Act → World → Prop} (hgd : o'.guard = none) (d s : Operand) (ho : o'.op = .call { callee := .builtin .copy, args := #[d, s], argTypes := #[22, 22] })
    (g T o dLen dCap : Nat) (ad : Addr) (sLen sCap n : Nat) (f F : Nat → Int) (hd : a.eval d = .slice (some ⟨g, o, none⟩) dLen dCap) (hs : a.eval s = .slice (some ad) sLen sCap)
    (h : w.rowIs g 5 T (part f F o)) (hn : n = Nat.min sLen dLen) (hsrc : ∀ j, j < n → w.cell? (ad.add j) = some (.int .u8 (f (o + j)))) (hfit : o + n ≤ T)
    (hk : ∀ w', w'.rowIs g 5 T (part f F (o + n)) → Keep (· = g) w w' → wpList Tryd.prog ops Q rest (a.put o'.dst (goInt n)) w') : wpList Tryd.prog ops Q (o' :: rest) a w :=
  wpList_plain hgd fun _ hK => wp_copy_part d s ho g T o dLen dCap ad sLen sCap n f F hd hs h hn hsrc hfit fun w' h1 h2 => hK _ _ (hk w' h1 h2)

theorem step_copy_part {w : World} {ops : Array Oper} {o' : Oper} {a : Act} {K : Act → World → Prop} {Q : Exit → Act → World → Prop} {E : Prop} (hgd : o'.guard = none) (d s : Operand) (ho : o'.op = .call { callee := .builtin .copy, args := #[d, s], argTypes := #[22, 22] })
    (g T o dLen dCap : Nat) (ad : Addr) (sLen sCap n : Nat) (f F : Nat → Int) (hd : a.eval d = .slice (some ⟨g, o, none⟩) dLen dCap) (hs : a.eval s = .slice (some ad) sLen sCap)
    (h : w.rowIs g 5 T (part f F o)) (hn : n = Nat.min sLen dLen) (hsrc : ∀ j, j < n → w.cell? (ad.add j) = some (.int .u8 (f (o + j)))) (hfit : o + n ≤ T)
    (hk : ∀ w', w'.rowIs g 5 T (part f F (o + n)) → Keep (· = g) w w' → K (a.put o'.dst (goInt n)) w') :
    if Region.wanted o' (yielded ops a.tmps) = true then Oper.wp Tryd.prog o' a w K Q else E := by
  have hw : Region.wanted o' (yielded ops a.tmps) = true := by simp [Region.wanted, hgd]
  rw [if_pos hw]
  exact wp_copy_part d s ho g T o dLen dCap ad sLen sCap n f F hd hs h hn hsrc hfit hk
end Go.Proofs.YtfefgopomhhpfaaDoor
