/- THE WALK of spec.Put: a number in n bytes, the lowest first. Conditions: 0 ≤ v < 2^32, n ≤ 4 (what its callers hand on). -/
import Derived.Test.YtfefgopomhhpfaaDoorBase
namespace Go.Proofs.YtfefgopomhhpfaaDoor
open Go.RowKit

/-- The bytes of v, the lowest first. -/
def le (n : Nat) (v : Int) : List Int := (List.range n).map fun k => (v / 2 ^ (8 * k)) % 256
theorem le_length (n : Nat) (v : Int) : (le n v).length = n := by simp [le]
theorem le_succ (n : Nat) (v : Int) : le (n + 1) v = le n v ++ [(v / 2 ^ (8 * n)) % 256] := by simp [le, List.range_succ]

/-- What a function that makes a new slice of bytes leaves. -/
def Gives (W : World) (n : Nat) (xs : List Int) (e : Ending) (w' : World) : Prop :=
  ∃ g cap, e = .returned (.slice (some ⟨g, 0, none⟩) n cap) ∧ w'.ownsRow W.heap.size 5 1 (.slice (some ⟨g, 0, none⟩) n cap) n (u8s xs) ∧ Below W.heap.size W w'

set_option maxHeartbeats 400000 in
set_option maxRecDepth 100000 in
theorem put_any (v : Int) (n : Nat) (hn : n ≤ 4) (hn0 : 0 < n) (w : World) :
    Calls Tryd.prog 12 #[.int .i64 v, .int .i64 n] w (Gives w n (le n v)) := by
  obtain ⟨i0, hi, hz0, hz1, hz2⟩ := info_parts info5
  go_enter Tryd.func12, Tryd.ntmps12
  go_wp2
  go_loopw [5, 9] (fun s i wr => ∃ (k : Nat) (g cap : Nat), k ≤ n ∧ i = .int .i64 k ∧ s = .slice (some ⟨g, 0, none⟩) k cap ∧ wr.ownsRow w.heap.size 5 1 (.slice (some ⟨g, 0, none⟩) k cap) k (u8s (le k v)) ∧ Below w.heap.size w wr) (fun _ i _ => n - (intOf i).toNat)
  case atStart => exact ⟨0, w.heap.size, 0, Nat.zero_le _, rfl, rfl, ⟨rfl, Or.inr ⟨w.heap.size, 0, #[], rfl, Nat.le_refl _, heap_alloc_new w _, Nat.le_refl _, by unfold maxLen; omega, rfl, rfl⟩⟩, (Below.refl _ _).alloc (Nat.le_refl _) _⟩
  case round =>
    obtain ⟨k, g, cap, hk, rfl, rfl, hown, hbel⟩ := hrel
    have hsz := hbel.size
    by_cases hlt : k < n
    · go_wp2_with (at_builtin; refine wpList_append_lies _ rfl (.tmp 12) (.tmp 18) 22 rfl w.heap.size 5 i0 (.int .u8 0) 1 1 Tryd.underlying22 hi hz0 hz1 hz2 rfl (by omega) _ k (u8s (le k v)) (by rfl) (hown.alloc _) ⟨wr.heap.size, 0, none⟩ 1 1 _ (by rfl) (by rfl) (World.news_of_block (heap_alloc_new wr _)) (by simp [Value.oneCell']) (by omega) (by unfold maxLen; omega) (by omega) (by simp; omega) (wr.heap.size + 1) (by simp) ?_; intro g' cap' w1 hown' hgrow _ _)
      go_roundw
      case rel => 
        have hlow : w.heap.size ≤ g := (hown.lt g rfl).1
        exact ⟨k + 1, g', cap', by omega, by go_num, rfl, by rw [le_succ, u8s_append]; exact hown', (hbel.alloc hsz _).grown hgrow (by simp; omega) (fun q hq => by simp [Value.ownBlock] at hq; omega)⟩
      case measure => simp [intOf]; omega
    · go_wp2
      go_ret
      obtain rfl : k = n := by omega
      exact ⟨g, cap, rfl, hown, hbel⟩
#print axioms put_any
end Go.Proofs.YtfefgopomhhpfaaDoor
