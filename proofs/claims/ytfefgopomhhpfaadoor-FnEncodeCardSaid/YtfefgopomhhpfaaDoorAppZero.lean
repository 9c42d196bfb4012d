/- 'append(x, make([]byte, m)...)' onto a slice of bytes that the call owns. -/
import Derived.Test.YtfefgopomhhpfaaDoorKeep
import Derived.Lib.AppendZeros
import Derived.Deep.AppendLies
namespace Go.Proofs.YtfefgopomhhpfaaDoor
open Go.RowKit

theorem zeroCells_one (m : Nat) : (Builtin.zeroCells #[Value.int .u8 0] m).toList = List.replicate m (Value.int .u8 0) := by
  simp [Builtin.zeroCells, Nat.mod_one, List.map_const']

theorem run_append_zeros {P : Program} (w : World) (base : Nat) (t tn ty e : TypeId) (i : TypeInfo) (k kn : IntKind) (ht : P.underlying t = some (.slice e)) (htn : P.underlying tn = some (.int kn)) (hi : P.info? e = some i) (hz : i.zero = some (.int .u8 0))
    (hsize : i.size = 1) (hby : i.bytes = 1) (g n cap : Nat) (xs : List Value) (hown : w.ownsRow base e 1 (.slice (some ⟨g, 0, none⟩) n cap) n xs) (m : Nat) (hm : 0 < m) (hm2 : m ≤ 100000000) (hn : n ≤ 100000000) (hbase : base ≤ w.heap.size) :
    ∃ g' cap' w', (Builtin.append_ #[t, tn] ty #[.slice (some ⟨g, 0, none⟩) n cap, .int k m]).run P w = .ok (.slice (some ⟨g', 0, none⟩) (n + m) cap') w' ∧
      w'.ownsRow base e 1 (.slice (some ⟨g', 0, none⟩) (n + m) cap') (n + m) (xs ++ List.replicate m (.int .u8 0)) ∧ w.grownBy w' (some g) ∧ (g' = g ∨ g' = w.heap.size) := by
  have hlen := hown.1
  rcases hown.2 with ⟨h1, _⟩ | ⟨g0, cap0, cur, h1, hbg, hg, hnc, hcm, hcs, htake⟩
  · injection h1 with h2; cases h2
  injection h1 with h2 h3 h4
  injection h2 with h5
  injection h5 with h6
  subst h6
  subst h4
  have hw : IntKind.i64.wrap (m : Int) = m := by rw [IntKind.wrap_i64]; omega
  have h48i : ¬ (281474976710656 < (m : Int)) := by omega
  have hneg : ¬ ((m : Int) < 0) := by omega
  have hm0 : m ≠ 0 := by omega
  rw [Nat.mul_one] at hlen hcs htake
  by_cases hroom : n + m ≤ cap
  · have hst := run_storeCells_at P g n e (List.replicate m (.int .u8 0)) 0 cur w hg (by simp; omega) (by simp [Value.oneCell'])
    rw [Nat.add_zero] at hst
    refine ⟨g, cap, w.setRow g (cur.toList.take n ++ List.replicate m (Value.int .u8 0) ++ cur.toList.drop (n + m)).toArray, ?_, ⟨by simp; omega, .inr ⟨g, cap, _, rfl, hbg, setRow_heap w g cur _ e _ hg, hroom, hcm, ?_, ?_⟩⟩, ⟨rfl, rfl, rfl, by simp, fun j _ hj => setRow_other w g j _ (fun e => hj (by simp [e]))⟩, .inl rfl⟩
    · have hz1 : (Builtin.zeroCells (Value.int .u8 0).cells m).toList = List.replicate m (Value.int .u8 0) := zeroCells_one m
      simp at hst
      simp [Builtin.append_, run_underlying ht, run_underlying htn, sizeOf, typeInfo, zeroValue, hi, hz, hsize, hby, asInt, asIntOf, hw, hneg, h48i, hm0, hroom, hz1, Addr.add_lit, hst]
    · simp; omega
    · rw [Nat.mul_one]
      have h7 : (cur.toList.take n ++ List.replicate m (Value.int .u8 0)).length = n + m := by simp; omega
      rw [List.take_append_of_le_length (by omega), List.take_of_length_le (by omega), htake]
  · have hz1 := zeroCells_one m
    have hge := grownCap_ge w (n + m) cap e
    have hcm' : grownCap w (n + m) cap e ≤ maxLen := grownCap_le_maxLen w (n + m) cap e (by unfold maxLen; omega)
    have hfit := growslice_fits (need := n + m) (old := cap) (bytes := 1) (by omega) (by omega)
    rw [Nat.mul_one] at hfit
    have h48' : ¬ (281474976710656 < Builtin.nextslicecap (n + m) cap) := by omega
    have h63' : ¬ (9223372036854775807 < ((n : Int) + (m : Int))) := by omega
    have hold : ∀ j u, xs[j]? = some u → w.cell? ((⟨g, 0, none⟩ : Addr).add j) = some u := hown.cells (g := g) rfl
    have hf := run_firstCells_some (P := P) w.drew 1 n ⟨g, 0, none⟩ n cap xs (by omega) (by simpa using hold)
    refine ⟨w.heap.size, grownCap w (n + m) cap e, w.drew.alloc (.cells (xs.toArray ++ Builtin.zeroCells #[Value.int .u8 0] m ++ Builtin.zeroCells #[Value.int .u8 0] (grownCap w (n + m) cap e - (n + m))) e), ?_, ⟨by simp; omega, .inr ⟨w.heap.size, _, _, rfl, hbase, heap_alloc_new w.drew _, hge, hcm', ?_, ?_⟩⟩, ⟨rfl, rfl, rfl, by simp, fun j hj _ => heap_alloc_old w.drew _ hj⟩, .inr rfl⟩
    · simp [Builtin.append_, run_underlying ht, run_underlying htn, sizeOf, typeInfo, zeroValue, hi, hz, hsize, hby, asInt, asIntOf, hw, hneg, h48i, hm0, hroom, h48', h63', Question.forced, hf, newRow, grownCap]
      rfl
    · simp [size_zeroCells]; omega
    · rw [Nat.mul_one]
      simp only [Array.toList_append, zeroCells_one, List.append_assoc]
      rw [← List.append_assoc, List.take_append_of_le_length (by simp; omega), List.take_of_length_le (by simp; omega)]
end Go.Proofs.YtfefgopomhhpfaaDoor
