/-
  What several walks of this seat share: closed facts of the loaded program's tables, and small words on worlds. Nothing is assumed here.
-/
import Derived.Test.YtfefgopomhhpfaaDoorProg
import Derived.WalkKit
import Derived.WalkSpells
import Derived.WalkLawsBesides
import Derived.KernelRfl
import Derived.Deep.LoopGhost
import Derived.Deep.OwnRows
import Derived.Deep.Light
import Derived.Deep.AppendLies
import Derived.Lib.Hide
namespace Go.Proofs.YtfefgopomhhpfaaDoor
open Go.RowKit

theorem info5 : (Tryd.prog.info? 5).map (fun i => (i.zero, i.size, i.bytes)) = some (some (.int .u8 0), 1, 1) := by kernel_rfl
theorem info38 : (Tryd.prog.info? 38).map (fun i => (i.zero, i.size, i.bytes)) = some (some (.agg #[.int .u8 0, .int .u8 0, .int .u8 0, .int .u8 0]), 4, 4) := by kernel_rfl
theorem info40 : (Tryd.prog.info? 40).map (fun i => (i.zero, i.size, i.bytes)) = some (some (.agg #[.int .u8 0, .int .u8 0, .int .u8 0]), 3, 3) := by kernel_rfl
theorem info81 : (Tryd.prog.info? 81).map (fun i => (i.zero, i.size, i.bytes)) = some (some .nilIface, 1, 16) := by kernel_rfl

/-- A list of numbers as cells of bytes. -/
def u8s (xs : List Int) : List Value := xs.map (Value.int .u8)
theorem u8s_length (xs : List Int) : (u8s xs).length = xs.length := by simp [u8s]
theorem u8s_append (xs ys : List Int) : u8s (xs ++ ys) = u8s xs ++ u8s ys := by simp [u8s]
theorem u8s_one (xs : List Int) : ∀ u ∈ u8s xs, u.oneCell' = true := ints_oneCell _ _

end Go.Proofs.YtfefgopomhhpfaaDoor
