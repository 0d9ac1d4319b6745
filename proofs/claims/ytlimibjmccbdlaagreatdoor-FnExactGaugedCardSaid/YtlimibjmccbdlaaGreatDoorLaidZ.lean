/-
  The tables that the rows list: uint64pow10's contents out of the row's condition; a world for the witnesses that holds them.
-/
import Derived.Test.YtlimibjmccbdlaaGreatDoorRow
import Derived.Test.YtlimibjmccbdlaaGreatDoorCards
import Derived.Test.YtlimibjmccbdlaaGreatDoorTie
import Derived.WalkKit
import Derived.ProofKit
import Derived.OpenShut
import Derived.Deep.DeepHandedRow
import Derived.Lib.LaidTab
import Derived.LaidSub
namespace Go.Proofs.YtlimibjmccbdlaaGreatDoor
open Go.ChangeShapes Go.WideShapes Go.ChangeAt Go.RowKit

theorem card_own : ownKnob Tryz.prog.godebug = none := by kernel_rfl
theorem card_laidOut : laidOutB Tryz.prog = true := by kernel_rfl

/-- What the rows list. -/
def laidList : List (String × DataW Unit) := [("math/bits.deBruijn32tab", Rows.laid_math_bits_deBruijn32tab), ("math/bits.deBruijn64tab", Rows.laid_math_bits_deBruijn64tab), ("internal/strconv.uint64pow10", Rows.laid_internal_strconv_uint64pow10)]
theorem laidPow : laidList.filter (fun x => x.1 == "internal/strconv.uint64pow10") = [("internal/strconv.uint64pow10", Lib.tabData .u64 Lib.pow10Tab)] := by kernel_rfl
theorem noHandle : [("internal/strconv.uint64pow10", (Lib.tabData .u64 Lib.pow10Tab : DataW Unit))].filter (fun x => x.2.handleName?.isSome) = [] := by kernel_rfl
theorem pow_laid {W : World} (h : laidMetH Tryz.prog laidList W) : Lib.TabIs Tryz.prog W "internal/strconv.uint64pow10" .u64 Lib.pow10Tab := by
  have h1 := h.filter (fun x => x.1 == "internal/strconv.uint64pow10")
  rw [laidPow] at h1
  unfold laidMetH at h1
  rw [noHandle] at h1
  exact Lib.tabIs_of_head (rest := []) (g := 0) (t := 95) (e := 27) (n := 20) (by kernel_rfl) (by kernel_rfl) Tryz.underlying95 Tryz.underlying27 (by kernel_rfl) (by kernel_rfl) h1
theorem spells_laid {W : World} (h : laidMetH Tryz.prog laidList W) {v : Nat} (hv : v < 18446744073709551616) : Spells W v := .inr ⟨hv, pow_laid h⟩

def litCell : DataW Unit → Value
  | .lit (.int k n) => .int k n
  | _ => .int .u8 0
def aggCells : DataW Unit → Array Value
  | .agg l => (l.map litCell).toArray
  | _ => #[]
def layAt (cs : Array Value) : Obj → Obj
  | .cells _ t fr => .cells cs t fr
  | o => o
/-- A world for a witness: the settled one, the tables holding what their initialisers lay. -/
noncomputable def laidWorld (os : Os) : World :=
  { World.holding Tryz.prog os ⟨#[], #[], []⟩ with heap := (((World.holding Tryz.prog os ⟨#[], #[], []⟩).heap.modify 3 (layAt (aggCells Rows.laid_math_bits_deBruijn32tab))).modify 4 (layAt (aggCells Rows.laid_math_bits_deBruijn64tab))).modify 0 (layAt (aggCells Rows.laid_internal_strconv_uint64pow10)) }
end Go.Proofs.YtlimibjmccbdlaaGreatDoor
