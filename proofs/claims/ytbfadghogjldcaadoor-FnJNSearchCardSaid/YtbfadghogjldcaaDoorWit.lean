/- A world that holds the listed tables: the witness of the rows. -/
import Derived.Test.YtbfadghogjldcaaDoorArgs
namespace Go.Proofs.YtbfadghogjldcaaDoor
open Go.ChangeShapes Go.WideShapes Go.ChangeAt Go.RowKit
set_option maxRecDepth 100000

mutual
/-- The cells of a table of numbers. -/
def flat : DataW Unit → List Value
  | .lit (.int k n) => [.int k n]
  | .agg parts => flats parts
  | _ => []
def flats : List (DataW Unit) → List Value
  | [] => []
  | d :: r => flat d ++ flats r
end
def lay (cs : List Value) : Obj → Obj
  | .cells _ t frozen => .cells cs.toArray t frozen
  | o => o
noncomputable def laidWorld (os : Os) : World :=
  { World.holding Tryd.prog os ⟨#[], #[], []⟩ with heap := (((((World.holding Tryd.prog os ⟨#[], #[], []⟩).heap.modify 0 (lay (flat Rows.laid_unicode_utf8_first))).modify 1 (lay (flat Rows.laid_unicode_utf8_acceptRanges))).modify 2 (lay (flat Rows.laid_internal_strconv_uint64pow10))).modify 3
      (lay (flat Rows.laid_math_bits_deBruijn32tab))).modify 4 (lay (flat Rows.laid_math_bits_deBruijn64tab)) }
def noArgs : Array Value := #[.slice none 0 0, .slice none 0 0, .bool false]
theorem laid_met (os : Os) : laidMet Tryd.prog Rows.fnJNLikesRow.laid ((laidWorld os).forCall (fun _ _ => 0) ⟨#[], noArgs, []⟩).memory :=
  laidMet_of_run' 8 (by kernel_rfl) (by kernel_rfl)
theorem wit_vars (os : Os) : ((laidWorld os).forCall (fun _ _ => 0) ⟨#[], noArgs, []⟩).variablesB Tryd.prog = true := by kernel_rfl
theorem wit_rest (os : Os) : (((laidWorld os).forCall (fun _ _ => 0) ⟨#[], noArgs, []⟩).heap.toList.drop Tryd.prog.globals.size).take ((begin Tryd.prog (fun _ _ => 0) default).world.heap.size - Tryd.prog.globals.size) =
    (begin Tryd.prog (fun _ _ => 0) default).world.heap.toList.drop Tryd.prog.globals.size := by kernel_rfl

end Go.Proofs.YtbfadghogjldcaaDoor
