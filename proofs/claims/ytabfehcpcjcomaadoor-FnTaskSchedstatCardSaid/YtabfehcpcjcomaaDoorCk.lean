/- What the cards share: the world in which the listed variables lie; the tables that are read. Conditions: none. -/
import Derived.Test.YtabfehcpcjcomaaDoorPz
import Derived.Test.YtabfehcpcjcomaaDoorCards
import Derived.Test.YtabfehcpcjcomaaDoorTie
import Derived.WalkKit
import Derived.ProofKit
import Derived.OpenShut
import Derived.SizedLaws
import Derived.Deep.DeepHandedRow
import Derived.Deep.DeepWitnessRowRef
import Derived.Lib.LaidIn
import Derived.Lib.LaidTab
import Derived.LaidSub
namespace Go.Proofs.YtabfehcpcjcomaaDoor.Ck
open Go.ChangeShapes Go.WideShapes Go.ChangeAt Go.RowKit Go.Deep
open Go.Proofs.YtabfehcpcjcomaaDoorW.PrintWords Go.Proofs.YtabfehcpcjcomaaDoor.R
set_option linter.unusedVariables false
set_option linter.unusedSimpArgs false
theorem own : ownKnob Tryd.prog.godebug = none := by kernel_rfl
theorem laidOut : laidOutB Tryd.prog = true := by kernel_rfl
/-- Plain data as cells. -/
def lit1 : DataW Unit → Value
  | .lit (.int k n) => .int k n
  | .lit (.float k b) => .float k b
  | .lit (.bool b) => .bool b
  | .lit (.string l) => .string ⟨l.toArray⟩
  | _ => .nilIface
def flat1 : DataW Unit → List Value
  | .agg l => l.map lit1
  | .slice l _ => l.map lit1
  | d => [lit1 d]
def flat2 : DataW Unit → List Value
  | .agg l => l.flatMap flat1
  | .slice l _ => l.flatMap flat1
  | _ => []
def slen : DataW Unit → Nat
  | .slice l _ => l.length
  | _ => 0
def inner : DataW Unit → DataW Unit
  | .iface _ (.ptr d) => d
  | .ptr d => d
  | d => d
/-- The settled world with eight blocks more, the fifteen variables holding what their initialisers lay. -/
noncomputable def laidWorld (os : Os) : World :=
  let N := (World.settled Tryd.prog os).heap.size
  let w0 := World.holding Tryd.prog os ⟨#[.cells #[.slice (some ⟨N + 1, 0, none⟩) 7 7, .slice none 0 0, .int .i64 2] 115,
    .cells (([9, 13, 1, 32, 133, 101, 160, 5760, 5600, 8192, 8202, 1, 8232, 8233, 1, 8239, 8287, 48, 12288, 12288, 1] : List Int).map fun z => Value.int .u16 z).toArray 118,
    .cells (flat1 Rows.laid_internal_strconv_powtab).toArray 3,
    .cells (flat1 Rows.laid_internal_strconv_float64pow10).toArray 23,
    .cells (flat1 Rows.laid_internal_strconv_float32pow10).toArray 123,
    .cells (flat2 Rows.laid_internal_strconv_leftcheats).toArray 179,
    .cells (flat1 (inner Rows.laid_strconv_ErrRange)).toArray 76,
    .cells (flat1 (inner Rows.laid_strconv_ErrSyntax)).toArray 76], #[], []⟩
  let put (h : Array Obj) (g : Nat) (cs : Array Value) : Array Obj := h.modify g fun
    | .cells _ t frozen => .cells cs t frozen
    | o => o
  let h := put w0.heap 0 (flat1 Rows.laid_internal_strconv_uint64pow10).toArray
  let h := put h 1 (flat1 Rows.laid_strings_asciiSpace).toArray
  let h := put h 2 #[.iface 74 (.pointer (some ⟨N + 7, 0, none⟩))]
  let h := put h 3 #[.iface 74 (.pointer (some ⟨N + 6, 0, none⟩))]
  let h := put h 4 (flat1 Rows.laid_math_bits_deBruijn32tab).toArray
  let h := put h 5 (flat1 Rows.laid_math_bits_deBruijn64tab).toArray
  let h := put h 6 #[.pointer (some ⟨N, 0, none⟩)]
  let h := put h 7 (flat1 Rows.laid_internal_strconv_float32info).toArray
  let h := put h 8 #[.bool true]
  let h := put h 9 (flat1 Rows.laid_internal_strconv_float64info).toArray
  let h := put h 10 #[.slice (some ⟨N + 4, 0, none⟩) 11 11]
  let h := put h 11 #[.slice (some ⟨N + 2, 0, none⟩) 9 9]
  let h := put h 12 #[.slice (some ⟨N + 3, 0, none⟩) 23 23]
  let h := put h 13 (flat2 Rows.laid_internal_strconv_pow10Tab).toArray
  let h := put h 14 #[.slice (some ⟨N + 5, 0, none⟩) (slen Rows.laid_internal_strconv_leftcheats) (slen Rows.laid_internal_strconv_leftcheats)]
  { w0 with heap := h }
noncomputable abbrev N0 : Nat := (World.settled Tryd.prog default).heap.size
theorem laid14 (os : Os) (args : Array Value) : LaidIn Tryd.prog ((laidWorld os).forCall (fun _ _ => 0) ⟨#[], args, []⟩).memory (Rows.fnTaskSchedstatRow.laid.take 14) [4, 5, 7, 9, 8, 11, N0 + 2, 12, N0 + 3, 10, N0 + 4, 0, 3, N0 + 6, 2, N0 + 7, 6, N0, N0 + 1, 1, 14, N0 + 5] :=
  LaidIn.of_run _ 8 (by kernel_rfl) (by kernel_rfl) (by kernel_rfl) (by kernel_rfl)
end Go.Proofs.YtabfehcpcjcomaaDoor.Ck
