import Derived.Test.YtfcedenofbefcaaGreatDoorCards
import Derived.Test.YtfcedenofbefcaaGreatDoorTie
import Derived.WalkKit
import Derived.ProofKit
import Derived.OpenShut
import Derived.Deep.DeepHandedRow
import Derived.Lib.LaidU8
import Derived.Lib.LaidIn
import Derived.Stop.LaidErr
import Derived.Stop.ErrReads
import Derived.ChangeSlices
namespace Go.Proofs.YtfcedenofbefcaaGreatDoor
open Go.ChangeShapes Go.WideShapes Go.ChangeAt Go.RowKit
theorem Tryz.own : ownKnob Tryz.prog.godebug = none := by kernel_rfl
theorem Tryz.laidOut : laidOutB Tryz.pinned.checked.prog = true := by kernel_rfl
theorem Tryz.g0 : Tryz.prog.globalNamed "io.EOF" = some 0 := by kernel_rfl
theorem Tryz.y0 : (Tryz.prog.globals[0]?).map (·.type) = some 62 := by kernel_rfl
theorem Tryz.cells5 : Tryz.prog.cellsOf 5 = 1 := by kernel_rfl
theorem Tryz.cells9 : Tryz.prog.cellsOf 9 = 1 := by kernel_rfl
theorem Tryz.cells194 : Tryz.prog.cellsOf 194 = 1 := by kernel_rfl
theorem Tryz.star : "*" ++ "errors.errorString" = "*errors.errorString" := by decide
theorem Tryz.row179 (u : TypeId) (h : Tryz.prog.typeName? 3 u = some "*errors.errorString") : u = 179 :=
  typeName_ptr_named (nm := "errors.errorString") (by rw [Tryz.star]; kernel_rfl) (by kernel_rfl) (by decide) u (by rw [Tryz.star]; exact h)
def laidList : List (String × DataW Unit) := [("math/bits.deBruijn32tab", Rows.laid_math_bits_deBruijn32tab), ("math/bits.deBruijn64tab", Rows.laid_math_bits_deBruijn64tab), ("internal/strconv.uint64pow10", Rows.laid_internal_strconv_uint64pow10), ("io.EOF", Rows.laid_io_EOF), ("unicode.properties", Rows.laid_unicode_properties)]
/-- What the row's list gives. -/
theorem laid_gives {W : World} (h : laidMet Tryz.prog laidList W) : ∃ EA, W.cell? ⟨0, 0, none⟩ = some (.iface 179 (.pointer (some EA))) := by
  have ht := laidMet.tail (laidMet.tail (laidMet.tail h))
  obtain ⟨a1, s1, hv1, -, -, -⟩ := laid_sentinel ht Tryz.g0 Tryz.y0 Tryz.underlying62 Tryz.row179 Tryz.underlying179 Tryz.underlying194 rfl rfl Tryz.underlying9 Tryz.cells194 Tryz.cells9
  exact ⟨a1, by simpa using World.var?_cell Tryz.g0 hv1 0⟩
/-- A world for the witness. -/
abbrev eofS : ByteArray := { data := #[69, 79, 70] }
noncomputable def low : Nat := (World.holding Tryz.prog default ⟨#[], #[], []⟩).heap.size
def setBlock (h : Array Obj) (g : Nat) (cs : Array Value) : Array Obj := h.modify g fun
  | .cells _ t frozen => .cells cs t frozen
  | o => o
/-- The cells of a table of numbers or truths. -/
def tabCells : DataW Unit → Array Value
  | .agg l => (l.map fun | .lit (.int k n) => Value.int k n | .lit (.bool b) => .bool b | _ => .bool false).toArray
  | _ => #[]
noncomputable def laidWorld (os : Os) : World :=
  let w0 := World.holding Tryz.prog os ⟨#[.cells #[.string eofS] 194], #[], []⟩
  { w0 with heap := setBlock (setBlock (setBlock (setBlock (setBlock (setBlock (setBlock w0.heap 0 #[.iface 179 (.pointer (some ⟨low, 0, none⟩))]) 1 (tabCells Rows.laid_loop_example_pub_g01476_pub_tdhtml_charTable)) 2 (tabCells Rows.laid_loop_example_pub_g01476_pub_tdhtml_Hash_table)) 3 (tabCells Rows.laid_unicode_properties)) 6 (tabCells Rows.laid_internal_strconv_uint64pow10)) 7 (tabCells Rows.laid_math_bits_deBruijn32tab)) 8 (tabCells Rows.laid_math_bits_deBruijn64tab) }
theorem laid_in (os : Os) (args : Array Value) : LaidIn Tryz.prog ((laidWorld os).forCall (fun _ _ => 0) ⟨#[], args, []⟩).memory laidList [0, 3, 6, 7, 8, low] :=
  LaidIn.of_run [0, 3, 6, 7, 8, low] 8 (by kernel_rfl) (by kernel_rfl) (by kernel_rfl) (by kernel_rfl)
end Go.Proofs.YtfcedenofbefcaaGreatDoor
