import Derived.Test.YtfcedenofbefcaaGreatDoorCards
import Derived.Test.YtfcedenofbefcaaGreatDoorTie
import Derived.Test.YtfcedenofbefcaaGreatDoorK3
import Derived.Lib.LaidTab
import Derived.ChangeVars
import Derived.WalkKit
import Derived.ProofKit
import Derived.OpenShut
import Derived.Deep.DeepHandedRow
import Derived.Lib.LaidU8
import Derived.Lib.LaidIn
import Derived.Stop.LaidErr
import Derived.Stop.ErrReads
import Derived.ChangeSlices
namespace Go.Proofs.YtfcedenofbefcaaGreatDoor
open Go.ChangeShapes Go.WideShapes Go.ChangeAt Go.RowKit
theorem Tryz.own : ownKnob Tryz.prog.godebug = none := by kernel_rfl
theorem Tryz.laidOut : laidOutB Tryz.pinned.checked.prog = true := by kernel_rfl
theorem Tryz.g0 : Tryz.prog.globalNamed "io.EOF" = some 0 := by kernel_rfl
theorem Tryz.y0 : (Tryz.prog.globals[0]?).map (·.type) = some 62 := by kernel_rfl
theorem Tryz.cells5 : Tryz.prog.cellsOf 5 = 1 := by kernel_rfl
theorem Tryz.cells9 : Tryz.prog.cellsOf 9 = 1 := by kernel_rfl
theorem Tryz.cells194 : Tryz.prog.cellsOf 194 = 1 := by kernel_rfl
theorem Tryz.star : "*" ++ "errors.errorString" = "*errors.errorString" := by decide
theorem Tryz.row179 (u : TypeId) (h : Tryz.prog.typeName? 3 u = some "*errors.errorString") : u = 179 :=
  typeName_ptr_named (nm := "errors.errorString") (by rw [Tryz.star]; kernel_rfl) (by kernel_rfl) (by decide) u (by rw [Tryz.star]; exact h)
theorem Tryz.g2 : Tryz.prog.globalNamed "loop.example/pub-g01476/pub/tdhtml._Hash_table" = some 2 := by kernel_rfl
theorem Tryz.y2 : (Tryz.prog.globals[2]?).map (·.type) = some 114 := by kernel_rfl
theorem Tryz.cells91 : Tryz.prog.cellsOf 91 = 1 := by kernel_rfl
theorem Tryz.cells114 : Tryz.prog.cellsOf 114 = 16 := by kernel_rfl
def laidListH : List (String × DataW Unit) := [("math/bits.deBruijn32tab", Rows.laid_math_bits_deBruijn32tab), ("math/bits.deBruijn64tab", Rows.laid_math_bits_deBruijn64tab), ("internal/strconv.uint64pow10", Rows.laid_internal_strconv_uint64pow10), ("io.EOF", Rows.laid_io_EOF), ("unicode.properties", Rows.laid_unicode_properties), ("loop.example/pub-g01476/pub/tdhtml._Hash_table", Rows.laid_loop_example_pub_g01476_pub_tdhtml_Hash_table)]
theorem hash_data : (Rows.laid_loop_example_pub_g01476_pub_tdhtml_Hash_table : DataW Unit) = Lib.tabData .u32 htab := by kernel_rfl
/-- What the rows' list gives. -/
theorem laid_eof {W : World} {L : List (String × DataW Unit)} {a b c : String × DataW Unit} (h : laidMet Tryz.prog (a :: b :: c :: ("io.EOF", Rows.laid_io_EOF) :: L) W) : ∃ EA, W.cell? ⟨0, 0, none⟩ = some (.iface 179 (.pointer (some EA))) := by
  have ht := laidMet.tail (laidMet.tail (laidMet.tail h))
  obtain ⟨a1, s1, hv1, -, -, -⟩ := laid_sentinel ht Tryz.g0 Tryz.y0 Tryz.underlying62 Tryz.row179 Tryz.underlying179 Tryz.underlying194 rfl rfl Tryz.underlying9 Tryz.cells194 Tryz.cells9
  exact ⟨a1, by simpa using World.var?_cell Tryz.g0 hv1 0⟩
theorem laid_hash {W : World} {L : List (String × DataW Unit)} (h : laidMet Tryz.prog L W) (hm : ("loop.example/pub-g01476/pub/tdhtml._Hash_table", (Rows.laid_loop_example_pub_g01476_pub_tdhtml_Hash_table : DataW Unit)) ∈ L) : HTab W := by
  obtain ⟨g, t, cs, fuel, p, hg, hty, hvar, hd⟩ := Lib.laidMet.reads h hm
  obtain rfl := Option.some.inj (Tryz.g2.symm.trans hg)
  obtain rfl := Option.some.inj (Tryz.y2.symm.trans hty)
  rw [hash_data] at hd
  have hcs := Lib.cells_of_tab Tryz.underlying114 Tryz.underlying91 Tryz.cells91 Tryz.cells114 hd
  refine ⟨fun i hi => ?_⟩
  have := World.var?_cell hg hvar i
  rw [this, ← Array.getElem?_toList, hcs, List.getElem?_map, List.getElem?_eq_getElem (by simpa [htab] using hi), List.getD_eq_getElem?_getD, List.getElem?_eq_getElem (by simpa [htab] using hi)]
  rfl
/-- A world for the witness. -/
abbrev eofS : ByteArray := { data := #[69, 79, 70] }
noncomputable def lowW : Nat := (World.holding Tryz.prog default ⟨#[], #[], []⟩).heap.size
def setBlock (h : Array Obj) (g : Nat) (cs : Array Value) : Array Obj := h.modify g fun
  | .cells _ t frozen => .cells cs t frozen
  | o => o
/-- The cells of a table of numbers or truths. -/
def tabCells : DataW Unit → Array Value
  | .agg l => (l.map fun | .lit (.int k n) => Value.int k n | .lit (.bool b) => .bool b | _ => .bool false).toArray
  | _ => #[]
noncomputable def laidWorld (os : Os) : World :=
  let w0 := World.holding Tryz.prog os ⟨#[.cells #[.string eofS] 194], #[], []⟩
  { w0 with heap := setBlock (setBlock (setBlock (setBlock (setBlock (setBlock (setBlock w0.heap 0 #[.iface 179 (.pointer (some ⟨lowW, 0, none⟩))]) 1 (tabCells Rows.laid_loop_example_pub_g01476_pub_tdhtml_charTable)) 2 (tabCells Rows.laid_loop_example_pub_g01476_pub_tdhtml_Hash_table)) 3 (tabCells Rows.laid_unicode_properties)) 6 (tabCells Rows.laid_internal_strconv_uint64pow10)) 7 (tabCells Rows.laid_math_bits_deBruijn32tab)) 8 (tabCells Rows.laid_math_bits_deBruijn64tab) }
theorem laid_inH (os : Os) (args : Array Value) : LaidIn Tryz.prog ((laidWorld os).forCall (fun _ _ => 0) ⟨#[], args, []⟩).memory laidListH [0, 2, 3, 6, 7, 8, lowW] :=
  LaidIn.of_run [0, 2, 3, 6, 7, 8, lowW] 8 (by kernel_rfl) (by kernel_rfl) (by kernel_rfl) (by kernel_rfl)
/-- A named variable whose block is as it was reads as it did. -/
theorem var_kept {H : Type} {enc : TypeId × Value → H} {W W' : World} {n : String} {g : Nat} {t : TypeId} {cs : Array Value} {d : DataW H} {fuel : Nat} {p : List MemPlace} (hg : Tryz.prog.globalNamed n = some g) (ht : (Tryz.prog.globals[g]?).map (·.type) = some t) (hv : W.var? Tryz.prog n = some cs)
    (hd : DataW.trod enc Tryz.prog W 0 (fun _ => true) true fuel t cs.toList = some (d, p)) (hr : Tryz.prog.readableRec t = true) (hrow : t < Tryz.prog.types.size) (hlt : ∀ x ∈ p, x.block < W.heap.size) (hgl : g < W.heap.size) (hn : Below W.heap.size W W') :
    DataW.TrodVars enc Tryz.prog W' (fun b => decide (b < W.heap.size)) [n] [d] (MemPlace.row ⟨g, 0, none⟩ cs.size ++ p) := by
  have h0 : DataW.Trod enc Tryz.prog W 0 (fun _ => true) true t (.agg cs) d p := ⟨fuel, hd⟩
  obtain ⟨fuel', hf⟩ := Below.trod Tryz.laidOut hr hrow h0 hn hlt
  refine trodVars_mk1 hg ht ?_ hf
  rw [← hv]
  unfold World.var?
  simp only [hg, Option.bind_some, hn.block g hgl]
end Go.Proofs.YtfcedenofbefcaaGreatDoor
