import Derived.Test.YteonakpgenkhkaaDoorCards
import Derived.Test.YteonakpgenkhkaaDoorTie
import Derived.Test.YteonakpgenkhkaaDoorL11
import Derived.WalkKit
import Derived.ProofKit
import Derived.OpenShut
import Derived.Deep.DeepHandedRow
import Derived.Lib.LaidU8
import Derived.Lib.LaidIn
import Derived.Stop.LaidErr
import Derived.Stop.ErrReads
import Derived.ChangeSlices
namespace Go.Proofs.YteonakpgenkhkaaDoor
open Go.ChangeShapes Go.WideShapes Go.ChangeAt Go.RowKit
theorem Tryd.own : ownKnob Tryd.prog.godebug = none := by kernel_rfl
theorem Tryd.laidOut : laidOutB Tryd.pinned.checked.prog = true := by kernel_rfl
theorem Tryd.g0 : Tryd.prog.globalNamed "io.EOF" = some 0 := by kernel_rfl
theorem Tryd.g1 : Tryd.prog.globalNamed "unicode/utf8.first" = some 1 := by kernel_rfl
theorem Tryd.g2 : Tryd.prog.globalNamed "unicode/utf8.acceptRanges" = some 2 := by kernel_rfl
theorem Tryd.y0 : (Tryd.prog.globals[0]?).map (·.type) = some 53 := by kernel_rfl
theorem Tryd.y1 : (Tryd.prog.globals[1]?).map (·.type) = some 68 := by kernel_rfl
theorem Tryd.y2 : (Tryd.prog.globals[2]?).map (·.type) = some 71 := by kernel_rfl
theorem Tryd.cells5 : Tryd.prog.cellsOf 5 = 1 := by kernel_rfl
theorem Tryd.cells9 : Tryd.prog.cellsOf 9 = 1 := by kernel_rfl
theorem Tryd.cells68 : Tryd.prog.cellsOf 68 = 256 := by kernel_rfl
theorem Tryd.cells70 : Tryd.prog.cellsOf 70 = 2 := by kernel_rfl
theorem Tryd.cells95 : Tryd.prog.cellsOf 95 = 1 := by kernel_rfl
theorem Tryd.star : "*" ++ "errors.errorString" = "*errors.errorString" := by decide
theorem Tryd.row80 (u : TypeId) (h : Tryd.prog.typeName? 3 u = some "*errors.errorString") : u = 80 :=
  typeName_ptr_named (nm := "errors.errorString") (by rw [Tryd.star]; kernel_rfl) (by kernel_rfl) (by decide) u (by rw [Tryd.star]; exact h)
def laidList : List (String × DataW Unit) := [("unicode/utf8.acceptRanges", Rows.laid_unicode_utf8_acceptRanges), ("io.EOF", Rows.laid_io_EOF), ("unicode/utf8.first", Rows.laid_unicode_utf8_first)]
theorem first_data : Rows.laid_unicode_utf8_first = Lib.firstData := by kernel_rfl
theorem accept_data : (Rows.laid_unicode_utf8_acceptRanges : DataW Unit) = Lib.acceptData := by kernel_rfl
/-- What the row's list gives. -/
theorem laid_gives {W : World} (h : laidMet Tryd.prog laidList W) : Lib.Utf8Tabs 1 2 W ∧ ∃ EA, W.cell? ⟨0, 0, none⟩ = some (.iface 80 (.pointer (some EA))) := by
  refine ⟨⟨fun c hc => ?_, fun i hi => ?_⟩, ?_⟩
  · obtain ⟨g, t, cs, fuel, p, hg, hty, hvar, hd⟩ := Lib.laidMet.reads h (n := "unicode/utf8.first") (d := Rows.laid_unicode_utf8_first) (by simp [laidList])
    obtain rfl := Option.some.inj (Tryd.g1.symm.trans hg)
    obtain rfl := Option.some.inj (Tryd.y1.symm.trans hty)
    rw [first_data] at hd
    have hcs := Lib.cells_of_tab Tryd.underlying68 Tryd.underlying5 Tryd.cells5 Tryd.cells68 hd
    have := World.var?_cell hg hvar c
    rw [this, ← Array.getElem?_toList, hcs]
    simp [Lib.firstTab, hc]
  · obtain ⟨g, t, cs, fuel, p, hg, hty, hvar, hd⟩ := Lib.laidMet.reads h (n := "unicode/utf8.acceptRanges") (d := Rows.laid_unicode_utf8_acceptRanges) (by simp [laidList])
    obtain rfl := Option.some.inj (Tryd.g2.symm.trans hg)
    obtain rfl := Option.some.inj (Tryd.y2.symm.trans hty)
    rw [accept_data] at hd
    obtain ⟨fuel', d, q, hdi, he⟩ := Lib.array_elem Tryd.underlying71 hd i hi
    simp only [List.getElem?_map, List.getElem?_range hi, Option.map_some, Option.some.injEq] at hdi
    subst hdi
    rw [Tryd.cells70] at he
    have hcs := Lib.ints_of_struct Tryd.underlying70 (fun j f hj => by
      match j, hj with
      | 0, hj => simp at hj; subst hj; exact ⟨Tryd.underlying5, rfl, Tryd.cells5⟩
      | 1, hj => simp at hj; subst hj; exact ⟨Tryd.underlying5, rfl, Tryd.cells5⟩
      | j + 2, hj => simp at hj) (by rw [Tryd.cells70]; rfl) he
    have e0 := congrArg (·[0]?) hcs
    have e1 := congrArg (·[1]?) hcs
    simp only [List.getElem?_take, List.getElem?_drop] at e0 e1
    constructor
    · rw [World.var?_cell hg hvar (2 * i), ← Array.getElem?_toList]
      simpa [Nat.mul_comm] using e0
    · rw [World.var?_cell hg hvar (2 * i + 1), ← Array.getElem?_toList]
      simpa [Nat.mul_comm] using e1
  · have ht := laidMet.tail h
    obtain ⟨a1, s1, hv1, -, -, -⟩ := laid_sentinel ht Tryd.g0 Tryd.y0 Tryd.underlying53 Tryd.row80 Tryd.underlying80 Tryd.underlying95 rfl rfl Tryd.underlying9 Tryd.cells95 Tryd.cells9
    exact ⟨a1, by simpa using World.var?_cell Tryd.g0 hv1 0⟩
/-- A world for the witness. -/
abbrev eofS : ByteArray := { data := #[69, 79, 70] }
noncomputable def low : Nat := (World.holding Tryd.prog default ⟨#[], #[], []⟩).heap.size
def setBlock (h : Array Obj) (g : Nat) (cs : Array Value) : Array Obj := h.modify g fun
  | .cells _ t frozen => .cells cs t frozen
  | o => o
noncomputable def laidWorld (os : Os) : World :=
  let w0 := World.holding Tryd.prog os ⟨#[.cells #[.string eofS] 95], #[], []⟩
  { w0 with heap := setBlock (setBlock (setBlock w0.heap 0 #[.iface 80 (.pointer (some ⟨low, 0, none⟩))]) 1 ((List.range 256).map fun c => Value.int .u8 (Lib.firstT c)).toArray) 2 ((List.range 16).flatMap fun i => [Value.int .u8 (Lib.accLo i), Value.int .u8 (Lib.accHi i)]).toArray }
theorem laid_in (os : Os) (args : Array Value) : LaidIn Tryd.prog ((laidWorld os).forCall (fun _ _ => 0) ⟨#[], args, []⟩).memory laidList [0, 1, 2, low] :=
  LaidIn.of_run [0, 1, 2, low] 8 (by kernel_rfl) (by kernel_rfl) (by kernel_rfl) (by kernel_rfl)
theorem reads1 (os : Os) {H : Type} (enc : TypeId × Value → H) : ∃ places, DataW.whole enc Tryd.prog ((laidWorld os).forCall (fun _ _ => 0) ⟨#[], #[.slice none 0 0], []⟩).memory Tryd.f4.params.toList Rows.fnIdentSpec.vars false #[Value.slice none 0 0].toList 8 = some ([.nil], [], places) :=
  ⟨[], by kernel_rfl⟩
end Go.Proofs.YteonakpgenkhkaaDoor
