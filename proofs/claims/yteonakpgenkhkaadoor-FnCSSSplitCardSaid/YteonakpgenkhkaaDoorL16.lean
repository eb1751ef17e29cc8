import Derived.Test.YteonakpgenkhkaaDoorL4
import Derived.Test.YteonakpgenkhkaaDoorL7
import Derived.Lib.SlBytesConst
import Derived.Laws.BytesString
import Derived.Laws.BytesArg
namespace Go.Proofs.YteonakpgenkhkaaDoor
open Go.RowKit
set_option linter.unusedVariables false
set_option linter.unusedSimpArgs false
/-- A text as the machine's string. -/
def bstr (l : List Int) : ByteArray := ⟨(l.map fun n => UInt8.ofNat n.toNat).toArray⟩
theorem conv_bytes {w : World} {A : Option Addr} {T : List Int} {cp : Nat} (h : Bytes w A T) : (convert 22 9 (.slice A T.length cp)).run Tryd.prog w = .ok (.string (bstr T)) w := by
  rw [run_convert_bytes_string w 22 9 5 A T.length cp Tryd.underlying22 Tryd.underlying5 Tryd.underlying9]
  cases A with
  | none =>
    have : T = [] := by
      cases T with
      | nil => rfl
      | cons x l =>
        obtain ⟨b, o, e, _⟩ := h.cells (by simp)
        cases e
    subst this
    rfl
  | some a =>
    have hl : (loadCells a (T.map (Value.int .u8)).length).run Tryd.prog w = .ok (T.map (Value.int .u8)).toArray w := run_loadCells_list w a _ (fun j v hj => by
      have hjT : j < T.length := by
        rcases Nat.lt_or_ge j T.length with h' | h'
        · exact h'
        · rw [List.getElem?_eq_none (by simpa using h')] at hj; cases hj
      obtain ⟨b, o, e, hc⟩ := h.cells (by omega)
      cases e
      rw [bytes_at hjT] at hj
      cases hj
      have e : (⟨b, o, none⟩ : Addr).add j = ⟨b, o + j, none⟩ := by unfold Addr.add; split <;> simp_all
      rw [e]
      exact hc j hjT)
    rw [List.length_map] at hl
    rw [run_bytesToString w a T.length cp T hl, foldl_push_bytes]
    simp [bstr]
theorem row_bytes (l : List Int) (hl : l.length ≤ 140737488355328) {w : World} {f : Nat × Nat} : Bytes (w.alloc (.cells (l.map (Value.int .u8)).toArray 5 f)) (some ⟨w.heap.size, 0, none⟩) l := by
  refine ⟨hl, fun _ => ⟨_, _, rfl, fun j hj => ?_⟩⟩
  rw [cell_of_block (heap_new _ _), Nat.zero_add]
  simp only [List.getElem?_toArray]
  exact bytes_at hj
theorem conv229_1 (w : World) (x : Int) (s n c : Nat) (hs : s = w.heap.size) (hn : n = 1) : (convert 22 9 (.slice (some ⟨s, 0, none⟩) n c)).run Tryd.prog (w.alloc (.cells #[.int .u8 x] 5)) = .ok (.string (bstr [x])) (w.alloc (.cells #[.int .u8 x] 5)) := by
  subst hn hs
  exact conv_bytes (row_bytes [x] (by simp))
theorem conv229_2 (w : World) (x y : Int) (s n c : Nat) (hs : s = w.heap.size) (hn : n = 2) : (convert 22 9 (.slice (some ⟨s, 0, none⟩) n c)).run Tryd.prog (w.alloc (.cells #[.int .u8 x, .int .u8 y] 5)) = .ok (.string (bstr [x, y])) (w.alloc (.cells #[.int .u8 x, .int .u8 y] 5)) := by
  subst hn hs
  exact conv_bytes (row_bytes [x, y] (by simp))
theorem conv22s (w : World) (C : Array Value) (n c : Nat) : (convert 22 22 (.slice (some ⟨w.heap.size, 0, none⟩) n c)).run Tryd.prog (w.alloc (.cells C 5)) = .ok (.slice (some ⟨w.heap.size, 0, none⟩) n c) (w.alloc (.cells C 5 (C.size, C.size + 1))) := Lib.run_convert_bytes_const w 22 5 C n c Tryd.underlying22 Tryd.underlying5
theorem lit_bytes (l : List Int) {w : World} {f : Nat × Nat} (hl : l.length ≤ 140737488355328 := by decide) : Bytes (w.alloc (.cells (l.map (Value.int .u8)).toArray 5 f)) (some ⟨w.heap.size, 0, none⟩) l := row_bytes l hl
end Go.Proofs.YteonakpgenkhkaaDoor
