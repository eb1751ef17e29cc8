import Derived.Test.YteonakpgenkhkaaDoorP0
import Derived.Great.Walk
import Derived.Great.BuildSlice
namespace Go.Proofs.YteonakpgenkhkaaDoor
open Go.RowKit Go.Great
set_option linter.unusedVariables false
set_option linter.unusedSimpArgs false
def knames : List (List Int) := [[], [105, 100, 101, 110, 116], [102, 117, 110, 99, 116, 105, 111, 110], [97, 116], [104, 97, 115, 104], [115, 116, 114, 105, 110, 103], [98, 97, 100, 32, 115, 116, 114, 105, 110, 103], [117, 114, 108], [98, 97, 100, 32, 117, 114, 108], [100, 101, 108, 105, 109], [110, 117, 109, 98, 101, 114], [112, 101, 114, 99, 101, 110, 116, 97, 103, 101], [100, 105, 109, 101, 110, 115, 105, 111, 110], [114, 97, 110, 103, 101], [126, 61], [124, 61], [94, 61], [36, 61], [42, 61], [124, 124], [98, 108, 97, 110, 107], [60, 33, 45, 45], [45, 45, 62], [58], [59], [44], [91], [93], [40], [41], [123], [125], [99, 111, 109, 109, 101, 110, 116]]
def kcells : Array Value := (knames.map fun n => Value.string (bstr n)).toArray
def kzero : Array Value := (List.replicate 33 (Value.string ⟨#[]⟩)).toArray
/-- The name of a kind of tokens. -/
def kname (t : Int) : Option (List Int) := if 1 ≤ t ∧ t < 33 then some (knames.getD t.toNat []) else none
theorem kcells_size : kcells.size = 33 := by kernel_rfl
theorem kcells_at (i : Nat) (h : i < 33) : kcells[i]? = some (.string (bstr (knames.getD i []))) := by
  have : knames.length = 33 := by kernel_rfl
  unfold kcells
  rw [List.getElem?_toArray, List.getElem?_map, List.getD_eq_getElem?_getD, List.getElem?_eq_getElem (by omega)]
  rfl
theorem Tryd.size66 : (Tryd.prog.info? 66).map (·.size) = some kcells.size := by kernel_rfl
theorem cells_row (w : World) (i : Nat) : ((w.alloc (.cells kzero 66)).setRow w.heap.size kcells).cell? ⟨w.heap.size, i, none⟩ = kcells[i]? := by
  have h := setRow_heap (w.alloc (.cells kzero 66)) w.heap.size kzero kcells 66 (0, 0) (heap_new _ _)
  exact cell_of_block h i
theorem row_below (w : World) : Below w.heap.size w ((w.alloc (.cells kzero 66)).setRow w.heap.size kcells) :=
  ⟨rfl, rfl, rfl, by simp [World.setRow], fun k hk => by
    have h1 : (w.alloc (.cells kzero 66)).heap[k]? = w.heap[k]? := Below.heap_alloc _ _ _ hk
    rw [← h1]
    simp [World.setRow, Array.getElem?_modify, show ¬ w.heap.size = k by omega]⟩
set_option maxRecDepth 100000 in
set_option maxHeartbeats 4000000 in
theorem cssName_at (w : World) (i : Nat) (hi : i < 33) : Calls Tryd.prog 32 #[.int .u32 i] w fun e w' => e = .returned (.string (bstr (knames.getD i []))) ∧ Below w.heap.size w w' := by
  have hc := (cells_row w i).trans (kcells_at i hi)
  have hb := Hd.mk (row_below w)
  have h1 : ¬ ((33 : Int) ≤ (i : Int)) := by omega
  have h2 : (i : Int) < 33 := by omega
  have h3 : decide ((33 : Int) ≤ (i : Int)) = false := by rw [decide_eq_false_iff_not]; omega
  generalize hn : knames.getD i [] = n at hc ⊢
  clear hn
  go_enter Tryd.func32, Tryd.ntmps32
  go_wp2_with (first
    | (refine wpList_buildTo rfl 66 _ rfl (some 4) rfl kcells (by kernel_rfl) ?_)
    | (refine wpList_allocTo rfl (some 3) rfl (.pointer (some ⟨w.heap.size, 0, none⟩)) (.cells kzero 66) (by kernel_rfl) ?_)
    | (refine wpList_store_rowTo rfl 66 (.tmp 3) (.tmp 4) rfl rfl w.heap.size kcells rfl rfl 66 kzero (heap_new _ _) Tryd.size66 (by kernel_rfl) (by kernel_rfl) ?_))
  go_ret
  exact ⟨rfl, hb.out⟩
theorem cssName_calls (w : World) (t : Int) (n : List Int) (h : Hd (kname t = some n)) : Calls Tryd.prog 32 #[.int .u32 t] w fun e w' => e = .returned (.string (bstr n)) ∧ Below w.heap.size w w' := by
  have h := h.out
  unfold kname at h
  split at h
  · rename_i hb
    obtain rfl := Option.some.inj h
    have := cssName_at w t.toNat (by omega)
    rwa [Int.toNat_of_nonneg (by omega)] at this
  · cases h
end Go.Proofs.YteonakpgenkhkaaDoor
