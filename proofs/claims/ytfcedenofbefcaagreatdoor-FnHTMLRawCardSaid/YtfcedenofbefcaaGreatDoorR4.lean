import Derived.Test.YtfcedenofbefcaaGreatDoorR2
import Derived.Test.YtfcedenofbefcaaGreatDoorK4
import Derived.Deep.Slices
namespace Go.Proofs.YtfcedenofbefcaaGreatDoor
open Go.ChangeShapes Go.WideShapes Go.ChangeAt Go.RowKit
set_option linter.unusedVariables false
set_option linter.unusedSimpArgs false
theorem Tryz.bytes5 : Tryz.prog.bytesOf 5 = 1 := by kernel_rfl
def isU8 (T : List Int) : Prop := ∀ j, j < T.length → 0 ≤ T.getD j 0 ∧ T.getD j 0 < 256

set_option maxRecDepth 100000 in
theorem bytes_in2 {H : Type} {enc : TypeId × Value → H} {W : World} {base : Nat} {v0 : Value} {d0 : DataW H} {p : List MemPlace} (hv : Value.okWide Tryz.prog W .any base 25 v0) (h0 : DataW.Trod enc Tryz.prog W 0 (fun _ => true) true 25 v0 d0 p) (hw : (DataW.weights Tryz.prog 25 d0).all (· ≤ reachBytes) = true) :
    ∃ (A : Option Addr) (T : List Int) (cp : Nat), v0 = .slice A T.length cp ∧ Bytes W A T ∧ (∀ ad, A = some ad → ad.block < W.heap.size) ∧ isU8 T ∧ T.length ≤ cp ∧ (A = none → cp = 0) := by
  obtain ⟨a0, len, cap, rfl⟩ := okWide_slice Tryz.underlying25 hv
  obtain ⟨fuel, hf⟩ := h0
  rcases open_ints Tryz.underlying25 Tryz.underlying5 Tryz.cells5 hf with ⟨hcs, hx⟩ | ⟨a, len', cap', zs, hcs, _, hl, hm, hz, hx, hcell, hwz⟩
  · simp [Value.cells] at hcs
    obtain ⟨rfl, rfl, rfl⟩ := hcs
    refine ⟨none, [], 0, rfl, ⟨by decide, fun h => absurd h (by decide)⟩, ⟨fun ad e => (nomatch e), fun j hj => absurd hj (by simp), Nat.le_refl _, fun _ => rfl⟩⟩
  · simp [Value.cells] at hcs
    obtain ⟨rfl, rfl, rfl⟩ := hcs
    simp only [if_true] at hz
    have hlen : (zs.take len).length = len := by rw [List.length_take]; omega
    have hsz : zs.length ≤ 140737488351232 := by
      have hx1 := congrArg Prod.fst hx
      dsimp only at hx1
      rw [hx1] at hw
      simp only [DataW.weights, Tryz.underlying25, Tryz.bytes5, List.cons_append, List.all_cons, Bool.and_eq_true, decide_eq_true_eq, lits, List.length_map, List.length_take, List.length_drop, Nat.mul_one] at hw
      have := hw.1
      unfold reachBytes at this
      omega
    have hin : a.block < W.heap.size := by
      simp only [Value.okWide, Tryz.underlying25, Cell.okWide, Cell.ok] at hv
      obtain ⟨_, _, _, _, row, cells, hs, _⟩ := hv
      rcases Nat.lt_or_ge a.block W.heap.size with h | h
      · exact h
      · simp [World.shape?, Array.getElem?_eq_none h] at hs
    have hspot : a.spot = none := by
      simp only [Value.okWide, Tryz.underlying25, Cell.okWide, Cell.ok] at hv
      exact hv.2.2.2.1
    obtain ⟨b, off, spot⟩ := a
    simp only at hspot
    subst hspot
    have hget : ∀ j, j < len → (zs.take len).getD j 0 = zs.getD j 0 := fun j hj => by
      rw [List.getD_eq_getElem?_getD, List.getD_eq_getElem?_getD, List.getElem?_take, if_pos hj]
    refine ⟨some ⟨b, off, none⟩, zs.take len, cap, by rw [hlen], ⟨by rw [hlen]; omega, fun _ => ⟨b, off, rfl, fun j hj => ?_⟩⟩, fun ad e => by cases e; exact hin, fun j hj => ?_, by rw [hlen]; exact hl, fun e => by cases e⟩
    · rw [hlen] at hj
      rw [hget j hj]
      have := hcell j (by omega)
      have e : (⟨b, off, none⟩ : Addr).add j = ⟨b, off + j, none⟩ := by unfold Addr.add; split <;> simp_all
      rw [e] at this
      exact this
    · rw [hlen] at hj
      rw [hget j hj]
      have hm' : zs.getD j 0 ∈ zs := by
        rw [List.getD_eq_getElem?_getD, List.getElem?_eq_getElem (by omega : j < zs.length)]
        exact List.getElem_mem _
      have := hwz _ hm'
      generalize zs.getD j 0 = x at this
      simp [Lit.wf, IntKind.min, IntKind.max, IntKind.signed, IntKind.bits] at this
      omega
end Go.Proofs.YtfcedenofbefcaaGreatDoor
