import Derived.Test.YtfcedenofbefcaaGreatDoorK0
namespace Go.Proofs.YtfcedenofbefcaaGreatDoor
open Go.RowKit
set_option linter.unusedVariables false
set_option linter.unusedSimpArgs false
theorem Skip_calls {w : World} {z b : Nat} {B : List Int} {ET : TypeId} {EA : Addr} {p s : Int} (h : In w z b B ET EA p s) :
    Calls Tryz.prog 60 #[.pointer (some ⟨z, 0, none⟩)] w fun e w' => e = .returned (.tuple #[]) ∧ In w' z b B ET EA p p ∧ Fr z z w w' := by
  obtain ⟨cp, hcp, hz⟩ := h.inp
  have h1 := (cell_of_block hz 1).trans rfl
  have h2 := (cell_of_block hz 2).trans rfl
  have f2 := frozen_of_block hz 2
  clear hz
  go_enter Tryz.func60, Tryz.ntmps60
  go_wp2
  go_end0
  exact ⟨rfl, h.setStart _, (Fr.refl z z w).set _ _⟩
/-- A slice of the bytes of B from lo to hi (without bytes: anywhere). -/
def Sv (b : Nat) (B : List Int) (lo hi : Int) (A : Option Addr) (n c : Nat) : Prop := 0 ≤ lo ∧ hi ≤ B.length ∧ (n : Int) = hi - lo ∧ n ≤ c ∧ (0 < n → A = some ⟨b, lo.toNat, none⟩)
theorem Sv.nil (b : Nat) (B : List Int) : Sv b B 0 0 none 0 0 := ⟨by omega, by omega, by omega, by omega, fun h => by omega⟩
theorem slv_sv {b : Nat} {B : List Int} {lo hi : Int} (h : 0 ≤ lo ∧ lo ≤ hi ∧ hi ≤ B.length) : ∃ A n c, slv b lo hi = .slice A n c ∧ Sv b B lo hi A n c ∧ c = n := by
  unfold slv
  split
  · exact ⟨_, _, _, rfl, ⟨by omega, by omega, by omega, by omega, fun h => by omega⟩, rfl⟩
  · exact ⟨_, _, _, rfl, ⟨by omega, by omega, by omega, by omega, fun h => rfl⟩, rfl⟩
def cutB (lo hi i j : Int) : Option Unit := if 0 ≤ i ∧ i ≤ j ∧ j ≤ hi - lo then some () else none
theorem cutB_of {lo hi i j : Int} {u : Unit} (h : Hd (cutB lo hi i j = some u)) : 0 ≤ i ∧ i ≤ j ∧ j ≤ hi - lo := by
  have h := h.out
  unfold cutB at h
  split at h
  · assumption
  · cases h
theorem Tryz.underlying25 : Tryz.prog.underlying 25 = some (.slice 5) := by kernel_rfl
theorem Tryz.elem25 : Tryz.prog.elem 25 = 5 := by kernel_rfl
theorem Tryz.under25 : Tryz.prog.underlying 25 = some (.slice (Tryz.prog.elem 25)) := by rw [Tryz.elem25, Tryz.underlying25]
theorem Tryz.size5 (w : World) : (sizeOf (Tryz.prog.elem 25)).run Tryz.prog w = .ok 1 w := by rw [Tryz.elem25]; kernel_rfl
theorem sliced_sv {b : Nat} {B : List Int} {lo hi : Int} {A : Option Addr} {n c : Nat} (h : Sv b B lo hi A n c) (i j : Int) (h0 : 0 ≤ i) (h1 : i ≤ j) (h2 : j ≤ hi - lo) (hc : c = n ∨ i < n) :
    ∃ A' n' c', sliced A i.toNat j.toNat c 1 = .slice A' n' c' ∧ Sv b B (lo + i) (lo + j) A' n' c' := by
  obtain ⟨s1, s2, s3, s4, s5⟩ := h
  refine ⟨_, _, _, rfl, by omega, by omega, by omega, by omega, fun hp => ?_⟩
  rw [if_neg (by omega), s5 (by omega)]
  simp only [Option.map_some, Nat.mul_one, Addr.add]
  split
  · rename_i e; rw [show i = 0 by omega]; simp
  · simp only [Option.some.injEq, Addr.mk.injEq, and_true, true_and]; omega
/-- Cut behind i. -/
theorem cut_lo {b : Nat} {B : List Int} {lo hi : Int} {A : Option Addr} {n c : Nat} (h : Sv b B lo hi A n c) (i : Int) (u : Unit) (hu : Hd (cutB lo hi i (hi - lo) = some u)) :
    ∃ A' n' c', Sv b B (lo + i) hi A' n' c' ∧ ∀ w, (Instr.sliceAt 25 (.slice A n c) (some (.int .i64 i)) none none).run Tryz.prog w = .ok (.slice A' n' c') w := by
  obtain ⟨h0, h1, h2⟩ := cutB_of hu
  obtain ⟨s1, s2, s3, s4, s5⟩ := h
  refine ⟨if c = i.toNat then A else A.map (·.add (i.toNat * 1)), n - i.toNat, c - i.toNat, ⟨by omega, by omega, by omega, by omega, fun hp => ?_⟩, fun w => ?_⟩
  · rw [if_neg (by omega), s5 (by omega)]
    simp only [Option.map_some, Nat.mul_one, Addr.add]
    split
    · rename_i e; rw [show i = 0 by omega]; simp
    · simp only [Option.some.injEq, Addr.mk.injEq, and_true, true_and]; omega
  · rw [run_sliceAt_slice w 25 _ _ _ _ Tryz.under25, run_slice_l w 25 A n c Tryz.under25 .i64 i h0 (by omega), Tryz.size5]
    rfl
/-- Cut from i to j. -/
theorem cut_lh {b : Nat} {B : List Int} {lo hi : Int} {A : Option Addr} {n c : Nat} (h : Sv b B lo hi A n c) (i j : Int) (u : Unit) (hu : Hd (cutB lo hi i j = some u)) :
    ∃ A' n' c', Sv b B (lo + i) (lo + j) A' n' c' ∧ ∀ w, (Instr.sliceAt 25 (.slice A n c) (some (.int .i64 i)) (some (.int .i64 j)) none).run Tryz.prog w = .ok (.slice A' n' c') w := by
  obtain ⟨h0, h1, h2⟩ := cutB_of hu
  obtain ⟨s1, s2, s3, s4, s5⟩ := h
  refine ⟨if c = i.toNat then A else A.map (·.add (i.toNat * 1)), j.toNat - i.toNat, c - i.toNat, ⟨by omega, by omega, by omega, by omega, fun hp => ?_⟩, fun w => ?_⟩
  · rw [if_neg (by omega), s5 (by omega)]
    simp only [Option.map_some, Nat.mul_one, Addr.add]
    split
    · rename_i e; rw [show i = 0 by omega]; simp
    · simp only [Option.some.injEq, Addr.mk.injEq, and_true, true_and]; omega
  · rw [run_sliceAt_slice w 25 _ _ _ _ Tryz.under25, run_slice_lh w 25 A n c Tryz.under25 .i64 .i64 i j h0 h1 (by omega), Tryz.size5]
    rfl
/-- Cut ahead of j. -/
theorem cut_hi {b : Nat} {B : List Int} {lo hi : Int} {A : Option Addr} {n c : Nat} (h : Sv b B lo hi A n c) (j : Int) (u : Unit) (hu : Hd (cutB lo hi 0 j = some u)) :
    ∃ A' n' c', Sv b B lo (lo + j) A' n' c' ∧ ∀ w, (Instr.sliceAt 25 (.slice A n c) none (some (.int .i64 j)) none).run Tryz.prog w = .ok (.slice A' n' c') w := by
  obtain ⟨h0, h1, h2⟩ := cutB_of hu
  obtain ⟨s1, s2, s3, s4, s5⟩ := h
  refine ⟨if c = 0 then A else A.map (·.add (0 * 1)), j.toNat - 0, c - 0, ⟨by omega, by omega, by omega, by omega, fun hp => ?_⟩, fun w => ?_⟩
  · rw [if_neg (by omega), s5 (by omega)]
    simp [Addr.add]
  · rw [run_sliceAt_slice w 25 _ _ _ _ Tryz.under25, run_slice_h w 25 A n c Tryz.under25 .i64 j h1 (by omega), Tryz.size5]
    rfl
end Go.Proofs.YtfcedenofbefcaaGreatDoor
