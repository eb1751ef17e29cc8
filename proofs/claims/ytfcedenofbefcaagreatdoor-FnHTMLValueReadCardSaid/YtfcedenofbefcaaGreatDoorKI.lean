import Derived.Test.YtfcedenofbefcaaGreatDoorKH
namespace Go.Proofs.YtfcedenofbefcaaGreatDoor
open Go.RowKit
set_option linter.unusedVariables false
set_option linter.unusedSimpArgs false
/-- The number of the bytes from lo to hi. -/
def hashB (B : List Int) (lo hi : Int) : Option Int := some (toHash ((B.drop lo.toNat).take (hi.toNat - lo.toNat)))
def rng (B : List Int) (lo hi : Int) : Option Unit := if 0 ≤ lo ∧ lo ≤ hi ∧ hi ≤ B.length then some () else none
theorem rng_of {B : List Int} {lo hi : Int} {u : Unit} (h : Hd (rng B lo hi = some u)) : 0 ≤ lo ∧ lo ≤ hi ∧ hi ≤ B.length := by
  have h := h.out
  unfold rng at h
  split at h
  · assumption
  · cases h
theorem Hl.HashC_calls {w : World} {l z b : Nat} {B : List Int} {EA : Addr} {ET : TypeId} {p s : Int} {rt : Int} {tg : Bool} {tl : Int} {th : Int} {al : Int} {ah : Int} (h : Hl w l z b B ET EA p s rt tg tl th al ah) {lo hi : Int} {A : Option Addr} {n c : Nat} (hC : Cpy w B lo hi A n c) (x : Int) (hx : Hd (hashB B lo hi = some x)) :
    Calls Tryz.prog 91 #[.slice A n c] w fun e w' => e = .returned (.int .u32 x) ∧ Hl w' l z b B ET EA p s rt tg tl th al ah ∧ Fr l z w w' := by
  have := Hash_calls (cp := c) hC.by_ h.tab
  rw [← hC.len] at this
  refine this.mono ?_
  rintro e w' ⟨rfl, hB⟩
  have e := Option.some.inj hx.out
  exact ⟨by rw [e], h.below hB, Fr.below hB⟩
theorem Hl.Hash_calls {w : World} {l z b : Nat} {B : List Int} {EA : Addr} {ET : TypeId} {p s : Int} {rt : Int} {tg : Bool} {tl : Int} {th : Int} {al : Int} {ah : Int} (h : Hl w l z b B ET EA p s rt tg tl th al ah) {lo hi : Int} {A : Option Addr} {n c : Nat} (hS : Sv b B lo hi A n c) (x : Int) (hx : Hd (hashB B lo hi = some x)) :
    Calls Tryz.prog 91 #[.slice A n c] w fun e w' => e = .returned (.int .u32 x) ∧ Hl w' l z b B ET EA p s rt tg tl th al ah ∧ Fr l z w w' := by
  obtain ⟨h1, h2⟩ := sv_bytes h.inp hS
  exact h.HashC_calls ⟨h1, h2⟩ x hx
end Go.Proofs.YtfcedenofbefcaaGreatDoor
