import Derived.Test.YtfcedenofbefcaaGreatDoorK5
namespace Go.Proofs.YtfcedenofbefcaaGreatDoor
open Go.RowKit
/-- The bytes of a token; none of the last one. -/
def nxv (b : Nat) (t lo hi : Int) : Value := if t = 0 then .slice none 0 0 else slv b lo hi
theorem Xl.ShiftV_calls {w : World} {l z b : Nat} {B : List Int} {EA : Addr} {ET : TypeId} {p s : Int} {tg : Bool} {tl : Int} {th : Int} {al : Int} {ah : Int} (h : Xl w l z b B ET EA p s tg tl th al ah) (u : Unit) (hu : Hd (sel B p s = some u)) :
    Calls Tryz.prog 61 #[.pointer (some ⟨z, 0, none⟩)] w fun e w' => (∃ A n c, e = .returned (.slice A n c) ∧ Sv b B s p A n c ∧ Hd (slv b s p = .slice A n c)) ∧ Xl w' l z b B ET EA p p tg tl th al ah ∧ Fr l z w w' := by
  obtain ⟨A, n, c, e1, hS, _⟩ := slv_sv (b := b) (sel_of hu)
  refine (Xl.Shift_calls h u hu).mono ?_
  rintro e w' ⟨rfl, h2, h3⟩
  exact ⟨⟨A, n, c, by rw [e1], hS, ⟨e1⟩⟩, h2, h3⟩
theorem Xl.atS_calls {w : World} {l z b : Nat} {B : List Int} {ET : TypeId} {EA : Addr} {p s : Int} {tg : Bool} {tl th al ah : Int} {A : Option Addr} {cp : Nat} {L : List Int} (hI : Xl w l z b B ET EA p s tg tl th al ah) (h : Bytes w A L) (r : Bool) (H : Hd (atB B p L 0 = some r)) :
    Calls Tryz.prog 64 #[.pointer (some ⟨l, 0, none⟩), .slice A L.length cp] w fun e w' => e = .returned (.bool r) ∧ Xl w' l z b B ET EA p s tg tl th al ah ∧ Fr l z w w' :=
  (Xl.at_calls hI h r H).mono fun e w' ⟨h1, h2⟩ => by subst h2; exact ⟨h1, hI, Fr.refl _ _ _⟩
end Go.Proofs.YtfcedenofbefcaaGreatDoor
