import Derived.Test.YtfcedenofbefcaaGreatDoorX4
import Derived.Test.YtfcedenofbefcaaGreatDoorX5
namespace Go.Proofs.YtfcedenofbefcaaGreatDoor
open Go.RowKit
set_option linter.unusedVariables false
/-- Next of the lexer of XML. -/
def xNext.f (K : Nat) (B : List Int) (p : Int) (s : Int) (tg : Bool) (tl : Int) (th : Int) (al : Int) (ah : Int) : Option (Int × Int × Int × Int × Int × Bool × Int × Int × Int × Int) :=
  if tg = true then xNextT.f K B p s tg tl th al ah else xNextF.f K B p s tg tl th al ah
theorem xNext.calls (K : Nat) {w0 : World} {l z b : Nat} {B : List Int} {EA : Addr} {p s : Int} {tg : Bool} {tl : Int} {th : Int} {al : Int} {ah : Int} (hI0 : Xl w0 l z b B 179 EA p s tg tl th al ah) (r0 r1 r2 r3 r4 : Int) (r5 : Bool) (r6 r7 r8 r9 : Int) (H : Hd (xNext.f K B p s tg tl th al ah = some (r0, r1, r2, r3, r4, r5, r6, r7, r8, r9))) :
    Calls Tryz.prog 25 #[.pointer (some ⟨l, 0, none⟩)] w0 fun e w' => e = .returned (.tuple #[.int .u32 r0, nxv b r0 r1 r2]) ∧ Xl w' l z b B 179 EA r3 r4 r5 r6 r7 r8 r9 ∧ Fr l z w0 w' := by
  unfold xNext.f at H
  cases tg with
  | true => exact xNextT.calls K hI0 r0 r1 r2 r3 r4 r5 r6 r7 r8 r9 H.tt
  | false => exact xNextF.calls K hI0 r0 r1 r2 r3 r4 r5 r6 r7 r8 r9 H.ff
end Go.Proofs.YtfcedenofbefcaaGreatDoor
