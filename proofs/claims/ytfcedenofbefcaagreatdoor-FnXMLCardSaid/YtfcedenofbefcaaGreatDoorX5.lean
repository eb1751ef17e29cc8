import Derived.Test.YtfcedenofbefcaaGreatDoorY1
import Derived.Test.YtfcedenofbefcaaGreatDoorY2
import Derived.Test.YtfcedenofbefcaaGreatDoorY3
import Derived.Test.YtfcedenofbefcaaGreatDoorY4
import Derived.Test.YtfcedenofbefcaaGreatDoorY5
import Derived.Test.YtfcedenofbefcaaGreatDoorY6
import Derived.Test.YtfcedenofbefcaaGreatDoorY7
import Derived.Test.YtfcedenofbefcaaGreatDoorY8
namespace Go.Proofs.YtfcedenofbefcaaGreatDoor
open Go.RowKit
set_option linter.unusedVariables false
/-- Next of the lexer of XML, out of a tag. -/
def xNextF.f (K : Nat) (B : List Int) (p : Int) (s : Int) (tg : Bool) (tl : Int) (th : Int) (al : Int) (ah : Int) : Option (Int × Int × Int × Int × Int × Bool × Int × Int × Int × Int) :=
  (pk B p 0).bind fun c =>
  if decide (0 < ps p s) = true then xNText.f K B p s false tl th al ah else
  if (c == 60) = true then ((pk B p 1).bind fun d =>
    if (d == 47) = true then xNEnd.f K B p s false tl th al ah else
    if (d == 33) = true then ((atB B (mv p 2) [45, 45] 0).bind fun t0 => if t0 = true then xNComment.f K B p s false tl th al ah else
      (atB B (mv p 2) [91, 67, 68, 65, 84, 65, 91] 0).bind fun t1 => if t1 = true then xNCDATA.f K B p s false tl th al ah else
      (atB B (mv p 2) [68, 79, 67, 84, 89, 80, 69] 0).bind fun t2 => if t2 = true then xNDOCTYPE.f K B p s false tl th al ah else none) else
    if (d == 63) = true then xNPI.f K B p s false tl th al ah else xNStart.f K B p s false tl th al ah) else
  if (c == 0) = true then xNLast.f B p s false tl th al ah else xNText.f K B p s false tl th al ah
theorem xNextF.calls (K : Nat) {w0 : World} {l z b : Nat} {B : List Int} {EA : Addr} {p s : Int} {tl : Int} {th : Int} {al : Int} {ah : Int} (hI0 : Xl w0 l z b B 179 EA p s false tl th al ah) (r0 r1 r2 r3 r4 : Int) (r5 : Bool) (r6 r7 r8 r9 : Int) (H : Hd (xNextF.f K B p s false tl th al ah = some (r0, r1, r2, r3, r4, r5, r6, r7, r8, r9))) :
    Calls Tryz.prog 25 #[.pointer (some ⟨l, 0, none⟩)] w0 fun e w' => e = .returned (.tuple #[.int .u32 r0, nxv b r0 r1 r2]) ∧ Xl w' l z b B 179 EA r3 r4 r5 r6 r7 r8 r9 ∧ Fr l z w0 w' := by
  unfold xNextF.f at H
  obtain ⟨c, P0, H⟩ := H.bind
  by_cases hp : decide (0 < ps p s) = true
  · exact xNText.calls K hI0 r0 r1 r2 r3 r4 r5 r6 r7 r8 r9 (H.pos hp)
  replace H := H.neg hp
  have E0 := Bool.eq_false_iff.mpr hp
  by_cases hc : (c == 60) = true
  · obtain rfl := beq_iff_eq.mp hc
    obtain ⟨d, P1, H⟩ := (H.pos hc).bind
    by_cases h1 : (d == 47) = true
    · obtain rfl := beq_iff_eq.mp h1
      exact xNEnd.calls K hI0 P0 P1 E0 r0 r1 r2 r3 r4 r5 r6 r7 r8 r9 (H.pos h1)
    replace H := H.neg h1
    by_cases h2 : (d == 33) = true
    · obtain rfl := beq_iff_eq.mp h2
      obtain ⟨t0, T0, H⟩ := (H.pos h2).bind
      cases t0 with
      | true => exact xNComment.calls K hI0 P0 P1 E0 T0 r0 r1 r2 r3 r4 r5 r6 r7 r8 r9 H.tt
      | false =>
        obtain ⟨t1, T1, H⟩ := H.ff.bind
        cases t1 with
        | true => exact xNCDATA.calls K hI0 P0 P1 E0 T0 T1 r0 r1 r2 r3 r4 r5 r6 r7 r8 r9 H.tt
        | false =>
          obtain ⟨t2, T2, H⟩ := H.ff.bind
          cases t2 with
          | true => exact xNDOCTYPE.calls K hI0 P0 P1 E0 T0 T1 T2 r0 r1 r2 r3 r4 r5 r6 r7 r8 r9 H.tt
          | false => exact H.ff.no
    replace H := H.neg h2
    by_cases h3 : (d == 63) = true
    · obtain rfl := beq_iff_eq.mp h3
      exact xNPI.calls K hI0 P0 P1 E0 r0 r1 r2 r3 r4 r5 r6 r7 r8 r9 (H.pos h3)
    replace H := H.neg h3
    exact xNStart.calls K hI0 d P0 P1 E0 (Bool.eq_false_iff.mpr h1) (Bool.eq_false_iff.mpr h2) (Bool.eq_false_iff.mpr h3) r0 r1 r2 r3 r4 r5 r6 r7 r8 r9 H
  replace H := H.neg hc
  by_cases h0 : (c == 0) = true
  · obtain rfl := beq_iff_eq.mp h0
    exact xNLast.calls hI0 P0 E0 r0 r1 r2 r3 r4 r5 r6 r7 r8 r9 (H.pos h0)
  replace H := H.neg h0
  exact xNText.calls K hI0 r0 r1 r2 r3 r4 r5 r6 r7 r8 r9 H
end Go.Proofs.YtfcedenofbefcaaGreatDoor
