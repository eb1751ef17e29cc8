import Derived.Test.YtfcedenofbefcaaGreatDoorHT
import Derived.Test.YtfcedenofbefcaaGreatDoorHR
import Derived.Test.YtfcedenofbefcaaGreatDoorHX
import Derived.Test.YtfcedenofbefcaaGreatDoorHS
namespace Go.Proofs.YtfcedenofbefcaaGreatDoor
open Go.RowKit
set_option linter.unusedVariables false
/-- Next of the lexer of HTML, out of a tag, where no element of characters alone has begun. -/
def hNextF.f (K : Nat) (B : List Int) (p s : Int) (tl th al ah : Int) : Option (Int × Int × Int × Int × Int × Int × Bool × Int × Int × Int × Int) :=
  (pk B p 0).bind fun c =>
  if decide (0 < ps p s) = true then hNText.f K B p s 0 false tl th al ah else
  if (c == 60) = true then ((pk B p 1).bind fun d =>
    if (d == 47) = true then ((pk B p 2).bind fun e => (pk B (mv p 2) 0).bind fun e' => if e = e' ∧ 97 ≤ e ∧ e ≤ 122 then hNEnd.f K B p s 0 false tl th al ah else none) else
    if (d == 33) = true then hNMark.f K B p s 0 false tl th al ah else
    if 97 ≤ d ∧ d ≤ 122 then hNStart.f K B p s 0 false tl th al ah else none) else
  if (c == 0) = true then (if atEnd B p 0 = true then hNLast.f B p s 0 false tl th al ah else none) else hNText.f K B p s 0 false tl th al ah
theorem hNextF.calls (K : Nat) {w0 : World} {l z b : Nat} {B : List Int} {EA : Addr} {p s : Int} {tl th al ah : Int} (hI0 : Hl w0 l z b B 179 EA p s 0 false tl th al ah) (r0 r1 r2 r3 r4 r5 : Int) (r6 : Bool) (r7 r8 r9 r10 : Int) (H : Hd (hNextF.f K B p s tl th al ah = some (r0, r1, r2, r3, r4, r5, r6, r7, r8, r9, r10))) :
    Calls Tryz.prog 33 #[.pointer (some ⟨l, 0, none⟩)] w0 fun e w' => e = .returned (.tuple #[.int .u32 r0, nxv b r0 r1 r2]) ∧ Hl w' l z b B 179 EA r3 r4 r5 r6 r7 r8 r9 r10 ∧ Fr l z w0 w' := by
  unfold hNextF.f at H
  obtain ⟨c, P0, H⟩ := H.bind
  by_cases hp : decide (0 < ps p s) = true
  · exact hNText.calls K hI0 r0 r1 r2 r3 r4 r5 r6 r7 r8 r9 r10 (H.pos hp)
  replace H := H.neg hp
  have E0 := Bool.eq_false_iff.mpr hp
  by_cases hc : (c == 60) = true
  · obtain rfl := beq_iff_eq.mp hc
    obtain ⟨d, P1, H⟩ := (H.pos hc).bind
    by_cases h1 : (d == 47) = true
    · obtain rfl := beq_iff_eq.mp h1
      obtain ⟨e, P2, H⟩ := (H.pos h1).bind
      obtain ⟨e', P3, H⟩ := H.bind
      by_cases he : e = e' ∧ 97 ≤ e ∧ e ≤ 122
      · obtain ⟨rfl, ha, hz⟩ := he
        exact hNEnd.calls K hI0 e P0 P1 P2 P3 E0 (decide_eq_true ha) (decide_eq_true hz) (beq_eq_false_iff_ne.mpr (by omega)) (beq_eq_false_iff_ne.mpr (by omega)) (decide_eq_false (by omega)) (decide_eq_false (by omega)) r0 r1 r2 r3 r4 r5 r6 r7 r8 r9 r10 (H.pos ⟨rfl, ha, hz⟩)
      · exact (H.neg he).no
    replace H := H.neg h1
    by_cases h2 : (d == 33) = true
    · obtain rfl := beq_iff_eq.mp h2
      exact hNMark.calls K hI0 P0 P1 E0 r0 r1 r2 r3 r4 r5 r6 r7 r8 r9 r10 (H.pos h2)
    replace H := H.neg h2
    by_cases h3 : 97 ≤ d ∧ d ≤ 122
    · exact hNStart.calls K hI0 d P0 P1 E0 (decide_eq_true h3.1) (decide_eq_true h3.2) (beq_eq_false_iff_ne.mpr (by omega)) (beq_eq_false_iff_ne.mpr (by omega)) (decide_eq_false (by omega)) (decide_eq_false (by omega)) (beq_eq_false_iff_ne.mpr (by omega)) (beq_eq_false_iff_ne.mpr (by omega)) (beq_eq_false_iff_ne.mpr (by omega)) r0 r1 r2 r3 r4 r5 r6 r7 r8 r9 r10 (H.pos h3)
    · exact (H.neg h3).no
  replace H := H.neg hc
  by_cases h0 : (c == 0) = true
  · obtain rfl := beq_iff_eq.mp h0
    replace H := H.pos h0
    by_cases hE : atEnd B p 0 = true
    · exact hNLast.calls hI0 P0 E0 hE r0 r1 r2 r3 r4 r5 r6 r7 r8 r9 r10 (H.pos hE)
    · exact (H.neg hE).no
  replace H := H.neg h0
  exact hNText.calls K hI0 r0 r1 r2 r3 r4 r5 r6 r7 r8 r9 r10 H
/-- Next of the lexer of HTML. -/
def hNext.f (K : Nat) (B : List Int) (p s : Int) (rt : Int) (tg : Bool) (tl th al ah : Int) : Option (Int × Int × Int × Int × Int × Int × Bool × Int × Int × Int × Int) :=
  if tg = true then hNextT.f K B p s rt true tl th al ah else if (rt == 0) = true then hNextF.f K B p s tl th al ah else hNRaw.f K B p s rt false tl th al ah
theorem hNext.calls (K : Nat) {w0 : World} {l z b : Nat} {B : List Int} {EA : Addr} {p s : Int} {rt : Int} {tg : Bool} {tl th al ah : Int} (hI0 : Hl w0 l z b B 179 EA p s rt tg tl th al ah) (r0 r1 r2 r3 r4 r5 : Int) (r6 : Bool) (r7 r8 r9 r10 : Int) (H : Hd (hNext.f K B p s rt tg tl th al ah = some (r0, r1, r2, r3, r4, r5, r6, r7, r8, r9, r10))) :
    Calls Tryz.prog 33 #[.pointer (some ⟨l, 0, none⟩)] w0 fun e w' => e = .returned (.tuple #[.int .u32 r0, nxv b r0 r1 r2]) ∧ Hl w' l z b B 179 EA r3 r4 r5 r6 r7 r8 r9 r10 ∧ Fr l z w0 w' := by
  unfold hNext.f at H
  cases tg with
  | true => exact hNextT.calls K hI0 r0 r1 r2 r3 r4 r5 r6 r7 r8 r9 r10 H.tt
  | false =>
    replace H := H.ff
    by_cases h0 : (rt == 0) = true
    · obtain rfl := beq_iff_eq.mp h0
      exact hNextF.calls K hI0 r0 r1 r2 r3 r4 r5 r6 r7 r8 r9 r10 (H.pos h0)
    · exact hNRaw.calls K hI0 (Bool.eq_false_iff.mpr h0) r0 r1 r2 r3 r4 r5 r6 r7 r8 r9 r10 (H.neg h0)
end Go.Proofs.YtfcedenofbefcaaGreatDoor
