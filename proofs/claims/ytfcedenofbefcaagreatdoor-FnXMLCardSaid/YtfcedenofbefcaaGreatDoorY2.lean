import Derived.Test.YtfcedenofbefcaaGreatDoorX1
import Derived.Test.YtfcedenofbefcaaGreatDoorX2
import Derived.Test.YtfcedenofbefcaaGreatDoorX3
import Derived.Test.YtfcedenofbefcaaGreatDoorK8
namespace Go.Proofs.YtfcedenofbefcaaGreatDoor
open Go.RowKit
set_option linter.unusedVariables false
set_option linter.unusedSimpArgs false

/-! (*loop.example/pub-g01476/pub/tdxml.Lexer).Next -/
def xNLast.f (B : List Int) (p : Int) (s : Int) (tg : Bool) (tl : Int) (th : Int) (al : Int) (ah : Int) : Option (Int × Int × Int × Int × Int × Bool × Int × Int × Int × Int) :=
if (atEnd B p 0) = true then (some (0, 0, 0, p, s, false, 0, 0, al, ah)) else
none
set_option maxHeartbeats 8000000 in
set_option maxRecDepth 100000 in
theorem xNLast.calls {w0 : World} {l z b : Nat} {B : List Int} {EA : Addr} {p s : Int} {tl : Int} {th : Int} {al : Int} {ah : Int} (hI0 : Xl w0 l z b B 179 EA p s false tl th al ah) (P0 : Hd (pk B p 0 = some 0)) (E0 : decide (0 < ps p s) = false) (r0 : Int) (r1 : Int) (r2 : Int) (r3 : Int) (r4 : Int) (r5 : Bool) (r6 : Int) (r7 : Int) (r8 : Int) (r9 : Int) (H : Hd (xNLast.f B p s false tl th al ah = some (r0, r1, r2, r3, r4, r5, r6, r7, r8, r9))) :
    Calls Tryz.prog 25 #[.pointer (some ⟨l, 0, none⟩)] w0 fun e w' => e = .returned (.tuple #[.int .u32 r0, nxv b r0 r1 r2]) ∧ Xl w' l z b B 179 EA r3 r4 r5 r6 r7 r8 r9 ∧ Fr l z w0 w' := by
  have hF0 : Fr l z w0 w0 := Fr.refl _ _ w0
  have c00 := hI0.c0
  have c10 := hI0.c1
  have c20 := hI0.c2
  have f0 := hI0.f
  obtain ⟨At0, nt0, ct0, hct0, hSt0⟩ := hI0.ct
  obtain ⟨Aa0, na0, ca0, hca0, hSa0⟩ := hI0.ca
  unfold xNLast.f at H
  go_enter Tryz.func25, Tryz.ntmps25
  go_wp2_with fail
  go_loopg [] 1 (fun gk w' => Hd (Xl w' l z b B 179 EA p s false 0 0 al ah) ∧ Hd (Fr l z w0 w'))
  case atStart => exact ⟨⟨(show Xl _ l z b B 179 EA p s false 0 0 al ah from by repeat (first | exact hI0 | apply Xl.drewN | apply Xl.drew | apply Xl.alloc | (apply Xl.setText; case hS => first | assumption | exact Sv.nil _ _) | (apply Xl.setAttr; case hS => first | assumption | exact Sv.nil _ _) | (apply Xl.setTextS; case hb => exact sel_of (by assumption)) | (apply Xl.setAttrS; case hb => exact sel_of (by assumption)) | apply Xl.setTag))⟩, ⟨(show Fr l z w0 _ from by repeat (first | exact hF0 | apply Fr.drewN | apply Fr.drew | apply Fr.alloc | apply Fr.setl))⟩⟩
  case round =>
    obtain ⟨gI, gF⟩ := hrel
    have hI322 := gI.out; have hF322 := gF.out; clear gI gF
    have c0322 := hI322.c0
    have c1322 := hI322.c1
    have c2322 := hI322.c2
    have f322 := hI322.f
    obtain ⟨At322, nt322, ct322, hct322, hSt322⟩ := hI322.ct
    obtain ⟨Aa322, na322, ca322, hca322, hSa322⟩ := hI322.ca
    go_wp2_with fail
    refine (Xl.Peek_calls hI322 0 0 P0).mono ?_
    rintro e w' ⟨rfl, rfl⟩
    go_wp2_with fail
    refine (Xl.Pos_calls hI322).mono ?_
    rintro e w323 ⟨rfl, hI323, k323⟩
    have hF323 := hF322.trans k323
    have c0323 := hI323.c0
    have c1323 := hI323.c1
    have c2323 := hI323.c2
    have f323 := hI323.f
    obtain ⟨At323, nt323, ct323, hct323, hSt323⟩ := hI323.ct
    obtain ⟨Aa323, na323, ca323, hca323, hSa323⟩ := hI323.ca
    by_cases e324 : (atEnd B p 0) = true
    · 
      replace H := H.pos e324
      as_aux_lemma =>
        go_wp2_with fail
        refine (Xl.Err_end_calls hI323 e324).mono ?_
        rintro e w325 ⟨rfl, hI325, k325⟩
        have hF325 := hF323.trans k325
        have c0325 := hI325.c0
        have c1325 := hI325.c1
        have c2325 := hI325.c2
        have f325 := hI325.f
        obtain ⟨At325, nt325, ct325, hct325, hSt325⟩ := hI325.ct
        obtain ⟨Aa325, na325, ca325, hca325, hSa325⟩ := hI325.ca
        go_wp2_with fail
        go_ret2
        obtain ⟨rfl, rfl, rfl, rfl, rfl, rfl, rfl, rfl, rfl, rfl⟩ := H.p10
        exact ⟨(by first | rfl | (unfold nxv; rw [if_neg (by decide), Hd.out ‹Hd (slv _ _ _ = _)›]; rfl) | (simp only [nxv, *]; done) | (simp [nxv, *]; done)), hI325, hF325⟩
    ·
      replace H := H.neg e324
      replace e324 := Bool.eq_false_iff.mpr e324
      go_wp2_with fail
      refine (Xl.Err_not_calls hI323 e324).mono ?_
      rintro e w326 ⟨rfl, hI326, k326⟩
      have hF326 := hF323.trans k326
      have c0326 := hI326.c0
      have c1326 := hI326.c1
      have c2326 := hI326.c2
      have f326 := hI326.f
      obtain ⟨At326, nt326, ct326, hct326, hSt326⟩ := hI326.ct
      obtain ⟨Aa326, na326, ca326, hca326, hSa326⟩ := hI326.ca
      exact H.no
end Go.Proofs.YtfcedenofbefcaaGreatDoor
