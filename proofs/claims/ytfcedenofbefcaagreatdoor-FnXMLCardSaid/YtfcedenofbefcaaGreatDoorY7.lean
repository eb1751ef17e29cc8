import Derived.Test.YtfcedenofbefcaaGreatDoorX1
import Derived.Test.YtfcedenofbefcaaGreatDoorX2
import Derived.Test.YtfcedenofbefcaaGreatDoorX3
import Derived.Test.YtfcedenofbefcaaGreatDoorK8
namespace Go.Proofs.YtfcedenofbefcaaGreatDoor
open Go.RowKit
set_option linter.unusedVariables false
set_option linter.unusedSimpArgs false

/-! (*loop.example/pub-g01476/pub/tdxml.Lexer).Next -/
def xNCDATA.f (K : Nat) (B : List Int) (p : Int) (s : Int) (tg : Bool) (tl : Int) (th : Int) (al : Int) (ah : Int) : Option (Int × Int × Int × Int × Int × Bool × Int × Int × Int × Int) :=
(xshiftCDATAText.f K B (mv (mv p 2) 7) s false 0 0 al ah).bind fun (i333, i334, p335, s336, tl337, th338) =>
some (3, i333, i334, p335, s336, false, tl337, th338, al, ah)
set_option maxHeartbeats 8000000 in
set_option maxRecDepth 100000 in
theorem xNCDATA.calls (K : Nat) {w0 : World} {l z b : Nat} {B : List Int} {EA : Addr} {p s : Int} {tl : Int} {th : Int} {al : Int} {ah : Int} (hI0 : Xl w0 l z b B 179 EA p s false tl th al ah) (P0 : Hd (pk B p 0 = some 60)) (P1 : Hd (pk B p 1 = some 33)) (E0 : decide (0 < ps p s) = false) (T0 : Hd (atB B (mv p 2) [45, 45] 0 = some false)) (T1 : Hd (atB B (mv p 2) [91, 67, 68, 65, 84, 65, 91] 0 = some true)) (r0 : Int) (r1 : Int) (r2 : Int) (r3 : Int) (r4 : Int) (r5 : Bool) (r6 : Int) (r7 : Int) (r8 : Int) (r9 : Int) (H : Hd (xNCDATA.f K B p s false tl th al ah = some (r0, r1, r2, r3, r4, r5, r6, r7, r8, r9))) :
    Calls Tryz.prog 25 #[.pointer (some ⟨l, 0, none⟩)] w0 fun e w' => e = .returned (.tuple #[.int .u32 r0, nxv b r0 r1 r2]) ∧ Xl w' l z b B 179 EA r3 r4 r5 r6 r7 r8 r9 ∧ Fr l z w0 w' := by
  have hF0 : Fr l z w0 w0 := Fr.refl _ _ w0
  have c00 := hI0.c0
  have c10 := hI0.c1
  have c20 := hI0.c2
  have f0 := hI0.f
  obtain ⟨At0, nt0, ct0, hct0, hSt0⟩ := hI0.ct
  obtain ⟨Aa0, na0, ca0, hca0, hSa0⟩ := hI0.ca
  unfold xNCDATA.f at H
  go_enter Tryz.func25, Tryz.ntmps25
  go_wp2_with fail
  go_loopg [] 1 (fun gk w' => Hd (Xl w' l z b B 179 EA p s false 0 0 al ah) ∧ Hd (Fr l z w0 w'))
  case atStart => exact ⟨⟨(show Xl _ l z b B 179 EA p s false 0 0 al ah from by repeat (first | exact hI0 | apply Xl.drewN | apply Xl.drew | apply Xl.alloc | (apply Xl.setText; case hS => first | assumption | exact Sv.nil _ _) | (apply Xl.setAttr; case hS => first | assumption | exact Sv.nil _ _) | (apply Xl.setTextS; case hb => exact sel_of (by assumption)) | (apply Xl.setAttrS; case hb => exact sel_of (by assumption)) | apply Xl.setTag))⟩, ⟨(show Fr l z w0 _ from by repeat (first | exact hF0 | apply Fr.drewN | apply Fr.drew | apply Fr.alloc | apply Fr.setl))⟩⟩
  case round =>
    obtain ⟨gI, gF⟩ := hrel
    have hI322 := gI.out; have hF322 := gF.out; clear gI gF
    have c0322 := hI322.c0
    have c1322 := hI322.c1
    have c2322 := hI322.c2
    have f322 := hI322.f
    obtain ⟨At322, nt322, ct322, hct322, hSt322⟩ := hI322.ct
    obtain ⟨Aa322, na322, ca322, hca322, hSa322⟩ := hI322.ca
    go_wp2_with fail
    refine (Xl.Peek_calls hI322 0 60 P0).mono ?_
    rintro e w' ⟨rfl, rfl⟩
    go_wp2_with fail
    refine (Xl.Pos_calls hI322).mono ?_
    rintro e w323 ⟨rfl, hI323, k323⟩
    have hF323 := hF322.trans k323
    have c0323 := hI323.c0
    have c1323 := hI323.c1
    have c2323 := hI323.c2
    have f323 := hI323.f
    obtain ⟨At323, nt323, ct323, hct323, hSt323⟩ := hI323.ct
    obtain ⟨Aa323, na323, ca323, hca323, hSa323⟩ := hI323.ca
    go_wp2_with fail
    refine (Xl.Peek_calls hI323 1 33 P1).mono ?_
    rintro e w' ⟨rfl, rfl⟩
    go_wp2_with fail
    refine (Xl.Move_calls hI323 2).mono ?_
    rintro e w325 ⟨rfl, hI325, k325⟩
    have hF325 := hF323.trans k325
    have c0325 := hI325.c0
    have c1325 := hI325.c1
    have c2325 := hI325.c2
    have f325 := hI325.f
    obtain ⟨At325, nt325, ct325, hct325, hSt325⟩ := hI325.ct
    obtain ⟨Aa325, na325, ca325, hca325, hSa325⟩ := hI325.ca
    go_wp2_with fail
    refine (Xl.atS_calls (show Xl _ l z b B 179 EA (mv p 2) s false 0 0 al ah from by repeat (first | exact hI325 | apply Xl.drewN | apply Xl.drew | apply Xl.alloc | (apply Xl.setText; case hS => first | assumption | exact Sv.nil _ _) | (apply Xl.setAttr; case hS => first | assumption | exact Sv.nil _ _) | (apply Xl.setTextS; case hb => exact sel_of (by assumption)) | (apply Xl.setAttrS; case hb => exact sel_of (by assumption)) | apply Xl.setTag)) (lit_at (by simp) [45, 45]) false T0).mono ?_
    rintro e w328 ⟨rfl, hI328, k328⟩
    have hF328 := (show Fr l z w0 _ by repeat (first | exact hF325 | apply Fr.drewN | apply Fr.drew | apply Fr.alloc | apply Fr.setl)).trans k328
    have c0328 := hI328.c0
    have c1328 := hI328.c1
    have c2328 := hI328.c2
    have f328 := hI328.f
    obtain ⟨At328, nt328, ct328, hct328, hSt328⟩ := hI328.ct
    obtain ⟨Aa328, na328, ca328, hca328, hSa328⟩ := hI328.ca
    go_wp2_with fail
    refine (Xl.atS_calls (show Xl _ l z b B 179 EA (mv p 2) s false 0 0 al ah from by repeat (first | exact hI328 | apply Xl.drewN | apply Xl.drew | apply Xl.alloc | (apply Xl.setText; case hS => first | assumption | exact Sv.nil _ _) | (apply Xl.setAttr; case hS => first | assumption | exact Sv.nil _ _) | (apply Xl.setTextS; case hb => exact sel_of (by assumption)) | (apply Xl.setAttrS; case hb => exact sel_of (by assumption)) | apply Xl.setTag)) (lit_at (by simp) [91, 67, 68, 65, 84, 65, 91]) true T1).mono ?_
    rintro e w331 ⟨rfl, hI331, k331⟩
    have hF331 := (show Fr l z w0 _ by repeat (first | exact hF328 | apply Fr.drewN | apply Fr.drew | apply Fr.alloc | apply Fr.setl)).trans k331
    have c0331 := hI331.c0
    have c1331 := hI331.c1
    have c2331 := hI331.c2
    have f331 := hI331.f
    obtain ⟨At331, nt331, ct331, hct331, hSt331⟩ := hI331.ct
    obtain ⟨Aa331, na331, ca331, hca331, hSa331⟩ := hI331.ca
    go_wp2_with fail
    refine (Xl.Move_calls hI331 7).mono ?_
    rintro e w332 ⟨rfl, hI332, k332⟩
    have hF332 := hF331.trans k332
    have c0332 := hI332.c0
    have c1332 := hI332.c1
    have c2332 := hI332.c2
    have f332 := hI332.f
    obtain ⟨At332, nt332, ct332, hct332, hSt332⟩ := hI332.ct
    obtain ⟨Aa332, na332, ca332, hca332, hSa332⟩ := hI332.ca
    obtain ⟨⟨i333, i334, p335, s336, tl337, th338⟩, A339, HN⟩ := H.bind; clear H; have H := HN; clear HN
    try dsimp only at H
    go_wp2_with fail
    refine (xshiftCDATAText.calls K hI332  i333 i334 p335 s336 tl337 th338 A339).mono ?_
    rintro e w340 ⟨rfl, hI340, k340⟩
    have hF340 := hF332.trans k340
    have c0340 := hI340.c0
    have c1340 := hI340.c1
    have c2340 := hI340.c2
    have f340 := hI340.f
    obtain ⟨At340, nt340, ct340, hct340, hSt340⟩ := hI340.ct
    obtain ⟨Aa340, na340, ca340, hca340, hSa340⟩ := hI340.ca
    go_wp2_with fail
    go_ret2
    obtain ⟨rfl, rfl, rfl, rfl, rfl, rfl, rfl, rfl, rfl, rfl⟩ := H.p10
    exact ⟨(by first | rfl | (unfold nxv; rw [if_neg (by decide), Hd.out ‹Hd (slv _ _ _ = _)›]; rfl) | (simp only [nxv, *]; done) | (simp [nxv, *]; done)), hI340, hF340⟩
end Go.Proofs.YtfcedenofbefcaaGreatDoor
