import Derived.Test.YtfcedenofbefcaaGreatDoorX1
import Derived.Test.YtfcedenofbefcaaGreatDoorX2
import Derived.Test.YtfcedenofbefcaaGreatDoorX3
import Derived.Test.YtfcedenofbefcaaGreatDoorK8
namespace Go.Proofs.YtfcedenofbefcaaGreatDoor
open Go.RowKit
set_option linter.unusedVariables false
set_option linter.unusedSimpArgs false

/-! (*loop.example/pub-g01476/pub/tdxml.Lexer).Next -/
def xNComment.f (K : Nat) (B : List Int) (p : Int) (s : Int) (tg : Bool) (tl : Int) (th : Int) (al : Int) (ah : Int) : Option (Int × Int × Int × Int × Int × Bool × Int × Int × Int × Int) :=
(xshiftCommentText.f K B (mv (mv p 2) 2) s false 0 0 al ah).bind fun (i330, i331, p332, s333, tl334, th335) =>
some (1, i330, i331, p332, s333, false, tl334, th335, al, ah)
set_option maxHeartbeats 8000000 in
set_option maxRecDepth 100000 in
theorem xNComment.calls (K : Nat) {w0 : World} {l z b : Nat} {B : List Int} {EA : Addr} {p s : Int} {tl : Int} {th : Int} {al : Int} {ah : Int} (hI0 : Xl w0 l z b B 179 EA p s false tl th al ah) (P0 : Hd (pk B p 0 = some 60)) (P1 : Hd (pk B p 1 = some 33)) (E0 : decide (0 < ps p s) = false) (T0 : Hd (atB B (mv p 2) [45, 45] 0 = some true)) (r0 : Int) (r1 : Int) (r2 : Int) (r3 : Int) (r4 : Int) (r5 : Bool) (r6 : Int) (r7 : Int) (r8 : Int) (r9 : Int) (H : Hd (xNComment.f K B p s false tl th al ah = some (r0, r1, r2, r3, r4, r5, r6, r7, r8, r9))) :
    Calls Tryz.prog 25 #[.pointer (some ⟨l, 0, none⟩)] w0 fun e w' => e = .returned (.tuple #[.int .u32 r0, nxv b r0 r1 r2]) ∧ Xl w' l z b B 179 EA r3 r4 r5 r6 r7 r8 r9 ∧ Fr l z w0 w' := by
  have hF0 : Fr l z w0 w0 := Fr.refl _ _ w0
  have c00 := hI0.c0
  have c10 := hI0.c1
  have c20 := hI0.c2
  have f0 := hI0.f
  obtain ⟨At0, nt0, ct0, hct0, hSt0⟩ := hI0.ct
  obtain ⟨Aa0, na0, ca0, hca0, hSa0⟩ := hI0.ca
  unfold xNComment.f at H
  go_enter Tryz.func25, Tryz.ntmps25
  go_wp2_with fail
  go_loopg [] 1 (fun gk w' => Hd (Xl w' l z b B 179 EA p s false 0 0 al ah) ∧ Hd (Fr l z w0 w'))
  case atStart => exact ⟨⟨(show Xl _ l z b B 179 EA p s false 0 0 al ah from by repeat (first | exact hI0 | apply Xl.drewN | apply Xl.drew | apply Xl.alloc | (apply Xl.setText; case hS => first | assumption | exact Sv.nil _ _) | (apply Xl.setAttr; case hS => first | assumption | exact Sv.nil _ _) | (apply Xl.setTextS; case hb => exact sel_of (by assumption)) | (apply Xl.setAttrS; case hb => exact sel_of (by assumption)) | apply Xl.setTag))⟩, ⟨(show Fr l z w0 _ from by repeat (first | exact hF0 | apply Fr.drewN | apply Fr.drew | apply Fr.alloc | apply Fr.setl))⟩⟩
  case round =>
    obtain ⟨gI, gF⟩ := hrel
    have hI322 := gI.out; have hF322 := gF.out; clear gI gF
    have c0322 := hI322.c0
    have c1322 := hI322.c1
    have c2322 := hI322.c2
    have f322 := hI322.f
    obtain ⟨At322, nt322, ct322, hct322, hSt322⟩ := hI322.ct
    obtain ⟨Aa322, na322, ca322, hca322, hSa322⟩ := hI322.ca
    go_wp2_with fail
    refine (Xl.Peek_calls hI322 0 60 P0).mono ?_
    rintro e w' ⟨rfl, rfl⟩
    go_wp2_with fail
    refine (Xl.Pos_calls hI322).mono ?_
    rintro e w323 ⟨rfl, hI323, k323⟩
    have hF323 := hF322.trans k323
    have c0323 := hI323.c0
    have c1323 := hI323.c1
    have c2323 := hI323.c2
    have f323 := hI323.f
    obtain ⟨At323, nt323, ct323, hct323, hSt323⟩ := hI323.ct
    obtain ⟨Aa323, na323, ca323, hca323, hSa323⟩ := hI323.ca
    go_wp2_with fail
    refine (Xl.Peek_calls hI323 1 33 P1).mono ?_
    rintro e w' ⟨rfl, rfl⟩
    go_wp2_with fail
    refine (Xl.Move_calls hI323 2).mono ?_
    rintro e w325 ⟨rfl, hI325, k325⟩
    have hF325 := hF323.trans k325
    have c0325 := hI325.c0
    have c1325 := hI325.c1
    have c2325 := hI325.c2
    have f325 := hI325.f
    obtain ⟨At325, nt325, ct325, hct325, hSt325⟩ := hI325.ct
    obtain ⟨Aa325, na325, ca325, hca325, hSa325⟩ := hI325.ca
    go_wp2_with fail
    refine (Xl.atS_calls (show Xl _ l z b B 179 EA (mv p 2) s false 0 0 al ah from by repeat (first | exact hI325 | apply Xl.drewN | apply Xl.drew | apply Xl.alloc | (apply Xl.setText; case hS => first | assumption | exact Sv.nil _ _) | (apply Xl.setAttr; case hS => first | assumption | exact Sv.nil _ _) | (apply Xl.setTextS; case hb => exact sel_of (by assumption)) | (apply Xl.setAttrS; case hb => exact sel_of (by assumption)) | apply Xl.setTag)) (lit_at (by simp) [45, 45]) true T0).mono ?_
    rintro e w328 ⟨rfl, hI328, k328⟩
    have hF328 := (show Fr l z w0 _ by repeat (first | exact hF325 | apply Fr.drewN | apply Fr.drew | apply Fr.alloc | apply Fr.setl)).trans k328
    have c0328 := hI328.c0
    have c1328 := hI328.c1
    have c2328 := hI328.c2
    have f328 := hI328.f
    obtain ⟨At328, nt328, ct328, hct328, hSt328⟩ := hI328.ct
    obtain ⟨Aa328, na328, ca328, hca328, hSa328⟩ := hI328.ca
    go_wp2_with fail
    refine (Xl.Move_calls hI328 2).mono ?_
    rintro e w329 ⟨rfl, hI329, k329⟩
    have hF329 := hF328.trans k329
    have c0329 := hI329.c0
    have c1329 := hI329.c1
    have c2329 := hI329.c2
    have f329 := hI329.f
    obtain ⟨At329, nt329, ct329, hct329, hSt329⟩ := hI329.ct
    obtain ⟨Aa329, na329, ca329, hca329, hSa329⟩ := hI329.ca
    obtain ⟨⟨i330, i331, p332, s333, tl334, th335⟩, A336, HN⟩ := H.bind; clear H; have H := HN; clear HN
    try dsimp only at H
    go_wp2_with fail
    refine (xshiftCommentText.calls K hI329  i330 i331 p332 s333 tl334 th335 A336).mono ?_
    rintro e w337 ⟨rfl, hI337, k337⟩
    have hF337 := hF329.trans k337
    have c0337 := hI337.c0
    have c1337 := hI337.c1
    have c2337 := hI337.c2
    have f337 := hI337.f
    obtain ⟨At337, nt337, ct337, hct337, hSt337⟩ := hI337.ct
    obtain ⟨Aa337, na337, ca337, hca337, hSa337⟩ := hI337.ca
    go_wp2_with fail
    go_ret2
    obtain ⟨rfl, rfl, rfl, rfl, rfl, rfl, rfl, rfl, rfl, rfl⟩ := H.p10
    exact ⟨(by first | rfl | (unfold nxv; rw [if_neg (by decide), Hd.out ‹Hd (slv _ _ _ = _)›]; rfl) | (simp only [nxv, *]; done) | (simp [nxv, *]; done)), hI337, hF337⟩
end Go.Proofs.YtfcedenofbefcaaGreatDoor
