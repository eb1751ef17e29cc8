import Derived.Test.YtfcedenofbefcaaGreatDoorH1
import Derived.Test.YtfcedenofbefcaaGreatDoorK8
namespace Go.Proofs.YtfcedenofbefcaaGreatDoor
open Go.RowKit
set_option linter.unusedVariables false
set_option linter.unusedSimpArgs false

/-! (*loop.example/pub-g01476/pub/tdhtml.Lexer).Next -/
def hNRaw.f (K : Nat) (B : List Int) (p : Int) (s : Int) (rt : Int) (tg : Bool) (tl : Int) (th : Int) (al : Int) (ah : Int) : Option (Int × Int × Int × Int × Int × Int × Bool × Int × Int × Int × Int) :=
(hshiftRawText.f K B p s rt false 0 0 al ah).bind fun (i451, i452, p453, s454) =>
(rng B i451 i452).bind fun u457 =>
if (decide (0 < i452 - i451)) = true then (some (8, i451, i452, p453, s454, 0, false, i451, i452, al, ah)) else
none
set_option maxHeartbeats 8000000 in
set_option maxRecDepth 100000 in
theorem hNRaw.calls (K : Nat) {w0 : World} {l z b : Nat} {B : List Int} {EA : Addr} {p s : Int} {rt : Int} {tl : Int} {th : Int} {al : Int} {ah : Int} (hI0 : Hl w0 l z b B 179 EA p s rt false tl th al ah) (E9 : (rt == 0) = false) (r0 : Int) (r1 : Int) (r2 : Int) (r3 : Int) (r4 : Int) (r5 : Int) (r6 : Bool) (r7 : Int) (r8 : Int) (r9 : Int) (r10 : Int) (H : Hd (hNRaw.f K B p s rt false tl th al ah = some (r0, r1, r2, r3, r4, r5, r6, r7, r8, r9, r10))) :
    Calls Tryz.prog 33 #[.pointer (some ⟨l, 0, none⟩)] w0 fun e w' => e = .returned (.tuple #[.int .u32 r0, nxv b r0 r1 r2]) ∧ Hl w' l z b B 179 EA r3 r4 r5 r6 r7 r8 r9 r10 ∧ Fr l z w0 w' := by
  have hF0 : Fr l z w0 w0 := Fr.refl _ _ w0
  have c00 := hI0.c0
  have c10 := hI0.c1
  have c20 := hI0.c2
  have c30 := hI0.c3
  have c40 := hI0.c4
  have c50 := hI0.c5
  have c80 := hI0.c8
  have f0 := hI0.f
  obtain ⟨At0, nt0, ct0, hct0, hSt0⟩ := hI0.ct
  obtain ⟨Aa0, na0, ca0, hca0, hSa0⟩ := hI0.ca
  unfold hNRaw.f at H
  go_enter Tryz.func33, Tryz.ntmps33
  obtain ⟨⟨i451, i452, p453, s454⟩, A455, HN⟩ := H.bind; clear H; have H := HN; clear HN
  try dsimp only at H
  go_wp2_with fail
  refine (hshiftRawText.calls K (show Hl _ l z b B 179 EA p s rt false 0 0 al ah from by repeat (first | exact hI0 | apply Hl.drewN | apply Hl.drew | apply Hl.alloc | (apply Hl.setText; case hS => first | assumption | exact Sv.nil _ _) | (apply Hl.setAttr; case hS => first | assumption | exact Sv.nil _ _) | (apply Hl.setTextS; case hb => exact sel_of (by assumption)) | (apply Hl.setAttrS; case hb => exact sel_of (by assumption)) | apply Hl.setTag | apply Hl.setRaw | apply Hl.setTmpl))  i451 i452 p453 s454 A455).mono ?_
  rintro e w456 ⟨rfl, hI456, k456⟩
  have hF456 := (show Fr l z w0 _ by repeat (first | exact hF0 | apply Fr.drewN | apply Fr.drew | apply Fr.alloc | apply Fr.setl)).trans k456
  have c0456 := hI456.c0
  have c1456 := hI456.c1
  have c2456 := hI456.c2
  have c3456 := hI456.c3
  have c4456 := hI456.c4
  have c5456 := hI456.c5
  have c8456 := hI456.c8
  have f456 := hI456.f
  obtain ⟨At456, nt456, ct456, hct456, hSt456⟩ := hI456.ct
  obtain ⟨Aa456, na456, ca456, hca456, hSa456⟩ := hI456.ca
  try clear c00 c10 c20 c30 c40 c50 c80 f0 hct0 hca0
  obtain ⟨u457, AA458, HN⟩ := H.bind; clear H; have H := HN; clear HN
  obtain ⟨A459, _, n459, hE459, hS459, rfl⟩ := slv_sv (b := b) (rng_of AA458)
  rw [hE459]
  have hEH459 := Hd.mk hE459; clear hE459
  by_cases e460 : (decide (0 < i452 - i451)) = true
  · 
    replace H := H.pos e460
    have e460w : 0 < n459 := by have := of_decide_eq_true e460; have := hS459.2.2.1; omega
    clear e460
    go_wp2_with fail
    go_ret2
    obtain ⟨rfl, rfl, rfl, rfl, rfl, rfl, rfl, rfl, rfl, rfl, rfl⟩ := H.p11
    exact ⟨(by first | rfl | (unfold nxv; rw [if_neg (by decide), Hd.out ‹Hd (slv _ _ _ = _)›]; done) | (unfold nxv; rw [if_neg (by decide), Hd.out ‹Hd (slv _ _ _ = _)›]; rfl) | (simp only [nxv, *]; done) | (simp [nxv, *]; done)), (show Hl _ l z b B 179 EA p453 s454 0 false i451 i452 al ah from by repeat (first | exact hI456 | apply Hl.drewN | apply Hl.drew | apply Hl.alloc | (apply Hl.setText; case hS => first | assumption | exact Sv.nil _ _) | (apply Hl.setAttr; case hS => first | assumption | exact Sv.nil _ _) | (apply Hl.setTextS; case hb => exact sel_of (by assumption)) | (apply Hl.setAttrS; case hb => exact sel_of (by assumption)) | apply Hl.setTag | apply Hl.setRaw | apply Hl.setTmpl)), (show Fr l z w0 _ from by repeat (first | exact hF456 | apply Fr.drewN | apply Fr.drew | apply Fr.alloc | apply Fr.setl))⟩
  ·
    replace H := H.neg e460
    replace e460 := Bool.eq_false_iff.mpr e460
    exact H.no
end Go.Proofs.YtfcedenofbefcaaGreatDoor
