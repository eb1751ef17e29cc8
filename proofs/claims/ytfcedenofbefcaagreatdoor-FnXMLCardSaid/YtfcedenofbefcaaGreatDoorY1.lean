import Derived.Test.YtfcedenofbefcaaGreatDoorX1
import Derived.Test.YtfcedenofbefcaaGreatDoorX2
import Derived.Test.YtfcedenofbefcaaGreatDoorX3
import Derived.Test.YtfcedenofbefcaaGreatDoorK8
namespace Go.Proofs.YtfcedenofbefcaaGreatDoor
open Go.RowKit
set_option linter.unusedVariables false
set_option linter.unusedSimpArgs false

/-! (*loop.example/pub-g01476/pub/tdxml.Lexer).Next -/
def xNText.l0 (K : Nat) (B : List Int) : Nat → Int → Int → Bool → Int → Int → Int → Int → Option (Int × Int × Int × Int × Int × Bool × Int × Int × Int × Int)
  | 0, _, _, _, _, _, _, _ => none
  | k + 1, p322, s323, tg324, tl325, th326, al327, ah328 =>
    (pk B p322 0).bind fun c330 =>
    if (c330 == 60) = true then (if (decide (0 < ps p322 s323)) = true then ((sel B p322 s323).bind fun u335 =>
    some (11, s323, p322, p322, p322, tg324, s323, p322, al327, ah328)) else
    none) else
    if (c330 == 0) = true then (if (decide (0 < ps p322 s323)) = true then ((sel B p322 s323).bind fun u342 =>
    some (11, s323, p322, p322, p322, tg324, s323, p322, al327, ah328)) else
    none) else
    xNText.l0 K B k (mv p322 1) s323 tg324 tl325 th326 al327 ah328
def xNText.f (K : Nat) (B : List Int) (p : Int) (s : Int) (tg : Bool) (tl : Int) (th : Int) (al : Int) (ah : Int) : Option (Int × Int × Int × Int × Int × Bool × Int × Int × Int × Int) :=
xNText.l0 K B K p s false 0 0 al ah
set_option maxHeartbeats 8000000 in
set_option maxRecDepth 100000 in
theorem xNText.calls (K : Nat) {w0 : World} {l z b : Nat} {B : List Int} {EA : Addr} {p s : Int} {tl : Int} {th : Int} {al : Int} {ah : Int} (hI0 : Xl w0 l z b B 179 EA p s false tl th al ah) (r0 : Int) (r1 : Int) (r2 : Int) (r3 : Int) (r4 : Int) (r5 : Bool) (r6 : Int) (r7 : Int) (r8 : Int) (r9 : Int) (H : Hd (xNText.f K B p s false tl th al ah = some (r0, r1, r2, r3, r4, r5, r6, r7, r8, r9))) :
    Calls Tryz.prog 25 #[.pointer (some ⟨l, 0, none⟩)] w0 fun e w' => e = .returned (.tuple #[.int .u32 r0, nxv b r0 r1 r2]) ∧ Xl w' l z b B 179 EA r3 r4 r5 r6 r7 r8 r9 ∧ Fr l z w0 w' := by
  have hF0 : Fr l z w0 w0 := Fr.refl _ _ w0
  have c00 := hI0.c0
  have c10 := hI0.c1
  have c20 := hI0.c2
  have f0 := hI0.f
  obtain ⟨At0, nt0, ct0, hct0, hSt0⟩ := hI0.ct
  obtain ⟨Aa0, na0, ca0, hca0, hSa0⟩ := hI0.ca
  unfold xNText.f at H
  go_enter Tryz.func25, Tryz.ntmps25
  have H1 := H; clear H
  go_wp2_with fail
  go_loopg [] K (fun gk w' => ∃ (p322 : Int), ∃ (s323 : Int), ∃ (tg324 : Bool), ∃ (tl325 : Int), ∃ (th326 : Int), ∃ (al327 : Int), ∃ (ah328 : Int), Hd (xNText.l0 K B gk p322 s323 tg324 tl325 th326 al327 ah328 = some (r0, r1, r2, r3, r4, r5, r6, r7, r8, r9)) ∧ Hd (Xl w' l z b B 179 EA p322 s323 tg324 tl325 th326 al327 ah328) ∧ Hd (Fr l z w0 w'))
  case atStart => exact ⟨p, s, false, 0, 0, al, ah, H1, ⟨(show Xl _ l z b B 179 EA p s false 0 0 al ah from by repeat (first | exact hI0 | apply Xl.drewN | apply Xl.drew | apply Xl.alloc | (apply Xl.setText; case hS => first | assumption | exact Sv.nil _ _) | (apply Xl.setAttr; case hS => first | assumption | exact Sv.nil _ _) | (apply Xl.setTextS; case hb => exact sel_of (by assumption)) | (apply Xl.setAttrS; case hb => exact sel_of (by assumption)) | apply Xl.setTag))⟩, ⟨(show Fr l z w0 _ from by repeat (first | exact hF0 | apply Fr.drewN | apply Fr.drew | apply Fr.alloc | apply Fr.setl))⟩⟩
  case round =>
    clear H1
    obtain ⟨p322, s323, tg324, tl325, th326, al327, ah328, H, gI, gF⟩ := hrel
    have hI329 := gI.out; have hF329 := gF.out; clear gI gF
    have c0329 := hI329.c0
    have c1329 := hI329.c1
    have c2329 := hI329.c2
    have f329 := hI329.f
    obtain ⟨At329, nt329, ct329, hct329, hSt329⟩ := hI329.ct
    obtain ⟨Aa329, na329, ca329, hca329, hSa329⟩ := hI329.ca
    cases gk with
    | zero => exact absurd H.out (by simp [xNText.l0])
    | succ k =>
      simp only [xNText.l0] at H
      obtain ⟨c330, A331, HN⟩ := H.bind; clear H; have H := HN; clear HN
      go_wp2_with fail
      refine (Xl.Peek_calls hI329 0 c330 A331).mono ?_
      rintro e w' ⟨rfl, rfl⟩
      by_cases e332 : (c330 == 60) = true
      · 
        replace H := H.pos e332
        as_aux_lemma =>
          have e332n : (c330 != 60) = false := by simp only [bne, e332, Bool.not_true]
          go_wp2_with fail
          refine (Xl.Pos_calls hI329).mono ?_
          rintro e w333 ⟨rfl, hI333, k333⟩
          have hF333 := hF329.trans k333
          have c0333 := hI333.c0
          have c1333 := hI333.c1
          have c2333 := hI333.c2
          have f333 := hI333.f
          obtain ⟨At333, nt333, ct333, hct333, hSt333⟩ := hI333.ct
          obtain ⟨Aa333, na333, ca333, hca333, hSa333⟩ := hI333.ca
          by_cases e334 : (decide (0 < ps p322 s323)) = true
          · 
            replace H := H.pos e334
            as_aux_lemma =>
              obtain ⟨u335, A336, HN⟩ := H.bind; clear H; have H := HN; clear HN
              go_wp2_with fail
              refine (Xl.ShiftV_calls hI333 u335 A336).mono ?_
              rintro e w337 ⟨⟨A338, n338, c338, rfl, hS338, hE338⟩, hI337, k337⟩
              have hF337 := hF333.trans k337
              have c0337 := hI337.c0
              have c1337 := hI337.c1
              have c2337 := hI337.c2
              have f337 := hI337.f
              obtain ⟨At337, nt337, ct337, hct337, hSt337⟩ := hI337.ct
              obtain ⟨Aa337, na337, ca337, hca337, hSa337⟩ := hI337.ca
              go_wp2_with fail
              go_quiet (fail)
              go_wp2_with fail
              go_ret2
              obtain ⟨rfl, rfl, rfl, rfl, rfl, rfl, rfl, rfl, rfl, rfl⟩ := H.p10
              exact ⟨(by first | rfl | (unfold nxv; rw [if_neg (by decide), Hd.out ‹Hd (slv _ _ _ = _)›]; rfl) | (simp only [nxv, *]; done) | (simp [nxv, *]; done)), (show Xl _ l z b B 179 EA p322 p322 tg324 s323 p322 al327 ah328 from by repeat (first | exact hI337 | apply Xl.drewN | apply Xl.drew | apply Xl.alloc | (apply Xl.setText; case hS => first | assumption | exact Sv.nil _ _) | (apply Xl.setAttr; case hS => first | assumption | exact Sv.nil _ _) | (apply Xl.setTextS; case hb => exact sel_of (by assumption)) | (apply Xl.setAttrS; case hb => exact sel_of (by assumption)) | apply Xl.setTag)), (show Fr l z w0 _ from by repeat (first | exact hF337 | apply Fr.drewN | apply Fr.drew | apply Fr.alloc | apply Fr.setl))⟩
          ·
            replace H := H.neg e334
            replace e334 := Bool.eq_false_iff.mpr e334
            exact H.no
      ·
        replace H := H.neg e332
        replace e332 := Bool.eq_false_iff.mpr e332
        have e332n : (c330 != 60) = true := by simp only [bne, e332, Bool.not_false]
        by_cases e339 : (c330 == 0) = true
        · 
          replace H := H.pos e339
          as_aux_lemma =>
            have e339n : (c330 != 0) = false := by simp only [bne, e339, Bool.not_true]
            go_wp2_with fail
            refine (Xl.Pos_calls hI329).mono ?_
            rintro e w340 ⟨rfl, hI340, k340⟩
            have hF340 := hF329.trans k340
            have c0340 := hI340.c0
            have c1340 := hI340.c1
            have c2340 := hI340.c2
            have f340 := hI340.f
            obtain ⟨At340, nt340, ct340, hct340, hSt340⟩ := hI340.ct
            obtain ⟨Aa340, na340, ca340, hca340, hSa340⟩ := hI340.ca
            by_cases e341 : (decide (0 < ps p322 s323)) = true
            · 
              replace H := H.pos e341
              as_aux_lemma =>
                obtain ⟨u342, A343, HN⟩ := H.bind; clear H; have H := HN; clear HN
                go_wp2_with fail
                refine (Xl.ShiftV_calls hI340 u342 A343).mono ?_
                rintro e w344 ⟨⟨A345, n345, c345, rfl, hS345, hE345⟩, hI344, k344⟩
                have hF344 := hF340.trans k344
                have c0344 := hI344.c0
                have c1344 := hI344.c1
                have c2344 := hI344.c2
                have f344 := hI344.f
                obtain ⟨At344, nt344, ct344, hct344, hSt344⟩ := hI344.ct
                obtain ⟨Aa344, na344, ca344, hca344, hSa344⟩ := hI344.ca
                go_wp2_with fail
                go_quiet (fail)
                go_wp2_with fail
                go_ret2
                obtain ⟨rfl, rfl, rfl, rfl, rfl, rfl, rfl, rfl, rfl, rfl⟩ := H.p10
                exact ⟨(by first | rfl | (unfold nxv; rw [if_neg (by decide), Hd.out ‹Hd (slv _ _ _ = _)›]; rfl) | (simp only [nxv, *]; done) | (simp [nxv, *]; done)), (show Xl _ l z b B 179 EA p322 p322 tg324 s323 p322 al327 ah328 from by repeat (first | exact hI344 | apply Xl.drewN | apply Xl.drew | apply Xl.alloc | (apply Xl.setText; case hS => first | assumption | exact Sv.nil _ _) | (apply Xl.setAttr; case hS => first | assumption | exact Sv.nil _ _) | (apply Xl.setTextS; case hb => exact sel_of (by assumption)) | (apply Xl.setAttrS; case hb => exact sel_of (by assumption)) | apply Xl.setTag)), (show Fr l z w0 _ from by repeat (first | exact hF344 | apply Fr.drewN | apply Fr.drew | apply Fr.alloc | apply Fr.setl))⟩
            ·
              replace H := H.neg e341
              replace e341 := Bool.eq_false_iff.mpr e341
              exact H.no
        ·
          replace H := H.neg e339
          replace e339 := Bool.eq_false_iff.mpr e339
          have e339n : (c330 != 0) = true := by simp only [bne, e339, Bool.not_false]
          go_wp2_with fail
          refine (Xl.Move_calls hI329 1).mono ?_
          rintro e w346 ⟨rfl, hI346, k346⟩
          have hF346 := hF329.trans k346
          have c0346 := hI346.c0
          have c1346 := hI346.c1
          have c2346 := hI346.c2
          have f346 := hI346.f
          obtain ⟨At346, nt346, ct346, hct346, hSt346⟩ := hI346.ct
          obtain ⟨Aa346, na346, ca346, hca346, hSa346⟩ := hI346.ca
          go_wp2_with fail
          go_roundg k
          case measure => exact Nat.lt_succ_self _
          case rel => exact ⟨mv p322 1, s323, tg324, tl325, th326, al327, ah328, H, ⟨hI346⟩, ⟨hF346⟩⟩
end Go.Proofs.YtfcedenofbefcaaGreatDoor
