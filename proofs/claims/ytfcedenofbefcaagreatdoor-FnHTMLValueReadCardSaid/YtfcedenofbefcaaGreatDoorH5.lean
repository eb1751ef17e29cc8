import Derived.Test.YtfcedenofbefcaaGreatDoorKI
namespace Go.Proofs.YtfcedenofbefcaaGreatDoor
open Go.RowKit
set_option linter.unusedVariables false
set_option linter.unusedSimpArgs false

/-! (*loop.example/pub-g01476/pub/tdhtml.Lexer).shiftEndTag -/
def hshiftEndTag.l0 (K : Nat) (B : List Int) (s : Int) : Nat → Int → Int → Int → Option (Int × Int × Int)
  | 0, _, _, _ => none
  | k + 1, p401, tl402, th403 =>
    (pk B p401 0).bind fun c405 =>
    if (c405 == 62) = true then ((sel B p401 s).bind fun u408 =>
    (cutB s p401 2 (p401 - s)).bind fun u412 =>
    some (mv p401 1, s + 2, p401)) else
    if ((c405 == 0) && (atEnd B p401 0)) = true then ((sel B p401 s).bind fun u421 =>
    (cutB s p401 2 (p401 - s)).bind fun u425 =>
    some (p401, s + 2, p401)) else
    hshiftEndTag.l0 K B s k (mv p401 1) tl402 th403
def hshiftEndTag.l1 (K : Nat) (B : List Int) (tl428 : Int) (th429 : Int) : Nat → Int → Option (Int)
  | 0, _ => none
  | k + 1, x432 =>
    if (decide (0 < x432)) = true then ((elB B tl428 th429 (wrap64 (x432 - 1))).bind fun c435 =>
    if ((((c435 == 32) || (c435 == 9)) || (c435 == 10)) || (c435 == 13)) = true then (hshiftEndTag.l1 K B tl428 th429 k (wrap64 (x432 - 1))) else
    some x432) else
    some x432
def hshiftEndTag.f (K : Nat) (B : List Int) (p : Int) (s : Int) (rt : Int) (tg : Bool) (tl : Int) (th : Int) (al : Int) (ah : Int) : Option (Int × Int × Int × Int × Int × Int) :=
(hshiftEndTag.l0 K B s K p tl th).bind fun (p427, tl428, th429) =>
(hshiftEndTag.l1 K B tl428 th429 K (th429 - tl428)).bind fun x443 =>
(cutB tl428 th429 0 x443).bind fun u445 =>
(sel B p427 s).bind fun u446 =>
(low B s p427).bind fun u449 =>
some (s, p427, p427, p427, tl428, tl428 + x443)
set_option maxHeartbeats 8000000 in
set_option maxRecDepth 100000 in
theorem hshiftEndTag.calls (K : Nat) {w0 : World} {l z b : Nat} {B : List Int} {EA : Addr} {p s : Int} {rt : Int} {tg : Bool} {tl : Int} {th : Int} {al : Int} {ah : Int} (hI0 : Hl w0 l z b B 179 EA p s rt tg tl th al ah) (r0 : Int) (r1 : Int) (r2 : Int) (r3 : Int) (r4 : Int) (r5 : Int) (H : Hd (hshiftEndTag.f K B p s rt tg tl th al ah = some (r0, r1, r2, r3, r4, r5))) :
    Calls Tryz.prog 76 #[.pointer (some ⟨l, 0, none⟩)] w0 fun e w' => e = .returned (slv b r0 r1) ∧ Hl w' l z b B 179 EA r2 r3 rt tg r4 r5 al ah ∧ Fr l z w0 w' := by
  have hF0 : Fr l z w0 w0 := Fr.refl _ _ w0
  have c00 := hI0.c0
  have c10 := hI0.c1
  have c20 := hI0.c2
  have c30 := hI0.c3
  have c40 := hI0.c4
  have c50 := hI0.c5
  have c80 := hI0.c8
  have f0 := hI0.f
  obtain ⟨At0, nt0, ct0, hct0, hSt0⟩ := hI0.ct
  obtain ⟨Aa0, na0, ca0, hca0, hSa0⟩ := hI0.ca
  unfold hshiftEndTag.f at H
  go_enter Tryz.func76, Tryz.ntmps76
  obtain ⟨⟨p427, tl428, th429⟩, H1, HC400⟩ := H.bind; clear H
  try dsimp only at HC400
  go_upto_block 0 with fail
  go_cut [] (fun w' => Hd (Hl w' l z b B 179 EA p427 s rt tg tl428 th429 al ah) ∧ Hd (Fr l z w0 w'))
  case first =>
    go_wp2_with fail
    go_loopg [] K (fun gk w' => ∃ (p401 : Int), ∃ (tl402 : Int), ∃ (th403 : Int), Hd (hshiftEndTag.l0 K B s gk p401 tl402 th403 = some (p427, tl428, th429)) ∧ Hd (Hl w' l z b B 179 EA p401 s rt tg tl402 th403 al ah) ∧ Hd (Fr l z w0 w'))
    case atStart => exact ⟨p, tl, th, H1, ⟨hI0⟩, ⟨hF0⟩⟩
    case round =>
      clear H1
      obtain ⟨p401, tl402, th403, H, gI, gF⟩ := hrel
      have hI404 := gI.out; have hF404 := gF.out; clear gI gF
      have c0404 := hI404.c0
      have c1404 := hI404.c1
      have c2404 := hI404.c2
      have c3404 := hI404.c3
      have c4404 := hI404.c4
      have c5404 := hI404.c5
      have c8404 := hI404.c8
      have f404 := hI404.f
      obtain ⟨At404, nt404, ct404, hct404, hSt404⟩ := hI404.ct
      obtain ⟨Aa404, na404, ca404, hca404, hSa404⟩ := hI404.ca
      try clear c00 c10 c20 c30 c40 c50 c80 f0 hct0 hca0
      cases gk with
      | zero => exact absurd H.out (by simp [hshiftEndTag.l0])
      | succ k =>
        simp only [hshiftEndTag.l0] at H
        obtain ⟨c405, A406, HN⟩ := H.bind; clear H; have H := HN; clear HN
        go_wp2_with fail
        refine (Hl.Peek_calls hI404 0 c405 A406).mono ?_
        rintro e w' ⟨rfl, rfl⟩
        by_cases e407 : (c405 == 62) = true
        · 
          replace H := H.pos e407
          have e407n : (c405 != 62) = false := by simp only [bne, e407, Bool.not_true]
          obtain ⟨u408, A409, HN⟩ := H.bind; clear H; have H := HN; clear HN
          go_wp2_with fail
          refine (Hl.LexemeV_calls hI404 u408 A409).mono ?_
          rintro e w410 ⟨⟨A411, n411, c411, rfl, hS411⟩, hI410, k410⟩
          have hF410 := hF404.trans k410
          have c0410 := hI410.c0
          have c1410 := hI410.c1
          have c2410 := hI410.c2
          have c3410 := hI410.c3
          have c4410 := hI410.c4
          have c5410 := hI410.c5
          have c8410 := hI410.c8
          have f410 := hI410.f
          obtain ⟨At410, nt410, ct410, hct410, hSt410⟩ := hI410.ct
          obtain ⟨Aa410, na410, ca410, hca410, hSa410⟩ := hI410.ca
          try clear c0404 c1404 c2404 c3404 c4404 c5404 c8404 f404 hct404 hca404
          obtain ⟨u412, AA412, HN⟩ := H.bind; clear H; have H := HN; clear HN
          obtain ⟨A412, n412, c412, hS412, hq412⟩ := cut_lo hS411 2 u412 AA412
          go_wp2_with fail
          refine (Hl.Move_calls (show Hl _ l z b B 179 EA p401 s rt tg (s + 2) p401 al ah from by repeat (first | exact hI410 | apply Hl.drewN | apply Hl.drew | apply Hl.alloc | (apply Hl.setText; case hS => first | assumption | exact Sv.nil _ _) | (apply Hl.setAttr; case hS => first | assumption | exact Sv.nil _ _) | (apply Hl.setTextS; case hb => exact sel_of (by assumption)) | (apply Hl.setAttrS; case hb => exact sel_of (by assumption)) | apply Hl.setTag | apply Hl.setRaw | apply Hl.setTmpl)) 1).mono ?_
          rintro e w413 ⟨rfl, hI413, k413⟩
          have hF413 := (show Fr l z w0 _ by repeat (first | exact hF410 | apply Fr.drewN | apply Fr.drew | apply Fr.alloc | apply Fr.setl)).trans k413
          have c0413 := hI413.c0
          have c1413 := hI413.c1
          have c2413 := hI413.c2
          have c3413 := hI413.c3
          have c4413 := hI413.c4
          have c5413 := hI413.c5
          have c8413 := hI413.c8
          have f413 := hI413.f
          obtain ⟨At413, nt413, ct413, hct413, hSt413⟩ := hI413.ct
          obtain ⟨Aa413, na413, ca413, hca413, hSa413⟩ := hI413.ca
          try clear c0410 c1410 c2410 c3410 c4410 c5410 c8410 f410 hct410 hca410
          obtain ⟨rfl, rfl, rfl⟩ := H.p3
          go_wp2_with fail
          go_meet
          case rel => exact ⟨⟨hI413⟩, ⟨hF413⟩⟩
        ·
          replace H := H.neg e407
          replace e407 := Bool.eq_false_iff.mpr e407
          have e407n : (c405 != 62) = true := by simp only [bne, e407, Bool.not_false]
          generalize hb414 : ((c405 == 0) && (atEnd B p401 0)) = b419 at H
          have HB414 := Hd.mk hb414; clear hb414
          go_upto_region 5 with fail
          go_cut [36] (fun v36 w' => v36 = .bool b419 ∧ Hd (Hl w' l z b B 179 EA p401 s rt tg tl402 th403 al ah) ∧ Hd (Fr l z w0 w'))
          case first =>
            clear H
            by_cases e415 : (c405 == 0) = true
            · 
              have e415n : (c405 != 0) = false := by simp only [bne, e415, Bool.not_true]
              by_cases e416 : (atEnd B p401 0) = true
              · 
                go_wp2_with fail
                refine (Hl.Err_end_calls hI404 e416).mono ?_
                rintro e w417 ⟨rfl, hI417, k417⟩
                have hF417 := hF404.trans k417
                have c0417 := hI417.c0
                have c1417 := hI417.c1
                have c2417 := hI417.c2
                have c3417 := hI417.c3
                have c4417 := hI417.c4
                have c5417 := hI417.c5
                have c8417 := hI417.c8
                have f417 := hI417.f
                obtain ⟨At417, nt417, ct417, hct417, hSt417⟩ := hI417.ct
                obtain ⟨Aa417, na417, ca417, hca417, hSa417⟩ := hI417.ca
                try clear c0404 c1404 c2404 c3404 c4404 c5404 c8404 f404 hct404 hca404
                go_wp2_with fail
                go_meet
                case rel => exact ⟨by rw [← HB414.out, e415, e416]; first | rfl | simp, ⟨hI417⟩, ⟨hF417⟩⟩
              ·
                replace e416 := Bool.eq_false_iff.mpr e416
                go_wp2_with fail
                refine (Hl.Err_not_calls hI404 e416).mono ?_
                rintro e w418 ⟨rfl, hI418, k418⟩
                have hF418 := hF404.trans k418
                have c0418 := hI418.c0
                have c1418 := hI418.c1
                have c2418 := hI418.c2
                have c3418 := hI418.c3
                have c4418 := hI418.c4
                have c5418 := hI418.c5
                have c8418 := hI418.c8
                have f418 := hI418.f
                obtain ⟨At418, nt418, ct418, hct418, hSt418⟩ := hI418.ct
                obtain ⟨Aa418, na418, ca418, hca418, hSa418⟩ := hI418.ca
                try clear c0404 c1404 c2404 c3404 c4404 c5404 c8404 f404 hct404 hca404
                go_wp2_with fail
                go_meet
                case rel => exact ⟨by rw [← HB414.out, e415, e416]; first | rfl | simp, ⟨hI418⟩, ⟨hF418⟩⟩
            ·
              replace e415 := Bool.eq_false_iff.mpr e415
              have e415n : (c405 != 0) = true := by simp only [bne, e415, Bool.not_false]
              go_wp2_with fail
              go_meet
              case rel => exact ⟨by rw [← HB414.out, e415]; first | rfl | simp, ⟨hI404⟩, ⟨hF404⟩⟩
          case rest =>
            obtain ⟨rfl, gI, gF⟩ := hcut
            have hI420 := gI.out; have hF420 := gF.out; clear gI gF
            have c0420 := hI420.c0
            have c1420 := hI420.c1
            have c2420 := hI420.c2
            have c3420 := hI420.c3
            have c4420 := hI420.c4
            have c5420 := hI420.c5
            have c8420 := hI420.c8
            have f420 := hI420.f
            obtain ⟨At420, nt420, ct420, hct420, hSt420⟩ := hI420.ct
            obtain ⟨Aa420, na420, ca420, hca420, hSa420⟩ := hI420.ca
            try clear c0404 c1404 c2404 c3404 c4404 c5404 c8404 f404 hct404 hca404
            cases b419 with
            | true =>
              replace H := H.tt
              obtain ⟨u421, A422, HN⟩ := H.bind; clear H; have H := HN; clear HN
              go_wp2_with fail
              refine (Hl.LexemeV_calls hI420 u421 A422).mono ?_
              rintro e w423 ⟨⟨A424, n424, c424, rfl, hS424⟩, hI423, k423⟩
              have hF423 := hF420.trans k423
              have c0423 := hI423.c0
              have c1423 := hI423.c1
              have c2423 := hI423.c2
              have c3423 := hI423.c3
              have c4423 := hI423.c4
              have c5423 := hI423.c5
              have c8423 := hI423.c8
              have f423 := hI423.f
              obtain ⟨At423, nt423, ct423, hct423, hSt423⟩ := hI423.ct
              obtain ⟨Aa423, na423, ca423, hca423, hSa423⟩ := hI423.ca
              try clear c0420 c1420 c2420 c3420 c4420 c5420 c8420 f420 hct420 hca420
              obtain ⟨u425, AA425, HN⟩ := H.bind; clear H; have H := HN; clear HN
              obtain ⟨A425, n425, c425, hS425, hq425⟩ := cut_lo hS424 2 u425 AA425
              obtain ⟨rfl, rfl, rfl⟩ := H.p3
              go_wp2_with fail
              go_meet
              case rel => exact ⟨⟨(show Hl _ l z b B 179 EA p401 s rt tg (s + 2) p401 al ah from by repeat (first | exact hI423 | apply Hl.drewN | apply Hl.drew | apply Hl.alloc | (apply Hl.setText; case hS => first | assumption | exact Sv.nil _ _) | (apply Hl.setAttr; case hS => first | assumption | exact Sv.nil _ _) | (apply Hl.setTextS; case hb => exact sel_of (by assumption)) | (apply Hl.setAttrS; case hb => exact sel_of (by assumption)) | apply Hl.setTag | apply Hl.setRaw | apply Hl.setTmpl))⟩, ⟨(show Fr l z w0 _ from by repeat (first | exact hF423 | apply Fr.drewN | apply Fr.drew | apply Fr.alloc | apply Fr.setl))⟩⟩
            | false =>
              replace H := H.ff
              go_wp2_with fail
              refine (Hl.Move_calls hI420 1).mono ?_
              rintro e w426 ⟨rfl, hI426, k426⟩
              have hF426 := hF420.trans k426
              have c0426 := hI426.c0
              have c1426 := hI426.c1
              have c2426 := hI426.c2
              have c3426 := hI426.c3
              have c4426 := hI426.c4
              have c5426 := hI426.c5
              have c8426 := hI426.c8
              have f426 := hI426.f
              obtain ⟨At426, nt426, ct426, hct426, hSt426⟩ := hI426.ct
              obtain ⟨Aa426, na426, ca426, hca426, hSa426⟩ := hI426.ca
              try clear c0420 c1420 c2420 c3420 c4420 c5420 c8420 f420 hct420 hca420
              go_wp2_with fail
              go_roundg k
              case measure => exact Nat.lt_succ_self _
              case rel => exact ⟨mv p401 1, tl402, th403, H, ⟨hI426⟩, ⟨hF426⟩⟩
  case rest =>
    obtain ⟨gI, gF⟩ := hcut
    have hI430 := gI.out; have hF430 := gF.out; clear gI gF
    have c0430 := hI430.c0
    have c1430 := hI430.c1
    have c2430 := hI430.c2
    have c3430 := hI430.c3
    have c4430 := hI430.c4
    have c5430 := hI430.c5
    have c8430 := hI430.c8
    have f430 := hI430.f
    obtain ⟨At430, nt430, ct430, hct430, hSt430⟩ := hI430.ct
    obtain ⟨Aa430, na430, ca430, hca430, hSa430⟩ := hI430.ca
    try clear c00 c10 c20 c30 c40 c50 c80 f0 hct0 hca0
    have H := HC400; clear HC400 H1
    have hnnt430 : (nt430 : Int) = th429 - tl428 := hSt430.2.2.1
    obtain ⟨x443, H1, HC431⟩ := H.bind; clear H
    go_upto_block 2 with fail
    go_cut [4] (fun v4 w' => v4 = .int .i64 x443 ∧ Hd (Hl w' l z b B 179 EA p427 s rt tg tl428 th429 al ah) ∧ Hd (Fr l z w0 w'))
    case first =>
      go_wp2_with fail
      go_loopg [4] K (fun gk v4 w' => ∃ (x432 : Int), v4 = .int .i64 x432 ∧ Hd (hshiftEndTag.l1 K B tl428 th429 gk x432 = some x443) ∧ Hd (Hl w' l z b B 179 EA p427 s rt tg tl428 th429 al ah) ∧ Hd (Fr l z w0 w'))
      case atStart => exact ⟨th429 - tl428, (by first | rfl | simp), H1, ⟨hI430⟩, ⟨hF430⟩⟩
      case round =>
        clear H1
        obtain ⟨x432, rfl, H, gI, gF⟩ := hrel
        have hI433 := gI.out; have hF433 := gF.out; clear gI gF
        have c0433 := hI433.c0
        have c1433 := hI433.c1
        have c2433 := hI433.c2
        have c3433 := hI433.c3
        have c4433 := hI433.c4
        have c5433 := hI433.c5
        have c8433 := hI433.c8
        have f433 := hI433.f
        obtain ⟨At433, nt433, ct433, hct433, hSt433⟩ := hI433.ct
        obtain ⟨Aa433, na433, ca433, hca433, hSa433⟩ := hI433.ca
        try clear c0430 c1430 c2430 c3430 c4430 c5430 c8430 f430 hct430 hca430
        cases gk with
        | zero => exact absurd H.out (by simp [hshiftEndTag.l1])
        | succ k =>
          simp only [hshiftEndTag.l1] at H
          by_cases e434 : (decide (0 < x432)) = true
          · 
            replace H := H.pos e434
            obtain ⟨c435, AA436, HN⟩ := H.bind; clear H; have H := HN; clear HN
            obtain ⟨hphe437, hqhe437, he437⟩ := elB_at hI433.inp hSt433 (wrap64 (x432 - 1)) c435 AA436
            subst hphe437
            generalize hb438 : ((((c435 == 32) || (c435 == 9)) || (c435 == 10)) || (c435 == 13)) = b442 at H
            have HB438 := Hd.mk hb438; clear hb438
            go_upto_region 11 with fail
            go_cut [79] (fun v79 w' => v79 = .bool b442 ∧ wr = w')
            case first =>
              clear H
              by_cases e439 : (c435 == 32) = true
              · 
                have e439n : (c435 != 32) = false := by simp only [bne, e439, Bool.not_true]
                go_wp2_with fail
                go_meet
                case rel => exact ⟨by rw [← HB438.out, e439]; first | rfl | simp, rfl⟩
              ·
                replace e439 := Bool.eq_false_iff.mpr e439
                have e439n : (c435 != 32) = true := by simp only [bne, e439, Bool.not_false]
                by_cases e440 : (c435 == 9) = true
                · 
                  have e440n : (c435 != 9) = false := by simp only [bne, e440, Bool.not_true]
                  go_wp2_with fail
                  go_meet
                  case rel => exact ⟨by rw [← HB438.out, e439, e440]; first | rfl | simp, rfl⟩
                ·
                  replace e440 := Bool.eq_false_iff.mpr e440
                  have e440n : (c435 != 9) = true := by simp only [bne, e440, Bool.not_false]
                  by_cases e441 : (c435 == 10) = true
                  · 
                    have e441n : (c435 != 10) = false := by simp only [bne, e441, Bool.not_true]
                    go_wp2_with fail
                    go_meet
                    case rel => exact ⟨by rw [← HB438.out, e439, e440, e441]; first | rfl | simp, rfl⟩
                  ·
                    replace e441 := Bool.eq_false_iff.mpr e441
                    have e441n : (c435 != 10) = true := by simp only [bne, e441, Bool.not_false]
                    go_wp2_with fail
                    go_meet
                    case rel => exact ⟨by rw [← HB438.out, e439, e440, e441]; first | rfl | simp, rfl⟩
            case rest =>
              obtain ⟨rfl, rfl⟩ := hcut
              cases b442 with
              | true =>
                replace H := H.tt
                go_wp2_with fail
                go_roundg k
                case measure => exact Nat.lt_succ_self _
                case rel => exact ⟨wrap64 (x432 - 1), (by first | rfl | simp), H, ⟨hI433⟩, ⟨hF433⟩⟩
              | false =>
                replace H := H.ff
                obtain rfl := H.p1
                go_wp2_with fail
                go_meet
                case rel => exact ⟨(by first | rfl | simp), ⟨hI433⟩, ⟨hF433⟩⟩
          ·
            replace H := H.neg e434
            replace e434 := Bool.eq_false_iff.mpr e434
            obtain rfl := H.p1
            go_wp2_with fail
            go_meet
            case rel => exact ⟨(by first | rfl | simp), ⟨hI433⟩, ⟨hF433⟩⟩
    case rest =>
      obtain ⟨rfl, gI, gF⟩ := hcut
      have hI444 := gI.out; have hF444 := gF.out; clear gI gF
      have c0444 := hI444.c0
      have c1444 := hI444.c1
      have c2444 := hI444.c2
      have c3444 := hI444.c3
      have c4444 := hI444.c4
      have c5444 := hI444.c5
      have c8444 := hI444.c8
      have f444 := hI444.f
      obtain ⟨At444, nt444, ct444, hct444, hSt444⟩ := hI444.ct
      obtain ⟨Aa444, na444, ca444, hca444, hSa444⟩ := hI444.ca
      try clear c0430 c1430 c2430 c3430 c4430 c5430 c8430 f430 hct430 hca430
      have H := HC431; clear HC431 H1
      obtain ⟨u445, AA445, HN⟩ := H.bind; clear H; have H := HN; clear HN
      obtain ⟨A445, n445, c445, hS445, hq445⟩ := cut_hi hSt444 x443 u445 AA445
      obtain ⟨u446, A447, HN⟩ := H.bind; clear H; have H := HN; clear HN
      go_wp2_with fail
      refine (Hl.Shift_calls (show Hl _ l z b B 179 EA p427 s rt tg tl428 (tl428 + x443) al ah from by repeat (first | exact hI444 | apply Hl.drewN | apply Hl.drew | apply Hl.alloc | (apply Hl.setText; case hS => first | assumption | exact Sv.nil _ _) | (apply Hl.setAttr; case hS => first | assumption | exact Sv.nil _ _) | (apply Hl.setTextS; case hb => exact sel_of (by assumption)) | (apply Hl.setAttrS; case hb => exact sel_of (by assumption)) | apply Hl.setTag | apply Hl.setRaw | apply Hl.setTmpl)) u446 A447).mono ?_
      rintro e w448 ⟨rfl, hI448, k448⟩
      have hF448 := (show Fr l z w0 _ by repeat (first | exact hF444 | apply Fr.drewN | apply Fr.drew | apply Fr.alloc | apply Fr.setl)).trans k448
      have c0448 := hI448.c0
      have c1448 := hI448.c1
      have c2448 := hI448.c2
      have c3448 := hI448.c3
      have c4448 := hI448.c4
      have c5448 := hI448.c5
      have c8448 := hI448.c8
      have f448 := hI448.f
      obtain ⟨At448, nt448, ct448, hct448, hSt448⟩ := hI448.ct
      obtain ⟨Aa448, na448, ca448, hca448, hSa448⟩ := hI448.ca
      try clear c0444 c1444 c2444 c3444 c4444 c5444 c8444 f444 hct444 hca444
      obtain ⟨u449, A450, HN⟩ := H.bind; clear H; have H := HN; clear HN
      go_wp2_with fail
      refine (Lower_sl hI448.inp (sel_of A447) u449 A450).mono ?_
      rintro e w' ⟨rfl, rfl⟩
      go_wp2_with fail
      go_ret
      obtain ⟨rfl, rfl, rfl, rfl, rfl, rfl⟩ := H.p6
      exact ⟨(by first | rfl | simp), hI448, hF448⟩
end Go.Proofs.YtfcedenofbefcaaGreatDoor
