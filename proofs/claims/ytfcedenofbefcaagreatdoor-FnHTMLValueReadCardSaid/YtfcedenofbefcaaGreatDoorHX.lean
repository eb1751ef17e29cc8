import Derived.Test.YtfcedenofbefcaaGreatDoorKI
import Derived.Test.YtfcedenofbefcaaGreatDoorK8
namespace Go.Proofs.YtfcedenofbefcaaGreatDoor
open Go.RowKit
set_option linter.unusedVariables false
set_option linter.unusedSimpArgs false

/-! (*loop.example/pub-g01476/pub/tdhtml.Lexer).Next -/
def hNText.l0 (K : Nat) (B : List Int) (al : Int) (ah : Int) : Nat → Int → Int → Int → Bool → Int → Int → Option (Int × Int × Int × Int × Int × Int × Bool × Int × Int × Int × Int)
  | 0, _, _, _, _, _, _ => none
  | k + 1, p452, s453, rt454, tg455, tl456, th457 =>
    (pk B p452 0).bind fun c459 =>
    if (c459 == 60) = true then ((pk B p452 1).bind fun c463 =>
    (if (c463 == 47) = true then ((pk B p452 2).bind fun c467 =>
    if (c467 == 62) = true then (some false) else
    (pk B p452 2).bind fun c470 =>
    if (c470 == 0) = true then (if (atEnd B p452 2) = true then (some false) else
    some true) else
    some true) else
    some false).bind fun b476 =>
    if (((((!b476) && ((decide (c463 < 97)) || (decide (122 < c463)))) && ((decide (c463 < 65)) || (decide (90 < c463)))) && (!(c463 == 33))) && (!(c463 == 63))) = true then (hNText.l0 K B al ah k (mv p452 1) s453 rt454 tg455 tl456 th457) else
    if (decide (0 < ps p452 s453)) = true then ((sel B p452 s453).bind fun u492 =>
    some (8, s453, p452, p452, p452, rt454, tg455, s453, p452, al, ah)) else
    none) else
    if ((c459 == 0) && (atEnd B p452 0)) = true then (if (decide (0 < ps p452 s453)) = true then ((sel B p452 s453).bind fun u505 =>
    some (8, s453, p452, p452, p452, rt454, tg455, s453, p452, al, ah)) else
    none) else
    hNText.l0 K B al ah k (mv p452 1) s453 rt454 tg455 tl456 th457
def hNText.f (K : Nat) (B : List Int) (p : Int) (s : Int) (rt : Int) (tg : Bool) (tl : Int) (th : Int) (al : Int) (ah : Int) : Option (Int × Int × Int × Int × Int × Int × Bool × Int × Int × Int × Int) :=
hNText.l0 K B al ah K p s 0 false 0 0
set_option maxHeartbeats 8000000 in
set_option maxRecDepth 100000 in
theorem hNText.calls (K : Nat) {w0 : World} {l z b : Nat} {B : List Int} {EA : Addr} {p s : Int} {tl : Int} {th : Int} {al : Int} {ah : Int} (hI0 : Hl w0 l z b B 179 EA p s 0 false tl th al ah) (r0 : Int) (r1 : Int) (r2 : Int) (r3 : Int) (r4 : Int) (r5 : Int) (r6 : Bool) (r7 : Int) (r8 : Int) (r9 : Int) (r10 : Int) (H : Hd (hNText.f K B p s 0 false tl th al ah = some (r0, r1, r2, r3, r4, r5, r6, r7, r8, r9, r10))) :
    Calls Tryz.prog 33 #[.pointer (some ⟨l, 0, none⟩)] w0 fun e w' => e = .returned (.tuple #[.int .u32 r0, nxv b r0 r1 r2]) ∧ Hl w' l z b B 179 EA r3 r4 r5 r6 r7 r8 r9 r10 ∧ Fr l z w0 w' := by
  have hF0 : Fr l z w0 w0 := Fr.refl _ _ w0
  have c00 := hI0.c0
  have c10 := hI0.c1
  have c20 := hI0.c2
  have c30 := hI0.c3
  have c40 := hI0.c4
  have c50 := hI0.c5
  have c80 := hI0.c8
  have f0 := hI0.f
  obtain ⟨At0, nt0, ct0, hct0, hSt0⟩ := hI0.ct
  obtain ⟨Aa0, na0, ca0, hca0, hSa0⟩ := hI0.ca
  unfold hNText.f at H
  go_enter Tryz.func33, Tryz.ntmps33
  have H1 := H; clear H
  go_wp2_with fail
  go_loopg [] K (fun gk w' => ∃ (p452 : Int), ∃ (s453 : Int), ∃ (rt454 : Int), ∃ (tg455 : Bool), ∃ (tl456 : Int), ∃ (th457 : Int), Hd (hNText.l0 K B al ah gk p452 s453 rt454 tg455 tl456 th457 = some (r0, r1, r2, r3, r4, r5, r6, r7, r8, r9, r10)) ∧ Hd (Hl w' l z b B 179 EA p452 s453 rt454 tg455 tl456 th457 al ah) ∧ Hd (Fr l z w0 w'))
  case atStart => exact ⟨p, s, 0, false, 0, 0, H1, ⟨(show Hl _ l z b B 179 EA p s 0 false 0 0 al ah from by repeat (first | exact hI0 | apply Hl.drewN | apply Hl.drew | apply Hl.alloc | (apply Hl.setText; case hS => first | assumption | exact Sv.nil _ _) | (apply Hl.setAttr; case hS => first | assumption | exact Sv.nil _ _) | (apply Hl.setTextS; case hb => exact sel_of (by assumption)) | (apply Hl.setAttrS; case hb => exact sel_of (by assumption)) | apply Hl.setTag | apply Hl.setRaw | apply Hl.setTmpl))⟩, ⟨(show Fr l z w0 _ from by repeat (first | exact hF0 | apply Fr.drewN | apply Fr.drew | apply Fr.alloc | apply Fr.setl))⟩⟩
  case round =>
    clear H1
    obtain ⟨p452, s453, rt454, tg455, tl456, th457, H, gI, gF⟩ := hrel
    have hI458 := gI.out; have hF458 := gF.out; clear gI gF
    have c0458 := hI458.c0
    have c1458 := hI458.c1
    have c2458 := hI458.c2
    have c3458 := hI458.c3
    have c4458 := hI458.c4
    have c5458 := hI458.c5
    have c8458 := hI458.c8
    have f458 := hI458.f
    obtain ⟨At458, nt458, ct458, hct458, hSt458⟩ := hI458.ct
    obtain ⟨Aa458, na458, ca458, hca458, hSa458⟩ := hI458.ca
    try clear c00 c10 c20 c30 c40 c50 c80 f0 hct0 hca0
    cases gk with
    | zero => exact absurd H.out (by simp [hNText.l0])
    | succ k =>
      simp only [hNText.l0] at H
      obtain ⟨c459, A460, HN⟩ := H.bind; clear H; have H := HN; clear HN
      go_wp2_with fail
      refine (Hl.Peek_calls hI458 0 c459 A460).mono ?_
      rintro e w' ⟨rfl, rfl⟩
      by_cases e462 : (c459 == 60) = true
      · 
        replace H := H.pos e462
        as_aux_lemma =>
          have e462n : (c459 != 60) = false := by simp only [bne, e462, Bool.not_true]
          obtain ⟨c463, A464, HN⟩ := H.bind; clear H; have H := HN; clear HN
          go_wp2_with fail
          refine (Hl.Peek_calls hI458 1 c463 A464).mono ?_
          rintro e w' ⟨rfl, rfl⟩
          obtain ⟨b476, H1, HC465⟩ := H.bind; clear H
          go_upto_region 38 with fail
          go_cut [6] (fun v6 w' => v6 = .bool b476 ∧ Hd (Hl w' l z b B 179 EA p452 s453 rt454 tg455 tl456 th457 al ah) ∧ Hd (Fr l z w0 w'))
          case first =>
            as_aux_lemma =>
              have H := H1; clear H1
              by_cases e466 : (c463 == 47) = true
              · 
                replace H := H.pos e466
                as_aux_lemma =>
                  have e466n : (c463 != 47) = false := by simp only [bne, e466, Bool.not_true]
                  obtain ⟨c467, A468, HN⟩ := H.bind; clear H; have H := HN; clear HN
                  go_wp2_with fail
                  refine (Hl.Peek_calls hI458 2 c467 A468).mono ?_
                  rintro e w' ⟨rfl, rfl⟩
                  by_cases e469 : (c467 == 62) = true
                  · 
                    replace H := H.pos e469
                    have e469n : (c467 != 62) = false := by simp only [bne, e469, Bool.not_true]
                    obtain rfl := H.p1
                    go_wp2_with fail
                    go_meet
                    case rel => exact ⟨(by first | rfl | simp | exact Eq.symm (Hd.out ‹Hd (slv _ _ _ = _)›)), ⟨hI458⟩, ⟨hF458⟩⟩
                  ·
                    replace H := H.neg e469
                    replace e469 := Bool.eq_false_iff.mpr e469
                    have e469n : (c467 != 62) = true := by simp only [bne, e469, Bool.not_false]
                    obtain ⟨c470, A471, HN⟩ := H.bind; clear H; have H := HN; clear HN
                    go_wp2_with fail
                    refine (Hl.Peek_calls hI458 2 c470 A471).mono ?_
                    rintro e w' ⟨rfl, rfl⟩
                    by_cases e472 : (c470 == 0) = true
                    · 
                      replace H := H.pos e472
                      as_aux_lemma =>
                        have e472n : (c470 != 0) = false := by simp only [bne, e472, Bool.not_true]
                        by_cases e473 : (atEnd B p452 2) = true
                        · 
                          replace H := H.pos e473
                          as_aux_lemma =>
                            go_wp2_with fail
                            refine (Hl.PeekErr_end_calls hI458 2 e473).mono ?_
                            rintro e w474 ⟨rfl, hI474, k474⟩
                            have hF474 := hF458.trans k474
                            have c0474 := hI474.c0
                            have c1474 := hI474.c1
                            have c2474 := hI474.c2
                            have c3474 := hI474.c3
                            have c4474 := hI474.c4
                            have c5474 := hI474.c5
                            have c8474 := hI474.c8
                            have f474 := hI474.f
                            obtain ⟨At474, nt474, ct474, hct474, hSt474⟩ := hI474.ct
                            obtain ⟨Aa474, na474, ca474, hca474, hSa474⟩ := hI474.ca
                            try clear c0458 c1458 c2458 c3458 c4458 c5458 c8458 f458 hct458 hca458
                            obtain rfl := H.p1
                            go_wp2_with fail
                            go_meet
                            case rel => exact ⟨(by first | rfl | simp | exact Eq.symm (Hd.out ‹Hd (slv _ _ _ = _)›)), ⟨hI474⟩, ⟨hF474⟩⟩
                        ·
                          replace H := H.neg e473
                          replace e473 := Bool.eq_false_iff.mpr e473
                          go_wp2_with fail
                          refine (Hl.PeekErr_not_calls hI458 2 e473).mono ?_
                          rintro e w475 ⟨rfl, hI475, k475⟩
                          have hF475 := hF458.trans k475
                          have c0475 := hI475.c0
                          have c1475 := hI475.c1
                          have c2475 := hI475.c2
                          have c3475 := hI475.c3
                          have c4475 := hI475.c4
                          have c5475 := hI475.c5
                          have c8475 := hI475.c8
                          have f475 := hI475.f
                          obtain ⟨At475, nt475, ct475, hct475, hSt475⟩ := hI475.ct
                          obtain ⟨Aa475, na475, ca475, hca475, hSa475⟩ := hI475.ca
                          try clear c0458 c1458 c2458 c3458 c4458 c5458 c8458 f458 hct458 hca458
                          obtain rfl := H.p1
                          go_wp2_with fail
                          go_meet
                          case rel => exact ⟨(by first | rfl | simp | exact Eq.symm (Hd.out ‹Hd (slv _ _ _ = _)›)), ⟨hI475⟩, ⟨hF475⟩⟩
                    ·
                      replace H := H.neg e472
                      replace e472 := Bool.eq_false_iff.mpr e472
                      have e472n : (c470 != 0) = true := by simp only [bne, e472, Bool.not_false]
                      obtain rfl := H.p1
                      go_wp2_with fail
                      go_meet
                      case rel => exact ⟨(by first | rfl | simp | exact Eq.symm (Hd.out ‹Hd (slv _ _ _ = _)›)), ⟨hI458⟩, ⟨hF458⟩⟩
              ·
                replace H := H.neg e466
                replace e466 := Bool.eq_false_iff.mpr e466
                have e466n : (c463 != 47) = true := by simp only [bne, e466, Bool.not_false]
                obtain rfl := H.p1
                go_wp2_with fail
                go_meet
                case rel => exact ⟨(by first | rfl | simp | exact Eq.symm (Hd.out ‹Hd (slv _ _ _ = _)›)), ⟨hI458⟩, ⟨hF458⟩⟩
          case rest =>
            as_aux_lemma =>
              obtain ⟨rfl, gI, gF⟩ := hcut
              have hI477 := gI.out; have hF477 := gF.out; clear gI gF
              have c0477 := hI477.c0
              have c1477 := hI477.c1
              have c2477 := hI477.c2
              have c3477 := hI477.c3
              have c4477 := hI477.c4
              have c5477 := hI477.c5
              have c8477 := hI477.c8
              have f477 := hI477.f
              obtain ⟨At477, nt477, ct477, hct477, hSt477⟩ := hI477.ct
              obtain ⟨Aa477, na477, ca477, hca477, hSa477⟩ := hI477.ca
              try clear c0458 c1458 c2458 c3458 c4458 c5458 c8458 f458 hct458 hca458
              have H := HC465; clear HC465 H1
              generalize hb478 : (((((!b476) && ((decide (c463 < 97)) || (decide (122 < c463)))) && ((decide (c463 < 65)) || (decide (90 < c463)))) && (!(c463 == 33))) && (!(c463 == 63))) = b488 at H
              have HB478 := Hd.mk hb478; clear hb478
              go_upto_region 39 with fail
              go_cut [240] (fun v240 w' => v240 = .bool b488 ∧ wc = w')
              case first =>
                as_aux_lemma =>
                  clear H
                  cases b476 with
                  | true =>
                    go_wp2_with fail
                    go_meet
                    case rel => exact ⟨by first | (rw [← HB478.out]; done) | (rw [← HB478.out]; first | rfl | simp), rfl⟩
                  | false =>
                    by_cases e479 : (decide (c463 < 97)) = true
                    · 
                      as_aux_lemma =>
                        by_cases e480 : (decide (c463 < 65)) = true
                        · 
                          as_aux_lemma =>
                            by_cases e481 : (c463 == 33) = true
                            · 
                              have e481n : (c463 != 33) = false := by simp only [bne, e481, Bool.not_true]
                              go_wp2_with fail
                              go_meet
                              case rel => exact ⟨by rw [← HB478.out, e479, e480, e481]; first | rfl | simp, rfl⟩
                            ·
                              replace e481 := Bool.eq_false_iff.mpr e481
                              have e481n : (c463 != 33) = true := by simp only [bne, e481, Bool.not_false]
                              go_wp2_with fail
                              go_meet
                              case rel => exact ⟨by rw [← HB478.out, e479, e480, e481]; first | rfl | simp, rfl⟩
                        ·
                          replace e480 := Bool.eq_false_iff.mpr e480
                          by_cases e482 : (decide (90 < c463)) = true
                          · 
                            have e483 : (c463 == 33) = false := beq_eq_false_iff_ne.mpr (by have := of_decide_eq_true e482; omega)
                            have e483n : (c463 != 33) = true := by simp only [bne, e483, Bool.not_false]
                            go_wp2_with fail
                            go_meet
                            case rel => exact ⟨by rw [← HB478.out, e479, e480, e482, e483]; first | rfl | simp, rfl⟩
                          ·
                            replace e482 := Bool.eq_false_iff.mpr e482
                            go_wp2_with fail
                            go_meet
                            case rel => exact ⟨by rw [← HB478.out, e479, e480, e482]; first | rfl | simp, rfl⟩
                    ·
                      replace e479 := Bool.eq_false_iff.mpr e479
                      by_cases e484 : (decide (122 < c463)) = true
                      · 
                        have e485 : (decide (c463 < 65)) = false := decide_eq_false (by have := of_decide_eq_true e484; omega)
                        have e486 : (decide (90 < c463)) = true := decide_eq_true (by have := of_decide_eq_true e484; omega)
                        have e487 : (c463 == 33) = false := beq_eq_false_iff_ne.mpr (by have := of_decide_eq_true e484; omega)
                        have e487n : (c463 != 33) = true := by simp only [bne, e487, Bool.not_false]
                        go_wp2_with fail
                        go_meet
                        case rel => exact ⟨by rw [← HB478.out, e479, e484, e485, e486, e487]; first | rfl | simp, rfl⟩
                      ·
                        replace e484 := Bool.eq_false_iff.mpr e484
                        go_wp2_with fail
                        go_meet
                        case rel => exact ⟨by rw [← HB478.out, e479, e484]; first | rfl | simp, rfl⟩
              case rest =>
                as_aux_lemma =>
                  obtain ⟨rfl, rfl⟩ := hcut
                  cases b488 with
                  | true =>
                    replace H := H.tt
                    go_wp2_with fail
                    refine (Hl.Move_calls hI477 1).mono ?_
                    rintro e w489 ⟨rfl, hI489, k489⟩
                    have hF489 := hF477.trans k489
                    have c0489 := hI489.c0
                    have c1489 := hI489.c1
                    have c2489 := hI489.c2
                    have c3489 := hI489.c3
                    have c4489 := hI489.c4
                    have c5489 := hI489.c5
                    have c8489 := hI489.c8
                    have f489 := hI489.f
                    obtain ⟨At489, nt489, ct489, hct489, hSt489⟩ := hI489.ct
                    obtain ⟨Aa489, na489, ca489, hca489, hSa489⟩ := hI489.ca
                    try clear c0477 c1477 c2477 c3477 c4477 c5477 c8477 f477 hct477 hca477
                    go_wp2_with fail
                    go_roundg k
                    case measure => exact Nat.lt_succ_self _
                    case rel => exact ⟨mv p452 1, s453, rt454, tg455, tl456, th457, H, ⟨hI489⟩, ⟨hF489⟩⟩
                  | false =>
                    replace H := H.ff
                    go_wp2_with fail
                    refine (Hl.Pos_calls hI477).mono ?_
                    rintro e w490 ⟨rfl, hI490, k490⟩
                    have hF490 := hF477.trans k490
                    have c0490 := hI490.c0
                    have c1490 := hI490.c1
                    have c2490 := hI490.c2
                    have c3490 := hI490.c3
                    have c4490 := hI490.c4
                    have c5490 := hI490.c5
                    have c8490 := hI490.c8
                    have f490 := hI490.f
                    obtain ⟨At490, nt490, ct490, hct490, hSt490⟩ := hI490.ct
                    obtain ⟨Aa490, na490, ca490, hca490, hSa490⟩ := hI490.ca
                    try clear c0477 c1477 c2477 c3477 c4477 c5477 c8477 f477 hct477 hca477
                    by_cases e491 : (decide (0 < ps p452 s453)) = true
                    · 
                      replace H := H.pos e491
                      as_aux_lemma =>
                        obtain ⟨u492, A493, HN⟩ := H.bind; clear H; have H := HN; clear HN
                        go_wp2_with fail
                        refine (Hl.ShiftV_calls hI490 u492 A493).mono ?_
                        rintro e w494 ⟨⟨A495, n495, c495, rfl, hS495, hE495⟩, hI494, k494⟩
                        have hF494 := hF490.trans k494
                        have c0494 := hI494.c0
                        have c1494 := hI494.c1
                        have c2494 := hI494.c2
                        have c3494 := hI494.c3
                        have c4494 := hI494.c4
                        have c5494 := hI494.c5
                        have c8494 := hI494.c8
                        have f494 := hI494.f
                        obtain ⟨At494, nt494, ct494, hct494, hSt494⟩ := hI494.ct
                        obtain ⟨Aa494, na494, ca494, hca494, hSa494⟩ := hI494.ca
                        try clear c0490 c1490 c2490 c3490 c4490 c5490 c8490 f490 hct490 hca490
                        go_wp2_with fail
                        go_quiet (fail)
                        go_wp2_with fail
                        go_ret2
                        obtain ⟨rfl, rfl, rfl, rfl, rfl, rfl, rfl, rfl, rfl, rfl, rfl⟩ := H.p11
                        exact ⟨(by first | rfl | (unfold nxv; rw [if_neg (by decide), Hd.out ‹Hd (slv _ _ _ = _)›]; rfl) | (simp only [nxv, *]; done) | (simp [nxv, *]; done)), (show Hl _ l z b B 179 EA p452 p452 rt454 tg455 s453 p452 al ah from by repeat (first | exact hI494 | apply Hl.drewN | apply Hl.drew | apply Hl.alloc | (apply Hl.setText; case hS => first | assumption | exact Sv.nil _ _) | (apply Hl.setAttr; case hS => first | assumption | exact Sv.nil _ _) | (apply Hl.setTextS; case hb => exact sel_of (by assumption)) | (apply Hl.setAttrS; case hb => exact sel_of (by assumption)) | apply Hl.setTag | apply Hl.setRaw | apply Hl.setTmpl)), (show Fr l z w0 _ from by repeat (first | exact hF494 | apply Fr.drewN | apply Fr.drew | apply Fr.alloc | apply Fr.setl))⟩
                    ·
                      replace H := H.neg e491
                      replace e491 := Bool.eq_false_iff.mpr e491
                      exact H.no
      ·
        replace H := H.neg e462
        replace e462 := Bool.eq_false_iff.mpr e462
        have e462n : (c459 != 60) = true := by simp only [bne, e462, Bool.not_false]
        generalize hb496 : ((c459 == 0) && (atEnd B p452 0)) = b501 at H
        have HB496 := Hd.mk hb496; clear hb496
        go_upto_region 60 with fail
        go_cut [349] (fun v349 w' => v349 = .bool b501 ∧ Hd (Hl w' l z b B 179 EA p452 s453 rt454 tg455 tl456 th457 al ah) ∧ Hd (Fr l z w0 w'))
        case first =>
          as_aux_lemma =>
            clear H
            by_cases e497 : (c459 == 0) = true
            · 
              as_aux_lemma =>
                have e497n : (c459 != 0) = false := by simp only [bne, e497, Bool.not_true]
                by_cases e498 : (atEnd B p452 0) = true
                · 
                  as_aux_lemma =>
                    go_wp2_with fail
                    refine (Hl.Err_end_calls hI458 e498).mono ?_
                    rintro e w499 ⟨rfl, hI499, k499⟩
                    have hF499 := hF458.trans k499
                    have c0499 := hI499.c0
                    have c1499 := hI499.c1
                    have c2499 := hI499.c2
                    have c3499 := hI499.c3
                    have c4499 := hI499.c4
                    have c5499 := hI499.c5
                    have c8499 := hI499.c8
                    have f499 := hI499.f
                    obtain ⟨At499, nt499, ct499, hct499, hSt499⟩ := hI499.ct
                    obtain ⟨Aa499, na499, ca499, hca499, hSa499⟩ := hI499.ca
                    try clear c0458 c1458 c2458 c3458 c4458 c5458 c8458 f458 hct458 hca458
                    go_wp2_with fail
                    go_meet
                    case rel => exact ⟨by rw [← HB496.out, e497, e498]; first | rfl | simp, ⟨hI499⟩, ⟨hF499⟩⟩
                ·
                  replace e498 := Bool.eq_false_iff.mpr e498
                  go_wp2_with fail
                  refine (Hl.Err_not_calls hI458 e498).mono ?_
                  rintro e w500 ⟨rfl, hI500, k500⟩
                  have hF500 := hF458.trans k500
                  have c0500 := hI500.c0
                  have c1500 := hI500.c1
                  have c2500 := hI500.c2
                  have c3500 := hI500.c3
                  have c4500 := hI500.c4
                  have c5500 := hI500.c5
                  have c8500 := hI500.c8
                  have f500 := hI500.f
                  obtain ⟨At500, nt500, ct500, hct500, hSt500⟩ := hI500.ct
                  obtain ⟨Aa500, na500, ca500, hca500, hSa500⟩ := hI500.ca
                  try clear c0458 c1458 c2458 c3458 c4458 c5458 c8458 f458 hct458 hca458
                  go_wp2_with fail
                  go_meet
                  case rel => exact ⟨by rw [← HB496.out, e497, e498]; first | rfl | simp, ⟨hI500⟩, ⟨hF500⟩⟩
            ·
              replace e497 := Bool.eq_false_iff.mpr e497
              have e497n : (c459 != 0) = true := by simp only [bne, e497, Bool.not_false]
              go_wp2_with fail
              go_meet
              case rel => exact ⟨by rw [← HB496.out, e497]; first | rfl | simp, ⟨hI458⟩, ⟨hF458⟩⟩
        case rest =>
          as_aux_lemma =>
            obtain ⟨rfl, gI, gF⟩ := hcut
            have hI502 := gI.out; have hF502 := gF.out; clear gI gF
            have c0502 := hI502.c0
            have c1502 := hI502.c1
            have c2502 := hI502.c2
            have c3502 := hI502.c3
            have c4502 := hI502.c4
            have c5502 := hI502.c5
            have c8502 := hI502.c8
            have f502 := hI502.f
            obtain ⟨At502, nt502, ct502, hct502, hSt502⟩ := hI502.ct
            obtain ⟨Aa502, na502, ca502, hca502, hSa502⟩ := hI502.ca
            try clear c0458 c1458 c2458 c3458 c4458 c5458 c8458 f458 hct458 hca458
            cases b501 with
            | true =>
              replace H := H.tt
              go_wp2_with fail
              refine (Hl.Pos_calls hI502).mono ?_
              rintro e w503 ⟨rfl, hI503, k503⟩
              have hF503 := hF502.trans k503
              have c0503 := hI503.c0
              have c1503 := hI503.c1
              have c2503 := hI503.c2
              have c3503 := hI503.c3
              have c4503 := hI503.c4
              have c5503 := hI503.c5
              have c8503 := hI503.c8
              have f503 := hI503.f
              obtain ⟨At503, nt503, ct503, hct503, hSt503⟩ := hI503.ct
              obtain ⟨Aa503, na503, ca503, hca503, hSa503⟩ := hI503.ca
              try clear c0502 c1502 c2502 c3502 c4502 c5502 c8502 f502 hct502 hca502
              by_cases e504 : (decide (0 < ps p452 s453)) = true
              · 
                replace H := H.pos e504
                as_aux_lemma =>
                  obtain ⟨u505, A506, HN⟩ := H.bind; clear H; have H := HN; clear HN
                  go_wp2_with fail
                  refine (Hl.ShiftV_calls hI503 u505 A506).mono ?_
                  rintro e w507 ⟨⟨A508, n508, c508, rfl, hS508, hE508⟩, hI507, k507⟩
                  have hF507 := hF503.trans k507
                  have c0507 := hI507.c0
                  have c1507 := hI507.c1
                  have c2507 := hI507.c2
                  have c3507 := hI507.c3
                  have c4507 := hI507.c4
                  have c5507 := hI507.c5
                  have c8507 := hI507.c8
                  have f507 := hI507.f
                  obtain ⟨At507, nt507, ct507, hct507, hSt507⟩ := hI507.ct
                  obtain ⟨Aa507, na507, ca507, hca507, hSa507⟩ := hI507.ca
                  try clear c0503 c1503 c2503 c3503 c4503 c5503 c8503 f503 hct503 hca503
                  go_wp2_with fail
                  go_quiet (fail)
                  go_wp2_with fail
                  go_ret2
                  obtain ⟨rfl, rfl, rfl, rfl, rfl, rfl, rfl, rfl, rfl, rfl, rfl⟩ := H.p11
                  exact ⟨(by first | rfl | (unfold nxv; rw [if_neg (by decide), Hd.out ‹Hd (slv _ _ _ = _)›]; rfl) | (simp only [nxv, *]; done) | (simp [nxv, *]; done)), (show Hl _ l z b B 179 EA p452 p452 rt454 tg455 s453 p452 al ah from by repeat (first | exact hI507 | apply Hl.drewN | apply Hl.drew | apply Hl.alloc | (apply Hl.setText; case hS => first | assumption | exact Sv.nil _ _) | (apply Hl.setAttr; case hS => first | assumption | exact Sv.nil _ _) | (apply Hl.setTextS; case hb => exact sel_of (by assumption)) | (apply Hl.setAttrS; case hb => exact sel_of (by assumption)) | apply Hl.setTag | apply Hl.setRaw | apply Hl.setTmpl)), (show Fr l z w0 _ from by repeat (first | exact hF507 | apply Fr.drewN | apply Fr.drew | apply Fr.alloc | apply Fr.setl))⟩
              ·
                replace H := H.neg e504
                replace e504 := Bool.eq_false_iff.mpr e504
                exact H.no
            | false =>
              replace H := H.ff
              go_wp2_with fail
              refine (Hl.Move_calls hI502 1).mono ?_
              rintro e w509 ⟨rfl, hI509, k509⟩
              have hF509 := hF502.trans k509
              have c0509 := hI509.c0
              have c1509 := hI509.c1
              have c2509 := hI509.c2
              have c3509 := hI509.c3
              have c4509 := hI509.c4
              have c5509 := hI509.c5
              have c8509 := hI509.c8
              have f509 := hI509.f
              obtain ⟨At509, nt509, ct509, hct509, hSt509⟩ := hI509.ct
              obtain ⟨Aa509, na509, ca509, hca509, hSa509⟩ := hI509.ca
              try clear c0502 c1502 c2502 c3502 c4502 c5502 c8502 f502 hct502 hca502
              go_wp2_with fail
              go_roundg k
              case measure => exact Nat.lt_succ_self _
              case rel => exact ⟨mv p452 1, s453, rt454, tg455, tl456, th457, H, ⟨hI509⟩, ⟨hF509⟩⟩
end Go.Proofs.YtfcedenofbefcaaGreatDoor
