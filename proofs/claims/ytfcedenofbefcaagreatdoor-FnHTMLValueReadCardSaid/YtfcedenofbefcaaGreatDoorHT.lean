import Derived.Test.YtfcedenofbefcaaGreatDoorH4
import Derived.Test.YtfcedenofbefcaaGreatDoorK8
namespace Go.Proofs.YtfcedenofbefcaaGreatDoor
open Go.RowKit
set_option linter.unusedVariables false
set_option linter.unusedSimpArgs false

/-! (*loop.example/pub-g01476/pub/tdhtml.Lexer).Next -/
def hNextT.l0 (K : Nat) (B : List Int) : Nat → Int → Option (Int × Int)
  | 0, _ => none
  | k + 1, p452 =>
    (pk B p452 0).bind fun c454 =>
    if (((((c454 == 32) || (c454 == 9)) || (c454 == 10)) || (c454 == 13)) || (c454 == 12)) = true then (hNextT.l0 K B k (mv p452 1)) else
    some (c454, p452)
def hNextT.f (K : Nat) (B : List Int) (p : Int) (s : Int) (rt : Int) (tg : Bool) (tl : Int) (th : Int) (al : Int) (ah : Int) : Option (Int × Int × Int × Int × Int × Int × Bool × Int × Int × Int × Int) :=
(hNextT.l0 K B K p).bind fun (x463, p464) =>
if ((x463 == 0) && (atEnd B p464 0)) = true then (some (0, 0, 0, p464, s, rt, true, 0, 0, 0, 0)) else
(if (x463 == 62) = true then (some false) else
if (x463 == 47) = true then ((pk B p464 1).bind fun c476 =>
some (!(c476 == 62))) else
some true).bind fun b478 =>
if b478 = true then ((hshiftAttribute.f K B p464 s rt true 0 0 0 0).bind fun (i479, i480, p481, s482, tl483, th484, al485, ah486) =>
some (7, i479, i480, p481, s482, rt, true, tl483, th484, al485, ah486)) else
if (x463 == 47) = true then ((sel B (mv p464 2) p464).bind fun u492 =>
some (5, p464, mv p464 2, mv p464 2, mv p464 2, rt, false, 0, 0, 0, 0)) else
(sel B (mv p464 1) p464).bind fun u496 =>
some (4, p464, mv p464 1, mv p464 1, mv p464 1, rt, false, 0, 0, 0, 0)
set_option maxHeartbeats 8000000 in
set_option maxRecDepth 100000 in
theorem hNextT.calls (K : Nat) {w0 : World} {l z b : Nat} {B : List Int} {EA : Addr} {p s : Int} {rt : Int} {tl : Int} {th : Int} {al : Int} {ah : Int} (hI0 : Hl w0 l z b B 179 EA p s rt true tl th al ah) (r0 : Int) (r1 : Int) (r2 : Int) (r3 : Int) (r4 : Int) (r5 : Int) (r6 : Bool) (r7 : Int) (r8 : Int) (r9 : Int) (r10 : Int) (H : Hd (hNextT.f K B p s rt true tl th al ah = some (r0, r1, r2, r3, r4, r5, r6, r7, r8, r9, r10))) :
    Calls Tryz.prog 33 #[.pointer (some ⟨l, 0, none⟩)] w0 fun e w' => e = .returned (.tuple #[.int .u32 r0, nxv b r0 r1 r2]) ∧ Hl w' l z b B 179 EA r3 r4 r5 r6 r7 r8 r9 r10 ∧ Fr l z w0 w' := by
  have hF0 : Fr l z w0 w0 := Fr.refl _ _ w0
  have c00 := hI0.c0
  have c10 := hI0.c1
  have c20 := hI0.c2
  have c30 := hI0.c3
  have c40 := hI0.c4
  have c50 := hI0.c5
  have c80 := hI0.c8
  have f0 := hI0.f
  obtain ⟨At0, nt0, ct0, hct0, hSt0⟩ := hI0.ct
  obtain ⟨Aa0, na0, ca0, hca0, hSa0⟩ := hI0.ca
  unfold hNextT.f at H
  go_enter Tryz.func33, Tryz.ntmps33
  obtain ⟨⟨x463, p464⟩, H1, HC451⟩ := H.bind; clear H
  try dsimp only at HC451
  go_upto_block 0 with fail
  go_cut [4] from 4 to 4 (fun v4 w' => v4 = .int .u8 x463 ∧ Hd (Hl w' l z b B 179 EA p464 s rt true 0 0 0 0) ∧ Hd (Fr l z w0 w'))
  case first =>
    go_wp2_with fail
    go_loopg [] K (fun gk w' => ∃ (p452 : Int), Hd (hNextT.l0 K B gk p452 = some (x463, p464)) ∧ Hd (Hl w' l z b B 179 EA p452 s rt true 0 0 0 0) ∧ Hd (Fr l z w0 w'))
    case atStart => exact ⟨p, H1, ⟨(show Hl _ l z b B 179 EA p s rt true 0 0 0 0 from by repeat (first | exact hI0 | apply Hl.drewN | apply Hl.drew | apply Hl.alloc | (apply Hl.setText; case hS => first | assumption | exact Sv.nil _ _) | (apply Hl.setAttr; case hS => first | assumption | exact Sv.nil _ _) | (apply Hl.setTextS; case hb => exact sel_of (by assumption)) | (apply Hl.setAttrS; case hb => exact sel_of (by assumption)) | apply Hl.setTag | apply Hl.setRaw | apply Hl.setTmpl))⟩, ⟨(show Fr l z w0 _ from by repeat (first | exact hF0 | apply Fr.drewN | apply Fr.drew | apply Fr.alloc | apply Fr.setl))⟩⟩
    case round =>
      clear H1
      obtain ⟨p452, H, gI, gF⟩ := hrel
      have hI453 := gI.out; have hF453 := gF.out; clear gI gF
      have c0453 := hI453.c0
      have c1453 := hI453.c1
      have c2453 := hI453.c2
      have c3453 := hI453.c3
      have c4453 := hI453.c4
      have c5453 := hI453.c5
      have c8453 := hI453.c8
      have f453 := hI453.f
      obtain ⟨At453, nt453, ct453, hct453, hSt453⟩ := hI453.ct
      obtain ⟨Aa453, na453, ca453, hca453, hSa453⟩ := hI453.ca
      try clear c00 c10 c20 c30 c40 c50 c80 f0 hct0 hca0
      cases gk with
      | zero => exact absurd H.out (by simp [hNextT.l0])
      | succ k =>
        simp only [hNextT.l0] at H
        obtain ⟨c454, A455, HN⟩ := H.bind; clear H; have H := HN; clear HN
        go_wp2_with fail
        refine (Hl.Peek_calls hI453 0 c454 A455).mono ?_
        rintro e w' ⟨rfl, rfl⟩
        generalize hb456 : (((((c454 == 32) || (c454 == 9)) || (c454 == 10)) || (c454 == 13)) || (c454 == 12)) = b461 at H
        have HB456 := Hd.mk hb456; clear hb456
        go_upto_region 7 with fail
        go_cut [42] (fun v42 w' => v42 = .bool b461 ∧ wr = w')
        case first =>
          as_aux_lemma =>
            clear H
            by_cases e457 : (c454 == 32) = true
            · 
              have e457n : (c454 != 32) = false := by simp only [bne, e457, Bool.not_true]
              go_wp2_with fail
              go_meet
              case rel => exact ⟨by rw [← HB456.out, e457]; first | rfl | simp, rfl⟩
            ·
              replace e457 := Bool.eq_false_iff.mpr e457
              have e457n : (c454 != 32) = true := by simp only [bne, e457, Bool.not_false]
              by_cases e458 : (c454 == 9) = true
              · 
                have e458n : (c454 != 9) = false := by simp only [bne, e458, Bool.not_true]
                go_wp2_with fail
                go_meet
                case rel => exact ⟨by rw [← HB456.out, e457, e458]; first | rfl | simp, rfl⟩
              ·
                replace e458 := Bool.eq_false_iff.mpr e458
                have e458n : (c454 != 9) = true := by simp only [bne, e458, Bool.not_false]
                by_cases e459 : (c454 == 10) = true
                · 
                  have e459n : (c454 != 10) = false := by simp only [bne, e459, Bool.not_true]
                  go_wp2_with fail
                  go_meet
                  case rel => exact ⟨by rw [← HB456.out, e457, e458, e459]; first | rfl | simp, rfl⟩
                ·
                  replace e459 := Bool.eq_false_iff.mpr e459
                  have e459n : (c454 != 10) = true := by simp only [bne, e459, Bool.not_false]
                  by_cases e460 : (c454 == 13) = true
                  · 
                    have e460n : (c454 != 13) = false := by simp only [bne, e460, Bool.not_true]
                    go_wp2_with fail
                    go_meet
                    case rel => exact ⟨by rw [← HB456.out, e457, e458, e459, e460]; first | rfl | simp, rfl⟩
                  ·
                    replace e460 := Bool.eq_false_iff.mpr e460
                    have e460n : (c454 != 13) = true := by simp only [bne, e460, Bool.not_false]
                    go_wp2_with fail
                    go_meet
                    case rel => exact ⟨by rw [← HB456.out, e457, e458, e459, e460]; first | rfl | simp, rfl⟩
        case rest =>
          as_aux_lemma =>
            obtain ⟨rfl, rfl⟩ := hcut
            cases b461 with
            | true =>
              replace H := H.tt
              go_wp2_with fail
              refine (Hl.Move_calls hI453 1).mono ?_
              rintro e w462 ⟨rfl, hI462, k462⟩
              have hF462 := hF453.trans k462
              have c0462 := hI462.c0
              have c1462 := hI462.c1
              have c2462 := hI462.c2
              have c3462 := hI462.c3
              have c4462 := hI462.c4
              have c5462 := hI462.c5
              have c8462 := hI462.c8
              have f462 := hI462.f
              obtain ⟨At462, nt462, ct462, hct462, hSt462⟩ := hI462.ct
              obtain ⟨Aa462, na462, ca462, hca462, hSa462⟩ := hI462.ca
              try clear c0453 c1453 c2453 c3453 c4453 c5453 c8453 f453 hct453 hca453
              go_wp2_with fail
              go_roundg k
              case measure => exact Nat.lt_succ_self _
              case rel => exact ⟨mv p452 1, H, ⟨hI462⟩, ⟨hF462⟩⟩
            | false =>
              replace H := H.ff
              obtain ⟨rfl, rfl⟩ := H.p2
              go_wp2_with fail
              go_meet
              case rel => exact ⟨(by first | rfl | simp), ⟨hI453⟩, ⟨hF453⟩⟩
  case rest =>
    as_aux_lemma =>
      obtain ⟨rfl, gI, gF⟩ := hcut
      have hI465 := gI.out; have hF465 := gF.out; clear gI gF
      have c0465 := hI465.c0
      have c1465 := hI465.c1
      have c2465 := hI465.c2
      have c3465 := hI465.c3
      have c4465 := hI465.c4
      have c5465 := hI465.c5
      have c8465 := hI465.c8
      have f465 := hI465.f
      obtain ⟨At465, nt465, ct465, hct465, hSt465⟩ := hI465.ct
      obtain ⟨Aa465, na465, ca465, hca465, hSa465⟩ := hI465.ca
      try clear c00 c10 c20 c30 c40 c50 c80 f0 hct0 hca0
      have H := HC451; clear HC451 H1
      generalize hb466 : ((x463 == 0) && (atEnd B p464 0)) = b471 at H
      have HB466 := Hd.mk hb466; clear hb466
      go_upto_region 9 with fail
      go_cut [57] from 48 to 48 (fun v57 w' => v57 = .bool b471 ∧ Hd (Hl w' l z b B 179 EA p464 s rt true 0 0 0 0) ∧ Hd (Fr l z w0 w'))
      case first =>
        as_aux_lemma =>
          clear H
          by_cases e467 : (x463 == 0) = true
          · 
            as_aux_lemma =>
              have e467n : (x463 != 0) = false := by simp only [bne, e467, Bool.not_true]
              by_cases e468 : (atEnd B p464 0) = true
              · 
                as_aux_lemma =>
                  go_wp2_with fail
                  refine (Hl.Err_end_calls hI465 e468).mono ?_
                  rintro e w469 ⟨rfl, hI469, k469⟩
                  have hF469 := hF465.trans k469
                  have c0469 := hI469.c0
                  have c1469 := hI469.c1
                  have c2469 := hI469.c2
                  have c3469 := hI469.c3
                  have c4469 := hI469.c4
                  have c5469 := hI469.c5
                  have c8469 := hI469.c8
                  have f469 := hI469.f
                  obtain ⟨At469, nt469, ct469, hct469, hSt469⟩ := hI469.ct
                  obtain ⟨Aa469, na469, ca469, hca469, hSa469⟩ := hI469.ca
                  try clear c0465 c1465 c2465 c3465 c4465 c5465 c8465 f465 hct465 hca465
                  go_wp2_with fail
                  go_meet
                  case rel => exact ⟨by rw [← HB466.out, e467, e468]; first | rfl | simp, ⟨hI469⟩, ⟨hF469⟩⟩
              ·
                replace e468 := Bool.eq_false_iff.mpr e468
                go_wp2_with fail
                refine (Hl.Err_not_calls hI465 e468).mono ?_
                rintro e w470 ⟨rfl, hI470, k470⟩
                have hF470 := hF465.trans k470
                have c0470 := hI470.c0
                have c1470 := hI470.c1
                have c2470 := hI470.c2
                have c3470 := hI470.c3
                have c4470 := hI470.c4
                have c5470 := hI470.c5
                have c8470 := hI470.c8
                have f470 := hI470.f
                obtain ⟨At470, nt470, ct470, hct470, hSt470⟩ := hI470.ct
                obtain ⟨Aa470, na470, ca470, hca470, hSa470⟩ := hI470.ca
                try clear c0465 c1465 c2465 c3465 c4465 c5465 c8465 f465 hct465 hca465
                go_wp2_with fail
                go_meet
                case rel => exact ⟨by rw [← HB466.out, e467, e468]; first | rfl | simp, ⟨hI470⟩, ⟨hF470⟩⟩
          ·
            replace e467 := Bool.eq_false_iff.mpr e467
            have e467n : (x463 != 0) = true := by simp only [bne, e467, Bool.not_false]
            go_wp2_with fail
            go_meet
            case rel => exact ⟨by rw [← HB466.out, e467]; first | rfl | simp, ⟨hI465⟩, ⟨hF465⟩⟩
      case rest =>
        as_aux_lemma =>
          obtain ⟨rfl, gI, gF⟩ := hcut
          have hI472 := gI.out; have hF472 := gF.out; clear gI gF
          have c0472 := hI472.c0
          have c1472 := hI472.c1
          have c2472 := hI472.c2
          have c3472 := hI472.c3
          have c4472 := hI472.c4
          have c5472 := hI472.c5
          have c8472 := hI472.c8
          have f472 := hI472.f
          obtain ⟨At472, nt472, ct472, hct472, hSt472⟩ := hI472.ct
          obtain ⟨Aa472, na472, ca472, hca472, hSa472⟩ := hI472.ca
          try clear c0465 c1465 c2465 c3465 c4465 c5465 c8465 f465 hct465 hca465
          cases b471 with
          | true =>
            replace H := H.tt
            go_wp2_with fail
            go_ret2
            obtain ⟨rfl, rfl, rfl, rfl, rfl, rfl, rfl, rfl, rfl, rfl, rfl⟩ := H.p11
            exact ⟨(by first | rfl | (unfold nxv; rw [if_neg (by decide), Hd.out ‹Hd (slv _ _ _ = _)›]; done) | (unfold nxv; rw [if_neg (by decide), Hd.out ‹Hd (slv _ _ _ = _)›]; rfl) | (simp only [nxv, *]; done) | (simp [nxv, *]; done)), hI472, hF472⟩
          | false =>
            replace H := H.ff
            obtain ⟨b478, H1, HC473⟩ := H.bind; clear H
            go_upto_region 11 with fail
            go_cut [71] from 58 to 58 (fun v71 w' => v71 = .bool b478 ∧ wc = w')
            case first =>
              as_aux_lemma =>
                have H := H1; clear H1
                by_cases e474 : (x463 == 62) = true
                · 
                  replace H := H.pos e474
                  have e474n : (x463 != 62) = false := by simp only [bne, e474, Bool.not_true]
                  obtain rfl := H.p1
                  go_wp2_with fail
                  go_meet
                  case rel => exact ⟨(by first | rfl | simp), rfl⟩
                ·
                  replace H := H.neg e474
                  replace e474 := Bool.eq_false_iff.mpr e474
                  have e474n : (x463 != 62) = true := by simp only [bne, e474, Bool.not_false]
                  by_cases e475 : (x463 == 47) = true
                  · 
                    replace H := H.pos e475
                    as_aux_lemma =>
                      have e475n : (x463 != 47) = false := by simp only [bne, e475, Bool.not_true]
                      obtain ⟨c476, A477, HN⟩ := H.bind; clear H; have H := HN; clear HN
                      go_wp2_with fail
                      refine (Hl.Peek_calls hI472 1 c476 A477).mono ?_
                      rintro e w' ⟨rfl, rfl⟩
                      obtain rfl := H.p1
                      go_wp2_with fail
                      go_meet
                      case rel => exact ⟨(by first | rfl | simp), rfl⟩
                  ·
                    replace H := H.neg e475
                    replace e475 := Bool.eq_false_iff.mpr e475
                    have e475n : (x463 != 47) = true := by simp only [bne, e475, Bool.not_false]
                    obtain rfl := H.p1
                    go_wp2_with fail
                    go_meet
                    case rel => exact ⟨(by first | rfl | simp), rfl⟩
            case rest =>
              as_aux_lemma =>
                obtain ⟨rfl, rfl⟩ := hcut
                have H := HC473; clear HC473 H1
                cases b478 with
                | true =>
                  replace H := H.tt
                  obtain ⟨⟨i479, i480, p481, s482, tl483, th484, al485, ah486⟩, A487, HN⟩ := H.bind; clear H; have H := HN; clear HN
                  try dsimp only at H
                  go_wp2_with fail
                  refine (hshiftAttribute.calls K hI472  i479 i480 p481 s482 tl483 th484 al485 ah486 A487).mono ?_
                  rintro e w488 ⟨rfl, hI488, k488⟩
                  have hF488 := hF472.trans k488
                  have c0488 := hI488.c0
                  have c1488 := hI488.c1
                  have c2488 := hI488.c2
                  have c3488 := hI488.c3
                  have c4488 := hI488.c4
                  have c5488 := hI488.c5
                  have c8488 := hI488.c8
                  have f488 := hI488.f
                  obtain ⟨At488, nt488, ct488, hct488, hSt488⟩ := hI488.ct
                  obtain ⟨Aa488, na488, ca488, hca488, hSa488⟩ := hI488.ca
                  try clear c0472 c1472 c2472 c3472 c4472 c5472 c8472 f472 hct472 hca472
                  go_wp2_with fail
                  go_ret2
                  obtain ⟨rfl, rfl, rfl, rfl, rfl, rfl, rfl, rfl, rfl, rfl, rfl⟩ := H.p11
                  exact ⟨(by first | rfl | (unfold nxv; rw [if_neg (by decide), Hd.out ‹Hd (slv _ _ _ = _)›]; done) | (unfold nxv; rw [if_neg (by decide), Hd.out ‹Hd (slv _ _ _ = _)›]; rfl) | (simp only [nxv, *]; done) | (simp [nxv, *]; done)), hI488, hF488⟩
                | false =>
                  replace H := H.ff
                  go_wp2_with fail
                  refine (Hl.Skip_calls hI472).mono ?_
                  rintro e w489 ⟨rfl, hI489, k489⟩
                  have hF489 := hF472.trans k489
                  have c0489 := hI489.c0
                  have c1489 := hI489.c1
                  have c2489 := hI489.c2
                  have c3489 := hI489.c3
                  have c4489 := hI489.c4
                  have c5489 := hI489.c5
                  have c8489 := hI489.c8
                  have f489 := hI489.f
                  obtain ⟨At489, nt489, ct489, hct489, hSt489⟩ := hI489.ct
                  obtain ⟨Aa489, na489, ca489, hca489, hSa489⟩ := hI489.ca
                  try clear c0472 c1472 c2472 c3472 c4472 c5472 c8472 f472 hct472 hca472
                  by_cases e490 : (x463 == 47) = true
                  · 
                    replace H := H.pos e490
                    as_aux_lemma =>
                      have e490n : (x463 != 47) = false := by simp only [bne, e490, Bool.not_true]
                      go_wp2_with fail
                      refine (Hl.Move_calls (show Hl _ l z b B 179 EA p464 p464 rt false 0 0 0 0 from by repeat (first | exact hI489 | apply Hl.drewN | apply Hl.drew | apply Hl.alloc | (apply Hl.setText; case hS => first | assumption | exact Sv.nil _ _) | (apply Hl.setAttr; case hS => first | assumption | exact Sv.nil _ _) | (apply Hl.setTextS; case hb => exact sel_of (by assumption)) | (apply Hl.setAttrS; case hb => exact sel_of (by assumption)) | apply Hl.setTag | apply Hl.setRaw | apply Hl.setTmpl)) 2).mono ?_
                      rintro e w491 ⟨rfl, hI491, k491⟩
                      have hF491 := (show Fr l z w0 _ by repeat (first | exact hF489 | apply Fr.drewN | apply Fr.drew | apply Fr.alloc | apply Fr.setl)).trans k491
                      have c0491 := hI491.c0
                      have c1491 := hI491.c1
                      have c2491 := hI491.c2
                      have c3491 := hI491.c3
                      have c4491 := hI491.c4
                      have c5491 := hI491.c5
                      have c8491 := hI491.c8
                      have f491 := hI491.f
                      obtain ⟨At491, nt491, ct491, hct491, hSt491⟩ := hI491.ct
                      obtain ⟨Aa491, na491, ca491, hca491, hSa491⟩ := hI491.ca
                      try clear c0489 c1489 c2489 c3489 c4489 c5489 c8489 f489 hct489 hca489
                      obtain ⟨u492, A493, HN⟩ := H.bind; clear H; have H := HN; clear HN
                      go_wp2_with fail
                      refine (Hl.Shift_calls hI491 u492 A493).mono ?_
                      rintro e w494 ⟨rfl, hI494, k494⟩
                      have hF494 := hF491.trans k494
                      have c0494 := hI494.c0
                      have c1494 := hI494.c1
                      have c2494 := hI494.c2
                      have c3494 := hI494.c3
                      have c4494 := hI494.c4
                      have c5494 := hI494.c5
                      have c8494 := hI494.c8
                      have f494 := hI494.f
                      obtain ⟨At494, nt494, ct494, hct494, hSt494⟩ := hI494.ct
                      obtain ⟨Aa494, na494, ca494, hca494, hSa494⟩ := hI494.ca
                      try clear c0491 c1491 c2491 c3491 c4491 c5491 c8491 f491 hct491 hca491
                      go_wp2_with fail
                      go_ret2
                      obtain ⟨rfl, rfl, rfl, rfl, rfl, rfl, rfl, rfl, rfl, rfl, rfl⟩ := H.p11
                      exact ⟨(by first | rfl | (unfold nxv; rw [if_neg (by decide), Hd.out ‹Hd (slv _ _ _ = _)›]; done) | (unfold nxv; rw [if_neg (by decide), Hd.out ‹Hd (slv _ _ _ = _)›]; rfl) | (simp only [nxv, *]; done) | (simp [nxv, *]; done)), hI494, hF494⟩
                  ·
                    replace H := H.neg e490
                    replace e490 := Bool.eq_false_iff.mpr e490
                    have e490n : (x463 != 47) = true := by simp only [bne, e490, Bool.not_false]
                    go_wp2_with fail
                    refine (Hl.Move_calls (show Hl _ l z b B 179 EA p464 p464 rt false 0 0 0 0 from by repeat (first | exact hI489 | apply Hl.drewN | apply Hl.drew | apply Hl.alloc | (apply Hl.setText; case hS => first | assumption | exact Sv.nil _ _) | (apply Hl.setAttr; case hS => first | assumption | exact Sv.nil _ _) | (apply Hl.setTextS; case hb => exact sel_of (by assumption)) | (apply Hl.setAttrS; case hb => exact sel_of (by assumption)) | apply Hl.setTag | apply Hl.setRaw | apply Hl.setTmpl)) 1).mono ?_
                    rintro e w495 ⟨rfl, hI495, k495⟩
                    have hF495 := (show Fr l z w0 _ by repeat (first | exact hF489 | apply Fr.drewN | apply Fr.drew | apply Fr.alloc | apply Fr.setl)).trans k495
                    have c0495 := hI495.c0
                    have c1495 := hI495.c1
                    have c2495 := hI495.c2
                    have c3495 := hI495.c3
                    have c4495 := hI495.c4
                    have c5495 := hI495.c5
                    have c8495 := hI495.c8
                    have f495 := hI495.f
                    obtain ⟨At495, nt495, ct495, hct495, hSt495⟩ := hI495.ct
                    obtain ⟨Aa495, na495, ca495, hca495, hSa495⟩ := hI495.ca
                    try clear c0489 c1489 c2489 c3489 c4489 c5489 c8489 f489 hct489 hca489
                    obtain ⟨u496, A497, HN⟩ := H.bind; clear H; have H := HN; clear HN
                    go_wp2_with fail
                    refine (Hl.Shift_calls hI495 u496 A497).mono ?_
                    rintro e w498 ⟨rfl, hI498, k498⟩
                    have hF498 := hF495.trans k498
                    have c0498 := hI498.c0
                    have c1498 := hI498.c1
                    have c2498 := hI498.c2
                    have c3498 := hI498.c3
                    have c4498 := hI498.c4
                    have c5498 := hI498.c5
                    have c8498 := hI498.c8
                    have f498 := hI498.f
                    obtain ⟨At498, nt498, ct498, hct498, hSt498⟩ := hI498.ct
                    obtain ⟨Aa498, na498, ca498, hca498, hSa498⟩ := hI498.ca
                    try clear c0495 c1495 c2495 c3495 c4495 c5495 c8495 f495 hct495 hca495
                    go_wp2_with fail
                    go_ret2
                    obtain ⟨rfl, rfl, rfl, rfl, rfl, rfl, rfl, rfl, rfl, rfl, rfl⟩ := H.p11
                    exact ⟨(by first | rfl | (unfold nxv; rw [if_neg (by decide), Hd.out ‹Hd (slv _ _ _ = _)›]; done) | (unfold nxv; rw [if_neg (by decide), Hd.out ‹Hd (slv _ _ _ = _)›]; rfl) | (simp only [nxv, *]; done) | (simp [nxv, *]; done)), hI498, hF498⟩
end Go.Proofs.YtfcedenofbefcaaGreatDoor
