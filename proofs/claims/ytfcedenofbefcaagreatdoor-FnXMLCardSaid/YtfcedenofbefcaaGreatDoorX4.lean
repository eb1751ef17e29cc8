import Derived.Test.YtfcedenofbefcaaGreatDoorX1
import Derived.Test.YtfcedenofbefcaaGreatDoorX2
import Derived.Test.YtfcedenofbefcaaGreatDoorX3
import Derived.Test.YtfcedenofbefcaaGreatDoorK8
namespace Go.Proofs.YtfcedenofbefcaaGreatDoor
open Go.RowKit
set_option linter.unusedVariables false
set_option linter.unusedSimpArgs false

/-! (*loop.example/pub-g01476/pub/tdxml.Lexer).Next -/
def xNextT.l0 (K : Nat) (B : List Int) : Nat → Int → Option (Int × Int)
  | 0, _ => none
  | k + 1, p322 =>
    (pk B p322 0).bind fun c324 =>
    if ((((c324 == 32) || (c324 == 9)) || (c324 == 10)) || (c324 == 13)) = true then (xNextT.l0 K B k (mv p322 1)) else
    some (c324, p322)
def xNextT.f (K : Nat) (B : List Int) (p : Int) (s : Int) (tg : Bool) (tl : Int) (th : Int) (al : Int) (ah : Int) : Option (Int × Int × Int × Int × Int × Bool × Int × Int × Int × Int) :=
(xNextT.l0 K B K p).bind fun (x332, p333) =>
if (x332 == 0) = true then (if (atEnd B p333 0) = true then ((some ()).bind fun _ =>
some (0, 0, 0, p333, s, true, 0, 0, 0, 0)) else
none) else
(if (x332 == 62) = true then (some false) else
if (x332 == 47) = true then ((pk B p333 1).bind fun c344 =>
some (!(c344 == 62))) else
if (x332 == 63) = true then ((pk B p333 1).bind fun c347 =>
some (!(c347 == 62))) else
some true).bind fun b349 =>
if b349 = true then ((xshiftAttribute.f K B p333 s true 0 0 0 0).bind fun (i350, i351, p352, s353, tl354, th355, al356, ah357) =>
some (10, i350, i351, p352, s353, true, tl354, th355, al356, ah357)) else
if (x332 == 47) = true then ((sel B (mv p333 2) p333).bind fun u363 =>
some (7, p333, mv p333 2, mv p333 2, mv p333 2, false, 0, 0, 0, 0)) else
if (x332 == 63) = true then ((sel B (mv p333 2) p333).bind fun u368 =>
some (8, p333, mv p333 2, mv p333 2, mv p333 2, false, 0, 0, 0, 0)) else
(sel B (mv p333 1) p333).bind fun u372 =>
some (6, p333, mv p333 1, mv p333 1, mv p333 1, false, 0, 0, 0, 0)
set_option maxHeartbeats 8000000 in
set_option maxRecDepth 100000 in
theorem xNextT.calls (K : Nat) {w0 : World} {l z b : Nat} {B : List Int} {EA : Addr} {p s : Int} {tl : Int} {th : Int} {al : Int} {ah : Int} (hI0 : Xl w0 l z b B 179 EA p s true tl th al ah) (r0 : Int) (r1 : Int) (r2 : Int) (r3 : Int) (r4 : Int) (r5 : Bool) (r6 : Int) (r7 : Int) (r8 : Int) (r9 : Int) (H : Hd (xNextT.f K B p s true tl th al ah = some (r0, r1, r2, r3, r4, r5, r6, r7, r8, r9))) :
    Calls Tryz.prog 25 #[.pointer (some ⟨l, 0, none⟩)] w0 fun e w' => e = .returned (.tuple #[.int .u32 r0, nxv b r0 r1 r2]) ∧ Xl w' l z b B 179 EA r3 r4 r5 r6 r7 r8 r9 ∧ Fr l z w0 w' := by
  have hF0 : Fr l z w0 w0 := Fr.refl _ _ w0
  have c00 := hI0.c0
  have c10 := hI0.c1
  have c20 := hI0.c2
  have f0 := hI0.f
  obtain ⟨At0, nt0, ct0, hct0, hSt0⟩ := hI0.ct
  obtain ⟨Aa0, na0, ca0, hca0, hSa0⟩ := hI0.ca
  unfold xNextT.f at H
  go_enter Tryz.func25, Tryz.ntmps25
  obtain ⟨⟨x332, p333⟩, H1, HC321⟩ := H.bind; clear H
  try dsimp only at HC321
  go_upto_block 0 with fail
  go_cut [4] (fun v4 w' => v4 = .int .u8 x332 ∧ Hd (Xl w' l z b B 179 EA p333 s true 0 0 0 0) ∧ Hd (Fr l z w0 w'))
  case first =>
    go_wp2_with fail
    go_loopg [] K (fun gk w' => ∃ (p322 : Int), Hd (xNextT.l0 K B gk p322 = some (x332, p333)) ∧ Hd (Xl w' l z b B 179 EA p322 s true 0 0 0 0) ∧ Hd (Fr l z w0 w'))
    case atStart => exact ⟨p, H1, ⟨(show Xl _ l z b B 179 EA p s true 0 0 0 0 from by repeat (first | exact hI0 | apply Xl.drewN | apply Xl.drew | apply Xl.alloc | (apply Xl.setText; case hS => first | assumption | exact Sv.nil _ _) | (apply Xl.setAttr; case hS => first | assumption | exact Sv.nil _ _) | (apply Xl.setTextS; case hb => exact sel_of (by assumption)) | (apply Xl.setAttrS; case hb => exact sel_of (by assumption)) | apply Xl.setTag))⟩, ⟨(show Fr l z w0 _ from by repeat (first | exact hF0 | apply Fr.drewN | apply Fr.drew | apply Fr.alloc | apply Fr.setl))⟩⟩
    case round =>
      clear H1
      obtain ⟨p322, H, gI, gF⟩ := hrel
      have hI323 := gI.out; have hF323 := gF.out; clear gI gF
      have c0323 := hI323.c0
      have c1323 := hI323.c1
      have c2323 := hI323.c2
      have f323 := hI323.f
      obtain ⟨At323, nt323, ct323, hct323, hSt323⟩ := hI323.ct
      obtain ⟨Aa323, na323, ca323, hca323, hSa323⟩ := hI323.ca
      cases gk with
      | zero => exact absurd H.out (by simp [xNextT.l0])
      | succ k =>
        simp only [xNextT.l0] at H
        obtain ⟨c324, A325, HN⟩ := H.bind; clear H; have H := HN; clear HN
        go_wp2_with fail
        refine (Xl.Peek_calls hI323 0 c324 A325).mono ?_
        rintro e w' ⟨rfl, rfl⟩
        generalize hb326 : ((((c324 == 32) || (c324 == 9)) || (c324 == 10)) || (c324 == 13)) = b330 at H
        have HB326 := Hd.mk hb326; clear hb326
        go_upto_region 6 with fail
        go_cut [33] (fun v33 w' => v33 = .bool b330 ∧ wr = w')
        case first =>
          as_aux_lemma =>
            clear H
            by_cases e327 : (c324 == 32) = true
            · 
              have e327n : (c324 != 32) = false := by simp only [bne, e327, Bool.not_true]
              go_wp2_with fail
              go_meet
              case rel => exact ⟨by rw [← HB326.out, e327]; first | rfl | simp, rfl⟩
            ·
              replace e327 := Bool.eq_false_iff.mpr e327
              have e327n : (c324 != 32) = true := by simp only [bne, e327, Bool.not_false]
              by_cases e328 : (c324 == 9) = true
              · 
                have e328n : (c324 != 9) = false := by simp only [bne, e328, Bool.not_true]
                go_wp2_with fail
                go_meet
                case rel => exact ⟨by rw [← HB326.out, e327, e328]; first | rfl | simp, rfl⟩
              ·
                replace e328 := Bool.eq_false_iff.mpr e328
                have e328n : (c324 != 9) = true := by simp only [bne, e328, Bool.not_false]
                by_cases e329 : (c324 == 10) = true
                · 
                  have e329n : (c324 != 10) = false := by simp only [bne, e329, Bool.not_true]
                  go_wp2_with fail
                  go_meet
                  case rel => exact ⟨by rw [← HB326.out, e327, e328, e329]; first | rfl | simp, rfl⟩
                ·
                  replace e329 := Bool.eq_false_iff.mpr e329
                  have e329n : (c324 != 10) = true := by simp only [bne, e329, Bool.not_false]
                  go_wp2_with fail
                  go_meet
                  case rel => exact ⟨by rw [← HB326.out, e327, e328, e329]; first | rfl | simp, rfl⟩
        case rest =>
          as_aux_lemma =>
            obtain ⟨rfl, rfl⟩ := hcut
            cases b330 with
            | true =>
              replace H := H.tt
              go_wp2_with fail
              refine (Xl.Move_calls hI323 1).mono ?_
              rintro e w331 ⟨rfl, hI331, k331⟩
              have hF331 := hF323.trans k331
              have c0331 := hI331.c0
              have c1331 := hI331.c1
              have c2331 := hI331.c2
              have f331 := hI331.f
              obtain ⟨At331, nt331, ct331, hct331, hSt331⟩ := hI331.ct
              obtain ⟨Aa331, na331, ca331, hca331, hSa331⟩ := hI331.ca
              go_wp2_with fail
              go_roundg k
              case measure => exact Nat.lt_succ_self _
              case rel => exact ⟨mv p322 1, H, ⟨hI331⟩, ⟨hF331⟩⟩
            | false =>
              replace H := H.ff
              obtain ⟨rfl, rfl⟩ := H.p2
              go_wp2_with fail
              go_meet
              case rel => exact ⟨(by first | rfl | simp), ⟨hI323⟩, ⟨hF323⟩⟩
  case rest =>
    as_aux_lemma =>
      obtain ⟨rfl, gI, gF⟩ := hcut
      have hI334 := gI.out; have hF334 := gF.out; clear gI gF
      have c0334 := hI334.c0
      have c1334 := hI334.c1
      have c2334 := hI334.c2
      have f334 := hI334.f
      obtain ⟨At334, nt334, ct334, hct334, hSt334⟩ := hI334.ct
      obtain ⟨Aa334, na334, ca334, hca334, hSa334⟩ := hI334.ca
      have H := HC321; clear HC321 H1
      by_cases e335 : (x332 == 0) = true
      · 
        replace H := H.pos e335
        as_aux_lemma =>
          have e335n : (x332 != 0) = false := by simp only [bne, e335, Bool.not_true]
          by_cases e336 : (atEnd B p333 0) = true
          · 
            replace H := H.pos e336
            as_aux_lemma =>
              go_wp2_with fail
              refine (Xl.Err_end_calls hI334 e336).mono ?_
              rintro e w337 ⟨rfl, hI337, k337⟩
              have hF337 := hF334.trans k337
              have c0337 := hI337.c0
              have c1337 := hI337.c1
              have c2337 := hI337.c2
              have f337 := hI337.f
              obtain ⟨At337, nt337, ct337, hct337, hSt337⟩ := hI337.ct
              obtain ⟨Aa337, na337, ca337, hca337, hSa337⟩ := hI337.ca
              obtain ⟨_, H1, HC338⟩ := H.bind; clear H
              go_upto_if 46 with fail
              go_cut [] (fun w' => w337 = w')
              case first =>
                have H := H1; clear H1
                go_wp2_with fail
                go_meet
                case rel => exact rfl
              case rest =>
                obtain rfl := hcut
                have H := HC338; clear HC338 H1
                go_wp2_with fail
                go_ret2
                obtain ⟨rfl, rfl, rfl, rfl, rfl, rfl, rfl, rfl, rfl, rfl⟩ := H.p10
                exact ⟨(by first | rfl | (simp only [nxv, *]; done) | (simp [nxv, *]; done) | (unfold nxv; rw [if_neg (by decide), Hd.out ‹Hd (slv _ _ _ = _)›])), hI337, hF337⟩
          ·
            replace H := H.neg e336
            replace e336 := Bool.eq_false_iff.mpr e336
            go_wp2_with fail
            refine (Xl.Err_not_calls hI334 e336).mono ?_
            rintro e w339 ⟨rfl, hI339, k339⟩
            have hF339 := hF334.trans k339
            have c0339 := hI339.c0
            have c1339 := hI339.c1
            have c2339 := hI339.c2
            have f339 := hI339.f
            obtain ⟨At339, nt339, ct339, hct339, hSt339⟩ := hI339.ct
            obtain ⟨Aa339, na339, ca339, hca339, hSa339⟩ := hI339.ca
            exact H.no
      ·
        replace H := H.neg e335
        replace e335 := Bool.eq_false_iff.mpr e335
        have e335n : (x332 != 0) = true := by simp only [bne, e335, Bool.not_false]
        obtain ⟨b349, H1, HC341⟩ := H.bind; clear H
        go_upto_region 12 with fail
        go_cut [73] (fun v73 w' => v73 = .bool b349 ∧ wc = w')
        case first =>
          as_aux_lemma =>
            have H := H1; clear H1
            by_cases e342 : (x332 == 62) = true
            · 
              replace H := H.pos e342
              have e342n : (x332 != 62) = false := by simp only [bne, e342, Bool.not_true]
              obtain rfl := H.p1
              go_wp2_with fail
              go_meet
              case rel => exact ⟨(by first | rfl | simp), rfl⟩
            ·
              replace H := H.neg e342
              replace e342 := Bool.eq_false_iff.mpr e342
              have e342n : (x332 != 62) = true := by simp only [bne, e342, Bool.not_false]
              by_cases e343 : (x332 == 47) = true
              · 
                replace H := H.pos e343
                as_aux_lemma =>
                  have e343n : (x332 != 47) = false := by simp only [bne, e343, Bool.not_true]
                  obtain ⟨c344, A345, HN⟩ := H.bind; clear H; have H := HN; clear HN
                  go_wp2_with fail
                  refine (Xl.Peek_calls hI334 1 c344 A345).mono ?_
                  rintro e w' ⟨rfl, rfl⟩
                  obtain rfl := H.p1
                  go_wp2_with fail
                  go_meet
                  case rel => exact ⟨(by first | rfl | simp), rfl⟩
              ·
                replace H := H.neg e343
                replace e343 := Bool.eq_false_iff.mpr e343
                have e343n : (x332 != 47) = true := by simp only [bne, e343, Bool.not_false]
                by_cases e346 : (x332 == 63) = true
                · 
                  replace H := H.pos e346
                  as_aux_lemma =>
                    have e346n : (x332 != 63) = false := by simp only [bne, e346, Bool.not_true]
                    obtain ⟨c347, A348, HN⟩ := H.bind; clear H; have H := HN; clear HN
                    go_wp2_with fail
                    refine (Xl.Peek_calls hI334 1 c347 A348).mono ?_
                    rintro e w' ⟨rfl, rfl⟩
                    obtain rfl := H.p1
                    go_wp2_with fail
                    go_meet
                    case rel => exact ⟨(by first | rfl | simp), rfl⟩
                ·
                  replace H := H.neg e346
                  replace e346 := Bool.eq_false_iff.mpr e346
                  have e346n : (x332 != 63) = true := by simp only [bne, e346, Bool.not_false]
                  obtain rfl := H.p1
                  go_wp2_with fail
                  go_meet
                  case rel => exact ⟨(by first | rfl | simp), rfl⟩
        case rest =>
          as_aux_lemma =>
            obtain ⟨rfl, rfl⟩ := hcut
            have H := HC341; clear HC341 H1
            cases b349 with
            | true =>
              replace H := H.tt
              obtain ⟨⟨i350, i351, p352, s353, tl354, th355, al356, ah357⟩, A358, HN⟩ := H.bind; clear H; have H := HN; clear HN
              try dsimp only at H
              go_wp2_with fail
              refine (xshiftAttribute.calls K hI334  i350 i351 p352 s353 tl354 th355 al356 ah357 A358).mono ?_
              rintro e w359 ⟨rfl, hI359, k359⟩
              have hF359 := hF334.trans k359
              have c0359 := hI359.c0
              have c1359 := hI359.c1
              have c2359 := hI359.c2
              have f359 := hI359.f
              obtain ⟨At359, nt359, ct359, hct359, hSt359⟩ := hI359.ct
              obtain ⟨Aa359, na359, ca359, hca359, hSa359⟩ := hI359.ca
              go_wp2_with fail
              go_ret2
              obtain ⟨rfl, rfl, rfl, rfl, rfl, rfl, rfl, rfl, rfl, rfl⟩ := H.p10
              exact ⟨(by first | rfl | (simp only [nxv, *]; done) | (simp [nxv, *]; done) | (unfold nxv; rw [if_neg (by decide), Hd.out ‹Hd (slv _ _ _ = _)›])), hI359, hF359⟩
            | false =>
              replace H := H.ff
              go_wp2_with fail
              refine (Xl.Skip_calls hI334).mono ?_
              rintro e w360 ⟨rfl, hI360, k360⟩
              have hF360 := hF334.trans k360
              have c0360 := hI360.c0
              have c1360 := hI360.c1
              have c2360 := hI360.c2
              have f360 := hI360.f
              obtain ⟨At360, nt360, ct360, hct360, hSt360⟩ := hI360.ct
              obtain ⟨Aa360, na360, ca360, hca360, hSa360⟩ := hI360.ca
              by_cases e361 : (x332 == 47) = true
              · 
                replace H := H.pos e361
                as_aux_lemma =>
                  have e361n : (x332 != 47) = false := by simp only [bne, e361, Bool.not_true]
                  go_wp2_with fail
                  refine (Xl.Move_calls (show Xl _ l z b B 179 EA p333 p333 false 0 0 0 0 from by repeat (first | exact hI360 | apply Xl.drewN | apply Xl.drew | apply Xl.alloc | (apply Xl.setText; case hS => first | assumption | exact Sv.nil _ _) | (apply Xl.setAttr; case hS => first | assumption | exact Sv.nil _ _) | (apply Xl.setTextS; case hb => exact sel_of (by assumption)) | (apply Xl.setAttrS; case hb => exact sel_of (by assumption)) | apply Xl.setTag)) 2).mono ?_
                  rintro e w362 ⟨rfl, hI362, k362⟩
                  have hF362 := (show Fr l z w0 _ by repeat (first | exact hF360 | apply Fr.drewN | apply Fr.drew | apply Fr.alloc | apply Fr.setl)).trans k362
                  have c0362 := hI362.c0
                  have c1362 := hI362.c1
                  have c2362 := hI362.c2
                  have f362 := hI362.f
                  obtain ⟨At362, nt362, ct362, hct362, hSt362⟩ := hI362.ct
                  obtain ⟨Aa362, na362, ca362, hca362, hSa362⟩ := hI362.ca
                  obtain ⟨u363, A364, HN⟩ := H.bind; clear H; have H := HN; clear HN
                  go_wp2_with fail
                  refine (Xl.Shift_calls hI362 u363 A364).mono ?_
                  rintro e w365 ⟨rfl, hI365, k365⟩
                  have hF365 := hF362.trans k365
                  have c0365 := hI365.c0
                  have c1365 := hI365.c1
                  have c2365 := hI365.c2
                  have f365 := hI365.f
                  obtain ⟨At365, nt365, ct365, hct365, hSt365⟩ := hI365.ct
                  obtain ⟨Aa365, na365, ca365, hca365, hSa365⟩ := hI365.ca
                  go_wp2_with fail
                  go_ret2
                  obtain ⟨rfl, rfl, rfl, rfl, rfl, rfl, rfl, rfl, rfl, rfl⟩ := H.p10
                  exact ⟨(by first | rfl | (simp only [nxv, *]; done) | (simp [nxv, *]; done) | (unfold nxv; rw [if_neg (by decide), Hd.out ‹Hd (slv _ _ _ = _)›])), hI365, hF365⟩
              ·
                replace H := H.neg e361
                replace e361 := Bool.eq_false_iff.mpr e361
                have e361n : (x332 != 47) = true := by simp only [bne, e361, Bool.not_false]
                by_cases e366 : (x332 == 63) = true
                · 
                  replace H := H.pos e366
                  as_aux_lemma =>
                    have e366n : (x332 != 63) = false := by simp only [bne, e366, Bool.not_true]
                    go_wp2_with fail
                    refine (Xl.Move_calls (show Xl _ l z b B 179 EA p333 p333 false 0 0 0 0 from by repeat (first | exact hI360 | apply Xl.drewN | apply Xl.drew | apply Xl.alloc | (apply Xl.setText; case hS => first | assumption | exact Sv.nil _ _) | (apply Xl.setAttr; case hS => first | assumption | exact Sv.nil _ _) | (apply Xl.setTextS; case hb => exact sel_of (by assumption)) | (apply Xl.setAttrS; case hb => exact sel_of (by assumption)) | apply Xl.setTag)) 2).mono ?_
                    rintro e w367 ⟨rfl, hI367, k367⟩
                    have hF367 := (show Fr l z w0 _ by repeat (first | exact hF360 | apply Fr.drewN | apply Fr.drew | apply Fr.alloc | apply Fr.setl)).trans k367
                    have c0367 := hI367.c0
                    have c1367 := hI367.c1
                    have c2367 := hI367.c2
                    have f367 := hI367.f
                    obtain ⟨At367, nt367, ct367, hct367, hSt367⟩ := hI367.ct
                    obtain ⟨Aa367, na367, ca367, hca367, hSa367⟩ := hI367.ca
                    obtain ⟨u368, A369, HN⟩ := H.bind; clear H; have H := HN; clear HN
                    go_wp2_with fail
                    refine (Xl.Shift_calls hI367 u368 A369).mono ?_
                    rintro e w370 ⟨rfl, hI370, k370⟩
                    have hF370 := hF367.trans k370
                    have c0370 := hI370.c0
                    have c1370 := hI370.c1
                    have c2370 := hI370.c2
                    have f370 := hI370.f
                    obtain ⟨At370, nt370, ct370, hct370, hSt370⟩ := hI370.ct
                    obtain ⟨Aa370, na370, ca370, hca370, hSa370⟩ := hI370.ca
                    go_wp2_with fail
                    go_ret2
                    obtain ⟨rfl, rfl, rfl, rfl, rfl, rfl, rfl, rfl, rfl, rfl⟩ := H.p10
                    exact ⟨(by first | rfl | (simp only [nxv, *]; done) | (simp [nxv, *]; done) | (unfold nxv; rw [if_neg (by decide), Hd.out ‹Hd (slv _ _ _ = _)›])), hI370, hF370⟩
                ·
                  replace H := H.neg e366
                  replace e366 := Bool.eq_false_iff.mpr e366
                  have e366n : (x332 != 63) = true := by simp only [bne, e366, Bool.not_false]
                  go_wp2_with fail
                  refine (Xl.Move_calls (show Xl _ l z b B 179 EA p333 p333 false 0 0 0 0 from by repeat (first | exact hI360 | apply Xl.drewN | apply Xl.drew | apply Xl.alloc | (apply Xl.setText; case hS => first | assumption | exact Sv.nil _ _) | (apply Xl.setAttr; case hS => first | assumption | exact Sv.nil _ _) | (apply Xl.setTextS; case hb => exact sel_of (by assumption)) | (apply Xl.setAttrS; case hb => exact sel_of (by assumption)) | apply Xl.setTag)) 1).mono ?_
                  rintro e w371 ⟨rfl, hI371, k371⟩
                  have hF371 := (show Fr l z w0 _ by repeat (first | exact hF360 | apply Fr.drewN | apply Fr.drew | apply Fr.alloc | apply Fr.setl)).trans k371
                  have c0371 := hI371.c0
                  have c1371 := hI371.c1
                  have c2371 := hI371.c2
                  have f371 := hI371.f
                  obtain ⟨At371, nt371, ct371, hct371, hSt371⟩ := hI371.ct
                  obtain ⟨Aa371, na371, ca371, hca371, hSa371⟩ := hI371.ca
                  obtain ⟨u372, A373, HN⟩ := H.bind; clear H; have H := HN; clear HN
                  go_wp2_with fail
                  refine (Xl.Shift_calls hI371 u372 A373).mono ?_
                  rintro e w374 ⟨rfl, hI374, k374⟩
                  have hF374 := hF371.trans k374
                  have c0374 := hI374.c0
                  have c1374 := hI374.c1
                  have c2374 := hI374.c2
                  have f374 := hI374.f
                  obtain ⟨At374, nt374, ct374, hct374, hSt374⟩ := hI374.ct
                  obtain ⟨Aa374, na374, ca374, hca374, hSa374⟩ := hI374.ca
                  go_wp2_with fail
                  go_ret2
                  obtain ⟨rfl, rfl, rfl, rfl, rfl, rfl, rfl, rfl, rfl, rfl⟩ := H.p10
                  exact ⟨(by first | rfl | (simp only [nxv, *]; done) | (simp [nxv, *]; done) | (unfold nxv; rw [if_neg (by decide), Hd.out ‹Hd (slv _ _ _ = _)›])), hI374, hF374⟩
end Go.Proofs.YtfcedenofbefcaaGreatDoor
