import Derived.Test.YtfcedenofbefcaaGreatDoorK5
namespace Go.Proofs.YtfcedenofbefcaaGreatDoor
open Go.RowKit
set_option linter.unusedVariables false
set_option linter.unusedSimpArgs false

/-! (*loop.example/pub-g01476/pub/tdxml.Lexer).shiftEndTag -/
def xshiftEndTag.l0 (K : Nat) (B : List Int) (s : Int) : Nat → Int → Int → Int → Option (Int × Int × Int)
  | 0, _, _, _ => none
  | k + 1, p285, tl286, th287 =>
    (pk B p285 0).bind fun c289 =>
    if (c289 == 62) = true then ((sel B p285 s).bind fun u292 =>
    (cutB s p285 2 (p285 - s)).bind fun u296 =>
    some (mv p285 1, s + 2, p285)) else
    if (c289 == 0) = true then ((sel B p285 s).bind fun u299 =>
    (cutB s p285 2 (p285 - s)).bind fun u303 =>
    some (p285, s + 2, p285)) else
    xshiftEndTag.l0 K B s k (mv p285 1) tl286 th287
def xshiftEndTag.l1 (K : Nat) (B : List Int) (tl306 : Int) (th307 : Int) : Nat → Int → Option (Int)
  | 0, _ => none
  | k + 1, x310 =>
    if (decide (0 < x310)) = true then ((elB B tl306 th307 (wrap64 (x310 - 1))).bind fun c313 =>
    if ((((c313 == 32) || (c313 == 9)) || (c313 == 10)) || (c313 == 13)) = true then (xshiftEndTag.l1 K B tl306 th307 k (wrap64 (x310 - 1))) else
    some x310) else
    some x310
def xshiftEndTag.f (K : Nat) (B : List Int) (p : Int) (s : Int) (tg : Bool) (tl : Int) (th : Int) (al : Int) (ah : Int) : Option (Int × Int × Int × Int × Int × Int) :=
(xshiftEndTag.l0 K B s K p tl th).bind fun (p305, tl306, th307) =>
(xshiftEndTag.l1 K B tl306 th307 K (th307 - tl306)).bind fun x321 =>
(cutB tl306 th307 0 x321).bind fun u323 =>
(sel B p305 s).bind fun u324 =>
some (s, p305, p305, p305, tl306, tl306 + x321)
set_option maxHeartbeats 8000000 in
set_option maxRecDepth 100000 in
theorem xshiftEndTag.calls (K : Nat) {w0 : World} {l z b : Nat} {B : List Int} {EA : Addr} {p s : Int} {tg : Bool} {tl : Int} {th : Int} {al : Int} {ah : Int} (hI0 : Xl w0 l z b B 179 EA p s tg tl th al ah) (r0 : Int) (r1 : Int) (r2 : Int) (r3 : Int) (r4 : Int) (r5 : Int) (H : Hd (xshiftEndTag.f K B p s tg tl th al ah = some (r0, r1, r2, r3, r4, r5))) :
    Calls Tryz.prog 63 #[.pointer (some ⟨l, 0, none⟩)] w0 fun e w' => e = .returned (slv b r0 r1) ∧ Xl w' l z b B 179 EA r2 r3 tg r4 r5 al ah ∧ Fr l z w0 w' := by
  have hF0 : Fr l z w0 w0 := Fr.refl _ _ w0
  have c00 := hI0.c0
  have c10 := hI0.c1
  have c20 := hI0.c2
  have f0 := hI0.f
  obtain ⟨At0, nt0, ct0, hct0, hSt0⟩ := hI0.ct
  obtain ⟨Aa0, na0, ca0, hca0, hSa0⟩ := hI0.ca
  unfold xshiftEndTag.f at H
  go_enter Tryz.func63, Tryz.ntmps63
  obtain ⟨⟨p305, tl306, th307⟩, H1, HC284⟩ := H.bind; clear H
  try dsimp only at HC284
  go_upto_block 0 with fail
  go_cut [] (fun w' => Hd (Xl w' l z b B 179 EA p305 s tg tl306 th307 al ah) ∧ Hd (Fr l z w0 w'))
  case first =>
    go_wp2_with fail
    go_loopg [] K (fun gk w' => ∃ (p285 : Int), ∃ (tl286 : Int), ∃ (th287 : Int), Hd (xshiftEndTag.l0 K B s gk p285 tl286 th287 = some (p305, tl306, th307)) ∧ Hd (Xl w' l z b B 179 EA p285 s tg tl286 th287 al ah) ∧ Hd (Fr l z w0 w'))
    case atStart => exact ⟨p, tl, th, H1, ⟨hI0⟩, ⟨hF0⟩⟩
    case round =>
      clear H1
      obtain ⟨p285, tl286, th287, H, gI, gF⟩ := hrel
      have hI288 := gI.out; have hF288 := gF.out; clear gI gF
      have c0288 := hI288.c0
      have c1288 := hI288.c1
      have c2288 := hI288.c2
      have f288 := hI288.f
      obtain ⟨At288, nt288, ct288, hct288, hSt288⟩ := hI288.ct
      obtain ⟨Aa288, na288, ca288, hca288, hSa288⟩ := hI288.ca
      cases gk with
      | zero => exact absurd H.out (by simp [xshiftEndTag.l0])
      | succ k =>
        simp only [xshiftEndTag.l0] at H
        obtain ⟨c289, A290, HN⟩ := H.bind; clear H; have H := HN; clear HN
        go_wp2_with fail
        refine (Xl.Peek_calls hI288 0 c289 A290).mono ?_
        rintro e w' ⟨rfl, rfl⟩
        by_cases e291 : (c289 == 62) = true
        · 
          replace H := H.pos e291
          have e291n : (c289 != 62) = false := by simp only [bne, e291, Bool.not_true]
          obtain ⟨u292, A293, HN⟩ := H.bind; clear H; have H := HN; clear HN
          go_wp2_with fail
          refine (Xl.LexemeV_calls hI288 u292 A293).mono ?_
          rintro e w294 ⟨⟨A295, n295, c295, rfl, hS295⟩, hI294, k294⟩
          have hF294 := hF288.trans k294
          have c0294 := hI294.c0
          have c1294 := hI294.c1
          have c2294 := hI294.c2
          have f294 := hI294.f
          obtain ⟨At294, nt294, ct294, hct294, hSt294⟩ := hI294.ct
          obtain ⟨Aa294, na294, ca294, hca294, hSa294⟩ := hI294.ca
          obtain ⟨u296, AA296, HN⟩ := H.bind; clear H; have H := HN; clear HN
          obtain ⟨A296, n296, c296, hS296, hq296⟩ := cut_lo hS295 2 u296 AA296
          go_wp2_with fail
          refine (Xl.Move_calls (show Xl _ l z b B 179 EA p285 s tg (s + 2) p285 al ah from by repeat (first | exact hI294 | apply Xl.drewN | apply Xl.drew | apply Xl.alloc | (apply Xl.setText; case hS => first | assumption | exact Sv.nil _ _) | (apply Xl.setAttr; case hS => first | assumption | exact Sv.nil _ _) | (apply Xl.setTextS; case hb => exact sel_of (by assumption)) | (apply Xl.setAttrS; case hb => exact sel_of (by assumption)) | apply Xl.setTag)) 1).mono ?_
          rintro e w297 ⟨rfl, hI297, k297⟩
          have hF297 := (show Fr l z w0 _ by repeat (first | exact hF294 | apply Fr.drewN | apply Fr.drew | apply Fr.alloc | apply Fr.setl)).trans k297
          have c0297 := hI297.c0
          have c1297 := hI297.c1
          have c2297 := hI297.c2
          have f297 := hI297.f
          obtain ⟨At297, nt297, ct297, hct297, hSt297⟩ := hI297.ct
          obtain ⟨Aa297, na297, ca297, hca297, hSa297⟩ := hI297.ca
          obtain ⟨rfl, rfl, rfl⟩ := H.p3
          go_wp2_with fail
          go_meet
          case rel => exact ⟨⟨hI297⟩, ⟨hF297⟩⟩
        ·
          replace H := H.neg e291
          replace e291 := Bool.eq_false_iff.mpr e291
          have e291n : (c289 != 62) = true := by simp only [bne, e291, Bool.not_false]
          by_cases e298 : (c289 == 0) = true
          · 
            replace H := H.pos e298
            have e298n : (c289 != 0) = false := by simp only [bne, e298, Bool.not_true]
            obtain ⟨u299, A300, HN⟩ := H.bind; clear H; have H := HN; clear HN
            go_wp2_with fail
            refine (Xl.LexemeV_calls hI288 u299 A300).mono ?_
            rintro e w301 ⟨⟨A302, n302, c302, rfl, hS302⟩, hI301, k301⟩
            have hF301 := hF288.trans k301
            have c0301 := hI301.c0
            have c1301 := hI301.c1
            have c2301 := hI301.c2
            have f301 := hI301.f
            obtain ⟨At301, nt301, ct301, hct301, hSt301⟩ := hI301.ct
            obtain ⟨Aa301, na301, ca301, hca301, hSa301⟩ := hI301.ca
            obtain ⟨u303, AA303, HN⟩ := H.bind; clear H; have H := HN; clear HN
            obtain ⟨A303, n303, c303, hS303, hq303⟩ := cut_lo hS302 2 u303 AA303
            obtain ⟨rfl, rfl, rfl⟩ := H.p3
            go_wp2_with fail
            go_meet
            case rel => exact ⟨⟨(show Xl _ l z b B 179 EA p285 s tg (s + 2) p285 al ah from by repeat (first | exact hI301 | apply Xl.drewN | apply Xl.drew | apply Xl.alloc | (apply Xl.setText; case hS => first | assumption | exact Sv.nil _ _) | (apply Xl.setAttr; case hS => first | assumption | exact Sv.nil _ _) | (apply Xl.setTextS; case hb => exact sel_of (by assumption)) | (apply Xl.setAttrS; case hb => exact sel_of (by assumption)) | apply Xl.setTag))⟩, ⟨(show Fr l z w0 _ from by repeat (first | exact hF301 | apply Fr.drewN | apply Fr.drew | apply Fr.alloc | apply Fr.setl))⟩⟩
          ·
            replace H := H.neg e298
            replace e298 := Bool.eq_false_iff.mpr e298
            have e298n : (c289 != 0) = true := by simp only [bne, e298, Bool.not_false]
            go_wp2_with fail
            refine (Xl.Move_calls hI288 1).mono ?_
            rintro e w304 ⟨rfl, hI304, k304⟩
            have hF304 := hF288.trans k304
            have c0304 := hI304.c0
            have c1304 := hI304.c1
            have c2304 := hI304.c2
            have f304 := hI304.f
            obtain ⟨At304, nt304, ct304, hct304, hSt304⟩ := hI304.ct
            obtain ⟨Aa304, na304, ca304, hca304, hSa304⟩ := hI304.ca
            go_wp2_with fail
            go_roundg k
            case measure => exact Nat.lt_succ_self _
            case rel => exact ⟨mv p285 1, tl286, th287, H, ⟨hI304⟩, ⟨hF304⟩⟩
  case rest =>
    obtain ⟨gI, gF⟩ := hcut
    have hI308 := gI.out; have hF308 := gF.out; clear gI gF
    have c0308 := hI308.c0
    have c1308 := hI308.c1
    have c2308 := hI308.c2
    have f308 := hI308.f
    obtain ⟨At308, nt308, ct308, hct308, hSt308⟩ := hI308.ct
    obtain ⟨Aa308, na308, ca308, hca308, hSa308⟩ := hI308.ca
    have H := HC284; clear HC284 H1
    have hnnt308 : (nt308 : Int) = th307 - tl306 := hSt308.2.2.1
    obtain ⟨x321, H1, HC309⟩ := H.bind; clear H
    go_upto_block 2 with fail
    go_cut [4] (fun v4 w' => v4 = .int .i64 x321 ∧ Hd (Xl w' l z b B 179 EA p305 s tg tl306 th307 al ah) ∧ Hd (Fr l z w0 w'))
    case first =>
      go_wp2_with fail
      go_loopg [4] K (fun gk v4 w' => ∃ (x310 : Int), v4 = .int .i64 x310 ∧ Hd (xshiftEndTag.l1 K B tl306 th307 gk x310 = some x321) ∧ Hd (Xl w' l z b B 179 EA p305 s tg tl306 th307 al ah) ∧ Hd (Fr l z w0 w'))
      case atStart => exact ⟨th307 - tl306, (by first | rfl | simp), H1, ⟨hI308⟩, ⟨hF308⟩⟩
      case round =>
        clear H1
        obtain ⟨x310, rfl, H, gI, gF⟩ := hrel
        have hI311 := gI.out; have hF311 := gF.out; clear gI gF
        have c0311 := hI311.c0
        have c1311 := hI311.c1
        have c2311 := hI311.c2
        have f311 := hI311.f
        obtain ⟨At311, nt311, ct311, hct311, hSt311⟩ := hI311.ct
        obtain ⟨Aa311, na311, ca311, hca311, hSa311⟩ := hI311.ca
        cases gk with
        | zero => exact absurd H.out (by simp [xshiftEndTag.l1])
        | succ k =>
          simp only [xshiftEndTag.l1] at H
          by_cases e312 : (decide (0 < x310)) = true
          · 
            replace H := H.pos e312
            obtain ⟨c313, AA314, HN⟩ := H.bind; clear H; have H := HN; clear HN
            obtain ⟨hphe315, hqhe315, he315⟩ := elB_at hI311.inp hSt311 (wrap64 (x310 - 1)) c313 AA314
            subst hphe315
            generalize hb316 : ((((c313 == 32) || (c313 == 9)) || (c313 == 10)) || (c313 == 13)) = b320 at H
            have HB316 := Hd.mk hb316; clear hb316
            go_upto_region 11 with fail
            go_cut [71] (fun v71 w' => v71 = .bool b320 ∧ wr = w')
            case first =>
              clear H
              by_cases e317 : (c313 == 32) = true
              · 
                have e317n : (c313 != 32) = false := by simp only [bne, e317, Bool.not_true]
                go_wp2_with fail
                go_meet
                case rel => exact ⟨by rw [← HB316.out, e317]; first | rfl | simp, rfl⟩
              ·
                replace e317 := Bool.eq_false_iff.mpr e317
                have e317n : (c313 != 32) = true := by simp only [bne, e317, Bool.not_false]
                by_cases e318 : (c313 == 9) = true
                · 
                  have e318n : (c313 != 9) = false := by simp only [bne, e318, Bool.not_true]
                  go_wp2_with fail
                  go_meet
                  case rel => exact ⟨by rw [← HB316.out, e317, e318]; first | rfl | simp, rfl⟩
                ·
                  replace e318 := Bool.eq_false_iff.mpr e318
                  have e318n : (c313 != 9) = true := by simp only [bne, e318, Bool.not_false]
                  by_cases e319 : (c313 == 10) = true
                  · 
                    have e319n : (c313 != 10) = false := by simp only [bne, e319, Bool.not_true]
                    go_wp2_with fail
                    go_meet
                    case rel => exact ⟨by rw [← HB316.out, e317, e318, e319]; first | rfl | simp, rfl⟩
                  ·
                    replace e319 := Bool.eq_false_iff.mpr e319
                    have e319n : (c313 != 10) = true := by simp only [bne, e319, Bool.not_false]
                    go_wp2_with fail
                    go_meet
                    case rel => exact ⟨by rw [← HB316.out, e317, e318, e319]; first | rfl | simp, rfl⟩
            case rest =>
              obtain ⟨rfl, rfl⟩ := hcut
              cases b320 with
              | true =>
                replace H := H.tt
                go_wp2_with fail
                go_roundg k
                case measure => exact Nat.lt_succ_self _
                case rel => exact ⟨wrap64 (x310 - 1), (by first | rfl | simp), H, ⟨hI311⟩, ⟨hF311⟩⟩
              | false =>
                replace H := H.ff
                obtain rfl := H.p1
                go_wp2_with fail
                go_meet
                case rel => exact ⟨(by first | rfl | simp), ⟨hI311⟩, ⟨hF311⟩⟩
          ·
            replace H := H.neg e312
            replace e312 := Bool.eq_false_iff.mpr e312
            obtain rfl := H.p1
            go_wp2_with fail
            go_meet
            case rel => exact ⟨(by first | rfl | simp), ⟨hI311⟩, ⟨hF311⟩⟩
    case rest =>
      obtain ⟨rfl, gI, gF⟩ := hcut
      have hI322 := gI.out; have hF322 := gF.out; clear gI gF
      have c0322 := hI322.c0
      have c1322 := hI322.c1
      have c2322 := hI322.c2
      have f322 := hI322.f
      obtain ⟨At322, nt322, ct322, hct322, hSt322⟩ := hI322.ct
      obtain ⟨Aa322, na322, ca322, hca322, hSa322⟩ := hI322.ca
      have H := HC309; clear HC309 H1
      obtain ⟨u323, AA323, HN⟩ := H.bind; clear H; have H := HN; clear HN
      obtain ⟨A323, n323, c323, hS323, hq323⟩ := cut_hi hSt322 x321 u323 AA323
      obtain ⟨u324, A325, HN⟩ := H.bind; clear H; have H := HN; clear HN
      go_wp2_with fail
      refine (Xl.Shift_calls (show Xl _ l z b B 179 EA p305 s tg tl306 (tl306 + x321) al ah from by repeat (first | exact hI322 | apply Xl.drewN | apply Xl.drew | apply Xl.alloc | (apply Xl.setText; case hS => first | assumption | exact Sv.nil _ _) | (apply Xl.setAttr; case hS => first | assumption | exact Sv.nil _ _) | (apply Xl.setTextS; case hb => exact sel_of (by assumption)) | (apply Xl.setAttrS; case hb => exact sel_of (by assumption)) | apply Xl.setTag)) u324 A325).mono ?_
      rintro e w326 ⟨rfl, hI326, k326⟩
      have hF326 := (show Fr l z w0 _ by repeat (first | exact hF322 | apply Fr.drewN | apply Fr.drew | apply Fr.alloc | apply Fr.setl)).trans k326
      have c0326 := hI326.c0
      have c1326 := hI326.c1
      have c2326 := hI326.c2
      have f326 := hI326.f
      obtain ⟨At326, nt326, ct326, hct326, hSt326⟩ := hI326.ct
      obtain ⟨Aa326, na326, ca326, hca326, hSa326⟩ := hI326.ca
      go_wp2_with fail
      go_ret
      obtain ⟨rfl, rfl, rfl, rfl, rfl, rfl⟩ := H.p6
      exact ⟨(by first | rfl | simp), hI326, hF326⟩
end Go.Proofs.YtfcedenofbefcaaGreatDoor
