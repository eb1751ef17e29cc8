import Derived.Test.YtfcedenofbefcaaGreatDoorK5
namespace Go.Proofs.YtfcedenofbefcaaGreatDoor
open Go.RowKit
set_option linter.unusedVariables false
set_option linter.unusedSimpArgs false

/-! (*loop.example/pub-g01476/pub/tdxml.Lexer).shiftDOCTYPEText -/
def xshiftDOCTYPEText.l0 (K : Nat) (B : List Int) : Nat → Bool → Bool → Int → Int → Int → Int → Option (Int × Int × Int × Int × Int × Int)
  | 0, _, _, _, _, _, _ => none
  | k + 1, b2, b3, p4, s5, tl6, th7 =>
    (pk B p4 0).bind fun c9 =>
    if (c9 == 34) = true then (xshiftDOCTYPEText.l0 K B k (!b2) b3 (mv p4 1) s5 tl6 th7) else
    if (((c9 == 91) || (c9 == 93)) && (!b2)) = true then (xshiftDOCTYPEText.l0 K B k b2 (c9 == 91) (mv p4 1) s5 tl6 th7) else
    if (((c9 == 62) && (!b2)) && (!b3)) = true then ((sel B p4 s5).bind fun u21 =>
    (cutB s5 p4 9 (p4 - s5)).bind fun u25 =>
    (sel B (mv p4 1) s5).bind fun u27 =>
    some (s5, mv p4 1, mv p4 1, mv p4 1, s5 + 9, p4)) else
    if (c9 == 0) = true then ((sel B p4 s5).bind fun u31 =>
    (cutB s5 p4 9 (p4 - s5)).bind fun u35 =>
    (sel B p4 s5).bind fun u36 =>
    some (s5, p4, p4, p4, s5 + 9, p4)) else
    xshiftDOCTYPEText.l0 K B k b2 b3 (mv p4 1) s5 tl6 th7
def xshiftDOCTYPEText.f (K : Nat) (B : List Int) (p : Int) (s : Int) (tg : Bool) (tl : Int) (th : Int) (al : Int) (ah : Int) : Option (Int × Int × Int × Int × Int × Int) :=
xshiftDOCTYPEText.l0 K B K false false p s tl th
set_option maxHeartbeats 8000000 in
set_option maxRecDepth 100000 in
theorem xshiftDOCTYPEText.calls (K : Nat) {w0 : World} {l z b : Nat} {B : List Int} {EA : Addr} {p s : Int} {tg : Bool} {tl : Int} {th : Int} {al : Int} {ah : Int} (hI0 : Xl w0 l z b B 179 EA p s tg tl th al ah) (r0 : Int) (r1 : Int) (r2 : Int) (r3 : Int) (r4 : Int) (r5 : Int) (H : Hd (xshiftDOCTYPEText.f K B p s tg tl th al ah = some (r0, r1, r2, r3, r4, r5))) :
    Calls Tryz.prog 67 #[.pointer (some ⟨l, 0, none⟩)] w0 fun e w' => e = .returned (slv b r0 r1) ∧ Xl w' l z b B 179 EA r2 r3 tg r4 r5 al ah ∧ Fr l z w0 w' := by
  have hF0 : Fr l z w0 w0 := Fr.refl _ _ w0
  have c00 := hI0.c0
  have c10 := hI0.c1
  have c20 := hI0.c2
  have f0 := hI0.f
  obtain ⟨At0, nt0, ct0, hct0, hSt0⟩ := hI0.ct
  obtain ⟨Aa0, na0, ca0, hca0, hSa0⟩ := hI0.ca
  unfold xshiftDOCTYPEText.f at H
  go_enter Tryz.func67, Tryz.ntmps67
  have H1 := H; clear H
  go_wp2_with fail
  go_loopg [3, 4] K (fun gk v3 v4 w' => ∃ (b2 : Bool), ∃ (b3 : Bool), ∃ (p4 : Int), ∃ (s5 : Int), ∃ (tl6 : Int), ∃ (th7 : Int), v3 = .bool b2 ∧ v4 = .bool b3 ∧ Hd (xshiftDOCTYPEText.l0 K B gk b2 b3 p4 s5 tl6 th7 = some (r0, r1, r2, r3, r4, r5)) ∧ Hd (Xl w' l z b B 179 EA p4 s5 tg tl6 th7 al ah) ∧ Hd (Fr l z w0 w'))
  case atStart => exact ⟨false, false, p, s, tl, th, (by first | rfl | simp), (by first | rfl | simp), H1, ⟨hI0⟩, ⟨hF0⟩⟩
  case round =>
    clear H1
    obtain ⟨b2, b3, p4, s5, tl6, th7, rfl, rfl, H, gI, gF⟩ := hrel
    have hI8 := gI.out; have hF8 := gF.out; clear gI gF
    have c08 := hI8.c0
    have c18 := hI8.c1
    have c28 := hI8.c2
    have f8 := hI8.f
    obtain ⟨At8, nt8, ct8, hct8, hSt8⟩ := hI8.ct
    obtain ⟨Aa8, na8, ca8, hca8, hSa8⟩ := hI8.ca
    cases gk with
    | zero => exact absurd H.out (by simp [xshiftDOCTYPEText.l0])
    | succ k =>
      simp only [xshiftDOCTYPEText.l0] at H
      obtain ⟨c9, A10, HN⟩ := H.bind; clear H; have H := HN; clear HN
      go_wp2_with fail
      refine (Xl.Peek_calls hI8 0 c9 A10).mono ?_
      rintro e w' ⟨rfl, rfl⟩
      by_cases e11 : (c9 == 34) = true
      · 
        replace H := H.pos e11
        have e11n : (c9 != 34) = false := by simp only [bne, e11, Bool.not_true]
        go_wp2_with fail
        refine (Xl.Move_calls hI8 1).mono ?_
        rintro e w12 ⟨rfl, hI12, k12⟩
        have hF12 := hF8.trans k12
        have c012 := hI12.c0
        have c112 := hI12.c1
        have c212 := hI12.c2
        have f12 := hI12.f
        obtain ⟨At12, nt12, ct12, hct12, hSt12⟩ := hI12.ct
        obtain ⟨Aa12, na12, ca12, hca12, hSa12⟩ := hI12.ca
        go_wp2_with fail
        go_roundg k
        case measure => exact Nat.lt_succ_self _
        case rel => exact ⟨!b2, b3, mv p4 1, s5, tl6, th7, (by first | rfl | simp), (by first | rfl | simp), H, ⟨hI12⟩, ⟨hF12⟩⟩
      ·
        replace H := H.neg e11
        replace e11 := Bool.eq_false_iff.mpr e11
        have e11n : (c9 != 34) = true := by simp only [bne, e11, Bool.not_false]
        generalize hb13 : (((c9 == 91) || (c9 == 93)) && (!b2)) = b16 at H
        have HB13 := Hd.mk hb13; clear hb13
        go_upto_region 6 with fail
        go_cut [24] (fun v24 w' => v24 = .bool b16 ∧ wr = w')
        case first =>
          clear H
          by_cases e14 : (c9 == 91) = true
          · 
            have e14n : (c9 != 91) = false := by simp only [bne, e14, Bool.not_true]
            go_wp2_with fail
            go_meet
            case rel => exact ⟨by rw [← HB13.out, e14]; first | rfl | simp, rfl⟩
          ·
            replace e14 := Bool.eq_false_iff.mpr e14
            have e14n : (c9 != 91) = true := by simp only [bne, e14, Bool.not_false]
            by_cases e15 : (c9 == 93) = true
            · 
              have e15n : (c9 != 93) = false := by simp only [bne, e15, Bool.not_true]
              go_wp2_with fail
              go_meet
              case rel => exact ⟨by rw [← HB13.out, e14, e15]; first | rfl | simp, rfl⟩
            ·
              replace e15 := Bool.eq_false_iff.mpr e15
              have e15n : (c9 != 93) = true := by simp only [bne, e15, Bool.not_false]
              go_wp2_with fail
              go_meet
              case rel => exact ⟨by rw [← HB13.out, e14, e15]; first | rfl | simp, rfl⟩
        case rest =>
          obtain ⟨rfl, rfl⟩ := hcut
          cases b16 with
          | true =>
            replace H := H.tt
            go_wp2_with fail
            refine (Xl.Move_calls hI8 1).mono ?_
            rintro e w17 ⟨rfl, hI17, k17⟩
            have hF17 := hF8.trans k17
            have c017 := hI17.c0
            have c117 := hI17.c1
            have c217 := hI17.c2
            have f17 := hI17.f
            obtain ⟨At17, nt17, ct17, hct17, hSt17⟩ := hI17.ct
            obtain ⟨Aa17, na17, ca17, hca17, hSa17⟩ := hI17.ca
            go_wp2_with fail
            go_roundg k
            case measure => exact Nat.lt_succ_self _
            case rel => exact ⟨b2, c9 == 91, mv p4 1, s5, tl6, th7, (by first | rfl | simp), (by first | rfl | simp), H, ⟨hI17⟩, ⟨hF17⟩⟩
          | false =>
            replace H := H.ff
            generalize hb18 : (((c9 == 62) && (!b2)) && (!b3)) = b20 at H
            have HB18 := Hd.mk hb18; clear hb18
            go_upto_region 8 with fail
            go_cut [36] (fun v36 w' => v36 = .bool b20 ∧ wr = w')
            case first =>
              clear H
              by_cases e19 : (c9 == 62) = true
              · 
                have e19n : (c9 != 62) = false := by simp only [bne, e19, Bool.not_true]
                cases b2 with
                | true =>
                  go_wp2_with fail
                  go_meet
                  case rel => exact ⟨by rw [← HB18.out, e19]; first | rfl | simp, rfl⟩
                | false =>
                  go_wp2_with fail
                  go_meet
                  case rel => exact ⟨by rw [← HB18.out, e19]; first | rfl | simp, rfl⟩
              ·
                replace e19 := Bool.eq_false_iff.mpr e19
                have e19n : (c9 != 62) = true := by simp only [bne, e19, Bool.not_false]
                go_wp2_with fail
                go_meet
                case rel => exact ⟨by rw [← HB18.out, e19]; first | rfl | simp, rfl⟩
            case rest =>
              obtain ⟨rfl, rfl⟩ := hcut
              cases b20 with
              | true =>
                replace H := H.tt
                obtain ⟨u21, A22, HN⟩ := H.bind; clear H; have H := HN; clear HN
                go_wp2_with fail
                refine (Xl.LexemeV_calls hI8 u21 A22).mono ?_
                rintro e w23 ⟨⟨A24, n24, c24, rfl, hS24⟩, hI23, k23⟩
                have hF23 := hF8.trans k23
                have c023 := hI23.c0
                have c123 := hI23.c1
                have c223 := hI23.c2
                have f23 := hI23.f
                obtain ⟨At23, nt23, ct23, hct23, hSt23⟩ := hI23.ct
                obtain ⟨Aa23, na23, ca23, hca23, hSa23⟩ := hI23.ca
                obtain ⟨u25, AA25, HN⟩ := H.bind; clear H; have H := HN; clear HN
                obtain ⟨A25, n25, c25, hS25, hq25⟩ := cut_lo hS24 9 u25 AA25
                go_wp2_with fail
                refine (Xl.Move_calls (show Xl _ l z b B 179 EA p4 s5 tg (s5 + 9) p4 al ah from by repeat (first | exact hI23 | apply Xl.drewN | apply Xl.drew | apply Xl.alloc | (apply Xl.setText; case hS => first | assumption | exact Sv.nil _ _) | (apply Xl.setAttr; case hS => first | assumption | exact Sv.nil _ _) | (apply Xl.setTextS; case hb => exact sel_of (by assumption)) | (apply Xl.setAttrS; case hb => exact sel_of (by assumption)) | apply Xl.setTag)) 1).mono ?_
                rintro e w26 ⟨rfl, hI26, k26⟩
                have hF26 := (show Fr l z w0 _ by repeat (first | exact hF23 | apply Fr.drewN | apply Fr.drew | apply Fr.alloc | apply Fr.setl)).trans k26
                have c026 := hI26.c0
                have c126 := hI26.c1
                have c226 := hI26.c2
                have f26 := hI26.f
                obtain ⟨At26, nt26, ct26, hct26, hSt26⟩ := hI26.ct
                obtain ⟨Aa26, na26, ca26, hca26, hSa26⟩ := hI26.ca
                obtain ⟨u27, A28, HN⟩ := H.bind; clear H; have H := HN; clear HN
                go_wp2_with fail
                refine (Xl.Shift_calls hI26 u27 A28).mono ?_
                rintro e w29 ⟨rfl, hI29, k29⟩
                have hF29 := hF26.trans k29
                have c029 := hI29.c0
                have c129 := hI29.c1
                have c229 := hI29.c2
                have f29 := hI29.f
                obtain ⟨At29, nt29, ct29, hct29, hSt29⟩ := hI29.ct
                obtain ⟨Aa29, na29, ca29, hca29, hSa29⟩ := hI29.ca
                go_wp2_with fail
                go_ret
                obtain ⟨rfl, rfl, rfl, rfl, rfl, rfl⟩ := H.p6
                exact ⟨(by first | rfl | simp), hI29, hF29⟩
              | false =>
                replace H := H.ff
                by_cases e30 : (c9 == 0) = true
                · 
                  replace H := H.pos e30
                  have e30n : (c9 != 0) = false := by simp only [bne, e30, Bool.not_true]
                  obtain ⟨u31, A32, HN⟩ := H.bind; clear H; have H := HN; clear HN
                  go_wp2_with fail
                  refine (Xl.LexemeV_calls hI8 u31 A32).mono ?_
                  rintro e w33 ⟨⟨A34, n34, c34, rfl, hS34⟩, hI33, k33⟩
                  have hF33 := hF8.trans k33
                  have c033 := hI33.c0
                  have c133 := hI33.c1
                  have c233 := hI33.c2
                  have f33 := hI33.f
                  obtain ⟨At33, nt33, ct33, hct33, hSt33⟩ := hI33.ct
                  obtain ⟨Aa33, na33, ca33, hca33, hSa33⟩ := hI33.ca
                  obtain ⟨u35, AA35, HN⟩ := H.bind; clear H; have H := HN; clear HN
                  obtain ⟨A35, n35, c35, hS35, hq35⟩ := cut_lo hS34 9 u35 AA35
                  obtain ⟨u36, A37, HN⟩ := H.bind; clear H; have H := HN; clear HN
                  go_wp2_with fail
                  refine (Xl.Shift_calls (show Xl _ l z b B 179 EA p4 s5 tg (s5 + 9) p4 al ah from by repeat (first | exact hI33 | apply Xl.drewN | apply Xl.drew | apply Xl.alloc | (apply Xl.setText; case hS => first | assumption | exact Sv.nil _ _) | (apply Xl.setAttr; case hS => first | assumption | exact Sv.nil _ _) | (apply Xl.setTextS; case hb => exact sel_of (by assumption)) | (apply Xl.setAttrS; case hb => exact sel_of (by assumption)) | apply Xl.setTag)) u36 A37).mono ?_
                  rintro e w38 ⟨rfl, hI38, k38⟩
                  have hF38 := (show Fr l z w0 _ by repeat (first | exact hF33 | apply Fr.drewN | apply Fr.drew | apply Fr.alloc | apply Fr.setl)).trans k38
                  have c038 := hI38.c0
                  have c138 := hI38.c1
                  have c238 := hI38.c2
                  have f38 := hI38.f
                  obtain ⟨At38, nt38, ct38, hct38, hSt38⟩ := hI38.ct
                  obtain ⟨Aa38, na38, ca38, hca38, hSa38⟩ := hI38.ca
                  go_wp2_with fail
                  go_ret
                  obtain ⟨rfl, rfl, rfl, rfl, rfl, rfl⟩ := H.p6
                  exact ⟨(by first | rfl | simp), hI38, hF38⟩
                ·
                  replace H := H.neg e30
                  replace e30 := Bool.eq_false_iff.mpr e30
                  have e30n : (c9 != 0) = true := by simp only [bne, e30, Bool.not_false]
                  go_wp2_with fail
                  refine (Xl.Move_calls hI8 1).mono ?_
                  rintro e w39 ⟨rfl, hI39, k39⟩
                  have hF39 := hF8.trans k39
                  have c039 := hI39.c0
                  have c139 := hI39.c1
                  have c239 := hI39.c2
                  have f39 := hI39.f
                  obtain ⟨At39, nt39, ct39, hct39, hSt39⟩ := hI39.ct
                  obtain ⟨Aa39, na39, ca39, hca39, hSa39⟩ := hI39.ca
                  go_wp2_with fail
                  go_roundg k
                  case measure => exact Nat.lt_succ_self _
                  case rel => exact ⟨b2, b3, mv p4 1, s5, tl6, th7, (by first | rfl | simp), (by first | rfl | simp), H, ⟨hI39⟩, ⟨hF39⟩⟩

/-! (*loop.example/pub-g01476/pub/tdxml.Lexer).shiftCDATAText -/
def xshiftCDATAText.l0 (K : Nat) (B : List Int) : Nat → Int → Int → Int → Int → Option (Int × Int × Int × Int × Int × Int)
  | 0, _, _, _, _ => none
  | k + 1, p41, s42, tl43, th44 =>
    (pk B p41 0).bind fun c46 =>
    (if (c46 == 93) = true then ((pk B p41 1).bind fun c50 =>
    if (c50 == 93) = true then ((pk B p41 2).bind fun c53 =>
    some (c53 == 62)) else
    some false) else
    some false).bind fun b55 =>
    if b55 = true then ((sel B p41 s42).bind fun u56 =>
    (cutB s42 p41 9 (p41 - s42)).bind fun u60 =>
    (sel B (mv p41 3) s42).bind fun u62 =>
    some (s42, mv p41 3, mv p41 3, mv p41 3, s42 + 9, p41)) else
    if (c46 == 0) = true then ((sel B p41 s42).bind fun u66 =>
    (cutB s42 p41 9 (p41 - s42)).bind fun u70 =>
    (sel B p41 s42).bind fun u71 =>
    some (s42, p41, p41, p41, s42 + 9, p41)) else
    xshiftCDATAText.l0 K B k (mv p41 1) s42 tl43 th44
def xshiftCDATAText.f (K : Nat) (B : List Int) (p : Int) (s : Int) (tg : Bool) (tl : Int) (th : Int) (al : Int) (ah : Int) : Option (Int × Int × Int × Int × Int × Int) :=
xshiftCDATAText.l0 K B K p s tl th
set_option maxHeartbeats 8000000 in
set_option maxRecDepth 100000 in
theorem xshiftCDATAText.calls (K : Nat) {w0 : World} {l z b : Nat} {B : List Int} {EA : Addr} {p s : Int} {tg : Bool} {tl : Int} {th : Int} {al : Int} {ah : Int} (hI0 : Xl w0 l z b B 179 EA p s tg tl th al ah) (r0 : Int) (r1 : Int) (r2 : Int) (r3 : Int) (r4 : Int) (r5 : Int) (H : Hd (xshiftCDATAText.f K B p s tg tl th al ah = some (r0, r1, r2, r3, r4, r5))) :
    Calls Tryz.prog 66 #[.pointer (some ⟨l, 0, none⟩)] w0 fun e w' => e = .returned (slv b r0 r1) ∧ Xl w' l z b B 179 EA r2 r3 tg r4 r5 al ah ∧ Fr l z w0 w' := by
  have hF0 : Fr l z w0 w0 := Fr.refl _ _ w0
  have c00 := hI0.c0
  have c10 := hI0.c1
  have c20 := hI0.c2
  have f0 := hI0.f
  obtain ⟨At0, nt0, ct0, hct0, hSt0⟩ := hI0.ct
  obtain ⟨Aa0, na0, ca0, hca0, hSa0⟩ := hI0.ca
  unfold xshiftCDATAText.f at H
  go_enter Tryz.func66, Tryz.ntmps66
  have H1 := H; clear H
  go_wp2_with fail
  go_loopg [] K (fun gk w' => ∃ (p41 : Int), ∃ (s42 : Int), ∃ (tl43 : Int), ∃ (th44 : Int), Hd (xshiftCDATAText.l0 K B gk p41 s42 tl43 th44 = some (r0, r1, r2, r3, r4, r5)) ∧ Hd (Xl w' l z b B 179 EA p41 s42 tg tl43 th44 al ah) ∧ Hd (Fr l z w0 w'))
  case atStart => exact ⟨p, s, tl, th, H1, ⟨hI0⟩, ⟨hF0⟩⟩
  case round =>
    clear H1
    obtain ⟨p41, s42, tl43, th44, H, gI, gF⟩ := hrel
    have hI45 := gI.out; have hF45 := gF.out; clear gI gF
    have c045 := hI45.c0
    have c145 := hI45.c1
    have c245 := hI45.c2
    have f45 := hI45.f
    obtain ⟨At45, nt45, ct45, hct45, hSt45⟩ := hI45.ct
    obtain ⟨Aa45, na45, ca45, hca45, hSa45⟩ := hI45.ca
    cases gk with
    | zero => exact absurd H.out (by simp [xshiftCDATAText.l0])
    | succ k =>
      simp only [xshiftCDATAText.l0] at H
      obtain ⟨c46, A47, HN⟩ := H.bind; clear H; have H := HN; clear HN
      go_wp2_with fail
      refine (Xl.Peek_calls hI45 0 c46 A47).mono ?_
      rintro e w' ⟨rfl, rfl⟩
      obtain ⟨b55, H1, HC48⟩ := H.bind; clear H
      go_upto_region 2 with fail
      go_cut [26] (fun v26 w' => v26 = .bool b55 ∧ wr = w')
      case first =>
        have H := H1; clear H1
        by_cases e49 : (c46 == 93) = true
        · 
          replace H := H.pos e49
          have e49n : (c46 != 93) = false := by simp only [bne, e49, Bool.not_true]
          obtain ⟨c50, A51, HN⟩ := H.bind; clear H; have H := HN; clear HN
          go_wp2_with fail
          refine (Xl.Peek_calls hI45 1 c50 A51).mono ?_
          rintro e w' ⟨rfl, rfl⟩
          by_cases e52 : (c50 == 93) = true
          · 
            replace H := H.pos e52
            have e52n : (c50 != 93) = false := by simp only [bne, e52, Bool.not_true]
            obtain ⟨c53, A54, HN⟩ := H.bind; clear H; have H := HN; clear HN
            go_wp2_with fail
            refine (Xl.Peek_calls hI45 2 c53 A54).mono ?_
            rintro e w' ⟨rfl, rfl⟩
            obtain rfl := H.p1
            go_wp2_with fail
            go_meet
            case rel => exact ⟨(by first | rfl | simp), rfl⟩
          ·
            replace H := H.neg e52
            replace e52 := Bool.eq_false_iff.mpr e52
            have e52n : (c50 != 93) = true := by simp only [bne, e52, Bool.not_false]
            obtain rfl := H.p1
            go_wp2_with fail
            go_meet
            case rel => exact ⟨(by first | rfl | simp), rfl⟩
        ·
          replace H := H.neg e49
          replace e49 := Bool.eq_false_iff.mpr e49
          have e49n : (c46 != 93) = true := by simp only [bne, e49, Bool.not_false]
          obtain rfl := H.p1
          go_wp2_with fail
          go_meet
          case rel => exact ⟨(by first | rfl | simp), rfl⟩
      case rest =>
        obtain ⟨rfl, rfl⟩ := hcut
        have H := HC48; clear HC48 H1
        cases b55 with
        | true =>
          replace H := H.tt
          obtain ⟨u56, A57, HN⟩ := H.bind; clear H; have H := HN; clear HN
          go_wp2_with fail
          refine (Xl.LexemeV_calls hI45 u56 A57).mono ?_
          rintro e w58 ⟨⟨A59, n59, c59, rfl, hS59⟩, hI58, k58⟩
          have hF58 := hF45.trans k58
          have c058 := hI58.c0
          have c158 := hI58.c1
          have c258 := hI58.c2
          have f58 := hI58.f
          obtain ⟨At58, nt58, ct58, hct58, hSt58⟩ := hI58.ct
          obtain ⟨Aa58, na58, ca58, hca58, hSa58⟩ := hI58.ca
          obtain ⟨u60, AA60, HN⟩ := H.bind; clear H; have H := HN; clear HN
          obtain ⟨A60, n60, c60, hS60, hq60⟩ := cut_lo hS59 9 u60 AA60
          go_wp2_with fail
          refine (Xl.Move_calls (show Xl _ l z b B 179 EA p41 s42 tg (s42 + 9) p41 al ah from by repeat (first | exact hI58 | apply Xl.drewN | apply Xl.drew | apply Xl.alloc | (apply Xl.setText; case hS => first | assumption | exact Sv.nil _ _) | (apply Xl.setAttr; case hS => first | assumption | exact Sv.nil _ _) | (apply Xl.setTextS; case hb => exact sel_of (by assumption)) | (apply Xl.setAttrS; case hb => exact sel_of (by assumption)) | apply Xl.setTag)) 3).mono ?_
          rintro e w61 ⟨rfl, hI61, k61⟩
          have hF61 := (show Fr l z w0 _ by repeat (first | exact hF58 | apply Fr.drewN | apply Fr.drew | apply Fr.alloc | apply Fr.setl)).trans k61
          have c061 := hI61.c0
          have c161 := hI61.c1
          have c261 := hI61.c2
          have f61 := hI61.f
          obtain ⟨At61, nt61, ct61, hct61, hSt61⟩ := hI61.ct
          obtain ⟨Aa61, na61, ca61, hca61, hSa61⟩ := hI61.ca
          obtain ⟨u62, A63, HN⟩ := H.bind; clear H; have H := HN; clear HN
          go_wp2_with fail
          refine (Xl.Shift_calls hI61 u62 A63).mono ?_
          rintro e w64 ⟨rfl, hI64, k64⟩
          have hF64 := hF61.trans k64
          have c064 := hI64.c0
          have c164 := hI64.c1
          have c264 := hI64.c2
          have f64 := hI64.f
          obtain ⟨At64, nt64, ct64, hct64, hSt64⟩ := hI64.ct
          obtain ⟨Aa64, na64, ca64, hca64, hSa64⟩ := hI64.ca
          go_wp2_with fail
          go_ret
          obtain ⟨rfl, rfl, rfl, rfl, rfl, rfl⟩ := H.p6
          exact ⟨(by first | rfl | simp), hI64, hF64⟩
        | false =>
          replace H := H.ff
          by_cases e65 : (c46 == 0) = true
          · 
            replace H := H.pos e65
            have e65n : (c46 != 0) = false := by simp only [bne, e65, Bool.not_true]
            obtain ⟨u66, A67, HN⟩ := H.bind; clear H; have H := HN; clear HN
            go_wp2_with fail
            refine (Xl.LexemeV_calls hI45 u66 A67).mono ?_
            rintro e w68 ⟨⟨A69, n69, c69, rfl, hS69⟩, hI68, k68⟩
            have hF68 := hF45.trans k68
            have c068 := hI68.c0
            have c168 := hI68.c1
            have c268 := hI68.c2
            have f68 := hI68.f
            obtain ⟨At68, nt68, ct68, hct68, hSt68⟩ := hI68.ct
            obtain ⟨Aa68, na68, ca68, hca68, hSa68⟩ := hI68.ca
            obtain ⟨u70, AA70, HN⟩ := H.bind; clear H; have H := HN; clear HN
            obtain ⟨A70, n70, c70, hS70, hq70⟩ := cut_lo hS69 9 u70 AA70
            obtain ⟨u71, A72, HN⟩ := H.bind; clear H; have H := HN; clear HN
            go_wp2_with fail
            refine (Xl.Shift_calls (show Xl _ l z b B 179 EA p41 s42 tg (s42 + 9) p41 al ah from by repeat (first | exact hI68 | apply Xl.drewN | apply Xl.drew | apply Xl.alloc | (apply Xl.setText; case hS => first | assumption | exact Sv.nil _ _) | (apply Xl.setAttr; case hS => first | assumption | exact Sv.nil _ _) | (apply Xl.setTextS; case hb => exact sel_of (by assumption)) | (apply Xl.setAttrS; case hb => exact sel_of (by assumption)) | apply Xl.setTag)) u71 A72).mono ?_
            rintro e w73 ⟨rfl, hI73, k73⟩
            have hF73 := (show Fr l z w0 _ by repeat (first | exact hF68 | apply Fr.drewN | apply Fr.drew | apply Fr.alloc | apply Fr.setl)).trans k73
            have c073 := hI73.c0
            have c173 := hI73.c1
            have c273 := hI73.c2
            have f73 := hI73.f
            obtain ⟨At73, nt73, ct73, hct73, hSt73⟩ := hI73.ct
            obtain ⟨Aa73, na73, ca73, hca73, hSa73⟩ := hI73.ca
            go_wp2_with fail
            go_ret
            obtain ⟨rfl, rfl, rfl, rfl, rfl, rfl⟩ := H.p6
            exact ⟨(by first | rfl | simp), hI73, hF73⟩
          ·
            replace H := H.neg e65
            replace e65 := Bool.eq_false_iff.mpr e65
            have e65n : (c46 != 0) = true := by simp only [bne, e65, Bool.not_false]
            go_wp2_with fail
            refine (Xl.Move_calls hI45 1).mono ?_
            rintro e w74 ⟨rfl, hI74, k74⟩
            have hF74 := hF45.trans k74
            have c074 := hI74.c0
            have c174 := hI74.c1
            have c274 := hI74.c2
            have f74 := hI74.f
            obtain ⟨At74, nt74, ct74, hct74, hSt74⟩ := hI74.ct
            obtain ⟨Aa74, na74, ca74, hca74, hSa74⟩ := hI74.ca
            go_wp2_with fail
            go_roundg k
            case measure => exact Nat.lt_succ_self _
            case rel => exact ⟨mv p41 1, s42, tl43, th44, H, ⟨hI74⟩, ⟨hF74⟩⟩

/-! (*loop.example/pub-g01476/pub/tdxml.Lexer).shiftCommentText -/
def xshiftCommentText.l0 (K : Nat) (B : List Int) : Nat → Int → Int → Int → Int → Option (Int × Int × Int × Int × Int × Int)
  | 0, _, _, _, _ => none
  | k + 1, p76, s77, tl78, th79 =>
    (pk B p76 0).bind fun c81 =>
    (if (c81 == 45) = true then ((pk B p76 1).bind fun c85 =>
    if (c85 == 45) = true then ((pk B p76 2).bind fun c88 =>
    some (c88 == 62)) else
    some false) else
    some false).bind fun b90 =>
    if b90 = true then ((sel B p76 s77).bind fun u91 =>
    (cutB s77 p76 4 (p76 - s77)).bind fun u95 =>
    (sel B (mv p76 3) s77).bind fun u97 =>
    some (s77, mv p76 3, mv p76 3, mv p76 3, s77 + 4, p76)) else
    if (c81 == 0) = true then ((sel B p76 s77).bind fun u101 =>
    some (s77, p76, p76, p76, tl78, th79)) else
    xshiftCommentText.l0 K B k (mv p76 1) s77 tl78 th79
def xshiftCommentText.f (K : Nat) (B : List Int) (p : Int) (s : Int) (tg : Bool) (tl : Int) (th : Int) (al : Int) (ah : Int) : Option (Int × Int × Int × Int × Int × Int) :=
xshiftCommentText.l0 K B K p s tl th
set_option maxHeartbeats 8000000 in
set_option maxRecDepth 100000 in
theorem xshiftCommentText.calls (K : Nat) {w0 : World} {l z b : Nat} {B : List Int} {EA : Addr} {p s : Int} {tg : Bool} {tl : Int} {th : Int} {al : Int} {ah : Int} (hI0 : Xl w0 l z b B 179 EA p s tg tl th al ah) (r0 : Int) (r1 : Int) (r2 : Int) (r3 : Int) (r4 : Int) (r5 : Int) (H : Hd (xshiftCommentText.f K B p s tg tl th al ah = some (r0, r1, r2, r3, r4, r5))) :
    Calls Tryz.prog 65 #[.pointer (some ⟨l, 0, none⟩)] w0 fun e w' => e = .returned (slv b r0 r1) ∧ Xl w' l z b B 179 EA r2 r3 tg r4 r5 al ah ∧ Fr l z w0 w' := by
  have hF0 : Fr l z w0 w0 := Fr.refl _ _ w0
  have c00 := hI0.c0
  have c10 := hI0.c1
  have c20 := hI0.c2
  have f0 := hI0.f
  obtain ⟨At0, nt0, ct0, hct0, hSt0⟩ := hI0.ct
  obtain ⟨Aa0, na0, ca0, hca0, hSa0⟩ := hI0.ca
  unfold xshiftCommentText.f at H
  go_enter Tryz.func65, Tryz.ntmps65
  have H1 := H; clear H
  go_wp2_with fail
  go_loopg [] K (fun gk w' => ∃ (p76 : Int), ∃ (s77 : Int), ∃ (tl78 : Int), ∃ (th79 : Int), Hd (xshiftCommentText.l0 K B gk p76 s77 tl78 th79 = some (r0, r1, r2, r3, r4, r5)) ∧ Hd (Xl w' l z b B 179 EA p76 s77 tg tl78 th79 al ah) ∧ Hd (Fr l z w0 w'))
  case atStart => exact ⟨p, s, tl, th, H1, ⟨hI0⟩, ⟨hF0⟩⟩
  case round =>
    clear H1
    obtain ⟨p76, s77, tl78, th79, H, gI, gF⟩ := hrel
    have hI80 := gI.out; have hF80 := gF.out; clear gI gF
    have c080 := hI80.c0
    have c180 := hI80.c1
    have c280 := hI80.c2
    have f80 := hI80.f
    obtain ⟨At80, nt80, ct80, hct80, hSt80⟩ := hI80.ct
    obtain ⟨Aa80, na80, ca80, hca80, hSa80⟩ := hI80.ca
    cases gk with
    | zero => exact absurd H.out (by simp [xshiftCommentText.l0])
    | succ k =>
      simp only [xshiftCommentText.l0] at H
      obtain ⟨c81, A82, HN⟩ := H.bind; clear H; have H := HN; clear HN
      go_wp2_with fail
      refine (Xl.Peek_calls hI80 0 c81 A82).mono ?_
      rintro e w' ⟨rfl, rfl⟩
      obtain ⟨b90, H1, HC83⟩ := H.bind; clear H
      go_upto_region 2 with fail
      go_cut [26] (fun v26 w' => v26 = .bool b90 ∧ wr = w')
      case first =>
        have H := H1; clear H1
        by_cases e84 : (c81 == 45) = true
        · 
          replace H := H.pos e84
          have e84n : (c81 != 45) = false := by simp only [bne, e84, Bool.not_true]
          obtain ⟨c85, A86, HN⟩ := H.bind; clear H; have H := HN; clear HN
          go_wp2_with fail
          refine (Xl.Peek_calls hI80 1 c85 A86).mono ?_
          rintro e w' ⟨rfl, rfl⟩
          by_cases e87 : (c85 == 45) = true
          · 
            replace H := H.pos e87
            have e87n : (c85 != 45) = false := by simp only [bne, e87, Bool.not_true]
            obtain ⟨c88, A89, HN⟩ := H.bind; clear H; have H := HN; clear HN
            go_wp2_with fail
            refine (Xl.Peek_calls hI80 2 c88 A89).mono ?_
            rintro e w' ⟨rfl, rfl⟩
            obtain rfl := H.p1
            go_wp2_with fail
            go_meet
            case rel => exact ⟨(by first | rfl | simp), rfl⟩
          ·
            replace H := H.neg e87
            replace e87 := Bool.eq_false_iff.mpr e87
            have e87n : (c85 != 45) = true := by simp only [bne, e87, Bool.not_false]
            obtain rfl := H.p1
            go_wp2_with fail
            go_meet
            case rel => exact ⟨(by first | rfl | simp), rfl⟩
        ·
          replace H := H.neg e84
          replace e84 := Bool.eq_false_iff.mpr e84
          have e84n : (c81 != 45) = true := by simp only [bne, e84, Bool.not_false]
          obtain rfl := H.p1
          go_wp2_with fail
          go_meet
          case rel => exact ⟨(by first | rfl | simp), rfl⟩
      case rest =>
        obtain ⟨rfl, rfl⟩ := hcut
        have H := HC83; clear HC83 H1
        cases b90 with
        | true =>
          replace H := H.tt
          obtain ⟨u91, A92, HN⟩ := H.bind; clear H; have H := HN; clear HN
          go_wp2_with fail
          refine (Xl.LexemeV_calls hI80 u91 A92).mono ?_
          rintro e w93 ⟨⟨A94, n94, c94, rfl, hS94⟩, hI93, k93⟩
          have hF93 := hF80.trans k93
          have c093 := hI93.c0
          have c193 := hI93.c1
          have c293 := hI93.c2
          have f93 := hI93.f
          obtain ⟨At93, nt93, ct93, hct93, hSt93⟩ := hI93.ct
          obtain ⟨Aa93, na93, ca93, hca93, hSa93⟩ := hI93.ca
          obtain ⟨u95, AA95, HN⟩ := H.bind; clear H; have H := HN; clear HN
          obtain ⟨A95, n95, c95, hS95, hq95⟩ := cut_lo hS94 4 u95 AA95
          go_wp2_with fail
          refine (Xl.Move_calls (show Xl _ l z b B 179 EA p76 s77 tg (s77 + 4) p76 al ah from by repeat (first | exact hI93 | apply Xl.drewN | apply Xl.drew | apply Xl.alloc | (apply Xl.setText; case hS => first | assumption | exact Sv.nil _ _) | (apply Xl.setAttr; case hS => first | assumption | exact Sv.nil _ _) | (apply Xl.setTextS; case hb => exact sel_of (by assumption)) | (apply Xl.setAttrS; case hb => exact sel_of (by assumption)) | apply Xl.setTag)) 3).mono ?_
          rintro e w96 ⟨rfl, hI96, k96⟩
          have hF96 := (show Fr l z w0 _ by repeat (first | exact hF93 | apply Fr.drewN | apply Fr.drew | apply Fr.alloc | apply Fr.setl)).trans k96
          have c096 := hI96.c0
          have c196 := hI96.c1
          have c296 := hI96.c2
          have f96 := hI96.f
          obtain ⟨At96, nt96, ct96, hct96, hSt96⟩ := hI96.ct
          obtain ⟨Aa96, na96, ca96, hca96, hSa96⟩ := hI96.ca
          obtain ⟨u97, A98, HN⟩ := H.bind; clear H; have H := HN; clear HN
          go_wp2_with fail
          refine (Xl.Shift_calls hI96 u97 A98).mono ?_
          rintro e w99 ⟨rfl, hI99, k99⟩
          have hF99 := hF96.trans k99
          have c099 := hI99.c0
          have c199 := hI99.c1
          have c299 := hI99.c2
          have f99 := hI99.f
          obtain ⟨At99, nt99, ct99, hct99, hSt99⟩ := hI99.ct
          obtain ⟨Aa99, na99, ca99, hca99, hSa99⟩ := hI99.ca
          go_wp2_with fail
          go_ret
          obtain ⟨rfl, rfl, rfl, rfl, rfl, rfl⟩ := H.p6
          exact ⟨(by first | rfl | simp), hI99, hF99⟩
        | false =>
          replace H := H.ff
          by_cases e100 : (c81 == 0) = true
          · 
            replace H := H.pos e100
            have e100n : (c81 != 0) = false := by simp only [bne, e100, Bool.not_true]
            obtain ⟨u101, A102, HN⟩ := H.bind; clear H; have H := HN; clear HN
            go_wp2_with fail
            refine (Xl.Shift_calls hI80 u101 A102).mono ?_
            rintro e w103 ⟨rfl, hI103, k103⟩
            have hF103 := hF80.trans k103
            have c0103 := hI103.c0
            have c1103 := hI103.c1
            have c2103 := hI103.c2
            have f103 := hI103.f
            obtain ⟨At103, nt103, ct103, hct103, hSt103⟩ := hI103.ct
            obtain ⟨Aa103, na103, ca103, hca103, hSa103⟩ := hI103.ca
            go_wp2_with fail
            go_ret
            obtain ⟨rfl, rfl, rfl, rfl, rfl, rfl⟩ := H.p6
            exact ⟨(by first | rfl | simp), hI103, hF103⟩
          ·
            replace H := H.neg e100
            replace e100 := Bool.eq_false_iff.mpr e100
            have e100n : (c81 != 0) = true := by simp only [bne, e100, Bool.not_false]
            go_wp2_with fail
            refine (Xl.Move_calls hI80 1).mono ?_
            rintro e w104 ⟨rfl, hI104, k104⟩
            have hF104 := hF80.trans k104
            have c0104 := hI104.c0
            have c1104 := hI104.c1
            have c2104 := hI104.c2
            have f104 := hI104.f
            obtain ⟨At104, nt104, ct104, hct104, hSt104⟩ := hI104.ct
            obtain ⟨Aa104, na104, ca104, hca104, hSa104⟩ := hI104.ca
            go_wp2_with fail
            go_roundg k
            case measure => exact Nat.lt_succ_self _
            case rel => exact ⟨mv p76 1, s77, tl78, th79, H, ⟨hI104⟩, ⟨hF104⟩⟩

/-! (*loop.example/pub-g01476/pub/tdxml.Lexer).shiftStartTag -/
def xshiftStartTag.l0 (K : Nat) (B : List Int) : Nat → Int → Option (Int)
  | 0, _ => none
  | k + 1, p107 =>
    (pk B p107 0).bind fun c109 =>
    (if (c109 == 32) = true then (some true) else
    if (c109 == 62) = true then (some true) else
    if (c109 == 47) = true then ((pk B p107 1).bind fun c115 =>
    if (c115 == 62) = true then (some true) else
    some (c109 == 0)) else
    if (c109 == 63) = true then ((pk B p107 1).bind fun c122 =>
    if (c122 == 62) = true then (some true) else
    some (c109 == 0)) else
    if (c109 == 9) = true then (some true) else
    if (c109 == 10) = true then (some true) else
    if (c109 == 13) = true then (some true) else
    some (c109 == 0)).bind fun b131 =>
    if b131 = true then (some p107) else
    xshiftStartTag.l0 K B k (mv p107 1)
def xshiftStartTag.f (K : Nat) (B : List Int) (p : Int) (s : Int) (tg : Bool) (tl : Int) (th : Int) (al : Int) (ah : Int) : Option (Int × Int × Int × Int × Int × Int) :=
(xshiftStartTag.l0 K B K p).bind fun p133 =>
(sel B p133 s).bind fun u135 =>
(cutB s p133 (ps p s) (p133 - s)).bind fun u139 =>
(sel B p133 s).bind fun u140 =>
some (s, p133, p133, p133, s + (ps p s), p133)
set_option maxHeartbeats 8000000 in
set_option maxRecDepth 100000 in
theorem xshiftStartTag.calls (K : Nat) {w0 : World} {l z b : Nat} {B : List Int} {EA : Addr} {p s : Int} {tg : Bool} {tl : Int} {th : Int} {al : Int} {ah : Int} (hI0 : Xl w0 l z b B 179 EA p s tg tl th al ah) (r0 : Int) (r1 : Int) (r2 : Int) (r3 : Int) (r4 : Int) (r5 : Int) (H : Hd (xshiftStartTag.f K B p s tg tl th al ah = some (r0, r1, r2, r3, r4, r5))) :
    Calls Tryz.prog 68 #[.pointer (some ⟨l, 0, none⟩)] w0 fun e w' => e = .returned (slv b r0 r1) ∧ Xl w' l z b B 179 EA r2 r3 tg r4 r5 al ah ∧ Fr l z w0 w' := by
  have hF0 : Fr l z w0 w0 := Fr.refl _ _ w0
  have c00 := hI0.c0
  have c10 := hI0.c1
  have c20 := hI0.c2
  have f0 := hI0.f
  obtain ⟨At0, nt0, ct0, hct0, hSt0⟩ := hI0.ct
  obtain ⟨Aa0, na0, ca0, hca0, hSa0⟩ := hI0.ca
  unfold xshiftStartTag.f at H
  go_enter Tryz.func68, Tryz.ntmps68
  go_wp2_with fail
  refine (Xl.Pos_calls hI0).mono ?_
  rintro e w105 ⟨rfl, hI105, k105⟩
  have hF105 := hF0.trans k105
  have c0105 := hI105.c0
  have c1105 := hI105.c1
  have c2105 := hI105.c2
  have f105 := hI105.f
  obtain ⟨At105, nt105, ct105, hct105, hSt105⟩ := hI105.ct
  obtain ⟨Aa105, na105, ca105, hca105, hSa105⟩ := hI105.ca
  obtain ⟨p133, H1, HC106⟩ := H.bind; clear H
  go_upto_block 0 with fail
  go_cut [] (fun w' => Hd (Xl w' l z b B 179 EA p133 s tg tl th al ah) ∧ Hd (Fr l z w0 w'))
  case first =>
    go_wp2_with fail
    go_loopg [] K (fun gk w' => ∃ (p107 : Int), Hd (xshiftStartTag.l0 K B gk p107 = some p133) ∧ Hd (Xl w' l z b B 179 EA p107 s tg tl th al ah) ∧ Hd (Fr l z w0 w'))
    case atStart => exact ⟨p, H1, ⟨hI105⟩, ⟨hF105⟩⟩
    case round =>
      clear H1
      obtain ⟨p107, H, gI, gF⟩ := hrel
      have hI108 := gI.out; have hF108 := gF.out; clear gI gF
      have c0108 := hI108.c0
      have c1108 := hI108.c1
      have c2108 := hI108.c2
      have f108 := hI108.f
      obtain ⟨At108, nt108, ct108, hct108, hSt108⟩ := hI108.ct
      obtain ⟨Aa108, na108, ca108, hca108, hSa108⟩ := hI108.ca
      cases gk with
      | zero => exact absurd H.out (by simp [xshiftStartTag.l0])
      | succ k =>
        simp only [xshiftStartTag.l0] at H
        obtain ⟨c109, A110, HN⟩ := H.bind; clear H; have H := HN; clear HN
        go_wp2_with fail
        refine (Xl.Peek_calls hI108 0 c109 A110).mono ?_
        rintro e w' ⟨rfl, rfl⟩
        obtain ⟨b131, H1, HC111⟩ := H.bind; clear H
        go_upto_region 3 with fail
        go_cut [52] (fun v52 w' => v52 = .bool b131 ∧ wr = w')
        case first =>
          have H := H1; clear H1
          by_cases e112 : (c109 == 32) = true
          · 
            replace H := H.pos e112
            have e112n : (c109 != 32) = false := by simp only [bne, e112, Bool.not_true]
            obtain rfl := H.p1
            go_wp2_with fail
            go_meet
            case rel => exact ⟨(by first | rfl | simp), rfl⟩
          ·
            replace H := H.neg e112
            replace e112 := Bool.eq_false_iff.mpr e112
            have e112n : (c109 != 32) = true := by simp only [bne, e112, Bool.not_false]
            by_cases e113 : (c109 == 62) = true
            · 
              replace H := H.pos e113
              have e113n : (c109 != 62) = false := by simp only [bne, e113, Bool.not_true]
              obtain rfl := H.p1
              go_wp2_with fail
              go_meet
              case rel => exact ⟨(by first | rfl | simp), rfl⟩
            ·
              replace H := H.neg e113
              replace e113 := Bool.eq_false_iff.mpr e113
              have e113n : (c109 != 62) = true := by simp only [bne, e113, Bool.not_false]
              by_cases e114 : (c109 == 47) = true
              · 
                replace H := H.pos e114
                have e114n : (c109 != 47) = false := by simp only [bne, e114, Bool.not_true]
                obtain ⟨c115, A116, HN⟩ := H.bind; clear H; have H := HN; clear HN
                go_wp2_with fail
                refine (Xl.Peek_calls hI108 1 c115 A116).mono ?_
                rintro e w' ⟨rfl, rfl⟩
                by_cases e117 : (c115 == 62) = true
                · 
                  replace H := H.pos e117
                  have e117n : (c115 != 62) = false := by simp only [bne, e117, Bool.not_true]
                  obtain rfl := H.p1
                  go_wp2_with fail
                  go_meet
                  case rel => exact ⟨(by first | rfl | simp), rfl⟩
                ·
                  replace H := H.neg e117
                  replace e117 := Bool.eq_false_iff.mpr e117
                  have e117n : (c115 != 62) = true := by simp only [bne, e117, Bool.not_false]
                  have e118 : (c109 == 9) = false := beq_eq_false_iff_ne.mpr (by have := beq_iff_eq.mp e114; omega)
                  have e118n : (c109 != 9) = true := by simp only [bne, e118, Bool.not_false]
                  have e119 : (c109 == 10) = false := beq_eq_false_iff_ne.mpr (by have := beq_iff_eq.mp e114; omega)
                  have e119n : (c109 != 10) = true := by simp only [bne, e119, Bool.not_false]
                  have e120 : (c109 == 13) = false := beq_eq_false_iff_ne.mpr (by have := beq_iff_eq.mp e114; omega)
                  have e120n : (c109 != 13) = true := by simp only [bne, e120, Bool.not_false]
                  obtain rfl := H.p1
                  go_wp2_with fail
                  go_meet
                  case rel => exact ⟨(by first | rfl | simp), rfl⟩
              ·
                replace H := H.neg e114
                replace e114 := Bool.eq_false_iff.mpr e114
                have e114n : (c109 != 47) = true := by simp only [bne, e114, Bool.not_false]
                by_cases e121 : (c109 == 63) = true
                · 
                  replace H := H.pos e121
                  have e121n : (c109 != 63) = false := by simp only [bne, e121, Bool.not_true]
                  obtain ⟨c122, A123, HN⟩ := H.bind; clear H; have H := HN; clear HN
                  go_wp2_with fail
                  refine (Xl.Peek_calls hI108 1 c122 A123).mono ?_
                  rintro e w' ⟨rfl, rfl⟩
                  by_cases e124 : (c122 == 62) = true
                  · 
                    replace H := H.pos e124
                    have e124n : (c122 != 62) = false := by simp only [bne, e124, Bool.not_true]
                    obtain rfl := H.p1
                    go_wp2_with fail
                    go_meet
                    case rel => exact ⟨(by first | rfl | simp), rfl⟩
                  ·
                    replace H := H.neg e124
                    replace e124 := Bool.eq_false_iff.mpr e124
                    have e124n : (c122 != 62) = true := by simp only [bne, e124, Bool.not_false]
                    have e125 : (c109 == 9) = false := beq_eq_false_iff_ne.mpr (by have := beq_iff_eq.mp e121; omega)
                    have e125n : (c109 != 9) = true := by simp only [bne, e125, Bool.not_false]
                    have e126 : (c109 == 10) = false := beq_eq_false_iff_ne.mpr (by have := beq_iff_eq.mp e121; omega)
                    have e126n : (c109 != 10) = true := by simp only [bne, e126, Bool.not_false]
                    have e127 : (c109 == 13) = false := beq_eq_false_iff_ne.mpr (by have := beq_iff_eq.mp e121; omega)
                    have e127n : (c109 != 13) = true := by simp only [bne, e127, Bool.not_false]
                    obtain rfl := H.p1
                    go_wp2_with fail
                    go_meet
                    case rel => exact ⟨(by first | rfl | simp), rfl⟩
                ·
                  replace H := H.neg e121
                  replace e121 := Bool.eq_false_iff.mpr e121
                  have e121n : (c109 != 63) = true := by simp only [bne, e121, Bool.not_false]
                  by_cases e128 : (c109 == 9) = true
                  · 
                    replace H := H.pos e128
                    have e128n : (c109 != 9) = false := by simp only [bne, e128, Bool.not_true]
                    obtain rfl := H.p1
                    go_wp2_with fail
                    go_meet
                    case rel => exact ⟨(by first | rfl | simp), rfl⟩
                  ·
                    replace H := H.neg e128
                    replace e128 := Bool.eq_false_iff.mpr e128
                    have e128n : (c109 != 9) = true := by simp only [bne, e128, Bool.not_false]
                    by_cases e129 : (c109 == 10) = true
                    · 
                      replace H := H.pos e129
                      have e129n : (c109 != 10) = false := by simp only [bne, e129, Bool.not_true]
                      obtain rfl := H.p1
                      go_wp2_with fail
                      go_meet
                      case rel => exact ⟨(by first | rfl | simp), rfl⟩
                    ·
                      replace H := H.neg e129
                      replace e129 := Bool.eq_false_iff.mpr e129
                      have e129n : (c109 != 10) = true := by simp only [bne, e129, Bool.not_false]
                      by_cases e130 : (c109 == 13) = true
                      · 
                        replace H := H.pos e130
                        have e130n : (c109 != 13) = false := by simp only [bne, e130, Bool.not_true]
                        obtain rfl := H.p1
                        go_wp2_with fail
                        go_meet
                        case rel => exact ⟨(by first | rfl | simp), rfl⟩
                      ·
                        replace H := H.neg e130
                        replace e130 := Bool.eq_false_iff.mpr e130
                        have e130n : (c109 != 13) = true := by simp only [bne, e130, Bool.not_false]
                        obtain rfl := H.p1
                        go_wp2_with fail
                        go_meet
                        case rel => exact ⟨(by first | rfl | simp), rfl⟩
        case rest =>
          obtain ⟨rfl, rfl⟩ := hcut
          have H := HC111; clear HC111 H1
          cases b131 with
          | true =>
            replace H := H.tt
            obtain rfl := H.p1
            go_wp2_with fail
            go_meet
            case rel => exact ⟨⟨hI108⟩, ⟨hF108⟩⟩
          | false =>
            replace H := H.ff
            go_wp2_with fail
            refine (Xl.Move_calls hI108 1).mono ?_
            rintro e w132 ⟨rfl, hI132, k132⟩
            have hF132 := hF108.trans k132
            have c0132 := hI132.c0
            have c1132 := hI132.c1
            have c2132 := hI132.c2
            have f132 := hI132.f
            obtain ⟨At132, nt132, ct132, hct132, hSt132⟩ := hI132.ct
            obtain ⟨Aa132, na132, ca132, hca132, hSa132⟩ := hI132.ca
            go_wp2_with fail
            go_roundg k
            case measure => exact Nat.lt_succ_self _
            case rel => exact ⟨mv p107 1, H, ⟨hI132⟩, ⟨hF132⟩⟩
  case rest =>
    obtain ⟨gI, gF⟩ := hcut
    have hI134 := gI.out; have hF134 := gF.out; clear gI gF
    have c0134 := hI134.c0
    have c1134 := hI134.c1
    have c2134 := hI134.c2
    have f134 := hI134.f
    obtain ⟨At134, nt134, ct134, hct134, hSt134⟩ := hI134.ct
    obtain ⟨Aa134, na134, ca134, hca134, hSa134⟩ := hI134.ca
    have H := HC106; clear HC106 H1
    obtain ⟨u135, A136, HN⟩ := H.bind; clear H; have H := HN; clear HN
    go_wp2_with fail
    refine (Xl.LexemeV_calls hI134 u135 A136).mono ?_
    rintro e w137 ⟨⟨A138, n138, c138, rfl, hS138⟩, hI137, k137⟩
    have hF137 := hF134.trans k137
    have c0137 := hI137.c0
    have c1137 := hI137.c1
    have c2137 := hI137.c2
    have f137 := hI137.f
    obtain ⟨At137, nt137, ct137, hct137, hSt137⟩ := hI137.ct
    obtain ⟨Aa137, na137, ca137, hca137, hSa137⟩ := hI137.ca
    obtain ⟨u139, AA139, HN⟩ := H.bind; clear H; have H := HN; clear HN
    obtain ⟨A139, n139, c139, hS139, hq139⟩ := cut_lo hS138 (ps p s) u139 AA139
    obtain ⟨u140, A141, HN⟩ := H.bind; clear H; have H := HN; clear HN
    go_wp2_with fail
    refine (Xl.Shift_calls (show Xl _ l z b B 179 EA p133 s tg (s + (ps p s)) p133 al ah from by repeat (first | exact hI137 | apply Xl.drewN | apply Xl.drew | apply Xl.alloc | (apply Xl.setText; case hS => first | assumption | exact Sv.nil _ _) | (apply Xl.setAttr; case hS => first | assumption | exact Sv.nil _ _) | (apply Xl.setTextS; case hb => exact sel_of (by assumption)) | (apply Xl.setAttrS; case hb => exact sel_of (by assumption)) | apply Xl.setTag)) u140 A141).mono ?_
    rintro e w142 ⟨rfl, hI142, k142⟩
    have hF142 := (show Fr l z w0 _ by repeat (first | exact hF137 | apply Fr.drewN | apply Fr.drew | apply Fr.alloc | apply Fr.setl)).trans k142
    have c0142 := hI142.c0
    have c1142 := hI142.c1
    have c2142 := hI142.c2
    have f142 := hI142.f
    obtain ⟨At142, nt142, ct142, hct142, hSt142⟩ := hI142.ct
    obtain ⟨Aa142, na142, ca142, hca142, hSa142⟩ := hI142.ca
    go_wp2_with fail
    go_ret
    obtain ⟨rfl, rfl, rfl, rfl, rfl, rfl⟩ := H.p6
    exact ⟨(by first | rfl | simp), hI142, hF142⟩
end Go.Proofs.YtfcedenofbefcaaGreatDoor
