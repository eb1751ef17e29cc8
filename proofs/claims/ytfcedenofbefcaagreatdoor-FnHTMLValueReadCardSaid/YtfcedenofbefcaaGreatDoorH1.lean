import Derived.Test.YtfcedenofbefcaaGreatDoorKI
namespace Go.Proofs.YtfcedenofbefcaaGreatDoor
open Go.RowKit
set_option linter.unusedVariables false
set_option linter.unusedSimpArgs false

/-! (*loop.example/pub-g01476/pub/tdhtml.Lexer).shiftRawText -/
def hshiftRawText.l1 (K : Nat) (B : List Int) : Nat → Int → Option (Int)
  | 0, _ => none
  | k + 1, p15 =>
    (pk B p15 0).bind fun c17 =>
    if (!(((decide (97 ≤ c17)) && (decide (c17 ≤ 122))) || ((decide (65 ≤ c17)) && (decide (c17 ≤ 90))))) = true then (some p15) else
    hshiftRawText.l1 K B k (mv p15 1)
def hshiftRawText.l0 (K : Nat) (B : List Int) (rt : Int) : Nat → Int → Int → Option (Int × Int × Int × Int)
  | 0, _, _ => none
  | k + 1, p3, s4 =>
    (pk B p3 0).bind fun c6 =>
    if (c6 == 60) = true then ((pk B p3 1).bind fun c9 =>
    if (c9 == 47) = true then ((hshiftRawText.l1 K B K (mv p3 2)).bind fun p26 =>
    (sel B p26 s4).bind fun u28 =>
    (cutB s4 p26 (wrap64 ((ps p3 s4) + 2)) (p26 - s4)).bind fun u32 =>
    (low B (s4 + (wrap64 ((ps p3 s4) + 2))) p26).bind fun u35 =>
    (hashB B (s4 + (wrap64 ((ps p3 s4) + 2))) p26).bind fun h37 =>
    if (h37 == rt) = true then ((sel B (rwd s4 (ps p3 s4)) s4).bind fun u42 =>
    some (s4, rwd s4 (ps p3 s4), rwd s4 (ps p3 s4), rwd s4 (ps p3 s4))) else
    hshiftRawText.l0 K B rt k p26 s4) else
    (if (rt == 2566) = true then ((pk B p3 1).bind fun c47 =>
    if (c47 == 33) = true then ((pk B p3 2).bind fun c50 =>
    if (c50 == 45) = true then ((pk B p3 3).bind fun c53 =>
    some (c53 == 45)) else
    some false) else
    some false) else
    some false).bind fun b55 =>
    if b55 = true then (none) else
    hshiftRawText.l0 K B rt k (mv p3 1) s4) else
    if ((c6 == 0) && (atEnd B p3 0)) = true then ((sel B p3 s4).bind fun u65 =>
    some (s4, p3, p3, p3)) else
    hshiftRawText.l0 K B rt k (mv p3 1) s4
def hshiftRawText.f (K : Nat) (B : List Int) (p : Int) (s : Int) (rt : Int) (tg : Bool) (tl : Int) (th : Int) (al : Int) (ah : Int) : Option (Int × Int × Int × Int) :=
if (rt == 8457) = true then (none) else
hshiftRawText.l0 K B rt K p s
set_option maxHeartbeats 8000000 in
set_option maxRecDepth 100000 in
theorem hshiftRawText.calls (K : Nat) {w0 : World} {l z b : Nat} {B : List Int} {EA : Addr} {p s : Int} {rt : Int} {tg : Bool} {tl : Int} {th : Int} {al : Int} {ah : Int} (hI0 : Hl w0 l z b B 179 EA p s rt tg tl th al ah) (r0 : Int) (r1 : Int) (r2 : Int) (r3 : Int) (H : Hd (hshiftRawText.f K B p s rt tg tl th al ah = some (r0, r1, r2, r3))) :
    Calls Tryz.prog 71 #[.pointer (some ⟨l, 0, none⟩)] w0 fun e w' => e = .returned (slv b r0 r1) ∧ Hl w' l z b B 179 EA r2 r3 rt tg tl th al ah ∧ Fr l z w0 w' := by
  have hF0 : Fr l z w0 w0 := Fr.refl _ _ w0
  have c00 := hI0.c0
  have c10 := hI0.c1
  have c20 := hI0.c2
  have c30 := hI0.c3
  have c40 := hI0.c4
  have c50 := hI0.c5
  have c80 := hI0.c8
  have f0 := hI0.f
  obtain ⟨At0, nt0, ct0, hct0, hSt0⟩ := hI0.ct
  obtain ⟨Aa0, na0, ca0, hca0, hSa0⟩ := hI0.ca
  unfold hshiftRawText.f at H
  go_enter Tryz.func71, Tryz.ntmps71
  by_cases e1 : (rt == 8457) = true
  · 
    replace H := H.pos e1
    have e1n : (rt != 8457) = false := by simp only [bne, e1, Bool.not_true]
    exact H.no
  ·
    replace H := H.neg e1
    replace e1 := Bool.eq_false_iff.mpr e1
    have e1n : (rt != 8457) = true := by simp only [bne, e1, Bool.not_false]
    have H1 := H; clear H
    go_wp2_with fail
    go_loopg [] K (fun gk w' => ∃ (p3 : Int), ∃ (s4 : Int), Hd (hshiftRawText.l0 K B rt gk p3 s4 = some (r0, r1, r2, r3)) ∧ Hd (Hl w' l z b B 179 EA p3 s4 rt tg tl th al ah) ∧ Hd (Fr l z w0 w'))
    case atStart => exact ⟨p, s, H1, ⟨hI0⟩, ⟨hF0⟩⟩
    case round =>
      clear H1
      obtain ⟨p3, s4, H, gI, gF⟩ := hrel
      have hI5 := gI.out; have hF5 := gF.out; clear gI gF
      have c05 := hI5.c0
      have c15 := hI5.c1
      have c25 := hI5.c2
      have c35 := hI5.c3
      have c45 := hI5.c4
      have c55 := hI5.c5
      have c85 := hI5.c8
      have f5 := hI5.f
      obtain ⟨At5, nt5, ct5, hct5, hSt5⟩ := hI5.ct
      obtain ⟨Aa5, na5, ca5, hca5, hSa5⟩ := hI5.ca
      cases gk with
      | zero => exact absurd H.out (by simp [hshiftRawText.l0])
      | succ k =>
        simp only [hshiftRawText.l0] at H
        obtain ⟨c6, A7, HN⟩ := H.bind; clear H; have H := HN; clear HN
        go_wp2_with fail
        refine (Hl.Peek_calls hI5 0 c6 A7).mono ?_
        rintro e w' ⟨rfl, rfl⟩
        by_cases e8 : (c6 == 60) = true
        · 
          replace H := H.pos e8
          as_aux_lemma =>
            have e8n : (c6 != 60) = false := by simp only [bne, e8, Bool.not_true]
            obtain ⟨c9, A10, HN⟩ := H.bind; clear H; have H := HN; clear HN
            go_wp2_with fail
            refine (Hl.Peek_calls hI5 1 c9 A10).mono ?_
            rintro e w' ⟨rfl, rfl⟩
            by_cases e11 : (c9 == 47) = true
            · 
              replace H := H.pos e11
              as_aux_lemma =>
                have e11n : (c9 != 47) = false := by simp only [bne, e11, Bool.not_true]
                go_wp2_with fail
                refine (Hl.Pos_calls hI5).mono ?_
                rintro e w12 ⟨rfl, hI12, k12⟩
                have hF12 := hF5.trans k12
                have c012 := hI12.c0
                have c112 := hI12.c1
                have c212 := hI12.c2
                have c312 := hI12.c3
                have c412 := hI12.c4
                have c512 := hI12.c5
                have c812 := hI12.c8
                have f12 := hI12.f
                obtain ⟨At12, nt12, ct12, hct12, hSt12⟩ := hI12.ct
                obtain ⟨Aa12, na12, ca12, hca12, hSa12⟩ := hI12.ca
                go_wp2_with fail
                refine (Hl.Move_calls hI12 2).mono ?_
                rintro e w13 ⟨rfl, hI13, k13⟩
                have hF13 := hF12.trans k13
                have c013 := hI13.c0
                have c113 := hI13.c1
                have c213 := hI13.c2
                have c313 := hI13.c3
                have c413 := hI13.c4
                have c513 := hI13.c5
                have c813 := hI13.c8
                have f13 := hI13.f
                obtain ⟨At13, nt13, ct13, hct13, hSt13⟩ := hI13.ct
                obtain ⟨Aa13, na13, ca13, hca13, hSa13⟩ := hI13.ca
                obtain ⟨p26, H1, HC14⟩ := H.bind; clear H
                go_upto_block 4 with fail
                go_cut [] (fun w' => Hd (Hl w' l z b B 179 EA p26 s4 rt tg tl th al ah) ∧ Hd (Fr l z w0 w'))
                case first =>
                  go_wp2_with fail
                  go_loopg [] K (fun gk w' => ∃ (p15 : Int), Hd (hshiftRawText.l1 K B gk p15 = some p26) ∧ Hd (Hl w' l z b B 179 EA p15 s4 rt tg tl th al ah) ∧ Hd (Fr l z w0 w'))
                  case atStart => exact ⟨mv p3 2, H1, ⟨hI13⟩, ⟨hF13⟩⟩
                  case round =>
                    clear H1
                    obtain ⟨p15, H, gI, gF⟩ := hrel
                    have hI16 := gI.out; have hF16 := gF.out; clear gI gF
                    have c016 := hI16.c0
                    have c116 := hI16.c1
                    have c216 := hI16.c2
                    have c316 := hI16.c3
                    have c416 := hI16.c4
                    have c516 := hI16.c5
                    have c816 := hI16.c8
                    have f16 := hI16.f
                    obtain ⟨At16, nt16, ct16, hct16, hSt16⟩ := hI16.ct
                    obtain ⟨Aa16, na16, ca16, hca16, hSa16⟩ := hI16.ca
                    cases gk with
                    | zero => exact absurd H.out (by simp [hshiftRawText.l1])
                    | succ k =>
                      simp only [hshiftRawText.l1] at H
                      obtain ⟨c17, A18, HN⟩ := H.bind; clear H; have H := HN; clear HN
                      go_wp2_with fail
                      refine (Hl.Peek_calls hI16 0 c17 A18).mono ?_
                      rintro e w' ⟨rfl, rfl⟩
                      generalize hb19 : (!(((decide (97 ≤ c17)) && (decide (c17 ≤ 122))) || ((decide (65 ≤ c17)) && (decide (c17 ≤ 90))))) = b24 at H
                      have HB19 := Hd.mk hb19; clear hb19
                      go_upto_region 11 with fail
                      go_cut [82] (fun v82 w' => v82 = .bool b24 ∧ wr = w')
                      case first =>
                        as_aux_lemma =>
                          clear H
                          by_cases e20 : (decide (97 ≤ c17)) = true
                          · 
                            as_aux_lemma =>
                              by_cases e21 : (decide (c17 ≤ 122)) = true
                              · 
                                go_wp2_with fail
                                go_meet
                                case rel => exact ⟨by rw [← HB19.out, e20, e21]; first | rfl | simp, rfl⟩
                              ·
                                replace e21 := Bool.eq_false_iff.mpr e21
                                have e22 : (decide (65 ≤ c17)) = true := decide_eq_true (by have := of_decide_eq_false e21; omega)
                                go_wp2_with fail
                                go_meet
                                case rel => exact ⟨by rw [← HB19.out, e20, e21, e22]; first | rfl | simp, rfl⟩
                          ·
                            replace e20 := Bool.eq_false_iff.mpr e20
                            by_cases e23 : (decide (65 ≤ c17)) = true
                            · 
                              go_wp2_with fail
                              go_meet
                              case rel => exact ⟨by rw [← HB19.out, e20, e23]; first | rfl | simp, rfl⟩
                            ·
                              replace e23 := Bool.eq_false_iff.mpr e23
                              go_wp2_with fail
                              go_meet
                              case rel => exact ⟨by rw [← HB19.out, e20, e23]; first | rfl | simp, rfl⟩
                      case rest =>
                        as_aux_lemma =>
                          obtain ⟨rfl, rfl⟩ := hcut
                          cases b24 with
                          | true =>
                            replace H := H.tt
                            obtain rfl := H.p1
                            go_wp2_with fail
                            go_meet
                            case rel => exact ⟨⟨hI16⟩, ⟨hF16⟩⟩
                          | false =>
                            replace H := H.ff
                            go_wp2_with fail
                            refine (Hl.Move_calls hI16 1).mono ?_
                            rintro e w25 ⟨rfl, hI25, k25⟩
                            have hF25 := hF16.trans k25
                            have c025 := hI25.c0
                            have c125 := hI25.c1
                            have c225 := hI25.c2
                            have c325 := hI25.c3
                            have c425 := hI25.c4
                            have c525 := hI25.c5
                            have c825 := hI25.c8
                            have f25 := hI25.f
                            obtain ⟨At25, nt25, ct25, hct25, hSt25⟩ := hI25.ct
                            obtain ⟨Aa25, na25, ca25, hca25, hSa25⟩ := hI25.ca
                            go_wp2_with fail
                            go_roundg k
                            case measure => exact Nat.lt_succ_self _
                            case rel => exact ⟨mv p15 1, H, ⟨hI25⟩, ⟨hF25⟩⟩
                case rest =>
                  as_aux_lemma =>
                    obtain ⟨gI, gF⟩ := hcut
                    have hI27 := gI.out; have hF27 := gF.out; clear gI gF
                    have c027 := hI27.c0
                    have c127 := hI27.c1
                    have c227 := hI27.c2
                    have c327 := hI27.c3
                    have c427 := hI27.c4
                    have c527 := hI27.c5
                    have c827 := hI27.c8
                    have f27 := hI27.f
                    obtain ⟨At27, nt27, ct27, hct27, hSt27⟩ := hI27.ct
                    obtain ⟨Aa27, na27, ca27, hca27, hSa27⟩ := hI27.ca
                    have H := HC14; clear HC14 H1
                    obtain ⟨u28, A29, HN⟩ := H.bind; clear H; have H := HN; clear HN
                    go_wp2_with fail
                    refine (Hl.LexemeV_calls hI27 u28 A29).mono ?_
                    rintro e w30 ⟨⟨A31, n31, c31, rfl, hS31⟩, hI30, k30⟩
                    have hF30 := hF27.trans k30
                    have c030 := hI30.c0
                    have c130 := hI30.c1
                    have c230 := hI30.c2
                    have c330 := hI30.c3
                    have c430 := hI30.c4
                    have c530 := hI30.c5
                    have c830 := hI30.c8
                    have f30 := hI30.f
                    obtain ⟨At30, nt30, ct30, hct30, hSt30⟩ := hI30.ct
                    obtain ⟨Aa30, na30, ca30, hca30, hSa30⟩ := hI30.ca
                    obtain ⟨u32, AA32, HN⟩ := H.bind; clear H; have H := HN; clear HN
                    obtain ⟨A32, n32, c32, hS32, hq32⟩ := cut_lo hS31 (wrap64 ((ps p3 s4) + 2)) u32 AA32
                    go_wp2_with fail
                    refine (Hl.Copy_calls hI30 hS32).mono ?_
                    rintro e w33 ⟨⟨A34, n34, c34, rfl, hS34⟩, hI33, k33⟩
                    have hF33 := hF30.trans k33
                    have c033 := hI33.c0
                    have c133 := hI33.c1
                    have c233 := hI33.c2
                    have c333 := hI33.c3
                    have c433 := hI33.c4
                    have c533 := hI33.c5
                    have c833 := hI33.c8
                    have f33 := hI33.f
                    obtain ⟨At33, nt33, ct33, hct33, hSt33⟩ := hI33.ct
                    obtain ⟨Aa33, na33, ca33, hca33, hSa33⟩ := hI33.ca
                    obtain ⟨u35, A36, HN⟩ := H.bind; clear H; have H := HN; clear HN
                    go_wp2_with fail
                    refine (Lower_cp hS34 u35 A36).mono ?_
                    rintro e w' ⟨rfl, rfl⟩
                    obtain ⟨h37, A38, HN⟩ := H.bind; clear H; have H := HN; clear HN
                    go_wp2_with fail
                    refine (Hl.HashC_calls hI33 hS34 h37 A38).mono ?_
                    rintro e w39 ⟨rfl, hI39, k39⟩
                    have hF39 := hF33.trans k39
                    have c039 := hI39.c0
                    have c139 := hI39.c1
                    have c239 := hI39.c2
                    have c339 := hI39.c3
                    have c439 := hI39.c4
                    have c539 := hI39.c5
                    have c839 := hI39.c8
                    have f39 := hI39.f
                    obtain ⟨At39, nt39, ct39, hct39, hSt39⟩ := hI39.ct
                    obtain ⟨Aa39, na39, ca39, hca39, hSa39⟩ := hI39.ca
                    by_cases e40 : (h37 == rt) = true
                    · 
                      replace H := H.pos e40
                      as_aux_lemma =>
                        have e40n : (h37 != rt) = false := by simp only [bne, e40, Bool.not_true]
                        go_wp2_with fail
                        refine (Hl.Rewind_calls hI39 (ps p3 s4)).mono ?_
                        rintro e w41 ⟨rfl, hI41, k41⟩
                        have hF41 := hF39.trans k41
                        have c041 := hI41.c0
                        have c141 := hI41.c1
                        have c241 := hI41.c2
                        have c341 := hI41.c3
                        have c441 := hI41.c4
                        have c541 := hI41.c5
                        have c841 := hI41.c8
                        have f41 := hI41.f
                        obtain ⟨At41, nt41, ct41, hct41, hSt41⟩ := hI41.ct
                        obtain ⟨Aa41, na41, ca41, hca41, hSa41⟩ := hI41.ca
                        obtain ⟨u42, A43, HN⟩ := H.bind; clear H; have H := HN; clear HN
                        go_wp2_with fail
                        refine (Hl.Shift_calls hI41 u42 A43).mono ?_
                        rintro e w44 ⟨rfl, hI44, k44⟩
                        have hF44 := hF41.trans k44
                        have c044 := hI44.c0
                        have c144 := hI44.c1
                        have c244 := hI44.c2
                        have c344 := hI44.c3
                        have c444 := hI44.c4
                        have c544 := hI44.c5
                        have c844 := hI44.c8
                        have f44 := hI44.f
                        obtain ⟨At44, nt44, ct44, hct44, hSt44⟩ := hI44.ct
                        obtain ⟨Aa44, na44, ca44, hca44, hSa44⟩ := hI44.ca
                        go_wp2_with fail
                        go_ret
                        obtain ⟨rfl, rfl, rfl, rfl⟩ := H.p4
                        exact ⟨(by first | rfl | simp), hI44, hF44⟩
                    ·
                      replace H := H.neg e40
                      replace e40 := Bool.eq_false_iff.mpr e40
                      have e40n : (h37 != rt) = true := by simp only [bne, e40, Bool.not_false]
                      go_wp2_with fail
                      go_roundg k
                      case measure => exact Nat.lt_succ_self _
                      case rel => exact ⟨p26, s4, H, ⟨hI39⟩, ⟨hF39⟩⟩
            ·
              replace H := H.neg e11
              replace e11 := Bool.eq_false_iff.mpr e11
              have e11n : (c9 != 47) = true := by simp only [bne, e11, Bool.not_false]
              obtain ⟨b55, H1, HC45⟩ := H.bind; clear H
              go_upto_region 17 with fail
              go_cut [144] (fun v144 w' => v144 = .bool b55 ∧ wr = w')
              case first =>
                as_aux_lemma =>
                  have H := H1; clear H1
                  by_cases e46 : (rt == 2566) = true
                  · 
                    replace H := H.pos e46
                    as_aux_lemma =>
                      have e46n : (rt != 2566) = false := by simp only [bne, e46, Bool.not_true]
                      obtain ⟨c47, A48, HN⟩ := H.bind; clear H; have H := HN; clear HN
                      go_wp2_with fail
                      refine (Hl.Peek_calls hI5 1 c47 A48).mono ?_
                      rintro e w' ⟨rfl, rfl⟩
                      by_cases e49 : (c47 == 33) = true
                      · 
                        replace H := H.pos e49
                        as_aux_lemma =>
                          have e49n : (c47 != 33) = false := by simp only [bne, e49, Bool.not_true]
                          obtain ⟨c50, A51, HN⟩ := H.bind; clear H; have H := HN; clear HN
                          go_wp2_with fail
                          refine (Hl.Peek_calls hI5 2 c50 A51).mono ?_
                          rintro e w' ⟨rfl, rfl⟩
                          by_cases e52 : (c50 == 45) = true
                          · 
                            replace H := H.pos e52
                            as_aux_lemma =>
                              have e52n : (c50 != 45) = false := by simp only [bne, e52, Bool.not_true]
                              obtain ⟨c53, A54, HN⟩ := H.bind; clear H; have H := HN; clear HN
                              go_wp2_with fail
                              refine (Hl.Peek_calls hI5 3 c53 A54).mono ?_
                              rintro e w' ⟨rfl, rfl⟩
                              obtain rfl := H.p1
                              go_wp2_with fail
                              go_meet
                              case rel => exact ⟨(by first | rfl | simp), rfl⟩
                          ·
                            replace H := H.neg e52
                            replace e52 := Bool.eq_false_iff.mpr e52
                            have e52n : (c50 != 45) = true := by simp only [bne, e52, Bool.not_false]
                            obtain rfl := H.p1
                            go_wp2_with fail
                            go_meet
                            case rel => exact ⟨(by first | rfl | simp), rfl⟩
                      ·
                        replace H := H.neg e49
                        replace e49 := Bool.eq_false_iff.mpr e49
                        have e49n : (c47 != 33) = true := by simp only [bne, e49, Bool.not_false]
                        obtain rfl := H.p1
                        go_wp2_with fail
                        go_meet
                        case rel => exact ⟨(by first | rfl | simp), rfl⟩
                  ·
                    replace H := H.neg e46
                    replace e46 := Bool.eq_false_iff.mpr e46
                    have e46n : (rt != 2566) = true := by simp only [bne, e46, Bool.not_false]
                    obtain rfl := H.p1
                    go_wp2_with fail
                    go_meet
                    case rel => exact ⟨(by first | rfl | simp), rfl⟩
              case rest =>
                as_aux_lemma =>
                  obtain ⟨rfl, rfl⟩ := hcut
                  have H := HC45; clear HC45 H1
                  cases b55 with
                  | true =>
                    replace H := H.tt
                    exact H.no
                  | false =>
                    replace H := H.ff
                    go_wp2_with fail
                    refine (Hl.Move_calls hI5 1).mono ?_
                    rintro e w56 ⟨rfl, hI56, k56⟩
                    have hF56 := hF5.trans k56
                    have c056 := hI56.c0
                    have c156 := hI56.c1
                    have c256 := hI56.c2
                    have c356 := hI56.c3
                    have c456 := hI56.c4
                    have c556 := hI56.c5
                    have c856 := hI56.c8
                    have f56 := hI56.f
                    obtain ⟨At56, nt56, ct56, hct56, hSt56⟩ := hI56.ct
                    obtain ⟨Aa56, na56, ca56, hca56, hSa56⟩ := hI56.ca
                    go_wp2_with fail
                    go_roundg k
                    case measure => exact Nat.lt_succ_self _
                    case rel => exact ⟨mv p3 1, s4, H, ⟨hI56⟩, ⟨hF56⟩⟩
        ·
          replace H := H.neg e8
          replace e8 := Bool.eq_false_iff.mpr e8
          have e8n : (c6 != 60) = true := by simp only [bne, e8, Bool.not_false]
          generalize hb58 : ((c6 == 0) && (atEnd B p3 0)) = b63 at H
          have HB58 := Hd.mk hb58; clear hb58
          go_upto_region 48 with fail
          go_cut [318] (fun v318 w' => v318 = .bool b63 ∧ Hd (Hl w' l z b B 179 EA p3 s4 rt tg tl th al ah) ∧ Hd (Fr l z w0 w'))
          case first =>
            as_aux_lemma =>
              clear H
              by_cases e59 : (c6 == 0) = true
              · 
                as_aux_lemma =>
                  have e59n : (c6 != 0) = false := by simp only [bne, e59, Bool.not_true]
                  by_cases e60 : (atEnd B p3 0) = true
                  · 
                    as_aux_lemma =>
                      go_wp2_with fail
                      refine (Hl.Err_end_calls hI5 e60).mono ?_
                      rintro e w61 ⟨rfl, hI61, k61⟩
                      have hF61 := hF5.trans k61
                      have c061 := hI61.c0
                      have c161 := hI61.c1
                      have c261 := hI61.c2
                      have c361 := hI61.c3
                      have c461 := hI61.c4
                      have c561 := hI61.c5
                      have c861 := hI61.c8
                      have f61 := hI61.f
                      obtain ⟨At61, nt61, ct61, hct61, hSt61⟩ := hI61.ct
                      obtain ⟨Aa61, na61, ca61, hca61, hSa61⟩ := hI61.ca
                      go_wp2_with fail
                      go_meet
                      case rel => exact ⟨by rw [← HB58.out, e59, e60]; first | rfl | simp, ⟨hI61⟩, ⟨hF61⟩⟩
                  ·
                    replace e60 := Bool.eq_false_iff.mpr e60
                    go_wp2_with fail
                    refine (Hl.Err_not_calls hI5 e60).mono ?_
                    rintro e w62 ⟨rfl, hI62, k62⟩
                    have hF62 := hF5.trans k62
                    have c062 := hI62.c0
                    have c162 := hI62.c1
                    have c262 := hI62.c2
                    have c362 := hI62.c3
                    have c462 := hI62.c4
                    have c562 := hI62.c5
                    have c862 := hI62.c8
                    have f62 := hI62.f
                    obtain ⟨At62, nt62, ct62, hct62, hSt62⟩ := hI62.ct
                    obtain ⟨Aa62, na62, ca62, hca62, hSa62⟩ := hI62.ca
                    go_wp2_with fail
                    go_meet
                    case rel => exact ⟨by rw [← HB58.out, e59, e60]; first | rfl | simp, ⟨hI62⟩, ⟨hF62⟩⟩
              ·
                replace e59 := Bool.eq_false_iff.mpr e59
                have e59n : (c6 != 0) = true := by simp only [bne, e59, Bool.not_false]
                go_wp2_with fail
                go_meet
                case rel => exact ⟨by rw [← HB58.out, e59]; first | rfl | simp, ⟨hI5⟩, ⟨hF5⟩⟩
          case rest =>
            as_aux_lemma =>
              obtain ⟨rfl, gI, gF⟩ := hcut
              have hI64 := gI.out; have hF64 := gF.out; clear gI gF
              have c064 := hI64.c0
              have c164 := hI64.c1
              have c264 := hI64.c2
              have c364 := hI64.c3
              have c464 := hI64.c4
              have c564 := hI64.c5
              have c864 := hI64.c8
              have f64 := hI64.f
              obtain ⟨At64, nt64, ct64, hct64, hSt64⟩ := hI64.ct
              obtain ⟨Aa64, na64, ca64, hca64, hSa64⟩ := hI64.ca
              cases b63 with
              | true =>
                replace H := H.tt
                obtain ⟨u65, A66, HN⟩ := H.bind; clear H; have H := HN; clear HN
                go_wp2_with fail
                refine (Hl.Shift_calls hI64 u65 A66).mono ?_
                rintro e w67 ⟨rfl, hI67, k67⟩
                have hF67 := hF64.trans k67
                have c067 := hI67.c0
                have c167 := hI67.c1
                have c267 := hI67.c2
                have c367 := hI67.c3
                have c467 := hI67.c4
                have c567 := hI67.c5
                have c867 := hI67.c8
                have f67 := hI67.f
                obtain ⟨At67, nt67, ct67, hct67, hSt67⟩ := hI67.ct
                obtain ⟨Aa67, na67, ca67, hca67, hSa67⟩ := hI67.ca
                go_wp2_with fail
                go_ret
                obtain ⟨rfl, rfl, rfl, rfl⟩ := H.p4
                exact ⟨(by first | rfl | simp), hI67, hF67⟩
              | false =>
                replace H := H.ff
                go_wp2_with fail
                refine (Hl.Move_calls hI64 1).mono ?_
                rintro e w68 ⟨rfl, hI68, k68⟩
                have hF68 := hF64.trans k68
                have c068 := hI68.c0
                have c168 := hI68.c1
                have c268 := hI68.c2
                have c368 := hI68.c3
                have c468 := hI68.c4
                have c568 := hI68.c5
                have c868 := hI68.c8
                have f68 := hI68.f
                obtain ⟨At68, nt68, ct68, hct68, hSt68⟩ := hI68.ct
                obtain ⟨Aa68, na68, ca68, hca68, hSa68⟩ := hI68.ca
                go_wp2_with fail
                go_roundg k
                case measure => exact Nat.lt_succ_self _
                case rel => exact ⟨mv p3 1, s4, H, ⟨hI68⟩, ⟨hF68⟩⟩
end Go.Proofs.YtfcedenofbefcaaGreatDoor
