import Derived.Test.YtfcedenofbefcaaGreatDoorK5
namespace Go.Proofs.YtfcedenofbefcaaGreatDoor
open Go.RowKit
set_option linter.unusedVariables false
set_option linter.unusedSimpArgs false

/-! (*loop.example/pub-g01476/pub/tdxml.Lexer).shiftAttribute -/
def xshiftAttribute.l0 (K : Nat) (B : List Int) : Nat → Int → Option (Int)
  | 0, _ => none
  | k + 1, p145 =>
    (pk B p145 0).bind fun c147 =>
    (if (c147 == 32) = true then (some true) else
    if (c147 == 61) = true then (some true) else
    if (c147 == 62) = true then (some true) else
    if (c147 == 47) = true then ((pk B p145 1).bind fun c154 =>
    if (c154 == 62) = true then (some true) else
    some (c147 == 0)) else
    if (c147 == 63) = true then ((pk B p145 1).bind fun c161 =>
    if (c161 == 62) = true then (some true) else
    some (c147 == 0)) else
    if (c147 == 9) = true then (some true) else
    if (c147 == 10) = true then (some true) else
    if (c147 == 13) = true then (some true) else
    some (c147 == 0)).bind fun b170 =>
    if b170 = true then (some p145) else
    xshiftAttribute.l0 K B k (mv p145 1)
def xshiftAttribute.l1 (K : Nat) (B : List Int) : Nat → Int → Option (Int × Int)
  | 0, _ => none
  | k + 1, p176 =>
    (pk B p176 0).bind fun c178 =>
    if ((((c178 == 32) || (c178 == 9)) || (c178 == 10)) || (c178 == 13)) = true then (xshiftAttribute.l1 K B k (mv p176 1)) else
    some (c178, p176)
def xshiftAttribute.l2 (K : Nat) (B : List Int) : Nat → Int → Option (Int × Int)
  | 0, _ => none
  | k + 1, p193 =>
    (pk B p193 0).bind fun c195 =>
    if ((((c195 == 32) || (c195 == 9)) || (c195 == 10)) || (c195 == 13)) = true then (xshiftAttribute.l2 K B k (mv p193 1)) else
    some (c195, p193)
def xshiftAttribute.l3 (K : Nat) (B : List Int) (x203 : Int) : Nat → Int → Option (Int)
  | 0, _ => none
  | k + 1, p212 =>
    (pk B p212 0).bind fun c214 =>
    if (c214 == x203) = true then (some (mv p212 1)) else
    if (c214 == 0) = true then (some p212) else
    if (((c214 == 9) || (c214 == 10)) || (c214 == 13)) = true then (none) else
    xshiftAttribute.l3 K B x203 k (mv p212 1)
def xshiftAttribute.l4 (K : Nat) (B : List Int) : Nat → Int → Option (Int)
  | 0, _ => none
  | k + 1, p232 =>
    (pk B p232 0).bind fun c234 =>
    (if (c234 == 32) = true then (some true) else
    if (c234 == 62) = true then (some true) else
    if (c234 == 47) = true then ((pk B p232 1).bind fun c240 =>
    if (c240 == 62) = true then (some true) else
    some (c234 == 0)) else
    if (c234 == 63) = true then ((pk B p232 1).bind fun c247 =>
    if (c247 == 62) = true then (some true) else
    some (c234 == 0)) else
    if (c234 == 9) = true then (some true) else
    if (c234 == 10) = true then (some true) else
    if (c234 == 13) = true then (some true) else
    some (c234 == 0)).bind fun b256 =>
    if b256 = true then (some p232) else
    xshiftAttribute.l4 K B k (mv p232 1)
def xshiftAttribute.f (K : Nat) (B : List Int) (p : Int) (s : Int) (tg : Bool) (tl : Int) (th : Int) (al : Int) (ah : Int) : Option (Int × Int × Int × Int × Int × Int × Int × Int) :=
(xshiftAttribute.l0 K B K p).bind fun p172 =>
(xshiftAttribute.l1 K B K p172).bind fun (x186, p187) =>
(if (x186 == 61) = true then ((xshiftAttribute.l2 K B K (mv p187 1)).bind fun (x203, p204) =>
if ((x203 == 34) || (x203 == 39)) = true then ((xshiftAttribute.l3 K B x203 K (mv p204 1)).bind fun p224 =>
(sel B p224 s).bind fun u226 =>
(cutB s p224 (ps p204 s) (p224 - s)).bind fun u230 =>
some (p224, s + (ps p204 s), p224)) else
(xshiftAttribute.l4 K B K p204).bind fun p258 =>
(sel B p258 s).bind fun u260 =>
(cutB s p258 (ps p204 s) (p258 - s)).bind fun u264 =>
some (p258, s + (ps p204 s), p258)) else
some (rwd s (ps p172 s), 0, 0)).bind fun (p266, al267, ah268) =>
(sel B p266 s).bind fun u270 =>
(cutB s p266 (ps p s) (ps p172 s)).bind fun u274 =>
(sel B p266 s).bind fun u275 =>
some (s, p266, p266, p266, s + (ps p s), s + (ps p172 s), al267, ah268)
set_option maxHeartbeats 8000000 in
set_option maxRecDepth 100000 in
theorem xshiftAttribute.calls (K : Nat) {w0 : World} {l z b : Nat} {B : List Int} {EA : Addr} {p s : Int} {tg : Bool} {tl : Int} {th : Int} {al : Int} {ah : Int} (hI0 : Xl w0 l z b B 179 EA p s tg tl th al ah) (r0 : Int) (r1 : Int) (r2 : Int) (r3 : Int) (r4 : Int) (r5 : Int) (r6 : Int) (r7 : Int) (H : Hd (xshiftAttribute.f K B p s tg tl th al ah = some (r0, r1, r2, r3, r4, r5, r6, r7))) :
    Calls Tryz.prog 59 #[.pointer (some ⟨l, 0, none⟩)] w0 fun e w' => e = .returned (slv b r0 r1) ∧ Xl w' l z b B 179 EA r2 r3 tg r4 r5 r6 r7 ∧ Fr l z w0 w' := by
  have hF0 : Fr l z w0 w0 := Fr.refl _ _ w0
  have c00 := hI0.c0
  have c10 := hI0.c1
  have c20 := hI0.c2
  have f0 := hI0.f
  obtain ⟨At0, nt0, ct0, hct0, hSt0⟩ := hI0.ct
  obtain ⟨Aa0, na0, ca0, hca0, hSa0⟩ := hI0.ca
  unfold xshiftAttribute.f at H
  go_enter Tryz.func59, Tryz.ntmps59
  go_wp2_with fail
  refine (Xl.Pos_calls hI0).mono ?_
  rintro e w143 ⟨rfl, hI143, k143⟩
  have hF143 := hF0.trans k143
  have c0143 := hI143.c0
  have c1143 := hI143.c1
  have c2143 := hI143.c2
  have f143 := hI143.f
  obtain ⟨At143, nt143, ct143, hct143, hSt143⟩ := hI143.ct
  obtain ⟨Aa143, na143, ca143, hca143, hSa143⟩ := hI143.ca
  obtain ⟨p172, H1, HC144⟩ := H.bind; clear H
  go_upto_block 0 with fail
  go_cut [] (fun w' => Hd (Xl w' l z b B 179 EA p172 s tg tl th al ah) ∧ Hd (Fr l z w0 w'))
  case first =>
    go_wp2_with fail
    go_loopg [] K (fun gk w' => ∃ (p145 : Int), Hd (xshiftAttribute.l0 K B gk p145 = some p172) ∧ Hd (Xl w' l z b B 179 EA p145 s tg tl th al ah) ∧ Hd (Fr l z w0 w'))
    case atStart => exact ⟨p, H1, ⟨hI143⟩, ⟨hF143⟩⟩
    case round =>
      clear H1
      obtain ⟨p145, H, gI, gF⟩ := hrel
      have hI146 := gI.out; have hF146 := gF.out; clear gI gF
      have c0146 := hI146.c0
      have c1146 := hI146.c1
      have c2146 := hI146.c2
      have f146 := hI146.f
      obtain ⟨At146, nt146, ct146, hct146, hSt146⟩ := hI146.ct
      obtain ⟨Aa146, na146, ca146, hca146, hSa146⟩ := hI146.ca
      cases gk with
      | zero => exact absurd H.out (by simp [xshiftAttribute.l0])
      | succ k =>
        simp only [xshiftAttribute.l0] at H
        obtain ⟨c147, A148, HN⟩ := H.bind; clear H; have H := HN; clear HN
        go_wp2_with fail
        refine (Xl.Peek_calls hI146 0 c147 A148).mono ?_
        rintro e w' ⟨rfl, rfl⟩
        obtain ⟨b170, H1, HC149⟩ := H.bind; clear H
        go_upto_region 4 with fail
        go_cut [59] (fun v59 w' => v59 = .bool b170 ∧ wr = w')
        case first =>
          as_aux_lemma =>
            have H := H1; clear H1
            by_cases e150 : (c147 == 32) = true
            · 
              replace H := H.pos e150
              have e150n : (c147 != 32) = false := by simp only [bne, e150, Bool.not_true]
              obtain rfl := H.p1
              go_wp2_with fail
              go_meet
              case rel => exact ⟨(by first | rfl | simp), rfl⟩
            ·
              replace H := H.neg e150
              replace e150 := Bool.eq_false_iff.mpr e150
              have e150n : (c147 != 32) = true := by simp only [bne, e150, Bool.not_false]
              by_cases e151 : (c147 == 61) = true
              · 
                replace H := H.pos e151
                have e151n : (c147 != 61) = false := by simp only [bne, e151, Bool.not_true]
                obtain rfl := H.p1
                go_wp2_with fail
                go_meet
                case rel => exact ⟨(by first | rfl | simp), rfl⟩
              ·
                replace H := H.neg e151
                replace e151 := Bool.eq_false_iff.mpr e151
                have e151n : (c147 != 61) = true := by simp only [bne, e151, Bool.not_false]
                by_cases e152 : (c147 == 62) = true
                · 
                  replace H := H.pos e152
                  have e152n : (c147 != 62) = false := by simp only [bne, e152, Bool.not_true]
                  obtain rfl := H.p1
                  go_wp2_with fail
                  go_meet
                  case rel => exact ⟨(by first | rfl | simp), rfl⟩
                ·
                  replace H := H.neg e152
                  replace e152 := Bool.eq_false_iff.mpr e152
                  have e152n : (c147 != 62) = true := by simp only [bne, e152, Bool.not_false]
                  by_cases e153 : (c147 == 47) = true
                  · 
                    replace H := H.pos e153
                    as_aux_lemma =>
                      have e153n : (c147 != 47) = false := by simp only [bne, e153, Bool.not_true]
                      obtain ⟨c154, A155, HN⟩ := H.bind; clear H; have H := HN; clear HN
                      go_wp2_with fail
                      refine (Xl.Peek_calls hI146 1 c154 A155).mono ?_
                      rintro e w' ⟨rfl, rfl⟩
                      by_cases e156 : (c154 == 62) = true
                      · 
                        replace H := H.pos e156
                        have e156n : (c154 != 62) = false := by simp only [bne, e156, Bool.not_true]
                        obtain rfl := H.p1
                        go_wp2_with fail
                        go_meet
                        case rel => exact ⟨(by first | rfl | simp), rfl⟩
                      ·
                        replace H := H.neg e156
                        replace e156 := Bool.eq_false_iff.mpr e156
                        have e156n : (c154 != 62) = true := by simp only [bne, e156, Bool.not_false]
                        have e157 : (c147 == 9) = false := beq_eq_false_iff_ne.mpr (by have := beq_iff_eq.mp e153; omega)
                        have e157n : (c147 != 9) = true := by simp only [bne, e157, Bool.not_false]
                        have e158 : (c147 == 10) = false := beq_eq_false_iff_ne.mpr (by have := beq_iff_eq.mp e153; omega)
                        have e158n : (c147 != 10) = true := by simp only [bne, e158, Bool.not_false]
                        have e159 : (c147 == 13) = false := beq_eq_false_iff_ne.mpr (by have := beq_iff_eq.mp e153; omega)
                        have e159n : (c147 != 13) = true := by simp only [bne, e159, Bool.not_false]
                        obtain rfl := H.p1
                        go_wp2_with fail
                        go_meet
                        case rel => exact ⟨(by first | rfl | simp), rfl⟩
                  ·
                    replace H := H.neg e153
                    replace e153 := Bool.eq_false_iff.mpr e153
                    have e153n : (c147 != 47) = true := by simp only [bne, e153, Bool.not_false]
                    by_cases e160 : (c147 == 63) = true
                    · 
                      replace H := H.pos e160
                      as_aux_lemma =>
                        have e160n : (c147 != 63) = false := by simp only [bne, e160, Bool.not_true]
                        obtain ⟨c161, A162, HN⟩ := H.bind; clear H; have H := HN; clear HN
                        go_wp2_with fail
                        refine (Xl.Peek_calls hI146 1 c161 A162).mono ?_
                        rintro e w' ⟨rfl, rfl⟩
                        by_cases e163 : (c161 == 62) = true
                        · 
                          replace H := H.pos e163
                          have e163n : (c161 != 62) = false := by simp only [bne, e163, Bool.not_true]
                          obtain rfl := H.p1
                          go_wp2_with fail
                          go_meet
                          case rel => exact ⟨(by first | rfl | simp), rfl⟩
                        ·
                          replace H := H.neg e163
                          replace e163 := Bool.eq_false_iff.mpr e163
                          have e163n : (c161 != 62) = true := by simp only [bne, e163, Bool.not_false]
                          have e164 : (c147 == 9) = false := beq_eq_false_iff_ne.mpr (by have := beq_iff_eq.mp e160; omega)
                          have e164n : (c147 != 9) = true := by simp only [bne, e164, Bool.not_false]
                          have e165 : (c147 == 10) = false := beq_eq_false_iff_ne.mpr (by have := beq_iff_eq.mp e160; omega)
                          have e165n : (c147 != 10) = true := by simp only [bne, e165, Bool.not_false]
                          have e166 : (c147 == 13) = false := beq_eq_false_iff_ne.mpr (by have := beq_iff_eq.mp e160; omega)
                          have e166n : (c147 != 13) = true := by simp only [bne, e166, Bool.not_false]
                          obtain rfl := H.p1
                          go_wp2_with fail
                          go_meet
                          case rel => exact ⟨(by first | rfl | simp), rfl⟩
                    ·
                      replace H := H.neg e160
                      replace e160 := Bool.eq_false_iff.mpr e160
                      have e160n : (c147 != 63) = true := by simp only [bne, e160, Bool.not_false]
                      by_cases e167 : (c147 == 9) = true
                      · 
                        replace H := H.pos e167
                        have e167n : (c147 != 9) = false := by simp only [bne, e167, Bool.not_true]
                        obtain rfl := H.p1
                        go_wp2_with fail
                        go_meet
                        case rel => exact ⟨(by first | rfl | simp), rfl⟩
                      ·
                        replace H := H.neg e167
                        replace e167 := Bool.eq_false_iff.mpr e167
                        have e167n : (c147 != 9) = true := by simp only [bne, e167, Bool.not_false]
                        by_cases e168 : (c147 == 10) = true
                        · 
                          replace H := H.pos e168
                          have e168n : (c147 != 10) = false := by simp only [bne, e168, Bool.not_true]
                          obtain rfl := H.p1
                          go_wp2_with fail
                          go_meet
                          case rel => exact ⟨(by first | rfl | simp), rfl⟩
                        ·
                          replace H := H.neg e168
                          replace e168 := Bool.eq_false_iff.mpr e168
                          have e168n : (c147 != 10) = true := by simp only [bne, e168, Bool.not_false]
                          by_cases e169 : (c147 == 13) = true
                          · 
                            replace H := H.pos e169
                            have e169n : (c147 != 13) = false := by simp only [bne, e169, Bool.not_true]
                            obtain rfl := H.p1
                            go_wp2_with fail
                            go_meet
                            case rel => exact ⟨(by first | rfl | simp), rfl⟩
                          ·
                            replace H := H.neg e169
                            replace e169 := Bool.eq_false_iff.mpr e169
                            have e169n : (c147 != 13) = true := by simp only [bne, e169, Bool.not_false]
                            obtain rfl := H.p1
                            go_wp2_with fail
                            go_meet
                            case rel => exact ⟨(by first | rfl | simp), rfl⟩
        case rest =>
          as_aux_lemma =>
            obtain ⟨rfl, rfl⟩ := hcut
            have H := HC149; clear HC149 H1
            cases b170 with
            | true =>
              replace H := H.tt
              obtain rfl := H.p1
              go_wp2_with fail
              go_meet
              case rel => exact ⟨⟨hI146⟩, ⟨hF146⟩⟩
            | false =>
              replace H := H.ff
              go_wp2_with fail
              refine (Xl.Move_calls hI146 1).mono ?_
              rintro e w171 ⟨rfl, hI171, k171⟩
              have hF171 := hF146.trans k171
              have c0171 := hI171.c0
              have c1171 := hI171.c1
              have c2171 := hI171.c2
              have f171 := hI171.f
              obtain ⟨At171, nt171, ct171, hct171, hSt171⟩ := hI171.ct
              obtain ⟨Aa171, na171, ca171, hca171, hSa171⟩ := hI171.ca
              go_wp2_with fail
              go_roundg k
              case measure => exact Nat.lt_succ_self _
              case rel => exact ⟨mv p145 1, H, ⟨hI171⟩, ⟨hF171⟩⟩
  case rest =>
    as_aux_lemma =>
      obtain ⟨gI, gF⟩ := hcut
      have hI173 := gI.out; have hF173 := gF.out; clear gI gF
      have c0173 := hI173.c0
      have c1173 := hI173.c1
      have c2173 := hI173.c2
      have f173 := hI173.f
      obtain ⟨At173, nt173, ct173, hct173, hSt173⟩ := hI173.ct
      obtain ⟨Aa173, na173, ca173, hca173, hSa173⟩ := hI173.ca
      have H := HC144; clear HC144 H1
      go_wp2_with fail
      refine (Xl.Pos_calls hI173).mono ?_
      rintro e w174 ⟨rfl, hI174, k174⟩
      have hF174 := hF173.trans k174
      have c0174 := hI174.c0
      have c1174 := hI174.c1
      have c2174 := hI174.c2
      have f174 := hI174.f
      obtain ⟨At174, nt174, ct174, hct174, hSt174⟩ := hI174.ct
      obtain ⟨Aa174, na174, ca174, hca174, hSa174⟩ := hI174.ca
      obtain ⟨⟨x186, p187⟩, H1, HC175⟩ := H.bind; clear H
      try dsimp only at HC175
      go_upto_block 2 with fail
      go_cut [4] (fun v4 w' => v4 = .int .u8 x186 ∧ Hd (Xl w' l z b B 179 EA p187 s tg tl th al ah) ∧ Hd (Fr l z w0 w'))
      case first =>
        go_wp2_with fail
        go_loopg [] K (fun gk w' => ∃ (p176 : Int), Hd (xshiftAttribute.l1 K B gk p176 = some (x186, p187)) ∧ Hd (Xl w' l z b B 179 EA p176 s tg tl th al ah) ∧ Hd (Fr l z w0 w'))
        case atStart => exact ⟨p172, H1, ⟨hI174⟩, ⟨hF174⟩⟩
        case round =>
          clear H1
          obtain ⟨p176, H, gI, gF⟩ := hrel
          have hI177 := gI.out; have hF177 := gF.out; clear gI gF
          have c0177 := hI177.c0
          have c1177 := hI177.c1
          have c2177 := hI177.c2
          have f177 := hI177.f
          obtain ⟨At177, nt177, ct177, hct177, hSt177⟩ := hI177.ct
          obtain ⟨Aa177, na177, ca177, hca177, hSa177⟩ := hI177.ca
          cases gk with
          | zero => exact absurd H.out (by simp [xshiftAttribute.l1])
          | succ k =>
            simp only [xshiftAttribute.l1] at H
            obtain ⟨c178, A179, HN⟩ := H.bind; clear H; have H := HN; clear HN
            go_wp2_with fail
            refine (Xl.Peek_calls hI177 0 c178 A179).mono ?_
            rintro e w' ⟨rfl, rfl⟩
            generalize hb180 : ((((c178 == 32) || (c178 == 9)) || (c178 == 10)) || (c178 == 13)) = b184 at H
            have HB180 := Hd.mk hb180; clear hb180
            go_upto_region 8 with fail
            go_cut [88] (fun v88 w' => v88 = .bool b184 ∧ wr = w')
            case first =>
              as_aux_lemma =>
                clear H
                by_cases e181 : (c178 == 32) = true
                · 
                  have e181n : (c178 != 32) = false := by simp only [bne, e181, Bool.not_true]
                  go_wp2_with fail
                  go_meet
                  case rel => exact ⟨by rw [← HB180.out, e181]; first | rfl | simp, rfl⟩
                ·
                  replace e181 := Bool.eq_false_iff.mpr e181
                  have e181n : (c178 != 32) = true := by simp only [bne, e181, Bool.not_false]
                  by_cases e182 : (c178 == 9) = true
                  · 
                    have e182n : (c178 != 9) = false := by simp only [bne, e182, Bool.not_true]
                    go_wp2_with fail
                    go_meet
                    case rel => exact ⟨by rw [← HB180.out, e181, e182]; first | rfl | simp, rfl⟩
                  ·
                    replace e182 := Bool.eq_false_iff.mpr e182
                    have e182n : (c178 != 9) = true := by simp only [bne, e182, Bool.not_false]
                    by_cases e183 : (c178 == 10) = true
                    · 
                      have e183n : (c178 != 10) = false := by simp only [bne, e183, Bool.not_true]
                      go_wp2_with fail
                      go_meet
                      case rel => exact ⟨by rw [← HB180.out, e181, e182, e183]; first | rfl | simp, rfl⟩
                    ·
                      replace e183 := Bool.eq_false_iff.mpr e183
                      have e183n : (c178 != 10) = true := by simp only [bne, e183, Bool.not_false]
                      go_wp2_with fail
                      go_meet
                      case rel => exact ⟨by rw [← HB180.out, e181, e182, e183]; first | rfl | simp, rfl⟩
            case rest =>
              as_aux_lemma =>
                obtain ⟨rfl, rfl⟩ := hcut
                cases b184 with
                | true =>
                  replace H := H.tt
                  go_wp2_with fail
                  refine (Xl.Move_calls hI177 1).mono ?_
                  rintro e w185 ⟨rfl, hI185, k185⟩
                  have hF185 := hF177.trans k185
                  have c0185 := hI185.c0
                  have c1185 := hI185.c1
                  have c2185 := hI185.c2
                  have f185 := hI185.f
                  obtain ⟨At185, nt185, ct185, hct185, hSt185⟩ := hI185.ct
                  obtain ⟨Aa185, na185, ca185, hca185, hSa185⟩ := hI185.ca
                  go_wp2_with fail
                  go_roundg k
                  case measure => exact Nat.lt_succ_self _
                  case rel => exact ⟨mv p176 1, H, ⟨hI185⟩, ⟨hF185⟩⟩
                | false =>
                  replace H := H.ff
                  obtain ⟨rfl, rfl⟩ := H.p2
                  go_wp2_with fail
                  go_meet
                  case rel => exact ⟨(by first | rfl | simp), ⟨hI177⟩, ⟨hF177⟩⟩
      case rest =>
        as_aux_lemma =>
          obtain ⟨rfl, gI, gF⟩ := hcut
          have hI188 := gI.out; have hF188 := gF.out; clear gI gF
          have c0188 := hI188.c0
          have c1188 := hI188.c1
          have c2188 := hI188.c2
          have f188 := hI188.f
          obtain ⟨At188, nt188, ct188, hct188, hSt188⟩ := hI188.ct
          obtain ⟨Aa188, na188, ca188, hca188, hSa188⟩ := hI188.ca
          have H := HC175; clear HC175 H1
          obtain ⟨⟨p266, al267, ah268⟩, H1, HC189⟩ := H.bind; clear H
          try dsimp only at HC189
          go_upto_if 95 with fail
          go_cut [] (fun w' => Hd (Xl w' l z b B 179 EA p266 s tg tl th al267 ah268) ∧ Hd (Fr l z w0 w'))
          case first =>
            as_aux_lemma =>
              have H := H1; clear H1
              by_cases e190 : (x186 == 61) = true
              · 
                replace H := H.pos e190
                as_aux_lemma =>
                  have e190n : (x186 != 61) = false := by simp only [bne, e190, Bool.not_true]
                  go_wp2_with fail
                  refine (Xl.Move_calls hI188 1).mono ?_
                  rintro e w191 ⟨rfl, hI191, k191⟩
                  have hF191 := hF188.trans k191
                  have c0191 := hI191.c0
                  have c1191 := hI191.c1
                  have c2191 := hI191.c2
                  have f191 := hI191.f
                  obtain ⟨At191, nt191, ct191, hct191, hSt191⟩ := hI191.ct
                  obtain ⟨Aa191, na191, ca191, hca191, hSa191⟩ := hI191.ca
                  obtain ⟨⟨x203, p204⟩, H1, HC192⟩ := H.bind; clear H
                  try dsimp only at HC192
                  go_upto_block 4 with fail
                  go_cut [4] (fun v4 w' => v4 = .int .u8 x203 ∧ Hd (Xl w' l z b B 179 EA p204 s tg tl th al ah) ∧ Hd (Fr l z w0 w'))
                  case first =>
                    go_wp2_with fail
                    go_loopg [] K (fun gk w' => ∃ (p193 : Int), Hd (xshiftAttribute.l2 K B gk p193 = some (x203, p204)) ∧ Hd (Xl w' l z b B 179 EA p193 s tg tl th al ah) ∧ Hd (Fr l z w0 w'))
                    case atStart => exact ⟨mv p187 1, H1, ⟨hI191⟩, ⟨hF191⟩⟩
                    case round =>
                      clear H1
                      obtain ⟨p193, H, gI, gF⟩ := hrel
                      have hI194 := gI.out; have hF194 := gF.out; clear gI gF
                      have c0194 := hI194.c0
                      have c1194 := hI194.c1
                      have c2194 := hI194.c2
                      have f194 := hI194.f
                      obtain ⟨At194, nt194, ct194, hct194, hSt194⟩ := hI194.ct
                      obtain ⟨Aa194, na194, ca194, hca194, hSa194⟩ := hI194.ca
                      cases gk with
                      | zero => exact absurd H.out (by simp [xshiftAttribute.l2])
                      | succ k =>
                        simp only [xshiftAttribute.l2] at H
                        obtain ⟨c195, A196, HN⟩ := H.bind; clear H; have H := HN; clear HN
                        go_wp2_with fail
                        refine (Xl.Peek_calls hI194 0 c195 A196).mono ?_
                        rintro e w' ⟨rfl, rfl⟩
                        generalize hb197 : ((((c195 == 32) || (c195 == 9)) || (c195 == 10)) || (c195 == 13)) = b201 at H
                        have HB197 := Hd.mk hb197; clear hb197
                        go_upto_region 13 with fail
                        go_cut [119] (fun v119 w' => v119 = .bool b201 ∧ wr = w')
                        case first =>
                          as_aux_lemma =>
                            clear H
                            by_cases e198 : (c195 == 32) = true
                            · 
                              have e198n : (c195 != 32) = false := by simp only [bne, e198, Bool.not_true]
                              go_wp2_with fail
                              go_meet
                              case rel => exact ⟨by rw [← HB197.out, e198]; first | rfl | simp, rfl⟩
                            ·
                              replace e198 := Bool.eq_false_iff.mpr e198
                              have e198n : (c195 != 32) = true := by simp only [bne, e198, Bool.not_false]
                              by_cases e199 : (c195 == 9) = true
                              · 
                                have e199n : (c195 != 9) = false := by simp only [bne, e199, Bool.not_true]
                                go_wp2_with fail
                                go_meet
                                case rel => exact ⟨by rw [← HB197.out, e198, e199]; first | rfl | simp, rfl⟩
                              ·
                                replace e199 := Bool.eq_false_iff.mpr e199
                                have e199n : (c195 != 9) = true := by simp only [bne, e199, Bool.not_false]
                                by_cases e200 : (c195 == 10) = true
                                · 
                                  have e200n : (c195 != 10) = false := by simp only [bne, e200, Bool.not_true]
                                  go_wp2_with fail
                                  go_meet
                                  case rel => exact ⟨by rw [← HB197.out, e198, e199, e200]; first | rfl | simp, rfl⟩
                                ·
                                  replace e200 := Bool.eq_false_iff.mpr e200
                                  have e200n : (c195 != 10) = true := by simp only [bne, e200, Bool.not_false]
                                  go_wp2_with fail
                                  go_meet
                                  case rel => exact ⟨by rw [← HB197.out, e198, e199, e200]; first | rfl | simp, rfl⟩
                        case rest =>
                          as_aux_lemma =>
                            obtain ⟨rfl, rfl⟩ := hcut
                            cases b201 with
                            | true =>
                              replace H := H.tt
                              go_wp2_with fail
                              refine (Xl.Move_calls hI194 1).mono ?_
                              rintro e w202 ⟨rfl, hI202, k202⟩
                              have hF202 := hF194.trans k202
                              have c0202 := hI202.c0
                              have c1202 := hI202.c1
                              have c2202 := hI202.c2
                              have f202 := hI202.f
                              obtain ⟨At202, nt202, ct202, hct202, hSt202⟩ := hI202.ct
                              obtain ⟨Aa202, na202, ca202, hca202, hSa202⟩ := hI202.ca
                              go_wp2_with fail
                              go_roundg k
                              case measure => exact Nat.lt_succ_self _
                              case rel => exact ⟨mv p193 1, H, ⟨hI202⟩, ⟨hF202⟩⟩
                            | false =>
                              replace H := H.ff
                              obtain ⟨rfl, rfl⟩ := H.p2
                              go_wp2_with fail
                              go_meet
                              case rel => exact ⟨(by first | rfl | simp), ⟨hI194⟩, ⟨hF194⟩⟩
                  case rest =>
                    as_aux_lemma =>
                      obtain ⟨rfl, gI, gF⟩ := hcut
                      have hI205 := gI.out; have hF205 := gF.out; clear gI gF
                      have c0205 := hI205.c0
                      have c1205 := hI205.c1
                      have c2205 := hI205.c2
                      have f205 := hI205.f
                      obtain ⟨At205, nt205, ct205, hct205, hSt205⟩ := hI205.ct
                      obtain ⟨Aa205, na205, ca205, hca205, hSa205⟩ := hI205.ca
                      have H := HC192; clear HC192 H1
                      go_wp2_with fail
                      refine (Xl.Pos_calls hI205).mono ?_
                      rintro e w206 ⟨rfl, hI206, k206⟩
                      have hF206 := hF205.trans k206
                      have c0206 := hI206.c0
                      have c1206 := hI206.c1
                      have c2206 := hI206.c2
                      have f206 := hI206.f
                      obtain ⟨At206, nt206, ct206, hct206, hSt206⟩ := hI206.ct
                      obtain ⟨Aa206, na206, ca206, hca206, hSa206⟩ := hI206.ca
                      generalize hb207 : ((x203 == 34) || (x203 == 39)) = b209 at H
                      have HB207 := Hd.mk hb207; clear hb207
                      go_upto_region 17 with fail
                      go_cut [136] (fun v136 w' => v136 = .bool b209 ∧ w206 = w')
                      case first =>
                        clear H
                        by_cases e208 : (x203 == 34) = true
                        · 
                          have e208n : (x203 != 34) = false := by simp only [bne, e208, Bool.not_true]
                          go_wp2_with fail
                          go_meet
                          case rel => exact ⟨by rw [← HB207.out, e208]; first | rfl | simp, rfl⟩
                        ·
                          replace e208 := Bool.eq_false_iff.mpr e208
                          have e208n : (x203 != 34) = true := by simp only [bne, e208, Bool.not_false]
                          go_wp2_with fail
                          go_meet
                          case rel => exact ⟨by rw [← HB207.out, e208]; first | rfl | simp, rfl⟩
                      case rest =>
                        as_aux_lemma =>
                          obtain ⟨rfl, rfl⟩ := hcut
                          cases b209 with
                          | true =>
                            replace H := H.tt
                            go_wp2_with fail
                            refine (Xl.Move_calls hI206 1).mono ?_
                            rintro e w210 ⟨rfl, hI210, k210⟩
                            have hF210 := hF206.trans k210
                            have c0210 := hI210.c0
                            have c1210 := hI210.c1
                            have c2210 := hI210.c2
                            have f210 := hI210.f
                            obtain ⟨At210, nt210, ct210, hct210, hSt210⟩ := hI210.ct
                            obtain ⟨Aa210, na210, ca210, hca210, hSa210⟩ := hI210.ca
                            obtain ⟨p224, H1, HC211⟩ := H.bind; clear H
                            go_upto_block 6 with fail
                            go_cut [] (fun w' => Hd (Xl w' l z b B 179 EA p224 s tg tl th al ah) ∧ Hd (Fr l z w0 w'))
                            case first =>
                              go_wp2_with fail
                              go_loopg [] K (fun gk w' => ∃ (p212 : Int), Hd (xshiftAttribute.l3 K B x203 gk p212 = some p224) ∧ Hd (Xl w' l z b B 179 EA p212 s tg tl th al ah) ∧ Hd (Fr l z w0 w'))
                              case atStart => exact ⟨mv p204 1, H1, ⟨hI210⟩, ⟨hF210⟩⟩
                              case round =>
                                clear H1
                                obtain ⟨p212, H, gI, gF⟩ := hrel
                                have hI213 := gI.out; have hF213 := gF.out; clear gI gF
                                have c0213 := hI213.c0
                                have c1213 := hI213.c1
                                have c2213 := hI213.c2
                                have f213 := hI213.f
                                obtain ⟨At213, nt213, ct213, hct213, hSt213⟩ := hI213.ct
                                obtain ⟨Aa213, na213, ca213, hca213, hSa213⟩ := hI213.ca
                                cases gk with
                                | zero => exact absurd H.out (by simp [xshiftAttribute.l3])
                                | succ k =>
                                  simp only [xshiftAttribute.l3] at H
                                  obtain ⟨c214, A215, HN⟩ := H.bind; clear H; have H := HN; clear HN
                                  go_wp2_with fail
                                  refine (Xl.Peek_calls hI213 0 c214 A215).mono ?_
                                  rintro e w' ⟨rfl, rfl⟩
                                  by_cases e216 : (c214 == x203) = true
                                  · 
                                    replace H := H.pos e216
                                    as_aux_lemma =>
                                      have e216n : (c214 != x203) = false := by simp only [bne, e216, Bool.not_true]
                                      go_wp2_with fail
                                      refine (Xl.Move_calls hI213 1).mono ?_
                                      rintro e w217 ⟨rfl, hI217, k217⟩
                                      have hF217 := hF213.trans k217
                                      have c0217 := hI217.c0
                                      have c1217 := hI217.c1
                                      have c2217 := hI217.c2
                                      have f217 := hI217.f
                                      obtain ⟨At217, nt217, ct217, hct217, hSt217⟩ := hI217.ct
                                      obtain ⟨Aa217, na217, ca217, hca217, hSa217⟩ := hI217.ca
                                      obtain rfl := H.p1
                                      go_wp2_with fail
                                      go_meet
                                      case rel => exact ⟨⟨hI217⟩, ⟨hF217⟩⟩
                                  ·
                                    replace H := H.neg e216
                                    replace e216 := Bool.eq_false_iff.mpr e216
                                    have e216n : (c214 != x203) = true := by simp only [bne, e216, Bool.not_false]
                                    by_cases e218 : (c214 == 0) = true
                                    · 
                                      replace H := H.pos e218
                                      have e218n : (c214 != 0) = false := by simp only [bne, e218, Bool.not_true]
                                      obtain rfl := H.p1
                                      go_wp2_with fail
                                      go_meet
                                      case rel => exact ⟨⟨hI213⟩, ⟨hF213⟩⟩
                                    ·
                                      replace H := H.neg e218
                                      replace e218 := Bool.eq_false_iff.mpr e218
                                      have e218n : (c214 != 0) = true := by simp only [bne, e218, Bool.not_false]
                                      go_wp2_with fail
                                      refine (Xl.Move_calls hI213 1).mono ?_
                                      rintro e w219 ⟨rfl, hI219, k219⟩
                                      have hF219 := hF213.trans k219
                                      have c0219 := hI219.c0
                                      have c1219 := hI219.c1
                                      have c2219 := hI219.c2
                                      have f219 := hI219.f
                                      obtain ⟨At219, nt219, ct219, hct219, hSt219⟩ := hI219.ct
                                      obtain ⟨Aa219, na219, ca219, hca219, hSa219⟩ := hI219.ca
                                      generalize hb220 : (((c214 == 9) || (c214 == 10)) || (c214 == 13)) = b223 at H
                                      have HB220 := Hd.mk hb220; clear hb220
                                      go_upto_region 24 with fail
                                      go_cut [171] (fun v171 w' => v171 = .bool b223 ∧ w219 = w')
                                      case first =>
                                        as_aux_lemma =>
                                          clear H
                                          by_cases e221 : (c214 == 9) = true
                                          · 
                                            have e221n : (c214 != 9) = false := by simp only [bne, e221, Bool.not_true]
                                            go_wp2_with fail
                                            go_meet
                                            case rel => exact ⟨by rw [← HB220.out, e221]; first | rfl | simp, rfl⟩
                                          ·
                                            replace e221 := Bool.eq_false_iff.mpr e221
                                            have e221n : (c214 != 9) = true := by simp only [bne, e221, Bool.not_false]
                                            by_cases e222 : (c214 == 10) = true
                                            · 
                                              have e222n : (c214 != 10) = false := by simp only [bne, e222, Bool.not_true]
                                              go_wp2_with fail
                                              go_meet
                                              case rel => exact ⟨by rw [← HB220.out, e221, e222]; first | rfl | simp, rfl⟩
                                            ·
                                              replace e222 := Bool.eq_false_iff.mpr e222
                                              have e222n : (c214 != 10) = true := by simp only [bne, e222, Bool.not_false]
                                              go_wp2_with fail
                                              go_meet
                                              case rel => exact ⟨by rw [← HB220.out, e221, e222]; first | rfl | simp, rfl⟩
                                      case rest =>
                                        obtain ⟨rfl, rfl⟩ := hcut
                                        cases b223 with
                                        | true =>
                                          replace H := H.tt
                                          exact H.no
                                        | false =>
                                          replace H := H.ff
                                          go_wp2_with fail
                                          go_roundg k
                                          case measure => exact Nat.lt_succ_self _
                                          case rel => exact ⟨mv p212 1, H, ⟨hI219⟩, ⟨hF219⟩⟩
                            case rest =>
                              as_aux_lemma =>
                                obtain ⟨gI, gF⟩ := hcut
                                have hI225 := gI.out; have hF225 := gF.out; clear gI gF
                                have c0225 := hI225.c0
                                have c1225 := hI225.c1
                                have c2225 := hI225.c2
                                have f225 := hI225.f
                                obtain ⟨At225, nt225, ct225, hct225, hSt225⟩ := hI225.ct
                                obtain ⟨Aa225, na225, ca225, hca225, hSa225⟩ := hI225.ca
                                have H := HC211; clear HC211 H1
                                obtain ⟨u226, A227, HN⟩ := H.bind; clear H; have H := HN; clear HN
                                go_wp2_with fail
                                refine (Xl.LexemeV_calls hI225 u226 A227).mono ?_
                                rintro e w228 ⟨⟨A229, n229, c229, rfl, hS229⟩, hI228, k228⟩
                                have hF228 := hF225.trans k228
                                have c0228 := hI228.c0
                                have c1228 := hI228.c1
                                have c2228 := hI228.c2
                                have f228 := hI228.f
                                obtain ⟨At228, nt228, ct228, hct228, hSt228⟩ := hI228.ct
                                obtain ⟨Aa228, na228, ca228, hca228, hSa228⟩ := hI228.ca
                                obtain ⟨u230, AA230, HN⟩ := H.bind; clear H; have H := HN; clear HN
                                obtain ⟨A230, n230, c230, hS230, hq230⟩ := cut_lo hS229 (ps p204 s) u230 AA230
                                obtain ⟨rfl, rfl, rfl⟩ := H.p3
                                go_wp2_with fail
                                go_meet
                                case rel => exact ⟨⟨(show Xl _ l z b B 179 EA p224 s tg tl th (s + (ps p204 s)) p224 from by repeat (first | exact hI228 | apply Xl.drewN | apply Xl.drew | apply Xl.alloc | (apply Xl.setText; case hS => first | assumption | exact Sv.nil _ _) | (apply Xl.setAttr; case hS => first | assumption | exact Sv.nil _ _) | (apply Xl.setTextS; case hb => exact sel_of (by assumption)) | (apply Xl.setAttrS; case hb => exact sel_of (by assumption)) | apply Xl.setTag))⟩, ⟨(show Fr l z w0 _ from by repeat (first | exact hF228 | apply Fr.drewN | apply Fr.drew | apply Fr.alloc | apply Fr.setl))⟩⟩
                          | false =>
                            replace H := H.ff
                            obtain ⟨p258, H1, HC231⟩ := H.bind; clear H
                            go_upto_block 8 with fail
                            go_cut [] (fun w' => Hd (Xl w' l z b B 179 EA p258 s tg tl th al ah) ∧ Hd (Fr l z w0 w'))
                            case first =>
                              go_wp2_with fail
                              go_loopg [] K (fun gk w' => ∃ (p232 : Int), Hd (xshiftAttribute.l4 K B gk p232 = some p258) ∧ Hd (Xl w' l z b B 179 EA p232 s tg tl th al ah) ∧ Hd (Fr l z w0 w'))
                              case atStart => exact ⟨p204, H1, ⟨hI206⟩, ⟨hF206⟩⟩
                              case round =>
                                clear H1
                                obtain ⟨p232, H, gI, gF⟩ := hrel
                                have hI233 := gI.out; have hF233 := gF.out; clear gI gF
                                have c0233 := hI233.c0
                                have c1233 := hI233.c1
                                have c2233 := hI233.c2
                                have f233 := hI233.f
                                obtain ⟨At233, nt233, ct233, hct233, hSt233⟩ := hI233.ct
                                obtain ⟨Aa233, na233, ca233, hca233, hSa233⟩ := hI233.ca
                                cases gk with
                                | zero => exact absurd H.out (by simp [xshiftAttribute.l4])
                                | succ k =>
                                  simp only [xshiftAttribute.l4] at H
                                  obtain ⟨c234, A235, HN⟩ := H.bind; clear H; have H := HN; clear HN
                                  go_wp2_with fail
                                  refine (Xl.Peek_calls hI233 0 c234 A235).mono ?_
                                  rintro e w' ⟨rfl, rfl⟩
                                  obtain ⟨b256, H1, HC236⟩ := H.bind; clear H
                                  go_upto_region 27 with fail
                                  go_cut [226] (fun v226 w' => v226 = .bool b256 ∧ wr = w')
                                  case first =>
                                    as_aux_lemma =>
                                      have H := H1; clear H1
                                      by_cases e237 : (c234 == 32) = true
                                      · 
                                        replace H := H.pos e237
                                        have e237n : (c234 != 32) = false := by simp only [bne, e237, Bool.not_true]
                                        obtain rfl := H.p1
                                        go_wp2_with fail
                                        go_meet
                                        case rel => exact ⟨(by first | rfl | simp), rfl⟩
                                      ·
                                        replace H := H.neg e237
                                        replace e237 := Bool.eq_false_iff.mpr e237
                                        have e237n : (c234 != 32) = true := by simp only [bne, e237, Bool.not_false]
                                        by_cases e238 : (c234 == 62) = true
                                        · 
                                          replace H := H.pos e238
                                          have e238n : (c234 != 62) = false := by simp only [bne, e238, Bool.not_true]
                                          obtain rfl := H.p1
                                          go_wp2_with fail
                                          go_meet
                                          case rel => exact ⟨(by first | rfl | simp), rfl⟩
                                        ·
                                          replace H := H.neg e238
                                          replace e238 := Bool.eq_false_iff.mpr e238
                                          have e238n : (c234 != 62) = true := by simp only [bne, e238, Bool.not_false]
                                          by_cases e239 : (c234 == 47) = true
                                          · 
                                            replace H := H.pos e239
                                            as_aux_lemma =>
                                              have e239n : (c234 != 47) = false := by simp only [bne, e239, Bool.not_true]
                                              obtain ⟨c240, A241, HN⟩ := H.bind; clear H; have H := HN; clear HN
                                              go_wp2_with fail
                                              refine (Xl.Peek_calls hI233 1 c240 A241).mono ?_
                                              rintro e w' ⟨rfl, rfl⟩
                                              by_cases e242 : (c240 == 62) = true
                                              · 
                                                replace H := H.pos e242
                                                have e242n : (c240 != 62) = false := by simp only [bne, e242, Bool.not_true]
                                                obtain rfl := H.p1
                                                go_wp2_with fail
                                                go_meet
                                                case rel => exact ⟨(by first | rfl | simp), rfl⟩
                                              ·
                                                replace H := H.neg e242
                                                replace e242 := Bool.eq_false_iff.mpr e242
                                                have e242n : (c240 != 62) = true := by simp only [bne, e242, Bool.not_false]
                                                have e243 : (c234 == 9) = false := beq_eq_false_iff_ne.mpr (by have := beq_iff_eq.mp e239; omega)
                                                have e243n : (c234 != 9) = true := by simp only [bne, e243, Bool.not_false]
                                                have e244 : (c234 == 10) = false := beq_eq_false_iff_ne.mpr (by have := beq_iff_eq.mp e239; omega)
                                                have e244n : (c234 != 10) = true := by simp only [bne, e244, Bool.not_false]
                                                have e245 : (c234 == 13) = false := beq_eq_false_iff_ne.mpr (by have := beq_iff_eq.mp e239; omega)
                                                have e245n : (c234 != 13) = true := by simp only [bne, e245, Bool.not_false]
                                                obtain rfl := H.p1
                                                go_wp2_with fail
                                                go_meet
                                                case rel => exact ⟨(by first | rfl | simp), rfl⟩
                                          ·
                                            replace H := H.neg e239
                                            replace e239 := Bool.eq_false_iff.mpr e239
                                            have e239n : (c234 != 47) = true := by simp only [bne, e239, Bool.not_false]
                                            by_cases e246 : (c234 == 63) = true
                                            · 
                                              replace H := H.pos e246
                                              as_aux_lemma =>
                                                have e246n : (c234 != 63) = false := by simp only [bne, e246, Bool.not_true]
                                                obtain ⟨c247, A248, HN⟩ := H.bind; clear H; have H := HN; clear HN
                                                go_wp2_with fail
                                                refine (Xl.Peek_calls hI233 1 c247 A248).mono ?_
                                                rintro e w' ⟨rfl, rfl⟩
                                                by_cases e249 : (c247 == 62) = true
                                                · 
                                                  replace H := H.pos e249
                                                  have e249n : (c247 != 62) = false := by simp only [bne, e249, Bool.not_true]
                                                  obtain rfl := H.p1
                                                  go_wp2_with fail
                                                  go_meet
                                                  case rel => exact ⟨(by first | rfl | simp), rfl⟩
                                                ·
                                                  replace H := H.neg e249
                                                  replace e249 := Bool.eq_false_iff.mpr e249
                                                  have e249n : (c247 != 62) = true := by simp only [bne, e249, Bool.not_false]
                                                  have e250 : (c234 == 9) = false := beq_eq_false_iff_ne.mpr (by have := beq_iff_eq.mp e246; omega)
                                                  have e250n : (c234 != 9) = true := by simp only [bne, e250, Bool.not_false]
                                                  have e251 : (c234 == 10) = false := beq_eq_false_iff_ne.mpr (by have := beq_iff_eq.mp e246; omega)
                                                  have e251n : (c234 != 10) = true := by simp only [bne, e251, Bool.not_false]
                                                  have e252 : (c234 == 13) = false := beq_eq_false_iff_ne.mpr (by have := beq_iff_eq.mp e246; omega)
                                                  have e252n : (c234 != 13) = true := by simp only [bne, e252, Bool.not_false]
                                                  obtain rfl := H.p1
                                                  go_wp2_with fail
                                                  go_meet
                                                  case rel => exact ⟨(by first | rfl | simp), rfl⟩
                                            ·
                                              replace H := H.neg e246
                                              replace e246 := Bool.eq_false_iff.mpr e246
                                              have e246n : (c234 != 63) = true := by simp only [bne, e246, Bool.not_false]
                                              by_cases e253 : (c234 == 9) = true
                                              · 
                                                replace H := H.pos e253
                                                have e253n : (c234 != 9) = false := by simp only [bne, e253, Bool.not_true]
                                                obtain rfl := H.p1
                                                go_wp2_with fail
                                                go_meet
                                                case rel => exact ⟨(by first | rfl | simp), rfl⟩
                                              ·
                                                replace H := H.neg e253
                                                replace e253 := Bool.eq_false_iff.mpr e253
                                                have e253n : (c234 != 9) = true := by simp only [bne, e253, Bool.not_false]
                                                by_cases e254 : (c234 == 10) = true
                                                · 
                                                  replace H := H.pos e254
                                                  have e254n : (c234 != 10) = false := by simp only [bne, e254, Bool.not_true]
                                                  obtain rfl := H.p1
                                                  go_wp2_with fail
                                                  go_meet
                                                  case rel => exact ⟨(by first | rfl | simp), rfl⟩
                                                ·
                                                  replace H := H.neg e254
                                                  replace e254 := Bool.eq_false_iff.mpr e254
                                                  have e254n : (c234 != 10) = true := by simp only [bne, e254, Bool.not_false]
                                                  by_cases e255 : (c234 == 13) = true
                                                  · 
                                                    replace H := H.pos e255
                                                    have e255n : (c234 != 13) = false := by simp only [bne, e255, Bool.not_true]
                                                    obtain rfl := H.p1
                                                    go_wp2_with fail
                                                    go_meet
                                                    case rel => exact ⟨(by first | rfl | simp), rfl⟩
                                                  ·
                                                    replace H := H.neg e255
                                                    replace e255 := Bool.eq_false_iff.mpr e255
                                                    have e255n : (c234 != 13) = true := by simp only [bne, e255, Bool.not_false]
                                                    obtain rfl := H.p1
                                                    go_wp2_with fail
                                                    go_meet
                                                    case rel => exact ⟨(by first | rfl | simp), rfl⟩
                                  case rest =>
                                    as_aux_lemma =>
                                      obtain ⟨rfl, rfl⟩ := hcut
                                      have H := HC236; clear HC236 H1
                                      cases b256 with
                                      | true =>
                                        replace H := H.tt
                                        obtain rfl := H.p1
                                        go_wp2_with fail
                                        go_meet
                                        case rel => exact ⟨⟨hI233⟩, ⟨hF233⟩⟩
                                      | false =>
                                        replace H := H.ff
                                        go_wp2_with fail
                                        refine (Xl.Move_calls hI233 1).mono ?_
                                        rintro e w257 ⟨rfl, hI257, k257⟩
                                        have hF257 := hF233.trans k257
                                        have c0257 := hI257.c0
                                        have c1257 := hI257.c1
                                        have c2257 := hI257.c2
                                        have f257 := hI257.f
                                        obtain ⟨At257, nt257, ct257, hct257, hSt257⟩ := hI257.ct
                                        obtain ⟨Aa257, na257, ca257, hca257, hSa257⟩ := hI257.ca
                                        go_wp2_with fail
                                        go_roundg k
                                        case measure => exact Nat.lt_succ_self _
                                        case rel => exact ⟨mv p232 1, H, ⟨hI257⟩, ⟨hF257⟩⟩
                            case rest =>
                              as_aux_lemma =>
                                obtain ⟨gI, gF⟩ := hcut
                                have hI259 := gI.out; have hF259 := gF.out; clear gI gF
                                have c0259 := hI259.c0
                                have c1259 := hI259.c1
                                have c2259 := hI259.c2
                                have f259 := hI259.f
                                obtain ⟨At259, nt259, ct259, hct259, hSt259⟩ := hI259.ct
                                obtain ⟨Aa259, na259, ca259, hca259, hSa259⟩ := hI259.ca
                                have H := HC231; clear HC231 H1
                                obtain ⟨u260, A261, HN⟩ := H.bind; clear H; have H := HN; clear HN
                                go_wp2_with fail
                                refine (Xl.LexemeV_calls hI259 u260 A261).mono ?_
                                rintro e w262 ⟨⟨A263, n263, c263, rfl, hS263⟩, hI262, k262⟩
                                have hF262 := hF259.trans k262
                                have c0262 := hI262.c0
                                have c1262 := hI262.c1
                                have c2262 := hI262.c2
                                have f262 := hI262.f
                                obtain ⟨At262, nt262, ct262, hct262, hSt262⟩ := hI262.ct
                                obtain ⟨Aa262, na262, ca262, hca262, hSa262⟩ := hI262.ca
                                obtain ⟨u264, AA264, HN⟩ := H.bind; clear H; have H := HN; clear HN
                                obtain ⟨A264, n264, c264, hS264, hq264⟩ := cut_lo hS263 (ps p204 s) u264 AA264
                                obtain ⟨rfl, rfl, rfl⟩ := H.p3
                                go_wp2_with fail
                                go_meet
                                case rel => exact ⟨⟨(show Xl _ l z b B 179 EA p258 s tg tl th (s + (ps p204 s)) p258 from by repeat (first | exact hI262 | apply Xl.drewN | apply Xl.drew | apply Xl.alloc | (apply Xl.setText; case hS => first | assumption | exact Sv.nil _ _) | (apply Xl.setAttr; case hS => first | assumption | exact Sv.nil _ _) | (apply Xl.setTextS; case hb => exact sel_of (by assumption)) | (apply Xl.setAttrS; case hb => exact sel_of (by assumption)) | apply Xl.setTag))⟩, ⟨(show Fr l z w0 _ from by repeat (first | exact hF262 | apply Fr.drewN | apply Fr.drew | apply Fr.alloc | apply Fr.setl))⟩⟩
              ·
                replace H := H.neg e190
                replace e190 := Bool.eq_false_iff.mpr e190
                have e190n : (x186 != 61) = true := by simp only [bne, e190, Bool.not_false]
                go_wp2_with fail
                refine (Xl.Rewind_calls hI188 (ps p172 s)).mono ?_
                rintro e w265 ⟨rfl, hI265, k265⟩
                have hF265 := hF188.trans k265
                have c0265 := hI265.c0
                have c1265 := hI265.c1
                have c2265 := hI265.c2
                have f265 := hI265.f
                obtain ⟨At265, nt265, ct265, hct265, hSt265⟩ := hI265.ct
                obtain ⟨Aa265, na265, ca265, hca265, hSa265⟩ := hI265.ca
                obtain ⟨rfl, rfl, rfl⟩ := H.p3
                go_wp2_with fail
                go_meet
                case rel => exact ⟨⟨(show Xl _ l z b B 179 EA (rwd s (ps p172 s)) s tg tl th 0 0 from by repeat (first | exact hI265 | apply Xl.drewN | apply Xl.drew | apply Xl.alloc | (apply Xl.setText; case hS => first | assumption | exact Sv.nil _ _) | (apply Xl.setAttr; case hS => first | assumption | exact Sv.nil _ _) | (apply Xl.setTextS; case hb => exact sel_of (by assumption)) | (apply Xl.setAttrS; case hb => exact sel_of (by assumption)) | apply Xl.setTag))⟩, ⟨(show Fr l z w0 _ from by repeat (first | exact hF265 | apply Fr.drewN | apply Fr.drew | apply Fr.alloc | apply Fr.setl))⟩⟩
          case rest =>
            as_aux_lemma =>
              obtain ⟨gI, gF⟩ := hcut
              have hI269 := gI.out; have hF269 := gF.out; clear gI gF
              have c0269 := hI269.c0
              have c1269 := hI269.c1
              have c2269 := hI269.c2
              have f269 := hI269.f
              obtain ⟨At269, nt269, ct269, hct269, hSt269⟩ := hI269.ct
              obtain ⟨Aa269, na269, ca269, hca269, hSa269⟩ := hI269.ca
              have H := HC189; clear HC189 H1
              obtain ⟨u270, A271, HN⟩ := H.bind; clear H; have H := HN; clear HN
              go_wp2_with fail
              refine (Xl.LexemeV_calls hI269 u270 A271).mono ?_
              rintro e w272 ⟨⟨A273, n273, c273, rfl, hS273⟩, hI272, k272⟩
              have hF272 := hF269.trans k272
              have c0272 := hI272.c0
              have c1272 := hI272.c1
              have c2272 := hI272.c2
              have f272 := hI272.f
              obtain ⟨At272, nt272, ct272, hct272, hSt272⟩ := hI272.ct
              obtain ⟨Aa272, na272, ca272, hca272, hSa272⟩ := hI272.ca
              obtain ⟨u274, AA274, HN⟩ := H.bind; clear H; have H := HN; clear HN
              obtain ⟨A274, n274, c274, hS274, hq274⟩ := cut_lh hS273 (ps p s) (ps p172 s) u274 AA274
              obtain ⟨u275, A276, HN⟩ := H.bind; clear H; have H := HN; clear HN
              go_wp2_with fail
              refine (Xl.Shift_calls (show Xl _ l z b B 179 EA p266 s tg (s + (ps p s)) (s + (ps p172 s)) al267 ah268 from by repeat (first | exact hI272 | apply Xl.drewN | apply Xl.drew | apply Xl.alloc | (apply Xl.setText; case hS => first | assumption | exact Sv.nil _ _) | (apply Xl.setAttr; case hS => first | assumption | exact Sv.nil _ _) | (apply Xl.setTextS; case hb => exact sel_of (by assumption)) | (apply Xl.setAttrS; case hb => exact sel_of (by assumption)) | apply Xl.setTag)) u275 A276).mono ?_
              rintro e w277 ⟨rfl, hI277, k277⟩
              have hF277 := (show Fr l z w0 _ by repeat (first | exact hF272 | apply Fr.drewN | apply Fr.drew | apply Fr.alloc | apply Fr.setl)).trans k277
              have c0277 := hI277.c0
              have c1277 := hI277.c1
              have c2277 := hI277.c2
              have f277 := hI277.f
              obtain ⟨At277, nt277, ct277, hct277, hSt277⟩ := hI277.ct
              obtain ⟨Aa277, na277, ca277, hca277, hSa277⟩ := hI277.ca
              go_wp2_with fail
              go_ret
              obtain ⟨rfl, rfl, rfl, rfl, rfl, rfl, rfl, rfl⟩ := H.p8
              exact ⟨(by first | rfl | simp), hI277, hF277⟩
end Go.Proofs.YtfcedenofbefcaaGreatDoor
