import Derived.Test.YtfcedenofbefcaaGreatDoorKI
namespace Go.Proofs.YtfcedenofbefcaaGreatDoor
open Go.RowKit
set_option linter.unusedVariables false
set_option linter.unusedSimpArgs false

/-! (*loop.example/pub-g01476/pub/tdhtml.Lexer).shiftStartTag -/
def hshiftStartTag.l0 (K : Nat) (B : List Int) : Nat → Int → Option (Int)
  | 0, _ => none
  | k + 1, p203 =>
    (pk B p203 0).bind fun c205 =>
    (if (c205 == 32) = true then (some true) else
    if (c205 == 62) = true then (some true) else
    if (c205 == 47) = true then ((pk B p203 1).bind fun c211 =>
    if (c211 == 62) = true then (some true) else
    some false) else
    if (c205 == 9) = true then (some true) else
    if (c205 == 10) = true then (some true) else
    if (c205 == 13) = true then (some true) else
    if (c205 == 12) = true then (some true) else
    if (c205 == 0) = true then (if (atEnd B p203 0) = true then (some true) else
    some false) else
    some false).bind fun b227 =>
    if b227 = true then (some p203) else
    hshiftStartTag.l0 K B k (mv p203 1)
def hshiftStartTag.f (K : Nat) (B : List Int) (p : Int) (s : Int) (rt : Int) (tg : Bool) (tl : Int) (th : Int) (al : Int) (ah : Int) : Option (Int × Int × Int × Int × Int × Int × Bool × Int × Int) :=
(hshiftStartTag.l0 K B K p).bind fun p230 =>
(sel B p230 s).bind fun u232 =>
(cutB s p230 1 (p230 - s)).bind fun u236 =>
(low B (s + 1) p230).bind fun u237 =>
(hashB B (s + 1) p230).bind fun h239 =>
if ((((((((((h239 == 9736) || (h239 == 3845)) || (h239 == 5125)) || (h239 == 7939)) || (h239 == 6)) || (h239 == 2566)) || (h239 == 8457)) || (h239 == 6403)) || (h239 == 1540)) || (h239 == 7171)) = true then (if (((h239 == 6403) || (h239 == 1540)) || (h239 == 7171)) = true then (none) else
(sel B p230 s).bind fun u257 =>
some (3, s, p230, p230, p230, h239, tg, s + 1, p230)) else
(sel B p230 s).bind fun u260 =>
some (3, s, p230, p230, p230, rt, tg, s + 1, p230)
set_option maxHeartbeats 8000000 in
set_option maxRecDepth 100000 in
theorem hshiftStartTag.calls (K : Nat) {w0 : World} {l z b : Nat} {B : List Int} {EA : Addr} {p s : Int} {rt : Int} {tg : Bool} {tl : Int} {th : Int} {al : Int} {ah : Int} (hI0 : Hl w0 l z b B 179 EA p s rt tg tl th al ah) (r0 : Int) (r1 : Int) (r2 : Int) (r3 : Int) (r4 : Int) (r5 : Int) (r6 : Bool) (r7 : Int) (r8 : Int) (H : Hd (hshiftStartTag.f K B p s rt tg tl th al ah = some (r0, r1, r2, r3, r4, r5, r6, r7, r8))) :
    Calls Tryz.prog 77 #[.pointer (some ⟨l, 0, none⟩)] w0 fun e w' => e = .returned (.tuple #[.int .u32 r0, slv b r1 r2]) ∧ Hl w' l z b B 179 EA r3 r4 r5 r6 r7 r8 al ah ∧ Fr l z w0 w' := by
  have hF0 : Fr l z w0 w0 := Fr.refl _ _ w0
  have c00 := hI0.c0
  have c10 := hI0.c1
  have c20 := hI0.c2
  have c30 := hI0.c3
  have c40 := hI0.c4
  have c50 := hI0.c5
  have c80 := hI0.c8
  have f0 := hI0.f
  obtain ⟨At0, nt0, ct0, hct0, hSt0⟩ := hI0.ct
  obtain ⟨Aa0, na0, ca0, hca0, hSa0⟩ := hI0.ca
  unfold hshiftStartTag.f at H
  go_enter Tryz.func77, Tryz.ntmps77
  obtain ⟨p230, H1, HC202⟩ := H.bind; clear H
  go_upto_block 0 with fail
  go_cut [] (fun w' => Hd (Hl w' l z b B 179 EA p230 s rt tg tl th al ah) ∧ Hd (Fr l z w0 w'))
  case first =>
    go_wp2_with fail
    go_loopg [] K (fun gk w' => ∃ (p203 : Int), Hd (hshiftStartTag.l0 K B gk p203 = some p230) ∧ Hd (Hl w' l z b B 179 EA p203 s rt tg tl th al ah) ∧ Hd (Fr l z w0 w'))
    case atStart => exact ⟨p, H1, ⟨hI0⟩, ⟨hF0⟩⟩
    case round =>
      clear H1
      obtain ⟨p203, H, gI, gF⟩ := hrel
      have hI204 := gI.out; have hF204 := gF.out; clear gI gF
      have c0204 := hI204.c0
      have c1204 := hI204.c1
      have c2204 := hI204.c2
      have c3204 := hI204.c3
      have c4204 := hI204.c4
      have c5204 := hI204.c5
      have c8204 := hI204.c8
      have f204 := hI204.f
      obtain ⟨At204, nt204, ct204, hct204, hSt204⟩ := hI204.ct
      obtain ⟨Aa204, na204, ca204, hca204, hSa204⟩ := hI204.ca
      try clear c00 c10 c20 c30 c40 c50 c80 f0 hct0 hca0
      cases gk with
      | zero => exact absurd H.out (by simp [hshiftStartTag.l0])
      | succ k =>
        simp only [hshiftStartTag.l0] at H
        obtain ⟨c205, A206, HN⟩ := H.bind; clear H; have H := HN; clear HN
        go_wp2_with fail
        refine (Hl.Peek_calls hI204 0 c205 A206).mono ?_
        rintro e w' ⟨rfl, rfl⟩
        obtain ⟨b227, H1, HC207⟩ := H.bind; clear H
        go_upto_region 2 with fail
        go_cut [73] (fun v73 w' => v73 = .bool b227 ∧ Hd (Hl w' l z b B 179 EA p203 s rt tg tl th al ah) ∧ Hd (Fr l z w0 w'))
        case first =>
          have H := H1; clear H1
          by_cases e208 : (c205 == 32) = true
          · 
            replace H := H.pos e208
            have e208n : (c205 != 32) = false := by simp only [bne, e208, Bool.not_true]
            obtain rfl := H.p1
            go_wp2_with fail
            go_meet
            case rel => exact ⟨(by first | rfl | simp), ⟨hI204⟩, ⟨hF204⟩⟩
          ·
            replace H := H.neg e208
            replace e208 := Bool.eq_false_iff.mpr e208
            have e208n : (c205 != 32) = true := by simp only [bne, e208, Bool.not_false]
            by_cases e209 : (c205 == 62) = true
            · 
              replace H := H.pos e209
              have e209n : (c205 != 62) = false := by simp only [bne, e209, Bool.not_true]
              obtain rfl := H.p1
              go_wp2_with fail
              go_meet
              case rel => exact ⟨(by first | rfl | simp), ⟨hI204⟩, ⟨hF204⟩⟩
            ·
              replace H := H.neg e209
              replace e209 := Bool.eq_false_iff.mpr e209
              have e209n : (c205 != 62) = true := by simp only [bne, e209, Bool.not_false]
              by_cases e210 : (c205 == 47) = true
              · 
                replace H := H.pos e210
                have e210n : (c205 != 47) = false := by simp only [bne, e210, Bool.not_true]
                obtain ⟨c211, A212, HN⟩ := H.bind; clear H; have H := HN; clear HN
                go_wp2_with fail
                refine (Hl.Peek_calls hI204 1 c211 A212).mono ?_
                rintro e w' ⟨rfl, rfl⟩
                by_cases e213 : (c211 == 62) = true
                · 
                  replace H := H.pos e213
                  have e213n : (c211 != 62) = false := by simp only [bne, e213, Bool.not_true]
                  obtain rfl := H.p1
                  go_wp2_with fail
                  go_meet
                  case rel => exact ⟨(by first | rfl | simp), ⟨hI204⟩, ⟨hF204⟩⟩
                ·
                  replace H := H.neg e213
                  replace e213 := Bool.eq_false_iff.mpr e213
                  have e213n : (c211 != 62) = true := by simp only [bne, e213, Bool.not_false]
                  have e214 : (c205 == 9) = false := beq_eq_false_iff_ne.mpr (by have := beq_iff_eq.mp e210; omega)
                  have e214n : (c205 != 9) = true := by simp only [bne, e214, Bool.not_false]
                  have e215 : (c205 == 10) = false := beq_eq_false_iff_ne.mpr (by have := beq_iff_eq.mp e210; omega)
                  have e215n : (c205 != 10) = true := by simp only [bne, e215, Bool.not_false]
                  have e216 : (c205 == 13) = false := beq_eq_false_iff_ne.mpr (by have := beq_iff_eq.mp e210; omega)
                  have e216n : (c205 != 13) = true := by simp only [bne, e216, Bool.not_false]
                  have e217 : (c205 == 12) = false := beq_eq_false_iff_ne.mpr (by have := beq_iff_eq.mp e210; omega)
                  have e217n : (c205 != 12) = true := by simp only [bne, e217, Bool.not_false]
                  have e218 : (c205 == 0) = false := beq_eq_false_iff_ne.mpr (by have := beq_iff_eq.mp e210; omega)
                  have e218n : (c205 != 0) = true := by simp only [bne, e218, Bool.not_false]
                  obtain rfl := H.p1
                  go_wp2_with fail
                  go_meet
                  case rel => exact ⟨(by first | rfl | simp), ⟨hI204⟩, ⟨hF204⟩⟩
              ·
                replace H := H.neg e210
                replace e210 := Bool.eq_false_iff.mpr e210
                have e210n : (c205 != 47) = true := by simp only [bne, e210, Bool.not_false]
                by_cases e219 : (c205 == 9) = true
                · 
                  replace H := H.pos e219
                  have e219n : (c205 != 9) = false := by simp only [bne, e219, Bool.not_true]
                  obtain rfl := H.p1
                  go_wp2_with fail
                  go_meet
                  case rel => exact ⟨(by first | rfl | simp), ⟨hI204⟩, ⟨hF204⟩⟩
                ·
                  replace H := H.neg e219
                  replace e219 := Bool.eq_false_iff.mpr e219
                  have e219n : (c205 != 9) = true := by simp only [bne, e219, Bool.not_false]
                  by_cases e220 : (c205 == 10) = true
                  · 
                    replace H := H.pos e220
                    have e220n : (c205 != 10) = false := by simp only [bne, e220, Bool.not_true]
                    obtain rfl := H.p1
                    go_wp2_with fail
                    go_meet
                    case rel => exact ⟨(by first | rfl | simp), ⟨hI204⟩, ⟨hF204⟩⟩
                  ·
                    replace H := H.neg e220
                    replace e220 := Bool.eq_false_iff.mpr e220
                    have e220n : (c205 != 10) = true := by simp only [bne, e220, Bool.not_false]
                    by_cases e221 : (c205 == 13) = true
                    · 
                      replace H := H.pos e221
                      have e221n : (c205 != 13) = false := by simp only [bne, e221, Bool.not_true]
                      obtain rfl := H.p1
                      go_wp2_with fail
                      go_meet
                      case rel => exact ⟨(by first | rfl | simp), ⟨hI204⟩, ⟨hF204⟩⟩
                    ·
                      replace H := H.neg e221
                      replace e221 := Bool.eq_false_iff.mpr e221
                      have e221n : (c205 != 13) = true := by simp only [bne, e221, Bool.not_false]
                      by_cases e222 : (c205 == 12) = true
                      · 
                        replace H := H.pos e222
                        have e222n : (c205 != 12) = false := by simp only [bne, e222, Bool.not_true]
                        obtain rfl := H.p1
                        go_wp2_with fail
                        go_meet
                        case rel => exact ⟨(by first | rfl | simp), ⟨hI204⟩, ⟨hF204⟩⟩
                      ·
                        replace H := H.neg e222
                        replace e222 := Bool.eq_false_iff.mpr e222
                        have e222n : (c205 != 12) = true := by simp only [bne, e222, Bool.not_false]
                        by_cases e223 : (c205 == 0) = true
                        · 
                          replace H := H.pos e223
                          have e223n : (c205 != 0) = false := by simp only [bne, e223, Bool.not_true]
                          by_cases e224 : (atEnd B p203 0) = true
                          · 
                            replace H := H.pos e224
                            go_wp2_with fail
                            refine (Hl.Err_end_calls hI204 e224).mono ?_
                            rintro e w225 ⟨rfl, hI225, k225⟩
                            have hF225 := hF204.trans k225
                            have c0225 := hI225.c0
                            have c1225 := hI225.c1
                            have c2225 := hI225.c2
                            have c3225 := hI225.c3
                            have c4225 := hI225.c4
                            have c5225 := hI225.c5
                            have c8225 := hI225.c8
                            have f225 := hI225.f
                            obtain ⟨At225, nt225, ct225, hct225, hSt225⟩ := hI225.ct
                            obtain ⟨Aa225, na225, ca225, hca225, hSa225⟩ := hI225.ca
                            try clear c0204 c1204 c2204 c3204 c4204 c5204 c8204 f204 hct204 hca204
                            obtain rfl := H.p1
                            go_wp2_with fail
                            go_meet
                            case rel => exact ⟨(by first | rfl | simp), ⟨hI225⟩, ⟨hF225⟩⟩
                          ·
                            replace H := H.neg e224
                            replace e224 := Bool.eq_false_iff.mpr e224
                            go_wp2_with fail
                            refine (Hl.Err_not_calls hI204 e224).mono ?_
                            rintro e w226 ⟨rfl, hI226, k226⟩
                            have hF226 := hF204.trans k226
                            have c0226 := hI226.c0
                            have c1226 := hI226.c1
                            have c2226 := hI226.c2
                            have c3226 := hI226.c3
                            have c4226 := hI226.c4
                            have c5226 := hI226.c5
                            have c8226 := hI226.c8
                            have f226 := hI226.f
                            obtain ⟨At226, nt226, ct226, hct226, hSt226⟩ := hI226.ct
                            obtain ⟨Aa226, na226, ca226, hca226, hSa226⟩ := hI226.ca
                            try clear c0204 c1204 c2204 c3204 c4204 c5204 c8204 f204 hct204 hca204
                            obtain rfl := H.p1
                            go_wp2_with fail
                            go_meet
                            case rel => exact ⟨(by first | rfl | simp), ⟨hI226⟩, ⟨hF226⟩⟩
                        ·
                          replace H := H.neg e223
                          replace e223 := Bool.eq_false_iff.mpr e223
                          have e223n : (c205 != 0) = true := by simp only [bne, e223, Bool.not_false]
                          obtain rfl := H.p1
                          go_wp2_with fail
                          go_meet
                          case rel => exact ⟨(by first | rfl | simp), ⟨hI204⟩, ⟨hF204⟩⟩
        case rest =>
          obtain ⟨rfl, gI, gF⟩ := hcut
          have hI228 := gI.out; have hF228 := gF.out; clear gI gF
          have c0228 := hI228.c0
          have c1228 := hI228.c1
          have c2228 := hI228.c2
          have c3228 := hI228.c3
          have c4228 := hI228.c4
          have c5228 := hI228.c5
          have c8228 := hI228.c8
          have f228 := hI228.f
          obtain ⟨At228, nt228, ct228, hct228, hSt228⟩ := hI228.ct
          obtain ⟨Aa228, na228, ca228, hca228, hSa228⟩ := hI228.ca
          try clear c0204 c1204 c2204 c3204 c4204 c5204 c8204 f204 hct204 hca204
          have H := HC207; clear HC207 H1
          cases b227 with
          | true =>
            replace H := H.tt
            obtain rfl := H.p1
            go_wp2_with fail
            go_meet
            case rel => exact ⟨⟨hI228⟩, ⟨hF228⟩⟩
          | false =>
            replace H := H.ff
            go_wp2_with fail
            refine (Hl.Move_calls hI228 1).mono ?_
            rintro e w229 ⟨rfl, hI229, k229⟩
            have hF229 := hF228.trans k229
            have c0229 := hI229.c0
            have c1229 := hI229.c1
            have c2229 := hI229.c2
            have c3229 := hI229.c3
            have c4229 := hI229.c4
            have c5229 := hI229.c5
            have c8229 := hI229.c8
            have f229 := hI229.f
            obtain ⟨At229, nt229, ct229, hct229, hSt229⟩ := hI229.ct
            obtain ⟨Aa229, na229, ca229, hca229, hSa229⟩ := hI229.ca
            try clear c0228 c1228 c2228 c3228 c4228 c5228 c8228 f228 hct228 hca228
            go_wp2_with fail
            go_roundg k
            case measure => exact Nat.lt_succ_self _
            case rel => exact ⟨mv p203 1, H, ⟨hI229⟩, ⟨hF229⟩⟩
  case rest =>
    obtain ⟨gI, gF⟩ := hcut
    have hI231 := gI.out; have hF231 := gF.out; clear gI gF
    have c0231 := hI231.c0
    have c1231 := hI231.c1
    have c2231 := hI231.c2
    have c3231 := hI231.c3
    have c4231 := hI231.c4
    have c5231 := hI231.c5
    have c8231 := hI231.c8
    have f231 := hI231.f
    obtain ⟨At231, nt231, ct231, hct231, hSt231⟩ := hI231.ct
    obtain ⟨Aa231, na231, ca231, hca231, hSa231⟩ := hI231.ca
    try clear c00 c10 c20 c30 c40 c50 c80 f0 hct0 hca0
    have H := HC202; clear HC202 H1
    obtain ⟨u232, A233, HN⟩ := H.bind; clear H; have H := HN; clear HN
    go_wp2_with fail
    refine (Hl.LexemeV_calls hI231 u232 A233).mono ?_
    rintro e w234 ⟨⟨A235, n235, c235, rfl, hS235⟩, hI234, k234⟩
    have hF234 := hF231.trans k234
    have c0234 := hI234.c0
    have c1234 := hI234.c1
    have c2234 := hI234.c2
    have c3234 := hI234.c3
    have c4234 := hI234.c4
    have c5234 := hI234.c5
    have c8234 := hI234.c8
    have f234 := hI234.f
    obtain ⟨At234, nt234, ct234, hct234, hSt234⟩ := hI234.ct
    obtain ⟨Aa234, na234, ca234, hca234, hSa234⟩ := hI234.ca
    try clear c0231 c1231 c2231 c3231 c4231 c5231 c8231 f231 hct231 hca231
    obtain ⟨u236, AA236, HN⟩ := H.bind; clear H; have H := HN; clear HN
    obtain ⟨A236, n236, c236, hS236, hq236⟩ := cut_lo hS235 1 u236 AA236
    obtain ⟨u237, A238, HN⟩ := H.bind; clear H; have H := HN; clear HN
    go_wp2_with fail
    refine (Lower_sv hI234.inp hS236 u237 A238).mono ?_
    rintro e w' ⟨rfl, rfl⟩
    obtain ⟨h239, A240, HN⟩ := H.bind; clear H; have H := HN; clear HN
    go_wp2_with fail
    refine (Hl.Hash_calls (show Hl _ l z b B 179 EA p230 s rt tg (s + 1) p230 al ah from by repeat (first | exact hI234 | apply Hl.drewN | apply Hl.drew | apply Hl.alloc | (apply Hl.setText; case hS => first | assumption | exact Sv.nil _ _) | (apply Hl.setAttr; case hS => first | assumption | exact Sv.nil _ _) | (apply Hl.setTextS; case hb => exact sel_of (by assumption)) | (apply Hl.setAttrS; case hb => exact sel_of (by assumption)) | apply Hl.setTag | apply Hl.setRaw | apply Hl.setTmpl)) hS236 h239 A240).mono ?_
    rintro e w241 ⟨rfl, hI241, k241⟩
    have hF241 := (show Fr l z w0 _ by repeat (first | exact hF234 | apply Fr.drewN | apply Fr.drew | apply Fr.alloc | apply Fr.setl)).trans k241
    have c0241 := hI241.c0
    have c1241 := hI241.c1
    have c2241 := hI241.c2
    have c3241 := hI241.c3
    have c4241 := hI241.c4
    have c5241 := hI241.c5
    have c8241 := hI241.c8
    have f241 := hI241.f
    obtain ⟨At241, nt241, ct241, hct241, hSt241⟩ := hI241.ct
    obtain ⟨Aa241, na241, ca241, hca241, hSa241⟩ := hI241.ca
    try clear c0234 c1234 c2234 c3234 c4234 c5234 c8234 f234 hct234 hca234
    generalize hb242 : ((((((((((h239 == 9736) || (h239 == 3845)) || (h239 == 5125)) || (h239 == 7939)) || (h239 == 6)) || (h239 == 2566)) || (h239 == 8457)) || (h239 == 6403)) || (h239 == 1540)) || (h239 == 7171)) = b252 at H
    have HB242 := Hd.mk hb242; clear hb242
    go_upto_region 6 with fail
    go_cut [131] (fun v131 w' => v131 = .bool b252 ∧ w241 = w')
    case first =>
      clear H
      by_cases e243 : (h239 == 9736) = true
      · 
        have e243n : (h239 != 9736) = false := by simp only [bne, e243, Bool.not_true]
        go_wp2_with fail
        go_meet
        case rel => exact ⟨by rw [← HB242.out, e243]; first | rfl | simp, rfl⟩
      ·
        replace e243 := Bool.eq_false_iff.mpr e243
        have e243n : (h239 != 9736) = true := by simp only [bne, e243, Bool.not_false]
        by_cases e244 : (h239 == 3845) = true
        · 
          have e244n : (h239 != 3845) = false := by simp only [bne, e244, Bool.not_true]
          go_wp2_with fail
          go_meet
          case rel => exact ⟨by rw [← HB242.out, e243, e244]; first | rfl | simp, rfl⟩
        ·
          replace e244 := Bool.eq_false_iff.mpr e244
          have e244n : (h239 != 3845) = true := by simp only [bne, e244, Bool.not_false]
          by_cases e245 : (h239 == 5125) = true
          · 
            have e245n : (h239 != 5125) = false := by simp only [bne, e245, Bool.not_true]
            go_wp2_with fail
            go_meet
            case rel => exact ⟨by rw [← HB242.out, e243, e244, e245]; first | rfl | simp, rfl⟩
          ·
            replace e245 := Bool.eq_false_iff.mpr e245
            have e245n : (h239 != 5125) = true := by simp only [bne, e245, Bool.not_false]
            by_cases e246 : (h239 == 7939) = true
            · 
              have e246n : (h239 != 7939) = false := by simp only [bne, e246, Bool.not_true]
              go_wp2_with fail
              go_meet
              case rel => exact ⟨by rw [← HB242.out, e243, e244, e245, e246]; first | rfl | simp, rfl⟩
            ·
              replace e246 := Bool.eq_false_iff.mpr e246
              have e246n : (h239 != 7939) = true := by simp only [bne, e246, Bool.not_false]
              by_cases e247 : (h239 == 6) = true
              · 
                have e247n : (h239 != 6) = false := by simp only [bne, e247, Bool.not_true]
                go_wp2_with fail
                go_meet
                case rel => exact ⟨by rw [← HB242.out, e243, e244, e245, e246, e247]; first | rfl | simp, rfl⟩
              ·
                replace e247 := Bool.eq_false_iff.mpr e247
                have e247n : (h239 != 6) = true := by simp only [bne, e247, Bool.not_false]
                by_cases e248 : (h239 == 2566) = true
                · 
                  have e248n : (h239 != 2566) = false := by simp only [bne, e248, Bool.not_true]
                  go_wp2_with fail
                  go_meet
                  case rel => exact ⟨by rw [← HB242.out, e243, e244, e245, e246, e247, e248]; first | rfl | simp, rfl⟩
                ·
                  replace e248 := Bool.eq_false_iff.mpr e248
                  have e248n : (h239 != 2566) = true := by simp only [bne, e248, Bool.not_false]
                  by_cases e249 : (h239 == 8457) = true
                  · 
                    have e249n : (h239 != 8457) = false := by simp only [bne, e249, Bool.not_true]
                    go_wp2_with fail
                    go_meet
                    case rel => exact ⟨by rw [← HB242.out, e243, e244, e245, e246, e247, e248, e249]; first | rfl | simp, rfl⟩
                  ·
                    replace e249 := Bool.eq_false_iff.mpr e249
                    have e249n : (h239 != 8457) = true := by simp only [bne, e249, Bool.not_false]
                    by_cases e250 : (h239 == 6403) = true
                    · 
                      have e250n : (h239 != 6403) = false := by simp only [bne, e250, Bool.not_true]
                      go_wp2_with fail
                      go_meet
                      case rel => exact ⟨by rw [← HB242.out, e243, e244, e245, e246, e247, e248, e249, e250]; first | rfl | simp, rfl⟩
                    ·
                      replace e250 := Bool.eq_false_iff.mpr e250
                      have e250n : (h239 != 6403) = true := by simp only [bne, e250, Bool.not_false]
                      by_cases e251 : (h239 == 1540) = true
                      · 
                        have e251n : (h239 != 1540) = false := by simp only [bne, e251, Bool.not_true]
                        go_wp2_with fail
                        go_meet
                        case rel => exact ⟨by rw [← HB242.out, e243, e244, e245, e246, e247, e248, e249, e250, e251]; first | rfl | simp, rfl⟩
                      ·
                        replace e251 := Bool.eq_false_iff.mpr e251
                        have e251n : (h239 != 1540) = true := by simp only [bne, e251, Bool.not_false]
                        go_wp2_with fail
                        go_meet
                        case rel => exact ⟨by rw [← HB242.out, e243, e244, e245, e246, e247, e248, e249, e250, e251]; first | rfl | simp, rfl⟩
    case rest =>
      obtain ⟨rfl, rfl⟩ := hcut
      cases b252 with
      | true =>
        replace H := H.tt
        generalize hb253 : (((h239 == 6403) || (h239 == 1540)) || (h239 == 7171)) = b256 at H
        have HB253 := Hd.mk hb253; clear hb253
        go_upto_region 7 with fail
        go_cut [141] (fun v141 w' => v141 = .bool b256 ∧ w241 = w')
        case first =>
          clear H
          by_cases e254 : (h239 == 6403) = true
          · 
            have e254n : (h239 != 6403) = false := by simp only [bne, e254, Bool.not_true]
            go_wp2_with fail
            go_meet
            case rel => exact ⟨by rw [← HB253.out, e254]; first | rfl | simp, rfl⟩
          ·
            replace e254 := Bool.eq_false_iff.mpr e254
            have e254n : (h239 != 6403) = true := by simp only [bne, e254, Bool.not_false]
            by_cases e255 : (h239 == 1540) = true
            · 
              have e255n : (h239 != 1540) = false := by simp only [bne, e255, Bool.not_true]
              go_wp2_with fail
              go_meet
              case rel => exact ⟨by rw [← HB253.out, e254, e255]; first | rfl | simp, rfl⟩
            ·
              replace e255 := Bool.eq_false_iff.mpr e255
              have e255n : (h239 != 1540) = true := by simp only [bne, e255, Bool.not_false]
              go_wp2_with fail
              go_meet
              case rel => exact ⟨by rw [← HB253.out, e254, e255]; first | rfl | simp, rfl⟩
        case rest =>
          obtain ⟨rfl, rfl⟩ := hcut
          cases b256 with
          | true =>
            replace H := H.tt
            exact H.no
          | false =>
            replace H := H.ff
            obtain ⟨u257, A258, HN⟩ := H.bind; clear H; have H := HN; clear HN
            go_wp2_with fail
            refine (Hl.Shift_calls (show Hl _ l z b B 179 EA p230 s h239 tg (s + 1) p230 al ah from by repeat (first | exact hI241 | apply Hl.drewN | apply Hl.drew | apply Hl.alloc | (apply Hl.setText; case hS => first | assumption | exact Sv.nil _ _) | (apply Hl.setAttr; case hS => first | assumption | exact Sv.nil _ _) | (apply Hl.setTextS; case hb => exact sel_of (by assumption)) | (apply Hl.setAttrS; case hb => exact sel_of (by assumption)) | apply Hl.setTag | apply Hl.setRaw | apply Hl.setTmpl)) u257 A258).mono ?_
            rintro e w259 ⟨rfl, hI259, k259⟩
            have hF259 := (show Fr l z w0 _ by repeat (first | exact hF241 | apply Fr.drewN | apply Fr.drew | apply Fr.alloc | apply Fr.setl)).trans k259
            have c0259 := hI259.c0
            have c1259 := hI259.c1
            have c2259 := hI259.c2
            have c3259 := hI259.c3
            have c4259 := hI259.c4
            have c5259 := hI259.c5
            have c8259 := hI259.c8
            have f259 := hI259.f
            obtain ⟨At259, nt259, ct259, hct259, hSt259⟩ := hI259.ct
            obtain ⟨Aa259, na259, ca259, hca259, hSa259⟩ := hI259.ca
            try clear c0241 c1241 c2241 c3241 c4241 c5241 c8241 f241 hct241 hca241
            go_wp2_with fail
            go_ret2
            obtain ⟨rfl, rfl, rfl, rfl, rfl, rfl, rfl, rfl, rfl⟩ := H.p9
            exact ⟨(by first | rfl | simp), hI259, hF259⟩
      | false =>
        replace H := H.ff
        obtain ⟨u260, A261, HN⟩ := H.bind; clear H; have H := HN; clear HN
        go_wp2_with fail
        refine (Hl.Shift_calls hI241 u260 A261).mono ?_
        rintro e w262 ⟨rfl, hI262, k262⟩
        have hF262 := hF241.trans k262
        have c0262 := hI262.c0
        have c1262 := hI262.c1
        have c2262 := hI262.c2
        have c3262 := hI262.c3
        have c4262 := hI262.c4
        have c5262 := hI262.c5
        have c8262 := hI262.c8
        have f262 := hI262.f
        obtain ⟨At262, nt262, ct262, hct262, hSt262⟩ := hI262.ct
        obtain ⟨Aa262, na262, ca262, hca262, hSa262⟩ := hI262.ca
        try clear c0241 c1241 c2241 c3241 c4241 c5241 c8241 f241 hct241 hca241
        go_wp2_with fail
        go_ret2
        obtain ⟨rfl, rfl, rfl, rfl, rfl, rfl, rfl, rfl, rfl⟩ := H.p9
        exact ⟨(by first | rfl | simp), hI262, hF262⟩
end Go.Proofs.YtfcedenofbefcaaGreatDoor
