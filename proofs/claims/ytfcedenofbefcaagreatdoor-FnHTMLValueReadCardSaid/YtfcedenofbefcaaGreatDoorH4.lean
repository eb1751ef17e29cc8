import Derived.Test.YtfcedenofbefcaaGreatDoorKI
namespace Go.Proofs.YtfcedenofbefcaaGreatDoor
open Go.RowKit
set_option linter.unusedVariables false
set_option linter.unusedSimpArgs false

/-! (*loop.example/pub-g01476/pub/tdhtml.Lexer).shiftAttribute -/
def hshiftAttribute.l0 (K : Nat) (B : List Int) : Nat → Int → Option (Int)
  | 0, _ => none
  | k + 1, p265 =>
    (pk B p265 0).bind fun c268 =>
    (if (c268 == 32) = true then (some true) else
    if (c268 == 61) = true then (some true) else
    if (c268 == 62) = true then (some true) else
    if (c268 == 47) = true then ((pk B p265 1).bind fun c275 =>
    if (c275 == 62) = true then (some true) else
    some false) else
    if (c268 == 9) = true then (some true) else
    if (c268 == 10) = true then (some true) else
    if (c268 == 13) = true then (some true) else
    if (c268 == 12) = true then (some true) else
    if (c268 == 0) = true then (if (atEnd B p265 0) = true then (some true) else
    some false) else
    some false).bind fun b291 =>
    if b291 = true then (some p265) else
    hshiftAttribute.l0 K B k (mv p265 1)
def hshiftAttribute.l1 (K : Nat) (B : List Int) : Nat → Int → Option (Int × Int)
  | 0, _ => none
  | k + 1, p298 =>
    (pk B p298 0).bind fun c300 =>
    if (((((c300 == 32) || (c300 == 9)) || (c300 == 10)) || (c300 == 13)) || (c300 == 12)) = true then (hshiftAttribute.l1 K B k (mv p298 1)) else
    some (c300, p298)
def hshiftAttribute.l2 (K : Nat) (B : List Int) : Nat → Int → Option (Int × Int)
  | 0, _ => none
  | k + 1, p316 =>
    (pk B p316 0).bind fun c318 =>
    if (((((c318 == 32) || (c318 == 9)) || (c318 == 10)) || (c318 == 13)) || (c318 == 12)) = true then (hshiftAttribute.l2 K B k (mv p316 1)) else
    some (c318, p316)
def hshiftAttribute.l3 (K : Nat) (B : List Int) (x327 : Int) : Nat → Int → Option (Int)
  | 0, _ => none
  | k + 1, p337 =>
    (pk B p337 0).bind fun c339 =>
    if (c339 == x327) = true then (some (mv p337 1)) else
    if ((c339 == 0) && (atEnd B p337 0)) = true then (some p337) else
    hshiftAttribute.l3 K B x327 k (mv p337 1)
def hshiftAttribute.l4 (K : Nat) (B : List Int) : Nat → Int → Option (Int)
  | 0, _ => none
  | k + 1, p360 =>
    (pk B p360 0).bind fun c362 =>
    if ((c362 == 32) || ((c362 == 62) || ((c362 == 9) || ((c362 == 10) || ((c362 == 13) || ((c362 == 12) || ((c362 == 0) && (atEnd B p360 0)))))))) = true then (some p360) else
    hshiftAttribute.l4 K B k (mv p360 1)
def hshiftAttribute.f (K : Nat) (B : List Int) (p : Int) (s : Int) (rt : Int) (tg : Bool) (tl : Int) (th : Int) (al : Int) (ah : Int) : Option (Int × Int × Int × Int × Int × Int × Int × Int) :=
(hshiftAttribute.l0 K B K p).bind fun p294 =>
(hshiftAttribute.l1 K B K p294).bind fun (x309, p310) =>
(if (x309 == 61) = true then ((hshiftAttribute.l2 K B K (mv p310 1)).bind fun (x327, p328) =>
if ((x327 == 34) || (x327 == 39)) = true then ((hshiftAttribute.l3 K B x327 K (mv p328 1)).bind fun p352 =>
(sel B p352 s).bind fun u354 =>
(cutB s p352 (ps p328 s) (p352 - s)).bind fun u358 =>
some (p352, s + (ps p328 s), p352)) else
(hshiftAttribute.l4 K B K p328).bind fun p378 =>
(sel B p378 s).bind fun u380 =>
(cutB s p378 (ps p328 s) (p378 - s)).bind fun u384 =>
some (p378, s + (ps p328 s), p378)) else
some (rwd s (ps p294 s), 0, 0)).bind fun (p386, al387, ah388) =>
(sel B p386 s).bind fun u390 =>
(cutB s p386 (ps p s) (ps p294 s)).bind fun u394 =>
(low B (s + (ps p s)) (s + (ps p294 s))).bind fun u395 =>
(sel B p386 s).bind fun u397 =>
some (s, p386, p386, p386, s + (ps p s), s + (ps p294 s), al387, ah388)
set_option maxHeartbeats 8000000 in
set_option maxRecDepth 100000 in
theorem hshiftAttribute.calls (K : Nat) {w0 : World} {l z b : Nat} {B : List Int} {EA : Addr} {p s : Int} {rt : Int} {tg : Bool} {tl : Int} {th : Int} {al : Int} {ah : Int} (hI0 : Hl w0 l z b B 179 EA p s rt tg tl th al ah) (r0 : Int) (r1 : Int) (r2 : Int) (r3 : Int) (r4 : Int) (r5 : Int) (r6 : Int) (r7 : Int) (H : Hd (hshiftAttribute.f K B p s rt tg tl th al ah = some (r0, r1, r2, r3, r4, r5, r6, r7))) :
    Calls Tryz.prog 70 #[.pointer (some ⟨l, 0, none⟩)] w0 fun e w' => e = .returned (slv b r0 r1) ∧ Hl w' l z b B 179 EA r2 r3 rt tg r4 r5 r6 r7 ∧ Fr l z w0 w' := by
  have hF0 : Fr l z w0 w0 := Fr.refl _ _ w0
  have c00 := hI0.c0
  have c10 := hI0.c1
  have c20 := hI0.c2
  have c30 := hI0.c3
  have c40 := hI0.c4
  have c50 := hI0.c5
  have c80 := hI0.c8
  have f0 := hI0.f
  obtain ⟨At0, nt0, ct0, hct0, hSt0⟩ := hI0.ct
  obtain ⟨Aa0, na0, ca0, hca0, hSa0⟩ := hI0.ca
  unfold hshiftAttribute.f at H
  go_enter Tryz.func70, Tryz.ntmps70
  go_wp2_with fail
  refine (Hl.Pos_calls hI0).mono ?_
  rintro e w263 ⟨rfl, hI263, k263⟩
  have hF263 := hF0.trans k263
  have c0263 := hI263.c0
  have c1263 := hI263.c1
  have c2263 := hI263.c2
  have c3263 := hI263.c3
  have c4263 := hI263.c4
  have c5263 := hI263.c5
  have c8263 := hI263.c8
  have f263 := hI263.f
  obtain ⟨At263, nt263, ct263, hct263, hSt263⟩ := hI263.ct
  obtain ⟨Aa263, na263, ca263, hca263, hSa263⟩ := hI263.ca
  try clear c00 c10 c20 c30 c40 c50 c80 f0 hct0 hca0
  obtain ⟨p294, H1, HC264⟩ := H.bind; clear H
  go_upto_block 2 with fail
  go_cut [] from 4 to 4 (fun w' => Hd (Hl w' l z b B 179 EA p294 s rt tg tl th al ah) ∧ Hd (Fr l z w0 w'))
  case first =>
    go_wp2_with fail
    go_loopg [] K (fun gk w' => ∃ (p265 : Int), Hd (hshiftAttribute.l0 K B gk p265 = some p294) ∧ Hd (Hl w' l z b B 179 EA p265 s rt tg tl th al ah) ∧ Hd (Fr l z w0 w'))
    case atStart => exact ⟨p, H1, ⟨hI263⟩, ⟨hF263⟩⟩
    case round =>
      clear H1
      obtain ⟨p265, H, gI, gF⟩ := hrel
      have hI266 := gI.out; have hF266 := gF.out; clear gI gF
      have c0266 := hI266.c0
      have c1266 := hI266.c1
      have c2266 := hI266.c2
      have c3266 := hI266.c3
      have c4266 := hI266.c4
      have c5266 := hI266.c5
      have c8266 := hI266.c8
      have f266 := hI266.f
      obtain ⟨At266, nt266, ct266, hct266, hSt266⟩ := hI266.ct
      obtain ⟨Aa266, na266, ca266, hca266, hSa266⟩ := hI266.ca
      try clear c0263 c1263 c2263 c3263 c4263 c5263 c8263 f263 hct263 hca263
      cases gk with
      | zero => exact absurd H.out (by simp [hshiftAttribute.l0])
      | succ k =>
        simp only [hshiftAttribute.l0] at H
        obtain ⟨c268, A269, HN⟩ := H.bind; clear H; have H := HN; clear HN
        go_wp2_with fail
        refine (Hl.Peek_calls hI266 0 c268 A269).mono ?_
        rintro e w' ⟨rfl, rfl⟩
        obtain ⟨b291, H1, HC270⟩ := H.bind; clear H
        go_upto_region 13 with fail
        go_cut [126] (fun v126 w' => v126 = .bool b291 ∧ Hd (Hl w' l z b B 179 EA p265 s rt tg tl th al ah) ∧ Hd (Fr l z w0 w'))
        case first =>
          as_aux_lemma =>
            have H := H1; clear H1
            by_cases e271 : (c268 == 32) = true
            · 
              replace H := H.pos e271
              have e271n : (c268 != 32) = false := by simp only [bne, e271, Bool.not_true]
              obtain rfl := H.p1
              go_wp2_with fail
              go_meet
              case rel => exact ⟨(by first | rfl | simp), ⟨hI266⟩, ⟨hF266⟩⟩
            ·
              replace H := H.neg e271
              replace e271 := Bool.eq_false_iff.mpr e271
              have e271n : (c268 != 32) = true := by simp only [bne, e271, Bool.not_false]
              by_cases e272 : (c268 == 61) = true
              · 
                replace H := H.pos e272
                have e272n : (c268 != 61) = false := by simp only [bne, e272, Bool.not_true]
                obtain rfl := H.p1
                go_wp2_with fail
                go_meet
                case rel => exact ⟨(by first | rfl | simp), ⟨hI266⟩, ⟨hF266⟩⟩
              ·
                replace H := H.neg e272
                replace e272 := Bool.eq_false_iff.mpr e272
                have e272n : (c268 != 61) = true := by simp only [bne, e272, Bool.not_false]
                by_cases e273 : (c268 == 62) = true
                · 
                  replace H := H.pos e273
                  have e273n : (c268 != 62) = false := by simp only [bne, e273, Bool.not_true]
                  obtain rfl := H.p1
                  go_wp2_with fail
                  go_meet
                  case rel => exact ⟨(by first | rfl | simp), ⟨hI266⟩, ⟨hF266⟩⟩
                ·
                  replace H := H.neg e273
                  replace e273 := Bool.eq_false_iff.mpr e273
                  have e273n : (c268 != 62) = true := by simp only [bne, e273, Bool.not_false]
                  by_cases e274 : (c268 == 47) = true
                  · 
                    replace H := H.pos e274
                    as_aux_lemma =>
                      have e274n : (c268 != 47) = false := by simp only [bne, e274, Bool.not_true]
                      obtain ⟨c275, A276, HN⟩ := H.bind; clear H; have H := HN; clear HN
                      go_wp2_with fail
                      refine (Hl.Peek_calls hI266 1 c275 A276).mono ?_
                      rintro e w' ⟨rfl, rfl⟩
                      by_cases e277 : (c275 == 62) = true
                      · 
                        replace H := H.pos e277
                        have e277n : (c275 != 62) = false := by simp only [bne, e277, Bool.not_true]
                        obtain rfl := H.p1
                        go_wp2_with fail
                        go_meet
                        case rel => exact ⟨(by first | rfl | simp), ⟨hI266⟩, ⟨hF266⟩⟩
                      ·
                        replace H := H.neg e277
                        replace e277 := Bool.eq_false_iff.mpr e277
                        have e277n : (c275 != 62) = true := by simp only [bne, e277, Bool.not_false]
                        have e278 : (c268 == 9) = false := beq_eq_false_iff_ne.mpr (by have := beq_iff_eq.mp e274; omega)
                        have e278n : (c268 != 9) = true := by simp only [bne, e278, Bool.not_false]
                        have e279 : (c268 == 10) = false := beq_eq_false_iff_ne.mpr (by have := beq_iff_eq.mp e274; omega)
                        have e279n : (c268 != 10) = true := by simp only [bne, e279, Bool.not_false]
                        have e280 : (c268 == 13) = false := beq_eq_false_iff_ne.mpr (by have := beq_iff_eq.mp e274; omega)
                        have e280n : (c268 != 13) = true := by simp only [bne, e280, Bool.not_false]
                        have e281 : (c268 == 12) = false := beq_eq_false_iff_ne.mpr (by have := beq_iff_eq.mp e274; omega)
                        have e281n : (c268 != 12) = true := by simp only [bne, e281, Bool.not_false]
                        have e282 : (c268 == 0) = false := beq_eq_false_iff_ne.mpr (by have := beq_iff_eq.mp e274; omega)
                        have e282n : (c268 != 0) = true := by simp only [bne, e282, Bool.not_false]
                        obtain rfl := H.p1
                        go_wp2_with fail
                        go_meet
                        case rel => exact ⟨(by first | rfl | simp), ⟨hI266⟩, ⟨hF266⟩⟩
                  ·
                    replace H := H.neg e274
                    replace e274 := Bool.eq_false_iff.mpr e274
                    have e274n : (c268 != 47) = true := by simp only [bne, e274, Bool.not_false]
                    by_cases e283 : (c268 == 9) = true
                    · 
                      replace H := H.pos e283
                      have e283n : (c268 != 9) = false := by simp only [bne, e283, Bool.not_true]
                      obtain rfl := H.p1
                      go_wp2_with fail
                      go_meet
                      case rel => exact ⟨(by first | rfl | simp), ⟨hI266⟩, ⟨hF266⟩⟩
                    ·
                      replace H := H.neg e283
                      replace e283 := Bool.eq_false_iff.mpr e283
                      have e283n : (c268 != 9) = true := by simp only [bne, e283, Bool.not_false]
                      by_cases e284 : (c268 == 10) = true
                      · 
                        replace H := H.pos e284
                        have e284n : (c268 != 10) = false := by simp only [bne, e284, Bool.not_true]
                        obtain rfl := H.p1
                        go_wp2_with fail
                        go_meet
                        case rel => exact ⟨(by first | rfl | simp), ⟨hI266⟩, ⟨hF266⟩⟩
                      ·
                        replace H := H.neg e284
                        replace e284 := Bool.eq_false_iff.mpr e284
                        have e284n : (c268 != 10) = true := by simp only [bne, e284, Bool.not_false]
                        by_cases e285 : (c268 == 13) = true
                        · 
                          replace H := H.pos e285
                          have e285n : (c268 != 13) = false := by simp only [bne, e285, Bool.not_true]
                          obtain rfl := H.p1
                          go_wp2_with fail
                          go_meet
                          case rel => exact ⟨(by first | rfl | simp), ⟨hI266⟩, ⟨hF266⟩⟩
                        ·
                          replace H := H.neg e285
                          replace e285 := Bool.eq_false_iff.mpr e285
                          have e285n : (c268 != 13) = true := by simp only [bne, e285, Bool.not_false]
                          by_cases e286 : (c268 == 12) = true
                          · 
                            replace H := H.pos e286
                            have e286n : (c268 != 12) = false := by simp only [bne, e286, Bool.not_true]
                            obtain rfl := H.p1
                            go_wp2_with fail
                            go_meet
                            case rel => exact ⟨(by first | rfl | simp), ⟨hI266⟩, ⟨hF266⟩⟩
                          ·
                            replace H := H.neg e286
                            replace e286 := Bool.eq_false_iff.mpr e286
                            have e286n : (c268 != 12) = true := by simp only [bne, e286, Bool.not_false]
                            by_cases e287 : (c268 == 0) = true
                            · 
                              replace H := H.pos e287
                              as_aux_lemma =>
                                have e287n : (c268 != 0) = false := by simp only [bne, e287, Bool.not_true]
                                by_cases e288 : (atEnd B p265 0) = true
                                · 
                                  replace H := H.pos e288
                                  as_aux_lemma =>
                                    go_wp2_with fail
                                    refine (Hl.Err_end_calls hI266 e288).mono ?_
                                    rintro e w289 ⟨rfl, hI289, k289⟩
                                    have hF289 := hF266.trans k289
                                    have c0289 := hI289.c0
                                    have c1289 := hI289.c1
                                    have c2289 := hI289.c2
                                    have c3289 := hI289.c3
                                    have c4289 := hI289.c4
                                    have c5289 := hI289.c5
                                    have c8289 := hI289.c8
                                    have f289 := hI289.f
                                    obtain ⟨At289, nt289, ct289, hct289, hSt289⟩ := hI289.ct
                                    obtain ⟨Aa289, na289, ca289, hca289, hSa289⟩ := hI289.ca
                                    try clear c0266 c1266 c2266 c3266 c4266 c5266 c8266 f266 hct266 hca266
                                    obtain rfl := H.p1
                                    go_wp2_with fail
                                    go_meet
                                    case rel => exact ⟨(by first | rfl | simp), ⟨hI289⟩, ⟨hF289⟩⟩
                                ·
                                  replace H := H.neg e288
                                  replace e288 := Bool.eq_false_iff.mpr e288
                                  go_wp2_with fail
                                  refine (Hl.Err_not_calls hI266 e288).mono ?_
                                  rintro e w290 ⟨rfl, hI290, k290⟩
                                  have hF290 := hF266.trans k290
                                  have c0290 := hI290.c0
                                  have c1290 := hI290.c1
                                  have c2290 := hI290.c2
                                  have c3290 := hI290.c3
                                  have c4290 := hI290.c4
                                  have c5290 := hI290.c5
                                  have c8290 := hI290.c8
                                  have f290 := hI290.f
                                  obtain ⟨At290, nt290, ct290, hct290, hSt290⟩ := hI290.ct
                                  obtain ⟨Aa290, na290, ca290, hca290, hSa290⟩ := hI290.ca
                                  try clear c0266 c1266 c2266 c3266 c4266 c5266 c8266 f266 hct266 hca266
                                  obtain rfl := H.p1
                                  go_wp2_with fail
                                  go_meet
                                  case rel => exact ⟨(by first | rfl | simp), ⟨hI290⟩, ⟨hF290⟩⟩
                            ·
                              replace H := H.neg e287
                              replace e287 := Bool.eq_false_iff.mpr e287
                              have e287n : (c268 != 0) = true := by simp only [bne, e287, Bool.not_false]
                              obtain rfl := H.p1
                              go_wp2_with fail
                              go_meet
                              case rel => exact ⟨(by first | rfl | simp), ⟨hI266⟩, ⟨hF266⟩⟩
        case rest =>
          as_aux_lemma =>
            obtain ⟨rfl, gI, gF⟩ := hcut
            have hI292 := gI.out; have hF292 := gF.out; clear gI gF
            have c0292 := hI292.c0
            have c1292 := hI292.c1
            have c2292 := hI292.c2
            have c3292 := hI292.c3
            have c4292 := hI292.c4
            have c5292 := hI292.c5
            have c8292 := hI292.c8
            have f292 := hI292.f
            obtain ⟨At292, nt292, ct292, hct292, hSt292⟩ := hI292.ct
            obtain ⟨Aa292, na292, ca292, hca292, hSa292⟩ := hI292.ca
            try clear c0266 c1266 c2266 c3266 c4266 c5266 c8266 f266 hct266 hca266
            have H := HC270; clear HC270 H1
            cases b291 with
            | true =>
              replace H := H.tt
              obtain rfl := H.p1
              go_wp2_with fail
              go_meet
              case rel => exact ⟨⟨hI292⟩, ⟨hF292⟩⟩
            | false =>
              replace H := H.ff
              go_wp2_with fail
              refine (Hl.Move_calls hI292 1).mono ?_
              rintro e w293 ⟨rfl, hI293, k293⟩
              have hF293 := hF292.trans k293
              have c0293 := hI293.c0
              have c1293 := hI293.c1
              have c2293 := hI293.c2
              have c3293 := hI293.c3
              have c4293 := hI293.c4
              have c5293 := hI293.c5
              have c8293 := hI293.c8
              have f293 := hI293.f
              obtain ⟨At293, nt293, ct293, hct293, hSt293⟩ := hI293.ct
              obtain ⟨Aa293, na293, ca293, hca293, hSa293⟩ := hI293.ca
              try clear c0292 c1292 c2292 c3292 c4292 c5292 c8292 f292 hct292 hca292
              go_wp2_with fail
              go_roundg k
              case measure => exact Nat.lt_succ_self _
              case rel => exact ⟨mv p265 1, H, ⟨hI293⟩, ⟨hF293⟩⟩
  case rest =>
    as_aux_lemma =>
      obtain ⟨gI, gF⟩ := hcut
      have hI295 := gI.out; have hF295 := gF.out; clear gI gF
      have c0295 := hI295.c0
      have c1295 := hI295.c1
      have c2295 := hI295.c2
      have c3295 := hI295.c3
      have c4295 := hI295.c4
      have c5295 := hI295.c5
      have c8295 := hI295.c8
      have f295 := hI295.f
      obtain ⟨At295, nt295, ct295, hct295, hSt295⟩ := hI295.ct
      obtain ⟨Aa295, na295, ca295, hca295, hSa295⟩ := hI295.ca
      try clear c0263 c1263 c2263 c3263 c4263 c5263 c8263 f263 hct263 hca263
      have H := HC264; clear HC264 H1
      go_wp2_with fail
      refine (Hl.Pos_calls hI295).mono ?_
      rintro e w296 ⟨rfl, hI296, k296⟩
      have hF296 := hF295.trans k296
      have c0296 := hI296.c0
      have c1296 := hI296.c1
      have c2296 := hI296.c2
      have c3296 := hI296.c3
      have c4296 := hI296.c4
      have c5296 := hI296.c5
      have c8296 := hI296.c8
      have f296 := hI296.f
      obtain ⟨At296, nt296, ct296, hct296, hSt296⟩ := hI296.ct
      obtain ⟨Aa296, na296, ca296, hca296, hSa296⟩ := hI296.ca
      try clear c0295 c1295 c2295 c3295 c4295 c5295 c8295 f295 hct295 hca295
      obtain ⟨⟨x309, p310⟩, H1, HC297⟩ := H.bind; clear H
      try dsimp only at HC297
      go_upto_block 4 with fail
      go_cut [4] from 4 to 4 (fun v4 w' => v4 = .int .u8 x309 ∧ Hd (Hl w' l z b B 179 EA p310 s rt tg tl th al ah) ∧ Hd (Fr l z w0 w'))
      case first =>
        go_wp2_with fail
        go_loopg [] K (fun gk w' => ∃ (p298 : Int), Hd (hshiftAttribute.l1 K B gk p298 = some (x309, p310)) ∧ Hd (Hl w' l z b B 179 EA p298 s rt tg tl th al ah) ∧ Hd (Fr l z w0 w'))
        case atStart => exact ⟨p294, H1, ⟨hI296⟩, ⟨hF296⟩⟩
        case round =>
          clear H1
          obtain ⟨p298, H, gI, gF⟩ := hrel
          have hI299 := gI.out; have hF299 := gF.out; clear gI gF
          have c0299 := hI299.c0
          have c1299 := hI299.c1
          have c2299 := hI299.c2
          have c3299 := hI299.c3
          have c4299 := hI299.c4
          have c5299 := hI299.c5
          have c8299 := hI299.c8
          have f299 := hI299.f
          obtain ⟨At299, nt299, ct299, hct299, hSt299⟩ := hI299.ct
          obtain ⟨Aa299, na299, ca299, hca299, hSa299⟩ := hI299.ca
          try clear c0296 c1296 c2296 c3296 c4296 c5296 c8296 f296 hct296 hca296
          cases gk with
          | zero => exact absurd H.out (by simp [hshiftAttribute.l1])
          | succ k =>
            simp only [hshiftAttribute.l1] at H
            obtain ⟨c300, A301, HN⟩ := H.bind; clear H; have H := HN; clear HN
            go_wp2_with fail
            refine (Hl.Peek_calls hI299 0 c300 A301).mono ?_
            rintro e w' ⟨rfl, rfl⟩
            generalize hb302 : (((((c300 == 32) || (c300 == 9)) || (c300 == 10)) || (c300 == 13)) || (c300 == 12)) = b307 at H
            have HB302 := Hd.mk hb302; clear hb302
            go_upto_region 17 with fail
            go_cut [159] (fun v159 w' => v159 = .bool b307 ∧ wr = w')
            case first =>
              as_aux_lemma =>
                clear H
                by_cases e303 : (c300 == 32) = true
                · 
                  have e303n : (c300 != 32) = false := by simp only [bne, e303, Bool.not_true]
                  go_wp2_with fail
                  go_meet
                  case rel => exact ⟨by rw [← HB302.out, e303]; first | rfl | simp, rfl⟩
                ·
                  replace e303 := Bool.eq_false_iff.mpr e303
                  have e303n : (c300 != 32) = true := by simp only [bne, e303, Bool.not_false]
                  by_cases e304 : (c300 == 9) = true
                  · 
                    have e304n : (c300 != 9) = false := by simp only [bne, e304, Bool.not_true]
                    go_wp2_with fail
                    go_meet
                    case rel => exact ⟨by rw [← HB302.out, e303, e304]; first | rfl | simp, rfl⟩
                  ·
                    replace e304 := Bool.eq_false_iff.mpr e304
                    have e304n : (c300 != 9) = true := by simp only [bne, e304, Bool.not_false]
                    by_cases e305 : (c300 == 10) = true
                    · 
                      have e305n : (c300 != 10) = false := by simp only [bne, e305, Bool.not_true]
                      go_wp2_with fail
                      go_meet
                      case rel => exact ⟨by rw [← HB302.out, e303, e304, e305]; first | rfl | simp, rfl⟩
                    ·
                      replace e305 := Bool.eq_false_iff.mpr e305
                      have e305n : (c300 != 10) = true := by simp only [bne, e305, Bool.not_false]
                      by_cases e306 : (c300 == 13) = true
                      · 
                        have e306n : (c300 != 13) = false := by simp only [bne, e306, Bool.not_true]
                        go_wp2_with fail
                        go_meet
                        case rel => exact ⟨by rw [← HB302.out, e303, e304, e305, e306]; first | rfl | simp, rfl⟩
                      ·
                        replace e306 := Bool.eq_false_iff.mpr e306
                        have e306n : (c300 != 13) = true := by simp only [bne, e306, Bool.not_false]
                        go_wp2_with fail
                        go_meet
                        case rel => exact ⟨by rw [← HB302.out, e303, e304, e305, e306]; first | rfl | simp, rfl⟩
            case rest =>
              as_aux_lemma =>
                obtain ⟨rfl, rfl⟩ := hcut
                cases b307 with
                | true =>
                  replace H := H.tt
                  go_wp2_with fail
                  refine (Hl.Move_calls hI299 1).mono ?_
                  rintro e w308 ⟨rfl, hI308, k308⟩
                  have hF308 := hF299.trans k308
                  have c0308 := hI308.c0
                  have c1308 := hI308.c1
                  have c2308 := hI308.c2
                  have c3308 := hI308.c3
                  have c4308 := hI308.c4
                  have c5308 := hI308.c5
                  have c8308 := hI308.c8
                  have f308 := hI308.f
                  obtain ⟨At308, nt308, ct308, hct308, hSt308⟩ := hI308.ct
                  obtain ⟨Aa308, na308, ca308, hca308, hSa308⟩ := hI308.ca
                  try clear c0299 c1299 c2299 c3299 c4299 c5299 c8299 f299 hct299 hca299
                  go_wp2_with fail
                  go_roundg k
                  case measure => exact Nat.lt_succ_self _
                  case rel => exact ⟨mv p298 1, H, ⟨hI308⟩, ⟨hF308⟩⟩
                | false =>
                  replace H := H.ff
                  obtain ⟨rfl, rfl⟩ := H.p2
                  go_wp2_with fail
                  go_meet
                  case rel => exact ⟨(by first | rfl | simp), ⟨hI299⟩, ⟨hF299⟩⟩
      case rest =>
        as_aux_lemma =>
          obtain ⟨rfl, gI, gF⟩ := hcut
          have hI311 := gI.out; have hF311 := gF.out; clear gI gF
          have c0311 := hI311.c0
          have c1311 := hI311.c1
          have c2311 := hI311.c2
          have c3311 := hI311.c3
          have c4311 := hI311.c4
          have c5311 := hI311.c5
          have c8311 := hI311.c8
          have f311 := hI311.f
          obtain ⟨At311, nt311, ct311, hct311, hSt311⟩ := hI311.ct
          obtain ⟨Aa311, na311, ca311, hca311, hSa311⟩ := hI311.ca
          try clear c0296 c1296 c2296 c3296 c4296 c5296 c8296 f296 hct296 hca296
          have H := HC297; clear HC297 H1
          obtain ⟨⟨p386, al387, ah388⟩, H1, HC312⟩ := H.bind; clear H
          try dsimp only at HC312
          go_upto_if 170 with fail
          go_cut [] from 170 to 170 (fun w' => Hd (Hl w' l z b B 179 EA p386 s rt tg tl th al387 ah388) ∧ Hd (Fr l z w0 w'))
          case first =>
            as_aux_lemma =>
              have H := H1; clear H1
              by_cases e313 : (x309 == 61) = true
              · 
                replace H := H.pos e313
                as_aux_lemma =>
                  have e313n : (x309 != 61) = false := by simp only [bne, e313, Bool.not_true]
                  go_wp2_with fail
                  refine (Hl.Move_calls hI311 1).mono ?_
                  rintro e w314 ⟨rfl, hI314, k314⟩
                  have hF314 := hF311.trans k314
                  have c0314 := hI314.c0
                  have c1314 := hI314.c1
                  have c2314 := hI314.c2
                  have c3314 := hI314.c3
                  have c4314 := hI314.c4
                  have c5314 := hI314.c5
                  have c8314 := hI314.c8
                  have f314 := hI314.f
                  obtain ⟨At314, nt314, ct314, hct314, hSt314⟩ := hI314.ct
                  obtain ⟨Aa314, na314, ca314, hca314, hSa314⟩ := hI314.ca
                  try clear c0311 c1311 c2311 c3311 c4311 c5311 c8311 f311 hct311 hca311
                  obtain ⟨⟨x327, p328⟩, H1, HC315⟩ := H.bind; clear H
                  try dsimp only at HC315
                  go_upto_block 6 with fail
                  go_cut [4] from 4 to 4 (fun v4 w' => v4 = .int .u8 x327 ∧ Hd (Hl w' l z b B 179 EA p328 s rt tg tl th al ah) ∧ Hd (Fr l z w0 w'))
                  case first =>
                    go_wp2_with fail
                    go_loopg [] K (fun gk w' => ∃ (p316 : Int), Hd (hshiftAttribute.l2 K B gk p316 = some (x327, p328)) ∧ Hd (Hl w' l z b B 179 EA p316 s rt tg tl th al ah) ∧ Hd (Fr l z w0 w'))
                    case atStart => exact ⟨mv p310 1, H1, ⟨hI314⟩, ⟨hF314⟩⟩
                    case round =>
                      clear H1
                      obtain ⟨p316, H, gI, gF⟩ := hrel
                      have hI317 := gI.out; have hF317 := gF.out; clear gI gF
                      have c0317 := hI317.c0
                      have c1317 := hI317.c1
                      have c2317 := hI317.c2
                      have c3317 := hI317.c3
                      have c4317 := hI317.c4
                      have c5317 := hI317.c5
                      have c8317 := hI317.c8
                      have f317 := hI317.f
                      obtain ⟨At317, nt317, ct317, hct317, hSt317⟩ := hI317.ct
                      obtain ⟨Aa317, na317, ca317, hca317, hSa317⟩ := hI317.ca
                      try clear c0314 c1314 c2314 c3314 c4314 c5314 c8314 f314 hct314 hca314
                      cases gk with
                      | zero => exact absurd H.out (by simp [hshiftAttribute.l2])
                      | succ k =>
                        simp only [hshiftAttribute.l2] at H
                        obtain ⟨c318, A319, HN⟩ := H.bind; clear H; have H := HN; clear HN
                        go_wp2_with fail
                        refine (Hl.Peek_calls hI317 0 c318 A319).mono ?_
                        rintro e w' ⟨rfl, rfl⟩
                        generalize hb320 : (((((c318 == 32) || (c318 == 9)) || (c318 == 10)) || (c318 == 13)) || (c318 == 12)) = b325 at H
                        have HB320 := Hd.mk hb320; clear hb320
                        go_upto_region 23 with fail
                        go_cut [198] (fun v198 w' => v198 = .bool b325 ∧ wr = w')
                        case first =>
                          as_aux_lemma =>
                            clear H
                            by_cases e321 : (c318 == 32) = true
                            · 
                              have e321n : (c318 != 32) = false := by simp only [bne, e321, Bool.not_true]
                              go_wp2_with fail
                              go_meet
                              case rel => exact ⟨by rw [← HB320.out, e321]; first | rfl | simp, rfl⟩
                            ·
                              replace e321 := Bool.eq_false_iff.mpr e321
                              have e321n : (c318 != 32) = true := by simp only [bne, e321, Bool.not_false]
                              by_cases e322 : (c318 == 9) = true
                              · 
                                have e322n : (c318 != 9) = false := by simp only [bne, e322, Bool.not_true]
                                go_wp2_with fail
                                go_meet
                                case rel => exact ⟨by rw [← HB320.out, e321, e322]; first | rfl | simp, rfl⟩
                              ·
                                replace e322 := Bool.eq_false_iff.mpr e322
                                have e322n : (c318 != 9) = true := by simp only [bne, e322, Bool.not_false]
                                by_cases e323 : (c318 == 10) = true
                                · 
                                  have e323n : (c318 != 10) = false := by simp only [bne, e323, Bool.not_true]
                                  go_wp2_with fail
                                  go_meet
                                  case rel => exact ⟨by rw [← HB320.out, e321, e322, e323]; first | rfl | simp, rfl⟩
                                ·
                                  replace e323 := Bool.eq_false_iff.mpr e323
                                  have e323n : (c318 != 10) = true := by simp only [bne, e323, Bool.not_false]
                                  by_cases e324 : (c318 == 13) = true
                                  · 
                                    have e324n : (c318 != 13) = false := by simp only [bne, e324, Bool.not_true]
                                    go_wp2_with fail
                                    go_meet
                                    case rel => exact ⟨by rw [← HB320.out, e321, e322, e323, e324]; first | rfl | simp, rfl⟩
                                  ·
                                    replace e324 := Bool.eq_false_iff.mpr e324
                                    have e324n : (c318 != 13) = true := by simp only [bne, e324, Bool.not_false]
                                    go_wp2_with fail
                                    go_meet
                                    case rel => exact ⟨by rw [← HB320.out, e321, e322, e323, e324]; first | rfl | simp, rfl⟩
                        case rest =>
                          as_aux_lemma =>
                            obtain ⟨rfl, rfl⟩ := hcut
                            cases b325 with
                            | true =>
                              replace H := H.tt
                              go_wp2_with fail
                              refine (Hl.Move_calls hI317 1).mono ?_
                              rintro e w326 ⟨rfl, hI326, k326⟩
                              have hF326 := hF317.trans k326
                              have c0326 := hI326.c0
                              have c1326 := hI326.c1
                              have c2326 := hI326.c2
                              have c3326 := hI326.c3
                              have c4326 := hI326.c4
                              have c5326 := hI326.c5
                              have c8326 := hI326.c8
                              have f326 := hI326.f
                              obtain ⟨At326, nt326, ct326, hct326, hSt326⟩ := hI326.ct
                              obtain ⟨Aa326, na326, ca326, hca326, hSa326⟩ := hI326.ca
                              try clear c0317 c1317 c2317 c3317 c4317 c5317 c8317 f317 hct317 hca317
                              go_wp2_with fail
                              go_roundg k
                              case measure => exact Nat.lt_succ_self _
                              case rel => exact ⟨mv p316 1, H, ⟨hI326⟩, ⟨hF326⟩⟩
                            | false =>
                              replace H := H.ff
                              obtain ⟨rfl, rfl⟩ := H.p2
                              go_wp2_with fail
                              go_meet
                              case rel => exact ⟨(by first | rfl | simp), ⟨hI317⟩, ⟨hF317⟩⟩
                  case rest =>
                    as_aux_lemma =>
                      obtain ⟨rfl, gI, gF⟩ := hcut
                      have hI329 := gI.out; have hF329 := gF.out; clear gI gF
                      have c0329 := hI329.c0
                      have c1329 := hI329.c1
                      have c2329 := hI329.c2
                      have c3329 := hI329.c3
                      have c4329 := hI329.c4
                      have c5329 := hI329.c5
                      have c8329 := hI329.c8
                      have f329 := hI329.f
                      obtain ⟨At329, nt329, ct329, hct329, hSt329⟩ := hI329.ct
                      obtain ⟨Aa329, na329, ca329, hca329, hSa329⟩ := hI329.ca
                      try clear c0314 c1314 c2314 c3314 c4314 c5314 c8314 f314 hct314 hca314
                      have H := HC315; clear HC315 H1
                      go_wp2_with fail
                      refine (Hl.Pos_calls hI329).mono ?_
                      rintro e w330 ⟨rfl, hI330, k330⟩
                      have hF330 := hF329.trans k330
                      have c0330 := hI330.c0
                      have c1330 := hI330.c1
                      have c2330 := hI330.c2
                      have c3330 := hI330.c3
                      have c4330 := hI330.c4
                      have c5330 := hI330.c5
                      have c8330 := hI330.c8
                      have f330 := hI330.f
                      obtain ⟨At330, nt330, ct330, hct330, hSt330⟩ := hI330.ct
                      obtain ⟨Aa330, na330, ca330, hca330, hSa330⟩ := hI330.ca
                      try clear c0329 c1329 c2329 c3329 c4329 c5329 c8329 f329 hct329 hca329
                      generalize hb332 : ((x327 == 34) || (x327 == 39)) = b334 at H
                      have HB332 := Hd.mk hb332; clear hb332
                      go_upto_region 34 with fail
                      go_cut [262] from 257 to 257 (fun v262 w' => v262 = .bool b334 ∧ w330 = w')
                      case first =>
                        clear H
                        by_cases e333 : (x327 == 34) = true
                        · 
                          have e333n : (x327 != 34) = false := by simp only [bne, e333, Bool.not_true]
                          go_wp2_with fail
                          go_meet
                          case rel => exact ⟨by rw [← HB332.out, e333]; first | rfl | simp, rfl⟩
                        ·
                          replace e333 := Bool.eq_false_iff.mpr e333
                          have e333n : (x327 != 34) = true := by simp only [bne, e333, Bool.not_false]
                          go_wp2_with fail
                          go_meet
                          case rel => exact ⟨by rw [← HB332.out, e333]; first | rfl | simp, rfl⟩
                      case rest =>
                        as_aux_lemma =>
                          obtain ⟨rfl, rfl⟩ := hcut
                          cases b334 with
                          | true =>
                            replace H := H.tt
                            go_wp2_with fail
                            refine (Hl.Move_calls hI330 1).mono ?_
                            rintro e w335 ⟨rfl, hI335, k335⟩
                            have hF335 := hF330.trans k335
                            have c0335 := hI335.c0
                            have c1335 := hI335.c1
                            have c2335 := hI335.c2
                            have c3335 := hI335.c3
                            have c4335 := hI335.c4
                            have c5335 := hI335.c5
                            have c8335 := hI335.c8
                            have f335 := hI335.f
                            obtain ⟨At335, nt335, ct335, hct335, hSt335⟩ := hI335.ct
                            obtain ⟨Aa335, na335, ca335, hca335, hSa335⟩ := hI335.ca
                            try clear c0330 c1330 c2330 c3330 c4330 c5330 c8330 f330 hct330 hca330
                            obtain ⟨p352, H1, HC336⟩ := H.bind; clear H
                            go_upto_block 10 with fail
                            go_cut [] from 9 to 9 (fun w' => Hd (Hl w' l z b B 179 EA p352 s rt tg tl th al ah) ∧ Hd (Fr l z w0 w'))
                            case first =>
                              go_wp2_with fail
                              go_loopg [] K (fun gk w' => ∃ (p337 : Int), Hd (hshiftAttribute.l3 K B x327 gk p337 = some p352) ∧ Hd (Hl w' l z b B 179 EA p337 s rt tg tl th al ah) ∧ Hd (Fr l z w0 w'))
                              case atStart => exact ⟨mv p328 1, H1, ⟨hI335⟩, ⟨hF335⟩⟩
                              case round =>
                                clear H1
                                obtain ⟨p337, H, gI, gF⟩ := hrel
                                have hI338 := gI.out; have hF338 := gF.out; clear gI gF
                                have c0338 := hI338.c0
                                have c1338 := hI338.c1
                                have c2338 := hI338.c2
                                have c3338 := hI338.c3
                                have c4338 := hI338.c4
                                have c5338 := hI338.c5
                                have c8338 := hI338.c8
                                have f338 := hI338.f
                                obtain ⟨At338, nt338, ct338, hct338, hSt338⟩ := hI338.ct
                                obtain ⟨Aa338, na338, ca338, hca338, hSa338⟩ := hI338.ca
                                try clear c0335 c1335 c2335 c3335 c4335 c5335 c8335 f335 hct335 hca335
                                cases gk with
                                | zero => exact absurd H.out (by simp [hshiftAttribute.l3])
                                | succ k =>
                                  simp only [hshiftAttribute.l3] at H
                                  obtain ⟨c339, A340, HN⟩ := H.bind; clear H; have H := HN; clear HN
                                  go_wp2_with fail
                                  refine (Hl.Peek_calls hI338 0 c339 A340).mono ?_
                                  rintro e w' ⟨rfl, rfl⟩
                                  by_cases e342 : (c339 == x327) = true
                                  · 
                                    replace H := H.pos e342
                                    as_aux_lemma =>
                                      have e342n : (c339 != x327) = false := by simp only [bne, e342, Bool.not_true]
                                      go_wp2_with fail
                                      refine (Hl.Move_calls hI338 1).mono ?_
                                      rintro e w343 ⟨rfl, hI343, k343⟩
                                      have hF343 := hF338.trans k343
                                      have c0343 := hI343.c0
                                      have c1343 := hI343.c1
                                      have c2343 := hI343.c2
                                      have c3343 := hI343.c3
                                      have c4343 := hI343.c4
                                      have c5343 := hI343.c5
                                      have c8343 := hI343.c8
                                      have f343 := hI343.f
                                      obtain ⟨At343, nt343, ct343, hct343, hSt343⟩ := hI343.ct
                                      obtain ⟨Aa343, na343, ca343, hca343, hSa343⟩ := hI343.ca
                                      try clear c0338 c1338 c2338 c3338 c4338 c5338 c8338 f338 hct338 hca338
                                      obtain rfl := H.p1
                                      go_wp2_with fail
                                      go_meet
                                      case rel => exact ⟨⟨hI343⟩, ⟨hF343⟩⟩
                                  ·
                                    replace H := H.neg e342
                                    replace e342 := Bool.eq_false_iff.mpr e342
                                    have e342n : (c339 != x327) = true := by simp only [bne, e342, Bool.not_false]
                                    generalize hb344 : ((c339 == 0) && (atEnd B p337 0)) = b349 at H
                                    have HB344 := Hd.mk hb344; clear hb344
                                    go_upto_region 46 with fail
                                    go_cut [337] (fun v337 w' => v337 = .bool b349 ∧ Hd (Hl w' l z b B 179 EA p337 s rt tg tl th al ah) ∧ Hd (Fr l z w0 w'))
                                    case first =>
                                      as_aux_lemma =>
                                        clear H
                                        by_cases e345 : (c339 == 0) = true
                                        · 
                                          as_aux_lemma =>
                                            have e345n : (c339 != 0) = false := by simp only [bne, e345, Bool.not_true]
                                            by_cases e346 : (atEnd B p337 0) = true
                                            · 
                                              as_aux_lemma =>
                                                go_wp2_with fail
                                                refine (Hl.Err_end_calls hI338 e346).mono ?_
                                                rintro e w347 ⟨rfl, hI347, k347⟩
                                                have hF347 := hF338.trans k347
                                                have c0347 := hI347.c0
                                                have c1347 := hI347.c1
                                                have c2347 := hI347.c2
                                                have c3347 := hI347.c3
                                                have c4347 := hI347.c4
                                                have c5347 := hI347.c5
                                                have c8347 := hI347.c8
                                                have f347 := hI347.f
                                                obtain ⟨At347, nt347, ct347, hct347, hSt347⟩ := hI347.ct
                                                obtain ⟨Aa347, na347, ca347, hca347, hSa347⟩ := hI347.ca
                                                try clear c0338 c1338 c2338 c3338 c4338 c5338 c8338 f338 hct338 hca338
                                                go_wp2_with fail
                                                go_meet
                                                case rel => exact ⟨by rw [← HB344.out, e345, e346]; first | rfl | simp, ⟨hI347⟩, ⟨hF347⟩⟩
                                            ·
                                              replace e346 := Bool.eq_false_iff.mpr e346
                                              go_wp2_with fail
                                              refine (Hl.Err_not_calls hI338 e346).mono ?_
                                              rintro e w348 ⟨rfl, hI348, k348⟩
                                              have hF348 := hF338.trans k348
                                              have c0348 := hI348.c0
                                              have c1348 := hI348.c1
                                              have c2348 := hI348.c2
                                              have c3348 := hI348.c3
                                              have c4348 := hI348.c4
                                              have c5348 := hI348.c5
                                              have c8348 := hI348.c8
                                              have f348 := hI348.f
                                              obtain ⟨At348, nt348, ct348, hct348, hSt348⟩ := hI348.ct
                                              obtain ⟨Aa348, na348, ca348, hca348, hSa348⟩ := hI348.ca
                                              try clear c0338 c1338 c2338 c3338 c4338 c5338 c8338 f338 hct338 hca338
                                              go_wp2_with fail
                                              go_meet
                                              case rel => exact ⟨by rw [← HB344.out, e345, e346]; first | rfl | simp, ⟨hI348⟩, ⟨hF348⟩⟩
                                        ·
                                          replace e345 := Bool.eq_false_iff.mpr e345
                                          have e345n : (c339 != 0) = true := by simp only [bne, e345, Bool.not_false]
                                          go_wp2_with fail
                                          go_meet
                                          case rel => exact ⟨by rw [← HB344.out, e345]; first | rfl | simp, ⟨hI338⟩, ⟨hF338⟩⟩
                                    case rest =>
                                      as_aux_lemma =>
                                        obtain ⟨rfl, gI, gF⟩ := hcut
                                        have hI350 := gI.out; have hF350 := gF.out; clear gI gF
                                        have c0350 := hI350.c0
                                        have c1350 := hI350.c1
                                        have c2350 := hI350.c2
                                        have c3350 := hI350.c3
                                        have c4350 := hI350.c4
                                        have c5350 := hI350.c5
                                        have c8350 := hI350.c8
                                        have f350 := hI350.f
                                        obtain ⟨At350, nt350, ct350, hct350, hSt350⟩ := hI350.ct
                                        obtain ⟨Aa350, na350, ca350, hca350, hSa350⟩ := hI350.ca
                                        try clear c0338 c1338 c2338 c3338 c4338 c5338 c8338 f338 hct338 hca338
                                        cases b349 with
                                        | true =>
                                          replace H := H.tt
                                          obtain rfl := H.p1
                                          go_wp2_with fail
                                          go_meet
                                          case rel => exact ⟨⟨hI350⟩, ⟨hF350⟩⟩
                                        | false =>
                                          replace H := H.ff
                                          go_wp2_with fail
                                          refine (Hl.Move_calls hI350 1).mono ?_
                                          rintro e w351 ⟨rfl, hI351, k351⟩
                                          have hF351 := hF350.trans k351
                                          have c0351 := hI351.c0
                                          have c1351 := hI351.c1
                                          have c2351 := hI351.c2
                                          have c3351 := hI351.c3
                                          have c4351 := hI351.c4
                                          have c5351 := hI351.c5
                                          have c8351 := hI351.c8
                                          have f351 := hI351.f
                                          obtain ⟨At351, nt351, ct351, hct351, hSt351⟩ := hI351.ct
                                          obtain ⟨Aa351, na351, ca351, hca351, hSa351⟩ := hI351.ca
                                          try clear c0350 c1350 c2350 c3350 c4350 c5350 c8350 f350 hct350 hca350
                                          go_wp2_with fail
                                          go_roundg k
                                          case measure => exact Nat.lt_succ_self _
                                          case rel => exact ⟨mv p337 1, H, ⟨hI351⟩, ⟨hF351⟩⟩
                            case rest =>
                              as_aux_lemma =>
                                obtain ⟨gI, gF⟩ := hcut
                                have hI353 := gI.out; have hF353 := gF.out; clear gI gF
                                have c0353 := hI353.c0
                                have c1353 := hI353.c1
                                have c2353 := hI353.c2
                                have c3353 := hI353.c3
                                have c4353 := hI353.c4
                                have c5353 := hI353.c5
                                have c8353 := hI353.c8
                                have f353 := hI353.f
                                obtain ⟨At353, nt353, ct353, hct353, hSt353⟩ := hI353.ct
                                obtain ⟨Aa353, na353, ca353, hca353, hSa353⟩ := hI353.ca
                                try clear c0335 c1335 c2335 c3335 c4335 c5335 c8335 f335 hct335 hca335
                                have H := HC336; clear HC336 H1
                                obtain ⟨u354, A355, HN⟩ := H.bind; clear H; have H := HN; clear HN
                                go_wp2_with fail
                                refine (Hl.LexemeV_calls hI353 u354 A355).mono ?_
                                rintro e w356 ⟨⟨A357, n357, c357, rfl, hS357⟩, hI356, k356⟩
                                have hF356 := hF353.trans k356
                                have c0356 := hI356.c0
                                have c1356 := hI356.c1
                                have c2356 := hI356.c2
                                have c3356 := hI356.c3
                                have c4356 := hI356.c4
                                have c5356 := hI356.c5
                                have c8356 := hI356.c8
                                have f356 := hI356.f
                                obtain ⟨At356, nt356, ct356, hct356, hSt356⟩ := hI356.ct
                                obtain ⟨Aa356, na356, ca356, hca356, hSa356⟩ := hI356.ca
                                try clear c0353 c1353 c2353 c3353 c4353 c5353 c8353 f353 hct353 hca353
                                obtain ⟨u358, AA358, HN⟩ := H.bind; clear H; have H := HN; clear HN
                                obtain ⟨A358, n358, c358, hS358, hq358⟩ := cut_lo hS357 (ps p328 s) u358 AA358
                                obtain ⟨rfl, rfl, rfl⟩ := H.p3
                                go_wp2_with fail
                                go_meet
                                case rel => exact ⟨⟨(show Hl _ l z b B 179 EA p352 s rt tg tl th (s + (ps p328 s)) p352 from by repeat (first | exact hI356 | apply Hl.drewN | apply Hl.drew | apply Hl.alloc | (apply Hl.setText; case hS => first | assumption | exact Sv.nil _ _) | (apply Hl.setAttr; case hS => first | assumption | exact Sv.nil _ _) | (apply Hl.setTextS; case hb => exact sel_of (by assumption)) | (apply Hl.setAttrS; case hb => exact sel_of (by assumption)) | apply Hl.setTag | apply Hl.setRaw | apply Hl.setTmpl))⟩, ⟨(show Fr l z w0 _ from by repeat (first | exact hF356 | apply Fr.drewN | apply Fr.drew | apply Fr.alloc | apply Fr.setl))⟩⟩
                          | false =>
                            replace H := H.ff
                            obtain ⟨p378, H1, HC359⟩ := H.bind; clear H
                            go_upto_block 14 with fail
                            go_cut [] from 10 to 10 (fun w' => Hd (Hl w' l z b B 179 EA p378 s rt tg tl th al ah) ∧ Hd (Fr l z w0 w'))
                            case first =>
                              go_wp2_with fail
                              go_loopg [] K (fun gk w' => ∃ (p360 : Int), Hd (hshiftAttribute.l4 K B gk p360 = some p378) ∧ Hd (Hl w' l z b B 179 EA p360 s rt tg tl th al ah) ∧ Hd (Fr l z w0 w'))
                              case atStart => exact ⟨p328, H1, ⟨hI330⟩, ⟨hF330⟩⟩
                              case round =>
                                clear H1
                                obtain ⟨p360, H, gI, gF⟩ := hrel
                                have hI361 := gI.out; have hF361 := gF.out; clear gI gF
                                have c0361 := hI361.c0
                                have c1361 := hI361.c1
                                have c2361 := hI361.c2
                                have c3361 := hI361.c3
                                have c4361 := hI361.c4
                                have c5361 := hI361.c5
                                have c8361 := hI361.c8
                                have f361 := hI361.f
                                obtain ⟨At361, nt361, ct361, hct361, hSt361⟩ := hI361.ct
                                obtain ⟨Aa361, na361, ca361, hca361, hSa361⟩ := hI361.ca
                                try clear c0330 c1330 c2330 c3330 c4330 c5330 c8330 f330 hct330 hca330
                                cases gk with
                                | zero => exact absurd H.out (by simp [hshiftAttribute.l4])
                                | succ k =>
                                  simp only [hshiftAttribute.l4] at H
                                  obtain ⟨c362, A363, HN⟩ := H.bind; clear H; have H := HN; clear HN
                                  go_wp2_with fail
                                  refine (Hl.Peek_calls hI361 0 c362 A363).mono ?_
                                  rintro e w' ⟨rfl, rfl⟩
                                  generalize hb364 : ((c362 == 32) || ((c362 == 62) || ((c362 == 9) || ((c362 == 10) || ((c362 == 13) || ((c362 == 12) || ((c362 == 0) && (atEnd B p360 0)))))))) = b375 at H
                                  have HB364 := Hd.mk hb364; clear hb364
                                  go_upto_region 49 with fail
                                  go_cut [381] (fun v381 w' => v381 = .bool b375 ∧ Hd (Hl w' l z b B 179 EA p360 s rt tg tl th al ah) ∧ Hd (Fr l z w0 w'))
                                  case first =>
                                    as_aux_lemma =>
                                      clear H
                                      by_cases e365 : (c362 == 32) = true
                                      · 
                                        have e365n : (c362 != 32) = false := by simp only [bne, e365, Bool.not_true]
                                        go_wp2_with fail
                                        go_meet
                                        case rel => exact ⟨by rw [← HB364.out, e365]; first | rfl | simp, ⟨hI361⟩, ⟨hF361⟩⟩
                                      ·
                                        replace e365 := Bool.eq_false_iff.mpr e365
                                        have e365n : (c362 != 32) = true := by simp only [bne, e365, Bool.not_false]
                                        by_cases e366 : (c362 == 62) = true
                                        · 
                                          have e366n : (c362 != 62) = false := by simp only [bne, e366, Bool.not_true]
                                          go_wp2_with fail
                                          go_meet
                                          case rel => exact ⟨by rw [← HB364.out, e365, e366]; first | rfl | simp, ⟨hI361⟩, ⟨hF361⟩⟩
                                        ·
                                          replace e366 := Bool.eq_false_iff.mpr e366
                                          have e366n : (c362 != 62) = true := by simp only [bne, e366, Bool.not_false]
                                          by_cases e367 : (c362 == 9) = true
                                          · 
                                            have e367n : (c362 != 9) = false := by simp only [bne, e367, Bool.not_true]
                                            go_wp2_with fail
                                            go_meet
                                            case rel => exact ⟨by rw [← HB364.out, e365, e366, e367]; first | rfl | simp, ⟨hI361⟩, ⟨hF361⟩⟩
                                          ·
                                            replace e367 := Bool.eq_false_iff.mpr e367
                                            have e367n : (c362 != 9) = true := by simp only [bne, e367, Bool.not_false]
                                            by_cases e368 : (c362 == 10) = true
                                            · 
                                              have e368n : (c362 != 10) = false := by simp only [bne, e368, Bool.not_true]
                                              go_wp2_with fail
                                              go_meet
                                              case rel => exact ⟨by rw [← HB364.out, e365, e366, e367, e368]; first | rfl | simp, ⟨hI361⟩, ⟨hF361⟩⟩
                                            ·
                                              replace e368 := Bool.eq_false_iff.mpr e368
                                              have e368n : (c362 != 10) = true := by simp only [bne, e368, Bool.not_false]
                                              by_cases e369 : (c362 == 13) = true
                                              · 
                                                have e369n : (c362 != 13) = false := by simp only [bne, e369, Bool.not_true]
                                                go_wp2_with fail
                                                go_meet
                                                case rel => exact ⟨by rw [← HB364.out, e365, e366, e367, e368, e369]; first | rfl | simp, ⟨hI361⟩, ⟨hF361⟩⟩
                                              ·
                                                replace e369 := Bool.eq_false_iff.mpr e369
                                                have e369n : (c362 != 13) = true := by simp only [bne, e369, Bool.not_false]
                                                by_cases e370 : (c362 == 12) = true
                                                · 
                                                  have e370n : (c362 != 12) = false := by simp only [bne, e370, Bool.not_true]
                                                  go_wp2_with fail
                                                  go_meet
                                                  case rel => exact ⟨by rw [← HB364.out, e365, e366, e367, e368, e369, e370]; first | rfl | simp, ⟨hI361⟩, ⟨hF361⟩⟩
                                                ·
                                                  replace e370 := Bool.eq_false_iff.mpr e370
                                                  have e370n : (c362 != 12) = true := by simp only [bne, e370, Bool.not_false]
                                                  by_cases e371 : (c362 == 0) = true
                                                  · 
                                                    as_aux_lemma =>
                                                      have e371n : (c362 != 0) = false := by simp only [bne, e371, Bool.not_true]
                                                      by_cases e372 : (atEnd B p360 0) = true
                                                      · 
                                                        as_aux_lemma =>
                                                          go_wp2_with fail
                                                          refine (Hl.Err_end_calls hI361 e372).mono ?_
                                                          rintro e w373 ⟨rfl, hI373, k373⟩
                                                          have hF373 := hF361.trans k373
                                                          have c0373 := hI373.c0
                                                          have c1373 := hI373.c1
                                                          have c2373 := hI373.c2
                                                          have c3373 := hI373.c3
                                                          have c4373 := hI373.c4
                                                          have c5373 := hI373.c5
                                                          have c8373 := hI373.c8
                                                          have f373 := hI373.f
                                                          obtain ⟨At373, nt373, ct373, hct373, hSt373⟩ := hI373.ct
                                                          obtain ⟨Aa373, na373, ca373, hca373, hSa373⟩ := hI373.ca
                                                          try clear c0361 c1361 c2361 c3361 c4361 c5361 c8361 f361 hct361 hca361
                                                          go_wp2_with fail
                                                          go_meet
                                                          case rel => exact ⟨by rw [← HB364.out, e365, e366, e367, e368, e369, e370, e371, e372]; first | rfl | simp, ⟨hI373⟩, ⟨hF373⟩⟩
                                                      ·
                                                        replace e372 := Bool.eq_false_iff.mpr e372
                                                        go_wp2_with fail
                                                        refine (Hl.Err_not_calls hI361 e372).mono ?_
                                                        rintro e w374 ⟨rfl, hI374, k374⟩
                                                        have hF374 := hF361.trans k374
                                                        have c0374 := hI374.c0
                                                        have c1374 := hI374.c1
                                                        have c2374 := hI374.c2
                                                        have c3374 := hI374.c3
                                                        have c4374 := hI374.c4
                                                        have c5374 := hI374.c5
                                                        have c8374 := hI374.c8
                                                        have f374 := hI374.f
                                                        obtain ⟨At374, nt374, ct374, hct374, hSt374⟩ := hI374.ct
                                                        obtain ⟨Aa374, na374, ca374, hca374, hSa374⟩ := hI374.ca
                                                        try clear c0361 c1361 c2361 c3361 c4361 c5361 c8361 f361 hct361 hca361
                                                        go_wp2_with fail
                                                        go_meet
                                                        case rel => exact ⟨by rw [← HB364.out, e365, e366, e367, e368, e369, e370, e371, e372]; first | rfl | simp, ⟨hI374⟩, ⟨hF374⟩⟩
                                                  ·
                                                    replace e371 := Bool.eq_false_iff.mpr e371
                                                    have e371n : (c362 != 0) = true := by simp only [bne, e371, Bool.not_false]
                                                    go_wp2_with fail
                                                    go_meet
                                                    case rel => exact ⟨by rw [← HB364.out, e365, e366, e367, e368, e369, e370, e371]; first | rfl | simp, ⟨hI361⟩, ⟨hF361⟩⟩
                                  case rest =>
                                    as_aux_lemma =>
                                      obtain ⟨rfl, gI, gF⟩ := hcut
                                      have hI376 := gI.out; have hF376 := gF.out; clear gI gF
                                      have c0376 := hI376.c0
                                      have c1376 := hI376.c1
                                      have c2376 := hI376.c2
                                      have c3376 := hI376.c3
                                      have c4376 := hI376.c4
                                      have c5376 := hI376.c5
                                      have c8376 := hI376.c8
                                      have f376 := hI376.f
                                      obtain ⟨At376, nt376, ct376, hct376, hSt376⟩ := hI376.ct
                                      obtain ⟨Aa376, na376, ca376, hca376, hSa376⟩ := hI376.ca
                                      try clear c0361 c1361 c2361 c3361 c4361 c5361 c8361 f361 hct361 hca361
                                      cases b375 with
                                      | true =>
                                        replace H := H.tt
                                        obtain rfl := H.p1
                                        go_wp2_with fail
                                        go_meet
                                        case rel => exact ⟨⟨hI376⟩, ⟨hF376⟩⟩
                                      | false =>
                                        replace H := H.ff
                                        go_wp2_with fail
                                        refine (Hl.Move_calls hI376 1).mono ?_
                                        rintro e w377 ⟨rfl, hI377, k377⟩
                                        have hF377 := hF376.trans k377
                                        have c0377 := hI377.c0
                                        have c1377 := hI377.c1
                                        have c2377 := hI377.c2
                                        have c3377 := hI377.c3
                                        have c4377 := hI377.c4
                                        have c5377 := hI377.c5
                                        have c8377 := hI377.c8
                                        have f377 := hI377.f
                                        obtain ⟨At377, nt377, ct377, hct377, hSt377⟩ := hI377.ct
                                        obtain ⟨Aa377, na377, ca377, hca377, hSa377⟩ := hI377.ca
                                        try clear c0376 c1376 c2376 c3376 c4376 c5376 c8376 f376 hct376 hca376
                                        go_wp2_with fail
                                        go_roundg k
                                        case measure => exact Nat.lt_succ_self _
                                        case rel => exact ⟨mv p360 1, H, ⟨hI377⟩, ⟨hF377⟩⟩
                            case rest =>
                              as_aux_lemma =>
                                obtain ⟨gI, gF⟩ := hcut
                                have hI379 := gI.out; have hF379 := gF.out; clear gI gF
                                have c0379 := hI379.c0
                                have c1379 := hI379.c1
                                have c2379 := hI379.c2
                                have c3379 := hI379.c3
                                have c4379 := hI379.c4
                                have c5379 := hI379.c5
                                have c8379 := hI379.c8
                                have f379 := hI379.f
                                obtain ⟨At379, nt379, ct379, hct379, hSt379⟩ := hI379.ct
                                obtain ⟨Aa379, na379, ca379, hca379, hSa379⟩ := hI379.ca
                                try clear c0330 c1330 c2330 c3330 c4330 c5330 c8330 f330 hct330 hca330
                                have H := HC359; clear HC359 H1
                                obtain ⟨u380, A381, HN⟩ := H.bind; clear H; have H := HN; clear HN
                                go_wp2_with fail
                                refine (Hl.LexemeV_calls hI379 u380 A381).mono ?_
                                rintro e w382 ⟨⟨A383, n383, c383, rfl, hS383⟩, hI382, k382⟩
                                have hF382 := hF379.trans k382
                                have c0382 := hI382.c0
                                have c1382 := hI382.c1
                                have c2382 := hI382.c2
                                have c3382 := hI382.c3
                                have c4382 := hI382.c4
                                have c5382 := hI382.c5
                                have c8382 := hI382.c8
                                have f382 := hI382.f
                                obtain ⟨At382, nt382, ct382, hct382, hSt382⟩ := hI382.ct
                                obtain ⟨Aa382, na382, ca382, hca382, hSa382⟩ := hI382.ca
                                try clear c0379 c1379 c2379 c3379 c4379 c5379 c8379 f379 hct379 hca379
                                obtain ⟨u384, AA384, HN⟩ := H.bind; clear H; have H := HN; clear HN
                                obtain ⟨A384, n384, c384, hS384, hq384⟩ := cut_lo hS383 (ps p328 s) u384 AA384
                                obtain ⟨rfl, rfl, rfl⟩ := H.p3
                                go_wp2_with fail
                                go_meet
                                case rel => exact ⟨⟨(show Hl _ l z b B 179 EA p378 s rt tg tl th (s + (ps p328 s)) p378 from by repeat (first | exact hI382 | apply Hl.drewN | apply Hl.drew | apply Hl.alloc | (apply Hl.setText; case hS => first | assumption | exact Sv.nil _ _) | (apply Hl.setAttr; case hS => first | assumption | exact Sv.nil _ _) | (apply Hl.setTextS; case hb => exact sel_of (by assumption)) | (apply Hl.setAttrS; case hb => exact sel_of (by assumption)) | apply Hl.setTag | apply Hl.setRaw | apply Hl.setTmpl))⟩, ⟨(show Fr l z w0 _ from by repeat (first | exact hF382 | apply Fr.drewN | apply Fr.drew | apply Fr.alloc | apply Fr.setl))⟩⟩
              ·
                replace H := H.neg e313
                replace e313 := Bool.eq_false_iff.mpr e313
                have e313n : (x309 != 61) = true := by simp only [bne, e313, Bool.not_false]
                go_wp2_with fail
                refine (Hl.Rewind_calls hI311 (ps p294 s)).mono ?_
                rintro e w385 ⟨rfl, hI385, k385⟩
                have hF385 := hF311.trans k385
                have c0385 := hI385.c0
                have c1385 := hI385.c1
                have c2385 := hI385.c2
                have c3385 := hI385.c3
                have c4385 := hI385.c4
                have c5385 := hI385.c5
                have c8385 := hI385.c8
                have f385 := hI385.f
                obtain ⟨At385, nt385, ct385, hct385, hSt385⟩ := hI385.ct
                obtain ⟨Aa385, na385, ca385, hca385, hSa385⟩ := hI385.ca
                try clear c0311 c1311 c2311 c3311 c4311 c5311 c8311 f311 hct311 hca311
                obtain ⟨rfl, rfl, rfl⟩ := H.p3
                go_wp2_with fail
                go_meet
                case rel => exact ⟨⟨(show Hl _ l z b B 179 EA (rwd s (ps p294 s)) s rt tg tl th 0 0 from by repeat (first | exact hI385 | apply Hl.drewN | apply Hl.drew | apply Hl.alloc | (apply Hl.setText; case hS => first | assumption | exact Sv.nil _ _) | (apply Hl.setAttr; case hS => first | assumption | exact Sv.nil _ _) | (apply Hl.setTextS; case hb => exact sel_of (by assumption)) | (apply Hl.setAttrS; case hb => exact sel_of (by assumption)) | apply Hl.setTag | apply Hl.setRaw | apply Hl.setTmpl))⟩, ⟨(show Fr l z w0 _ from by repeat (first | exact hF385 | apply Fr.drewN | apply Fr.drew | apply Fr.alloc | apply Fr.setl))⟩⟩
          case rest =>
            as_aux_lemma =>
              obtain ⟨gI, gF⟩ := hcut
              have hI389 := gI.out; have hF389 := gF.out; clear gI gF
              have c0389 := hI389.c0
              have c1389 := hI389.c1
              have c2389 := hI389.c2
              have c3389 := hI389.c3
              have c4389 := hI389.c4
              have c5389 := hI389.c5
              have c8389 := hI389.c8
              have f389 := hI389.f
              obtain ⟨At389, nt389, ct389, hct389, hSt389⟩ := hI389.ct
              obtain ⟨Aa389, na389, ca389, hca389, hSa389⟩ := hI389.ca
              try clear c0311 c1311 c2311 c3311 c4311 c5311 c8311 f311 hct311 hca311
              have H := HC312; clear HC312 H1
              obtain ⟨u390, A391, HN⟩ := H.bind; clear H; have H := HN; clear HN
              go_wp2_with fail
              refine (Hl.LexemeV_calls hI389 u390 A391).mono ?_
              rintro e w392 ⟨⟨A393, n393, c393, rfl, hS393⟩, hI392, k392⟩
              have hF392 := hF389.trans k392
              have c0392 := hI392.c0
              have c1392 := hI392.c1
              have c2392 := hI392.c2
              have c3392 := hI392.c3
              have c4392 := hI392.c4
              have c5392 := hI392.c5
              have c8392 := hI392.c8
              have f392 := hI392.f
              obtain ⟨At392, nt392, ct392, hct392, hSt392⟩ := hI392.ct
              obtain ⟨Aa392, na392, ca392, hca392, hSa392⟩ := hI392.ca
              try clear c0389 c1389 c2389 c3389 c4389 c5389 c8389 f389 hct389 hca389
              obtain ⟨u394, AA394, HN⟩ := H.bind; clear H; have H := HN; clear HN
              obtain ⟨A394, n394, c394, hS394, hq394⟩ := cut_lh hS393 (ps p s) (ps p294 s) u394 AA394
              obtain ⟨u395, A396, HN⟩ := H.bind; clear H; have H := HN; clear HN
              go_wp2_with fail
              refine (Lower_sv (show Hl _ l z b B 179 EA p386 s rt tg (s + (ps p s)) (s + (ps p294 s)) al387 ah388 from by repeat (first | exact hI392 | apply Hl.drewN | apply Hl.drew | apply Hl.alloc | (apply Hl.setText; case hS => first | assumption | exact Sv.nil _ _) | (apply Hl.setAttr; case hS => first | assumption | exact Sv.nil _ _) | (apply Hl.setTextS; case hb => exact sel_of (by assumption)) | (apply Hl.setAttrS; case hb => exact sel_of (by assumption)) | apply Hl.setTag | apply Hl.setRaw | apply Hl.setTmpl)).inp hS394 u395 A396).mono ?_
              rintro e w' ⟨rfl, rfl⟩
              obtain ⟨u397, A398, HN⟩ := H.bind; clear H; have H := HN; clear HN
              go_wp2_with fail
              refine (Hl.Shift_calls (show Hl _ l z b B 179 EA p386 s rt tg (s + (ps p s)) (s + (ps p294 s)) al387 ah388 from by repeat (first | exact hI392 | apply Hl.drewN | apply Hl.drew | apply Hl.alloc | (apply Hl.setText; case hS => first | assumption | exact Sv.nil _ _) | (apply Hl.setAttr; case hS => first | assumption | exact Sv.nil _ _) | (apply Hl.setTextS; case hb => exact sel_of (by assumption)) | (apply Hl.setAttrS; case hb => exact sel_of (by assumption)) | apply Hl.setTag | apply Hl.setRaw | apply Hl.setTmpl)) u397 A398).mono ?_
              rintro e w399 ⟨rfl, hI399, k399⟩
              have hF399 := (show Fr l z w0 _ by repeat (first | exact hF392 | apply Fr.drewN | apply Fr.drew | apply Fr.alloc | apply Fr.setl)).trans k399
              have c0399 := hI399.c0
              have c1399 := hI399.c1
              have c2399 := hI399.c2
              have c3399 := hI399.c3
              have c4399 := hI399.c4
              have c5399 := hI399.c5
              have c8399 := hI399.c8
              have f399 := hI399.f
              obtain ⟨At399, nt399, ct399, hct399, hSt399⟩ := hI399.ct
              obtain ⟨Aa399, na399, ca399, hca399, hSa399⟩ := hI399.ca
              try clear c0392 c1392 c2392 c3392 c4392 c5392 c8392 f392 hct392 hca392
              go_wp2_with fail
              go_ret
              obtain ⟨rfl, rfl, rfl, rfl, rfl, rfl, rfl, rfl⟩ := H.p8
              exact ⟨(by first | rfl | simp), hI399, hF399⟩
end Go.Proofs.YtfcedenofbefcaaGreatDoor
