import Derived.Test.YteonakpgenkhkaaDoorS1
namespace Go.Proofs.YteonakpgenkhkaaDoor
open Go.RowKit
set_option linter.unusedVariables false
set_option linter.unusedSimpArgs false

/-! (*loop.example/pub-g01476/spec.reader).numeric -/
def snumeric.f (K : Nat) (T : List Int) (q : Int) (o : Bool) : Option (List Int × Int × Bool) :=
(rpk T q 0).bind fun c234 =>
(if ((c234 == 43) || (c234 == 45)) = true then (some (wrap64 (q + 1))) else
some q).bind fun q241 =>
(sdigits.f K T q241 o).bind fun q243 =>
((rpk T q243 0).bind fun c247 =>
if (c247 == 46) = true then ((rpk T q243 1).bind fun c251 =>
some (sisDigit.f c251)) else
some false).bind fun b254 =>
(if b254 = true then ((sdigits.f K T (wrap64 (q243 + 1)) o).bind fun q257 =>
some q257) else
some q243).bind fun q260 =>
(rpk T q260 0).bind fun c262 =>
(if ((c262 == 101) || (c262 == 69)) = true then ((rpk T q260 1).bind fun c269 =>
(if ((c269 == 43) || (c269 == 45)) = true then (some 2) else
some 1).bind fun x276 =>
(rpk T q260 x276).bind fun c277 =>
if (sisDigit.f c277) = true then ((sdigits.f K T (wrap64 (q260 + x276)) o).bind fun q281 =>
some q281) else
some q260) else
some q260).bind fun q284 =>
(sidentifies.f T q284 o 0).bind fun (t286, o287) =>
if t286 = true then ((sname.f K T q284 o287).bind fun (q290, o291) =>
some ([100, 105, 109, 101, 110, 115, 105, 111, 110], q290, o291)) else
(rpk T q284 0).bind fun c294 =>
if (c294 == 37) = true then (some ([112, 101, 114, 99, 101, 110, 116, 97, 103, 101], wrap64 (q284 + 1), o287)) else
some ([110, 117, 109, 98, 101, 114], q284, o287)
set_option maxHeartbeats 8000000 in
set_option maxRecDepth 100000 in
theorem snumeric.calls (K : Nat) {w0 : World} {z : Nat} {A : Option Addr} {c : Nat} {T : List Int} {q : Int} {o : Bool} (hI0 : Rd w0 z A c T q o) (r0 : List Int) (r1 : Int) (r2 : Bool) (H : Hd (snumeric.f K T q o = some (r0, r1, r2))) :
    Calls Tryd.prog 48 #[.pointer (some ⟨z, 0, none⟩)] w0 fun e w' => e = .returned (.string (bstr r0)) ∧ Rd w' z A c T r1 r2 ∧ Fr z w0 w' := by
  have hF0 := Fr.refl z w0
  have c00 := hI0.c0
  have c10 := hI0.c1
  have c20 := hI0.c2
  have f0 := hI0.f
  unfold snumeric.f at H
  go_enter Tryd.func48, Tryd.ntmps48
  obtain ⟨c234, A235, HN⟩ := H.bind; clear H; have H := HN; clear HN
  go_wp2_with fail
  refine (peek_calls hI0 0 c234 A235).mono ?_
  rintro e w236 ⟨rfl, hI236, k236⟩
  have hF236 := hF0.trans k236
  have c0236 := hI236.c0
  have c1236 := hI236.c1
  have c2236 := hI236.c2
  have f236 := hI236.f
  generalize hb237 : ((c234 == 43) || (c234 == 45)) = b239 at H
  have HB237 := Hd.mk hb237; clear hb237
  go_upto_region 2 with fail
  go_cut [14] (fun v14 w' => v14 = .bool b239 ∧ w236 = w')
  case first =>
    clear H
    by_cases e238 : (c234 == 43) = true
    · 
      have e238n : (c234 != 43) = false := by simp only [bne, e238, Bool.not_true]
      go_wp2_with fail
      go_meet
      case rel => exact ⟨by rw [← HB237.out, e238]; first | rfl | simp, rfl⟩
    ·
      replace e238 := Bool.eq_false_iff.mpr e238
      have e238n : (c234 != 43) = true := by simp only [bne, e238, Bool.not_false]
      go_wp2_with fail
      go_meet
      case rel => exact ⟨by rw [← HB237.out, e238]; first | rfl | simp, rfl⟩
  case rest =>
    obtain ⟨rfl, rfl⟩ := hcut
    obtain ⟨q241, H1, HC240⟩ := H.bind; clear H
    go_upto_if 14 with fail
    go_cut [] (fun w' => Hd (Rd w' z A c T q241 o) ∧ Hd (Fr z w0 w'))
    case first =>
      have H := H1; clear H1
      cases b239 with
      | true =>
        replace H := H.tt
        obtain rfl := H.p1
        go_wp2_with fail
        go_meet
        case rel => exact ⟨⟨(by repeat (first | exact hI236 | apply Rd.setAt | apply Rd.setOpen | apply Rd.drewN | apply Rd.drew | apply Rd.alloc))⟩, ⟨(by repeat (first | exact hF236 | apply Fr.set | apply Fr.drewN | apply Fr.drew | apply Fr.alloc))⟩⟩
      | false =>
        replace H := H.ff
        obtain rfl := H.p1
        go_wp2_with fail
        go_meet
        case rel => exact ⟨⟨hI236⟩, ⟨hF236⟩⟩
    case rest =>
      obtain ⟨gI, gF⟩ := hcut
      have hI242 := gI.out; have hF242 := gF.out; clear gI gF
      have c0242 := hI242.c0
      have c1242 := hI242.c1
      have c2242 := hI242.c2
      have f242 := hI242.f
      have H := HC240; clear HC240 H1
      obtain ⟨q243, A244, HN⟩ := H.bind; clear H; have H := HN; clear HN
      go_wp2_with fail
      refine (sdigits.calls K hI242  q243 A244).mono ?_
      rintro e w245 ⟨rfl, hI245, k245⟩
      have hF245 := hF242.trans k245
      have c0245 := hI245.c0
      have c1245 := hI245.c1
      have c2245 := hI245.c2
      have f245 := hI245.f
      obtain ⟨b254, H1, HC246⟩ := H.bind; clear H
      go_upto_region 5 with fail
      go_cut [31] (fun v31 w' => v31 = .bool b254 ∧ Hd (Rd w' z A c T q243 o) ∧ Hd (Fr z w0 w'))
      case first =>
        have H := H1; clear H1
        obtain ⟨c247, A248, HN⟩ := H.bind; clear H; have H := HN; clear HN
        go_wp2_with fail
        refine (peek_calls hI245 0 c247 A248).mono ?_
        rintro e w249 ⟨rfl, hI249, k249⟩
        have hF249 := hF245.trans k249
        have c0249 := hI249.c0
        have c1249 := hI249.c1
        have c2249 := hI249.c2
        have f249 := hI249.f
        by_cases e250 : (c247 == 46) = true
        · 
          replace H := H.pos e250
          have e250n : (c247 != 46) = false := by simp only [bne, e250, Bool.not_true]
          obtain ⟨c251, A252, HN⟩ := H.bind; clear H; have H := HN; clear HN
          go_wp2_with fail
          refine (peek_calls hI249 1 c251 A252).mono ?_
          rintro e w253 ⟨rfl, hI253, k253⟩
          have hF253 := hF249.trans k253
          have c0253 := hI253.c0
          have c1253 := hI253.c1
          have c2253 := hI253.c2
          have f253 := hI253.f
          go_wp2_with fail
          refine (sisDigit.calls (w := _) c251).mono ?_
          rintro e w' ⟨rfl, rfl⟩
          obtain rfl := H.p1
          go_wp2_with fail
          go_meet
          case rel => exact ⟨(by first | rfl | simp), ⟨hI253⟩, ⟨hF253⟩⟩
        ·
          replace H := H.neg e250
          replace e250 := Bool.eq_false_iff.mpr e250
          have e250n : (c247 != 46) = true := by simp only [bne, e250, Bool.not_false]
          obtain rfl := H.p1
          go_wp2_with fail
          go_meet
          case rel => exact ⟨(by first | rfl | simp), ⟨hI249⟩, ⟨hF249⟩⟩
      case rest =>
        obtain ⟨rfl, gI, gF⟩ := hcut
        have hI255 := gI.out; have hF255 := gF.out; clear gI gF
        have c0255 := hI255.c0
        have c1255 := hI255.c1
        have c2255 := hI255.c2
        have f255 := hI255.f
        have H := HC246; clear HC246 H1
        obtain ⟨q260, H1, HC256⟩ := H.bind; clear H
        go_upto_if 31 with fail
        go_cut [] (fun w' => Hd (Rd w' z A c T q260 o) ∧ Hd (Fr z w0 w'))
        case first =>
          have H := H1; clear H1
          cases b254 with
          | true =>
            replace H := H.tt
            obtain ⟨q257, A258, HN⟩ := H.bind; clear H; have H := HN; clear HN
            go_wp2_with fail
            refine (sdigits.calls K (by repeat (first | exact hI255 | apply Rd.setAt | apply Rd.setOpen | apply Rd.drewN | apply Rd.drew | apply Rd.alloc))  q257 A258).mono ?_
            rintro e w259 ⟨rfl, hI259, k259⟩
            have hF259 := (show Fr z w0 _ by repeat (first | exact hF255 | apply Fr.set | apply Fr.drewN | apply Fr.drew | apply Fr.alloc)).trans k259
            have c0259 := hI259.c0
            have c1259 := hI259.c1
            have c2259 := hI259.c2
            have f259 := hI259.f
            obtain rfl := H.p1
            go_wp2_with fail
            go_meet
            case rel => exact ⟨⟨hI259⟩, ⟨hF259⟩⟩
          | false =>
            replace H := H.ff
            obtain rfl := H.p1
            go_wp2_with fail
            go_meet
            case rel => exact ⟨⟨hI255⟩, ⟨hF255⟩⟩
        case rest =>
          obtain ⟨gI, gF⟩ := hcut
          have hI261 := gI.out; have hF261 := gF.out; clear gI gF
          have c0261 := hI261.c0
          have c1261 := hI261.c1
          have c2261 := hI261.c2
          have f261 := hI261.f
          have H := HC256; clear HC256 H1
          obtain ⟨c262, A263, HN⟩ := H.bind; clear H; have H := HN; clear HN
          go_wp2_with fail
          refine (peek_calls hI261 0 c262 A263).mono ?_
          rintro e w264 ⟨rfl, hI264, k264⟩
          have hF264 := hF261.trans k264
          have c0264 := hI264.c0
          have c1264 := hI264.c1
          have c2264 := hI264.c2
          have f264 := hI264.f
          generalize hb265 : ((c262 == 101) || (c262 == 69)) = b267 at H
          have HB265 := Hd.mk hb265; clear hb265
          go_upto_region 9 with fail
          go_cut [48] (fun v48 w' => v48 = .bool b267 ∧ w264 = w')
          case first =>
            clear H
            by_cases e266 : (c262 == 101) = true
            · 
              have e266n : (c262 != 101) = false := by simp only [bne, e266, Bool.not_true]
              go_wp2_with fail
              go_meet
              case rel => exact ⟨by rw [← HB265.out, e266]; first | rfl | simp, rfl⟩
            ·
              replace e266 := Bool.eq_false_iff.mpr e266
              have e266n : (c262 != 101) = true := by simp only [bne, e266, Bool.not_false]
              go_wp2_with fail
              go_meet
              case rel => exact ⟨by rw [← HB265.out, e266]; first | rfl | simp, rfl⟩
          case rest =>
            obtain ⟨rfl, rfl⟩ := hcut
            obtain ⟨q284, H1, HC268⟩ := H.bind; clear H
            go_upto_if 48 with fail
            go_cut [] (fun w' => Hd (Rd w' z A c T q284 o) ∧ Hd (Fr z w0 w'))
            case first =>
              have H := H1; clear H1
              cases b267 with
              | true =>
                replace H := H.tt
                obtain ⟨c269, A270, HN⟩ := H.bind; clear H; have H := HN; clear HN
                go_wp2_with fail
                refine (peek_calls hI264 1 c269 A270).mono ?_
                rintro e w271 ⟨rfl, hI271, k271⟩
                have hF271 := hF264.trans k271
                have c0271 := hI271.c0
                have c1271 := hI271.c1
                have c2271 := hI271.c2
                have f271 := hI271.f
                generalize hb272 : ((c269 == 43) || (c269 == 45)) = b274 at H
                have HB272 := Hd.mk hb272; clear hb272
                go_upto_region 12 with fail
                go_cut [56] (fun v56 w' => v56 = .bool b274 ∧ w271 = w')
                case first =>
                  clear H
                  by_cases e273 : (c269 == 43) = true
                  · 
                    have e273n : (c269 != 43) = false := by simp only [bne, e273, Bool.not_true]
                    go_wp2_with fail
                    go_meet
                    case rel => exact ⟨by rw [← HB272.out, e273]; first | rfl | simp, rfl⟩
                  ·
                    replace e273 := Bool.eq_false_iff.mpr e273
                    have e273n : (c269 != 43) = true := by simp only [bne, e273, Bool.not_false]
                    go_wp2_with fail
                    go_meet
                    case rel => exact ⟨by rw [← HB272.out, e273]; first | rfl | simp, rfl⟩
                case rest =>
                  obtain ⟨rfl, rfl⟩ := hcut
                  obtain ⟨x276, H1, HC275⟩ := H.bind; clear H
                  go_upto_if 56 with fail
                  go_cut [5] (fun v5 w' => v5 = .int .i64 x276 ∧ w271 = w')
                  case first =>
                    have H := H1; clear H1
                    cases b274 with
                    | true =>
                      replace H := H.tt
                      obtain rfl := H.p1
                      go_wp2_with fail
                      go_meet
                      case rel => exact ⟨(by first | rfl | simp), rfl⟩
                    | false =>
                      replace H := H.ff
                      obtain rfl := H.p1
                      go_wp2_with fail
                      go_meet
                      case rel => exact ⟨(by first | rfl | simp), rfl⟩
                  case rest =>
                    obtain ⟨rfl, rfl⟩ := hcut
                    have H := HC275; clear HC275 H1
                    obtain ⟨c277, A278, HN⟩ := H.bind; clear H; have H := HN; clear HN
                    go_wp2_with fail
                    refine (peek_calls hI271 x276 c277 A278).mono ?_
                    rintro e w279 ⟨rfl, hI279, k279⟩
                    have hF279 := hF271.trans k279
                    have c0279 := hI279.c0
                    have c1279 := hI279.c1
                    have c2279 := hI279.c2
                    have f279 := hI279.f
                    go_wp2_with fail
                    refine (sisDigit.calls (w := _) c277).mono ?_
                    rintro e w' ⟨rfl, rfl⟩
                    by_cases e280 : (sisDigit.f c277) = true
                    · 
                      replace H := H.pos e280
                      obtain ⟨q281, A282, HN⟩ := H.bind; clear H; have H := HN; clear HN
                      go_wp2_with fail
                      refine (sdigits.calls K (by repeat (first | exact hI279 | apply Rd.setAt | apply Rd.setOpen | apply Rd.drewN | apply Rd.drew | apply Rd.alloc))  q281 A282).mono ?_
                      rintro e w283 ⟨rfl, hI283, k283⟩
                      have hF283 := (show Fr z w0 _ by repeat (first | exact hF279 | apply Fr.set | apply Fr.drewN | apply Fr.drew | apply Fr.alloc)).trans k283
                      have c0283 := hI283.c0
                      have c1283 := hI283.c1
                      have c2283 := hI283.c2
                      have f283 := hI283.f
                      obtain rfl := H.p1
                      go_wp2_with fail
                      go_meet
                      case rel => exact ⟨⟨hI283⟩, ⟨hF283⟩⟩
                    ·
                      replace H := H.neg e280
                      replace e280 := Bool.eq_false_iff.mpr e280
                      obtain rfl := H.p1
                      go_wp2_with fail
                      go_meet
                      case rel => exact ⟨⟨hI279⟩, ⟨hF279⟩⟩
              | false =>
                replace H := H.ff
                obtain rfl := H.p1
                go_wp2_with fail
                go_meet
                case rel => exact ⟨⟨hI264⟩, ⟨hF264⟩⟩
            case rest =>
              obtain ⟨gI, gF⟩ := hcut
              have hI285 := gI.out; have hF285 := gF.out; clear gI gF
              have c0285 := hI285.c0
              have c1285 := hI285.c1
              have c2285 := hI285.c2
              have f285 := hI285.f
              have H := HC268; clear HC268 H1
              obtain ⟨⟨t286, o287⟩, A288, HN⟩ := H.bind; clear H; have H := HN; clear HN
              try dsimp only at H
              go_wp2_with fail
              refine (sidentifies.calls hI285 0 t286 o287 A288).mono ?_
              rintro e w289 ⟨rfl, hI289, k289⟩
              have hF289 := hF285.trans k289
              have c0289 := hI289.c0
              have c1289 := hI289.c1
              have c2289 := hI289.c2
              have f289 := hI289.f
              cases t286 with
              | true =>
                replace H := H.tt
                obtain ⟨⟨q290, o291⟩, A292, HN⟩ := H.bind; clear H; have H := HN; clear HN
                try dsimp only at H
                go_wp2_with fail
                refine (sname.calls K hI289  q290 o291 A292).mono ?_
                rintro e w293 ⟨rfl, hI293, k293⟩
                have hF293 := hF289.trans k293
                have c0293 := hI293.c0
                have c1293 := hI293.c1
                have c2293 := hI293.c2
                have f293 := hI293.f
                go_wp2_with fail
                go_ret
                obtain ⟨rfl, rfl, rfl⟩ := H.p3
                exact ⟨(by first | rfl | simp), hI293, hF293⟩
              | false =>
                replace H := H.ff
                obtain ⟨c294, A295, HN⟩ := H.bind; clear H; have H := HN; clear HN
                go_wp2_with fail
                refine (peek_calls hI289 0 c294 A295).mono ?_
                rintro e w296 ⟨rfl, hI296, k296⟩
                have hF296 := hF289.trans k296
                have c0296 := hI296.c0
                have c1296 := hI296.c1
                have c2296 := hI296.c2
                have f296 := hI296.f
                by_cases e297 : (c294 == 37) = true
                · 
                  replace H := H.pos e297
                  have e297n : (c294 != 37) = false := by simp only [bne, e297, Bool.not_true]
                  go_wp2_with fail
                  go_ret
                  obtain ⟨rfl, rfl, rfl⟩ := H.p3
                  exact ⟨(by first | rfl | simp), (by repeat (first | exact hI296 | apply Rd.setAt | apply Rd.setOpen | apply Rd.drewN | apply Rd.drew | apply Rd.alloc)), (by repeat (first | exact hF296 | apply Fr.set | apply Fr.drewN | apply Fr.drew | apply Fr.alloc))⟩
                ·
                  replace H := H.neg e297
                  replace e297 := Bool.eq_false_iff.mpr e297
                  have e297n : (c294 != 37) = true := by simp only [bne, e297, Bool.not_false]
                  go_wp2_with fail
                  go_ret
                  obtain ⟨rfl, rfl, rfl⟩ := H.p3
                  exact ⟨(by first | rfl | simp), hI296, hF296⟩

/-! (*loop.example/pub-g01476/spec.reader).codes -/
def scodes.l0 (K : Nat) (T : List Int) : Nat → Int → Int → Option (Int × Int)
  | 0, _, _ => none
  | k + 1, x299, q300 =>
    (if (decide (x299 < 6)) = true then ((rpk T q300 0).bind fun c304 =>
    some (decide (0 ≤ shexValue.f c304))) else
    some false).bind fun b307 =>
    if b307 = true then (scodes.l0 K T k (wrap64 (x299 + 1)) (wrap64 (q300 + 1))) else
    some (x299, q300)
def scodes.l1 (K : Nat) (T : List Int) : Nat → Int → Bool → Int → Option (Bool × Int)
  | 0, _, _, _ => none
  | k + 1, x313, b314, q315 =>
    (if (decide (x313 < 6)) = true then ((rpk T q315 0).bind fun c319 =>
    some (c319 == 63)) else
    some false).bind fun b322 =>
    if b322 = true then (scodes.l1 K T k (wrap64 (x313 + 1)) true (wrap64 (q315 + 1))) else
    some (b314, q315)
def scodes.l2 (K : Nat) (T : List Int) : Nat → Int → Int → Option (Int)
  | 0, _, _ => none
  | k + 1, x359, q360 =>
    (if (decide (x359 < 6)) = true then ((rpk T q360 0).bind fun c364 =>
    some (decide (0 ≤ shexValue.f c364))) else
    some false).bind fun b367 =>
    if b367 = true then (scodes.l2 K T k (wrap64 (x359 + 1)) (wrap64 (q360 + 1))) else
    some q360
def scodes.f (K : Nat) (T : List Int) (q : Int) (o : Bool) : Option (List Int × Int × Bool) :=
(scodes.l0 K T K 0 (wrap64 (q + 2))).bind fun (x309, q310) =>
(scodes.l1 K T K x309 false q310).bind fun (b324, q325) =>
((rpk T q325 0).bind fun c328 =>
if (decide (0 ≤ shexValue.f c328)) = true then (some true) else
(rpk T q325 0).bind fun c332 =>
if (c332 == 63) = true then (some true) else
(rpk T q325 0).bind fun c336 =>
if (c336 == 45) = true then (if b324 = true then (some true) else
(rpk T q325 1).bind fun c340 =>
some (decide (shexValue.f c340 < 0))) else
some false).bind fun b343 =>
(if b343 = true then (some true) else
some o).bind fun o346 =>
(if b324 = true then (some false) else
(rpk T q325 0).bind fun c349 =>
if (c349 == 45) = true then ((rpk T q325 1).bind fun c353 =>
some (decide (0 ≤ shexValue.f c353))) else
some false).bind fun b356 =>
if b356 = true then ((scodes.l2 K T K 0 (wrap64 (q325 + 1))).bind fun q369 =>
(rpk T q369 0).bind fun c371 =>
if (decide (0 ≤ shexValue.f c371)) = true then (some ([114, 97, 110, 103, 101], q369, true)) else
some ([114, 97, 110, 103, 101], q369, o346)) else
some ([114, 97, 110, 103, 101], q325, o346)
set_option maxHeartbeats 8000000 in
set_option maxRecDepth 100000 in
theorem scodes.calls (K : Nat) {w0 : World} {z : Nat} {A : Option Addr} {c : Nat} {T : List Int} {q : Int} {o : Bool} (hI0 : Rd w0 z A c T q o) (r0 : List Int) (r1 : Int) (r2 : Bool) (H : Hd (scodes.f K T q o = some (r0, r1, r2))) :
    Calls Tryd.prog 49 #[.pointer (some ⟨z, 0, none⟩)] w0 fun e w' => e = .returned (.string (bstr r0)) ∧ Rd w' z A c T r1 r2 ∧ Fr z w0 w' := by
  have hF0 := Fr.refl z w0
  have c00 := hI0.c0
  have c10 := hI0.c1
  have c20 := hI0.c2
  have f0 := hI0.f
  unfold scodes.f at H
  go_enter Tryd.func49, Tryd.ntmps49
  obtain ⟨⟨x309, q310⟩, H1, HC298⟩ := H.bind; clear H
  try dsimp only at HC298
  go_upto_block 0 with fail
  go_cut [3] (fun v3 w' => v3 = .int .i64 x309 ∧ Hd (Rd w' z A c T q310 o) ∧ Hd (Fr z w0 w'))
  case first =>
    go_wp2_with fail
    go_loopg [3] K (fun gk v3 w' => ∃ (x299 : Int), ∃ (q300 : Int), v3 = .int .i64 x299 ∧ Hd (scodes.l0 K T gk x299 q300 = some (x309, q310)) ∧ Hd (Rd w' z A c T q300 o) ∧ Hd (Fr z w0 w'))
    case atStart => exact ⟨0, wrap64 (q + 2), (by first | rfl | simp), H1, ⟨(by repeat (first | exact hI0 | apply Rd.setAt | apply Rd.setOpen | apply Rd.drewN | apply Rd.drew | apply Rd.alloc))⟩, ⟨(by repeat (first | exact hF0 | apply Fr.set | apply Fr.drewN | apply Fr.drew | apply Fr.alloc))⟩⟩
    case round =>
      clear H1
      obtain ⟨x299, q300, rfl, H, gI, gF⟩ := hrel
      have hI301 := gI.out; have hF301 := gF.out; clear gI gF
      have c0301 := hI301.c0
      have c1301 := hI301.c1
      have c2301 := hI301.c2
      have f301 := hI301.f
      cases gk with
      | zero => exact absurd H.out (by simp [scodes.l0])
      | succ k =>
        simp only [scodes.l0] at H
        obtain ⟨b307, H1, HC302⟩ := H.bind; clear H
        go_upto_region 3 with fail
        go_cut [20] (fun v20 w' => v20 = .bool b307 ∧ Hd (Rd w' z A c T q300 o) ∧ Hd (Fr z w0 w'))
        case first =>
          have H := H1; clear H1
          by_cases e303 : (decide (x299 < 6)) = true
          · 
            replace H := H.pos e303
            obtain ⟨c304, A305, HN⟩ := H.bind; clear H; have H := HN; clear HN
            go_wp2_with fail
            refine (peek_calls hI301 0 c304 A305).mono ?_
            rintro e w306 ⟨rfl, hI306, k306⟩
            have hF306 := hF301.trans k306
            have c0306 := hI306.c0
            have c1306 := hI306.c1
            have c2306 := hI306.c2
            have f306 := hI306.f
            go_wp2_with fail
            refine (shexValue.calls (w := _) c304).mono ?_
            rintro e w' ⟨rfl, rfl⟩
            obtain rfl := H.p1
            go_wp2_with fail
            go_meet
            case rel => exact ⟨(by first | rfl | simp), ⟨hI306⟩, ⟨hF306⟩⟩
          ·
            replace H := H.neg e303
            replace e303 := Bool.eq_false_iff.mpr e303
            obtain rfl := H.p1
            go_wp2_with fail
            go_meet
            case rel => exact ⟨(by first | rfl | simp), ⟨hI301⟩, ⟨hF301⟩⟩
        case rest =>
          obtain ⟨rfl, gI, gF⟩ := hcut
          have hI308 := gI.out; have hF308 := gF.out; clear gI gF
          have c0308 := hI308.c0
          have c1308 := hI308.c1
          have c2308 := hI308.c2
          have f308 := hI308.f
          have H := HC302; clear HC302 H1
          cases b307 with
          | true =>
            replace H := H.tt
            go_wp2_with fail
            go_roundg k
            case measure => exact Nat.lt_succ_self _
            case rel => exact ⟨wrap64 (x299 + 1), wrap64 (q300 + 1), (by first | rfl | simp), H, ⟨(by repeat (first | exact hI308 | apply Rd.setAt | apply Rd.setOpen | apply Rd.drewN | apply Rd.drew | apply Rd.alloc))⟩, ⟨(by repeat (first | exact hF308 | apply Fr.set | apply Fr.drewN | apply Fr.drew | apply Fr.alloc))⟩⟩
          | false =>
            replace H := H.ff
            obtain ⟨rfl, rfl⟩ := H.p2
            go_wp2_with fail
            go_meet
            case rel => exact ⟨(by first | rfl | simp), ⟨hI308⟩, ⟨hF308⟩⟩
  case rest =>
    obtain ⟨rfl, gI, gF⟩ := hcut
    have hI311 := gI.out; have hF311 := gF.out; clear gI gF
    have c0311 := hI311.c0
    have c1311 := hI311.c1
    have c2311 := hI311.c2
    have f311 := hI311.f
    have H := HC298; clear HC298 H1
    obtain ⟨⟨b324, q325⟩, H1, HC312⟩ := H.bind; clear H
    try dsimp only at HC312
    go_upto_block 2 with fail
    go_cut [4] (fun v4 w' => v4 = .bool b324 ∧ Hd (Rd w' z A c T q325 o) ∧ Hd (Fr z w0 w'))
    case first =>
      go_wp2_with fail
      go_loopg [3, 4] K (fun gk v3 v4 w' => ∃ (x313 : Int), ∃ (b314 : Bool), ∃ (q315 : Int), v3 = .int .i64 x313 ∧ v4 = .bool b314 ∧ Hd (scodes.l1 K T gk x313 b314 q315 = some (b324, q325)) ∧ Hd (Rd w' z A c T q315 o) ∧ Hd (Fr z w0 w'))
      case atStart => exact ⟨x309, false, q310, (by first | rfl | simp), (by first | rfl | simp), H1, ⟨hI311⟩, ⟨hF311⟩⟩
      case round =>
        clear H1
        obtain ⟨x313, b314, q315, rfl, rfl, H, gI, gF⟩ := hrel
        have hI316 := gI.out; have hF316 := gF.out; clear gI gF
        have c0316 := hI316.c0
        have c1316 := hI316.c1
        have c2316 := hI316.c2
        have f316 := hI316.f
        cases gk with
        | zero => exact absurd H.out (by simp [scodes.l1])
        | succ k =>
          simp only [scodes.l1] at H
          obtain ⟨b322, H1, HC317⟩ := H.bind; clear H
          go_upto_region 7 with fail
          go_cut [36] (fun v36 w' => v36 = .bool b322 ∧ Hd (Rd w' z A c T q315 o) ∧ Hd (Fr z w0 w'))
          case first =>
            have H := H1; clear H1
            by_cases e318 : (decide (x313 < 6)) = true
            · 
              replace H := H.pos e318
              obtain ⟨c319, A320, HN⟩ := H.bind; clear H; have H := HN; clear HN
              go_wp2_with fail
              refine (peek_calls hI316 0 c319 A320).mono ?_
              rintro e w321 ⟨rfl, hI321, k321⟩
              have hF321 := hF316.trans k321
              have c0321 := hI321.c0
              have c1321 := hI321.c1
              have c2321 := hI321.c2
              have f321 := hI321.f
              obtain rfl := H.p1
              go_wp2_with fail
              go_meet
              case rel => exact ⟨(by first | rfl | simp), ⟨hI321⟩, ⟨hF321⟩⟩
            ·
              replace H := H.neg e318
              replace e318 := Bool.eq_false_iff.mpr e318
              obtain rfl := H.p1
              go_wp2_with fail
              go_meet
              case rel => exact ⟨(by first | rfl | simp), ⟨hI316⟩, ⟨hF316⟩⟩
          case rest =>
            obtain ⟨rfl, gI, gF⟩ := hcut
            have hI323 := gI.out; have hF323 := gF.out; clear gI gF
            have c0323 := hI323.c0
            have c1323 := hI323.c1
            have c2323 := hI323.c2
            have f323 := hI323.f
            have H := HC317; clear HC317 H1
            cases b322 with
            | true =>
              replace H := H.tt
              go_wp2_with fail
              go_roundg k
              case measure => exact Nat.lt_succ_self _
              case rel => exact ⟨wrap64 (x313 + 1), true, wrap64 (q315 + 1), (by first | rfl | simp), (by first | rfl | simp), H, ⟨(by repeat (first | exact hI323 | apply Rd.setAt | apply Rd.setOpen | apply Rd.drewN | apply Rd.drew | apply Rd.alloc))⟩, ⟨(by repeat (first | exact hF323 | apply Fr.set | apply Fr.drewN | apply Fr.drew | apply Fr.alloc))⟩⟩
            | false =>
              replace H := H.ff
              obtain ⟨rfl, rfl⟩ := H.p2
              go_wp2_with fail
              go_meet
              case rel => exact ⟨(by first | rfl | simp), ⟨hI323⟩, ⟨hF323⟩⟩
    case rest =>
      obtain ⟨rfl, gI, gF⟩ := hcut
      have hI326 := gI.out; have hF326 := gF.out; clear gI gF
      have c0326 := hI326.c0
      have c1326 := hI326.c1
      have c2326 := hI326.c2
      have f326 := hI326.f
      have H := HC312; clear HC312 H1
      obtain ⟨b343, H1, HC327⟩ := H.bind; clear H
      go_upto_region 11 with fail
      go_cut [68] (fun v68 w' => v68 = .bool b343 ∧ Hd (Rd w' z A c T q325 o) ∧ Hd (Fr z w0 w'))
      case first =>
        have H := H1; clear H1
        obtain ⟨c328, A329, HN⟩ := H.bind; clear H; have H := HN; clear HN
        go_wp2_with fail
        refine (peek_calls hI326 0 c328 A329).mono ?_
        rintro e w330 ⟨rfl, hI330, k330⟩
        have hF330 := hF326.trans k330
        have c0330 := hI330.c0
        have c1330 := hI330.c1
        have c2330 := hI330.c2
        have f330 := hI330.f
        go_wp2_with fail
        refine (shexValue.calls (w := _) c328).mono ?_
        rintro e w' ⟨rfl, rfl⟩
        by_cases e331 : (decide (0 ≤ shexValue.f c328)) = true
        · 
          replace H := H.pos e331
          obtain rfl := H.p1
          go_wp2_with fail
          go_meet
          case rel => exact ⟨(by first | rfl | simp), ⟨hI330⟩, ⟨hF330⟩⟩
        ·
          replace H := H.neg e331
          replace e331 := Bool.eq_false_iff.mpr e331
          obtain ⟨c332, A333, HN⟩ := H.bind; clear H; have H := HN; clear HN
          go_wp2_with fail
          refine (peek_calls hI330 0 c332 A333).mono ?_
          rintro e w334 ⟨rfl, hI334, k334⟩
          have hF334 := hF330.trans k334
          have c0334 := hI334.c0
          have c1334 := hI334.c1
          have c2334 := hI334.c2
          have f334 := hI334.f
          by_cases e335 : (c332 == 63) = true
          · 
            replace H := H.pos e335
            have e335n : (c332 != 63) = false := by simp only [bne, e335, Bool.not_true]
            obtain rfl := H.p1
            go_wp2_with fail
            go_meet
            case rel => exact ⟨(by first | rfl | simp), ⟨hI334⟩, ⟨hF334⟩⟩
          ·
            replace H := H.neg e335
            replace e335 := Bool.eq_false_iff.mpr e335
            have e335n : (c332 != 63) = true := by simp only [bne, e335, Bool.not_false]
            obtain ⟨c336, A337, HN⟩ := H.bind; clear H; have H := HN; clear HN
            go_wp2_with fail
            refine (peek_calls hI334 0 c336 A337).mono ?_
            rintro e w338 ⟨rfl, hI338, k338⟩
            have hF338 := hF334.trans k338
            have c0338 := hI338.c0
            have c1338 := hI338.c1
            have c2338 := hI338.c2
            have f338 := hI338.f
            by_cases e339 : (c336 == 45) = true
            · 
              replace H := H.pos e339
              have e339n : (c336 != 45) = false := by simp only [bne, e339, Bool.not_true]
              cases b324 with
              | true =>
                replace H := H.tt
                obtain rfl := H.p1
                go_wp2_with fail
                go_meet
                case rel => exact ⟨(by first | rfl | simp), ⟨hI338⟩, ⟨hF338⟩⟩
              | false =>
                replace H := H.ff
                obtain ⟨c340, A341, HN⟩ := H.bind; clear H; have H := HN; clear HN
                go_wp2_with fail
                refine (peek_calls hI338 1 c340 A341).mono ?_
                rintro e w342 ⟨rfl, hI342, k342⟩
                have hF342 := hF338.trans k342
                have c0342 := hI342.c0
                have c1342 := hI342.c1
                have c2342 := hI342.c2
                have f342 := hI342.f
                go_wp2_with fail
                refine (shexValue.calls (w := _) c340).mono ?_
                rintro e w' ⟨rfl, rfl⟩
                obtain rfl := H.p1
                go_wp2_with fail
                go_meet
                case rel => exact ⟨(by first | rfl | simp), ⟨hI342⟩, ⟨hF342⟩⟩
            ·
              replace H := H.neg e339
              replace e339 := Bool.eq_false_iff.mpr e339
              have e339n : (c336 != 45) = true := by simp only [bne, e339, Bool.not_false]
              obtain rfl := H.p1
              go_wp2_with fail
              go_meet
              case rel => exact ⟨(by first | rfl | simp), ⟨hI338⟩, ⟨hF338⟩⟩
      case rest =>
        obtain ⟨rfl, gI, gF⟩ := hcut
        have hI344 := gI.out; have hF344 := gF.out; clear gI gF
        have c0344 := hI344.c0
        have c1344 := hI344.c1
        have c2344 := hI344.c2
        have f344 := hI344.f
        have H := HC327; clear HC327 H1
        obtain ⟨o346, H1, HC345⟩ := H.bind; clear H
        go_upto_if 68 with fail
        go_cut [] (fun w' => Hd (Rd w' z A c T q325 o346) ∧ Hd (Fr z w0 w'))
        case first =>
          have H := H1; clear H1
          cases b343 with
          | true =>
            replace H := H.tt
            obtain rfl := H.p1
            go_wp2_with fail
            go_meet
            case rel => exact ⟨⟨(by repeat (first | exact hI344 | apply Rd.setAt | apply Rd.setOpen | apply Rd.drewN | apply Rd.drew | apply Rd.alloc))⟩, ⟨(by repeat (first | exact hF344 | apply Fr.set | apply Fr.drewN | apply Fr.drew | apply Fr.alloc))⟩⟩
          | false =>
            replace H := H.ff
            obtain rfl := H.p1
            go_wp2_with fail
            go_meet
            case rel => exact ⟨⟨hI344⟩, ⟨hF344⟩⟩
        case rest =>
          obtain ⟨gI, gF⟩ := hcut
          have hI347 := gI.out; have hF347 := gF.out; clear gI gF
          have c0347 := hI347.c0
          have c1347 := hI347.c1
          have c2347 := hI347.c2
          have f347 := hI347.f
          have H := HC345; clear HC345 H1
          obtain ⟨b356, H1, HC348⟩ := H.bind; clear H
          go_upto_region 13 with fail
          go_cut [84] (fun v84 w' => v84 = .bool b356 ∧ Hd (Rd w' z A c T q325 o346) ∧ Hd (Fr z w0 w'))
          case first =>
            have H := H1; clear H1
            cases b324 with
            | true =>
              replace H := H.tt
              obtain rfl := H.p1
              go_wp2_with fail
              go_meet
              case rel => exact ⟨(by first | rfl | simp), ⟨hI347⟩, ⟨hF347⟩⟩
            | false =>
              replace H := H.ff
              obtain ⟨c349, A350, HN⟩ := H.bind; clear H; have H := HN; clear HN
              go_wp2_with fail
              refine (peek_calls hI347 0 c349 A350).mono ?_
              rintro e w351 ⟨rfl, hI351, k351⟩
              have hF351 := hF347.trans k351
              have c0351 := hI351.c0
              have c1351 := hI351.c1
              have c2351 := hI351.c2
              have f351 := hI351.f
              by_cases e352 : (c349 == 45) = true
              · 
                replace H := H.pos e352
                have e352n : (c349 != 45) = false := by simp only [bne, e352, Bool.not_true]
                obtain ⟨c353, A354, HN⟩ := H.bind; clear H; have H := HN; clear HN
                go_wp2_with fail
                refine (peek_calls hI351 1 c353 A354).mono ?_
                rintro e w355 ⟨rfl, hI355, k355⟩
                have hF355 := hF351.trans k355
                have c0355 := hI355.c0
                have c1355 := hI355.c1
                have c2355 := hI355.c2
                have f355 := hI355.f
                go_wp2_with fail
                refine (shexValue.calls (w := _) c353).mono ?_
                rintro e w' ⟨rfl, rfl⟩
                obtain rfl := H.p1
                go_wp2_with fail
                go_meet
                case rel => exact ⟨(by first | rfl | simp), ⟨hI355⟩, ⟨hF355⟩⟩
              ·
                replace H := H.neg e352
                replace e352 := Bool.eq_false_iff.mpr e352
                have e352n : (c349 != 45) = true := by simp only [bne, e352, Bool.not_false]
                obtain rfl := H.p1
                go_wp2_with fail
                go_meet
                case rel => exact ⟨(by first | rfl | simp), ⟨hI351⟩, ⟨hF351⟩⟩
          case rest =>
            obtain ⟨rfl, gI, gF⟩ := hcut
            have hI357 := gI.out; have hF357 := gF.out; clear gI gF
            have c0357 := hI357.c0
            have c1357 := hI357.c1
            have c2357 := hI357.c2
            have f357 := hI357.f
            have H := HC348; clear HC348 H1
            cases b356 with
            | true =>
              replace H := H.tt
              obtain ⟨q369, H1, HC358⟩ := H.bind; clear H
              go_upto_block 4 with fail
              go_cut [] (fun w' => Hd (Rd w' z A c T q369 o346) ∧ Hd (Fr z w0 w'))
              case first =>
                go_wp2_with fail
                go_loopg [5] K (fun gk v5 w' => ∃ (x359 : Int), ∃ (q360 : Int), v5 = .int .i64 x359 ∧ Hd (scodes.l2 K T gk x359 q360 = some q369) ∧ Hd (Rd w' z A c T q360 o346) ∧ Hd (Fr z w0 w'))
                case atStart => exact ⟨0, wrap64 (q325 + 1), (by first | rfl | simp), H1, ⟨(by repeat (first | exact hI357 | apply Rd.setAt | apply Rd.setOpen | apply Rd.drewN | apply Rd.drew | apply Rd.alloc))⟩, ⟨(by repeat (first | exact hF357 | apply Fr.set | apply Fr.drewN | apply Fr.drew | apply Fr.alloc))⟩⟩
                case round =>
                  clear H1
                  obtain ⟨x359, q360, rfl, H, gI, gF⟩ := hrel
                  have hI361 := gI.out; have hF361 := gF.out; clear gI gF
                  have c0361 := hI361.c0
                  have c1361 := hI361.c1
                  have c2361 := hI361.c2
                  have f361 := hI361.f
                  cases gk with
                  | zero => exact absurd H.out (by simp [scodes.l2])
                  | succ k =>
                    simp only [scodes.l2] at H
                    obtain ⟨b367, H1, HC362⟩ := H.bind; clear H
                    go_upto_region 16 with fail
                    go_cut [99] (fun v99 w' => v99 = .bool b367 ∧ Hd (Rd w' z A c T q360 o346) ∧ Hd (Fr z w0 w'))
                    case first =>
                      have H := H1; clear H1
                      by_cases e363 : (decide (x359 < 6)) = true
                      · 
                        replace H := H.pos e363
                        obtain ⟨c364, A365, HN⟩ := H.bind; clear H; have H := HN; clear HN
                        go_wp2_with fail
                        refine (peek_calls hI361 0 c364 A365).mono ?_
                        rintro e w366 ⟨rfl, hI366, k366⟩
                        have hF366 := hF361.trans k366
                        have c0366 := hI366.c0
                        have c1366 := hI366.c1
                        have c2366 := hI366.c2
                        have f366 := hI366.f
                        go_wp2_with fail
                        refine (shexValue.calls (w := _) c364).mono ?_
                        rintro e w' ⟨rfl, rfl⟩
                        obtain rfl := H.p1
                        go_wp2_with fail
                        go_meet
                        case rel => exact ⟨(by first | rfl | simp), ⟨hI366⟩, ⟨hF366⟩⟩
                      ·
                        replace H := H.neg e363
                        replace e363 := Bool.eq_false_iff.mpr e363
                        obtain rfl := H.p1
                        go_wp2_with fail
                        go_meet
                        case rel => exact ⟨(by first | rfl | simp), ⟨hI361⟩, ⟨hF361⟩⟩
                    case rest =>
                      obtain ⟨rfl, gI, gF⟩ := hcut
                      have hI368 := gI.out; have hF368 := gF.out; clear gI gF
                      have c0368 := hI368.c0
                      have c1368 := hI368.c1
                      have c2368 := hI368.c2
                      have f368 := hI368.f
                      have H := HC362; clear HC362 H1
                      cases b367 with
                      | true =>
                        replace H := H.tt
                        go_wp2_with fail
                        go_roundg k
                        case measure => exact Nat.lt_succ_self _
                        case rel => exact ⟨wrap64 (x359 + 1), wrap64 (q360 + 1), (by first | rfl | simp), H, ⟨(by repeat (first | exact hI368 | apply Rd.setAt | apply Rd.setOpen | apply Rd.drewN | apply Rd.drew | apply Rd.alloc))⟩, ⟨(by repeat (first | exact hF368 | apply Fr.set | apply Fr.drewN | apply Fr.drew | apply Fr.alloc))⟩⟩
                      | false =>
                        replace H := H.ff
                        obtain rfl := H.p1
                        go_wp2_with fail
                        go_meet
                        case rel => exact ⟨⟨hI368⟩, ⟨hF368⟩⟩
              case rest =>
                obtain ⟨gI, gF⟩ := hcut
                have hI370 := gI.out; have hF370 := gF.out; clear gI gF
                have c0370 := hI370.c0
                have c1370 := hI370.c1
                have c2370 := hI370.c2
                have f370 := hI370.f
                have H := HC358; clear HC358 H1
                obtain ⟨c371, A372, HN⟩ := H.bind; clear H; have H := HN; clear HN
                go_wp2_with fail
                refine (peek_calls hI370 0 c371 A372).mono ?_
                rintro e w373 ⟨rfl, hI373, k373⟩
                have hF373 := hF370.trans k373
                have c0373 := hI373.c0
                have c1373 := hI373.c1
                have c2373 := hI373.c2
                have f373 := hI373.f
                go_wp2_with fail
                refine (shexValue.calls (w := _) c371).mono ?_
                rintro e w' ⟨rfl, rfl⟩
                by_cases e374 : (decide (0 ≤ shexValue.f c371)) = true
                · 
                  replace H := H.pos e374
                  go_wp2_with fail
                  go_ret
                  obtain ⟨rfl, rfl, rfl⟩ := H.p3
                  exact ⟨(by first | rfl | simp), (by repeat (first | exact hI373 | apply Rd.setAt | apply Rd.setOpen | apply Rd.drewN | apply Rd.drew | apply Rd.alloc)), (by repeat (first | exact hF373 | apply Fr.set | apply Fr.drewN | apply Fr.drew | apply Fr.alloc))⟩
                ·
                  replace H := H.neg e374
                  replace e374 := Bool.eq_false_iff.mpr e374
                  go_wp2_with fail
                  go_ret
                  obtain ⟨rfl, rfl, rfl⟩ := H.p3
                  exact ⟨(by first | rfl | simp), hI373, hF373⟩
            | false =>
              replace H := H.ff
              go_wp2_with fail
              go_ret
              obtain ⟨rfl, rfl, rfl⟩ := H.p3
              exact ⟨(by first | rfl | simp), hI357, hF357⟩

/-! (*loop.example/pub-g01476/spec.reader).address -/
def saddress.l0 (K : Nat) (T : List Int) : Nat → Int → Bool → Option ((List Int × Int × Bool) ⊕ (Int × Bool))
  | 0, _, _ => none
  | k + 1, q379, o380 =>
    if (rover T q379) = true then (some (.inr (q379, o380))) else
    (rpk T q379 0).bind fun c384 =>
    if (c384 == 41) = true then (some (.inl ([117, 114, 108], wrap64 (q379 + 1), o380))) else
    if (sIsBlank.f c384) = true then ((sblanks.f K T q379 o380).bind fun q389 =>
    (rpk T q389 0).bind fun c392 =>
    if (c392 == 41) = true then (some (.inl ([117, 114, 108], wrap64 (q389 + 1), o380))) else
    (swrong.f T q389 o380).bind fun (s396, o397) =>
    some (.inl (s396, q389, o397))) else
    if ((c384 == 34) || ((c384 == 39) || ((c384 == 40) || (sisControl.f c384)))) = true then ((swrong.f T q379 o380).bind fun (s405, o406) =>
    some (.inl (s405, q379, o406))) else
    if (c384 == 92) = true then ((sescapes.f T q379 o380 0).bind fun (t410, o411) =>
    if t410 = true then ((sescape.f K T q379 o411).bind fun (q414, o415) =>
    saddress.l0 K T k q414 o415) else
    (swrong.f T q379 o411).bind fun (s418, o419) =>
    some (.inl (s418, q379, o419))) else
    saddress.l0 K T k (wrap64 (q379 + 1)) o380
def saddress.f (K : Nat) (T : List Int) (q : Int) (o : Bool) : Option (List Int × Int × Bool) :=
(sblanks.f K T q o).bind fun q375 =>
(saddress.l0 K T K q375 o).bind fun o => joinS o (fun x => some x) fun (q422, o423) =>
some ([117, 114, 108], q422, true)
set_option maxHeartbeats 8000000 in
set_option maxRecDepth 100000 in
theorem saddress.calls (K : Nat) {w0 : World} {z : Nat} {A : Option Addr} {c : Nat} {T : List Int} {q : Int} {o : Bool} (hI0 : Rd w0 z A c T q o) (r0 : List Int) (r1 : Int) (r2 : Bool) (H : Hd (saddress.f K T q o = some (r0, r1, r2))) :
    Calls Tryd.prog 79 #[.pointer (some ⟨z, 0, none⟩)] w0 fun e w' => e = .returned (.string (bstr r0)) ∧ Rd w' z A c T r1 r2 ∧ Fr z w0 w' := by
  have hF0 := Fr.refl z w0
  have c00 := hI0.c0
  have c10 := hI0.c1
  have c20 := hI0.c2
  have f0 := hI0.f
  unfold saddress.f at H
  go_enter Tryd.func79, Tryd.ntmps79
  obtain ⟨q375, A376, HN⟩ := H.bind; clear H; have H := HN; clear HN
  go_wp2_with fail
  refine (sblanks.calls K hI0  q375 A376).mono ?_
  rintro e w377 ⟨rfl, hI377, k377⟩
  have hF377 := hF0.trans k377
  have c0377 := hI377.c0
  have c1377 := hI377.c1
  have c2377 := hI377.c2
  have f377 := hI377.f
  obtain ⟨o378, H1, HC378⟩ := H.bind; clear H
  go_upto_block 0 with fail
  go_cut [] (fun w' => ∃ (q422 : Int), ∃ (o423 : Bool), Hd (o378 = .inr (q422, o423)) ∧ Hd (Rd w' z A c T q422 o423) ∧ Hd (Fr z w0 w'))
  case first =>
    go_wp2_with fail
    go_loopg [] K (fun gk w' => ∃ (q379 : Int), ∃ (o380 : Bool), Hd (saddress.l0 K T gk q379 o380 = some o378) ∧ Hd (Rd w' z A c T q379 o380) ∧ Hd (Fr z w0 w'))
    case atStart => exact ⟨q375, o, H1, ⟨hI377⟩, ⟨hF377⟩⟩
    case round =>
      clear H1
      obtain ⟨q379, o380, H, gI, gF⟩ := hrel
      have hI381 := gI.out; have hF381 := gF.out; clear gI gF
      have c0381 := hI381.c0
      have c1381 := hI381.c1
      have c2381 := hI381.c2
      have f381 := hI381.f
      cases gk with
      | zero => exact absurd H.out (by simp [saddress.l0])
      | succ k =>
        simp only [saddress.l0] at H
        go_wp2_with fail
        refine (over_calls hI381).mono ?_
        rintro e w382 ⟨rfl, hI382, k382⟩
        have hF382 := hF381.trans k382
        have c0382 := hI382.c0
        have c1382 := hI382.c1
        have c2382 := hI382.c2
        have f382 := hI382.f
        by_cases e383 : (rover T q379) = true
        · 
          replace H := H.pos e383
          obtain rfl := H.p1
          go_wp2_with fail
          go_meet
          case rel => exact ⟨q379, o380, ⟨rfl⟩, ⟨hI382⟩, ⟨hF382⟩⟩
        ·
          replace H := H.neg e383
          replace e383 := Bool.eq_false_iff.mpr e383
          obtain ⟨c384, A385, HN⟩ := H.bind; clear H; have H := HN; clear HN
          go_wp2_with fail
          refine (peek_calls hI382 0 c384 A385).mono ?_
          rintro e w386 ⟨rfl, hI386, k386⟩
          have hF386 := hF382.trans k386
          have c0386 := hI386.c0
          have c1386 := hI386.c1
          have c2386 := hI386.c2
          have f386 := hI386.f
          by_cases e387 : (c384 == 41) = true
          · 
            replace H := H.pos e387
            have e387n : (c384 != 41) = false := by simp only [bne, e387, Bool.not_true]
            obtain rfl := H.p1; clear H
            have H := HC378.inlS; clear HC378
            go_wp2_with fail
            go_ret
            obtain ⟨rfl, rfl, rfl⟩ := H.p3
            exact ⟨(by first | rfl | simp), (by repeat (first | exact hI386 | apply Rd.setAt | apply Rd.setOpen | apply Rd.drewN | apply Rd.drew | apply Rd.alloc)), (by repeat (first | exact hF386 | apply Fr.set | apply Fr.drewN | apply Fr.drew | apply Fr.alloc))⟩
          ·
            replace H := H.neg e387
            replace e387 := Bool.eq_false_iff.mpr e387
            have e387n : (c384 != 41) = true := by simp only [bne, e387, Bool.not_false]
            go_wp2_with fail
            refine (sIsBlank.calls (w := _) c384).mono ?_
            rintro e w' ⟨rfl, rfl⟩
            by_cases e388 : (sIsBlank.f c384) = true
            · 
              replace H := H.pos e388
              obtain ⟨q389, A390, HN⟩ := H.bind; clear H; have H := HN; clear HN
              go_wp2_with fail
              refine (sblanks.calls K hI386  q389 A390).mono ?_
              rintro e w391 ⟨rfl, hI391, k391⟩
              have hF391 := hF386.trans k391
              have c0391 := hI391.c0
              have c1391 := hI391.c1
              have c2391 := hI391.c2
              have f391 := hI391.f
              obtain ⟨c392, A393, HN⟩ := H.bind; clear H; have H := HN; clear HN
              go_wp2_with fail
              refine (peek_calls hI391 0 c392 A393).mono ?_
              rintro e w394 ⟨rfl, hI394, k394⟩
              have hF394 := hF391.trans k394
              have c0394 := hI394.c0
              have c1394 := hI394.c1
              have c2394 := hI394.c2
              have f394 := hI394.f
              by_cases e395 : (c392 == 41) = true
              · 
                replace H := H.pos e395
                have e395n : (c392 != 41) = false := by simp only [bne, e395, Bool.not_true]
                obtain rfl := H.p1; clear H
                have H := HC378.inlS; clear HC378
                go_wp2_with fail
                go_ret
                obtain ⟨rfl, rfl, rfl⟩ := H.p3
                exact ⟨(by first | rfl | simp), (by repeat (first | exact hI394 | apply Rd.setAt | apply Rd.setOpen | apply Rd.drewN | apply Rd.drew | apply Rd.alloc)), (by repeat (first | exact hF394 | apply Fr.set | apply Fr.drewN | apply Fr.drew | apply Fr.alloc))⟩
              ·
                replace H := H.neg e395
                replace e395 := Bool.eq_false_iff.mpr e395
                have e395n : (c392 != 41) = true := by simp only [bne, e395, Bool.not_false]
                obtain ⟨⟨s396, o397⟩, A398, HN⟩ := H.bind; clear H; have H := HN; clear HN
                try dsimp only at H
                go_wp2_with fail
                refine (swrong.calls hI394  s396 o397 A398).mono ?_
                rintro e w399 ⟨rfl, hI399, k399⟩
                have hF399 := hF394.trans k399
                have c0399 := hI399.c0
                have c1399 := hI399.c1
                have c2399 := hI399.c2
                have f399 := hI399.f
                obtain rfl := H.p1; clear H
                have H := HC378.inlS; clear HC378
                go_wp2_with fail
                go_ret
                obtain ⟨rfl, rfl, rfl⟩ := H.p3
                exact ⟨(by first | rfl | simp), hI399, hF399⟩
            ·
              replace H := H.neg e388
              replace e388 := Bool.eq_false_iff.mpr e388
              generalize hb400 : ((c384 == 34) || ((c384 == 39) || ((c384 == 40) || (sisControl.f c384)))) = b404 at H
              have HB400 := Hd.mk hb400; clear hb400
              go_upto_region 14 with fail
              go_cut [45] (fun v45 w' => v45 = .bool b404 ∧ w386 = w')
              case first =>
                clear H
                by_cases e401 : (c384 == 34) = true
                · 
                  have e401n : (c384 != 34) = false := by simp only [bne, e401, Bool.not_true]
                  go_wp2_with fail
                  go_meet
                  case rel => exact ⟨by rw [← HB400.out, e401]; first | rfl | simp, rfl⟩
                ·
                  replace e401 := Bool.eq_false_iff.mpr e401
                  have e401n : (c384 != 34) = true := by simp only [bne, e401, Bool.not_false]
                  by_cases e402 : (c384 == 39) = true
                  · 
                    have e402n : (c384 != 39) = false := by simp only [bne, e402, Bool.not_true]
                    go_wp2_with fail
                    go_meet
                    case rel => exact ⟨by rw [← HB400.out, e401, e402]; first | rfl | simp, rfl⟩
                  ·
                    replace e402 := Bool.eq_false_iff.mpr e402
                    have e402n : (c384 != 39) = true := by simp only [bne, e402, Bool.not_false]
                    by_cases e403 : (c384 == 40) = true
                    · 
                      have e403n : (c384 != 40) = false := by simp only [bne, e403, Bool.not_true]
                      go_wp2_with fail
                      go_meet
                      case rel => exact ⟨by rw [← HB400.out, e401, e402, e403]; first | rfl | simp, rfl⟩
                    ·
                      replace e403 := Bool.eq_false_iff.mpr e403
                      have e403n : (c384 != 40) = true := by simp only [bne, e403, Bool.not_false]
                      go_wp2_with fail
                      refine (sisControl.calls (w := _) c384).mono ?_
                      rintro e w' ⟨rfl, rfl⟩
                      go_wp2_with fail
                      go_meet
                      case rel => exact ⟨by rw [← HB400.out, e401, e402, e403]; first | rfl | simp, rfl⟩
              case rest =>
                obtain ⟨rfl, rfl⟩ := hcut
                cases b404 with
                | true =>
                  replace H := H.tt
                  obtain ⟨⟨s405, o406⟩, A407, HN⟩ := H.bind; clear H; have H := HN; clear HN
                  try dsimp only at H
                  go_wp2_with fail
                  refine (swrong.calls hI386  s405 o406 A407).mono ?_
                  rintro e w408 ⟨rfl, hI408, k408⟩
                  have hF408 := hF386.trans k408
                  have c0408 := hI408.c0
                  have c1408 := hI408.c1
                  have c2408 := hI408.c2
                  have f408 := hI408.f
                  obtain rfl := H.p1; clear H
                  have H := HC378.inlS; clear HC378
                  go_wp2_with fail
                  go_ret
                  obtain ⟨rfl, rfl, rfl⟩ := H.p3
                  exact ⟨(by first | rfl | simp), hI408, hF408⟩
                | false =>
                  replace H := H.ff
                  by_cases e409 : (c384 == 92) = true
                  · 
                    replace H := H.pos e409
                    have e409n : (c384 != 92) = false := by simp only [bne, e409, Bool.not_true]
                    obtain ⟨⟨t410, o411⟩, A412, HN⟩ := H.bind; clear H; have H := HN; clear HN
                    try dsimp only at H
                    go_wp2_with fail
                    refine (sescapes.calls hI386 0 t410 o411 A412).mono ?_
                    rintro e w413 ⟨rfl, hI413, k413⟩
                    have hF413 := hF386.trans k413
                    have c0413 := hI413.c0
                    have c1413 := hI413.c1
                    have c2413 := hI413.c2
                    have f413 := hI413.f
                    cases t410 with
                    | true =>
                      replace H := H.tt
                      obtain ⟨⟨q414, o415⟩, A416, HN⟩ := H.bind; clear H; have H := HN; clear HN
                      try dsimp only at H
                      go_wp2_with fail
                      refine (sescape.calls K hI413  q414 o415 A416).mono ?_
                      rintro e w417 ⟨rfl, hI417, k417⟩
                      have hF417 := hF413.trans k417
                      have c0417 := hI417.c0
                      have c1417 := hI417.c1
                      have c2417 := hI417.c2
                      have f417 := hI417.f
                      go_wp2_with fail
                      go_roundg k
                      case measure => exact Nat.lt_succ_self _
                      case rel => exact ⟨q414, o415, H, ⟨hI417⟩, ⟨hF417⟩⟩
                    | false =>
                      replace H := H.ff
                      obtain ⟨⟨s418, o419⟩, A420, HN⟩ := H.bind; clear H; have H := HN; clear HN
                      try dsimp only at H
                      go_wp2_with fail
                      refine (swrong.calls hI413  s418 o419 A420).mono ?_
                      rintro e w421 ⟨rfl, hI421, k421⟩
                      have hF421 := hF413.trans k421
                      have c0421 := hI421.c0
                      have c1421 := hI421.c1
                      have c2421 := hI421.c2
                      have f421 := hI421.f
                      obtain rfl := H.p1; clear H
                      have H := HC378.inlS; clear HC378
                      go_wp2_with fail
                      go_ret
                      obtain ⟨rfl, rfl, rfl⟩ := H.p3
                      exact ⟨(by first | rfl | simp), hI421, hF421⟩
                  ·
                    replace H := H.neg e409
                    replace e409 := Bool.eq_false_iff.mpr e409
                    have e409n : (c384 != 92) = true := by simp only [bne, e409, Bool.not_false]
                    go_wp2_with fail
                    go_roundg k
                    case measure => exact Nat.lt_succ_self _
                    case rel => exact ⟨wrap64 (q379 + 1), o380, H, ⟨(by repeat (first | exact hI386 | apply Rd.setAt | apply Rd.setOpen | apply Rd.drewN | apply Rd.drew | apply Rd.alloc))⟩, ⟨(by repeat (first | exact hF386 | apply Fr.set | apply Fr.drewN | apply Fr.drew | apply Fr.alloc))⟩⟩
  case rest =>
    obtain ⟨q422, o423, ho, gI, gF⟩ := hcut
    have hI424 := gI.out; have hF424 := gF.out; clear gI gF
    have c0424 := hI424.c0
    have c1424 := hI424.c1
    have c2424 := hI424.c2
    have f424 := hI424.f
    have ho := ho.out; subst ho; have H := HC378.inrS; clear HC378 H1
    try dsimp only at H
    go_wp2_with fail
    go_ret
    obtain ⟨rfl, rfl, rfl⟩ := H.p3
    exact ⟨(by first | rfl | simp), (by repeat (first | exact hI424 | apply Rd.setAt | apply Rd.setOpen | apply Rd.drewN | apply Rd.drew | apply Rd.alloc)), (by repeat (first | exact hF424 | apply Fr.set | apply Fr.drewN | apply Fr.drew | apply Fr.alloc))⟩
end Go.Proofs.YteonakpgenkhkaaDoor
