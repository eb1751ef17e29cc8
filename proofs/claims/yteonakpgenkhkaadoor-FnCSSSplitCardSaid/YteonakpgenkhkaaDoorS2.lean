import Derived.Test.YteonakpgenkhkaaDoorS1
namespace Go.Proofs.YteonakpgenkhkaaDoor
open Go.RowKit
set_option linter.unusedVariables false
set_option linter.unusedSimpArgs false

/-! (*loop.example/pub-g01476/spec.reader).sign -/
def ssign.f (K : Nat) (T : List Int) (q : Int) (o : Bool) (a1 : Int) (a2 : Int) : Option (List Int × Int × Bool) :=
(if (a1 == 35) = true then (if (sisNameByte.f a2) = true then (some (true, o)) else
(sescapes.f T q o 1).bind fun (t428, o429) =>
some (t428, o429)) else
some (false, o)).bind fun (b432, o433) =>
if b432 = true then ((sname.f K T (wrap64 (q + 1)) o433).bind fun (q435, o436) =>
some ([104, 97, 115, 104], q435, o436)) else
(if (a1 == 64) = true then ((sidentifies.f T q o433 1).bind fun (t441, o442) =>
some (t441, o442)) else
some (false, o433)).bind fun (b445, o446) =>
if b445 = true then ((sname.f K T (wrap64 (q + 1)) o446).bind fun (q448, o449) =>
some ([97, 116], q448, o449)) else
if ((a1 == 124) && (a2 == 124)) = true then ((stwo.f T q o446 ([124, 124])).bind fun (s455, q456) =>
some (s455, q456, o446)) else
if ((a2 == 61) && (((((a1 == 126) || (a1 == 124)) || (a1 == 94)) || (a1 == 36)) || (a1 == 42))) = true then ((stwo.f T q o446 ([a1, 61])).bind fun (s466, q467) =>
some (s466, q467, o446)) else
(if (a1 == 60) = true then (if (a2 == 33) = true then ((rpk T q 2).bind fun c473 =>
if (c473 == 45) = true then ((rpk T q 3).bind fun c477 =>
some (c477 == 45)) else
some false) else
some false) else
some false).bind fun b480 =>
if b480 = true then (some ([60, 33, 45, 45], wrap64 (q + 4), o446)) else
if (hasB [40, 41, 44, 58, 59, 91, 93, 123, 125] a1) = true then ((sone.f T q o446 ([a1])).bind fun (s483, q484) =>
some (s483, q484, o446)) else
(sone.f T q o446 ([100, 101, 108, 105, 109])).bind fun (s487, q488) =>
some (s487, q488, o446)
set_option maxHeartbeats 8000000 in
set_option maxRecDepth 100000 in
theorem ssign.calls (K : Nat) {w0 : World} {z : Nat} {A : Option Addr} {c : Nat} {T : List Int} {q : Int} {o : Bool} (hI0 : Rd w0 z A c T q o) (a1 : Int) (a2 : Int) (r0 : List Int) (r1 : Int) (r2 : Bool) (H : Hd (ssign.f K T q o a1 a2 = some (r0, r1, r2))) :
    Calls Tryd.prog 51 #[.pointer (some ⟨z, 0, none⟩), .int .u8 a1, .int .u8 a2] w0 fun e w' => e = .returned (.string (bstr r0)) ∧ Rd w' z A c T r1 r2 ∧ Fr z w0 w' := by
  have hF0 := Fr.refl z w0
  have c00 := hI0.c0
  have c10 := hI0.c1
  have c20 := hI0.c2
  have f0 := hI0.f
  have hcs1 := conv229_1
  have hcs2 := conv229_2
  have hcv := conv22s
  unfold ssign.f at H
  go_enter Tryd.func51, Tryd.ntmps51
  obtain ⟨⟨b432, o433⟩, H1, HC425⟩ := H.bind; clear H
  try dsimp only at HC425
  go_upto_region 1 with fail
  go_cut [7] (fun v7 w' => v7 = .bool b432 ∧ Hd (Rd w' z A c T q o433) ∧ Hd (Fr z w0 w'))
  case first =>
    have H := H1; clear H1
    by_cases e426 : (a1 == 35) = true
    · 
      replace H := H.pos e426
      have e426n : (a1 != 35) = false := by simp only [bne, e426, Bool.not_true]
      go_wp2_with fail
      refine (sisNameByte.calls (w := _) a2).mono ?_
      rintro e w' ⟨rfl, rfl⟩
      by_cases e427 : (sisNameByte.f a2) = true
      · 
        replace H := H.pos e427
        obtain ⟨rfl, rfl⟩ := H.p2
        go_wp2_with fail
        go_meet
        case rel => exact ⟨(by first | rfl | simp), ⟨hI0⟩, ⟨hF0⟩⟩
      ·
        replace H := H.neg e427
        replace e427 := Bool.eq_false_iff.mpr e427
        obtain ⟨⟨t428, o429⟩, A430, HN⟩ := H.bind; clear H; have H := HN; clear HN
        try dsimp only at H
        go_wp2_with fail
        refine (sescapes.calls hI0 1 t428 o429 A430).mono ?_
        rintro e w431 ⟨rfl, hI431, k431⟩
        have hF431 := hF0.trans k431
        have c0431 := hI431.c0
        have c1431 := hI431.c1
        have c2431 := hI431.c2
        have f431 := hI431.f
        obtain ⟨rfl, rfl⟩ := H.p2
        go_wp2_with fail
        go_meet
        case rel => exact ⟨(by first | rfl | simp), ⟨hI431⟩, ⟨hF431⟩⟩
    ·
      replace H := H.neg e426
      replace e426 := Bool.eq_false_iff.mpr e426
      have e426n : (a1 != 35) = true := by simp only [bne, e426, Bool.not_false]
      obtain ⟨rfl, rfl⟩ := H.p2
      go_wp2_with fail
      go_meet
      case rel => exact ⟨(by first | rfl | simp), ⟨hI0⟩, ⟨hF0⟩⟩
  case rest =>
    obtain ⟨rfl, gI, gF⟩ := hcut
    have hI434 := gI.out; have hF434 := gF.out; clear gI gF
    have c0434 := hI434.c0
    have c1434 := hI434.c1
    have c2434 := hI434.c2
    have f434 := hI434.f
    have H := HC425; clear HC425 H1
    cases b432 with
    | true =>
      replace H := H.tt
      obtain ⟨⟨q435, o436⟩, A437, HN⟩ := H.bind; clear H; have H := HN; clear HN
      try dsimp only at H
      go_wp2_with fail
      refine (sname.calls K (by repeat (first | exact hI434 | apply Rd.setAt | apply Rd.setOpen | apply Rd.drewN | apply Rd.drew | apply Rd.alloc))  q435 o436 A437).mono ?_
      rintro e w438 ⟨rfl, hI438, k438⟩
      have hF438 := (show Fr z w0 _ by repeat (first | exact hF434 | apply Fr.set | apply Fr.drewN | apply Fr.drew | apply Fr.alloc)).trans k438
      have c0438 := hI438.c0
      have c1438 := hI438.c1
      have c2438 := hI438.c2
      have f438 := hI438.f
      go_wp2_with fail
      go_ret
      obtain ⟨rfl, rfl, rfl⟩ := H.p3
      exact ⟨(by first | rfl | simp), hI438, hF438⟩
    | false =>
      replace H := H.ff
      obtain ⟨⟨b445, o446⟩, H1, HC439⟩ := H.bind; clear H
      try dsimp only at HC439
      go_upto_region 5 with fail
      go_cut [27] (fun v27 w' => v27 = .bool b445 ∧ Hd (Rd w' z A c T q o446) ∧ Hd (Fr z w0 w'))
      case first =>
        have H := H1; clear H1
        by_cases e440 : (a1 == 64) = true
        · 
          replace H := H.pos e440
          have e440n : (a1 != 64) = false := by simp only [bne, e440, Bool.not_true]
          obtain ⟨⟨t441, o442⟩, A443, HN⟩ := H.bind; clear H; have H := HN; clear HN
          try dsimp only at H
          go_wp2_with fail
          refine (sidentifies.calls hI434 1 t441 o442 A443).mono ?_
          rintro e w444 ⟨rfl, hI444, k444⟩
          have hF444 := hF434.trans k444
          have c0444 := hI444.c0
          have c1444 := hI444.c1
          have c2444 := hI444.c2
          have f444 := hI444.f
          obtain ⟨rfl, rfl⟩ := H.p2
          go_wp2_with fail
          go_meet
          case rel => exact ⟨(by first | rfl | simp), ⟨hI444⟩, ⟨hF444⟩⟩
        ·
          replace H := H.neg e440
          replace e440 := Bool.eq_false_iff.mpr e440
          have e440n : (a1 != 64) = true := by simp only [bne, e440, Bool.not_false]
          obtain ⟨rfl, rfl⟩ := H.p2
          go_wp2_with fail
          go_meet
          case rel => exact ⟨(by first | rfl | simp), ⟨hI434⟩, ⟨hF434⟩⟩
      case rest =>
        obtain ⟨rfl, gI, gF⟩ := hcut
        have hI447 := gI.out; have hF447 := gF.out; clear gI gF
        have c0447 := hI447.c0
        have c1447 := hI447.c1
        have c2447 := hI447.c2
        have f447 := hI447.f
        have H := HC439; clear HC439 H1
        cases b445 with
        | true =>
          replace H := H.tt
          obtain ⟨⟨q448, o449⟩, A450, HN⟩ := H.bind; clear H; have H := HN; clear HN
          try dsimp only at H
          go_wp2_with fail
          refine (sname.calls K (by repeat (first | exact hI447 | apply Rd.setAt | apply Rd.setOpen | apply Rd.drewN | apply Rd.drew | apply Rd.alloc))  q448 o449 A450).mono ?_
          rintro e w451 ⟨rfl, hI451, k451⟩
          have hF451 := (show Fr z w0 _ by repeat (first | exact hF447 | apply Fr.set | apply Fr.drewN | apply Fr.drew | apply Fr.alloc)).trans k451
          have c0451 := hI451.c0
          have c1451 := hI451.c1
          have c2451 := hI451.c2
          have f451 := hI451.f
          go_wp2_with fail
          go_ret
          obtain ⟨rfl, rfl, rfl⟩ := H.p3
          exact ⟨(by first | rfl | simp), hI451, hF451⟩
        | false =>
          replace H := H.ff
          generalize hb452 : ((a1 == 124) && (a2 == 124)) = b454 at H
          have HB452 := Hd.mk hb452; clear hb452
          go_upto_region 9 with fail
          go_cut [43] (fun v43 w' => v43 = .bool b454 ∧ wc = w')
          case first =>
            clear H
            by_cases e453 : (a1 == 124) = true
            · 
              have e453n : (a1 != 124) = false := by simp only [bne, e453, Bool.not_true]
              go_wp2_with fail
              go_meet
              case rel => exact ⟨by rw [← HB452.out, e453]; first | rfl | simp, rfl⟩
            ·
              replace e453 := Bool.eq_false_iff.mpr e453
              have e453n : (a1 != 124) = true := by simp only [bne, e453, Bool.not_false]
              go_wp2_with fail
              go_meet
              case rel => exact ⟨by rw [← HB452.out, e453]; first | rfl | simp, rfl⟩
          case rest =>
            obtain ⟨rfl, rfl⟩ := hcut
            cases b454 with
            | true =>
              replace H := H.tt
              obtain ⟨⟨s455, q456⟩, A457, HN⟩ := H.bind; clear H; have H := HN; clear HN
              try dsimp only at H
              go_wp2_with fail
              refine (stwo.calls hI447 ([124, 124]) s455 q456 A457).mono ?_
              rintro e w458 ⟨rfl, hI458, k458⟩
              have hF458 := hF447.trans k458
              have c0458 := hI458.c0
              have c1458 := hI458.c1
              have c2458 := hI458.c2
              have f458 := hI458.f
              go_wp2_with fail
              go_ret
              obtain ⟨rfl, rfl, rfl⟩ := H.p3
              exact ⟨(by first | rfl | simp), hI458, hF458⟩
            | false =>
              replace H := H.ff
              generalize hb459 : ((a2 == 61) && (((((a1 == 126) || (a1 == 124)) || (a1 == 94)) || (a1 == 36)) || (a1 == 42))) = b465 at H
              have HB459 := Hd.mk hb459; clear hb459
              go_upto_region 11 with fail
              go_cut [52] (fun v52 w' => v52 = .bool b465 ∧ wc = w')
              case first =>
                clear H
                by_cases e460 : (a2 == 61) = true
                · 
                  have e460n : (a2 != 61) = false := by simp only [bne, e460, Bool.not_true]
                  by_cases e461 : (a1 == 126) = true
                  · 
                    have e461n : (a1 != 126) = false := by simp only [bne, e461, Bool.not_true]
                    go_wp2_with fail
                    go_meet
                    case rel => exact ⟨by rw [← HB459.out, e460, e461]; first | rfl | simp, rfl⟩
                  ·
                    replace e461 := Bool.eq_false_iff.mpr e461
                    have e461n : (a1 != 126) = true := by simp only [bne, e461, Bool.not_false]
                    by_cases e462 : (a1 == 124) = true
                    · 
                      have e462n : (a1 != 124) = false := by simp only [bne, e462, Bool.not_true]
                      go_wp2_with fail
                      go_meet
                      case rel => exact ⟨by rw [← HB459.out, e460, e461, e462]; first | rfl | simp, rfl⟩
                    ·
                      replace e462 := Bool.eq_false_iff.mpr e462
                      have e462n : (a1 != 124) = true := by simp only [bne, e462, Bool.not_false]
                      by_cases e463 : (a1 == 94) = true
                      · 
                        have e463n : (a1 != 94) = false := by simp only [bne, e463, Bool.not_true]
                        go_wp2_with fail
                        go_meet
                        case rel => exact ⟨by rw [← HB459.out, e460, e461, e462, e463]; first | rfl | simp, rfl⟩
                      ·
                        replace e463 := Bool.eq_false_iff.mpr e463
                        have e463n : (a1 != 94) = true := by simp only [bne, e463, Bool.not_false]
                        by_cases e464 : (a1 == 36) = true
                        · 
                          have e464n : (a1 != 36) = false := by simp only [bne, e464, Bool.not_true]
                          go_wp2_with fail
                          go_meet
                          case rel => exact ⟨by rw [← HB459.out, e460, e461, e462, e463, e464]; first | rfl | simp, rfl⟩
                        ·
                          replace e464 := Bool.eq_false_iff.mpr e464
                          have e464n : (a1 != 36) = true := by simp only [bne, e464, Bool.not_false]
                          go_wp2_with fail
                          go_meet
                          case rel => exact ⟨by rw [← HB459.out, e460, e461, e462, e463, e464]; first | rfl | simp, rfl⟩
                ·
                  replace e460 := Bool.eq_false_iff.mpr e460
                  have e460n : (a2 != 61) = true := by simp only [bne, e460, Bool.not_false]
                  go_wp2_with fail
                  go_meet
                  case rel => exact ⟨by rw [← HB459.out, e460]; first | rfl | simp, rfl⟩
              case rest =>
                obtain ⟨rfl, rfl⟩ := hcut
                cases b465 with
                | true =>
                  replace H := H.tt
                  obtain ⟨⟨s466, q467⟩, A468, HN⟩ := H.bind; clear H; have H := HN; clear HN
                  try dsimp only at H
                  go_wp2_with fail
                  refine (stwo.calls (by repeat (first | exact hI447 | apply Rd.setAt | apply Rd.setOpen | apply Rd.drewN | apply Rd.drew | apply Rd.alloc)) ([a1, 61]) s466 q467 A468).mono ?_
                  rintro e w469 ⟨rfl, hI469, k469⟩
                  have hF469 := (show Fr z w0 _ by repeat (first | exact hF447 | apply Fr.set | apply Fr.drewN | apply Fr.drew | apply Fr.alloc)).trans k469
                  have c0469 := hI469.c0
                  have c1469 := hI469.c1
                  have c2469 := hI469.c2
                  have f469 := hI469.f
                  go_wp2_with fail
                  go_ret
                  obtain ⟨rfl, rfl, rfl⟩ := H.p3
                  exact ⟨(by first | rfl | simp), hI469, hF469⟩
                | false =>
                  replace H := H.ff
                  obtain ⟨b480, H1, HC470⟩ := H.bind; clear H
                  go_upto_region 13 with fail
                  go_cut [80] (fun v80 w' => v80 = .bool b480 ∧ Hd (Rd w' z A c T q o446) ∧ Hd (Fr z w0 w'))
                  case first =>
                    have H := H1; clear H1
                    by_cases e471 : (a1 == 60) = true
                    · 
                      replace H := H.pos e471
                      have e471n : (a1 != 60) = false := by simp only [bne, e471, Bool.not_true]
                      by_cases e472 : (a2 == 33) = true
                      · 
                        replace H := H.pos e472
                        have e472n : (a2 != 33) = false := by simp only [bne, e472, Bool.not_true]
                        obtain ⟨c473, A474, HN⟩ := H.bind; clear H; have H := HN; clear HN
                        go_wp2_with fail
                        refine (peek_calls hI447 2 c473 A474).mono ?_
                        rintro e w475 ⟨rfl, hI475, k475⟩
                        have hF475 := hF447.trans k475
                        have c0475 := hI475.c0
                        have c1475 := hI475.c1
                        have c2475 := hI475.c2
                        have f475 := hI475.f
                        by_cases e476 : (c473 == 45) = true
                        · 
                          replace H := H.pos e476
                          have e476n : (c473 != 45) = false := by simp only [bne, e476, Bool.not_true]
                          obtain ⟨c477, A478, HN⟩ := H.bind; clear H; have H := HN; clear HN
                          go_wp2_with fail
                          refine (peek_calls hI475 3 c477 A478).mono ?_
                          rintro e w479 ⟨rfl, hI479, k479⟩
                          have hF479 := hF475.trans k479
                          have c0479 := hI479.c0
                          have c1479 := hI479.c1
                          have c2479 := hI479.c2
                          have f479 := hI479.f
                          obtain rfl := H.p1
                          go_wp2_with fail
                          go_meet
                          case rel => exact ⟨(by first | rfl | simp), ⟨hI479⟩, ⟨hF479⟩⟩
                        ·
                          replace H := H.neg e476
                          replace e476 := Bool.eq_false_iff.mpr e476
                          have e476n : (c473 != 45) = true := by simp only [bne, e476, Bool.not_false]
                          obtain rfl := H.p1
                          go_wp2_with fail
                          go_meet
                          case rel => exact ⟨(by first | rfl | simp), ⟨hI475⟩, ⟨hF475⟩⟩
                      ·
                        replace H := H.neg e472
                        replace e472 := Bool.eq_false_iff.mpr e472
                        have e472n : (a2 != 33) = true := by simp only [bne, e472, Bool.not_false]
                        obtain rfl := H.p1
                        go_wp2_with fail
                        go_meet
                        case rel => exact ⟨(by first | rfl | simp), ⟨hI447⟩, ⟨hF447⟩⟩
                    ·
                      replace H := H.neg e471
                      replace e471 := Bool.eq_false_iff.mpr e471
                      have e471n : (a1 != 60) = true := by simp only [bne, e471, Bool.not_false]
                      obtain rfl := H.p1
                      go_wp2_with fail
                      go_meet
                      case rel => exact ⟨(by first | rfl | simp), ⟨hI447⟩, ⟨hF447⟩⟩
                  case rest =>
                    obtain ⟨rfl, gI, gF⟩ := hcut
                    have hI481 := gI.out; have hF481 := gF.out; clear gI gF
                    have c0481 := hI481.c0
                    have c1481 := hI481.c1
                    have c2481 := hI481.c2
                    have f481 := hI481.f
                    have H := HC470; clear HC470 H1
                    cases b480 with
                    | true =>
                      replace H := H.tt
                      go_wp2_with fail
                      go_ret
                      obtain ⟨rfl, rfl, rfl⟩ := H.p3
                      exact ⟨(by first | rfl | simp), (by repeat (first | exact hI481 | apply Rd.setAt | apply Rd.setOpen | apply Rd.drewN | apply Rd.drew | apply Rd.alloc)), (by repeat (first | exact hF481 | apply Fr.set | apply Fr.drewN | apply Fr.drew | apply Fr.alloc))⟩
                    | false =>
                      replace H := H.ff
                      go_wp2_with fail
                      refine (Has_calls (lit_bytes [40, 41, 44, 58, 59, 91, 93, 123, 125]) a1).mono ?_
                      rintro e w' ⟨rfl, rfl⟩
                      by_cases e482 : (hasB [40, 41, 44, 58, 59, 91, 93, 123, 125] a1) = true
                      · 
                        replace H := H.pos e482
                        obtain ⟨⟨s483, q484⟩, A485, HN⟩ := H.bind; clear H; have H := HN; clear HN
                        try dsimp only at H
                        go_wp2_with fail
                        refine (sone.calls (by repeat (first | exact hI481 | apply Rd.setAt | apply Rd.setOpen | apply Rd.drewN | apply Rd.drew | apply Rd.alloc)) ([a1]) s483 q484 A485).mono ?_
                        rintro e w486 ⟨rfl, hI486, k486⟩
                        have hF486 := (show Fr z w0 _ by repeat (first | exact hF481 | apply Fr.set | apply Fr.drewN | apply Fr.drew | apply Fr.alloc)).trans k486
                        have c0486 := hI486.c0
                        have c1486 := hI486.c1
                        have c2486 := hI486.c2
                        have f486 := hI486.f
                        go_wp2_with fail
                        go_ret
                        obtain ⟨rfl, rfl, rfl⟩ := H.p3
                        exact ⟨(by first | rfl | simp), hI486, hF486⟩
                      ·
                        replace H := H.neg e482
                        replace e482 := Bool.eq_false_iff.mpr e482
                        obtain ⟨⟨s487, q488⟩, A489, HN⟩ := H.bind; clear H; have H := HN; clear HN
                        try dsimp only at H
                        go_wp2_with fail
                        refine (sone.calls (by repeat (first | exact hI481 | apply Rd.setAt | apply Rd.setOpen | apply Rd.drewN | apply Rd.drew | apply Rd.alloc)) ([100, 101, 108, 105, 109]) s487 q488 A489).mono ?_
                        rintro e w490 ⟨rfl, hI490, k490⟩
                        have hF490 := (show Fr z w0 _ by repeat (first | exact hF481 | apply Fr.set | apply Fr.drewN | apply Fr.drew | apply Fr.alloc)).trans k490
                        have c0490 := hI490.c0
                        have c1490 := hI490.c1
                        have c2490 := hI490.c2
                        have f490 := hI490.f
                        go_wp2_with fail
                        go_ret
                        obtain ⟨rfl, rfl, rfl⟩ := H.p3
                        exact ⟨(by first | rfl | simp), hI490, hF490⟩
end Go.Proofs.YteonakpgenkhkaaDoor
