import Derived.Test.YteonakpgenkhkaaDoorS2
import Derived.Test.YteonakpgenkhkaaDoorL18
namespace Go.Proofs.YteonakpgenkhkaaDoor
open Go.RowKit
set_option linter.unusedVariables false
set_option linter.unusedSimpArgs false

/-! (*loop.example/pub-g01476/spec.reader).token -/
def stoken.f (K : Nat) (T : List Int) (q : Int) (o : Bool) : Option (List Int × Int × Bool) :=
(rpk T q 0).bind fun c491 =>
(rpk T q 1).bind fun c494 =>
if (sIsBlank.f c491) = true then ((sblanks.f K T q o).bind fun q498 =>
some ([98, 108, 97, 110, 107], q498, o)) else
if ((c491 == 34) || (c491 == 39)) = true then ((squoted.f K T q o).bind fun (s504, q505, o506) =>
some (s504, q505, o506)) else
if ((c491 == 47) && (c494 == 42)) = true then ((scomment.f K T q o).bind fun (s512, q513, o514) =>
some (s512, q513, o514)) else
(snumbers.f T q o).bind fun t517 =>
if t517 = true then ((snumeric.f K T q o).bind fun (s520, q521, o522) =>
some (s520, q521, o522)) else
(if (c491 == 117) = true then (if (c494 == 43) = true then ((rpk T q 2).bind fun c528 =>
if (decide (0 ≤ shexValue.f c528)) = true then (some true) else
(rpk T q 2).bind fun c532 =>
some (c532 == 63)) else
some false) else
if (c491 == 85) = true then (if (c494 == 43) = true then ((rpk T q 2).bind fun c537 =>
if (decide (0 ≤ shexValue.f c537)) = true then (some true) else
(rpk T q 2).bind fun c541 =>
some (c541 == 63)) else
some false) else
some false).bind fun b544 =>
if b544 = true then ((scodes.f K T q o).bind fun (s546, q547, o548) =>
some (s546, q547, o548)) else
(if (c491 == 45) = true then (if (c494 == 45) = true then ((rpk T q 2).bind fun c554 =>
some (c554 == 62)) else
some false) else
some false).bind fun b557 =>
if b557 = true then (some ([45, 45, 62], wrap64 (q + 3), o)) else
(sidentifies.f T q o 0).bind fun (t559, o560) =>
if t559 = true then ((sidentLike.f K T q o560).bind fun (s563, q564, o565) =>
some (s563, q564, o565)) else
(ssign.f K T q o560 c491 c494).bind fun (s568, q569, o570) =>
some (s568, q569, o570)
set_option maxHeartbeats 8000000 in
set_option maxRecDepth 100000 in
theorem stoken.calls (K : Nat) {w0 : World} {z : Nat} {A : Option Addr} {c : Nat} {T : List Int} {q : Int} {o : Bool} (hI0 : Rd w0 z A c T q o) (r0 : List Int) (r1 : Int) (r2 : Bool) (H : Hd (stoken.f K T q o = some (r0, r1, r2))) :
    Calls Tryd.prog 28 #[.pointer (some ⟨z, 0, none⟩)] w0 fun e w' => e = .returned (.string (bstr r0)) ∧ Rd w' z A c T r1 r2 ∧ Fr z w0 w' := by
  have hF0 := Fr.refl z w0
  have c00 := hI0.c0
  have c10 := hI0.c1
  have c20 := hI0.c2
  have f0 := hI0.f
  unfold stoken.f at H
  go_enter Tryd.func28, Tryd.ntmps28
  obtain ⟨c491, A492, HN⟩ := H.bind; clear H; have H := HN; clear HN
  go_wp2_with fail
  refine (peek_calls hI0 0 c491 A492).mono ?_
  rintro e w493 ⟨rfl, hI493, k493⟩
  have hF493 := hF0.trans k493
  have c0493 := hI493.c0
  have c1493 := hI493.c1
  have c2493 := hI493.c2
  have f493 := hI493.f
  obtain ⟨c494, A495, HN⟩ := H.bind; clear H; have H := HN; clear HN
  go_wp2_with fail
  refine (peek_calls hI493 1 c494 A495).mono ?_
  rintro e w496 ⟨rfl, hI496, k496⟩
  have hF496 := hF493.trans k496
  have c0496 := hI496.c0
  have c1496 := hI496.c1
  have c2496 := hI496.c2
  have f496 := hI496.f
  go_wp2_with fail
  refine (sIsBlank.calls (w := _) c491).mono ?_
  rintro e w' ⟨rfl, rfl⟩
  by_cases e497 : (sIsBlank.f c491) = true
  · 
    replace H := H.pos e497
    obtain ⟨q498, A499, HN⟩ := H.bind; clear H; have H := HN; clear HN
    go_wp2_with fail
    refine (sblanks.calls K hI496  q498 A499).mono ?_
    rintro e w500 ⟨rfl, hI500, k500⟩
    have hF500 := hF496.trans k500
    have c0500 := hI500.c0
    have c1500 := hI500.c1
    have c2500 := hI500.c2
    have f500 := hI500.f
    go_wp2_with fail
    go_ret
    obtain ⟨rfl, rfl, rfl⟩ := H.p3
    exact ⟨(by first | rfl | simp), hI500, hF500⟩
  ·
    replace H := H.neg e497
    replace e497 := Bool.eq_false_iff.mpr e497
    generalize hb501 : ((c491 == 34) || (c491 == 39)) = b503 at H
    have HB501 := Hd.mk hb501; clear hb501
    go_upto_region 5 with fail
    go_cut [14] (fun v14 w' => v14 = .bool b503 ∧ w496 = w')
    case first =>
      clear H
      by_cases e502 : (c491 == 34) = true
      · 
        have e502n : (c491 != 34) = false := by simp only [bne, e502, Bool.not_true]
        go_wp2_with fail
        go_meet
        case rel => exact ⟨by rw [← HB501.out, e502]; first | rfl | simp, rfl⟩
      ·
        replace e502 := Bool.eq_false_iff.mpr e502
        have e502n : (c491 != 34) = true := by simp only [bne, e502, Bool.not_false]
        go_wp2_with fail
        go_meet
        case rel => exact ⟨by rw [← HB501.out, e502]; first | rfl | simp, rfl⟩
    case rest =>
      obtain ⟨rfl, rfl⟩ := hcut
      cases b503 with
      | true =>
        replace H := H.tt
        obtain ⟨⟨s504, q505, o506⟩, A507, HN⟩ := H.bind; clear H; have H := HN; clear HN
        try dsimp only at H
        go_wp2_with fail
        refine (squoted.calls K hI496  s504 q505 o506 A507).mono ?_
        rintro e w508 ⟨rfl, hI508, k508⟩
        have hF508 := hF496.trans k508
        have c0508 := hI508.c0
        have c1508 := hI508.c1
        have c2508 := hI508.c2
        have f508 := hI508.f
        go_wp2_with fail
        go_ret
        obtain ⟨rfl, rfl, rfl⟩ := H.p3
        exact ⟨(by first | rfl | simp), hI508, hF508⟩
      | false =>
        replace H := H.ff
        generalize hb509 : ((c491 == 47) && (c494 == 42)) = b511 at H
        have HB509 := Hd.mk hb509; clear hb509
        go_upto_region 7 with fail
        go_cut [23] (fun v23 w' => v23 = .bool b511 ∧ w496 = w')
        case first =>
          clear H
          by_cases e510 : (c491 == 47) = true
          · 
            have e510n : (c491 != 47) = false := by simp only [bne, e510, Bool.not_true]
            go_wp2_with fail
            go_meet
            case rel => exact ⟨by rw [← HB509.out, e510]; first | rfl | simp, rfl⟩
          ·
            replace e510 := Bool.eq_false_iff.mpr e510
            have e510n : (c491 != 47) = true := by simp only [bne, e510, Bool.not_false]
            go_wp2_with fail
            go_meet
            case rel => exact ⟨by rw [← HB509.out, e510]; first | rfl | simp, rfl⟩
        case rest =>
          obtain ⟨rfl, rfl⟩ := hcut
          cases b511 with
          | true =>
            replace H := H.tt
            obtain ⟨⟨s512, q513, o514⟩, A515, HN⟩ := H.bind; clear H; have H := HN; clear HN
            try dsimp only at H
            go_wp2_with fail
            refine (scomment.calls K hI496  s512 q513 o514 A515).mono ?_
            rintro e w516 ⟨rfl, hI516, k516⟩
            have hF516 := hF496.trans k516
            have c0516 := hI516.c0
            have c1516 := hI516.c1
            have c2516 := hI516.c2
            have f516 := hI516.f
            go_wp2_with fail
            go_ret
            obtain ⟨rfl, rfl, rfl⟩ := H.p3
            exact ⟨(by first | rfl | simp), hI516, hF516⟩
          | false =>
            replace H := H.ff
            obtain ⟨t517, A518, HN⟩ := H.bind; clear H; have H := HN; clear HN
            go_wp2_with fail
            refine (snumbers.calls hI496  t517 A518).mono ?_
            rintro e w519 ⟨rfl, hI519, k519⟩
            have hF519 := hF496.trans k519
            have c0519 := hI519.c0
            have c1519 := hI519.c1
            have c2519 := hI519.c2
            have f519 := hI519.f
            cases t517 with
            | true =>
              replace H := H.tt
              obtain ⟨⟨s520, q521, o522⟩, A523, HN⟩ := H.bind; clear H; have H := HN; clear HN
              try dsimp only at H
              go_wp2_with fail
              refine (snumeric.calls K hI519  s520 q521 o522 A523).mono ?_
              rintro e w524 ⟨rfl, hI524, k524⟩
              have hF524 := hF519.trans k524
              have c0524 := hI524.c0
              have c1524 := hI524.c1
              have c2524 := hI524.c2
              have f524 := hI524.f
              go_wp2_with fail
              go_ret
              obtain ⟨rfl, rfl, rfl⟩ := H.p3
              exact ⟨(by first | rfl | simp), hI524, hF524⟩
            | false =>
              replace H := H.ff
              obtain ⟨b544, H1, HC525⟩ := H.bind; clear H
              go_upto_region 11 with fail
              go_cut [37] (fun v37 w' => v37 = .bool b544 ∧ Hd (Rd w' z A c T q o) ∧ Hd (Fr z w0 w'))
              case first =>
                have H := H1; clear H1
                by_cases e526 : (c491 == 117) = true
                · 
                  replace H := H.pos e526
                  have e526n : (c491 != 117) = false := by simp only [bne, e526, Bool.not_true]
                  by_cases e527 : (c494 == 43) = true
                  · 
                    replace H := H.pos e527
                    have e527n : (c494 != 43) = false := by simp only [bne, e527, Bool.not_true]
                    obtain ⟨c528, A529, HN⟩ := H.bind; clear H; have H := HN; clear HN
                    go_wp2_with fail
                    refine (peek_calls hI519 2 c528 A529).mono ?_
                    rintro e w530 ⟨rfl, hI530, k530⟩
                    have hF530 := hF519.trans k530
                    have c0530 := hI530.c0
                    have c1530 := hI530.c1
                    have c2530 := hI530.c2
                    have f530 := hI530.f
                    go_wp2_with fail
                    refine (shexValue.calls (w := _) c528).mono ?_
                    rintro e w' ⟨rfl, rfl⟩
                    by_cases e531 : (decide (0 ≤ shexValue.f c528)) = true
                    · 
                      replace H := H.pos e531
                      obtain rfl := H.p1
                      go_wp2_with fail
                      go_meet
                      case rel => exact ⟨(by first | rfl | simp), ⟨hI530⟩, ⟨hF530⟩⟩
                    ·
                      replace H := H.neg e531
                      replace e531 := Bool.eq_false_iff.mpr e531
                      obtain ⟨c532, A533, HN⟩ := H.bind; clear H; have H := HN; clear HN
                      go_wp2_with fail
                      refine (peek_calls hI530 2 c532 A533).mono ?_
                      rintro e w534 ⟨rfl, hI534, k534⟩
                      have hF534 := hF530.trans k534
                      have c0534 := hI534.c0
                      have c1534 := hI534.c1
                      have c2534 := hI534.c2
                      have f534 := hI534.f
                      obtain rfl := H.p1
                      go_wp2_with fail
                      go_meet
                      case rel => exact ⟨(by first | rfl | simp), ⟨hI534⟩, ⟨hF534⟩⟩
                  ·
                    replace H := H.neg e527
                    replace e527 := Bool.eq_false_iff.mpr e527
                    have e527n : (c494 != 43) = true := by simp only [bne, e527, Bool.not_false]
                    obtain rfl := H.p1
                    go_wp2_with fail
                    go_meet
                    case rel => exact ⟨(by first | rfl | simp), ⟨hI519⟩, ⟨hF519⟩⟩
                ·
                  replace H := H.neg e526
                  replace e526 := Bool.eq_false_iff.mpr e526
                  have e526n : (c491 != 117) = true := by simp only [bne, e526, Bool.not_false]
                  by_cases e535 : (c491 == 85) = true
                  · 
                    replace H := H.pos e535
                    have e535n : (c491 != 85) = false := by simp only [bne, e535, Bool.not_true]
                    by_cases e536 : (c494 == 43) = true
                    · 
                      replace H := H.pos e536
                      have e536n : (c494 != 43) = false := by simp only [bne, e536, Bool.not_true]
                      obtain ⟨c537, A538, HN⟩ := H.bind; clear H; have H := HN; clear HN
                      go_wp2_with fail
                      refine (peek_calls hI519 2 c537 A538).mono ?_
                      rintro e w539 ⟨rfl, hI539, k539⟩
                      have hF539 := hF519.trans k539
                      have c0539 := hI539.c0
                      have c1539 := hI539.c1
                      have c2539 := hI539.c2
                      have f539 := hI539.f
                      go_wp2_with fail
                      refine (shexValue.calls (w := _) c537).mono ?_
                      rintro e w' ⟨rfl, rfl⟩
                      by_cases e540 : (decide (0 ≤ shexValue.f c537)) = true
                      · 
                        replace H := H.pos e540
                        obtain rfl := H.p1
                        go_wp2_with fail
                        go_meet
                        case rel => exact ⟨(by first | rfl | simp), ⟨hI539⟩, ⟨hF539⟩⟩
                      ·
                        replace H := H.neg e540
                        replace e540 := Bool.eq_false_iff.mpr e540
                        obtain ⟨c541, A542, HN⟩ := H.bind; clear H; have H := HN; clear HN
                        go_wp2_with fail
                        refine (peek_calls hI539 2 c541 A542).mono ?_
                        rintro e w543 ⟨rfl, hI543, k543⟩
                        have hF543 := hF539.trans k543
                        have c0543 := hI543.c0
                        have c1543 := hI543.c1
                        have c2543 := hI543.c2
                        have f543 := hI543.f
                        obtain rfl := H.p1
                        go_wp2_with fail
                        go_meet
                        case rel => exact ⟨(by first | rfl | simp), ⟨hI543⟩, ⟨hF543⟩⟩
                    ·
                      replace H := H.neg e536
                      replace e536 := Bool.eq_false_iff.mpr e536
                      have e536n : (c494 != 43) = true := by simp only [bne, e536, Bool.not_false]
                      obtain rfl := H.p1
                      go_wp2_with fail
                      go_meet
                      case rel => exact ⟨(by first | rfl | simp), ⟨hI519⟩, ⟨hF519⟩⟩
                  ·
                    replace H := H.neg e535
                    replace e535 := Bool.eq_false_iff.mpr e535
                    have e535n : (c491 != 85) = true := by simp only [bne, e535, Bool.not_false]
                    obtain rfl := H.p1
                    go_wp2_with fail
                    go_meet
                    case rel => exact ⟨(by first | rfl | simp), ⟨hI519⟩, ⟨hF519⟩⟩
              case rest =>
                obtain ⟨rfl, gI, gF⟩ := hcut
                have hI545 := gI.out; have hF545 := gF.out; clear gI gF
                have c0545 := hI545.c0
                have c1545 := hI545.c1
                have c2545 := hI545.c2
                have f545 := hI545.f
                have H := HC525; clear HC525 H1
                cases b544 with
                | true =>
                  replace H := H.tt
                  obtain ⟨⟨s546, q547, o548⟩, A549, HN⟩ := H.bind; clear H; have H := HN; clear HN
                  try dsimp only at H
                  go_wp2_with fail
                  refine (scodes.calls K hI545  s546 q547 o548 A549).mono ?_
                  rintro e w550 ⟨rfl, hI550, k550⟩
                  have hF550 := hF545.trans k550
                  have c0550 := hI550.c0
                  have c1550 := hI550.c1
                  have c2550 := hI550.c2
                  have f550 := hI550.f
                  go_wp2_with fail
                  go_ret
                  obtain ⟨rfl, rfl, rfl⟩ := H.p3
                  exact ⟨(by first | rfl | simp), hI550, hF550⟩
                | false =>
                  replace H := H.ff
                  obtain ⟨b557, H1, HC551⟩ := H.bind; clear H
                  go_upto_region 13 with fail
                  go_cut [61] (fun v61 w' => v61 = .bool b557 ∧ Hd (Rd w' z A c T q o) ∧ Hd (Fr z w0 w'))
                  case first =>
                    have H := H1; clear H1
                    by_cases e552 : (c491 == 45) = true
                    · 
                      replace H := H.pos e552
                      have e552n : (c491 != 45) = false := by simp only [bne, e552, Bool.not_true]
                      by_cases e553 : (c494 == 45) = true
                      · 
                        replace H := H.pos e553
                        have e553n : (c494 != 45) = false := by simp only [bne, e553, Bool.not_true]
                        obtain ⟨c554, A555, HN⟩ := H.bind; clear H; have H := HN; clear HN
                        go_wp2_with fail
                        refine (peek_calls hI545 2 c554 A555).mono ?_
                        rintro e w556 ⟨rfl, hI556, k556⟩
                        have hF556 := hF545.trans k556
                        have c0556 := hI556.c0
                        have c1556 := hI556.c1
                        have c2556 := hI556.c2
                        have f556 := hI556.f
                        obtain rfl := H.p1
                        go_wp2_with fail
                        go_meet
                        case rel => exact ⟨(by first | rfl | simp), ⟨hI556⟩, ⟨hF556⟩⟩
                      ·
                        replace H := H.neg e553
                        replace e553 := Bool.eq_false_iff.mpr e553
                        have e553n : (c494 != 45) = true := by simp only [bne, e553, Bool.not_false]
                        obtain rfl := H.p1
                        go_wp2_with fail
                        go_meet
                        case rel => exact ⟨(by first | rfl | simp), ⟨hI545⟩, ⟨hF545⟩⟩
                    ·
                      replace H := H.neg e552
                      replace e552 := Bool.eq_false_iff.mpr e552
                      have e552n : (c491 != 45) = true := by simp only [bne, e552, Bool.not_false]
                      obtain rfl := H.p1
                      go_wp2_with fail
                      go_meet
                      case rel => exact ⟨(by first | rfl | simp), ⟨hI545⟩, ⟨hF545⟩⟩
                  case rest =>
                    obtain ⟨rfl, gI, gF⟩ := hcut
                    have hI558 := gI.out; have hF558 := gF.out; clear gI gF
                    have c0558 := hI558.c0
                    have c1558 := hI558.c1
                    have c2558 := hI558.c2
                    have f558 := hI558.f
                    have H := HC551; clear HC551 H1
                    cases b557 with
                    | true =>
                      replace H := H.tt
                      go_wp2_with fail
                      go_ret
                      obtain ⟨rfl, rfl, rfl⟩ := H.p3
                      exact ⟨(by first | rfl | simp), (by repeat (first | exact hI558 | apply Rd.setAt | apply Rd.setOpen | apply Rd.drewN | apply Rd.drew | apply Rd.alloc)), (by repeat (first | exact hF558 | apply Fr.set | apply Fr.drewN | apply Fr.drew | apply Fr.alloc))⟩
                    | false =>
                      replace H := H.ff
                      obtain ⟨⟨t559, o560⟩, A561, HN⟩ := H.bind; clear H; have H := HN; clear HN
                      try dsimp only at H
                      go_wp2_with fail
                      refine (sidentifies.calls hI558 0 t559 o560 A561).mono ?_
                      rintro e w562 ⟨rfl, hI562, k562⟩
                      have hF562 := hF558.trans k562
                      have c0562 := hI562.c0
                      have c1562 := hI562.c1
                      have c2562 := hI562.c2
                      have f562 := hI562.f
                      cases t559 with
                      | true =>
                        replace H := H.tt
                        obtain ⟨⟨s563, q564, o565⟩, A566, HN⟩ := H.bind; clear H; have H := HN; clear HN
                        try dsimp only at H
                        go_wp2_with fail
                        refine (sidentLike.calls K hI562  s563 q564 o565 A566).mono ?_
                        rintro e w567 ⟨rfl, hI567, k567⟩
                        have hF567 := hF562.trans k567
                        have c0567 := hI567.c0
                        have c1567 := hI567.c1
                        have c2567 := hI567.c2
                        have f567 := hI567.f
                        go_wp2_with fail
                        go_ret
                        obtain ⟨rfl, rfl, rfl⟩ := H.p3
                        exact ⟨(by first | rfl | simp), hI567, hF567⟩
                      | false =>
                        replace H := H.ff
                        obtain ⟨⟨s568, q569, o570⟩, A571, HN⟩ := H.bind; clear H; have H := HN; clear HN
                        try dsimp only at H
                        go_wp2_with fail
                        refine (ssign.calls K hI562 c491 c494 s568 q569 o570 A571).mono ?_
                        rintro e w572 ⟨rfl, hI572, k572⟩
                        have hF572 := hF562.trans k572
                        have c0572 := hI572.c0
                        have c1572 := hI572.c1
                        have c2572 := hI572.c2
                        have f572 := hI572.f
                        go_wp2_with fail
                        go_ret
                        obtain ⟨rfl, rfl, rfl⟩ := H.p3
                        exact ⟨(by first | rfl | simp), hI572, hF572⟩
end Go.Proofs.YteonakpgenkhkaaDoor
