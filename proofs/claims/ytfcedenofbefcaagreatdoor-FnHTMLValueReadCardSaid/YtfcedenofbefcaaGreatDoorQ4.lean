import Derived.Test.YtfcedenofbefcaaGreatDoorQ3
namespace Go.Proofs.YtfcedenofbefcaaGreatDoor
open Go.RowKit
set_option linter.unusedVariables false
set_option linter.unusedSimpArgs false
theorem Hd.and {p q : Prop} (a : Hd p) (b : Hd q) : Hd (p ∧ q) := ⟨⟨a.out, b.out⟩⟩
set_option maxHeartbeats 8000000 in
set_option maxRecDepth 100000 in
theorem isAttribute_calls {w : World} (x : AttrV) (h : x.In w) (html : Bool) :
    Calls Tryz.prog 83 #[.agg #[.slice x.A1 x.d.before.length x.c1, .slice x.A2 x.d.name.length x.c2, .slice x.A3 x.d.ahead.length x.c3, .slice x.A4 x.d.behind.length x.c4, .slice x.A5 x.d.value.length x.c5, .int .i64 x.d.quote], .bool html] w (Says (fun b => b = true → GoodAttr html x.d) w) := by
  have HB : Hd (Below w.heap.size w (w.alloc (.cells #[.slice x.A1 x.d.before.length x.c1, .slice x.A2 x.d.name.length x.c2, .slice x.A3 x.d.ahead.length x.c3, .slice x.A4 x.d.behind.length x.c4, .slice x.A5 x.d.value.length x.c5, .int .i64 x.d.quote] 47))) := ⟨(Below.refl _ _).alloc (Nat.le_refl _) _⟩
  have HI := Hd.mk (h.below HB.out)
  generalize hd : x.d = d at HB HI ⊢
  obtain ⟨bf, nm, ah, bh, vl, qt⟩ := d
  have HB1 := Hd.mk HI.out.b1
  have HB2 := Hd.mk HI.out.b2
  have HB3 := Hd.mk HI.out.b3
  have HB4 := Hd.mk HI.out.b4
  have HB5 := Hd.mk HI.out.b5
  rw [hd] at HB1 HB2 HB3 HB4 HB5
  dsimp only at HB HB1 HB2 HB3 HB4 HB5 ⊢
  clear h hd HI
  have hl1 := HB1.out.len
  have hl5 := HB5.out.len
  go_enter Tryz.func83, Tryz.ntmps83
  by_cases hb0 : (bf.length : Int) = 0
  ·
    have db0 : ((bf.length : Int) == 0) = true := beq_iff_eq.mpr hb0
    have Hb0 := Hd.mk hb0; clear hb0
    go_wp2_with fail
    go_ret
    exact ⟨⟨_, rfl, fun h => by cases h⟩, HB.out⟩
  ·
    have db0 : ((bf.length : Int) == 0) = false := beq_eq_false_iff_ne.mpr hb0
    have Hb0 := Hd.mk hb0; clear hb0
    have hbf : 0 < bf.length := by have := Hb0.out; omega
    have Hbf := Hd.mk hbf; clear hbf
    go_wp2_with fail
    refine (plainBlanks_calls HB1.out).mono ?_
    rintro e w' ⟨⟨ra, rfl, hPa⟩, rfl⟩
    have HPa := Hd.mk hPa; clear hPa
    cases ra with
    | true =>
      replace HPa := Hd.mk (HPa.out rfl)
      go_wp2_with fail
      refine (isName_calls HB2.out).mono ?_
      rintro e w' ⟨⟨rb, rfl, hPb⟩, rfl⟩
      have HPb := Hd.mk hPb; clear hPb
      cases rb with
      | true =>
        replace HPb := Hd.mk (HPb.out rfl)
        go_wp2_with fail
        refine (plainBlanks_calls HB3.out).mono ?_
        rintro e w' ⟨⟨rc, rfl, hPc⟩, rfl⟩
        have HPc := Hd.mk hPc; clear hPc
        cases rc with
        | true =>
          replace HPc := Hd.mk (HPc.out rfl)
          go_wp2_with fail
          refine (plainBlanks_calls HB4.out).mono ?_
          rintro e w' ⟨⟨rd, rfl, hPd⟩, rfl⟩
          have HPd := Hd.mk hPd; clear hPd
          cases rd with
          | true =>
            replace HPd := Hd.mk (HPd.out rfl)
            go_wp2_with fail
            refine (Has_calls HB5.out 0).mono ?_
            rintro e w' ⟨rfl, rfl⟩
            have HN0 := Hd.mk (hasB_no (T := vl) (c := 0))
            generalize hasB vl 0 = r0 at HN0 ⊢
            cases r0 with
            | true =>
              go_wp2_with fail
              go_ret
              exact ⟨⟨_, rfl, fun h => by cases h⟩, HB.out⟩
            | false =>
              replace HN0 := Hd.mk (HN0.out rfl)
              by_cases hv2 : (200 : Int) < (vl.length : Int)
              ·
                have dv2 : decide ((200 : Int) < (vl.length : Int)) = true := decide_eq_true hv2
                go_wp2_with fail
                go_ret
                exact ⟨⟨_, rfl, fun h => by cases h⟩, HB.out⟩
              ·
                have dv2 : decide ((200 : Int) < (vl.length : Int)) = false := decide_eq_false hv2
                go_upto_region 3 with fail
                go_cut [5] (fun v5 w' => ∃ pl : Bool, v5 = .bool pl ∧ Hd (pl = true → Plain html vl) ∧ w.alloc (.cells #[.slice x.A1 bf.length x.c1, .slice x.A2 nm.length x.c2, .slice x.A3 ah.length x.c3, .slice x.A4 bh.length x.c4, .slice x.A5 vl.length x.c5, .int .i64 qt] 47) = w')
                case first =>
                  cases html with
                  | true =>
                    go_wp2_with fail
                    go_meet
                    case rel => exact ⟨true, rfl, ⟨fun _ => .inl rfl⟩, rfl⟩
                  | false =>
                    go_wp2_with fail
                    refine (Has_calls HB5.out 60).mono ?_
                    rintro e w' ⟨rfl, rfl⟩
                    have HNp1 := Hd.mk (hasB_no (T := vl) (c := 60))
                    generalize hasB vl 60 = rp1 at HNp1 ⊢
                    cases rp1 with
                    | true =>
                      go_wp2_with fail
                      go_meet
                      case rel => exact ⟨false, rfl, ⟨fun h => by cases h⟩, rfl⟩
                    | false =>
                      replace HNp1 := Hd.mk (HNp1.out rfl)
                      go_wp2_with fail
                      refine (Has_calls HB5.out 9).mono ?_
                      rintro e w' ⟨rfl, rfl⟩
                      have HNp2 := Hd.mk (hasB_no (T := vl) (c := 9))
                      generalize hasB vl 9 = rp2 at HNp2 ⊢
                      cases rp2 with
                      | true =>
                        go_wp2_with fail
                        go_meet
                        case rel => exact ⟨false, rfl, ⟨fun h => by cases h⟩, rfl⟩
                      | false =>
                        replace HNp2 := Hd.mk (HNp2.out rfl)
                        go_wp2_with fail
                        refine (Has_calls HB5.out 10).mono ?_
                        rintro e w' ⟨rfl, rfl⟩
                        have HNp3 := Hd.mk (hasB_no (T := vl) (c := 10))
                        generalize hasB vl 10 = rp3 at HNp3 ⊢
                        cases rp3 with
                        | true =>
                          go_wp2_with fail
                          go_meet
                          case rel => exact ⟨false, rfl, ⟨fun h => by cases h⟩, rfl⟩
                        | false =>
                          replace HNp3 := Hd.mk (HNp3.out rfl)
                          go_wp2_with fail
                          refine (Has_calls HB5.out 13).mono ?_
                          rintro e w' ⟨rfl, rfl⟩
                          have HNp4 := Hd.mk (hasB_no (T := vl) (c := 13))
                          generalize hasB vl 13 = rp4 at HNp4 ⊢
                          cases rp4 with
                          | true =>
                            go_wp2_with fail
                            go_meet
                            case rel => exact ⟨false, rfl, ⟨fun h => by cases h⟩, rfl⟩
                          | false =>
                            replace HNp4 := Hd.mk (HNp4.out rfl)
                            go_wp2_with fail
                            go_meet
                            case rel => exact ⟨true, rfl, ⟨fun _ => .inr fun c hc => ⟨HNp1.out c hc, HNp2.out c hc, HNp3.out c hc, HNp4.out c hc⟩⟩, rfl⟩
                case rest =>
                  obtain ⟨pl, rfl, HPl, rfl⟩ := hcut
                  by_cases hq0 : qt = 0
                  ·
                    have dq0 : (qt == 0) = true := beq_iff_eq.mpr hq0
                    have Hq0 := Hd.mk hq0; clear hq0
                    cases pl with
                    | true =>
                      replace HPl := Hd.mk (HPl.out rfl)
                      go_wp2_with fail
                      refine (Has_calls HB5.out 34).mono ?_
                      rintro e w' ⟨rfl, rfl⟩
                      have HNq0 := Hd.mk (hasB_no (T := vl) (c := 34))
                      generalize hasB vl 34 = rq0 at HNq0 ⊢
                      cases rq0 with
                      | true =>
                        go_wp2_with fail
                        go_ret
                        exact ⟨⟨_, rfl, fun h => by cases h⟩, HB.out⟩
                      | false =>
                        replace HNq0 := Hd.mk (HNq0.out rfl)
                        go_wp2_with fail
                        go_ret
                        exact ⟨⟨_, rfl, fun _ => ⟨Hbf.out, HPa.out, HPb.out, HPc.out, HPd.out, HN0.out, by show vl.length ≤ 200; omega, .inl ⟨Hq0.out, HPl.out, HNq0.out⟩⟩⟩, HB.out⟩
                    | false =>
                      go_wp2_with fail
                      go_ret
                      exact ⟨⟨_, rfl, fun h => by cases h⟩, HB.out⟩
                  ·
                    have dq0 : (qt == 0) = false := beq_eq_false_iff_ne.mpr hq0
                    have Hq0 := Hd.mk hq0; clear hq0
                    by_cases hq1 : qt = 1
                    ·
                      have dq1 : (qt == 1) = true := beq_iff_eq.mpr hq1
                      have Hq1 := Hd.mk hq1; clear hq1
                      cases pl with
                      | true =>
                        replace HPl := Hd.mk (HPl.out rfl)
                        go_wp2_with fail
                        refine (Has_calls HB5.out 39).mono ?_
                        rintro e w' ⟨rfl, rfl⟩
                        have HNq1 := Hd.mk (hasB_no (T := vl) (c := 39))
                        generalize hasB vl 39 = rq1 at HNq1 ⊢
                        cases rq1 with
                        | true =>
                          go_wp2_with fail
                          go_ret
                          exact ⟨⟨_, rfl, fun h => by cases h⟩, HB.out⟩
                        | false =>
                          replace HNq1 := Hd.mk (HNq1.out rfl)
                          go_wp2_with fail
                          go_ret
                          exact ⟨⟨_, rfl, fun _ => ⟨Hbf.out, HPa.out, HPb.out, HPc.out, HPd.out, HN0.out, by show vl.length ≤ 200; omega, .inr (.inl ⟨Hq1.out, HPl.out, HNq1.out⟩)⟩⟩, HB.out⟩
                      | false =>
                        go_wp2_with fail
                        go_ret
                        exact ⟨⟨_, rfl, fun h => by cases h⟩, HB.out⟩
                    ·
                      have dq1 : (qt == 1) = false := beq_eq_false_iff_ne.mpr hq1
                      have Hq1 := Hd.mk hq1; clear hq1
                      by_cases hq2 : qt = 2
                      ·
                        have dq2 : (qt == 2) = true := beq_iff_eq.mpr hq2
                        have Hq2 := Hd.mk hq2; clear hq2
                        cases html with
                        | true =>
                          go_wp2_with fail
                          refine (isName_calls HB5.out).mono ?_
                          rintro e w' ⟨⟨rn2, rfl, hPn2⟩, rfl⟩
                          have HPn2 := Hd.mk hPn2; clear hPn2
                          cases rn2 with
                          | true =>
                            replace HPn2 := Hd.mk (HPn2.out rfl)
                            go_wp2_with fail
                            go_ret
                            exact ⟨⟨_, rfl, fun _ => ⟨Hbf.out, HPa.out, HPb.out, HPc.out, HPd.out, HN0.out, by show vl.length ≤ 200; omega, .inr (.inr (.inl ⟨Hq2.out, rfl, HPn2.out⟩))⟩⟩, HB.out⟩
                          | false =>
                            go_wp2_with fail
                            go_ret
                            exact ⟨⟨_, rfl, fun h => by cases h⟩, HB.out⟩
                        | false =>
                          go_wp2_with fail
                          go_ret
                          exact ⟨⟨_, rfl, fun h => by cases h⟩, HB.out⟩
                      ·
                        have dq2 : (qt == 2) = false := beq_eq_false_iff_ne.mpr hq2
                        have Hq2 := Hd.mk hq2; clear hq2
                        cases html with
                        | true =>
                          by_cases hq3 : qt = 3
                          ·
                            have dq3 : (qt == 3) = true := beq_iff_eq.mpr hq3
                            have Hq3 := Hd.mk hq3; clear hq3
                            by_cases hv : (vl.length : Int) = 0
                            ·
                              have dv : ((vl.length : Int) == 0) = true := beq_iff_eq.mpr hv
                              have Hv := Hd.mk hv; clear hv
                              by_cases ha : (ah.length : Int) = 0
                              ·
                                have da : ((ah.length : Int) == 0) = true := beq_iff_eq.mpr ha
                                have Ha := Hd.mk ha; clear ha
                                by_cases hb : (bh.length : Int) = 0
                                ·
                                  have db : ((bh.length : Int) == 0) = true := beq_iff_eq.mpr hb
                                  have Hb := Hd.mk hb; clear hb
                                  go_wp2_with fail
                                  go_ret
                                  exact ⟨⟨_, rfl, fun _ => ⟨Hbf.out, HPa.out, HPb.out, HPc.out, HPd.out, HN0.out, by show vl.length ≤ 200; omega, .inr (.inr (.inr ⟨Hq3.out, rfl, (show vl = [] from List.eq_nil_of_length_eq_zero (by have := Hv.out; omega)), (show ah = [] from List.eq_nil_of_length_eq_zero (by have := Ha.out; omega)), (show bh = [] from List.eq_nil_of_length_eq_zero (by have := Hb.out; omega))⟩))⟩⟩, HB.out⟩
                                ·
                                  have db : ((bh.length : Int) == 0) = false := beq_eq_false_iff_ne.mpr hb
                                  have Hb := Hd.mk hb; clear hb
                                  go_wp2_with fail
                                  go_ret
                                  exact ⟨⟨_, rfl, fun h => by cases h⟩, HB.out⟩
                              ·
                                have da : ((ah.length : Int) == 0) = false := beq_eq_false_iff_ne.mpr ha
                                have Ha := Hd.mk ha; clear ha
                                go_wp2_with fail
                                go_ret
                                exact ⟨⟨_, rfl, fun h => by cases h⟩, HB.out⟩
                            ·
                              have dv : ((vl.length : Int) == 0) = false := beq_eq_false_iff_ne.mpr hv
                              have Hv := Hd.mk hv; clear hv
                              go_wp2_with fail
                              go_ret
                              exact ⟨⟨_, rfl, fun h => by cases h⟩, HB.out⟩
                          ·
                            have dq3 : (qt == 3) = false := beq_eq_false_iff_ne.mpr hq3
                            have Hq3 := Hd.mk hq3; clear hq3
                            go_wp2_with fail
                            go_ret
                            exact ⟨⟨_, rfl, fun h => by cases h⟩, HB.out⟩
                        | false =>
                          go_wp2_with fail
                          go_ret
                          exact ⟨⟨_, rfl, fun h => by cases h⟩, HB.out⟩
          | false =>
            go_wp2_with fail
            go_ret
            exact ⟨⟨_, rfl, fun h => by cases h⟩, HB.out⟩
        | false =>
          go_wp2_with fail
          go_ret
          exact ⟨⟨_, rfl, fun h => by cases h⟩, HB.out⟩
      | false =>
        go_wp2_with fail
        go_ret
        exact ⟨⟨_, rfl, fun h => by cases h⟩, HB.out⟩
    | false =>
      go_wp2_with fail
      go_ret
      exact ⟨⟨_, rfl, fun h => by cases h⟩, HB.out⟩
end Go.Proofs.YtfcedenofbefcaaGreatDoor
