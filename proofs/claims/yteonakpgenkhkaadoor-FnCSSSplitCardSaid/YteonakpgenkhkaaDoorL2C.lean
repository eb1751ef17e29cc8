import Derived.Test.YteonakpgenkhkaaDoorL2B
namespace Go.Proofs.YteonakpgenkhkaaDoor
open Go.RowKit
set_option linter.unusedVariables false
set_option linter.unusedSimpArgs false

/-! (*loop.example/pub-g01476/pub/tdcss.Lexer).consumeColumnToken -/
def consumeColumnToken.f (B : List Int) (p : Int) (s : Int) : Option (Bool × Int) :=
((pk B p 0).bind fun c448 =>
if (c448 == 124) = true then ((pk B p 1).bind fun c451 =>
some (c451 == 124)) else
some false).bind fun b453 =>
if b453 = true then (some (true, mv p 2)) else
some (false, p)
set_option maxHeartbeats 8000000 in
set_option maxRecDepth 100000 in
theorem consumeColumnToken.calls {w0 : World} {l z b : Nat} {B : List Int} {ET : TypeId} {EA : Addr} {p s : Int} (hI0 : Lx w0 l z b B ET EA p s) (r0 : Bool) (r1 : Int) (H : Hd (consumeColumnToken.f B p s = some (r0, r1))) :
    Calls Tryd.prog 70 #[.pointer (some ⟨l, 0, none⟩)] w0 fun e w' => e = .returned (.bool r0) ∧ Lx w' l z b B ET EA r1 s ∧ Fr z w0 w' := by
  have hF0 := Fr.refl z w0
  have hl0 := hI0.cl
  unfold consumeColumnToken.f at H
  go_enter Tryd.func70, Tryd.ntmps70
  obtain ⟨b453, H1, HC447⟩ := H.bind; clear H
  go_upto_region 1 with fail
  go_cut [16] (fun v16 w' => v16 = .bool b453 ∧ w0 = w')
  case first =>
    have H := H1; clear H1
    obtain ⟨c448, A449, HN⟩ := H.bind; clear H; have H := HN; clear HN
    go_wp2_with fail
    refine (Peek_calls hI0 0 c448 A449).mono ?_
    rintro e w' ⟨rfl, rfl⟩
    by_cases e450 : (c448 == 124) = true
    · 
      replace H := H.pos e450
      have e450n : (c448 != 124) = false := by simp only [bne, e450, Bool.not_true]
      obtain ⟨c451, A452, HN⟩ := H.bind; clear H; have H := HN; clear HN
      go_wp2_with fail
      refine (Peek_calls hI0 1 c451 A452).mono ?_
      rintro e w' ⟨rfl, rfl⟩
      obtain rfl := H.p1
      go_wp2_with fail
      go_meet
      case rel => exact ⟨(by first | rfl | simp), rfl⟩
    ·
      replace H := H.neg e450
      replace e450 := Bool.eq_false_iff.mpr e450
      have e450n : (c448 != 124) = true := by simp only [bne, e450, Bool.not_false]
      obtain rfl := H.p1
      go_wp2_with fail
      go_meet
      case rel => exact ⟨(by first | rfl | simp), rfl⟩
  case rest =>
    obtain ⟨rfl, rfl⟩ := hcut
    have H := HC447; clear HC447 H1
    cases b453 with
    | true =>
      replace H := H.tt
      go_wp2_with fail
      refine (Move_calls hI0 2).mono ?_
      rintro e w454 ⟨rfl, hI454, k454⟩
      have hF454 := hF0.trans k454
      have hl454 := hI454.cl
      go_wp2_with fail
      go_ret
      obtain ⟨rfl, rfl⟩ := H.p2
      exact ⟨(by first | rfl | simp), hI454, hF454⟩
    | false =>
      replace H := H.ff
      go_wp2_with fail
      go_ret
      obtain ⟨rfl, rfl⟩ := H.p2
      exact ⟨(by first | rfl | simp), hI0, hF0⟩

/-! (*loop.example/pub-g01476/pub/tdcss.Lexer).consumeCDOToken -/
def consumeCDOToken.f (B : List Int) (p : Int) (s : Int) : Option (Bool × Int) :=
((pk B p 0).bind fun c456 =>
if (c456 == 60) = true then ((pk B p 1).bind fun c459 =>
if (c459 == 33) = true then ((pk B p 2).bind fun c462 =>
if (c462 == 45) = true then ((pk B p 3).bind fun c465 =>
some (c465 == 45)) else
some false) else
some false) else
some false).bind fun b467 =>
if b467 = true then (some (true, mv p 4)) else
some (false, p)
set_option maxHeartbeats 8000000 in
set_option maxRecDepth 100000 in
theorem consumeCDOToken.calls {w0 : World} {l z b : Nat} {B : List Int} {ET : TypeId} {EA : Addr} {p s : Int} (hI0 : Lx w0 l z b B ET EA p s) (r0 : Bool) (r1 : Int) (H : Hd (consumeCDOToken.f B p s = some (r0, r1))) :
    Calls Tryd.prog 68 #[.pointer (some ⟨l, 0, none⟩)] w0 fun e w' => e = .returned (.bool r0) ∧ Lx w' l z b B ET EA r1 s ∧ Fr z w0 w' := by
  have hF0 := Fr.refl z w0
  have hl0 := hI0.cl
  unfold consumeCDOToken.f at H
  go_enter Tryd.func68, Tryd.ntmps68
  obtain ⟨b467, H1, HC455⟩ := H.bind; clear H
  go_upto_region 1 with fail
  go_cut [32] (fun v32 w' => v32 = .bool b467 ∧ w0 = w')
  case first =>
    have H := H1; clear H1
    obtain ⟨c456, A457, HN⟩ := H.bind; clear H; have H := HN; clear HN
    go_wp2_with fail
    refine (Peek_calls hI0 0 c456 A457).mono ?_
    rintro e w' ⟨rfl, rfl⟩
    by_cases e458 : (c456 == 60) = true
    · 
      replace H := H.pos e458
      have e458n : (c456 != 60) = false := by simp only [bne, e458, Bool.not_true]
      obtain ⟨c459, A460, HN⟩ := H.bind; clear H; have H := HN; clear HN
      go_wp2_with fail
      refine (Peek_calls hI0 1 c459 A460).mono ?_
      rintro e w' ⟨rfl, rfl⟩
      by_cases e461 : (c459 == 33) = true
      · 
        replace H := H.pos e461
        have e461n : (c459 != 33) = false := by simp only [bne, e461, Bool.not_true]
        obtain ⟨c462, A463, HN⟩ := H.bind; clear H; have H := HN; clear HN
        go_wp2_with fail
        refine (Peek_calls hI0 2 c462 A463).mono ?_
        rintro e w' ⟨rfl, rfl⟩
        by_cases e464 : (c462 == 45) = true
        · 
          replace H := H.pos e464
          have e464n : (c462 != 45) = false := by simp only [bne, e464, Bool.not_true]
          obtain ⟨c465, A466, HN⟩ := H.bind; clear H; have H := HN; clear HN
          go_wp2_with fail
          refine (Peek_calls hI0 3 c465 A466).mono ?_
          rintro e w' ⟨rfl, rfl⟩
          obtain rfl := H.p1
          go_wp2_with fail
          go_meet
          case rel => exact ⟨(by first | rfl | simp), rfl⟩
        ·
          replace H := H.neg e464
          replace e464 := Bool.eq_false_iff.mpr e464
          have e464n : (c462 != 45) = true := by simp only [bne, e464, Bool.not_false]
          obtain rfl := H.p1
          go_wp2_with fail
          go_meet
          case rel => exact ⟨(by first | rfl | simp), rfl⟩
      ·
        replace H := H.neg e461
        replace e461 := Bool.eq_false_iff.mpr e461
        have e461n : (c459 != 33) = true := by simp only [bne, e461, Bool.not_false]
        obtain rfl := H.p1
        go_wp2_with fail
        go_meet
        case rel => exact ⟨(by first | rfl | simp), rfl⟩
    ·
      replace H := H.neg e458
      replace e458 := Bool.eq_false_iff.mpr e458
      have e458n : (c456 != 60) = true := by simp only [bne, e458, Bool.not_false]
      obtain rfl := H.p1
      go_wp2_with fail
      go_meet
      case rel => exact ⟨(by first | rfl | simp), rfl⟩
  case rest =>
    obtain ⟨rfl, rfl⟩ := hcut
    have H := HC455; clear HC455 H1
    cases b467 with
    | true =>
      replace H := H.tt
      go_wp2_with fail
      refine (Move_calls hI0 4).mono ?_
      rintro e w468 ⟨rfl, hI468, k468⟩
      have hF468 := hF0.trans k468
      have hl468 := hI468.cl
      go_wp2_with fail
      go_ret
      obtain ⟨rfl, rfl⟩ := H.p2
      exact ⟨(by first | rfl | simp), hI468, hF468⟩
    | false =>
      replace H := H.ff
      go_wp2_with fail
      go_ret
      obtain ⟨rfl, rfl⟩ := H.p2
      exact ⟨(by first | rfl | simp), hI0, hF0⟩

/-! (*loop.example/pub-g01476/pub/tdcss.Lexer).consumeCDCToken -/
def consumeCDCToken.f (B : List Int) (p : Int) (s : Int) : Option (Bool × Int) :=
((pk B p 0).bind fun c470 =>
if (c470 == 45) = true then ((pk B p 1).bind fun c473 =>
if (c473 == 45) = true then ((pk B p 2).bind fun c476 =>
some (c476 == 62)) else
some false) else
some false).bind fun b478 =>
if b478 = true then (some (true, mv p 3)) else
some (false, p)
set_option maxHeartbeats 8000000 in
set_option maxRecDepth 100000 in
theorem consumeCDCToken.calls {w0 : World} {l z b : Nat} {B : List Int} {ET : TypeId} {EA : Addr} {p s : Int} (hI0 : Lx w0 l z b B ET EA p s) (r0 : Bool) (r1 : Int) (H : Hd (consumeCDCToken.f B p s = some (r0, r1))) :
    Calls Tryd.prog 62 #[.pointer (some ⟨l, 0, none⟩)] w0 fun e w' => e = .returned (.bool r0) ∧ Lx w' l z b B ET EA r1 s ∧ Fr z w0 w' := by
  have hF0 := Fr.refl z w0
  have hl0 := hI0.cl
  unfold consumeCDCToken.f at H
  go_enter Tryd.func62, Tryd.ntmps62
  obtain ⟨b478, H1, HC469⟩ := H.bind; clear H
  go_upto_region 1 with fail
  go_cut [24] (fun v24 w' => v24 = .bool b478 ∧ w0 = w')
  case first =>
    have H := H1; clear H1
    obtain ⟨c470, A471, HN⟩ := H.bind; clear H; have H := HN; clear HN
    go_wp2_with fail
    refine (Peek_calls hI0 0 c470 A471).mono ?_
    rintro e w' ⟨rfl, rfl⟩
    by_cases e472 : (c470 == 45) = true
    · 
      replace H := H.pos e472
      have e472n : (c470 != 45) = false := by simp only [bne, e472, Bool.not_true]
      obtain ⟨c473, A474, HN⟩ := H.bind; clear H; have H := HN; clear HN
      go_wp2_with fail
      refine (Peek_calls hI0 1 c473 A474).mono ?_
      rintro e w' ⟨rfl, rfl⟩
      by_cases e475 : (c473 == 45) = true
      · 
        replace H := H.pos e475
        have e475n : (c473 != 45) = false := by simp only [bne, e475, Bool.not_true]
        obtain ⟨c476, A477, HN⟩ := H.bind; clear H; have H := HN; clear HN
        go_wp2_with fail
        refine (Peek_calls hI0 2 c476 A477).mono ?_
        rintro e w' ⟨rfl, rfl⟩
        obtain rfl := H.p1
        go_wp2_with fail
        go_meet
        case rel => exact ⟨(by first | rfl | simp), rfl⟩
      ·
        replace H := H.neg e475
        replace e475 := Bool.eq_false_iff.mpr e475
        have e475n : (c473 != 45) = true := by simp only [bne, e475, Bool.not_false]
        obtain rfl := H.p1
        go_wp2_with fail
        go_meet
        case rel => exact ⟨(by first | rfl | simp), rfl⟩
    ·
      replace H := H.neg e472
      replace e472 := Bool.eq_false_iff.mpr e472
      have e472n : (c470 != 45) = true := by simp only [bne, e472, Bool.not_false]
      obtain rfl := H.p1
      go_wp2_with fail
      go_meet
      case rel => exact ⟨(by first | rfl | simp), rfl⟩
  case rest =>
    obtain ⟨rfl, rfl⟩ := hcut
    have H := HC469; clear HC469 H1
    cases b478 with
    | true =>
      replace H := H.tt
      go_wp2_with fail
      refine (Move_calls hI0 3).mono ?_
      rintro e w479 ⟨rfl, hI479, k479⟩
      have hF479 := hF0.trans k479
      have hl479 := hI479.cl
      go_wp2_with fail
      go_ret
      obtain ⟨rfl, rfl⟩ := H.p2
      exact ⟨(by first | rfl | simp), hI479, hF479⟩
    | false =>
      replace H := H.ff
      go_wp2_with fail
      go_ret
      obtain ⟨rfl, rfl⟩ := H.p2
      exact ⟨(by first | rfl | simp), hI0, hF0⟩

/-! (*loop.example/pub-g01476/pub/tdcss.Lexer).consumeMatch -/
def consumeMatch.f (B : List Int) (p : Int) (s : Int) : Option (Int × Int) :=
(pk B p 1).bind fun c480 =>
if (c480 == 61) = true then ((pk B p 0).bind fun c483 =>
if (c483 == 126) = true then (some (14, mv p 2)) else
if (c483 == 124) = true then (some (15, mv p 2)) else
if (c483 == 94) = true then (some (16, mv p 2)) else
if (c483 == 36) = true then (some (17, mv p 2)) else
if (c483 == 42) = true then (some (18, mv p 2)) else
some (0, p)) else
some (0, p)
set_option maxHeartbeats 8000000 in
set_option maxRecDepth 100000 in
theorem consumeMatch.calls {w0 : World} {l z b : Nat} {B : List Int} {ET : TypeId} {EA : Addr} {p s : Int} (hI0 : Lx w0 l z b B ET EA p s) (r0 : Int) (r1 : Int) (H : Hd (consumeMatch.f B p s = some (r0, r1))) :
    Calls Tryd.prog 66 #[.pointer (some ⟨l, 0, none⟩)] w0 fun e w' => e = .returned (.int .u32 r0) ∧ Lx w' l z b B ET EA r1 s ∧ Fr z w0 w' := by
  have hF0 := Fr.refl z w0
  have hl0 := hI0.cl
  unfold consumeMatch.f at H
  go_enter Tryd.func66, Tryd.ntmps66
  obtain ⟨c480, A481, HN⟩ := H.bind; clear H; have H := HN; clear HN
  go_wp2_with fail
  refine (Peek_calls hI0 1 c480 A481).mono ?_
  rintro e w' ⟨rfl, rfl⟩
  by_cases e482 : (c480 == 61) = true
  · 
    replace H := H.pos e482
    have e482n : (c480 != 61) = false := by simp only [bne, e482, Bool.not_true]
    obtain ⟨c483, A484, HN⟩ := H.bind; clear H; have H := HN; clear HN
    go_wp2_with fail
    refine (Peek_calls hI0 0 c483 A484).mono ?_
    rintro e w' ⟨rfl, rfl⟩
    by_cases e485 : (c483 == 126) = true
    · 
      replace H := H.pos e485
      have e485n : (c483 != 126) = false := by simp only [bne, e485, Bool.not_true]
      go_wp2_with fail
      refine (Move_calls hI0 2).mono ?_
      rintro e w486 ⟨rfl, hI486, k486⟩
      have hF486 := hF0.trans k486
      have hl486 := hI486.cl
      go_wp2_with fail
      go_ret
      obtain ⟨rfl, rfl⟩ := H.p2
      exact ⟨(by first | rfl | simp), hI486, hF486⟩
    ·
      replace H := H.neg e485
      replace e485 := Bool.eq_false_iff.mpr e485
      have e485n : (c483 != 126) = true := by simp only [bne, e485, Bool.not_false]
      by_cases e487 : (c483 == 124) = true
      · 
        replace H := H.pos e487
        have e487n : (c483 != 124) = false := by simp only [bne, e487, Bool.not_true]
        go_wp2_with fail
        refine (Move_calls hI0 2).mono ?_
        rintro e w488 ⟨rfl, hI488, k488⟩
        have hF488 := hF0.trans k488
        have hl488 := hI488.cl
        go_wp2_with fail
        go_ret
        obtain ⟨rfl, rfl⟩ := H.p2
        exact ⟨(by first | rfl | simp), hI488, hF488⟩
      ·
        replace H := H.neg e487
        replace e487 := Bool.eq_false_iff.mpr e487
        have e487n : (c483 != 124) = true := by simp only [bne, e487, Bool.not_false]
        by_cases e489 : (c483 == 94) = true
        · 
          replace H := H.pos e489
          have e489n : (c483 != 94) = false := by simp only [bne, e489, Bool.not_true]
          go_wp2_with fail
          refine (Move_calls hI0 2).mono ?_
          rintro e w490 ⟨rfl, hI490, k490⟩
          have hF490 := hF0.trans k490
          have hl490 := hI490.cl
          go_wp2_with fail
          go_ret
          obtain ⟨rfl, rfl⟩ := H.p2
          exact ⟨(by first | rfl | simp), hI490, hF490⟩
        ·
          replace H := H.neg e489
          replace e489 := Bool.eq_false_iff.mpr e489
          have e489n : (c483 != 94) = true := by simp only [bne, e489, Bool.not_false]
          by_cases e491 : (c483 == 36) = true
          · 
            replace H := H.pos e491
            have e491n : (c483 != 36) = false := by simp only [bne, e491, Bool.not_true]
            go_wp2_with fail
            refine (Move_calls hI0 2).mono ?_
            rintro e w492 ⟨rfl, hI492, k492⟩
            have hF492 := hF0.trans k492
            have hl492 := hI492.cl
            go_wp2_with fail
            go_ret
            obtain ⟨rfl, rfl⟩ := H.p2
            exact ⟨(by first | rfl | simp), hI492, hF492⟩
          ·
            replace H := H.neg e491
            replace e491 := Bool.eq_false_iff.mpr e491
            have e491n : (c483 != 36) = true := by simp only [bne, e491, Bool.not_false]
            by_cases e493 : (c483 == 42) = true
            · 
              replace H := H.pos e493
              have e493n : (c483 != 42) = false := by simp only [bne, e493, Bool.not_true]
              go_wp2_with fail
              refine (Move_calls hI0 2).mono ?_
              rintro e w494 ⟨rfl, hI494, k494⟩
              have hF494 := hF0.trans k494
              have hl494 := hI494.cl
              go_wp2_with fail
              go_ret
              obtain ⟨rfl, rfl⟩ := H.p2
              exact ⟨(by first | rfl | simp), hI494, hF494⟩
            ·
              replace H := H.neg e493
              replace e493 := Bool.eq_false_iff.mpr e493
              have e493n : (c483 != 42) = true := by simp only [bne, e493, Bool.not_false]
              go_wp2_with fail
              go_ret
              obtain ⟨rfl, rfl⟩ := H.p2
              exact ⟨(by first | rfl | simp), hI0, hF0⟩
  ·
    replace H := H.neg e482
    replace e482 := Bool.eq_false_iff.mpr e482
    have e482n : (c480 != 61) = true := by simp only [bne, e482, Bool.not_false]
    go_wp2_with fail
    go_ret
    obtain ⟨rfl, rfl⟩ := H.p2
    exact ⟨(by first | rfl | simp), hI0, hF0⟩

/-! (*loop.example/pub-g01476/pub/tdcss.Lexer).consumeBracket -/
def consumeBracket.f (B : List Int) (p : Int) (s : Int) : Option (Int × Int) :=
(pk B p 0).bind fun c495 =>
if (c495 == 40) = true then (some (28, mv p 1)) else
if (c495 == 41) = true then (some (29, mv p 1)) else
if (c495 == 91) = true then (some (26, mv p 1)) else
if (c495 == 93) = true then (some (27, mv p 1)) else
if (c495 == 123) = true then (some (30, mv p 1)) else
if (c495 == 125) = true then (some (31, mv p 1)) else
some (0, p)
set_option maxHeartbeats 8000000 in
set_option maxRecDepth 100000 in
theorem consumeBracket.calls {w0 : World} {l z b : Nat} {B : List Int} {ET : TypeId} {EA : Addr} {p s : Int} (hI0 : Lx w0 l z b B ET EA p s) (r0 : Int) (r1 : Int) (H : Hd (consumeBracket.f B p s = some (r0, r1))) :
    Calls Tryd.prog 58 #[.pointer (some ⟨l, 0, none⟩)] w0 fun e w' => e = .returned (.int .u32 r0) ∧ Lx w' l z b B ET EA r1 s ∧ Fr z w0 w' := by
  have hF0 := Fr.refl z w0
  have hl0 := hI0.cl
  unfold consumeBracket.f at H
  go_enter Tryd.func58, Tryd.ntmps58
  obtain ⟨c495, A496, HN⟩ := H.bind; clear H; have H := HN; clear HN
  go_wp2_with fail
  refine (Peek_calls hI0 0 c495 A496).mono ?_
  rintro e w' ⟨rfl, rfl⟩
  by_cases e497 : (c495 == 40) = true
  · 
    replace H := H.pos e497
    have e497n : (c495 != 40) = false := by simp only [bne, e497, Bool.not_true]
    go_wp2_with fail
    refine (Move_calls hI0 1).mono ?_
    rintro e w498 ⟨rfl, hI498, k498⟩
    have hF498 := hF0.trans k498
    have hl498 := hI498.cl
    go_wp2_with fail
    go_ret
    obtain ⟨rfl, rfl⟩ := H.p2
    exact ⟨(by first | rfl | simp), hI498, hF498⟩
  ·
    replace H := H.neg e497
    replace e497 := Bool.eq_false_iff.mpr e497
    have e497n : (c495 != 40) = true := by simp only [bne, e497, Bool.not_false]
    by_cases e499 : (c495 == 41) = true
    · 
      replace H := H.pos e499
      have e499n : (c495 != 41) = false := by simp only [bne, e499, Bool.not_true]
      go_wp2_with fail
      refine (Move_calls hI0 1).mono ?_
      rintro e w500 ⟨rfl, hI500, k500⟩
      have hF500 := hF0.trans k500
      have hl500 := hI500.cl
      go_wp2_with fail
      go_ret
      obtain ⟨rfl, rfl⟩ := H.p2
      exact ⟨(by first | rfl | simp), hI500, hF500⟩
    ·
      replace H := H.neg e499
      replace e499 := Bool.eq_false_iff.mpr e499
      have e499n : (c495 != 41) = true := by simp only [bne, e499, Bool.not_false]
      by_cases e501 : (c495 == 91) = true
      · 
        replace H := H.pos e501
        have e501n : (c495 != 91) = false := by simp only [bne, e501, Bool.not_true]
        go_wp2_with fail
        refine (Move_calls hI0 1).mono ?_
        rintro e w502 ⟨rfl, hI502, k502⟩
        have hF502 := hF0.trans k502
        have hl502 := hI502.cl
        go_wp2_with fail
        go_ret
        obtain ⟨rfl, rfl⟩ := H.p2
        exact ⟨(by first | rfl | simp), hI502, hF502⟩
      ·
        replace H := H.neg e501
        replace e501 := Bool.eq_false_iff.mpr e501
        have e501n : (c495 != 91) = true := by simp only [bne, e501, Bool.not_false]
        by_cases e503 : (c495 == 93) = true
        · 
          replace H := H.pos e503
          have e503n : (c495 != 93) = false := by simp only [bne, e503, Bool.not_true]
          go_wp2_with fail
          refine (Move_calls hI0 1).mono ?_
          rintro e w504 ⟨rfl, hI504, k504⟩
          have hF504 := hF0.trans k504
          have hl504 := hI504.cl
          go_wp2_with fail
          go_ret
          obtain ⟨rfl, rfl⟩ := H.p2
          exact ⟨(by first | rfl | simp), hI504, hF504⟩
        ·
          replace H := H.neg e503
          replace e503 := Bool.eq_false_iff.mpr e503
          have e503n : (c495 != 93) = true := by simp only [bne, e503, Bool.not_false]
          by_cases e505 : (c495 == 123) = true
          · 
            replace H := H.pos e505
            have e505n : (c495 != 123) = false := by simp only [bne, e505, Bool.not_true]
            go_wp2_with fail
            refine (Move_calls hI0 1).mono ?_
            rintro e w506 ⟨rfl, hI506, k506⟩
            have hF506 := hF0.trans k506
            have hl506 := hI506.cl
            go_wp2_with fail
            go_ret
            obtain ⟨rfl, rfl⟩ := H.p2
            exact ⟨(by first | rfl | simp), hI506, hF506⟩
          ·
            replace H := H.neg e505
            replace e505 := Bool.eq_false_iff.mpr e505
            have e505n : (c495 != 123) = true := by simp only [bne, e505, Bool.not_false]
            by_cases e507 : (c495 == 125) = true
            · 
              replace H := H.pos e507
              have e507n : (c495 != 125) = false := by simp only [bne, e507, Bool.not_true]
              go_wp2_with fail
              refine (Move_calls hI0 1).mono ?_
              rintro e w508 ⟨rfl, hI508, k508⟩
              have hF508 := hF0.trans k508
              have hl508 := hI508.cl
              go_wp2_with fail
              go_ret
              obtain ⟨rfl, rfl⟩ := H.p2
              exact ⟨(by first | rfl | simp), hI508, hF508⟩
            ·
              replace H := H.neg e507
              replace e507 := Bool.eq_false_iff.mpr e507
              have e507n : (c495 != 125) = true := by simp only [bne, e507, Bool.not_false]
              go_wp2_with fail
              go_ret
              obtain ⟨rfl, rfl⟩ := H.p2
              exact ⟨(by first | rfl | simp), hI0, hF0⟩

/-! (*loop.example/pub-g01476/pub/tdcss.Lexer).consumeNumeric -/
def consumeNumeric.f (K : Nat) (B : List Int) (p : Int) (s : Int) : Option (Int × Int) :=
(consumeNumberToken.f K B p s).bind fun (t509, p510) =>
if t509 = true then ((consumeByte.f B p510 s 37).bind fun (t513, p514) =>
if t513 = true then (some (11, p514)) else
(consumeIdentToken.f K B p514 s).bind fun (t517, p518) =>
if t517 = true then (some (12, p518)) else
some (10, p518)) else
some (0, p510)
set_option maxHeartbeats 8000000 in
set_option maxRecDepth 100000 in
theorem consumeNumeric.calls (K : Nat) {w0 : World} {l z b : Nat} {B : List Int} {ET : TypeId} {EA : Addr} {p s : Int} (hI0 : Lx w0 l z b B ET EA p s) (r0 : Int) (r1 : Int) (H : Hd (consumeNumeric.f K B p s = some (r0, r1))) :
    Calls Tryd.prog 61 #[.pointer (some ⟨l, 0, none⟩)] w0 fun e w' => e = .returned (.int .u32 r0) ∧ Lx w' l z b B ET EA r1 s ∧ Fr z w0 w' := by
  have hF0 := Fr.refl z w0
  have hl0 := hI0.cl
  unfold consumeNumeric.f at H
  go_enter Tryd.func61, Tryd.ntmps61
  obtain ⟨⟨t509, p510⟩, A511, HN⟩ := H.bind; clear H; have H := HN; clear HN
  try dsimp only at H
  go_wp2_with fail
  refine (consumeNumberToken.calls K hI0  t509 p510 A511).mono ?_
  rintro e w512 ⟨rfl, hI512, k512⟩
  have hF512 := hF0.trans k512
  have hl512 := hI512.cl
  cases t509 with
  | true =>
    replace H := H.tt
    obtain ⟨⟨t513, p514⟩, A515, HN⟩ := H.bind; clear H; have H := HN; clear HN
    try dsimp only at H
    go_wp2_with fail
    refine (consumeByte.calls hI512 37 t513 p514 A515).mono ?_
    rintro e w516 ⟨rfl, hI516, k516⟩
    have hF516 := hF512.trans k516
    have hl516 := hI516.cl
    cases t513 with
    | true =>
      replace H := H.tt
      go_wp2_with fail
      go_ret
      obtain ⟨rfl, rfl⟩ := H.p2
      exact ⟨(by first | rfl | simp), hI516, hF516⟩
    | false =>
      replace H := H.ff
      obtain ⟨⟨t517, p518⟩, A519, HN⟩ := H.bind; clear H; have H := HN; clear HN
      try dsimp only at H
      go_wp2_with fail
      refine (consumeIdentToken.calls K hI516  t517 p518 A519).mono ?_
      rintro e w520 ⟨rfl, hI520, k520⟩
      have hF520 := hF516.trans k520
      have hl520 := hI520.cl
      cases t517 with
      | true =>
        replace H := H.tt
        go_wp2_with fail
        go_ret
        obtain ⟨rfl, rfl⟩ := H.p2
        exact ⟨(by first | rfl | simp), hI520, hF520⟩
      | false =>
        replace H := H.ff
        go_wp2_with fail
        go_ret
        obtain ⟨rfl, rfl⟩ := H.p2
        exact ⟨(by first | rfl | simp), hI520, hF520⟩
  | false =>
    replace H := H.ff
    go_wp2_with fail
    go_ret
    obtain ⟨rfl, rfl⟩ := H.p2
    exact ⟨(by first | rfl | simp), hI512, hF512⟩

/-! (*loop.example/pub-g01476/pub/tdcss.Lexer).consumeString -/
def consumeString.l0 (K : Nat) (B : List Int) (s : Int) (c521 : Int) : Nat → Int → Option ((Int × Int) ⊕ (Int))
  | 0, _ => none
  | k + 1, p525 =>
    (pk B p525 0).bind fun c527 =>
    if ((c527 == 0) && (atEnd B p525 0)) = true then (some (.inr p525)) else
    if (((c527 == 10) || (c527 == 13)) || (c527 == 12)) = true then (some (.inl (6, mv p525 1))) else
    if (c527 == c521) = true then (some (.inr (mv p525 1))) else
    if (c527 == 92) = true then ((consumeEscape.f K B p525 s).bind fun (t544, p545) =>
    if t544 = true then (consumeString.l0 K B s c521 k p545) else
    (consumeNewline.f B (mv p545 1) s).bind fun (t549, p550) =>
    consumeString.l0 K B s c521 k p550) else
    consumeString.l0 K B s c521 k (mv p525 1)
def consumeString.f (K : Nat) (B : List Int) (p : Int) (s : Int) : Option (Int × Int) :=
(pk B p 0).bind fun c521 =>
(consumeString.l0 K B s c521 K (mv p 1)).bind fun o => joinS o (fun x => some x) fun p554 =>
some (5, p554)
set_option maxHeartbeats 8000000 in
set_option maxRecDepth 100000 in
theorem consumeString.calls (K : Nat) {w0 : World} {l z b : Nat} {B : List Int} {ET : TypeId} {EA : Addr} {p s : Int} (hI0 : Lx w0 l z b B ET EA p s) (r0 : Int) (r1 : Int) (H : Hd (consumeString.f K B p s = some (r0, r1))) :
    Calls Tryd.prog 60 #[.pointer (some ⟨l, 0, none⟩)] w0 fun e w' => e = .returned (.int .u32 r0) ∧ Lx w' l z b B ET EA r1 s ∧ Fr z w0 w' := by
  have hF0 := Fr.refl z w0
  have hl0 := hI0.cl
  unfold consumeString.f at H
  go_enter Tryd.func60, Tryd.ntmps60
  obtain ⟨c521, A522, HN⟩ := H.bind; clear H; have H := HN; clear HN
  go_wp2_with fail
  refine (Peek_calls hI0 0 c521 A522).mono ?_
  rintro e w' ⟨rfl, rfl⟩
  go_wp2_with fail
  refine (Move_calls hI0 1).mono ?_
  rintro e w523 ⟨rfl, hI523, k523⟩
  have hF523 := hF0.trans k523
  have hl523 := hI523.cl
  obtain ⟨o524, H1, HC524⟩ := H.bind; clear H
  go_upto_block 0 with fail
  go_cut [] (fun w' => ∃ (p554 : Int), Hd (o524 = .inr p554) ∧ Hd (Lx w' l z b B ET EA p554 s) ∧ Hd (Fr z w0 w'))
  case first =>
    go_wp2_with fail
    go_loopg [] K (fun gk w' => ∃ (p525 : Int), Hd (consumeString.l0 K B s c521 gk p525 = some o524) ∧ Hd (Lx w' l z b B ET EA p525 s) ∧ Hd (Fr z w0 w'))
    case atStart => exact ⟨mv p 1, H1, ⟨hI523⟩, ⟨hF523⟩⟩
    case round =>
      clear H1
      obtain ⟨p525, H, gI, gF⟩ := hrel
      have hI526 := gI.out; have hF526 := gF.out; clear gI gF
      have hl526 := hI526.cl
      cases gk with
      | zero => exact absurd H.out (by simp [consumeString.l0])
      | succ k =>
        simp only [consumeString.l0] at H
        obtain ⟨c527, A528, HN⟩ := H.bind; clear H; have H := HN; clear HN
        go_wp2_with fail
        refine (Peek_calls hI526 0 c527 A528).mono ?_
        rintro e w' ⟨rfl, rfl⟩
        generalize hb529 : ((c527 == 0) && (atEnd B p525 0)) = b534 at H
        have HB529 := Hd.mk hb529; clear hb529
        go_upto_region 4 with fail
        go_cut [29] (fun v29 w' => v29 = .bool b534 ∧ Hd (Lx w' l z b B ET EA p525 s) ∧ Hd (Fr z w0 w'))
        case first =>
          clear H
          by_cases e530 : (c527 == 0) = true
          · 
            have e530n : (c527 != 0) = false := by simp only [bne, e530, Bool.not_true]
            by_cases e531 : (atEnd B p525 0) = true
            · 
              go_wp2_with fail
              refine (Err_end hI526 e531).mono ?_
              rintro e w532 ⟨rfl, hI532, k532⟩
              have hF532 := hF526.trans k532
              have hl532 := hI532.cl
              go_wp2_with fail
              go_meet
              case rel => exact ⟨by rw [← HB529.out, e530, e531]; first | rfl | simp, ⟨hI532⟩, ⟨hF532⟩⟩
            ·
              replace e531 := Bool.eq_false_iff.mpr e531
              go_wp2_with fail
              refine (Err_not hI526 e531).mono ?_
              rintro e w533 ⟨rfl, hI533, k533⟩
              have hF533 := hF526.trans k533
              have hl533 := hI533.cl
              go_wp2_with fail
              go_meet
              case rel => exact ⟨by rw [← HB529.out, e530, e531]; first | rfl | simp, ⟨hI533⟩, ⟨hF533⟩⟩
          ·
            replace e530 := Bool.eq_false_iff.mpr e530
            have e530n : (c527 != 0) = true := by simp only [bne, e530, Bool.not_false]
            go_wp2_with fail
            go_meet
            case rel => exact ⟨by rw [← HB529.out, e530]; first | rfl | simp, ⟨hI526⟩, ⟨hF526⟩⟩
        case rest =>
          obtain ⟨rfl, gI, gF⟩ := hcut
          have hI535 := gI.out; have hF535 := gF.out; clear gI gF
          have hl535 := hI535.cl
          cases b534 with
          | true =>
            replace H := H.tt
            obtain rfl := H.p1
            go_wp2_with fail
            go_meet
            case rel => exact ⟨p525, ⟨rfl⟩, ⟨hI535⟩, ⟨hF535⟩⟩
          | false =>
            replace H := H.ff
            generalize hb536 : (((c527 == 10) || (c527 == 13)) || (c527 == 12)) = b539 at H
            have HB536 := Hd.mk hb536; clear hb536
            go_upto_region 5 with fail
            go_cut [39] (fun v39 w' => v39 = .bool b539 ∧ wc = w')
            case first =>
              clear H
              by_cases e537 : (c527 == 10) = true
              · 
                have e537n : (c527 != 10) = false := by simp only [bne, e537, Bool.not_true]
                go_wp2_with fail
                go_meet
                case rel => exact ⟨by rw [← HB536.out, e537]; first | rfl | simp, rfl⟩
              ·
                replace e537 := Bool.eq_false_iff.mpr e537
                have e537n : (c527 != 10) = true := by simp only [bne, e537, Bool.not_false]
                by_cases e538 : (c527 == 13) = true
                · 
                  have e538n : (c527 != 13) = false := by simp only [bne, e538, Bool.not_true]
                  go_wp2_with fail
                  go_meet
                  case rel => exact ⟨by rw [← HB536.out, e537, e538]; first | rfl | simp, rfl⟩
                ·
                  replace e538 := Bool.eq_false_iff.mpr e538
                  have e538n : (c527 != 13) = true := by simp only [bne, e538, Bool.not_false]
                  go_wp2_with fail
                  go_meet
                  case rel => exact ⟨by rw [← HB536.out, e537, e538]; first | rfl | simp, rfl⟩
            case rest =>
              obtain ⟨rfl, rfl⟩ := hcut
              cases b539 with
              | true =>
                replace H := H.tt
                go_wp2_with fail
                refine (Move_calls hI535 1).mono ?_
                rintro e w540 ⟨rfl, hI540, k540⟩
                have hF540 := hF535.trans k540
                have hl540 := hI540.cl
                obtain rfl := H.p1; clear H
                have H := HC524.inlS; clear HC524
                go_wp2_with fail
                go_ret
                obtain ⟨rfl, rfl⟩ := H.p2
                exact ⟨(by first | rfl | simp), hI540, hF540⟩
              | false =>
                replace H := H.ff
                by_cases e541 : (c527 == c521) = true
                · 
                  replace H := H.pos e541
                  have e541n : (c527 != c521) = false := by simp only [bne, e541, Bool.not_true]
                  go_wp2_with fail
                  refine (Move_calls hI535 1).mono ?_
                  rintro e w542 ⟨rfl, hI542, k542⟩
                  have hF542 := hF535.trans k542
                  have hl542 := hI542.cl
                  obtain rfl := H.p1
                  go_wp2_with fail
                  go_meet
                  case rel => exact ⟨mv p525 1, ⟨rfl⟩, ⟨hI542⟩, ⟨hF542⟩⟩
                ·
                  replace H := H.neg e541
                  replace e541 := Bool.eq_false_iff.mpr e541
                  have e541n : (c527 != c521) = true := by simp only [bne, e541, Bool.not_false]
                  by_cases e543 : (c527 == 92) = true
                  · 
                    replace H := H.pos e543
                    have e543n : (c527 != 92) = false := by simp only [bne, e543, Bool.not_true]
                    obtain ⟨⟨t544, p545⟩, A546, HN⟩ := H.bind; clear H; have H := HN; clear HN
                    try dsimp only at H
                    go_wp2_with fail
                    refine (consumeEscape.calls K hI535  t544 p545 A546).mono ?_
                    rintro e w547 ⟨rfl, hI547, k547⟩
                    have hF547 := hF535.trans k547
                    have hl547 := hI547.cl
                    cases t544 with
                    | true =>
                      replace H := H.tt
                      go_wp2_with fail
                      go_roundg k
                      case measure => exact Nat.lt_succ_self _
                      case rel => exact ⟨p545, H, ⟨hI547⟩, ⟨hF547⟩⟩
                    | false =>
                      replace H := H.ff
                      go_wp2_with fail
                      refine (Move_calls hI547 1).mono ?_
                      rintro e w548 ⟨rfl, hI548, k548⟩
                      have hF548 := hF547.trans k548
                      have hl548 := hI548.cl
                      obtain ⟨⟨t549, p550⟩, A551, HN⟩ := H.bind; clear H; have H := HN; clear HN
                      try dsimp only at H
                      go_wp2_with fail
                      refine (consumeNewline.calls hI548  t549 p550 A551).mono ?_
                      rintro e w552 ⟨rfl, hI552, k552⟩
                      have hF552 := hF548.trans k552
                      have hl552 := hI552.cl
                      go_wp2_with fail
                      go_roundg k
                      case measure => exact Nat.lt_succ_self _
                      case rel => exact ⟨p550, H, ⟨hI552⟩, ⟨hF552⟩⟩
                  ·
                    replace H := H.neg e543
                    replace e543 := Bool.eq_false_iff.mpr e543
                    have e543n : (c527 != 92) = true := by simp only [bne, e543, Bool.not_false]
                    go_wp2_with fail
                    refine (Move_calls hI535 1).mono ?_
                    rintro e w553 ⟨rfl, hI553, k553⟩
                    have hF553 := hF535.trans k553
                    have hl553 := hI553.cl
                    go_wp2_with fail
                    go_roundg k
                    case measure => exact Nat.lt_succ_self _
                    case rel => exact ⟨mv p525 1, H, ⟨hI553⟩, ⟨hF553⟩⟩
  case rest =>
    obtain ⟨p554, ho, gI, gF⟩ := hcut
    have hI555 := gI.out; have hF555 := gF.out; clear gI gF
    have hl555 := hI555.cl
    have ho := ho.out; subst ho; have H := HC524.inrS; clear HC524 H1
    go_wp2_with fail
    go_ret
    obtain ⟨rfl, rfl⟩ := H.p2
    exact ⟨(by first | rfl | simp), hI555, hF555⟩

/-! (*loop.example/pub-g01476/pub/tdcss.Lexer).consumeRemnantsBadURL -/
def consumeRemnantsBadURL.l0 (K : Nat) (B : List Int) (s : Int) : Nat → Int → Option (Int)
  | 0, _ => none
  | k + 1, p589 =>
    ((consumeByte.f B p589 s 41).bind fun (t592, p593) =>
    if t592 = true then (some (true, p593)) else
    if (atEnd B p593 0) = true then (some (true, p593)) else
    some (false, p593)).bind fun (b599, p600) =>
    if b599 = true then (some p600) else
    (consumeEscape.f K B p600 s).bind fun (t602, p603) =>
    if t602 = true then (consumeRemnantsBadURL.l0 K B s k p603) else
    consumeRemnantsBadURL.l0 K B s k (mv p603 1)
def consumeRemnantsBadURL.f (K : Nat) (B : List Int) (p : Int) (s : Int) : Option (Int) :=
consumeRemnantsBadURL.l0 K B s K p
set_option maxHeartbeats 8000000 in
set_option maxRecDepth 100000 in
theorem consumeRemnantsBadURL.calls (K : Nat) {w0 : World} {l z b : Nat} {B : List Int} {ET : TypeId} {EA : Addr} {p s : Int} (hI0 : Lx w0 l z b B ET EA p s) (r0 : Int) (H : Hd (consumeRemnantsBadURL.f K B p s = some r0)) :
    Calls Tryd.prog 88 #[.pointer (some ⟨l, 0, none⟩)] w0 fun e w' => e = .returned (.tuple #[]) ∧ Lx w' l z b B ET EA r0 s ∧ Fr z w0 w' := by
  have hF0 := Fr.refl z w0
  have hl0 := hI0.cl
  unfold consumeRemnantsBadURL.f at H
  go_enter Tryd.func88, Tryd.ntmps88
  have H1 := H; clear H
  go_wp2_with fail
  go_loopg [] K (fun gk w' => ∃ (p589 : Int), Hd (consumeRemnantsBadURL.l0 K B s gk p589 = some r0) ∧ Hd (Lx w' l z b B ET EA p589 s) ∧ Hd (Fr z w0 w'))
  case atStart => exact ⟨p, H1, ⟨hI0⟩, ⟨hF0⟩⟩
  case round =>
    clear H1
    obtain ⟨p589, H, gI, gF⟩ := hrel
    have hI590 := gI.out; have hF590 := gF.out; clear gI gF
    have hl590 := hI590.cl
    cases gk with
    | zero => exact absurd H.out (by simp [consumeRemnantsBadURL.l0])
    | succ k =>
      simp only [consumeRemnantsBadURL.l0] at H
      obtain ⟨⟨b599, p600⟩, H1, HC591⟩ := H.bind; clear H
      try dsimp only at HC591
      go_upto_region 0 with fail
      go_cut [11] (fun v11 w' => v11 = .bool b599 ∧ Hd (Lx w' l z b B ET EA p600 s) ∧ Hd (Fr z w0 w'))
      case first =>
        have H := H1; clear H1
        obtain ⟨⟨t592, p593⟩, A594, HN⟩ := H.bind; clear H; have H := HN; clear HN
        try dsimp only at H
        go_wp2_with fail
        refine (consumeByte.calls hI590 41 t592 p593 A594).mono ?_
        rintro e w595 ⟨rfl, hI595, k595⟩
        have hF595 := hF590.trans k595
        have hl595 := hI595.cl
        cases t592 with
        | true =>
          replace H := H.tt
          obtain ⟨rfl, rfl⟩ := H.p2
          go_wp2_with fail
          go_meet
          case rel => exact ⟨(by first | rfl | simp), ⟨hI595⟩, ⟨hF595⟩⟩
        | false =>
          replace H := H.ff
          by_cases e596 : (atEnd B p593 0) = true
          · 
            replace H := H.pos e596
            go_wp2_with fail
            refine (Err_end hI595 e596).mono ?_
            rintro e w597 ⟨rfl, hI597, k597⟩
            have hF597 := hF595.trans k597
            have hl597 := hI597.cl
            obtain ⟨rfl, rfl⟩ := H.p2
            go_wp2_with fail
            go_meet
            case rel => exact ⟨(by first | rfl | simp), ⟨hI597⟩, ⟨hF597⟩⟩
          ·
            replace H := H.neg e596
            replace e596 := Bool.eq_false_iff.mpr e596
            go_wp2_with fail
            refine (Err_not hI595 e596).mono ?_
            rintro e w598 ⟨rfl, hI598, k598⟩
            have hF598 := hF595.trans k598
            have hl598 := hI598.cl
            obtain ⟨rfl, rfl⟩ := H.p2
            go_wp2_with fail
            go_meet
            case rel => exact ⟨(by first | rfl | simp), ⟨hI598⟩, ⟨hF598⟩⟩
      case rest =>
        obtain ⟨rfl, gI, gF⟩ := hcut
        have hI601 := gI.out; have hF601 := gF.out; clear gI gF
        have hl601 := hI601.cl
        have H := HC591; clear HC591 H1
        cases b599 with
        | true =>
          replace H := H.tt
          go_wp2_with fail
          first | go_end0 | go_ret
          obtain rfl := H.p1
          exact ⟨(by first | rfl | simp), hI601, hF601⟩
        | false =>
          replace H := H.ff
          obtain ⟨⟨t602, p603⟩, A604, HN⟩ := H.bind; clear H; have H := HN; clear HN
          try dsimp only at H
          go_wp2_with fail
          refine (consumeEscape.calls K hI601  t602 p603 A604).mono ?_
          rintro e w605 ⟨rfl, hI605, k605⟩
          have hF605 := hF601.trans k605
          have hl605 := hI605.cl
          cases t602 with
          | true =>
            replace H := H.tt
            go_wp2_with fail
            go_roundg k
            case measure => exact Nat.lt_succ_self _
            case rel => exact ⟨p603, H, ⟨hI605⟩, ⟨hF605⟩⟩
          | false =>
            replace H := H.ff
            go_wp2_with fail
            refine (Move_calls hI605 1).mono ?_
            rintro e w606 ⟨rfl, hI606, k606⟩
            have hF606 := hF605.trans k606
            have hl606 := hI606.cl
            go_wp2_with fail
            go_roundg k
            case measure => exact Nat.lt_succ_self _
            case rel => exact ⟨mv p603 1, H, ⟨hI606⟩, ⟨hF606⟩⟩
end Go.Proofs.YteonakpgenkhkaaDoor
