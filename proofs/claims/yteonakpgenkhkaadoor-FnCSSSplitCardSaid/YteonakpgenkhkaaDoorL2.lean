import Derived.Test.YteonakpgenkhkaaDoorL1
namespace Go.Proofs.YteonakpgenkhkaaDoor
open Go.RowKit
set_option linter.unusedVariables false
set_option linter.unusedSimpArgs false

/-! (*loop.example/pub-g01476/pub/tdcss.Lexer).consumeByte -/
def consumeByte.f (B : List Int) (p : Int) (s : Int) (a1 : Int) : Option (Bool × Int) :=
(pk B p 0).bind fun c1 =>
if (c1 == a1) = true then (some (true, mv p 1)) else
some (false, p)
set_option maxHeartbeats 8000000 in
set_option maxRecDepth 100000 in
theorem consumeByte.calls {w0 : World} {l z b : Nat} {B : List Int} {ET : TypeId} {EA : Addr} {p s : Int} (hI0 : Lx w0 l z b B ET EA p s) (a1 : Int) (r0 : Bool) (r1 : Int) (H : Hd (consumeByte.f B p s a1 = some (r0, r1))) :
    Calls Tryd.prog 84 #[.pointer (some ⟨l, 0, none⟩), .int .u8 a1] w0 fun e w' => e = .returned (.bool r0) ∧ Lx w' l z b B ET EA r1 s ∧ Fr z w0 w' := by
  have hF0 := Fr.refl z w0
  have hl0 := hI0.cl
  unfold consumeByte.f at H
  go_enter Tryd.func84, Tryd.ntmps84
  obtain ⟨c1, A2, HN⟩ := H.bind; clear H; have H := HN; clear HN
  go_wp2_with fail
  refine (Peek_calls hI0 0 c1 A2).mono ?_
  rintro e w' ⟨rfl, rfl⟩
  by_cases e3 : (c1 == a1) = true
  · 
    replace H := H.pos e3
    have e3n : (c1 != a1) = false := by simp only [bne, e3, Bool.not_true]
    go_wp2_with fail
    refine (Move_calls hI0 1).mono ?_
    rintro e w4 ⟨rfl, hI4, k4⟩
    have hF4 := hF0.trans k4
    have hl4 := hI4.cl
    go_wp2_with fail
    go_ret
    obtain ⟨rfl, rfl⟩ := H.p2
    exact ⟨(by first | rfl | simp), hI4, hF4⟩
  ·
    replace H := H.neg e3
    replace e3 := Bool.eq_false_iff.mpr e3
    have e3n : (c1 != a1) = true := by simp only [bne, e3, Bool.not_false]
    go_wp2_with fail
    go_ret
    obtain ⟨rfl, rfl⟩ := H.p2
    exact ⟨(by first | rfl | simp), hI0, hF0⟩

/-! (*loop.example/pub-g01476/pub/tdcss.Lexer).consumeWhitespace -/
def consumeWhitespace.f (B : List Int) (p : Int) (s : Int) : Option (Bool × Int) :=
(pk B p 0).bind fun c5 =>
if (((((c5 == 32) || (c5 == 9)) || (c5 == 10)) || (c5 == 13)) || (c5 == 12)) = true then (some (true, mv p 1)) else
some (false, p)
set_option maxHeartbeats 8000000 in
set_option maxRecDepth 100000 in
theorem consumeWhitespace.calls {w0 : World} {l z b : Nat} {B : List Int} {ET : TypeId} {EA : Addr} {p s : Int} (hI0 : Lx w0 l z b B ET EA p s) (r0 : Bool) (r1 : Int) (H : Hd (consumeWhitespace.f B p s = some (r0, r1))) :
    Calls Tryd.prog 56 #[.pointer (some ⟨l, 0, none⟩)] w0 fun e w' => e = .returned (.bool r0) ∧ Lx w' l z b B ET EA r1 s ∧ Fr z w0 w' := by
  have hF0 := Fr.refl z w0
  have hl0 := hI0.cl
  unfold consumeWhitespace.f at H
  go_enter Tryd.func56, Tryd.ntmps56
  obtain ⟨c5, A6, HN⟩ := H.bind; clear H; have H := HN; clear HN
  go_wp2_with fail
  refine (Peek_calls hI0 0 c5 A6).mono ?_
  rintro e w' ⟨rfl, rfl⟩
  generalize hb7 : (((((c5 == 32) || (c5 == 9)) || (c5 == 10)) || (c5 == 13)) || (c5 == 12)) = b12 at H
  have HB7 := Hd.mk hb7; clear hb7
  go_upto_region 2 with fail
  go_cut [26] (fun v26 w' => v26 = .bool b12 ∧ w0 = w')
  case first =>
    clear H
    by_cases e8 : (c5 == 32) = true
    · 
      have e8n : (c5 != 32) = false := by simp only [bne, e8, Bool.not_true]
      go_wp2_with fail
      go_meet
      case rel => exact ⟨by rw [← HB7.out, e8]; first | rfl | simp, rfl⟩
    ·
      replace e8 := Bool.eq_false_iff.mpr e8
      have e8n : (c5 != 32) = true := by simp only [bne, e8, Bool.not_false]
      by_cases e9 : (c5 == 9) = true
      · 
        have e9n : (c5 != 9) = false := by simp only [bne, e9, Bool.not_true]
        go_wp2_with fail
        go_meet
        case rel => exact ⟨by rw [← HB7.out, e8, e9]; first | rfl | simp, rfl⟩
      ·
        replace e9 := Bool.eq_false_iff.mpr e9
        have e9n : (c5 != 9) = true := by simp only [bne, e9, Bool.not_false]
        by_cases e10 : (c5 == 10) = true
        · 
          have e10n : (c5 != 10) = false := by simp only [bne, e10, Bool.not_true]
          go_wp2_with fail
          go_meet
          case rel => exact ⟨by rw [← HB7.out, e8, e9, e10]; first | rfl | simp, rfl⟩
        ·
          replace e10 := Bool.eq_false_iff.mpr e10
          have e10n : (c5 != 10) = true := by simp only [bne, e10, Bool.not_false]
          by_cases e11 : (c5 == 13) = true
          · 
            have e11n : (c5 != 13) = false := by simp only [bne, e11, Bool.not_true]
            go_wp2_with fail
            go_meet
            case rel => exact ⟨by rw [← HB7.out, e8, e9, e10, e11]; first | rfl | simp, rfl⟩
          ·
            replace e11 := Bool.eq_false_iff.mpr e11
            have e11n : (c5 != 13) = true := by simp only [bne, e11, Bool.not_false]
            go_wp2_with fail
            go_meet
            case rel => exact ⟨by rw [← HB7.out, e8, e9, e10, e11]; first | rfl | simp, rfl⟩
  case rest =>
    obtain ⟨rfl, rfl⟩ := hcut
    cases b12 with
    | true =>
      replace H := H.tt
      go_wp2_with fail
      refine (Move_calls hI0 1).mono ?_
      rintro e w13 ⟨rfl, hI13, k13⟩
      have hF13 := hF0.trans k13
      have hl13 := hI13.cl
      go_wp2_with fail
      go_ret
      obtain ⟨rfl, rfl⟩ := H.p2
      exact ⟨(by first | rfl | simp), hI13, hF13⟩
    | false =>
      replace H := H.ff
      go_wp2_with fail
      go_ret
      obtain ⟨rfl, rfl⟩ := H.p2
      exact ⟨(by first | rfl | simp), hI0, hF0⟩

/-! (*loop.example/pub-g01476/pub/tdcss.Lexer).consumeDigit -/
def consumeDigit.f (B : List Int) (p : Int) (s : Int) : Option (Bool × Int) :=
(pk B p 0).bind fun c14 =>
if ((decide (48 ≤ c14)) && (decide (c14 ≤ 57))) = true then (some (true, mv p 1)) else
some (false, p)
set_option maxHeartbeats 8000000 in
set_option maxRecDepth 100000 in
theorem consumeDigit.calls {w0 : World} {l z b : Nat} {B : List Int} {ET : TypeId} {EA : Addr} {p s : Int} (hI0 : Lx w0 l z b B ET EA p s) (r0 : Bool) (r1 : Int) (H : Hd (consumeDigit.f B p s = some (r0, r1))) :
    Calls Tryd.prog 94 #[.pointer (some ⟨l, 0, none⟩)] w0 fun e w' => e = .returned (.bool r0) ∧ Lx w' l z b B ET EA r1 s ∧ Fr z w0 w' := by
  have hF0 := Fr.refl z w0
  have hl0 := hI0.cl
  unfold consumeDigit.f at H
  go_enter Tryd.func94, Tryd.ntmps94
  obtain ⟨c14, A15, HN⟩ := H.bind; clear H; have H := HN; clear HN
  go_wp2_with fail
  refine (Peek_calls hI0 0 c14 A15).mono ?_
  rintro e w' ⟨rfl, rfl⟩
  generalize hb16 : ((decide (48 ≤ c14)) && (decide (c14 ≤ 57))) = b18 at H
  have HB16 := Hd.mk hb16; clear hb16
  go_upto_region 2 with fail
  go_cut [14] (fun v14 w' => v14 = .bool b18 ∧ w0 = w')
  case first =>
    clear H
    by_cases e17 : (decide (48 ≤ c14)) = true
    · 
      go_wp2_with fail
      go_meet
      case rel => exact ⟨by rw [← HB16.out, e17]; first | rfl | simp, rfl⟩
    ·
      replace e17 := Bool.eq_false_iff.mpr e17
      go_wp2_with fail
      go_meet
      case rel => exact ⟨by rw [← HB16.out, e17]; first | rfl | simp, rfl⟩
  case rest =>
    obtain ⟨rfl, rfl⟩ := hcut
    cases b18 with
    | true =>
      replace H := H.tt
      go_wp2_with fail
      refine (Move_calls hI0 1).mono ?_
      rintro e w19 ⟨rfl, hI19, k19⟩
      have hF19 := hF0.trans k19
      have hl19 := hI19.cl
      go_wp2_with fail
      go_ret
      obtain ⟨rfl, rfl⟩ := H.p2
      exact ⟨(by first | rfl | simp), hI19, hF19⟩
    | false =>
      replace H := H.ff
      go_wp2_with fail
      go_ret
      obtain ⟨rfl, rfl⟩ := H.p2
      exact ⟨(by first | rfl | simp), hI0, hF0⟩

/-! (*loop.example/pub-g01476/pub/tdcss.Lexer).consumeHexDigit -/
def consumeHexDigit.f (B : List Int) (p : Int) (s : Int) : Option (Bool × Int) :=
(pk B p 0).bind fun c20 =>
if ((((decide (48 ≤ c20)) && (decide (c20 ≤ 57))) || ((decide (97 ≤ c20)) && (decide (c20 ≤ 102)))) || ((decide (65 ≤ c20)) && (decide (c20 ≤ 70)))) = true then (some (true, mv p 1)) else
some (false, p)
set_option maxHeartbeats 8000000 in
set_option maxRecDepth 100000 in
theorem consumeHexDigit.calls {w0 : World} {l z b : Nat} {B : List Int} {ET : TypeId} {EA : Addr} {p s : Int} (hI0 : Lx w0 l z b B ET EA p s) (r0 : Bool) (r1 : Int) (H : Hd (consumeHexDigit.f B p s = some (r0, r1))) :
    Calls Tryd.prog 89 #[.pointer (some ⟨l, 0, none⟩)] w0 fun e w' => e = .returned (.bool r0) ∧ Lx w' l z b B ET EA r1 s ∧ Fr z w0 w' := by
  have hF0 := Fr.refl z w0
  have hl0 := hI0.cl
  unfold consumeHexDigit.f at H
  go_enter Tryd.func89, Tryd.ntmps89
  obtain ⟨c20, A21, HN⟩ := H.bind; clear H; have H := HN; clear HN
  go_wp2_with fail
  refine (Peek_calls hI0 0 c20 A21).mono ?_
  rintro e w' ⟨rfl, rfl⟩
  generalize hb22 : ((((decide (48 ≤ c20)) && (decide (c20 ≤ 57))) || ((decide (97 ≤ c20)) && (decide (c20 ≤ 102)))) || ((decide (65 ≤ c20)) && (decide (c20 ≤ 70)))) = b31 at H
  have HB22 := Hd.mk hb22; clear hb22
  go_upto_region 2 with fail
  go_cut [30] (fun v30 w' => v30 = .bool b31 ∧ w0 = w')
  case first =>
    clear H
    by_cases e23 : (decide (48 ≤ c20)) = true
    · 
      by_cases e24 : (decide (c20 ≤ 57)) = true
      · 
        go_wp2_with fail
        go_meet
        case rel => exact ⟨by rw [← HB22.out, e23, e24]; first | rfl | simp, rfl⟩
      ·
        replace e24 := Bool.eq_false_iff.mpr e24
        by_cases e25 : (decide (97 ≤ c20)) = true
        · 
          by_cases e26 : (decide (c20 ≤ 102)) = true
          · 
            go_wp2_with fail
            go_meet
            case rel => exact ⟨by rw [← HB22.out, e23, e24, e25, e26]; first | rfl | simp, rfl⟩
          ·
            replace e26 := Bool.eq_false_iff.mpr e26
            have e27 : (decide (65 ≤ c20)) = true := decide_eq_true (by have := of_decide_eq_false e26; omega)
            go_wp2_with fail
            go_meet
            case rel => exact ⟨by rw [← HB22.out, e23, e24, e25, e26, e27]; first | rfl | simp, rfl⟩
        ·
          replace e25 := Bool.eq_false_iff.mpr e25
          by_cases e28 : (decide (65 ≤ c20)) = true
          · 
            go_wp2_with fail
            go_meet
            case rel => exact ⟨by rw [← HB22.out, e23, e24, e25, e28]; first | rfl | simp, rfl⟩
          ·
            replace e28 := Bool.eq_false_iff.mpr e28
            go_wp2_with fail
            go_meet
            case rel => exact ⟨by rw [← HB22.out, e23, e24, e25, e28]; first | rfl | simp, rfl⟩
    ·
      replace e23 := Bool.eq_false_iff.mpr e23
      have e29 : (decide (97 ≤ c20)) = false := decide_eq_false (by have := of_decide_eq_false e23; omega)
      have e30 : (decide (65 ≤ c20)) = false := decide_eq_false (by have := of_decide_eq_false e23; omega)
      go_wp2_with fail
      go_meet
      case rel => exact ⟨by rw [← HB22.out, e23, e29, e30]; first | rfl | simp, rfl⟩
  case rest =>
    obtain ⟨rfl, rfl⟩ := hcut
    cases b31 with
    | true =>
      replace H := H.tt
      go_wp2_with fail
      refine (Move_calls hI0 1).mono ?_
      rintro e w32 ⟨rfl, hI32, k32⟩
      have hF32 := hF0.trans k32
      have hl32 := hI32.cl
      go_wp2_with fail
      go_ret
      obtain ⟨rfl, rfl⟩ := H.p2
      exact ⟨(by first | rfl | simp), hI32, hF32⟩
    | false =>
      replace H := H.ff
      go_wp2_with fail
      go_ret
      obtain ⟨rfl, rfl⟩ := H.p2
      exact ⟨(by first | rfl | simp), hI0, hF0⟩

/-! (*loop.example/pub-g01476/pub/tdcss.Lexer).consumeNewline -/
def consumeNewline.f (B : List Int) (p : Int) (s : Int) : Option (Bool × Int) :=
(pk B p 0).bind fun c33 =>
if ((c33 == 10) || (c33 == 12)) = true then (some (true, mv p 1)) else
if (c33 == 13) = true then ((pk B p 1).bind fun c40 =>
if (c40 == 10) = true then (some (true, mv p 2)) else
some (true, mv p 1)) else
some (false, p)
set_option maxHeartbeats 8000000 in
set_option maxRecDepth 100000 in
theorem consumeNewline.calls {w0 : World} {l z b : Nat} {B : List Int} {ET : TypeId} {EA : Addr} {p s : Int} (hI0 : Lx w0 l z b B ET EA p s) (r0 : Bool) (r1 : Int) (H : Hd (consumeNewline.f B p s = some (r0, r1))) :
    Calls Tryd.prog 82 #[.pointer (some ⟨l, 0, none⟩)] w0 fun e w' => e = .returned (.bool r0) ∧ Lx w' l z b B ET EA r1 s ∧ Fr z w0 w' := by
  have hF0 := Fr.refl z w0
  have hl0 := hI0.cl
  unfold consumeNewline.f at H
  go_enter Tryd.func82, Tryd.ntmps82
  obtain ⟨c33, A34, HN⟩ := H.bind; clear H; have H := HN; clear HN
  go_wp2_with fail
  refine (Peek_calls hI0 0 c33 A34).mono ?_
  rintro e w' ⟨rfl, rfl⟩
  generalize hb35 : ((c33 == 10) || (c33 == 12)) = b37 at H
  have HB35 := Hd.mk hb35; clear hb35
  go_upto_region 2 with fail
  go_cut [14] (fun v14 w' => v14 = .bool b37 ∧ w0 = w')
  case first =>
    clear H
    by_cases e36 : (c33 == 10) = true
    · 
      have e36n : (c33 != 10) = false := by simp only [bne, e36, Bool.not_true]
      go_wp2_with fail
      go_meet
      case rel => exact ⟨by rw [← HB35.out, e36]; first | rfl | simp, rfl⟩
    ·
      replace e36 := Bool.eq_false_iff.mpr e36
      have e36n : (c33 != 10) = true := by simp only [bne, e36, Bool.not_false]
      go_wp2_with fail
      go_meet
      case rel => exact ⟨by rw [← HB35.out, e36]; first | rfl | simp, rfl⟩
  case rest =>
    obtain ⟨rfl, rfl⟩ := hcut
    cases b37 with
    | true =>
      replace H := H.tt
      go_wp2_with fail
      refine (Move_calls hI0 1).mono ?_
      rintro e w38 ⟨rfl, hI38, k38⟩
      have hF38 := hF0.trans k38
      have hl38 := hI38.cl
      go_wp2_with fail
      go_ret
      obtain ⟨rfl, rfl⟩ := H.p2
      exact ⟨(by first | rfl | simp), hI38, hF38⟩
    | false =>
      replace H := H.ff
      by_cases e39 : (c33 == 13) = true
      · 
        replace H := H.pos e39
        have e39n : (c33 != 13) = false := by simp only [bne, e39, Bool.not_true]
        obtain ⟨c40, A41, HN⟩ := H.bind; clear H; have H := HN; clear HN
        go_wp2_with fail
        refine (Peek_calls hI0 1 c40 A41).mono ?_
        rintro e w' ⟨rfl, rfl⟩
        by_cases e42 : (c40 == 10) = true
        · 
          replace H := H.pos e42
          have e42n : (c40 != 10) = false := by simp only [bne, e42, Bool.not_true]
          go_wp2_with fail
          refine (Move_calls hI0 2).mono ?_
          rintro e w43 ⟨rfl, hI43, k43⟩
          have hF43 := hF0.trans k43
          have hl43 := hI43.cl
          go_wp2_with fail
          go_ret
          obtain ⟨rfl, rfl⟩ := H.p2
          exact ⟨(by first | rfl | simp), hI43, hF43⟩
        ·
          replace H := H.neg e42
          replace e42 := Bool.eq_false_iff.mpr e42
          have e42n : (c40 != 10) = true := by simp only [bne, e42, Bool.not_false]
          go_wp2_with fail
          refine (Move_calls hI0 1).mono ?_
          rintro e w44 ⟨rfl, hI44, k44⟩
          have hF44 := hF0.trans k44
          have hl44 := hI44.cl
          go_wp2_with fail
          go_ret
          obtain ⟨rfl, rfl⟩ := H.p2
          exact ⟨(by first | rfl | simp), hI44, hF44⟩
      ·
        replace H := H.neg e39
        replace e39 := Bool.eq_false_iff.mpr e39
        have e39n : (c33 != 13) = true := by simp only [bne, e39, Bool.not_false]
        go_wp2_with fail
        go_ret
        obtain ⟨rfl, rfl⟩ := H.p2
        exact ⟨(by first | rfl | simp), hI0, hF0⟩

/-! (*loop.example/pub-g01476/pub/tdcss.Lexer).consumeEscape -/
def consumeEscape.l0 (K : Nat) (B : List Int) (s : Int) : Nat → Int → Int → Option (Int)
  | 0, _, _ => none
  | k + 1, x60, p61 =>
    if (decide (x60 < 6)) = true then ((consumeHexDigit.f B p61 s).bind fun (t64, p65) =>
    if t64 = true then (consumeEscape.l0 K B s k (wrap64 (x60 + 1)) p65) else
    some p65) else
    some p61
def consumeEscape.f (K : Nat) (B : List Int) (p : Int) (s : Int) : Option (Bool × Int) :=
(pk B p 0).bind fun c45 =>
if (c45 == 92) = true then ((consumeNewline.f B (mv p 1) s).bind fun (t50, p51) =>
if t50 = true then (some (false, rwd s (ps p s))) else
(consumeHexDigit.f B p51 s).bind fun (t55, p56) =>
if t55 = true then ((consumeEscape.l0 K B s K 1 p56).bind fun p68 =>
(consumeWhitespace.f B p68 s).bind fun (t70, p71) =>
some (true, p71)) else
(pk B p56 0).bind fun c74 =>
if (decide (192 ≤ c74)) = true then ((prn B p56).bind fun x77 =>
some (true, mv p56 x77)) else
if ((c74 == 0) && (atEnd B p56 0)) = true then (some (false, rwd s (ps p s))) else
some (true, mv p56 1)) else
some (false, p)
set_option maxHeartbeats 8000000 in
set_option maxRecDepth 100000 in
theorem consumeEscape.calls (K : Nat) {w0 : World} {l z b : Nat} {B : List Int} {ET : TypeId} {EA : Addr} {p s : Int} (hI0 : Lx w0 l z b B ET EA p s) (r0 : Bool) (r1 : Int) (H : Hd (consumeEscape.f K B p s = some (r0, r1))) :
    Calls Tryd.prog 74 #[.pointer (some ⟨l, 0, none⟩)] w0 fun e w' => e = .returned (.bool r0) ∧ Lx w' l z b B ET EA r1 s ∧ Fr z w0 w' := by
  have hF0 := Fr.refl z w0
  have hl0 := hI0.cl
  unfold consumeEscape.f at H
  go_enter Tryd.func74, Tryd.ntmps74
  obtain ⟨c45, A46, HN⟩ := H.bind; clear H; have H := HN; clear HN
  go_wp2_with fail
  refine (Peek_calls hI0 0 c45 A46).mono ?_
  rintro e w' ⟨rfl, rfl⟩
  by_cases e47 : (c45 == 92) = true
  · 
    replace H := H.pos e47
    have e47n : (c45 != 92) = false := by simp only [bne, e47, Bool.not_true]
    go_wp2_with fail
    refine (Pos_calls hI0).mono ?_
    rintro e w48 ⟨rfl, hI48, k48⟩
    have hF48 := hF0.trans k48
    have hl48 := hI48.cl
    go_wp2_with fail
    refine (Move_calls hI48 1).mono ?_
    rintro e w49 ⟨rfl, hI49, k49⟩
    have hF49 := hF48.trans k49
    have hl49 := hI49.cl
    obtain ⟨⟨t50, p51⟩, A52, HN⟩ := H.bind; clear H; have H := HN; clear HN
    try dsimp only at H
    go_wp2_with fail
    refine (consumeNewline.calls hI49  t50 p51 A52).mono ?_
    rintro e w53 ⟨rfl, hI53, k53⟩
    have hF53 := hF49.trans k53
    have hl53 := hI53.cl
    cases t50 with
    | true =>
      replace H := H.tt
      go_wp2_with fail
      refine (Rewind_calls hI53 (ps p s)).mono ?_
      rintro e w54 ⟨rfl, hI54, k54⟩
      have hF54 := hF53.trans k54
      have hl54 := hI54.cl
      go_wp2_with fail
      go_ret
      obtain ⟨rfl, rfl⟩ := H.p2
      exact ⟨(by first | rfl | simp), hI54, hF54⟩
    | false =>
      replace H := H.ff
      obtain ⟨⟨t55, p56⟩, A57, HN⟩ := H.bind; clear H; have H := HN; clear HN
      try dsimp only at H
      go_wp2_with fail
      refine (consumeHexDigit.calls hI53  t55 p56 A57).mono ?_
      rintro e w58 ⟨rfl, hI58, k58⟩
      have hF58 := hF53.trans k58
      have hl58 := hI58.cl
      cases t55 with
      | true =>
        replace H := H.tt
        obtain ⟨p68, H1, HC59⟩ := H.bind; clear H
        go_upto_block 0 with fail
        go_cut [] (fun w' => Hd (Lx w' l z b B ET EA p68 s) ∧ Hd (Fr z w0 w'))
        case first =>
          go_wp2_with fail
          go_loopg [4] K (fun gk v4 w' => ∃ (x60 : Int), ∃ (p61 : Int), v4 = .int .i64 x60 ∧ Hd (consumeEscape.l0 K B s gk x60 p61 = some p68) ∧ Hd (Lx w' l z b B ET EA p61 s) ∧ Hd (Fr z w0 w'))
          case atStart => exact ⟨1, p56, (by first | rfl | simp), H1, ⟨hI58⟩, ⟨hF58⟩⟩
          case round =>
            clear H1
            obtain ⟨x60, p61, rfl, H, gI, gF⟩ := hrel
            have hI62 := gI.out; have hF62 := gF.out; clear gI gF
            have hl62 := hI62.cl
            cases gk with
            | zero => exact absurd H.out (by simp [consumeEscape.l0])
            | succ k =>
              simp only [consumeEscape.l0] at H
              by_cases e63 : (decide (x60 < 6)) = true
              · 
                replace H := H.pos e63
                obtain ⟨⟨t64, p65⟩, A66, HN⟩ := H.bind; clear H; have H := HN; clear HN
                try dsimp only at H
                go_wp2_with fail
                refine (consumeHexDigit.calls hI62  t64 p65 A66).mono ?_
                rintro e w67 ⟨rfl, hI67, k67⟩
                have hF67 := hF62.trans k67
                have hl67 := hI67.cl
                cases t64 with
                | true =>
                  replace H := H.tt
                  go_wp2_with fail
                  go_roundg k
                  case measure => exact Nat.lt_succ_self _
                  case rel => exact ⟨wrap64 (x60 + 1), p65, (by first | rfl | simp), H, ⟨hI67⟩, ⟨hF67⟩⟩
                | false =>
                  replace H := H.ff
                  obtain rfl := H.p1
                  go_wp2_with fail
                  go_meet
                  case rel => exact ⟨⟨hI67⟩, ⟨hF67⟩⟩
              ·
                replace H := H.neg e63
                replace e63 := Bool.eq_false_iff.mpr e63
                obtain rfl := H.p1
                go_wp2_with fail
                go_meet
                case rel => exact ⟨⟨hI62⟩, ⟨hF62⟩⟩
        case rest =>
          obtain ⟨gI, gF⟩ := hcut
          have hI69 := gI.out; have hF69 := gF.out; clear gI gF
          have hl69 := hI69.cl
          have H := HC59; clear HC59 H1
          obtain ⟨⟨t70, p71⟩, A72, HN⟩ := H.bind; clear H; have H := HN; clear HN
          try dsimp only at H
          go_wp2_with fail
          refine (consumeWhitespace.calls hI69  t70 p71 A72).mono ?_
          rintro e w73 ⟨rfl, hI73, k73⟩
          have hF73 := hF69.trans k73
          have hl73 := hI73.cl
          go_wp2_with fail
          go_ret
          obtain ⟨rfl, rfl⟩ := H.p2
          exact ⟨(by first | rfl | simp), hI73, hF73⟩
      | false =>
        replace H := H.ff
        obtain ⟨c74, A75, HN⟩ := H.bind; clear H; have H := HN; clear HN
        go_wp2_with fail
        refine (Peek_calls hI58 0 c74 A75).mono ?_
        rintro e w' ⟨rfl, rfl⟩
        by_cases e76 : (decide (192 ≤ c74)) = true
        · 
          replace H := H.pos e76
          obtain ⟨x77, A78, HN⟩ := H.bind; clear H; have H := HN; clear HN
          go_wp2_with fail
          refine (PeekRune_calls hI58 x77 A78).mono ?_
          rintro e w79 ⟨⟨y80, rfl⟩, hI79, k79⟩
          have hF79 := hF58.trans k79
          have hl79 := hI79.cl
          go_wp2_with fail
          refine (Move_calls hI79 x77).mono ?_
          rintro e w81 ⟨rfl, hI81, k81⟩
          have hF81 := hF79.trans k81
          have hl81 := hI81.cl
          go_wp2_with fail
          go_ret
          obtain ⟨rfl, rfl⟩ := H.p2
          exact ⟨(by first | rfl | simp), hI81, hF81⟩
        ·
          replace H := H.neg e76
          replace e76 := Bool.eq_false_iff.mpr e76
          generalize hb82 : ((c74 == 0) && (atEnd B p56 0)) = b87 at H
          have HB82 := Hd.mk hb82; clear hb82
          go_upto_region 20 with fail
          go_cut [73] (fun v73 w' => v73 = .bool b87 ∧ Hd (Lx w' l z b B ET EA p56 s) ∧ Hd (Fr z w0 w'))
          case first =>
            clear H
            by_cases e83 : (c74 == 0) = true
            · 
              have e83n : (c74 != 0) = false := by simp only [bne, e83, Bool.not_true]
              by_cases e84 : (atEnd B p56 0) = true
              · 
                go_wp2_with fail
                refine (Err_end hI58 e84).mono ?_
                rintro e w85 ⟨rfl, hI85, k85⟩
                have hF85 := hF58.trans k85
                have hl85 := hI85.cl
                go_wp2_with fail
                go_meet
                case rel => exact ⟨by rw [← HB82.out, e83, e84]; first | rfl | simp, ⟨hI85⟩, ⟨hF85⟩⟩
              ·
                replace e84 := Bool.eq_false_iff.mpr e84
                go_wp2_with fail
                refine (Err_not hI58 e84).mono ?_
                rintro e w86 ⟨rfl, hI86, k86⟩
                have hF86 := hF58.trans k86
                have hl86 := hI86.cl
                go_wp2_with fail
                go_meet
                case rel => exact ⟨by rw [← HB82.out, e83, e84]; first | rfl | simp, ⟨hI86⟩, ⟨hF86⟩⟩
            ·
              replace e83 := Bool.eq_false_iff.mpr e83
              have e83n : (c74 != 0) = true := by simp only [bne, e83, Bool.not_false]
              go_wp2_with fail
              go_meet
              case rel => exact ⟨by rw [← HB82.out, e83]; first | rfl | simp, ⟨hI58⟩, ⟨hF58⟩⟩
          case rest =>
            obtain ⟨rfl, gI, gF⟩ := hcut
            have hI88 := gI.out; have hF88 := gF.out; clear gI gF
            have hl88 := hI88.cl
            cases b87 with
            | true =>
              replace H := H.tt
              go_wp2_with fail
              refine (Rewind_calls hI88 (ps p s)).mono ?_
              rintro e w89 ⟨rfl, hI89, k89⟩
              have hF89 := hF88.trans k89
              have hl89 := hI89.cl
              go_wp2_with fail
              go_ret
              obtain ⟨rfl, rfl⟩ := H.p2
              exact ⟨(by first | rfl | simp), hI89, hF89⟩
            | false =>
              replace H := H.ff
              go_wp2_with fail
              refine (Move_calls hI88 1).mono ?_
              rintro e w90 ⟨rfl, hI90, k90⟩
              have hF90 := hF88.trans k90
              have hl90 := hI90.cl
              go_wp2_with fail
              go_ret
              obtain ⟨rfl, rfl⟩ := H.p2
              exact ⟨(by first | rfl | simp), hI90, hF90⟩
  ·
    replace H := H.neg e47
    replace e47 := Bool.eq_false_iff.mpr e47
    have e47n : (c45 != 92) = true := by simp only [bne, e47, Bool.not_false]
    go_wp2_with fail
    go_ret
    obtain ⟨rfl, rfl⟩ := H.p2
    exact ⟨(by first | rfl | simp), hI0, hF0⟩

/-! (*loop.example/pub-g01476/pub/tdcss.Lexer).consumeIdentToken -/
def consumeIdentToken.l0 (K : Nat) (B : List Int) (s : Int) : Nat → Int → Option (Int)
  | 0, _ => none
  | k + 1, p132 =>
    (pk B p132 0).bind fun c134 =>
    if (!(((((((decide (97 ≤ c134)) && (decide (c134 ≤ 122))) || ((decide (65 ≤ c134)) && (decide (c134 ≤ 90)))) || ((decide (48 ≤ c134)) && (decide (c134 ≤ 57)))) || (c134 == 95)) || (c134 == 45)) || (decide (128 ≤ c134)))) = true then ((if (c134 == 92) = true then ((consumeEscape.f K B p132 s).bind fun (t160, p161) =>
    some (!t160, p161)) else
    some (true, p132)).bind fun (b164, p165) =>
    if b164 = true then (some p165) else
    consumeIdentToken.l0 K B s k p165) else
    consumeIdentToken.l0 K B s k (mv p132 1)
def consumeIdentToken.f (K : Nat) (B : List Int) (p : Int) (s : Int) : Option (Bool × Int) :=
(pk B p 0).bind fun c92 =>
(if (c92 == 45) = true then ((pk B (mv p 1) 0).bind fun c97 =>
if (c97 == 45) = true then (some (true, mv (mv p 1) 1)) else
some (false, mv p 1)) else
some (false, p)).bind fun (b101, p102) =>
(if b101 = true then (some (.inr p102)) else
(pk B p102 0).bind fun c105 =>
if (!(((((decide (97 ≤ c105)) && (decide (c105 ≤ 122))) || ((decide (65 ≤ c105)) && (decide (c105 ≤ 90)))) || (c105 == 95)) || (decide (128 ≤ c105)))) = true then ((if (c105 == 92) = true then ((consumeEscape.f K B p102 s).bind fun (t120, p121) =>
some (!t120, p121)) else
some (true, p102)).bind fun (b124, p125) =>
if b124 = true then (outS (some (false, rwd s (ps p s)))) else
some (.inr p125)) else
some (.inr (mv p102 1))).bind fun o => joinS o some fun p129 =>
(consumeIdentToken.l0 K B s K p129).bind fun p168 =>
some (true, p168)
set_option maxHeartbeats 8000000 in
set_option maxRecDepth 100000 in
theorem consumeIdentToken.calls (K : Nat) {w0 : World} {l z b : Nat} {B : List Int} {ET : TypeId} {EA : Addr} {p s : Int} (hI0 : Lx w0 l z b B ET EA p s) (r0 : Bool) (r1 : Int) (H : Hd (consumeIdentToken.f K B p s = some (r0, r1))) :
    Calls Tryd.prog 43 #[.pointer (some ⟨l, 0, none⟩)] w0 fun e w' => e = .returned (.bool r0) ∧ Lx w' l z b B ET EA r1 s ∧ Fr z w0 w' := by
  have hF0 := Fr.refl z w0
  have hl0 := hI0.cl
  unfold consumeIdentToken.f at H
  go_enter Tryd.func43, Tryd.ntmps43
  go_wp2_with fail
  refine (Pos_calls hI0).mono ?_
  rintro e w91 ⟨rfl, hI91, k91⟩
  have hF91 := hF0.trans k91
  have hl91 := hI91.cl
  obtain ⟨c92, A93, HN⟩ := H.bind; clear H; have H := HN; clear HN
  go_wp2_with fail
  refine (Peek_calls hI91 0 c92 A93).mono ?_
  rintro e w' ⟨rfl, rfl⟩
  obtain ⟨⟨b101, p102⟩, H1, HC94⟩ := H.bind; clear H
  try dsimp only at HC94
  go_upto_if 17 with fail
  go_cut [4] (fun v4 w' => v4 = .bool b101 ∧ Hd (Lx w' l z b B ET EA p102 s) ∧ Hd (Fr z w0 w'))
  case first =>
    have H := H1; clear H1
    by_cases e95 : (c92 == 45) = true
    · 
      replace H := H.pos e95
      have e95n : (c92 != 45) = false := by simp only [bne, e95, Bool.not_true]
      go_wp2_with fail
      refine (Move_calls hI91 1).mono ?_
      rintro e w96 ⟨rfl, hI96, k96⟩
      have hF96 := hF91.trans k96
      have hl96 := hI96.cl
      obtain ⟨c97, A98, HN⟩ := H.bind; clear H; have H := HN; clear HN
      go_wp2_with fail
      refine (Peek_calls hI96 0 c97 A98).mono ?_
      rintro e w' ⟨rfl, rfl⟩
      by_cases e99 : (c97 == 45) = true
      · 
        replace H := H.pos e99
        have e99n : (c97 != 45) = false := by simp only [bne, e99, Bool.not_true]
        go_wp2_with fail
        refine (Move_calls hI96 1).mono ?_
        rintro e w100 ⟨rfl, hI100, k100⟩
        have hF100 := hF96.trans k100
        have hl100 := hI100.cl
        obtain ⟨rfl, rfl⟩ := H.p2
        go_wp2_with fail
        go_meet
        case rel => exact ⟨(by first | rfl | simp), ⟨hI100⟩, ⟨hF100⟩⟩
      ·
        replace H := H.neg e99
        replace e99 := Bool.eq_false_iff.mpr e99
        have e99n : (c97 != 45) = true := by simp only [bne, e99, Bool.not_false]
        obtain ⟨rfl, rfl⟩ := H.p2
        go_wp2_with fail
        go_meet
        case rel => exact ⟨(by first | rfl | simp), ⟨hI96⟩, ⟨hF96⟩⟩
    ·
      replace H := H.neg e95
      replace e95 := Bool.eq_false_iff.mpr e95
      have e95n : (c92 != 45) = true := by simp only [bne, e95, Bool.not_false]
      obtain ⟨rfl, rfl⟩ := H.p2
      go_wp2_with fail
      go_meet
      case rel => exact ⟨(by first | rfl | simp), ⟨hI91⟩, ⟨hF91⟩⟩
  case rest =>
    obtain ⟨rfl, gI, gF⟩ := hcut
    have hI103 := gI.out; have hF103 := gF.out; clear gI gF
    have hl103 := hI103.cl
    have H := HC94; clear HC94 H1
    obtain ⟨o104, H1, HC104⟩ := H.bind; clear H
    go_upto_if 35 with fail
    go_cut [] (fun w' => ∃ (p129 : Int), Hd (o104 = .inr p129) ∧ Hd (Lx w' l z b B ET EA p129 s) ∧ Hd (Fr z w0 w'))
    case first =>
      have H := H1; clear H1
      cases b101 with
      | true =>
        replace H := H.tt
        obtain rfl := H.p1
        go_wp2_with fail
        go_meet
        case rel => exact ⟨p102, ⟨rfl⟩, ⟨hI103⟩, ⟨hF103⟩⟩
      | false =>
        replace H := H.ff
        obtain ⟨c105, A106, HN⟩ := H.bind; clear H; have H := HN; clear HN
        go_wp2_with fail
        refine (Peek_calls hI103 0 c105 A106).mono ?_
        rintro e w' ⟨rfl, rfl⟩
        generalize hb107 : (!(((((decide (97 ≤ c105)) && (decide (c105 ≤ 122))) || ((decide (65 ≤ c105)) && (decide (c105 ≤ 90)))) || (c105 == 95)) || (decide (128 ≤ c105)))) = b117 at H
        have HB107 := Hd.mk hb107; clear hb107
        go_upto_region 10 with fail
        go_cut [63] (fun v63 w' => v63 = .bool b117 ∧ wc = w')
        case first =>
          clear H
          by_cases e108 : (decide (97 ≤ c105)) = true
          · 
            by_cases e109 : (decide (c105 ≤ 122)) = true
            · 
              go_wp2_with fail
              go_meet
              case rel => exact ⟨by rw [← HB107.out, e108, e109]; first | rfl | simp, rfl⟩
            ·
              replace e109 := Bool.eq_false_iff.mpr e109
              have e110 : (decide (65 ≤ c105)) = true := decide_eq_true (by have := of_decide_eq_false e109; omega)
              have e111 : (decide (c105 ≤ 90)) = false := decide_eq_false (by have := of_decide_eq_false e109; omega)
              have e112 : (c105 == 95) = false := beq_eq_false_iff_ne.mpr (by have := of_decide_eq_false e109; omega)
              have e112n : (c105 != 95) = true := by simp only [bne, e112, Bool.not_false]
              go_wp2_with fail
              go_meet
              case rel => exact ⟨by rw [← HB107.out, e108, e109, e110, e111, e112]; first | rfl | simp, rfl⟩
          ·
            replace e108 := Bool.eq_false_iff.mpr e108
            by_cases e113 : (decide (65 ≤ c105)) = true
            · 
              by_cases e114 : (decide (c105 ≤ 90)) = true
              · 
                go_wp2_with fail
                go_meet
                case rel => exact ⟨by rw [← HB107.out, e108, e113, e114]; first | rfl | simp, rfl⟩
              ·
                replace e114 := Bool.eq_false_iff.mpr e114
                by_cases e115 : (c105 == 95) = true
                · 
                  have e115n : (c105 != 95) = false := by simp only [bne, e115, Bool.not_true]
                  go_wp2_with fail
                  go_meet
                  case rel => exact ⟨by rw [← HB107.out, e108, e113, e114, e115]; first | rfl | simp, rfl⟩
                ·
                  replace e115 := Bool.eq_false_iff.mpr e115
                  have e115n : (c105 != 95) = true := by simp only [bne, e115, Bool.not_false]
                  go_wp2_with fail
                  go_meet
                  case rel => exact ⟨by rw [← HB107.out, e108, e113, e114, e115]; first | rfl | simp, rfl⟩
            ·
              replace e113 := Bool.eq_false_iff.mpr e113
              have e116 : (c105 == 95) = false := beq_eq_false_iff_ne.mpr (by have := of_decide_eq_false e113; omega)
              have e116n : (c105 != 95) = true := by simp only [bne, e116, Bool.not_false]
              go_wp2_with fail
              go_meet
              case rel => exact ⟨by rw [← HB107.out, e108, e113, e116]; first | rfl | simp, rfl⟩
        case rest =>
          obtain ⟨rfl, rfl⟩ := hcut
          cases b117 with
          | true =>
            replace H := H.tt
            obtain ⟨⟨b124, p125⟩, H1, HC118⟩ := H.bind; clear H
            try dsimp only at HC118
            go_upto_region 11 with fail
            go_cut [70] (fun v70 w' => v70 = .bool b124 ∧ Hd (Lx w' l z b B ET EA p125 s) ∧ Hd (Fr z w0 w'))
            case first =>
              have H := H1; clear H1
              by_cases e119 : (c105 == 92) = true
              · 
                replace H := H.pos e119
                have e119n : (c105 != 92) = false := by simp only [bne, e119, Bool.not_true]
                obtain ⟨⟨t120, p121⟩, A122, HN⟩ := H.bind; clear H; have H := HN; clear HN
                try dsimp only at H
                go_wp2_with fail
                refine (consumeEscape.calls K hI103  t120 p121 A122).mono ?_
                rintro e w123 ⟨rfl, hI123, k123⟩
                have hF123 := hF103.trans k123
                have hl123 := hI123.cl
                obtain ⟨rfl, rfl⟩ := H.p2
                go_wp2_with fail
                go_meet
                case rel => exact ⟨(by first | rfl | simp), ⟨hI123⟩, ⟨hF123⟩⟩
              ·
                replace H := H.neg e119
                replace e119 := Bool.eq_false_iff.mpr e119
                have e119n : (c105 != 92) = true := by simp only [bne, e119, Bool.not_false]
                obtain ⟨rfl, rfl⟩ := H.p2
                go_wp2_with fail
                go_meet
                case rel => exact ⟨(by first | rfl | simp), ⟨hI103⟩, ⟨hF103⟩⟩
            case rest =>
              obtain ⟨rfl, gI, gF⟩ := hcut
              have hI126 := gI.out; have hF126 := gF.out; clear gI gF
              have hl126 := hI126.cl
              have H := HC118; clear HC118 H1
              cases b124 with
              | true =>
                replace H := H.tt
                go_wp2_with fail
                refine (Rewind_calls hI126 (ps p s)).mono ?_
                rintro e w127 ⟨rfl, hI127, k127⟩
                have hF127 := hF126.trans k127
                have hl127 := hI127.cl
                obtain ⟨x170, hx, H2⟩ := H.outS; clear H; subst hx; have H := HC104.inl H2; clear HC104 H2
                go_wp2_with fail
                go_ret
                obtain ⟨rfl, rfl⟩ := H.p2
                exact ⟨(by first | rfl | simp), hI127, hF127⟩
              | false =>
                replace H := H.ff
                obtain rfl := H.p1
                go_wp2_with fail
                go_meet
                case rel => exact ⟨p125, ⟨rfl⟩, ⟨hI126⟩, ⟨hF126⟩⟩
          | false =>
            replace H := H.ff
            go_wp2_with fail
            refine (Move_calls hI103 1).mono ?_
            rintro e w128 ⟨rfl, hI128, k128⟩
            have hF128 := hF103.trans k128
            have hl128 := hI128.cl
            obtain rfl := H.p1
            go_wp2_with fail
            go_meet
            case rel => exact ⟨mv p102 1, ⟨rfl⟩, ⟨hI128⟩, ⟨hF128⟩⟩
    case rest =>
      obtain ⟨p129, ho, gI, gF⟩ := hcut
      have hI130 := gI.out; have hF130 := gF.out; clear gI gF
      have hl130 := hI130.cl
      have ho := ho.out; subst ho; have H := HC104.inrS; clear HC104 H1
      obtain ⟨p168, H1, HC131⟩ := H.bind; clear H
      go_upto_block 0 with fail
      go_cut [] (fun w' => Hd (Lx w' l z b B ET EA p168 s) ∧ Hd (Fr z w0 w'))
      case first =>
        go_wp2_with fail
        go_loopg [] K (fun gk w' => ∃ (p132 : Int), Hd (consumeIdentToken.l0 K B s gk p132 = some p168) ∧ Hd (Lx w' l z b B ET EA p132 s) ∧ Hd (Fr z w0 w'))
        case atStart => exact ⟨p129, H1, ⟨hI130⟩, ⟨hF130⟩⟩
        case round =>
          clear H1
          obtain ⟨p132, H, gI, gF⟩ := hrel
          have hI133 := gI.out; have hF133 := gF.out; clear gI gF
          have hl133 := hI133.cl
          cases gk with
          | zero => exact absurd H.out (by simp [consumeIdentToken.l0])
          | succ k =>
            simp only [consumeIdentToken.l0] at H
            obtain ⟨c134, A135, HN⟩ := H.bind; clear H; have H := HN; clear HN
            go_wp2_with fail
            refine (Peek_calls hI133 0 c134 A135).mono ?_
            rintro e w' ⟨rfl, rfl⟩
            generalize hb136 : (!(((((((decide (97 ≤ c134)) && (decide (c134 ≤ 122))) || ((decide (65 ≤ c134)) && (decide (c134 ≤ 90)))) || ((decide (48 ≤ c134)) && (decide (c134 ≤ 57)))) || (c134 == 95)) || (c134 == 45)) || (decide (128 ≤ c134)))) = b157 at H
            have HB136 := Hd.mk hb136; clear hb136
            go_upto_region 16 with fail
            go_cut [121] (fun v121 w' => v121 = .bool b157 ∧ wr = w')
            case first =>
              clear H
              by_cases e137 : (decide (97 ≤ c134)) = true
              · 
                by_cases e138 : (decide (c134 ≤ 122)) = true
                · 
                  go_wp2_with fail
                  go_meet
                  case rel => exact ⟨by rw [← HB136.out, e137, e138]; first | rfl | simp, rfl⟩
                ·
                  replace e138 := Bool.eq_false_iff.mpr e138
                  have e139 : (decide (65 ≤ c134)) = true := decide_eq_true (by have := of_decide_eq_false e138; omega)
                  have e140 : (decide (c134 ≤ 90)) = false := decide_eq_false (by have := of_decide_eq_false e138; omega)
                  have e141 : (decide (48 ≤ c134)) = true := decide_eq_true (by have := of_decide_eq_false e138; omega)
                  have e142 : (decide (c134 ≤ 57)) = false := decide_eq_false (by have := of_decide_eq_false e138; omega)
                  have e143 : (c134 == 95) = false := beq_eq_false_iff_ne.mpr (by have := of_decide_eq_false e138; omega)
                  have e143n : (c134 != 95) = true := by simp only [bne, e143, Bool.not_false]
                  have e144 : (c134 == 45) = false := beq_eq_false_iff_ne.mpr (by have := of_decide_eq_false e138; omega)
                  have e144n : (c134 != 45) = true := by simp only [bne, e144, Bool.not_false]
                  go_wp2_with fail
                  go_meet
                  case rel => exact ⟨by rw [← HB136.out, e137, e138, e139, e140, e141, e142, e143, e144]; first | rfl | simp, rfl⟩
              ·
                replace e137 := Bool.eq_false_iff.mpr e137
                by_cases e145 : (decide (65 ≤ c134)) = true
                · 
                  by_cases e146 : (decide (c134 ≤ 90)) = true
                  · 
                    go_wp2_with fail
                    go_meet
                    case rel => exact ⟨by rw [← HB136.out, e137, e145, e146]; first | rfl | simp, rfl⟩
                  ·
                    replace e146 := Bool.eq_false_iff.mpr e146
                    have e147 : (decide (48 ≤ c134)) = true := decide_eq_true (by have := of_decide_eq_false e146; omega)
                    have e148 : (decide (c134 ≤ 57)) = false := decide_eq_false (by have := of_decide_eq_false e146; omega)
                    by_cases e149 : (c134 == 95) = true
                    · 
                      have e149n : (c134 != 95) = false := by simp only [bne, e149, Bool.not_true]
                      go_wp2_with fail
                      go_meet
                      case rel => exact ⟨by rw [← HB136.out, e137, e145, e146, e147, e148, e149]; first | rfl | simp, rfl⟩
                    ·
                      replace e149 := Bool.eq_false_iff.mpr e149
                      have e149n : (c134 != 95) = true := by simp only [bne, e149, Bool.not_false]
                      have e150 : (c134 == 45) = false := beq_eq_false_iff_ne.mpr (by have := of_decide_eq_false e146; omega)
                      have e150n : (c134 != 45) = true := by simp only [bne, e150, Bool.not_false]
                      go_wp2_with fail
                      go_meet
                      case rel => exact ⟨by rw [← HB136.out, e137, e145, e146, e147, e148, e149, e150]; first | rfl | simp, rfl⟩
                ·
                  replace e145 := Bool.eq_false_iff.mpr e145
                  by_cases e151 : (decide (48 ≤ c134)) = true
                  · 
                    by_cases e152 : (decide (c134 ≤ 57)) = true
                    · 
                      go_wp2_with fail
                      go_meet
                      case rel => exact ⟨by rw [← HB136.out, e137, e145, e151, e152]; first | rfl | simp, rfl⟩
                    ·
                      replace e152 := Bool.eq_false_iff.mpr e152
                      have e153 : (c134 == 95) = false := beq_eq_false_iff_ne.mpr (by have := of_decide_eq_false e145; omega)
                      have e153n : (c134 != 95) = true := by simp only [bne, e153, Bool.not_false]
                      have e154 : (c134 == 45) = false := beq_eq_false_iff_ne.mpr (by have := of_decide_eq_false e152; omega)
                      have e154n : (c134 != 45) = true := by simp only [bne, e154, Bool.not_false]
                      go_wp2_with fail
                      go_meet
                      case rel => exact ⟨by rw [← HB136.out, e137, e145, e151, e152, e153, e154]; first | rfl | simp, rfl⟩
                  ·
                    replace e151 := Bool.eq_false_iff.mpr e151
                    have e155 : (c134 == 95) = false := beq_eq_false_iff_ne.mpr (by have := of_decide_eq_false e151; omega)
                    have e155n : (c134 != 95) = true := by simp only [bne, e155, Bool.not_false]
                    by_cases e156 : (c134 == 45) = true
                    · 
                      have e156n : (c134 != 45) = false := by simp only [bne, e156, Bool.not_true]
                      go_wp2_with fail
                      go_meet
                      case rel => exact ⟨by rw [← HB136.out, e137, e145, e151, e155, e156]; first | rfl | simp, rfl⟩
                    ·
                      replace e156 := Bool.eq_false_iff.mpr e156
                      have e156n : (c134 != 45) = true := by simp only [bne, e156, Bool.not_false]
                      go_wp2_with fail
                      go_meet
                      case rel => exact ⟨by rw [← HB136.out, e137, e145, e151, e155, e156]; first | rfl | simp, rfl⟩
            case rest =>
              obtain ⟨rfl, rfl⟩ := hcut
              cases b157 with
              | true =>
                replace H := H.tt
                obtain ⟨⟨b164, p165⟩, H1, HC158⟩ := H.bind; clear H
                try dsimp only at HC158
                go_upto_region 17 with fail
                go_cut [128] (fun v128 w' => v128 = .bool b164 ∧ Hd (Lx w' l z b B ET EA p165 s) ∧ Hd (Fr z w0 w'))
                case first =>
                  have H := H1; clear H1
                  by_cases e159 : (c134 == 92) = true
                  · 
                    replace H := H.pos e159
                    have e159n : (c134 != 92) = false := by simp only [bne, e159, Bool.not_true]
                    obtain ⟨⟨t160, p161⟩, A162, HN⟩ := H.bind; clear H; have H := HN; clear HN
                    try dsimp only at H
                    go_wp2_with fail
                    refine (consumeEscape.calls K hI133  t160 p161 A162).mono ?_
                    rintro e w163 ⟨rfl, hI163, k163⟩
                    have hF163 := hF133.trans k163
                    have hl163 := hI163.cl
                    obtain ⟨rfl, rfl⟩ := H.p2
                    go_wp2_with fail
                    go_meet
                    case rel => exact ⟨(by first | rfl | simp), ⟨hI163⟩, ⟨hF163⟩⟩
                  ·
                    replace H := H.neg e159
                    replace e159 := Bool.eq_false_iff.mpr e159
                    have e159n : (c134 != 92) = true := by simp only [bne, e159, Bool.not_false]
                    obtain ⟨rfl, rfl⟩ := H.p2
                    go_wp2_with fail
                    go_meet
                    case rel => exact ⟨(by first | rfl | simp), ⟨hI133⟩, ⟨hF133⟩⟩
                case rest =>
                  obtain ⟨rfl, gI, gF⟩ := hcut
                  have hI166 := gI.out; have hF166 := gF.out; clear gI gF
                  have hl166 := hI166.cl
                  have H := HC158; clear HC158 H1
                  cases b164 with
                  | true =>
                    replace H := H.tt
                    obtain rfl := H.p1
                    go_wp2_with fail
                    go_meet
                    case rel => exact ⟨⟨hI166⟩, ⟨hF166⟩⟩
                  | false =>
                    replace H := H.ff
                    go_wp2_with fail
                    go_roundg k
                    case measure => exact Nat.lt_succ_self _
                    case rel => exact ⟨p165, H, ⟨hI166⟩, ⟨hF166⟩⟩
              | false =>
                replace H := H.ff
                go_wp2_with fail
                refine (Move_calls hI133 1).mono ?_
                rintro e w167 ⟨rfl, hI167, k167⟩
                have hF167 := hF133.trans k167
                have hl167 := hI167.cl
                go_wp2_with fail
                go_roundg k
                case measure => exact Nat.lt_succ_self _
                case rel => exact ⟨mv p132 1, H, ⟨hI167⟩, ⟨hF167⟩⟩
      case rest =>
        obtain ⟨gI, gF⟩ := hcut
        have hI169 := gI.out; have hF169 := gF.out; clear gI gF
        have hl169 := hI169.cl
        have H := HC131; clear HC131 H1
        go_wp2_with fail
        go_ret
        obtain ⟨rfl, rfl⟩ := H.p2
        exact ⟨(by first | rfl | simp), hI169, hF169⟩

/-! (*loop.example/pub-g01476/pub/tdcss.Lexer).consumeUnquotedURL -/
def consumeUnquotedURL.l0 (K : Nat) (B : List Int) (s : Int) : Nat → Int → Option ((Bool × Int) ⊕ (Int))
  | 0, _ => none
  | k + 1, p557 =>
    (pk B p557 0).bind fun c559 =>
    if (((c559 == 0) && ((atEnd B p557 0) || (c559 == 41))) || ((!(c559 == 0)) && (c559 == 41))) = true then (some (.inr p557)) else
    if (((((((c559 == 34) || (c559 == 39)) || (c559 == 40)) || (c559 == 92)) || (c559 == 32)) || (decide (c559 ≤ 31))) || (c559 == 127)) = true then ((if (c559 == 92) = true then ((consumeEscape.f K B p557 s).bind fun (t578, p579) =>
    some (!t578, p579)) else
    some (true, p557)).bind fun (b582, p583) =>
    if b582 = true then (some (.inl (false, p583))) else
    consumeUnquotedURL.l0 K B s k p583) else
    consumeUnquotedURL.l0 K B s k (mv p557 1)
def consumeUnquotedURL.f (K : Nat) (B : List Int) (p : Int) (s : Int) : Option (Bool × Int) :=
(consumeUnquotedURL.l0 K B s K p).bind fun o => joinS o (fun x => some x) fun p586 =>
some (true, p586)
set_option maxHeartbeats 8000000 in
set_option maxRecDepth 100000 in
theorem consumeUnquotedURL.calls (K : Nat) {w0 : World} {l z b : Nat} {B : List Int} {ET : TypeId} {EA : Addr} {p s : Int} (hI0 : Lx w0 l z b B ET EA p s) (r0 : Bool) (r1 : Int) (H : Hd (consumeUnquotedURL.f K B p s = some (r0, r1))) :
    Calls Tryd.prog 37 #[.pointer (some ⟨l, 0, none⟩)] w0 fun e w' => e = .returned (.bool r0) ∧ Lx w' l z b B ET EA r1 s ∧ Fr z w0 w' := by
  have hF0 := Fr.refl z w0
  have hl0 := hI0.cl
  unfold consumeUnquotedURL.f at H
  go_enter Tryd.func37, Tryd.ntmps37
  obtain ⟨o556, H1, HC556⟩ := H.bind; clear H
  go_upto_block 0 with fail
  go_cut [] (fun w' => ∃ (p586 : Int), Hd (o556 = .inr p586) ∧ Hd (Lx w' l z b B ET EA p586 s) ∧ Hd (Fr z w0 w'))
  case first =>
    go_wp2_with fail
    go_loopg [] K (fun gk w' => ∃ (p557 : Int), Hd (consumeUnquotedURL.l0 K B s gk p557 = some o556) ∧ Hd (Lx w' l z b B ET EA p557 s) ∧ Hd (Fr z w0 w'))
    case atStart => exact ⟨p, H1, ⟨hI0⟩, ⟨hF0⟩⟩
    case round =>
      clear H1
      obtain ⟨p557, H, gI, gF⟩ := hrel
      have hI558 := gI.out; have hF558 := gF.out; clear gI gF
      have hl558 := hI558.cl
      cases gk with
      | zero => exact absurd H.out (by simp [consumeUnquotedURL.l0])
      | succ k =>
        simp only [consumeUnquotedURL.l0] at H
        obtain ⟨c559, A560, HN⟩ := H.bind; clear H; have H := HN; clear HN
        go_wp2_with fail
        refine (Peek_calls hI558 0 c559 A560).mono ?_
        rintro e w' ⟨rfl, rfl⟩
        generalize hb561 : (((c559 == 0) && ((atEnd B p557 0) || (c559 == 41))) || ((!(c559 == 0)) && (c559 == 41))) = b566 at H
        have HB561 := Hd.mk hb561; clear hb561
        go_upto_region 2 with fail
        go_cut [22] (fun v22 w' => v22 = .bool b566 ∧ Hd (Lx w' l z b B ET EA p557 s) ∧ Hd (Fr z w0 w'))
        case first =>
          clear H
          by_cases e562 : (c559 == 0) = true
          · 
            have e562n : (c559 != 0) = false := by simp only [bne, e562, Bool.not_true]
            by_cases e563 : (atEnd B p557 0) = true
            · 
              go_wp2_with fail
              refine (Err_end hI558 e563).mono ?_
              rintro e w564 ⟨rfl, hI564, k564⟩
              have hF564 := hF558.trans k564
              have hl564 := hI564.cl
              go_wp2_with fail
              go_meet
              case rel => exact ⟨by rw [← HB561.out, e562, e563]; first | rfl | simp, ⟨hI564⟩, ⟨hF564⟩⟩
            ·
              replace e563 := Bool.eq_false_iff.mpr e563
              go_wp2_with fail
              refine (Err_not hI558 e563).mono ?_
              rintro e w565 ⟨rfl, hI565, k565⟩
              have hF565 := hF558.trans k565
              have hl565 := hI565.cl
              go_wp2_with fail
              go_meet
              case rel => exact ⟨by rw [← HB561.out, e562, e563]; first | rfl | simp, ⟨hI565⟩, ⟨hF565⟩⟩
          ·
            replace e562 := Bool.eq_false_iff.mpr e562
            have e562n : (c559 != 0) = true := by simp only [bne, e562, Bool.not_false]
            go_wp2_with fail
            go_meet
            case rel => exact ⟨by rw [← HB561.out, e562]; first | rfl | simp, ⟨hI558⟩, ⟨hF558⟩⟩
        case rest =>
          obtain ⟨rfl, gI, gF⟩ := hcut
          have hI567 := gI.out; have hF567 := gF.out; clear gI gF
          have hl567 := hI567.cl
          cases b566 with
          | true =>
            replace H := H.tt
            obtain rfl := H.p1
            go_wp2_with fail
            go_meet
            case rel => exact ⟨p557, ⟨rfl⟩, ⟨hI567⟩, ⟨hF567⟩⟩
          | false =>
            replace H := H.ff
            generalize hb568 : (((((((c559 == 34) || (c559 == 39)) || (c559 == 40)) || (c559 == 92)) || (c559 == 32)) || (decide (c559 ≤ 31))) || (c559 == 127)) = b575 at H
            have HB568 := Hd.mk hb568; clear hb568
            go_upto_region 3 with fail
            go_cut [48] (fun v48 w' => v48 = .bool b575 ∧ wc = w')
            case first =>
              clear H
              by_cases e569 : (c559 == 34) = true
              · 
                have e569n : (c559 != 34) = false := by simp only [bne, e569, Bool.not_true]
                go_wp2_with fail
                go_meet
                case rel => exact ⟨by rw [← HB568.out, e569]; first | rfl | simp, rfl⟩
              ·
                replace e569 := Bool.eq_false_iff.mpr e569
                have e569n : (c559 != 34) = true := by simp only [bne, e569, Bool.not_false]
                by_cases e570 : (c559 == 39) = true
                · 
                  have e570n : (c559 != 39) = false := by simp only [bne, e570, Bool.not_true]
                  go_wp2_with fail
                  go_meet
                  case rel => exact ⟨by rw [← HB568.out, e569, e570]; first | rfl | simp, rfl⟩
                ·
                  replace e570 := Bool.eq_false_iff.mpr e570
                  have e570n : (c559 != 39) = true := by simp only [bne, e570, Bool.not_false]
                  by_cases e571 : (c559 == 40) = true
                  · 
                    have e571n : (c559 != 40) = false := by simp only [bne, e571, Bool.not_true]
                    go_wp2_with fail
                    go_meet
                    case rel => exact ⟨by rw [← HB568.out, e569, e570, e571]; first | rfl | simp, rfl⟩
                  ·
                    replace e571 := Bool.eq_false_iff.mpr e571
                    have e571n : (c559 != 40) = true := by simp only [bne, e571, Bool.not_false]
                    by_cases e572 : (c559 == 92) = true
                    · 
                      have e572n : (c559 != 92) = false := by simp only [bne, e572, Bool.not_true]
                      go_wp2_with fail
                      go_meet
                      case rel => exact ⟨by rw [← HB568.out, e569, e570, e571, e572]; first | rfl | simp, rfl⟩
                    ·
                      replace e572 := Bool.eq_false_iff.mpr e572
                      have e572n : (c559 != 92) = true := by simp only [bne, e572, Bool.not_false]
                      by_cases e573 : (c559 == 32) = true
                      · 
                        have e573n : (c559 != 32) = false := by simp only [bne, e573, Bool.not_true]
                        go_wp2_with fail
                        go_meet
                        case rel => exact ⟨by rw [← HB568.out, e569, e570, e571, e572, e573]; first | rfl | simp, rfl⟩
                      ·
                        replace e573 := Bool.eq_false_iff.mpr e573
                        have e573n : (c559 != 32) = true := by simp only [bne, e573, Bool.not_false]
                        by_cases e574 : (decide (c559 ≤ 31)) = true
                        · 
                          go_wp2_with fail
                          go_meet
                          case rel => exact ⟨by rw [← HB568.out, e569, e570, e571, e572, e573, e574]; first | rfl | simp, rfl⟩
                        ·
                          replace e574 := Bool.eq_false_iff.mpr e574
                          go_wp2_with fail
                          go_meet
                          case rel => exact ⟨by rw [← HB568.out, e569, e570, e571, e572, e573, e574]; first | rfl | simp, rfl⟩
            case rest =>
              obtain ⟨rfl, rfl⟩ := hcut
              cases b575 with
              | true =>
                replace H := H.tt
                obtain ⟨⟨b582, p583⟩, H1, HC576⟩ := H.bind; clear H
                try dsimp only at HC576
                go_upto_region 4 with fail
                go_cut [55] (fun v55 w' => v55 = .bool b582 ∧ Hd (Lx w' l z b B ET EA p583 s) ∧ Hd (Fr z w0 w'))
                case first =>
                  have H := H1; clear H1
                  by_cases e577 : (c559 == 92) = true
                  · 
                    replace H := H.pos e577
                    have e577n : (c559 != 92) = false := by simp only [bne, e577, Bool.not_true]
                    obtain ⟨⟨t578, p579⟩, A580, HN⟩ := H.bind; clear H; have H := HN; clear HN
                    try dsimp only at H
                    go_wp2_with fail
                    refine (consumeEscape.calls K hI567  t578 p579 A580).mono ?_
                    rintro e w581 ⟨rfl, hI581, k581⟩
                    have hF581 := hF567.trans k581
                    have hl581 := hI581.cl
                    obtain ⟨rfl, rfl⟩ := H.p2
                    go_wp2_with fail
                    go_meet
                    case rel => exact ⟨(by first | rfl | simp), ⟨hI581⟩, ⟨hF581⟩⟩
                  ·
                    replace H := H.neg e577
                    replace e577 := Bool.eq_false_iff.mpr e577
                    have e577n : (c559 != 92) = true := by simp only [bne, e577, Bool.not_false]
                    obtain ⟨rfl, rfl⟩ := H.p2
                    go_wp2_with fail
                    go_meet
                    case rel => exact ⟨(by first | rfl | simp), ⟨hI567⟩, ⟨hF567⟩⟩
                case rest =>
                  obtain ⟨rfl, gI, gF⟩ := hcut
                  have hI584 := gI.out; have hF584 := gF.out; clear gI gF
                  have hl584 := hI584.cl
                  have H := HC576; clear HC576 H1
                  cases b582 with
                  | true =>
                    replace H := H.tt
                    obtain rfl := H.p1; clear H
                    have H := HC556.inlS; clear HC556
                    go_wp2_with fail
                    go_ret
                    obtain ⟨rfl, rfl⟩ := H.p2
                    exact ⟨(by first | rfl | simp), hI584, hF584⟩
                  | false =>
                    replace H := H.ff
                    go_wp2_with fail
                    go_roundg k
                    case measure => exact Nat.lt_succ_self _
                    case rel => exact ⟨p583, H, ⟨hI584⟩, ⟨hF584⟩⟩
              | false =>
                replace H := H.ff
                go_wp2_with fail
                refine (Move_calls hI567 1).mono ?_
                rintro e w585 ⟨rfl, hI585, k585⟩
                have hF585 := hF567.trans k585
                have hl585 := hI585.cl
                go_wp2_with fail
                go_roundg k
                case measure => exact Nat.lt_succ_self _
                case rel => exact ⟨mv p557 1, H, ⟨hI585⟩, ⟨hF585⟩⟩
  case rest =>
    obtain ⟨p586, ho, gI, gF⟩ := hcut
    have hI587 := gI.out; have hF587 := gF.out; clear gI gF
    have hl587 := hI587.cl
    have ho := ho.out; subst ho; have H := HC556.inrS; clear HC556 H1
    go_wp2_with fail
    go_ret
    obtain ⟨rfl, rfl⟩ := H.p2
    exact ⟨(by first | rfl | simp), hI587, hF587⟩

end Go.Proofs.YteonakpgenkhkaaDoor
