import Derived.Test.YteonakpgenkhkaaDoorL3
namespace Go.Proofs.YteonakpgenkhkaaDoor
open Go.RowKit
set_option linter.unusedVariables false
set_option linter.unusedSimpArgs false

/-! loop.example/pub-g01476/spec.isDigit -/
def sisDigit.f (a0 : Int) : Bool :=
  ((decide (48 ≤ a0)) && (decide (a0 ≤ 57)))
set_option maxHeartbeats 8000000 in
set_option maxRecDepth 100000 in
theorem sisDigit.calls {w : World} (a0 : Int) :
    Calls Tryd.prog 72 #[.int .u8 a0] w fun e w' => e = .returned (.bool (sisDigit.f a0)) ∧ w = w' := by
  go_enter Tryd.func72, Tryd.ntmps72
  by_cases e2 : (decide (48 ≤ a0)) = true
  ·
    go_wp2_with fail
    go_ret
    exact ⟨by unfold sisDigit.f; first | rfl | (simp [*]; done) | (simp [*]; unfold wrap64; omega), rfl⟩
  ·
    replace e2 := Bool.eq_false_iff.mpr e2
    go_wp2_with fail
    go_ret
    exact ⟨by unfold sisDigit.f; first | rfl | (simp [*]; done) | (simp [*]; unfold wrap64; omega), rfl⟩

/-! loop.example/pub-g01476/spec.isLetter -/
def sisLetter.f (a0 : Int) : Bool :=
  (((decide (97 ≤ a0)) && (decide (a0 ≤ 122))) || ((decide (65 ≤ a0)) && (decide (a0 ≤ 90))))
set_option maxHeartbeats 8000000 in
set_option maxRecDepth 100000 in
theorem sisLetter.calls {w : World} (a0 : Int) :
    Calls Tryd.prog 75 #[.int .u8 a0] w fun e w' => e = .returned (.bool (sisLetter.f a0)) ∧ w = w' := by
  go_enter Tryd.func75, Tryd.ntmps75
  by_cases e5 : (decide (97 ≤ a0)) = true
  ·
    by_cases e6 : (decide (a0 ≤ 122)) = true
    ·
      go_wp2_with fail
      go_ret
      exact ⟨by unfold sisLetter.f; first | rfl | (simp [*]; done) | (simp [*]; unfold wrap64; omega), rfl⟩
    ·
      replace e6 := Bool.eq_false_iff.mpr e6
      have e7 : (decide (65 ≤ a0)) = true := decide_eq_true (by have := of_decide_eq_false e6; omega)
      go_wp2_with fail
      go_ret
      exact ⟨by unfold sisLetter.f; first | rfl | (simp [*]; done) | (simp [*]; unfold wrap64; omega), rfl⟩
  ·
    replace e5 := Bool.eq_false_iff.mpr e5
    by_cases e8 : (decide (65 ≤ a0)) = true
    ·
      go_wp2_with fail
      go_ret
      exact ⟨by unfold sisLetter.f; first | rfl | (simp [*]; done) | (simp [*]; unfold wrap64; omega), rfl⟩
    ·
      replace e8 := Bool.eq_false_iff.mpr e8
      go_wp2_with fail
      go_ret
      exact ⟨by unfold sisLetter.f; first | rfl | (simp [*]; done) | (simp [*]; unfold wrap64; omega), rfl⟩

/-! loop.example/pub-g01476/spec.isStart -/
def sisStart.f (a0 : Int) : Bool :=
  ((sisLetter.f a0) || ((a0 == 95) || (decide (128 ≤ a0))))
set_option maxHeartbeats 8000000 in
set_option maxRecDepth 100000 in
theorem sisStart.calls {w : World} (a0 : Int) :
    Calls Tryd.prog 41 #[.int .u8 a0] w fun e w' => e = .returned (.bool (sisStart.f a0)) ∧ w = w' := by
  go_enter Tryd.func41, Tryd.ntmps41
  go_wp2_with fail
  refine (sisLetter.calls (w := _) a0).mono ?_
  rintro e w' ⟨rfl, rfl⟩
  by_cases e11 : (sisLetter.f a0) = true
  ·
    go_wp2_with fail
    go_ret
    exact ⟨by unfold sisStart.f; first | rfl | (simp [*]; done) | (simp [*]; unfold wrap64; omega), rfl⟩
  ·
    replace e11 := Bool.eq_false_iff.mpr e11
    by_cases e12 : (a0 == 95) = true
    ·
      have e12n : (a0 != 95) = false := by simp only [bne, e12, Bool.not_true]
      go_wp2_with fail
      go_ret
      exact ⟨by unfold sisStart.f; first | rfl | (simp [*]; done) | (simp [*]; unfold wrap64; omega), rfl⟩
    ·
      replace e12 := Bool.eq_false_iff.mpr e12
      have e12n : (a0 != 95) = true := by simp only [bne, e12, Bool.not_false]
      go_wp2_with fail
      go_ret
      exact ⟨by unfold sisStart.f; first | rfl | (simp [*]; done) | (simp [*]; unfold wrap64; omega), rfl⟩

/-! loop.example/pub-g01476/spec.isNameByte -/
def sisNameByte.f (a0 : Int) : Bool :=
  ((sisStart.f a0) || ((sisDigit.f a0) || (a0 == 45)))
set_option maxHeartbeats 8000000 in
set_option maxRecDepth 100000 in
theorem sisNameByte.calls {w : World} (a0 : Int) :
    Calls Tryd.prog 42 #[.int .u8 a0] w fun e w' => e = .returned (.bool (sisNameByte.f a0)) ∧ w = w' := by
  go_enter Tryd.func42, Tryd.ntmps42
  go_wp2_with fail
  refine (sisStart.calls (w := _) a0).mono ?_
  rintro e w' ⟨rfl, rfl⟩
  by_cases e15 : (sisStart.f a0) = true
  ·
    go_wp2_with fail
    go_ret
    exact ⟨by unfold sisNameByte.f; first | rfl | (simp [*]; done) | (simp [*]; unfold wrap64; omega), rfl⟩
  ·
    replace e15 := Bool.eq_false_iff.mpr e15
    go_wp2_with fail
    refine (sisDigit.calls (w := _) a0).mono ?_
    rintro e w' ⟨rfl, rfl⟩
    by_cases e16 : (sisDigit.f a0) = true
    ·
      go_wp2_with fail
      go_ret
      exact ⟨by unfold sisNameByte.f; first | rfl | (simp [*]; done) | (simp [*]; unfold wrap64; omega), rfl⟩
    ·
      replace e16 := Bool.eq_false_iff.mpr e16
      go_wp2_with fail
      go_ret
      exact ⟨by unfold sisNameByte.f; first | rfl | (simp [*]; done) | (simp [*]; unfold wrap64; omega), rfl⟩

/-! loop.example/pub-g01476/spec.isNewline -/
def sisNewline.f (a0 : Int) : Bool :=
  (((a0 == 10) || (a0 == 13)) || (a0 == 12))
set_option maxHeartbeats 8000000 in
set_option maxRecDepth 100000 in
theorem sisNewline.calls {w : World} (a0 : Int) :
    Calls Tryd.prog 34 #[.int .u8 a0] w fun e w' => e = .returned (.bool (sisNewline.f a0)) ∧ w = w' := by
  go_enter Tryd.func34, Tryd.ntmps34
  by_cases e19 : (a0 == 10) = true
  ·
    have e19n : (a0 != 10) = false := by simp only [bne, e19, Bool.not_true]
    go_wp2_with fail
    go_ret
    exact ⟨by unfold sisNewline.f; first | rfl | (simp [*]; done) | (simp [*]; unfold wrap64; omega), rfl⟩
  ·
    replace e19 := Bool.eq_false_iff.mpr e19
    have e19n : (a0 != 10) = true := by simp only [bne, e19, Bool.not_false]
    by_cases e20 : (a0 == 13) = true
    ·
      have e20n : (a0 != 13) = false := by simp only [bne, e20, Bool.not_true]
      go_wp2_with fail
      go_ret
      exact ⟨by unfold sisNewline.f; first | rfl | (simp [*]; done) | (simp [*]; unfold wrap64; omega), rfl⟩
    ·
      replace e20 := Bool.eq_false_iff.mpr e20
      have e20n : (a0 != 13) = true := by simp only [bne, e20, Bool.not_false]
      go_wp2_with fail
      go_ret
      exact ⟨by unfold sisNewline.f; first | rfl | (simp [*]; done) | (simp [*]; unfold wrap64; omega), rfl⟩

/-! loop.example/pub-g01476/spec.IsBlank -/
def sIsBlank.f (a0 : Int) : Bool :=
  (((((a0 == 32) || (a0 == 10)) || (a0 == 13)) || (a0 == 9)) || (a0 == 12))
set_option maxHeartbeats 8000000 in
set_option maxRecDepth 100000 in
theorem sIsBlank.calls {w : World} (a0 : Int) :
    Calls Tryd.prog 19 #[.int .u8 a0] w fun e w' => e = .returned (.bool (sIsBlank.f a0)) ∧ w = w' := by
  go_enter Tryd.func19, Tryd.ntmps19
  by_cases e23 : (a0 == 32) = true
  ·
    have e23n : (a0 != 32) = false := by simp only [bne, e23, Bool.not_true]
    go_wp2_with fail
    go_ret
    exact ⟨by unfold sIsBlank.f; first | rfl | (simp [*]; done) | (simp [*]; unfold wrap64; omega), rfl⟩
  ·
    replace e23 := Bool.eq_false_iff.mpr e23
    have e23n : (a0 != 32) = true := by simp only [bne, e23, Bool.not_false]
    by_cases e24 : (a0 == 10) = true
    ·
      have e24n : (a0 != 10) = false := by simp only [bne, e24, Bool.not_true]
      go_wp2_with fail
      go_ret
      exact ⟨by unfold sIsBlank.f; first | rfl | (simp [*]; done) | (simp [*]; unfold wrap64; omega), rfl⟩
    ·
      replace e24 := Bool.eq_false_iff.mpr e24
      have e24n : (a0 != 10) = true := by simp only [bne, e24, Bool.not_false]
      by_cases e25 : (a0 == 13) = true
      ·
        have e25n : (a0 != 13) = false := by simp only [bne, e25, Bool.not_true]
        go_wp2_with fail
        go_ret
        exact ⟨by unfold sIsBlank.f; first | rfl | (simp [*]; done) | (simp [*]; unfold wrap64; omega), rfl⟩
      ·
        replace e25 := Bool.eq_false_iff.mpr e25
        have e25n : (a0 != 13) = true := by simp only [bne, e25, Bool.not_false]
        by_cases e26 : (a0 == 9) = true
        ·
          have e26n : (a0 != 9) = false := by simp only [bne, e26, Bool.not_true]
          go_wp2_with fail
          go_ret
          exact ⟨by unfold sIsBlank.f; first | rfl | (simp [*]; done) | (simp [*]; unfold wrap64; omega), rfl⟩
        ·
          replace e26 := Bool.eq_false_iff.mpr e26
          have e26n : (a0 != 9) = true := by simp only [bne, e26, Bool.not_false]
          go_wp2_with fail
          go_ret
          exact ⟨by unfold sIsBlank.f; first | rfl | (simp [*]; done) | (simp [*]; unfold wrap64; omega), rfl⟩

/-! loop.example/pub-g01476/spec.isControl -/
def sisControl.f (a0 : Int) : Bool :=
  ((((decide (a0 ≤ 8)) || (a0 == 11)) || ((decide (14 ≤ a0)) && (decide (a0 ≤ 31)))) || (a0 == 127))
set_option maxHeartbeats 8000000 in
set_option maxRecDepth 100000 in
theorem sisControl.calls {w : World} (a0 : Int) :
    Calls Tryd.prog 21 #[.int .u8 a0] w fun e w' => e = .returned (.bool (sisControl.f a0)) ∧ w = w' := by
  go_enter Tryd.func21, Tryd.ntmps21
  by_cases e29 : (decide (a0 ≤ 8)) = true
  ·
    go_wp2_with fail
    go_ret
    exact ⟨by unfold sisControl.f; first | rfl | (simp [*]; done) | (simp [*]; unfold wrap64; omega), rfl⟩
  ·
    replace e29 := Bool.eq_false_iff.mpr e29
    by_cases e30 : (a0 == 11) = true
    ·
      have e30n : (a0 != 11) = false := by simp only [bne, e30, Bool.not_true]
      go_wp2_with fail
      go_ret
      exact ⟨by unfold sisControl.f; first | rfl | (simp [*]; done) | (simp [*]; unfold wrap64; omega), rfl⟩
    ·
      replace e30 := Bool.eq_false_iff.mpr e30
      have e30n : (a0 != 11) = true := by simp only [bne, e30, Bool.not_false]
      by_cases e31 : (decide (14 ≤ a0)) = true
      ·
        by_cases e32 : (decide (a0 ≤ 31)) = true
        ·
          go_wp2_with fail
          go_ret
          exact ⟨by unfold sisControl.f; first | rfl | (simp [*]; done) | (simp [*]; unfold wrap64; omega), rfl⟩
        ·
          replace e32 := Bool.eq_false_iff.mpr e32
          go_wp2_with fail
          go_ret
          exact ⟨by unfold sisControl.f; first | rfl | (simp [*]; done) | (simp [*]; unfold wrap64; omega), rfl⟩
      ·
        replace e31 := Bool.eq_false_iff.mpr e31
        go_wp2_with fail
        go_ret
        exact ⟨by unfold sisControl.f; first | rfl | (simp [*]; done) | (simp [*]; unfold wrap64; omega), rfl⟩

/-! loop.example/pub-g01476/spec.hexValue -/
def shexValue.f (a0 : Int) : Int :=
  if (sisDigit.f a0) = true then ((a0 - 48) % 256) else if ((decide (97 ≤ a0)) && (decide (a0 ≤ 102))) = true then (wrap64 (((a0 - 97) % 256) + 10)) else if ((decide (65 ≤ a0)) && (decide (a0 ≤ 70))) = true then (wrap64 (((a0 - 65) % 256) + 10)) else (-1)
set_option maxHeartbeats 8000000 in
set_option maxRecDepth 100000 in
theorem shexValue.calls {w : World} (a0 : Int) :
    Calls Tryd.prog 35 #[.int .u8 a0] w fun e w' => e = .returned (.int .i64 (shexValue.f a0)) ∧ w = w' := by
  go_enter Tryd.func35, Tryd.ntmps35
  go_wp2_with fail
  refine (sisDigit.calls (w := _) a0).mono ?_
  rintro e w' ⟨rfl, rfl⟩
  by_cases e34 : (sisDigit.f a0) = true
  ·
    go_wp2_with fail
    go_ret
    exact ⟨by unfold shexValue.f; first | rfl | (simp [*]; done) | (simp [*]; unfold wrap64; omega), rfl⟩
  ·
    replace e34 := Bool.eq_false_iff.mpr e34
    by_cases e36 : (decide (97 ≤ a0)) = true
    ·
      by_cases e41 : (decide (a0 ≤ 102)) = true
      ·
        go_wp2_with fail
        go_ret
        exact ⟨by unfold shexValue.f; first | rfl | (simp [*]; done) | (simp [*]; unfold wrap64; omega), rfl⟩
      ·
        replace e41 := Bool.eq_false_iff.mpr e41
        by_cases e39 : (decide (65 ≤ a0)) = true
        ·
          by_cases e42 : (decide (a0 ≤ 70)) = true
          ·
            go_wp2_with fail
            go_ret
            exact ⟨by unfold shexValue.f; first | rfl | (simp [*]; done) | (simp [*]; unfold wrap64; omega), rfl⟩
          ·
            replace e42 := Bool.eq_false_iff.mpr e42
            go_wp2_with fail
            go_ret
            exact ⟨by unfold shexValue.f; first | rfl | (simp [*]; done) | (simp [*]; unfold wrap64; omega), rfl⟩
        ·
          replace e39 := Bool.eq_false_iff.mpr e39
          go_wp2_with fail
          go_ret
          exact ⟨by unfold shexValue.f; first | rfl | (simp [*]; done) | (simp [*]; unfold wrap64; omega), rfl⟩
    ·
      replace e36 := Bool.eq_false_iff.mpr e36
      by_cases e39 : (decide (65 ≤ a0)) = true
      ·
        by_cases e43 : (decide (a0 ≤ 70)) = true
        ·
          go_wp2_with fail
          go_ret
          exact ⟨by unfold shexValue.f; first | rfl | (simp [*]; done) | (simp [*]; unfold wrap64; omega), rfl⟩
        ·
          replace e43 := Bool.eq_false_iff.mpr e43
          go_wp2_with fail
          go_ret
          exact ⟨by unfold shexValue.f; first | rfl | (simp [*]; done) | (simp [*]; unfold wrap64; omega), rfl⟩
      ·
        replace e39 := Bool.eq_false_iff.mpr e39
        go_wp2_with fail
        go_ret
        exact ⟨by unfold shexValue.f; first | rfl | (simp [*]; done) | (simp [*]; unfold wrap64; omega), rfl⟩

/-! (*loop.example/pub-g01476/spec.reader).escapes -/
def sescapes.f (T : List Int) (q : Int) (o : Bool) (a1 : Int) : Option (Bool × Bool) :=
(rpk T q a1).bind fun c44 =>
if (c44 == 92) = true then (if (decide ((T.length : Int) ≤ wrap64 ((wrap64 (q + a1)) + 1))) = true then (some (false, true)) else
(rpk T q (wrap64 (a1 + 1))).bind fun c51 =>
some (!(sisNewline.f c51), o)) else
some (false, o)
set_option maxHeartbeats 8000000 in
set_option maxRecDepth 100000 in
theorem sescapes.calls {w0 : World} {z : Nat} {A : Option Addr} {c : Nat} {T : List Int} {q : Int} {o : Bool} (hI0 : Rd w0 z A c T q o) (a1 : Int) (r0 : Bool) (r1 : Bool) (H : Hd (sescapes.f T q o a1 = some (r0, r1))) :
    Calls Tryd.prog 17 #[.pointer (some ⟨z, 0, none⟩), .int .i64 a1] w0 fun e w' => e = .returned (.bool r0) ∧ Rd w' z A c T q r1 ∧ Fr z w0 w' := by
  have hF0 := Fr.refl z w0
  have c00 := hI0.c0
  have c10 := hI0.c1
  have c20 := hI0.c2
  have f0 := hI0.f
  unfold sescapes.f at H
  go_enter Tryd.func17, Tryd.ntmps17
  obtain ⟨c44, A45, HN⟩ := H.bind; clear H; have H := HN; clear HN
  go_wp2_with fail
  refine (peek_calls hI0 a1 c44 A45).mono ?_
  rintro e w46 ⟨rfl, hI46, k46⟩
  have hF46 := hF0.trans k46
  have c046 := hI46.c0
  have c146 := hI46.c1
  have c246 := hI46.c2
  have f46 := hI46.f
  by_cases e47 : (c44 == 92) = true
  · 
    replace H := H.pos e47
    have e47n : (c44 != 92) = false := by simp only [bne, e47, Bool.not_true]
    generalize hb48 : (decide ((T.length : Int) ≤ wrap64 ((wrap64 (q + a1)) + 1))) = b49 at H
    have HB48 := Hd.mk hb48; clear hb48
    go_upto_region 3 with fail
    go_cut [21] (fun v21 w' => v21 = .bool b49 ∧ Hd (Rd w' z A c T q o) ∧ Hd (Fr z w0 w'))
    case first =>
      clear H
      go_wp2_with fail
      go_quiet (fail)
      go_wp2_with fail
      go_meet
      case rel => exact ⟨by first | (rw [← HB48.out]; done) | (rw [← HB48.out]; first | rfl | simp), ⟨(by repeat (first | exact hI46 | apply Rd.setAt | apply Rd.setOpen | apply Rd.drewN | apply Rd.drew | apply Rd.alloc))⟩, ⟨(by repeat (first | exact hF46 | apply Fr.set | apply Fr.drewN | apply Fr.drew | apply Fr.alloc))⟩⟩
    case rest =>
      obtain ⟨rfl, gI, gF⟩ := hcut
      have hI50 := gI.out; have hF50 := gF.out; clear gI gF
      have c050 := hI50.c0
      have c150 := hI50.c1
      have c250 := hI50.c2
      have f50 := hI50.f
      cases b49 with
      | true =>
        replace H := H.tt
        go_wp2_with fail
        go_ret
        obtain ⟨rfl, rfl⟩ := H.p2
        exact ⟨(by first | rfl | simp), (by repeat (first | exact hI50 | apply Rd.setAt | apply Rd.setOpen | apply Rd.drewN | apply Rd.drew | apply Rd.alloc)), (by repeat (first | exact hF50 | apply Fr.set | apply Fr.drewN | apply Fr.drew | apply Fr.alloc))⟩
      | false =>
        replace H := H.ff
        obtain ⟨c51, A52, HN⟩ := H.bind; clear H; have H := HN; clear HN
        go_wp2_with fail
        refine (peek_calls hI50 (wrap64 (a1 + 1)) c51 A52).mono ?_
        rintro e w53 ⟨rfl, hI53, k53⟩
        have hF53 := hF50.trans k53
        have c053 := hI53.c0
        have c153 := hI53.c1
        have c253 := hI53.c2
        have f53 := hI53.f
        go_wp2_with fail
        refine (sisNewline.calls (w := _) c51).mono ?_
        rintro e w' ⟨rfl, rfl⟩
        go_wp2_with fail
        go_ret
        obtain ⟨rfl, rfl⟩ := H.p2
        exact ⟨(by first | rfl | simp), hI53, hF53⟩
  ·
    replace H := H.neg e47
    replace e47 := Bool.eq_false_iff.mpr e47
    have e47n : (c44 != 92) = true := by simp only [bne, e47, Bool.not_false]
    go_wp2_with fail
    go_ret
    obtain ⟨rfl, rfl⟩ := H.p2
    exact ⟨(by first | rfl | simp), hI46, hF46⟩

/-! (*loop.example/pub-g01476/spec.reader).escape -/
def sescape.l0 (K : Nat) (T : List Int) : Nat → Int → Option (Int)
  | 0, _ => none
  | k + 1, q59 =>
    (if (rover T q59) = true then (some false) else
    (rpk T q59 0).bind fun c64 =>
    some ((Go.bits .and .u8 c64 192) == 128)).bind fun b67 =>
    if b67 = true then (sescape.l0 K T k (wrap64 (q59 + 1))) else
    some q59
def sescape.l1 (K : Nat) (T : List Int) : Nat → Int → Int → Option (Int)
  | 0, _, _ => none
  | k + 1, x72, q73 =>
    (if (decide (x72 < 6)) = true then ((rpk T q73 0).bind fun c77 =>
    some (decide (0 ≤ shexValue.f c77))) else
    some false).bind fun b80 =>
    if b80 = true then (sescape.l1 K T k (wrap64 (x72 + 1)) (wrap64 (q73 + 1))) else
    some q73
def sescape.f (K : Nat) (T : List Int) (q : Int) (o : Bool) : Option (Int × Bool) :=
(rpk T (wrap64 (q + 1)) 0).bind fun c54 =>
if (decide (shexValue.f c54 < 0)) = true then ((sescape.l0 K T K (wrap64 ((wrap64 (q + 1)) + 1))).bind fun q69 =>
some (q69, o)) else
(sescape.l1 K T K 0 (wrap64 (q + 1))).bind fun q82 =>
(rpk T q82 0).bind fun c84 =>
(if (c84 == 13) = true then (some true) else
some o).bind fun o89 =>
(rpk T q82 0).bind fun c91 =>
if (sIsBlank.f c91) = true then (some (wrap64 (q82 + 1), o89)) else
some (q82, o89)
set_option maxHeartbeats 8000000 in
set_option maxRecDepth 100000 in
theorem sescape.calls (K : Nat) {w0 : World} {z : Nat} {A : Option Addr} {c : Nat} {T : List Int} {q : Int} {o : Bool} (hI0 : Rd w0 z A c T q o) (r0 : Int) (r1 : Bool) (H : Hd (sescape.f K T q o = some (r0, r1))) :
    Calls Tryd.prog 18 #[.pointer (some ⟨z, 0, none⟩)] w0 fun e w' => e = .returned (.tuple #[]) ∧ Rd w' z A c T r0 r1 ∧ Fr z w0 w' := by
  have hF0 := Fr.refl z w0
  have c00 := hI0.c0
  have c10 := hI0.c1
  have c20 := hI0.c2
  have f0 := hI0.f
  unfold sescape.f at H
  go_enter Tryd.func18, Tryd.ntmps18
  obtain ⟨c54, A55, HN⟩ := H.bind; clear H; have H := HN; clear HN
  go_wp2_with fail
  refine (peek_calls (by repeat (first | exact hI0 | apply Rd.setAt | apply Rd.setOpen | apply Rd.drewN | apply Rd.drew | apply Rd.alloc)) 0 c54 A55).mono ?_
  rintro e w56 ⟨rfl, hI56, k56⟩
  have hF56 := (show Fr z w0 _ by repeat (first | exact hF0 | apply Fr.set | apply Fr.drewN | apply Fr.drew | apply Fr.alloc)).trans k56
  have c056 := hI56.c0
  have c156 := hI56.c1
  have c256 := hI56.c2
  have f56 := hI56.f
  go_wp2_with fail
  refine (shexValue.calls (w := _) c54).mono ?_
  rintro e w' ⟨rfl, rfl⟩
  by_cases e57 : (decide (shexValue.f c54 < 0)) = true
  · 
    replace H := H.pos e57
    obtain ⟨q69, H1, HC58⟩ := H.bind; clear H
    go_upto_block 0 with fail
    go_cut [] (fun w' => Hd (Rd w' z A c T q69 o) ∧ Hd (Fr z w0 w'))
    case first =>
      go_wp2_with fail
      go_loopg [] K (fun gk w' => ∃ (q59 : Int), Hd (sescape.l0 K T gk q59 = some q69) ∧ Hd (Rd w' z A c T q59 o) ∧ Hd (Fr z w0 w'))
      case atStart => exact ⟨wrap64 ((wrap64 (q + 1)) + 1), H1, ⟨(by repeat (first | exact hI56 | apply Rd.setAt | apply Rd.setOpen | apply Rd.drewN | apply Rd.drew | apply Rd.alloc))⟩, ⟨(by repeat (first | exact hF56 | apply Fr.set | apply Fr.drewN | apply Fr.drew | apply Fr.alloc))⟩⟩
      case round =>
        clear H1
        obtain ⟨q59, H, gI, gF⟩ := hrel
        have hI60 := gI.out; have hF60 := gF.out; clear gI gF
        have c060 := hI60.c0
        have c160 := hI60.c1
        have c260 := hI60.c2
        have f60 := hI60.f
        cases gk with
        | zero => exact absurd H.out (by simp [sescape.l0])
        | succ k =>
          simp only [sescape.l0] at H
          obtain ⟨b67, H1, HC61⟩ := H.bind; clear H
          go_upto_region 3 with fail
          go_cut [29] (fun v29 w' => v29 = .bool b67 ∧ Hd (Rd w' z A c T q59 o) ∧ Hd (Fr z w0 w'))
          case first =>
            have H := H1; clear H1
            go_wp2_with fail
            refine (over_calls hI60).mono ?_
            rintro e w62 ⟨rfl, hI62, k62⟩
            have hF62 := hF60.trans k62
            have c062 := hI62.c0
            have c162 := hI62.c1
            have c262 := hI62.c2
            have f62 := hI62.f
            by_cases e63 : (rover T q59) = true
            · 
              replace H := H.pos e63
              obtain rfl := H.p1
              go_wp2_with fail
              go_meet
              case rel => exact ⟨(by first | rfl | simp), ⟨hI62⟩, ⟨hF62⟩⟩
            ·
              replace H := H.neg e63
              replace e63 := Bool.eq_false_iff.mpr e63
              obtain ⟨c64, A65, HN⟩ := H.bind; clear H; have H := HN; clear HN
              go_wp2_with fail
              refine (peek_calls hI62 0 c64 A65).mono ?_
              rintro e w66 ⟨rfl, hI66, k66⟩
              have hF66 := hF62.trans k66
              have c066 := hI66.c0
              have c166 := hI66.c1
              have c266 := hI66.c2
              have f66 := hI66.f
              obtain rfl := H.p1
              go_wp2_with fail
              go_meet
              case rel => exact ⟨(by first | rfl | simp), ⟨hI66⟩, ⟨hF66⟩⟩
          case rest =>
            obtain ⟨rfl, gI, gF⟩ := hcut
            have hI68 := gI.out; have hF68 := gF.out; clear gI gF
            have c068 := hI68.c0
            have c168 := hI68.c1
            have c268 := hI68.c2
            have f68 := hI68.f
            have H := HC61; clear HC61 H1
            cases b67 with
            | true =>
              replace H := H.tt
              go_wp2_with fail
              go_roundg k
              case measure => exact Nat.lt_succ_self _
              case rel => exact ⟨wrap64 (q59 + 1), H, ⟨(by repeat (first | exact hI68 | apply Rd.setAt | apply Rd.setOpen | apply Rd.drewN | apply Rd.drew | apply Rd.alloc))⟩, ⟨(by repeat (first | exact hF68 | apply Fr.set | apply Fr.drewN | apply Fr.drew | apply Fr.alloc))⟩⟩
            | false =>
              replace H := H.ff
              obtain rfl := H.p1
              go_wp2_with fail
              go_meet
              case rel => exact ⟨⟨hI68⟩, ⟨hF68⟩⟩
    case rest =>
      obtain ⟨gI, gF⟩ := hcut
      have hI70 := gI.out; have hF70 := gF.out; clear gI gF
      have c070 := hI70.c0
      have c170 := hI70.c1
      have c270 := hI70.c2
      have f70 := hI70.f
      have H := HC58; clear HC58 H1
      go_wp2_with fail
      first | go_end0 | ((try simp only [Exit.inBlock, Exit.then]); refine bodyPost_ret (results_none rfl _ _ _) rfl ?_)
      obtain ⟨rfl, rfl⟩ := H.p2
      exact ⟨(by first | rfl | simp), hI70, hF70⟩
  ·
    replace H := H.neg e57
    replace e57 := Bool.eq_false_iff.mpr e57
    obtain ⟨q82, H1, HC71⟩ := H.bind; clear H
    go_upto_block 2 with fail
    go_cut [] (fun w' => Hd (Rd w' z A c T q82 o) ∧ Hd (Fr z w0 w'))
    case first =>
      go_wp2_with fail
      go_loopg [2] K (fun gk v2 w' => ∃ (x72 : Int), ∃ (q73 : Int), v2 = .int .i64 x72 ∧ Hd (sescape.l1 K T gk x72 q73 = some q82) ∧ Hd (Rd w' z A c T q73 o) ∧ Hd (Fr z w0 w'))
      case atStart => exact ⟨0, wrap64 (q + 1), (by first | rfl | simp), H1, ⟨hI56⟩, ⟨hF56⟩⟩
      case round =>
        clear H1
        obtain ⟨x72, q73, rfl, H, gI, gF⟩ := hrel
        have hI74 := gI.out; have hF74 := gF.out; clear gI gF
        have c074 := hI74.c0
        have c174 := hI74.c1
        have c274 := hI74.c2
        have f74 := hI74.f
        cases gk with
        | zero => exact absurd H.out (by simp [sescape.l1])
        | succ k =>
          simp only [sescape.l1] at H
          obtain ⟨b80, H1, HC75⟩ := H.bind; clear H
          go_upto_region 6 with fail
          go_cut [44] (fun v44 w' => v44 = .bool b80 ∧ Hd (Rd w' z A c T q73 o) ∧ Hd (Fr z w0 w'))
          case first =>
            have H := H1; clear H1
            by_cases e76 : (decide (x72 < 6)) = true
            · 
              replace H := H.pos e76
              obtain ⟨c77, A78, HN⟩ := H.bind; clear H; have H := HN; clear HN
              go_wp2_with fail
              refine (peek_calls hI74 0 c77 A78).mono ?_
              rintro e w79 ⟨rfl, hI79, k79⟩
              have hF79 := hF74.trans k79
              have c079 := hI79.c0
              have c179 := hI79.c1
              have c279 := hI79.c2
              have f79 := hI79.f
              go_wp2_with fail
              refine (shexValue.calls (w := _) c77).mono ?_
              rintro e w' ⟨rfl, rfl⟩
              obtain rfl := H.p1
              go_wp2_with fail
              go_meet
              case rel => exact ⟨(by first | rfl | simp), ⟨hI79⟩, ⟨hF79⟩⟩
            ·
              replace H := H.neg e76
              replace e76 := Bool.eq_false_iff.mpr e76
              obtain rfl := H.p1
              go_wp2_with fail
              go_meet
              case rel => exact ⟨(by first | rfl | simp), ⟨hI74⟩, ⟨hF74⟩⟩
          case rest =>
            obtain ⟨rfl, gI, gF⟩ := hcut
            have hI81 := gI.out; have hF81 := gF.out; clear gI gF
            have c081 := hI81.c0
            have c181 := hI81.c1
            have c281 := hI81.c2
            have f81 := hI81.f
            have H := HC75; clear HC75 H1
            cases b80 with
            | true =>
              replace H := H.tt
              go_wp2_with fail
              go_roundg k
              case measure => exact Nat.lt_succ_self _
              case rel => exact ⟨wrap64 (x72 + 1), wrap64 (q73 + 1), (by first | rfl | simp), H, ⟨(by repeat (first | exact hI81 | apply Rd.setAt | apply Rd.setOpen | apply Rd.drewN | apply Rd.drew | apply Rd.alloc))⟩, ⟨(by repeat (first | exact hF81 | apply Fr.set | apply Fr.drewN | apply Fr.drew | apply Fr.alloc))⟩⟩
            | false =>
              replace H := H.ff
              obtain rfl := H.p1
              go_wp2_with fail
              go_meet
              case rel => exact ⟨⟨hI81⟩, ⟨hF81⟩⟩
    case rest =>
      obtain ⟨gI, gF⟩ := hcut
      have hI83 := gI.out; have hF83 := gF.out; clear gI gF
      have c083 := hI83.c0
      have c183 := hI83.c1
      have c283 := hI83.c2
      have f83 := hI83.f
      have H := HC71; clear HC71 H1
      obtain ⟨c84, A85, HN⟩ := H.bind; clear H; have H := HN; clear HN
      go_wp2_with fail
      refine (peek_calls hI83 0 c84 A85).mono ?_
      rintro e w86 ⟨rfl, hI86, k86⟩
      have hF86 := hF83.trans k86
      have c086 := hI86.c0
      have c186 := hI86.c1
      have c286 := hI86.c2
      have f86 := hI86.f
      obtain ⟨o89, H1, HC87⟩ := H.bind; clear H
      go_upto_if 56 with fail
      go_cut [] (fun w' => Hd (Rd w' z A c T q82 o89) ∧ Hd (Fr z w0 w'))
      case first =>
        have H := H1; clear H1
        by_cases e88 : (c84 == 13) = true
        · 
          replace H := H.pos e88
          have e88n : (c84 != 13) = false := by simp only [bne, e88, Bool.not_true]
          obtain rfl := H.p1
          go_wp2_with fail
          go_meet
          case rel => exact ⟨⟨(by repeat (first | exact hI86 | apply Rd.setAt | apply Rd.setOpen | apply Rd.drewN | apply Rd.drew | apply Rd.alloc))⟩, ⟨(by repeat (first | exact hF86 | apply Fr.set | apply Fr.drewN | apply Fr.drew | apply Fr.alloc))⟩⟩
        ·
          replace H := H.neg e88
          replace e88 := Bool.eq_false_iff.mpr e88
          have e88n : (c84 != 13) = true := by simp only [bne, e88, Bool.not_false]
          obtain rfl := H.p1
          go_wp2_with fail
          go_meet
          case rel => exact ⟨⟨hI86⟩, ⟨hF86⟩⟩
      case rest =>
        obtain ⟨gI, gF⟩ := hcut
        have hI90 := gI.out; have hF90 := gF.out; clear gI gF
        have c090 := hI90.c0
        have c190 := hI90.c1
        have c290 := hI90.c2
        have f90 := hI90.f
        have H := HC87; clear HC87 H1
        obtain ⟨c91, A92, HN⟩ := H.bind; clear H; have H := HN; clear HN
        go_wp2_with fail
        refine (peek_calls hI90 0 c91 A92).mono ?_
        rintro e w93 ⟨rfl, hI93, k93⟩
        have hF93 := hF90.trans k93
        have c093 := hI93.c0
        have c193 := hI93.c1
        have c293 := hI93.c2
        have f93 := hI93.f
        go_wp2_with fail
        refine (sIsBlank.calls (w := _) c91).mono ?_
        rintro e w' ⟨rfl, rfl⟩
        by_cases e94 : (sIsBlank.f c91) = true
        · 
          replace H := H.pos e94
          go_wp2_with fail
          first | go_end0 | ((try simp only [Exit.inBlock, Exit.then]); refine bodyPost_ret (results_none rfl _ _ _) rfl ?_)
          obtain ⟨rfl, rfl⟩ := H.p2
          exact ⟨(by first | rfl | simp), (by repeat (first | exact hI93 | apply Rd.setAt | apply Rd.setOpen | apply Rd.drewN | apply Rd.drew | apply Rd.alloc)), (by repeat (first | exact hF93 | apply Fr.set | apply Fr.drewN | apply Fr.drew | apply Fr.alloc))⟩
        ·
          replace H := H.neg e94
          replace e94 := Bool.eq_false_iff.mpr e94
          go_wp2_with fail
          first | go_end0 | ((try simp only [Exit.inBlock, Exit.then]); refine bodyPost_ret (results_none rfl _ _ _) rfl ?_)
          obtain ⟨rfl, rfl⟩ := H.p2
          exact ⟨(by first | rfl | simp), hI93, hF93⟩

/-! (*loop.example/pub-g01476/spec.reader).identifies -/
def sidentifies.f (T : List Int) (q : Int) (o : Bool) (a1 : Int) : Option (Bool × Bool) :=
(rpk T q a1).bind fun c95 =>
if (c95 == 45) = true then ((rpk T q (wrap64 (a1 + 1))).bind fun c99 =>
(if (c99 == 45) = true then (some true) else
some o).bind fun o104 =>
((rpk T q (wrap64 (a1 + 1))).bind fun c107 =>
if (sisStart.f c107) = true then (some (true, o104)) else
(sescapes.f T q o104 (wrap64 (a1 + 1))).bind fun (t111, o112) =>
some (t111, o112)).bind fun (b115, o116) =>
some (b115, o116)) else
(if (sisStart.f c95) = true then (some (true, o)) else
(sescapes.f T q o a1).bind fun (t120, o121) =>
some (t120, o121)).bind fun (b124, o125) =>
some (b124, o125)
set_option maxHeartbeats 8000000 in
set_option maxRecDepth 100000 in
theorem sidentifies.calls {w0 : World} {z : Nat} {A : Option Addr} {c : Nat} {T : List Int} {q : Int} {o : Bool} (hI0 : Rd w0 z A c T q o) (a1 : Int) (r0 : Bool) (r1 : Bool) (H : Hd (sidentifies.f T q o a1 = some (r0, r1))) :
    Calls Tryd.prog 25 #[.pointer (some ⟨z, 0, none⟩), .int .i64 a1] w0 fun e w' => e = .returned (.bool r0) ∧ Rd w' z A c T q r1 ∧ Fr z w0 w' := by
  have hF0 := Fr.refl z w0
  have c00 := hI0.c0
  have c10 := hI0.c1
  have c20 := hI0.c2
  have f0 := hI0.f
  unfold sidentifies.f at H
  go_enter Tryd.func25, Tryd.ntmps25
  obtain ⟨c95, A96, HN⟩ := H.bind; clear H; have H := HN; clear HN
  go_wp2_with fail
  refine (peek_calls hI0 a1 c95 A96).mono ?_
  rintro e w97 ⟨rfl, hI97, k97⟩
  have hF97 := hF0.trans k97
  have c097 := hI97.c0
  have c197 := hI97.c1
  have c297 := hI97.c2
  have f97 := hI97.f
  by_cases e98 : (c95 == 45) = true
  · 
    replace H := H.pos e98
    have e98n : (c95 != 45) = false := by simp only [bne, e98, Bool.not_true]
    obtain ⟨c99, A100, HN⟩ := H.bind; clear H; have H := HN; clear HN
    go_wp2_with fail
    refine (peek_calls hI97 (wrap64 (a1 + 1)) c99 A100).mono ?_
    rintro e w101 ⟨rfl, hI101, k101⟩
    have hF101 := hF97.trans k101
    have c0101 := hI101.c0
    have c1101 := hI101.c1
    have c2101 := hI101.c2
    have f101 := hI101.f
    obtain ⟨o104, H1, HC102⟩ := H.bind; clear H
    go_upto_if 15 with fail
    go_cut [] (fun w' => Hd (Rd w' z A c T q o104) ∧ Hd (Fr z w0 w'))
    case first =>
      have H := H1; clear H1
      by_cases e103 : (c99 == 45) = true
      · 
        replace H := H.pos e103
        have e103n : (c99 != 45) = false := by simp only [bne, e103, Bool.not_true]
        obtain rfl := H.p1
        go_wp2_with fail
        go_meet
        case rel => exact ⟨⟨(by repeat (first | exact hI101 | apply Rd.setAt | apply Rd.setOpen | apply Rd.drewN | apply Rd.drew | apply Rd.alloc))⟩, ⟨(by repeat (first | exact hF101 | apply Fr.set | apply Fr.drewN | apply Fr.drew | apply Fr.alloc))⟩⟩
      ·
        replace H := H.neg e103
        replace e103 := Bool.eq_false_iff.mpr e103
        have e103n : (c99 != 45) = true := by simp only [bne, e103, Bool.not_false]
        obtain rfl := H.p1
        go_wp2_with fail
        go_meet
        case rel => exact ⟨⟨hI101⟩, ⟨hF101⟩⟩
    case rest =>
      obtain ⟨gI, gF⟩ := hcut
      have hI105 := gI.out; have hF105 := gF.out; clear gI gF
      have c0105 := hI105.c0
      have c1105 := hI105.c1
      have c2105 := hI105.c2
      have f105 := hI105.f
      have H := HC102; clear HC102 H1
      obtain ⟨⟨b115, o116⟩, H1, HC106⟩ := H.bind; clear H
      try dsimp only at HC106
      go_upto_region 5 with fail
      go_cut [4] (fun v4 w' => v4 = .bool b115 ∧ Hd (Rd w' z A c T q o116) ∧ Hd (Fr z w0 w'))
      case first =>
        have H := H1; clear H1
        obtain ⟨c107, A108, HN⟩ := H.bind; clear H; have H := HN; clear HN
        go_wp2_with fail
        refine (peek_calls hI105 (wrap64 (a1 + 1)) c107 A108).mono ?_
        rintro e w109 ⟨rfl, hI109, k109⟩
        have hF109 := hF105.trans k109
        have c0109 := hI109.c0
        have c1109 := hI109.c1
        have c2109 := hI109.c2
        have f109 := hI109.f
        go_wp2_with fail
        refine (sisStart.calls (w := _) c107).mono ?_
        rintro e w' ⟨rfl, rfl⟩
        by_cases e110 : (sisStart.f c107) = true
        · 
          replace H := H.pos e110
          obtain ⟨rfl, rfl⟩ := H.p2
          go_wp2_with fail
          go_meet
          case rel => exact ⟨(by first | rfl | simp), ⟨hI109⟩, ⟨hF109⟩⟩
        ·
          replace H := H.neg e110
          replace e110 := Bool.eq_false_iff.mpr e110
          obtain ⟨⟨t111, o112⟩, A113, HN⟩ := H.bind; clear H; have H := HN; clear HN
          try dsimp only at H
          go_wp2_with fail
          refine (sescapes.calls hI109 (wrap64 (a1 + 1)) t111 o112 A113).mono ?_
          rintro e w114 ⟨rfl, hI114, k114⟩
          have hF114 := hF109.trans k114
          have c0114 := hI114.c0
          have c1114 := hI114.c1
          have c2114 := hI114.c2
          have f114 := hI114.f
          obtain ⟨rfl, rfl⟩ := H.p2
          go_wp2_with fail
          go_meet
          case rel => exact ⟨(by first | rfl | simp), ⟨hI114⟩, ⟨hF114⟩⟩
      case rest =>
        obtain ⟨rfl, gI, gF⟩ := hcut
        have hI117 := gI.out; have hF117 := gF.out; clear gI gF
        have c0117 := hI117.c0
        have c1117 := hI117.c1
        have c2117 := hI117.c2
        have f117 := hI117.f
        have H := HC106; clear HC106 H1
        go_wp2_with fail
        go_ret
        obtain ⟨rfl, rfl⟩ := H.p2
        exact ⟨(by first | rfl | simp), hI117, hF117⟩
  ·
    replace H := H.neg e98
    replace e98 := Bool.eq_false_iff.mpr e98
    have e98n : (c95 != 45) = true := by simp only [bne, e98, Bool.not_false]
    obtain ⟨⟨b124, o125⟩, H1, HC118⟩ := H.bind; clear H
    try dsimp only at HC118
    go_upto_region 6 with fail
    go_cut [4] (fun v4 w' => v4 = .bool b124 ∧ Hd (Rd w' z A c T q o125) ∧ Hd (Fr z w0 w'))
    case first =>
      have H := H1; clear H1
      go_wp2_with fail
      refine (sisStart.calls (w := _) c95).mono ?_
      rintro e w' ⟨rfl, rfl⟩
      by_cases e119 : (sisStart.f c95) = true
      · 
        replace H := H.pos e119
        obtain ⟨rfl, rfl⟩ := H.p2
        go_wp2_with fail
        go_meet
        case rel => exact ⟨(by first | rfl | simp), ⟨hI97⟩, ⟨hF97⟩⟩
      ·
        replace H := H.neg e119
        replace e119 := Bool.eq_false_iff.mpr e119
        obtain ⟨⟨t120, o121⟩, A122, HN⟩ := H.bind; clear H; have H := HN; clear HN
        try dsimp only at H
        go_wp2_with fail
        refine (sescapes.calls hI97 a1 t120 o121 A122).mono ?_
        rintro e w123 ⟨rfl, hI123, k123⟩
        have hF123 := hF97.trans k123
        have c0123 := hI123.c0
        have c1123 := hI123.c1
        have c2123 := hI123.c2
        have f123 := hI123.f
        obtain ⟨rfl, rfl⟩ := H.p2
        go_wp2_with fail
        go_meet
        case rel => exact ⟨(by first | rfl | simp), ⟨hI123⟩, ⟨hF123⟩⟩
    case rest =>
      obtain ⟨rfl, gI, gF⟩ := hcut
      have hI126 := gI.out; have hF126 := gF.out; clear gI gF
      have c0126 := hI126.c0
      have c1126 := hI126.c1
      have c2126 := hI126.c2
      have f126 := hI126.f
      have H := HC118; clear HC118 H1
      go_wp2_with fail
      go_ret
      obtain ⟨rfl, rfl⟩ := H.p2
      exact ⟨(by first | rfl | simp), hI126, hF126⟩

/-! (*loop.example/pub-g01476/spec.reader).name -/
def sname.l0 (K : Nat) (T : List Int) : Nat → Int → Bool → Option (Int × Bool)
  | 0, _, _ => none
  | k + 1, q128, o129 =>
    if (rover T q128) = true then (some (q128, o129)) else
    (rpk T q128 0).bind fun c133 =>
    if (sisNameByte.f c133) = true then (sname.l0 K T k (wrap64 (q128 + 1)) o129) else
    (sescapes.f T q128 o129 0).bind fun (t137, o138) =>
    if t137 = true then ((sescape.f K T q128 o138).bind fun (q141, o142) =>
    sname.l0 K T k q141 o142) else
    some (q128, o138)
def sname.f (K : Nat) (T : List Int) (q : Int) (o : Bool) : Option (Int × Bool) :=
sname.l0 K T K q o
set_option maxHeartbeats 8000000 in
set_option maxRecDepth 100000 in
theorem sname.calls (K : Nat) {w0 : World} {z : Nat} {A : Option Addr} {c : Nat} {T : List Int} {q : Int} {o : Bool} (hI0 : Rd w0 z A c T q o) (r0 : Int) (r1 : Bool) (H : Hd (sname.f K T q o = some (r0, r1))) :
    Calls Tryd.prog 26 #[.pointer (some ⟨z, 0, none⟩)] w0 fun e w' => e = .returned (.tuple #[]) ∧ Rd w' z A c T r0 r1 ∧ Fr z w0 w' := by
  have hF0 := Fr.refl z w0
  have c00 := hI0.c0
  have c10 := hI0.c1
  have c20 := hI0.c2
  have f0 := hI0.f
  unfold sname.f at H
  go_enter Tryd.func26, Tryd.ntmps26
  have H1 := H; clear H
  go_wp2_with fail
  go_loopg [] K (fun gk w' => ∃ (q128 : Int), ∃ (o129 : Bool), Hd (sname.l0 K T gk q128 o129 = some (r0, r1)) ∧ Hd (Rd w' z A c T q128 o129) ∧ Hd (Fr z w0 w'))
  case atStart => exact ⟨q, o, H1, ⟨hI0⟩, ⟨hF0⟩⟩
  case round =>
    clear H1
    obtain ⟨q128, o129, H, gI, gF⟩ := hrel
    have hI130 := gI.out; have hF130 := gF.out; clear gI gF
    have c0130 := hI130.c0
    have c1130 := hI130.c1
    have c2130 := hI130.c2
    have f130 := hI130.f
    cases gk with
    | zero => exact absurd H.out (by simp [sname.l0])
    | succ k =>
      simp only [sname.l0] at H
      go_wp2_with fail
      refine (over_calls hI130).mono ?_
      rintro e w131 ⟨rfl, hI131, k131⟩
      have hF131 := hF130.trans k131
      have c0131 := hI131.c0
      have c1131 := hI131.c1
      have c2131 := hI131.c2
      have f131 := hI131.f
      by_cases e132 : (rover T q128) = true
      · 
        replace H := H.pos e132
        go_wp2_with fail
        first | go_end0 | ((try simp only [Exit.inBlock, Exit.then]); refine bodyPost_ret (results_none rfl _ _ _) rfl ?_)
        obtain ⟨rfl, rfl⟩ := H.p2
        exact ⟨(by first | rfl | simp), hI131, hF131⟩
      ·
        replace H := H.neg e132
        replace e132 := Bool.eq_false_iff.mpr e132
        obtain ⟨c133, A134, HN⟩ := H.bind; clear H; have H := HN; clear HN
        go_wp2_with fail
        refine (peek_calls hI131 0 c133 A134).mono ?_
        rintro e w135 ⟨rfl, hI135, k135⟩
        have hF135 := hF131.trans k135
        have c0135 := hI135.c0
        have c1135 := hI135.c1
        have c2135 := hI135.c2
        have f135 := hI135.f
        go_wp2_with fail
        refine (sisNameByte.calls (w := _) c133).mono ?_
        rintro e w' ⟨rfl, rfl⟩
        by_cases e136 : (sisNameByte.f c133) = true
        · 
          replace H := H.pos e136
          go_wp2_with fail
          go_roundg k
          case measure => exact Nat.lt_succ_self _
          case rel => exact ⟨wrap64 (q128 + 1), o129, H, ⟨(by repeat (first | exact hI135 | apply Rd.setAt | apply Rd.setOpen | apply Rd.drewN | apply Rd.drew | apply Rd.alloc))⟩, ⟨(by repeat (first | exact hF135 | apply Fr.set | apply Fr.drewN | apply Fr.drew | apply Fr.alloc))⟩⟩
        ·
          replace H := H.neg e136
          replace e136 := Bool.eq_false_iff.mpr e136
          obtain ⟨⟨t137, o138⟩, A139, HN⟩ := H.bind; clear H; have H := HN; clear HN
          try dsimp only at H
          go_wp2_with fail
          refine (sescapes.calls hI135 0 t137 o138 A139).mono ?_
          rintro e w140 ⟨rfl, hI140, k140⟩
          have hF140 := hF135.trans k140
          have c0140 := hI140.c0
          have c1140 := hI140.c1
          have c2140 := hI140.c2
          have f140 := hI140.f
          cases t137 with
          | true =>
            replace H := H.tt
            obtain ⟨⟨q141, o142⟩, A143, HN⟩ := H.bind; clear H; have H := HN; clear HN
            try dsimp only at H
            go_wp2_with fail
            refine (sescape.calls K hI140  q141 o142 A143).mono ?_
            rintro e w144 ⟨rfl, hI144, k144⟩
            have hF144 := hF140.trans k144
            have c0144 := hI144.c0
            have c1144 := hI144.c1
            have c2144 := hI144.c2
            have f144 := hI144.f
            go_wp2_with fail
            go_roundg k
            case measure => exact Nat.lt_succ_self _
            case rel => exact ⟨q141, o142, H, ⟨hI144⟩, ⟨hF144⟩⟩
          | false =>
            replace H := H.ff
            go_wp2_with fail
            first | go_end0 | ((try simp only [Exit.inBlock, Exit.then]); refine bodyPost_ret (results_none rfl _ _ _) rfl ?_)
            obtain ⟨rfl, rfl⟩ := H.p2
            exact ⟨(by first | rfl | simp), hI140, hF140⟩
end Go.Proofs.YteonakpgenkhkaaDoor
