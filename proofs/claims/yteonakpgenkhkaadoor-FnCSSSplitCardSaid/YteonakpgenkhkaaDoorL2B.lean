import Derived.Test.YteonakpgenkhkaaDoorL2
namespace Go.Proofs.YteonakpgenkhkaaDoor
open Go.RowKit
set_option linter.unusedVariables false
set_option linter.unusedSimpArgs false

/-! (*loop.example/pub-g01476/pub/tdcss.Lexer).consumeComment -/
def consumeComment.l0 (K : Nat) (B : List Int) : Nat → Int → Option ((Bool × Int) ⊕ (Int))
  | 0, _ => none
  | k + 1, p180 =>
    (pk B p180 0).bind fun c182 =>
    if ((c182 == 0) && (atEnd B p180 0)) = true then (some (.inr p180)) else
    (if (c182 == 42) = true then ((pk B p180 1).bind fun c193 =>
    some (c193 == 47)) else
    some false).bind fun b195 =>
    if b195 = true then (some (.inl (true, mv p180 2))) else
    consumeComment.l0 K B k (mv p180 1)
def consumeComment.f (K : Nat) (B : List Int) (p : Int) (s : Int) : Option (Bool × Int) :=
((pk B p 0).bind fun c172 =>
if (c172 == 47) = true then ((pk B p 1).bind fun c175 =>
some (!(c175 == 42))) else
some true).bind fun b177 =>
if b177 = true then (some (false, p)) else
(consumeComment.l0 K B K (mv p 2)).bind fun o => joinS o (fun x => some x) fun p198 =>
some (true, p198)
set_option maxHeartbeats 8000000 in
set_option maxRecDepth 100000 in
theorem consumeComment.calls (K : Nat) {w0 : World} {l z b : Nat} {B : List Int} {ET : TypeId} {EA : Addr} {p s : Int} (hI0 : Lx w0 l z b B ET EA p s) (r0 : Bool) (r1 : Int) (H : Hd (consumeComment.f K B p s = some (r0, r1))) :
    Calls Tryd.prog 67 #[.pointer (some ⟨l, 0, none⟩)] w0 fun e w' => e = .returned (.bool r0) ∧ Lx w' l z b B ET EA r1 s ∧ Fr z w0 w' := by
  have hF0 := Fr.refl z w0
  have hl0 := hI0.cl
  unfold consumeComment.f at H
  go_enter Tryd.func67, Tryd.ntmps67
  obtain ⟨b177, H1, HC171⟩ := H.bind; clear H
  go_upto_region 1 with fail
  go_cut [17] (fun v17 w' => v17 = .bool b177 ∧ w0 = w')
  case first =>
    have H := H1; clear H1
    obtain ⟨c172, A173, HN⟩ := H.bind; clear H; have H := HN; clear HN
    go_wp2_with fail
    refine (Peek_calls hI0 0 c172 A173).mono ?_
    rintro e w' ⟨rfl, rfl⟩
    by_cases e174 : (c172 == 47) = true
    · 
      replace H := H.pos e174
      have e174n : (c172 != 47) = false := by simp only [bne, e174, Bool.not_true]
      obtain ⟨c175, A176, HN⟩ := H.bind; clear H; have H := HN; clear HN
      go_wp2_with fail
      refine (Peek_calls hI0 1 c175 A176).mono ?_
      rintro e w' ⟨rfl, rfl⟩
      obtain rfl := H.p1
      go_wp2_with fail
      go_meet
      case rel => exact ⟨(by first | rfl | simp), rfl⟩
    ·
      replace H := H.neg e174
      replace e174 := Bool.eq_false_iff.mpr e174
      have e174n : (c172 != 47) = true := by simp only [bne, e174, Bool.not_false]
      obtain rfl := H.p1
      go_wp2_with fail
      go_meet
      case rel => exact ⟨(by first | rfl | simp), rfl⟩
  case rest =>
    obtain ⟨rfl, rfl⟩ := hcut
    have H := HC171; clear HC171 H1
    cases b177 with
    | true =>
      replace H := H.tt
      go_wp2_with fail
      go_ret
      obtain ⟨rfl, rfl⟩ := H.p2
      exact ⟨(by first | rfl | simp), hI0, hF0⟩
    | false =>
      replace H := H.ff
      go_wp2_with fail
      refine (Move_calls hI0 2).mono ?_
      rintro e w178 ⟨rfl, hI178, k178⟩
      have hF178 := hF0.trans k178
      have hl178 := hI178.cl
      obtain ⟨o179, H1, HC179⟩ := H.bind; clear H
      go_upto_block 0 with fail
      go_cut [] (fun w' => ∃ (p198 : Int), Hd (o179 = .inr p198) ∧ Hd (Lx w' l z b B ET EA p198 s) ∧ Hd (Fr z w0 w'))
      case first =>
        go_wp2_with fail
        go_loopg [] K (fun gk w' => ∃ (p180 : Int), Hd (consumeComment.l0 K B gk p180 = some o179) ∧ Hd (Lx w' l z b B ET EA p180 s) ∧ Hd (Fr z w0 w'))
        case atStart => exact ⟨mv p 2, H1, ⟨hI178⟩, ⟨hF178⟩⟩
        case round =>
          clear H1
          obtain ⟨p180, H, gI, gF⟩ := hrel
          have hI181 := gI.out; have hF181 := gF.out; clear gI gF
          have hl181 := hI181.cl
          cases gk with
          | zero => exact absurd H.out (by simp [consumeComment.l0])
          | succ k =>
            simp only [consumeComment.l0] at H
            obtain ⟨c182, A183, HN⟩ := H.bind; clear H; have H := HN; clear HN
            go_wp2_with fail
            refine (Peek_calls hI181 0 c182 A183).mono ?_
            rintro e w' ⟨rfl, rfl⟩
            generalize hb184 : ((c182 == 0) && (atEnd B p180 0)) = b189 at H
            have HB184 := Hd.mk hb184; clear hb184
            go_upto_region 5 with fail
            go_cut [37] (fun v37 w' => v37 = .bool b189 ∧ Hd (Lx w' l z b B ET EA p180 s) ∧ Hd (Fr z w0 w'))
            case first =>
              clear H
              by_cases e185 : (c182 == 0) = true
              · 
                have e185n : (c182 != 0) = false := by simp only [bne, e185, Bool.not_true]
                by_cases e186 : (atEnd B p180 0) = true
                · 
                  go_wp2_with fail
                  refine (Err_end hI181 e186).mono ?_
                  rintro e w187 ⟨rfl, hI187, k187⟩
                  have hF187 := hF181.trans k187
                  have hl187 := hI187.cl
                  go_wp2_with fail
                  go_meet
                  case rel => exact ⟨by rw [← HB184.out, e185, e186]; first | rfl | simp, ⟨hI187⟩, ⟨hF187⟩⟩
                ·
                  replace e186 := Bool.eq_false_iff.mpr e186
                  go_wp2_with fail
                  refine (Err_not hI181 e186).mono ?_
                  rintro e w188 ⟨rfl, hI188, k188⟩
                  have hF188 := hF181.trans k188
                  have hl188 := hI188.cl
                  go_wp2_with fail
                  go_meet
                  case rel => exact ⟨by rw [← HB184.out, e185, e186]; first | rfl | simp, ⟨hI188⟩, ⟨hF188⟩⟩
              ·
                replace e185 := Bool.eq_false_iff.mpr e185
                have e185n : (c182 != 0) = true := by simp only [bne, e185, Bool.not_false]
                go_wp2_with fail
                go_meet
                case rel => exact ⟨by rw [← HB184.out, e185]; first | rfl | simp, ⟨hI181⟩, ⟨hF181⟩⟩
            case rest =>
              obtain ⟨rfl, gI, gF⟩ := hcut
              have hI190 := gI.out; have hF190 := gF.out; clear gI gF
              have hl190 := hI190.cl
              cases b189 with
              | true =>
                replace H := H.tt
                obtain rfl := H.p1
                go_wp2_with fail
                go_meet
                case rel => exact ⟨p180, ⟨rfl⟩, ⟨hI190⟩, ⟨hF190⟩⟩
              | false =>
                replace H := H.ff
                obtain ⟨b195, H1, HC191⟩ := H.bind; clear H
                go_upto_region 6 with fail
                go_cut [47] (fun v47 w' => v47 = .bool b195 ∧ wc = w')
                case first =>
                  have H := H1; clear H1
                  by_cases e192 : (c182 == 42) = true
                  · 
                    replace H := H.pos e192
                    have e192n : (c182 != 42) = false := by simp only [bne, e192, Bool.not_true]
                    obtain ⟨c193, A194, HN⟩ := H.bind; clear H; have H := HN; clear HN
                    go_wp2_with fail
                    refine (Peek_calls hI190 1 c193 A194).mono ?_
                    rintro e w' ⟨rfl, rfl⟩
                    obtain rfl := H.p1
                    go_wp2_with fail
                    go_meet
                    case rel => exact ⟨(by first | rfl | simp), rfl⟩
                  ·
                    replace H := H.neg e192
                    replace e192 := Bool.eq_false_iff.mpr e192
                    have e192n : (c182 != 42) = true := by simp only [bne, e192, Bool.not_false]
                    obtain rfl := H.p1
                    go_wp2_with fail
                    go_meet
                    case rel => exact ⟨(by first | rfl | simp), rfl⟩
                case rest =>
                  obtain ⟨rfl, rfl⟩ := hcut
                  have H := HC191; clear HC191 H1
                  cases b195 with
                  | true =>
                    replace H := H.tt
                    go_wp2_with fail
                    refine (Move_calls hI190 2).mono ?_
                    rintro e w196 ⟨rfl, hI196, k196⟩
                    have hF196 := hF190.trans k196
                    have hl196 := hI196.cl
                    obtain rfl := H.p1; clear H
                    have H := HC179.inlS; clear HC179
                    go_wp2_with fail
                    go_ret
                    obtain ⟨rfl, rfl⟩ := H.p2
                    exact ⟨(by first | rfl | simp), hI196, hF196⟩
                  | false =>
                    replace H := H.ff
                    go_wp2_with fail
                    refine (Move_calls hI190 1).mono ?_
                    rintro e w197 ⟨rfl, hI197, k197⟩
                    have hF197 := hF190.trans k197
                    have hl197 := hI197.cl
                    go_wp2_with fail
                    go_roundg k
                    case measure => exact Nat.lt_succ_self _
                    case rel => exact ⟨mv p180 1, H, ⟨hI197⟩, ⟨hF197⟩⟩
      case rest =>
        obtain ⟨p198, ho, gI, gF⟩ := hcut
        have hI199 := gI.out; have hF199 := gF.out; clear gI gF
        have hl199 := hI199.cl
        have ho := ho.out; subst ho; have H := HC179.inrS; clear HC179 H1
        go_wp2_with fail
        go_ret
        obtain ⟨rfl, rfl⟩ := H.p2
        exact ⟨(by first | rfl | simp), hI199, hF199⟩

/-! (*loop.example/pub-g01476/pub/tdcss.Lexer).consumeCustomVariableToken -/
def consumeCustomVariableToken.f (K : Nat) (B : List Int) (p : Int) (s : Int) : Option (Bool × Int) :=
(pk B p 1).bind fun c200 =>
if (c200 == 45) = true then ((consumeIdentToken.f K B p s).bind fun (t203, p204) =>
if t203 = true then (some (true, p204)) else
some (false, p204)) else
some (false, p)
set_option maxHeartbeats 8000000 in
set_option maxRecDepth 100000 in
theorem consumeCustomVariableToken.calls (K : Nat) {w0 : World} {l z b : Nat} {B : List Int} {ET : TypeId} {EA : Addr} {p s : Int} (hI0 : Lx w0 l z b B ET EA p s) (r0 : Bool) (r1 : Int) (H : Hd (consumeCustomVariableToken.f K B p s = some (r0, r1))) :
    Calls Tryd.prog 63 #[.pointer (some ⟨l, 0, none⟩)] w0 fun e w' => e = .returned (.bool r0) ∧ Lx w' l z b B ET EA r1 s ∧ Fr z w0 w' := by
  have hF0 := Fr.refl z w0
  have hl0 := hI0.cl
  unfold consumeCustomVariableToken.f at H
  go_enter Tryd.func63, Tryd.ntmps63
  obtain ⟨c200, A201, HN⟩ := H.bind; clear H; have H := HN; clear HN
  go_wp2_with fail
  refine (Peek_calls hI0 1 c200 A201).mono ?_
  rintro e w' ⟨rfl, rfl⟩
  by_cases e202 : (c200 == 45) = true
  · 
    replace H := H.pos e202
    have e202n : (c200 != 45) = false := by simp only [bne, e202, Bool.not_true]
    obtain ⟨⟨t203, p204⟩, A205, HN⟩ := H.bind; clear H; have H := HN; clear HN
    try dsimp only at H
    go_wp2_with fail
    refine (consumeIdentToken.calls K hI0  t203 p204 A205).mono ?_
    rintro e w206 ⟨rfl, hI206, k206⟩
    have hF206 := hF0.trans k206
    have hl206 := hI206.cl
    cases t203 with
    | true =>
      replace H := H.tt
      go_wp2_with fail
      go_ret
      obtain ⟨rfl, rfl⟩ := H.p2
      exact ⟨(by first | rfl | simp), hI206, hF206⟩
    | false =>
      replace H := H.ff
      go_wp2_with fail
      go_ret
      obtain ⟨rfl, rfl⟩ := H.p2
      exact ⟨(by first | rfl | simp), hI206, hF206⟩
  ·
    replace H := H.neg e202
    replace e202 := Bool.eq_false_iff.mpr e202
    have e202n : (c200 != 45) = true := by simp only [bne, e202, Bool.not_false]
    go_wp2_with fail
    go_ret
    obtain ⟨rfl, rfl⟩ := H.p2
    exact ⟨(by first | rfl | simp), hI0, hF0⟩

/-! (*loop.example/pub-g01476/pub/tdcss.Lexer).consumeAtKeywordToken -/
def consumeAtKeywordToken.f (K : Nat) (B : List Int) (p : Int) (s : Int) : Option (Bool × Int) :=
(consumeIdentToken.f K B (mv p 1) s).bind fun (t208, p209) =>
if t208 = true then (some (true, p209)) else
some (false, mv p209 (-1))
set_option maxHeartbeats 8000000 in
set_option maxRecDepth 100000 in
theorem consumeAtKeywordToken.calls (K : Nat) {w0 : World} {l z b : Nat} {B : List Int} {ET : TypeId} {EA : Addr} {p s : Int} (hI0 : Lx w0 l z b B ET EA p s) (r0 : Bool) (r1 : Int) (H : Hd (consumeAtKeywordToken.f K B p s = some (r0, r1))) :
    Calls Tryd.prog 65 #[.pointer (some ⟨l, 0, none⟩)] w0 fun e w' => e = .returned (.bool r0) ∧ Lx w' l z b B ET EA r1 s ∧ Fr z w0 w' := by
  have hF0 := Fr.refl z w0
  have hl0 := hI0.cl
  unfold consumeAtKeywordToken.f at H
  go_enter Tryd.func65, Tryd.ntmps65
  go_wp2_with fail
  refine (Move_calls hI0 1).mono ?_
  rintro e w207 ⟨rfl, hI207, k207⟩
  have hF207 := hF0.trans k207
  have hl207 := hI207.cl
  obtain ⟨⟨t208, p209⟩, A210, HN⟩ := H.bind; clear H; have H := HN; clear HN
  try dsimp only at H
  go_wp2_with fail
  refine (consumeIdentToken.calls K hI207  t208 p209 A210).mono ?_
  rintro e w211 ⟨rfl, hI211, k211⟩
  have hF211 := hF207.trans k211
  have hl211 := hI211.cl
  cases t208 with
  | true =>
    replace H := H.tt
    go_wp2_with fail
    go_ret
    obtain ⟨rfl, rfl⟩ := H.p2
    exact ⟨(by first | rfl | simp), hI211, hF211⟩
  | false =>
    replace H := H.ff
    go_wp2_with fail
    refine (Move_calls hI211 (-1)).mono ?_
    rintro e w212 ⟨rfl, hI212, k212⟩
    have hF212 := hF211.trans k212
    have hl212 := hI212.cl
    go_wp2_with fail
    go_ret
    obtain ⟨rfl, rfl⟩ := H.p2
    exact ⟨(by first | rfl | simp), hI212, hF212⟩

/-! (*loop.example/pub-g01476/pub/tdcss.Lexer).consumeHashToken -/
def consumeHashToken.l0 (K : Nat) (B : List Int) (s : Int) : Nat → Int → Option (Int)
  | 0, _ => none
  | k + 1, p254 =>
    (pk B p254 0).bind fun c256 =>
    if (!(((((((decide (97 ≤ c256)) && (decide (c256 ≤ 122))) || ((decide (65 ≤ c256)) && (decide (c256 ≤ 90)))) || ((decide (48 ≤ c256)) && (decide (c256 ≤ 57)))) || (c256 == 95)) || (c256 == 45)) || (decide (128 ≤ c256)))) = true then ((if (c256 == 92) = true then ((consumeEscape.f K B p254 s).bind fun (t282, p283) =>
    some (!t282, p283)) else
    some (true, p254)).bind fun (b286, p287) =>
    if b286 = true then (some p287) else
    consumeHashToken.l0 K B s k p287) else
    consumeHashToken.l0 K B s k (mv p254 1)
def consumeHashToken.f (K : Nat) (B : List Int) (p : Int) (s : Int) : Option (Bool × Int) :=
(pk B (mv p 1) 0).bind fun c215 =>
(if (!(((((((decide (97 ≤ c215)) && (decide (c215 ≤ 122))) || ((decide (65 ≤ c215)) && (decide (c215 ≤ 90)))) || ((decide (48 ≤ c215)) && (decide (c215 ≤ 57)))) || (c215 == 95)) || (c215 == 45)) || (decide (128 ≤ c215)))) = true then ((if (c215 == 92) = true then ((consumeEscape.f K B (mv p 1) s).bind fun (t242, p243) =>
some (!t242, p243)) else
some (true, mv p 1)).bind fun (b246, p247) =>
if b246 = true then (outS (some (false, rwd s (ps p s)))) else
some (.inr p247)) else
some (.inr (mv (mv p 1) 1))).bind fun o => joinS o some fun p251 =>
(consumeHashToken.l0 K B s K p251).bind fun p290 =>
some (true, p290)
set_option maxHeartbeats 8000000 in
set_option maxRecDepth 100000 in
theorem consumeHashToken.calls (K : Nat) {w0 : World} {l z b : Nat} {B : List Int} {ET : TypeId} {EA : Addr} {p s : Int} (hI0 : Lx w0 l z b B ET EA p s) (r0 : Bool) (r1 : Int) (H : Hd (consumeHashToken.f K B p s = some (r0, r1))) :
    Calls Tryd.prog 59 #[.pointer (some ⟨l, 0, none⟩)] w0 fun e w' => e = .returned (.bool r0) ∧ Lx w' l z b B ET EA r1 s ∧ Fr z w0 w' := by
  have hF0 := Fr.refl z w0
  have hl0 := hI0.cl
  unfold consumeHashToken.f at H
  go_enter Tryd.func59, Tryd.ntmps59
  go_wp2_with fail
  refine (Pos_calls hI0).mono ?_
  rintro e w213 ⟨rfl, hI213, k213⟩
  have hF213 := hF0.trans k213
  have hl213 := hI213.cl
  go_wp2_with fail
  refine (Move_calls hI213 1).mono ?_
  rintro e w214 ⟨rfl, hI214, k214⟩
  have hF214 := hF213.trans k214
  have hl214 := hI214.cl
  obtain ⟨c215, A216, HN⟩ := H.bind; clear H; have H := HN; clear HN
  go_wp2_with fail
  refine (Peek_calls hI214 0 c215 A216).mono ?_
  rintro e w' ⟨rfl, rfl⟩
  generalize hb217 : (!(((((((decide (97 ≤ c215)) && (decide (c215 ≤ 122))) || ((decide (65 ≤ c215)) && (decide (c215 ≤ 90)))) || ((decide (48 ≤ c215)) && (decide (c215 ≤ 57)))) || (c215 == 95)) || (c215 == 45)) || (decide (128 ≤ c215)))) = b238 at H
  have HB217 := Hd.mk hb217; clear hb217
  go_upto_region 4 with fail
  go_cut [55] (fun v55 w' => v55 = .bool b238 ∧ w214 = w')
  case first =>
    clear H
    by_cases e218 : (decide (97 ≤ c215)) = true
    · 
      by_cases e219 : (decide (c215 ≤ 122)) = true
      · 
        go_wp2_with fail
        go_meet
        case rel => exact ⟨by rw [← HB217.out, e218, e219]; first | rfl | simp, rfl⟩
      ·
        replace e219 := Bool.eq_false_iff.mpr e219
        have e220 : (decide (65 ≤ c215)) = true := decide_eq_true (by have := of_decide_eq_false e219; omega)
        have e221 : (decide (c215 ≤ 90)) = false := decide_eq_false (by have := of_decide_eq_false e219; omega)
        have e222 : (decide (48 ≤ c215)) = true := decide_eq_true (by have := of_decide_eq_false e219; omega)
        have e223 : (decide (c215 ≤ 57)) = false := decide_eq_false (by have := of_decide_eq_false e219; omega)
        have e224 : (c215 == 95) = false := beq_eq_false_iff_ne.mpr (by have := of_decide_eq_false e219; omega)
        have e224n : (c215 != 95) = true := by simp only [bne, e224, Bool.not_false]
        have e225 : (c215 == 45) = false := beq_eq_false_iff_ne.mpr (by have := of_decide_eq_false e219; omega)
        have e225n : (c215 != 45) = true := by simp only [bne, e225, Bool.not_false]
        go_wp2_with fail
        go_meet
        case rel => exact ⟨by rw [← HB217.out, e218, e219, e220, e221, e222, e223, e224, e225]; first | rfl | simp, rfl⟩
    ·
      replace e218 := Bool.eq_false_iff.mpr e218
      by_cases e226 : (decide (65 ≤ c215)) = true
      · 
        by_cases e227 : (decide (c215 ≤ 90)) = true
        · 
          go_wp2_with fail
          go_meet
          case rel => exact ⟨by rw [← HB217.out, e218, e226, e227]; first | rfl | simp, rfl⟩
        ·
          replace e227 := Bool.eq_false_iff.mpr e227
          have e228 : (decide (48 ≤ c215)) = true := decide_eq_true (by have := of_decide_eq_false e227; omega)
          have e229 : (decide (c215 ≤ 57)) = false := decide_eq_false (by have := of_decide_eq_false e227; omega)
          by_cases e230 : (c215 == 95) = true
          · 
            have e230n : (c215 != 95) = false := by simp only [bne, e230, Bool.not_true]
            go_wp2_with fail
            go_meet
            case rel => exact ⟨by rw [← HB217.out, e218, e226, e227, e228, e229, e230]; first | rfl | simp, rfl⟩
          ·
            replace e230 := Bool.eq_false_iff.mpr e230
            have e230n : (c215 != 95) = true := by simp only [bne, e230, Bool.not_false]
            have e231 : (c215 == 45) = false := beq_eq_false_iff_ne.mpr (by have := of_decide_eq_false e227; omega)
            have e231n : (c215 != 45) = true := by simp only [bne, e231, Bool.not_false]
            go_wp2_with fail
            go_meet
            case rel => exact ⟨by rw [← HB217.out, e218, e226, e227, e228, e229, e230, e231]; first | rfl | simp, rfl⟩
      ·
        replace e226 := Bool.eq_false_iff.mpr e226
        by_cases e232 : (decide (48 ≤ c215)) = true
        · 
          by_cases e233 : (decide (c215 ≤ 57)) = true
          · 
            go_wp2_with fail
            go_meet
            case rel => exact ⟨by rw [← HB217.out, e218, e226, e232, e233]; first | rfl | simp, rfl⟩
          ·
            replace e233 := Bool.eq_false_iff.mpr e233
            have e234 : (c215 == 95) = false := beq_eq_false_iff_ne.mpr (by have := of_decide_eq_false e226; omega)
            have e234n : (c215 != 95) = true := by simp only [bne, e234, Bool.not_false]
            have e235 : (c215 == 45) = false := beq_eq_false_iff_ne.mpr (by have := of_decide_eq_false e233; omega)
            have e235n : (c215 != 45) = true := by simp only [bne, e235, Bool.not_false]
            go_wp2_with fail
            go_meet
            case rel => exact ⟨by rw [← HB217.out, e218, e226, e232, e233, e234, e235]; first | rfl | simp, rfl⟩
        ·
          replace e232 := Bool.eq_false_iff.mpr e232
          have e236 : (c215 == 95) = false := beq_eq_false_iff_ne.mpr (by have := of_decide_eq_false e232; omega)
          have e236n : (c215 != 95) = true := by simp only [bne, e236, Bool.not_false]
          by_cases e237 : (c215 == 45) = true
          · 
            have e237n : (c215 != 45) = false := by simp only [bne, e237, Bool.not_true]
            go_wp2_with fail
            go_meet
            case rel => exact ⟨by rw [← HB217.out, e218, e226, e232, e236, e237]; first | rfl | simp, rfl⟩
          ·
            replace e237 := Bool.eq_false_iff.mpr e237
            have e237n : (c215 != 45) = true := by simp only [bne, e237, Bool.not_false]
            go_wp2_with fail
            go_meet
            case rel => exact ⟨by rw [← HB217.out, e218, e226, e232, e236, e237]; first | rfl | simp, rfl⟩
  case rest =>
    obtain ⟨rfl, rfl⟩ := hcut
    obtain ⟨o239, H1, HC239⟩ := H.bind; clear H
    go_upto_if 55 with fail
    go_cut [] (fun w' => ∃ (p251 : Int), Hd (o239 = .inr p251) ∧ Hd (Lx w' l z b B ET EA p251 s) ∧ Hd (Fr z w0 w'))
    case first =>
      have H := H1; clear H1
      cases b238 with
      | true =>
        replace H := H.tt
        obtain ⟨⟨b246, p247⟩, H1, HC240⟩ := H.bind; clear H
        try dsimp only at HC240
        go_upto_region 5 with fail
        go_cut [62] (fun v62 w' => v62 = .bool b246 ∧ Hd (Lx w' l z b B ET EA p247 s) ∧ Hd (Fr z w0 w'))
        case first =>
          have H := H1; clear H1
          by_cases e241 : (c215 == 92) = true
          · 
            replace H := H.pos e241
            have e241n : (c215 != 92) = false := by simp only [bne, e241, Bool.not_true]
            obtain ⟨⟨t242, p243⟩, A244, HN⟩ := H.bind; clear H; have H := HN; clear HN
            try dsimp only at H
            go_wp2_with fail
            refine (consumeEscape.calls K hI214  t242 p243 A244).mono ?_
            rintro e w245 ⟨rfl, hI245, k245⟩
            have hF245 := hF214.trans k245
            have hl245 := hI245.cl
            obtain ⟨rfl, rfl⟩ := H.p2
            go_wp2_with fail
            go_meet
            case rel => exact ⟨(by first | rfl | simp), ⟨hI245⟩, ⟨hF245⟩⟩
          ·
            replace H := H.neg e241
            replace e241 := Bool.eq_false_iff.mpr e241
            have e241n : (c215 != 92) = true := by simp only [bne, e241, Bool.not_false]
            obtain ⟨rfl, rfl⟩ := H.p2
            go_wp2_with fail
            go_meet
            case rel => exact ⟨(by first | rfl | simp), ⟨hI214⟩, ⟨hF214⟩⟩
        case rest =>
          obtain ⟨rfl, gI, gF⟩ := hcut
          have hI248 := gI.out; have hF248 := gF.out; clear gI gF
          have hl248 := hI248.cl
          have H := HC240; clear HC240 H1
          cases b246 with
          | true =>
            replace H := H.tt
            go_wp2_with fail
            refine (Rewind_calls hI248 (ps p s)).mono ?_
            rintro e w249 ⟨rfl, hI249, k249⟩
            have hF249 := hF248.trans k249
            have hl249 := hI249.cl
            obtain ⟨x292, hx, H2⟩ := H.outS; clear H; subst hx; have H := HC239.inl H2; clear HC239 H2
            go_wp2_with fail
            go_ret
            obtain ⟨rfl, rfl⟩ := H.p2
            exact ⟨(by first | rfl | simp), hI249, hF249⟩
          | false =>
            replace H := H.ff
            obtain rfl := H.p1
            go_wp2_with fail
            go_meet
            case rel => exact ⟨p247, ⟨rfl⟩, ⟨hI248⟩, ⟨hF248⟩⟩
      | false =>
        replace H := H.ff
        go_wp2_with fail
        refine (Move_calls hI214 1).mono ?_
        rintro e w250 ⟨rfl, hI250, k250⟩
        have hF250 := hF214.trans k250
        have hl250 := hI250.cl
        obtain rfl := H.p1
        go_wp2_with fail
        go_meet
        case rel => exact ⟨mv (mv p 1) 1, ⟨rfl⟩, ⟨hI250⟩, ⟨hF250⟩⟩
    case rest =>
      obtain ⟨p251, ho, gI, gF⟩ := hcut
      have hI252 := gI.out; have hF252 := gF.out; clear gI gF
      have hl252 := hI252.cl
      have ho := ho.out; subst ho; have H := HC239.inrS; clear HC239 H1
      obtain ⟨p290, H1, HC253⟩ := H.bind; clear H
      go_upto_block 0 with fail
      go_cut [] (fun w' => Hd (Lx w' l z b B ET EA p290 s) ∧ Hd (Fr z w0 w'))
      case first =>
        go_wp2_with fail
        go_loopg [] K (fun gk w' => ∃ (p254 : Int), Hd (consumeHashToken.l0 K B s gk p254 = some p290) ∧ Hd (Lx w' l z b B ET EA p254 s) ∧ Hd (Fr z w0 w'))
        case atStart => exact ⟨p251, H1, ⟨hI252⟩, ⟨hF252⟩⟩
        case round =>
          clear H1
          obtain ⟨p254, H, gI, gF⟩ := hrel
          have hI255 := gI.out; have hF255 := gF.out; clear gI gF
          have hl255 := hI255.cl
          cases gk with
          | zero => exact absurd H.out (by simp [consumeHashToken.l0])
          | succ k =>
            simp only [consumeHashToken.l0] at H
            obtain ⟨c256, A257, HN⟩ := H.bind; clear H; have H := HN; clear HN
            go_wp2_with fail
            refine (Peek_calls hI255 0 c256 A257).mono ?_
            rintro e w' ⟨rfl, rfl⟩
            generalize hb258 : (!(((((((decide (97 ≤ c256)) && (decide (c256 ≤ 122))) || ((decide (65 ≤ c256)) && (decide (c256 ≤ 90)))) || ((decide (48 ≤ c256)) && (decide (c256 ≤ 57)))) || (c256 == 95)) || (c256 == 45)) || (decide (128 ≤ c256)))) = b279 at H
            have HB258 := Hd.mk hb258; clear hb258
            go_upto_region 10 with fail
            go_cut [113] (fun v113 w' => v113 = .bool b279 ∧ wr = w')
            case first =>
              clear H
              by_cases e259 : (decide (97 ≤ c256)) = true
              · 
                by_cases e260 : (decide (c256 ≤ 122)) = true
                · 
                  go_wp2_with fail
                  go_meet
                  case rel => exact ⟨by rw [← HB258.out, e259, e260]; first | rfl | simp, rfl⟩
                ·
                  replace e260 := Bool.eq_false_iff.mpr e260
                  have e261 : (decide (65 ≤ c256)) = true := decide_eq_true (by have := of_decide_eq_false e260; omega)
                  have e262 : (decide (c256 ≤ 90)) = false := decide_eq_false (by have := of_decide_eq_false e260; omega)
                  have e263 : (decide (48 ≤ c256)) = true := decide_eq_true (by have := of_decide_eq_false e260; omega)
                  have e264 : (decide (c256 ≤ 57)) = false := decide_eq_false (by have := of_decide_eq_false e260; omega)
                  have e265 : (c256 == 95) = false := beq_eq_false_iff_ne.mpr (by have := of_decide_eq_false e260; omega)
                  have e265n : (c256 != 95) = true := by simp only [bne, e265, Bool.not_false]
                  have e266 : (c256 == 45) = false := beq_eq_false_iff_ne.mpr (by have := of_decide_eq_false e260; omega)
                  have e266n : (c256 != 45) = true := by simp only [bne, e266, Bool.not_false]
                  go_wp2_with fail
                  go_meet
                  case rel => exact ⟨by rw [← HB258.out, e259, e260, e261, e262, e263, e264, e265, e266]; first | rfl | simp, rfl⟩
              ·
                replace e259 := Bool.eq_false_iff.mpr e259
                by_cases e267 : (decide (65 ≤ c256)) = true
                · 
                  by_cases e268 : (decide (c256 ≤ 90)) = true
                  · 
                    go_wp2_with fail
                    go_meet
                    case rel => exact ⟨by rw [← HB258.out, e259, e267, e268]; first | rfl | simp, rfl⟩
                  ·
                    replace e268 := Bool.eq_false_iff.mpr e268
                    have e269 : (decide (48 ≤ c256)) = true := decide_eq_true (by have := of_decide_eq_false e268; omega)
                    have e270 : (decide (c256 ≤ 57)) = false := decide_eq_false (by have := of_decide_eq_false e268; omega)
                    by_cases e271 : (c256 == 95) = true
                    · 
                      have e271n : (c256 != 95) = false := by simp only [bne, e271, Bool.not_true]
                      go_wp2_with fail
                      go_meet
                      case rel => exact ⟨by rw [← HB258.out, e259, e267, e268, e269, e270, e271]; first | rfl | simp, rfl⟩
                    ·
                      replace e271 := Bool.eq_false_iff.mpr e271
                      have e271n : (c256 != 95) = true := by simp only [bne, e271, Bool.not_false]
                      have e272 : (c256 == 45) = false := beq_eq_false_iff_ne.mpr (by have := of_decide_eq_false e268; omega)
                      have e272n : (c256 != 45) = true := by simp only [bne, e272, Bool.not_false]
                      go_wp2_with fail
                      go_meet
                      case rel => exact ⟨by rw [← HB258.out, e259, e267, e268, e269, e270, e271, e272]; first | rfl | simp, rfl⟩
                ·
                  replace e267 := Bool.eq_false_iff.mpr e267
                  by_cases e273 : (decide (48 ≤ c256)) = true
                  · 
                    by_cases e274 : (decide (c256 ≤ 57)) = true
                    · 
                      go_wp2_with fail
                      go_meet
                      case rel => exact ⟨by rw [← HB258.out, e259, e267, e273, e274]; first | rfl | simp, rfl⟩
                    ·
                      replace e274 := Bool.eq_false_iff.mpr e274
                      have e275 : (c256 == 95) = false := beq_eq_false_iff_ne.mpr (by have := of_decide_eq_false e267; omega)
                      have e275n : (c256 != 95) = true := by simp only [bne, e275, Bool.not_false]
                      have e276 : (c256 == 45) = false := beq_eq_false_iff_ne.mpr (by have := of_decide_eq_false e274; omega)
                      have e276n : (c256 != 45) = true := by simp only [bne, e276, Bool.not_false]
                      go_wp2_with fail
                      go_meet
                      case rel => exact ⟨by rw [← HB258.out, e259, e267, e273, e274, e275, e276]; first | rfl | simp, rfl⟩
                  ·
                    replace e273 := Bool.eq_false_iff.mpr e273
                    have e277 : (c256 == 95) = false := beq_eq_false_iff_ne.mpr (by have := of_decide_eq_false e273; omega)
                    have e277n : (c256 != 95) = true := by simp only [bne, e277, Bool.not_false]
                    by_cases e278 : (c256 == 45) = true
                    · 
                      have e278n : (c256 != 45) = false := by simp only [bne, e278, Bool.not_true]
                      go_wp2_with fail
                      go_meet
                      case rel => exact ⟨by rw [← HB258.out, e259, e267, e273, e277, e278]; first | rfl | simp, rfl⟩
                    ·
                      replace e278 := Bool.eq_false_iff.mpr e278
                      have e278n : (c256 != 45) = true := by simp only [bne, e278, Bool.not_false]
                      go_wp2_with fail
                      go_meet
                      case rel => exact ⟨by rw [← HB258.out, e259, e267, e273, e277, e278]; first | rfl | simp, rfl⟩
            case rest =>
              obtain ⟨rfl, rfl⟩ := hcut
              cases b279 with
              | true =>
                replace H := H.tt
                obtain ⟨⟨b286, p287⟩, H1, HC280⟩ := H.bind; clear H
                try dsimp only at HC280
                go_upto_region 11 with fail
                go_cut [120] (fun v120 w' => v120 = .bool b286 ∧ Hd (Lx w' l z b B ET EA p287 s) ∧ Hd (Fr z w0 w'))
                case first =>
                  have H := H1; clear H1
                  by_cases e281 : (c256 == 92) = true
                  · 
                    replace H := H.pos e281
                    have e281n : (c256 != 92) = false := by simp only [bne, e281, Bool.not_true]
                    obtain ⟨⟨t282, p283⟩, A284, HN⟩ := H.bind; clear H; have H := HN; clear HN
                    try dsimp only at H
                    go_wp2_with fail
                    refine (consumeEscape.calls K hI255  t282 p283 A284).mono ?_
                    rintro e w285 ⟨rfl, hI285, k285⟩
                    have hF285 := hF255.trans k285
                    have hl285 := hI285.cl
                    obtain ⟨rfl, rfl⟩ := H.p2
                    go_wp2_with fail
                    go_meet
                    case rel => exact ⟨(by first | rfl | simp), ⟨hI285⟩, ⟨hF285⟩⟩
                  ·
                    replace H := H.neg e281
                    replace e281 := Bool.eq_false_iff.mpr e281
                    have e281n : (c256 != 92) = true := by simp only [bne, e281, Bool.not_false]
                    obtain ⟨rfl, rfl⟩ := H.p2
                    go_wp2_with fail
                    go_meet
                    case rel => exact ⟨(by first | rfl | simp), ⟨hI255⟩, ⟨hF255⟩⟩
                case rest =>
                  obtain ⟨rfl, gI, gF⟩ := hcut
                  have hI288 := gI.out; have hF288 := gF.out; clear gI gF
                  have hl288 := hI288.cl
                  have H := HC280; clear HC280 H1
                  cases b286 with
                  | true =>
                    replace H := H.tt
                    obtain rfl := H.p1
                    go_wp2_with fail
                    go_meet
                    case rel => exact ⟨⟨hI288⟩, ⟨hF288⟩⟩
                  | false =>
                    replace H := H.ff
                    go_wp2_with fail
                    go_roundg k
                    case measure => exact Nat.lt_succ_self _
                    case rel => exact ⟨p287, H, ⟨hI288⟩, ⟨hF288⟩⟩
              | false =>
                replace H := H.ff
                go_wp2_with fail
                refine (Move_calls hI255 1).mono ?_
                rintro e w289 ⟨rfl, hI289, k289⟩
                have hF289 := hF255.trans k289
                have hl289 := hI289.cl
                go_wp2_with fail
                go_roundg k
                case measure => exact Nat.lt_succ_self _
                case rel => exact ⟨mv p254 1, H, ⟨hI289⟩, ⟨hF289⟩⟩
      case rest =>
        obtain ⟨gI, gF⟩ := hcut
        have hI291 := gI.out; have hF291 := gF.out; clear gI gF
        have hl291 := hI291.cl
        have H := HC253; clear HC253 H1
        go_wp2_with fail
        go_ret
        obtain ⟨rfl, rfl⟩ := H.p2
        exact ⟨(by first | rfl | simp), hI291, hF291⟩

/-! (*loop.example/pub-g01476/pub/tdcss.Lexer).consumeNumberToken -/
def consumeNumberToken.l0 (K : Nat) (B : List Int) (s : Int) : Nat → Int → Option (Int)
  | 0, _ => none
  | k + 1, p309 =>
    (consumeDigit.f B p309 s).bind fun (t311, p312) =>
    if t311 = true then (consumeNumberToken.l0 K B s k p312) else
    some p312
def consumeNumberToken.l1 (K : Nat) (B : List Int) (s : Int) : Nat → Int → Option (Int)
  | 0, _ => none
  | k + 1, p329 =>
    (consumeDigit.f B p329 s).bind fun (t331, p332) =>
    if t331 = true then (consumeNumberToken.l1 K B s k p332) else
    some p332
def consumeNumberToken.l2 (K : Nat) (B : List Int) (s : Int) : Nat → Int → Option (Int)
  | 0, _ => none
  | k + 1, p363 =>
    (consumeDigit.f B p363 s).bind fun (t365, p366) =>
    if t365 = true then (consumeNumberToken.l2 K B s k p366) else
    some p366
def consumeNumberToken.f (K : Nat) (B : List Int) (p : Int) (s : Int) : Option (Bool × Int) :=
(pk B p 0).bind fun c294 =>
(if ((c294 == 43) || (c294 == 45)) = true then (some (mv p 1)) else
some p).bind fun p301 =>
(consumeDigit.f B p301 s).bind fun (t303, p304) =>
(if t303 = true then ((consumeNumberToken.l0 K B s K p304).bind fun p315 =>
some p315) else
some p304).bind fun p317 =>
(pk B p317 0).bind fun c319 =>
(if (c319 == 46) = true then ((consumeDigit.f B (mv p317 1) s).bind fun (t324, p325) =>
if t324 = true then ((consumeNumberToken.l1 K B s K p325).bind fun p335 =>
some (.inr p335)) else
if t303 = true then (outS (some (true, mv p325 (-1)))) else
outS (some (false, rwd s (ps p s)))) else
if t303 = true then (some (.inr p317)) else
outS (some (false, rwd s (ps p s)))).bind fun o => joinS o some fun p340 =>
(pk B p340 0).bind fun c343 =>
if ((c343 == 101) || (c343 == 69)) = true then ((pk B (mv p340 1) 0).bind fun c349 =>
(if ((c349 == 43) || (c349 == 45)) = true then (some (mv (mv p340 1) 1)) else
some (mv p340 1)).bind fun p356 =>
(consumeDigit.f B p356 s).bind fun (t358, p359) =>
if t358 = true then ((consumeNumberToken.l2 K B s K p359).bind fun p369 =>
some (true, p369)) else
some (true, rwd s (ps p340 s))) else
some (true, p340)
set_option maxHeartbeats 8000000 in
set_option maxRecDepth 100000 in
theorem consumeNumberToken.calls (K : Nat) {w0 : World} {l z b : Nat} {B : List Int} {ET : TypeId} {EA : Addr} {p s : Int} (hI0 : Lx w0 l z b B ET EA p s) (r0 : Bool) (r1 : Int) (H : Hd (consumeNumberToken.f K B p s = some (r0, r1))) :
    Calls Tryd.prog 83 #[.pointer (some ⟨l, 0, none⟩)] w0 fun e w' => e = .returned (.bool r0) ∧ Lx w' l z b B ET EA r1 s ∧ Fr z w0 w' := by
  have hF0 := Fr.refl z w0
  have hl0 := hI0.cl
  unfold consumeNumberToken.f at H
  go_enter Tryd.func83, Tryd.ntmps83
  go_wp2_with fail
  refine (Pos_calls hI0).mono ?_
  rintro e w293 ⟨rfl, hI293, k293⟩
  have hF293 := hF0.trans k293
  have hl293 := hI293.cl
  obtain ⟨c294, A295, HN⟩ := H.bind; clear H; have H := HN; clear HN
  go_wp2_with fail
  refine (Peek_calls hI293 0 c294 A295).mono ?_
  rintro e w' ⟨rfl, rfl⟩
  generalize hb296 : ((c294 == 43) || (c294 == 45)) = b298 at H
  have HB296 := Hd.mk hb296; clear hb296
  go_upto_region 3 with fail
  go_cut [21] (fun v21 w' => v21 = .bool b298 ∧ w293 = w')
  case first =>
    clear H
    by_cases e297 : (c294 == 43) = true
    · 
      have e297n : (c294 != 43) = false := by simp only [bne, e297, Bool.not_true]
      go_wp2_with fail
      go_meet
      case rel => exact ⟨by rw [← HB296.out, e297]; first | rfl | simp, rfl⟩
    ·
      replace e297 := Bool.eq_false_iff.mpr e297
      have e297n : (c294 != 43) = true := by simp only [bne, e297, Bool.not_false]
      go_wp2_with fail
      go_meet
      case rel => exact ⟨by rw [← HB296.out, e297]; first | rfl | simp, rfl⟩
  case rest =>
    obtain ⟨rfl, rfl⟩ := hcut
    obtain ⟨p301, H1, HC299⟩ := H.bind; clear H
    go_upto_if 21 with fail
    go_cut [] (fun w' => Hd (Lx w' l z b B ET EA p301 s) ∧ Hd (Fr z w0 w'))
    case first =>
      have H := H1; clear H1
      cases b298 with
      | true =>
        replace H := H.tt
        go_wp2_with fail
        refine (Move_calls hI293 1).mono ?_
        rintro e w300 ⟨rfl, hI300, k300⟩
        have hF300 := hF293.trans k300
        have hl300 := hI300.cl
        obtain rfl := H.p1
        go_wp2_with fail
        go_meet
        case rel => exact ⟨⟨hI300⟩, ⟨hF300⟩⟩
      | false =>
        replace H := H.ff
        obtain rfl := H.p1
        go_wp2_with fail
        go_meet
        case rel => exact ⟨⟨hI293⟩, ⟨hF293⟩⟩
    case rest =>
      obtain ⟨gI, gF⟩ := hcut
      have hI302 := gI.out; have hF302 := gF.out; clear gI gF
      have hl302 := hI302.cl
      have H := HC299; clear HC299 H1
      obtain ⟨⟨t303, p304⟩, A305, HN⟩ := H.bind; clear H; have H := HN; clear HN
      try dsimp only at H
      go_wp2_with fail
      refine (consumeDigit.calls hI302  t303 p304 A305).mono ?_
      rintro e w306 ⟨rfl, hI306, k306⟩
      have hF306 := hF302.trans k306
      have hl306 := hI306.cl
      obtain ⟨p317, H1, HC307⟩ := H.bind; clear H
      go_upto_if 29 with fail
      go_cut [] (fun w' => Hd (Lx w' l z b B ET EA p317 s) ∧ Hd (Fr z w0 w'))
      case first =>
        have H := H1; clear H1
        cases t303 with
        | true =>
          replace H := H.tt
          obtain ⟨p315, H1, HC308⟩ := H.bind; clear H
          go_upto_block 0 with fail
          go_cut [] (fun w' => Hd (Lx w' l z b B ET EA p315 s) ∧ Hd (Fr z w0 w'))
          case first =>
            go_wp2_with fail
            go_loopg [] K (fun gk w' => ∃ (p309 : Int), Hd (consumeNumberToken.l0 K B s gk p309 = some p315) ∧ Hd (Lx w' l z b B ET EA p309 s) ∧ Hd (Fr z w0 w'))
            case atStart => exact ⟨p304, H1, ⟨hI306⟩, ⟨hF306⟩⟩
            case round =>
              clear H1
              obtain ⟨p309, H, gI, gF⟩ := hrel
              have hI310 := gI.out; have hF310 := gF.out; clear gI gF
              have hl310 := hI310.cl
              cases gk with
              | zero => exact absurd H.out (by simp [consumeNumberToken.l0])
              | succ k =>
                simp only [consumeNumberToken.l0] at H
                obtain ⟨⟨t311, p312⟩, A313, HN⟩ := H.bind; clear H; have H := HN; clear HN
                try dsimp only at H
                go_wp2_with fail
                refine (consumeDigit.calls hI310  t311 p312 A313).mono ?_
                rintro e w314 ⟨rfl, hI314, k314⟩
                have hF314 := hF310.trans k314
                have hl314 := hI314.cl
                cases t311 with
                | true =>
                  replace H := H.tt
                  go_wp2_with fail
                  go_roundg k
                  case measure => exact Nat.lt_succ_self _
                  case rel => exact ⟨p312, H, ⟨hI314⟩, ⟨hF314⟩⟩
                | false =>
                  replace H := H.ff
                  obtain rfl := H.p1
                  go_wp2_with fail
                  go_meet
                  case rel => exact ⟨⟨hI314⟩, ⟨hF314⟩⟩
          case rest =>
            obtain ⟨gI, gF⟩ := hcut
            have hI316 := gI.out; have hF316 := gF.out; clear gI gF
            have hl316 := hI316.cl
            have H := HC308; clear HC308 H1
            obtain rfl := H.p1
            go_wp2_with fail
            go_meet
            case rel => exact ⟨⟨hI316⟩, ⟨hF316⟩⟩
        | false =>
          replace H := H.ff
          obtain rfl := H.p1
          go_wp2_with fail
          go_meet
          case rel => exact ⟨⟨hI306⟩, ⟨hF306⟩⟩
      case rest =>
        obtain ⟨gI, gF⟩ := hcut
        have hI318 := gI.out; have hF318 := gF.out; clear gI gF
        have hl318 := hI318.cl
        have H := HC307; clear HC307 H1
        obtain ⟨c319, A320, HN⟩ := H.bind; clear H; have H := HN; clear HN
        go_wp2_with fail
        refine (Peek_calls hI318 0 c319 A320).mono ?_
        rintro e w' ⟨rfl, rfl⟩
        obtain ⟨o321, H1, HC321⟩ := H.bind; clear H
        go_upto_if 37 with fail
        go_cut [] (fun w' => ∃ (p340 : Int), Hd (o321 = .inr p340) ∧ Hd (Lx w' l z b B ET EA p340 s) ∧ Hd (Fr z w0 w'))
        case first =>
          have H := H1; clear H1
          by_cases e322 : (c319 == 46) = true
          · 
            replace H := H.pos e322
            have e322n : (c319 != 46) = false := by simp only [bne, e322, Bool.not_true]
            go_wp2_with fail
            refine (Move_calls hI318 1).mono ?_
            rintro e w323 ⟨rfl, hI323, k323⟩
            have hF323 := hF318.trans k323
            have hl323 := hI323.cl
            obtain ⟨⟨t324, p325⟩, A326, HN⟩ := H.bind; clear H; have H := HN; clear HN
            try dsimp only at H
            go_wp2_with fail
            refine (consumeDigit.calls hI323  t324 p325 A326).mono ?_
            rintro e w327 ⟨rfl, hI327, k327⟩
            have hF327 := hF323.trans k327
            have hl327 := hI327.cl
            cases t324 with
            | true =>
              replace H := H.tt
              obtain ⟨p335, H1, HC328⟩ := H.bind; clear H
              go_upto_block 2 with fail
              go_cut [] (fun w' => Hd (Lx w' l z b B ET EA p335 s) ∧ Hd (Fr z w0 w'))
              case first =>
                go_wp2_with fail
                go_loopg [] K (fun gk w' => ∃ (p329 : Int), Hd (consumeNumberToken.l1 K B s gk p329 = some p335) ∧ Hd (Lx w' l z b B ET EA p329 s) ∧ Hd (Fr z w0 w'))
                case atStart => exact ⟨p325, H1, ⟨hI327⟩, ⟨hF327⟩⟩
                case round =>
                  clear H1
                  obtain ⟨p329, H, gI, gF⟩ := hrel
                  have hI330 := gI.out; have hF330 := gF.out; clear gI gF
                  have hl330 := hI330.cl
                  cases gk with
                  | zero => exact absurd H.out (by simp [consumeNumberToken.l1])
                  | succ k =>
                    simp only [consumeNumberToken.l1] at H
                    obtain ⟨⟨t331, p332⟩, A333, HN⟩ := H.bind; clear H; have H := HN; clear HN
                    try dsimp only at H
                    go_wp2_with fail
                    refine (consumeDigit.calls hI330  t331 p332 A333).mono ?_
                    rintro e w334 ⟨rfl, hI334, k334⟩
                    have hF334 := hF330.trans k334
                    have hl334 := hI334.cl
                    cases t331 with
                    | true =>
                      replace H := H.tt
                      go_wp2_with fail
                      go_roundg k
                      case measure => exact Nat.lt_succ_self _
                      case rel => exact ⟨p332, H, ⟨hI334⟩, ⟨hF334⟩⟩
                    | false =>
                      replace H := H.ff
                      obtain rfl := H.p1
                      go_wp2_with fail
                      go_meet
                      case rel => exact ⟨⟨hI334⟩, ⟨hF334⟩⟩
              case rest =>
                obtain ⟨gI, gF⟩ := hcut
                have hI336 := gI.out; have hF336 := gF.out; clear gI gF
                have hl336 := hI336.cl
                have H := HC328; clear HC328 H1
                obtain rfl := H.p1
                go_wp2_with fail
                go_meet
                case rel => exact ⟨p335, ⟨rfl⟩, ⟨hI336⟩, ⟨hF336⟩⟩
            | false =>
              replace H := H.ff
              cases t303 with
              | true =>
                replace H := H.tt
                go_wp2_with fail
                refine (Move_calls hI327 (-1)).mono ?_
                rintro e w337 ⟨rfl, hI337, k337⟩
                have hF337 := hF327.trans k337
                have hl337 := hI337.cl
                obtain ⟨x372, hx, H2⟩ := H.outS; clear H; subst hx; have H := HC321.inl H2; clear HC321 H2
                go_wp2_with fail
                go_ret
                obtain ⟨rfl, rfl⟩ := H.p2
                exact ⟨(by first | rfl | simp), hI337, hF337⟩
              | false =>
                replace H := H.ff
                go_wp2_with fail
                refine (Rewind_calls hI327 (ps p s)).mono ?_
                rintro e w338 ⟨rfl, hI338, k338⟩
                have hF338 := hF327.trans k338
                have hl338 := hI338.cl
                obtain ⟨x373, hx, H2⟩ := H.outS; clear H; subst hx; have H := HC321.inl H2; clear HC321 H2
                go_wp2_with fail
                go_ret
                obtain ⟨rfl, rfl⟩ := H.p2
                exact ⟨(by first | rfl | simp), hI338, hF338⟩
          ·
            replace H := H.neg e322
            replace e322 := Bool.eq_false_iff.mpr e322
            have e322n : (c319 != 46) = true := by simp only [bne, e322, Bool.not_false]
            cases t303 with
            | true =>
              replace H := H.tt
              obtain rfl := H.p1
              go_wp2_with fail
              go_meet
              case rel => exact ⟨p317, ⟨rfl⟩, ⟨hI318⟩, ⟨hF318⟩⟩
            | false =>
              replace H := H.ff
              go_wp2_with fail
              refine (Rewind_calls hI318 (ps p s)).mono ?_
              rintro e w339 ⟨rfl, hI339, k339⟩
              have hF339 := hF318.trans k339
              have hl339 := hI339.cl
              obtain ⟨x374, hx, H2⟩ := H.outS; clear H; subst hx; have H := HC321.inl H2; clear HC321 H2
              go_wp2_with fail
              go_ret
              obtain ⟨rfl, rfl⟩ := H.p2
              exact ⟨(by first | rfl | simp), hI339, hF339⟩
        case rest =>
          obtain ⟨p340, ho, gI, gF⟩ := hcut
          have hI341 := gI.out; have hF341 := gF.out; clear gI gF
          have hl341 := hI341.cl
          have ho := ho.out; subst ho; have H := HC321.inrS; clear HC321 H1
          go_wp2_with fail
          refine (Pos_calls hI341).mono ?_
          rintro e w342 ⟨rfl, hI342, k342⟩
          have hF342 := hF341.trans k342
          have hl342 := hI342.cl
          obtain ⟨c343, A344, HN⟩ := H.bind; clear H; have H := HN; clear HN
          go_wp2_with fail
          refine (Peek_calls hI342 0 c343 A344).mono ?_
          rintro e w' ⟨rfl, rfl⟩
          generalize hb345 : ((c343 == 101) || (c343 == 69)) = b347 at H
          have HB345 := Hd.mk hb345; clear hb345
          go_upto_region 22 with fail
          go_cut [82] (fun v82 w' => v82 = .bool b347 ∧ w342 = w')
          case first =>
            clear H
            by_cases e346 : (c343 == 101) = true
            · 
              have e346n : (c343 != 101) = false := by simp only [bne, e346, Bool.not_true]
              go_wp2_with fail
              go_meet
              case rel => exact ⟨by rw [← HB345.out, e346]; first | rfl | simp, rfl⟩
            ·
              replace e346 := Bool.eq_false_iff.mpr e346
              have e346n : (c343 != 101) = true := by simp only [bne, e346, Bool.not_false]
              go_wp2_with fail
              go_meet
              case rel => exact ⟨by rw [← HB345.out, e346]; first | rfl | simp, rfl⟩
          case rest =>
            obtain ⟨rfl, rfl⟩ := hcut
            cases b347 with
            | true =>
              replace H := H.tt
              go_wp2_with fail
              refine (Move_calls hI342 1).mono ?_
              rintro e w348 ⟨rfl, hI348, k348⟩
              have hF348 := hF342.trans k348
              have hl348 := hI348.cl
              obtain ⟨c349, A350, HN⟩ := H.bind; clear H; have H := HN; clear HN
              go_wp2_with fail
              refine (Peek_calls hI348 0 c349 A350).mono ?_
              rintro e w' ⟨rfl, rfl⟩
              generalize hb351 : ((c349 == 43) || (c349 == 45)) = b353 at H
              have HB351 := Hd.mk hb351; clear hb351
              go_upto_region 25 with fail
              go_cut [98] (fun v98 w' => v98 = .bool b353 ∧ w348 = w')
              case first =>
                clear H
                by_cases e352 : (c349 == 43) = true
                · 
                  have e352n : (c349 != 43) = false := by simp only [bne, e352, Bool.not_true]
                  go_wp2_with fail
                  go_meet
                  case rel => exact ⟨by rw [← HB351.out, e352]; first | rfl | simp, rfl⟩
                ·
                  replace e352 := Bool.eq_false_iff.mpr e352
                  have e352n : (c349 != 43) = true := by simp only [bne, e352, Bool.not_false]
                  go_wp2_with fail
                  go_meet
                  case rel => exact ⟨by rw [← HB351.out, e352]; first | rfl | simp, rfl⟩
              case rest =>
                obtain ⟨rfl, rfl⟩ := hcut
                obtain ⟨p356, H1, HC354⟩ := H.bind; clear H
                go_upto_if 98 with fail
                go_cut [] (fun w' => Hd (Lx w' l z b B ET EA p356 s) ∧ Hd (Fr z w0 w'))
                case first =>
                  have H := H1; clear H1
                  cases b353 with
                  | true =>
                    replace H := H.tt
                    go_wp2_with fail
                    refine (Move_calls hI348 1).mono ?_
                    rintro e w355 ⟨rfl, hI355, k355⟩
                    have hF355 := hF348.trans k355
                    have hl355 := hI355.cl
                    obtain rfl := H.p1
                    go_wp2_with fail
                    go_meet
                    case rel => exact ⟨⟨hI355⟩, ⟨hF355⟩⟩
                  | false =>
                    replace H := H.ff
                    obtain rfl := H.p1
                    go_wp2_with fail
                    go_meet
                    case rel => exact ⟨⟨hI348⟩, ⟨hF348⟩⟩
                case rest =>
                  obtain ⟨gI, gF⟩ := hcut
                  have hI357 := gI.out; have hF357 := gF.out; clear gI gF
                  have hl357 := hI357.cl
                  have H := HC354; clear HC354 H1
                  obtain ⟨⟨t358, p359⟩, A360, HN⟩ := H.bind; clear H; have H := HN; clear HN
                  try dsimp only at H
                  go_wp2_with fail
                  refine (consumeDigit.calls hI357  t358 p359 A360).mono ?_
                  rintro e w361 ⟨rfl, hI361, k361⟩
                  have hF361 := hF357.trans k361
                  have hl361 := hI361.cl
                  cases t358 with
                  | true =>
                    replace H := H.tt
                    obtain ⟨p369, H1, HC362⟩ := H.bind; clear H
                    go_upto_block 4 with fail
                    go_cut [] (fun w' => Hd (Lx w' l z b B ET EA p369 s) ∧ Hd (Fr z w0 w'))
                    case first =>
                      go_wp2_with fail
                      go_loopg [] K (fun gk w' => ∃ (p363 : Int), Hd (consumeNumberToken.l2 K B s gk p363 = some p369) ∧ Hd (Lx w' l z b B ET EA p363 s) ∧ Hd (Fr z w0 w'))
                      case atStart => exact ⟨p359, H1, ⟨hI361⟩, ⟨hF361⟩⟩
                      case round =>
                        clear H1
                        obtain ⟨p363, H, gI, gF⟩ := hrel
                        have hI364 := gI.out; have hF364 := gF.out; clear gI gF
                        have hl364 := hI364.cl
                        cases gk with
                        | zero => exact absurd H.out (by simp [consumeNumberToken.l2])
                        | succ k =>
                          simp only [consumeNumberToken.l2] at H
                          obtain ⟨⟨t365, p366⟩, A367, HN⟩ := H.bind; clear H; have H := HN; clear HN
                          try dsimp only at H
                          go_wp2_with fail
                          refine (consumeDigit.calls hI364  t365 p366 A367).mono ?_
                          rintro e w368 ⟨rfl, hI368, k368⟩
                          have hF368 := hF364.trans k368
                          have hl368 := hI368.cl
                          cases t365 with
                          | true =>
                            replace H := H.tt
                            go_wp2_with fail
                            go_roundg k
                            case measure => exact Nat.lt_succ_self _
                            case rel => exact ⟨p366, H, ⟨hI368⟩, ⟨hF368⟩⟩
                          | false =>
                            replace H := H.ff
                            obtain rfl := H.p1
                            go_wp2_with fail
                            go_meet
                            case rel => exact ⟨⟨hI368⟩, ⟨hF368⟩⟩
                    case rest =>
                      obtain ⟨gI, gF⟩ := hcut
                      have hI370 := gI.out; have hF370 := gF.out; clear gI gF
                      have hl370 := hI370.cl
                      have H := HC362; clear HC362 H1
                      go_wp2_with fail
                      go_ret
                      obtain ⟨rfl, rfl⟩ := H.p2
                      exact ⟨(by first | rfl | simp), hI370, hF370⟩
                  | false =>
                    replace H := H.ff
                    go_wp2_with fail
                    refine (Rewind_calls hI361 (ps p340 s)).mono ?_
                    rintro e w371 ⟨rfl, hI371, k371⟩
                    have hF371 := hF361.trans k371
                    have hl371 := hI371.cl
                    go_wp2_with fail
                    go_ret
                    obtain ⟨rfl, rfl⟩ := H.p2
                    exact ⟨(by first | rfl | simp), hI371, hF371⟩
            | false =>
              replace H := H.ff
              go_wp2_with fail
              go_ret
              obtain ⟨rfl, rfl⟩ := H.p2
              exact ⟨(by first | rfl | simp), hI342, hF342⟩

/-! (*loop.example/pub-g01476/pub/tdcss.Lexer).consumeUnicodeRangeToken -/
def consumeUnicodeRangeToken.l0 (K : Nat) (B : List Int) (s : Int) : Nat → Int → Int → Option (Int × Int)
  | 0, _, _ => none
  | k + 1, x388, p389 =>
    (consumeHexDigit.f B p389 s).bind fun (t391, p392) =>
    if t391 = true then (consumeUnicodeRangeToken.l0 K B s k (wrap64 (x388 + 1)) p392) else
    some (x388, p392)
def consumeUnicodeRangeToken.l1 (K : Nat) (B : List Int) (s : Int) : Nat → Int → Int → Option (Int × Int)
  | 0, _, _ => none
  | k + 1, x412, p413 =>
    (consumeHexDigit.f B p413 s).bind fun (t415, p416) =>
    if t415 = true then (consumeUnicodeRangeToken.l1 K B s k (wrap64 (x412 + 1)) p416) else
    some (x412, p416)
def consumeUnicodeRangeToken.l2 (K : Nat) (B : List Int) (s : Int) : Nat → Int → Int → Option (Int × Int)
  | 0, _, _ => none
  | k + 1, x428, p429 =>
    (consumeByte.f B p429 s 63).bind fun (t431, p432) =>
    if t431 = true then (consumeUnicodeRangeToken.l2 K B s k (wrap64 (x428 + 1)) p432) else
    some (x428, p432)
def consumeUnicodeRangeToken.f (K : Nat) (B : List Int) (p : Int) (s : Int) : Option (Bool × Int) :=
(pk B p 0).bind fun c375 =>
(if (c375 == 117) = true then ((pk B p 1).bind fun c379 =>
some (!(c379 == 43))) else
if (c375 == 85) = true then ((pk B p 1).bind fun c382 =>
some (!(c382 == 43))) else
some true).bind fun b384 =>
if b384 = true then (some (false, p)) else
(consumeUnicodeRangeToken.l0 K B s K 0 (mv p 2)).bind fun (x395, p396) =>
(consumeByte.f B p396 s 45).bind fun (t398, p399) =>
(if t398 = true then (if ((x395 == 0) || (decide (6 < x395))) = true then (outS (some (false, rwd s (ps p s)))) else
(consumeHexDigit.f B p399 s).bind fun (t407, p408) =>
if t407 = true then ((consumeUnicodeRangeToken.l1 K B s K 1 p408).bind fun (x419, p420) =>
some (.inr (x419, p420))) else
outS (some (false, rwd s (ps p s)))) else
(consumeByte.f B p399 s 63).bind fun (t423, p424) =>
if t423 = true then ((consumeUnicodeRangeToken.l2 K B s K (wrap64 (x395 + 1)) p424).bind fun (x435, p436) =>
some (.inr (x435, p436))) else
some (.inr (x395, p424))).bind fun o => joinS o some fun (x438, p439) =>
if ((x438 == 0) || (decide (6 < x438))) = true then (some (false, rwd s (ps p s))) else
some (true, p439)
set_option maxHeartbeats 8000000 in
set_option maxRecDepth 100000 in
theorem consumeUnicodeRangeToken.calls (K : Nat) {w0 : World} {l z b : Nat} {B : List Int} {ET : TypeId} {EA : Addr} {p s : Int} (hI0 : Lx w0 l z b B ET EA p s) (r0 : Bool) (r1 : Int) (H : Hd (consumeUnicodeRangeToken.f K B p s = some (r0, r1))) :
    Calls Tryd.prog 69 #[.pointer (some ⟨l, 0, none⟩)] w0 fun e w' => e = .returned (.bool r0) ∧ Lx w' l z b B ET EA r1 s ∧ Fr z w0 w' := by
  have hF0 := Fr.refl z w0
  have hl0 := hI0.cl
  unfold consumeUnicodeRangeToken.f at H
  go_enter Tryd.func69, Tryd.ntmps69
  obtain ⟨c375, A376, HN⟩ := H.bind; clear H; have H := HN; clear HN
  go_wp2_with fail
  refine (Peek_calls hI0 0 c375 A376).mono ?_
  rintro e w' ⟨rfl, rfl⟩
  obtain ⟨b384, H1, HC377⟩ := H.bind; clear H
  go_upto_region 2 with fail
  go_cut [24] (fun v24 w' => v24 = .bool b384 ∧ w0 = w')
  case first =>
    have H := H1; clear H1
    by_cases e378 : (c375 == 117) = true
    · 
      replace H := H.pos e378
      have e378n : (c375 != 117) = false := by simp only [bne, e378, Bool.not_true]
      obtain ⟨c379, A380, HN⟩ := H.bind; clear H; have H := HN; clear HN
      go_wp2_with fail
      refine (Peek_calls hI0 1 c379 A380).mono ?_
      rintro e w' ⟨rfl, rfl⟩
      obtain rfl := H.p1
      go_wp2_with fail
      go_meet
      case rel => exact ⟨(by first | rfl | simp), rfl⟩
    ·
      replace H := H.neg e378
      replace e378 := Bool.eq_false_iff.mpr e378
      have e378n : (c375 != 117) = true := by simp only [bne, e378, Bool.not_false]
      by_cases e381 : (c375 == 85) = true
      · 
        replace H := H.pos e381
        have e381n : (c375 != 85) = false := by simp only [bne, e381, Bool.not_true]
        obtain ⟨c382, A383, HN⟩ := H.bind; clear H; have H := HN; clear HN
        go_wp2_with fail
        refine (Peek_calls hI0 1 c382 A383).mono ?_
        rintro e w' ⟨rfl, rfl⟩
        obtain rfl := H.p1
        go_wp2_with fail
        go_meet
        case rel => exact ⟨(by first | rfl | simp), rfl⟩
      ·
        replace H := H.neg e381
        replace e381 := Bool.eq_false_iff.mpr e381
        have e381n : (c375 != 85) = true := by simp only [bne, e381, Bool.not_false]
        obtain rfl := H.p1
        go_wp2_with fail
        go_meet
        case rel => exact ⟨(by first | rfl | simp), rfl⟩
  case rest =>
    obtain ⟨rfl, rfl⟩ := hcut
    have H := HC377; clear HC377 H1
    cases b384 with
    | true =>
      replace H := H.tt
      go_wp2_with fail
      go_ret
      obtain ⟨rfl, rfl⟩ := H.p2
      exact ⟨(by first | rfl | simp), hI0, hF0⟩
    | false =>
      replace H := H.ff
      go_wp2_with fail
      refine (Pos_calls hI0).mono ?_
      rintro e w385 ⟨rfl, hI385, k385⟩
      have hF385 := hF0.trans k385
      have hl385 := hI385.cl
      go_wp2_with fail
      refine (Move_calls hI385 2).mono ?_
      rintro e w386 ⟨rfl, hI386, k386⟩
      have hF386 := hF385.trans k386
      have hl386 := hI386.cl
      obtain ⟨⟨x395, p396⟩, H1, HC387⟩ := H.bind; clear H
      try dsimp only at HC387
      go_upto_block 0 with fail
      go_cut [5] (fun v5 w' => v5 = .int .i64 x395 ∧ Hd (Lx w' l z b B ET EA p396 s) ∧ Hd (Fr z w0 w'))
      case first =>
        go_wp2_with fail
        go_loopg [5] K (fun gk v5 w' => ∃ (x388 : Int), ∃ (p389 : Int), v5 = .int .i64 x388 ∧ Hd (consumeUnicodeRangeToken.l0 K B s gk x388 p389 = some (x395, p396)) ∧ Hd (Lx w' l z b B ET EA p389 s) ∧ Hd (Fr z w0 w'))
        case atStart => exact ⟨0, mv p 2, (by first | rfl | simp), H1, ⟨hI386⟩, ⟨hF386⟩⟩
        case round =>
          clear H1
          obtain ⟨x388, p389, rfl, H, gI, gF⟩ := hrel
          have hI390 := gI.out; have hF390 := gF.out; clear gI gF
          have hl390 := hI390.cl
          cases gk with
          | zero => exact absurd H.out (by simp [consumeUnicodeRangeToken.l0])
          | succ k =>
            simp only [consumeUnicodeRangeToken.l0] at H
            obtain ⟨⟨t391, p392⟩, A393, HN⟩ := H.bind; clear H; have H := HN; clear HN
            try dsimp only at H
            go_wp2_with fail
            refine (consumeHexDigit.calls hI390  t391 p392 A393).mono ?_
            rintro e w394 ⟨rfl, hI394, k394⟩
            have hF394 := hF390.trans k394
            have hl394 := hI394.cl
            cases t391 with
            | true =>
              replace H := H.tt
              go_wp2_with fail
              go_roundg k
              case measure => exact Nat.lt_succ_self _
              case rel => exact ⟨wrap64 (x388 + 1), p392, (by first | rfl | simp), H, ⟨hI394⟩, ⟨hF394⟩⟩
            | false =>
              replace H := H.ff
              obtain ⟨rfl, rfl⟩ := H.p2
              go_wp2_with fail
              go_meet
              case rel => exact ⟨(by first | rfl | simp), ⟨hI394⟩, ⟨hF394⟩⟩
      case rest =>
        obtain ⟨rfl, gI, gF⟩ := hcut
        have hI397 := gI.out; have hF397 := gF.out; clear gI gF
        have hl397 := hI397.cl
        have H := HC387; clear HC387 H1
        obtain ⟨⟨t398, p399⟩, A400, HN⟩ := H.bind; clear H; have H := HN; clear HN
        try dsimp only at H
        go_wp2_with fail
        refine (consumeByte.calls hI397 45 t398 p399 A400).mono ?_
        rintro e w401 ⟨rfl, hI401, k401⟩
        have hF401 := hF397.trans k401
        have hl401 := hI401.cl
        obtain ⟨o402, H1, HC402⟩ := H.bind; clear H
        go_upto_if 40 with fail
        go_cut [5] (fun v5 w' => ∃ (x438 : Int), ∃ (p439 : Int), Hd (o402 = .inr (x438, p439)) ∧ v5 = .int .i64 x438 ∧ Hd (Lx w' l z b B ET EA p439 s) ∧ Hd (Fr z w0 w'))
        case first =>
          have H := H1; clear H1
          cases t398 with
          | true =>
            replace H := H.tt
            generalize hb403 : ((x395 == 0) || (decide (6 < x395))) = b405 at H
            have HB403 := Hd.mk hb403; clear hb403
            go_upto_region 10 with fail
            go_cut [46] (fun v46 w' => v46 = .bool b405 ∧ w401 = w')
            case first =>
              clear H
              by_cases e404 : (x395 == 0) = true
              · 
                have e404n : (x395 != 0) = false := by simp only [bne, e404, Bool.not_true]
                go_wp2_with fail
                go_meet
                case rel => exact ⟨by rw [← HB403.out, e404]; first | rfl | simp, rfl⟩
              ·
                replace e404 := Bool.eq_false_iff.mpr e404
                have e404n : (x395 != 0) = true := by simp only [bne, e404, Bool.not_false]
                go_wp2_with fail
                go_meet
                case rel => exact ⟨by rw [← HB403.out, e404]; first | rfl | simp, rfl⟩
            case rest =>
              obtain ⟨rfl, rfl⟩ := hcut
              cases b405 with
              | true =>
                replace H := H.tt
                go_wp2_with fail
                refine (Rewind_calls hI401 (ps p s)).mono ?_
                rintro e w406 ⟨rfl, hI406, k406⟩
                have hF406 := hF401.trans k406
                have hl406 := hI406.cl
                obtain ⟨x445, hx, H2⟩ := H.outS; clear H; subst hx; have H := HC402.inl H2; clear HC402 H2
                go_wp2_with fail
                go_ret
                obtain ⟨rfl, rfl⟩ := H.p2
                exact ⟨(by first | rfl | simp), hI406, hF406⟩
              | false =>
                replace H := H.ff
                obtain ⟨⟨t407, p408⟩, A409, HN⟩ := H.bind; clear H; have H := HN; clear HN
                try dsimp only at H
                go_wp2_with fail
                refine (consumeHexDigit.calls hI401  t407 p408 A409).mono ?_
                rintro e w410 ⟨rfl, hI410, k410⟩
                have hF410 := hF401.trans k410
                have hl410 := hI410.cl
                cases t407 with
                | true =>
                  replace H := H.tt
                  obtain ⟨⟨x419, p420⟩, H1, HC411⟩ := H.bind; clear H
                  try dsimp only at HC411
                  go_upto_block 2 with fail
                  go_cut [5] (fun v5 w' => v5 = .int .i64 x419 ∧ Hd (Lx w' l z b B ET EA p420 s) ∧ Hd (Fr z w0 w'))
                  case first =>
                    go_wp2_with fail
                    go_loopg [5] K (fun gk v5 w' => ∃ (x412 : Int), ∃ (p413 : Int), v5 = .int .i64 x412 ∧ Hd (consumeUnicodeRangeToken.l1 K B s gk x412 p413 = some (x419, p420)) ∧ Hd (Lx w' l z b B ET EA p413 s) ∧ Hd (Fr z w0 w'))
                    case atStart => exact ⟨1, p408, (by first | rfl | simp), H1, ⟨hI410⟩, ⟨hF410⟩⟩
                    case round =>
                      clear H1
                      obtain ⟨x412, p413, rfl, H, gI, gF⟩ := hrel
                      have hI414 := gI.out; have hF414 := gF.out; clear gI gF
                      have hl414 := hI414.cl
                      cases gk with
                      | zero => exact absurd H.out (by simp [consumeUnicodeRangeToken.l1])
                      | succ k =>
                        simp only [consumeUnicodeRangeToken.l1] at H
                        obtain ⟨⟨t415, p416⟩, A417, HN⟩ := H.bind; clear H; have H := HN; clear HN
                        try dsimp only at H
                        go_wp2_with fail
                        refine (consumeHexDigit.calls hI414  t415 p416 A417).mono ?_
                        rintro e w418 ⟨rfl, hI418, k418⟩
                        have hF418 := hF414.trans k418
                        have hl418 := hI418.cl
                        cases t415 with
                        | true =>
                          replace H := H.tt
                          go_wp2_with fail
                          go_roundg k
                          case measure => exact Nat.lt_succ_self _
                          case rel => exact ⟨wrap64 (x412 + 1), p416, (by first | rfl | simp), H, ⟨hI418⟩, ⟨hF418⟩⟩
                        | false =>
                          replace H := H.ff
                          obtain ⟨rfl, rfl⟩ := H.p2
                          go_wp2_with fail
                          go_meet
                          case rel => exact ⟨(by first | rfl | simp), ⟨hI418⟩, ⟨hF418⟩⟩
                  case rest =>
                    obtain ⟨rfl, gI, gF⟩ := hcut
                    have hI421 := gI.out; have hF421 := gF.out; clear gI gF
                    have hl421 := hI421.cl
                    have H := HC411; clear HC411 H1
                    obtain rfl := H.p1
                    go_wp2_with fail
                    go_meet
                    case rel => exact ⟨x419, p420, ⟨rfl⟩, (by first | rfl | simp), ⟨hI421⟩, ⟨hF421⟩⟩
                | false =>
                  replace H := H.ff
                  go_wp2_with fail
                  refine (Rewind_calls hI410 (ps p s)).mono ?_
                  rintro e w422 ⟨rfl, hI422, k422⟩
                  have hF422 := hF410.trans k422
                  have hl422 := hI422.cl
                  obtain ⟨x446, hx, H2⟩ := H.outS; clear H; subst hx; have H := HC402.inl H2; clear HC402 H2
                  go_wp2_with fail
                  go_ret
                  obtain ⟨rfl, rfl⟩ := H.p2
                  exact ⟨(by first | rfl | simp), hI422, hF422⟩
          | false =>
            replace H := H.ff
            obtain ⟨⟨t423, p424⟩, A425, HN⟩ := H.bind; clear H; have H := HN; clear HN
            try dsimp only at H
            go_wp2_with fail
            refine (consumeByte.calls hI401 63 t423 p424 A425).mono ?_
            rintro e w426 ⟨rfl, hI426, k426⟩
            have hF426 := hF401.trans k426
            have hl426 := hI426.cl
            cases t423 with
            | true =>
              replace H := H.tt
              obtain ⟨⟨x435, p436⟩, H1, HC427⟩ := H.bind; clear H
              try dsimp only at HC427
              go_upto_block 4 with fail
              go_cut [5] (fun v5 w' => v5 = .int .i64 x435 ∧ Hd (Lx w' l z b B ET EA p436 s) ∧ Hd (Fr z w0 w'))
              case first =>
                go_wp2_with fail
                go_loopg [5] K (fun gk v5 w' => ∃ (x428 : Int), ∃ (p429 : Int), v5 = .int .i64 x428 ∧ Hd (consumeUnicodeRangeToken.l2 K B s gk x428 p429 = some (x435, p436)) ∧ Hd (Lx w' l z b B ET EA p429 s) ∧ Hd (Fr z w0 w'))
                case atStart => exact ⟨wrap64 (x395 + 1), p424, (by first | rfl | simp), H1, ⟨hI426⟩, ⟨hF426⟩⟩
                case round =>
                  clear H1
                  obtain ⟨x428, p429, rfl, H, gI, gF⟩ := hrel
                  have hI430 := gI.out; have hF430 := gF.out; clear gI gF
                  have hl430 := hI430.cl
                  cases gk with
                  | zero => exact absurd H.out (by simp [consumeUnicodeRangeToken.l2])
                  | succ k =>
                    simp only [consumeUnicodeRangeToken.l2] at H
                    obtain ⟨⟨t431, p432⟩, A433, HN⟩ := H.bind; clear H; have H := HN; clear HN
                    try dsimp only at H
                    go_wp2_with fail
                    refine (consumeByte.calls hI430 63 t431 p432 A433).mono ?_
                    rintro e w434 ⟨rfl, hI434, k434⟩
                    have hF434 := hF430.trans k434
                    have hl434 := hI434.cl
                    cases t431 with
                    | true =>
                      replace H := H.tt
                      go_wp2_with fail
                      go_roundg k
                      case measure => exact Nat.lt_succ_self _
                      case rel => exact ⟨wrap64 (x428 + 1), p432, (by first | rfl | simp), H, ⟨hI434⟩, ⟨hF434⟩⟩
                    | false =>
                      replace H := H.ff
                      obtain ⟨rfl, rfl⟩ := H.p2
                      go_wp2_with fail
                      go_meet
                      case rel => exact ⟨(by first | rfl | simp), ⟨hI434⟩, ⟨hF434⟩⟩
              case rest =>
                obtain ⟨rfl, gI, gF⟩ := hcut
                have hI437 := gI.out; have hF437 := gF.out; clear gI gF
                have hl437 := hI437.cl
                have H := HC427; clear HC427 H1
                obtain rfl := H.p1
                go_wp2_with fail
                go_meet
                case rel => exact ⟨x435, p436, ⟨rfl⟩, (by first | rfl | simp), ⟨hI437⟩, ⟨hF437⟩⟩
            | false =>
              replace H := H.ff
              obtain rfl := H.p1
              go_wp2_with fail
              go_meet
              case rel => exact ⟨x395, p424, ⟨rfl⟩, (by first | rfl | simp), ⟨hI426⟩, ⟨hF426⟩⟩
        case rest =>
          obtain ⟨x438, p439, ho, rfl, gI, gF⟩ := hcut
          have hI440 := gI.out; have hF440 := gF.out; clear gI gF
          have hl440 := hI440.cl
          have ho := ho.out; subst ho; have H := HC402.inrS; clear HC402 H1
          try dsimp only at H
          generalize hb441 : ((x438 == 0) || (decide (6 < x438))) = b443 at H
          have HB441 := Hd.mk hb441; clear hb441
          go_upto_region 23 with fail
          go_cut [78] (fun v78 w' => v78 = .bool b443 ∧ wc = w')
          case first =>
            clear H
            by_cases e442 : (x438 == 0) = true
            · 
              have e442n : (x438 != 0) = false := by simp only [bne, e442, Bool.not_true]
              go_wp2_with fail
              go_meet
              case rel => exact ⟨by rw [← HB441.out, e442]; first | rfl | simp, rfl⟩
            ·
              replace e442 := Bool.eq_false_iff.mpr e442
              have e442n : (x438 != 0) = true := by simp only [bne, e442, Bool.not_false]
              go_wp2_with fail
              go_meet
              case rel => exact ⟨by rw [← HB441.out, e442]; first | rfl | simp, rfl⟩
          case rest =>
            obtain ⟨rfl, rfl⟩ := hcut
            cases b443 with
            | true =>
              replace H := H.tt
              go_wp2_with fail
              refine (Rewind_calls hI440 (ps p s)).mono ?_
              rintro e w444 ⟨rfl, hI444, k444⟩
              have hF444 := hF440.trans k444
              have hl444 := hI444.cl
              go_wp2_with fail
              go_ret
              obtain ⟨rfl, rfl⟩ := H.p2
              exact ⟨(by first | rfl | simp), hI444, hF444⟩
            | false =>
              replace H := H.ff
              go_wp2_with fail
              go_ret
              obtain ⟨rfl, rfl⟩ := H.p2
              exact ⟨(by first | rfl | simp), hI440, hF440⟩

end Go.Proofs.YteonakpgenkhkaaDoor
