import Derived.Test.YteonakpgenkhkaaDoorM5
namespace Go.Proofs.YteonakpgenkhkaaDoor
open Go.RowKit
set_option linter.unusedVariables false
set_option linter.unusedSimpArgs false
def isQ (c : Int) : Bool := c == 63
theorem run_bound (C : Int → Bool) (T : List Int) : ∀ m q, q ≤ run C T m q ∧ run C T m q ≤ q + m
  | 0, q => ⟨Nat.le_refl _, Nat.le_refl _⟩
  | m + 1, q => by
    unfold run
    split
    · have := run_bound C T m (q + 1); omega
    · omega

theorem Ctx.range_l0 {B T : List Int} {n : Nat} (h : Ctx B n T) {K : Nat} {s : Int} : ∀ (m k q x : Nat), m < k → q ≤ T.length → T.length - q ≤ m → x + m < 1099511627700 → consumeUnicodeRangeToken.l0 K B s k x (pq n q) = some (((x + (run isHex T m q - q) : Nat) : Int), pq n (run isHex T m q))
  | 0, k + 1, q, x, _, hq, hm, hx => by
    unfold consumeUnicodeRangeToken.l0 run
    rw [h.hex hq, getD_big (T := T) (by omega), if_neg (by decide)]
    simp only [bS, Bool.false_eq_true, if_false]
    rw [Nat.sub_self]; rfl
  | m + 1, k + 1, q, x, hk, hq, hm, hx => by
    unfold consumeUnicodeRangeToken.l0 run
    rw [h.hex hq]
    by_cases hh : isHex (T.getD q 0) = true
    · have hql : q < T.length := cls_lt (C := isHex) (by decide) hh
      rw [if_pos hh, if_pos hh]
      simp only [bS, if_true]
      rw [wr1 (by omega), h.range_l0 m k (q + 1) (x + 1) (by omega) (by omega) (by omega) (by omega)]
      have := run_bound isHex T m (q + 1)
      rw [show x + 1 + (run isHex T m (q + 1) - (q + 1)) = x + (run isHex T m (q + 1) - q) by omega]
    · rw [if_neg hh, if_neg hh]
      simp only [bS, Bool.false_eq_true, if_false]
      rw [Nat.sub_self]; rfl
theorem Ctx.range_l1 {B T : List Int} {n : Nat} (h : Ctx B n T) {K : Nat} {s : Int} : ∀ (m k q x : Nat), m < k → q ≤ T.length → T.length - q ≤ m → x + m < 1099511627700 → consumeUnicodeRangeToken.l1 K B s k x (pq n q) = some (((x + (run isHex T m q - q) : Nat) : Int), pq n (run isHex T m q))
  | 0, k + 1, q, x, _, hq, hm, hx => by
    unfold consumeUnicodeRangeToken.l1 run
    rw [h.hex hq, getD_big (T := T) (by omega), if_neg (by decide)]
    simp only [bS, Bool.false_eq_true, if_false]
    rw [Nat.sub_self]; rfl
  | m + 1, k + 1, q, x, hk, hq, hm, hx => by
    unfold consumeUnicodeRangeToken.l1 run
    rw [h.hex hq]
    by_cases hh : isHex (T.getD q 0) = true
    · have hql : q < T.length := cls_lt (C := isHex) (by decide) hh
      rw [if_pos hh, if_pos hh]
      simp only [bS, if_true]
      rw [wr1 (by omega), h.range_l1 m k (q + 1) (x + 1) (by omega) (by omega) (by omega) (by omega)]
      have := run_bound isHex T m (q + 1)
      rw [show x + 1 + (run isHex T m (q + 1) - (q + 1)) = x + (run isHex T m (q + 1) - q) by omega]
    · rw [if_neg hh, if_neg hh]
      simp only [bS, Bool.false_eq_true, if_false]
      rw [Nat.sub_self]; rfl
theorem Ctx.range_l2 {B T : List Int} {n : Nat} (h : Ctx B n T) {K : Nat} {s : Int} : ∀ (m k q x : Nat), m < k → q ≤ T.length → T.length - q ≤ m → x + m < 1099511627700 → consumeUnicodeRangeToken.l2 K B s k x (pq n q) = some (((x + (run isQ T m q - q) : Nat) : Int), pq n (run isQ T m q))
  | 0, k + 1, q, x, _, hq, hm, hx => by
    unfold consumeUnicodeRangeToken.l2 run
    rw [h.byte hq _ 63 (by decide) (by decide), getD_big (T := T) (by omega), if_neg (by decide)]
    simp only [bS, Bool.false_eq_true, if_false]
    rw [Nat.sub_self]; rfl
  | m + 1, k + 1, q, x, hk, hq, hm, hx => by
    unfold consumeUnicodeRangeToken.l2 run
    rw [h.byte hq _ 63 (by decide) (by decide)]
    by_cases hh : isQ (T.getD q 0) = true
    · have hql : q < T.length := cls_lt (C := isQ) (by decide) hh
      rw [if_pos (show (T.getD q 0 == 63) = true from hh), if_pos hh]
      simp only [bS, if_true]
      rw [wr1 (by omega), h.range_l2 m k (q + 1) (x + 1) (by omega) (by omega) (by omega) (by omega)]
      have := run_bound isQ T m (q + 1)
      rw [show x + 1 + (run isQ T m (q + 1) - (q + 1)) = x + (run isQ T m (q + 1) - q) by omega]
    · rw [if_neg (show ¬ (T.getD q 0 == 63) = true from hh), if_neg hh]
      simp only [bS, Bool.false_eq_true, if_false]
      rw [Nat.sub_self]; rfl

theorem codes_l0 {K : Nat} {T : List Int} (hl : T.length < 1099511627000) : ∀ (m k q x : Nat), m < k → m + x = 6 → q ≤ T.length → scodes.l0 K T k x q = some (((x + (run isHex T m q - q) : Nat) : Int), ((run isHex T m q : Nat) : Int))
  | 0, k + 1, q, x, _, hx, hq => by
    unfold scodes.l0 run
    rw [if_neg (by simp; omega)]
    simp only [bS, Bool.false_eq_true, if_false]
    rw [Nat.sub_self]; rfl
  | m + 1, k + 1, q, x, hk, hx, hq => by
    unfold scodes.l0 run
    rw [if_pos (by simp; omega), rpk0 (by omega)]
    simp only [bS, hex_pos]
    by_cases hh : isHex (T.getD q 0) = true
    · rw [if_pos hh, if_pos hh, wr1 (by omega), wr1 (by omega), codes_l0 hl m k (q + 1) (x + 1) (by omega) (by omega) (hex_lt hh)]
      have := run_bound isHex T m (q + 1)
      rw [show x + 1 + (run isHex T m (q + 1) - (q + 1)) = x + (run isHex T m (q + 1) - q) by omega]
    · rw [if_neg hh, if_neg hh, Nat.sub_self]; rfl
theorem codes_l1 {K : Nat} {T : List Int} (hl : T.length < 1099511627000) : ∀ (m k q x : Nat) (b : Bool), m < k → m + x = 6 → q ≤ T.length → scodes.l1 K T k x b q = some ((b || decide (q < run isQ T m q)), ((run isQ T m q : Nat) : Int))
  | 0, k + 1, q, x, b, _, hx, hq => by
    unfold scodes.l1 run
    rw [if_neg (by simp; omega)]
    simp
  | m + 1, k + 1, q, x, b, hk, hx, hq => by
    unfold scodes.l1 run
    rw [if_pos (by simp; omega), rpk0 (by omega)]
    simp only [bS]
    by_cases hh : isQ (T.getD q 0) = true
    · have hql : q < T.length := cls_lt (C := isQ) (by decide) hh
      rw [if_pos (show (T.getD q 0 == 63) = true from hh), if_pos hh, wr1 (by omega), wr1 (by omega), codes_l1 hl m k (q + 1) (x + 1) true (by omega) (by omega) (by omega)]
      have := run_bound isQ T m (q + 1)
      rw [Bool.true_or, decide_eq_true (by omega), Bool.or_true]
    · rw [if_neg (show ¬ (T.getD q 0 == 63) = true from hh), if_neg hh]
      simp
theorem codes_l2 {K : Nat} {T : List Int} (hl : T.length < 1099511627000) : ∀ (m k q x : Nat), m < k → m + x = 6 → q ≤ T.length → scodes.l2 K T k x q = some ((run isHex T m q : Nat) : Int)
  | 0, k + 1, q, x, _, hx, hq => by
    unfold scodes.l2 run
    rw [if_neg (by simp; omega)]
    simp only [bS, Bool.false_eq_true, if_false]
  | m + 1, k + 1, q, x, hk, hx, hq => by
    unfold scodes.l2 run
    rw [if_pos (by simp; omega), rpk0 (by omega)]
    simp only [bS, hex_pos]
    by_cases hh : isHex (T.getD q 0) = true
    · rw [if_pos hh, if_pos hh, wr1 (by omega), wr1 (by omega), codes_l2 hl m k (q + 1) (x + 1) (by omega) (by omega) (hex_lt hh)]
    · rw [if_neg hh, if_neg hh]
theorem w0n : ((0 : Nat) : Int) = 0 := rfl
abbrev rangeK : List Int := [114, 97, 110, 103, 101]
/-- Behind the digits; behind the question marks. -/
def cH (T : List Int) (q : Nat) : Nat := run isHex T 6 (q + 2)
def cM (T : List Int) (q : Nat) : Nat := run isQ T (6 - (cH T q - (q + 2))) (cH T q)
def cB (T : List Int) (q : Nat) : Bool := isHex (T.getD (cM T q) 0) || (T.getD (cM T q) 0 == 63 || (T.getD (cM T q) 0 == 45 && (decide (cH T q < cM T q) || !isHex (T.getD (cM T q + 1) 0))))
def cR (T : List Int) (q : Nat) : Bool := !decide (cH T q < cM T q) && (T.getD (cM T q) 0 == 45 && isHex (T.getD (cM T q + 1) 0))
theorem codes_eq {K : Nat} {T : List Int} (hF : Fit T K) {q : Nat} {o : Bool} (hq : q + 2 ≤ T.length) :
    scodes.f K T q o = if cR T q = true then some (rangeK, ((run isHex T 6 (cM T q + 1) : Nat) : Int), if isHex (T.getD (run isHex T 6 (cM T q + 1)) 0) = true then true else (cB T q || o)) else some (rangeK, (cM T q : Int), (cB T q || o)) := by
  have hl := hF.len
  have hK := hF.fuel
  have b1 := run_bound isHex T 6 (q + 2)
  have e1 := run_le (C := isHex) (by decide) T 6 (q + 2) hq
  unfold scodes.f
  rw [wr2 (by omega)]
  have := codes_l0 (K := K) hl 6 K (q + 2) 0 (by omega) rfl hq
  rw [w0n] at this
  rw [this]
  simp only [bS, Nat.zero_add]
  rw [show run isHex T 6 (q + 2) = cH T q from rfl] at b1 e1 ⊢
  rw [codes_l1 hl (6 - (cH T q - (q + 2))) K (cH T q) (cH T q - (q + 2)) false (by omega) (by omega) e1.2]
  simp only [bS, Bool.false_or]
  have e2 := run_le (C := isQ) (by decide) T (6 - (cH T q - (q + 2))) (cH T q) e1.2
  rw [show run isQ T (6 - (cH T q - (q + 2))) (cH T q) = cM T q from rfl] at e2 ⊢
  rw [rpk0 (by omega), rpk1 (by omega)]
  simp only [bS, hex_pos, hex_neg]
  have eb : (if isHex (T.getD (cM T q) 0) = true then some true else if (T.getD (cM T q) 0 == 63) = true then some true else
      if (T.getD (cM T q) 0 == 45) = true then if decide (cH T q < cM T q) = true then some true else some (!isHex (T.getD (cM T q + 1) 0)) else some false) = some (cB T q) := by
    unfold cB
    cases isHex (T.getD (cM T q) 0) <;> cases (T.getD (cM T q) 0 == 63) <;> cases (T.getD (cM T q) 0 == 45) <;> cases decide (cH T q < cM T q) <;> rfl
  have er : (if decide (cH T q < cM T q) = true then some false else if (T.getD (cM T q) 0 == 45) = true then some (isHex (T.getD (cM T q + 1) 0)) else some false) = some (cR T q) := by
    unfold cR
    cases (T.getD (cM T q) 0 == 45) <;> cases decide (cH T q < cM T q) <;> rfl
  rw [eb, er]
  simp only [bS]
  have eo : (if cB T q = true then some true else some o) = some (cB T q || o) := by cases cB T q <;> rfl
  rw [eo]
  simp only [bS]
  by_cases hr : cR T q = true
  · rw [if_pos hr, if_pos hr, wr1 (by omega)]
    have hlt : cM T q + 1 < T.length := by
      unfold cR at hr
      simp only [Bool.and_eq_true] at hr
      exact hex_lt hr.2.2
    have e3 := run_le (C := isHex) (by decide) T 6 (cM T q + 1) (by omega)
    have := codes_l2 (K := K) hl 6 K (cM T q + 1) 0 (by omega) rfl (by omega)
    rw [w0n] at this
    rw [this]
    simp only [bS]
    rw [rpk0 (by omega)]
    simp only [bS, hex_pos]
    split <;> rfl
  · rw [if_neg hr, if_neg hr]
def uCond (T : List Int) (q : Nat) : Prop := (T.getD q 0 = 117 ∨ T.getD q 0 = 85) ∧ T.getD (q + 1) 0 = 43 ∧ (isHex (T.getD (q + 2) 0) = true ∨ T.getD (q + 2) 0 = 63)
theorem u_head {T : List Int} {q : Nat} (hq : q < T.length) (hc : T.getD q 0 = 117 ∨ T.getD q 0 = 85) {B : List Int} {n : Nat} (hC : Ctx B n T) :
    ((pk B (pq n q) 0).bind fun c375 =>
      (if (c375 == 117) = true then ((pk B (pq n q) 1).bind fun c379 => some (!(c379 == 43))) else
      if (c375 == 85) = true then ((pk B (pq n q) 1).bind fun c382 => some (!(c382 == 43))) else some true)) = some (!(T.getD (q + 1) 0 == 43)) := by
  rw [hC.pk0 (by omega), hC.inn hq, hC.pk1 (by omega)]
  simp only [bS]
  rw [hC.eqq (by omega) 43 (by decide) (by decide)]
  rcases hc with h | h <;> rw [h] <;> rfl
theorem bind_if {X Y Z : Type} {m : Option X} {g : X → Option Y} {h : Y → Option Z} : (m.bind fun x => (g x).bind h) = (m.bind g).bind h := by cases m <;> rfl
theorem codes_no {K : Nat} {T : List Int} (hF : Fit T K) {q : Nat} (hc : T.getD q 0 = 117 ∨ T.getD q 0 = 85) (hn : ¬ uCond T q) {B : List Int} {n : Nat} (hC : Ctx B n T) : consumeUnicodeRangeToken.f K B (pq n q) (pq n q) = some (false, pq n q) := by
  have hl := hF.len
  have hK := hF.fuel
  have hq : q < T.length := lt_of_ne (by rcases hc with h | h <;> rw [h] <;> decide)
  unfold consumeUnicodeRangeToken.f
  rw [bind_if, u_head hq hc hC]
  simp only [bS]
  by_cases h1 : T.getD (q + 1) 0 = 43
  · have hq1 : q + 1 < T.length := lt_of_ne (by rw [h1]; decide)
    rw [h1, if_neg (by decide), hC.mv2 (by omega)]
    have hh : isHex (T.getD (q + 2) 0) = false := Bool.eq_false_iff.mpr fun h => hn ⟨hc, h1, .inl h⟩
    have h63 : T.getD (q + 2) 0 ≠ 63 := fun h => hn ⟨hc, h1, .inr h⟩
    have := hC.range_l0 (K := K) (s := pq n q) T.length K (q + 2) 0 (by omega) (by omega) (by omega) (by omega)
    rw [w0n] at this
    rw [this, run_zero hh]
    simp only [bS, Nat.sub_self, Nat.zero_add]
    rw [hC.byte (by omega) _ 45 (by decide) (by decide), hC.rw_ (by omega) (by omega)]
    by_cases h45 : (T.getD (q + 2) 0 == 45) = true
    · rw [if_pos h45]
      simp only [bS, if_true]
      rw [if_pos (by simp)]
      rfl
    · rw [if_neg h45]
      simp only [bS, Bool.false_eq_true, if_false]
      rw [hC.byte (by omega) _ 63 (by decide) (by decide), if_neg (by simpa using h63)]
      simp only [bS, Bool.false_eq_true, if_false, joinS]
      rw [if_pos (by simp)]
  · rw [if_pos (by simpa using h1)]
theorem codes_law {K : Nat} {T : List Int} (hF : Fit T K) {q : Nat} {o : Bool} (hu : uCond T q) :
    ∃ (q' : Nat) (o' : Bool), scodes.f K T q o = some (rangeK, (q' : Int), o') ∧ q < q' ∧ q' ≤ T.length ∧ (o' = false → o = false ∧ (Good T → ∀ (B : List Int) (n : Nat), Ctx B n T → consumeUnicodeRangeToken.f K B (pq n q) (pq n q) = some (true, pq n q'))) := by
  have hl := hF.len
  have hK := hF.fuel
  obtain ⟨hc, h43, hx⟩ := hu
  have hq : q < T.length := lt_of_ne (by rcases hc with h | h <;> rw [h] <;> decide)
  have hq2 : q + 2 < T.length := by
    rcases hx with h | h
    · exact hex_lt h
    · exact lt_of_ne (by rw [h]; decide)
  rw [codes_eq hF (by omega)]
  have b1 := run_bound isHex T 6 (q + 2)
  have e1 := run_le (C := isHex) (by decide) T 6 (q + 2) (by omega)
  have b2 := run_bound isQ T (6 - (cH T q - (q + 2))) (cH T q)
  rw [show run isHex T 6 (q + 2) = cH T q from rfl] at b1 e1
  have e2 := run_le (C := isQ) (by decide) T (6 - (cH T q - (q + 2))) (cH T q) e1.2
  rw [show run isQ T (6 - (cH T q - (q + 2))) (cH T q) = cM T q from rfl] at e2 b2
  -- the digits, read whole
  have whole : cB T q = false → run isHex T T.length (q + 2) = cH T q ∧ run isQ T T.length (cH T q) = cM T q := by
    intro hb
    unfold cB at hb
    simp only [Bool.or_eq_false_iff] at hb
    have hM : isHex (T.getD (cH T q) 0) = false := by
      by_cases h : cH T q = cM T q
      · rw [h]; exact hb.1
      · have h63 : isQ (T.getD (cH T q) 0) = true := by
          cases h' : isQ (T.getD (cH T q) 0) with
          | true => rfl
          | false => exact absurd (run_zero h').symm h
        rw [beq_iff_eq.mp h63]; decide
    have k1 : ∀ m, cH T q = run isHex T m (q + 2) ∨ True := fun _ => .inr trivial
    have r1 : run isHex T T.length (q + 2) = cH T q := by
      rcases Nat.le_total T.length 6 with h | h
      · have hs := run_stop (C := isHex) (by decide) T T.length (q + 2) (by omega) (by omega)
        exact (run_more T T.length 6 (q + 2) h hs).symm
      · exact run_more T 6 T.length (q + 2) h hM
    refine ⟨r1, ?_⟩
    rcases Nat.le_total T.length (6 - (cH T q - (q + 2))) with h | h
    · have hs := run_stop (C := isQ) (by decide) T T.length (cH T q) e1.2 (by omega)
      exact (run_more T T.length _ (cH T q) h hs).symm
    · exact run_more T _ T.length (cH T q) h hb.2.1
  have start : cH T q = q + 2 → cH T q < cM T q := by
    intro h
    rcases hx with h' | h'
    · have : q + 2 + 1 ≤ cH T q := run_pos (C := isHex) (m := 5) (by decide) h'
      omega
    · unfold cM
      rw [h, Nat.sub_self]
      exact run_pos (C := isQ) (m := 5) (by decide) (by unfold isQ; rw [h']; rfl)
  have lex : cB T q = false → ∀ (B : List Int) (n : Nat), Ctx B n T → ∀ (p : Int → Option (Bool × Int)), True := fun _ _ _ _ _ => trivial
  have fin : ∀ (B : List Int) (n x p : Nat), Ctx B n T → 1 ≤ x → x ≤ 6 → (if (((x : Int) == 0) || (decide (6 < (x : Int)))) = true then (some (false, rwd (pq n q) (ps (pq n q) (pq n q)))) else some (true, pq n p)) = some (true, pq n p) := by
    intro B n x p hC h1 h2
    rw [if_neg]
    simp
    omega
  have head : ∀ (B : List Int) (n : Nat), Ctx B n T → cB T q = false → consumeUnicodeRangeToken.f K B (pq n q) (pq n q) =
      ((consumeByte.f B (pq n (cH T q)) (pq n q) 45).bind fun (t398, p399) =>
        (if t398 = true then (if ((((cH T q - (q + 2) : Nat) : Int) == 0) || (decide (6 < ((cH T q - (q + 2) : Nat) : Int)))) = true then (outS (some (false, rwd (pq n q) (ps (pq n q) (pq n q))))) else
        (consumeHexDigit.f B p399 (pq n q)).bind fun (t407, p408) =>
        if t407 = true then ((consumeUnicodeRangeToken.l1 K B (pq n q) K 1 p408).bind fun (x419, p420) =>
        some (.inr (x419, p420))) else
        outS (some (false, rwd (pq n q) (ps (pq n q) (pq n q))))) else
        (consumeByte.f B p399 (pq n q) 63).bind fun (t423, p424) =>
        if t423 = true then ((consumeUnicodeRangeToken.l2 K B (pq n q) K (wrap64 (((cH T q - (q + 2) : Nat) : Int) + 1)) p424).bind fun (x435, p436) =>
        some (.inr (x435, p436))) else
        some (.inr (((cH T q - (q + 2) : Nat) : Int), p424))).bind fun o => joinS o some fun (x438, p439) =>
        if ((x438 == 0) || (decide (6 < x438))) = true then (some (false, rwd (pq n q) (ps (pq n q) (pq n q)))) else
        some (true, p439)) := by
    intro B n hC hb
    unfold consumeUnicodeRangeToken.f
    rw [bind_if, u_head hq hc hC, h43]
    simp only [bS]
    rw [if_neg (by decide), hC.mv2 (by omega)]
    have := hC.range_l0 (K := K) (s := pq n q) T.length K (q + 2) 0 (by omega) (by omega) (by omega) (by omega)
    rw [w0n] at this
    rw [this, (whole hb).1]
    simp only [bS, Nat.zero_add]
  by_cases hr : cR T q = true
  · rw [if_pos hr]
    have hr' := hr
    unfold cR at hr'
    simp only [Bool.and_eq_true, Bool.not_eq_true', decide_eq_false_iff_not] at hr'
    obtain ⟨hm, h45, hx1⟩ := hr'
    have hMH : cM T q = cH T q := by omega
    rw [hMH] at h45 hx1 ⊢
    have hlt : cH T q + 1 < T.length := hex_lt hx1
    have e3 := run_le (C := isHex) (by decide) T 6 (cH T q + 1) (by omega)
    have b3 := run_bound isHex T 6 (cH T q + 1)
    have p3 : cH T q + 1 + 1 ≤ run isHex T 6 (cH T q + 1) := run_pos (C := isHex) (m := 5) (by decide) hx1
    refine ⟨_, _, rfl, by omega, e3.2, fun ho => ?_⟩
    by_cases he : isHex (T.getD (run isHex T 6 (cH T q + 1)) 0) = true
    · rw [if_pos he] at ho; cases ho
    · rw [if_neg he] at ho
      simp only [Bool.or_eq_false_iff] at ho
      refine ⟨ho.2, fun hG B n hC => ?_⟩
      have hH1 : q + 2 < cH T q := by
        rcases Nat.lt_or_ge (q + 2) (cH T q) with h | h
        · exact h
        · have := start (by omega); omega
      rw [head B n hC ho.1, hC.byte e1.2 _ 45 (by decide) (by decide), if_pos h45]
      simp only [bS, if_true]
      rw [if_neg (by simp; omega), hC.hex (by omega), if_pos hx1]
      simp only [bS, if_true]
      have := hC.range_l1 (K := K) (s := pq n q) T.length K (cH T q + 1 + 1) 1 (by omega) (by omega) (by omega) (by omega)
      rw [show ((1 : Nat) : Int) = 1 from rfl] at this
      have hrun : run isHex T T.length (cH T q + 1 + 1) = run isHex T 6 (cH T q + 1) := by
        have s1 : run isHex T 6 (cH T q + 1) = run isHex T 5 (cH T q + 1 + 1) := run_succ hx1
        rw [s1] at he ⊢
        rcases Nat.le_total T.length 5 with h | h
        · have hs := run_stop (C := isHex) (by decide) T T.length (cH T q + 1 + 1) (by omega) (by omega)
          exact (run_more T T.length 5 _ h hs).symm
        · exact run_more T 5 T.length _ h (Bool.eq_false_iff.mpr he)
      rw [this, hrun]
      simp only [bS, joinS]
      exact fin B n _ _ hC (by omega) (by omega)
  · rw [if_neg hr]
    refine ⟨_, _, rfl, by omega, e2.2, fun ho => ?_⟩
    simp only [Bool.or_eq_false_iff] at ho
    refine ⟨ho.2, fun hG B n hC => ?_⟩
    have hb := ho.1
    have hb' := hb
    unfold cB at hb'
    simp only [Bool.or_eq_false_iff, Bool.and_eq_false_iff] at hb'
    have h45 : (T.getD (cH T q) 0 == 45) = false := by
      by_cases h : cH T q < cM T q
      · have h63 : isQ (T.getD (cH T q) 0) = true := by
          cases h' : isQ (T.getD (cH T q) 0) with
          | true => rfl
          | false => unfold cM at h; rw [run_zero h'] at h; omega
        rw [beq_iff_eq.mp h63]; decide
      · have hMH : cM T q = cH T q := by omega
        rw [← hMH]
        cases h5 : (T.getD (cM T q) 0 == 45) with
        | false => rfl
        | true =>
          exfalso
          rcases hb'.2.2 with h | h
          · rw [h5] at h; cases h
          · simp only [Bool.or_eq_false_iff, Bool.not_eq_false'] at h
            apply hr
            unfold cR
            rw [h.1, h5, h.2]; rfl
    rw [head B n hC hb, hC.byte e1.2 _ 45 (by decide) (by decide), h45, if_neg (by decide)]
    simp only [bS, Bool.false_eq_true, if_false]
    rw [hC.byte e1.2 _ 63 (by decide) (by decide)]
    by_cases h63 : (T.getD (cH T q) 0 == 63) = true
    · have hHl : cH T q < T.length := cls_lt (C := isQ) (by decide) h63
      rw [if_pos h63]
      simp only [bS, if_true]
      rw [wr1 (by omega)]
      have hrun : run isQ T T.length (cH T q + 1) = cM T q := by
        rw [← (whole hb).2]
        exact (rn_step (C := isQ) (by decide) h63).symm
      rw [hC.range_l2 (K := K) T.length K (cH T q + 1) (cH T q - (q + 2) + 1) (by omega) (by omega) (by omega) (by omega), hrun]
      have hp : cH T q + 1 ≤ cM T q := by
        have := run_le (C := isQ) (by decide) T T.length (cH T q + 1) (by omega)
        omega
      simp only [bS, joinS]
      exact fin B n _ _ hC (by omega) (by omega)
    · rw [if_neg h63]
      simp only [bS, Bool.false_eq_true, if_false, joinS]
      have hMH : cM T q = cH T q := by unfold cM; exact run_zero (Bool.eq_false_iff.mpr h63)
      rw [hMH]
      have hH1 : q + 2 < cH T q := by
        rcases Nat.lt_or_ge (q + 2) (cH T q) with h | h
        · exact h
        · have := start (by omega); omega
      exact fin B n _ _ hC (by omega) (by omega)
end Go.Proofs.YteonakpgenkhkaaDoor
