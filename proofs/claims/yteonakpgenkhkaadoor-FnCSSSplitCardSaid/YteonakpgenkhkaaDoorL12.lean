import Derived.Test.YteonakpgenkhkaaDoorL10
namespace Go.Proofs.YteonakpgenkhkaaDoor
open Go.RowKit
set_option linter.unusedVariables false
set_option linter.unusedSimpArgs false
/-! The plain law: no program in sight. -/
theorem wr {n : Nat} (h : n ≤ 1099511627776) : wrap64 (n : Int) = n := by unfold wrap64; omega
theorem wr1 {n : Nat} (h : n < 1099511627776) : wrap64 ((n : Int) + 1) = ((n + 1 : Nat) : Int) := by unfold wrap64; omega
def big : Nat := 1099511627776
theorem rpk0 {T : List Int} {q : Nat} (h : q < 1099511627776) : rpk T q 0 = some (T.getD q 0) := by
  unfold rpk
  have e : wrap64 ((q : Int) + 0) = q := by unfold wrap64; omega
  rw [e]
  split
  · rw [List.getD_eq_getElem?_getD, List.getElem?_eq_none (by omega)]; rfl
  · rw [if_pos (by omega)]; simp
theorem rpkn {T : List Int} {q : Nat} {m : Int} (d : Nat) (e : m = d) (h : q + d < 1099511627776) : rpk T q m = some (T.getD (q + d) 0) := by
  subst e
  unfold rpk
  have e : wrap64 ((q : Int) + d) = ((q + d : Nat) : Int) := by unfold wrap64; omega
  rw [e]
  split
  · rw [List.getD_eq_getElem?_getD, List.getElem?_eq_none (by omega)]; rfl
  · rw [if_pos (by omega), Int.toNat_natCast]
theorem getD_app (T : List Int) (q : Nat) : (T ++ [0]).getD q 0 = T.getD q 0 := by
  rw [List.getD_eq_getElem?_getD, List.getD_eq_getElem?_getD, List.getElem?_append]
  split
  · rfl
  · rename_i h
    rw [List.getElem?_eq_none (l := T) (by omega)]
    rcases Nat.lt_or_ge (q - T.length) 1 with h' | h'
    · rw [show q - T.length = 0 by omega]; rfl
    · rw [List.getElem?_eq_none (by simp only [List.length_singleton]; exact h')]
theorem pkn {T : List Int} {q : Nat} {m : Int} (d : Nat) (e : m = d) (h : q + d ≤ T.length) (hl : T.length < 1099511627776) : pk (T ++ [0]) q m = some (T.getD (q + d) 0) := by
  subst e
  unfold pk peek
  have e : wrap64 ((d : Int) + q) = ((q + d : Nat) : Int) := by unfold wrap64; omega
  rw [e, if_pos (by simp; omega), Int.toNat_natCast, getD_app]
theorem pk0 {T : List Int} {q : Nat} (h : q ≤ T.length) (hl : T.length < 1099511627776) : pk (T ++ [0]) q 0 = some (T.getD q 0) := pkn 0 rfl h hl
theorem mv1 {q : Nat} (h : q < 1099511627776) : mv (q : Int) 1 = ((q + 1 : Nat) : Int) := by unfold mv wrap64; omega
theorem mvn {q m : Nat} (h : q + m < 1099511627776) : mv (q : Int) (m : Int) = ((q + m : Nat) : Int) := by unfold mv wrap64; omega
theorem psn {q : Nat} (h : q < 1099511627776) : ps (q : Int) 0 = q := by unfold ps wrap64; omega
theorem rwdn {q : Nat} (h : q < 1099511627776) : rwd 0 (ps (q : Int) 0) = q := by unfold rwd ps wrap64; omega
theorem atEndn {T : List Int} {q : Nat} (h : q < 1099511627776) (hl : T.length < 1099511627776) : atEnd (T ++ [0]) q 0 = decide (T.length ≤ q) := by
  unfold atEnd
  have e : wrap64 ((q : Int) + 0) = q := by unfold wrap64; omega
  have e2 : wrap64 (((T ++ [0]).length : Int) - 1) = T.length := by rw [List.length_append]; unfold wrap64; simp; omega
  rw [e, e2]; simp
theorem rovern {T : List Int} {q : Nat} : rover T q = decide (T.length ≤ q) := by unfold rover; simp
def isHex (c : Int) : Bool := ((((decide (48 ≤ c)) && (decide (c ≤ 57))) || ((decide (97 ≤ c)) && (decide (c ≤ 102)))) || ((decide (65 ≤ c)) && (decide (c ≤ 70))))
theorem hex_neg (c : Int) : decide (shexValue.f c < 0) = !isHex c := by
  unfold shexValue.f sisDigit.f isHex wrap64
  by_cases h1 : 48 ≤ c <;> by_cases h2 : c ≤ 57 <;> by_cases h3 : 97 ≤ c <;> by_cases h4 : c ≤ 102 <;> by_cases h5 : 65 ≤ c <;> by_cases h6 : c ≤ 70 <;> simp [h1, h2, h3, h4, h5, h6] <;> omega
theorem hex_pos (c : Int) : decide (0 ≤ shexValue.f c) = isHex c := by
  have := hex_neg c
  by_cases h : shexValue.f c < 0
  · rw [decide_eq_true h] at this
    rw [decide_eq_false (by omega)]
    cases hh : isHex c <;> simp_all
  · rw [decide_eq_false h] at this
    rw [decide_eq_true (by omega)]
    cases hh : isHex c <;> simp_all
def isCont (c : Int) : Bool := decide (128 ≤ c) && decide (c < 192)
theorem cont_eq {c : Int} (h : 0 ≤ c ∧ c < 256) : ((Go.bits .and .u8 c 192) == 128) = isCont c := by
  have : ∀ n : Fin 256, ((Go.bits .and .u8 (n.val : Int) 192) == 128) = isCont (n.val : Int) := by decide +kernel
  have := this ⟨c.toNat, by omega⟩
  simpa [show ((c.toNat : Nat) : Int) = c by omega] using this
/-- Behind at most m hexadecimal digits. -/
def hexrun (T : List Int) : Nat → Nat → Nat
  | 0, q => q
  | m + 1, q => if isHex (T.getD q 0) = true then hexrun T m (q + 1) else q
theorem getD_big {T : List Int} {q : Nat} (h : T.length ≤ q) : T.getD q 0 = 0 := by rw [List.getD_eq_getElem?_getD, List.getElem?_eq_none h]; rfl
theorem lt_of_ne {T : List Int} {q : Nat} (h : T.getD q 0 ≠ 0) : q < T.length := by
  rcases Nat.lt_or_ge q T.length with h' | h'
  · exact h'
  · exact absurd (getD_big h') h
theorem hex_lt {T : List Int} {q : Nat} (h : isHex (T.getD q 0) = true) : q < T.length := lt_of_ne (by rintro e; rw [e] at h; exact absurd h (by decide))
theorem hexrun_le (T : List Int) : ∀ m q, q ≤ T.length → q ≤ hexrun T m q ∧ hexrun T m q ≤ T.length
  | 0, q, h => ⟨Nat.le_refl _, h⟩
  | m + 1, q, h => by
    unfold hexrun
    split
    · rename_i hh
      have := hexrun_le T m (q + 1) (hex_lt hh)
      omega
    · exact ⟨Nat.le_refl _, h⟩
theorem l1_eq {K : Nat} {T : List Int} (hl : T.length < 1099511627776) : ∀ (m k q x : Nat), m < k → m + x = 6 → q ≤ T.length → sescape.l1 K T k x q = some (hexrun T m q)
  | 0, k + 1, q, x, _, hx, hq => by
    unfold sescape.l1 hexrun
    rw [if_neg (by simp; omega)]
    simp
  | m + 1, k + 1, q, x, hk, hx, hq => by
    unfold sescape.l1 hexrun
    rw [if_pos (by simp; omega), rpk0 (by omega)]
    simp only [Option.bind_some, hex_pos]
    split
    · rename_i hh
      rw [wr1 (by omega), wr1 (by omega)]
      exact l1_eq hl m k (q + 1) (x + 1) (by omega) (by omega) (hex_lt hh)
    · rfl
theorem hexdigit_eq {T : List Int} {q : Nat} (hq : q ≤ T.length) (hl : T.length < 1099511627776) : consumeHexDigit.f (T ++ [0]) q 0 = if isHex (T.getD q 0) = true then some (true, ((q + 1 : Nat) : Int)) else some (false, (q : Int)) := by
  unfold consumeHexDigit.f
  rw [pk0 hq hl, mv1 (by omega)]
  rfl
theorem el0_eq {K : Nat} {T : List Int} (hl : T.length < 1099511627776) : ∀ (m k q x : Nat), m < k → m + x = 6 → q ≤ T.length → consumeEscape.l0 K (T ++ [0]) 0 k x q = some ((hexrun T m q : Nat) : Int)
  | 0, k + 1, q, x, _, hx, hq => by
    unfold consumeEscape.l0 hexrun
    rw [if_neg (by simp; omega)]
  | m + 1, k + 1, q, x, hk, hx, hq => by
    unfold consumeEscape.l0 hexrun
    rw [if_pos (by simp; omega), hexdigit_eq hq hl]
    by_cases hh : isHex (T.getD q 0) = true
    · rw [if_pos hh, if_pos hh]
      simp only [Option.bind_some, if_true]
      rw [wr1 (by omega)]
      exact el0_eq hl m k (q + 1) (x + 1) (by omega) (by omega) (hex_lt hh)
    · rw [if_neg hh, if_neg hh]
      simp
/-- Behind the bytes that follow a character's first. -/
def skip (T : List Int) : Nat → Nat → Nat
  | 0, q => q
  | m + 1, q => if q < T.length ∧ isCont (T.getD q 0) = true then skip T m (q + 1) else q
theorem skip_le (T : List Int) : ∀ m q, q ≤ T.length → q ≤ skip T m q ∧ skip T m q ≤ T.length
  | 0, q, h => ⟨Nat.le_refl _, h⟩
  | m + 1, q, h => by
    unfold skip
    split
    · have := skip_le T m (q + 1) (by omega)
      omega
    · exact ⟨Nat.le_refl _, h⟩
theorem l0_eq {K : Nat} {T : List Int} (hT : isU8 T) (hl : T.length < 1099511627776) : ∀ (m k q : Nat), m < k → q ≤ T.length → T.length - q ≤ m → sescape.l0 K T k q = some ((skip T m q : Nat) : Int)
  | m, k + 1, q, hk, hq, hm => by
    unfold sescape.l0
    rw [rovern]
    by_cases h : T.length ≤ q
    · rw [decide_eq_true h]
      have : skip T m q = q := by cases m <;> simp [skip]; omega
      simp [this]
    · rw [decide_eq_false h, rpk0 (by omega)]
      simp only [Option.bind_some, cont_eq (hT q (by omega)), Bool.false_eq_true, if_false]
      obtain ⟨m, rfl⟩ : ∃ j, m = j + 1 := ⟨m - 1, by omega⟩
      unfold skip
      by_cases hc : isCont (T.getD q 0) = true
      · rw [if_pos hc, if_pos ⟨by omega, hc⟩, wr1 (by omega)]
        exact l0_eq hT hl m k (q + 1) (by omega) (by omega) (by omega)
      · rw [if_neg hc, if_neg (fun h => hc h.2)]
end Go.Proofs.YteonakpgenkhkaaDoor
