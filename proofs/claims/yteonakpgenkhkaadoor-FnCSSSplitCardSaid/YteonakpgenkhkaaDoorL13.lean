import Derived.Test.YteonakpgenkhkaaDoorL12
namespace Go.Proofs.YteonakpgenkhkaaDoor
open Go.RowKit
set_option linter.unusedVariables false
set_option linter.unusedSimpArgs false
theorem bS {X Y : Type} {a : X} {f : X → Option Y} : (some a).bind f = f a := by simp only [Option.bind_some]
def contAt (T : List Int) (q : Nat) : Prop := q < T.length ∧ isCont (T.getD q 0) = true
theorem pk1 {T : List Int} {q : Nat} (h : q + 1 ≤ T.length) (hl : T.length < 1099511627776) : pk (T ++ [0]) q 1 = some (T.getD (q + 1) 0) := pkn 1 rfl h hl
theorem pk2 {T : List Int} {q : Nat} (h : q + 2 ≤ T.length) (hl : T.length < 1099511627776) : pk (T ++ [0]) q 2 = some (T.getD (q + 2) 0) := pkn 2 rfl h hl
theorem pk3 {T : List Int} {q : Nat} (h : q + 3 ≤ T.length) (hl : T.length < 1099511627776) : pk (T ++ [0]) q 3 = some (T.getD (q + 3) 0) := pkn 3 rfl h hl
theorem contAt_cons {c : Int} {l : List Int} {q : Nat} : contAt (c :: l) (q + 1) ↔ contAt l q := by unfold contAt; simp
theorem not_contAt_zero {T : List Int} (h : Utf8 T) : ¬ contAt T 0 := by
  rintro ⟨h0, hc⟩
  cases h with
  | nil => simp at h0
  | one h k => simp [isCont] at hc; omega
  | two h => simp [isCont] at hc; omega
  | three h => simp [isCont] at hc; omega
  | four h => simp [isCont] at hc; omega
/-- What stands behind the byte at q. -/
def After (T : List Int) (q : Nat) : Prop :=
  (T.getD q 0 < 128 → ¬ contAt T (q + 1)) ∧
  (192 ≤ T.getD q 0 → T.getD q 0 < 224 → contAt T (q + 1) ∧ ¬ contAt T (q + 2)) ∧
  (224 ≤ T.getD q 0 → T.getD q 0 < 240 → contAt T (q + 1) ∧ contAt T (q + 2) ∧ ¬ contAt T (q + 3)) ∧
  (240 ≤ T.getD q 0 → contAt T (q + 1) ∧ contAt T (q + 2) ∧ contAt T (q + 3) ∧ ¬ contAt T (q + 4))
theorem After_cons {c : Int} {l : List Int} {q : Nat} : After (c :: l) (q + 1) ↔ After l q := by
  unfold After
  rw [show q + 1 + 1 = (q + 1) + 1 from rfl, show q + 1 + 2 = (q + 2) + 1 from rfl, show q + 1 + 3 = (q + 3) + 1 from rfl, show q + 1 + 4 = (q + 4) + 1 from rfl]
  simp only [contAt_cons, List.getD_cons_succ]
theorem isCont_lt {d : Int} (h : 128 ≤ d ∧ d < 192) : isCont d = true := by simp [isCont, h.1, h.2]
theorem After_of_cont {l : List Int} {c : Int} (h : 128 ≤ c ∧ c < 192) : After (c :: l) 0 := by
  unfold After
  simp only [List.getD_cons_zero]
  refine ⟨fun _ => by omega, fun _ => by omega, fun _ => by omega, fun _ => by omega⟩
theorem Utf8.after {T : List Int} (h : Utf8 T) : ∀ q, q < T.length → After T q := by
  induction h with
  | nil => intro q hq; simp at hq
  | @one c l h k ih =>
    intro q hq
    cases q with
    | zero =>
      have := not_contAt_zero k
      unfold After
      simp only [List.getD_cons_zero, contAt_cons]
      refine ⟨fun _ => this, fun _ => by omega, fun _ => by omega, fun _ => by omega⟩
    | succ q => rw [After_cons]; exact ih q (by simpa using hq)
  | @two c d l h h1 k ih =>
    intro q hq
    match q, hq with
    | 0, hq =>
      have := not_contAt_zero k
      unfold After
      rw [show 0 + 2 = (0 + 1) + 1 from rfl]
      simp only [List.getD_cons_zero, contAt_cons]
      refine ⟨fun _ => by omega, fun _ _ => ⟨⟨by simp, isCont_lt (by simpa using h1)⟩, this⟩, fun _ => by omega, fun _ => by omega⟩
    | 1, hq => rw [show (1 : Nat) = 0 + 1 from rfl, After_cons]; exact After_of_cont h1
    | q + 2, hq => rw [show q + 2 = (q + 1) + 1 from rfl, After_cons, After_cons]; exact ih q (by simpa using hq)
  | @three c d e l h h1 h2 k ih =>
    intro q hq
    match q, hq with
    | 0, hq =>
      have := not_contAt_zero k
      unfold After
      rw [show 0 + 2 = (0 + 1) + 1 from rfl, show 0 + 3 = ((0 + 1) + 1) + 1 from rfl]
      simp only [List.getD_cons_zero, contAt_cons]
      refine ⟨fun _ => by omega, fun _ _ => by omega, fun _ _ => ⟨⟨by simp, isCont_lt (by simpa using h1)⟩, ⟨by simp, isCont_lt (by simpa using h2)⟩, this⟩, fun _ => by omega⟩
    | 1, hq => rw [show (1 : Nat) = 0 + 1 from rfl, After_cons]; exact After_of_cont h1
    | 2, hq => rw [show (2 : Nat) = (0 + 1) + 1 from rfl, After_cons, After_cons]; exact After_of_cont h2
    | q + 3, hq => rw [show q + 3 = ((q + 1) + 1) + 1 from rfl, After_cons, After_cons, After_cons]; exact ih q (by simpa using hq)
  | @four c d e f l h h1 h2 h3 k ih =>
    intro q hq
    match q, hq with
    | 0, hq =>
      have := not_contAt_zero k
      unfold After
      rw [show 0 + 2 = (0 + 1) + 1 from rfl, show 0 + 3 = ((0 + 1) + 1) + 1 from rfl, show 0 + 4 = (((0 + 1) + 1) + 1) + 1 from rfl]
      simp only [List.getD_cons_zero, contAt_cons]
      refine ⟨fun _ => by omega, fun _ _ => by omega, fun _ _ => by omega, fun _ => ⟨⟨by simp, isCont_lt (by simpa using h1)⟩, ⟨by simp, isCont_lt (by simpa using h2)⟩, ⟨by simp, isCont_lt (by simpa using h3)⟩, this⟩⟩
    | 1, hq => rw [show (1 : Nat) = 0 + 1 from rfl, After_cons]; exact After_of_cont h1
    | 2, hq => rw [show (2 : Nat) = (0 + 1) + 1 from rfl, After_cons, After_cons]; exact After_of_cont h2
    | 3, hq => rw [show (3 : Nat) = ((0 + 1) + 1) + 1 from rfl, After_cons, After_cons, After_cons]; exact After_of_cont h3
    | q + 4, hq => rw [show q + 4 = (((q + 1) + 1) + 1) + 1 from rfl, After_cons, After_cons, After_cons, After_cons]; exact ih q (by simpa using hq)
theorem skip_stop {T : List Int} {q : Nat} (m : Nat) (h : ¬ contAt T q) : skip T m q = q := by
  cases m with
  | zero => rfl
  | succ m => unfold skip; exact if_neg h
theorem skip_go {T : List Int} {q : Nat} (m : Nat) (h : contAt T q) : skip T (m + 1) q = skip T m (q + 1) := by
  conv => lhs; unfold skip
  exact if_pos h
def isNl (c : Int) : Bool := (c == 10) || (c == 13) || (c == 12)
/-- Behind an escape that starts at q. -/
def escAt (T : List Int) (q : Nat) : Nat :=
  if isHex (T.getD (q + 1) 0) = true then
    (if sIsBlank.f (T.getD (hexrun T 6 (q + 1)) 0) = true then hexrun T 6 (q + 1) + 1 else hexrun T 6 (q + 1))
  else skip T T.length (q + 2)
theorem blank_lt {T : List Int} {q : Nat} (h : sIsBlank.f (T.getD q 0) = true) : q < T.length := lt_of_ne (by rintro e; rw [e] at h; exact absurd h (by decide))
theorem hexrun_pos {T : List Int} {m q : Nat} (h : isHex (T.getD q 0) = true) : q + 1 ≤ hexrun T (m + 1) q := by
  unfold hexrun
  rw [if_pos h]
  exact (hexrun_le T m (q + 1) (hex_lt h)).1
theorem hexrun_pos6 {T : List Int} {q : Nat} (h : isHex (T.getD q 0) = true) : q + 1 ≤ hexrun T 6 q := hexrun_pos (m := 5) h
theorem escAt_le {T : List Int} {q : Nat} (h : q + 1 < T.length) : q + 2 ≤ escAt T q ∧ escAt T q ≤ T.length := by
  unfold escAt
  split
  · rename_i hh
    have := hexrun_le T 6 (q + 1) (by omega)
    have := hexrun_pos6 hh
    split
    · rename_i hb
      have := blank_lt hb
      omega
    · omega
  · have := skip_le T T.length (q + 2) (by omega)
    omega
theorem l1_eq0 {K k q : Nat} {T : List Int} (hl : T.length < 1099511627776) (hk : 6 < k) (hq : q ≤ T.length) : sescape.l1 K T k 0 q = some ((hexrun T 6 q : Nat) : Int) := l1_eq hl 6 k q 0 hk rfl hq
theorem el0_eq1 {K k q : Nat} {T : List Int} (hl : T.length < 1099511627776) (hk : 5 < k) (hq : q ≤ T.length) : consumeEscape.l0 K (T ++ [0]) 0 k 1 q = some ((hexrun T 5 q : Nat) : Int) := el0_eq hl 5 k q 1 hk rfl hq
theorem sescape_eq {K : Nat} {T : List Int} {q : Nat} {o : Bool} (hT : isU8 T) (hl : T.length < 1099511627000) (hK : T.length + 10 ≤ K) (h : q + 1 < T.length) :
    sescape.f K T q o = some (((escAt T q : Nat) : Int), if isHex (T.getD (q + 1) 0) = true ∧ T.getD (hexrun T 6 (q + 1)) 0 = 13 then true else o) := by
  unfold sescape.f
  rw [wr1 (by omega), rpk0 (by omega)]
  simp only [bS, hex_neg]
  unfold escAt
  by_cases hh : isHex (T.getD (q + 1) 0) = true
  · have hle := hexrun_le T 6 (q + 1) (by omega)
    rw [hh]
    simp only [Bool.not_true, Bool.false_eq_true, if_false, if_true, true_and]
    rw [l1_eq0 (by omega) (by omega) (by omega)]
    simp only [bS]
    rw [rpk0 (by omega)]
    simp only [bS]
    generalize hx : T.getD (hexrun T 6 (q + 1)) 0 = x
    by_cases h13 : x = 13
    · subst h13
      simp only [beq_self_eq_true, if_true, bS]
      rw [if_pos (by decide), if_pos (by decide), wr1 (by omega)]
    · have : (x == 13) = false := by simpa using h13
      simp only [this, Bool.false_eq_true, if_false, h13, bS]
      split
      · rw [wr1 (by omega)]
      · rfl
  · rw [Bool.eq_false_iff.mpr hh]
    simp only [Bool.not_false, if_true, Bool.false_eq_true, if_false, false_and]
    rw [wr1 (by omega), l0_eq hT (by omega) T.length K (q + 1 + 1) (by omega) (by omega) (by omega)]
    rfl
theorem newline_eq {T : List Int} {q : Nat} (h : q ≤ T.length) (hl : T.length < 1099511627000) : ∃ p, consumeNewline.f (T ++ [0]) q 0 = some (isNl (T.getD q 0), p) ∧ (isNl (T.getD q 0) = false → p = q) := by
  unfold consumeNewline.f
  rw [pk0 h (by omega)]
  simp only [bS]
  generalize hx : T.getD q 0 = x
  by_cases h1 : x = 10 ∨ x = 12
  · rw [if_pos (by simpa using h1)]
    have : isNl x = true := by rcases h1 with rfl | rfl <;> decide
    exact ⟨_, by rw [this], fun h => by rw [this] at h; cases h⟩
  · rw [if_neg (by simpa using h1)]
    by_cases h2 : x = 13
    · have hq : q < T.length := lt_of_ne (by rw [hx, h2]; decide)
      subst h2
      rw [pk1 (by omega) (by omega)]
      simp only [beq_self_eq_true, if_true, bS]
      split
      · exact ⟨_, rfl, fun h => absurd h (by decide)⟩
      · exact ⟨_, rfl, fun h => absurd h (by decide)⟩
    · rw [if_neg (by simpa using h2)]
      have : isNl x = false := by simp [isNl]; omega
      exact ⟨_, by rw [this], fun _ => rfl⟩
theorem whitespace_eq {T : List Int} {q : Nat} (h : q ≤ T.length) (hl : T.length < 1099511627000) : consumeWhitespace.f (T ++ [0]) q 0 = if sIsBlank.f (T.getD q 0) = true then some (true, ((q + 1 : Nat) : Int)) else some (false, (q : Int)) := by
  unfold consumeWhitespace.f
  rw [pk0 h (by omega), mv1 (by omega)]
  simp only [bS]
  generalize T.getD q 0 = x
  have : (x == 32 || x == 9 || x == 10 || x == 13 || x == 12) = sIsBlank.f x := by
    unfold sIsBlank.f
    cases x == 32 <;> cases x == 9 <;> cases x == 10 <;> cases x == 13 <;> cases x == 12 <;> rfl
  rw [this]
theorem remn {T : List Int} {q : Nat} {k : Int} (h : q ≤ T.length) (hl : T.length < 1099511627000) : rem (T ++ [0]) q k = decide ((T.length : Int) - q < k) := by
  unfold rem
  have e2 : wrap64 (((T ++ [0]).length : Int) - 1) = T.length := by rw [List.length_append]; unfold wrap64; simp; omega
  have e3 : wrap64 ((T.length : Int) - q) = (T.length : Int) - q := by unfold wrap64; omega
  rw [e2, e3]
theorem prn_eq {T : List Int} {q : Nat} (hA : After T q) (hq : q < T.length) (hl : T.length < 1099511627000) (hc : 192 ≤ T.getD q 0) : ∃ d : Nat, prn (T ++ [0]) q = some (d : Int) ∧ skip T T.length (q + 1) = q + d ∧ q + d ≤ T.length := by
  obtain ⟨a1, a2, a3, a4⟩ := hA
  have hn : ∃ m, T.length = m + 1 := ⟨T.length - 1, by omega⟩
  unfold prn
  rw [pk0 (by omega) (by omega)]
  simp only [bS]
  rw [if_neg (by omega)]
  by_cases c1 : T.getD q 0 < 224
  · obtain ⟨b1, b2⟩ := a2 hc c1
    rw [remn (by omega) hl, if_neg (by simp only [decide_eq_true_eq]; have := b1.1; omega), pk1 (by have := b1.1; omega) (by omega)]
    simp only [bS]
    rw [if_pos c1]
    obtain ⟨m, hm⟩ : ∃ m, T.length = m + 1 := ⟨T.length - 1, by omega⟩
    exact ⟨2, rfl, by rw [hm, skip_go _ b1, skip_stop _ b2], by have := b1.1; omega⟩
  · by_cases c2 : T.getD q 0 < 240
    · obtain ⟨b1, b2, b3⟩ := a3 (by omega) c2
      have l1 := b1.1; have l2 := b2.1
      rw [remn (by omega) hl, if_neg (by simp only [decide_eq_true_eq]; omega), pk1 (by omega) (by omega)]
      simp only [bS]
      rw [if_neg c1, remn (by omega) hl, if_neg (by simp only [decide_eq_true_eq]; omega), pk2 (by omega) (by omega)]
      simp only [bS]
      rw [if_pos c2]
      obtain ⟨m, hm⟩ : ∃ m, T.length = m + 2 := ⟨T.length - 2, by omega⟩
      exact ⟨3, rfl, by rw [hm, skip_go _ b1, skip_go _ b2, skip_stop _ b3], by omega⟩
    · obtain ⟨b1, b2, b3, b4⟩ := a4 (by omega)
      have l1 := b1.1; have l2 := b2.1; have l3 := b3.1
      rw [remn (by omega) hl, if_neg (by simp only [decide_eq_true_eq]; omega), pk1 (by omega) (by omega)]
      simp only [bS]
      rw [if_neg c1, remn (by omega) hl, if_neg (by simp only [decide_eq_true_eq]; omega), pk2 (by omega) (by omega)]
      simp only [bS]
      rw [if_neg c2, remn (by omega) hl, if_neg (by simp only [decide_eq_true_eq]; omega), pk3 (by omega) (by omega)]
      simp only [bS]
      obtain ⟨m, hm⟩ : ∃ m, T.length = m + 3 := ⟨T.length - 3, by omega⟩
      exact ⟨4, rfl, by rw [hm, skip_go _ b1, skip_go _ b2, skip_go _ b3, skip_stop _ b4], by omega⟩
theorem consumeEscape_eq {K : Nat} {T : List Int} {q : Nat} (hU : Utf8 T) (hl : T.length < 1099511627000) (hK : 10 ≤ K) (h : q < T.length) (h92 : T.getD q 0 = 92) (h1 : q + 1 < T.length) :
    consumeEscape.f K (T ++ [0]) q 0 = if isNl (T.getD (q + 1) 0) = true then some (false, (q : Int)) else some (true, ((escAt T q : Nat) : Int)) := by
  unfold consumeEscape.f
  rw [pk0 (by omega) (by omega), h92]
  simp only [bS, beq_self_eq_true, if_true]
  rw [mv1 (by omega)]
  obtain ⟨p, hp, hp2⟩ := newline_eq (T := T) (q := q + 1) (by omega) hl
  rw [hp]
  simp only [bS]
  by_cases hn : isNl (T.getD (q + 1) 0) = true
  · rw [if_pos hn, if_pos hn, rwdn (by omega)]
  · rw [if_neg hn, if_neg hn]
    obtain rfl := hp2 (Bool.eq_false_iff.mpr hn)
    rw [hexdigit_eq (by omega) (by omega)]
    unfold escAt
    by_cases hh : isHex (T.getD (q + 1) 0) = true
    · have hle := hexrun_le T 5 (q + 1 + 1) (by omega)
      rw [if_pos hh, if_pos hh]
      simp only [bS, if_true]
      rw [el0_eq1 (by omega) (by omega) (by omega)]
      simp only [bS]
      have e6 : hexrun T 6 (q + 1) = hexrun T 5 (q + 1 + 1) := by conv => lhs; unfold hexrun; rw [if_pos hh]
      rw [e6, whitespace_eq (by omega) hl]
      split <;> rfl
    · rw [if_neg hh, if_neg hh]
      simp only [bS, Bool.false_eq_true, if_false]
      rw [pk0 (by omega) (by omega)]
      simp only [bS, decide_eq_true_eq]
      have hA := hU.after q h
      have hB := hU.after (q + 1) h1
      have hc0 : ¬ contAt T (q + 1) := hA.1 (by omega)
      by_cases hc : 192 ≤ T.getD (q + 1) 0
      · rw [if_pos hc]
        obtain ⟨d, e1, e2, e3⟩ := prn_eq hB h1 hl hc
        rw [e1]
        simp only [bS]
        rw [mvn (by omega), ← e2]
      · rw [if_neg hc, atEndn (by omega) (by omega), decide_eq_false (by omega), Bool.and_false]
        simp only [Bool.false_eq_true, if_false]
        rw [mv1 (by omega), skip_stop]
        have : T.getD (q + 1) 0 < 128 := by
          rcases Int.lt_or_le (T.getD (q + 1) 0) 128 with h' | h'
          · exact h'
          · exact absurd ⟨h1, isCont_lt ⟨h', by omega⟩⟩ hc0
        exact hB.1 this
theorem consumeEscape_end {K : Nat} {T : List Int} {q : Nat} (hl : T.length < 1099511627000) (h92 : T.getD q 0 = 92) (h1 : q + 1 = T.length) : consumeEscape.f K (T ++ [0]) q 0 = some (false, (q : Int)) := by
  unfold consumeEscape.f
  rw [pk0 (by omega) (by omega), h92]
  simp only [bS, beq_self_eq_true, if_true]
  rw [mv1 (by omega)]
  obtain ⟨p, hp, hp2⟩ := newline_eq (T := T) (q := q + 1) (by omega) hl
  have e0 : T.getD (q + 1) 0 = 0 := getD_big (by omega)
  rw [hp]
  rw [e0] at hp2
  obtain rfl := hp2 (by decide)
  rw [e0]
  simp only [bS]
  rw [if_neg (by decide), hexdigit_eq (by omega) (by omega), e0, if_neg (by decide)]
  simp only [bS, Bool.false_eq_true, if_false]
  rw [pk0 (by omega) (by omega), e0, atEndn (by omega) (by omega), decide_eq_true (by omega), rwdn (by omega)]
  rfl
end Go.Proofs.YteonakpgenkhkaaDoor
