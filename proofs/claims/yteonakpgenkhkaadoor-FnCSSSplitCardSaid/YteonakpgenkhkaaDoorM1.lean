import Derived.Test.YteonakpgenkhkaaDoorL14
import Derived.Test.YteonakpgenkhkaaDoorL23
import Derived.Test.YteonakpgenkhkaaDoorS5
namespace Go.Proofs.YteonakpgenkhkaaDoor
open Go.RowKit
set_option linter.unusedVariables false
set_option linter.unusedSimpArgs false
/-! The lexer over a text T that stands at n in a longer one: behind it the end, or a semicolon. -/
def pq (n q : Nat) : Int := ((n + q : Nat) : Int)
structure Ctx (B : List Int) (n : Nat) (T : List Int) : Prop where
  split : ∃ pre R, B = pre ++ (T ++ (R ++ [0])) ∧ pre.length = n ∧ (R = [] ∨ ∃ R', R = 59 :: R')
  len : B.length < 1099511627000
theorem Ctx.lt {B T : List Int} {n : Nat} (h : Ctx B n T) : n + T.length < B.length := by
  obtain ⟨pre, R, rfl, rfl, _⟩ := h.split
  simp only [List.length_append, List.length_singleton]
  omega
theorem Ctx.inn {B T : List Int} {n : Nat} (h : Ctx B n T) {q : Nat} (hq : q < T.length) : B.getD (n + q) 0 = T.getD q 0 := by
  obtain ⟨pre, R, rfl, rfl, _⟩ := h.split
  rw [List.getD_eq_getElem?_getD, List.getD_eq_getElem?_getD, List.getElem?_append_right (by omega), List.getElem?_append_left (by omega), show pre.length + q - pre.length = q by omega]
theorem Ctx.stop {B T : List Int} {n : Nat} (h : Ctx B n T) : B.getD (n + T.length) 0 = 0 ∨ B.getD (n + T.length) 0 = 59 := by
  obtain ⟨pre, R, rfl, rfl, hR⟩ := h.split
  rw [List.getD_eq_getElem?_getD, List.getElem?_append_right (by omega), List.getElem?_append_right (by omega), show pre.length + T.length - pre.length - T.length = 0 by omega]
  rcases hR with rfl | ⟨R', rfl⟩
  · exact .inl rfl
  · exact .inr rfl
theorem Ctx.cls {B T : List Int} {n : Nat} (h : Ctx B n T) {X : Type} (C : Int → X) (hC : C 59 = C 0) {q : Nat} (hq : q ≤ T.length) : C (B.getD (n + q) 0) = C (T.getD q 0) := by
  rcases Nat.lt_or_ge q T.length with h' | h'
  · rw [h.inn h']
  · obtain rfl : q = T.length := by omega
    rw [getD_big (T := T) (Nat.le_refl _)]
    rcases h.stop with e | e <;> rw [e]
    exact hC
theorem Ctx.eqq {B T : List Int} {n : Nat} (h : Ctx B n T) {q : Nat} (hq : q ≤ T.length) (a : Int) (h0 : a ≠ 0) (h1 : a ≠ 59) : (B.getD (n + q) 0 == a) = (T.getD q 0 == a) :=
  h.cls (· == a) (by show (59 == a) = (0 == a); rw [beq_eq_false_iff_ne.mpr (Ne.symm h1), beq_eq_false_iff_ne.mpr (Ne.symm h0)]) hq
theorem Ctx.pk {B T : List Int} {n : Nat} (h : Ctx B n T) {q : Nat} {m : Int} (d : Nat) (e : m = d) (hq : q + d ≤ T.length) : pk B (pq n q) m = some (B.getD (n + (q + d)) 0) := by
  subst e
  have hl := h.lt
  have hb := h.len
  unfold Go.Proofs.YteonakpgenkhkaaDoor.pk peek pq
  have e : wrap64 ((d : Int) + ((n + q : Nat) : Int)) = ((n + (q + d) : Nat) : Int) := by unfold wrap64; omega
  rw [e, if_pos (by omega), Int.toNat_natCast]
theorem Ctx.pk0 {B T : List Int} {n : Nat} (h : Ctx B n T) {q : Nat} (hq : q ≤ T.length) : Go.Proofs.YteonakpgenkhkaaDoor.pk B (pq n q) 0 = some (B.getD (n + q) 0) := h.pk 0 rfl hq
theorem Ctx.pk1 {B T : List Int} {n : Nat} (h : Ctx B n T) {q : Nat} (hq : q + 1 ≤ T.length) : Go.Proofs.YteonakpgenkhkaaDoor.pk B (pq n q) 1 = some (B.getD (n + (q + 1)) 0) := h.pk 1 rfl hq
theorem Ctx.pk2 {B T : List Int} {n : Nat} (h : Ctx B n T) {q : Nat} (hq : q + 2 ≤ T.length) : Go.Proofs.YteonakpgenkhkaaDoor.pk B (pq n q) 2 = some (B.getD (n + (q + 2)) 0) := h.pk 2 rfl hq
theorem Ctx.pk3 {B T : List Int} {n : Nat} (h : Ctx B n T) {q : Nat} (hq : q + 3 ≤ T.length) : Go.Proofs.YteonakpgenkhkaaDoor.pk B (pq n q) 3 = some (B.getD (n + (q + 3)) 0) := h.pk 3 rfl hq
theorem Ctx.mv1 {B T : List Int} {n : Nat} (h : Ctx B n T) {q : Nat} (hq : q ≤ T.length) : mv (pq n q) 1 = pq n (q + 1) := by
  have := h.lt; have := h.len
  unfold mv pq wrap64; omega
theorem Ctx.mvn {B T : List Int} {n : Nat} (h : Ctx B n T) {q : Nat} {m : Int} (d : Nat) (e : m = d) (hd : d < 1000) (hq : q ≤ T.length) : mv (pq n q) m = pq n (q + d) := by
  have := h.lt; have := h.len
  unfold mv pq wrap64; omega
theorem Ctx.mvm {B T : List Int} {n : Nat} (h : Ctx B n T) {q : Nat} (hq : q + 1 ≤ T.length) : mv (pq n (q + 1)) (-1) = pq n q := by
  have := h.lt; have := h.len
  unfold mv pq wrap64; omega
theorem Ctx.rw_ {B T : List Int} {n : Nat} (h : Ctx B n T) {q u : Nat} (hq : q ≤ T.length) (hu : u ≤ T.length) : rwd (pq n u) (ps (pq n q) (pq n u)) = pq n q := by
  have := h.lt; have := h.len
  unfold rwd ps pq wrap64; omega
theorem Ctx.sel_ {B T : List Int} {n : Nat} (h : Ctx B n T) {q u : Nat} (hu : u ≤ q) (hq : q ≤ T.length) : sel B (pq n q) (pq n u) = some () := by
  have := h.lt
  unfold sel pq
  rw [if_pos (by omega)]
theorem Ctx.inner {B T : List Int} {n : Nat} (h : Ctx B n T) {q : Nat} (hq : q < T.length) : atEnd B (pq n q) 0 = false := by
  have := h.lt; have := h.len
  unfold atEnd pq
  rw [decide_eq_false_iff_not]
  unfold wrap64; omega
theorem Ctx.rem_ {B T : List Int} {n : Nat} (h : Ctx B n T) {q : Nat} {k : Int} (hk : k ≤ (T.length : Int) - q) (hq : q ≤ T.length) : rem B (pq n q) k = false := by
  have := h.lt; have := h.len
  unfold rem pq
  rw [decide_eq_false_iff_not]
  unfold wrap64; omega
theorem Ctx.byte {B T : List Int} {n : Nat} (h : Ctx B n T) {q : Nat} (hq : q ≤ T.length) (s a : Int) (h0 : a ≠ 0) (h1 : a ≠ 59) : consumeByte.f B (pq n q) s a = if (T.getD q 0 == a) = true then some (true, pq n (q + 1)) else some (false, pq n q) := by
  unfold consumeByte.f
  rw [h.pk0 hq, h.mv1 hq]
  simp only [bS]
  rw [h.eqq hq a h0 h1]
theorem ws_eq (x : Int) : (x == 32 || x == 9 || x == 10 || x == 13 || x == 12) = sIsBlank.f x := by
  unfold sIsBlank.f
  cases x == 32 <;> cases x == 9 <;> cases x == 10 <;> cases x == 13 <;> cases x == 12 <;> rfl
theorem Ctx.ws {B T : List Int} {n : Nat} (h : Ctx B n T) {q : Nat} (hq : q ≤ T.length) (s : Int) : consumeWhitespace.f B (pq n q) s = if sIsBlank.f (T.getD q 0) = true then some (true, pq n (q + 1)) else some (false, pq n q) := by
  unfold consumeWhitespace.f
  rw [h.pk0 hq, h.mv1 hq]
  simp only [bS, ws_eq]
  rw [h.cls sIsBlank.f (by decide) hq]
theorem Ctx.digit {B T : List Int} {n : Nat} (h : Ctx B n T) {q : Nat} (hq : q ≤ T.length) (s : Int) : consumeDigit.f B (pq n q) s = if sisDigit.f (T.getD q 0) = true then some (true, pq n (q + 1)) else some (false, pq n q) := by
  unfold consumeDigit.f
  rw [h.pk0 hq, h.mv1 hq]
  simp only [bS]
  have := h.cls sisDigit.f (by decide) hq
  unfold sisDigit.f at this ⊢
  rw [this]
theorem Ctx.hex {B T : List Int} {n : Nat} (h : Ctx B n T) {q : Nat} (hq : q ≤ T.length) (s : Int) : consumeHexDigit.f B (pq n q) s = if isHex (T.getD q 0) = true then some (true, pq n (q + 1)) else some (false, pq n q) := by
  unfold consumeHexDigit.f
  rw [h.pk0 hq, h.mv1 hq]
  simp only [bS]
  have := h.cls isHex (by decide) hq
  unfold isHex at this ⊢
  rw [this]
theorem Ctx.newline {B T : List Int} {n : Nat} (h : Ctx B n T) {q : Nat} (hq : q ≤ T.length) (s : Int) : ∃ p, consumeNewline.f B (pq n q) s = some (isNl (T.getD q 0), p) ∧ (isNl (T.getD q 0) = false → p = pq n q) ∧ (isNl (T.getD q 0) = true → T.getD q 0 ≠ 13 → p = pq n (q + 1)) := by
  unfold consumeNewline.f
  rw [h.pk0 hq]
  simp only [bS]
  rw [h.eqq hq 10 (by decide) (by decide), h.eqq hq 12 (by decide) (by decide), h.eqq hq 13 (by decide) (by decide)]
  generalize hx : T.getD q 0 = x
  by_cases h1 : x = 10 ∨ x = 12
  · rw [if_pos (by simpa using h1)]
    have : isNl x = true := by rcases h1 with rfl | rfl <;> decide
    refine ⟨mv (pq n q) 1, by rw [this], ?_, fun _ _ => h.mv1 hq⟩
    intro hf; rw [this] at hf; cases hf
  · rw [if_neg (by simpa using h1)]
    by_cases h2 : x = 13
    · have hq' : q < T.length := lt_of_ne (by rw [hx, h2]; decide)
      subst h2
      rw [h.pk1 hq']
      simp only [beq_self_eq_true, if_true, bS]
      split
      · exact ⟨_, rfl, fun h => absurd h (by decide), fun _ h => absurd rfl h⟩
      · exact ⟨_, rfl, fun h => absurd h (by decide), fun _ h => absurd rfl h⟩
    · rw [if_neg (by simpa using h2)]
      have : isNl x = false := by simp [isNl]; omega
      refine ⟨pq n q, by rw [this], fun _ => rfl, ?_⟩
      intro hf; rw [this] at hf; cases hf
theorem Ctx.hexl {B T : List Int} {n : Nat} (h : Ctx B n T) {K : Nat} {s : Int} : ∀ (m k q x : Nat), m < k → m + x = 6 → q ≤ T.length → consumeEscape.l0 K B s k x (pq n q) = some (pq n (hexrun T m q))
  | 0, k + 1, q, x, _, hx, hq => by
    unfold consumeEscape.l0 hexrun
    rw [if_neg (by simp; omega)]
  | m + 1, k + 1, q, x, hk, hx, hq => by
    unfold consumeEscape.l0 hexrun
    rw [if_pos (by simp; omega), h.hex hq]
    by_cases hh : isHex (T.getD q 0) = true
    · rw [if_pos hh, if_pos hh]
      simp only [bS, if_true]
      rw [wr1 (by omega)]
      exact h.hexl m k (q + 1) (x + 1) (by omega) (by omega) (hex_lt hh)
    · rw [if_neg hh, if_neg hh]
      simp only [bS, Bool.false_eq_true, if_false]
theorem Ctx.hexl1 {B T : List Int} {n : Nat} (h : Ctx B n T) {K k q : Nat} {s : Int} (hk : 5 < k) (hq : q ≤ T.length) : consumeEscape.l0 K B s k 1 (pq n q) = some (pq n (hexrun T 5 q)) := h.hexl 5 k q 1 hk rfl hq
theorem Ctx.prn_ {B T : List Int} {n : Nat} (h : Ctx B n T) {q : Nat} (hA : After T q) (hq : q < T.length) (hc : 192 ≤ T.getD q 0) : ∃ d : Nat, prn B (pq n q) = some (d : Int) ∧ skip T T.length (q + 1) = q + d ∧ q + d ≤ T.length ∧ d < 1000 := by
  obtain ⟨a1, a2, a3, a4⟩ := hA
  unfold prn
  rw [h.pk0 (by omega), h.inn hq]
  simp only [bS]
  rw [if_neg (by omega)]
  by_cases c1 : T.getD q 0 < 224
  · obtain ⟨b1, b2⟩ := a2 hc c1
    have l1 := b1.1
    rw [h.rem_ (by omega) (by omega), if_neg (by decide), h.pk1 (by omega)]
    simp only [bS]
    rw [if_pos c1]
    obtain ⟨m, hm⟩ : ∃ m, T.length = m + 1 := ⟨T.length - 1, by omega⟩
    exact ⟨2, rfl, by rw [hm, skip_go _ b1, skip_stop _ b2], by omega, by omega⟩
  · by_cases c2 : T.getD q 0 < 240
    · obtain ⟨b1, b2, b3⟩ := a3 (by omega) c2
      have l1 := b1.1; have l2 := b2.1
      rw [h.rem_ (by omega) (by omega), if_neg (by decide), h.pk1 (by omega)]
      simp only [bS]
      rw [if_neg c1, h.rem_ (by omega) (by omega), if_neg (by decide), h.pk2 (by omega)]
      simp only [bS]
      rw [if_pos c2]
      obtain ⟨m, hm⟩ : ∃ m, T.length = m + 2 := ⟨T.length - 2, by omega⟩
      exact ⟨3, rfl, by rw [hm, skip_go _ b1, skip_go _ b2, skip_stop _ b3], by omega, by omega⟩
    · obtain ⟨b1, b2, b3, b4⟩ := a4 (by omega)
      have l1 := b1.1; have l2 := b2.1; have l3 := b3.1
      rw [h.rem_ (by omega) (by omega), if_neg (by decide), h.pk1 (by omega)]
      simp only [bS]
      rw [if_neg c1, h.rem_ (by omega) (by omega), if_neg (by decide), h.pk2 (by omega)]
      simp only [bS]
      rw [if_neg c2, h.rem_ (by omega) (by omega), if_neg (by decide), h.pk3 (by omega)]
      simp only [bS]
      obtain ⟨m, hm⟩ : ∃ m, T.length = m + 3 := ⟨T.length - 3, by omega⟩
      exact ⟨4, rfl, by rw [hm, skip_go _ b1, skip_go _ b2, skip_go _ b3, skip_stop _ b4], by omega, by omega⟩
theorem Ctx.esc {B T : List Int} {n : Nat} (h : Ctx B n T) {K q u : Nat} (hU : Utf8 T) (hK : 10 ≤ K) (hu : u ≤ T.length) (h92 : T.getD q 0 = 92) (h1 : q + 1 < T.length) :
    consumeEscape.f K B (pq n q) (pq n u) = if isNl (T.getD (q + 1) 0) = true then some (false, pq n q) else some (true, pq n (escAt T q)) := by
  unfold consumeEscape.f
  rw [h.pk0 (by omega), h.inn (by omega), h92]
  simp only [bS, beq_self_eq_true, if_true]
  rw [h.mv1 (by omega)]
  obtain ⟨p, hp, hp2, _⟩ := h.newline (q := q + 1) (by omega) (pq n u)
  rw [hp]
  simp only [bS]
  by_cases hn : isNl (T.getD (q + 1) 0) = true
  · rw [if_pos hn, if_pos hn, h.rw_ (by omega) hu]
  · rw [if_neg hn, if_neg hn]
    obtain rfl := hp2 (Bool.eq_false_iff.mpr hn)
    rw [h.hex (by omega)]
    unfold escAt
    by_cases hh : isHex (T.getD (q + 1) 0) = true
    · have hle := hexrun_le T 5 (q + 1 + 1) (by omega)
      rw [if_pos hh, if_pos hh]
      simp only [bS, if_true]
      rw [h.hexl1 (by omega) (by omega)]
      simp only [bS]
      have e6 : hexrun T 6 (q + 1) = hexrun T 5 (q + 1 + 1) := by conv => lhs; unfold hexrun; rw [if_pos hh]
      rw [e6, h.ws (by omega)]
      split <;> rfl
    · rw [if_neg hh, if_neg hh]
      simp only [bS, Bool.false_eq_true, if_false]
      rw [h.pk0 (by omega), h.inn (by omega)]
      simp only [bS, decide_eq_true_eq]
      have hA := hU.after q (by omega)
      have hB := hU.after (q + 1) h1
      have hc0 : ¬ contAt T (q + 1) := hA.1 (by omega)
      by_cases hc : 192 ≤ T.getD (q + 1) 0
      · rw [if_pos hc]
        obtain ⟨d, e1, e2, e3, e4⟩ := h.prn_ hB h1 hc
        rw [e1]
        simp only [bS]
        rw [h.mvn d rfl e4 (by omega), ← e2]
      · rw [if_neg hc, h.inner (by omega), Bool.and_false]
        simp only [Bool.false_eq_true, if_false]
        rw [h.mv1 (by omega), skip_stop]
        have : T.getD (q + 1) 0 < 128 := by
          rcases Int.lt_or_le (T.getD (q + 1) 0) 128 with h' | h'
          · exact h'
          · exact absurd ⟨h1, isCont_lt ⟨h', by omega⟩⟩ hc0
        exact hB.1 this
end Go.Proofs.YteonakpgenkhkaaDoor
