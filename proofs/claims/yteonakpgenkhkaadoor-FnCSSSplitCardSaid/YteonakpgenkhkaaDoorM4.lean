import Derived.Test.YteonakpgenkhkaaDoorM3
namespace Go.Proofs.YteonakpgenkhkaaDoor
open Go.RowKit
set_option linter.unusedVariables false
set_option linter.unusedSimpArgs false
theorem wr2 {q : Nat} (h : q + 2 < 1099511627776) : wrap64 ((q : Int) + 2) = ((q + 2 : Nat) : Int) := by unfold wrap64; omega
theorem wr3 {q : Nat} (h : q + 3 < 1099511627776) : wrap64 ((q : Int) + 3) = ((q + 3 : Nat) : Int) := by unfold wrap64; omega
theorem wr4 {q : Nat} (h : q + 4 < 1099511627776) : wrap64 ((q : Int) + 4) = ((q + 4 : Nat) : Int) := by unfold wrap64; omega
theorem Ctx.mv2 {B T : List Int} {n : Nat} (h : Ctx B n T) {q : Nat} (hq : q ≤ T.length) : mv (pq n q) 2 = pq n (q + 2) := h.mvn 2 rfl (by decide) hq
theorem Ctx.mv3 {B T : List Int} {n : Nat} (h : Ctx B n T) {q : Nat} (hq : q ≤ T.length) : mv (pq n q) 3 = pq n (q + 3) := h.mvn 3 rfl (by decide) hq
theorem Ctx.mv4 {B T : List Int} {n : Nat} (h : Ctx B n T) {q : Nat} (hq : q ≤ T.length) : mv (pq n q) 4 = pq n (q + 4) := h.mvn 4 rfl (by decide) hq
theorem escs_not {T : List Int} {p : Nat} {o : Bool} (h : T.getD p 0 ≠ 92) : escs T p o = (false, o) := by unfold escs; rw [if_neg h]
abbrev commentK : List Int := [99, 111, 109, 109, 101, 110, 116]
theorem comment_loop {K : Nat} {T : List Int} (hl : T.length < 1099511627000) (o : Bool) : ∀ (m k q : Nat), T.length - q ≤ m → m < k → q ≤ T.length →
    (∃ q' : Nat, scomment.l0 K T o k q = some (.inl (commentK, (q' : Int), o)) ∧ q < q' ∧ q' ≤ T.length ∧ (Good T → ∀ (B : List Int) (n k2 : Nat), Ctx B n T → m < k2 → consumeComment.l0 K B k2 (pq n q) = some (.inl (true, pq n q')))) ∨
    (∃ q' : Nat, scomment.l0 K T o k q = some (.inr (q' : Int)) ∧ q ≤ q' ∧ q' ≤ T.length)
  | m, k + 1, q, hm, hk, hq => by
    unfold scomment.l0
    rw [rovern]
    by_cases hn : T.length ≤ q
    · rw [decide_eq_true hn, if_pos rfl]
      exact .inr ⟨q, rfl, Nat.le_refl _, hq⟩
    · rw [decide_eq_false hn, if_neg (by decide), rpk0 (by omega), rpk1 (by omega), wr2 (by omega), wr1 (by omega)]
      simp only [bS]
      obtain ⟨m, rfl⟩ : ∃ j, m = j + 1 := ⟨m - 1, by omega⟩
      have hql : q < T.length := by omega
      -- the lexer's round
      have lex : Good T → ∀ (B : List Int) (n k2 : Nat), Ctx B n T → consumeComment.l0 K B (k2 + 1) (pq n q) = if (T.getD q 0 == 42 && T.getD (q + 1) 0 == 47) = true then some (.inl (true, pq n (q + 2))) else consumeComment.l0 K B k2 (pq n (q + 1)) := by
        intro hG B n k2 hC
        conv => lhs; unfold consumeComment.l0
        rw [hC.pk0 hq, hC.inn hql, hC.inner hql, hC.mv2 hq, hC.mv1 hq, hC.pk1 (by omega)]
        simp only [bS, Bool.and_false, Bool.false_eq_true, if_false]
        rw [hC.eqq (by omega) 47 (by decide) (by decide)]
        by_cases h1 : (T.getD q 0 == 42) = true
        · rw [if_pos h1, h1, Bool.true_and]; rfl
        · rw [if_neg h1, Bool.eq_false_iff.mpr h1, Bool.false_and]
          simp only [bS, Bool.false_eq_true, if_false]
      have spec : ((if (T.getD q 0 == 42) = true then some (T.getD (q + 1) 0 == 47) else some false).bind fun b208 =>
          if b208 = true then some (Sum.inl (commentK, ((q + 2 : Nat) : Int), o)) else scomment.l0 K T o k ((q + 1 : Nat) : Int)) = if (T.getD q 0 == 42 && T.getD (q + 1) 0 == 47) = true then some (Sum.inl (commentK, ((q + 2 : Nat) : Int), o)) else scomment.l0 K T o k ((q + 1 : Nat) : Int) := by
        by_cases h1 : (T.getD q 0 == 42) = true
        · rw [if_pos h1, h1, Bool.true_and]; rfl
        · rw [if_neg h1, Bool.eq_false_iff.mpr h1, Bool.false_and]
          simp only [bS, Bool.false_eq_true, if_false]
      rw [spec]
      by_cases h2 : (T.getD q 0 == 42 && T.getD (q + 1) 0 == 47) = true
      · rw [if_pos h2]
        have hq2 : q + 1 < T.length := by
          simp only [Bool.and_eq_true, beq_iff_eq] at h2
          exact lt_of_ne (by rw [h2.2]; decide)
        refine .inl ⟨q + 2, rfl, by omega, by omega, fun hG B n k2 hC hk2 => ?_⟩
        obtain ⟨k2, rfl⟩ : ∃ j, k2 = j + 1 := ⟨k2 - 1, by omega⟩
        rw [lex hG B n k2 hC, if_pos h2]
      · rw [if_neg h2]
        rcases comment_loop hl o m k (q + 1) (by omega) (by omega) (by omega) with ⟨q', e, g1, g2, g3⟩ | ⟨q', e, g1, g2⟩
        · refine .inl ⟨q', e, by omega, g2, fun hG B n k2 hC hk2 => ?_⟩
          obtain ⟨k2, rfl⟩ : ∃ j, k2 = j + 1 := ⟨k2 - 1, by omega⟩
          rw [lex hG B n k2 hC, if_neg h2]
          exact g3 hG B n k2 hC (by omega)
        · exact .inr ⟨q', e, by omega, g2⟩
theorem comment_law {K : Nat} {T : List Int} (hF : Fit T K) {q : Nat} {o : Bool} (h1 : T.getD q 0 = 47) (h2 : T.getD (q + 1) 0 = 42) :
    ∃ (q' : Nat) (o' : Bool), scomment.f K T q o = some (commentK, (q' : Int), o') ∧ q < q' ∧ q' ≤ T.length ∧ (o' = false → o = false ∧ (Good T → ∀ (B : List Int) (n : Nat), Ctx B n T → consumeComment.f K B (pq n q) (pq n q) = some (true, pq n q'))) := by
  have hq : q + 1 < T.length := lt_of_ne (by rw [h2]; decide)
  have hl := hF.len
  have hK := hF.fuel
  unfold scomment.f
  rw [wr2 (by omega)]
  rcases comment_loop (K := K) hl o T.length K (q + 2) (by omega) (by omega) (by omega) with ⟨q', e, g1, g2, g3⟩ | ⟨q', e, g1, g2⟩
  · rw [e]
    refine ⟨q', o, rfl, by omega, g2, fun ho => ⟨ho, fun hG B n hC => ?_⟩⟩
    unfold consumeComment.f
    rw [hC.pk0 (by omega), hC.inn (by omega), h1, hC.pk1 (by omega), hC.inn hq, h2]
    simp only [bS]
    rw [if_pos (by decide)]
    simp only [bS]
    rw [if_neg (by decide), hC.mv2 (by omega), g3 hG B n K hC (by omega)]
    rfl
  · rw [e]
    exact ⟨q', true, rfl, by omega, g2, fun ho => by cases ho⟩
theorem comment_no {K : Nat} {T : List Int} (hF : Fit T K) {q : Nat} (h1 : T.getD q 0 = 47) (h2 : T.getD (q + 1) 0 ≠ 42) {B : List Int} {n : Nat} (hC : Ctx B n T) : consumeComment.f K B (pq n q) (pq n q) = some (false, pq n q) := by
  have hq : q < T.length := lt_of_ne (by rw [h1]; decide)
  unfold consumeComment.f
  rw [hC.pk0 (by omega), hC.inn (by omega), h1, hC.pk1 (by omega)]
  simp only [bS]
  rw [if_pos (by decide), hC.eqq (by omega) 42 (by decide) (by decide), beq_eq_false_iff_ne.mpr h2]
  rfl
abbrev stringK : List Int := [115, 116, 114, 105, 110, 103]
theorem quoted_loop {K : Nat} {T : List Int} (hF : Fit T K) (c : Int) (hc : c = 34 ∨ c = 39) : ∀ (m k q : Nat) (o : Bool), T.length - q ≤ m → m < k → q ≤ T.length →
    (∃ (kd : List Int) (q' : Nat) (o' : Bool), squoted.l0 K T c k q o = some (.inl (kd, (q' : Int), o')) ∧ q ≤ q' ∧ q' ≤ T.length ∧ (o' = false → o = false ∧ kd = stringK ∧ (Good T → ∀ (B : List Int) (n u k2 : Nat), Ctx B n T → u ≤ T.length → m < k2 → consumeString.l0 K B (pq n u) c k2 (pq n q) = some (.inr (pq n q'))))) ∨
    (∃ (q' : Nat) (o' : Bool), squoted.l0 K T c k q o = some (.inr ((q' : Int), o')) ∧ q ≤ q' ∧ q' ≤ T.length)
  | m, k + 1, q, o, hm, hk, hq => by
    have hl := hF.len
    have hK := hF.fuel
    unfold squoted.l0
    rw [rovern]
    by_cases hn : T.length ≤ q
    · rw [decide_eq_true hn, if_pos rfl]
      exact .inr ⟨q, o, rfl, Nat.le_refl _, hq⟩
    · rw [decide_eq_false hn, if_neg (by decide), rpk0 (by omega), rpk1 (by omega), wr2 (by omega), wr1 (by omega)]
      simp only [bS]
      obtain ⟨m, rfl⟩ : ∃ j, m = j + 1 := ⟨m - 1, by omega⟩
      have hql : q < T.length := by omega
      have lex : ∀ (B : List Int) (n u k2 : Nat), Ctx B n T → consumeString.l0 K B (pq n u) c (k2 + 1) (pq n q) = if (((T.getD q 0 == 10) || (T.getD q 0 == 13)) || (T.getD q 0 == 12)) = true then (some (.inl (6, pq n (q + 1)))) else
          if (T.getD q 0 == c) = true then (some (.inr (pq n (q + 1)))) else
          if (T.getD q 0 == 92) = true then ((consumeEscape.f K B (pq n q) (pq n u)).bind fun (t544, p545) =>
          if t544 = true then (consumeString.l0 K B (pq n u) c k2 p545) else
          (consumeNewline.f B (mv p545 1) (pq n u)).bind fun (t549, p550) =>
          consumeString.l0 K B (pq n u) c k2 p550) else
          consumeString.l0 K B (pq n u) c k2 (pq n (q + 1)) := by
        intro B n u k2 hC
        conv => lhs; unfold consumeString.l0
        rw [hC.pk0 hq, hC.inn hql, hC.inner hql, hC.mv1 hq]
        simp only [bS, Bool.and_false, Bool.false_eq_true, if_false]
      by_cases h1 : (T.getD q 0 == c) = true
      · have h1' := beq_iff_eq.mp h1
        have hnn : (((T.getD q 0 == 10) || (T.getD q 0 == 13)) || (T.getD q 0 == 12)) = false := by rw [h1']; rcases hc with rfl | rfl <;> decide
        rw [if_pos h1]
        refine .inl ⟨stringK, q + 1, o, rfl, by omega, by omega, fun ho => ⟨ho, rfl, fun hG B n u k2 hC hu hk2 => ?_⟩⟩
        obtain ⟨k2, rfl⟩ : ∃ j, k2 = j + 1 := ⟨k2 - 1, by omega⟩
        rw [lex B n u k2 hC, hnn, if_neg (by decide), if_pos h1]
      · rw [if_neg h1]
        by_cases h2 : sisNewline.f (T.getD q 0) = true
        · rw [if_pos h2]
          exact .inl ⟨_, q, true, rfl, Nat.le_refl _, hq, fun ho => by cases ho⟩
        · rw [if_neg h2]
          have hnn : (((T.getD q 0 == 10) || (T.getD q 0 == 13)) || (T.getD q 0 == 12)) = false := Bool.eq_false_iff.mpr h2
          by_cases h9 : (T.getD q 0 == 92) = true
          · have h9' := beq_iff_eq.mp h9
            rw [if_pos h9]
            simp only [bS]
            by_cases h3 : sisNewline.f (T.getD (q + 1) 0) = true
            · have hq1 : q + 1 < T.length := cls_lt (C := sisNewline.f) (by decide) h3
              rw [if_pos h3]
              by_cases h13 : (T.getD (q + 1) 0 == 13) = true
              · rw [if_pos h13]
                rcases quoted_loop hF c hc m k (q + 2) true (by omega) (by omega) (by omega) with ⟨kd, q', o', e, g1, g2, g3⟩ | ⟨q', o', e, g1, g2⟩
                · exact .inl ⟨kd, q', o', e, by omega, g2, fun ho => by have := (g3 ho).1; cases this⟩
                · exact .inr ⟨q', o', e, by omega, g2⟩
              · rw [if_neg h13]
                rcases quoted_loop hF c hc m k (q + 2) o (by omega) (by omega) (by omega) with ⟨kd, q', o', e, g1, g2, g3⟩ | ⟨q', o', e, g1, g2⟩
                · refine .inl ⟨kd, q', o', e, by omega, g2, fun ho => ⟨(g3 ho).1, (g3 ho).2.1, fun hG B n u k2 hC hu hk2 => ?_⟩⟩
                  obtain ⟨k2, rfl⟩ : ∃ j, k2 = j + 1 := ⟨k2 - 1, by omega⟩
                  rw [lex B n u k2 hC, hnn, if_neg (by decide), if_neg h1, if_pos h9, hC.esc (hG.utf (has92 hql h9')) (by omega) hu h9' hq1, if_pos (show isNl (T.getD (q + 1) 0) = true from h3)]
                  simp only [bS, Bool.false_eq_true, if_false]
                  rw [hC.mv1 hq]
                  obtain ⟨p, hp, _, hp3⟩ := hC.newline (q := q + 1) (by omega) (pq n u)
                  rw [hp, hp3 h3 (by simpa using h13)]
                  simp only [bS]
                  exact (g3 ho).2.2 hG B n u k2 hC hu (by omega)
                · exact .inr ⟨q', o', e, by omega, g2⟩
            · rw [if_neg h3, sescapes0 (by omega)]
              simp only [bS]
              unfold escs
              rw [if_pos h9']
              by_cases hn1 : T.length ≤ q + 1
              · rw [if_pos hn1]
                simp only [Bool.false_eq_true, if_false]
                rcases quoted_loop hF c hc m k (q + 1) true (by omega) (by omega) (by omega) with ⟨kd, q', o', e, g1, g2, g3⟩ | ⟨q', o', e, g1, g2⟩
                · exact .inl ⟨kd, q', o', e, by omega, g2, fun ho => by have := (g3 ho).1; cases this⟩
                · exact .inr ⟨q', o', e, by omega, g2⟩
              · rw [if_neg hn1]
                have hnl : isNl (T.getD (q + 1) 0) = false := Bool.eq_false_iff.mpr h3
                simp only [hnl, Bool.not_false, if_true]
                rw [sescape_eq hF.u8 hl (by omega) (by omega)]
                simp only [bS]
                have hle := escAt_le (T := T) (q := q) (by omega)
                rcases quoted_loop hF c hc m k (escAt T q) (if isHex (T.getD (q + 1) 0) = true ∧ T.getD (hexrun T 6 (q + 1)) 0 = 13 then true else o) (by omega) (by omega) (by omega) with ⟨kd, q', o', e, g1, g2, g3⟩ | ⟨q', o', e, g1, g2⟩
                · refine .inl ⟨kd, q', o', e, by omega, g2, fun ho => ⟨?_, (g3 ho).2.1, fun hG B n u k2 hC hu hk2 => ?_⟩⟩
                  · have := (g3 ho).1
                    split at this
                    · cases this
                    · exact this
                  obtain ⟨k2, rfl⟩ : ∃ j, k2 = j + 1 := ⟨k2 - 1, by omega⟩
                  rw [lex B n u k2 hC, hnn, if_neg (by decide), if_neg h1, if_pos h9, hC.esc (hG.utf (has92 hql h9')) (by omega) hu h9' (by omega), hnl, if_neg (by decide)]
                  simp only [bS, if_true]
                  exact (g3 ho).2.2 hG B n u k2 hC hu (by omega)
                · exact .inr ⟨q', o', e, by omega, g2⟩
          · rw [if_neg h9]
            simp only [bS, Bool.false_eq_true, if_false]
            rw [sescapes0 (by omega)]
            simp only [bS]
            rw [escs_not (by simpa using h9)]
            simp only [Bool.false_eq_true, if_false]
            rcases quoted_loop hF c hc m k (q + 1) o (by omega) (by omega) (by omega) with ⟨kd, q', o', e, g1, g2, g3⟩ | ⟨q', o', e, g1, g2⟩
            · refine .inl ⟨kd, q', o', e, by omega, g2, fun ho => ⟨(g3 ho).1, (g3 ho).2.1, fun hG B n u k2 hC hu hk2 => ?_⟩⟩
              obtain ⟨k2, rfl⟩ : ∃ j, k2 = j + 1 := ⟨k2 - 1, by omega⟩
              rw [lex B n u k2 hC, hnn, if_neg (by decide), if_neg h1, if_neg h9]
              exact (g3 ho).2.2 hG B n u k2 hC hu (by omega)
            · exact .inr ⟨q', o', e, by omega, g2⟩
theorem quoted_law {K : Nat} {T : List Int} (hF : Fit T K) {q : Nat} {o : Bool} (hc : T.getD q 0 = 34 ∨ T.getD q 0 = 39) : Alike K T q o (squoted.f K T q o) (consumeString.f K) := by
  have hq : q < T.length := lt_of_ne (by rcases hc with h | h <;> rw [h] <;> decide)
  have hl := hF.len
  have hK := hF.fuel
  unfold squoted.f
  rw [rpk0 (by omega), wr1 (by omega)]
  simp only [bS]
  rcases quoted_loop hF (T.getD q 0) hc T.length K (q + 1) o (by omega) (by omega) (by omega) with ⟨kd, q', o', e, g1, g2, g3⟩ | ⟨q', o', e, g1, g2⟩
  · rw [e]
    refine ⟨kd, q', o', rfl, by omega, g2, fun ho => ⟨(g3 ho).1, fun hG B n hC => ⟨5, ?_, ?_, by decide⟩⟩⟩
    · unfold consumeString.f
      rw [hC.pk0 (by omega), hC.inn hq, hC.mv1 (by omega)]
      simp only [bS]
      rw [(g3 ho).2.2 hG B n q K hC (by omega) (by omega)]
      rfl
    · rw [(g3 ho).2.1]; decide
  · rw [e]
    exact ⟨_, q', true, rfl, by omega, g2, fun ho => by cases ho⟩
abbrev urlK : List Int := [117, 114, 108]
/-- What stops an address. -/
def stopU (c : Int) : Bool := ((((((c == 34) || (c == 39)) || (c == 40)) || (c == 92)) || (c == 32)) || (decide (c ≤ 31))) || (c == 127)
theorem stop_eq {c : Int} (h1 : sIsBlank.f c = false) (h2 : ((c == 34) || ((c == 39) || ((c == 40) || (sisControl.f c)))) = false) (h9 : (c == 92) = false) : stopU c = false := by
  unfold stopU
  unfold sisControl.f at h2
  unfold sIsBlank.f at h1
  simp only [Bool.or_eq_false_iff, Bool.and_eq_false_iff, beq_eq_false_iff_ne, decide_eq_false_iff_not] at h1 h2 h9 ⊢
  omega
theorem blank_stop {c : Int} (h1 : sIsBlank.f c = true) : stopU c = true ∧ (c == 92) = false := by
  unfold sIsBlank.f at h1
  simp only [Bool.or_eq_true, beq_iff_eq] at h1
  rcases h1 with (((rfl | rfl) | rfl) | rfl) | rfl <;> decide
theorem address_loop {K : Nat} {T : List Int} (hF : Fit T K) : ∀ (m k q : Nat) (o : Bool), T.length - q ≤ m → m < k → q ≤ T.length →
    (∃ (kd : List Int) (q' : Nat) (o' : Bool), saddress.l0 K T k q o = some (.inl (kd, (q' : Int), o')) ∧ q ≤ q' ∧ q' ≤ T.length ∧ (o' = false → o = false ∧ kd = urlK ∧
      (Good T → ∃ r : Nat, r < T.length ∧ T.getD (rn sIsBlank.f T r) 0 = 41 ∧ q' = rn sIsBlank.f T r + 1 ∧ ∀ (B : List Int) (n u k2 : Nat), Ctx B n T → u ≤ T.length → m < k2 → consumeUnquotedURL.l0 K B (pq n u) k2 (pq n q) = if sIsBlank.f (T.getD r 0) = true then some (.inl (false, pq n r)) else some (.inr (pq n r))))) ∨
    (∃ (q' : Nat) (o' : Bool), saddress.l0 K T k q o = some (.inr ((q' : Int), o')) ∧ q ≤ q' ∧ q' ≤ T.length)
  | m, k + 1, q, o, hm, hk, hq => by
    have hl := hF.len
    have hK := hF.fuel
    unfold saddress.l0
    rw [rovern]
    by_cases hn : T.length ≤ q
    · rw [decide_eq_true hn, if_pos rfl]
      exact .inr ⟨q, o, rfl, Nat.le_refl _, hq⟩
    · rw [decide_eq_false hn, if_neg (by decide), rpk0 (by omega), wr1 (by omega)]
      simp only [bS]
      obtain ⟨m, rfl⟩ : ∃ j, m = j + 1 := ⟨m - 1, by omega⟩
      have hql : q < T.length := by omega
      have lex : Good T → ∀ (B : List Int) (n u k2 : Nat), Ctx B n T → consumeUnquotedURL.l0 K B (pq n u) (k2 + 1) (pq n q) = if (T.getD q 0 == 41) = true then (some (.inr (pq n q))) else
          if stopU (T.getD q 0) = true then ((if (T.getD q 0 == 92) = true then ((consumeEscape.f K B (pq n q) (pq n u)).bind fun (t578, p579) => some (!t578, p579)) else some (true, pq n q)).bind fun (b582, p583) =>
          if b582 = true then (some (.inl (false, p583))) else consumeUnquotedURL.l0 K B (pq n u) k2 p583) else
          consumeUnquotedURL.l0 K B (pq n u) k2 (pq n (q + 1)) := by
        intro hG B n u k2 hC
        conv => lhs; unfold consumeUnquotedURL.l0
        rw [hC.pk0 hq, hC.inn hql, hC.inner hql, hC.mv1 hq]
        simp only [bS]
        rw [beq_eq_false_iff_ne.mpr (hG.ne0 hql)]
        simp only [Bool.false_and, Bool.not_false, Bool.true_and, Bool.false_or]
        rfl
      by_cases h1 : (T.getD q 0 == 41) = true
      · rw [if_pos h1]
        have hb : sIsBlank.f (T.getD q 0) = false := by rw [beq_iff_eq.mp h1]; decide
        refine .inl ⟨urlK, q + 1, o, rfl, by omega, by omega, fun ho => ⟨ho, rfl, fun hG => ⟨q, hql, ?_, ?_, fun B n u k2 hC hu hk2 => ?_⟩⟩⟩
        · rw [rn_zero hb]; exact beq_iff_eq.mp h1
        · rw [rn_zero hb]
        · obtain ⟨k2, rfl⟩ : ∃ j, k2 = j + 1 := ⟨k2 - 1, by omega⟩
          rw [lex hG B n u k2 hC, if_pos h1, if_neg (by rw [hb]; decide)]
      · rw [if_neg h1]
        by_cases h2 : sIsBlank.f (T.getD q 0) = true
        · rw [if_pos h2, blanks_rn hF hq]
          simp only [bS]
          have hr := rn_le (C := sIsBlank.f) (by decide) hq
          rw [rpk0 (by omega)]
          simp only [bS]
          by_cases h3 : (T.getD (rn sIsBlank.f T q) 0 == 41) = true
          · have hrl : rn sIsBlank.f T q < T.length := lt_of_ne (by rw [beq_iff_eq.mp h3]; decide)
            rw [if_pos h3, wr1 (by omega)]
            refine .inl ⟨urlK, rn sIsBlank.f T q + 1, o, rfl, by omega, by omega, fun ho => ⟨ho, rfl, fun hG => ⟨q, hql, beq_iff_eq.mp h3, rfl, fun B n u k2 hC hu hk2 => ?_⟩⟩⟩
            obtain ⟨k2, rfl⟩ : ∃ j, k2 = j + 1 := ⟨k2 - 1, by omega⟩
            obtain ⟨hs, h92⟩ := blank_stop h2
            rw [lex hG B n u k2 hC, if_neg h1, if_pos hs, h92, if_neg (by decide), if_pos h2]
            simp only [bS, if_true]
          · rw [if_neg h3]
            unfold swrong.f
            simp only [bS]
            exact .inl ⟨_, rn sIsBlank.f T q, true, rfl, by omega, by omega, fun ho => by cases ho⟩
        · rw [if_neg h2]
          by_cases h3 : ((T.getD q 0 == 34) || ((T.getD q 0 == 39) || ((T.getD q 0 == 40) || (sisControl.f (T.getD q 0))))) = true
          · rw [if_pos h3]
            unfold swrong.f
            simp only [bS]
            exact .inl ⟨_, q, true, rfl, by omega, by omega, fun ho => by cases ho⟩
          · rw [if_neg h3]
            by_cases h9 : (T.getD q 0 == 92) = true
            · have h9' := beq_iff_eq.mp h9
              rw [if_pos h9, sescapes0 (by omega)]
              simp only [bS]
              unfold escs
              rw [if_pos h9']
              by_cases hn1 : T.length ≤ q + 1
              · rw [if_pos hn1]
                simp only [Bool.false_eq_true, if_false]
                unfold swrong.f
                simp only [bS]
                exact .inl ⟨_, q, true, rfl, by omega, by omega, fun ho => by cases ho⟩
              · rw [if_neg hn1]
                by_cases hnl : isNl (T.getD (q + 1) 0) = true
                · simp only [hnl, Bool.not_true, Bool.false_eq_true, if_false]
                  unfold swrong.f
                  simp only [bS]
                  exact .inl ⟨_, q, true, rfl, by omega, by omega, fun ho => by cases ho⟩
                · simp only [Bool.eq_false_iff.mpr hnl, Bool.not_false, if_true]
                  rw [sescape_eq hF.u8 hl (by omega) (by omega)]
                  simp only [bS]
                  have hle := escAt_le (T := T) (q := q) (by omega)
                  rcases address_loop hF m k (escAt T q) (if isHex (T.getD (q + 1) 0) = true ∧ T.getD (hexrun T 6 (q + 1)) 0 = 13 then true else o) (by omega) (by omega) (by omega) with ⟨kd, q', o', e, g1, g2, g3⟩ | ⟨q', o', e, g1, g2⟩
                  · refine .inl ⟨kd, q', o', e, by omega, g2, fun ho => ⟨?_, (g3 ho).2.1, fun hG => ?_⟩⟩
                    · have := (g3 ho).1
                      split at this
                      · cases this
                      · exact this
                    obtain ⟨r, r1, r2, r3, r4⟩ := (g3 ho).2.2 hG
                    refine ⟨r, r1, r2, r3, fun B n u k2 hC hu hk2 => ?_⟩
                    obtain ⟨k2, rfl⟩ : ∃ j, k2 = j + 1 := ⟨k2 - 1, by omega⟩
                    rw [lex hG B n u k2 hC, if_neg h1, if_pos (by unfold stopU; rw [h9]; simp), if_pos h9, hC.esc (hG.utf (has92 hql h9')) (by omega) hu h9' (by omega), if_neg hnl]
                    simp only [bS, Bool.not_true, Bool.false_eq_true, if_false]
                    exact r4 B n u k2 hC hu (by omega)
                  · exact .inr ⟨q', o', e, by omega, g2⟩
            · rw [if_neg h9]
              rcases address_loop hF m k (q + 1) o (by omega) (by omega) (by omega) with ⟨kd, q', o', e, g1, g2, g3⟩ | ⟨q', o', e, g1, g2⟩
              · refine .inl ⟨kd, q', o', e, by omega, g2, fun ho => ⟨(g3 ho).1, (g3 ho).2.1, fun hG => ?_⟩⟩
                obtain ⟨r, r1, r2, r3, r4⟩ := (g3 ho).2.2 hG
                refine ⟨r, r1, r2, r3, fun B n u k2 hC hu hk2 => ?_⟩
                obtain ⟨k2, rfl⟩ : ∃ j, k2 = j + 1 := ⟨k2 - 1, by omega⟩
                rw [lex hG B n u k2 hC, if_neg h1, if_neg (by rw [stop_eq (Bool.eq_false_iff.mpr h2) (Bool.eq_false_iff.mpr h3) (Bool.eq_false_iff.mpr h9)]; decide)]
                exact r4 B n u k2 hC hu (by omega)
              · exact .inr ⟨q', o', e, by omega, g2⟩
end Go.Proofs.YteonakpgenkhkaaDoor
