import Derived.Test.YteonakpgenkhkaaDoorL14
namespace Go.Proofs.YteonakpgenkhkaaDoor
open Go.RowKit
set_option linter.unusedVariables false
set_option linter.unusedSimpArgs false
def urlVal (T : List Int) (x : (Bool × Int) ⊕ Int) : Bool := match x with
  | .inl (_, p) => ps p 0 == (T.length : Int)
  | .inr p => ps p 0 == (T.length : Int)
theorem urlVal_no {T : List Int} {q : Nat} (b : Bool) (h : q < T.length) (hl : T.length < 1099511627000) : urlVal T (.inl (b, (q : Int))) = false := by
  unfold urlVal
  dsimp only
  rw [psn (by omega), beq_eq_false_iff_ne]
  omega
theorem urlVal_no' {T : List Int} {q : Nat} (h : q < T.length) (hl : T.length < 1099511627000) : urlVal T (.inr (q : Int)) = false := by
  unfold urlVal
  dsimp only
  rw [psn (by omega), beq_eq_false_iff_ne]
  omega
theorem not_has {T : List Int} {q : Nat} {c : Int} (h : q < T.length) (hh : hasB T c = false) : T.getD q 0 ≠ c := by
  intro e
  rw [has92 h e] at hh
  cases hh
theorem bad_eq {c : Int} (h1 : c ≠ 41) (h2 : c ≠ 92) : (((((((c == 34) || (c == 39)) || (c == 40)) || (c == 92)) || (c == 32)) || (decide (c ≤ 31))) || (c == 127)) = (sIsBlank.f c || hasB bad c || sisControl.f c) := by
  rw [Bool.eq_iff_iff]
  unfold sIsBlank.f hasB bad sisControl.f
  simp only [List.any_cons, List.any_nil, Bool.or_eq_true, Bool.and_eq_true, beq_iff_eq, decide_eq_true_eq, Bool.or_false]
  omega
theorem cond1_no {c : Int} {b : Bool} (h0 : c ≠ 0) (h41 : c ≠ 41) : ¬ ((((c == 0) && (b || (c == 41))) || ((!(c == 0)) && (c == 41))) = true) := by
  rw [beq_eq_false_iff_ne.mpr h0, beq_eq_false_iff_ne.mpr h41]
  simp
theorem url_law {K : Nat} {T : List Int} (hT : isU8 T) (hl : T.length < 1099511627000) (hK : T.length + 10 ≤ K) : ∀ (m k q : Nat) (o : Bool), T.length - q ≤ m → m < k → q ≤ T.length →
    ∃ (r : Bool) (q' : Nat) (o' : Bool), address.l0 K T k q o = some (r, (q' : Int), o') ∧ (o' = false → o = false ∧ (hasB T 0 = false → (hasB T 92 = true → Utf8 T) → ∀ k2, m < k2 → ∃ x, consumeUnquotedURL.l0 K (T ++ [0]) 0 k2 q = some x ∧ urlVal T x = r))
  | m, k + 1, q, o, hm, hk, hq => by
    unfold address.l0
    rw [rovern]
    by_cases hn : T.length ≤ q
    · rw [decide_eq_true hn, if_pos rfl]
      refine ⟨true, q, o, rfl, fun h => ⟨h, fun h0 hU k2 hk2 => ?_⟩⟩
      obtain ⟨k2, rfl⟩ : ∃ j, k2 = j + 1 := ⟨k2 - 1, by omega⟩
      unfold consumeUnquotedURL.l0
      rw [pk0 hq (by omega), getD_big hn]
      simp only [bS]
      rw [atEndn (by omega) (by omega), decide_eq_true hn, if_pos (by decide)]
      refine ⟨_, rfl, ?_⟩
      unfold urlVal
      dsimp only
      rw [psn (by omega), beq_iff_eq]
      omega
    · rw [decide_eq_false hn, if_neg (by decide), rpk0 (by omega)]
      simp only [bS]
      obtain ⟨m, rfl⟩ : ∃ j, m = j + 1 := ⟨m - 1, by omega⟩
      by_cases h9 : T.getD q 0 = 92
      · rw [if_pos (by simpa using h9), sescapes0 (by omega)]
        simp only [bS]
        unfold escs
        rw [if_pos h9]
        by_cases hn1 : T.length ≤ q + 1
        · rw [if_pos hn1]
          dsimp only
          rw [if_neg (by decide), h9, if_pos (by decide)]
          exact ⟨false, q, true, rfl, fun h => by cases h⟩
        · rw [if_neg hn1]
          dsimp only
          by_cases hnl : isNl (T.getD (q + 1) 0) = true
          · rw [hnl, if_neg (by decide), if_pos (by rw [h9]; decide)]
            refine ⟨false, q, o, rfl, fun h => ⟨h, fun h0 hU k2 hk2 => ?_⟩⟩
            obtain ⟨k2, rfl⟩ : ∃ j, k2 = j + 1 := ⟨k2 - 1, by omega⟩
            unfold consumeUnquotedURL.l0
            rw [pk0 hq (by omega)]
            simp only [bS]
            rw [if_neg (cond1_no (by rw [h9]; decide) (by rw [h9]; decide)), if_pos (by rw [h9]; decide), if_pos (by simpa using h9), consumeEscape_eq (hU (has92 (by omega) h9)) hl (by omega) (by omega) h9 (by omega), if_pos hnl]
            simp only [bS, Bool.not_false, if_true]
            exact ⟨_, rfl, urlVal_no _ (by omega) hl⟩
          · rw [Bool.eq_false_iff.mpr hnl, if_pos (by decide), sescape_eq hT hl hK (by omega)]
            simp only [bS]
            have hle := escAt_le (T := T) (q := q) (by omega)
            obtain ⟨r, q', o', e, h3⟩ := url_law hT hl hK m k (escAt T q) (if isHex (T.getD (q + 1) 0) = true ∧ T.getD (hexrun T 6 (q + 1)) 0 = 13 then true else o) (by omega) (by omega) (by omega)
            refine ⟨r, q', o', e, fun h => ⟨?_, fun h0 hU k2 hk2 => ?_⟩⟩
            · have := (h3 h).1
              split at this
              · cases this
              · exact this
            obtain ⟨k2, rfl⟩ : ∃ j, k2 = j + 1 := ⟨k2 - 1, by omega⟩
            unfold consumeUnquotedURL.l0
            rw [pk0 hq (by omega)]
            simp only [bS]
            rw [if_neg (cond1_no (by rw [h9]; decide) (by rw [h9]; decide)), if_pos (by rw [h9]; decide), if_pos (by simpa using h9), consumeEscape_eq (hU (has92 (by omega) h9)) hl (by omega) (by omega) h9 (by omega), if_neg hnl]
            simp only [bS, Bool.not_true, Bool.false_eq_true, if_false]
            exact (h3 h).2 h0 hU k2 (by omega)
      · rw [if_neg (by simpa using h9)]
        simp only [bS]
        rw [if_neg (by decide)]
        by_cases hb : (sIsBlank.f (T.getD q 0) || hasB bad (T.getD q 0) || sisControl.f (T.getD q 0)) = true
        · rw [if_pos hb]
          refine ⟨false, q, o, rfl, fun h => ⟨h, fun h0 hU k2 hk2 => ?_⟩⟩
          obtain ⟨k2, rfl⟩ : ∃ j, k2 = j + 1 := ⟨k2 - 1, by omega⟩
          have hc0 := not_has (q := q) (by omega) h0
          unfold consumeUnquotedURL.l0
          rw [pk0 hq (by omega)]
          simp only [bS]
          by_cases h41 : T.getD q 0 = 41
          · rw [if_pos (by rw [h41]; simp)]
            exact ⟨_, rfl, urlVal_no' (by omega) hl⟩
          · rw [if_neg (cond1_no hc0 h41), bad_eq h41 h9, if_pos hb, if_neg (by simpa using h9)]
            simp only [bS, if_true]
            exact ⟨_, rfl, urlVal_no _ (by omega) hl⟩
        · rw [if_neg hb, wr1 (by omega)]
          obtain ⟨r, q', o', e, h3⟩ := url_law hT hl hK m k (q + 1) o (by omega) (by omega) (by omega)
          refine ⟨r, q', o', e, fun h => ⟨(h3 h).1, fun h0 hU k2 hk2 => ?_⟩⟩
          obtain ⟨k2, rfl⟩ : ∃ j, k2 = j + 1 := ⟨k2 - 1, by omega⟩
          have hc0 := not_has (q := q) (by omega) h0
          have h41 : T.getD q 0 ≠ 41 := by
            intro h41
            rw [h41] at hb
            exact hb (by decide)
          unfold consumeUnquotedURL.l0
          rw [pk0 hq (by omega)]
          simp only [bS]
          rw [if_neg (cond1_no hc0 h41), bad_eq h41 h9, if_neg hb, mv1 (by omega)]
          exact (h3 h).2 h0 hU k2 (by omega)
theorem address_law {T : List Int} (hT : isU8 T) (hl : T.length < 1099511627000) : ∃ r k, addressSpec (T.length + 20) T = some (r, k) ∧ (k = true → T.length ≤ 5000 → (r = true → 0 < T.length) → (hasB T 92 = true → Utf8 T) → addressF (T.length + 20) T = some r) := by
  unfold addressSpec
  obtain ⟨r, q', o', e, h3⟩ := url_law hT hl (by omega : T.length + 10 ≤ T.length + 20) T.length (T.length + 20) 0 false (by omega) (by omega) (by omega)
  have e' : address.l0 (T.length + 20) T (T.length + 20) 0 false = some (r, (q' : Int), o') := e
  rw [e']
  simp only [bS]
  refine ⟨_, _, rfl, fun hk h5 h0 hU => ?_⟩
  have ho' : o' = false := by cases o' <;> simp_all
  subst ho'
  have hz : hasB T 0 = false := by cases h : hasB T 0 <;> simp_all
  obtain ⟨x, hx, hv⟩ := (h3 rfl).2 hz hU (T.length + 20) (by omega)
  have hx' : consumeUnquotedURL.l0 (T.length + 20) (T ++ [0]) 0 (T.length + 20) 0 = some x := hx
  unfold addressF consumeUnquotedURL.f
  rw [hx']
  simp only [bS]
  rcases x with ⟨b, p⟩ | p
  · simp only [joinS, bS]
    rw [← hv]
    rfl
  · simp only [joinS, bS]
    rw [← hv]
    rfl
end Go.Proofs.YteonakpgenkhkaaDoor
