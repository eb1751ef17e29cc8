import Derived.Test.YteonakpgenkhkaaDoorM7
namespace Go.Proofs.YteonakpgenkhkaaDoor
open Go.RowKit
set_option linter.unusedVariables false
set_option linter.unusedSimpArgs false
theorem toks_law {K : Nat} {T : List Int} (hF : Fit T K) : ∀ (m k q : Nat) (o : Bool) (L : Told), T.length - q ≤ m → m < k → q ≤ T.length →
    ∃ (L' : Told) (qe : Int) (oe : Bool), stoks K T k q o L = some (L', qe, oe) ∧ (oe = false → o = false ∧ ∃ D : Told, L' = L ++ D ∧ D.length ≤ T.length - q ∧ (Good T → ∀ (B : List Int) (n M : Nat) (L0 : Told), Ctx B n T → cssl K B (D.length + M) (pq n q) (pq n q) L0 = cssl K B M (pq n T.length) (pq n T.length) (L0 ++ D)))
  | m, k + 1, q, o, L, hm, hk, hq => by
    unfold stoks
    rw [rovern]
    by_cases hn : T.length ≤ q
    · rw [decide_eq_true hn, if_pos rfl]
      obtain rfl : q = T.length := by omega
      exact ⟨L, _, o, rfl, fun ho => ⟨ho, [], by simp, by simp, fun hG B n M L0 hC => by simp⟩⟩
    · rw [decide_eq_false hn, if_neg (by decide)]
      cases o with
      | true =>
        rw [if_pos rfl]
        exact ⟨L, _, true, rfl, fun ho => by cases ho⟩
      | false =>
        rw [if_neg (by decide)]
        obtain ⟨kd, q', o', e, h1, h2, h3⟩ := token_law hF false (by omega : q < T.length)
        rw [e]
        simp only [bS]
        rw [subL_nat h1 h2]
        simp only [bS]
        obtain ⟨m, rfl⟩ : ∃ j, m = j + 1 := ⟨m - 1, by omega⟩
        obtain ⟨L', qe, oe, e2, k3⟩ := toks_law hF m k q' o' (L ++ [(kd, (T.drop q).take (q' - q))]) (by omega) (by omega) h2
        refine ⟨L', qe, oe, e2, fun ho => ?_⟩
        obtain ⟨ho', D, hL, hD, hlex⟩ := k3 ho
        refine ⟨by simp, (kd, (T.drop q).take (q' - q)) :: D, by rw [hL]; simp, by simp; omega, fun hG B n M L0 hC => ?_⟩
        obtain ⟨x, x1, x2, x3⟩ := (h3 ho').2 hG B n hC
        rw [show ((kd, (T.drop q).take (q' - q)) :: D).length + M = (D.length + M) + 1 by simp; omega]
        conv => lhs; unfold cssl
        rw [x1]
        simp only [bS]
        rw [x3, if_neg (by decide), x2]
        simp only [bS]
        rw [hC.subB (by omega) h2]
        simp only [bS]
        rw [hlex hG B n M _ hC]
        simp
theorem css_end {K : Nat} {pre T : List Int} (hl : (pre ++ (T ++ [0])).length < 1099511627000) (L : Told) (M : Nat) (hM : 0 < M) : (cssl K (pre ++ (T ++ [0])) M (pq pre.length T.length) (pq pre.length T.length) L) = some (L, pq pre.length T.length) ∧ atEnd (pre ++ (T ++ [0])) (pq pre.length T.length) 0 = true := by
  have hC : Ctx (pre ++ (T ++ [0])) pre.length T := ⟨⟨pre, [], by simp, rfl, .inl rfl⟩, hl⟩
  have hz : (pre ++ (T ++ [0])).getD (pre.length + T.length) 0 = 0 := by
    rw [List.getD_eq_getElem?_getD, List.getElem?_append_right (by omega), List.getElem?_append_right (by omega), show pre.length + T.length - pre.length - T.length = 0 by omega]
    rfl
  have he : atEnd (pre ++ (T ++ [0])) (pq pre.length T.length) 0 = true := by
    simp only [List.length_append, List.length_singleton] at hl
    unfold atEnd pq
    rw [decide_eq_true_iff]
    simp only [List.length_append, List.length_singleton]
    unfold wrap64
    omega
  refine ⟨?_, he⟩
  obtain ⟨M, rfl⟩ : ∃ j, M = j + 1 := ⟨M - 1, by omega⟩
  have hN : Next.f K (pre ++ (T ++ [0])) (pq pre.length T.length) (pq pre.length T.length) = some (0, 0, 0, pq pre.length T.length, pq pre.length T.length) := by
    unfold Next.f
    rw [hC.pk0 (by omega), hz]
    simp only [bS]
    rw [if_neg (by decide), if_neg (by decide), if_neg (by decide), if_neg (by decide), if_neg (by decide), if_neg (by decide), if_neg (by decide), if_neg (by decide), if_neg (by decide), if_neg (by decide), if_neg (by decide), if_neg (by decide), if_neg (by decide), if_neg (by decide), if_neg (by decide), if_neg (by decide), if_pos (by decide)]
    unfold NextZero.f
    rw [he, if_pos rfl]
  unfold cssl
  rw [hN]
  simp only [bS]
  rw [if_pos (by decide)]
theorem css_text {K N : Nat} {T : List Int} (hN : T.length < N) (hl : T.length < 1099511626000) (D : Told) (hD : D.length ≤ T.length) (h : ∀ (B : List Int) (n M : Nat) (L0 : Told), Ctx B n T → cssl K B (D.length + M) (pq n 0) (pq n 0) L0 = cssl K B M (pq n T.length) (pq n T.length) (L0 ++ D)) : cssF N K T = some (D, true) := by
  have hC : Ctx (T ++ [0]) 0 T := ⟨⟨[], [], rfl, rfl, .inl rfl⟩, by simp; omega⟩
  have e := h (T ++ [0]) 0 (N - D.length) [] hC
  rw [show D.length + (N - D.length) = N by omega] at e
  have e2 := css_end (K := K) (pre := []) (T := T) (by simp; omega) D (N - D.length) (by omega)
  unfold cssF
  show ((cssl K (T ++ [0]) N (pq 0 0) (pq 0 0) []).bind fun x => some (x.1, atEnd (T ++ [0]) x.2 0)) = _
  rw [e]
  simp only [List.nil_append, List.length_nil] at e2 ⊢
  rw [e2.1]
  simp only [bS]
  rw [e2.2]
theorem tokens_law {T : List Int} (hT : isU8 T) (hl : T.length ≤ 5000) (N : Nat) (hN : N = 100000) : ∃ L qe oe, stoks (T.length + 20) T (T.length + 20) 0 false [] = some (L, qe, oe) ∧ (oe = false → hasB T 0 = false → (hasB T 92 = true → Utf8 T) → cssF N (T.length + 20) T = some (L, true)) := by
  have hF : Fit T (T.length + 20) := ⟨hT, by omega, by omega⟩
  obtain ⟨L, qe, oe, e, h⟩ := toks_law hF T.length (T.length + 20) 0 false [] (by omega) (by omega) (by omega)
  refine ⟨L, qe, oe, e, fun ho h0 hU => ?_⟩
  obtain ⟨_, D, hL, hD, hlex⟩ := h ho
  rw [List.nil_append] at hL
  subst hL
  exact css_text (by omega) (by omega) L (by omega) (hlex ⟨hU, h0⟩)
/-- Two texts with a semicolon between them. -/
theorem split_law {T1 T2 : List Int} (hT1 : isU8 T1) (hT2 : isU8 T2) (hl : T1.length + T2.length ≤ 5000) (K N : Nat) (hK : T1.length + T2.length + 50 ≤ K) (hN : N = 100000) :
    ∃ L1 q1 o1 L2 q2 o2, stoks K T1 K 0 false [] = some (L1, q1, o1) ∧ stoks K T2 K 0 false [] = some (L2, q2, o2) ∧
      (o1 = false → o2 = false → hasB T1 0 = false → (hasB T1 92 = true → Utf8 T1) → hasB T2 0 = false → (hasB T2 92 = true → Utf8 T2) →
        cssF N K T1 = some (L1, true) ∧ cssF N K T2 = some (L2, true) ∧ cssF N K (T1 ++ ([59] ++ T2)) = some (L1 ++ (([59], [59]) :: L2), true)) := by
  have hF1 : Fit T1 K := ⟨hT1, by omega, by omega⟩
  have hF2 : Fit T2 K := ⟨hT2, by omega, by omega⟩
  obtain ⟨L1, q1, o1, e1, h1⟩ := toks_law hF1 T1.length K 0 false [] (by omega) (by omega) (by omega)
  obtain ⟨L2, q2, o2, e2, h2⟩ := toks_law hF2 T2.length K 0 false [] (by omega) (by omega) (by omega)
  refine ⟨L1, q1, o1, L2, q2, o2, e1, e2, fun ho1 ho2 hz1 hu1 hz2 hu2 => ?_⟩
  obtain ⟨_, D1, hL1, hD1, lex1⟩ := h1 ho1
  obtain ⟨_, D2, hL2, hD2, lex2⟩ := h2 ho2
  rw [List.nil_append] at hL1 hL2
  subst hL1 hL2
  have lex1 := lex1 ⟨hu1, hz1⟩
  have lex2 := lex2 ⟨hu2, hz2⟩
  refine ⟨css_text (by omega) (by omega) _ (by omega) lex1, css_text (by omega) (by omega) _ (by omega) lex2, ?_⟩
  have eB : T1 ++ ([59] ++ T2) ++ [0] = (T1 ++ [59]) ++ (T2 ++ [0]) := by simp
  have hC1 : Ctx ((T1 ++ [59]) ++ (T2 ++ [0])) 0 T1 := ⟨⟨[], 59 :: T2, by simp, rfl, .inr ⟨T2, rfl⟩⟩, by simp; omega⟩
  have hC2 : Ctx ((T1 ++ [59]) ++ (T2 ++ [0])) (T1.length + 1) T2 := ⟨⟨T1 ++ [59], [], by simp, by simp, .inl rfl⟩, by simp; omega⟩
  have g1 := lex1 _ 0 (N - L1.length) [] hC1
  rw [show L1.length + (N - L1.length) = N by omega, List.nil_append] at g1
  have g2 := lex2 _ (T1.length + 1) (N - L1.length - 1 - L2.length) (L1 ++ [([59], [59])]) hC2
  rw [show L2.length + (N - L1.length - 1 - L2.length) = N - L1.length - 1 by omega] at g2
  have hz : ((T1 ++ [59]) ++ (T2 ++ [0])).getD (0 + T1.length) 0 = 59 := by
    rw [List.getD_eq_getElem?_getD, List.append_assoc, List.getElem?_append_right (by omega), show 0 + T1.length - T1.length = 0 by omega]
    rfl
  -- the semicolon
  have mid : cssl K ((T1 ++ [59]) ++ (T2 ++ [0])) (N - L1.length) (pq 0 T1.length) (pq 0 T1.length) L1 = cssl K ((T1 ++ [59]) ++ (T2 ++ [0])) (N - L1.length - 1) (pq (T1.length + 1) 0) (pq (T1.length + 1) 0) (L1 ++ [([59], [59])]) := by
    have hn : Next.f K ((T1 ++ [59]) ++ (T2 ++ [0])) (pq 0 T1.length) (pq 0 T1.length) = some (24, pq 0 T1.length, pq (T1.length + 1) 0, pq (T1.length + 1) 0, pq (T1.length + 1) 0) := by
      unfold Next.f
      rw [hC1.pk0 (by omega), hz]
      simp only [bS]
      rw [if_neg (by decide), if_neg (by decide), if_pos (by decide)]
      unfold NextSemi.f
      rw [hC1.mv1 (by omega)]
      have : sel ((T1 ++ [59]) ++ (T2 ++ [0])) (pq 0 (T1.length + 1)) (pq 0 T1.length) = some () := by
        unfold sel pq
        rw [if_pos (by simp; omega)]
      rw [this]
      simp only [bS]
      rw [show pq 0 (T1.length + 1) = pq (T1.length + 1) 0 by unfold pq; omega]
    conv => lhs; rw [show N - L1.length = (N - L1.length - 1) + 1 by omega]
    conv => lhs; unfold cssl
    rw [hn]
    simp only [bS]
    rw [if_neg (by decide), show kname 24 = some [59] by decide]
    simp only [bS]
    have hs : subB ((T1 ++ [59]) ++ (T2 ++ [0])) (pq 0 T1.length) (pq (T1.length + 1) 0) = some [59] := by
      unfold subB pq
      rw [if_pos (by simp; omega), Int.toNat_natCast, Int.toNat_natCast, show T1.length + 1 + 0 - (0 + T1.length) = 1 by omega]
      simp
    rw [hs]
    simp only [bS]
  have fin := css_end (K := K) (pre := T1 ++ [59]) (T := T2) (by simp; omega) (L1 ++ [([59], [59])] ++ L2) (N - L1.length - 1 - L2.length) (by omega)
  rw [show (T1 ++ [(59 : Int)]).length = T1.length + 1 by simp] at fin
  unfold cssF
  rw [eB]
  show ((cssl K ((T1 ++ [59]) ++ (T2 ++ [0])) N (pq 0 0) (pq 0 0) []).bind fun x => some (x.1, atEnd ((T1 ++ [59]) ++ (T2 ++ [0])) x.2 0)) = _
  rw [g1, mid, g2, fin.1]
  simp only [bS]
  rw [fin.2]
  simp
end Go.Proofs.YteonakpgenkhkaaDoor
