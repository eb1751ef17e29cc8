import Derived.Test.YteonakpgenkhkaaDoorM4
namespace Go.Proofs.YteonakpgenkhkaaDoor
open Go.RowKit
set_option linter.unusedVariables false
set_option linter.unusedSimpArgs false
theorem Ctx.sub {B T : List Int} {n : Nat} (h : Ctx B n T) {q r : Nat} (hr : r ≤ T.length) : (B.drop (n + q)).take (r - q) = (T.drop q).take (r - q) := by
  obtain ⟨pre, R, rfl, rfl, _⟩ := h.split
  apply List.ext_getElem?
  intro i
  rw [List.getElem?_take, List.getElem?_take]
  split
  · rw [List.getElem?_drop, List.getElem?_drop, List.getElem?_append_right (by omega), List.getElem?_append_left (by omega), show pre.length + q + i - pre.length = q + i by omega]
  · rfl
theorem Ctx.subL {B T : List Int} {n : Nat} (h : Ctx B n T) {q r : Nat} (hq : q < r) (hr : r ≤ T.length) : subL B (pq n q) (pq n r) = some ((T.drop q).take (r - q)) := by
  have := h.lt
  unfold Go.Proofs.YteonakpgenkhkaaDoor.subL pq
  rw [if_pos (by omega), Int.toNat_natCast, Int.toNat_natCast, show n + r - (n + q) = r - q by omega, h.sub hr]
theorem Ctx.subB {B T : List Int} {n : Nat} (h : Ctx B n T) {q r : Nat} (hq : q ≤ r) (hr : r ≤ T.length) : subB B (pq n q) (pq n r) = some ((T.drop q).take (r - q)) := by
  have := h.lt
  unfold Go.Proofs.YteonakpgenkhkaaDoor.subB pq
  rw [if_pos (by omega), Int.toNat_natCast, Int.toNat_natCast, show n + r - (n + q) = r - q by omega, h.sub hr]
theorem subL_nat {T : List Int} {q r : Nat} (hq : q < r) (hr : r ≤ T.length) : subL T q r = some ((T.drop q).take (r - q)) := by
  unfold subL
  rw [if_pos (by omega), Int.toNat_natCast, Int.toNat_natCast]
theorem bstr92 : ∀ n : Fin 256, n ≠ 92 → ((bstr [(n.val : Int)]).toList == (bstr [92]).toList) = false := by decide +kernel
theorem plain_of {T : List Int} (hT : isU8 T) {q m : Nat} (h : hasB ((T.drop q).take m) 92 = false) : plain92 ((T.drop q).take m) = true := by
  unfold plain92
  rw [List.all_eq_true]
  intro x hx
  have hu : 0 ≤ x ∧ x < 256 := by
    have hx' := List.mem_of_mem_drop (List.mem_of_mem_take hx)
    obtain ⟨j, hj, rfl⟩ := List.getElem_of_mem hx'
    have := hT j hj
    rwa [List.getD_eq_getElem?_getD, List.getElem?_eq_getElem hj] at this
  have hne : x ≠ 92 := by
    rintro rfl
    unfold hasB at h
    rw [List.any_eq_false] at h
    exact h 92 hx (by decide)
  have := bstr92 ⟨x.toNat, by omega⟩ (by intro e; have := congrArg Fin.val e; simp at this; omega)
  rw [show (((⟨x.toNat, by omega⟩ : Fin 256).val : Nat) : Int) = x by simp; omega] at this
  rw [this]
  rfl
theorem low_up (c : Int) (d : Int) (hd : 97 ≤ d ∧ d ≤ 122) : upEq c d = lowEq c d := by
  unfold upEq lowEq sLower.f
  by_cases h1 : 65 ≤ c
  · by_cases h2 : c ≤ 90
    · rw [decide_eq_true h1, decide_eq_true h2, decide_eq_false (by omega : ¬ c < 65), decide_eq_false (by omega : ¬ 90 < c)]
      simp only [Bool.and_self, if_true, Bool.or_self, Bool.false_or]
      have e : (((c + 97) % 256) - 65) % 256 = c + 32 := by omega
      have e2 : (c + 32) % 256 = c + 32 := by omega
      rw [e, e2]
      have h3 : (c == d) = false := by rw [beq_eq_false_iff_ne]; omega
      unfold bne
      rw [h3]
      simp
    · rw [decide_eq_false h2, decide_eq_true (by omega : 90 < c)]
      simp [bne]
  · rw [decide_eq_false h1, decide_eq_true (by omega : c < 65)]
    simp [bne]
theorem alike3 (e : Int → Int → Bool) (S U : List Int) : alike e S U 3 = (e (S.getD 0 0) (U.getD 0 0) && (e (S.getD 1 0) (U.getD 1 0) && e (S.getD 2 0) (U.getD 2 0))) := by
  unfold alike
  rw [show List.range 3 = [0, 1, 2] from rfl]
  simp
theorem fold_same (S : List Int) : foldEq2 S urlK = foldEq S urlK := by
  unfold foldEq2 foldEq
  by_cases h : S.length = urlK.length
  · rw [decide_eq_true h, Bool.true_and, Bool.true_and, h, show urlK.length = 3 from rfl, alike3, alike3]
    rw [low_up _ _ (by decide), low_up _ _ (by decide), low_up _ _ (by decide)]
  · rw [decide_eq_false h, Bool.false_and, Bool.false_and]
theorem fold_no92 {S : List Int} (h : foldEq S urlK = true) : hasB S 92 = false := by
  unfold foldEq at h
  rw [Bool.and_eq_true] at h
  have hl := of_decide_eq_true h.1
  have h2 := h.2
  rw [hl, show urlK.length = 3 from rfl, alike3] at h2
  match S, hl with
  | [a, b, c], _ =>
    simp only [List.getD_cons_zero, List.getD_cons_succ, Bool.and_eq_true, urlK] at h2
    obtain ⟨ha, hb, hc⟩ := h2
    have k : ∀ x d : Int, d ≠ 92 → lowEq x d = true → (x == 92) = false := by
      intro x d hd hx
      rw [beq_eq_false_iff_ne]
      rintro rfl
      unfold lowEq at hx
      rw [show sLower.f 92 = 92 from by decide] at hx
      exact hd (beq_iff_eq.mp hx).symm
    unfold hasB
    simp only [List.any_cons, List.any_nil, k a _ (by decide) ha, k b _ (by decide) hb, k c _ (by decide) hc, Bool.or_self]
theorem Ctx.strip {B T : List Int} {n : Nat} (h : Ctx B n T) (hT : isU8 T) {q r : Nat} (hq : q < r) (hr : r ≤ T.length) (h9 : hasB ((T.drop q).take (r - q)) 92 = false) : strip B (pq n q) (pq n r) = some ((T.drop q).take (r - q)) := by
  unfold Go.Proofs.YteonakpgenkhkaaDoor.strip
  rw [h.subL hq hr]
  simp only [bS]
  rw [if_pos (plain_of hT h9)]
/-- A name that starts as an identifier is not empty. -/
theorem name_pos {K : Nat} {T : List Int} (hF : Fit T K) {q q1 : Nat} {o0 o1 o2 : Bool} (hq : q ≤ T.length) (hid : (idn T q o0).1 = true) (hs : sname.f K T q o1 = some ((q1 : Int), o2)) : q < q1 := by
  have hl := hF.len
  have hK := hF.fuel
  unfold sname.f at hs
  obtain ⟨k, rfl⟩ : ∃ k, K = k + 1 := ⟨K - 1, by omega⟩
  have tot : ∀ (p : Nat) (o : Bool), p ≤ T.length → T.length - p ≤ T.length → ∃ (q' : Nat) (o' : Bool), sname.l0 (k + 1) T k p o = some ((q' : Int), o') ∧ p ≤ q' := fun p o hp _ => by
    obtain ⟨q', o', e, h1, _⟩ := name_law2 hF.u8 hl (by omega : T.length + 10 ≤ k + 1) T.length k p o (by omega) (by omega) hp
    exact ⟨q', o', e, h1⟩
  have byname : sisNameByte.f (T.getD q 0) = true → q < q1 := fun hb => by
    have hql : q < T.length := cls_lt (C := sisNameByte.f) (by decide) hb
    rw [sname_name hl hql hb] at hs
    obtain ⟨q', o', e, h1⟩ := tot (q + 1) o1 (by omega) (by omega)
    rw [hs] at e
    have := congrArg Prod.fst (Option.some.inj e)
    dsimp only at this
    omega
  have byesc : (escs T q o0).1 = true → q < q1 := fun he => by
    unfold escs at he
    split at he
    · rename_i h9
      split at he
      · cases he
      · rename_i hn
        have hnl : isNl (T.getD (q + 1) 0) = false := by simpa using he
        rw [sname_esc hF.u8 hl (by omega) (by omega) h9 hnl] at hs
        have hle := escAt_le (T := T) (q := q) (by omega)
        obtain ⟨q', o', e, h1⟩ := tot (escAt T q) (if isHex (T.getD (q + 1) 0) = true ∧ T.getD (hexrun T 6 (q + 1)) 0 = 13 then true else o1) (by omega) (by omega)
        rw [hs] at e
        have := congrArg Prod.fst (Option.some.inj e)
        dsimp only at this
        omega
    · cases he
  unfold idn at hid
  split at hid
  · rename_i h4
    exact byname (by rw [h4]; decide)
  · split at hid
    · exact byname (name_of_start ‹_›)
    · exact byesc hid
theorem address_quote {K k : Nat} {T : List Int} (hF : Fit T K) {q : Nat} {o : Bool} (h : T.getD q 0 = 34 ∨ T.getD q 0 = 39) : ∃ kd : List Int, saddress.l0 K T (k + 1) q o = some (.inl (kd, (q : Int), true)) := by
  have hl := hF.len
  have hql : q < T.length := lt_of_ne (by rcases h with h | h <;> rw [h] <;> decide)
  unfold saddress.l0
  rw [rovern, decide_eq_false (by omega), if_neg (by decide), rpk0 (by omega)]
  simp only [bS]
  rw [if_neg (by rcases h with h | h <;> rw [h] <;> decide), if_neg (by rcases h with h | h <;> rw [h] <;> decide), if_pos (by rcases h with h | h <;> rw [h] <;> decide)]
  unfold swrong.f
  exact ⟨_, rfl⟩
theorem identlike_no {K : Nat} {T : List Int} (hF : Fit T K) (hG : Good T) {q : Nat} (hq : q ≤ T.length) {B : List Int} {n : Nat} (hC : Ctx B n T) (h : idn T q false = (false, false)) : consumeIdentlike.f K B (pq n q) (pq n q) = some (0, pq n q) := by
  unfold consumeIdentlike.f
  rw [ident_no hF hG hq hq hC h]
  rfl
theorem identlike_law {K : Nat} {T : List Int} (hF : Fit T K) {q : Nat} {o : Bool} (hq : q ≤ T.length) (hid : (idn T q o).1 = true) : Alike K T q o (sidentLike.f K T q (idn T q o).2) (consumeIdentlike.f K) := by
  have hl := hF.len
  have hK := hF.fuel
  obtain ⟨q1, o1, es, g1, g2, g3⟩ := sname_tot hF q (idn T q o).2 hq
  have hpos := name_pos hF hq hid es
  unfold sidentLike.f
  rw [es]
  simp only [bS]
  rw [rpk0 (by omega)]
  simp only [bS]
  -- what the lexer knows where the name is told
  have lex : o1 = false → o = false ∧ (Good T → ∀ (B : List Int) (n : Nat), Ctx B n T → consumeIdentToken.f K B (pq n q) (pq n q) = some (true, pq n q1)) := fun h1 => by
    subst h1
    have h2 := g3 rfl
    have h3 := idn_shut h2
    subst h3
    rw [h2] at es
    exact ⟨rfl, fun hG B n hC => ident_yes hF hG hq hq hC (Prod.ext hid h2) es⟩
  by_cases h4 : (T.getD q1 0 == 40) = true
  · have h4' := beq_iff_eq.mp h4
    have hq1 : q1 < T.length := lt_of_ne (by rw [h4']; decide)
    rw [if_pos h4, subL_nat hpos g2]
    simp only [bS]
    rw [wr1 (by omega)]
    by_cases hf : foldEq ((T.drop q).take (q1 - q)) [117, 114, 108] = true
    · rw [if_pos hf]
      unfold saddress.f
      rw [blanks_rn hF (by omega)]
      simp only [bS]
      have hr := rn_le (C := sIsBlank.f) (by decide) (T := T) (q := q1 + 1) (by omega)
      generalize hr0 : rn sIsBlank.f T (q1 + 1) = r0 at *
      rcases address_loop hF T.length K r0 o1 (by omega) (by omega) (by omega) with ⟨kd, q', o', e, k1, k2, k3⟩ | ⟨q', o', e, k1, k2⟩
      · rw [e]
        refine ⟨kd, q', o', rfl, by omega, k2, fun ho => ⟨(lex (k3 ho).1).1, fun hG B n hC => ⟨7, ?_, by rw [(k3 ho).2.1]; decide, by decide⟩⟩⟩
        obtain ⟨r, r1, r2, r3, r4⟩ := (k3 ho).2.2 hG
        have hnq : ¬ (T.getD r0 0 = 34 ∨ T.getD r0 0 = 39) := fun h => by
          obtain ⟨k, hk⟩ : ∃ k, K = k + 1 := ⟨K - 1, by omega⟩
          obtain ⟨kd', e'⟩ := address_quote (k := k) (o := o1) hF h
          rw [← hk, e] at e'
          have := Option.some.inj e'
          simp only [Sum.inl.injEq, Prod.mk.injEq] at this
          rw [ho] at this
          exact absurd this.2.2 (by decide)
        unfold consumeIdentlike.f
        rw [(lex (k3 ho).1).2 hG B n hC]
        simp only [bS, if_true]
        rw [hC.pk0 (by omega), hC.inn hq1]
        simp only [bS]
        rw [if_pos h4, hC.sel_ (by omega) (by omega)]
        simp only [bS]
        rw [hC.strip hF.u8 hpos g2 (fold_no92 hf)]
        simp only [bS]
        rw [fold_same, if_pos hf, hC.mv1 (by omega), hC.ws1 hF (by omega), hr0]
        simp only [bS]
        rw [hC.pk0 (by omega)]
        simp only [bS]
        rw [hC.eqq (by omega) 34 (by decide) (by decide), hC.eqq (by omega) 39 (by decide) (by decide), if_neg (by simpa using hnq)]
        unfold consumeUnquotedURL.f
        rw [r4 B n q K hC (by omega) (by omega)]
        have fin : ∀ p : Nat, p ≤ T.length → rn sIsBlank.f T p = rn sIsBlank.f T r → ((consumeIdentlike.l1 K B (pq n q) K (pq n p)).bind fun p670 =>
            ((consumeByte.f B p670 (pq n q) 41).bind fun (t673, p674) =>
            if t673 = true then (some (false, p674)) else
            if (atEnd B p674 0) = true then (some (false, p674)) else
            some (true, p674)).bind fun (b680, p681) =>
            if b680 = true then ((consumeRemnantsBadURL.f K B p681 (pq n q)).bind fun p683 =>
            some ((8 : Int), p683)) else
            some (7, p681)) = some (7, pq n q') := by
          intro p hp hpr
          rw [hC.ws2 hF hp, hpr]
          simp only [bS]
          have hrr := rn_le (C := sIsBlank.f) (by decide) (T := T) (q := r) (by omega)
          rw [hC.byte (by omega) _ 41 (by decide) (by decide), r2, if_pos (by decide), ← r3]
          simp only [bS, if_true, Bool.false_eq_true, if_false]
        by_cases hb : sIsBlank.f (T.getD r 0) = true
        · rw [if_pos hb]
          simp only [bS, joinS, Bool.false_eq_true, if_false]
          rw [hC.ws (by omega), if_pos hb]
          simp only [bS, Bool.not_true, Bool.false_eq_true, if_false, joinS]
          exact fin (r + 1) (by omega) (rn_step (by decide) hb).symm
        · rw [if_neg hb]
          simp only [bS, joinS, if_true, Bool.false_eq_true, if_false]
          exact fin r (by omega) rfl
      · rw [e]
        exact ⟨_, q', true, rfl, by omega, k2, fun ho => by cases ho⟩
    · rw [if_neg hf]
      by_cases h9 : hasB ((T.drop q).take (q1 - q)) 92 = true
      · rw [if_pos h9]
        exact ⟨_, q1 + 1, true, rfl, by omega, by omega, fun ho => by cases ho⟩
      · rw [if_neg h9]
        refine ⟨_, q1 + 1, o1, rfl, by omega, by omega, fun ho => ⟨(lex ho).1, fun hG B n hC => ⟨2, ?_, by decide, by decide⟩⟩⟩
        unfold consumeIdentlike.f
        rw [(lex ho).2 hG B n hC]
        simp only [bS, if_true]
        rw [hC.pk0 (by omega), hC.inn hq1]
        simp only [bS]
        rw [if_pos h4, hC.sel_ (by omega) (by omega)]
        simp only [bS]
        rw [hC.strip hF.u8 hpos g2 (Bool.eq_false_iff.mpr h9)]
        simp only [bS]
        rw [fold_same, if_neg hf, hC.mv1 (by omega)]
  · rw [if_neg h4]
    refine ⟨_, q1, o1, rfl, hpos, g2, fun ho => ⟨(lex ho).1, fun hG B n hC => ⟨1, ?_, by decide, by decide⟩⟩⟩
    unfold consumeIdentlike.f
    rw [(lex ho).2 hG B n hC]
    simp only [bS, if_true]
    rw [hC.pk0 (by omega)]
    simp only [bS]
    rw [hC.eqq (by omega) 40 (by decide) (by decide), if_neg h4]
end Go.Proofs.YteonakpgenkhkaaDoor
