import Derived.Test.YteonakpgenkhkaaDoorM6
namespace Go.Proofs.YteonakpgenkhkaaDoor
open Go.RowKit
set_option linter.unusedVariables false
set_option linter.unusedSimpArgs false
section
variable {B T : List Int} {n q K : Nat} {s : Int}
theorem Ctx.nx32 (h : Ctx B n T) (hc : T.getD q 0 = 32) : Next.f K B (pq n q) s = NextWs.f K B (pq n q) s := by
  have hq : q < T.length := lt_of_ne (by rw [hc]; decide)
  unfold Next.f
  rw [h.pk0 (by omega), h.inn hq, hc]
  simp only [bS]
  rw [if_pos (by decide)]
theorem Ctx.nx9 (h : Ctx B n T) (hc : T.getD q 0 = 9) : Next.f K B (pq n q) s = NextWs.f K B (pq n q) s := by
  have hq : q < T.length := lt_of_ne (by rw [hc]; decide)
  unfold Next.f
  rw [h.pk0 (by omega), h.inn hq, hc]
  simp only [bS]
  rw [if_pos (by decide)]
theorem Ctx.nx10 (h : Ctx B n T) (hc : T.getD q 0 = 10) : Next.f K B (pq n q) s = NextWs.f K B (pq n q) s := by
  have hq : q < T.length := lt_of_ne (by rw [hc]; decide)
  unfold Next.f
  rw [h.pk0 (by omega), h.inn hq, hc]
  simp only [bS]
  rw [if_pos (by decide)]
theorem Ctx.nx13 (h : Ctx B n T) (hc : T.getD q 0 = 13) : Next.f K B (pq n q) s = NextWs.f K B (pq n q) s := by
  have hq : q < T.length := lt_of_ne (by rw [hc]; decide)
  unfold Next.f
  rw [h.pk0 (by omega), h.inn hq, hc]
  simp only [bS]
  rw [if_pos (by decide)]
theorem Ctx.nx12 (h : Ctx B n T) (hc : T.getD q 0 = 12) : Next.f K B (pq n q) s = NextWs.f K B (pq n q) s := by
  have hq : q < T.length := lt_of_ne (by rw [hc]; decide)
  unfold Next.f
  rw [h.pk0 (by omega), h.inn hq, hc]
  simp only [bS]
  rw [if_pos (by decide)]
theorem Ctx.nx58 (h : Ctx B n T) (hc : T.getD q 0 = 58) : Next.f K B (pq n q) s = NextColon.f B (pq n q) s := by
  have hq : q < T.length := lt_of_ne (by rw [hc]; decide)
  unfold Next.f
  rw [h.pk0 (by omega), h.inn hq, hc]
  simp only [bS]
  rw [if_neg (by decide), if_pos (by decide)]
theorem Ctx.nx59 (h : Ctx B n T) (hc : T.getD q 0 = 59) : Next.f K B (pq n q) s = NextSemi.f B (pq n q) s := by
  have hq : q < T.length := lt_of_ne (by rw [hc]; decide)
  unfold Next.f
  rw [h.pk0 (by omega), h.inn hq, hc]
  simp only [bS]
  rw [if_neg (by decide), if_neg (by decide), if_pos (by decide)]
theorem Ctx.nx44 (h : Ctx B n T) (hc : T.getD q 0 = 44) : Next.f K B (pq n q) s = NextComma.f B (pq n q) s := by
  have hq : q < T.length := lt_of_ne (by rw [hc]; decide)
  unfold Next.f
  rw [h.pk0 (by omega), h.inn hq, hc]
  simp only [bS]
  rw [if_neg (by decide), if_neg (by decide), if_neg (by decide), if_pos (by decide)]
theorem Ctx.nx40 (h : Ctx B n T) (hc : T.getD q 0 = 40) : Next.f K B (pq n q) s = NextBrack.f B (pq n q) s := by
  have hq : q < T.length := lt_of_ne (by rw [hc]; decide)
  unfold Next.f
  rw [h.pk0 (by omega), h.inn hq, hc]
  simp only [bS]
  rw [if_neg (by decide), if_neg (by decide), if_neg (by decide), if_neg (by decide), if_pos (by decide)]
theorem Ctx.nx41 (h : Ctx B n T) (hc : T.getD q 0 = 41) : Next.f K B (pq n q) s = NextBrack.f B (pq n q) s := by
  have hq : q < T.length := lt_of_ne (by rw [hc]; decide)
  unfold Next.f
  rw [h.pk0 (by omega), h.inn hq, hc]
  simp only [bS]
  rw [if_neg (by decide), if_neg (by decide), if_neg (by decide), if_neg (by decide), if_pos (by decide)]
theorem Ctx.nx91 (h : Ctx B n T) (hc : T.getD q 0 = 91) : Next.f K B (pq n q) s = NextBrack.f B (pq n q) s := by
  have hq : q < T.length := lt_of_ne (by rw [hc]; decide)
  unfold Next.f
  rw [h.pk0 (by omega), h.inn hq, hc]
  simp only [bS]
  rw [if_neg (by decide), if_neg (by decide), if_neg (by decide), if_neg (by decide), if_pos (by decide)]
theorem Ctx.nx93 (h : Ctx B n T) (hc : T.getD q 0 = 93) : Next.f K B (pq n q) s = NextBrack.f B (pq n q) s := by
  have hq : q < T.length := lt_of_ne (by rw [hc]; decide)
  unfold Next.f
  rw [h.pk0 (by omega), h.inn hq, hc]
  simp only [bS]
  rw [if_neg (by decide), if_neg (by decide), if_neg (by decide), if_neg (by decide), if_pos (by decide)]
theorem Ctx.nx123 (h : Ctx B n T) (hc : T.getD q 0 = 123) : Next.f K B (pq n q) s = NextBrack.f B (pq n q) s := by
  have hq : q < T.length := lt_of_ne (by rw [hc]; decide)
  unfold Next.f
  rw [h.pk0 (by omega), h.inn hq, hc]
  simp only [bS]
  rw [if_neg (by decide), if_neg (by decide), if_neg (by decide), if_neg (by decide), if_pos (by decide)]
theorem Ctx.nx125 (h : Ctx B n T) (hc : T.getD q 0 = 125) : Next.f K B (pq n q) s = NextBrack.f B (pq n q) s := by
  have hq : q < T.length := lt_of_ne (by rw [hc]; decide)
  unfold Next.f
  rw [h.pk0 (by omega), h.inn hq, hc]
  simp only [bS]
  rw [if_neg (by decide), if_neg (by decide), if_neg (by decide), if_neg (by decide), if_pos (by decide)]
theorem Ctx.nx35 (h : Ctx B n T) (hc : T.getD q 0 = 35) : Next.f K B (pq n q) s = NextHash.f K B (pq n q) s := by
  have hq : q < T.length := lt_of_ne (by rw [hc]; decide)
  unfold Next.f
  rw [h.pk0 (by omega), h.inn hq, hc]
  simp only [bS]
  rw [if_neg (by decide), if_neg (by decide), if_neg (by decide), if_neg (by decide), if_neg (by decide), if_pos (by decide)]
theorem Ctx.nx34 (h : Ctx B n T) (hc : T.getD q 0 = 34) : Next.f K B (pq n q) s = NextQuote.f K B (pq n q) s := by
  have hq : q < T.length := lt_of_ne (by rw [hc]; decide)
  unfold Next.f
  rw [h.pk0 (by omega), h.inn hq, hc]
  simp only [bS]
  rw [if_neg (by decide), if_neg (by decide), if_neg (by decide), if_neg (by decide), if_neg (by decide), if_neg (by decide), if_pos (by decide)]
theorem Ctx.nx39 (h : Ctx B n T) (hc : T.getD q 0 = 39) : Next.f K B (pq n q) s = NextQuote.f K B (pq n q) s := by
  have hq : q < T.length := lt_of_ne (by rw [hc]; decide)
  unfold Next.f
  rw [h.pk0 (by omega), h.inn hq, hc]
  simp only [bS]
  rw [if_neg (by decide), if_neg (by decide), if_neg (by decide), if_neg (by decide), if_neg (by decide), if_neg (by decide), if_pos (by decide)]
theorem Ctx.nx46 (h : Ctx B n T) (hc : T.getD q 0 = 46) : Next.f K B (pq n q) s = NextNum.f K B (pq n q) s := by
  have hq : q < T.length := lt_of_ne (by rw [hc]; decide)
  unfold Next.f
  rw [h.pk0 (by omega), h.inn hq, hc]
  simp only [bS]
  rw [if_neg (by decide), if_neg (by decide), if_neg (by decide), if_neg (by decide), if_neg (by decide), if_neg (by decide), if_neg (by decide), if_pos (by decide)]
theorem Ctx.nx43 (h : Ctx B n T) (hc : T.getD q 0 = 43) : Next.f K B (pq n q) s = NextNum.f K B (pq n q) s := by
  have hq : q < T.length := lt_of_ne (by rw [hc]; decide)
  unfold Next.f
  rw [h.pk0 (by omega), h.inn hq, hc]
  simp only [bS]
  rw [if_neg (by decide), if_neg (by decide), if_neg (by decide), if_neg (by decide), if_neg (by decide), if_neg (by decide), if_neg (by decide), if_pos (by decide)]
theorem Ctx.nx45 (h : Ctx B n T) (hc : T.getD q 0 = 45) : Next.f K B (pq n q) s = NextMinus.f K B (pq n q) s := by
  have hq : q < T.length := lt_of_ne (by rw [hc]; decide)
  unfold Next.f
  rw [h.pk0 (by omega), h.inn hq, hc]
  simp only [bS]
  rw [if_neg (by decide), if_neg (by decide), if_neg (by decide), if_neg (by decide), if_neg (by decide), if_neg (by decide), if_neg (by decide), if_neg (by decide), if_pos (by decide)]
theorem Ctx.nx64 (h : Ctx B n T) (hc : T.getD q 0 = 64) : Next.f K B (pq n q) s = NextAt.f K B (pq n q) s := by
  have hq : q < T.length := lt_of_ne (by rw [hc]; decide)
  unfold Next.f
  rw [h.pk0 (by omega), h.inn hq, hc]
  simp only [bS]
  rw [if_neg (by decide), if_neg (by decide), if_neg (by decide), if_neg (by decide), if_neg (by decide), if_neg (by decide), if_neg (by decide), if_neg (by decide), if_neg (by decide), if_pos (by decide)]
theorem Ctx.nx36 (h : Ctx B n T) (hc : T.getD q 0 = 36) : Next.f K B (pq n q) s = NextMatch.f B (pq n q) s := by
  have hq : q < T.length := lt_of_ne (by rw [hc]; decide)
  unfold Next.f
  rw [h.pk0 (by omega), h.inn hq, hc]
  simp only [bS]
  rw [if_neg (by decide), if_neg (by decide), if_neg (by decide), if_neg (by decide), if_neg (by decide), if_neg (by decide), if_neg (by decide), if_neg (by decide), if_neg (by decide), if_neg (by decide), if_pos (by decide)]
theorem Ctx.nx42 (h : Ctx B n T) (hc : T.getD q 0 = 42) : Next.f K B (pq n q) s = NextMatch.f B (pq n q) s := by
  have hq : q < T.length := lt_of_ne (by rw [hc]; decide)
  unfold Next.f
  rw [h.pk0 (by omega), h.inn hq, hc]
  simp only [bS]
  rw [if_neg (by decide), if_neg (by decide), if_neg (by decide), if_neg (by decide), if_neg (by decide), if_neg (by decide), if_neg (by decide), if_neg (by decide), if_neg (by decide), if_neg (by decide), if_pos (by decide)]
theorem Ctx.nx94 (h : Ctx B n T) (hc : T.getD q 0 = 94) : Next.f K B (pq n q) s = NextMatch.f B (pq n q) s := by
  have hq : q < T.length := lt_of_ne (by rw [hc]; decide)
  unfold Next.f
  rw [h.pk0 (by omega), h.inn hq, hc]
  simp only [bS]
  rw [if_neg (by decide), if_neg (by decide), if_neg (by decide), if_neg (by decide), if_neg (by decide), if_neg (by decide), if_neg (by decide), if_neg (by decide), if_neg (by decide), if_neg (by decide), if_pos (by decide)]
theorem Ctx.nx126 (h : Ctx B n T) (hc : T.getD q 0 = 126) : Next.f K B (pq n q) s = NextMatch.f B (pq n q) s := by
  have hq : q < T.length := lt_of_ne (by rw [hc]; decide)
  unfold Next.f
  rw [h.pk0 (by omega), h.inn hq, hc]
  simp only [bS]
  rw [if_neg (by decide), if_neg (by decide), if_neg (by decide), if_neg (by decide), if_neg (by decide), if_neg (by decide), if_neg (by decide), if_neg (by decide), if_neg (by decide), if_neg (by decide), if_pos (by decide)]
theorem Ctx.nx47 (h : Ctx B n T) (hc : T.getD q 0 = 47) : Next.f K B (pq n q) s = NextSlash.f K B (pq n q) s := by
  have hq : q < T.length := lt_of_ne (by rw [hc]; decide)
  unfold Next.f
  rw [h.pk0 (by omega), h.inn hq, hc]
  simp only [bS]
  rw [if_neg (by decide), if_neg (by decide), if_neg (by decide), if_neg (by decide), if_neg (by decide), if_neg (by decide), if_neg (by decide), if_neg (by decide), if_neg (by decide), if_neg (by decide), if_neg (by decide), if_pos (by decide)]
theorem Ctx.nx60 (h : Ctx B n T) (hc : T.getD q 0 = 60) : Next.f K B (pq n q) s = NextLess.f B (pq n q) s := by
  have hq : q < T.length := lt_of_ne (by rw [hc]; decide)
  unfold Next.f
  rw [h.pk0 (by omega), h.inn hq, hc]
  simp only [bS]
  rw [if_neg (by decide), if_neg (by decide), if_neg (by decide), if_neg (by decide), if_neg (by decide), if_neg (by decide), if_neg (by decide), if_neg (by decide), if_neg (by decide), if_neg (by decide), if_neg (by decide), if_neg (by decide), if_pos (by decide)]
theorem Ctx.nx92 (h : Ctx B n T) (hc : T.getD q 0 = 92) : Next.f K B (pq n q) s = NextBack.f K B (pq n q) s := by
  have hq : q < T.length := lt_of_ne (by rw [hc]; decide)
  unfold Next.f
  rw [h.pk0 (by omega), h.inn hq, hc]
  simp only [bS]
  rw [if_neg (by decide), if_neg (by decide), if_neg (by decide), if_neg (by decide), if_neg (by decide), if_neg (by decide), if_neg (by decide), if_neg (by decide), if_neg (by decide), if_neg (by decide), if_neg (by decide), if_neg (by decide), if_neg (by decide), if_pos (by decide)]
theorem Ctx.nx117 (h : Ctx B n T) (hc : T.getD q 0 = 117) : Next.f K B (pq n q) s = NextUu.f K B (pq n q) s := by
  have hq : q < T.length := lt_of_ne (by rw [hc]; decide)
  unfold Next.f
  rw [h.pk0 (by omega), h.inn hq, hc]
  simp only [bS]
  rw [if_neg (by decide), if_neg (by decide), if_neg (by decide), if_neg (by decide), if_neg (by decide), if_neg (by decide), if_neg (by decide), if_neg (by decide), if_neg (by decide), if_neg (by decide), if_neg (by decide), if_neg (by decide), if_neg (by decide), if_neg (by decide), if_pos (by decide)]
theorem Ctx.nx85 (h : Ctx B n T) (hc : T.getD q 0 = 85) : Next.f K B (pq n q) s = NextUu.f K B (pq n q) s := by
  have hq : q < T.length := lt_of_ne (by rw [hc]; decide)
  unfold Next.f
  rw [h.pk0 (by omega), h.inn hq, hc]
  simp only [bS]
  rw [if_neg (by decide), if_neg (by decide), if_neg (by decide), if_neg (by decide), if_neg (by decide), if_neg (by decide), if_neg (by decide), if_neg (by decide), if_neg (by decide), if_neg (by decide), if_neg (by decide), if_neg (by decide), if_neg (by decide), if_neg (by decide), if_pos (by decide)]
theorem Ctx.nx124 (h : Ctx B n T) (hc : T.getD q 0 = 124) : Next.f K B (pq n q) s = NextBar.f B (pq n q) s := by
  have hq : q < T.length := lt_of_ne (by rw [hc]; decide)
  unfold Next.f
  rw [h.pk0 (by omega), h.inn hq, hc]
  simp only [bS]
  rw [if_neg (by decide), if_neg (by decide), if_neg (by decide), if_neg (by decide), if_neg (by decide), if_neg (by decide), if_neg (by decide), if_neg (by decide), if_neg (by decide), if_neg (by decide), if_neg (by decide), if_neg (by decide), if_neg (by decide), if_neg (by decide), if_neg (by decide), if_pos (by decide)]
theorem Ctx.nxElse (h : Ctx B n T) (hq : q < T.length) (hn : ∀ x ∈ nextLits, (T.getD q 0 == x) = false) : Next.f K B (pq n q) s = NextElse.f K B (pq n q) s := by
  unfold Next.f
  rw [h.pk0 (by omega), h.inn hq]
  simp only [bS]
  simp only [hn 32 (by decide), hn 9 (by decide), hn 10 (by decide), hn 13 (by decide), hn 12 (by decide), hn 58 (by decide), hn 59 (by decide), hn 44 (by decide), hn 40 (by decide), hn 41 (by decide), hn 91 (by decide), hn 93 (by decide), hn 123 (by decide), hn 125 (by decide), hn 35 (by decide), hn 34 (by decide), hn 39 (by decide), hn 46 (by decide), hn 43 (by decide), hn 45 (by decide), hn 64 (by decide), hn 36 (by decide), hn 42 (by decide), hn 94 (by decide), hn 126 (by decide), hn 47 (by decide), hn 60 (by decide), hn 92 (by decide), hn 117 (by decide), hn 85 (by decide), hn 124 (by decide), hn 0 (by decide), Bool.or_self, Bool.false_eq_true, if_false]
end
theorem not_lits {C : Int → Bool} (h : ∀ x ∈ nextLits, C x = false) {c : Int} (hc : C c = true) : ∀ x ∈ nextLits, (c == x) = false := fun x hx => by
  rw [beq_eq_false_iff_ne]
  rintro rfl
  rw [h c hx] at hc
  cases hc
def TokAlike (K : Nat) (T : List Int) (q : Nat) (o : Bool) (r : Option (List Int × Int × Bool)) : Prop :=
  ∃ (k : List Int) (q' : Nat) (o' : Bool), r = some (k, (q' : Int), o') ∧ q < q' ∧ q' ≤ T.length ∧ (o' = false → o = false ∧ (Good T → ∀ (B : List Int) (n : Nat), Ctx B n T → ∃ x, Next.f K B (pq n q) (pq n q) = some (x, pq n q, pq n q', pq n q', pq n q') ∧ kname x = some k ∧ (x == 0) = false))
section
variable {B T : List Int} {n q q' K : Nat} {x : Int}
theorem fin_sel (h : Ctx B n T) (h1 : q ≤ q') (h2 : q' ≤ T.length) : ((sel B (pq n q') (pq n q)).bind fun _ => some (x, pq n q, pq n q', pq n q', pq n q')) = some (x, pq n q, pq n q', pq n q', pq n q') := by
  rw [h.sel_ h1 h2]; simp only [bS]
theorem fin_delim (h : Ctx B n T) (hq : q < T.length) : ((sel B (mv (pq n q) 1) (pq n q)).bind fun _ => some ((9 : Int), pq n q, mv (pq n q) 1, mv (pq n q) 1, mv (pq n q) 1)) = some (9, pq n q, pq n (q + 1), pq n (q + 1), pq n (q + 1)) := by
  rw [h.mv1 (by omega), h.sel_ (by omega) (by omega)]; simp only [bS]
theorem quote_fin (h : Ctx B n T) (h1 : q ≤ q') (h2 : q' ≤ T.length) (e : consumeString.f K B (pq n q) (pq n q) = some (x, pq n q')) (hx : (x == 0) = false) : NextQuote.f K B (pq n q) (pq n q) = some (x, pq n q, pq n q', pq n q', pq n q') := by
  unfold NextQuote.f
  rw [e]
  simp only [bS]
  rw [hx, if_neg (by decide), fin_sel h h1 h2]
theorem num_fin (h : Ctx B n T) (h1 : q ≤ q') (h2 : q' ≤ T.length) (e : consumeNumeric.f K B (pq n q) (pq n q) = some (x, pq n q')) (hx : (x == 0) = false) : NextNum.f K B (pq n q) (pq n q) = some (x, pq n q, pq n q', pq n q', pq n q') ∧ NextElse.f K B (pq n q) (pq n q) = some (x, pq n q, pq n q', pq n q', pq n q') := by
  constructor
  · unfold NextNum.f
    rw [e]
    simp only [bS]
    rw [hx, if_neg (by decide), fin_sel h h1 h2]
  · unfold NextElse.f
    rw [e]
    simp only [bS]
    rw [hx, if_neg (by decide), fin_sel h h1 h2]
theorem cdc_no (h : Ctx B n T) (hc : T.getD q 0 = 45) (h1 : T.getD (q + 1) 0 ≠ 45) {s : Int} : consumeCDCToken.f B (pq n q) s = some (false, pq n q) := by
  have hq : q < T.length := lt_of_ne (by rw [hc]; decide)
  unfold consumeCDCToken.f
  rw [h.pk0 (by omega), h.inn hq, hc, h.pk1 (by omega)]
  simp only [bS]
  rw [if_pos (by decide), h.eqq (by omega) 45 (by decide) (by decide), if_neg (by simpa using h1)]
  simp only [bS, Bool.false_eq_true, if_false]
theorem custom_no (h : Ctx B n T) (hq : q < T.length) (h1 : T.getD (q + 1) 0 ≠ 45) {s : Int} : consumeCustomVariableToken.f K B (pq n q) s = some (false, pq n q) := by
  unfold consumeCustomVariableToken.f
  rw [h.pk1 (by omega)]
  simp only [bS]
  rw [h.eqq (by omega) 45 (by decide) (by decide), if_neg (by simpa using h1)]
end
theorem numbers_class {T : List Int} {q : Nat} (h : numbersB T q = true) : T.getD q 0 = 43 ∨ T.getD q 0 = 46 ∨ sisDigit.f (T.getD q 0) = true ∨ (T.getD q 0 = 45 ∧ (sisDigit.f (T.getD (q + 1) 0) = true ∨ T.getD (q + 1) 0 = 46)) := by
  unfold numbersB sgAt isSg at h
  by_cases h3 : T.getD q 0 = 43
  · exact .inl h3
  · by_cases h5 : T.getD q 0 = 45
    · rw [if_pos (by rw [h5]; decide)] at h
      simp only [Bool.or_eq_true, Bool.and_eq_true, beq_iff_eq] at h
      exact .inr (.inr (.inr ⟨h5, h.imp id (·.1)⟩))
    · rw [if_neg (by simp; exact ⟨h3, h5⟩)] at h
      simp only [Bool.or_eq_true, Bool.and_eq_true, beq_iff_eq] at h
      rcases h with h | h
      · exact .inr (.inr (.inl h))
      · exact .inr (.inl h.1)
theorem idn_num {T : List Int} {q : Nat} (h5 : T.getD q 0 = 45) (h : sisDigit.f (T.getD (q + 1) 0) = true ∨ T.getD (q + 1) 0 = 46) : idn T q false = (false, false) ∧ T.getD (q + 1) 0 ≠ 45 := by
  have hs : sisStart.f (T.getD (q + 1) 0) = false ∧ T.getD (q + 1) 0 ≠ 92 ∧ T.getD (q + 1) 0 ≠ 45 := by
    generalize T.getD (q + 1) 0 = c at h
    rcases h with h | rfl
    · unfold sisDigit.f at h
      simp only [Bool.and_eq_true, decide_eq_true_eq] at h
      refine ⟨?_, by omega, by omega⟩
      unfold sisStart.f sisLetter.f
      simp only [Bool.or_eq_false_iff, Bool.and_eq_false_iff, decide_eq_false_iff_not, beq_eq_false_iff_ne]
      omega
    · decide
  unfold idn
  rw [if_pos h5, if_neg hs.2.2, if_neg (by rw [hs.1]; decide)]
  exact ⟨escs_not hs.2.1, hs.2.2⟩
def uB (T : List Int) (q : Nat) : Bool := ((T.getD q 0 == 117) || (T.getD q 0 == 85)) && ((T.getD (q + 1) 0 == 43) && (isHex (T.getD (q + 2) 0) || (T.getD (q + 2) 0 == 63)))
theorem uB_iff {T : List Int} {q : Nat} : uB T q = true ↔ uCond T q := by unfold uB uCond; simp
theorem u_eq {T : List Int} {q : Nat} (hl : q + 10 < 1099511627776) : (if (T.getD q 0 == 117) = true then (if (T.getD (q + 1) 0 == 43) = true then ((rpk T q 2).bind fun c528 =>
      if (decide (0 ≤ shexValue.f c528)) = true then (some true) else (rpk T q 2).bind fun c532 => some (c532 == 63)) else some false) else
      if (T.getD q 0 == 85) = true then (if (T.getD (q + 1) 0 == 43) = true then ((rpk T q 2).bind fun c537 =>
      if (decide (0 ≤ shexValue.f c537)) = true then (some true) else (rpk T q 2).bind fun c541 => some (c541 == 63)) else some false) else some false) = some (uB T q) := by
  rw [rpk2 (by omega)]
  simp only [bS, hex_pos]
  unfold uB
  cases (T.getD q 0 == 117) <;> cases (T.getD q 0 == 85) <;> cases (T.getD (q + 1) 0 == 43) <;> cases isHex (T.getD (q + 2) 0) <;> cases (T.getD (q + 2) 0 == 63) <;> rfl
def cdcB (T : List Int) (q : Nat) : Bool := (T.getD q 0 == 45) && ((T.getD (q + 1) 0 == 45) && (T.getD (q + 2) 0 == 62))
theorem cdc_eq {T : List Int} {q : Nat} (hl : q + 10 < 1099511627776) : (if (T.getD q 0 == 45) = true then (if (T.getD (q + 1) 0 == 45) = true then ((rpk T q 2).bind fun c554 => some (c554 == 62)) else some false) else some false) = some (cdcB T q) := by
  rw [rpk2 (by omega)]
  simp only [bS]
  unfold cdcB
  cases (T.getD q 0 == 45) <;> cases (T.getD (q + 1) 0 == 45) <;> cases (T.getD (q + 2) 0 == 62) <;> rfl
def cdoB (T : List Int) (q : Nat) : Bool := (T.getD q 0 == 60) && ((T.getD (q + 1) 0 == 33) && ((T.getD (q + 2) 0 == 45) && (T.getD (q + 3) 0 == 45)))
theorem cdo_eq {T : List Int} {q : Nat} (hl : q + 10 < 1099511627776) : (if (T.getD q 0 == 60) = true then (if (T.getD (q + 1) 0 == 33) = true then ((rpk T q 2).bind fun c473 =>
      if (c473 == 45) = true then ((rpk T q 3).bind fun c477 => some (c477 == 45)) else some false) else some false) else some false) = some (cdoB T q) := by
  rw [rpk2 (by omega), rpk3 (by omega)]
  simp only [bS]
  unfold cdoB
  cases (T.getD q 0 == 60) <;> cases (T.getD (q + 1) 0 == 33) <;> cases (T.getD (q + 2) 0 == 45) <;> cases (T.getD (q + 3) 0 == 45) <;> rfl
theorem Ctx.cdo {B T : List Int} {n q : Nat} (h : Ctx B n T) (hc : T.getD q 0 = 60) {s : Int} : consumeCDOToken.f B (pq n q) s = if cdoB T q = true then some (true, pq n (q + 4)) else some (false, pq n q) := by
  have hq : q < T.length := lt_of_ne (by rw [hc]; decide)
  unfold consumeCDOToken.f cdoB
  rw [h.pk0 (by omega), h.inn hq, hc, h.pk1 (by omega), h.mv4 (by omega)]
  simp only [bS, beq_self_eq_true, if_true, Bool.true_and]
  rw [h.eqq (by omega) 33 (by decide) (by decide)]
  by_cases h1 : (T.getD (q + 1) 0 == 33) = true
  · have hq1 : q + 1 < T.length := lt_of_ne (by rw [beq_iff_eq.mp h1]; decide)
    rw [if_pos h1, h1, Bool.true_and, h.pk2 (by omega)]
    simp only [bS]
    rw [h.eqq (by omega) 45 (by decide) (by decide)]
    by_cases h2 : (T.getD (q + 2) 0 == 45) = true
    · have hq2 : q + 2 < T.length := lt_of_ne (by rw [beq_iff_eq.mp h2]; decide)
      rw [if_pos h2, h2, Bool.true_and, h.pk3 (by omega)]
      simp only [bS]
      rw [h.eqq (by omega) 45 (by decide) (by decide)]
    · rw [if_neg h2, Bool.eq_false_iff.mpr h2, Bool.false_and]
      simp only [bS]
  · rw [if_neg h1, Bool.eq_false_iff.mpr h1, Bool.false_and]
    simp only [bS]
/-- The rest of the signs. -/
def restF (T : List Int) (q : Nat) (o : Bool) : Option (List Int × Int × Bool) :=
  if ((T.getD q 0 == 124) && (T.getD (q + 1) 0 == 124)) = true then some ([124, 124], ((q + 2 : Nat) : Int), o) else
  if ((T.getD (q + 1) 0 == 61) && (((((T.getD q 0 == 126) || (T.getD q 0 == 124)) || (T.getD q 0 == 94)) || (T.getD q 0 == 36)) || (T.getD q 0 == 42))) = true then some ([T.getD q 0, 61], ((q + 2 : Nat) : Int), o) else
  if cdoB T q = true then some ([60, 33, 45, 45], ((q + 4 : Nat) : Int), o) else
  if (hasB [40, 41, 44, 58, 59, 91, 93, 123, 125] (T.getD q 0)) = true then some ([T.getD q 0], ((q + 1 : Nat) : Int), o) else
  some ([100, 101, 108, 105, 109], ((q + 1 : Nat) : Int), o)
theorem ssign_eq {K : Nat} {T : List Int} (hF : Fit T K) {q : Nat} {o : Bool} (hq : q < T.length) : ssign.f K T q o (T.getD q 0) (T.getD (q + 1) 0) =
    if T.getD q 0 = 35 then (if sisNameByte.f (T.getD (q + 1) 0) = true then (sname.f K T ((q + 1 : Nat) : Int) o).bind fun (q1, o1) => some (([104, 97, 115, 104] : List Int), q1, o1) else
      if (escs T (q + 1) o).1 = true then (sname.f K T ((q + 1 : Nat) : Int) (escs T (q + 1) o).2).bind fun (q1, o1) => some (([104, 97, 115, 104] : List Int), q1, o1) else some (([100, 101, 108, 105, 109] : List Int), ((q + 1 : Nat) : Int), (escs T (q + 1) o).2))
    else if T.getD q 0 = 64 then (if (idn T (q + 1) o).1 = true then (sname.f K T ((q + 1 : Nat) : Int) (idn T (q + 1) o).2).bind fun (q1, o1) => some (([97, 116] : List Int), q1, o1) else some (([100, 101, 108, 105, 109] : List Int), ((q + 1 : Nat) : Int), (idn T (q + 1) o).2))
    else restF T q o := by
  have hl := hF.len
  unfold ssign.f
  rw [wr1 (by omega), wr4 (by omega)]
  by_cases h35 : T.getD q 0 = 35
  · rw [if_pos h35, h35]
    rw [if_pos (by decide), esc1 (by omega)]
    simp only [bS]
    by_cases hn : sisNameByte.f (T.getD (q + 1) 0) = true
    · rw [if_pos hn, if_pos hn]
      simp only [bS, if_true]
    · rw [if_neg hn, if_neg hn]
      simp only [bS]
      by_cases he : (escs T (q + 1) o).1 = true
      · rw [if_pos he, if_pos he]
      · rw [if_neg he, if_neg he, if_neg (by decide)]
        simp only [bS, Bool.false_eq_true, if_false]
        rw [if_neg (by simp), if_neg (by simp), if_neg (by decide)]
        simp only [bS, Bool.false_eq_true, if_false]
        rw [if_neg (by decide)]
        unfold sone.f
        rw [wr1 (by omega)]
        rfl
  · rw [if_neg h35, if_neg (by simpa using h35)]
    simp only [bS, Bool.false_eq_true, if_false]
    by_cases h64 : T.getD q 0 = 64
    · rw [if_pos h64, h64, if_pos (by decide), sid1 (by omega)]
      simp only [bS]
      by_cases he : (idn T (q + 1) o).1 = true
      · rw [if_pos he, if_pos he]
      · rw [if_neg he, if_neg he, if_neg (by simp), if_neg (by simp), if_neg (by decide)]
        simp only [bS, Bool.false_eq_true, if_false]
        rw [if_neg (by decide)]
        unfold sone.f
        rw [wr1 (by omega)]
        rfl
    · rw [if_neg h64, if_neg (by simpa using h64)]
      simp only [bS, Bool.false_eq_true, if_false]
      rw [cdo_eq (by omega)]
      simp only [bS]
      unfold restF stwo.f sone.f
      rw [wr2 (by omega), wr1 (by omega)]
      rfl
theorem kname_match (c : Int) (h : (((((c == 126) || (c == 124)) || (c == 94)) || (c == 36)) || (c == 42)) = true) {B : List Int} {T : List Int} {n q : Nat} (hC : Ctx B n T) (hq : q < T.length) (hc : T.getD q 0 = c) (h61 : T.getD (q + 1) 0 = 61) {s : Int} : ∃ x, consumeMatch.f B (pq n q) s = some (x, pq n (q + 2)) ∧ kname x = some [c, 61] ∧ (x == 0) = false := by
  unfold consumeMatch.f
  rw [hC.pk1 (by omega), hC.pk0 (by omega), hC.inn hq, hC.mv2 (by omega)]
  simp only [bS]
  rw [hC.eqq (by omega) 61 (by decide) (by decide), h61, if_pos (by decide), hc]
  simp only [Bool.or_eq_true, beq_iff_eq] at h
  rcases h with (((rfl | rfl) | rfl) | rfl) | rfl
  · exact ⟨14, rfl, by decide, by decide⟩
  · exact ⟨15, rfl, by decide, by decide⟩
  · exact ⟨16, rfl, by decide, by decide⟩
  · exact ⟨17, rfl, by decide, by decide⟩
  · exact ⟨18, rfl, by decide, by decide⟩
theorem match_no {B T : List Int} {n q : Nat} (hC : Ctx B n T) (hq : q < T.length) (h61 : T.getD (q + 1) 0 ≠ 61) {s : Int} : consumeMatch.f B (pq n q) s = some (0, pq n q) := by
  unfold consumeMatch.f
  rw [hC.pk1 (by omega)]
  simp only [bS]
  rw [hC.eqq (by omega) 61 (by decide) (by decide), if_neg (by simpa using h61)]
theorem Ctx.column {B T : List Int} {n q : Nat} (hC : Ctx B n T) (hc : T.getD q 0 = 124) {s : Int} : consumeColumnToken.f B (pq n q) s = if (T.getD (q + 1) 0 == 124) = true then some (true, pq n (q + 2)) else some (false, pq n q) := by
  have hq : q < T.length := lt_of_ne (by rw [hc]; decide)
  unfold consumeColumnToken.f
  rw [hC.pk0 (by omega), hC.inn hq, hc, hC.pk1 (by omega), hC.mv2 (by omega)]
  simp only [bS, beq_self_eq_true, if_true]
  rw [hC.eqq (by omega) 124 (by decide) (by decide)]


theorem rest_law {K : Nat} {T : List Int} (hF : Fit T K) {q : Nat} {o : Bool} (hq : q < T.length) (hb : sIsBlank.f (T.getD q 0) = false) (hqt : ((T.getD q 0 == 34) || (T.getD q 0 == 39)) = false) (hcm : ((T.getD q 0 == 47) && (T.getD (q + 1) 0 == 42)) = false)
    (hnm : numbersB T q = false) (h35 : T.getD q 0 ≠ 35) (h64 : T.getD q 0 ≠ 64) (hid : (idn T q o).1 = false) : TokAlike K T q o (if (idn T q o).2 = true then (restF T q true) else restF T q false) := by
  have hl := hF.len
  have hK := hF.fuel
  -- what is told of a shut reading
  have tot : ∀ o', ∃ (k : List Int) (q' : Nat), restF T q o' = some (k, (q' : Int), o') ∧ q < q' ∧ q' ≤ T.length := by
    intro o'
    unfold restF
    split
    · rename_i h
      simp only [Bool.and_eq_true, beq_iff_eq] at h
      have : q + 1 < T.length := lt_of_ne (by rw [h.2]; decide)
      exact ⟨_, q + 2, rfl, by omega, by omega⟩
    · split
      · rename_i h
        simp only [Bool.and_eq_true, beq_iff_eq] at h
        have : q + 1 < T.length := lt_of_ne (by rw [h.1]; decide)
        exact ⟨_, q + 2, rfl, by omega, by omega⟩
      · split
        · rename_i h
          unfold cdoB at h
          simp only [Bool.and_eq_true, beq_iff_eq] at h
          have : q + 3 < T.length := lt_of_ne (by rw [h.2.2.2]; decide)
          exact ⟨_, q + 4, rfl, by omega, by omega⟩
        · split
          · exact ⟨_, q + 1, rfl, by omega, by omega⟩
          · exact ⟨_, q + 1, rfl, by omega, by omega⟩
  cases ho2 : (idn T q o).2 with
  | true =>
    obtain ⟨k, q', e, h1, h2⟩ := tot true
    rw [if_pos rfl, e]
    exact ⟨k, q', true, rfl, h1, h2, fun h => by cases h⟩
  | false =>
    obtain rfl := idn_shut ho2
    have hidn : idn T q false = (false, false) := Prod.ext hid ho2
    rw [if_neg (by decide)]
    obtain ⟨k, q', e, h1, h2⟩ := tot false
    refine ⟨k, q', false, e, h1, h2, fun _ => ⟨rfl, fun hG B n hC => ?_⟩⟩
    have num : consumeNumeric.f K B (pq n q) (pq n q) = some (0, pq n q) := numeric_no hF (by omega) (by omega) hnm hC
    have idl : consumeIdentlike.f K B (pq n q) (pq n q) = some (0, pq n q) := identlike_no hF hG (by omega) hC hidn
    have kd : kname 9 = some [100, 101, 108, 105, 109] := by decide
    unfold restF at e
    -- the byte, one by one
    by_cases c124 : T.getD q 0 = 124
    · rw [hC.nx124 c124]
      unfold NextBar.f
      rw [c124] at e
      simp only [beq_self_eq_true, Bool.true_and] at e
      by_cases h124 : T.getD (q + 1) 0 = 124
      · rw [if_pos (by simpa using h124)] at e
        have e := Option.some.inj e
        simp only [Prod.mk.injEq] at e
        obtain ⟨rfl, e2, _⟩ := e
        obtain rfl : q' = q + 2 := by omega
        rw [match_no hC hq (by rw [h124]; decide)]
        simp only [bS]
        rw [if_pos (by decide), hC.column c124, if_pos (by simpa using h124)]
        simp only [bS, if_true]
        rw [fin_sel hC (by omega) h2]
        exact ⟨19, rfl, by decide, by decide⟩
      · rw [if_neg (by simpa using h124)] at e
        by_cases h61 : T.getD (q + 1) 0 = 61
        · rw [if_pos (by rw [h61]; decide)] at e
          have e := Option.some.inj e
          simp only [Prod.mk.injEq] at e
          obtain ⟨rfl, e2, _⟩ := e
          obtain rfl : q' = q + 2 := by omega
          obtain ⟨x, m1, m2, m3⟩ := kname_match 124 (by decide) hC hq c124 h61 (s := pq n q)
          rw [m1]
          simp only [bS]
          rw [m3, if_neg (by decide), fin_sel hC (by omega) h2]
          exact ⟨x, rfl, m2, m3⟩
        · rw [if_neg (by rw [beq_eq_false_iff_ne.mpr h61, Bool.false_and]; decide), if_neg (by unfold cdoB; rw [c124]; simp), if_neg (by decide)] at e
          have e := Option.some.inj e
          simp only [Prod.mk.injEq] at e
          obtain ⟨rfl, e2, _⟩ := e
          obtain rfl : q' = q + 1 := by omega
          rw [match_no hC hq h61]
          simp only [bS]
          rw [if_pos (by decide), hC.column c124, if_neg (by simpa using h124)]
          simp only [bS, Bool.false_eq_true, if_false]
          rw [fin_delim hC hq]
          exact ⟨9, rfl, kd, by decide⟩
    have b124 := beq_eq_false_iff_ne.mpr c124
    rw [if_neg (by rw [b124, Bool.false_and]; decide)] at e

    by_cases c126 : T.getD q 0 = 126
    · rw [hC.nx126 c126]
      unfold NextMatch.f
      rw [c126] at e
      by_cases h61 : T.getD (q + 1) 0 = 61
      · rw [if_pos (by rw [h61]; decide)] at e
        have e := Option.some.inj e
        simp only [Prod.mk.injEq] at e
        obtain ⟨rfl, e2, _⟩ := e
        obtain rfl : q' = q + 2 := by omega
        obtain ⟨x, m1, m2, m3⟩ := kname_match 126 (by decide) hC hq c126 h61 (s := pq n q)
        rw [m1]
        simp only [bS]
        rw [m3, if_neg (by decide), fin_sel hC (by omega) h2]
        exact ⟨x, rfl, m2, m3⟩
      · rw [if_neg (by rw [beq_eq_false_iff_ne.mpr h61, Bool.false_and]; decide), if_neg (by unfold cdoB; rw [c126]; simp), if_neg (by decide)] at e
        have e := Option.some.inj e
        simp only [Prod.mk.injEq] at e
        obtain ⟨rfl, e2, _⟩ := e
        obtain rfl : q' = q + 1 := by omega
        rw [match_no hC hq h61]
        simp only [bS]
        rw [if_pos (by decide), fin_delim hC hq]
        exact ⟨9, rfl, kd, by decide⟩
    by_cases c94 : T.getD q 0 = 94
    · rw [hC.nx94 c94]
      unfold NextMatch.f
      rw [c94] at e
      by_cases h61 : T.getD (q + 1) 0 = 61
      · rw [if_pos (by rw [h61]; decide)] at e
        have e := Option.some.inj e
        simp only [Prod.mk.injEq] at e
        obtain ⟨rfl, e2, _⟩ := e
        obtain rfl : q' = q + 2 := by omega
        obtain ⟨x, m1, m2, m3⟩ := kname_match 94 (by decide) hC hq c94 h61 (s := pq n q)
        rw [m1]
        simp only [bS]
        rw [m3, if_neg (by decide), fin_sel hC (by omega) h2]
        exact ⟨x, rfl, m2, m3⟩
      · rw [if_neg (by rw [beq_eq_false_iff_ne.mpr h61, Bool.false_and]; decide), if_neg (by unfold cdoB; rw [c94]; simp), if_neg (by decide)] at e
        have e := Option.some.inj e
        simp only [Prod.mk.injEq] at e
        obtain ⟨rfl, e2, _⟩ := e
        obtain rfl : q' = q + 1 := by omega
        rw [match_no hC hq h61]
        simp only [bS]
        rw [if_pos (by decide), fin_delim hC hq]
        exact ⟨9, rfl, kd, by decide⟩
    by_cases c36 : T.getD q 0 = 36
    · rw [hC.nx36 c36]
      unfold NextMatch.f
      rw [c36] at e
      by_cases h61 : T.getD (q + 1) 0 = 61
      · rw [if_pos (by rw [h61]; decide)] at e
        have e := Option.some.inj e
        simp only [Prod.mk.injEq] at e
        obtain ⟨rfl, e2, _⟩ := e
        obtain rfl : q' = q + 2 := by omega
        obtain ⟨x, m1, m2, m3⟩ := kname_match 36 (by decide) hC hq c36 h61 (s := pq n q)
        rw [m1]
        simp only [bS]
        rw [m3, if_neg (by decide), fin_sel hC (by omega) h2]
        exact ⟨x, rfl, m2, m3⟩
      · rw [if_neg (by rw [beq_eq_false_iff_ne.mpr h61, Bool.false_and]; decide), if_neg (by unfold cdoB; rw [c36]; simp), if_neg (by decide)] at e
        have e := Option.some.inj e
        simp only [Prod.mk.injEq] at e
        obtain ⟨rfl, e2, _⟩ := e
        obtain rfl : q' = q + 1 := by omega
        rw [match_no hC hq h61]
        simp only [bS]
        rw [if_pos (by decide), fin_delim hC hq]
        exact ⟨9, rfl, kd, by decide⟩
    by_cases c42 : T.getD q 0 = 42
    · rw [hC.nx42 c42]
      unfold NextMatch.f
      rw [c42] at e
      by_cases h61 : T.getD (q + 1) 0 = 61
      · rw [if_pos (by rw [h61]; decide)] at e
        have e := Option.some.inj e
        simp only [Prod.mk.injEq] at e
        obtain ⟨rfl, e2, _⟩ := e
        obtain rfl : q' = q + 2 := by omega
        obtain ⟨x, m1, m2, m3⟩ := kname_match 42 (by decide) hC hq c42 h61 (s := pq n q)
        rw [m1]
        simp only [bS]
        rw [m3, if_neg (by decide), fin_sel hC (by omega) h2]
        exact ⟨x, rfl, m2, m3⟩
      · rw [if_neg (by rw [beq_eq_false_iff_ne.mpr h61, Bool.false_and]; decide), if_neg (by unfold cdoB; rw [c42]; simp), if_neg (by decide)] at e
        have e := Option.some.inj e
        simp only [Prod.mk.injEq] at e
        obtain ⟨rfl, e2, _⟩ := e
        obtain rfl : q' = q + 1 := by omega
        rw [match_no hC hq h61]
        simp only [bS]
        rw [if_pos (by decide), fin_delim hC hq]
        exact ⟨9, rfl, kd, by decide⟩
    rw [if_neg (by rw [b124, beq_eq_false_iff_ne.mpr c126, beq_eq_false_iff_ne.mpr c94, beq_eq_false_iff_ne.mpr c36, beq_eq_false_iff_ne.mpr c42]; simp only [Bool.or_self, Bool.and_false]; decide)] at e
    by_cases c60 : T.getD q 0 = 60
    · rw [hC.nx60 c60]
      unfold NextLess.f
      rw [hC.cdo c60]
      by_cases hd : cdoB T q = true
      · rw [if_pos hd] at e
        have e := Option.some.inj e
        simp only [Prod.mk.injEq] at e
        obtain ⟨rfl, e2, _⟩ := e
        obtain rfl : q' = q + 4 := by omega
        rw [if_pos hd]
        simp only [bS, if_true]
        rw [fin_sel hC (by omega) h2]
        exact ⟨21, rfl, by decide, by decide⟩
      · rw [if_neg hd, c60, if_neg (by decide)] at e
        have e := Option.some.inj e
        simp only [Prod.mk.injEq] at e
        obtain ⟨rfl, e2, _⟩ := e
        obtain rfl : q' = q + 1 := by omega
        rw [if_neg hd]
        simp only [bS, Bool.false_eq_true, if_false]
        rw [fin_delim hC hq]
        exact ⟨9, rfl, kd, by decide⟩
    rw [if_neg (by unfold cdoB; rw [beq_eq_false_iff_ne.mpr c60, Bool.false_and]; decide)] at e

    by_cases c40 : T.getD q 0 = 40
    · rw [hC.nx40 c40]
      rw [c40, if_pos (by decide)] at e
      have e := Option.some.inj e
      simp only [Prod.mk.injEq] at e
      obtain ⟨rfl, e2, _⟩ := e
      obtain rfl : q' = q + 1 := by omega
      refine ⟨28, ?_, by decide, by decide⟩
      unfold NextBrack.f consumeBracket.f
      rw [hC.pk0 (by omega), hC.inn hq, c40, hC.mv1 (by omega)]
      exact fin_sel hC (by omega) h2
    by_cases c41 : T.getD q 0 = 41
    · rw [hC.nx41 c41]
      rw [c41, if_pos (by decide)] at e
      have e := Option.some.inj e
      simp only [Prod.mk.injEq] at e
      obtain ⟨rfl, e2, _⟩ := e
      obtain rfl : q' = q + 1 := by omega
      refine ⟨29, ?_, by decide, by decide⟩
      unfold NextBrack.f consumeBracket.f
      rw [hC.pk0 (by omega), hC.inn hq, c41, hC.mv1 (by omega)]
      exact fin_sel hC (by omega) h2
    by_cases c91 : T.getD q 0 = 91
    · rw [hC.nx91 c91]
      rw [c91, if_pos (by decide)] at e
      have e := Option.some.inj e
      simp only [Prod.mk.injEq] at e
      obtain ⟨rfl, e2, _⟩ := e
      obtain rfl : q' = q + 1 := by omega
      refine ⟨26, ?_, by decide, by decide⟩
      unfold NextBrack.f consumeBracket.f
      rw [hC.pk0 (by omega), hC.inn hq, c91, hC.mv1 (by omega)]
      exact fin_sel hC (by omega) h2
    by_cases c93 : T.getD q 0 = 93
    · rw [hC.nx93 c93]
      rw [c93, if_pos (by decide)] at e
      have e := Option.some.inj e
      simp only [Prod.mk.injEq] at e
      obtain ⟨rfl, e2, _⟩ := e
      obtain rfl : q' = q + 1 := by omega
      refine ⟨27, ?_, by decide, by decide⟩
      unfold NextBrack.f consumeBracket.f
      rw [hC.pk0 (by omega), hC.inn hq, c93, hC.mv1 (by omega)]
      exact fin_sel hC (by omega) h2
    by_cases c123 : T.getD q 0 = 123
    · rw [hC.nx123 c123]
      rw [c123, if_pos (by decide)] at e
      have e := Option.some.inj e
      simp only [Prod.mk.injEq] at e
      obtain ⟨rfl, e2, _⟩ := e
      obtain rfl : q' = q + 1 := by omega
      refine ⟨30, ?_, by decide, by decide⟩
      unfold NextBrack.f consumeBracket.f
      rw [hC.pk0 (by omega), hC.inn hq, c123, hC.mv1 (by omega)]
      exact fin_sel hC (by omega) h2
    by_cases c125 : T.getD q 0 = 125
    · rw [hC.nx125 c125]
      rw [c125, if_pos (by decide)] at e
      have e := Option.some.inj e
      simp only [Prod.mk.injEq] at e
      obtain ⟨rfl, e2, _⟩ := e
      obtain rfl : q' = q + 1 := by omega
      refine ⟨31, ?_, by decide, by decide⟩
      unfold NextBrack.f consumeBracket.f
      rw [hC.pk0 (by omega), hC.inn hq, c125, hC.mv1 (by omega)]
      exact fin_sel hC (by omega) h2
    by_cases c58 : T.getD q 0 = 58
    · rw [hC.nx58 c58]
      rw [c58, if_pos (by decide)] at e
      have e := Option.some.inj e
      simp only [Prod.mk.injEq] at e
      obtain ⟨rfl, e2, _⟩ := e
      obtain rfl : q' = q + 1 := by omega
      refine ⟨23, ?_, by decide, by decide⟩
      unfold NextColon.f
      rw [hC.mv1 (by omega)]
      exact fin_sel hC (by omega) h2
    by_cases c59 : T.getD q 0 = 59
    · rw [hC.nx59 c59]
      rw [c59, if_pos (by decide)] at e
      have e := Option.some.inj e
      simp only [Prod.mk.injEq] at e
      obtain ⟨rfl, e2, _⟩ := e
      obtain rfl : q' = q + 1 := by omega
      refine ⟨24, ?_, by decide, by decide⟩
      unfold NextSemi.f
      rw [hC.mv1 (by omega)]
      exact fin_sel hC (by omega) h2
    by_cases c44 : T.getD q 0 = 44
    · rw [hC.nx44 c44]
      rw [c44, if_pos (by decide)] at e
      have e := Option.some.inj e
      simp only [Prod.mk.injEq] at e
      obtain ⟨rfl, e2, _⟩ := e
      obtain rfl : q' = q + 1 := by omega
      refine ⟨25, ?_, by decide, by decide⟩
      unfold NextComma.f
      rw [hC.mv1 (by omega)]
      exact fin_sel hC (by omega) h2
    have hh : hasB [40, 41, 44, 58, 59, 91, 93, 123, 125] (T.getD q 0) = false := by
      unfold hasB
      simp only [List.any_cons, List.any_nil, beq_eq_false_iff_ne.mpr (Ne.symm c40), beq_eq_false_iff_ne.mpr (Ne.symm c41), beq_eq_false_iff_ne.mpr (Ne.symm c44), beq_eq_false_iff_ne.mpr (Ne.symm c58), beq_eq_false_iff_ne.mpr (Ne.symm c59), beq_eq_false_iff_ne.mpr (Ne.symm c91), beq_eq_false_iff_ne.mpr (Ne.symm c93), beq_eq_false_iff_ne.mpr (Ne.symm c123), beq_eq_false_iff_ne.mpr (Ne.symm c125), Bool.or_self]
    rw [hh, if_neg (by decide)] at e
    have e := Option.some.inj e
    simp only [Prod.mk.injEq] at e
    obtain ⟨rfl, e2, _⟩ := e
    obtain rfl : q' = q + 1 := by omega
    refine ⟨9, ?_, kd, by decide⟩
    by_cases c47 : T.getD q 0 = 47
    · rw [hC.nx47 c47]
      unfold NextSlash.f
      rw [comment_no hF c47 (by rw [c47] at hcm; simpa using hcm) hC]
      simp only [bS, Bool.false_eq_true, if_false]
      exact fin_delim hC hq
    by_cases c46 : T.getD q 0 = 46
    · rw [hC.nx46 c46]
      unfold NextNum.f
      rw [num]
      simp only [bS]
      rw [if_pos (by decide)]
      exact fin_delim hC hq
    by_cases c43 : T.getD q 0 = 43
    · rw [hC.nx43 c43]
      unfold NextNum.f
      rw [num]
      simp only [bS]
      rw [if_pos (by decide)]
      exact fin_delim hC hq
    by_cases c45 : T.getD q 0 = 45
    · have h45 := idn_45 hidn c45
      rw [hC.nx45 c45]
      unfold NextMinus.f
      rw [cdc_no hC c45 h45]
      simp only [bS, Bool.false_eq_true, if_false]
      rw [custom_no hC hq h45]
      simp only [bS, Bool.false_eq_true, if_false]
      rw [idl]
      simp only [bS]
      rw [if_pos (by decide), num]
      simp only [bS]
      rw [if_pos (by decide)]
      exact fin_delim hC hq
    by_cases c92 : T.getD q 0 = 92
    · rw [hC.nx92 c92]
      unfold NextBack.f
      rw [idl]
      simp only [bS]
      rw [if_pos (by decide)]
      exact fin_delim hC hq
    have start : sisStart.f (T.getD q 0) = false := by
      unfold idn at hidn
      rw [if_neg c45] at hidn
      split at hidn
      · cases hidn
      · exact Bool.eq_false_iff.mpr ‹_›
    rw [hC.nxElse hq (by
      intro x hx
      rw [beq_eq_false_iff_ne]
      simp only [nextLits, List.mem_cons, List.not_mem_nil, or_false] at hx
      rcases hx with rfl | rfl | rfl | rfl | rfl | rfl | rfl | rfl | rfl | rfl | rfl | rfl | rfl | rfl | rfl | rfl | rfl | rfl | rfl | rfl | rfl | rfl | rfl | rfl | rfl | rfl | rfl | rfl | rfl | rfl | rfl | rfl
      · exact fun h => by rw [h] at hb; exact absurd hb (by decide)
      · exact fun h => by rw [h] at hb; exact absurd hb (by decide)
      · exact fun h => by rw [h] at hb; exact absurd hb (by decide)
      · exact fun h => by rw [h] at hb; exact absurd hb (by decide)
      · exact fun h => by rw [h] at hb; exact absurd hb (by decide)
      · exact c58
      · exact c59
      · exact c44
      · exact c40
      · exact c41
      · exact c91
      · exact c93
      · exact c123
      · exact c125
      · exact h35
      · exact fun h => by rw [h] at hqt; exact absurd hqt (by decide)
      · exact fun h => by rw [h] at hqt; exact absurd hqt (by decide)
      · exact c46
      · exact c43
      · exact c45
      · exact h64
      · exact c36
      · exact c42
      · exact c94
      · exact c126
      · exact c47
      · exact c60
      · exact c92
      · exact fun h => by rw [h] at start; exact absurd start (by decide)
      · exact fun h => by rw [h] at start; exact absurd start (by decide)
      · exact c124
      · exact hG.ne0 hq)]
    unfold NextElse.f
    rw [num]
    simp only [bS]
    rw [if_pos (by decide), idl]
    simp only [bS]
    rw [if_pos (by decide)]
    exact fin_delim hC hq


/-- An address that is read open stays open. -/
theorem address_open {K : Nat} {T : List Int} (hF : Fit T K) (m k q : Nat) (hm : T.length - q ≤ m) (hk : m < k) (hq : q ≤ T.length) : ∀ (kd : List Int) (q' : Int) (o' : Bool), saddress.l0 K T k q true = some (.inl (kd, q', o')) → o' = true := by
  intro kd q' o' e
  rcases address_loop hF m k q true hm hk hq with ⟨kd2, q2, o2, e2, h1, h2, h3⟩ | ⟨q2, o2, e2, _⟩
  · rw [e] at e2
    have e2 := Option.some.inj e2
    simp only [Sum.inl.injEq, Prod.mk.injEq] at e2
    cases o2 with
    | true => exact e2.2.2
    | false => exact absurd (h3 rfl).1 (by decide)
  · rw [e] at e2
    cases Option.some.inj e2
theorem identlike_open {K : Nat} {T : List Int} (hF : Fit T K) {q q1 : Nat} {k : List Int} {q' : Int} {o' : Bool} (es : sname.f K T q true = some ((q1 : Int), true))
    (e : ((sname.f K T q true).bind fun (q1, o1) => (rpk T q1 0).bind fun c => if (c == 40) = true then (subL T q q1).bind fun S => if foldEq S [117, 114, 108] = true then saddress.f K T (wrap64 (q1 + 1)) o1 else some ([102, 117, 110, 99, 116, 105, 111, 110], wrap64 (q1 + 1), if hasB S 92 = true then true else o1) else some ([105, 100, 101, 110, 116], q1, o1)) = some (k, q', o')) (g2 : q1 ≤ T.length) : o' = true := by
  have hl := hF.len
  have hK := hF.fuel
  rw [es] at e
  simp only [bS] at e
  rw [rpk0 (by omega)] at e
  simp only [bS] at e
  by_cases h4 : (T.getD q1 0 == 40) = true
  · have hq1 : q1 < T.length := lt_of_ne (by rw [beq_iff_eq.mp h4]; decide)
    rw [if_pos h4] at e
    obtain ⟨S, e1, e2⟩ := Option.bind_eq_some_iff.mp e
    rw [wr1 (by omega)] at e2
    split at e2
    · unfold saddress.f at e2
      rw [blanks_rn hF (by omega)] at e2
      simp only [bS] at e2
      have hr := rn_le (C := sIsBlank.f) (by decide) (T := T) (q := q1 + 1) (by omega)
      rcases address_loop hF T.length K (rn sIsBlank.f T (q1 + 1)) true (by omega) (by omega) (by omega) with ⟨kd2, q2, o2, e3, h1, h2, h3⟩ | ⟨q2, o2, e3, _⟩
      · have := address_open hF T.length K (rn sIsBlank.f T (q1 + 1)) (by omega) (by omega) (by omega) _ _ _ e3
        subst this
        rw [e3] at e2
        have e2 := Option.some.inj e2
        exact (congrArg (·.2.2) e2).symm
      · rw [e3] at e2
        have e2 := Option.some.inj e2
        exact (congrArg (·.2.2) e2).symm
    · have e2 := Option.some.inj e2
      have := congrArg (·.2.2) e2
      dsimp only at this
      rw [← this]
      simp
  · rw [if_neg h4] at e
    exact (congrArg (·.2.2) (Option.some.inj e)).symm
theorem blank_next {B T : List Int} {n q K : Nat} (hC : Ctx B n T) {s : Int} (hb : sIsBlank.f (T.getD q 0) = true) : Next.f K B (pq n q) s = NextWs.f K B (pq n q) s := by
  unfold sIsBlank.f at hb
  simp only [Bool.or_eq_true, beq_iff_eq] at hb
  rcases hb with (((h | h) | h) | h) | h
  · exact hC.nx32 h
  · exact hC.nx10 h
  · exact hC.nx13 h
  · exact hC.nx9 h
  · exact hC.nx12 h
theorem token_law {K : Nat} {T : List Int} (hF : Fit T K) {q : Nat} (o : Bool) (hq : q < T.length) : TokAlike K T q o (stoken.f K T q o) := by
  have hl := hF.len
  have hK := hF.fuel
  unfold stoken.f
  rw [rpk0 (by omega), rpk1 (by omega)]
  simp only [bS]
  by_cases hb : sIsBlank.f (T.getD q 0) = true
  · rw [if_pos hb, blanks_rn hF (by omega)]
    simp only [bS]
    have hr := rn_le (C := sIsBlank.f) (by decide) (T := T) (q := q + 1) (by omega)
    have hs := rn_step (C := sIsBlank.f) (by decide) hb
    refine ⟨_, rn sIsBlank.f T q, o, rfl, by omega, by omega, fun ho => ⟨ho, fun hG B n hC => ⟨20, ?_, by decide, by decide⟩⟩⟩
    rw [blank_next hC hb]
    unfold NextWs.f
    rw [hC.mv1 (by omega), hC.ws0 hF (by omega), ← hs]
    simp only [bS]
    exact fin_sel hC (by omega) (by omega)
  rw [if_neg hb]
  replace hb := Bool.eq_false_iff.mpr hb
  by_cases hqt : ((T.getD q 0 == 34) || (T.getD q 0 == 39)) = true
  · rw [if_pos hqt]
    have hc : T.getD q 0 = 34 ∨ T.getD q 0 = 39 := by simpa using hqt
    obtain ⟨k, q', o', e, h1, h2, h3⟩ := quoted_law hF (o := o) hc
    rw [e]
    refine ⟨k, q', o', rfl, h1, h2, fun ho => ⟨(h3 ho).1, fun hG B n hC => ?_⟩⟩
    obtain ⟨x, x1, x2, x3⟩ := (h3 ho).2 hG B n hC
    refine ⟨x, ?_, x2, x3⟩
    rcases hc with h | h
    · rw [hC.nx34 h]; exact quote_fin hC (by omega) h2 x1 x3
    · rw [hC.nx39 h]; exact quote_fin hC (by omega) h2 x1 x3
  rw [if_neg hqt]
  replace hqt := Bool.eq_false_iff.mpr hqt
  by_cases hcm : ((T.getD q 0 == 47) && (T.getD (q + 1) 0 == 42)) = true
  · rw [if_pos hcm]
    simp only [Bool.and_eq_true, beq_iff_eq] at hcm
    obtain ⟨q', o', e, h1, h2, h3⟩ := comment_law hF (o := o) hcm.1 hcm.2
    rw [e]
    refine ⟨_, q', o', rfl, h1, h2, fun ho => ⟨(h3 ho).1, fun hG B n hC => ⟨32, ?_, rfl, by decide⟩⟩⟩
    rw [hC.nx47 hcm.1]
    unfold NextSlash.f
    rw [(h3 ho).2 hG B n hC]
    simp only [bS, if_true]
    exact fin_sel hC (by omega) h2
  rw [if_neg hcm, snumbers_eq (by omega)]
  replace hcm := Bool.eq_false_iff.mpr hcm
  simp only [bS]
  by_cases hnm : numbersB T q = true
  · rw [if_pos hnm]
    obtain ⟨k, q', o', e, h1, h2, h3⟩ := numeric_law hF (o := o) (by omega) hnm
    rw [e]
    refine ⟨k, q', o', rfl, h1, h2, fun ho => ⟨(h3 ho).1, fun hG B n hC => ?_⟩⟩
    obtain ⟨x, x1, x2, x3⟩ := (h3 ho).2 hG B n hC
    refine ⟨x, ?_, x2, x3⟩
    have hfin := num_fin hC (by omega) h2 x1 x3
    rcases numbers_class hnm with h | h | h | ⟨h, h'⟩
    · rw [hC.nx43 h]; exact hfin.1
    · rw [hC.nx46 h]; exact hfin.1
    · rw [hC.nxElse hq (not_lits (C := sisDigit.f) (by decide) h)]; exact hfin.2
    · obtain ⟨hid, h45⟩ := idn_num h h'
      rw [hC.nx45 h]
      unfold NextMinus.f
      rw [cdc_no hC h h45]
      simp only [bS, Bool.false_eq_true, if_false]
      rw [custom_no hC hq h45]
      simp only [bS, Bool.false_eq_true, if_false]
      rw [identlike_no hF hG (by omega) hC hid]
      simp only [bS]
      rw [if_pos (by decide), x1]
      simp only [bS]
      rw [x3, if_neg (by decide)]
      exact fin_sel hC (by omega) h2
  rw [if_neg hnm, u_eq (by omega)]
  replace hnm := Bool.eq_false_iff.mpr hnm
  simp only [bS]
  by_cases hu : uB T q = true
  · rw [if_pos hu]
    have hu' := uB_iff.mp hu
    obtain ⟨q', o', e, h1, h2, h3⟩ := codes_law hF (o := o) hu'
    rw [e]
    refine ⟨_, q', o', rfl, h1, h2, fun ho => ⟨(h3 ho).1, fun hG B n hC => ⟨13, ?_, rfl, by decide⟩⟩⟩
    have fin : NextUu.f K B (pq n q) (pq n q) = some (13, pq n q, pq n q', pq n q', pq n q') := by
      unfold NextUu.f
      rw [(h3 ho).2 hG B n hC]
      simp only [bS, if_true]
      exact fin_sel hC (by omega) h2
    rcases hu'.1 with h | h
    · rw [hC.nx117 h]; exact fin
    · rw [hC.nx85 h]; exact fin
  rw [if_neg hu, cdc_eq (by omega)]
  simp only [bS]
  by_cases hcd : cdcB T q = true
  · rw [if_pos hcd, wr3 (by omega)]
    unfold cdcB at hcd
    simp only [Bool.and_eq_true, beq_iff_eq] at hcd
    have hq2 : q + 2 < T.length := lt_of_ne (by rw [hcd.2.2]; decide)
    refine ⟨_, q + 3, o, rfl, by omega, by omega, fun ho => ⟨ho, fun hG B n hC => ⟨22, ?_, by decide, by decide⟩⟩⟩
    rw [hC.nx45 hcd.1]
    unfold NextMinus.f consumeCDCToken.f
    rw [hC.pk0 (by omega), hC.inn hq, hcd.1, hC.pk1 (by omega), hC.inn (by omega), hcd.2.1, hC.pk2 (by omega), hC.inn (by omega), hcd.2.2, hC.mv3 (by omega)]
    exact fin_sel hC (by omega) (by omega)
  rw [if_neg hcd, sid0 (by omega)]
  simp only [bS]
  by_cases hid : (idn T q o).1 = true
  · rw [if_pos hid]
    obtain ⟨k, q', o', e, h1, h2, h3⟩ := identlike_law hF (o := o) (by omega) hid
    rw [e]
    have hsh : o' = false → (idn T q o).2 = false := by
      intro ho
      unfold sidentLike.f at e
      obtain ⟨q1, o1, es, g1, g2, g3⟩ := sname_tot hF q (idn T q o).2 (by omega)
      have ho' := (h3 ho).1
      subst ho'
      cases h2 : (idn T q false).2 with
      | false => rfl
      | true =>
        exfalso
        rw [h2] at es g3 e
        have ho1 : o1 = true := by
          cases o1 with
          | true => rfl
          | false => exact absurd (g3 rfl) (by decide)
        subst ho1
        -- an open reading stays open
        have := identlike_open hF (q := q) (q1 := q1) es e g2
        rw [ho] at this
        cases this
    refine ⟨k, q', o', rfl, h1, h2, fun ho => ⟨(h3 ho).1, fun hG B n hC => ?_⟩⟩
    obtain ⟨x, x1, x2, x3⟩ := (h3 ho).2 hG B n hC
    refine ⟨x, ?_, x2, x3⟩
    have ho' := (h3 ho).1
    have hidn : idn T q o = (true, false) := Prod.ext hid (hsh ho)
    subst ho'
    by_cases c45 : T.getD q 0 = 45
    · have h45 := idn_45 hidn c45
      rw [hC.nx45 c45]
      unfold NextMinus.f
      rw [cdc_no hC c45 h45]
      simp only [bS, Bool.false_eq_true, if_false]
      rw [custom_no hC hq h45]
      simp only [bS, Bool.false_eq_true, if_false]
      rw [x1]
      simp only [bS]
      rw [x3, if_neg (by decide)]
      exact fin_sel hC (by omega) h2
    · by_cases c92 : T.getD q 0 = 92
      · rw [hC.nx92 c92]
        unfold NextBack.f
        rw [x1]
        simp only [bS]
        rw [x3, if_neg (by decide)]
        exact fin_sel hC (by omega) h2
      · have start : sisStart.f (T.getD q 0) = true := by
          unfold idn at hidn
          rw [if_neg c45] at hidn
          split at hidn
          · assumption
          · rw [escs_not c92] at hidn; cases hidn
        by_cases cu : T.getD q 0 = 117 ∨ T.getD q 0 = 85
        · have fin : NextUu.f K B (pq n q) (pq n q) = some (x, pq n q, pq n q', pq n q', pq n q') := by
            unfold NextUu.f
            rw [codes_no hF cu (fun h => hu (uB_iff.mpr h)) hC]
            simp only [bS, Bool.false_eq_true, if_false]
            rw [x1]
            simp only [bS]
            rw [x3, if_neg (by decide)]
            exact fin_sel hC (by omega) h2
          rcases cu with h | h
          · rw [hC.nx117 h]; exact fin
          · rw [hC.nx85 h]; exact fin
        · rw [hC.nxElse hq (not_lits (C := fun c => sisStart.f c && (!(c == 117) && !(c == 85))) (by decide) (by simp only [start, Bool.true_and]; simpa using cu))]
          unfold NextElse.f
          rw [numeric_no hF (by omega) (by omega) hnm hC]
          simp only [bS]
          rw [if_pos (by decide), x1]
          simp only [bS]
          rw [x3, if_neg (by decide)]
          exact fin_sel hC (by omega) h2
  rw [if_neg hid, ssign_eq hF hq]
  replace hid := Bool.eq_false_iff.mpr hid
  by_cases h35 : T.getD q 0 = 35
  · rw [if_pos h35]
    have hidn : idn T q o = (false, o) := by
      unfold idn
      rw [h35, if_neg (by decide), if_neg (by decide), escs_not (by rw [h35]; decide)]
    rw [hidn]
    dsimp only
    by_cases hn : sisNameByte.f (T.getD (q + 1) 0) = true
    · rw [if_pos hn]
      have hq1 : q + 1 < T.length := cls_lt (C := sisNameByte.f) (by decide) hn
      obtain ⟨q', o', es, g1, g2, g3⟩ := sname_tot hF (q + 1) o (by omega)
      rw [es]
      refine ⟨_, q', o', rfl, by omega, g2, fun ho => ?_⟩
      subst ho
      obtain rfl := g3 rfl
      refine ⟨rfl, fun hG B n hC => ⟨4, ?_, rfl, by decide⟩⟩
      rw [hC.nx35 h35]
      unfold NextHash.f
      rw [hash_yes hF hG hq hC (.inl hn) es]
      simp only [bS, if_true]
      exact fin_sel hC (by omega) g2
    · rw [if_neg hn]
      replace hn := Bool.eq_false_iff.mpr hn
      by_cases he : (escs T (q + 1) o).1 = true
      · rw [if_pos he]
        obtain ⟨q', o', es, g1, g2, g3⟩ := sname_tot hF (q + 1) (escs T (q + 1) o).2 (by omega)
        rw [es]
        refine ⟨_, q', o', rfl, by omega, g2, fun ho => ?_⟩
        subst ho
        have ho2 := g3 rfl
        obtain rfl := escs_shut ho2
        rw [ho2] at es
        refine ⟨rfl, fun hG B n hC => ⟨4, ?_, rfl, by decide⟩⟩
        rw [hC.nx35 h35]
        unfold NextHash.f
        rw [hash_yes hF hG hq hC (.inr ⟨hn, Prod.ext he ho2⟩) es]
        simp only [bS, if_true]
        exact fin_sel hC (by omega) g2
      · rw [if_neg he]
        refine ⟨_, q + 1, _, rfl, by omega, by omega, fun ho => ?_⟩
        obtain rfl := escs_shut ho
        refine ⟨rfl, fun hG B n hC => ⟨9, ?_, rfl, by decide⟩⟩
        rw [hC.nx35 h35]
        unfold NextHash.f
        rw [hash_no hF hG hq hC hn (Prod.ext (Bool.eq_false_iff.mpr he) ho)]
        simp only [bS, Bool.false_eq_true, if_false]
        exact fin_delim hC hq
  · rw [if_neg h35]
    by_cases h64 : T.getD q 0 = 64
    · rw [if_pos h64]
      have hidn : idn T q o = (false, o) := by
        unfold idn
        rw [h64, if_neg (by decide), if_neg (by decide), escs_not (by rw [h64]; decide)]
      rw [hidn]
      dsimp only
      by_cases he : (idn T (q + 1) o).1 = true
      · rw [if_pos he]
        obtain ⟨q', o', es, g1, g2, g3⟩ := sname_tot hF (q + 1) (idn T (q + 1) o).2 (by omega)
        rw [es]
        refine ⟨_, q', o', rfl, by omega, g2, fun ho => ?_⟩
        subst ho
        have ho2 := g3 rfl
        obtain rfl := idn_shut ho2
        rw [ho2] at es
        refine ⟨rfl, fun hG B n hC => ⟨3, ?_, rfl, by decide⟩⟩
        rw [hC.nx64 h64]
        unfold NextAt.f consumeAtKeywordToken.f
        rw [hC.mv1 (by omega), ident_yes hF hG (by omega) (by omega) hC (Prod.ext he ho2) es]
        simp only [bS, if_true]
        exact fin_sel hC (by omega) g2
      · rw [if_neg he]
        refine ⟨_, q + 1, _, rfl, by omega, by omega, fun ho => ?_⟩
        obtain rfl := idn_shut ho
        refine ⟨rfl, fun hG B n hC => ⟨9, ?_, rfl, by decide⟩⟩
        rw [hC.nx64 h64]
        unfold NextAt.f consumeAtKeywordToken.f
        rw [hC.mv1 (by omega), ident_no hF hG (by omega) (by omega) hC (Prod.ext (Bool.eq_false_iff.mpr he) ho)]
        simp only [bS, Bool.false_eq_true, if_false]
        rw [hC.mvm (by omega)]
        exact fin_delim hC hq
    · rw [if_neg h64]
      have := rest_law hF (o := o) hq hb hqt hcm hnm h35 h64 hid
      cases h2 : (idn T q o).2 with
      | true =>
        rw [h2, if_pos rfl] at this
        obtain ⟨k, q', o', e, r⟩ := this
        rw [e]
        exact ⟨k, q', o', rfl, r⟩
      | false =>
        rw [h2, if_neg (by decide)] at this
        obtain ⟨k, q', o', e, r⟩ := this
        rw [e]
        exact ⟨k, q', o', rfl, r⟩
end Go.Proofs.YteonakpgenkhkaaDoor
