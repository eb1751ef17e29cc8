import Derived.Test.YteonakpgenkhkaaDoorM2
namespace Go.Proofs.YteonakpgenkhkaaDoor
open Go.RowKit
set_option linter.unusedVariables false
set_option linter.unusedSimpArgs false
theorem rpk1 {T : List Int} {q : Nat} (h : q + 1 < 1099511627776) : rpk T q 1 = some (T.getD (q + 1) 0) := rpkn 1 rfl h
theorem rpk2 {T : List Int} {q : Nat} (h : q + 2 < 1099511627776) : rpk T q 2 = some (T.getD (q + 2) 0) := rpkn 2 rfl h
theorem rpk3 {T : List Int} {q : Nat} (h : q + 3 < 1099511627776) : rpk T q 3 = some (T.getD (q + 3) 0) := rpkn 3 rfl h
theorem w11 : wrap64 ((1 : Int) + 1) = 2 := by unfold wrap64; omega
theorem w01 : wrap64 ((0 : Int) + 1) = 1 := by unfold wrap64; omega
theorem sid0 {T : List Int} {q : Nat} (h : q + 6 < 1099511627776) {o : Bool} : sidentifies.f T q o 0 = some (idn T q o) := sidentifies_eq 0 rfl (by omega)
theorem sid1 {T : List Int} {q : Nat} (h : q + 6 < 1099511627776) {o : Bool} : sidentifies.f T q o 1 = some (idn T (q + 1) o) := sidentifies_eq 1 rfl (by omega)
theorem esc1 {T : List Int} {q : Nat} (h : q + 6 < 1099511627776) {o : Bool} : sescapes.f T q o 1 = some (escs T (q + 1) o) := sescapes_eq 1 rfl (by omega)
theorem escs_open (T : List Int) (p : Nat) : (escs T p true).2 = true := by
  unfold escs
  split
  · split <;> rfl
  · rfl
theorem idn_open (T : List Int) (p : Nat) : (idn T p true).2 = true := by
  unfold idn
  split
  · split
    · simp
    · rw [show (if T.getD (p + 1) 0 = 45 then true else true) = true by simp]; exact escs_open T (p + 1)
  · split
    · rfl
    · exact escs_open T p
theorem idn_shut {T : List Int} {p : Nat} {o : Bool} (h : (idn T p o).2 = false) : o = false := by
  cases o with
  | false => rfl
  | true => rw [idn_open] at h; cases h
theorem escs_shut {T : List Int} {p : Nat} {o : Bool} (h : (escs T p o).2 = false) : o = false := by
  cases o with
  | false => rfl
  | true => rw [escs_open] at h; cases h
def rn (C : Int → Bool) (T : List Int) (q : Nat) : Nat := run C T T.length q
theorem rn_le {C : Int → Bool} (h0 : C 0 = false) {T : List Int} {q : Nat} (h : q ≤ T.length) : q ≤ rn C T q ∧ rn C T q ≤ T.length := run_le h0 T _ q h
theorem rn_stop {C : Int → Bool} (h0 : C 0 = false) {T : List Int} {q : Nat} (h : q ≤ T.length) : C (T.getD (rn C T q) 0) = false := run_stop h0 T _ q h (by omega)
theorem rn_zero {C : Int → Bool} {T : List Int} {q : Nat} (h : C (T.getD q 0) = false) : rn C T q = q := run_zero h
theorem rn_step {C : Int → Bool} (h0 : C 0 = false) {T : List Int} {q : Nat} (h : C (T.getD q 0) = true) : rn C T q = rn C T (q + 1) := by
  have hl := cls_lt h0 h
  unfold rn
  obtain ⟨m, hm⟩ : ∃ m, T.length = m + 1 := ⟨T.length - 1, by omega⟩
  rw [hm, run_succ h]
  exact (run_more T m (m + 1) (q + 1) (by omega) (run_stop h0 T m (q + 1) (by omega) (by omega))).symm
theorem blanks_rn {K : Nat} {T : List Int} (hF : Fit T K) {q : Nat} {o : Bool} (hq : q ≤ T.length) : sblanks.f K T q o = some ((rn sIsBlank.f T q : Nat) : Int) := sblanks_f (by have := hF.len; omega) (by have := hF.fuel; omega) hq
theorem digits_rn {K : Nat} {T : List Int} (hF : Fit T K) {q : Nat} {o : Bool} (hq : q ≤ T.length) : sdigits.f K T q o = some ((rn sisDigit.f T q : Nat) : Int) := sdigits_f (by have := hF.len; omega) (by have := hF.fuel; omega) hq
section
variable {B T : List Int} {n K : Nat} {s : Int}
theorem Ctx.ws0 (h : Ctx B n T) (hF : Fit T K) {q : Nat} (hq : q ≤ T.length) : NextWs.l0 K B s K (pq n q) = some (pq n (rn sIsBlank.f T q)) := h.NextWs_l0 T.length K q (by have := hF.fuel; omega) hq (by omega)
theorem Ctx.ws1 (h : Ctx B n T) (hF : Fit T K) {q : Nat} (hq : q ≤ T.length) : consumeIdentlike.l0 K B s K (pq n q) = some (pq n (rn sIsBlank.f T q)) := h.consumeIdentlike_l0 T.length K q (by have := hF.fuel; omega) hq (by omega)
theorem Ctx.ws2 (h : Ctx B n T) (hF : Fit T K) {q : Nat} (hq : q ≤ T.length) : consumeIdentlike.l1 K B s K (pq n q) = some (pq n (rn sIsBlank.f T q)) := h.consumeIdentlike_l1 T.length K q (by have := hF.fuel; omega) hq (by omega)
theorem Ctx.dg0 (h : Ctx B n T) (hF : Fit T K) {q : Nat} (hq : q ≤ T.length) : consumeNumberToken.l0 K B s K (pq n q) = some (pq n (rn sisDigit.f T q)) := h.consumeNumberToken_l0 T.length K q (by have := hF.fuel; omega) hq (by omega)
theorem Ctx.dg1 (h : Ctx B n T) (hF : Fit T K) {q : Nat} (hq : q ≤ T.length) : consumeNumberToken.l1 K B s K (pq n q) = some (pq n (rn sisDigit.f T q)) := h.consumeNumberToken_l1 T.length K q (by have := hF.fuel; omega) hq (by omega)
theorem Ctx.dg2 (h : Ctx B n T) (hF : Fit T K) {q : Nat} (hq : q ≤ T.length) : consumeNumberToken.l2 K B s K (pq n q) = some (pq n (rn sisDigit.f T q)) := h.consumeNumberToken_l2 T.length K q (by have := hF.fuel; omega) hq (by omega)
end
def isSg (c : Int) : Bool := (c == 43) || (c == 45)
def isE (c : Int) : Bool := (c == 101) || (c == 69)
def sgAt (T : List Int) (q : Nat) : Nat := if isSg (T.getD q 0) = true then q + 1 else q
def numbersB (T : List Int) (q : Nat) : Bool := sisDigit.f (T.getD (sgAt T q) 0) || (T.getD (sgAt T q) 0 == 46 && sisDigit.f (T.getD (sgAt T q + 1) 0))
def frac (T : List Int) (d : Nat) : Nat := if (T.getD d 0 == 46 && sisDigit.f (T.getD (d + 1) 0)) = true then rn sisDigit.f T (d + 1) else d
def expo (T : List Int) (d : Nat) : Nat := if isE (T.getD d 0) = true then (if sisDigit.f (T.getD (sgAt T (d + 1)) 0) = true then rn sisDigit.f T (sgAt T (d + 1)) else d) else d
def numEnd (T : List Int) (q : Nat) : Nat := expo T (frac T (rn sisDigit.f T (sgAt T q)))
theorem sg_lt {T : List Int} {q : Nat} (h : isSg (T.getD q 0) = true) : q < T.length := cls_lt (by decide) h
theorem sgAt_le {T : List Int} {q : Nat} (hq : q ≤ T.length) : q ≤ sgAt T q ∧ sgAt T q ≤ T.length := by
  unfold sgAt
  split
  · have := sg_lt ‹_›; omega
  · omega
theorem frac_le {T : List Int} {d : Nat} (hq : d ≤ T.length) : d ≤ frac T d ∧ frac T d ≤ T.length := by
  unfold frac
  split
  · rename_i h
    simp only [Bool.and_eq_true] at h
    have h1 : d + 1 < T.length := cls_lt (by decide) h.2
    have := rn_le (C := sisDigit.f) (by decide) (T := T) (q := d + 1) (by omega)
    omega
  · omega
theorem e_lt {T : List Int} {q : Nat} (h : isE (T.getD q 0) = true) : q < T.length := cls_lt (by decide) h
theorem expo_le {T : List Int} {d : Nat} (hq : d ≤ T.length) : d ≤ expo T d ∧ expo T d ≤ T.length := by
  unfold expo
  split
  · rename_i h
    have h1 := e_lt h
    have h2 := sgAt_le (T := T) (q := d + 1) (by omega)
    split
    · have := rn_le (C := sisDigit.f) (by decide) (T := T) (q := sgAt T (d + 1)) (by omega)
      omega
    · omega
  · omega
theorem numEnd_le {T : List Int} {q : Nat} (hq : q ≤ T.length) (hn : numbersB T q = true) : q < numEnd T q ∧ numEnd T q ≤ T.length := by
  have h1 := sgAt_le hq
  have h2 := rn_le (C := sisDigit.f) (by decide) (T := T) (q := sgAt T q) (by omega)
  have h3 := frac_le (T := T) (d := rn sisDigit.f T (sgAt T q)) (by omega)
  have h4 := expo_le (T := T) (d := frac T (rn sisDigit.f T (sgAt T q))) (by omega)
  unfold numEnd
  refine ⟨?_, by omega⟩
  unfold numbersB at hn
  by_cases hd : sisDigit.f (T.getD (sgAt T q) 0) = true
  · rw [rn_step (by decide) hd] at h3 h4 h2 ⊢
    have := rn_le (C := sisDigit.f) (by decide) (T := T) (q := sgAt T q + 1) (cls_lt (C := sisDigit.f) (by decide) hd)
    omega
  · rw [Bool.eq_false_iff.mpr hd, Bool.false_or] at hn
    rw [rn_zero (Bool.eq_false_iff.mpr hd)] at h3 h4 ⊢
    have h5 : frac T (sgAt T q) = rn sisDigit.f T (sgAt T q + 1) := by unfold frac; rw [if_pos hn]
    have h6 : sgAt T q + 1 < T.length := by simp only [Bool.and_eq_true] at hn; exact cls_lt (C := sisDigit.f) (by decide) hn.2
    have := rn_le (C := sisDigit.f) (by decide) (T := T) (q := sgAt T q + 1) (by omega)
    rw [h5] at h4 ⊢
    omega
theorem snumbers_eq {T : List Int} {q : Nat} {o : Bool} (hl : q + 10 < 1099511627776) : snumbers.f T q o = some (numbersB T q) := by
  unfold snumbers.f numbersB sgAt isSg
  rw [rpk0 (by omega)]
  simp only [bS]
  split
  · simp only [bS]
    rw [rpk1 (by omega), w11, rpk2 (by omega)]
    simp only [bS]
    split
    · rename_i h; simp only [bS, h, Bool.true_or]
    · rename_i h
      simp only [bS, Bool.eq_false_iff.mpr h, Bool.false_or]
      split
      · rename_i h2; simp only [h2, Bool.true_and, bS]
      · rename_i h2; simp only [Bool.eq_false_iff.mpr h2, Bool.false_and, bS]
  · simp only [bS]
    rw [rpk0 (by omega), w01, rpk1 (by omega)]
    simp only [bS]
    split
    · rename_i h; simp only [bS, h, Bool.true_or]
    · rename_i h
      simp only [bS, Bool.eq_false_iff.mpr h, Bool.false_or]
      split
      · rename_i h2; simp only [h2, Bool.true_and, bS]
      · rename_i h2; simp only [Bool.eq_false_iff.mpr h2, Bool.false_and, bS]
def numTail (K : Nat) (T : List Int) (e : Nat) (o : Bool) : Option (List Int × Int × Bool) :=
  if (idn T e o).1 = true then (sname.f K T e (idn T e o).2).bind fun (q, o1) => some ([100, 105, 109, 101, 110, 115, 105, 111, 110], q, o1)
  else if (T.getD e 0 == 37) = true then some ([112, 101, 114, 99, 101, 110, 116, 97, 103, 101], ((e + 1 : Nat) : Int), (idn T e o).2) else some ([110, 117, 109, 98, 101, 114], (e : Int), (idn T e o).2)
theorem snumeric_eq {K : Nat} {T : List Int} (hF : Fit T K) {q : Nat} {o : Bool} (hq : q ≤ T.length) : snumeric.f K T q o = numTail K T (numEnd T q) o := by
  have hl := hF.len
  have h1 := sgAt_le hq
  have h2 := rn_le (C := sisDigit.f) (by decide) (T := T) (q := sgAt T q) (by omega)
  have h3 := frac_le (T := T) (d := rn sisDigit.f T (sgAt T q)) (by omega)
  have h4 := expo_le (T := T) (d := frac T (rn sisDigit.f T (sgAt T q))) (by omega)
  unfold snumeric.f
  rw [rpk0 (by omega), wr1 (by omega)]
  simp only [bS]
  have e1 : (if ((T.getD q 0 == 43) || (T.getD q 0 == 45)) = true then some ((q + 1 : Nat) : Int) else some (q : Int)) = some ((sgAt T q : Nat) : Int) := by
    unfold sgAt isSg; split <;> rfl
  rw [e1]
  simp only [bS]
  rw [digits_rn hF (by omega)]
  simp only [bS]
  generalize hd : rn sisDigit.f T (sgAt T q) = d at *
  rw [rpk0 (by omega), rpk1 (by omega)]
  simp only [bS]
  have e2 : (if (T.getD d 0 == 46) = true then some (sisDigit.f (T.getD (d + 1) 0)) else some false) = some (T.getD d 0 == 46 && sisDigit.f (T.getD (d + 1) 0)) := by
    split
    · rename_i h; rw [h, Bool.true_and]
    · rename_i h; rw [Bool.eq_false_iff.mpr h, Bool.false_and]
  rw [e2]
  simp only [bS]
  have e3 : (if (T.getD d 0 == 46 && sisDigit.f (T.getD (d + 1) 0)) = true then ((sdigits.f K T (wrap64 ((d : Int) + 1)) o).bind fun q257 => some q257) else some (d : Int)) = some ((frac T d : Nat) : Int) := by
    unfold frac
    split
    · rename_i h
      have : d + 1 < T.length := by simp only [Bool.and_eq_true] at h; exact cls_lt (C := sisDigit.f) (by decide) h.2
      rw [wr1 (by omega), digits_rn hF (by omega)]
      rfl
    · rfl
  rw [e3]
  simp only [bS]
  generalize hf : frac T d = f at *
  rw [rpk0 (by omega), rpk1 (by omega)]
  simp only [bS]
  have e4 : (if ((T.getD f 0 == 101) || (T.getD f 0 == 69)) = true then ((if ((T.getD (f + 1) 0 == 43) || (T.getD (f + 1) 0 == 45)) = true then some (2 : Int) else some 1).bind fun x276 =>
      (rpk T f x276).bind fun c277 => if (sisDigit.f c277) = true then ((sdigits.f K T (wrap64 ((f : Int) + x276)) o).bind fun q281 => some q281) else some (f : Int)) else some (f : Int)) = some ((expo T f : Nat) : Int) := by
    unfold expo isE
    by_cases h : ((T.getD f 0 == 101) || (T.getD f 0 == 69)) = true
    · rw [if_pos h, if_pos h]
      unfold sgAt isSg
      by_cases hs : ((T.getD (f + 1) 0 == 43) || (T.getD (f + 1) 0 == 45)) = true
      · rw [if_pos hs, if_pos hs]
        simp only [bS]
        rw [rpk2 (by omega)]
        simp only [bS]
        rw [show f + 1 + 1 = f + 2 from rfl]
        split
        · rename_i hdg
          have : f + 2 < T.length := cls_lt (C := sisDigit.f) (by decide) hdg
          rw [show wrap64 ((f : Int) + 2) = ((f + 2 : Nat) : Int) by unfold wrap64; omega, digits_rn hF (by omega)]
          rfl
        · rfl
      · rw [if_neg hs, if_neg hs]
        simp only [bS]
        rw [rpk1 (by omega)]
        simp only [bS]
        split
        · rename_i hdg
          have : f + 1 < T.length := cls_lt (C := sisDigit.f) (by decide) hdg
          rw [wr1 (by omega), digits_rn hF (by omega)]
          rfl
        · rfl
    · rw [if_neg h, if_neg h]
  rw [e4]
  simp only [bS]
  have e5 : numEnd T q = expo T f := by unfold numEnd; rw [hd, hf]
  rw [e5]
  unfold numTail
  rw [sid0 (by omega)]
  simp only [bS]
  rw [rpk0 (by omega), wr1 (by omega)]
  simp only [bS]
theorem Ctx.sg {B T : List Int} {n : Nat} (h : Ctx B n T) {q : Nat} (hq : q ≤ T.length) : (if ((B.getD (n + q) 0 == 43) || (B.getD (n + q) 0 == 45)) = true then (some (mv (pq n q) 1)) else some (pq n q)) = some (pq n (sgAt T q)) := by
  rw [h.eqq hq 43 (by decide) (by decide), h.eqq hq 45 (by decide) (by decide), h.mv1 hq]
  unfold sgAt isSg
  split <;> rfl
theorem number_eq {K : Nat} {T : List Int} (hF : Fit T K) {q u : Nat} (hq : q ≤ T.length) (hu : u ≤ T.length) {B : List Int} {n : Nat} (hC : Ctx B n T) :
    consumeNumberToken.f K B (pq n q) (pq n u) = if numbersB T q = true then some (true, pq n (numEnd T q)) else some (false, pq n q) := by
  have h1 := sgAt_le hq
  have h2 := rn_le (C := sisDigit.f) (by decide) (T := T) (q := sgAt T q) (by omega)
  have h3 := frac_le (T := T) (d := rn sisDigit.f T (sgAt T q)) (by omega)
  have hst := rn_stop (C := sisDigit.f) (by decide) (T := T) (q := sgAt T q) (by omega)
  -- the exponent
  have tail : ∀ d : Nat, d ≤ T.length → ((pk B (pq n d) 0).bind fun c343 =>
      if ((c343 == 101) || (c343 == 69)) = true then ((pk B (mv (pq n d) 1) 0).bind fun c349 =>
      (if ((c349 == 43) || (c349 == 45)) = true then (some (mv (mv (pq n d) 1) 1)) else some (mv (pq n d) 1)).bind fun p356 =>
      (consumeDigit.f B p356 (pq n u)).bind fun (t358, p359) =>
      if t358 = true then ((consumeNumberToken.l2 K B (pq n u) K p359).bind fun p369 => some (true, p369)) else
      some (true, rwd (pq n u) (ps (pq n d) (pq n u)))) else
      some (true, pq n d)) = some (true, pq n (expo T d)) := by
    intro d hd
    rw [hC.pk0 hd]
    simp only [bS]
    rw [hC.eqq hd 101 (by decide) (by decide), hC.eqq hd 69 (by decide) (by decide)]
    unfold expo isE
    by_cases h : ((T.getD d 0 == 101) || (T.getD d 0 == 69)) = true
    · have hl := e_lt (T := T) (q := d) h
      have h5 := sgAt_le (T := T) (q := d + 1) (by omega)
      rw [if_pos h, if_pos h, hC.mv1 hd, hC.pk0 (by omega)]
      simp only [bS]
      rw [hC.sg (by omega)]
      simp only [bS]
      rw [hC.digit (by omega)]
      by_cases hdg : sisDigit.f (T.getD (sgAt T (d + 1)) 0) = true
      · rw [if_pos hdg, if_pos hdg]
        simp only [bS, if_true]
        have : sgAt T (d + 1) < T.length := cls_lt (C := sisDigit.f) (by decide) hdg
        rw [hC.dg2 hF (by omega), rn_step (by decide) hdg]
        simp only [bS]
      · rw [if_neg hdg, if_neg hdg]
        simp only [bS, Bool.false_eq_true, if_false]
        rw [hC.rw_ hd hu]
    · rw [if_neg h, if_neg h]
  unfold consumeNumberToken.f
  rw [hC.pk0 hq]
  simp only [bS]
  rw [hC.sg hq]
  simp only [bS]
  rw [hC.digit (by omega)]
  unfold numbersB numEnd
  by_cases hd : sisDigit.f (T.getD (sgAt T q) 0) = true
  · have hlt : sgAt T q < T.length := cls_lt (C := sisDigit.f) (by decide) hd
    rw [if_pos hd, hd, Bool.true_or, if_pos rfl]
    simp only [bS, if_true]
    rw [hC.dg0 hF (by omega), ← rn_step (by decide) hd]
    simp only [bS]
    rw [hC.pk0 (by omega)]
    simp only [bS]
    rw [hC.eqq (by omega) 46 (by decide) (by decide)]
    generalize rn sisDigit.f T (sgAt T q) = d at *
    by_cases h6 : (T.getD d 0 == 46) = true
    · have hdl : d < T.length := lt_of_ne (by rw [beq_iff_eq.mp h6]; decide)
      rw [if_pos h6, hC.mv1 (by omega), hC.digit (by omega)]
      unfold frac
      rw [h6, Bool.true_and]
      by_cases h7 : sisDigit.f (T.getD (d + 1) 0) = true
      · have : d + 1 < T.length := cls_lt (C := sisDigit.f) (by decide) h7
        rw [if_pos h7, if_pos h7]
        simp only [bS, if_true]
        rw [hC.dg1 hF (by omega), ← rn_step (by decide) h7]
        simp only [bS, joinS]
        exact tail _ (rn_le (by decide) (by omega)).2
      · rw [if_neg h7, if_neg h7]
        simp only [bS, Bool.false_eq_true, if_false]
        rw [hC.mvm (by omega)]
        have e46 : expo T d = d := by
          unfold expo isE
          rw [beq_iff_eq.mp h6, if_neg (by decide)]
        rw [e46]
        rfl
    · rw [if_neg h6]
      simp only [bS, joinS]
      have ef : frac T d = d := by unfold frac; rw [Bool.eq_false_iff.mpr h6, Bool.false_and, if_neg (by decide)]
      rw [ef]
      exact tail d (by omega)
  · have hdf := Bool.eq_false_iff.mpr hd
    rw [if_neg hd, hdf, Bool.false_or]
    simp only [bS, Bool.false_eq_true, if_false]
    rw [hC.pk0 (by omega)]
    simp only [bS]
    rw [hC.eqq (by omega) 46 (by decide) (by decide), rn_zero hdf]
    by_cases h6 : (T.getD (sgAt T q) 0 == 46) = true
    · have hdl : sgAt T q < T.length := lt_of_ne (by rw [beq_iff_eq.mp h6]; decide)
      rw [if_pos h6, h6, Bool.true_and, hC.mv1 (by omega), hC.digit (by omega)]
      unfold frac
      rw [h6, Bool.true_and]
      by_cases h7 : sisDigit.f (T.getD (sgAt T q + 1) 0) = true
      · have : sgAt T q + 1 < T.length := cls_lt (C := sisDigit.f) (by decide) h7
        rw [if_pos h7, if_pos h7, if_pos h7]
        simp only [bS, if_true]
        rw [hC.dg1 hF (by omega), ← rn_step (by decide) h7]
        simp only [bS, joinS]
        exact tail _ (rn_le (by decide) (by omega)).2
      · rw [if_neg h7, if_neg h7]
        simp only [bS, Bool.false_eq_true, if_false]
        rw [hC.rw_ hq hu]
        rfl
    · rw [if_neg h6, Bool.eq_false_iff.mpr h6, Bool.false_and, if_neg (by decide)]
      rw [hC.rw_ hq hu]
      rfl
/-- What the law of a token says: the kind, the end, and that the lexer's function f comes to the same. -/
def Alike (K : Nat) (T : List Int) (q : Nat) (o : Bool) (r : Option (List Int × Int × Bool)) (f : List Int → Int → Int → Option (Int × Int)) : Prop :=
  ∃ (k : List Int) (q' : Nat) (o' : Bool), r = some (k, (q' : Int), o') ∧ q < q' ∧ q' ≤ T.length ∧ (o' = false → o = false ∧ (Good T → ∀ (B : List Int) (n : Nat), Ctx B n T → ∃ x, f B (pq n q) (pq n q) = some (x, pq n q') ∧ kname x = some k ∧ (x == 0) = false))
theorem numeric_no {K : Nat} {T : List Int} (hF : Fit T K) {q u : Nat} (hq : q ≤ T.length) (hu : u ≤ T.length) (hn : numbersB T q = false) {B : List Int} {n : Nat} (hC : Ctx B n T) : consumeNumeric.f K B (pq n q) (pq n u) = some (0, pq n q) := by
  unfold consumeNumeric.f
  rw [number_eq hF hq hu hC, if_neg (by rw [hn]; decide)]
  simp only [bS, Bool.false_eq_true, if_false]
theorem numeric_law {K : Nat} {T : List Int} (hF : Fit T K) {q : Nat} {o : Bool} (hq : q ≤ T.length) (hn : numbersB T q = true) : Alike K T q o (snumeric.f K T q o) (consumeNumeric.f K) := by
  have hl := hF.len
  obtain ⟨h1, h2⟩ := numEnd_le hq hn
  rw [snumeric_eq hF hq]
  have hnum : ∀ {B : List Int} {n : Nat}, Ctx B n T → consumeNumberToken.f K B (pq n q) (pq n q) = some (true, pq n (numEnd T q)) := fun hC => by rw [number_eq hF hq hq hC, if_pos hn]
  generalize numEnd T q = e at *
  unfold numTail
  by_cases hi : (idn T e o).1 = true
  · rw [if_pos hi]
    obtain ⟨q', o', es, g1, g2, g3⟩ := sname_tot hF e (idn T e o).2 h2
    rw [es]
    refine ⟨_, q', o', rfl, by omega, g2, fun ho => ?_⟩
    subst ho
    have ho2 := g3 rfl
    have hoo : o = false := idn_shut ho2
    subst hoo
    refine ⟨rfl, fun hG B n hC => ⟨12, ?_, by decide, by decide⟩⟩
    have hid : idn T e false = (true, false) := Prod.ext hi ho2
    have h37 : T.getD e 0 ≠ 37 := fun h => by
      unfold idn escs at hid
      rw [h] at hid
      simp at hid
      exact absurd hid (by decide)
    rw [ho2] at es
    unfold consumeNumeric.f
    rw [hnum hC]
    simp only [bS, if_true]
    rw [hC.byte h2 _ 37 (by decide) (by decide), if_neg (by simpa using h37)]
    simp only [bS, Bool.false_eq_true, if_false]
    rw [ident_yes hF hG h2 hq hC hid es]
    simp only [bS, if_true]
  · rw [if_neg hi]
    by_cases h37 : (T.getD e 0 == 37) = true
    · have hel : e < T.length := lt_of_ne (by rw [beq_iff_eq.mp h37]; decide)
      rw [if_pos h37]
      have hid : (idn T e o).2 = o := by
        unfold idn escs
        rw [beq_iff_eq.mp h37]
        simp
        rw [if_neg (by decide)]
      refine ⟨_, e + 1, _, rfl, by omega, by omega, fun ho => ⟨hid.symm.trans ho, fun hG B n hC => ⟨11, ?_, by decide, by decide⟩⟩⟩
      unfold consumeNumeric.f
      rw [hnum hC]
      simp only [bS, if_true]
      rw [hC.byte h2 _ 37 (by decide) (by decide), if_pos h37]
      simp only [bS, if_true]
    · rw [if_neg h37]
      refine ⟨_, e, _, rfl, by omega, h2, fun ho => ?_⟩
      have hoo : o = false := idn_shut ho
      subst hoo
      refine ⟨rfl, fun hG B n hC => ⟨10, ?_, by decide, by decide⟩⟩
      have hid : idn T e false = (false, false) := Prod.ext (Bool.eq_false_iff.mpr hi) ho
      unfold consumeNumeric.f
      rw [hnum hC]
      simp only [bS, if_true]
      rw [hC.byte h2 _ 37 (by decide) (by decide), if_neg h37]
      simp only [bS, Bool.false_eq_true, if_false]
      rw [ident_no hF hG h2 hq hC hid]
      simp only [bS, Bool.false_eq_true, if_false]
end Go.Proofs.YteonakpgenkhkaaDoor
