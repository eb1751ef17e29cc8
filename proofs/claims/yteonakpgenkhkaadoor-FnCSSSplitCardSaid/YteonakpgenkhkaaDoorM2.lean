import Derived.Test.YteonakpgenkhkaaDoorM1
namespace Go.Proofs.YteonakpgenkhkaaDoor
open Go.RowKit
set_option linter.unusedVariables false
set_option linter.unusedSimpArgs false
/-- Behind a run of bytes of a class. -/
def run (C : Int → Bool) (T : List Int) : Nat → Nat → Nat
  | 0, q => q
  | m + 1, q => if C (T.getD q 0) = true then run C T m (q + 1) else q
theorem cls_lt {C : Int → Bool} (h0 : C 0 = false) {T : List Int} {q : Nat} (h : C (T.getD q 0) = true) : q < T.length := lt_of_ne (by rintro e; rw [e, h0] at h; cases h)
theorem run_le {C : Int → Bool} (h0 : C 0 = false) (T : List Int) : ∀ m q, q ≤ T.length → q ≤ run C T m q ∧ run C T m q ≤ T.length
  | 0, q, h => ⟨Nat.le_refl _, h⟩
  | m + 1, q, h => by
    unfold run
    split
    · rename_i hh
      have := run_le h0 T m (q + 1) (cls_lt h0 hh)
      omega
    · exact ⟨Nat.le_refl _, h⟩
theorem run_stop {C : Int → Bool} (h0 : C 0 = false) (T : List Int) : ∀ m q, q ≤ T.length → T.length - q ≤ m → C (T.getD (run C T m q) 0) = false
  | 0, q, h, hm => by
    unfold run
    rw [getD_big (by omega), h0]
  | m + 1, q, h, hm => by
    unfold run
    split
    · rename_i hh
      exact run_stop h0 T m (q + 1) (cls_lt h0 hh) (by omega)
    · rename_i hh
      exact Bool.eq_false_iff.mpr hh
theorem run_more {C : Int → Bool} (T : List Int) : ∀ m m' q, m ≤ m' → C (T.getD (run C T m q) 0) = false → run C T m' q = run C T m q
  | 0, 0, q, _, h => rfl
  | 0, m' + 1, q, _, h => by
    unfold run at h ⊢
    rw [if_neg (by rw [h]; decide)]
  | m + 1, m' + 1, q, hm, h => by
    unfold run at h ⊢
    split
    · rename_i hh
      rw [if_pos hh] at h
      exact run_more T m m' (q + 1) (by omega) h
    · rfl
theorem hexrun_run (T : List Int) : ∀ m q, hexrun T m q = run isHex T m q
  | 0, q => rfl
  | m + 1, q => by unfold hexrun run; rw [hexrun_run T m (q + 1)]
theorem run_pos {C : Int → Bool} (h0 : C 0 = false) {T : List Int} {m q : Nat} (h : C (T.getD q 0) = true) : q + 1 ≤ run C T (m + 1) q := by
  unfold run
  rw [if_pos h]
  exact (run_le h0 T m (q + 1) (cls_lt h0 h)).1
theorem run_zero {C : Int → Bool} {T : List Int} {m q : Nat} (h : C (T.getD q 0) = false) : run C T m q = q := by
  cases m with
  | zero => rfl
  | succ m => unfold run; rw [if_neg (by rw [h]; decide)]
theorem run_succ {C : Int → Bool} {T : List Int} {m q : Nat} (h : C (T.getD q 0) = true) : run C T (m + 1) q = run C T m (q + 1) := by
  conv => lhs; unfold run
  rw [if_pos h]

theorem sblanks_l0_eq {K : Nat} {T : List Int} (hl : T.length < 1099511627000) : ∀ (m k q : Nat), m < k → q ≤ T.length → T.length - q ≤ m → sblanks.l0 K T k q = some ((run sIsBlank.f T m q : Nat) : Int)
  | 0, k + 1, q, _, hq, hm => by
    unfold sblanks.l0 run
    rw [rpk0 (by omega), getD_big (by omega)]
    simp only [bS]
    rw [if_neg (by decide)]
  | m + 1, k + 1, q, hk, hq, hm => by
    unfold sblanks.l0 run
    rw [rpk0 (by omega)]
    simp only [bS]
    split
    · rename_i hh
      rw [wr1 (by omega)]
      exact sblanks_l0_eq hl m k (q + 1) (by omega) (cls_lt (by decide) hh) (by omega)
    · rfl
theorem sblanks_f {K : Nat} {T : List Int} (hl : T.length < 1099511627000) {q : Nat} {o : Bool} (hK : T.length < K) (hq : q ≤ T.length) : sblanks.f K T q o = some ((run sIsBlank.f T T.length q : Nat) : Int) := sblanks_l0_eq hl T.length K q hK hq (by omega)
theorem sdigits_l0_eq {K : Nat} {T : List Int} (hl : T.length < 1099511627000) : ∀ (m k q : Nat), m < k → q ≤ T.length → T.length - q ≤ m → sdigits.l0 K T k q = some ((run sisDigit.f T m q : Nat) : Int)
  | 0, k + 1, q, _, hq, hm => by
    unfold sdigits.l0 run
    rw [rpk0 (by omega), getD_big (by omega)]
    simp only [bS]
    rw [if_neg (by decide)]
  | m + 1, k + 1, q, hk, hq, hm => by
    unfold sdigits.l0 run
    rw [rpk0 (by omega)]
    simp only [bS]
    split
    · rename_i hh
      rw [wr1 (by omega)]
      exact sdigits_l0_eq hl m k (q + 1) (by omega) (cls_lt (by decide) hh) (by omega)
    · rfl
theorem sdigits_f {K : Nat} {T : List Int} (hl : T.length < 1099511627000) {q : Nat} {o : Bool} (hK : T.length < K) (hq : q ≤ T.length) : sdigits.f K T q o = some ((run sisDigit.f T T.length q : Nat) : Int) := sdigits_l0_eq hl T.length K q hK hq (by omega)
theorem Ctx.NextWs_l0 {B T : List Int} {n : Nat} (h : Ctx B n T) {K : Nat} {s : Int} : ∀ (m k q : Nat), m < k → q ≤ T.length → T.length - q ≤ m → NextWs.l0 K B s k (pq n q) = some (pq n (run sIsBlank.f T m q))
  | 0, k + 1, q, _, hq, hm => by
    unfold NextWs.l0 run
    rw [h.ws hq, getD_big (by omega), if_neg (by decide)]
    simp only [bS, Bool.false_eq_true, if_false]
  | m + 1, k + 1, q, hk, hq, hm => by
    unfold NextWs.l0 run
    rw [h.ws hq]
    by_cases hh : sIsBlank.f (T.getD q 0) = true
    · rw [if_pos hh, if_pos hh]
      simp only [bS, if_true]
      exact h.NextWs_l0 m k (q + 1) (by omega) (cls_lt (by decide) hh) (by omega)
    · rw [if_neg hh, if_neg hh]
      simp only [bS, Bool.false_eq_true, if_false]
theorem Ctx.consumeIdentlike_l0 {B T : List Int} {n : Nat} (h : Ctx B n T) {K : Nat} {s : Int} : ∀ (m k q : Nat), m < k → q ≤ T.length → T.length - q ≤ m → consumeIdentlike.l0 K B s k (pq n q) = some (pq n (run sIsBlank.f T m q))
  | 0, k + 1, q, _, hq, hm => by
    unfold consumeIdentlike.l0 run
    rw [h.ws hq, getD_big (by omega), if_neg (by decide)]
    simp only [bS, Bool.false_eq_true, if_false]
  | m + 1, k + 1, q, hk, hq, hm => by
    unfold consumeIdentlike.l0 run
    rw [h.ws hq]
    by_cases hh : sIsBlank.f (T.getD q 0) = true
    · rw [if_pos hh, if_pos hh]
      simp only [bS, if_true]
      exact h.consumeIdentlike_l0 m k (q + 1) (by omega) (cls_lt (by decide) hh) (by omega)
    · rw [if_neg hh, if_neg hh]
      simp only [bS, Bool.false_eq_true, if_false]
theorem Ctx.consumeIdentlike_l1 {B T : List Int} {n : Nat} (h : Ctx B n T) {K : Nat} {s : Int} : ∀ (m k q : Nat), m < k → q ≤ T.length → T.length - q ≤ m → consumeIdentlike.l1 K B s k (pq n q) = some (pq n (run sIsBlank.f T m q))
  | 0, k + 1, q, _, hq, hm => by
    unfold consumeIdentlike.l1 run
    rw [h.ws hq, getD_big (by omega), if_neg (by decide)]
    simp only [bS, Bool.false_eq_true, if_false]
  | m + 1, k + 1, q, hk, hq, hm => by
    unfold consumeIdentlike.l1 run
    rw [h.ws hq]
    by_cases hh : sIsBlank.f (T.getD q 0) = true
    · rw [if_pos hh, if_pos hh]
      simp only [bS, if_true]
      exact h.consumeIdentlike_l1 m k (q + 1) (by omega) (cls_lt (by decide) hh) (by omega)
    · rw [if_neg hh, if_neg hh]
      simp only [bS, Bool.false_eq_true, if_false]
theorem Ctx.consumeNumberToken_l0 {B T : List Int} {n : Nat} (h : Ctx B n T) {K : Nat} {s : Int} : ∀ (m k q : Nat), m < k → q ≤ T.length → T.length - q ≤ m → consumeNumberToken.l0 K B s k (pq n q) = some (pq n (run sisDigit.f T m q))
  | 0, k + 1, q, _, hq, hm => by
    unfold consumeNumberToken.l0 run
    rw [h.digit hq, getD_big (by omega), if_neg (by decide)]
    simp only [bS, Bool.false_eq_true, if_false]
  | m + 1, k + 1, q, hk, hq, hm => by
    unfold consumeNumberToken.l0 run
    rw [h.digit hq]
    by_cases hh : sisDigit.f (T.getD q 0) = true
    · rw [if_pos hh, if_pos hh]
      simp only [bS, if_true]
      exact h.consumeNumberToken_l0 m k (q + 1) (by omega) (cls_lt (by decide) hh) (by omega)
    · rw [if_neg hh, if_neg hh]
      simp only [bS, Bool.false_eq_true, if_false]
theorem Ctx.consumeNumberToken_l1 {B T : List Int} {n : Nat} (h : Ctx B n T) {K : Nat} {s : Int} : ∀ (m k q : Nat), m < k → q ≤ T.length → T.length - q ≤ m → consumeNumberToken.l1 K B s k (pq n q) = some (pq n (run sisDigit.f T m q))
  | 0, k + 1, q, _, hq, hm => by
    unfold consumeNumberToken.l1 run
    rw [h.digit hq, getD_big (by omega), if_neg (by decide)]
    simp only [bS, Bool.false_eq_true, if_false]
  | m + 1, k + 1, q, hk, hq, hm => by
    unfold consumeNumberToken.l1 run
    rw [h.digit hq]
    by_cases hh : sisDigit.f (T.getD q 0) = true
    · rw [if_pos hh, if_pos hh]
      simp only [bS, if_true]
      exact h.consumeNumberToken_l1 m k (q + 1) (by omega) (cls_lt (by decide) hh) (by omega)
    · rw [if_neg hh, if_neg hh]
      simp only [bS, Bool.false_eq_true, if_false]
theorem Ctx.consumeNumberToken_l2 {B T : List Int} {n : Nat} (h : Ctx B n T) {K : Nat} {s : Int} : ∀ (m k q : Nat), m < k → q ≤ T.length → T.length - q ≤ m → consumeNumberToken.l2 K B s k (pq n q) = some (pq n (run sisDigit.f T m q))
  | 0, k + 1, q, _, hq, hm => by
    unfold consumeNumberToken.l2 run
    rw [h.digit hq, getD_big (by omega), if_neg (by decide)]
    simp only [bS, Bool.false_eq_true, if_false]
  | m + 1, k + 1, q, hk, hq, hm => by
    unfold consumeNumberToken.l2 run
    rw [h.digit hq]
    by_cases hh : sisDigit.f (T.getD q 0) = true
    · rw [if_pos hh, if_pos hh]
      simp only [bS, if_true]
      exact h.consumeNumberToken_l2 m k (q + 1) (by omega) (cls_lt (by decide) hh) (by omega)
    · rw [if_neg hh, if_neg hh]
      simp only [bS, Bool.false_eq_true, if_false]

theorem name_law2 {K : Nat} {T : List Int} (hT : isU8 T) (hl : T.length < 1099511627000) (hK : T.length + 10 ≤ K) : ∀ (m k q : Nat) (o : Bool), T.length - q ≤ m → m < k → q ≤ T.length →
    ∃ (q' : Nat) (o' : Bool), sname.l0 K T k q o = some ((q' : Int), o') ∧ q ≤ q' ∧ q' ≤ T.length ∧ (o' = false → o = false ∧ ((hasB T 92 = true → Utf8 T) → ∀ (B : List Int) (n u k2 : Nat), Ctx B n T → u ≤ T.length → m < k2 → consumeIdentToken.l0 K B (pq n u) k2 (pq n q) = some (pq n q')))
  | m, k + 1, q, o, hm, hk, hq => by
    unfold sname.l0
    rw [rovern]
    by_cases hn : T.length ≤ q
    · rw [decide_eq_true hn, if_pos rfl]
      refine ⟨q, o, rfl, Nat.le_refl _, hq, fun h => ⟨h, fun hU B n u k2 hC hu hk2 => ?_⟩⟩
      obtain ⟨k2, rfl⟩ : ∃ j, k2 = j + 1 := ⟨k2 - 1, by omega⟩
      unfold consumeIdentToken.l0
      rw [hC.pk0 hq]
      simp only [bS, name_eq]
      rw [hC.cls sisNameByte.f (by decide) hq, hC.eqq hq 92 (by decide) (by decide), getD_big hn, if_pos (by decide), if_neg (by decide)]
      simp only [bS, if_true]
    · rw [decide_eq_false hn, if_neg (by decide), rpk0 (by omega)]
      simp only [bS]
      by_cases hb : sisNameByte.f (T.getD q 0) = true
      · rw [if_pos hb, wr1 (by omega)]
        obtain ⟨m, rfl⟩ : ∃ j, m = j + 1 := ⟨m - 1, by omega⟩
        obtain ⟨q', o', e, h1, h2, h3⟩ := name_law2 hT hl hK m k (q + 1) o (by omega) (by omega) (by omega)
        refine ⟨q', o', e, by omega, h2, fun h => ⟨(h3 h).1, fun hU B n u k2 hC hu hk2 => ?_⟩⟩
        obtain ⟨k2, rfl⟩ : ∃ j, k2 = j + 1 := ⟨k2 - 1, by omega⟩
        unfold consumeIdentToken.l0
        rw [hC.pk0 hq]
        simp only [bS, name_eq]
        rw [hC.cls sisNameByte.f (by decide) hq, hb, if_neg (by decide), hC.mv1 (by omega)]
        exact (h3 h).2 hU B n u k2 hC hu (by omega)
      · rw [if_neg hb, sescapes0 (by omega)]
        simp only [bS]
        unfold escs
        by_cases h9 : T.getD q 0 = 92
        · rw [if_pos h9]
          by_cases hn1 : T.length ≤ q + 1
          · rw [if_pos hn1]
            exact ⟨q, true, by simp, Nat.le_refl _, hq, fun h => by cases h⟩
          · rw [if_neg hn1]
            by_cases hnl : isNl (T.getD (q + 1) 0) = true
            · simp only [hnl, Bool.not_true, Bool.false_eq_true, if_false]
              refine ⟨q, o, rfl, Nat.le_refl _, hq, fun h => ⟨h, fun hU B n u k2 hC hu hk2 => ?_⟩⟩
              obtain ⟨k2, rfl⟩ : ∃ j, k2 = j + 1 := ⟨k2 - 1, by omega⟩
              unfold consumeIdentToken.l0
              rw [hC.pk0 hq]
              simp only [bS, name_eq]
              rw [hC.cls sisNameByte.f (by decide) hq, hC.eqq hq 92 (by decide) (by decide), Bool.eq_false_iff.mpr hb, if_pos (by decide), if_pos (by simpa using h9), hC.esc (hU (has92 (by omega) h9)) (by omega) hu h9 (by omega), if_pos hnl]
              simp only [bS, Bool.not_false, if_true]
            · simp only [Bool.eq_false_iff.mpr hnl, Bool.not_false, if_true]
              rw [sescape_eq hT hl hK (by omega)]
              simp only [bS]
              obtain ⟨m, rfl⟩ : ∃ j, m = j + 1 := ⟨m - 1, by omega⟩
              have hle := escAt_le (T := T) (q := q) (by omega)
              obtain ⟨q', o', e, h1, h2, h3⟩ := name_law2 hT hl hK m k (escAt T q) (if isHex (T.getD (q + 1) 0) = true ∧ T.getD (hexrun T 6 (q + 1)) 0 = 13 then true else o) (by omega) (by omega) (by omega)
              refine ⟨q', o', e, by omega, h2, fun h => ⟨?_, fun hU B n u k2 hC hu hk2 => ?_⟩⟩
              · have := (h3 h).1
                split at this
                · cases this
                · exact this
              obtain ⟨k2, rfl⟩ : ∃ j, k2 = j + 1 := ⟨k2 - 1, by omega⟩
              unfold consumeIdentToken.l0
              rw [hC.pk0 hq]
              simp only [bS, name_eq]
              rw [hC.cls sisNameByte.f (by decide) hq, hC.eqq hq 92 (by decide) (by decide), Bool.eq_false_iff.mpr hb, if_pos (by decide), if_pos (by simpa using h9), hC.esc (hU (has92 (by omega) h9)) (by omega) hu h9 (by omega), if_neg hnl]
              simp only [bS, Bool.not_true, Bool.false_eq_true, if_false]
              exact (h3 h).2 hU B n u k2 hC hu (by omega)
        · rw [if_neg h9]
          refine ⟨q, o, by simp, Nat.le_refl _, hq, fun h => ⟨h, fun hU B n u k2 hC hu hk2 => ?_⟩⟩
          obtain ⟨k2, rfl⟩ : ∃ j, k2 = j + 1 := ⟨k2 - 1, by omega⟩
          unfold consumeIdentToken.l0
          rw [hC.pk0 hq]
          simp only [bS, name_eq]
          rw [hC.cls sisNameByte.f (by decide) hq, hC.eqq hq 92 (by decide) (by decide), Bool.eq_false_iff.mpr hb, if_pos (by decide), if_neg (by simpa using h9)]
          simp only [bS, if_true]
theorem hash_loop (K : Nat) (B : List Int) (s : Int) : ∀ (k : Nat) (p : Int), consumeHashToken.l0 K B s k p = consumeIdentToken.l0 K B s k p
  | 0, p => rfl
  | k + 1, p => by unfold consumeHashToken.l0 consumeIdentToken.l0; simp only [hash_loop K B s k]
/-- The text is told: where it has a backslash it is one of characters, and it has no byte 0. -/
structure Fit (T : List Int) (K : Nat) : Prop where
  u8 : isU8 T
  len : T.length < 1099511627000
  fuel : T.length + 20 ≤ K
structure Good (T : List Int) : Prop where
  utf : hasB T 92 = true → Utf8 T
  no0 : hasB T 0 = false
theorem Good.ne0 {T : List Int} (h : Good T) {q : Nat} (hq : q < T.length) : T.getD q 0 ≠ 0 := fun e => by
  have := has92 hq e
  rw [h.no0] at this
  cases this
theorem sname_tot {K : Nat} {T : List Int} (hF : Fit T K) (q : Nat) (o : Bool) (hq : q ≤ T.length) : ∃ (q' : Nat) (o' : Bool), sname.f K T q o = some ((q' : Int), o') ∧ q ≤ q' ∧ q' ≤ T.length ∧ (o' = false → o = false) := by
  have := hF.fuel
  obtain ⟨q', o', e, h1, h2, h3⟩ := name_law2 hF.u8 hF.len (by omega : T.length + 10 ≤ K) T.length K q o (by omega) (by omega) hq
  exact ⟨q', o', e, h1, h2, fun h => (h3 h).1⟩
/-- The loop over a name from q on, as the reference's goes from there. -/
theorem name_from {K k : Nat} {T : List Int} (hF : Fit T K) (hG : Good T) {q q' : Nat} {o : Bool} (hq : q ≤ T.length) (hk : T.length < k) (e : sname.l0 K T k q o = some ((q' : Int), false)) {B : List Int} {n u : Nat} (hC : Ctx B n T) (hu : u ≤ T.length) :
    consumeIdentToken.l0 K B (pq n u) K (pq n q) = some (pq n q') := by
  have := hF.fuel
  obtain ⟨q2, o2, e2, h1, h2, h3⟩ := name_law2 hF.u8 hF.len (by omega : T.length + 10 ≤ K) (T.length - q) k q o (by omega) (by omega) hq
  rw [e] at e2
  have e2 := Option.some.inj e2
  have e3 := congrArg Prod.fst e2
  have e4 := congrArg Prod.snd e2
  dsimp only at e3 e4
  obtain rfl : q' = q2 := by omega
  exact (h3 e4.symm).2 hG.utf B n u K hC hu (by omega)
/-- Whether an identifier starts at p, and whether that is left open. -/
def idn (T : List Int) (p : Nat) (o : Bool) : Bool × Bool :=
  if T.getD p 0 = 45 then (if sisStart.f (T.getD (p + 1) 0) = true then (true, if T.getD (p + 1) 0 = 45 then true else o) else escs T (p + 1) (if T.getD (p + 1) 0 = 45 then true else o))
  else if sisStart.f (T.getD p 0) = true then (true, o) else escs T p o
theorem sidentifies_eq {T : List Int} {q : Nat} {m : Int} (d : Nat) (e : m = d) (h : q + d + 5 < 1099511627776) {o : Bool} : sidentifies.f T q o m = some (idn T (q + d) o) := by
  subst e
  unfold sidentifies.f idn
  rw [rpkn d rfl (by omega), wr1 (by omega), rpkn (d + 1) rfl (by omega)]
  simp only [bS]
  rw [show q + (d + 1) = q + d + 1 from rfl]
  by_cases h4 : T.getD (q + d) 0 = 45
  · rw [if_pos (by simpa using h4), if_pos h4]
    by_cases h5 : T.getD (q + d + 1) 0 = 45
    · rw [if_pos (by simpa using h5), if_pos h5]
      simp only [bS]
      split
      · rfl
      · rw [sescapes_eq (d + 1) rfl (by omega)]; rfl
    · rw [if_neg (by simpa using h5), if_neg h5]
      simp only [bS]
      split
      · rfl
      · rw [sescapes_eq (d + 1) rfl (by omega)]; rfl
  · rw [if_neg (by simpa using h4), if_neg h4]
    split
    · rfl
    · rw [sescapes_eq d rfl (by omega)]; rfl
theorem escs_yes {T : List Int} {p : Nat} {o : Bool} (h : escs T p o = (true, false)) : T.getD p 0 = 92 ∧ p + 1 < T.length ∧ isNl (T.getD (p + 1) 0) = false ∧ o = false := by
  unfold escs at h
  split at h
  · rename_i h9
    split at h
    · cases h
    · rename_i hl
      have h1 := congrArg Prod.fst h
      have h2 := congrArg Prod.snd h
      dsimp only at h1 h2
      exact ⟨h9, by omega, by simpa using h1, h2⟩
  · cases h
theorem escs_no {T : List Int} {p : Nat} {o : Bool} (h : escs T p o = (false, false)) : (T.getD p 0 ≠ 92 ∨ (T.getD p 0 = 92 ∧ p + 1 < T.length ∧ isNl (T.getD (p + 1) 0) = true)) ∧ o = false := by
  unfold escs at h
  split at h
  · rename_i h9
    split at h
    · cases h
    · rename_i hl
      have h1 := congrArg Prod.fst h
      have h2 := congrArg Prod.snd h
      dsimp only at h1 h2
      exact ⟨.inr ⟨h9, by omega, by simpa using h1⟩, h2⟩
  · have h2 := congrArg Prod.snd h
    exact ⟨.inl ‹_›, h2⟩
/-- The lexer's look at a first byte of a class C, or an escape. -/
def headL (C : Int → Bool) (K : Nat) (B : List Int) (p q0 s : Int) : Option ((Bool × Int) ⊕ Int) :=
  (pk B p 0).bind fun c =>
    if (!C c) = true then ((if (c == 92) = true then ((consumeEscape.f K B p s).bind fun (t, p1) => some (!t, p1)) else some (true, p)).bind fun (b, p2) =>
      if b = true then (outS (some (false, q0))) else some (.inr p2)) else some (.inr (mv p 1))
theorem head_start {C : Int → Bool} (hC0 : C 59 = C 0) {K : Nat} {T : List Int} (hF : Fit T K) (hG : Good T) {p u : Nat} {q0 : Int} (hp : p ≤ T.length) (hu : u ≤ T.length) {B : List Int} {n : Nat} (hC : Ctx B n T) (hc : C (T.getD p 0) = true) : headL C K B (pq n p) q0 (pq n u) = some (.inr (pq n (p + 1))) := by
  unfold headL
  rw [hC.pk0 hp]
  simp only [bS]
  rw [hC.cls C hC0 hp, hc, if_neg (by decide), hC.mv1 hp]
theorem head_esc {C : Int → Bool} (hC0 : C 59 = C 0) {K : Nat} {T : List Int} (hF : Fit T K) (hG : Good T) {p u : Nat} {q0 : Int} (hu : u ≤ T.length) {B : List Int} {n : Nat} (hC : Ctx B n T) (hc : C (T.getD p 0) = false) (h : T.getD p 0 = 92 ∧ p + 1 < T.length ∧ isNl (T.getD (p + 1) 0) = false) : headL C K B (pq n p) q0 (pq n u) = some (.inr (pq n (escAt T p))) := by
  obtain ⟨h9, hl, hn⟩ := h
  have := hF.fuel
  unfold headL
  rw [hC.pk0 (by omega)]
  simp only [bS]
  rw [hC.cls C hC0 (by omega), hc, if_pos (by decide), hC.eqq (by omega) 92 (by decide) (by decide), if_pos (by simpa using h9), hC.esc (hG.utf (has92 (by omega) h9)) (by omega) hu h9 hl, hn, if_neg (by decide)]
  simp only [bS, Bool.not_true, Bool.false_eq_true, if_false]
theorem head_no {C : Int → Bool} (hC0 : C 59 = C 0) {K : Nat} {T : List Int} (hF : Fit T K) (hG : Good T) {p u : Nat} {q0 : Int} (hp : p ≤ T.length) (hu : u ≤ T.length) {B : List Int} {n : Nat} (hC : Ctx B n T) (hc : C (T.getD p 0) = false) (h : T.getD p 0 ≠ 92 ∨ (T.getD p 0 = 92 ∧ p + 1 < T.length ∧ isNl (T.getD (p + 1) 0) = true)) : headL C K B (pq n p) q0 (pq n u) = some (.inl (false, q0)) := by
  have := hF.fuel
  unfold headL
  rw [hC.pk0 (by omega)]
  simp only [bS]
  rw [hC.cls C hC0 (by omega), hc, if_pos (by decide), hC.eqq (by omega) 92 (by decide) (by decide)]
  rcases h with h | ⟨h9, hl, hn⟩
  · rw [if_neg (by simpa using h)]
    simp only [bS, if_true]
    rfl
  · rw [if_pos (by simpa using h9), hC.esc (hG.utf (has92 (by omega) h9)) (by omega) hu h9 hl, hn, if_pos rfl]
    simp only [bS, Bool.not_false, if_true]
    rfl
theorem ident_head {K : Nat} {B T : List Int} {n p u : Nat} (hC : Ctx B n T) (hp : p ≤ T.length) (hu : u ≤ T.length) (h45 : T.getD p 0 = 45 → T.getD (p + 1) 0 ≠ 45) :
    consumeIdentToken.f K B (pq n p) (pq n u) = (headL sisStart.f K B (pq n (if T.getD p 0 = 45 then p + 1 else p)) (pq n p) (pq n u)).bind fun o => joinS o some fun p129 => (consumeIdentToken.l0 K B (pq n u) K p129).bind fun p168 => some (true, p168) := by
  unfold consumeIdentToken.f headL
  rw [hC.pk0 hp]
  simp only [bS, start_eq]
  rw [hC.eqq hp 45 (by decide) (by decide), hC.rw_ hp hu]
  by_cases h : T.getD p 0 = 45
  · have hpl : p < T.length := lt_of_ne (by rw [h]; decide)
    rw [if_pos (by simpa using h), if_pos h, hC.mv1 hp, hC.pk0 (by omega)]
    simp only [bS]
    rw [hC.eqq (by omega) 45 (by decide) (by decide), if_neg (by simpa using h45 h)]
    simp only [bS, Bool.false_eq_true, if_false]
    rw [hC.pk0 (by omega)]
    simp only [bS]
  · rw [if_neg (by simpa using h), if_neg h]
    simp only [bS, Bool.false_eq_true, if_false]
theorem idn_45 {T : List Int} {p : Nat} {t : Bool} (h : idn T p false = (t, false)) : T.getD p 0 = 45 → T.getD (p + 1) 0 ≠ 45 := fun h4 h5 => by
  unfold idn at h
  rw [if_pos h4, h5, if_neg (by decide), if_pos rfl] at h
  unfold escs at h
  rw [if_neg (by rw [h5]; decide)] at h
  cases h
theorem ident_no {K : Nat} {T : List Int} (hF : Fit T K) (hG : Good T) {p u : Nat} (hp : p ≤ T.length) (hu : u ≤ T.length) {B : List Int} {n : Nat} (hC : Ctx B n T) (h : idn T p false = (false, false)) : consumeIdentToken.f K B (pq n p) (pq n u) = some (false, pq n p) := by
  have h45 := idn_45 h
  rw [ident_head hC hp hu h45]
  unfold idn at h
  by_cases h4 : T.getD p 0 = 45
  · have hpl : p < T.length := lt_of_ne (by rw [h4]; decide)
    rw [if_pos h4] at h ⊢
    rw [if_neg (h45 h4)] at h
    split at h
    · cases h
    · rename_i hs
      rw [head_no (by decide) hF hG (by omega) hu hC (Bool.eq_false_iff.mpr hs) (escs_no h).1]
      rfl
  · rw [if_neg h4] at h ⊢
    split at h
    · cases h
    · rename_i hs
      rw [head_no (by decide) hF hG (by omega) hu hC (Bool.eq_false_iff.mpr hs) (escs_no h).1]
      rfl
theorem not_name92 {c : Int} (h : c = 92) : sisNameByte.f c = false := by subst h; decide
theorem ident_yes {K : Nat} {T : List Int} (hF : Fit T K) (hG : Good T) {p u q' : Nat} (hp : p ≤ T.length) (hu : u ≤ T.length) {B : List Int} {n : Nat} (hC : Ctx B n T) (h : idn T p false = (true, false)) (hs : sname.f K T p false = some ((q' : Int), false)) : consumeIdentToken.f K B (pq n p) (pq n u) = some (true, pq n q') := by
  have hK := hF.fuel
  have h45 := idn_45 h
  rw [ident_head hC hp hu h45]
  unfold sname.f at hs
  unfold idn at h
  -- from p0 on
  have key : ∀ (k p0 : Nat), T.length + 2 < k + 1 → p0 ≤ T.length → (sisStart.f (T.getD p0 0) = true ∨ (sisStart.f (T.getD p0 0) = false ∧ escs T p0 false = (true, false))) → sname.l0 K T (k + 1) p0 false = some ((q' : Int), false) →
      ((headL sisStart.f K B (pq n p0) (pq n p) (pq n u)).bind fun o => joinS o some fun p129 => (consumeIdentToken.l0 K B (pq n u) K p129).bind fun p168 => some (true, p168)) = some (true, pq n q') := by
    intro k p0 hk hp0 hst hs
    rcases hst with h1 | ⟨h1, h2⟩
    · have hpl : p0 < T.length := cls_lt (by decide) h1
      rw [head_start (by decide) hF hG hp0 hu hC h1]
      simp only [bS, joinS]
      rw [sname_name hF.len hpl (name_of_start h1)] at hs
      rw [name_from hF hG (by omega) (by omega) hs hC hu]
      simp only [bS]
    · obtain ⟨h9, hl, hn, _⟩ := escs_yes h2
      rw [head_esc (by decide) hF hG hu hC h1 ⟨h9, hl, hn⟩]
      simp only [bS, joinS]
      have hle := escAt_le hl
      rw [sname_esc hF.u8 hF.len (by omega) hl h9 hn] at hs
      rw [name_from hF hG (by omega) (by omega) hs hC hu]
      simp only [bS]
  by_cases h4 : T.getD p 0 = 45
  · have hpl : p < T.length := lt_of_ne (by rw [h4]; decide)
    rw [if_pos h4] at h ⊢
    rw [if_neg (h45 h4)] at h
    obtain ⟨k, rfl⟩ : ∃ k, K = k + 2 := ⟨K - 2, by omega⟩
    rw [sname_name hF.len hpl (by rw [h4]; decide)] at hs
    refine key k (p + 1) (by omega) (by omega) ?_ hs
    split at h
    · exact .inl ‹_›
    · exact .inr ⟨Bool.eq_false_iff.mpr ‹_›, h⟩
  · rw [if_neg h4] at h ⊢
    obtain ⟨k, rfl⟩ : ∃ k, K = k + 1 := ⟨K - 1, by omega⟩
    refine key k p (by omega) (by omega) ?_ hs
    split at h
    · exact .inl ‹_›
    · exact .inr ⟨Bool.eq_false_iff.mpr ‹_›, h⟩
/-- The hash, behind its sign. -/
theorem hash_yes {K : Nat} {T : List Int} (hF : Fit T K) (hG : Good T) {p q' : Nat} (hp : p < T.length) {B : List Int} {n : Nat} (hC : Ctx B n T) (h : sisNameByte.f (T.getD (p + 1) 0) = true ∨ (sisNameByte.f (T.getD (p + 1) 0) = false ∧ escs T (p + 1) false = (true, false))) (hs : sname.f K T ((p + 1 : Nat) : Int) false = some ((q' : Int), false)) : consumeHashToken.f K B (pq n p) (pq n p) = some (true, pq n q') := by
  have hK := hF.fuel
  unfold sname.f at hs
  have e : consumeHashToken.f K B (pq n p) (pq n p) = (headL sisNameByte.f K B (pq n (p + 1)) (pq n p) (pq n p)).bind fun o => joinS o some fun p251 => (consumeIdentToken.l0 K B (pq n p) K p251).bind fun p290 => some (true, p290) := by
    unfold consumeHashToken.f headL
    rw [hC.mv1 (by omega), hC.pk0 (by omega)]
    simp only [bS, name_eq, hash_loop]
    rw [hC.rw_ (by omega) (by omega)]
  rw [e]
  obtain ⟨k, rfl⟩ : ∃ k, K = k + 1 := ⟨K - 1, by omega⟩
  rcases h with h1 | ⟨h1, h2⟩
  · have hpl : p + 1 < T.length := cls_lt (by decide) h1
    rw [head_start (by decide) hF hG (by omega) (by omega) hC h1]
    simp only [bS, joinS]
    rw [sname_name hF.len hpl h1] at hs
    rw [name_from hF hG (by omega) (by omega) hs hC (by omega)]
    simp only [bS]
  · obtain ⟨h9, hl, hn, _⟩ := escs_yes h2
    rw [head_esc (by decide) hF hG (by omega) hC h1 ⟨h9, hl, hn⟩]
    simp only [bS, joinS]
    have hle := escAt_le hl
    rw [sname_esc hF.u8 hF.len (by omega) hl h9 hn] at hs
    rw [name_from hF hG (by omega) (by omega) hs hC (by omega)]
    simp only [bS]
theorem hash_no {K : Nat} {T : List Int} (hF : Fit T K) (hG : Good T) {p : Nat} (hp : p < T.length) {B : List Int} {n : Nat} (hC : Ctx B n T) (h1 : sisNameByte.f (T.getD (p + 1) 0) = false) (h : escs T (p + 1) false = (false, false)) : consumeHashToken.f K B (pq n p) (pq n p) = some (false, pq n p) := by
  unfold consumeHashToken.f
  have e := head_no (C := sisNameByte.f) (q0 := pq n p) (by decide) hF hG (by omega : p + 1 ≤ T.length) (by omega : p ≤ T.length) hC h1 (escs_no h).1
  unfold headL at e
  rw [hC.pk0 (by omega)] at e
  simp only [bS] at e
  rw [hC.mv1 (by omega), hC.pk0 (by omega)]
  simp only [bS, name_eq, hash_loop]
  rw [hC.rw_ (by omega) (by omega), e]
  rfl
end Go.Proofs.YteonakpgenkhkaaDoor
