import Derived.Test.YteonakpgenkhkaaDoorL13
import Derived.Test.YteonakpgenkhkaaDoorL11
namespace Go.Proofs.YteonakpgenkhkaaDoor
open Go.RowKit
set_option linter.unusedVariables false
set_option linter.unusedSimpArgs false
theorem name_eq (c : Int) : (((((((decide (97 ≤ c)) && (decide (c ≤ 122))) || ((decide (65 ≤ c)) && (decide (c ≤ 90)))) || ((decide (48 ≤ c)) && (decide (c ≤ 57)))) || (c == 95)) || (c == 45)) || (decide (128 ≤ c))) = sisNameByte.f c := by
  unfold sisNameByte.f sisStart.f sisLetter.f sisDigit.f
  generalize ((decide (97 ≤ c)) && (decide (c ≤ 122))) = a
  generalize ((decide (65 ≤ c)) && (decide (c ≤ 90))) = b
  generalize ((decide (48 ≤ c)) && (decide (c ≤ 57))) = d
  generalize (c == 95) = e
  generalize (c == 45) = f
  generalize (decide (128 ≤ c)) = g
  cases a <;> cases b <;> cases d <;> cases e <;> cases f <;> cases g <;> rfl
theorem start_eq (c : Int) : (((((decide (97 ≤ c)) && (decide (c ≤ 122))) || ((decide (65 ≤ c)) && (decide (c ≤ 90)))) || (c == 95)) || (decide (128 ≤ c))) = sisStart.f c := by
  unfold sisStart.f sisLetter.f
  generalize ((decide (97 ≤ c)) && (decide (c ≤ 122))) = a
  generalize ((decide (65 ≤ c)) && (decide (c ≤ 90))) = b
  generalize (c == 95) = e
  generalize (decide (128 ≤ c)) = g
  cases a <;> cases b <;> cases e <;> cases g <;> rfl
theorem name_of_start {c : Int} (h : sisStart.f c = true) : sisNameByte.f c = true := by unfold sisNameByte.f; rw [h]; rfl
/-- Whether an escape starts at q, and whether it is open. -/
def escs (T : List Int) (q : Nat) (o : Bool) : Bool × Bool :=
  if T.getD q 0 = 92 then (if T.length ≤ q + 1 then (false, true) else (!isNl (T.getD (q + 1) 0), o)) else (false, o)
theorem nl_eq (c : Int) : sisNewline.f c = isNl c := rfl
theorem sescapes_eq {T : List Int} {q : Nat} {m : Int} (d : Nat) (e : m = d) (h : q + d + 2 < 1099511627776) {o : Bool} : sescapes.f T q o m = some (escs T (q + d) o) := by
  subst e
  unfold sescapes.f escs
  have e : wrap64 ((q : Int) + d) = ((q + d : Nat) : Int) := by unfold wrap64; omega
  rw [rpkn d rfl (by omega), e, wr1 (by omega), wr1 (by omega), rpkn (d + 1) rfl (by omega)]
  simp only [bS, nl_eq]
  by_cases h9 : T.getD (q + d) 0 = 92
  · rw [h9, if_pos (by decide), if_pos rfl]
    by_cases hn : T.length ≤ q + d + 1
    · rw [if_pos (by simp; omega), if_pos hn]
    · rw [if_neg (by simp; omega), if_neg hn]; rfl
  · rw [if_neg (by simpa using h9), if_neg h9]
theorem sescapes0 {T : List Int} {q : Nat} (h : q + 2 < 1099511627776) {o : Bool} : sescapes.f T q o 0 = some (escs T q o) := sescapes_eq 0 rfl (by omega)
theorem has92 {T : List Int} {q : Nat} {c : Int} (h : q < T.length) (h9 : T.getD q 0 = c) : hasB T c = true := hasB_hit T c q h (by simpa using h9)
/-- The name as both read it. -/
theorem name_law {K : Nat} {T : List Int} (hT : isU8 T) (hl : T.length < 1099511627000) (hK : T.length + 10 ≤ K) : ∀ (m k q : Nat) (o : Bool), T.length - q ≤ m → m < k → q ≤ T.length →
    ∃ (q' : Nat) (o' : Bool), sname.l0 K T k q o = some ((q' : Int), o') ∧ q ≤ q' ∧ q' ≤ T.length ∧ (o' = false → o = false ∧ ((hasB T 92 = true → Utf8 T) → ∀ k2, m < k2 → consumeIdentToken.l0 K (T ++ [0]) 0 k2 q = some (q' : Int)))
  | m, k + 1, q, o, hm, hk, hq => by
    unfold sname.l0
    rw [rovern]
    by_cases hn : T.length ≤ q
    · rw [decide_eq_true hn, if_pos rfl]
      refine ⟨q, o, rfl, Nat.le_refl _, hq, fun h => ⟨h, fun hU k2 hk2 => ?_⟩⟩
      obtain ⟨k2, rfl⟩ : ∃ j, k2 = j + 1 := ⟨k2 - 1, by omega⟩
      unfold consumeIdentToken.l0
      rw [pk0 hq (by omega), getD_big hn]
      simp only [bS]
      rw [if_pos (by decide), if_neg (by decide)]
      simp only [bS, if_true]
    · rw [decide_eq_false hn, if_neg (by decide), rpk0 (by omega)]
      simp only [bS]
      by_cases hb : sisNameByte.f (T.getD q 0) = true
      · rw [if_pos hb, wr1 (by omega)]
        obtain ⟨m, rfl⟩ : ∃ j, m = j + 1 := ⟨m - 1, by omega⟩
        obtain ⟨q', o', e, h1, h2, h3⟩ := name_law hT hl hK m k (q + 1) o (by omega) (by omega) (by omega)
        refine ⟨q', o', e, by omega, h2, fun h => ⟨(h3 h).1, fun hU k2 hk2 => ?_⟩⟩
        obtain ⟨k2, rfl⟩ : ∃ j, k2 = j + 1 := ⟨k2 - 1, by omega⟩
        unfold consumeIdentToken.l0
        rw [pk0 hq (by omega)]
        simp only [bS, name_eq]
        rw [hb, if_neg (by decide), mv1 (by omega)]
        exact (h3 h).2 hU k2 (by omega)
      · rw [if_neg hb, sescapes0 (by omega)]
        simp only [bS]
        unfold escs
        by_cases h9 : T.getD q 0 = 92
        · rw [if_pos h9]
          by_cases hn1 : T.length ≤ q + 1
          · rw [if_pos hn1]
            exact ⟨q, true, by simp, Nat.le_refl _, hq, fun h => by cases h⟩
          · rw [if_neg hn1]
            by_cases hnl : isNl (T.getD (q + 1) 0) = true
            · simp only [hnl, Bool.not_true, Bool.false_eq_true, if_false]
              refine ⟨q, o, rfl, Nat.le_refl _, hq, fun h => ⟨h, fun hU k2 hk2 => ?_⟩⟩
              obtain ⟨k2, rfl⟩ : ∃ j, k2 = j + 1 := ⟨k2 - 1, by omega⟩
              unfold consumeIdentToken.l0
              rw [pk0 hq (by omega)]
              simp only [bS, name_eq]
              rw [Bool.eq_false_iff.mpr hb, if_pos (by decide), if_pos (by simpa using h9), consumeEscape_eq (hU (has92 (by omega) h9)) hl (by omega) (by omega) h9 (by omega), if_pos hnl]
              simp only [bS, Bool.not_false, if_true]
            · simp only [Bool.eq_false_iff.mpr hnl, Bool.not_false, if_true]
              rw [sescape_eq hT hl hK (by omega)]
              simp only [bS]
              obtain ⟨m, rfl⟩ : ∃ j, m = j + 1 := ⟨m - 1, by omega⟩
              have hle := escAt_le (T := T) (q := q) (by omega)
              obtain ⟨q', o', e, h1, h2, h3⟩ := name_law hT hl hK m k (escAt T q) (if isHex (T.getD (q + 1) 0) = true ∧ T.getD (hexrun T 6 (q + 1)) 0 = 13 then true else o) (by omega) (by omega) (by omega)
              refine ⟨q', o', e, by omega, h2, fun h => ⟨?_, fun hU k2 hk2 => ?_⟩⟩
              · have := (h3 h).1
                split at this
                · cases this
                · exact this
              obtain ⟨k2, rfl⟩ : ∃ j, k2 = j + 1 := ⟨k2 - 1, by omega⟩
              unfold consumeIdentToken.l0
              rw [pk0 hq (by omega)]
              simp only [bS, name_eq]
              rw [Bool.eq_false_iff.mpr hb, if_pos (by decide), if_pos (by simpa using h9), consumeEscape_eq (hU (has92 (by omega) h9)) hl (by omega) (by omega) h9 (by omega), if_neg hnl]
              simp only [bS, Bool.not_true, Bool.false_eq_true, if_false]
              exact (h3 h).2 hU k2 (by omega)
        · rw [if_neg h9]
          refine ⟨q, o, by simp, Nat.le_refl _, hq, fun h => ⟨h, fun hU k2 hk2 => ?_⟩⟩
          obtain ⟨k2, rfl⟩ : ∃ j, k2 = j + 1 := ⟨k2 - 1, by omega⟩
          unfold consumeIdentToken.l0
          rw [pk0 hq (by omega)]
          simp only [bS, name_eq]
          rw [Bool.eq_false_iff.mpr hb, if_pos (by decide), if_neg (by simpa using h9)]
          simp only [bS, if_true]
theorem sname_name {K k q : Nat} {T : List Int} {o : Bool} (hl : T.length < 1099511627000) (h : q < T.length) (hb : sisNameByte.f (T.getD q 0) = true) : sname.l0 K T (k + 1) q o = sname.l0 K T k ((q + 1 : Nat) : Int) o := by
  conv => lhs; unfold sname.l0
  rw [rovern, decide_eq_false (by omega), if_neg (by decide), rpk0 (by omega)]
  simp only [bS]
  rw [if_pos hb, wr1 (by omega)]
theorem sname_esc {K k q : Nat} {T : List Int} {o : Bool} (hT : isU8 T) (hl : T.length < 1099511627000) (hK : T.length + 10 ≤ K) (h : q + 1 < T.length) (h9 : T.getD q 0 = 92) (hn : isNl (T.getD (q + 1) 0) = false) :
    sname.l0 K T (k + 1) q o = sname.l0 K T k (escAt T q) (if isHex (T.getD (q + 1) 0) = true ∧ T.getD (hexrun T 6 (q + 1)) 0 = 13 then true else o) := by
  conv => lhs; unfold sname.l0
  rw [rovern, decide_eq_false (by omega), if_neg (by decide), rpk0 (by omega)]
  simp only [bS]
  rw [if_neg (by rw [h9]; decide), sescapes0 (by omega)]
  simp only [bS]
  unfold escs
  rw [if_pos h9, if_neg (show ¬ T.length ≤ q + 1 by omega), hn]
  simp only [bS, Bool.not_false, if_true]
  rw [sescape_eq hT hl hK (by omega)]
  simp only [bS]
theorem id0 {T : List Int} {o : Bool} : sidentifies.f T 0 o 0 = some (
    if T.getD 0 0 = 45 then (sisStart.f (T.getD 1 0) || (escs T 1 o).1, if sisStart.f (T.getD 1 0) = true then (T.getD 1 0 == 45 || o) else (escs T 1 (T.getD 1 0 == 45 || o)).2)
    else (sisStart.f (T.getD 0 0) || (escs T 0 o).1, if sisStart.f (T.getD 0 0) = true then o else (escs T 0 o).2)) := by
  unfold sidentifies.f
  have e0 : rpk T 0 0 = some (T.getD 0 0) := rpk0 (q := 0) (by omega)
  have e1 : rpk T 0 (wrap64 (0 + 1)) = some (T.getD 1 0) := by
    have := rpkn (T := T) (q := 0) (m := wrap64 (0 + 1)) 1 (by unfold wrap64; omega) (by omega)
    rwa [Nat.zero_add] at this
  have s0 : sescapes.f T 0 o 0 = some (escs T 0 o) := sescapes0 (q := 0) (by omega)
  have s1 : ∀ o, sescapes.f T 0 o (wrap64 (0 + 1)) = some (escs T 1 o) := fun o => by
    have := sescapes_eq (T := T) (q := 0) (m := wrap64 (0 + 1)) 1 (by unfold wrap64; omega) (by omega) (o := o)
    rwa [Nat.zero_add] at this
  have esc1 : ∀ q o o', (escs T q o).1 = (escs T q o').1 := fun q o o' => by
    unfold escs
    split
    · split <;> rfl
    · rfl
  rw [e0, e1, s0]
  simp only [bS, s1]
  by_cases h : T.getD 0 0 = 45
  · rw [if_pos (by simpa using h), if_pos h]
    by_cases h2 : T.getD 1 0 = 45
    · simp only [h2, beq_self_eq_true, if_true, bS, Bool.true_or]
      rw [if_neg (by decide)]
      simp only [show sisStart.f 45 = false from by decide, Bool.false_or, Bool.false_eq_true, if_false]
      rw [esc1 1 o true]
      rfl
    · have h2' : (T.getD 1 0 == 45) = false := by simpa using h2
      simp only [h2', Bool.false_eq_true, if_false, bS, Bool.false_or]
      cases hs : sisStart.f (T.getD 1 0) <;> simp
  · rw [if_neg (by simpa using h), if_neg h]
    cases hs : sisStart.f (T.getD 0 0) <;> simp
theorem identTail {K p : Nat} {T : List Int} {q' : Nat} (hp : p ≤ T.length) (hq : q' ≤ T.length) (hl : T.length < 1099511627000) (e : consumeIdentToken.l0 K (T ++ [0]) 0 K p = some (q' : Int)) {m : Option (Bool × Int)} (h : consumeIdentToken.f K (T ++ [0]) 0 0 = ((consumeIdentToken.l0 K (T ++ [0]) 0 K p).bind fun p168 => some (true, p168))) :
    identF K T = some (decide (T.length ≤ q')) := by
  unfold identF
  rw [h, e]
  simp only [bS]
  rw [psn (by omega)]
  congr 1
  rw [Bool.eq_iff_iff]
  simp
  omega
theorem identNo {K : Nat} {T : List Int} (hp : 0 < T.length) (h : consumeIdentToken.f K (T ++ [0]) 0 0 = some (false, 0)) : identF K T = some false := by
  unfold identF
  rw [h]
  simp only [bS]
  rw [show ps 0 0 = 0 from by unfold ps wrap64; omega]
  congr 1
  rw [beq_eq_false_iff_ne]
  omega
theorem pk00 {T : List Int} (hl : T.length < 1099511627000) : pk (T ++ [0]) 0 0 = some (T.getD 0 0) := pk0 (q := 0) (by omega) (by omega)
theorem mv01 : mv 0 1 = ((1 : Nat) : Int) := by unfold mv wrap64; omega
theorem mv11 : mv ((1 : Nat) : Int) 1 = ((2 : Nat) : Int) := by unfold mv wrap64; omega
theorem rwd00 : rwd 0 (ps 0 0) = 0 := by unfold rwd ps wrap64; omega
/-- The lexer's start at p. -/
def startL (K : Nat) (T : List Int) (p : Nat) : Option ((Bool × Int) ⊕ Int) :=
  if (!sisStart.f (T.getD p 0)) = true then ((if (T.getD p 0 == 92) = true then ((consumeEscape.f K (T ++ [0]) p 0).bind fun (t120, p121) =>
some (!t120, p121)) else
some (true, (p : Int))).bind fun (b124, p125) =>
if b124 = true then (outS (some (false, 0))) else
some (.inr p125)) else
some (.inr (mv p 1))
/-- The start that both read at p (0, or 1 behind a hyphen). -/
theorem start_law {K k : Nat} {T : List Int} (p : Nat) (hT : isU8 T) (hl : T.length < 1099511627000) (hK : T.length + 20 ≤ K) (hk : T.length + 10 ≤ k) (hpl : p < T.length) (hU : hasB T 92 = true → Utf8 T) (o : Bool)
    (hopen : ¬ (T.getD p 0 = 92 ∧ T.length ≤ p + 1)) (q' : Nat) (hq' : q' ≤ T.length) (hs : sname.l0 K T (k + 1) p o = some ((q' : Int), false))
    (hf : consumeIdentToken.f K (T ++ [0]) 0 0 = (startL K T p).bind fun o => joinS o some fun p129 => (consumeIdentToken.l0 K (T ++ [0]) 0 K p129).bind fun p168 => some (true, p168)) :
    identF K T = some ((sisStart.f (T.getD p 0) || (escs T p o).1) && decide (T.length ≤ q')) := by
  unfold startL at hf
  by_cases h1 : sisStart.f (T.getD p 0) = true
  · rw [h1] at hf ⊢
    rw [if_neg (by decide)] at hf
    simp only [bS, joinS] at hf
    rw [mv1 (by omega)] at hf
    rw [sname_name hl hpl (name_of_start h1)] at hs
    obtain ⟨q2, o2, e, _, _, h3⟩ := name_law hT hl (by omega : T.length + 10 ≤ K) (T.length - (p + 1)) k (p + 1) o (by omega) (by omega) (by omega)
    rw [hs] at e
    have e := Option.some.inj e
    have e1 := congrArg Prod.fst e
    have e2 := congrArg Prod.snd e
    dsimp only at e1 e2
    obtain rfl : q' = q2 := by omega
    rw [identTail (p := p + 1) (by omega) hq' hl ((h3 e2.symm).2 hU K (by omega)) (m := none) hf]
    simp
  · have h1f := Bool.eq_false_iff.mpr h1
    rw [h1f] at hf ⊢
    rw [if_pos (by decide)] at hf
    by_cases h9 : T.getD p 0 = 92
    · have hpn : p + 1 < T.length := by
        rcases Nat.lt_or_ge (p + 1) T.length with h' | h'
        · exact h'
        · exact absurd ⟨h9, h'⟩ hopen
      rw [if_pos (by simpa using h9), consumeEscape_eq (hU (has92 hpl h9)) hl (by omega) hpl h9 hpn] at hf
      unfold escs
      rw [if_pos h9, if_neg (by omega)]
      by_cases hn : isNl (T.getD (p + 1) 0) = true
      · rw [if_pos hn] at hf
        simp only [bS, Bool.not_false, if_true] at hf
        rw [identNo (by omega) hf, hn]
        rfl
      · rw [if_neg hn] at hf
        have hnf := Bool.eq_false_iff.mpr hn
        simp only [bS, Bool.not_true, Bool.false_eq_true, if_false, joinS] at hf
        have hle := escAt_le hpn
        rw [sname_esc hT hl (by omega) hpn h9 hnf] at hs
        obtain ⟨q2, o2, e, _, _, h3⟩ := name_law hT hl (by omega : T.length + 10 ≤ K) (T.length - escAt T p) k (escAt T p) (if isHex (T.getD (p + 1) 0) = true ∧ T.getD (hexrun T 6 (p + 1)) 0 = 13 then true else o) (by omega) (by omega) (by omega)
        rw [hs] at e
        have e := Option.some.inj e
        have e1 := congrArg Prod.fst e
        have e2 := congrArg Prod.snd e
        dsimp only at e1 e2
        obtain rfl : q' = q2 := by omega
        rw [identTail (p := escAt T p) (by omega) hq' hl ((h3 e2.symm).2 hU K (by omega)) (m := none) hf, hnf]
        simp
    · rw [if_neg (by simpa using h9)] at hf
      simp only [bS, if_true] at hf
      rw [identNo (by omega) hf]
      unfold escs
      rw [if_neg h9]
      rfl
theorem ident_start {K : Nat} {T : List Int} (hl : T.length < 1099511627000) (h0 : 0 < T.length) (h1 : T.getD 0 0 = 45 → T.getD 1 0 ≠ 45) :
    consumeIdentToken.f K (T ++ [0]) 0 0 = (startL K T (if T.getD 0 0 = 45 then 1 else 0)).bind fun o => joinS o some fun p129 => (consumeIdentToken.l0 K (T ++ [0]) 0 K p129).bind fun p168 => some (true, p168) := by
  unfold consumeIdentToken.f startL
  rw [pk00 hl]
  simp only [bS]
  by_cases h : T.getD 0 0 = 45
  · rw [if_pos (by simpa using h), mv01, pk0 (by omega) (by omega), if_pos h]
    simp only [bS]
    rw [if_neg (by simpa using h1 h)]
    simp only [bS]
    rw [if_neg (by decide), pk0 (by omega) (by omega)]
    simp only [bS, start_eq, rwd00]
  · rw [if_neg (by simpa using h), if_neg h]
    simp only [bS]
    rw [if_neg (by decide), pk00 hl]
    simp only [bS, start_eq, rwd00]
    rfl
theorem ident_law {T : List Int} (hT : isU8 T) (hl : T.length < 1099511627000) : ∃ r k, identSpec (T.length + 20) T = some (r, k) ∧ (k = true → T.length ≤ 5000 → 0 < T.length → (hasB T 92 = true → Utf8 T) → identF (T.length + 20) T = some r) := by
  unfold identSpec
  rw [id0]
  simp only [bS]
  generalize ht : (if T.getD 0 0 = 45 then (sisStart.f (T.getD 1 0) || (escs T 1 false).1, if sisStart.f (T.getD 1 0) = true then (T.getD 1 0 == 45 || false) else (escs T 1 (T.getD 1 0 == 45 || false)).2)
    else (sisStart.f (T.getD 0 0) || (escs T 0 false).1, if sisStart.f (T.getD 0 0) = true then false else (escs T 0 false).2)) = tp
  obtain ⟨t, o⟩ := tp
  dsimp only
  unfold sname.f
  obtain ⟨q', o', e, h1, h2, h3⟩ := name_law hT hl (by omega : T.length + 10 ≤ T.length + 20) T.length (T.length + 20) 0 o (by omega) (by omega) (by omega)
  have e' : sname.l0 (T.length + 20) T (T.length + 20) 0 o = some ((q' : Int), o') := e
  rw [e']
  simp only [bS, rovern]
  refine ⟨_, _, rfl, fun hk h5 h0 hU => ?_⟩
  have ho' : o' = false := by cases o' <;> simp_all
  obtain ⟨ho, -⟩ := h3 ho'
  subst ho ho'
  by_cases h45 : T.getD 0 0 = 45
  · rw [if_pos h45] at ht
    have ht1 := congrArg Prod.fst ht
    have ht2 := congrArg Prod.snd ht
    dsimp only at ht1 ht2
    have hne : T.getD 1 0 ≠ 45 := by
      intro h
      rw [h] at ht2
      simp only [show sisStart.f 45 = false from by decide, Bool.false_eq_true, if_false] at ht2
      unfold escs at ht2
      rw [if_neg (by rw [h]; decide)] at ht2
      cases ht2
    have hs := ident_start (K := T.length + 20) hl h0 (fun _ => hne)
    rw [if_pos h45] at hs
    by_cases h1n : 1 < T.length
    · have hopen : ¬ (T.getD 1 0 = 92 ∧ T.length ≤ 1 + 1) := by
        rintro ⟨h9, hh⟩
        rw [h9] at ht2
        simp only [show sisStart.f 92 = false from by decide, Bool.false_eq_true, if_false] at ht2
        unfold escs at ht2
        rw [if_pos h9, if_pos hh] at ht2
        cases ht2
      have e2 : sname.l0 (T.length + 20) T (T.length + 19) ((0 + 1 : Nat) : Int) false = some ((q' : Int), false) := by
        rw [← sname_name hl h0 (by rw [h45]; decide)]
        exact e
      rw [start_law (k := T.length + 18) 1 hT hl (by omega) (by omega) h1n hU false hopen q' h2 e2 hs, ← ht1]
    · have e1 : T.getD 1 0 = 0 := getD_big (by omega)
      have : consumeIdentToken.f (T.length + 20) (T ++ [0]) 0 0 = some (false, 0) := by
        rw [hs]
        unfold startL
        rw [e1, if_pos (by decide), if_neg (by decide)]
        simp only [bS, if_true]
        rfl
      rw [identNo h0 this, ← ht1, e1]
      unfold escs
      rw [if_neg (by rw [e1]; decide)]
      rfl
  · rw [if_neg h45] at ht
    have ht1 := congrArg Prod.fst ht
    have ht2 := congrArg Prod.snd ht
    dsimp only at ht1 ht2
    have hs := ident_start (K := T.length + 20) hl h0 (fun h => absurd h h45)
    rw [if_neg h45] at hs
    have hopen : ¬ (T.getD 0 0 = 92 ∧ T.length ≤ 0 + 1) := by
      rintro ⟨h9, hh⟩
      rw [h9] at ht2
      simp only [show sisStart.f 92 = false from by decide, Bool.false_eq_true, if_false] at ht2
      unfold escs at ht2
      rw [if_pos h9, if_pos hh] at ht2
      cases ht2
    rw [start_law (k := T.length + 19) 0 hT hl (by omega) (by omega) h0 hU false hopen q' h2 e' hs, ← ht1]
end Go.Proofs.YteonakpgenkhkaaDoor
