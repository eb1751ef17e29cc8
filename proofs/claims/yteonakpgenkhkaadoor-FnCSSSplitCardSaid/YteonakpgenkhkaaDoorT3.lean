import Derived.Test.YteonakpgenkhkaaDoorT2
namespace Go.Proofs.YteonakpgenkhkaaDoor
open Go.RowKit
set_option linter.unusedVariables false
set_option linter.unusedSimpArgs false
theorem tokens_cases {T : List Int} {L : Told} {o : Bool} {w : World} {e : Ending} {w' : World} (h : TokensPost T L o w e w') :
    (∃ v, e = .returned (.tuple #[v, .bool false])) ∨ (∃ v, e = .returned (.tuple #[v, .bool true]) ∧ o = false ∧ hasB T 0 = false ∧ (hasB T 92 = true → Utf8 T)) := by
  rcases h.1 with h | ⟨v, P, base, he, h0, hU, _⟩
  · exact .inl h
  · cases o with
    | true => exact .inl ⟨v, he⟩
    | false => exact .inr ⟨v, he, rfl, h0, hU⟩
theorem cssl_len {K : Nat} {B : List Int} : ∀ (k : Nat) (p s : Int) (L L' : Told) (q : Int), cssl K B k p s L = some (L', q) → L'.length ≤ L.length + k
  | 0, p, s, L, L', q, h => by
    have := congrArg Prod.fst (Option.some.inj h)
    dsimp only at this
    rw [this]; omega
  | k + 1, p, s, L, L', q, h => by
    unfold cssl at h
    obtain ⟨⟨t, lo, hi, p', s'⟩, _, h⟩ := Option.bind_eq_some_iff.mp h
    dsimp only at h
    split at h
    · have := congrArg Prod.fst (Option.some.inj h)
      dsimp only at this
      rw [this]; omega
    · obtain ⟨n, _, h⟩ := Option.bind_eq_some_iff.mp h
      obtain ⟨D, _, h⟩ := Option.bind_eq_some_iff.mp h
      have := cssl_len k _ _ _ _ _ h
      simp at this
      omega
theorem cssF_len {N K : Nat} {T : List Int} {L : Told} {r : Bool} (h : cssF N K T = some (L, r)) : L.length ≤ N := by
  unfold cssF at h
  obtain ⟨⟨L', p⟩, e, h⟩ := Option.bind_eq_some_iff.mp h
  have := cssl_len N _ _ _ _ _ e
  have h2 := congrArg Prod.fst (Option.some.inj h)
  dsimp only at h2
  rw [← h2]
  simpa using this
theorem own_form {w : World} {base n : Nat} {v : Value} {xs : List Value} (h : w.ownsRow base 31 6 v n xs) : ∃ A c, v = .slice A n c := by
  obtain ⟨_, h⟩ := h
  rcases h with ⟨rfl, rfl⟩ | ⟨g, cap, cur, rfl, _⟩
  · exact ⟨_, _, rfl⟩
  · exact ⟨_, _, rfl⟩
theorem Src.grown {w w' : World} {v : Value} {m : Nat} {news : List Value} {row : Option Nat} (h : Src w v m news) (hg : w.grownBy w' row) (hne : ∀ g, v.ownBlock = some g → row ≠ some g) : Src w' v m news := h.keep fun g hl hv => hg.block g hl fun e => hne g hv e.symm
theorem told_seg {P P' : List Pc} {A C : Told} (h : P'.map Pc.told = A ++ (P.map Pc.told ++ C)) (i : Nat) (hi : i < P.length) : ∃ x y, P[i]? = some x ∧ P'[A.length + i]? = some y ∧ x.k = y.k ∧ x.D = y.D := by
  have := congrArg (·[A.length + i]?) h
  simp only [List.getElem?_map] at this
  rw [List.getElem?_append_right (by omega), show A.length + i - A.length = i by omega, List.getElem?_append_left (by simpa using hi), List.getElem?_map, List.getElem?_eq_getElem hi] at this
  obtain ⟨y, hy, e⟩ := Option.map_eq_some_iff.mp this
  exact ⟨_, y, List.getElem?_eq_getElem hi, hy, (congrArg Prod.fst e).symm, (congrArg Prod.snd e).symm⟩
theorem get_mid {P : List Pc} {L1 L2 : Told} {x : List Int × List Int} (h : P.map Pc.told = L1 ++ (x :: L2)) : ∃ z, P[L1.length]? = some z ∧ z.k = x.1 ∧ z.D = x.2 := by
  have := congrArg (·[L1.length]?) h
  simp only [List.getElem?_map] at this
  rw [List.getElem?_append_right (Nat.le_refl _), Nat.sub_self] at this
  obtain ⟨z, hz, e⟩ := Option.map_eq_some_iff.mp this
  exact ⟨z, hz, congrArg Prod.fst e, congrArg Prod.snd e⟩
set_option maxHeartbeats 16000000 in
set_option maxRecDepth 100000 in
theorem FnCSSSplit_calls (K N : Nat) (hK : Hd (K ≤ 1000000000)) (hN : Hd (N = 100000)) {w : World} {A1 A2 : Option Addr} {T1 T2 : List Int} {cp1 cp2 : Nat} {EA : Addr} (h0 : w.cell? ⟨0, 0, none⟩ = some (.iface 80 (.pointer (some EA)))) (hB1 : Bytes w A1 T1) (hB2 : Bytes w A2 T2) (hA1 : ∀ ad, A1 = some ad → ad.block < w.heap.size) (hA2 : ∀ ad, A2 = some ad → ad.block < w.heap.size) (hT1 : isU8 T1) (hT2 : isU8 T2) (hcp1 : T1.length ≤ cp1) (hcp2 : T2.length ≤ cp2) (hn1 : A1 = none → cp1 = 0) (hn2 : A2 = none → cp2 = 0) (hx : Lib.Utf8Tabs 1 2 w)
    (H : Hd (T1.length + T2.length ≤ 5000 → ∃ L1 q1 o1 L2 q2 o2, stoks K T1 K 0 false [] = some (L1, q1, o1) ∧ stoks K T2 K 0 false [] = some (L2, q2, o2) ∧
      (o1 = false → o2 = false → hasB T1 0 = false → (hasB T1 92 = true → Utf8 T1) → hasB T2 0 = false → (hasB T2 92 = true → Utf8 T2) →
        cssF N K T1 = some (L1, true) ∧ cssF N K T2 = some (L2, true) ∧ cssF N K (T1 ++ ([59] ++ T2)) = some (L1 ++ (([59], [59]) :: L2), true)))) :
    Calls Tryd.prog 5 #[.slice A1 T1.length cp1, .slice A2 T2.length cp2] w fun e w' => e = .returned (.bool true) ∧ Below w.heap.size w w' := by
  have H0 := Hd.mk h0
  have hb := World.block_lt_of_cell? _ _ h0
  have HB1 := Hd.mk hB1
  have HB2 := Hd.mk hB2
  have HA1 := Hd.mk hA1
  have HA2 := Hd.mk hA2
  have HX := Hd.mk hx
  have HN1 := Hd.mk hn1
  have HN2 := Hd.mk hn2
  clear h0 hB1 hB2 hA1 hA2 hx hn1 hn2
  go_enter Tryd.func5, Tryd.ntmps5
  by_cases hs : T1.length + T2.length ≤ 5000
  · have hz : decide (((2147483647 : Int)) < (T1.length : Int)) = false := by rw [decide_eq_false_iff_not]; omega
    have hz2 : ¬ (2147483647 < T1.length) := by omega
    have hz3 : ¬ ((2147483647 : Int) < (T1.length : Int)) := by omega
    have hy : decide (((2147483647 : Int)) < (T2.length : Int)) = false := by rw [decide_eq_false_iff_not]; omega
    have hy2 : ¬ (2147483647 < T2.length) := by omega
    have hy3 : ¬ ((2147483647 : Int) < (T2.length : Int)) := by omega
    have hu : decide (((5000 : Int)) < (T1.length : Int) + (T2.length : Int)) = false := by rw [decide_eq_false_iff_not]; omega
    have hu3 : ¬ ((5000 : Int) < (T1.length : Int) + (T2.length : Int)) := by omega
    obtain ⟨L1, q1, o1, L2, q2, o2, a1, a2, a3⟩ := H.out hs
    have HT1 := Hd.mk a1
    have HT2 := Hd.mk a2
    have HT3 := Hd.mk a3
    clear a1 a2 a3 H
    go_wp2_with fail
    refine (Tokens_calls K K hK HB1.out HA1.out hT1 hcp1 HX.out L1 q1 o1 HT1).mono ?_
    rintro e w1 hk1
    have H1 := Hd.mk hk1.2
    have hs1 := hk1.2.size
    have C1 := tokens_cases hk1
    clear hk1
    have HB2' := Hd.mk (HB2.out.below' H1.out)
    have HX' := Hd.mk (tabs_below HX.out H1.out)
    have HA2' : Hd (∀ ad, A2 = some ad → ad.block < w1.heap.size) := ⟨fun ad e => Nat.lt_of_lt_of_le (HA2.out ad e) hs1⟩
    -- the second text's tokens, whatever the first one's say
    have two : ∀ v, Calls Tryd.prog 11 #[.slice A2 T2.length cp2] w1 (fun e w' => (fun (_ : Value) => TokensPost T2 L2 o2 w1 e w') v) := fun v => Tokens_calls K K hK HB2'.out HA2'.out hT2 hcp2 HX'.out L2 q2 o2 HT2
    have TWO := Hd.mk two
    clear two
    rcases C1 with ⟨v1, rfl⟩ | ⟨v1, rfl, rfl, hz1, hu1⟩
    · go_wp2_with fail
      refine (TWO.out .nilIface).mono ?_
      rintro e w2 hk2
      have H2 := Hd.mk hk2.2
      have C2 := tokens_cases hk2
      clear hk2
      rcases C2 with ⟨v2, rfl⟩ | ⟨v2, rfl, _⟩
      all_goals
        go_wp2_with fail
        go_ret
        exact ⟨rfl, H1.out.trans (H2.out.mono hs1)⟩
    · have HZ1 := Hd.mk hz1
      have HU1 := Hd.mk hu1
      clear hz1 hu1
      go_wp2_with fail
      refine (TWO.out .nilIface).mono ?_
      rintro e w2 hk2
      have H2 := Hd.mk hk2.2
      have hs2 := hk2.2.size
      have C2 := tokens_cases hk2
      clear hk2
      rcases C2 with ⟨v2, rfl⟩ | ⟨v2, rfl, rfl, hz2', hu2'⟩
      · go_wp2_with fail
        go_ret
        exact ⟨rfl, H1.out.trans (H2.out.mono hs1)⟩
      obtain ⟨f1, f2, f3⟩ := HT3.out (by simp) (by simp) HZ1.out HU1.out hz2' hu2'
      have HF1 := Hd.mk f1
      have HF2 := Hd.mk f2
      have HF3 := Hd.mk f3
      clear f1 f2 f3 hz2' hu2' HT3 HT1 HT2 HZ1 HU1
      have HM2 := Hd.mk (H1.out.trans (H2.out.mono hs1))
      have hsm := HM2.out.size
      have HB1b := Hd.mk (HB1.out.below' HM2.out)
      have HB2b := Hd.mk (HB2.out.below' HM2.out)
      clear H1 H2 HB2' HX' HA2' TWO
      -- the last byte of the first text
      have last : (T1.length = 0) ∨ (0 < T1.length ∧ ∃ b off, A1 = some ⟨b, off, none⟩ ∧ w2.cell? ⟨b, off + (T1.length - 1), none⟩ = some (.int .u8 (T1.getD (T1.length - 1) 0))) := by
        rcases Nat.eq_zero_or_pos T1.length with h | h
        · exact .inl h
        · obtain ⟨b, off, rfl, hc⟩ := HB1b.out.cells h
          exact .inr ⟨h, b, off, rfl, hc _ (by omega)⟩
      have LAST := Hd.mk last
      clear last
      -- from the lexing on
      go_upto_region 7 with fail
      go_cut [63] (fun v63 w' => ∃ b : Bool, v63 = .bool b ∧ w2 = w')
      case first =>
        rcases LAST.out with h | ⟨h, b, off, rfl, hc⟩
        · have hg1 : decide ((0 : Int) < (T1.length : Int)) = false := by rw [decide_eq_false_iff_not]; omega
          have hg2 : ¬ ((0 : Int) < (T1.length : Int)) := by omega
          have hg3 : ¬ (0 < T1.length) := by omega
          have Hh := Hd.mk h
          clear h
          go_wp2_with fail
          go_meet
          case rel => exact ⟨false, rfl, rfl⟩
        · have hg1 : decide ((0 : Int) < (T1.length : Int)) = true := by rw [decide_eq_true_iff]; omega
          have hg2 : (0 : Int) < (T1.length : Int) := by omega
          have hg4 : (1 : Int) ≤ (T1.length : Int) := by omega
          have hg5 : 1 ≤ T1.length := by omega
          generalize T1.getD (T1.length - 1) 0 = x at hc
          by_cases hx92 : (x == 92) = true
          · go_wp2_with fail
            go_meet
            case rel => exact ⟨true, rfl, rfl⟩
          · replace hx92 := Bool.eq_false_iff.mpr hx92
            go_wp2_with fail
            go_meet
            case rel => exact ⟨false, rfl, rfl⟩
      case rest =>
        obtain ⟨b, rfl, rfl⟩ := hcut
        cases b with
        | true =>
          go_wp2_with fail
          go_ret
          exact ⟨rfl, HM2.out⟩
        | false =>
          have h02 : Hd (w2.cell? ⟨0, 0, none⟩ = some (.iface 80 (.pointer (some EA)))) := ⟨(HM2.out.cell (p := ⟨0, 0, none⟩) hb).trans H0.out⟩
          go_wp2_with fail
          refine (CSS_calls K N hN h02.out HB1b.out (by omega) L1 true HF1).mono ?_
          rintro e w3 ⟨u1, P1, base1, rfl, hP1, hL1, b3⟩
          have HP1 := Hd.mk hP1
          have HL1 := Hd.mk hL1
          have HM3 := Hd.mk (HM2.out.trans (b3.mono hsm))
          have h03 : Hd (w3.cell? ⟨0, 0, none⟩ = some (.iface 80 (.pointer (some EA)))) := ⟨(HM3.out.cell (p := ⟨0, 0, none⟩) hb).trans H0.out⟩
          have HB1c := Hd.mk (HB1.out.below' HM3.out)
          have HB2c := Hd.mk (HB2.out.below' HM3.out)
          have hs3 := HM3.out.size
          clear hP1 hL1 b3 h02 HB1b HB2b
          go_wp2_with fail
          refine (CSS_calls K N hN h03.out HB2c.out (by omega) L2 true HF2).mono ?_
          rintro e w4 ⟨u2, P2, base2, rfl, hP2, hL2, b4⟩
          have HP1' := Hd.mk (HP1.out.below b4)
          have HP2 := Hd.mk hP2
          have HL2 := Hd.mk hL2
          have HM4 := Hd.mk (HM3.out.trans (b4.mono hs3))
          have h04 : Hd (w4.cell? ⟨0, 0, none⟩ = some (.iface 80 (.pointer (some EA)))) := ⟨(HM4.out.cell (p := ⟨0, 0, none⟩) hb).trans H0.out⟩
          have HB1d := Hd.mk (HB1.out.below' HM4.out)
          have HB2d := Hd.mk (HB2.out.below' HM4.out)
          have hs4 := HM4.out.size
          clear hP2 hL2 b4 h03 HB1c HB2c HP1
          have hcv := conv22g
          -- the join's parts
          have W5 : Hd (∀ W, W = ((w4.alloc (.cells #[.int .u8 59] 5 (1, 2))).alloc (.cells #[.slice A1 T1.length cp1, .slice (some ⟨w4.heap.size, 0, none⟩) 1 1, .slice A2 T2.length cp2] 22)) →
              Below w4.heap.size w4 W ∧ Calls Tryd.prog 13 #[.slice (some ⟨w4.heap.size + 1, 0, none⟩) 3 3] W (JoinPost (T1 ++ ([59] ++ T2)) W)) := ⟨by
            rintro W rfl
            refine ⟨((Below.refl _ _).alloc (Nat.le_refl _) _).alloc (by simp) _, ?_⟩
            have hB1' := (HB1d.out.alloc (.cells #[.int .u8 59] 5 (1, 2))).alloc (.cells #[.slice A1 T1.length cp1, .slice (some ⟨w4.heap.size, 0, none⟩) 1 1, .slice A2 T2.length cp2] 22)
            have hB2' := (HB2d.out.alloc (.cells #[.int .u8 59] 5 (1, 2))).alloc (.cells #[.slice A1 T1.length cp1, .slice (some ⟨w4.heap.size, 0, none⟩) 1 1, .slice A2 T2.length cp2] 22)
            have hBs := (lit_at (w := w4) (f := (1, 2)) rfl [59]).alloc (.cells #[.slice A1 T1.length cp1, .slice (some ⟨w4.heap.size, 0, none⟩) 1 1, .slice A2 T2.length cp2] 22)
            have := join5_calls (w := ((w4.alloc (.cells #[.int .u8 59] 5 (1, 2))).alloc (.cells #[.slice A1 T1.length cp1, .slice (some ⟨w4.heap.size, 0, none⟩) 1 1, .slice A2 T2.length cp2] 22))) (gp := w4.heap.size + 1) (PL := [(A1, T1, cp1), (some ⟨w4.heap.size, 0, none⟩, [59], 1), (A2, T2, cp2)]) (f := (0, 0))
              (by have := heap_new (w4.alloc (.cells #[.int .u8 59] 5 (1, 2))) (.cells #[.slice A1 T1.length cp1, .slice (some ⟨w4.heap.size, 0, none⟩) 1 1, .slice A2 T2.length cp2] 22); simpa [Part.val] using this)
              (by simp) (by
                intro x hx
                simp only [List.mem_cons, List.not_mem_nil, or_false] at hx
                rcases hx with rfl | rfl | rfl
                · refine ⟨hB1', fun ad e => by have := HA1.out ad e; simp; omega, fun e => ?_⟩
                  have e0 := HN1.out e
                  exact ⟨List.eq_nil_of_length_eq_zero (by show T1.length = 0; omega), e0⟩
                · exact ⟨hBs, fun ad e => by cases e; simp only [World.size_alloc]; show w4.heap.size < _; omega, fun e => by cases e⟩
                · refine ⟨hB2', fun ad e => by have := HA2.out ad e; simp; omega, fun e => ?_⟩
                  have e0 := HN2.out e
                  exact ⟨List.eq_nil_of_length_eq_zero (by show T2.length = 0; omega), e0⟩)
              (by simp; omega)
            simpa using this⟩
          go_wp2_with fail
          refine ((W5.out _ rfl).2).mono ?_
          rintro e w6 ⟨⟨AJ, cJ, rfl, hBJ, hcJ, hAJ⟩, b6⟩
          have k5 := (W5.out _ rfl).1
          have k6 := Hd.mk (k5.trans (b6.mono k5.size))
          have HBJ := Hd.mk hBJ
          have HP1b := Hd.mk (HP1'.out.below k6.out)
          have HP2b := Hd.mk (HP2.out.below k6.out)
          have HM6 := Hd.mk (HM4.out.trans (k6.out.mono hs4))
          have h06 : Hd (w6.cell? ⟨0, 0, none⟩ = some (.iface 80 (.pointer (some EA)))) := ⟨(HM6.out.cell (p := ⟨0, 0, none⟩) hb).trans H0.out⟩
          have hs6 := HM6.out.size
          have hlJ : (T1 ++ ([59] ++ T2)).length ≤ 140737488355000 := by simp; omega
          clear hBJ hcJ hAJ b6 k5 W5 HP1' HP2 hcv h04 HB1d HB2d
          generalize hJ : T1 ++ ([59] ++ T2) = J at HF3 HBJ hlJ ⊢
          clear hJ
          go_wp2_with fail
          refine (CSS_calls K N hN h06.out HBJ.out hlJ _ true HF3).mono ?_
          rintro e w7 ⟨u3, P3, base3, rfl, hP3, hL3, b7⟩
          have HP1c := Hd.mk (HP1b.out.below b7)
          have HP2c := Hd.mk (HP2b.out.below b7)
          have HP3 := Hd.mk hP3
          have HL3 := Hd.mk hL3
          have HM7 := Hd.mk (HM6.out.trans (b7.mono hs6))
          clear hP3 hL3 b7 h06 HP1b HP2b HBJ
          have hlen1 : L1.length = P1.length := by rw [← HL1.out, List.length_map]
          have hlen2 : L2.length = P2.length := by rw [← HL2.out, List.length_map]
          have hlen3 : P3.length = P1.length + 1 + P2.length := by
            have := congrArg List.length HL3.out
            simp only [List.length_map, List.length_append, List.length_cons] at this
            omega
          have hl1 : P1.length ≤ 100000 := by have := cssF_len HF1.out; have := hN.out; omega
          have hl2 : P2.length ≤ 100000 := by have := cssF_len HF2.out; have := hN.out; omega
          obtain ⟨zc, hz3, hzk, hzD⟩ := get_mid HL3.out
          rw [hlen1] at hz3
          obtain ⟨kz, Az, Dz, cz⟩ := zc
          dsimp only at hzk hzD
          subst hzk
          have R1 := Hd.mk HP1c.out.rows
          have R2 := Hd.mk HP2c.out.rows
          have R3 := Hd.mk HP3.out.rows
          have S1 := Hd.mk HP1c.out.src
          obtain ⟨A9, c9, rfl, _, f9⟩ := R1.out.form
          obtain ⟨A11, c11, rfl, _, f11⟩ := R2.out.form
          obtain ⟨A13, c13, rfl, _, f13⟩ := R3.out.form
          obtain ⟨g3, rfl, hg3, f3⟩ := f13 (by omega)
          have F9 := Hd.mk f9
          have F11 := Hd.mk f11
          have F3 := Hd.mk f3
          have HZ3 := Hd.mk hz3
          have d0 : w7.cell? ⟨g3, P1.length * 6, none⟩ = some (.string ⟨#[59]⟩) := f3 P1.length 0 _ (by decide) (by rw [hz3]; rfl)
          have d1 : w7.cell? ⟨g3, P1.length * 6 + 1, none⟩ = some (.slice Az Dz.length cz) := f3 P1.length 1 _ (by decide) (by rw [hz3]; rfl)
          have d2 : w7.cell? ⟨g3, P1.length * 6 + 2, none⟩ = some (.slice none 0 0) := f3 P1.length 2 _ (by decide) (by rw [hz3]; rfl)
          have d3 : w7.cell? ⟨g3, P1.length * 6 + 3, none⟩ = some (.slice none 0 0) := f3 P1.length 3 _ (by decide) (by rw [hz3]; rfl)
          have d4 : w7.cell? ⟨g3, P1.length * 6 + 4, none⟩ = some (.slice none 0 0) := f3 P1.length 4 _ (by decide) (by rw [hz3]; rfl)
          have d5 : w7.cell? ⟨g3, P1.length * 6 + 5, none⟩ = some (.string ⟨#[]⟩) := f3 P1.length 5 _ (by decide) (by rw [hz3]; rfl)
          have hq1 : ((P3.length : Int) != (P1.length : Int) + 1 + (P2.length : Int)) = false := by simp [hlen3]
          have hq2 : ((P3.length : Int) == (P1.length : Int) + 1 + (P2.length : Int)) = true := by simp [hlen3]
          have hq3 : P1.length < P3.length := by omega
          have hq4 : (P1.length : Int) < (P3.length : Int) := by omega
          have HLEN3 := Hd.mk hlen3
          have HZD := Hd.mk hzD
          clear f9 f11 f13 f3 hz3 HP1c HP2c HP3 hlen1 hlen2 hlen3 hzD HF1 HF2 HF3
          have D6 : Hd (∀ W, Kp w7 W → W.cell? ⟨g3, P1.length * 6, none⟩ = some (.string ⟨#[59]⟩) ∧ W.cell? ⟨g3, P1.length * 6 + 1, none⟩ = some (.slice Az Dz.length cz) ∧ W.cell? ⟨g3, P1.length * 6 + 2, none⟩ = some (.slice none 0 0) ∧ W.cell? ⟨g3, P1.length * 6 + 3, none⟩ = some (.slice none 0 0) ∧ W.cell? ⟨g3, P1.length * 6 + 4, none⟩ = some (.slice none 0 0) ∧ W.cell? ⟨g3, P1.length * 6 + 5, none⟩ = some (.string ⟨#[]⟩)) :=
            ⟨fun W k => ⟨(Below.cell k (p := ⟨g3, _, none⟩) hg3).trans d0, (Below.cell k (p := ⟨g3, _, none⟩) hg3).trans d1, (Below.cell k (p := ⟨g3, _, none⟩) hg3).trans d2, (Below.cell k (p := ⟨g3, _, none⟩) hg3).trans d3, (Below.cell k (p := ⟨g3, _, none⟩) hg3).trans d4, (Below.cell k (p := ⟨g3, _, none⟩) hg3).trans d5⟩⟩
          go_upto_region 14 with fail
          have hb1 : 0 + P1.length ≤ 1000000000 := by omega
          have hb9 : 0 + P1.length + 1 ≤ 1000000000 := by omega
          have ONE9 : Hd (∀ u ∈ Pc.cells ⟨[59], Az, Dz, cz⟩, u.oneCell' = true) := ⟨by intro u hu; simp [Pc.cells] at hu; rcases hu with rfl | rfl | rfl | rfl <;> rfl⟩
          have ne2 : ∀ g, (Value.slice (some ⟨w7.heap.size + 1, 0, none⟩) 1 1).ownBlock = some g → (Value.slice (some ⟨w7.heap.size, 0, none⟩) 0 0).ownBlock ≠ some g := by
            intro g e; cases e; simp [Value.ownBlock]
          have ne3 : ∀ g, (Value.slice (some ⟨w7.heap.size, 0, none⟩) 1 1).ownBlock = some g → (Value.slice (some ⟨w7.heap.size + 1, 0, none⟩) 0 0).ownBlock ≠ some g := by
            intro g e; cases e; simp [Value.ownBlock]
          go_cut [111, 112, 113] (fun v111 v112 v113 w' => ∃ (A : Option Addr) (c : Nat), v111 = .slice A (P1.length + 1) c ∧ v112 = .int .i64 ((P1.length + 1 : Nat) : Int) ∧ v113 = .int .i64 0 ∧ Hd (Rows' w' (.slice A (P1.length + 1) c) (P1 ++ [⟨[59], Az, Dz, cz⟩])) ∧ Hd (Kp w7 w'))
          case first =>
            go_region_law (first
              | (refine step_app (v := .slice (some ⟨w7.heap.size, 0, none⟩) 0 0) (vx := .slice A9 P1.length c9) rfl (.tmp 102) (.tmp 103) rfl w7.heap.size 0 P1.length [] (P1.flatMap Pc.cells) rfl rfl (own_drew (own_made rfl (Nat.le_refl _))) (S1.out.kp (kp_drew (kp_alloc (kp_refl w7) (.cells #[] 31)))) (cells_len P1) (cells_one P1) hb1 (Below.size (kp_drew (kp_alloc (kp_refl w7) (.cells #[] 31)))) ?_; intro v1 w1 hown1 hgrow1; have kp1 : Kp w7 w1 := kp_grown (kp_drew (kp_alloc (kp_refl w7) (.cells #[] 31))) hgrow1 (fun k e => by cases e; exact Nat.le_refl _); obtain ⟨m0, m1, m2, m3, m4, m5⟩ := D6.out w1 kp1)
              | (refine step_app (v := .slice (some ⟨w7.heap.size, 0, none⟩) 0 0) (vx := .slice A9 P1.length c9) rfl (.tmp 102) (.tmp 103) rfl w7.heap.size 0 P1.length [] (P1.flatMap Pc.cells) rfl rfl (own_drew ((own_made rfl (Nat.le_refl _)).alloc (.cells #[.string ⟨#[59]⟩, .slice Az Dz.length cz, .slice none 0 0, .slice none 0 0, .slice none 0 0, .string ⟨#[]⟩] 31))) (S1.out.kp (kp_drew (kp_alloc (kp_alloc (kp_refl w7) (.cells #[] 31)) (.cells #[.string ⟨#[59]⟩, .slice Az Dz.length cz, .slice none 0 0, .slice none 0 0, .slice none 0 0, .string ⟨#[]⟩] 31)))) (cells_len P1) (cells_one P1) hb1 (Below.size (kp_drew (kp_alloc (kp_alloc (kp_refl w7) (.cells #[] 31)) (.cells #[.string ⟨#[59]⟩, .slice Az Dz.length cz, .slice none 0 0, .slice none 0 0, .slice none 0 0, .string ⟨#[]⟩] 31)))) ?_; intro v1 w1 hown1 hgrow1; have kp1 : Kp w7 w1 := kp_grown (kp_drew (kp_alloc (kp_alloc (kp_refl w7) (.cells #[] 31)) (.cells #[.string ⟨#[59]⟩, .slice Az Dz.length cz, .slice none 0 0, .slice none 0 0, .slice none 0 0, .string ⟨#[]⟩] 31))) hgrow1 (fun k e => by cases e; exact Nat.le_refl _); obtain ⟨m0, m1, m2, m3, m4, m5⟩ := D6.out w1 kp1)
              | (refine step_app (v := .slice (some ⟨w7.heap.size + 1, 0, none⟩) 0 0) (vx := .slice A9 P1.length c9) rfl (.tmp 102) (.tmp 103) rfl w7.heap.size 0 P1.length [] (P1.flatMap Pc.cells) rfl rfl (own_drew (own_made (w := w7.alloc (.cells #[.string ⟨#[59]⟩, .slice Az Dz.length cz, .slice none 0 0, .slice none 0 0, .slice none 0 0, .string ⟨#[]⟩] 31)) (World.size_alloc _ _) (Nat.le_succ _))) (S1.out.kp (kp_drew (kp_alloc (kp_alloc (kp_refl w7) (.cells #[.string ⟨#[59]⟩, .slice Az Dz.length cz, .slice none 0 0, .slice none 0 0, .slice none 0 0, .string ⟨#[]⟩] 31)) (.cells #[] 31)))) (cells_len P1) (cells_one P1) hb1 (Below.size (kp_drew (kp_alloc (kp_alloc (kp_refl w7) (.cells #[.string ⟨#[59]⟩, .slice Az Dz.length cz, .slice none 0 0, .slice none 0 0, .slice none 0 0, .string ⟨#[]⟩] 31)) (.cells #[] 31)))) ?_; intro v1 w1 hown1 hgrow1; have kp1 : Kp w7 w1 := kp_grown (kp_drew (kp_alloc (kp_alloc (kp_refl w7) (.cells #[.string ⟨#[59]⟩, .slice Az Dz.length cz, .slice none 0 0, .slice none 0 0, .slice none 0 0, .string ⟨#[]⟩] 31)) (.cells #[] 31))) hgrow1 (fun k e => by cases e; exact Nat.le_succ _); obtain ⟨m0, m1, m2, m3, m4, m5⟩ := D6.out w1 kp1)
              | (refine step_app (vx := .slice (some ⟨w1.heap.size, 0, none⟩) 1 1) rfl (.tmp 104) (.tmp 110) rfl w7.heap.size (0 + P1.length) 1 ([] ++ P1.flatMap Pc.cells) (Pc.cells ⟨[59], Az, Dz, cz⟩) _ rfl rfl (hown1.alloc (.cells #[.string ⟨#[59]⟩, .slice Az Dz.length cz, .slice none 0 0, .slice none 0 0, .slice none 0 0, .string ⟨#[]⟩] 31)) (src_new rfl rfl) rfl ONE9.out hb9 (Nat.le_trans (Nat.le_trans (Below.size (kp_drew (kp_alloc (kp_refl w7) (.cells #[] 31)))) hgrow1.size) (Nat.le_of_lt (by rw [World.size_alloc]; exact Nat.lt_succ_self _))) ?_; intro v2 w2 hown2 hgrow2; have kp2 : Kp w7 w2 := kp_grown (kp_alloc kp1 (.cells #[.string ⟨#[59]⟩, .slice Az Dz.length cz, .slice none 0 0, .slice none 0 0, .slice none 0 0, .string ⟨#[]⟩] 31)) hgrow2 (fun k e => (hown1.lt k e).1); obtain ⟨A15, c15, rfl⟩ := own_form hown2)
              | (refine step_app (vx := .slice (some ⟨w7.heap.size + 1, 0, none⟩) 1 1) rfl (.tmp 104) (.tmp 110) rfl w7.heap.size (0 + P1.length) 1 ([] ++ P1.flatMap Pc.cells) (Pc.cells ⟨[59], Az, Dz, cz⟩) _ rfl rfl (hown1) ((Src.drew (src_new (w := w7.alloc (.cells #[] 31)) (World.size_alloc _ _) rfl)).grown hgrow1 ne2) rfl ONE9.out hb9 (Nat.le_trans (Below.size (kp_drew (kp_alloc (kp_alloc (kp_refl w7) (.cells #[] 31)) (.cells #[.string ⟨#[59]⟩, .slice Az Dz.length cz, .slice none 0 0, .slice none 0 0, .slice none 0 0, .string ⟨#[]⟩] 31)))) hgrow1.size) ?_; intro v2 w2 hown2 hgrow2; have kp2 : Kp w7 w2 := kp_grown (kp1) hgrow2 (fun k e => (hown1.lt k e).1); obtain ⟨A15, c15, rfl⟩ := own_form hown2)
              | (refine step_app (vx := .slice (some ⟨w7.heap.size, 0, none⟩) 1 1) rfl (.tmp 104) (.tmp 110) rfl w7.heap.size (0 + P1.length) 1 ([] ++ P1.flatMap Pc.cells) (Pc.cells ⟨[59], Az, Dz, cz⟩) _ rfl rfl (hown1) ((Src.drew ((src_new (w := w7) rfl rfl).alloc (.cells #[] 31))).grown hgrow1 ne3) rfl ONE9.out hb9 (Nat.le_trans (Below.size (kp_drew (kp_alloc (kp_alloc (kp_refl w7) (.cells #[.string ⟨#[59]⟩, .slice Az Dz.length cz, .slice none 0 0, .slice none 0 0, .slice none 0 0, .string ⟨#[]⟩] 31)) (.cells #[] 31)))) hgrow1.size) ?_; intro v2 w2 hown2 hgrow2; have kp2 : Kp w7 w2 := kp_grown (kp1) hgrow2 (fun k e => (hown1.lt k e).1); obtain ⟨A15, c15, rfl⟩ := own_form hown2))
            all_goals
              have HR15 : Hd (Rows' w2 (.slice A15 (P1.length + 1) c15) (P1 ++ [⟨[59], Az, Dz, cz⟩])) := ⟨by
                have e1 : (P1 ++ [(⟨[59], Az, Dz, cz⟩ : Pc)]).length = 0 + P1.length + 1 := by simp
                have e2 : (P1 ++ [(⟨[59], Az, Dz, cz⟩ : Pc)]).flatMap Pc.cells = [] ++ P1.flatMap Pc.cells ++ Pc.cells ⟨[59], Az, Dz, cz⟩ := by simp
                have := rows_own (w := w2) (base := w7.heap.size) (v := .slice A15 (0 + P1.length + 1) c15) (P := P1 ++ [⟨[59], Az, Dz, cz⟩]) (by rw [e1, e2]; exact hown2) (fun x hx => by
                  rcases List.mem_append.mp hx with hx | hx
                  · exact (R1.out.dat x hx).below' kp2
                  · obtain rfl := List.mem_singleton.mp hx
                    exact (R3.out.dat _ (List.mem_of_getElem? HZ3.out)).below' kp2)
                rwa [Nat.zero_add] at this⟩
              have HK15 := Hd.mk kp2
              clear hown1 hown2 hgrow1 hgrow2 kp1 kp2 D6 ONE9
              go_simp
              go_wp2_with fail
              go_meet
              case rel => exact ⟨A15, c15, by simp, by simp, rfl, HR15, HK15⟩
          case rest =>
            obtain ⟨A14, c14, rfl, rfl, rfl, gR, gK⟩ := hcut
            obtain ⟨wz, rfl⟩ : ∃ wo : World, wo = wc := ⟨_, rfl⟩
            have HTL : Hd (P3.map Pc.told = [] ++ ((P1 ++ [(⟨[59], Az, Dz, cz⟩ : Pc)]).map Pc.told ++ P2.map Pc.told)) := ⟨by
              rw [HL3.out, HL2.out]
              simp [HL1.out, Pc.told, HZD.out]⟩
            have HTL2 : Hd (P3.map Pc.told = (L1 ++ [([59], [59])]) ++ (P2.map Pc.told ++ [])) := ⟨by
              rw [HL3.out, HL2.out]
              simp⟩
            have HL1n : Hd (L1.length = P1.length) := ⟨by rw [← HL1.out, List.length_map]⟩
            have R3c := Hd.mk (R3.out.below gK.out)
            have R2c := Hd.mk (R2.out.below gK.out)
            have hsc := gK.out.size
            have HMc := Hd.mk (HM7.out.trans (gK.out.mono HM7.out.size))
            clear d0 d1 d2 d3 d4 d5 D6 F3 F9 F11 R1 R2 R3 S1 hb1 hb9 ONE9 ne2 ne3 HZ3
            obtain ⟨A', c', e14, _, f14⟩ := gR.out.form
            simp only [Value.slice.injEq] at e14
            obtain ⟨g14, hA14, hg14, f14⟩ := f14 (by simp)
            have hA14' : A14 = some ⟨g14, 0, none⟩ := e14.1.trans hA14
            subst hA14'
            have F14 := Hd.mk f14
            obtain ⟨A', c', e13, _, f13⟩ := R3c.out.form
            simp only [Value.slice.injEq] at e13
            obtain ⟨g13, hA13, hg13, f13⟩ := f13 (by have := HLEN3.out; omega)
            have hA13' : g13 = g3 := by
              have := e13.1.trans hA13
              simp only [Option.some.injEq, Addr.mk.injEq] at this
              exact this.1.symm
            subst hA13'
            have F13 := Hd.mk f13
            have R2d := Hd.mk R2c.out.form
            clear f14 f13 e13 e14 hA13 hA14
            go_upto_block 0 with fail
            go_cut [] (fun w' => Hd (Below wz.heap.size wz w'))
            case first =>
              go_wp2_with fail
              go_loopg [113] (P1.length + 1) (fun gk v113 w' => ∃ i : Nat, v113 = .int .i64 i ∧ Hd (i + gk = P1.length + 1) ∧ Hd (Below wz.heap.size wz w'))
              case atStart => exact ⟨0, rfl, ⟨by omega⟩, ⟨Below.refl _ _⟩⟩
              case round =>
                obtain ⟨i, rfl, HK, HBr⟩ := hrel
                cases gk with
                | zero =>
                  have hi : i = P1.length + 1 := by have := HK.out; omega
                  subst hi
                  go_wp2_with fail
                  go_meet
                  case rel => exact HBr
                | succ gk =>
                  have hi : i < P1.length + 1 := by have := HK.out; omega
                  have hil : (i : Int) < ((P1.length + 1 : Nat) : Int) := by omega
                  have hil2 : (i : Int) < (P1.length : Int) + 1 := by omega
                  have hi3 : i < P3.length := by have := HLEN3.out; omega
                  have hil3 : (i : Int) < (P3.length : Int) := by omega
                  obtain ⟨x, y, hx1, hy1, hk, hD⟩ := told_seg HTL.out i (by simp; omega)
                  rw [List.length_nil, Nat.zero_add] at hy1
                  have g0 : wr.cell? ⟨g14, i * 6, none⟩ = some (.string (bstr x.k)) := (HBr.out.cell (p := ⟨g14, i * 6, none⟩) hg14).trans (F14.out i 0 _ (by decide) (by rw [hx1]; rfl))
                  have g1 : wr.cell? ⟨g14, i * 6 + 1, none⟩ = some (.slice x.A x.D.length x.c) := (HBr.out.cell (p := ⟨g14, i * 6 + 1, none⟩) hg14).trans (F14.out i 1 _ (by decide) (by rw [hx1]; rfl))
                  have g2 : wr.cell? ⟨g14, i * 6 + 2, none⟩ = some (.slice none 0 0) := (HBr.out.cell (p := ⟨g14, i * 6 + 2, none⟩) hg14).trans (F14.out i 2 _ (by decide) (by rw [hx1]; rfl))
                  have g3 : wr.cell? ⟨g14, i * 6 + 3, none⟩ = some (.slice none 0 0) := (HBr.out.cell (p := ⟨g14, i * 6 + 3, none⟩) hg14).trans (F14.out i 3 _ (by decide) (by rw [hx1]; rfl))
                  have g4 : wr.cell? ⟨g14, i * 6 + 4, none⟩ = some (.slice none 0 0) := (HBr.out.cell (p := ⟨g14, i * 6 + 4, none⟩) hg14).trans (F14.out i 4 _ (by decide) (by rw [hx1]; rfl))
                  have g5 : wr.cell? ⟨g14, i * 6 + 5, none⟩ = some (.string ⟨#[]⟩) := (HBr.out.cell (p := ⟨g14, i * 6 + 5, none⟩) hg14).trans (F14.out i 5 _ (by decide) (by rw [hx1]; rfl))
                  have q0 : wr.cell? ⟨g13, i * 6, none⟩ = some (.string (bstr x.k)) := (HBr.out.cell (p := ⟨g13, i * 6, none⟩) hg13).trans (F13.out i 0 _ (by decide) (by rw [hy1, hk]; rfl))
                  have q1 : wr.cell? ⟨g13, i * 6 + 1, none⟩ = some (.slice y.A x.D.length y.c) := (HBr.out.cell (p := ⟨g13, i * 6 + 1, none⟩) hg13).trans (F13.out i 1 _ (by decide) (by rw [hy1, hD]; rfl))
                  have hBx := (gR.out.dat x (List.mem_of_getElem? hx1)).below' HBr.out
                  have hBy := (R3c.out.dat y (List.mem_of_getElem? hy1)).below' HBr.out
                  rw [← hD] at hBy
                  have C0 := Hd.mk (fun (o : Obj) n => Same_calls (w := (wr.alloc o).drewN n) (c := x.c) (c' := y.c) ((hBx.alloc o).of_block fun _ _ _ => rfl) ((hBy.alloc o).of_block fun _ _ _ => rfl))
                  have hgs : g14 < wr.heap.size := by have := HBr.out.size; omega
                  have hds : g13 < wr.heap.size := by have := HBr.out.size; omega
                  clear hBx hBy hx1 hy1 hk hD hi
                  have HBn := Hd.mk (fun o => HBr.out.alloc HBr.out.size o)
                  clear HBr
                  have hkk : ((bstr x.k).toList == (bstr x.k).toList) = true := by simp
                  go_wp2_with fail
                  go_quiet (with_reducible exact Calls.quiet_of (C0.out _ _))
                  go_wp2_with fail
                  go_roundg gk
                  case measure => exact Nat.lt_succ_self _
                  case rel => exact ⟨i + 1, by go_num, ⟨by have := HK.out; omega⟩, ⟨(HBn.out _).frz' _ rfl rfl rfl rfl⟩⟩
            case rest =>
              have gB := hcut
              clear hcut
              have hsd := gB.out.size
              have R3d := Hd.mk (R3c.out.below gB.out)
              have R2e := Hd.mk (R2c.out.below gB.out)
              have HMd := Hd.mk (HMc.out.trans (gB.out.mono HMc.out.size))
              have F13d : Hd (∀ i j u, j < 6 → (P3[i]?).bind (fun x => x.cells[j]?) = some u → wc.cell? ⟨g13, i * 6 + j, none⟩ = some u) := ⟨fun i j u hj hu => (gB.out.cell (p := ⟨g13, i * 6 + j, none⟩) hg13).trans (F13.out i j u hj hu)⟩
              have hg13d : g13 < wc.heap.size := by omega
              obtain ⟨A', c', e11, _, f11⟩ := R2e.out.form
              simp only [Value.slice.injEq] at e11
              have F11d : Hd (0 < P2.length → ∃ g, A11 = some ⟨g, 0, none⟩ ∧ g < wc.heap.size ∧ ∀ i j u, j < 6 → (P2[i]?).bind (fun x => x.cells[j]?) = some u → wc.cell? ⟨g, i * 6 + j, none⟩ = some u) := ⟨by rw [e11.1]; exact f11⟩
              clear e11 f11 gB R3c R2c R2d F13 F14 hg14 hg13 HTL gR gK HMc
              go_wp2_with fail
              go_loopg [140] P2.length (fun gk v140 w' => ∃ i : Nat, v140 = .int .i64 i ∧ Hd (i + gk = P2.length) ∧ Hd (Below wc.heap.size wc w'))
              case atStart => exact ⟨0, rfl, ⟨by omega⟩, ⟨Below.refl _ _⟩⟩
              case round =>
                obtain ⟨i, rfl, HK, HBr⟩ := hrel
                cases gk with
                | zero =>
                  have hi : i = P2.length := by have := HK.out; omega
                  subst hi
                  go_wp2_with fail
                  go_ret
                  exact ⟨rfl, HMd.out.trans (HBr.out.mono HMd.out.size)⟩
                | succ gk =>
                  have hi : i < P2.length := by have := HK.out; omega
                  have hil : (i : Int) < (P2.length : Int) := by omega
                  have hi3 : P1.length + 1 + i < P3.length := by have := HLEN3.out; omega
                  have hil3 : (P1.length : Int) + 1 + (i : Int) < (P3.length : Int) := by omega
                  have hil4 : (0 : Int) ≤ (P1.length : Int) + 1 + (i : Int) := by omega
                  obtain ⟨x, y, hx1, hy1, hk, hD⟩ := told_seg HTL2.out i hi
                  rw [List.length_append, HL1n.out, List.length_singleton] at hy1
                  obtain ⟨g11, rfl, hg11, f11⟩ := F11d.out (by omega)
                  have g0 : wr.cell? ⟨g11, i * 6, none⟩ = some (.string (bstr x.k)) := (HBr.out.cell (p := ⟨g11, i * 6, none⟩) hg11).trans (f11 i 0 _ (by decide) (by rw [hx1]; rfl))
                  have g1 : wr.cell? ⟨g11, i * 6 + 1, none⟩ = some (.slice x.A x.D.length x.c) := (HBr.out.cell (p := ⟨g11, i * 6 + 1, none⟩) hg11).trans (f11 i 1 _ (by decide) (by rw [hx1]; rfl))
                  have g2 : wr.cell? ⟨g11, i * 6 + 2, none⟩ = some (.slice none 0 0) := (HBr.out.cell (p := ⟨g11, i * 6 + 2, none⟩) hg11).trans (f11 i 2 _ (by decide) (by rw [hx1]; rfl))
                  have g3 : wr.cell? ⟨g11, i * 6 + 3, none⟩ = some (.slice none 0 0) := (HBr.out.cell (p := ⟨g11, i * 6 + 3, none⟩) hg11).trans (f11 i 3 _ (by decide) (by rw [hx1]; rfl))
                  have g4 : wr.cell? ⟨g11, i * 6 + 4, none⟩ = some (.slice none 0 0) := (HBr.out.cell (p := ⟨g11, i * 6 + 4, none⟩) hg11).trans (f11 i 4 _ (by decide) (by rw [hx1]; rfl))
                  have g5 : wr.cell? ⟨g11, i * 6 + 5, none⟩ = some (.string ⟨#[]⟩) := (HBr.out.cell (p := ⟨g11, i * 6 + 5, none⟩) hg11).trans (f11 i 5 _ (by decide) (by rw [hx1]; rfl))
                  have q0 : wr.cell? ⟨g13, (P1.length + 1 + i) * 6, none⟩ = some (.string (bstr x.k)) := (HBr.out.cell (p := ⟨g13, (P1.length + 1 + i) * 6, none⟩) hg13d).trans (F13d.out (P1.length + 1 + i) 0 _ (by decide) (by rw [hy1, hk]; rfl))
                  have q1 : wr.cell? ⟨g13, (P1.length + 1 + i) * 6 + 1, none⟩ = some (.slice y.A x.D.length y.c) := (HBr.out.cell (p := ⟨g13, (P1.length + 1 + i) * 6 + 1, none⟩) hg13d).trans (F13d.out (P1.length + 1 + i) 1 _ (by decide) (by rw [hy1, hD]; rfl))
                  have q2 : wr.cell? ⟨g13, (P1.length + 1 + i) * 6 + 2, none⟩ = some (.slice none 0 0) := (HBr.out.cell (p := ⟨g13, (P1.length + 1 + i) * 6 + 2, none⟩) hg13d).trans (F13d.out (P1.length + 1 + i) 2 _ (by decide) (by rw [hy1]; rfl))
                  have q3 : wr.cell? ⟨g13, (P1.length + 1 + i) * 6 + 3, none⟩ = some (.slice none 0 0) := (HBr.out.cell (p := ⟨g13, (P1.length + 1 + i) * 6 + 3, none⟩) hg13d).trans (F13d.out (P1.length + 1 + i) 3 _ (by decide) (by rw [hy1]; rfl))
                  have q4 : wr.cell? ⟨g13, (P1.length + 1 + i) * 6 + 4, none⟩ = some (.slice none 0 0) := (HBr.out.cell (p := ⟨g13, (P1.length + 1 + i) * 6 + 4, none⟩) hg13d).trans (F13d.out (P1.length + 1 + i) 4 _ (by decide) (by rw [hy1]; rfl))
                  have q5 : wr.cell? ⟨g13, (P1.length + 1 + i) * 6 + 5, none⟩ = some (.string ⟨#[]⟩) := (HBr.out.cell (p := ⟨g13, (P1.length + 1 + i) * 6 + 5, none⟩) hg13d).trans (F13d.out (P1.length + 1 + i) 5 _ (by decide) (by rw [hy1]; rfl))
                  have hBx := (R2e.out.dat x (List.mem_of_getElem? hx1)).below' HBr.out
                  have hBy := (R3d.out.dat y (List.mem_of_getElem? hy1)).below' HBr.out
                  rw [← hD] at hBy
                  have C0 := Hd.mk (fun (o o' : Obj) => Same_calls (w := (wr.alloc o).alloc o') (c := x.c) (c' := y.c) ((hBx.alloc o).alloc o') ((hBy.alloc o).alloc o'))
                  have hgs : g11 < wr.heap.size := by have := HBr.out.size; omega
                  have hds : g13 < wr.heap.size := by have := HBr.out.size; omega
                  clear hBx hBy hx1 hy1 hk hD hi f11
                  have HBn := Hd.mk (fun o o' => (HBr.out.alloc HBr.out.size o).alloc (Nat.le_trans HBr.out.size (by simp)) o')
                  clear HBr
                  have hkk : ((bstr x.k).toList == (bstr x.k).toList) = true := by simp
                  go_wp2_with fail
                  refine (C0.out _ _).mono ?_
                  rintro e wq ⟨rfl, mq, rfl⟩
                  go_wp2_with fail
                  go_roundg gk
                  case measure => exact Nat.lt_succ_self _
                  case rel => exact ⟨i + 1, by go_num, ⟨by have := HK.out; omega⟩, ⟨(HBn.out _ _).frz' _ rfl rfl rfl rfl⟩⟩
  · clear H
    by_cases hn1 : T1.length ≤ 2147483647
    · have hz : decide (((2147483647 : Int)) < (T1.length : Int)) = false := by rw [decide_eq_false_iff_not]; omega
      have hz3 : ¬ ((2147483647 : Int) < (T1.length : Int)) := by omega
      by_cases hn2 : T2.length ≤ 2147483647
      · have hy : decide (((2147483647 : Int)) < (T2.length : Int)) = false := by rw [decide_eq_false_iff_not]; omega
        have hy3 : ¬ ((2147483647 : Int) < (T2.length : Int)) := by omega
        have hu : decide (((5000 : Int)) < (T1.length : Int) + (T2.length : Int)) = true := by rw [decide_eq_true_iff]; omega
        have hu3 : (5000 : Int) < (T1.length : Int) + (T2.length : Int) := by omega
        clear hs
        go_wp2_with fail
        go_ret
        exact ⟨rfl, Below.refl _ _⟩
      · have hy : decide (((2147483647 : Int)) < (T2.length : Int)) = true := by rw [decide_eq_true_iff]; omega
        have hy3 : (2147483647 : Int) < (T2.length : Int) := by omega
        clear hs hn1 hn2
        go_wp2_with fail
        go_ret
        exact ⟨rfl, Below.refl _ _⟩
    · have hz : decide (((2147483647 : Int)) < (T1.length : Int)) = true := by rw [decide_eq_true_iff]; omega
      have hz3 : (2147483647 : Int) < (T1.length : Int) := by omega
      clear hs hn1
      go_wp2_with fail
      go_ret
      exact ⟨rfl, Below.refl _ _⟩
end Go.Proofs.YteonakpgenkhkaaDoor
