import Derived.Test.YtfcedenofbefcaaGreatDoorP0
namespace Go.Proofs.YtfcedenofbefcaaGreatDoor
open Go.RowKit
set_option linter.unusedVariables false
set_option linter.unusedSimpArgs false
/-! Tokens held against those that are due. -/
set_option maxRecDepth 100000 in
theorem Same0_calls {w : World} {A A' : Option Addr} {c c' : Nat} {S : List Int} (h : Bytes w A S) (h' : Bytes w A' S) :
    Calls Tryz.prog 30 #[.slice A S.length c, .slice A' S.length c'] w fun e w' => e = .returned (.bool true) ∧ w = w' := by
  have C1 : (convert 25 9 (.slice A S.length c)).run Tryz.prog w = .ok (.string (bstr S)) w := conv_bytes h
  have C2 : (convert 25 9 (.slice A' S.length c')).run Tryz.prog w = .ok (.string (bstr S)) w := conv_bytes h'
  have hx : ((bstr S).toList == (bstr S).toList) = true := by simp
  go_enter Tryz.func30, Tryz.ntmps30
  go_wp2
  go_ret
  exact ⟨rfl, rfl⟩
theorem Same_calls {w : World} {A A' : Option Addr} {c c' : Nat} {S : List Int} (h : Bytes w A S) (h' : Bytes w A' S) :
    Calls Tryz.prog 30 #[.slice A S.length c, .slice A' S.length c'] w fun e w' => e = .returned (.bool true) ∧ ∃ m, w' = w.drewN m :=
  (Same0_calls h h').mono fun e w' ⟨h1, h2⟩ => ⟨h1, 0, by subst h2; cases w; rfl⟩
theorem IsBlank_calls {w : World} (c : Int) : Calls Tryz.prog 69 #[.int .u8 c] w fun e w' => e = .returned (.bool (isBl c)) ∧ w = w' := by
  unfold isBl
  go_enter Tryz.func69, Tryz.ntmps69
  cases e1 : (c == 32)
  · cases e2 : (c == 10)
    · cases e3 : (c == 13)
      · cases e4 : (c == 9)
        · cases e5 : (c == 12)
          all_goals
            go_wp2_with fail
            go_ret
            exact ⟨rfl, rfl⟩
        · go_wp2_with fail
          go_ret
          exact ⟨rfl, rfl⟩
      · go_wp2_with fail
        go_ret
        exact ⟨rfl, rfl⟩
    · go_wp2_with fail
      go_ret
      exact ⟨rfl, rfl⟩
  · go_wp2_with fail
    go_ret
    exact ⟨rfl, rfl⟩
/-- Where a slice begins without its first byte; where it begins without its blanks. -/
def stepA (A : Option Addr) (c : Nat) : Option Addr := if c = 1 then A else A.map (·.add 1)
def unblA : List Int → Option Addr → Nat → Option Addr × Nat
  | [], A, c => (A, c)
  | x :: T, A, c => if isBl x = true then unblA T (stepA A c) (c - 1) else (A, c)
theorem step_bytes {w : World} {A : Option Addr} {x : Int} {T : List Int} {c : Nat} (h : Bytes w A (x :: T)) (hc : (x :: T).length ≤ c) : Bytes w (stepA A c) T := by
  refine ⟨by have := h.len; simp at this; omega, fun h0 => ?_⟩
  obtain ⟨b, o, rfl, hh⟩ := h.cells (by simp)
  unfold stepA
  rw [if_neg (by simp at hc; omega)]
  refine ⟨b, o + 1, by simp [Addr.add], fun j hj => ?_⟩
  have := hh (j + 1) (by simpa using hj)
  rw [show o + 1 + j = o + (j + 1) by omega, this]
  simp
theorem cut1 (A : Option Addr) (n c : Nat) (h0 : 0 < n) (hc : n ≤ c) (w : World) : (Instr.sliceAt 25 (.slice A n c) (some (.int .i64 1)) none none).run Tryz.prog w = .ok (.slice (stepA A c) (n - 1) (c - 1)) w := by
  rw [run_sliceAt_slice w 25 _ _ _ _ Tryz.under25, run_slice_l w 25 A n c Tryz.under25 .i64 1 (by omega) (by omega), Tryz.size5]
  rfl
def kinds11 : List (List Int) := [kComment, kDoctype, kCDATA, kStartTag, kStartTagPI, kStartTagClose, kStartTagVoid, kStartTagClosePI, kEndTag, kAttribute, kText]
theorem kind_attr : ∀ k ∈ kinds11, ((bstr k).toList == [65, 116, 116, 114, 105, 98, 117, 116, 101]) = decide (k = kAttribute) := by decide +kernel
theorem kind_doc : ∀ k ∈ kinds11, ((bstr k).toList == [68, 111, 99, 116, 121, 112, 101]) = decide (k = kDoctype) := by decide +kernel
theorem kind_close : ∀ k ∈ kinds11, ((bstr k).toList == [83, 116, 97, 114, 116, 84, 97, 103, 67, 108, 111, 115, 101]) = decide (k = kStartTagClose) := by decide +kernel
theorem kind_void : ∀ k ∈ kinds11, ((bstr k).toList == [83, 116, 97, 114, 116, 84, 97, 103, 86, 111, 105, 100]) = decide (k = kStartTagVoid) := by decide +kernel
theorem kind_pi : ∀ k ∈ kinds11, ((bstr k).toList == [83, 116, 97, 114, 116, 84, 97, 103, 67, 108, 111, 115, 101, 80, 73]) = decide (k = kStartTagClosePI) := by decide +kernel
/-- Where the bytes of a token begin without the blanks of an attribute. -/
def unblK (k D : List Int) (A : Option Addr) (c : Nat) : Option Addr × Nat := if k = kAttribute then unblA D A c else (A, c)
theorem unblA_bytes {w : World} : ∀ (T : List Int) (A : Option Addr) (c : Nat), Bytes w A T → T.length ≤ c → Bytes w (unblA T A c).1 (T.dropWhile isBl)
  | [], A, c, h, _ => h
  | x :: T, A, c, h, hc => by
    unfold unblA
    rw [List.dropWhile_cons]
    split
    · exact unblA_bytes T _ _ (step_bytes h hc) (by simp at hc; omega)
    · exact h
theorem unblK_bytes {w : World} {k T : List Int} {A : Option Addr} {c : Nat} (h : Bytes w A T) (hc : T.length ≤ c) : Bytes w (unblK k T A c).1 (unbl k T) := by
  unfold unblK unbl
  split
  · exact unblA_bytes T A c h hc
  · exact h
set_option maxHeartbeats 4000000 in
set_option maxRecDepth 100000 in
theorem unblanked_calls {w : World} {A : Option Addr} {k T : List Int} {cp : Nat} (h : Bytes w A T) (hcp : T.length ≤ cp) (hk : k ∈ kinds11) :
    Calls Tryz.prog 31 #[.slice A T.length cp, .string (bstr k)] w fun e w' => e = .returned (.slice (unblK k T A cp).1 (unbl k T).length (unblK k T A cp).2) ∧ w = w' := by
  have hka := kind_attr k hk
  unfold unblK unbl
  by_cases ha : k = kAttribute
  · rw [if_pos ha, if_pos ha]
    rw [decide_eq_true ha] at hka
    have HH := Hd.mk (And.intro h hcp)
    clear h hcp hk ha
    go_enter Tryz.func31, Tryz.ntmps31
    go_wp2_with fail
    go_loopg [0] T.length (fun gk v0 w' => ∃ (T' : List Int) (A' : Option Addr) (c' : Nat), v0 = .slice A' T'.length c' ∧ Hd (T'.length ≤ gk ∧ unblA T' A' c' = unblA T A cp ∧ T'.dropWhile isBl = T.dropWhile isBl ∧ T'.length ≤ c' ∧ Bytes w A' T') ∧ w = w')
    case atStart => exact ⟨T, A, cp, rfl, ⟨Nat.le_refl _, rfl, rfl, HH.out.2, HH.out.1⟩, rfl⟩
    case round =>
      clear HH
      obtain ⟨T', A', c', rfl, HV, rfl⟩ := hrel
      cases T' with
      | nil =>
        have e1 := HV.out.2.1
        have e2 := HV.out.2.2.1
        have HE := Hd.mk (And.intro e1 e2)
        clear e1 e2
        simp only [List.length_nil]
        go_wp2_with fail
        go_ret
        refine ⟨?_, rfl⟩
        rw [← HE.out.1, ← HE.out.2]
        rfl
      | cons x S =>
        obtain ⟨h1, h2, h3, h4, h5⟩ := HV.out
        obtain ⟨b, o, rfl, hc⟩ := h5.cells (by simp)
        have hx := hc 0 (by simp)
        simp only [List.getD_cons_zero, Nat.add_zero] at hx
        have hl := h5.len
        have hs := step_bytes h5 h4
        generalize hn : (x :: S).length = n at h1 h4 hl ⊢
        simp only [List.length_cons] at hn
        have p0 : (0 : Int) < (n : Int) := by omega
        have p1 : decide ((0 : Int) < (n : Int)) = true := decide_eq_true p0
        have p2 : 0 < n := by omega
        have C1 := cut1 (some ⟨b, o, none⟩) n c' p2 h4
        have HE := Hd.mk (And.intro h2 (And.intro h3 (And.intro hs (And.intro hn (And.intro h1 h4)))))
        clear hc h2 h3 hs hn h1 h4 h5 HV
        go_wp2_with fail
        refine (IsBlank_calls x).mono ?_
        rintro e w' ⟨rfl, rfl⟩
        by_cases hb : isBl x = true
        · rw [hb]
          have HB := Hd.mk hb
          clear hb
          obtain ⟨gk', hgk⟩ : ∃ j, gk = j + 1 := ⟨gk - 1, by have := HE.out.2.2.2.2.1; omega⟩
          have HK := Hd.mk hgk
          clear hgk
          go_wp2_with fail
          go_roundg gk'
          case measure => have := HK.out; omega
          case rel =>
            obtain ⟨h2, h3, hs, hn, h1, h4⟩ := HE.out
            have hu : unblA (x :: S) (some ⟨b, o, none⟩) c' = unblA S (stepA (some ⟨b, o, none⟩) c') (c' - 1) := by rw [unblA, if_pos HB.out]
            have hd : (x :: S).dropWhile isBl = S.dropWhile isBl := by rw [List.dropWhile_cons, if_pos HB.out]
            refine ⟨S, stepA (some ⟨b, o, none⟩) c', c' - 1, by rw [show n - 1 = S.length by omega], ⟨by have := HK.out; omega, by rw [← h2, hu], by rw [← h3, hd], by omega, hs⟩, rfl⟩
        · replace hb := Bool.eq_false_iff.mpr hb
          rw [hb]
          have HB := Hd.mk hb
          clear hb
          go_wp2_with fail
          go_ret
          obtain ⟨h2, h3, hs, hn, h1, h4⟩ := HE.out
          refine ⟨?_, rfl⟩
          have hu : unblA (x :: S) (some ⟨b, o, none⟩) c' = (some ⟨b, o, none⟩, c') := by rw [unblA, if_neg (by rw [HB.out]; decide)]
          have hd : (x :: S).dropWhile isBl = x :: S := by rw [List.dropWhile_cons, if_neg (by rw [HB.out]; decide)]
          rw [← h2, ← h3, hu, hd]
          simp only [List.length_cons, hn]
          rfl
  · rw [if_neg ha, if_neg ha]
    rw [decide_eq_false ha] at hka
    clear h hcp hk ha
    go_enter Tryz.func31, Tryz.ntmps31
    go_wp2_with fail
    go_loopg [0] 1 (fun gk v0 w' => v0 = .slice A T.length cp ∧ w = w')
    case atStart => exact ⟨rfl, rfl⟩
    case round =>
      obtain ⟨rfl, rfl⟩ := hrel
      go_wp2_with fail
      go_ret
      exact ⟨rfl, rfl⟩
end Go.Proofs.YtfcedenofbefcaaGreatDoor
