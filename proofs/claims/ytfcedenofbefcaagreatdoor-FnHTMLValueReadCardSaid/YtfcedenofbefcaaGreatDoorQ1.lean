import Derived.Test.YtfcedenofbefcaaGreatDoorQ0
namespace Go.Proofs.YtfcedenofbefcaaGreatDoor
open Go.RowKit
set_option linter.unusedVariables false
set_option linter.unusedSimpArgs false
/-! What the reference asks of texts, names, blanks. -/
theorem hasB_no {T : List Int} {c : Int} (h : hasB T c = false) : ∀ x ∈ T, x ≠ c := by
  intro x hx e
  unfold hasB at h
  rw [List.any_eq_false] at h
  exact h x hx (by simp [e])
def isDig (c : Int) : Bool := decide (48 ≤ c) && decide (c ≤ 57)
theorem isDigit_calls {w : World} (c : Int) : Calls Tryz.prog 82 #[.int .u8 c] w fun e w' => e = .returned (.bool (isDig c)) ∧ w = w' := by
  unfold isDig
  go_enter Tryz.func82, Tryz.ntmps82
  by_cases h1 : 48 ≤ c
  · have d1 : decide (48 ≤ c) = true := decide_eq_true h1
    by_cases h2 : c ≤ 57
    · have d2 : decide (c ≤ 57) = true := decide_eq_true h2
      go_wp2_with fail
      go_ret
      exact ⟨by simp [h1, h2], rfl⟩
    · have d2 : decide (c ≤ 57) = false := decide_eq_false h2
      go_wp2_with fail
      go_ret
      exact ⟨by simp [h1, h2], rfl⟩
  · have d1 : decide (48 ≤ c) = false := decide_eq_false h1
    go_wp2_with fail
    go_ret
    exact ⟨by simp [h1], rfl⟩
/-- A call that answers one bool of which P holds, and leaves the world as it is. -/
def Says0 (P : Bool → Prop) (w : World) (e : Ending) (w' : World) : Prop := (∃ b, e = .returned (.bool b) ∧ P b) ∧ w = w'
def NmUpto (T : List Int) (k : Nat) : Prop := ∀ j, j < k → NC (T.getD j 0) ∧ (j = 0 → 97 ≤ T.getD j 0 ∧ T.getD j 0 ≤ 122)
theorem nmUpto_all {T : List Int} (h : NmUpto T T.length) (h0 : 0 < T.length) (h1 : T.length ≤ 20) : Name T := by
  refine ⟨fun c hc => ?_, h0, h1, ((h 0 h0).2 rfl).1, ((h 0 h0).2 rfl).2⟩
  obtain ⟨j, hj⟩ := List.getElem?_of_mem hc
  have hl := (List.getElem?_eq_some_iff.mp hj).1
  have := (h j hl).1
  rwa [List.getD_eq_getElem?_getD, hj] at this
theorem nmUpto_step {T : List Int} {k : Nat} (h : NmUpto T k) (hc : NC (T.getD k 0)) (h0 : k = 0 → 97 ≤ T.getD k 0 ∧ T.getD k 0 ≤ 122) : NmUpto T (k + 1) := by
  intro j hj
  rcases Nat.lt_or_ge j k with h' | h'
  · exact h j h'
  · obtain rfl : j = k := by omega
    exact ⟨hc, h0⟩
set_option maxHeartbeats 4000000 in
theorem isName_calls {w : World} {A : Option Addr} {cp : Nat} {T : List Int} (h : Bytes w A T) :
    Calls Tryz.prog 45 #[.slice A T.length cp] w (Says0 (fun b => b = true → Name T) w) := by
  have hlen := h.len
  have HH := Hd.mk h
  clear h
  go_enter Tryz.func45, Tryz.ntmps45
  go_wp2_with fail
  go_loopg [7] T.length (fun gk v7 w' => ∃ k : Nat, v7 = .int .i64 k ∧ Hd (k + gk = T.length) ∧ Hd (NmUpto T k) ∧ w = w')
  case atStart => exact ⟨0, rfl, ⟨by omega⟩, ⟨fun j hj => absurd hj (Nat.not_lt_zero _)⟩, rfl⟩
  case round =>
    obtain ⟨k, rfl, HK, HN, rfl⟩ := hrel
    cases gk with
    | zero =>
      have hk : k = T.length := by have := HK.out; omega
      subst hk
      by_cases h0 : 0 < T.length
      · have h0' : (0 : Int) < (T.length : Int) := by omega
        have d0 : decide ((0 : Int) < (T.length : Int)) = true := decide_eq_true h0'
        by_cases h1 : (T.length : Int) ≤ 20
        · have d1 : decide ((T.length : Int) ≤ 20) = true := decide_eq_true h1
          have HF := Hd.mk (nmUpto_all HN.out h0 (by omega))
          clear h0
          go_wp2
          go_ret
          exact ⟨⟨_, rfl, fun _ => HF.out⟩, rfl⟩
        · have d1 : decide ((T.length : Int) ≤ 20) = false := decide_eq_false h1
          clear h0
          go_wp2
          go_ret
          exact ⟨⟨_, rfl, fun h => by cases h⟩, rfl⟩
      · have h0' : ¬ (0 : Int) < (T.length : Int) := by omega
        have d0 : decide ((0 : Int) < (T.length : Int)) = false := decide_eq_false h0'
        clear h0
        go_wp2
        go_ret
        exact ⟨⟨_, rfl, fun h => by cases h⟩, rfl⟩
    | succ gk =>
      have hlt : k < T.length := by have := HK.out; omega
      have hil : (k : Int) < (T.length : Int) := by omega
      obtain ⟨b, off, rfl, hc⟩ := HH.out.cells (by omega)
      have hcell := hc k hlt
      have HS := Hd.mk (fun a b => nmUpto_step (T := T) (k := k) HN.out a b)
      generalize T.getD k 0 = c at hcell HS
      clear hc
      by_cases h1 : c < 97
      · have d1 : decide (c < 97) = true := decide_eq_true h1
        by_cases hk0 : k = 0
        · have hki : ((k : Int) == 0) = true := by rw [beq_iff_eq]; omega
          clear hk0
          go_wp2
          go_ret
          exact ⟨⟨_, rfl, fun h => by cases h⟩, rfl⟩
        · have hki : ((k : Int) == 0) = false := by rw [beq_eq_false_iff_ne]; omega
          go_wp2_with fail
          refine (isDigit_calls c).mono ?_
          rintro e w' ⟨rfl, rfl⟩
          have HD : Hd (isDig c = true → NC c) := ⟨fun h => by unfold isDig at h; simp at h; unfold NC; omega⟩
          generalize isDig c = r at HD ⊢
          cases r with
          | true =>
            have HS2 := Hd.mk (HS.out (HD.out rfl) (fun e => absurd e hk0))
            go_wp2_with fail
            go_roundg gk
            case measure => exact Nat.lt_succ_self _
            case rel => exact ⟨k + 1, by go_num, ⟨by have := HK.out; omega⟩, HS2, rfl⟩
          | false =>
            go_wp2_with fail
            go_ret
            exact ⟨⟨_, rfl, fun h => by cases h⟩, rfl⟩
      · have d1 : decide (c < 97) = false := decide_eq_false h1
        by_cases h2 : 122 < c
        · have d2 : decide (122 < c) = true := decide_eq_true h2
          by_cases hk0 : k = 0
          · have hki : ((k : Int) == 0) = true := by rw [beq_iff_eq]; omega
            clear hk0
            go_wp2
            go_ret
            exact ⟨⟨_, rfl, fun h => by cases h⟩, rfl⟩
          · have hki : ((k : Int) == 0) = false := by rw [beq_eq_false_iff_ne]; omega
            go_wp2_with fail
            refine (isDigit_calls c).mono ?_
            rintro e w' ⟨rfl, rfl⟩
            have HD : Hd (isDig c = true → NC c) := ⟨fun h => by unfold isDig at h; simp at h; unfold NC; omega⟩
            generalize isDig c = r at HD ⊢
            cases r with
            | true =>
              have HS2 := Hd.mk (HS.out (HD.out rfl) (fun e => absurd e hk0))
              go_wp2_with fail
              go_roundg gk
              case measure => exact Nat.lt_succ_self _
              case rel => exact ⟨k + 1, by go_num, ⟨by have := HK.out; omega⟩, HS2, rfl⟩
            | false =>
              go_wp2_with fail
              go_ret
              exact ⟨⟨_, rfl, fun h => by cases h⟩, rfl⟩
        · have d2 : decide (122 < c) = false := decide_eq_false h2
          have HS2 := Hd.mk (HS.out (by unfold NC; omega) (fun _ => by omega))
          go_wp2
          go_roundg gk
          case measure => exact Nat.lt_succ_self _
          case rel => exact ⟨k + 1, by go_num, ⟨by have := HK.out; omega⟩, HS2, rfl⟩
theorem all_step {P : Int → Prop} {T : List Int} {k : Nat} (h : ∀ c ∈ T.take k, P c) (hk : k < T.length) (hc : P (T.getD k 0)) : ∀ c ∈ T.take (k + 1), P c := by
  have : T.take (k + 1) = T.take k ++ [T.getD k 0] := by rw [List.take_succ_eq_append_getElem hk, List.getD_eq_getElem?_getD, List.getElem?_eq_getElem hk]; rfl
  intro c hm
  rw [this] at hm
  rcases List.mem_append.mp hm with h' | h'
  · exact h c h'
  · obtain rfl := List.mem_singleton.mp h'
    exact hc
set_option maxHeartbeats 4000000 in
theorem plainBlanks_calls {w : World} {A : Option Addr} {cp : Nat} {T : List Int} (h : Bytes w A T) :
    Calls Tryz.prog 48 #[.slice A T.length cp] w (Says0 (fun b => b = true → Blanks T) w) := by
  have hlen := h.len
  have HH := Hd.mk h
  clear h
  go_enter Tryz.func48, Tryz.ntmps48
  go_wp2_with fail
  go_loopg [7] T.length (fun gk v7 w' => ∃ k : Nat, v7 = .int .i64 k ∧ Hd (k + gk = T.length) ∧ Hd (∀ c ∈ T.take k, BL c) ∧ w = w')
  case atStart => exact ⟨0, rfl, ⟨by omega⟩, ⟨fun c hc => by simp at hc⟩, rfl⟩
  case round =>
    obtain ⟨k, rfl, HK, HN, rfl⟩ := hrel
    cases gk with
    | zero =>
      have hk : k = T.length := by have := HK.out; omega
      subst hk
      by_cases h1 : (T.length : Int) ≤ 20
      · have d1 : decide ((T.length : Int) ≤ 20) = true := decide_eq_true h1
        have HF : Hd (Blanks T) := ⟨⟨fun c hc => HN.out c (by rw [List.take_length]; exact hc), by omega⟩⟩
        go_wp2
        go_ret
        exact ⟨⟨_, rfl, fun _ => HF.out⟩, rfl⟩
      · have d1 : decide ((T.length : Int) ≤ 20) = false := decide_eq_false h1
        go_wp2
        go_ret
        exact ⟨⟨_, rfl, fun h => by cases h⟩, rfl⟩
    | succ gk =>
      have hlt : k < T.length := by have := HK.out; omega
      have hil : (k : Int) < (T.length : Int) := by omega
      obtain ⟨b, off, rfl, hc⟩ := HH.out.cells (by omega)
      have hcell := hc k hlt
      have HS := Hd.mk (fun a => all_step (P := BL) (T := T) (k := k) HN.out hlt a)
      generalize T.getD k 0 = c at hcell HS
      clear hc
      by_cases hb : BL c
      · have HS2 := Hd.mk (HS.out hb)
        unfold BL at hb
        rcases hb with rfl | rfl | rfl | rfl
        all_goals
          go_wp2
          go_roundg gk
          case measure => exact Nat.lt_succ_self _
          case rel => exact ⟨k + 1, by go_num, ⟨by have := HK.out; omega⟩, HS2, rfl⟩
      · unfold BL at hb
        simp only [not_or] at hb
        obtain ⟨b1, b2, b3, b4⟩ := hb
        have n1 : (c != 32) = true := bne_iff_ne.mpr b1
        have n2 : (c != 9) = true := bne_iff_ne.mpr b2
        have n3 : (c != 10) = true := bne_iff_ne.mpr b3
        have n4 : (c != 13) = true := bne_iff_ne.mpr b4
        clear b1 b2 b3 b4
        go_wp2
        go_ret
        exact ⟨⟨_, rfl, fun h => by cases h⟩, rfl⟩
end Go.Proofs.YtfcedenofbefcaaGreatDoor
