import Derived.Test.YtfcedenofbefcaaGreatDoorQ2
namespace Go.Proofs.YtfcedenofbefcaaGreatDoor
open Go.RowKit
set_option linter.unusedVariables false
set_option linter.unusedSimpArgs false
def TextOk (T : List Int) : Prop := 0 < T.length ∧ T.length ≤ 500 ∧ ∀ c ∈ T, c ≠ 60 ∧ c ≠ 0
def CommentOk (T : List Int) : Prop := T.length ≤ 500 ∧ ∀ c ∈ T, c ≠ 62 ∧ c ≠ 0
set_option maxHeartbeats 4000000 in
theorem isText_calls {w : World} {A : Option Addr} {cp : Nat} {T : List Int} (h : Bytes w A T) :
    Calls Tryz.prog 43 #[.slice A T.length cp] w (Says0 (fun b => b = true → TextOk T) w) := by
  have HH := Hd.mk h
  have hlen := h.len
  clear h
  go_enter Tryz.func43, Tryz.ntmps43
  by_cases h1 : (0 : Int) < (T.length : Int)
  ·
    have d1 : decide ((0 : Int) < (T.length : Int)) = true := decide_eq_true h1
    by_cases h2 : (T.length : Int) ≤ 500
    ·
      have d2 : decide ((T.length : Int) ≤ 500) = true := decide_eq_true h2
      go_wp2_with fail
      refine (Has_calls HH.out 60).mono ?_
      rintro e w' ⟨rfl, rfl⟩
      have HN3 := Hd.mk (hasB_no (T := T) (c := 60))
      generalize hasB T 60 = r3 at HN3 ⊢
      cases r3 with
      | true =>
        go_wp2_with fail
        go_ret
        exact ⟨⟨_, rfl, fun h => by cases h⟩, rfl⟩
      | false =>
        replace HN3 := Hd.mk (HN3.out rfl)
        go_wp2_with fail
        refine (Has_calls HH.out 0).mono ?_
        rintro e w' ⟨rfl, rfl⟩
        have HN4 := Hd.mk (hasB_no (T := T) (c := 0))
        generalize hasB T 0 = r4 at HN4 ⊢
        cases r4 with
        | true =>
          go_wp2_with fail
          go_ret
          exact ⟨⟨_, rfl, fun h => by cases h⟩, rfl⟩
        | false =>
          replace HN4 := Hd.mk (HN4.out rfl)
          go_wp2_with fail
          go_ret
          exact ⟨⟨_, rfl, fun _ => ⟨by omega, by omega, fun c hc => ⟨HN3.out c hc, HN4.out c hc⟩⟩⟩, rfl⟩
    ·
      have d2 : decide ((T.length : Int) ≤ 500) = false := decide_eq_false h2
      go_wp2_with fail
      go_ret
      exact ⟨⟨_, rfl, fun h => by cases h⟩, rfl⟩
  ·
    have d1 : decide ((0 : Int) < (T.length : Int)) = false := decide_eq_false h1
    go_wp2_with fail
    go_ret
    exact ⟨⟨_, rfl, fun h => by cases h⟩, rfl⟩
set_option maxHeartbeats 4000000 in
theorem isComment_calls {w : World} {A : Option Addr} {cp : Nat} {T : List Int} (h : Bytes w A T) (hcp : T.length ≤ cp) :
    Calls Tryz.prog 44 #[.slice A T.length cp] w (Says0 (fun b => b = true → CommentOk T) w) := by
  have HH := Hd.mk h
  have hlen := h.len
  clear h
  go_enter Tryz.func44, Tryz.ntmps44
  go_wp2_with fail
  refine (contains2_calls HH.out hcp 45 45).mono ?_
  rintro e w' ⟨⟨r1, rfl, _⟩, rfl⟩
  cases r1 with
  | true =>
    go_wp2_with fail
    go_ret
    exact ⟨⟨_, rfl, fun h => by cases h⟩, rfl⟩
  | false =>
    go_wp2_with fail
    refine (Has_calls HH.out 0).mono ?_
    rintro e w' ⟨rfl, rfl⟩
    have HN2 := Hd.mk (hasB_no (T := T) (c := 0))
    generalize hasB T 0 = r2 at HN2 ⊢
    cases r2 with
    | true =>
      go_wp2_with fail
      go_ret
      exact ⟨⟨_, rfl, fun h => by cases h⟩, rfl⟩
    | false =>
      replace HN2 := Hd.mk (HN2.out rfl)
      go_wp2_with fail
      refine (Has_calls HH.out 62).mono ?_
      rintro e w' ⟨rfl, rfl⟩
      have HN3 := Hd.mk (hasB_no (T := T) (c := 62))
      generalize hasB T 62 = r3 at HN3 ⊢
      cases r3 with
      | true =>
        go_wp2_with fail
        go_ret
        exact ⟨⟨_, rfl, fun h => by cases h⟩, rfl⟩
      | false =>
        replace HN3 := Hd.mk (HN3.out rfl)
        by_cases h4 : (T.length : Int) ≤ 500
        ·
          have d4 : decide ((T.length : Int) ≤ 500) = true := decide_eq_true h4
          by_cases h5 : (T.length : Int) = 0
          ·
            have d5 : ((T.length : Int) == 0) = true := beq_iff_eq.mpr h5
            have H5 := Hd.mk h5; clear h5
            go_wp2_with fail
            go_ret
            exact ⟨⟨_, rfl, fun _ => ⟨by omega, fun c hc => ⟨HN3.out c hc, HN2.out c hc⟩⟩⟩, rfl⟩
          ·
            have d5 : ((T.length : Int) == 0) = false := beq_eq_false_iff_ne.mpr h5
            obtain ⟨b, off, rfl, hc⟩ := HH.out.cells (by omega)
            have hl := hc (T.length - 1) (by omega)
            have hf := hc 0 (by omega)
            rw [Nat.add_zero] at hf
            generalize T.getD (T.length - 1) 0 = x at hl
            generalize T.getD 0 0 = y at hf
            clear hc
            have hw1 : wrap64 ((T.length : Int) - 1) = (T.length : Int) - 1 := wrap_small (by omega) (by omega)
            have hw2 : ((T.length : Int) - 1).toNat = T.length - 1 := by omega
            have hw3 : (0 : Int) ≤ (T.length : Int) - 1 := by omega
            have hw4 : (T.length : Int) - 1 < (T.length : Int) := by omega
            have hw5 : (0 : Int) < (T.length : Int) := by omega
            have hw6 : 0 < T.length := by omega
            by_cases hx : (x != 45) = true
            ·
              by_cases hy : (y != 45) = true
              ·
                go_wp2_with fail
                go_ret
                exact ⟨⟨_, rfl, fun _ => ⟨by omega, fun c hc => ⟨HN3.out c hc, HN2.out c hc⟩⟩⟩, rfl⟩
              ·
                replace hy := Bool.eq_false_iff.mpr hy
                go_wp2_with fail
                go_ret
                exact ⟨⟨_, rfl, fun h => by cases h⟩, rfl⟩
            ·
              replace hx := Bool.eq_false_iff.mpr hx
              go_wp2_with fail
              go_ret
              exact ⟨⟨_, rfl, fun h => by cases h⟩, rfl⟩
        ·
          have d4 : decide ((T.length : Int) ≤ 500) = false := decide_eq_false h4
          go_wp2_with fail
          go_ret
          exact ⟨⟨_, rfl, fun h => by cases h⟩, rfl⟩
end Go.Proofs.YtfcedenofbefcaaGreatDoor
