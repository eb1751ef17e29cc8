import Derived.Test.YtfcedenofbefcaaGreatDoorHD
namespace Go.Proofs.YtfcedenofbefcaaGreatDoor
open Go.RowKit
set_option linter.unusedVariables false
set_option linter.unusedSimpArgs false
/-! The plain law of an element of characters alone. -/
/-- A text that may stand in an element of characters alone. -/
def RawC (S : List Int) : Prop := (∀ c ∈ S, c ≠ 0) ∧ (∀ X Y, S ≠ X ++ 60 :: 47 :: Y) ∧ (∀ X Y, S ≠ X ++ 60 :: 33 :: 45 :: 45 :: Y) ∧ (∀ X, S ≠ X ++ [60])
theorem RawC.tail {c : Int} {S : List Int} (h : RawC (c :: S)) : RawC S :=
  ⟨fun x hx => h.1 x (by simp [hx]), fun X Y e => h.2.1 (c :: X) Y (by rw [e]; rfl), fun X Y e => h.2.2.1 (c :: X) Y (by rw [e]; rfl), fun X e => h.2.2.2 (c :: X) (by rw [e]; rfl)⟩
def rawNames : List (List Int) := [[115, 99, 114, 105, 112, 116], [115, 116, 121, 108, 101], [116, 105, 116, 108, 101], [116, 101, 120, 116, 97, 114, 101, 97], [120, 109, 112], [105, 102, 114, 97, 109, 101]]
theorem raw_l1 {B : List Int} (hB : Sm B) (K : Nat) {R : List Int} : ∀ (S : List Int) (n k : Nat), (∀ c ∈ S, 97 ≤ c ∧ c ≤ 122) → At B n (S ++ 62 :: R) → S.length < k → hshiftRawText.l1 K B k (n : Int) = some ((n + S.length : Nat) : Int) := by
  intro S
  induction S with
  | nil =>
    intro n k _ h hk
    obtain ⟨k, rfl⟩ : ∃ j, k = j + 1 := ⟨k - 1, by simp at hk; omega⟩
    simp only [List.nil_append] at h
    simp only [hshiftRawText.l1]
    rw [pk0 hB h, ob, if_pos (by decide)]
    rfl
  | cons c S ih =>
    intro n k hS h hk
    obtain ⟨k, rfl⟩ : ∃ j, k = j + 1 := ⟨k - 1, by simp at hk; omega⟩
    obtain ⟨ha, hz⟩ := hS c (by simp)
    rw [List.cons_append] at h
    simp only [hshiftRawText.l1]
    rw [pk0 hB h, ob, if_neg (by simp [ha, hz]), mv1 hB (lt_of_at h), ih (n + 1) k (fun x hx => hS x (by simp [hx])) h.tail (by simp at hk; omega)]
    simp only [List.length_cons]
    congr 2
    omega
theorem raw_l0 {B : List Int} (hB : Sm B) {K : Nat} (hK : B.length < K) (rt : Int) {s : Nat} {nm R : List Int} (hn : ∀ c ∈ nm, 97 ≤ c ∧ c ≤ 122) (hh : toHash nm = rt) : ∀ (S : List Int) (n k : Nat), RawC S → At B n (S ++ 60 :: 47 :: (nm ++ 62 :: R)) → s ≤ n → S.length < k →
    hshiftRawText.l0 K B rt k (n : Int) (s : Int) = some ((s : Int), ((n + S.length : Nat) : Int), ((n + S.length : Nat) : Int), ((n + S.length : Nat) : Int)) := by
  intro S
  induction S with
  | nil =>
    intro n k _ h hs hk
    obtain ⟨k, rfl⟩ : ∃ j, k = j + 1 := ⟨k - 1, by simp at hk; omega⟩
    simp only [List.nil_append] at h
    simp only [List.length_nil, Nat.add_zero]
    have h2 := h.tail.tail
    have hl := h2.right.lt
    have hsm := hB
    unfold Sm at hsm
    have hw := h2.left
    have hnc : NoCap nm := fun c hc hh => by have := hn c hc; omega
    simp only [hshiftRawText.l0]
    rw [pk0 hB h, ob, if_pos (by rfl), pk1 hB h, ob, if_pos (by rfl), mv2 hB (by omega), raw_l1 hB K nm _ K hn h2 (by omega), ob, seln (by omega) (by omega), ob]
    rw [psn hB (by omega) hs, wrap_small (by omega) (by omega), cutn (by omega), ob, low_at hw hnc (by omega) (by omega), ob, hash_at hw (by omega) (by omega), ob, hh, if_pos (by simp)]
    have er : rwd (s : Int) (((n - s : Nat) : Int)) = (n : Int) := by
      unfold rwd
      rw [wrap_small (by omega) (by omega)]
      omega
    rw [er, seln (by omega) hs, ob]
  | cons c S ih =>
    intro n k hS h hs hk
    obtain ⟨k, rfl⟩ : ∃ j, k = j + 1 := ⟨k - 1, by simp at hk; omega⟩
    have key : hshiftRawText.l0 K B rt (k + 1) (n : Int) (s : Int) = hshiftRawText.l0 K B rt k (mv (n : Int) 1) (s : Int) := by
      rw [List.cons_append] at h
      have h0 := hS.1 c (by simp)
      simp only [hshiftRawText.l0]
      rw [pk0 hB h, ob]
      by_cases hc : c = 60
      · subst hc
        rw [if_pos (by rfl)]
        cases S with
        | nil => exact absurd rfl (hS.2.2.2 [])
        | cons c2 S2 =>
          rw [List.cons_append] at h
          have h47 : c2 ≠ 47 := fun e => hS.2.1 [] S2 (by rw [e]; rfl)
          rw [pk1 hB h, ob, if_neg (by simp [h47])]
          have hm : (if (rt == 2566) = true then ((some c2).bind fun c47 =>
              if (c47 == 33) = true then ((pk B (n : Int) 2).bind fun c50 =>
              if (c50 == 45) = true then ((pk B (n : Int) 3).bind fun c53 => some (c53 == 45)) else some false) else some false) else some false) = some false := by
            split
            · rw [ob]
              split
              · rename_i h33
                have h33 := beq_iff_eq.mp h33
                cases S2 with
                | nil =>
                  rw [List.nil_append] at h
                  rw [pk2 hB h, ob, if_neg (by decide)]
                | cons c3 S3 =>
                  rw [List.cons_append] at h
                  rw [pk2 hB h, ob]
                  split
                  · rename_i h45
                    have h45 := beq_iff_eq.mp h45
                    have h3 : ∃ x X, S3 ++ 60 :: 47 :: (nm ++ 62 :: R) = x :: X ∧ x ≠ 45 := by
                      cases S3 with
                      | nil => exact ⟨60, _, rfl, by decide⟩
                      | cons c4 S4 => exact ⟨c4, _, rfl, fun e => hS.2.2.1 [] S4 (by rw [h33, h45, e]; rfl)⟩
                    obtain ⟨x, X, e, hx⟩ := h3
                    rw [e] at h
                    have hp3 : pk B (n : Int) 3 = some x := pkk (i := 3) hB h.tail.tail.tail
                    rw [hp3, ob]
                    simp [hx]
                  · rfl
              · rfl
            · rfl
          rw [hm, ob, if_neg (by decide)]
      · rw [if_neg (by simp [hc]), if_neg (by simp [h0])]
    rw [key, mv1 hB (lt_of_at (by rw [List.cons_append] at h; exact h)), ih (n + 1) k hS.tail (by rw [List.cons_append] at h; exact h.tail) (by omega) (by simp at hk; omega)]
    simp only [List.length_cons]
    congr 1
    all_goals simp only [Option.some.injEq, Prod.mk.injEq, eq_self_iff_true, true_and, and_true]
    all_goals omega
theorem h_rawText {B : List Int} (hB : Sm B) {K : Nat} (hK : B.length < K) (n : Nat) (rt : Int) (tl th al ah : Int) {S nm R : List Int} (hn : ∀ c ∈ nm, 97 ≤ c ∧ c ≤ 122) (hh : toHash nm = rt) (hr0 : rt ≠ 0) (hr : rt ≠ 8457) (hS : RawC S) (h0 : 0 < S.length) (h : At B n (S ++ 60 :: 47 :: (nm ++ 62 :: R))) :
    hNext.f K B (n : Int) (n : Int) rt false tl th al ah = some (8, (n : Int), ((n + S.length : Nat) : Int), ((n + S.length : Nat) : Int), ((n + S.length : Nat) : Int), 0, false, (n : Int), ((n + S.length : Nat) : Int), al, ah) := by
  have hl := h.right.lt
  unfold hNext.f
  rw [if_neg (by decide), if_neg (by rw [beq_iff_eq]; exact hr0)]
  unfold hNRaw.f hshiftRawText.f
  rw [if_neg (by rw [beq_iff_eq]; exact hr), raw_l0 hB hK rt hn hh S n K hS h (Nat.le_refl _) (by omega), ob]
  have e : rng B (n : Int) ((n + S.length : Nat) : Int) = some () := by
    unfold rng
    rw [if_pos (by omega)]
  dsimp only
  rw [e, ob, if_pos (by rw [decide_eq_true_iff]; omega)]
/-- The text of an element of characters alone. -/
def rawT (nm S : List Int) : List Int := 60 :: (nm ++ [62]) ++ (S ++ (60 :: 47 :: (nm ++ [62])))
def rawTold (nm S : List Int) : List GTok := [(kStartTag, 60 :: nm, nm, []), (kStartTagClose, [62], [], []), (kText, S, S, []), (kEndTag, 60 :: 47 :: (nm ++ [62]), nm, [])]
theorem raw_name {nm : List Int} (h : nm ∈ rawNames) : (∀ c ∈ nm, 97 ≤ c ∧ c ≤ 122) ∧ 0 < nm.length ∧ nm.length ≤ 20 ∧ toHash nm ∈ ([9736, 3845, 5125, 7939, 6, 2566] : List Int) := by
  simp only [rawNames, List.mem_cons, List.mem_nil_iff, or_false] at h
  rcases h with rfl | rfl | rfl | rfl | rfl | rfl <;> decide
/-- THE LAW: the tokens of an element of characters alone. -/
theorem raw_law {nm S : List Int} (hm : nm ∈ rawNames) (hS : RawC S) (h0 : 0 < S.length) (hl : S.length ≤ 1000) (N : Nat) (hN : N = 100000) : htmlF N ((rawT nm S).length + 2) (rawT nm S) = some (rawTold nm S, true) := by
  obtain ⟨hn, hn0, hn20, hh⟩ := raw_name hm
  have hlen : (rawT nm S).length = S.length + 2 * nm.length + 5 := by simp [rawT]; omega
  generalize hx : toHash nm = x at hh
  have hx0 : x ≠ 0 := by rintro rfl; revert hh; decide
  have hx1 : x ≠ 8457 := by rintro rfl; revert hh; decide
  have hB : Sm (rawT nm S ++ [0]) := by unfold Sm; simp; omega
  have hBl : (rawT nm S ++ [0]).length = S.length + 2 * nm.length + 6 := by rw [List.length_append, hlen]; rfl
  have hat : At (rawT nm S ++ [0]) 0 (60 :: (nm ++ 62 :: (S ++ 60 :: 47 :: (nm ++ 62 :: [0])))) := by
    have : rawT nm S ++ [0] = 60 :: (nm ++ 62 :: (S ++ 60 :: 47 :: (nm ++ 62 :: [0]))) := by simp [rawT]
    unfold At
    rw [this]
    exact List.prefix_refl _
  have hNC : ∀ c ∈ nm, NC c := fun c hc => .inl (hn c hc)
  have hd0 : 97 ≤ nm.getD 0 0 ∧ nm.getD 0 0 ≤ 122 := by
    cases nm with
    | nil => simp at hn0
    | cons c T => exact hn c (by simp)
  generalize hBd : rawT nm S ++ [0] = B at hB hBl hat
  have hK : B.length < (rawT nm S).length + 2 := by omega
  generalize hKd : (rawT nm S).length + 2 = K at hK
  have a1 := hat.tail.right
  have a2 := a1.tail
  have a3 := a2.right
  have a4 := a3.tail.tail.right.tail
  have w0 : At B 0 (60 :: nm) := At.left (T := 62 :: (S ++ 60 :: 47 :: (nm ++ 62 :: [0]))) hat
  have w3 : At B (0 + 1 + nm.length + 1 + S.length) (60 :: 47 :: (nm ++ [62])) := by
    have e : 60 :: 47 :: (nm ++ 62 :: [0]) = (60 :: 47 :: (nm ++ [62])) ++ [0] := by simp
    rw [e] at a3
    exact a3.left
  have s1 := h_startRaw hB K 0 0 0 0 0 hNC hn0 hd0 hx hh hat (.inl rfl) (by omega)
  have s2 := h_close hB K (0 + 1 + nm.length) x ((0 + 1 : Nat) : Int) ((0 + 1 + nm.length : Nat) : Int) 0 0 (S := []) (by simp) a1 (by simp <;> omega)
  have s3 := h_rawText hB hK (0 + 1 + nm.length + 1) x 0 0 0 0 hn hx hx0 hx1 hS h0 a2
  have s4 := h_end hB K (0 + 1 + nm.length + 1 + S.length) ((0 + 1 + nm.length + 1 : Nat) : Int) ((0 + 1 + nm.length + 1 + S.length : Nat) : Int) 0 0 hNC hn0 hd0 a3 (by omega)
  have s5 := (h_last hB K (0 + 1 + nm.length + 1 + S.length + 1 + 1 + nm.length + 1) ((0 + 1 + nm.length + 1 + S.length + 2 : Nat) : Int) ((0 + 1 + nm.length + 1 + S.length + 2 + nm.length : Nat) : Int) 0 0 a4 (by omega))
  obtain ⟨k, rfl⟩ : ∃ k, N = k + 5 := ⟨99995, by omega⟩
  unfold htmlF
  rw [hBd]
  have e0 : (0 : Int) = ((0 : Nat) : Int) := rfl
  have key : hmll K B (k + 5) 0 0 0 false 0 0 0 0 [] = some (rawTold nm S, ((0 + 1 + nm.length + 1 + S.length + 1 + 1 + nm.length + 1 : Nat) : Int)) := by
    rw [show k + 5 = (k + 4) + 1 from rfl]
    rw [hmll_step (p := 0) (s := 0) s1 rfl rfl (hsub_at 0 w0 (by omega) rfl (by simp <;> omega)) (hsub_at (0 + 1) hat.tail.left (by omega) rfl (by omega))]
    rw [show k + 4 = (k + 3) + 1 from rfl, show 0 + nm.length + 1 = 0 + 1 + nm.length by omega]
    rw [hmll_step s2 rfl rfl (hsub_at (T := [62]) (0 + 1 + nm.length) (At.left (S := [62]) a1) (by omega) (by simp) (by simp)) (hsub_nil B)]
    rw [show k + 3 = (k + 2) + 1 from rfl, show 0 + 1 + nm.length + ([] : List Int).length + 1 = 0 + 1 + nm.length + 1 by simp]
    rw [hmll_step s3 rfl rfl (hsub_at (0 + 1 + nm.length + 1) a2.left (by omega) rfl rfl) (hsub_at (0 + 1 + nm.length + 1) a2.left (by omega) rfl rfl)]
    rw [show k + 2 = (k + 1) + 1 from rfl]
    rw [hmll_step s4 rfl rfl (hsub_at _ w3 (by omega) rfl (by simp; omega)) (hsub_at (0 + 1 + nm.length + 1 + S.length + 2) a3.tail.tail.left (by omega) rfl rfl)]
    rw [show 0 + 1 + nm.length + 1 + S.length + nm.length + 3 = 0 + 1 + nm.length + 1 + S.length + 1 + 1 + nm.length + 1 by omega]
    rw [hmll, s5.1, ob]
    rfl
  rw [key, ob]
  dsimp only
  rw [s5.2]
end Go.Proofs.YtfcedenofbefcaaGreatDoor
