import Derived.Test.YtfcedenofbefcaaGreatDoorHB
import Derived.Test.YtfcedenofbefcaaGreatDoorHA
namespace Go.Proofs.YtfcedenofbefcaaGreatDoor
open Go.RowKit
set_option linter.unusedVariables false
set_option linter.unusedSimpArgs false
/-! The plain law of Next, of the lexer of HTML. -/
theorem hen_law {B : List Int} (hB : Sm B) (K n : Nat) (rt : Int) (tg : Bool) (tl th al ah : Int) {T R : List Int} (hT : ∀ c ∈ T, NC c) (h0 : 0 < T.length) (h : At B n (60 :: 47 :: (T ++ 62 :: R))) (hK : T.length < K) :
    hshiftEndTag.f K B ((n + 2 : Nat) : Int) (n : Int) rt tg tl th al ah = some ((n : Int), ((n + 2 + T.length + 1 : Nat) : Int), ((n + 2 + T.length + 1 : Nat) : Int), ((n + 2 + T.length + 1 : Nat) : Int), (n : Int) + 2, ((n + 2 + T.length : Nat) : Int)) := by
  have hw : At B n (60 :: 47 :: (T ++ [62])) := by
    have e : 60 :: 47 :: (T ++ 62 :: R) = (60 :: 47 :: (T ++ [62])) ++ R := by simp
    rw [e] at h
    exact h.left
  have h := h.tail.tail
  have hl := h.right.lt
  have hs := hB
  unfold Sm at hs
  obtain ⟨c, hc, e⟩ := ath_last h h0
  obtain ⟨k, rfl⟩ : ∃ j, K = j + 1 := ⟨K - 1, by omega⟩
  have hcap : NoCap (60 :: 47 :: (T ++ [62])) := by
    intro x hx
    simp only [List.mem_cons, List.mem_append, List.mem_nil_iff, or_false] at hx
    rcases hx with rfl | rfl | hx | rfl
    · omega
    · omega
    · exact nc_nocap hT x hx
    · omega
  unfold hshiftEndTag.f
  rw [hen_l0 hB (k + 1) T (n + 1 + 1) (k + 1) tl th hT h (by omega) hK, ob]
  dsimp only
  simp only [hshiftEndTag.l1]
  have e1 : (((n + 1 + 1 + T.length : Nat) : Int) - ((n : Int) + 2)) = ((T.length : Nat) : Int) := by omega
  rw [e1, if_pos (by simp; omega), wrap_small (by omega) (by omega)]
  have e2 : elB B ((n : Int) + 2) ((n + 1 + 1 + T.length : Nat) : Int) ((T.length : Int) - 1) = some c := by
    unfold elB
    rw [if_pos (by omega), show ((n : Int) + 2).toNat + ((T.length : Int) - 1).toNat = n + 1 + 1 + (T.length - 1) by omega, e]
  rw [e2, ob, if_neg (by have hc := hT c hc; simp [hc.ne 32, hc.ne 9, hc.ne 10, hc.ne 13]), ob, cutn (by omega), ob, seln (by omega) (by omega), ob, low_at hw hcap rfl (by simp; omega), ob]
  congr 1
  all_goals simp only [Prod.mk.injEq, true_and, and_true]
  all_goals omega
/-- What begins a tag, behind its first sign. -/
def TagHead (R : List Int) : Prop := (∃ e R', R = 47 :: e :: R' ∧ 97 ≤ e ∧ e ≤ 122) ∨ (∃ R', R = 33 :: R') ∨ (∃ e R', R = e :: R' ∧ 97 ≤ e ∧ e ≤ 122)
theorem hat_end {B : List Int} (hB : Sm B) {n : Nat} (hn : B.length = n + 1) : atEnd B (n : Int) 0 = true := by
  unfold Sm at hB
  unfold atEnd
  rw [wrap_small (by omega) (by omega), wrap_small (by omega) (by omega)]
  simp
  omega
theorem hnx_text {B : List Int} (hB : Sm B) (K : Nat) {s : Nat} {d : Int} {R : List Int} (al ah : Int) : ∀ (T : List Int) (n k : Nat) (tl th : Int), ((d = 60 ∧ TagHead R) ∨ (d = 0 ∧ B.length = n + T.length + 1)) → (∀ c ∈ T, c ≠ 60 ∧ c ≠ 0) → At B n (T ++ d :: R) → s < n + T.length → s ≤ n → T.length < k →
    hNText.l0 K B al ah k (n : Int) (s : Int) 0 false tl th = some (8, (s : Int), ((n + T.length : Nat) : Int), ((n + T.length : Nat) : Int), ((n + T.length : Nat) : Int), 0, false, (s : Int), ((n + T.length : Nat) : Int), al, ah) := by
  intro T
  induction T with
  | nil =>
    intro n k tl th hd _ h hs hs2 hk
    obtain ⟨k, rfl⟩ : ∃ j, k = j + 1 := ⟨k - 1, by simp at hk; omega⟩
    simp only [List.nil_append] at h
    simp only [List.length_nil, Nat.add_zero] at hs hd ⊢
    have hl := h.lt
    have hp : decide (0 < ps (n : Int) (s : Int)) = true := by
      rw [psn hB (by omega) hs2]
      simp
      omega
    simp only [hNText.l0]
    rw [pk0 hB h, ob]
    rcases hd with ⟨rfl, hd⟩ | ⟨rfl, hd⟩
    · rw [if_pos (by rfl)]
      rcases hd with ⟨e, R', rfl, ha, hz⟩ | ⟨R', rfl⟩ | ⟨e, R', rfl, ha, hz⟩
      · have n62 : ¬ (e == 62) = true := by rw [beq_iff_eq]; omega
        have n0 : ¬ (e == 0) = true := by rw [beq_iff_eq]; omega
        rw [pk1 hB h, ob, if_pos (by rfl), pk2 hB h, ob, if_neg n62, ob, if_neg n0, ob, if_neg (by decide), if_pos hp, seln (by omega) (by omega), ob]
      · rw [pk1 hB h, ob, if_neg (by decide), ob, if_neg (by decide), if_pos hp, seln (by omega) (by omega), ob]
      · have n47 : ¬ (e == 47) = true := by rw [beq_iff_eq]; omega
        have dl : decide (e < 97) = false := decide_eq_false (by omega)
        have dg : decide (122 < e) = false := decide_eq_false (by omega)
        rw [pk1 hB h, ob, if_neg n47, ob, if_neg (by rw [dl, dg]; simp), if_pos hp, seln (by omega) (by omega), ob]
    · rw [if_neg (by decide), if_pos (by rw [hat_end hB hd]; rfl), if_pos hp, seln (by omega) (by omega), ob]
  | cons c T ih =>
    intro n k tl th hd hT h hs hs2 hk
    obtain ⟨k, rfl⟩ : ∃ j, k = j + 1 := ⟨k - 1, by simp at hk; omega⟩
    obtain ⟨h1, h2⟩ := hT c (by simp)
    rw [List.cons_append] at h
    simp only [List.length_cons] at hs hd ⊢
    simp only [hNText.l0]
    rw [pk0 hB h, ob, if_neg (by simp [h1]), if_neg (by simp [h2]), mv1 hB (lt_of_at h), ih (n + 1) k tl th (by rcases hd with hd | hd; exact .inl hd; exact .inr ⟨hd.1, by omega⟩) (fun x hx => hT x (by simp [hx])) h.tail (by omega) (by omega) (by simp at hk; omega)]
    congr 1
    all_goals simp only [Option.some.injEq, Prod.mk.injEq, eq_self_iff_true, true_and, and_true]
    all_goals omega
theorem h_at {B : List Int} (hB : Sm B) (n : Nat) {c : Int} {R : List Int} (h : At B n (c :: R)) : ¬ decide (0 < ps (n : Int) (n : Int)) = true := by
  have := h.lt
  rw [psn hB (by omega) (by omega)]
  simp
theorem hnext0 (K : Nat) (B : List Int) (p s : Int) (tl th al ah : Int) : hNext.f K B p s 0 false tl th al ah = hNextF.f K B p s tl th al ah := by
  unfold hNext.f
  rw [if_neg (by decide), if_pos (by rfl)]
theorem h_text {B : List Int} (hB : Sm B) (K n : Nat) {T : List Int} {d : Int} {R : List Int} (tl th al ah : Int) (hd : (d = 60 ∧ TagHead R) ∨ (d = 0 ∧ B.length = n + T.length + 1)) (hT : ∀ c ∈ T, c ≠ 60 ∧ c ≠ 0) (h0 : 0 < T.length) (h : At B n (T ++ d :: R)) (hK : T.length < K) :
    hNext.f K B (n : Int) (n : Int) 0 false tl th al ah = some (8, (n : Int), ((n + T.length : Nat) : Int), ((n + T.length : Nat) : Int), ((n + T.length : Nat) : Int), 0, false, (n : Int), ((n + T.length : Nat) : Int), al, ah) := by
  have key := hnx_text hB K (s := n) al ah T n K 0 0 hd hT h (by omega) (by omega) hK
  obtain ⟨c, S, rfl⟩ : ∃ c S, T = c :: S := by
    cases T with
    | nil => simp at h0
    | cons c S => exact ⟨c, S, rfl⟩
  obtain ⟨c1, c2⟩ := hT c (by simp)
  rw [List.cons_append] at h
  rw [hnext0]
  unfold hNextF.f
  rw [pk0 hB h, ob, if_neg (h_at hB n h), if_neg (by simp [c1]), if_neg (by simp [c2])]
  unfold hNText.f
  exact key
theorem h_comment {B : List Int} (hB : Sm B) (K n : Nat) {T R : List Int} (tl th al ah : Int) (hT : ∀ c ∈ T, c ≠ 62 ∧ c ≠ 0) (h : At B n (60 :: 33 :: 45 :: 45 :: (T ++ 45 :: 45 :: 62 :: R))) (hK : T.length + 1 < K) :
    hNext.f K B (n : Int) (n : Int) 0 false tl th al ah = some (1, (n : Int), ((n + T.length + 7 : Nat) : Int), ((n + T.length + 7 : Nat) : Int), ((n + T.length + 7 : Nat) : Int), 0, false, ((n + 4 : Nat) : Int), ((n + 4 + T.length : Nat) : Int), al, ah) := by
  have h2 := h.tail.tail
  have hl := h2.tail.lt
  rw [hnext0]
  unfold hNextF.f
  rw [pk0 hB h, ob, if_neg (h_at hB n h), if_pos (by rfl), pk1 hB h, ob, if_neg (by decide), if_pos (by rfl)]
  unfold hNMark.f hreadMarkup.f
  rw [mv2 (n := n) hB (by omega), atB_yes hB [45, 45] (n + 2) 0 (At.left (T := T ++ 45 :: 45 :: 62 :: R) h2), ob, if_pos rfl, mv2 (n := n + 2) hB (by omega), hcm_l0 hB _ T (n + 2 + 2) _ _ _ hT h2.tail.tail (by omega) (by omega), ob]
  congr 1
  all_goals simp only [Option.some.injEq, Prod.mk.injEq, eq_self_iff_true, true_and, and_true]
  all_goals omega
theorem atC_yes {B : List Int} (hB : Sm B) : ∀ (X : List Int) (n i : Nat), At B (n + i) X → atC B (n : Int) (X.map fun x => (x + 32) % 256) i = some true
  | [], _, _, _ => rfl
  | c :: X, n, i, h => by
    rw [List.map_cons]
    unfold atC
    rw [pkk hB h, ob]
    split
    · exact atC_yes hB X n (i + 1) h.tail
    · rw [if_pos (by simp)]
      exact atC_yes hB X n (i + 1) h.tail
theorem h_type {B : List Int} (hB : Sm B) (K n : Nat) {T R : List Int} (tl th al ah : Int) (hT : ∀ c ∈ T, NC c) (h : At B n ([60, 33, 68, 79, 67, 84, 89, 80, 69] ++ (32 :: T ++ 62 :: R))) (hK : T.length + 2 < K) :
    hNext.f K B (n : Int) (n : Int) 0 false tl th al ah = some (2, (n : Int), ((n + T.length + 11 : Nat) : Int), ((n + T.length + 11 : Nat) : Int), ((n + T.length + 11 : Nat) : Int), 0, false, ((n + 9 : Nat) : Int), ((n + 10 + T.length : Nat) : Int), al, ah) := by
  have h9 := h.right
  have hl := h.len (by simp)
  simp only [List.cons_append, List.nil_append] at h h9
  have h2 := h.tail.tail
  simp at hl
  have hD : At B (n + 2) [68, 79, 67, 84, 89, 80, 69] := At.left (T := 32 :: T ++ 62 :: R) h2
  have h9' : At B (n + 2 + 7) (32 :: (T ++ 62 :: R)) := h9
  rw [hnext0]
  unfold hNextF.f
  rw [pk0 hB h, ob, if_neg (h_at hB n h), if_pos (by rfl), pk1 hB h, ob, if_neg (by decide), if_pos (by rfl)]
  unfold hNMark.f hreadMarkup.f
  rw [mv2 (n := n) hB (by omega), atB_no hB h2 (by decide), ob, if_neg (by decide), atB_no hB h2 (by decide), ob, if_neg (by decide), show ([100, 111, 99, 116, 121, 112, 101] : List Int) = [68, 79, 67, 84, 89, 80, 69].map (fun x => (x + 32) % 256) from rfl, atC_yes hB _ (n + 2) 0 hD, ob, if_pos rfl, mv7 (n := n + 2) hB (by omega), pk0 hB h9', ob, if_pos (by rfl), ob, mv1 hB (by omega)]
  rw [hdt_l2 hB _ T (n + 2 + 7 + 1) _ _ _ (fun c hc => by have := hT c hc; unfold NC at this; omega) h9'.tail (by omega) (by omega), ob]
  congr 1
  all_goals simp only [Option.some.injEq, Prod.mk.injEq, eq_self_iff_true, true_and, and_true]
  all_goals omega
theorem h_end {B : List Int} (hB : Sm B) (K n : Nat) {T R : List Int} (tl th al ah : Int) (hT : ∀ c ∈ T, NC c) (h0 : 0 < T.length) (ha : 97 ≤ T.getD 0 0 ∧ T.getD 0 0 ≤ 122) (h : At B n (60 :: 47 :: (T ++ 62 :: R))) (hK : T.length + 1 < K) :
    hNext.f K B (n : Int) (n : Int) 0 false tl th al ah = some (6, (n : Int), ((n + T.length + 3 : Nat) : Int), ((n + T.length + 3 : Nat) : Int), ((n + T.length + 3 : Nat) : Int), 0, false, ((n + 2 : Nat) : Int), ((n + 2 + T.length : Nat) : Int), al, ah) := by
  have h2 := h.tail.tail
  have hl := h.tail.lt
  have hen := hen_law hB K n 0 false 0 0 al ah hT h0 h (by omega)
  obtain ⟨c, S, rfl⟩ : ∃ c S, T = c :: S := by
    cases T with
    | nil => simp at h0
    | cons c S => exact ⟨c, S, rfl⟩
  rw [List.cons_append] at h h2
  simp only [List.getD_cons_zero] at ha
  rw [hnext0]
  unfold hNextF.f
  rw [pk0 hB h, ob, if_neg (h_at hB n h), if_pos (by rfl), pk1 hB h, ob, if_pos (by rfl), pk2 hB h, ob, mv2 (n := n) hB (by omega), pk0 hB h2, ob, if_pos ⟨rfl, ha⟩]
  unfold hNEnd.f
  rw [mv2 (n := n) hB (by omega), hen, ob]
  congr 1
  all_goals simp only [Option.some.injEq, Prod.mk.injEq, eq_self_iff_true, true_and, and_true]
  all_goals omega
theorem h_start {B : List Int} (hB : Sm B) (K n : Nat) {T R : List Int} {d : Int} (tl th al ah : Int) (hT : ∀ c ∈ T, NC c) (h0 : 0 < T.length) (ha : 97 ≤ T.getD 0 0 ∧ T.getD 0 0 ≤ 122) (hz : toHash T = 0) (h : At B n (60 :: (T ++ d :: R))) (hd : HStop d R) (hK : T.length + 1 < K) :
    hNext.f K B (n : Int) (n : Int) 0 false tl th al ah = some (3, (n : Int), ((n + T.length + 1 : Nat) : Int), ((n + T.length + 1 : Nat) : Int), ((n + T.length + 1 : Nat) : Int), 0, true, ((n + 1 : Nat) : Int), ((n + 1 + T.length : Nat) : Int), al, ah) := by
  have h1 := h.tail
  have hl := h.lt
  have hst := hst_law hB K n (n + 1) 0 true 0 0 al ah hT h1 hd rfl (by omega) hz
  obtain ⟨c, S, rfl⟩ : ∃ c S, T = c :: S := by
    cases T with
    | nil => simp at h0
    | cons c S => exact ⟨c, S, rfl⟩
  rw [List.cons_append] at h
  simp only [List.getD_cons_zero] at ha
  have hc := hT c (by simp)
  rw [hnext0]
  unfold hNextF.f
  rw [pk0 hB h, ob, if_neg (h_at hB n h), if_pos (by rfl), pk1 hB h, ob, if_neg (by rw [hc.ne 47]; decide), if_neg (by rw [hc.ne 33]; decide), if_pos ha]
  unfold hNStart.f
  rw [mv1 (n := n) hB (by omega), hst, ob]
  congr 1
  all_goals simp only [Option.some.injEq, Prod.mk.injEq, eq_self_iff_true, true_and, and_true]
  all_goals omega
theorem h_startRaw {B : List Int} (hB : Sm B) (K n : Nat) {T R : List Int} {d x : Int} (tl th al ah : Int) (hT : ∀ c ∈ T, NC c) (h0 : 0 < T.length) (ha : 97 ≤ T.getD 0 0 ∧ T.getD 0 0 ≤ 122) (hz : toHash T = x) (hx : x ∈ ([9736, 3845, 5125, 7939, 6, 2566] : List Int)) (h : At B n (60 :: (T ++ d :: R))) (hd : HStop d R) (hK : T.length + 1 < K) :
    hNext.f K B (n : Int) (n : Int) 0 false tl th al ah = some (3, (n : Int), ((n + T.length + 1 : Nat) : Int), ((n + T.length + 1 : Nat) : Int), ((n + T.length + 1 : Nat) : Int), x, true, ((n + 1 : Nat) : Int), ((n + 1 + T.length : Nat) : Int), al, ah) := by
  have h1 := h.tail
  have hl := h.lt
  have hst := hst_raw hB K n (n + 1) 0 x true 0 0 al ah hT h1 hd rfl (by omega) hz hx
  obtain ⟨c, S, rfl⟩ : ∃ c S, T = c :: S := by
    cases T with
    | nil => simp at h0
    | cons c S => exact ⟨c, S, rfl⟩
  rw [List.cons_append] at h
  simp only [List.getD_cons_zero] at ha
  have hc := hT c (by simp)
  rw [hnext0]
  unfold hNextF.f
  rw [pk0 hB h, ob, if_neg (h_at hB n h), if_pos (by rfl), pk1 hB h, ob, if_neg (by rw [hc.ne 47]; decide), if_neg (by rw [hc.ne 33]; decide), if_pos ha]
  unfold hNStart.f
  rw [mv1 (n := n) hB (by omega), hst, ob]
  congr 1
  all_goals simp only [Option.some.injEq, Prod.mk.injEq, eq_self_iff_true, true_and, and_true]
  all_goals omega
theorem hnx_l0 {B : List Int} (hB : Sm B) (K : Nat) {d : Int} {R : List Int} (hd : ¬ BL d) (h12 : d ≠ 12) : ∀ (S : List Int) (n k : Nat), (∀ c ∈ S, BL c) → At B n (S ++ d :: R) → S.length < k → hNextT.l0 K B k (n : Int) = some (d, ((n + S.length : Nat) : Int)) := by
  intro S
  induction S with
  | nil =>
    intro n k _ h hk
    obtain ⟨k, rfl⟩ : ∃ j, k = j + 1 := ⟨k - 1, by simp at hk; omega⟩
    simp only [List.nil_append] at h
    simp only [hNextT.l0]
    rw [pk0 hB h, ob, if_neg (by rw [blanks5_no hd h12]; decide)]
    rfl
  | cons c S ih =>
    intro n k hS h hk
    obtain ⟨k, rfl⟩ : ∃ j, k = j + 1 := ⟨k - 1, by simp at hk; omega⟩
    rw [List.cons_append] at h
    simp only [hNextT.l0]
    rw [pk0 hB h, ob, if_pos (hS c (by simp)).yes5, mv1 hB (lt_of_at h), ih (n + 1) k (fun x hx => hS x (by simp [hx])) h.tail (by simp at hk; omega)]
    simp only [List.length_cons]
    congr 3
    omega
theorem hnextT (K : Nat) (B : List Int) (p s rt : Int) (tl th al ah : Int) : hNext.f K B p s rt true tl th al ah = hNextT.f K B p s rt true tl th al ah := by
  unfold hNext.f
  rw [if_pos rfl]
theorem h_attrV {B : List Int} (hB : Sm B) (K n : Nat) (rt : Int) {before name ahead behind v : List Int} {R : List Int} (tl th al ah : Int) (hbf : ∀ c ∈ before, BL c) (hN : ∀ c ∈ name, NC c) (h0 : 0 < name.length) (hA : ∀ c ∈ ahead, BL c) (hb : ∀ c ∈ behind, BL c)
    (hV : GoodV v R) (h : At B n (before ++ (attrV name ahead behind v ++ R))) (hK : B.length < K) :
    hNext.f K B (n : Int) (n : Int) rt true tl th al ah = some (7, (n : Int), ((n + before.length + (attrV name ahead behind v).length : Nat) : Int), ((n + before.length + (attrV name ahead behind v).length : Nat) : Int), ((n + before.length + (attrV name ahead behind v).length : Nat) : Int), rt, true, ((n + before.length : Nat) : Int), ((n + before.length + name.length : Nat) : Int), ((n + before.length + name.length + ahead.length + 1 + behind.length : Nat) : Int), ((n + before.length + (attrV name ahead behind v).length : Nat) : Int)) := by
  obtain ⟨c, S, rfl⟩ : ∃ c S, name = c :: S := by
    cases name with
    | nil => simp at h0
    | cons c S => exact ⟨c, S, rfl⟩
  have hc := hN c (by simp)
  have hcb : ¬ BL c := by unfold BL; unfold NC at hc; omega
  have h1 := h.right
  have hl := At.len h1.left (by simp [attrV])
  have h' := h
  unfold attrV at h'
  simp only [List.append_assoc, List.cons_append] at h'
  rw [hnextT]
  unfold hNextT.f
  rw [hnx_l0 hB K hcb (by unfold NC at hc; omega) before n K hbf h' (by omega), ob]
  dsimp only
  rw [if_neg (by rw [hc.ne 0]; simp), if_neg (by rw [hc.ne 62]; decide), if_neg (by rw [hc.ne 47]; decide), ob, if_pos rfl]
  rw [hsa_law hB K n (n + before.length) _ _ _ _ _ _ hN hA hb hV h1 (by omega) hK, ob]
theorem h_attrN {B : List Int} (hB : Sm B) (K n : Nat) (rt : Int) {before name S : List Int} {d : Int} {R : List Int} (tl th al ah : Int) (hbf : ∀ c ∈ before, BL c) (hN : ∀ c ∈ name, NC c) (h0 : 0 < name.length) (hS : ∀ c ∈ S, BL c) (hd : ¬ BL d) (h12 : d ≠ 12) (h61 : d ≠ 61) (hst : S = [] → HStop d R)
    (h : At B n (before ++ (name ++ (S ++ d :: R)))) (hK : B.length < K) :
    hNext.f K B (n : Int) (n : Int) rt true tl th al ah = some (7, (n : Int), ((n + before.length + name.length : Nat) : Int), ((n + before.length + name.length : Nat) : Int), ((n + before.length + name.length : Nat) : Int), rt, true, ((n + before.length : Nat) : Int), ((n + before.length + name.length : Nat) : Int), 0, 0) := by
  have h1 := h.right
  have hl := At.len h1.left h0
  have key := hsa_none hB K n (n + before.length) rt true 0 0 0 0 hN hS hd h12 h61 hst h1 (by omega) hK
  obtain ⟨c, S, rfl⟩ : ∃ c S, name = c :: S := by
    cases name with
    | nil => simp at h0
    | cons c S => exact ⟨c, S, rfl⟩
  have hc := hN c (by simp)
  have hcb : ¬ BL c := by unfold BL; unfold NC at hc; omega
  rw [List.cons_append] at h
  rw [hnextT]
  unfold hNextT.f
  rw [hnx_l0 hB K hcb (by unfold NC at hc; omega) before n K hbf h (by omega), ob]
  dsimp only
  rw [if_neg (by rw [hc.ne 0]; simp), if_neg (by rw [hc.ne 62]; decide), if_neg (by rw [hc.ne 47]; decide), ob, if_pos rfl, key, ob]
theorem h_close {B : List Int} (hB : Sm B) (K n : Nat) (rt : Int) {S R : List Int} (tl th al ah : Int) (hS : ∀ c ∈ S, BL c) (h : At B n (S ++ 62 :: R)) (hK : S.length < K) :
    hNext.f K B (n : Int) (n : Int) rt true tl th al ah = some (4, ((n + S.length : Nat) : Int), ((n + S.length + 1 : Nat) : Int), ((n + S.length + 1 : Nat) : Int), ((n + S.length + 1 : Nat) : Int), rt, false, 0, 0, 0, 0) := by
  have hl := h.right.lt
  rw [hnextT]
  unfold hNextT.f
  rw [hnx_l0 hB K (by unfold BL; omega) (by decide) S n K hS h hK, ob]
  dsimp only
  rw [if_neg (by simp), if_pos (by rfl), ob, if_neg (by decide), if_neg (by decide), mv1 (n := n + S.length) hB (by omega), seln (by omega) (by omega), ob]
theorem h_void {B : List Int} (hB : Sm B) (K n : Nat) (rt : Int) {S R : List Int} (tl th al ah : Int) (hS : ∀ c ∈ S, BL c) (h : At B n (S ++ 47 :: 62 :: R)) (hK : S.length < K) :
    hNext.f K B (n : Int) (n : Int) rt true tl th al ah = some (5, ((n + S.length : Nat) : Int), ((n + S.length + 2 : Nat) : Int), ((n + S.length + 2 : Nat) : Int), ((n + S.length + 2 : Nat) : Int), rt, false, 0, 0, 0, 0) := by
  have h1 := h.right
  have hl := h1.tail.lt
  rw [hnextT]
  unfold hNextT.f
  rw [hnx_l0 hB K (by unfold BL; omega) (by decide) S n K hS h hK, ob]
  dsimp only
  rw [if_neg (by simp), if_neg (by decide), if_pos (by rfl), pk1 hB h1, ob, ob, if_neg (by decide), if_pos (by rfl), mv2 (n := n + S.length) hB (by omega), seln (by omega) (by omega), ob]
theorem h_last {B : List Int} (hB : Sm B) (K n : Nat) (tl th al ah : Int) (h : At B n [0]) (hn : B.length = n + 1) :
    hNext.f K B (n : Int) (n : Int) 0 false tl th al ah = some (0, 0, 0, (n : Int), (n : Int), 0, false, 0, 0, al, ah) ∧ atEnd B (n : Int) 0 = true := by
  have he := hat_end hB hn
  refine ⟨?_, he⟩
  rw [hnext0]
  unfold hNextF.f
  rw [pk0 hB h, ob, if_neg (h_at hB n h), if_neg (by decide), if_pos (by rfl), if_pos he]
  unfold hNLast.f
  rfl
end Go.Proofs.YtfcedenofbefcaaGreatDoor
