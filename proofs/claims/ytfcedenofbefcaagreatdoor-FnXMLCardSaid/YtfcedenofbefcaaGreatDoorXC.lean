import Derived.Test.YtfcedenofbefcaaGreatDoorXB
import Derived.Test.YtfcedenofbefcaaGreatDoorX6
namespace Go.Proofs.YtfcedenofbefcaaGreatDoor
open Go.RowKit
set_option linter.unusedVariables false
set_option linter.unusedSimpArgs false
/-! The plain law of Next, of the lexer of XML. -/
theorem xnx_text {B : List Int} (hB : Sm B) (K : Nat) {s : Nat} {d : Int} {R : List Int} (hd : d = 60 ∨ d = 0) (al ah : Int) : ∀ (T : List Int) (n k : Nat) (tl th : Int), (∀ c ∈ T, c ≠ 60 ∧ c ≠ 0) → At B n (T ++ d :: R) → s < n + T.length → s ≤ n → T.length < k →
    xNText.l0 K B k (n : Int) (s : Int) false tl th al ah = some (11, (s : Int), ((n + T.length : Nat) : Int), ((n + T.length : Nat) : Int), ((n + T.length : Nat) : Int), false, (s : Int), ((n + T.length : Nat) : Int), al, ah) := by
  intro T
  induction T with
  | nil =>
    intro n k tl th _ h hs hs2 hk
    obtain ⟨k, rfl⟩ : ∃ j, k = j + 1 := ⟨k - 1, by simp at hk; omega⟩
    simp only [List.nil_append] at h
    simp only [List.length_nil, Nat.add_zero] at hs ⊢
    have hl := h.lt
    have hp : decide (0 < ps (n : Int) (s : Int)) = true := by
      rw [psn hB (by omega) hs2]
      simp
      omega
    simp only [xNText.l0]
    rw [pk0 hB h, ob]
    rcases hd with rfl | rfl
    · rw [if_pos (by rfl), if_pos hp, seln (by omega) (by omega), ob]
    · rw [if_neg (by decide), if_pos (by rfl), if_pos hp, seln (by omega) (by omega), ob]
  | cons c T ih =>
    intro n k tl th hT h hs hs2 hk
    obtain ⟨k, rfl⟩ : ∃ j, k = j + 1 := ⟨k - 1, by simp at hk; omega⟩
    obtain ⟨h1, h2⟩ := hT c (by simp)
    rw [List.cons_append] at h
    simp only [xNText.l0]
    rw [pk0 hB h, ob, if_neg (by simp [h1]), if_neg (by simp [h2]), mv1 hB (le_of_at h), ih (n + 1) k tl th (fun x hx => hT x (by simp [hx])) h.tail (by omega) (by omega) (by simp at hk; omega)]
    simp only [List.length_cons]
    congr 1
    all_goals simp only [Option.some.injEq, Prod.mk.injEq, eq_self_iff_true, true_and, and_true]
    all_goals omega
theorem x_at {B : List Int} (hB : Sm B) (n : Nat) {c : Int} {R : List Int} (h : At B n (c :: R)) : ¬ decide (0 < ps (n : Int) (n : Int)) = true := by
  have := h.lt
  rw [psn hB (by omega) (by omega)]
  simp
theorem x_text {B : List Int} (hB : Sm B) (K n : Nat) {T : List Int} {d : Int} {R : List Int} (tl th al ah : Int) (hd : d = 60 ∨ d = 0) (hT : ∀ c ∈ T, c ≠ 60 ∧ c ≠ 0) (h0 : 0 < T.length) (h : At B n (T ++ d :: R)) (hK : T.length < K) :
    xNext.f K B (n : Int) (n : Int) false tl th al ah = some (11, (n : Int), ((n + T.length : Nat) : Int), ((n + T.length : Nat) : Int), ((n + T.length : Nat) : Int), false, (n : Int), ((n + T.length : Nat) : Int), al, ah) := by
  have key := xnx_text hB K (s := n) hd al ah T n K 0 0 hT h (by omega) (by omega) hK
  obtain ⟨c, S, rfl⟩ : ∃ c S, T = c :: S := by
    cases T with
    | nil => simp at h0
    | cons c S => exact ⟨c, S, rfl⟩
  obtain ⟨c1, c2⟩ := hT c (by simp)
  rw [List.cons_append] at h
  unfold xNext.f
  rw [if_neg (by decide)]
  unfold xNextF.f
  rw [pk0 hB h, ob, if_neg (x_at hB n h), if_neg (by simp [c1]), if_neg (by simp [c2])]
  exact key
theorem x_comment {B : List Int} (hB : Sm B) (K n : Nat) {T R : List Int} (tl th al ah : Int) (hT : ∀ c ∈ T, c ≠ 62 ∧ c ≠ 0) (h : At B n (60 :: 33 :: 45 :: 45 :: (T ++ 45 :: 45 :: 62 :: R))) (hK : T.length + 1 < K) :
    xNext.f K B (n : Int) (n : Int) false tl th al ah = some (1, (n : Int), ((n + T.length + 7 : Nat) : Int), ((n + T.length + 7 : Nat) : Int), ((n + T.length + 7 : Nat) : Int), false, ((n + 4 : Nat) : Int), ((n + 4 + T.length : Nat) : Int), al, ah) := by
  have h2 := h.tail.tail
  have hl := h2.tail.lt
  unfold xNext.f
  rw [if_neg (by decide)]
  unfold xNextF.f
  rw [pk0 hB h, ob, if_neg (x_at hB n h), if_pos (by rfl), pk1 hB h, ob, if_neg (by decide), if_pos (by rfl), mv2 (n := n) hB (by omega), atB_yes hB [45, 45] (n + 2) 0 (At.left (T := T ++ 45 :: 45 :: 62 :: R) h2), ob, if_pos rfl]
  unfold xNComment.f xshiftCommentText.f
  rw [mv2 (n := n) hB (by omega), mv2 (n := n + 2) hB (by omega), xsc_l0 hB _ T (n + 2 + 2) _ hT h2.tail.tail (by omega) (by omega), ob]
  congr 1
  all_goals simp only [Option.some.injEq, Prod.mk.injEq, eq_self_iff_true, true_and, and_true]
  all_goals omega
theorem x_section {B : List Int} (hB : Sm B) (K n : Nat) {T R : List Int} (tl th al ah : Int) (hT : ∀ c ∈ T, c ≠ 93 ∧ c ≠ 0) (h : At B n ([60, 33, 91, 67, 68, 65, 84, 65, 91] ++ (T ++ 93 :: 93 :: 62 :: R))) (hK : T.length + 1 < K) :
    xNext.f K B (n : Int) (n : Int) false tl th al ah = some (3, (n : Int), ((n + T.length + 12 : Nat) : Int), ((n + T.length + 12 : Nat) : Int), ((n + T.length + 12 : Nat) : Int), false, ((n + 9 : Nat) : Int), ((n + 9 + T.length : Nat) : Int), al, ah) := by
  have h9 := h.right
  have hl := h.len (by simp)
  simp only [List.cons_append, List.nil_append] at h
  have h2 := h.tail.tail
  simp at hl
  unfold xNext.f
  rw [if_neg (by decide)]
  unfold xNextF.f
  rw [pk0 hB h, ob, if_neg (x_at hB n h), if_pos (by rfl), pk1 hB h, ob, if_neg (by decide), if_pos (by rfl), mv2 (n := n) hB (by omega), atB_no hB h2 (by decide), ob, if_neg (by decide), atB_yes hB [91, 67, 68, 65, 84, 65, 91] (n + 2) 0 (At.left (T := T ++ 93 :: 93 :: 62 :: R) h2), ob, if_pos rfl]
  unfold xNCDATA.f xshiftCDATAText.f
  rw [mv2 (n := n) hB (by omega), mv7 (n := n + 2) hB (by omega), xcd_l0 hB _ T (n + 2 + 7) _ hT h9 (by omega) (by omega), ob]
  congr 1
  all_goals simp only [Option.some.injEq, Prod.mk.injEq, eq_self_iff_true, true_and, and_true]
  all_goals omega
theorem x_type {B : List Int} (hB : Sm B) (K n : Nat) {T R : List Int} (tl th al ah : Int) (hT : ∀ c ∈ T, NC c) (h : At B n ([60, 33, 68, 79, 67, 84, 89, 80, 69] ++ (32 :: T ++ 62 :: R))) (hK : T.length + 2 < K) :
    xNext.f K B (n : Int) (n : Int) false tl th al ah = some (2, (n : Int), ((n + T.length + 11 : Nat) : Int), ((n + T.length + 11 : Nat) : Int), ((n + T.length + 11 : Nat) : Int), false, ((n + 9 : Nat) : Int), ((n + 10 + T.length : Nat) : Int), al, ah) := by
  have h9 := h.right
  have hl := h.len (by simp)
  simp only [List.cons_append, List.nil_append] at h
  have h2 := h.tail.tail
  simp at hl
  unfold xNext.f
  rw [if_neg (by decide)]
  unfold xNextF.f
  rw [pk0 hB h, ob, if_neg (x_at hB n h), if_pos (by rfl), pk1 hB h, ob, if_neg (by decide), if_pos (by rfl), mv2 (n := n) hB (by omega), atB_no hB h2 (by decide), ob, if_neg (by decide), atB_no hB h2 (by decide), ob, if_neg (by decide), atB_yes hB [68, 79, 67, 84, 89, 80, 69] (n + 2) 0 (At.left (T := 32 :: T ++ 62 :: R) h2), ob, if_pos rfl]
  unfold xNDOCTYPE.f xshiftDOCTYPEText.f
  rw [mv2 (n := n) hB (by omega), mv7 (n := n + 2) hB (by omega), xdt_l0 hB _ (32 :: T) (n + 2 + 7) _ (fun c hc => by rcases List.mem_cons.mp hc with rfl | hc; exact .inr rfl; exact .inl (hT c hc)) h9 (by omega) (by simp; omega), ob]
  congr 1
  all_goals simp only [Option.some.injEq, Prod.mk.injEq, eq_self_iff_true, true_and, and_true, List.length_cons]
  all_goals omega
theorem x_end {B : List Int} (hB : Sm B) (K n : Nat) {T R : List Int} (tl th al ah : Int) (hT : ∀ c ∈ T, NC c) (h0 : 0 < T.length) (h : At B n (60 :: 47 :: (T ++ 62 :: R))) (hK : T.length + 1 < K) :
    xNext.f K B (n : Int) (n : Int) false tl th al ah = some (9, (n : Int), ((n + T.length + 3 : Nat) : Int), ((n + T.length + 3 : Nat) : Int), ((n + T.length + 3 : Nat) : Int), false, ((n + 2 : Nat) : Int), ((n + 2 + T.length : Nat) : Int), al, ah) := by
  have h2 := h.tail.tail
  have hl := h.tail.lt
  unfold xNext.f
  rw [if_neg (by decide)]
  unfold xNextF.f
  rw [pk0 hB h, ob, if_neg (x_at hB n h), if_pos (by rfl), pk1 hB h, ob, if_pos (by rfl)]
  unfold xNEnd.f
  rw [mv2 (n := n) hB (by omega), xen_law hB _ n _ _ _ _ _ hT h0 h2 (by omega), ob]
  congr 1
  all_goals simp only [Option.some.injEq, Prod.mk.injEq, eq_self_iff_true, true_and, and_true]
  all_goals omega
theorem x_start {B : List Int} (hB : Sm B) (K n : Nat) {T R : List Int} {d : Int} (tl th al ah : Int) (hT : ∀ c ∈ T, NC c) (h0 : 0 < T.length) (h : At B n (60 :: (T ++ d :: R))) (hd : XStop d R) (hK : T.length + 1 < K) :
    xNext.f K B (n : Int) (n : Int) false tl th al ah = some (4, (n : Int), ((n + T.length + 1 : Nat) : Int), ((n + T.length + 1 : Nat) : Int), ((n + T.length + 1 : Nat) : Int), true, ((n + 1 : Nat) : Int), ((n + 1 + T.length : Nat) : Int), al, ah) := by
  obtain ⟨c, S, rfl⟩ : ∃ c S, T = c :: S := by
    cases T with
    | nil => simp at h0
    | cons c S => exact ⟨c, S, rfl⟩
  have hc := hT c (by simp)
  have h1 := h.tail
  have hl := h.lt
  have h' := h
  rw [List.cons_append] at h'
  unfold xNext.f
  rw [if_neg (by decide)]
  unfold xNextF.f
  rw [pk0 hB h, ob, if_neg (x_at hB n h), if_pos (by rfl), pk1 hB h', ob, if_neg (by rw [hc.ne 47]; decide), if_neg (by rw [hc.ne 33]; decide), if_neg (by rw [hc.ne 63]; decide)]
  unfold xNStart.f
  rw [ob, mv1 (n := n) hB (by omega), xst_law hB _ n (n + 1) _ _ _ _ _ hT h1 hd (by omega) (by omega), ob]
  congr 1
  all_goals simp only [Option.some.injEq, Prod.mk.injEq, eq_self_iff_true, true_and, and_true]
  all_goals omega
theorem x_process {B : List Int} (hB : Sm B) (K n : Nat) {T R : List Int} {d : Int} (tl th al ah : Int) (hT : ∀ c ∈ T, NC c) (h : At B n (60 :: 63 :: (T ++ d :: R))) (hd : XStop d R) (hK : T.length + 1 < K) :
    xNext.f K B (n : Int) (n : Int) false tl th al ah = some (5, (n : Int), ((n + T.length + 2 : Nat) : Int), ((n + T.length + 2 : Nat) : Int), ((n + T.length + 2 : Nat) : Int), true, ((n + 2 : Nat) : Int), ((n + 2 + T.length : Nat) : Int), al, ah) := by
  have h2 := h.tail.tail
  have hl := h.tail.lt
  unfold xNext.f
  rw [if_neg (by decide)]
  unfold xNextF.f
  rw [pk0 hB h, ob, if_neg (x_at hB n h), if_pos (by rfl), pk1 hB h, ob, if_neg (by decide), if_neg (by decide), if_pos (by rfl)]
  unfold xNPI.f
  rw [mv2 (n := n) hB (by omega), xst_law hB _ n (n + 2) _ _ _ _ _ hT h2 hd (by omega) (by omega), ob]
  congr 1
  all_goals simp only [Option.some.injEq, Prod.mk.injEq, eq_self_iff_true, true_and, and_true]
  all_goals omega
theorem xnx_l0 {B : List Int} (hB : Sm B) (K : Nat) {d : Int} {R : List Int} (hd : ¬ BL d) : ∀ (S : List Int) (n k : Nat), (∀ c ∈ S, BL c) → At B n (S ++ d :: R) → S.length < k → xNextT.l0 K B k (n : Int) = some (d, ((n + S.length : Nat) : Int)) := by
  intro S
  induction S with
  | nil =>
    intro n k _ h hk
    obtain ⟨k, rfl⟩ : ∃ j, k = j + 1 := ⟨k - 1, by simp at hk; omega⟩
    simp only [List.nil_append] at h
    simp only [xNextT.l0]
    rw [pk0 hB h, ob, if_neg (by rw [blanks_no hd]; decide)]
    rfl
  | cons c S ih =>
    intro n k hS h hk
    obtain ⟨k, rfl⟩ : ∃ j, k = j + 1 := ⟨k - 1, by simp at hk; omega⟩
    rw [List.cons_append] at h
    simp only [xNextT.l0]
    rw [pk0 hB h, ob, if_pos (hS c (by simp)).yes, mv1 hB (le_of_at h), ih (n + 1) k (fun x hx => hS x (by simp [hx])) h.tail (by simp at hk; omega)]
    simp only [List.length_cons]
    congr 3
    omega
theorem x_attr {B : List Int} (hB : Sm B) (K n : Nat) {before name ahead behind value : List Int} {q : Int} {R : List Int} (tl th al ah : Int) (hq : q = 34 ∨ q = 39) (hbf : ∀ c ∈ before, BL c) (hN : ∀ c ∈ name, NC c) (h0 : 0 < name.length) (hA : ∀ c ∈ ahead, BL c) (hb : ∀ c ∈ behind, BL c)
    (hV : ∀ c ∈ value, c ≠ q ∧ c ≠ 0 ∧ c ≠ 9 ∧ c ≠ 10 ∧ c ≠ 13) (h : At B n (before ++ (attrQ name ahead behind value q ++ R))) (hK : B.length < K) :
    xNext.f K B (n : Int) (n : Int) true tl th al ah = some (10, (n : Int), ((n + before.length + (attrQ name ahead behind value q).length : Nat) : Int), ((n + before.length + (attrQ name ahead behind value q).length : Nat) : Int), ((n + before.length + (attrQ name ahead behind value q).length : Nat) : Int), true, ((n + before.length : Nat) : Int), ((n + before.length + name.length : Nat) : Int), ((n + before.length + name.length + ahead.length + 1 + behind.length : Nat) : Int), ((n + before.length + (attrQ name ahead behind value q).length : Nat) : Int)) := by
  obtain ⟨c, S, rfl⟩ : ∃ c S, name = c :: S := by
    cases name with
    | nil => simp at h0
    | cons c S => exact ⟨c, S, rfl⟩
  have hc := hN c (by simp)
  have hcb : ¬ BL c := by unfold BL; unfold NC at hc; omega
  have h1 := h.right
  have hl := At.len h1.left (by simp [attrQ])
  have h' := h
  unfold attrQ at h'
  simp only [List.append_assoc, List.cons_append] at h'
  unfold xNext.f
  rw [if_pos rfl]
  unfold xNextT.f
  rw [xnx_l0 hB K hcb before n K hbf h' (by omega), ob]
  dsimp only
  rw [if_neg (by rw [hc.ne 0]; decide), if_neg (by rw [hc.ne 62]; decide), if_neg (by rw [hc.ne 47]; decide), if_neg (by rw [hc.ne 63]; decide), ob, if_pos rfl]
  rw [xsa_law hB K n (n + before.length) _ _ _ _ _ hq hN hA hb hV h1 (by omega) hK, ob]
theorem x_close {B : List Int} (hB : Sm B) (K n : Nat) {S R : List Int} (tl th al ah : Int) (hS : ∀ c ∈ S, BL c) (h : At B n (S ++ 62 :: R)) (hK : S.length < K) :
    xNext.f K B (n : Int) (n : Int) true tl th al ah = some (6, ((n + S.length : Nat) : Int), ((n + S.length + 1 : Nat) : Int), ((n + S.length + 1 : Nat) : Int), ((n + S.length + 1 : Nat) : Int), false, 0, 0, 0, 0) := by
  have hl := h.right.lt
  unfold xNext.f
  rw [if_pos rfl]
  unfold xNextT.f
  rw [xnx_l0 hB K (by unfold BL; omega) S n K hS h hK, ob]
  dsimp only
  rw [if_neg (by decide), if_pos (by rfl), ob, if_neg (by decide), if_neg (by decide), if_neg (by decide), mv1 (n := n + S.length) hB (by omega), seln (by omega) (by omega), ob]
theorem x_void {B : List Int} (hB : Sm B) (K n : Nat) {S R : List Int} (tl th al ah : Int) (hS : ∀ c ∈ S, BL c) (h : At B n (S ++ 47 :: 62 :: R)) (hK : S.length < K) :
    xNext.f K B (n : Int) (n : Int) true tl th al ah = some (7, ((n + S.length : Nat) : Int), ((n + S.length + 2 : Nat) : Int), ((n + S.length + 2 : Nat) : Int), ((n + S.length + 2 : Nat) : Int), false, 0, 0, 0, 0) := by
  have h1 := h.right
  have hl := h1.tail.lt
  unfold xNext.f
  rw [if_pos rfl]
  unfold xNextT.f
  rw [xnx_l0 hB K (by unfold BL; omega) S n K hS h hK, ob]
  dsimp only
  rw [if_neg (by decide), if_neg (by decide), if_pos (by rfl), pk1 hB h1, ob, ob, if_neg (by decide), if_pos (by rfl), mv2 (n := n + S.length) hB (by omega), seln (by omega) (by omega), ob]
theorem x_closePI {B : List Int} (hB : Sm B) (K n : Nat) {S R : List Int} (tl th al ah : Int) (hS : ∀ c ∈ S, BL c) (h : At B n (S ++ 63 :: 62 :: R)) (hK : S.length < K) :
    xNext.f K B (n : Int) (n : Int) true tl th al ah = some (8, ((n + S.length : Nat) : Int), ((n + S.length + 2 : Nat) : Int), ((n + S.length + 2 : Nat) : Int), ((n + S.length + 2 : Nat) : Int), false, 0, 0, 0, 0) := by
  have h1 := h.right
  have hl := h1.tail.lt
  unfold xNext.f
  rw [if_pos rfl]
  unfold xNextT.f
  rw [xnx_l0 hB K (by unfold BL; omega) S n K hS h hK, ob]
  dsimp only
  rw [if_neg (by decide), if_neg (by decide), if_neg (by decide), if_pos (by rfl), pk1 hB h1, ob, ob, if_neg (by decide), if_neg (by decide), if_pos (by rfl), mv2 (n := n + S.length) hB (by omega), seln (by omega) (by omega), ob]
theorem x_last {B : List Int} (hB : Sm B) (K n : Nat) (tl th al ah : Int) (h : At B n [0]) (hn : B.length = n + 1) (hK : 0 < K) :
    xNext.f K B (n : Int) (n : Int) false tl th al ah = some (0, 0, 0, (n : Int), (n : Int), false, 0, 0, al, ah) ∧ atEnd B (n : Int) 0 = true := by
  have hs := hB
  unfold Sm at hs
  have he : atEnd B (n : Int) 0 = true := by
    unfold atEnd
    rw [wrap_small (by omega) (by omega), wrap_small (by omega) (by omega)]
    simp
    omega
  refine ⟨?_, he⟩
  unfold xNext.f
  rw [if_neg (by decide)]
  unfold xNextF.f
  rw [pk0 hB h, ob, if_neg (x_at hB n h), if_neg (by decide), if_pos (by rfl)]
  unfold xNLast.f
  rw [if_pos he]
end Go.Proofs.YtfcedenofbefcaaGreatDoor
