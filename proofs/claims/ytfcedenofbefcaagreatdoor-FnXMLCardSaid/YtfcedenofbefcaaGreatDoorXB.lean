import Derived.Test.YtfcedenofbefcaaGreatDoorA0
import Derived.Test.YtfcedenofbefcaaGreatDoorX2
import Derived.Test.YtfcedenofbefcaaGreatDoorX1
import Derived.Test.YtfcedenofbefcaaGreatDoorX3
namespace Go.Proofs.YtfcedenofbefcaaGreatDoor
open Go.RowKit
set_option linter.unusedVariables false
set_option linter.unusedSimpArgs false
/-! The plain law of the lexer of XML, token by token. -/
/-- What ends a name. -/
def XStop (d : Int) (R : List Int) : Prop := d = 62 ∨ BL d ∨ ((d = 47 ∨ d = 63) ∧ ∃ R', R = 62 :: R')
theorem le_of_at {B : List Int} {n : Nat} {c : Int} {T : List Int} (h : At B n (c :: T)) : n ≤ B.length := Nat.le_of_lt h.lt
theorem xst_l0 {B : List Int} (hB : Sm B) (K : Nat) {d : Int} {R : List Int} (hd : XStop d R) : ∀ (S : List Int) (n k : Nat), (∀ c ∈ S, NC c) → At B n (S ++ d :: R) → S.length < k → xshiftStartTag.l0 K B k (n : Int) = some ((n + S.length : Nat) : Int) := by
  intro S
  induction S with
  | nil =>
    intro n k _ h hk
    obtain ⟨k, rfl⟩ : ∃ j, k = j + 1 := ⟨k - 1, by simp at hk; omega⟩
    simp only [List.nil_append] at h
    simp only [xshiftStartTag.l0]
    rw [pk0 hB h, ob]
    rcases hd with rfl | hd | ⟨hd, R', rfl⟩
    · simp [ob]
    · rcases hd with rfl | rfl | rfl | rfl <;> simp [ob]
    · rcases hd with rfl | rfl <;> simp [ob, pk1 hB h]
  | cons c S ih =>
    intro n k hS h hk
    obtain ⟨k, rfl⟩ : ∃ j, k = j + 1 := ⟨k - 1, by simp at hk; omega⟩
    have hc := hS c (by simp)
    rw [List.cons_append] at h
    simp only [xshiftStartTag.l0]
    rw [pk0 hB h, ob]
    simp only [hc.ne 32, hc.ne 62, hc.ne 47, hc.ne 63, hc.ne 9, hc.ne 10, hc.ne 13, hc.ne 0, Bool.false_eq_true, if_false, ob]
    rw [mv1 hB (le_of_at h), ih (n + 1) k (fun x hx => hS x (by simp [hx])) h.tail (by simp at hk; omega)]
    simp only [List.length_cons]
    congr 2
    omega
theorem xst_law {B : List Int} (hB : Sm B) (K s n : Nat) (tg : Bool) (tl th al ah : Int) {S : List Int} {d : Int} {R : List Int} (hS : ∀ c ∈ S, NC c) (h : At B n (S ++ d :: R)) (hd : XStop d R) (hs : s ≤ n) (hK : S.length < K) :
    xshiftStartTag.f K B (n : Int) (s : Int) tg tl th al ah = some ((s : Int), ((n + S.length : Nat) : Int), ((n + S.length : Nat) : Int), ((n + S.length : Nat) : Int), (n : Int), ((n + S.length : Nat) : Int)) := by
  have hl := h.right.lt
  unfold xshiftStartTag.f
  rw [xst_l0 hB K hd S n K hS h hK, ob, seln (by omega) (by omega), ob, psn hB (by omega) hs, cutn (by omega), ob, ob]
  rw [show (s : Int) + ((n - s : Nat) : Int) = (n : Int) by omega]
theorem xsa_l0 {B : List Int} (hB : Sm B) (K : Nat) {d : Int} {R : List Int} (hd : BL d ∨ d = 61) : ∀ (S : List Int) (n k : Nat), (∀ c ∈ S, NC c) → At B n (S ++ d :: R) → S.length < k → xshiftAttribute.l0 K B k (n : Int) = some ((n + S.length : Nat) : Int) := by
  intro S
  induction S with
  | nil =>
    intro n k _ h hk
    obtain ⟨k, rfl⟩ : ∃ j, k = j + 1 := ⟨k - 1, by simp at hk; omega⟩
    simp only [List.nil_append] at h
    simp only [xshiftAttribute.l0]
    rw [pk0 hB h, ob]
    rcases hd with hd | rfl
    · rcases hd with rfl | rfl | rfl | rfl <;> simp [ob]
    · simp [ob]
  | cons c S ih =>
    intro n k hS h hk
    obtain ⟨k, rfl⟩ : ∃ j, k = j + 1 := ⟨k - 1, by simp at hk; omega⟩
    have hc := hS c (by simp)
    rw [List.cons_append] at h
    simp only [xshiftAttribute.l0]
    rw [pk0 hB h, ob]
    simp only [hc.ne 32, hc.ne 61, hc.ne 62, hc.ne 47, hc.ne 63, hc.ne 9, hc.ne 10, hc.ne 13, hc.ne 0, Bool.false_eq_true, if_false, ob]
    rw [mv1 hB (le_of_at h), ih (n + 1) k (fun x hx => hS x (by simp [hx])) h.tail (by simp at hk; omega)]
    simp only [List.length_cons]
    congr 2
    omega
theorem xsa_l1 {B : List Int} (hB : Sm B) (K : Nat) {d : Int} {R : List Int} (hd : ¬ BL d) : ∀ (S : List Int) (n k : Nat), (∀ c ∈ S, BL c) → At B n (S ++ d :: R) → S.length < k → xshiftAttribute.l1 K B k (n : Int) = some (d, ((n + S.length : Nat) : Int)) := by
  intro S
  induction S with
  | nil =>
    intro n k _ h hk
    obtain ⟨k, rfl⟩ : ∃ j, k = j + 1 := ⟨k - 1, by simp at hk; omega⟩
    simp only [List.nil_append] at h
    simp only [xshiftAttribute.l1]
    rw [pk0 hB h, ob, if_neg (by rw [blanks_no hd]; decide)]
    rfl
  | cons c S ih =>
    intro n k hS h hk
    obtain ⟨k, rfl⟩ : ∃ j, k = j + 1 := ⟨k - 1, by simp at hk; omega⟩
    rw [List.cons_append] at h
    simp only [xshiftAttribute.l1]
    rw [pk0 hB h, ob, if_pos (hS c (by simp)).yes, mv1 hB (le_of_at h), ih (n + 1) k (fun x hx => hS x (by simp [hx])) h.tail (by simp at hk; omega)]
    simp only [List.length_cons]
    congr 3
    omega
theorem xsa_l2 {B : List Int} (hB : Sm B) (K : Nat) {d : Int} {R : List Int} (hd : ¬ BL d) : ∀ (S : List Int) (n k : Nat), (∀ c ∈ S, BL c) → At B n (S ++ d :: R) → S.length < k → xshiftAttribute.l2 K B k (n : Int) = some (d, ((n + S.length : Nat) : Int)) := by
  intro S
  induction S with
  | nil =>
    intro n k _ h hk
    obtain ⟨k, rfl⟩ : ∃ j, k = j + 1 := ⟨k - 1, by simp at hk; omega⟩
    simp only [List.nil_append] at h
    simp only [xshiftAttribute.l2]
    rw [pk0 hB h, ob, if_neg (by rw [blanks_no hd]; decide)]
    rfl
  | cons c S ih =>
    intro n k hS h hk
    obtain ⟨k, rfl⟩ : ∃ j, k = j + 1 := ⟨k - 1, by simp at hk; omega⟩
    rw [List.cons_append] at h
    simp only [xshiftAttribute.l2]
    rw [pk0 hB h, ob, if_pos (hS c (by simp)).yes, mv1 hB (le_of_at h), ih (n + 1) k (fun x hx => hS x (by simp [hx])) h.tail (by simp at hk; omega)]
    simp only [List.length_cons]
    congr 3
    omega
theorem xsa_l3 {B : List Int} (hB : Sm B) (K : Nat) {q : Int} {R : List Int} : ∀ (S : List Int) (n k : Nat), (∀ c ∈ S, c ≠ q ∧ c ≠ 0 ∧ c ≠ 9 ∧ c ≠ 10 ∧ c ≠ 13) → At B n (S ++ q :: R) → S.length < k → xshiftAttribute.l3 K B q k (n : Int) = some ((n + S.length + 1 : Nat) : Int) := by
  intro S
  induction S with
  | nil =>
    intro n k _ h hk
    obtain ⟨k, rfl⟩ : ∃ j, k = j + 1 := ⟨k - 1, by simp at hk; omega⟩
    simp only [List.nil_append] at h
    simp only [xshiftAttribute.l3]
    rw [pk0 hB h, ob, if_pos (by simp), mv1 hB (le_of_at h)]
    rfl
  | cons c S ih =>
    intro n k hS h hk
    obtain ⟨k, rfl⟩ : ∃ j, k = j + 1 := ⟨k - 1, by simp at hk; omega⟩
    obtain ⟨h1, h2, h3, h4, h5⟩ := hS c (by simp)
    rw [List.cons_append] at h
    simp only [xshiftAttribute.l3]
    rw [pk0 hB h, ob, if_neg (by simp [h1]), if_neg (by simp [h2]), if_neg (by simp [h3, h4, h5]), mv1 hB (le_of_at h), ih (n + 1) k (fun x hx => hS x (by simp [hx])) h.tail (by simp at hk; omega)]
    simp only [List.length_cons]
    congr 2
    omega
/-- The text of an attribute with a value in quotation marks, without the blanks ahead of it. -/
def attrQ (name ahead behind value : List Int) (q : Int) : List Int := name ++ (ahead ++ 61 :: (behind ++ q :: (value ++ [q])))
theorem xsa_law {B : List Int} (hB : Sm B) (K s n : Nat) (tg : Bool) (tl th al ah : Int) {name ahead behind value : List Int} {q : Int} {R : List Int} (hq : q = 34 ∨ q = 39) (hN : ∀ c ∈ name, NC c) (hA : ∀ c ∈ ahead, BL c) (hb : ∀ c ∈ behind, BL c)
    (hV : ∀ c ∈ value, c ≠ q ∧ c ≠ 0 ∧ c ≠ 9 ∧ c ≠ 10 ∧ c ≠ 13) (h : At B n (attrQ name ahead behind value q ++ R)) (hs : s ≤ n) (hK : B.length < K) :
    xshiftAttribute.f K B (n : Int) (s : Int) tg tl th al ah = some ((s : Int), ((n + (attrQ name ahead behind value q).length : Nat) : Int), ((n + (attrQ name ahead behind value q).length : Nat) : Int), ((n + (attrQ name ahead behind value q).length : Nat) : Int), (n : Int), ((n + name.length : Nat) : Int), ((n + name.length + ahead.length + 1 + behind.length : Nat) : Int), ((n + (attrQ name ahead behind value q).length : Nat) : Int)) := by
  have hlen : (attrQ name ahead behind value q).length = name.length + ahead.length + 1 + behind.length + 1 + value.length + 1 := by simp [attrQ]; omega
  have hl := At.len h.left (by omega)
  rw [hlen] at hl ⊢
  unfold attrQ at h
  simp only [List.append_assoc, List.cons_append, List.nil_append] at h
  obtain ⟨d0, S0, e0, hd0⟩ : ∃ d S, ahead ++ 61 :: (behind ++ q :: (value ++ q :: R)) = d :: S ∧ (BL d ∨ d = 61) := by
    cases ahead with
    | nil => exact ⟨_, _, rfl, .inr rfl⟩
    | cons c A => exact ⟨_, _, rfl, .inl (hA c (by simp))⟩
  have h0 := h
  rw [e0] at h0
  have h1 := h.right
  have h2 := h1.right
  have h3 := h2.tail
  have h4 := h3.right
  have h5 := h4.tail
  have hqb : ¬ BL q := by rcases hq with rfl | rfl <;> (unfold BL; omega)
  have h61 : ¬ BL 61 := by unfold BL; omega
  have hq2 : ((q == 34) || (q == 39)) = true := by rcases hq with rfl | rfl <;> rfl
  unfold xshiftAttribute.f
  rw [xsa_l0 hB K hd0 name n K hN h0 (by omega), ob, xsa_l1 hB K h61 ahead _ K hA h1 (by omega), ob]
  dsimp only
  rw [if_pos (by rfl), mv1 hB (le_of_at h2), xsa_l2 hB K hqb behind _ K hb h3 (by omega), ob]
  dsimp only
  rw [if_pos hq2, mv1 hB (le_of_at h4), xsa_l3 hB K value _ K hV h5 (by omega), ob]
  rw [seln (by omega) (by omega), ob, psn hB (by omega) (by omega), cutn (by omega), ob, ob]
  dsimp only
  rw [seln (by omega) (by omega), ob, psn hB (by omega) (by omega), psn hB (by omega) (by omega), cutn (by omega), ob, ob]
  congr 1
  all_goals simp only [Prod.mk.injEq, true_and, and_true]
  all_goals omega
/-! Comments, sections, document types, ends. -/
theorem three {T R : List Int} {a b : Int} (ha : a ≠ 62) (hb : b ≠ 62) (hT : ∀ c ∈ T, c ≠ 62) : ∃ x y Z, T ++ a :: b :: 62 :: R = x :: y :: Z ∧ y ≠ 62 := by
  match T, hT with
  | [], _ => exact ⟨_, _, _, rfl, hb⟩
  | [x], _ => exact ⟨_, _, _, rfl, ha⟩
  | x :: y :: T, hT => exact ⟨_, _, _, rfl, hT y (by simp)⟩
theorem xsc_l0 {B : List Int} (hB : Sm B) (K : Nat) {s : Nat} {tl th : Int} {R : List Int} : ∀ (T : List Int) (n k : Nat), (∀ c ∈ T, c ≠ 62 ∧ c ≠ 0) → At B n (T ++ 45 :: 45 :: 62 :: R) → s + 4 ≤ n → T.length < k →
    xshiftCommentText.l0 K B k (n : Int) (s : Int) tl th = some ((s : Int), ((n + T.length + 3 : Nat) : Int), ((n + T.length + 3 : Nat) : Int), ((n + T.length + 3 : Nat) : Int), (s : Int) + 4, ((n + T.length : Nat) : Int)) := by
  intro T
  induction T with
  | nil =>
    intro n k _ h hs hk
    obtain ⟨k, rfl⟩ : ∃ j, k = j + 1 := ⟨k - 1, by simp at hk; omega⟩
    simp only [List.nil_append] at h
    have hl := h.tail.tail.lt
    simp only [xshiftCommentText.l0]
    rw [pk0 hB h, ob, if_pos (by rfl), pk1 hB h, ob, if_pos (by rfl), pk2 hB h, ob, ob, if_pos (by rfl), seln (by omega) (by omega), ob, cutn (by omega), ob, mv3 hB (le_of_at h), seln (by omega) (by omega), ob]
    rfl
  | cons c T ih =>
    intro n k hT h hs hk
    obtain ⟨k, rfl⟩ : ∃ j, k = j + 1 := ⟨k - 1, by simp at hk; omega⟩
    obtain ⟨h1, h2⟩ := hT c (by simp)
    rw [List.cons_append] at h
    obtain ⟨x, y, Z, e, hy⟩ := three (T := T) (R := R) (a := 45) (b := 45) (by decide) (by decide) fun c hc => (hT c (by simp [hc])).1
    have hx := h
    rw [e] at hx
    have hb : (if (c == 45) = true then ((pk B (n : Int) 1).bind fun c85 => if (c85 == 45) = true then ((pk B (n : Int) 2).bind fun c88 => some (c88 == 62)) else some false) else some false) = some false := by
      rw [pk1 hB hx, ob, pk2 hB hx, ob]
      simp [hy]
    simp only [xshiftCommentText.l0]
    rw [pk0 hB h, ob, hb, ob, if_neg (by decide), if_neg (by simp [h2]), mv1 hB (le_of_at h), ih (n + 1) k (fun x hx => hT x (by simp [hx])) h.tail (by omega) (by simp at hk; omega)]
    simp only [List.length_cons]
    congr 1
    all_goals simp only [Prod.mk.injEq, true_and, and_true]
    all_goals omega
theorem xcd_l0 {B : List Int} (hB : Sm B) (K : Nat) {s : Nat} {tl th : Int} {R : List Int} : ∀ (T : List Int) (n k : Nat), (∀ c ∈ T, c ≠ 93 ∧ c ≠ 0) → At B n (T ++ 93 :: 93 :: 62 :: R) → s + 9 ≤ n → T.length < k →
    xshiftCDATAText.l0 K B k (n : Int) (s : Int) tl th = some ((s : Int), ((n + T.length + 3 : Nat) : Int), ((n + T.length + 3 : Nat) : Int), ((n + T.length + 3 : Nat) : Int), (s : Int) + 9, ((n + T.length : Nat) : Int)) := by
  intro T
  induction T with
  | nil =>
    intro n k _ h hs hk
    obtain ⟨k, rfl⟩ : ∃ j, k = j + 1 := ⟨k - 1, by simp at hk; omega⟩
    simp only [List.nil_append] at h
    have hl := h.tail.tail.lt
    simp only [xshiftCDATAText.l0]
    rw [pk0 hB h, ob, if_pos (by rfl), pk1 hB h, ob, if_pos (by rfl), pk2 hB h, ob, ob, if_pos (by rfl), seln (by omega) (by omega), ob, cutn (by omega), ob, mv3 hB (le_of_at h), seln (by omega) (by omega), ob]
    rfl
  | cons c T ih =>
    intro n k hT h hs hk
    obtain ⟨k, rfl⟩ : ∃ j, k = j + 1 := ⟨k - 1, by simp at hk; omega⟩
    obtain ⟨h1, h2⟩ := hT c (by simp)
    rw [List.cons_append] at h
    simp only [xshiftCDATAText.l0]
    rw [pk0 hB h, ob, if_neg (by simp [h1]), ob, if_neg (by decide), if_neg (by simp [h2]), mv1 hB (le_of_at h), ih (n + 1) k (fun x hx => hT x (by simp [hx])) h.tail (by omega) (by simp at hk; omega)]
    simp only [List.length_cons]
    congr 1
    all_goals simp only [Prod.mk.injEq, true_and, and_true]
    all_goals omega
theorem xdt_l0 {B : List Int} (hB : Sm B) (K : Nat) {s : Nat} {tl th : Int} {R : List Int} : ∀ (T : List Int) (n k : Nat), (∀ c ∈ T, NC c ∨ c = 32) → At B n (T ++ 62 :: R) → s + 9 ≤ n → T.length < k →
    xshiftDOCTYPEText.l0 K B k false false (n : Int) (s : Int) tl th = some ((s : Int), ((n + T.length + 1 : Nat) : Int), ((n + T.length + 1 : Nat) : Int), ((n + T.length + 1 : Nat) : Int), (s : Int) + 9, ((n + T.length : Nat) : Int)) := by
  intro T
  induction T with
  | nil =>
    intro n k _ h hs hk
    obtain ⟨k, rfl⟩ : ∃ j, k = j + 1 := ⟨k - 1, by simp at hk; omega⟩
    simp only [List.nil_append] at h
    have hl := h.lt
    simp only [xshiftDOCTYPEText.l0]
    rw [pk0 hB h, ob, if_neg (by decide), if_neg (by decide), if_pos (by rfl), seln (by omega) (by omega), ob, cutn (by omega), ob, mv1 hB (le_of_at h), seln (by omega) (by omega), ob]
    rfl
  | cons c T ih =>
    intro n k hT h hs hk
    obtain ⟨k, rfl⟩ : ∃ j, k = j + 1 := ⟨k - 1, by simp at hk; omega⟩
    have hc : c ≠ 34 ∧ c ≠ 91 ∧ c ≠ 93 ∧ c ≠ 62 ∧ c ≠ 0 := by
      have := hT c (by simp)
      unfold NC at this
      omega
    obtain ⟨c1, c2, c3, c4, c5⟩ := hc
    rw [List.cons_append] at h
    simp only [xshiftDOCTYPEText.l0]
    rw [pk0 hB h, ob, if_neg (by simp [c1]), if_neg (by simp [c2, c3]), if_neg (by simp [c4]), if_neg (by simp [c5]), mv1 hB (le_of_at h), ih (n + 1) k (fun x hx => hT x (by simp [hx])) h.tail (by omega) (by simp at hk; omega)]
    simp only [List.length_cons]
    congr 1
    all_goals simp only [Prod.mk.injEq, true_and, and_true]
    all_goals omega
theorem xen_l0 {B : List Int} (hB : Sm B) (K : Nat) {s : Nat} {R : List Int} : ∀ (T : List Int) (n k : Nat) (tl th : Int), (∀ c ∈ T, NC c) → At B n (T ++ 62 :: R) → s + 2 ≤ n → T.length < k →
    xshiftEndTag.l0 K B (s : Int) k (n : Int) tl th = some (((n + T.length + 1 : Nat) : Int), (s : Int) + 2, ((n + T.length : Nat) : Int)) := by
  intro T
  induction T with
  | nil =>
    intro n k tl th _ h hs hk
    obtain ⟨k, rfl⟩ : ∃ j, k = j + 1 := ⟨k - 1, by simp at hk; omega⟩
    simp only [List.nil_append] at h
    have hl := h.lt
    simp only [xshiftEndTag.l0]
    rw [pk0 hB h, ob, if_pos (by rfl), seln (by omega) (by omega), ob, cutn (by omega), ob, mv1 hB (le_of_at h)]
    rfl
  | cons c T ih =>
    intro n k tl th hT h hs hk
    obtain ⟨k, rfl⟩ : ∃ j, k = j + 1 := ⟨k - 1, by simp at hk; omega⟩
    have hc := hT c (by simp)
    rw [List.cons_append] at h
    simp only [xshiftEndTag.l0]
    rw [pk0 hB h, ob, if_neg (by rw [hc.ne 62]; decide), if_neg (by rw [hc.ne 0]; decide), mv1 hB (le_of_at h), ih (n + 1) k tl th (fun x hx => hT x (by simp [hx])) h.tail (by omega) (by simp at hk; omega)]
    simp only [List.length_cons]
    congr 1
    all_goals simp only [Prod.mk.injEq, true_and, and_true]
    all_goals omega
theorem at_last {B : List Int} {n : Nat} {T R : List Int} (h : At B n (T ++ R)) (h0 : 0 < T.length) : ∃ c, c ∈ T ∧ B.getD (n + (T.length - 1)) 0 = c := by
  refine ⟨T.getLast (by intro e; simp [e] at h0), List.getLast_mem _, ?_⟩
  have h1 := h.left
  rw [← List.dropLast_concat_getLast (l := T) (by intro e; simp [e] at h0)] at h1
  have := h1.right.cons.1
  rw [List.length_dropLast] at this
  exact this
theorem xen_law {B : List Int} (hB : Sm B) (K n : Nat) (tg : Bool) (tl th al ah : Int) {T R : List Int} (hT : ∀ c ∈ T, NC c) (h0 : 0 < T.length) (h : At B (n + 2) (T ++ 62 :: R)) (hK : T.length < K) :
    xshiftEndTag.f K B ((n + 2 : Nat) : Int) (n : Int) tg tl th al ah = some ((n : Int), ((n + 2 + T.length + 1 : Nat) : Int), ((n + 2 + T.length + 1 : Nat) : Int), ((n + 2 + T.length + 1 : Nat) : Int), (n : Int) + 2, ((n + 2 + T.length : Nat) : Int)) := by
  have hl := h.right.lt
  have hs := hB
  unfold Sm at hs
  obtain ⟨c, hc, e⟩ := at_last h h0
  obtain ⟨k, rfl⟩ : ∃ j, K = j + 1 := ⟨K - 1, by omega⟩
  unfold xshiftEndTag.f
  rw [xen_l0 hB (k + 1) T (n + 2) (k + 1) tl th hT h (by omega) hK, ob]
  dsimp only
  simp only [xshiftEndTag.l1]
  have e1 : (((n + 2 + T.length : Nat) : Int) - ((n : Int) + 2)) = ((T.length : Nat) : Int) := by omega
  rw [e1, if_pos (by simp; omega), wrap_small (by omega) (by omega)]
  have e2 : elB B ((n : Int) + 2) ((n + 2 + T.length : Nat) : Int) ((T.length : Int) - 1) = some c := by
    unfold elB
    rw [if_pos (by omega), show ((n : Int) + 2).toNat + ((T.length : Int) - 1).toNat = n + 2 + (T.length - 1) by omega, e]
  rw [e2, ob, if_neg (by have hc := hT c hc; simp [hc.ne 32, hc.ne 9, hc.ne 10, hc.ne 13]), ob, cutn (by omega), ob, seln (by omega) (by omega), ob]
  congr 1
  all_goals simp only [Prod.mk.injEq, true_and, and_true]
  all_goals omega
end Go.Proofs.YtfcedenofbefcaaGreatDoor
