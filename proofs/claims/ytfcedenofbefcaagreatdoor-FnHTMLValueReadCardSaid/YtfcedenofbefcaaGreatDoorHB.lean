import Derived.Test.YtfcedenofbefcaaGreatDoorA1
import Derived.Test.YtfcedenofbefcaaGreatDoorH2
import Derived.Test.YtfcedenofbefcaaGreatDoorH3
import Derived.Test.YtfcedenofbefcaaGreatDoorH4
import Derived.Test.YtfcedenofbefcaaGreatDoorH5
namespace Go.Proofs.YtfcedenofbefcaaGreatDoor
open Go.RowKit
set_option linter.unusedVariables false
set_option linter.unusedSimpArgs false
/-! The plain law of the lexer of HTML, token by token. -/
theorem lt_of_at {B : List Int} {n : Nat} {c : Int} {T : List Int} (h : At B n (c :: T)) : n ≤ B.length := Nat.le_of_lt h.lt
theorem BL.yes5 {c : Int} (h : BL c) : (((((c == 32) || (c == 9)) || (c == 10)) || (c == 13)) || (c == 12)) = true := by
  unfold BL at h
  rcases h with rfl | rfl | rfl | rfl <;> rfl
theorem blanks5_no {d : Int} (hd : ¬ BL d) (h12 : d ≠ 12) : (((((d == 32) || (d == 9)) || (d == 10)) || (d == 13)) || (d == 12)) = false := by
  unfold BL at hd
  simp only [not_or] at hd
  simp [hd, h12]
theorem nc_nocap {T : List Int} (h : ∀ c ∈ T, NC c) : NoCap T := fun c hc hh => by have := h c hc; unfold NC at this; omega
theorem sub_at {B T : List Int} {n : Nat} (h : At B n T) {lo hi : Int} (h1 : lo = (n : Int)) (h2 : hi = ((n + T.length : Nat) : Int)) : (B.drop lo.toNat).take (hi.toNat - lo.toNat) = T := by
  subst h1 h2
  rw [show ((n + T.length : Nat) : Int).toNat - (n : Int).toNat = T.length by omega, show (n : Int).toNat = n by omega]
  exact h.sub
theorem low_at {B T : List Int} {n : Nat} (h : At B n T) (hc : NoCap T) {lo hi : Int} (h1 : lo = (n : Int)) (h2 : hi = ((n + T.length : Nat) : Int)) : low B lo hi = some () := by
  unfold low
  rw [sub_at h h1 h2, if_pos hc]
theorem hash_at {B T : List Int} {n : Nat} (h : At B n T) {lo hi : Int} (h1 : lo = (n : Int)) (h2 : hi = ((n + T.length : Nat) : Int)) : hashB B lo hi = some (toHash T) := by
  unfold hashB
  rw [sub_at h h1 h2]
theorem entry_special : ∀ i : Fin 16, htab.getD i.val 0 = 0 ∨ nameOf (htab.getD i.val 0) ∈ specials := by decide
/-- A text that is no special name has no number. -/
theorem toHash_none {T : List Int} (h : T ∉ specials) : toHash T = 0 := by
  unfold toHash
  split
  · rfl
  rename_i hl
  have hl : T.length ≠ 0 := fun e => hl (.inl e)
  have key : ∀ x : Int, (∃ i : Nat, i < 16 ∧ x = htab.getD i 0) → nameOf x = T → x = 0 := fun x ⟨i, hi, e⟩ hn => by
    rcases entry_special ⟨i, hi⟩ with h0 | h0
    · rw [e]; exact h0
    · rw [← e, hn] at h0; exact absurd h0 h
  have k1 : ∃ i : Nat, i < 16 ∧ hashE1 T = htab.getD i 0 := by
    obtain ⟨i, hi, e⟩ := and15 (fnv T)
    exact ⟨i, hi, by unfold hashE1; rw [e]; rfl⟩
  have k2 : ∃ i : Nat, i < 16 ∧ hashE2 T = htab.getD i 0 := by
    obtain ⟨i, hi, e⟩ := and15 (fnv T / 65536)
    exact ⟨i, hi, by unfold hashE2; rw [e]; rfl⟩
  split
  · rename_i h1; exact key _ k1 h1
  split
  · rename_i h1; exact key _ k2 h1
  rfl
/-- What ends a name. -/
def HStop (d : Int) (R : List Int) : Prop := d = 62 ∨ BL d ∨ (d = 47 ∧ ∃ R', R = 62 :: R')
theorem hst_l0 {B : List Int} (hB : Sm B) (K : Nat) {d : Int} {R : List Int} (hd : HStop d R) : ∀ (S : List Int) (n k : Nat), (∀ c ∈ S, NC c) → At B n (S ++ d :: R) → S.length < k → hshiftStartTag.l0 K B k (n : Int) = some ((n + S.length : Nat) : Int) := by
  intro S
  induction S with
  | nil =>
    intro n k _ h hk
    obtain ⟨k, rfl⟩ : ∃ j, k = j + 1 := ⟨k - 1, by simp at hk; omega⟩
    simp only [List.nil_append] at h
    simp only [hshiftStartTag.l0]
    rw [pk0 hB h, ob]
    rcases hd with rfl | hd | ⟨rfl, R', rfl⟩
    · simp [ob]
    · rcases hd with rfl | rfl | rfl | rfl <;> simp [ob]
    · simp [ob, pk1 hB h]
  | cons c S ih =>
    intro n k hS h hk
    obtain ⟨k, rfl⟩ : ∃ j, k = j + 1 := ⟨k - 1, by simp at hk; omega⟩
    have hc := hS c (by simp)
    rw [List.cons_append] at h
    simp only [hshiftStartTag.l0]
    rw [pk0 hB h, ob]
    simp only [hc.ne 32, hc.ne 62, hc.ne 47, hc.ne 12, hc.ne 9, hc.ne 10, hc.ne 13, hc.ne 0, Bool.false_eq_true, if_false, ob]
    rw [mv1 hB (lt_of_at h), ih (n + 1) k (fun x hx => hS x (by simp [hx])) h.tail (by simp at hk; omega)]
    simp only [List.length_cons]
    congr 2
    omega
theorem hst_law {B : List Int} (hB : Sm B) (K s n : Nat) (rt : Int) (tg : Bool) (tl th al ah : Int) {T : List Int} {d : Int} {R : List Int} (hT : ∀ c ∈ T, NC c) (h : At B n (T ++ d :: R)) (hd : HStop d R) (hs : n = s + 1) (hK : T.length < K) (h0 : toHash T = 0) :
    hshiftStartTag.f K B (n : Int) (s : Int) rt tg tl th al ah = some (3, (s : Int), ((n + T.length : Nat) : Int), ((n + T.length : Nat) : Int), ((n + T.length : Nat) : Int), rt, tg, (n : Int), ((n + T.length : Nat) : Int)) := by
  have hl := h.right.lt
  have hw := h.left
  unfold hshiftStartTag.f
  rw [hst_l0 hB K hd T n K hT h hK, ob, seln (by omega) (by omega), ob, cutn (by omega), ob, low_at hw (nc_nocap hT) (by omega) rfl, ob, hash_at hw (by omega) rfl, ob, h0, if_neg (by decide), ob]
  congr 1
  all_goals simp only [Prod.mk.injEq, true_and, and_true]
  all_goals omega
theorem hst_raw {B : List Int} (hB : Sm B) (K s n : Nat) (rt x : Int) (tg : Bool) (tl th al ah : Int) {T : List Int} {d : Int} {R : List Int} (hT : ∀ c ∈ T, NC c) (h : At B n (T ++ d :: R)) (hd : HStop d R) (hs : n = s + 1) (hK : T.length < K) (h0 : toHash T = x) (hx : x ∈ ([9736, 3845, 5125, 7939, 6, 2566] : List Int)) :
    hshiftStartTag.f K B (n : Int) (s : Int) rt tg tl th al ah = some (3, (s : Int), ((n + T.length : Nat) : Int), ((n + T.length : Nat) : Int), ((n + T.length : Nat) : Int), x, tg, (n : Int), ((n + T.length : Nat) : Int)) := by
  have hl := h.right.lt
  have hw := h.left
  have b1 : ((((((((((x == 9736) || (x == 3845)) || (x == 5125)) || (x == 7939)) || (x == 6)) || (x == 2566)) || (x == 8457)) || (x == 6403)) || (x == 1540)) || (x == 7171)) = true := by
    simp only [List.mem_cons, List.mem_nil_iff, or_false] at hx
    rcases hx with rfl | rfl | rfl | rfl | rfl | rfl <;> rfl
  have b2 : (((x == 6403) || (x == 1540)) || (x == 7171)) = false := by
    simp only [List.mem_cons, List.mem_nil_iff, or_false] at hx
    rcases hx with rfl | rfl | rfl | rfl | rfl | rfl <;> rfl
  unfold hshiftStartTag.f
  rw [hst_l0 hB K hd T n K hT h hK, ob, seln (by omega) (by omega), ob, cutn (by omega), ob, low_at hw (nc_nocap hT) (by omega) rfl, ob, hash_at hw (by omega) rfl, ob, h0, if_pos b1, if_neg (by rw [b2]; decide), ob]
  congr 1
  all_goals simp only [Prod.mk.injEq, true_and, and_true]
  all_goals omega
theorem hsa_l0 {B : List Int} (hB : Sm B) (K : Nat) {d : Int} {R : List Int} (hd : HStop d R ∨ d = 61) : ∀ (S : List Int) (n k : Nat), (∀ c ∈ S, NC c) → At B n (S ++ d :: R) → S.length < k → hshiftAttribute.l0 K B k (n : Int) = some ((n + S.length : Nat) : Int) := by
  intro S
  induction S with
  | nil =>
    intro n k _ h hk
    obtain ⟨k, rfl⟩ : ∃ j, k = j + 1 := ⟨k - 1, by simp at hk; omega⟩
    simp only [List.nil_append] at h
    simp only [hshiftAttribute.l0]
    rw [pk0 hB h, ob]
    rcases hd with (rfl | hd | ⟨rfl, R', rfl⟩) | rfl
    · simp [ob]
    · rcases hd with rfl | rfl | rfl | rfl <;> simp [ob]
    · simp [ob, pk1 hB h]
    · simp [ob]
  | cons c S ih =>
    intro n k hS h hk
    obtain ⟨k, rfl⟩ : ∃ j, k = j + 1 := ⟨k - 1, by simp at hk; omega⟩
    have hc := hS c (by simp)
    rw [List.cons_append] at h
    simp only [hshiftAttribute.l0]
    rw [pk0 hB h, ob]
    simp only [hc.ne 32, hc.ne 61, hc.ne 62, hc.ne 47, hc.ne 12, hc.ne 9, hc.ne 10, hc.ne 13, hc.ne 0, Bool.false_eq_true, if_false, ob]
    rw [mv1 hB (lt_of_at h), ih (n + 1) k (fun x hx => hS x (by simp [hx])) h.tail (by simp at hk; omega)]
    simp only [List.length_cons]
    congr 2
    omega
theorem hsa_l1 {B : List Int} (hB : Sm B) (K : Nat) {d : Int} {R : List Int} (hd : ¬ BL d) (h12 : d ≠ 12) : ∀ (S : List Int) (n k : Nat), (∀ c ∈ S, BL c) → At B n (S ++ d :: R) → S.length < k → hshiftAttribute.l1 K B k (n : Int) = some (d, ((n + S.length : Nat) : Int)) := by
  intro S
  induction S with
  | nil =>
    intro n k _ h hk
    obtain ⟨k, rfl⟩ : ∃ j, k = j + 1 := ⟨k - 1, by simp at hk; omega⟩
    simp only [List.nil_append] at h
    simp only [hshiftAttribute.l1]
    rw [pk0 hB h, ob, if_neg (by rw [blanks5_no hd h12]; decide)]
    rfl
  | cons c S ih =>
    intro n k hS h hk
    obtain ⟨k, rfl⟩ : ∃ j, k = j + 1 := ⟨k - 1, by simp at hk; omega⟩
    rw [List.cons_append] at h
    simp only [hshiftAttribute.l1]
    rw [pk0 hB h, ob, if_pos (hS c (by simp)).yes5, mv1 hB (lt_of_at h), ih (n + 1) k (fun x hx => hS x (by simp [hx])) h.tail (by simp at hk; omega)]
    simp only [List.length_cons]
    congr 3
    omega
theorem hsa_l2 {B : List Int} (hB : Sm B) (K : Nat) {d : Int} {R : List Int} (hd : ¬ BL d) (h12 : d ≠ 12) : ∀ (S : List Int) (n k : Nat), (∀ c ∈ S, BL c) → At B n (S ++ d :: R) → S.length < k → hshiftAttribute.l2 K B k (n : Int) = some (d, ((n + S.length : Nat) : Int)) := by
  intro S
  induction S with
  | nil =>
    intro n k _ h hk
    obtain ⟨k, rfl⟩ : ∃ j, k = j + 1 := ⟨k - 1, by simp at hk; omega⟩
    simp only [List.nil_append] at h
    simp only [hshiftAttribute.l2]
    rw [pk0 hB h, ob, if_neg (by rw [blanks5_no hd h12]; decide)]
    rfl
  | cons c S ih =>
    intro n k hS h hk
    obtain ⟨k, rfl⟩ : ∃ j, k = j + 1 := ⟨k - 1, by simp at hk; omega⟩
    rw [List.cons_append] at h
    simp only [hshiftAttribute.l2]
    rw [pk0 hB h, ob, if_pos (hS c (by simp)).yes5, mv1 hB (lt_of_at h), ih (n + 1) k (fun x hx => hS x (by simp [hx])) h.tail (by simp at hk; omega)]
    simp only [List.length_cons]
    congr 3
    omega
theorem hsa_l3 {B : List Int} (hB : Sm B) (K : Nat) {q : Int} {R : List Int} : ∀ (S : List Int) (n k : Nat), (∀ c ∈ S, c ≠ q ∧ c ≠ 0) → At B n (S ++ q :: R) → S.length < k → hshiftAttribute.l3 K B q k (n : Int) = some ((n + S.length + 1 : Nat) : Int) := by
  intro S
  induction S with
  | nil =>
    intro n k _ h hk
    obtain ⟨k, rfl⟩ : ∃ j, k = j + 1 := ⟨k - 1, by simp at hk; omega⟩
    simp only [List.nil_append] at h
    simp only [hshiftAttribute.l3]
    rw [pk0 hB h, ob, if_pos (by simp), mv1 hB (lt_of_at h)]
    rfl
  | cons c S ih =>
    intro n k hS h hk
    obtain ⟨k, rfl⟩ : ∃ j, k = j + 1 := ⟨k - 1, by simp at hk; omega⟩
    obtain ⟨h1, h2⟩ := hS c (by simp)
    rw [List.cons_append] at h
    simp only [hshiftAttribute.l3]
    rw [pk0 hB h, ob, if_neg (by simp [h1]), if_neg (by simp [h2]), mv1 hB (lt_of_at h), ih (n + 1) k (fun x hx => hS x (by simp [hx])) h.tail (by simp at hk; omega)]
    simp only [List.length_cons]
    congr 2
    omega
/-- A byte of a value without quotation marks. -/
def HV (c : Int) : Prop := c ≠ 32 ∧ c ≠ 62 ∧ c ≠ 9 ∧ c ≠ 10 ∧ c ≠ 13 ∧ c ≠ 12 ∧ c ≠ 0
theorem HV.no {c : Int} (h : HV c) (B : List Int) (p : Int) : ((c == 32) || ((c == 62) || ((c == 9) || ((c == 10) || ((c == 13) || ((c == 12) || ((c == 0) && (atEnd B p 0)))))))) = false := by
  obtain ⟨h1, h2, h3, h4, h5, h6, h7⟩ := h
  simp [h1, h2, h3, h4, h5, h6, h7]
theorem hsa_l4 {B : List Int} (hB : Sm B) (K : Nat) {d : Int} {R : List Int} (hd : d = 62 ∨ BL d) : ∀ (S : List Int) (n k : Nat), (∀ c ∈ S, HV c) → At B n (S ++ d :: R) → S.length < k → hshiftAttribute.l4 K B k (n : Int) = some ((n + S.length : Nat) : Int) := by
  intro S
  induction S with
  | nil =>
    intro n k _ h hk
    obtain ⟨k, rfl⟩ : ∃ j, k = j + 1 := ⟨k - 1, by simp at hk; omega⟩
    simp only [List.nil_append] at h
    simp only [hshiftAttribute.l4]
    rw [pk0 hB h, ob, if_pos (by rcases hd with rfl | (rfl | rfl | rfl | rfl) <;> rfl)]
    rfl
  | cons c S ih =>
    intro n k hS h hk
    obtain ⟨k, rfl⟩ : ∃ j, k = j + 1 := ⟨k - 1, by simp at hk; omega⟩
    rw [List.cons_append] at h
    simp only [hshiftAttribute.l4]
    rw [pk0 hB h, ob, if_neg (by rw [(hS c (by simp)).no]; decide), mv1 hB (lt_of_at h), ih (n + 1) k (fun x hx => hS x (by simp [hx])) h.tail (by simp at hk; omega)]
    simp only [List.length_cons]
    congr 2
    omega
/-- The text of an attribute with a value v, as it stands, without the blanks ahead of it. -/
def attrV (name ahead behind v : List Int) : List Int := name ++ (ahead ++ 61 :: (behind ++ v))
/-- A value as it stands: in quotation marks, or without them, then ended. -/
def GoodV (v R : List Int) : Prop := (∃ q w, (q = 34 ∨ q = 39) ∧ v = q :: (w ++ [q]) ∧ ∀ c ∈ w, c ≠ q ∧ c ≠ 0) ∨ (0 < v.length ∧ v.getD 0 0 ≠ 34 ∧ v.getD 0 0 ≠ 39 ∧ (∀ c ∈ v, HV c) ∧ ∃ d R', R = d :: R' ∧ (d = 62 ∨ BL d))
theorem hsa_law {B : List Int} (hB : Sm B) (K s n : Nat) (rt : Int) (tg : Bool) (tl th al ah : Int) {name ahead behind v : List Int} {R : List Int} (hN : ∀ c ∈ name, NC c) (hA : ∀ c ∈ ahead, BL c) (hb : ∀ c ∈ behind, BL c)
    (hV : GoodV v R) (h : At B n (attrV name ahead behind v ++ R)) (hs : s ≤ n) (hK : B.length < K) :
    hshiftAttribute.f K B (n : Int) (s : Int) rt tg tl th al ah = some ((s : Int), ((n + (attrV name ahead behind v).length : Nat) : Int), ((n + (attrV name ahead behind v).length : Nat) : Int), ((n + (attrV name ahead behind v).length : Nat) : Int), (n : Int), ((n + name.length : Nat) : Int), ((n + name.length + ahead.length + 1 + behind.length : Nat) : Int), ((n + (attrV name ahead behind v).length : Nat) : Int)) := by
  have hlen : (attrV name ahead behind v).length = name.length + ahead.length + 1 + behind.length + v.length := by simp [attrV]; omega
  have hl := At.len h.left (by omega)
  rw [hlen] at hl ⊢
  unfold attrV at h
  simp only [List.append_assoc, List.cons_append, List.nil_append] at h
  obtain ⟨d0, S0, e0, hd0⟩ : ∃ d S, ahead ++ 61 :: (behind ++ (v ++ R)) = d :: S ∧ (HStop d S ∨ d = 61) := by
    cases ahead with
    | nil => exact ⟨_, _, rfl, .inr rfl⟩
    | cons c A => exact ⟨_, _, rfl, .inl (.inr (.inl (hA c (by simp))))⟩
  have h0 := h
  rw [e0] at h0
  have hw := h.left
  have h1 := h.right
  have h2 := h1.right
  have h3 := h2.tail
  have h4 := h3.right
  have h61 : ¬ BL 61 := by unfold BL; omega
  unfold hshiftAttribute.f
  rw [hsa_l0 hB K hd0 name n K hN h0 (by omega), ob, hsa_l1 hB K h61 (by decide) ahead _ K hA h1 (by omega), ob]
  dsimp only
  rw [if_pos (by rfl), mv1 hB (lt_of_at h2)]
  rcases hV with ⟨q, w, hq, rfl, hv⟩ | ⟨hv0, hq1, hq2, hv, d, R', rfl, hd⟩
  · have hqb : ¬ BL q := by rcases hq with rfl | rfl <;> (unfold BL; omega)
    have hq12 : q ≠ 12 := by rcases hq with rfl | rfl <;> decide
    have hq2 : ((q == 34) || (q == 39)) = true := by rcases hq with rfl | rfl <;> rfl
    simp only [List.length_cons, List.length_append, List.length_nil] at hl ⊢
    simp only [List.cons_append, List.append_assoc, List.nil_append] at h3 h4
    have h5 := h4.tail
    rw [hsa_l2 hB K hqb hq12 behind _ K hb h3 (by omega), ob]
    dsimp only
    rw [if_pos hq2, mv1 hB (lt_of_at h4), hsa_l3 hB K w _ K hv h5 (by omega), ob]
    rw [seln (by omega) (by omega), ob, psn hB (by omega) (by omega), cutn (by omega), ob, ob]
    dsimp only
    rw [seln (by omega) (by omega), ob, psn hB (by omega) (by omega), psn hB (by omega) (by omega), cutn (by omega), ob, low_at hw (nc_nocap hN) (by omega) (by omega), ob, ob]
    congr 1
    all_goals simp only [Prod.mk.injEq, true_and, and_true]
    all_goals omega
  · obtain ⟨c, V, rfl⟩ : ∃ c V, v = c :: V := by
      cases v with
      | nil => simp at hv0
      | cons c V => exact ⟨c, V, rfl⟩
    have hc := hv c (by simp)
    have hcb : ¬ BL c := by unfold HV at hc; unfold BL; omega
    have hc12 : c ≠ 12 := by unfold HV at hc; omega
    have hcq : ((c == 34) || (c == 39)) = false := by
      simp only [List.getD_cons_zero] at hq1 hq2
      simp [hq1, hq2]
    have h3' := h3
    rw [List.cons_append] at h3'
    rw [hsa_l2 hB K hcb hc12 behind _ K hb h3' (by omega), ob]
    dsimp only
    rw [if_neg (by rw [hcq]; decide), hsa_l4 hB K hd (c :: V) _ K hv h4 (by omega), ob]
    rw [seln (by omega) (by omega), ob, psn hB (by omega) (by omega), cutn (by omega), ob, ob]
    dsimp only
    rw [seln (by omega) (by omega), ob, psn hB (by omega) (by omega), psn hB (by omega) (by omega), cutn (by omega), ob, low_at hw (nc_nocap hN) (by omega) (by omega), ob, ob]
    congr 1
    all_goals simp only [Prod.mk.injEq, true_and, and_true]
    all_goals omega
theorem rwdn {B : List Int} {p s : Nat} (hB : Sm B) (hp : p ≤ B.length) (hs : s ≤ p) : rwd (s : Int) (ps (p : Int) (s : Int)) = (p : Int) := by
  have := hB
  unfold Sm at this
  rw [psn hB hp hs]
  unfold rwd
  rw [wrap_small (by omega) (by omega)]
  omega
/-- An attribute without a value. -/
theorem hsa_none {B : List Int} (hB : Sm B) (K s n : Nat) (rt : Int) (tg : Bool) (tl th al ah : Int) {name S : List Int} {d : Int} {R : List Int} (hN : ∀ c ∈ name, NC c) (hS : ∀ c ∈ S, BL c) (hd : ¬ BL d) (h12 : d ≠ 12) (h61 : d ≠ 61) (hst : S = [] → HStop d R)
    (h : At B n (name ++ (S ++ d :: R))) (hs : s ≤ n) (hK : B.length < K) :
    hshiftAttribute.f K B (n : Int) (s : Int) rt tg tl th al ah = some ((s : Int), ((n + name.length : Nat) : Int), ((n + name.length : Nat) : Int), ((n + name.length : Nat) : Int), (n : Int), ((n + name.length : Nat) : Int), 0, 0) := by
  obtain ⟨d0, S0, e0, hd0⟩ : ∃ d' S', S ++ d :: R = d' :: S' ∧ (HStop d' S' ∨ d' = 61) := by
    cases S with
    | nil => exact ⟨_, _, rfl, .inl (hst rfl)⟩
    | cons c A => exact ⟨_, _, rfl, .inl (.inr (.inl (hS c (by simp))))⟩
  have h0 := h
  rw [e0] at h0
  have hw := h.left
  have h1 := h.right
  have h2 := h1.right
  have hl := h2.lt
  unfold hshiftAttribute.f
  rw [hsa_l0 hB K hd0 name n K hN h0 (by omega), ob, hsa_l1 hB K hd h12 S _ K hS h1 (by omega), ob]
  dsimp only
  rw [if_neg (by rw [beq_iff_eq]; exact h61), ob]
  dsimp only
  rw [rwdn hB (by omega) (by omega), seln (by omega) (by omega), ob, psn hB (by omega) (by omega), psn hB (by omega) (by omega), cutn (by omega), ob, low_at hw (nc_nocap hN) (by omega) (by omega), ob, ob]
  congr 1
  all_goals simp only [Prod.mk.injEq, true_and, and_true]
  all_goals omega
/-! Comments, document types, ends. -/
theorem atB3_no {B : List Int} (hB : Sm B) {n : Nat} {x y z : Int} {T : List Int} (h : At B n (x :: y :: z :: T)) (hz : z ≠ 62) : atB B (n : Int) [45, 45, 62] 0 = some false := by
  simp only [atB]
  rw [show ((0 : Nat) : Int) = 0 from rfl, pk0 hB h, ob]
  split
  · rw [show ((0 + 1 : Nat) : Int) = 1 from rfl, pk1 hB h, ob]
    split
    · rw [show ((0 + 1 + 1 : Nat) : Int) = 2 from rfl, pk2 hB h, ob, if_neg (by simp [hz])]
    · rfl
  · rfl
theorem atB4_no {B : List Int} (hB : Sm B) {n : Nat} {x y z u : Int} {T : List Int} (h : At B n (x :: y :: z :: u :: T)) (hz : z ≠ 33 ∨ u ≠ 62) : atB B (n : Int) [45, 45, 33, 62] 0 = some false := by
  simp only [atB]
  rw [show ((0 : Nat) : Int) = 0 from rfl, pk0 hB h, ob]
  split
  · rw [show ((0 + 1 : Nat) : Int) = 1 from rfl, pk1 hB h, ob]
    split
    · rw [show ((0 + 1 + 1 : Nat) : Int) = 2 from rfl, pk2 hB h, ob]
      split
      · rename_i hz'
        have hu : u ≠ 62 := by
          rcases hz with hz | hz
          · exact absurd (beq_iff_eq.mp hz') hz
          · exact hz
        rw [show ((0 + 1 + 1 + 1 : Nat) : Int) = ((3 : Nat) : Int) from rfl, pkk (i := 3) hB h.tail.tail.tail, ob, if_neg (by simp [hu])]
      · rfl
    · rfl
  · rfl
theorem hcm_split {T R : List Int} (hT : ∀ c ∈ T, c ≠ 62) : ∃ y z u Z, T ++ 45 :: 45 :: 62 :: R = y :: z :: u :: Z ∧ z ≠ 62 ∧ (z ≠ 33 ∨ u ≠ 62) := by
  match T, hT with
  | [], _ => exact ⟨45, 45, 62, R, rfl, by decide, .inl (by decide)⟩
  | [a], hT => exact ⟨a, 45, 45, 62 :: R, rfl, by decide, .inl (by decide)⟩
  | [a, b], hT => exact ⟨a, b, 45, 45 :: 62 :: R, rfl, hT b (by simp), .inr (by decide)⟩
  | a :: b :: c :: T, hT => exact ⟨a, b, c, T ++ 45 :: 45 :: 62 :: R, rfl, hT b (by simp), .inr (hT c (by simp))⟩
theorem hcm_l0 {B : List Int} (hB : Sm B) (K : Nat) {s : Nat} {R : List Int} : ∀ (T : List Int) (n k : Nat) (tl th : Int), (∀ c ∈ T, c ≠ 62 ∧ c ≠ 0) → At B n (T ++ 45 :: 45 :: 62 :: R) → s + 4 ≤ n → T.length < k →
    hreadMarkup.l0 K B k (n : Int) (s : Int) tl th = some (1, (s : Int), ((n + T.length + 3 : Nat) : Int), ((n + T.length + 3 : Nat) : Int), ((n + T.length + 3 : Nat) : Int), (s : Int) + 4, ((n + T.length : Nat) : Int)) := by
  intro T
  induction T with
  | nil =>
    intro n k tl th _ h hs hk
    obtain ⟨k, rfl⟩ : ∃ j, k = j + 1 := ⟨k - 1, by simp at hk; omega⟩
    simp only [List.nil_append] at h
    have hl := h.tail.tail.lt
    simp only [hreadMarkup.l0]
    rw [pk0 hB h, ob, if_neg (by decide), ob, if_neg (by decide), atB_yes hB [45, 45, 62] n 0 (At.left (T := R) h), ob, if_pos rfl, seln (by omega) (by omega), ob, cutn (by omega), ob, mv3 hB (lt_of_at h), seln (by omega) (by omega), ob]
    rfl
  | cons c T ih =>
    intro n k tl th hT h hs hk
    obtain ⟨k, rfl⟩ : ∃ j, k = j + 1 := ⟨k - 1, by simp at hk; omega⟩
    obtain ⟨h1, h2⟩ := hT c (by simp)
    rw [List.cons_append] at h
    obtain ⟨y, z, u, Z, e, hz, hzu⟩ := hcm_split (T := T) (R := R) fun c hc => (hT c (by simp [hc])).1
    have hx := h
    rw [e] at hx
    simp only [hreadMarkup.l0]
    rw [pk0 hB h, ob, if_neg (by simp [h2]), ob, if_neg (by decide), atB3_no hB hx hz, ob, if_neg (by decide), atB4_no hB hx hzu, ob, if_neg (by decide), mv1 hB (lt_of_at h), ih (n + 1) k tl th (fun x hx => hT x (by simp [hx])) h.tail (by omega) (by simp at hk; omega)]
    simp only [List.length_cons]
    congr 1
    all_goals simp only [Prod.mk.injEq, true_and, and_true]
    all_goals omega
theorem hdt_l2 {B : List Int} (hB : Sm B) (K : Nat) {s : Nat} {R : List Int} : ∀ (T : List Int) (n k : Nat) (tl th : Int), (∀ c ∈ T, c ≠ 62 ∧ c ≠ 0) → At B n (T ++ 62 :: R) → s + 9 ≤ n → T.length < k →
    hreadMarkup.l2 K B k (n : Int) (s : Int) tl th = some (2, (s : Int), ((n + T.length + 1 : Nat) : Int), ((n + T.length + 1 : Nat) : Int), ((n + T.length + 1 : Nat) : Int), (s : Int) + 9, ((n + T.length : Nat) : Int)) := by
  intro T
  induction T with
  | nil =>
    intro n k tl th _ h hs hk
    obtain ⟨k, rfl⟩ : ∃ j, k = j + 1 := ⟨k - 1, by simp at hk; omega⟩
    simp only [List.nil_append] at h
    have hl := h.lt
    simp only [hreadMarkup.l2]
    rw [pk0 hB h, ob, if_pos (by rfl), seln (by omega) (by omega), ob, cutn (by omega), ob, if_pos (by rfl), ob, mv1 hB (lt_of_at h), seln (by omega) (by omega), ob]
    rfl
  | cons c T ih =>
    intro n k tl th hT h hs hk
    obtain ⟨k, rfl⟩ : ∃ j, k = j + 1 := ⟨k - 1, by simp at hk; omega⟩
    obtain ⟨h1, h2⟩ := hT c (by simp)
    rw [List.cons_append] at h
    simp only [hreadMarkup.l2]
    rw [pk0 hB h, ob, if_neg (by simp [h1, h2]), mv1 hB (lt_of_at h), ih (n + 1) k tl th (fun x hx => hT x (by simp [hx])) h.tail (by omega) (by simp at hk; omega)]
    simp only [List.length_cons]
    congr 1
    all_goals simp only [Prod.mk.injEq, true_and, and_true]
    all_goals omega
theorem hen_l0 {B : List Int} (hB : Sm B) (K : Nat) {s : Nat} {R : List Int} : ∀ (T : List Int) (n k : Nat) (tl th : Int), (∀ c ∈ T, NC c) → At B n (T ++ 62 :: R) → s + 2 ≤ n → T.length < k →
    hshiftEndTag.l0 K B (s : Int) k (n : Int) tl th = some (((n + T.length + 1 : Nat) : Int), (s : Int) + 2, ((n + T.length : Nat) : Int)) := by
  intro T
  induction T with
  | nil =>
    intro n k tl th _ h hs hk
    obtain ⟨k, rfl⟩ : ∃ j, k = j + 1 := ⟨k - 1, by simp at hk; omega⟩
    simp only [List.nil_append] at h
    have hl := h.lt
    simp only [hshiftEndTag.l0]
    rw [pk0 hB h, ob, if_pos (by rfl), seln (by omega) (by omega), ob, cutn (by omega), ob, mv1 hB (lt_of_at h)]
    rfl
  | cons c T ih =>
    intro n k tl th hT h hs hk
    obtain ⟨k, rfl⟩ : ∃ j, k = j + 1 := ⟨k - 1, by simp at hk; omega⟩
    have hc := hT c (by simp)
    rw [List.cons_append] at h
    simp only [hshiftEndTag.l0]
    rw [pk0 hB h, ob, if_neg (by rw [hc.ne 62]; decide), if_neg (by rw [hc.ne 0]; simp), mv1 hB (lt_of_at h), ih (n + 1) k tl th (fun x hx => hT x (by simp [hx])) h.tail (by omega) (by simp at hk; omega)]
    simp only [List.length_cons]
    congr 1
    all_goals simp only [Prod.mk.injEq, true_and, and_true]
    all_goals omega
theorem ath_last {B : List Int} {n : Nat} {T R : List Int} (h : At B n (T ++ R)) (h0 : 0 < T.length) : ∃ c, c ∈ T ∧ B.getD (n + (T.length - 1)) 0 = c := by
  refine ⟨T.getLast (by intro e; simp [e] at h0), List.getLast_mem _, ?_⟩
  have h1 := h.left
  rw [← List.dropLast_concat_getLast (l := T) (by intro e; simp [e] at h0)] at h1
  have := h1.right.cons.1
  rw [List.length_dropLast] at this
  exact this
end Go.Proofs.YtfcedenofbefcaaGreatDoor
