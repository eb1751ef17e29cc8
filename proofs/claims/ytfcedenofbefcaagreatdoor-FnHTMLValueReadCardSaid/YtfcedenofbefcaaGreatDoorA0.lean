import Derived.Test.YtfcedenofbefcaaGreatDoorK5
namespace Go.Proofs.YtfcedenofbefcaaGreatDoor
open Go.RowKit
set_option linter.unusedVariables false
set_option linter.unusedSimpArgs false
/-! Texts that stand at a place of a longer one. -/
/-- From n on B begins with T. -/
def At (B : List Int) (n : Nat) (T : List Int) : Prop := T <+: B.drop n
theorem At.nil (B : List Int) (n : Nat) : At B n [] := List.nil_prefix
theorem At.left {B : List Int} {n : Nat} {S T : List Int} (h : At B n (S ++ T)) : At B n S := (List.prefix_append S T).trans h
theorem At.right {B : List Int} {n : Nat} {S T : List Int} (h : At B n (S ++ T)) : At B (n + S.length) T := by
  obtain ⟨r, h⟩ := h
  refine ⟨r, ?_⟩
  rw [← List.drop_drop, ← h, List.append_assoc, List.drop_left]
theorem At.cons {B : List Int} {n : Nat} {c : Int} {T : List Int} (h : At B n (c :: T)) : B.getD n 0 = c ∧ n < B.length ∧ At B (n + 1) T := by
  have h2 := At.right (S := [c]) (T := T) h
  obtain ⟨r, h⟩ := h
  have e : B[n]? = some c := by
    have := congrArg (·[0]?) h
    simpa using this.symm
  have hl := (List.getElem?_eq_some_iff.mp e).1
  exact ⟨by rw [List.getD_eq_getElem?_getD, e]; rfl, hl, h2⟩
theorem At.tail {B : List Int} {n : Nat} {c : Int} {T : List Int} (h : At B n (c :: T)) : At B (n + 1) T := h.cons.2.2
theorem At.lt {B : List Int} {n : Nat} {c : Int} {T : List Int} (h : At B n (c :: T)) : n < B.length := h.cons.2.1
theorem At.len {B : List Int} {n : Nat} {T : List Int} (h : At B n T) (h0 : 0 < T.length) : n + T.length ≤ B.length := by
  obtain ⟨r, h⟩ := h
  have := congrArg List.length h
  rw [List.length_append, List.length_drop] at this
  omega
theorem At.sub {B : List Int} {n : Nat} {T : List Int} (h : At B n T) : (B.drop n).take T.length = T := by
  obtain ⟨r, h⟩ := h
  rw [← h, List.take_left]
/-- B is a text of a size that a machine holds. -/
def Sm (B : List Int) : Prop := B.length ≤ 140737488355328
theorem wrap_small {x : Int} (h0 : -1000000000000000 ≤ x) (h1 : x ≤ 1000000000000000) : wrap64 x = x := by unfold wrap64; omega
theorem pkk {B : List Int} {n i : Nat} {c : Int} {T : List Int} (hB : Sm B) (h : At B (n + i) (c :: T)) : pk B (n : Int) (i : Int) = some c := by
  unfold Sm at hB
  obtain ⟨e, hl, _⟩ := h.cons
  unfold pk peek
  rw [wrap_small (by omega) (by omega), if_pos (by omega)]
  rw [show ((i : Int) + (n : Int)).toNat = n + i by omega, e]
theorem pk0 {B : List Int} {n : Nat} {c : Int} {T : List Int} (hB : Sm B) (h : At B n (c :: T)) : pk B (n : Int) 0 = some c := pkk (i := 0) hB h
theorem pk1 {B : List Int} {n : Nat} {c d : Int} {T : List Int} (hB : Sm B) (h : At B n (d :: c :: T)) : pk B (n : Int) 1 = some c := pkk (i := 1) hB h.tail
theorem pk2 {B : List Int} {n : Nat} {c d e : Int} {T : List Int} (hB : Sm B) (h : At B n (e :: d :: c :: T)) : pk B (n : Int) 2 = some c := pkk (i := 2) hB h.tail.tail
theorem mvk {B : List Int} {n : Nat} (hB : Sm B) (hn : n ≤ B.length) (k : Int) (h0 : 0 ≤ k) (h1 : k ≤ 1000) : mv (n : Int) k = ((n + k.toNat : Nat) : Int) := by
  unfold Sm at hB
  unfold mv
  rw [wrap_small (by omega) (by omega)]
  omega
theorem mv1 {B : List Int} {n : Nat} (hB : Sm B) (hn : n ≤ B.length) : mv (n : Int) 1 = ((n + 1 : Nat) : Int) := mvk hB hn 1 (by decide) (by decide)
theorem mv2 {B : List Int} {n : Nat} (hB : Sm B) (hn : n ≤ B.length) : mv (n : Int) 2 = ((n + 2 : Nat) : Int) := mvk hB hn 2 (by decide) (by decide)
theorem mv3 {B : List Int} {n : Nat} (hB : Sm B) (hn : n ≤ B.length) : mv (n : Int) 3 = ((n + 3 : Nat) : Int) := mvk hB hn 3 (by decide) (by decide)
theorem mv7 {B : List Int} {n : Nat} (hB : Sm B) (hn : n ≤ B.length) : mv (n : Int) 7 = ((n + 7 : Nat) : Int) := mvk hB hn 7 (by decide) (by decide)
theorem psn {B : List Int} {p s : Nat} (hB : Sm B) (hp : p ≤ B.length) (hs : s ≤ p) : ps (p : Int) (s : Int) = ((p - s : Nat) : Int) := by
  unfold Sm at hB
  unfold ps
  rw [wrap_small (by omega) (by omega)]
  omega
theorem seln {B : List Int} {p s : Nat} (hp : p ≤ B.length) (hs : s ≤ p) : sel B (p : Int) (s : Int) = some () := by
  unfold sel
  rw [if_pos (by omega)]
theorem cutn {lo hi i j : Int} (h : 0 ≤ i ∧ i ≤ j ∧ j ≤ hi - lo) : cutB lo hi i j = some () := by
  unfold cutB
  rw [if_pos h]
theorem ob {α β : Type} (a : α) (f : α → Option β) : (some a).bind f = f a := by simp
theorem atB_yes {B : List Int} (hB : Sm B) : ∀ (L : List Int) (n i : Nat), At B (n + i) L → atB B (n : Int) L i = some true
  | [], _, _, _ => rfl
  | c :: L, n, i, h => by
    unfold atB
    rw [pkk hB h, ob]
    simp only [beq_self_eq_true, if_true]
    exact atB_yes hB L n (i + 1) h.tail
theorem atB_no {B : List Int} (hB : Sm B) {n : Nat} {c d : Int} {L T : List Int} (h : At B n (c :: T)) (hn : c ≠ d) : atB B (n : Int) (d :: L) 0 = some false := by
  unfold atB
  rw [show ((0 : Nat) : Int) = 0 from rfl, pk0 hB h, ob]
  simp [hn]
/-- A byte of a name; a blank. -/
def NC (c : Int) : Prop := (97 ≤ c ∧ c ≤ 122) ∨ (48 ≤ c ∧ c ≤ 57)
def BL (c : Int) : Prop := c = 32 ∨ c = 9 ∨ c = 10 ∨ c = 13
theorem NC.ne {c : Int} (h : NC c) (d : Int) (hd : d < 48 ∨ (57 < d ∧ d < 97) ∨ 122 < d := by decide) : (c == d) = false := by
  unfold NC at h
  rw [beq_eq_false_iff_ne]
  omega
theorem BL.ne {c : Int} (h : BL c) (d : Int) (hd : 32 < d ∨ d = 0 := by decide) : (c == d) = false := by
  unfold BL at h
  rw [beq_eq_false_iff_ne]
  omega
theorem BL.yes {c : Int} (h : BL c) : ((((c == 32) || (c == 9)) || (c == 10)) || (c == 13)) = true := by
  unfold BL at h
  rcases h with rfl | rfl | rfl | rfl <;> rfl
theorem blanks_no {d : Int} (hd : ¬ BL d) : ((((d == 32) || (d == 9)) || (d == 10)) || (d == 13)) = false := by
  unfold BL at hd
  simp only [not_or] at hd
  simp [hd]
theorem subn {B : List Int} {lo : Nat} {T : List Int} (h : At B lo T) (hlo : lo ≤ B.length) : (if 0 ≤ (lo : Int) ∧ (lo : Int) ≤ ((lo + T.length : Nat) : Int) ∧ ((lo + T.length : Nat) : Int) ≤ B.length then some ((B.drop (lo : Int).toNat).take (((lo + T.length : Nat) : Int).toNat - (lo : Int).toNat)) else none) = some T := by
  have : lo + T.length ≤ B.length := by
    rcases Nat.eq_zero_or_pos T.length with h0 | h0
    · omega
    · exact h.len h0
  rw [if_pos (by omega), show ((lo + T.length : Nat) : Int).toNat - (lo : Int).toNat = T.length by omega, show (lo : Int).toNat = lo by omega, h.sub]
end Go.Proofs.YtfcedenofbefcaaGreatDoor
