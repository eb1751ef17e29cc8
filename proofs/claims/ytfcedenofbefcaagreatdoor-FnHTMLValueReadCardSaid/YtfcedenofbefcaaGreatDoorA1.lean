import Derived.Test.YtfcedenofbefcaaGreatDoorA0
namespace Go.Proofs.YtfcedenofbefcaaGreatDoor
open Go.RowKit
set_option linter.unusedVariables false
set_option linter.unusedSimpArgs false
/-! Documents as plain data: their texts, what is due of them, what the lexers tell. -/
structure AttrD where
  before : List Int
  name : List Int
  ahead : List Int
  behind : List Int
  value : List Int
  quote : Int
structure ItemD where
  kind : Int
  text : List Int
  name : List Int
  attrs : List AttrD
/-- What is told of a token: its kind, its bytes, its text, its value. -/
abbrev GTok := List Int × List Int × List Int × List Int
def kComment : List Int := [67, 111, 109, 109, 101, 110, 116]
def kDoctype : List Int := [68, 111, 99, 116, 121, 112, 101]
def kCDATA : List Int := [67, 68, 65, 84, 65]
def kStartTag : List Int := [83, 116, 97, 114, 116, 84, 97, 103]
def kStartTagPI : List Int := [83, 116, 97, 114, 116, 84, 97, 103, 80, 73]
def kStartTagClose : List Int := [83, 116, 97, 114, 116, 84, 97, 103, 67, 108, 111, 115, 101]
def kStartTagVoid : List Int := [83, 116, 97, 114, 116, 84, 97, 103, 86, 111, 105, 100]
def kStartTagClosePI : List Int := [83, 116, 97, 114, 116, 84, 97, 103, 67, 108, 111, 115, 101, 80, 73]
def kEndTag : List Int := [69, 110, 100, 84, 97, 103]
def kAttribute : List Int := [65, 116, 116, 114, 105, 98, 117, 116, 101]
def kText : List Int := [84, 101, 120, 116]
def specials : List (List Int) := [[115, 99, 114, 105, 112, 116], [115, 116, 121, 108, 101], [116, 105, 116, 108, 101], [116, 101, 120, 116, 97, 114, 101, 97], [120, 109, 112], [105, 102, 114, 97, 109, 101], [112, 108, 97, 105, 110, 116, 101, 120, 116], [115, 118, 103], [109, 97, 116, 104], [120, 109, 108], [110, 111, 115, 99, 114, 105, 112, 116], [110, 111, 102, 114, 97, 109, 101, 115], [110, 111, 101, 109, 98, 101, 100]]
def Blanks (l : List Int) : Prop := (∀ c ∈ l, BL c) ∧ l.length ≤ 20
def Name (l : List Int) : Prop := (∀ c ∈ l, NC c) ∧ 0 < l.length ∧ l.length ≤ 20 ∧ 97 ≤ l.getD 0 0 ∧ l.getD 0 0 ≤ 122
def Plain (html : Bool) (v : List Int) : Prop := html = true ∨ ∀ c ∈ v, c ≠ 60 ∧ c ≠ 9 ∧ c ≠ 10 ∧ c ≠ 13
def GoodAttr (html : Bool) (a : AttrD) : Prop :=
  0 < a.before.length ∧ Blanks a.before ∧ Name a.name ∧ Blanks a.ahead ∧ Blanks a.behind ∧ (∀ c ∈ a.value, c ≠ 0) ∧ a.value.length ≤ 200 ∧
  ((a.quote = 0 ∧ Plain html a.value ∧ ∀ c ∈ a.value, c ≠ 34) ∨ (a.quote = 1 ∧ Plain html a.value ∧ ∀ c ∈ a.value, c ≠ 39) ∨ (a.quote = 2 ∧ html = true ∧ Name a.value) ∨
    (a.quote = 3 ∧ html = true ∧ a.value = [] ∧ a.ahead = [] ∧ a.behind = []))
def GoodAttrs (html : Bool) (l : List AttrD) : Prop := (∀ a ∈ l, GoodAttr html a) ∧ l.length ≤ 20
def GoodItem (html : Bool) (i : ItemD) : Prop :=
  (i.kind = 0 ∧ 0 < i.text.length ∧ i.text.length ≤ 500 ∧ ∀ c ∈ i.text, c ≠ 60 ∧ c ≠ 0) ∨
  (i.kind = 1 ∧ i.text.length ≤ 500 ∧ ∀ c ∈ i.text, c ≠ 62 ∧ c ≠ 0) ∨
  (i.kind = 2 ∧ html = false ∧ i.text.length ≤ 500 ∧ ∀ c ∈ i.text, c ≠ 93 ∧ c ≠ 0) ∨
  (i.kind = 3 ∧ Name i.name) ∨
  ((i.kind = 4 ∨ i.kind = 5) ∧ Name i.name ∧ (html = true → i.name ∉ specials) ∧ GoodAttrs html i.attrs ∧ Blanks i.text) ∨
  (i.kind = 6 ∧ html = false ∧ Name i.name ∧ GoodAttrs false i.attrs ∧ Blanks i.text) ∨
  (i.kind = 7 ∧ Name i.name ∧ (html = true → i.name ∉ specials))
/-- No two texts side by side. -/
def NoTwo : Bool → List ItemD → Prop
  | _, [] => True
  | b, i :: l => ¬ (b = true ∧ i.kind = 0) ∧ NoTwo (i.kind == 0) l
/-- Nothing but a blank may stand between a value without quotation marks and the end of a tag without an end. -/
def GoodVoid (html : Bool) (i : ItemD) : Prop := html = true → i.kind = 5 → i.text = [] → ∀ a, i.attrs.getLast? = some a → a.quote ≠ 2
def GoodDoc (html : Bool) (l : List ItemD) : Prop := (∀ i ∈ l, GoodItem html i ∧ GoodVoid html i) ∧ l.length ≤ 60 ∧ NoTwo false l
def inQ (a : AttrD) : List Int := if a.quote = 0 then 34 :: (a.value ++ [34]) else if a.quote = 1 then 39 :: (a.value ++ [39]) else a.value
def attrT (a : AttrD) : List Int := if a.quote = 3 then a.name else a.name ++ (a.ahead ++ 61 :: (a.behind ++ inQ a))
def attrsT (l : List AttrD) : List Int := l.flatMap fun a => a.before ++ attrT a
def startT (k : Int) : List Int := if k = 6 then [60, 63] else [60]
def startK (k : Int) : List Int := if k = 6 then kStartTagPI else kStartTag
def lastT (k : Int) : List Int := if k = 5 then [47, 62] else if k = 6 then [63, 62] else [62]
def lastK (k : Int) : List Int := if k = 5 then kStartTagVoid else if k = 6 then kStartTagClosePI else kStartTagClose
def itemT (i : ItemD) : List Int :=
  if i.kind = 0 then i.text else
  if i.kind = 1 then [60, 33, 45, 45] ++ (i.text ++ [45, 45, 62]) else
  if i.kind = 2 then [60, 33, 91, 67, 68, 65, 84, 65, 91] ++ (i.text ++ [93, 93, 62]) else
  if i.kind = 3 then [60, 33, 68, 79, 67, 84, 89, 80, 69, 32] ++ (i.name ++ [62]) else
  if i.kind = 7 then [60, 47] ++ (i.name ++ [62]) else
  startT i.kind ++ (i.name ++ (attrsT i.attrs ++ (i.text ++ lastT i.kind)))
def docT (l : List ItemD) : List Int := l.flatMap itemT
def attrDue (a : AttrD) : GTok := (kAttribute, attrT a, a.name, inQ a)
def attrTold (a : AttrD) : GTok := (kAttribute, a.before ++ attrT a, a.name, inQ a)
/-- What is due of an item (of a document type no text is asked). -/
def itemDue (i : ItemD) : List GTok :=
  if i.kind = 0 then [(kText, i.text, i.text, [])] else
  if i.kind = 1 then [(kComment, itemT i, i.text, [])] else
  if i.kind = 2 then [(kCDATA, itemT i, i.text, [])] else
  if i.kind = 3 then [(kDoctype, itemT i, [], [])] else
  if i.kind = 7 then [(kEndTag, itemT i, i.name, [])] else
  (startK i.kind, startT i.kind ++ i.name, i.name, []) :: (i.attrs.map attrDue ++ [(lastK i.kind, lastT i.kind, [], [])])
def itemTold (i : ItemD) : List GTok :=
  if i.kind = 0 then [(kText, i.text, i.text, [])] else
  if i.kind = 1 then [(kComment, itemT i, i.text, [])] else
  if i.kind = 2 then [(kCDATA, itemT i, i.text, [])] else
  if i.kind = 3 then [(kDoctype, itemT i, 32 :: i.name, [])] else
  if i.kind = 7 then [(kEndTag, itemT i, i.name, [])] else
  (startK i.kind, startT i.kind ++ i.name, i.name, []) :: (i.attrs.map attrTold ++ [(lastK i.kind, lastT i.kind, [], [])])
def docDue (l : List ItemD) : List GTok := l.flatMap itemDue
def docTold (l : List ItemD) : List GTok := l.flatMap itemTold
def isBl (c : Int) : Bool := c == 32 || c == 10 || c == 13 || c == 9 || c == 12
/-- The bytes of a token without blanks at the beginning, of an attribute. -/
def unbl (k D : List Int) : List Int := if k = kAttribute then D.dropWhile isBl else D
def Match (g d : GTok) : Prop := g.1 = d.1 ∧ unbl d.1 g.2.1 = d.2.1 ∧
  (g.1 ≠ kDoctype → g.1 ≠ kStartTagClose → g.1 ≠ kStartTagVoid → g.1 ≠ kStartTagClosePI → g.2.2.1 = d.2.2.1) ∧ (g.1 = kAttribute → g.2.2.2 = d.2.2.2)
/-- Two lists whose tokens match one by one. -/
def Matches : List GTok → List GTok → Prop
  | [], [] => True
  | g :: G, d :: D => Match g d ∧ Matches G D
  | _, _ => False
theorem Matches.length : ∀ {G D : List GTok}, Matches G D → G.length = D.length
  | [], [], _ => rfl
  | _ :: _, _ :: _, h => by simp [h.2.length]
theorem Matches.append : ∀ {G D G' D' : List GTok}, Matches G D → Matches G' D' → Matches (G ++ G') (D ++ D')
  | [], [], _, _, _, h => h
  | _ :: _, _ :: _, _, _, h, h' => ⟨h.1, h.2.append h'⟩
theorem Matches.at : ∀ {G D : List GTok}, Matches G D → ∀ (i : Nat) (g d : GTok), G[i]? = some g → D[i]? = some d → Match g d
  | [], [], _, i, _, _, hg, _ => by simp at hg
  | _ :: _, _ :: _, h, 0, _, _, hg, hd => by simp at hg hd; subst hg hd; exact h.1
  | _ :: _, _ :: _, h, i + 1, _, _, hg, hd => h.2.at i _ _ (by simpa using hg) (by simpa using hd)
theorem match_same (g : GTok) (h : g.1 ≠ kAttribute) : Match g g := ⟨rfl, by unfold unbl; rw [if_neg h], fun _ _ _ _ => rfl, fun _ => rfl⟩
theorem nc_isBl {c : Int} (h : NC c) : isBl c = false := by
  unfold isBl
  rw [h.ne 32, h.ne 10, h.ne 13, h.ne 9, h.ne 12]
  rfl
theorem bl_isBl {c : Int} (h : BL c) : isBl c = true := by
  unfold BL at h
  rcases h with rfl | rfl | rfl | rfl <;> rfl
theorem drop_blanks : ∀ (S T : List Int), (∀ c ∈ S, isBl c = true) → (∀ c, T.head? = some c → isBl c = false) → (S ++ T).dropWhile isBl = T
  | [], [], _, _ => rfl
  | [], c :: T, _, h => by rw [List.nil_append, List.dropWhile_cons, h c rfl]; rfl
  | c :: S, T, hS, h => by
    rw [List.cons_append, List.dropWhile_cons, hS c (by simp), if_pos rfl]
    exact drop_blanks S T (fun x hx => hS x (by simp [hx])) h
theorem name_cons {l : List Int} (h : Name l) : ∃ c S, l = c :: S ∧ NC c ∧ 97 ≤ c ∧ c ≤ 122 := by
  obtain ⟨h1, h2, _, h3, h4⟩ := h
  cases l with
  | nil => simp at h2
  | cons c S => exact ⟨c, S, rfl, h1 c (by simp), by simpa using h3, by simpa using h4⟩
theorem attrT_head {html : Bool} {a : AttrD} (h : GoodAttr html a) : ∃ c S, attrT a = c :: S ∧ NC c := by
  obtain ⟨c, S, e, hc, _⟩ := name_cons h.2.2.1
  unfold attrT
  split
  · exact ⟨c, S, e, hc⟩
  · rw [e]; exact ⟨c, _, rfl, hc⟩
theorem attr_match {html : Bool} {a : AttrD} (h : GoodAttr html a) : Match (attrTold a) (attrDue a) := by
  refine ⟨rfl, ?_, fun _ _ _ _ => rfl, fun _ => rfl⟩
  obtain ⟨c, S, e, hc⟩ := attrT_head h
  show unbl kAttribute (a.before ++ attrT a) = attrT a
  unfold unbl
  rw [if_pos rfl]
  refine drop_blanks _ _ (fun x hx => bl_isBl (h.2.1.1 x hx)) fun x hx => ?_
  rw [e] at hx
  obtain rfl : c = x := by simpa using hx
  exact nc_isBl hc
theorem attrs_match {html : Bool} : ∀ (l : List AttrD), (∀ a ∈ l, GoodAttr html a) → Matches (l.map attrTold) (l.map attrDue)
  | [], _ => trivial
  | a :: l, h => ⟨attr_match (h a (by simp)), attrs_match l fun x hx => h x (by simp [hx])⟩
theorem startK_ne (k : Int) : startK k ≠ kAttribute := by unfold startK; split <;> decide
theorem lastK_ne (k : Int) : lastK k ≠ kAttribute := by
  unfold lastK
  by_cases h5 : k = 5
  · rw [if_pos h5]; decide
  · rw [if_neg h5]; split <;> decide
theorem item_match {html : Bool} {i : ItemD} (h : GoodItem html i) : Matches (itemTold i) (itemDue i) := by
  unfold itemTold itemDue
  split
  · exact ⟨match_same _ (by show kText ≠ _; decide), trivial⟩
  split
  · exact ⟨match_same _ (by show kComment ≠ _; decide), trivial⟩
  split
  · exact ⟨match_same _ (by show kCDATA ≠ _; decide), trivial⟩
  split
  · exact ⟨⟨rfl, by show unbl kDoctype _ = _; unfold unbl; rw [if_neg (by decide)], fun h => absurd rfl h, fun h => absurd (show kDoctype = kAttribute from h) (by decide)⟩, trivial⟩
  split
  · exact ⟨match_same _ (by show kEndTag ≠ _; decide), trivial⟩
  rename_i h0 h1 h2 h3 h7
  refine ⟨match_same _ (startK_ne _), Matches.append (attrs_match (html := html) _ ?_) ⟨match_same _ (lastK_ne _), trivial⟩⟩
  rcases h with ⟨e, _⟩ | ⟨e, _⟩ | ⟨e, _⟩ | ⟨e, _⟩ | ⟨_, _, _, h, _⟩ | ⟨_, e, _, h, _⟩ | ⟨e, _⟩
  · exact absurd e h0
  · exact absurd e h1
  · exact absurd e h2
  · exact absurd e h3
  · exact h.1
  · rw [e]; exact h.1
  · exact absurd e h7
theorem doc_match {html : Bool} : ∀ (l : List ItemD), (∀ i ∈ l, GoodItem html i) → Matches (docTold l) (docDue l)
  | [], _ => trivial
  | i :: l, h => by
    show Matches (itemTold i ++ docTold l) (itemDue i ++ docDue l)
    exact (item_match (h i (by simp))).append (doc_match l fun x hx => h x (by simp [hx]))
/-! Sizes. -/
theorem flat_len {α : Type} (f : α → List Int) (m : Nat) : ∀ (l : List α), (∀ x ∈ l, (f x).length ≤ m) → (l.flatMap f).length ≤ l.length * m
  | [], _ => by simp
  | x :: l, h => by
    have := flat_len f m l fun y hy => h y (by simp [hy])
    have := h x (by simp)
    rw [List.flatMap_cons, List.length_append, List.length_cons, Nat.add_mul]
    omega
theorem inQ_len (a : AttrD) : (inQ a).length ≤ a.value.length + 2 := by
  unfold inQ
  split
  · simp
  split
  · simp
  · simp
theorem attrT_len {html : Bool} {a : AttrD} (h : GoodAttr html a) : (a.before ++ attrT a).length ≤ 300 := by
  obtain ⟨_, ⟨_, h1⟩, ⟨_, _, h2, _⟩, ⟨_, h3⟩, ⟨_, h4⟩, _, h5, _⟩ := h
  have := inQ_len a
  unfold attrT
  split <;> simp <;> omega
theorem attrsT_len {html : Bool} {l : List AttrD} (h : GoodAttrs html l) : (attrsT l).length ≤ 6000 := by
  have := flat_len (fun a : AttrD => a.before ++ attrT a) 300 l fun a ha => attrT_len (h.1 a ha)
  have := h.2
  unfold attrsT
  omega
theorem itemT_len {html : Bool} {i : ItemD} (h : GoodItem html i) : (itemT i).length ≤ 7000 := by
  have hs : (startT i.kind).length ≤ 2 := by unfold startT; split <;> decide
  have hl : (lastT i.kind).length ≤ 2 := by unfold lastT; split; decide; split <;> decide
  have key : (i.text.length ≤ 500 ∧ i.name.length ≤ 20 ∧ (attrsT i.attrs).length ≤ 6000) ∨ (i.kind < 3 ∧ 0 ≤ i.kind ∧ i.text.length ≤ 500) ∨ ((i.kind = 3 ∨ i.kind = 7) ∧ i.name.length ≤ 20) := by
    rcases h with ⟨e, _, h, _⟩ | ⟨e, h, _⟩ | ⟨e, _, h, _⟩ | ⟨e, _, _, h, _⟩ | ⟨e, ⟨_, _, h1, _⟩, _, h2, _, h3⟩ | ⟨e, e2, ⟨_, _, h1, _⟩, h2, _, h3⟩ | ⟨e, ⟨_, _, h, _⟩, _⟩
    · right; left; omega
    · right; left; omega
    · right; left; omega
    · right; right; omega
    · left; have := attrsT_len h2; omega
    · left; have := attrsT_len h2; omega
    · right; right; omega
  unfold itemT
  split
  · omega
  split
  · simp; omega
  split
  · simp; omega
  split
  · simp; omega
  split
  · simp; omega
  simp
  omega
theorem docT_len {html : Bool} {l : List ItemD} (h : GoodDoc html l) : (docT l).length ≤ 420000 := by
  have := flat_len itemT 7000 l fun i hi => itemT_len (h.1 i hi).1
  have := h.2.1
  unfold docT
  omega
theorem due_told_len (i : ItemD) : (itemDue i).length = (itemTold i).length := by
  unfold itemDue itemTold
  split
  · rfl
  split
  · rfl
  split
  · rfl
  split
  · rfl
  split
  · rfl
  simp
theorem told_len {html : Bool} {i : ItemD} (h : GoodItem html i) : (itemTold i).length ≤ 22 := by
  unfold itemTold
  split
  · simp
  split
  · simp
  split
  · simp
  split
  · simp
  split
  · simp
  rename_i h0 h1 h2 h3 h7
  have : i.attrs.length ≤ 20 := by
    rcases h with ⟨e, _⟩ | ⟨e, _⟩ | ⟨e, _⟩ | ⟨e, _⟩ | ⟨_, _, _, h, _⟩ | ⟨_, e, _, h, _⟩ | ⟨e, _⟩
    · exact absurd e h0
    · exact absurd e h1
    · exact absurd e h2
    · exact absurd e h3
    · exact h.2
    · exact h.2
    · exact absurd e h7
  simp
  omega
theorem docTold_len {html : Bool} : ∀ (l : List ItemD), (∀ i ∈ l, GoodItem html i) → (docTold l).length ≤ l.length * 22
  | [], _ => by simp [docTold]
  | i :: l, h => by
    have h1 := told_len (h i (by simp))
    have h2 := docTold_len l fun x hx => h x (by simp [hx])
    show (itemTold i ++ docTold l).length ≤ _
    rw [List.length_append, List.length_cons, Nat.add_mul]
    omega
end Go.Proofs.YtfcedenofbefcaaGreatDoor
