import Derived.Test.YtfcedenofbefcaaGreatDoorXC
import Derived.Test.YtfcedenofbefcaaGreatDoorXW
namespace Go.Proofs.YtfcedenofbefcaaGreatDoor
open Go.RowKit
set_option linter.unusedVariables false
set_option linter.unusedSimpArgs false
/-! The plain law of XML: the tokens of a document. -/
theorem subB_at {B T : List Int} {lo hi : Int} (n : Nat) (h : At B n T) (hn : n ≤ B.length) (e1 : lo = (n : Int)) (e2 : hi = ((n + T.length : Nat) : Int)) : subB B lo hi = some T := by
  subst e1 e2
  exact subn h hn
theorem subB_nil (B : List Int) : subB B 0 0 = some [] := by unfold subB; simp
theorem xmll_step {K k : Nat} {B : List Int} {p s : Int} {tg : Bool} {tl th al ah : Int} {L : List GTok} {t lo hi p' s' : Int} {tg' : Bool} {tl' th' al' ah' : Int} {D T : List Int}
    (h : xNext.f K B p s tg tl th al ah = some (t, lo, hi, p', s', tg', tl', th', al', ah')) (h0 : (t == 0) = false) (h10 : (t == 10) = false) (hD : subB B lo hi = some D) (hT : subB B tl' th' = some T) :
    xmll K B (k + 1) p s tg tl th al ah L = xmll K B k p' s' tg' tl' th' al' ah' (L ++ [(xkind t, D, T, [])]) := by
  rw [xmll, h, ob]
  dsimp only
  rw [if_neg (by rw [h0]; decide), hD, ob, hT, ob, if_neg (by rw [h10]; decide)]
theorem xmll_stepA {K k : Nat} {B : List Int} {p s : Int} {tg : Bool} {tl th al ah : Int} {L : List GTok} {lo hi p' s' : Int} {tg' : Bool} {tl' th' al' ah' : Int} {D T V : List Int}
    (h : xNext.f K B p s tg tl th al ah = some (10, lo, hi, p', s', tg', tl', th', al', ah')) (hD : subB B lo hi = some D) (hT : subB B tl' th' = some T) (hV : subB B al' ah' = some V) :
    xmll K B (k + 1) p s tg tl th al ah L = xmll K B k p' s' tg' tl' th' al' ah' (L ++ [(xkind 10, D, T, V)]) := by
  rw [xmll, h, ob]
  dsimp only
  rw [if_neg (by decide), hD, ob, hT, ob, if_pos (by decide), hV, ob]
theorem attrQ_of {a : AttrD} (h : GoodAttr false a) : ∃ q, (q = 34 ∨ q = 39) ∧ attrT a = attrQ a.name a.ahead a.behind a.value q ∧ inQ a = q :: (a.value ++ [q]) ∧ ∀ c ∈ a.value, c ≠ q ∧ c ≠ 0 ∧ c ≠ 9 ∧ c ≠ 10 ∧ c ≠ 13 := by
  obtain ⟨_, _, _, _, _, h0, _, h⟩ := h
  rcases h with ⟨e, hp, hq⟩ | ⟨e, hp, hq⟩ | ⟨_, e, _⟩ | ⟨_, e, _⟩
  · refine ⟨34, .inl rfl, ?_, ?_, fun c hc => ?_⟩
    · unfold attrT inQ attrQ; simp [e]
    · unfold inQ; simp [e]
    · rcases hp with hp | hp
      · cases hp
      · exact ⟨hq c hc, h0 c hc, (hp c hc).2.1, (hp c hc).2.2.1, (hp c hc).2.2.2⟩
  · refine ⟨39, .inr rfl, ?_, ?_, fun c hc => ?_⟩
    · unfold attrT inQ attrQ; simp [e]
    · unfold inQ; simp [e]
    · rcases hp with hp | hp
      · cases hp
      · exact ⟨hq c hc, h0 c hc, (hp c hc).2.1, (hp c hc).2.2.1, (hp c hc).2.2.2⟩
  · cases e
  · cases e
theorem attrsT_cons (a : AttrD) (l : List AttrD) : attrsT (a :: l) = a.before ++ attrT a ++ attrsT l := rfl
theorem xmll_attrs {B : List Int} (hB : Sm B) {K : Nat} (hK : B.length < K) : ∀ (ats : List AttrD) (n k : Nat) (tl th al ah : Int) (L : List GTok) (R : List Int), (∀ a ∈ ats, GoodAttr false a) → At B n (attrsT ats ++ R) →
    ∃ tl' th' al' ah', xmll K B (ats.length + k) (n : Int) (n : Int) true tl th al ah L = xmll K B k ((n + (attrsT ats).length : Nat) : Int) ((n + (attrsT ats).length : Nat) : Int) true tl' th' al' ah' (L ++ ats.map attrTold)
  | [], n, k, tl, th, al, ah, L, R, _, _ => ⟨tl, th, al, ah, by simp [attrsT]⟩
  | a :: ats, n, k, tl, th, al, ah, L, R, hg, h => by
    have hga := hg a (by simp)
    obtain ⟨q, hq, eT, eQ, hv⟩ := attrQ_of hga
    rw [attrsT_cons, List.append_assoc, List.append_assoc] at h
    have h1 := h.right
    have h2 := h1.right
    have hT0 : 0 < (attrT a).length := by rw [eT]; simp [attrQ]; omega
    have hl := At.len h1.left (by omega)
    have hx := x_attr hB K n tl th al ah hq hga.2.1.1 hga.2.2.1.1 hga.2.2.1.2.1 hga.2.2.2.1.1 hga.2.2.2.2.1.1 hv (by rw [← eT]; exact h) hK
    rw [← eT] at hx
    obtain ⟨tl', th', al', ah', e⟩ := xmll_attrs hB hK ats (n + a.before.length + (attrT a).length) k _ _ _ _ (L ++ [attrTold a]) R (fun x hx => hg x (by simp [hx])) h2
    refine ⟨tl', th', al', ah', ?_⟩
    have eV : At B (n + a.before.length + a.name.length + a.ahead.length + 1 + a.behind.length) (inQ a) := by
      have hh : attrT a = a.name ++ (a.ahead ++ (61 :: (a.behind ++ inQ a))) := by rw [eT, eQ]; rfl
      have h3 := h1.left
      rw [hh] at h3
      have h4 := h3.right.right.tail.right
      exact h4
    have hVl : (attrT a).length = a.name.length + a.ahead.length + 1 + a.behind.length + (inQ a).length := by
      rw [eT, eQ]; simp [attrQ]; omega
    rw [show (a :: ats).length + k = (ats.length + k) + 1 by simp; omega]
    rw [xmll_stepA hx (subB_at n (T := a.before ++ attrT a) (by rw [← List.append_assoc] at h; exact h.left) (by omega) rfl (by rw [List.length_append]; omega))
      (subB_at (n + a.before.length) (T := a.name) (by have h3 := h1.left; unfold attrT at h3; split at h3; exact h3; exact h3.left) (by omega) rfl rfl)
      (subB_at _ eV (by omega) rfl (by rw [hVl]; congr 1; omega))]
    rw [show (xkind 10, a.before ++ attrT a, a.name, inQ a) = attrTold a from rfl, e]
    rw [attrsT_cons, List.map_cons, List.append_assoc, List.singleton_append]
    rw [show n + (a.before ++ attrT a ++ attrsT ats).length = n + a.before.length + (attrT a).length + (attrsT ats).length by simp [List.length_append]; omega]
/-- What follows the name of a tag ends it. -/
theorem stop_of {ats : List AttrD} {S : List Int} {k : Int} {R : List Int} {html : Bool} (hg : ∀ a ∈ ats, GoodAttr html a) (hS : ∀ c ∈ S, BL c) : ∃ d R', attrsT ats ++ (S ++ (lastT k ++ R)) = d :: R' ∧ XStop d R' := by
  cases ats with
  | cons a ats =>
    obtain ⟨h0, hb, _⟩ := hg a (by simp)
    obtain ⟨c, T, e⟩ : ∃ c T, a.before = c :: T := by
      cases hh : a.before with
      | nil => simp [hh] at h0
      | cons c T => exact ⟨c, T, rfl⟩
    refine ⟨c, T ++ attrT a ++ attrsT ats ++ (S ++ (lastT k ++ R)), by rw [attrsT_cons, e]; rfl, .inr (.inl (hb.1 c (by simp [e])))⟩
  | nil =>
    cases S with
    | cons c S => exact ⟨c, S ++ (lastT k ++ R), rfl, .inr (.inl (hS c (by simp)))⟩
    | nil =>
      unfold lastT
      split
      · exact ⟨47, 62 :: R, rfl, .inr (.inr ⟨.inl rfl, R, rfl⟩)⟩
      · split
        · exact ⟨63, 62 :: R, rfl, .inr (.inr ⟨.inr rfl, R, rfl⟩)⟩
        · exact ⟨62, R, rfl, .inl rfl⟩
theorem xmll_item {B : List Int} (hB : Sm B) {K : Nat} (hK : B.length < K) (i : ItemD) (n k : Nat) (tl th al ah : Int) (L : List GTok) (d : Int) (R : List Int) (hg : GoodItem false i) (h : At B n (itemT i ++ d :: R)) (hd : i.kind = 0 → d = 60 ∨ d = 0) :
    ∃ tl' th' al' ah', xmll K B ((itemTold i).length + k) (n : Int) (n : Int) false tl th al ah L = xmll K B k ((n + (itemT i).length : Nat) : Int) ((n + (itemT i).length : Nat) : Int) false tl' th' al' ah' (L ++ itemTold i) := by
  have hl := h.right.lt
  rcases hg with ⟨e, h0, _, hc⟩ | ⟨e, _, hc⟩ | ⟨e, _, _, hc⟩ | ⟨e, hN⟩ | hg | ⟨e, _, hN, hA, hS⟩ | ⟨e, hN, _⟩
  · have eT : itemT i = i.text := by unfold itemT; simp [e]
    have eO : itemTold i = [(kText, i.text, i.text, [])] := by unfold itemTold; simp [e]
    rw [eT] at h hl ⊢
    rw [eO]
    refine ⟨(n : Int), ((n + i.text.length : Nat) : Int), al, ah, ?_⟩
    rw [show [(kText, i.text, i.text, ([] : List Int))].length + k = k + 1 by simp; omega]
    rw [xmll_step (x_text hB K n tl th al ah (hd e) hc h0 h (by omega)) (by decide) (by decide) (subB_at n h.left (by omega) rfl rfl) (subB_at n h.left (by omega) rfl rfl)]
    rfl
  · have eT : itemT i = [60, 33, 45, 45] ++ (i.text ++ [45, 45, 62]) := by unfold itemT; simp [e]
    have eO : itemTold i = [(kComment, itemT i, i.text, [])] := by unfold itemTold; simp [e]
    have hL : (itemT i).length = i.text.length + 7 := by rw [eT]; simp
    rw [eO]
    have hw := h.left
    rw [hL] at hl ⊢
    rw [eT] at h
    simp only [List.cons_append, List.nil_append, List.append_assoc] at h
    have ht := h.tail.tail.tail.tail.left
    refine ⟨((n + 4 : Nat) : Int), ((n + 4 + i.text.length : Nat) : Int), al, ah, ?_⟩
    rw [show [(kComment, itemT i, i.text, ([] : List Int))].length + k = k + 1 by simp; omega]
    rw [xmll_step (x_comment hB K n tl th al ah hc h (by omega)) (by decide) (by decide) (subB_at n hw (by omega) rfl (by rw [hL]; omega)) (subB_at (n + 4) ht (by omega) rfl rfl)]
    rfl
  · have eT : itemT i = [60, 33, 91, 67, 68, 65, 84, 65, 91] ++ (i.text ++ [93, 93, 62]) := by unfold itemT; simp [e]
    have eO : itemTold i = [(kCDATA, itemT i, i.text, [])] := by unfold itemTold; simp [e]
    have hL : (itemT i).length = i.text.length + 12 := by rw [eT]; simp
    rw [eO]
    have hw := h.left
    rw [hL] at hl ⊢
    rw [eT, List.append_assoc, List.append_assoc] at h
    have ht := h.right.left
    refine ⟨((n + 9 : Nat) : Int), ((n + 9 + i.text.length : Nat) : Int), al, ah, ?_⟩
    rw [show [(kCDATA, itemT i, i.text, ([] : List Int))].length + k = k + 1 by simp; omega]
    rw [xmll_step (x_section hB K n tl th al ah hc h (by omega)) (by decide) (by decide) (subB_at n hw (by omega) rfl (by rw [hL]; omega)) (subB_at (n + 9) ht (by omega) rfl rfl)]
    rfl
  · have eT : itemT i = [60, 33, 68, 79, 67, 84, 89, 80, 69, 32] ++ (i.name ++ [62]) := by unfold itemT; simp [e]
    have eO : itemTold i = [(kDoctype, itemT i, 32 :: i.name, [])] := by unfold itemTold; simp [e]
    have hL : (itemT i).length = i.name.length + 11 := by rw [eT]; simp
    rw [eO]
    have hw := h.left
    rw [hL] at hl ⊢
    rw [eT, List.append_assoc, List.append_assoc] at h
    have h : At B n ([60, 33, 68, 79, 67, 84, 89, 80, 69] ++ (32 :: i.name ++ 62 :: d :: R)) := h
    have ht := h.right.left
    refine ⟨((n + 9 : Nat) : Int), ((n + 10 + i.name.length : Nat) : Int), al, ah, ?_⟩
    rw [show [(kDoctype, itemT i, 32 :: i.name, ([] : List Int))].length + k = k + 1 by simp; omega]
    rw [xmll_step (x_type hB K n tl th al ah hN.1 h (by omega)) (by decide) (by decide) (subB_at n hw (by omega) rfl (by rw [hL]; omega)) (subB_at (n + 9) ht (by omega) rfl (by rw [List.length_cons]; omega))]
    rfl
  · obtain ⟨e, hN, _, hA, hS⟩ := hg
    have eT : itemT i = 60 :: (i.name ++ (attrsT i.attrs ++ (i.text ++ lastT i.kind))) := by
      unfold itemT startT
      rcases e with e | e <;> simp [e]
    have eO : itemTold i = (kStartTag, 60 :: i.name, i.name, []) :: (i.attrs.map attrTold ++ [(lastK i.kind, lastT i.kind, [], [])]) := by
      unfold itemTold startT startK
      rcases e with e | e <;> simp [e]
    have hL : (itemT i).length = 1 + i.name.length + (attrsT i.attrs).length + i.text.length + (lastT i.kind).length := by rw [eT]; simp; omega
    rw [eT] at h
    simp only [List.cons_append, List.append_assoc] at h
    obtain ⟨d0, R0, e0, hs⟩ := stop_of (k := i.kind) (R := d :: R) hA.1 hS.1
    have h' := h
    rw [e0] at h'
    have h1 := h.tail.right
    have h2 := h1.right
    have h3 := h2.right
    have hx := x_start hB K n tl th al ah hN.1 hN.2.1 h' hs (by omega)
    have hw : At B n (60 :: i.name) := At.left (T := attrsT i.attrs ++ (i.text ++ (lastT i.kind ++ d :: R))) h
    rw [eO]
    rw [show ((kStartTag, 60 :: i.name, i.name, ([] : List Int)) :: (i.attrs.map attrTold ++ [(lastK i.kind, lastT i.kind, [], [])])).length + k = (i.attrs.length + (k + 1)) + 1 by simp; omega]
    rw [xmll_step hx (by decide) (by decide) (subB_at n hw (by omega) rfl (by rw [List.length_cons]; omega)) (subB_at (n + 1) h.tail.left (by omega) rfl rfl)]
    rw [show n + i.name.length + 1 = n + 1 + i.name.length by omega]
    obtain ⟨tl', th', al', ah', e1⟩ := xmll_attrs hB hK i.attrs (n + 1 + i.name.length) (k + 1) ((n + 1 : Nat) : Int) ((n + 1 + i.name.length : Nat) : Int) al ah (L ++ [(xkind 4, 60 :: i.name, i.name, [])]) _ hA.1 h1
    rw [e1]
    have hlast : ∃ t, (t == 0) = false ∧ (t == 10) = false ∧ xkind t = lastK i.kind ∧ xNext.f K B ((n + 1 + i.name.length + (attrsT i.attrs).length : Nat) : Int) ((n + 1 + i.name.length + (attrsT i.attrs).length : Nat) : Int) true tl' th' al' ah' =
        some (t, ((n + 1 + i.name.length + (attrsT i.attrs).length + i.text.length : Nat) : Int), ((n + (itemT i).length : Nat) : Int), ((n + (itemT i).length : Nat) : Int), ((n + (itemT i).length : Nat) : Int), false, 0, 0, 0, 0) := by
      rcases e with e | e
      · have el : lastT i.kind = [62] := by rw [e]; rfl
        have hh := h2
        rw [el] at hh hL
        refine ⟨6, rfl, rfl, by rw [e]; rfl, ?_⟩
        rw [x_close hB K _ tl' th' al' ah' hS.1 hh (by omega), hL]
        congr 1
        all_goals simp only [Option.some.injEq, Prod.mk.injEq, eq_self_iff_true, true_and, and_true, List.length_cons, List.length_nil]
        all_goals omega
      · have el : lastT i.kind = [47, 62] := by rw [e]; rfl
        have hh := h2
        rw [el] at hh hL
        refine ⟨7, rfl, rfl, by rw [e]; rfl, ?_⟩
        rw [x_void hB K _ tl' th' al' ah' hS.1 hh (by omega), hL]
        congr 1
        all_goals simp only [Option.some.injEq, Prod.mk.injEq, eq_self_iff_true, true_and, and_true, List.length_cons, List.length_nil]
        all_goals omega
    obtain ⟨t, t0, t10, tk, ht⟩ := hlast
    refine ⟨0, 0, 0, 0, ?_⟩
    rw [xmll_step ht t0 t10 (subB_at _ h3.left (by omega) rfl (by rw [hL]; congr 1; omega)) (subB_nil B), tk]
    simp only [List.append_assoc, List.cons_append, List.nil_append]
    rfl
  · have eT : itemT i = 60 :: 63 :: (i.name ++ (attrsT i.attrs ++ (i.text ++ lastT i.kind))) := by
      unfold itemT startT
      simp [e]
    have eO : itemTold i = (kStartTagPI, 60 :: 63 :: i.name, i.name, []) :: (i.attrs.map attrTold ++ [(lastK i.kind, lastT i.kind, [], [])]) := by
      unfold itemTold startT startK
      simp [e]
    have hL : (itemT i).length = 2 + i.name.length + (attrsT i.attrs).length + i.text.length + (lastT i.kind).length := by rw [eT]; simp; omega
    rw [eT] at h
    simp only [List.cons_append, List.append_assoc] at h
    obtain ⟨d0, R0, e0, hs⟩ := stop_of (k := i.kind) (R := d :: R) hA.1 hS.1
    have h' := h
    rw [e0] at h'
    have h1 := h.tail.tail.right
    have h2 := h1.right
    have h3 := h2.right
    have hx := x_process hB K n tl th al ah hN.1 h' hs (by omega)
    have hw : At B n (60 :: 63 :: i.name) := At.left (T := attrsT i.attrs ++ (i.text ++ (lastT i.kind ++ d :: R))) h
    rw [eO]
    rw [show ((kStartTagPI, 60 :: 63 :: i.name, i.name, ([] : List Int)) :: (i.attrs.map attrTold ++ [(lastK i.kind, lastT i.kind, [], [])])).length + k = (i.attrs.length + (k + 1)) + 1 by simp; omega]
    rw [xmll_step hx (by decide) (by decide) (subB_at n hw (by omega) rfl (by rw [List.length_cons, List.length_cons]; omega)) (subB_at (n + 2) h.tail.tail.left (by omega) rfl rfl)]
    rw [show n + i.name.length + 2 = n + 2 + i.name.length by omega]
    obtain ⟨tl', th', al', ah', e1⟩ := xmll_attrs hB hK i.attrs (n + 2 + i.name.length) (k + 1) ((n + 2 : Nat) : Int) ((n + 2 + i.name.length : Nat) : Int) al ah (L ++ [(xkind 5, 60 :: 63 :: i.name, i.name, [])]) _ hA.1 h1
    rw [e1]
    have el : lastT i.kind = [63, 62] := by rw [e]; rfl
    have hh := h2
    rw [el] at hh hL
    have ht : xNext.f K B ((n + 2 + i.name.length + (attrsT i.attrs).length : Nat) : Int) ((n + 2 + i.name.length + (attrsT i.attrs).length : Nat) : Int) true tl' th' al' ah' =
        some (8, ((n + 2 + i.name.length + (attrsT i.attrs).length + i.text.length : Nat) : Int), ((n + (itemT i).length : Nat) : Int), ((n + (itemT i).length : Nat) : Int), ((n + (itemT i).length : Nat) : Int), false, 0, 0, 0, 0) := by
      rw [x_closePI hB K _ tl' th' al' ah' hS.1 hh (by omega), hL]
      congr 1
      all_goals simp only [Option.some.injEq, Prod.mk.injEq, eq_self_iff_true, true_and, and_true, List.length_cons, List.length_nil]
      all_goals omega
    have tk : xkind 8 = lastK i.kind := by rw [e]; rfl
    refine ⟨0, 0, 0, 0, ?_⟩
    rw [xmll_step ht (by decide) (by decide) (subB_at _ h3.left (by omega) rfl (by rw [hL, el]; congr 1; simp; omega)) (subB_nil B), tk]
    simp only [List.append_assoc, List.cons_append, List.nil_append]
    rfl
  · have eT : itemT i = [60, 47] ++ (i.name ++ [62]) := by unfold itemT; simp [e]
    have eO : itemTold i = [(kEndTag, itemT i, i.name, [])] := by unfold itemTold; simp [e]
    have hL : (itemT i).length = i.name.length + 3 := by rw [eT]; simp
    rw [eO]
    have hw := h.left
    rw [hL] at hl ⊢
    rw [eT] at h
    simp only [List.cons_append, List.nil_append, List.append_assoc] at h
    have ht := h.tail.tail.left
    refine ⟨((n + 2 : Nat) : Int), ((n + 2 + i.name.length : Nat) : Int), al, ah, ?_⟩
    rw [show [(kEndTag, itemT i, i.name, ([] : List Int))].length + k = k + 1 by simp; omega]
    rw [xmll_step (x_end hB K n tl th al ah hN.1 hN.2.1 h (by omega)) (by decide) (by decide) (subB_at n hw (by omega) rfl (by rw [hL]; omega)) (subB_at (n + 2) ht (by omega) rfl rfl)]
    rfl
theorem doc_head {html : Bool} {l : List ItemD} (hg : ∀ i ∈ l, GoodItem html i) (h : NoTwo true l) : ∃ d R, docT l ++ [0] = d :: R ∧ (d = 60 ∨ d = 0) := by
  cases l with
  | nil => exact ⟨0, [], rfl, .inr rfl⟩
  | cons i l =>
    have h0 : i.kind ≠ 0 := fun e => h.1 ⟨rfl, e⟩
    have : ∃ T, itemT i = 60 :: T := by
      unfold itemT startT
      rw [if_neg h0]
      repeat (split; exact ⟨_, rfl⟩)
      exact ⟨_, rfl⟩
    obtain ⟨T, e⟩ := this
    exact ⟨60, T ++ docT l ++ [0], by show itemT i ++ docT l ++ [0] = _; rw [e]; simp, .inl rfl⟩
theorem doc_head' {html : Bool} {i : ItemD} {l : List ItemD} (hg : ∀ i ∈ l, GoodItem html i) (h : NoTwo (i.kind == 0) l) : ∃ d R, docT l ++ [0] = d :: R ∧ (i.kind = 0 → d = 60 ∨ d = 0) := by
  by_cases h0 : i.kind = 0
  · rw [h0] at h
    obtain ⟨d, R, e, hd⟩ := doc_head hg h
    exact ⟨d, R, e, fun _ => hd⟩
  · cases hh : docT l ++ [0] with
    | nil => simp at hh
    | cons d R => exact ⟨d, R, rfl, fun e => absurd e h0⟩
theorem xmll_doc {B : List Int} (hB : Sm B) {K : Nat} (hK : B.length < K) : ∀ (l : List ItemD) (n k : Nat) (b : Bool) (tl th al ah : Int) (L : List GTok), (∀ i ∈ l, GoodItem false i) → NoTwo b l → At B n (docT l ++ [0]) → B.length = n + (docT l).length + 1 →
    xmll K B ((docTold l).length + (k + 1)) (n : Int) (n : Int) false tl th al ah L = some (L ++ docTold l, ((n + (docT l).length : Nat) : Int))
  | [], n, k, b, tl, th, al, ah, L, _, _, h, hn => by
    show xmll K B (0 + (k + 1)) _ _ _ _ _ _ _ _ = _
    rw [Nat.zero_add, xmll, (x_last hB K n tl th al ah h (by simpa [docT] using hn) (by omega)).1, ob]
    simp [docTold, docT]
  | i :: l, n, k, b, tl, th, al, ah, L, hg, h2, h, hn => by
    have hg' : ∀ x ∈ l, GoodItem false x := fun x hx => hg x (by simp [hx])
    obtain ⟨d, R, e, hd⟩ := doc_head' hg' h2.2
    have ed : docT (i :: l) = itemT i ++ docT l := rfl
    have et : docTold (i :: l) = itemTold i ++ docTold l := rfl
    rw [ed, List.append_assoc] at h
    rw [ed, List.length_append] at hn ⊢
    have h1 := h.right
    rw [e] at h
    obtain ⟨tl', th', al', ah', e1⟩ := xmll_item hB hK i n ((docTold l).length + (k + 1)) tl th al ah L d R (hg i (by simp)) h hd
    rw [et, List.length_append, Nat.add_assoc, e1, xmll_doc hB hK l (n + (itemT i).length) k _ tl' th' al' ah' _ hg' h2.2 h1 (by omega), List.append_assoc, Nat.add_assoc]
/-- THE LAW: the tokens of a document of XML. -/
theorem xml_law {l : List ItemD} (h : GoodDoc false l) (N : Nat) (hN : N = 100000) : xmlF N ((docT l).length + 2) (docT l) = some (docTold l, true) := by
  have hl := docT_len h
  have hB : Sm (docT l ++ [0]) := by unfold Sm; simp; omega
  have ht := docTold_len (html := false) l fun i hi => (h.1 i hi).1
  have h60 := h.2.1
  obtain ⟨k, hk⟩ : ∃ k, N = (docTold l).length + (k + 1) := ⟨N - (docTold l).length - 1, by omega⟩
  have hat : At (docT l ++ [0]) 0 (docT l ++ [0]) := List.prefix_refl _
  have := xmll_doc hB (K := (docT l).length + 2) (by simp) l 0 k false 0 0 0 0 [] (fun i hi => (h.1 i hi).1) h.2.2 hat (by simp)
  unfold xmlF
  rw [hk]
  have e0 : (0 : Int) = ((0 : Nat) : Int) := rfl
  rw [show xmll ((docT l).length + 2) (docT l ++ [0]) ((docTold l).length + (k + 1)) 0 0 false 0 0 0 0 [] = some ([] ++ docTold l, ((0 + (docT l).length : Nat) : Int)) from this, ob]
  dsimp only
  have he : atEnd (docT l ++ [0]) ((0 + (docT l).length : Nat) : Int) 0 = true := by
    unfold atEnd
    rw [wrap_small (by simp <;> omega) (by simp <;> omega), wrap_small (by omega) (by omega)]
    simp
  rw [he]
  rfl
end Go.Proofs.YtfcedenofbefcaaGreatDoor
