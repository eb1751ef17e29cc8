import Derived.Test.YtfcedenofbefcaaGreatDoorHC
import Derived.Test.YtfcedenofbefcaaGreatDoorHW
namespace Go.Proofs.YtfcedenofbefcaaGreatDoor
open Go.RowKit
set_option linter.unusedVariables false
set_option linter.unusedSimpArgs false
/-! The plain law of HTML: the tokens of a document. -/
theorem hsub_at {B T : List Int} {lo hi : Int} (n : Nat) (h : At B n T) (hn : n ≤ B.length) (e1 : lo = (n : Int)) (e2 : hi = ((n + T.length : Nat) : Int)) : subB B lo hi = some T := by
  subst e1 e2
  exact subn h hn
theorem hsub_nil (B : List Int) : subB B 0 0 = some [] := by unfold subB; simp
theorem hmll_step {K k : Nat} {B : List Int} {p s rt : Int} {tg : Bool} {tl th al ah : Int} {L : List GTok} {t lo hi p' s' rt' : Int} {tg' : Bool} {tl' th' al' ah' : Int} {D T : List Int}
    (h : hNext.f K B p s rt tg tl th al ah = some (t, lo, hi, p', s', rt', tg', tl', th', al', ah')) (h0 : (t == 0) = false) (h7 : (t == 7) = false) (hD : subB B lo hi = some D) (hT : subB B tl' th' = some T) :
    hmll K B (k + 1) p s rt tg tl th al ah L = hmll K B k p' s' rt' tg' tl' th' al' ah' (L ++ [(hkind t, D, T, [])]) := by
  rw [hmll, h, ob]
  dsimp only
  rw [if_neg (by rw [h0]; decide), hD, ob, hT, ob, if_neg (by rw [h7]; decide)]
theorem hmll_stepA {K k : Nat} {B : List Int} {p s rt : Int} {tg : Bool} {tl th al ah : Int} {L : List GTok} {lo hi p' s' rt' : Int} {tg' : Bool} {tl' th' al' ah' : Int} {D T V : List Int}
    (h : hNext.f K B p s rt tg tl th al ah = some (7, lo, hi, p', s', rt', tg', tl', th', al', ah')) (hD : subB B lo hi = some D) (hT : subB B tl' th' = some T) (hV : subB B al' ah' = some V) :
    hmll K B (k + 1) p s rt tg tl th al ah L = hmll K B k p' s' rt' tg' tl' th' al' ah' (L ++ [(hkind 7, D, T, V)]) := by
  rw [hmll, h, ob]
  dsimp only
  rw [if_neg (by decide), hD, ob, hT, ob, if_pos (by decide), hV, ob]
/-- What must stand behind an attribute, by how its value is quoted. -/
def After (q : Int) (R : List Int) : Prop :=
  (q = 2 → ∃ d R', R = d :: R' ∧ (d = 62 ∨ BL d)) ∧ (q = 3 → ∃ S d R', R = S ++ d :: R' ∧ (∀ c ∈ S, BL c) ∧ ¬ BL d ∧ d ≠ 12 ∧ d ≠ 61 ∧ (S = [] → HStop d R'))
def AfterAll : List AttrD → List Int → Prop
  | [], _ => True
  | a :: l, R => After a.quote (attrsT l ++ R) ∧ AfterAll l R
theorem hattrsT_cons (a : AttrD) (l : List AttrD) : attrsT (a :: l) = a.before ++ attrT a ++ attrsT l := rfl
theorem afterAll_of {S R : List Int} {k : Int} (hS : ∀ c ∈ S, BL c) (hk : k = 4 ∨ k = 5) : ∀ (ats : List AttrD), (∀ a ∈ ats, GoodAttr true a) → (k = 5 → S = [] → ∀ a, ats.getLast? = some a → a.quote ≠ 2) → AfterAll ats (S ++ (lastT k ++ R))
  | [], _, _ => trivial
  | [a], hg, hv => by
    refine ⟨⟨fun e2 => ?_, fun e3 => ?_⟩, trivial⟩
    · cases S with
      | cons c S => exact ⟨c, S ++ (lastT k ++ R), rfl, .inr (hS c (by simp))⟩
      | nil =>
        rcases hk with rfl | rfl
        · exact ⟨62, R, rfl, .inl rfl⟩
        · exact absurd e2 (hv rfl rfl a rfl)
    · rcases hk with rfl | rfl
      · exact ⟨S, 62, R, rfl, hS, by unfold BL; omega, by decide, by decide, fun _ => .inl rfl⟩
      · exact ⟨S, 47, 62 :: R, rfl, hS, by unfold BL; omega, by decide, by decide, fun _ => .inr (.inr ⟨rfl, R, rfl⟩)⟩
  | a :: a' :: l, hg, hv => by
    have hga := hg a' (by simp)
    obtain ⟨c, T, e⟩ : ∃ c T, a'.before = c :: T := by
      have h0 := hga.1
      cases hh : a'.before with
      | nil => simp [hh] at h0
      | cons c T => exact ⟨c, T, rfl⟩
    obtain ⟨x, X, ex, hx⟩ := attrT_head hga
    refine ⟨⟨fun _ => ?_, fun _ => ?_⟩, afterAll_of hS hk (a' :: l) (fun x hx => hg x (by simp [hx])) (fun h1 h2 b hb => hv h1 h2 b (by rw [List.getLast?_cons_cons]; exact hb))⟩
    · refine ⟨c, T ++ attrT a' ++ attrsT l ++ (S ++ (lastT k ++ R)), by rw [hattrsT_cons, e]; rfl, .inr (hga.2.1.1 c (by simp [e]))⟩
    · refine ⟨a'.before, x, X ++ attrsT l ++ (S ++ (lastT k ++ R)), by rw [hattrsT_cons, ex]; simp, hga.2.1.1, ?_, ?_, ?_, fun h => by rw [e] at h; cases h⟩
      · unfold NC at hx; unfold BL; omega
      · unfold NC at hx; omega
      · unfold NC at hx; omega
/-- One attribute. -/
theorem h_attr {B : List Int} (hB : Sm B) {K : Nat} (hK : B.length < K) (n : Nat) (rt tl th al ah : Int) {a : AttrD} {R : List Int} (hg : GoodAttr true a) (ha : After a.quote R) (h : At B n (a.before ++ (attrT a ++ R))) :
    ∃ tl' th' al' ah', hNext.f K B (n : Int) (n : Int) rt true tl th al ah = some (7, (n : Int), ((n + a.before.length + (attrT a).length : Nat) : Int), ((n + a.before.length + (attrT a).length : Nat) : Int), ((n + a.before.length + (attrT a).length : Nat) : Int), rt, true, tl', th', al', ah') ∧ subB B tl' th' = some a.name ∧ subB B al' ah' = some (inQ a) := by
  obtain ⟨g1, g2, g3, g4, g5, g6, g7, g8⟩ := hg
  have h1 := h.right
  have hn1 : n + a.before.length ≤ B.length := by
    have := h.left.len g1
    omega
  by_cases e3 : a.quote = 3
  · have eT : attrT a = a.name := by unfold attrT; rw [if_pos e3]
    have eV : inQ a = [] := by
      rcases g8 with ⟨e, _⟩ | ⟨e, _⟩ | ⟨e, _⟩ | ⟨_, _, e, _⟩
      · omega
      · omega
      · omega
      · unfold inQ; rw [if_neg (by omega), if_neg (by omega), e]
    obtain ⟨S, d, R', rfl, hS, hd, h12, h61, hst⟩ := ha.2 e3
    rw [eT] at h h1 ⊢
    refine ⟨_, _, _, _, h_attrN hB K n rt tl th al ah g2.1 g3.1 g3.2.1 hS hd h12 h61 hst h hK, hsub_at (n + a.before.length) h1.left hn1 rfl rfl, by rw [eV]; exact hsub_nil B⟩
  · have eT : attrT a = attrV a.name a.ahead a.behind (inQ a) := by unfold attrT attrV; rw [if_neg e3]
    have hV : GoodV (inQ a) R := by
      rcases g8 with ⟨e, _, hq⟩ | ⟨e, _, hq⟩ | ⟨e, _, hN⟩ | ⟨e, _⟩
      · exact .inl ⟨34, a.value, .inl rfl, by unfold inQ; simp [e], fun c hc => ⟨hq c hc, g6 c hc⟩⟩
      · exact .inl ⟨39, a.value, .inr rfl, by unfold inQ; simp [e], fun c hc => ⟨hq c hc, g6 c hc⟩⟩
      · have eQ : inQ a = a.value := by unfold inQ; simp [e]
        rw [eQ]
        obtain ⟨d, R', eR, hd⟩ := ha.1 e
        refine .inr ⟨hN.2.1, ?_, ?_, fun c hc => ?_, d, R', eR, hd⟩
        · have := hN.2.2.2; omega
        · have := hN.2.2.2; omega
        · have := hN.1 c hc; unfold NC at this; unfold HV; omega
      · exact absurd e e3
    have hx := h_attrV hB K n rt tl th al ah g2.1 g3.1 g3.2.1 g4.1 g5.1 hV (by rw [← eT]; exact h) hK
    rw [← eT] at hx
    have hl := At.len h1.left (by rw [eT]; simp [attrV]; omega)
    have hh := h1.left
    have hlen : (attrT a).length = a.name.length + a.ahead.length + 1 + a.behind.length + (inQ a).length := by rw [eT]; simp [attrV]; omega
    rw [eT] at hh
    unfold attrV at hh
    have h4 := hh.right.right.tail.right
    exact ⟨_, _, _, _, hx, hsub_at (n + a.before.length) hh.left hn1 rfl rfl, hsub_at _ h4 (by omega) rfl (by rw [hlen]; congr 1; omega)⟩
theorem hmll_attrs {B : List Int} (hB : Sm B) {K : Nat} (hK : B.length < K) (rt : Int) : ∀ (ats : List AttrD) (n k : Nat) (tl th al ah : Int) (L : List GTok) (R : List Int), (∀ a ∈ ats, GoodAttr true a) → AfterAll ats R → At B n (attrsT ats ++ R) →
    ∃ tl' th' al' ah', hmll K B (ats.length + k) (n : Int) (n : Int) rt true tl th al ah L = hmll K B k ((n + (attrsT ats).length : Nat) : Int) ((n + (attrsT ats).length : Nat) : Int) rt true tl' th' al' ah' (L ++ ats.map attrTold)
  | [], n, k, tl, th, al, ah, L, R, _, _, _ => ⟨tl, th, al, ah, by simp [attrsT]⟩
  | a :: ats, n, k, tl, th, al, ah, L, R, hg, haf, h => by
    have hga := hg a (by simp)
    rw [hattrsT_cons, List.append_assoc, List.append_assoc] at h
    have h1 := h.right
    have h2 := h1.right
    have hn := h.left.len hga.1
    obtain ⟨tl1, th1, al1, ah1, hx, hT, hV⟩ := h_attr hB hK n rt tl th al ah hga haf.1 h
    obtain ⟨tl', th', al', ah', e⟩ := hmll_attrs hB hK rt ats (n + a.before.length + (attrT a).length) k tl1 th1 al1 ah1 (L ++ [attrTold a]) R (fun x hx => hg x (by simp [hx])) haf.2 h2
    refine ⟨tl', th', al', ah', ?_⟩
    rw [show (a :: ats).length + k = (ats.length + k) + 1 by simp; omega]
    rw [hmll_stepA hx (hsub_at n (T := a.before ++ attrT a) (by rw [← List.append_assoc] at h; exact h.left) (by omega) rfl (by rw [List.length_append]; omega)) hT hV]
    rw [show (hkind 7, a.before ++ attrT a, a.name, inQ a) = attrTold a from rfl, e]
    rw [hattrsT_cons, List.map_cons, List.append_assoc, List.singleton_append]
    rw [show n + (a.before ++ attrT a ++ attrsT ats).length = n + a.before.length + (attrT a).length + (attrsT ats).length by simp [List.length_append]; omega]
/-- What follows the name of a tag ends it. -/
theorem hstop_of {ats : List AttrD} {S : List Int} {k : Int} {R : List Int} (hk : k = 4 ∨ k = 5) (hg : ∀ a ∈ ats, GoodAttr true a) (hS : ∀ c ∈ S, BL c) : ∃ d R', attrsT ats ++ (S ++ (lastT k ++ R)) = d :: R' ∧ HStop d R' := by
  cases ats with
  | cons a ats =>
    obtain ⟨h0, hb, _⟩ := hg a (by simp)
    obtain ⟨c, T, e⟩ : ∃ c T, a.before = c :: T := by
      cases hh : a.before with
      | nil => simp [hh] at h0
      | cons c T => exact ⟨c, T, rfl⟩
    refine ⟨c, T ++ attrT a ++ attrsT ats ++ (S ++ (lastT k ++ R)), by rw [hattrsT_cons, e]; rfl, .inr (.inl (hb.1 c (by simp [e])))⟩
  | nil =>
    cases S with
    | cons c S => exact ⟨c, S ++ (lastT k ++ R), rfl, .inr (.inl (hS c (by simp)))⟩
    | nil =>
      rcases hk with rfl | rfl
      · exact ⟨62, R, rfl, .inl rfl⟩
      · exact ⟨47, 62 :: R, rfl, .inr (.inr ⟨rfl, R, rfl⟩)⟩
theorem hmll_item {B : List Int} (hB : Sm B) {K : Nat} (hK : B.length < K) (i : ItemD) (n k : Nat) (tl th al ah : Int) (L : List GTok) (d : Int) (R : List Int) (hg : GoodItem true i) (hgv : GoodVoid true i) (h : At B n (itemT i ++ d :: R)) (hd : i.kind = 0 → (d = 60 ∧ TagHead R) ∨ (d = 0 ∧ B.length = n + (itemT i).length + 1)) :
    ∃ tl' th' al' ah', hmll K B ((itemTold i).length + k) (n : Int) (n : Int) 0 false tl th al ah L = hmll K B k ((n + (itemT i).length : Nat) : Int) ((n + (itemT i).length : Nat) : Int) 0 false tl' th' al' ah' (L ++ itemTold i) := by
  have hl := h.right.lt
  rcases hg with ⟨e, h0, _, hc⟩ | ⟨e, _, hc⟩ | ⟨e, e2, _⟩ | ⟨e, hN⟩ | hg | ⟨e, e2, _⟩ | ⟨e, hN, _⟩
  · have eT : itemT i = i.text := by unfold itemT; simp [e]
    have eO : itemTold i = [(kText, i.text, i.text, [])] := by unfold itemTold; simp [e]
    rw [eT] at h hl hd ⊢
    rw [eO]
    refine ⟨(n : Int), ((n + i.text.length : Nat) : Int), al, ah, ?_⟩
    rw [show [(kText, i.text, i.text, ([] : List Int))].length + k = k + 1 by simp; omega]
    rw [hmll_step (h_text hB K n tl th al ah (hd e) hc h0 h (by omega)) (by decide) (by decide) (hsub_at n h.left (by omega) rfl rfl) (hsub_at n h.left (by omega) rfl rfl)]
    rfl
  · have eT : itemT i = [60, 33, 45, 45] ++ (i.text ++ [45, 45, 62]) := by unfold itemT; simp [e]
    have eO : itemTold i = [(kComment, itemT i, i.text, [])] := by unfold itemTold; simp [e]
    have hL : (itemT i).length = i.text.length + 7 := by rw [eT]; simp
    rw [eO]
    have hw := h.left
    rw [hL] at hl ⊢
    rw [eT] at h
    simp only [List.cons_append, List.nil_append, List.append_assoc] at h
    have ht := h.tail.tail.tail.tail.left
    refine ⟨((n + 4 : Nat) : Int), ((n + 4 + i.text.length : Nat) : Int), al, ah, ?_⟩
    rw [show [(kComment, itemT i, i.text, ([] : List Int))].length + k = k + 1 by simp; omega]
    rw [hmll_step (h_comment hB K n tl th al ah hc h (by omega)) (by decide) (by decide) (hsub_at n hw (by omega) rfl (by rw [hL]; omega)) (hsub_at (n + 4) ht (by omega) rfl rfl)]
    rfl
  · cases e2
  · have eT : itemT i = [60, 33, 68, 79, 67, 84, 89, 80, 69, 32] ++ (i.name ++ [62]) := by unfold itemT; simp [e]
    have eO : itemTold i = [(kDoctype, itemT i, 32 :: i.name, [])] := by unfold itemTold; simp [e]
    have hL : (itemT i).length = i.name.length + 11 := by rw [eT]; simp
    rw [eO]
    have hw := h.left
    rw [hL] at hl ⊢
    rw [eT, List.append_assoc, List.append_assoc] at h
    have h : At B n ([60, 33, 68, 79, 67, 84, 89, 80, 69] ++ (32 :: i.name ++ 62 :: d :: R)) := h
    have ht := h.right.left
    refine ⟨((n + 9 : Nat) : Int), ((n + 10 + i.name.length : Nat) : Int), al, ah, ?_⟩
    rw [show [(kDoctype, itemT i, 32 :: i.name, ([] : List Int))].length + k = k + 1 by simp; omega]
    rw [hmll_step (h_type hB K n tl th al ah hN.1 h (by omega)) (by decide) (by decide) (hsub_at n hw (by omega) rfl (by rw [hL]; omega)) (hsub_at (n + 9) ht (by omega) rfl (by rw [List.length_cons]; omega))]
    rfl
  · obtain ⟨e, hN, hsp, hA, hS⟩ := hg
    have eT : itemT i = 60 :: (i.name ++ (attrsT i.attrs ++ (i.text ++ lastT i.kind))) := by
      unfold itemT startT
      rcases e with e | e <;> simp [e]
    have eO : itemTold i = (kStartTag, 60 :: i.name, i.name, []) :: (i.attrs.map attrTold ++ [(lastK i.kind, lastT i.kind, [], [])]) := by
      unfold itemTold startT startK
      rcases e with e | e <;> simp [e]
    have hL : (itemT i).length = 1 + i.name.length + (attrsT i.attrs).length + i.text.length + (lastT i.kind).length := by rw [eT]; simp; omega
    rw [eT] at h
    simp only [List.cons_append, List.append_assoc] at h
    obtain ⟨d0, R0, e0, hs⟩ := hstop_of (k := i.kind) (R := d :: R) e hA.1 hS.1
    have h' := h
    rw [e0] at h'
    have h1 := h.tail.right
    have h2 := h1.right
    have h3 := h2.right
    have hx := h_start hB K n tl th al ah hN.1 hN.2.1 hN.2.2.2 (toHash_none (hsp rfl)) h' hs (by omega)
    have hw : At B n (60 :: i.name) := At.left (T := attrsT i.attrs ++ (i.text ++ (lastT i.kind ++ d :: R))) h
    have haf : AfterAll i.attrs (i.text ++ (lastT i.kind ++ d :: R)) := afterAll_of hS.1 e i.attrs hA.1 fun e5 et a ha => hgv rfl e5 et a ha
    rw [eO]
    rw [show ((kStartTag, 60 :: i.name, i.name, ([] : List Int)) :: (i.attrs.map attrTold ++ [(lastK i.kind, lastT i.kind, [], [])])).length + k = (i.attrs.length + (k + 1)) + 1 by simp; omega]
    rw [hmll_step hx (by decide) (by decide) (hsub_at n hw (by omega) rfl (by rw [List.length_cons]; omega)) (hsub_at (n + 1) h.tail.left (by omega) rfl rfl)]
    rw [show n + i.name.length + 1 = n + 1 + i.name.length by omega]
    obtain ⟨tl', th', al', ah', e1⟩ := hmll_attrs hB hK 0 i.attrs (n + 1 + i.name.length) (k + 1) ((n + 1 : Nat) : Int) ((n + 1 + i.name.length : Nat) : Int) al ah (L ++ [(hkind 3, 60 :: i.name, i.name, [])]) _ hA.1 haf h1
    rw [e1]
    have hlast : ∃ t, (t == 0) = false ∧ (t == 7) = false ∧ hkind t = lastK i.kind ∧ hNext.f K B ((n + 1 + i.name.length + (attrsT i.attrs).length : Nat) : Int) ((n + 1 + i.name.length + (attrsT i.attrs).length : Nat) : Int) 0 true tl' th' al' ah' =
        some (t, ((n + 1 + i.name.length + (attrsT i.attrs).length + i.text.length : Nat) : Int), ((n + (itemT i).length : Nat) : Int), ((n + (itemT i).length : Nat) : Int), ((n + (itemT i).length : Nat) : Int), 0, false, 0, 0, 0, 0) := by
      rcases e with e | e
      · have el : lastT i.kind = [62] := by rw [e]; rfl
        have hh := h2
        rw [el] at hh hL
        refine ⟨4, rfl, rfl, by rw [e]; rfl, ?_⟩
        rw [h_close hB K _ 0 tl' th' al' ah' hS.1 hh (by omega), hL]
        congr 1
        all_goals simp only [Option.some.injEq, Prod.mk.injEq, eq_self_iff_true, true_and, and_true, List.length_cons, List.length_nil]
        all_goals omega
      · have el : lastT i.kind = [47, 62] := by rw [e]; rfl
        have hh := h2
        rw [el] at hh hL
        refine ⟨5, rfl, rfl, by rw [e]; rfl, ?_⟩
        rw [h_void hB K _ 0 tl' th' al' ah' hS.1 hh (by omega), hL]
        congr 1
        all_goals simp only [Option.some.injEq, Prod.mk.injEq, eq_self_iff_true, true_and, and_true, List.length_cons, List.length_nil]
        all_goals omega
    obtain ⟨t, t0, t7, tk, ht⟩ := hlast
    refine ⟨0, 0, 0, 0, ?_⟩
    rw [hmll_step ht t0 t7 (hsub_at _ h3.left (by omega) rfl (by rw [hL]; congr 1; omega)) (hsub_nil B), tk]
    simp only [List.append_assoc, List.cons_append, List.nil_append]
    rfl
  · cases e2
  · have eT : itemT i = [60, 47] ++ (i.name ++ [62]) := by unfold itemT; simp [e]
    have eO : itemTold i = [(kEndTag, itemT i, i.name, [])] := by unfold itemTold; simp [e]
    have hL : (itemT i).length = i.name.length + 3 := by rw [eT]; simp
    rw [eO]
    have hw := h.left
    rw [hL] at hl ⊢
    rw [eT] at h
    simp only [List.cons_append, List.nil_append, List.append_assoc] at h
    have ht := h.tail.tail.left
    refine ⟨((n + 2 : Nat) : Int), ((n + 2 + i.name.length : Nat) : Int), al, ah, ?_⟩
    rw [show [(kEndTag, itemT i, i.name, ([] : List Int))].length + k = k + 1 by simp; omega]
    rw [hmll_step (h_end hB K n tl th al ah hN.1 hN.2.1 hN.2.2.2 h (by omega)) (by decide) (by decide) (hsub_at n hw (by omega) rfl (by rw [hL]; omega)) (hsub_at (n + 2) ht (by omega) rfl rfl)]
    rfl
/-- An item that is no text begins with the sign of a tag. -/
theorem item_head {i : ItemD} (hg : GoodItem true i) (h0 : i.kind ≠ 0) : ∃ T, itemT i = 60 :: T ∧ ∀ X, TagHead (T ++ X) := by
  rcases hg with ⟨e, _⟩ | ⟨e, _⟩ | ⟨e, e2, _⟩ | ⟨e, hN⟩ | ⟨e, hN, _⟩ | ⟨e, e2, _⟩ | ⟨e, hN, _⟩
  · exact absurd e h0
  · exact ⟨[33, 45, 45] ++ (i.text ++ [45, 45, 62]), by unfold itemT; simp [e], fun X => .inr (.inl ⟨_, rfl⟩)⟩
  · cases e2
  · exact ⟨[33, 68, 79, 67, 84, 89, 80, 69, 32] ++ (i.name ++ [62]), by unfold itemT; simp [e], fun X => .inr (.inl ⟨_, rfl⟩)⟩
  · obtain ⟨c, S, ec, _, ha, hz⟩ := name_cons hN
    refine ⟨i.name ++ (attrsT i.attrs ++ (i.text ++ lastT i.kind)), ?_, fun X => .inr (.inr ⟨c, S ++ (attrsT i.attrs ++ (i.text ++ lastT i.kind)) ++ X, by rw [ec]; rfl, ha, hz⟩)⟩
    unfold itemT startT
    rcases e with e | e <;> simp [e]
  · cases e2
  · obtain ⟨c, S, ec, _, ha, hz⟩ := name_cons hN
    exact ⟨[47] ++ (i.name ++ [62]), by unfold itemT; simp [e], fun X => .inl ⟨c, S ++ [62] ++ X, by rw [ec]; rfl, ha, hz⟩⟩
theorem hdoc_head {l : List ItemD} (hg : ∀ i ∈ l, GoodItem true i) (h : NoTwo true l) : ∃ d R, docT l ++ [0] = d :: R ∧ ((d = 60 ∧ TagHead R) ∨ (d = 0 ∧ l = [])) := by
  cases l with
  | nil => exact ⟨0, [], rfl, .inr ⟨rfl, rfl⟩⟩
  | cons i l =>
    have h0 : i.kind ≠ 0 := fun e => h.1 ⟨rfl, e⟩
    obtain ⟨T, e, ht⟩ := item_head (hg i (by simp)) h0
    exact ⟨60, T ++ (docT l ++ [0]), by show itemT i ++ docT l ++ [0] = _; rw [e]; simp, .inl ⟨rfl, ht _⟩⟩
theorem hmll_doc {B : List Int} (hB : Sm B) {K : Nat} (hK : B.length < K) : ∀ (l : List ItemD) (n k : Nat) (b : Bool) (tl th al ah : Int) (L : List GTok), (∀ i ∈ l, GoodItem true i ∧ GoodVoid true i) → NoTwo b l → At B n (docT l ++ [0]) → B.length = n + (docT l).length + 1 →
    hmll K B ((docTold l).length + (k + 1)) (n : Int) (n : Int) 0 false tl th al ah L = some (L ++ docTold l, ((n + (docT l).length : Nat) : Int))
  | [], n, k, b, tl, th, al, ah, L, _, _, h, hn => by
    show hmll K B (0 + (k + 1)) _ _ _ _ _ _ _ _ _ = _
    rw [Nat.zero_add, hmll, (h_last hB K n tl th al ah h (by simpa [docT] using hn)).1, ob]
    simp [docTold, docT]
  | i :: l, n, k, b, tl, th, al, ah, L, hg, h2, h, hn => by
    have hg' : ∀ x ∈ l, GoodItem true x ∧ GoodVoid true x := fun x hx => hg x (by simp [hx])
    have ed : docT (i :: l) = itemT i ++ docT l := rfl
    have et : docTold (i :: l) = itemTold i ++ docTold l := rfl
    rw [ed, List.append_assoc] at h
    rw [ed, List.length_append] at hn ⊢
    have h1 := h.right
    obtain ⟨d, R, e, hd⟩ : ∃ d R, docT l ++ [0] = d :: R ∧ (i.kind = 0 → (d = 60 ∧ TagHead R) ∨ (d = 0 ∧ B.length = n + (itemT i).length + 1)) := by
      by_cases h0 : i.kind = 0
      · have h22 := h2.2
        rw [h0] at h22
        obtain ⟨d, R, e, hd⟩ := hdoc_head (fun x hx => (hg' x hx).1) h22
        refine ⟨d, R, e, fun _ => ?_⟩
        rcases hd with hd | ⟨hd, rfl⟩
        · exact .inl hd
        · exact .inr ⟨hd, by rw [hn]; simp [docT]⟩
      · cases hh : docT l ++ [0] with
        | nil => simp at hh
        | cons d R => exact ⟨d, R, rfl, fun e => absurd e h0⟩
    rw [e] at h
    obtain ⟨tl', th', al', ah', e1⟩ := hmll_item hB hK i n ((docTold l).length + (k + 1)) tl th al ah L d R (hg i (by simp)).1 (hg i (by simp)).2 h hd
    rw [et, List.length_append, Nat.add_assoc, e1, hmll_doc hB hK l (n + (itemT i).length) k _ tl' th' al' ah' _ hg' h2.2 h1 (by omega), List.append_assoc, Nat.add_assoc]
/-- THE LAW: the tokens of a document of HTML. -/
theorem html_law {l : List ItemD} (h : GoodDoc true l) (N : Nat) (hN : N = 100000) : htmlF N ((docT l).length + 2) (docT l) = some (docTold l, true) := by
  have hl := docT_len h
  have hB : Sm (docT l ++ [0]) := by unfold Sm; simp; omega
  have ht := docTold_len (html := true) l fun i hi => (h.1 i hi).1
  have h60 := h.2.1
  obtain ⟨k, hk⟩ : ∃ k, N = (docTold l).length + (k + 1) := ⟨N - (docTold l).length - 1, by omega⟩
  have hat : At (docT l ++ [0]) 0 (docT l ++ [0]) := List.prefix_refl _
  have := hmll_doc hB (K := (docT l).length + 2) (by simp) l 0 k false 0 0 0 0 [] h.1 h.2.2 hat (by simp)
  unfold htmlF
  rw [hk]
  have e0 : (0 : Int) = ((0 : Nat) : Int) := rfl
  rw [show hmll ((docT l).length + 2) (docT l ++ [0]) ((docTold l).length + (k + 1)) 0 0 0 false 0 0 0 0 [] = some ([] ++ docTold l, ((0 + (docT l).length : Nat) : Int)) from this, ob]
  dsimp only
  rw [hat_end hB (by simp)]
  rfl
end Go.Proofs.YtfcedenofbefcaaGreatDoor
