import Derived.Test.YtfcedenofbefcaaGreatDoorW2
namespace Go.Proofs.YtfcedenofbefcaaGreatDoor
open Go.RowKit
set_option linter.unusedVariables false
set_option linter.unusedSimpArgs false
attribute [local go_sem ↓] Go.wp_at_zero Go.wp_at_succ
/-- Pieces and a text, made without a write below. -/
def TokPost (lo : Nat) (D : List GTok) (S : List Int) (w : World) (e : Ending) (w' : World) : Prop :=
  (∃ v P A c, e = .returned (.tuple #[v, .slice A S.length c]) ∧ Pcs w' lo w.heap.size v P ∧ P.map Pc.told = D ∧ Slc w' A S c ∧ His lo w.heap.size P) ∧ Below w.heap.size w w'
def ItemV.low (x : ItemV) (lo : Nat) : Prop := Lo lo x.A1 x.text ∧ Lo lo x.A2 x.name ∧ ∀ y ∈ x.attrs, y.low lo
theorem Slc.seg {w : World} {lo : Nat} {A : Option Addr} {T : List Int} {c : Nat} (h : Slc w A T c) (hA : Lo lo A T) : Seg w lo A T c := Seg.low h.b h.k hA
theorem own_one {w : World} {base : Nat} (y : List Value) (hy : y.length = 6) (hb : base ≤ w.heap.size) : (w.alloc (.cells y.toArray 36)).ownsRow base 36 6 (.slice (some ⟨w.heap.size, 0, none⟩) 1 1) 1 y :=
  ⟨by omega, .inr ⟨w.heap.size, 1, y.toArray, rfl, hb, heap_new _ _, Nat.le_refl _, by unfold maxLen; omega, by simp [hy], by rw [List.take_of_length_le (by simp [hy])]⟩⟩
theorem Seg.kp {w W : World} {lo : Nat} {A : Option Addr} {T : List Int} {c : Nat} (h : Seg w lo A T c) (k : Kp w W) : Seg W lo A T c := h.below k
theorem pcs_one {w : World} {lo base : Nat} (x : Pc) (hx : x.Ok w lo) (hb : base ≤ w.heap.size) (hl : lo ≤ base) : Pcs (w.alloc (.cells x.cells.toArray 36)) lo base (.slice (some ⟨w.heap.size, 0, none⟩) 1 1) [x] :=
  ⟨by simpa using own_one x.cells rfl hb, fun y hy => by
    obtain rfl := List.mem_singleton.mp hy
    exact hx.of_block fun k _ hk => Below.heap_alloc _ _ _ hk, hl⟩
theorem Pcs.drew {w : World} {lo base : Nat} {v : Value} {P : List Pc} (h : Pcs w lo base v P) : Pcs w.drew lo base v P := h.of_block (fun _ _ _ => rfl) fun _ _ => rfl
theorem join_3' {W : World} {g : Nat} {S : List Int} {A1 A2 A3 : Option Addr} {T1 T2 T3 : List Int} {n1 n2 n3 c1 c2 c3 : Nat} (hg : W.heap.size = g) (e1 : T1.length = n1) (e2 : T2.length = n2) (e3 : T3.length = n3) (h1 : Slc W A1 T1 c1) (h2 : Slc W A2 T2 c2) (h3 : Slc W A3 T3 c3) (hS : T1 ++ (T2 ++ T3) = S) (hlen : S.length ≤ 1000000) :
    Calls Tryz.prog 49 #[.slice (some ⟨g, 0, none⟩) 3 3] (W.alloc (.cells #[.slice A1 n1 c1, .slice A2 n2 c2, .slice A3 n3 c3] 25)) (JoinPost S (W.alloc (.cells #[.slice A1 n1 c1, .slice A2 n2 c2, .slice A3 n3 c3] 25))) := by
  subst hg e1 e2 e3
  exact join_3 (heap_new _ _) (h1.alloc _) (h2.alloc _) (h3.alloc _) hS hlen
theorem join_2' {W : World} {g : Nat} {S : List Int} {A1 A2 : Option Addr} {T1 T2 : List Int} {n1 n2 c1 c2 : Nat} (hg : W.heap.size = g) (e1 : T1.length = n1) (e2 : T2.length = n2) (h1 : Slc W A1 T1 c1) (h2 : Slc W A2 T2 c2) (hS : T1 ++ T2 = S) (hlen : S.length ≤ 1000000) :
    Calls Tryz.prog 49 #[.slice (some ⟨g, 0, none⟩) 2 2] (W.alloc (.cells #[.slice A1 n1 c1, .slice A2 n2 c2] 25)) (JoinPost S (W.alloc (.cells #[.slice A1 n1 c1, .slice A2 n2 c2] 25))) := by
  subst hg e1 e2
  exact join_2 (heap_new _ _) (h1.alloc _) (h2.alloc _) hS hlen
theorem alloc_le {w W : World} (h : Kp w W) : w.heap.size ≤ W.heap.size := Below.size h
set_option maxHeartbeats 8000000 in
set_option maxRecDepth 100000 in
theorem tokens_text {w : World} (x : ItemV) (lo : Nat) (h : x.In w) (hlo : x.low lo) (hlw : lo ≤ w.heap.size) (hk : x.kind = 0) (hl : (itemT x.d).length ≤ 7000) :
    Calls Tryz.prog 21 #[.agg #[.int .i64 x.kind, .slice x.A1 x.text.length x.c1, .slice x.A2 x.name.length x.c2, .slice x.A3 x.attrs.length x.c3]] w (TokPost lo (itemDue x.d) (itemT x.d) w) := by
  have hcv := conv25g
  have HS := Hd.mk h
  have HLo := Hd.mk hlo
  have HLw := Hd.mk hlw
  have d0 : (x.kind == 0) = true := by rw [hk]; rfl
  have hD : itemDue x.d = [(kText, x.text, x.text, [])] := by unfold itemDue; rw [if_pos (show x.d.kind = 0 from hk)]; rfl
  have hT : itemT x.d = x.text := by unfold itemT; rw [if_pos (show x.d.kind = 0 from hk)]; rfl
  rw [hD, hT]
  clear hD hT h hlo hlw hk hl
  go_enter Tryz.func21, Tryz.ntmps21
  go_wp2_with fail
  have HK0 : Kp w (w.alloc (.cells #[.int .i64 x.kind, .slice x.A1 x.text.length x.c1, .slice x.A2 x.name.length x.c2, .slice x.A3 x.attrs.length x.c3] 43)) := kp_alloc (kp_refl w) _
  have m1 : (w.alloc (.cells #[.int .i64 x.kind, .slice x.A1 x.text.length x.c1, .slice x.A2 x.name.length x.c2, .slice x.A3 x.attrs.length x.c3] 43)).cell? ⟨w.heap.size, 1, none⟩ = some (.slice x.A1 x.text.length x.c1) := new_cell rfl
  generalize w.alloc (.cells #[.int .i64 x.kind, .slice x.A1 x.text.length x.c1, .slice x.A2 x.name.length x.c2, .slice x.A3 x.attrs.length x.c3] 43) = W0 at HK0 m1 ⊢
  have HK := Hd.mk HK0
  clear HK0
  go_region_held3 (fun W => W.cell? ⟨w.heap.size, 1, none⟩ = some (.slice x.A1 x.text.length x.c1)) (first | exact m1 | (simp only [World.cell?_drew]; assumption) | (refine (World.cell?_alloc_lt _ _ _ ?_).trans (by assumption); exact World.block_lt_of_cell? _ _ (by assumption))) (fail)
  go_wp2_with fail
  go_ret2
  have hs := HS.out.s1.kp HK.out
  have hg := hs.seg HLo.out.1
  exact ⟨⟨_, [⟨kText, x.A1, x.text, x.c1, x.A1, x.text, x.c1, none, [], 0⟩], x.A1, x.c1, rfl, (pcs_one ⟨kText, x.A1, x.text, x.c1, x.A1, x.text, x.c1, none, [], 0⟩ ⟨hg, hg, Seg.nil _ _⟩ (alloc_le HK.out) HLw.out).drew, rfl, (hs.alloc _).drew, His.one (Hi.low HLo.out.1) (Hi.low HLo.out.1) (hi_none _ _ _)⟩, kp_drew (kp_alloc HK.out _)⟩
set_option maxHeartbeats 8000000 in
set_option maxRecDepth 100000 in
theorem tokens_comment {w : World} (x : ItemV) (lo : Nat) (h : x.In w) (hlo : x.low lo) (hlw : lo ≤ w.heap.size) (hk : x.kind = 1) (hl : (itemT x.d).length ≤ 7000) :
    Calls Tryz.prog 21 #[.agg #[.int .i64 x.kind, .slice x.A1 x.text.length x.c1, .slice x.A2 x.name.length x.c2, .slice x.A3 x.attrs.length x.c3]] w (TokPost lo (itemDue x.d) (itemT x.d) w) := by
  have hcv := conv25g
  have HS := Hd.mk h
  have HLo := Hd.mk hlo
  have HLw := Hd.mk hlw
  have d0 : (x.kind == 0) = false := by rw [hk]; rfl
  have d1 : (x.kind == 1) = true := by rw [hk]; rfl
  have hD : itemDue x.d = [(kComment, itemT x.d, x.text, [])] := by unfold itemDue; rw [if_neg (by rw [show x.d.kind = 1 from hk]; decide)]; rw [if_pos (show x.d.kind = 1 from hk)] <;> rfl
  have hT : itemT x.d = [60, 33, 45, 45] ++ (x.text ++ [45, 45, 62]) := by unfold itemT; rw [if_neg (by rw [show x.d.kind = 1 from hk]; decide)]; rw [if_pos (show x.d.kind = 1 from hk)] <;> rfl
  rw [hD]
  have HT := Hd.mk (And.intro hT.symm (Nat.le_trans hl (show 7000 ≤ 1000000 by decide)))
  clear hD hT h hlo hlw hk hl
  go_enter Tryz.func21, Tryz.ntmps21
  go_wp2_with fail
  refine (join_3' (T1 := [60, 33, 45, 45]) (T2 := x.text) (T3 := [45, 45, 62]) (by simp) rfl rfl rfl ?g1 ?g2 ?g3 HT.out.1 HT.out.2).mono ?_
  case g1 => exact (slc_lit [60, 33, 45, 45] 4 (by simp)).alloc _
  case g2 => exact ((HS.out.s1.alloc _).alloc _).alloc _
  case g3 => exact slc_lit [45, 45, 62] 3 (by simp)
  rintro e w1 ⟨⟨A, c, rfl, hS, hG, hF⟩, hB⟩
  have hbox : w1.cell? ⟨w.heap.size, 1, none⟩ = some (.slice x.A1 x.text.length x.c1) := by
    refine (hB.cell (p := ⟨w.heap.size, 1, none⟩) (by simp; omega)).trans ?_
    refine (World.cell?_alloc_lt _ _ _ (by simp; omega)).trans ((World.cell?_alloc_lt _ _ _ (by simp; omega)).trans ((World.cell?_alloc_lt _ _ _ (by simp)).trans ?_))
    exact new_cell rfl
  have HB := Hd.mk (kp_trans (kp_alloc (kp_alloc (kp_alloc (kp_alloc (kp_refl w) _) _) _) _) hB)
  have HG := Hd.mk (And.intro hS (And.intro (hG lo) (hi_of (w := w) (lo := lo) (T := itemT x.d) (by repeat (first | exact kp_refl w | apply kp_alloc)) hF)))
  clear hB hS hG hF
  go_wp2_with fail
  go_ret2
  have hs := HS.out.s1.kp HB.out
  have hg := hs.seg HLo.out.1
  exact ⟨⟨_, [⟨kComment, A, itemT x.d, c, x.A1, x.text, x.c1, none, [], 0⟩], A, c, rfl, pcs_one ⟨kComment, A, itemT x.d, c, x.A1, x.text, x.c1, none, [], 0⟩ ⟨HG.out.2.1, hg, Seg.nil _ _⟩ (alloc_le HB.out) HLw.out, rfl, HG.out.1.alloc _, His.one HG.out.2.2 (Hi.low HLo.out.1) (hi_none _ _ _)⟩, kp_alloc HB.out _⟩
set_option maxHeartbeats 8000000 in
set_option maxRecDepth 100000 in
theorem tokens_section {w : World} (x : ItemV) (lo : Nat) (h : x.In w) (hlo : x.low lo) (hlw : lo ≤ w.heap.size) (hk : x.kind = 2) (hl : (itemT x.d).length ≤ 7000) :
    Calls Tryz.prog 21 #[.agg #[.int .i64 x.kind, .slice x.A1 x.text.length x.c1, .slice x.A2 x.name.length x.c2, .slice x.A3 x.attrs.length x.c3]] w (TokPost lo (itemDue x.d) (itemT x.d) w) := by
  have hcv := conv25g
  have HS := Hd.mk h
  have HLo := Hd.mk hlo
  have HLw := Hd.mk hlw
  have d0 : (x.kind == 0) = false := by rw [hk]; rfl
  have d1 : (x.kind == 1) = false := by rw [hk]; rfl
  have d2 : (x.kind == 2) = true := by rw [hk]; rfl
  have hD : itemDue x.d = [(kCDATA, itemT x.d, x.text, [])] := by unfold itemDue; rw [if_neg (by rw [show x.d.kind = 2 from hk]; decide)]; rw [if_neg (by rw [show x.d.kind = 2 from hk]; decide)]; rw [if_pos (show x.d.kind = 2 from hk)] <;> rfl
  have hT : itemT x.d = [60, 33, 91, 67, 68, 65, 84, 65, 91] ++ (x.text ++ [93, 93, 62]) := by unfold itemT; rw [if_neg (by rw [show x.d.kind = 2 from hk]; decide)]; rw [if_neg (by rw [show x.d.kind = 2 from hk]; decide)]; rw [if_pos (show x.d.kind = 2 from hk)] <;> rfl
  rw [hD]
  have HT := Hd.mk (And.intro hT.symm (Nat.le_trans hl (show 7000 ≤ 1000000 by decide)))
  clear hD hT h hlo hlw hk hl
  go_enter Tryz.func21, Tryz.ntmps21
  go_wp2_with fail
  refine (join_3' (T1 := [60, 33, 91, 67, 68, 65, 84, 65, 91]) (T2 := x.text) (T3 := [93, 93, 62]) (by simp) rfl rfl rfl ?g1 ?g2 ?g3 HT.out.1 HT.out.2).mono ?_
  case g1 => exact (slc_lit [60, 33, 91, 67, 68, 65, 84, 65, 91] 9 (by simp)).alloc _
  case g2 => exact ((HS.out.s1.alloc _).alloc _).alloc _
  case g3 => exact slc_lit [93, 93, 62] 3 (by simp)
  rintro e w1 ⟨⟨A, c, rfl, hS, hG, hF⟩, hB⟩
  have hbox : w1.cell? ⟨w.heap.size, 1, none⟩ = some (.slice x.A1 x.text.length x.c1) := by
    refine (hB.cell (p := ⟨w.heap.size, 1, none⟩) (by simp; omega)).trans ?_
    refine (World.cell?_alloc_lt _ _ _ (by simp; omega)).trans ((World.cell?_alloc_lt _ _ _ (by simp; omega)).trans ((World.cell?_alloc_lt _ _ _ (by simp)).trans ?_))
    exact new_cell rfl
  have HB := Hd.mk (kp_trans (kp_alloc (kp_alloc (kp_alloc (kp_alloc (kp_refl w) _) _) _) _) hB)
  have HG := Hd.mk (And.intro hS (And.intro (hG lo) (hi_of (w := w) (lo := lo) (T := itemT x.d) (by repeat (first | exact kp_refl w | apply kp_alloc)) hF)))
  clear hB hS hG hF
  go_wp2_with fail
  go_ret2
  have hs := HS.out.s1.kp HB.out
  have hg := hs.seg HLo.out.1
  exact ⟨⟨_, [⟨kCDATA, A, itemT x.d, c, x.A1, x.text, x.c1, none, [], 0⟩], A, c, rfl, pcs_one ⟨kCDATA, A, itemT x.d, c, x.A1, x.text, x.c1, none, [], 0⟩ ⟨HG.out.2.1, hg, Seg.nil _ _⟩ (alloc_le HB.out) HLw.out, rfl, HG.out.1.alloc _, His.one HG.out.2.2 (Hi.low HLo.out.1) (hi_none _ _ _)⟩, kp_alloc HB.out _⟩
set_option maxHeartbeats 8000000 in
set_option maxRecDepth 100000 in
theorem tokens_type {w : World} (x : ItemV) (lo : Nat) (h : x.In w) (hlo : x.low lo) (hlw : lo ≤ w.heap.size) (hk : x.kind = 3) (hl : (itemT x.d).length ≤ 7000) :
    Calls Tryz.prog 21 #[.agg #[.int .i64 x.kind, .slice x.A1 x.text.length x.c1, .slice x.A2 x.name.length x.c2, .slice x.A3 x.attrs.length x.c3]] w (TokPost lo (itemDue x.d) (itemT x.d) w) := by
  have hcv := conv25g
  have HS := Hd.mk h
  have HLo := Hd.mk hlo
  have HLw := Hd.mk hlw
  have d0 : (x.kind == 0) = false := by rw [hk]; rfl
  have d1 : (x.kind == 1) = false := by rw [hk]; rfl
  have d2 : (x.kind == 2) = false := by rw [hk]; rfl
  have d3 : (x.kind == 3) = true := by rw [hk]; rfl
  have hD : itemDue x.d = [(kDoctype, itemT x.d, [], [])] := by unfold itemDue; rw [if_neg (by rw [show x.d.kind = 3 from hk]; decide)]; rw [if_neg (by rw [show x.d.kind = 3 from hk]; decide)]; rw [if_neg (by rw [show x.d.kind = 3 from hk]; decide)]; rw [if_pos (show x.d.kind = 3 from hk)] <;> rfl
  have hT : itemT x.d = [60, 33, 68, 79, 67, 84, 89, 80, 69, 32] ++ (x.name ++ [62]) := by unfold itemT; rw [if_neg (by rw [show x.d.kind = 3 from hk]; decide)]; rw [if_neg (by rw [show x.d.kind = 3 from hk]; decide)]; rw [if_neg (by rw [show x.d.kind = 3 from hk]; decide)]; rw [if_pos (show x.d.kind = 3 from hk)] <;> rfl
  rw [hD]
  have HT := Hd.mk (And.intro hT.symm (Nat.le_trans hl (show 7000 ≤ 1000000 by decide)))
  clear hD hT h hlo hlw hk hl
  go_enter Tryz.func21, Tryz.ntmps21
  go_wp2_with fail
  refine (join_3' (T1 := [60, 33, 68, 79, 67, 84, 89, 80, 69, 32]) (T2 := x.name) (T3 := [62]) (by simp) rfl rfl rfl ?g1 ?g2 ?g3 HT.out.1 HT.out.2).mono ?_
  case g1 => exact (slc_lit [60, 33, 68, 79, 67, 84, 89, 80, 69, 32] 10 (by simp)).alloc _
  case g2 => exact ((HS.out.s2.alloc _).alloc _).alloc _
  case g3 => exact slc_lit [62] 1 (by simp)
  rintro e w1 ⟨⟨A, c, rfl, hS, hG, hF⟩, hB⟩
  have hbox : w1.cell? ⟨w.heap.size, 2, none⟩ = some (.slice x.A2 x.name.length x.c2) := by
    refine (hB.cell (p := ⟨w.heap.size, 2, none⟩) (by simp; omega)).trans ?_
    refine (World.cell?_alloc_lt _ _ _ (by simp; omega)).trans ((World.cell?_alloc_lt _ _ _ (by simp; omega)).trans ((World.cell?_alloc_lt _ _ _ (by simp)).trans ?_))
    exact new_cell rfl
  have HB := Hd.mk (kp_trans (kp_alloc (kp_alloc (kp_alloc (kp_alloc (kp_refl w) _) _) _) _) hB)
  have HG := Hd.mk (And.intro hS (And.intro (hG lo) (hi_of (w := w) (lo := lo) (T := itemT x.d) (by repeat (first | exact kp_refl w | apply kp_alloc)) hF)))
  clear hB hS hG hF
  go_wp2_with fail
  go_ret2
  have hs := HS.out.s2.kp HB.out
  have hg := hs.seg HLo.out.2.1
  exact ⟨⟨_, [⟨kDoctype, A, itemT x.d, c, none, [], 0, none, [], 0⟩], A, c, rfl, pcs_one ⟨kDoctype, A, itemT x.d, c, none, [], 0, none, [], 0⟩ ⟨HG.out.2.1, Seg.nil _ _, Seg.nil _ _⟩ (alloc_le HB.out) HLw.out, rfl, HG.out.1.alloc _, His.one HG.out.2.2 (hi_none _ _ _) (hi_none _ _ _)⟩, kp_alloc HB.out _⟩
set_option maxHeartbeats 8000000 in
set_option maxRecDepth 100000 in
theorem tokens_end {w : World} (x : ItemV) (lo : Nat) (h : x.In w) (hlo : x.low lo) (hlw : lo ≤ w.heap.size) (hk : x.kind = 7) (hl : (itemT x.d).length ≤ 7000) :
    Calls Tryz.prog 21 #[.agg #[.int .i64 x.kind, .slice x.A1 x.text.length x.c1, .slice x.A2 x.name.length x.c2, .slice x.A3 x.attrs.length x.c3]] w (TokPost lo (itemDue x.d) (itemT x.d) w) := by
  have hcv := conv25g
  have HS := Hd.mk h
  have HLo := Hd.mk hlo
  have HLw := Hd.mk hlw
  have d0 : (x.kind == 0) = false := by rw [hk]; rfl
  have d1 : (x.kind == 1) = false := by rw [hk]; rfl
  have d2 : (x.kind == 2) = false := by rw [hk]; rfl
  have d3 : (x.kind == 3) = false := by rw [hk]; rfl
  have d7 : (x.kind == 7) = true := by rw [hk]; rfl
  have hD : itemDue x.d = [(kEndTag, itemT x.d, x.name, [])] := by unfold itemDue; rw [if_neg (by rw [show x.d.kind = 7 from hk]; decide)]; rw [if_neg (by rw [show x.d.kind = 7 from hk]; decide)]; rw [if_neg (by rw [show x.d.kind = 7 from hk]; decide)]; rw [if_neg (by rw [show x.d.kind = 7 from hk]; decide)]; rw [if_pos (show x.d.kind = 7 from hk)] <;> rfl
  have hT : itemT x.d = [60, 47] ++ (x.name ++ [62]) := by unfold itemT; rw [if_neg (by rw [show x.d.kind = 7 from hk]; decide)]; rw [if_neg (by rw [show x.d.kind = 7 from hk]; decide)]; rw [if_neg (by rw [show x.d.kind = 7 from hk]; decide)]; rw [if_neg (by rw [show x.d.kind = 7 from hk]; decide)]; rw [if_pos (show x.d.kind = 7 from hk)] <;> rfl
  rw [hD]
  have HT := Hd.mk (And.intro hT.symm (Nat.le_trans hl (show 7000 ≤ 1000000 by decide)))
  clear hD hT h hlo hlw hk hl
  go_enter Tryz.func21, Tryz.ntmps21
  go_wp2_with fail
  refine (join_3' (T1 := [60, 47]) (T2 := x.name) (T3 := [62]) (by simp) rfl rfl rfl ?g1 ?g2 ?g3 HT.out.1 HT.out.2).mono ?_
  case g1 => exact (slc_lit [60, 47] 2 (by simp)).alloc _
  case g2 => exact ((HS.out.s2.alloc _).alloc _).alloc _
  case g3 => exact slc_lit [62] 1 (by simp)
  rintro e w1 ⟨⟨A, c, rfl, hS, hG, hF⟩, hB⟩
  have hbox : w1.cell? ⟨w.heap.size, 2, none⟩ = some (.slice x.A2 x.name.length x.c2) := by
    refine (hB.cell (p := ⟨w.heap.size, 2, none⟩) (by simp; omega)).trans ?_
    refine (World.cell?_alloc_lt _ _ _ (by simp; omega)).trans ((World.cell?_alloc_lt _ _ _ (by simp; omega)).trans ((World.cell?_alloc_lt _ _ _ (by simp)).trans ?_))
    exact new_cell rfl
  have HB := Hd.mk (kp_trans (kp_alloc (kp_alloc (kp_alloc (kp_alloc (kp_refl w) _) _) _) _) hB)
  have HG := Hd.mk (And.intro hS (And.intro (hG lo) (hi_of (w := w) (lo := lo) (T := itemT x.d) (by repeat (first | exact kp_refl w | apply kp_alloc)) hF)))
  clear hB hS hG hF
  go_wp2_with fail
  go_ret2
  have hs := HS.out.s2.kp HB.out
  have hg := hs.seg HLo.out.2.1
  exact ⟨⟨_, [⟨kEndTag, A, itemT x.d, c, x.A2, x.name, x.c2, none, [], 0⟩], A, c, rfl, pcs_one ⟨kEndTag, A, itemT x.d, c, x.A2, x.name, x.c2, none, [], 0⟩ ⟨HG.out.2.1, hg, Seg.nil _ _⟩ (alloc_le HB.out) HLw.out, rfl, HG.out.1.alloc _, His.one HG.out.2.2 (Hi.low HLo.out.2.1) (hi_none _ _ _)⟩, kp_alloc HB.out _⟩
end Go.Proofs.YtfcedenofbefcaaGreatDoor
