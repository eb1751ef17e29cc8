import Derived.Test.YtfcedenofbefcaaGreatDoorW1
import Derived.Test.YtfcedenofbefcaaGreatDoorQ6
namespace Go.Proofs.YtfcedenofbefcaaGreatDoor
open Go.RowKit
set_option linter.unusedVariables false
set_option linter.unusedSimpArgs false
attribute [local go_sem ↓] Go.wp_at_zero Go.wp_at_succ
/-- The world behind the mark of a row of constants. -/
def World.mark (w : World) (g : Nat) (n : Nat) : World := w.freeze ⟨g, n, none⟩ 1
theorem run_conv_at (w : World) (g : Nat) (C : Array Value) (f : Nat × Nat) (n c : Nat) (h : w.heap[g]? = some (.cells C 5 f)) : (convert 25 25 (.slice (some ⟨g, 0, none⟩) n c)).run Tryz.prog w = .ok (.slice (some ⟨g, 0, none⟩) n c) (World.mark w g C.size) := by
  have hsh : w.shape? g = some (5, C.size) := by unfold World.shape?; rw [h]
  simp [convert, run_underlying Tryz.underlying25, run_underlying Tryz.underlying5, markStringish, hsh, World.mark]
theorem mark_size (w : World) (g n : Nat) : (World.mark w g n).heap.size = w.heap.size := by unfold World.mark World.freeze; split <;> simp
theorem mark_block (w : World) (g n k : Nat) (h : k ≠ g) : (World.mark w g n).heap[k]? = w.heap[k]? := by
  unfold World.mark World.freeze
  split
  · rfl
  · simp only [Array.getElem?_modify]
    rw [if_neg (fun e => h e.symm)]
theorem mark_cell (w : World) (g n : Nat) (a : Addr) : (World.mark w g n).cell? a = w.cell? a := by
  unfold World.mark World.freeze
  split
  · rfl
  · simp only [World.cell?, Array.getElem?_modify]
    by_cases e : g = a.block
    · rw [if_pos e]
      cases hh : w.heap[a.block]? with
      | none => rfl
      | some o => cases o <;> rfl
    · rw [if_neg e]
theorem kp_mark {w W : World} (h : Kp w W) (g n : Nat) (hg : w.heap.size ≤ g) : Kp w (World.mark W g n) := by
  have hk : Kp w (World.mark W g n) := Below.trans h ⟨by unfold World.mark World.freeze; split <;> rfl, by unfold World.mark World.freeze; split <;> rfl, by unfold World.mark World.freeze; split <;> rfl, by rw [mark_size]; exact Nat.le_refl _, fun k hk => mark_block W g n k (by omega)⟩
  exact hk
theorem Slc.mark {w : World} {A : Option Addr} {T : List Int} {c : Nat} (h : Slc w A T c) (g n : Nat) : Slc (World.mark w g n) A T c :=
  ⟨⟨h.b.len, fun h0 => by
    obtain ⟨b, o, e, hc⟩ := h.b.cells h0
    exact ⟨b, o, e, fun j hj => (mark_cell w g n _).trans (hc j hj)⟩⟩, h.k, h.z⟩
theorem Slc.kp {w W : World} {A : Option Addr} {T : List Int} {c : Nat} (h : Slc w A T c) (k : Kp w W) : Slc W A T c := h.below k
theorem kp_call {w W w' : World} (h : Kp w W) (k : Below W.heap.size W w') : Kp w w' := kp_trans h k
theorem Slc.drew {w : World} {A : Option Addr} {T : List Int} {c : Nat} (h : Slc w A T c) : Slc w.drew A T c := h.kp (kp_drew (kp_refl w))
theorem slc61 (w : World) (f : Nat × Nat) : Slc (w.alloc (.cells #[.int .u8 61] 5 f)) (some ⟨w.heap.size, 0, none⟩) [61] 1 := slc_lit [61] 1 rfl
theorem join_in {W : World} {g : Nat} {S : List Int} (PL : List Part) (hg : W.heap[g]? = some (.cells (PL.map Part.val).toArray 25 (0, 0))) (hd : ∀ x ∈ PL, Slc W x.1 x.2.1 x.2.2) (hS : PL.flatMap (·.2.1) = S) (hPL : PL.length ≤ 1000) (hlen : S.length ≤ 1000000) :
    Calls Tryz.prog 49 #[.slice (some ⟨g, 0, none⟩) PL.length PL.length] W (JoinPost S W) := by
  subst hS
  exact join5_calls hg hPL hd hlen
theorem join_5 {W : World} {g : Nat} {S : List Int} {A1 A2 A3 A4 A5 : Option Addr} {T1 T2 T3 T4 T5 : List Int} {c1 c2 c3 c4 c5 : Nat} (hg : W.heap[g]? = some (.cells #[.slice A1 T1.length c1, .slice A2 T2.length c2, .slice A3 T3.length c3, .slice A4 T4.length c4, .slice A5 T5.length c5] 25 (0, 0))) (h1 : Slc W A1 T1 c1) (h2 : Slc W A2 T2 c2) (h3 : Slc W A3 T3 c3) (h4 : Slc W A4 T4 c4) (h5 : Slc W A5 T5 c5) (hS : T1 ++ (T2 ++ (T3 ++ (T4 ++ T5))) = S) (hlen : S.length ≤ 1000000) :
    Calls Tryz.prog 49 #[.slice (some ⟨g, 0, none⟩) 5 5] W (JoinPost S W) := by
  refine join_in [(A1, T1, c1), (A2, T2, c2), (A3, T3, c3), (A4, T4, c4), (A5, T5, c5)] hg (fun p hp => ?_) (by rw [← hS]; simp) (by simp) hlen
  · simp only [List.mem_cons, List.mem_nil_iff, or_false] at hp
    rcases hp with rfl | rfl | rfl | rfl | rfl
    · exact h1
    · exact h2
    · exact h3
    · exact h4
    · exact h5
theorem join_3 {W : World} {g : Nat} {S : List Int} {A1 A2 A3 : Option Addr} {T1 T2 T3 : List Int} {c1 c2 c3 : Nat} (hg : W.heap[g]? = some (.cells #[.slice A1 T1.length c1, .slice A2 T2.length c2, .slice A3 T3.length c3] 25 (0, 0))) (h1 : Slc W A1 T1 c1) (h2 : Slc W A2 T2 c2) (h3 : Slc W A3 T3 c3) (hS : T1 ++ (T2 ++ T3) = S) (hlen : S.length ≤ 1000000) :
    Calls Tryz.prog 49 #[.slice (some ⟨g, 0, none⟩) 3 3] W (JoinPost S W) := by
  refine join_in [(A1, T1, c1), (A2, T2, c2), (A3, T3, c3)] hg (fun p hp => ?_) (by rw [← hS]; simp) (by simp) hlen
  · simp only [List.mem_cons, List.mem_nil_iff, or_false] at hp
    rcases hp with rfl | rfl | rfl
    · exact h1
    · exact h2
    · exact h3
theorem join_2 {W : World} {g : Nat} {S : List Int} {A1 A2 : Option Addr} {T1 T2 : List Int} {c1 c2 : Nat} (hg : W.heap[g]? = some (.cells #[.slice A1 T1.length c1, .slice A2 T2.length c2] 25 (0, 0))) (h1 : Slc W A1 T1 c1) (h2 : Slc W A2 T2 c2) (hS : T1 ++ T2 = S) (hlen : S.length ≤ 1000000) :
    Calls Tryz.prog 49 #[.slice (some ⟨g, 0, none⟩) 2 2] W (JoinPost S W) := by
  refine join_in [(A1, T1, c1), (A2, T2, c2)] hg (fun p hp => ?_) (by rw [← hS]; simp) (by simp) hlen
  · simp only [List.mem_cons, List.mem_nil_iff, or_false] at hp
    rcases hp with rfl | rfl
    · exact h1
    · exact h2
/-- The cells of a struct's box, in whatever world that holds more. -/
def AttrV.box (x : AttrV) : Obj := .cells #[.slice x.A1 x.d.before.length x.c1, .slice x.A2 x.d.name.length x.c2, .slice x.A3 x.d.ahead.length x.c3, .slice x.A4 x.d.behind.length x.c4, .slice x.A5 x.d.value.length x.c5, .int .i64 x.d.quote] 47
def AttrV.Box (x : AttrV) (w W : World) : Prop := Kp (w.alloc x.box) W
theorem AttrV.Box.cell {x : AttrV} {w W : World} (h : x.Box w W) (j : Nat) (u : Value) (hu : #[.slice x.A1 x.d.before.length x.c1, .slice x.A2 x.d.name.length x.c2, .slice x.A3 x.d.ahead.length x.c3, .slice x.A4 x.d.behind.length x.c4, .slice x.A5 x.d.value.length x.c5, .int .i64 x.d.quote][j]? = some u) : W.cell? ⟨w.heap.size, j, none⟩ = some u :=
  (Below.cell (show Below _ _ _ from h) (p := ⟨w.heap.size, j, none⟩) (by simp)).trans (new_cell hu)
theorem AttrV.Box.kp {x : AttrV} {w W : World} (h : x.Box w W) : Kp w W := kp_trans (kp_alloc (kp_refl w) x.box) h
def AttrV.BoxS (x : AttrV) (w W : World) : Prop :=
  W.cell? ⟨w.heap.size, 0, none⟩ = some (.slice x.A1 x.d.before.length x.c1) ∧ W.cell? ⟨w.heap.size, 1, none⟩ = some (.slice x.A2 x.d.name.length x.c2) ∧ W.cell? ⟨w.heap.size, 2, none⟩ = some (.slice x.A3 x.d.ahead.length x.c3) ∧
  W.cell? ⟨w.heap.size, 3, none⟩ = some (.slice x.A4 x.d.behind.length x.c4) ∧ W.cell? ⟨w.heap.size, 4, none⟩ = some (.slice x.A5 x.d.value.length x.c5) ∧ W.cell? ⟨w.heap.size, 5, none⟩ = some (.int .i64 x.d.quote) ∧ Hd (x.Box w W)
theorem AttrV.Box.s {x : AttrV} {w W : World} (h : x.Box w W) : x.BoxS w W := ⟨h.cell 0 _ rfl, h.cell 1 _ rfl, h.cell 2 _ rfl, h.cell 3 _ rfl, h.cell 4 _ rfl, h.cell 5 _ rfl, ⟨h⟩⟩
theorem AttrV.BoxS.b {x : AttrV} {w W : World} (h : x.BoxS w W) : x.Box w W := h.2.2.2.2.2.2.out
theorem AttrV.BoxS.alloc {x : AttrV} {w W : World} (h : x.BoxS w W) (o : Obj) : x.BoxS w (W.alloc o) := AttrV.Box.s (kp_alloc h.b o)
theorem AttrV.BoxS.drew {x : AttrV} {w W : World} (h : x.BoxS w W) : x.BoxS w W.drew := AttrV.Box.s (kp_drew h.b)
theorem AttrV.BoxS.call {x : AttrV} {w W w' : World} (h : x.BoxS w W) (k : Below W.heap.size W w') : x.BoxS w w' := AttrV.Box.s (kp_call h.b k)
theorem AttrV.BoxS.mark {x : AttrV} {w W : World} (h : x.BoxS w W) (g n : Nat) (hg : w.heap.size + 1 ≤ g) : x.BoxS w (World.mark W g n) := AttrV.Box.s (kp_mark h.b g n (by simp; omega))

set_option maxHeartbeats 8000000 in
set_option maxRecDepth 100000 in
theorem attribute_calls {w : World} {html : Bool} (x : AttrV) (lo : Nat) (h : x.In w) (hlo : x.low lo) (hg : GoodAttr html x.d) :
    Calls Tryz.prog 50 #[.agg #[.slice x.A1 x.d.before.length x.c1, .slice x.A2 x.d.name.length x.c2, .slice x.A3 x.d.ahead.length x.c3, .slice x.A4 x.d.behind.length x.c4, .slice x.A5 x.d.value.length x.c5, .int .i64 x.d.quote]] w (Gives lo (attrT x.d) w) := by
  have hcv := conv25g
  have HS := Hd.mk h
  have HLo := Hd.mk hlo
  have HL := Hd.mk hg.2.2.2.2.2.2.1
  have HLen := Hd.mk (attrT_len hg)
  have C0 := Hd.mk (fun W (k : Kp w W) => inQuotes_calls (w := W) x lo (h.below k) hlo hg.2.2.2.2.2.2.1)
  clear h hlo hg
  go_enter Tryz.func50, Tryz.ntmps50
  by_cases h3 : x.d.quote = 3
  · have d3 : (x.d.quote == 3) = true := beq_iff_eq.mpr h3
    have hq : attrT x.d = x.d.name := by unfold attrT; rw [if_pos h3]
    rw [hq]
    clear hq h3
    have HK : Hd (∀ W, Kp w W → (Slc W x.A2 x.d.name x.c2 ∧ Seg W lo x.A2 x.d.name x.c2 ∧ Hi lo w.heap.size x.A2 x.d.name) ∧ Below w.heap.size w W) := ⟨fun W k => ⟨⟨HS.out.s2.below k, Seg.low (HS.out.s2.below k).b HS.out.s2.k HLo.out.1, Hi.low HLo.out.1⟩, k⟩⟩
    go_wp2_with fail
    go_ret
    exact ⟨⟨_, _, rfl, (HK.out _ (kp_alloc (kp_refl w) _)).1⟩, (HK.out _ (kp_alloc (kp_refl w) _)).2⟩
  have d3 : (x.d.quote == 3) = false := beq_eq_false_iff_ne.mpr h3
  have HQ : Hd (attrT x.d = x.d.name ++ (x.d.ahead ++ 61 :: (x.d.behind ++ inQ x.d))) := ⟨by unfold attrT; rw [if_neg h3]⟩
  clear h3
  have HF : Hd (x.d.name ++ (x.d.ahead ++ ([61] ++ (x.d.behind ++ inQ x.d))) = attrT x.d) := ⟨by rw [HQ.out]; rfl⟩
  have HLen2 : Hd ((attrT x.d).length ≤ 1000000) := ⟨by have := HLen.out; rw [List.length_append] at this; omega⟩
  go_wp2_with fail
  have HB0 : x.BoxS w (w.alloc x.box) := AttrV.Box.s (kp_refl _)
  unfold AttrV.box at HB0
  generalize w.alloc (.cells #[.slice x.A1 x.d.before.length x.c1, .slice x.A2 x.d.name.length x.c2, .slice x.A3 x.d.ahead.length x.c3, .slice x.A4 x.d.behind.length x.c4, .slice x.A5 x.d.value.length x.c5, .int .i64 x.d.quote] 47) = W0 at HB0 ⊢
  have HBx : Hd (x.BoxS w W0) := ⟨HB0⟩
  obtain ⟨m0, m1, m2, m3, m4, m5, HBB⟩ := HB0
  clear hcv
  have hsz0 : w.heap.size + 1 ≤ W0.heap.size := by have := Below.size (show Below _ _ _ from HBx.out.b); simpa using this
  have hcv0 : ∀ (W : World) (n c : Nat), (convert 25 25 (.slice (some ⟨W.heap.size, 0, none⟩) n c)).run Tryz.prog (W.alloc (.cells #[.int .u8 61] 5)) = .ok (.slice (some ⟨W.heap.size, 0, none⟩) n c) (World.mark (W.alloc (.cells #[.int .u8 61] 5)) W.heap.size 1) := fun W n c => run_conv_at _ _ _ (0, 0) n c (heap_new _ _)
  have hcv1 : ∀ (W : World) (n c : Nat), (convert 25 25 (.slice (some ⟨W.heap.size, 0, none⟩) n c)).run Tryz.prog (W.alloc (.cells #[.int .u8 61] 5)).drew = .ok (.slice (some ⟨W.heap.size, 0, none⟩) n c) (World.mark (W.alloc (.cells #[.int .u8 61] 5)).drew W.heap.size 1) := fun W n c => run_conv_at (W.alloc (.cells #[.int .u8 61] 5)).drew W.heap.size #[.int .u8 61] (0, 0) n c (show (W.alloc (.cells #[.int .u8 61] 5)).heap[W.heap.size]? = _ from heap_new _ _)
  have hcv2 : ∀ (W : World) (g n c : Nat), W.heap[g]? = some (.cells #[.int .u8 61] 5 (0, 0)) → (convert 25 25 (.slice (some ⟨g, 0, none⟩) n c)).run Tryz.prog W = .ok (.slice (some ⟨g, 0, none⟩) n c) (World.mark W g 1) := fun W g n c h => run_conv_at W g _ (0, 0) n c h
  refine wp_region_held_drew (S := (fun W => W.cell? ⟨w.heap.size, 0, none⟩ = some (.slice x.A1 x.d.before.length x.c1) ∧ W.cell? ⟨w.heap.size, 1, none⟩ = some (.slice x.A2 x.d.name.length x.c2) ∧ W.cell? ⟨w.heap.size, 2, none⟩ = some (.slice x.A3 x.d.ahead.length x.c3) ∧ W.cell? ⟨w.heap.size, 3, none⟩ = some (.slice x.A4 x.d.behind.length x.c4) ∧ W.cell? ⟨w.heap.size, 4, none⟩ = some (.slice x.A5 x.d.value.length x.c5) ∧ W.cell? ⟨w.heap.size, 5, none⟩ = some (.int .i64 x.d.quote) ∧ Hd (x.Box w W))) (by kernel_rfl) ?_ (fun hHeld => ?_)
  · (try dsimp only); (first | exact AttrV.BoxS.drew HBx.out | exact AttrV.BoxS.alloc (by assumption) _ | exact AttrV.BoxS.call (by assumption) (by assumption) | exact AttrV.BoxS.mark (by assumption) _ _ (by omega))
  refine wpAnyH_take (i := 0) (oi := { dst := some 8, op := Op.fieldAddr 47 (Operand.tmp 1) 1, type := 0, pos := "markup.go:146", after := #[], guard := none }) (v := ?_) rfl (by kernel_rfl) (by kernel_rfl) (by kernel_rfl) (fun _ _ _ h => h) (Or.inl ⟨by rfl, ?_⟩) (by assumption) ?_
  rotate_left
  · (intro w hSw; (try dsimp only at hSw); go_simp <;> with_reducible rfl)
  try simp only [Act.put, List.setIfInBounds_toArray, List.set_cons_zero, List.set_cons_succ]
  refine wpAnyH_take (i := 1) (oi := { dst := some 9, op := Op.load 25 (Operand.tmp 8), type := 25, pos := "markup.go:146", after := #[{ on := 0, ground := Ground.data }], guard := none }) (v := ?_) rfl (by kernel_rfl) (by kernel_rfl) (by kernel_rfl) (fun _ _ _ h => h) (Or.inl ⟨by rfl, ?_⟩) (by assumption) ?_
  rotate_left
  · (intro w hSw; (try dsimp only at hSw); go_simp <;> with_reducible rfl)
  try simp only [Act.put, List.setIfInBounds_toArray, List.set_cons_zero, List.set_cons_succ]
  refine wpAnyH_take (i := 2) (oi := { dst := some 10, op := Op.fieldAddr 47 (Operand.tmp 1) 2, type := 0, pos := "markup.go:146", after := #[], guard := none }) (v := ?_) rfl (by kernel_rfl) (by kernel_rfl) (by kernel_rfl) (fun _ _ _ h => h) (Or.inl ⟨by rfl, ?_⟩) (by assumption) ?_
  rotate_left
  · (intro w hSw; (try dsimp only at hSw); go_simp <;> with_reducible rfl)
  try simp only [Act.put, List.setIfInBounds_toArray, List.set_cons_zero, List.set_cons_succ]
  refine wpAnyH_take (i := 3) (oi := { dst := some 11, op := Op.load 25 (Operand.tmp 10), type := 25, pos := "markup.go:146", after := #[{ on := 2, ground := Ground.data }], guard := none }) (v := ?_) rfl (by kernel_rfl) (by kernel_rfl) (by kernel_rfl) (fun _ _ _ h => h) (Or.inl ⟨by rfl, ?_⟩) (by assumption) ?_
  rotate_left
  · (intro w hSw; (try dsimp only at hSw); go_simp <;> with_reducible rfl)
  try simp only [Act.put, List.setIfInBounds_toArray, List.set_cons_zero, List.set_cons_succ]
  refine wpAnyH_take (i := 6) (oi := { dst := some 14, op := Op.fieldAddr 47 (Operand.tmp 1) 3, type := 0, pos := "markup.go:146", after := #[], guard := none }) (v := ?_) rfl (by kernel_rfl) (by kernel_rfl) (by kernel_rfl) (fun _ _ _ h => h) (Or.inl ⟨by rfl, ?_⟩) (by assumption) ?_
  rotate_left
  · (intro w hSw; (try dsimp only at hSw); go_simp <;> with_reducible rfl)
  try simp only [Act.put, List.setIfInBounds_toArray, List.set_cons_zero, List.set_cons_succ]
  refine wpAnyH_take (i := 7) (oi := { dst := some 15, op := Op.load 25 (Operand.tmp 14), type := 25, pos := "markup.go:146", after := #[{ on := 6, ground := Ground.data }], guard := none }) (v := ?_) rfl (by kernel_rfl) (by kernel_rfl) (by kernel_rfl) (fun _ _ _ h => h) (Or.inl ⟨by rfl, ?_⟩) (by assumption) ?_
  rotate_left
  · (intro w hSw; (try dsimp only at hSw); go_simp <;> with_reducible rfl)
  try simp only [Act.put, List.setIfInBounds_toArray, List.set_cons_zero, List.set_cons_succ]
  refine wpAnyH_take (i := 8) (oi := { dst := some 16, op := Op.load 47 (Operand.tmp 1), type := 47, pos := "markup.go:146", after := #[], guard := none }) (v := ?_) rfl (by kernel_rfl) (by kernel_rfl) (by kernel_rfl) (fun _ _ _ h => h) (Or.inl ⟨by rfl, ?_⟩) (by assumption) ?_
  rotate_left
  · (intro w hSw; (try dsimp only at hSw); go_simp <;> with_reducible rfl)
  try simp only [Act.put, List.setIfInBounds_toArray, List.set_cons_zero, List.set_cons_succ]
  refine wpAnyH_ready (rs := [4, 9]) (by kernel_rfl) (by simp) ?_
  refine AllReadyH.cons (o := { dst := some 12, op := Op.buildSlice 25 1 #[(0, Operand.const (Value.int IntKind.u8 61))], type := 25, pos := "markup.go:146", after := #[], guard := none }) rfl (fun K hK => ?_) ?_
  ·
    go_simp
    refine hK.out _ _ ?_ (fun hHeld1 => ?_)
    · (try dsimp only); (first | exact AttrV.BoxS.drew HBx.out | exact AttrV.BoxS.alloc (by assumption) _ | exact AttrV.BoxS.call (by assumption) (by assumption) | exact AttrV.BoxS.mark (by assumption) _ _ (by omega))
    clear hK K
    clear hHeld
    try simp only [Act.put, List.setIfInBounds_toArray, List.set_cons_zero, List.set_cons_succ]
    refine wpAnyH_ready (rs := [5, 9]) (by kernel_rfl) (by simp) ?_
    refine AllReadyH.cons (o := { dst := some 13, op := Op.convert 25 25 (Operand.tmp 12), type := 25, pos := "markup.go:146", after := #[{ on := 4, ground := Ground.data }], guard := none }) rfl (fun K hK => ?_) ?_
    ·
      go_simp
      refine hK.out _ _ ?_ (fun hHeld2 => ?_)
      · (try dsimp only); (first | exact AttrV.BoxS.drew HBx.out | exact AttrV.BoxS.alloc (by assumption) _ | exact AttrV.BoxS.call (by assumption) (by assumption) | exact AttrV.BoxS.mark (by assumption) _ _ (by omega))
      clear hK K
      clear hHeld1
      try simp only [Act.put, List.setIfInBounds_toArray, List.set_cons_zero, List.set_cons_succ]
      refine wpAnyH_ready (rs := [9]) (by kernel_rfl) (by simp) ?_
      refine AllReadyH.cons (o := { dst := some 17, op := Op.call { callee := Callee.value (Operand.func 51), args := #[Operand.tmp 16], argTypes := #[47] }, type := 25, pos := "markup.go:146", after := #[{ on := 8, ground := Ground.data }], guard := none }) rfl (fun K hK => ?_) ?_
      ·
        go_simp
        go_at_call 51
        refine (C0.out _ (AttrV.BoxS.b (by assumption)).kp).mono ?_
        rintro e w1 ⟨⟨A5, c5, rfl, hS5, hG5⟩, hB5⟩
        dsimp only
        have hs1 : W0.heap.size ≤ w1.heap.size := Nat.le_trans (by first | exact Nat.le_refl _ | simp | simp [mark_size]) hB5.size
        try (have hL1 : w1.heap[W0.heap.size]? = some (.cells #[.int .u8 61] 5 (0, 0)) := (hB5.block _ (by simp)).trans (heap_new _ _))
        first | (have hT1 : Slc w1 (some ⟨W0.heap.size, 0, none⟩) [61] 1 := Slc.below (Slc.mark (Slc.drew (slc61 W0 (0, 0))) W0.heap.size 1) hB5) | (have hT1 : Slc w1 (some ⟨W0.heap.size, 0, none⟩) [61] 1 := Slc.below (Slc.drew (slc61 W0 (0, 0))) hB5) | skip
        refine hK.out _ _ ?_ (fun hHeld3 => ?_)
        · (try dsimp only); (first | exact AttrV.BoxS.drew HBx.out | exact AttrV.BoxS.alloc (by assumption) _ | exact AttrV.BoxS.call (by assumption) (by assumption) | exact AttrV.BoxS.mark (by assumption) _ _ (by omega))
        clear hK K
        clear hHeld2
        try simp only [Act.put, List.setIfInBounds_toArray, List.set_cons_zero, List.set_cons_succ]
        refine wpAnyH_ready (rs := [10]) (by kernel_rfl) (by simp) ?_
        refine AllReadyH.cons (o := { dst := some 18, op := Op.buildSlice 74 5 #[(0, Operand.tmp 9), (1, Operand.tmp 11), (2, Operand.tmp 13), (3, Operand.tmp 15), (4, Operand.tmp 17)], type := 74, pos := "markup.go:146", after := #[{ on := 1, ground := Ground.data }, { on := 3, ground := Ground.data }, { on := 5, ground := Ground.data }, { on := 7, ground := Ground.data }, { on := 9, ground := Ground.data }], guard := none }) rfl (fun K hK => ?_) ?_
        ·
          go_simp
          refine hK.out _ _ ?_ (fun hHeld4 => ?_)
          · (try dsimp only); (first | exact AttrV.BoxS.drew HBx.out | exact AttrV.BoxS.alloc (by assumption) _ | exact AttrV.BoxS.call (by assumption) (by assumption) | exact AttrV.BoxS.mark (by assumption) _ _ (by omega))
          clear hK K
          clear hHeld3
          try simp only [Act.put, List.setIfInBounds_toArray, List.set_cons_zero, List.set_cons_succ]
          refine wpAnyH_ready (rs := [11]) (by kernel_rfl) (by simp) ?_
          refine AllReadyH.cons (o := { dst := some 19, op := Op.call { callee := Callee.value (Operand.func 49), args := #[Operand.tmp 18], argTypes := #[74] }, type := 25, pos := "markup.go:146", after := #[{ on := 10, ground := Ground.data }, { on := 9, ground := Ground.chain }], guard := none }) rfl (fun K hK => ?_) ?_
          ·
            go_simp
            go_at_call 49
            refine (join_5 (T1 := x.d.name) (T2 := x.d.ahead) (T3 := [61]) (T4 := x.d.behind) (T5 := inQ x.d) (heap_new _ _) (HS.out.s2.kp (AttrV.BoxS.b (by assumption)).kp) (HS.out.s3.kp (AttrV.BoxS.b (by assumption)).kp) (by first | with_reducible exact hT1.alloc _ | with_reducible exact (hT1.mark _ _).alloc _ | exact Slc.alloc (Slc.below (Slc.mark (Slc.drew (slc61 W0 (0, 0))) W0.heap.size 1) hB5) _ | with_reducible exact ((slc61 _ _).mark _ _).alloc _) (HS.out.s4.kp (AttrV.BoxS.b (by assumption)).kp) (by first | with_reducible exact hS5.alloc _ | with_reducible exact (hS5.mark _ _).alloc _ | with_reducible exact ((hS5.alloc _).mark _ _).alloc _) HF.out HLen2.out).mono ?_
            rintro e w2 ⟨⟨A6, c6, rfl, hS6, hG6, hF6⟩, hB6⟩
            have hF7 : Hi lo w.heap.size A6 (attrT x.d) := hi_of (AttrV.BoxS.b (by assumption)).kp hF6
            dsimp only
            refine hK.out _ _ ?_ (fun hHeld5 => ?_)
            · (try dsimp only); (first | exact AttrV.BoxS.drew HBx.out | exact AttrV.BoxS.alloc (by assumption) _ | exact AttrV.BoxS.call (by assumption) (by assumption) | exact AttrV.BoxS.mark (by assumption) _ _ (by omega))
            clear hK K
            clear hHeld4
            try simp only [Act.put, List.setIfInBounds_toArray, List.set_cons_zero, List.set_cons_succ]
            refine wpAnyH_take (i := 12) (oi := { dst := some 2, op := Op.assign (Operand.tmp 19), type := 25, pos := "markup.go:146", after := #[{ on := 11, ground := Ground.data }, { on := 11, ground := Ground.chain }, { on := 0, ground := Ground.phase }, { on := 1, ground := Ground.phase }, { on := 2, ground := Ground.phase }, { on := 3, ground := Ground.phase }, { on := 4, ground := Ground.phase }, { on := 5, ground := Ground.phase }, { on := 6, ground := Ground.phase }, { on := 7, ground := Ground.phase }, { on := 8, ground := Ground.phase }, { on := 9, ground := Ground.phase }, { on := 10, ground := Ground.phase }, { on := 11, ground := Ground.phase }], guard := none }) (v := ?_) rfl (by kernel_rfl) (by kernel_rfl) (by kernel_rfl) (fun _ _ _ h => h) (Or.inl ⟨by rfl, ?_⟩) (by assumption) ?_
            rotate_left
            · (intro w hSw; (try dsimp only at hSw); go_simp <;> with_reducible rfl)
            try simp only [Act.put, List.setIfInBounds_toArray, List.set_cons_zero, List.set_cons_succ]
            refine wpAnyH_done (by kernel_rfl) ?_ _
            have HFin := Hd.mk (And.intro hS6 (And.intro (And.intro (hG6 lo) hF7) (show Kp w w2 from (AttrV.BoxS.b (by assumption)).kp)))
            clear hB6 hS6 hG6 hF6 hF7
            go_wp2_with fail
            go_ret
            exact ⟨⟨A6, c6, rfl, HFin.out.1, HFin.out.2.1⟩, HFin.out.2.2⟩
          exact AllReadyH.nil
        exact AllReadyH.nil
      exact AllReadyH.nil
    refine AllReadyH.cons (o := { dst := some 17, op := Op.call { callee := Callee.value (Operand.func 51), args := #[Operand.tmp 16], argTypes := #[47] }, type := 25, pos := "markup.go:146", after := #[{ on := 8, ground := Ground.data }], guard := none }) rfl (fun K hK => ?_) ?_
    ·
      go_simp
      go_at_call 51
      refine (C0.out _ (AttrV.BoxS.b (by assumption)).kp).mono ?_
      rintro e w1 ⟨⟨A5, c5, rfl, hS5, hG5⟩, hB5⟩
      dsimp only
      have hs1 : W0.heap.size ≤ w1.heap.size := Nat.le_trans (by first | exact Nat.le_refl _ | simp | simp [mark_size]) hB5.size
      try (have hL1 : w1.heap[W0.heap.size]? = some (.cells #[.int .u8 61] 5 (0, 0)) := (hB5.block _ (by simp)).trans (heap_new _ _))
      first | (have hT1 : Slc w1 (some ⟨W0.heap.size, 0, none⟩) [61] 1 := Slc.below (Slc.mark (Slc.drew (slc61 W0 (0, 0))) W0.heap.size 1) hB5) | (have hT1 : Slc w1 (some ⟨W0.heap.size, 0, none⟩) [61] 1 := Slc.below (Slc.drew (slc61 W0 (0, 0))) hB5) | skip
      refine hK.out _ _ ?_ (fun hHeld2 => ?_)
      · (try dsimp only); (first | exact AttrV.BoxS.drew HBx.out | exact AttrV.BoxS.alloc (by assumption) _ | exact AttrV.BoxS.call (by assumption) (by assumption) | exact AttrV.BoxS.mark (by assumption) _ _ (by omega))
      clear hK K
      clear hHeld1
      try simp only [Act.put, List.setIfInBounds_toArray, List.set_cons_zero, List.set_cons_succ]
      refine wpAnyH_ready (rs := [5]) (by kernel_rfl) (by simp) ?_
      refine AllReadyH.cons (o := { dst := some 13, op := Op.convert 25 25 (Operand.tmp 12), type := 25, pos := "markup.go:146", after := #[{ on := 4, ground := Ground.data }], guard := none }) rfl (fun K hK => ?_) ?_
      ·
        go_simp
        refine hK.out _ _ ?_ (fun hHeld3 => ?_)
        · (try dsimp only); (first | exact AttrV.BoxS.drew HBx.out | exact AttrV.BoxS.alloc (by assumption) _ | exact AttrV.BoxS.call (by assumption) (by assumption) | exact AttrV.BoxS.mark (by assumption) _ _ (by omega))
        clear hK K
        clear hHeld2
        try simp only [Act.put, List.setIfInBounds_toArray, List.set_cons_zero, List.set_cons_succ]
        refine wpAnyH_ready (rs := [10]) (by kernel_rfl) (by simp) ?_
        refine AllReadyH.cons (o := { dst := some 18, op := Op.buildSlice 74 5 #[(0, Operand.tmp 9), (1, Operand.tmp 11), (2, Operand.tmp 13), (3, Operand.tmp 15), (4, Operand.tmp 17)], type := 74, pos := "markup.go:146", after := #[{ on := 1, ground := Ground.data }, { on := 3, ground := Ground.data }, { on := 5, ground := Ground.data }, { on := 7, ground := Ground.data }, { on := 9, ground := Ground.data }], guard := none }) rfl (fun K hK => ?_) ?_
        ·
          go_simp
          refine hK.out _ _ ?_ (fun hHeld4 => ?_)
          · (try dsimp only); (first | exact AttrV.BoxS.drew HBx.out | exact AttrV.BoxS.alloc (by assumption) _ | exact AttrV.BoxS.call (by assumption) (by assumption) | exact AttrV.BoxS.mark (by assumption) _ _ (by omega))
          clear hK K
          clear hHeld3
          try simp only [Act.put, List.setIfInBounds_toArray, List.set_cons_zero, List.set_cons_succ]
          refine wpAnyH_ready (rs := [11]) (by kernel_rfl) (by simp) ?_
          refine AllReadyH.cons (o := { dst := some 19, op := Op.call { callee := Callee.value (Operand.func 49), args := #[Operand.tmp 18], argTypes := #[74] }, type := 25, pos := "markup.go:146", after := #[{ on := 10, ground := Ground.data }, { on := 9, ground := Ground.chain }], guard := none }) rfl (fun K hK => ?_) ?_
          ·
            go_simp
            go_at_call 49
            refine (join_5 (T1 := x.d.name) (T2 := x.d.ahead) (T3 := [61]) (T4 := x.d.behind) (T5 := inQ x.d) (heap_new _ _) (HS.out.s2.kp (AttrV.BoxS.b (by assumption)).kp) (HS.out.s3.kp (AttrV.BoxS.b (by assumption)).kp) (by first | with_reducible exact hT1.alloc _ | with_reducible exact (hT1.mark _ _).alloc _ | exact Slc.alloc (Slc.below (Slc.mark (Slc.drew (slc61 W0 (0, 0))) W0.heap.size 1) hB5) _ | with_reducible exact ((slc61 _ _).mark _ _).alloc _) (HS.out.s4.kp (AttrV.BoxS.b (by assumption)).kp) (by first | with_reducible exact hS5.alloc _ | with_reducible exact (hS5.mark _ _).alloc _ | with_reducible exact ((hS5.alloc _).mark _ _).alloc _) HF.out HLen2.out).mono ?_
            rintro e w2 ⟨⟨A6, c6, rfl, hS6, hG6, hF6⟩, hB6⟩
            have hF7 : Hi lo w.heap.size A6 (attrT x.d) := hi_of (AttrV.BoxS.b (by assumption)).kp hF6
            dsimp only
            refine hK.out _ _ ?_ (fun hHeld5 => ?_)
            · (try dsimp only); (first | exact AttrV.BoxS.drew HBx.out | exact AttrV.BoxS.alloc (by assumption) _ | exact AttrV.BoxS.call (by assumption) (by assumption) | exact AttrV.BoxS.mark (by assumption) _ _ (by omega))
            clear hK K
            clear hHeld4
            try simp only [Act.put, List.setIfInBounds_toArray, List.set_cons_zero, List.set_cons_succ]
            refine wpAnyH_take (i := 12) (oi := { dst := some 2, op := Op.assign (Operand.tmp 19), type := 25, pos := "markup.go:146", after := #[{ on := 11, ground := Ground.data }, { on := 11, ground := Ground.chain }, { on := 0, ground := Ground.phase }, { on := 1, ground := Ground.phase }, { on := 2, ground := Ground.phase }, { on := 3, ground := Ground.phase }, { on := 4, ground := Ground.phase }, { on := 5, ground := Ground.phase }, { on := 6, ground := Ground.phase }, { on := 7, ground := Ground.phase }, { on := 8, ground := Ground.phase }, { on := 9, ground := Ground.phase }, { on := 10, ground := Ground.phase }, { on := 11, ground := Ground.phase }], guard := none }) (v := ?_) rfl (by kernel_rfl) (by kernel_rfl) (by kernel_rfl) (fun _ _ _ h => h) (Or.inl ⟨by rfl, ?_⟩) (by assumption) ?_
            rotate_left
            · (intro w hSw; (try dsimp only at hSw); go_simp <;> with_reducible rfl)
            try simp only [Act.put, List.setIfInBounds_toArray, List.set_cons_zero, List.set_cons_succ]
            refine wpAnyH_done (by kernel_rfl) ?_ _
            have HFin := Hd.mk (And.intro hS6 (And.intro (And.intro (hG6 lo) hF7) (show Kp w w2 from (AttrV.BoxS.b (by assumption)).kp)))
            clear hB6 hS6 hG6 hF6 hF7
            go_wp2_with fail
            go_ret
            exact ⟨⟨A6, c6, rfl, HFin.out.1, HFin.out.2.1⟩, HFin.out.2.2⟩
          exact AllReadyH.nil
        exact AllReadyH.nil
      exact AllReadyH.nil
    exact AllReadyH.nil
  refine AllReadyH.cons (o := { dst := some 17, op := Op.call { callee := Callee.value (Operand.func 51), args := #[Operand.tmp 16], argTypes := #[47] }, type := 25, pos := "markup.go:146", after := #[{ on := 8, ground := Ground.data }], guard := none }) rfl (fun K hK => ?_) ?_
  ·
    go_simp
    go_at_call 51
    refine (C0.out _ (AttrV.BoxS.b (by assumption)).kp).mono ?_
    rintro e w1 ⟨⟨A5, c5, rfl, hS5, hG5⟩, hB5⟩
    dsimp only
    have hs1 : W0.heap.size ≤ w1.heap.size := Nat.le_trans (by first | exact Nat.le_refl _ | simp | simp [mark_size]) hB5.size
    try (have hL1 : w1.heap[W0.heap.size]? = some (.cells #[.int .u8 61] 5 (0, 0)) := (hB5.block _ (by simp)).trans (heap_new _ _))
    first | (have hT1 : Slc w1 (some ⟨W0.heap.size, 0, none⟩) [61] 1 := Slc.below (Slc.mark (Slc.drew (slc61 W0 (0, 0))) W0.heap.size 1) hB5) | (have hT1 : Slc w1 (some ⟨W0.heap.size, 0, none⟩) [61] 1 := Slc.below (Slc.drew (slc61 W0 (0, 0))) hB5) | skip
    refine hK.out _ _ ?_ (fun hHeld1 => ?_)
    · (try dsimp only); (first | exact AttrV.BoxS.drew HBx.out | exact AttrV.BoxS.alloc (by assumption) _ | exact AttrV.BoxS.call (by assumption) (by assumption) | exact AttrV.BoxS.mark (by assumption) _ _ (by omega))
    clear hK K
    clear hHeld
    try simp only [Act.put, List.setIfInBounds_toArray, List.set_cons_zero, List.set_cons_succ]
    refine wpAnyH_ready (rs := [4]) (by kernel_rfl) (by simp) ?_
    refine AllReadyH.cons (o := { dst := some 12, op := Op.buildSlice 25 1 #[(0, Operand.const (Value.int IntKind.u8 61))], type := 25, pos := "markup.go:146", after := #[], guard := none }) rfl (fun K hK => ?_) ?_
    ·
      go_simp
      refine hK.out _ _ ?_ (fun hHeld2 => ?_)
      · (try dsimp only); (first | exact AttrV.BoxS.drew HBx.out | exact AttrV.BoxS.alloc (by assumption) _ | exact AttrV.BoxS.call (by assumption) (by assumption) | exact AttrV.BoxS.mark (by assumption) _ _ (by omega))
      clear hK K
      clear hHeld1
      try simp only [Act.put, List.setIfInBounds_toArray, List.set_cons_zero, List.set_cons_succ]
      refine wpAnyH_ready (rs := [5]) (by kernel_rfl) (by simp) ?_
      refine AllReadyH.cons (o := { dst := some 13, op := Op.convert 25 25 (Operand.tmp 12), type := 25, pos := "markup.go:146", after := #[{ on := 4, ground := Ground.data }], guard := none }) rfl (fun K hK => ?_) ?_
      ·
        go_simp
        refine hK.out _ _ ?_ (fun hHeld3 => ?_)
        · (try dsimp only); (first | exact AttrV.BoxS.drew HBx.out | exact AttrV.BoxS.alloc (by assumption) _ | exact AttrV.BoxS.call (by assumption) (by assumption) | exact AttrV.BoxS.mark (by assumption) _ _ (by omega))
        clear hK K
        clear hHeld2
        try simp only [Act.put, List.setIfInBounds_toArray, List.set_cons_zero, List.set_cons_succ]
        refine wpAnyH_ready (rs := [10]) (by kernel_rfl) (by simp) ?_
        refine AllReadyH.cons (o := { dst := some 18, op := Op.buildSlice 74 5 #[(0, Operand.tmp 9), (1, Operand.tmp 11), (2, Operand.tmp 13), (3, Operand.tmp 15), (4, Operand.tmp 17)], type := 74, pos := "markup.go:146", after := #[{ on := 1, ground := Ground.data }, { on := 3, ground := Ground.data }, { on := 5, ground := Ground.data }, { on := 7, ground := Ground.data }, { on := 9, ground := Ground.data }], guard := none }) rfl (fun K hK => ?_) ?_
        ·
          go_simp
          refine hK.out _ _ ?_ (fun hHeld4 => ?_)
          · (try dsimp only); (first | exact AttrV.BoxS.drew HBx.out | exact AttrV.BoxS.alloc (by assumption) _ | exact AttrV.BoxS.call (by assumption) (by assumption) | exact AttrV.BoxS.mark (by assumption) _ _ (by omega))
          clear hK K
          clear hHeld3
          try simp only [Act.put, List.setIfInBounds_toArray, List.set_cons_zero, List.set_cons_succ]
          refine wpAnyH_ready (rs := [11]) (by kernel_rfl) (by simp) ?_
          refine AllReadyH.cons (o := { dst := some 19, op := Op.call { callee := Callee.value (Operand.func 49), args := #[Operand.tmp 18], argTypes := #[74] }, type := 25, pos := "markup.go:146", after := #[{ on := 10, ground := Ground.data }, { on := 9, ground := Ground.chain }], guard := none }) rfl (fun K hK => ?_) ?_
          ·
            go_simp
            go_at_call 49
            refine (join_5 (T1 := x.d.name) (T2 := x.d.ahead) (T3 := [61]) (T4 := x.d.behind) (T5 := inQ x.d) (heap_new _ _) (HS.out.s2.kp (AttrV.BoxS.b (by assumption)).kp) (HS.out.s3.kp (AttrV.BoxS.b (by assumption)).kp) (by first | with_reducible exact hT1.alloc _ | with_reducible exact (hT1.mark _ _).alloc _ | exact Slc.alloc (Slc.below (Slc.mark (Slc.drew (slc61 W0 (0, 0))) W0.heap.size 1) hB5) _ | with_reducible exact ((slc61 _ _).mark _ _).alloc _) (HS.out.s4.kp (AttrV.BoxS.b (by assumption)).kp) (by first | with_reducible exact hS5.alloc _ | with_reducible exact (hS5.mark _ _).alloc _ | with_reducible exact ((hS5.alloc _).mark _ _).alloc _) HF.out HLen2.out).mono ?_
            rintro e w2 ⟨⟨A6, c6, rfl, hS6, hG6, hF6⟩, hB6⟩
            have hF7 : Hi lo w.heap.size A6 (attrT x.d) := hi_of (AttrV.BoxS.b (by assumption)).kp hF6
            dsimp only
            refine hK.out _ _ ?_ (fun hHeld5 => ?_)
            · (try dsimp only); (first | exact AttrV.BoxS.drew HBx.out | exact AttrV.BoxS.alloc (by assumption) _ | exact AttrV.BoxS.call (by assumption) (by assumption) | exact AttrV.BoxS.mark (by assumption) _ _ (by omega))
            clear hK K
            clear hHeld4
            try simp only [Act.put, List.setIfInBounds_toArray, List.set_cons_zero, List.set_cons_succ]
            refine wpAnyH_take (i := 12) (oi := { dst := some 2, op := Op.assign (Operand.tmp 19), type := 25, pos := "markup.go:146", after := #[{ on := 11, ground := Ground.data }, { on := 11, ground := Ground.chain }, { on := 0, ground := Ground.phase }, { on := 1, ground := Ground.phase }, { on := 2, ground := Ground.phase }, { on := 3, ground := Ground.phase }, { on := 4, ground := Ground.phase }, { on := 5, ground := Ground.phase }, { on := 6, ground := Ground.phase }, { on := 7, ground := Ground.phase }, { on := 8, ground := Ground.phase }, { on := 9, ground := Ground.phase }, { on := 10, ground := Ground.phase }, { on := 11, ground := Ground.phase }], guard := none }) (v := ?_) rfl (by kernel_rfl) (by kernel_rfl) (by kernel_rfl) (fun _ _ _ h => h) (Or.inl ⟨by rfl, ?_⟩) (by assumption) ?_
            rotate_left
            · (intro w hSw; (try dsimp only at hSw); go_simp <;> with_reducible rfl)
            try simp only [Act.put, List.setIfInBounds_toArray, List.set_cons_zero, List.set_cons_succ]
            refine wpAnyH_done (by kernel_rfl) ?_ _
            have HFin := Hd.mk (And.intro hS6 (And.intro (And.intro (hG6 lo) hF7) (show Kp w w2 from (AttrV.BoxS.b (by assumption)).kp)))
            clear hB6 hS6 hG6 hF6 hF7
            go_wp2_with fail
            go_ret
            exact ⟨⟨A6, c6, rfl, HFin.out.1, HFin.out.2.1⟩, HFin.out.2.2⟩
          exact AllReadyH.nil
        exact AllReadyH.nil
      exact AllReadyH.nil
    exact AllReadyH.nil
  exact AllReadyH.nil
end Go.Proofs.YtfcedenofbefcaaGreatDoor
