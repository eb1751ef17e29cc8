import Derived.Test.YtfcedenofbefcaaGreatDoorW0
import Derived.Deep.RegionHeld3
import Derived.Deep.DrawnRows
namespace Go.Proofs.YtfcedenofbefcaaGreatDoor
open Go.RowKit
set_option linter.unusedVariables false
set_option linter.unusedSimpArgs false
theorem conv25g (w : World) (C : Array Value) (s n c : Nat) (hs : s = w.heap.size) : (convert 25 25 (.slice (some ⟨s, 0, none⟩) n c)).run Tryz.prog (w.alloc (.cells C 5)) = .ok (.slice (some ⟨s, 0, none⟩) n c) (w.alloc (.cells C 5 (C.size, C.size + 1))) := by
  subst hs
  exact conv25s w C n c
/-- A call that answers a slice of bytes S, and writes no block that was there. -/
def Gives (lo : Nat) (S : List Int) (w : World) (e : Ending) (w' : World) : Prop := (∃ A c, e = .returned (.slice A S.length c) ∧ Slc w' A S c ∧ Seg w' lo A S c ∧ Hi lo w.heap.size A S) ∧ Below w.heap.size w w'
def AttrV.low (x : AttrV) (lo : Nat) : Prop := Lo lo x.A2 x.d.name ∧ Lo lo x.A5 x.d.value
theorem kp_trans {w W w' : World} (h : Kp w W) (k : Below W.heap.size W w') : Below w.heap.size w w' := Below.trans h (Below.mono k (Below.size h))
theorem Slc.alloc {w : World} {A : Option Addr} {T : List Int} {c : Nat} (h : Slc w A T c) (o : Obj) : Slc (w.alloc o) A T c := h.below ((Below.refl _ _).alloc (Nat.le_refl _) _)
theorem slc_lit {w : World} {g : Nat} {f : Nat × Nat} (l : List Int) (n : Nat) (hg : w.heap.size = g) (hl : l.length ≤ 140737488355328 := by decide) (hn : l.length = n := by decide) : Slc (w.alloc (.cells (l.map (Value.int .u8)).toArray 5 f)) (some ⟨g, 0, none⟩) l n :=
  ⟨lit_at hg l hl, by omega, (fun e => by cases e)⟩
/-- The parts of a text lie in a row that was just made, and are joined. -/
theorem join_at {W : World} {g : Nat} {S : List Int} (PL : List Part) (hg : W.heap.size = g) (hd : ∀ x ∈ PL, Slc W x.1 x.2.1 x.2.2) (hS : PL.flatMap (·.2.1) = S) (hPL : PL.length ≤ 1000) (hlen : S.length ≤ 1000000) :
    Calls Tryz.prog 49 #[.slice (some ⟨g, 0, none⟩) PL.length PL.length] (W.alloc (.cells (PL.map Part.val).toArray 25)) (JoinPost S (W.alloc (.cells (PL.map Part.val).toArray 25))) := by
  subst hS hg
  exact join5_calls (heap_new _ _) hPL (fun x hx => (hd x hx).alloc _) hlen
theorem inQ_len' {a : AttrD} (h : a.value.length ≤ 200) : (inQ a).length ≤ 202 := by have := inQ_len a; omega
set_option maxHeartbeats 8000000 in
set_option maxRecDepth 100000 in
theorem inQuotes_calls {w : World} (x : AttrV) (lo : Nat) (h : x.In w) (hlo : x.low lo) (hl : x.d.value.length ≤ 200) :
    Calls Tryz.prog 51 #[.agg #[.slice x.A1 x.d.before.length x.c1, .slice x.A2 x.d.name.length x.c2, .slice x.A3 x.d.ahead.length x.c3, .slice x.A4 x.d.behind.length x.c4, .slice x.A5 x.d.value.length x.c5, .int .i64 x.d.quote]] w (Gives lo (inQ x.d) w) := by
  have hcv := conv25g
  have HS := Hd.mk (And.intro h.s5 (And.intro hlo.2 (inQ_len' hl)))
  clear h hlo
  go_enter Tryz.func51, Tryz.ntmps51
  by_cases h0 : x.d.quote = 0
  · have d0 : (x.d.quote == 0) = true := beq_iff_eq.mpr h0
    have HQ := Hd.mk h0
    clear h0
    go_wp2_with fail
    refine (join_at (S := inQ x.d) [(some ⟨w.heap.size + 1, 0, none⟩, [34], 1), (x.A5, x.d.value, x.c5), (some ⟨w.heap.size + 1 + 1, 0, none⟩, [34], 1)] (by simp) ?hd (by have := HQ.out; unfold inQ; simp [this]) (by simp) (by have := HS.out.2.2; omega)).mono ?_
    case hd =>
      intro p hp
      simp only [List.mem_cons, List.mem_nil_iff, or_false] at hp
      rcases hp with rfl | rfl | rfl
      · repeat (first | (refine slc_lit [34] 1 ?_; simp; done) | apply Slc.alloc)
      · repeat (first | exact HS.out.1 | apply Slc.alloc)
      · repeat (first | (refine slc_lit [34] 1 ?_; simp; done) | apply Slc.alloc)
    rintro e w1 ⟨⟨A, c, rfl, hS, hG, hF⟩, hB⟩
    have HB := Hd.mk (kp_trans (w := w) (by repeat (first | exact kp_refl w | apply kp_alloc)) hB)
    have HG := Hd.mk (And.intro hS (And.intro (hG lo) (hi_of (w := w) (lo := lo) (T := inQ x.d) (by repeat (first | exact kp_refl w | apply kp_alloc)) hF)))
    clear hB hS hG hF
    go_wp2_with fail
    go_ret
    exact ⟨⟨A, c, rfl, HG.out.1, HG.out.2⟩, HB.out⟩
  have d0 : (x.d.quote == 0) = false := beq_eq_false_iff_ne.mpr h0
  have H0 := Hd.mk h0
  clear h0
  by_cases h1 : x.d.quote = 1
  · have d1 : (x.d.quote == 1) = true := beq_iff_eq.mpr h1
    have HQ := Hd.mk h1
    clear h1
    go_wp2_with fail
    refine (join_at (S := inQ x.d) [(some ⟨w.heap.size + 1, 0, none⟩, [39], 1), (x.A5, x.d.value, x.c5), (some ⟨w.heap.size + 1 + 1, 0, none⟩, [39], 1)] (by simp) ?hd (by have := HQ.out; unfold inQ; simp [this]) (by simp) (by have := HS.out.2.2; omega)).mono ?_
    case hd =>
      intro p hp
      simp only [List.mem_cons, List.mem_nil_iff, or_false] at hp
      rcases hp with rfl | rfl | rfl
      · repeat (first | (refine slc_lit [39] 1 ?_; simp; done) | apply Slc.alloc)
      · repeat (first | exact HS.out.1 | apply Slc.alloc)
      · repeat (first | (refine slc_lit [39] 1 ?_; simp; done) | apply Slc.alloc)
    rintro e w1 ⟨⟨A, c, rfl, hS, hG, hF⟩, hB⟩
    have HB := Hd.mk (kp_trans (w := w) (by repeat (first | exact kp_refl w | apply kp_alloc)) hB)
    have HG := Hd.mk (And.intro hS (And.intro (hG lo) (hi_of (w := w) (lo := lo) (T := inQ x.d) (by repeat (first | exact kp_refl w | apply kp_alloc)) hF)))
    clear hB hS hG hF
    go_wp2_with fail
    go_ret
    exact ⟨⟨A, c, rfl, HG.out.1, HG.out.2⟩, HB.out⟩
  have d1 : (x.d.quote == 1) = false := beq_eq_false_iff_ne.mpr h1
  have H1 := Hd.mk h1
  clear h1
  have hq : inQ x.d = x.d.value := by unfold inQ; rw [if_neg H0.out, if_neg H1.out]
  rw [hq]
  clear hq
  have HK : Hd (∀ W, Kp w W → (Slc W x.A5 x.d.value x.c5 ∧ Seg W lo x.A5 x.d.value x.c5 ∧ Hi lo w.heap.size x.A5 x.d.value) ∧ Below w.heap.size w W) := ⟨fun W k => ⟨⟨HS.out.1.below k, Seg.low (HS.out.1.below k).b HS.out.1.k HS.out.2.1, Hi.low HS.out.2.1⟩, k⟩⟩
  go_wp2_with fail
  go_ret
  exact ⟨⟨_, _, rfl, (HK.out _ (kp_alloc (kp_refl w) _)).1⟩, (HK.out _ (kp_alloc (kp_refl w) _)).2⟩

end Go.Proofs.YtfcedenofbefcaaGreatDoor
