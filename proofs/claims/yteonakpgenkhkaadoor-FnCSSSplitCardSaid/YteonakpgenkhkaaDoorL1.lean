import Derived.Test.YteonakpgenkhkaaDoorL0
namespace Go.Proofs.YteonakpgenkhkaaDoor
open Go.RowKit
/-- The bytes from lo to hi, as a slice of the input. -/
def slv (b : Nat) (lo hi : Int) : Value := if hi.toNat = lo.toNat then .slice (some ⟨b, 0, none⟩) 0 0 else .slice (some ⟨b, lo.toNat, none⟩) (hi.toNat - lo.toNat) (hi.toNat - lo.toNat)
def sel (B : List Int) (p s : Int) : Option Unit := if 0 ≤ s ∧ s ≤ p ∧ p ≤ B.length then some () else none
theorem sel_of {B : List Int} {p s : Int} {u : Unit} (h : Hd (sel B p s = some u)) : 0 ≤ s ∧ s ≤ p ∧ p ≤ B.length := by
  have h := h.out
  unfold sel at h
  split at h
  · assumption
  · cases h
theorem Lexeme_calls {w : World} {l z b : Nat} {B : List Int} {ET : TypeId} {EA : Addr} {p s : Int} (h : Lx w l z b B ET EA p s) (u : Unit) (hu : Hd (sel B p s = some u)) :
    Calls Tryd.prog 87 #[.pointer (some ⟨z, 0, none⟩)] w fun e w' => e = .returned (slv b s p) ∧ Lx w' l z b B ET EA p s ∧ Fr z w w' := by
  obtain ⟨hs, hsp, hp⟩ := sel_of hu
  obtain ⟨cp, hcp, hz⟩ := h.inp
  have h0 := (cell_of_block hz 0).trans rfl
  have h1 := (cell_of_block hz 1).trans rfl
  have h2 := (cell_of_block hz 2).trans rfl
  have hl := h.len
  clear hz
  unfold slv
  by_cases he : p.toNat = s.toNat
  all_goals
    simp only [he, if_true, if_false]
    go_enter Tryd.func87, Tryd.ntmps87
    go_wp2
    go_quiet (fail)
    go_wp2
    go_ret
    exact ⟨rfl, h.drewN _, (Fr.refl z w).drewN _⟩
theorem Shift_calls {w : World} {l z b : Nat} {B : List Int} {ET : TypeId} {EA : Addr} {p s : Int} (h : Lx w l z b B ET EA p s) (u : Unit) (hu : Hd (sel B p s = some u)) :
    Calls Tryd.prog 57 #[.pointer (some ⟨z, 0, none⟩)] w fun e w' => e = .returned (slv b s p) ∧ Lx w' l z b B ET EA p p ∧ Fr z w w' := by
  obtain ⟨hs, hsp, hp⟩ := sel_of hu
  obtain ⟨cp, hcp, hz⟩ := h.inp
  have h0 := (cell_of_block hz 0).trans rfl
  have h1 := (cell_of_block hz 1).trans rfl
  have h2 := (cell_of_block hz 2).trans rfl
  have f2 := frozen_of_block hz 2
  have hl := h.len
  clear hz
  unfold slv
  by_cases he : p.toNat = s.toNat
  all_goals
    simp only [he, if_true, if_false]
    go_enter Tryd.func57, Tryd.ntmps57
    go_wp2
    go_quiet (fail)
    go_wp2
    go_ret
    exact ⟨rfl, by first | exact (h.drewN _).setStart _ | exact (h.setStart _).drewN _, by first | exact ((Fr.refl z w).drewN _).set _ _ | exact ((Fr.refl z w).set _ _).drewN _⟩
def rem (B : List Int) (p k : Int) : Bool := decide (wrap64 (wrap64 ((B.length : Int) - 1) - p) < k)
/-- How many bytes the character at p is taken to have. -/
def prn (B : List Int) (p : Int) : Option Int :=
  (pk B p 0).bind fun c =>
  if c < 192 then some 1 else if rem B p 2 = true then some 1 else (pk B p 1).bind fun _ =>
  if c < 224 then some 2 else if rem B p 3 = true then some 2 else (pk B p 2).bind fun _ =>
  if c < 240 then some 3 else if rem B p 4 = true then some 3 else (pk B p 3).bind fun _ => some 4
set_option maxHeartbeats 4000000 in
set_option maxRecDepth 100000 in
theorem PeekRune_calls {w : World} {l z b : Nat} {B : List Int} {ET : TypeId} {EA : Addr} {p s : Int} (h : Lx w l z b B ET EA p s) (n : Int) (hn : Hd (prn B p = some n)) :
    Calls Tryd.prog 91 #[.pointer (some ⟨z, 0, none⟩), .int .i64 0] w fun e w' => (∃ r, e = .returned (.tuple #[.int .i32 r, .int .i64 n])) ∧ Lx w' l z b B ET EA p s ∧ Fr z w w' := by
  obtain ⟨cp, hcp, hz⟩ := h.inp
  have h0 := (cell_of_block hz 0).trans rfl
  have h1 := (cell_of_block hz 1).trans rfl
  clear hz
  obtain ⟨c, hc, hn⟩ := Hd.bind hn
  by_cases c1 : c < 192
  · obtain rfl := (hn.pos c1).p1
    replace c1 := decide_eq_true c1
    go_enter Tryd.func91, Tryd.ntmps91
    go_wp2_with fail
    refine (Peek_calls h 0 c hc).mono ?_
    rintro e w1 ⟨rfl, rfl⟩
    go_wp2_with fail
    go_quiet (fail)
    go_wp2_with fail
    go_ret2
    exact ⟨⟨_, rfl⟩, h.drewN _, (Fr.refl z w).drewN _⟩
  · replace hn := hn.neg c1
    replace c1 := decide_eq_false c1
    by_cases d1 : rem B p 2 = true
    · obtain rfl := (hn.pos d1).p1
      unfold rem at d1
      go_enter Tryd.func91, Tryd.ntmps91
      go_wp2_with fail
      refine (Peek_calls h 0 c hc).mono ?_
      rintro e w1 ⟨rfl, rfl⟩
      go_wp2_with fail
      go_quiet (fail)
      go_wp2_with fail
      go_ret2
      exact ⟨⟨_, rfl⟩, h.drewN _, (Fr.refl z w).drewN _⟩
    · replace hn := hn.neg d1
      replace d1 := Bool.eq_false_iff.mpr d1
      unfold rem at d1
      obtain ⟨x1, hx1, hn⟩ := Hd.bind hn
      by_cases c2 : c < 224
      · obtain rfl := (hn.pos c2).p1
        replace c2 := decide_eq_true c2
        go_enter Tryd.func91, Tryd.ntmps91
        go_wp2_with fail
        refine (Peek_calls h 0 c hc).mono ?_
        rintro e w1 ⟨rfl, rfl⟩
        go_wp2_with fail
        go_quiet (fail)
        go_wp2_with fail
        go_quiet (fail)
        go_wp2_with fail
        refine (Peek_calls (h.drewN _) 1 x1 hx1).mono ?_
        rintro e w1 ⟨rfl, rfl⟩
        go_wp2_with fail
        go_ret2
        exact ⟨⟨_, rfl⟩, h.drewN _, (Fr.refl z w).drewN _⟩
      · replace hn := hn.neg c2
        replace c2 := decide_eq_false c2
        by_cases d2 : rem B p 3 = true
        · obtain rfl := (hn.pos d2).p1
          unfold rem at d2
          go_enter Tryd.func91, Tryd.ntmps91
          go_wp2_with fail
          refine (Peek_calls h 0 c hc).mono ?_
          rintro e w1 ⟨rfl, rfl⟩
          go_wp2_with fail
          go_quiet (fail)
          go_wp2_with fail
          go_quiet (fail)
          go_wp2_with fail
          refine (Peek_calls (h.drewN _) 1 x1 hx1).mono ?_
          rintro e w1 ⟨rfl, rfl⟩
          go_wp2_with fail
          go_ret2
          exact ⟨⟨_, rfl⟩, h.drewN _, (Fr.refl z w).drewN _⟩
        · replace hn := hn.neg d2
          replace d2 := Bool.eq_false_iff.mpr d2
          unfold rem at d2
          obtain ⟨x2, hx2, hn⟩ := Hd.bind hn
          by_cases c3 : c < 240
          · obtain rfl := (hn.pos c3).p1
            replace c3 := decide_eq_true c3
            go_enter Tryd.func91, Tryd.ntmps91
            go_wp2_with fail
            refine (Peek_calls h 0 c hc).mono ?_
            rintro e w1 ⟨rfl, rfl⟩
            go_wp2_with fail
            go_quiet (fail)
            go_wp2_with fail
            go_quiet (fail)
            go_wp2_with fail
            go_quiet (fail)
            go_wp2_with fail
            refine (Peek_calls (h.drewN _) 1 x1 hx1).mono ?_
            rintro e w1 ⟨rfl, rfl⟩
            go_wp2_with fail
            refine (Peek_calls (h.drewN _) 2 x2 hx2).mono ?_
            rintro e w1 ⟨rfl, rfl⟩
            go_wp2_with fail
            go_ret2
            exact ⟨⟨_, rfl⟩, h.drewN _, (Fr.refl z w).drewN _⟩
          · replace hn := hn.neg c3
            replace c3 := decide_eq_false c3
            by_cases d3 : rem B p 4 = true
            · obtain rfl := (hn.pos d3).p1
              unfold rem at d3
              go_enter Tryd.func91, Tryd.ntmps91
              go_wp2_with fail
              refine (Peek_calls h 0 c hc).mono ?_
              rintro e w1 ⟨rfl, rfl⟩
              go_wp2_with fail
              go_quiet (fail)
              go_wp2_with fail
              go_quiet (fail)
              go_wp2_with fail
              go_quiet (fail)
              go_wp2_with fail
              refine (Peek_calls (h.drewN _) 1 x1 hx1).mono ?_
              rintro e w1 ⟨rfl, rfl⟩
              go_wp2_with fail
              refine (Peek_calls (h.drewN _) 2 x2 hx2).mono ?_
              rintro e w1 ⟨rfl, rfl⟩
              go_wp2_with fail
              go_ret2
              exact ⟨⟨_, rfl⟩, h.drewN _, (Fr.refl z w).drewN _⟩
            · replace hn := hn.neg d3
              replace d3 := Bool.eq_false_iff.mpr d3
              unfold rem at d3
              obtain ⟨x3, hx3, hn⟩ := Hd.bind hn
              obtain rfl := hn.p1
              go_enter Tryd.func91, Tryd.ntmps91
              go_wp2_with fail
              refine (Peek_calls h 0 c hc).mono ?_
              rintro e w1 ⟨rfl, rfl⟩
              go_wp2_with fail
              go_quiet (fail)
              go_wp2_with fail
              go_quiet (fail)
              go_wp2_with fail
              go_quiet (fail)
              go_wp2_with fail
              refine (Peek_calls (h.drewN _) 1 x1 hx1).mono ?_
              rintro e w1 ⟨rfl, rfl⟩
              go_wp2_with fail
              refine (Peek_calls (h.drewN _) 2 x2 hx2).mono ?_
              rintro e w1 ⟨rfl, rfl⟩
              go_wp2_with fail
              refine (Peek_calls (h.drewN _) 3 x3 hx3).mono ?_
              rintro e w1 ⟨rfl, rfl⟩
              go_wp2_with fail
              go_ret2
              exact ⟨⟨_, rfl⟩, h.drewN _, (Fr.refl z w).drewN _⟩
end Go.Proofs.YteonakpgenkhkaaDoor
