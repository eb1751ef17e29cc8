import Derived.Test.YteonakpgenkhkaaDoorL16
namespace Go.Proofs.YteonakpgenkhkaaDoor
open Go.RowKit
set_option linter.unusedVariables false
set_option linter.unusedSimpArgs false
/-! loop.example/pub-g01476/spec.Lower -/
def sLower.f (a0 : Int) : Int :=
  if ((decide (65 ≤ a0)) && (decide (a0 ≤ 90))) = true then ((((a0 + 97) % 256) - 65) % 256) else a0
set_option maxHeartbeats 8000000 in
set_option maxRecDepth 100000 in
theorem sLower.calls {w : World} (a0 : Int) :
    Calls Tryd.prog 92 #[.int .u8 a0] w fun e w' => e = .returned (.int .u8 (sLower.f a0)) ∧ w = w' := by
  go_enter Tryd.func92, Tryd.ntmps92
  by_cases e45 : (decide (65 ≤ a0)) = true
  ·
    by_cases e47 : (decide (a0 ≤ 90)) = true
    ·
      go_wp2_with fail
      go_ret
      exact ⟨by unfold sLower.f; first | rfl | (simp [*]; done) | (simp [*]; unfold wrap64; omega), rfl⟩
    ·
      replace e47 := Bool.eq_false_iff.mpr e47
      go_wp2_with fail
      go_ret
      exact ⟨by unfold sLower.f; first | rfl | (simp [*]; done) | (simp [*]; unfold wrap64; omega), rfl⟩
  ·
    replace e45 := Bool.eq_false_iff.mpr e45
    go_wp2_with fail
    go_ret
    exact ⟨by unfold sLower.f; first | rfl | (simp [*]; done) | (simp [*]; unfold wrap64; omega), rfl⟩

/-- The first k letters are alike, by the test e. -/
def alike (e : Int → Int → Bool) (S U : List Int) (k : Nat) : Bool := (List.range k).all fun i => e (S.getD i 0) (U.getD i 0)
theorem alike_succ (e : Int → Int → Bool) (S U : List Int) (k : Nat) : alike e S U (k + 1) = (alike e S U k && e (S.getD k 0) (U.getD k 0)) := by
  unfold alike
  rw [List.range_succ, List.all_append]
  simp
theorem alike_no {e : Int → Int → Bool} {S U : List Int} {k n : Nat} (h : k < n) (he : e (S.getD k 0) (U.getD k 0) = false) : alike e S U n = false := by
  unfold alike
  rw [List.all_eq_false]
  exact ⟨k, by simpa using h, by simp [← List.getD_eq_getElem?_getD, he]⟩
def lowEq (c d : Int) : Bool := sLower.f c == d
def foldEq (S U : List Int) : Bool := decide (S.length = U.length) && alike lowEq S U S.length
theorem Lower_quiet {w : World} (c : Int) : Calls Tryd.prog 92 #[.int .u8 c] w fun e w' => e = .returned (.int .u8 (sLower.f c)) ∧ ∃ m, w' = w.drewN m :=
  (sLower.calls c).mono fun e w' ⟨he, hw⟩ => ⟨he, 0, by subst hw; cases w; rfl⟩
set_option maxHeartbeats 4000000 in
theorem EqualFold_calls {w : World} {A A' : Option Addr} {cp cp' : Nat} {S U : List Int} (h : Bytes w A S) (h' : Bytes w A' U) :
    Calls Tryd.prog 78 #[.slice A S.length cp, .slice A' U.length cp'] w fun e w' => e = .returned (.bool (foldEq S U)) ∧ ∃ m, w' = w.drewN m := by
  have hlen := h.len
  by_cases hn : S.length = U.length
  · have hz : ((S.length : Int) == (U.length : Int)) = true := by rw [hn]; simp
    have hz2 : ((S.length : Int) != (U.length : Int)) = false := by simp [bne, hz]
    have HE : Hd (foldEq S U = alike lowEq S U S.length) := ⟨by unfold foldEq; rw [decide_eq_true hn]; rfl⟩
    have HN := Hd.mk hn
    clear hn
    go_enter Tryd.func78, Tryd.ntmps78
    go_wp2
    go_loopg [14] S.length (fun gk v14 w' => ∃ k : Nat, v14 = .int .i64 k ∧ Hd (k + gk = S.length) ∧ Hd (alike lowEq S U k = true) ∧ Hd (∃ m, w' = w.drewN m))
    case atStart => exact ⟨0, rfl, ⟨by omega⟩, ⟨by simp [alike]⟩, ⟨0, by cases w; rfl⟩⟩
    case round =>
      obtain ⟨k, rfl, HK, HA, HW⟩ := hrel
      cases gk with
      | zero =>
        have hk : k = S.length := by have := HK.out; omega
        subst hk
        go_wp2
        go_ret
        exact ⟨by rw [HE.out, HA.out]; rfl, HW.out⟩
      | succ gk =>
        have hlt : k < S.length := by have := HK.out; omega
        have hltU : k < U.length := by have := HN.out; omega
        have hkl : (k : Int) < (S.length : Int) := by omega
        have hkU : (k : Int) < (U.length : Int) := by omega
        obtain ⟨b, off, rfl, hc⟩ := h.cells (by omega)
        obtain ⟨b', off', rfl, hc'⟩ := h'.cells (by omega)
        have c0 : wr.cell? ⟨b, off + k, none⟩ = some (.int .u8 (S.getD k 0)) := by obtain ⟨m, e⟩ := HW.out; rw [e]; exact hc k hlt
        have c1 : wr.cell? ⟨b', off' + k, none⟩ = some (.int .u8 (U.getD k 0)) := by obtain ⟨m, e⟩ := HW.out; rw [e]; exact hc' k hltU
        have hs := Hd.mk (alike_succ lowEq S U k)
        have hno := Hd.mk (fun he => alike_no (e := lowEq) (S := S) (U := U) hlt he)
        clear hc hc'
        generalize S.getD k 0 = x at c0 hs hno
        generalize U.getD k 0 = y at c1 hs hno
        have C0 := Hd.mk (fun n => Lower_quiet (w := wr.drewN n) x)
        by_cases hx : (sLower.f x == y) = true
        · have hx2 : (sLower.f x != y) = false := by simp only [bne, hx, Bool.not_true]
          go_wp2
          go_quiet (with_reducible exact Calls.quiet_of (C0.out _))
          go_wp2
          go_roundg gk
          case measure => exact Nat.lt_succ_self _
          case rel => exact ⟨k + 1, by go_num, ⟨by have := HK.out; omega⟩, ⟨by rw [hs.out, HA.out, show lowEq x y = true from hx]; rfl⟩, ⟨by obtain ⟨m, e⟩ := HW.out; exact ⟨_, by rw [e, World.drewN_drewN]⟩⟩⟩
        · replace hx := Bool.eq_false_iff.mpr hx
          have hx2 : (sLower.f x != y) = true := by simp only [bne, hx, Bool.not_false]
          go_wp2
          go_quiet (with_reducible exact Calls.quiet_of (C0.out _))
          go_wp2
          go_ret
          exact ⟨by rw [HE.out, hno.out (show lowEq x y = false from hx)]; rfl, by obtain ⟨m, e⟩ := HW.out; exact ⟨_, by rw [e, World.drewN_drewN]⟩⟩
  · have hz : ((S.length : Int) == (U.length : Int)) = false := by rw [beq_eq_false_iff_ne]; omega
    have hz2 : ((S.length : Int) != (U.length : Int)) = true := by simp [bne, hz]
    have HE : Hd (foldEq S U = false) := ⟨by unfold foldEq; rw [decide_eq_false hn]; rfl⟩
    have hn2 : ¬ ((S.length : Int) = (U.length : Int)) := by omega
    go_enter Tryd.func78, Tryd.ntmps78
    go_wp2
    go_ret
    exact ⟨by rw [HE.out]; rfl, 0, by cases w; rfl⟩

/-- The lexer's test. -/
def upEq (c d : Int) : Bool := !((c != d) && ((decide (c < 65) || decide (90 < c)) || ((c + 32) % 256 != d)))
def foldEq2 (S U : List Int) : Bool := decide (S.length = U.length) && alike upEq S U U.length
set_option maxHeartbeats 4000000 in
theorem EqualFold2_calls {w : World} {A A' : Option Addr} {cp cp' : Nat} {S U : List Int} (h : Bytes w A S) (h' : Bytes w A' U) :
    Calls Tryd.prog 85 #[.slice A S.length cp, .slice A' U.length cp'] w fun e w' => e = .returned (.bool (foldEq2 S U)) ∧ w = w' := by
  have hlen := h.len
  by_cases hn : S.length = U.length
  · have hz : ((S.length : Int) == (U.length : Int)) = true := by rw [hn]; simp
    have hz2 : ((S.length : Int) != (U.length : Int)) = false := by simp [bne, hz]
    have HE : Hd (foldEq2 S U = alike upEq S U U.length) := ⟨by unfold foldEq2; rw [decide_eq_true hn]; rfl⟩
    have HN := Hd.mk hn
    clear hn
    go_enter Tryd.func85, Tryd.ntmps85
    go_wp2
    go_loopg [15] U.length (fun gk v15 w' => ∃ k : Nat, v15 = .int .i64 k ∧ Hd (k + gk = U.length) ∧ Hd (alike upEq S U k = true) ∧ Hd (w = w'))
    case atStart => exact ⟨0, rfl, ⟨by omega⟩, ⟨by simp [alike]⟩, ⟨rfl⟩⟩
    case round =>
      obtain ⟨k, rfl, HK, HA, HW⟩ := hrel
      obtain rfl := HW.out
      cases gk with
      | zero =>
        have hk : k = U.length := by have := HK.out; omega
        subst hk
        go_wp2
        go_ret
        exact ⟨by rw [HE.out, HA.out]; rfl, rfl⟩
      | succ gk =>
        have hltU : k < U.length := by have := HK.out; omega
        have hlt : k < S.length := by have := HN.out; omega
        have hkl : (k : Int) < (S.length : Int) := by omega
        have hkU : (k : Int) < (U.length : Int) := by omega
        obtain ⟨b, off, rfl, hc⟩ := h.cells (by omega)
        obtain ⟨b', off', rfl, hc'⟩ := h'.cells (by omega)
        have c0 : w.cell? ⟨b, off + k, none⟩ = some (.int .u8 (S.getD k 0)) := hc k hlt
        have c1 : w.cell? ⟨b', off' + k, none⟩ = some (.int .u8 (U.getD k 0)) := hc' k hltU
        have hs := Hd.mk (alike_succ upEq S U k)
        have hno := Hd.mk (fun he => alike_no (e := upEq) (S := S) (U := U) hltU he)
        clear hc hc'
        generalize S.getD k 0 = x at c0 hs hno
        generalize U.getD k 0 = y at c1 hs hno
        by_cases hx : (x != y) = true
        · by_cases h1 : decide (x < 65) = true
          · have hu : upEq x y = false := by unfold upEq; rw [hx, h1]; rfl
            go_wp2
            go_ret
            exact ⟨by rw [HE.out, hno.out hu]; rfl, rfl⟩
          · replace h1 := Bool.eq_false_iff.mpr h1
            by_cases h2 : decide (90 < x) = true
            · have hu : upEq x y = false := by unfold upEq; rw [hx, h1, h2]; rfl
              go_wp2
              go_ret
              exact ⟨by rw [HE.out, hno.out hu]; rfl, rfl⟩
            · replace h2 := Bool.eq_false_iff.mpr h2
              by_cases h3 : ((x + 32) % 256 != y) = true
              · have hu : upEq x y = false := by unfold upEq; rw [hx, h1, h2, h3]; rfl
                go_wp2
                go_ret
                exact ⟨by rw [HE.out, hno.out hu]; rfl, rfl⟩
              · replace h3 := Bool.eq_false_iff.mpr h3
                have hu : upEq x y = true := by unfold upEq; rw [hx, h1, h2, h3]; rfl
                go_wp2
                go_roundg gk
                case measure => exact Nat.lt_succ_self _
                case rel => exact ⟨k + 1, by go_num, ⟨by have := HK.out; omega⟩, ⟨by rw [hs.out, HA.out, hu]; rfl⟩, ⟨rfl⟩⟩
        · replace hx := Bool.eq_false_iff.mpr hx
          have hu : upEq x y = true := by unfold upEq; rw [hx]; rfl
          go_wp2
          go_roundg gk
          case measure => exact Nat.lt_succ_self _
          case rel => exact ⟨k + 1, by go_num, ⟨by have := HK.out; omega⟩, ⟨by rw [hs.out, HA.out, hu]; rfl⟩, ⟨rfl⟩⟩
  · have hz : ((S.length : Int) == (U.length : Int)) = false := by rw [beq_eq_false_iff_ne]; omega
    have hz2 : ((S.length : Int) != (U.length : Int)) = true := by simp [bne, hz]
    have HE : Hd (foldEq2 S U = false) := ⟨by unfold foldEq2; rw [decide_eq_false hn]; rfl⟩
    have hn2 : ¬ ((S.length : Int) = (U.length : Int)) := by omega
    go_enter Tryd.func85, Tryd.ntmps85
    go_wp2
    go_ret
    exact ⟨by rw [HE.out]; rfl, rfl⟩
end Go.Proofs.YteonakpgenkhkaaDoor
