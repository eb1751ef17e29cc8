import Derived.Test.YteonakpgenkhkaaDoorS5
import Derived.Test.YteonakpgenkhkaaDoorL23
namespace Go.Proofs.YteonakpgenkhkaaDoor
open Go.RowKit
set_option linter.unusedVariables false
set_option linter.unusedSimpArgs false
theorem Same_calls {w : World} {A A' : Option Addr} {c c' : Nat} {S : List Int} (h : Bytes w A S) (h' : Bytes w A' S) :
    Calls Tryd.prog 14 #[.slice A S.length c, .slice A' S.length c'] w fun e w' => e = .returned (.bool true) ∧ ∃ m, w' = w.drewN m := by
  have C1 : (convert 22 9 (.slice A S.length c)).run Tryd.prog w = .ok (.string (bstr S)) w := conv_bytes h
  have C2 : (convert 22 9 (.slice A' S.length c')).run Tryd.prog w = .ok (.string (bstr S)) w := conv_bytes h'
  have hx : ((bstr S).toList == (bstr S).toList) = true := by simp
  go_enter Tryd.func14, Tryd.ntmps14
  go_wp2
  go_ret
  exact ⟨rfl, 0, by cases w; rfl⟩
/-- A row of pieces, as a slice. -/
theorem Pcs.form {w : World} {lo base : Nat} {v : Value} {P : List Pc} (h : Pcs w lo base v P) : ∃ A c, v = .slice A P.length c ∧ P.length ≤ maxLen ∧ (0 < P.length → ∃ g, A = some ⟨g, 0, none⟩ ∧ g < w.heap.size ∧ ∀ i j u, j < 6 → (P[i]?).bind (fun x => x.cells[j]?) = some u → w.cell? ⟨g, i * 6 + j, none⟩ = some u) := by
  obtain ⟨hx, h⟩ := h.own
  rcases h with ⟨rfl, h0⟩ | ⟨g, cap, cur, rfl, hg, hb, hc, hm, hs, ht⟩
  · rw [h0]; exact ⟨none, 0, rfl, by unfold maxLen; omega, fun h => by omega⟩
  · refine ⟨_, _, rfl, by omega, fun _ => ⟨g, rfl, lt_of_heap hb, fun i j u hj hu => ?_⟩⟩
    obtain ⟨x, hxi, hxu⟩ := Option.bind_eq_some_iff.mp hu
    have hi : i < P.length := (List.getElem?_eq_some_iff.mp hxi).1
    rw [cell_of_block hb, ← Array.getElem?_toList]
    have e : cur.toList[i * 6 + j]? = (cur.toList.take (P.length * 6))[i * 6 + j]? := by rw [List.getElem?_take, if_pos (by omega)]
    rw [e, ht]
    clear e ht hm hs hb hx hc
    have key : ∀ (P : List Pc) (i : Nat), P[i]? = some x → (P.flatMap Pc.cells)[i * 6 + j]? = some u := by
      intro P
      induction P with
      | nil => intro i h; simp at h
      | cons y P ih =>
        intro i h
        have hl : y.cells.length = 6 := rfl
        cases i with
        | zero =>
          simp at h
          subst h
          rw [List.flatMap_cons, List.getElem?_append_left (by omega)]
          simpa using hxu
        | succ i =>
          rw [List.flatMap_cons, List.getElem?_append_right (by omega), hl, show (i + 1) * 6 + j - 6 = i * 6 + j by omega]
          exact ih i (by simpa using h)
    exact key P i hxi
theorem told_at {P P' : List Pc} (h : P.map Pc.told = P'.map Pc.told) (i : Nat) (hi : i < P.length) : ∃ x y, P[i]? = some x ∧ P'[i]? = some y ∧ x.k = y.k ∧ x.D = y.D := by
  have hl : P.length = P'.length := by simpa using congrArg List.length h
  have := congrArg (·[i]?) h
  simp only [List.getElem?_map, List.getElem?_eq_getElem hi, List.getElem?_eq_getElem (hl ▸ hi), Option.map_some, Option.some.injEq, Pc.told, Prod.mk.injEq] at this
  exact ⟨_, _, List.getElem?_eq_getElem hi, List.getElem?_eq_getElem (hl ▸ hi), this.1, this.2⟩
set_option maxHeartbeats 8000000 in
set_option maxRecDepth 100000 in
theorem FnCSSTokens_calls (K M N : Nat) (hM : Hd (M ≤ 1000000000)) (hN : Hd (N = 100000)) {w : World} {A : Option Addr} {T : List Int} {cp : Nat} {EA : Addr} (h0 : w.cell? ⟨0, 0, none⟩ = some (.iface 80 (.pointer (some EA)))) (h : Bytes w A T) (hA : ∀ ad, A = some ad → ad.block < w.heap.size) (hT : isU8 T) (hcp : T.length ≤ cp) (hx : Lib.Utf8Tabs 1 2 w)
    (H : Hd (T.length ≤ 5000 → ∃ L qe oe, stoks K T M 0 false [] = some (L, qe, oe) ∧ (oe = false → hasB T 0 = false → (hasB T 92 = true → Utf8 T) → cssF N K T = some (L, true)))) :
    Calls Tryd.prog 6 #[.slice A T.length cp] w fun e w' => e = .returned (.bool true) ∧ Below w.heap.size w w' := by
  have H0 := Hd.mk h0
  have hb := World.block_lt_of_cell? _ _ h0
  clear h0
  go_enter Tryd.func6, Tryd.ntmps6
  by_cases hs : T.length ≤ 5000
  · have hz : decide (((2147483647 : Int)) < (T.length : Int)) = false := by rw [decide_eq_false_iff_not]; omega
    have hz2 : ¬ (2147483647 < T.length) := by omega
    have hz3 : ¬ ((2147483647 : Int) < (T.length : Int)) := by omega
    have hy : decide (((5000 : Int)) < (T.length : Int)) = false := by rw [decide_eq_false_iff_not]; omega
    have hy2 : ¬ (5000 < T.length) := by omega
    have hy3 : ¬ ((5000 : Int) < (T.length : Int)) := by omega
    obtain ⟨L, qe, oe, A1, A2⟩ := H.out hs
    have HA2 := Hd.mk A2
    have HA1 := Hd.mk A1
    clear A1 A2 H
    go_wp2_with fail
    refine (Tokens_calls K M hM h hA hT hcp hx L qe oe HA1).mono ?_
    rintro e w1 ⟨hk, h1⟩
    have H1 := Hd.mk h1
    rcases hk with ⟨v, rfl⟩ | ⟨v, P, base, rfl, hz0, hU, hP, hPL⟩
    · go_wp2_with fail
      go_ret
      exact ⟨rfl, h1⟩
    · cases oe with
      | true =>
        go_wp2_with fail
        go_ret
        exact ⟨rfl, h1⟩
      | false =>
        have HF := Hd.mk (HA2.out rfl hz0 hU)
        have hb1 := h.below h1
        have h01 : w1.cell? ⟨0, 0, none⟩ = some (.iface 80 (.pointer (some EA))) := (h1.cell (p := ⟨0, 0, none⟩) hb).trans H0.out
        have HP := Hd.mk hP
        have HPL := Hd.mk hPL
        clear hz0 hU HA2 HA1 hP hPL h1
        simp only [Bool.not_false]
        go_wp2_with fail
        refine (CSS_calls K N hN h01 hb1 (by omega) L true HF).mono ?_
        rintro e w2 ⟨v', P', base', rfl, hP', hPL', h2⟩
        have hP2 := HP.out.below h2
        have HB := Hd.mk (H1.out.trans (h2.mono H1.out.size))
        have HLL := Hd.mk (hPL'.trans HPL.out.symm)
        have hlen : P'.length = P.length := by simpa using congrArg List.length HLL.out
        obtain ⟨Ad, cd, rfl, hml, hcd⟩ := hP2.form
        obtain ⟨Ag, cg, rfl, _, hcg⟩ := hP'.form
        have HPd := Hd.mk hP2
        have HPg := Hd.mk hP'
        have Hcd := Hd.mk hcd
        have Hcg := Hd.mk hcg
        unfold maxLen at hml
        rw [hlen] at Hcg ⊢
        clear hcd hcg hP2 hP' hPL' h2 h01 hb1 HP HPL
        have hle : ((P.length : Int) != (P.length : Int)) = false := by simp
        have hle2 : ((P.length : Int) == (P.length : Int)) = true := by simp
        go_wp2_with fail
        go_loopg [38] P.length (fun gk v38 w' => ∃ i : Nat, v38 = .int .i64 i ∧ Hd (i + gk = P.length) ∧ Hd (Below w2.heap.size w2 w'))
        case atStart => exact ⟨0, rfl, ⟨by omega⟩, ⟨Below.refl _ _⟩⟩
        case round =>
          obtain ⟨i, rfl, HK, HBr⟩ := hrel
          cases gk with
          | zero =>
            have hi : i = P.length := by have := HK.out; omega
            subst hi
            go_wp2
            go_ret
            exact ⟨rfl, HB.out.trans (HBr.out.mono HB.out.size)⟩
          | succ gk =>
            have hi : i < P.length := by have := HK.out; omega
            have hil : (i : Int) < (P.length : Int) := by omega
            obtain ⟨x, y, hx1, hy1, hk, hD⟩ := told_at HLL.out i (by omega)
            obtain ⟨gd, rfl, hgd, fd⟩ := Hcd.out (by omega)
            obtain ⟨gg, rfl, hgg, fg⟩ := Hcg.out (by omega)
            have g0 : wr.cell? ⟨gg, i * 6, none⟩ = some (.string (bstr x.k)) := (HBr.out.cell (p := ⟨gg, i * 6, none⟩) hgg).trans (fg i 0 _ (by decide) (by rw [hx1]; rfl))
            have g1 : wr.cell? ⟨gg, i * 6 + 1, none⟩ = some (.slice x.A x.D.length x.c) := (HBr.out.cell (p := ⟨gg, i * 6 + 1, none⟩) hgg).trans (fg i 1 _ (by decide) (by rw [hx1]; rfl))
            have g2 : wr.cell? ⟨gg, i * 6 + 2, none⟩ = some (.slice none 0 0) := (HBr.out.cell (p := ⟨gg, i * 6 + 2, none⟩) hgg).trans (fg i 2 _ (by decide) (by rw [hx1]; rfl))
            have g3 : wr.cell? ⟨gg, i * 6 + 3, none⟩ = some (.slice none 0 0) := (HBr.out.cell (p := ⟨gg, i * 6 + 3, none⟩) hgg).trans (fg i 3 _ (by decide) (by rw [hx1]; rfl))
            have g4 : wr.cell? ⟨gg, i * 6 + 4, none⟩ = some (.slice none 0 0) := (HBr.out.cell (p := ⟨gg, i * 6 + 4, none⟩) hgg).trans (fg i 4 _ (by decide) (by rw [hx1]; rfl))
            have g5 : wr.cell? ⟨gg, i * 6 + 5, none⟩ = some (.string ⟨#[]⟩) := (HBr.out.cell (p := ⟨gg, i * 6 + 5, none⟩) hgg).trans (fg i 5 _ (by decide) (by rw [hx1]; rfl))
            have d0 : wr.cell? ⟨gd, i * 6, none⟩ = some (.string (bstr x.k)) := (HBr.out.cell (p := ⟨gd, i * 6, none⟩) hgd).trans (fd i 0 _ (by decide) (by rw [hy1, hk]; rfl))
            have d1 : wr.cell? ⟨gd, i * 6 + 1, none⟩ = some (.slice y.A x.D.length y.c) := (HBr.out.cell (p := ⟨gd, i * 6 + 1, none⟩) hgd).trans (fd i 1 _ (by decide) (by rw [hy1, hD]; rfl))
            have hBx := (HPg.out.dat x (List.mem_of_getElem? hx1)).1.below' HBr.out
            have hBy := (HPd.out.dat y (List.mem_of_getElem? hy1)).1.below' HBr.out
            rw [← hD] at hBy
            have C0 := Hd.mk (fun (o : Obj) n => Same_calls (w := (wr.alloc o).drewN n) (c := x.c) (c' := y.c) ((hBx.alloc o).of_block fun _ _ _ => rfl) ((hBy.alloc o).of_block fun _ _ _ => rfl))
            have hgs : gg < wr.heap.size := by have := HBr.out.size; omega
            have hds : gd < wr.heap.size := by have := HBr.out.size; omega
            clear hBx hBy fd fg hx1 hy1 hk hD hi
            have HBn := Hd.mk (fun o => HBr.out.alloc HBr.out.size o)
            clear HBr
            have hkk : ((bstr x.k).toList == (bstr x.k).toList) = true := by simp
            go_wp2_with fail
            go_quiet (with_reducible exact Calls.quiet_of (C0.out _ _))
            go_wp2_with fail
            go_roundg gk
            case measure => exact Nat.lt_succ_self _
            case rel => exact ⟨i + 1, by go_num, ⟨by have := HK.out; omega⟩, ⟨(HBn.out _).frz' _ rfl rfl rfl rfl⟩⟩
  · have hy : decide (((5000 : Int)) < (T.length : Int)) = true := by rw [decide_eq_true_iff]; omega
    have hy2 : 5000 < T.length := by omega
    have hy3 : (5000 : Int) < (T.length : Int) := by omega
    by_cases hn : T.length ≤ 2147483647
    · have hz : decide (((2147483647 : Int)) < (T.length : Int)) = false := by rw [decide_eq_false_iff_not]; omega
      have hz2 : ¬ (2147483647 < T.length) := by omega
      have hz3 : ¬ ((2147483647 : Int) < (T.length : Int)) := by omega
      clear hs hn
      go_wp2_with fail
      go_ret
      exact ⟨rfl, Below.refl _ _⟩
    · have hz : decide (((2147483647 : Int)) < (T.length : Int)) = true := by rw [decide_eq_true_iff]; omega
      have hz2 : 2147483647 < T.length := by omega
      have hz3 : (2147483647 : Int) < (T.length : Int) := by omega
      clear hs hn
      go_wp2_with fail
      go_ret
      exact ⟨rfl, Below.refl _ _⟩
end Go.Proofs.YteonakpgenkhkaaDoor
