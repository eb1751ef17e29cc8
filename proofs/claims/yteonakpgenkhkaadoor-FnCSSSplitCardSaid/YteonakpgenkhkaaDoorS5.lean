import Derived.Test.YteonakpgenkhkaaDoorS4
import Derived.Test.YteonakpgenkhkaaDoorL10
import Derived.Test.YteonakpgenkhkaaDoorP0
namespace Go.Proofs.YteonakpgenkhkaaDoor
open Go.RowKit
set_option linter.unusedVariables false
set_option linter.unusedSimpArgs false
/-- What the reference's loop collects. -/
def stoks (K : Nat) (T : List Int) : Nat → Int → Bool → List (List Int × List Int) → Option (List (List Int × List Int) × Int × Bool)
  | 0, _, _, _ => none
  | k + 1, q, o, L => if rover T q = true then some (L, q, o) else if o = true then some (L, q, o) else
    (stoken.f K T q o).bind fun (n, q', o') => (subL T q q').bind fun D => stoks K T k q' o' (L ++ [(n, D)])
/-- What the reference returns: nothing told, or the pieces. -/
def TokensPost (T : List Int) (L : List (List Int × List Int)) (o : Bool) (w : World) (e : Ending) (w' : World) : Prop :=
  ((∃ v, e = .returned (.tuple #[v, .bool false])) ∨
    (∃ v P base, e = .returned (.tuple #[v, .bool (!o)]) ∧ hasB T 0 = false ∧ (hasB T 92 = true → Utf8 T) ∧ Pcs w' w.heap.size base v P ∧ P.map Pc.told = L)) ∧ Below w.heap.size w w'
theorem Tryd.underlying26s : Tryd.prog.underlying 26 = some (.slice 31) := by kernel_rfl
set_option maxHeartbeats 8000000 in
set_option maxRecDepth 100000 in
theorem Tokens_calls (K M : Nat) (hM : Hd (M ≤ 1000000000)) {w : World} {A : Option Addr} {T : List Int} {cp : Nat} (h : Bytes w A T) (hA : ∀ ad, A = some ad → ad.block < w.heap.size) (hT : isU8 T) (hcp : T.length ≤ cp) (hx : Lib.Utf8Tabs 1 2 w)
    (L : List (List Int × List Int)) (qe : Int) (oe : Bool) (H : Hd (stoks K T M 0 false [] = some (L, qe, oe))) :
    Calls Tryd.prog 11 #[.slice A T.length cp] w (TokensPost T L oe w) := by
  have HA := Hd.mk hA
  have HH := Hd.mk h
  have HX := Hd.mk hx
  have HB := Hd.mk (h.of_block (w' := (w.alloc (.cells #[.slice A T.length cp, .int .i64 0, .bool false] 35)).alloc (.cells #[] 31)) fun ad _ hl => (Below.heap_alloc _ _ _ (by simp; omega)).trans (Below.heap_alloc _ _ _ hl))
  have HM0 := Hd.mk (((Below.refl w.heap.size w).alloc (Nat.le_refl _) (.cells #[.slice A T.length cp, .int .i64 0, .bool false] 35)).alloc (by simp) (.cells #[] 31))
  have HR := Hd.mk ((Rd.new h hcp hA).alloc (.cells #[] 31))
  have HP : Hd (Pcs ((w.alloc (.cells #[.slice A T.length cp, .int .i64 0, .bool false] 35)).alloc (.cells #[] 31)) w.heap.size (w.heap.size + 1) (.slice (some ⟨w.heap.size + 1, 0, none⟩) 0 0) []) := ⟨by
    have := Pcs.nil (w := w.alloc (.cells #[.slice A T.length cp, .int .i64 0, .bool false] 35)) (lo := w.heap.size) (base := w.heap.size + 1) (by simp) (by omega)
    simpa using this⟩
  obtain ⟨i0, hi, hz0, hz1, hz2⟩ := info_parts Tryd.info31
  have HI := Hd.mk (And.intro hi (And.intro hz0 (And.intro hz1 hz2)))
  clear hi hz0 hz1 hz2 hA h hx
  go_enter Tryd.func11, Tryd.ntmps11
  go_wp2_with fail
  refine (Has_calls HB.out 0).mono ?_
  rintro e w' ⟨rfl, rfl⟩
  by_cases hh : hasB T 0 = true
  · rw [hh]
    go_wp2_with fail
    go_ret2
    exact ⟨.inl ⟨_, rfl⟩, HM0.out⟩
  · have hh0 := Bool.eq_false_iff.mpr hh
    have HH0 := Hd.mk hh0
    rw [hh0]
    clear hh hh0
    go_wp2_with fail
    refine (isBroken_calls HB.out hT hcp (tabs_below HX.out HM0.out)).mono ?_
    rintro e w2 ⟨⟨v, rfl, hv⟩, hb2⟩
    have HV := Hd.mk hv
    have HM2 := Hd.mk (HM0.out.trans (hb2.mono (by simp; omega)))
    have hR2 := Hd.mk (HR.out.fr ⟨hb2.os, hb2.tape, hb2.output, hb2.size, fun k hk _ => hb2.block k hk⟩ ((hb2.block _ (by simp; omega)).trans HR.out.blk))
    have hP2 := Hd.mk (HP.out.below hb2)
    have hS2 := Hd.mk hb2.size
    clear hv hb2 HR HP HB HM0
    cases v with
    | true =>
      go_wp2_with fail
      go_ret2
      exact ⟨.inl ⟨_, rfl⟩, HM2.out⟩
    | false =>
      have hU := Hd.mk (HV.out rfl)
      clear HV
      have hS2' : w.heap.size + 2 ≤ w2.heap.size := by have := hS2.out; simpa using this
      generalize hz : w.heap.size = z at HA HM2 hR2 hP2 hS2'
      have HZ := Hd.mk hz
      clear hz hS2
      go_wp2_with fail
      go_loopg [5] M (fun gk v5 w' => ∃ (q : Int) (o : Bool) (L' : List (List Int × List Int)) (P : List Pc), Hd (stoks K T gk q o L' = some (L, qe, oe)) ∧ Hd (Rd w' z A cp T q o) ∧ Hd (Pcs w' z (z + 1) v5 P) ∧ Hd (P.map Pc.told = L') ∧ Hd (Below z w w') ∧ Hd (z + 2 ≤ w'.heap.size ∧ P.length + gk = M))
      case atStart => exact ⟨0, false, [], [], H, hR2, hP2, ⟨rfl⟩, HM2, ⟨hS2', by simp⟩⟩
      case round =>
        clear H hR2 hP2 HM2 hS2'
        obtain ⟨q, o, L', P, HC, hR, hP, HT, hB, HS⟩ := hrel
        cases gk with
        | zero => exact absurd HC.out (by simp [stoks])
        | succ gk =>
          have HC2 : Hd ((if rover T q = true then some (L', q, o) else if o = true then some (L', q, o) else
            (stoken.f K T q o).bind fun (n, q', o') => (subL T q q').bind fun D => stoks K T gk q' o' (L' ++ [(n, D)])) = some (L, qe, oe)) := ⟨HC.out⟩
          clear HC
          have hzb := lt_of_heap hR.out.blk
          go_wp2_with fail
          refine (over_calls hR.out).mono ?_
          rintro e w4 ⟨rfl, hR4, k4⟩
          have hP4 := Hd.mk (hP.out.fr k4 (Nat.le_refl _) (by omega) (by intro cs f e; rw [hR.out.blk] at e; simp at e))
          have hB4 := Hd.mk (hB.out.frz k4 (Nat.le_refl _) (by omega))
          have hs4 : z + 2 ≤ w4.heap.size := by have := HS.out; have := k4.size; omega
          have c2 := hR4.c2
          have c1 := hR4.c1
          clear hR hP hB
          by_cases er : rover T q = true
          · obtain ⟨e1, e2, e3⟩ := (HC2.pos er).p3
            subst e1 e2 e3
            clear HC2
            rw [er]
            go_wp2_with fail
            go_quiet (fail)
            go_wp2_with fail
            go_ret2
            exact ⟨.inr ⟨_, P, z + 1, rfl, HH0.out, hU.out, by rw [HZ.out]; exact hP4.out.drewN _, HT.out⟩, by rw [HZ.out]; exact hB4.out.frz' _ rfl rfl rfl rfl⟩
          · replace HC2 := HC2.neg er
            replace er := Bool.eq_false_iff.mpr er
            rw [er]
            cases o with
            | true =>
              obtain ⟨e1, e2, e3⟩ := (HC2.tt).p3
              subst e1 e2 e3
              clear HC2
              go_wp2_with fail
              go_quiet (fail)
              go_wp2_with fail
              go_ret2
              exact ⟨.inr ⟨_, P, z + 1, rfl, HH0.out, hU.out, by rw [HZ.out]; exact hP4.out.drewN _, HT.out⟩, by rw [HZ.out]; exact hB4.out.frz' _ rfl rfl rfl rfl⟩
            | false =>
              replace HC2 := HC2.ff
              obtain ⟨⟨n, q', o'⟩, A1, HC3⟩ := HC2.bind
              dsimp only at HC3
              obtain ⟨D, A2, HC4⟩ := HC3.bind
              clear HC2 HC3
              go_wp2_with fail
              refine (stoken.calls K hR4 n q' o' A1).mono ?_
              rintro e w5 ⟨rfl, hR5, k5⟩
              have hP5 := hP4.out.fr k5 (Nat.le_refl _) (by omega) (by intro cs f e; rw [hR4.blk] at e; simp at e)
              have hB5 := hB4.out.frz k5 (Nat.le_refl _) (by omega)
              have hs5 : z + 2 ≤ w5.heap.size := by have := k5.size; omega
              obtain ⟨hb, rfl⟩ := subL_of A2
              have hlT := hR5.txt.len
              obtain ⟨b, off, rfl, hc⟩ := hR5.txt.cells (by omega)
              have hD5 := Hd.mk (sub_bytes hlT hb hc)
              have hDl := Hd.mk (sub_length hb)
              have c5 := hR5.c1
              have b1 : q ≤ q' := by omega
              have b2 : q' ≤ (cp : Int) := by omega
              have b3 := hb.1
              have b4 : 0 ≤ q' := by omega
              have b5 : q.toNat ≤ q'.toNat := by omega
              have b6 : q'.toNat ≤ cp := by omega
              have b7 : ¬ q'.toNat = q.toNat := by omega
              have b8 : q'.toNat - q.toNat ≤ cp - q.toNat := by omega
              have hbz := HA.out _ rfl
              generalize hDD : (T.drop q.toNat).take (q'.toNat - q.toNat) = D at hD5 hDl HC4
              have hDl' := Hd.mk hDl.out.symm
              clear hDD hc hDl
              obtain ⟨hi, hz0, hz1, hz2⟩ := HI.out
              have hPb : P.length + 1 ≤ 1000000000 := by have := HS.out; have := hM.out; omega
              have HP5 := Hd.mk hP5
              have HB5 := Hd.mk hB5
              have HR5 := Hd.mk hR5
              clear hP5 hB5 hR5 c2 c1 k4 k5 hP4 hB4 hR4
              go_wp2_with (at_builtin; refine wpList_append_own _ rfl _ _ 26 rfl (z + 1) 31 i0 (.agg #[.string ⟨#[]⟩, .slice none 0 0, .slice none 0 0, .slice none 0 0, .slice none 0 0, .string ⟨#[]⟩]) 6 128 Tryd.underlying26s hi hz0 hz1 hz2 rfl (by decide) _ _ _ rfl (HP5.out.own.alloc _) ⟨w5.heap.size, 0, none⟩ 1 1 (Pc.cells ⟨n, some ⟨b, off + q.toNat, none⟩, D, cp - q.toNat⟩) rfl rfl ?c1 ?c2 ?c3 ?c4 ?c5 ?_)
              case c1 => intro j u hu; refine six_new rfl ?_; rw [hDl'.out]; exact hu
              case c2 => intro u hu; simp [Pc.cells] at hu; rcases hu with rfl | rfl | rfl | rfl <;> rfl
              case c3 => unfold maxLen; omega
              case c4 => omega
              case c5 => simp; omega
              intro v' w6 hown1 hgrow _
              have hR6 := Hd.mk ((HR5.out.alloc _).grown hgrow (z + 1) (fun k hk => (HP5.out.own.lt k hk).1) (by omega) (fun ad e => by cases e; show b < z + 1; omega))
              have hP6 := Hd.mk ((HP5.out.alloc _).add ⟨n, some ⟨b, off + q.toNat, none⟩, D, cp - q.toNat⟩ (hD5.out.alloc _) (by have := hDl'.out; show D.length ≤ cp - q.toNat; omega) (fun ad e => by cases e; exact .inl hbz) hown1 hgrow)
              have hB6 := Hd.mk (Below.grown (HB5.out.alloc (by omega) _) hgrow (by simp; omega) fun g hg => by have := (HP5.out.own.lt g hg).1; omega)
              have hS6 := Hd.mk hgrow.size
              clear hown1 hgrow hi hz0 hz1 hz2 HP5 HB5 HR5 hD5 hDl'
              go_wp2
              go_roundg gk
              case measure => exact Nat.lt_succ_self _
              case rel => exact ⟨q', o', L' ++ [(n, D)], P ++ [⟨n, some ⟨b, off + q.toNat, none⟩, D, cp - q.toNat⟩], HC4, hR6, hP6, ⟨by rw [List.map_append, HT.out]; rfl⟩, hB6, ⟨by have := hS6.out; simp at this; omega, by rw [List.length_append]; have := HS.out.2; simp; omega⟩⟩
end Go.Proofs.YteonakpgenkhkaaDoor
