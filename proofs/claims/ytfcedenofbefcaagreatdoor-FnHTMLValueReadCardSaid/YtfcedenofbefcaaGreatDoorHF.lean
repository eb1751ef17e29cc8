import Derived.Test.YtfcedenofbefcaaGreatDoorHG
import Derived.Test.YtfcedenofbefcaaGreatDoorHW
namespace Go.Proofs.YtfcedenofbefcaaGreatDoor
open Go.RowKit
set_option linter.unusedVariables false
set_option linter.unusedSimpArgs false
/-! impl.HTML, walked. -/
set_option maxRecDepth 100000 in
theorem htmlKind_calls {w : World} (t : Int) : Calls Tryz.prog 34 #[.int .u32 t] w fun e w' => e = .returned (.string (bstr (hkind t))) ∧ w = w' := by
  unfold hkind
  go_enter Tryz.func34, Tryz.ntmps34
  by_cases h1 : t = 1
  · have d1 : (t == 1) = true := beq_iff_eq.mpr h1
    rw [if_pos h1]
    clear h1
    go_wp2_with fail
    go_ret
    exact ⟨rfl, rfl⟩
  have d1 : (t == 1) = false := beq_eq_false_iff_ne.mpr h1
  rw [if_neg h1]
  clear h1
  by_cases h2 : t = 2
  · have d2 : (t == 2) = true := beq_iff_eq.mpr h2
    rw [if_pos h2]
    clear h2
    go_wp2_with fail
    go_ret
    exact ⟨rfl, rfl⟩
  have d2 : (t == 2) = false := beq_eq_false_iff_ne.mpr h2
  rw [if_neg h2]
  clear h2
  by_cases h3 : t = 3
  · have d3 : (t == 3) = true := beq_iff_eq.mpr h3
    rw [if_pos h3]
    clear h3
    go_wp2_with fail
    go_ret
    exact ⟨rfl, rfl⟩
  have d3 : (t == 3) = false := beq_eq_false_iff_ne.mpr h3
  rw [if_neg h3]
  clear h3
  by_cases h4 : t = 4
  · have d4 : (t == 4) = true := beq_iff_eq.mpr h4
    rw [if_pos h4]
    clear h4
    go_wp2_with fail
    go_ret
    exact ⟨rfl, rfl⟩
  have d4 : (t == 4) = false := beq_eq_false_iff_ne.mpr h4
  rw [if_neg h4]
  clear h4
  by_cases h5 : t = 5
  · have d5 : (t == 5) = true := beq_iff_eq.mpr h5
    rw [if_pos h5]
    clear h5
    go_wp2_with fail
    go_ret
    exact ⟨rfl, rfl⟩
  have d5 : (t == 5) = false := beq_eq_false_iff_ne.mpr h5
  rw [if_neg h5]
  clear h5
  by_cases h6 : t = 6
  · have d6 : (t == 6) = true := beq_iff_eq.mpr h6
    rw [if_pos h6]
    clear h6
    go_wp2_with fail
    go_ret
    exact ⟨rfl, rfl⟩
  have d6 : (t == 6) = false := beq_eq_false_iff_ne.mpr h6
  rw [if_neg h6]
  clear h6
  by_cases h7 : t = 7
  · have d7 : (t == 7) = true := beq_iff_eq.mpr h7
    rw [if_pos h7]
    clear h7
    go_wp2_with fail
    go_ret
    exact ⟨rfl, rfl⟩
  have d7 : (t == 7) = false := beq_eq_false_iff_ne.mpr h7
  rw [if_neg h7]
  clear h7
  by_cases h8 : t = 8
  · have d8 : (t == 8) = true := beq_iff_eq.mpr h8
    rw [if_pos h8]
    clear h8
    go_wp2_with fail
    go_ret
    exact ⟨rfl, rfl⟩
  have d8 : (t == 8) = false := beq_eq_false_iff_ne.mpr h8
  rw [if_neg h8]
  clear h8
  go_wp2_with fail
  go_ret
  exact ⟨rfl, rfl⟩
/-- What the loop keeps. -/
structure HInv (w w' : World) (l z b base K N gk i : Nat) (B : List Int) (EA : Addr) (p s : Int) (rt : Int) (tg : Bool) (tl th al ah : Int) (L' L1 : List GTok) (P : List Pc) (pe : Int) (v : Value) : Prop where
  sum : i + gk = N
  col : hmll K B gk p s rt tg tl th al ah L' = some (L1, pe)
  lex : Hl w' l z b B 179 EA p s rt tg tl th al ah
  pcs : Pcs w' w.heap.size base v P
  told : P.map Pc.told = L'
  bel : Below w.heap.size w w'
  size : base ≤ w'.heap.size
  len : P.length = i
set_option maxHeartbeats 16000000 in
set_option maxRecDepth 100000 in
theorem HTML_calls (K N : Nat) (hN : Hd (N = 100000)) {w : World} {A : Option Addr} {T : List Int} {cp : Nat} {EA : Addr} (h0 : w.cell? ⟨0, 0, none⟩ = some (.iface 179 (.pointer (some EA)))) (ht : HTab w) (h : Bytes w A T) (hlen : T.length ≤ 140737488355000) (L : List GTok) (r : Bool) (H : Hd (htmlF N K T = some (L, r))) :
    Calls Tryz.prog 12 #[.slice A T.length cp] w (PiecesPost L r w) := by
  have hb0 := World.block_lt_of_cell? _ _ h0
  have hb2 : 2 < w.heap.size := World.block_lt_of_cell? _ _ (ht.cells 0 (by decide))
  have HTb := Hd.mk ht
  clear ht
  have H0 := Hd.mk h0
  obtain ⟨i0, hi, hz0, hz1, hz2⟩ := info_parts Tryz.info36
  have HI := Hd.mk (And.intro hi (And.intro hz0 (And.intro hz1 hz2)))
  clear h0 hi hz0 hz1 hz2
  go_enter Tryz.func12, Tryz.ntmps12
  go_wp2_with fail
  refine (implCopy_calls h).mono ?_
  rintro e w1 ⟨rfl, h1, h2⟩
  have H1 := Hd.mk h1
  have H2 := Hd.mk h2
  clear h1 h2
  go_wp2_with fail
  refine (NewInputBytes_calls (B0 := w.heap.size) (Nat.le_refl _) H1.out hlen).mono ?_
  intro e w2 hn
  obtain ⟨z, b, rfl, hM⟩ := madeH (w := w) H0.out HTb.out (Nat.le_refl _) hb2 hlen H2.out H2.out.size hn
  clear hn
  go_wp2_with fail
  refine (HNew_calls).mono ?_
  rintro e w3 ⟨rfl, rfl⟩
  obtain ⟨hlw, hzw, hbw⟩ := hM.lt
  have hI3 := Hd.mk hM.lx
  have hB3 := Hd.mk hM.mem
  have hll := hM.hl
  have hlz := hM.hz
  have hlb := hM.hb
  have hsz := hM.mem.size
  generalize hW3 : w2.alloc (.cells #[.pointer (some ⟨z, 0, none⟩), .slice none 0 0, .slice none 0 0, .nilIface, .int .u32 0, .bool false, .slice none 0 0, .slice none 0 0, .bool false] 93) = W3 at hlw hzw hbw hI3 hB3 hsz ⊢
  generalize w2.heap.size = l at hlw hI3 hll ⊢
  clear hM hW3 H1 H2
  obtain ⟨⟨L1, pe⟩, HL, HR⟩ := H.bind
  obtain ⟨hL1, hr⟩ := HR.p2
  subst hL1
  have HE := Hd.mk hr
  clear H HR hr
  go_wp2_with fail
  go_loopg [5, 14] N (fun gk v5 v14 w' => ∃ (i : Nat) (p s : Int) (rt : Int) (tg : Bool) (tl th al ah : Int) (L' : List GTok) (P : List Pc), v14 = .int .i64 i ∧ Hd (HInv w w' l z b W3.heap.size K N gk i (T ++ [0]) EA p s rt tg tl th al ah L' L1 P pe v5))
  case atStart => exact ⟨0, 0, 0, 0, false, 0, 0, 0, 0, [], [], rfl, ⟨⟨by omega, HL.out, hI3.out.alloc _, Pcs.nil (Nat.le_refl _) hsz, rfl, hB3.out.alloc hsz _, by simp, rfl⟩⟩⟩
  case round =>
    obtain ⟨i, p, s, rt, tg, tl, th, al, ah, L', P, rfl, HV⟩ := hrel
    clear HL hI3 hB3
    have HC := Hd.mk HV.out.col
    cases gk with
    | zero =>
      have hlt : ¬ ((i : Int) < 100000) := by have := HV.out.sum; have := hN.out; omega
      have hlt2 : decide ((i : Int) < 100000) = false := decide_eq_false hlt
      obtain ⟨hL, hpe⟩ := HC.p2
      subst hpe
      have HT' := Hd.mk (HV.out.told.trans hL)
      have h00 := HV.out.lex.inp.eof
      have C0 := Hd.mk (fun n => HErr_quiet (HV.out.lex.drewN n) r HE.out)
      have hq1 := errv_eql r EA
      have hq2 := errv_guard r EA
      clear hL HC
      go_wp2
      go_quiet (with_reducible exact Calls.quiet_of (C0.out _))
      go_wp2
      go_ret2
      exact ⟨_, P, _, rfl, HV.out.pcs.drewN _, HT'.out, HV.out.bel.drewN _⟩
    | succ gk =>
      have hlt : (i : Int) < 100000 := by have := HV.out.sum; have := hN.out; omega
      have hlt2 : decide ((i : Int) < 100000) = true := decide_eq_true hlt
      have hib : i < 9223372036854775807 := by have := HV.out.sum; have := hN.out; omega
      have HC2 : Hd (((hNext.f K (T ++ [0]) p s rt tg tl th al ah).bind fun (t, lo, hi, p', s', rt', tg', tl', th', al', ah') =>
        if (t == 0) = true then some (L', p') else
        (subB (T ++ [0]) lo hi).bind fun D => (subB (T ++ [0]) tl' th').bind fun X =>
        if (t == 7) = true then ((subB (T ++ [0]) al' ah').bind fun V => hmll K (T ++ [0]) gk p' s' rt' tg' tl' th' al' ah' (L' ++ [(hkind t, D, X, V)])) else
        hmll K (T ++ [0]) gk p' s' rt' tg' tl' th' al' ah' (L' ++ [(hkind t, D, X, [])])) = some (L1, pe)) := ⟨HC.out⟩
      obtain ⟨⟨t, lo', hi', p', s', rt', tg', tl', th', al', ah'⟩, A1, HC3⟩ := HC2.bind
      clear HC HC2
      dsimp only at HC3
      by_cases et : (t == 0) = true
      · obtain ⟨hL, hpe⟩ := (HC3.pos et).p2
        subst hpe
        have HT' := Hd.mk (HV.out.told.trans hL)
        clear hL HC3
        go_wp2_with fail
        refine (hNext.calls K HV.out.lex t lo' hi' p' s' rt' tg' tl' th' al' ah' A1).mono ?_
        rintro e w5 ⟨rfl, hI5, k5⟩
        have hP5 := HV.out.pcs.fr k5 hll hlz hlw hzw (hlex_no5 HV.out.lex) (inp_no5 HV.out.lex.inp)
        have hB5 := HV.out.bel.frz k5 hll hlz HV.out.bel.size
        have h00 := hI5.inp.eof
        have C0 := Hd.mk (fun n => HErr_quiet (hI5.drewN n) r HE.out)
        have hq1 := errv_eql r EA
        have hq2 := errv_guard r EA
        go_wp2_with fail
        go_quiet (with_reducible exact Calls.quiet_of (C0.out _))
        go_wp2_with fail
        go_ret2
        exact ⟨_, P, _, rfl, hP5.drewN _, HT'.out, hB5.drewN _⟩
      · replace HC3 := HC3.neg et
        replace et := Bool.eq_false_iff.mpr et
        obtain ⟨D, A3, HC4⟩ := HC3.bind
        obtain ⟨X, A5, HC5⟩ := HC4.bind
        clear HC3 HC4
        obtain ⟨A4, c4, hsl, hDc, hDB⟩ := slv_form (b := b) A3
        have HN := hNext.calls K HV.out.lex t lo' hi' p' s' rt' tg' tl' th' al' ah' A1
        have hnx : nxv b t lo' hi' = .slice A4 D.length c4 := by unfold nxv; rw [if_neg (by simpa using et), hsl]
        rw [hnx] at HN
        have HD := Hd.mk hDB
        clear hnx hsl hDB
        go_wp2_with fail
        refine HN.mono ?_
        rintro e w5 ⟨rfl, hI5, k5⟩
        have hP5 := HV.out.pcs.fr k5 hll hlz hlw hzw (hlex_no5 HV.out.lex) (inp_no5 HV.out.lex.inp)
        have hB5 := HV.out.bel.frz k5 hll hlz HV.out.bel.size
        have hD5 := HD.out _ _ _ _ _ _ hI5.inp
        have hs5 : W3.heap.size ≤ w5.heap.size := Nat.le_trans HV.out.size k5.size
        have HT := Hd.mk HV.out.told
        have HS := Hd.mk (And.intro HV.out.sum HV.out.len)
        clear HN HV
        go_wp2_with fail
        refine (htmlKind_calls t).mono ?_
        rintro e w6 ⟨rfl, rfl⟩
        go_wp2_with fail
        refine (implCopy_calls hD5).mono ?_
        rintro e w7 ⟨rfl, h7, hb7⟩
        have hI7 := hI5.below hb7
        have hP7 := hP5.below hb7
        have hB7 := hB5.trans (hb7.mono hB5.size)
        have hG7 := Hd.mk (Seg.new (lo := w.heap.size) h7 hD5.len)
        have hs7 : W3.heap.size ≤ w7.heap.size := Nat.le_trans hs5 hb7.size
        clear h7 hb7 hP5 hI5 hB5 hs5 k5
        go_wp2_with fail
        refine (HText_calls hI7).mono ?_
        rintro e w8 ⟨⟨At, nt, ct, rfl, hSv⟩, rfl⟩
        obtain ⟨rfl, hX7⟩ := sv_form hI7.inp hSv A5
        clear hSv
        go_wp2_with fail
        refine (implCopy_calls hX7).mono ?_
        rintro e w8 ⟨rfl, h8, hb8⟩
        have hI8 := hI7.below hb8
        have hP8 := hP7.below hb8
        have hB8 := hB7.trans (hb8.mono hB7.size)
        have hG8 := Hd.mk (Seg.new (lo := w.heap.size) h8 hX7.len)
        have hH8 := Hd.mk (hG7.out.below hb8)
        have hs8 : W3.heap.size ≤ w8.heap.size := Nat.le_trans hs7 hb8.size
        clear h8 hb8 hP7 hI7 hB7 hs7 hG7
        obtain ⟨hi, hz0, hz1, hz2⟩ := HI.out
        have hPb : P.length + 1 ≤ 100000 := by have := HS.out.1; have := HS.out.2; have := hN.out; omega
        by_cases e10 : (t == 7) = true
        · obtain ⟨V, A6, HC6⟩ := (HC5.pos e10).bind
          clear HC5
          have hB8s := hB8.size
          have HB9 := Hd.mk (hB8.alloc hB8s (.cells #[.string (bstr (hkind t)), .slice (some ⟨w5.heap.size, 0, none⟩) D.length D.length, .slice (some ⟨w7.heap.size, 0, none⟩) X.length X.length, .slice none 0 0, .slice none 0 0, .string ⟨#[]⟩] 36))
          have hI9 := hI8.alloc (.cells #[.string (bstr (hkind t)), .slice (some ⟨w5.heap.size, 0, none⟩) D.length D.length, .slice (some ⟨w7.heap.size, 0, none⟩) X.length X.length, .slice none 0 0, .slice none 0 0, .string ⟨#[]⟩] 36)
          go_wp2_with fail
          refine (HKey_calls hI9).mono ?_
          rintro e w9 ⟨⟨Ak, nk, ck, rfl, hSk⟩, rfl⟩
          obtain ⟨rfl, hX9⟩ := sv_form hI9.inp hSk A5
          clear hSk
          go_wp2_with fail
          refine (implCopy_calls hX9).mono ?_
          rintro e w10 ⟨rfl, h10, hb10⟩
          have hI10 := hI9.below hb10
          have hg0 : w.heap.size ≤ w8.heap.size := hB8s
          have hm10 : w10.heap[w8.heap.size]? = some (.cells #[.string (bstr (hkind t)), .slice (some ⟨w5.heap.size, 0, none⟩) D.length D.length, .slice (some ⟨w7.heap.size, 0, none⟩) X.length X.length, .slice none 0 0, .slice none 0 0, .string ⟨#[]⟩] 36 (0, 0)) := (hb10.block _ (by simp)).trans (heap_new _ _)
          have hs10 := hb10.size
          have hX10 := Seg.new (lo := w.heap.size) h10 hX9.len
          rw [World.size_alloc] at hX10 hs10
          have HX10 := Hd.mk hX10
          have HM10 := Hd.mk hm10
          have HB10 := Hd.mk (HB9.out.trans (hb10.mono HB9.out.size))
          have HG10 := Hd.mk ((hH8.out.below ((Below.refl _ _).alloc (Nat.le_refl _) _)).below hb10)
          have HP10 := Hd.mk ((hP8.alloc (.cells #[.string (bstr (hkind t)), .slice (some ⟨w5.heap.size, 0, none⟩) D.length D.length, .slice (some ⟨w7.heap.size, 0, none⟩) X.length X.length, .slice none 0 0, .slice none 0 0, .string ⟨#[]⟩] 36)).below hb10)
          have HOWN := Hd.mk (fun k (hk : u5.ownBlock = some k) => (hP8.own.lt k hk).2)
          clear hX10 hm10 hb10 h10 hI9 hI8 hP8 hB8 HB9 hX9 hX7
          rw [World.size_alloc]
          go_wp2_with fail
          refine (HVal_calls hI10).mono ?_
          rintro e w99 ⟨⟨Aa, na, ca, rfl, hSv⟩, rfl⟩
          obtain ⟨rfl, hV9⟩ := sv_form hI10.inp hSv A6
          clear hSv
          go_wp2_with fail
          refine (implCopy_calls hV9).mono ?_
          rintro e w11 ⟨rfl, h11, hb11⟩
          have hm : w11.heap[w8.heap.size]? = some (.cells #[.string (bstr (hkind t)), .slice (some ⟨w5.heap.size, 0, none⟩) D.length D.length, .slice (some ⟨w7.heap.size, 0, none⟩) X.length X.length, .slice none 0 0, .slice none 0 0, .string ⟨#[]⟩] 36 (0, 0)) := (hb11.block _ (by omega)).trans HM10.out
          have hn5 : ∀ cs f, w11.heap[w8.heap.size]? ≠ some (.cells cs 5 f) := fun cs f e => by rw [hm] at e; simp at e
          have hI11 := hI10.below hb11
          have hG11 := HG10.out.below hb11
          have hX11 := HX10.out.below hb11
          have hV11 := Seg.new (lo := w.heap.size) h11 hV9.len
          have hP11 := HP10.out.below hb11
          have hB11 := HB10.out.trans (hb11.mono HB10.out.size)
          have hs11 := hb11.size
          have hown : ∀ k, u5.ownBlock = some k → w8.heap.size ≠ k := fun k hk e => by have := HOWN.out k hk; omega
          have hm2 := heap_set_same (i := 2) (.slice (some ⟨w8.heap.size + 1, 0, none⟩) X.length X.length) hm
          have hn52 : ∀ cs f, (w11.setCell ⟨w8.heap.size, 2, none⟩ (.slice (some ⟨w8.heap.size + 1, 0, none⟩) X.length X.length)).heap[w8.heap.size]? ≠ some (.cells cs 5 f) := fun cs f e => by rw [hm2] at e; simp at e
          have hW := And.intro ((hI11.setOther (g := w8.heap.size) (i := 2) (by omega) (by omega) (by omega) (by omega) (by omega) (.slice (some ⟨w8.heap.size + 1, 0, none⟩) X.length X.length)).setOther (g := w8.heap.size) (i := 4) (by omega) (by omega) (by omega) (by omega) (by omega) (.slice (some ⟨w10.heap.size, 0, none⟩) V.length V.length))
            (And.intro ((hP11.setOther (i := 2) hg0 hn5 hown (.slice (some ⟨w8.heap.size + 1, 0, none⟩) X.length X.length)).setOther (i := 4) hg0 hn52 hown (.slice (some ⟨w10.heap.size, 0, none⟩) V.length V.length))
            (And.intro ((hB11.setCell (p := ⟨w8.heap.size, 2, none⟩) hg0 (.slice (some ⟨w8.heap.size + 1, 0, none⟩) X.length X.length)).setCell (p := ⟨w8.heap.size, 4, none⟩) hg0 (.slice (some ⟨w10.heap.size, 0, none⟩) V.length V.length))
            (And.intro ((hG11.setOther (i := 2) hg0 hn5 (.slice (some ⟨w8.heap.size + 1, 0, none⟩) X.length X.length)).setOther (i := 4) hg0 hn52 (.slice (some ⟨w10.heap.size, 0, none⟩) V.length V.length))
            (And.intro ((hX11.setOther (i := 2) hg0 hn5 (.slice (some ⟨w8.heap.size + 1, 0, none⟩) X.length X.length)).setOther (i := 4) hg0 hn52 (.slice (some ⟨w10.heap.size, 0, none⟩) V.length V.length))
            ((hV11.setOther (i := 2) hg0 hn5 (.slice (some ⟨w8.heap.size + 1, 0, none⟩) X.length X.length)).setOther (i := 4) hg0 hn52 (.slice (some ⟨w10.heap.size, 0, none⟩) V.length V.length))))))
          have hq := heap_set_same (i := 4) (.slice (some ⟨w10.heap.size, 0, none⟩) V.length V.length) hm2
          have hf2 := frozen_of_block hm 2
          have hc2 := (cell_of_block hm 2).trans rfl
          have hf4 := frozen_of_block hm2 4
          have hc4 := (cell_of_block hm2 4).trans rfl
          have hsW : ((w11.setCell ⟨w8.heap.size, 2, none⟩ (.slice (some ⟨w8.heap.size + 1, 0, none⟩) X.length X.length)).setCell ⟨w8.heap.size, 4, none⟩ (.slice (some ⟨w10.heap.size, 0, none⟩) V.length V.length)).heap.size = w11.heap.size := by simp
          have q0 : ((w11.setCell ⟨w8.heap.size, 2, none⟩ (.slice (some ⟨w8.heap.size + 1, 0, none⟩) X.length X.length)).setCell ⟨w8.heap.size, 4, none⟩ (.slice (some ⟨w10.heap.size, 0, none⟩) V.length V.length)).cell? ⟨w8.heap.size, 0, none⟩ = some (.string (bstr (hkind t))) := (cell_of_block hq 0).trans rfl
          have q1 : ((w11.setCell ⟨w8.heap.size, 2, none⟩ (.slice (some ⟨w8.heap.size + 1, 0, none⟩) X.length X.length)).setCell ⟨w8.heap.size, 4, none⟩ (.slice (some ⟨w10.heap.size, 0, none⟩) V.length V.length)).cell? ⟨w8.heap.size, 1, none⟩ = some (.slice (some ⟨w5.heap.size, 0, none⟩) D.length D.length) := (cell_of_block hq 1).trans rfl
          have q2 : ((w11.setCell ⟨w8.heap.size, 2, none⟩ (.slice (some ⟨w8.heap.size + 1, 0, none⟩) X.length X.length)).setCell ⟨w8.heap.size, 4, none⟩ (.slice (some ⟨w10.heap.size, 0, none⟩) V.length V.length)).cell? ⟨w8.heap.size, 2, none⟩ = some (.slice (some ⟨w8.heap.size + 1, 0, none⟩) X.length X.length) := (cell_of_block hq 2).trans rfl
          have q3 : ((w11.setCell ⟨w8.heap.size, 2, none⟩ (.slice (some ⟨w8.heap.size + 1, 0, none⟩) X.length X.length)).setCell ⟨w8.heap.size, 4, none⟩ (.slice (some ⟨w10.heap.size, 0, none⟩) V.length V.length)).cell? ⟨w8.heap.size, 3, none⟩ = some (.slice none 0 0) := (cell_of_block hq 3).trans rfl
          have q4 : ((w11.setCell ⟨w8.heap.size, 2, none⟩ (.slice (some ⟨w8.heap.size + 1, 0, none⟩) X.length X.length)).setCell ⟨w8.heap.size, 4, none⟩ (.slice (some ⟨w10.heap.size, 0, none⟩) V.length V.length)).cell? ⟨w8.heap.size, 4, none⟩ = some (.slice (some ⟨w10.heap.size, 0, none⟩) V.length V.length) := (cell_of_block hq 4).trans rfl
          have q5 : ((w11.setCell ⟨w8.heap.size, 2, none⟩ (.slice (some ⟨w8.heap.size + 1, 0, none⟩) X.length X.length)).setCell ⟨w8.heap.size, 4, none⟩ (.slice (some ⟨w10.heap.size, 0, none⟩) V.length V.length)).cell? ⟨w8.heap.size, 5, none⟩ = some (.string ⟨#[]⟩) := (cell_of_block hq 5).trans rfl
          have HQ := Hd.mk (And.intro hq (And.intro hsW (And.intro hs11 (And.intro hg0 hs10))))
          have HW := Hd.mk hW
          clear hW hq hsW hs11 hs10 hg0 hm hm2 hn5 hn52 hG11 hX11 hV11 hP11 hI11 hB11 hown hI10 h11 hb11 hV9 HB10 HG10 HX10 HP10 HM10 HOWN
          go_upto_region 9 with fail
          have HZ : Hd (W3.heap.size ≤ ((w11.setCell ⟨w8.heap.size, 2, none⟩ (.slice (some ⟨w8.heap.size + 1, 0, none⟩) X.length X.length)).setCell ⟨w8.heap.size, 4, none⟩ (.slice (some ⟨w10.heap.size, 0, none⟩) V.length V.length)).heap.size) := ⟨by have := HQ.out.2.1; have := HQ.out.2.2.1; have := HQ.out.2.2.2.2; omega⟩
          clear HQ hf2 hc2 hf4 hc4
          generalize ((w11.setCell ⟨w8.heap.size, 2, none⟩ (.slice (some ⟨w8.heap.size + 1, 0, none⟩) X.length X.length)).setCell ⟨w8.heap.size, 4, none⟩ (.slice (some ⟨w10.heap.size, 0, none⟩) V.length V.length)) = W11 at q0 q1 q2 q3 q4 q5 HZ HW ⊢
          have HP11 := Hd.mk HW.out.2.1
          have hB11s : w.heap.size ≤ W11.heap.size := HW.out.2.2.1.size
          have hZ11 := HZ.out
          go_wp2_with (at_builtin; refine wpList_append_own _ rfl _ _ 26 rfl W3.heap.size 36 i0 (.agg #[.string ⟨#[]⟩, .slice none 0 0, .slice none 0 0, .slice none 0 0, .slice none 0 0, .string ⟨#[]⟩]) 6 128 Tryz.underlying26s hi hz0 hz1 hz2 rfl (by decide) _ _ _ rfl (HP11.out.own.alloc _) ⟨W11.heap.size, 0, none⟩ 1 1 (Pc.cells ⟨hkind t, some ⟨w5.heap.size, 0, none⟩, D, D.length, some ⟨w8.heap.size + 1, 0, none⟩, X, X.length, some ⟨w10.heap.size, 0, none⟩, V, V.length⟩) rfl rfl ?c1 ?c2 ?c3 ?c4 ?c5 ?_)
          case c1 => intro j u hu; exact six_new rfl hu
          case c2 => exact pc_oneH _
          case c3 => unfold maxLen; omega
          case c4 => omega
          case c5 => simp; omega
          intro v' w12 hown1 hgrow _
          obtain ⟨hI11, _, hB11, hG11, hX11, hV11⟩ := HW.out
          have hI12 := (hI11.alloc _).grown hgrow W3.heap.size (fun k hk => (HP11.out.own.lt k hk).1) hlw hzw hbw (by omega)
          have hP12 := (HP11.out.alloc _).add ⟨hkind t, some ⟨w5.heap.size, 0, none⟩, D, D.length, some ⟨w8.heap.size + 1, 0, none⟩, X, X.length, some ⟨w10.heap.size, 0, none⟩, V, V.length⟩ ⟨hG11.below ((Below.refl _ _).alloc (Nat.le_refl _) _), hX11.below ((Below.refl _ _).alloc (Nat.le_refl _) _), hV11.below ((Below.refl _ _).alloc (Nat.le_refl _) _)⟩ hown1 hgrow
          have hB12 := Below.grown (hB11.alloc hB11s _) hgrow (by simp; omega) fun g hg => by have := (HP11.out.own.lt g hg).1; omega
          have hS12 := hgrow.size
          have HV2 : Hd (HInv w w12 l z b W3.heap.size K N gk (i + 1) (T ++ [0]) EA p' s' rt' tg' tl' th' al' ah' (L' ++ [(hkind t, D, X, V)]) L1 (P ++ [⟨hkind t, some ⟨w5.heap.size, 0, none⟩, D, D.length, some ⟨w8.heap.size + 1, 0, none⟩, X, X.length, some ⟨w10.heap.size, 0, none⟩, V, V.length⟩]) pe v') :=
            ⟨⟨by have := HS.out.1; omega, HC6.out, hI12, hP12, by rw [List.map_append, HT.out]; rfl, hB12, by simp at hS12; omega, by rw [List.length_append, HS.out.2]; rfl⟩⟩
          clear hI12 hP12 hB12 hS12 hown1 hgrow hi hz0 hz1 hz2 hI11 hB11 hG11 hX11 hV11
          go_wp2
          go_roundg gk
          case measure => exact Nat.lt_succ_self _
          case rel => exact ⟨i + 1, p', s', rt', tg', tl', th', al', ah', _, _, by go_num, HV2⟩
        · replace HC5 := HC5.neg e10
          replace e10 := Bool.eq_false_iff.mpr e10
          have hB8s := hB8.size
          have HP8 := Hd.mk hP8
          have HI8 := Hd.mk hI8
          have HB8 := Hd.mk hB8
          clear hP8 hI8 hB8
          go_wp2_with (at_builtin; refine wpList_append_own _ rfl _ _ 26 rfl W3.heap.size 36 i0 (.agg #[.string ⟨#[]⟩, .slice none 0 0, .slice none 0 0, .slice none 0 0, .slice none 0 0, .string ⟨#[]⟩]) 6 128 Tryz.underlying26s hi hz0 hz1 hz2 rfl (by decide) _ _ _ rfl ((HP8.out.own.alloc _).alloc _) ⟨w8.heap.size + 1, 0, none⟩ 1 1 (Pc.cells ⟨hkind t, some ⟨w5.heap.size, 0, none⟩, D, D.length, some ⟨w7.heap.size, 0, none⟩, X, X.length, none, [], 0⟩) rfl rfl ?c1 ?c2 ?c3 ?c4 ?c5 ?_)
          case c1 => intro j u hu; exact six_new (by simp) hu
          case c2 => exact pc_oneH _
          case c3 => unfold maxLen; omega
          case c4 => omega
          case c5 => simp; omega
          intro v' w11 hown1 hgrow _
          have hI11 := ((HI8.out.alloc _).alloc _).grown hgrow W3.heap.size (fun k hk => (HP8.out.own.lt k hk).1) hlw hzw hbw (by omega)
          have hP11 := ((HP8.out.alloc _).alloc _).add ⟨hkind t, some ⟨w5.heap.size, 0, none⟩, D, D.length, some ⟨w7.heap.size, 0, none⟩, X, X.length, none, [], 0⟩ ⟨(hH8.out.below ((Below.refl _ _).alloc (Nat.le_refl _) _)).below ((Below.refl _ _).alloc (Nat.le_refl _) _), (hG8.out.below ((Below.refl _ _).alloc (Nat.le_refl _) _)).below ((Below.refl _ _).alloc (Nat.le_refl _) _), Seg.nil _ _⟩ hown1 hgrow
          have hB11 := Below.grown ((HB8.out.alloc hB8s _).alloc (by simp; omega) _) hgrow (by simp; omega) fun g hg => by have := (HP8.out.own.lt g hg).1; omega
          have hS11 := hgrow.size
          have HV2 : Hd (HInv w w11 l z b W3.heap.size K N gk (i + 1) (T ++ [0]) EA p' s' rt' tg' tl' th' al' ah' (L' ++ [(hkind t, D, X, [])]) L1 (P ++ [⟨hkind t, some ⟨w5.heap.size, 0, none⟩, D, D.length, some ⟨w7.heap.size, 0, none⟩, X, X.length, none, [], 0⟩]) pe v') :=
            ⟨⟨by have := HS.out.1; omega, HC5.out, hI11, hP11, by rw [List.map_append, HT.out]; rfl, hB11, by simp at hS11; omega, by rw [List.length_append, HS.out.2]; rfl⟩⟩
          clear hI11 hP11 hB11 hS11 hown1 hgrow hi hz0 hz1 hz2
          go_wp2
          go_roundg gk
          case measure => exact Nat.lt_succ_self _
          case rel => exact ⟨i + 1, p', s', rt', tg', tl', th', al', ah', _, _, by go_num, HV2⟩
end Go.Proofs.YtfcedenofbefcaaGreatDoor
