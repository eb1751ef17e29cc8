/- The quotation mark, the test of a value, HTMLValue, the law of a value in a tag, and FnHTMLValueRead, walked. -/
import Derived.Test.YtfcedenofbefcaaGreatDoorJ1
import Derived.Test.YtfcedenofbefcaaGreatDoorQ1
import Derived.Test.YtfcedenofbefcaaGreatDoorHD
import Derived.Test.YtfcedenofbefcaaGreatDoorJ2
import Derived.Test.YtfcedenofbefcaaGreatDoorV3
namespace Go.Proofs.YtfcedenofbefcaaGreatDoor
open Go.RowKit
set_option linter.unusedVariables false
set_option linter.unusedSimpArgs false
/-! What HTMLValueRead reaches before the escape. -/
set_option maxHeartbeats 4000000 in
theorem quote9_calls {w : World} (b : Bool) : Calls Tryz.prog 18 #[.bool b] w fun e w' => (∃ q : Int, e = .returned (.int .u8 q) ∧ (q = 34 ∨ q = 39)) ∧ w = w' := by
  cases b
  · go_enter Tryz.func18, Tryz.ntmps18
    go_wp2_with fail
    go_ret
    exact ⟨⟨34, rfl, .inl rfl⟩, rfl⟩
  · go_enter Tryz.func18, Tryz.ntmps18
    go_wp2_with fail
    go_ret
    exact ⟨⟨39, rfl, .inr rfl⟩, rfl⟩
set_option maxHeartbeats 4000000 in
theorem isValue9_calls {w : World} {A : Option Addr} {cp : Nat} {T : List Int} (h : Bytes w A T) :
    Calls Tryz.prog 16 #[.slice A T.length cp] w fun e w' => (∃ b, e = .returned (.bool b) ∧ (b = true → 0 < T.length ∧ T.length ≤ 500 ∧ ∀ c ∈ T, c ≠ 0)) ∧ w = w' := by
  have HH := Hd.mk h
  have hlen := h.len
  clear h
  go_enter Tryz.func16, Tryz.ntmps16
  by_cases h0 : (0 : Int) < (T.length : Int)
  · have d0 : decide ((0 : Int) < (T.length : Int)) = true := decide_eq_true h0
    have H0 := Hd.mk h0
    have d6 : 0 < T.length := by omega
    by_cases h4 : (T.length : Int) ≤ 500
    · have d4 : decide ((T.length : Int) ≤ 500) = true := decide_eq_true h4
      have H4 := Hd.mk h4
      clear h0 h4
      go_wp2_with fail
      refine (Has_calls HH.out 0).mono ?_
      rintro e w' ⟨rfl, rfl⟩
      have HN2 := Hd.mk (hasB_no (T := T) (c := 0))
      generalize hasB T 0 = r2 at HN2 ⊢
      cases r2 with
      | true =>
        go_wp2_with fail
        go_ret
        exact ⟨⟨_, rfl, fun h => by cases h⟩, rfl⟩
      | false =>
        replace HN2 := Hd.mk (HN2.out rfl)
        go_wp2_with fail
        refine (Has_calls HH.out 38).mono ?_
        rintro e w' ⟨rfl, rfl⟩
        generalize hasB T 38 = r3
        cases r3 with
        | true =>
          go_wp2_with fail
          go_ret
          exact ⟨⟨_, rfl, fun h => by cases h⟩, rfl⟩
        | false =>
          go_wp2_with fail
          go_ret
          exact ⟨⟨_, rfl, fun _ => ⟨by have := H0.out; omega, by have := H4.out; omega, HN2.out⟩⟩, rfl⟩
    · have d4 : decide ((T.length : Int) ≤ 500) = false := decide_eq_false h4
      clear h0 h4
      go_wp2_with fail
      go_ret
      exact ⟨⟨_, rfl, fun h => by cases h⟩, rfl⟩
  · have d0 : decide ((0 : Int) < (T.length : Int)) = false := decide_eq_false h0
    have d6 : ¬ 0 < T.length := by omega
    clear h0
    go_wp2_with fail
    go_ret
    exact ⟨⟨_, rfl, fun h => by cases h⟩, rfl⟩
end Go.Proofs.YtfcedenofbefcaaGreatDoor
namespace Go.Proofs.YtfcedenofbefcaaGreatDoor
open Go.RowKit
set_option linter.unusedVariables false
set_option linter.unusedSimpArgs false
/-! The plain law: how an escaped value is read back. -/
def valDoc (V : List Int) : List Int := 60 :: 97 :: 32 :: 120 :: 61 :: (V ++ [62])
def valTold (V : List Int) : List GTok := [(hkind 3, [60, 97], [97], []), (hkind 7, 32 :: 120 :: 61 :: V, [120], V), (hkind 4, [62], [], [])]
theorem goodV_of {V R : List Int} (h : GoodVal V) : GoodV V (62 :: R) := by
  rcases h.2 with h | ⟨h0, h⟩
  · exact .inl h
  · refine .inr ⟨h0, ?_, ?_, fun c hc => ?_, 62, R, rfl, .inl rfl⟩
    · have hm : V.getD 0 0 ∈ V := by rw [List.getD_eq_getElem?_getD, List.getElem?_eq_getElem h0]; exact List.getElem_mem _
      intro e
      have := (h _ hm).1
      rw [e] at this
      exact absurd this (by decide)
    · have hm : V.getD 0 0 ∈ V := by rw [List.getD_eq_getElem?_getD, List.getElem?_eq_getElem h0]; exact List.getElem_mem _
      intro e
      have := (h _ hm).1
      rw [e] at this
      exact absurd this (by decide)
    · have hc1 := (h c hc).1
      refine ⟨?_, ?_, ?_, ?_, ?_, ?_, (h c hc).2⟩ <;> (rintro rfl; exact absurd hc1 (by decide))
theorem value_law {V : List Int} (h : GoodVal V) (N : Nat) (hN : N = 100000) : htmlF N ((valDoc V).length + 2) (valDoc V) = some (valTold V, true) := by
  have hl := h.1
  have hB : Sm (valDoc V ++ [0]) := by unfold Sm valDoc; simp; omega
  have hat : At (valDoc V ++ [0]) 0 (60 :: ([97] ++ 32 :: (120 :: 61 :: (V ++ [62] ++ [0])))) := List.prefix_refl _
  have h2 := hat.tail.right
  have hlen : (valDoc V ++ [0]).length = V.length + 7 := by unfold valDoc; simp
  have hK : (valDoc V ++ [0]).length < (valDoc V).length + 2 := by simp
  generalize (valDoc V).length + 2 = K at hK ⊢
  have s1 := h_start hB K 0 (T := [97]) 0 0 0 0 (by intro c hc; obtain rfl := List.mem_singleton.mp hc; unfold NC; omega) (by decide) (by decide) (toHash_none (by decide)) hat (.inr (.inl (by unfold BL; omega))) (by rw [hlen] at hK; simp; omega)
  have h2' : At (valDoc V ++ [0]) 2 ([32] ++ (attrV [120] [] [] V ++ 62 :: [0])) := by
    have e : [32] ++ (attrV [120] [] [] V ++ 62 :: [0]) = 32 :: (120 :: 61 :: (V ++ [62] ++ [0])) := by simp [attrV]
    rw [e]; exact h2
  have s2 := h_attrV hB K 2 0 (before := [32]) (name := [120]) (ahead := []) (behind := []) (v := V) (R := 62 :: [0]) (1 : Nat) ((2 : Nat) : Int) 0 0 (by intro c hc; obtain rfl := List.mem_singleton.mp hc; unfold BL; omega) (by intro c hc; obtain rfl := List.mem_singleton.mp hc; unfold NC; omega) (by decide) (by intro c hc; cases hc) (by intro c hc; cases hc) (goodV_of h) h2' hK
  have h3 := h2'.right.right
  have hal : (attrV [120] [] [] V).length = V.length + 2 := by simp [attrV]
  rw [hal] at s2
  have h3' : At (valDoc V ++ [0]) (V.length + 5) ([] ++ 62 :: [0]) := by
    have e : 2 + ([32] : List Int).length + (attrV [120] [] [] V).length = V.length + 5 := by rw [hal]; simp; omega
    rw [e] at h3; exact h3
  have s3 := h_close hB K (V.length + 5) 0 (S := []) (R := [0]) ((3 : Nat) : Int) ((4 : Nat) : Int) ((5 : Nat) : Int) ((V.length + 5 : Nat) : Int) (by intro c hc; cases hc) h3' (by simp only [List.length_nil]; omega)
  have h4 : At (valDoc V ++ [0]) (V.length + 6) [0] := h3'.tail
  have s4 := (h_last hB K (V.length + 6) 0 0 0 0 h4 (by rw [hlen])).1
  have he := hat_end hB (n := V.length + 6) (by rw [hlen])
  have e5 : 2 + ([32] : List Int).length + (V.length + 2) = V.length + 5 := by simp; omega
  rw [e5] at s2
  have s1' : hNext.f K (valDoc V ++ [0]) 0 0 0 false 0 0 0 0 = some (3, 0, ((2 : Nat) : Int), ((2 : Nat) : Int), ((2 : Nat) : Int), 0, true, ((1 : Nat) : Int), ((2 : Nat) : Int), 0, 0) := s1
  have s2' : hNext.f K (valDoc V ++ [0]) ((2 : Nat) : Int) ((2 : Nat) : Int) 0 true ((1 : Nat) : Int) ((2 : Nat) : Int) 0 0 = some (7, ((2 : Nat) : Int), ((V.length + 5 : Nat) : Int), ((V.length + 5 : Nat) : Int), ((V.length + 5 : Nat) : Int), 0, true, ((3 : Nat) : Int), ((4 : Nat) : Int), ((5 : Nat) : Int), ((V.length + 5 : Nat) : Int)) := s2
  have s3' : hNext.f K (valDoc V ++ [0]) ((V.length + 5 : Nat) : Int) ((V.length + 5 : Nat) : Int) 0 true ((3 : Nat) : Int) ((4 : Nat) : Int) ((5 : Nat) : Int) ((V.length + 5 : Nat) : Int) = some (4, ((V.length + 5 : Nat) : Int), ((V.length + 6 : Nat) : Int), ((V.length + 6 : Nat) : Int), ((V.length + 6 : Nat) : Int), 0, false, 0, 0, 0, 0) := s3
  have a2 : At (valDoc V ++ [0]) 2 ((32 :: 120 :: 61 :: V) ++ ([62] ++ [0])) := by
    have e : (32 :: 120 :: 61 :: V) ++ ([62] ++ [0]) = 32 :: (120 :: 61 :: (V ++ [62] ++ [0])) := by simp
    rw [e]; exact h2
  have a1 : At (valDoc V ++ [0]) 0 ([60, 97] ++ (32 :: (120 :: 61 :: (V ++ [62] ++ [0])))) := hat
  have hD1 : subB (valDoc V ++ [0]) 0 ((2 : Nat) : Int) = some [60, 97] := hsub_at 0 a1.left (Nat.zero_le _) rfl rfl
  have hT1 : subB (valDoc V ++ [0]) ((1 : Nat) : Int) ((2 : Nat) : Int) = some [97] := hsub_at 1 hat.tail.left (by omega) rfl rfl
  have hD2 : subB (valDoc V ++ [0]) ((2 : Nat) : Int) ((V.length + 5 : Nat) : Int) = some (32 :: 120 :: 61 :: V) := hsub_at 2 a2.left (by omega) rfl (by simp; omega)
  have a3 : At (valDoc V ++ [0]) 3 ([120] ++ (61 :: (V ++ ([62] ++ [0])))) := a2.tail
  have hT2 : subB (valDoc V ++ [0]) ((3 : Nat) : Int) ((4 : Nat) : Int) = some [120] := hsub_at 3 a3.left (by omega) rfl rfl
  have a5 : At (valDoc V ++ [0]) 5 (V ++ ([62] ++ [0])) := a2.tail.tail.tail
  have hV2 : subB (valDoc V ++ [0]) ((5 : Nat) : Int) ((V.length + 5 : Nat) : Int) = some V := hsub_at 5 a5.left (by omega) rfl (by rw [Nat.add_comm])
  have a6 : At (valDoc V ++ [0]) (V.length + 5) ([62] ++ [0]) := h3'
  have hD3 : subB (valDoc V ++ [0]) ((V.length + 5 : Nat) : Int) ((V.length + 6 : Nat) : Int) = some [62] := hsub_at (V.length + 5) a6.left (by omega) rfl rfl
  obtain ⟨k, hk⟩ : ∃ k, N = k + 4 := ⟨99996, by omega⟩
  have e1 := hmll_step (k := k + 3) (L := []) s1' (by decide) (by decide) hD1 hT1
  have e2 := hmll_stepA (k := k + 2) (L := [] ++ [(hkind 3, [60, 97], [97], [])]) s2' hD2 hT2 hV2
  have e3 := hmll_step (k := k + 1) (L := [] ++ [(hkind 3, [60, 97], [97], [])] ++ [(hkind 7, 32 :: 120 :: 61 :: V, [120], V)]) s3' (by decide) (by decide) hD3 (hsub_nil _)
  have e4 : hmll K (valDoc V ++ [0]) (k + 1) ((V.length + 6 : Nat) : Int) ((V.length + 6 : Nat) : Int) 0 false 0 0 0 0 (valTold V) = some (valTold V, ((V.length + 6 : Nat) : Int)) := by
    rw [hmll, s4, ob]
    rfl
  unfold htmlF
  rw [hk, show hmll K (valDoc V ++ [0]) (k + 4) 0 0 0 false 0 0 0 0 [] = some (valTold V, ((V.length + 6 : Nat) : Int)) from e1.trans (e2.trans (e3.trans e4)), ob]
  dsimp only
  rw [he]
end Go.Proofs.YtfcedenofbefcaaGreatDoor
namespace Go.Proofs.YtfcedenofbefcaaGreatDoor
open Go.RowKit
set_option linter.unusedVariables false
set_option linter.unusedSimpArgs false

set_option maxHeartbeats 4000000 in
set_option maxRecDepth 100000 in
theorem HTMLValue_calls {w : World} {A : Option Addr} {cp : Nat} {T : List Int} {q : Int} {must : Bool} (h : Bytes w A T) (h0 : 0 < T.length) (h5 : T.length ≤ 500) (hU : ∀ c ∈ T, 0 ≤ c ∧ c < 256) (hz : ∀ c ∈ T, c ≠ 0) (hC : CTab w) (h1 : 1 < w.heap.size) (hq : q = 34 ∨ q = 39) :
    Calls Tryz.prog 17 #[.slice A T.length cp, .int .u8 q, .bool must] w (EscPost w.heap.size w) := by
  have HH := Hd.mk h
  have HU := Hd.mk hU
  have HZ := Hd.mk hz
  have HC := Hd.mk hC
  clear h hU hz hC
  go_enter Tryz.func17, Tryz.ntmps17
  go_wp2_with fail
  refine (implCopy_calls ((HH.out.alloc _).alloc _)).mono ?_
  rintro e w1 ⟨rfl, k1, k2⟩
  have hs1 : w.heap.size + 1 < w1.heap.size := by have := k2.size; simp only [World.size_alloc] at this; omega
  have hgp : w1.heap[w.heap.size + 1]? = some (.cells #[.slice (some ⟨w.heap.size, 0, none⟩) 0 0] 25 (0, 0)) := by
    refine (k2.block _ (by simp only [World.size_alloc]; omega)).trans ?_
    have := heap_new (w.alloc (Obj.cells #[] 5)) (.cells #[.slice (some ⟨w.heap.size, 0, none⟩) 0 0] 25 (0, 0))
    rwa [World.size_alloc] at this
  have hk : Below w.heap.size w w1 := (((Below.refl w.heap.size w).alloc (Nat.le_refl _) (.cells #[] 5)).alloc (by simp) (.cells #[.slice (some ⟨w.heap.size, 0, none⟩) 0 0] 25)).trans (k2.mono (by simp only [World.size_alloc]; omega))
  simp only [World.size_alloc] at k1
  have hE := Hd.mk (Escape_calls (q := q) (must := must) hgp k1 h0 h5 HU.out HZ.out (HC.out.below h1 hk) hq (Nat.le_succ _) (Nat.le_of_succ_le (Nat.le_of_lt hs1)))
  have HK := Hd.mk hk
  clear k1 k2 hs1 hgp hk
  go_wp2_with fail
  refine hE.out.mono ?_
  rintro e w2 ⟨⟨A2, V, c2, rfl, r1, r2, r3⟩, r4⟩
  have R1 := Hd.mk r1
  have R2 := Hd.mk r2
  have R3 := Hd.mk r3
  have R4 := Hd.mk r4
  clear r1 r2 r3 r4
  go_wp2_with fail
  go_ret
  exact ⟨⟨A2, V, c2, rfl, R1.out, R2.out, R3.out⟩, HK.out.trans R4.out⟩
end Go.Proofs.YtfcedenofbefcaaGreatDoor
namespace Go.Proofs.YtfcedenofbefcaaGreatDoor
open Go.RowKit
set_option linter.unusedVariables false
set_option linter.unusedSimpArgs false
theorem slc_new (w : World) (l : List Int) (f : Nat × Nat) (hl : l.length ≤ 140737488355328 := by decide) : Slc (w.alloc (.cells (l.map (Value.int .u8)).toArray 5 f)) (some ⟨w.heap.size, 0, none⟩) l l.length := ⟨lit_bytes l hl, Nat.le_refl _, fun e => by cases e⟩
theorem joined_2 {W : World} {g : Nat} {S : List Int} {A1 A2 : Option Addr} {T1 T2 : List Int} {n1 n2 c1 c2 : Nat} (hg : W.heap.size = g) (e1 : T1.length = n1) (e2 : T2.length = n2) (h1 : Slc W A1 T1 c1) (h2 : Slc W A2 T2 c2) (hS : T1 ++ T2 = S) (hlen : S.length ≤ 1000000) :
    Calls Tryz.prog 15 #[.slice (some ⟨g, 0, none⟩) 2 2] (W.alloc (.cells #[.slice A1 n1 c1, .slice A2 n2 c2] 25)) (JoinPost S (W.alloc (.cells #[.slice A1 n1 c1, .slice A2 n2 c2] 25))) := by
  subst hg e1 e2 hS
  have key := joined9_calls (w := W.alloc (.cells #[.slice A1 T1.length c1, .slice A2 T2.length c2] 25)) (PL := [(A1, T1, c1), (A2, T2, c2)]) (heap_new _ _) (by simp) (fun p hp => by
    simp only [List.mem_cons, List.mem_nil_iff, or_false] at hp
    rcases hp with rfl | rfl
    · exact h1.alloc _
    · exact h2.alloc _) (by simpa using hlen)
  simpa using key
theorem valDoc_len (V : List Int) : (valDoc V).length = V.length + 6 := by unfold valDoc; simp
set_option maxHeartbeats 8000000 in
set_option maxRecDepth 100000 in
theorem FnHTMLValueRead_calls {w : World} {A : Option Addr} {T : List Int} {cp : Nat} {EA : Addr} (x y : Bool) (h0 : w.cell? ⟨0, 0, none⟩ = some (.iface 179 (.pointer (some EA)))) (ht : HTab w) (hC : CTab w) (h1 : 1 < w.heap.size) (h : Slc w A T cp) (hU : ∀ c ∈ T, 0 ≤ c ∧ c < 256) :
    Calls Tryz.prog 6 #[.slice A T.length cp, .bool x, .bool y] w fun e w' => e = .returned (.bool true) ∧ Below w.heap.size w w' := by
  obtain ⟨N, hN⟩ : ∃ N, N = 100000 := ⟨_, rfl⟩
  have HN := Hd.mk hN
  have HA := Hd.mk h
  have H0 := Hd.mk h0
  have HTb := Hd.mk ht
  have HC := Hd.mk hC
  have HU := Hd.mk hU
  have H1 := Hd.mk h1
  have hb0 := World.block_lt_of_cell? _ _ h0
  clear h h0 hN ht hC hU h1
  go_enter Tryz.func6, Tryz.ntmps6
  by_cases hl : (2147483647 : Int) < (T.length : Int)
  · have dl : decide ((2147483647 : Int) < (T.length : Int)) = true := decide_eq_true hl
    clear hl
    go_wp2_with fail
    go_ret
    exact ⟨rfl, Below.refl _ _⟩
  have dl : decide ((2147483647 : Int) < (T.length : Int)) = false := decide_eq_false hl
  clear hl
  go_wp2_with fail
  refine (isValue9_calls HA.out.b).mono ?_
  rintro e w' ⟨⟨b, rfl, hR⟩, rfl⟩
  cases b with
  | false =>
    clear hR
    go_wp2
    go_ret
    exact ⟨rfl, Below.refl _ _⟩
  | true =>
    have HR := Hd.mk (hR rfl)
    clear hR
    go_wp2_with fail
    refine (quote9_calls x).mono ?_
    rintro e w' ⟨⟨q, rfl, hq⟩, rfl⟩
    have HQ := Hd.mk hq
    clear hq
    go_wp2_with fail
    refine (HTMLValue_calls (must := y) HA.out.b HR.out.1 HR.out.2.1 HU.out HR.out.2.2 HC.out H1.out HQ.out).mono ?_
    rintro e w1 ⟨⟨A1, V, c1, rfl, hV1, hV2, hV3⟩, hB1⟩
    have HV1 := Hd.mk hV1
    have HV2 := Hd.mk hV2
    have HV3 := Hd.mk hV3
    have HB1 := Hd.mk hB1
    clear hV1 hV2 hV3 hB1
    have hcv := conv25g
    go_wp2_with fail
    have HX := Hd.mk (value_law HV3.out N HN.out)
    generalize hK : (valDoc V).length + 2 = K at HX
    clear hK
    refine (joined_3 (T1 := [60, 97, 32, 120, 61]) (T2 := V) (T3 := [62]) (S := valDoc V) (by simp only [World.size_alloc]) rfl rfl rfl ?g1 ?g2 ?g3 rfl ?g4).mono ?_
    case g1 => exact (slc_new w1 [60, 97, 32, 120, 61] (5, 6)).alloc _
    case g2 => exact (HV1.out.alloc _).alloc _
    case g3 =>
      have := slc_new (w1.alloc (.cells #[.int .u8 60, .int .u8 97, .int .u8 32, .int .u8 120, .int .u8 61] 5 (5, 6))) [62] (1, 2)
      rw [World.size_alloc] at this
      exact this
    case g4 => rw [valDoc_len]; have := HV3.out.1; omega
    rintro e w2 ⟨⟨A9, c9, rfl, hS9, _, _⟩, hB2⟩
    have HK12 : Hd (Kp w1 w2) := ⟨kp_call (kp_alloc (kp_alloc (kp_alloc (kp_refl w1) _) _) _) hB2⟩
    have HK1 : Hd (Kp w w2) := ⟨kp_call (kp_alloc (kp_alloc (kp_alloc HB1.out _) _) _) hB2⟩
    have HS9 := Hd.mk hS9
    clear hS9 hB2
    go_wp2_with fail
    refine (HTML_calls K N HN (((show Below _ _ _ from HK1.out).cell (p := ⟨0, 0, none⟩) hb0).trans H0.out) (HTb.out.of_block fun hl => (show Below _ _ _ from HK1.out).block 2 hl) HS9.out.b (by rw [valDoc_len]; have := HV3.out.1; omega) _ true HX).mono ?_
    rintro e w3 ⟨v2, P2, base2, rfl, hP2, hT2, hB3⟩
    have HK2 := Hd.mk (kp_call HK1.out hB3)
    have HK13 : Hd (Kp w1 w3) := ⟨kp_call HK12.out hB3⟩
    have HP2 := Hd.mk hP2
    have HT2 := Hd.mk hT2
    clear hP2 hT2 hB3
    go_wp2_with fail
    refine (joined_2 (T1 := [120, 61]) (T2 := V) (S := 120 :: 61 :: V) (by simp only [World.size_alloc]) rfl rfl ?j1 ?j2 rfl ?j3).mono ?_
    case j1 =>
      have := slc_new ((w3.alloc (.cells #[.int .u8 60, .int .u8 97] 5 (2, 3))).alloc (.cells #[.int .u8 97] 5 (1, 2))) [120, 61] (2, 3)
      simp only [World.size_alloc] at this
      exact this
    case j2 => exact HV1.out.kp (kp_alloc (kp_alloc (kp_alloc HK13.out _) _) _)
    case j3 => have := HV3.out.1; simp; omega
    rintro e w4 ⟨⟨A10, c10, rfl, hS10, hG10, _⟩, hB4⟩
    have HS10 := Hd.mk hS10
    have HG10 := Hd.mk hG10
    have HB4 := Hd.mk hB4
    clear hS10 hG10 hB4
    go_wp2_with fail
    have k5 : Kp w4 ((w4.alloc (.cells #[.int .u8 120] 5 (1, 2))).alloc (.cells #[.int .u8 62] 5 (1, 2))) := kp_alloc (kp_alloc (kp_refl w4) _) _
    have k4 := HB4.out
    have b1 := (seg_lit w3 w.heap.size [60, 97] (2, 3)).kp (kp_trans (kp_call (kp_alloc (kp_alloc (kp_alloc (kp_refl _) _) _) _) k4) k5)
    have b2 := (seg_lit (w3.alloc (.cells #[.int .u8 60, .int .u8 97] 5 (2, 3))) w.heap.size [97] (1, 2)).kp (kp_trans (kp_call (kp_alloc (kp_alloc (kp_refl _) _) _) k4) k5)
    have b3 := (HG10.out w.heap.size).kp k5
    have b4 := (seg_lit w4 w.heap.size [120] (1, 2)).kp (kp_alloc (kp_refl _) (.cells #[.int .u8 62] 5 (1, 2)))
    have k34 : Kp w3 w4 := kp_call (kp_alloc (kp_alloc (kp_alloc (kp_alloc (kp_refl w3) _) _) _) _) k4
    have b5 := (HV2.out w.heap.size).kp (kp_trans HK13.out (kp_trans k34 k5))
    have b6 := seg_lit (w4.alloc (.cells #[.int .u8 120] 5 (1, 2))) w.heap.size [62] (1, 2)
    rw [World.size_alloc] at b2 b6
    have hW5 := kp_trans (kp_trans HK2.out k34) k5
    have hM : Matches (P2.map Pc.told) (([⟨kStartTag, some ⟨w3.heap.size, 0, none⟩, [60, 97], 2, some ⟨w3.heap.size + 1, 0, none⟩, [97], 1, none, [], 0⟩, ⟨kAttribute, A10, 120 :: 61 :: V, c10, some ⟨w4.heap.size, 0, none⟩, [120], 1, A1, V, c1⟩, ⟨kStartTagClose, some ⟨w4.heap.size + 1, 0, none⟩, [62], 1, none, [], 0, none, [], 0⟩] : List Pc).map Pc.told) := by
      rw [HT2.out]
      exact ⟨match_same _ (by show kStartTag ≠ _; decide), ⟨rfl, by show unbl kAttribute (32 :: 120 :: 61 :: V) = 120 :: 61 :: V; unfold unbl; rw [if_pos rfl]; rfl, fun _ _ _ _ => rfl, fun _ => rfl⟩, match_same _ (by show kStartTagClose ≠ _; decide), trivial⟩
    have hKi : ∀ x ∈ P2, x.k ∈ kinds11 := fun x hx => by
      have h1 : x.told ∈ valTold V := HT2.out ▸ List.mem_map_of_mem hx
      have h2 : x.told.1 ∈ kinds11 := by
        simp only [valTold, List.mem_cons, List.mem_nil_iff, or_false] at h1
        rcases h1 with e | e | e <;> rw [e]
        · exact (show kStartTag ∈ kinds11 by decide)
        · exact (show kAttribute ∈ kinds11 by decide)
        · exact (show kStartTagClose ∈ kinds11 by decide)
      exact h2
    have hQ := pcs_many (w := ((w4.alloc (.cells #[.int .u8 120] 5 (1, 2))).alloc (.cells #[.int .u8 62] 5 (1, 2)))) (base := w.heap.size) (lo := w.heap.size) (g := w4.heap.size + 1 + 1) (by simp only [World.size_alloc]) rfl (P := [⟨kStartTag, some ⟨w3.heap.size, 0, none⟩, [60, 97], 2, some ⟨w3.heap.size + 1, 0, none⟩, [97], 1, none, [], 0⟩, ⟨kAttribute, A10, 120 :: 61 :: V, c10, some ⟨w4.heap.size, 0, none⟩, [120], 1, A1, V, c1⟩, ⟨kStartTagClose, some ⟨w4.heap.size + 1, 0, none⟩, [62], 1, none, [], 0, none, [], 0⟩]) (fun x hx => by
      simp only [List.mem_cons, List.mem_nil_iff, or_false] at hx
      rcases hx with rfl | rfl | rfl
      · exact ⟨b1, b2, Seg.nil _ _⟩
      · exact ⟨b3, b4, b5⟩
      · exact ⟨b6, Seg.nil _ _, Seg.nil _ _⟩) (by have := alloc_le hW5; simpa only [World.size_alloc] using this) (Nat.le_refl _) (by simp)
    have eC : (([⟨kStartTag, some ⟨w3.heap.size, 0, none⟩, [60, 97], 2, some ⟨w3.heap.size + 1, 0, none⟩, [97], 1, none, [], 0⟩, ⟨kAttribute, A10, 120 :: 61 :: V, c10, some ⟨w4.heap.size, 0, none⟩, [120], 1, A1, V, c1⟩, ⟨kStartTagClose, some ⟨w4.heap.size + 1, 0, none⟩, [62], 1, none, [], 0, none, [], 0⟩] : List Pc).flatMap Pc.cells).toArray = #[.string ⟨#[83, 116, 97, 114, 116, 84, 97, 103]⟩, .slice (some ⟨w3.heap.size, 0, none⟩) 2 2, .slice (some ⟨w3.heap.size + 1, 0, none⟩) 1 1, .slice none 0 0, .slice none 0 0, .string ⟨#[]⟩, .string ⟨#[65, 116, 116, 114, 105, 98, 117, 116, 101]⟩, .slice A10 (V.length + 1 + 1) c10, .slice (some ⟨w4.heap.size, 0, none⟩) 1 1, .slice none 0 0, .slice A1 V.length c1, .string ⟨#[]⟩, .string ⟨#[83, 116, 97, 114, 116, 84, 97, 103, 67, 108, 111, 115, 101]⟩, .slice (some ⟨w4.heap.size + 1, 0, none⟩) 1 1, .slice none 0 0, .slice none 0 0, .slice none 0 0, .string ⟨#[]⟩] := rfl
    rw [eC] at hQ
    have hPF := HP2.out.grow (kp_alloc (kp_trans k34 k5) (.cells #[.string ⟨#[83, 116, 97, 114, 116, 84, 97, 103]⟩, .slice (some ⟨w3.heap.size, 0, none⟩) 2 2, .slice (some ⟨w3.heap.size + 1, 0, none⟩) 1 1, .slice none 0 0, .slice none 0 0, .string ⟨#[]⟩, .string ⟨#[65, 116, 116, 114, 105, 98, 117, 116, 101]⟩, .slice A10 (V.length + 1 + 1) c10, .slice (some ⟨w4.heap.size, 0, none⟩) 1 1, .slice none 0 0, .slice A1 V.length c1, .string ⟨#[]⟩, .string ⟨#[83, 116, 97, 114, 116, 84, 97, 103, 67, 108, 111, 115, 101]⟩, .slice (some ⟨w4.heap.size + 1, 0, none⟩) 1 1, .slice none 0 0, .slice none 0 0, .slice none 0 0, .string ⟨#[]⟩] 36))
    have key := SameTokens_calls hPF hQ hM hKi
    have HW5 := Hd.mk hW5
    clear hM hKi hQ hPF b1 b2 b3 b4 b5 b6 eC k5 k4 k34 hW5
    refine key.mono ?_
    rintro e w6 ⟨rfl, hB6⟩
    have HK6 : Hd (Kp w w6) := ⟨kp_call (kp_alloc HW5.out _) hB6⟩
    clear hB6 key
    go_wp2
    go_ret
    exact ⟨rfl, HK6.out⟩
end Go.Proofs.YtfcedenofbefcaaGreatDoor
