import Derived.Test.YtfcedenofbefcaaGreatDoorW7
import Derived.Test.YtfcedenofbefcaaGreatDoorHF
namespace Go.Proofs.YtfcedenofbefcaaGreatDoor
open Go.RowKit
set_option linter.unusedVariables false
set_option linter.unusedSimpArgs false
theorem strB_app (a b : ByteArray) : strB (a ++ b) = strB a ++ strB b := by
  unfold strB
  rw [ByteArray.data_append, Array.toList_append, List.map_append]
theorem strB_bstr {l : List Int} (h : ∀ c ∈ l, 0 ≤ c ∧ c < 256) : strB (bstr l) = l := by
  unfold strB bstr
  rw [List.map_map]
  have : ∀ c ∈ l, ((fun b : UInt8 => (b.toNat : Int)) ∘ fun n : Int => UInt8.ofNat n.toNat) c = c := fun c hc => by
    obtain ⟨h0, h1⟩ := h c hc
    simp only [Function.comp_apply]
    rw [UInt8.toNat_ofNat']
    omega
  conv => rhs; rw [← List.map_id l]
  exact List.map_congr_left this
theorem size_app (a b : ByteArray) : (a ++ b).size = a.size + b.size := ByteArray.size_append
theorem joined_3 {W : World} {g : Nat} {S : List Int} {A1 A2 A3 : Option Addr} {T1 T2 T3 : List Int} {n1 n2 n3 c1 c2 c3 : Nat} (hg : W.heap.size = g) (e1 : T1.length = n1) (e2 : T2.length = n2) (e3 : T3.length = n3) (h1 : Slc W A1 T1 c1) (h2 : Slc W A2 T2 c2) (h3 : Slc W A3 T3 c3) (hS : T1 ++ (T2 ++ T3) = S) (hlen : S.length ≤ 1000000) :
    Calls Tryz.prog 15 #[.slice (some ⟨g, 0, none⟩) 3 3] (W.alloc (.cells #[.slice A1 n1 c1, .slice A2 n2 c2, .slice A3 n3 c3] 25)) (JoinPost S (W.alloc (.cells #[.slice A1 n1 c1, .slice A2 n2 c2, .slice A3 n3 c3] 25))) := by
  subst hg e1 e2 e3 hS
  have key := joined9_calls (w := W.alloc (.cells #[.slice A1 T1.length c1, .slice A2 T2.length c2, .slice A3 T3.length c3] 25)) (PL := [(A1, T1, c1), (A2, T2, c2), (A3, T3, c3)]) (heap_new _ _) (by simp) (fun p hp => by
    simp only [List.mem_cons, List.mem_nil_iff, or_false] at hp
    rcases hp with rfl | rfl | rfl
    · exact h1.alloc _
    · exact h2.alloc _
    · exact h3.alloc _) (by simpa using hlen)
  simpa using key
theorem pcs_many {w : World} {lo base g : Nat} {P : List Pc} {C : Array Value} (hg : w.heap.size = g) (hC : C = (P.flatMap Pc.cells).toArray) (hP : ∀ x ∈ P, x.Ok w lo) (hb : base ≤ g) (hl : lo ≤ base) (hn : P.length ≤ 100) :
    Pcs (w.alloc (.cells C 36)) lo base (.slice (some ⟨g, 0, none⟩) P.length P.length) P := by
  subst hg hC
  refine ⟨⟨cells_len P, .inr ⟨w.heap.size, P.length, _, rfl, hb, heap_new _ _, Nat.le_refl _, by unfold maxLen; omega, by rw [List.size_toArray, cells_len], by rw [List.take_of_length_le (by rw [cells_len]; exact Nat.le_refl _)]⟩⟩, fun x hx => (hP x hx).of_block fun k _ hk => Below.heap_alloc _ _ _ hk, hl⟩
theorem seg_lit (w : World) (lo : Nat) (l : List Int) (f : Nat × Nat) (hl : l.length ≤ 140737488355328 := by decide) : Seg (w.alloc (.cells (l.map (Value.int .u8)).toArray 5 f)) lo (some ⟨w.heap.size, 0, none⟩) l l.length :=
  ⟨lit_bytes l hl, Nat.le_refl _, fun _ ad e => by cases e; exact .inr ⟨_, _, heap_new _ _⟩⟩

set_option maxHeartbeats 8000000 in
set_option maxRecDepth 100000 in
theorem FnHTMLRaw_calls {w : World} {A : Option Addr} {T : List Int} {cp : Nat} {EA : Addr} (k : Int) (h0 : w.cell? ⟨0, 0, none⟩ = some (.iface 179 (.pointer (some EA)))) (ht : HTab w) (h : Slc w A T cp) (hlo : Lo w.heap.size A T) :
    Calls Tryz.prog 5 #[.int .i64 k, .slice A T.length cp] w fun e w' => e = .returned (.bool true) ∧ Below w.heap.size w w' := by
  obtain ⟨N, hN⟩ : ∃ N, N = 100000 := ⟨_, rfl⟩
  have HN := Hd.mk hN
  have HA := Hd.mk h
  have H0 := Hd.mk h0
  have HTb := Hd.mk ht
  have HLo := Hd.mk hlo
  have hb0 := World.block_lt_of_cell? _ _ h0
  clear h h0 hN ht hlo
  go_enter Tryz.func5, Tryz.ntmps5
  by_cases hl : (2147483647 : Int) < (T.length : Int)
  · have dl : decide ((2147483647 : Int) < (T.length : Int)) = true := decide_eq_true hl
    clear hl
    go_wp2_with fail
    go_ret
    exact ⟨rfl, Below.refl _ _⟩
  have dl : decide ((2147483647 : Int) < (T.length : Int)) = false := decide_eq_false hl
  clear hl
  by_cases hk0 : k < 0
  · have dk : decide (k < 0) = true := decide_eq_true hk0
    clear hk0
    go_wp2_with fail
    go_ret
    exact ⟨rfl, Below.refl _ _⟩
  have dk : decide (k < 0) = false := decide_eq_false hk0
  clear hk0
  by_cases hk5 : 5 < k
  · have dk5 : decide (5 < k) = true := decide_eq_true hk5
    clear hk5
    go_wp2_with fail
    go_ret
    exact ⟨rfl, Below.refl _ _⟩
  have dk5 : decide (5 < k) = false := decide_eq_false hk5
  clear hk5
  go_wp2_with fail
  refine (IsRaw_calls HA.out.b HA.out.k).mono ?_
  rintro e w' ⟨⟨b, rfl, hR⟩, rfl⟩
  cases b with
  | false =>
    clear hR
    go_wp2
    go_ret
    exact ⟨rfl, Below.refl _ _⟩
  | true =>
    have HR := Hd.mk (hR rfl)
    clear hR
    go_wp2_with fail
    refine (rawName_calls k).mono ?_
    rintro e w' ⟨⟨nm, rfl, hnm⟩, rfl⟩
    have HNm := Hd.mk hnm
    obtain ⟨hna, hn0, hn20, _⟩ := raw_name hnm
    have hsB : strB (bstr nm) = nm := strB_bstr fun c hc => by have := hna c hc; omega
    have hsz : (bstr nm).size ≤ 20 := by rw [← strB_len, hsB]; exact hn20
    have z1 : ¬ 9223372036854775807 < 1 + (bstr nm).size := by omega
    have z2 : ¬ 9223372036854775807 < 1 + (bstr nm).size + 1 := by omega
    have z3 : ¬ 9223372036854775807 < 2 + (bstr nm).size := by omega
    have z4 : ¬ 9223372036854775807 < 2 + (bstr nm).size + 1 := by omega
    generalize hs1 : (⟨#[60]⟩ : ByteArray) ++ bstr nm = s1
    generalize hs2 : s1 ++ (⟨#[62]⟩ : ByteArray) = s2
    have e0 : strB s1 = 60 :: nm := by rw [← hs1, strB_app, hsB]; rfl
    have e1 : strB s2 = 60 :: (nm ++ [62]) := by rw [← hs2, strB_app, e0]; rfl
    generalize hs3 : (⟨#[60, 47]⟩ : ByteArray) ++ bstr nm = s3
    generalize hs4 : s3 ++ (⟨#[62]⟩ : ByteArray) = s4
    have e3 : strB s4 = 60 :: 47 :: (nm ++ [62]) := by rw [← hs4, ← hs3, strB_app, strB_app, hsB]; rfl
    have l0 : s1.size = nm.length + 1 := by rw [← strB_len, e0]; rfl
    have l1 : s2.size = nm.length + 2 := by rw [← strB_len, e1]; simp
    have l3 : s4.size = nm.length + 3 := by rw [← strB_len, e3]; simp
    have l2 : s3.size = nm.length + 2 := by rw [← hs3, size_app, ← strB_len (bstr nm), hsB]; show 2 + _ = _; omega
    have z5 : ¬ 9223372036854775807 < s1.size + 1 := by omega
    have z6 : ¬ 9223372036854775807 < s3.size + 1 := by omega
    have ln : (bstr nm).size = nm.length := by rw [← strB_len, hsB]
    have HE := Hd.mk (And.intro e0 (And.intro e1 (And.intro e3 (And.intro hsB (And.intro hn0 hn20)))))
    have HL := Hd.mk (And.intro l0 (And.intro l1 (And.intro l3 ln)))
    have HL2 := Hd.mk (And.intro ((strB_len s1).symm.trans (congrArg List.length e0)) ((strB_len s4).symm.trans (congrArg List.length e3)))
    have y1 : (⟨#[60]⟩ : ByteArray).size + (bstr nm).size = 1 + (bstr nm).size := rfl
    have hlay := fun W s => run_lay W s
    have HX := Hd.mk (raw_law hnm HR.out.2.2 HR.out.1 (by have := HR.out.2.1; omega) N HN.out)
    have hrl : (rawT nm T).length ≤ 600 := by have := HR.out.2.1; simp [rawT]; omega
    have HRl := Hd.mk hrl
    generalize hK : (rawT nm T).length + 2 = K at HX
    clear hnm hna hn0 hn20 hsB e0 e1 e3 l0 l1 l2 l3 ln hsz hrl hK
    go_wp2_with fail
    refine (joined_3 (T1 := 60 :: (nm ++ [62])) (T2 := T) (T3 := 60 :: 47 :: (nm ++ [62])) (S := rawT nm T) rfl ?e1 rfl ?e3 ?g1 ?g2 ?g3 rfl ?g4).mono ?_
    case e1 => rw [HL.out.2.1]; simp
    case e3 => rw [HL.out.2.2.1]; simp
    case g1 => have := (slc_lay w s2 (by have := HL.out.2.1; have := HE.out.2.2.2.2.2; omega)).kp (kp_lay (kp_refl _) s4); rwa [HE.out.2.1] at this
    case g2 => exact HA.out.kp (kp_lay (kp_lay (kp_refl _) _) _)
    case g3 => have := slc_lay (World.lay w s2) s4 (by have := HL.out.2.2.1; have := HE.out.2.2.2.2.2; omega); rwa [HE.out.2.2.1] at this
    case g4 => have := HRl.out; omega
    rintro e w1 ⟨⟨A9, c9, rfl, hS9, _, _⟩, hB1⟩
    have HK1 := Hd.mk (kp_call (kp_alloc (kp_lay (kp_lay (kp_refl w) _) _) _) hB1)
    have HS9 := Hd.mk hS9
    clear hS9 hB1
    go_wp2_with fail
    refine (HTML_calls K N HN (((show Below _ _ _ from HK1.out).cell (p := ⟨0, 0, none⟩) hb0).trans H0.out) (HTb.out.of_block fun hl => (show Below _ _ _ from HK1.out).block 2 hl) HS9.out.b (by have := HRl.out; omega) _ true HX).mono ?_
    rintro e w2 ⟨v2, P2, base2, rfl, hP2, hT2, hB2⟩
    have HK2 := Hd.mk (kp_call HK1.out hB2)
    have HP2 := Hd.mk hP2
    have HT2 := Hd.mk hT2
    clear hP2 hT2 hB2
    have hcv := conv25g
    go_wp2_with fail
    have hk5 : ∀ W, Kp w2 W → Kp w2 (World.lay (World.lay ((World.lay (World.lay W s1) (bstr nm)).alloc (.cells #[.int .u8 62] 5 (1, 2))) s4) (bstr nm)) := fun W k => kp_lay (kp_lay (kp_alloc (kp_lay (kp_lay k _) _) _) _) _
    have hk5 := hk5 w2 (kp_refl w2)
    have hn1000 : (bstr nm).size ≤ 1000 := by have := HL.out.2.2.2; have := HE.out.2.2.2.2.2; omega
    have b1 := ((Byt.lay w2 w.heap.size s1 (by have := HL.out.1; have := HE.out.2.2.2.2.2; omega)).kp (kp_lay (kp_lay (kp_alloc (kp_lay (kp_refl _) (bstr nm)) (.cells #[.int .u8 62] 5 (1, 2))) s4) (bstr nm))).g
    have b2 := ((Byt.lay (World.lay w2 s1) w.heap.size (bstr nm) hn1000).kp (kp_lay (kp_lay (kp_alloc (kp_refl _) (.cells #[.int .u8 62] 5 (1, 2))) s4) (bstr nm))).g
    have b3 := (seg_lit (World.lay (World.lay w2 s1) (bstr nm)) w.heap.size [62] (1, 2)).kp (kp_lay (kp_lay (kp_refl _) s4) (bstr nm))
    have b4 := ((Byt.lay ((World.lay (World.lay w2 s1) (bstr nm)).alloc (.cells #[.int .u8 62] 5 (1, 2))) w.heap.size s4 (by have := HL.out.2.2.1; have := HE.out.2.2.2.2.2; omega)).kp (kp_lay (kp_refl _) (bstr nm))).g
    have b5 := (Byt.lay (World.lay ((World.lay (World.lay w2 s1) (bstr nm)).alloc (.cells #[.int .u8 62] 5 (1, 2))) s4) w.heap.size (bstr nm) hn1000).g
    rw [HE.out.1] at b1
    rw [HE.out.2.2.2.1] at b2 b5
    rw [HE.out.2.2.1, World.size_alloc] at b4
    have hS5 := HA.out.kp (kp_trans HK2.out hk5)
    have bT : Seg _ w.heap.size A T cp := Seg.low hS5.b hS5.k HLo.out
    have hsz5 := Nat.le_trans (alloc_le HK2.out) (alloc_le hk5)
    have hP5 := (HP2.out.grow hk5)
    have hM : Matches (P2.map Pc.told) (([⟨kStartTag, some ⟨w2.heap.size, 0, none⟩, 60 :: nm, layc w2 s1, some ⟨(World.lay w2 s1).heap.size, 0, none⟩, nm, layc (World.lay w2 s1) (bstr nm), none, [], 0⟩, ⟨kStartTagClose, some ⟨(World.lay (World.lay w2 s1) (bstr nm)).heap.size, 0, none⟩, [62], 1, none, [], 0, none, [], 0⟩, ⟨kText, A, T, cp, A, T, cp, none, [], 0⟩, ⟨kEndTag, some ⟨(World.lay (World.lay w2 s1) (bstr nm)).heap.size + 1, 0, none⟩, 60 :: 47 :: (nm ++ [62]), layc ((World.lay (World.lay w2 s1) (bstr nm)).alloc (.cells #[.int .u8 62] 5 (1, 2))) s4, some ⟨(World.lay ((World.lay (World.lay w2 s1) (bstr nm)).alloc (.cells #[.int .u8 62] 5 (1, 2))) s4).heap.size, 0, none⟩, nm, layc (World.lay ((World.lay (World.lay w2 s1) (bstr nm)).alloc (.cells #[.int .u8 62] 5 (1, 2))) s4) (bstr nm), none, [], 0⟩] : List Pc).map Pc.told) := by
      rw [HT2.out]
      exact ⟨match_same _ (by show kStartTag ≠ _; decide), match_same _ (by show kStartTagClose ≠ _; decide), match_same _ (by show kText ≠ _; decide), match_same _ (by show kEndTag ≠ _; decide), trivial⟩
    have hKi : ∀ x ∈ P2, x.k ∈ kinds11 := fun x hx => by
      have h1 : x.told ∈ rawTold nm T := HT2.out ▸ List.mem_map_of_mem hx
      have h2 : x.told.1 ∈ kinds11 := by
        simp only [rawTold, List.mem_cons, List.mem_nil_iff, or_false] at h1
        rcases h1 with e | e | e | e <;> rw [e]
        · exact (show kStartTag ∈ kinds11 by decide)
        · exact (show kStartTagClose ∈ kinds11 by decide)
        · exact (show kText ∈ kinds11 by decide)
        · exact (show kEndTag ∈ kinds11 by decide)
      exact h2
    have hQ := pcs_many (base := w.heap.size) (lo := w.heap.size) (g := (World.lay (World.lay ((World.lay (World.lay w2 s1) (bstr nm)).alloc (.cells #[.int .u8 62] 5 (1, 2))) s4) (bstr nm)).heap.size) rfl rfl (P := [⟨kStartTag, some ⟨w2.heap.size, 0, none⟩, 60 :: nm, layc w2 s1, some ⟨(World.lay w2 s1).heap.size, 0, none⟩, nm, layc (World.lay w2 s1) (bstr nm), none, [], 0⟩, ⟨kStartTagClose, some ⟨(World.lay (World.lay w2 s1) (bstr nm)).heap.size, 0, none⟩, [62], 1, none, [], 0, none, [], 0⟩, ⟨kText, A, T, cp, A, T, cp, none, [], 0⟩, ⟨kEndTag, some ⟨(World.lay (World.lay w2 s1) (bstr nm)).heap.size + 1, 0, none⟩, 60 :: 47 :: (nm ++ [62]), layc ((World.lay (World.lay w2 s1) (bstr nm)).alloc (.cells #[.int .u8 62] 5 (1, 2))) s4, some ⟨(World.lay ((World.lay (World.lay w2 s1) (bstr nm)).alloc (.cells #[.int .u8 62] 5 (1, 2))) s4).heap.size, 0, none⟩, nm, layc (World.lay ((World.lay (World.lay w2 s1) (bstr nm)).alloc (.cells #[.int .u8 62] 5 (1, 2))) s4) (bstr nm), none, [], 0⟩]) (fun x hx => by
      simp only [List.mem_cons, List.mem_nil_iff, or_false] at hx
      rcases hx with rfl | rfl | rfl | rfl
      · exact ⟨b1, b2, Seg.nil _ _⟩
      · exact ⟨b3, Seg.nil _ _, Seg.nil _ _⟩
      · exact ⟨bT, bT, Seg.nil _ _⟩
      · exact ⟨b4, b5, Seg.nil _ _⟩) hsz5 (Nat.le_refl _) (by simp)
    have hkF := kp_alloc hk5 (.cells (([⟨kStartTag, some ⟨w2.heap.size, 0, none⟩, 60 :: nm, layc w2 s1, some ⟨(World.lay w2 s1).heap.size, 0, none⟩, nm, layc (World.lay w2 s1) (bstr nm), none, [], 0⟩, ⟨kStartTagClose, some ⟨(World.lay (World.lay w2 s1) (bstr nm)).heap.size, 0, none⟩, [62], 1, none, [], 0, none, [], 0⟩, ⟨kText, A, T, cp, A, T, cp, none, [], 0⟩, ⟨kEndTag, some ⟨(World.lay (World.lay w2 s1) (bstr nm)).heap.size + 1, 0, none⟩, 60 :: 47 :: (nm ++ [62]), layc ((World.lay (World.lay w2 s1) (bstr nm)).alloc (.cells #[.int .u8 62] 5 (1, 2))) s4, some ⟨(World.lay ((World.lay (World.lay w2 s1) (bstr nm)).alloc (.cells #[.int .u8 62] 5 (1, 2))) s4).heap.size, 0, none⟩, nm, layc (World.lay ((World.lay (World.lay w2 s1) (bstr nm)).alloc (.cells #[.int .u8 62] 5 (1, 2))) s4) (bstr nm), none, [], 0⟩] : List Pc).flatMap Pc.cells).toArray 36)
    have hPF := HP2.out.grow hkF
    have key := SameTokens_calls hPF hQ hM hKi
    have eC : (([⟨kStartTag, some ⟨w2.heap.size, 0, none⟩, 60 :: nm, layc w2 s1, some ⟨(World.lay w2 s1).heap.size, 0, none⟩, nm, layc (World.lay w2 s1) (bstr nm), none, [], 0⟩, ⟨kStartTagClose, some ⟨(World.lay (World.lay w2 s1) (bstr nm)).heap.size, 0, none⟩, [62], 1, none, [], 0, none, [], 0⟩, ⟨kText, A, T, cp, A, T, cp, none, [], 0⟩, ⟨kEndTag, some ⟨(World.lay (World.lay w2 s1) (bstr nm)).heap.size + 1, 0, none⟩, 60 :: 47 :: (nm ++ [62]), layc ((World.lay (World.lay w2 s1) (bstr nm)).alloc (.cells #[.int .u8 62] 5 (1, 2))) s4, some ⟨(World.lay ((World.lay (World.lay w2 s1) (bstr nm)).alloc (.cells #[.int .u8 62] 5 (1, 2))) s4).heap.size, 0, none⟩, nm, layc (World.lay ((World.lay (World.lay w2 s1) (bstr nm)).alloc (.cells #[.int .u8 62] 5 (1, 2))) s4) (bstr nm), none, [], 0⟩] : List Pc).flatMap Pc.cells).toArray = #[.string ⟨#[83, 116, 97, 114, 116, 84, 97, 103]⟩, .slice (some ⟨w2.heap.size, 0, none⟩) s1.size (layc w2 s1), .slice (some ⟨(World.lay w2 s1).heap.size, 0, none⟩) (bstr nm).size (layc (World.lay w2 s1) (bstr nm)), .slice none 0 0, .slice none 0 0, .string ⟨#[]⟩,
        .string ⟨#[83, 116, 97, 114, 116, 84, 97, 103, 67, 108, 111, 115, 101]⟩, .slice (some ⟨(World.lay (World.lay w2 s1) (bstr nm)).heap.size, 0, none⟩) 1 1, .slice none 0 0, .slice none 0 0, .slice none 0 0, .string ⟨#[]⟩,
        .string ⟨#[84, 101, 120, 116]⟩, .slice A T.length cp, .slice A T.length cp, .slice none 0 0, .slice none 0 0, .string ⟨#[]⟩,
        .string ⟨#[69, 110, 100, 84, 97, 103]⟩, .slice (some ⟨(World.lay (World.lay w2 s1) (bstr nm)).heap.size + 1, 0, none⟩) s4.size (layc ((World.lay (World.lay w2 s1) (bstr nm)).alloc (.cells #[.int .u8 62] 5 (1, 2))) s4), .slice (some ⟨(World.lay ((World.lay (World.lay w2 s1) (bstr nm)).alloc (.cells #[.int .u8 62] 5 (1, 2))) s4).heap.size, 0, none⟩) (bstr nm).size (layc (World.lay ((World.lay (World.lay w2 s1) (bstr nm)).alloc (.cells #[.int .u8 62] 5 (1, 2))) s4) (bstr nm)), .slice none 0 0, .slice none 0 0, .string ⟨#[]⟩] := by
      rw [HL2.out.1, HL2.out.2, HL.out.2.2.2]
      rfl
    rw [eC] at key hkF
    clear hM hKi hQ hPF hP5 b1 b2 b3 b4 b5 bT hS5 eC
    refine key.mono ?_
    rintro e w3 ⟨rfl, hB3⟩
    have HK3 := Hd.mk (kp_call (kp_trans HK2.out hkF) hB3)
    clear hB3 hkF hk5 key
    go_wp2
    go_ret
    exact ⟨rfl, HK3.out⟩
end Go.Proofs.YtfcedenofbefcaaGreatDoor
