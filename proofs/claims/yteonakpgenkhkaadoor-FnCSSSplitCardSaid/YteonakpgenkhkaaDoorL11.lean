import Derived.Test.YteonakpgenkhkaaDoorL10
namespace Go.Proofs.YteonakpgenkhkaaDoor
open Go.RowKit
set_option linter.unusedVariables false
set_option linter.unusedSimpArgs false
def letterA : List Int := [97]
theorem letterA_bytes {w : World} : Bytes (w.alloc (.cells #[.int .u8 97] 5 (1, 2))) (some ⟨w.heap.size, 0, none⟩) letterA := by
  refine ⟨by decide, fun _ => ⟨_, _, rfl, fun j hj => ?_⟩⟩
  rw [cell_of_block (heap_new _ _)]
  obtain rfl : j = 0 := by unfold letterA at hj; simp at hj; omega
  rfl
set_option maxHeartbeats 4000000 in
theorem FnIdent_calls (K : Nat) {w : World} {A : Option Addr} {T : List Int} {cp : Nat} {ET : TypeId} {EA : Addr} (h0 : w.cell? ⟨0, 0, none⟩ = some (.iface ET (.pointer (some EA)))) (h : Bytes w A T) (hA : ∀ ad, A = some ad → ad.block < w.heap.size) (hT : isU8 T) (hcp : T.length ≤ cp) (hx : Lib.Utf8Tabs 1 2 w)
    (H : Hd (T.length ≤ 2147483647 → ∃ r k, identSpec K T = some (r, k) ∧ (k = true → T.length ≤ 5000 → 0 < T.length → (hasB T 92 = true → Utf8 T) → identF K T = some r))) (H1 : Hd (identF 10 letterA = some true)) :
    Calls Tryd.prog 4 #[.slice A T.length cp] w fun e w' => e = .returned (.bool true) ∧ Below w.heap.size w w' := by
  have H0 := Hd.mk h0
  have hb := World.block_lt_of_cell? _ _ h0
  clear h0
  have hcv := conv22
  go_enter Tryd.func4, Tryd.ntmps4
  by_cases hn : T.length ≤ 2147483647
  · have hz : decide (((2147483647 : Int)) < (T.length : Int)) = false := by rw [decide_eq_false_iff_not]; omega
    have hz2 : ¬ (2147483647 < T.length) := by omega
    have hz3 : ¬ ((2147483647 : Int) < (T.length : Int)) := by omega
    obtain ⟨r, k, A1, A2⟩ := H.out hn
    have HA2 := Hd.mk A2
    clear A2 H hn
    go_wp2_with fail
    refine (IsIdent_calls K h hA hT hcp hx r k ⟨A1⟩).mono ?_
    rintro e w1 ⟨⟨r', k', rfl, hk⟩, h1⟩
    have HK := Hd.mk hk
    clear hk A1
    by_cases hs : T.length ≤ 5000
    · have hy : decide (((5000 : Int)) < (T.length : Int)) = false := by rw [decide_eq_false_iff_not]; omega
      have hy2 : ¬ (5000 < T.length) := by omega
      have hy3 : ¬ ((5000 : Int) < (T.length : Int)) := by omega
      cases k' with
      | false =>
        go_wp2_with fail
        go_ret
        exact ⟨rfl, h1⟩
      | true =>
        obtain ⟨hu, rfl, hk, hp⟩ := HK.out rfl
        have HF := Hd.mk (HA2.out hk hs hp hu)
        clear HK HA2 hk hp hu hs
        have hs1 := h1.size
        have hbb := h.below h1
        have h01 : w1.cell? ⟨0, 0, none⟩ = some (.iface ET (.pointer (some EA))) := (h1.cell (p := ⟨0, 0, none⟩) hb).trans H0.out
        have H01 := Hd.mk h01
        clear h01 H0
        go_wp2_with fail
        refine (implIsIdent_calls 10 ((World.cell?_alloc_lt _ _ _ (World.block_lt_of_cell? _ _ H01.out)).trans H01.out) letterA_bytes (by decide) true H1).mono ?_
        rintro e w2 ⟨rfl, h2⟩
        have hm : Below w.heap.size w w2 := (h1.alloc hs1 _).trans (h2.mono (by simp; omega))
        have hm1 : Below w1.heap.size w1 w2 := ((Below.refl _ _).alloc (Nat.le_refl _) _).trans (h2.mono (by simp))
        have hl : T.length ≤ 140737488355000 := by omega
        clear h2 hcv
        go_wp2_with fail
        refine (implIsIdent_calls K ((hm1.cell (p := ⟨0, 0, none⟩) (Nat.lt_of_lt_of_le hb hs1)).trans H01.out) (hbb.below hm1) hl _ HF).mono ?_
        rintro e w3 ⟨rfl, h3⟩
        have he : (r' == r') = true := by simp
        go_wp2_with fail
        go_ret
        exact ⟨rfl, hm.trans (h3.mono hm.size)⟩
    · have hy : decide (((5000 : Int)) < (T.length : Int)) = true := by rw [decide_eq_true_iff]; omega
      have hy2 : 5000 < T.length := by omega
      have hy3 : (5000 : Int) < (T.length : Int) := by omega
      go_wp2_with fail
      go_ret
      exact ⟨rfl, h1⟩
  · have hz : decide (((2147483647 : Int)) < (T.length : Int)) = true := by rw [decide_eq_true_iff]; omega
    have hz2 : 2147483647 < T.length := by omega
    have hz3 : (2147483647 : Int) < (T.length : Int) := by omega
    go_wp2_with fail
    go_ret
    exact ⟨rfl, Below.refl _ _⟩
set_option maxHeartbeats 4000000 in
theorem FnAddress_calls (K : Nat) {w : World} {A : Option Addr} {T : List Int} {cp : Nat} {ET : TypeId} {EA : Addr} (h0 : w.cell? ⟨0, 0, none⟩ = some (.iface ET (.pointer (some EA)))) (h : Bytes w A T) (hA : ∀ ad, A = some ad → ad.block < w.heap.size) (hT : isU8 T) (hcp : T.length ≤ cp) (hx : Lib.Utf8Tabs 1 2 w)
    (H : Hd (T.length ≤ 2147483647 → ∃ r k, addressSpec K T = some (r, k) ∧ (k = true → T.length ≤ 5000 → (r = true → 0 < T.length) → (hasB T 92 = true → Utf8 T) → addressF K T = some r))) (H1 : Hd (addressF 10 letterA = some true)) :
    Calls Tryd.prog 3 #[.slice A T.length cp] w fun e w' => e = .returned (.bool true) ∧ Below w.heap.size w w' := by
  have H0 := Hd.mk h0
  have hb := World.block_lt_of_cell? _ _ h0
  clear h0
  have hcv := conv22
  go_enter Tryd.func3, Tryd.ntmps3
  by_cases hn : T.length ≤ 2147483647
  · have hz : decide (((2147483647 : Int)) < (T.length : Int)) = false := by rw [decide_eq_false_iff_not]; omega
    have hz2 : ¬ (2147483647 < T.length) := by omega
    have hz3 : ¬ ((2147483647 : Int) < (T.length : Int)) := by omega
    obtain ⟨r, k, A1, A2⟩ := H.out hn
    have HA2 := Hd.mk A2
    clear A2 H hn
    go_wp2_with fail
    refine (IsAddress_calls K h hA hT hcp hx r k ⟨A1⟩).mono ?_
    rintro e w1 ⟨⟨r', k', rfl, hk⟩, h1⟩
    have HK := Hd.mk hk
    clear hk A1
    by_cases hs : T.length ≤ 5000
    · have hy : decide (((5000 : Int)) < (T.length : Int)) = false := by rw [decide_eq_false_iff_not]; omega
      have hy2 : ¬ (5000 < T.length) := by omega
      have hy3 : ¬ ((5000 : Int) < (T.length : Int)) := by omega
      cases k' with
      | false =>
        go_wp2_with fail
        go_ret
        exact ⟨rfl, h1⟩
      | true =>
        obtain ⟨hu, rfl, hk, hp⟩ := HK.out rfl
        have HF := Hd.mk (HA2.out hk hs hp hu)
        clear HK HA2 hk hp hu hs
        have hs1 := h1.size
        have hbb := h.below h1
        have h01 : w1.cell? ⟨0, 0, none⟩ = some (.iface ET (.pointer (some EA))) := (h1.cell (p := ⟨0, 0, none⟩) hb).trans H0.out
        have H01 := Hd.mk h01
        clear h01 H0
        go_wp2_with fail
        refine (implIsAddress_calls 10 ((World.cell?_alloc_lt _ _ _ (World.block_lt_of_cell? _ _ H01.out)).trans H01.out) letterA_bytes (by decide) true H1).mono ?_
        rintro e w2 ⟨rfl, h2⟩
        have hm : Below w.heap.size w w2 := (h1.alloc hs1 _).trans (h2.mono (by simp; omega))
        have hm1 : Below w1.heap.size w1 w2 := ((Below.refl _ _).alloc (Nat.le_refl _) _).trans (h2.mono (by simp))
        have hl : T.length ≤ 140737488355000 := by omega
        clear h2 hcv
        go_wp2_with fail
        refine (implIsAddress_calls K ((hm1.cell (p := ⟨0, 0, none⟩) (Nat.lt_of_lt_of_le hb hs1)).trans H01.out) (hbb.below hm1) hl _ HF).mono ?_
        rintro e w3 ⟨rfl, h3⟩
        have he : (r' == r') = true := by simp
        go_wp2_with fail
        go_ret
        exact ⟨rfl, hm.trans (h3.mono hm.size)⟩
    · have hy : decide (((5000 : Int)) < (T.length : Int)) = true := by rw [decide_eq_true_iff]; omega
      have hy2 : 5000 < T.length := by omega
      have hy3 : (5000 : Int) < (T.length : Int) := by omega
      go_wp2_with fail
      go_ret
      exact ⟨rfl, h1⟩
  · have hz : decide (((2147483647 : Int)) < (T.length : Int)) = true := by rw [decide_eq_true_iff]; omega
    have hz2 : 2147483647 < T.length := by omega
    have hz3 : (2147483647 : Int) < (T.length : Int) := by omega
    go_wp2_with fail
    go_ret
    exact ⟨rfl, Below.refl _ _⟩
end Go.Proofs.YteonakpgenkhkaaDoor
