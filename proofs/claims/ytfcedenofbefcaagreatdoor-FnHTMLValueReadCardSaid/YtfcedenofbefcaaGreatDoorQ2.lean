import Derived.Test.YtfcedenofbefcaaGreatDoorQ1
namespace Go.Proofs.YtfcedenofbefcaaGreatDoor
open Go.RowKit
set_option linter.unusedVariables false
set_option linter.unusedSimpArgs false
set_option maxRecDepth 100000 in
theorem isSpecial_calls {w : World} {A : Option Addr} {cp : Nat} {T : List Int} (h : Bytes w A T) :
    Calls Tryz.prog 46 #[.slice A T.length cp] w (Says0 (fun b => b = false → T ∉ specials) w) := by
  have C1 : (convert 25 9 (.slice A T.length cp)).run Tryz.prog w = .ok (.string (bstr T)) w := conv_bytes h
  clear h
  go_enter Tryz.func46, Tryz.ntmps46
  by_cases e0 : ((bstr T).toList == [115, 99, 114, 105, 112, 116]) = true
  · go_wp2_with fail
    go_ret
    exact ⟨⟨_, rfl, fun h => by cases h⟩, rfl⟩
  replace e0 := Bool.eq_false_iff.mpr e0
  by_cases e1 : ((bstr T).toList == [115, 116, 121, 108, 101]) = true
  · go_wp2_with fail
    go_ret
    exact ⟨⟨_, rfl, fun h => by cases h⟩, rfl⟩
  replace e1 := Bool.eq_false_iff.mpr e1
  by_cases e2 : ((bstr T).toList == [116, 105, 116, 108, 101]) = true
  · go_wp2_with fail
    go_ret
    exact ⟨⟨_, rfl, fun h => by cases h⟩, rfl⟩
  replace e2 := Bool.eq_false_iff.mpr e2
  by_cases e3 : ((bstr T).toList == [116, 101, 120, 116, 97, 114, 101, 97]) = true
  · go_wp2_with fail
    go_ret
    exact ⟨⟨_, rfl, fun h => by cases h⟩, rfl⟩
  replace e3 := Bool.eq_false_iff.mpr e3
  by_cases e4 : ((bstr T).toList == [120, 109, 112]) = true
  · go_wp2_with fail
    go_ret
    exact ⟨⟨_, rfl, fun h => by cases h⟩, rfl⟩
  replace e4 := Bool.eq_false_iff.mpr e4
  by_cases e5 : ((bstr T).toList == [105, 102, 114, 97, 109, 101]) = true
  · go_wp2_with fail
    go_ret
    exact ⟨⟨_, rfl, fun h => by cases h⟩, rfl⟩
  replace e5 := Bool.eq_false_iff.mpr e5
  by_cases e6 : ((bstr T).toList == [112, 108, 97, 105, 110, 116, 101, 120, 116]) = true
  · go_wp2_with fail
    go_ret
    exact ⟨⟨_, rfl, fun h => by cases h⟩, rfl⟩
  replace e6 := Bool.eq_false_iff.mpr e6
  by_cases e7 : ((bstr T).toList == [115, 118, 103]) = true
  · go_wp2_with fail
    go_ret
    exact ⟨⟨_, rfl, fun h => by cases h⟩, rfl⟩
  replace e7 := Bool.eq_false_iff.mpr e7
  by_cases e8 : ((bstr T).toList == [109, 97, 116, 104]) = true
  · go_wp2_with fail
    go_ret
    exact ⟨⟨_, rfl, fun h => by cases h⟩, rfl⟩
  replace e8 := Bool.eq_false_iff.mpr e8
  by_cases e9 : ((bstr T).toList == [120, 109, 108]) = true
  · go_wp2_with fail
    go_ret
    exact ⟨⟨_, rfl, fun h => by cases h⟩, rfl⟩
  replace e9 := Bool.eq_false_iff.mpr e9
  by_cases e10 : ((bstr T).toList == [110, 111, 115, 99, 114, 105, 112, 116]) = true
  · go_wp2_with fail
    go_ret
    exact ⟨⟨_, rfl, fun h => by cases h⟩, rfl⟩
  replace e10 := Bool.eq_false_iff.mpr e10
  by_cases e11 : ((bstr T).toList == [110, 111, 102, 114, 97, 109, 101, 115]) = true
  · go_wp2_with fail
    go_ret
    exact ⟨⟨_, rfl, fun h => by cases h⟩, rfl⟩
  replace e11 := Bool.eq_false_iff.mpr e11
  by_cases e12 : ((bstr T).toList == [110, 111, 101, 109, 98, 101, 100]) = true
  · go_wp2_with fail
    go_ret
    exact ⟨⟨_, rfl, fun h => by cases h⟩, rfl⟩
  replace e12 := Bool.eq_false_iff.mpr e12
  go_wp2_with fail
  go_ret
  refine ⟨⟨_, rfl, fun _ hm => ?_⟩, rfl⟩
  simp only [specials, List.mem_cons, List.mem_nil_iff, or_false] at hm
  rcases hm with rfl | rfl | rfl | rfl | rfl | rfl | rfl | rfl | rfl | rfl | rfl | rfl | rfl
  · exact absurd e0 (by decide +kernel)
  · exact absurd e1 (by decide +kernel)
  · exact absurd e2 (by decide +kernel)
  · exact absurd e3 (by decide +kernel)
  · exact absurd e4 (by decide +kernel)
  · exact absurd e5 (by decide +kernel)
  · exact absurd e6 (by decide +kernel)
  · exact absurd e7 (by decide +kernel)
  · exact absurd e8 (by decide +kernel)
  · exact absurd e9 (by decide +kernel)
  · exact absurd e10 (by decide +kernel)
  · exact absurd e11 (by decide +kernel)
  · exact absurd e12 (by decide +kernel)
/-- The part of a text from i on, of n bytes. -/
def part (T : List Int) (i n : Nat) : List Int := (T.drop i).take n
theorem part_bytes {w : World} {b o : Nat} {T : List Int} (hlen : T.length ≤ 140737488355328) (i n : Nat) (hi : i + n ≤ T.length) (hc : ∀ j, j < T.length → w.cell? ⟨b, o + j, none⟩ = some (.int .u8 (T.getD j 0))) : Bytes w (some ⟨b, o + i, none⟩) (part T i n) := by
  have hl : (part T i n).length = n := by unfold part; rw [List.length_take, List.length_drop]; omega
  refine ⟨by rw [hl]; omega, fun _ => ⟨b, o + i, rfl, fun j hj => ?_⟩⟩
  rw [hl] at hj
  have := hc (i + j) (by omega)
  rw [← Nat.add_assoc] at this
  rw [this]
  unfold part
  rw [List.getD_eq_getElem?_getD, List.getD_eq_getElem?_getD, List.getElem?_take, if_pos hj, List.getElem?_drop]
theorem part_length {T : List Int} {i n : Nat} (hi : i + n ≤ T.length) : (part T i n).length = n := by unfold part; rw [List.length_take, List.length_drop]; omega
set_option maxHeartbeats 4000000 in
set_option maxRecDepth 100000 in
/-- Whether a part of two bytes stands in a text. -/
theorem contains2_calls {w : World} {A : Option Addr} {cp : Nat} {T : List Int} (h : Bytes w A T) (hcp : T.length ≤ cp) (x y : UInt8) :
    Calls Tryz.prog 40 #[.slice A T.length cp, .string ⟨#[x, y]⟩] w (Says0 (fun b => b = false → ∀ i, i + 2 ≤ T.length → ((bstr (part T i 2)).toList == [x, y]) = false) w) := by
  have hlen := h.len
  have HH := Hd.mk h
  clear h
  go_enter Tryz.func40, Tryz.ntmps40
  go_wp2_with fail
  go_loopg [5] T.length (fun gk v5 w' => ∃ k : Nat, v5 = .int .i64 k ∧ Hd (k + gk = T.length) ∧ Hd (∀ i, i < k → i + 2 ≤ T.length → ((bstr (part T i 2)).toList == [x, y]) = false) ∧ w = w')
  case atStart => exact ⟨0, rfl, ⟨by omega⟩, ⟨fun i hi => absurd hi (Nat.not_lt_zero _)⟩, rfl⟩
  case round =>
    obtain ⟨k, rfl, HK, HN, rfl⟩ := hrel
    have hkl : k ≤ T.length := by have := HK.out; omega
    have hwr : wrap64 ((k : Int) + 2) = (k : Int) + 2 := wrap_small (by omega) (by omega)
    by_cases hlt : (k : Int) + 2 ≤ (T.length : Int)
    · have d1 : decide ((k : Int) + 2 ≤ (T.length : Int)) = true := decide_eq_true hlt
      cases gk with
      | zero => have := HK.out; omega
      | succ gk =>
        obtain ⟨b, off, rfl, hc⟩ := HH.out.cells (by omega)
        have HP := part_bytes hlen k 2 (by omega) hc
        have hpl : (part T k 2).length = 2 := part_length (by omega)
        have HE := Hd.mk hpl
        have C1 : ∀ c : Nat, (convert 25 9 (.slice (some ⟨b, off + k, none⟩) 2 c)).run Tryz.prog w = .ok (.string (bstr (part T k 2))) w := fun c => by
          have := conv_bytes (cp := c) HP
          rwa [hpl] at this
        have t1 : ((k : Int) + 2).toNat = k + 2 := by omega
        have t2 : ¬ (cp = k) := by omega
        have t3 : k + 2 - k = 2 := by omega
        have b1 : (0 : Int) ≤ (k : Int) + 2 := by omega
        have b2 : k ≤ k + 2 := by omega
        have b3 : k + 2 ≤ cp := by omega
        have b4 : (k : Int) ≤ (k : Int) + 2 := by omega
        clear HP hpl hc
        by_cases e : ((bstr (part T k 2)).toList == [x, y]) = true
        · go_wp2_with fail
          go_ret
          exact ⟨⟨_, rfl, fun h => by cases h⟩, rfl⟩
        · replace e := Bool.eq_false_iff.mpr e
          have HN2 : Hd (∀ i, i < k + 1 → i + 2 ≤ T.length → ((bstr (part T i 2)).toList == [x, y]) = false) := ⟨fun i hi h2 => by
            rcases Nat.lt_or_ge i k with h' | h'
            · exact HN.out i h' h2
            · obtain rfl : i = k := by omega
              exact e⟩
          go_wp2_with fail
          go_roundg gk
          case measure => exact Nat.lt_succ_self _
          case rel => exact ⟨k + 1, by go_num, ⟨by have := HK.out; omega⟩, HN2, rfl⟩
    · have d1 : decide ((k : Int) + 2 ≤ (T.length : Int)) = false := decide_eq_false hlt
      go_wp2_with fail
      go_ret
      exact ⟨⟨_, rfl, fun _ i hi => by have := HN.out i (by omega) hi; simpa using this⟩, rfl⟩
end Go.Proofs.YtfcedenofbefcaaGreatDoor
