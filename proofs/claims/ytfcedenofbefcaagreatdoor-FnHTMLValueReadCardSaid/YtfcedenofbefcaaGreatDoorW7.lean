import Derived.Test.YtfcedenofbefcaaGreatDoorW4
import Derived.Test.YtfcedenofbefcaaGreatDoorQ8
import Derived.Test.YtfcedenofbefcaaGreatDoorHP
namespace Go.Proofs.YtfcedenofbefcaaGreatDoor
open Go.RowKit
set_option linter.unusedVariables false
set_option linter.unusedSimpArgs false
set_option maxHeartbeats 4000000 in
set_option maxRecDepth 100000 in
theorem joined9_calls {w : World} {gp : Nat} {PL : List Part} {f : Nat × Nat} (hp : w.heap[gp]? = some (.cells (PL.map Part.val).toArray 25 f)) (hPL : PL.length ≤ 1000) (hd : ∀ x ∈ PL, Slc w x.1 x.2.1 x.2.2) (hlen : (PL.flatMap (·.2.1)).length ≤ 1000000) :
    Calls Tryz.prog 15 #[.slice (some ⟨gp, 0, none⟩) PL.length PL.length] w (JoinPost (PL.flatMap (·.2.1)) w) := by
  obtain ⟨i0, hi, hz0, hz1, hz2⟩ := info_parts Tryz.info5
  have HP := Hd.mk hp
  have hgl := lt_of_heap hp
  have HD := Hd.mk hd
  have HI := Hd.mk (And.intro hi (And.intro hz0 (And.intro hz1 hz2)))
  clear hp hd hi hz0 hz1 hz2
  go_enter Tryz.func15, Tryz.ntmps15
  go_wp2
  go_loopg [3, 9] PL.length (fun gk v3 v9 w' => ∃ k : Nat, v9 = .int .i64 k ∧ Hd (k + gk = PL.length) ∧ Hd (w'.ownsRow w.heap.size 5 1 v3 ((PL.take k).flatMap (·.2.1)).length (((PL.take k).flatMap (·.2.1)).map (Value.int .u8))) ∧ Hd (Below w.heap.size w w'))
  case atStart => exact ⟨0, rfl, ⟨by omega⟩, ⟨World.ownsRow_made (e := 5) (size := 1) w #[] 0 (Nat.le_refl _) (by unfold maxLen; omega) rfl⟩, ⟨(Below.refl _ _).alloc (Nat.le_refl _) _⟩⟩
  case round =>
    obtain ⟨k, rfl, HK, HO, HB⟩ := hrel
    cases gk with
    | zero =>
      have hk : k = PL.length := by have := HK.out; omega
      subst hk
      have ho := HO.out
      rw [List.take_of_length_le (Nat.le_refl _)] at ho
      have HQ := Hd.mk (own_bytes ho (by omega))
      clear ho
      go_wp2
      go_ret
      obtain ⟨_, A', c', rfl, hB, hc, hA, hN⟩ := HQ.out
      exact ⟨⟨A', c', rfl, ⟨hB, hc, hN⟩, fun lo => ⟨hB, hc, fun _ ad e => by obtain ⟨_, cs, f, hh⟩ := hA ad e; exact .inr ⟨cs, f, hh⟩⟩, fun ad e => (hA ad e).1⟩, HB.out⟩
    | succ gk =>
      have hlt : k < PL.length := by have := HK.out; omega
      have hkl : (k : Int) < (PL.length : Int) := by omega
      have hkb : k < 1000 := by omega
      obtain ⟨x, hx⟩ : ∃ x, PL[k]? = some x := ⟨_, List.getElem?_eq_getElem hlt⟩
      have c0 : wr.cell? ⟨gp, k, none⟩ = some x.val := by
        rw [cell_of_block ((HB.out.block _ hgl).trans HP.out)]
        simp [hx]
      have hSx := HD.out x (List.mem_of_getElem? hx)
      have hBx := hSx.b
      have hNx : x.1 = none → x.2.1 = [] ∧ x.2.2 = 0 := fun e => ⟨List.eq_nil_of_length_eq_zero (by have := hSx.k; have := hSx.z e; omega), hSx.z e⟩
      clear hSx
      have hBx' := hBx.below' HB.out
      have ht := Hd.mk (flat_take PL k x hx)
      have hle : ((PL.take k).flatMap (·.2.1)).length + x.2.1.length ≤ 1000000 := by
        have := flat_len_le PL (k + 1)
        rw [ht.out, List.length_append] at this
        omega
      have hsz := HB.out.size
      obtain ⟨hi, hz0, hz1, hz2⟩ := HI.out
      generalize hS : (PL.take k).flatMap (·.2.1) = S at HO hle ht
      have HS := Hd.mk hS
      obtain ⟨xA, xD, xc⟩ := x
      unfold Part.val at c0
      dsimp only at c0 hBx hBx' hNx ht hle
      have HX := Hd.mk hx
      clear hS hx hBx
      cases xA with
      | none =>
        obtain ⟨rfl, rfl⟩ := hNx rfl
        clear hNx hBx' hle
        go_wp2_with (at_builtin; refine wpList_append_own_none rfl _ _ 25 rfl w.heap.size 5 i0 1 Tryz.underlying25 hi _ S.length (S.map (Value.int .u8)) rfl HO.out rfl ?_)
        go_roundg gk
        case measure => exact Nat.lt_succ_self _
        case rel => exact ⟨k + 1, by go_num, ⟨by have := HK.out; omega⟩, ⟨by rw [ht.out, List.append_nil]; exact HO.out⟩, HB⟩
      | some ad =>
        obtain ⟨b, off, hbo⟩ : ∃ b off, 0 < xD.length → (ad = ⟨b, off, none⟩ ∧ ∀ j, j < xD.length → wr.cell? ⟨b, off + j, none⟩ = some (.int .u8 (xD.getD j 0))) := by
          by_cases h0 : 0 < xD.length
          · obtain ⟨b, o, e, hc⟩ := hBx'.cells h0
            exact ⟨b, o, fun _ => ⟨by injection e, hc⟩⟩
          · exact ⟨0, 0, fun h => absurd h h0⟩
        have HC : Hd (∀ j u, (xD.map (Value.int .u8))[j]? = some u → wr.cell? (ad.add j) = some u) := ⟨fun j u hu => by
          have hj : j < xD.length := by
            rcases Nat.lt_or_ge j xD.length with h' | h'
            · exact h'
            · rw [List.getElem?_eq_none (by simpa using h')] at hu; cases hu
          obtain ⟨rfl, hc⟩ := hbo (by omega)
          rw [bytes_at hj] at hu
          cases hu
          rw [addr_add]
          exact hc j hj⟩
        have hU : ∀ u ∈ xD.map (Value.int .u8), u.oneCell' = true := by
          intro u hu
          obtain ⟨z, _, rfl⟩ := List.mem_map.mp hu
          rfl
        have HU := Hd.mk hU
        clear hbo hBx' hNx hU
        go_wp2_with (at_builtin; refine wpList_append_own _ rfl _ _ 25 rfl w.heap.size 5 i0 (.int .u8 0) 1 1 Tryz.underlying25 hi hz0 hz1 hz2 rfl (by decide) _ _ _ rfl HO.out ad xD.length xc (xD.map (Value.int .u8)) rfl ?c0 HC.out HU.out ?c3 ?c4 ?c5 ?_)
        case c3 => unfold maxLen; omega
        case c4 => omega
        intro v' w1 hown1 hgrow _
        have HO1 := Hd.mk hown1
        have HB1 : Hd (Below w.heap.size w w1) := ⟨Below.grown HB.out hgrow hsz fun g hg => (HO.out.lt g hg).1⟩
        clear hown1 hgrow hi hz0 hz1 hz2
        go_wp2
        go_roundg gk
        case measure => exact Nat.lt_succ_self _
        case rel => exact ⟨k + 1, by go_num, ⟨by have := HK.out; omega⟩, ⟨by rw [ht.out, List.length_append, List.map_append]; exact HO1.out⟩, HB1⟩
set_option maxHeartbeats 4000000 in
set_option maxRecDepth 100000 in
/-- Whether a part of four bytes stands in a text. -/
theorem contains4_calls {w : World} {A : Option Addr} {cp : Nat} {T : List Int} (h : Bytes w A T) (hcp : T.length ≤ cp) (x y z u : UInt8) :
    Calls Tryz.prog 40 #[.slice A T.length cp, .string ⟨#[x, y, z, u]⟩] w (Says0 (fun b => b = false → ∀ i, i + 4 ≤ T.length → ((bstr (part T i 4)).toList == [x, y, z, u]) = false) w) := by
  have hlen := h.len
  have HH := Hd.mk h
  clear h
  go_enter Tryz.func40, Tryz.ntmps40
  go_wp2_with fail
  go_loopg [5] T.length (fun gk v5 w' => ∃ k : Nat, v5 = .int .i64 k ∧ Hd (k + gk = T.length) ∧ Hd (∀ i, i < k → i + 4 ≤ T.length → ((bstr (part T i 4)).toList == [x, y, z, u]) = false) ∧ w = w')
  case atStart => exact ⟨0, rfl, ⟨by omega⟩, ⟨fun i hi => absurd hi (Nat.not_lt_zero _)⟩, rfl⟩
  case round =>
    obtain ⟨k, rfl, HK, HN, rfl⟩ := hrel
    have hkl : k ≤ T.length := by have := HK.out; omega
    have hwr : wrap64 ((k : Int) + 4) = (k : Int) + 4 := wrap_small (by omega) (by omega)
    by_cases hlt : (k : Int) + 4 ≤ (T.length : Int)
    · have d1 : decide ((k : Int) + 4 ≤ (T.length : Int)) = true := decide_eq_true hlt
      cases gk with
      | zero => have := HK.out; omega
      | succ gk =>
        obtain ⟨b, off, rfl, hc⟩ := HH.out.cells (by omega)
        have HP := part_bytes hlen k 4 (by omega) hc
        have hpl : (part T k 4).length = 4 := part_length (by omega)
        have HE := Hd.mk hpl
        have C1 : ∀ c : Nat, (convert 25 9 (.slice (some ⟨b, off + k, none⟩) 4 c)).run Tryz.prog w = .ok (.string (bstr (part T k 4))) w := fun c => by
          have := conv_bytes (cp := c) HP
          rwa [hpl] at this
        have t1 : ((k : Int) + 4).toNat = k + 4 := by omega
        have t2 : ¬ (cp = k) := by omega
        have t3 : k + 4 - k = 4 := by omega
        have b1 : (0 : Int) ≤ (k : Int) + 4 := by omega
        have b2 : k ≤ k + 4 := by omega
        have b3 : k + 4 ≤ cp := by omega
        have b4 : (k : Int) ≤ (k : Int) + 4 := by omega
        clear HP hpl hc
        by_cases e : ((bstr (part T k 4)).toList == [x, y, z, u]) = true
        · go_wp2_with fail
          go_ret
          exact ⟨⟨_, rfl, fun h => by cases h⟩, rfl⟩
        · replace e := Bool.eq_false_iff.mpr e
          have HN2 : Hd (∀ i, i < k + 1 → i + 4 ≤ T.length → ((bstr (part T i 4)).toList == [x, y, z, u]) = false) := ⟨fun i hi h2 => by
            rcases Nat.lt_or_ge i k with h' | h'
            · exact HN.out i h' h2
            · obtain rfl : i = k := by omega
              exact e⟩
          go_wp2_with fail
          go_roundg gk
          case measure => exact Nat.lt_succ_self _
          case rel => exact ⟨k + 1, by go_num, ⟨by have := HK.out; omega⟩, HN2, rfl⟩
    · have d1 : decide ((k : Int) + 4 ≤ (T.length : Int)) = false := decide_eq_false hlt
      go_wp2_with fail
      go_ret
      exact ⟨⟨_, rfl, fun _ i hi => by have := HN.out i (by omega) hi; simpa using this⟩, rfl⟩
theorem raw_of {T : List Int} (h1 : ∀ c ∈ T, c ≠ 0) (h2 : ∀ i, i + 2 ≤ T.length → ((bstr (part T i 2)).toList == [60, 47]) = false) (h3 : ∀ i, i + 4 ≤ T.length → ((bstr (part T i 4)).toList == [60, 33, 45, 45]) = false) (h4 : T.getD (T.length - 1) 0 ≠ 60) : RawC T := by
  refine ⟨h1, fun X Y e => ?_, fun X Y e => ?_, fun X e => ?_⟩
  · have := h2 X.length (by rw [e]; simp)
    have ep : part T X.length 2 = [60, 47] := by unfold part; rw [e, List.drop_left]; rfl
    rw [ep] at this
    exact absurd this (by decide +kernel)
  · have := h3 X.length (by rw [e]; simp)
    have ep : part T X.length 4 = [60, 33, 45, 45] := by unfold part; rw [e, List.drop_left]; rfl
    rw [ep] at this
    exact absurd this (by decide +kernel)
  · refine h4 ?_
    rw [e]
    simp
set_option maxHeartbeats 4000000 in
theorem IsRaw_calls {w : World} {A : Option Addr} {cp : Nat} {T : List Int} (h : Bytes w A T) (hcp : T.length ≤ cp) :
    Calls Tryz.prog 13 #[.slice A T.length cp] w (Says0 (fun b => b = true → 0 < T.length ∧ T.length ≤ 500 ∧ RawC T) w) := by
  have HH := Hd.mk h
  have hlen := h.len
  clear h
  go_enter Tryz.func13, Tryz.ntmps13
  by_cases h0 : (0 : Int) < (T.length : Int)
  · have d0 : decide ((0 : Int) < (T.length : Int)) = true := decide_eq_true h0
    have H0 := Hd.mk h0
    by_cases h4 : (T.length : Int) ≤ 500
    · have d4 : decide ((T.length : Int) ≤ 500) = true := decide_eq_true h4
      have H4 := Hd.mk h4
      obtain ⟨b, off, rfl, hc⟩ := HH.out.cells (by omega)
      have hl := hc (T.length - 1) (by omega)
      generalize hx : T.getD (T.length - 1) 0 = x at hl
      have HX := Hd.mk hx
      clear hc hx
      have hw1 : wrap64 ((T.length : Int) - 1) = (T.length : Int) - 1 := wrap_small (by omega) (by omega)
      have hw2 : ((T.length : Int) - 1).toNat = T.length - 1 := by omega
      have hw3 : (0 : Int) ≤ (T.length : Int) - 1 := by omega
      have hw4 : (T.length : Int) - 1 < (T.length : Int) := by omega
      have hw6 : 0 < T.length := by omega
      clear h0 h4
      go_wp2_with fail
      refine (Has_calls HH.out 0).mono ?_
      rintro e w' ⟨rfl, rfl⟩
      have HN2 := Hd.mk (hasB_no (T := T) (c := 0))
      generalize hasB T 0 = r2 at HN2 ⊢
      cases r2 with
      | true =>
        go_wp2_with fail
        go_ret
        exact ⟨⟨_, rfl, fun h => by cases h⟩, rfl⟩
      | false =>
        replace HN2 := Hd.mk (HN2.out rfl)
        go_wp2_with fail
        refine (contains2_calls HH.out hcp 60 47).mono ?_
        rintro e w' ⟨⟨r1, rfl, hr1⟩, rfl⟩
        cases r1 with
        | true =>
          clear hr1
          go_wp2_with fail
          go_ret
          exact ⟨⟨_, rfl, fun h => by cases h⟩, rfl⟩
        | false =>
          have HR1 := Hd.mk (hr1 rfl)
          clear hr1
          go_wp2_with fail
          refine (contains4_calls HH.out hcp 60 33 45 45).mono ?_
          rintro e w' ⟨⟨r3, rfl, hr3⟩, rfl⟩
          cases r3 with
          | true =>
            clear hr3
            go_wp2_with fail
            go_ret
            exact ⟨⟨_, rfl, fun h => by cases h⟩, rfl⟩
          | false =>
            have HR3 := Hd.mk (hr3 rfl)
            clear hr3
            by_cases hx : (x != 60) = true
            · go_wp2_with fail
              go_ret
              exact ⟨⟨_, rfl, fun _ => ⟨by have := H0.out; omega, by have := H4.out; omega, raw_of HN2.out HR1.out HR3.out (by rw [HX.out]; simpa using hx)⟩⟩, rfl⟩
            · replace hx := Bool.eq_false_iff.mpr hx
              go_wp2_with fail
              go_ret
              exact ⟨⟨_, rfl, fun h => by cases h⟩, rfl⟩
    · have d4 : decide ((T.length : Int) ≤ 500) = false := decide_eq_false h4
      go_wp2_with fail
      go_ret
      exact ⟨⟨_, rfl, fun h => by cases h⟩, rfl⟩
  · have d0 : decide ((0 : Int) < (T.length : Int)) = false := decide_eq_false h0
    have hz : ¬ 0 < T.length := by omega
    clear h0
    go_wp2_with fail
    go_ret
    exact ⟨⟨_, rfl, fun h => by cases h⟩, rfl⟩
theorem rawName_calls {w : World} (k : Int) : Calls Tryz.prog 14 #[.int .i64 k] w fun e w' => (∃ nm, e = .returned (.string (bstr nm)) ∧ nm ∈ rawNames) ∧ w = w' := by
  go_enter Tryz.func14, Tryz.ntmps14
  by_cases e0 : (k == 0) = true
  · go_wp2_with fail
    go_ret
    exact ⟨⟨[115, 99, 114, 105, 112, 116], rfl, by decide⟩, rfl⟩
  replace e0 := Bool.eq_false_iff.mpr e0
  by_cases e1 : (k == 1) = true
  · go_wp2_with fail
    go_ret
    exact ⟨⟨[115, 116, 121, 108, 101], rfl, by decide⟩, rfl⟩
  replace e1 := Bool.eq_false_iff.mpr e1
  by_cases e2 : (k == 2) = true
  · go_wp2_with fail
    go_ret
    exact ⟨⟨[116, 105, 116, 108, 101], rfl, by decide⟩, rfl⟩
  replace e2 := Bool.eq_false_iff.mpr e2
  by_cases e3 : (k == 3) = true
  · go_wp2_with fail
    go_ret
    exact ⟨⟨[116, 101, 120, 116, 97, 114, 101, 97], rfl, by decide⟩, rfl⟩
  replace e3 := Bool.eq_false_iff.mpr e3
  by_cases e4 : (k == 4) = true
  · go_wp2_with fail
    go_ret
    exact ⟨⟨[120, 109, 112], rfl, by decide⟩, rfl⟩
  replace e4 := Bool.eq_false_iff.mpr e4
  go_wp2_with fail
  go_ret
  exact ⟨⟨[105, 102, 114, 97, 109, 101], rfl, by decide⟩, rfl⟩
end Go.Proofs.YtfcedenofbefcaaGreatDoor
