import Derived.Test.YtfcedenofbefcaaGreatDoorK9
import Derived.WalkMore
import Derived.Laws.BitsAllLaws
import Derived.ScopeJumps
namespace Go.Proofs.YtfcedenofbefcaaGreatDoor
open Go.RowKit
set_option linter.unusedVariables false
set_option linter.unusedSimpArgs false
def htext : List Int := [105, 102, 114, 97, 109, 101, 109, 97, 116, 104, 115, 99, 114, 105, 112, 116, 105, 116, 108, 101, 115, 116, 121, 108, 101, 115, 118, 103, 120, 109, 108, 120, 109, 112, 108, 97, 105, 110, 116, 101, 120, 116, 97, 114, 101, 97]
def nameOf (e : Int) : List Int := (htext.drop (e.toNat / 256)).take (e.toNat % 256)
def fnvStep (h c : Int) : Int := (bits .xor .u32 h (c % 4294967296) * 16777619) % 4294967296
def fnv (T : List Int) : Int := T.foldl fnvStep 3031929011
def hashE1 (T : List Int) : Int := htab.getD (bits .and .u32 (fnv T) 15).toNat 0
def hashE2 (T : List Int) : Int := htab.getD (bits .and .u32 (fnv T / 65536) 15).toNat 0
/-- The number of a name; 0 of any other text. -/
def toHash (T : List Int) : Int :=
  if T.length = 0 ∨ 9 < T.length then 0 else if nameOf (hashE1 T) = T then hashE1 T else if nameOf (hashE2 T) = T then hashE2 T else 0
theorem entry_facts : ∀ i : Fin 16, bits .and .u32 (htab.getD i.val 0) 255 = (((htab.getD i.val 0).toNat % 256 : Nat) : Int) ∧ (htab.getD i.val 0) / 256 = (((htab.getD i.val 0).toNat / 256 : Nat) : Int) ∧ (htab.getD i.val 0).toNat / 256 + (htab.getD i.val 0).toNat % 256 ≤ 46 ∧ (htab.getD i.val 0).toNat % 256 ≤ 9 := by decide
theorem and15 (h : Int) : ∃ i : Nat, i < 16 ∧ bits .and .u32 h 15 = (i : Int) := by
  have h1 : ((BitVec.ofInt 32 h &&& BitVec.ofInt 32 15).toNat) ≤ 15 := by
    rw [BitVec.toNat_and]
    exact Nat.and_le_right
  refine ⟨(BitVec.ofInt 32 h &&& BitVec.ofInt 32 15).toNat, by omega, ?_⟩
  show IntKind.u32.wrap ((BitVec.ofInt 32 h &&& BitVec.ofInt 32 15).toNat : Int) = _
  rw [IntKind.wrap_u32']
  omega
theorem nameOf_len {e : Int} (h : e.toNat / 256 + e.toNat % 256 ≤ 46) : (nameOf e).length = e.toNat % 256 := by
  unfold nameOf
  rw [List.length_take, List.length_drop]
  have : htext.length = 46 := rfl
  omega
theorem fnv_succ {T : List Int} {k : Nat} (hk : k < T.length) : fnv (T.take (k + 1)) = fnvStep (fnv (T.take k)) (T.getD k 0) := by
  unfold fnv
  rw [List.take_succ_eq_append_getElem hk, List.foldl_append, List.getD_eq_getElem?_getD, List.getElem?_eq_getElem hk]
  rfl
set_option maxRecDepth 100000 in
theorem HashText_calls {w : World} : Calls Tryz.prog 95 #[] w fun e w' => e = .returned (.slice (some ⟨w.heap.size, 0, none⟩) 46 46) ∧ Bytes w' (some ⟨w.heap.size, 0, none⟩) htext ∧ Below w.heap.size w w' := by
  have hcv := fun C => conv25s w C
  go_enter Tryz.func95, Tryz.ntmps95
  go_wp2_with fail
  go_ret
  exact ⟨rfl, lit_bytes htext, (Below.refl _ _).alloc (Nat.le_refl _) _⟩
def HashJ (w : World) (A : Option Addr) (T : List Int) (cp : Nat) (H x1 : Int) : Act → World → Prop := (fun a' w' => (∃ (u1 u2 u4 u5 u6 u7 u8 u9 u10 u11 u12 u13 u14 u15 u16 u17 u18 u19 u20 u21 u22 u23 u24 u25 u26 u27 u28 u29 u30 u31 u32 u33 u34 u35 u36 u37 u38 u39 u40 u41 u42 u43 u44 u45 u46 u47 u48 u49 u50 u51 u52 u53 u54 u55 u56 u57 u58 u59 u60 u61 u62 u63 u64 u65 u66 u67 u68 u69 u70 u71 u72 u73 u74 u75 u76 u77 u78 u79 u80 u81 u82 u83 u84 u85 u86 u87 u88 u89 u90 u91 u92 u93 u94 u95 u96 u97 u98 u99 u100 u101 u102 u103 u104 : Value), a' = { tmps := #[.slice A T.length cp, u1, u2, .int .u32 H, u4, u5, u6, u7, u8, u9, u10, u11, u12, u13, u14, u15, u16, u17, u18, u19, u20, u21, u22, u23, u24, u25, u26, u27, u28, u29, u30, u31, u32, u33, u34, u35, u36, u37, u38, u39, u40, u41, u42, u43, u44, u45, u46, u47, u48, u49, u50, u51, u52, u53, u54, u55, u56, u57, u58, u59, u60, u61, u62, u63, u64, u65, u66, u67, u68, u69, u70, u71, u72, u73, u74, u75, u76, u77, u78, u79, u80, u81, u82, u83, u84, u85, u86, u87, u88, u89, u90, u91, u92, u93, u94, u95, u96, u97, u98, u99, u100, u101, u102, u103, u104], defers := [] }) ∧ Hd (Below w.heap.size w w') ∧ Hd (nameOf x1 ≠ T))
theorem below_drewN (w : World) (n m : Nat) : Below n w (w.drewN m) := ⟨rfl, rfl, rfl, Nat.le_refl _, fun _ _ => rfl⟩
theorem list_eq_of {S T : List Int} (hl : S.length = T.length) (h : ∀ j, j < T.length → S.getD j 0 = T.getD j 0) : S = T := List.ext_getElem hl fun i h1 h2 => by
  have := h i h2
  rwa [List.getD_eq_getElem?_getD, List.getD_eq_getElem?_getD, List.getElem?_eq_getElem h1, List.getElem?_eq_getElem h2] at this
theorem entry_at {w : World} (ht : HTab w) (i : Nat) (hi : i < 16) : ∃ (x : Int) (o n : Nat), htab.getD i 0 = x ∧ w.cell? ⟨2, i, none⟩ = some (.int .u32 x) ∧ bits .and .u32 x 255 = (n : Int) ∧ x / 256 = (o : Int) ∧ o + n ≤ 46 ∧ n ≤ 9 ∧ nameOf x = (htext.drop o).take n ∧ (nameOf x).length = n := by
  obtain ⟨h1, h2, h3, h4⟩ := entry_facts ⟨i, hi⟩
  exact ⟨_, _, _, rfl, ht.cells i hi, h1, h2, h3, h4, rfl, nameOf_len h3⟩
set_option maxHeartbeats 8000000 in
set_option maxRecDepth 100000 in
theorem Hash_calls {w : World} {A : Option Addr} {cp : Nat} {T : List Int} (h : Bytes w A T) (ht : HTab w) :
    Calls Tryz.prog 91 #[.slice A T.length cp] w fun e w' => e = .returned (.int .u32 (toHash T)) ∧ Below w.heap.size w w' := by
  have hlen := h.len
  by_cases h0 : T.length = 0 ∨ 9 < T.length
  · have hr : toHash T = 0 := by unfold toHash; rw [if_pos h0]
    rw [hr]
    by_cases h00 : T.length = 0
    · have d0 : ((T.length : Int) == 0) = true := by rw [beq_iff_eq]; omega
      go_enter Tryz.func91, Tryz.ntmps91
      go_wp2
      refine wp_scope_straight ?_
      go_wp2
      simp only [Exit.noGoto_ret]
      go_ret
      exact ⟨rfl, Below.refl _ _⟩
    · have d0 : ((T.length : Int) == 0) = false := by rw [beq_eq_false_iff_ne]; omega
      have d9 : decide ((9 : Int) < (T.length : Int)) = true := by rw [decide_eq_true_iff]; omega
      go_enter Tryz.func91, Tryz.ntmps91
      go_wp2
      refine wp_scope_straight ?_
      go_wp2
      simp only [Exit.noGoto_ret]
      go_ret
      exact ⟨rfl, Below.refl _ _⟩
  obtain ⟨h0, h9⟩ : ¬ T.length = 0 ∧ ¬ 9 < T.length := ⟨fun e => h0 (.inl e), fun e => h0 (.inr e)⟩
  have hT9 : T.length ≤ 9 := by omega
  have hR : toHash T = if nameOf (hashE1 T) = T then hashE1 T else if nameOf (hashE2 T) = T then hashE2 T else 0 := by
    unfold toHash
    rw [if_neg (by omega)]
  unfold hashE1 hashE2 at hR
  obtain ⟨i1, hi1, q1⟩ := and15 (fnv T)
  obtain ⟨i2, hi2, q2⟩ := and15 (fnv T / 65536)
  rw [q1, q2, Int.toNat_natCast, Int.toNat_natCast] at hR
  obtain ⟨x1, o1, n1, ex1, hc1, a1, b1, s1, m1, hn1, hl1⟩ := entry_at ht i1 hi1
  obtain ⟨x2, o2, n2, ex2, hc2, a2, b2, s2, m2, hn2, hl2⟩ := entry_at ht i2 hi2
  rw [ex1, ex2] at hR
  have hsum1 : ((o1 : Int) + (n1 : Int)) % 4294967296 = ((o1 + n1 : Nat) : Int) := by omega
  have hsum2 : ((o2 : Int) + (n2 : Int)) % 4294967296 = ((o2 + n2 : Nat) : Int) := by omega
  have HR := Hd.mk hR
  have HN1 := Hd.mk (And.intro hn1 hl1)
  have HN2 := Hd.mk (And.intro hn2 hl2)
  have hcell2 : ∀ w', Below w.heap.size w w' → w'.cell? ⟨2, i2, none⟩ = some (.int .u32 x2) := fun w' k => (k.cell (p := ⟨2, i2, none⟩) (World.block_lt_of_cell? _ _ hc2)).trans hc2
  have HF : Hd (∀ k, k < T.length → fnv (T.take (k + 1)) = fnvStep (fnv (T.take k)) (T.getD k 0)) := ⟨fun k hk => fnv_succ hk⟩
  have HE : Hd (fnv (T.take T.length) = fnv T) := ⟨by rw [List.take_length]⟩
  clear hR hn1 hl1 hn2 hl2 ex1 ex2 hc2
  have d0 : ((T.length : Int) == 0) = false := by rw [beq_eq_false_iff_ne]; omega
  have d9 : decide ((9 : Int) < (T.length : Int)) = false := by rw [decide_eq_false_iff_not]; omega
  generalize hH : fnv T = H at q1 q2 HE
  go_enter Tryz.func91, Tryz.ntmps91
  go_wp2
  refine wp_scope_jumps 0 (HashJ w A T cp H x1) (fun _ _ => 0) rfl ?_ ?_
  · go_wp2_with fail
    go_loop [3, 4] (fun v3 v4 => ∃ k : Nat, k ≤ T.length ∧ v4 = .int .i64 k ∧ v3 = .int .u32 (fnv (T.take k))) (fun _ i => T.length - (intOf i).toNat)
    case atStart => exact ⟨0, Nat.zero_le _, rfl, rfl⟩
    case round =>
      obtain ⟨k, hk, rfl, rfl⟩ := hrel
      by_cases hlt : k < T.length
      · obtain ⟨b0, off, rfl, hc⟩ := h.cells (by omega)
        have hcell := hc k hlt
        have e := HF.out k hlt
        generalize T.getD k 0 = c at hcell e
        generalize fnv (T.take k) = f0 at e
        clear hc
        go_wp2_with fail
        go_round
        case rel => exact ⟨k + 1, by omega, by go_num, by rw [e]; rfl⟩
        case measure => simp [intOf]; omega
      · obtain rfl : k = T.length := by omega
        rw [HE.out]
        by_cases hn1 : n1 = T.length
        · 
          subst hn1
          have dn1 : ((T.length : Int) == (T.length : Int)) = true := beq_iff_eq.mpr rfl
          have dz1 : o1 + T.length - o1 = T.length := by omega
          go_wp2_with fail
          refine HashText_calls.mono ?_
          rintro e w1 ⟨rfl, hb1, hB1⟩
          have HB1 := Hd.mk hB1
          have hTb1 := Hd.mk (h.below HB1.out)
          have hXb1 := Hd.mk (hb1)
          clear hb1 hB1
          have z1 : (0 : Int) ≤ (o1 : Int) := by omega
          have z2 : (o1 : Int) ≤ ((o1 + T.length : Nat) : Int) := by omega
          have z3 : ((o1 + T.length : Nat) : Int) ≤ 46 := by omega
          go_wp2_with fail
          go_loopg [7] T.length (fun gk v wz => ∃ k : Nat, v = .int .i64 k ∧ Hd (k + gk = T.length) ∧ Hd (∀ j, j < k → (nameOf x1).getD j 0 = T.getD j 0) ∧ Hd (Below w.heap.size w wz) ∧ Hd (Bytes wz (some ⟨w.heap.size, 0, none⟩) htext))
          case atStart => exact ⟨0, rfl, ⟨by omega⟩, ⟨fun j hj => by omega⟩, HB1, hXb1⟩
          case round =>
            obtain ⟨k, rfl, HKg, HJ, HBr, HXr⟩ := hrel
            clear hTb1 hXb1 HB1
            cases gk with
            | succ gk =>
              have hlt : k < T.length := by have := HKg.out; omega
              obtain ⟨b0, off, rfl, hc⟩ := (h.below HBr.out).cells (by omega)
              have hcell := hc k hlt
              obtain ⟨b9, o9, e9, hx9⟩ := HXr.out.cells (by decide)
              cases e9
              have hxc := hx9 (o1 + k) (by have : htext.length = 46 := rfl; omega)
              rw [Nat.zero_add] at hxc
              have hxy : (nameOf x1).getD k 0 = htext.getD (o1 + k) 0 := by rw [HN1.out.1]; exact sub_getD hlt (by have : htext.length = 46 := rfl; omega)
              clear hc hx9
              generalize hct : T.getD k 0 = ct at hcell
              generalize hcx : htext.getD (o1 + k) 0 = cx at hxc hxy
              have HCT := Hd.mk hct
              have HXY := Hd.mk hxy
              clear hct hcx hxy
              have hkl : (k : Int) < (T.length : Int) := by omega
              have hk0 : (0 : Int) ≤ (k : Int) := by omega
              by_cases hq : cx = ct
              · have dq : (cx != ct) = false := by rw [hq]; simp
                have HQ := Hd.mk hq
                clear hq
                go_wp2_with fail
                go_quiet (fail)
                go_wp2_with fail
                go_roundg gk
                case measure => exact Nat.lt_succ_self _
                case rel => exact ⟨k + 1, by go_num, ⟨by have := HKg.out; omega⟩, ⟨fun j hj => by
                  rcases Nat.lt_or_ge j k with h' | h'
                  · exact HJ.out j h'
                  · obtain rfl : j = k := by omega
                    rw [HXY.out, HCT.out, HQ.out]⟩, ⟨HBr.out.trans (below_drewN _ _ _)⟩, ⟨HXr.out.below (below_drewN _ _ _)⟩⟩
              · have dq : (cx != ct) = true := by simp [hq]
                have hne : nameOf x1 ≠ T := fun e => hq (by rw [← HXY.out, ← HCT.out, e])
                have HNE := Hd.mk hne
                clear hq hne
                go_wp2_with fail
                go_quiet (fail)
                go_wp2_with fail
                go_step3
                exact ⟨rfl, ⟨⟨_, _, _, _, _, _, _, _, _, _, _, _, _, _, _, _, _, _, _, _, _, _, _, _, _, _, _, _, _, _, _, _, _, _, _, _, _, _, _, _, _, _, _, _, _, _, _, _, _, _, _, _, _, _, _, _, _, _, _, _, _, _, _, _, _, _, _, _, _, _, _, _, _, _, _, _, _, _, _, _, _, _, _, _, _, _, _, _, _, _, _, _, _, _, _, _, _, _, _, _, _, _, _, rfl⟩, ⟨HBr.out.trans (below_drewN _ _ _)⟩, HNE⟩⟩
            | zero =>
              obtain rfl : k = T.length := by have := HKg.out; omega
              have he : nameOf x1 = T := list_eq_of HN1.out.2 HJ.out
              have HE9 := Hd.mk he
              clear he
              go_wp2_with fail
              simp only [Exit.jump]
              go_ret
              exact ⟨by rw [HR.out, if_pos HE9.out]; rfl, HBr.out⟩

        · have dn : ((n1 : Int) == (T.length : Int)) = false := by rw [beq_eq_false_iff_ne]; omega
          have hne1 : nameOf x1 ≠ T := fun e => hn1 (by rw [← HN1.out.2, e])
          go_wp2_with fail
          go_step3
          have hc2 := hcell2 w (Below.refl _ _)
          by_cases hn2 : n2 = T.length
          ·
            subst hn2
            have dn2 : ((T.length : Int) == (T.length : Int)) = true := beq_iff_eq.mpr rfl
            have dz2 : o2 + T.length - o2 = T.length := by omega
            go_wp2_with fail
            refine HashText_calls.mono ?_
            rintro e w2 ⟨rfl, hb2, hB2⟩
            have hbw : Below w.heap.size w w := Below.refl _ _
            have HB2 := Hd.mk (Below.trans hbw (hB2.mono hbw.size))
            clear hbw
            have hTb2 := Hd.mk (h.below HB2.out)
            have hXb2 := Hd.mk (hb2)
            clear hb2 hB2
            have z1 : (0 : Int) ≤ (o2 : Int) := by omega
            have z2 : (o2 : Int) ≤ ((o2 + T.length : Nat) : Int) := by omega
            have z3 : ((o2 + T.length : Nat) : Int) ≤ 46 := by omega
            go_wp2_with fail
            go_loopg [10] T.length (fun gk v wz => ∃ k : Nat, v = .int .i64 k ∧ Hd (k + gk = T.length) ∧ Hd (∀ j, j < k → (nameOf x2).getD j 0 = T.getD j 0) ∧ Hd (Below w.heap.size w wz) ∧ Hd (Bytes wz (some ⟨w.heap.size, 0, none⟩) htext))
            case atStart => exact ⟨0, rfl, ⟨by omega⟩, ⟨fun j hj => by omega⟩, HB2, hXb2⟩
            case round =>
              obtain ⟨k, rfl, HKg, HJ, HBr, HXr⟩ := hrel
              clear hTb2 hXb2 HB2
              cases gk with
              | succ gk =>
                have hlt : k < T.length := by have := HKg.out; omega
                obtain ⟨b0, off, rfl, hc⟩ := (h.below HBr.out).cells (by omega)
                have hcell := hc k hlt
                obtain ⟨b9, o9, e9, hx9⟩ := HXr.out.cells (by decide)
                cases e9
                have hxc := hx9 (o2 + k) (by have : htext.length = 46 := rfl; omega)
                rw [Nat.zero_add] at hxc
                have hxy : (nameOf x2).getD k 0 = htext.getD (o2 + k) 0 := by rw [HN2.out.1]; exact sub_getD hlt (by have : htext.length = 46 := rfl; omega)
                clear hc hx9
                generalize hct : T.getD k 0 = ct at hcell
                generalize hcx : htext.getD (o2 + k) 0 = cx at hxc hxy
                have HCT := Hd.mk hct
                have HXY := Hd.mk hxy
                clear hct hcx hxy
                have hkl : (k : Int) < (T.length : Int) := by omega
                have hk0 : (0 : Int) ≤ (k : Int) := by omega
                by_cases hq : cx = ct
                · have dq : (cx != ct) = false := by rw [hq]; simp
                  have HQ := Hd.mk hq
                  clear hq
                  go_wp2_with fail
                  go_quiet (fail)
                  go_wp2_with fail
                  go_roundg gk
                  case measure => exact Nat.lt_succ_self _
                  case rel => exact ⟨k + 1, by go_num, ⟨by have := HKg.out; omega⟩, ⟨fun j hj => by
                    rcases Nat.lt_or_ge j k with h' | h'
                    · exact HJ.out j h'
                    · obtain rfl : j = k := by omega
                      rw [HXY.out, HCT.out, HQ.out]⟩, ⟨HBr.out.trans (below_drewN _ _ _)⟩, ⟨HXr.out.below (below_drewN _ _ _)⟩⟩
                · have dq : (cx != ct) = true := by simp [hq]
                  have hne : nameOf x2 ≠ T := fun e => hq (by rw [← HXY.out, ← HCT.out, e])
                  have HNE := Hd.mk hne
                  clear hq hne
                  go_wp2_with fail
                  go_quiet (fail)
                  go_wp2_with fail
                  simp only [Exit.jump]
                  go_ret
                  exact ⟨by rw [HR.out, if_neg hne1, if_neg HNE.out]; rfl, HBr.out.trans (below_drewN _ _ _)⟩
              | zero =>
                obtain rfl : k = T.length := by have := HKg.out; omega
                have he : nameOf x2 = T := list_eq_of HN2.out.2 HJ.out
                have HE9 := Hd.mk he
                clear he
                go_wp2_with fail
                simp only [Exit.jump]
                go_ret
                exact ⟨by rw [HR.out, if_neg hne1, if_pos HE9.out]; rfl, HBr.out⟩
          · have dn2 : ((n2 : Int) == (T.length : Int)) = false := by rw [beq_eq_false_iff_ne]; omega
            go_wp2_with fail
            simp only [Exit.jump]
            go_ret
            exact ⟨by rw [HR.out, if_neg hne1, if_neg (fun e => hn2 (by rw [← HN2.out.2, e]))]; rfl, Below.refl _ _⟩

  · intro a' w' hj
    obtain ⟨⟨u1, u2, u4, u5, u6, u7, u8, u9, u10, u11, u12, u13, u14, u15, u16, u17, u18, u19, u20, u21, u22, u23, u24, u25, u26, u27, u28, u29, u30, u31, u32, u33, u34, u35, u36, u37, u38, u39, u40, u41, u42, u43, u44, u45, u46, u47, u48, u49, u50, u51, u52, u53, u54, u55, u56, u57, u58, u59, u60, u61, u62, u63, u64, u65, u66, u67, u68, u69, u70, u71, u72, u73, u74, u75, u76, u77, u78, u79, u80, u81, u82, u83, u84, u85, u86, u87, u88, u89, u90, u91, u92, u93, u94, u95, u96, u97, u98, u99, u100, u101, u102, u103, u104, rfl⟩, HB, HM⟩ := hj
    have hc2 := hcell2 w' (HB.out)
    by_cases hn2 : n2 = T.length
    ·
      subst hn2
      have dn2 : ((T.length : Int) == (T.length : Int)) = true := beq_iff_eq.mpr rfl
      have dz2 : o2 + T.length - o2 = T.length := by omega
      go_wp2_with fail
      refine HashText_calls.mono ?_
      rintro e w2 ⟨rfl, hb2, hB2⟩
      have hbw : Below w.heap.size w w' := HB.out
      have HB2 := Hd.mk (Below.trans hbw (hB2.mono hbw.size))
      clear hbw
      have hTb2 := Hd.mk (h.below HB2.out)
      have hXb2 := Hd.mk (hb2)
      clear hb2 hB2
      have z1 : (0 : Int) ≤ (o2 : Int) := by omega
      have z2 : (o2 : Int) ≤ ((o2 + T.length : Nat) : Int) := by omega
      have z3 : ((o2 + T.length : Nat) : Int) ≤ 46 := by omega
      go_wp2_with fail
      go_loopg [10] T.length (fun gk v wz => ∃ k : Nat, v = .int .i64 k ∧ Hd (k + gk = T.length) ∧ Hd (∀ j, j < k → (nameOf x2).getD j 0 = T.getD j 0) ∧ Hd (Below w.heap.size w wz) ∧ Hd (Bytes wz (some ⟨w'.heap.size, 0, none⟩) htext))
      case atStart => exact ⟨0, rfl, ⟨by omega⟩, ⟨fun j hj => by omega⟩, HB2, hXb2⟩
      case round =>
        obtain ⟨k, rfl, HKg, HJ, HBr, HXr⟩ := hrel
        clear hTb2 hXb2 HB2
        cases gk with
        | succ gk =>
          have hlt : k < T.length := by have := HKg.out; omega
          obtain ⟨b0, off, rfl, hc⟩ := (h.below HBr.out).cells (by omega)
          have hcell := hc k hlt
          obtain ⟨b9, o9, e9, hx9⟩ := HXr.out.cells (by decide)
          cases e9
          have hxc := hx9 (o2 + k) (by have : htext.length = 46 := rfl; omega)
          rw [Nat.zero_add] at hxc
          have hxy : (nameOf x2).getD k 0 = htext.getD (o2 + k) 0 := by rw [HN2.out.1]; exact sub_getD hlt (by have : htext.length = 46 := rfl; omega)
          clear hc hx9
          generalize hct : T.getD k 0 = ct at hcell
          generalize hcx : htext.getD (o2 + k) 0 = cx at hxc hxy
          have HCT := Hd.mk hct
          have HXY := Hd.mk hxy
          clear hct hcx hxy
          have hkl : (k : Int) < (T.length : Int) := by omega
          have hk0 : (0 : Int) ≤ (k : Int) := by omega
          by_cases hq : cx = ct
          · have dq : (cx != ct) = false := by rw [hq]; simp
            have HQ := Hd.mk hq
            clear hq
            go_wp2_with fail
            go_quiet (fail)
            go_wp2_with fail
            go_roundg gk
            case measure => exact Nat.lt_succ_self _
            case rel => exact ⟨k + 1, by go_num, ⟨by have := HKg.out; omega⟩, ⟨fun j hj => by
              rcases Nat.lt_or_ge j k with h' | h'
              · exact HJ.out j h'
              · obtain rfl : j = k := by omega
                rw [HXY.out, HCT.out, HQ.out]⟩, ⟨HBr.out.trans (below_drewN _ _ _)⟩, ⟨HXr.out.below (below_drewN _ _ _)⟩⟩
          · have dq : (cx != ct) = true := by simp [hq]
            have hne : nameOf x2 ≠ T := fun e => hq (by rw [← HXY.out, ← HCT.out, e])
            have HNE := Hd.mk hne
            clear hq hne
            go_wp2_with fail
            go_quiet (fail)
            go_wp2_with fail
            simp only [Exit.jump]
            go_ret
            exact ⟨by rw [HR.out, if_neg HM.out, if_neg HNE.out]; rfl, HBr.out.trans (below_drewN _ _ _)⟩
        | zero =>
          obtain rfl : k = T.length := by have := HKg.out; omega
          have he : nameOf x2 = T := list_eq_of HN2.out.2 HJ.out
          have HE9 := Hd.mk he
          clear he
          go_wp2_with fail
          simp only [Exit.jump]
          go_ret
          exact ⟨by rw [HR.out, if_neg HM.out, if_pos HE9.out]; rfl, HBr.out⟩
    · have dn2 : ((n2 : Int) == (T.length : Int)) = false := by rw [beq_eq_false_iff_ne]; omega
      go_wp2_with fail
      simp only [Exit.jump]
      go_ret
      exact ⟨by rw [HR.out, if_neg HM.out, if_neg (fun e => hn2 (by rw [← HN2.out.2, e]))]; rfl, HB.out⟩

end Go.Proofs.YtfcedenofbefcaaGreatDoor
