import Derived.Test.YtfcedenofbefcaaGreatDoorK6
import Derived.Test.YtfcedenofbefcaaGreatDoorK7
import Derived.Test.YtfcedenofbefcaaGreatDoorK8
namespace Go.Proofs.YtfcedenofbefcaaGreatDoor
open Go.RowKit
set_option linter.unusedVariables false
set_option linter.unusedSimpArgs false
set_option maxHeartbeats 4000000 in
theorem Hl.atC_calls {w : World} {l z b : Nat} {B : List Int} {ET : TypeId} {EA : Addr} {p s : Int} {rt : Int} {tg : Bool} {tl th al ah : Int} {A : Option Addr} {cp : Nat} {L : List Int} (hI : Hl w l z b B ET EA p s rt tg tl th al ah) (h : Bytes w A L) (r : Bool) (H : Hd (atC B p L 0 = some r)) :
    Calls Tryz.prog 93 #[.pointer (some ⟨l, 0, none⟩), .slice A L.length cp] w fun e w' => e = .returned (.bool r) ∧ w = w' := by
  have hlen := h.len
  have hl0 := hI.c0
  go_enter Tryz.func93, Tryz.ntmps93
  go_wp2_with fail
  go_loop [9] (fun i => ∃ k : Nat, k ≤ L.length ∧ i = .int .i64 k ∧ Hd (atC B p (L.drop k) k = some r)) (fun i => L.length - (intOf i).toNat)
  case atStart => exact ⟨0, Nat.zero_le _, rfl, H⟩
  case round =>
    clear H
    obtain ⟨k, hk, rfl, H⟩ := hrel
    by_cases hlt : k < L.length
    · obtain ⟨b0, off, rfl, hc⟩ := h.cells (by omega)
      have hcell := hc k hlt
      rw [drop_step hlt] at H
      generalize L.getD k 0 = c at hcell H
      clear hc
      simp only [atC] at H
      obtain ⟨x, A1, HN⟩ := H.bind; clear H
      go_wp2_with fail
      refine (Hl.Peek_calls hI (k : Int) x A1).mono ?_
      rintro e w' ⟨rfl, rfl⟩
      by_cases hx : (x == c) = true
      · have H := HN.pos hx; clear HN
        have hxn : (x != c) = false := by simp [bne, hx]
        go_wp2_with fail
        go_round
        case rel => exact ⟨k + 1, by omega, by go_num, H⟩
        case measure => simp [intOf]; omega
      · have H := HN.neg hx; clear HN
        have hxn : (x != c) = true := by simp [bne, hx]
        by_cases hy : ((x + 32) % 256 == c) = true
        · replace H := H.pos hy
          have hyn : ((x + 32) % 256 != c) = false := by simp [bne, hy]
          go_wp2_with (first | (refine (Hl.Peek_calls hI (k : Int) x A1).mono ?_; rintro e w' ⟨rfl, rfl⟩))
          go_round
          case rel => exact ⟨k + 1, by omega, by go_num, H⟩
          case measure => simp [intOf]; omega
        · replace H := H.neg hy
          obtain rfl := H.p1
          have hyn : ((x + 32) % 256 != c) = true := by simp [bne, hy]
          go_wp2_with (first | (refine (Hl.Peek_calls hI (k : Int) x A1).mono ?_; rintro e w' ⟨rfl, rfl⟩))
          go_ret
          exact ⟨rfl, rfl⟩
    · rw [List.drop_of_length_le (by omega)] at H
      obtain rfl := H.p1
      go_wp2_with fail
      go_ret
      exact ⟨rfl, rfl⟩
theorem Hl.ShiftV_calls {w : World} {l z b : Nat} {B : List Int} {EA : Addr} {ET : TypeId} {p s : Int} {rt : Int} {tg : Bool} {tl : Int} {th : Int} {al : Int} {ah : Int} (h : Hl w l z b B ET EA p s rt tg tl th al ah) (u : Unit) (hu : Hd (sel B p s = some u)) :
    Calls Tryz.prog 61 #[.pointer (some ⟨z, 0, none⟩)] w fun e w' => (∃ A n c, e = .returned (.slice A n c) ∧ Sv b B s p A n c ∧ Hd (slv b s p = .slice A n c)) ∧ Hl w' l z b B ET EA p p rt tg tl th al ah ∧ Fr l z w w' := by
  obtain ⟨A, n, c, e1, hS, _⟩ := slv_sv (b := b) (sel_of hu)
  refine (Hl.Shift_calls h u hu).mono ?_
  rintro e w' ⟨rfl, h2, h3⟩
  exact ⟨⟨A, n, c, by rw [e1], hS, ⟨e1⟩⟩, h2, h3⟩
theorem Hl.atS_calls {w : World} {l z b : Nat} {B : List Int} {EA : Addr} {ET : TypeId} {p s : Int} {rt : Int} {tg : Bool} {tl : Int} {th : Int} {al : Int} {ah : Int} (h : Hl w l z b B ET EA p s rt tg tl th al ah) {A : Option Addr} {cp : Nat} {L : List Int} (hb : Bytes w A L) (r : Bool) (H : Hd (atB B p L 0 = some r)) :
    Calls Tryz.prog 72 #[.pointer (some ⟨l, 0, none⟩), .slice A L.length cp] w fun e w' => e = .returned (.bool r) ∧ Hl w' l z b B ET EA p s rt tg tl th al ah ∧ Fr l z w w' :=
  (Hl.at_calls h hb r H).mono fun e w' ⟨h1, h2⟩ => by subst h2; exact ⟨h1, h, Fr.refl _ _ _⟩
theorem Hl.atCS_calls {w : World} {l z b : Nat} {B : List Int} {EA : Addr} {ET : TypeId} {p s : Int} {rt : Int} {tg : Bool} {tl : Int} {th : Int} {al : Int} {ah : Int} (h : Hl w l z b B ET EA p s rt tg tl th al ah) {A : Option Addr} {cp : Nat} {L : List Int} (hb : Bytes w A L) (r : Bool) (H : Hd (atC B p L 0 = some r)) :
    Calls Tryz.prog 93 #[.pointer (some ⟨l, 0, none⟩), .slice A L.length cp] w fun e w' => e = .returned (.bool r) ∧ Hl w' l z b B ET EA p s rt tg tl th al ah ∧ Fr l z w w' :=
  (Hl.atC_calls h hb r H).mono fun e w' ⟨h1, h2⟩ => by subst h2; exact ⟨h1, h, Fr.refl _ _ _⟩
/-- No capital letter. -/
def NoCap (T : List Int) : Prop := ∀ c ∈ T, ¬ (65 ≤ c ∧ c ≤ 90)
instance (T : List Int) : Decidable (NoCap T) := List.decidableBAll (fun c => ¬ (65 ≤ c ∧ c ≤ 90)) T
theorem Lower_calls {w : World} {A : Option Addr} {cp : Nat} {T : List Int} (h : Bytes w A T) (hT : NoCap T) :
    Calls Tryz.prog 90 #[.slice A T.length cp] w fun e w' => e = .returned (.slice A T.length cp) ∧ w = w' := by
  have hlen := h.len
  have HT := Hd.mk hT
  clear hT
  go_enter Tryz.func90, Tryz.ntmps90
  go_wp2_with fail
  go_loop [7] (fun i => ∃ k : Nat, k ≤ T.length ∧ i = .int .i64 k) (fun i => T.length - (intOf i).toNat)
  case atStart => exact ⟨0, Nat.zero_le _, rfl⟩
  case round =>
    obtain ⟨k, hk, rfl⟩ := hrel
    by_cases hlt : k < T.length
    · obtain ⟨b0, off, rfl, hc⟩ := h.cells (by omega)
      have hcell := hc k hlt
      have hcap := HT.out (T.getD k 0) (by rw [List.getD_eq_getElem?_getD, List.getElem?_eq_getElem hlt]; exact List.getElem_mem _)
      generalize T.getD k 0 = c at hcell hcap
      clear hc
      by_cases h65 : 65 ≤ c
      · have h90 : ¬ c ≤ 90 := fun h => hcap ⟨h65, h⟩
        clear hcap
        have d1 : decide (65 ≤ c) = true := decide_eq_true h65
        have d2 : decide (c ≤ 90) = false := decide_eq_false h90
        go_wp2_with fail
        go_round
        case rel => exact ⟨k + 1, by omega, by go_num⟩
        case measure => simp [intOf]; omega
      · clear hcap
        have d1 : decide (65 ≤ c) = false := decide_eq_false h65
        go_wp2_with fail
        go_round
        case rel => exact ⟨k + 1, by omega, by go_num⟩
        case measure => simp [intOf]; omega
    · go_wp2_with fail
      go_ret
      exact ⟨rfl, rfl⟩
/-- The bytes from lo to hi hold no capital letter. -/
def low (B : List Int) (lo hi : Int) : Option Unit := if NoCap ((B.drop lo.toNat).take (hi.toNat - lo.toNat)) then some () else none
theorem low_of {B : List Int} {lo hi : Int} {u : Unit} (h : Hd (low B lo hi = some u)) : NoCap ((B.drop lo.toNat).take (hi.toNat - lo.toNat)) := by
  have h := h.out
  unfold low at h
  split at h
  · assumption
  · cases h
theorem sub_getD {B : List Int} {lo n i : Nat} (hi : i < n) (hb : lo + n ≤ B.length) : ((B.drop lo).take n).getD i 0 = B.getD (lo + i) 0 := by
  rw [List.getD_eq_getElem?_getD, List.getD_eq_getElem?_getD, List.getElem?_take, if_pos hi, List.getElem?_drop]
theorem sv_bytes {w : World} {z b : Nat} {B : List Int} {ET : TypeId} {EA : Addr} {p s lo hi : Int} {A : Option Addr} {n c : Nat} (h : In w z b B ET EA p s) (hS : Sv b B lo hi A n c) :
    Bytes w A ((B.drop lo.toNat).take (hi.toNat - lo.toNat)) ∧ n = ((B.drop lo.toNat).take (hi.toNat - lo.toNat)).length := by
  obtain ⟨s1, s2, s3, s4, s5⟩ := hS
  have hl := h.len
  have e : ((B.drop lo.toNat).take (hi.toNat - lo.toNat)).length = n := by rw [List.length_take, List.length_drop]; omega
  refine ⟨⟨by omega, fun h0 => ?_⟩, e.symm⟩
  rw [e] at h0
  refine ⟨b, lo.toNat, s5 h0, fun j hj => ?_⟩
  rw [e] at hj
  rw [sub_getD (by omega) (by omega)]
  exact h.bytes _ (by omega)
theorem Lower_sv {w : World} {z b : Nat} {B : List Int} {ET : TypeId} {EA : Addr} {p s lo hi : Int} {A : Option Addr} {n c : Nat} (h : In w z b B ET EA p s) (hS : Sv b B lo hi A n c) (u : Unit) (hu : Hd (low B lo hi = some u)) :
    Calls Tryz.prog 90 #[.slice A n c] w fun e w' => e = .returned (.slice A n c) ∧ w = w' := by
  obtain ⟨h1, h2⟩ := sv_bytes h hS
  have := Lower_calls (cp := c) h1 (low_of hu)
  rwa [← h2] at this
theorem Lower_sl {w : World} {z b : Nat} {B : List Int} {ET : TypeId} {EA : Addr} {p s lo hi : Int} (h : In w z b B ET EA p s) (hb : 0 ≤ lo ∧ lo ≤ hi ∧ hi ≤ B.length) (u : Unit) (hu : Hd (low B lo hi = some u)) :
    Calls Tryz.prog 90 #[slv b lo hi] w fun e w' => e = .returned (slv b lo hi) ∧ w = w' := by
  obtain ⟨A, n, c, e1, hS, _⟩ := slv_sv (b := b) hb
  rw [e1]
  exact Lower_sv h hS u hu
/-- The bytes of a slice of the input, in a row of their own. -/
structure Cpy (w : World) (B : List Int) (lo hi : Int) (A : Option Addr) (n c : Nat) : Prop where
  by_ : Bytes w A ((B.drop lo.toNat).take (hi.toNat - lo.toNat))
  len : n = ((B.drop lo.toNat).take (hi.toNat - lo.toNat)).length
theorem Lower_cp {w : World} {B : List Int} {lo hi : Int} {A : Option Addr} {n c : Nat} (h : Cpy w B lo hi A n c) (u : Unit) (hu : Hd (low B lo hi = some u)) :
    Calls Tryz.prog 90 #[.slice A n c] w fun e w' => e = .returned (.slice A n c) ∧ w = w' := by
  have := Lower_calls (cp := c) h.by_ (low_of hu)
  rwa [← h.len] at this
theorem Hl.Copy_calls {w : World} {l z b : Nat} {B : List Int} {EA : Addr} {ET : TypeId} {p s : Int} {rt : Int} {tg : Bool} {tl : Int} {th : Int} {al : Int} {ah : Int} (h : Hl w l z b B ET EA p s rt tg tl th al ah) {lo hi : Int} {A : Option Addr} {n c : Nat} (hS : Sv b B lo hi A n c) :
    Calls Tryz.prog 54 #[.slice A n c] w fun e w' => (∃ A' n' c', e = .returned (.slice A' n' c') ∧ Cpy w' B lo hi A' n' c') ∧ Hl w' l z b B ET EA p s rt tg tl th al ah ∧ Fr l z w w' := by
  obtain ⟨h1, h2⟩ := sv_bytes h.inp hS
  have := parseCopy_calls (cp := c) h1
  rw [← h2] at this
  refine this.mono ?_
  rintro e w' ⟨rfl, hb, hB⟩
  refine ⟨⟨_, _, _, rfl, ⟨⟨h1.len, fun _ => ⟨_, 0, rfl, fun j hj => ?_⟩⟩, rfl⟩⟩, h.below hB, Fr.below hB⟩
  rw [cell_of_block hb, Nat.zero_add]
  simp only [List.getElem?_toArray]
  exact bytes_at hj
end Go.Proofs.YtfcedenofbefcaaGreatDoor
