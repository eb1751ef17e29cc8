import Derived.Test.YtfcedenofbefcaaGreatDoorK3
import Derived.Test.YtfcedenofbefcaaGreatDoorK5
namespace Go.Proofs.YtfcedenofbefcaaGreatDoor
open Go.RowKit
set_option linter.unusedVariables false
set_option linter.unusedSimpArgs false
set_option maxHeartbeats 4000000 in
theorem Hl.at_calls {w : World} {l z b : Nat} {B : List Int} {ET : TypeId} {EA : Addr} {p s : Int} {rt : Int} {tg : Bool} {tl th al ah : Int} {A : Option Addr} {cp : Nat} {L : List Int} (hI : Hl w l z b B ET EA p s rt tg tl th al ah) (h : Bytes w A L) (r : Bool) (H : Hd (atB B p L 0 = some r)) :
    Calls Tryz.prog 72 #[.pointer (some ⟨l, 0, none⟩), .slice A L.length cp] w fun e w' => e = .returned (.bool r) ∧ w = w' := by
  have hlen := h.len
  have hl0 := hI.c0
  go_enter Tryz.func72, Tryz.ntmps72
  go_wp2_with fail
  go_loop [9] (fun i => ∃ k : Nat, k ≤ L.length ∧ i = .int .i64 k ∧ Hd (atB B p (L.drop k) k = some r)) (fun i => L.length - (intOf i).toNat)
  case atStart => exact ⟨0, Nat.zero_le _, rfl, H⟩
  case round =>
    clear H
    obtain ⟨k, hk, rfl, H⟩ := hrel
    by_cases hlt : k < L.length
    · obtain ⟨b0, off, rfl, hc⟩ := h.cells (by omega)
      have hcell := hc k hlt
      rw [drop_step hlt] at H
      generalize L.getD k 0 = c at hcell H
      clear hc
      simp only [atB] at H
      obtain ⟨x, A1, HN⟩ := H.bind; clear H
      go_wp2_with fail
      refine (Hl.Peek_calls hI (k : Int) x A1).mono ?_
      rintro e w' ⟨rfl, rfl⟩
      by_cases hx : (x == c) = true
      · have H := HN.pos hx; clear HN
        have hxn : (x != c) = false := by simp [bne, hx]
        go_wp2_with fail
        go_round
        case rel => exact ⟨k + 1, by omega, by go_num, H⟩
        case measure => simp [intOf]; omega
      · have H := HN.neg hx; clear HN
        obtain rfl := H.p1
        have hxn : (x != c) = true := by simp [bne, hx]
        go_wp2_with fail
        go_ret
        exact ⟨rfl, rfl⟩
    · rw [List.drop_of_length_le (by omega)] at H
      obtain rfl := H.p1
      go_wp2_with fail
      go_ret
      exact ⟨rfl, rfl⟩
theorem Hl.LexemeV_calls {w : World} {l z b : Nat} {B : List Int} {EA : Addr} {ET : TypeId} {p s : Int} {rt : Int} {tg : Bool} {tl : Int} {th : Int} {al : Int} {ah : Int} (h : Hl w l z b B ET EA p s rt tg tl th al ah) (u : Unit) (hu : Hd (sel B p s = some u)) :
    Calls Tryz.prog 88 #[.pointer (some ⟨z, 0, none⟩)] w fun e w' => (∃ A n c, e = .returned (.slice A n c) ∧ Sv b B s p A n c) ∧ Hl w' l z b B ET EA p s rt tg tl th al ah ∧ Fr l z w w' := by
  obtain ⟨A, n, c, e1, hS, _⟩ := slv_sv (b := b) (sel_of hu)
  refine (Hl.Lexeme_calls h u hu).mono ?_
  rintro e w' ⟨rfl, h2, h3⟩
  exact ⟨⟨A, n, c, by rw [e1], hS⟩, h2, h3⟩
theorem Hl.setTextS {w : World} {l z b : Nat} {B : List Int} {EA : Addr} {ET : TypeId} {p s : Int} {rt : Int} {tg : Bool} {tl : Int} {th : Int} {al : Int} {ah : Int} (h : Hl w l z b B ET EA p s rt tg tl th al ah) (lo hi : Int) (hb : 0 ≤ lo ∧ lo ≤ hi ∧ hi ≤ B.length) : Hl (w.setCell ⟨l, 6, none⟩ (slv b lo hi)) l z b B ET EA p s rt tg lo hi al ah := by
  obtain ⟨A, n, c, e1, hS, _⟩ := slv_sv (b := b) hb
  rw [e1]
  exact h.setText lo hi A n c hS
theorem Hl.setAttrS {w : World} {l z b : Nat} {B : List Int} {EA : Addr} {ET : TypeId} {p s : Int} {rt : Int} {tg : Bool} {tl : Int} {th : Int} {al : Int} {ah : Int} (h : Hl w l z b B ET EA p s rt tg tl th al ah) (lo hi : Int) (hb : 0 ≤ lo ∧ lo ≤ hi ∧ hi ≤ B.length) : Hl (w.setCell ⟨l, 7, none⟩ (slv b lo hi)) l z b B ET EA p s rt tg tl th lo hi := by
  obtain ⟨A, n, c, e1, hS, _⟩ := slv_sv (b := b) hb
  rw [e1]
  exact h.setAttr lo hi A n c hS
end Go.Proofs.YtfcedenofbefcaaGreatDoor
