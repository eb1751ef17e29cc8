import Derived.Test.YtfcedenofbefcaaGreatDoorK2
namespace Go.Proofs.YtfcedenofbefcaaGreatDoor
open Go.RowKit
set_option linter.unusedVariables false
set_option linter.unusedSimpArgs false
/-- The bytes of a slice that starts at A. -/
structure Bytes (w : World) (A : Option Addr) (T : List Int) : Prop where
  len : T.length ≤ 140737488355328
  cells : 0 < T.length → ∃ b o, A = some ⟨b, o, none⟩ ∧ ∀ j, j < T.length → w.cell? ⟨b, o + j, none⟩ = some (.int .u8 (T.getD j 0))
theorem Bytes.lt {w : World} {ad : Addr} {T : List Int} (h : Bytes w (some ad) T) (h0 : 0 < T.length) : ad.block < w.heap.size := by
  obtain ⟨b, o, e, hc⟩ := h.cells h0
  cases e
  exact World.block_lt_of_cell? _ _ (hc 0 h0)
theorem Bytes.of_block {w w' : World} {A : Option Addr} {T : List Int} (h : Bytes w A T) (hb : ∀ ad, A = some ad → ad.block < w.heap.size → w'.heap[ad.block]? = w.heap[ad.block]?) : Bytes w' A T := by
  refine ⟨h.len, fun h0 => ?_⟩
  obtain ⟨b, o, rfl, hc⟩ := h.cells h0
  refine ⟨b, o, rfl, fun j hj => ?_⟩
  rw [← hc j hj]
  exact World.cell?_of_block (w := w) (hb ⟨b, o, none⟩ rfl (h.lt h0))
theorem Bytes.below {w w' : World} {A : Option Addr} {T : List Int} (h : Bytes w A T) (k : Below w.heap.size w w') : Bytes w' A T := h.of_block fun ad _ hl => k.block ad.block hl
theorem Bytes.alloc {w : World} {A : Option Addr} {T : List Int} (h : Bytes w A T) (o : Obj) : Bytes (w.alloc o) A T := h.of_block fun _ _ hl => Below.heap_alloc _ _ _ hl
theorem bytes_at {T : List Int} {i : Nat} (hi : i < T.length) : (T.map (Value.int .u8))[i]? = some (.int .u8 (T.getD i 0)) := by
  rw [List.getElem?_map, List.getElem?_eq_getElem hi, List.getD_eq_getElem?_getD, List.getElem?_eq_getElem hi]; rfl
theorem heap_new (w : World) (o : Obj) : (w.alloc o).heap[w.heap.size]? = some o := by show (w.heap.push _)[w.heap.size]? = _; simp
theorem lit_at {w : World} {g : Nat} {f : Nat × Nat} (hg : w.heap.size = g) (l : List Int) (hl : l.length ≤ 140737488355328 := by decide) : Bytes (w.alloc (.cells (l.map (Value.int .u8)).toArray 5 f)) (some ⟨g, 0, none⟩) l := by
  subst hg
  refine ⟨hl, fun _ => ⟨_, _, rfl, fun j hj => ?_⟩⟩
  rw [cell_of_block (heap_new _ _), Nat.zero_add]
  simp only [List.getElem?_toArray]
  exact bytes_at hj
/-- Do the bytes from p + i on begin with those of a list? -/
def atB (B : List Int) (p : Int) : List Int → Nat → Option Bool
  | [], _ => some true
  | c :: L, i => (pk B p i).bind fun x => if (x == c) = true then atB B p L (i + 1) else some false
def atC (B : List Int) (p : Int) : List Int → Nat → Option Bool
  | [], _ => some true
  | c :: L, i => (pk B p i).bind fun x => if (x == c) = true then atC B p L (i + 1) else if ((x + 32) % 256 == c) = true then atC B p L (i + 1) else some false
theorem drop_step {L : List Int} {k : Nat} (h : k < L.length) : L.drop k = L.getD k 0 :: L.drop (k + 1) := by
  rw [List.drop_eq_getElem_cons h, List.getD_eq_getElem?_getD, List.getElem?_eq_getElem h]; rfl
set_option maxHeartbeats 4000000 in
theorem Xl.at_calls {w : World} {l z b : Nat} {B : List Int} {ET : TypeId} {EA : Addr} {p s : Int} {tg : Bool} {tl th al ah : Int} {A : Option Addr} {cp : Nat} {L : List Int} (hI : Xl w l z b B ET EA p s tg tl th al ah) (h : Bytes w A L) (r : Bool) (H : Hd (atB B p L 0 = some r)) :
    Calls Tryz.prog 64 #[.pointer (some ⟨l, 0, none⟩), .slice A L.length cp] w fun e w' => e = .returned (.bool r) ∧ w = w' := by
  have hlen := h.len
  have hl0 := hI.c0
  go_enter Tryz.func64, Tryz.ntmps64
  go_wp2_with fail
  go_loop [9] (fun i => ∃ k : Nat, k ≤ L.length ∧ i = .int .i64 k ∧ Hd (atB B p (L.drop k) k = some r)) (fun i => L.length - (intOf i).toNat)
  case atStart => exact ⟨0, Nat.zero_le _, rfl, H⟩
  case round =>
    clear H
    obtain ⟨k, hk, rfl, H⟩ := hrel
    by_cases hlt : k < L.length
    · obtain ⟨b0, off, rfl, hc⟩ := h.cells (by omega)
      have hcell := hc k hlt
      rw [drop_step hlt] at H
      generalize L.getD k 0 = c at hcell H
      clear hc
      simp only [atB] at H
      obtain ⟨x, A1, HN⟩ := H.bind; clear H
      go_wp2_with fail
      refine (Xl.Peek_calls hI (k : Int) x A1).mono ?_
      rintro e w' ⟨rfl, rfl⟩
      by_cases hx : (x == c) = true
      · have H := HN.pos hx; clear HN
        have hxn : (x != c) = false := by simp [bne, hx]
        go_wp2_with fail
        go_round
        case rel => exact ⟨k + 1, by omega, by go_num, H⟩
        case measure => simp [intOf]; omega
      · have H := HN.neg hx; clear HN
        obtain rfl := H.p1
        have hxn : (x != c) = true := by simp [bne, hx]
        go_wp2_with fail
        go_ret
        exact ⟨rfl, rfl⟩
    · rw [List.drop_of_length_le (by omega)] at H
      obtain rfl := H.p1
      go_wp2_with fail
      go_ret
      exact ⟨rfl, rfl⟩
end Go.Proofs.YtfcedenofbefcaaGreatDoor
