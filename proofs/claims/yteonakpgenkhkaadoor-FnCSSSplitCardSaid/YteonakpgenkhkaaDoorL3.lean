import Derived.Test.YteonakpgenkhkaaDoorL1
namespace Go.Proofs.YteonakpgenkhkaaDoor
open Go.RowKit

/-- The bytes of a slice that starts at A. -/
structure Bytes (w : World) (A : Option Addr) (T : List Int) : Prop where
  len : T.length ≤ 140737488355328
  cells : 0 < T.length → ∃ b o, A = some ⟨b, o, none⟩ ∧ ∀ j, j < T.length → w.cell? ⟨b, o + j, none⟩ = some (.int .u8 (T.getD j 0))
theorem Bytes.lt {w : World} {ad : Addr} {T : List Int} (h : Bytes w (some ad) T) (h0 : 0 < T.length) : ad.block < w.heap.size := by
  obtain ⟨b, o, e, hc⟩ := h.cells h0
  cases e
  exact World.block_lt_of_cell? _ _ (hc 0 h0)
theorem Bytes.of_block {w w' : World} {A : Option Addr} {T : List Int} (h : Bytes w A T) (hb : ∀ ad, A = some ad → ad.block < w.heap.size → w'.heap[ad.block]? = w.heap[ad.block]?) : Bytes w' A T := by
  refine ⟨h.len, fun h0 => ?_⟩
  obtain ⟨b, o, rfl, hc⟩ := h.cells h0
  refine ⟨b, o, rfl, fun j hj => ?_⟩
  rw [← hc j hj]
  exact World.cell?_of_block (w := w) (hb ⟨b, o, none⟩ rfl (h.lt h0))
theorem Bytes.fr {w w' : World} {z : Nat} {A : Option Addr} {T : List Int} (h : Bytes w A T) (k : Fr z w w') (hz : ∀ ad, A = some ad → ad.block ≠ z) : Bytes w' A T :=
  h.of_block fun ad e hl => k.block _ hl (hz ad e)

/-- The reader at z over the text T. -/
structure Rd (w : World) (z : Nat) (A : Option Addr) (c : Nat) (T : List Int) (q : Int) (o : Bool) : Prop where
  blk : w.heap[z]? = some (.cells #[.slice A T.length c, .int .i64 q, .bool o] 35 (0, 0))
  txt : Bytes w A T
  cap : T.length ≤ c
  az : ∀ ad, A = some ad → ad.block ≠ z
theorem Rd.fr {w w' : World} {z : Nat} {A : Option Addr} {c : Nat} {T : List Int} {q q' : Int} {o o' : Bool} (h : Rd w z A c T q o) (k : Fr z w w') (hz : w'.heap[z]? = some (.cells #[.slice A T.length c, .int .i64 q', .bool o'] 35 (0, 0))) : Rd w' z A c T q' o' :=
  ⟨hz, h.txt.fr k h.az, h.cap, h.az⟩
theorem Rd.setAt {w : World} {z : Nat} {A : Option Addr} {c : Nat} {T : List Int} {q : Int} {o : Bool} (h : Rd w z A c T q o) (q' : Int) : Rd (w.setCell ⟨z, 1, none⟩ (.int .i64 q')) z A c T q' o :=
  h.fr ((Fr.refl z w).set 1 _) (by simpa using heap_set_same (i := 1) (.int .i64 q') h.blk)
theorem Rd.setOpen {w : World} {z : Nat} {A : Option Addr} {c : Nat} {T : List Int} {q : Int} {o : Bool} (h : Rd w z A c T q o) (o' : Bool) : Rd (w.setCell ⟨z, 2, none⟩ (.bool o')) z A c T q o' :=
  h.fr ((Fr.refl z w).set 2 _) (by simpa using heap_set_same (i := 2) (.bool o') h.blk)
theorem Rd.drewN {w : World} {z : Nat} {A : Option Addr} {c : Nat} {T : List Int} {q : Int} {o : Bool} (h : Rd w z A c T q o) (n : Nat) : Rd (w.drewN n) z A c T q o := h.fr ((Fr.refl z w).drewN n) h.blk
theorem Rd.drew {w : World} {z : Nat} {A : Option Addr} {c : Nat} {T : List Int} {q : Int} {o : Bool} (h : Rd w z A c T q o) : Rd w.drew z A c T q o := h.fr (Fr.refl z w).drew h.blk
theorem Rd.alloc {w : World} {z : Nat} {A : Option Addr} {c : Nat} {T : List Int} {q : Int} {o : Bool} (h : Rd w z A c T q o) (x : Obj) : Rd (w.alloc x) z A c T q o := h.fr ((Fr.refl z w).alloc x) ((Below.heap_alloc _ _ _ (lt_of_heap h.blk)).trans h.blk)
theorem Rd.c0 {w : World} {z : Nat} {A : Option Addr} {c : Nat} {T : List Int} {q : Int} {o : Bool} (h : Rd w z A c T q o) : w.cell? ⟨z, 0, none⟩ = some (.slice A T.length c) := (cell_of_block h.blk 0).trans rfl
theorem Rd.c1 {w : World} {z : Nat} {A : Option Addr} {c : Nat} {T : List Int} {q : Int} {o : Bool} (h : Rd w z A c T q o) : w.cell? ⟨z, 1, none⟩ = some (.int .i64 q) := (cell_of_block h.blk 1).trans rfl
theorem Rd.c2 {w : World} {z : Nat} {A : Option Addr} {c : Nat} {T : List Int} {q : Int} {o : Bool} (h : Rd w z A c T q o) : w.cell? ⟨z, 2, none⟩ = some (.bool o) := (cell_of_block h.blk 2).trans rfl
theorem Rd.f {w : World} {z : Nat} {A : Option Addr} {c : Nat} {T : List Int} {q : Int} {o : Bool} (h : Rd w z A c T q o) (j : Nat) : w.frozen? ⟨z, j, none⟩ = false := frozen_of_block h.blk j

def rover (T : List Int) (q : Int) : Bool := decide ((T.length : Int) ≤ q)
def rpk (T : List Int) (q n : Int) : Option Int :=
  if (T.length : Int) ≤ wrap64 (q + n) then some 0 else if 0 ≤ wrap64 (q + n) then some (T.getD (wrap64 (q + n)).toNat 0) else none
theorem over_calls {w : World} {z : Nat} {A : Option Addr} {c : Nat} {T : List Int} {q : Int} {o : Bool} (h : Rd w z A c T q o) :
    Calls Tryd.prog 15 #[.pointer (some ⟨z, 0, none⟩)] w fun e w' => e = .returned (.bool (rover T q)) ∧ Rd w' z A c T q o ∧ Fr z w w' := by
  have h0 := h.c0
  have h1 := h.c1
  go_enter Tryd.func15, Tryd.ntmps15
  go_wp2
  go_quiet (fail)
  go_wp2
  go_ret
  exact ⟨rfl, h.drewN _, (Fr.refl z w).drewN _⟩
theorem peek_calls {w : World} {z : Nat} {A : Option Addr} {c : Nat} {T : List Int} {q : Int} {o : Bool} (h : Rd w z A c T q o) (n r : Int) (hr : Hd (rpk T q n = some r)) :
    Calls Tryd.prog 16 #[.pointer (some ⟨z, 0, none⟩), .int .i64 n] w fun e w' => e = .returned (.int .u8 r) ∧ Rd w' z A c T q o ∧ Fr z w w' := by
  have h0 := h.c0
  have h1 := h.c1
  unfold rpk at hr
  by_cases hl : (T.length : Int) ≤ wrap64 (q + n)
  · obtain rfl := (hr.pos hl).p1
    have hd := decide_eq_true hl
    clear hl hr
    go_enter Tryd.func16, Tryd.ntmps16
    go_wp2
    go_quiet (fail)
    go_wp2
    go_ret
    exact ⟨rfl, h.drewN _, (Fr.refl z w).drewN _⟩
  · replace hr := hr.neg hl
    by_cases hn : 0 ≤ wrap64 (q + n)
    · have e := (hr.pos hn).p1
      have hd := decide_eq_false hl
      obtain ⟨b, off, rfl, hc⟩ := h.txt.cells (by omega)
      have hcell := hc (wrap64 (q + n)).toNat (by omega)
      rw [e] at hcell
      have hlt : wrap64 (q + n) < (T.length : Int) := by omega
      clear hl hr hc e
      go_enter Tryd.func16, Tryd.ntmps16
      go_wp2
      go_quiet (fail)
      go_wp2
      go_quiet (fail)
      go_wp2
      go_ret
      exact ⟨rfl, (h.drewN _).drewN _, ((Fr.refl z w).drewN _).drewN _⟩
    · exact (hr.neg hn).no

/-- A text that is looked through for a byte. -/
def hasB (T : List Int) (c : Int) : Bool := T.any (· == c)
theorem hasB_take (T : List Int) (c : Int) (k : Nat) (h : k < T.length) : hasB (T.take (k + 1)) c = (hasB (T.take k) c || T.getD k 0 == c) := by
  have : T.take (k + 1) = T.take k ++ [T.getD k 0] := by rw [List.take_succ_eq_append_getElem h, List.getD_eq_getElem?_getD, List.getElem?_eq_getElem h]; rfl
  unfold hasB
  rw [this, List.any_append]
  simp
theorem hasB_hit (T : List Int) (c : Int) (k : Nat) (h : k < T.length) (e : (T.getD k 0 == c) = true) : hasB T c = true := by
  unfold hasB
  rw [List.any_eq_true]
  refine ⟨T.getD k 0, ?_, e⟩
  rw [List.getD_eq_getElem?_getD, List.getElem?_eq_getElem h]
  exact List.getElem_mem h
set_option maxHeartbeats 4000000 in
theorem Has_calls {w : World} {A : Option Addr} {cp : Nat} {T : List Int} (h : Bytes w A T) (c : Int) :
    Calls Tryd.prog 20 #[.slice A T.length cp, .int .u8 c] w fun e w' => e = .returned (.bool (hasB T c)) ∧ w = w' := by
  have hlen := h.len
  go_enter Tryd.func20, Tryd.ntmps20
  go_wp2
  go_loop [9] (fun i => ∃ k : Nat, k ≤ T.length ∧ i = .int .i64 k ∧ Hd (hasB (T.take k) c = false)) (fun i => T.length - (intOf i).toNat)
  case atStart => exact ⟨0, Nat.zero_le _, rfl, ⟨by simp [hasB]⟩⟩
  case round =>
    obtain ⟨k, hk, rfl, hp⟩ := hrel
    by_cases hlt : k < T.length
    · obtain ⟨b, off, rfl, hc⟩ := h.cells (by omega)
      have hcell := hc k hlt
      have hs := Hd.mk (hasB_take T c k hlt)
      have hh := Hd.mk (hasB_hit T c k hlt)
      generalize T.getD k 0 = x at hcell hs hh
      clear hc
      by_cases hx : (x == c) = true
      · go_wp2
        go_ret
        exact ⟨by rw [hh.out hx]; rfl, rfl⟩
      · replace hx := Bool.eq_false_iff.mpr hx
        go_wp2
        go_round
        case rel => exact ⟨k + 1, by omega, by go_num, ⟨by rw [hs.out, hp.out, hx]; rfl⟩⟩
        case measure => simp [intOf]; omega
    · go_wp2
      go_ret
      have := hp.out
      rw [List.take_of_length_le (by omega)] at this
      exact ⟨by rw [this]; rfl, rfl⟩
end Go.Proofs.YteonakpgenkhkaaDoor
