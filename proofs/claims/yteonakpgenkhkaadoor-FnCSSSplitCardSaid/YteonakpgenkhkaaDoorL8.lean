import Derived.Test.YteonakpgenkhkaaDoorL2
import Derived.Test.YteonakpgenkhkaaDoorL7
namespace Go.Proofs.YteonakpgenkhkaaDoor
open Go.RowKit
set_option linter.unusedVariables false
set_option linter.unusedSimpArgs false
theorem NewLexer_calls {w : World} {z : Nat} :
    Calls Tryd.prog 29 #[.pointer (some ⟨z, 0, none⟩)] w fun e w' => e = .returned (.pointer (some ⟨w.heap.size, 0, none⟩)) ∧ w.alloc (.cells #[.pointer (some ⟨z, 0, none⟩)] 58) = w' := by
  go_enter Tryd.func29, Tryd.ntmps29
  go_wp2
  go_ret
  exact ⟨rfl, rfl⟩
theorem Restore_calls {w : World} {l z b : Nat} {B : List Int} {ET : TypeId} {EA : Addr} {p s : Int} (h : Lx w l z b B ET EA p s) :
    Calls Tryd.prog 38 #[.pointer (some ⟨z, 0, none⟩)] w fun e w' => e = .returned (.tuple #[]) ∧ w = w' := by
  obtain ⟨cp, hcp, hz⟩ := h.inp
  have h4 := (cell_of_block hz 4).trans rfl
  have hn : ∀ w, (binOp BinOp.neq 1 Value.nilFunc Value.nilFunc).run Tryd.prog w = .ok (.bool false) w := fun _ => by kernel_rfl
  clear hz
  go_enter Tryd.func38, Tryd.ntmps38
  go_wp2

  go_wp2
  go_end0
  exact ⟨rfl, rfl⟩
theorem _root_.Go.RowKit.Below.frz {B0 z : Nat} {a w w' : World} (h : Below B0 a w) (k : Fr z w w') (hz : B0 ≤ z) (hs : B0 ≤ w.heap.size) : Below B0 a w' :=
  h.trans ⟨k.os, k.tape, k.output, k.size, fun i hi => by
    exact k.block i (by omega) (by omega)⟩
/-- The lexer over the bytes T is made. -/
structure Made (T : List Int) (B0 : Nat) (w w' : World) (l z b : Nat) (ET : TypeId) (EA : Addr) : Prop where
  lx : Lx w' l z b (T ++ [0]) ET EA 0 0
  mem : Below B0 w w'
  hl : B0 ≤ l
  hz : B0 ≤ z
  hb : B0 ≤ b
theorem made {T : List Int} {B0 : Nat} {w w1 w2 : World} {ET : TypeId} {EA : Addr} (h0 : w.cell? ⟨0, 0, none⟩ = some (.iface ET (.pointer (some EA)))) (hB : B0 ≤ w.heap.size) (hB0 : 0 < B0) (hlen : T.length ≤ 140737488355000) (hm : Below B0 w w1) (hs : w.heap.size ≤ w1.heap.size) {e : Ending} (hn : NewPost T B0 w1 e w2) :
    ∃ z b, e = .returned (.pointer (some ⟨z, 0, none⟩)) ∧ Made T B0 w (w2.alloc (.cells #[.pointer (some ⟨z, 0, none⟩)] 58)) w2.heap.size z b ET EA := by
  obtain ⟨z, b, c, rfl, hz, hb, hbz, hc, hzs, hblk, hcell, hbel⟩ := hn
  have hzl := lt_of_heap hblk
  have h0' : w2.cell? ⟨0, 0, none⟩ = some (.iface ET (.pointer (some EA))) := (hbel.cell (p := ⟨0, 0, none⟩) hB0).trans ((hm.cell (p := ⟨0, 0, none⟩) hB0).trans h0)
  have hb0 := hcell 0 (by omega)
  have hbl : b < w2.heap.size := World.block_lt_of_cell? _ _ hb0
  refine ⟨z, b, rfl, ⟨⟨heap_new _ _, ⟨c, by simpa using hc, ?_⟩, fun i hi => ?_, by simp; omega, by simp, by omega, hbz, ?_, by omega⟩, ?_, ?_, hz, hb⟩⟩
  · rw [Below.heap_alloc _ _ _ hzl]
    simpa using hblk
  · rw [World.cell?_alloc_lt _ _ _ hbl]
    exact hcell i (by simpa using hi)
  · rw [World.cell?_alloc_lt _ _ _ (World.block_lt_of_cell? _ _ h0')]
    exact h0'
  · have := hm.trans hbel
    exact this.alloc (by have := hbel.size; omega) _
  · have := hbel.size
    omega
def identF (K : Nat) (T : List Int) : Option Bool := (consumeIdentToken.f K (T ++ [0]) 0 0).bind fun (_, p) => some (ps p 0 == (T.length : Int))
set_option maxHeartbeats 4000000 in
theorem cssIsIdent_calls {w : World} {g B0 : Nat} {T : List Int} {ET : TypeId} {EA : Addr} (K : Nat) (h0 : w.cell? ⟨0, 0, none⟩ = some (.iface ET (.pointer (some EA)))) (hB : B0 ≤ g) (hB0 : 0 < B0) (hg : w.heap[g]? = some (.cells (T.map (Value.int .u8)).toArray 5 (0, 0))) (hlen : T.length ≤ 140737488355000) (r : Bool) (H : Hd (identF K T = some r)) :
    Calls Tryd.prog 27 #[.slice (some ⟨g, 0, none⟩) T.length T.length] w fun e w' => e = .returned (.bool r) ∧ Below B0 w w' := by
  have hgl := lt_of_heap hg
  have HG := Hd.mk hg
  have H0 := Hd.mk h0
  clear hg h0
  go_enter Tryd.func27, Tryd.ntmps27
  go_wp2_with fail
  refine (NewInputBytes_calls hB HG.out hlen).mono ?_
  intro e w1 hn
  obtain ⟨z, b, rfl, hM⟩ := made (w := w) H0.out (by omega) hB0 hlen (Below.refl _ _) (Nat.le_refl _) hn
  clear hn
  go_wp2_with fail
  refine (NewLexer_calls).mono ?_
  rintro e w2 ⟨rfl, rfl⟩
  have hI2 := hM.lx
  have hl2 := hI2.cl
  obtain ⟨⟨t, p⟩, A, H⟩ := H.bind
  have H' := Hd.mk H.p1
  clear H
  go_wp2_with fail
  refine (consumeIdentToken.calls K hI2 t p A).mono ?_
  rintro e w3 ⟨rfl, hI3, k3⟩
  have hl3 := hI3.cl
  go_wp2_with fail
  refine (Restore_calls hI3).mono ?_
  rintro e w' ⟨rfl, rfl⟩
  go_wp2_with fail
  refine (Pos_calls hI3).mono ?_
  rintro e w4 ⟨rfl, hI4, k4⟩
  go_wp2_with fail
  go_ret
  have hm := hM.mem
  have hz := hM.hz
  exact ⟨by rw [← H'.out]; rfl, hm.frz (k3.trans k4) hz (by have := lt_of_heap hM.lx.inp.choose_spec.2; omega)⟩
end Go.Proofs.YteonakpgenkhkaaDoor
