import Derived.Test.YteonakpgenkhkaaDoorL4
import Derived.Test.YteonakpgenkhkaaDoorL6
import Derived.Test.YteonakpgenkhkaaDoorL8
namespace Go.Proofs.YteonakpgenkhkaaDoor
open Go.RowKit
set_option linter.unusedVariables false
set_option linter.unusedSimpArgs false
def addressF (K : Nat) (T : List Int) : Option Bool := (consumeUnquotedURL.f K (T ++ [0]) 0 0).bind fun (_, p) => some (ps p 0 == (T.length : Int))
set_option maxHeartbeats 4000000 in
theorem cssIsAddress_calls {w : World} {g B0 : Nat} {T : List Int} {ET : TypeId} {EA : Addr} (K : Nat) (h0 : w.cell? ⟨0, 0, none⟩ = some (.iface ET (.pointer (some EA)))) (hB : B0 ≤ g) (hB0 : 0 < B0) (hg : w.heap[g]? = some (.cells (T.map (Value.int .u8)).toArray 5 (0, 0))) (hlen : T.length ≤ 140737488355000) (r : Bool) (H : Hd (addressF K T = some r)) :
    Calls Tryd.prog 23 #[.slice (some ⟨g, 0, none⟩) T.length T.length] w fun e w' => e = .returned (.bool r) ∧ Below B0 w w' := by
  have hgl := lt_of_heap hg
  have HG := Hd.mk hg
  have H0 := Hd.mk h0
  clear hg h0
  go_enter Tryd.func23, Tryd.ntmps23
  go_wp2_with fail
  refine (NewInputBytes_calls hB HG.out hlen).mono ?_
  intro e w1 hn
  obtain ⟨z, b, rfl, hM⟩ := made (w := w) H0.out (by omega) hB0 hlen (Below.refl _ _) (Nat.le_refl _) hn
  clear hn
  go_wp2_with fail
  refine (NewLexer_calls).mono ?_
  rintro e w2 ⟨rfl, rfl⟩
  have hI2 := hM.lx
  have hl2 := hI2.cl
  obtain ⟨⟨t, p⟩, A, H⟩ := H.bind
  have H' := Hd.mk H.p1
  clear H
  go_wp2_with fail
  refine (consumeUnquotedURL.calls K hI2 t p A).mono ?_
  rintro e w3 ⟨rfl, hI3, k3⟩
  have hl3 := hI3.cl
  go_wp2_with fail
  refine (Restore_calls hI3).mono ?_
  rintro e w' ⟨rfl, rfl⟩
  go_wp2_with fail
  refine (Pos_calls hI3).mono ?_
  rintro e w4 ⟨rfl, hI4, k4⟩
  go_wp2_with fail
  go_ret
  have hm := hM.mem
  have hz := hM.hz
  exact ⟨by rw [← H'.out]; rfl, hm.frz (k3.trans k4) hz (by have := lt_of_heap hM.lx.inp.choose_spec.2; omega)⟩
theorem cell_below {a w w' : World} {p : Addr} {v : Value} (h : Below a.heap.size w w') (hp : w.cell? p = some v) (hs : p.block < a.heap.size) : w'.cell? p = some v := (h.cell hs).trans hp
theorem implIsIdent_calls {w : World} {A : Option Addr} {T : List Int} {cp : Nat} {ET : TypeId} {EA : Addr} (K : Nat) (h0 : w.cell? ⟨0, 0, none⟩ = some (.iface ET (.pointer (some EA)))) (h : Bytes w A T) (hlen : T.length ≤ 140737488355000) (r : Bool) (H : Hd (identF K T = some r)) :
    Calls Tryd.prog 10 #[.slice A T.length cp] w fun e w' => e = .returned (.bool r) ∧ Below w.heap.size w w' := by
  have hb := World.block_lt_of_cell? _ _ h0
  have H0 := Hd.mk h0
  clear h0
  go_enter Tryd.func10, Tryd.ntmps10
  go_wp2_with fail
  refine (implCopy_calls h).mono ?_
  rintro e w1 ⟨rfl, h1, h2⟩
  have H1 := Hd.mk h1
  clear h1
  go_wp2_with fail
  refine (cssIsIdent_calls K ((h2.cell (p := ⟨0, 0, none⟩) hb).trans H0.out) (Nat.le_refl _) (by exact Nat.lt_of_le_of_lt (Nat.zero_le _) hb) H1.out hlen r H).mono ?_
  rintro e w2 ⟨rfl, h3⟩
  go_wp2_with fail
  go_ret
  exact ⟨rfl, h2.trans h3⟩
theorem implIsAddress_calls {w : World} {A : Option Addr} {T : List Int} {cp : Nat} {ET : TypeId} {EA : Addr} (K : Nat) (h0 : w.cell? ⟨0, 0, none⟩ = some (.iface ET (.pointer (some EA)))) (h : Bytes w A T) (hlen : T.length ≤ 140737488355000) (r : Bool) (H : Hd (addressF K T = some r)) :
    Calls Tryd.prog 8 #[.slice A T.length cp] w fun e w' => e = .returned (.bool r) ∧ Below w.heap.size w w' := by
  have hb := World.block_lt_of_cell? _ _ h0
  have H0 := Hd.mk h0
  clear h0
  go_enter Tryd.func8, Tryd.ntmps8
  go_wp2_with fail
  refine (implCopy_calls h).mono ?_
  rintro e w1 ⟨rfl, h1, h2⟩
  have H1 := Hd.mk h1
  clear h1
  go_wp2_with fail
  refine (cssIsAddress_calls K ((h2.cell (p := ⟨0, 0, none⟩) hb).trans H0.out) (Nat.le_refl _) (by exact Nat.lt_of_le_of_lt (Nat.zero_le _) hb) H1.out hlen r H).mono ?_
  rintro e w2 ⟨rfl, h3⟩
  go_wp2_with fail
  go_ret
  exact ⟨rfl, h2.trans h3⟩
def BrokenPost (T : List Int) (w : World) (e : Ending) (w' : World) : Prop := (∃ v, e = .returned (.bool v) ∧ (v = false → hasB T 92 = true → Utf8 T)) ∧ Below w.heap.size w w'
theorem isBroken_calls {w : World} {A : Option Addr} {T : List Int} {cp : Nat} (h : Bytes w A T) (hT : isU8 T) (hcp : T.length ≤ cp) (hx : Lib.Utf8Tabs 1 2 w) :
    Calls Tryd.prog 22 #[.slice A T.length cp] w (BrokenPost T w) := by
  go_enter Tryd.func22, Tryd.ntmps22
  go_wp2_with fail
  refine (Has_calls h 92).mono ?_
  rintro e w' ⟨rfl, rfl⟩
  by_cases hh : hasB T 92 = true
  · rw [hh]
    go_wp2_with fail
    refine (Valid_calls h hT hcp hx).mono ?_
    rintro e w2 ⟨⟨v, rfl, hv⟩, h2⟩
    have HV := Hd.mk hv
    clear hv
    go_wp2_with fail
    go_ret
    exact ⟨⟨!v, rfl, fun h _ => HV.out (by simpa using h)⟩, h2⟩
  · rw [Bool.eq_false_iff.mpr hh]
    go_wp2_with fail
    go_ret
    exact ⟨⟨false, rfl, fun _ h => absurd h (by simpa using hh)⟩, Below.refl _ _⟩
end Go.Proofs.YteonakpgenkhkaaDoor
