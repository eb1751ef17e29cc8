import Derived.Test.YteonakpgenkhkaaDoorL17
import Derived.Test.YteonakpgenkhkaaDoorS3
namespace Go.Proofs.YteonakpgenkhkaaDoor
open Go.RowKit
set_option linter.unusedVariables false
set_option linter.unusedSimpArgs false
theorem conv22g (w : World) (C : Array Value) (s n c : Nat) (hs : s = w.heap.size) : (convert 22 22 (.slice (some ⟨s, 0, none⟩) n c)).run Tryd.prog (w.alloc (.cells C 5)) = .ok (.slice (some ⟨s, 0, none⟩) n c) (w.alloc (.cells C 5 (C.size, C.size + 1))) := by
  subst hs
  exact conv22s w C n c
def subL (T : List Int) (lo hi : Int) : Option (List Int) := if 0 ≤ lo ∧ lo < hi ∧ hi ≤ T.length then some ((T.drop lo.toNat).take (hi.toNat - lo.toNat)) else none
theorem subL_of {T S : List Int} {lo hi : Int} (h : Hd (subL T lo hi = some S)) : (0 ≤ lo ∧ lo < hi ∧ hi ≤ T.length) ∧ S = (T.drop lo.toNat).take (hi.toNat - lo.toNat) := by
  have h := h.out
  unfold subL at h
  split at h
  · exact ⟨by assumption, (Option.some.inj h).symm⟩
  · cases h
theorem sub_length {T : List Int} {lo hi : Int} (h : 0 ≤ lo ∧ lo < hi ∧ hi ≤ T.length) : ((T.drop lo.toNat).take (hi.toNat - lo.toNat)).length = hi.toNat - lo.toNat := by
  rw [List.length_take, List.length_drop]; omega
theorem sub_getD {T : List Int} {lo hi : Int} (h : 0 ≤ lo ∧ lo < hi ∧ hi ≤ T.length) (j : Nat) (hj : j < hi.toNat - lo.toNat) : ((T.drop lo.toNat).take (hi.toNat - lo.toNat)).getD j 0 = T.getD (lo.toNat + j) 0 := by
  rw [List.getD_eq_getElem?_getD, List.getD_eq_getElem?_getD, List.getElem?_take, if_pos hj, List.getElem?_drop]
theorem sub_bytes {w : World} {b off : Nat} {T : List Int} {lo hi : Int} (hl : T.length ≤ 140737488355328) (h : 0 ≤ lo ∧ lo < hi ∧ hi ≤ T.length) (hc : ∀ j, j < T.length → w.cell? ⟨b, off + j, none⟩ = some (.int .u8 (T.getD j 0))) :
    Bytes w (some ⟨b, off + lo.toNat, none⟩) ((T.drop lo.toNat).take (hi.toNat - lo.toNat)) := by
  have e := sub_length h
  refine ⟨by omega, fun _ => ⟨b, off + lo.toNat, rfl, fun j hj => ?_⟩⟩
  rw [e] at hj
  rw [sub_getD h j hj, Nat.add_assoc]
  exact hc _ (by omega)
theorem lit_at {w : World} {g : Nat} {f : Nat × Nat} (hg : w.heap.size = g) (l : List Int) (hl : l.length ≤ 140737488355328 := by decide) : Bytes (w.alloc (.cells (l.map (Value.int .u8)).toArray 5 f)) (some ⟨g, 0, none⟩) l := by
  subst hg
  exact lit_bytes l hl
def sidentLike.f (K : Nat) (T : List Int) (q : Int) (o : Bool) : Option (List Int × Int × Bool) :=
  (sname.f K T q o).bind fun (q1, o1) => (rpk T q1 0).bind fun c =>
  if (c == 40) = true then (subL T q q1).bind fun S =>
    if foldEq S [117, 114, 108] = true then saddress.f K T (wrap64 (q1 + 1)) o1
    else some ([102, 117, 110, 99, 116, 105, 111, 110], wrap64 (q1 + 1), if hasB S 92 = true then true else o1)
  else some ([105, 100, 101, 110, 116], q1, o1)
set_option maxHeartbeats 8000000 in
set_option maxRecDepth 100000 in
theorem sidentLike.calls (K : Nat) {w0 : World} {z : Nat} {A : Option Addr} {c : Nat} {T : List Int} {q : Int} {o : Bool} (hI0 : Rd w0 z A c T q o) (r0 : List Int) (r1 : Int) (r2 : Bool) (H : Hd (sidentLike.f K T q o = some (r0, r1, r2))) :
    Calls Tryd.prog 50 #[.pointer (some ⟨z, 0, none⟩)] w0 fun e w' => e = .returned (.string (bstr r0)) ∧ Rd w' z A c T r1 r2 ∧ Fr z w0 w' := by
  have hF0 := Fr.refl z w0
  have c00 := hI0.c0
  have c10 := hI0.c1
  have c20 := hI0.c2
  have f0 := hI0.f
  have hcv := conv22g
  unfold sidentLike.f at H
  go_enter Tryd.func50, Tryd.ntmps50
  obtain ⟨⟨q1, o1⟩, A1, HN⟩ := H.bind; clear H; have H := HN; clear HN
  obtain ⟨x, A2, HN⟩ := H.bind; clear H; have H := HN; clear HN
  go_wp2_with fail
  refine (sname.calls K hI0 q1 o1 A1).mono ?_
  rintro e w1 ⟨rfl, hI1, k1⟩
  have hF1 := hF0.trans k1
  go_wp2_with fail
  refine (peek_calls hI1 0 x A2).mono ?_
  rintro e w2 ⟨rfl, hI2, k2⟩
  have hF2 := hF1.trans k2
  by_cases e40 : (x == 40) = true
  · replace H := H.pos e40
    obtain ⟨S, A3, HN⟩ := H.bind; clear H; have H := HN; clear HN
    have e40n : (x != 40) = false := by simp only [bne, e40, Bool.not_true]
    obtain ⟨hb, rfl⟩ := subL_of A3
    have hlenT := hI2.txt.len
    obtain ⟨b, off, rfl, hc⟩ := hI2.txt.cells (by omega)
    have hcap := hI2.cap
    have c02 := hI2.c0
    have c12 := hI2.c1
    have c22 := hI2.c2
    have f2 := hI2.f
    have HC := Hd.mk hc
    have HB := Hd.mk hb
    have b1 : q ≤ q1 := by omega
    have b2 : q1 ≤ (c : Int) := by omega
    have b3 := hb.1
    have b4 : 0 ≤ q1 := by omega
    have b5 : q.toNat ≤ q1.toNat := by omega
    have b6 : q1.toNat ≤ c := by omega
    have b7 : ¬ q1.toNat = q.toNat := by omega
    clear hb hc
    go_wp2_with fail
    go_quiet (fail)
    go_wp2_with fail
    have hI3 := ((hI2.drewN nq).setAt (wrap64 (q1 + 1))).alloc (.cells #[.int .u8 117, .int .u8 114, .int .u8 108] 5 (3, 4))
    have hF3 := ((hF2.drewN nq).set 1 (.int .i64 (wrap64 (q1 + 1)))).alloc (.cells #[.int .u8 117, .int .u8 114, .int .u8 108] 5 (3, 4))
    obtain ⟨b', off', e', hc3⟩ := hI3.txt.cells (by have := HB.out; omega)
    cases e'
    have hS := sub_bytes hlenT HB.out hc3
    have hSl := sub_length HB.out
    generalize hSS : (T.drop q.toNat).take (q1.toNat - q.toNat) = S at hS hSl H
    clear hc3 hSS
    rw [← hSl]
    have hU : Bytes (((w2.drewN nq).setCell ⟨z, 1, none⟩ (.int .i64 (wrap64 (q1 + 1)))).alloc (.cells #[.int .u8 117, .int .u8 114, .int .u8 108] 5 (3, 4))) (some ⟨w2.heap.size, 0, none⟩) [117, 114, 108] :=
      lit_at (by simp) [117, 114, 108]
    have HC' : Calls Tryd.prog 78 #[.slice (some ⟨b, off + q.toNat, none⟩) S.length (c - q.toNat), .slice (some ⟨w2.heap.size, 0, none⟩) 3 3] (((w2.drewN nq).setCell ⟨z, 1, none⟩ (.int .i64 (wrap64 (q1 + 1)))).alloc (.cells #[.int .u8 117, .int .u8 114, .int .u8 108] 5 (3, 4))) fun e w' => e = .returned (.bool (foldEq S [117, 114, 108])) ∧ ∃ m, w' = (((w2.drewN nq).setCell ⟨z, 1, none⟩ (.int .i64 (wrap64 (q1 + 1)))).alloc (.cells #[.int .u8 117, .int .u8 114, .int .u8 108] 5 (3, 4))).drewN m :=
      EqualFold_calls hS hU
    generalize hW : (((w2.drewN nq).setCell ⟨z, 1, none⟩ (.int .i64 (wrap64 (q1 + 1)))).alloc (.cells #[.int .u8 117, .int .u8 114, .int .u8 108] 5 (3, 4))) = W3 at *
    clear hU hSl
    refine HC'.mono ?_
    rintro e w4 ⟨rfl, m, rfl⟩
    have hI4 := hI3.drewN m
    have hF4 := hF3.drewN m
    have hS4 : Bytes (W3.drewN m) (some ⟨b, off + q.toNat, none⟩) S := hS.of_block fun _ _ _ => rfl
    clear HC' hW
    by_cases eF : foldEq S [117, 114, 108] = true
    · replace H := H.pos eF
      go_wp2_with fail
      refine (saddress.calls K hI4 r0 r1 r2 H).mono ?_
      rintro e w5 ⟨rfl, hI5, k5⟩
      go_wp2_with fail
      go_ret
      exact ⟨rfl, hI5, hF4.trans k5⟩
    · replace H := H.neg eF
      replace eF := Bool.eq_false_iff.mpr eF
      obtain ⟨rfl, rfl, hr2⟩ := H.p3
      have HR := Hd.mk hr2
      clear hr2 H
      go_wp2_with fail
      refine (Has_calls hS4 92).mono ?_
      rintro e w' ⟨rfl, rfl⟩
      have f4 := hI4.f
      have c24 := hI4.c2
      by_cases eh : hasB S 92 = true
      · have hr : r2 = true := by rw [← HR.out, if_pos eh]
        subst hr
        clear HR
        go_wp2_with fail
        go_ret
        exact ⟨rfl, hI4.setOpen true, hF4.set 2 _⟩
      · have hr : r2 = o1 := by rw [← HR.out, if_neg eh]
        subst hr
        replace eh := Bool.eq_false_iff.mpr eh
        clear HR
        go_wp2_with fail
        go_ret
        exact ⟨rfl, hI4, hF4⟩
  · replace H := H.neg e40
    replace e40 := Bool.eq_false_iff.mpr e40
    have e40n : (x != 40) = true := by simp only [bne, e40, Bool.not_false]
    go_wp2_with fail
    go_ret
    obtain ⟨rfl, rfl, rfl⟩ := H.p3
    exact ⟨by first | rfl | simp, hI2, hF2⟩
end Go.Proofs.YteonakpgenkhkaaDoor
