import Derived.Test.YteonakpgenkhkaaDoorL9
import Derived.Lib.SlBytesConst
namespace Go.Proofs.YteonakpgenkhkaaDoor
open Go.RowKit
set_option linter.unusedVariables false
set_option linter.unusedSimpArgs false
/-- What the spec's reading answers, and what stands where it says that it answers at all. -/
def SpecPost (P : Bool → Prop) (T : List Int) (w : World) (r k : Bool) (e : Ending) (w' : World) : Prop :=
  (∃ r' k', e = .returned (.tuple #[.bool r', .bool k']) ∧ (k' = true → (hasB T 92 = true → Utf8 T) ∧ r' = r ∧ k = true ∧ P r)) ∧ Below w.heap.size w w'
def identSpec (K : Nat) (T : List Int) : Option (Bool × Bool) :=
  (sidentifies.f T 0 false 0).bind fun (t, o) => (sname.f K T 0 o).bind fun (q, o') => some (t && rover T q, !o' && !hasB T 0)
theorem Rd.new {w : World} {A : Option Addr} {cp : Nat} {T : List Int} (h : Bytes w A T) (hcp : T.length ≤ cp) (hA : ∀ ad, A = some ad → ad.block < w.heap.size) :
    Rd (w.alloc (.cells #[.slice A T.length cp, .int .i64 0, .bool false] 35)) w.heap.size A cp T 0 false :=
  ⟨heap_new _ _, h.of_block fun ad _ hl => Below.heap_alloc _ _ _ hl, hcp, fun ad e => Nat.ne_of_lt (hA ad e)⟩
theorem Fr.below {w w' : World} {z : Nat} (k : Fr z w w') (B : Nat) (hB : B ≤ z) (hs : B ≤ w.heap.size) : Below B w w' := (Below.refl B w).frz k hB hs
theorem Bytes.below {w w' : World} {A : Option Addr} {T : List Int} (h : Bytes w A T) (k : Below w.heap.size w w') : Bytes w' A T := h.of_block fun ad _ hl => k.block ad.block hl
theorem over_quiet {w : World} {z : Nat} {A : Option Addr} {c : Nat} {T : List Int} {q : Int} {o : Bool} (h : Rd w z A c T q o) :
    Calls Tryd.prog 15 #[.pointer (some ⟨z, 0, none⟩)] w fun e w' => e = .returned (.bool (rover T q)) ∧ ∃ m, w' = w.drewN m := by
  have h0 := h.c0
  have h1 := h.c1
  go_enter Tryd.func15, Tryd.ntmps15
  go_wp2
  go_quiet (fail)
  go_wp2
  go_ret
  exact ⟨rfl, _, rfl⟩
theorem Has_quiet {w : World} {A : Option Addr} {cp : Nat} {T : List Int} (h : Bytes w A T) (c : Int) :
    Calls Tryd.prog 20 #[.slice A T.length cp, .int .u8 c] w fun e w' => e = .returned (.bool (hasB T c)) ∧ ∃ m, w' = w.drewN m :=
  (Has_calls h c).mono fun e w' ⟨he, hw⟩ => ⟨he, 0, by subst hw; cases w; rfl⟩
theorem SpecPost.drewN {P : Bool → Prop} {T : List Int} {w : World} {r k : Bool} {e : Ending} {w' : World} (h : SpecPost P T w r k e w') (n : Nat) : SpecPost P T w r k e (w'.drewN n) := ⟨h.1, ⟨h.2.os, h.2.tape, h.2.output, h.2.size, h.2.block⟩⟩
set_option maxHeartbeats 4000000 in
theorem IsIdent_calls (K : Nat) {w : World} {A : Option Addr} {T : List Int} {cp : Nat} (h : Bytes w A T) (hA : ∀ ad, A = some ad → ad.block < w.heap.size) (hT : isU8 T) (hcp : T.length ≤ cp) (hx : Lib.Utf8Tabs 1 2 w) (r k : Bool) (H : Hd (identSpec K T = some (r, k))) :
    Calls Tryd.prog 9 #[.slice A T.length cp] w (SpecPost (fun _ => 0 < T.length) T w r k) := by
  have HA := Hd.mk hA
  clear hA
  obtain ⟨⟨t, o⟩, A1, H⟩ := H.bind
  obtain ⟨⟨q, o'⟩, A2, H⟩ := H.bind
  obtain ⟨e1, e2⟩ := H.p2
  clear H
  have E1 := Hd.mk e1
  have E2 := Hd.mk e2
  clear e1 e2
  go_enter Tryd.func9, Tryd.ntmps9
  by_cases hn : T.length = 0
  · have hz : ((T.length : Int) == 0) = true := by rw [hn]; rfl
    go_wp2_with fail
    go_ret2
    exact ⟨⟨false, false, rfl, fun h => by cases h⟩, Below.refl _ _⟩
  have hz : ((T.length : Int) == 0) = false := by rw [beq_eq_false_iff_ne]; omega
  have HN : Hd (0 < T.length) := ⟨by omega⟩
  clear hn
  go_wp2_with fail
  refine (isBroken_calls h hT hcp hx).mono ?_
  rintro e w1 ⟨⟨v, rfl, hv⟩, h1⟩
  have HV := Hd.mk hv
  clear hv
  cases v with
  | true =>
    go_wp2_with fail
    go_ret2
    exact ⟨⟨false, false, rfl, fun h => by cases h⟩, h1⟩
  | false =>
    have hb1 := h.below h1
    have hs1 := h1.size
    have HR := Rd.new hb1 hcp (fun ad e => Nat.lt_of_lt_of_le (HA.out ad e) hs1)
    go_wp2_with fail
    refine (sidentifies.calls HR 0 t o A1).mono ?_
    rintro e w2 ⟨rfl, hI2, k2⟩
    go_wp2_with fail
    refine (sname.calls K hI2 q o' A2).mono ?_
    rintro e w3 ⟨rfl, hI3, k3⟩
    have c2 := hI3.c2
    have hm : Below w.heap.size w w3 := (h1.alloc hs1 _).frz (k2.trans k3) hs1 (by simp; omega)
    have C0 := Hd.mk (fun n => over_quiet (hI3.drewN n))
    have C1 := Hd.mk (fun n => Has_quiet (cp := cp) ((hI3.drewN n).txt) 0)
    have E1' := E1.out
    have E2' := E2.out
    clear HR hb1 h1 k2 k3 hI2 A1 A2
    generalize rover T q = x at C0 E1'
    generalize hasB T 0 = y at C1 E2'
    have E1 := Hd.mk E1'
    have E2 := Hd.mk E2'
    have HH : Hd (SpecPost (fun _ => 0 < T.length) T w r k (.returned (.tuple #[.bool (t && x), .bool (!o' && !y)])) w3) := ⟨⟨_, _, rfl, fun hk => ⟨HV.out trivial, E1.out, by rw [← E2.out]; exact hk, HN.out⟩⟩, hm⟩
    clear HV E1 E2 E1' E2' HN hm
    cases t <;> cases x <;> cases o' <;> cases y <;> (
      go_wp2_with fail
      go_quiet (first | (with_reducible exact Calls.quiet_of (C0.out _)) | (with_reducible exact Calls.quiet_of (C1.out _)))
      go_wp2_with fail
      go_ret2
      exact HH.out.drewN _)
theorem tabs_below {w w' : World} (h : Lib.Utf8Tabs 1 2 w) (k : Below w.heap.size w w') : Lib.Utf8Tabs 1 2 w' := Go.Proofs.Utf8Tabs_below h k
theorem conv22 (w : World) (C : Array Value) (n c : Nat) : (convert 22 22 (.slice (some ⟨w.heap.size, 0, none⟩) n c)).run Tryd.prog (w.alloc (.cells C 5)) = .ok (.slice (some ⟨w.heap.size, 0, none⟩) n c) (w.alloc (.cells C 5 (C.size, C.size + 1))) := Lib.run_convert_bytes_const w 22 5 C n c Tryd.underlying22 Tryd.underlying5
def bad : List Int := [34, 39, 40, 41, 92]
def address.l0 (K : Nat) (T : List Int) : Nat → Int → Bool → Option (Bool × Int × Bool)
  | 0, _, _ => none
  | k + 1, q, o => if rover T q = true then some (true, q, o) else
    (rpk T q 0).bind fun c => (if (c == 92) = true then sescapes.f T q o 0 else some (false, o)).bind fun (t, o1) =>
    if t = true then (sescape.f K T q o1).bind fun (q1, o2) => address.l0 K T k q1 o2 else
    if (sIsBlank.f c || hasB bad c || sisControl.f c) = true then some (false, q, o1) else address.l0 K T k (wrap64 (q + 1)) o1
def addressSpec (K : Nat) (T : List Int) : Option (Bool × Bool) :=
  (address.l0 K T K 0 false).bind fun (r, q, o) => some (r, !o && !hasB T 0)
theorem bad_bytes {w : World} : Bytes (w.alloc (.cells #[.int .u8 34, .int .u8 39, .int .u8 40, .int .u8 41, .int .u8 92] 5 (5, 6))) (some ⟨w.heap.size, 0, none⟩) bad := by
  refine ⟨by decide, fun _ => ⟨_, _, rfl, fun j hj => ?_⟩⟩
  rw [cell_of_block (heap_new _ _)]
  have : j = 0 ∨ j = 1 ∨ j = 2 ∨ j = 3 ∨ j = 4 := by unfold bad at hj; simp at hj; omega
  rcases this with rfl | rfl | rfl | rfl | rfl <;> rfl
set_option maxHeartbeats 4000000 in
theorem IsAddress_calls (K : Nat) {w : World} {A : Option Addr} {T : List Int} {cp : Nat} (h : Bytes w A T) (hA : ∀ ad, A = some ad → ad.block < w.heap.size) (hT : isU8 T) (hcp : T.length ≤ cp) (hx : Lib.Utf8Tabs 1 2 w) (r k : Bool) (H : Hd (addressSpec K T = some (r, k))) :
    Calls Tryd.prog 7 #[.slice A T.length cp] w (SpecPost (fun r => r = true → 0 < T.length) T w r k) := by
  have HA := Hd.mk hA
  obtain ⟨⟨r1, q1, o1⟩, A1, H⟩ := H.bind
  obtain ⟨rfl, e2⟩ := H.p2
  clear H
  have E2 := Hd.mk e2
  clear e2
  have HR := Rd.new h hcp hA
  have hF0 := Fr.refl w.heap.size (w.alloc (.cells #[.slice A T.length cp, .int .i64 0, .bool false] 35))
  clear hA
  have hcv := conv22
  go_enter Tryd.func7, Tryd.ntmps7
  go_wp2_with fail
  go_loopg [] K (fun gk w' => ∃ (q : Int), ∃ (o : Bool), Hd (address.l0 K T gk q o = some (r1, q1, o1)) ∧ Hd (Rd w' w.heap.size A cp T q o) ∧ Hd (Fr w.heap.size (w.alloc (.cells #[.slice A T.length cp, .int .i64 0, .bool false] 35)) w'))
  case atStart => exact ⟨0, false, A1, ⟨HR⟩, ⟨hF0⟩⟩
  case round =>
    clear A1
    obtain ⟨q, o, H, gI, gF⟩ := hrel
    have hI := gI.out; have hF := gF.out; clear gI gF
    have c0 := hI.c0
    have c1 := hI.c1
    have c2 := hI.c2
    have f := hI.f
    cases gk with
    | zero => exact absurd H.out (by simp [address.l0])
    | succ gk =>
      simp only [address.l0] at H
      go_wp2_with fail
      refine (over_calls hI).mono ?_
      rintro e w131 ⟨rfl, hI131, k131⟩
      have hF131 := hF.trans k131
      have c0131 := hI131.c0
      have c1131 := hI131.c1
      have c2131 := hI131.c2
      have f131 := hI131.f
      by_cases e132 : (rover T q) = true
      · replace H := H.pos e132
        obtain ⟨rfl, rfl, rfl⟩ := H.p3
        have hm : Below w.heap.size w w131 := ((Below.refl _ _).alloc (Nat.le_refl _) _).frz hF131 (Nat.le_refl _) (by simp)
        have hbb := h.below hm
        have hxx := tabs_below hx hm
        clear hI hF k131 hF131 f f131 c0 c1 c2 HR hF0 H
        cases o with
        | true =>
          go_wp2_with fail
          go_ret2
          exact ⟨⟨true, false, rfl, fun h => by cases h⟩, hm⟩
        | false =>
          by_cases hn : T.length = 0
          · have hz : decide ((0 : Int) < (T.length : Int)) = false := by rw [hn]; rfl
            have hz2 : ¬ (0 < T.length) := by omega
            go_wp2_with fail
            go_ret2
            exact ⟨⟨true, false, rfl, fun h => by cases h⟩, hm⟩
          have hz : decide ((0 : Int) < (T.length : Int)) = true := by rw [decide_eq_true_iff]; omega
          have HN : Hd (0 < T.length) := ⟨by omega⟩
          have hz2 := HN.out
          clear hn
          go_wp2_with fail
          refine (Has_calls hbb 0).mono ?_
          rintro e w' ⟨rfl, rfl⟩
          have E3 := Hd.mk E2.out
          generalize hasB T 0 = y at E3
          cases y with
          | true =>
            go_wp2_with fail
            go_ret2
            exact ⟨⟨true, false, rfl, fun h => by cases h⟩, hm⟩
          | false =>
            go_wp2_with fail
            refine (isBroken_calls hbb hT hcp hxx).mono ?_
            rintro e w1 ⟨⟨v, rfl, hv⟩, h1⟩
            have HV := Hd.mk hv
            clear hv
            go_wp2_with fail
            go_ret2
            exact ⟨⟨true, !v, rfl, fun hk => ⟨HV.out (by simpa using hk), rfl, by rw [← E3.out]; rfl, fun _ => HN.out⟩⟩, hm.trans (h1.mono hm.size)⟩
      · replace H := H.neg e132
        replace e132 := Bool.eq_false_iff.mpr e132
        obtain ⟨c, A3, H⟩ := H.bind
        obtain ⟨⟨t, o2⟩, A4, H⟩ := H.bind
        try dsimp only at H
        have HS : Hd (t = true → ∃ q2 o3, Hd (sescape.f K T q o2 = some (q2, o3)) ∧ Hd (address.l0 K T gk q2 o3 = some (r1, q1, o1))) := ⟨fun ht => by
          subst ht
          obtain ⟨⟨q2, o3⟩, a, b⟩ := H.tt.bind
          exact ⟨q2, o3, a, b⟩⟩
        have HC : Hd (t = false → Hd ((if (sIsBlank.f c || hasB bad c || sisControl.f c) = true then some (false, q, o2) else address.l0 K T gk (wrap64 (q + 1)) o2) = some (r1, q1, o1))) := ⟨fun ht => by subst ht; exact H.ff⟩
        clear H
        go_wp2_with fail
        refine (peek_calls hI131 0 c A3).mono ?_
        rintro e w3 ⟨rfl, hI3, k3⟩
        have hF3 := hF131.trans k3
        have c03 := hI3.c0
        have c13 := hI3.c1
        have c23 := hI3.c2
        have f3 := hI3.f
        by_cases e92 : (c == 92) = true
        · have A5 := A4.pos e92
          clear A4
          go_wp2_with fail
          refine (sescapes.calls hI3 0 t o2 A5).mono ?_
          rintro e w4 ⟨rfl, hI4, k4⟩
          have hF4 := hF3.trans k4
          have c04 := hI4.c0
          have c14 := hI4.c1
          have c24 := hI4.c2
          have f4 := hI4.f
          cases t with
          | true =>
            obtain ⟨q2, o3, A6, A7⟩ := HS.out rfl
            clear HS HC
            go_wp2_with fail
            refine (sescape.calls K hI4 q2 o3 A6).mono ?_
            rintro e w5 ⟨rfl, hI5, k5⟩
            have hF5 := hF4.trans k5
            go_wp2_with fail
            go_roundg gk
            case measure => exact Nat.lt_succ_self _
            case rel => exact ⟨q2, o3, A7, ⟨hI5⟩, ⟨hF5⟩⟩
          | false =>
            replace HC := Hd.mk (HC.out rfl).out
            clear HS
            go_wp2_with fail
            refine (sIsBlank.calls (w := _) c).mono ?_
            rintro e w' ⟨rfl, rfl⟩
            by_cases g1 : sIsBlank.f c = true
            · have HG : (sIsBlank.f c || hasB bad c || sisControl.f c) = true := by rw [g1]; rfl
              have hI5 := hI4; have hF5 := hF4
              replace HC := HC.pos HG
              obtain ⟨rfl, rfl, rfl⟩ := HC.p3
              clear HC HG
              have hm : Below w.heap.size w w4 := ((Below.refl _ _).alloc (Nat.le_refl _) _).frz hF5 (Nat.le_refl _) (by simp)
              have hbb := h.below hm
              have hxx := tabs_below hx hm
              have hc2 := hI5.c2
              clear hI hF k131 hF131 f f131 c0 c1 c2 HR hF0 H hI131 c0131 c1131 c2131 hI4 hF4 k4 hF5 hI5
              cases o2 with
              | true =>
                go_wp2_with fail
                go_ret2
                exact ⟨⟨false, false, rfl, fun h => by cases h⟩, hm⟩
              | false =>
                go_wp2_with fail
                refine (Has_calls hbb 0).mono ?_
                rintro e w' ⟨rfl, rfl⟩
                have E3 := Hd.mk E2.out
                generalize hasB T 0 = y at E3
                cases y with
                | true =>
                  go_wp2_with fail
                  go_ret2
                  exact ⟨⟨false, false, rfl, fun h => by cases h⟩, hm⟩
                | false =>
                  go_wp2_with fail
                  refine (isBroken_calls hbb hT hcp hxx).mono ?_
                  rintro e w1 ⟨⟨v, rfl, hv⟩, h1⟩
                  have HV := Hd.mk hv
                  clear hv
                  go_wp2_with fail
                  go_ret2
                  exact ⟨⟨false, !v, rfl, fun hk => ⟨HV.out (by simpa using hk), rfl, by rw [← E3.out]; rfl, fun h => by cases h⟩⟩, hm.trans (h1.mono hm.size)⟩
            · replace g1 := Bool.eq_false_iff.mpr g1
              have hI5 := hI4.alloc (.cells #[.int .u8 34, .int .u8 39, .int .u8 40, .int .u8 41, .int .u8 92] 5 (5, 6))
              have hF5 := hF4.alloc (.cells #[.int .u8 34, .int .u8 39, .int .u8 40, .int .u8 41, .int .u8 92] 5 (5, 6))
              go_wp2_with fail
              refine (Has_calls bad_bytes c).mono ?_
              rintro e w5 ⟨rfl, hw⟩
              rw [hw] at hI5 hF5
              clear hw
              have c15 := hI5.c1
              have c05 := hI5.c0
              have f5 := hI5.f
              by_cases g2 : hasB bad c = true
              · have HG : (sIsBlank.f c || hasB bad c || sisControl.f c) = true := by rw [g2]; simp
                replace HC := HC.pos HG
                obtain ⟨rfl, rfl, rfl⟩ := HC.p3
                clear HC HG
                have hm : Below w.heap.size w w5 := ((Below.refl _ _).alloc (Nat.le_refl _) _).frz hF5 (Nat.le_refl _) (by simp)
                have hbb := h.below hm
                have hxx := tabs_below hx hm
                have hc2 := hI5.c2
                clear hI hF k131 hF131 f f131 c0 c1 c2 HR hF0 H hI131 c0131 c1131 c2131 hI4 hF4 k4 hF5 hI5
                cases o2 with
                | true =>
                  go_wp2_with fail
                  go_ret2
                  exact ⟨⟨false, false, rfl, fun h => by cases h⟩, hm⟩
                | false =>
                  go_wp2_with fail
                  refine (Has_calls hbb 0).mono ?_
                  rintro e w' ⟨rfl, rfl⟩
                  have E3 := Hd.mk E2.out
                  generalize hasB T 0 = y at E3
                  cases y with
                  | true =>
                    go_wp2_with fail
                    go_ret2
                    exact ⟨⟨false, false, rfl, fun h => by cases h⟩, hm⟩
                  | false =>
                    go_wp2_with fail
                    refine (isBroken_calls hbb hT hcp hxx).mono ?_
                    rintro e w1 ⟨⟨v, rfl, hv⟩, h1⟩
                    have HV := Hd.mk hv
                    clear hv
                    go_wp2_with fail
                    go_ret2
                    exact ⟨⟨false, !v, rfl, fun hk => ⟨HV.out (by simpa using hk), rfl, by rw [← E3.out]; rfl, fun h => by cases h⟩⟩, hm.trans (h1.mono hm.size)⟩
              · replace g2 := Bool.eq_false_iff.mpr g2
                go_wp2_with fail
                refine (sisControl.calls (w := _) c).mono ?_
                rintro e w' ⟨rfl, rfl⟩
                by_cases g3 : sisControl.f c = true
                · have HG : (sIsBlank.f c || hasB bad c || sisControl.f c) = true := by rw [g3]; simp
                  replace HC := HC.pos HG
                  obtain ⟨rfl, rfl, rfl⟩ := HC.p3
                  clear HC HG
                  have hm : Below w.heap.size w w5 := ((Below.refl _ _).alloc (Nat.le_refl _) _).frz hF5 (Nat.le_refl _) (by simp)
                  have hbb := h.below hm
                  have hxx := tabs_below hx hm
                  have hc2 := hI5.c2
                  clear hI hF k131 hF131 f f131 c0 c1 c2 HR hF0 H hI131 c0131 c1131 c2131 hI4 hF4 k4 hF5 hI5
                  cases o2 with
                  | true =>
                    go_wp2_with fail
                    go_ret2
                    exact ⟨⟨false, false, rfl, fun h => by cases h⟩, hm⟩
                  | false =>
                    go_wp2_with fail
                    refine (Has_calls hbb 0).mono ?_
                    rintro e w' ⟨rfl, rfl⟩
                    have E3 := Hd.mk E2.out
                    generalize hasB T 0 = y at E3
                    cases y with
                    | true =>
                      go_wp2_with fail
                      go_ret2
                      exact ⟨⟨false, false, rfl, fun h => by cases h⟩, hm⟩
                    | false =>
                      go_wp2_with fail
                      refine (isBroken_calls hbb hT hcp hxx).mono ?_
                      rintro e w1 ⟨⟨v, rfl, hv⟩, h1⟩
                      have HV := Hd.mk hv
                      clear hv
                      go_wp2_with fail
                      go_ret2
                      exact ⟨⟨false, !v, rfl, fun hk => ⟨HV.out (by simpa using hk), rfl, by rw [← E3.out]; rfl, fun h => by cases h⟩⟩, hm.trans (h1.mono hm.size)⟩
                · replace g3 := Bool.eq_false_iff.mpr g3
                  replace HC := HC.neg (by rw [g1, g2, g3]; simp)
                  go_wp2_with fail
                  go_roundg gk
                  case measure => exact Nat.lt_succ_self _
                  case rel => exact ⟨wrap64 (q + 1), o2, HC, ⟨hI5.setAt _⟩, ⟨hF5.set _ _⟩⟩
        · replace e92 := Bool.eq_false_iff.mpr e92
          have A5 := A4.neg (by simp [e92])
          obtain ⟨rfl, rfl⟩ := A5.p2
          clear A4 A5
          have hI4 := hI3
          have hF4 := hF3
          have k4 := k3
          replace HC := Hd.mk (HC.out rfl).out
          clear HS
          go_wp2_with fail
          refine (sIsBlank.calls (w := _) c).mono ?_
          rintro e w' ⟨rfl, rfl⟩
          by_cases g1 : sIsBlank.f c = true
          · have HG : (sIsBlank.f c || hasB bad c || sisControl.f c) = true := by rw [g1]; rfl
            have hI5 := hI4; have hF5 := hF4
            replace HC := HC.pos HG
            obtain ⟨rfl, rfl, rfl⟩ := HC.p3
            clear HC HG
            have hm : Below w.heap.size w w3 := ((Below.refl _ _).alloc (Nat.le_refl _) _).frz hF5 (Nat.le_refl _) (by simp)
            have hbb := h.below hm
            have hxx := tabs_below hx hm
            have hc2 := hI5.c2
            clear hI hF k131 hF131 f f131 c0 c1 c2 HR hF0 H hI131 c0131 c1131 c2131 hI4 hF4 k4 hF5 hI5
            cases o with
            | true =>
              go_wp2_with fail
              go_ret2
              exact ⟨⟨false, false, rfl, fun h => by cases h⟩, hm⟩
            | false =>
              go_wp2_with fail
              refine (Has_calls hbb 0).mono ?_
              rintro e w' ⟨rfl, rfl⟩
              have E3 := Hd.mk E2.out
              generalize hasB T 0 = y at E3
              cases y with
              | true =>
                go_wp2_with fail
                go_ret2
                exact ⟨⟨false, false, rfl, fun h => by cases h⟩, hm⟩
              | false =>
                go_wp2_with fail
                refine (isBroken_calls hbb hT hcp hxx).mono ?_
                rintro e w1 ⟨⟨v, rfl, hv⟩, h1⟩
                have HV := Hd.mk hv
                clear hv
                go_wp2_with fail
                go_ret2
                exact ⟨⟨false, !v, rfl, fun hk => ⟨HV.out (by simpa using hk), rfl, by rw [← E3.out]; rfl, fun h => by cases h⟩⟩, hm.trans (h1.mono hm.size)⟩
          · replace g1 := Bool.eq_false_iff.mpr g1
            have hI5 := hI4.alloc (.cells #[.int .u8 34, .int .u8 39, .int .u8 40, .int .u8 41, .int .u8 92] 5 (5, 6))
            have hF5 := hF4.alloc (.cells #[.int .u8 34, .int .u8 39, .int .u8 40, .int .u8 41, .int .u8 92] 5 (5, 6))
            go_wp2_with fail
            refine (Has_calls bad_bytes c).mono ?_
            rintro e w5 ⟨rfl, hw⟩
            rw [hw] at hI5 hF5
            clear hw
            have c15 := hI5.c1
            have c05 := hI5.c0
            have f5 := hI5.f
            by_cases g2 : hasB bad c = true
            · have HG : (sIsBlank.f c || hasB bad c || sisControl.f c) = true := by rw [g2]; simp
              replace HC := HC.pos HG
              obtain ⟨rfl, rfl, rfl⟩ := HC.p3
              clear HC HG
              have hm : Below w.heap.size w w5 := ((Below.refl _ _).alloc (Nat.le_refl _) _).frz hF5 (Nat.le_refl _) (by simp)
              have hbb := h.below hm
              have hxx := tabs_below hx hm
              have hc2 := hI5.c2
              clear hI hF k131 hF131 f f131 c0 c1 c2 HR hF0 H hI131 c0131 c1131 c2131 hI4 hF4 k4 hF5 hI5
              cases o with
              | true =>
                go_wp2_with fail
                go_ret2
                exact ⟨⟨false, false, rfl, fun h => by cases h⟩, hm⟩
              | false =>
                go_wp2_with fail
                refine (Has_calls hbb 0).mono ?_
                rintro e w' ⟨rfl, rfl⟩
                have E3 := Hd.mk E2.out
                generalize hasB T 0 = y at E3
                cases y with
                | true =>
                  go_wp2_with fail
                  go_ret2
                  exact ⟨⟨false, false, rfl, fun h => by cases h⟩, hm⟩
                | false =>
                  go_wp2_with fail
                  refine (isBroken_calls hbb hT hcp hxx).mono ?_
                  rintro e w1 ⟨⟨v, rfl, hv⟩, h1⟩
                  have HV := Hd.mk hv
                  clear hv
                  go_wp2_with fail
                  go_ret2
                  exact ⟨⟨false, !v, rfl, fun hk => ⟨HV.out (by simpa using hk), rfl, by rw [← E3.out]; rfl, fun h => by cases h⟩⟩, hm.trans (h1.mono hm.size)⟩
            · replace g2 := Bool.eq_false_iff.mpr g2
              go_wp2_with fail
              refine (sisControl.calls (w := _) c).mono ?_
              rintro e w' ⟨rfl, rfl⟩
              by_cases g3 : sisControl.f c = true
              · have HG : (sIsBlank.f c || hasB bad c || sisControl.f c) = true := by rw [g3]; simp
                replace HC := HC.pos HG
                obtain ⟨rfl, rfl, rfl⟩ := HC.p3
                clear HC HG
                have hm : Below w.heap.size w w5 := ((Below.refl _ _).alloc (Nat.le_refl _) _).frz hF5 (Nat.le_refl _) (by simp)
                have hbb := h.below hm
                have hxx := tabs_below hx hm
                have hc2 := hI5.c2
                clear hI hF k131 hF131 f f131 c0 c1 c2 HR hF0 H hI131 c0131 c1131 c2131 hI4 hF4 k4 hF5 hI5
                cases o with
                | true =>
                  go_wp2_with fail
                  go_ret2
                  exact ⟨⟨false, false, rfl, fun h => by cases h⟩, hm⟩
                | false =>
                  go_wp2_with fail
                  refine (Has_calls hbb 0).mono ?_
                  rintro e w' ⟨rfl, rfl⟩
                  have E3 := Hd.mk E2.out
                  generalize hasB T 0 = y at E3
                  cases y with
                  | true =>
                    go_wp2_with fail
                    go_ret2
                    exact ⟨⟨false, false, rfl, fun h => by cases h⟩, hm⟩
                  | false =>
                    go_wp2_with fail
                    refine (isBroken_calls hbb hT hcp hxx).mono ?_
                    rintro e w1 ⟨⟨v, rfl, hv⟩, h1⟩
                    have HV := Hd.mk hv
                    clear hv
                    go_wp2_with fail
                    go_ret2
                    exact ⟨⟨false, !v, rfl, fun hk => ⟨HV.out (by simpa using hk), rfl, by rw [← E3.out]; rfl, fun h => by cases h⟩⟩, hm.trans (h1.mono hm.size)⟩
              · replace g3 := Bool.eq_false_iff.mpr g3
                replace HC := HC.neg (by rw [g1, g2, g3]; simp)
                go_wp2_with fail
                go_roundg gk
                case measure => exact Nat.lt_succ_self _
                case rel => exact ⟨wrap64 (q + 1), o, HC, ⟨hI5.setAt _⟩, ⟨hF5.set _ _⟩⟩
end Go.Proofs.YteonakpgenkhkaaDoor
