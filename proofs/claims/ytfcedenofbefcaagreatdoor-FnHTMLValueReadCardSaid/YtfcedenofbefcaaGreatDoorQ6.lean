import Derived.Test.YtfcedenofbefcaaGreatDoorQ5
namespace Go.Proofs.YtfcedenofbefcaaGreatDoor
open Go.RowKit
set_option linter.unusedVariables false
set_option linter.unusedSimpArgs false
theorem noTwo_of : ∀ (L : List ItemD) (b : Bool), (∀ i, L[0]? = some i → ¬ (b = true ∧ i.kind = 0)) → (∀ (j : Nat) (x y : ItemD), L[j]? = some x → L[j + 1]? = some y → y.kind = 0 → x.kind ≠ 0) → NoTwo b L
  | [], _, _, _ => trivial
  | i :: L, b, h0, h => ⟨h0 i rfl, noTwo_of L _ (fun y hy ⟨e, hk⟩ => h 0 i y rfl (by simpa using hy) hk (by simpa using e)) fun j x y hx hy => h (j + 1) x y (by simpa using hx) (by simpa using hy)⟩
def AreUpto (html : Bool) (l : List ItemV) (k : Nat) : Prop := ∀ j, j < k → ∀ x, l[j]? = some x → GoodItem html x.d ∧ GoodVoid html x.d ∧ (0 < j → x.kind = 0 → ∀ y, l[j - 1]? = some y → y.kind ≠ 0)
theorem areUpto_step {html : Bool} {l : List ItemV} {k : Nat} {x : ItemV} (h : AreUpto html l k) (hx : l[k]? = some x) (h1 : GoodItem html x.d) (h2 : GoodVoid html x.d) (h3 : 0 < k → x.kind = 0 → ∀ y, l[k - 1]? = some y → y.kind ≠ 0) : AreUpto html l (k + 1) := by
  intro j hj y hy
  rcases Nat.lt_or_ge j k with h' | h'
  · exact h j h' y hy
  · obtain rfl : j = k := by omega
    rw [hx] at hy
    cases hy
    exact ⟨h1, h2, h3⟩
theorem areUpto_doc {html : Bool} {l : List ItemV} (h : AreUpto html l l.length) (hl : l.length ≤ 60) : GoodDoc html (l.map ItemV.d) := by
  refine ⟨fun i hi => ?_, by simpa using hl, noTwo_of _ _ (fun i _ ⟨e, _⟩ => by cases e) fun j x y hx hy hk => ?_⟩
  · obtain ⟨x, hx, rfl⟩ := List.mem_map.mp hi
    obtain ⟨j, hj⟩ := List.getElem?_of_mem hx
    have := h j (List.getElem?_eq_some_iff.mp hj).1 x hj
    exact ⟨this.1, this.2.1⟩
  · rw [List.getElem?_map] at hx hy
    obtain ⟨x', hx', rfl⟩ := Option.map_eq_some_iff.mp hx
    obtain ⟨y', hy', rfl⟩ := Option.map_eq_some_iff.mp hy
    exact (h (j + 1) (List.getElem?_eq_some_iff.mp hy').1 y' hy').2.2 (by omega) hk x' (by simpa using hx')
theorem last_quote {l : List AttrV} {q : AttrV} (h : l[l.length - 1]? = some q) (a : AttrD) (ha : (l.map AttrV.d).getLast? = some a) : a = q.d := by
  rw [List.getLast?_eq_getElem?, List.length_map, List.getElem?_map, h] at ha
  simpa using ha.symm
set_option maxHeartbeats 8000000 in
set_option maxRecDepth 100000 in
theorem AreItems_calls {w : World} {A : Option Addr} {l : List ItemV} {cp : Nat} (h : ItemsAt w A l) (html : Bool) :
    Calls Tryz.prog 8 #[.slice A l.length cp, .bool html] w (Says (fun b => b = true → GoodDoc html (l.map ItemV.d)) w) := by
  have HA := Hd.mk h
  have hlen := h.len
  clear h
  go_enter Tryz.func8, Tryz.ntmps8
  go_wp2_with fail
  go_loopg [10] l.length (fun gk v10 w' => ∃ k : Nat, v10 = .int .i64 k ∧ Hd (k + gk = l.length) ∧ Hd (AreUpto html l k) ∧ Hd (Below w.heap.size w w'))
  case atStart => exact ⟨0, rfl, ⟨by omega⟩, ⟨fun j hj => absurd hj (Nat.not_lt_zero _)⟩, ⟨Below.refl _ _⟩⟩
  case round =>
    obtain ⟨k, rfl, HK, HG, HB⟩ := hrel
    cases gk with
    | zero =>
      have hk : k = l.length := by have := HK.out; omega
      subst hk
      by_cases h1 : (l.length : Int) ≤ 60
      · have d1 : decide ((l.length : Int) ≤ 60) = true := decide_eq_true h1
        have HF := Hd.mk (areUpto_doc HG.out (by omega))
        go_wp2
        go_ret
        exact ⟨⟨_, rfl, fun _ => HF.out⟩, HB.out⟩
      · have d1 : decide ((l.length : Int) ≤ 60) = false := decide_eq_false h1
        go_wp2
        go_ret
        exact ⟨⟨_, rfl, fun h => by cases h⟩, HB.out⟩
    | succ gk =>
      have hlt : k < l.length := by have := HK.out; omega
      have hil : (k : Int) < (l.length : Int) := by omega
      obtain ⟨x, hx⟩ : ∃ x, l[k]? = some x := ⟨_, List.getElem?_eq_getElem hlt⟩
      obtain ⟨b, o, rfl, g0, g1, g2, g3, hin⟩ := (HA.out.below HB.out).four k x hx
      have HX := Hd.mk hx
      have HW : Hd (Below wr.heap.size wr (wr.alloc (.cells #[.int .i64 x.kind, .slice x.A1 x.text.length x.c1, .slice x.A2 x.name.length x.c2, .slice x.A3 x.attrs.length x.c3] 43))) := ⟨(Below.refl _ _).alloc (Nat.le_refl _) _⟩
      have HI := Hd.mk (hin.below HW.out)
      have HBW := Hd.mk (HB.out.alloc HB.out.size (.cells #[.int .i64 x.kind, .slice x.A1 x.text.length x.c1, .slice x.A2 x.name.length x.c2, .slice x.A3 x.attrs.length x.c3] 43))
      have HC : Hd (∀ j u, #[Value.int .i64 x.kind, .slice x.A1 x.text.length x.c1, .slice x.A2 x.name.length x.c2, .slice x.A3 x.attrs.length x.c3][j]? = some u → (wr.alloc (.cells #[.int .i64 x.kind, .slice x.A1 x.text.length x.c1, .slice x.A2 x.name.length x.c2, .slice x.A3 x.attrs.length x.c3] 43)).cell? ⟨wr.heap.size, j, none⟩ = some u) := ⟨fun j u hu => new_cell hu⟩
      have HS : Hd (wr.heap.size < (wr.alloc (.cells #[.int .i64 x.kind, .slice x.A1 x.text.length x.c1, .slice x.A2 x.name.length x.c2, .slice x.A3 x.attrs.length x.c3] 43)).heap.size) := ⟨by simp⟩
      have HWS : Hd (w.heap.size ≤ wr.heap.size) := ⟨HB.out.size⟩
      clear hin hx HB
      go_upto_region 4 with fail
      go_cut [36] (fun v36 w' => ∃ r : Bool, v36 = .bool r ∧ Hd (r = false → GoodItem html x.d ∧ (0 < k → x.kind = 0 → ∀ y, l[k - 1]? = some y → y.kind ≠ 0)) ∧ Hd (Below (wr.alloc (.cells #[.int .i64 x.kind, .slice x.A1 x.text.length x.c1, .slice x.A2 x.name.length x.c2, .slice x.A3 x.attrs.length x.c3] 43)).heap.size (wr.alloc (.cells #[.int .i64 x.kind, .slice x.A1 x.text.length x.c1, .slice x.A2 x.name.length x.c2, .slice x.A3 x.attrs.length x.c3] 43)) w'))
      case first =>
        clear g0 g1 g2 g3
        go_wp2_with fail
        refine (isItem_calls x HI.out html).mono ?_
        rintro e w' ⟨⟨r, rfl, hP⟩, hB⟩
        have HP := Hd.mk hP
        have HBi := Hd.mk hB
        have m0 := (hB.cell (p := ⟨wr.heap.size, 0, none⟩) HS.out).trans (HC.out 0 _ rfl)
        have HAi := Hd.mk (HA.out.below (HBW.out.trans (hB.mono HBW.out.size)))
        clear hB hP
        cases r with
        | false =>
          go_wp2_with fail
          go_meet
          case rel => exact ⟨true, rfl, ⟨fun h => by cases h⟩, HBi⟩
        | true =>
          have HGI := Hd.mk (HP.out rfl)
          clear HP
          by_cases hk0 : (0 : Int) < (k : Int)
          · have dk0 : decide ((0 : Int) < (k : Int)) = true := decide_eq_true hk0
            by_cases hx0 : x.kind = 0
            · have dx0 : (x.kind == 0) = true := beq_iff_eq.mpr hx0
              obtain ⟨y, hy⟩ : ∃ y, l[k - 1]? = some y := ⟨_, List.getElem?_eq_getElem (by omega)⟩
              obtain ⟨b', o', e', y0, _⟩ := HAi.out.four (k - 1) y hy
              cases e'
              have HY := Hd.mk hy
              have hw1 : wrap64 ((k : Int) - 1) = ((k - 1 : Nat) : Int) := by rw [wrap_small (by omega) (by omega)]; omega
              have hw2 : ((k - 1 : Nat) : Int) < (l.length : Int) := by omega
              have hw3 : k - 1 < l.length := by omega
              have HX0 := Hd.mk hx0
              clear hx0 hy
              by_cases hy0 : y.kind = 0
              · have dy0 : (y.kind == 0) = true := beq_iff_eq.mpr hy0
                clear hy0
                go_wp2_with fail
                go_meet
                case rel => exact ⟨true, rfl, ⟨fun h => by cases h⟩, HBi⟩
              · have dy0 : (y.kind == 0) = false := beq_eq_false_iff_ne.mpr hy0
                have HY0 := Hd.mk hy0
                clear hy0
                go_wp2_with fail
                go_meet
                case rel => exact ⟨false, rfl, ⟨fun _ => ⟨HGI.out, fun _ _ z hz => by rw [HY.out] at hz; cases hz; exact HY0.out⟩⟩, HBi⟩
            · have dx0 : (x.kind == 0) = false := beq_eq_false_iff_ne.mpr hx0
              have HX0 := Hd.mk hx0
              clear hx0
              go_wp2_with fail
              go_meet
              case rel => exact ⟨false, rfl, ⟨fun _ => ⟨HGI.out, fun _ e => absurd e HX0.out⟩⟩, HBi⟩
          · have dk0 : decide ((0 : Int) < (k : Int)) = false := decide_eq_false hk0
            have HK0 := Hd.mk hk0
            go_wp2_with fail
            go_meet
            case rel => exact ⟨false, rfl, ⟨fun _ => ⟨HGI.out, fun h => absurd h (by have := HK0.out; omega)⟩⟩, HBi⟩
      case rest =>
        obtain ⟨r, rfl, HP, HBi⟩ := hcut
        have hB := HBi.out
        have m0 := (hB.cell (p := ⟨wr.heap.size, 0, none⟩) HS.out).trans (HC.out 0 _ rfl)
        have m1 := (hB.cell (p := ⟨wr.heap.size, 1, none⟩) HS.out).trans (HC.out 1 _ rfl)
        have m3 := (hB.cell (p := ⟨wr.heap.size, 3, none⟩) HS.out).trans (HC.out 3 _ rfl)
        have HBn := Hd.mk (HBW.out.trans (hB.mono HBW.out.size))
        have HIi := Hd.mk (HI.out.below hB)
        clear hB g0 g1 g2 g3
        cases r with
        | true =>
          go_wp2_with fail
          go_ret
          exact ⟨⟨_, rfl, fun h => by cases h⟩, HBn.out⟩
        | false =>
          obtain ⟨hgi, hnt⟩ := HP.out rfl
          have HST := Hd.mk (fun hv => areUpto_step HG.out HX.out hgi hv hnt)
          clear hgi hnt HP
          have hta := HIi.out.b3.len
          have htt := HIi.out.b1.len
          cases html with
          | false =>
            have HG2 := Hd.mk (HST.out (fun h => by cases h))
            go_wp2_with fail
            go_roundg gk
            case measure => exact Nat.lt_succ_self _
            case rel => exact ⟨k + 1, by go_num, ⟨by have := HK.out; omega⟩, HG2, HBn⟩
          | true =>
            by_cases h5 : x.kind = 5
            ·
              have d5 : (x.kind == 5) = true := beq_iff_eq.mpr h5
              have H5 := Hd.mk h5; clear h5
              by_cases hn : (0 : Int) < (x.attrs.length : Int)
              ·
                have dn : decide ((0 : Int) < (x.attrs.length : Int)) = true := decide_eq_true hn
                obtain ⟨q, hq⟩ : ∃ q, x.attrs[x.attrs.length - 1]? = some q := ⟨_, List.getElem?_eq_getElem (by omega)⟩
                obtain ⟨b2, o2, e2, _, _, _, _, _, q5, _⟩ := HIi.out.b3.six _ q hq
                rw [e2] at m3
                have HQ := Hd.mk hq
                have hv1 : wrap64 ((x.attrs.length : Int) - 1) = ((x.attrs.length - 1 : Nat) : Int) := by rw [wrap_small (by omega) (by omega)]; omega
                have hv2 : ((x.attrs.length - 1 : Nat) : Int) < (x.attrs.length : Int) := by omega
                have hv3 : x.attrs.length - 1 < x.attrs.length := by omega
                clear hq e2
                by_cases hq : q.d.quote = 2
                ·
                  have dq : (q.d.quote == 2) = true := beq_iff_eq.mpr hq
                  have Hq := Hd.mk hq; clear hq
                  by_cases ht : (x.text.length : Int) = 0
                  ·
                    have dt : ((x.text.length : Int) == 0) = true := beq_iff_eq.mpr ht
                    have Ht := Hd.mk ht; clear ht
                    go_wp2_with fail
                    go_ret
                    exact ⟨⟨_, rfl, fun h => by cases h⟩, HBn.out⟩
                  ·
                    have dt : ((x.text.length : Int) == 0) = false := beq_eq_false_iff_ne.mpr ht
                    have Ht := Hd.mk ht; clear ht
                    have HG2 := Hd.mk (HST.out (fun _ _ (e : x.text = []) => absurd (by rw [e]; rfl) Ht.out))
                    go_wp2_with fail
                    go_roundg gk
                    case measure => exact Nat.lt_succ_self _
                    case rel => exact ⟨k + 1, by go_num, ⟨by have := HK.out; omega⟩, HG2, HBn⟩
                ·
                  have dq : (q.d.quote == 2) = false := beq_eq_false_iff_ne.mpr hq
                  have Hq := Hd.mk hq; clear hq
                  have HG2 := Hd.mk (HST.out (fun _ _ _ a ha e => Hq.out (by rw [← last_quote HQ.out a ha]; exact e)))
                  go_wp2_with fail
                  go_roundg gk
                  case measure => exact Nat.lt_succ_self _
                  case rel => exact ⟨k + 1, by go_num, ⟨by have := HK.out; omega⟩, HG2, HBn⟩
              ·
                have dn : decide ((0 : Int) < (x.attrs.length : Int)) = false := decide_eq_false hn
                have Hn := Hd.mk hn
                have HG2 := Hd.mk (HST.out (fun _ _ _ a ha _ => by have e : x.attrs = [] := List.eq_nil_of_length_eq_zero (by have := Hn.out; omega); have ha' : (x.attrs.map AttrV.d).getLast? = some a := ha; rw [e] at ha'; cases ha'))
                go_wp2_with fail
                go_roundg gk
                case measure => exact Nat.lt_succ_self _
                case rel => exact ⟨k + 1, by go_num, ⟨by have := HK.out; omega⟩, HG2, HBn⟩
            ·
              have d5 : (x.kind == 5) = false := beq_eq_false_iff_ne.mpr h5
              have H5 := Hd.mk h5; clear h5
              have HG2 := Hd.mk (HST.out (fun _ e => absurd e H5.out))
              go_wp2_with fail
              go_roundg gk
              case measure => exact Nat.lt_succ_self _
              case rel => exact ⟨k + 1, by go_num, ⟨by have := HK.out; omega⟩, HG2, HBn⟩
end Go.Proofs.YtfcedenofbefcaaGreatDoor
