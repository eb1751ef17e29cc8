import Derived.Test.YtfcedenofbefcaaGreatDoorQ4
namespace Go.Proofs.YtfcedenofbefcaaGreatDoor
open Go.RowKit
set_option linter.unusedVariables false
set_option linter.unusedSimpArgs false
theorem new_cell {w : World} {cs : Array Value} {t : TypeId} {f : Nat × Nat} {j : Nat} {u : Value} (h : cs[j]? = some u) : (w.alloc (.cells cs t f)).cell? ⟨w.heap.size, j, none⟩ = some u := (cell_of_block (heap_new _ _) j).trans h
theorem getElem?_map_d {l : List AttrV} {k : Nat} {x : AttrV} (h : l[k]? = some x) : (l.map AttrV.d)[k]? = some x.d := by rw [List.getElem?_map, h]; rfl
theorem take_step {α : Type} {P : α → Prop} {l : List α} {k : Nat} {x : α} (h : ∀ y ∈ l.take k, P y) (hx : l[k]? = some x) (hp : P x) : ∀ y ∈ l.take (k + 1), P y := by
  have hk := (List.getElem?_eq_some_iff.mp hx).1
  have : l.take (k + 1) = l.take k ++ [x] := by
    rw [List.take_succ_eq_append_getElem hk, (List.getElem?_eq_some_iff.mp hx).2]
  intro y hm
  rw [this] at hm
  rcases List.mem_append.mp hm with h' | h'
  · exact h y h'
  · obtain rfl := List.mem_singleton.mp h'
    exact hp
set_option maxHeartbeats 4000000 in
theorem areAttributes_calls {w : World} {A : Option Addr} {l : List AttrV} {cp : Nat} (h : AttrsAt w A l) (html : Bool) :
    Calls Tryz.prog 47 #[.slice A l.length cp, .bool html] w (Says (fun b => b = true → GoodAttrs html (l.map AttrV.d)) w) := by
  have HA := Hd.mk h
  have hlen := h.len
  clear h
  go_enter Tryz.func47, Tryz.ntmps47
  go_wp2_with fail
  go_loopg [9] l.length (fun gk v9 w' => ∃ k : Nat, v9 = .int .i64 k ∧ Hd (k + gk = l.length) ∧ Hd (∀ x ∈ l.take k, GoodAttr html x.d) ∧ Hd (Below w.heap.size w w'))
  case atStart => exact ⟨0, rfl, ⟨by omega⟩, ⟨fun x hx => by simp at hx⟩, ⟨Below.refl _ _⟩⟩
  case round =>
    obtain ⟨k, rfl, HK, HG, HB⟩ := hrel
    cases gk with
    | zero =>
      have hk : k = l.length := by have := HK.out; omega
      subst hk
      by_cases h1 : (l.length : Int) ≤ 20
      · have d1 : decide ((l.length : Int) ≤ 20) = true := decide_eq_true h1
        have HF : Hd (GoodAttrs html (l.map AttrV.d)) := ⟨⟨fun a ha => by
          obtain ⟨x, hx, rfl⟩ := List.mem_map.mp ha
          exact HG.out x (by rw [List.take_length]; exact hx), by rw [List.length_map]; omega⟩⟩
        go_wp2
        go_ret
        exact ⟨⟨_, rfl, fun _ => HF.out⟩, HB.out⟩
      · have d1 : decide ((l.length : Int) ≤ 20) = false := decide_eq_false h1
        go_wp2
        go_ret
        exact ⟨⟨_, rfl, fun h => by cases h⟩, HB.out⟩
    | succ gk =>
      have hlt : k < l.length := by have := HK.out; omega
      have hil : (k : Int) < (l.length : Int) := by omega
      obtain ⟨x, hx⟩ : ∃ x, l[k]? = some x := ⟨_, List.getElem?_eq_getElem hlt⟩
      obtain ⟨b, o, rfl, g0, g1, g2, g3, g4, g5, hin⟩ := (HA.out.below HB.out).six k x hx
      have HI := Hd.mk hin
      have HX := Hd.mk hx
      have HBn := Hd.mk (fun ob => HB.out.alloc HB.out.size ob)
      clear hin hx HB
      go_wp2_with fail
      refine (isAttribute_calls x (HI.out.below ((Below.refl _ _).alloc (Nat.le_refl _) _)) html).mono ?_
      rintro e w' ⟨⟨r, rfl, hP⟩, hB⟩
      have HB2 := Hd.mk ((HBn.out _).trans (hB.mono (HBn.out _).size))
      have HP := Hd.mk hP
      clear hB HBn hP
      cases r with
      | true =>
        have HG2 := Hd.mk (take_step HG.out HX.out (HP.out rfl))
        go_wp2_with fail
        go_roundg gk
        case measure => exact Nat.lt_succ_self _
        case rel => exact ⟨k + 1, by go_num, ⟨by have := HK.out; omega⟩, HG2, HB2⟩
      | false =>
        go_wp2_with fail
        go_ret
        exact ⟨⟨_, rfl, fun h => by cases h⟩, HB2.out⟩
set_option maxHeartbeats 8000000 in
set_option maxRecDepth 100000 in
theorem isItem_calls {w : World} (x : ItemV) (h : x.In w) (html : Bool) :
    Calls Tryz.prog 20 #[.agg #[.int .i64 x.kind, .slice x.A1 x.text.length x.c1, .slice x.A2 x.name.length x.c2, .slice x.A3 x.attrs.length x.c3], .bool html] w (Says (fun b => b = true → GoodItem html x.d) w) := by
  have HB : Hd (Below w.heap.size w (w.alloc (.cells #[.int .i64 x.kind, .slice x.A1 x.text.length x.c1, .slice x.A2 x.name.length x.c2, .slice x.A3 x.attrs.length x.c3] 43))) := ⟨(Below.refl _ _).alloc (Nat.le_refl _) _⟩
  have HI := Hd.mk (h.below HB.out)
  have hcp := h.k1
  clear h
  obtain ⟨kd, A1, A2, A3, c1, c2, c3, tx, nm, at'⟩ := x
  have HB1 := Hd.mk HI.out.b1
  have HB2 := Hd.mk HI.out.b2
  have HB3 := Hd.mk HI.out.b3
  dsimp only at HB HB1 HB2 HB3 hcp ⊢
  have HGood : Hd (∀ P, GoodItem html ⟨kd, tx, nm, at'.map AttrV.d⟩ → P ∨ GoodItem html ⟨kd, tx, nm, at'.map AttrV.d⟩) := ⟨fun _ h => .inr h⟩
  have Hcp := Hd.mk hcp
  clear HI hcp HGood
  have hl1 := HB1.out.len
  go_enter Tryz.func20, Tryz.ntmps20
  by_cases hk0 : kd = 0
  ·
    have dk0 : (kd == 0) = true := beq_iff_eq.mpr hk0
    have Hk0 := Hd.mk hk0; clear hk0
    go_wp2_with fail
    refine (isText_calls HB1.out).mono ?_
    rintro e w' ⟨⟨rt, rfl, hPt⟩, rfl⟩
    have HPt := Hd.mk hPt; clear hPt
    cases rt with
    | true =>
      replace HPt := Hd.mk (HPt.out rfl)
      go_wp2_with fail
      go_ret
      exact ⟨⟨_, rfl, fun _ => .inl ⟨Hk0.out, HPt.out.1, HPt.out.2.1, HPt.out.2.2⟩⟩, HB.out⟩
    | false =>
      go_wp2_with fail
      go_ret
      exact ⟨⟨_, rfl, fun h => by cases h⟩, HB.out⟩
  ·
    have dk0 : (kd == 0) = false := beq_eq_false_iff_ne.mpr hk0
    have Hk0 := Hd.mk hk0; clear hk0
    by_cases hk1 : kd = 1
    ·
      have dk1 : (kd == 1) = true := beq_iff_eq.mpr hk1
      have Hk1 := Hd.mk hk1; clear hk1
      go_wp2_with fail
      refine (isComment_calls HB1.out Hcp.out).mono ?_
      rintro e w' ⟨⟨rt, rfl, hPt⟩, rfl⟩
      have HPt := Hd.mk hPt; clear hPt
      cases rt with
      | true =>
        replace HPt := Hd.mk (HPt.out rfl)
        go_wp2_with fail
        go_ret
        exact ⟨⟨_, rfl, fun _ => .inr (.inl ⟨Hk1.out, HPt.out.1, HPt.out.2⟩)⟩, HB.out⟩
      | false =>
        go_wp2_with fail
        go_ret
        exact ⟨⟨_, rfl, fun h => by cases h⟩, HB.out⟩
    ·
      have dk1 : (kd == 1) = false := beq_eq_false_iff_ne.mpr hk1
      have Hk1 := Hd.mk hk1; clear hk1
      by_cases hk2 : kd = 2
      ·
        have dk2 : (kd == 2) = true := beq_iff_eq.mpr hk2
        have Hk2 := Hd.mk hk2; clear hk2
        cases html with
        | true =>
          go_wp2_with fail
          go_ret
          exact ⟨⟨_, rfl, fun h => by cases h⟩, HB.out⟩
        | false =>
          go_wp2_with fail
          refine (contains2_calls HB1.out Hcp.out 93 93).mono ?_
          rintro e w' ⟨⟨r1, rfl, _⟩, rfl⟩
          cases r1 with
          | true =>
            go_wp2_with fail
            go_ret
            exact ⟨⟨_, rfl, fun h => by cases h⟩, HB.out⟩
          | false =>
            go_wp2_with fail
            refine (Has_calls HB1.out 0).mono ?_
            rintro e w' ⟨rfl, rfl⟩
            have HNa := Hd.mk (hasB_no (T := tx) (c := 0))
            generalize hasB tx 0 = ra at HNa ⊢
            cases ra with
            | true =>
              go_wp2_with fail
              go_ret
              exact ⟨⟨_, rfl, fun h => by cases h⟩, HB.out⟩
            | false =>
              replace HNa := Hd.mk (HNa.out rfl)
              go_wp2_with fail
              refine (Has_calls HB1.out 93).mono ?_
              rintro e w' ⟨rfl, rfl⟩
              have HNb := Hd.mk (hasB_no (T := tx) (c := 93))
              generalize hasB tx 93 = rb at HNb ⊢
              cases rb with
              | true =>
                go_wp2_with fail
                go_ret
                exact ⟨⟨_, rfl, fun h => by cases h⟩, HB.out⟩
              | false =>
                replace HNb := Hd.mk (HNb.out rfl)
                by_cases hc : (tx.length : Int) ≤ 500
                ·
                  have dc : decide ((tx.length : Int) ≤ 500) = true := decide_eq_true hc
                  go_wp2_with fail
                  go_ret
                  exact ⟨⟨_, rfl, fun _ => .inr (.inr (.inl ⟨Hk2.out, rfl, by show tx.length ≤ 500; omega, fun c hc => ⟨HNb.out c hc, HNa.out c hc⟩⟩))⟩, HB.out⟩
                ·
                  have dc : decide ((tx.length : Int) ≤ 500) = false := decide_eq_false hc
                  go_wp2_with fail
                  go_ret
                  exact ⟨⟨_, rfl, fun h => by cases h⟩, HB.out⟩
      ·
        have dk2 : (kd == 2) = false := beq_eq_false_iff_ne.mpr hk2
        have Hk2 := Hd.mk hk2; clear hk2
        by_cases hk3 : kd = 3
        ·
          have dk3 : (kd == 3) = true := beq_iff_eq.mpr hk3
          have Hk3 := Hd.mk hk3; clear hk3
          go_wp2_with fail
          refine (isName_calls HB2.out).mono ?_
          rintro e w' ⟨⟨rt, rfl, hPt⟩, rfl⟩
          have HPt := Hd.mk hPt; clear hPt
          cases rt with
          | true =>
            replace HPt := Hd.mk (HPt.out rfl)
            go_wp2_with fail
            go_ret
            exact ⟨⟨_, rfl, fun _ => .inr (.inr (.inr (.inl ⟨Hk3.out, HPt.out⟩)))⟩, HB.out⟩
          | false =>
            go_wp2_with fail
            go_ret
            exact ⟨⟨_, rfl, fun h => by cases h⟩, HB.out⟩
        ·
          have dk3 : (kd == 3) = false := beq_eq_false_iff_ne.mpr hk3
          have Hk3 := Hd.mk hk3; clear hk3
          by_cases hk4 : kd = 4
          ·
            have dk4 : (kd == 4) = true := beq_iff_eq.mpr hk4
            have Hk4 := Hd.mk hk4; clear hk4
            go_wp2_with fail
            refine (isName_calls HB2.out).mono ?_
            rintro e w' ⟨⟨rn, rfl, hPn⟩, rfl⟩
            have HPn := Hd.mk hPn; clear hPn
            cases rn with
            | true =>
              replace HPn := Hd.mk (HPn.out rfl)
              cases html with
              | true =>
                go_wp2_with fail
                refine (isSpecial_calls HB2.out).mono ?_
                rintro e w' ⟨⟨rs, rfl, hPs⟩, rfl⟩
                have HPs := Hd.mk hPs; clear hPs
                cases rs with
                | true =>
                  go_wp2_with fail
                  go_ret
                  exact ⟨⟨_, rfl, fun h => by cases h⟩, HB.out⟩
                | false =>
                  replace HPs := Hd.mk (HPs.out rfl)
                  go_wp2_with fail
                  refine (areAttributes_calls HB3.out _).mono ?_
                  rintro e w' ⟨⟨ra, rfl, hPa⟩, hBa⟩
                  have HPa := Hd.mk hPa; clear hPa
                  have HBb := Hd.mk (HB.out.trans (hBa.mono HB.out.size)); have HKb := Hd.mk hBa; clear hBa
                  cases ra with
                  | true =>
                    replace HPa := Hd.mk (HPa.out rfl)
                    have HB1b := Hd.mk (HB1.out.below' HKb.out)
                    have g1b := (HKb.out.cell (p := ⟨w.heap.size, 1, none⟩) (by simp)).trans (new_cell rfl)
                    go_wp2_with fail
                    refine (plainBlanks_calls HB1b.out).mono ?_
                    rintro e w' ⟨⟨rz, rfl, hPz⟩, rfl⟩
                    have HPz := Hd.mk hPz; clear hPz
                    cases rz with
                    | true =>
                      replace HPz := Hd.mk (HPz.out rfl)
                      go_wp2_with fail
                      go_ret
                      exact ⟨⟨_, rfl, fun _ => .inr (.inr (.inr (.inr (.inl ⟨.inl Hk4.out, HPn.out, (fun _ => HPs.out), HPa.out, HPz.out⟩))))⟩, HBb.out⟩
                    | false =>
                      go_wp2_with fail
                      go_ret
                      exact ⟨⟨_, rfl, fun h => by cases h⟩, HBb.out⟩
                  | false =>
                    go_wp2_with fail
                    go_ret
                    exact ⟨⟨_, rfl, fun h => by cases h⟩, HBb.out⟩
              | false =>
                go_wp2_with fail
                refine (areAttributes_calls HB3.out _).mono ?_
                rintro e w' ⟨⟨ra, rfl, hPa⟩, hBa⟩
                have HPa := Hd.mk hPa; clear hPa
                have HBb := Hd.mk (HB.out.trans (hBa.mono HB.out.size)); have HKb := Hd.mk hBa; clear hBa
                cases ra with
                | true =>
                  replace HPa := Hd.mk (HPa.out rfl)
                  have HB1b := Hd.mk (HB1.out.below' HKb.out)
                  have g1b := (HKb.out.cell (p := ⟨w.heap.size, 1, none⟩) (by simp)).trans (new_cell rfl)
                  go_wp2_with fail
                  refine (plainBlanks_calls HB1b.out).mono ?_
                  rintro e w' ⟨⟨rz, rfl, hPz⟩, rfl⟩
                  have HPz := Hd.mk hPz; clear hPz
                  cases rz with
                  | true =>
                    replace HPz := Hd.mk (HPz.out rfl)
                    go_wp2_with fail
                    go_ret
                    exact ⟨⟨_, rfl, fun _ => .inr (.inr (.inr (.inr (.inl ⟨.inl Hk4.out, HPn.out, (fun h => by cases h), HPa.out, HPz.out⟩))))⟩, HBb.out⟩
                  | false =>
                    go_wp2_with fail
                    go_ret
                    exact ⟨⟨_, rfl, fun h => by cases h⟩, HBb.out⟩
                | false =>
                  go_wp2_with fail
                  go_ret
                  exact ⟨⟨_, rfl, fun h => by cases h⟩, HBb.out⟩
            | false =>
              go_wp2_with fail
              go_ret
              exact ⟨⟨_, rfl, fun h => by cases h⟩, HB.out⟩
          ·
            have dk4 : (kd == 4) = false := beq_eq_false_iff_ne.mpr hk4
            have Hk4 := Hd.mk hk4; clear hk4
            by_cases hk5 : kd = 5
            ·
              have dk5 : (kd == 5) = true := beq_iff_eq.mpr hk5
              have Hk5 := Hd.mk hk5; clear hk5
              go_wp2_with fail
              refine (isName_calls HB2.out).mono ?_
              rintro e w' ⟨⟨rn, rfl, hPn⟩, rfl⟩
              have HPn := Hd.mk hPn; clear hPn
              cases rn with
              | true =>
                replace HPn := Hd.mk (HPn.out rfl)
                cases html with
                | true =>
                  go_wp2_with fail
                  refine (isSpecial_calls HB2.out).mono ?_
                  rintro e w' ⟨⟨rs, rfl, hPs⟩, rfl⟩
                  have HPs := Hd.mk hPs; clear hPs
                  cases rs with
                  | true =>
                    go_wp2_with fail
                    go_ret
                    exact ⟨⟨_, rfl, fun h => by cases h⟩, HB.out⟩
                  | false =>
                    replace HPs := Hd.mk (HPs.out rfl)
                    go_wp2_with fail
                    refine (areAttributes_calls HB3.out _).mono ?_
                    rintro e w' ⟨⟨ra, rfl, hPa⟩, hBa⟩
                    have HPa := Hd.mk hPa; clear hPa
                    have HBb := Hd.mk (HB.out.trans (hBa.mono HB.out.size)); have HKb := Hd.mk hBa; clear hBa
                    cases ra with
                    | true =>
                      replace HPa := Hd.mk (HPa.out rfl)
                      have HB1b := Hd.mk (HB1.out.below' HKb.out)
                      have g1b := (HKb.out.cell (p := ⟨w.heap.size, 1, none⟩) (by simp)).trans (new_cell rfl)
                      go_wp2_with fail
                      refine (plainBlanks_calls HB1b.out).mono ?_
                      rintro e w' ⟨⟨rz, rfl, hPz⟩, rfl⟩
                      have HPz := Hd.mk hPz; clear hPz
                      cases rz with
                      | true =>
                        replace HPz := Hd.mk (HPz.out rfl)
                        go_wp2_with fail
                        go_ret
                        exact ⟨⟨_, rfl, fun _ => .inr (.inr (.inr (.inr (.inl ⟨.inr Hk5.out, HPn.out, (fun _ => HPs.out), HPa.out, HPz.out⟩))))⟩, HBb.out⟩
                      | false =>
                        go_wp2_with fail
                        go_ret
                        exact ⟨⟨_, rfl, fun h => by cases h⟩, HBb.out⟩
                    | false =>
                      go_wp2_with fail
                      go_ret
                      exact ⟨⟨_, rfl, fun h => by cases h⟩, HBb.out⟩
                | false =>
                  go_wp2_with fail
                  refine (areAttributes_calls HB3.out _).mono ?_
                  rintro e w' ⟨⟨ra, rfl, hPa⟩, hBa⟩
                  have HPa := Hd.mk hPa; clear hPa
                  have HBb := Hd.mk (HB.out.trans (hBa.mono HB.out.size)); have HKb := Hd.mk hBa; clear hBa
                  cases ra with
                  | true =>
                    replace HPa := Hd.mk (HPa.out rfl)
                    have HB1b := Hd.mk (HB1.out.below' HKb.out)
                    have g1b := (HKb.out.cell (p := ⟨w.heap.size, 1, none⟩) (by simp)).trans (new_cell rfl)
                    go_wp2_with fail
                    refine (plainBlanks_calls HB1b.out).mono ?_
                    rintro e w' ⟨⟨rz, rfl, hPz⟩, rfl⟩
                    have HPz := Hd.mk hPz; clear hPz
                    cases rz with
                    | true =>
                      replace HPz := Hd.mk (HPz.out rfl)
                      go_wp2_with fail
                      go_ret
                      exact ⟨⟨_, rfl, fun _ => .inr (.inr (.inr (.inr (.inl ⟨.inr Hk5.out, HPn.out, (fun h => by cases h), HPa.out, HPz.out⟩))))⟩, HBb.out⟩
                    | false =>
                      go_wp2_with fail
                      go_ret
                      exact ⟨⟨_, rfl, fun h => by cases h⟩, HBb.out⟩
                  | false =>
                    go_wp2_with fail
                    go_ret
                    exact ⟨⟨_, rfl, fun h => by cases h⟩, HBb.out⟩
              | false =>
                go_wp2_with fail
                go_ret
                exact ⟨⟨_, rfl, fun h => by cases h⟩, HB.out⟩
            ·
              have dk5 : (kd == 5) = false := beq_eq_false_iff_ne.mpr hk5
              have Hk5 := Hd.mk hk5; clear hk5
              by_cases hk6 : kd = 6
              ·
                have dk6 : (kd == 6) = true := beq_iff_eq.mpr hk6
                have Hk6 := Hd.mk hk6; clear hk6
                cases html with
                | true =>
                  go_wp2_with fail
                  go_ret
                  exact ⟨⟨_, rfl, fun h => by cases h⟩, HB.out⟩
                | false =>
                  go_wp2_with fail
                  refine (isName_calls HB2.out).mono ?_
                  rintro e w' ⟨⟨rn, rfl, hPn⟩, rfl⟩
                  have HPn := Hd.mk hPn; clear hPn
                  cases rn with
                  | true =>
                    replace HPn := Hd.mk (HPn.out rfl)
                    go_wp2_with fail
                    refine (areAttributes_calls HB3.out false).mono ?_
                    rintro e w' ⟨⟨ra, rfl, hPa⟩, hBa⟩
                    have HPa := Hd.mk hPa; clear hPa
                    have HBb := Hd.mk (HB.out.trans (hBa.mono HB.out.size)); have HKb := Hd.mk hBa; clear hBa
                    cases ra with
                    | true =>
                      replace HPa := Hd.mk (HPa.out rfl)
                      have HB1b := Hd.mk (HB1.out.below' HKb.out)
                      have g1b := (HKb.out.cell (p := ⟨w.heap.size, 1, none⟩) (by simp)).trans (new_cell rfl)
                      go_wp2_with fail
                      refine (plainBlanks_calls HB1b.out).mono ?_
                      rintro e w' ⟨⟨rz, rfl, hPz⟩, rfl⟩
                      have HPz := Hd.mk hPz; clear hPz
                      cases rz with
                      | true =>
                        replace HPz := Hd.mk (HPz.out rfl)
                        go_wp2_with fail
                        go_ret
                        exact ⟨⟨_, rfl, fun _ => .inr (.inr (.inr (.inr (.inr (.inl ⟨Hk6.out, rfl, HPn.out, HPa.out, HPz.out⟩)))))⟩, HBb.out⟩
                      | false =>
                        go_wp2_with fail
                        go_ret
                        exact ⟨⟨_, rfl, fun h => by cases h⟩, HBb.out⟩
                    | false =>
                      go_wp2_with fail
                      go_ret
                      exact ⟨⟨_, rfl, fun h => by cases h⟩, HBb.out⟩
                  | false =>
                    go_wp2_with fail
                    go_ret
                    exact ⟨⟨_, rfl, fun h => by cases h⟩, HB.out⟩
              ·
                have dk6 : (kd == 6) = false := beq_eq_false_iff_ne.mpr hk6
                have Hk6 := Hd.mk hk6; clear hk6
                by_cases hk7 : kd = 7
                ·
                  have dk7 : (kd == 7) = true := beq_iff_eq.mpr hk7
                  have Hk7 := Hd.mk hk7; clear hk7
                  go_wp2_with fail
                  refine (isName_calls HB2.out).mono ?_
                  rintro e w' ⟨⟨rn, rfl, hPn⟩, rfl⟩
                  have HPn := Hd.mk hPn; clear hPn
                  cases rn with
                  | true =>
                    replace HPn := Hd.mk (HPn.out rfl)
                    cases html with
                    | true =>
                      go_wp2_with fail
                      refine (isSpecial_calls HB2.out).mono ?_
                      rintro e w' ⟨⟨rs, rfl, hPs⟩, rfl⟩
                      have HPs := Hd.mk hPs; clear hPs
                      cases rs with
                      | true =>
                        go_wp2_with fail
                        go_ret
                        exact ⟨⟨_, rfl, fun h => by cases h⟩, HB.out⟩
                      | false =>
                        replace HPs := Hd.mk (HPs.out rfl)
                        go_wp2_with fail
                        go_ret
                        exact ⟨⟨_, rfl, fun _ => .inr (.inr (.inr (.inr (.inr (.inr ⟨Hk7.out, HPn.out, (fun _ => HPs.out)⟩)))))⟩, HB.out⟩
                    | false =>
                      go_wp2_with fail
                      go_ret
                      exact ⟨⟨_, rfl, fun _ => .inr (.inr (.inr (.inr (.inr (.inr ⟨Hk7.out, HPn.out, (fun h => by cases h)⟩)))))⟩, HB.out⟩
                  | false =>
                    go_wp2_with fail
                    go_ret
                    exact ⟨⟨_, rfl, fun h => by cases h⟩, HB.out⟩
                ·
                  have dk7 : (kd == 7) = false := beq_eq_false_iff_ne.mpr hk7
                  have Hk7 := Hd.mk hk7; clear hk7
                  go_wp2_with fail
                  go_ret
                  exact ⟨⟨_, rfl, fun h => by cases h⟩, HB.out⟩
end Go.Proofs.YtfcedenofbefcaaGreatDoor
