import Derived.Test.YteonakpgenkhkaaDoorL16
namespace Go.Proofs.YteonakpgenkhkaaDoor
open Go.RowKit
set_option linter.unusedVariables false
set_option linter.unusedSimpArgs false

/-! (*loop.example/pub-g01476/spec.reader).blanks -/
def sblanks.l0 (K : Nat) (T : List Int) : Nat → Int → Option (Int)
  | 0, _ => none
  | k + 1, q146 =>
    (rpk T q146 0).bind fun c148 =>
    if (sIsBlank.f c148) = true then (sblanks.l0 K T k (wrap64 (q146 + 1))) else
    some q146
def sblanks.f (K : Nat) (T : List Int) (q : Int) (o : Bool) : Option (Int) :=
sblanks.l0 K T K q
set_option maxHeartbeats 8000000 in
set_option maxRecDepth 100000 in
theorem sblanks.calls (K : Nat) {w0 : World} {z : Nat} {A : Option Addr} {c : Nat} {T : List Int} {q : Int} {o : Bool} (hI0 : Rd w0 z A c T q o) (r0 : Int) (H : Hd (sblanks.f K T q o = some r0)) :
    Calls Tryd.prog 44 #[.pointer (some ⟨z, 0, none⟩)] w0 fun e w' => e = .returned (.tuple #[]) ∧ Rd w' z A c T r0 o ∧ Fr z w0 w' := by
  have hF0 := Fr.refl z w0
  have c00 := hI0.c0
  have c10 := hI0.c1
  have c20 := hI0.c2
  have f0 := hI0.f
  unfold sblanks.f at H
  go_enter Tryd.func44, Tryd.ntmps44
  have H1 := H; clear H
  go_wp2_with fail
  go_loopg [] K (fun gk w' => ∃ (q146 : Int), Hd (sblanks.l0 K T gk q146 = some r0) ∧ Hd (Rd w' z A c T q146 o) ∧ Hd (Fr z w0 w'))
  case atStart => exact ⟨q, H1, ⟨hI0⟩, ⟨hF0⟩⟩
  case round =>
    clear H1
    obtain ⟨q146, H, gI, gF⟩ := hrel
    have hI147 := gI.out; have hF147 := gF.out; clear gI gF
    have c0147 := hI147.c0
    have c1147 := hI147.c1
    have c2147 := hI147.c2
    have f147 := hI147.f
    cases gk with
    | zero => exact absurd H.out (by simp [sblanks.l0])
    | succ k =>
      simp only [sblanks.l0] at H
      obtain ⟨c148, A149, HN⟩ := H.bind; clear H; have H := HN; clear HN
      go_wp2_with fail
      refine (peek_calls hI147 0 c148 A149).mono ?_
      rintro e w150 ⟨rfl, hI150, k150⟩
      have hF150 := hF147.trans k150
      have c0150 := hI150.c0
      have c1150 := hI150.c1
      have c2150 := hI150.c2
      have f150 := hI150.f
      go_wp2_with fail
      refine (sIsBlank.calls (w := _) c148).mono ?_
      rintro e w' ⟨rfl, rfl⟩
      by_cases e151 : (sIsBlank.f c148) = true
      · 
        replace H := H.pos e151
        go_wp2_with fail
        go_roundg k
        case measure => exact Nat.lt_succ_self _
        case rel => exact ⟨wrap64 (q146 + 1), H, ⟨(by repeat (first | exact hI150 | apply Rd.setAt | apply Rd.setOpen | apply Rd.drewN | apply Rd.drew | apply Rd.alloc))⟩, ⟨(by repeat (first | exact hF150 | apply Fr.set | apply Fr.drewN | apply Fr.drew | apply Fr.alloc))⟩⟩
      ·
        replace H := H.neg e151
        replace e151 := Bool.eq_false_iff.mpr e151
        go_wp2_with fail
        first | go_end0 | ((try simp only [Exit.inBlock, Exit.then]); refine bodyPost_ret (results_none rfl _ _ _) rfl ?_)
        obtain rfl := H.p1
        exact ⟨(by first | rfl | simp), hI150, hF150⟩

/-! (*loop.example/pub-g01476/spec.reader).digits -/
def sdigits.l0 (K : Nat) (T : List Int) : Nat → Int → Option (Int)
  | 0, _ => none
  | k + 1, q153 =>
    (rpk T q153 0).bind fun c155 =>
    if (sisDigit.f c155) = true then (sdigits.l0 K T k (wrap64 (q153 + 1))) else
    some q153
def sdigits.f (K : Nat) (T : List Int) (q : Int) (o : Bool) : Option (Int) :=
sdigits.l0 K T K q
set_option maxHeartbeats 8000000 in
set_option maxRecDepth 100000 in
theorem sdigits.calls (K : Nat) {w0 : World} {z : Nat} {A : Option Addr} {c : Nat} {T : List Int} {q : Int} {o : Bool} (hI0 : Rd w0 z A c T q o) (r0 : Int) (H : Hd (sdigits.f K T q o = some r0)) :
    Calls Tryd.prog 77 #[.pointer (some ⟨z, 0, none⟩)] w0 fun e w' => e = .returned (.tuple #[]) ∧ Rd w' z A c T r0 o ∧ Fr z w0 w' := by
  have hF0 := Fr.refl z w0
  have c00 := hI0.c0
  have c10 := hI0.c1
  have c20 := hI0.c2
  have f0 := hI0.f
  unfold sdigits.f at H
  go_enter Tryd.func77, Tryd.ntmps77
  have H1 := H; clear H
  go_wp2_with fail
  go_loopg [] K (fun gk w' => ∃ (q153 : Int), Hd (sdigits.l0 K T gk q153 = some r0) ∧ Hd (Rd w' z A c T q153 o) ∧ Hd (Fr z w0 w'))
  case atStart => exact ⟨q, H1, ⟨hI0⟩, ⟨hF0⟩⟩
  case round =>
    clear H1
    obtain ⟨q153, H, gI, gF⟩ := hrel
    have hI154 := gI.out; have hF154 := gF.out; clear gI gF
    have c0154 := hI154.c0
    have c1154 := hI154.c1
    have c2154 := hI154.c2
    have f154 := hI154.f
    cases gk with
    | zero => exact absurd H.out (by simp [sdigits.l0])
    | succ k =>
      simp only [sdigits.l0] at H
      obtain ⟨c155, A156, HN⟩ := H.bind; clear H; have H := HN; clear HN
      go_wp2_with fail
      refine (peek_calls hI154 0 c155 A156).mono ?_
      rintro e w157 ⟨rfl, hI157, k157⟩
      have hF157 := hF154.trans k157
      have c0157 := hI157.c0
      have c1157 := hI157.c1
      have c2157 := hI157.c2
      have f157 := hI157.f
      go_wp2_with fail
      refine (sisDigit.calls (w := _) c155).mono ?_
      rintro e w' ⟨rfl, rfl⟩
      by_cases e158 : (sisDigit.f c155) = true
      · 
        replace H := H.pos e158
        go_wp2_with fail
        go_roundg k
        case measure => exact Nat.lt_succ_self _
        case rel => exact ⟨wrap64 (q153 + 1), H, ⟨(by repeat (first | exact hI157 | apply Rd.setAt | apply Rd.setOpen | apply Rd.drewN | apply Rd.drew | apply Rd.alloc))⟩, ⟨(by repeat (first | exact hF157 | apply Fr.set | apply Fr.drewN | apply Fr.drew | apply Fr.alloc))⟩⟩
      ·
        replace H := H.neg e158
        replace e158 := Bool.eq_false_iff.mpr e158
        go_wp2_with fail
        first | go_end0 | ((try simp only [Exit.inBlock, Exit.then]); refine bodyPost_ret (results_none rfl _ _ _) rfl ?_)
        obtain rfl := H.p1
        exact ⟨(by first | rfl | simp), hI157, hF157⟩

/-! (*loop.example/pub-g01476/spec.reader).quoted -/
def squoted.l0 (K : Nat) (T : List Int) (c159 : Int) : Nat → Int → Bool → Option ((List Int × Int × Bool) ⊕ (Int × Bool))
  | 0, _, _ => none
  | k + 1, q163, o164 =>
    if (rover T q163) = true then (some (.inr (q163, o164))) else
    (rpk T q163 0).bind fun c168 =>
    if (c168 == c159) = true then (some (.inl ([115, 116, 114, 105, 110, 103], wrap64 (q163 + 1), o164))) else
    if (sisNewline.f c168) = true then (some (.inl ([98, 97, 100, 32, 115, 116, 114, 105, 110, 103], q163, true))) else
    (if (c168 == 92) = true then ((rpk T q163 1).bind fun c175 =>
    some (sisNewline.f c175)) else
    some false).bind fun b178 =>
    if b178 = true then ((rpk T q163 1).bind fun c180 =>
    if (c180 == 13) = true then (squoted.l0 K T c159 k (wrap64 (q163 + 2)) true) else
    squoted.l0 K T c159 k (wrap64 (q163 + 2)) o164) else
    (sescapes.f T q163 o164 0).bind fun (t184, o185) =>
    if t184 = true then ((sescape.f K T q163 o185).bind fun (q188, o189) =>
    squoted.l0 K T c159 k q188 o189) else
    squoted.l0 K T c159 k (wrap64 (q163 + 1)) o185
def squoted.f (K : Nat) (T : List Int) (q : Int) (o : Bool) : Option (List Int × Int × Bool) :=
(rpk T q 0).bind fun c159 =>
(squoted.l0 K T c159 K (wrap64 (q + 1)) o).bind fun o => joinS o (fun x => some x) fun (q192, o193) =>
some ([115, 116, 114, 105, 110, 103], q192, true)
set_option maxHeartbeats 8000000 in
set_option maxRecDepth 100000 in
theorem squoted.calls (K : Nat) {w0 : World} {z : Nat} {A : Option Addr} {c : Nat} {T : List Int} {q : Int} {o : Bool} (hI0 : Rd w0 z A c T q o) (r0 : List Int) (r1 : Int) (r2 : Bool) (H : Hd (squoted.f K T q o = some (r0, r1, r2))) :
    Calls Tryd.prog 45 #[.pointer (some ⟨z, 0, none⟩)] w0 fun e w' => e = .returned (.string (bstr r0)) ∧ Rd w' z A c T r1 r2 ∧ Fr z w0 w' := by
  have hF0 := Fr.refl z w0
  have c00 := hI0.c0
  have c10 := hI0.c1
  have c20 := hI0.c2
  have f0 := hI0.f
  unfold squoted.f at H
  go_enter Tryd.func45, Tryd.ntmps45
  obtain ⟨c159, A160, HN⟩ := H.bind; clear H; have H := HN; clear HN
  go_wp2_with fail
  refine (peek_calls hI0 0 c159 A160).mono ?_
  rintro e w161 ⟨rfl, hI161, k161⟩
  have hF161 := hF0.trans k161
  have c0161 := hI161.c0
  have c1161 := hI161.c1
  have c2161 := hI161.c2
  have f161 := hI161.f
  obtain ⟨o162, H1, HC162⟩ := H.bind; clear H
  go_upto_block 0 with fail
  go_cut [] (fun w' => ∃ (q192 : Int), ∃ (o193 : Bool), Hd (o162 = .inr (q192, o193)) ∧ Hd (Rd w' z A c T q192 o193) ∧ Hd (Fr z w0 w'))
  case first =>
    go_wp2_with fail
    go_loopg [] K (fun gk w' => ∃ (q163 : Int), ∃ (o164 : Bool), Hd (squoted.l0 K T c159 gk q163 o164 = some o162) ∧ Hd (Rd w' z A c T q163 o164) ∧ Hd (Fr z w0 w'))
    case atStart => exact ⟨wrap64 (q + 1), o, H1, ⟨(by repeat (first | exact hI161 | apply Rd.setAt | apply Rd.setOpen | apply Rd.drewN | apply Rd.drew | apply Rd.alloc))⟩, ⟨(by repeat (first | exact hF161 | apply Fr.set | apply Fr.drewN | apply Fr.drew | apply Fr.alloc))⟩⟩
    case round =>
      clear H1
      obtain ⟨q163, o164, H, gI, gF⟩ := hrel
      have hI165 := gI.out; have hF165 := gF.out; clear gI gF
      have c0165 := hI165.c0
      have c1165 := hI165.c1
      have c2165 := hI165.c2
      have f165 := hI165.f
      cases gk with
      | zero => exact absurd H.out (by simp [squoted.l0])
      | succ k =>
        simp only [squoted.l0] at H
        go_wp2_with fail
        refine (over_calls hI165).mono ?_
        rintro e w166 ⟨rfl, hI166, k166⟩
        have hF166 := hF165.trans k166
        have c0166 := hI166.c0
        have c1166 := hI166.c1
        have c2166 := hI166.c2
        have f166 := hI166.f
        by_cases e167 : (rover T q163) = true
        · 
          replace H := H.pos e167
          obtain rfl := H.p1
          go_wp2_with fail
          go_meet
          case rel => exact ⟨q163, o164, ⟨rfl⟩, ⟨hI166⟩, ⟨hF166⟩⟩
        ·
          replace H := H.neg e167
          replace e167 := Bool.eq_false_iff.mpr e167
          obtain ⟨c168, A169, HN⟩ := H.bind; clear H; have H := HN; clear HN
          go_wp2_with fail
          refine (peek_calls hI166 0 c168 A169).mono ?_
          rintro e w170 ⟨rfl, hI170, k170⟩
          have hF170 := hF166.trans k170
          have c0170 := hI170.c0
          have c1170 := hI170.c1
          have c2170 := hI170.c2
          have f170 := hI170.f
          by_cases e171 : (c168 == c159) = true
          · 
            replace H := H.pos e171
            have e171n : (c168 != c159) = false := by simp only [bne, e171, Bool.not_true]
            obtain rfl := H.p1; clear H
            have H := HC162.inlS; clear HC162
            go_wp2_with fail
            go_ret
            obtain ⟨rfl, rfl, rfl⟩ := H.p3
            exact ⟨(by first | rfl | simp), (by repeat (first | exact hI170 | apply Rd.setAt | apply Rd.setOpen | apply Rd.drewN | apply Rd.drew | apply Rd.alloc)), (by repeat (first | exact hF170 | apply Fr.set | apply Fr.drewN | apply Fr.drew | apply Fr.alloc))⟩
          ·
            replace H := H.neg e171
            replace e171 := Bool.eq_false_iff.mpr e171
            have e171n : (c168 != c159) = true := by simp only [bne, e171, Bool.not_false]
            go_wp2_with fail
            refine (sisNewline.calls (w := _) c168).mono ?_
            rintro e w' ⟨rfl, rfl⟩
            by_cases e172 : (sisNewline.f c168) = true
            · 
              replace H := H.pos e172
              obtain rfl := H.p1; clear H
              have H := HC162.inlS; clear HC162
              go_wp2_with fail
              go_ret
              obtain ⟨rfl, rfl, rfl⟩ := H.p3
              exact ⟨(by first | rfl | simp), (by repeat (first | exact hI170 | apply Rd.setAt | apply Rd.setOpen | apply Rd.drewN | apply Rd.drew | apply Rd.alloc)), (by repeat (first | exact hF170 | apply Fr.set | apply Fr.drewN | apply Fr.drew | apply Fr.alloc))⟩
            ·
              replace H := H.neg e172
              replace e172 := Bool.eq_false_iff.mpr e172
              obtain ⟨b178, H1, HC173⟩ := H.bind; clear H
              go_upto_region 12 with fail
              go_cut [43] (fun v43 w' => v43 = .bool b178 ∧ Hd (Rd w' z A c T q163 o164) ∧ Hd (Fr z w0 w'))
              case first =>
                have H := H1; clear H1
                by_cases e174 : (c168 == 92) = true
                · 
                  replace H := H.pos e174
                  have e174n : (c168 != 92) = false := by simp only [bne, e174, Bool.not_true]
                  obtain ⟨c175, A176, HN⟩ := H.bind; clear H; have H := HN; clear HN
                  go_wp2_with fail
                  refine (peek_calls hI170 1 c175 A176).mono ?_
                  rintro e w177 ⟨rfl, hI177, k177⟩
                  have hF177 := hF170.trans k177
                  have c0177 := hI177.c0
                  have c1177 := hI177.c1
                  have c2177 := hI177.c2
                  have f177 := hI177.f
                  go_wp2_with fail
                  refine (sisNewline.calls (w := _) c175).mono ?_
                  rintro e w' ⟨rfl, rfl⟩
                  obtain rfl := H.p1
                  go_wp2_with fail
                  go_meet
                  case rel => exact ⟨(by first | rfl | simp), ⟨hI177⟩, ⟨hF177⟩⟩
                ·
                  replace H := H.neg e174
                  replace e174 := Bool.eq_false_iff.mpr e174
                  have e174n : (c168 != 92) = true := by simp only [bne, e174, Bool.not_false]
                  obtain rfl := H.p1
                  go_wp2_with fail
                  go_meet
                  case rel => exact ⟨(by first | rfl | simp), ⟨hI170⟩, ⟨hF170⟩⟩
              case rest =>
                obtain ⟨rfl, gI, gF⟩ := hcut
                have hI179 := gI.out; have hF179 := gF.out; clear gI gF
                have c0179 := hI179.c0
                have c1179 := hI179.c1
                have c2179 := hI179.c2
                have f179 := hI179.f
                have H := HC173; clear HC173 H1
                cases b178 with
                | true =>
                  replace H := H.tt
                  obtain ⟨c180, A181, HN⟩ := H.bind; clear H; have H := HN; clear HN
                  go_wp2_with fail
                  refine (peek_calls hI179 1 c180 A181).mono ?_
                  rintro e w182 ⟨rfl, hI182, k182⟩
                  have hF182 := hF179.trans k182
                  have c0182 := hI182.c0
                  have c1182 := hI182.c1
                  have c2182 := hI182.c2
                  have f182 := hI182.f
                  by_cases e183 : (c180 == 13) = true
                  · 
                    replace H := H.pos e183
                    have e183n : (c180 != 13) = false := by simp only [bne, e183, Bool.not_true]
                    go_wp2_with fail
                    go_roundg k
                    case measure => exact Nat.lt_succ_self _
                    case rel => exact ⟨wrap64 (q163 + 2), true, H, ⟨(by repeat (first | exact hI182 | apply Rd.setAt | apply Rd.setOpen | apply Rd.drewN | apply Rd.drew | apply Rd.alloc))⟩, ⟨(by repeat (first | exact hF182 | apply Fr.set | apply Fr.drewN | apply Fr.drew | apply Fr.alloc))⟩⟩
                  ·
                    replace H := H.neg e183
                    replace e183 := Bool.eq_false_iff.mpr e183
                    have e183n : (c180 != 13) = true := by simp only [bne, e183, Bool.not_false]
                    go_wp2_with fail
                    go_roundg k
                    case measure => exact Nat.lt_succ_self _
                    case rel => exact ⟨wrap64 (q163 + 2), o164, H, ⟨(by repeat (first | exact hI182 | apply Rd.setAt | apply Rd.setOpen | apply Rd.drewN | apply Rd.drew | apply Rd.alloc))⟩, ⟨(by repeat (first | exact hF182 | apply Fr.set | apply Fr.drewN | apply Fr.drew | apply Fr.alloc))⟩⟩
                | false =>
                  replace H := H.ff
                  obtain ⟨⟨t184, o185⟩, A186, HN⟩ := H.bind; clear H; have H := HN; clear HN
                  try dsimp only at H
                  go_wp2_with fail
                  refine (sescapes.calls hI179 0 t184 o185 A186).mono ?_
                  rintro e w187 ⟨rfl, hI187, k187⟩
                  have hF187 := hF179.trans k187
                  have c0187 := hI187.c0
                  have c1187 := hI187.c1
                  have c2187 := hI187.c2
                  have f187 := hI187.f
                  cases t184 with
                  | true =>
                    replace H := H.tt
                    obtain ⟨⟨q188, o189⟩, A190, HN⟩ := H.bind; clear H; have H := HN; clear HN
                    try dsimp only at H
                    go_wp2_with fail
                    refine (sescape.calls K hI187  q188 o189 A190).mono ?_
                    rintro e w191 ⟨rfl, hI191, k191⟩
                    have hF191 := hF187.trans k191
                    have c0191 := hI191.c0
                    have c1191 := hI191.c1
                    have c2191 := hI191.c2
                    have f191 := hI191.f
                    go_wp2_with fail
                    go_roundg k
                    case measure => exact Nat.lt_succ_self _
                    case rel => exact ⟨q188, o189, H, ⟨hI191⟩, ⟨hF191⟩⟩
                  | false =>
                    replace H := H.ff
                    go_wp2_with fail
                    go_roundg k
                    case measure => exact Nat.lt_succ_self _
                    case rel => exact ⟨wrap64 (q163 + 1), o185, H, ⟨(by repeat (first | exact hI187 | apply Rd.setAt | apply Rd.setOpen | apply Rd.drewN | apply Rd.drew | apply Rd.alloc))⟩, ⟨(by repeat (first | exact hF187 | apply Fr.set | apply Fr.drewN | apply Fr.drew | apply Fr.alloc))⟩⟩
  case rest =>
    obtain ⟨q192, o193, ho, gI, gF⟩ := hcut
    have hI194 := gI.out; have hF194 := gF.out; clear gI gF
    have c0194 := hI194.c0
    have c1194 := hI194.c1
    have c2194 := hI194.c2
    have f194 := hI194.f
    have ho := ho.out; subst ho; have H := HC162.inrS; clear HC162 H1
    try dsimp only at H
    go_wp2_with fail
    go_ret
    obtain ⟨rfl, rfl, rfl⟩ := H.p3
    exact ⟨(by first | rfl | simp), (by repeat (first | exact hI194 | apply Rd.setAt | apply Rd.setOpen | apply Rd.drewN | apply Rd.drew | apply Rd.alloc)), (by repeat (first | exact hF194 | apply Fr.set | apply Fr.drewN | apply Fr.drew | apply Fr.alloc))⟩

/-! (*loop.example/pub-g01476/spec.reader).comment -/
def scomment.l0 (K : Nat) (T : List Int) (o : Bool) : Nat → Int → Option ((List Int × Int × Bool) ⊕ (Int))
  | 0, _ => none
  | k + 1, q196 =>
    if (rover T q196) = true then (some (.inr q196)) else
    ((rpk T q196 0).bind fun c201 =>
    if (c201 == 42) = true then ((rpk T q196 1).bind fun c205 =>
    some (c205 == 47)) else
    some false).bind fun b208 =>
    if b208 = true then (some (.inl ([99, 111, 109, 109, 101, 110, 116], wrap64 (q196 + 2), o))) else
    scomment.l0 K T o k (wrap64 (q196 + 1))
def scomment.f (K : Nat) (T : List Int) (q : Int) (o : Bool) : Option (List Int × Int × Bool) :=
(scomment.l0 K T o K (wrap64 (q + 2))).bind fun o => joinS o (fun x => some x) fun q210 =>
some ([99, 111, 109, 109, 101, 110, 116], q210, true)
set_option maxHeartbeats 8000000 in
set_option maxRecDepth 100000 in
theorem scomment.calls (K : Nat) {w0 : World} {z : Nat} {A : Option Addr} {c : Nat} {T : List Int} {q : Int} {o : Bool} (hI0 : Rd w0 z A c T q o) (r0 : List Int) (r1 : Int) (r2 : Bool) (H : Hd (scomment.f K T q o = some (r0, r1, r2))) :
    Calls Tryd.prog 46 #[.pointer (some ⟨z, 0, none⟩)] w0 fun e w' => e = .returned (.string (bstr r0)) ∧ Rd w' z A c T r1 r2 ∧ Fr z w0 w' := by
  have hF0 := Fr.refl z w0
  have c00 := hI0.c0
  have c10 := hI0.c1
  have c20 := hI0.c2
  have f0 := hI0.f
  unfold scomment.f at H
  go_enter Tryd.func46, Tryd.ntmps46
  obtain ⟨o195, H1, HC195⟩ := H.bind; clear H
  go_upto_block 0 with fail
  go_cut [] (fun w' => ∃ (q210 : Int), Hd (o195 = .inr q210) ∧ Hd (Rd w' z A c T q210 o) ∧ Hd (Fr z w0 w'))
  case first =>
    go_wp2_with fail
    go_loopg [] K (fun gk w' => ∃ (q196 : Int), Hd (scomment.l0 K T o gk q196 = some o195) ∧ Hd (Rd w' z A c T q196 o) ∧ Hd (Fr z w0 w'))
    case atStart => exact ⟨wrap64 (q + 2), H1, ⟨(by repeat (first | exact hI0 | apply Rd.setAt | apply Rd.setOpen | apply Rd.drewN | apply Rd.drew | apply Rd.alloc))⟩, ⟨(by repeat (first | exact hF0 | apply Fr.set | apply Fr.drewN | apply Fr.drew | apply Fr.alloc))⟩⟩
    case round =>
      clear H1
      obtain ⟨q196, H, gI, gF⟩ := hrel
      have hI197 := gI.out; have hF197 := gF.out; clear gI gF
      have c0197 := hI197.c0
      have c1197 := hI197.c1
      have c2197 := hI197.c2
      have f197 := hI197.f
      cases gk with
      | zero => exact absurd H.out (by simp [scomment.l0])
      | succ k =>
        simp only [scomment.l0] at H
        go_wp2_with fail
        refine (over_calls hI197).mono ?_
        rintro e w198 ⟨rfl, hI198, k198⟩
        have hF198 := hF197.trans k198
        have c0198 := hI198.c0
        have c1198 := hI198.c1
        have c2198 := hI198.c2
        have f198 := hI198.f
        by_cases e199 : (rover T q196) = true
        · 
          replace H := H.pos e199
          obtain rfl := H.p1
          go_wp2_with fail
          go_meet
          case rel => exact ⟨q196, ⟨rfl⟩, ⟨hI198⟩, ⟨hF198⟩⟩
        ·
          replace H := H.neg e199
          replace e199 := Bool.eq_false_iff.mpr e199
          obtain ⟨b208, H1, HC200⟩ := H.bind; clear H
          go_upto_region 3 with fail
          go_cut [20] (fun v20 w' => v20 = .bool b208 ∧ Hd (Rd w' z A c T q196 o) ∧ Hd (Fr z w0 w'))
          case first =>
            have H := H1; clear H1
            obtain ⟨c201, A202, HN⟩ := H.bind; clear H; have H := HN; clear HN
            go_wp2_with fail
            refine (peek_calls hI198 0 c201 A202).mono ?_
            rintro e w203 ⟨rfl, hI203, k203⟩
            have hF203 := hF198.trans k203
            have c0203 := hI203.c0
            have c1203 := hI203.c1
            have c2203 := hI203.c2
            have f203 := hI203.f
            by_cases e204 : (c201 == 42) = true
            · 
              replace H := H.pos e204
              have e204n : (c201 != 42) = false := by simp only [bne, e204, Bool.not_true]
              obtain ⟨c205, A206, HN⟩ := H.bind; clear H; have H := HN; clear HN
              go_wp2_with fail
              refine (peek_calls hI203 1 c205 A206).mono ?_
              rintro e w207 ⟨rfl, hI207, k207⟩
              have hF207 := hF203.trans k207
              have c0207 := hI207.c0
              have c1207 := hI207.c1
              have c2207 := hI207.c2
              have f207 := hI207.f
              obtain rfl := H.p1
              go_wp2_with fail
              go_meet
              case rel => exact ⟨(by first | rfl | simp), ⟨hI207⟩, ⟨hF207⟩⟩
            ·
              replace H := H.neg e204
              replace e204 := Bool.eq_false_iff.mpr e204
              have e204n : (c201 != 42) = true := by simp only [bne, e204, Bool.not_false]
              obtain rfl := H.p1
              go_wp2_with fail
              go_meet
              case rel => exact ⟨(by first | rfl | simp), ⟨hI203⟩, ⟨hF203⟩⟩
          case rest =>
            obtain ⟨rfl, gI, gF⟩ := hcut
            have hI209 := gI.out; have hF209 := gF.out; clear gI gF
            have c0209 := hI209.c0
            have c1209 := hI209.c1
            have c2209 := hI209.c2
            have f209 := hI209.f
            have H := HC200; clear HC200 H1
            cases b208 with
            | true =>
              replace H := H.tt
              obtain rfl := H.p1; clear H
              have H := HC195.inlS; clear HC195
              go_wp2_with fail
              go_ret
              obtain ⟨rfl, rfl, rfl⟩ := H.p3
              exact ⟨(by first | rfl | simp), (by repeat (first | exact hI209 | apply Rd.setAt | apply Rd.setOpen | apply Rd.drewN | apply Rd.drew | apply Rd.alloc)), (by repeat (first | exact hF209 | apply Fr.set | apply Fr.drewN | apply Fr.drew | apply Fr.alloc))⟩
            | false =>
              replace H := H.ff
              go_wp2_with fail
              go_roundg k
              case measure => exact Nat.lt_succ_self _
              case rel => exact ⟨wrap64 (q196 + 1), H, ⟨(by repeat (first | exact hI209 | apply Rd.setAt | apply Rd.setOpen | apply Rd.drewN | apply Rd.drew | apply Rd.alloc))⟩, ⟨(by repeat (first | exact hF209 | apply Fr.set | apply Fr.drewN | apply Fr.drew | apply Fr.alloc))⟩⟩
  case rest =>
    obtain ⟨q210, ho, gI, gF⟩ := hcut
    have hI211 := gI.out; have hF211 := gF.out; clear gI gF
    have c0211 := hI211.c0
    have c1211 := hI211.c1
    have c2211 := hI211.c2
    have f211 := hI211.f
    have ho := ho.out; subst ho; have H := HC195.inrS; clear HC195 H1
    go_wp2_with fail
    go_ret
    obtain ⟨rfl, rfl, rfl⟩ := H.p3
    exact ⟨(by first | rfl | simp), (by repeat (first | exact hI211 | apply Rd.setAt | apply Rd.setOpen | apply Rd.drewN | apply Rd.drew | apply Rd.alloc)), (by repeat (first | exact hF211 | apply Fr.set | apply Fr.drewN | apply Fr.drew | apply Fr.alloc))⟩

/-! (*loop.example/pub-g01476/spec.reader).numbers -/
def snumbers.f (T : List Int) (q : Int) (o : Bool) : Option (Bool) :=
(rpk T q 0).bind fun c212 =>
(if ((c212 == 43) || (c212 == 45)) = true then (some 1) else
some 0).bind fun x219 =>
((rpk T q x219).bind fun c221 =>
if (sisDigit.f c221) = true then (some true) else
(rpk T q x219).bind fun c225 =>
if (c225 == 46) = true then ((rpk T q (wrap64 (x219 + 1))).bind fun c229 =>
some (sisDigit.f c229)) else
some false).bind fun b232 =>
some b232
set_option maxHeartbeats 8000000 in
set_option maxRecDepth 100000 in
theorem snumbers.calls {w0 : World} {z : Nat} {A : Option Addr} {c : Nat} {T : List Int} {q : Int} {o : Bool} (hI0 : Rd w0 z A c T q o) (r0 : Bool) (H : Hd (snumbers.f T q o = some r0)) :
    Calls Tryd.prog 47 #[.pointer (some ⟨z, 0, none⟩)] w0 fun e w' => e = .returned (.bool r0) ∧ Rd w' z A c T q o ∧ Fr z w0 w' := by
  have hF0 := Fr.refl z w0
  have c00 := hI0.c0
  have c10 := hI0.c1
  have c20 := hI0.c2
  have f0 := hI0.f
  unfold snumbers.f at H
  go_enter Tryd.func47, Tryd.ntmps47
  obtain ⟨c212, A213, HN⟩ := H.bind; clear H; have H := HN; clear HN
  go_wp2_with fail
  refine (peek_calls hI0 0 c212 A213).mono ?_
  rintro e w214 ⟨rfl, hI214, k214⟩
  have hF214 := hF0.trans k214
  have c0214 := hI214.c0
  have c1214 := hI214.c1
  have c2214 := hI214.c2
  have f214 := hI214.f
  generalize hb215 : ((c212 == 43) || (c212 == 45)) = b217 at H
  have HB215 := Hd.mk hb215; clear hb215
  go_upto_region 3 with fail
  go_cut [12] (fun v12 w' => v12 = .bool b217 ∧ w214 = w')
  case first =>
    clear H
    by_cases e216 : (c212 == 43) = true
    · 
      have e216n : (c212 != 43) = false := by simp only [bne, e216, Bool.not_true]
      go_wp2_with fail
      go_meet
      case rel => exact ⟨by rw [← HB215.out, e216]; first | rfl | simp, rfl⟩
    ·
      replace e216 := Bool.eq_false_iff.mpr e216
      have e216n : (c212 != 43) = true := by simp only [bne, e216, Bool.not_false]
      go_wp2_with fail
      go_meet
      case rel => exact ⟨by rw [← HB215.out, e216]; first | rfl | simp, rfl⟩
  case rest =>
    obtain ⟨rfl, rfl⟩ := hcut
    obtain ⟨x219, H1, HC218⟩ := H.bind; clear H
    go_upto_if 12 with fail
    go_cut [3] (fun v3 w' => v3 = .int .i64 x219 ∧ w214 = w')
    case first =>
      have H := H1; clear H1
      cases b217 with
      | true =>
        replace H := H.tt
        obtain rfl := H.p1
        go_wp2_with fail
        go_meet
        case rel => exact ⟨(by first | rfl | simp), rfl⟩
      | false =>
        replace H := H.ff
        obtain rfl := H.p1
        go_wp2_with fail
        go_meet
        case rel => exact ⟨(by first | rfl | simp), rfl⟩
    case rest =>
      obtain ⟨rfl, rfl⟩ := hcut
      have H := HC218; clear HC218 H1
      obtain ⟨b232, H1, HC220⟩ := H.bind; clear H
      go_upto_region 5 with fail
      go_cut [2] (fun v2 w' => v2 = .bool b232 ∧ Hd (Rd w' z A c T q o) ∧ Hd (Fr z w0 w'))
      case first =>
        have H := H1; clear H1
        obtain ⟨c221, A222, HN⟩ := H.bind; clear H; have H := HN; clear HN
        go_wp2_with fail
        refine (peek_calls hI214 x219 c221 A222).mono ?_
        rintro e w223 ⟨rfl, hI223, k223⟩
        have hF223 := hF214.trans k223
        have c0223 := hI223.c0
        have c1223 := hI223.c1
        have c2223 := hI223.c2
        have f223 := hI223.f
        go_wp2_with fail
        refine (sisDigit.calls (w := _) c221).mono ?_
        rintro e w' ⟨rfl, rfl⟩
        by_cases e224 : (sisDigit.f c221) = true
        · 
          replace H := H.pos e224
          obtain rfl := H.p1
          go_wp2_with fail
          go_meet
          case rel => exact ⟨(by first | rfl | simp), ⟨hI223⟩, ⟨hF223⟩⟩
        ·
          replace H := H.neg e224
          replace e224 := Bool.eq_false_iff.mpr e224
          obtain ⟨c225, A226, HN⟩ := H.bind; clear H; have H := HN; clear HN
          go_wp2_with fail
          refine (peek_calls hI223 x219 c225 A226).mono ?_
          rintro e w227 ⟨rfl, hI227, k227⟩
          have hF227 := hF223.trans k227
          have c0227 := hI227.c0
          have c1227 := hI227.c1
          have c2227 := hI227.c2
          have f227 := hI227.f
          by_cases e228 : (c225 == 46) = true
          · 
            replace H := H.pos e228
            have e228n : (c225 != 46) = false := by simp only [bne, e228, Bool.not_true]
            obtain ⟨c229, A230, HN⟩ := H.bind; clear H; have H := HN; clear HN
            go_wp2_with fail
            refine (peek_calls hI227 (wrap64 (x219 + 1)) c229 A230).mono ?_
            rintro e w231 ⟨rfl, hI231, k231⟩
            have hF231 := hF227.trans k231
            have c0231 := hI231.c0
            have c1231 := hI231.c1
            have c2231 := hI231.c2
            have f231 := hI231.f
            go_wp2_with fail
            refine (sisDigit.calls (w := _) c229).mono ?_
            rintro e w' ⟨rfl, rfl⟩
            obtain rfl := H.p1
            go_wp2_with fail
            go_meet
            case rel => exact ⟨(by first | rfl | simp), ⟨hI231⟩, ⟨hF231⟩⟩
          ·
            replace H := H.neg e228
            replace e228 := Bool.eq_false_iff.mpr e228
            have e228n : (c225 != 46) = true := by simp only [bne, e228, Bool.not_false]
            obtain rfl := H.p1
            go_wp2_with fail
            go_meet
            case rel => exact ⟨(by first | rfl | simp), ⟨hI227⟩, ⟨hF227⟩⟩
      case rest =>
        obtain ⟨rfl, gI, gF⟩ := hcut
        have hI233 := gI.out; have hF233 := gF.out; clear gI gF
        have c0233 := hI233.c0
        have c1233 := hI233.c1
        have c2233 := hI233.c2
        have f233 := hI233.f
        have H := HC220; clear HC220 H1
        go_wp2_with fail
        go_ret
        obtain rfl := H.p1
        exact ⟨(by first | rfl | simp), hI233, hF233⟩

/-! (*loop.example/pub-g01476/spec.reader).wrong -/
def swrong.f (T : List Int) (q : Int) (o : Bool) : Option (List Int × Bool) :=
some ([98, 97, 100, 32, 117, 114, 108], true)
set_option maxHeartbeats 8000000 in
set_option maxRecDepth 100000 in
theorem swrong.calls {w0 : World} {z : Nat} {A : Option Addr} {c : Nat} {T : List Int} {q : Int} {o : Bool} (hI0 : Rd w0 z A c T q o) (r0 : List Int) (r1 : Bool) (H : Hd (swrong.f T q o = some (r0, r1))) :
    Calls Tryd.prog 93 #[.pointer (some ⟨z, 0, none⟩)] w0 fun e w' => e = .returned (.string (bstr r0)) ∧ Rd w' z A c T q r1 ∧ Fr z w0 w' := by
  have hF0 := Fr.refl z w0
  have c00 := hI0.c0
  have c10 := hI0.c1
  have c20 := hI0.c2
  have f0 := hI0.f
  unfold swrong.f at H
  go_enter Tryd.func93, Tryd.ntmps93
  go_wp2_with fail
  go_ret
  obtain ⟨rfl, rfl⟩ := H.p2
  exact ⟨(by first | rfl | simp), (by repeat (first | exact hI0 | apply Rd.setAt | apply Rd.setOpen | apply Rd.drewN | apply Rd.drew | apply Rd.alloc)), (by repeat (first | exact hF0 | apply Fr.set | apply Fr.drewN | apply Fr.drew | apply Fr.alloc))⟩

/-! (*loop.example/pub-g01476/spec.reader).two -/
def stwo.f (T : List Int) (q : Int) (o : Bool) (a1 : List Int) : Option (List Int × Int) :=
some (a1, wrap64 (q + 2))
set_option maxHeartbeats 8000000 in
set_option maxRecDepth 100000 in
theorem stwo.calls {w0 : World} {z : Nat} {A : Option Addr} {c : Nat} {T : List Int} {q : Int} {o : Bool} (hI0 : Rd w0 z A c T q o) (a1 : List Int) (r0 : List Int) (r1 : Int) (H : Hd (stwo.f T q o a1 = some (r0, r1))) :
    Calls Tryd.prog 80 #[.pointer (some ⟨z, 0, none⟩), .string (bstr a1)] w0 fun e w' => e = .returned (.string (bstr r0)) ∧ Rd w' z A c T r1 o ∧ Fr z w0 w' := by
  have hF0 := Fr.refl z w0
  have c00 := hI0.c0
  have c10 := hI0.c1
  have c20 := hI0.c2
  have f0 := hI0.f
  unfold stwo.f at H
  go_enter Tryd.func80, Tryd.ntmps80
  go_wp2_with fail
  go_ret
  obtain ⟨rfl, rfl⟩ := H.p2
  exact ⟨(by first | rfl | simp), (by repeat (first | exact hI0 | apply Rd.setAt | apply Rd.setOpen | apply Rd.drewN | apply Rd.drew | apply Rd.alloc)), (by repeat (first | exact hF0 | apply Fr.set | apply Fr.drewN | apply Fr.drew | apply Fr.alloc))⟩

/-! (*loop.example/pub-g01476/spec.reader).one -/
def sone.f (T : List Int) (q : Int) (o : Bool) (a1 : List Int) : Option (List Int × Int) :=
some (a1, wrap64 (q + 1))
set_option maxHeartbeats 8000000 in
set_option maxRecDepth 100000 in
theorem sone.calls {w0 : World} {z : Nat} {A : Option Addr} {c : Nat} {T : List Int} {q : Int} {o : Bool} (hI0 : Rd w0 z A c T q o) (a1 : List Int) (r0 : List Int) (r1 : Int) (H : Hd (sone.f T q o a1 = some (r0, r1))) :
    Calls Tryd.prog 81 #[.pointer (some ⟨z, 0, none⟩), .string (bstr a1)] w0 fun e w' => e = .returned (.string (bstr r0)) ∧ Rd w' z A c T r1 o ∧ Fr z w0 w' := by
  have hF0 := Fr.refl z w0
  have c00 := hI0.c0
  have c10 := hI0.c1
  have c20 := hI0.c2
  have f0 := hI0.f
  unfold sone.f at H
  go_enter Tryd.func81, Tryd.ntmps81
  go_wp2_with fail
  go_ret
  obtain ⟨rfl, rfl⟩ := H.p2
  exact ⟨(by first | rfl | simp), (by repeat (first | exact hI0 | apply Rd.setAt | apply Rd.setOpen | apply Rd.drewN | apply Rd.drew | apply Rd.alloc)), (by repeat (first | exact hF0 | apply Fr.set | apply Fr.drewN | apply Fr.drew | apply Fr.alloc))⟩
end Go.Proofs.YteonakpgenkhkaaDoor
