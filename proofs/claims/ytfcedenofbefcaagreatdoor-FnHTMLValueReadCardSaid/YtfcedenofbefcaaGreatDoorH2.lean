import Derived.Test.YtfcedenofbefcaaGreatDoorKI
namespace Go.Proofs.YtfcedenofbefcaaGreatDoor
open Go.RowKit
set_option linter.unusedVariables false
set_option linter.unusedSimpArgs false

/-! (*loop.example/pub-g01476/pub/tdhtml.Lexer).readMarkup -/
def hreadMarkup.l0 (K : Nat) (B : List Int) : Nat → Int → Int → Int → Int → Option (Int × Int × Int × Int × Int × Int × Int)
  | 0, _, _, _, _ => none
  | k + 1, p74, s75, tl76, th77 =>
    ((pk B p74 0).bind fun c80 =>
    if (c80 == 0) = true then (if (atEnd B p74 0) = true then (some true) else
    some false) else
    some false).bind fun b86 =>
    if b86 = true then ((sel B p74 s75).bind fun u88 =>
    (cutB s75 p74 4 (p74 - s75)).bind fun u92 =>
    (sel B p74 s75).bind fun u93 =>
    some (1, s75, p74, p74, p74, s75 + 4, p74)) else
    (atB B p74 [45, 45, 62] 0).bind fun t96 =>
    if t96 = true then ((sel B p74 s75).bind fun u99 =>
    (cutB s75 p74 4 (p74 - s75)).bind fun u103 =>
    (sel B (mv p74 3) s75).bind fun u105 =>
    some (1, s75, mv p74 3, mv p74 3, mv p74 3, s75 + 4, p74)) else
    (atB B p74 [45, 45, 33, 62] 0).bind fun t108 =>
    if t108 = true then ((sel B p74 s75).bind fun u111 =>
    (cutB s75 p74 4 (p74 - s75)).bind fun u115 =>
    (sel B (mv p74 4) s75).bind fun u117 =>
    some (1, s75, mv p74 4, mv p74 4, mv p74 4, s75 + 4, p74)) else
    hreadMarkup.l0 K B k (mv p74 1) s75 tl76 th77
def hreadMarkup.l1 (K : Nat) (B : List Int) : Nat → Int → Int → Int → Int → Option (Int × Int × Int × Int × Int × Int × Int)
  | 0, _, _, _, _ => none
  | k + 1, p126, s127, tl128, th129 =>
    ((pk B p126 0).bind fun c132 =>
    if (c132 == 0) = true then (if (atEnd B p126 0) = true then (some true) else
    some false) else
    some false).bind fun b138 =>
    if b138 = true then ((sel B p126 s127).bind fun u140 =>
    (cutB s127 p126 9 (p126 - s127)).bind fun u144 =>
    (sel B p126 s127).bind fun u145 =>
    some (8, s127, p126, p126, p126, s127 + 9, p126)) else
    (atB B p126 [93, 93, 62] 0).bind fun t148 =>
    if t148 = true then ((sel B p126 s127).bind fun u151 =>
    (cutB s127 p126 9 (p126 - s127)).bind fun u155 =>
    (sel B (mv p126 3) s127).bind fun u157 =>
    some (8, s127, mv p126 3, mv p126 3, mv p126 3, s127 + 9, p126)) else
    hreadMarkup.l1 K B k (mv p126 1) s127 tl128 th129
def hreadMarkup.l2 (K : Nat) (B : List Int) : Nat → Int → Int → Int → Int → Option (Int × Int × Int × Int × Int × Int × Int)
  | 0, _, _, _, _ => none
  | k + 1, p173, s174, tl175, th176 =>
    (pk B p173 0).bind fun c178 =>
    if ((c178 == 62) || ((c178 == 0) && (atEnd B p173 0))) = true then ((sel B p173 s174).bind fun u188 =>
    (cutB s174 p173 9 (p173 - s174)).bind fun u192 =>
    (if (c178 == 62) = true then (some (mv p173 1)) else
    some p173).bind fun p196 =>
    (sel B p196 s174).bind fun u198 =>
    some (2, s174, p196, p196, p196, s174 + 9, p173)) else
    hreadMarkup.l2 K B k (mv p173 1) s174 tl175 th176
def hreadMarkup.f (K : Nat) (B : List Int) (p : Int) (s : Int) (rt : Int) (tg : Bool) (tl : Int) (th : Int) (al : Int) (ah : Int) : Option (Int × Int × Int × Int × Int × Int × Int) :=
(atB B p [45, 45] 0).bind fun t69 =>
if t69 = true then (hreadMarkup.l0 K B K (mv p 2) s tl th) else
(atB B p [91, 67, 68, 65, 84, 65, 91] 0).bind fun t121 =>
if t121 = true then (hreadMarkup.l1 K B K (mv p 7) s tl th) else
(atC B p [100, 111, 99, 116, 121, 112, 101] 0).bind fun t161 =>
if t161 = true then ((pk B (mv p 7) 0).bind fun c165 =>
(if (c165 == 32) = true then (some (mv (mv p 7) 1)) else
some (mv p 7)).bind fun p170 =>
hreadMarkup.l2 K B K p170 s tl th) else
none
set_option maxHeartbeats 8000000 in
set_option maxRecDepth 100000 in
theorem hreadMarkup.calls (K : Nat) {w0 : World} {l z b : Nat} {B : List Int} {EA : Addr} {p s : Int} {rt : Int} {tg : Bool} {tl : Int} {th : Int} {al : Int} {ah : Int} (hI0 : Hl w0 l z b B 179 EA p s rt tg tl th al ah) (r0 : Int) (r1 : Int) (r2 : Int) (r3 : Int) (r4 : Int) (r5 : Int) (r6 : Int) (H : Hd (hreadMarkup.f K B p s rt tg tl th al ah = some (r0, r1, r2, r3, r4, r5, r6))) :
    Calls Tryz.prog 78 #[.pointer (some ⟨l, 0, none⟩)] w0 fun e w' => e = .returned (.tuple #[.int .u32 r0, slv b r1 r2]) ∧ Hl w' l z b B 179 EA r3 r4 rt tg r5 r6 al ah ∧ Fr l z w0 w' := by
  have hF0 : Fr l z w0 w0 := Fr.refl _ _ w0
  have c00 := hI0.c0
  have c10 := hI0.c1
  have c20 := hI0.c2
  have c30 := hI0.c3
  have c40 := hI0.c4
  have c50 := hI0.c5
  have c80 := hI0.c8
  have f0 := hI0.f
  obtain ⟨At0, nt0, ct0, hct0, hSt0⟩ := hI0.ct
  obtain ⟨Aa0, na0, ca0, hca0, hSa0⟩ := hI0.ca
  unfold hreadMarkup.f at H
  go_enter Tryz.func78, Tryz.ntmps78
  obtain ⟨t69, A70, HN⟩ := H.bind; clear H; have H := HN; clear HN
  go_wp2_with fail
  refine (Hl.atS_calls (show Hl _ l z b B 179 EA p s rt tg tl th al ah from by repeat (first | exact hI0 | apply Hl.drewN | apply Hl.drew | apply Hl.alloc | (apply Hl.setText; case hS => first | assumption | exact Sv.nil _ _) | (apply Hl.setAttr; case hS => first | assumption | exact Sv.nil _ _) | (apply Hl.setTextS; case hb => exact sel_of (by assumption)) | (apply Hl.setAttrS; case hb => exact sel_of (by assumption)) | apply Hl.setTag | apply Hl.setRaw | apply Hl.setTmpl)) (lit_at (by simp) [45, 45]) t69 A70).mono ?_
  rintro e w71 ⟨rfl, hI71, k71⟩
  have hF71 := (show Fr l z w0 _ by repeat (first | exact hF0 | apply Fr.drewN | apply Fr.drew | apply Fr.alloc | apply Fr.setl)).trans k71
  have c071 := hI71.c0
  have c171 := hI71.c1
  have c271 := hI71.c2
  have c371 := hI71.c3
  have c471 := hI71.c4
  have c571 := hI71.c5
  have c871 := hI71.c8
  have f71 := hI71.f
  obtain ⟨At71, nt71, ct71, hct71, hSt71⟩ := hI71.ct
  obtain ⟨Aa71, na71, ca71, hca71, hSa71⟩ := hI71.ca
  try clear c00 c10 c20 c30 c40 c50 c80 f0 hct0 hca0
  cases t69 with
  | true =>
    replace H := H.tt
    go_wp2_with fail
    refine (Hl.Move_calls hI71 2).mono ?_
    rintro e w72 ⟨rfl, hI72, k72⟩
    have hF72 := hF71.trans k72
    have c072 := hI72.c0
    have c172 := hI72.c1
    have c272 := hI72.c2
    have c372 := hI72.c3
    have c472 := hI72.c4
    have c572 := hI72.c5
    have c872 := hI72.c8
    have f72 := hI72.f
    obtain ⟨At72, nt72, ct72, hct72, hSt72⟩ := hI72.ct
    obtain ⟨Aa72, na72, ca72, hca72, hSa72⟩ := hI72.ca
    try clear c071 c171 c271 c371 c471 c571 c871 f71 hct71 hca71
    have H1 := H; clear H
    go_wp2_with fail
    go_loopg [] K (fun gk w' => ∃ (p74 : Int), ∃ (s75 : Int), ∃ (tl76 : Int), ∃ (th77 : Int), Hd (hreadMarkup.l0 K B gk p74 s75 tl76 th77 = some (r0, r1, r2, r3, r4, r5, r6)) ∧ Hd (Hl w' l z b B 179 EA p74 s75 rt tg tl76 th77 al ah) ∧ Hd (Fr l z w0 w'))
    case atStart => exact ⟨mv p 2, s, tl, th, H1, ⟨hI72⟩, ⟨hF72⟩⟩
    case round =>
      clear H1
      obtain ⟨p74, s75, tl76, th77, H, gI, gF⟩ := hrel
      have hI78 := gI.out; have hF78 := gF.out; clear gI gF
      have c078 := hI78.c0
      have c178 := hI78.c1
      have c278 := hI78.c2
      have c378 := hI78.c3
      have c478 := hI78.c4
      have c578 := hI78.c5
      have c878 := hI78.c8
      have f78 := hI78.f
      obtain ⟨At78, nt78, ct78, hct78, hSt78⟩ := hI78.ct
      obtain ⟨Aa78, na78, ca78, hca78, hSa78⟩ := hI78.ca
      try clear c072 c172 c272 c372 c472 c572 c872 f72 hct72 hca72
      cases gk with
      | zero => exact absurd H.out (by simp [hreadMarkup.l0])
      | succ k =>
        simp only [hreadMarkup.l0] at H
        obtain ⟨b86, H1, HC79⟩ := H.bind; clear H
        go_upto_region 3 with fail
        go_cut [26] (fun v26 w' => v26 = .bool b86 ∧ Hd (Hl w' l z b B 179 EA p74 s75 rt tg tl76 th77 al ah) ∧ Hd (Fr l z w0 w'))
        case first =>
          have H := H1; clear H1
          obtain ⟨c80, A81, HN⟩ := H.bind; clear H; have H := HN; clear HN
          go_wp2_with fail
          refine (Hl.Peek_calls hI78 0 c80 A81).mono ?_
          rintro e w' ⟨rfl, rfl⟩
          by_cases e82 : (c80 == 0) = true
          · 
            replace H := H.pos e82
            have e82n : (c80 != 0) = false := by simp only [bne, e82, Bool.not_true]
            by_cases e83 : (atEnd B p74 0) = true
            · 
              replace H := H.pos e83
              go_wp2_with fail
              refine (Hl.Err_end_calls hI78 e83).mono ?_
              rintro e w84 ⟨rfl, hI84, k84⟩
              have hF84 := hF78.trans k84
              have c084 := hI84.c0
              have c184 := hI84.c1
              have c284 := hI84.c2
              have c384 := hI84.c3
              have c484 := hI84.c4
              have c584 := hI84.c5
              have c884 := hI84.c8
              have f84 := hI84.f
              obtain ⟨At84, nt84, ct84, hct84, hSt84⟩ := hI84.ct
              obtain ⟨Aa84, na84, ca84, hca84, hSa84⟩ := hI84.ca
              try clear c078 c178 c278 c378 c478 c578 c878 f78 hct78 hca78
              obtain rfl := H.p1
              go_wp2_with fail
              go_meet
              case rel => exact ⟨(by first | rfl | simp), ⟨hI84⟩, ⟨hF84⟩⟩
            ·
              replace H := H.neg e83
              replace e83 := Bool.eq_false_iff.mpr e83
              go_wp2_with fail
              refine (Hl.Err_not_calls hI78 e83).mono ?_
              rintro e w85 ⟨rfl, hI85, k85⟩
              have hF85 := hF78.trans k85
              have c085 := hI85.c0
              have c185 := hI85.c1
              have c285 := hI85.c2
              have c385 := hI85.c3
              have c485 := hI85.c4
              have c585 := hI85.c5
              have c885 := hI85.c8
              have f85 := hI85.f
              obtain ⟨At85, nt85, ct85, hct85, hSt85⟩ := hI85.ct
              obtain ⟨Aa85, na85, ca85, hca85, hSa85⟩ := hI85.ca
              try clear c078 c178 c278 c378 c478 c578 c878 f78 hct78 hca78
              obtain rfl := H.p1
              go_wp2_with fail
              go_meet
              case rel => exact ⟨(by first | rfl | simp), ⟨hI85⟩, ⟨hF85⟩⟩
          ·
            replace H := H.neg e82
            replace e82 := Bool.eq_false_iff.mpr e82
            have e82n : (c80 != 0) = true := by simp only [bne, e82, Bool.not_false]
            obtain rfl := H.p1
            go_wp2_with fail
            go_meet
            case rel => exact ⟨(by first | rfl | simp), ⟨hI78⟩, ⟨hF78⟩⟩
        case rest =>
          obtain ⟨rfl, gI, gF⟩ := hcut
          have hI87 := gI.out; have hF87 := gF.out; clear gI gF
          have c087 := hI87.c0
          have c187 := hI87.c1
          have c287 := hI87.c2
          have c387 := hI87.c3
          have c487 := hI87.c4
          have c587 := hI87.c5
          have c887 := hI87.c8
          have f87 := hI87.f
          obtain ⟨At87, nt87, ct87, hct87, hSt87⟩ := hI87.ct
          obtain ⟨Aa87, na87, ca87, hca87, hSa87⟩ := hI87.ca
          try clear c078 c178 c278 c378 c478 c578 c878 f78 hct78 hca78
          have H := HC79; clear HC79 H1
          cases b86 with
          | true =>
            replace H := H.tt
            obtain ⟨u88, A89, HN⟩ := H.bind; clear H; have H := HN; clear HN
            go_wp2_with fail
            refine (Hl.LexemeV_calls hI87 u88 A89).mono ?_
            rintro e w90 ⟨⟨A91, n91, c91, rfl, hS91⟩, hI90, k90⟩
            have hF90 := hF87.trans k90
            have c090 := hI90.c0
            have c190 := hI90.c1
            have c290 := hI90.c2
            have c390 := hI90.c3
            have c490 := hI90.c4
            have c590 := hI90.c5
            have c890 := hI90.c8
            have f90 := hI90.f
            obtain ⟨At90, nt90, ct90, hct90, hSt90⟩ := hI90.ct
            obtain ⟨Aa90, na90, ca90, hca90, hSa90⟩ := hI90.ca
            try clear c087 c187 c287 c387 c487 c587 c887 f87 hct87 hca87
            obtain ⟨u92, AA92, HN⟩ := H.bind; clear H; have H := HN; clear HN
            obtain ⟨A92, n92, c92, hS92, hq92⟩ := cut_lo hS91 4 u92 AA92
            obtain ⟨u93, A94, HN⟩ := H.bind; clear H; have H := HN; clear HN
            go_wp2_with fail
            refine (Hl.Shift_calls (show Hl _ l z b B 179 EA p74 s75 rt tg (s75 + 4) p74 al ah from by repeat (first | exact hI90 | apply Hl.drewN | apply Hl.drew | apply Hl.alloc | (apply Hl.setText; case hS => first | assumption | exact Sv.nil _ _) | (apply Hl.setAttr; case hS => first | assumption | exact Sv.nil _ _) | (apply Hl.setTextS; case hb => exact sel_of (by assumption)) | (apply Hl.setAttrS; case hb => exact sel_of (by assumption)) | apply Hl.setTag | apply Hl.setRaw | apply Hl.setTmpl)) u93 A94).mono ?_
            rintro e w95 ⟨rfl, hI95, k95⟩
            have hF95 := (show Fr l z w0 _ by repeat (first | exact hF90 | apply Fr.drewN | apply Fr.drew | apply Fr.alloc | apply Fr.setl)).trans k95
            have c095 := hI95.c0
            have c195 := hI95.c1
            have c295 := hI95.c2
            have c395 := hI95.c3
            have c495 := hI95.c4
            have c595 := hI95.c5
            have c895 := hI95.c8
            have f95 := hI95.f
            obtain ⟨At95, nt95, ct95, hct95, hSt95⟩ := hI95.ct
            obtain ⟨Aa95, na95, ca95, hca95, hSa95⟩ := hI95.ca
            try clear c090 c190 c290 c390 c490 c590 c890 f90 hct90 hca90
            go_wp2_with fail
            go_ret2
            obtain ⟨rfl, rfl, rfl, rfl, rfl, rfl, rfl⟩ := H.p7
            exact ⟨(by first | rfl | simp), hI95, hF95⟩
          | false =>
            replace H := H.ff
            obtain ⟨t96, A97, HN⟩ := H.bind; clear H; have H := HN; clear HN
            go_wp2_with fail
            refine (Hl.atS_calls (show Hl _ l z b B 179 EA p74 s75 rt tg tl76 th77 al ah from by repeat (first | exact hI87 | apply Hl.drewN | apply Hl.drew | apply Hl.alloc | (apply Hl.setText; case hS => first | assumption | exact Sv.nil _ _) | (apply Hl.setAttr; case hS => first | assumption | exact Sv.nil _ _) | (apply Hl.setTextS; case hb => exact sel_of (by assumption)) | (apply Hl.setAttrS; case hb => exact sel_of (by assumption)) | apply Hl.setTag | apply Hl.setRaw | apply Hl.setTmpl)) (lit_at (by simp) [45, 45, 62]) t96 A97).mono ?_
            rintro e w98 ⟨rfl, hI98, k98⟩
            have hF98 := (show Fr l z w0 _ by repeat (first | exact hF87 | apply Fr.drewN | apply Fr.drew | apply Fr.alloc | apply Fr.setl)).trans k98
            have c098 := hI98.c0
            have c198 := hI98.c1
            have c298 := hI98.c2
            have c398 := hI98.c3
            have c498 := hI98.c4
            have c598 := hI98.c5
            have c898 := hI98.c8
            have f98 := hI98.f
            obtain ⟨At98, nt98, ct98, hct98, hSt98⟩ := hI98.ct
            obtain ⟨Aa98, na98, ca98, hca98, hSa98⟩ := hI98.ca
            try clear c087 c187 c287 c387 c487 c587 c887 f87 hct87 hca87
            cases t96 with
            | true =>
              replace H := H.tt
              obtain ⟨u99, A100, HN⟩ := H.bind; clear H; have H := HN; clear HN
              go_wp2_with fail
              refine (Hl.LexemeV_calls hI98 u99 A100).mono ?_
              rintro e w101 ⟨⟨A102, n102, c102, rfl, hS102⟩, hI101, k101⟩
              have hF101 := hF98.trans k101
              have c0101 := hI101.c0
              have c1101 := hI101.c1
              have c2101 := hI101.c2
              have c3101 := hI101.c3
              have c4101 := hI101.c4
              have c5101 := hI101.c5
              have c8101 := hI101.c8
              have f101 := hI101.f
              obtain ⟨At101, nt101, ct101, hct101, hSt101⟩ := hI101.ct
              obtain ⟨Aa101, na101, ca101, hca101, hSa101⟩ := hI101.ca
              try clear c098 c198 c298 c398 c498 c598 c898 f98 hct98 hca98
              obtain ⟨u103, AA103, HN⟩ := H.bind; clear H; have H := HN; clear HN
              obtain ⟨A103, n103, c103, hS103, hq103⟩ := cut_lo hS102 4 u103 AA103
              go_wp2_with fail
              refine (Hl.Move_calls (show Hl _ l z b B 179 EA p74 s75 rt tg (s75 + 4) p74 al ah from by repeat (first | exact hI101 | apply Hl.drewN | apply Hl.drew | apply Hl.alloc | (apply Hl.setText; case hS => first | assumption | exact Sv.nil _ _) | (apply Hl.setAttr; case hS => first | assumption | exact Sv.nil _ _) | (apply Hl.setTextS; case hb => exact sel_of (by assumption)) | (apply Hl.setAttrS; case hb => exact sel_of (by assumption)) | apply Hl.setTag | apply Hl.setRaw | apply Hl.setTmpl)) 3).mono ?_
              rintro e w104 ⟨rfl, hI104, k104⟩
              have hF104 := (show Fr l z w0 _ by repeat (first | exact hF101 | apply Fr.drewN | apply Fr.drew | apply Fr.alloc | apply Fr.setl)).trans k104
              have c0104 := hI104.c0
              have c1104 := hI104.c1
              have c2104 := hI104.c2
              have c3104 := hI104.c3
              have c4104 := hI104.c4
              have c5104 := hI104.c5
              have c8104 := hI104.c8
              have f104 := hI104.f
              obtain ⟨At104, nt104, ct104, hct104, hSt104⟩ := hI104.ct
              obtain ⟨Aa104, na104, ca104, hca104, hSa104⟩ := hI104.ca
              try clear c0101 c1101 c2101 c3101 c4101 c5101 c8101 f101 hct101 hca101
              obtain ⟨u105, A106, HN⟩ := H.bind; clear H; have H := HN; clear HN
              go_wp2_with fail
              refine (Hl.Shift_calls hI104 u105 A106).mono ?_
              rintro e w107 ⟨rfl, hI107, k107⟩
              have hF107 := hF104.trans k107
              have c0107 := hI107.c0
              have c1107 := hI107.c1
              have c2107 := hI107.c2
              have c3107 := hI107.c3
              have c4107 := hI107.c4
              have c5107 := hI107.c5
              have c8107 := hI107.c8
              have f107 := hI107.f
              obtain ⟨At107, nt107, ct107, hct107, hSt107⟩ := hI107.ct
              obtain ⟨Aa107, na107, ca107, hca107, hSa107⟩ := hI107.ca
              try clear c0104 c1104 c2104 c3104 c4104 c5104 c8104 f104 hct104 hca104
              go_wp2_with fail
              go_ret2
              obtain ⟨rfl, rfl, rfl, rfl, rfl, rfl, rfl⟩ := H.p7
              exact ⟨(by first | rfl | simp), hI107, hF107⟩
            | false =>
              replace H := H.ff
              obtain ⟨t108, A109, HN⟩ := H.bind; clear H; have H := HN; clear HN
              go_wp2_with fail
              refine (Hl.atS_calls (show Hl _ l z b B 179 EA p74 s75 rt tg tl76 th77 al ah from by repeat (first | exact hI98 | apply Hl.drewN | apply Hl.drew | apply Hl.alloc | (apply Hl.setText; case hS => first | assumption | exact Sv.nil _ _) | (apply Hl.setAttr; case hS => first | assumption | exact Sv.nil _ _) | (apply Hl.setTextS; case hb => exact sel_of (by assumption)) | (apply Hl.setAttrS; case hb => exact sel_of (by assumption)) | apply Hl.setTag | apply Hl.setRaw | apply Hl.setTmpl)) (lit_at (by simp) [45, 45, 33, 62]) t108 A109).mono ?_
              rintro e w110 ⟨rfl, hI110, k110⟩
              have hF110 := (show Fr l z w0 _ by repeat (first | exact hF98 | apply Fr.drewN | apply Fr.drew | apply Fr.alloc | apply Fr.setl)).trans k110
              have c0110 := hI110.c0
              have c1110 := hI110.c1
              have c2110 := hI110.c2
              have c3110 := hI110.c3
              have c4110 := hI110.c4
              have c5110 := hI110.c5
              have c8110 := hI110.c8
              have f110 := hI110.f
              obtain ⟨At110, nt110, ct110, hct110, hSt110⟩ := hI110.ct
              obtain ⟨Aa110, na110, ca110, hca110, hSa110⟩ := hI110.ca
              try clear c098 c198 c298 c398 c498 c598 c898 f98 hct98 hca98
              cases t108 with
              | true =>
                replace H := H.tt
                obtain ⟨u111, A112, HN⟩ := H.bind; clear H; have H := HN; clear HN
                go_wp2_with fail
                refine (Hl.LexemeV_calls hI110 u111 A112).mono ?_
                rintro e w113 ⟨⟨A114, n114, c114, rfl, hS114⟩, hI113, k113⟩
                have hF113 := hF110.trans k113
                have c0113 := hI113.c0
                have c1113 := hI113.c1
                have c2113 := hI113.c2
                have c3113 := hI113.c3
                have c4113 := hI113.c4
                have c5113 := hI113.c5
                have c8113 := hI113.c8
                have f113 := hI113.f
                obtain ⟨At113, nt113, ct113, hct113, hSt113⟩ := hI113.ct
                obtain ⟨Aa113, na113, ca113, hca113, hSa113⟩ := hI113.ca
                try clear c0110 c1110 c2110 c3110 c4110 c5110 c8110 f110 hct110 hca110
                obtain ⟨u115, AA115, HN⟩ := H.bind; clear H; have H := HN; clear HN
                obtain ⟨A115, n115, c115, hS115, hq115⟩ := cut_lo hS114 4 u115 AA115
                go_wp2_with fail
                refine (Hl.Move_calls (show Hl _ l z b B 179 EA p74 s75 rt tg (s75 + 4) p74 al ah from by repeat (first | exact hI113 | apply Hl.drewN | apply Hl.drew | apply Hl.alloc | (apply Hl.setText; case hS => first | assumption | exact Sv.nil _ _) | (apply Hl.setAttr; case hS => first | assumption | exact Sv.nil _ _) | (apply Hl.setTextS; case hb => exact sel_of (by assumption)) | (apply Hl.setAttrS; case hb => exact sel_of (by assumption)) | apply Hl.setTag | apply Hl.setRaw | apply Hl.setTmpl)) 4).mono ?_
                rintro e w116 ⟨rfl, hI116, k116⟩
                have hF116 := (show Fr l z w0 _ by repeat (first | exact hF113 | apply Fr.drewN | apply Fr.drew | apply Fr.alloc | apply Fr.setl)).trans k116
                have c0116 := hI116.c0
                have c1116 := hI116.c1
                have c2116 := hI116.c2
                have c3116 := hI116.c3
                have c4116 := hI116.c4
                have c5116 := hI116.c5
                have c8116 := hI116.c8
                have f116 := hI116.f
                obtain ⟨At116, nt116, ct116, hct116, hSt116⟩ := hI116.ct
                obtain ⟨Aa116, na116, ca116, hca116, hSa116⟩ := hI116.ca
                try clear c0113 c1113 c2113 c3113 c4113 c5113 c8113 f113 hct113 hca113
                obtain ⟨u117, A118, HN⟩ := H.bind; clear H; have H := HN; clear HN
                go_wp2_with fail
                refine (Hl.Shift_calls hI116 u117 A118).mono ?_
                rintro e w119 ⟨rfl, hI119, k119⟩
                have hF119 := hF116.trans k119
                have c0119 := hI119.c0
                have c1119 := hI119.c1
                have c2119 := hI119.c2
                have c3119 := hI119.c3
                have c4119 := hI119.c4
                have c5119 := hI119.c5
                have c8119 := hI119.c8
                have f119 := hI119.f
                obtain ⟨At119, nt119, ct119, hct119, hSt119⟩ := hI119.ct
                obtain ⟨Aa119, na119, ca119, hca119, hSa119⟩ := hI119.ca
                try clear c0116 c1116 c2116 c3116 c4116 c5116 c8116 f116 hct116 hca116
                go_wp2_with fail
                go_ret2
                obtain ⟨rfl, rfl, rfl, rfl, rfl, rfl, rfl⟩ := H.p7
                exact ⟨(by first | rfl | simp), hI119, hF119⟩
              | false =>
                replace H := H.ff
                go_wp2_with fail
                refine (Hl.Move_calls hI110 1).mono ?_
                rintro e w120 ⟨rfl, hI120, k120⟩
                have hF120 := hF110.trans k120
                have c0120 := hI120.c0
                have c1120 := hI120.c1
                have c2120 := hI120.c2
                have c3120 := hI120.c3
                have c4120 := hI120.c4
                have c5120 := hI120.c5
                have c8120 := hI120.c8
                have f120 := hI120.f
                obtain ⟨At120, nt120, ct120, hct120, hSt120⟩ := hI120.ct
                obtain ⟨Aa120, na120, ca120, hca120, hSa120⟩ := hI120.ca
                try clear c0110 c1110 c2110 c3110 c4110 c5110 c8110 f110 hct110 hca110
                go_wp2_with fail
                go_roundg k
                case measure => exact Nat.lt_succ_self _
                case rel => exact ⟨mv p74 1, s75, tl76, th77, H, ⟨hI120⟩, ⟨hF120⟩⟩
  | false =>
    replace H := H.ff
    obtain ⟨t121, A122, HN⟩ := H.bind; clear H; have H := HN; clear HN
    go_wp2_with fail
    refine (Hl.atS_calls (show Hl _ l z b B 179 EA p s rt tg tl th al ah from by repeat (first | exact hI71 | apply Hl.drewN | apply Hl.drew | apply Hl.alloc | (apply Hl.setText; case hS => first | assumption | exact Sv.nil _ _) | (apply Hl.setAttr; case hS => first | assumption | exact Sv.nil _ _) | (apply Hl.setTextS; case hb => exact sel_of (by assumption)) | (apply Hl.setAttrS; case hb => exact sel_of (by assumption)) | apply Hl.setTag | apply Hl.setRaw | apply Hl.setTmpl)) (lit_at (by simp) [91, 67, 68, 65, 84, 65, 91]) t121 A122).mono ?_
    rintro e w123 ⟨rfl, hI123, k123⟩
    have hF123 := (show Fr l z w0 _ by repeat (first | exact hF71 | apply Fr.drewN | apply Fr.drew | apply Fr.alloc | apply Fr.setl)).trans k123
    have c0123 := hI123.c0
    have c1123 := hI123.c1
    have c2123 := hI123.c2
    have c3123 := hI123.c3
    have c4123 := hI123.c4
    have c5123 := hI123.c5
    have c8123 := hI123.c8
    have f123 := hI123.f
    obtain ⟨At123, nt123, ct123, hct123, hSt123⟩ := hI123.ct
    obtain ⟨Aa123, na123, ca123, hca123, hSa123⟩ := hI123.ca
    try clear c071 c171 c271 c371 c471 c571 c871 f71 hct71 hca71
    cases t121 with
    | true =>
      replace H := H.tt
      go_wp2_with fail
      refine (Hl.Move_calls hI123 7).mono ?_
      rintro e w124 ⟨rfl, hI124, k124⟩
      have hF124 := hF123.trans k124
      have c0124 := hI124.c0
      have c1124 := hI124.c1
      have c2124 := hI124.c2
      have c3124 := hI124.c3
      have c4124 := hI124.c4
      have c5124 := hI124.c5
      have c8124 := hI124.c8
      have f124 := hI124.f
      obtain ⟨At124, nt124, ct124, hct124, hSt124⟩ := hI124.ct
      obtain ⟨Aa124, na124, ca124, hca124, hSa124⟩ := hI124.ca
      try clear c0123 c1123 c2123 c3123 c4123 c5123 c8123 f123 hct123 hca123
      have H1 := H; clear H
      go_wp2_with fail
      go_loopg [] K (fun gk w' => ∃ (p126 : Int), ∃ (s127 : Int), ∃ (tl128 : Int), ∃ (th129 : Int), Hd (hreadMarkup.l1 K B gk p126 s127 tl128 th129 = some (r0, r1, r2, r3, r4, r5, r6)) ∧ Hd (Hl w' l z b B 179 EA p126 s127 rt tg tl128 th129 al ah) ∧ Hd (Fr l z w0 w'))
      case atStart => exact ⟨mv p 7, s, tl, th, H1, ⟨hI124⟩, ⟨hF124⟩⟩
      case round =>
        clear H1
        obtain ⟨p126, s127, tl128, th129, H, gI, gF⟩ := hrel
        have hI130 := gI.out; have hF130 := gF.out; clear gI gF
        have c0130 := hI130.c0
        have c1130 := hI130.c1
        have c2130 := hI130.c2
        have c3130 := hI130.c3
        have c4130 := hI130.c4
        have c5130 := hI130.c5
        have c8130 := hI130.c8
        have f130 := hI130.f
        obtain ⟨At130, nt130, ct130, hct130, hSt130⟩ := hI130.ct
        obtain ⟨Aa130, na130, ca130, hca130, hSa130⟩ := hI130.ca
        try clear c0124 c1124 c2124 c3124 c4124 c5124 c8124 f124 hct124 hca124
        cases gk with
        | zero => exact absurd H.out (by simp [hreadMarkup.l1])
        | succ k =>
          simp only [hreadMarkup.l1] at H
          obtain ⟨b138, H1, HC131⟩ := H.bind; clear H
          go_upto_region 17 with fail
          go_cut [111] (fun v111 w' => v111 = .bool b138 ∧ Hd (Hl w' l z b B 179 EA p126 s127 rt tg tl128 th129 al ah) ∧ Hd (Fr l z w0 w'))
          case first =>
            have H := H1; clear H1
            obtain ⟨c132, A133, HN⟩ := H.bind; clear H; have H := HN; clear HN
            go_wp2_with fail
            refine (Hl.Peek_calls hI130 0 c132 A133).mono ?_
            rintro e w' ⟨rfl, rfl⟩
            by_cases e134 : (c132 == 0) = true
            · 
              replace H := H.pos e134
              have e134n : (c132 != 0) = false := by simp only [bne, e134, Bool.not_true]
              by_cases e135 : (atEnd B p126 0) = true
              · 
                replace H := H.pos e135
                go_wp2_with fail
                refine (Hl.Err_end_calls hI130 e135).mono ?_
                rintro e w136 ⟨rfl, hI136, k136⟩
                have hF136 := hF130.trans k136
                have c0136 := hI136.c0
                have c1136 := hI136.c1
                have c2136 := hI136.c2
                have c3136 := hI136.c3
                have c4136 := hI136.c4
                have c5136 := hI136.c5
                have c8136 := hI136.c8
                have f136 := hI136.f
                obtain ⟨At136, nt136, ct136, hct136, hSt136⟩ := hI136.ct
                obtain ⟨Aa136, na136, ca136, hca136, hSa136⟩ := hI136.ca
                try clear c0130 c1130 c2130 c3130 c4130 c5130 c8130 f130 hct130 hca130
                obtain rfl := H.p1
                go_wp2_with fail
                go_meet
                case rel => exact ⟨(by first | rfl | simp), ⟨hI136⟩, ⟨hF136⟩⟩
              ·
                replace H := H.neg e135
                replace e135 := Bool.eq_false_iff.mpr e135
                go_wp2_with fail
                refine (Hl.Err_not_calls hI130 e135).mono ?_
                rintro e w137 ⟨rfl, hI137, k137⟩
                have hF137 := hF130.trans k137
                have c0137 := hI137.c0
                have c1137 := hI137.c1
                have c2137 := hI137.c2
                have c3137 := hI137.c3
                have c4137 := hI137.c4
                have c5137 := hI137.c5
                have c8137 := hI137.c8
                have f137 := hI137.f
                obtain ⟨At137, nt137, ct137, hct137, hSt137⟩ := hI137.ct
                obtain ⟨Aa137, na137, ca137, hca137, hSa137⟩ := hI137.ca
                try clear c0130 c1130 c2130 c3130 c4130 c5130 c8130 f130 hct130 hca130
                obtain rfl := H.p1
                go_wp2_with fail
                go_meet
                case rel => exact ⟨(by first | rfl | simp), ⟨hI137⟩, ⟨hF137⟩⟩
            ·
              replace H := H.neg e134
              replace e134 := Bool.eq_false_iff.mpr e134
              have e134n : (c132 != 0) = true := by simp only [bne, e134, Bool.not_false]
              obtain rfl := H.p1
              go_wp2_with fail
              go_meet
              case rel => exact ⟨(by first | rfl | simp), ⟨hI130⟩, ⟨hF130⟩⟩
          case rest =>
            obtain ⟨rfl, gI, gF⟩ := hcut
            have hI139 := gI.out; have hF139 := gF.out; clear gI gF
            have c0139 := hI139.c0
            have c1139 := hI139.c1
            have c2139 := hI139.c2
            have c3139 := hI139.c3
            have c4139 := hI139.c4
            have c5139 := hI139.c5
            have c8139 := hI139.c8
            have f139 := hI139.f
            obtain ⟨At139, nt139, ct139, hct139, hSt139⟩ := hI139.ct
            obtain ⟨Aa139, na139, ca139, hca139, hSa139⟩ := hI139.ca
            try clear c0130 c1130 c2130 c3130 c4130 c5130 c8130 f130 hct130 hca130
            have H := HC131; clear HC131 H1
            cases b138 with
            | true =>
              replace H := H.tt
              obtain ⟨u140, A141, HN⟩ := H.bind; clear H; have H := HN; clear HN
              go_wp2_with fail
              refine (Hl.LexemeV_calls hI139 u140 A141).mono ?_
              rintro e w142 ⟨⟨A143, n143, c143, rfl, hS143⟩, hI142, k142⟩
              have hF142 := hF139.trans k142
              have c0142 := hI142.c0
              have c1142 := hI142.c1
              have c2142 := hI142.c2
              have c3142 := hI142.c3
              have c4142 := hI142.c4
              have c5142 := hI142.c5
              have c8142 := hI142.c8
              have f142 := hI142.f
              obtain ⟨At142, nt142, ct142, hct142, hSt142⟩ := hI142.ct
              obtain ⟨Aa142, na142, ca142, hca142, hSa142⟩ := hI142.ca
              try clear c0139 c1139 c2139 c3139 c4139 c5139 c8139 f139 hct139 hca139
              obtain ⟨u144, AA144, HN⟩ := H.bind; clear H; have H := HN; clear HN
              obtain ⟨A144, n144, c144, hS144, hq144⟩ := cut_lo hS143 9 u144 AA144
              obtain ⟨u145, A146, HN⟩ := H.bind; clear H; have H := HN; clear HN
              go_wp2_with fail
              refine (Hl.Shift_calls (show Hl _ l z b B 179 EA p126 s127 rt tg (s127 + 9) p126 al ah from by repeat (first | exact hI142 | apply Hl.drewN | apply Hl.drew | apply Hl.alloc | (apply Hl.setText; case hS => first | assumption | exact Sv.nil _ _) | (apply Hl.setAttr; case hS => first | assumption | exact Sv.nil _ _) | (apply Hl.setTextS; case hb => exact sel_of (by assumption)) | (apply Hl.setAttrS; case hb => exact sel_of (by assumption)) | apply Hl.setTag | apply Hl.setRaw | apply Hl.setTmpl)) u145 A146).mono ?_
              rintro e w147 ⟨rfl, hI147, k147⟩
              have hF147 := (show Fr l z w0 _ by repeat (first | exact hF142 | apply Fr.drewN | apply Fr.drew | apply Fr.alloc | apply Fr.setl)).trans k147
              have c0147 := hI147.c0
              have c1147 := hI147.c1
              have c2147 := hI147.c2
              have c3147 := hI147.c3
              have c4147 := hI147.c4
              have c5147 := hI147.c5
              have c8147 := hI147.c8
              have f147 := hI147.f
              obtain ⟨At147, nt147, ct147, hct147, hSt147⟩ := hI147.ct
              obtain ⟨Aa147, na147, ca147, hca147, hSa147⟩ := hI147.ca
              try clear c0142 c1142 c2142 c3142 c4142 c5142 c8142 f142 hct142 hca142
              go_wp2_with fail
              go_ret2
              obtain ⟨rfl, rfl, rfl, rfl, rfl, rfl, rfl⟩ := H.p7
              exact ⟨(by first | rfl | simp), hI147, hF147⟩
            | false =>
              replace H := H.ff
              obtain ⟨t148, A149, HN⟩ := H.bind; clear H; have H := HN; clear HN
              go_wp2_with fail
              refine (Hl.atS_calls (show Hl _ l z b B 179 EA p126 s127 rt tg tl128 th129 al ah from by repeat (first | exact hI139 | apply Hl.drewN | apply Hl.drew | apply Hl.alloc | (apply Hl.setText; case hS => first | assumption | exact Sv.nil _ _) | (apply Hl.setAttr; case hS => first | assumption | exact Sv.nil _ _) | (apply Hl.setTextS; case hb => exact sel_of (by assumption)) | (apply Hl.setAttrS; case hb => exact sel_of (by assumption)) | apply Hl.setTag | apply Hl.setRaw | apply Hl.setTmpl)) (lit_at (by simp) [93, 93, 62]) t148 A149).mono ?_
              rintro e w150 ⟨rfl, hI150, k150⟩
              have hF150 := (show Fr l z w0 _ by repeat (first | exact hF139 | apply Fr.drewN | apply Fr.drew | apply Fr.alloc | apply Fr.setl)).trans k150
              have c0150 := hI150.c0
              have c1150 := hI150.c1
              have c2150 := hI150.c2
              have c3150 := hI150.c3
              have c4150 := hI150.c4
              have c5150 := hI150.c5
              have c8150 := hI150.c8
              have f150 := hI150.f
              obtain ⟨At150, nt150, ct150, hct150, hSt150⟩ := hI150.ct
              obtain ⟨Aa150, na150, ca150, hca150, hSa150⟩ := hI150.ca
              try clear c0139 c1139 c2139 c3139 c4139 c5139 c8139 f139 hct139 hca139
              cases t148 with
              | true =>
                replace H := H.tt
                obtain ⟨u151, A152, HN⟩ := H.bind; clear H; have H := HN; clear HN
                go_wp2_with fail
                refine (Hl.LexemeV_calls hI150 u151 A152).mono ?_
                rintro e w153 ⟨⟨A154, n154, c154, rfl, hS154⟩, hI153, k153⟩
                have hF153 := hF150.trans k153
                have c0153 := hI153.c0
                have c1153 := hI153.c1
                have c2153 := hI153.c2
                have c3153 := hI153.c3
                have c4153 := hI153.c4
                have c5153 := hI153.c5
                have c8153 := hI153.c8
                have f153 := hI153.f
                obtain ⟨At153, nt153, ct153, hct153, hSt153⟩ := hI153.ct
                obtain ⟨Aa153, na153, ca153, hca153, hSa153⟩ := hI153.ca
                try clear c0150 c1150 c2150 c3150 c4150 c5150 c8150 f150 hct150 hca150
                obtain ⟨u155, AA155, HN⟩ := H.bind; clear H; have H := HN; clear HN
                obtain ⟨A155, n155, c155, hS155, hq155⟩ := cut_lo hS154 9 u155 AA155
                go_wp2_with fail
                refine (Hl.Move_calls (show Hl _ l z b B 179 EA p126 s127 rt tg (s127 + 9) p126 al ah from by repeat (first | exact hI153 | apply Hl.drewN | apply Hl.drew | apply Hl.alloc | (apply Hl.setText; case hS => first | assumption | exact Sv.nil _ _) | (apply Hl.setAttr; case hS => first | assumption | exact Sv.nil _ _) | (apply Hl.setTextS; case hb => exact sel_of (by assumption)) | (apply Hl.setAttrS; case hb => exact sel_of (by assumption)) | apply Hl.setTag | apply Hl.setRaw | apply Hl.setTmpl)) 3).mono ?_
                rintro e w156 ⟨rfl, hI156, k156⟩
                have hF156 := (show Fr l z w0 _ by repeat (first | exact hF153 | apply Fr.drewN | apply Fr.drew | apply Fr.alloc | apply Fr.setl)).trans k156
                have c0156 := hI156.c0
                have c1156 := hI156.c1
                have c2156 := hI156.c2
                have c3156 := hI156.c3
                have c4156 := hI156.c4
                have c5156 := hI156.c5
                have c8156 := hI156.c8
                have f156 := hI156.f
                obtain ⟨At156, nt156, ct156, hct156, hSt156⟩ := hI156.ct
                obtain ⟨Aa156, na156, ca156, hca156, hSa156⟩ := hI156.ca
                try clear c0153 c1153 c2153 c3153 c4153 c5153 c8153 f153 hct153 hca153
                obtain ⟨u157, A158, HN⟩ := H.bind; clear H; have H := HN; clear HN
                go_wp2_with fail
                refine (Hl.Shift_calls hI156 u157 A158).mono ?_
                rintro e w159 ⟨rfl, hI159, k159⟩
                have hF159 := hF156.trans k159
                have c0159 := hI159.c0
                have c1159 := hI159.c1
                have c2159 := hI159.c2
                have c3159 := hI159.c3
                have c4159 := hI159.c4
                have c5159 := hI159.c5
                have c8159 := hI159.c8
                have f159 := hI159.f
                obtain ⟨At159, nt159, ct159, hct159, hSt159⟩ := hI159.ct
                obtain ⟨Aa159, na159, ca159, hca159, hSa159⟩ := hI159.ca
                try clear c0156 c1156 c2156 c3156 c4156 c5156 c8156 f156 hct156 hca156
                go_wp2_with fail
                go_ret2
                obtain ⟨rfl, rfl, rfl, rfl, rfl, rfl, rfl⟩ := H.p7
                exact ⟨(by first | rfl | simp), hI159, hF159⟩
              | false =>
                replace H := H.ff
                go_wp2_with fail
                refine (Hl.Move_calls hI150 1).mono ?_
                rintro e w160 ⟨rfl, hI160, k160⟩
                have hF160 := hF150.trans k160
                have c0160 := hI160.c0
                have c1160 := hI160.c1
                have c2160 := hI160.c2
                have c3160 := hI160.c3
                have c4160 := hI160.c4
                have c5160 := hI160.c5
                have c8160 := hI160.c8
                have f160 := hI160.f
                obtain ⟨At160, nt160, ct160, hct160, hSt160⟩ := hI160.ct
                obtain ⟨Aa160, na160, ca160, hca160, hSa160⟩ := hI160.ca
                try clear c0150 c1150 c2150 c3150 c4150 c5150 c8150 f150 hct150 hca150
                go_wp2_with fail
                go_roundg k
                case measure => exact Nat.lt_succ_self _
                case rel => exact ⟨mv p126 1, s127, tl128, th129, H, ⟨hI160⟩, ⟨hF160⟩⟩
    | false =>
      replace H := H.ff
      obtain ⟨t161, A162, HN⟩ := H.bind; clear H; have H := HN; clear HN
      go_wp2_with fail
      refine (Hl.atCS_calls (show Hl _ l z b B 179 EA p s rt tg tl th al ah from by repeat (first | exact hI123 | apply Hl.drewN | apply Hl.drew | apply Hl.alloc | (apply Hl.setText; case hS => first | assumption | exact Sv.nil _ _) | (apply Hl.setAttr; case hS => first | assumption | exact Sv.nil _ _) | (apply Hl.setTextS; case hb => exact sel_of (by assumption)) | (apply Hl.setAttrS; case hb => exact sel_of (by assumption)) | apply Hl.setTag | apply Hl.setRaw | apply Hl.setTmpl)) (lit_at (by simp) [100, 111, 99, 116, 121, 112, 101]) t161 A162).mono ?_
      rintro e w163 ⟨rfl, hI163, k163⟩
      have hF163 := (show Fr l z w0 _ by repeat (first | exact hF123 | apply Fr.drewN | apply Fr.drew | apply Fr.alloc | apply Fr.setl)).trans k163
      have c0163 := hI163.c0
      have c1163 := hI163.c1
      have c2163 := hI163.c2
      have c3163 := hI163.c3
      have c4163 := hI163.c4
      have c5163 := hI163.c5
      have c8163 := hI163.c8
      have f163 := hI163.f
      obtain ⟨At163, nt163, ct163, hct163, hSt163⟩ := hI163.ct
      obtain ⟨Aa163, na163, ca163, hca163, hSa163⟩ := hI163.ca
      try clear c0123 c1123 c2123 c3123 c4123 c5123 c8123 f123 hct123 hca123
      cases t161 with
      | true =>
        replace H := H.tt
        go_wp2_with fail
        refine (Hl.Move_calls hI163 7).mono ?_
        rintro e w164 ⟨rfl, hI164, k164⟩
        have hF164 := hF163.trans k164
        have c0164 := hI164.c0
        have c1164 := hI164.c1
        have c2164 := hI164.c2
        have c3164 := hI164.c3
        have c4164 := hI164.c4
        have c5164 := hI164.c5
        have c8164 := hI164.c8
        have f164 := hI164.f
        obtain ⟨At164, nt164, ct164, hct164, hSt164⟩ := hI164.ct
        obtain ⟨Aa164, na164, ca164, hca164, hSa164⟩ := hI164.ca
        try clear c0163 c1163 c2163 c3163 c4163 c5163 c8163 f163 hct163 hca163
        obtain ⟨c165, A166, HN⟩ := H.bind; clear H; have H := HN; clear HN
        go_wp2_with fail
        refine (Hl.Peek_calls hI164 0 c165 A166).mono ?_
        rintro e w' ⟨rfl, rfl⟩
        obtain ⟨p170, H1, HC167⟩ := H.bind; clear H
        go_upto_if 166 with fail
        go_cut [] (fun w' => Hd (Hl w' l z b B 179 EA p170 s rt tg tl th al ah) ∧ Hd (Fr l z w0 w'))
        case first =>
          have H := H1; clear H1
          by_cases e168 : (c165 == 32) = true
          · 
            replace H := H.pos e168
            have e168n : (c165 != 32) = false := by simp only [bne, e168, Bool.not_true]
            go_wp2_with fail
            refine (Hl.Move_calls hI164 1).mono ?_
            rintro e w169 ⟨rfl, hI169, k169⟩
            have hF169 := hF164.trans k169
            have c0169 := hI169.c0
            have c1169 := hI169.c1
            have c2169 := hI169.c2
            have c3169 := hI169.c3
            have c4169 := hI169.c4
            have c5169 := hI169.c5
            have c8169 := hI169.c8
            have f169 := hI169.f
            obtain ⟨At169, nt169, ct169, hct169, hSt169⟩ := hI169.ct
            obtain ⟨Aa169, na169, ca169, hca169, hSa169⟩ := hI169.ca
            try clear c0164 c1164 c2164 c3164 c4164 c5164 c8164 f164 hct164 hca164
            obtain rfl := H.p1
            go_wp2_with fail
            go_meet
            case rel => exact ⟨⟨hI169⟩, ⟨hF169⟩⟩
          ·
            replace H := H.neg e168
            replace e168 := Bool.eq_false_iff.mpr e168
            have e168n : (c165 != 32) = true := by simp only [bne, e168, Bool.not_false]
            obtain rfl := H.p1
            go_wp2_with fail
            go_meet
            case rel => exact ⟨⟨hI164⟩, ⟨hF164⟩⟩
        case rest =>
          obtain ⟨gI, gF⟩ := hcut
          have hI171 := gI.out; have hF171 := gF.out; clear gI gF
          have c0171 := hI171.c0
          have c1171 := hI171.c1
          have c2171 := hI171.c2
          have c3171 := hI171.c3
          have c4171 := hI171.c4
          have c5171 := hI171.c5
          have c8171 := hI171.c8
          have f171 := hI171.f
          obtain ⟨At171, nt171, ct171, hct171, hSt171⟩ := hI171.ct
          obtain ⟨Aa171, na171, ca171, hca171, hSa171⟩ := hI171.ca
          try clear c0164 c1164 c2164 c3164 c4164 c5164 c8164 f164 hct164 hca164
          have H := HC167; clear HC167 H1
          have H1 := H; clear H
          go_wp2_with fail
          go_loopg [] K (fun gk w' => ∃ (p173 : Int), ∃ (s174 : Int), ∃ (tl175 : Int), ∃ (th176 : Int), Hd (hreadMarkup.l2 K B gk p173 s174 tl175 th176 = some (r0, r1, r2, r3, r4, r5, r6)) ∧ Hd (Hl w' l z b B 179 EA p173 s174 rt tg tl175 th176 al ah) ∧ Hd (Fr l z w0 w'))
          case atStart => exact ⟨p170, s, tl, th, H1, ⟨hI171⟩, ⟨hF171⟩⟩
          case round =>
            clear H1
            obtain ⟨p173, s174, tl175, th176, H, gI, gF⟩ := hrel
            have hI177 := gI.out; have hF177 := gF.out; clear gI gF
            have c0177 := hI177.c0
            have c1177 := hI177.c1
            have c2177 := hI177.c2
            have c3177 := hI177.c3
            have c4177 := hI177.c4
            have c5177 := hI177.c5
            have c8177 := hI177.c8
            have f177 := hI177.f
            obtain ⟨At177, nt177, ct177, hct177, hSt177⟩ := hI177.ct
            obtain ⟨Aa177, na177, ca177, hca177, hSa177⟩ := hI177.ca
            try clear c0171 c1171 c2171 c3171 c4171 c5171 c8171 f171 hct171 hca171
            cases gk with
            | zero => exact absurd H.out (by simp [hreadMarkup.l2])
            | succ k =>
              simp only [hreadMarkup.l2] at H
              obtain ⟨c178, A179, HN⟩ := H.bind; clear H; have H := HN; clear HN
              go_wp2_with fail
              refine (Hl.Peek_calls hI177 0 c178 A179).mono ?_
              rintro e w' ⟨rfl, rfl⟩
              generalize hb180 : ((c178 == 62) || ((c178 == 0) && (atEnd B p173 0))) = b186 at H
              have HB180 := Hd.mk hb180; clear hb180
              go_upto_region 30 with fail
              go_cut [190] (fun v190 w' => v190 = .bool b186 ∧ Hd (Hl w' l z b B 179 EA p173 s174 rt tg tl175 th176 al ah) ∧ Hd (Fr l z w0 w'))
              case first =>
                clear H
                by_cases e181 : (c178 == 62) = true
                · 
                  have e181n : (c178 != 62) = false := by simp only [bne, e181, Bool.not_true]
                  go_wp2_with fail
                  go_meet
                  case rel => exact ⟨by rw [← HB180.out, e181]; first | rfl | simp, ⟨hI177⟩, ⟨hF177⟩⟩
                ·
                  replace e181 := Bool.eq_false_iff.mpr e181
                  have e181n : (c178 != 62) = true := by simp only [bne, e181, Bool.not_false]
                  by_cases e182 : (c178 == 0) = true
                  · 
                    have e182n : (c178 != 0) = false := by simp only [bne, e182, Bool.not_true]
                    by_cases e183 : (atEnd B p173 0) = true
                    · 
                      go_wp2_with fail
                      refine (Hl.Err_end_calls hI177 e183).mono ?_
                      rintro e w184 ⟨rfl, hI184, k184⟩
                      have hF184 := hF177.trans k184
                      have c0184 := hI184.c0
                      have c1184 := hI184.c1
                      have c2184 := hI184.c2
                      have c3184 := hI184.c3
                      have c4184 := hI184.c4
                      have c5184 := hI184.c5
                      have c8184 := hI184.c8
                      have f184 := hI184.f
                      obtain ⟨At184, nt184, ct184, hct184, hSt184⟩ := hI184.ct
                      obtain ⟨Aa184, na184, ca184, hca184, hSa184⟩ := hI184.ca
                      try clear c0177 c1177 c2177 c3177 c4177 c5177 c8177 f177 hct177 hca177
                      go_wp2_with fail
                      go_meet
                      case rel => exact ⟨by rw [← HB180.out, e181, e182, e183]; first | rfl | simp, ⟨hI184⟩, ⟨hF184⟩⟩
                    ·
                      replace e183 := Bool.eq_false_iff.mpr e183
                      go_wp2_with fail
                      refine (Hl.Err_not_calls hI177 e183).mono ?_
                      rintro e w185 ⟨rfl, hI185, k185⟩
                      have hF185 := hF177.trans k185
                      have c0185 := hI185.c0
                      have c1185 := hI185.c1
                      have c2185 := hI185.c2
                      have c3185 := hI185.c3
                      have c4185 := hI185.c4
                      have c5185 := hI185.c5
                      have c8185 := hI185.c8
                      have f185 := hI185.f
                      obtain ⟨At185, nt185, ct185, hct185, hSt185⟩ := hI185.ct
                      obtain ⟨Aa185, na185, ca185, hca185, hSa185⟩ := hI185.ca
                      try clear c0177 c1177 c2177 c3177 c4177 c5177 c8177 f177 hct177 hca177
                      go_wp2_with fail
                      go_meet
                      case rel => exact ⟨by rw [← HB180.out, e181, e182, e183]; first | rfl | simp, ⟨hI185⟩, ⟨hF185⟩⟩
                  ·
                    replace e182 := Bool.eq_false_iff.mpr e182
                    have e182n : (c178 != 0) = true := by simp only [bne, e182, Bool.not_false]
                    go_wp2_with fail
                    go_meet
                    case rel => exact ⟨by rw [← HB180.out, e181, e182]; first | rfl | simp, ⟨hI177⟩, ⟨hF177⟩⟩
              case rest =>
                obtain ⟨rfl, gI, gF⟩ := hcut
                have hI187 := gI.out; have hF187 := gF.out; clear gI gF
                have c0187 := hI187.c0
                have c1187 := hI187.c1
                have c2187 := hI187.c2
                have c3187 := hI187.c3
                have c4187 := hI187.c4
                have c5187 := hI187.c5
                have c8187 := hI187.c8
                have f187 := hI187.f
                obtain ⟨At187, nt187, ct187, hct187, hSt187⟩ := hI187.ct
                obtain ⟨Aa187, na187, ca187, hca187, hSa187⟩ := hI187.ca
                try clear c0177 c1177 c2177 c3177 c4177 c5177 c8177 f177 hct177 hca177
                cases b186 with
                | true =>
                  replace H := H.tt
                  obtain ⟨u188, A189, HN⟩ := H.bind; clear H; have H := HN; clear HN
                  go_wp2_with fail
                  refine (Hl.LexemeV_calls hI187 u188 A189).mono ?_
                  rintro e w190 ⟨⟨A191, n191, c191, rfl, hS191⟩, hI190, k190⟩
                  have hF190 := hF187.trans k190
                  have c0190 := hI190.c0
                  have c1190 := hI190.c1
                  have c2190 := hI190.c2
                  have c3190 := hI190.c3
                  have c4190 := hI190.c4
                  have c5190 := hI190.c5
                  have c8190 := hI190.c8
                  have f190 := hI190.f
                  obtain ⟨At190, nt190, ct190, hct190, hSt190⟩ := hI190.ct
                  obtain ⟨Aa190, na190, ca190, hca190, hSa190⟩ := hI190.ca
                  try clear c0187 c1187 c2187 c3187 c4187 c5187 c8187 f187 hct187 hca187
                  obtain ⟨u192, AA192, HN⟩ := H.bind; clear H; have H := HN; clear HN
                  obtain ⟨A192, n192, c192, hS192, hq192⟩ := cut_lo hS191 9 u192 AA192
                  obtain ⟨p196, H1, HC193⟩ := H.bind; clear H
                  go_upto_if 201 with fail
                  go_cut [] (fun w' => Hd (Hl w' l z b B 179 EA p196 s174 rt tg (s174 + 9) p173 al ah) ∧ Hd (Fr l z w0 w'))
                  case first =>
                    have H := H1; clear H1
                    by_cases e194 : (c178 == 62) = true
                    · 
                      replace H := H.pos e194
                      have e194n : (c178 != 62) = false := by simp only [bne, e194, Bool.not_true]
                      go_wp2_with fail
                      refine (Hl.Move_calls (show Hl _ l z b B 179 EA p173 s174 rt tg (s174 + 9) p173 al ah from by repeat (first | exact hI190 | apply Hl.drewN | apply Hl.drew | apply Hl.alloc | (apply Hl.setText; case hS => first | assumption | exact Sv.nil _ _) | (apply Hl.setAttr; case hS => first | assumption | exact Sv.nil _ _) | (apply Hl.setTextS; case hb => exact sel_of (by assumption)) | (apply Hl.setAttrS; case hb => exact sel_of (by assumption)) | apply Hl.setTag | apply Hl.setRaw | apply Hl.setTmpl)) 1).mono ?_
                      rintro e w195 ⟨rfl, hI195, k195⟩
                      have hF195 := (show Fr l z w0 _ by repeat (first | exact hF190 | apply Fr.drewN | apply Fr.drew | apply Fr.alloc | apply Fr.setl)).trans k195
                      have c0195 := hI195.c0
                      have c1195 := hI195.c1
                      have c2195 := hI195.c2
                      have c3195 := hI195.c3
                      have c4195 := hI195.c4
                      have c5195 := hI195.c5
                      have c8195 := hI195.c8
                      have f195 := hI195.f
                      obtain ⟨At195, nt195, ct195, hct195, hSt195⟩ := hI195.ct
                      obtain ⟨Aa195, na195, ca195, hca195, hSa195⟩ := hI195.ca
                      try clear c0190 c1190 c2190 c3190 c4190 c5190 c8190 f190 hct190 hca190
                      obtain rfl := H.p1
                      go_wp2_with fail
                      go_meet
                      case rel => exact ⟨⟨hI195⟩, ⟨hF195⟩⟩
                    ·
                      replace H := H.neg e194
                      replace e194 := Bool.eq_false_iff.mpr e194
                      have e194n : (c178 != 62) = true := by simp only [bne, e194, Bool.not_false]
                      obtain rfl := H.p1
                      go_wp2_with fail
                      go_meet
                      case rel => exact ⟨⟨(show Hl _ l z b B 179 EA p173 s174 rt tg (s174 + 9) p173 al ah from by repeat (first | exact hI190 | apply Hl.drewN | apply Hl.drew | apply Hl.alloc | (apply Hl.setText; case hS => first | assumption | exact Sv.nil _ _) | (apply Hl.setAttr; case hS => first | assumption | exact Sv.nil _ _) | (apply Hl.setTextS; case hb => exact sel_of (by assumption)) | (apply Hl.setAttrS; case hb => exact sel_of (by assumption)) | apply Hl.setTag | apply Hl.setRaw | apply Hl.setTmpl))⟩, ⟨(show Fr l z w0 _ from by repeat (first | exact hF190 | apply Fr.drewN | apply Fr.drew | apply Fr.alloc | apply Fr.setl))⟩⟩
                  case rest =>
                    obtain ⟨gI, gF⟩ := hcut
                    have hI197 := gI.out; have hF197 := gF.out; clear gI gF
                    have c0197 := hI197.c0
                    have c1197 := hI197.c1
                    have c2197 := hI197.c2
                    have c3197 := hI197.c3
                    have c4197 := hI197.c4
                    have c5197 := hI197.c5
                    have c8197 := hI197.c8
                    have f197 := hI197.f
                    obtain ⟨At197, nt197, ct197, hct197, hSt197⟩ := hI197.ct
                    obtain ⟨Aa197, na197, ca197, hca197, hSa197⟩ := hI197.ca
                    try clear c0190 c1190 c2190 c3190 c4190 c5190 c8190 f190 hct190 hca190
                    have H := HC193; clear HC193 H1
                    obtain ⟨u198, A199, HN⟩ := H.bind; clear H; have H := HN; clear HN
                    go_wp2_with fail
                    refine (Hl.Shift_calls hI197 u198 A199).mono ?_
                    rintro e w200 ⟨rfl, hI200, k200⟩
                    have hF200 := hF197.trans k200
                    have c0200 := hI200.c0
                    have c1200 := hI200.c1
                    have c2200 := hI200.c2
                    have c3200 := hI200.c3
                    have c4200 := hI200.c4
                    have c5200 := hI200.c5
                    have c8200 := hI200.c8
                    have f200 := hI200.f
                    obtain ⟨At200, nt200, ct200, hct200, hSt200⟩ := hI200.ct
                    obtain ⟨Aa200, na200, ca200, hca200, hSa200⟩ := hI200.ca
                    try clear c0197 c1197 c2197 c3197 c4197 c5197 c8197 f197 hct197 hca197
                    go_wp2_with fail
                    go_ret2
                    obtain ⟨rfl, rfl, rfl, rfl, rfl, rfl, rfl⟩ := H.p7
                    exact ⟨(by first | rfl | simp), hI200, hF200⟩
                | false =>
                  replace H := H.ff
                  go_wp2_with fail
                  refine (Hl.Move_calls hI187 1).mono ?_
                  rintro e w201 ⟨rfl, hI201, k201⟩
                  have hF201 := hF187.trans k201
                  have c0201 := hI201.c0
                  have c1201 := hI201.c1
                  have c2201 := hI201.c2
                  have c3201 := hI201.c3
                  have c4201 := hI201.c4
                  have c5201 := hI201.c5
                  have c8201 := hI201.c8
                  have f201 := hI201.f
                  obtain ⟨At201, nt201, ct201, hct201, hSt201⟩ := hI201.ct
                  obtain ⟨Aa201, na201, ca201, hca201, hSa201⟩ := hI201.ca
                  try clear c0187 c1187 c2187 c3187 c4187 c5187 c8187 f187 hct187 hca187
                  go_wp2_with fail
                  go_roundg k
                  case measure => exact Nat.lt_succ_self _
                  case rel => exact ⟨mv p173 1, s174, tl175, th176, H, ⟨hI201⟩, ⟨hF201⟩⟩
      | false =>
        replace H := H.ff
        exact H.no
end Go.Proofs.YtfcedenofbefcaaGreatDoor
