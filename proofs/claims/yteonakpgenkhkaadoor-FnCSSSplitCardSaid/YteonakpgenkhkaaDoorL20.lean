import Derived.Test.YteonakpgenkhkaaDoorL19
import Derived.Test.YteonakpgenkhkaaDoorL2C
import Derived.Deep.RegionWith
namespace Go.Proofs.YteonakpgenkhkaaDoor
open Go.RowKit
set_option linter.unusedVariables false
set_option linter.unusedSimpArgs false

/-! (*loop.example/pub-g01476/pub/tdcss.Lexer).consumeIdentlike -/
def consumeIdentlike.l0 (K : Nat) (B : List Int) (s : Int) : Nat → Int → Option (Int)
  | 0, _ => none
  | k + 1, p624 =>
    (consumeWhitespace.f B p624 s).bind fun (t626, p627) =>
    if t626 = true then (consumeIdentlike.l0 K B s k p627) else
    some p627
def consumeIdentlike.l1 (K : Nat) (B : List Int) (s : Int) : Nat → Int → Option (Int)
  | 0, _ => none
  | k + 1, p664 =>
    (consumeWhitespace.f B p664 s).bind fun (t666, p667) =>
    if t666 = true then (consumeIdentlike.l1 K B s k p667) else
    some p667
def consumeIdentlike.f (K : Nat) (B : List Int) (p : Int) (s : Int) : Option (Int × Int) :=
(consumeIdentToken.f K B p s).bind fun (t607, p608) =>
if t607 = true then ((pk B p608 0).bind fun c611 =>
if (c611 == 40) = true then ((sel B p608 s).bind fun u614 =>
(strip B s p608).bind fun S617 =>
if (foldEq2 S617 [117, 114, 108]) = true then ((consumeIdentlike.l0 K B s K (mv p608 1)).bind fun p630 =>
(pk B p630 0).bind fun c632 =>
(if ((c632 == 34) || (c632 == 39)) = true then ((consumeString.f K B p630 s).bind fun (x638, p639) =>
if (x638 == 6) = true then ((consumeRemnantsBadURL.f K B p639 s).bind fun p643 =>
outS ((some (8, p643) : Option (Int × Int)))) else
some (.inr p639)) else
((consumeUnquotedURL.f K B p630 s).bind fun (t647, p648) =>
if t647 = true then (some (false, p648)) else
(consumeWhitespace.f B p648 s).bind fun (t651, p652) =>
some (!t651, p652)).bind fun (b655, p656) =>
if b655 = true then ((consumeRemnantsBadURL.f K B p656 s).bind fun p658 =>
outS ((some (8, p658) : Option (Int × Int)))) else
some (.inr p656)).bind fun o => joinS o some fun p661 =>
(consumeIdentlike.l1 K B s K p661).bind fun p670 =>
((consumeByte.f B p670 s 41).bind fun (t673, p674) =>
if t673 = true then (some (false, p674)) else
if (atEnd B p674 0) = true then (some (false, p674)) else
some (true, p674)).bind fun (b680, p681) =>
if b680 = true then ((consumeRemnantsBadURL.f K B p681 s).bind fun p683 =>
some (8, p683)) else
some (7, p681)) else
some (2, mv p608 1)) else
some (1, p608)) else
some (0, p608)
set_option maxHeartbeats 8000000 in
set_option maxRecDepth 100000 in
theorem consumeIdentlike.calls (K : Nat) {w0 : World} {l z b : Nat} {B : List Int} {EA : Addr} {p s : Int} (hI0 : Lx w0 l z b B 80 EA p s) (r0 : Int) (r1 : Int) (H : Hd (consumeIdentlike.f K B p s = some (r0, r1))) :
    Calls Tryd.prog 64 #[.pointer (some ⟨l, 0, none⟩)] w0 fun e w' => e = .returned (.int .u32 r0) ∧ Lx w' l z b B 80 EA r1 s ∧ Fr z w0 w' := by
  have hF0 := Fr.refl z w0
  have hl0 := hI0.cl
  unfold consumeIdentlike.f at H
  go_enter Tryd.func64, Tryd.ntmps64
  obtain ⟨⟨t607, p608⟩, A609, HN⟩ := H.bind; clear H; have H := HN; clear HN
  try dsimp only at H
  go_wp2_with fail
  refine (consumeIdentToken.calls K hI0  t607 p608 A609).mono ?_
  rintro e w610 ⟨rfl, hI610, k610⟩
  have hF610 := hF0.trans k610
  have hl610 := hI610.cl
  cases t607 with
  | true =>
    replace H := H.tt
    obtain ⟨c611, A612, HN⟩ := H.bind; clear H; have H := HN; clear HN
    go_wp2_with fail
    refine (Peek_calls hI610 0 c611 A612).mono ?_
    rintro e w' ⟨rfl, rfl⟩
    by_cases e613 : (c611 == 40) = true
    · 
      replace H := H.pos e613
      have e613n : (c611 != 40) = false := by simp only [bne, e613, Bool.not_true]
      obtain ⟨u614, A615, HN⟩ := H.bind; clear H; have H := HN; clear HN
      go_wp2_with fail
      refine (Lexeme_calls hI610 u614 A615).mono ?_
      rintro e w616 ⟨rfl, hI616, k616⟩
      have hF616 := hF610.trans k616
      have hl616 := hI616.cl
      obtain ⟨S617, A618, HN⟩ := H.bind; clear H; have H := HN; clear HN
      go_wp2_with fail
      refine (Strip86_calls (by repeat (first | exact hI616 | apply Lx.drewN | apply Lx.drew | apply Lx.alloc)) (lit_at (by simp) [92]) S617 A618).mono ?_
      rintro e w619 ⟨⟨A619_, c619_, rfl, hB619_⟩, hI619, k619⟩
      have hF619 := (show Fr z w0 _ by repeat (first | exact hF616 | apply Fr.drewN | apply Fr.drew | apply Fr.alloc)).trans k619
      have hl619 := hI619.cl
      go_wp2_with fail
      refine (Fold85_calls (by repeat (first | exact hI619 | apply Lx.drewN | apply Lx.drew | apply Lx.alloc)) (hB619_.alloc _) (lit_at (by simp) [117, 114, 108])).mono ?_
      rintro e w620 ⟨rfl, hI620, k620⟩
      have hF620 := (show Fr z w0 _ by repeat (first | exact hF619 | apply Fr.drewN | apply Fr.drew | apply Fr.alloc)).trans k620
      have hl620 := hI620.cl
      by_cases e621 : (foldEq2 S617 [117, 114, 108]) = true
      · 
        replace H := H.pos e621
        go_wp2_with fail
        refine (Move_calls hI620 1).mono ?_
        rintro e w622 ⟨rfl, hI622, k622⟩
        have hF622 := hF620.trans k622
        have hl622 := hI622.cl
        obtain ⟨p630, H1, HC623⟩ := H.bind; clear H
        go_upto_block 0 with fail
        go_cut [] (fun w' => Hd (Lx w' l z b B 80 EA p630 s) ∧ Hd (Fr z w0 w'))
        case first =>
          go_wp2_with fail
          go_loopg [] K (fun gk w' => ∃ (p624 : Int), Hd (consumeIdentlike.l0 K B s gk p624 = some p630) ∧ Hd (Lx w' l z b B 80 EA p624 s) ∧ Hd (Fr z w0 w'))
          case atStart => exact ⟨mv p608 1, H1, ⟨hI622⟩, ⟨hF622⟩⟩
          case round =>
            clear H1
            obtain ⟨p624, H, gI, gF⟩ := hrel
            have hI625 := gI.out; have hF625 := gF.out; clear gI gF
            have hl625 := hI625.cl
            cases gk with
            | zero => exact absurd H.out (by simp [consumeIdentlike.l0])
            | succ k =>
              simp only [consumeIdentlike.l0] at H
              obtain ⟨⟨t626, p627⟩, A628, HN⟩ := H.bind; clear H; have H := HN; clear HN
              try dsimp only at H
              go_wp2_with fail
              refine (consumeWhitespace.calls hI625  t626 p627 A628).mono ?_
              rintro e w629 ⟨rfl, hI629, k629⟩
              have hF629 := hF625.trans k629
              have hl629 := hI629.cl
              cases t626 with
              | true =>
                replace H := H.tt
                go_wp2_with fail
                go_roundg k
                case measure => exact Nat.lt_succ_self _
                case rel => exact ⟨p627, H, ⟨hI629⟩, ⟨hF629⟩⟩
              | false =>
                replace H := H.ff
                obtain rfl := H.p1
                go_wp2_with fail
                go_meet
                case rel => exact ⟨⟨hI629⟩, ⟨hF629⟩⟩
        case rest =>
          obtain ⟨gI, gF⟩ := hcut
          have hI631 := gI.out; have hF631 := gF.out; clear gI gF
          have hl631 := hI631.cl
          have H := HC623; clear HC623 H1
          obtain ⟨c632, A633, HN⟩ := H.bind; clear H; have H := HN; clear HN
          go_wp2_with fail
          refine (Peek_calls hI631 0 c632 A633).mono ?_
          rintro e w' ⟨rfl, rfl⟩
          generalize hb634 : ((c632 == 34) || (c632 == 39)) = b636 at H
          have HB634 := Hd.mk hb634; clear hb634
          go_upto_region 10 with fail
          go_cut [44] (fun v44 w' => v44 = .bool b636 ∧ wc = w')
          case first =>
            clear H
            by_cases e635 : (c632 == 34) = true
            · 
              have e635n : (c632 != 34) = false := by simp only [bne, e635, Bool.not_true]
              go_wp2_with fail
              go_meet
              case rel => exact ⟨by rw [← HB634.out, e635]; first | rfl | simp, rfl⟩
            ·
              replace e635 := Bool.eq_false_iff.mpr e635
              have e635n : (c632 != 34) = true := by simp only [bne, e635, Bool.not_false]
              go_wp2_with fail
              go_meet
              case rel => exact ⟨by rw [← HB634.out, e635]; first | rfl | simp, rfl⟩
          case rest =>
            obtain ⟨rfl, rfl⟩ := hcut
            obtain ⟨o637, H1, HC637⟩ := H.bind; clear H
            go_upto_if 44 with fail
            go_cut [] (fun w' => ∃ (p661 : Int), Hd (o637 = .inr p661) ∧ Hd (Lx w' l z b B 80 EA p661 s) ∧ Hd (Fr z w0 w'))
            case first =>
              have H := H1; clear H1
              cases b636 with
              | true =>
                replace H := H.tt
                obtain ⟨⟨x638, p639⟩, A640, HN⟩ := H.bind; clear H; have H := HN; clear HN
                try dsimp only at H
                go_wp2_with fail
                refine (consumeString.calls K hI631  x638 p639 A640).mono ?_
                rintro e w641 ⟨rfl, hI641, k641⟩
                have hF641 := hF631.trans k641
                have hl641 := hI641.cl
                by_cases e642 : (x638 == 6) = true
                · 
                  replace H := H.pos e642
                  have e642n : (x638 != 6) = false := by simp only [bne, e642, Bool.not_true]
                  obtain ⟨p643, A644, HN⟩ := H.bind; clear H; have H := HN; clear HN
                  go_wp2_with fail
                  refine (consumeRemnantsBadURL.calls K hI641  p643 A644).mono ?_
                  rintro e w645 ⟨rfl, hI645, k645⟩
                  have hF645 := hF641.trans k645
                  have hl645 := hI645.cl
                  obtain ⟨x687, hx, H2⟩ := H.outS; clear H; subst hx; have H := HC637.inl H2; clear HC637 H2
                  go_wp2_with fail
                  go_ret
                  obtain ⟨rfl, rfl⟩ := H.p2
                  exact ⟨(by first | rfl | simp), hI645, hF645⟩
                ·
                  replace H := H.neg e642
                  replace e642 := Bool.eq_false_iff.mpr e642
                  have e642n : (x638 != 6) = true := by simp only [bne, e642, Bool.not_false]
                  obtain rfl := H.p1
                  go_wp2_with fail
                  go_meet
                  case rel => exact ⟨p639, ⟨rfl⟩, ⟨hI641⟩, ⟨hF641⟩⟩
              | false =>
                replace H := H.ff
                obtain ⟨⟨b655, p656⟩, H1, HC646⟩ := H.bind; clear H
                try dsimp only at HC646
                go_upto_region 14 with fail
                go_cut [57] (fun v57 w' => v57 = .bool b655 ∧ Hd (Lx w' l z b B 80 EA p656 s) ∧ Hd (Fr z w0 w'))
                case first =>
                  have H := H1; clear H1
                  obtain ⟨⟨t647, p648⟩, A649, HN⟩ := H.bind; clear H; have H := HN; clear HN
                  try dsimp only at H
                  go_wp2_with fail
                  refine (consumeUnquotedURL.calls K hI631  t647 p648 A649).mono ?_
                  rintro e w650 ⟨rfl, hI650, k650⟩
                  have hF650 := hF631.trans k650
                  have hl650 := hI650.cl
                  cases t647 with
                  | true =>
                    replace H := H.tt
                    obtain ⟨rfl, rfl⟩ := H.p2
                    go_wp2_with fail
                    go_meet
                    case rel => exact ⟨(by first | rfl | simp), ⟨hI650⟩, ⟨hF650⟩⟩
                  | false =>
                    replace H := H.ff
                    obtain ⟨⟨t651, p652⟩, A653, HN⟩ := H.bind; clear H; have H := HN; clear HN
                    try dsimp only at H
                    go_wp2_with fail
                    refine (consumeWhitespace.calls hI650  t651 p652 A653).mono ?_
                    rintro e w654 ⟨rfl, hI654, k654⟩
                    have hF654 := hF650.trans k654
                    have hl654 := hI654.cl
                    obtain ⟨rfl, rfl⟩ := H.p2
                    go_wp2_with fail
                    go_meet
                    case rel => exact ⟨(by first | rfl | simp), ⟨hI654⟩, ⟨hF654⟩⟩
                case rest =>
                  obtain ⟨rfl, gI, gF⟩ := hcut
                  have hI657 := gI.out; have hF657 := gF.out; clear gI gF
                  have hl657 := hI657.cl
                  have H := HC646; clear HC646 H1
                  cases b655 with
                  | true =>
                    replace H := H.tt
                    obtain ⟨p658, A659, HN⟩ := H.bind; clear H; have H := HN; clear HN
                    go_wp2_with fail
                    refine (consumeRemnantsBadURL.calls K hI657  p658 A659).mono ?_
                    rintro e w660 ⟨rfl, hI660, k660⟩
                    have hF660 := hF657.trans k660
                    have hl660 := hI660.cl
                    obtain ⟨x688, hx, H2⟩ := H.outS; clear H; subst hx; have H := HC637.inl H2; clear HC637 H2
                    go_wp2_with fail
                    go_ret
                    obtain ⟨rfl, rfl⟩ := H.p2
                    exact ⟨(by first | rfl | simp), hI660, hF660⟩
                  | false =>
                    replace H := H.ff
                    obtain rfl := H.p1
                    go_wp2_with fail
                    go_meet
                    case rel => exact ⟨p656, ⟨rfl⟩, ⟨hI657⟩, ⟨hF657⟩⟩
            case rest =>
              obtain ⟨p661, ho, gI, gF⟩ := hcut
              have hI662 := gI.out; have hF662 := gF.out; clear gI gF
              have hl662 := hI662.cl
              have ho := ho.out; subst ho; have H := HC637.inrS; clear HC637 H1
              obtain ⟨p670, H1, HC663⟩ := H.bind; clear H
              go_upto_block 2 with fail
              go_cut [] (fun w' => Hd (Lx w' l z b B 80 EA p670 s) ∧ Hd (Fr z w0 w'))
              case first =>
                go_wp2_with fail
                go_loopg [] K (fun gk w' => ∃ (p664 : Int), Hd (consumeIdentlike.l1 K B s gk p664 = some p670) ∧ Hd (Lx w' l z b B 80 EA p664 s) ∧ Hd (Fr z w0 w'))
                case atStart => exact ⟨p661, H1, ⟨hI662⟩, ⟨hF662⟩⟩
                case round =>
                  clear H1
                  obtain ⟨p664, H, gI, gF⟩ := hrel
                  have hI665 := gI.out; have hF665 := gF.out; clear gI gF
                  have hl665 := hI665.cl
                  cases gk with
                  | zero => exact absurd H.out (by simp [consumeIdentlike.l1])
                  | succ k =>
                    simp only [consumeIdentlike.l1] at H
                    obtain ⟨⟨t666, p667⟩, A668, HN⟩ := H.bind; clear H; have H := HN; clear HN
                    try dsimp only at H
                    go_wp2_with fail
                    refine (consumeWhitespace.calls hI665  t666 p667 A668).mono ?_
                    rintro e w669 ⟨rfl, hI669, k669⟩
                    have hF669 := hF665.trans k669
                    have hl669 := hI669.cl
                    cases t666 with
                    | true =>
                      replace H := H.tt
                      go_wp2_with fail
                      go_roundg k
                      case measure => exact Nat.lt_succ_self _
                      case rel => exact ⟨p667, H, ⟨hI669⟩, ⟨hF669⟩⟩
                    | false =>
                      replace H := H.ff
                      obtain rfl := H.p1
                      go_wp2_with fail
                      go_meet
                      case rel => exact ⟨⟨hI669⟩, ⟨hF669⟩⟩
              case rest =>
                obtain ⟨gI, gF⟩ := hcut
                have hI671 := gI.out; have hF671 := gF.out; clear gI gF
                have hl671 := hI671.cl
                have H := HC663; clear HC663 H1
                obtain ⟨⟨b680, p681⟩, H1, HC672⟩ := H.bind; clear H
                try dsimp only at HC672
                go_upto_region 18 with fail
                go_cut [73] (fun v73 w' => v73 = .bool b680 ∧ Hd (Lx w' l z b B 80 EA p681 s) ∧ Hd (Fr z w0 w'))
                case first =>
                  have H := H1; clear H1
                  obtain ⟨⟨t673, p674⟩, A675, HN⟩ := H.bind; clear H; have H := HN; clear HN
                  try dsimp only at H
                  have hq1 := eof_neq EA; have hq2 := nil_neq EA
                  cases t673 with
                  | true =>
                    replace H := H.tt
                    obtain ⟨rfl, rfl⟩ := H.p2
                    go_wp2_with fail
                    refine wp_region_any (by kernel_rfl) ?_
                    try (change wpAny _ _ _ _ _ _ _ (World.drew _))
                    refine wpAny_take (i := 0) (v := .pointer (some ⟨l, 0, none⟩)) rfl (by kernel_rfl) (by kernel_rfl) (by kernel_rfl) (fun _ _ _ h => h) (Or.inl ⟨by rfl, fun w => by go_simp⟩) ?_
                    refine wpAny_ready (rs := [1]) (by kernel_rfl) (by simp) ?_
                    refine AllReady.cons rfl (fun K hK => ?_) AllReady.nil
                    go_simp
                    go_wp2_with ((with_reducible refine (consumeByte.calls (by repeat (first | exact hI671 | apply Lx.drewN | apply Lx.drew | apply Lx.alloc)) 41 true p674 A675).mono ?_); rintro e w1 ⟨rfl, hI1, k1⟩; have hl1 := hI1.cl)
                    refine wpAny_take (i := 2) (v := .bool false) rfl (by kernel_rfl) (by kernel_rfl) (by kernel_rfl) (fun _ _ _ h => h) (Or.inl ⟨by rfl, fun w => by go_simp⟩) ?_
                    refine wpAny_take (i := 3) (v := .bool false) rfl (by kernel_rfl) (by kernel_rfl) (by kernel_rfl) (fun _ _ _ h => h) (Or.inl ⟨by rfl, fun w => by go_simp⟩) ?_
                    refine wpAny_take (i := 4) (v := undef) rfl (by kernel_rfl) (by kernel_rfl) (by kernel_rfl) (fun _ _ _ h => h) (Or.inr ⟨by kernel_rfl, rfl⟩) ?_
                    refine wpAny_take (i := 5) (v := undef) rfl (by kernel_rfl) (by kernel_rfl) (by kernel_rfl) (fun _ _ _ h => h) (Or.inr ⟨by kernel_rfl, rfl⟩) ?_
                    refine wpAny_take (i := 6) (v := undef) rfl (by kernel_rfl) (by kernel_rfl) (by kernel_rfl) (fun _ _ _ h => h) (Or.inr ⟨by kernel_rfl, rfl⟩) ?_
                    refine wpAny_take (i := 7) (v := undef) rfl (by kernel_rfl) (by kernel_rfl) (by kernel_rfl) (fun _ _ _ h => h) (Or.inr ⟨by kernel_rfl, rfl⟩) ?_
                    refine wpAny_take (i := 8) (v := undef) rfl (by kernel_rfl) (by kernel_rfl) (by kernel_rfl) (fun _ _ _ h => h) (Or.inr ⟨by kernel_rfl, rfl⟩) ?_
                    refine wpAny_take (i := 9) (v := undef) rfl (by kernel_rfl) (by kernel_rfl) (by kernel_rfl) (fun _ _ _ h => h) (Or.inr ⟨by kernel_rfl, rfl⟩) ?_
                    refine wpAny_take (i := 10) (v := undef) rfl (by kernel_rfl) (by kernel_rfl) (by kernel_rfl) (fun _ _ _ h => h) (Or.inr ⟨by kernel_rfl, rfl⟩) ?_
                    refine wpAny_take (i := 11) (v := .bool false) rfl (by kernel_rfl) (by kernel_rfl) (by kernel_rfl) (fun _ _ _ h => h) (Or.inl ⟨by rfl, fun w => by go_simp⟩) ?_
                    refine wpAny_done (by kernel_rfl) ?_ _
                    go_simp
                    have hF1 := (show Fr z w0 _ by repeat (first | exact hF671 | apply Fr.drewN | apply Fr.drew | apply Fr.alloc)).trans k1
                    go_wp2_with fail
                    go_meet
                    case rel => exact ⟨(by first | rfl | simp), ⟨(by repeat (first | exact hI1 | apply Lx.drewN | apply Lx.drew | apply Lx.alloc))⟩, ⟨(by repeat (first | exact hF1 | apply Fr.drewN | apply Fr.drew | apply Fr.alloc))⟩⟩
                  | false =>
                    replace H := H.ff
                    by_cases eE : (atEnd B p674 0) = true
                    · replace H := H.pos eE
                      obtain ⟨rfl, rfl⟩ := H.p2
                      have h00 := hI671.eof
                      go_wp2_with fail
                      go_region_with (first | ((with_reducible refine (consumeByte.calls (by repeat (first | exact hI671 | apply Lx.drewN | apply Lx.drew | apply Lx.alloc)) 41 false p674 A675).mono ?_); rintro e w1 ⟨rfl, hI1, k1⟩; have hl1 := hI1.cl; have h01 := hI1.eof) | ((with_reducible refine (Err_end (by repeat (first | exact hI1 | apply Lx.drewN | apply Lx.drew | apply Lx.alloc)) eE).mono ?_); rintro e w2 ⟨rfl, hI2, k2⟩; have h02 := hI2.eof))
                      all_goals
                        have hF1 := (show Fr z w0 _ by repeat (first | exact hF671 | apply Fr.drewN | apply Fr.drew | apply Fr.alloc)).trans k1
                        have hF2 := (show Fr z w0 _ by repeat (first | exact hF1 | apply Fr.drewN | apply Fr.drew | apply Fr.alloc)).trans k2
                        go_wp2_with fail
                        go_meet
                        case rel => exact ⟨(by first | rfl | simp), ⟨(by repeat (first | exact hI2 | apply Lx.drewN | apply Lx.drew | apply Lx.alloc))⟩, ⟨(by repeat (first | exact hF2 | apply Fr.drewN | apply Fr.drew | apply Fr.alloc))⟩⟩
                    · replace H := H.neg eE
                      replace eE := Bool.eq_false_iff.mpr eE
                      obtain ⟨rfl, rfl⟩ := H.p2
                      have h00 := hI671.eof
                      go_wp2_with fail
                      go_region_with (first | ((with_reducible refine (consumeByte.calls (by repeat (first | exact hI671 | apply Lx.drewN | apply Lx.drew | apply Lx.alloc)) 41 false p674 A675).mono ?_); rintro e w1 ⟨rfl, hI1, k1⟩; have hl1 := hI1.cl; have h01 := hI1.eof) | ((with_reducible refine (Err_not (by repeat (first | exact hI1 | apply Lx.drewN | apply Lx.drew | apply Lx.alloc)) eE).mono ?_); rintro e w2 ⟨rfl, hI2, k2⟩; have h02 := hI2.eof))
                      all_goals
                        have hF1 := (show Fr z w0 _ by repeat (first | exact hF671 | apply Fr.drewN | apply Fr.drew | apply Fr.alloc)).trans k1
                        have hF2 := (show Fr z w0 _ by repeat (first | exact hF1 | apply Fr.drewN | apply Fr.drew | apply Fr.alloc)).trans k2
                        go_wp2_with fail
                        go_meet
                        case rel => exact ⟨(by first | rfl | simp), ⟨(by repeat (first | exact hI2 | apply Lx.drewN | apply Lx.drew | apply Lx.alloc))⟩, ⟨(by repeat (first | exact hF2 | apply Fr.drewN | apply Fr.drew | apply Fr.alloc))⟩⟩
                case rest =>
                  obtain ⟨rfl, gI, gF⟩ := hcut
                  have hI682 := gI.out; have hF682 := gF.out; clear gI gF
                  have hl682 := hI682.cl
                  have H := HC672; clear HC672 H1
                  cases b680 with
                  | true =>
                    replace H := H.tt
                    obtain ⟨p683, A684, HN⟩ := H.bind; clear H; have H := HN; clear HN
                    go_wp2_with fail
                    refine (consumeRemnantsBadURL.calls K hI682  p683 A684).mono ?_
                    rintro e w685 ⟨rfl, hI685, k685⟩
                    have hF685 := hF682.trans k685
                    have hl685 := hI685.cl
                    go_wp2_with fail
                    go_ret
                    obtain ⟨rfl, rfl⟩ := H.p2
                    exact ⟨(by first | rfl | simp), hI685, hF685⟩
                  | false =>
                    replace H := H.ff
                    go_wp2_with fail
                    go_ret
                    obtain ⟨rfl, rfl⟩ := H.p2
                    exact ⟨(by first | rfl | simp), hI682, hF682⟩
      ·
        replace H := H.neg e621
        replace e621 := Bool.eq_false_iff.mpr e621
        go_wp2_with fail
        refine (Move_calls hI620 1).mono ?_
        rintro e w686 ⟨rfl, hI686, k686⟩
        have hF686 := hF620.trans k686
        have hl686 := hI686.cl
        go_wp2_with fail
        go_ret
        obtain ⟨rfl, rfl⟩ := H.p2
        exact ⟨(by first | rfl | simp), hI686, hF686⟩
    ·
      replace H := H.neg e613
      replace e613 := Bool.eq_false_iff.mpr e613
      have e613n : (c611 != 40) = true := by simp only [bne, e613, Bool.not_false]
      go_wp2_with fail
      go_ret
      obtain ⟨rfl, rfl⟩ := H.p2
      exact ⟨(by first | rfl | simp), hI610, hF610⟩
  | false =>
    replace H := H.ff
    go_wp2_with fail
    go_ret
    obtain ⟨rfl, rfl⟩ := H.p2
    exact ⟨(by first | rfl | simp), hI610, hF610⟩
end Go.Proofs.YteonakpgenkhkaaDoor
