import Derived.Test.YteonakpgenkhkaaDoorL21h
namespace Go.Proofs.YteonakpgenkhkaaDoor
open Go.RowKit
set_option linter.unusedVariables false
set_option linter.unusedSimpArgs false
/-! (*loop.example/pub-g01476/pub/tdcss.Lexer).Next -/
def NextWs.l0 (K : Nat) (B : List Int) (s : Int) : Nat → Int → Option (Int)
  | 0, _ => none
  | k + 1, p691 =>
    (consumeWhitespace.f B p691 s).bind fun (t693, p694) =>
    if t693 = true then (NextWs.l0 K B s k p694) else
    some p694
def NextWs.f (K : Nat) (B : List Int) (p : Int) (s : Int) : Option (Int × Int × Int × Int × Int) :=
(NextWs.l0 K B s K (mv p 1)).bind fun p697 =>
(sel B p697 s).bind fun u699 =>
some (20, s, p697, p697, p697)
set_option maxHeartbeats 8000000 in
set_option maxRecDepth 100000 in
theorem NextWs.calls32 (K : Nat) {w0 : World} {l z b : Nat} {B : List Int} {EA : Addr} {p s : Int} (hI0 : Lx w0 l z b B 80 EA p s) (r0 : Int) (r1 : Int) (r2 : Int) (r3 : Int) (r4 : Int) (hpk : Hd (pk B p 0 = some 32)) (H : Hd (NextWs.f K B p s = some (r0, r1, r2, r3, r4))) :
    Calls Tryd.prog 31 #[.pointer (some ⟨l, 0, none⟩)] w0 fun e w' => e = .returned (.tuple #[.int .u32 r0, nxv b r0 r1 r2]) ∧ Lx w' l z b B 80 EA r3 r4 ∧ Fr z w0 w' := by
  have hF0 := Fr.refl z w0
  have hl0 := hI0.cl
  unfold NextWs.f at H
  go_enter Tryd.func31, Tryd.ntmps31
  go_wp2_with fail
  refine (Peek_calls hI0 0 32 hpk).mono ?_
  rintro e w' ⟨rfl, rfl⟩
  go_wp2_with fail
  refine (Move_calls hI0 1).mono ?_
  rintro e w689 ⟨rfl, hI689, k689⟩
  have hF689 := hF0.trans k689
  have hl689 := hI689.cl
  obtain ⟨p697, H1, HC690⟩ := H.bind; clear H
  go_upto_block 1 with fail
  go_cut [] (fun w' => Hd (Lx w' l z b B 80 EA p697 s) ∧ Hd (Fr z w0 w'))
  case first =>
    go_wp2_with fail
    go_loopg [] K (fun gk w' => ∃ (p691 : Int), Hd (NextWs.l0 K B s gk p691 = some p697) ∧ Hd (Lx w' l z b B 80 EA p691 s) ∧ Hd (Fr z w0 w'))
    case atStart => exact ⟨mv p 1, H1, ⟨hI689⟩, ⟨hF689⟩⟩
    case round =>
      clear H1
      obtain ⟨p691, H, gI, gF⟩ := hrel
      have hI692 := gI.out; have hF692 := gF.out; clear gI gF
      have hl692 := hI692.cl
      cases gk with
      | zero => exact absurd H.out (by simp [NextWs.l0])
      | succ k =>
        simp only [NextWs.l0] at H
        obtain ⟨⟨t693, p694⟩, A695, HN⟩ := H.bind; clear H; have H := HN; clear HN
        try dsimp only at H
        go_wp2_with fail
        refine (consumeWhitespace.calls hI692  t693 p694 A695).mono ?_
        rintro e w696 ⟨rfl, hI696, k696⟩
        have hF696 := hF692.trans k696
        have hl696 := hI696.cl
        cases t693 with
        | true =>
          replace H := H.tt
          go_wp2_with fail
          go_roundg k
          case measure => exact Nat.lt_succ_self _
          case rel => exact ⟨p694, H, ⟨hI696⟩, ⟨hF696⟩⟩
        | false =>
          replace H := H.ff
          obtain rfl := H.p1
          go_wp2_with fail
          go_meet
          case rel => exact ⟨⟨hI696⟩, ⟨hF696⟩⟩
  case rest =>
    obtain ⟨gI, gF⟩ := hcut
    have hI698 := gI.out; have hF698 := gF.out; clear gI gF
    have hl698 := hI698.cl
    have H := HC690; clear HC690 H1
    obtain ⟨u699, A700, HN⟩ := H.bind; clear H; have H := HN; clear HN
    go_wp2_with fail
    refine (Shift_calls hI698 u699 A700).mono ?_
    rintro e w701 ⟨rfl, hI701, k701⟩
    have hF701 := hF698.trans k701
    have hl701 := hI701.cl
    go_wp2_with fail
    go_ret2
    obtain ⟨rfl, rfl, rfl, rfl, rfl⟩ := H.p5
    exact ⟨(by first | rfl | (simp only [nxv, *]; done) | (simp [nxv, *]; done)), hI701, hF701⟩

set_option maxHeartbeats 8000000 in
set_option maxRecDepth 100000 in
theorem NextWs.calls9 (K : Nat) {w0 : World} {l z b : Nat} {B : List Int} {EA : Addr} {p s : Int} (hI0 : Lx w0 l z b B 80 EA p s) (r0 : Int) (r1 : Int) (r2 : Int) (r3 : Int) (r4 : Int) (hpk : Hd (pk B p 0 = some 9)) (H : Hd (NextWs.f K B p s = some (r0, r1, r2, r3, r4))) :
    Calls Tryd.prog 31 #[.pointer (some ⟨l, 0, none⟩)] w0 fun e w' => e = .returned (.tuple #[.int .u32 r0, nxv b r0 r1 r2]) ∧ Lx w' l z b B 80 EA r3 r4 ∧ Fr z w0 w' := by
  have hF0 := Fr.refl z w0
  have hl0 := hI0.cl
  unfold NextWs.f at H
  go_enter Tryd.func31, Tryd.ntmps31
  go_wp2_with fail
  refine (Peek_calls hI0 0 9 hpk).mono ?_
  rintro e w' ⟨rfl, rfl⟩
  go_wp2_with fail
  refine (Move_calls hI0 1).mono ?_
  rintro e w702 ⟨rfl, hI702, k702⟩
  have hF702 := hF0.trans k702
  have hl702 := hI702.cl
  obtain ⟨p710, H1, HC703⟩ := H.bind; clear H
  go_upto_block 1 with fail
  go_cut [] (fun w' => Hd (Lx w' l z b B 80 EA p710 s) ∧ Hd (Fr z w0 w'))
  case first =>
    go_wp2_with fail
    go_loopg [] K (fun gk w' => ∃ (p704 : Int), Hd (NextWs.l0 K B s gk p704 = some p710) ∧ Hd (Lx w' l z b B 80 EA p704 s) ∧ Hd (Fr z w0 w'))
    case atStart => exact ⟨mv p 1, H1, ⟨hI702⟩, ⟨hF702⟩⟩
    case round =>
      clear H1
      obtain ⟨p704, H, gI, gF⟩ := hrel
      have hI705 := gI.out; have hF705 := gF.out; clear gI gF
      have hl705 := hI705.cl
      cases gk with
      | zero => exact absurd H.out (by simp [NextWs.l0])
      | succ k =>
        simp only [NextWs.l0] at H
        obtain ⟨⟨t706, p707⟩, A708, HN⟩ := H.bind; clear H; have H := HN; clear HN
        try dsimp only at H
        go_wp2_with fail
        refine (consumeWhitespace.calls hI705  t706 p707 A708).mono ?_
        rintro e w709 ⟨rfl, hI709, k709⟩
        have hF709 := hF705.trans k709
        have hl709 := hI709.cl
        cases t706 with
        | true =>
          replace H := H.tt
          go_wp2_with fail
          go_roundg k
          case measure => exact Nat.lt_succ_self _
          case rel => exact ⟨p707, H, ⟨hI709⟩, ⟨hF709⟩⟩
        | false =>
          replace H := H.ff
          obtain rfl := H.p1
          go_wp2_with fail
          go_meet
          case rel => exact ⟨⟨hI709⟩, ⟨hF709⟩⟩
  case rest =>
    obtain ⟨gI, gF⟩ := hcut
    have hI711 := gI.out; have hF711 := gF.out; clear gI gF
    have hl711 := hI711.cl
    have H := HC703; clear HC703 H1
    obtain ⟨u712, A713, HN⟩ := H.bind; clear H; have H := HN; clear HN
    go_wp2_with fail
    refine (Shift_calls hI711 u712 A713).mono ?_
    rintro e w714 ⟨rfl, hI714, k714⟩
    have hF714 := hF711.trans k714
    have hl714 := hI714.cl
    go_wp2_with fail
    go_ret2
    obtain ⟨rfl, rfl, rfl, rfl, rfl⟩ := H.p5
    exact ⟨(by first | rfl | (simp only [nxv, *]; done) | (simp [nxv, *]; done)), hI714, hF714⟩

set_option maxHeartbeats 8000000 in
set_option maxRecDepth 100000 in
theorem NextWs.calls10 (K : Nat) {w0 : World} {l z b : Nat} {B : List Int} {EA : Addr} {p s : Int} (hI0 : Lx w0 l z b B 80 EA p s) (r0 : Int) (r1 : Int) (r2 : Int) (r3 : Int) (r4 : Int) (hpk : Hd (pk B p 0 = some 10)) (H : Hd (NextWs.f K B p s = some (r0, r1, r2, r3, r4))) :
    Calls Tryd.prog 31 #[.pointer (some ⟨l, 0, none⟩)] w0 fun e w' => e = .returned (.tuple #[.int .u32 r0, nxv b r0 r1 r2]) ∧ Lx w' l z b B 80 EA r3 r4 ∧ Fr z w0 w' := by
  have hF0 := Fr.refl z w0
  have hl0 := hI0.cl
  unfold NextWs.f at H
  go_enter Tryd.func31, Tryd.ntmps31
  go_wp2_with fail
  refine (Peek_calls hI0 0 10 hpk).mono ?_
  rintro e w' ⟨rfl, rfl⟩
  go_wp2_with fail
  refine (Move_calls hI0 1).mono ?_
  rintro e w715 ⟨rfl, hI715, k715⟩
  have hF715 := hF0.trans k715
  have hl715 := hI715.cl
  obtain ⟨p723, H1, HC716⟩ := H.bind; clear H
  go_upto_block 1 with fail
  go_cut [] (fun w' => Hd (Lx w' l z b B 80 EA p723 s) ∧ Hd (Fr z w0 w'))
  case first =>
    go_wp2_with fail
    go_loopg [] K (fun gk w' => ∃ (p717 : Int), Hd (NextWs.l0 K B s gk p717 = some p723) ∧ Hd (Lx w' l z b B 80 EA p717 s) ∧ Hd (Fr z w0 w'))
    case atStart => exact ⟨mv p 1, H1, ⟨hI715⟩, ⟨hF715⟩⟩
    case round =>
      clear H1
      obtain ⟨p717, H, gI, gF⟩ := hrel
      have hI718 := gI.out; have hF718 := gF.out; clear gI gF
      have hl718 := hI718.cl
      cases gk with
      | zero => exact absurd H.out (by simp [NextWs.l0])
      | succ k =>
        simp only [NextWs.l0] at H
        obtain ⟨⟨t719, p720⟩, A721, HN⟩ := H.bind; clear H; have H := HN; clear HN
        try dsimp only at H
        go_wp2_with fail
        refine (consumeWhitespace.calls hI718  t719 p720 A721).mono ?_
        rintro e w722 ⟨rfl, hI722, k722⟩
        have hF722 := hF718.trans k722
        have hl722 := hI722.cl
        cases t719 with
        | true =>
          replace H := H.tt
          go_wp2_with fail
          go_roundg k
          case measure => exact Nat.lt_succ_self _
          case rel => exact ⟨p720, H, ⟨hI722⟩, ⟨hF722⟩⟩
        | false =>
          replace H := H.ff
          obtain rfl := H.p1
          go_wp2_with fail
          go_meet
          case rel => exact ⟨⟨hI722⟩, ⟨hF722⟩⟩
  case rest =>
    obtain ⟨gI, gF⟩ := hcut
    have hI724 := gI.out; have hF724 := gF.out; clear gI gF
    have hl724 := hI724.cl
    have H := HC716; clear HC716 H1
    obtain ⟨u725, A726, HN⟩ := H.bind; clear H; have H := HN; clear HN
    go_wp2_with fail
    refine (Shift_calls hI724 u725 A726).mono ?_
    rintro e w727 ⟨rfl, hI727, k727⟩
    have hF727 := hF724.trans k727
    have hl727 := hI727.cl
    go_wp2_with fail
    go_ret2
    obtain ⟨rfl, rfl, rfl, rfl, rfl⟩ := H.p5
    exact ⟨(by first | rfl | (simp only [nxv, *]; done) | (simp [nxv, *]; done)), hI727, hF727⟩

set_option maxHeartbeats 8000000 in
set_option maxRecDepth 100000 in
theorem NextWs.calls13 (K : Nat) {w0 : World} {l z b : Nat} {B : List Int} {EA : Addr} {p s : Int} (hI0 : Lx w0 l z b B 80 EA p s) (r0 : Int) (r1 : Int) (r2 : Int) (r3 : Int) (r4 : Int) (hpk : Hd (pk B p 0 = some 13)) (H : Hd (NextWs.f K B p s = some (r0, r1, r2, r3, r4))) :
    Calls Tryd.prog 31 #[.pointer (some ⟨l, 0, none⟩)] w0 fun e w' => e = .returned (.tuple #[.int .u32 r0, nxv b r0 r1 r2]) ∧ Lx w' l z b B 80 EA r3 r4 ∧ Fr z w0 w' := by
  have hF0 := Fr.refl z w0
  have hl0 := hI0.cl
  unfold NextWs.f at H
  go_enter Tryd.func31, Tryd.ntmps31
  go_wp2_with fail
  refine (Peek_calls hI0 0 13 hpk).mono ?_
  rintro e w' ⟨rfl, rfl⟩
  go_wp2_with fail
  refine (Move_calls hI0 1).mono ?_
  rintro e w728 ⟨rfl, hI728, k728⟩
  have hF728 := hF0.trans k728
  have hl728 := hI728.cl
  obtain ⟨p736, H1, HC729⟩ := H.bind; clear H
  go_upto_block 1 with fail
  go_cut [] (fun w' => Hd (Lx w' l z b B 80 EA p736 s) ∧ Hd (Fr z w0 w'))
  case first =>
    go_wp2_with fail
    go_loopg [] K (fun gk w' => ∃ (p730 : Int), Hd (NextWs.l0 K B s gk p730 = some p736) ∧ Hd (Lx w' l z b B 80 EA p730 s) ∧ Hd (Fr z w0 w'))
    case atStart => exact ⟨mv p 1, H1, ⟨hI728⟩, ⟨hF728⟩⟩
    case round =>
      clear H1
      obtain ⟨p730, H, gI, gF⟩ := hrel
      have hI731 := gI.out; have hF731 := gF.out; clear gI gF
      have hl731 := hI731.cl
      cases gk with
      | zero => exact absurd H.out (by simp [NextWs.l0])
      | succ k =>
        simp only [NextWs.l0] at H
        obtain ⟨⟨t732, p733⟩, A734, HN⟩ := H.bind; clear H; have H := HN; clear HN
        try dsimp only at H
        go_wp2_with fail
        refine (consumeWhitespace.calls hI731  t732 p733 A734).mono ?_
        rintro e w735 ⟨rfl, hI735, k735⟩
        have hF735 := hF731.trans k735
        have hl735 := hI735.cl
        cases t732 with
        | true =>
          replace H := H.tt
          go_wp2_with fail
          go_roundg k
          case measure => exact Nat.lt_succ_self _
          case rel => exact ⟨p733, H, ⟨hI735⟩, ⟨hF735⟩⟩
        | false =>
          replace H := H.ff
          obtain rfl := H.p1
          go_wp2_with fail
          go_meet
          case rel => exact ⟨⟨hI735⟩, ⟨hF735⟩⟩
  case rest =>
    obtain ⟨gI, gF⟩ := hcut
    have hI737 := gI.out; have hF737 := gF.out; clear gI gF
    have hl737 := hI737.cl
    have H := HC729; clear HC729 H1
    obtain ⟨u738, A739, HN⟩ := H.bind; clear H; have H := HN; clear HN
    go_wp2_with fail
    refine (Shift_calls hI737 u738 A739).mono ?_
    rintro e w740 ⟨rfl, hI740, k740⟩
    have hF740 := hF737.trans k740
    have hl740 := hI740.cl
    go_wp2_with fail
    go_ret2
    obtain ⟨rfl, rfl, rfl, rfl, rfl⟩ := H.p5
    exact ⟨(by first | rfl | (simp only [nxv, *]; done) | (simp [nxv, *]; done)), hI740, hF740⟩

set_option maxHeartbeats 8000000 in
set_option maxRecDepth 100000 in
theorem NextWs.calls12 (K : Nat) {w0 : World} {l z b : Nat} {B : List Int} {EA : Addr} {p s : Int} (hI0 : Lx w0 l z b B 80 EA p s) (r0 : Int) (r1 : Int) (r2 : Int) (r3 : Int) (r4 : Int) (hpk : Hd (pk B p 0 = some 12)) (H : Hd (NextWs.f K B p s = some (r0, r1, r2, r3, r4))) :
    Calls Tryd.prog 31 #[.pointer (some ⟨l, 0, none⟩)] w0 fun e w' => e = .returned (.tuple #[.int .u32 r0, nxv b r0 r1 r2]) ∧ Lx w' l z b B 80 EA r3 r4 ∧ Fr z w0 w' := by
  have hF0 := Fr.refl z w0
  have hl0 := hI0.cl
  unfold NextWs.f at H
  go_enter Tryd.func31, Tryd.ntmps31
  go_wp2_with fail
  refine (Peek_calls hI0 0 12 hpk).mono ?_
  rintro e w' ⟨rfl, rfl⟩
  go_wp2_with fail
  refine (Move_calls hI0 1).mono ?_
  rintro e w741 ⟨rfl, hI741, k741⟩
  have hF741 := hF0.trans k741
  have hl741 := hI741.cl
  obtain ⟨p749, H1, HC742⟩ := H.bind; clear H
  go_upto_block 1 with fail
  go_cut [] (fun w' => Hd (Lx w' l z b B 80 EA p749 s) ∧ Hd (Fr z w0 w'))
  case first =>
    go_wp2_with fail
    go_loopg [] K (fun gk w' => ∃ (p743 : Int), Hd (NextWs.l0 K B s gk p743 = some p749) ∧ Hd (Lx w' l z b B 80 EA p743 s) ∧ Hd (Fr z w0 w'))
    case atStart => exact ⟨mv p 1, H1, ⟨hI741⟩, ⟨hF741⟩⟩
    case round =>
      clear H1
      obtain ⟨p743, H, gI, gF⟩ := hrel
      have hI744 := gI.out; have hF744 := gF.out; clear gI gF
      have hl744 := hI744.cl
      cases gk with
      | zero => exact absurd H.out (by simp [NextWs.l0])
      | succ k =>
        simp only [NextWs.l0] at H
        obtain ⟨⟨t745, p746⟩, A747, HN⟩ := H.bind; clear H; have H := HN; clear HN
        try dsimp only at H
        go_wp2_with fail
        refine (consumeWhitespace.calls hI744  t745 p746 A747).mono ?_
        rintro e w748 ⟨rfl, hI748, k748⟩
        have hF748 := hF744.trans k748
        have hl748 := hI748.cl
        cases t745 with
        | true =>
          replace H := H.tt
          go_wp2_with fail
          go_roundg k
          case measure => exact Nat.lt_succ_self _
          case rel => exact ⟨p746, H, ⟨hI748⟩, ⟨hF748⟩⟩
        | false =>
          replace H := H.ff
          obtain rfl := H.p1
          go_wp2_with fail
          go_meet
          case rel => exact ⟨⟨hI748⟩, ⟨hF748⟩⟩
  case rest =>
    obtain ⟨gI, gF⟩ := hcut
    have hI750 := gI.out; have hF750 := gF.out; clear gI gF
    have hl750 := hI750.cl
    have H := HC742; clear HC742 H1
    obtain ⟨u751, A752, HN⟩ := H.bind; clear H; have H := HN; clear HN
    go_wp2_with fail
    refine (Shift_calls hI750 u751 A752).mono ?_
    rintro e w753 ⟨rfl, hI753, k753⟩
    have hF753 := hF750.trans k753
    have hl753 := hI753.cl
    go_wp2_with fail
    go_ret2
    obtain ⟨rfl, rfl, rfl, rfl, rfl⟩ := H.p5
    exact ⟨(by first | rfl | (simp only [nxv, *]; done) | (simp [nxv, *]; done)), hI753, hF753⟩

/-! (*loop.example/pub-g01476/pub/tdcss.Lexer).Next -/
def NextColon.f (B : List Int) (p : Int) (s : Int) : Option (Int × Int × Int × Int × Int) :=
(sel B (mv p 1) s).bind fun u755 =>
some (23, s, mv p 1, mv p 1, mv p 1)
set_option maxHeartbeats 8000000 in
set_option maxRecDepth 100000 in
theorem NextColon.calls58 {w0 : World} {l z b : Nat} {B : List Int} {EA : Addr} {p s : Int} (hI0 : Lx w0 l z b B 80 EA p s) (r0 : Int) (r1 : Int) (r2 : Int) (r3 : Int) (r4 : Int) (hpk : Hd (pk B p 0 = some 58)) (H : Hd (NextColon.f B p s = some (r0, r1, r2, r3, r4))) :
    Calls Tryd.prog 31 #[.pointer (some ⟨l, 0, none⟩)] w0 fun e w' => e = .returned (.tuple #[.int .u32 r0, nxv b r0 r1 r2]) ∧ Lx w' l z b B 80 EA r3 r4 ∧ Fr z w0 w' := by
  have hF0 := Fr.refl z w0
  have hl0 := hI0.cl
  unfold NextColon.f at H
  go_enter Tryd.func31, Tryd.ntmps31
  go_wp2_with fail
  refine (Peek_calls hI0 0 58 hpk).mono ?_
  rintro e w' ⟨rfl, rfl⟩
  go_wp2_with fail
  refine (Move_calls hI0 1).mono ?_
  rintro e w754 ⟨rfl, hI754, k754⟩
  have hF754 := hF0.trans k754
  have hl754 := hI754.cl
  obtain ⟨u755, A756, HN⟩ := H.bind; clear H; have H := HN; clear HN
  go_wp2_with fail
  refine (Shift_calls hI754 u755 A756).mono ?_
  rintro e w757 ⟨rfl, hI757, k757⟩
  have hF757 := hF754.trans k757
  have hl757 := hI757.cl
  go_wp2_with fail
  go_ret2
  obtain ⟨rfl, rfl, rfl, rfl, rfl⟩ := H.p5
  exact ⟨(by first | rfl | (simp only [nxv, *]; done) | (simp [nxv, *]; done)), hI757, hF757⟩

/-! (*loop.example/pub-g01476/pub/tdcss.Lexer).Next -/
def NextSemi.f (B : List Int) (p : Int) (s : Int) : Option (Int × Int × Int × Int × Int) :=
(sel B (mv p 1) s).bind fun u759 =>
some (24, s, mv p 1, mv p 1, mv p 1)
set_option maxHeartbeats 8000000 in
set_option maxRecDepth 100000 in
theorem NextSemi.calls59 {w0 : World} {l z b : Nat} {B : List Int} {EA : Addr} {p s : Int} (hI0 : Lx w0 l z b B 80 EA p s) (r0 : Int) (r1 : Int) (r2 : Int) (r3 : Int) (r4 : Int) (hpk : Hd (pk B p 0 = some 59)) (H : Hd (NextSemi.f B p s = some (r0, r1, r2, r3, r4))) :
    Calls Tryd.prog 31 #[.pointer (some ⟨l, 0, none⟩)] w0 fun e w' => e = .returned (.tuple #[.int .u32 r0, nxv b r0 r1 r2]) ∧ Lx w' l z b B 80 EA r3 r4 ∧ Fr z w0 w' := by
  have hF0 := Fr.refl z w0
  have hl0 := hI0.cl
  unfold NextSemi.f at H
  go_enter Tryd.func31, Tryd.ntmps31
  go_wp2_with fail
  refine (Peek_calls hI0 0 59 hpk).mono ?_
  rintro e w' ⟨rfl, rfl⟩
  go_wp2_with fail
  refine (Move_calls hI0 1).mono ?_
  rintro e w758 ⟨rfl, hI758, k758⟩
  have hF758 := hF0.trans k758
  have hl758 := hI758.cl
  obtain ⟨u759, A760, HN⟩ := H.bind; clear H; have H := HN; clear HN
  go_wp2_with fail
  refine (Shift_calls hI758 u759 A760).mono ?_
  rintro e w761 ⟨rfl, hI761, k761⟩
  have hF761 := hF758.trans k761
  have hl761 := hI761.cl
  go_wp2_with fail
  go_ret2
  obtain ⟨rfl, rfl, rfl, rfl, rfl⟩ := H.p5
  exact ⟨(by first | rfl | (simp only [nxv, *]; done) | (simp [nxv, *]; done)), hI761, hF761⟩

/-! (*loop.example/pub-g01476/pub/tdcss.Lexer).Next -/
def NextComma.f (B : List Int) (p : Int) (s : Int) : Option (Int × Int × Int × Int × Int) :=
(sel B (mv p 1) s).bind fun u763 =>
some (25, s, mv p 1, mv p 1, mv p 1)
set_option maxHeartbeats 8000000 in
set_option maxRecDepth 100000 in
theorem NextComma.calls44 {w0 : World} {l z b : Nat} {B : List Int} {EA : Addr} {p s : Int} (hI0 : Lx w0 l z b B 80 EA p s) (r0 : Int) (r1 : Int) (r2 : Int) (r3 : Int) (r4 : Int) (hpk : Hd (pk B p 0 = some 44)) (H : Hd (NextComma.f B p s = some (r0, r1, r2, r3, r4))) :
    Calls Tryd.prog 31 #[.pointer (some ⟨l, 0, none⟩)] w0 fun e w' => e = .returned (.tuple #[.int .u32 r0, nxv b r0 r1 r2]) ∧ Lx w' l z b B 80 EA r3 r4 ∧ Fr z w0 w' := by
  have hF0 := Fr.refl z w0
  have hl0 := hI0.cl
  unfold NextComma.f at H
  go_enter Tryd.func31, Tryd.ntmps31
  go_wp2_with fail
  refine (Peek_calls hI0 0 44 hpk).mono ?_
  rintro e w' ⟨rfl, rfl⟩
  go_wp2_with fail
  refine (Move_calls hI0 1).mono ?_
  rintro e w762 ⟨rfl, hI762, k762⟩
  have hF762 := hF0.trans k762
  have hl762 := hI762.cl
  obtain ⟨u763, A764, HN⟩ := H.bind; clear H; have H := HN; clear HN
  go_wp2_with fail
  refine (Shift_calls hI762 u763 A764).mono ?_
  rintro e w765 ⟨rfl, hI765, k765⟩
  have hF765 := hF762.trans k765
  have hl765 := hI765.cl
  go_wp2_with fail
  go_ret2
  obtain ⟨rfl, rfl, rfl, rfl, rfl⟩ := H.p5
  exact ⟨(by first | rfl | (simp only [nxv, *]; done) | (simp [nxv, *]; done)), hI765, hF765⟩

/-! (*loop.example/pub-g01476/pub/tdcss.Lexer).Next -/
def NextBrack.f (B : List Int) (p : Int) (s : Int) : Option (Int × Int × Int × Int × Int) :=
(consumeBracket.f B p s).bind fun (x766, p767) =>
if (x766 == 0) = true then ((sel B (mv p767 1) s).bind fun u772 =>
some (9, s, mv p767 1, mv p767 1, mv p767 1)) else
(sel B p767 s).bind fun u775 =>
some (x766, s, p767, p767, p767)
set_option maxHeartbeats 8000000 in
set_option maxRecDepth 100000 in
theorem NextBrack.calls40 {w0 : World} {l z b : Nat} {B : List Int} {EA : Addr} {p s : Int} (hI0 : Lx w0 l z b B 80 EA p s) (r0 : Int) (r1 : Int) (r2 : Int) (r3 : Int) (r4 : Int) (hpk : Hd (pk B p 0 = some 40)) (H : Hd (NextBrack.f B p s = some (r0, r1, r2, r3, r4))) :
    Calls Tryd.prog 31 #[.pointer (some ⟨l, 0, none⟩)] w0 fun e w' => e = .returned (.tuple #[.int .u32 r0, nxv b r0 r1 r2]) ∧ Lx w' l z b B 80 EA r3 r4 ∧ Fr z w0 w' := by
  have hF0 := Fr.refl z w0
  have hl0 := hI0.cl
  unfold NextBrack.f at H
  go_enter Tryd.func31, Tryd.ntmps31
  go_wp2_with fail
  refine (Peek_calls hI0 0 40 hpk).mono ?_
  rintro e w' ⟨rfl, rfl⟩
  obtain ⟨⟨x766, p767⟩, A768, HN⟩ := H.bind; clear H; have H := HN; clear HN
  try dsimp only at H
  go_wp2_with fail
  refine (consumeBracket.calls hI0  x766 p767 A768).mono ?_
  rintro e w769 ⟨rfl, hI769, k769⟩
  have hF769 := hF0.trans k769
  have hl769 := hI769.cl
  by_cases e770 : (x766 == 0) = true
  · 
    replace H := H.pos e770
    have e770n : (x766 != 0) = false := by simp only [bne, e770, Bool.not_true]
    go_wp2_with fail
    refine (Move_calls hI769 1).mono ?_
    rintro e w771 ⟨rfl, hI771, k771⟩
    have hF771 := hF769.trans k771
    have hl771 := hI771.cl
    obtain ⟨u772, A773, HN⟩ := H.bind; clear H; have H := HN; clear HN
    go_wp2_with fail
    refine (Shift_calls hI771 u772 A773).mono ?_
    rintro e w774 ⟨rfl, hI774, k774⟩
    have hF774 := hF771.trans k774
    have hl774 := hI774.cl
    go_wp2_with fail
    go_ret2
    obtain ⟨rfl, rfl, rfl, rfl, rfl⟩ := H.p5
    exact ⟨(by first | rfl | (simp only [nxv, *]; done) | (simp [nxv, *]; done)), hI774, hF774⟩
  ·
    replace H := H.neg e770
    replace e770 := Bool.eq_false_iff.mpr e770
    have e770n : (x766 != 0) = true := by simp only [bne, e770, Bool.not_false]
    obtain ⟨u775, A776, HN⟩ := H.bind; clear H; have H := HN; clear HN
    go_wp2_with fail
    refine (Shift_calls hI769 u775 A776).mono ?_
    rintro e w777 ⟨rfl, hI777, k777⟩
    have hF777 := hF769.trans k777
    have hl777 := hI777.cl
    go_wp2_with fail
    go_ret2
    obtain ⟨rfl, rfl, rfl, rfl, rfl⟩ := H.p5
    exact ⟨(by first | rfl | (simp only [nxv, *]; done) | (simp [nxv, *]; done)), hI777, hF777⟩

set_option maxHeartbeats 8000000 in
set_option maxRecDepth 100000 in
theorem NextBrack.calls41 {w0 : World} {l z b : Nat} {B : List Int} {EA : Addr} {p s : Int} (hI0 : Lx w0 l z b B 80 EA p s) (r0 : Int) (r1 : Int) (r2 : Int) (r3 : Int) (r4 : Int) (hpk : Hd (pk B p 0 = some 41)) (H : Hd (NextBrack.f B p s = some (r0, r1, r2, r3, r4))) :
    Calls Tryd.prog 31 #[.pointer (some ⟨l, 0, none⟩)] w0 fun e w' => e = .returned (.tuple #[.int .u32 r0, nxv b r0 r1 r2]) ∧ Lx w' l z b B 80 EA r3 r4 ∧ Fr z w0 w' := by
  have hF0 := Fr.refl z w0
  have hl0 := hI0.cl
  unfold NextBrack.f at H
  go_enter Tryd.func31, Tryd.ntmps31
  go_wp2_with fail
  refine (Peek_calls hI0 0 41 hpk).mono ?_
  rintro e w' ⟨rfl, rfl⟩
  obtain ⟨⟨x778, p779⟩, A780, HN⟩ := H.bind; clear H; have H := HN; clear HN
  try dsimp only at H
  go_wp2_with fail
  refine (consumeBracket.calls hI0  x778 p779 A780).mono ?_
  rintro e w781 ⟨rfl, hI781, k781⟩
  have hF781 := hF0.trans k781
  have hl781 := hI781.cl
  by_cases e782 : (x778 == 0) = true
  · 
    replace H := H.pos e782
    have e782n : (x778 != 0) = false := by simp only [bne, e782, Bool.not_true]
    go_wp2_with fail
    refine (Move_calls hI781 1).mono ?_
    rintro e w783 ⟨rfl, hI783, k783⟩
    have hF783 := hF781.trans k783
    have hl783 := hI783.cl
    obtain ⟨u784, A785, HN⟩ := H.bind; clear H; have H := HN; clear HN
    go_wp2_with fail
    refine (Shift_calls hI783 u784 A785).mono ?_
    rintro e w786 ⟨rfl, hI786, k786⟩
    have hF786 := hF783.trans k786
    have hl786 := hI786.cl
    go_wp2_with fail
    go_ret2
    obtain ⟨rfl, rfl, rfl, rfl, rfl⟩ := H.p5
    exact ⟨(by first | rfl | (simp only [nxv, *]; done) | (simp [nxv, *]; done)), hI786, hF786⟩
  ·
    replace H := H.neg e782
    replace e782 := Bool.eq_false_iff.mpr e782
    have e782n : (x778 != 0) = true := by simp only [bne, e782, Bool.not_false]
    obtain ⟨u787, A788, HN⟩ := H.bind; clear H; have H := HN; clear HN
    go_wp2_with fail
    refine (Shift_calls hI781 u787 A788).mono ?_
    rintro e w789 ⟨rfl, hI789, k789⟩
    have hF789 := hF781.trans k789
    have hl789 := hI789.cl
    go_wp2_with fail
    go_ret2
    obtain ⟨rfl, rfl, rfl, rfl, rfl⟩ := H.p5
    exact ⟨(by first | rfl | (simp only [nxv, *]; done) | (simp [nxv, *]; done)), hI789, hF789⟩

set_option maxHeartbeats 8000000 in
set_option maxRecDepth 100000 in
theorem NextBrack.calls91 {w0 : World} {l z b : Nat} {B : List Int} {EA : Addr} {p s : Int} (hI0 : Lx w0 l z b B 80 EA p s) (r0 : Int) (r1 : Int) (r2 : Int) (r3 : Int) (r4 : Int) (hpk : Hd (pk B p 0 = some 91)) (H : Hd (NextBrack.f B p s = some (r0, r1, r2, r3, r4))) :
    Calls Tryd.prog 31 #[.pointer (some ⟨l, 0, none⟩)] w0 fun e w' => e = .returned (.tuple #[.int .u32 r0, nxv b r0 r1 r2]) ∧ Lx w' l z b B 80 EA r3 r4 ∧ Fr z w0 w' := by
  have hF0 := Fr.refl z w0
  have hl0 := hI0.cl
  unfold NextBrack.f at H
  go_enter Tryd.func31, Tryd.ntmps31
  go_wp2_with fail
  refine (Peek_calls hI0 0 91 hpk).mono ?_
  rintro e w' ⟨rfl, rfl⟩
  obtain ⟨⟨x790, p791⟩, A792, HN⟩ := H.bind; clear H; have H := HN; clear HN
  try dsimp only at H
  go_wp2_with fail
  refine (consumeBracket.calls hI0  x790 p791 A792).mono ?_
  rintro e w793 ⟨rfl, hI793, k793⟩
  have hF793 := hF0.trans k793
  have hl793 := hI793.cl
  by_cases e794 : (x790 == 0) = true
  · 
    replace H := H.pos e794
    have e794n : (x790 != 0) = false := by simp only [bne, e794, Bool.not_true]
    go_wp2_with fail
    refine (Move_calls hI793 1).mono ?_
    rintro e w795 ⟨rfl, hI795, k795⟩
    have hF795 := hF793.trans k795
    have hl795 := hI795.cl
    obtain ⟨u796, A797, HN⟩ := H.bind; clear H; have H := HN; clear HN
    go_wp2_with fail
    refine (Shift_calls hI795 u796 A797).mono ?_
    rintro e w798 ⟨rfl, hI798, k798⟩
    have hF798 := hF795.trans k798
    have hl798 := hI798.cl
    go_wp2_with fail
    go_ret2
    obtain ⟨rfl, rfl, rfl, rfl, rfl⟩ := H.p5
    exact ⟨(by first | rfl | (simp only [nxv, *]; done) | (simp [nxv, *]; done)), hI798, hF798⟩
  ·
    replace H := H.neg e794
    replace e794 := Bool.eq_false_iff.mpr e794
    have e794n : (x790 != 0) = true := by simp only [bne, e794, Bool.not_false]
    obtain ⟨u799, A800, HN⟩ := H.bind; clear H; have H := HN; clear HN
    go_wp2_with fail
    refine (Shift_calls hI793 u799 A800).mono ?_
    rintro e w801 ⟨rfl, hI801, k801⟩
    have hF801 := hF793.trans k801
    have hl801 := hI801.cl
    go_wp2_with fail
    go_ret2
    obtain ⟨rfl, rfl, rfl, rfl, rfl⟩ := H.p5
    exact ⟨(by first | rfl | (simp only [nxv, *]; done) | (simp [nxv, *]; done)), hI801, hF801⟩

set_option maxHeartbeats 8000000 in
set_option maxRecDepth 100000 in
theorem NextBrack.calls93 {w0 : World} {l z b : Nat} {B : List Int} {EA : Addr} {p s : Int} (hI0 : Lx w0 l z b B 80 EA p s) (r0 : Int) (r1 : Int) (r2 : Int) (r3 : Int) (r4 : Int) (hpk : Hd (pk B p 0 = some 93)) (H : Hd (NextBrack.f B p s = some (r0, r1, r2, r3, r4))) :
    Calls Tryd.prog 31 #[.pointer (some ⟨l, 0, none⟩)] w0 fun e w' => e = .returned (.tuple #[.int .u32 r0, nxv b r0 r1 r2]) ∧ Lx w' l z b B 80 EA r3 r4 ∧ Fr z w0 w' := by
  have hF0 := Fr.refl z w0
  have hl0 := hI0.cl
  unfold NextBrack.f at H
  go_enter Tryd.func31, Tryd.ntmps31
  go_wp2_with fail
  refine (Peek_calls hI0 0 93 hpk).mono ?_
  rintro e w' ⟨rfl, rfl⟩
  obtain ⟨⟨x802, p803⟩, A804, HN⟩ := H.bind; clear H; have H := HN; clear HN
  try dsimp only at H
  go_wp2_with fail
  refine (consumeBracket.calls hI0  x802 p803 A804).mono ?_
  rintro e w805 ⟨rfl, hI805, k805⟩
  have hF805 := hF0.trans k805
  have hl805 := hI805.cl
  by_cases e806 : (x802 == 0) = true
  · 
    replace H := H.pos e806
    have e806n : (x802 != 0) = false := by simp only [bne, e806, Bool.not_true]
    go_wp2_with fail
    refine (Move_calls hI805 1).mono ?_
    rintro e w807 ⟨rfl, hI807, k807⟩
    have hF807 := hF805.trans k807
    have hl807 := hI807.cl
    obtain ⟨u808, A809, HN⟩ := H.bind; clear H; have H := HN; clear HN
    go_wp2_with fail
    refine (Shift_calls hI807 u808 A809).mono ?_
    rintro e w810 ⟨rfl, hI810, k810⟩
    have hF810 := hF807.trans k810
    have hl810 := hI810.cl
    go_wp2_with fail
    go_ret2
    obtain ⟨rfl, rfl, rfl, rfl, rfl⟩ := H.p5
    exact ⟨(by first | rfl | (simp only [nxv, *]; done) | (simp [nxv, *]; done)), hI810, hF810⟩
  ·
    replace H := H.neg e806
    replace e806 := Bool.eq_false_iff.mpr e806
    have e806n : (x802 != 0) = true := by simp only [bne, e806, Bool.not_false]
    obtain ⟨u811, A812, HN⟩ := H.bind; clear H; have H := HN; clear HN
    go_wp2_with fail
    refine (Shift_calls hI805 u811 A812).mono ?_
    rintro e w813 ⟨rfl, hI813, k813⟩
    have hF813 := hF805.trans k813
    have hl813 := hI813.cl
    go_wp2_with fail
    go_ret2
    obtain ⟨rfl, rfl, rfl, rfl, rfl⟩ := H.p5
    exact ⟨(by first | rfl | (simp only [nxv, *]; done) | (simp [nxv, *]; done)), hI813, hF813⟩

set_option maxHeartbeats 8000000 in
set_option maxRecDepth 100000 in
theorem NextBrack.calls123 {w0 : World} {l z b : Nat} {B : List Int} {EA : Addr} {p s : Int} (hI0 : Lx w0 l z b B 80 EA p s) (r0 : Int) (r1 : Int) (r2 : Int) (r3 : Int) (r4 : Int) (hpk : Hd (pk B p 0 = some 123)) (H : Hd (NextBrack.f B p s = some (r0, r1, r2, r3, r4))) :
    Calls Tryd.prog 31 #[.pointer (some ⟨l, 0, none⟩)] w0 fun e w' => e = .returned (.tuple #[.int .u32 r0, nxv b r0 r1 r2]) ∧ Lx w' l z b B 80 EA r3 r4 ∧ Fr z w0 w' := by
  have hF0 := Fr.refl z w0
  have hl0 := hI0.cl
  unfold NextBrack.f at H
  go_enter Tryd.func31, Tryd.ntmps31
  go_wp2_with fail
  refine (Peek_calls hI0 0 123 hpk).mono ?_
  rintro e w' ⟨rfl, rfl⟩
  obtain ⟨⟨x814, p815⟩, A816, HN⟩ := H.bind; clear H; have H := HN; clear HN
  try dsimp only at H
  go_wp2_with fail
  refine (consumeBracket.calls hI0  x814 p815 A816).mono ?_
  rintro e w817 ⟨rfl, hI817, k817⟩
  have hF817 := hF0.trans k817
  have hl817 := hI817.cl
  by_cases e818 : (x814 == 0) = true
  · 
    replace H := H.pos e818
    have e818n : (x814 != 0) = false := by simp only [bne, e818, Bool.not_true]
    go_wp2_with fail
    refine (Move_calls hI817 1).mono ?_
    rintro e w819 ⟨rfl, hI819, k819⟩
    have hF819 := hF817.trans k819
    have hl819 := hI819.cl
    obtain ⟨u820, A821, HN⟩ := H.bind; clear H; have H := HN; clear HN
    go_wp2_with fail
    refine (Shift_calls hI819 u820 A821).mono ?_
    rintro e w822 ⟨rfl, hI822, k822⟩
    have hF822 := hF819.trans k822
    have hl822 := hI822.cl
    go_wp2_with fail
    go_ret2
    obtain ⟨rfl, rfl, rfl, rfl, rfl⟩ := H.p5
    exact ⟨(by first | rfl | (simp only [nxv, *]; done) | (simp [nxv, *]; done)), hI822, hF822⟩
  ·
    replace H := H.neg e818
    replace e818 := Bool.eq_false_iff.mpr e818
    have e818n : (x814 != 0) = true := by simp only [bne, e818, Bool.not_false]
    obtain ⟨u823, A824, HN⟩ := H.bind; clear H; have H := HN; clear HN
    go_wp2_with fail
    refine (Shift_calls hI817 u823 A824).mono ?_
    rintro e w825 ⟨rfl, hI825, k825⟩
    have hF825 := hF817.trans k825
    have hl825 := hI825.cl
    go_wp2_with fail
    go_ret2
    obtain ⟨rfl, rfl, rfl, rfl, rfl⟩ := H.p5
    exact ⟨(by first | rfl | (simp only [nxv, *]; done) | (simp [nxv, *]; done)), hI825, hF825⟩

set_option maxHeartbeats 8000000 in
set_option maxRecDepth 100000 in
theorem NextBrack.calls125 {w0 : World} {l z b : Nat} {B : List Int} {EA : Addr} {p s : Int} (hI0 : Lx w0 l z b B 80 EA p s) (r0 : Int) (r1 : Int) (r2 : Int) (r3 : Int) (r4 : Int) (hpk : Hd (pk B p 0 = some 125)) (H : Hd (NextBrack.f B p s = some (r0, r1, r2, r3, r4))) :
    Calls Tryd.prog 31 #[.pointer (some ⟨l, 0, none⟩)] w0 fun e w' => e = .returned (.tuple #[.int .u32 r0, nxv b r0 r1 r2]) ∧ Lx w' l z b B 80 EA r3 r4 ∧ Fr z w0 w' := by
  have hF0 := Fr.refl z w0
  have hl0 := hI0.cl
  unfold NextBrack.f at H
  go_enter Tryd.func31, Tryd.ntmps31
  go_wp2_with fail
  refine (Peek_calls hI0 0 125 hpk).mono ?_
  rintro e w' ⟨rfl, rfl⟩
  obtain ⟨⟨x826, p827⟩, A828, HN⟩ := H.bind; clear H; have H := HN; clear HN
  try dsimp only at H
  go_wp2_with fail
  refine (consumeBracket.calls hI0  x826 p827 A828).mono ?_
  rintro e w829 ⟨rfl, hI829, k829⟩
  have hF829 := hF0.trans k829
  have hl829 := hI829.cl
  by_cases e830 : (x826 == 0) = true
  · 
    replace H := H.pos e830
    have e830n : (x826 != 0) = false := by simp only [bne, e830, Bool.not_true]
    go_wp2_with fail
    refine (Move_calls hI829 1).mono ?_
    rintro e w831 ⟨rfl, hI831, k831⟩
    have hF831 := hF829.trans k831
    have hl831 := hI831.cl
    obtain ⟨u832, A833, HN⟩ := H.bind; clear H; have H := HN; clear HN
    go_wp2_with fail
    refine (Shift_calls hI831 u832 A833).mono ?_
    rintro e w834 ⟨rfl, hI834, k834⟩
    have hF834 := hF831.trans k834
    have hl834 := hI834.cl
    go_wp2_with fail
    go_ret2
    obtain ⟨rfl, rfl, rfl, rfl, rfl⟩ := H.p5
    exact ⟨(by first | rfl | (simp only [nxv, *]; done) | (simp [nxv, *]; done)), hI834, hF834⟩
  ·
    replace H := H.neg e830
    replace e830 := Bool.eq_false_iff.mpr e830
    have e830n : (x826 != 0) = true := by simp only [bne, e830, Bool.not_false]
    obtain ⟨u835, A836, HN⟩ := H.bind; clear H; have H := HN; clear HN
    go_wp2_with fail
    refine (Shift_calls hI829 u835 A836).mono ?_
    rintro e w837 ⟨rfl, hI837, k837⟩
    have hF837 := hF829.trans k837
    have hl837 := hI837.cl
    go_wp2_with fail
    go_ret2
    obtain ⟨rfl, rfl, rfl, rfl, rfl⟩ := H.p5
    exact ⟨(by first | rfl | (simp only [nxv, *]; done) | (simp [nxv, *]; done)), hI837, hF837⟩
end Go.Proofs.YteonakpgenkhkaaDoor
