import Derived.Test.YteonakpgenkhkaaDoorL21h
namespace Go.Proofs.YteonakpgenkhkaaDoor
open Go.RowKit
set_option linter.unusedVariables false
set_option linter.unusedSimpArgs false
/-! (*loop.example/pub-g01476/pub/tdcss.Lexer).Next -/
def NextSlash.f (K : Nat) (B : List Int) (p : Int) (s : Int) : Option (Int × Int × Int × Int × Int) :=
(consumeComment.f K B p s).bind fun (t990, p991) =>
if t990 = true then ((sel B p991 s).bind fun u994 =>
some (32, s, p991, p991, p991)) else
(sel B (mv p991 1) s).bind fun u998 =>
some (9, s, mv p991 1, mv p991 1, mv p991 1)
set_option maxHeartbeats 8000000 in
set_option maxRecDepth 100000 in
theorem NextSlash.calls47 (K : Nat) {w0 : World} {l z b : Nat} {B : List Int} {EA : Addr} {p s : Int} (hI0 : Lx w0 l z b B 80 EA p s) (r0 : Int) (r1 : Int) (r2 : Int) (r3 : Int) (r4 : Int) (hpk : Hd (pk B p 0 = some 47)) (H : Hd (NextSlash.f K B p s = some (r0, r1, r2, r3, r4))) :
    Calls Tryd.prog 31 #[.pointer (some ⟨l, 0, none⟩)] w0 fun e w' => e = .returned (.tuple #[.int .u32 r0, nxv b r0 r1 r2]) ∧ Lx w' l z b B 80 EA r3 r4 ∧ Fr z w0 w' := by
  have hF0 := Fr.refl z w0
  have hl0 := hI0.cl
  unfold NextSlash.f at H
  go_enter Tryd.func31, Tryd.ntmps31
  go_wp2_with fail
  refine (Peek_calls hI0 0 47 hpk).mono ?_
  rintro e w' ⟨rfl, rfl⟩
  obtain ⟨⟨t990, p991⟩, A992, HN⟩ := H.bind; clear H; have H := HN; clear HN
  try dsimp only at H
  go_wp2_with fail
  refine (consumeComment.calls K hI0  t990 p991 A992).mono ?_
  rintro e w993 ⟨rfl, hI993, k993⟩
  have hF993 := hF0.trans k993
  have hl993 := hI993.cl
  cases t990 with
  | true =>
    replace H := H.tt
    obtain ⟨u994, A995, HN⟩ := H.bind; clear H; have H := HN; clear HN
    go_wp2_with fail
    refine (Shift_calls hI993 u994 A995).mono ?_
    rintro e w996 ⟨rfl, hI996, k996⟩
    have hF996 := hF993.trans k996
    have hl996 := hI996.cl
    go_wp2_with fail
    go_ret2
    obtain ⟨rfl, rfl, rfl, rfl, rfl⟩ := H.p5
    exact ⟨(by first | rfl | (simp only [nxv, *]; done) | (simp [nxv, *]; done)), hI996, hF996⟩
  | false =>
    replace H := H.ff
    go_wp2_with fail
    refine (Move_calls hI993 1).mono ?_
    rintro e w997 ⟨rfl, hI997, k997⟩
    have hF997 := hF993.trans k997
    have hl997 := hI997.cl
    obtain ⟨u998, A999, HN⟩ := H.bind; clear H; have H := HN; clear HN
    go_wp2_with fail
    refine (Shift_calls hI997 u998 A999).mono ?_
    rintro e w1000 ⟨rfl, hI1000, k1000⟩
    have hF1000 := hF997.trans k1000
    have hl1000 := hI1000.cl
    go_wp2_with fail
    go_ret2
    obtain ⟨rfl, rfl, rfl, rfl, rfl⟩ := H.p5
    exact ⟨(by first | rfl | (simp only [nxv, *]; done) | (simp [nxv, *]; done)), hI1000, hF1000⟩

/-! (*loop.example/pub-g01476/pub/tdcss.Lexer).Next -/
def NextLess.f (B : List Int) (p : Int) (s : Int) : Option (Int × Int × Int × Int × Int) :=
(consumeCDOToken.f B p s).bind fun (t1001, p1002) =>
if t1001 = true then ((sel B p1002 s).bind fun u1005 =>
some (21, s, p1002, p1002, p1002)) else
(sel B (mv p1002 1) s).bind fun u1009 =>
some (9, s, mv p1002 1, mv p1002 1, mv p1002 1)
set_option maxHeartbeats 8000000 in
set_option maxRecDepth 100000 in
theorem NextLess.calls60 {w0 : World} {l z b : Nat} {B : List Int} {EA : Addr} {p s : Int} (hI0 : Lx w0 l z b B 80 EA p s) (r0 : Int) (r1 : Int) (r2 : Int) (r3 : Int) (r4 : Int) (hpk : Hd (pk B p 0 = some 60)) (H : Hd (NextLess.f B p s = some (r0, r1, r2, r3, r4))) :
    Calls Tryd.prog 31 #[.pointer (some ⟨l, 0, none⟩)] w0 fun e w' => e = .returned (.tuple #[.int .u32 r0, nxv b r0 r1 r2]) ∧ Lx w' l z b B 80 EA r3 r4 ∧ Fr z w0 w' := by
  have hF0 := Fr.refl z w0
  have hl0 := hI0.cl
  unfold NextLess.f at H
  go_enter Tryd.func31, Tryd.ntmps31
  go_wp2_with fail
  refine (Peek_calls hI0 0 60 hpk).mono ?_
  rintro e w' ⟨rfl, rfl⟩
  obtain ⟨⟨t1001, p1002⟩, A1003, HN⟩ := H.bind; clear H; have H := HN; clear HN
  try dsimp only at H
  go_wp2_with fail
  refine (consumeCDOToken.calls hI0  t1001 p1002 A1003).mono ?_
  rintro e w1004 ⟨rfl, hI1004, k1004⟩
  have hF1004 := hF0.trans k1004
  have hl1004 := hI1004.cl
  cases t1001 with
  | true =>
    replace H := H.tt
    obtain ⟨u1005, A1006, HN⟩ := H.bind; clear H; have H := HN; clear HN
    go_wp2_with fail
    refine (Shift_calls hI1004 u1005 A1006).mono ?_
    rintro e w1007 ⟨rfl, hI1007, k1007⟩
    have hF1007 := hF1004.trans k1007
    have hl1007 := hI1007.cl
    go_wp2_with fail
    go_ret2
    obtain ⟨rfl, rfl, rfl, rfl, rfl⟩ := H.p5
    exact ⟨(by first | rfl | (simp only [nxv, *]; done) | (simp [nxv, *]; done)), hI1007, hF1007⟩
  | false =>
    replace H := H.ff
    go_wp2_with fail
    refine (Move_calls hI1004 1).mono ?_
    rintro e w1008 ⟨rfl, hI1008, k1008⟩
    have hF1008 := hF1004.trans k1008
    have hl1008 := hI1008.cl
    obtain ⟨u1009, A1010, HN⟩ := H.bind; clear H; have H := HN; clear HN
    go_wp2_with fail
    refine (Shift_calls hI1008 u1009 A1010).mono ?_
    rintro e w1011 ⟨rfl, hI1011, k1011⟩
    have hF1011 := hF1008.trans k1011
    have hl1011 := hI1011.cl
    go_wp2_with fail
    go_ret2
    obtain ⟨rfl, rfl, rfl, rfl, rfl⟩ := H.p5
    exact ⟨(by first | rfl | (simp only [nxv, *]; done) | (simp [nxv, *]; done)), hI1011, hF1011⟩

/-! (*loop.example/pub-g01476/pub/tdcss.Lexer).Next -/
def NextBack.f (K : Nat) (B : List Int) (p : Int) (s : Int) : Option (Int × Int × Int × Int × Int) :=
(consumeIdentlike.f K B p s).bind fun (x1012, p1013) =>
if (x1012 == 0) = true then ((sel B (mv p1013 1) s).bind fun u1018 =>
some (9, s, mv p1013 1, mv p1013 1, mv p1013 1)) else
(sel B p1013 s).bind fun u1021 =>
some (x1012, s, p1013, p1013, p1013)
set_option maxHeartbeats 8000000 in
set_option maxRecDepth 100000 in
theorem NextBack.calls92 (K : Nat) {w0 : World} {l z b : Nat} {B : List Int} {EA : Addr} {p s : Int} (hI0 : Lx w0 l z b B 80 EA p s) (r0 : Int) (r1 : Int) (r2 : Int) (r3 : Int) (r4 : Int) (hpk : Hd (pk B p 0 = some 92)) (H : Hd (NextBack.f K B p s = some (r0, r1, r2, r3, r4))) :
    Calls Tryd.prog 31 #[.pointer (some ⟨l, 0, none⟩)] w0 fun e w' => e = .returned (.tuple #[.int .u32 r0, nxv b r0 r1 r2]) ∧ Lx w' l z b B 80 EA r3 r4 ∧ Fr z w0 w' := by
  have hF0 := Fr.refl z w0
  have hl0 := hI0.cl
  unfold NextBack.f at H
  go_enter Tryd.func31, Tryd.ntmps31
  go_wp2_with fail
  refine (Peek_calls hI0 0 92 hpk).mono ?_
  rintro e w' ⟨rfl, rfl⟩
  obtain ⟨⟨x1012, p1013⟩, A1014, HN⟩ := H.bind; clear H; have H := HN; clear HN
  try dsimp only at H
  go_wp2_with fail
  refine (consumeIdentlike.calls K hI0  x1012 p1013 A1014).mono ?_
  rintro e w1015 ⟨rfl, hI1015, k1015⟩
  have hF1015 := hF0.trans k1015
  have hl1015 := hI1015.cl
  by_cases e1016 : (x1012 == 0) = true
  · 
    replace H := H.pos e1016
    have e1016n : (x1012 != 0) = false := by simp only [bne, e1016, Bool.not_true]
    go_wp2_with fail
    refine (Move_calls hI1015 1).mono ?_
    rintro e w1017 ⟨rfl, hI1017, k1017⟩
    have hF1017 := hF1015.trans k1017
    have hl1017 := hI1017.cl
    obtain ⟨u1018, A1019, HN⟩ := H.bind; clear H; have H := HN; clear HN
    go_wp2_with fail
    refine (Shift_calls hI1017 u1018 A1019).mono ?_
    rintro e w1020 ⟨rfl, hI1020, k1020⟩
    have hF1020 := hF1017.trans k1020
    have hl1020 := hI1020.cl
    go_wp2_with fail
    go_ret2
    obtain ⟨rfl, rfl, rfl, rfl, rfl⟩ := H.p5
    exact ⟨(by first | rfl | (simp only [nxv, *]; done) | (simp [nxv, *]; done)), hI1020, hF1020⟩
  ·
    replace H := H.neg e1016
    replace e1016 := Bool.eq_false_iff.mpr e1016
    have e1016n : (x1012 != 0) = true := by simp only [bne, e1016, Bool.not_false]
    obtain ⟨u1021, A1022, HN⟩ := H.bind; clear H; have H := HN; clear HN
    go_wp2_with fail
    refine (Shift_calls hI1015 u1021 A1022).mono ?_
    rintro e w1023 ⟨rfl, hI1023, k1023⟩
    have hF1023 := hF1015.trans k1023
    have hl1023 := hI1023.cl
    go_wp2_with fail
    go_ret2
    obtain ⟨rfl, rfl, rfl, rfl, rfl⟩ := H.p5
    exact ⟨(by first | rfl | (simp only [nxv, *]; done) | (simp [nxv, *]; done)), hI1023, hF1023⟩

/-! (*loop.example/pub-g01476/pub/tdcss.Lexer).Next -/
def NextUu.f (K : Nat) (B : List Int) (p : Int) (s : Int) : Option (Int × Int × Int × Int × Int) :=
(consumeUnicodeRangeToken.f K B p s).bind fun (t1024, p1025) =>
if t1024 = true then ((sel B p1025 s).bind fun u1028 =>
some (13, s, p1025, p1025, p1025)) else
(consumeIdentlike.f K B p1025 s).bind fun (x1031, p1032) =>
if (x1031 == 0) = true then ((sel B (mv p1032 1) s).bind fun u1037 =>
some (9, s, mv p1032 1, mv p1032 1, mv p1032 1)) else
(sel B p1032 s).bind fun u1040 =>
some (x1031, s, p1032, p1032, p1032)
set_option maxHeartbeats 8000000 in
set_option maxRecDepth 100000 in
theorem NextUu.calls117 (K : Nat) {w0 : World} {l z b : Nat} {B : List Int} {EA : Addr} {p s : Int} (hI0 : Lx w0 l z b B 80 EA p s) (r0 : Int) (r1 : Int) (r2 : Int) (r3 : Int) (r4 : Int) (hpk : Hd (pk B p 0 = some 117)) (H : Hd (NextUu.f K B p s = some (r0, r1, r2, r3, r4))) :
    Calls Tryd.prog 31 #[.pointer (some ⟨l, 0, none⟩)] w0 fun e w' => e = .returned (.tuple #[.int .u32 r0, nxv b r0 r1 r2]) ∧ Lx w' l z b B 80 EA r3 r4 ∧ Fr z w0 w' := by
  have hF0 := Fr.refl z w0
  have hl0 := hI0.cl
  unfold NextUu.f at H
  go_enter Tryd.func31, Tryd.ntmps31
  go_wp2_with fail
  refine (Peek_calls hI0 0 117 hpk).mono ?_
  rintro e w' ⟨rfl, rfl⟩
  obtain ⟨⟨t1024, p1025⟩, A1026, HN⟩ := H.bind; clear H; have H := HN; clear HN
  try dsimp only at H
  go_wp2_with fail
  refine (consumeUnicodeRangeToken.calls K hI0  t1024 p1025 A1026).mono ?_
  rintro e w1027 ⟨rfl, hI1027, k1027⟩
  have hF1027 := hF0.trans k1027
  have hl1027 := hI1027.cl
  cases t1024 with
  | true =>
    replace H := H.tt
    obtain ⟨u1028, A1029, HN⟩ := H.bind; clear H; have H := HN; clear HN
    go_wp2_with fail
    refine (Shift_calls hI1027 u1028 A1029).mono ?_
    rintro e w1030 ⟨rfl, hI1030, k1030⟩
    have hF1030 := hF1027.trans k1030
    have hl1030 := hI1030.cl
    go_wp2_with fail
    go_ret2
    obtain ⟨rfl, rfl, rfl, rfl, rfl⟩ := H.p5
    exact ⟨(by first | rfl | (simp only [nxv, *]; done) | (simp [nxv, *]; done)), hI1030, hF1030⟩
  | false =>
    replace H := H.ff
    obtain ⟨⟨x1031, p1032⟩, A1033, HN⟩ := H.bind; clear H; have H := HN; clear HN
    try dsimp only at H
    go_wp2_with fail
    refine (consumeIdentlike.calls K hI1027  x1031 p1032 A1033).mono ?_
    rintro e w1034 ⟨rfl, hI1034, k1034⟩
    have hF1034 := hF1027.trans k1034
    have hl1034 := hI1034.cl
    by_cases e1035 : (x1031 == 0) = true
    · 
      replace H := H.pos e1035
      have e1035n : (x1031 != 0) = false := by simp only [bne, e1035, Bool.not_true]
      go_wp2_with fail
      refine (Move_calls hI1034 1).mono ?_
      rintro e w1036 ⟨rfl, hI1036, k1036⟩
      have hF1036 := hF1034.trans k1036
      have hl1036 := hI1036.cl
      obtain ⟨u1037, A1038, HN⟩ := H.bind; clear H; have H := HN; clear HN
      go_wp2_with fail
      refine (Shift_calls hI1036 u1037 A1038).mono ?_
      rintro e w1039 ⟨rfl, hI1039, k1039⟩
      have hF1039 := hF1036.trans k1039
      have hl1039 := hI1039.cl
      go_wp2_with fail
      go_ret2
      obtain ⟨rfl, rfl, rfl, rfl, rfl⟩ := H.p5
      exact ⟨(by first | rfl | (simp only [nxv, *]; done) | (simp [nxv, *]; done)), hI1039, hF1039⟩
    ·
      replace H := H.neg e1035
      replace e1035 := Bool.eq_false_iff.mpr e1035
      have e1035n : (x1031 != 0) = true := by simp only [bne, e1035, Bool.not_false]
      obtain ⟨u1040, A1041, HN⟩ := H.bind; clear H; have H := HN; clear HN
      go_wp2_with fail
      refine (Shift_calls hI1034 u1040 A1041).mono ?_
      rintro e w1042 ⟨rfl, hI1042, k1042⟩
      have hF1042 := hF1034.trans k1042
      have hl1042 := hI1042.cl
      go_wp2_with fail
      go_ret2
      obtain ⟨rfl, rfl, rfl, rfl, rfl⟩ := H.p5
      exact ⟨(by first | rfl | (simp only [nxv, *]; done) | (simp [nxv, *]; done)), hI1042, hF1042⟩

set_option maxHeartbeats 8000000 in
set_option maxRecDepth 100000 in
theorem NextUu.calls85 (K : Nat) {w0 : World} {l z b : Nat} {B : List Int} {EA : Addr} {p s : Int} (hI0 : Lx w0 l z b B 80 EA p s) (r0 : Int) (r1 : Int) (r2 : Int) (r3 : Int) (r4 : Int) (hpk : Hd (pk B p 0 = some 85)) (H : Hd (NextUu.f K B p s = some (r0, r1, r2, r3, r4))) :
    Calls Tryd.prog 31 #[.pointer (some ⟨l, 0, none⟩)] w0 fun e w' => e = .returned (.tuple #[.int .u32 r0, nxv b r0 r1 r2]) ∧ Lx w' l z b B 80 EA r3 r4 ∧ Fr z w0 w' := by
  have hF0 := Fr.refl z w0
  have hl0 := hI0.cl
  unfold NextUu.f at H
  go_enter Tryd.func31, Tryd.ntmps31
  go_wp2_with fail
  refine (Peek_calls hI0 0 85 hpk).mono ?_
  rintro e w' ⟨rfl, rfl⟩
  obtain ⟨⟨t1043, p1044⟩, A1045, HN⟩ := H.bind; clear H; have H := HN; clear HN
  try dsimp only at H
  go_wp2_with fail
  refine (consumeUnicodeRangeToken.calls K hI0  t1043 p1044 A1045).mono ?_
  rintro e w1046 ⟨rfl, hI1046, k1046⟩
  have hF1046 := hF0.trans k1046
  have hl1046 := hI1046.cl
  cases t1043 with
  | true =>
    replace H := H.tt
    obtain ⟨u1047, A1048, HN⟩ := H.bind; clear H; have H := HN; clear HN
    go_wp2_with fail
    refine (Shift_calls hI1046 u1047 A1048).mono ?_
    rintro e w1049 ⟨rfl, hI1049, k1049⟩
    have hF1049 := hF1046.trans k1049
    have hl1049 := hI1049.cl
    go_wp2_with fail
    go_ret2
    obtain ⟨rfl, rfl, rfl, rfl, rfl⟩ := H.p5
    exact ⟨(by first | rfl | (simp only [nxv, *]; done) | (simp [nxv, *]; done)), hI1049, hF1049⟩
  | false =>
    replace H := H.ff
    obtain ⟨⟨x1050, p1051⟩, A1052, HN⟩ := H.bind; clear H; have H := HN; clear HN
    try dsimp only at H
    go_wp2_with fail
    refine (consumeIdentlike.calls K hI1046  x1050 p1051 A1052).mono ?_
    rintro e w1053 ⟨rfl, hI1053, k1053⟩
    have hF1053 := hF1046.trans k1053
    have hl1053 := hI1053.cl
    by_cases e1054 : (x1050 == 0) = true
    · 
      replace H := H.pos e1054
      have e1054n : (x1050 != 0) = false := by simp only [bne, e1054, Bool.not_true]
      go_wp2_with fail
      refine (Move_calls hI1053 1).mono ?_
      rintro e w1055 ⟨rfl, hI1055, k1055⟩
      have hF1055 := hF1053.trans k1055
      have hl1055 := hI1055.cl
      obtain ⟨u1056, A1057, HN⟩ := H.bind; clear H; have H := HN; clear HN
      go_wp2_with fail
      refine (Shift_calls hI1055 u1056 A1057).mono ?_
      rintro e w1058 ⟨rfl, hI1058, k1058⟩
      have hF1058 := hF1055.trans k1058
      have hl1058 := hI1058.cl
      go_wp2_with fail
      go_ret2
      obtain ⟨rfl, rfl, rfl, rfl, rfl⟩ := H.p5
      exact ⟨(by first | rfl | (simp only [nxv, *]; done) | (simp [nxv, *]; done)), hI1058, hF1058⟩
    ·
      replace H := H.neg e1054
      replace e1054 := Bool.eq_false_iff.mpr e1054
      have e1054n : (x1050 != 0) = true := by simp only [bne, e1054, Bool.not_false]
      obtain ⟨u1059, A1060, HN⟩ := H.bind; clear H; have H := HN; clear HN
      go_wp2_with fail
      refine (Shift_calls hI1053 u1059 A1060).mono ?_
      rintro e w1061 ⟨rfl, hI1061, k1061⟩
      have hF1061 := hF1053.trans k1061
      have hl1061 := hI1061.cl
      go_wp2_with fail
      go_ret2
      obtain ⟨rfl, rfl, rfl, rfl, rfl⟩ := H.p5
      exact ⟨(by first | rfl | (simp only [nxv, *]; done) | (simp [nxv, *]; done)), hI1061, hF1061⟩

/-! (*loop.example/pub-g01476/pub/tdcss.Lexer).Next -/
def NextBar.f (B : List Int) (p : Int) (s : Int) : Option (Int × Int × Int × Int × Int) :=
(consumeMatch.f B p s).bind fun (x1062, p1063) =>
if (x1062 == 0) = true then ((consumeColumnToken.f B p1063 s).bind fun (t1067, p1068) =>
if t1067 = true then ((sel B p1068 s).bind fun u1071 =>
some (19, s, p1068, p1068, p1068)) else
(sel B (mv p1068 1) s).bind fun u1075 =>
some (9, s, mv p1068 1, mv p1068 1, mv p1068 1)) else
(sel B p1063 s).bind fun u1078 =>
some (x1062, s, p1063, p1063, p1063)
set_option maxHeartbeats 8000000 in
set_option maxRecDepth 100000 in
theorem NextBar.calls124 {w0 : World} {l z b : Nat} {B : List Int} {EA : Addr} {p s : Int} (hI0 : Lx w0 l z b B 80 EA p s) (r0 : Int) (r1 : Int) (r2 : Int) (r3 : Int) (r4 : Int) (hpk : Hd (pk B p 0 = some 124)) (H : Hd (NextBar.f B p s = some (r0, r1, r2, r3, r4))) :
    Calls Tryd.prog 31 #[.pointer (some ⟨l, 0, none⟩)] w0 fun e w' => e = .returned (.tuple #[.int .u32 r0, nxv b r0 r1 r2]) ∧ Lx w' l z b B 80 EA r3 r4 ∧ Fr z w0 w' := by
  have hF0 := Fr.refl z w0
  have hl0 := hI0.cl
  unfold NextBar.f at H
  go_enter Tryd.func31, Tryd.ntmps31
  go_wp2_with fail
  refine (Peek_calls hI0 0 124 hpk).mono ?_
  rintro e w' ⟨rfl, rfl⟩
  obtain ⟨⟨x1062, p1063⟩, A1064, HN⟩ := H.bind; clear H; have H := HN; clear HN
  try dsimp only at H
  go_wp2_with fail
  refine (consumeMatch.calls hI0  x1062 p1063 A1064).mono ?_
  rintro e w1065 ⟨rfl, hI1065, k1065⟩
  have hF1065 := hF0.trans k1065
  have hl1065 := hI1065.cl
  by_cases e1066 : (x1062 == 0) = true
  · 
    replace H := H.pos e1066
    have e1066n : (x1062 != 0) = false := by simp only [bne, e1066, Bool.not_true]
    obtain ⟨⟨t1067, p1068⟩, A1069, HN⟩ := H.bind; clear H; have H := HN; clear HN
    try dsimp only at H
    go_wp2_with fail
    refine (consumeColumnToken.calls hI1065  t1067 p1068 A1069).mono ?_
    rintro e w1070 ⟨rfl, hI1070, k1070⟩
    have hF1070 := hF1065.trans k1070
    have hl1070 := hI1070.cl
    cases t1067 with
    | true =>
      replace H := H.tt
      obtain ⟨u1071, A1072, HN⟩ := H.bind; clear H; have H := HN; clear HN
      go_wp2_with fail
      refine (Shift_calls hI1070 u1071 A1072).mono ?_
      rintro e w1073 ⟨rfl, hI1073, k1073⟩
      have hF1073 := hF1070.trans k1073
      have hl1073 := hI1073.cl
      go_wp2_with fail
      go_ret2
      obtain ⟨rfl, rfl, rfl, rfl, rfl⟩ := H.p5
      exact ⟨(by first | rfl | (simp only [nxv, *]; done) | (simp [nxv, *]; done)), hI1073, hF1073⟩
    | false =>
      replace H := H.ff
      go_wp2_with fail
      refine (Move_calls hI1070 1).mono ?_
      rintro e w1074 ⟨rfl, hI1074, k1074⟩
      have hF1074 := hF1070.trans k1074
      have hl1074 := hI1074.cl
      obtain ⟨u1075, A1076, HN⟩ := H.bind; clear H; have H := HN; clear HN
      go_wp2_with fail
      refine (Shift_calls hI1074 u1075 A1076).mono ?_
      rintro e w1077 ⟨rfl, hI1077, k1077⟩
      have hF1077 := hF1074.trans k1077
      have hl1077 := hI1077.cl
      go_wp2_with fail
      go_ret2
      obtain ⟨rfl, rfl, rfl, rfl, rfl⟩ := H.p5
      exact ⟨(by first | rfl | (simp only [nxv, *]; done) | (simp [nxv, *]; done)), hI1077, hF1077⟩
  ·
    replace H := H.neg e1066
    replace e1066 := Bool.eq_false_iff.mpr e1066
    have e1066n : (x1062 != 0) = true := by simp only [bne, e1066, Bool.not_false]
    obtain ⟨u1078, A1079, HN⟩ := H.bind; clear H; have H := HN; clear HN
    go_wp2_with fail
    refine (Shift_calls hI1065 u1078 A1079).mono ?_
    rintro e w1080 ⟨rfl, hI1080, k1080⟩
    have hF1080 := hF1065.trans k1080
    have hl1080 := hI1080.cl
    go_wp2_with fail
    go_ret2
    obtain ⟨rfl, rfl, rfl, rfl, rfl⟩ := H.p5
    exact ⟨(by first | rfl | (simp only [nxv, *]; done) | (simp [nxv, *]; done)), hI1080, hF1080⟩

/-! (*loop.example/pub-g01476/pub/tdcss.Lexer).Next -/
def NextZero.f (B : List Int) (p : Int) (s : Int) : Option (Int × Int × Int × Int × Int) :=
if (atEnd B p 0) = true then (some (0, 0, 0, p, s)) else
(sel B (mv p 1) s).bind fun u1085 =>
some (9, s, mv p 1, mv p 1, mv p 1)
set_option maxHeartbeats 8000000 in
set_option maxRecDepth 100000 in
theorem NextZero.calls0 {w0 : World} {l z b : Nat} {B : List Int} {EA : Addr} {p s : Int} (hI0 : Lx w0 l z b B 80 EA p s) (r0 : Int) (r1 : Int) (r2 : Int) (r3 : Int) (r4 : Int) (hpk : Hd (pk B p 0 = some 0)) (H : Hd (NextZero.f B p s = some (r0, r1, r2, r3, r4))) :
    Calls Tryd.prog 31 #[.pointer (some ⟨l, 0, none⟩)] w0 fun e w' => e = .returned (.tuple #[.int .u32 r0, nxv b r0 r1 r2]) ∧ Lx w' l z b B 80 EA r3 r4 ∧ Fr z w0 w' := by
  have hF0 := Fr.refl z w0
  have hl0 := hI0.cl
  unfold NextZero.f at H
  go_enter Tryd.func31, Tryd.ntmps31
  go_wp2_with fail
  refine (Peek_calls hI0 0 0 hpk).mono ?_
  rintro e w' ⟨rfl, rfl⟩
  by_cases e1081 : (atEnd B p 0) = true
  · 
    replace H := H.pos e1081
    go_wp2_with fail
    refine (Err_end hI0 e1081).mono ?_
    rintro e w1082 ⟨rfl, hI1082, k1082⟩
    have hF1082 := hF0.trans k1082
    have hl1082 := hI1082.cl
    go_wp2_with fail
    go_ret2
    obtain ⟨rfl, rfl, rfl, rfl, rfl⟩ := H.p5
    exact ⟨(by first | rfl | (simp only [nxv, *]; done) | (simp [nxv, *]; done)), hI1082, hF1082⟩
  ·
    replace H := H.neg e1081
    replace e1081 := Bool.eq_false_iff.mpr e1081
    go_wp2_with fail
    refine (Err_not hI0 e1081).mono ?_
    rintro e w1083 ⟨rfl, hI1083, k1083⟩
    have hF1083 := hF0.trans k1083
    have hl1083 := hI1083.cl
    go_wp2_with fail
    refine (Move_calls hI1083 1).mono ?_
    rintro e w1084 ⟨rfl, hI1084, k1084⟩
    have hF1084 := hF1083.trans k1084
    have hl1084 := hI1084.cl
    obtain ⟨u1085, A1086, HN⟩ := H.bind; clear H; have H := HN; clear HN
    go_wp2_with fail
    refine (Shift_calls hI1084 u1085 A1086).mono ?_
    rintro e w1087 ⟨rfl, hI1087, k1087⟩
    have hF1087 := hF1084.trans k1087
    have hl1087 := hI1087.cl
    go_wp2_with fail
    go_ret2
    obtain ⟨rfl, rfl, rfl, rfl, rfl⟩ := H.p5
    exact ⟨(by first | rfl | (simp only [nxv, *]; done) | (simp [nxv, *]; done)), hI1087, hF1087⟩

/-! (*loop.example/pub-g01476/pub/tdcss.Lexer).Next -/
def NextElse.f (K : Nat) (B : List Int) (p : Int) (s : Int) : Option (Int × Int × Int × Int × Int) :=
(consumeNumeric.f K B p s).bind fun (x1088, p1089) =>
if (x1088 == 0) = true then ((consumeIdentlike.f K B p1089 s).bind fun (x1093, p1094) =>
if (x1093 == 0) = true then ((sel B (mv p1094 1) s).bind fun u1099 =>
some (9, s, mv p1094 1, mv p1094 1, mv p1094 1)) else
(sel B p1094 s).bind fun u1102 =>
some (x1093, s, p1094, p1094, p1094)) else
(sel B p1089 s).bind fun u1105 =>
some (x1088, s, p1089, p1089, p1089)
set_option maxHeartbeats 8000000 in
set_option maxRecDepth 100000 in
theorem NextElse.calls (K : Nat) {w0 : World} {l z b : Nat} {B : List Int} {EA : Addr} {p s : Int} (hI0 : Lx w0 l z b B 80 EA p s) (r0 : Int) (r1 : Int) (r2 : Int) (r3 : Int) (r4 : Int) (c0 : Int) (hn : Hd (∀ x ∈ nextLits, (c0 == x) = false)) (hpk : Hd (pk B p 0 = some c0)) (H : Hd (NextElse.f K B p s = some (r0, r1, r2, r3, r4))) :
    Calls Tryd.prog 31 #[.pointer (some ⟨l, 0, none⟩)] w0 fun e w' => e = .returned (.tuple #[.int .u32 r0, nxv b r0 r1 r2]) ∧ Lx w' l z b B 80 EA r3 r4 ∧ Fr z w0 w' := by
  have hF0 := Fr.refl z w0
  have en32 := hn.out 32 (by decide)
  have en9 := hn.out 9 (by decide)
  have en10 := hn.out 10 (by decide)
  have en13 := hn.out 13 (by decide)
  have en12 := hn.out 12 (by decide)
  have en58 := hn.out 58 (by decide)
  have en59 := hn.out 59 (by decide)
  have en44 := hn.out 44 (by decide)
  have en40 := hn.out 40 (by decide)
  have en41 := hn.out 41 (by decide)
  have en91 := hn.out 91 (by decide)
  have en93 := hn.out 93 (by decide)
  have en123 := hn.out 123 (by decide)
  have en125 := hn.out 125 (by decide)
  have en35 := hn.out 35 (by decide)
  have en34 := hn.out 34 (by decide)
  have en39 := hn.out 39 (by decide)
  have en46 := hn.out 46 (by decide)
  have en43 := hn.out 43 (by decide)
  have en45 := hn.out 45 (by decide)
  have en64 := hn.out 64 (by decide)
  have en36 := hn.out 36 (by decide)
  have en42 := hn.out 42 (by decide)
  have en94 := hn.out 94 (by decide)
  have en126 := hn.out 126 (by decide)
  have en47 := hn.out 47 (by decide)
  have en60 := hn.out 60 (by decide)
  have en92 := hn.out 92 (by decide)
  have en117 := hn.out 117 (by decide)
  have en85 := hn.out 85 (by decide)
  have en124 := hn.out 124 (by decide)
  have en0 := hn.out 0 (by decide)
  have hl0 := hI0.cl
  unfold NextElse.f at H
  go_enter Tryd.func31, Tryd.ntmps31
  go_wp2_with fail
  refine (Peek_calls hI0 0 c0 hpk).mono ?_
  rintro e w' ⟨rfl, rfl⟩
  obtain ⟨⟨x1088, p1089⟩, A1090, HN⟩ := H.bind; clear H; have H := HN; clear HN
  try dsimp only at H
  go_wp2_with fail
  refine (consumeNumeric.calls K hI0  x1088 p1089 A1090).mono ?_
  rintro e w1091 ⟨rfl, hI1091, k1091⟩
  have hF1091 := hF0.trans k1091
  have hl1091 := hI1091.cl
  by_cases e1092 : (x1088 == 0) = true
  · 
    replace H := H.pos e1092
    have e1092n : (x1088 != 0) = false := by simp only [bne, e1092, Bool.not_true]
    obtain ⟨⟨x1093, p1094⟩, A1095, HN⟩ := H.bind; clear H; have H := HN; clear HN
    try dsimp only at H
    go_wp2_with fail
    refine (consumeIdentlike.calls K hI1091  x1093 p1094 A1095).mono ?_
    rintro e w1096 ⟨rfl, hI1096, k1096⟩
    have hF1096 := hF1091.trans k1096
    have hl1096 := hI1096.cl
    by_cases e1097 : (x1093 == 0) = true
    · 
      replace H := H.pos e1097
      have e1097n : (x1093 != 0) = false := by simp only [bne, e1097, Bool.not_true]
      go_wp2_with fail
      refine (Move_calls hI1096 1).mono ?_
      rintro e w1098 ⟨rfl, hI1098, k1098⟩
      have hF1098 := hF1096.trans k1098
      have hl1098 := hI1098.cl
      obtain ⟨u1099, A1100, HN⟩ := H.bind; clear H; have H := HN; clear HN
      go_wp2_with fail
      refine (Shift_calls hI1098 u1099 A1100).mono ?_
      rintro e w1101 ⟨rfl, hI1101, k1101⟩
      have hF1101 := hF1098.trans k1101
      have hl1101 := hI1101.cl
      go_wp2_with fail
      go_ret2
      obtain ⟨rfl, rfl, rfl, rfl, rfl⟩ := H.p5
      exact ⟨(by first | rfl | (simp only [nxv, *]; done) | (simp [nxv, *]; done)), hI1101, hF1101⟩
    ·
      replace H := H.neg e1097
      replace e1097 := Bool.eq_false_iff.mpr e1097
      have e1097n : (x1093 != 0) = true := by simp only [bne, e1097, Bool.not_false]
      obtain ⟨u1102, A1103, HN⟩ := H.bind; clear H; have H := HN; clear HN
      go_wp2_with fail
      refine (Shift_calls hI1096 u1102 A1103).mono ?_
      rintro e w1104 ⟨rfl, hI1104, k1104⟩
      have hF1104 := hF1096.trans k1104
      have hl1104 := hI1104.cl
      go_wp2_with fail
      go_ret2
      obtain ⟨rfl, rfl, rfl, rfl, rfl⟩ := H.p5
      exact ⟨(by first | rfl | (simp only [nxv, *]; done) | (simp [nxv, *]; done)), hI1104, hF1104⟩
  ·
    replace H := H.neg e1092
    replace e1092 := Bool.eq_false_iff.mpr e1092
    have e1092n : (x1088 != 0) = true := by simp only [bne, e1092, Bool.not_false]
    obtain ⟨u1105, A1106, HN⟩ := H.bind; clear H; have H := HN; clear HN
    go_wp2_with fail
    refine (Shift_calls hI1091 u1105 A1106).mono ?_
    rintro e w1107 ⟨rfl, hI1107, k1107⟩
    have hF1107 := hF1091.trans k1107
    have hl1107 := hI1107.cl
    go_wp2_with fail
    go_ret2
    obtain ⟨rfl, rfl, rfl, rfl, rfl⟩ := H.p5
    exact ⟨(by first | rfl | (simp only [nxv, *]; done) | (simp [nxv, *]; done)), hI1107, hF1107⟩
end Go.Proofs.YteonakpgenkhkaaDoor
