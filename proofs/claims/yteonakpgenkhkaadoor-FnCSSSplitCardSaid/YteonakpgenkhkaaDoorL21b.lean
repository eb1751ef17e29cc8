import Derived.Test.YteonakpgenkhkaaDoorL21h
namespace Go.Proofs.YteonakpgenkhkaaDoor
open Go.RowKit
set_option linter.unusedVariables false
set_option linter.unusedSimpArgs false
/-! (*loop.example/pub-g01476/pub/tdcss.Lexer).Next -/
def NextHash.f (K : Nat) (B : List Int) (p : Int) (s : Int) : Option (Int × Int × Int × Int × Int) :=
(consumeHashToken.f K B p s).bind fun (t838, p839) =>
if t838 = true then ((sel B p839 s).bind fun u842 =>
some (4, s, p839, p839, p839)) else
(sel B (mv p839 1) s).bind fun u846 =>
some (9, s, mv p839 1, mv p839 1, mv p839 1)
set_option maxHeartbeats 8000000 in
set_option maxRecDepth 100000 in
theorem NextHash.calls35 (K : Nat) {w0 : World} {l z b : Nat} {B : List Int} {EA : Addr} {p s : Int} (hI0 : Lx w0 l z b B 80 EA p s) (r0 : Int) (r1 : Int) (r2 : Int) (r3 : Int) (r4 : Int) (hpk : Hd (pk B p 0 = some 35)) (H : Hd (NextHash.f K B p s = some (r0, r1, r2, r3, r4))) :
    Calls Tryd.prog 31 #[.pointer (some ⟨l, 0, none⟩)] w0 fun e w' => e = .returned (.tuple #[.int .u32 r0, nxv b r0 r1 r2]) ∧ Lx w' l z b B 80 EA r3 r4 ∧ Fr z w0 w' := by
  have hF0 := Fr.refl z w0
  have hl0 := hI0.cl
  unfold NextHash.f at H
  go_enter Tryd.func31, Tryd.ntmps31
  go_wp2_with fail
  refine (Peek_calls hI0 0 35 hpk).mono ?_
  rintro e w' ⟨rfl, rfl⟩
  obtain ⟨⟨t838, p839⟩, A840, HN⟩ := H.bind; clear H; have H := HN; clear HN
  try dsimp only at H
  go_wp2_with fail
  refine (consumeHashToken.calls K hI0  t838 p839 A840).mono ?_
  rintro e w841 ⟨rfl, hI841, k841⟩
  have hF841 := hF0.trans k841
  have hl841 := hI841.cl
  cases t838 with
  | true =>
    replace H := H.tt
    obtain ⟨u842, A843, HN⟩ := H.bind; clear H; have H := HN; clear HN
    go_wp2_with fail
    refine (Shift_calls hI841 u842 A843).mono ?_
    rintro e w844 ⟨rfl, hI844, k844⟩
    have hF844 := hF841.trans k844
    have hl844 := hI844.cl
    go_wp2_with fail
    go_ret2
    obtain ⟨rfl, rfl, rfl, rfl, rfl⟩ := H.p5
    exact ⟨(by first | rfl | (simp only [nxv, *]; done) | (simp [nxv, *]; done)), hI844, hF844⟩
  | false =>
    replace H := H.ff
    go_wp2_with fail
    refine (Move_calls hI841 1).mono ?_
    rintro e w845 ⟨rfl, hI845, k845⟩
    have hF845 := hF841.trans k845
    have hl845 := hI845.cl
    obtain ⟨u846, A847, HN⟩ := H.bind; clear H; have H := HN; clear HN
    go_wp2_with fail
    refine (Shift_calls hI845 u846 A847).mono ?_
    rintro e w848 ⟨rfl, hI848, k848⟩
    have hF848 := hF845.trans k848
    have hl848 := hI848.cl
    go_wp2_with fail
    go_ret2
    obtain ⟨rfl, rfl, rfl, rfl, rfl⟩ := H.p5
    exact ⟨(by first | rfl | (simp only [nxv, *]; done) | (simp [nxv, *]; done)), hI848, hF848⟩

/-! (*loop.example/pub-g01476/pub/tdcss.Lexer).Next -/
def NextQuote.f (K : Nat) (B : List Int) (p : Int) (s : Int) : Option (Int × Int × Int × Int × Int) :=
(consumeString.f K B p s).bind fun (x849, p850) =>
if (x849 == 0) = true then ((sel B (mv p850 1) s).bind fun u855 =>
some (9, s, mv p850 1, mv p850 1, mv p850 1)) else
(sel B p850 s).bind fun u858 =>
some (x849, s, p850, p850, p850)
set_option maxHeartbeats 8000000 in
set_option maxRecDepth 100000 in
theorem NextQuote.calls34 (K : Nat) {w0 : World} {l z b : Nat} {B : List Int} {EA : Addr} {p s : Int} (hI0 : Lx w0 l z b B 80 EA p s) (r0 : Int) (r1 : Int) (r2 : Int) (r3 : Int) (r4 : Int) (hpk : Hd (pk B p 0 = some 34)) (H : Hd (NextQuote.f K B p s = some (r0, r1, r2, r3, r4))) :
    Calls Tryd.prog 31 #[.pointer (some ⟨l, 0, none⟩)] w0 fun e w' => e = .returned (.tuple #[.int .u32 r0, nxv b r0 r1 r2]) ∧ Lx w' l z b B 80 EA r3 r4 ∧ Fr z w0 w' := by
  have hF0 := Fr.refl z w0
  have hl0 := hI0.cl
  unfold NextQuote.f at H
  go_enter Tryd.func31, Tryd.ntmps31
  go_wp2_with fail
  refine (Peek_calls hI0 0 34 hpk).mono ?_
  rintro e w' ⟨rfl, rfl⟩
  obtain ⟨⟨x849, p850⟩, A851, HN⟩ := H.bind; clear H; have H := HN; clear HN
  try dsimp only at H
  go_wp2_with fail
  refine (consumeString.calls K hI0  x849 p850 A851).mono ?_
  rintro e w852 ⟨rfl, hI852, k852⟩
  have hF852 := hF0.trans k852
  have hl852 := hI852.cl
  by_cases e853 : (x849 == 0) = true
  · 
    replace H := H.pos e853
    have e853n : (x849 != 0) = false := by simp only [bne, e853, Bool.not_true]
    go_wp2_with fail
    refine (Move_calls hI852 1).mono ?_
    rintro e w854 ⟨rfl, hI854, k854⟩
    have hF854 := hF852.trans k854
    have hl854 := hI854.cl
    obtain ⟨u855, A856, HN⟩ := H.bind; clear H; have H := HN; clear HN
    go_wp2_with fail
    refine (Shift_calls hI854 u855 A856).mono ?_
    rintro e w857 ⟨rfl, hI857, k857⟩
    have hF857 := hF854.trans k857
    have hl857 := hI857.cl
    go_wp2_with fail
    go_ret2
    obtain ⟨rfl, rfl, rfl, rfl, rfl⟩ := H.p5
    exact ⟨(by first | rfl | (simp only [nxv, *]; done) | (simp [nxv, *]; done)), hI857, hF857⟩
  ·
    replace H := H.neg e853
    replace e853 := Bool.eq_false_iff.mpr e853
    have e853n : (x849 != 0) = true := by simp only [bne, e853, Bool.not_false]
    obtain ⟨u858, A859, HN⟩ := H.bind; clear H; have H := HN; clear HN
    go_wp2_with fail
    refine (Shift_calls hI852 u858 A859).mono ?_
    rintro e w860 ⟨rfl, hI860, k860⟩
    have hF860 := hF852.trans k860
    have hl860 := hI860.cl
    go_wp2_with fail
    go_ret2
    obtain ⟨rfl, rfl, rfl, rfl, rfl⟩ := H.p5
    exact ⟨(by first | rfl | (simp only [nxv, *]; done) | (simp [nxv, *]; done)), hI860, hF860⟩

set_option maxHeartbeats 8000000 in
set_option maxRecDepth 100000 in
theorem NextQuote.calls39 (K : Nat) {w0 : World} {l z b : Nat} {B : List Int} {EA : Addr} {p s : Int} (hI0 : Lx w0 l z b B 80 EA p s) (r0 : Int) (r1 : Int) (r2 : Int) (r3 : Int) (r4 : Int) (hpk : Hd (pk B p 0 = some 39)) (H : Hd (NextQuote.f K B p s = some (r0, r1, r2, r3, r4))) :
    Calls Tryd.prog 31 #[.pointer (some ⟨l, 0, none⟩)] w0 fun e w' => e = .returned (.tuple #[.int .u32 r0, nxv b r0 r1 r2]) ∧ Lx w' l z b B 80 EA r3 r4 ∧ Fr z w0 w' := by
  have hF0 := Fr.refl z w0
  have hl0 := hI0.cl
  unfold NextQuote.f at H
  go_enter Tryd.func31, Tryd.ntmps31
  go_wp2_with fail
  refine (Peek_calls hI0 0 39 hpk).mono ?_
  rintro e w' ⟨rfl, rfl⟩
  obtain ⟨⟨x861, p862⟩, A863, HN⟩ := H.bind; clear H; have H := HN; clear HN
  try dsimp only at H
  go_wp2_with fail
  refine (consumeString.calls K hI0  x861 p862 A863).mono ?_
  rintro e w864 ⟨rfl, hI864, k864⟩
  have hF864 := hF0.trans k864
  have hl864 := hI864.cl
  by_cases e865 : (x861 == 0) = true
  · 
    replace H := H.pos e865
    have e865n : (x861 != 0) = false := by simp only [bne, e865, Bool.not_true]
    go_wp2_with fail
    refine (Move_calls hI864 1).mono ?_
    rintro e w866 ⟨rfl, hI866, k866⟩
    have hF866 := hF864.trans k866
    have hl866 := hI866.cl
    obtain ⟨u867, A868, HN⟩ := H.bind; clear H; have H := HN; clear HN
    go_wp2_with fail
    refine (Shift_calls hI866 u867 A868).mono ?_
    rintro e w869 ⟨rfl, hI869, k869⟩
    have hF869 := hF866.trans k869
    have hl869 := hI869.cl
    go_wp2_with fail
    go_ret2
    obtain ⟨rfl, rfl, rfl, rfl, rfl⟩ := H.p5
    exact ⟨(by first | rfl | (simp only [nxv, *]; done) | (simp [nxv, *]; done)), hI869, hF869⟩
  ·
    replace H := H.neg e865
    replace e865 := Bool.eq_false_iff.mpr e865
    have e865n : (x861 != 0) = true := by simp only [bne, e865, Bool.not_false]
    obtain ⟨u870, A871, HN⟩ := H.bind; clear H; have H := HN; clear HN
    go_wp2_with fail
    refine (Shift_calls hI864 u870 A871).mono ?_
    rintro e w872 ⟨rfl, hI872, k872⟩
    have hF872 := hF864.trans k872
    have hl872 := hI872.cl
    go_wp2_with fail
    go_ret2
    obtain ⟨rfl, rfl, rfl, rfl, rfl⟩ := H.p5
    exact ⟨(by first | rfl | (simp only [nxv, *]; done) | (simp [nxv, *]; done)), hI872, hF872⟩

/-! (*loop.example/pub-g01476/pub/tdcss.Lexer).Next -/
def NextNum.f (K : Nat) (B : List Int) (p : Int) (s : Int) : Option (Int × Int × Int × Int × Int) :=
(consumeNumeric.f K B p s).bind fun (x873, p874) =>
if (x873 == 0) = true then ((sel B (mv p874 1) s).bind fun u879 =>
some (9, s, mv p874 1, mv p874 1, mv p874 1)) else
(sel B p874 s).bind fun u882 =>
some (x873, s, p874, p874, p874)
set_option maxHeartbeats 8000000 in
set_option maxRecDepth 100000 in
theorem NextNum.calls46 (K : Nat) {w0 : World} {l z b : Nat} {B : List Int} {EA : Addr} {p s : Int} (hI0 : Lx w0 l z b B 80 EA p s) (r0 : Int) (r1 : Int) (r2 : Int) (r3 : Int) (r4 : Int) (hpk : Hd (pk B p 0 = some 46)) (H : Hd (NextNum.f K B p s = some (r0, r1, r2, r3, r4))) :
    Calls Tryd.prog 31 #[.pointer (some ⟨l, 0, none⟩)] w0 fun e w' => e = .returned (.tuple #[.int .u32 r0, nxv b r0 r1 r2]) ∧ Lx w' l z b B 80 EA r3 r4 ∧ Fr z w0 w' := by
  have hF0 := Fr.refl z w0
  have hl0 := hI0.cl
  unfold NextNum.f at H
  go_enter Tryd.func31, Tryd.ntmps31
  go_wp2_with fail
  refine (Peek_calls hI0 0 46 hpk).mono ?_
  rintro e w' ⟨rfl, rfl⟩
  obtain ⟨⟨x873, p874⟩, A875, HN⟩ := H.bind; clear H; have H := HN; clear HN
  try dsimp only at H
  go_wp2_with fail
  refine (consumeNumeric.calls K hI0  x873 p874 A875).mono ?_
  rintro e w876 ⟨rfl, hI876, k876⟩
  have hF876 := hF0.trans k876
  have hl876 := hI876.cl
  by_cases e877 : (x873 == 0) = true
  · 
    replace H := H.pos e877
    have e877n : (x873 != 0) = false := by simp only [bne, e877, Bool.not_true]
    go_wp2_with fail
    refine (Move_calls hI876 1).mono ?_
    rintro e w878 ⟨rfl, hI878, k878⟩
    have hF878 := hF876.trans k878
    have hl878 := hI878.cl
    obtain ⟨u879, A880, HN⟩ := H.bind; clear H; have H := HN; clear HN
    go_wp2_with fail
    refine (Shift_calls hI878 u879 A880).mono ?_
    rintro e w881 ⟨rfl, hI881, k881⟩
    have hF881 := hF878.trans k881
    have hl881 := hI881.cl
    go_wp2_with fail
    go_ret2
    obtain ⟨rfl, rfl, rfl, rfl, rfl⟩ := H.p5
    exact ⟨(by first | rfl | (simp only [nxv, *]; done) | (simp [nxv, *]; done)), hI881, hF881⟩
  ·
    replace H := H.neg e877
    replace e877 := Bool.eq_false_iff.mpr e877
    have e877n : (x873 != 0) = true := by simp only [bne, e877, Bool.not_false]
    obtain ⟨u882, A883, HN⟩ := H.bind; clear H; have H := HN; clear HN
    go_wp2_with fail
    refine (Shift_calls hI876 u882 A883).mono ?_
    rintro e w884 ⟨rfl, hI884, k884⟩
    have hF884 := hF876.trans k884
    have hl884 := hI884.cl
    go_wp2_with fail
    go_ret2
    obtain ⟨rfl, rfl, rfl, rfl, rfl⟩ := H.p5
    exact ⟨(by first | rfl | (simp only [nxv, *]; done) | (simp [nxv, *]; done)), hI884, hF884⟩

set_option maxHeartbeats 8000000 in
set_option maxRecDepth 100000 in
theorem NextNum.calls43 (K : Nat) {w0 : World} {l z b : Nat} {B : List Int} {EA : Addr} {p s : Int} (hI0 : Lx w0 l z b B 80 EA p s) (r0 : Int) (r1 : Int) (r2 : Int) (r3 : Int) (r4 : Int) (hpk : Hd (pk B p 0 = some 43)) (H : Hd (NextNum.f K B p s = some (r0, r1, r2, r3, r4))) :
    Calls Tryd.prog 31 #[.pointer (some ⟨l, 0, none⟩)] w0 fun e w' => e = .returned (.tuple #[.int .u32 r0, nxv b r0 r1 r2]) ∧ Lx w' l z b B 80 EA r3 r4 ∧ Fr z w0 w' := by
  have hF0 := Fr.refl z w0
  have hl0 := hI0.cl
  unfold NextNum.f at H
  go_enter Tryd.func31, Tryd.ntmps31
  go_wp2_with fail
  refine (Peek_calls hI0 0 43 hpk).mono ?_
  rintro e w' ⟨rfl, rfl⟩
  obtain ⟨⟨x885, p886⟩, A887, HN⟩ := H.bind; clear H; have H := HN; clear HN
  try dsimp only at H
  go_wp2_with fail
  refine (consumeNumeric.calls K hI0  x885 p886 A887).mono ?_
  rintro e w888 ⟨rfl, hI888, k888⟩
  have hF888 := hF0.trans k888
  have hl888 := hI888.cl
  by_cases e889 : (x885 == 0) = true
  · 
    replace H := H.pos e889
    have e889n : (x885 != 0) = false := by simp only [bne, e889, Bool.not_true]
    go_wp2_with fail
    refine (Move_calls hI888 1).mono ?_
    rintro e w890 ⟨rfl, hI890, k890⟩
    have hF890 := hF888.trans k890
    have hl890 := hI890.cl
    obtain ⟨u891, A892, HN⟩ := H.bind; clear H; have H := HN; clear HN
    go_wp2_with fail
    refine (Shift_calls hI890 u891 A892).mono ?_
    rintro e w893 ⟨rfl, hI893, k893⟩
    have hF893 := hF890.trans k893
    have hl893 := hI893.cl
    go_wp2_with fail
    go_ret2
    obtain ⟨rfl, rfl, rfl, rfl, rfl⟩ := H.p5
    exact ⟨(by first | rfl | (simp only [nxv, *]; done) | (simp [nxv, *]; done)), hI893, hF893⟩
  ·
    replace H := H.neg e889
    replace e889 := Bool.eq_false_iff.mpr e889
    have e889n : (x885 != 0) = true := by simp only [bne, e889, Bool.not_false]
    obtain ⟨u894, A895, HN⟩ := H.bind; clear H; have H := HN; clear HN
    go_wp2_with fail
    refine (Shift_calls hI888 u894 A895).mono ?_
    rintro e w896 ⟨rfl, hI896, k896⟩
    have hF896 := hF888.trans k896
    have hl896 := hI896.cl
    go_wp2_with fail
    go_ret2
    obtain ⟨rfl, rfl, rfl, rfl, rfl⟩ := H.p5
    exact ⟨(by first | rfl | (simp only [nxv, *]; done) | (simp [nxv, *]; done)), hI896, hF896⟩

/-! (*loop.example/pub-g01476/pub/tdcss.Lexer).Next -/
def NextMinus.f (K : Nat) (B : List Int) (p : Int) (s : Int) : Option (Int × Int × Int × Int × Int) :=
(consumeCDCToken.f B p s).bind fun (t897, p898) =>
if t897 = true then ((sel B p898 s).bind fun u901 =>
some (22, s, p898, p898, p898)) else
(consumeCustomVariableToken.f K B p898 s).bind fun (t904, p905) =>
if t904 = true then ((sel B p905 s).bind fun u908 =>
some (34, s, p905, p905, p905)) else
(consumeIdentlike.f K B p905 s).bind fun (x911, p912) =>
if (x911 == 0) = true then ((consumeNumeric.f K B p912 s).bind fun (x916, p917) =>
if (x916 == 0) = true then ((sel B (mv p917 1) s).bind fun u922 =>
some (9, s, mv p917 1, mv p917 1, mv p917 1)) else
(sel B p917 s).bind fun u925 =>
some (x916, s, p917, p917, p917)) else
(sel B p912 s).bind fun u928 =>
some (x911, s, p912, p912, p912)
set_option maxHeartbeats 8000000 in
set_option maxRecDepth 100000 in
theorem NextMinus.calls45 (K : Nat) {w0 : World} {l z b : Nat} {B : List Int} {EA : Addr} {p s : Int} (hI0 : Lx w0 l z b B 80 EA p s) (r0 : Int) (r1 : Int) (r2 : Int) (r3 : Int) (r4 : Int) (hpk : Hd (pk B p 0 = some 45)) (H : Hd (NextMinus.f K B p s = some (r0, r1, r2, r3, r4))) :
    Calls Tryd.prog 31 #[.pointer (some ⟨l, 0, none⟩)] w0 fun e w' => e = .returned (.tuple #[.int .u32 r0, nxv b r0 r1 r2]) ∧ Lx w' l z b B 80 EA r3 r4 ∧ Fr z w0 w' := by
  have hF0 := Fr.refl z w0
  have hl0 := hI0.cl
  unfold NextMinus.f at H
  go_enter Tryd.func31, Tryd.ntmps31
  go_wp2_with fail
  refine (Peek_calls hI0 0 45 hpk).mono ?_
  rintro e w' ⟨rfl, rfl⟩
  obtain ⟨⟨t897, p898⟩, A899, HN⟩ := H.bind; clear H; have H := HN; clear HN
  try dsimp only at H
  go_wp2_with fail
  refine (consumeCDCToken.calls hI0  t897 p898 A899).mono ?_
  rintro e w900 ⟨rfl, hI900, k900⟩
  have hF900 := hF0.trans k900
  have hl900 := hI900.cl
  cases t897 with
  | true =>
    replace H := H.tt
    obtain ⟨u901, A902, HN⟩ := H.bind; clear H; have H := HN; clear HN
    go_wp2_with fail
    refine (Shift_calls hI900 u901 A902).mono ?_
    rintro e w903 ⟨rfl, hI903, k903⟩
    have hF903 := hF900.trans k903
    have hl903 := hI903.cl
    go_wp2_with fail
    go_ret2
    obtain ⟨rfl, rfl, rfl, rfl, rfl⟩ := H.p5
    exact ⟨(by first | rfl | (simp only [nxv, *]; done) | (simp [nxv, *]; done)), hI903, hF903⟩
  | false =>
    replace H := H.ff
    obtain ⟨⟨t904, p905⟩, A906, HN⟩ := H.bind; clear H; have H := HN; clear HN
    try dsimp only at H
    go_wp2_with fail
    refine (consumeCustomVariableToken.calls K hI900  t904 p905 A906).mono ?_
    rintro e w907 ⟨rfl, hI907, k907⟩
    have hF907 := hF900.trans k907
    have hl907 := hI907.cl
    cases t904 with
    | true =>
      replace H := H.tt
      obtain ⟨u908, A909, HN⟩ := H.bind; clear H; have H := HN; clear HN
      go_wp2_with fail
      refine (Shift_calls hI907 u908 A909).mono ?_
      rintro e w910 ⟨rfl, hI910, k910⟩
      have hF910 := hF907.trans k910
      have hl910 := hI910.cl
      go_wp2_with fail
      go_ret2
      obtain ⟨rfl, rfl, rfl, rfl, rfl⟩ := H.p5
      exact ⟨(by first | rfl | (simp only [nxv, *]; done) | (simp [nxv, *]; done)), hI910, hF910⟩
    | false =>
      replace H := H.ff
      obtain ⟨⟨x911, p912⟩, A913, HN⟩ := H.bind; clear H; have H := HN; clear HN
      try dsimp only at H
      go_wp2_with fail
      refine (consumeIdentlike.calls K hI907  x911 p912 A913).mono ?_
      rintro e w914 ⟨rfl, hI914, k914⟩
      have hF914 := hF907.trans k914
      have hl914 := hI914.cl
      by_cases e915 : (x911 == 0) = true
      · 
        replace H := H.pos e915
        have e915n : (x911 != 0) = false := by simp only [bne, e915, Bool.not_true]
        obtain ⟨⟨x916, p917⟩, A918, HN⟩ := H.bind; clear H; have H := HN; clear HN
        try dsimp only at H
        go_wp2_with fail
        refine (consumeNumeric.calls K hI914  x916 p917 A918).mono ?_
        rintro e w919 ⟨rfl, hI919, k919⟩
        have hF919 := hF914.trans k919
        have hl919 := hI919.cl
        by_cases e920 : (x916 == 0) = true
        · 
          replace H := H.pos e920
          have e920n : (x916 != 0) = false := by simp only [bne, e920, Bool.not_true]
          go_wp2_with fail
          refine (Move_calls hI919 1).mono ?_
          rintro e w921 ⟨rfl, hI921, k921⟩
          have hF921 := hF919.trans k921
          have hl921 := hI921.cl
          obtain ⟨u922, A923, HN⟩ := H.bind; clear H; have H := HN; clear HN
          go_wp2_with fail
          refine (Shift_calls hI921 u922 A923).mono ?_
          rintro e w924 ⟨rfl, hI924, k924⟩
          have hF924 := hF921.trans k924
          have hl924 := hI924.cl
          go_wp2_with fail
          go_ret2
          obtain ⟨rfl, rfl, rfl, rfl, rfl⟩ := H.p5
          exact ⟨(by first | rfl | (simp only [nxv, *]; done) | (simp [nxv, *]; done)), hI924, hF924⟩
        ·
          replace H := H.neg e920
          replace e920 := Bool.eq_false_iff.mpr e920
          have e920n : (x916 != 0) = true := by simp only [bne, e920, Bool.not_false]
          obtain ⟨u925, A926, HN⟩ := H.bind; clear H; have H := HN; clear HN
          go_wp2_with fail
          refine (Shift_calls hI919 u925 A926).mono ?_
          rintro e w927 ⟨rfl, hI927, k927⟩
          have hF927 := hF919.trans k927
          have hl927 := hI927.cl
          go_wp2_with fail
          go_ret2
          obtain ⟨rfl, rfl, rfl, rfl, rfl⟩ := H.p5
          exact ⟨(by first | rfl | (simp only [nxv, *]; done) | (simp [nxv, *]; done)), hI927, hF927⟩
      ·
        replace H := H.neg e915
        replace e915 := Bool.eq_false_iff.mpr e915
        have e915n : (x911 != 0) = true := by simp only [bne, e915, Bool.not_false]
        obtain ⟨u928, A929, HN⟩ := H.bind; clear H; have H := HN; clear HN
        go_wp2_with fail
        refine (Shift_calls hI914 u928 A929).mono ?_
        rintro e w930 ⟨rfl, hI930, k930⟩
        have hF930 := hF914.trans k930
        have hl930 := hI930.cl
        go_wp2_with fail
        go_ret2
        obtain ⟨rfl, rfl, rfl, rfl, rfl⟩ := H.p5
        exact ⟨(by first | rfl | (simp only [nxv, *]; done) | (simp [nxv, *]; done)), hI930, hF930⟩

/-! (*loop.example/pub-g01476/pub/tdcss.Lexer).Next -/
def NextAt.f (K : Nat) (B : List Int) (p : Int) (s : Int) : Option (Int × Int × Int × Int × Int) :=
(consumeAtKeywordToken.f K B p s).bind fun (t931, p932) =>
if t931 = true then ((sel B p932 s).bind fun u935 =>
some (3, s, p932, p932, p932)) else
(sel B (mv p932 1) s).bind fun u939 =>
some (9, s, mv p932 1, mv p932 1, mv p932 1)
set_option maxHeartbeats 8000000 in
set_option maxRecDepth 100000 in
theorem NextAt.calls64 (K : Nat) {w0 : World} {l z b : Nat} {B : List Int} {EA : Addr} {p s : Int} (hI0 : Lx w0 l z b B 80 EA p s) (r0 : Int) (r1 : Int) (r2 : Int) (r3 : Int) (r4 : Int) (hpk : Hd (pk B p 0 = some 64)) (H : Hd (NextAt.f K B p s = some (r0, r1, r2, r3, r4))) :
    Calls Tryd.prog 31 #[.pointer (some ⟨l, 0, none⟩)] w0 fun e w' => e = .returned (.tuple #[.int .u32 r0, nxv b r0 r1 r2]) ∧ Lx w' l z b B 80 EA r3 r4 ∧ Fr z w0 w' := by
  have hF0 := Fr.refl z w0
  have hl0 := hI0.cl
  unfold NextAt.f at H
  go_enter Tryd.func31, Tryd.ntmps31
  go_wp2_with fail
  refine (Peek_calls hI0 0 64 hpk).mono ?_
  rintro e w' ⟨rfl, rfl⟩
  obtain ⟨⟨t931, p932⟩, A933, HN⟩ := H.bind; clear H; have H := HN; clear HN
  try dsimp only at H
  go_wp2_with fail
  refine (consumeAtKeywordToken.calls K hI0  t931 p932 A933).mono ?_
  rintro e w934 ⟨rfl, hI934, k934⟩
  have hF934 := hF0.trans k934
  have hl934 := hI934.cl
  cases t931 with
  | true =>
    replace H := H.tt
    obtain ⟨u935, A936, HN⟩ := H.bind; clear H; have H := HN; clear HN
    go_wp2_with fail
    refine (Shift_calls hI934 u935 A936).mono ?_
    rintro e w937 ⟨rfl, hI937, k937⟩
    have hF937 := hF934.trans k937
    have hl937 := hI937.cl
    go_wp2_with fail
    go_ret2
    obtain ⟨rfl, rfl, rfl, rfl, rfl⟩ := H.p5
    exact ⟨(by first | rfl | (simp only [nxv, *]; done) | (simp [nxv, *]; done)), hI937, hF937⟩
  | false =>
    replace H := H.ff
    go_wp2_with fail
    refine (Move_calls hI934 1).mono ?_
    rintro e w938 ⟨rfl, hI938, k938⟩
    have hF938 := hF934.trans k938
    have hl938 := hI938.cl
    obtain ⟨u939, A940, HN⟩ := H.bind; clear H; have H := HN; clear HN
    go_wp2_with fail
    refine (Shift_calls hI938 u939 A940).mono ?_
    rintro e w941 ⟨rfl, hI941, k941⟩
    have hF941 := hF938.trans k941
    have hl941 := hI941.cl
    go_wp2_with fail
    go_ret2
    obtain ⟨rfl, rfl, rfl, rfl, rfl⟩ := H.p5
    exact ⟨(by first | rfl | (simp only [nxv, *]; done) | (simp [nxv, *]; done)), hI941, hF941⟩

/-! (*loop.example/pub-g01476/pub/tdcss.Lexer).Next -/
def NextMatch.f (B : List Int) (p : Int) (s : Int) : Option (Int × Int × Int × Int × Int) :=
(consumeMatch.f B p s).bind fun (x942, p943) =>
if (x942 == 0) = true then ((sel B (mv p943 1) s).bind fun u948 =>
some (9, s, mv p943 1, mv p943 1, mv p943 1)) else
(sel B p943 s).bind fun u951 =>
some (x942, s, p943, p943, p943)
set_option maxHeartbeats 8000000 in
set_option maxRecDepth 100000 in
theorem NextMatch.calls36 {w0 : World} {l z b : Nat} {B : List Int} {EA : Addr} {p s : Int} (hI0 : Lx w0 l z b B 80 EA p s) (r0 : Int) (r1 : Int) (r2 : Int) (r3 : Int) (r4 : Int) (hpk : Hd (pk B p 0 = some 36)) (H : Hd (NextMatch.f B p s = some (r0, r1, r2, r3, r4))) :
    Calls Tryd.prog 31 #[.pointer (some ⟨l, 0, none⟩)] w0 fun e w' => e = .returned (.tuple #[.int .u32 r0, nxv b r0 r1 r2]) ∧ Lx w' l z b B 80 EA r3 r4 ∧ Fr z w0 w' := by
  have hF0 := Fr.refl z w0
  have hl0 := hI0.cl
  unfold NextMatch.f at H
  go_enter Tryd.func31, Tryd.ntmps31
  go_wp2_with fail
  refine (Peek_calls hI0 0 36 hpk).mono ?_
  rintro e w' ⟨rfl, rfl⟩
  obtain ⟨⟨x942, p943⟩, A944, HN⟩ := H.bind; clear H; have H := HN; clear HN
  try dsimp only at H
  go_wp2_with fail
  refine (consumeMatch.calls hI0  x942 p943 A944).mono ?_
  rintro e w945 ⟨rfl, hI945, k945⟩
  have hF945 := hF0.trans k945
  have hl945 := hI945.cl
  by_cases e946 : (x942 == 0) = true
  · 
    replace H := H.pos e946
    have e946n : (x942 != 0) = false := by simp only [bne, e946, Bool.not_true]
    go_wp2_with fail
    refine (Move_calls hI945 1).mono ?_
    rintro e w947 ⟨rfl, hI947, k947⟩
    have hF947 := hF945.trans k947
    have hl947 := hI947.cl
    obtain ⟨u948, A949, HN⟩ := H.bind; clear H; have H := HN; clear HN
    go_wp2_with fail
    refine (Shift_calls hI947 u948 A949).mono ?_
    rintro e w950 ⟨rfl, hI950, k950⟩
    have hF950 := hF947.trans k950
    have hl950 := hI950.cl
    go_wp2_with fail
    go_ret2
    obtain ⟨rfl, rfl, rfl, rfl, rfl⟩ := H.p5
    exact ⟨(by first | rfl | (simp only [nxv, *]; done) | (simp [nxv, *]; done)), hI950, hF950⟩
  ·
    replace H := H.neg e946
    replace e946 := Bool.eq_false_iff.mpr e946
    have e946n : (x942 != 0) = true := by simp only [bne, e946, Bool.not_false]
    obtain ⟨u951, A952, HN⟩ := H.bind; clear H; have H := HN; clear HN
    go_wp2_with fail
    refine (Shift_calls hI945 u951 A952).mono ?_
    rintro e w953 ⟨rfl, hI953, k953⟩
    have hF953 := hF945.trans k953
    have hl953 := hI953.cl
    go_wp2_with fail
    go_ret2
    obtain ⟨rfl, rfl, rfl, rfl, rfl⟩ := H.p5
    exact ⟨(by first | rfl | (simp only [nxv, *]; done) | (simp [nxv, *]; done)), hI953, hF953⟩

set_option maxHeartbeats 8000000 in
set_option maxRecDepth 100000 in
theorem NextMatch.calls42 {w0 : World} {l z b : Nat} {B : List Int} {EA : Addr} {p s : Int} (hI0 : Lx w0 l z b B 80 EA p s) (r0 : Int) (r1 : Int) (r2 : Int) (r3 : Int) (r4 : Int) (hpk : Hd (pk B p 0 = some 42)) (H : Hd (NextMatch.f B p s = some (r0, r1, r2, r3, r4))) :
    Calls Tryd.prog 31 #[.pointer (some ⟨l, 0, none⟩)] w0 fun e w' => e = .returned (.tuple #[.int .u32 r0, nxv b r0 r1 r2]) ∧ Lx w' l z b B 80 EA r3 r4 ∧ Fr z w0 w' := by
  have hF0 := Fr.refl z w0
  have hl0 := hI0.cl
  unfold NextMatch.f at H
  go_enter Tryd.func31, Tryd.ntmps31
  go_wp2_with fail
  refine (Peek_calls hI0 0 42 hpk).mono ?_
  rintro e w' ⟨rfl, rfl⟩
  obtain ⟨⟨x954, p955⟩, A956, HN⟩ := H.bind; clear H; have H := HN; clear HN
  try dsimp only at H
  go_wp2_with fail
  refine (consumeMatch.calls hI0  x954 p955 A956).mono ?_
  rintro e w957 ⟨rfl, hI957, k957⟩
  have hF957 := hF0.trans k957
  have hl957 := hI957.cl
  by_cases e958 : (x954 == 0) = true
  · 
    replace H := H.pos e958
    have e958n : (x954 != 0) = false := by simp only [bne, e958, Bool.not_true]
    go_wp2_with fail
    refine (Move_calls hI957 1).mono ?_
    rintro e w959 ⟨rfl, hI959, k959⟩
    have hF959 := hF957.trans k959
    have hl959 := hI959.cl
    obtain ⟨u960, A961, HN⟩ := H.bind; clear H; have H := HN; clear HN
    go_wp2_with fail
    refine (Shift_calls hI959 u960 A961).mono ?_
    rintro e w962 ⟨rfl, hI962, k962⟩
    have hF962 := hF959.trans k962
    have hl962 := hI962.cl
    go_wp2_with fail
    go_ret2
    obtain ⟨rfl, rfl, rfl, rfl, rfl⟩ := H.p5
    exact ⟨(by first | rfl | (simp only [nxv, *]; done) | (simp [nxv, *]; done)), hI962, hF962⟩
  ·
    replace H := H.neg e958
    replace e958 := Bool.eq_false_iff.mpr e958
    have e958n : (x954 != 0) = true := by simp only [bne, e958, Bool.not_false]
    obtain ⟨u963, A964, HN⟩ := H.bind; clear H; have H := HN; clear HN
    go_wp2_with fail
    refine (Shift_calls hI957 u963 A964).mono ?_
    rintro e w965 ⟨rfl, hI965, k965⟩
    have hF965 := hF957.trans k965
    have hl965 := hI965.cl
    go_wp2_with fail
    go_ret2
    obtain ⟨rfl, rfl, rfl, rfl, rfl⟩ := H.p5
    exact ⟨(by first | rfl | (simp only [nxv, *]; done) | (simp [nxv, *]; done)), hI965, hF965⟩

set_option maxHeartbeats 8000000 in
set_option maxRecDepth 100000 in
theorem NextMatch.calls94 {w0 : World} {l z b : Nat} {B : List Int} {EA : Addr} {p s : Int} (hI0 : Lx w0 l z b B 80 EA p s) (r0 : Int) (r1 : Int) (r2 : Int) (r3 : Int) (r4 : Int) (hpk : Hd (pk B p 0 = some 94)) (H : Hd (NextMatch.f B p s = some (r0, r1, r2, r3, r4))) :
    Calls Tryd.prog 31 #[.pointer (some ⟨l, 0, none⟩)] w0 fun e w' => e = .returned (.tuple #[.int .u32 r0, nxv b r0 r1 r2]) ∧ Lx w' l z b B 80 EA r3 r4 ∧ Fr z w0 w' := by
  have hF0 := Fr.refl z w0
  have hl0 := hI0.cl
  unfold NextMatch.f at H
  go_enter Tryd.func31, Tryd.ntmps31
  go_wp2_with fail
  refine (Peek_calls hI0 0 94 hpk).mono ?_
  rintro e w' ⟨rfl, rfl⟩
  obtain ⟨⟨x966, p967⟩, A968, HN⟩ := H.bind; clear H; have H := HN; clear HN
  try dsimp only at H
  go_wp2_with fail
  refine (consumeMatch.calls hI0  x966 p967 A968).mono ?_
  rintro e w969 ⟨rfl, hI969, k969⟩
  have hF969 := hF0.trans k969
  have hl969 := hI969.cl
  by_cases e970 : (x966 == 0) = true
  · 
    replace H := H.pos e970
    have e970n : (x966 != 0) = false := by simp only [bne, e970, Bool.not_true]
    go_wp2_with fail
    refine (Move_calls hI969 1).mono ?_
    rintro e w971 ⟨rfl, hI971, k971⟩
    have hF971 := hF969.trans k971
    have hl971 := hI971.cl
    obtain ⟨u972, A973, HN⟩ := H.bind; clear H; have H := HN; clear HN
    go_wp2_with fail
    refine (Shift_calls hI971 u972 A973).mono ?_
    rintro e w974 ⟨rfl, hI974, k974⟩
    have hF974 := hF971.trans k974
    have hl974 := hI974.cl
    go_wp2_with fail
    go_ret2
    obtain ⟨rfl, rfl, rfl, rfl, rfl⟩ := H.p5
    exact ⟨(by first | rfl | (simp only [nxv, *]; done) | (simp [nxv, *]; done)), hI974, hF974⟩
  ·
    replace H := H.neg e970
    replace e970 := Bool.eq_false_iff.mpr e970
    have e970n : (x966 != 0) = true := by simp only [bne, e970, Bool.not_false]
    obtain ⟨u975, A976, HN⟩ := H.bind; clear H; have H := HN; clear HN
    go_wp2_with fail
    refine (Shift_calls hI969 u975 A976).mono ?_
    rintro e w977 ⟨rfl, hI977, k977⟩
    have hF977 := hF969.trans k977
    have hl977 := hI977.cl
    go_wp2_with fail
    go_ret2
    obtain ⟨rfl, rfl, rfl, rfl, rfl⟩ := H.p5
    exact ⟨(by first | rfl | (simp only [nxv, *]; done) | (simp [nxv, *]; done)), hI977, hF977⟩

set_option maxHeartbeats 8000000 in
set_option maxRecDepth 100000 in
theorem NextMatch.calls126 {w0 : World} {l z b : Nat} {B : List Int} {EA : Addr} {p s : Int} (hI0 : Lx w0 l z b B 80 EA p s) (r0 : Int) (r1 : Int) (r2 : Int) (r3 : Int) (r4 : Int) (hpk : Hd (pk B p 0 = some 126)) (H : Hd (NextMatch.f B p s = some (r0, r1, r2, r3, r4))) :
    Calls Tryd.prog 31 #[.pointer (some ⟨l, 0, none⟩)] w0 fun e w' => e = .returned (.tuple #[.int .u32 r0, nxv b r0 r1 r2]) ∧ Lx w' l z b B 80 EA r3 r4 ∧ Fr z w0 w' := by
  have hF0 := Fr.refl z w0
  have hl0 := hI0.cl
  unfold NextMatch.f at H
  go_enter Tryd.func31, Tryd.ntmps31
  go_wp2_with fail
  refine (Peek_calls hI0 0 126 hpk).mono ?_
  rintro e w' ⟨rfl, rfl⟩
  obtain ⟨⟨x978, p979⟩, A980, HN⟩ := H.bind; clear H; have H := HN; clear HN
  try dsimp only at H
  go_wp2_with fail
  refine (consumeMatch.calls hI0  x978 p979 A980).mono ?_
  rintro e w981 ⟨rfl, hI981, k981⟩
  have hF981 := hF0.trans k981
  have hl981 := hI981.cl
  by_cases e982 : (x978 == 0) = true
  · 
    replace H := H.pos e982
    have e982n : (x978 != 0) = false := by simp only [bne, e982, Bool.not_true]
    go_wp2_with fail
    refine (Move_calls hI981 1).mono ?_
    rintro e w983 ⟨rfl, hI983, k983⟩
    have hF983 := hF981.trans k983
    have hl983 := hI983.cl
    obtain ⟨u984, A985, HN⟩ := H.bind; clear H; have H := HN; clear HN
    go_wp2_with fail
    refine (Shift_calls hI983 u984 A985).mono ?_
    rintro e w986 ⟨rfl, hI986, k986⟩
    have hF986 := hF983.trans k986
    have hl986 := hI986.cl
    go_wp2_with fail
    go_ret2
    obtain ⟨rfl, rfl, rfl, rfl, rfl⟩ := H.p5
    exact ⟨(by first | rfl | (simp only [nxv, *]; done) | (simp [nxv, *]; done)), hI986, hF986⟩
  ·
    replace H := H.neg e982
    replace e982 := Bool.eq_false_iff.mpr e982
    have e982n : (x978 != 0) = true := by simp only [bne, e982, Bool.not_false]
    obtain ⟨u987, A988, HN⟩ := H.bind; clear H; have H := HN; clear HN
    go_wp2_with fail
    refine (Shift_calls hI981 u987 A988).mono ?_
    rintro e w989 ⟨rfl, hI989, k989⟩
    have hF989 := hF981.trans k989
    have hl989 := hI989.cl
    go_wp2_with fail
    go_ret2
    obtain ⟨rfl, rfl, rfl, rfl, rfl⟩ := H.p5
    exact ⟨(by first | rfl | (simp only [nxv, *]; done) | (simp [nxv, *]; done)), hI989, hF989⟩
end Go.Proofs.YteonakpgenkhkaaDoor
