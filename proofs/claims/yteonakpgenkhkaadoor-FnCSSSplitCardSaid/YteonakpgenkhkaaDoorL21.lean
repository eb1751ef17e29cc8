import Derived.Test.YteonakpgenkhkaaDoorL21a
import Derived.Test.YteonakpgenkhkaaDoorL21b
import Derived.Test.YteonakpgenkhkaaDoorL21c
namespace Go.Proofs.YteonakpgenkhkaaDoor
open Go.RowKit
set_option linter.unusedVariables false
set_option linter.unusedSimpArgs false

def Next.f (K : Nat) (B : List Int) (p : Int) (s : Int) : Option (Int × Int × Int × Int × Int) :=
  (pk B p 0).bind fun c =>
  if ((c == 32) || ((c == 9) || ((c == 10) || ((c == 13) || (c == 12))))) = true then NextWs.f K B p s else
  if (c == 58) = true then NextColon.f B p s else
  if (c == 59) = true then NextSemi.f B p s else
  if (c == 44) = true then NextComma.f B p s else
  if ((c == 40) || ((c == 41) || ((c == 91) || ((c == 93) || ((c == 123) || (c == 125)))))) = true then NextBrack.f B p s else
  if (c == 35) = true then NextHash.f K B p s else
  if ((c == 34) || (c == 39)) = true then NextQuote.f K B p s else
  if ((c == 46) || (c == 43)) = true then NextNum.f K B p s else
  if (c == 45) = true then NextMinus.f K B p s else
  if (c == 64) = true then NextAt.f K B p s else
  if ((c == 36) || ((c == 42) || ((c == 94) || (c == 126)))) = true then NextMatch.f B p s else
  if (c == 47) = true then NextSlash.f K B p s else
  if (c == 60) = true then NextLess.f B p s else
  if (c == 92) = true then NextBack.f K B p s else
  if ((c == 117) || (c == 85)) = true then NextUu.f K B p s else
  if (c == 124) = true then NextBar.f B p s else
  if (c == 0) = true then NextZero.f B p s else
  NextElse.f K B p s
theorem Next.calls (K : Nat) {w0 : World} {l z b : Nat} {B : List Int} {EA : Addr} {p s : Int} (hI0 : Lx w0 l z b B 80 EA p s) (r0 : Int) (r1 : Int) (r2 : Int) (r3 : Int) (r4 : Int) (H : Hd (Next.f K B p s = some (r0, r1, r2, r3, r4))) :
    Calls Tryd.prog 31 #[.pointer (some ⟨l, 0, none⟩)] w0 fun e w' => e = .returned (.tuple #[.int .u32 r0, nxv b r0 r1 r2]) ∧ Lx w' l z b B 80 EA r3 r4 ∧ Fr z w0 w' := by
  unfold Next.f at H
  obtain ⟨c, hpk, H⟩ := H.bind
  by_cases h0 : ((c == 32) || ((c == 9) || ((c == 10) || ((c == 13) || (c == 12))))) = true
  · replace H := H.pos h0
    simp only [Bool.or_eq_true, beq_iff_eq] at h0
    rcases h0 with rfl | rfl | rfl | rfl | rfl
    · exact NextWs.calls32 K hI0 r0 r1 r2 r3 r4 hpk H
    · exact NextWs.calls9 K hI0 r0 r1 r2 r3 r4 hpk H
    · exact NextWs.calls10 K hI0 r0 r1 r2 r3 r4 hpk H
    · exact NextWs.calls13 K hI0 r0 r1 r2 r3 r4 hpk H
    · exact NextWs.calls12 K hI0 r0 r1 r2 r3 r4 hpk H
  replace H := H.neg h0
  by_cases h1 : (c == 58) = true
  · replace H := H.pos h1
    obtain rfl := beq_iff_eq.mp h1
    exact NextColon.calls58 hI0 r0 r1 r2 r3 r4 hpk H
  replace H := H.neg h1
  by_cases h2 : (c == 59) = true
  · replace H := H.pos h2
    obtain rfl := beq_iff_eq.mp h2
    exact NextSemi.calls59 hI0 r0 r1 r2 r3 r4 hpk H
  replace H := H.neg h2
  by_cases h3 : (c == 44) = true
  · replace H := H.pos h3
    obtain rfl := beq_iff_eq.mp h3
    exact NextComma.calls44 hI0 r0 r1 r2 r3 r4 hpk H
  replace H := H.neg h3
  by_cases h4 : ((c == 40) || ((c == 41) || ((c == 91) || ((c == 93) || ((c == 123) || (c == 125)))))) = true
  · replace H := H.pos h4
    simp only [Bool.or_eq_true, beq_iff_eq] at h4
    rcases h4 with rfl | rfl | rfl | rfl | rfl | rfl
    · exact NextBrack.calls40 hI0 r0 r1 r2 r3 r4 hpk H
    · exact NextBrack.calls41 hI0 r0 r1 r2 r3 r4 hpk H
    · exact NextBrack.calls91 hI0 r0 r1 r2 r3 r4 hpk H
    · exact NextBrack.calls93 hI0 r0 r1 r2 r3 r4 hpk H
    · exact NextBrack.calls123 hI0 r0 r1 r2 r3 r4 hpk H
    · exact NextBrack.calls125 hI0 r0 r1 r2 r3 r4 hpk H
  replace H := H.neg h4
  by_cases h5 : (c == 35) = true
  · replace H := H.pos h5
    obtain rfl := beq_iff_eq.mp h5
    exact NextHash.calls35 K hI0 r0 r1 r2 r3 r4 hpk H
  replace H := H.neg h5
  by_cases h6 : ((c == 34) || (c == 39)) = true
  · replace H := H.pos h6
    simp only [Bool.or_eq_true, beq_iff_eq] at h6
    rcases h6 with rfl | rfl
    · exact NextQuote.calls34 K hI0 r0 r1 r2 r3 r4 hpk H
    · exact NextQuote.calls39 K hI0 r0 r1 r2 r3 r4 hpk H
  replace H := H.neg h6
  by_cases h7 : ((c == 46) || (c == 43)) = true
  · replace H := H.pos h7
    simp only [Bool.or_eq_true, beq_iff_eq] at h7
    rcases h7 with rfl | rfl
    · exact NextNum.calls46 K hI0 r0 r1 r2 r3 r4 hpk H
    · exact NextNum.calls43 K hI0 r0 r1 r2 r3 r4 hpk H
  replace H := H.neg h7
  by_cases h8 : (c == 45) = true
  · replace H := H.pos h8
    obtain rfl := beq_iff_eq.mp h8
    exact NextMinus.calls45 K hI0 r0 r1 r2 r3 r4 hpk H
  replace H := H.neg h8
  by_cases h9 : (c == 64) = true
  · replace H := H.pos h9
    obtain rfl := beq_iff_eq.mp h9
    exact NextAt.calls64 K hI0 r0 r1 r2 r3 r4 hpk H
  replace H := H.neg h9
  by_cases h10 : ((c == 36) || ((c == 42) || ((c == 94) || (c == 126)))) = true
  · replace H := H.pos h10
    simp only [Bool.or_eq_true, beq_iff_eq] at h10
    rcases h10 with rfl | rfl | rfl | rfl
    · exact NextMatch.calls36 hI0 r0 r1 r2 r3 r4 hpk H
    · exact NextMatch.calls42 hI0 r0 r1 r2 r3 r4 hpk H
    · exact NextMatch.calls94 hI0 r0 r1 r2 r3 r4 hpk H
    · exact NextMatch.calls126 hI0 r0 r1 r2 r3 r4 hpk H
  replace H := H.neg h10
  by_cases h11 : (c == 47) = true
  · replace H := H.pos h11
    obtain rfl := beq_iff_eq.mp h11
    exact NextSlash.calls47 K hI0 r0 r1 r2 r3 r4 hpk H
  replace H := H.neg h11
  by_cases h12 : (c == 60) = true
  · replace H := H.pos h12
    obtain rfl := beq_iff_eq.mp h12
    exact NextLess.calls60 hI0 r0 r1 r2 r3 r4 hpk H
  replace H := H.neg h12
  by_cases h13 : (c == 92) = true
  · replace H := H.pos h13
    obtain rfl := beq_iff_eq.mp h13
    exact NextBack.calls92 K hI0 r0 r1 r2 r3 r4 hpk H
  replace H := H.neg h13
  by_cases h14 : ((c == 117) || (c == 85)) = true
  · replace H := H.pos h14
    simp only [Bool.or_eq_true, beq_iff_eq] at h14
    rcases h14 with rfl | rfl
    · exact NextUu.calls117 K hI0 r0 r1 r2 r3 r4 hpk H
    · exact NextUu.calls85 K hI0 r0 r1 r2 r3 r4 hpk H
  replace H := H.neg h14
  by_cases h15 : (c == 124) = true
  · replace H := H.pos h15
    obtain rfl := beq_iff_eq.mp h15
    exact NextBar.calls124 hI0 r0 r1 r2 r3 r4 hpk H
  replace H := H.neg h15
  by_cases h16 : (c == 0) = true
  · replace H := H.pos h16
    obtain rfl := beq_iff_eq.mp h16
    exact NextZero.calls0 hI0 r0 r1 r2 r3 r4 hpk H
  replace H := H.neg h16
  refine NextElse.calls K hI0 r0 r1 r2 r3 r4 c ⟨fun x hx => ?_⟩ hpk H
  simp only [nextLits, List.mem_cons, List.not_mem_nil, or_false] at hx
  simp only [Bool.or_eq_true, not_or, Bool.not_eq_true] at h0 h1 h2 h3 h4 h5 h6 h7 h8 h9 h10 h11 h12 h13 h14 h15 h16
  rcases hx with rfl | rfl | rfl | rfl | rfl | rfl | rfl | rfl | rfl | rfl | rfl | rfl | rfl | rfl | rfl | rfl | rfl | rfl | rfl | rfl | rfl | rfl | rfl | rfl | rfl | rfl | rfl | rfl | rfl | rfl | rfl | rfl
  · exact h0.1
  · exact h0.2.1
  · exact h0.2.2.1
  · exact h0.2.2.2.1
  · exact h0.2.2.2.2
  · exact h1
  · exact h2
  · exact h3
  · exact h4.1
  · exact h4.2.1
  · exact h4.2.2.1
  · exact h4.2.2.2.1
  · exact h4.2.2.2.2.1
  · exact h4.2.2.2.2.2
  · exact h5
  · exact h6.1
  · exact h6.2
  · exact h7.1
  · exact h7.2
  · exact h8
  · exact h9
  · exact h10.1
  · exact h10.2.1
  · exact h10.2.2.1
  · exact h10.2.2.2
  · exact h11
  · exact h12
  · exact h13
  · exact h14.1
  · exact h14.2
  · exact h15
  · exact h16
end Go.Proofs.YteonakpgenkhkaaDoor
