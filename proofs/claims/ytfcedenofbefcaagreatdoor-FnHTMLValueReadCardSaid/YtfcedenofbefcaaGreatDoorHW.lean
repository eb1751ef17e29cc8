import Derived.Test.YtfcedenofbefcaaGreatDoorHA
import Derived.Test.YtfcedenofbefcaaGreatDoorP0
namespace Go.Proofs.YtfcedenofbefcaaGreatDoor
open Go.RowKit
set_option linter.unusedVariables false
set_option linter.unusedSimpArgs false
/-! The loop of impl.HTML, as a plain function. -/
def kOther : List Int := [79, 116, 104, 101, 114]
def hkind (t : Int) : List Int :=
  if t = 1 then kComment else if t = 2 then kDoctype else if t = 3 then kStartTag else if t = 4 then kStartTagClose else
  if t = 5 then kStartTagVoid else if t = 6 then kEndTag else if t = 7 then kAttribute else if t = 8 then kText else kOther
/-- What the loop of impl.HTML collects. -/
def hmll (K : Nat) (B : List Int) : Nat → Int → Int → Int → Bool → Int → Int → Int → Int → List GTok → Option (List GTok × Int)
  | 0, p, _, _, _, _, _, _, _, L => some (L, p)
  | k + 1, p, s, rt, tg, tl, th, al, ah, L => (hNext.f K B p s rt tg tl th al ah).bind fun (t, lo, hi, p', s', rt', tg', tl', th', al', ah') =>
    if (t == 0) = true then some (L, p') else
    (subB B lo hi).bind fun D => (subB B tl' th').bind fun T =>
    if (t == 7) = true then ((subB B al' ah').bind fun V => hmll K B k p' s' rt' tg' tl' th' al' ah' (L ++ [(hkind t, D, T, V)])) else
    hmll K B k p' s' rt' tg' tl' th' al' ah' (L ++ [(hkind t, D, T, [])])
def htmlF (N K : Nat) (T : List Int) : Option (List GTok × Bool) := (hmll K (T ++ [0]) N 0 0 0 false 0 0 0 0 []).bind fun (L, p) => some (L, atEnd (T ++ [0]) p 0)
end Go.Proofs.YtfcedenofbefcaaGreatDoor
