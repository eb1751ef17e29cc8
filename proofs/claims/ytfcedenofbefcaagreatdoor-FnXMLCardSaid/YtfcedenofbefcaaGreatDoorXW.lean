import Derived.Test.YtfcedenofbefcaaGreatDoorX6
import Derived.Test.YtfcedenofbefcaaGreatDoorP0
namespace Go.Proofs.YtfcedenofbefcaaGreatDoor
open Go.RowKit
set_option linter.unusedVariables false
set_option linter.unusedSimpArgs false
/-! The loop of impl.XML, as a plain function. -/
def xkind (t : Int) : List Int :=
  if t = 1 then kComment else if t = 2 then kDoctype else if t = 3 then kCDATA else if t = 4 then kStartTag else if t = 5 then kStartTagPI else if t = 6 then kStartTagClose else
  if t = 7 then kStartTagVoid else if t = 8 then kStartTagClosePI else if t = 9 then kEndTag else if t = 10 then kAttribute else kText
/-- What the loop of impl.XML collects. -/
def xmll (K : Nat) (B : List Int) : Nat → Int → Int → Bool → Int → Int → Int → Int → List GTok → Option (List GTok × Int)
  | 0, p, _, _, _, _, _, _, L => some (L, p)
  | k + 1, p, s, tg, tl, th, al, ah, L => (xNext.f K B p s tg tl th al ah).bind fun (t, lo, hi, p', s', tg', tl', th', al', ah') =>
    if (t == 0) = true then some (L, p') else
    (subB B lo hi).bind fun D => (subB B tl' th').bind fun T =>
    if (t == 10) = true then ((subB B al' ah').bind fun V => xmll K B k p' s' tg' tl' th' al' ah' (L ++ [(xkind t, D, T, V)])) else
    xmll K B k p' s' tg' tl' th' al' ah' (L ++ [(xkind t, D, T, [])])
def xmlF (N K : Nat) (T : List Int) : Option (List GTok × Bool) := (xmll K (T ++ [0]) N 0 0 false 0 0 0 0 []).bind fun (L, p) => some (L, atEnd (T ++ [0]) p 0)
end Go.Proofs.YtfcedenofbefcaaGreatDoor
