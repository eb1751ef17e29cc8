/-
  NARROWER THAN 'FOR EVERY INPUT', by the rows' own cells (each row's printed sentence says how): FnAddress: laid · FnIdent: laid · FnCSSSplit: laid · FnCSSTokens: laid.
  DERIVED. THE GIVEN ROWS OF THIS SEAT. 4 by the template 'for every input the law returns true; each argument reads behind the call as it read before'; 0 by the template 'total and deterministic' (their statements: YteonakpgenkhkaaDoorTotals.lean).
  GIVEN WITH THE SEED: the statements are not yours to turn. If you find one false, say at which input.
  Laid BY PROGRAM, IN A SANDBOX (cutbox-rows.mjs): the forced cells as the released guide's own fill.sh prints them over the translation 33e1fc551f4cbed3… (all of the seat's roots in one cut). By AI agents, Wed Nov 11 2026. No macro, syntax, notation, axiom, sorry.
-/
import Derived.Test.YteonakpgenkhkaaDoorChecked
import GoSem.PinnedTables
import GoSem.Claim
import GoSem.ClaimJoined
import GoSem.ClaimMapViews
import Derived.JoinedTies
import Derived.KernelRfl
namespace Go.Proofs.YteonakpgenkhkaaDoor
/- THE CELL 'sum', in the pinned program and in every row, IS THE sha256 OF THE DUMP (.gsa) THAT YteonakpgenkhkaaDoorProg.lean LOADS. Nothing in Lean hashes anything: it is a label: what it is worth is what the hold of that sum in a sandbox is worth. -/
noncomputable def Tryd.pinned : Pinned := { name := "yteonakpgenkhkaadoor", sum := "33e1fc551f4cbed323a348c4b8d63e52c70e754b834d18e607407ed96214df41", checked := Tryd.checked }
namespace Rows
def none {H : Type} : Left H := { results := [], args := [] }

/- WHAT THE LISTED PACKAGE-LEVEL VARIABLES READ AS WHEN THE CALL BEGINS. Each datum BY PROGRAM (the guide's laid-datum.mjs) off the statement by which the dump's own 'gosem.cut.vars' lays the variable. In a bare row this is a premise. The card (YteonakpgenkhkaaDoorCards.lean) ties it to the program's text. -/
def laid_unicode_utf8_acceptRanges {H : Type} : DataW H := .agg [.agg [.lit (.int .u8 128), .lit (.int .u8 191)], .agg [.lit (.int .u8 160), .lit (.int .u8 191)], .agg [.lit (.int .u8 128), .lit (.int .u8 159)], .agg [.lit (.int .u8 144), .lit (.int .u8 191)], .agg [.lit (.int .u8 128), .lit (.int .u8 143)], .agg [.lit (.int .u8 0), .lit (.int .u8 0)], .agg [.lit (.int .u8 0), .lit (.int .u8 0)], .agg [.lit (.int .u8 0), .lit (.int .u8 0)], .agg [.lit (.int .u8 0), .lit (.int .u8 0)], .agg [.lit (.int .u8 0), .lit (.int .u8 0)], .agg [.lit (.int .u8 0), .lit (.int .u8 0)], .agg [.lit (.int .u8 0), .lit (.int .u8 0)], .agg [.lit (.int .u8 0), .lit (.int .u8 0)], .agg [.lit (.int .u8 0), .lit (.int .u8 0)], .agg [.lit (.int .u8 0), .lit (.int .u8 0)], .agg [.lit (.int .u8 0), .lit (.int .u8 0)]]
def laid_io_EOF {H : Type} : DataW H := .iface "*errors.errorString" (.ptr (.agg [.lit (.string [69, 79, 70])]))
/-- One of Go's own tables, pinned by name: the form's constant. -/
def laid_unicode_utf8_first : DataW Unit := Go.Pinned.utf8First

/-- 'laws.FnAddress': WHATEVER THE INPUT: true; the input reads as it did. -/
def fnAddressSpec : ChangeSpec := { name := "fnAddress", fn := fun _ => fun
  | [d] => { results := [.lit (.bool true)], args := [d] }
  | _ => none }
def fnAddressRow : OpenClaim := { program := "yteonakpgenkhkaadoor", sum := "33e1fc551f4cbed323a348c4b8d63e52c70e754b834d18e607407ed96214df41", func := "loop.example/pub-g01476/laws.FnAddress", spec := "fnAddress", unfollowed := true, recurses := true, named := ["unicode/utf8.first", "unicode/utf8.acceptRanges", "io.EOF"], apart := false, laid := [("unicode/utf8.acceptRanges", laid_unicode_utf8_acceptRanges), ("io.EOF", laid_io_EOF), ("unicode/utf8.first", laid_unicode_utf8_first)] }
def FnAddressSaid : Prop := fnAddressRow.holds Tryd.pinned (OpenSpec.ofChange fnAddressSpec)

/-- ITS FALSE NEIGHBOUR: 'it returns false'. Refute it at one input. -/
def fnAddressWrong : ChangeSpec := { name := "fnAddress", fn := fun _ => fun
  | [d] => { results := [.lit (.bool false)], args := [d] }
  | _ => none }
def FnAddressWrongFalsely : Prop := fnAddressRow.holds Tryd.pinned (OpenSpec.ofChange fnAddressWrong)

/-- 'laws.FnIdent': WHATEVER THE INPUT: true; the input reads as it did. -/
def fnIdentSpec : ChangeSpec := { name := "fnIdent", fn := fun _ => fun
  | [d] => { results := [.lit (.bool true)], args := [d] }
  | _ => none }
def fnIdentRow : OpenClaim := { program := "yteonakpgenkhkaadoor", sum := "33e1fc551f4cbed323a348c4b8d63e52c70e754b834d18e607407ed96214df41", func := "loop.example/pub-g01476/laws.FnIdent", spec := "fnIdent", unfollowed := true, recurses := true, named := ["unicode/utf8.first", "unicode/utf8.acceptRanges", "io.EOF"], apart := false, laid := [("unicode/utf8.acceptRanges", laid_unicode_utf8_acceptRanges), ("io.EOF", laid_io_EOF), ("unicode/utf8.first", laid_unicode_utf8_first)] }
def FnIdentSaid : Prop := fnIdentRow.holds Tryd.pinned (OpenSpec.ofChange fnIdentSpec)

/-- ITS FALSE NEIGHBOUR: 'it returns false'. Refute it at one input. -/
def fnIdentWrong : ChangeSpec := { name := "fnIdent", fn := fun _ => fun
  | [d] => { results := [.lit (.bool false)], args := [d] }
  | _ => none }
def FnIdentWrongFalsely : Prop := fnIdentRow.holds Tryd.pinned (OpenSpec.ofChange fnIdentWrong)

/-- 'laws.FnCSSSplit': WHATEVER THE INPUT: true; the input reads as it did. -/
def fnCSSSplitSpec : ChangeSpec := { name := "fnCSSSplit", fn := fun _ => fun
  | [d1, d2] => { results := [.lit (.bool true)], args := [d1, d2] }
  | _ => none }
def fnCSSSplitRow : OpenClaim := { program := "yteonakpgenkhkaadoor", sum := "33e1fc551f4cbed323a348c4b8d63e52c70e754b834d18e607407ed96214df41", func := "loop.example/pub-g01476/laws.FnCSSSplit", spec := "fnCSSSplit", named := ["unicode/utf8.first", "unicode/utf8.acceptRanges", "io.EOF"], apart := false, laid := [("unicode/utf8.acceptRanges", laid_unicode_utf8_acceptRanges), ("io.EOF", laid_io_EOF), ("unicode/utf8.first", laid_unicode_utf8_first)] }
def FnCSSSplitSaid : Prop := fnCSSSplitRow.holds Tryd.pinned (OpenSpec.ofChange fnCSSSplitSpec)

/-- ITS FALSE NEIGHBOUR: 'it returns false'. Refute it at one input. -/
def fnCSSSplitWrong : ChangeSpec := { name := "fnCSSSplit", fn := fun _ => fun
  | [d1, d2] => { results := [.lit (.bool false)], args := [d1, d2] }
  | _ => none }
def FnCSSSplitWrongFalsely : Prop := fnCSSSplitRow.holds Tryd.pinned (OpenSpec.ofChange fnCSSSplitWrong)

/-- 'laws.FnCSSTokens': WHATEVER THE INPUT: true; the input reads as it did. -/
def fnCSSTokensSpec : ChangeSpec := { name := "fnCSSTokens", fn := fun _ => fun
  | [d] => { results := [.lit (.bool true)], args := [d] }
  | _ => none }
def fnCSSTokensRow : OpenClaim := { program := "yteonakpgenkhkaadoor", sum := "33e1fc551f4cbed323a348c4b8d63e52c70e754b834d18e607407ed96214df41", func := "loop.example/pub-g01476/laws.FnCSSTokens", spec := "fnCSSTokens", named := ["unicode/utf8.first", "unicode/utf8.acceptRanges", "io.EOF"], apart := false, laid := [("unicode/utf8.acceptRanges", laid_unicode_utf8_acceptRanges), ("io.EOF", laid_io_EOF), ("unicode/utf8.first", laid_unicode_utf8_first)] }
def FnCSSTokensSaid : Prop := fnCSSTokensRow.holds Tryd.pinned (OpenSpec.ofChange fnCSSTokensSpec)

/-- ITS FALSE NEIGHBOUR: 'it returns false'. Refute it at one input. -/
def fnCSSTokensWrong : ChangeSpec := { name := "fnCSSTokens", fn := fun _ => fun
  | [d] => { results := [.lit (.bool false)], args := [d] }
  | _ => none }
def FnCSSTokensWrongFalsely : Prop := fnCSSTokensRow.holds Tryd.pinned (OpenSpec.ofChange fnCSSTokensWrong)

/- THE SECOND FORM. 'bulk': how many values and letters a reading holds, each counted each time it is reached (what is shared counts as often as it is met; a slice's spare places count too). A statement '..UptoSaid' is the law's where the arguments, and the package variables that the reading takes, are together of bulk at most 1048576: NARROWER than '..Said'. Prove '..Said' where nothing that the law and all that it calls make is longer than what came in: it says more and counts as full. Else prove '..UptoSaid'. A law counts once. -/
mutual
def uptoBulk {H : Type} : DataW H → Nat
  | .lit (.string bytes) => bytes.length + 1
  | .lit _ => 1
  | .nil => 1
  | .ptr d => uptoBulk d + 1
  | .slice elems spare => uptoBulkAll elems + uptoBulkAll spare + 1
  | .agg parts => uptoBulkAll parts + 1
  | .iface _ d => uptoBulk d + 1
  | .map entries => uptoBulkEntries entries + 1
  | .held _ => 1
def uptoBulkAll {H : Type} : List (DataW H) → Nat
  | [] => 0
  | d :: r => uptoBulk d + uptoBulkAll r
def uptoBulkEntries {H : Type} : List (Lit × DataW H) → Nat
  | [] => 0
  | x :: r => uptoBulkEntry x + uptoBulkEntries r
def uptoBulkEntry {H : Type} : Lit × DataW H → Nat
  | (.string bytes, d) => bytes.length + uptoBulk d + 1
  | (_, d) => uptoBulk d + 1
 end
def uptoSmall : (H : Type) → List (DataW H) → Bool := fun _ ds => decide (uptoBulkAll ds ≤ 1048576)
def OpenSpec.upto (s : _root_.Go.ChangeSpec) : _root_.Go.OpenSpec := { _root_.Go.OpenSpec.ofChange s with cond := some uptoSmall }

/-- 'laws.FnAddress', WHERE WHAT IT READS IS OF BULK AT MOST 1048576: true; the input reads as it did. -/
def fnAddressUptoRow : OpenClaim := { program := "yteonakpgenkhkaadoor", sum := "33e1fc551f4cbed323a348c4b8d63e52c70e754b834d18e607407ed96214df41", func := "loop.example/pub-g01476/laws.FnAddress", spec := "fnAddress", unfollowed := true, recurses := true, named := ["unicode/utf8.first", "unicode/utf8.acceptRanges", "io.EOF"], apart := false, laid := [("unicode/utf8.acceptRanges", laid_unicode_utf8_acceptRanges), ("io.EOF", laid_io_EOF), ("unicode/utf8.first", laid_unicode_utf8_first)], narrowed := true }
def FnAddressUptoSaid : Prop := fnAddressUptoRow.holds Tryd.pinned (OpenSpec.upto fnAddressSpec)

/-- 'laws.FnIdent', WHERE WHAT IT READS IS OF BULK AT MOST 1048576: true; the input reads as it did. -/
def fnIdentUptoRow : OpenClaim := { program := "yteonakpgenkhkaadoor", sum := "33e1fc551f4cbed323a348c4b8d63e52c70e754b834d18e607407ed96214df41", func := "loop.example/pub-g01476/laws.FnIdent", spec := "fnIdent", unfollowed := true, recurses := true, named := ["unicode/utf8.first", "unicode/utf8.acceptRanges", "io.EOF"], apart := false, laid := [("unicode/utf8.acceptRanges", laid_unicode_utf8_acceptRanges), ("io.EOF", laid_io_EOF), ("unicode/utf8.first", laid_unicode_utf8_first)], narrowed := true }
def FnIdentUptoSaid : Prop := fnIdentUptoRow.holds Tryd.pinned (OpenSpec.upto fnIdentSpec)

/-- 'laws.FnCSSSplit', WHERE WHAT IT READS IS OF BULK AT MOST 1048576: true; the input reads as it did. -/
def fnCSSSplitUptoRow : OpenClaim := { program := "yteonakpgenkhkaadoor", sum := "33e1fc551f4cbed323a348c4b8d63e52c70e754b834d18e607407ed96214df41", func := "loop.example/pub-g01476/laws.FnCSSSplit", spec := "fnCSSSplit", named := ["unicode/utf8.first", "unicode/utf8.acceptRanges", "io.EOF"], apart := false, laid := [("unicode/utf8.acceptRanges", laid_unicode_utf8_acceptRanges), ("io.EOF", laid_io_EOF), ("unicode/utf8.first", laid_unicode_utf8_first)], narrowed := true }
def FnCSSSplitUptoSaid : Prop := fnCSSSplitUptoRow.holds Tryd.pinned (OpenSpec.upto fnCSSSplitSpec)

/-- 'laws.FnCSSTokens', WHERE WHAT IT READS IS OF BULK AT MOST 1048576: true; the input reads as it did. -/
def fnCSSTokensUptoRow : OpenClaim := { program := "yteonakpgenkhkaadoor", sum := "33e1fc551f4cbed323a348c4b8d63e52c70e754b834d18e607407ed96214df41", func := "loop.example/pub-g01476/laws.FnCSSTokens", spec := "fnCSSTokens", named := ["unicode/utf8.first", "unicode/utf8.acceptRanges", "io.EOF"], apart := false, laid := [("unicode/utf8.acceptRanges", laid_unicode_utf8_acceptRanges), ("io.EOF", laid_io_EOF), ("unicode/utf8.first", laid_unicode_utf8_first)], narrowed := true }
def FnCSSTokensUptoSaid : Prop := fnCSSTokensUptoRow.holds Tryd.pinned (OpenSpec.upto fnCSSTokensSpec)

end Rows
end Go.Proofs.YteonakpgenkhkaaDoor
