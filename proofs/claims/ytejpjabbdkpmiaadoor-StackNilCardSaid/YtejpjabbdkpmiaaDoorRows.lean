/-
  NARROWER THAN 'FOR EVERY INPUT', by the rows' own cells (each row's printed sentence says how): StackScopes: laid · StackClears: laid · StackNests: laid · StackSpecials: laid · StackReads: laid · StackBreaks: laid · StackNames: laid · StackApart: laid · StackUndoes: laid · StackOwn: laid · StackQuirks: laid · StackLists: laid · StackThree: laid · StackAdjusts: laid · StackValues: laid · StackPlays: laid · StackFirst: laid · StackNil: laid.
  DERIVED. THE GIVEN ROWS OF THIS SEAT. 18 by the template 'for every input the law returns true; each argument reads behind the call as it read before'; 0 by the template 'total and deterministic' (their statements: YtejpjabbdkpmiaaDoorTotals.lean).
  GIVEN WITH THE SEED: the statements are not yours to turn. If you find one false, say at which input.
  Laid BY PROGRAM, IN A SANDBOX (cutbox-rows.mjs): the forced cells as the released guide's own fill.sh prints them over the translation 662432fbeed7eb09… (all of the seat's roots in one cut). By AI agents, Wed Nov 11 2026. No macro, syntax, notation, axiom, sorry.
-/
import Derived.Test.YtejpjabbdkpmiaaDoorChecked
import GoSem.Claim
import GoSem.ClaimJoined
import GoSem.ClaimMapViews
import Derived.JoinedTies
import Derived.KernelRfl
namespace Go.Proofs.YtejpjabbdkpmiaaDoor
/- THE CELL 'sum', in the pinned program and in every row, IS THE sha256 OF THE DUMP (.gsa) THAT YtejpjabbdkpmiaaDoorProg.lean LOADS. Nothing in Lean hashes anything: it is a label: what it is worth is what the hold of that sum in a sandbox is worth. -/
noncomputable def Tryd.pinned : Pinned := { name := "ytejpjabbdkpmiaadoor", sum := "662432fbeed7eb097d46b536d46ecb290cb422b613dbaeb73679c68d67d52727", checked := Tryd.checked }
namespace Rows
def none {H : Type} : Left H := { results := [], args := [] }

/- WHAT THE LISTED PACKAGE-LEVEL VARIABLES READ AS WHEN THE CALL BEGINS. Each datum BY PROGRAM (the guide's laid-datum.mjs) off the statement by which the dump's own 'gosem.cut.vars' lays the variable. In a bare row this is a premise. The card (YtejpjabbdkpmiaaDoorCards.lean) ties it to the program's text. -/
def laid_unicode_White_Space {H : Type} : DataW H := .ptr (.agg [.slice [.agg [.lit (.int .u16 9), .lit (.int .u16 13), .lit (.int .u16 1)], .agg [.lit (.int .u16 32), .lit (.int .u16 133), .lit (.int .u16 101)], .agg [.lit (.int .u16 160), .lit (.int .u16 5760), .lit (.int .u16 5600)], .agg [.lit (.int .u16 8192), .lit (.int .u16 8202), .lit (.int .u16 1)], .agg [.lit (.int .u16 8232), .lit (.int .u16 8233), .lit (.int .u16 1)], .agg [.lit (.int .u16 8239), .lit (.int .u16 8287), .lit (.int .u16 48)], .agg [.lit (.int .u16 12288), .lit (.int .u16 12288), .lit (.int .u16 1)]] [], .nil, .lit (.int .i64 2)])
def laid_strings_asciiSpace {H : Type} : DataW H := .agg [.lit (.int .u8 0), .lit (.int .u8 0), .lit (.int .u8 0), .lit (.int .u8 0), .lit (.int .u8 0), .lit (.int .u8 0), .lit (.int .u8 0), .lit (.int .u8 0), .lit (.int .u8 0), .lit (.int .u8 1), .lit (.int .u8 1), .lit (.int .u8 1), .lit (.int .u8 1), .lit (.int .u8 1), .lit (.int .u8 0), .lit (.int .u8 0), .lit (.int .u8 0), .lit (.int .u8 0), .lit (.int .u8 0), .lit (.int .u8 0), .lit (.int .u8 0), .lit (.int .u8 0), .lit (.int .u8 0), .lit (.int .u8 0), .lit (.int .u8 0), .lit (.int .u8 0), .lit (.int .u8 0), .lit (.int .u8 0), .lit (.int .u8 0), .lit (.int .u8 0), .lit (.int .u8 0), .lit (.int .u8 0), .lit (.int .u8 1), .lit (.int .u8 0), .lit (.int .u8 0), .lit (.int .u8 0), .lit (.int .u8 0), .lit (.int .u8 0), .lit (.int .u8 0), .lit (.int .u8 0), .lit (.int .u8 0), .lit (.int .u8 0), .lit (.int .u8 0), .lit (.int .u8 0), .lit (.int .u8 0), .lit (.int .u8 0), .lit (.int .u8 0), .lit (.int .u8 0), .lit (.int .u8 0), .lit (.int .u8 0), .lit (.int .u8 0), .lit (.int .u8 0), .lit (.int .u8 0), .lit (.int .u8 0), .lit (.int .u8 0), .lit (.int .u8 0), .lit (.int .u8 0), .lit (.int .u8 0), .lit (.int .u8 0), .lit (.int .u8 0), .lit (.int .u8 0), .lit (.int .u8 0), .lit (.int .u8 0), .lit (.int .u8 0), .lit (.int .u8 0), .lit (.int .u8 0), .lit (.int .u8 0), .lit (.int .u8 0), .lit (.int .u8 0), .lit (.int .u8 0), .lit (.int .u8 0), .lit (.int .u8 0), .lit (.int .u8 0), .lit (.int .u8 0), .lit (.int .u8 0), .lit (.int .u8 0), .lit (.int .u8 0), .lit (.int .u8 0), .lit (.int .u8 0), .lit (.int .u8 0), .lit (.int .u8 0), .lit (.int .u8 0), .lit (.int .u8 0), .lit (.int .u8 0), .lit (.int .u8 0), .lit (.int .u8 0), .lit (.int .u8 0), .lit (.int .u8 0), .lit (.int .u8 0), .lit (.int .u8 0), .lit (.int .u8 0), .lit (.int .u8 0), .lit (.int .u8 0), .lit (.int .u8 0), .lit (.int .u8 0), .lit (.int .u8 0), .lit (.int .u8 0), .lit (.int .u8 0), .lit (.int .u8 0), .lit (.int .u8 0), .lit (.int .u8 0), .lit (.int .u8 0), .lit (.int .u8 0), .lit (.int .u8 0), .lit (.int .u8 0), .lit (.int .u8 0), .lit (.int .u8 0), .lit (.int .u8 0), .lit (.int .u8 0), .lit (.int .u8 0), .lit (.int .u8 0), .lit (.int .u8 0), .lit (.int .u8 0), .lit (.int .u8 0), .lit (.int .u8 0), .lit (.int .u8 0), .lit (.int .u8 0), .lit (.int .u8 0), .lit (.int .u8 0), .lit (.int .u8 0), .lit (.int .u8 0), .lit (.int .u8 0), .lit (.int .u8 0), .lit (.int .u8 0), .lit (.int .u8 0), .lit (.int .u8 0), .lit (.int .u8 0), .lit (.int .u8 0), .lit (.int .u8 0), .lit (.int .u8 0), .lit (.int .u8 0), .lit (.int .u8 0), .lit (.int .u8 0), .lit (.int .u8 0), .lit (.int .u8 0), .lit (.int .u8 0), .lit (.int .u8 0), .lit (.int .u8 0), .lit (.int .u8 0), .lit (.int .u8 0), .lit (.int .u8 0), .lit (.int .u8 0), .lit (.int .u8 0), .lit (.int .u8 0), .lit (.int .u8 0), .lit (.int .u8 0), .lit (.int .u8 0), .lit (.int .u8 0), .lit (.int .u8 0), .lit (.int .u8 0), .lit (.int .u8 0), .lit (.int .u8 0), .lit (.int .u8 0), .lit (.int .u8 0), .lit (.int .u8 0), .lit (.int .u8 0), .lit (.int .u8 0), .lit (.int .u8 0), .lit (.int .u8 0), .lit (.int .u8 0), .lit (.int .u8 0), .lit (.int .u8 0), .lit (.int .u8 0), .lit (.int .u8 0), .lit (.int .u8 0), .lit (.int .u8 0), .lit (.int .u8 0), .lit (.int .u8 0), .lit (.int .u8 0), .lit (.int .u8 0), .lit (.int .u8 0), .lit (.int .u8 0), .lit (.int .u8 0), .lit (.int .u8 0), .lit (.int .u8 0), .lit (.int .u8 0), .lit (.int .u8 0), .lit (.int .u8 0), .lit (.int .u8 0), .lit (.int .u8 0), .lit (.int .u8 0), .lit (.int .u8 0), .lit (.int .u8 0), .lit (.int .u8 0), .lit (.int .u8 0), .lit (.int .u8 0), .lit (.int .u8 0), .lit (.int .u8 0), .lit (.int .u8 0), .lit (.int .u8 0), .lit (.int .u8 0), .lit (.int .u8 0), .lit (.int .u8 0), .lit (.int .u8 0), .lit (.int .u8 0), .lit (.int .u8 0), .lit (.int .u8 0), .lit (.int .u8 0), .lit (.int .u8 0), .lit (.int .u8 0), .lit (.int .u8 0), .lit (.int .u8 0), .lit (.int .u8 0), .lit (.int .u8 0), .lit (.int .u8 0), .lit (.int .u8 0), .lit (.int .u8 0), .lit (.int .u8 0), .lit (.int .u8 0), .lit (.int .u8 0), .lit (.int .u8 0), .lit (.int .u8 0), .lit (.int .u8 0), .lit (.int .u8 0), .lit (.int .u8 0), .lit (.int .u8 0), .lit (.int .u8 0), .lit (.int .u8 0), .lit (.int .u8 0), .lit (.int .u8 0), .lit (.int .u8 0), .lit (.int .u8 0), .lit (.int .u8 0), .lit (.int .u8 0), .lit (.int .u8 0), .lit (.int .u8 0), .lit (.int .u8 0), .lit (.int .u8 0), .lit (.int .u8 0), .lit (.int .u8 0), .lit (.int .u8 0), .lit (.int .u8 0), .lit (.int .u8 0), .lit (.int .u8 0), .lit (.int .u8 0), .lit (.int .u8 0), .lit (.int .u8 0), .lit (.int .u8 0), .lit (.int .u8 0), .lit (.int .u8 0), .lit (.int .u8 0), .lit (.int .u8 0), .lit (.int .u8 0), .lit (.int .u8 0), .lit (.int .u8 0), .lit (.int .u8 0), .lit (.int .u8 0), .lit (.int .u8 0), .lit (.int .u8 0), .lit (.int .u8 0), .lit (.int .u8 0), .lit (.int .u8 0), .lit (.int .u8 0), .lit (.int .u8 0), .lit (.int .u8 0), .lit (.int .u8 0)]

/-- 'thicketlaw06.StackScopes': WHATEVER THE INPUT: true; the input reads as it did. -/
def stackScopesSpec : ChangeSpec := { name := "stackScopes", fn := fun _ => fun
  | [d1, d2, d3, d4] => { results := [.lit (.bool true)], args := [d1, d2, d3, d4] }
  | _ => none }
def stackScopesRow : OpenClaim := { program := "ytejpjabbdkpmiaadoor", sum := "662432fbeed7eb097d46b536d46ecb290cb422b613dbaeb73679c68d67d52727", func := "thicket/thicketlaw06.StackScopes", spec := "stackScopes", unfollowed := true, recurses := true, named := ["strings.asciiSpace", "unicode.White_Space"], apart := false, laid := [("unicode.White_Space", laid_unicode_White_Space), ("strings.asciiSpace", laid_strings_asciiSpace)] }
def StackScopesSaid : Prop := stackScopesRow.holds Tryd.pinned (OpenSpec.ofChange stackScopesSpec)

/-- ITS FALSE NEIGHBOUR: 'it returns false'. Refute it at one input. -/
def stackScopesWrong : ChangeSpec := { name := "stackScopes", fn := fun _ => fun
  | [d1, d2, d3, d4] => { results := [.lit (.bool false)], args := [d1, d2, d3, d4] }
  | _ => none }
def StackScopesWrongFalsely : Prop := stackScopesRow.holds Tryd.pinned (OpenSpec.ofChange stackScopesWrong)

/-- 'thicketlaw06.StackClears': WHATEVER THE INPUT: true; the input reads as it did. -/
def stackClearsSpec : ChangeSpec := { name := "stackClears", fn := fun _ => fun
  | [d1, d2] => { results := [.lit (.bool true)], args := [d1, d2] }
  | _ => none }
def stackClearsRow : OpenClaim := { program := "ytejpjabbdkpmiaadoor", sum := "662432fbeed7eb097d46b536d46ecb290cb422b613dbaeb73679c68d67d52727", func := "thicket/thicketlaw06.StackClears", spec := "stackClears", unfollowed := true, recurses := true, named := ["strings.asciiSpace", "unicode.White_Space"], apart := false, laid := [("unicode.White_Space", laid_unicode_White_Space), ("strings.asciiSpace", laid_strings_asciiSpace)] }
def StackClearsSaid : Prop := stackClearsRow.holds Tryd.pinned (OpenSpec.ofChange stackClearsSpec)

/-- ITS FALSE NEIGHBOUR: 'it returns false'. Refute it at one input. -/
def stackClearsWrong : ChangeSpec := { name := "stackClears", fn := fun _ => fun
  | [d1, d2] => { results := [.lit (.bool false)], args := [d1, d2] }
  | _ => none }
def StackClearsWrongFalsely : Prop := stackClearsRow.holds Tryd.pinned (OpenSpec.ofChange stackClearsWrong)

/-- 'thicketlaw06.StackNests': WHATEVER THE INPUT: true; the input reads as it did. -/
def stackNestsSpec : ChangeSpec := { name := "stackNests", fn := fun _ => fun
  | [d1, d2, d3] => { results := [.lit (.bool true)], args := [d1, d2, d3] }
  | _ => none }
def stackNestsRow : OpenClaim := { program := "ytejpjabbdkpmiaadoor", sum := "662432fbeed7eb097d46b536d46ecb290cb422b613dbaeb73679c68d67d52727", func := "thicket/thicketlaw06.StackNests", spec := "stackNests", unfollowed := true, recurses := true, named := ["strings.asciiSpace", "unicode.White_Space"], apart := false, laid := [("unicode.White_Space", laid_unicode_White_Space), ("strings.asciiSpace", laid_strings_asciiSpace)] }
def StackNestsSaid : Prop := stackNestsRow.holds Tryd.pinned (OpenSpec.ofChange stackNestsSpec)

/-- ITS FALSE NEIGHBOUR: 'it returns false'. Refute it at one input. -/
def stackNestsWrong : ChangeSpec := { name := "stackNests", fn := fun _ => fun
  | [d1, d2, d3] => { results := [.lit (.bool false)], args := [d1, d2, d3] }
  | _ => none }
def StackNestsWrongFalsely : Prop := stackNestsRow.holds Tryd.pinned (OpenSpec.ofChange stackNestsWrong)

/-- 'thicketlaw06.StackSpecials': WHATEVER THE INPUT: true; the input reads as it did. -/
def stackSpecialsSpec : ChangeSpec := { name := "stackSpecials", fn := fun _ => fun
  | [d1, d2, d3] => { results := [.lit (.bool true)], args := [d1, d2, d3] }
  | _ => none }
def stackSpecialsRow : OpenClaim := { program := "ytejpjabbdkpmiaadoor", sum := "662432fbeed7eb097d46b536d46ecb290cb422b613dbaeb73679c68d67d52727", func := "thicket/thicketlaw06.StackSpecials", spec := "stackSpecials", unfollowed := true, recurses := true, named := ["strings.asciiSpace", "unicode.White_Space"], apart := false, laid := [("unicode.White_Space", laid_unicode_White_Space), ("strings.asciiSpace", laid_strings_asciiSpace)] }
def StackSpecialsSaid : Prop := stackSpecialsRow.holds Tryd.pinned (OpenSpec.ofChange stackSpecialsSpec)

/-- ITS FALSE NEIGHBOUR: 'it returns false'. Refute it at one input. -/
def stackSpecialsWrong : ChangeSpec := { name := "stackSpecials", fn := fun _ => fun
  | [d1, d2, d3] => { results := [.lit (.bool false)], args := [d1, d2, d3] }
  | _ => none }
def StackSpecialsWrongFalsely : Prop := stackSpecialsRow.holds Tryd.pinned (OpenSpec.ofChange stackSpecialsWrong)

/-- 'thicketlaw06.StackReads': WHATEVER THE INPUT: true; the input reads as it did. -/
def stackReadsSpec : ChangeSpec := { name := "stackReads", fn := fun _ => fun
  | [d1, d2, d3, d4] => { results := [.lit (.bool true)], args := [d1, d2, d3, d4] }
  | _ => none }
def stackReadsRow : OpenClaim := { program := "ytejpjabbdkpmiaadoor", sum := "662432fbeed7eb097d46b536d46ecb290cb422b613dbaeb73679c68d67d52727", func := "thicket/thicketlaw06.StackReads", spec := "stackReads", unfollowed := true, recurses := true, named := ["strings.asciiSpace", "unicode.White_Space"], apart := false, laid := [("unicode.White_Space", laid_unicode_White_Space), ("strings.asciiSpace", laid_strings_asciiSpace)] }
def StackReadsSaid : Prop := stackReadsRow.holds Tryd.pinned (OpenSpec.ofChange stackReadsSpec)

/-- ITS FALSE NEIGHBOUR: 'it returns false'. Refute it at one input. -/
def stackReadsWrong : ChangeSpec := { name := "stackReads", fn := fun _ => fun
  | [d1, d2, d3, d4] => { results := [.lit (.bool false)], args := [d1, d2, d3, d4] }
  | _ => none }
def StackReadsWrongFalsely : Prop := stackReadsRow.holds Tryd.pinned (OpenSpec.ofChange stackReadsWrong)

/-- 'thicketlaw06.StackBreaks': WHATEVER THE INPUT: true; the input reads as it did. -/
def stackBreaksSpec : ChangeSpec := { name := "stackBreaks", fn := fun _ => fun
  | [d] => { results := [.lit (.bool true)], args := [d] }
  | _ => none }
def stackBreaksRow : OpenClaim := { program := "ytejpjabbdkpmiaadoor", sum := "662432fbeed7eb097d46b536d46ecb290cb422b613dbaeb73679c68d67d52727", func := "thicket/thicketlaw06.StackBreaks", spec := "stackBreaks", unfollowed := true, recurses := true, named := ["strings.asciiSpace", "unicode.White_Space"], apart := false, laid := [("unicode.White_Space", laid_unicode_White_Space), ("strings.asciiSpace", laid_strings_asciiSpace)] }
def StackBreaksSaid : Prop := stackBreaksRow.holds Tryd.pinned (OpenSpec.ofChange stackBreaksSpec)

/-- ITS FALSE NEIGHBOUR: 'it returns false'. Refute it at one input. -/
def stackBreaksWrong : ChangeSpec := { name := "stackBreaks", fn := fun _ => fun
  | [d] => { results := [.lit (.bool false)], args := [d] }
  | _ => none }
def StackBreaksWrongFalsely : Prop := stackBreaksRow.holds Tryd.pinned (OpenSpec.ofChange stackBreaksWrong)

/-- 'thicketlaw06.StackNames': WHATEVER THE INPUT: true; the input reads as it did. -/
def stackNamesSpec : ChangeSpec := { name := "stackNames", fn := fun _ => fun
  | [d] => { results := [.lit (.bool true)], args := [d] }
  | _ => none }
def stackNamesRow : OpenClaim := { program := "ytejpjabbdkpmiaadoor", sum := "662432fbeed7eb097d46b536d46ecb290cb422b613dbaeb73679c68d67d52727", func := "thicket/thicketlaw06.StackNames", spec := "stackNames", unfollowed := true, recurses := true, named := ["strings.asciiSpace", "unicode.White_Space"], apart := false, laid := [("unicode.White_Space", laid_unicode_White_Space), ("strings.asciiSpace", laid_strings_asciiSpace)] }
def StackNamesSaid : Prop := stackNamesRow.holds Tryd.pinned (OpenSpec.ofChange stackNamesSpec)

/-- ITS FALSE NEIGHBOUR: 'it returns false'. Refute it at one input. -/
def stackNamesWrong : ChangeSpec := { name := "stackNames", fn := fun _ => fun
  | [d] => { results := [.lit (.bool false)], args := [d] }
  | _ => none }
def StackNamesWrongFalsely : Prop := stackNamesRow.holds Tryd.pinned (OpenSpec.ofChange stackNamesWrong)

/-- 'thicketlaw06.StackApart': WHATEVER THE INPUT: true; the input reads as it did. -/
def stackApartSpec : ChangeSpec := { name := "stackApart", fn := fun _ => fun
  | [d] => { results := [.lit (.bool true)], args := [d] }
  | _ => none }
def stackApartRow : OpenClaim := { program := "ytejpjabbdkpmiaadoor", sum := "662432fbeed7eb097d46b536d46ecb290cb422b613dbaeb73679c68d67d52727", func := "thicket/thicketlaw06.StackApart", spec := "stackApart", unfollowed := true, recurses := true, named := ["strings.asciiSpace", "unicode.White_Space"], apart := false, laid := [("unicode.White_Space", laid_unicode_White_Space), ("strings.asciiSpace", laid_strings_asciiSpace)] }
def StackApartSaid : Prop := stackApartRow.holds Tryd.pinned (OpenSpec.ofChange stackApartSpec)

/-- ITS FALSE NEIGHBOUR: 'it returns false'. Refute it at one input. -/
def stackApartWrong : ChangeSpec := { name := "stackApart", fn := fun _ => fun
  | [d] => { results := [.lit (.bool false)], args := [d] }
  | _ => none }
def StackApartWrongFalsely : Prop := stackApartRow.holds Tryd.pinned (OpenSpec.ofChange stackApartWrong)

/-- 'thicketlaw06.StackUndoes': WHATEVER THE INPUT: true; the input reads as it did. -/
def stackUndoesSpec : ChangeSpec := { name := "stackUndoes", fn := fun _ => fun
  | [d1, d2, d3] => { results := [.lit (.bool true)], args := [d1, d2, d3] }
  | _ => none }
def stackUndoesRow : OpenClaim := { program := "ytejpjabbdkpmiaadoor", sum := "662432fbeed7eb097d46b536d46ecb290cb422b613dbaeb73679c68d67d52727", func := "thicket/thicketlaw06.StackUndoes", spec := "stackUndoes", unfollowed := true, recurses := true, named := ["strings.asciiSpace", "unicode.White_Space"], apart := false, laid := [("unicode.White_Space", laid_unicode_White_Space), ("strings.asciiSpace", laid_strings_asciiSpace)] }
def StackUndoesSaid : Prop := stackUndoesRow.holds Tryd.pinned (OpenSpec.ofChange stackUndoesSpec)

/-- ITS FALSE NEIGHBOUR: 'it returns false'. Refute it at one input. -/
def stackUndoesWrong : ChangeSpec := { name := "stackUndoes", fn := fun _ => fun
  | [d1, d2, d3] => { results := [.lit (.bool false)], args := [d1, d2, d3] }
  | _ => none }
def StackUndoesWrongFalsely : Prop := stackUndoesRow.holds Tryd.pinned (OpenSpec.ofChange stackUndoesWrong)

/-- 'thicketlaw06.StackOwn': WHATEVER THE INPUT: true; the input reads as it did. -/
def stackOwnSpec : ChangeSpec := { name := "stackOwn", fn := fun _ => fun
  | [d1, d2] => { results := [.lit (.bool true)], args := [d1, d2] }
  | _ => none }
def stackOwnRow : OpenClaim := { program := "ytejpjabbdkpmiaadoor", sum := "662432fbeed7eb097d46b536d46ecb290cb422b613dbaeb73679c68d67d52727", func := "thicket/thicketlaw06.StackOwn", spec := "stackOwn", unfollowed := true, recurses := true, named := ["strings.asciiSpace", "unicode.White_Space"], apart := false, laid := [("unicode.White_Space", laid_unicode_White_Space), ("strings.asciiSpace", laid_strings_asciiSpace)] }
def StackOwnSaid : Prop := stackOwnRow.holds Tryd.pinned (OpenSpec.ofChange stackOwnSpec)

/-- ITS FALSE NEIGHBOUR: 'it returns false'. Refute it at one input. -/
def stackOwnWrong : ChangeSpec := { name := "stackOwn", fn := fun _ => fun
  | [d1, d2] => { results := [.lit (.bool false)], args := [d1, d2] }
  | _ => none }
def StackOwnWrongFalsely : Prop := stackOwnRow.holds Tryd.pinned (OpenSpec.ofChange stackOwnWrong)

/-- 'thicketlaw06.StackQuirks': WHATEVER THE INPUT: true; the input reads as it did. -/
def stackQuirksSpec : ChangeSpec := { name := "stackQuirks", fn := fun _ => fun
  | [d] => { results := [.lit (.bool true)], args := [d] }
  | _ => none }
def stackQuirksRow : OpenClaim := { program := "ytejpjabbdkpmiaadoor", sum := "662432fbeed7eb097d46b536d46ecb290cb422b613dbaeb73679c68d67d52727", func := "thicket/thicketlaw06.StackQuirks", spec := "stackQuirks", unfollowed := true, recurses := true, named := ["strings.asciiSpace", "unicode.White_Space"], apart := false, laid := [("unicode.White_Space", laid_unicode_White_Space), ("strings.asciiSpace", laid_strings_asciiSpace)] }
def StackQuirksSaid : Prop := stackQuirksRow.holds Tryd.pinned (OpenSpec.ofChange stackQuirksSpec)

/-- ITS FALSE NEIGHBOUR: 'it returns false'. Refute it at one input. -/
def stackQuirksWrong : ChangeSpec := { name := "stackQuirks", fn := fun _ => fun
  | [d] => { results := [.lit (.bool false)], args := [d] }
  | _ => none }
def StackQuirksWrongFalsely : Prop := stackQuirksRow.holds Tryd.pinned (OpenSpec.ofChange stackQuirksWrong)

/-- 'thicketlaw06.StackLists': WHATEVER THE INPUT: true; the input reads as it did. -/
def stackListsSpec : ChangeSpec := { name := "stackLists", fn := fun _ => fun
  | [d1, d2, d3] => { results := [.lit (.bool true)], args := [d1, d2, d3] }
  | _ => none }
def stackListsRow : OpenClaim := { program := "ytejpjabbdkpmiaadoor", sum := "662432fbeed7eb097d46b536d46ecb290cb422b613dbaeb73679c68d67d52727", func := "thicket/thicketlaw06.StackLists", spec := "stackLists", unfollowed := true, recurses := true, named := ["strings.asciiSpace", "unicode.White_Space"], apart := false, laid := [("unicode.White_Space", laid_unicode_White_Space), ("strings.asciiSpace", laid_strings_asciiSpace)] }
def StackListsSaid : Prop := stackListsRow.holds Tryd.pinned (OpenSpec.ofChange stackListsSpec)

/-- ITS FALSE NEIGHBOUR: 'it returns false'. Refute it at one input. -/
def stackListsWrong : ChangeSpec := { name := "stackLists", fn := fun _ => fun
  | [d1, d2, d3] => { results := [.lit (.bool false)], args := [d1, d2, d3] }
  | _ => none }
def StackListsWrongFalsely : Prop := stackListsRow.holds Tryd.pinned (OpenSpec.ofChange stackListsWrong)

/-- 'thicketlaw06.StackThree': WHATEVER THE INPUT: true; the input reads as it did. -/
def stackThreeSpec : ChangeSpec := { name := "stackThree", fn := fun _ => fun
  | [d] => { results := [.lit (.bool true)], args := [d] }
  | _ => none }
def stackThreeRow : OpenClaim := { program := "ytejpjabbdkpmiaadoor", sum := "662432fbeed7eb097d46b536d46ecb290cb422b613dbaeb73679c68d67d52727", func := "thicket/thicketlaw06.StackThree", spec := "stackThree", unfollowed := true, recurses := true, named := ["strings.asciiSpace", "unicode.White_Space"], apart := false, laid := [("unicode.White_Space", laid_unicode_White_Space), ("strings.asciiSpace", laid_strings_asciiSpace)] }
def StackThreeSaid : Prop := stackThreeRow.holds Tryd.pinned (OpenSpec.ofChange stackThreeSpec)

/-- ITS FALSE NEIGHBOUR: 'it returns false'. Refute it at one input. -/
def stackThreeWrong : ChangeSpec := { name := "stackThree", fn := fun _ => fun
  | [d] => { results := [.lit (.bool false)], args := [d] }
  | _ => none }
def StackThreeWrongFalsely : Prop := stackThreeRow.holds Tryd.pinned (OpenSpec.ofChange stackThreeWrong)

/-- 'thicketlaw06.StackAdjusts': WHATEVER THE INPUT: true; the input reads as it did. -/
def stackAdjustsSpec : ChangeSpec := { name := "stackAdjusts", fn := fun _ => fun
  | [d1, d2] => { results := [.lit (.bool true)], args := [d1, d2] }
  | _ => none }
def stackAdjustsRow : OpenClaim := { program := "ytejpjabbdkpmiaadoor", sum := "662432fbeed7eb097d46b536d46ecb290cb422b613dbaeb73679c68d67d52727", func := "thicket/thicketlaw06.StackAdjusts", spec := "stackAdjusts", unfollowed := true, recurses := true, named := ["strings.asciiSpace", "unicode.White_Space"], apart := false, laid := [("unicode.White_Space", laid_unicode_White_Space), ("strings.asciiSpace", laid_strings_asciiSpace)] }
def StackAdjustsSaid : Prop := stackAdjustsRow.holds Tryd.pinned (OpenSpec.ofChange stackAdjustsSpec)

/-- ITS FALSE NEIGHBOUR: 'it returns false'. Refute it at one input. -/
def stackAdjustsWrong : ChangeSpec := { name := "stackAdjusts", fn := fun _ => fun
  | [d1, d2] => { results := [.lit (.bool false)], args := [d1, d2] }
  | _ => none }
def StackAdjustsWrongFalsely : Prop := stackAdjustsRow.holds Tryd.pinned (OpenSpec.ofChange stackAdjustsWrong)

/-- 'thicketlaw06.StackValues': WHATEVER THE INPUT: true; the input reads as it did. -/
def stackValuesSpec : ChangeSpec := { name := "stackValues", fn := fun _ => fun
  | [d1, d2, d3] => { results := [.lit (.bool true)], args := [d1, d2, d3] }
  | _ => none }
def stackValuesRow : OpenClaim := { program := "ytejpjabbdkpmiaadoor", sum := "662432fbeed7eb097d46b536d46ecb290cb422b613dbaeb73679c68d67d52727", func := "thicket/thicketlaw06.StackValues", spec := "stackValues", unfollowed := true, recurses := true, named := ["strings.asciiSpace", "unicode.White_Space"], apart := false, laid := [("unicode.White_Space", laid_unicode_White_Space), ("strings.asciiSpace", laid_strings_asciiSpace)] }
def StackValuesSaid : Prop := stackValuesRow.holds Tryd.pinned (OpenSpec.ofChange stackValuesSpec)

/-- ITS FALSE NEIGHBOUR: 'it returns false'. Refute it at one input. -/
def stackValuesWrong : ChangeSpec := { name := "stackValues", fn := fun _ => fun
  | [d1, d2, d3] => { results := [.lit (.bool false)], args := [d1, d2, d3] }
  | _ => none }
def StackValuesWrongFalsely : Prop := stackValuesRow.holds Tryd.pinned (OpenSpec.ofChange stackValuesWrong)

/-- 'thicketlaw06.StackPlays': WHATEVER THE INPUT: true; the input reads as it did. -/
def stackPlaysSpec : ChangeSpec := { name := "stackPlays", fn := fun _ => fun
  | [d] => { results := [.lit (.bool true)], args := [d] }
  | _ => none }
def stackPlaysRow : OpenClaim := { program := "ytejpjabbdkpmiaadoor", sum := "662432fbeed7eb097d46b536d46ecb290cb422b613dbaeb73679c68d67d52727", func := "thicket/thicketlaw06.StackPlays", spec := "stackPlays", unfollowed := true, recurses := true, named := ["strings.asciiSpace", "unicode.White_Space"], apart := false, laid := [("unicode.White_Space", laid_unicode_White_Space), ("strings.asciiSpace", laid_strings_asciiSpace)] }
def StackPlaysSaid : Prop := stackPlaysRow.holds Tryd.pinned (OpenSpec.ofChange stackPlaysSpec)

/-- ITS FALSE NEIGHBOUR: 'it returns false'. Refute it at one input. -/
def stackPlaysWrong : ChangeSpec := { name := "stackPlays", fn := fun _ => fun
  | [d] => { results := [.lit (.bool false)], args := [d] }
  | _ => none }
def StackPlaysWrongFalsely : Prop := stackPlaysRow.holds Tryd.pinned (OpenSpec.ofChange stackPlaysWrong)

/-- 'thicketlaw06.StackFirst': WHATEVER THE INPUT: true; the input reads as it did. -/
def stackFirstSpec : ChangeSpec := { name := "stackFirst", fn := fun _ => fun
  | [d1, d2] => { results := [.lit (.bool true)], args := [d1, d2] }
  | _ => none }
def stackFirstRow : OpenClaim := { program := "ytejpjabbdkpmiaadoor", sum := "662432fbeed7eb097d46b536d46ecb290cb422b613dbaeb73679c68d67d52727", func := "thicket/thicketlaw06.StackFirst", spec := "stackFirst", unfollowed := true, recurses := true, named := ["strings.asciiSpace", "unicode.White_Space"], apart := false, laid := [("unicode.White_Space", laid_unicode_White_Space), ("strings.asciiSpace", laid_strings_asciiSpace)] }
def StackFirstSaid : Prop := stackFirstRow.holds Tryd.pinned (OpenSpec.ofChange stackFirstSpec)

/-- ITS FALSE NEIGHBOUR: 'it returns false'. Refute it at one input. -/
def stackFirstWrong : ChangeSpec := { name := "stackFirst", fn := fun _ => fun
  | [d1, d2] => { results := [.lit (.bool false)], args := [d1, d2] }
  | _ => none }
def StackFirstWrongFalsely : Prop := stackFirstRow.holds Tryd.pinned (OpenSpec.ofChange stackFirstWrong)

/-- 'thicketlaw06.StackNil': WHATEVER THE INPUT: true; the input reads as it did. -/
def stackNilSpec : ChangeSpec := { name := "stackNil", fn := fun _ => fun
  | [d1, d2] => { results := [.lit (.bool true)], args := [d1, d2] }
  | _ => none }
def stackNilRow : OpenClaim := { program := "ytejpjabbdkpmiaadoor", sum := "662432fbeed7eb097d46b536d46ecb290cb422b613dbaeb73679c68d67d52727", func := "thicket/thicketlaw06.StackNil", spec := "stackNil", unfollowed := true, recurses := true, named := ["strings.asciiSpace", "unicode.White_Space"], apart := false, laid := [("unicode.White_Space", laid_unicode_White_Space), ("strings.asciiSpace", laid_strings_asciiSpace)] }
def StackNilSaid : Prop := stackNilRow.holds Tryd.pinned (OpenSpec.ofChange stackNilSpec)

/-- ITS FALSE NEIGHBOUR: 'it returns false'. Refute it at one input. -/
def stackNilWrong : ChangeSpec := { name := "stackNil", fn := fun _ => fun
  | [d1, d2] => { results := [.lit (.bool false)], args := [d1, d2] }
  | _ => none }
def StackNilWrongFalsely : Prop := stackNilRow.holds Tryd.pinned (OpenSpec.ofChange stackNilWrong)

/- THE SECOND FORM. 'bulk': how many values and letters a reading holds, each counted each time it is reached (what is shared counts as often as it is met; a slice's spare places count too). A statement '..UptoSaid' is the law's where the arguments, and the package variables that the reading takes, are together of bulk at most 1048576: NARROWER than '..Said'. Prove '..Said' where nothing that the law and all that it calls make is longer than what came in: it says more and counts as full. Else prove '..UptoSaid'. A law counts once. -/
mutual
def uptoBulk {H : Type} : DataW H → Nat
  | .lit (.string bytes) => bytes.length + 1
  | .lit _ => 1
  | .nil => 1
  | .ptr d => uptoBulk d + 1
  | .slice elems spare => uptoBulkAll elems + uptoBulkAll spare + 1
  | .agg parts => uptoBulkAll parts + 1
  | .iface _ d => uptoBulk d + 1
  | .map entries => uptoBulkEntries entries + 1
  | .held _ => 1
def uptoBulkAll {H : Type} : List (DataW H) → Nat
  | [] => 0
  | d :: r => uptoBulk d + uptoBulkAll r
def uptoBulkEntries {H : Type} : List (Lit × DataW H) → Nat
  | [] => 0
  | x :: r => uptoBulkEntry x + uptoBulkEntries r
def uptoBulkEntry {H : Type} : Lit × DataW H → Nat
  | (.string bytes, d) => bytes.length + uptoBulk d + 1
  | (_, d) => uptoBulk d + 1
 end
def uptoSmall : (H : Type) → List (DataW H) → Bool := fun _ ds => decide (uptoBulkAll ds ≤ 1048576)
def OpenSpec.upto (s : _root_.Go.ChangeSpec) : _root_.Go.OpenSpec := { _root_.Go.OpenSpec.ofChange s with cond := some uptoSmall }

/-- 'thicketlaw06.StackScopes', WHERE WHAT IT READS IS OF BULK AT MOST 1048576: true; the input reads as it did. -/
def stackScopesUptoRow : OpenClaim := { program := "ytejpjabbdkpmiaadoor", sum := "662432fbeed7eb097d46b536d46ecb290cb422b613dbaeb73679c68d67d52727", func := "thicket/thicketlaw06.StackScopes", spec := "stackScopes", unfollowed := true, recurses := true, named := ["strings.asciiSpace", "unicode.White_Space"], apart := false, laid := [("unicode.White_Space", laid_unicode_White_Space), ("strings.asciiSpace", laid_strings_asciiSpace)], narrowed := true }
def StackScopesUptoSaid : Prop := stackScopesUptoRow.holds Tryd.pinned (OpenSpec.upto stackScopesSpec)

/-- 'thicketlaw06.StackClears', WHERE WHAT IT READS IS OF BULK AT MOST 1048576: true; the input reads as it did. -/
def stackClearsUptoRow : OpenClaim := { program := "ytejpjabbdkpmiaadoor", sum := "662432fbeed7eb097d46b536d46ecb290cb422b613dbaeb73679c68d67d52727", func := "thicket/thicketlaw06.StackClears", spec := "stackClears", unfollowed := true, recurses := true, named := ["strings.asciiSpace", "unicode.White_Space"], apart := false, laid := [("unicode.White_Space", laid_unicode_White_Space), ("strings.asciiSpace", laid_strings_asciiSpace)], narrowed := true }
def StackClearsUptoSaid : Prop := stackClearsUptoRow.holds Tryd.pinned (OpenSpec.upto stackClearsSpec)

/-- 'thicketlaw06.StackNests', WHERE WHAT IT READS IS OF BULK AT MOST 1048576: true; the input reads as it did. -/
def stackNestsUptoRow : OpenClaim := { program := "ytejpjabbdkpmiaadoor", sum := "662432fbeed7eb097d46b536d46ecb290cb422b613dbaeb73679c68d67d52727", func := "thicket/thicketlaw06.StackNests", spec := "stackNests", unfollowed := true, recurses := true, named := ["strings.asciiSpace", "unicode.White_Space"], apart := false, laid := [("unicode.White_Space", laid_unicode_White_Space), ("strings.asciiSpace", laid_strings_asciiSpace)], narrowed := true }
def StackNestsUptoSaid : Prop := stackNestsUptoRow.holds Tryd.pinned (OpenSpec.upto stackNestsSpec)

/-- 'thicketlaw06.StackSpecials', WHERE WHAT IT READS IS OF BULK AT MOST 1048576: true; the input reads as it did. -/
def stackSpecialsUptoRow : OpenClaim := { program := "ytejpjabbdkpmiaadoor", sum := "662432fbeed7eb097d46b536d46ecb290cb422b613dbaeb73679c68d67d52727", func := "thicket/thicketlaw06.StackSpecials", spec := "stackSpecials", unfollowed := true, recurses := true, named := ["strings.asciiSpace", "unicode.White_Space"], apart := false, laid := [("unicode.White_Space", laid_unicode_White_Space), ("strings.asciiSpace", laid_strings_asciiSpace)], narrowed := true }
def StackSpecialsUptoSaid : Prop := stackSpecialsUptoRow.holds Tryd.pinned (OpenSpec.upto stackSpecialsSpec)

/-- 'thicketlaw06.StackReads', WHERE WHAT IT READS IS OF BULK AT MOST 1048576: true; the input reads as it did. -/
def stackReadsUptoRow : OpenClaim := { program := "ytejpjabbdkpmiaadoor", sum := "662432fbeed7eb097d46b536d46ecb290cb422b613dbaeb73679c68d67d52727", func := "thicket/thicketlaw06.StackReads", spec := "stackReads", unfollowed := true, recurses := true, named := ["strings.asciiSpace", "unicode.White_Space"], apart := false, laid := [("unicode.White_Space", laid_unicode_White_Space), ("strings.asciiSpace", laid_strings_asciiSpace)], narrowed := true }
def StackReadsUptoSaid : Prop := stackReadsUptoRow.holds Tryd.pinned (OpenSpec.upto stackReadsSpec)

/-- 'thicketlaw06.StackBreaks', WHERE WHAT IT READS IS OF BULK AT MOST 1048576: true; the input reads as it did. -/
def stackBreaksUptoRow : OpenClaim := { program := "ytejpjabbdkpmiaadoor", sum := "662432fbeed7eb097d46b536d46ecb290cb422b613dbaeb73679c68d67d52727", func := "thicket/thicketlaw06.StackBreaks", spec := "stackBreaks", unfollowed := true, recurses := true, named := ["strings.asciiSpace", "unicode.White_Space"], apart := false, laid := [("unicode.White_Space", laid_unicode_White_Space), ("strings.asciiSpace", laid_strings_asciiSpace)], narrowed := true }
def StackBreaksUptoSaid : Prop := stackBreaksUptoRow.holds Tryd.pinned (OpenSpec.upto stackBreaksSpec)

/-- 'thicketlaw06.StackNames', WHERE WHAT IT READS IS OF BULK AT MOST 1048576: true; the input reads as it did. -/
def stackNamesUptoRow : OpenClaim := { program := "ytejpjabbdkpmiaadoor", sum := "662432fbeed7eb097d46b536d46ecb290cb422b613dbaeb73679c68d67d52727", func := "thicket/thicketlaw06.StackNames", spec := "stackNames", unfollowed := true, recurses := true, named := ["strings.asciiSpace", "unicode.White_Space"], apart := false, laid := [("unicode.White_Space", laid_unicode_White_Space), ("strings.asciiSpace", laid_strings_asciiSpace)], narrowed := true }
def StackNamesUptoSaid : Prop := stackNamesUptoRow.holds Tryd.pinned (OpenSpec.upto stackNamesSpec)

/-- 'thicketlaw06.StackApart', WHERE WHAT IT READS IS OF BULK AT MOST 1048576: true; the input reads as it did. -/
def stackApartUptoRow : OpenClaim := { program := "ytejpjabbdkpmiaadoor", sum := "662432fbeed7eb097d46b536d46ecb290cb422b613dbaeb73679c68d67d52727", func := "thicket/thicketlaw06.StackApart", spec := "stackApart", unfollowed := true, recurses := true, named := ["strings.asciiSpace", "unicode.White_Space"], apart := false, laid := [("unicode.White_Space", laid_unicode_White_Space), ("strings.asciiSpace", laid_strings_asciiSpace)], narrowed := true }
def StackApartUptoSaid : Prop := stackApartUptoRow.holds Tryd.pinned (OpenSpec.upto stackApartSpec)

/-- 'thicketlaw06.StackUndoes', WHERE WHAT IT READS IS OF BULK AT MOST 1048576: true; the input reads as it did. -/
def stackUndoesUptoRow : OpenClaim := { program := "ytejpjabbdkpmiaadoor", sum := "662432fbeed7eb097d46b536d46ecb290cb422b613dbaeb73679c68d67d52727", func := "thicket/thicketlaw06.StackUndoes", spec := "stackUndoes", unfollowed := true, recurses := true, named := ["strings.asciiSpace", "unicode.White_Space"], apart := false, laid := [("unicode.White_Space", laid_unicode_White_Space), ("strings.asciiSpace", laid_strings_asciiSpace)], narrowed := true }
def StackUndoesUptoSaid : Prop := stackUndoesUptoRow.holds Tryd.pinned (OpenSpec.upto stackUndoesSpec)

/-- 'thicketlaw06.StackOwn', WHERE WHAT IT READS IS OF BULK AT MOST 1048576: true; the input reads as it did. -/
def stackOwnUptoRow : OpenClaim := { program := "ytejpjabbdkpmiaadoor", sum := "662432fbeed7eb097d46b536d46ecb290cb422b613dbaeb73679c68d67d52727", func := "thicket/thicketlaw06.StackOwn", spec := "stackOwn", unfollowed := true, recurses := true, named := ["strings.asciiSpace", "unicode.White_Space"], apart := false, laid := [("unicode.White_Space", laid_unicode_White_Space), ("strings.asciiSpace", laid_strings_asciiSpace)], narrowed := true }
def StackOwnUptoSaid : Prop := stackOwnUptoRow.holds Tryd.pinned (OpenSpec.upto stackOwnSpec)

/-- 'thicketlaw06.StackQuirks', WHERE WHAT IT READS IS OF BULK AT MOST 1048576: true; the input reads as it did. -/
def stackQuirksUptoRow : OpenClaim := { program := "ytejpjabbdkpmiaadoor", sum := "662432fbeed7eb097d46b536d46ecb290cb422b613dbaeb73679c68d67d52727", func := "thicket/thicketlaw06.StackQuirks", spec := "stackQuirks", unfollowed := true, recurses := true, named := ["strings.asciiSpace", "unicode.White_Space"], apart := false, laid := [("unicode.White_Space", laid_unicode_White_Space), ("strings.asciiSpace", laid_strings_asciiSpace)], narrowed := true }
def StackQuirksUptoSaid : Prop := stackQuirksUptoRow.holds Tryd.pinned (OpenSpec.upto stackQuirksSpec)

/-- 'thicketlaw06.StackLists', WHERE WHAT IT READS IS OF BULK AT MOST 1048576: true; the input reads as it did. -/
def stackListsUptoRow : OpenClaim := { program := "ytejpjabbdkpmiaadoor", sum := "662432fbeed7eb097d46b536d46ecb290cb422b613dbaeb73679c68d67d52727", func := "thicket/thicketlaw06.StackLists", spec := "stackLists", unfollowed := true, recurses := true, named := ["strings.asciiSpace", "unicode.White_Space"], apart := false, laid := [("unicode.White_Space", laid_unicode_White_Space), ("strings.asciiSpace", laid_strings_asciiSpace)], narrowed := true }
def StackListsUptoSaid : Prop := stackListsUptoRow.holds Tryd.pinned (OpenSpec.upto stackListsSpec)

/-- 'thicketlaw06.StackThree', WHERE WHAT IT READS IS OF BULK AT MOST 1048576: true; the input reads as it did. -/
def stackThreeUptoRow : OpenClaim := { program := "ytejpjabbdkpmiaadoor", sum := "662432fbeed7eb097d46b536d46ecb290cb422b613dbaeb73679c68d67d52727", func := "thicket/thicketlaw06.StackThree", spec := "stackThree", unfollowed := true, recurses := true, named := ["strings.asciiSpace", "unicode.White_Space"], apart := false, laid := [("unicode.White_Space", laid_unicode_White_Space), ("strings.asciiSpace", laid_strings_asciiSpace)], narrowed := true }
def StackThreeUptoSaid : Prop := stackThreeUptoRow.holds Tryd.pinned (OpenSpec.upto stackThreeSpec)

/-- 'thicketlaw06.StackAdjusts', WHERE WHAT IT READS IS OF BULK AT MOST 1048576: true; the input reads as it did. -/
def stackAdjustsUptoRow : OpenClaim := { program := "ytejpjabbdkpmiaadoor", sum := "662432fbeed7eb097d46b536d46ecb290cb422b613dbaeb73679c68d67d52727", func := "thicket/thicketlaw06.StackAdjusts", spec := "stackAdjusts", unfollowed := true, recurses := true, named := ["strings.asciiSpace", "unicode.White_Space"], apart := false, laid := [("unicode.White_Space", laid_unicode_White_Space), ("strings.asciiSpace", laid_strings_asciiSpace)], narrowed := true }
def StackAdjustsUptoSaid : Prop := stackAdjustsUptoRow.holds Tryd.pinned (OpenSpec.upto stackAdjustsSpec)

/-- 'thicketlaw06.StackValues', WHERE WHAT IT READS IS OF BULK AT MOST 1048576: true; the input reads as it did. -/
def stackValuesUptoRow : OpenClaim := { program := "ytejpjabbdkpmiaadoor", sum := "662432fbeed7eb097d46b536d46ecb290cb422b613dbaeb73679c68d67d52727", func := "thicket/thicketlaw06.StackValues", spec := "stackValues", unfollowed := true, recurses := true, named := ["strings.asciiSpace", "unicode.White_Space"], apart := false, laid := [("unicode.White_Space", laid_unicode_White_Space), ("strings.asciiSpace", laid_strings_asciiSpace)], narrowed := true }
def StackValuesUptoSaid : Prop := stackValuesUptoRow.holds Tryd.pinned (OpenSpec.upto stackValuesSpec)

/-- 'thicketlaw06.StackPlays', WHERE WHAT IT READS IS OF BULK AT MOST 1048576: true; the input reads as it did. -/
def stackPlaysUptoRow : OpenClaim := { program := "ytejpjabbdkpmiaadoor", sum := "662432fbeed7eb097d46b536d46ecb290cb422b613dbaeb73679c68d67d52727", func := "thicket/thicketlaw06.StackPlays", spec := "stackPlays", unfollowed := true, recurses := true, named := ["strings.asciiSpace", "unicode.White_Space"], apart := false, laid := [("unicode.White_Space", laid_unicode_White_Space), ("strings.asciiSpace", laid_strings_asciiSpace)], narrowed := true }
def StackPlaysUptoSaid : Prop := stackPlaysUptoRow.holds Tryd.pinned (OpenSpec.upto stackPlaysSpec)

/-- 'thicketlaw06.StackFirst', WHERE WHAT IT READS IS OF BULK AT MOST 1048576: true; the input reads as it did. -/
def stackFirstUptoRow : OpenClaim := { program := "ytejpjabbdkpmiaadoor", sum := "662432fbeed7eb097d46b536d46ecb290cb422b613dbaeb73679c68d67d52727", func := "thicket/thicketlaw06.StackFirst", spec := "stackFirst", unfollowed := true, recurses := true, named := ["strings.asciiSpace", "unicode.White_Space"], apart := false, laid := [("unicode.White_Space", laid_unicode_White_Space), ("strings.asciiSpace", laid_strings_asciiSpace)], narrowed := true }
def StackFirstUptoSaid : Prop := stackFirstUptoRow.holds Tryd.pinned (OpenSpec.upto stackFirstSpec)

/-- 'thicketlaw06.StackNil', WHERE WHAT IT READS IS OF BULK AT MOST 1048576: true; the input reads as it did. -/
def stackNilUptoRow : OpenClaim := { program := "ytejpjabbdkpmiaadoor", sum := "662432fbeed7eb097d46b536d46ecb290cb422b613dbaeb73679c68d67d52727", func := "thicket/thicketlaw06.StackNil", spec := "stackNil", unfollowed := true, recurses := true, named := ["strings.asciiSpace", "unicode.White_Space"], apart := false, laid := [("unicode.White_Space", laid_unicode_White_Space), ("strings.asciiSpace", laid_strings_asciiSpace)], narrowed := true }
def StackNilUptoSaid : Prop := stackNilUptoRow.holds Tryd.pinned (OpenSpec.upto stackNilSpec)

end Rows
end Go.Proofs.YtejpjabbdkpmiaaDoor
