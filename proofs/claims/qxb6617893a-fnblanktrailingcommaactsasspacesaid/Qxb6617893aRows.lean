/-
  No cell of these rows narrows 'for every input' (looked for: loops, veiled, ifaces, maps, wideKeys, modest, calm, conditions, laid).
  DERIVED. THE GIVEN ROWS OF THIS SEAT. 3 by the template 'for every input the law returns true; each argument reads behind the call as it read before'; 0 by the template 'total and deterministic' (their statements: Qxb6617893aTotals.lean).
  GIVEN WITH THE SEED: the statements are not yours to turn. If you find one false, say at which input.
  Laid BY PROGRAM, IN A SANDBOX (cutbox-rows.mjs): the forced cells as the released guide's own fill.sh prints them over the translation 041cf140222c131d… (all of the seat's roots in one cut). By AI agents, Wed Nov 11 2026. No macro, syntax, notation, axiom, sorry.
-/
import Derived.Test.Qxb6617893aChecked
import GoSem.Claim
import GoSem.ClaimJoined
import GoSem.ClaimMapViews
import Derived.JoinedTies
import Derived.KernelRfl
namespace Go.Proofs.Qxb6617893a
/- THE CELL 'sum', in the pinned program and in every row, IS THE sha256 OF THE DUMP (.gsa) THAT Qxb6617893aProg.lean LOADS. Nothing in Lean hashes anything: it is a label: what it is worth is what the hold of that sum in a sandbox is worth. -/
noncomputable def Try.pinned : Pinned := { name := "qxb6617893a", sum := "041cf140222c131d36e9d1d196e0a54a86178e08848d2971d84f555c17d11ca4", checked := Try.checked }
namespace Rows
def none {H : Type} : Left H := { results := [], args := [] }

/-- 'zzlaws_userfile_b1.FnBlankMatchesLexerModel': WHATEVER THE INPUT: true; the input reads as it did. -/
def fnBlankMatchesLexerModelSpec : ChangeSpec := { name := "fnBlankMatchesLexerModel", fn := fun _ => fun
  | [d] => { results := [.lit (.bool true)], args := [d] }
  | _ => none }
def fnBlankMatchesLexerModelRow : OpenClaim := { program := "qxb6617893a", sum := "041cf140222c131d36e9d1d196e0a54a86178e08848d2971d84f555c17d11ca4", func := "example.com/doorward/doorward/zzlaws_userfile_b1.FnBlankMatchesLexerModel", spec := "fnBlankMatchesLexerModel", inPlace := ["internal/abi.NoEscape", "internal/bytealg.MakeNoZero"], apart := false }
def FnBlankMatchesLexerModelSaid : Prop := fnBlankMatchesLexerModelRow.holds Try.pinned (OpenSpec.ofChange fnBlankMatchesLexerModelSpec)

/-- ITS FALSE NEIGHBOUR: 'it returns false'. Refute it at one input. -/
def fnBlankMatchesLexerModelWrong : ChangeSpec := { name := "fnBlankMatchesLexerModel", fn := fun _ => fun
  | [d] => { results := [.lit (.bool false)], args := [d] }
  | _ => none }
def FnBlankMatchesLexerModelWrongFalsely : Prop := fnBlankMatchesLexerModelRow.holds Try.pinned (OpenSpec.ofChange fnBlankMatchesLexerModelWrong)

/-- 'zzlaws_userfile_b1.FnBlankCommentActsAsSpaces': WHATEVER THE INPUT: true; the input reads as it did. -/
def fnBlankCommentActsAsSpacesSpec : ChangeSpec := { name := "fnBlankCommentActsAsSpaces", fn := fun _ => fun
  | [d1, d2, d3] => { results := [.lit (.bool true)], args := [d1, d2, d3] }
  | _ => none }
def fnBlankCommentActsAsSpacesRow : OpenClaim := { program := "qxb6617893a", sum := "041cf140222c131d36e9d1d196e0a54a86178e08848d2971d84f555c17d11ca4", func := "example.com/doorward/doorward/zzlaws_userfile_b1.FnBlankCommentActsAsSpaces", spec := "fnBlankCommentActsAsSpaces", inPlace := ["internal/abi.NoEscape", "internal/bytealg.MakeNoZero"], apart := false }
def FnBlankCommentActsAsSpacesSaid : Prop := fnBlankCommentActsAsSpacesRow.holds Try.pinned (OpenSpec.ofChange fnBlankCommentActsAsSpacesSpec)

/-- ITS FALSE NEIGHBOUR: 'it returns false'. Refute it at one input. -/
def fnBlankCommentActsAsSpacesWrong : ChangeSpec := { name := "fnBlankCommentActsAsSpaces", fn := fun _ => fun
  | [d1, d2, d3] => { results := [.lit (.bool false)], args := [d1, d2, d3] }
  | _ => none }
def FnBlankCommentActsAsSpacesWrongFalsely : Prop := fnBlankCommentActsAsSpacesRow.holds Try.pinned (OpenSpec.ofChange fnBlankCommentActsAsSpacesWrong)

/-- 'zzlaws_userfile_b1.FnBlankTrailingCommaActsAsSpace': WHATEVER THE INPUT: true; the input reads as it did. -/
def fnBlankTrailingCommaActsAsSpaceSpec : ChangeSpec := { name := "fnBlankTrailingCommaActsAsSpace", fn := fun _ => fun
  | [d1, d2, d3, d4] => { results := [.lit (.bool true)], args := [d1, d2, d3, d4] }
  | _ => none }
def fnBlankTrailingCommaActsAsSpaceRow : OpenClaim := { program := "qxb6617893a", sum := "041cf140222c131d36e9d1d196e0a54a86178e08848d2971d84f555c17d11ca4", func := "example.com/doorward/doorward/zzlaws_userfile_b1.FnBlankTrailingCommaActsAsSpace", spec := "fnBlankTrailingCommaActsAsSpace", inPlace := ["internal/abi.NoEscape", "internal/bytealg.MakeNoZero"], apart := false }
def FnBlankTrailingCommaActsAsSpaceSaid : Prop := fnBlankTrailingCommaActsAsSpaceRow.holds Try.pinned (OpenSpec.ofChange fnBlankTrailingCommaActsAsSpaceSpec)

/-- ITS FALSE NEIGHBOUR: 'it returns false'. Refute it at one input. -/
def fnBlankTrailingCommaActsAsSpaceWrong : ChangeSpec := { name := "fnBlankTrailingCommaActsAsSpace", fn := fun _ => fun
  | [d1, d2, d3, d4] => { results := [.lit (.bool false)], args := [d1, d2, d3, d4] }
  | _ => none }
def FnBlankTrailingCommaActsAsSpaceWrongFalsely : Prop := fnBlankTrailingCommaActsAsSpaceRow.holds Try.pinned (OpenSpec.ofChange fnBlankTrailingCommaActsAsSpaceWrong)

end Rows
end Go.Proofs.Qxb6617893a
