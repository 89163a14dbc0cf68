/-
  No cell of these rows narrows 'for every input' (looked for: loops, veiled, ifaces, maps, wideKeys, modest, calm, conditions, laid).
  DERIVED. THE GIVEN ROWS OF THIS SEAT. 4 by the template 'for every input the law returns true; each argument reads behind the call as it read before'; 0 by the template 'total and deterministic' (their statements: Qxb6616978aTotals.lean).
  GIVEN WITH THE SEED: the statements are not yours to turn. If you find one false, say at which input.
  Laid BY PROGRAM, IN A SANDBOX (cutbox-rows.mjs): the forced cells as the released guide's own fill.sh prints them over the translation d2bba32da5416517… (all of the seat's roots in one cut). By AI agents, Wed Nov 11 2026. No macro, syntax, notation, axiom, sorry.
-/
import Derived.Test.Qxb6616978aChecked
import GoSem.Claim
import GoSem.ClaimJoined
import GoSem.ClaimMapViews
import Derived.JoinedTies
import Derived.KernelRfl
namespace Go.Proofs.Qxb6616978a
/- THE CELL 'sum', in the pinned program and in every row, IS THE sha256 OF THE DUMP (.gsa) THAT Qxb6616978aProg.lean LOADS. Nothing in Lean hashes anything: it is a label: what it is worth is what the hold of that sum in a sandbox is worth. -/
noncomputable def Try.pinned : Pinned := { name := "qxb6616978a", sum := "d2bba32da5416517c4e923d00d37168fb234c78c5482882f6af2ac881d0be836", checked := Try.checked }
namespace Rows
def none {H : Type} : Left H := { results := [], args := [] }

/-- 'zzlaws_policy_b1.FnParseNamesCutAtComma': WHATEVER THE INPUT: true; the input reads as it did. -/
def fnParseNamesCutAtCommaSpec : ChangeSpec := { name := "fnParseNamesCutAtComma", fn := fun _ => fun
  | [d1, d2] => { results := [.lit (.bool true)], args := [d1, d2] }
  | _ => none }
def fnParseNamesCutAtCommaRow : OpenClaim := { program := "qxb6616978a", sum := "d2bba32da5416517c4e923d00d37168fb234c78c5482882f6af2ac881d0be836", func := "example.com/house-rules/house-rules/zzlaws_policy_b1.FnParseNamesCutAtComma", spec := "fnParseNamesCutAtComma", inPlace := ["internal/bytealg.CountString", "internal/bytealg.IndexByteString", "internal/bytealg.IndexString"], named := ["internal/bytealg.MaxLen"], apart := false }
def FnParseNamesCutAtCommaSaid : Prop := fnParseNamesCutAtCommaRow.holds Try.pinned (OpenSpec.ofChange fnParseNamesCutAtCommaSpec)

/-- ITS FALSE NEIGHBOUR: 'it returns false'. Refute it at one input. -/
def fnParseNamesCutAtCommaWrong : ChangeSpec := { name := "fnParseNamesCutAtComma", fn := fun _ => fun
  | [d1, d2] => { results := [.lit (.bool false)], args := [d1, d2] }
  | _ => none }
def FnParseNamesCutAtCommaWrongFalsely : Prop := fnParseNamesCutAtCommaRow.holds Try.pinned (OpenSpec.ofChange fnParseNamesCutAtCommaWrong)

/-- 'zzlaws_policy_b1.FnParseNamesLeftOutOnlyAlone': WHATEVER THE INPUT: true; the input reads as it did. -/
def fnParseNamesLeftOutOnlyAloneSpec : ChangeSpec := { name := "fnParseNamesLeftOutOnlyAlone", fn := fun _ => fun
  | [d] => { results := [.lit (.bool true)], args := [d] }
  | _ => none }
def fnParseNamesLeftOutOnlyAloneRow : OpenClaim := { program := "qxb6616978a", sum := "d2bba32da5416517c4e923d00d37168fb234c78c5482882f6af2ac881d0be836", func := "example.com/house-rules/house-rules/zzlaws_policy_b1.FnParseNamesLeftOutOnlyAlone", spec := "fnParseNamesLeftOutOnlyAlone", inPlace := ["internal/bytealg.CountString", "internal/bytealg.IndexByteString", "internal/bytealg.IndexString"], named := ["internal/bytealg.MaxLen"], apart := false }
def FnParseNamesLeftOutOnlyAloneSaid : Prop := fnParseNamesLeftOutOnlyAloneRow.holds Try.pinned (OpenSpec.ofChange fnParseNamesLeftOutOnlyAloneSpec)

/-- ITS FALSE NEIGHBOUR: 'it returns false'. Refute it at one input. -/
def fnParseNamesLeftOutOnlyAloneWrong : ChangeSpec := { name := "fnParseNamesLeftOutOnlyAlone", fn := fun _ => fun
  | [d] => { results := [.lit (.bool false)], args := [d] }
  | _ => none }
def FnParseNamesLeftOutOnlyAloneWrongFalsely : Prop := fnParseNamesLeftOutOnlyAloneRow.holds Try.pinned (OpenSpec.ofChange fnParseNamesLeftOutOnlyAloneWrong)

/-- 'zzlaws_policy_b1.FnSurrogateErrorEscapeDecidesMessage': WHATEVER THE INPUT: true; the input reads as it did. -/
def fnSurrogateErrorEscapeDecidesMessageSpec : ChangeSpec := { name := "fnSurrogateErrorEscapeDecidesMessage", fn := fun _ => fun
  | [d1, d2, d3, d4] => { results := [.lit (.bool true)], args := [d1, d2, d3, d4] }
  | _ => none }
def fnSurrogateErrorEscapeDecidesMessageRow : OpenClaim := { program := "qxb6616978a", sum := "d2bba32da5416517c4e923d00d37168fb234c78c5482882f6af2ac881d0be836", func := "example.com/house-rules/house-rules/zzlaws_policy_b1.FnSurrogateErrorEscapeDecidesMessage", spec := "fnSurrogateErrorEscapeDecidesMessage", apart := false }
def FnSurrogateErrorEscapeDecidesMessageSaid : Prop := fnSurrogateErrorEscapeDecidesMessageRow.holds Try.pinned (OpenSpec.ofChange fnSurrogateErrorEscapeDecidesMessageSpec)

/-- ITS FALSE NEIGHBOUR: 'it returns false'. Refute it at one input. -/
def fnSurrogateErrorEscapeDecidesMessageWrong : ChangeSpec := { name := "fnSurrogateErrorEscapeDecidesMessage", fn := fun _ => fun
  | [d1, d2, d3, d4] => { results := [.lit (.bool false)], args := [d1, d2, d3, d4] }
  | _ => none }
def FnSurrogateErrorEscapeDecidesMessageWrongFalsely : Prop := fnSurrogateErrorEscapeDecidesMessageRow.holds Try.pinned (OpenSpec.ofChange fnSurrogateErrorEscapeDecidesMessageWrong)

/-- 'zzlaws_policy_b1.FnSurrogateErrorEscapeInsideFixedFrame': WHATEVER THE INPUT: true; the input reads as it did. -/
def fnSurrogateErrorEscapeInsideFixedFrameSpec : ChangeSpec := { name := "fnSurrogateErrorEscapeInsideFixedFrame", fn := fun _ => fun
  | [d1, d2, d3] => { results := [.lit (.bool true)], args := [d1, d2, d3] }
  | _ => none }
def fnSurrogateErrorEscapeInsideFixedFrameRow : OpenClaim := { program := "qxb6616978a", sum := "d2bba32da5416517c4e923d00d37168fb234c78c5482882f6af2ac881d0be836", func := "example.com/house-rules/house-rules/zzlaws_policy_b1.FnSurrogateErrorEscapeInsideFixedFrame", spec := "fnSurrogateErrorEscapeInsideFixedFrame", apart := false }
def FnSurrogateErrorEscapeInsideFixedFrameSaid : Prop := fnSurrogateErrorEscapeInsideFixedFrameRow.holds Try.pinned (OpenSpec.ofChange fnSurrogateErrorEscapeInsideFixedFrameSpec)

/-- ITS FALSE NEIGHBOUR: 'it returns false'. Refute it at one input. -/
def fnSurrogateErrorEscapeInsideFixedFrameWrong : ChangeSpec := { name := "fnSurrogateErrorEscapeInsideFixedFrame", fn := fun _ => fun
  | [d1, d2, d3] => { results := [.lit (.bool false)], args := [d1, d2, d3] }
  | _ => none }
def FnSurrogateErrorEscapeInsideFixedFrameWrongFalsely : Prop := fnSurrogateErrorEscapeInsideFixedFrameRow.holds Try.pinned (OpenSpec.ofChange fnSurrogateErrorEscapeInsideFixedFrameWrong)

end Rows
end Go.Proofs.Qxb6616978a
