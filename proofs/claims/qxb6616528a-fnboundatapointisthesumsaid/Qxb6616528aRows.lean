/-
  No cell of these rows narrows 'for every input' (looked for: loops, veiled, ifaces, maps, wideKeys, modest, calm, conditions, laid).
  DERIVED. THE GIVEN ROWS OF THIS SEAT. 3 by the template 'for every input the law returns true; each argument reads behind the call as it read before'; 0 by the template 'total and deterministic' (their statements: Qxb6616528aTotals.lean).
  GIVEN WITH THE SEED: the statements are not yours to turn. If you find one false, say at which input.
  Laid BY PROGRAM, IN A SANDBOX (cutbox-rows.mjs): the forced cells as the released guide's own fill.sh prints them over the translation f5f0ffa414ff4269… (all of the seat's roots in one cut). By AI agents, Wed Nov 11 2026. No macro, syntax, notation, axiom, sorry.
-/
import Derived.Test.Qxb6616528aChecked
import GoSem.Claim
import GoSem.ClaimJoined
import GoSem.ClaimMapViews
import Derived.JoinedTies
import Derived.KernelRfl
namespace Go.Proofs.Qxb6616528a
/- THE CELL 'sum', in the pinned program and in every row, IS THE sha256 OF THE DUMP (.gsa) THAT Qxb6616528aProg.lean LOADS. Nothing in Lean hashes anything: it is a label: what it is worth is what the hold of that sum in a sandbox is worth. -/
noncomputable def Try.pinned : Pinned := { name := "qxb6616528a", sum := "f5f0ffa414ff426927ab14371d44349f0a7ccbef31277f72bff51b82cd10f329", checked := Try.checked }
namespace Rows
def none {H : Type} : Left H := { results := [], args := [] }

/-- 'zzlaws_root_b1.FnWithUpperLastWriteWins': WHATEVER THE INPUT: true; the input reads as it did. -/
def fnWithUpperLastWriteWinsSpec : ChangeSpec := { name := "fnWithUpperLastWriteWins", fn := fun _ => fun
  | [d1, d2, d3, d4] => { results := [.lit (.bool true)], args := [d1, d2, d3, d4] }
  | _ => none }
def fnWithUpperLastWriteWinsRow : OpenClaim := { program := "qxb6616528a", sum := "f5f0ffa414ff426927ab14371d44349f0a7ccbef31277f72bff51b82cd10f329", func := "example.com/hopweave/hopweave/zzlaws_root_b1.FnWithUpperLastWriteWins", spec := "fnWithUpperLastWriteWins", apart := false }
def FnWithUpperLastWriteWinsSaid : Prop := fnWithUpperLastWriteWinsRow.holds Try.pinned (OpenSpec.ofChange fnWithUpperLastWriteWinsSpec)

/-- ITS FALSE NEIGHBOUR: 'it returns false'. Refute it at one input. -/
def fnWithUpperLastWriteWinsWrong : ChangeSpec := { name := "fnWithUpperLastWriteWins", fn := fun _ => fun
  | [d1, d2, d3, d4] => { results := [.lit (.bool false)], args := [d1, d2, d3, d4] }
  | _ => none }
def FnWithUpperLastWriteWinsWrongFalsely : Prop := fnWithUpperLastWriteWinsRow.holds Try.pinned (OpenSpec.ofChange fnWithUpperLastWriteWinsWrong)

/-- 'zzlaws_root_b1.FnWithUpperKeepsTheOrderOfUpper': WHATEVER THE INPUT: true; the input reads as it did. -/
def fnWithUpperKeepsTheOrderOfUpperSpec : ChangeSpec := { name := "fnWithUpperKeepsTheOrderOfUpper", fn := fun _ => fun
  | [d1, d2, d3, d4] => { results := [.lit (.bool true)], args := [d1, d2, d3, d4] }
  | _ => none }
def fnWithUpperKeepsTheOrderOfUpperRow : OpenClaim := { program := "qxb6616528a", sum := "f5f0ffa414ff426927ab14371d44349f0a7ccbef31277f72bff51b82cd10f329", func := "example.com/hopweave/hopweave/zzlaws_root_b1.FnWithUpperKeepsTheOrderOfUpper", spec := "fnWithUpperKeepsTheOrderOfUpper", apart := false }
def FnWithUpperKeepsTheOrderOfUpperSaid : Prop := fnWithUpperKeepsTheOrderOfUpperRow.holds Try.pinned (OpenSpec.ofChange fnWithUpperKeepsTheOrderOfUpperSpec)

/-- ITS FALSE NEIGHBOUR: 'it returns false'. Refute it at one input. -/
def fnWithUpperKeepsTheOrderOfUpperWrong : ChangeSpec := { name := "fnWithUpperKeepsTheOrderOfUpper", fn := fun _ => fun
  | [d1, d2, d3, d4] => { results := [.lit (.bool false)], args := [d1, d2, d3, d4] }
  | _ => none }
def FnWithUpperKeepsTheOrderOfUpperWrongFalsely : Prop := fnWithUpperKeepsTheOrderOfUpperRow.holds Try.pinned (OpenSpec.ofChange fnWithUpperKeepsTheOrderOfUpperWrong)

/-- 'zzlaws_root_b1.FnBoundAtAPointIsTheSum': WHATEVER THE INPUT: true; the input reads as it did. -/
def fnBoundAtAPointIsTheSumSpec : ChangeSpec := { name := "fnBoundAtAPointIsTheSum", fn := fun _ => fun
  | [d1, d2, d3, d4, d5, d6, d7, d8, d9, d10] => { results := [.lit (.bool true)], args := [d1, d2, d3, d4, d5, d6, d7, d8, d9, d10] }
  | _ => none }
def fnBoundAtAPointIsTheSumRow : OpenClaim := { program := "qxb6616528a", sum := "f5f0ffa414ff426927ab14371d44349f0a7ccbef31277f72bff51b82cd10f329", func := "example.com/hopweave/hopweave/zzlaws_root_b1.FnBoundAtAPointIsTheSum", spec := "fnBoundAtAPointIsTheSum", inPlace := ["math.archHypot", "math.Float64bits", "math.Float64frombits", "math.sqrt"], unfollowed := true, recurses := true, apart := false }
def FnBoundAtAPointIsTheSumSaid : Prop := fnBoundAtAPointIsTheSumRow.holds Try.pinned (OpenSpec.ofChange fnBoundAtAPointIsTheSumSpec)

/-- ITS FALSE NEIGHBOUR: 'it returns false'. Refute it at one input. -/
def fnBoundAtAPointIsTheSumWrong : ChangeSpec := { name := "fnBoundAtAPointIsTheSum", fn := fun _ => fun
  | [d1, d2, d3, d4, d5, d6, d7, d8, d9, d10] => { results := [.lit (.bool false)], args := [d1, d2, d3, d4, d5, d6, d7, d8, d9, d10] }
  | _ => none }
def FnBoundAtAPointIsTheSumWrongFalsely : Prop := fnBoundAtAPointIsTheSumRow.holds Try.pinned (OpenSpec.ofChange fnBoundAtAPointIsTheSumWrong)

end Rows
end Go.Proofs.Qxb6616528a
