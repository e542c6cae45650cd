/-
  No cell of these rows narrows 'for every input' (looked for: loops, veiled, ifaces, maps, wideKeys, modest, calm, conditions, laid).
  DERIVED. THE GIVEN ROWS OF THIS SEAT. 2 by the template 'for every input the law returns true; each argument reads behind the call as it read before'; 0 by the template 'total and deterministic' (their statements: YbulkejtmTotals.lean).
  GIVEN WITH THE SEED: the statements are not yours to turn. If you find one false, say at which input.
  Laid BY PROGRAM, IN A SANDBOX (cutbox-rows.mjs): the forced cells as the released guide's own fill.sh prints them over the translation 803ba4fa05969b03… (all of the seat's roots in one cut). By AI agents, Wed Nov 11 2026. No macro, syntax, notation, axiom, sorry.
-/
import Derived.Test.YbulkejtmChecked
import GoSem.Claim
import GoSem.ClaimJoined
import GoSem.ClaimMapViews
import Derived.JoinedTies
import Derived.KernelRfl
namespace Go.Proofs.Ybulkejtm
/- THE CELL 'sum', in the pinned program and in every row, IS THE sha256 OF THE DUMP (.gsa) THAT YbulkejtmProg.lean LOADS. Nothing in Lean hashes anything: it is a label: what it is worth is what the hold of that sum in a sandbox is worth. -/
noncomputable def Yba.pinned : Pinned := { name := "ybulkejtm", sum := "803ba4fa05969b03e0c6844feb1bbe5ca43441f3c70b645b52f74f63652122d5", checked := Yba.checked }
namespace Rows
def none {H : Type} : Left H := { results := [], args := [] }

/-- 'vulnweave.LawS6798AWhole': WHATEVER THE INPUT: true; the input reads as it did. -/
def lawS6798AWholeSpec : ChangeSpec := { name := "lawS6798AWhole", fn := fun _ => fun
  | [d1, d2] => { results := [.lit (.bool true)], args := [d1, d2] }
  | _ => none }
def lawS6798AWholeRow : OpenClaim := { program := "ybulkejtm", sum := "803ba4fa05969b03e0c6844feb1bbe5ca43441f3c70b645b52f74f63652122d5", func := "example.com/vulnweave/vulnweave.LawS6798AWhole", spec := "lawS6798AWhole", unfollowed := true, recurses := true, apart := false }
def LawS6798AWholeSaid : Prop := lawS6798AWholeRow.holds Yba.pinned (OpenSpec.ofChange lawS6798AWholeSpec)

/-- ITS FALSE NEIGHBOUR: 'it returns false'. Refute it at one input. -/
def lawS6798AWholeWrong : ChangeSpec := { name := "lawS6798AWhole", fn := fun _ => fun
  | [d1, d2] => { results := [.lit (.bool false)], args := [d1, d2] }
  | _ => none }
def LawS6798AWholeWrongFalsely : Prop := lawS6798AWholeRow.holds Yba.pinned (OpenSpec.ofChange lawS6798AWholeWrong)

/-- 'vulnweave.LawS6798BWhole': WHATEVER THE INPUT: true; the input reads as it did. -/
def lawS6798BWholeSpec : ChangeSpec := { name := "lawS6798BWhole", fn := fun _ => fun
  | [d1, d2, d3] => { results := [.lit (.bool true)], args := [d1, d2, d3] }
  | _ => none }
def lawS6798BWholeRow : OpenClaim := { program := "ybulkejtm", sum := "803ba4fa05969b03e0c6844feb1bbe5ca43441f3c70b645b52f74f63652122d5", func := "example.com/vulnweave/vulnweave.LawS6798BWhole", spec := "lawS6798BWhole", unfollowed := true, recurses := true, apart := false }
def LawS6798BWholeSaid : Prop := lawS6798BWholeRow.holds Yba.pinned (OpenSpec.ofChange lawS6798BWholeSpec)

/-- ITS FALSE NEIGHBOUR: 'it returns false'. Refute it at one input. -/
def lawS6798BWholeWrong : ChangeSpec := { name := "lawS6798BWhole", fn := fun _ => fun
  | [d1, d2, d3] => { results := [.lit (.bool false)], args := [d1, d2, d3] }
  | _ => none }
def LawS6798BWholeWrongFalsely : Prop := lawS6798BWholeRow.holds Yba.pinned (OpenSpec.ofChange lawS6798BWholeWrong)

end Rows
end Go.Proofs.Ybulkejtm
