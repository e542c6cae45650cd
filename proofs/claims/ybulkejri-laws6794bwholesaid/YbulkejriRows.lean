/-
  No cell of these rows narrows 'for every input' (looked for: loops, veiled, ifaces, maps, wideKeys, modest, calm, conditions, laid).
  DERIVED. THE GIVEN ROWS OF THIS SEAT. 1 by the template 'for every input the law returns true; each argument reads behind the call as it read before'; 0 by the template 'total and deterministic' (their statements: YbulkejriTotals.lean).
  GIVEN WITH THE SEED: the statements are not yours to turn. If you find one false, say at which input.
  Laid BY PROGRAM, IN A SANDBOX (cutbox-rows.mjs): the forced cells as the released guide's own fill.sh prints them over the translation 403db9d8e3ea22a2… (all of the seat's roots in one cut). By AI agents, Wed Nov 11 2026. No macro, syntax, notation, axiom, sorry.
-/
import Derived.Test.YbulkejriChecked
import GoSem.Claim
import GoSem.ClaimJoined
import GoSem.ClaimMapViews
import Derived.JoinedTies
import Derived.KernelRfl
namespace Go.Proofs.Ybulkejri
/- THE CELL 'sum', in the pinned program and in every row, IS THE sha256 OF THE DUMP (.gsa) THAT YbulkejriProg.lean LOADS. Nothing in Lean hashes anything: it is a label: what it is worth is what the hold of that sum in a sandbox is worth. -/
noncomputable def Yba.pinned : Pinned := { name := "ybulkejri", sum := "403db9d8e3ea22a252344c5121cb13fe507ca5f391aafb3b5e1b5842eb5cb3ad", checked := Yba.checked }
namespace Rows
def none {H : Type} : Left H := { results := [], args := [] }

/-- 'clause.LawS6794BWhole': WHATEVER THE INPUT: true; the input reads as it did. -/
def lawS6794BWholeSpec : ChangeSpec := { name := "lawS6794BWhole", fn := fun _ => fun
  | [d1, d2] => { results := [.lit (.bool true)], args := [d1, d2] }
  | _ => none }
def lawS6794BWholeRow : OpenClaim := { program := "ybulkejri", sum := "403db9d8e3ea22a252344c5121cb13fe507ca5f391aafb3b5e1b5842eb5cb3ad", func := "example.com/zhuanzhai/zhuanzhai/pkg/clause.LawS6794BWhole", spec := "lawS6794BWhole", apart := false }
def LawS6794BWholeSaid : Prop := lawS6794BWholeRow.holds Yba.pinned (OpenSpec.ofChange lawS6794BWholeSpec)

/-- ITS FALSE NEIGHBOUR: 'it returns false'. Refute it at one input. -/
def lawS6794BWholeWrong : ChangeSpec := { name := "lawS6794BWhole", fn := fun _ => fun
  | [d1, d2] => { results := [.lit (.bool false)], args := [d1, d2] }
  | _ => none }
def LawS6794BWholeWrongFalsely : Prop := lawS6794BWholeRow.holds Yba.pinned (OpenSpec.ofChange lawS6794BWholeWrong)

end Rows
end Go.Proofs.Ybulkejri
