/-
  No cell of these rows narrows 'for every input' (looked for: loops, veiled, ifaces, maps, wideKeys, modest, calm, conditions, laid).
  DERIVED. THE GIVEN ROWS OF THIS SEAT. 1 by the template 'for every input the law returns true; each argument reads behind the call as it read before'; 0 by the template 'total and deterministic' (their statements: YbulkejqgTotals.lean).
  GIVEN WITH THE SEED: the statements are not yours to turn. If you find one false, say at which input.
  Laid BY PROGRAM, IN A SANDBOX (cutbox-rows.mjs): the forced cells as the released guide's own fill.sh prints them over the translation 893003ed4680ea43… (all of the seat's roots in one cut). By AI agents, Wed Nov 11 2026. No macro, syntax, notation, axiom, sorry.
-/
import Derived.Test.YbulkejqgChecked
import GoSem.Claim
import GoSem.ClaimJoined
import GoSem.ClaimMapViews
import Derived.JoinedTies
import Derived.KernelRfl
namespace Go.Proofs.Ybulkejqg
/- THE CELL 'sum', in the pinned program and in every row, IS THE sha256 OF THE DUMP (.gsa) THAT YbulkejqgProg.lean LOADS. Nothing in Lean hashes anything: it is a label: what it is worth is what the hold of that sum in a sandbox is worth. -/
noncomputable def Yba.pinned : Pinned := { name := "ybulkejqg", sum := "893003ed4680ea438c01c8397d2335e3e22eab0f05c2aef6e1f8a6adccf3ea91", checked := Yba.checked }
namespace Rows
def none {H : Type} : Left H := { results := [], args := [] }

/-- 'exact.LawS6792AWhole': WHATEVER THE INPUT: true; the input reads as it did. -/
def lawS6792AWholeSpec : ChangeSpec := { name := "lawS6792AWhole", fn := fun _ => fun
  | [d] => { results := [.lit (.bool true)], args := [d] }
  | _ => none }
def lawS6792AWholeRow : OpenClaim := { program := "ybulkejqg", sum := "893003ed4680ea438c01c8397d2335e3e22eab0f05c2aef6e1f8a6adccf3ea91", func := "example.com/xunjia/xunjia/internal/exact.LawS6792AWhole", spec := "lawS6792AWhole", apart := false }
def LawS6792AWholeSaid : Prop := lawS6792AWholeRow.holds Yba.pinned (OpenSpec.ofChange lawS6792AWholeSpec)

/-- ITS FALSE NEIGHBOUR: 'it returns false'. Refute it at one input. -/
def lawS6792AWholeWrong : ChangeSpec := { name := "lawS6792AWhole", fn := fun _ => fun
  | [d] => { results := [.lit (.bool false)], args := [d] }
  | _ => none }
def LawS6792AWholeWrongFalsely : Prop := lawS6792AWholeRow.holds Yba.pinned (OpenSpec.ofChange lawS6792AWholeWrong)

end Rows
end Go.Proofs.Ybulkejqg
