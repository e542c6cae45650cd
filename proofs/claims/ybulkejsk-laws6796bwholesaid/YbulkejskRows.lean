/-
  No cell of these rows narrows 'for every input' (looked for: loops, veiled, ifaces, maps, wideKeys, modest, calm, conditions, laid).
  DERIVED. THE GIVEN ROWS OF THIS SEAT. 1 by the template 'for every input the law returns true; each argument reads behind the call as it read before'; 0 by the template 'total and deterministic' (their statements: YbulkejskTotals.lean).
  GIVEN WITH THE SEED: the statements are not yours to turn. If you find one false, say at which input.
  Laid BY PROGRAM, IN A SANDBOX (cutbox-rows.mjs): the forced cells as the released guide's own fill.sh prints them over the translation 81eebb212fee67e8… (all of the seat's roots in one cut). By AI agents, Wed Nov 11 2026. No macro, syntax, notation, axiom, sorry.
-/
import Derived.Test.YbulkejskChecked
import GoSem.Claim
import GoSem.ClaimJoined
import GoSem.ClaimMapViews
import Derived.JoinedTies
import Derived.KernelRfl
namespace Go.Proofs.Ybulkejsk
/- THE CELL 'sum', in the pinned program and in every row, IS THE sha256 OF THE DUMP (.gsa) THAT YbulkejskProg.lean LOADS. Nothing in Lean hashes anything: it is a label: what it is worth is what the hold of that sum in a sandbox is worth. -/
noncomputable def Yba.pinned : Pinned := { name := "ybulkejsk", sum := "81eebb212fee67e87bab806c0ca0009106d90b9d5d7a3993a4ae9104c3c5b145", checked := Yba.checked }
namespace Rows
def none {H : Type} : Left H := { results := [], args := [] }

/-- 'causeway.LawS6796BWhole': WHATEVER THE INPUT: true; the input reads as it did. -/
def lawS6796BWholeSpec : ChangeSpec := { name := "lawS6796BWhole", fn := fun _ => fun
  | [d1, d2] => { results := [.lit (.bool true)], args := [d1, d2] }
  | _ => none }
def lawS6796BWholeRow : OpenClaim := { program := "ybulkejsk", sum := "81eebb212fee67e87bab806c0ca0009106d90b9d5d7a3993a4ae9104c3c5b145", func := "example.com/causeway/causeway.LawS6796BWhole", spec := "lawS6796BWhole", inPlace := ["internal/bytealg.abigen_runtime_cmpstring"], apart := false }
def LawS6796BWholeSaid : Prop := lawS6796BWholeRow.holds Yba.pinned (OpenSpec.ofChange lawS6796BWholeSpec)

/-- ITS FALSE NEIGHBOUR: 'it returns false'. Refute it at one input. -/
def lawS6796BWholeWrong : ChangeSpec := { name := "lawS6796BWhole", fn := fun _ => fun
  | [d1, d2] => { results := [.lit (.bool false)], args := [d1, d2] }
  | _ => none }
def LawS6796BWholeWrongFalsely : Prop := lawS6796BWholeRow.holds Yba.pinned (OpenSpec.ofChange lawS6796BWholeWrong)

end Rows
end Go.Proofs.Ybulkejsk
