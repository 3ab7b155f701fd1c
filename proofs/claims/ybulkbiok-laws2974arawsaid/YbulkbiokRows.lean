/-
  No cell of these rows narrows 'for every input' (looked for: loops, veiled, ifaces, maps, wideKeys, modest, calm, conditions, laid).
  DERIVED. THE GIVEN ROWS OF THIS SEAT. 2 by the template 'for every input the law returns true; each argument reads behind the call as it read before'; 0 by the template 'total and deterministic' (their statements: YbulkbiokTotals.lean).
  GIVEN WITH THE SEED: the statements are not yours to turn. If you find one false, say at which input.
  Laid BY PROGRAM, IN A SANDBOX (cutbox-rows.mjs): the forced cells as the released guide's own fill.sh prints them over the translation cb7a3f1fa6a3d01a… (all of the seat's roots in one cut). By AI agents, Wed Nov 11 2026. No macro, syntax, notation, axiom, sorry.
-/
import Derived.Test.YbulkbiokChecked
import GoSem.Claim
import GoSem.ClaimJoined
import GoSem.ClaimMapViews
import Derived.JoinedTies
import Derived.KernelRfl
namespace Go.Proofs.Ybulkbiok
/- THE CELL 'sum', in the pinned program and in every row, IS THE sha256 OF THE DUMP (.gsa) THAT YbulkbiokProg.lean LOADS. Nothing in Lean hashes anything: it is a label: what it is worth is what the hold of that sum in a sandbox is worth. -/
noncomputable def Yba.pinned : Pinned := { name := "ybulkbiok", sum := "cb7a3f1fa6a3d01a8fab18fde48d199765e39c87fe4f864c20a8bbab6f0d0acb", checked := Yba.checked }
namespace Rows
def none {H : Type} : Left H := { results := [], args := [] }

/-- 'wire.LawS2974ARaw': WHATEVER THE INPUT: true; the input reads as it did. -/
def lawS2974ARawSpec : ChangeSpec := { name := "lawS2974ARaw", fn := fun _ => fun
  | [d1, d2, d3, d4] => { results := [.lit (.bool true)], args := [d1, d2, d3, d4] }
  | _ => none }
def lawS2974ARawRow : OpenClaim := { program := "ybulkbiok", sum := "cb7a3f1fa6a3d01a8fab18fde48d199765e39c87fe4f864c20a8bbab6f0d0acb", func := "example.com/loyal-quorum/loyal-quorum/internal/wire.LawS2974ARaw", spec := "lawS2974ARaw", apart := false }
def LawS2974ARawSaid : Prop := lawS2974ARawRow.holds Yba.pinned (OpenSpec.ofChange lawS2974ARawSpec)

/-- ITS FALSE NEIGHBOUR: 'it returns false'. Refute it at one input. -/
def lawS2974ARawWrong : ChangeSpec := { name := "lawS2974ARaw", fn := fun _ => fun
  | [d1, d2, d3, d4] => { results := [.lit (.bool false)], args := [d1, d2, d3, d4] }
  | _ => none }
def LawS2974ARawWrongFalsely : Prop := lawS2974ARawRow.holds Yba.pinned (OpenSpec.ofChange lawS2974ARawWrong)

/-- 'wire.LawS2974ABuilt': WHATEVER THE INPUT: true; the input reads as it did. -/
def lawS2974ABuiltSpec : ChangeSpec := { name := "lawS2974ABuilt", fn := fun _ => fun
  | [d1, d2, d3, d4] => { results := [.lit (.bool true)], args := [d1, d2, d3, d4] }
  | _ => none }
def lawS2974ABuiltRow : OpenClaim := { program := "ybulkbiok", sum := "cb7a3f1fa6a3d01a8fab18fde48d199765e39c87fe4f864c20a8bbab6f0d0acb", func := "example.com/loyal-quorum/loyal-quorum/internal/wire.LawS2974ABuilt", spec := "lawS2974ABuilt", apart := false }
def LawS2974ABuiltSaid : Prop := lawS2974ABuiltRow.holds Yba.pinned (OpenSpec.ofChange lawS2974ABuiltSpec)

/-- ITS FALSE NEIGHBOUR: 'it returns false'. Refute it at one input. -/
def lawS2974ABuiltWrong : ChangeSpec := { name := "lawS2974ABuilt", fn := fun _ => fun
  | [d1, d2, d3, d4] => { results := [.lit (.bool false)], args := [d1, d2, d3, d4] }
  | _ => none }
def LawS2974ABuiltWrongFalsely : Prop := lawS2974ABuiltRow.holds Yba.pinned (OpenSpec.ofChange lawS2974ABuiltWrong)

end Rows
end Go.Proofs.Ybulkbiok
