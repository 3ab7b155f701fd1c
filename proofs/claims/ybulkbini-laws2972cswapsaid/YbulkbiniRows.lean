/-
  No cell of these rows narrows 'for every input' (looked for: loops, veiled, ifaces, maps, wideKeys, modest, calm, conditions, laid).
  DERIVED. THE GIVEN ROWS OF THIS SEAT. 4 by the template 'for every input the law returns true; each argument reads behind the call as it read before'; 0 by the template 'total and deterministic' (their statements: YbulkbiniTotals.lean).
  GIVEN WITH THE SEED: the statements are not yours to turn. If you find one false, say at which input.
  Laid BY PROGRAM, IN A SANDBOX (cutbox-rows.mjs): the forced cells as the released guide's own fill.sh prints them over the translation d88fa73750a2cef6… (all of the seat's roots in one cut). By AI agents, Wed Nov 11 2026. No macro, syntax, notation, axiom, sorry.
-/
import Derived.Test.YbulkbiniChecked
import GoSem.Claim
import GoSem.ClaimJoined
import GoSem.ClaimMapViews
import Derived.JoinedTies
import Derived.KernelRfl
namespace Go.Proofs.Ybulkbini
/- THE CELL 'sum', in the pinned program and in every row, IS THE sha256 OF THE DUMP (.gsa) THAT YbulkbiniProg.lean LOADS. Nothing in Lean hashes anything: it is a label: what it is worth is what the hold of that sum in a sandbox is worth. -/
noncomputable def Yba.pinned : Pinned := { name := "ybulkbini", sum := "d88fa73750a2cef69f2f98811c5bc23f4812f80a2b919b8834b5ceed15413a00", checked := Yba.checked }
namespace Rows
def none {H : Type} : Left H := { results := [], args := [] }

/-- 'flow.LawS2972APicks': WHATEVER THE INPUT: true; the input reads as it did. -/
def lawS2972APicksSpec : ChangeSpec := { name := "lawS2972APicks", fn := fun _ => fun
  | [d1, d2, d3, d4] => { results := [.lit (.bool true)], args := [d1, d2, d3, d4] }
  | _ => none }
def lawS2972APicksRow : OpenClaim := { program := "ybulkbini", sum := "d88fa73750a2cef69f2f98811c5bc23f4812f80a2b919b8834b5ceed15413a00", func := "example.com/findwright/findwright/internal/flow.LawS2972APicks", spec := "lawS2972APicks", plainKeys := false, apart := false }
def LawS2972APicksSaid : Prop := lawS2972APicksRow.holds Yba.pinned (OpenSpec.ofChange lawS2972APicksSpec)

/-- ITS FALSE NEIGHBOUR: 'it returns false'. Refute it at one input. -/
def lawS2972APicksWrong : ChangeSpec := { name := "lawS2972APicks", fn := fun _ => fun
  | [d1, d2, d3, d4] => { results := [.lit (.bool false)], args := [d1, d2, d3, d4] }
  | _ => none }
def LawS2972APicksWrongFalsely : Prop := lawS2972APicksRow.holds Yba.pinned (OpenSpec.ofChange lawS2972APicksWrong)

/-- 'flow.LawS2972AReaches': WHATEVER THE INPUT: true; the input reads as it did. -/
def lawS2972AReachesSpec : ChangeSpec := { name := "lawS2972AReaches", fn := fun _ => fun
  | [d1, d2, d3, d4, d5, d6] => { results := [.lit (.bool true)], args := [d1, d2, d3, d4, d5, d6] }
  | _ => none }
def lawS2972AReachesRow : OpenClaim := { program := "ybulkbini", sum := "d88fa73750a2cef69f2f98811c5bc23f4812f80a2b919b8834b5ceed15413a00", func := "example.com/findwright/findwright/internal/flow.LawS2972AReaches", spec := "lawS2972AReaches", plainKeys := false, apart := false }
def LawS2972AReachesSaid : Prop := lawS2972AReachesRow.holds Yba.pinned (OpenSpec.ofChange lawS2972AReachesSpec)

/-- ITS FALSE NEIGHBOUR: 'it returns false'. Refute it at one input. -/
def lawS2972AReachesWrong : ChangeSpec := { name := "lawS2972AReaches", fn := fun _ => fun
  | [d1, d2, d3, d4, d5, d6] => { results := [.lit (.bool false)], args := [d1, d2, d3, d4, d5, d6] }
  | _ => none }
def LawS2972AReachesWrongFalsely : Prop := lawS2972AReachesRow.holds Yba.pinned (OpenSpec.ofChange lawS2972AReachesWrong)

/-- 'flow.LawS2972CThreeFacts': WHATEVER THE INPUT: true; the input reads as it did. -/
def lawS2972CThreeFactsSpec : ChangeSpec := { name := "lawS2972CThreeFacts", fn := fun _ => fun
  | [d1, d2, d3, d4, d5] => { results := [.lit (.bool true)], args := [d1, d2, d3, d4, d5] }
  | _ => none }
def lawS2972CThreeFactsRow : OpenClaim := { program := "ybulkbini", sum := "d88fa73750a2cef69f2f98811c5bc23f4812f80a2b919b8834b5ceed15413a00", func := "example.com/findwright/findwright/internal/flow.LawS2972CThreeFacts", spec := "lawS2972CThreeFacts", plainKeys := false, apart := false }
def LawS2972CThreeFactsSaid : Prop := lawS2972CThreeFactsRow.holds Yba.pinned (OpenSpec.ofChange lawS2972CThreeFactsSpec)

/-- ITS FALSE NEIGHBOUR: 'it returns false'. Refute it at one input. -/
def lawS2972CThreeFactsWrong : ChangeSpec := { name := "lawS2972CThreeFacts", fn := fun _ => fun
  | [d1, d2, d3, d4, d5] => { results := [.lit (.bool false)], args := [d1, d2, d3, d4, d5] }
  | _ => none }
def LawS2972CThreeFactsWrongFalsely : Prop := lawS2972CThreeFactsRow.holds Yba.pinned (OpenSpec.ofChange lawS2972CThreeFactsWrong)

/-- 'flow.LawS2972CSwap': WHATEVER THE INPUT: true; the input reads as it did. -/
def lawS2972CSwapSpec : ChangeSpec := { name := "lawS2972CSwap", fn := fun _ => fun
  | [d1, d2] => { results := [.lit (.bool true)], args := [d1, d2] }
  | _ => none }
def lawS2972CSwapRow : OpenClaim := { program := "ybulkbini", sum := "d88fa73750a2cef69f2f98811c5bc23f4812f80a2b919b8834b5ceed15413a00", func := "example.com/findwright/findwright/internal/flow.LawS2972CSwap", spec := "lawS2972CSwap", plainKeys := false, apart := false }
def LawS2972CSwapSaid : Prop := lawS2972CSwapRow.holds Yba.pinned (OpenSpec.ofChange lawS2972CSwapSpec)

/-- ITS FALSE NEIGHBOUR: 'it returns false'. Refute it at one input. -/
def lawS2972CSwapWrong : ChangeSpec := { name := "lawS2972CSwap", fn := fun _ => fun
  | [d1, d2] => { results := [.lit (.bool false)], args := [d1, d2] }
  | _ => none }
def LawS2972CSwapWrongFalsely : Prop := lawS2972CSwapRow.holds Yba.pinned (OpenSpec.ofChange lawS2972CSwapWrong)

end Rows
end Go.Proofs.Ybulkbini
