/-
  No cell of these rows narrows 'for every input' (looked for: loops, veiled, ifaces, maps, wideKeys, modest, calm, conditions, laid).
  DERIVED. THE GIVEN ROWS OF THIS SEAT. 2 by the template 'for every input the law returns true; each argument reads behind the call as it read before'; 0 by the template 'total and deterministic' (their statements: YbulkbiokFmtTotals.lean).
  GIVEN WITH THE SEED: the statements are not yours to turn. If you find one false, say at which input.
  Laid BY PROGRAM, IN A SANDBOX (cutbox-rows.mjs): the forced cells as the released guide's own fill.sh prints them over the translation 31c2a0aac6df9a6c… (all of the seat's roots in one cut). By AI agents, Wed Nov 11 2026. No macro, syntax, notation, axiom, sorry.
-/
import Derived.Test.YbulkbiokFmtChecked
import GoSem.Claim
import GoSem.ClaimJoined
import GoSem.ClaimMapViews
import Derived.JoinedTies
import Derived.KernelRfl
namespace Go.Proofs.YbulkbiokFmt
/- THE CELL 'sum', in the pinned program and in every row, IS THE sha256 OF THE DUMP (.gsa) THAT YbulkbiokFmtProg.lean LOADS. Nothing in Lean hashes anything: it is a label: what it is worth is what the hold of that sum in a sandbox is worth. -/
noncomputable def Ybaf.pinned : Pinned := { name := "ybulkbiokfmt", sum := "31c2a0aac6df9a6cde1aa34434e4da94d24d16068f89dda265d65ff31a95b421", checked := Ybaf.checked }
namespace Rows
def none {H : Type} : Left H := { results := [], args := [] }

/-- 'loyal-quorum.LawS2974BNameKey': WHATEVER THE INPUT: true; the input reads as it did. -/
def lawS2974BNameKeySpec : ChangeSpec := { name := "lawS2974BNameKey", fn := fun _ => fun
  | [d1, d2, d3] => { results := [.lit (.bool true)], args := [d1, d2, d3] }
  | _ => none }
def lawS2974BNameKeyRow : OpenClaim := { program := "ybulkbiokfmt", sum := "31c2a0aac6df9a6cde1aa34434e4da94d24d16068f89dda265d65ff31a95b421", func := "example.com/loyal-quorum/loyal-quorum.LawS2974BNameKey", spec := "lawS2974BNameKey", stops := ["fmt.Sprintf"], inPlace := ["fmt.Sprintf"], apart := false }
/-- NO THEOREM (fmt's text is open here; it may be false): for the released tool's asking of the row's closed facts alone. THE STATEMENT IS 'LawS2974BNameKeyToldSaid' (YbulkbiokFmtCards.lean). -/
def LawS2974BNameKeyFormAsk : Prop := lawS2974BNameKeyRow.holds Ybaf.pinned (OpenSpec.ofChange lawS2974BNameKeySpec)

/-- ITS FALSE NEIGHBOUR: 'it returns false'. Refute it at one input. -/
def lawS2974BNameKeyWrong : ChangeSpec := { name := "lawS2974BNameKey", fn := fun _ => fun
  | [d1, d2, d3] => { results := [.lit (.bool false)], args := [d1, d2, d3] }
  | _ => none }
def LawS2974BNameKeyWrongFormAsk : Prop := lawS2974BNameKeyRow.holds Ybaf.pinned (OpenSpec.ofChange lawS2974BNameKeyWrong)

/-- 'loyal-quorum.LawS2974BAnyKey': WHATEVER THE INPUT: true; the input reads as it did. -/
def lawS2974BAnyKeySpec : ChangeSpec := { name := "lawS2974BAnyKey", fn := fun _ => fun
  | [d1, d2] => { results := [.lit (.bool true)], args := [d1, d2] }
  | _ => none }
def lawS2974BAnyKeyRow : OpenClaim := { program := "ybulkbiokfmt", sum := "31c2a0aac6df9a6cde1aa34434e4da94d24d16068f89dda265d65ff31a95b421", func := "example.com/loyal-quorum/loyal-quorum.LawS2974BAnyKey", spec := "lawS2974BAnyKey", stops := ["fmt.Sprintf"], inPlace := ["fmt.Sprintf"], apart := false }
/-- NO THEOREM (fmt's text is open here; it may be false): for the released tool's asking of the row's closed facts alone. THE STATEMENT IS 'LawS2974BAnyKeyToldSaid' (YbulkbiokFmtCards.lean). -/
def LawS2974BAnyKeyFormAsk : Prop := lawS2974BAnyKeyRow.holds Ybaf.pinned (OpenSpec.ofChange lawS2974BAnyKeySpec)

/-- ITS FALSE NEIGHBOUR: 'it returns false'. Refute it at one input. -/
def lawS2974BAnyKeyWrong : ChangeSpec := { name := "lawS2974BAnyKey", fn := fun _ => fun
  | [d1, d2] => { results := [.lit (.bool false)], args := [d1, d2] }
  | _ => none }
def LawS2974BAnyKeyWrongFormAsk : Prop := lawS2974BAnyKeyRow.holds Ybaf.pinned (OpenSpec.ofChange lawS2974BAnyKeyWrong)

end Rows
end Go.Proofs.YbulkbiokFmt
