/-
  No cell of these rows narrows 'for every input' (looked for: loops, veiled, ifaces, maps, wideKeys, modest, calm, conditions, laid).
  DERIVED. THE GIVEN ROWS OF THIS SEAT. 6 by the template 'for every input the law returns true; each argument reads behind the call as it read before'; 0 by the template 'total and deterministic' (their statements: YbulkdekgTotals.lean).
  GIVEN WITH THE SEED: the statements are not yours to turn. If you find one false, say at which input.
  Laid BY PROGRAM, IN A SANDBOX (cutbox-rows.mjs): the forced cells as the released guide's own fill.sh prints them over the translation c62fe661938f1484… (all of the seat's roots in one cut). By AI agents, Wed Nov 11 2026. No macro, syntax, notation, axiom, sorry.
-/
import Derived.Test.YbulkdekgChecked
import GoSem.Claim
import GoSem.ClaimJoined
import GoSem.ClaimMapViews
import Derived.JoinedTies
import Derived.KernelRfl
namespace Go.Proofs.Ybulkdekg
/- THE CELL 'sum', in the pinned program and in every row, IS THE sha256 OF THE DUMP (.gsa) THAT YbulkdekgProg.lean LOADS. Nothing in Lean hashes anything: it is a label: what it is worth is what the hold of that sum in a sandbox is worth. -/
noncomputable def Yba.pinned : Pinned := { name := "ybulkdekg", sum := "c62fe661938f148486b72e3a4919d4823b8e9168190675d9c8fef6a55ef5771e", checked := Yba.checked }
namespace Rows
def none {H : Type} : Left H := { results := [], args := [] }

/-- 'evenkeel.LawS5284ACounts': WHATEVER THE INPUT: true; the input reads as it did. -/
def lawS5284ACountsSpec : ChangeSpec := { name := "lawS5284ACounts", fn := fun _ => fun
  | [d1, d2, d3] => { results := [.lit (.bool true)], args := [d1, d2, d3] }
  | _ => none }
def lawS5284ACountsRow : OpenClaim := { program := "ybulkdekg", sum := "c62fe661938f148486b72e3a4919d4823b8e9168190675d9c8fef6a55ef5771e", func := "example.com/evenkeel/evenkeel.LawS5284ACounts", spec := "lawS5284ACounts", unfollowed := true, recurses := true, plainKeys := false, apart := false }
def LawS5284ACountsSaid : Prop := lawS5284ACountsRow.holds Yba.pinned (OpenSpec.ofChange lawS5284ACountsSpec)

/-- ITS FALSE NEIGHBOUR: 'it returns false'. Refute it at one input. -/
def lawS5284ACountsWrong : ChangeSpec := { name := "lawS5284ACounts", fn := fun _ => fun
  | [d1, d2, d3] => { results := [.lit (.bool false)], args := [d1, d2, d3] }
  | _ => none }
def LawS5284ACountsWrongFalsely : Prop := lawS5284ACountsRow.holds Yba.pinned (OpenSpec.ofChange lawS5284ACountsWrong)

/-- 'evenkeel.LawS5284ACalls': WHATEVER THE INPUT: true; the input reads as it did. -/
def lawS5284ACallsSpec : ChangeSpec := { name := "lawS5284ACalls", fn := fun _ => fun
  | [d1, d2, d3] => { results := [.lit (.bool true)], args := [d1, d2, d3] }
  | _ => none }
def lawS5284ACallsRow : OpenClaim := { program := "ybulkdekg", sum := "c62fe661938f148486b72e3a4919d4823b8e9168190675d9c8fef6a55ef5771e", func := "example.com/evenkeel/evenkeel.LawS5284ACalls", spec := "lawS5284ACalls", unfollowed := true, recurses := true, plainKeys := false, apart := false }
def LawS5284ACallsSaid : Prop := lawS5284ACallsRow.holds Yba.pinned (OpenSpec.ofChange lawS5284ACallsSpec)

/-- ITS FALSE NEIGHBOUR: 'it returns false'. Refute it at one input. -/
def lawS5284ACallsWrong : ChangeSpec := { name := "lawS5284ACalls", fn := fun _ => fun
  | [d1, d2, d3] => { results := [.lit (.bool false)], args := [d1, d2, d3] }
  | _ => none }
def LawS5284ACallsWrongFalsely : Prop := lawS5284ACallsRow.holds Yba.pinned (OpenSpec.ofChange lawS5284ACallsWrong)

/-- 'evenkeel.LawS5284BCounts': WHATEVER THE INPUT: true; the input reads as it did. -/
def lawS5284BCountsSpec : ChangeSpec := { name := "lawS5284BCounts", fn := fun _ => fun
  | [d1, d2, d3] => { results := [.lit (.bool true)], args := [d1, d2, d3] }
  | _ => none }
def lawS5284BCountsRow : OpenClaim := { program := "ybulkdekg", sum := "c62fe661938f148486b72e3a4919d4823b8e9168190675d9c8fef6a55ef5771e", func := "example.com/evenkeel/evenkeel.LawS5284BCounts", spec := "lawS5284BCounts", unfollowed := true, recurses := true, plainKeys := false, apart := false }
def LawS5284BCountsSaid : Prop := lawS5284BCountsRow.holds Yba.pinned (OpenSpec.ofChange lawS5284BCountsSpec)

/-- ITS FALSE NEIGHBOUR: 'it returns false'. Refute it at one input. -/
def lawS5284BCountsWrong : ChangeSpec := { name := "lawS5284BCounts", fn := fun _ => fun
  | [d1, d2, d3] => { results := [.lit (.bool false)], args := [d1, d2, d3] }
  | _ => none }
def LawS5284BCountsWrongFalsely : Prop := lawS5284BCountsRow.holds Yba.pinned (OpenSpec.ofChange lawS5284BCountsWrong)

/-- 'evenkeel.LawS5284BFirstTurn': WHATEVER THE INPUT: true; the input reads as it did. -/
def lawS5284BFirstTurnSpec : ChangeSpec := { name := "lawS5284BFirstTurn", fn := fun _ => fun
  | [d1, d2, d3] => { results := [.lit (.bool true)], args := [d1, d2, d3] }
  | _ => none }
def lawS5284BFirstTurnRow : OpenClaim := { program := "ybulkdekg", sum := "c62fe661938f148486b72e3a4919d4823b8e9168190675d9c8fef6a55ef5771e", func := "example.com/evenkeel/evenkeel.LawS5284BFirstTurn", spec := "lawS5284BFirstTurn", unfollowed := true, recurses := true, plainKeys := false, apart := false }
def LawS5284BFirstTurnSaid : Prop := lawS5284BFirstTurnRow.holds Yba.pinned (OpenSpec.ofChange lawS5284BFirstTurnSpec)

/-- ITS FALSE NEIGHBOUR: 'it returns false'. Refute it at one input. -/
def lawS5284BFirstTurnWrong : ChangeSpec := { name := "lawS5284BFirstTurn", fn := fun _ => fun
  | [d1, d2, d3] => { results := [.lit (.bool false)], args := [d1, d2, d3] }
  | _ => none }
def LawS5284BFirstTurnWrongFalsely : Prop := lawS5284BFirstTurnRow.holds Yba.pinned (OpenSpec.ofChange lawS5284BFirstTurnWrong)

/-- 'evenkeel.LawS5284COrder': WHATEVER THE INPUT: true; the input reads as it did. -/
def lawS5284COrderSpec : ChangeSpec := { name := "lawS5284COrder", fn := fun _ => fun
  | [d1, d2] => { results := [.lit (.bool true)], args := [d1, d2] }
  | _ => none }
def lawS5284COrderRow : OpenClaim := { program := "ybulkdekg", sum := "c62fe661938f148486b72e3a4919d4823b8e9168190675d9c8fef6a55ef5771e", func := "example.com/evenkeel/evenkeel.LawS5284COrder", spec := "lawS5284COrder", plainKeys := false, apart := false }
def LawS5284COrderSaid : Prop := lawS5284COrderRow.holds Yba.pinned (OpenSpec.ofChange lawS5284COrderSpec)

/-- ITS FALSE NEIGHBOUR: 'it returns false'. Refute it at one input. -/
def lawS5284COrderWrong : ChangeSpec := { name := "lawS5284COrder", fn := fun _ => fun
  | [d1, d2] => { results := [.lit (.bool false)], args := [d1, d2] }
  | _ => none }
def LawS5284COrderWrongFalsely : Prop := lawS5284COrderRow.holds Yba.pinned (OpenSpec.ofChange lawS5284COrderWrong)

/-- 'evenkeel.LawS5284CPeriodCounts': WHATEVER THE INPUT: true; the input reads as it did. -/
def lawS5284CPeriodCountsSpec : ChangeSpec := { name := "lawS5284CPeriodCounts", fn := fun _ => fun
  | [d1, d2] => { results := [.lit (.bool true)], args := [d1, d2] }
  | _ => none }
def lawS5284CPeriodCountsRow : OpenClaim := { program := "ybulkdekg", sum := "c62fe661938f148486b72e3a4919d4823b8e9168190675d9c8fef6a55ef5771e", func := "example.com/evenkeel/evenkeel.LawS5284CPeriodCounts", spec := "lawS5284CPeriodCounts", plainKeys := false, apart := false }
def LawS5284CPeriodCountsSaid : Prop := lawS5284CPeriodCountsRow.holds Yba.pinned (OpenSpec.ofChange lawS5284CPeriodCountsSpec)

/-- ITS FALSE NEIGHBOUR: 'it returns false'. Refute it at one input. -/
def lawS5284CPeriodCountsWrong : ChangeSpec := { name := "lawS5284CPeriodCounts", fn := fun _ => fun
  | [d1, d2] => { results := [.lit (.bool false)], args := [d1, d2] }
  | _ => none }
def LawS5284CPeriodCountsWrongFalsely : Prop := lawS5284CPeriodCountsRow.holds Yba.pinned (OpenSpec.ofChange lawS5284CPeriodCountsWrong)

end Rows
end Go.Proofs.Ybulkdekg
