/-
  No cell of these rows narrows 'for every input' (looked for: loops, veiled, ifaces, maps, wideKeys, modest, calm, conditions, laid).
  DERIVED. THE GIVEN ROWS OF THIS SEAT. 2 by the template 'for every input the law returns true; each argument reads behind the call as it read before'; 0 by the template 'total and deterministic' (their statements: YbulkdenmTotals.lean).
  GIVEN WITH THE SEED: the statements are not yours to turn. If you find one false, say at which input.
  Laid BY PROGRAM, IN A SANDBOX (cutbox-rows.mjs): the forced cells as the released guide's own fill.sh prints them over the translation 89b6c5c5d2d141d5… (all of the seat's roots in one cut). By AI agents, Wed Nov 11 2026. No macro, syntax, notation, axiom, sorry.
-/
import Derived.Test.YbulkdenmChecked
import GoSem.Claim
import GoSem.ClaimJoined
import GoSem.ClaimMapViews
import Derived.JoinedTies
import Derived.KernelRfl
namespace Go.Proofs.Ybulkdenm
/- THE CELL 'sum', in the pinned program and in every row, IS THE sha256 OF THE DUMP (.gsa) THAT YbulkdenmProg.lean LOADS. Nothing in Lean hashes anything: it is a label: what it is worth is what the hold of that sum in a sandbox is worth. -/
noncomputable def Yba.pinned : Pinned := { name := "ybulkdenm", sum := "89b6c5c5d2d141d5e192f440c909b476fb3017c707be135bac6ab4773de70a72", checked := Yba.checked }
namespace Rows
def none {H : Type} : Left H := { results := [], args := [] }

/-- 'payments.LawS5290CEnters': WHATEVER THE INPUT: true; the input reads as it did. -/
def lawS5290CEntersSpec : ChangeSpec := { name := "lawS5290CEnters", fn := fun _ => fun
  | [d1, d2, d3, d4, d5, d6] => { results := [.lit (.bool true)], args := [d1, d2, d3, d4, d5, d6] }
  | _ => none }
def lawS5290CEntersRow : OpenClaim := { program := "ybulkdenm", sum := "89b6c5c5d2d141d5e192f440c909b476fb3017c707be135bac6ab4773de70a72", func := "example.com/tillbridge/tillbridge/payments.LawS5290CEnters", spec := "lawS5290CEnters", plainKeys := false, apart := false }
def LawS5290CEntersSaid : Prop := lawS5290CEntersRow.holds Yba.pinned (OpenSpec.ofChange lawS5290CEntersSpec)

/-- ITS FALSE NEIGHBOUR: 'it returns false'. Refute it at one input. -/
def lawS5290CEntersWrong : ChangeSpec := { name := "lawS5290CEnters", fn := fun _ => fun
  | [d1, d2, d3, d4, d5, d6] => { results := [.lit (.bool false)], args := [d1, d2, d3, d4, d5, d6] }
  | _ => none }
def LawS5290CEntersWrongFalsely : Prop := lawS5290CEntersRow.holds Yba.pinned (OpenSpec.ofChange lawS5290CEntersWrong)

/-- 'payments.LawS5290CSeries': WHATEVER THE INPUT: true; the input reads as it did. -/
def lawS5290CSeriesSpec : ChangeSpec := { name := "lawS5290CSeries", fn := fun _ => fun
  | [d1, d2, d3] => { results := [.lit (.bool true)], args := [d1, d2, d3] }
  | _ => none }
def lawS5290CSeriesRow : OpenClaim := { program := "ybulkdenm", sum := "89b6c5c5d2d141d5e192f440c909b476fb3017c707be135bac6ab4773de70a72", func := "example.com/tillbridge/tillbridge/payments.LawS5290CSeries", spec := "lawS5290CSeries", plainKeys := false, apart := false }
def LawS5290CSeriesSaid : Prop := lawS5290CSeriesRow.holds Yba.pinned (OpenSpec.ofChange lawS5290CSeriesSpec)

/-- ITS FALSE NEIGHBOUR: 'it returns false'. Refute it at one input. -/
def lawS5290CSeriesWrong : ChangeSpec := { name := "lawS5290CSeries", fn := fun _ => fun
  | [d1, d2, d3] => { results := [.lit (.bool false)], args := [d1, d2, d3] }
  | _ => none }
def LawS5290CSeriesWrongFalsely : Prop := lawS5290CSeriesRow.holds Yba.pinned (OpenSpec.ofChange lawS5290CSeriesWrong)

end Rows
end Go.Proofs.Ybulkdenm
