/-
  No cell of these rows narrows 'for every input' (looked for: loops, veiled, ifaces, maps, wideKeys, modest, calm, conditions, laid).
  DERIVED. THE GIVEN ROWS OF THIS SEAT. 3 by the template 'for every input the law returns true; each argument reads behind the call as it read before'; 0 by the template 'total and deterministic' (their statements: YbulkdeliTotals.lean).
  GIVEN WITH THE SEED: the statements are not yours to turn. If you find one false, say at which input.
  Laid BY PROGRAM, IN A SANDBOX (cutbox-rows.mjs): the forced cells as the released guide's own fill.sh prints them over the translation 562b2a77acfc6e4c… (all of the seat's roots in one cut). By AI agents, Wed Nov 11 2026. No macro, syntax, notation, axiom, sorry.
-/
import Derived.Test.YbulkdeliChecked
import GoSem.Claim
import GoSem.ClaimJoined
import GoSem.ClaimMapViews
import Derived.JoinedTies
import Derived.KernelRfl
namespace Go.Proofs.Ybulkdeli
/- THE CELL 'sum', in the pinned program and in every row, IS THE sha256 OF THE DUMP (.gsa) THAT YbulkdeliProg.lean LOADS. Nothing in Lean hashes anything: it is a label: what it is worth is what the hold of that sum in a sandbox is worth. -/
noncomputable def Yba.pinned : Pinned := { name := "ybulkdeli", sum := "562b2a77acfc6e4c8ea54428d74e74d2c0b7a26caae537e2ce712edd6bfae2dc", checked := Yba.checked }
namespace Rows
def none {H : Type} : Left H := { results := [], args := [] }

/-- 'timesort.LawS5286AOrder': WHATEVER THE INPUT: true; the input reads as it did. -/
def lawS5286AOrderSpec : ChangeSpec := { name := "lawS5286AOrder", fn := fun _ => fun
  | [d] => { results := [.lit (.bool true)], args := [d] }
  | _ => none }
def lawS5286AOrderRow : OpenClaim := { program := "ybulkdeli", sum := "562b2a77acfc6e4c8ea54428d74e74d2c0b7a26caae537e2ce712edd6bfae2dc", func := "example.com/entrywise/entrywise/internal/timesort.LawS5286AOrder", spec := "lawS5286AOrder", unfollowed := true, recurses := true, apart := false }
def LawS5286AOrderSaid : Prop := lawS5286AOrderRow.holds Yba.pinned (OpenSpec.ofChange lawS5286AOrderSpec)

/-- ITS FALSE NEIGHBOUR: 'it returns false'. Refute it at one input. -/
def lawS5286AOrderWrong : ChangeSpec := { name := "lawS5286AOrder", fn := fun _ => fun
  | [d] => { results := [.lit (.bool false)], args := [d] }
  | _ => none }
def LawS5286AOrderWrongFalsely : Prop := lawS5286AOrderRow.holds Yba.pinned (OpenSpec.ofChange lawS5286AOrderWrong)

/-- 'mongodbjson.LawS5286CExact': WHATEVER THE INPUT: true; the input reads as it did. -/
def lawS5286CExactSpec : ChangeSpec := { name := "lawS5286CExact", fn := fun _ => fun
  | [d1, d2, d3, d4] => { results := [.lit (.bool true)], args := [d1, d2, d3, d4] }
  | _ => none }
def lawS5286CExactRow : OpenClaim := { program := "ybulkdeli", sum := "562b2a77acfc6e4c8ea54428d74e74d2c0b7a26caae537e2ce712edd6bfae2dc", func := "example.com/entrywise/entrywise/mongodbjson.LawS5286CExact", spec := "lawS5286CExact", apart := false }
def LawS5286CExactSaid : Prop := lawS5286CExactRow.holds Yba.pinned (OpenSpec.ofChange lawS5286CExactSpec)

/-- ITS FALSE NEIGHBOUR: 'it returns false'. Refute it at one input. -/
def lawS5286CExactWrong : ChangeSpec := { name := "lawS5286CExact", fn := fun _ => fun
  | [d1, d2, d3, d4] => { results := [.lit (.bool false)], args := [d1, d2, d3, d4] }
  | _ => none }
def LawS5286CExactWrongFalsely : Prop := lawS5286CExactRow.holds Yba.pinned (OpenSpec.ofChange lawS5286CExactWrong)

/-- 'mongodbjson.LawS5286CFresh': WHATEVER THE INPUT: true; the input reads as it did. -/
def lawS5286CFreshSpec : ChangeSpec := { name := "lawS5286CFresh", fn := fun _ => fun
  | [d1, d2] => { results := [.lit (.bool true)], args := [d1, d2] }
  | _ => none }
def lawS5286CFreshRow : OpenClaim := { program := "ybulkdeli", sum := "562b2a77acfc6e4c8ea54428d74e74d2c0b7a26caae537e2ce712edd6bfae2dc", func := "example.com/entrywise/entrywise/mongodbjson.LawS5286CFresh", spec := "lawS5286CFresh", apart := false }
def LawS5286CFreshSaid : Prop := lawS5286CFreshRow.holds Yba.pinned (OpenSpec.ofChange lawS5286CFreshSpec)

/-- ITS FALSE NEIGHBOUR: 'it returns false'. Refute it at one input. -/
def lawS5286CFreshWrong : ChangeSpec := { name := "lawS5286CFresh", fn := fun _ => fun
  | [d1, d2] => { results := [.lit (.bool false)], args := [d1, d2] }
  | _ => none }
def LawS5286CFreshWrongFalsely : Prop := lawS5286CFreshRow.holds Yba.pinned (OpenSpec.ofChange lawS5286CFreshWrong)

end Rows
end Go.Proofs.Ybulkdeli
