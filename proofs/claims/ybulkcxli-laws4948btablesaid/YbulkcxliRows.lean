/-
  No cell of these rows narrows 'for every input' (looked for: loops, veiled, ifaces, maps, wideKeys, modest, calm, conditions, laid).
  DERIVED. THE GIVEN ROWS OF THIS SEAT. 2 by the template 'for every input the law returns true; each argument reads behind the call as it read before'; 0 by the template 'total and deterministic' (their statements: YbulkcxliTotals.lean).
  GIVEN WITH THE SEED: the statements are not yours to turn. If you find one false, say at which input.
  Laid BY PROGRAM, IN A SANDBOX (cutbox-rows.mjs): the forced cells as the released guide's own fill.sh prints them over the translation f3fd436033aeebd6… (all of the seat's roots in one cut). By AI agents, Wed Nov 11 2026. No macro, syntax, notation, axiom, sorry.
-/
import Derived.Test.YbulkcxliChecked
import GoSem.Claim
import GoSem.ClaimJoined
import GoSem.ClaimMapViews
import Derived.JoinedTies
import Derived.KernelRfl
namespace Go.Proofs.Ybulkcxli
/- THE CELL 'sum', in the pinned program and in every row, IS THE sha256 OF THE DUMP (.gsa) THAT YbulkcxliProg.lean LOADS. Nothing in Lean hashes anything: it is a label: what it is worth is what the hold of that sum in a sandbox is worth. -/
noncomputable def Yba.pinned : Pinned := { name := "ybulkcxli", sum := "f3fd436033aeebd62686188230d3de27cac288a48912a187d612c8ad1a36f637", checked := Yba.checked }
namespace Rows
def none {H : Type} : Left H := { results := [], args := [] }

/-- 'bencode.LawS4948BTable': WHATEVER THE INPUT: true; the input reads as it did. -/
def lawS4948BTableSpec : ChangeSpec := { name := "lawS4948BTable", fn := fun _ => fun
  | [d] => { results := [.lit (.bool true)], args := [d] }
  | _ => none }
def lawS4948BTableRow : OpenClaim := { program := "ybulkcxli", sum := "f3fd436033aeebd62686188230d3de27cac288a48912a187d612c8ad1a36f637", func := "example.com/swarmline/swarmline/bencode.LawS4948BTable", spec := "lawS4948BTable", apart := false }
def LawS4948BTableSaid : Prop := lawS4948BTableRow.holds Yba.pinned (OpenSpec.ofChange lawS4948BTableSpec)

/-- ITS FALSE NEIGHBOUR: 'it returns false'. Refute it at one input. -/
def lawS4948BTableWrong : ChangeSpec := { name := "lawS4948BTable", fn := fun _ => fun
  | [d] => { results := [.lit (.bool false)], args := [d] }
  | _ => none }
def LawS4948BTableWrongFalsely : Prop := lawS4948BTableRow.holds Yba.pinned (OpenSpec.ofChange lawS4948BTableWrong)

/-- 'bencode.LawS4948BLead': WHATEVER THE INPUT: true; the input reads as it did. -/
def lawS4948BLeadSpec : ChangeSpec := { name := "lawS4948BLead", fn := fun _ => fun
  | [d1, d2] => { results := [.lit (.bool true)], args := [d1, d2] }
  | _ => none }
def lawS4948BLeadRow : OpenClaim := { program := "ybulkcxli", sum := "f3fd436033aeebd62686188230d3de27cac288a48912a187d612c8ad1a36f637", func := "example.com/swarmline/swarmline/bencode.LawS4948BLead", spec := "lawS4948BLead", apart := false }
def LawS4948BLeadSaid : Prop := lawS4948BLeadRow.holds Yba.pinned (OpenSpec.ofChange lawS4948BLeadSpec)

/-- ITS FALSE NEIGHBOUR: 'it returns false'. Refute it at one input. -/
def lawS4948BLeadWrong : ChangeSpec := { name := "lawS4948BLead", fn := fun _ => fun
  | [d1, d2] => { results := [.lit (.bool false)], args := [d1, d2] }
  | _ => none }
def LawS4948BLeadWrongFalsely : Prop := lawS4948BLeadRow.holds Yba.pinned (OpenSpec.ofChange lawS4948BLeadWrong)

end Rows
end Go.Proofs.Ybulkcxli
