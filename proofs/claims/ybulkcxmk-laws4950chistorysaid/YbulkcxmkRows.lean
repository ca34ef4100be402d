/-
  No cell of these rows narrows 'for every input' (looked for: loops, veiled, ifaces, maps, wideKeys, modest, calm, conditions, laid).
  DERIVED. THE GIVEN ROWS OF THIS SEAT. 1 by the template 'for every input the law returns true; each argument reads behind the call as it read before'; 0 by the template 'total and deterministic' (their statements: YbulkcxmkTotals.lean).
  GIVEN WITH THE SEED: the statements are not yours to turn. If you find one false, say at which input.
  Laid BY PROGRAM, IN A SANDBOX (cutbox-rows.mjs): the forced cells as the released guide's own fill.sh prints them over the translation 7aa53700505c8e78… (all of the seat's roots in one cut). By AI agents, Wed Nov 11 2026. No macro, syntax, notation, axiom, sorry.
-/
import Derived.Test.YbulkcxmkChecked
import GoSem.Claim
import GoSem.ClaimJoined
import GoSem.ClaimMapViews
import Derived.JoinedTies
import Derived.KernelRfl
namespace Go.Proofs.Ybulkcxmk
/- THE CELL 'sum', in the pinned program and in every row, IS THE sha256 OF THE DUMP (.gsa) THAT YbulkcxmkProg.lean LOADS. Nothing in Lean hashes anything: it is a label: what it is worth is what the hold of that sum in a sandbox is worth. -/
noncomputable def Yba.pinned : Pinned := { name := "ybulkcxmk", sum := "7aa53700505c8e7806af3ae2b835e89d4e85242a47b4a91b2da5ce25b098cbc2", checked := Yba.checked }
namespace Rows
def none {H : Type} : Left H := { results := [], args := [] }

/-- 'granule.LawS4950CHistory': WHATEVER THE INPUT: true; the input reads as it did. -/
def lawS4950CHistorySpec : ChangeSpec := { name := "lawS4950CHistory", fn := fun _ => fun
  | [d1, d2] => { results := [.lit (.bool true)], args := [d1, d2] }
  | _ => none }
def lawS4950CHistoryRow : OpenClaim := { program := "ybulkcxmk", sum := "7aa53700505c8e7806af3ae2b835e89d4e85242a47b4a91b2da5ce25b098cbc2", func := "example.com/granule/granule.LawS4950CHistory", spec := "lawS4950CHistory", plainKeys := false, apart := false }
def LawS4950CHistorySaid : Prop := lawS4950CHistoryRow.holds Yba.pinned (OpenSpec.ofChange lawS4950CHistorySpec)

/-- ITS FALSE NEIGHBOUR: 'it returns false'. Refute it at one input. -/
def lawS4950CHistoryWrong : ChangeSpec := { name := "lawS4950CHistory", fn := fun _ => fun
  | [d1, d2] => { results := [.lit (.bool false)], args := [d1, d2] }
  | _ => none }
def LawS4950CHistoryWrongFalsely : Prop := lawS4950CHistoryRow.holds Yba.pinned (OpenSpec.ofChange lawS4950CHistoryWrong)

end Rows
end Go.Proofs.Ybulkcxmk
