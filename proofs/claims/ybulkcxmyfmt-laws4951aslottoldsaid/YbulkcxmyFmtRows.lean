/-
  No cell of these rows narrows 'for every input' (looked for: loops, veiled, ifaces, maps, wideKeys, modest, calm, conditions, laid).
  DERIVED. THE GIVEN ROWS OF THIS SEAT. 3 by the template 'for every input the law returns true; each argument reads behind the call as it read before'; 0 by the template 'total and deterministic' (their statements: YbulkcxmyFmtTotals.lean).
  GIVEN WITH THE SEED: the statements are not yours to turn. If you find one false, say at which input.
  Laid BY PROGRAM, IN A SANDBOX (cutbox-rows.mjs): the forced cells as the released guide's own fill.sh prints them over the translation 7de7688f55773150… (all of the seat's roots in one cut). By AI agents, Wed Nov 11 2026. No macro, syntax, notation, axiom, sorry.
-/
import Derived.Test.YbulkcxmyFmtChecked
import GoSem.Claim
import GoSem.ClaimJoined
import GoSem.ClaimMapViews
import Derived.JoinedTies
import Derived.KernelRfl
namespace Go.Proofs.YbulkcxmyFmt
/- THE CELL 'sum', in the pinned program and in every row, IS THE sha256 OF THE DUMP (.gsa) THAT YbulkcxmyFmtProg.lean LOADS. Nothing in Lean hashes anything: it is a label: what it is worth is what the hold of that sum in a sandbox is worth. -/
noncomputable def Ybaf.pinned : Pinned := { name := "ybulkcxmyfmt", sum := "7de7688f55773150830a41b465de56423dbc38a29a7c12f0ad541c3904cc0800", checked := Ybaf.checked }
namespace Rows
def none {H : Type} : Left H := { results := [], args := [] }

/-- 'usher.LawS4951ASlot': WHATEVER THE INPUT: true; the input reads as it did. -/
def lawS4951ASlotSpec : ChangeSpec := { name := "lawS4951ASlot", fn := fun _ => fun
  | [d1, d2, d3, d4] => { results := [.lit (.bool true)], args := [d1, d2, d3, d4] }
  | _ => none }
def lawS4951ASlotRow : OpenClaim := { program := "ybulkcxmyfmt", sum := "7de7688f55773150830a41b465de56423dbc38a29a7c12f0ad541c3904cc0800", func := "example.com/usher/usher.LawS4951ASlot", spec := "lawS4951ASlot", stops := ["fmt.errorf, its operands' methods called", "fmt.Sprintf"], inPlace := ["fmt.errorf", "runtime.Goexit"], unfollowed := true, recurses := true, apart := false }
/-- NO THEOREM (fmt's text is open here; it may be false): for the released tool's asking of the row's closed facts alone. THE STATEMENT IS 'LawS4951ASlotToldSaid' (YbulkcxmyFmtCards.lean). -/
def LawS4951ASlotFormAsk : Prop := lawS4951ASlotRow.holds Ybaf.pinned (OpenSpec.ofChange lawS4951ASlotSpec)

/-- ITS FALSE NEIGHBOUR: 'it returns false'. Refute it at one input. -/
def lawS4951ASlotWrong : ChangeSpec := { name := "lawS4951ASlot", fn := fun _ => fun
  | [d1, d2, d3, d4] => { results := [.lit (.bool false)], args := [d1, d2, d3, d4] }
  | _ => none }
def LawS4951ASlotWrongFormAsk : Prop := lawS4951ASlotRow.holds Ybaf.pinned (OpenSpec.ofChange lawS4951ASlotWrong)

/-- 'usher.LawS4951AWake': WHATEVER THE INPUT: true; the input reads as it did. -/
def lawS4951AWakeSpec : ChangeSpec := { name := "lawS4951AWake", fn := fun _ => fun
  | [d1, d2, d3] => { results := [.lit (.bool true)], args := [d1, d2, d3] }
  | _ => none }
def lawS4951AWakeRow : OpenClaim := { program := "ybulkcxmyfmt", sum := "7de7688f55773150830a41b465de56423dbc38a29a7c12f0ad541c3904cc0800", func := "example.com/usher/usher.LawS4951AWake", spec := "lawS4951AWake", stops := ["fmt.errorf, its operands' methods called", "fmt.Sprintf"], inPlace := ["fmt.errorf", "runtime.Goexit"], unfollowed := true, recurses := true, apart := false }
/-- NO THEOREM (fmt's text is open here; it may be false): for the released tool's asking of the row's closed facts alone. THE STATEMENT IS 'LawS4951AWakeToldSaid' (YbulkcxmyFmtCards.lean). -/
def LawS4951AWakeFormAsk : Prop := lawS4951AWakeRow.holds Ybaf.pinned (OpenSpec.ofChange lawS4951AWakeSpec)

/-- ITS FALSE NEIGHBOUR: 'it returns false'. Refute it at one input. -/
def lawS4951AWakeWrong : ChangeSpec := { name := "lawS4951AWake", fn := fun _ => fun
  | [d1, d2, d3] => { results := [.lit (.bool false)], args := [d1, d2, d3] }
  | _ => none }
def LawS4951AWakeWrongFormAsk : Prop := lawS4951AWakeRow.holds Ybaf.pinned (OpenSpec.ofChange lawS4951AWakeWrong)

/-- 'usher.LawS4951BWake': WHATEVER THE INPUT: true; the input reads as it did. -/
def lawS4951BWakeSpec : ChangeSpec := { name := "lawS4951BWake", vars := ["example.com/usher/usher.exitBodyName"], fn := fun _ => fun
  | [d1, d2, d3, d4, d5, d6, d7, g1] => { results := [.lit (.bool true)], args := [d1, d2, d3, d4, d5, d6, d7], vars := [g1] }
  | _ => none }
def lawS4951BWakeRow : OpenClaim := { program := "ybulkcxmyfmt", sum := "7de7688f55773150830a41b465de56423dbc38a29a7c12f0ad541c3904cc0800", func := "example.com/usher/usher.LawS4951BWake", spec := "lawS4951BWake", stops := ["fmt.errorf, its operands' methods called", "fmt.Sprintf"], inPlace := ["fmt.Sprintf", "runtime.Callers", "runtime.CallersFrames", "(*runtime.Frames).Next", "runtime.Goexit", "fmt.errorf"], unfollowed := true, recurses := true, named := ["example.com/usher/usher.exitBodyName"], apart := false }
/-- NO THEOREM (fmt's text is open here; it may be false): for the released tool's asking of the row's closed facts alone. THE STATEMENT IS 'LawS4951BWakeToldSaid' (YbulkcxmyFmtCards.lean). -/
def LawS4951BWakeFormAsk : Prop := lawS4951BWakeRow.holds Ybaf.pinned (OpenSpec.ofChange lawS4951BWakeSpec)

/-- ITS FALSE NEIGHBOUR: 'it returns false'. Refute it at one input. -/
def lawS4951BWakeWrong : ChangeSpec := { name := "lawS4951BWake", vars := ["example.com/usher/usher.exitBodyName"], fn := fun _ => fun
  | [d1, d2, d3, d4, d5, d6, d7, g1] => { results := [.lit (.bool false)], args := [d1, d2, d3, d4, d5, d6, d7], vars := [g1] }
  | _ => none }
def LawS4951BWakeWrongFormAsk : Prop := lawS4951BWakeRow.holds Ybaf.pinned (OpenSpec.ofChange lawS4951BWakeWrong)

end Rows
end Go.Proofs.YbulkcxmyFmt
