/-
  No cell of these rows narrows 'for every input' (looked for: loops, veiled, ifaces, maps, wideKeys, modest, calm, conditions, laid).
  DERIVED. THE GIVEN ROWS OF THIS SEAT. 4 by the template 'for every input the law returns true; each argument reads behind the call as it read before'; 0 by the template 'total and deterministic' (their statements: YbulkcxkuTotals.lean).
  GIVEN WITH THE SEED: the statements are not yours to turn. If you find one false, say at which input.
  Laid BY PROGRAM, IN A SANDBOX (cutbox-rows.mjs): the forced cells as the released guide's own fill.sh prints them over the translation 555298e9780ab77b… (all of the seat's roots in one cut). By AI agents, Wed Nov 11 2026. No macro, syntax, notation, axiom, sorry.
-/
import Derived.Test.YbulkcxkuChecked
import GoSem.Claim
import GoSem.ClaimJoined
import GoSem.ClaimMapViews
import Derived.JoinedTies
import Derived.KernelRfl
namespace Go.Proofs.Ybulkcxku
/- THE CELL 'sum', in the pinned program and in every row, IS THE sha256 OF THE DUMP (.gsa) THAT YbulkcxkuProg.lean LOADS. Nothing in Lean hashes anything: it is a label: what it is worth is what the hold of that sum in a sandbox is worth. -/
noncomputable def Yba.pinned : Pinned := { name := "ybulkcxku", sum := "555298e9780ab77bac4bcc46ad399fcac21cd16a331c95f62c44ff9316162f01", checked := Yba.checked }
namespace Rows
def none {H : Type} : Left H := { results := [], args := [] }

/-- 'headfold.LawS4947AModel': WHATEVER THE INPUT: true; the input reads as it did. -/
def lawS4947AModelSpec : ChangeSpec := { name := "lawS4947AModel", fn := fun _ => fun
  | [d1, d2] => { results := [.lit (.bool true)], args := [d1, d2] }
  | _ => none }
def lawS4947AModelRow : OpenClaim := { program := "ybulkcxku", sum := "555298e9780ab77bac4bcc46ad399fcac21cd16a331c95f62c44ff9316162f01", func := "example.com/headfold/headfold.LawS4947AModel", spec := "lawS4947AModel", inPlace := ["internal/bytealg.IndexByteString"], apart := false }
def LawS4947AModelSaid : Prop := lawS4947AModelRow.holds Yba.pinned (OpenSpec.ofChange lawS4947AModelSpec)

/-- ITS FALSE NEIGHBOUR: 'it returns false'. Refute it at one input. -/
def lawS4947AModelWrong : ChangeSpec := { name := "lawS4947AModel", fn := fun _ => fun
  | [d1, d2] => { results := [.lit (.bool false)], args := [d1, d2] }
  | _ => none }
def LawS4947AModelWrongFalsely : Prop := lawS4947AModelRow.holds Yba.pinned (OpenSpec.ofChange lawS4947AModelWrong)

/-- 'headfold.LawS4947AKnown': WHATEVER THE INPUT: true; the input reads as it did. -/
def lawS4947AKnownSpec : ChangeSpec := { name := "lawS4947AKnown", fn := fun _ => fun
  | [d1, d2] => { results := [.lit (.bool true)], args := [d1, d2] }
  | _ => none }
def lawS4947AKnownRow : OpenClaim := { program := "ybulkcxku", sum := "555298e9780ab77bac4bcc46ad399fcac21cd16a331c95f62c44ff9316162f01", func := "example.com/headfold/headfold.LawS4947AKnown", spec := "lawS4947AKnown", inPlace := ["internal/bytealg.IndexByteString"], apart := false }
def LawS4947AKnownSaid : Prop := lawS4947AKnownRow.holds Yba.pinned (OpenSpec.ofChange lawS4947AKnownSpec)

/-- ITS FALSE NEIGHBOUR: 'it returns false'. Refute it at one input. -/
def lawS4947AKnownWrong : ChangeSpec := { name := "lawS4947AKnown", fn := fun _ => fun
  | [d1, d2] => { results := [.lit (.bool false)], args := [d1, d2] }
  | _ => none }
def LawS4947AKnownWrongFalsely : Prop := lawS4947AKnownRow.holds Yba.pinned (OpenSpec.ofChange lawS4947AKnownWrong)

/-- 'headfold.LawS4947CExact': WHATEVER THE INPUT: true; the input reads as it did. -/
def lawS4947CExactSpec : ChangeSpec := { name := "lawS4947CExact", fn := fun _ => fun
  | [d] => { results := [.lit (.bool true)], args := [d] }
  | _ => none }
def lawS4947CExactRow : OpenClaim := { program := "ybulkcxku", sum := "555298e9780ab77bac4bcc46ad399fcac21cd16a331c95f62c44ff9316162f01", func := "example.com/headfold/headfold.LawS4947CExact", spec := "lawS4947CExact", apart := false }
def LawS4947CExactSaid : Prop := lawS4947CExactRow.holds Yba.pinned (OpenSpec.ofChange lawS4947CExactSpec)

/-- ITS FALSE NEIGHBOUR: 'it returns false'. Refute it at one input. -/
def lawS4947CExactWrong : ChangeSpec := { name := "lawS4947CExact", fn := fun _ => fun
  | [d] => { results := [.lit (.bool false)], args := [d] }
  | _ => none }
def LawS4947CExactWrongFalsely : Prop := lawS4947CExactRow.holds Yba.pinned (OpenSpec.ofChange lawS4947CExactWrong)

/-- 'headfold.LawS4947CAppend': WHATEVER THE INPUT: true; the input reads as it did. -/
def lawS4947CAppendSpec : ChangeSpec := { name := "lawS4947CAppend", fn := fun _ => fun
  | [d1, d2] => { results := [.lit (.bool true)], args := [d1, d2] }
  | _ => none }
def lawS4947CAppendRow : OpenClaim := { program := "ybulkcxku", sum := "555298e9780ab77bac4bcc46ad399fcac21cd16a331c95f62c44ff9316162f01", func := "example.com/headfold/headfold.LawS4947CAppend", spec := "lawS4947CAppend", apart := false }
def LawS4947CAppendSaid : Prop := lawS4947CAppendRow.holds Yba.pinned (OpenSpec.ofChange lawS4947CAppendSpec)

/-- ITS FALSE NEIGHBOUR: 'it returns false'. Refute it at one input. -/
def lawS4947CAppendWrong : ChangeSpec := { name := "lawS4947CAppend", fn := fun _ => fun
  | [d1, d2] => { results := [.lit (.bool false)], args := [d1, d2] }
  | _ => none }
def LawS4947CAppendWrongFalsely : Prop := lawS4947CAppendRow.holds Yba.pinned (OpenSpec.ofChange lawS4947CAppendWrong)

end Rows
end Go.Proofs.Ybulkcxku
