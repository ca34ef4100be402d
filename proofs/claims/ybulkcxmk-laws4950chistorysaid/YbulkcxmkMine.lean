import Derived.Test.YbulkcxmkChecked
import Derived.WalkKit
import Derived.ProofKit
import Derived.WalkSpells
import Derived.WalkLawsBesides
import Derived.OpenShut
import Derived.Below
import Derived.OwnWalk
namespace Go.Proofs.Ybulkcxmk
open Go.ChangeShapes Go.WideShapes Go.ChangeAt Go.RowKit

/-- the state that a byte names -/
def stName (s : Int) : ByteArray :=
  if s % 4 = 0 then ⟨#[114, 117, 110, 110, 105, 110, 103]⟩ else if s % 4 = 1 then ⟨#[119, 97, 105, 116, 105, 110, 103]⟩ else
  if s % 4 = 2 then ⟨#[99, 111, 109, 109, 105, 116, 116, 101, 100]⟩ else ⟨#[97, 98, 111, 114, 116, 101, 100]⟩

/-- the kind that a byte names -/
def kdName (s : Int) : ByteArray :=
  if s % 8 = 0 then ⟨#[103, 114, 97, 110, 116, 101, 100]⟩ else if s % 8 = 1 then ⟨#[119, 97, 105, 116, 115, 32, 102, 111, 114]⟩ else
  if s % 8 = 2 then ⟨#[104, 101, 108, 100]⟩ else if s % 8 = 3 then ⟨#[114, 101, 102, 117, 115, 101, 100]⟩ else
  if s % 8 = 4 then ⟨#[115, 107, 105, 112, 112, 101, 100]⟩ else if s % 8 = 5 then ⟨#[99, 111, 109, 109, 105, 116]⟩ else
  if s % 8 = 6 then ⟨#[97, 98, 111, 114, 116]⟩ else ⟨#[100, 101, 97, 100, 108, 111, 99, 107]⟩

theorem ret_str {a b : ByteArray} (h : a = b) : Ending.returned (.string a) = .returned (.string b) := by rw [h]

set_option maxHeartbeats 400000 in
theorem state_any (s : Int) (w : World) (h0 : 0 ≤ s) (h1 : s ≤ 255) :
    Calls Yba.prog 4 #[.int .u8 s] w fun e w' => e = .returned (.string (stName s)) ∧ w' = w := by
  have h4 : s % 4 = 0 ∨ s % 4 = 1 ∨ s % 4 = 2 ∨ s % 4 = 3 := by omega
  rcases h4 with h | h | h | h
  all_goals
    go_enter Yba.func4, Yba.ntmps4
    go_wp2
    go_ret
    exact ⟨ret_str (by simp [stName, h]), rfl⟩

set_option maxHeartbeats 800000 in
theorem kind_any (s : Int) (w : World) (h0 : 0 ≤ s) (h1 : s ≤ 255) :
    Calls Yba.prog 5 #[.int .u8 s] w fun e w' => e = .returned (.string (kdName s)) ∧ w' = w := by
  have h8 : s % 8 = 0 ∨ s % 8 = 1 ∨ s % 8 = 2 ∨ s % 8 = 3 ∨ s % 8 = 4 ∨ s % 8 = 5 ∨ s % 8 = 6 ∨ s % 8 = 7 := by omega
  rcases h8 with h | h | h | h | h | h | h | h
  all_goals
    go_enter Yba.func5, Yba.ntmps5
    go_wp2
    go_ret
    exact ⟨ret_str (by simp [kdName, h]), rfl⟩
end Go.Proofs.Ybulkcxmk
