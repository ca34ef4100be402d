import Derived.Test.YbulkcxliChecked
import Derived.WalkKit
import Derived.ProofKit
import Derived.WalkSpells
import Derived.WalkLawsBesides
import Derived.OpenShut
import Derived.Below
import Derived.OwnWalk
namespace Go.Proofs.Ybulkcxli
open Go.ChangeShapes Go.WideShapes Go.ChangeAt Go.RowKit

/-- the kind that a first byte names -/
def kindOf (c : Int) : Int := if c = 105 then 2 else if c = 108 then 3 else if c = 100 then 4 else 1

theorem kindOf_i {c : Int} (h : (c == 105) = true) : kindOf c = 2 := by simp at h; simp [kindOf, h]
theorem kindOf_l {c : Int} (_h : (c == 105) = false) (h2 : (c == 108) = true) : kindOf c = 3 := by simp at h2; simp [kindOf, h2]
theorem kindOf_d {c : Int} (_h : (c == 105) = false) (_h2 : (c == 108) = false) (h3 : (c == 100) = true) : kindOf c = 4 := by simp at h3; simp [kindOf, h3]
theorem kindOf_o {c : Int} (h : (c == 105) = false) (h2 : (c == 108) = false) (h3 : (c == 100) = false) : kindOf c = 1 := by simp at h h2 h3; simp [kindOf, h, h2, h3]

theorem kind_none (a : Option Addr) (cap : Nat) (w : World) :
    Calls Yba.prog 5 #[.agg #[.slice a 0 cap]] w fun e w' => e = .returned (.int .i64 0) ∧ w' = w.alloc (.cells #[.slice a 0 cap] 24) := by
  go_enter Yba.func5, Yba.ntmps5
  go_wp2
  go_ret
  exact ⟨rfl, rfl⟩

theorem kind_some (b off len cap : Nat) (c : Int) (w : World) (hl : 0 < len) (hm : len ≤ maxLen) (hc : w.cell? ⟨b, off, none⟩ = some (.int .u8 c)) :
    Calls Yba.prog 5 #[.agg #[.slice (some ⟨b, off, none⟩) len cap]] w fun e w' => e = .returned (.int .i64 (kindOf c)) ∧ w' = w.alloc (.cells #[.slice (some ⟨b, off, none⟩) len cap] 24) := by
  unfold maxLen at hm
  have hb : b < w.heap.size := World.block_lt_of_cell? _ _ hc
  have h0 : ((len : Int) == 0) = false := beq_eq_false_iff_ne.2 (by omega)
  by_cases h1 : (c == 105) = true
  · rw [kindOf_i h1]
    go_enter Yba.func5, Yba.ntmps5
    go_wp2
    go_ret
    exact ⟨rfl, rfl⟩
  · have h1 : (c == 105) = false := by simpa using h1
    by_cases h2 : (c == 108) = true
    · rw [kindOf_l h1 h2]
      go_enter Yba.func5, Yba.ntmps5
      go_wp2
      go_ret
      exact ⟨rfl, rfl⟩
    · have h2 : (c == 108) = false := by simpa using h2
      by_cases h3 : (c == 100) = true
      · rw [kindOf_d h1 h2 h3]
        go_enter Yba.func5, Yba.ntmps5
        go_wp2
        go_ret
        exact ⟨rfl, rfl⟩
      · have h3 : (c == 100) = false := by simpa using h3
        rw [kindOf_o h1 h2 h3]
        go_enter Yba.func5, Yba.ntmps5
        go_wp2
        go_ret
        exact ⟨rfl, rfl⟩

theorem model_none (a : Option Addr) (cap : Nat) (w : World) :
    Calls Yba.prog 6 #[.slice a 0 cap] w fun e w' => e = .returned (.int .i64 0) ∧ w' = w := by
  go_enter Yba.func6, Yba.ntmps6
  go_wp2
  go_ret
  exact ⟨rfl, rfl⟩

theorem model_some (b off len cap : Nat) (c : Int) (w : World) (hl : 0 < len) (hm : len ≤ maxLen) (hc : w.cell? ⟨b, off, none⟩ = some (.int .u8 c)) :
    Calls Yba.prog 6 #[.slice (some ⟨b, off, none⟩) len cap] w fun e w' => e = .returned (.int .i64 (kindOf c)) ∧ w' = w := by
  unfold maxLen at hm
  have h0 : ((len : Int) == 0) = false := beq_eq_false_iff_ne.2 (by omega)
  by_cases h1 : (c == 105) = true
  · rw [kindOf_i h1]
    go_enter Yba.func6, Yba.ntmps6
    go_wp2
    go_ret
    exact ⟨rfl, rfl⟩
  · have h1 : (c == 105) = false := by simpa using h1
    by_cases h2 : (c == 108) = true
    · rw [kindOf_l h1 h2]
      go_enter Yba.func6, Yba.ntmps6
      go_wp2
      go_ret
      exact ⟨rfl, rfl⟩
    · have h2 : (c == 108) = false := by simpa using h2
      by_cases h3 : (c == 100) = true
      · rw [kindOf_d h1 h2 h3]
        go_enter Yba.func6, Yba.ntmps6
        go_wp2
        go_ret
        exact ⟨rfl, rfl⟩
      · have h3 : (c == 100) = false := by simpa using h3
        rw [kindOf_o h1 h2 h3]
        go_enter Yba.func6, Yba.ntmps6
        go_wp2
        go_ret
        exact ⟨rfl, rfl⟩
end Go.Proofs.Ybulkcxli
