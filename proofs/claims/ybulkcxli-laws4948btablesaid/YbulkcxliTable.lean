import Derived.Test.YbulkcxliMine
namespace Go.Proofs.Ybulkcxli
open Go.ChangeShapes Go.WideShapes Go.ChangeAt Go.RowKit

theorem table_long (a0 : Option Addr) (len cap : Nat) (w : World) (hl : 4096 < len) (hm : len ≤ maxLen) :
    Calls Yba.prog 3 #[.slice a0 len cap] w fun e w' => e = .returned (.bool true) ∧ Below w.heap.size w w' := by
  unfold maxLen at hm
  go_enter Yba.func3, Yba.ntmps3
  go_wp2
  go_ret
  exact ⟨rfl, Below.refl _ _⟩

theorem table_none (a0 : Option Addr) (cap : Nat) (w : World) :
    Calls Yba.prog 3 #[.slice a0 0 cap] w fun e w' => e = .returned (.bool true) ∧ Below w.heap.size w w' := by
  go_enter Yba.func3, Yba.ntmps3
  go_wp2_with (first | (go_at_call 5; refine (kind_none _ _ _).mono ?_; rintro e w' ⟨rfl, rfl⟩) | (go_at_call 6; refine (model_none _ _ _).mono ?_; rintro e w' ⟨rfl, rfl⟩))
  go_ret
  exact ⟨rfl, ((Below.refl _ _).alloc (Nat.le_refl _) _).alloc (by simp) _⟩

theorem table_some (b off len cap : Nat) (c : Int) (w : World) (hl : 0 < len) (hm : len ≤ 4096) (hc : w.cell? ⟨b, off, none⟩ = some (.int .u8 c)) :
    Calls Yba.prog 3 #[.slice (some ⟨b, off, none⟩) len cap] w fun e w' => e = .returned (.bool true) ∧ Below w.heap.size w w' := by
  have hb : b < w.heap.size := World.block_lt_of_cell? _ _ hc
  have hx : len ≤ maxLen := by unfold maxLen; omega
  go_enter Yba.func3, Yba.ntmps3
  go_wp2_with fail
  refine (kind_some _ _ _ _ c _ hl hx ?_).mono ?_
  · exact (World.cell?_alloc_lt _ _ _ hb).trans hc
  rintro e w' ⟨rfl, rfl⟩
  go_wp2_with fail
  refine (model_some _ _ _ _ c _ hl hx ?_).mono ?_
  · have hb2 : b < w.heap.size + 1 := by omega
    exact (World.cell?_alloc_lt _ _ _ (by simpa using hb2)).trans ((World.cell?_alloc_lt _ _ _ hb).trans hc)
  rintro e w' ⟨rfl, rfl⟩
  go_wp2
  go_ret
  exact ⟨rfl, ((Below.refl _ _).alloc (Nat.le_refl _) _).alloc (by simp) _⟩
end Go.Proofs.Ybulkcxli
