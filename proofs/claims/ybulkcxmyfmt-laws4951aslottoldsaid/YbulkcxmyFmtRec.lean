import Derived.Test.YbulkcxmyFmtAdd
namespace Go.Proofs.YbulkcxmyFmt
open Go.ChangeShapes Go.WideShapes Go.ChangeAt Go.RowKit
set_option linter.unusedVariables false

/-- what 'add' is asked to do, as a contract handed over -/
def AddC (s K : Nat) (P G D : Int) (W : World) (R : World → Prop) : Prop :=
  Calls Ybaf.prog 24 #[.pointer (some ⟨s, 40, none⟩), .agg #[.int .i64 0, .int .i32 P, .int .i32 G, .int .u8 K, .int .i64 D]] W fun e w' => e = .returned (.tuple #[]) ∧ R w'

set_option maxRecDepth 100000 in
set_option maxHeartbeats 2000000 in
theorem record_g (s p g K : Nat) (C : Array Value) (P G D : Int) (w : World) (R : World → Prop) (hs : At w s 60 C) (c7 : C[7]? = some (.int .i64 0)) (zp : w.cell? ⟨p, 0, none⟩ = some (.int .i64 P)) (zg : w.cell? ⟨g, 0, none⟩ = some (.int .i64 G))
    (bP : 0 ≤ P ∧ P ≤ 1) (bG : 0 ≤ G ∧ G ≤ 1)
    (hadd : ∀ X, Fr w X (fun _ => False) → AddC s K P G D X R) :
    Calls Ybaf.prog 15 #[.pointer (some ⟨s, 0, none⟩), .pointer (some ⟨p, 0, none⟩), .pointer (some ⟨g, 0, none⟩), .int .u8 K, .int .i64 D] w fun e w' => e = .returned (.tuple #[]) ∧ R w' := by
  have y7 := hs.cell 7 c7
  have ls := hs.lt
  have lp : p < w.heap.size := World.block_lt_of_cell? _ _ zp
  have lg : g < w.heap.size := World.block_lt_of_cell? _ _ zg
  have HX : Hid (∀ X, Fr w X (fun _ => False) → AddC s K P G D X R) := hadd
  clear hadd hs c7
  go_enter Ybaf.func15, Ybaf.ntmps15
  go_wp2_with fail
  obtain ⟨W, hW⟩ : ∃ W, W = w.alloc (.cells #[.int .i64 0, .int .i32 P, .int .i32 G, .int .u8 K, .int .i64 D] 51) := ⟨_, rfl⟩
  rw [← hW]
  have E1 : At W w.heap.size 51 #[.int .i64 0, .int .i32 P, .int .i32 G, .int .u8 K, .int .i64 D] := by rw [hW]; exact At.new _ _ _
  have HF : Hid (Fr w W (fun _ => False)) := by rw [hW]; exact (Fr.refl _ _).alloc _
  have x0 : W.cell? ⟨w.heap.size, 0, none⟩ = some (.int .i64 0) := E1.cell 0 rfl
  have x1 : W.cell? ⟨w.heap.size, 1, none⟩ = some (.int .i32 P) := E1.cell 1 rfl
  have x2 : W.cell? ⟨w.heap.size, 2, none⟩ = some (.int .i32 G) := E1.cell 2 rfl
  have x3 : W.cell? ⟨w.heap.size, 3, none⟩ = some (.int .u8 K) := E1.cell 3 rfl
  have x4 : W.cell? ⟨w.heap.size, 4, none⟩ = some (.int .i64 D) := E1.cell 4 rfl
  have HC : Hid (Calls Ybaf.prog 24 #[.pointer (some ⟨s, 40, none⟩), .agg #[.int .i64 0, .int .i32 P, .int .i32 G, .int .u8 K, .int .i64 D]] W.drew fun e w' => e = .returned (.tuple #[]) ∧ R w') := HX.out W.drew HF.out.drew
  clear hW E1 HX HF
  go_region_with ((go_at_call 24; refine HC.out.mono ?_; rintro e w2 ⟨rfl, hR⟩))
  all_goals
    go_wp2
    go_end0
    exact ⟨rfl, hR⟩

set_option maxRecDepth 100000 in
set_option maxHeartbeats 2000000 in
theorem record_nil (s p K : Nat) (C : Array Value) (P D : Int) (w : World) (R : World → Prop) (hs : At w s 60 C) (c7 : C[7]? = some (.int .i64 0)) (zp : w.cell? ⟨p, 0, none⟩ = some (.int .i64 P))
    (bP : 0 ≤ P ∧ P ≤ 1)
    (hadd : ∀ X, Fr w X (fun _ => False) → AddC s K P 0 D X R) :
    Calls Ybaf.prog 15 #[.pointer (some ⟨s, 0, none⟩), .pointer (some ⟨p, 0, none⟩), .pointer none, .int .u8 K, .int .i64 D] w fun e w' => e = .returned (.tuple #[]) ∧ R w' := by
  have y7 := hs.cell 7 c7
  have ls := hs.lt
  have lp : p < w.heap.size := World.block_lt_of_cell? _ _ zp
  have HX : Hid (∀ X, Fr w X (fun _ => False) → AddC s K P 0 D X R) := hadd
  clear hadd hs c7
  go_enter Ybaf.func15, Ybaf.ntmps15
  go_wp2_with fail
  obtain ⟨W, hW⟩ : ∃ W, W = w.alloc (.cells #[.int .i64 0, .int .i32 P, .int .i32 0, .int .u8 K, .int .i64 D] 51) := ⟨_, rfl⟩
  rw [← hW]
  have E1 : At W w.heap.size 51 #[.int .i64 0, .int .i32 P, .int .i32 0, .int .u8 K, .int .i64 D] := by rw [hW]; exact At.new _ _ _
  have HF : Hid (Fr w W (fun _ => False)) := by rw [hW]; exact (Fr.refl _ _).alloc _
  have x0 : W.cell? ⟨w.heap.size, 0, none⟩ = some (.int .i64 0) := E1.cell 0 rfl
  have x1 : W.cell? ⟨w.heap.size, 1, none⟩ = some (.int .i32 P) := E1.cell 1 rfl
  have x2 : W.cell? ⟨w.heap.size, 2, none⟩ = some (.int .i32 0) := E1.cell 2 rfl
  have x3 : W.cell? ⟨w.heap.size, 3, none⟩ = some (.int .u8 K) := E1.cell 3 rfl
  have x4 : W.cell? ⟨w.heap.size, 4, none⟩ = some (.int .i64 D) := E1.cell 4 rfl
  have HC : Hid (Calls Ybaf.prog 24 #[.pointer (some ⟨s, 40, none⟩), .agg #[.int .i64 0, .int .i32 P, .int .i32 0, .int .u8 K, .int .i64 D]] W.drew fun e w' => e = .returned (.tuple #[]) ∧ R w') := HX.out W.drew HF.out.drew
  clear hW E1 HX HF
  go_region_with ((go_at_call 24; refine HC.out.mono ?_; rintro e w2 ⟨rfl, hR⟩))
  all_goals
    go_wp2
    go_end0
    exact ⟨rfl, hR⟩
end Go.Proofs.YbulkcxmyFmt
