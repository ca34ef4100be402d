import Derived.Test.YbulkcxmyFmtChecked
import Derived.WalkKit
import Derived.ProofKit
import Derived.WalkSpells
import Derived.WalkLawsBesides
import Derived.OpenShut
import Derived.Below
import Derived.OwnWalk
import Derived.WalkSmall
import Derived.BigQuiet
import Derived.Deep.QuietTactic
import Derived.Deep.RegionHeld3
import Derived.Deep.AppendLies
namespace Go.Proofs.YbulkcxmyFmt
open Go.ChangeShapes Go.WideShapes Go.ChangeAt Go.RowKit

theorem Ybaf.info5 : (Ybaf.prog.info? 5).map (fun i => (i.zero, i.size, i.bytes)) = some (some (.int .u8 0), 1, 1) := by kernel_rfl

/-- the slice of bytes at block cb, n long, 256 wide, owns its row -/
def Chunk (w : World) (cb n : Nat) : Prop := ∃ xs, w.ownsRow cb 5 1 (.slice (some ⟨cb, 0, none⟩) n 256) n xs

set_option maxRecDepth 100000 in
set_option maxHeartbeats 1000000 in
theorem uvar_small (cb n : Nat) (x : Int) (w : World) (h0 : 0 ≤ x) (h1 : x < 128) (hn : n + 1 ≤ 256) (hc : Chunk w cb n) :
    Calls Ybaf.prog 40 #[.slice (some ⟨cb, 0, none⟩) n 256, .int .u64 x] w fun e w' => e = .returned (.slice (some ⟨cb, 0, none⟩) (n + 1) 256) ∧ Chunk w' cb (n + 1) ∧ w.grownBy w' (some cb) := by
  obtain ⟨i0, hi, hz0, hz1, hz2⟩ := info_parts Ybaf.info5
  obtain ⟨xs, hown⟩ := hc
  have hcb := (hown.lt cb rfl).2
  have hlt : ¬ (128 : Int) ≤ x := by omega
  go_enter Ybaf.func40, Ybaf.ntmps40
  go_wp2
  refine wp_loop_rounds 1 ?_
  rw [rounds_succ]
  go_wp2_with (at_builtin; go_must (refine wpList_append_fits _ rfl (.tmp 15) (.tmp 18) 105 rfl cb 5 i0 1 Ybaf.underlying105 hi hz1 cb n 256 _ rfl (hown.alloc _) ⟨w.heap.size, 0, none⟩ 1 1 [.int .u8 x] rfl rfl ?c1 ?c2 ?c3 ?_))
  case c1 => exact cell_one_new _ _ _
  case c2 => simp [Value.oneCell']
  case c3 => omega
  intro w1 hown1 hgrow1
  go_wp2
  go_ret
  exact ⟨rfl, ⟨_, hown1⟩, (World.grownBy_alloc _ _ _).trans hgrow1⟩

set_option maxRecDepth 100000 in
set_option maxHeartbeats 1000000 in
theorem uvar_two (cb n : Nat) (x : Int) (w : World) (h0 : 128 ≤ x) (h1 : x < 16384) (hn : n + 2 ≤ 256) (hc : Chunk w cb n) :
    Calls Ybaf.prog 40 #[.slice (some ⟨cb, 0, none⟩) n 256, .int .u64 x] w fun e w' => e = .returned (.slice (some ⟨cb, 0, none⟩) (n + 2) 256) ∧ Chunk w' cb (n + 2) ∧ w.grownBy w' (some cb) := by
  obtain ⟨i0, hi, hz0, hz1, hz2⟩ := info_parts Ybaf.info5
  obtain ⟨xs, hown⟩ := hc
  have hcb := (hown.lt cb rfl).2
  go_enter Ybaf.func40, Ybaf.ntmps40
  go_wp2
  refine wp_loop_rounds 2 ?_
  rw [rounds_succ]
  go_wp2_with (at_builtin; go_must (refine wpList_append_fits _ rfl (.tmp 7) (.tmp 11) 105 rfl cb 5 i0 1 Ybaf.underlying105 hi hz1 cb n 256 _ rfl (hown.alloc _) ⟨w.heap.size, 0, none⟩ 1 1 [.int .u8 (bits BinOp.or IntKind.u8 (x % 256) 128)] rfl rfl ?c1 ?c2 ?c3 ?_))
  case c1 => exact cell_one_new _ _ _
  case c2 => simp [Value.oneCell']
  case c3 => omega
  intro w1 hown1 hgrow1
  go_wp2
  rw [rounds_succ]
  go_wp2_with (at_builtin; go_must (refine wpList_append_fits _ rfl (.tmp 15) (.tmp 18) 105 rfl cb 5 i0 1 Ybaf.underlying105 hi hz1 cb (n + 1) 256 _ rfl (hown1.alloc _) ⟨w1.heap.size, 0, none⟩ 1 1 [.int .u8 (x / 128)] rfl rfl ?c1 ?c2 ?c3 ?_))
  case c1 => exact cell_one_new _ _ _
  case c2 => simp [Value.oneCell']
  case c3 => omega
  intro w2 hown2 hgrow2
  go_wp2
  go_ret
  exact ⟨rfl, ⟨_, hown2⟩, ((World.grownBy_alloc _ _ _).trans hgrow1).trans ((World.grownBy_alloc _ _ _).trans hgrow2)⟩

/-- AppendUvarint of a small number: one byte or two, behind what the chunk holds -/
theorem uvar_any (cb n : Nat) (x : Int) (w : World) (h0 : 0 ≤ x) (h1 : x < 16384) (hn : n + 2 ≤ 256) (hc : Chunk w cb n) :
    Calls Ybaf.prog 40 #[.slice (some ⟨cb, 0, none⟩) n 256, .int .u64 x] w fun e w' => ∃ m, n < m ∧ m ≤ n + 2 ∧ e = .returned (.slice (some ⟨cb, 0, none⟩) m 256) ∧ Chunk w' cb m ∧ w.grownBy w' (some cb) := by
  by_cases h : x < 128
  · exact (uvar_small cb n x w h0 h (by omega) hc).mono fun e w' ⟨h1, h2, h3⟩ => ⟨n + 1, by omega, by omega, h1, h2, h3⟩
  · exact (uvar_two cb n x w (by omega) h1 hn hc).mono fun e w' ⟨h1, h2, h3⟩ => ⟨n + 2, by omega, by omega, h1, h2, h3⟩

set_option maxRecDepth 100000 in
set_option maxHeartbeats 1000000 in
theorem var_nonneg (cb n : Nat) (x : Int) (w : World) (h0 : 0 ≤ x) (h1 : x < 8192) (hn : n + 2 ≤ 256) (hc : Chunk w cb n) :
    Calls Ybaf.prog 41 #[.slice (some ⟨cb, 0, none⟩) n 256, .int .i64 x] w fun e w' => ∃ m, n < m ∧ m ≤ n + 2 ∧ e = .returned (.slice (some ⟨cb, 0, none⟩) m 256) ∧ Chunk w' cb m ∧ w.grownBy w' (some cb) := by
  have hlt : ¬ x < 0 := by omega
  go_enter Ybaf.func41, Ybaf.ntmps41
  go_wp2_with fail
  refine (uvar_any cb n (x * 2) w (by omega) (by omega) hn hc).mono ?_
  rintro e w' ⟨m, hm1, hm2, rfl, hc', hg⟩
  go_wp2
  go_ret
  exact ⟨m, hm1, hm2, rfl, hc', hg⟩

theorem neg_one_zig : bits BinOp.xor IntKind.u64 IntKind.u64.max (IntKind.u64.wrap (IntKind.u64.wrap (-1) * 2)) = 1 := by decide +kernel

set_option maxRecDepth 100000 in
set_option maxHeartbeats 1000000 in
theorem var_neg1 (cb n : Nat) (w : World) (hn : n + 2 ≤ 256) (hc : Chunk w cb n) :
    Calls Ybaf.prog 41 #[.slice (some ⟨cb, 0, none⟩) n 256, .int .i64 (-1)] w fun e w' => ∃ m, n < m ∧ m ≤ n + 2 ∧ e = .returned (.slice (some ⟨cb, 0, none⟩) m 256) ∧ Chunk w' cb m ∧ w.grownBy w' (some cb) := by
  go_enter Ybaf.func41, Ybaf.ntmps41
  go_wp2_with fail
  rw [neg_one_zig]
  refine (uvar_any cb n 1 w (by omega) (by omega) hn hc).mono ?_
  rintro e w' ⟨m, hm1, hm2, rfl, hc', hg⟩
  go_wp2
  go_ret
  exact ⟨m, hm1, hm2, rfl, hc', hg⟩
end Go.Proofs.YbulkcxmyFmt
