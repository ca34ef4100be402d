import Derived.Test.YbulkcxmyFmtMove
import Derived.LaidEqlPtr
import Derived.Lib.Builder
namespace Go.Proofs.YbulkcxmyFmt
open Go.ChangeShapes Go.WideShapes Go.ChangeAt Go.RowKit
set_option linter.unusedVariables false

theorem Ybaf.has67q : (Ybaf.prog.info? 67).isSome = true := by kernel_rfl
theorem neq38q (W : World) (a : Addr) : (binOp .neq 38 (.pointer (some a)) (.pointer (some a))).run Ybaf.prog W = .ok (.bool false) W := by
  obtain ⟨j, hj⟩ := Option.isSome_iff_exists.1 Ybaf.has67q
  exact Lib.run_neq_ptr_same W a Ybaf.underlying38 hj

set_option maxRecDepth 100000 in
set_option maxHeartbeats 4000000 in
theorem eq_nil (b o cw : Nat) (aw : Option Addr) (w : World) (y0 : w.cell? ⟨b, o, none⟩ = some (.slice none 0 0)) (y1 : w.cell? ⟨b, o + 1, none⟩ = some (.int .i64 0)) :
    Calls Ybaf.prog 8 #[.pointer (some ⟨b, o, none⟩), .slice aw 0 cw] w fun e w' => e = .returned (.bool true) ∧ ∃ m, w' = w.drewN m := by
  go_enter Ybaf.func8, Ybaf.ntmps8
  go_wp2_with fail
  go_quiet (fail)
  go_upto_region 3 with fail
  go_quiet (fail)
  go_wp2
  refine wp_loop_rounds 1 ?_
  rw [rounds_succ]
  go_wp2
  go_ret
  exact ⟨rfl, _, rfl⟩

set_option maxRecDepth 100000 in
set_option maxHeartbeats 4000000 in
theorem eq_some (b o g n c h gw cw : Nat) (w : World) (y0 : w.cell? ⟨b, o, none⟩ = some (.slice (some ⟨g, 0, none⟩) n c)) (y1 : w.cell? ⟨b, o + 1, none⟩ = some (.int .i64 h)) (hh : h < n) (hn : n ≤ 1000) (hnc : n ≤ c) (hc : c ≤ maxLen)
    (hx : ∀ i, i < n - h → ∃ x : Nat, w.cell? ⟨g, h + i, none⟩ = some (.pointer (some ⟨x, 0, none⟩)) ∧ w.cell? ⟨gw, i, none⟩ = some (.pointer (some ⟨x, 0, none⟩))) :
    Calls Ybaf.prog 8 #[.pointer (some ⟨b, o, none⟩), .slice (some ⟨gw, 0, none⟩) (n - h) cw] w fun e w' => e = .returned (.bool true) ∧ ∃ m, w' = w.drewN m := by
  unfold maxLen at hc
  have hd1 : decide ((h : Int) < 0) = false := decide_eq_false (by omega)
  have hd2 : decide ((n : Int) < (h : Int)) = false := decide_eq_false (by omega)
  have h0 : (0 : Int) ≤ (h : Int) := Int.natCast_nonneg _
  have h1 : (h : Int) ≤ (n : Int) := by omega
  have h2 : (n : Int) ≤ (c : Int) := by omega
  have HX := hide_all hx
  clear hx
  go_enter Ybaf.func8, Ybaf.ntmps8
  go_wp2_with fail
  go_quiet (fail)
  go_upto_region 3 with fail
  go_quiet (fail)
  go_wp2_with fail
  clear y0 y1 hd1 hd2
  go_loopw [6] (fun i wr => ∃ k q : Nat, k ≤ n - h ∧ i = .int .i64 k ∧ wr = w.drewN q) (fun i _ => (n - h) - (intOf i).toNat)
  case atStart => exact ⟨0, _, Nat.zero_le _, rfl, rfl⟩
  case round =>
    obtain ⟨k, q, hk, rfl, hwr⟩ := hrel
    by_cases hlt : k < n - h
    · obtain ⟨x, x1, x2⟩ := HX.out k hlt
      have z1 : wr.cell? ⟨g, h + k, none⟩ = some (.pointer (some ⟨x, 0, none⟩)) := by rw [hwr]; exact x1
      have z2 : wr.cell? ⟨gw, k, none⟩ = some (.pointer (some ⟨x, 0, none⟩)) := by rw [hwr]; exact x2
      have HWR := hide_all hwr
      have hn38 := neq38q
      have hk0 : (0 : Int) ≤ (k : Int) := Int.natCast_nonneg _
      have hk1 : (k : Int) < ((n - h : Nat) : Int) := by omega
      clear hwr x1 x2
      go_wp2_with fail
      go_quiet (fail)
      go_wp2
      go_roundw
      case rel => exact ⟨k + 1, q + nq, by omega, by go_num, by rw [HWR.out, World.drewN_drewN]⟩
      case measure => simp [intOf]; omega
    · have hk' : k = n - h := by omega
      subst hk'
      subst hwr
      go_wp2
      go_ret
      exact ⟨rfl, q, rfl⟩
end Go.Proofs.YbulkcxmyFmt
