import Derived.Test.YbulkcxmyFmtWake
import Derived.LaidEqlPtr
import Derived.Lib.Builder
namespace Go.Proofs.YbulkcxmyFmt
open Go.ChangeShapes Go.WideShapes Go.ChangeAt Go.RowKit
set_option linter.unusedVariables false

theorem Ybaf.has60 : (Ybaf.prog.info? 60).isSome = true := by kernel_rfl
theorem Ybaf.has63 : (Ybaf.prog.info? 63).isSome = true := by kernel_rfl
theorem Ybaf.has67 : (Ybaf.prog.info? 67).isSome = true := by kernel_rfl
theorem neq23 (W : World) (a : Addr) : (binOp .neq 23 (.pointer (some a)) (.pointer (some a))).run Ybaf.prog W = .ok (.bool false) W := by
  obtain ⟨j, hj⟩ := Option.isSome_iff_exists.1 Ybaf.has60
  exact Lib.run_neq_ptr_same W a Ybaf.underlying23 hj
theorem neq38 (W : World) (a : Addr) : (binOp .neq 38 (.pointer (some a)) (.pointer (some a))).run Ybaf.prog W = .ok (.bool false) W := by
  obtain ⟨j, hj⟩ := Option.isSome_iff_exists.1 Ybaf.has67
  exact Lib.run_neq_ptr_same W a Ybaf.underlying38 hj
theorem eql61 (W : World) (a : Addr) : (binOp .eql 61 (.pointer (some a)) (.pointer (some a))).run Ybaf.prog W = .ok (.bool true) W := by
  obtain ⟨j, hj⟩ := Option.isSome_iff_exists.1 Ybaf.has63
  exact run_eql_ptr_same W a Ybaf.underlying61 hj

set_option maxRecDepth 100000 in
set_option maxHeartbeats 2000000 in
/-- runNext where the next slot is empty and the wake rule does what its contract says -/
theorem runNext_empty (s p b gw : Nat) (D : Array Value) (w : World) (R : World → Prop) (zb : w.cell? ⟨b, 3, none⟩ = some (.pointer (some ⟨p, 0, none⟩))) (hp : At w p 63 D) (d2 : D[2]? = some (.pointer none))
    (hwake : ∀ X, X = w.setCell ⟨p, 2, none⟩ (.pointer (some ⟨gw, 0, none⟩)) → Calls Ybaf.prog 26 #[.pointer (some ⟨s, 0, none⟩)] X fun e w' => e = .returned .nilIface ∧ R w') :
    Calls Ybaf.prog 16 #[.pointer (some ⟨s, 0, none⟩), .pointer (some ⟨b, 0, none⟩), .pointer (some ⟨gw, 0, none⟩)] w fun e w' => e = .returned (.tuple #[]) ∧ R w' := by
  have z2 := hp.cell 2 d2
  have f2 := hp.frozen 2
  have HW := hide_all (hwake _ rfl)
  clear hwake hp d2
  go_enter Ybaf.func16, Ybaf.ntmps16
  go_wp2_with (go_at_call 26; refine HW.out.mono ?_; rintro e w2 ⟨rfl, hR⟩)
  go_end0
  exact ⟨rfl, hR⟩

set_option maxRecDepth 100000 in
set_option maxHeartbeats 2000000 in
/-- ready: g and w lie in one sim; the entry is recorded, then runNext -/
theorem ready_any (s p g gw : Nat) (w : World) (Rr R : World → Prop) (g1 : w.cell? ⟨g, 1, none⟩ = some (.pointer (some ⟨s, 0, none⟩))) (w1 : w.cell? ⟨gw, 1, none⟩ = some (.pointer (some ⟨s, 0, none⟩)))
    (g3 : w.cell? ⟨g, 3, none⟩ = some (.pointer (some ⟨p, 0, none⟩))) (w0 : w.cell? ⟨gw, 0, none⟩ = some (.int .i64 2))
    (hrec : ∀ X, Fr w X (fun _ => False) → Calls Ybaf.prog 15 #[.pointer (some ⟨s, 0, none⟩), .pointer (some ⟨p, 0, none⟩), .pointer (some ⟨g, 0, none⟩), .int .u8 3, .int .i64 2] X fun e w' => e = .returned (.tuple #[]) ∧ Rr w')
    (hkeep : ∀ X, Rr X → X.cell? ⟨g, 1, none⟩ = some (.pointer (some ⟨s, 0, none⟩)))
    (hrun : ∀ X, Rr X → Calls Ybaf.prog 16 #[.pointer (some ⟨s, 0, none⟩), .pointer (some ⟨g, 0, none⟩), .pointer (some ⟨gw, 0, none⟩)] X fun e w' => e = .returned (.tuple #[]) ∧ R w') :
    Calls Ybaf.prog 7 #[.pointer (some ⟨g, 0, none⟩), .pointer (some ⟨gw, 0, none⟩)] w fun e w' => e = .returned (.tuple #[]) ∧ R w' := by
  have HR := hide_all hrec
  have HK := hide_all hkeep
  have HN := hide_all hrun
  clear hrec hkeep hrun
  have hne := neq23
  go_enter Ybaf.func7, Ybaf.ntmps7
  go_wp2_with fail
  go_quiet (fail)
  go_wp2_with fail
  obtain ⟨W, hW⟩ : ∃ W, W = w.drewN nq := ⟨_, rfl⟩
  rw [← hW]
  have g1' : W.cell? ⟨g, 1, none⟩ = some (.pointer (some ⟨s, 0, none⟩)) := by rw [hW]; exact g1
  have g3' : W.cell? ⟨g, 3, none⟩ = some (.pointer (some ⟨p, 0, none⟩)) := by rw [hW]; exact g3
  have w0' : W.cell? ⟨gw, 0, none⟩ = some (.int .i64 2) := by rw [hW]; exact w0
  have HC := hide_all (HR.out W.drew (by rw [hW]; exact ((Fr.refl _ _).drewN _).drew))
  clear hW HR g1 w1 g3 w0 hne
  go_region_with ((go_at_call 15; refine HC.out.mono ?_; rintro e w2 ⟨rfl, hR⟩))
  all_goals
    have g12 := HK.out w2 hR
    have HC2 := hide_all (HN.out w2 hR)
    clear HC HK HN g1' g3' w0' hR
    go_wp2_with (go_at_call 16; refine HC2.out.mono ?_; rintro e w3 ⟨rfl, hR⟩)
    go_end0
    exact ⟨rfl, hR⟩
end Go.Proofs.YbulkcxmyFmt
