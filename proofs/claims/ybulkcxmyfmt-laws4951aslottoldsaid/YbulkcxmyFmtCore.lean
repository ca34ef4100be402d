import Derived.Test.YbulkcxmyFmtReady
import Derived.Test.YbulkcxmyFmtAdd1
namespace Go.Proofs.YbulkcxmyFmt
open Go.ChangeShapes Go.WideShapes Go.ChangeAt Go.RowKit
set_option linter.unusedVariables false

/-- the sim's cells behind the record of the first entry -/
def recC (C : Array Value) (q cq : Nat) : Array Value := encC (C.setIfInBounds 40 (.slice (some ⟨q, 0, none⟩) 1 cq)) 3 0 1 2

theorem recC_size {C : Array Value} {q cq : Nat} (h : C.size = 61) : (recC C q cq).size = 61 := by rw [recC, encC_size]; simp [h]
theorem recC_low {C : Array Value} {q cq : Nat} {i : Nat} (h : i < 40) : (recC C q cq)[i]? = C[i]? := by rw [recC, encC_low _ _ _ _ _ _ (by omega), set_ne (by omega)]
theorem recC_40 {C : Array Value} {q cq : Nat} (h : C.size = 61) : (recC C q cq)[40]? = some (.slice (some ⟨q, 0, none⟩) 1 cq) := by rw [recC, encC_low _ _ _ _ _ _ (by omega)]; exact set_eq (by omega)
theorem recC_41 {C : Array Value} {q cq : Nat} (h : C.size = 61) : (recC C q cq)[41]? = some (.int .i64 0) := by rw [recC]; exact encC_41 _ _ _ _ _ (by simp [h])
theorem recC_43 {C : Array Value} {q cq : Nat} (h : C.size = 61) : (recC C q cq)[43]? = some (.int .i32 1) := by rw [recC]; exact encC_43 _ _ _ _ _ (by simp [h])
theorem recC_det {C : Array Value} {q cq : Nat} {j : Nat} (h : j ≠ 3) : (recC C q cq)[46 + j]? = C[46 + j]? := by rw [recC, encC_det _ _ _ _ _ _ h, set_ne (by omega)]

/-- what is asked of the sim's cells ahead of 'ready' -/
structure Fresh (C : Array Value) : Prop where
  size : C.size = 61
  now : C[7]? = some (.int .i64 0)
  trace : C[40]? = some (.slice none 0 0)
  prevAt : C[41]? = some (.int .i64 0)
  prevG : C[43]? = some (.int .i32 0)
  det : ∀ j, j < 15 → C[46 + j]? = some (.int .i64 0)

theorem ready_core (s p g gw : Nat) (C D G1 G2 : Array Value) (w : World) (R : World → Prop) (hs : At w s 60 C) (hC : Fresh C) (hp : At w p 63 D) (hg : At w g 67 G1) (hw : At w gw 67 G2)
    (d0 : D[0]? = some (.int .i64 0)) (a0 : G1[0]? = some (.int .i64 1)) (a1 : G1[1]? = some (.pointer (some ⟨s, 0, none⟩))) (a3 : G1[3]? = some (.pointer (some ⟨p, 0, none⟩))) (b0 : G2[0]? = some (.int .i64 2)) (b1 : G2[1]? = some (.pointer (some ⟨s, 0, none⟩)))
    (hps : p ≠ s) (hgs : g ≠ s) (hws : gw ≠ s)
    (hrun : ∀ X q cq cb m, m ≤ 9 → w.heap.size ≤ q → w.heap.size ≤ cb → At X s 60 (recC C q cq) → Tr X s q cq cb m (recC C q cq) → Fr w X (fun k => k = s) →
      Calls Ybaf.prog 16 #[.pointer (some ⟨s, 0, none⟩), .pointer (some ⟨g, 0, none⟩), .pointer (some ⟨gw, 0, none⟩)] X fun e w' => e = .returned (.tuple #[]) ∧ R w') :
    Calls Ybaf.prog 7 #[.pointer (some ⟨g, 0, none⟩), .pointer (some ⟨gw, 0, none⟩)] w fun e w' => e = .returned (.tuple #[]) ∧ R w' := by
  refine ready_any s p g gw w (fun X => ∃ q cq cb m, m ≤ 9 ∧ w.heap.size ≤ q ∧ w.heap.size ≤ cb ∧ At X s 60 (recC C q cq) ∧ Tr X s q cq cb m (recC C q cq) ∧ Fr w X (fun k => k = s)) R (hg.cell 1 a1) (hw.cell 1 b1) (hg.cell 3 a3) (hw.cell 0 b0) ?_ ?_ ?_
  · intro X hX
    refine record_g s p g 3 C 0 1 2 X _ (hs.fr hX id) hC.now ((hp.fr hX id).cell 0 d0) ((hg.fr hX id).cell 0 a0) (by omega) (by omega) ?_
    intro Y hY
    have hXY : Fr w Y (fun _ => False) := hX.trans hY
    refine (add_first s 3 C 0 1 0 2 Y (hs.fr hXY id) hC.trace (by omega) hC.size hC.prevAt hC.prevG (hC.det 3 (by omega)) (by omega) (by omega) (by omega) (by omega) (by omega)).mono ?_
    rintro e w' ⟨he, q, cq, cb, m, hm, hq, hcb, A, T, F⟩
    exact ⟨he, q, cq, cb, m, hm, Nat.le_trans hXY.size hq, Nat.le_trans hXY.size hcb, A, T, (hXY.mono (fun k h => h.elim)).trans F⟩
  · rintro X ⟨q, cq, cb, m, hm, hq, hcb, A, T, F⟩
    exact (hg.fr F hgs).cell 1 a1
  · rintro X ⟨q, cq, cb, m, hm, hq, hcb, A, T, F⟩
    exact hrun X q cq cb m hm hq hcb A T F
end Go.Proofs.YbulkcxmyFmt
