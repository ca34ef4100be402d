import Derived.Test.YbulkcxkuChecked
import Derived.WalkKit
import Derived.ProofKit
import Derived.WalkSpells
import Derived.WalkLawsBesides
import Derived.OpenShut
import Derived.Laws.BytesArg
import Derived.Laws.IdiomStrings
namespace Go.Proofs.Ybulkcxku
open Go.ChangeShapes Go.WideShapes Go.ChangeAt Go.RowKit

theorem isEmpty_of (s : ByteArray) : s.toList.isEmpty = (s.size == 0) := by
  rw [ByteArray.toList_eq]
  cases s with | mk d => cases d with | mk l => cases l <;> simp [ByteArray.size]

/-- the last byte of a string that is not empty -/
theorem lastByte_some (s : ByteArray) (w : World) (hs : s.size ≤ maxLen) (h0 : 0 < s.size) :
    Calls Yba.prog 9 #[.string s] w fun e w' => e = .returned (.int .u8 (s[s.size - 1].toNat : Int)) ∧ w' = w := by
  unfold maxLen at hs
  have hne : s.toList.isEmpty = false := by rw [isEmpty_of]; first | exact beq_iff_eq.2 h0 | exact beq_eq_false_iff_ne.2 (by omega)
  go_enter Yba.func9, Yba.ntmps9
  go_wp2
  go_ret
  exact ⟨rfl, rfl⟩

theorem lastByte_none (s : ByteArray) (w : World) (h0 : s.size = 0) :
    Calls Yba.prog 9 #[.string s] w fun e w' => e = .returned (.int .u8 0) ∧ w' = w := by
  have hne : s.toList.isEmpty = true := by rw [isEmpty_of]; first | exact beq_iff_eq.2 h0 | exact beq_eq_false_iff_ne.2 (by omega)
  clear h0
  go_enter Yba.func9, Yba.ntmps9
  go_wp2
  go_ret
  exact ⟨rfl, rfl⟩
 
set_option linter.unusedVariables false 
theorem walk5 (a0 : ByteArray) (w0 : a0.size ≤ maxLen) (w : World) :
    Calls Yba.prog 5 #[.string a0] w fun e w' => e = .returned (.bool true) ∧ Grown w w' := by
  by_cases h0 : a0.size = 0
  · have hh : ((a0.size : Int) == 0) = true := beq_iff_eq.2 (by omega)
    have H : Hid (a0.size = 0) := h0
    clear h0
    go_enter Yba.func5, Yba.ntmps5
    go_wp2_with (go_at_call 9; refine (lastByte_none _ _ H.out).mono ?_; rintro e w' ⟨rfl, rfl⟩)
    go_ret
    exact ⟨rfl, Grown.refl _⟩
  · have hp : 0 < a0.size := by omega
    clear h0
    have hm := w0
    unfold maxLen at hm
    go_enter Yba.func5, Yba.ntmps5
    go_wp2_with (go_at_call 9; refine (lastByte_some _ _ w0 hp).mono ?_; rintro e w' ⟨rfl, rfl⟩)
    go_loop [5, 6] (fun x i => ∃ k : Nat, k ≤ a0.size ∧ i = .int .i64 k ∧ ((k = 0 ∧ x = .int .u8 0) ∨ (0 < k ∧ x = .int .u8 ((a0[k-1]!).toNat : Int)))) (fun _ i => a0.size - (intOf i).toNat)
    case atStart => exact ⟨0, Nat.zero_le _, rfl, .inl ⟨rfl, rfl⟩⟩
    case round =>
      obtain ⟨k, hk, rfl, hx⟩ := hrel
      by_cases hlt : k < a0.size
      · clear hx
        go_wp2
        go_round
        case rel => exact ⟨k + 1, by omega, by go_num, .inr ⟨by omega, by rw [getElem!_pos a0 (k + 1 - 1) hlt]; rfl⟩⟩
        case measure => simp [intOf]; omega
      · have hk' : k = a0.size := by omega
        rcases hx with ⟨h, _⟩ | ⟨_, rfl⟩
        · omega
        · have e : a0[k-1]! = a0[a0.size-1] := by subst hk'; exact getElem!_pos a0 _ (by omega)
          rw [e]
          clear e hk'
          go_wp2
          go_ret
          exact ⟨rfl, Grown.refl _⟩
theorem last_append (a : ByteArray) (n : Int) (hn : 0 ≤ n ∧ n ≤ 255) (h : (a ++ strOfNums [n]).size - 1 < (a ++ strOfNums [n]).size) :
    (((a ++ strOfNums [n])[(a ++ strOfNums [n]).size - 1]'h).toNat : Int) = n := by
  have e1 : ((a ++ strOfNums [n])[(a ++ strOfNums [n]).size - 1]'h) = UInt8.ofNat n.toNat := by
    have hs : (strOfNums [n]).size = 1 := by rw [strOfNums_size]; rfl
    have hz : (a ++ strOfNums [n]).size = a.size + 1 := by rw [ByteArray.size_append, hs]
    rw [ByteArray.getElem_append_right (by omega)]
    have hi : (a ++ strOfNums [n]).size - 1 - a.size = 0 := by omega
    simp only [hi]
    rfl
  rw [e1]
  simp
  omega

theorem walk6 (a0 : ByteArray) (a1 : Int) (w0 : a0.size ≤ maxLen) (w1 : (Lit.int .u8 a1).wf = true) (w : World) :
    Calls Yba.prog 6 #[.string a0, .int .u8 a1] w fun e w' => e = .returned (.bool true) ∧ Grown w w' := by
  by_cases hl : 1024 < a0.size
  · go_enter Yba.func6, Yba.ntmps6
    go_wp2
    go_ret
    exact ⟨rfl, Grown.refl _⟩
  · have hb := bounds_u8 w1
    have hz : (a0 ++ strOfNums [a1]).size = a0.size + 1 := by rw [ByteArray.size_append, strOfNums_size]; rfl
    have HZ : Hid ((a0 ++ strOfNums [a1]).size ≤ maxLen) := by show _ ≤ _; rw [hz]; unfold maxLen; omega
    have HP : Hid (0 < (a0 ++ strOfNums [a1]).size) := by show _ < _; omega
    have hs1 : (strOfNums [a1]).size = 1 := by rw [strOfNums_size]; rfl
    clear hz
    have hcv : (convert 25 9 (.slice (some ⟨w.heap.size, 0, none⟩) 1 1)).run Yba.prog (w.alloc (.cells #[.int .u8 a1] 5)) = .ok (.string (strOfNums [a1])) (w.alloc (.cells #[.int .u8 a1] 5)) :=
      run_convert_bytes_arg (P := Yba.prog) (w.alloc (.cells #[.int .u8 a1] 5)) 25 5 Yba.underlying25 Yba.underlying5 w.heap.size 0 1 1 [a1] rfl (fun i hi => by
        have : i = 0 := by omega
        subst this
        rw [World.cell?_alloc_mark]; rfl) 9 Yba.underlying9
    go_enter Yba.func6, Yba.ntmps6
    go_wp2_with (go_at_call 9; refine (lastByte_some _ _ HZ.out HP.out).mono ?_; rintro e w' ⟨rfl, rfl⟩; rw [last_append _ _ hb])
    go_ret
    exact ⟨rfl, by repeat (first | exact Grown.refl _ | apply Grown.drew | apply Grown.alloc)⟩
end Go.Proofs.Ybulkcxku
