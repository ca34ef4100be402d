import Derived.Test.YbulkcxmyFmtAdd
import Derived.Deep.DeepCutAuto
namespace Go.Proofs.YbulkcxmyFmt
open Go.ChangeShapes Go.WideShapes Go.ChangeAt Go.RowKit
set_option linter.unusedVariables false

theorem chunk_at {w : World} {cb : Nat} (h : At w cb 5 mk256) : Chunk w cb 0 :=
  ⟨[], by simp, .inr ⟨cb, 256, mk256, rfl, Nat.le_refl _, h.blk, Nat.zero_le _, by unfold maxLen; omega, by simp [mk256], by simp⟩⟩

theorem first_keep {w w1 : World} {s : Nat} {C : Array Value} {o1 o2 : Obj} {v : Value} (hs : At w s 60 C) (c40 : C[40]? = some v) (hg : ((w.alloc o1).alloc o2).drew.grownBy w1 none) :
    w1.cell? ⟨s, 40, none⟩ = some v ∧ w1.frozen? ⟨s, 40, none⟩ = false ∧ At w1 s 60 C := by
  have A1 : At w1 s 60 C := ((hs.alloc o1).alloc o2).drew.grown hg (by simp)
  exact ⟨A1.cell 40 c40, A1.frozen 40, A1⟩

theorem set_low (C : Array Value) (v : Value) (i : Nat) (h : i ≠ 40) : (C.setIfInBounds 40 v)[i]? = C[i]? := by rw [Array.getElem?_setIfInBounds, if_neg (Ne.symm h)]

theorem owns_first {w : World} {base q cq : Nat} {v : Value} (h : w.ownsRow base 105 1 (.slice (some ⟨q, 0, none⟩) 1 cq) 1 [v]) : w.cell? ⟨q, 0, none⟩ = some v ∧ w.frozen? ⟨q, 0, none⟩ = false := by
  refine ⟨h.cells (g := q) rfl 0 v rfl, ?_⟩
  rcases h.2 with ⟨h2, _⟩ | ⟨g, cap, cur, hv, hb, hg, rest⟩
  · cases h2
  · cases hv
    simp [World.frozen?, hg]

set_option maxRecDepth 100000 in
set_option maxHeartbeats 8000000 in
theorem add_first (s K : Nat) (C : Array Value) (P G G0 D : Int) (w : World) (hs : At w s 60 C) (c40 : C[40]? = some (.slice none 0 0)) (hK : K < 15) (h61 : C.size = 61)
    (c41 : C[41]? = some (.int .i64 0)) (c43 : C[43]? = some (.int .i32 G0)) (cK : C[46 + K]? = some (.int .i64 0)) (bP : 0 ≤ P ∧ P ≤ 1) (bG : G - G0 = -1 ∨ 0 ≤ G - G0 ∧ G - G0 ≤ 1) (bG1 : 0 ≤ G ∧ G ≤ 1) (bG0 : 0 ≤ G0 ∧ G0 ≤ 1) (bD : 0 ≤ D ∧ D < 8192) :
    Calls Ybaf.prog 24 #[.pointer (some ⟨s, 40, none⟩), .agg #[.int .i64 0, .int .i32 P, .int .i32 G, .int .u8 K, .int .i64 D]] w fun e w' =>
      e = .returned (.tuple #[]) ∧ ∃ q cq cb m, m ≤ 9 ∧ w.heap.size ≤ q ∧ w.heap.size ≤ cb ∧ At w' s 60 (encC (C.setIfInBounds 40 (.slice (some ⟨q, 0, none⟩) 1 cq)) K P G D) ∧ Tr w' s q cq cb m (encC (C.setIfInBounds 40 (.slice (some ⟨q, 0, none⟩) 1 cq)) K P G D) ∧ Fr w w' (fun k => k = s) := by
  obtain ⟨i0, hi, hz0, hz1, hz2⟩ := info_parts Ybaf.info105
  have y40 := hs.cell 40 c40
  have f40 := hs.frozen 40
  have ls := hs.lt
  have hmk := make256
  go_enter Ybaf.func24, Ybaf.ntmps24
  go_wp2_with fail
  go_quiet (fail)
  go_wp2_with fail
  obtain ⟨W, hW⟩ : ∃ W, W = (w.alloc (.cells #[.int .i64 0, .int .i32 P, .int .i32 G, .int .u8 K, .int .i64 D] 51)).drewN nq := ⟨_, rfl⟩
  rw [← hW]
  have A1 : At W s 60 C := by rw [hW]; exact (hs.alloc _).drewN _
  have HE1 : Hid (At W w.heap.size 51 #[.int .i64 0, .int .i32 P, .int .i32 G, .int .u8 K, .int .i64 D]) := by rw [hW]; exact (At.new _ _ _).drewN _
  have HF1 : Hid (Fr w W (fun k => k = s)) := by rw [hW]; exact ((Fr.refl _ _).alloc _).drewN _
  have lW : w.heap.size < W.heap.size := by rw [hW]; simp
  have lsW : s < W.heap.size := Nat.lt_trans ls lW
  have lsW1 : s < W.heap.size + 1 := by omega
  have y1 := A1.cell 40 c40
  have f1 := A1.frozen 40
  have HA1 : Hid (At W s 60 C) := A1
  have H40 := hide_all c40
  clear hW hs y40 f40 A1 c40
  go_cut [] (fun wc => ∃ q cq, At wc s 60 (C.setIfInBounds 40 (.slice (some ⟨q, 0, none⟩) 1 cq)) ∧ wc.ownsRow W.heap.size 105 1 (.slice (some ⟨q, 0, none⟩) 1 cq) 1 [.slice (some ⟨W.heap.size, 0, none⟩) 0 256] ∧ At wc W.heap.size 5 mk256 ∧ W.heap.size < q ∧ Fr W wc (fun k => k = s))
  case first =>
    go_region_law ((refine step_append_lies _ (by rfl) _ _ _ (by rfl) W.heap.size 105 i0 _ 1 24 Ybaf.underlying48 hi hz0 hz1 hz2 rfl (by omega) (.slice none 0 0) 0 [] (by rfl) (World.ownsRow_nil _ _ _ _) ⟨W.heap.size + 1, 0, none⟩ 1 1 [.slice (some ⟨W.heap.size, 0, none⟩) 0 256] (by rfl) (by rfl) (World.news_of_block (cs := #[.slice (some ⟨W.heap.size, 0, none⟩) 0 256]) (t := 105) (fr := (0, 0)) (new_two W _ _)) (by simp [Value.oneCell']) (by omega) (by unfold maxLen; omega) (by omega) (by simp; omega) (W.heap.size + 2) (by simp) ?_; intro gg cap w1 hown1 hgrow hat hlt; (have KK := first_keep HA1.out H40.out hgrow); (have y2 := KK.1); (have f2 := KK.2.1)))
    all_goals
      have hgg : W.heap.size < gg := by
        rcases hat with e | e
        · cases e
        · omega
      have HO := hide_all hown1
      have HK := hide_all KK.2.2
      have HM : Hid (At w1 W.heap.size 5 mk256) := (((At.new W 5 mk256).alloc _).drew).grown hgrow (show (some W.heap.size : Option Nat) ≠ none by simp)
      have HF : Hid (Fr W w1 (fun k => k = s)) := ((((Fr.refl W _).alloc _).alloc _).drew).trans (Fr.of_grown hgrow (fun k hk => by cases hk))
      clear hown1 hgrow hat KK
      go_wp2_with fail
      go_meet
      exact ⟨gg, cap, HK.out.set 40 _, owns_set HO.out (a := ⟨s, 40, none⟩) (show s ≠ gg by omega) _, HM.out.set_other (a := ⟨s, 40, none⟩) (show s ≠ W.heap.size by omega) _, hgg, HF.out.setCell (.inl rfl) _⟩
  case rest =>
  obtain ⟨q, cq, A2, O2, M2, hq, F2⟩ := hcut
  clear y1 f1 hmk HA1
  have HE2 : Hid (At wc w.heap.size 51 #[.int .i64 0, .int .i32 P, .int .i32 G, .int .u8 K, .int .i64 D]) := HE1.out.fr F2 (by omega)
  have HF2 : Hid (Fr w wc (fun k => k = s)) := HF1.out.trans F2
  have HC2 : Hid (Chunk wc W.heap.size 0) := chunk_at M2
  have HQ1 := hide_all (owns_first O2).1
  have q1 := (owns_first O2).1
  have fq1 := (owns_first O2).2
  have cl : (C.setIfInBounds 40 (.slice (some ⟨q, 0, none⟩) 1 cq))[40]? = some (.slice (some ⟨q, 0, none⟩) 1 cq) := by rw [Array.getElem?_setIfInBounds, if_pos rfl, if_pos (by omega)]
  have y1 := A2.cell 40 cl
  have HCL := hide_all cl
  have x0 : wc.cell? ⟨w.heap.size, 0, none⟩ = some (.int .i64 0) := HE2.out.cell 0 rfl
  have x1 : wc.cell? ⟨w.heap.size, 1, none⟩ = some (.int .i32 P) := HE2.out.cell 1 rfl
  have x2 : wc.cell? ⟨w.heap.size, 2, none⟩ = some (.int .i32 G) := HE2.out.cell 2 rfl
  have x3 : wc.cell? ⟨w.heap.size, 3, none⟩ = some (.int .u8 K) := HE2.out.cell 3 rfl
  have x4 : wc.cell? ⟨w.heap.size, 4, none⟩ = some (.int .i64 D) := HE2.out.cell 4 rfl
  have h61' : (C.setIfInBounds 40 (.slice (some ⟨q, 0, none⟩) 1 cq)).size = 61 := by simp [h61]
  have Hctr := hide_all (encode_any s W.heap.size 0 K (C.setIfInBounds 40 (.slice (some ⟨q, 0, none⟩) 1 cq)) P G G0 D wc.drew A2.drew (by omega) HC2.out.drew (by omega) hK h61' (by rw [set_low _ _ _ (by omega)]; exact c41) (by rw [set_low _ _ _ (by omega)]; exact c43) (by rw [set_low _ _ _ (by omega)]; exact cK) bP bG bG1 bG0 bD)
  have lq : q < wc.heap.size := World.block_lt_of_cell? _ _ q1
  have hEs' := hide_all (show ¬ (w.heap.size = W.heap.size ∨ w.heap.size = s) by omega)
  have hqT' := hide_all (show ¬ (q = W.heap.size ∨ q = s) by omega)
  have hqs : q ≠ s := by omega
  have hqE : q ≠ w.heap.size := by omega
  have hwq : w.heap.size ≤ q := by omega
  have hwW : w.heap.size ≤ W.heap.size := by omega
  have hWs : W.heap.size ≠ s := by omega
  have H61 := hide_all h61'
  clear cl hK c41 c43 cK bP bG bG1 bG0 bD A2 O2 M2 F2 h61 h61' hi hz0 hz1 hz2 H40 HE1 HF1 HC2
  go_upto_region 8 with fail
  go_region_with ((go_at_call 32; go_must (refine Hctr.out.mono ?_; rintro e w2 ⟨m, hm1, hm2, rfl, C2, A2, F2⟩; have KK := encode_keep A2 F2 H61.out HCL.out HE2.out hEs'.out hqT'.out lq HQ1.out fq1; have y2 := KK.1; have q2 := (cell_fr F2 (o := 0) lq hqT'.out).trans HQ1.out; have fq2 := KK.2.2.2.2.2.2.2; clear KK)))
  all_goals
    go_wp2
    go_end0
    exact ⟨rfl, q, cq, W.heap.size, m, by omega, hwq, hwW, (A2.set_other (a := ⟨q, 0, none⟩) hqs _), tr_store HCL.out q2 fq2 C2 (hqT'.out) hWs, ((HF2.out.drew.later F2 (fun k hk ht => by rcases ht with h | h; omega; exact h)).setCell (.inr hwq) _)⟩
end Go.Proofs.YbulkcxmyFmt
