import Derived.Test.YbulkcxmyFmtSmall
import Derived.Deep.DeepCutAuto
namespace Go.Proofs.YbulkcxmyFmt
open Go.ChangeShapes Go.WideShapes Go.ChangeAt Go.RowKit
set_option linter.unusedVariables false

theorem Ybaf.info38 : (Ybaf.prog.info? 38).map (fun i => (i.zero, i.size, i.bytes)) = some (some (.pointer none), 1, 8) := by kernel_rfl

set_option maxRecDepth 100000 in
set_option maxHeartbeats 2000000 in
/-- push onto a queue whose head is 0 -/
theorem qpush_any (b o t base n c x : Nat) (a : Option Addr) (D : Array Value) (xs : List Value) (w : World) (hb : At w b t D) (d0 : D[o]? = some (.slice a n c)) (d1 : D[o + 1]? = some (.int .i64 0))
    (hown : w.ownsRow base 38 1 (.slice a n c) n xs) (hn : n ≤ 1000) (hbs : base ≤ w.heap.size) (hab : (Value.slice a n c).ownBlock ≠ some b) :
    Calls Ybaf.prog 6 #[.pointer (some ⟨b, o, none⟩), .pointer (some ⟨x, 0, none⟩)] w fun e w' => e = .returned (.tuple #[]) ∧ ∃ g c', At w' b t (D.setIfInBounds o (.slice (some ⟨g, 0, none⟩) (n + 1) c')) ∧
      w'.ownsRow base 38 1 (.slice (some ⟨g, 0, none⟩) (n + 1) c') (n + 1) (xs ++ [.pointer (some ⟨x, 0, none⟩)]) ∧ ((Value.slice a n c).ownBlock = some g ∨ w.heap.size < g) ∧ Fr w w' (fun k => k = b ∨ (Value.slice a n c).ownBlock = some k) := by
  obtain ⟨i0, hi, hz0, hz1, hz2⟩ := info_parts Ybaf.info38
  have y0 := hb.cell o d0
  have y1 := hb.cell (o + 1) d1
  have lb := hb.lt
  have hcap : n ≤ c ∧ c ≤ maxLen := by
    rcases hown.2 with ⟨h, h0⟩ | ⟨g, cap, cur, hv, _, _, h1, h2, _⟩
    · cases h; exact ⟨Nat.le_refl _, Nat.zero_le _⟩
    · cases hv; exact ⟨h1, h2⟩
  obtain ⟨hcap1, hcap2⟩ := hcap
  have hm : n ≤ maxLen := Nat.le_trans hcap1 hcap2
  unfold maxLen at hcap2 hm
  have HB := hide_all hb
  have HD := hide_all d0
  have HO := hide_all hown
  have HN := hide_all hab
  clear hb d0 d1 hown hab
  by_cases hnc : n = c
  · have hg1 : ((n : Int) == (c : Int)) = true := by rw [hnc]; simp
    have HC := hide_all hnc
    clear hnc
    go_enter Ybaf.func6, Ybaf.ntmps6
    go_wp2_with fail
    go_quiet (fail)
    go_upto_region 5 with fail
    obtain ⟨W, hW⟩ : ∃ W, W = w.drewN nq := ⟨_, rfl⟩
    rw [← hW]
    have hB1 : Hid (At W b t D) := by rw [hW]; exact HB.out.drewN _
    have hO1 : Hid (W.ownsRow base 38 1 (.slice a n c) n xs) := by rw [hW]; exact HO.out
    have hF1 : Hid (Fr w W (fun k => k = b ∨ (Value.slice a n c).ownBlock = some k)) := by rw [hW]; exact (Fr.refl _ _).drewN _
    have hzW : Hid (W.heap.size = w.heap.size) := by rw [hW]; rfl
    have hbW : base ≤ W.heap.size := by rw [hzW.out]; exact hbs
    have y0' := hB1.out.cell o HD.out
    have f0' := hB1.out.frozen o
    clear hW y0 y1 HB HO
    go_wp2_with (at_builtin; go_must (refine wpList_append_lies _ rfl (.tmp 72) (.tmp 74) 30 rfl base 38 i0 _ 1 8 Ybaf.underlying30 hi hz0 hz1 hz2 rfl ?c0 (.slice a n c) n xs rfl ?cown ⟨W.heap.size, 0, none⟩ 1 1 [.pointer (some ⟨x, 0, none⟩)] rfl rfl ?c1 ?c2 ?c7 ?c3 ?c4 ?c5 (W.heap.size + 1) ?c6 ?_))
    case c0 => omega
    case cown => exact hO1.out.alloc _
    case c1 => exact cell_one_new _ _ _
    case c2 => simp [Value.oneCell']
    case c7 => omega
    case c3 => unfold maxLen; omega
    case c4 => omega
    case c5 => simp; omega
    case c6 => simp
    intro gg c' w1 hown1 hgrow hat hlt
    have A1 : At w1 b t D := (hB1.out.alloc _).grown hgrow (fun e => HN.out e.symm)
    have y1' := A1.cell o HD.out
    have f1' := A1.frozen o
    have hgb : gg ≠ b := by
      rcases hat with e | e
      · intro h; subst h; exact HN.out e
      · have := hB1.out.lt; omega
    have HT : Hid ((Value.slice a n c).ownBlock = some gg ∨ w.heap.size < gg) := by
      rcases hat with e | e
      · exact .inl e
      · exact .inr (by rw [← hzW.out]; omega)
    have HO1 := hide_all hown1
    have HA1 := hide_all A1
    have HF : Hid (Fr w w1 (fun k => k = b ∨ (Value.slice a n c).ownBlock = some k)) := (hF1.out.alloc _).trans (Fr.of_grown hgrow (fun k hk => .inr hk))
    clear hown1 hgrow hat A1 hB1 hO1 hF1 y0' f0'
    go_wp2
    go_end0
    exact ⟨rfl, gg, c', HA1.out.set o _, owns_set HO1.out (a := ⟨b, o, none⟩) (Ne.symm hgb) _, HT.out, HF.out.setCell (.inl (.inl rfl)) _⟩
  · have hg1 : ((n : Int) == (c : Int)) = false := beq_eq_false_iff_ne.2 (by omega)
    have HC := hide_all hnc
    clear hnc
    go_enter Ybaf.func6, Ybaf.ntmps6
    go_wp2_with fail
    go_quiet (fail)
    go_upto_region 5 with fail
    obtain ⟨W, hW⟩ : ∃ W, W = w.drewN nq := ⟨_, rfl⟩
    rw [← hW]
    have hB1 : Hid (At W b t D) := by rw [hW]; exact HB.out.drewN _
    have hO1 : Hid (W.ownsRow base 38 1 (.slice a n c) n xs) := by rw [hW]; exact HO.out
    have hF1 : Hid (Fr w W (fun k => k = b ∨ (Value.slice a n c).ownBlock = some k)) := by rw [hW]; exact (Fr.refl _ _).drewN _
    have hzW : Hid (W.heap.size = w.heap.size) := by rw [hW]; rfl
    have hbW : base ≤ W.heap.size := by rw [hzW.out]; exact hbs
    have y0' := hB1.out.cell o HD.out
    have f0' := hB1.out.frozen o
    clear hW y0 y1 HB HO
    go_wp2_with (at_builtin; go_must (refine wpList_append_lies _ rfl (.tmp 72) (.tmp 74) 30 rfl base 38 i0 _ 1 8 Ybaf.underlying30 hi hz0 hz1 hz2 rfl ?c0 (.slice a n c) n xs rfl ?cown ⟨W.heap.size, 0, none⟩ 1 1 [.pointer (some ⟨x, 0, none⟩)] rfl rfl ?c1 ?c2 ?c7 ?c3 ?c4 ?c5 (W.heap.size + 1) ?c6 ?_))
    case c0 => omega
    case cown => exact hO1.out.alloc _
    case c1 => exact cell_one_new _ _ _
    case c2 => simp [Value.oneCell']
    case c7 => omega
    case c3 => unfold maxLen; omega
    case c4 => omega
    case c5 => simp; omega
    case c6 => simp
    intro gg c' w1 hown1 hgrow hat hlt
    have A1 : At w1 b t D := (hB1.out.alloc _).grown hgrow (fun e => HN.out e.symm)
    have y1' := A1.cell o HD.out
    have f1' := A1.frozen o
    have hgb : gg ≠ b := by
      rcases hat with e | e
      · intro h; subst h; exact HN.out e
      · have := hB1.out.lt; omega
    have HT : Hid ((Value.slice a n c).ownBlock = some gg ∨ w.heap.size < gg) := by
      rcases hat with e | e
      · exact .inl e
      · exact .inr (by rw [← hzW.out]; omega)
    have HO1 := hide_all hown1
    have HA1 := hide_all A1
    have HF : Hid (Fr w w1 (fun k => k = b ∨ (Value.slice a n c).ownBlock = some k)) := (hF1.out.alloc _).trans (Fr.of_grown hgrow (fun k hk => .inr hk))
    clear hown1 hgrow hat A1 hB1 hO1 hF1 y0' f0'
    go_wp2
    go_end0
    exact ⟨rfl, gg, c', HA1.out.set o _, owns_set HO1.out (a := ⟨b, o, none⟩) (Ne.symm hgb) _, HT.out, HF.out.setCell (.inl (.inl rfl)) _⟩

theorem set_ne' {C : Array Value} {i j : Nat} {v : Value} (h : i ≠ j) : (C.setIfInBounds i v)[j]? = C[j]? := by rw [Array.getElem?_setIfInBounds, if_neg h]

theorem owns_put {w : World} {base g n cap h e : Nat} {xs : List Value} (ho : w.ownsRow base e 1 (.slice (some ⟨g, 0, none⟩) n cap) n xs) (hh : h < n) (v : Value) :
    (w.setCell ⟨g, h, none⟩ v).ownsRow base e 1 (.slice (some ⟨g, 0, none⟩) n cap) n (xs.set h v) := by
  obtain ⟨h1, h2⟩ := ho
  refine ⟨by simpa using h1, ?_⟩
  rcases h2 with ⟨h2, _⟩ | ⟨g', cap', cur, hv, hb, hg, hn, hm, hs, ht⟩
  · cases h2
  · cases hv
    refine .inr ⟨g, cap, cur.setIfInBounds h v, rfl, hb, ?_, hn, hm, by simpa using hs, ?_⟩
    · have := heap_setCell_same w g h cur e v hg
      exact this
    · rw [Array.toList_setIfInBounds, List.take_set, ht]

theorem owns_cell {w : World} {base g n cap h e : Nat} {xs : List Value} {v : Value} (ho : w.ownsRow base e 1 (.slice (some ⟨g, 0, none⟩) n cap) n xs) (hx : xs[h]? = some v) : w.cell? ⟨g, h, none⟩ = some v ∧ w.frozen? ⟨g, h, none⟩ = false := by
  refine ⟨?_, ?_⟩
  · have := ho.cells (g := g) rfl h v hx
    rw [Addr.add_lit, Nat.zero_add] at this
    exact this
  · rcases ho.2 with ⟨h2, _⟩ | ⟨g', cap', cur, hv, hb, hg, _⟩
    · cases h2
    · cases hv
      simp [World.frozen?, hg]

set_option maxRecDepth 100000 in
set_option maxHeartbeats 2000000 in
/-- pop off a queue of which more than one item is left -/
theorem qpop_any (b o t base n c g h : Nat) (px : Option Addr) (D : Array Value) (xs : List Value) (w : World) (hb : At w b t D) (d0 : D[o]? = some (.slice (some ⟨g, 0, none⟩) n c)) (d1 : D[o + 1]? = some (.int .i64 h))
    (hown : w.ownsRow base 38 1 (.slice (some ⟨g, 0, none⟩) n c) n xs) (hn : n ≤ 1000) (hh : h + 1 < n) (hx : xs[h]? = some (.pointer px)) (hgb : g ≠ b) :
    Calls Ybaf.prog 42 #[.pointer (some ⟨b, o, none⟩)] w fun e w' => e = .returned (.pointer px) ∧ At w' b t (D.setIfInBounds (o + 1) (.int .i64 ((h + 1 : Nat) : Int))) ∧
      w'.ownsRow base 38 1 (.slice (some ⟨g, 0, none⟩) n c) n (xs.set h (.pointer none)) ∧ Fr w w' (fun k => k = b ∨ k = g) := by
  have y0 := hb.cell o d0
  have y1 := hb.cell (o + 1) d1
  have f1 := hb.frozen (o + 1)
  have hc := owns_cell hown hx
  have z := hc.1
  have fz := hc.2
  have hh0 : (0 : Int) ≤ (h : Int) := Int.natCast_nonneg _
  have hh1 : (h : Int) < (n : Int) := by omega
  have hne : ((h : Int) + 1 == (n : Int)) = false := beq_eq_false_iff_ne.2 (by omega)
  have HB := hide_all hb
  have HO := hide_all hown
  have lb := hb.lt
  have lg := (hown.lt g rfl).2
  have HD := hide_all d0
  have HD1 := hide_all d1
  clear hb d0 d1 hown hc hx
  go_enter Ybaf.func42, Ybaf.ntmps42
  go_wp2_with fail
  go_quiet (fail)
  go_upto_region 3 with fail
  go_region
  go_upto_region 5 with fail
  obtain ⟨W, hW⟩ : ∃ W, W = ((w.drewN (nq + 1)).setCell ⟨g, h, none⟩ (.pointer none)).setCell ⟨b, o + 1, none⟩ (.int .i64 ((h : Int) + 1)) := ⟨_, rfl⟩
  rw [← hW]
  have hB1 : At W b t (D.setIfInBounds (o + 1) (.int .i64 ((h : Int) + 1))) := by rw [hW]; exact ((HB.out.drewN _).set_other (a := ⟨g, h, none⟩) hgb _).set (o + 1) _
  have hO1 : Hid (W.ownsRow base 38 1 (.slice (some ⟨g, 0, none⟩) n c) n (xs.set h (.pointer none))) := by rw [hW]; exact owns_set (owns_put (w := w.drewN (nq + 1)) HO.out (by omega) _) (a := ⟨b, o + 1, none⟩) (Ne.symm hgb) _
  have hF1 : Hid (Fr w W (fun k => k = b ∨ k = g)) := by rw [hW]; exact (((Fr.refl w (fun k => k = b ∨ k = g)).drewN _).setCell (p := ⟨g, h, none⟩) (.inl (.inr rfl)) _).setCell (p := ⟨b, o + 1, none⟩) (.inl (.inl rfl)) _
  have v0 : W.cell? ⟨b, o, none⟩ = some (.slice (some ⟨g, 0, none⟩) n c) := hB1.cell o ((set_ne' (by omega)).trans HD.out)
  have v1 : W.cell? ⟨b, o + 1, none⟩ = some (.int .i64 ((h : Int) + 1)) := hB1.cell (o + 1) (by rw [Array.getElem?_setIfInBounds, if_pos rfl, if_pos (by have := (Array.getElem?_eq_some_iff.1 HD1.out).1; omega)])
  have HB1 := hide_all hB1
  clear hW hB1 HB HO y0 y1 f1 z fz
  go_quiet (fail)
  go_wp2
  go_ret
  have e1 : ((h : Int) + 1) = ((h + 1 : Nat) : Int) := by omega
  rw [e1] at HB1
  exact ⟨rfl, HB1.out.drewN _, hO1.out, hF1.out.drewN _⟩

end Go.Proofs.YbulkcxmyFmt
