import Derived.Test.YbulkcxmyFmtQueue
namespace Go.Proofs.YbulkcxmyFmt
open Go.ChangeShapes Go.WideShapes Go.ChangeAt Go.RowKit
set_option linter.unusedVariables false

/-- pointers to whole blocks -/
def ptrs (L : List Nat) : List Value := L.map fun b => Value.pointer (some ⟨b, 0, none⟩)
theorem ptrs_get {L : List Nat} {i x : Nat} (h : L[i]? = some x) : (ptrs L)[i]? = some (.pointer (some ⟨x, 0, none⟩)) := by simp [ptrs, h]
theorem ptrs_snoc (L : List Nat) (x : Nat) : ptrs (L ++ [x]) = ptrs L ++ [.pointer (some ⟨x, 0, none⟩)] := by simp [ptrs]
theorem ptrs_length (L : List Nat) : (ptrs L).length = L.length := by simp [ptrs]

/-- block b holds a struct whose cells are D's but for cell i, which is v -/
def But (w : World) (b t : Nat) (D : Array Value) (i : Nat) (v : Value) : Prop := ∃ D', At w b t D' ∧ D'[i]? = some v ∧ D'.size = D.size ∧ ∀ j, j ≠ i → D'[j]? = D[j]?
theorem But.of_at {w : World} {b t : Nat} {D : Array Value} {i : Nat} {v : Value} (h : At w b t D) (hv : D[i]? = some v) : But w b t D i v := ⟨D, h, hv, rfl, fun _ _ => rfl⟩
theorem But.fr {w w' : World} {b t : Nat} {D : Array Value} {i : Nat} {v : Value} {T : Nat → Prop} (h : But w b t D i v) (f : Fr w w' T) (hb : ¬ T b) : But w' b t D i v := by
  obtain ⟨D', h1, h2⟩ := h
  exact ⟨D', h1.fr f hb, h2⟩
theorem But.lt {w : World} {b t : Nat} {D : Array Value} {i : Nat} {v : Value} (h : But w b t D i v) : b < w.heap.size := by
  obtain ⟨D', h1, _⟩ := h
  exact h1.lt
theorem But.put {w : World} {b t : Nat} {D D' : Array Value} {i : Nat} {v : Value} (h : At w b t (D'.setIfInBounds i v)) (hs : D'.size = D.size) (hi : i < D.size) (ho : ∀ j, j ≠ i → D'[j]? = D[j]?) : But w b t D i v :=
  ⟨_, h, by rw [Array.getElem?_setIfInBounds, if_pos rfl, if_pos (by omega)], by simpa using hs, fun j hj => by rw [Array.getElem?_setIfInBounds, if_neg (Ne.symm hj)]; exact ho j hj⟩

theorem own_fr {w w' : World} {base e size n : Nat} {v : Value} {xs : List Value} {T : Nat → Prop} (h : w.ownsRow base e size v n xs) (f : Fr w w' T) (hg : ∀ k, v.ownBlock = some k → ¬ T k) : w'.ownsRow base e size v n xs := by
  have hlt := h.lt
  obtain ⟨h1, h2⟩ := h
  refine ⟨h1, ?_⟩
  rcases h2 with h2 | ⟨g', cap', cur, hv, hbase, hc, rest⟩
  · exact .inl h2
  · subst hv
    exact .inr ⟨g', cap', cur, rfl, hbase, (f.block g' (hlt g' rfl).2 (hg g' rfl)).trans hc, rest⟩
theorem owns_fr' {w w' : World} {base g e size n cap : Nat} {xs : List Value} {T : Nat → Prop} (h : w.ownsRow base e size (.slice (some ⟨g, 0, none⟩) n cap) n xs) (f : Fr w w' T) (hg : ¬ T g) : w'.ownsRow base e size (.slice (some ⟨g, 0, none⟩) n cap) n xs :=
  own_fr h f (fun k hk => by cases hk; exact hg)

set_option maxRecDepth 100000 in
set_option maxHeartbeats 4000000 in
theorem moveTo_any (b o t b2 o2 t2 base n c g m c2 half : Nat) (a2 : Option Addr) (D D2 : Array Value) (L M : List Nat) (w : World) (hb : At w b t D) (hb2 : At w b2 t2 D2)
    (d0 : D[o]? = some (.slice (some ⟨g, 0, none⟩) n c)) (d1 : D[o + 1]? = some (.int .i64 0)) (e0 : D2[o2]? = some (.slice a2 m c2)) (e1 : D2[o2 + 1]? = some (.int .i64 0))
    (hown : w.ownsRow base 38 1 (.slice (some ⟨g, 0, none⟩) n c) n (ptrs L)) (hown2 : w.ownsRow base 38 1 (.slice a2 m c2) m (ptrs M)) (hbs : base ≤ w.heap.size)
    (hn : n ≤ 500) (hm : m ≤ 100) (hh : half < n) (hL : L.length = n) (hM : M.length = m) (hbb : b ≠ b2) (hgb : g ≠ b) (hgb2 : g ≠ b2) (h2b : (Value.slice a2 m c2).ownBlock ≠ some b) (h2b2 : (Value.slice a2 m c2).ownBlock ≠ some b2) (h2g : (Value.slice a2 m c2).ownBlock ≠ some g) :
    Calls Ybaf.prog 33 #[.pointer (some ⟨b, o, none⟩), .pointer (some ⟨b2, o2, none⟩), .int .i64 half] w fun e w' => e = .returned (.tuple #[]) ∧ ∃ a2' c2' zs,
      But w' b t D (o + 1) (.int .i64 half) ∧ But w' b2 t2 D2 o2 (.slice a2' (m + half) c2') ∧ w'.ownsRow base 38 1 (.slice (some ⟨g, 0, none⟩) n c) n zs ∧ (∀ i, half ≤ i → zs[i]? = (ptrs L)[i]?) ∧
      w'.ownsRow base 38 1 (.slice a2' (m + half) c2') (m + half) (ptrs (M ++ L.take half)) ∧ ((Value.slice a2' (m + half) c2').ownBlock ≠ some b ∧ (Value.slice a2' (m + half) c2').ownBlock ≠ some b2 ∧ (Value.slice a2' (m + half) c2').ownBlock ≠ some g) ∧
      ((Value.slice a2' (m + half) c2').ownBlock = (Value.slice a2 m c2).ownBlock ∨ ∃ k, (Value.slice a2' (m + half) c2').ownBlock = some k ∧ w.heap.size ≤ k) ∧
      Fr w w' (fun k => k = b ∨ k = b2 ∨ k = g ∨ (Value.slice a2 m c2).ownBlock = some k) := by
  go_enter Ybaf.func33, Ybaf.ntmps33
  go_wp2
  go_loopw [7] (fun i wr => ∃ (k : Nat) (a2' : Option Addr) (c2' : Nat) (zs : List Value), k ≤ half ∧ i = .int .i64 k ∧
      But wr b t D (o + 1) (.int .i64 k) ∧ But wr b2 t2 D2 o2 (.slice a2' (m + k) c2') ∧ wr.ownsRow base 38 1 (.slice (some ⟨g, 0, none⟩) n c) n zs ∧ (∀ i, k ≤ i → zs[i]? = (ptrs L)[i]?) ∧
      wr.ownsRow base 38 1 (.slice a2' (m + k) c2') (m + k) (ptrs (M ++ L.take k)) ∧ ((Value.slice a2' (m + k) c2').ownBlock ≠ some b ∧ (Value.slice a2' (m + k) c2').ownBlock ≠ some b2 ∧ (Value.slice a2' (m + k) c2').ownBlock ≠ some g) ∧
      ((Value.slice a2' (m + k) c2').ownBlock = (Value.slice a2 m c2).ownBlock ∨ ∃ k', (Value.slice a2' (m + k) c2').ownBlock = some k' ∧ w.heap.size ≤ k') ∧
      Fr w wr (fun k => k = b ∨ k = b2 ∨ k = g ∨ (Value.slice a2 m c2).ownBlock = some k)) (fun i _ => half - (intOf i).toNat)
  case atStart => exact ⟨0, a2, c2, ptrs L, Nat.zero_le _, rfl, But.of_at hb d1, But.of_at hb2 e0, hown, fun _ _ => rfl, by simpa using hown2, ⟨h2b, h2b2, h2g⟩, .inl rfl, Fr.refl _ _⟩
  case round =>
    obtain ⟨k, a2', c2', zs, hk, rfl, B1, B2, O1, hz, O2, ⟨n1, n2, n3⟩, hat, F⟩ := hrel
    by_cases hlt : k < half
    · obtain ⟨x, hx⟩ : ∃ x, L[k]? = some x := ⟨_, List.getElem?_eq_getElem (by omega)⟩
      obtain ⟨D', A', v', s', o'⟩ := B1
      have HP := hide_all (qpop_any b o t base n c g k (some ⟨x, 0, none⟩) D' zs wr A' ((o' o (by omega)).trans d0) v' O1 (by omega) (by omega) ((hz k (Nat.le_refl _)).trans (ptrs_get hx)) hgb)
      have HB2 := hide_all B2
      have HO2 := hide_all O2
      have HF := hide_all F
      have HAT := hide_all hat
      have lbr : b < wr.heap.size := A'.lt
      have lgr : g < wr.heap.size := (O1.lt g rfl).2
      have lb2r : b2 < wr.heap.size := HB2.out.lt
      clear hb hb2 hown hown2 B2 O2 F A' O1 hat
      go_wp2_with fail
      refine HP.out.mono ?_
      rintro e w1 ⟨rfl, A1, O1, F1⟩
      obtain ⟨D2', A2', v2', s2', o2'⟩ := HB2.out.fr F1 (by omega)
      have O2' : w1.ownsRow base 38 1 (.slice a2' (m + k) c2') (m + k) (ptrs (M ++ L.take k)) := own_fr HO2.out F1 (by intro j hj hT; rcases hT with h | h; exact n1 (h ▸ hj); exact n3 (h ▸ hj))
      have zF := HF.out.size
      have zF1 := F1.size
      have HQ := hide_all (qpush_any b2 o2 t2 base (m + k) c2' x a2' D2' _ w1 A2' v2' ((o2' (o2 + 1) (by omega)).trans e1) O2' (by omega) (by omega) n2)
      have lb : b < wr.heap.size := lbr
      have lg : g < wr.heap.size := (lgr)
      have HA1 := hide_all A1
      have HO1 := hide_all O1
      have HF1 := hide_all F1
      have H2s := hide_all s2'
      have H2o := hide_all o2'
      have H2v := hide_all v2'
      clear A2' O2' A1 O1 F1 s2' v2' o2'
      go_wp2_with fail
      refine HQ.out.mono ?_
      rintro e w2 ⟨rfl, g2, c2'', A3, O3, hg2, F3⟩
      have N1 : g2 ≠ b := by rcases hg2 with h | h; intro e; subst e; exact n1 h; omega
      have N2 : g2 ≠ b2 := by rcases hg2 with h | h; intro e; subst e; exact n2 h; omega
      have N3 : g2 ≠ g := by rcases hg2 with h | h; intro e; subst e; exact n3 h; omega
      have R1 : Hid (But w2 b t D (o + 1) (.int .i64 ((k + 1 : Nat) : Int))) := (But.put HA1.out s' (by have := (Array.getElem?_eq_some_iff.1 d1).1; omega) o').fr F3 (by intro hT; rcases hT with h | h; omega; exact n1 h)
      have R2 : Hid (But w2 b2 t2 D2 o2 (.slice (some ⟨g2, 0, none⟩) (m + (k + 1)) c2'')) := But.put A3 H2s.out (by have := (Array.getElem?_eq_some_iff.1 e0).1; omega) H2o.out
      have R3 : Hid (w2.ownsRow base 38 1 (.slice (some ⟨g, 0, none⟩) n c) n (zs.set k (.pointer none))) := owns_fr' HO1.out F3 (by intro hT; rcases hT with h | h; omega; exact n3 h)
      have R4 : Hid (w2.ownsRow base 38 1 (.slice (some ⟨g2, 0, none⟩) (m + (k + 1)) c2'') (m + (k + 1)) (ptrs (M ++ L.take (k + 1)))) := by
        rw [List.take_add_one, hx, Option.toList_some, ← List.append_assoc, ptrs_snoc]; exact O3
      have R5 : Hid ((Value.slice (some ⟨g2, 0, none⟩) (m + (k + 1)) c2'').ownBlock = (Value.slice a2 m c2).ownBlock ∨ ∃ k', (Value.slice (some ⟨g2, 0, none⟩) (m + (k + 1)) c2'').ownBlock = some k' ∧ w.heap.size ≤ k') := by
        rcases hg2 with h | h
        · rcases HAT.out with h' | ⟨k', h', h''⟩
          · exact .inl (h.symm.trans h')
          · exact .inr ⟨k', h.symm.trans h', h''⟩
        · exact .inr ⟨g2, rfl, by omega⟩
      have R6 : Hid (Fr w w2 (fun k => k = b ∨ k = b2 ∨ k = g ∨ (Value.slice a2 m c2).ownBlock = some k)) := by
        refine (HF.out.trans (HF1.out.mono (fun j hj => by rcases hj with h | h; exact .inl h; exact .inr (.inr (.inl h))))).later F3 (fun j hj hT => ?_)
        rcases hT with h | h
        · exact .inr (.inl h)
        · rcases HAT.out with h' | ⟨k', h', h''⟩
          · exact .inr (.inr (.inr (h'.symm.trans h)))
          · rw [h'] at h; cases h; omega
      have hzs : ∀ i, k + 1 ≤ i → (zs.set k (.pointer none))[i]? = (ptrs L)[i]? := fun i hi => by rw [List.getElem?_set_ne (by omega)]; exact hz i (by omega)
      have HZ := hide_all hzs
      clear A3 O3 F3 hg2 hzs hz
      go_wp2
      go_roundw
      case rel => exact ⟨k + 1, some ⟨g2, 0, none⟩, c2'', _, by omega, by go_num, R1.out, R2.out, R3.out, HZ.out, R4.out, ⟨fun e => N1 (Option.some.inj e), fun e => N2 (Option.some.inj e), fun e => N3 (Option.some.inj e)⟩, R5.out, R6.out⟩
      case measure => simp [intOf]; omega
    · have hk' : half = k := by omega
      subst hk'
      clear hb hb2 hown hown2
      go_wp2
      go_end0
      exact ⟨rfl, a2', c2', zs, B1, B2, O1, hz, O2, ⟨n1, n2, n3⟩, hat, F⟩
end Go.Proofs.YbulkcxmyFmt
