import Derived.Test.YbulkcxmyFmtRec
import Derived.Test.YbulkcxmyFmtEq
namespace Go.Proofs.YbulkcxmyFmt
open Go.ChangeShapes Go.WideShapes Go.ChangeAt Go.RowKit
set_option linter.unusedVariables false

set_option maxRecDepth 100000 in
set_option maxHeartbeats 2000000 in
/-- there is room: the goroutine goes to the local queue's tail -/
theorem pushLocal_room (s p b base n c x : Nat) (a : Option Addr) (Lq : Int) (C D : Array Value) (xs : List Value) (w : World) (hs : At w s 60 C) (hp : At w p 63 D) (zb : w.cell? ⟨b, 3, none⟩ = some (.pointer (some ⟨p, 0, none⟩)))
    (c2 : C[2]? = some (.int .i64 Lq)) (d3 : D[3]? = some (.slice a n c)) (d4 : D[4]? = some (.int .i64 0)) (hn : n ≤ 500) (hL : (n : Int) < Lq)
    (hown : w.ownsRow base 38 1 (.slice a n c) n xs) (hbs : base ≤ w.heap.size) (hab : (Value.slice a n c).ownBlock ≠ some p) :
    Calls Ybaf.prog 25 #[.pointer (some ⟨s, 0, none⟩), .pointer (some ⟨b, 0, none⟩), .pointer (some ⟨x, 0, none⟩)] w fun e w' => e = .returned (.tuple #[]) ∧ ∃ g c', At w' p 63 (D.setIfInBounds 3 (.slice (some ⟨g, 0, none⟩) (n + 1) c')) ∧
      w'.ownsRow base 38 1 (.slice (some ⟨g, 0, none⟩) (n + 1) c') (n + 1) (xs ++ [.pointer (some ⟨x, 0, none⟩)]) ∧ ((Value.slice a n c).ownBlock = some g ∨ w.heap.size < g) ∧ Fr w w' (fun k => k = p ∨ (Value.slice a n c).ownBlock = some k) := by
  have y2 := hs.cell 2 c2
  have z3 := hp.cell 3 d3
  have z4 : w.cell? ⟨p, 3 + 1, none⟩ = some (.int .i64 0) := hp.cell 4 d4
  have HQ := hide_all (fun m => (qlen_any p 3 n c a 0 (w.drewN m) (by omega) (by omega) (by omega) z3 z4))
  have HP := hide_all hp
  have HO := hide_all hown
  have hd : decide ((n : Int) < Lq) = true := decide_eq_true hL
  clear hs hp c2 hown z4 z3
  go_enter Ybaf.func25, Ybaf.ntmps25
  go_upto_region 1 with fail
  go_quiet ((go_at_call 9; exact Calls.quiet_of (by simpa using HQ.out _)))
  go_wp2_with fail
  refine (qpush_any p 3 63 base n c x a D xs (w.drewN nq) (HP.out.drewN _) d3 d4 HO.out (by omega) hbs hab).mono ?_
  rintro e w2 ⟨rfl, g, c', A2, O2, hg, F2⟩
  have HR : Hid (Fr w w2 (fun k => k = p ∨ (Value.slice a n c).ownBlock = some k)) := ((Fr.refl w _).drewN nq).trans F2
  have HA2 := hide_all A2
  have HO2 := hide_all O2
  have HG : Hid ((Value.slice a n c).ownBlock = some g ∨ w.heap.size < g) := hg
  clear A2 O2 hg F2 HP HO HQ
  go_wp2
  exact bodyPost_ret (v := .tuple #[]) (by simp [results, Ybaf.results25, go_sem]) rfl ⟨rfl, g, c', HA2.out, HO2.out, HG.out, HR.out⟩

theorem set_keep {C C1 : Array Value} {i : Nat} {v : Value} (h : ∀ j, j ≠ i → C1[j]? = C[j]?) : ∀ j, j ≠ i → (C1.setIfInBounds i v)[j]? = C[j]? := fun j hj => by rw [Array.getElem?_setIfInBounds, if_neg (Ne.symm hj)]; exact h j hj
theorem set_here {C : Array Value} {i : Nat} {v : Value} (h : i < C.size) : (C.setIfInBounds i v)[i]? = some v := by rw [Array.getElem?_setIfInBounds, if_pos rfl, if_pos h]

/-- the state behind an overflow -/
def Over (w' : World) (s p base n c g m half x : Nat) (C D : Array Value) (L M : List Nat) : Prop := ∃ (g2 c2' : Nat) (zs : List Value) (C' : Array Value),
  At w' s 60 C' ∧ C'[10]? = some (.slice (some ⟨g2, 0, none⟩) (m + half + 1) c2') ∧ C'[32]? = some (.int .i64 1) ∧ (∀ i, i < 40 → i ≠ 10 → i ≠ 32 → C'[i]? = C[i]?) ∧ But w' p 63 D 4 (.int .i64 half) ∧
  w'.ownsRow base 38 1 (.slice (some ⟨g, 0, none⟩) n c) n zs ∧ (∀ i, half ≤ i → zs[i]? = (ptrs L)[i]?) ∧ w'.ownsRow base 38 1 (.slice (some ⟨g2, 0, none⟩) (m + half + 1) c2') (m + half + 1) (ptrs (M ++ L.take half ++ [x])) ∧ g2 ≠ p ∧ g2 ≠ s

set_option maxRecDepth 100000 in
set_option maxHeartbeats 4000000 in
/-- the local queue is full -/
theorem pushLocal_over (s p b base n c g x m c2 half q cq cb nb : Nat) (a2 : Option Addr) (C D : Array Value) (L M : List Nat) (w : World) (hs : At w s 60 C) (hp : At w p 63 D) (ht : Tr w s q cq cb nb C) (hnb : nb ≤ 50)
    (zb : w.cell? ⟨b, 3, none⟩ = some (.pointer (some ⟨p, 0, none⟩))) (zb0 : w.cell? ⟨b, 0, none⟩ = some (.int .i64 1)) (h61 : C.size = 61) (h12 : D.size = 12)
    (k2 : C[2]? = some (.int .i64 n)) (k7 : C[7]? = some (.int .i64 0)) (k10 : C[10]? = some (.slice a2 m c2)) (k11 : C[11]? = some (.int .i64 0)) (k32 : C[32]? = some (.int .i64 0)) (k41 : C[41]? = some (.int .i64 0)) (k43 : C[43]? = some (.int .i32 1)) (k51 : C[51]? = some (.int .i64 0))
    (d0 : D[0]? = some (.int .i64 0)) (d3 : D[3]? = some (.slice (some ⟨g, 0, none⟩) n c)) (d4 : D[4]? = some (.int .i64 0)) (hn : 2 ≤ n) (hn' : n ≤ 500) (hm : m ≤ 100) (hhalf : half = n / 2) (hL : L.length = n) (hM : M.length = m)
    (hown : w.ownsRow base 38 1 (.slice (some ⟨g, 0, none⟩) n c) n (ptrs L)) (hown2 : w.ownsRow base 38 1 (.slice a2 m c2) m (ptrs M)) (hbs : base ≤ w.heap.size)
    (nps : p ≠ s) (ngp : g ≠ p) (ngs : g ≠ s) (n2p : (Value.slice a2 m c2).ownBlock ≠ some p) (n2s : (Value.slice a2 m c2).ownBlock ≠ some s) (n2g : (Value.slice a2 m c2).ownBlock ≠ some g)
    (nbs : b ≠ s) (nbp : b ≠ p) (nbg : b ≠ g) (n2b : (Value.slice a2 m c2).ownBlock ≠ some b) (nqp : q ≠ p) (ncp : cb ≠ p) (nqg : q ≠ g) (ncg : cb ≠ g) (n2q : (Value.slice a2 m c2).ownBlock ≠ some q) (n2c : (Value.slice a2 m c2).ownBlock ≠ some cb) :
    Calls Ybaf.prog 25 #[.pointer (some ⟨s, 0, none⟩), .pointer (some ⟨b, 0, none⟩), .pointer (some ⟨x, 0, none⟩)] w fun e w' => e = .returned (.tuple #[]) ∧ Over w' s p base n c g m half x C D L M ∧
      Fr w w' (fun k => k = s ∨ k = p ∨ k = g ∨ (Value.slice a2 m c2).ownBlock = some k ∨ k = q ∨ k = cb) := by
  have y2 := hs.cell 2 k2
  have z3 := hp.cell 3 d3
  have z4 : w.cell? ⟨p, 3 + 1, none⟩ = some (.int .i64 0) := hp.cell 4 d4
  have HQ := hide_all (fun m => (qlen_any p 3 n c (some ⟨g, 0, none⟩) 0 (w.drewN m) (by omega) (by omega) (by omega) z3 z4))
  have HP := hide_all hp
  have HS := hide_all hs
  have HO := hide_all hown
  have HO2 := hide_all hown2
  have HT := hide_all ht
  have HH := hide_all hhalf
  have hh2 : half < n := by omega
  have lb : b < w.heap.size := World.block_lt_of_cell? _ _ zb0
  have lq : q < w.heap.size := World.block_lt_of_cell? _ _ ht.cell
  have lc := ht.chunk.lt
  have lp := hp.lt
  have ls := hs.lt
  have lg := (hown.lt g rfl).2
  have hdiv : (n : Int) / 2 = (half : Int) := by omega
  clear hs hp hown hown2 z4 z3 ht hhalf
  go_enter Ybaf.func25, Ybaf.ntmps25
  go_upto_region 1 with fail
  go_quiet ((go_at_call 9; exact Calls.quiet_of (by simpa using HQ.out _)))
  go_upto_region 3 with fail
  obtain ⟨W, hW⟩ : ∃ W, W = w.drewN nq := ⟨_, rfl⟩
  rw [← hW]
  have y2' : W.cell? ⟨s, 2, none⟩ = some (.int .i64 n) := by rw [hW]; exact y2
  have HC := hide_all (moveTo_any p 3 63 s 10 60 base n c g m c2 half a2 D C L M W.drew (by rw [hW]; exact (HP.out.drewN _).drew) (by rw [hW]; exact (HS.out.drewN _).drew) d3 d4 k10 k11 (by rw [hW]; exact HO.out) (by rw [hW]; exact HO2.out) (by rw [hW]; exact hbs) hn' hm hh2 hL hM nps ngp ngs n2p n2s n2g)
  have HF00 : Hid (Fr w W.drew (fun _ => False)) := by rw [hW]; exact ((Fr.refl _ _).drewN _).drew
  have HF0 : Hid (Fr w W.drew (fun k => k = s ∨ k = p ∨ k = g ∨ (Value.slice a2 m c2).ownBlock = some k ∨ k = q ∨ k = cb)) := by rw [hW]; exact ((Fr.refl _ _).drewN _).drew
  have hzW : Hid (W.drew.heap.size = w.heap.size) := by rw [hW]; rfl
  clear hW HP HS HO HO2 HQ y2 zb
  go_upto_region 4 with fail
  go_region_with ((go_at_call 33; refine HC.out.mono ?_; rintro e w1 ⟨rfl, a2', c2', zs, B1, B2, O1, hz, O2, ⟨n1, n2, n3⟩, hat, F1⟩))
  obtain ⟨C1, A1, v1, s1, o1⟩ := B2
  have zF1 := F1.size
  have zw1 : w.heap.size ≤ w1.heap.size := by rw [← hzW.out]; exact zF1
  have HP1 := hide_all (qpush_any s 10 60 base (m + half) c2' x a2' C1 _ w1 A1 v1 ((o1 11 (by omega)).trans k11) O2 (by omega) (by omega) n2)
  have hown2' : ∀ k, k < w.heap.size → (Value.slice a2' (m + half) c2').ownBlock = some k → (Value.slice a2 m c2).ownBlock = some k := by
    intro k hk h
    rcases hat with h' | ⟨k', h', h''⟩
    · rw [← h']; exact h
    · rw [h] at h'; cases h'; rw [hzW.out] at h''; omega
  have HF1 : Hid (Fr w w1 (fun k => k = s ∨ k = p ∨ k = g ∨ (Value.slice a2 m c2).ownBlock = some k ∨ k = q ∨ k = cb)) := HF0.out.trans (F1.mono (fun k hk => by rcases hk with h | h | h | h; exact .inr (.inl h); exact .inl h; exact .inr (.inr (.inl h)); exact .inr (.inr (.inr (.inl h)))))
  have hTr1 : Hid (Tr w1 s q cq cb nb C) := (HT.out.fr HF00.out id id).fr F1 (by rintro (h | h | h | h); exact nqp h; exact HT.out.qs h; exact nqg h; exact n2q h) (by rintro (h | h | h | h); exact ncp h; exact HT.out.cbs h; exact ncg h; exact n2c h)
  have zb1 : w1.cell? ⟨b, 0, none⟩ = some (.int .i64 1) := (cell_fr F1 (by rw [hzW.out]; exact lb) (by rintro (h | h | h | h); exact nbp h; exact nbs h; exact nbg h; exact n2b h)).trans ((cell_fr HF00.out lb id).trans zb0)
  have HB1 := hide_all B1
  have HO1 := hide_all O1
  have HZ := hide_all hz
  have H1s := hide_all s1
  have H1o := hide_all o1
  have H1v := hide_all v1
  have HW2 := hide_all hown2'
  clear HC HF0 HF00 hzW A1 v1 s1 o1 O1 O2 B1 F1 hz hat hown2' HT zF1 zb0 y2'
  go_wp2_with fail
  refine HP1.out.mono ?_
  rintro e w2 ⟨rfl, g2, c2'', A2, O2, hg2, F2⟩
  have nT : ∀ k, k < w.heap.size → k ≠ s → (Value.slice a2 m c2).ownBlock ≠ some k → ¬ (k = s ∨ (Value.slice a2' (m + half) c2').ownBlock = some k) := by
    rintro k hk h1 h2 (h | h)
    · exact h1 h
    · exact h2 (HW2.out k hk h)
  have N2p : g2 ≠ p := by
    rcases hg2 with h | h
    · intro e; subst e; exact n1 h
    · omega
  have N2s : g2 ≠ s := by
    rcases hg2 with h | h
    · intro e; subst e; exact n2 h
    · omega
  have zw2 : w.heap.size ≤ w2.heap.size := Nat.le_trans zw1 F2.size
  have N2q : g2 = q → (Value.slice a2 m c2).ownBlock = some q := by
    intro e; rcases hg2 with h | h
    · exact HW2.out q lq (e ▸ h)
    · omega
  have N2c : g2 = cb → (Value.slice a2 m c2).ownBlock = some cb := by
    intro e; rcases hg2 with h | h
    · exact HW2.out cb lc (e ▸ h)
    · omega
  have HF2 : Hid (Fr w w2 (fun k => k = s ∨ k = p ∨ k = g ∨ (Value.slice a2 m c2).ownBlock = some k ∨ k = q ∨ k = cb)) := HF1.out.later F2 (fun k hk hT => by rcases hT with h | h; exact .inl h; exact .inr (.inr (.inr (.inl (HW2.out k hk h)))))
  have hTr2 : Hid (Tr w2 s q cq cb nb C) := hTr1.out.fr F2 (nT q lq hTr1.out.qs n2q) (nT cb lc hTr1.out.cbs n2c)
  have zb2 : w2.cell? ⟨b, 0, none⟩ = some (.int .i64 1) := (cell_fr F2 (Nat.lt_of_lt_of_le lb zw1) (nT b lb nbs n2b)).trans zb1
  have HB2 : Hid (But w2 p 63 D 4 (.int .i64 half)) := HB1.out.fr F2 (nT p lp nps n2p)
  have HL2 : Hid (w2.ownsRow base 38 1 (.slice (some ⟨g, 0, none⟩) n c) n zs) := owns_fr' HO1.out F2 (nT g lg ngs n2g)
  have HG2 : Hid (w2.ownsRow base 38 1 (.slice (some ⟨g2, 0, none⟩) (m + half + 1) c2'') (m + half + 1) (ptrs (M ++ L.take half ++ [x]))) := by rw [ptrs_snoc]; exact O2
  have s2 : (C1.setIfInBounds 10 (.slice (some ⟨g2, 0, none⟩) (m + half + 1) c2'')).size = 61 := by simp [H1s.out, h61]
  have l2 := set_keep (v := .slice (some ⟨g2, 0, none⟩) (m + half + 1) c2'') H1o.out
  have y32 : w2.cell? ⟨s, 32, none⟩ = some (.int .i64 0) := A2.cell 32 ((l2 32 (by omega)).trans k32)
  have f32 := A2.frozen 32
  have HA2 := hide_all A2
  have HL := hide_all l2
  have HS2 := hide_all s2
  have H10 := hide_all (set_here (C := C1) (i := 10) (v := .slice (some ⟨g2, 0, none⟩) (m + half + 1) c2'') (by rw [H1s.out, h61]; omega))
  clear A2 O2 hg2 F2 nT l2 s2 HP1 HF1 hTr1 zb1 HB1 HO1 H1s H1o H1v
  go_wp2_with fail
  obtain ⟨C3, hC3⟩ : ∃ C3, C3 = (C1.setIfInBounds 10 (.slice (some ⟨g2, 0, none⟩) (m + half + 1) c2'')).setIfInBounds 32 (.int .i64 1) := ⟨_, rfl⟩
  obtain ⟨W3, hW3⟩ : ∃ W3, W3 = w2.setCell ⟨s, 32, none⟩ (.int .i64 1) := ⟨_, rfl⟩
  rw [← hW3]
  have A3 : At W3 s 60 C3 := by rw [hW3, hC3]; exact HA2.out.set 32 _
  have s3 : C3.size = 61 := by rw [hC3]; simpa using HS2.out
  have l3 : ∀ j, j ≠ 10 → j ≠ 32 → C3[j]? = C[j]? := fun j h1 h2 => by rw [hC3, Array.getElem?_setIfInBounds, if_neg (Ne.symm h2)]; exact HL.out j h1
  have e10 : C3[10]? = some (.slice (some ⟨g2, 0, none⟩) (m + half + 1) c2'') := by rw [hC3, Array.getElem?_setIfInBounds, if_neg (by omega)]; exact H10.out
  have e32 : C3[32]? = some (.int .i64 1) := by rw [hC3]; exact set_here (by rw [HS2.out]; omega)
  have F3 : Fr w2 W3 (fun k => k = s) := by rw [hW3]; exact (Fr.refl w2 (fun k => k = s)).setCell (p := ⟨s, 32, none⟩) (.inl rfl) _
  have T3 : Tr W3 s q cq cb nb C3 := ⟨(l3 40 (by omega) (by omega)).trans hTr2.out.list, (hTr2.out.fr F3 hTr2.out.qs hTr2.out.cbs).cell, (hTr2.out.fr F3 hTr2.out.qs hTr2.out.cbs).frozen, (hTr2.out.fr F3 hTr2.out.qs hTr2.out.cbs).chunk, hTr2.out.qcb, hTr2.out.qs, hTr2.out.cbs⟩
  have zb3 : W3.cell? ⟨b, 0, none⟩ = some (.int .i64 1) := (cell_fr F3 (Nat.lt_of_lt_of_le lb zw2) nbs).trans zb2
  have B3 := HB2.out.fr F3 nps
  obtain ⟨D', Ap, vp, sp, op⟩ := B3
  clear hW3 hC3
  refine (record_g s p b 5 C3 0 1 ((half : Int) + 1) W3 (fun w' => At w' s 60 (encC C3 5 0 1 ((half : Int) + 1)) ∧ Fr W3 w' (fun k => k = cb ∨ k = s ∨ k = q)) A3 ((l3 7 (by omega) (by omega)).trans k7) (Ap.cell 0 ((op 0 (by omega)).trans d0)) zb3 (by omega) (by omega) (fun X hX => ?_)).mono ?_
  · refine (add_next s q cq cb nb 5 C3 0 1 1 ((half : Int) + 1) X (A3.fr hX id) (T3.fr hX id id) (by omega) (by omega) s3 ((l3 41 (by omega) (by omega)).trans k41) ((l3 43 (by omega) (by omega)).trans k43) ((l3 51 (by omega) (by omega)).trans k51) (by omega) (by omega) (by omega) (by omega) (by omega)).mono ?_
    rintro e w' ⟨he, m', hm', hA, hT, hF⟩
    exact ⟨he, hA, (hX.mono (fun k h => h.elim)).trans hF⟩
  rintro e w4 ⟨rfl, A4, F4⟩
  have F34 : Fr w2 w4 (fun k => k = s ∨ k = q ∨ k = cb) := (F3.mono (fun k h => .inl h)).trans (F4.mono (fun k h => by rcases h with h | h | h; exact .inr (.inr h); exact .inl h; exact .inr (.inl h)))
  have R1 : Hid (But w4 p 63 D 4 (.int .i64 half)) := HB2.out.fr F34 (by rintro (h | h | h); exact nps h; exact nqp h.symm; exact ncp h.symm)
  have R2 : Hid (w4.ownsRow base 38 1 (.slice (some ⟨g, 0, none⟩) n c) n zs) := owns_fr' HL2.out F34 (by rintro (h | h | h); exact ngs h; exact nqg h.symm; exact ncg h.symm)
  have R3 : Hid (w4.ownsRow base 38 1 (.slice (some ⟨g2, 0, none⟩) (m + half + 1) c2'') (m + half + 1) (ptrs (M ++ L.take half ++ [x]))) := owns_fr' HG2.out F34 (by rintro (h | h | h); exact N2s h; exact n2q (N2q h); exact n2c (N2c h))
  have R4 : Hid (Fr w w4 (fun k => k = s ∨ k = p ∨ k = g ∨ (Value.slice a2 m c2).ownBlock = some k ∨ k = q ∨ k = cb)) := HF2.out.trans (F34.mono (fun k h => by rcases h with h | h | h; exact .inl h; exact .inr (.inr (.inr (.inr (.inl h)))); exact .inr (.inr (.inr (.inr (.inr h))))))
  have R5 : Hid (∀ i, i < 40 → i ≠ 10 → i ≠ 32 → (encC C3 5 0 1 ((half : Int) + 1))[i]? = C[i]?) := fun i h0 h1 h2 => (encC_low C3 5 0 1 _ i (by omega)).trans (l3 i h1 h2)
  have R6 : Hid ((encC C3 5 0 1 ((half : Int) + 1))[10]? = some (.slice (some ⟨g2, 0, none⟩) (m + half + 1) c2'')) := (encC_low C3 5 0 1 _ 10 (by omega)).trans e10
  have R7 : Hid ((encC C3 5 0 1 ((half : Int) + 1))[32]? = some (.int .i64 1)) := (encC_low C3 5 0 1 _ 32 (by omega)).trans e32
  have R8 := hide_all A4
  clear A3 F3 T3 zb3 Ap vp sp op F34 A4 F4 l3 e10 e32 HB2 HL2 HG2 HF2 hTr2 zb2 HA2 HL HS2 H10
  go_wp2
  go_end0
  exact ⟨rfl, ⟨g2, c2'', zs, _, R8.out, R6.out, R7.out, R5.out, R1.out, R2.out, HZ.out, R3.out, N2p, N2s⟩, R4.out⟩

set_option maxRecDepth 100000 in
set_option maxHeartbeats 2000000 in
/-- one processor, made and busy: nothing is woken -/
theorem wake_none (s cp pr : Nat) (C : Array Value) (w : World) (hs : At w s 60 C) (k0 : C[0]? = some (.int .i64 1)) (k12 : C[12]? = some (.slice (some ⟨pr, 0, none⟩) 1 cp)) (k13 : C[13]? = some (.slice none 0 0)) (k15 : C[15]? = some (.int .i64 0)) :
    Calls Ybaf.prog 26 #[.pointer (some ⟨s, 0, none⟩)] w fun e w' => e = .returned .nilIface ∧ ∃ m, w' = w.drewN m := by
  have y15 := hs.cell 15 k15
  have HAI := hide_all (anyIdle_any s 1 cp 0 (some ⟨pr, 0, none⟩) none 1 w (by omega) (hs.cell 13 k13) (hs.cell 12 k12) (hs.cell 0 k0))
  clear hs k0 k12 k13 k15
  go_enter Ybaf.func26, Ybaf.ntmps26
  go_wp2_with (go_at_call 34; refine HAI.out.mono ?_; rintro e w1 ⟨rfl, m1, rfl⟩)
  go_ret
  exact ⟨rfl, m1, rfl⟩

set_option maxRecDepth 100000 in
set_option maxHeartbeats 2000000 in
/-- runNext where the next slot holds a goroutine -/
theorem runNext_full (s p b gw x : Nat) (w : World) (Rl R : World → Prop) (zb : w.cell? ⟨b, 3, none⟩ = some (.pointer (some ⟨p, 0, none⟩))) (z2 : w.cell? ⟨p, 2, none⟩ = some (.pointer (some ⟨x, 0, none⟩)))
    (hpush : Calls Ybaf.prog 25 #[.pointer (some ⟨s, 0, none⟩), .pointer (some ⟨b, 0, none⟩), .pointer (some ⟨x, 0, none⟩)] w fun e w' => e = .returned (.tuple #[]) ∧ Rl w')
    (hkeep : ∀ X, Rl X → X.cell? ⟨p, 2, none⟩ = some (.pointer (some ⟨x, 0, none⟩)) ∧ X.frozen? ⟨p, 2, none⟩ = false)
    (hwake : ∀ X, Rl X → Calls Ybaf.prog 26 #[.pointer (some ⟨s, 0, none⟩)] (X.setCell ⟨p, 2, none⟩ (.pointer (some ⟨gw, 0, none⟩))) fun e w' => e = .returned .nilIface ∧ R w') :
    Calls Ybaf.prog 16 #[.pointer (some ⟨s, 0, none⟩), .pointer (some ⟨b, 0, none⟩), .pointer (some ⟨gw, 0, none⟩)] w fun e w' => e = .returned (.tuple #[]) ∧ R w' := by
  have HP := hide_all hpush
  have HK := hide_all hkeep
  have HW := hide_all hwake
  clear hpush hkeep hwake
  go_enter Ybaf.func16, Ybaf.ntmps16
  go_wp2_with fail
  refine HP.out.mono ?_
  rintro e w1 ⟨rfl, hR⟩
  have k2 := (HK.out w1 hR).1
  have f2 := (HK.out w1 hR).2
  have HC := hide_all (HW.out w1 hR)
  clear HP HK HW hR
  go_wp2_with (go_at_call 26; refine HC.out.mono ?_; rintro e w2 ⟨rfl, hR⟩)
  go_end0
  exact ⟨rfl, hR⟩
end Go.Proofs.YbulkcxmyFmt
