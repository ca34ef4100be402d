import Derived.Test.YbulkcxmyFmtRec
namespace Go.Proofs.YbulkcxmyFmt
open Go.ChangeShapes Go.WideShapes Go.ChangeAt Go.RowKit
set_option linter.unusedVariables false

theorem set_ne {C : Array Value} {i j : Nat} {v : Value} (h : i ≠ j) : (C.setIfInBounds i v)[j]? = C[j]? := by rw [Array.getElem?_setIfInBounds, if_neg h]
theorem set_eq {C : Array Value} {i : Nat} {v : Value} (h : i < C.size) : (C.setIfInBounds i v)[i]? = some v := by rw [Array.getElem?_setIfInBounds, if_pos rfl, if_pos h]

/-- what the sim's cells are ahead of a wake with none searching -/
structure Idle (C : Array Value) (N T M : Int) (pr c : Nat) : Prop where
  size : C.size = 61
  procs : C[0]? = some (.int .i64 N)
  maxT : C[6]? = some (.int .i64 M)
  now : C[7]? = some (.int .i64 0)
  agenda : C[8]? = some (.slice none 0 0)
  events : C[9]? = some (.int .u64 0)
  list : C[12]? = some (.slice (some ⟨pr, 0, none⟩) 1 c)
  idleP : C[13]? = some (.slice none 0 0)
  idleT : C[14]? = some (.slice none 0 0)
  search : C[15]? = some (.int .i64 0)
  err : C[20]? = some .nilIface
  threads : C[38]? = some (.int .i64 T)
  prevAt : C[41]? = some (.int .i64 0)
  prevG : C[43]? = some (.int .i32 1)
  det6 : C[52]? = some (.int .i64 0)

theorem Tr.chg {w : World} {s q cq cb n : Nat} {C C' : Array Value} (h : Tr w s q cq cb n C) (hc : C'[40]? = C[40]?) : Tr w s q cq cb n C' := ⟨hc.trans h.list, h.cell, h.frozen, h.chunk, h.qcb, h.qs, h.cbs⟩
theorem Tr.qlt {w : World} {s q cq cb n : Nat} {C : Array Value} (h : Tr w s q cq cb n C) : q < w.heap.size := World.block_lt_of_cell? _ _ h.cell

theorem owns_fr {w w' : World} {base g e size n cap : Nat} {xs : List Value} {T : Nat → Prop} (h : w.ownsRow base e size (.slice (some ⟨g, 0, none⟩) n cap) n xs) (f : Fr w w' T) (hg : ¬ T g) : w'.ownsRow base e size (.slice (some ⟨g, 0, none⟩) n cap) n xs := by
  have hlt := (h.lt g rfl).2
  obtain ⟨h1, h2⟩ := h
  refine ⟨h1, ?_⟩
  rcases h2 with ⟨h2, _⟩ | ⟨g', cap', cur, hv, hbase, hc, rest⟩
  · cases h2
  · cases hv
    exact .inr ⟨g, cap, cur, rfl, hbase, (f.block g hlt hg).trans hc, rest⟩

/-- what the memory shows behind a wake: P1 is made, searching and choosing, with thread T; its choice is the one event -/
def Woken (w' : World) (s : Nat) (T : Int) : Prop := ∃ g c' pb ag ca : Nat,
  w'.cell? ⟨s, 12, none⟩ = some (.slice (some ⟨g, 0, none⟩) 2 c') ∧ w'.cell? ⟨g, 1, none⟩ = some (.pointer (some ⟨pb, 0, none⟩)) ∧
  w'.cell? ⟨pb, 0, none⟩ = some (.int .i64 1) ∧ w'.cell? ⟨pb, 1, none⟩ = some (.int .i64 T) ∧ w'.cell? ⟨pb, 7, none⟩ = some (.bool true) ∧ w'.cell? ⟨pb, 8, none⟩ = some (.bool true) ∧
  w'.cell? ⟨s, 38, none⟩ = some (.int .i64 (T + 1)) ∧ w'.cell? ⟨s, 8, none⟩ = some (.slice (some ⟨ag, 0, none⟩) 1 ca) ∧ w'.cell? ⟨s, 9, none⟩ = some (.int .u64 1) ∧ w'.cell? ⟨s, 15, none⟩ = some (.int .i64 1) ∧ w'.cell? ⟨s, 20, none⟩ = some .nilIface ∧
  ∀ j v, (evC 0 0 pb).toList[j]? = some v → w'.cell? ⟨ag, j, none⟩ = some v

set_option maxRecDepth 100000 in
set_option maxHeartbeats 4000000 in
theorem wake_go (s q cq cb n pr c base p0 : Nat) (C : Array Value) (N T M : Int) (w : World) (hs : At w s 60 C) (hI : Idle C N T M pr c) (ht : Tr w s q cq cb n C) (hn : n ≤ 50)
    (hN : 1 < N) (hT : 0 ≤ T ∧ T ≤ 1000) (hTM : T < M) (hM : M ≤ 1000000) (hown : w.ownsRow base 61 1 (.slice (some ⟨pr, 0, none⟩) 1 c) 1 [.pointer (some ⟨p0, 0, none⟩)]) (hb : base ≤ w.heap.size) (hps : s ≠ pr) (hpq : pr ≠ q) (hpc : pr ≠ cb) :
    Calls Ybaf.prog 26 #[.pointer (some ⟨s, 0, none⟩)] w fun e w' => e = .returned .nilIface ∧ Woken w' s T ∧ Fr w w' (fun k => k = s ∨ k = pr ∨ k = q ∨ k = cb) := by
  have y15 := hs.cell 15 hI.search
  have hm1 : (1 : Nat) ≤ 1000000 := by omega
  have HA := hide_all hs
  have HIH := hide_all hI
  have HT := hide_all ht
  have HO := hide_all hown
  have HAI := hide_all (anyIdle_any s 1 c 0 (some ⟨pr, 0, none⟩) none N w hm1 (hs.cell 13 hI.idleP) (hs.cell 12 hI.list) (hs.cell 0 hI.procs))
  have ls := hs.lt
  have lq := ht.qlt
  have lc := ht.chunk.lt
  have lp := (hown.lt pr rfl).2
  have nqs := ht.qs
  have ncs := ht.cbs
  clear hs hI ht hown
  go_enter Ybaf.func26, Ybaf.ntmps26
  go_wp2_with (go_at_call 34; refine HAI.out.mono ?_; rintro e w1 ⟨rfl, m1, hw1⟩; (have HW1 := hide_all hw1); clear hw1)
  have hw1 := HW1.out
  have A1 : Hid (At w1 s 60 C) := by rw [hw1]; exact HA.out.drewN _
  have O1 : Hid (w1.ownsRow base 61 1 (.slice (some ⟨pr, 0, none⟩) 1 c) 1 [.pointer (some ⟨p0, 0, none⟩)]) := by rw [hw1]; exact HO.out
  have F1 : Hid (Fr w w1 (fun k => k = s ∨ k = pr ∨ k = q ∨ k = cb)) := by rw [hw1]; exact (Fr.refl _ _).drewN _
  have hz1 : w.heap.size ≤ w1.heap.size := F1.out.size
  have hTr1 : Hid (Tr w1 s q cq cb n C) := HT.out.fr (T := fun _ => False) (by rw [hw1]; exact (Fr.refl _ _).drewN _) id id
  clear hw1 HA HO HT y15 HAI
  go_wp2_with fail
  refine (takeIdle_any s 0 1 c pr base none C _ w1 A1.out HIH.out.size (by omega) HIH.out.idleP HIH.out.list O1.out hps (by omega)).mono ?_
  rintro e w2 ⟨rfl, g, c', E2, A2, O2, hg, F2⟩
  obtain ⟨pb, hpb⟩ : ∃ pb, pb = w1.heap.size := ⟨_, rfl⟩
  rw [← hpb] at E2 O2 hg
  rw [← hpb]
  have hpbz : w.heap.size ≤ pb := by omega
  have hpb2 : pb < w2.heap.size := E2.lt
  have hgs : g ≠ s := by omega
  have hgp : g ≠ pb := by omega
  have hgq : g ≠ q := by omega
  have hgc : g ≠ cb := by omega
  clear hpb
  have HA2 := hide_all A2
  have HE2 := hide_all E2
  have HO2 := hide_all O2
  have HF2 : Hid (Fr w w2 (fun k => k = s ∨ k = pr ∨ k = q ∨ k = cb)) := F1.out.trans (F2.mono (fun k hk => by omega))
  have hTr2 : Hid (Tr w2 s q cq cb n C) := hTr1.out.fr F2 (by omega) (by omega)
  clear A1 O1 F1 hTr1 A2 E2 O2 F2 hz1
  go_wp2_with fail
  refine (giveThread_any s pb 0 none _ (procC 1) T M w2 HA2.out HE2.out (by omega) (by simp [HIH.out.size]) rfl ((set_ne (by omega)).trans HIH.out.idleT) ((set_ne (by omega)).trans HIH.out.threads) ((set_ne (by omega)).trans HIH.out.maxT) (by omega) hTM hM).mono ?_
  rintro e w3 ⟨rfl, A3, E3, F3⟩
  have z7 := E3.cell 7 (v := .bool false) rfl
  have g7 := E3.frozen 7
  have y15 := A3.cell 15 (v := .int .i64 0) ((set_ne (by omega)).trans ((set_ne (by omega)).trans HIH.out.search))
  have f15 := A3.frozen 15
  have hsp : s ≠ pb := by omega
  have HA3 := hide_all A3
  have HE3 := hide_all E3
  have HO3 : Hid (w3.ownsRow base 61 1 (.slice (some ⟨g, 0, none⟩) 2 c') 2 [.pointer (some ⟨p0, 0, none⟩), .pointer (some ⟨pb, 0, none⟩)]) := owns_fr HO2.out F3 (by omega)
  have HF3 : Hid (Fr w w3 (fun k => k = s ∨ k = pr ∨ k = q ∨ k = cb)) := HF2.out.later F3 (fun k hk ht => by omega)
  have hTr3 : Hid (Tr w3 s q cq cb n C) := hTr2.out.fr F3 (by omega) (by omega)
  have hpb3 : pb < w3.heap.size := E3.lt
  clear HA2 HE2 HO2 HF2 hTr2 A3 E3 F3
  go_wp2_with fail
  obtain ⟨C3, hC3⟩ : ∃ C3, C3 = (((C.setIfInBounds 12 (.slice (some ⟨g, 0, none⟩) (1 + 1) c')).setIfInBounds 38 (.int .i64 (T + 1))).setIfInBounds 15 (.int .i64 1)) := ⟨_, rfl⟩
  obtain ⟨D2, hD2⟩ : ∃ D2, D2 = (((procC 1).setIfInBounds 1 (.int .i64 T)).setIfInBounds 7 (.bool true)) := ⟨_, rfl⟩
  obtain ⟨W4, hW4⟩ : ∃ W4, W4 = (w3.setCell ⟨pb, 7, none⟩ (.bool true)).setCell ⟨s, 15, none⟩ (.int .i64 1) := ⟨_, rfl⟩
  rw [← hW4]
  have low : ∀ i, i ≠ 12 → i ≠ 38 → i ≠ 15 → C3[i]? = C[i]? := fun i h1 h2 h3 => by rw [hC3, set_ne (Ne.symm h3), set_ne (Ne.symm h2), set_ne (Ne.symm h1)]
  have s3 : C3.size = 61 := by rw [hC3]; simp [HIH.out.size]
  have A4 : At W4 s 60 C3 := by rw [hW4, hC3]; exact (HA3.out.set_other (a := ⟨pb, 7, none⟩) (Ne.symm hsp) _).set 15 _
  have E4 : At W4 pb 63 D2 := by rw [hW4, hD2]; exact (HE3.out.set 7 _).set_other (a := ⟨s, 15, none⟩) hsp _
  have F34 : Fr w3 W4 (fun k => k = s ∨ k = pb) := by rw [hW4]; exact ((Fr.refl w3 (fun k => k = s ∨ k = pb)).setCell (p := ⟨pb, 7, none⟩) (.inl (.inr rfl)) _).setCell (p := ⟨s, 15, none⟩) (.inl (.inl rfl)) _
  have O4 : W4.ownsRow base 61 1 (.slice (some ⟨g, 0, none⟩) 2 c') 2 [.pointer (some ⟨p0, 0, none⟩), .pointer (some ⟨pb, 0, none⟩)] := owns_fr HO3.out F34 (by omega)
  have T4 : Tr W4 s q cq cb n C3 := (hTr3.out.fr F34 (by omega) (by omega)).chg (low 40 (by omega) (by omega) (by omega))
  have F4 : Fr w W4 (fun k => k = s ∨ k = pr ∨ k = q ∨ k = cb) := HF3.out.later F34 (fun k hk ht => by omega)
  have e12 : C3[12]? = some (.slice (some ⟨g, 0, none⟩) 2 c') := by rw [hC3, set_ne (by omega), set_ne (by omega)]; exact set_eq (by rw [HIH.out.size]; omega)
  have e38 : C3[38]? = some (.int .i64 (T + 1)) := by rw [hC3, set_ne (by omega)]; exact set_eq (by simp [HIH.out.size])
  have e15 : C3[15]? = some (.int .i64 1) := by rw [hC3]; exact set_eq (by simp [HIH.out.size])
  have d0 : D2[0]? = some (.int .i64 1) := by rw [hD2]; rfl
  have d1 : D2[1]? = some (.int .i64 T) := by rw [hD2]; rfl
  have d7 : D2[7]? = some (.bool true) := by rw [hD2]; rfl
  have dsz : D2.size = 12 := by rw [hD2]; rfl
  have hpb4 : pb < W4.heap.size := E4.lt
  clear hW4 hC3 hD2 HA3 HE3 HO3 HF3 hTr3 z7 g7 y15 f15 F34
  refine (record_nil s pb 6 C3 1 0 W4 (fun w' => At w' s 60 (encC C3 6 1 0 0) ∧ Fr W4 w' (fun k => k = cb ∨ k = s ∨ k = q)) A4 ((low 7 (by omega) (by omega) (by omega)).trans HIH.out.now) (E4.cell 0 d0) (by omega) (fun X hX => ?_)).mono ?_
  · refine (add_next s q cq cb n 6 C3 1 0 1 0 X (A4.fr hX id) (T4.fr hX id id) (by omega) (by omega) s3 ((low 41 (by omega) (by omega) (by omega)).trans HIH.out.prevAt) ((low 43 (by omega) (by omega) (by omega)).trans HIH.out.prevG) ((low 52 (by omega) (by omega) (by omega)).trans HIH.out.det6) (by omega) (by omega) (by omega) (by omega) (by omega)).mono ?_
    rintro e w' ⟨he, m, hm, hA, hT, hF⟩
    exact ⟨he, hA, (hX.mono (fun k h => h.elim)).trans hF⟩
  rintro e w5 ⟨rfl, A5, F5⟩
  have E5 : At w5 pb 63 D2 := E4.fr F5 (by omega)
  have O5 := owns_fr O4 F5 (by omega)
  have F5' : Fr w w5 (fun k => k = s ∨ k = pr ∨ k = q ∨ k = cb) := F4.trans (F5.mono (fun k hk => by omega))
  have enc : ∀ i, i < 41 → (encC C3 6 1 0 0)[i]? = C3[i]? := fun i hi => encC_low C3 6 1 0 0 i hi
  have HA5 := hide_all A5
  have HE5 := hide_all E5
  have HO5 := hide_all O5
  have HF5 := hide_all F5'
  have H3 := hide_all s3
  have HL := hide_all low
  have HEN := hide_all enc
  have H12 := hide_all e12
  have H38 := hide_all e38
  have H15 := hide_all e15
  have HD0 := hide_all d0
  have HD1 := hide_all d1
  have HD7 := hide_all d7
  have HDS := hide_all dsz
  have hpb5 : pb < w5.heap.size := E5.lt
  clear A4 E4 F4 O4 T4 A5 E5 O5 F5 F5' s3 low enc e12 e38 e15 d0 d1 d7 dsz
  go_wp2_with fail
  refine (choose_any s pb 0 (encC C3 6 1 0 0) D2 w5 HA5.out HE5.out hsp (by rw [encC_size]; exact H3.out) HDS.out ((HEN.out 7 (by omega)).trans ((HL.out 7 (by omega) (by omega) (by omega)).trans HIH.out.now)) ((HEN.out 8 (by omega)).trans ((HL.out 8 (by omega) (by omega) (by omega)).trans HIH.out.agenda)) ((HEN.out 9 (by omega)).trans ((HL.out 9 (by omega) (by omega) (by omega)).trans HIH.out.events)) (by omega)).mono ?_
  rintro e w6 ⟨rfl, ag, ca, A6, E6, O6, hag, F6⟩
  have HA6 := hide_all A6
  have HE6 := hide_all E6
  have HO6 := hide_all O6
  have HP6 := hide_all (owns_fr HO5.out F6 (by omega))
  have HF6 : Hid (Fr w w6 (fun k => k = s ∨ k = pr ∨ k = q ∨ k = cb)) := HF5.out.later F6 (fun k hk ht => by omega)
  clear A6 E6 O6 F6 HA5 HE5 HO5 HF5
  go_wp2
  go_ret
  have sz : (encC C3 6 1 0 0).size = 61 := by rw [encC_size]; exact H3.out
  have up : ∀ i, i < 41 → i ≠ 8 → i ≠ 9 → (((encC C3 6 1 0 0).setIfInBounds 9 (.int .u64 (0 + 1))).setIfInBounds 8 (.slice (some ⟨ag, 0, none⟩) 1 ca))[i]? = C3[i]? := fun i h1 h2 h3 => by rw [set_ne (Ne.symm h2), set_ne (Ne.symm h3)]; exact HEN.out i h1
  refine ⟨rfl, ⟨g, c', pb, ag, ca, HA6.out.cell 12 ((up 12 (by omega) (by omega) (by omega)).trans H12.out), ?_, HE6.out.cell 0 ((set_ne (by omega)).trans HD0.out), HE6.out.cell 1 ((set_ne (by omega)).trans HD1.out), HE6.out.cell 7 ((set_ne (by omega)).trans HD7.out), HE6.out.cell 8 (set_eq (by rw [HDS.out]; omega)),
    HA6.out.cell 38 ((up 38 (by omega) (by omega) (by omega)).trans H38.out), HA6.out.cell 8 (set_eq (by simp [sz])), HA6.out.cell 9 ((set_ne (by omega)).trans (set_eq (by omega))), HA6.out.cell 15 ((up 15 (by omega) (by omega) (by omega)).trans H15.out), HA6.out.cell 20 ((up 20 (by omega) (by omega) (by omega)).trans ((HL.out 20 (by omega) (by omega) (by omega)).trans HIH.out.err)), ?_⟩, HF6.out⟩
  · exact HP6.out.cells (g := g) rfl 1 _ rfl
  · intro j v hv
    have := HO6.out.cells (g := ag) rfl j v hv
    rw [Addr.add_lit, Nat.zero_add] at this
    exact this
end Go.Proofs.YbulkcxmyFmt
