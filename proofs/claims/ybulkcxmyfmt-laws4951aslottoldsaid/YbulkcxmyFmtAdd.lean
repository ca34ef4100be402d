import Derived.Test.YbulkcxmyFmtSmall
namespace Go.Proofs.YbulkcxmyFmt
open Go.ChangeShapes Go.WideShapes Go.ChangeAt Go.RowKit
set_option linter.unusedVariables false

theorem Ybaf.info105 : (Ybaf.prog.info? 105).map (fun i => (i.zero, i.size, i.bytes)) = some (some (.slice none 0 0), 1, 24) := by kernel_rfl

def mk256 : Array Value := Array.replicate 256 (.int .u8 0)
theorem make256 (w : World) : (Instr.makeSlice 105 (.int .i64 0) (.int .i64 256)).run Ybaf.prog w = .ok (.slice (some ⟨w.heap.size, 0, none⟩) 0 256) (w.alloc (.cells mk256 5)) := by kernel_rfl

theorem chunk_new (w : World) : Chunk (w.alloc (.cells mk256 5)) w.heap.size 0 :=
  ⟨[], World.ownsRow_made w mk256 256 (Nat.le_refl _) (by unfold maxLen; omega) (by simp [mk256])⟩

/-- what lies in the first cell of block q -/
def curV (q : Nat) (w : World) : Value := (w.cell? ⟨q, 0, none⟩).getD undef
theorem curV_of {q : Nat} {w : World} {v : Value} (h : w.cell? ⟨q, 0, none⟩ = some v) : w.cell? ⟨q, 0, none⟩ = some (curV q w) := by simp [curV, h]
theorem curV_drew {q : Nat} {w : World} (h : w.cell? ⟨q, 0, none⟩ = some (curV q w)) : w.drew.cell? ⟨q, 0, none⟩ = some (curV q w.drew) := h


theorem cell_fr {w w' : World} {T : Nat → Prop} (f : Fr w w' T) {b o : Nat} (hb : b < w.heap.size) (ht : ¬ T b) : w'.cell? ⟨b, o, none⟩ = w.cell? ⟨b, o, none⟩ := World.cell?_of_block (f.block b hb ht)
theorem frozen_fr {w w' : World} {T : Nat → Prop} (f : Fr w w' T) {b o : Nat} (hb : b < w.heap.size) (ht : ¬ T b) : w'.frozen? ⟨b, o, none⟩ = w.frozen? ⟨b, o, none⟩ := World.frozen?_of_block (w := w) (a := ⟨b, o, none⟩) (f.block b hb ht)

/-- the trace has its first chunk: block q holds the list of chunks, block cb the chunk, n bytes long -/
structure Tr (w : World) (s q cq cb n : Nat) (C : Array Value) : Prop where
  list : C[40]? = some (.slice (some ⟨q, 0, none⟩) 1 cq)
  cell : w.cell? ⟨q, 0, none⟩ = some (.slice (some ⟨cb, 0, none⟩) n 256)
  frozen : w.frozen? ⟨q, 0, none⟩ = false
  chunk : Chunk w cb n
  qcb : q ≠ cb
  qs : q ≠ s
  cbs : cb ≠ s

theorem Tr.fr {w w' : World} {s q cq cb n : Nat} {C : Array Value} {T : Nat → Prop} (h : Tr w s q cq cb n C) (f : Fr w w' T) (hq : ¬ T q) (hcb : ¬ T cb) : Tr w' s q cq cb n C :=
  ⟨h.list, (World.cell?_of_block (f.block q (World.block_lt_of_cell? _ _ h.cell) hq)).trans h.cell, (World.frozen?_of_block (w := w) (a := ⟨q, 0, none⟩) (f.block q (World.block_lt_of_cell? _ _ h.cell) hq)).trans h.frozen, h.chunk.fr f hcb, h.qcb, h.qs, h.cbs⟩

def KeptS (s q cq K E : Nat) (P G D : Int) (w' : World) : Prop :=
  w'.cell? ⟨s, 40, none⟩ = some (.slice (some ⟨q, 0, none⟩) 1 cq) ∧ w'.cell? ⟨q, 0, none⟩ = some (curV q w') ∧ w'.cell? ⟨E, 0, none⟩ = some (.int .i64 0) ∧ w'.cell? ⟨E, 1, none⟩ = some (.int .i32 P)
       ∧ w'.cell? ⟨E, 2, none⟩ = some (.int .i32 G) ∧ w'.cell? ⟨E, 3, none⟩ = some (.int .u8 K) ∧ w'.cell? ⟨E, 4, none⟩ = some (.int .i64 D) ∧ w'.frozen? ⟨q, 0, none⟩ = false

theorem encode_keep {W w2 : World} {s q cq cb K E n : Nat} {C : Array Value} {P G D : Int} (A2 : At w2 s 60 (encC C K P G D)) (F2 : Fr W.drew w2 (fun k => k = cb ∨ k = s)) (h61 : C.size = 61) (cl : C[40]? = some (.slice (some ⟨q, 0, none⟩) 1 cq))
    (hE : At W E 51 #[.int .i64 0, .int .i32 P, .int .i32 G, .int .u8 K, .int .i64 D]) (hEs : ¬ (E = cb ∨ E = s)) (hqT : ¬ (q = cb ∨ q = s)) (lq : q < W.heap.size) (q1 : W.cell? ⟨q, 0, none⟩ = some (.slice (some ⟨cb, 0, none⟩) n 256)) (fq1 : W.frozen? ⟨q, 0, none⟩ = false) :
    KeptS s q cq K E P G D w2 := by
  have E2 := hE.drew.fr F2 hEs
  exact ⟨A2.cell 40 ((encC_low C K P G D 40 (by omega)).trans cl), curV_of ((cell_fr F2 (o := 0) lq hqT).trans q1), E2.cell 0 rfl, E2.cell 1 rfl, E2.cell 2 rfl, E2.cell 3 rfl, E2.cell 4 rfl, (frozen_fr F2 (o := 0) lq hqT).trans fq1⟩

theorem store_keep {w2 : World} {s q cq K E : Nat} {P G D : Int} {v : Value} (h : KeptS s q cq K E P G D w2) (hqs : q ≠ s) (hqE : q ≠ E) : KeptS s q cq K E P G D (w2.setCell ⟨q, 0, none⟩ v) := by
  obtain ⟨h1, h2, h3, h4, h5, h6, h7, h8⟩ := h
  have o : ∀ b i, q ≠ b → (w2.setCell ⟨q, 0, none⟩ v).cell? ⟨b, i, none⟩ = w2.cell? ⟨b, i, none⟩ := fun b i hb => World.cell?_of_block (Below.heap_setCell _ _ _ _ (Ne.symm hb))
  refine ⟨(o _ _ hqs).trans h1, curV_of (World.cell?_setCell_same _ _ _ h2), (o _ _ hqE).trans h3, (o _ _ hqE).trans h4, (o _ _ hqE).trans h5, (o _ _ hqE).trans h6, (o _ _ hqE).trans h7, ?_⟩
  rw [World.frozen?_setCell]; exact h8

theorem tr_store {w2 : World} {s q cq cb n m K : Nat} {C : Array Value} {P G D : Int} (cl : C[40]? = some (.slice (some ⟨q, 0, none⟩) 1 cq)) (q2 : w2.cell? ⟨q, 0, none⟩ = some (.slice (some ⟨cb, 0, none⟩) n 256)) (fq2 : w2.frozen? ⟨q, 0, none⟩ = false) (C2 : Chunk w2 cb m)
    (hqT : ¬ (q = cb ∨ q = s)) (ncs : cb ≠ s) : Tr (w2.setCell ⟨q, 0, none⟩ (.slice (some ⟨cb, 0, none⟩) m 256)) s q cq cb m (encC C K P G D) :=
  ⟨(encC_low C K P G D 40 (by omega)).trans cl, World.cell?_setCell_same _ _ _ q2, by rw [World.frozen?_setCell]; exact fq2, C2.set (a := ⟨q, 0, none⟩) (fun e => hqT (.inl e)) _, fun e => hqT (.inl e), fun e => hqT (.inr e), ncs⟩

set_option maxRecDepth 100000 in
set_option maxHeartbeats 40000000 in
theorem add_next (s q cq cb n K : Nat) (C : Array Value) (P G G0 D : Int) (w : World) (hs : At w s 60 C) (ht : Tr w s q cq cb n C) (hn : n ≤ 100) (hK : K < 15) (h61 : C.size = 61)
    (c41 : C[41]? = some (.int .i64 0)) (c43 : C[43]? = some (.int .i32 G0)) (cK : C[46 + K]? = some (.int .i64 0)) (bP : 0 ≤ P ∧ P ≤ 1) (bG : G - G0 = -1 ∨ 0 ≤ G - G0 ∧ G - G0 ≤ 1) (bG1 : 0 ≤ G ∧ G ≤ 1) (bG0 : 0 ≤ G0 ∧ G0 ≤ 1) (bD : 0 ≤ D ∧ D < 8192) :
    Calls Ybaf.prog 24 #[.pointer (some ⟨s, 40, none⟩), .agg #[.int .i64 0, .int .i32 P, .int .i32 G, .int .u8 K, .int .i64 D]] w fun e w' =>
      e = .returned (.tuple #[]) ∧ ∃ m, m ≤ n + 9 ∧ At w' s 60 (encC C K P G D) ∧ Tr w' s q cq cb m (encC C K P G D) ∧ Fr w w' (fun k => k = cb ∨ k = s ∨ k = q) := by
  have cl := ht.list
  have y40 := hs.cell 40 cl
  have q0 := ht.cell
  have fq := ht.frozen
  have ls := hs.lt
  have lq : q < w.heap.size := World.block_lt_of_cell? _ _ q0
  have lc := ht.chunk.lt
  have nqs := ht.qs
  have nqc := ht.qcb
  have ncs := ht.cbs
  have HC : Hid (Chunk w cb n) := ht.chunk
  have HA : Hid (At w s 60 C) := hs
  have hlt : ¬ ((256 : Int) - n < 41) := by omega
  clear hs ht
  go_enter Ybaf.func24, Ybaf.ntmps24
  go_wp2_with fail
  go_quiet (fail)
  go_wp2_with fail
  obtain ⟨W, hW⟩ : ∃ W, W = (w.alloc (.cells #[.int .i64 0, .int .i32 P, .int .i32 G, .int .u8 K, .int .i64 D] 51)).drewN nq := ⟨_, rfl⟩
  rw [← hW]
  have E1 : At W w.heap.size 51 #[.int .i64 0, .int .i32 P, .int .i32 G, .int .u8 K, .int .i64 D] := by rw [hW]; exact (At.new _ _ _).drewN _
  have A1 : At W s 60 C := by rw [hW]; exact (HA.out.alloc _).drewN _
  have C1 : Chunk W cb n := by rw [hW]; exact (HC.out.alloc _).drewN _
  have F1 : Fr w W (fun k => k = cb ∨ k = s ∨ k = q) := by rw [hW]; exact ((Fr.refl _ _).alloc _).drewN _
  have F1b : Fr w W (fun k => w.heap.size ≤ k) := by rw [hW]; exact ((Fr.refl _ _).alloc _).drewN _
  have q1 : W.cell? ⟨q, 0, none⟩ = some (.slice (some ⟨cb, 0, none⟩) n 256) := (cell_fr F1b lq (by omega)).trans q0
  have fq1 : W.frozen? ⟨q, 0, none⟩ = false := (frozen_fr F1b lq (by omega)).trans fq
  have y1 : W.cell? ⟨s, 40, none⟩ = some (.slice (some ⟨q, 0, none⟩) 1 cq) := (cell_fr F1b ls (by omega)).trans y40
  have x0 := E1.cell 0 rfl
  have x1 := E1.cell 1 rfl
  have x2 := E1.cell 2 rfl
  have x3 := E1.cell 3 rfl
  have x4 := E1.cell 4 rfl
  have hEs : ¬ (w.heap.size = cb ∨ w.heap.size = s) := by omega
  have hqT : ¬ (q = cb ∨ q = s) := by omega
  have lW := F1.size
  have lE := E1.lt
  have H1 : Hid (Chunk W cb n) := C1
  have HA1 : Hid (At W s 60 C) := A1
  have HE1 : Hid (At W w.heap.size 51 #[.int .i64 0, .int .i32 P, .int .i32 G, .int .u8 K, .int .i64 D]) := E1
  have HF1 : Hid (Fr w W (fun k => k = cb ∨ k = s ∨ k = q)) := F1
  clear hW HC HA E1 A1 C1 F1 q0 fq y40
  have hw0 : IntKind.i64.wrap 0 = 0 := by decide
  have x0 : W.cell? ⟨w.heap.size, 0, none⟩ = some (.int .i64 0) := x0
  have x1 : W.cell? ⟨w.heap.size, 1, none⟩ = some (.int .i32 P) := x1
  have x2 : W.cell? ⟨w.heap.size, 2, none⟩ = some (.int .i32 G) := x2
  have x3 : W.cell? ⟨w.heap.size, 3, none⟩ = some (.int .u8 K) := x3
  have x4 : W.cell? ⟨w.heap.size, 4, none⟩ = some (.int .i64 D) := x4
  have HCL : Hid (C[40]? = some (.slice (some ⟨q, 0, none⟩) 1 cq)) := cl
  have HQ1 : Hid (W.cell? ⟨q, 0, none⟩ = some (.slice (some ⟨cb, 0, none⟩) n 256)) := q1
  have Hctr := hide_all (encode_any s cb n K C P G G0 D W.drew HA1.out.drew (by omega) H1.out.drew (Ne.symm ncs) hK h61 c41 c43 cK bP bG bG1 bG0 bD)
  have hEs' := hide_all hEs
  have hqT' := hide_all hqT
  clear cl hK c41 c43 cK bP bG bG1 bG0 bD hn F1b hlt lc nqc hEs hqT
  go_region_with ((go_at_call 32; go_must (refine Hctr.out.mono ?_; rintro e w2 ⟨m, hm1, hm2, rfl, C2, A2, F2⟩; have KK := encode_keep A2 F2 h61 HCL.out HE1.out hEs'.out hqT'.out (Nat.lt_of_lt_of_le lq lW) HQ1.out fq1; have y2 := KK.1; have q2 := (cell_fr F2 (o := 0) (Nat.lt_of_lt_of_le lq lW) hqT'.out).trans HQ1.out; have fq2 := KK.2.2.2.2.2.2.2; clear KK)))
  all_goals
    go_wp2
    go_end0
    exact ⟨rfl, m, hm2, (A2.set_other (a := ⟨q, 0, none⟩) nqs _), tr_store HCL.out q2 fq2 C2 (hqT'.out) ncs, ((HF1.out.drew.trans (F2.mono (fun k hk => by omega))).setCell (.inl (.inr (.inr rfl))) _)⟩
end Go.Proofs.YbulkcxmyFmt
