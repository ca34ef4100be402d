import Derived.Test.YbulkcxmyFmtVar
namespace Go.Proofs.YbulkcxmyFmt
open Go.ChangeShapes Go.WideShapes Go.ChangeAt Go.RowKit
set_option linter.unusedVariables false

/-- block s holds the cells C of a struct of type t -/
structure At (w : World) (s : Nat) (t : TypeId) (C : Array Value) : Prop where
  blk : w.heap[s]? = some (.cells C t)

theorem At.lt {w : World} {s : Nat} {t : TypeId} {C : Array Value} (h : At w s t C) : s < w.heap.size := (Array.getElem?_eq_some_iff.1 h.blk).1
theorem At.cell {w : World} {s : Nat} {t : TypeId} {C : Array Value} (h : At w s t C) (i : Nat) {v : Value} (hv : C[i]? = some v) : w.cell? ⟨s, i, none⟩ = some v := by
  rw [cell_of_row _ _ _ _ _ _ h.blk]; exact hv
theorem At.frozen {w : World} {s : Nat} {t : TypeId} {C : Array Value} (h : At w s t C) (i : Nat) : w.frozen? ⟨s, i, none⟩ = false := by
  simp [World.frozen?, h.blk]
theorem At.of_block {w w' : World} {s : Nat} {t : TypeId} {C : Array Value} (h : At w s t C) (hb : w'.heap[s]? = w.heap[s]?) : At w' s t C := ⟨hb.trans h.blk⟩
theorem At.grown {w w' : World} {s : Nat} {t : TypeId} {C : Array Value} {row : Option Nat} (h : At w s t C) (hg : w.grownBy w' row) (hne : some s ≠ row) : At w' s t C := h.of_block (hg.block s h.lt hne)
theorem At.alloc {w : World} {s : Nat} {t : TypeId} {C : Array Value} (h : At w s t C) (o : Obj) : At (w.alloc o) s t C := h.of_block (heap_alloc_old _ _ h.lt)
theorem At.drew {w : World} {s : Nat} {t : TypeId} {C : Array Value} (h : At w s t C) : At w.drew s t C := ⟨h.blk⟩
theorem At.drewN {w : World} {s : Nat} {t : TypeId} {C : Array Value} (h : At w s t C) (n : Nat) : At (w.drewN n) s t C := ⟨h.blk⟩
theorem At.new (w : World) (t : TypeId) (C : Array Value) : At (w.alloc (.cells C t)) w.heap.size t C := ⟨heap_alloc_new _ _⟩
theorem At.set {w : World} {s : Nat} {t : TypeId} {C : Array Value} (h : At w s t C) (i : Nat) (v : Value) : At (w.setCell ⟨s, i, none⟩ v) s t (C.setIfInBounds i v) := by
  refine ⟨?_⟩
  have := h.blk
  simp [World.setCell, Array.getElem?_modify, this]
theorem At.set_other {w : World} {s : Nat} {t : TypeId} {C : Array Value} (h : At w s t C) {a : Addr} (hne : a.block ≠ s) (v : Value) : At (w.setCell a v) s t C :=
  h.of_block (Below.heap_setCell _ _ _ _ (Ne.symm hne))

/-- what has turned from w to w': new blocks, and blocks of T -/
structure Fr (w w' : World) (T : Nat → Prop) : Prop where
  os : w'.os = w.os
  tape : w'.tape = w.tape
  output : w'.output = w.output
  size : w.heap.size ≤ w'.heap.size
  block : ∀ k, k < w.heap.size → ¬ T k → w'.heap[k]? = w.heap[k]?

theorem Fr.refl (w : World) (T : Nat → Prop) : Fr w w T := ⟨rfl, rfl, rfl, Nat.le_refl _, fun _ _ _ => rfl⟩
theorem Fr.trans {a b c : World} {T : Nat → Prop} (h : Fr a b T) (k : Fr b c T) : Fr a c T :=
  ⟨k.os.trans h.os, k.tape.trans h.tape, k.output.trans h.output, Nat.le_trans h.size k.size, fun i hi ht => (k.block i (Nat.lt_of_lt_of_le hi h.size) ht).trans (h.block i hi ht)⟩
theorem Fr.mono {a b : World} {T T' : Nat → Prop} (h : Fr a b T) (hT : ∀ k, T k → T' k) : Fr a b T' := ⟨h.os, h.tape, h.output, h.size, fun i hi ht => h.block i hi (fun x => ht (hT i x))⟩
/-- blocks that are new since a may be turned too -/
theorem Fr.later {a b c : World} {T T' : Nat → Prop} (h : Fr a b T) (k : Fr b c T') (hT : ∀ i, i < a.heap.size → T' i → T i) : Fr a c T :=
  ⟨k.os.trans h.os, k.tape.trans h.tape, k.output.trans h.output, Nat.le_trans h.size k.size, fun i hi ht => (k.block i (Nat.lt_of_lt_of_le hi h.size) (fun x => ht (hT i hi x))).trans (h.block i hi ht)⟩
theorem Fr.drew {a b : World} {T : Nat → Prop} (h : Fr a b T) : Fr a b.drew T := ⟨h.os, h.tape, h.output, h.size, h.block⟩
theorem Fr.drewN {a b : World} {T : Nat → Prop} (h : Fr a b T) (n : Nat) : Fr a (b.drewN n) T := ⟨h.os, h.tape, h.output, h.size, h.block⟩
theorem Fr.alloc {a b : World} {T : Nat → Prop} (h : Fr a b T) (o : Obj) : Fr a (b.alloc o) T :=
  ⟨h.os, h.tape, h.output, by simp; have := h.size; omega, fun i hi ht => (heap_alloc_old _ _ (Nat.lt_of_lt_of_le hi h.size)).trans (h.block i hi ht)⟩
theorem Fr.setCell {a b : World} {T : Nat → Prop} (h : Fr a b T) {p : Addr} (hp : T p.block ∨ a.heap.size ≤ p.block) (v : Value) : Fr a (b.setCell p v) T :=
  ⟨h.os, h.tape, h.output, by simpa using h.size, fun i hi ht => (Below.heap_setCell _ _ _ _ (fun e => by subst e; rcases hp with hp | hp; exact ht hp; omega)).trans (h.block i hi ht)⟩
theorem Fr.of_grown {a b : World} {T : Nat → Prop} {row : Option Nat} (h : a.grownBy b row) (hT : ∀ k, row = some k → T k) : Fr a b T :=
  ⟨h.os, h.tape, h.output, h.size, fun i hi ht => h.block i hi (fun e => ht (hT i e.symm))⟩
theorem Fr.below {a b : World} {T : Nat → Prop} (h : Fr a b T) (N : Nat) (hN : N ≤ a.heap.size) (hT : ∀ k, T k → N ≤ k) : Below N a b :=
  ⟨h.os, h.tape, h.output, h.size, fun i hi => h.block i (by omega) (fun x => by have := hT i x; omega)⟩
theorem At.fr {w w' : World} {s : Nat} {t : TypeId} {C : Array Value} {T : Nat → Prop} (h : At w s t C) (f : Fr w w' T) (hs : ¬ T s) : At w' s t C := h.of_block (f.block s h.lt hs)
theorem Chunk.of_block {w w' : World} {cb n : Nat} (h : Chunk w cb n) (hb : w'.heap[cb]? = w.heap[cb]?) : Chunk w' cb n := by
  obtain ⟨xs, h1, h2⟩ := h
  rcases h2 with ⟨h2, _⟩ | ⟨g, cap, cur, hv, hbase, hg, rest⟩
  · cases h2
  · refine ⟨xs, h1, .inr ⟨g, cap, cur, hv, hbase, ?_, rest⟩⟩
    cases hv
    rw [hb]; exact hg

theorem Chunk.set {w : World} {cb n : Nat} (h : Chunk w cb n) {a : Addr} (ha : a.block ≠ cb) (v : Value) : Chunk (w.setCell a v) cb n := h.of_block (Below.heap_setCell _ _ _ _ (Ne.symm ha))
theorem Chunk.drew {w : World} {cb n : Nat} (h : Chunk w cb n) : Chunk w.drew cb n := h.of_block rfl
theorem Chunk.drewN {w : World} {cb n : Nat} (h : Chunk w cb n) (m : Nat) : Chunk (w.drewN m) cb n := h.of_block rfl
theorem Chunk.lt {w : World} {cb n : Nat} (h : Chunk w cb n) : cb < w.heap.size := by
  obtain ⟨xs, h⟩ := h
  exact (h.lt cb rfl).2
theorem Chunk.alloc {w : World} {cb n : Nat} (h : Chunk w cb n) (o : Obj) : Chunk (w.alloc o) cb n := h.of_block (heap_alloc_old _ _ h.lt)
theorem Chunk.fr {w w' : World} {cb n : Nat} {T : Nat → Prop} (h : Chunk w cb n) (f : Fr w w' T) (hs : ¬ T cb) : Chunk w' cb n := h.of_block (f.block cb h.lt hs)

/-- the sim's cells behind an entry's encoding -/
def encC (C : Array Value) (K : Nat) (P G D : Int) : Array Value :=
  (((((C.setIfInBounds 41 (.int .i64 0)).setIfInBounds 42 (.int .i32 P)).setIfInBounds 43 (.int .i32 G)).setIfInBounds 44 (.int .u8 K)).setIfInBounds 45 (.int .i64 D)).setIfInBounds (46 + K) (.int .i64 D)
theorem encC_size (C : Array Value) (K : Nat) (P G D : Int) : (encC C K P G D).size = C.size := by simp [encC]
theorem encC_low (C : Array Value) (K : Nat) (P G D : Int) (i : Nat) (hi : i < 41) : (encC C K P G D)[i]? = C[i]? := by
  simp only [encC, Array.getElem?_setIfInBounds]
  repeat (rw [if_neg (by omega)])
theorem encC_41 (C : Array Value) (K : Nat) (P G D : Int) (h : C.size = 61) : (encC C K P G D)[41]? = some (.int .i64 0) := by
  simp only [encC, Array.getElem?_setIfInBounds]
  simp [h]
  omega
theorem encC_43 (C : Array Value) (K : Nat) (P G D : Int) (h : C.size = 61) : (encC C K P G D)[43]? = some (.int .i32 G) := by
  simp only [encC, Array.getElem?_setIfInBounds]
  simp [h]
  omega
theorem encC_det (C : Array Value) (K : Nat) (P G D : Int) (j : Nat) (hj : j ≠ K) : (encC C K P G D)[46 + j]? = C[46 + j]? := by
  simp only [encC, Array.getElem?_setIfInBounds]
  repeat (rw [if_neg (by omega)])

theorem undrew {w w' : World} {row : Option Nat} (h : w.drew.grownBy w' row) : w.grownBy w' row := ⟨h.os, h.tape, h.output, h.size, h.block⟩

theorem var_any (cb n : Nat) (x : Int) (w : World) (h : x = -1 ∨ 0 ≤ x ∧ x < 8192) (hn : n + 2 ≤ 256) (hc : Chunk w cb n) :
    Calls Ybaf.prog 41 #[.slice (some ⟨cb, 0, none⟩) n 256, .int .i64 x] w fun e w' => ∃ m, n < m ∧ m ≤ n + 2 ∧ e = .returned (.slice (some ⟨cb, 0, none⟩) m 256) ∧ Chunk w' cb m ∧ w.grownBy w' (some cb) := by
  rcases h with rfl | ⟨h0, h1⟩
  · exact var_neg1 cb n w hn hc
  · exact var_nonneg cb n x w h0 h1 hn hc

theorem wrap_small (x : Int) (h : -1 ≤ x ∧ x < 8192) : IntKind.i64.wrap x = x ∧ IntKind.i32.wrap x = x := by
  constructor
  · simp only [IntKind.wrap, IntKind.bits, IntKind.signed]
    simp
    omega
  · simp only [IntKind.wrap, IntKind.bits, IntKind.signed]
    simp
    omega

set_option maxRecDepth 100000 in
set_option maxHeartbeats 2000000 in
theorem encode_any (s cb n K : Nat) (C : Array Value) (P G G0 D : Int) (w : World) (hs : At w s 60 C) (hn : n + 9 ≤ 256) (hc : Chunk w cb n) (hsc : s ≠ cb) (hK : K < 15) (h61 : C.size = 61)
    (c41 : C[41]? = some (.int .i64 0)) (c43 : C[43]? = some (.int .i32 G0)) (cK : C[46 + K]? = some (.int .i64 0)) (bP : 0 ≤ P ∧ P ≤ 1) (bG : G - G0 = -1 ∨ 0 ≤ G - G0 ∧ G - G0 ≤ 1) (bG1 : 0 ≤ G ∧ G ≤ 1) (bG0 : 0 ≤ G0 ∧ G0 ≤ 1) (bD : 0 ≤ D ∧ D < 8192) :
    Calls Ybaf.prog 32 #[.pointer (some ⟨s, 41, none⟩), .slice (some ⟨cb, 0, none⟩) n 256, .agg #[.int .i64 0, .int .i32 P, .int .i32 G, .int .u8 K, .int .i64 D]] w fun e w' =>
      ∃ m, n < m ∧ m ≤ n + 9 ∧ e = .returned (.slice (some ⟨cb, 0, none⟩) m 256) ∧ Chunk w' cb m ∧ At w' s 60 (encC C K P G D) ∧ Fr w w' (fun k => k = cb ∨ k = s) := by
  obtain ⟨i0, hi, hz0, hz1, hz2⟩ := info_parts Ybaf.info5
  obtain ⟨xs, hown⟩ := hc
  have hcb := (hown.lt cb rfl).2
  have HG : Hid (IntKind.i64.wrap (IntKind.i32.wrap (G - G0)) = -1 ∨ 0 ≤ IntKind.i64.wrap (IntKind.i32.wrap (G - G0)) ∧ IntKind.i64.wrap (IntKind.i32.wrap (G - G0)) < 8192) := by
    show _ ∨ _
    rw [(wrap_small (G - G0) (by omega)).2, (wrap_small (G - G0) (by omega)).1]
    omega
  have HD : Hid (IntKind.i64.wrap D = -1 ∨ 0 ≤ IntKind.i64.wrap D ∧ IntKind.i64.wrap D < 8192) := by
    show _ ∨ _
    rw [(wrap_small D (by omega)).1]
    omega
  go_enter Ybaf.func32, Ybaf.ntmps32
  go_wp2_with (at_builtin; go_must (refine wpList_append_fits _ rfl (.tmp 7) (.tmp 10) 105 rfl cb 5 i0 1 Ybaf.underlying105 hi hz1 cb n 256 _ rfl ((hown.alloc _).alloc _) ⟨w.heap.size + 1, 0, none⟩ 1 1 [.int .u8 K] rfl rfl ?c1 ?c2 ?c3 ?_))
  case c1 => intro j u hj; exact (by simpa using cell_one_new (w.alloc (.cells #[.int .i64 0, .int .i32 P, .int .i32 G, .int .u8 K, .int .i64 D] 51)) (.int .u8 K) 5 j u hj)
  case c2 => simp [Value.oneCell']
  case c3 => omega
  intro w1 hown1 hgrow1
  have hEc : w.heap.size ≠ cb := by omega
  have hneE : (some w.heap.size : Option Nat) ≠ some cb := fun e => hEc (Option.some.inj e)
  have hneS : (some s : Option Nat) ≠ some cb := fun e => hsc (Option.some.inj e)
  have A1 : At w1 s 60 C := ((hs.alloc _).alloc _).grown hgrow1 hneS
  have E1 : At w1 w.heap.size 51 #[.int .i64 0, .int .i32 P, .int .i32 G, .int .u8 K, .int .i64 D] := ((At.new w 51 _).alloc _).grown hgrow1 hneE
  have g1 : w.grownBy w1 (some cb) := ((World.grownBy_alloc _ _ _).trans (World.grownBy_alloc _ _ _)).trans hgrow1
  have H1 : Hid (Chunk w1 cb (n + 1)) := ⟨_, hown1⟩
  have x0 := E1.cell 0 rfl
  have y0 := A1.cell 41 c41
  clear hown hown1 hgrow1
  go_wp2_with fail
  go_region_held3 (fun w' => w'.cell? ⟨w.heap.size, 0, none⟩ = some (.int .i64 0) ∧ w'.cell? ⟨s, 41, none⟩ = some (.int .i64 0))
    (first
      | go_keep
      | (go_split_ands
         refine ⟨?_, ?_⟩
         · (rw [hg2.cell_far _ (by first | exact E1.lt | exact A1.lt) (by assumption)]; assumption)
         · (rw [hg2.cell_far _ (by first | exact E1.lt | exact A1.lt) (by assumption)]; assumption)))
    ((go_at_call 40; refine (uvar_any cb (n + 1) 0 _ (by omega) (by omega) (by omega) ?_).mono ?_; (exact H1.out); rintro e w2 ⟨m2, hm1, hm2, rfl, hc2, hg2⟩))
  have A2 : At w2 s 60 C := A1.drew.grown hg2 hneS
  have E2 : At w2 w.heap.size 51 #[.int .i64 0, .int .i32 P, .int .i32 G, .int .u8 K, .int .i64 D] := E1.drew.grown hg2 hneE
  have g2 : w.grownBy w2 (some cb) := g1.trans (undrew hg2)
  have H2 : Hid (Chunk w2 cb m2) := hc2
  have x1 := E2.cell 1 rfl
  clear hc2 hg2 A1 E1 g1 H1 x0 y0
  go_wp2_with fail
  refine (var_nonneg cb m2 P w2 bP.1 (by omega) (by omega) H2.out).mono ?_
  rintro e w3 ⟨m3, hm3, hm3', rfl, hc3, hg3⟩
  have A3 : At w3 s 60 C := A2.grown hg3 hneS
  have E3 : At w3 w.heap.size 51 #[.int .i64 0, .int .i32 P, .int .i32 G, .int .u8 K, .int .i64 D] := E2.grown hg3 hneE
  have g3 : w.grownBy w3 (some cb) := g2.trans hg3
  have H3 : Hid (Chunk w3 cb m3) := hc3
  have x2 := E3.cell 2 rfl
  have y2 := A3.cell 43 c43
  clear hc3 hg3 A2 E2 g2 H2 x1
  go_wp2_with fail
  go_region_held3 (fun w' => w'.cell? ⟨w.heap.size, 2, none⟩ = some (.int .i32 G) ∧ w'.cell? ⟨s, 43, none⟩ = some (.int .i32 G0))
    (first
      | go_keep
      | (go_split_ands
         refine ⟨?_, ?_⟩
         · (rw [hg2.cell_far _ (by first | exact E3.lt | exact A3.lt) (by assumption)]; assumption)
         · (rw [hg2.cell_far _ (by first | exact E3.lt | exact A3.lt) (by assumption)]; assumption)))
    ((go_at_call 41; refine (var_any cb m3 _ _ HG.out (by omega) ?_).mono ?_; (exact H3.out); rintro e w4 ⟨m4, hm4, hm4', rfl, hc4, hg2⟩))
  have A4 : At w4 s 60 C := A3.drew.grown hg2 hneS
  have E4 : At w4 w.heap.size 51 #[.int .i64 0, .int .i32 P, .int .i32 G, .int .u8 K, .int .i64 D] := E3.drew.grown hg2 hneE
  have g4 : w.grownBy w4 (some cb) := g3.trans (undrew hg2)
  have H4 : Hid (Chunk w4 cb m4) := hc4
  have x3 := E4.cell 3 rfl
  have x4 := E4.cell 4 rfl
  have yK := A4.cell (46 + K) cK
  clear hc4 hg2 A3 E3 g3 H3 x2 y2
  have hK0 : (0 : Int) ≤ (K : Int) := Int.natCast_nonneg _
  have hK1 : (K : Int) < 15 := by omega
  go_wp2_with fail
  go_region_held3 (fun w' => w'.cell? ⟨w.heap.size, 3, none⟩ = some (.int .u8 K) ∧ w'.cell? ⟨w.heap.size, 4, none⟩ = some (.int .i64 D) ∧ w'.cell? ⟨s, 46 + K, none⟩ = some (.int .i64 0))
    (first
      | go_keep
      | (go_split_ands
         refine ⟨?_, ?_, ?_⟩
         · (rw [hg2.cell_far _ (by first | exact E4.lt | exact A4.lt) (by assumption)]; assumption)
         · (rw [hg2.cell_far _ (by first | exact E4.lt | exact A4.lt) (by assumption)]; assumption)
         · (rw [hg2.cell_far _ (by first | exact E4.lt | exact A4.lt) (by assumption)]; assumption)))
    ((go_at_call 41; refine (var_any cb m4 _ _ HD.out (by omega) ?_).mono ?_; (exact H4.out); rintro e w5 ⟨m5, hm5, hm5', rfl, hc5, hg2⟩))
  have A5 : At w5 s 60 C := A4.drew.grown hg2 hneS
  have E5 : At w5 w.heap.size 51 #[.int .i64 0, .int .i32 P, .int .i32 G, .int .u8 K, .int .i64 D] := E4.drew.grown hg2 hneE
  have g5 : w.grownBy w5 (some cb) := g4.trans (undrew hg2)
  have H5 : Hid (Chunk w5 cb m5) := hc5
  clear hc5 hg2 A4 E4 g4 H4 x3 x4 yK
  have x0 := E5.cell 0 rfl
  have x1 := E5.cell 1 rfl
  have x2 := E5.cell 2 rfl
  have x3 := E5.cell 3 rfl
  have x4 := E5.cell 4 rfl
  have y41 := A5.cell 41 c41
  have y42 := A5.cell 42 (Array.getElem?_eq_getElem (by omega))
  have y43 := A5.cell 43 c43
  have y44 := A5.cell 44 (Array.getElem?_eq_getElem (by omega))
  have y45 := A5.cell 45 (Array.getElem?_eq_getElem (by omega))
  have yK := A5.cell (46 + K) cK
  have f41 := A5.frozen 41
  have f42 := A5.frozen 42
  have f43 := A5.frozen 43
  have f44 := A5.frozen 44
  have f45 := A5.frozen 45
  have fK := A5.frozen (46 + K)
  have hsE : w.heap.size ≠ s := by have := hs.lt; omega
  have hE5 := E5.lt
  have hS5 := A5.lt
  generalize C[42] = z42 at y42
  generalize C[44] = z44 at y44
  generalize C[45] = z45 at y45
  have HA : Hid (At w5 s 60 C) := A5
  have HGR : Hid (w.grownBy w5 (some cb)) := g5
  clear A5 E5 g5 HG HD hs c41 c43 cK
  go_wp2_with fail
  go_region
  go_wp2
  go_ret
  refine ⟨m5, by omega, by omega, rfl, ?_, ?_, ?_⟩
  · exact ((((((H5.out.set (a := ⟨s, 41, none⟩) hsc _).set (a := ⟨s, 42, none⟩) hsc _).set (a := ⟨s, 43, none⟩) hsc _).set (a := ⟨s, 44, none⟩) hsc _).set (a := ⟨s, 45, none⟩) hsc _).set (a := ⟨s, 46 + K, none⟩) hsc _).drew
  · exact ((((((HA.out.set 41 _).set 42 _).set 43 _).set 44 _).set 45 _).set (46 + K) _).drew
  · exact (((((((Fr.of_grown HGR.out (fun k h => .inl (Option.some.inj h).symm)).setCell (.inl (.inr rfl)) _).setCell (.inl (.inr rfl)) _).setCell (.inl (.inr rfl)) _).setCell (.inl (.inr rfl)) _).setCell (.inl (.inr rfl)) _).setCell (.inl (.inr rfl)) _).drew
end Go.Proofs.YbulkcxmyFmt
