import Derived.Test.YbulkcxmkMine
import Derived.MapKept
import Derived.Deep.AppendLies
namespace Go.Proofs.Ybulkcxmk
open Go.ChangeShapes Go.WideShapes Go.ChangeAt Go.RowKit
open Go.ChangeMaps (setBlock)

/-- entry j of the map of transactions: the key j + 1 leads to block N + 2 + j -/
def ent (N j : Nat) : MapEntry := ⟨.int .i64 ((j : Int) + 1), .pointer (some ⟨N + 2 + j, 0, none⟩), j⟩
def ents (N k : Nat) : Array MapEntry := ((List.range k).map (ent N)).toArray

theorem ents_push (N k : Nat) : (ents N k).push (ent N k) = ents N (k + 1) := by
  simp [ents, List.range_succ]

theorem findNow_ents (N k : Nat) (x : Int) (hx : (k : Int) < x) : Instr.findNow (.int .i64) (.int .i64 x) (ents N k).toList 0 = some none := by
  have key : ∀ (l : List Nat) (i : Nat), (∀ j ∈ l, j < k) → Instr.findNow (.int .i64) (.int .i64 x) (l.map (ent N)) i = some none := by
    intro l
    induction l with
    | nil => intro i _; rfl
    | cons j l ih =>
      intro i h
      have hj := h j (by simp)
      have hne : (x == (j : Int) + 1) = false := beq_eq_false_iff_ne.2 (by omega)
      simp only [List.map_cons, Instr.findNow, ent, Instr.sameNow, if_true, hne]
      exact ih (i + 1) (fun j' hj' => h j' (by simp [hj']))
  exact key (List.range k) 0 (fun j hj => List.mem_range.1 hj)

theorem map_put (W : World) (B N k : Nat) (hb : W.heap[B]? = some (.map (ents N k) k)) (x : Int) (hx : x = (k : Int) + 1) (g : Nat) (hg : g = N + 2 + k) :
    (Instr.mapUpdate 24 (.map (some B)) (.int .i64 x) (.pointer (some ⟨g, 0, none⟩))).run Yba.prog W = .ok () (setBlock W B (.map (ents N (k + 1)) (k + 1))) := by
  subst hx hg
  have hf := findNow_ents N k ((k : Int) + 1) (by omega)
  have hk : MapKept.IsKey (.int .i64) (.int .i64 ((k : Int) + 1)) := by simp [MapKept.IsKey]
  have hc : (Instr.checkKey false 10000 3 (.int .i64 ((k : Int) + 1))).run Yba.prog W = .ok () W := MapKept.run_checkKey Yba.underlying3 hk false 9999
  simp [Instr.mapUpdate, run_underlying Yba.underlying24, MapKept.run_getObj_map hb, hc, MapKept.run_findKey Yba.underlying3 hf, MapKept.run_setObj_map _ hb, Result.andThen]
  rw [← ents_push]
  rfl

theorem map_get (W : World) (B N : Nat) (hb : W.heap[B]? = some (.map (ents N 4) 4)) (t : Nat) (ht : t < 4) (x : Int) (hx : x = (t : Int) + 1) :
    (Instr.lookup 24 (.map (some B)) (.int .i64 x) false).run Yba.prog W = .ok (.pointer (some ⟨N + 2 + t, 0, none⟩)) W := by
  subst hx
  have hk : MapKept.IsKey (.int .i64) (.int .i64 ((t : Int) + 1)) := by simp [MapKept.IsKey]
  have hc : (Instr.checkKey false 10000 3 (.int .i64 ((t : Int) + 1))).run Yba.prog W = .ok () W := MapKept.run_checkKey Yba.underlying3 hk false 9999
  have hf : Instr.findNow (.int .i64) (.int .i64 ((t : Int) + 1)) (ents N 4).toList 0 = some (some (t, .pointer (some ⟨N + 2 + t, 0, none⟩))) := by
    have h4 : t = 0 ∨ t = 1 ∨ t = 2 ∨ t = 3 := by omega
    rcases h4 with rfl | rfl | rfl | rfl <;> simp [ents, ent, Instr.findNow, Instr.sameNow, List.range, List.range.loop]
  have he : (ents N 4).isEmpty = false := rfl
  simp [Instr.lookup, run_underlying Yba.underlying24, MapKept.run_getObj_map hb, he, hc, MapKept.run_findKey Yba.underlying3 hf, Result.andThen]

/-- one transaction's block -/
def txn (s : Int) : Obj := .cells #[.string (stName s), .int .i64 0, .int .i64 0, .slice none 0 0] 30

/-- what stands behind k rounds of the first loop -/
structure L1 (w wr : World) (S : List Int) (k : Nat) : Prop where
  size : wr.heap.size = w.heap.size + 2 + k
  below : Below w.heap.size w wr
  st : wr.heap[w.heap.size]? = some (.cells (S.map (Value.int .u8)).toArray 23)
  mp : wr.heap[w.heap.size + 1]? = some (.map (ents w.heap.size k) k)
  tx : ∀ j, j < k → wr.heap[w.heap.size + 2 + j]? = some (txn (S.getD j 0))

theorem L1.start (w : World) (S : List Int) : L1 w ((w.alloc (.cells (S.map (Value.int .u8)).toArray 23)).alloc (.map #[] 0)) S 0 where
  size := by simp
  below := ((Below.refl _ _).alloc (Nat.le_refl _) _).alloc (by simp) _
  st := by
    rw [heap_alloc_old _ _ (by simp)]
    exact heap_alloc_new _ _
  mp := by
    have := heap_alloc_new (w.alloc (.cells (S.map (Value.int .u8)).toArray 23)) (.map #[] 0)
    simpa [ents] using this
  tx := fun j hj => by omega

theorem L1.step {w wr : World} {S : List Int} {k : Nat} (h : L1 w wr S k) :
    L1 w (setBlock (wr.alloc (txn (S.getD k 0))) (w.heap.size + 1) (.map (ents w.heap.size (k + 1)) (k + 1))) S (k + 1) := by
  have hs := h.size
  have hz : (wr.alloc (txn (S.getD k 0))).heap.size = wr.heap.size + 1 := by simp
  have hne : ∀ i, i ≠ w.heap.size + 1 → (setBlock (wr.alloc (txn (S.getD k 0))) (w.heap.size + 1) (.map (ents w.heap.size (k + 1)) (k + 1))).heap[i]? = (wr.alloc (txn (S.getD k 0))).heap[i]? := by
    intro i hi
    simp only [setBlock, Array.getElem?_setIfInBounds]
    rw [if_neg (by omega)]
  refine ⟨?_, ⟨h.below.os, h.below.tape, h.below.output, ?_, ?_⟩, ?_, ?_, ?_⟩
  · simp [setBlock, hs]; omega
  · simp [setBlock, hs]; omega
  · intro i hi
    rw [hne i (by omega), heap_alloc_old _ _ (by omega)]
    exact h.below.block i hi
  · rw [hne _ (by omega), heap_alloc_old _ _ (by omega)]
    exact h.st
  · simp only [setBlock, Array.getElem?_setIfInBounds]
    rw [if_pos trivial, if_pos (by omega)]
  · intro j hj
    rw [hne _ (by omega)]
    by_cases hjk : j = k
    · subst hjk
      rw [show w.heap.size + 2 + j = wr.heap.size by omega]
      exact heap_alloc_new _ _
    · rw [heap_alloc_old _ _ (by omega)]
      exact h.tx j (by omega)

def evCells (kf tf : Nat → Int) (gf : Nat → ByteArray) (i : Nat) : List Value :=
  [.string (kdName (kf i)), .int .i64 (tf i % 4 + 1), .int .i64 (IntKind.i64.wrap ((i : Int) + 1)), .string ⟨#[]⟩, .int .i64 i, .string (gf i), .string ⟨#[]⟩, .slice none 0 0, .string ⟨#[]⟩, .slice none 0 0]
def evRow (kf tf : Nat → Int) (gf : Nat → ByteArray) (n : Nat) : List Value := (List.range n).flatMap (evCells kf tf gf)

theorem evRow_succ (kf tf : Nat → Int) (gf : Nat → ByteArray) (n : Nat) : evRow kf tf gf (n + 1) = evRow kf tf gf n ++ evCells kf tf gf n := by
  simp [evRow, List.range_succ]

theorem evRow_get (kf tf : Nat → Int) (gf : Nat → ByteArray) : ∀ (n i j : Nat) (v : Value), i < n → (evCells kf tf gf i)[j]? = some v → (evRow kf tf gf n)[i * 10 + j]? = some v := by
  have hlen : ∀ n, (evRow kf tf gf n).length = n * 10 := by
    intro n
    induction n with
    | zero => rfl
    | succ n ih => rw [evRow_succ, List.length_append, ih]; simp [evCells]; omega
  intro n
  induction n with
  | zero => intro i j v h; omega
  | succ n ih =>
    intro i j v h hj
    have hj10 : j < 10 := (List.getElem?_eq_some_iff.1 hj).1
    rw [evRow_succ]
    by_cases hi : i = n
    · subst hi
      rw [List.getElem?_append_right (by rw [hlen]; omega), hlen]
      rw [show i * 10 + j - i * 10 = j by omega]
      exact hj
    · rw [List.getElem?_append_left (by rw [hlen]; omega)]
      exact ih i j v (by omega) hj

theorem st_cell {w wr : World} {S : List Int} {k : Nat} (h : wr.heap[w.heap.size]? = some (.cells (S.map (Value.int .u8)).toArray 23)) (hk : k < S.length) : wr.cell? ⟨w.heap.size, k, none⟩ = some (.int .u8 (S.getD k 0)) := by
  rw [cell_of_row _ _ _ _ _ _ h]
  simp [List.getD, hk]

theorem bd_getD {S : List Int} (hS : ∀ x ∈ S, 0 ≤ x ∧ x ≤ 255) (k : Nat) : 0 ≤ S.getD k 0 ∧ S.getD k 0 ≤ 255 := by
  rw [List.getD]
  cases h : S[k]? with
  | none => simp
  | some x => exact hS x (List.mem_of_getElem? h)

end Go.Proofs.Ybulkcxmk
