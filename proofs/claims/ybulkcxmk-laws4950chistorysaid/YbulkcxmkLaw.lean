import Derived.Test.YbulkcxmkHist
import Derived.Deep.RegionHeld3
import Derived.Deep.AppendLies
import Derived.BigQuiet
import Derived.Deep.QuietTactic
namespace Go.Proofs.Ybulkcxmk
open Go.ChangeShapes Go.WideShapes Go.ChangeAt Go.RowKit
open Go.ChangeMaps (setBlock)

theorem Yba.info42 : (Yba.prog.info? 42).map (fun i => (i.zero, i.size, i.bytes)) = some (some (.agg #[.string ByteArray.empty, .int .i64 0, .int .i64 0, .string ByteArray.empty, .int .i64 0, .string ByteArray.empty, .string ByteArray.empty, .slice none 0 0, .string ByteArray.empty, .slice none 0 0]), 10, 152) := by kernel_rfl

def ixRow (l : List Nat) : List Value := l.map fun (i : Nat) => Value.int .i64 (i : Int)

theorem pick_of {kf tf : Nat → Int} {S : List Int} {k tn : Nat} {s : Int} (h1 : tf k % 4 = (tn : Int)) (h2 : s = S.getD tn 0) (h3 : kf k % 8 = 0) (h4 : s % 4 = 2) : pickB kf tf S k = true := by
  have e : (tf k % 4).toNat = tn := by omega
  rw [pickB, e, ← h2, h3, h4]; rfl
theorem pick_not {kf tf : Nat → Int} {S : List Int} {k tn : Nat} {s : Int} (h1 : tf k % 4 = (tn : Int)) (h2 : s = S.getD tn 0) (h3 : ¬ kf k % 8 = 0 ∨ ¬ s % 4 = 2) : pickB kf tf S k = false := by
  have e : (tf k % 4).toNat = tn := by omega
  rw [pickB, e, ← h2]
  rcases h3 with h | h <;> simp [h]

theorem opRow_get (gf : Nat → ByteArray) : ∀ (l : List Nat) (j r x : Nat) (v : Value), l[j]? = some x → (opCells gf x)[r]? = some v → (opRow gf l)[j * 4 + r]? = some v
  | [], j, r, x, v, h, _ => by simp at h
  | y :: l, 0, r, x, v, h, hr => by
    simp at h
    subst h
    have hr4 : r < 4 := (List.getElem?_eq_some_iff.1 hr).1
    rw [show opRow gf (y :: l) = opCells gf y ++ opRow gf l by simp [opRow]]
    rw [List.getElem?_append_left (by simp [opCells]; omega)]
    simpa using hr
  | y :: l, j + 1, r, x, v, h, hr => by
    rw [show opRow gf (y :: l) = opCells gf y ++ opRow gf l by simp [opRow]]
    have h4 : (opCells gf y).length = 4 := rfl
    rw [List.getElem?_append_right (by rw [h4]; omega), h4, show (j + 1) * 4 + r - 4 = j * 4 + r by omega]
    exact opRow_get gf l j r x v (by simpa using h) hr

theorem v_form {w : World} {base e size : Nat} {v : Value} {m : Nat} {xs : List Value} (h : w.ownsRow base e size v m xs) (h0 : m = 0 → v = .slice none 0 0) :
    ∃ (av : Option Addr) (cv gv : Nat), v = .slice av m cv ∧ av.isNone = ((m : Int) == 0) ∧ (0 < m → av = some ⟨gv, 0, none⟩ ∧ base ≤ gv ∧ gv < w.heap.size) := by
  by_cases hm : m = 0
  · subst hm
    exact ⟨none, 0, 0, h0 rfl, rfl, fun h => by omega⟩
  · obtain ⟨g, cap, hv, hb, hg⟩ := h.form (by omega)
    refine ⟨some ⟨g, 0, none⟩, cap, g, hv, ?_, fun _ => ⟨rfl, hb, hg⟩⟩
    symm
    exact beq_eq_false_iff_ne.2 (by omega)

theorem Yba.info3 : (Yba.prog.info? 3).map (fun i => (i.zero, i.size, i.bytes)) = some (some (.int .i64 0), 1, 8) := by kernel_rfl

set_option maxRecDepth 100000 in
set_option maxHeartbeats 2000000 in
theorem law_walk (a : Option Addr) (b off len cap : Nat) (kf tf : Nat → Int) (gf : Nat → ByteArray) (s0 s1 s2 s3 : Int) (w : World) (hl : len ≤ 1024)
    (ha : 0 < len → a = some ⟨b, off, none⟩)
    (hkc : ∀ i, i < len → w.cell? ⟨b, off + i * 3, none⟩ = some (.int .u8 (kf i))) (htc : ∀ i, i < len → w.cell? ⟨b, off + i * 3 + 1, none⟩ = some (.int .u8 (tf i))) (hgc : ∀ i, i < len → w.cell? ⟨b, off + i * 3 + 2, none⟩ = some (.string (gf i)))
    (hkb : ∀ i, i < len → 0 ≤ kf i ∧ kf i ≤ 255) (htb : ∀ i, i < len → 0 ≤ tf i ∧ tf i ≤ 255) (hS : ∀ x ∈ [s0, s1, s2, s3], 0 ≤ x ∧ x ≤ 255) :
    Calls Yba.prog 3 #[.slice a len cap, .agg #[.int .u8 s0, .int .u8 s1, .int .u8 s2, .int .u8 s3]] w fun e w' => e = .returned (.bool true) ∧ Below w.heap.size w w' := by
  have hmm := @run_makeMap Yba.prog
  obtain ⟨i0, hi, hz0, hz1, hz2⟩ := info_parts Yba.info42
  go_enter Yba.func3, Yba.ntmps3
  go_wp2
  clear hmm
  go_loopw [6] (fun i wr => ∃ k : Nat, k ≤ 4 ∧ i = .int .i64 k ∧ L1 w wr [s0, s1, s2, s3] k) (fun i _ => 4 - (intOf i).toNat)
  case atStart => exact ⟨0, by omega, rfl, L1.start w [s0, s1, s2, s3]⟩
  case round =>
    obtain ⟨k, hk, rfl, h1⟩ := hrel
    by_cases hk4 : k < 4
    · have hc := st_cell h1.st hk4
      have hb := bd_getD hS k
      obtain ⟨s, hs⟩ : ∃ s, s = ([s0, s1, s2, s3] : List Int).getD k 0 := ⟨_, rfl⟩
      rw [← hs] at hc hb
      have hst := h1.step
      rw [← hs] at hst
      have hup := map_put (wr.alloc (txn s)) (w.heap.size + 1) w.heap.size k (by rw [heap_alloc_old _ _ (by rw [h1.size]; omega)]; exact h1.mp) ((k : Int) + 1) rfl wr.heap.size (by rw [h1.size])
      unfold txn at hup hst
      have H1 : Hid (L1 w wr [s0, s1, s2, s3] k) := h1
      clear hs hS ha hkc htc hgc hkb htb h1
      go_wp2_with (go_at_call 4; refine (state_any s _ hb.1 hb.2).mono ?_; rintro e w' ⟨rfl, rfl⟩)
      go_roundw
      case rel => exact ⟨k + 1, by omega, by go_num, hst⟩
      case measure => simp [intOf]; omega
    · have hk' : k = 4 := by omega
      subst hk'
      clear hk hk4
      rename World => W6
      go_wp2_with (at_make; refine wpList_make_own _ rfl _ _ 31 rfl W6.heap.size 42 i0 _ 10 Yba.underlying31 hi hz0 hz1 _ _ _ len rfl rfl (by omega) ?b2 ?b3 (Nat.le_refl _) ?_)
      case b2 => rw [hz2]; omega
      case b3 => unfold maxLen; omega
      intro w0 hown0 hgrow0
      have hB0 : Below W6.heap.size W6 w0 := (Below.refl _ _).grown hgrow0 (Nat.le_refl _) (fun k h => by cases h)
      clear hgrow0
      go_wp2
      go_loopw [7, 8] (fun v i wr => ∃ k g c : Nat, k ≤ len ∧ i = .int .i64 k ∧ v = .slice (some ⟨g, 0, none⟩) k c ∧ wr.ownsRow W6.heap.size 42 10 (.slice (some ⟨g, 0, none⟩) k c) k (evRow kf tf gf k) ∧ Below W6.heap.size W6 wr) (fun _ i _ => len - (intOf i).toNat)
      case atStart => exact ⟨0, W6.heap.size, len, Nat.zero_le _, rfl, rfl, hown0, hB0⟩
      case round =>
        obtain ⟨k, g, c, hk, rfl, rfl, hown, hB⟩ := hrel
        clear hown0 hB0
        have hBw : Below w.heap.size w wr := h1.below.trans (hB.mono (by rw [h1.size]; omega))
        by_cases hlt : k < len
        · obtain rfl := ha (by omega)
          have c0 := hkc k hlt
          have c1 := htc k hlt
          have c2 := hgc k hlt
          have hbw : b < w.heap.size := World.block_lt_of_cell? _ _ c0
          rw [← hBw.cell (by exact hbw)] at c0 c1 c2
          have bk := hkb k hlt
          have bt := htb k hlt
          clear hkc htc hgc hkb htb ha
          have hgb := (hown.lt g rfl).1
          have hWs : w.heap.size + 6 ≤ W6.heap.size := by rw [h1.size]; omega
          have hne : (some b : Option Nat) ≠ some g := by intro e; cases e; omega
          have hws := hB.size
          have hk0 : (0 : Int) ≤ (k : Int) := Int.natCast_nonneg _
          have hk1 : (k : Int) < (len : Int) := by omega
          go_wp2_with fail
          go_region_held3 (fun w' => w'.cell? ⟨b, off + k * 3, none⟩ = some (.int .u8 (kf k)) ∧ w'.cell? ⟨b, off + k * 3 + 2, none⟩ = some (.string (gf k)))
            (first
              | go_keep
              | (go_split_ands
                 refine ⟨?_, ?_⟩
                 · (rw [hgrow.cell_far _ (by simp; omega) hne]; assumption)
                 · (rw [hgrow.cell_far _ (by simp; omega) hne]; assumption)))
            (first
              | (go_at_call 5; refine (kind_any (kf k) _ bk.1 bk.2).mono ?_; rintro e w' ⟨rfl, rfl⟩)
              | (refine step_append_lies _ (by rfl) _ _ _ (by rfl) W6.heap.size 42 i0 _ 10 152 Yba.underlying31 hi hz0 hz1 hz2 rfl (by omega) _ k (evRow kf tf gf k) (by rfl) ((hown.alloc _).drew)
                  ⟨wr.heap.size, 0, none⟩ 1 1 (evCells kf tf gf k) (by rfl) (by rfl) (World.news_of_block (cs := (evCells kf tf gf k).toArray) (t := 42) (fr := (0, 0)) (heap_alloc_new wr _)) (by simp [evCells, Value.oneCell'])
                  (by omega) (by unfold maxLen; omega) (by omega) (by simp; omega) (wr.heap.size + 1) (by simp) ?_; intro gg cap' w1 hown1 hgrow hat hlt'))
          go_wp2
          go_roundw
          case rel =>
            have hBn : Below W6.heap.size W6 w1 := ((hB.alloc hws _).drew).grown hgrow (by simp; omega) (fun j hj => by cases hj; exact hgb)
            rw [← evRow_succ] at hown1
            clear hown hgrow hat hws
            exact ⟨k + 1, gg, cap', by omega, by go_num, rfl, hown1, hBn⟩
          case measure => simp [intOf]; omega
        · have hk' : len = k := by omega
          subst hk'
          clear hk hlt
          rename World => W7
          have hz6 := hB.size
          have hs6 : w.heap.size + 6 ≤ W6.heap.size := by rw [h1.size]; omega
          obtain ⟨W8, hW8⟩ : ∃ W8, W8 = ((W7.alloc (.cells #[.slice (some ⟨g, 0, none⟩) len c, .slice none 0 0, .slice none 0 0, .slice none 0 0, .slice none 0 0, .slice none 0 0, .slice none 0 0] 48)).alloc
            (.cells #[.slice none 0 0, .map none, .nilIface, .nilIface, .map (some (w.heap.size + 1)), .slice none 0 0, .pointer (some ⟨W7.heap.size, 0, none⟩), .int .i64 0, .int .i64 0, .int .i64 0, .slice none 0 0, .int .i64 0, .slice none 0 0] 59)) := ⟨_, rfl⟩
          have q4 : W8.cell? ⟨W7.heap.size + 1, 4, none⟩ = some (.map (some (w.heap.size + 1))) := by
            rw [hW8]; simp
          have q6 : W8.cell? ⟨W7.heap.size + 1, 6, none⟩ = some (.pointer (some ⟨W7.heap.size, 0, none⟩)) := by
            rw [hW8]; simp
          have q0 : W8.cell? ⟨W7.heap.size, 0, none⟩ = some (.slice (some ⟨g, 0, none⟩) len c) := by
            rw [hW8, World.cell?_alloc_lt _ _ _ (by simp), World.cell?_alloc_mark]; rfl
          have hB8 : Below W7.heap.size W7 W8 := by rw [hW8]; exact ((Below.refl _ _).alloc (Nat.le_refl _) _).alloc (by simp) _
          have hz8 : W8.heap.size = W7.heap.size + 2 := by rw [hW8]; simp
          have hev : ∀ i, i < len → ∀ j v, (evCells kf tf gf i)[j]? = some v → W8.cell? ⟨g, i * 10 + j, none⟩ = some v := by
            intro i hi j v hj
            have := hown.cells (g := g) rfl (i * 10 + j) v (evRow_get kf tf gf len i j v hi hj)
            rw [Addr.add_lit, Nat.zero_add] at this
            exact (hB8.cell (World.block_lt_of_cell? _ _ this)).trans this
          have hB68 : Below W6.heap.size W6 W8 := hB.trans (hB8.mono hz6)
          have HW8 : Hid (W8.heap.size = W7.heap.size + 2) := hz8
          have hg8 : W7.heap.size + 2 ≤ W8.heap.size := by omega
          go_wp2_with fail
          rw [← hW8]
          clear hW8 hz8
          refine (hist_any (W7.heap.size + 1) W7.heap.size g len c w.heap.size kf tf gf [s0, s1, s2, s3] W8 hl q4 q6 q0 hev ((hB68.block _ (by omega)).trans h1.mp) ?_ htb).mono ?_
          · intro t ht
            have := h1.tx t ht
            have hc := cell_of_row _ _ 0 _ _ _ this
            exact (hB68.cell (by simp; omega)).trans hc
          rintro en w9 ⟨v, rfl, hov, hB9, hvn⟩
          have hB79 : Below W7.heap.size W7 w9 := hB8.trans (hB9.mono (by omega))
          have hB69 : Below W6.heap.size W6 w9 := hB.trans (hB79.mono hz6)
          have F1 : Below w.heap.size w w9 := hBw.trans (hB79.mono hBw.size)
          have F2 : w9.heap[w.heap.size]? = some (.cells ([s0, s1, s2, s3].map (Value.int .u8)).toArray 23) := (hB69.block _ (by omega)).trans h1.st
          have F3 : w9.heap[w.heap.size + 1]? = some (.map (ents w.heap.size 4) 4) := (hB69.block _ (by omega)).trans h1.mp
          have F4 : ∀ t, t < 4 → w9.cell? ⟨w.heap.size + 2 + t, 0, none⟩ = some (.string (stName (([s0, s1, s2, s3] : List Int).getD t 0))) := fun t ht => (hB69.cell (by simp; omega)).trans (cell_of_row _ _ 0 _ _ _ (h1.tx t ht))
          have F5 : w9.cell? ⟨W7.heap.size + 1, 4, none⟩ = some (.map (some (w.heap.size + 1))) := (hB9.cell (World.block_lt_of_cell? _ _ q4)).trans q4
          have F6 : w9.cell? ⟨W7.heap.size + 1, 6, none⟩ = some (.pointer (some ⟨W7.heap.size, 0, none⟩)) := (hB9.cell (World.block_lt_of_cell? _ _ q6)).trans q6
          have F7 : w9.cell? ⟨W7.heap.size, 0, none⟩ = some (.slice (some ⟨g, 0, none⟩) len c) := (hB9.cell (World.block_lt_of_cell? _ _ q0)).trans q0
          have F8 : w.heap.size + 6 ≤ w9.heap.size := Nat.le_trans hs6 hB69.size
          clear hev hown hB79 hB69 hB9 hB8 hB68 q0 q4 q6 hg8 HW8 hB hBw h1 hz6 hs6
          obtain ⟨T, hT⟩ : ∃ T, T = W7.heap.size := ⟨_, rfl⟩
          rw [← hT] at F5 F6 F7
          go_wp2_with fail
          rw [← hT]
          clear hT
          obtain ⟨j0, hj, hj0, hj1, hj2⟩ := info_parts Yba.info3
          clear hi hz0 hz1 hz2
          go_loopw [12, 13] (fun v2 i wr => ∃ k g2 c2 : Nat, k ≤ len ∧ i = .int .i64 k ∧ v2 = .slice (some ⟨g2, 0, none⟩) (sel kf tf [s0, s1, s2, s3] k).length c2 ∧
              wr.ownsRow w9.heap.size 3 1 (.slice (some ⟨g2, 0, none⟩) (sel kf tf [s0, s1, s2, s3] k).length c2) (sel kf tf [s0, s1, s2, s3] k).length (ixRow (sel kf tf [s0, s1, s2, s3] k)) ∧ Below w9.heap.size w9 wr) (fun _ i _ => len - (intOf i).toNat)
          case atStart => exact ⟨0, w9.heap.size, 0, Nat.zero_le _, rfl, rfl, World.ownsRow_made w9 #[] 0 (Nat.le_refl _) (Nat.zero_le _) rfl, (Below.refl _ _).alloc (Nat.le_refl _) _⟩
          case round =>
            obtain ⟨k, g2, c2, hk, rfl, rfl, hown, hB⟩ := hrel
            have hsl := sel_le kf tf [s0, s1, s2, s3] k
            by_cases hlt : k < len
            · obtain rfl := ha (by omega)
              have hBw := F1.trans (hB.mono (by omega))
              have hbw : b < w.heap.size := World.block_lt_of_cell? _ _ (hkc k hlt)
              have c0 := (hBw.cell (by exact hbw)).trans (hkc k hlt)
              have c1 := (hBw.cell (by exact hbw)).trans (htc k hlt)
              have bk := hkb k hlt
              have bt := htb k hlt
              obtain ⟨tn, htn⟩ : ∃ tn : Nat, tf k % 4 = (tn : Int) := ⟨(tf k % 4).toNat, by omega⟩
              have ht4 : tn < 4 := by omega
              have cs := st_cell (k := tn) ((hB.block _ (by omega)).trans F2) ht4
              obtain ⟨s, hs⟩ : ∃ s, s = ([s0, s1, s2, s3] : List Int).getD tn 0 := ⟨_, rfl⟩
              rw [← hs] at cs
              have HS : Hid (s = ([s0, s1, s2, s3] : List Int).getD tn 0) := hs
              have bs := bd_getD hS tn
              rw [← hs] at bs
              clear hs
              clear hkc htc hgc hkb htb ha F2 F3 F4 F5 F6 F7 hov hvn
              by_cases p1 : kf k % 8 = 0
              · by_cases p2 : s % 4 = 2
                · have HQ : Hid (sel kf tf [s0, s1, s2, s3] (k + 1) = sel kf tf [s0, s1, s2, s3] k ++ [k]) := sel_yes (pick_of htn HS.out p1 p2)
                  have hzW := hB.size
                  go_wp2_with (at_builtin; go_must (refine wpList_append_lies _ rfl _ _ _ rfl w9.heap.size 3 j0 _ 1 8 Yba.underlying28 hj hj0 hj1 hj2 rfl ?c0 _ (sel kf tf [s0, s1, s2, s3] k).length (ixRow (sel kf tf [s0, s1, s2, s3] k)) rfl ?cown ⟨wr.heap.size, 0, none⟩ 1 1 [.int .i64 k] rfl rfl ?c1 ?c2 ?c7 ?c3 ?c4 ?c5 (wr.heap.size + 1) ?c6 ?_))
                  case c0 => omega
                  case cown => exact hown.alloc _
                  case c1 => exact cell_one_new _ _ _
                  case c2 => simp [Value.oneCell']
                  case c7 => omega
                  case c3 => unfold maxLen; omega
                  case c4 => omega
                  case c5 => simp; omega
                  case c6 => simp
                  intro gg cap2 w2 hown2 hgrow hat hlt2
                  have hB2 : Below w9.heap.size w9 w2 := (hB.alloc hzW _).grown hgrow (by simp; omega) (fun j hj => (hown.lt j hj).1)
                  have hl2 : (sel kf tf [s0, s1, s2, s3] (k + 1)).length = (sel kf tf [s0, s1, s2, s3] k).length + 1 := by rw [HQ.out]; simp
                  have hx2 : ixRow (sel kf tf [s0, s1, s2, s3] (k + 1)) = ixRow (sel kf tf [s0, s1, s2, s3] k) ++ [.int .i64 k] := by rw [HQ.out]; simp [ixRow]
                  rw [← hx2, ← hl2] at hown2
                  rw [← hl2]
                  clear hgrow hat hl2 hx2 hown
                  go_wp2
                  go_roundw
                  case rel => exact ⟨k + 1, gg, cap2, by omega, by go_num, rfl, hown2, hB2⟩
                  case measure => simp [intOf]; omega
                · have HQ : Hid (sel kf tf [s0, s1, s2, s3] (k + 1) = sel kf tf [s0, s1, s2, s3] k) := sel_no (pick_not htn HS.out (.inr p2))
                  go_wp2
                  go_roundw
                  case rel => exact ⟨k + 1, g2, c2, by omega, by go_num, by rw [HQ.out], by rw [HQ.out]; exact hown, hB⟩
                  case measure => simp [intOf]; omega
              · have HQ : Hid (sel kf tf [s0, s1, s2, s3] (k + 1) = sel kf tf [s0, s1, s2, s3] k) := sel_no (pick_not htn HS.out (.inl p1))
                go_wp2
                go_roundw
                case rel => exact ⟨k + 1, g2, c2, by omega, by go_num, by rw [HQ.out], by rw [HQ.out]; exact hown, hB⟩
                case measure => simp [intOf]; omega
            · have hk' : len = k := by omega
              subst hk'
              clear hk hlt
              rename World => WA
              obtain ⟨L, hL⟩ : ∃ L, L = sel kf tf [s0, s1, s2, s3] len := ⟨_, rfl⟩
              have HL : Hid (∀ i ∈ L, i < len) := by
                intro i hi
                rw [hL] at hi
                exact List.mem_range.1 (List.mem_filter.1 hi).1
              rw [← hL] at hown hov hvn hsl
              rw [← hL]
              clear hL
              obtain ⟨m, hm⟩ : ∃ m, m = L.length := ⟨_, rfl⟩
              rw [← hm] at hown hov hsl
              rw [← hm]
              obtain ⟨av, cv, gv, hv, hz1, hz2⟩ := v_form hov (fun h => hvn (List.eq_nil_of_length_eq_zero (by omega)))
              have HM : Hid (m = L.length) := hm
              clear hm hvn
              subst hv
              obtain ⟨z, hz⟩ : ∃ z, ((m : Int) == 0) = z := ⟨_, rfl⟩
              rw [hz] at hz1
              have hBw := F1.trans (hB.mono (by omega))
              have heq := fun W => Lib.run_eql_slice_nil (P := Yba.prog) W 50 39 av m cv 0 0 Yba.underlying50
              go_wp2_with fail
              clear heq hz1 hz
              go_loopw [15] (fun i wr => ∃ j q : Nat, j ≤ m ∧ i = .int .i64 j ∧ wr = WA.drewN q) (fun i _ => m - (intOf i).toNat)
              case atStart => exact ⟨0, 0, Nat.zero_le _, rfl, rfl⟩
              case round =>
                obtain ⟨j, q, hj, rfl, rfl⟩ := hrel
                by_cases hlt : j < m
                · obtain ⟨rfl, hg1, hg2⟩ := hz2 (by omega)
                  obtain ⟨x, hx⟩ : ∃ x, L[j]? = some x := ⟨_, List.getElem?_eq_getElem (by have := HM.out; omega)⟩
                  have hxl := HL.out x (List.mem_of_getElem? hx)
                  obtain rfl := ha (by omega)
                  have c0 : WA.cell? ⟨g2, j, none⟩ = some (.int .i64 x) := by
                    have := hown.cells (g := g2) rfl j (.int .i64 x) (by simp [ixRow, hx])
                    rw [Addr.add_lit, Nat.zero_add] at this
                    exact this
                  have o : ∀ r v, (opCells gf x)[r]? = some v → WA.cell? ⟨gv, j * 4 + r, none⟩ = some v := by
                    intro r v hr
                    have := hov.cells (g := gv) rfl (j * 4 + r) v (opRow_get gf L j r x v hx hr)
                    rw [Addr.add_lit, Nat.zero_add] at this
                    exact (hB.cell (by exact hg2)).trans this
                  have o1 := o 1 _ rfl
                  have o2 := o 2 _ rfl
                  have o3 := o 3 _ rfl
                  have hbw : b < w.heap.size := World.block_lt_of_cell? _ _ (hkc x hxl)
                  have c2 := (hBw.cell (by exact hbw)).trans (hgc x hxl)
                  have hx0 : (0 : Int) ≤ (x : Int) := Int.natCast_nonneg _
                  have hx1 : (x : Int) < (len : Int) := by omega
                  have hj0' : (0 : Int) ≤ (j : Int) := Int.natCast_nonneg _
                  have hj1' : (j : Int) < (m : Int) := by omega
                  clear o hkc htc hgc hkb htb ha hx hov hown HL F2 F3 F4 F5 F6 F7 hz2
                  go_wp2_with fail
                  go_quiet (fail)
                  go_wp2
                  go_roundw
                  case rel => exact ⟨j + 1, _, by omega, by go_num, rfl⟩
                  case measure => simp [intOf]; omega
                · have hk' : m = j := by omega
                  subst hk'
                  have G6 : WA.cell? ⟨T + 1, 6, none⟩ = some (.pointer (some ⟨T, 0, none⟩)) := (hB.cell (World.block_lt_of_cell? _ _ F6)).trans F6
                  have G7 : WA.cell? ⟨T, 0, none⟩ = some (.slice (some ⟨g, 0, none⟩) len c) := (hB.cell (World.block_lt_of_cell? _ _ F7)).trans F7
                  have G5 : WA.cell? ⟨T + 1, 4, none⟩ = some (.map (some (w.heap.size + 1))) := (hB.cell (World.block_lt_of_cell? _ _ F5)).trans F5
                  have G2 := (hB.block _ (by omega)).trans F2
                  have G3 := (hB.block _ (by omega)).trans F3
                  have G4 : ∀ t, t < 4 → WA.cell? ⟨w.heap.size + 2 + t, 0, none⟩ = some (.string (stName (([s0, s1, s2, s3] : List Int).getD t 0))) := fun t ht => (hB.cell (World.block_lt_of_cell? _ _ (F4 t ht))).trans (F4 t ht)
                  have HG2 : Hid (WA.heap[w.heap.size]? = some (.cells ([s0, s1, s2, s3].map (Value.int .u8)).toArray 23)) := G2
                  have HG3 : Hid (WA.heap[w.heap.size + 1]? = some (.map (ents w.heap.size 4) 4)) := G3
                  have HG4 : Hid (∀ t, t < 4 → WA.cell? ⟨w.heap.size + 2 + t, 0, none⟩ = some (.string (stName (([s0, s1, s2, s3] : List Int).getD t 0)))) := G4
                  clear G2 G3 G4 F2 F3 F4 F5 F6 F7 hkc htc hgc hkb htb ha hov hown HL HM hz2 hlt hj
                  go_wp2_with fail
                  go_loopw [17] (fun i wr => ∃ k q : Nat, k ≤ 4 ∧ i = .int .i64 k ∧ wr = WA.drewN q) (fun i _ => 4 - (intOf i).toNat)
                  case atStart => exact ⟨0, q, Nat.zero_le _, rfl, rfl⟩
                  case round =>
                    obtain ⟨k, q, hk, rfl, hwr⟩ := hrel
                    by_cases hk4 : k < 4
                    · have cs : wr.cell? ⟨w.heap.size, k, none⟩ = some (.int .u8 (([s0, s1, s2, s3] : List Int).getD k 0)) := by rw [hwr]; exact st_cell (k := k) HG2.out hk4
                      have bs := bd_getD hS k
                      have ct : wr.cell? ⟨w.heap.size + 2 + k, 0, none⟩ = some (.string (stName (([s0, s1, s2, s3] : List Int).getD k 0))) := by rw [hwr]; exact HG4.out k hk4
                      have cm : wr.cell? ⟨T + 1, 4, none⟩ = some (.map (some (w.heap.size + 1))) := by rw [hwr]; exact G5
                      obtain ⟨s, hs⟩ : ∃ s, s = ([s0, s1, s2, s3] : List Int).getD k 0 := ⟨_, rfl⟩
                      rw [← hs] at cs bs ct
                      clear hs
                      have hlk : ∀ p, (Instr.lookup 24 (.map (some (w.heap.size + 1))) (.int .i64 ((k : Int) + 1)) false).run Yba.prog (wr.drewN p) = .ok (.pointer (some ⟨w.heap.size + 2 + k, 0, none⟩)) (wr.drewN p) := by
                        intro p
                        refine map_get (wr.drewN p) (w.heap.size + 1) w.heap.size ?_ k hk4 _ rfl
                        rw [hwr]
                        simpa using HG3.out
                      have HWR : Hid (wr = WA.drewN q) := hwr
                      clear hwr G5 G6 G7
                      have hk0 : (0 : Int) ≤ (k : Int) := Int.natCast_nonneg _
                      have hk1 : (k : Int) < 4 := by omega
                      go_wp2_with fail
                      go_quiet ((go_at_call 4; exact Calls.quiet_of_same (state_any s _ bs.1 bs.2)))
                      go_wp2
                      go_roundw
                      case rel => exact ⟨k + 1, q + nq, by omega, by go_num, by rw [HWR.out, World.drewN_drewN]⟩
                      case measure => simp [intOf]; omega
                    · have hk' : k = 4 := by omega
                      subst hk'
                      subst hwr
                      go_wp2
                      go_ret
                      exact ⟨rfl, below_drewN hBw _⟩

set_option maxRecDepth 100000 in
theorem law_long (a : Option Addr) (len cap : Nat) (s0 s1 s2 s3 : Int) (w : World) (hl : 1024 < len) (hm : len ≤ maxLen) :
    Calls Yba.prog 3 #[.slice a len cap, .agg #[.int .u8 s0, .int .u8 s1, .int .u8 s2, .int .u8 s3]] w fun e w' => e = .returned (.bool true) ∧ Below w.heap.size w w' := by
  unfold maxLen at hm
  go_enter Yba.func3, Yba.ntmps3
  go_wp2
  go_ret
  exact ⟨rfl, (Below.refl _ _).alloc (Nat.le_refl _) _⟩
end Go.Proofs.Ybulkcxmk
