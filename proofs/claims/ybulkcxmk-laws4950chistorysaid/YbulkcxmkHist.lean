import Derived.Test.YbulkcxmkParts
import Derived.Deep.RegionHeld3
import Derived.Deep.AppendLies
import Derived.WalkSmall
import Derived.Laws.IdiomStrings
import Derived.BigQuiet
import Derived.Deep.QuietTactic
namespace Go.Proofs.Ybulkcxmk
open Go.ChangeShapes Go.WideShapes Go.ChangeAt Go.RowKit
open Go.ChangeMaps (setBlock)

theorem Yba.info39 : (Yba.prog.info? 39).map (fun i => (i.zero, i.size, i.bytes)) = some (some (.agg #[.string ByteArray.empty, .int .i64 0, .string ByteArray.empty, .string ByteArray.empty]), 4, 56) := by kernel_rfl

/-- is event i one of those that the history holds? -/
def pickB (kf tf : Nat → Int) (S : List Int) (i : Nat) : Bool := decide (kf i % 8 = 0) && decide (S.getD (tf i % 4).toNat 0 % 4 = 2)
def sel (kf tf : Nat → Int) (S : List Int) (n : Nat) : List Nat := (List.range n).filter (pickB kf tf S)
def opCells (gf : Nat → ByteArray) (i : Nat) : List Value := [.string ⟨#[]⟩, .int .i64 i, .string (gf i), .string ⟨#[]⟩]
def opRow (gf : Nat → ByteArray) (l : List Nat) : List Value := l.flatMap (opCells gf)

theorem sel_yes {kf tf : Nat → Int} {S : List Int} {n : Nat} (h : pickB kf tf S n = true) : sel kf tf S (n + 1) = sel kf tf S n ++ [n] := by
  simp [sel, List.range_succ, List.filter_append, h]
theorem sel_no {kf tf : Nat → Int} {S : List Int} {n : Nat} (h : pickB kf tf S n = false) : sel kf tf S (n + 1) = sel kf tf S n := by
  simp [sel, List.range_succ, List.filter_append, h]
theorem sel_le (kf tf : Nat → Int) (S : List Int) (n : Nat) : (sel kf tf S n).length ≤ n := by
  have := List.length_filter_le (pickB kf tf S) (List.range n)
  simpa [sel] using this
theorem opRow_snoc (gf : Nat → ByteArray) (l : List Nat) (n : Nat) : opRow gf (l ++ [n]) = opRow gf l ++ opCells gf n := by simp [opRow]

theorem ownsRow_drewN {w : World} {base : Nat} {e : TypeId} {size : Nat} {v : Value} {n : Nat} {xs : List Value} (h : w.ownsRow base e size v n xs) (m : Nat) : (w.drewN m).ownsRow base e size v n xs := h

theorem kd_granted {kd : ByteArray} {x : Int} (h : kd = kdName x) : (kd.toList == [103, 114, 97, 110, 116, 101, 100]) = decide (x % 8 = 0) := by
  subst h
  have h8 : x % 8 = 0 ∨ x % 8 = 1 ∨ x % 8 = 2 ∨ x % 8 = 3 ∨ x % 8 = 4 ∨ x % 8 = 5 ∨ x % 8 = 6 ∨ x % 8 = 7 := by omega
  rw [ByteArray.toList_eq]
  rcases h8 with h | h | h | h | h | h | h | h <;> simp [kdName, h]
theorem st_committed {st : ByteArray} {x : Int} (h : st = stName x) : (st.toList == [99, 111, 109, 109, 105, 116, 116, 101, 100]) = decide (x % 4 = 2) := by
  subst h
  have h4 : x % 4 = 0 ∨ x % 4 = 1 ∨ x % 4 = 2 ∨ x % 4 = 3 := by omega
  rw [ByteArray.toList_eq]
  rcases h4 with h | h | h | h <;> simp [stName, h]
theorem pick_yes {kf tf : Nat → Int} {S : List Int} {k tn : Nat} {kd st : ByteArray} (h1 : kd = kdName (kf k)) (h2 : (kd.toList == [103, 114, 97, 110, 116, 101, 100]) = true) (h3 : tn = (tf k % 4).toNat) (h4 : st = stName (S.getD tn 0))
    (h5 : (st.toList == [99, 111, 109, 109, 105, 116, 116, 101, 100]) = true) : pickB kf tf S k = true := by
  rw [kd_granted h1] at h2
  rw [st_committed h4] at h5
  subst h3
  rw [pickB, h2, h5]; rfl
theorem pick_no {kf tf : Nat → Int} {S : List Int} {k tn : Nat} {kd st : ByteArray} (h : (kd = kdName (kf k) ∧ (kd.toList == [103, 114, 97, 110, 116, 101, 100]) = false) ∨ (tn = (tf k % 4).toNat ∧ st = stName (S.getD tn 0) ∧
    (st.toList == [99, 111, 109, 109, 105, 116, 116, 101, 100]) = false)) : pickB kf tf S k = false := by
  rcases h with ⟨h1, h2⟩ | ⟨h3, h4, h5⟩
  · rw [kd_granted h1] at h2
    rw [pickB, h2]; rfl
  · rw [st_committed h4] at h5
    subst h3
    rw [pickB, h5]; simp

set_option maxRecDepth 100000 in
set_option maxHeartbeats 1000000 in
theorem hist_any (g h e n c N : Nat) (kf tf : Nat → Int) (gf : Nat → ByteArray) (S : List Int) (w : World) (hn : n ≤ 1024)
    (hr4 : w.cell? ⟨g, 4, none⟩ = some (.map (some (N + 1)))) (hr6 : w.cell? ⟨g, 6, none⟩ = some (.pointer (some ⟨h, 0, none⟩))) (hh : w.cell? ⟨h, 0, none⟩ = some (.slice (some ⟨e, 0, none⟩) n c))
    (hev : ∀ i, i < n → ∀ j v, (evCells kf tf gf i)[j]? = some v → w.cell? ⟨e, i * 10 + j, none⟩ = some v)
    (hmp : w.heap[N + 1]? = some (.map (ents N 4) 4)) (htx : ∀ t, t < 4 → w.cell? ⟨N + 2 + t, 0, none⟩ = some (.string (stName (S.getD t 0)))) (htb : ∀ i, i < n → 0 ≤ tf i ∧ tf i ≤ 255) :
    Calls Yba.prog 6 #[.pointer (some ⟨g, 0, none⟩)] w fun en w' => ∃ v, en = .returned v ∧ w'.ownsRow w.heap.size 39 4 v (sel kf tf S n).length (opRow gf (sel kf tf S n)) ∧ Below w.heap.size w w' ∧ (sel kf tf S n = [] → v = .slice none 0 0) := by
  obtain ⟨i0, hi, hz0, hz1, hz2⟩ := info_parts Yba.info39
  go_enter Yba.func6, Yba.ntmps6
  go_wp2
  go_loopw [3, 14] (fun v i wr => ∃ k : Nat, k ≤ n ∧ i = .int .i64 k ∧ wr.ownsRow w.heap.size 39 4 v (sel kf tf S k).length (opRow gf (sel kf tf S k)) ∧ Below w.heap.size w wr ∧ (sel kf tf S k = [] → v = .slice none 0 0)) (fun _ i _ => n - (intOf i).toNat)
  case atStart => exact ⟨0, Nat.zero_le _, rfl, World.ownsRow_nil _ _ _ _, Below.refl _ _, fun _ => rfl⟩
  case round =>
    obtain ⟨k, hk, rfl, hown, hB, hnil⟩ := hrel
    by_cases hlt : k < n
    · have hz := hB.size
      have lg : g < w.heap.size := World.block_lt_of_cell? _ _ hr4
      have lN : N + 1 < w.heap.size := (Array.getElem?_eq_some_iff.1 hmp).1
      have le : e < w.heap.size := World.block_lt_of_cell? _ _ (hev k hlt 0 _ rfl)
      have r4 : wr.cell? ⟨g, 4, none⟩ = some (.map (some (N + 1))) := (hB.cell (by exact lg)).trans hr4
      have e0 : wr.cell? ⟨e, k * 10, none⟩ = some (.string (kdName (kf k))) := (hB.cell (by exact le)).trans (hev k hlt 0 _ rfl)
      have e1 : wr.cell? ⟨e, k * 10 + 1, none⟩ = some (.int .i64 (tf k % 4 + 1)) := (hB.cell (by exact le)).trans (hev k hlt 1 _ rfl)
      have e2 : wr.cell? ⟨e, k * 10 + 2, none⟩ = some (.int .i64 (IntKind.i64.wrap ((k : Int) + 1))) := (hB.cell (by exact le)).trans (hev k hlt 2 _ rfl)
      have e3 : wr.cell? ⟨e, k * 10 + 3, none⟩ = some (.string ⟨#[]⟩) := (hB.cell (by exact le)).trans (hev k hlt 3 _ rfl)
      have e4 : wr.cell? ⟨e, k * 10 + 4, none⟩ = some (.int .i64 k) := (hB.cell (by exact le)).trans (hev k hlt 4 _ rfl)
      have e5 : wr.cell? ⟨e, k * 10 + 5, none⟩ = some (.string (gf k)) := (hB.cell (by exact le)).trans (hev k hlt 5 _ rfl)
      have e6 : wr.cell? ⟨e, k * 10 + 6, none⟩ = some (.string ⟨#[]⟩) := (hB.cell (by exact le)).trans (hev k hlt 6 _ rfl)
      have e7 : wr.cell? ⟨e, k * 10 + 7, none⟩ = some (.slice none 0 0) := (hB.cell (by exact le)).trans (hev k hlt 7 _ rfl)
      have e8 : wr.cell? ⟨e, k * 10 + 8, none⟩ = some (.string ⟨#[]⟩) := (hB.cell (by exact le)).trans (hev k hlt 8 _ rfl)
      have e9 : wr.cell? ⟨e, k * 10 + 9, none⟩ = some (.slice none 0 0) := (hB.cell (by exact le)).trans (hev k hlt 9 _ rfl)
      clear hev
      have bt := htb k hlt
      obtain ⟨kd, hkd⟩ : ∃ kd, kd = kdName (kf k) := ⟨_, rfl⟩
      rw [← hkd] at e0
      have HK : Hid (kd = kdName (kf k)) := hkd
      clear hkd
      obtain ⟨tn, htn⟩ : ∃ tn : Nat, tn = (tf k % 4).toNat := ⟨_, rfl⟩
      have ht4 : tn < 4 := by omega
      obtain ⟨st, hst⟩ : ∃ st, st = stName (S.getD tn 0) := ⟨_, rfl⟩
      obtain ⟨W, hW⟩ : ∃ W, W = wr.alloc (.cells #[.string kd, .int .i64 (tf k % 4 + 1), .int .i64 ((k : Int) + 1), .string ⟨#[]⟩, .int .i64 k, .string (gf k), .string ⟨#[]⟩, .slice none 0 0, .string ⟨#[]⟩, .slice none 0 0] 42) := ⟨_, rfl⟩
      have hBW : Below w.heap.size w W := by rw [hW]; exact hB.alloc hz _
      have r4W : W.cell? ⟨g, 4, none⟩ = some (.map (some (N + 1))) := (hBW.cell (by exact lg)).trans hr4
      have hlk : ∀ m, (Instr.lookup 24 (.map (some (N + 1))) (.int .i64 (tf k % 4 + 1)) false).run Yba.prog (W.drewN m) = .ok (.pointer (some ⟨N + 2 + tn, 0, none⟩)) (W.drewN m) := by
        intro m
        refine map_get (W.drewN m) (N + 1) N ?_ tn ht4 _ (by omega)
        have : W.heap[N + 1]? = some (.map (ents N 4) 4) := (hBW.block _ lN).trans hmp
        simpa using this
      have sW : W.cell? ⟨N + 2 + tn, 0, none⟩ = some (.string st) := by
        have := htx tn ht4
        rw [hst]
        exact (hBW.cell (by exact World.block_lt_of_cell? _ _ this)).trans this
      have w0 : W.cell? ⟨wr.heap.size, 0, none⟩ = some (.string kd) := by rw [hW, World.cell?_alloc_mark]; rfl
      have w1 : W.cell? ⟨wr.heap.size, 1, none⟩ = some (.int .i64 (tf k % 4 + 1)) := by rw [hW, World.cell?_alloc_mark]; rfl
      have w3 : W.cell? ⟨wr.heap.size, 3, none⟩ = some (.string ⟨#[]⟩) := by rw [hW, World.cell?_alloc_mark]; rfl
      have w4 : W.cell? ⟨wr.heap.size, 4, none⟩ = some (.int .i64 k) := by rw [hW, World.cell?_alloc_mark]; rfl
      have w5 : W.cell? ⟨wr.heap.size, 5, none⟩ = some (.string (gf k)) := by rw [hW, World.cell?_alloc_mark]; rfl
      have w6 : W.cell? ⟨wr.heap.size, 6, none⟩ = some (.string ⟨#[]⟩) := by rw [hW, World.cell?_alloc_mark]; rfl
      have HS : Hid (st = stName (S.getD tn 0)) := hst
      have HT : Hid (tn = (tf k % 4).toNat) := htn
      have HW : Hid (W = wr.alloc (.cells #[.string kd, .int .i64 (tf k % 4 + 1), .int .i64 ((k : Int) + 1), .string ⟨#[]⟩, .int .i64 k, .string (gf k), .string ⟨#[]⟩, .slice none 0 0, .string ⟨#[]⟩, .slice none 0 0] 42)) := hW
      have hownW : W.ownsRow w.heap.size 39 4 u3 (sel kf tf S k).length (opRow gf (sel kf tf S k)) := by rw [hW]; exact hown.alloc _
      clear hst htn hW
      clear htx hmp htb hr4 hr6 hh
      go_wp2_with fail
      rw [← HW.out]
      clear HW e0 e1 e2 e3 e4 e5 e6 e7 e8 e9 r4
      have hsl := sel_le kf tf S k
      have hzW := hBW.size
      by_cases hg : (kd.toList == [103, 114, 97, 110, 116, 101, 100]) = true
      · by_cases hs : (st.toList == [99, 111, 109, 109, 105, 116, 116, 101, 100]) = true
        · have P := pick_yes HK.out hg HT.out HS.out hs
          have HP := sel_yes P
          have HQ : Hid (sel kf tf S (k + 1) = sel kf tf S k ++ [k]) := HP
          clear P HP
          go_quiet (fail)
          go_wp2_with (at_builtin; go_must (refine wpList_append_lies _ rfl _ _ _ rfl w.heap.size 39 i0 _ 4 56 Yba.underlying50 hi hz0 hz1 hz2 rfl ?c0 u3 (sel kf tf S k).length (opRow gf (sel kf tf S k)) rfl ?cown ⟨W.heap.size, 0, none⟩ 1 1 (opCells gf k) rfl rfl ?c1 ?c2 ?c7 ?c3 ?c4 ?c5 (W.heap.size + 1) ?c6 ?_))
          case c0 => omega
          case cown => exact (ownsRow_drewN hownW nq).alloc _
          case c1 => exact World.news_of_block (cs := (opCells gf k).toArray) (t := 39) (fr := (0, 0)) (heap_alloc_new (W.drewN nq) _)
          case c2 => simp [opCells, Value.oneCell']
          case c7 => omega
          case c3 => unfold maxLen; omega
          case c4 => omega
          case c5 => simp; omega
          case c6 => simp
          intro gg cap w2 hown2 hgrow hat hlt2
          have hB2 : Below w.heap.size w w2 := ((below_drewN hBW nq).alloc hzW _).grown hgrow (by simp; omega) (fun j hj => (hown.lt j hj).1)
          rw [← opRow_snoc] at hown2
          have hl2 : (sel kf tf S k).length + 1 = (sel kf tf S k ++ [k]).length := by simp
          have HO : Hid (w2.ownsRow w.heap.size 39 4 (.slice (some ⟨gg, 0, none⟩) ((sel kf tf S k).length + 1) cap) (sel kf tf S (k + 1)).length (opRow gf (sel kf tf S (k + 1)))) := by
            show World.ownsRow _ _ _ _ _ _ _
            rw [HQ.out, ← hl2]; exact hown2
          have HE : Hid (sel kf tf S (k + 1) ≠ []) := by
            show _ ≠ _
            rw [HQ.out]; simp
          clear hown2 hgrow hat hl2 hownW hown
          go_wp2
          go_roundw
          case rel => exact ⟨k + 1, by omega, by go_num, HO.out, hB2, fun h => absurd h HE.out⟩
          case measure => simp [intOf]; omega
        · have hs' : (st.toList == [99, 111, 109, 109, 105, 116, 116, 101, 100]) = false := by simpa using hs
          have P := pick_no (kd := kd) (kf := kf) (.inr ⟨HT.out, HS.out, hs'⟩)
          have HQ : Hid (sel kf tf S (k + 1) = sel kf tf S k) := sel_no P
          clear P
          go_quiet (fail)
          go_wp2
          go_roundw
          case rel => exact ⟨k + 1, by omega, by go_num, by rw [HQ.out]; exact ownsRow_drewN hownW nq, below_drewN hBW nq, by rw [HQ.out]; exact hnil⟩
          case measure => simp [intOf]; omega
      · have hg' : (kd.toList == [103, 114, 97, 110, 116, 101, 100]) = false := by simpa using hg
        have P := pick_no (tn := tn) (st := st) (S := S) (tf := tf) (.inl ⟨HK.out, hg'⟩)
        have HQ : Hid (sel kf tf S (k + 1) = sel kf tf S k) := sel_no P
        clear P
        go_quiet (fail)
        go_wp2
        go_roundw
        case rel => exact ⟨k + 1, by omega, by go_num, by rw [HQ.out]; exact ownsRow_drewN hownW nq, below_drewN hBW nq, by rw [HQ.out]; exact hnil⟩
        case measure => simp [intOf]; omega
    · have hk' : k = n := by omega
      subst hk'
      go_wp2
      go_ret
      exact ⟨u3, rfl, hown, hB, hnil⟩
end Go.Proofs.Ybulkcxmk
