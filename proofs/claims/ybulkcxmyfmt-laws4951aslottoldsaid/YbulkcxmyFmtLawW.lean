import Derived.Test.YbulkcxmyFmtCore
namespace Go.Proofs.YbulkcxmyFmt
open Go.ChangeShapes Go.WideShapes Go.ChangeAt Go.RowKit
set_option linter.unusedVariables false

set_option maxRecDepth 100000 in
set_option maxHeartbeats 2000000 in
theorem wake_busy (s : Nat) (C : Array Value) (w : World) (hs : At w s 60 C) (c15 : C[15]? = some (.int .i64 1)) :
    Calls Ybaf.prog 26 #[.pointer (some ⟨s, 0, none⟩)] w fun e w' => e = .returned .nilIface ∧ w' = w := by
  have y15 := hs.cell 15 c15
  clear hs c15
  go_enter Ybaf.func26, Ybaf.ntmps26
  go_wp2
  go_ret
  exact ⟨rfl, rfl⟩

/-- a new sim's cells, one processor made, its list in block row -/
def simC (N L M S T : Int) (row : Nat) : Array Value := #[.int .i64 N, .int .u64 0, .int .i64 L, .int .i64 0, .int .i64 0, .int .i64 0, .int .i64 M, .int .i64 0, .slice none 0 0, .int .u64 0, .slice none 0 0, .int .i64 0, .slice (some ⟨row, 0, none⟩) 1 1, .slice none 0 0, .slice none 0 0, .int .i64 S, .int .u64 0, .pointer none, .pointer none, .bool false, .nilIface, .slice none 0 0, .slice none 0 0, .int .i64 0, .slice none 0 0,
  .int .i64 0, .int .i64 0, .int .i64 0, .int .i64 0, .int .i64 0, .int .i64 0, .int .i64 0, .int .i64 0, .int .i64 0, .int .i64 0, .int .i64 0, .int .i64 0, .int .i64 0, .int .i64 T, .slice none 0 0, .slice none 0 0, .int .i64 0, .int .i32 0, .int .i32 0, .int .u8 0, .int .i64 0,
  .int .i64 0, .int .i64 0, .int .i64 0, .int .i64 0, .int .i64 0, .int .i64 0, .int .i64 0, .int .i64 0, .int .i64 0, .int .i64 0, .int .i64 0, .int .i64 0, .int .i64 0, .int .i64 0, .int .i64 0]
def gC (id : Int) (s : Nat) (p : Option Addr) : Array Value := #[.int .i64 id, .pointer (some ⟨s, 0, none⟩), .nilFunc, .pointer p, .bool false, .int .i64 0, .pointer none]

theorem simC_fresh (N L M S T : Int) (row : Nat) : Fresh (simC N L M S T row) where
  size := rfl
  now := rfl
  trace := rfl
  prevAt := rfl
  prevG := rfl
  det := fun j hj => by
    have : j = 0 ∨ j = 1 ∨ j = 2 ∨ j = 3 ∨ j = 4 ∨ j = 5 ∨ j = 6 ∨ j = 7 ∨ j = 8 ∨ j = 9 ∨ j = 10 ∨ j = 11 ∨ j = 12 ∨ j = 13 ∨ j = 14 := by omega
    rcases this with h | h | h | h | h | h | h | h | h | h | h | h | h | h | h <;> subst h <;> rfl

theorem At.newk {w : World} {n : Nat} (h : w.heap.size = n) (t : TypeId) (C : Array Value) : At (w.alloc (.cells C t)) n t C := by subst h; exact At.new w t C

/-- the world in which the law calls 'ready' -/
def lawWorld (w : World) (N L M S T : Int) : World :=
  ((((w.alloc (.cells (simC N L M S T (w.heap.size + 1 + 1)) 60)).alloc (.cells (procC 0) 63)).alloc (.cells #[.pointer (some ⟨w.heap.size + 1, 0, none⟩)] 61)).alloc (.cells (gC 1 w.heap.size (some ⟨w.heap.size + 1, 0, none⟩)) 67)).alloc (.cells (gC 2 w.heap.size none) 67)

theorem lw_s (w : World) (N L M S T : Int) : At (lawWorld w N L M S T) w.heap.size 60 (simC N L M S T (w.heap.size + 1 + 1)) := ((((At.new w 60 _).alloc _).alloc _).alloc _).alloc _
theorem lw_p (w : World) (N L M S T : Int) : At (lawWorld w N L M S T) (w.heap.size + 1) 63 (procC 0) := (((At.newk (by simp) 63 _).alloc _).alloc _).alloc _
theorem lw_r (w : World) (N L M S T : Int) : At (lawWorld w N L M S T) (w.heap.size + 1 + 1) 61 #[.pointer (some ⟨w.heap.size + 1, 0, none⟩)] := ((At.newk (by simp) 61 _).alloc _).alloc _
theorem lw_g (w : World) (N L M S T : Int) : At (lawWorld w N L M S T) (w.heap.size + 1 + 1 + 1) 67 (gC 1 w.heap.size (some ⟨w.heap.size + 1, 0, none⟩)) := (At.newk (by simp) 67 _).alloc _
theorem lw_w (w : World) (N L M S T : Int) : At (lawWorld w N L M S T) (w.heap.size + 1 + 1 + 1 + 1) 67 (gC 2 w.heap.size none) := At.newk (by simp) 67 _
theorem lw_fr (w : World) (N L M S T : Int) (Q : Nat → Prop) : Fr w (lawWorld w N L M S T) Q := ((((Fr.refl w Q).alloc _).alloc _).alloc _).alloc _ |>.alloc _
theorem lw_size (w : World) (N L M S T : Int) : (lawWorld w N L M S T).heap.size = w.heap.size + 5 := by simp [lawWorld]

theorem own_one {w : World} {r t : Nat} {v : Value} (h : At w r t #[v]) : w.ownsRow r t 1 (.slice (some ⟨r, 0, none⟩) 1 1) 1 [v] :=
  ⟨rfl, .inr ⟨r, 1, #[v], rfl, Nat.le_refl _, h.blk, Nat.le_refl _, by unfold maxLen; omega, rfl, rfl⟩⟩

/-- 'ready' in the law's world, none searching: P1 is woken -/
theorem ready_wakes (w : World) (N L M T : Int) (hN : 1 < N) (hT : 0 ≤ T ∧ T ≤ 1000) (hTM : T < M) (hM : M ≤ 1000000) :
    Calls Ybaf.prog 7 #[.pointer (some ⟨w.heap.size + 1 + 1 + 1, 0, none⟩), .pointer (some ⟨w.heap.size + 1 + 1 + 1 + 1, 0, none⟩)] (lawWorld w N L M 0 T) fun e w' =>
      e = .returned (.tuple #[]) ∧ (Woken w' w.heap.size T ∧ At w' (w.heap.size + 1) 63 ((procC 0).setIfInBounds 2 (.pointer (some ⟨w.heap.size + 1 + 1 + 1 + 1, 0, none⟩))) ∧ Below w.heap.size w w') := by
  have hz := lw_size w N L M 0 T
  refine ready_core w.heap.size (w.heap.size + 1) _ _ _ _ _ _ _ _ (lw_s w N L M 0 T) (simC_fresh _ _ _ _ _ _) (lw_p w N L M 0 T) (lw_g w N L M 0 T) (lw_w w N L M 0 T) rfl rfl rfl rfl rfl rfl (by omega) (by omega) (by omega) ?_
  intro X q cq cb m hm hq hcb hA hT' hF
  have hpX := (lw_p w N L M 0 T).fr hF (by omega)
  refine runNext_empty _ (w.heap.size + 1) _ _ (procC 0) X _ (((lw_g w N L M 0 T).fr hF (by omega)).cell 3 rfl) hpX rfl ?_
  rintro Y hY
  have F2 : Fr X Y (fun k => k = w.heap.size + 1) := by rw [hY]; exact (Fr.refl X (fun k => k = w.heap.size + 1)).setCell (p := ⟨w.heap.size + 1, 2, none⟩) (.inl rfl) _
  have hpY : At Y (w.heap.size + 1) 63 ((procC 0).setIfInBounds 2 (.pointer (some ⟨w.heap.size + 1 + 1 + 1 + 1, 0, none⟩))) := by rw [hY]; exact hpX.set 2 _
  have hzX := hF.size
  have hzY := F2.size
  have hI : Idle (recC (simC N L M 0 T (w.heap.size + 1 + 1)) q cq) N T M (w.heap.size + 1 + 1) 1 := by
    refine ⟨recC_size rfl, (recC_low (by omega)).trans rfl, (recC_low (by omega)).trans rfl, (recC_low (by omega)).trans rfl, (recC_low (by omega)).trans rfl, (recC_low (by omega)).trans rfl, (recC_low (by omega)).trans rfl, (recC_low (by omega)).trans rfl, (recC_low (by omega)).trans rfl, (recC_low (by omega)).trans rfl, (recC_low (by omega)).trans rfl, (recC_low (by omega)).trans rfl, recC_41 rfl, recC_43 rfl, (recC_det (j := 6) (by omega)).trans rfl⟩
  refine (wake_go w.heap.size q cq cb m (w.heap.size + 1 + 1) 1 (w.heap.size + 1 + 1) (w.heap.size + 1) _ N T M Y (hA.fr F2 (by omega)) hI (hT'.fr F2 (by omega) (by omega)) (by omega) hN hT hTM hM (own_one (((lw_r w N L M 0 T).fr hF (by omega)).fr F2 (by omega))) (by omega) (by omega) (by omega) (by omega)).mono ?_
  rintro e w' ⟨he, hW, F3⟩
  refine ⟨he, hW, hpY.fr F3 (by omega), ?_⟩
  exact (((lw_fr w N L M 0 T (fun k => w.heap.size ≤ k)).trans (hF.mono (fun k hk => by omega))).trans (F2.mono (fun k hk => by omega))).trans (F3.mono (fun k hk => by omega)) |>.below _ (Nat.le_refl _) (fun k hk => hk)

/-- 'ready' in the law's world, one searching: nothing is woken -/
theorem ready_still (w : World) (N L M T : Int) :
    Calls Ybaf.prog 7 #[.pointer (some ⟨w.heap.size + 1 + 1 + 1, 0, none⟩), .pointer (some ⟨w.heap.size + 1 + 1 + 1 + 1, 0, none⟩)] (lawWorld w N L M 1 T) fun e w' =>
      e = .returned (.tuple #[]) ∧ ((∃ q cq, At w' w.heap.size 60 (recC (simC N L M 1 T (w.heap.size + 1 + 1)) q cq)) ∧ At w' (w.heap.size + 1) 63 ((procC 0).setIfInBounds 2 (.pointer (some ⟨w.heap.size + 1 + 1 + 1 + 1, 0, none⟩))) ∧ Below w.heap.size w w') := by
  have hz := lw_size w N L M 1 T
  refine ready_core w.heap.size (w.heap.size + 1) _ _ _ _ _ _ _ _ (lw_s w N L M 1 T) (simC_fresh _ _ _ _ _ _) (lw_p w N L M 1 T) (lw_g w N L M 1 T) (lw_w w N L M 1 T) rfl rfl rfl rfl rfl rfl (by omega) (by omega) (by omega) ?_
  intro X q cq cb m hm hq hcb hA hT' hF
  have hpX := (lw_p w N L M 1 T).fr hF (by omega)
  refine runNext_empty _ (w.heap.size + 1) _ _ (procC 0) X _ (((lw_g w N L M 1 T).fr hF (by omega)).cell 3 rfl) hpX rfl ?_
  rintro Y hY
  have F2 : Fr X Y (fun k => k = w.heap.size + 1) := by rw [hY]; exact (Fr.refl X (fun k => k = w.heap.size + 1)).setCell (p := ⟨w.heap.size + 1, 2, none⟩) (.inl rfl) _
  have hpY : At Y (w.heap.size + 1) 63 ((procC 0).setIfInBounds 2 (.pointer (some ⟨w.heap.size + 1 + 1 + 1 + 1, 0, none⟩))) := by rw [hY]; exact hpX.set 2 _
  have hAY := hA.fr F2 (by omega)
  refine (wake_busy w.heap.size _ Y hAY ((recC_low (by omega)).trans rfl)).mono ?_
  rintro e w' ⟨he, hw'⟩
  subst hw'
  refine ⟨he, ⟨q, cq, hAY⟩, hpY, ?_⟩
  exact ((lw_fr w N L M 1 T (fun k => w.heap.size ≤ k)).trans (hF.mono (fun k hk => by omega))).trans (F2.mono (fun k hk => by omega)) |>.below _ (Nat.le_refl _) (fun k hk => hk)
set_option maxRecDepth 100000 in
set_option maxHeartbeats 4000000 in
theorem lawWake (t x : Int) (b : Bool) (w : World) (h0 : 0 ≤ t ∧ t ≤ 255) (h1 : 0 ≤ x ∧ x ≤ 255) :
    Calls Ybaf.prog 4 #[.int .u8 t, .int .u8 x, .bool b] w fun e w' => e = .returned (.bool true) ∧ Below w.heap.size w w' := by
  cases b
  · go_enter Ybaf.func4, Ybaf.ntmps4
    go_wp2_with fail
    change Calls Ybaf.prog 7 _ (lawWorld w (2 + x % 6) 256 (t + 1 + x % 3) 0 t) _
    refine (ready_wakes w (2 + x % 6) 256 (t + 1 + x % 3) t (by omega) (by omega) (by omega) (by omega)).mono ?_
    rintro e w9 ⟨rfl, ⟨g, c', pb, ag, ca, y12, yg1, p0, p1, p7, p8, y38, y8, y9, y15, y20, hev⟩, hp, hB⟩
    have z2 : w9.cell? ⟨w.heap.size + 1, 2, none⟩ = some (.pointer (some ⟨w.heap.size + 1 + 1 + 1 + 1, 0, none⟩)) := hp.cell 2 rfl
    have z3 : w9.cell? ⟨w.heap.size + 1, 3, none⟩ = some (.slice none 0 0) := hp.cell 3 rfl
    have z4 : w9.cell? ⟨w.heap.size + 1, 3 + 1, none⟩ = some (.int .i64 0) := hp.cell 4 rfl
    have v0 : w9.cell? ⟨ag, 0, none⟩ = some (.int .i64 0) := hev 0 _ rfl
    have v1 : w9.cell? ⟨ag, 1, none⟩ = some (.int .u64 0) := hev 1 _ rfl
    have v2 : w9.cell? ⟨ag, 2, none⟩ = some (.int .u8 0) := hev 2 _ rfl
    have v3 : w9.cell? ⟨ag, 3, none⟩ = some (.pointer (some ⟨pb, 0, none⟩)) := hev 3 _ rfl
    have v4 : w9.cell? ⟨ag, 4, none⟩ = some (.pointer none) := hev 4 _ rfl
    have v5 : w9.cell? ⟨ag, 5, none⟩ = some (.int .i64 0) := hev 5 _ rfl
    have hn38 := neq38
    have he61 := eql61
    have HB := hide_all hB
    have HQ := hide_all (qlen_any (w.heap.size + 1) 3 0 0 none 0 w9 (by omega) (by omega) (by omega) z3 z4)
    have lag : ag < w9.heap.size := World.block_lt_of_cell? _ _ v0
    clear hev hp hB
    go_wp2_with fail
    refine HQ.out.mono ?_
    rintro e w10 ⟨rfl, m, hm⟩
    have hcell : ∀ b o, w9.cell? ⟨b, o, none⟩ = w10.cell? ⟨b, o, none⟩ := fun b o => by rw [hm]; rfl
    rw [hcell] at y12 yg1 p0 p1 p7 p8 y38 y8 y9 y15 y20 z2 v0 v1 v2 v3 v4 v5
    have HB' : Hid (Below w.heap.size w w10) := by rw [hm]; exact below_drewN HB.out m
    have lag' : ag < w10.heap.size := by rw [hm]; exact lag
    clear hcell hm HB lag z3 z4 HQ
    go_wp2
    go_ret
    exact ⟨rfl, HB'.out.alloc HB'.out.size _⟩
  · go_enter Ybaf.func4, Ybaf.ntmps4
    go_wp2_with fail
    change Calls Ybaf.prog 7 _ (lawWorld w (2 + x % 6) 256 (t + 1 + x % 3) 1 t) _
    refine (ready_still w (2 + x % 6) 256 (t + 1 + x % 3) t).mono ?_
    rintro e w9 ⟨rfl, ⟨q, cq, hA⟩, hp, hB⟩
    have z2 : w9.cell? ⟨w.heap.size + 1, 2, none⟩ = some (.pointer (some ⟨w.heap.size + 1 + 1 + 1 + 1, 0, none⟩)) := hp.cell 2 rfl
    have z3 : w9.cell? ⟨w.heap.size + 1, 3, none⟩ = some (.slice none 0 0) := hp.cell 3 rfl
    have z4 : w9.cell? ⟨w.heap.size + 1, 3 + 1, none⟩ = some (.int .i64 0) := hp.cell 4 rfl
    have y12 : w9.cell? ⟨w.heap.size, 12, none⟩ = some (.slice (some ⟨w.heap.size + 1 + 1, 0, none⟩) 1 1) := hA.cell 12 ((recC_low (by omega)).trans rfl)
    have y8 : w9.cell? ⟨w.heap.size, 8, none⟩ = some (.slice none 0 0) := hA.cell 8 ((recC_low (by omega)).trans rfl)
    have y9 : w9.cell? ⟨w.heap.size, 9, none⟩ = some (.int .u64 0) := hA.cell 9 ((recC_low (by omega)).trans rfl)
    have y15 : w9.cell? ⟨w.heap.size, 15, none⟩ = some (.int .i64 1) := hA.cell 15 ((recC_low (by omega)).trans rfl)
    have y20 : w9.cell? ⟨w.heap.size, 20, none⟩ = some .nilIface := hA.cell 20 ((recC_low (by omega)).trans rfl)
    have y38 : w9.cell? ⟨w.heap.size, 38, none⟩ = some (.int .i64 t) := hA.cell 38 ((recC_low (by omega)).trans rfl)
    have hn38 := neq38
    have HB := hide_all hB
    have HQ := hide_all (qlen_any (w.heap.size + 1) 3 0 0 none 0 w9 (by omega) (by omega) (by omega) z3 z4)
    clear hA hp hB
    go_wp2_with (go_at_call 9; refine HQ.out.mono ?_; rintro e w' ⟨rfl, m, rfl⟩)
    go_ret
    exact ⟨rfl, below_drewN HB.out m⟩
end Go.Proofs.YbulkcxmyFmt
