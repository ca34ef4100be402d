import Derived.Test.YbulkcxmyFmtSlotR
import Derived.Maps.AppendAt
namespace Go.Proofs.YbulkcxmyFmt
open Go.ChangeShapes Go.WideShapes Go.ChangeAt Go.RowKit
set_option linter.unusedVariables false

/-- the two checks of a queue against what is wanted -/
theorem eq_any (b o n h base base' : Nat) (v vw : Value) (zs : List Value) (LL : List Nat) (w : World) (y0 : w.cell? ⟨b, o, none⟩ = some v) (y1 : w.cell? ⟨b, o + 1, none⟩ = some (.int .i64 h)) (hv : w.ownsRow base 38 1 v n zs) (hw : w.ownsRow base' 38 1 vw (n - h) (ptrs LL))
    (h0 : n = 0 → v = .slice none 0 0 ∧ h = 0) (h1 : 0 < n → h < n) (hn : n ≤ 1000) (hz : ∀ i, i < n - h → zs[h + i]? = (ptrs LL)[i]?) :
    Calls Ybaf.prog 8 #[.pointer (some ⟨b, o, none⟩), vw] w fun e w' => e = .returned (.bool true) ∧ ∃ m, w' = w.drewN m := by
  by_cases hn0 : n = 0
  · obtain ⟨rfl, rfl⟩ := h0 hn0
    subst hn0
    obtain ⟨aw, cw, rfl⟩ := own_slice hw
    exact eq_nil b o cw aw w y0 y1
  · have hlt := h1 (by omega)
    obtain ⟨g, c, rfl, _, _⟩ := hv.form (by omega)
    obtain ⟨gw, cw, rfl, _, _⟩ := hw.form (by omega)
    have hcc : n ≤ c ∧ c ≤ maxLen := by
      rcases hv.2 with ⟨h, h0⟩ | ⟨g', cap, cur, hv', _, _, h1, h2, _⟩
      · cases h
      · cases hv'; exact ⟨h1, h2⟩
    refine eq_some b o g n c h gw cw w y0 y1 hlt hn hcc.1 hcc.2 ?_
    intro i hi
    have hlen : (ptrs LL).length = n - h := by simpa using hw.1
    have hli : i < LL.length := by rw [ptrs_length] at hlen; omega
    have hp := ptrs_get (List.getElem?_eq_getElem hli)
    exact ⟨LL[i], (owns_cell hv ((hz i hi).trans hp)).1, (owns_cell hw hp).1⟩

theorem Done.fr {W W' : World} {N gw : Nat} {ov : Int} {h n1 n2 : Nat} {LL LL2 : List Nat} {v1 v2 : Value} {zs : List Value} (d : Done W N gw ov h n1 n2 LL LL2 v1 v2 zs) (f : Fr W W' (fun _ => False)) : Done W' N gw ov h n1 n2 LL LL2 v1 v2 zs :=
  have k : ∀ {b o v}, W.cell? ⟨b, o, none⟩ = some v → W'.cell? ⟨b, o, none⟩ = some v := fun hc => (cell_fr f (World.block_lt_of_cell? _ _ hc) id).trans hc
  ⟨k d.c8, k d.c10, k d.c11, k d.c12, k d.c15, k d.c20, k d.c32, k d.d2, k d.d3, k d.d4, own_fr d.o1 f (fun _ _ => id), own_fr d.o2 f (fun _ _ => id), d.e1, d.e2, d.e3, d.hz⟩

theorem Done.local {W : World} {N gw : Nat} {ov : Int} {h n1 n2 : Nat} {LL LL2 : List Nat} {v1 v2 vw : Value} {zs : List Value} (d : Done W N gw ov h n1 n2 LL LL2 v1 v2 zs) (hn : n1 ≤ 1000) (base' : Nat) (hw : W.ownsRow base' 38 1 vw (n1 - h) (ptrs LL)) :
    Calls Ybaf.prog 8 #[.pointer (some ⟨N + 1, 3, none⟩), vw] W fun e w' => e = .returned (.bool true) ∧ ∃ m, w' = W.drewN m :=
  eq_any (N + 1) 3 n1 h N base' v1 vw zs LL W d.d3 d.d4 d.o1 hw d.e1 d.e2 hn d.hz

theorem Done.global {W : World} {N gw : Nat} {ov : Int} {h n1 n2 : Nat} {LL LL2 : List Nat} {v1 v2 vw : Value} {zs : List Value} (d : Done W N gw ov h n1 n2 LL LL2 v1 v2 zs) (hn : n2 ≤ 1000) (base' : Nat) (hw : W.ownsRow base' 38 1 vw n2 (ptrs LL2)) :
    Calls Ybaf.prog 8 #[.pointer (some ⟨N, 10, none⟩), vw] W fun e w' => e = .returned (.bool true) ∧ ∃ m, w' = W.drewN m :=
  eq_any N 10 n2 0 N base' v2 vw _ LL2 W d.c10 d.c11 d.o2 hw (fun e => ⟨d.e3 e, rfl⟩) (fun e => e) hn (fun i hi => by rw [Nat.zero_add])

theorem pre_A {W : World} {N K gn GO : Nat} {LQ : Int} {vi vg : Value} {Ls Ms : List Nat} {simS : Array Value} (hsim : simS = simC 1 LQ 10000 0 0 (N + 1 + 1)) (B1 : But W N 60 simS 10 vg) (B2 : But W (N + 1) 63 (procC 0) 3 vi) (o1 : W.ownsRow N 38 1 vi K (ptrs Ls)) (o2 : W.ownsRow N 38 1 vg gn (ptrs Ms)) (l1 : Ls.length = K) (l2 : Ms.length = gn)
    (n1 : K = 0 → vi = .slice none 0 0) (n2 : gn = 0 → vg = .slice none 0 0) (b1 : ∀ k, vi.ownBlock = some k → N + 3 ≤ k ∧ k < GO) (b2 : ∀ k, vg.ownBlock = some k → GO < k) (hGO : N + 3 ≤ GO) (hW : GO < W.heap.size) :
    ∃ C D, Pre ((W.alloc (.cells (gC 1 N (some ⟨N + 1, 0, none⟩)) 67)).alloc (.cells (gC 2 N none) 67)) N W.heap.size (W.heap.size + 1) K gn LQ none vi vg Ls Ms C D := by
  obtain ⟨C, A, c10, csz, co⟩ := B1
  obtain ⟨D, B, d3, dsz, dd⟩ := B2
  subst hsim
  exact ⟨C, D, (A.alloc _).alloc _, (B.alloc _).alloc _, (At.new W 67 _).alloc _, At.newk (by simp) 67 _, csz, dsz, co, c10, fun i h1 h2 => dd i h2, (dd 2 (by omega)).trans rfl, d3, (o1.alloc _).alloc _, (o2.alloc _).alloc _, l1, l2, n1, n2,
    fun k hk => ⟨(b1 k hk).1, by have := (b1 k hk).2; omega⟩, fun k hk => ⟨by have := b2 k hk; omega, by have := (o2.lt k hk).2; omega, fun e => by have := b2 k hk; have := (b1 k e).2; omega⟩, by omega, by omega⟩

theorem news_row {w : World} {base g n cap : Nat} {L : List Nat} (h : w.ownsRow base 38 1 (.slice (some ⟨g, 0, none⟩) n cap) n (ptrs L)) (t : Nat) : ∀ j u, ((ptrs L).drop t)[j]? = some u → w.cell? ((⟨g, t, none⟩ : Addr).add j) = some u := by
  intro j u hj
  rw [List.getElem?_drop] at hj
  have := (owns_cell h hj).1
  unfold Addr.add
  split
  · rename_i h0; subst h0; exact this
  · exact this
theorem news_take {w : World} {base g n cap : Nat} {L : List Nat} (h : w.ownsRow base 38 1 (.slice (some ⟨g, 0, none⟩) n cap) n (ptrs L)) (t : Nat) : ∀ j u, ((ptrs L).take t)[j]? = some u → w.cell? ((⟨g, 0, none⟩ : Addr).add j) = some u := by
  intro j u hj
  rw [List.getElem?_take] at hj
  split at hj
  · exact news_row h 0 j u (by simpa using hj)
  · cases hj
theorem fresh_block {va v : Value} {n m : Nat} (h : va.ownBlock = v.ownBlock ∨ va.ownBlock = some m) (hv : ∀ k, v.ownBlock = some k → n ≤ k) (hm : n ≤ m) : ∀ k, va.ownBlock = some k → n ≤ k := by
  intro k hk
  rcases h with e | e
  · exact hv k (e ▸ hk)
  · rw [e] at hk; cases hk; exact hm
theorem Fr.app {w0 w w' : World} {v : Value} (F : Fr w0 w (fun _ => False)) (hg : w.grownBy w' v.ownBlock) (hv : ∀ k, v.ownBlock = some k → w0.heap.size ≤ k) : Fr w0 w' (fun _ => False) :=
  F.later (Fr.of_grown (T := fun k => v.ownBlock = some k) hg (fun k h => h)) (fun k hk h => by have := hv k h; omega)

/-- the world in which the law calls 'ready' with the slot taken -/
def slotWorld (W : World) (N : Nat) : World := (((W.setCell ⟨N + 1, 2, none⟩ (.pointer (some ⟨W.heap.size, 0, none⟩))).alloc (.cells (gC 5 N none) 67)).alloc (.cells (gC 1 N (some ⟨N + 1, 0, none⟩)) 67)).alloc (.cells (gC 2 N none) 67)

theorem pre_B {W : World} {N K gn GO : Nat} {LQ : Int} {vi vg : Value} {Ls Ms : List Nat} {simS : Array Value} (hsim : simS = simC 1 LQ 10000 0 0 (N + 1 + 1)) (B1 : But W N 60 simS 10 vg) (B2 : But W (N + 1) 63 (procC 0) 3 vi) (o1 : W.ownsRow N 38 1 vi K (ptrs Ls)) (o2 : W.ownsRow N 38 1 vg gn (ptrs Ms)) (l1 : Ls.length = K) (l2 : Ms.length = gn)
    (n1 : K = 0 → vi = .slice none 0 0) (n2 : gn = 0 → vg = .slice none 0 0) (b1 : ∀ k, vi.ownBlock = some k → N + 3 ≤ k ∧ k < GO) (b2 : ∀ k, vg.ownBlock = some k → GO < k) (hGO : N + 3 ≤ GO) (hW : GO < W.heap.size) :
    (∃ C D, Pre (slotWorld W N) N (W.heap.size + 1) (W.heap.size + 1 + 1) K gn LQ (some ⟨W.heap.size, 0, none⟩) vi vg Ls Ms C D) ∧ Fr W (slotWorld W N) (fun k => k = N + 1) := by
  obtain ⟨C, A, c10, csz, co⟩ := B1
  obtain ⟨D, B, d3, dsz, dd⟩ := B2
  subst hsim
  have F : Fr W (slotWorld W N) (fun k => k = N + 1) := ((((Fr.refl W (fun k => k = N + 1)).setCell (p := ⟨N + 1, 2, none⟩) (.inl rfl) _).alloc _).alloc _).alloc _
  refine ⟨⟨C, D.setIfInBounds 2 (.pointer (some ⟨W.heap.size, 0, none⟩)), A.fr F (by omega), (((B.set 2 _).alloc _).alloc _).alloc _, (At.newk (by simp) 67 _).alloc _, At.newk (by simp) 67 _, csz, by simpa [procC] using dsz, co, c10, fun i h1 h2 => (set_ne' (Ne.symm h1)).trans (dd i h2), set_here (by rw [dsz]; simp [procC]), (set_ne' (by omega)).trans d3, own_fr o1 F (fun k hk => by have := (b1 k hk).1; omega), own_fr o2 F (fun k hk => by have := b2 k hk; omega), l1, l2, n1, n2,
    fun k hk => ⟨(b1 k hk).1, by have := (b1 k hk).2; omega⟩, fun k hk => ⟨by have := b2 k hk; omega, by have := (o2.lt k hk).2; omega, fun e => by have := b2 k hk; have := (b1 k e).2; omega⟩, by omega, by omega⟩, F⟩

theorem ptrs_one {L : List Nat} : ∀ u ∈ ptrs L, u.oneCell' = true := by
  intro u hu
  obtain ⟨b, _, rfl⟩ := List.mem_map.1 hu
  rfl

set_option maxRecDepth 100000 in
set_option maxHeartbeats 4000000 in
theorem lawSlot (l k x : Int) (b : Bool) (w : World) (h0 : 0 ≤ l ∧ l ≤ 65535) (h1 : 0 ≤ k ∧ k ≤ 65535) (h2 : 0 ≤ x ∧ x ≤ 255) :
    Calls Ybaf.prog 3 #[.int .u16 l, .int .u16 k, .bool b, .int .u8 x] w fun e w' => e = .returned (.bool true) ∧ Below w.heap.size w w' := by
  obtain ⟨i0, hi, hz0, hz1, hz2⟩ := info_parts Ybaf.info38
  obtain ⟨LQ, hLQ⟩ : ∃ LQ : Nat, 2 + l % 299 = (LQ : Int) := ⟨(2 + l % 299).toNat, by omega⟩
  have bL : 2 ≤ LQ ∧ LQ ≤ 300 := by omega
  obtain ⟨K, hK⟩ : ∃ K : Nat, k % ((LQ : Int) + 1) = (K : Int) := ⟨(k % ((LQ : Int) + 1)).toNat, by have := Int.emod_nonneg k (show (LQ : Int) + 1 ≠ 0 by omega); omega⟩
  have bK : K ≤ LQ := by have := Int.emod_lt_of_pos k (show (0 : Int) < (LQ : Int) + 1 by omega); omega
  obtain ⟨gn, hg⟩ : ∃ gn : Nat, x % 8 = (gn : Int) := ⟨(x % 8).toNat, by omega⟩
  have bg : gn ≤ 7 := by omega
  go_enter Ybaf.func3, Ybaf.ntmps3
  go_upto_region 7 with fail
  rw [hK, hg]
  obtain ⟨W1, hW1⟩ : ∃ W1, W1 = ((w.alloc (.cells (simC 1 LQ 10000 0 0 (w.heap.size + 1 + 1)) 60)).alloc (.cells (procC 0) 63)).alloc (.cells #[.pointer (some ⟨w.heap.size + 1, 0, none⟩)] 61) := ⟨_, rfl⟩
  have hW1' := hW1
  unfold simC procC at hW1'
  rw [← hW1']
  have S1 : At W1 w.heap.size 60 (simC 1 LQ 10000 0 0 (w.heap.size + 1 + 1)) := by rw [hW1]; exact ((At.new w 60 _).alloc _).alloc _
  have P1 : At W1 (w.heap.size + 1) 63 (procC 0) := by rw [hW1]; exact (At.newk (by simp) 63 _).alloc _
  have R1 : At W1 (w.heap.size + 1 + 1) 61 #[.pointer (some ⟨w.heap.size + 1, 0, none⟩)] := by rw [hW1]; exact At.newk (by simp) 61 _
  have F1 : Fr w W1 (fun j => w.heap.size ≤ j) := by rw [hW1]; exact (((Fr.refl w _).alloc _).alloc _).alloc _
  have z1 : W1.heap.size = w.heap.size + 3 := by rw [hW1]; simp
  have HZ1 := hide_all z1
  have lz1 : w.heap.size + 3 ≤ W1.heap.size := by omega
  clear hW1 hW1' hLQ hK hg z1
  go_wp2_with (at_make; go_must (refine wpList_make_own _ rfl _ _ 30 rfl w.heap.size 38 i0 (.pointer none) 1 Ybaf.underlying30 hi hz0 hz1 _ _ _ K rfl rfl rfl ?b2 ?b3 ?b4 ?_))
  case b2 => rw [hz2]; omega
  case b3 => unfold maxLen; omega
  case b4 => omega
  intro w0 hown0 hgrow0
  obtain ⟨O, hO⟩ : ∃ O, O = W1.heap.size := ⟨_, rfl⟩
  rw [← hO] at hown0
  rw [← hO]
  have lO : w.heap.size + 3 ≤ O := by omega
  have lO0 : O < w0.heap.size := (hown0.lt O rfl).2
  have F0 : Fr W1 w0 (fun _ => False) := Fr.of_grown hgrow0 (fun k h => by cases h)
  have HS := hide_all (S1.fr F0 id)
  have HP := hide_all (P1.fr F0 id)
  have HR := hide_all (R1.fr F0 id)
  have HF : Hid (Fr w w0 (fun j => w.heap.size ≤ j)) := F1.trans (F0.mono (fun k h => h.elim))
  have HO := hide_all hown0
  clear hO S1 P1 R1 F1 HZ1 lz1 hown0 hgrow0 F0
  go_wp2
  obtain ⟨simS, hsim⟩ : ∃ S, S = simC 1 LQ 10000 0 0 (w.heap.size + 1 + 1) := ⟨_, rfl⟩
  rw [← hsim] at HS
  have HSIM := hide_all hsim
  clear hsim
  go_loopw [14, 15] (fun vo i wr => ∃ (j : Nat) (Ls : List Nat) (vi : Value), j ≤ K ∧ i = .int .i64 j ∧ Ls.length = j ∧ vo = .slice (some ⟨O, 0, none⟩) j K ∧ wr.ownsRow w.heap.size 38 1 (.slice (some ⟨O, 0, none⟩) j K) j (ptrs Ls) ∧
      At wr w.heap.size 60 simS ∧ But wr (w.heap.size + 1) 63 (procC 0) 3 vi ∧ At wr (w.heap.size + 1 + 1) 61 #[.pointer (some ⟨w.heap.size + 1, 0, none⟩)] ∧ wr.ownsRow w.heap.size 38 1 vi j (ptrs Ls) ∧ (j = 0 → vi = .slice none 0 0) ∧
      (∀ k, vi.ownBlock = some k → w.heap.size + 3 ≤ k ∧ k ≠ O) ∧ Fr w wr (fun j => w.heap.size ≤ j)) (fun _ i _ => K - (intOf i).toNat)
  case atStart => exact ⟨0, [], .slice none 0 0, Nat.zero_le _, rfl, rfl, rfl, HO.out, HS.out, But.of_at HP.out rfl, HR.out, World.ownsRow_nil _ _ _ _, fun _ => rfl, (fun k h => by simp [Value.ownBlock] at h), HF.out⟩
  case round =>
    obtain ⟨j, Ls, vi, hj, rfl, hlen, rfl, Oo, Ss, Pp, Rr, Oi, hnil, hdis, Ff⟩ := hrel
    clear HS HP HR HO HF
    by_cases hlt : j < K
    · obtain ⟨ai, ci, rfl⟩ := own_slice Oi
      have lOr : O < wr.heap.size := (Oo.lt O rfl).2
      have zr := Ff.size
      have lp := Pp.lt
      have HOo := hide_all Oo
      have HSs := hide_all Ss
      have HPp := hide_all Pp
      have HRr := hide_all Rr
      have HOi := hide_all Oi
      have HFf := hide_all Ff
      have HN := hide_all hnil
      have HL := hide_all hlen
      have HD := hide_all hdis
      clear Oo Ss Pp Rr Oi Ff hnil hlen hdis
      go_wp2_with (at_builtin; go_must (refine wpList_append_fits _ rfl (.tmp 62) (.tmp 64) 30 rfl w.heap.size 38 i0 1 Ybaf.underlying30 hi hz1 O j K _ rfl ((HOo.out.alloc _).alloc _) ⟨wr.heap.size + 1, 0, none⟩ 1 1 [.pointer (some ⟨wr.heap.size, 0, none⟩)] rfl rfl ?c1 ?c2 ?c3 ?_))
      case c1 => exact World.news_of_block (cs := #[.pointer (some ⟨wr.heap.size, 0, none⟩)]) (t := 38) (fr := (0, 0)) (new_two wr _ _)
      case c2 => simp [Value.oneCell']
      case c3 => omega
      intro w1 hown1 hgrow1
      have G1 : Fr wr w1 (fun k => k = O) := (((Fr.refl wr _).alloc _).alloc _).trans (Fr.of_grown hgrow1 (fun k h => (Option.some.inj h).symm))
      have P1 := HPp.out.fr G1 (by omega)
      obtain ⟨D', A', v', s', o'⟩ := P1
      have O1 := own_fr HOi.out G1 (fun k hk => (HD.out k hk).2)
      have zg := G1.size
      have HQ := hide_all (qpush_any (w.heap.size + 1) 3 63 w.heap.size j ci wr.heap.size ai D' _ w1 A' v' ((o' 4 (by omega)).trans rfl) O1 (by omega) (by omega) (fun e => by have := (HD.out _ e).1; omega))
      have HG := hide_all G1
      have Hs' := hide_all s'
      have Ho' := hide_all o'
      have HO1 : Hid (w1.ownsRow w.heap.size 38 1 (.slice (some ⟨O, 0, none⟩) (j + 1) K) (j + 1) (ptrs (Ls ++ [wr.heap.size]))) := by rw [ptrs_snoc]; exact hown1
      clear hown1 hgrow1 G1 A' v' s' o' O1 HOo HOi
      go_wp2_with fail
      refine HQ.out.mono ?_
      rintro e w2 ⟨rfl, g, c', A2, O2, hg, F2⟩
      have N1 : w.heap.size + 3 ≤ g ∧ g ≠ O := by
        rcases hg with h | h
        · exact HD.out g h
        · omega
      have nT : ∀ k, k ≠ w.heap.size + 1 → (k < w.heap.size + 3 ∨ k = O) → ¬ (k = w.heap.size + 1 ∨ (Value.slice ai j ci).ownBlock = some k) := by
        rintro k h1 h2 (h | h)
        · exact h1 h
        · have := HD.out k h; omega
      have R1 : Hid (w2.ownsRow w.heap.size 38 1 (.slice (some ⟨O, 0, none⟩) (j + 1) K) (j + 1) (ptrs (Ls ++ [wr.heap.size]))) := owns_fr' HO1.out F2 (nT O (by omega) (.inr rfl))
      have R2 : Hid (At w2 w.heap.size 60 simS) := (HSs.out.fr HG.out (by omega)).fr F2 (nT _ (by omega) (.inl (by omega)))
      have R3 : Hid (But w2 (w.heap.size + 1) 63 (procC 0) 3 (.slice (some ⟨g, 0, none⟩) (j + 1) c')) := But.put A2 Hs'.out (by simp [procC]) Ho'.out
      have R4 : Hid (At w2 (w.heap.size + 1 + 1) 61 #[.pointer (some ⟨w.heap.size + 1, 0, none⟩)]) := (HRr.out.fr HG.out (by omega)).fr F2 (nT _ (by omega) (.inl (by omega)))
      have R5 : Hid (w2.ownsRow w.heap.size 38 1 (.slice (some ⟨g, 0, none⟩) (j + 1) c') (j + 1) (ptrs (Ls ++ [wr.heap.size]))) := by rw [ptrs_snoc]; exact O2
      have R6 : Hid (Fr w w2 (fun j => w.heap.size ≤ j)) := (HFf.out.trans (HG.out.mono (fun k h => by omega))).trans (F2.mono (fun k h => by rcases h with h | h; omega; have := (HD.out k h).1; omega))
      have R7 : Hid ((Ls ++ [wr.heap.size]).length = j + 1) := by show _ = _; rw [List.length_append, HL.out]; rfl
      clear A2 O2 hg F2 nT HQ HG HO1 HSs HPp HRr HFf HN HL HD Hs' Ho'
      go_wp2
      go_roundw
      case rel => exact ⟨j + 1, Ls ++ [wr.heap.size], _, by omega, by go_num, R7.out, rfl, R1.out, R2.out, R3.out, R4.out, R5.out, fun h => by omega, fun k h => by cases h; exact N1, R6.out⟩
      case measure => simp [intOf]; omega
    · have hk' : K = j := by omega
      subst hk'
      clear hj hlt lO0
      rename World => W2
      go_wp2_with (at_make; go_must (refine wpList_make_own _ rfl _ _ 30 rfl w.heap.size 38 i0 (.pointer none) 1 Ybaf.underlying30 hi hz0 hz1 _ _ _ gn rfl rfl rfl ?b2 ?b3 ?b4 ?_))
      case b2 => rw [hz2]; omega
      case b3 => unfold maxLen; omega
      case b4 => exact Ff.size
      intro w3 hown3 hgrow3
      obtain ⟨GO, hGO⟩ : ∃ GO, GO = W2.heap.size := ⟨_, rfl⟩
      rw [← hGO] at hown3
      rw [← hGO]
      have zW2 := Ff.size
      have lGO : w.heap.size + 3 ≤ GO := by have := (Oo.lt O rfl).2; omega
      have nGO : O < GO := by have := (Oo.lt O rfl).2; omega
      have vGO : ∀ k, vi.ownBlock = some k → k < GO := fun k hk => by have := (Oi.lt k hk).2; omega
      have F3 : Fr W2 w3 (fun _ => False) := Fr.of_grown hgrow3 (fun k h => by cases h)
      have J1 : Hid (At w3 w.heap.size 60 simS) := Ss.fr F3 id
      have J2 : Hid (But w3 (w.heap.size + 1) 63 (procC 0) 3 vi) := Pp.fr F3 id
      have J3 : Hid (w3.ownsRow w.heap.size 38 1 (.slice (some ⟨O, 0, none⟩) K K) K (ptrs Ls)) := own_fr Oo F3 (fun _ _ => id)
      have J4 : Hid (w3.ownsRow w.heap.size 38 1 vi K (ptrs Ls)) := own_fr Oi F3 (fun _ _ => id)
      have J5 : Hid (Fr w w3 (fun j => w.heap.size ≤ j)) := Ff.trans (F3.mono (fun k h => h.elim))
      have J6 := hide_all hnil
      have J7 := hide_all hdis
      have J8 := hide_all hlen
      have J9 := hide_all hown3
      have J10 := hide_all vGO
      have hsim10 : simS[10]? = some (.slice none 0 0) := by rw [HSIM.out]; rfl
      have hsim11 : simS[11]? = some (.int .i64 0) := by rw [HSIM.out]; rfl
      have hsimz : simS.size = 61 := by rw [HSIM.out]; rfl
      clear hGO Oo Ss Pp Rr Oi Ff hnil hdis hlen hown3 hgrow3 F3 zW2 vGO
      go_wp2
      go_loopw [17, 18] (fun vo i wr => ∃ (j : Nat) (Ms : List Nat) (vg : Value), j ≤ gn ∧ i = .int .i64 j ∧ Ms.length = j ∧ vo = .slice (some ⟨GO, 0, none⟩) j gn ∧ wr.ownsRow w.heap.size 38 1 (.slice (some ⟨GO, 0, none⟩) j gn) j (ptrs Ms) ∧
          But wr w.heap.size 60 simS 10 vg ∧ But wr (w.heap.size + 1) 63 (procC 0) 3 vi ∧ wr.ownsRow w.heap.size 38 1 (.slice (some ⟨O, 0, none⟩) K K) K (ptrs Ls) ∧ wr.ownsRow w.heap.size 38 1 vi K (ptrs Ls) ∧ wr.ownsRow w.heap.size 38 1 vg j (ptrs Ms) ∧ (j = 0 → vg = .slice none 0 0) ∧
          (∀ k, vg.ownBlock = some k → GO < k) ∧ Fr w wr (fun j => w.heap.size ≤ j)) (fun _ i _ => gn - (intOf i).toNat)
      case atStart => exact ⟨0, [], .slice none 0 0, Nat.zero_le _, rfl, rfl, rfl, J9.out, But.of_at J1.out hsim10, J2.out, J3.out, J4.out, World.ownsRow_nil _ _ _ _, fun _ => rfl, (fun k h => by simp [Value.ownBlock] at h), J5.out⟩
      case round =>
        obtain ⟨j, Ms, vg, hj, rfl, hlen, rfl, Oo, Ss, Pp, Ro, Ri, Oi, hnil, hdis, Ff⟩ := hrel
        clear J1 J2 J3 J4 J5 J9
        by_cases hlt : j < gn
        · obtain ⟨ai, ci, rfl⟩ := own_slice Oi
          have lOr : GO < wr.heap.size := (Oo.lt GO rfl).2
          have zr := Ff.size
          have lp := Pp.lt
          have HOo := hide_all Oo
          have HSs := hide_all Ss
          have HPp := hide_all Pp
          have HRo := hide_all Ro
          have HRi := hide_all Ri
          have HOi := hide_all Oi
          have HFf := hide_all Ff
          have HN := hide_all hnil
          have HL := hide_all hlen
          have HD := hide_all hdis
          clear Oo Ss Pp Ro Ri Oi Ff hnil hlen hdis
          go_wp2_with (at_builtin; go_must (refine wpList_append_fits _ rfl (.tmp 83) (.tmp 85) 30 rfl w.heap.size 38 i0 1 Ybaf.underlying30 hi hz1 GO j gn _ rfl ((HOo.out.alloc _).alloc _) ⟨wr.heap.size + 1, 0, none⟩ 1 1 [.pointer (some ⟨wr.heap.size, 0, none⟩)] rfl rfl ?c1 ?c2 ?c3 ?_))
          case c1 => exact World.news_of_block (cs := #[.pointer (some ⟨wr.heap.size, 0, none⟩)]) (t := 38) (fr := (0, 0)) (new_two wr _ _)
          case c2 => simp [Value.oneCell']
          case c3 => omega
          intro w1 hown1 hgrow1
          have G1 : Fr wr w1 (fun k => k = GO) := (((Fr.refl wr _).alloc _).alloc _).trans (Fr.of_grown hgrow1 (fun k h => (Option.some.inj h).symm))
          have P1 := HSs.out.fr G1 (by omega)
          obtain ⟨D', A', v', s', o'⟩ := P1
          have O1 := own_fr HOi.out G1 (fun k hk => by have := HD.out k hk; omega)
          have zg := G1.size
          have HQ := hide_all (qpush_any w.heap.size 10 60 w.heap.size j ci wr.heap.size ai D' _ w1 A' v' ((o' 11 (by omega)).trans hsim11) O1 (by omega) (by omega) (fun e => by have := HD.out _ e; omega))
          have HG := hide_all G1
          have Hs' := hide_all s'
          have Ho' := hide_all o'
          have HO1 : Hid (w1.ownsRow w.heap.size 38 1 (.slice (some ⟨GO, 0, none⟩) (j + 1) gn) (j + 1) (ptrs (Ms ++ [wr.heap.size]))) := by rw [ptrs_snoc]; exact hown1
          clear hown1 hgrow1 G1 A' v' s' o' O1 HOo HOi
          go_wp2_with fail
          refine HQ.out.mono ?_
          rintro e w2 ⟨rfl, g, c', A2, O2, hg, F2⟩
          have N1 : GO < g := by
            rcases hg with h | h
            · exact HD.out g h
            · omega
          have nT : ∀ k, k ≠ w.heap.size → k ≤ GO → ¬ (k = w.heap.size ∨ (Value.slice ai j ci).ownBlock = some k) := by
            rintro k h1 h2 (h | h)
            · exact h1 h
            · have := HD.out k h; omega
          have R1 : Hid (w2.ownsRow w.heap.size 38 1 (.slice (some ⟨GO, 0, none⟩) (j + 1) gn) (j + 1) (ptrs (Ms ++ [wr.heap.size]))) := owns_fr' HO1.out F2 (nT GO (by omega) (by omega))
          have R2 : Hid (But w2 (w.heap.size + 1) 63 (procC 0) 3 vi) := (HPp.out.fr HG.out (by omega)).fr F2 (nT _ (by omega) (by omega))
          have R3 : Hid (But w2 w.heap.size 60 simS 10 (.slice (some ⟨g, 0, none⟩) (j + 1) c')) := But.put A2 Hs'.out (by omega) Ho'.out
          have R4 : Hid (w2.ownsRow w.heap.size 38 1 (.slice (some ⟨O, 0, none⟩) K K) K (ptrs Ls)) := owns_fr' (owns_fr' HRo.out HG.out (by omega)) F2 (nT _ (by omega) (by omega))
          have R8 : Hid (w2.ownsRow w.heap.size 38 1 vi K (ptrs Ls)) := own_fr (own_fr HRi.out HG.out (fun k hk => by have := J10.out k hk; omega)) F2 (fun k hk => nT _ (by have := J7.out k hk; omega) (by have := J10.out k hk; omega))
          have R5 : Hid (w2.ownsRow w.heap.size 38 1 (.slice (some ⟨g, 0, none⟩) (j + 1) c') (j + 1) (ptrs (Ms ++ [wr.heap.size]))) := by rw [ptrs_snoc]; exact O2
          have R6 : Hid (Fr w w2 (fun j => w.heap.size ≤ j)) := (HFf.out.trans (HG.out.mono (fun k h => by omega))).trans (F2.mono (fun k h => by rcases h with h | h; omega; have := HD.out k h; omega))
          have R7 : Hid ((Ms ++ [wr.heap.size]).length = j + 1) := by show _ = _; rw [List.length_append, HL.out]; rfl
          clear A2 O2 hg F2 nT HQ HG HO1 HSs HPp HRo HRi HFf HN HL HD Hs' Ho'
          go_wp2
          go_roundw
          case rel => exact ⟨j + 1, Ms ++ [wr.heap.size], _, by omega, by go_num, R7.out, rfl, R1.out, R3.out, R2.out, R4.out, R8.out, R5.out, fun h => by omega, fun k h => by cases h; exact N1, R6.out⟩
          case measure => simp [intOf]; omega
        · have hk' : gn = j := by omega
          subst hk'
          clear hj hlt
          rename World => W4
          cases b
          · obtain ⟨C, D, hPre⟩ := pre_A (W := W4) (GO := GO) HSIM.out Ss Pp Ri Oi J8.out hlen J6.out hnil (fun k hk => ⟨(J7.out k hk).1, J10.out k hk⟩) hdis lGO (Oo.lt GO rfl).2
            have Ffa : Fr w ((W4.alloc (.cells (gC 1 w.heap.size (some ⟨w.heap.size + 1, 0, none⟩)) 67)).alloc (.cells (gC 2 w.heap.size none) 67)) (fun j => w.heap.size ≤ j) := (Ff.alloc _).alloc _
            have Roa := (Ro.alloc (.cells (gC 1 w.heap.size (some ⟨w.heap.size + 1, 0, none⟩)) 67)).alloc (.cells (gC 2 w.heap.size none) 67)
            have Ooa := (Oo.alloc (.cells (gC 1 w.heap.size (some ⟨w.heap.size + 1, 0, none⟩)) 67)).alloc (.cells (gC 2 w.heap.size none) 67)
            have HPre := hide_all hPre
            have HFf := hide_all Ffa
            have HRo := hide_all Roa
            have HOo := hide_all Ooa
            have hlO : O ≠ w.heap.size ∧ O ≠ w.heap.size + 1 ∧ GO ≠ w.heap.size ∧ GO ≠ w.heap.size + 1 := by omega
            clear Oo Ss Pp Ro Ri Oi Ff hnil hdis hlen hPre Ffa Roa Ooa
            go_wp2_with fail
            refine (ready_A HPre.out).mono ?_
            rintro e w9 ⟨rfl, d9, f9⟩
            have HD := hide_all d9
            have HR : Hid (w9.ownsRow w.heap.size 38 1 (.slice (some ⟨O, 0, none⟩) K K) K (ptrs Ls)) := owns_fr' HRo.out f9 (by omega)
            have HG : Hid (w9.ownsRow w.heap.size 38 1 (.slice (some ⟨GO, 0, none⟩) gn gn) gn (ptrs Ms)) := owns_fr' HOo.out f9 (by omega)
            have HF : Hid (Fr w w9 (fun j => w.heap.size ≤ j)) := HFf.out.trans (f9.mono (fun k h => by omega))
            have z8 := d9.c8
            have z12 := d9.c12
            have z15 := d9.c15
            have z20 := d9.c20
            have z2 := d9.d2
            have hn38 := neq38
            have hz9 := HF.out.size
            have hll := hide_all HPre.out.l1
            have hlm := hide_all HPre.out.l2
            clear d9 f9 HRo HOo HFf HPre J6 J7 J8 J10
            go_upto_region 34 with (at_builtin; go_must (refine wpList_append_own_at _ rfl (.tmp 148) (.tmp 149) 30 rfl w.heap.size 38 i0 (.pointer none) 1 8 Ybaf.underlying30 hi hz0 hz1 hz2 rfl (by omega) (.slice none 0 0) 0 [] rfl (World.ownsRow_nil _ _ _ _) ⟨O, 0, none⟩ K K (ptrs Ls) rfl ?c1 ?c2 ptrs_one ?c3 ?c4 hz9 ?_))
            case c1 => rw [ptrs_length, hll.out, Nat.mul_one]
            case c2 => exact news_row HR.out 0
            case c3 => unfold maxLen; omega
            case c4 => omega
            intro va w10 hown10 hgrow10 _ _
            have F10 : Fr w9 w10 (fun _ => False) := Fr.of_grown hgrow10 (fun k h => by cases h)
            have HA10 := hide_all hown10
            have HD10 := hide_all (HD.out.fr F10)
            have HG10 := hide_all (own_fr HG.out F10 (fun _ _ => id))
            have HF10 : Hid (Fr w w10 (fun j => w.heap.size ≤ j)) := HF.out.trans (F10.mono (fun k h => h.elim))
            have hz10 := HF10.out.size
            clear F10 hown10 hgrow10 HD HR HG HF hz9 z8 z12 z15 z20 z2
            go_upto_region 35 with (at_builtin; go_must (refine wpList_append_own_at _ rfl (.tmp 151) (.tmp 152) 30 rfl w.heap.size 38 i0 (.pointer none) 1 8 Ybaf.underlying30 hi hz0 hz1 hz2 rfl (by omega) (.slice none 0 0) 0 [] rfl (World.ownsRow_nil _ _ _ _) ⟨GO, 0, none⟩ gn gn (ptrs Ms) rfl ?c1 ?c2 ptrs_one ?c3 ?c4 hz10 ?_))
            case c1 => rw [ptrs_length, hlm.out, Nat.mul_one]
            case c2 => exact news_row HG10.out 0
            case c3 => unfold maxLen; omega
            case c4 => omega
            intro vb w11 hown11 hgrow11 _ _
            have F11 : Fr w10 w11 (fun _ => False) := Fr.of_grown hgrow11 (fun k h => by cases h)
            have HD11 := hide_all (HD10.out.fr F11)
            have HA11 := hide_all (own_fr HA10.out F11 (fun _ _ => id))
            have HB11 := hide_all hown11
            have HF11 : Hid (Fr w w11 (fun j => w.heap.size ≤ j)) := HF10.out.trans (F11.mono (fun k h => h.elim))
            have z32 := HD11.out.c32
            have HC1 := hide_all (HD11.out.local (by omega) w.heap.size (by simpa using HA11.out))
            have HC2 := hide_all (fun m => (HD11.out.fr ((Fr.refl w11 (fun _ => False)).drewN m)).global (by omega) w.heap.size (own_fr HB11.out ((Fr.refl w11 (fun _ => False)).drewN m) (fun _ _ => id)))
            clear F11 hown11 hgrow11 HD10 HA10 HG10 HF10 hz10
            go_wp2_with fail
            refine HC1.out.mono ?_
            rintro e w12 ⟨rfl, m1, rfl⟩
            go_wp2_with fail
            refine (HC2.out m1).mono ?_
            rintro e w13 ⟨rfl, m2, rfl⟩
            go_wp2
            go_ret
            exact ⟨rfl, below_drewN (HF11.out.below _ (Nat.le_refl _) (fun k hk => hk)) (m1 + m2)⟩
          · obtain ⟨⟨C, D, hPre⟩, f4⟩ := pre_B (W := W4) (GO := GO) HSIM.out Ss Pp Ri Oi J8.out hlen J6.out hnil (fun k hk => ⟨(J7.out k hk).1, J10.out k hk⟩) hdis lGO (Oo.lt GO rfl).2
            have hlO : O ≠ w.heap.size ∧ O ≠ w.heap.size + 1 ∧ GO ≠ w.heap.size ∧ GO ≠ w.heap.size + 1 := by omega
            have HPre := hide_all hPre
            have HFf : Hid (Fr w (slotWorld W4 w.heap.size) (fun j => w.heap.size ≤ j)) := Ff.trans (f4.mono (fun k h => by omega))
            have HRo := hide_all (owns_fr' Ro f4 (by omega))
            have HOo := hide_all (owns_fr' Oo f4 (by omega))
            have hoi : Hid (∀ k, vi.ownBlock = some k → k ≠ O ∧ k < GO ∧ w.heap.size ≤ k) := fun k hk => ⟨(J7.out k hk).2, J10.out k hk, by have := (J7.out k hk).1; omega⟩
            have hog := hide_all hdis
            obtain ⟨D0, Ap, d3, dz, dd⟩ := Pp
            have y2 : W4.cell? ⟨w.heap.size + 1, 2, none⟩ = some (.pointer none) := Ap.cell 2 ((dd 2 (by omega)).trans rfl)
            have q2 := Ap.frozen 2
            have lp := Ap.lt
            clear Oo Ss Ro Ri Oi Ff hnil hdis hlen hPre f4 Ap d3 dz dd J6 J7 J8 J10
            go_wp2_with fail
            change Calls Ybaf.prog 7 _ (slotWorld W4 w.heap.size) _
            by_cases hKL : K < LQ
            · refine (ready_B HPre.out (by omega) (by omega)).mono ?_
              rintro e w9 ⟨rfl, v1, d9, f9⟩
              have HD := hide_all d9
              have HR : Hid (w9.ownsRow w.heap.size 38 1 (.slice (some ⟨O, 0, none⟩) K K) K (ptrs Ls)) := owns_fr' HRo.out f9 (by rintro (h | h | h); omega; omega; exact (hoi.out _ h).1 rfl)
              have HG : Hid (w9.ownsRow w.heap.size 38 1 (.slice (some ⟨GO, 0, none⟩) gn gn) gn (ptrs Ms)) := owns_fr' HOo.out f9 (by rintro (h | h | h); omega; omega; have := hoi.out _ h; omega)
              have HF : Hid (Fr w w9 (fun j => w.heap.size ≤ j)) := HFf.out.trans (f9.mono (fun k h => by rcases h with h | h | h; omega; omega; exact (hoi.out _ h).2.2))
              have z8 := d9.c8
              have z12 := d9.c12
              have z15 := d9.c15
              have z20 := d9.c20
              have z2 := d9.d2
              have hn38 := neq38
              have hz9 := HF.out.size
              have hll := hide_all HPre.out.l1
              have hlm := hide_all HPre.out.l2
              clear d9 f9 HRo HOo HFf HPre y2 q2 lp hoi hog
              go_upto_region 37 with (at_builtin; go_must (refine wpList_append_own_at _ rfl (.tmp 157) (.tmp 158) 30 rfl w.heap.size 38 i0 (.pointer none) 1 8 Ybaf.underlying30 hi hz0 hz1 hz2 rfl (by omega) (.slice none 0 0) 0 [] rfl (World.ownsRow_nil _ _ _ _) ⟨O, 0, none⟩ K K (ptrs Ls) rfl ?c1 ?c2 ?c5 ?c3 ?c4 hz9 ?_))
              case c1 => rw [ptrs_length, hll.out, Nat.mul_one]
              case c2 => exact news_row HR.out 0
              case c5 => exact ptrs_one
              case c3 => unfold maxLen; omega
              case c4 => omega
              intro va w10 hown10 hgrow10 _ hb10
              have V10 : Hid (∀ k, va.ownBlock = some k → w9.heap.size ≤ k) := fresh_block hb10 (fun k h => by cases h) (Nat.le_refl _)
              have F10 : Hid (Fr w9 w10 (fun _ => False)) := Fr.of_grown hgrow10 (fun k h => by cases h)
              have HA10 := hide_all hown10
              have hz10 : w.heap.size ≤ w10.heap.size := Nat.le_trans hz9 F10.out.size
              have hz910 := F10.out.size
              clear hown10 hgrow10 hb10 z8 z12 z15 z20 z2
              go_upto_region 38 with (at_builtin; go_must (refine wpList_append_own_at _ rfl (.tmp 160) (.tmp 162) 30 rfl w.heap.size 38 i0 (.pointer none) 1 8 Ybaf.underlying30 hi hz0 hz1 hz2 rfl (by omega) va K (ptrs Ls) rfl (HA10.out.alloc _) ⟨w10.heap.size, 0, none⟩ 1 1 [.pointer (some ⟨W4.heap.size, 0, none⟩)] rfl ?c1 ?c2 ?c5 ?c3 ?c4 ?c6 ?_))
              case c1 => rfl
              case c2 => exact cell_one_new _ _ _
              case c5 => simp [Value.oneCell']
              case c3 => unfold maxLen; omega
              case c4 => omega
              case c6 => simp; omega
              intro vb w11 hown11 hgrow11 _ _
              have F11 : Hid (Fr w9 w11 (fun _ => False)) := Fr.app (F10.out.alloc _) hgrow11 V10.out
              have HB11 : Hid (w11.ownsRow w.heap.size 38 1 vb (K + 1) (ptrs (Ls ++ [W4.heap.size]))) := by rw [ptrs_snoc]; exact hown11
              have hz11 : w.heap.size ≤ w11.heap.size := Nat.le_trans hz9 F11.out.size
              have HG11 := hide_all (own_fr HG.out F11.out (fun _ _ => id))
              clear hown11 hgrow11 HA10 F10 V10 hz910 hz10
              go_upto_region 45 with (at_builtin; go_must (refine wpList_append_own_at _ rfl (.tmp 164) (.tmp 165) 30 rfl w.heap.size 38 i0 (.pointer none) 1 8 Ybaf.underlying30 hi hz0 hz1 hz2 rfl (by omega) (.slice none 0 0) 0 [] rfl (World.ownsRow_nil _ _ _ _) ⟨GO, 0, none⟩ gn gn (ptrs Ms) rfl ?c1 ?c2 ?c5 ?c3 ?c4 hz11 ?_))
              case c1 => rw [ptrs_length, hlm.out, Nat.mul_one]
              case c2 => exact news_row HG11.out 0
              case c5 => exact ptrs_one
              case c3 => unfold maxLen; omega
              case c4 => omega
              intro vc w12 hown12 hgrow12 _ _
              have F12 : Hid (Fr w9 w12 (fun _ => False)) := F11.out.app hgrow12 (fun k h => by cases h)
              have G12 : Fr w11 w12 (fun _ => False) := Fr.of_grown hgrow12 (fun k h => by cases h)
              have HD12 := hide_all (HD.out.fr F12.out)
              have HB12 := hide_all (own_fr HB11.out G12 (fun _ _ => id))
              have HC12 := hide_all hown12
              have HF12 : Hid (Fr w w12 (fun j => w.heap.size ≤ j)) := HF.out.trans (F12.out.mono (fun k h => h.elim))
              have z32 := HD12.out.c32
              have HC1 := hide_all (HD12.out.local (by omega) w.heap.size (by simpa using HB12.out))
              have HC2 := hide_all (fun m => (HD12.out.fr ((Fr.refl w12 (fun _ => False)).drewN m)).global (by omega) w.heap.size (own_fr HC12.out ((Fr.refl w12 (fun _ => False)).drewN m) (fun _ _ => id)))
              clear hown12 hgrow12 F11 F12 G12 HB11 HG11 HD HR HG HF hz11
              go_wp2_with fail
              refine HC1.out.mono ?_
              rintro e w13 ⟨rfl, m1, rfl⟩
              go_wp2_with fail
              refine (HC2.out m1).mono ?_
              rintro e w14 ⟨rfl, m2, rfl⟩
              go_wp2
              go_ret
              exact ⟨rfl, below_drewN (HF12.out.below _ (Nat.le_refl _) (fun k hk => hk)) (m1 + m2)⟩
            · have hKL' : K = LQ := by omega
              subst hKL'
              obtain ⟨half, hh⟩ : ∃ half, half = K / 2 := ⟨_, rfl⟩
              refine (ready_C HPre.out (by omega) (by omega) (by omega) hh).mono ?_
              rintro e w9 ⟨rfl, v1, v2, zs, d9, f9⟩
              have HD := hide_all d9
              have HR : Hid (w9.ownsRow w.heap.size 38 1 (.slice (some ⟨O, 0, none⟩) K K) K (ptrs Ls)) := owns_fr' HRo.out f9 (by rintro (h | h | h | h); omega; omega; exact (hoi.out _ h).1 rfl; have := hog.out _ h; omega)
              have HG : Hid (w9.ownsRow w.heap.size 38 1 (.slice (some ⟨GO, 0, none⟩) gn gn) gn (ptrs Ms)) := owns_fr' HOo.out f9 (by rintro (h | h | h | h); omega; omega; have := hoi.out _ h; omega; have := hog.out _ h; omega)
              have HF : Hid (Fr w w9 (fun j => w.heap.size ≤ j)) := HFf.out.trans (f9.mono (fun k h => by rcases h with h | h | h | h; omega; omega; exact (hoi.out _ h).2.2; have := hog.out _ h; omega))
              have z8 := d9.c8
              have z12 := d9.c12
              have z15 := d9.c15
              have z20 := d9.c20
              have z2 := d9.d2
              have hn38 := neq38
              have hz9 := HF.out.size
              have hll := hide_all HPre.out.l1
              have hlm := hide_all HPre.out.l2
              have hdiv : (K : Int) / 2 = (half : Int) := by omega
              have hh0 : (0 : Int) ≤ (half : Int) := by omega
              have hh1 : (half : Int) ≤ (K : Int) := by omega
              have hh2 : half ≤ K := by omega
              clear d9 f9 HRo HOo HFf HPre y2 q2 lp hoi hog hKL hh
              go_upto_region 41 with (at_builtin; go_must (refine wpList_append_own_at _ rfl (.tmp 169) (.tmp 170) 30 rfl w.heap.size 38 i0 (.pointer none) 1 8 Ybaf.underlying30 hi hz0 hz1 hz2 rfl (by omega) (.slice none 0 0) 0 [] rfl (World.ownsRow_nil _ _ _ _) ⟨GO, 0, none⟩ gn gn (ptrs Ms) rfl ?c1 ?c2 ?c5 ?c3 ?c4 hz9 ?_))
              case c1 => rw [ptrs_length, hlm.out, Nat.mul_one]
              case c2 => exact news_row HG.out 0
              case c5 => exact ptrs_one
              case c3 => unfold maxLen; omega
              case c4 => omega
              intro va w10 hown10 hgrow10 _ hb10
              have V10 : Hid (∀ k, va.ownBlock = some k → w9.heap.size ≤ k) := fresh_block hb10 (fun k h => by cases h) (Nat.le_refl _)
              have F10 : Hid (Fr w9 w10 (fun _ => False)) := Fr.of_grown hgrow10 (fun k h => by cases h)
              have HA10 := hide_all hown10
              have hz10 : w.heap.size ≤ w10.heap.size := Nat.le_trans hz9 F10.out.size
              have hz910 := F10.out.size
              have HR10 := hide_all (own_fr HR.out F10.out (fun _ _ => id))
              clear hown10 hgrow10 hb10 z8 z12 z15 z20 z2
              go_upto_region 42 with (at_builtin; go_must (refine wpList_append_own_at _ rfl (.tmp 172) (.tmp 175) 30 rfl w.heap.size 38 i0 (.pointer none) 1 8 Ybaf.underlying30 hi hz0 hz1 hz2 rfl (by omega) va gn (ptrs Ms) rfl HA10.out ⟨O, 0, none⟩ half K ((ptrs Ls).take half) rfl ?c1 ?c2 ?c5 ?c3 ?c4 hz10 ?_))
              case c1 => rw [List.length_take, ptrs_length, hll.out]; omega
              case c2 => exact news_take HR10.out half
              case c5 => exact fun u hu => ptrs_one u (List.mem_of_mem_take hu)
              case c3 => unfold maxLen; omega
              case c4 => omega
              intro vb w11 hown11 hgrow11 _ hb11
              have V11 : Hid (∀ k, vb.ownBlock = some k → w9.heap.size ≤ k) := fresh_block hb11 V10.out hz910
              have F11 : Hid (Fr w9 w11 (fun _ => False)) := F10.out.app hgrow11 V10.out
              have HB11 : Hid (w11.ownsRow w.heap.size 38 1 vb (gn + half) (ptrs Ms ++ List.take half (ptrs Ls))) := hown11
              have hz11 : w.heap.size ≤ w11.heap.size := Nat.le_trans hz9 F11.out.size
              have hz911 := F11.out.size
              clear hown11 hgrow11 hb11 HA10 F10 V10 hz910 hz10 HR10
              go_upto_region 43 with (at_builtin; go_must (refine wpList_append_own_at _ rfl (.tmp 177) (.tmp 179) 30 rfl w.heap.size 38 i0 (.pointer none) 1 8 Ybaf.underlying30 hi hz0 hz1 hz2 rfl (by omega) vb (gn + half) (ptrs Ms ++ List.take half (ptrs Ls)) rfl (HB11.out.alloc _) ⟨w11.heap.size, 0, none⟩ 1 1 [.pointer (some ⟨W4.heap.size, 0, none⟩)] rfl ?c1 ?c2 ?c5 ?c3 ?c4 ?c6 ?_))
              case c1 => rfl
              case c2 => exact cell_one_new _ _ _
              case c5 => simp [Value.oneCell']
              case c3 => unfold maxLen; omega
              case c4 => omega
              case c6 => simp; omega
              intro vc w12 hown12 hgrow12 _ _
              have F12 : Hid (Fr w9 w12 (fun _ => False)) := Fr.app (F11.out.alloc _) hgrow12 V11.out
              have HB12 : Hid (w12.ownsRow w.heap.size 38 1 vc (gn + half + 1) (ptrs (Ms ++ Ls.take half ++ [W4.heap.size]))) := by
                have e : ptrs (Ms ++ Ls.take half ++ [W4.heap.size]) = ptrs Ms ++ (List.take half (ptrs Ls) ++ [.pointer (some ⟨W4.heap.size, 0, none⟩)]) := by simp [ptrs, List.map_take]
                rw [e]; exact hown12
              have hz12 : w.heap.size ≤ w12.heap.size := Nat.le_trans hz9 F12.out.size
              have HR12 := hide_all (own_fr HR.out F12.out (fun _ _ => id))
              clear hown12 hgrow12 F11 V11 HB11 hz911 hz11
              go_upto_region 44 with (at_builtin; go_must (refine wpList_append_own_at _ rfl (.tmp 181) (.tmp 184) 30 rfl w.heap.size 38 i0 (.pointer none) 1 8 Ybaf.underlying30 hi hz0 hz1 hz2 rfl (by omega) (.slice none 0 0) 0 [] rfl (World.ownsRow_nil _ _ _ _) ⟨O, half, none⟩ (K - half) (K - half) ((ptrs Ls).drop half) rfl ?c1 ?c2 ?c5 ?c3 ?c4 hz12 ?_))
              case c1 => rw [List.length_drop, ptrs_length, hll.out, Nat.mul_one]
              case c2 => exact news_row HR12.out half
              case c5 => exact fun u hu => ptrs_one u (List.mem_of_mem_drop hu)
              case c3 => unfold maxLen; omega
              case c4 => omega
              intro vd w13 hown13 hgrow13 _ _
              have F13 : Hid (Fr w9 w13 (fun _ => False)) := F12.out.app hgrow13 (fun k h => by cases h)
              have G13 : Fr w12 w13 (fun _ => False) := Fr.of_grown hgrow13 (fun k h => by cases h)
              have HD13 := hide_all (HD.out.fr F13.out)
              have HB13 := hide_all (own_fr HB12.out G13 (fun _ _ => id))
              have HC13 : Hid (w13.ownsRow w.heap.size 38 1 vd (K - half) (ptrs (Ls.drop half))) := by
                have e : ptrs (Ls.drop half) = List.drop half (ptrs Ls) := by simp [ptrs, List.map_drop]
                rw [e]; exact hown13
              have HF13 : Hid (Fr w w13 (fun j => w.heap.size ≤ j)) := HF.out.trans (F13.out.mono (fun k h => h.elim))
              have z32 := HD13.out.c32
              have HC1 := hide_all (HD13.out.local (by omega) w.heap.size HC13.out)
              have HC2 := hide_all (fun m => (HD13.out.fr ((Fr.refl w13 (fun _ => False)).drewN m)).global (by omega) w.heap.size (own_fr HB13.out ((Fr.refl w13 (fun _ => False)).drewN m) (fun _ _ => id)))
              clear hown13 hgrow13 F12 F13 G13 HB12 HR12 HD HR HG HF hz12
              go_wp2_with fail
              refine HC1.out.mono ?_
              rintro e w14 ⟨rfl, m1, rfl⟩
              go_wp2_with fail
              refine (HC2.out m1).mono ?_
              rintro e w15 ⟨rfl, m2, rfl⟩
              go_wp2
              go_ret
              exact ⟨rfl, below_drewN (HF13.out.below _ (Nat.le_refl _) (fun k hk => hk)) (m1 + m2)⟩
end Go.Proofs.YbulkcxmyFmt
