import Derived.Test.YbulkcxmyFmtLocal
import Derived.Test.YbulkcxmyFmtLawW
namespace Go.Proofs.YbulkcxmyFmt
open Go.ChangeShapes Go.WideShapes Go.ChangeAt Go.RowKit
set_option linter.unusedVariables false

theorem own_slice {w : World} {base e size n : Nat} {v : Value} {xs : List Value} (h : w.ownsRow base e size v n xs) : ∃ a c, v = .slice a n c := by
  rcases h.2 with ⟨h1, h2⟩ | ⟨g, cap, cur, hv, _⟩
  · exact ⟨none, 0, by rw [h1, h2]⟩
  · exact ⟨_, _, hv⟩

/-- what stands behind 'ready' -/
structure Done (W : World) (N gw : Nat) (ov : Int) (h n1 n2 : Nat) (LL LL2 : List Nat) (v1 v2 : Value) (zs : List Value) : Prop where
  c8 : W.cell? ⟨N, 8, none⟩ = some (.slice none 0 0)
  c10 : W.cell? ⟨N, 10, none⟩ = some v2
  c11 : W.cell? ⟨N, 10 + 1, none⟩ = some (.int .i64 0)
  c12 : W.cell? ⟨N, 12, none⟩ = some (.slice (some ⟨N + 1 + 1, 0, none⟩) 1 1)
  c15 : W.cell? ⟨N, 15, none⟩ = some (.int .i64 0)
  c20 : W.cell? ⟨N, 20, none⟩ = some .nilIface
  c32 : W.cell? ⟨N, 32, none⟩ = some (.int .i64 ov)
  d2 : W.cell? ⟨N + 1, 2, none⟩ = some (.pointer (some ⟨gw, 0, none⟩))
  d3 : W.cell? ⟨N + 1, 3, none⟩ = some v1
  d4 : W.cell? ⟨N + 1, 3 + 1, none⟩ = some (.int .i64 h)
  o1 : W.ownsRow N 38 1 v1 n1 zs
  o2 : W.ownsRow N 38 1 v2 n2 (ptrs LL2)
  e1 : n1 = 0 → v1 = .slice none 0 0 ∧ h = 0
  e2 : 0 < n1 → h < n1
  e3 : n2 = 0 → v2 = .slice none 0 0
  hz : ∀ i, i < n1 - h → zs[h + i]? = (ptrs LL)[i]?

theorem finish (N gw h n1 n2 : Nat) (ov LQ : Int) (LL LL2 : List Nat) (v1 v2 : Value) (zs : List Value) (C D : Array Value) (Y : World) (hs : At Y N 60 C) (hp : At Y (N + 1) 63 D) (hC : ∀ i, i < 40 → i ≠ 10 → i ≠ 32 → C[i]? = (simC 1 LQ 10000 0 0 (N + 1 + 1))[i]?)
    (c10 : C[10]? = some v2) (c32 : C[32]? = some (.int .i64 ov)) (hD : D.size = 12) (d3 : D[3]? = some v1) (d4 : D[4]? = some (.int .i64 h)) (o1 : Y.ownsRow N 38 1 v1 n1 zs) (o2 : Y.ownsRow N 38 1 v2 n2 (ptrs LL2)) (b1 : v1.ownBlock ≠ some (N + 1)) (b2 : v2.ownBlock ≠ some (N + 1))
    (e1 : n1 = 0 → v1 = .slice none 0 0 ∧ h = 0) (e2 : 0 < n1 → h < n1) (e3 : n2 = 0 → v2 = .slice none 0 0) (hz : ∀ i, i < n1 - h → zs[h + i]? = (ptrs LL)[i]?) (Z : World) (hZ : Z = Y.setCell ⟨N + 1, 2, none⟩ (.pointer (some ⟨gw, 0, none⟩))) :
    Calls Ybaf.prog 26 #[.pointer (some ⟨N, 0, none⟩)] Z fun e w' => e = .returned .nilIface ∧ Done w' N gw ov h n1 n2 LL LL2 v1 v2 zs ∧ Fr Y w' (fun k => k = N + 1) := by
  have F : Fr Y Z (fun k => k = N + 1) := by rw [hZ]; exact (Fr.refl Y (fun k => k = N + 1)).setCell (p := ⟨N + 1, 2, none⟩) (.inl rfl) _
  have P : At Z (N + 1) 63 (D.setIfInBounds 2 (.pointer (some ⟨gw, 0, none⟩))) := by rw [hZ]; exact hp.set 2 _
  have S := hs.fr F (by omega)
  refine (wake_none N 1 (N + 1 + 1) C Z S ((hC 0 (by omega) (by omega) (by omega)).trans rfl) ((hC 12 (by omega) (by omega) (by omega)).trans rfl) ((hC 13 (by omega) (by omega) (by omega)).trans rfl) ((hC 15 (by omega) (by omega) (by omega)).trans rfl)).mono ?_
  rintro e w' ⟨he, m, hm⟩
  have F' : Fr Z w' (fun k => k = N + 1) := by rw [hm]; exact (Fr.refl Z _).drewN m
  have F0 : Fr Z w' (fun _ => False) := by rw [hm]; exact (Fr.refl Z _).drewN m
  have P' := P.fr F0 id
  have S' := S.fr F0 id
  refine ⟨he, ⟨S'.cell 8 ((hC 8 (by omega) (by omega) (by omega)).trans rfl), S'.cell 10 c10, S'.cell 11 ((hC 11 (by omega) (by omega) (by omega)).trans rfl), S'.cell 12 ((hC 12 (by omega) (by omega) (by omega)).trans rfl), S'.cell 15 ((hC 15 (by omega) (by omega) (by omega)).trans rfl), S'.cell 20 ((hC 20 (by omega) (by omega) (by omega)).trans rfl), S'.cell 32 c32,
    P'.cell 2 (set_here (by omega)), P'.cell 3 ((set_ne' (by omega)).trans d3), P'.cell 4 ((set_ne' (by omega)).trans d4), ?_, ?_, e1, e2, e3, hz⟩, F.trans F'⟩
  · exact own_fr (own_fr o1 F (fun k hk e => b1 (e ▸ hk))) F0 (fun _ _ => id)
  · exact own_fr (own_fr o2 F (fun k hk e => b2 (e ▸ hk))) F0 (fun _ _ => id)

/-- what stands ahead of 'ready' -/
structure Pre (W : World) (N gb gw K gn : Nat) (LQ : Int) (px : Option Addr) (vi vg : Value) (Ls Ms : List Nat) (C D : Array Value) : Prop where
  s : At W N 60 C
  p : At W (N + 1) 63 D
  g : At W gb 67 (gC 1 N (some ⟨N + 1, 0, none⟩))
  w : At W gw 67 (gC 2 N none)
  csz : C.size = 61
  dsz : D.size = 12
  c : ∀ i, i ≠ 10 → C[i]? = (simC 1 LQ 10000 0 0 (N + 1 + 1))[i]?
  c10 : C[10]? = some vg
  d : ∀ i, i ≠ 2 → i ≠ 3 → D[i]? = (procC 0)[i]?
  d2 : D[2]? = some (.pointer px)
  d3 : D[3]? = some vi
  o1 : W.ownsRow N 38 1 vi K (ptrs Ls)
  o2 : W.ownsRow N 38 1 vg gn (ptrs Ms)
  l1 : Ls.length = K
  l2 : Ms.length = gn
  n1 : K = 0 → vi = .slice none 0 0
  n2 : gn = 0 → vg = .slice none 0 0
  b1 : ∀ k, vi.ownBlock = some k → N + 3 ≤ k ∧ k ≠ gb
  b2 : ∀ k, vg.ownBlock = some k → N + 3 ≤ k ∧ k ≠ gb ∧ vi.ownBlock ≠ some k
  hgb : N + 3 ≤ gb
  hgw : N + 3 ≤ gw

theorem Pre.fresh {W : World} {N gb gw K gn : Nat} {LQ : Int} {px : Option Addr} {vi vg : Value} {Ls Ms : List Nat} {C D : Array Value} (h : Pre W N gb gw K gn LQ px vi vg Ls Ms C D) : Fresh C where
  size := h.csz
  now := (h.c 7 (by omega)).trans rfl
  trace := (h.c 40 (by omega)).trans rfl
  prevAt := (h.c 41 (by omega)).trans rfl
  prevG := (h.c 43 (by omega)).trans rfl
  det := fun j hj => (h.c (46 + j) (by omega)).trans ((simC_fresh 1 LQ 10000 0 0 (N + 1 + 1)).det j hj)

theorem ready_A {W : World} {N gb gw K gn : Nat} {LQ : Int} {vi vg : Value} {Ls Ms : List Nat} {C D : Array Value} (h : Pre W N gb gw K gn LQ none vi vg Ls Ms C D) :
    Calls Ybaf.prog 7 #[.pointer (some ⟨gb, 0, none⟩), .pointer (some ⟨gw, 0, none⟩)] W fun e w' => e = .returned (.tuple #[]) ∧ Done w' N gw 0 0 K gn Ls Ms vi vg (ptrs Ls) ∧ Fr W w' (fun k => k = N ∨ k = N + 1) := by
  have hgb := h.hgb
  have hgw := h.hgw
  refine ready_core N (N + 1) gb gw C D _ _ W _ h.s h.fresh h.p h.g h.w ((h.d 0 (by omega) (by omega)).trans rfl) rfl rfl rfl rfl rfl (by omega) (by omega) (by omega) ?_
  intro X q cq cb m hm hq hcb hA hT hF
  have hpX := h.p.fr hF (by omega)
  refine runNext_empty _ (N + 1) _ _ D X _ ((h.g.fr hF (by omega)).cell 3 rfl) hpX h.d2 ?_
  intro Y hY
  refine (finish N gw 0 K gn 0 LQ Ls Ms vi vg (ptrs Ls) (recC C q cq) D X hA hpX (fun i h1 h2 h3 => (recC_low (by omega)).trans (h.c i h2)) ((recC_low (by omega)).trans h.c10) ((recC_low (by omega)).trans ((h.c 32 (by omega)).trans rfl)) h.dsz h.d3 ((h.d 4 (by omega) (by omega)).trans rfl)
    (own_fr h.o1 hF (fun k hk => by have := h.b1 k hk; omega)) (own_fr h.o2 hF (fun k hk => by have := h.b2 k hk; omega)) (fun e => by have := h.b1 _ e; omega) (fun e => by have := h.b2 _ e; omega) (fun e => ⟨h.n1 e, rfl⟩) (fun e => e) h.n2 (fun i hi => by rw [Nat.zero_add]) Y hY).mono ?_
  rintro e w' ⟨he, hD, hF'⟩
  exact ⟨he, hD, (hF.mono (fun k e => .inl e)).trans (hF'.mono (fun k e => .inr e))⟩

theorem ready_B {W : World} {N gb gw K gn x : Nat} {LQ : Int} {vi vg : Value} {Ls Ms : List Nat} {C D : Array Value} (h : Pre W N gb gw K gn LQ (some ⟨x, 0, none⟩) vi vg Ls Ms C D) (hK : (K : Int) < LQ) (hK' : K ≤ 300) :
    Calls Ybaf.prog 7 #[.pointer (some ⟨gb, 0, none⟩), .pointer (some ⟨gw, 0, none⟩)] W fun e w' => e = .returned (.tuple #[]) ∧ ∃ v1, Done w' N gw 0 0 (K + 1) gn (Ls ++ [x]) Ms v1 vg (ptrs (Ls ++ [x])) ∧ Fr W w' (fun k => k = N ∨ k = N + 1 ∨ vi.ownBlock = some k) := by
  have hgb := h.hgb
  have hgw := h.hgw
  refine ready_core N (N + 1) gb gw C D _ _ W _ h.s h.fresh h.p h.g h.w ((h.d 0 (by omega) (by omega)).trans rfl) rfl rfl rfl rfl rfl (by omega) (by omega) (by omega) ?_
  intro X q cq cb m hm hq hcb hA hT hF
  have hpX := h.p.fr hF (by omega)
  have zX := hF.size
  have lN := h.s.lt
  obtain ⟨a, c, hv⟩ := own_slice h.o1
  subst hv
  have nB : ∀ k, vg.ownBlock = some k → ¬ (k = N + 1 ∨ (Value.slice a K c).ownBlock = some k) := fun k hk e => by
    have := h.b2 k hk
    rcases e with e | e
    · omega
    · exact this.2.2 e
  refine runNext_full N (N + 1) gb gw x X _ _ ((h.g.fr hF (by omega)).cell 3 rfl) (hpX.cell 2 h.d2) (pushLocal_room N (N + 1) gb N K c x a LQ (recC C q cq) D (ptrs Ls) X hA hpX ((h.g.fr hF (by omega)).cell 3 rfl) ((recC_low (by omega)).trans ((h.c 2 (by omega)).trans rfl)) h.d3 ((h.d 4 (by omega) (by omega)).trans rfl) (by omega) hK
    (own_fr h.o1 hF (fun k hk => by have := h.b1 k hk; omega)) (by omega) (fun e => by have := h.b1 _ e; omega)) ?_ ?_
  · rintro Y ⟨g, c', A, O, hg, F⟩
    exact ⟨A.cell 2 ((set_ne' (by omega)).trans h.d2), A.frozen 2⟩
  · rintro Y ⟨g, c', A, O, hg, F⟩
    have hg' : g ≠ N + 1 := by
      rcases hg with e | e
      · have := h.b1 g e; omega
      · have := h.p.lt; omega
    refine (finish N gw 0 (K + 1) gn 0 LQ (Ls ++ [x]) Ms _ vg (ptrs (Ls ++ [x])) (recC C q cq) _ Y (hA.fr F ?_) A (fun i h1 h2 h3 => (recC_low (by omega)).trans (h.c i h2)) ((recC_low (by omega)).trans h.c10) ((recC_low (by omega)).trans ((h.c 32 (by omega)).trans rfl)) (by simpa using h.dsz) (set_here (by rw [h.dsz]; omega)) ((set_ne' (by omega)).trans ((h.d 4 (by omega) (by omega)).trans rfl))
      (by rw [ptrs_snoc]; exact O) (own_fr (own_fr h.o2 hF (fun k hk => by have := h.b2 k hk; omega)) F nB) (fun e => hg' (Option.some.inj e)) (fun e => by have := h.b2 _ e; omega) (fun e => by omega) (fun e => by omega) h.n2 (fun i hi => by rw [Nat.zero_add]) _ rfl).mono ?_
    · rintro (e | e)
      · omega
      · have := h.b1 _ e; omega
    · rintro e w' ⟨he, hD, hF'⟩
      exact ⟨he, _, hD, ((hF.mono (fun k e => .inl e)).trans (F.mono (fun k e => .inr e))).trans (hF'.mono (fun k e => .inr (.inl e)))⟩

theorem ready_C {W : World} {N gb gw K gn x half : Nat} {vi vg : Value} {Ls Ms : List Nat} {C D : Array Value} (h : Pre W N gb gw K gn (K : Int) (some ⟨x, 0, none⟩) vi vg Ls Ms C D) (hK : 2 ≤ K) (hK' : K ≤ 300) (hgn : gn ≤ 7) (hh : half = K / 2) :
    Calls Ybaf.prog 7 #[.pointer (some ⟨gb, 0, none⟩), .pointer (some ⟨gw, 0, none⟩)] W fun e w' => e = .returned (.tuple #[]) ∧ ∃ v1 v2 zs, Done w' N gw 1 half K (gn + half + 1) (Ls.drop half) (Ms ++ Ls.take half ++ [x]) v1 v2 zs ∧ Fr W w' (fun k => k = N ∨ k = N + 1 ∨ vi.ownBlock = some k ∨ vg.ownBlock = some k) := by
  have hgb := h.hgb
  have hgw := h.hgw
  refine ready_core N (N + 1) gb gw C D _ _ W _ h.s h.fresh h.p h.g h.w ((h.d 0 (by omega) (by omega)).trans rfl) rfl rfl rfl rfl rfl (by omega) (by omega) (by omega) ?_
  intro X q cq cb m hm hq hcb hA hT hF
  have hpX := h.p.fr hF (by omega)
  have zX := hF.size
  have lN := h.p.lt
  obtain ⟨g, c, hv, _, _⟩ := h.o1.form (by omega)
  subst hv
  obtain ⟨a2, c2, hv2⟩ := own_slice h.o2
  subst hv2
  have lg : g < W.heap.size := (h.o1.lt g rfl).2
  have b1 := h.b1 g rfl
  have l2 : ∀ k, (Value.slice a2 gn c2).ownBlock = some k → k < W.heap.size := fun k hk => (h.o2.lt k hk).2
  refine runNext_full N (N + 1) gb gw x X _ _ ((h.g.fr hF (by omega)).cell 3 rfl) (hpX.cell 2 h.d2)
    (pushLocal_over N (N + 1) gb N K c g x gn c2 half q cq cb m a2 (recC C q cq) D Ls Ms X hA hpX hT (by omega) ((h.g.fr hF (by omega)).cell 3 rfl) ((h.g.fr hF (by omega)).cell 0 rfl) (recC_size h.csz) h.dsz
      ((recC_low (by omega)).trans ((h.c 2 (by omega)).trans rfl)) ((recC_low (by omega)).trans ((h.c 7 (by omega)).trans rfl)) ((recC_low (by omega)).trans h.c10) ((recC_low (by omega)).trans ((h.c 11 (by omega)).trans rfl)) ((recC_low (by omega)).trans ((h.c 32 (by omega)).trans rfl)) (recC_41 h.csz) (recC_43 h.csz) ((recC_det (j := 5) (by omega)).trans ((h.c 51 (by omega)).trans rfl))
      ((h.d 0 (by omega) (by omega)).trans rfl) h.d3 ((h.d 4 (by omega) (by omega)).trans rfl) hK (by omega) (by omega) hh h.l1 h.l2
      (own_fr h.o1 hF (fun k hk => by have := h.b1 k hk; omega)) (own_fr h.o2 hF (fun k hk => by have := h.b2 k hk; omega)) (by omega)
      (by omega) (by omega) (by omega) (fun e => by have := h.b2 _ e; omega) (fun e => by have := h.b2 _ e; omega) (fun e => (h.b2 _ e).2.2 rfl)
      (by omega) (by omega) (by omega) (fun e => (h.b2 _ e).2.1 rfl) (by omega) (by omega) (by omega) (by omega) (fun e => by have := l2 _ e; omega) (fun e => by have := l2 _ e; omega)) ?_ ?_
  · rintro Y ⟨⟨g2, c2', zs, C', A, k10, k32, kk, ⟨D', B, bv, bs, bo⟩, O1, hz, O2, n1, n2⟩, F⟩
    exact ⟨B.cell 2 ((bo 2 (by omega)).trans h.d2), B.frozen 2⟩
  · rintro Y ⟨⟨g2, c2', zs, C', A, k10, k32, kk, ⟨D', B, bv, bs, bo⟩, O1, hz, O2, n1, n2⟩, F⟩
    refine (finish N gw half K (gn + half + 1) 1 (K : Int) (Ls.drop half) (Ms ++ Ls.take half ++ [x]) _ _ zs C' D' Y A B (fun i h1 h2 h3 => (kk i h1 h2 h3).trans ((recC_low (by omega)).trans (h.c i h2))) k10 k32 (bs.trans h.dsz) ((bo 3 (by omega)).trans h.d3) bv
      O1 O2 (fun e => by have : g = N + 1 := Option.some.inj e; omega) (fun e => n1 (Option.some.inj e)) (fun e => by omega) (fun e => by omega) (fun e => by omega) (fun i hi => by rw [hz _ (by omega)]; simp [ptrs]) _ rfl).mono ?_
    rintro e w' ⟨he, hD, hF'⟩
    refine ⟨he, _, _, zs, hD, ((hF.mono (fun k e => .inl e)).later F ?_).trans (hF'.mono (fun k e => .inr (.inl e)))⟩
    intro k hk e
    rcases e with e | e | e | e | e | e
    · exact .inl e
    · exact .inr (.inl e)
    · exact .inr (.inr (.inl (by rw [e]; rfl)))
    · exact .inr (.inr (.inr e))
    · omega
    · omega
end Go.Proofs.YbulkcxmyFmt
