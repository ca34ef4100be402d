import Derived.Test.YbulkcxmkRows
import Derived.Test.YbulkcxmkLaw
import Derived.WalkKit
import Derived.ProofKit
import Derived.OpenShut
import Derived.ShutString
import Derived.ChangeOld
import Derived.Below
import Derived.Deep.Slices
import Derived.Deep.Strs
namespace Go.Proofs.Ybulkcxmk
open Go.ChangeShapes Go.WideShapes Go.ChangeAt Go.RowKit
open Go.Deep
set_option linter.unusedVariables false

theorem own : ownKnob Yba.prog.godebug = none := by kernel_rfl
theorem laidOut : laidOutB Yba.prog = true := by kernel_rfl
theorem Yba.cells33 : Yba.prog.cellsOf 33 = 3 := by kernel_rfl
theorem Yba.cells23 : Yba.prog.cellsOf 23 = 4 := by kernel_rfl
theorem Yba.cells5 : Yba.prog.cellsOf 5 = 1 := by kernel_rfl
theorem Yba.cells9 : Yba.prog.cellsOf 9 = 1 := by kernel_rfl

/-- what the walk is told of the slice of events that came in -/
def IsEvs (w : World) (a : Option Addr) (len : Nat) (b off : Nat) (kf tf : Nat → Int) (gf : Nat → ByteArray) : Prop :=
  len ≤ maxLen ∧ (0 < len → a = some ⟨b, off, none⟩) ∧ (∀ i, i < len → w.cell? ⟨b, off + i * 3, none⟩ = some (.int .u8 (kf i))) ∧ (∀ i, i < len → w.cell? ⟨b, off + i * 3 + 1, none⟩ = some (.int .u8 (tf i))) ∧
    (∀ i, i < len → w.cell? ⟨b, off + i * 3 + 2, none⟩ = some (.string (gf i))) ∧ (∀ i, i < len → 0 ≤ kf i ∧ kf i ≤ 255) ∧ (∀ i, i < len → 0 ≤ tf i ∧ tf i ≤ 255)

theorem open_evs {P : Program} {f0 f1 f2 : Field} (u22 : P.underlying 22 = some (.slice 33)) (u33 : P.underlying 33 = some (.struct #[f0, f1, f2])) (t0 : f0.type = 5) (t1 : f1.type = 5) (t2 : f2.type = 9) (o0 : f0.offset = 0) (o1 : f1.offset = 1) (o2 : f2.offset = 2)
    (u5 : P.underlying 5 = some (.int .u8)) (u9 : P.underlying 9 = some .string) (z33 : P.cellsOf 33 = 3) (z5 : P.cellsOf 5 = 1) (z9 : P.cellsOf 9 = 1) {H : Type} {enc : TypeId × Value → H} {w : World} {base : Nat} {spare : Nat → Bool} {held : Bool} {fuel : Nat} {a : Option Addr} {len cap : Nat} {x : DataW H × List MemPlace}
    (h : DataW.trod enc P w base spare held fuel 22 [.slice a len cap] = some x) : ∃ b off kf tf gf, IsEvs w a len b off kf tf gf := by
  rcases open_slice u22 h with ⟨hcs, _⟩ | ⟨ad, len', cap', m, n, D, Pl, hcs, hb, hl, hm, hmm, hx, hel⟩
  · simp at hcs
    obtain ⟨rfl, rfl, rfl⟩ := hcs
    exact ⟨0, 0, fun _ => 0, fun _ => 0, fun _ => ByteArray.empty, Nat.zero_le _, fun h => by omega, fun i h => by omega, fun i h => by omega, fun i h => by omega, fun i h => by omega, fun i h => by omega⟩
  · simp at hcs
    obtain ⟨rfl, rfl, rfl⟩ := hcs
    have hlm : len ≤ m := by rw [hmm]; split <;> omega
    have each : ∀ i, i < len → ∃ (p : Int × Int × ByteArray), w.cell? ((ad.add (i * 3)).add 0) = some (.int .u8 p.1) ∧ w.cell? ((ad.add (i * 3)).add 1) = some (.int .u8 p.2.1) ∧ w.cell? ((ad.add (i * 3)).add 2) = some (.string p.2.2) ∧
        (0 ≤ p.1 ∧ p.1 ≤ 255) ∧ (0 ≤ p.2.1 ∧ p.2.1 ≤ 255) := by
      intro i hi
      obtain ⟨cs', h1, h2⟩ := hel i (by omega)
      rw [z33] at h1
      obtain ⟨_, hlen, hcell⟩ := World.cells?_some h1
      obtain ⟨y0, y1, y2, n', _, _, g0, g1, g2⟩ := trod_struct3 u33 h2
      match cs', hlen with
      | [v0, v1, v2], _ =>
        rw [t0, o0, z5] at g0
        rw [t1, o1, z5] at g1
        rw [t2, o2, z9] at g2
        simp only [List.drop, List.take] at g0 g1 g2
        obtain ⟨k0, e0, _, wk⟩ := DataW.trod_int u5 g0
        obtain ⟨x0, e1, _, wt⟩ := DataW.trod_int u5 g1
        obtain ⟨s0, e2, _, _⟩ := DataW.trod_string u9 g2
        simp at e0 e1 e2
        subst e0 e1 e2
        exact ⟨(k0, x0, s0), hcell 0 (by omega), hcell 1 (by omega), hcell 2 (by omega), bounds_u8 wk, bounds_u8 wt⟩
    by_cases h0 : len = 0
    · subst h0
      exact ⟨0, 0, fun _ => 0, fun _ => 0, fun _ => ByteArray.empty, Nat.zero_le _, fun h => by omega, fun i h => by omega, fun i h => by omega, fun i h => by omega, fun i h => by omega, fun i h => by omega⟩
    · obtain ⟨b, off, spot⟩ := ad
      obtain ⟨p0, hp0, _⟩ := each 0 (by omega)
      have hspot : spot = none := by simpa [Addr.add] using World.cell?_spot hp0
      subst hspot
      obtain ⟨f, hf⟩ : ∃ f : Nat → Int × Int × ByteArray, ∀ i, i < len → w.cell? ⟨b, off + i * 3, none⟩ = some (.int .u8 (f i).1) ∧ w.cell? ⟨b, off + i * 3 + 1, none⟩ = some (.int .u8 (f i).2.1) ∧ w.cell? ⟨b, off + i * 3 + 2, none⟩ = some (.string (f i).2.2) ∧
          (0 ≤ (f i).1 ∧ (f i).1 ≤ 255) ∧ (0 ≤ (f i).2.1 ∧ (f i).2.1 ≤ 255) := by
        refine ⟨fun i => if h : i < len then (each i h).choose else (0, 0, ByteArray.empty), fun i hi => ?_⟩
        simp only [hi, dif_pos]
        have := (each i hi).choose_spec
        simpa [Addr.add_lit] using this
      exact ⟨b, off, fun i => (f i).1, fun i => (f i).2.1, fun i => (f i).2.2, by omega, fun _ => rfl, fun i hi => (hf i hi).1, fun i hi => (hf i hi).2.1, fun i hi => (hf i hi).2.2.1, fun i hi => (hf i hi).2.2.2.1, fun i hi => (hf i hi).2.2.2.2⟩

theorem open_arr {P : Program} (u23 : P.underlying 23 = some (.array 4 5)) (u5 : P.underlying 5 = some (.int .u8)) (z23 : P.cellsOf 23 = 4) (z5 : P.cellsOf 5 = 1) {H : Type} {enc : TypeId × Value → H} {w : World} {base b0 : Nat} {r : Reach} {spare : Nat → Bool} {held : Bool} {v : Value} {d : DataW H} {p : List MemPlace}
    (hv : Value.okWide P w r b0 23 v) (h : DataW.Trod enc P w base spare held 23 v d p) :
    ∃ s0 s1 s2 s3 : Int, v = .agg #[.int .u8 s0, .int .u8 s1, .int .u8 s2, .int .u8 s3] ∧ ∀ x ∈ [s0, s1, s2, s3], 0 ≤ x ∧ x ≤ 255 := by
  unfold Value.okWide at hv
  rw [u23] at hv
  obtain ⟨cs, rfl, hsz, _⟩ := hv
  rw [z23] at hsz
  obtain ⟨fuel, hf⟩ := h
  obtain ⟨xs, m, _, _, _, hxl, hel⟩ := DataW.trod_array u23 hf
  obtain ⟨l⟩ := cs
  match l, hsz with
  | [c0, c1, c2, c3], _ =>
    have one : ∀ (i : Nat) (c : Value), i < 4 → [c0, c1, c2, c3][i]? = some c → ∃ s : Int, c = .int .u8 s ∧ 0 ≤ s ∧ s ≤ 255 := by
      intro i c hi hc
      have g := hel i hi
      rw [z5] at g
      have hxi : xs[i]? = some xs[i] := List.getElem?_eq_getElem (by omega)
      rw [hxi] at g
      obtain ⟨s, e, _, ws⟩ := DataW.trod_int u5 g
      have hd : (([c0, c1, c2, c3].drop (i * 1)).take 1) = [c] := by
        have h4 : i = 0 ∨ i = 1 ∨ i = 2 ∨ i = 3 := by omega
        rcases h4 with rfl | rfl | rfl | rfl <;> simp at hc <;> subst hc <;> rfl
      have e' : [c] = [.int .u8 s] := hd.symm.trans e
      simp at e'
      exact ⟨s, e', bounds_u8 ws⟩
    obtain ⟨s0, rfl, b0⟩ := one 0 c0 (by omega) rfl
    obtain ⟨s1, rfl, b1⟩ := one 1 c1 (by omega) rfl
    obtain ⟨s2, rfl, b2⟩ := one 2 c2 (by omega) rfl
    obtain ⟨s3, rfl, b3⟩ := one 3 c3 (by omega) rfl
    refine ⟨s0, s1, s2, s3, rfl, fun x hx => ?_⟩
    simp at hx
    rcases hx with rfl | rfl | rfl | rfl <;> assumption

theorem walk (a : Option Addr) (b off len cap : Nat) (kf tf : Nat → Int) (gf : Nat → ByteArray) (s0 s1 s2 s3 : Int) (w : World) (he : IsEvs w a len b off kf tf gf) (hS : ∀ x ∈ [s0, s1, s2, s3], 0 ≤ x ∧ x ≤ 255) :
    Calls Yba.prog 3 #[.slice a len cap, .agg #[.int .u8 s0, .int .u8 s1, .int .u8 s2, .int .u8 s3]] w fun e w' => e = .returned (.bool true) ∧ Below w.heap.size w w' := by
  obtain ⟨hm, ha, hk, ht, hg, bk, bt⟩ := he
  by_cases hl : 1024 < len
  · exact law_long a len cap s0 s1 s2 s3 w hl hm
  · exact law_walk a b off len cap kf tf gf s0 s1 s2 s3 w (by omega) ha hk ht hg bk bt hS

set_option maxRecDepth 100000 in
theorem lifted (os : Os) (started : os.Started) (H : Type) (enc : TypeId × Value → H) :
    ReturnsInHanded {} Yba.checked os 3 .any (Rows.lawS4950CHistorySpec.pre6 enc Yba.prog Yba.f3 Rows.lawS4950CHistoryRow.domain false) (Rows.lawS4950CHistorySpec.post enc Yba.prog Yba.f3 false true false false) := by
  refine returnsInHanded_of_change (C := Yba.checked) own started (by kernel_rfl) Yba.func3
    (ChangeSpec.witness6 (enc := enc) (C := Yba.checked) false ⟨#[], #[.slice none 0 0, .agg #[.int .u8 0, .int .u8 0, .int .u8 0, .int .u8 0]], []⟩ 8 (by kernel_rfl) (by kernel_rfl) (by kernel_rfl) (by kernel_rfl)) ?_
  intro W base args ds gs before hval0 hW hcnd _
  have hval : ∀ (j : Nat) t v, Yba.f3.params[j]? = some t → args[j]? = some v → Value.okWide Yba.prog W .any base t v := hval0
  have hW' := hW
  obtain ⟨p, q, hA0, hV, rfl, hfz, hnd⟩ := hW
  have hA : DataW.TrodAll enc Yba.prog W 0 (fun _ => true) true Yba.f3.params.toList args.toList ds p := hA0
  rw [Yba.params3] at hA hval
  obtain ⟨v0, vs0, d0, ds0, p0, q0, hargs, rfl, rfl, h0, r0⟩ := trodAll_cons hA
  obtain ⟨v1, vs1, d1, ds1, p1, q1, rfl, rfl, rfl, h1, r1⟩ := trodAll_cons r0
  obtain ⟨rfl, rfl, rfl⟩ := trodAll_nil r1
  obtain rfl : args = #[v0, v1] := by cases args; simp_all
  obtain ⟨rfl, rfl⟩ := trodVars_none hV
  obtain ⟨a0, len0, cap0, rfl⟩ := okWide_slice Yba.underlying22 (hval 0 22 v0 rfl rfl)
  have k0 := h0
  have lt0 : ∀ x ∈ p0, x.block < W.heap.size := by obtain ⟨m, hm⟩ := k0; exact DataW.trod_lt m _ _ _ hm
  have k1 := h1
  have lt1 : ∀ x ∈ p1, x.block < W.heap.size := by obtain ⟨m, hm⟩ := k1; exact DataW.trod_lt m _ _ _ hm
  obtain ⟨b, off, kf, tf, gf, he⟩ : ∃ b off kf tf gf, IsEvs W a0 len0 b off kf tf gf := by
    obtain ⟨fuel, hf⟩ := h0
    exact open_evs Yba.underlying22 Yba.underlying33 rfl rfl rfl rfl rfl rfl Yba.underlying5 Yba.underlying9 Yba.cells33 Yba.cells5 Yba.cells9 (by simpa [Value.cells] using hf)
  obtain ⟨s0, s1, s2, s3, rfl, hS⟩ := open_arr Yba.underlying23 Yba.underlying5 Yba.cells23 Yba.cells5 (hval 1 23 v1 rfl rfl) h1
  clear hA0 hval0
  refine (walk a0 b off len0 cap0 kf tf gf s0 s1 s2 s3 W he hS).mono fun e W' ⟨he', bel⟩ => ?_
  subst he'
  exact ⟨_, rfl, _, _, _, [], _, [], hW', trodAll_mk1 (shut_bool Yba.underlying4 _), (trodAll_cons_mk (Below.trod laidOut (by kernel_rfl) (of_decide_eq_true (by kernel_rfl)) k0 bel lt0) (trodAll_cons_mk (Below.trod laidOut (by kernel_rfl) (of_decide_eq_true (by kernel_rfl)) k1 bel lt1) trodAll_mk0)), rfl, bel.frame _, fun h => by cases h⟩

theorem over : Rows.lawS4950CHistoryRow.holds Yba.pinned (OpenSpec.ofChange Rows.lawS4950CHistorySpec) :=
  OpenClaim.holds_of_wide 3 Yba.f3 rfl rfl rfl rfl rfl rfl rfl ⟨rfl, rfl, rfl, rfl, rfl⟩ rfl rfl rfl rfl rfl (by kernel_rfl) Yba.func3 (by kernel_rfl)
    (of_decide_eq_true (by kernel_rfl)) (by unfold Func.isWrapper; first | (rw [if_pos (by decide +kernel)]; kernel_rfl) | (rw [if_neg (by decide +kernel)]; exact ⟨rfl, rfl⟩))
    (fun os started H enc _ => lifted os started H enc)

/-- the statement -/
theorem lawS4950CHistory_proved : Rows.LawS4950CHistorySaid := over
end Go.Proofs.Ybulkcxmk
