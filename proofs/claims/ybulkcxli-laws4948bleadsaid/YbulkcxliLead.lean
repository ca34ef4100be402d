import Derived.Test.YbulkcxliMine
namespace Go.Proofs.Ybulkcxli
open Go.ChangeShapes Go.WideShapes Go.ChangeAt Go.RowKit

theorem Yba.info5 : (Yba.prog.info? 5).map (fun i => (i.zero, i.size, i.bytes)) = some (some (.int .u8 0), 1, 1) := by kernel_rfl

theorem below_grown_cell {w w' : World} {a : Addr} {v : Value} (hb : Below w.heap.size w w') (h : w.cell? a = some v) : w'.cell? a = some v :=
  (hb.cell (World.block_lt_of_cell? _ _ h)).trans h

set_option maxHeartbeats 1000000 in
theorem lead_walk0 (a0 : Int) (a1 : Option Addr) (len cap : Nat) (zs : List Int) (w : World) (b0 : 0 ≤ a0) (b1 : a0 ≤ 255) (hl : len ≤ 4096) (hz : zs.length = len)
    (hnone : a1 = none → len = 0 ∧ cap = 0) (hcell : ∀ ad, a1 = some ad → ∀ j u, (zs.map (Value.int .u8))[j]? = some u → w.cell? (ad.add j) = some u)
    (hr : a0 % 8 = 0) :
    Calls Yba.prog 4 #[.int .u8 a0, .slice a1 len cap] w fun e w' => e = .returned (.bool true) ∧ Below w.heap.size w w' := by
  obtain ⟨i0, hi, hz0, hz1, hz2⟩ := info_parts Yba.info5
  have HZ : Hid ((zs.map (Value.int .u8)).length = len * 1) := by show _ = _; simp [hz]
  have HN : Hid (a1 = none → len = 0 ∧ cap = 0) := hnone
  have HC : Hid (∀ ad, a1 = some ad → ∀ j u, (zs.map (Value.int .u8))[j]? = some u → w.cell? (ad.add j) = some u) := hcell
  clear hz hnone hcell
  have hx : ((({ data := #[105, 108, 100, 48, 101, 57, 120, 58] } : ByteArray)[0]'(by decide)).toNat : Int) = 105 := rfl
  go_enter Yba.func4, Yba.ntmps4
  go_wp2_with (at_make; refine wpList_make_own _ rfl _ _ 22 rfl w.heap.size 5 i0 (.int .u8 0) 1 Yba.underlying22 hi hz0 hz1 _ _ _ (len + 1) rfl rfl (by omega) ?b2 ?b3 (Nat.le_refl _) ?_)
  case b2 => rw [hz2]; omega
  case b3 => unfold maxLen; omega
  intro w0 hown0 hgrow0
  have hB0 : Below w.heap.size w w0 := (Below.refl _ _).grown hgrow0 (Nat.le_refl _) (fun k h => by cases h)
  go_wp2_with (at_builtin; go_must (refine wpList_append_fits _ rfl (.tmp 20) (.tmp 22) 22 rfl w.heap.size 5 i0 1 Yba.underlying22 hi hz1 w.heap.size 0 (len + 1) _ rfl (hown0.alloc _) ⟨w0.heap.size, 0, none⟩ 1 1 [.int .u8 105] rfl rfl ?c1 ?c2 ?c3 ?_))
  case c3 => omega
  case c1 =>
    intro j u hj
    match j, hj with
    | 0, hj => simp at hj; subst hj; simp [Addr.add]
  case c2 => intro u hu; simp at hu; subst hu; rfl
  intro w1 hown1 hgrow1
  have hB1 : Below w.heap.size w w1 := (hB0.alloc hB0.size _).grown hgrow1 (by have := hB0.size; simp; omega) (fun k h => by cases h; exact Nat.le_refl _)
  clear hown0 hgrow0 hgrow1 hB0
  go_wp2_with (at_builtin; refine wpList_append_fits_any _ rfl (.tmp 24) (.tmp 25) 22 rfl w.heap.size 5 i0 1 Yba.underlying22 hi hz1 w.heap.size _ (len + 1) _ rfl hown1 _ _ _ (zs.map (Value.int .u8)) rfl HZ.out HN.out ?d1 (ints_oneCell _ _) (by omega) ?_)
  case d1 => intro ad had j u hj; exact below_grown_cell hB1 (HC.out ad had j u hj)
  intro w2 hown2 hgrow2
  have hB2 : Below w.heap.size w w2 := hB1.grown hgrow2 hB1.size (fun k h => by cases h; exact Nat.le_refl _)
  have hc2 : w2.cell? ⟨w.heap.size, 0, none⟩ = some (.int .u8 105) := hown2.cells (g := w.heap.size) rfl 0 _ rfl
  clear hown2 hown1 hgrow2 hB1
  go_wp2_with fail
  refine (kind_some w.heap.size 0 (1 + len) (len + 1) 105 w2 (by omega) (by unfold maxLen; omega) hc2).mono ?_
  rintro e w' ⟨rfl, rfl⟩
  rw [show kindOf 105 = 2 from rfl]
  go_wp2_with (go_at_call 5; refine (kind_none _ _ _).mono ?_; rintro e w' ⟨rfl, rfl⟩)
  go_ret
  refine ⟨rfl, ?_⟩
  have := hB2.size
  repeat (first | exact hB2 | refine Below.alloc ?_ (by first | omega | (simp; omega)) _)

set_option maxHeartbeats 1000000 in
theorem lead_walk1 (a0 : Int) (a1 : Option Addr) (len cap : Nat) (zs : List Int) (w : World) (b0 : 0 ≤ a0) (b1 : a0 ≤ 255) (hl : len ≤ 4096) (hz : zs.length = len)
    (hnone : a1 = none → len = 0 ∧ cap = 0) (hcell : ∀ ad, a1 = some ad → ∀ j u, (zs.map (Value.int .u8))[j]? = some u → w.cell? (ad.add j) = some u)
    (hr : a0 % 8 = 1) :
    Calls Yba.prog 4 #[.int .u8 a0, .slice a1 len cap] w fun e w' => e = .returned (.bool true) ∧ Below w.heap.size w w' := by
  obtain ⟨i0, hi, hz0, hz1, hz2⟩ := info_parts Yba.info5
  have HZ : Hid ((zs.map (Value.int .u8)).length = len * 1) := by show _ = _; simp [hz]
  have HN : Hid (a1 = none → len = 0 ∧ cap = 0) := hnone
  have HC : Hid (∀ ad, a1 = some ad → ∀ j u, (zs.map (Value.int .u8))[j]? = some u → w.cell? (ad.add j) = some u) := hcell
  clear hz hnone hcell
  have hx : ((({ data := #[105, 108, 100, 48, 101, 57, 120, 58] } : ByteArray)[1]'(by decide)).toNat : Int) = 108 := rfl
  go_enter Yba.func4, Yba.ntmps4
  go_wp2_with (at_make; refine wpList_make_own _ rfl _ _ 22 rfl w.heap.size 5 i0 (.int .u8 0) 1 Yba.underlying22 hi hz0 hz1 _ _ _ (len + 1) rfl rfl (by omega) ?b2 ?b3 (Nat.le_refl _) ?_)
  case b2 => rw [hz2]; omega
  case b3 => unfold maxLen; omega
  intro w0 hown0 hgrow0
  have hB0 : Below w.heap.size w w0 := (Below.refl _ _).grown hgrow0 (Nat.le_refl _) (fun k h => by cases h)
  go_wp2_with (at_builtin; go_must (refine wpList_append_fits _ rfl (.tmp 20) (.tmp 22) 22 rfl w.heap.size 5 i0 1 Yba.underlying22 hi hz1 w.heap.size 0 (len + 1) _ rfl (hown0.alloc _) ⟨w0.heap.size, 0, none⟩ 1 1 [.int .u8 108] rfl rfl ?c1 ?c2 ?c3 ?_))
  case c3 => omega
  case c1 =>
    intro j u hj
    match j, hj with
    | 0, hj => simp at hj; subst hj; simp [Addr.add]
  case c2 => intro u hu; simp at hu; subst hu; rfl
  intro w1 hown1 hgrow1
  have hB1 : Below w.heap.size w w1 := (hB0.alloc hB0.size _).grown hgrow1 (by have := hB0.size; simp; omega) (fun k h => by cases h; exact Nat.le_refl _)
  clear hown0 hgrow0 hgrow1 hB0
  go_wp2_with (at_builtin; refine wpList_append_fits_any _ rfl (.tmp 24) (.tmp 25) 22 rfl w.heap.size 5 i0 1 Yba.underlying22 hi hz1 w.heap.size _ (len + 1) _ rfl hown1 _ _ _ (zs.map (Value.int .u8)) rfl HZ.out HN.out ?d1 (ints_oneCell _ _) (by omega) ?_)
  case d1 => intro ad had j u hj; exact below_grown_cell hB1 (HC.out ad had j u hj)
  intro w2 hown2 hgrow2
  have hB2 : Below w.heap.size w w2 := hB1.grown hgrow2 hB1.size (fun k h => by cases h; exact Nat.le_refl _)
  have hc2 : w2.cell? ⟨w.heap.size, 0, none⟩ = some (.int .u8 108) := hown2.cells (g := w.heap.size) rfl 0 _ rfl
  clear hown2 hown1 hgrow2 hB1
  go_wp2_with fail
  refine (kind_some w.heap.size 0 (1 + len) (len + 1) 108 w2 (by omega) (by unfold maxLen; omega) hc2).mono ?_
  rintro e w' ⟨rfl, rfl⟩
  rw [show kindOf 108 = 3 from rfl]
  go_wp2_with (go_at_call 5; refine (kind_none _ _ _).mono ?_; rintro e w' ⟨rfl, rfl⟩)
  go_ret
  refine ⟨rfl, ?_⟩
  have := hB2.size
  repeat (first | exact hB2 | refine Below.alloc ?_ (by first | omega | (simp; omega)) _)

set_option maxHeartbeats 1000000 in
theorem lead_walk2 (a0 : Int) (a1 : Option Addr) (len cap : Nat) (zs : List Int) (w : World) (b0 : 0 ≤ a0) (b1 : a0 ≤ 255) (hl : len ≤ 4096) (hz : zs.length = len)
    (hnone : a1 = none → len = 0 ∧ cap = 0) (hcell : ∀ ad, a1 = some ad → ∀ j u, (zs.map (Value.int .u8))[j]? = some u → w.cell? (ad.add j) = some u)
    (hr : a0 % 8 = 2) :
    Calls Yba.prog 4 #[.int .u8 a0, .slice a1 len cap] w fun e w' => e = .returned (.bool true) ∧ Below w.heap.size w w' := by
  obtain ⟨i0, hi, hz0, hz1, hz2⟩ := info_parts Yba.info5
  have HZ : Hid ((zs.map (Value.int .u8)).length = len * 1) := by show _ = _; simp [hz]
  have HN : Hid (a1 = none → len = 0 ∧ cap = 0) := hnone
  have HC : Hid (∀ ad, a1 = some ad → ∀ j u, (zs.map (Value.int .u8))[j]? = some u → w.cell? (ad.add j) = some u) := hcell
  clear hz hnone hcell
  have hx : ((({ data := #[105, 108, 100, 48, 101, 57, 120, 58] } : ByteArray)[2]'(by decide)).toNat : Int) = 100 := rfl
  go_enter Yba.func4, Yba.ntmps4
  go_wp2_with (at_make; refine wpList_make_own _ rfl _ _ 22 rfl w.heap.size 5 i0 (.int .u8 0) 1 Yba.underlying22 hi hz0 hz1 _ _ _ (len + 1) rfl rfl (by omega) ?b2 ?b3 (Nat.le_refl _) ?_)
  case b2 => rw [hz2]; omega
  case b3 => unfold maxLen; omega
  intro w0 hown0 hgrow0
  have hB0 : Below w.heap.size w w0 := (Below.refl _ _).grown hgrow0 (Nat.le_refl _) (fun k h => by cases h)
  go_wp2_with (at_builtin; go_must (refine wpList_append_fits _ rfl (.tmp 20) (.tmp 22) 22 rfl w.heap.size 5 i0 1 Yba.underlying22 hi hz1 w.heap.size 0 (len + 1) _ rfl (hown0.alloc _) ⟨w0.heap.size, 0, none⟩ 1 1 [.int .u8 100] rfl rfl ?c1 ?c2 ?c3 ?_))
  case c3 => omega
  case c1 =>
    intro j u hj
    match j, hj with
    | 0, hj => simp at hj; subst hj; simp [Addr.add]
  case c2 => intro u hu; simp at hu; subst hu; rfl
  intro w1 hown1 hgrow1
  have hB1 : Below w.heap.size w w1 := (hB0.alloc hB0.size _).grown hgrow1 (by have := hB0.size; simp; omega) (fun k h => by cases h; exact Nat.le_refl _)
  clear hown0 hgrow0 hgrow1 hB0
  go_wp2_with (at_builtin; refine wpList_append_fits_any _ rfl (.tmp 24) (.tmp 25) 22 rfl w.heap.size 5 i0 1 Yba.underlying22 hi hz1 w.heap.size _ (len + 1) _ rfl hown1 _ _ _ (zs.map (Value.int .u8)) rfl HZ.out HN.out ?d1 (ints_oneCell _ _) (by omega) ?_)
  case d1 => intro ad had j u hj; exact below_grown_cell hB1 (HC.out ad had j u hj)
  intro w2 hown2 hgrow2
  have hB2 : Below w.heap.size w w2 := hB1.grown hgrow2 hB1.size (fun k h => by cases h; exact Nat.le_refl _)
  have hc2 : w2.cell? ⟨w.heap.size, 0, none⟩ = some (.int .u8 100) := hown2.cells (g := w.heap.size) rfl 0 _ rfl
  clear hown2 hown1 hgrow2 hB1
  go_wp2_with fail
  refine (kind_some w.heap.size 0 (1 + len) (len + 1) 100 w2 (by omega) (by unfold maxLen; omega) hc2).mono ?_
  rintro e w' ⟨rfl, rfl⟩
  rw [show kindOf 100 = 4 from rfl]
  go_wp2_with (go_at_call 5; refine (kind_none _ _ _).mono ?_; rintro e w' ⟨rfl, rfl⟩)
  go_ret
  refine ⟨rfl, ?_⟩
  have := hB2.size
  repeat (first | exact hB2 | refine Below.alloc ?_ (by first | omega | (simp; omega)) _)

set_option maxHeartbeats 1000000 in
theorem lead_walk3 (a0 : Int) (a1 : Option Addr) (len cap : Nat) (zs : List Int) (w : World) (b0 : 0 ≤ a0) (b1 : a0 ≤ 255) (hl : len ≤ 4096) (hz : zs.length = len)
    (hnone : a1 = none → len = 0 ∧ cap = 0) (hcell : ∀ ad, a1 = some ad → ∀ j u, (zs.map (Value.int .u8))[j]? = some u → w.cell? (ad.add j) = some u)
    (hr : a0 % 8 = 3) :
    Calls Yba.prog 4 #[.int .u8 a0, .slice a1 len cap] w fun e w' => e = .returned (.bool true) ∧ Below w.heap.size w w' := by
  obtain ⟨i0, hi, hz0, hz1, hz2⟩ := info_parts Yba.info5
  have HZ : Hid ((zs.map (Value.int .u8)).length = len * 1) := by show _ = _; simp [hz]
  have HN : Hid (a1 = none → len = 0 ∧ cap = 0) := hnone
  have HC : Hid (∀ ad, a1 = some ad → ∀ j u, (zs.map (Value.int .u8))[j]? = some u → w.cell? (ad.add j) = some u) := hcell
  clear hz hnone hcell
  have hx : ((({ data := #[105, 108, 100, 48, 101, 57, 120, 58] } : ByteArray)[3]'(by decide)).toNat : Int) = 48 := rfl
  go_enter Yba.func4, Yba.ntmps4
  go_wp2_with (at_make; refine wpList_make_own _ rfl _ _ 22 rfl w.heap.size 5 i0 (.int .u8 0) 1 Yba.underlying22 hi hz0 hz1 _ _ _ (len + 1) rfl rfl (by omega) ?b2 ?b3 (Nat.le_refl _) ?_)
  case b2 => rw [hz2]; omega
  case b3 => unfold maxLen; omega
  intro w0 hown0 hgrow0
  have hB0 : Below w.heap.size w w0 := (Below.refl _ _).grown hgrow0 (Nat.le_refl _) (fun k h => by cases h)
  go_wp2_with (at_builtin; go_must (refine wpList_append_fits _ rfl (.tmp 20) (.tmp 22) 22 rfl w.heap.size 5 i0 1 Yba.underlying22 hi hz1 w.heap.size 0 (len + 1) _ rfl (hown0.alloc _) ⟨w0.heap.size, 0, none⟩ 1 1 [.int .u8 48] rfl rfl ?c1 ?c2 ?c3 ?_))
  case c3 => omega
  case c1 =>
    intro j u hj
    match j, hj with
    | 0, hj => simp at hj; subst hj; simp [Addr.add]
  case c2 => intro u hu; simp at hu; subst hu; rfl
  intro w1 hown1 hgrow1
  have hB1 : Below w.heap.size w w1 := (hB0.alloc hB0.size _).grown hgrow1 (by have := hB0.size; simp; omega) (fun k h => by cases h; exact Nat.le_refl _)
  clear hown0 hgrow0 hgrow1 hB0
  go_wp2_with (at_builtin; refine wpList_append_fits_any _ rfl (.tmp 24) (.tmp 25) 22 rfl w.heap.size 5 i0 1 Yba.underlying22 hi hz1 w.heap.size _ (len + 1) _ rfl hown1 _ _ _ (zs.map (Value.int .u8)) rfl HZ.out HN.out ?d1 (ints_oneCell _ _) (by omega) ?_)
  case d1 => intro ad had j u hj; exact below_grown_cell hB1 (HC.out ad had j u hj)
  intro w2 hown2 hgrow2
  have hB2 : Below w.heap.size w w2 := hB1.grown hgrow2 hB1.size (fun k h => by cases h; exact Nat.le_refl _)
  have hc2 : w2.cell? ⟨w.heap.size, 0, none⟩ = some (.int .u8 48) := hown2.cells (g := w.heap.size) rfl 0 _ rfl
  clear hown2 hown1 hgrow2 hB1
  go_wp2_with fail
  refine (kind_some w.heap.size 0 (1 + len) (len + 1) 48 w2 (by omega) (by unfold maxLen; omega) hc2).mono ?_
  rintro e w' ⟨rfl, rfl⟩
  rw [show kindOf 48 = 1 from rfl]
  go_wp2_with (go_at_call 5; refine (kind_none _ _ _).mono ?_; rintro e w' ⟨rfl, rfl⟩)
  go_ret
  refine ⟨rfl, ?_⟩
  have := hB2.size
  repeat (first | exact hB2 | refine Below.alloc ?_ (by first | omega | (simp; omega)) _)

set_option maxHeartbeats 1000000 in
theorem lead_walk4 (a0 : Int) (a1 : Option Addr) (len cap : Nat) (zs : List Int) (w : World) (b0 : 0 ≤ a0) (b1 : a0 ≤ 255) (hl : len ≤ 4096) (hz : zs.length = len)
    (hnone : a1 = none → len = 0 ∧ cap = 0) (hcell : ∀ ad, a1 = some ad → ∀ j u, (zs.map (Value.int .u8))[j]? = some u → w.cell? (ad.add j) = some u)
    (hr : a0 % 8 = 4) :
    Calls Yba.prog 4 #[.int .u8 a0, .slice a1 len cap] w fun e w' => e = .returned (.bool true) ∧ Below w.heap.size w w' := by
  obtain ⟨i0, hi, hz0, hz1, hz2⟩ := info_parts Yba.info5
  have HZ : Hid ((zs.map (Value.int .u8)).length = len * 1) := by show _ = _; simp [hz]
  have HN : Hid (a1 = none → len = 0 ∧ cap = 0) := hnone
  have HC : Hid (∀ ad, a1 = some ad → ∀ j u, (zs.map (Value.int .u8))[j]? = some u → w.cell? (ad.add j) = some u) := hcell
  clear hz hnone hcell
  have hx : ((({ data := #[105, 108, 100, 48, 101, 57, 120, 58] } : ByteArray)[4]'(by decide)).toNat : Int) = 101 := rfl
  go_enter Yba.func4, Yba.ntmps4
  go_wp2_with (at_make; refine wpList_make_own _ rfl _ _ 22 rfl w.heap.size 5 i0 (.int .u8 0) 1 Yba.underlying22 hi hz0 hz1 _ _ _ (len + 1) rfl rfl (by omega) ?b2 ?b3 (Nat.le_refl _) ?_)
  case b2 => rw [hz2]; omega
  case b3 => unfold maxLen; omega
  intro w0 hown0 hgrow0
  have hB0 : Below w.heap.size w w0 := (Below.refl _ _).grown hgrow0 (Nat.le_refl _) (fun k h => by cases h)
  go_wp2_with (at_builtin; go_must (refine wpList_append_fits _ rfl (.tmp 20) (.tmp 22) 22 rfl w.heap.size 5 i0 1 Yba.underlying22 hi hz1 w.heap.size 0 (len + 1) _ rfl (hown0.alloc _) ⟨w0.heap.size, 0, none⟩ 1 1 [.int .u8 101] rfl rfl ?c1 ?c2 ?c3 ?_))
  case c3 => omega
  case c1 =>
    intro j u hj
    match j, hj with
    | 0, hj => simp at hj; subst hj; simp [Addr.add]
  case c2 => intro u hu; simp at hu; subst hu; rfl
  intro w1 hown1 hgrow1
  have hB1 : Below w.heap.size w w1 := (hB0.alloc hB0.size _).grown hgrow1 (by have := hB0.size; simp; omega) (fun k h => by cases h; exact Nat.le_refl _)
  clear hown0 hgrow0 hgrow1 hB0
  go_wp2_with (at_builtin; refine wpList_append_fits_any _ rfl (.tmp 24) (.tmp 25) 22 rfl w.heap.size 5 i0 1 Yba.underlying22 hi hz1 w.heap.size _ (len + 1) _ rfl hown1 _ _ _ (zs.map (Value.int .u8)) rfl HZ.out HN.out ?d1 (ints_oneCell _ _) (by omega) ?_)
  case d1 => intro ad had j u hj; exact below_grown_cell hB1 (HC.out ad had j u hj)
  intro w2 hown2 hgrow2
  have hB2 : Below w.heap.size w w2 := hB1.grown hgrow2 hB1.size (fun k h => by cases h; exact Nat.le_refl _)
  have hc2 : w2.cell? ⟨w.heap.size, 0, none⟩ = some (.int .u8 101) := hown2.cells (g := w.heap.size) rfl 0 _ rfl
  clear hown2 hown1 hgrow2 hB1
  go_wp2_with fail
  refine (kind_some w.heap.size 0 (1 + len) (len + 1) 101 w2 (by omega) (by unfold maxLen; omega) hc2).mono ?_
  rintro e w' ⟨rfl, rfl⟩
  rw [show kindOf 101 = 1 from rfl]
  go_wp2_with (go_at_call 5; refine (kind_none _ _ _).mono ?_; rintro e w' ⟨rfl, rfl⟩)
  go_ret
  refine ⟨rfl, ?_⟩
  have := hB2.size
  repeat (first | exact hB2 | refine Below.alloc ?_ (by first | omega | (simp; omega)) _)

set_option maxHeartbeats 1000000 in
theorem lead_walk5 (a0 : Int) (a1 : Option Addr) (len cap : Nat) (zs : List Int) (w : World) (b0 : 0 ≤ a0) (b1 : a0 ≤ 255) (hl : len ≤ 4096) (hz : zs.length = len)
    (hnone : a1 = none → len = 0 ∧ cap = 0) (hcell : ∀ ad, a1 = some ad → ∀ j u, (zs.map (Value.int .u8))[j]? = some u → w.cell? (ad.add j) = some u)
    (hr : a0 % 8 = 5) :
    Calls Yba.prog 4 #[.int .u8 a0, .slice a1 len cap] w fun e w' => e = .returned (.bool true) ∧ Below w.heap.size w w' := by
  obtain ⟨i0, hi, hz0, hz1, hz2⟩ := info_parts Yba.info5
  have HZ : Hid ((zs.map (Value.int .u8)).length = len * 1) := by show _ = _; simp [hz]
  have HN : Hid (a1 = none → len = 0 ∧ cap = 0) := hnone
  have HC : Hid (∀ ad, a1 = some ad → ∀ j u, (zs.map (Value.int .u8))[j]? = some u → w.cell? (ad.add j) = some u) := hcell
  clear hz hnone hcell
  have hx : ((({ data := #[105, 108, 100, 48, 101, 57, 120, 58] } : ByteArray)[5]'(by decide)).toNat : Int) = 57 := rfl
  go_enter Yba.func4, Yba.ntmps4
  go_wp2_with (at_make; refine wpList_make_own _ rfl _ _ 22 rfl w.heap.size 5 i0 (.int .u8 0) 1 Yba.underlying22 hi hz0 hz1 _ _ _ (len + 1) rfl rfl (by omega) ?b2 ?b3 (Nat.le_refl _) ?_)
  case b2 => rw [hz2]; omega
  case b3 => unfold maxLen; omega
  intro w0 hown0 hgrow0
  have hB0 : Below w.heap.size w w0 := (Below.refl _ _).grown hgrow0 (Nat.le_refl _) (fun k h => by cases h)
  go_wp2_with (at_builtin; go_must (refine wpList_append_fits _ rfl (.tmp 20) (.tmp 22) 22 rfl w.heap.size 5 i0 1 Yba.underlying22 hi hz1 w.heap.size 0 (len + 1) _ rfl (hown0.alloc _) ⟨w0.heap.size, 0, none⟩ 1 1 [.int .u8 57] rfl rfl ?c1 ?c2 ?c3 ?_))
  case c3 => omega
  case c1 =>
    intro j u hj
    match j, hj with
    | 0, hj => simp at hj; subst hj; simp [Addr.add]
  case c2 => intro u hu; simp at hu; subst hu; rfl
  intro w1 hown1 hgrow1
  have hB1 : Below w.heap.size w w1 := (hB0.alloc hB0.size _).grown hgrow1 (by have := hB0.size; simp; omega) (fun k h => by cases h; exact Nat.le_refl _)
  clear hown0 hgrow0 hgrow1 hB0
  go_wp2_with (at_builtin; refine wpList_append_fits_any _ rfl (.tmp 24) (.tmp 25) 22 rfl w.heap.size 5 i0 1 Yba.underlying22 hi hz1 w.heap.size _ (len + 1) _ rfl hown1 _ _ _ (zs.map (Value.int .u8)) rfl HZ.out HN.out ?d1 (ints_oneCell _ _) (by omega) ?_)
  case d1 => intro ad had j u hj; exact below_grown_cell hB1 (HC.out ad had j u hj)
  intro w2 hown2 hgrow2
  have hB2 : Below w.heap.size w w2 := hB1.grown hgrow2 hB1.size (fun k h => by cases h; exact Nat.le_refl _)
  have hc2 : w2.cell? ⟨w.heap.size, 0, none⟩ = some (.int .u8 57) := hown2.cells (g := w.heap.size) rfl 0 _ rfl
  clear hown2 hown1 hgrow2 hB1
  go_wp2_with fail
  refine (kind_some w.heap.size 0 (1 + len) (len + 1) 57 w2 (by omega) (by unfold maxLen; omega) hc2).mono ?_
  rintro e w' ⟨rfl, rfl⟩
  rw [show kindOf 57 = 1 from rfl]
  go_wp2_with (go_at_call 5; refine (kind_none _ _ _).mono ?_; rintro e w' ⟨rfl, rfl⟩)
  go_ret
  refine ⟨rfl, ?_⟩
  have := hB2.size
  repeat (first | exact hB2 | refine Below.alloc ?_ (by first | omega | (simp; omega)) _)

set_option maxHeartbeats 1000000 in
theorem lead_walk6 (a0 : Int) (a1 : Option Addr) (len cap : Nat) (zs : List Int) (w : World) (b0 : 0 ≤ a0) (b1 : a0 ≤ 255) (hl : len ≤ 4096) (hz : zs.length = len)
    (hnone : a1 = none → len = 0 ∧ cap = 0) (hcell : ∀ ad, a1 = some ad → ∀ j u, (zs.map (Value.int .u8))[j]? = some u → w.cell? (ad.add j) = some u)
    (hr : a0 % 8 = 6) :
    Calls Yba.prog 4 #[.int .u8 a0, .slice a1 len cap] w fun e w' => e = .returned (.bool true) ∧ Below w.heap.size w w' := by
  obtain ⟨i0, hi, hz0, hz1, hz2⟩ := info_parts Yba.info5
  have HZ : Hid ((zs.map (Value.int .u8)).length = len * 1) := by show _ = _; simp [hz]
  have HN : Hid (a1 = none → len = 0 ∧ cap = 0) := hnone
  have HC : Hid (∀ ad, a1 = some ad → ∀ j u, (zs.map (Value.int .u8))[j]? = some u → w.cell? (ad.add j) = some u) := hcell
  clear hz hnone hcell
  have hx : ((({ data := #[105, 108, 100, 48, 101, 57, 120, 58] } : ByteArray)[6]'(by decide)).toNat : Int) = 120 := rfl
  go_enter Yba.func4, Yba.ntmps4
  go_wp2_with (at_make; refine wpList_make_own _ rfl _ _ 22 rfl w.heap.size 5 i0 (.int .u8 0) 1 Yba.underlying22 hi hz0 hz1 _ _ _ (len + 1) rfl rfl (by omega) ?b2 ?b3 (Nat.le_refl _) ?_)
  case b2 => rw [hz2]; omega
  case b3 => unfold maxLen; omega
  intro w0 hown0 hgrow0
  have hB0 : Below w.heap.size w w0 := (Below.refl _ _).grown hgrow0 (Nat.le_refl _) (fun k h => by cases h)
  go_wp2_with (at_builtin; go_must (refine wpList_append_fits _ rfl (.tmp 20) (.tmp 22) 22 rfl w.heap.size 5 i0 1 Yba.underlying22 hi hz1 w.heap.size 0 (len + 1) _ rfl (hown0.alloc _) ⟨w0.heap.size, 0, none⟩ 1 1 [.int .u8 120] rfl rfl ?c1 ?c2 ?c3 ?_))
  case c3 => omega
  case c1 =>
    intro j u hj
    match j, hj with
    | 0, hj => simp at hj; subst hj; simp [Addr.add]
  case c2 => intro u hu; simp at hu; subst hu; rfl
  intro w1 hown1 hgrow1
  have hB1 : Below w.heap.size w w1 := (hB0.alloc hB0.size _).grown hgrow1 (by have := hB0.size; simp; omega) (fun k h => by cases h; exact Nat.le_refl _)
  clear hown0 hgrow0 hgrow1 hB0
  go_wp2_with (at_builtin; refine wpList_append_fits_any _ rfl (.tmp 24) (.tmp 25) 22 rfl w.heap.size 5 i0 1 Yba.underlying22 hi hz1 w.heap.size _ (len + 1) _ rfl hown1 _ _ _ (zs.map (Value.int .u8)) rfl HZ.out HN.out ?d1 (ints_oneCell _ _) (by omega) ?_)
  case d1 => intro ad had j u hj; exact below_grown_cell hB1 (HC.out ad had j u hj)
  intro w2 hown2 hgrow2
  have hB2 : Below w.heap.size w w2 := hB1.grown hgrow2 hB1.size (fun k h => by cases h; exact Nat.le_refl _)
  have hc2 : w2.cell? ⟨w.heap.size, 0, none⟩ = some (.int .u8 120) := hown2.cells (g := w.heap.size) rfl 0 _ rfl
  clear hown2 hown1 hgrow2 hB1
  go_wp2_with fail
  refine (kind_some w.heap.size 0 (1 + len) (len + 1) 120 w2 (by omega) (by unfold maxLen; omega) hc2).mono ?_
  rintro e w' ⟨rfl, rfl⟩
  rw [show kindOf 120 = 1 from rfl]
  go_wp2_with (go_at_call 5; refine (kind_none _ _ _).mono ?_; rintro e w' ⟨rfl, rfl⟩)
  go_ret
  refine ⟨rfl, ?_⟩
  have := hB2.size
  repeat (first | exact hB2 | refine Below.alloc ?_ (by first | omega | (simp; omega)) _)

set_option maxHeartbeats 1000000 in
theorem lead_walk7 (a0 : Int) (a1 : Option Addr) (len cap : Nat) (zs : List Int) (w : World) (b0 : 0 ≤ a0) (b1 : a0 ≤ 255) (hl : len ≤ 4096) (hz : zs.length = len)
    (hnone : a1 = none → len = 0 ∧ cap = 0) (hcell : ∀ ad, a1 = some ad → ∀ j u, (zs.map (Value.int .u8))[j]? = some u → w.cell? (ad.add j) = some u)
    (hr : a0 % 8 = 7) :
    Calls Yba.prog 4 #[.int .u8 a0, .slice a1 len cap] w fun e w' => e = .returned (.bool true) ∧ Below w.heap.size w w' := by
  obtain ⟨i0, hi, hz0, hz1, hz2⟩ := info_parts Yba.info5
  have HZ : Hid ((zs.map (Value.int .u8)).length = len * 1) := by show _ = _; simp [hz]
  have HN : Hid (a1 = none → len = 0 ∧ cap = 0) := hnone
  have HC : Hid (∀ ad, a1 = some ad → ∀ j u, (zs.map (Value.int .u8))[j]? = some u → w.cell? (ad.add j) = some u) := hcell
  clear hz hnone hcell
  have hx : ((({ data := #[105, 108, 100, 48, 101, 57, 120, 58] } : ByteArray)[7]'(by decide)).toNat : Int) = 58 := rfl
  go_enter Yba.func4, Yba.ntmps4
  go_wp2_with (at_make; refine wpList_make_own _ rfl _ _ 22 rfl w.heap.size 5 i0 (.int .u8 0) 1 Yba.underlying22 hi hz0 hz1 _ _ _ (len + 1) rfl rfl (by omega) ?b2 ?b3 (Nat.le_refl _) ?_)
  case b2 => rw [hz2]; omega
  case b3 => unfold maxLen; omega
  intro w0 hown0 hgrow0
  have hB0 : Below w.heap.size w w0 := (Below.refl _ _).grown hgrow0 (Nat.le_refl _) (fun k h => by cases h)
  go_wp2_with (at_builtin; go_must (refine wpList_append_fits _ rfl (.tmp 20) (.tmp 22) 22 rfl w.heap.size 5 i0 1 Yba.underlying22 hi hz1 w.heap.size 0 (len + 1) _ rfl (hown0.alloc _) ⟨w0.heap.size, 0, none⟩ 1 1 [.int .u8 58] rfl rfl ?c1 ?c2 ?c3 ?_))
  case c3 => omega
  case c1 =>
    intro j u hj
    match j, hj with
    | 0, hj => simp at hj; subst hj; simp [Addr.add]
  case c2 => intro u hu; simp at hu; subst hu; rfl
  intro w1 hown1 hgrow1
  have hB1 : Below w.heap.size w w1 := (hB0.alloc hB0.size _).grown hgrow1 (by have := hB0.size; simp; omega) (fun k h => by cases h; exact Nat.le_refl _)
  clear hown0 hgrow0 hgrow1 hB0
  go_wp2_with (at_builtin; refine wpList_append_fits_any _ rfl (.tmp 24) (.tmp 25) 22 rfl w.heap.size 5 i0 1 Yba.underlying22 hi hz1 w.heap.size _ (len + 1) _ rfl hown1 _ _ _ (zs.map (Value.int .u8)) rfl HZ.out HN.out ?d1 (ints_oneCell _ _) (by omega) ?_)
  case d1 => intro ad had j u hj; exact below_grown_cell hB1 (HC.out ad had j u hj)
  intro w2 hown2 hgrow2
  have hB2 : Below w.heap.size w w2 := hB1.grown hgrow2 hB1.size (fun k h => by cases h; exact Nat.le_refl _)
  have hc2 : w2.cell? ⟨w.heap.size, 0, none⟩ = some (.int .u8 58) := hown2.cells (g := w.heap.size) rfl 0 _ rfl
  clear hown2 hown1 hgrow2 hB1
  go_wp2_with fail
  refine (kind_some w.heap.size 0 (1 + len) (len + 1) 58 w2 (by omega) (by unfold maxLen; omega) hc2).mono ?_
  rintro e w' ⟨rfl, rfl⟩
  rw [show kindOf 58 = 1 from rfl]
  go_wp2_with (go_at_call 5; refine (kind_none _ _ _).mono ?_; rintro e w' ⟨rfl, rfl⟩)
  go_ret
  refine ⟨rfl, ?_⟩
  have := hB2.size
  repeat (first | exact hB2 | refine Below.alloc ?_ (by first | omega | (simp; omega)) _)

theorem lead_any (a0 : Int) (a1 : Option Addr) (len cap : Nat) (zs : List Int) (w : World) (b0 : 0 ≤ a0) (b1 : a0 ≤ 255) (hl : len ≤ 4096) (hz : zs.length = len)
    (hnone : a1 = none → len = 0 ∧ cap = 0) (hcell : ∀ ad, a1 = some ad → ∀ j u, (zs.map (Value.int .u8))[j]? = some u → w.cell? (ad.add j) = some u) :
    Calls Yba.prog 4 #[.int .u8 a0, .slice a1 len cap] w fun e w' => e = .returned (.bool true) ∧ Below w.heap.size w w' := by
  have h8 : a0 % 8 = 0 ∨ a0 % 8 = 1 ∨ a0 % 8 = 2 ∨ a0 % 8 = 3 ∨ a0 % 8 = 4 ∨ a0 % 8 = 5 ∨ a0 % 8 = 6 ∨ a0 % 8 = 7 := by omega
  rcases h8 with h | h | h | h | h | h | h | h
  · exact lead_walk0 a0 a1 len cap zs w b0 b1 hl hz hnone hcell h
  · exact lead_walk1 a0 a1 len cap zs w b0 b1 hl hz hnone hcell h
  · exact lead_walk2 a0 a1 len cap zs w b0 b1 hl hz hnone hcell h
  · exact lead_walk3 a0 a1 len cap zs w b0 b1 hl hz hnone hcell h
  · exact lead_walk4 a0 a1 len cap zs w b0 b1 hl hz hnone hcell h
  · exact lead_walk5 a0 a1 len cap zs w b0 b1 hl hz hnone hcell h
  · exact lead_walk6 a0 a1 len cap zs w b0 b1 hl hz hnone hcell h
  · exact lead_walk7 a0 a1 len cap zs w b0 b1 hl hz hnone hcell h

theorem lead_long (a0 : Int) (a1 : Option Addr) (len cap : Nat) (w : World) (hl : 4096 < len) (hm : len ≤ maxLen) :
    Calls Yba.prog 4 #[.int .u8 a0, .slice a1 len cap] w fun e w' => e = .returned (.bool true) ∧ Below w.heap.size w w' := by
  unfold maxLen at hm
  go_enter Yba.func4, Yba.ntmps4
  go_wp2
  go_ret
  exact ⟨rfl, Below.refl _ _⟩
end Go.Proofs.Ybulkcxli
