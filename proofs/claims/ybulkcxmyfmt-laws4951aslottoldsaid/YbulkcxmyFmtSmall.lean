import Derived.Test.YbulkcxmyFmtEnc
import Derived.Deep.RegionLaw
namespace Go.Proofs.YbulkcxmyFmt
open Go.ChangeShapes Go.WideShapes Go.ChangeAt Go.RowKit
set_option linter.unusedVariables false

theorem len_any (n c : Nat) (a : Option Addr) (w : World) (h : n ≤ maxLen) : Calls Ybaf.prog 43 #[.slice a n c] w fun e w' => e = .returned (.int .i64 n) ∧ w' = w := by
  unfold maxLen at h
  go_enter Ybaf.func43, Ybaf.ntmps43
  go_wp2
  go_ret
  exact ⟨rfl, rfl⟩

theorem len_here (n c : Nat) (a : Option Addr) (w : World) (h : n ≤ maxLen) : Calls Ybaf.prog 43 #[.slice a n c] w fun e w' => e = .returned (.int .i64 n) ∧ w = w' := (len_any n c a w h).mono fun e w' ⟨h1, h2⟩ => ⟨h1, h2.symm⟩

set_option maxRecDepth 100000 in
set_option maxHeartbeats 1000000 in
theorem qlen_any (b o n c : Nat) (a : Option Addr) (h : Int) (w : World) (hn : n ≤ 1000000) (h0 : 0 ≤ h) (h1 : h ≤ n) (c0 : w.cell? ⟨b, o, none⟩ = some (.slice a n c)) (c1 : w.cell? ⟨b, o + 1, none⟩ = some (.int .i64 h)) :
    Calls Ybaf.prog 9 #[.pointer (some ⟨b, o, none⟩)] w fun e w' => e = .returned (.int .i64 (n - h)) ∧ ∃ m, w' = w.drewN m := by
  go_enter Ybaf.func9, Ybaf.ntmps9
  go_wp2
  go_quiet (fail)
  go_wp2
  go_ret
  exact ⟨rfl, nq, rfl⟩

set_option maxRecDepth 100000 in
set_option maxHeartbeats 1000000 in
/-- some processor is idle: none that was made, and fewer were made than there may be -/
theorem anyIdle_any (s n c cp : Nat) (a : Option Addr) (ai : Option Addr) (N : Int) (w : World) (hn : n ≤ 1000000) (c13 : w.cell? ⟨s, 13, none⟩ = some (.slice ai 0 cp)) (c12 : w.cell? ⟨s, 12, none⟩ = some (.slice a n c)) (c0 : w.cell? ⟨s, 0, none⟩ = some (.int .i64 N)) :
    Calls Ybaf.prog 34 #[.pointer (some ⟨s, 0, none⟩)] w fun e w' => e = .returned (.bool (decide ((n : Int) < N))) ∧ ∃ m, w' = w.drewN m := by
  go_enter Ybaf.func34, Ybaf.ntmps34
  go_wp2
  go_quiet ((go_at_call 43; exact Calls.quiet_of_same (len_any _ _ _ _ (by unfold maxLen; omega))))
  go_wp2
  go_ret
  exact ⟨rfl, nq, rfl⟩

set_option maxRecDepth 100000 in
set_option maxHeartbeats 1000000 in
theorem giveThread_any (s p cp : Nat) (ai : Option Addr) (C D : Array Value) (T M : Int) (w : World) (hs : At w s 60 C) (hp : At w p 63 D) (hsp : s ≠ p) (h61 : C.size = 61) (h12 : D.size = 12)
    (c14 : C[14]? = some (.slice ai 0 cp)) (c38 : C[38]? = some (.int .i64 T)) (c6 : C[6]? = some (.int .i64 M)) (hT : 0 ≤ T ∧ T ≤ 1000000) (hTM : T < M) (hM : M ≤ 1000000) :
    Calls Ybaf.prog 36 #[.pointer (some ⟨s, 0, none⟩), .pointer (some ⟨p, 0, none⟩)] w fun e w' => e = .returned .nilIface ∧ At w' s 60 (C.setIfInBounds 38 (.int .i64 (T + 1))) ∧ At w' p 63 (D.setIfInBounds 1 (.int .i64 T)) ∧ Fr w w' (fun k => k = s ∨ k = p) := by
  have y14 := hs.cell 14 c14
  have y38 := hs.cell 38 c38
  have y6 := hs.cell 6 c6
  have f38 := hs.frozen 38
  have z1 := hp.cell 1 (Array.getElem?_eq_getElem (by omega))
  have g1 := hp.frozen 1
  generalize D[1] = d1 at z1
  have HA : Hid (At w s 60 C) := hs
  have HP : Hid (At w p 63 D) := hp
  have hne : (T == M) = false := beq_eq_false_iff_ne.2 (by omega)
  clear hs hp c14 c38 c6
  go_enter Ybaf.func36, Ybaf.ntmps36
  go_wp2_with (go_at_call 43; refine (len_here _ _ _ _ (by unfold maxLen; omega)).mono ?_; rintro e w' ⟨rfl, rfl⟩)
  go_ret
  exact ⟨rfl, (HA.out.set 38 _).set_other (a := ⟨p, 1, none⟩) (Ne.symm hsp) _, (HP.out.set_other (a := ⟨s, 38, none⟩) hsp _).set 1 _, ((Fr.refl _ _).setCell (.inl (.inl rfl)) _).setCell (.inl (.inr rfl)) _⟩

theorem Ybaf.info61 : (Ybaf.prog.info? 61).map (fun i => (i.zero, i.size, i.bytes)) = some (some (.pointer none), 1, 8) := by kernel_rfl
theorem Ybaf.info74 : (Ybaf.prog.info? 74).map (fun i => (i.zero, i.size, i.bytes)) = some (some (.agg #[.int .i64 0, .int .u64 0, .int .u8 0, .pointer none, .pointer none, .int .i64 0]), 6, 48) := by kernel_rfl

theorem owns_set {w : World} {base g e size n cap : Nat} {xs : List Value} (h : w.ownsRow base e size (.slice (some ⟨g, 0, none⟩) n cap) n xs) {a : Addr} (ha : a.block ≠ g) (v : Value) : (w.setCell a v).ownsRow base e size (.slice (some ⟨g, 0, none⟩) n cap) n xs :=
  h.kept (row := some a.block) ⟨rfl, rfl, rfl, by simp, fun k _ hk => Below.heap_setCell _ _ _ _ (fun x => hk (by rw [x]))⟩ (.inr (fun x => ha (Option.some.inj x).symm))

/-- a new processor's cells -/
def procC (n : Int) : Array Value := #[.int .i64 n, .int .i64 0, .pointer none, .slice none 0 0, .int .i64 0, .int .u64 0, .int .i64 0, .bool false, .bool false, .int .i64 0, .bool false, .int .i64 0]

set_option maxRecDepth 100000 in
set_option maxHeartbeats 2000000 in
theorem takeIdle_any (s cp n c pr base : Nat) (ai : Option Addr) (C : Array Value) (xs : List Value) (w : World) (hs : At w s 60 C) (h61 : C.size = 61) (hn : n ≤ 1000)
    (c13 : C[13]? = some (.slice ai 0 cp)) (c12 : C[12]? = some (.slice (some ⟨pr, 0, none⟩) n c)) (hown : w.ownsRow base 61 1 (.slice (some ⟨pr, 0, none⟩) n c) n xs) (hsp : s ≠ pr) (hb : base ≤ w.heap.size) :
    Calls Ybaf.prog 35 #[.pointer (some ⟨s, 0, none⟩)] w fun e w' => e = .returned (.pointer (some ⟨w.heap.size, 0, none⟩)) ∧ ∃ g c', At w' w.heap.size 63 (procC n) ∧ At w' s 60 (C.setIfInBounds 12 (.slice (some ⟨g, 0, none⟩) (n + 1) c')) ∧
      w'.ownsRow base 61 1 (.slice (some ⟨g, 0, none⟩) (n + 1) c') (n + 1) (xs ++ [.pointer (some ⟨w.heap.size, 0, none⟩)]) ∧ (g = pr ∨ w.heap.size + 2 ≤ g) ∧ Fr w w' (fun k => k = s ∨ k = pr) := by
  obtain ⟨i0, hi, hz0, hz1, hz2⟩ := info_parts Ybaf.info61
  have y13 := hs.cell 13 c13
  have y12 := hs.cell 12 c12
  have ls := hs.lt
  have lp := (hown.lt pr rfl).2
  have hpb := (hown.lt pr rfl).1
  have hm : n ≤ maxLen := by unfold maxLen; omega
  unfold procC
  go_enter Ybaf.func35, Ybaf.ntmps35
  go_wp2_with (first | (go_at_call 43; refine (len_here _ _ _ _ (by unfold maxLen; omega)).mono ?_; rintro e w' ⟨rfl, rfl⟩) | (at_builtin; go_must (refine wpList_append_lies _ rfl (.tmp 33) (.tmp 35) 33 rfl base 61 i0 _ 1 8 Ybaf.underlying33 hi hz0 hz1 hz2 rfl ?c0 (.slice (some ⟨pr, 0, none⟩) n c) n xs rfl ?cown ⟨w.heap.size + 1, 0, none⟩ 1 1 [.pointer (some ⟨w.heap.size, 0, none⟩)] rfl rfl ?c1 ?c2 ?c7 ?c3 ?c4 ?c5 (w.heap.size + 2) ?c6 ?_)))
  case c0 => omega
  case cown => exact (hown.alloc _).alloc _
  case c1 => intro j u hj; exact (by simpa [procC] using cell_one_new (w.alloc (.cells (procC n) 63)) (.pointer (some ⟨w.heap.size, 0, none⟩)) 61 j u hj)
  case c2 => simp [Value.oneCell']
  case c7 => omega
  case c3 => unfold maxLen; omega
  case c4 => omega
  case c5 => simp; omega
  case c6 => simp
  intro gg c' w1 hown1 hgrow hat hlt
  have hne : (some s : Option Nat) ≠ some pr := fun e => hsp (Option.some.inj e)
  have A1 : At w1 s 60 C := ((hs.alloc _).alloc _).grown hgrow hne
  have E1 : At w1 w.heap.size 63 (procC n) := ((At.new w 63 (procC n)).alloc _).grown hgrow (fun e => Nat.ne_of_gt lp (Option.some.inj e))
  have F1 : Fr w w1 (fun k => k = s ∨ k = pr) := (((Fr.refl w _).alloc _).alloc _).trans (Fr.of_grown hgrow (fun k hk => .inr (Option.some.inj hk).symm))
  have z12 := A1.cell 12 c12
  have f12 := A1.frozen 12
  have hgs : gg ≠ s := by
    rcases hat with e | e
    · have := Option.some.inj e; intro h; subst h; exact hsp this.symm
    · omega
  have HO : Hid (w1.ownsRow base 61 1 (.slice (some ⟨gg, 0, none⟩) (n + 1) c') (n + 1) (xs ++ [.pointer (some ⟨w.heap.size, 0, none⟩)])) := hown1
  have HT : Hid (gg = pr ∨ w.heap.size + 2 ≤ gg) := by
    rcases hat with e | e
    · exact .inl (Option.some.inj e).symm
    · exact .inr (by omega)
  have HA : Hid (At w1 s 60 C) := A1
  have HE : Hid (At w1 w.heap.size 63 (procC n)) := E1
  have HF : Hid (Fr w w1 (fun k => k = s ∨ k = pr)) := F1
  clear hown hown1 hgrow hat A1 E1 F1 hs c13 c12
  go_wp2
  go_ret
  exact ⟨rfl, gg, c', HE.out.set_other (a := ⟨s, 12, none⟩) (Nat.ne_of_lt ls) _, HA.out.set 12 _, owns_set HO.out (a := ⟨s, 12, none⟩) (Ne.symm hgs) _, HT.out, HF.out.setCell (.inl (.inl rfl)) _⟩

/-- an event's cells -/
def evC (at_ : Int) (seq : Int) (p : Nat) : Array Value := #[.int .i64 at_, .int .u64 seq, .int .u8 0, .pointer (some ⟨p, 0, none⟩), .pointer none, .int .i64 0]

theorem hide_all {p : Prop} (h : p) : Hid p := h

theorem owns_base {w : World} {base base' g e size n cap : Nat} {xs : List Value} (h : w.ownsRow base e size (.slice (some ⟨g, 0, none⟩) n cap) n xs) (hb : base' ≤ base) : w.ownsRow base' e size (.slice (some ⟨g, 0, none⟩) n cap) n xs := by
  obtain ⟨h1, h2⟩ := h
  refine ⟨h1, ?_⟩
  rcases h2 with ⟨h2, _⟩ | ⟨g', cap', cur, hv, hbase, rest⟩
  · cases h2
  · exact .inr ⟨g', cap', cur, hv, Nat.le_trans hb hbase, rest⟩

theorem new_two (w : World) (o1 o2 : Obj) : ((w.alloc o1).alloc o2).heap[w.heap.size + 1]? = some o2 := by
  have := heap_alloc_new (w.alloc o1) o2
  simpa using this

theorem push_keep {w w1 : World} {s : Nat} {C : Array Value} {o1 o2 : Obj} {v : Value} (hs : At w s 60 C) (c8 : C[8]? = some v) (hg : ((w.alloc o1).alloc o2).drew.grownBy w1 none) :
    w1.cell? ⟨s, 8, none⟩ = some v ∧ w1.frozen? ⟨s, 8, none⟩ = false ∧ At w1 s 60 C := by
  have A1 : At w1 s 60 C := ((hs.alloc o1).alloc o2).drew.grown hg (by simp)
  exact ⟨A1.cell 8 c8, A1.frozen 8, A1⟩

set_option maxRecDepth 100000 in
set_option maxHeartbeats 2000000 in
theorem push_any (s p : Nat) (seq : Int) (C : Array Value) (w : World) (hs : At w s 60 C) (h61 : C.size = 61) (c8 : C[8]? = some (.slice none 0 0)) :
    Calls Ybaf.prog 49 #[.pointer (some ⟨s, 8, none⟩), .agg (evC 0 seq p)] w fun e w' => e = .returned (.tuple #[]) ∧ ∃ g c', At w' s 60 (C.setIfInBounds 8 (.slice (some ⟨g, 0, none⟩) 1 c')) ∧
      w'.ownsRow w.heap.size 74 6 (.slice (some ⟨g, 0, none⟩) 1 c') 1 (evC 0 seq p).toList ∧ w.heap.size ≤ g ∧ Fr w w' (fun k => k = s) := by
  obtain ⟨i0, hi, hz0, hz1, hz2⟩ := info_parts Ybaf.info74
  have y8 := hs.cell 8 c8
  have f8 := hs.frozen 8
  have ls := hs.lt
  unfold evC
  go_enter Ybaf.func49, Ybaf.ntmps49
  go_wp2_with fail
  go_region_law ((refine step_append_lies _ (by rfl) _ _ _ (by rfl) w.heap.size 74 i0 _ 6 48 Ybaf.underlying29 hi hz0 hz1 hz2 rfl (by omega) (.slice none 0 0) 0 [] (by rfl) (World.ownsRow_nil _ _ _ _) ⟨w.heap.size + 1, 0, none⟩ 1 1 (evC 0 seq p).toList (by rfl) (by rfl) (World.news_of_block (cs := evC 0 seq p) (t := 74) (fr := (0, 0)) (new_two w _ _)) (by simp [evC, Value.oneCell']) (by omega) (by unfold maxLen; omega) (by omega) (by simp; omega) (w.heap.size + 2) (by simp) ?_; intro gg cap w1 hown1 hgrow hat hlt; (have f8' := push_keep hs c8 hgrow); (have y8' := f8'.1); (have f8'' := f8'.2.1)))
  all_goals
    have hgg : gg ≠ s := by
      rcases hat with e | e
      · cases e
      · omega
    have hgw : w.heap.size ≤ gg := by
      rcases hat with e | e
      · cases e
      · omega
    have HO : Hid (w1.ownsRow w.heap.size 74 6 (.slice (some ⟨gg, 0, none⟩) 1 cap) 1 (evC 0 seq p).toList) := hown1
    have HA : Hid (At w1 s 60 C) := f8'.2.2
    have HF : Hid (Fr w w1 (fun k => k = s)) := ((((Fr.refl w _).alloc _).alloc _).drew).trans (Fr.of_grown hgrow (fun k hk => by cases hk))
    clear hown1 hgrow hat f8' hs c8
    go_wp2
    refine wp_loop_rounds 1 ?_
    rw [rounds_succ]
    go_wp2
    go_end0
    exact ⟨rfl, gg, cap, HA.out.set 8 _, owns_set HO.out (a := ⟨s, 8, none⟩) (Ne.symm hgg) _, hgw, HF.out.setCell (.inl rfl) _⟩

set_option maxRecDepth 100000 in
set_option maxHeartbeats 2000000 in
theorem schedule_any (s p : Nat) (seq : Int) (C : Array Value) (w : World) (hs : At w s 60 C) (h61 : C.size = 61) (c8 : C[8]? = some (.slice none 0 0)) (c9 : C[9]? = some (.int .u64 seq)) (hq : 0 ≤ seq ∧ seq ≤ 1000000) :
    Calls Ybaf.prog 38 #[.pointer (some ⟨s, 0, none⟩), .agg (evC 0 0 p)] w fun e w' => e = .returned (.tuple #[]) ∧ ∃ g c', At w' s 60 ((C.setIfInBounds 9 (.int .u64 (seq + 1))).setIfInBounds 8 (.slice (some ⟨g, 0, none⟩) 1 c')) ∧
      w'.ownsRow w.heap.size 74 6 (.slice (some ⟨g, 0, none⟩) 1 c') 1 (evC 0 seq p).toList ∧ w.heap.size ≤ g ∧ Fr w w' (fun k => k = s) := by
  have y9 := hs.cell 9 c9
  have f9 := hs.frozen 9
  have ls := hs.lt
  unfold evC
  go_enter Ybaf.func38, Ybaf.ntmps38
  go_wp2_with fail
  obtain ⟨W, hW⟩ : ∃ W, W = (w.setCell ⟨s, 9, none⟩ (.int .u64 (seq + 1))).alloc (.cells #[.int .i64 0, .int .u64 seq, .int .u8 0, .pointer (some ⟨p, 0, none⟩), .pointer none, .int .i64 0] 74) := ⟨_, rfl⟩
  rw [← hW]
  have E1 : At W w.heap.size 74 (evC 0 seq p) := by rw [hW]; exact (by simpa [evC] using At.new (w.setCell ⟨s, 9, none⟩ (.int .u64 (seq + 1))) 74 (evC 0 seq p))
  have A1 : At W s 60 (C.setIfInBounds 9 (.int .u64 (seq + 1))) := by rw [hW]; exact (hs.set 9 _).alloc _
  have F1 : Fr w W (fun k => k = s) := by rw [hW]; exact ((Fr.refl w (fun k => k = s)).setCell (p := ⟨s, 9, none⟩) (.inl rfl) _).alloc _
  have x0 : W.cell? ⟨w.heap.size, 0, none⟩ = some (.int .i64 0) := E1.cell 0 rfl
  have x1 : W.cell? ⟨w.heap.size, 1, none⟩ = some (.int .u64 seq) := E1.cell 1 rfl
  have x2 : W.cell? ⟨w.heap.size, 2, none⟩ = some (.int .u8 0) := E1.cell 2 rfl
  have x3 : W.cell? ⟨w.heap.size, 3, none⟩ = some (.pointer (some ⟨p, 0, none⟩)) := E1.cell 3 rfl
  have x4 : W.cell? ⟨w.heap.size, 4, none⟩ = some (.pointer none) := E1.cell 4 rfl
  have x5 : W.cell? ⟨w.heap.size, 5, none⟩ = some (.int .i64 0) := E1.cell 5 rfl
  have HA : Hid (At W s 60 (C.setIfInBounds 9 (.int .u64 (seq + 1)))) := A1
  have HF : Hid (Fr w W (fun k => k = s)) := F1
  have lW := F1.size
  have h9 : (C.setIfInBounds 9 (.int .u64 (seq + 1))).size = 61 := by simp [h61]
  have h98 : (C.setIfInBounds 9 (.int .u64 (seq + 1)))[8]? = some (.slice none 0 0) := by rw [Array.getElem?_setIfInBounds, if_neg (by omega)]; exact c8
  have H9 := hide_all h9
  have H98 := hide_all h98
  clear hW E1 A1 F1 hs c8 c9 y9 f9 h9 h98 h61
  go_region_with ((go_at_call 49; refine (push_any s p seq _ _ ?_ H9.out H98.out).mono ?_; (exact HA.out.drew); rintro e w2 ⟨rfl, g, c', A2, O2, hg2, F2⟩))
  all_goals
    go_wp2
    go_end0
    exact ⟨rfl, g, c', A2, owns_base O2 lW, Nat.le_trans lW hg2, HF.out.drew.trans F2⟩

set_option maxRecDepth 100000 in
set_option maxHeartbeats 2000000 in
theorem choose_any (s p : Nat) (seq : Int) (C D : Array Value) (w : World) (hs : At w s 60 C) (hp : At w p 63 D) (hsp : s ≠ p) (h61 : C.size = 61) (h12 : D.size = 12) (c7 : C[7]? = some (.int .i64 0)) (c8 : C[8]? = some (.slice none 0 0)) (c9 : C[9]? = some (.int .u64 seq)) (hq : 0 ≤ seq ∧ seq ≤ 1000000) :
    Calls Ybaf.prog 29 #[.pointer (some ⟨s, 0, none⟩), .pointer (some ⟨p, 0, none⟩)] w fun e w' => e = .returned (.tuple #[]) ∧ ∃ g c', At w' s 60 ((C.setIfInBounds 9 (.int .u64 (seq + 1))).setIfInBounds 8 (.slice (some ⟨g, 0, none⟩) 1 c')) ∧
      At w' p 63 (D.setIfInBounds 8 (.bool true)) ∧ w'.ownsRow w.heap.size 74 6 (.slice (some ⟨g, 0, none⟩) 1 c') 1 (evC 0 seq p).toList ∧ w.heap.size ≤ g ∧ Fr w w' (fun k => k = s ∨ k = p) := by
  have y7 := hs.cell 7 c7
  have z8 := hp.cell 8 (Array.getElem?_eq_getElem (by omega))
  have g8 := hp.frozen 8
  generalize D[8] = d8 at z8
  have hE : (evC 0 0 p) = #[.int .i64 0, .int .u64 0, .int .u8 0, .pointer (some ⟨p, 0, none⟩), .pointer none, .int .i64 0] := rfl
  have HE := hide_all hE
  have HA : Hid (At (w.setCell ⟨p, 8, none⟩ (.bool true)) s 60 C) := hs.set_other (a := ⟨p, 8, none⟩) (Ne.symm hsp) _
  have HP : Hid (At (w.setCell ⟨p, 8, none⟩ (.bool true)) p 63 (D.setIfInBounds 8 (.bool true))) := hp.set 8 _
  have H8 := hide_all c8
  have H9 := hide_all c9
  clear hs hp hE c8 c9
  go_enter Ybaf.func29, Ybaf.ntmps29
  go_wp2_with fail
  rw [← HE.out]
  refine (schedule_any s p seq C _ HA.out h61 H8.out H9.out hq).mono ?_
  rintro e w2 ⟨rfl, g, c', A2, O2, hg2, F2⟩
  go_wp2
  go_end0
  exact ⟨rfl, g, c', A2, HP.out.fr F2 (fun e => hsp e.symm), owns_base O2 (by simp), by simpa using hg2, ((Fr.refl w (fun k => k = s ∨ k = p)).setCell (p := ⟨p, 8, none⟩) (.inl (.inr rfl)) _).trans (F2.mono (fun k hk => .inl hk))⟩
end Go.Proofs.YbulkcxmyFmt
