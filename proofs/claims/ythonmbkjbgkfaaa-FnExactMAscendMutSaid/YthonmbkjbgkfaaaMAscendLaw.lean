/-
  The law on AscendMut. No condition.
-/
import Derived.Test.YthonmbkjbgkfaaaMAscend
import Derived.Test.YthonmbkjbgkfaaaMScanLaw
set_option linter.unusedSimpArgs false
set_option linter.unusedVariables false
namespace Go.Proofs.Ythonmbkjbgkfaaa
open Go Go.Proofs
set_option maxHeartbeats 400000 in
set_option maxRecDepth 8000 in
theorem ascend_any (m d : Nat) (iso : Int) (xs : List It) (F : Nat → Nat → Prop) (q : Rk) (f : Value) (G : Nat → Nat → Prop) (S : List It → World → Prop) (go : List It → Bool) (C : Cb f G S go) (hm : ∀ o, ¬ G m o) (mu : Bool) (w : World)
    (hM : MapAt w m d iso xs F) (hG : ∀ y o o', F y o → ¬ G y o') (hS : S [] w) (hbig : xs.length ≤ 4294967295) :
    CallK Try.prog 80 #[ptr m, kV q, f, .bool mu] w fun _ w' => S (hand go [] (xs.drop (lb O κ q xs))).1 w' ∧ Ext G w w' := by
  refine calls_of_W [] Try.func80 rfl Try.ntmps80 Try.results80 (by simp) fun e he => ?_
  have e0 : e 0 = ptr m := he 0 _ rfl
  have e1 : e 1 = kV q := he 1 _ rfl
  have e2 : e 2 = f := he 2 _ rfl
  have e3 : e 3 = .bool mu := he 3 _ rfl
  clear he
  refine W_seq ?_
  rcases hM.root with ⟨rfl, hr⟩ | ⟨h, b, hr, ht⟩
  · refine W_sq fun K hK => (W_text [true, true, true, true, true] (by kernel_rfl) ?_); simp only [↓List.toList_toArray, ↓rgd, ↓reduceIte, Nat.reduceEqDiff, rg, ow_80, e0, ptr_eq, hr]
    refine hK _ _ ?_; clear hK K
    refine W_true (by simp only [evt, evc, upd_eq, Nat.reduceEqDiff, ↓reduceIte, ntT, ntF] <;> rfl) (W_ret ?_)
    simp only [andThen_ret]
    exact endQ_0 ⟨hS, Ext.refl _ _⟩
  · refine W_sq fun K hK => (W_text [true, true, true, true, true] (by kernel_rfl) ?_); simp only [↓List.toList_toArray, ↓rgd, ↓reduceIte, Nat.reduceEqDiff, rg, ow_80, e0, ptr_eq, hr]
    refine hK _ _ ?_; clear hK K
    refine W_false (by simp only [evt, evc, upd_eq, Nat.reduceEqDiff, ↓reduceIte, ntT, ntF] <;> rfl) (W_skip ?_)
    show W _ _ _ _ _ _
    refine W_rg fun K hK => (W_text [true, true, true, true, true, true, true, false] (by kernel_rfl) ?_); simp only [↓List.toList_toArray, ↓rgd, ↓reduceIte, Nat.reduceEqDiff, rg, ow_80, e0, e1, e2, e3, ptr_eq]
    refine do_call fn_88 (by simp only [evt, evc, upd_eq, Nat.reduceEqDiff, ↓reduceIte, maT, maC, maN, isnN, isnS] <;> rfl) (nodeAscend_any m iso _ _ q f G S go C hm mu h b 1 m 2 xs F [] w ht hM.asc hM.cfg.iso hr hG hS (by simpa using hbig)) ?_
    rintro _ w1 ⟨rfl, hS1, X1⟩
    refine ⟨trivial, ?_⟩
    simp only [↓List.toList_toArray, ↓rgd, ↓reduceIte, Nat.reduceEqDiff, rg, ow_80]
    refine hK _ _ ?_; clear hK K
    exact endQ_0n ⟨hS1, X1⟩
set_option maxHeartbeats 400000 in
set_option maxRecDepth 8000 in
theorem ascendMut_any (m d : Nat) (iso : Int) (xs : List It) (F : Nat → Nat → Prop) (q : Rk) (f : Value) (G : Nat → Nat → Prop) (S : List It → World → Prop) (go : List It → Bool) (C : Cb f G S go) (hm : ∀ o, ¬ G m o) (w : World)
    (hM : MapAt w m d iso xs F) (hG : ∀ y o o', F y o → ¬ G y o') (hS : S [] w) (hbig : xs.length ≤ 4294967295) :
    CallK Try.prog 60 #[ptr m, kV q, f] w fun _ w' => S (hand go [] (xs.drop (lb O κ q xs))).1 w' ∧ Ext G w w' := by
  refine calls_of_W [] Try.func60 rfl Try.ntmps60 Try.results60 (by simp) fun e he => ?_
  have e0 : e 0 = ptr m := he 0 _ rfl
  have e1 : e 1 = kV q := he 1 _ rfl
  have e2 : e 2 = f := he 2 _ rfl
  clear he
  refine W_rg fun K hK => (W_text [true, true, true, false] (by kernel_rfl) ?_); simp only [↓List.toList_toArray, ↓rgd, ↓reduceIte, Nat.reduceEqDiff, rg, ow_60, e0, e1, e2]
  refine do_call fn_80 (by simp only [evt, evc, upd_eq, Nat.reduceEqDiff, ↓reduceIte, maT, maC, maN, isnN, isnS] <;> rfl) (ascend_any m d iso xs F q f G S go C hm true w hM hG hS hbig) ?_
  rintro _ w1 ⟨hS1, X1⟩
  refine ⟨trivial, ?_⟩
  simp only [↓List.toList_toArray, ↓rgd, ↓reduceIte, Nat.reduceEqDiff, rg, ow_60]
  refine hK _ _ ?_; clear hK K
  exact endQ_0n ⟨hS1, X1⟩
set_option maxHeartbeats 400000 in
set_option maxRecDepth 8000 in
theorem impl_ascendMut (d : Nat) (hd : 2 ≤ d) (hd' : d ≤ 128) (l : List It) (lv : Value) (q n : Int) (w : World) (hl : SlI w lv l) (hbig : l.length ≤ 2147483647) :
    CallK Try.prog 41 #[.int .i64 d, lv, .int .i64 q, .int .i64 n] w fun v w' => SlI w' v (firstN n ((tree l).drop (lb O κ q (tree l)))) ∧ Ext noF w w' := by
  refine calls_of_W [.tmp 8] Try.func41 rfl Try.ntmps41 Try.results41 (by simp) fun e he => ?_
  have e0 : e 0 = .int .i64 d := he 0 _ rfl
  have e1 : e 1 = lv := he 1 _ rfl
  have e2 : e 2 = .int .i64 q := he 2 _ rfl
  have e3 : e 3 = .int .i64 n := he 3 _ rfl
  clear he
  have htl := tree_len l
  refine W_sq fun K hK => (W_text [true] (by kernel_rfl) ?_); simp only [↓List.toList_toArray, ↓rgd, ↓reduceIte, Nat.reduceEqDiff, rg, ow_41]
  refine hK _ _ ?_; clear hK K
  refine W_sq fun K hK => (W_text [false] (by kernel_rfl) ?_); simp only [↓List.toList_toArray, ↓rgd, ↓reduceIte, Nat.reduceEqDiff, rg, ow_41]
  refine do_alloc z_sl fun w1 n1 => ⟨trivial, ?_⟩
  simp only [↓List.toList_toArray, ↓rgd, ↓reduceIte, Nat.reduceEqDiff, rg, ow_41]
  refine hK _ _ ?_; clear hK K
  have s1 := n1.size
  refine W_sq fun K hK => (W_text [true, true, false, true, true, false, false] (by kernel_rfl) ?_); simp only [↓List.toList_toArray, ↓rgd, ↓reduceIte, Nat.reduceEqDiff, rg, ow_41, e0, e1]
  refine do_call fn_46 (by simp only [evt, evc, upd_eq, Nat.reduceEqDiff, ↓reduceIte, maT, maC, maN, isnN, isnS] <;> rfl) (grow_any d hd hd' l lv w1 (hl.ext0 n1.ext) hbig) ?_
  rintro _ w2 ⟨X2, m, F, rfl, hM, hm, hsi⟩
  refine ⟨trivial, ?_⟩
  simp only [↓List.toList_toArray, ↓rgd, ↓reduceIte, Nat.reduceEqDiff, rg, ow_41, e2, e3]
  refine do_call fn_55 (vs := #[ptr w.heap.size, .int .i64 n]) (by simp only [evt, evc, upd_eq, Nat.reduceEqDiff, ↓reduceIte, maT, maC, maN, isnN, isnS] <;> rfl) (pairs_mk w.heap.size n w2) ?_
  rintro _ w3 ⟨tb, rfl, X3, hC⟩
  refine ⟨trivial, ?_⟩
  simp only [↓List.toList_toArray, ↓rgd, ↓reduceIte, Nat.reduceEqDiff, rg, ow_41]
  have s2 := X2.size
  have s3 := X3.size
  have hM3 := hM.ext X3
  have r3 := X3.rd (X2.rd (Row.cons.1 n1.row).1 fun h => h) fun h => h
  have hKp : Kept w3.heap.size w.heap.size [] w3 := ⟨⟨_, r3, ⟨rfl, .inl ⟨rfl, rfl⟩⟩, fun b o n c h => by cases h⟩, X3.wok (X2.wok n1.wok), by omega, Nat.le_refl _⟩
  have hlt := hM.lt
  refine do_call fn_60 (by simp only [evt, evc, upd_eq, Nat.reduceEqDiff, ↓reduceIte, maT, maC, maN, isnN, isnS] <;> rfl) (ascendMut_any m d 0 (tree l) F q (pairsV tb) (outF w3.heap.size w.heap.size) (PS w.heap.size n tb w2.heap.size w3.heap.size) (upTo n) (cb_pairs _ n tb _ _ (by omega)) (fun o h => ?_) w3 hM3 (fun y o o' hy h => ?_) ⟨hKp, hC⟩ (by omega)) ?_
  · have := wok_lt hM3.cfg.wok
    rcases h with h | h <;> omega
  · have := hlt y o hy
    have := hsi y o hy
    rcases h with h | h <;> omega
  rintro _ w4 ⟨⟨hK4, _⟩, X4⟩
  refine ⟨trivial, ?_⟩
  simp only [↓List.toList_toArray, ↓rgd, ↓reduceIte, Nat.reduceEqDiff, rg, ow_41]
  refine hK _ _ ?_; clear hK K
  obtain ⟨sv, hv, hS, _⟩ := hK4.var
  refine W_sq fun K hK => (W_text [true, true] (by kernel_rfl) ?_); simp only [↓List.toList_toArray, ↓rgd, ↓reduceIte, Nat.reduceEqDiff, rg, ow_41, hv]
  refine hK _ _ ?_; clear hK K
  refine W_ret (endQ_1 (by simp only [upd_eq, Nat.reduceEqDiff, ↓reduceIte] <;> rfl) ⟨by rw [hand_upTo_nil] at hS; exact hS, ?_⟩)
  refine noF_of (n1.ext.tr (X2.tr X3)) X4 fun y o hy h => ?_
  rcases h with h | h <;> omega
set_option maxHeartbeats 400000 in
set_option maxRecDepth 8000 in
theorem from_nil (l : List It) (lv : Value) (x : It) (w : World) (hl : SlI w lv l) (hbig : l.length ≤ 2147483648) :
    CallK Try.prog 61 #[nilS, lv, iV x] w fun v w' => SlI w' v (l.drop (lb O κ (κ x) l)) ∧ Ext noF w w' := by
  refine calls_of_W [.tmp 6] Try.func61 rfl Try.ntmps61 Try.results61 (by simp) fun e he => ?_
  have e0 : e 0 = nilS := he 0 _ rfl
  have e1 : e 1 = lv := he 1 _ rfl
  have e2 : e 2 = iV x := he 2 _ rfl
  clear he
  refine W_sq fun K hK => (W_text [false, true] (by kernel_rfl) ?_); simp only [↓List.toList_toArray, ↓rgd, ↓reduceIte, Nat.reduceEqDiff, rg, ow_61]
  refine do_box (by simp only [evt]; exact e2) fun w1 n1 => ⟨trivial, ?_⟩
  simp only [↓List.toList_toArray, ↓rgd, ↓reduceIte, Nat.reduceEqDiff, rg, ow_61]
  refine hK _ _ ?_; clear hK K
  have bx : rdA w1 w.heap.size 0 2 = some (iV x) := n1.row.rdA 2 (by show 2 ≤ 2; omega)
  refine W_sq fun K hK => (W_text [true, true, true, false, true, true, true, true, true] (by kernel_rfl) ?_); simp only [↓List.toList_toArray, ↓rgd, ↓reduceIte, Nat.reduceEqDiff, rg, ow_61, e0, e1, bx]
  refine do_call fn_65 (by simp only [evt, evc, upd_eq, Nat.reduceEqDiff, ↓reduceIte, maT, maC, maN, isnN, isnS] <;> rfl) (place_nil l lv x w1 (hl.ext0 n1.ext) hbig) ?_
  rintro _ w2 ⟨rfl, X2⟩
  refine ⟨trivial, ?_⟩
  simp only [↓List.toList_toArray, ↓rgd, ↓reduceIte, Nat.reduceEqDiff, rg, ow_61]
  refine hK _ _ ?_; clear hK K
  obtain ⟨sv, h1, h2⟩ := sl_lo ((hl.ext0 n1.ext).ext0 X2) (lb O κ (κ x) l) (lb_le O κ _ _)
  refine W_sq fun K hK => (W_text [true, true, true, true] (by kernel_rfl) ?_); simp only [↓List.toList_toArray, ↓rgd, ↓reduceIte, Nat.reduceEqDiff, rg, ow_61, e1, h1]
  refine hK _ _ ?_; clear hK K
  refine W_ret (endQ_1 (by simp only [upd_eq, Nat.reduceEqDiff, ↓reduceIte] <;> rfl) ⟨?_, n1.ext.tr X2⟩)
  have : (l.drop (lb O κ (κ x) l)).length = l.length - lb O κ (κ x) l := List.length_drop
  show SlV _ _ _ _ _
  rw [this]; exact h2
set_option maxHeartbeats 400000 in
set_option maxRecDepth 8000 in
theorem gascend_nil (l : List It) (lv : Value) (x : It) (n : Int) (w : World) (hl : SlI w lv l) (hbig : l.length ≤ 2147483647) :
    CallK Try.prog 42 #[mkV, lv, iV x, .int .i64 n] w fun v w' => SlI w' v (firstN n ((tree l).drop (lb O κ (κ x) (tree l)))) ∧ Ext noF w w' := by
  refine calls_of_W [.tmp 8] Try.func42 rfl Try.ntmps42 Try.results42 (by simp) fun e he => ?_
  have e0 : e 0 = mkV := he 0 _ rfl
  have e1 : e 1 = lv := he 1 _ rfl
  have e2 : e 2 = iV x := he 2 _ rfl
  have e3 : e 3 = .int .i64 n := he 3 _ rfl
  clear he
  have htl := tree_len l
  refine W_sq fun K hK => (W_text [false, false, true] (by kernel_rfl) ?_); simp only [↓List.toList_toArray, ↓rgd, ↓reduceIte, Nat.reduceEqDiff, rg, ow_42]
  refine do_box (by simp only [evt]; exact e0) fun w1 n1 => ⟨trivial, ?_⟩
  simp only [↓List.toList_toArray, ↓rgd, ↓reduceIte, Nat.reduceEqDiff, rg, ow_42, e2]
  refine do_box (by simp only [evt, upd_eq, Nat.reduceEqDiff, ↓reduceIte]; exact e2) fun w2 n2 => ⟨trivial, ?_⟩
  simp only [↓List.toList_toArray, ↓rgd, ↓reduceIte, Nat.reduceEqDiff, rg, ow_42]
  refine hK _ _ ?_; clear hK K
  have s1 := n1.size
  have s2 := n2.size
  have r1 : rd w2 w.heap.size 0 = some nilS := n2.ext.rd ((Row.cons.1 (show Row w1 w.heap.size 0 [nilS, .int .i64 0, .bool false] from n1.row)).1) fun h => h
  have bx : rdA w2 w1.heap.size 0 2 = some (iV x) := n2.row.rdA 2 (by show 2 ≤ 2; omega)
  have M1 : readsB (some (some [w.heap.size, w1.heap.size])) w.heap.size = true := by simp [readsB]
  have M2 : readsB (some (some [w.heap.size, w1.heap.size])) w1.heap.size = true := by simp [readsB]
  refine W_sq fun K hK => (W_draw (some (some [w.heap.size, w1.heap.size])) none [(0, 0, 0), (0, 1, 0), (0, 2, 0), (0, 3, 0), (0, 4, 0), (0, 6, 0), (0, 8, 0), (1, 5, 0), (1, 7, 0), (1, 9, 0), (0, 10, 0)] mixed (by kernel_rfl) ?_); simp only [↓List.toList_toArray, ↓rgd, ↓reduceIte, Nat.reduceEqDiff, rg, ow_42, e1, e2, e3, r1, bx, M1, M2]
  have kp : ∀ (n : Nat) (a b : World), w2.heap.size ≤ a.heap.size → Ext noF (dr a n) b → keeps (some (some [w.heap.size, w1.heap.size])) (dr a n) b := fun n a b hs X => keeps_on X fun y hy => ⟨by
    rw [sz_dr]
    simp only [List.mem_cons, List.not_mem_nil, or_false] at hy
    omega, fun _ h => h⟩
  refine do_call fn_26 (by simp only [evt, evc, upd_eq, Nat.reduceEqDiff, ↓reduceIte, maT, maC, maN, isnN, isnS] <;> rfl) (stree_nil l lv _ (((hl.ext0 n1.ext).ext0 n2.ext).ext0 (Ext.dr _ _ _)) hbig) ?_
  rintro v3 w3 ⟨hS3, X3⟩
  refine ⟨.inr (kp _ _ _ (Nat.le_refl _) X3), ?_⟩
  simp only [↓List.toList_toArray, ↓rgd, ↓reduceIte, Nat.reduceEqDiff, rg, ow_42]
  have s3 := X3.size
  refine do_call fn_61 (by simp only [evt, evc, upd_eq, Nat.reduceEqDiff, ↓reduceIte, maT, maC, maN, isnN, isnS] <;> rfl) (from_nil (tree l) v3 x w3 hS3 (by omega)) ?_
  rintro v4 w4 ⟨hS4, X4⟩
  refine ⟨.inr (keeps_on X4 fun y hy => ⟨by
    rw [sz_dr] at s3
    simp only [List.mem_cons, List.not_mem_nil, or_false] at hy
    omega, fun _ h => h⟩), ?_⟩
  simp only [↓List.toList_toArray, ↓rgd, ↓reduceIte, Nat.reduceEqDiff, rg, ow_42]
  refine do_call fn_56 (by simp only [evt, evc, upd_eq, Nat.reduceEqDiff, ↓reduceIte, maT, maC, maN, isnN, isnS] <;> rfl) (first_any _ v4 n w4 hS4) ?_
  rintro v5 _ ⟨hS5, rfl⟩
  refine ⟨.inr (keeps_on (Ext.refl noF _) fun y hy => ⟨by
    have := X4.size
    rw [sz_dr] at s3
    simp only [List.mem_cons, List.not_mem_nil, or_false] at hy
    omega, fun _ h => h⟩), ?_⟩
  simp only [↓List.toList_toArray, ↓rgd, ↓reduceIte, Nat.reduceEqDiff, rg, ow_42]
  refine hK _ _ ?_; clear hK K
  exact W_ret (endQ_1 (by simp only [upd_eq, Nat.reduceEqDiff, ↓reduceIte] <;> rfl) ⟨hS5, ((n1.ext.tr n2.ext).tr X3.od).tr X4⟩)
theorem bu_piv (q : Int) : buildV Try.prog 36 [(0, .int .i64 q)] = some (iV (q, 0)) := by kernel_rfl
set_option maxHeartbeats 400000 in
set_option maxRecDepth 8000 in
theorem law_ascendMut (d : Nat) (hd : 2 ≤ d) (hd' : d ≤ 128) (l : List It) (lv : Value) (q n : Int) (w : World) (hl : SlI w lv l) (hbig : l.length ≤ 2147483647) :
    CallK Try.prog 21 #[.int .i64 d, lv, .int .i64 q, .int .i64 n] w fun v w' => v = .bool true ∧ Ext noF w w' := by
  refine calls_of_W [.tmp 8] Try.func21 rfl Try.ntmps21 Try.results21 (by simp) fun e he => ?_
  have e0 : e 0 = .int .i64 d := he 0 _ rfl
  have e1 : e 1 = lv := he 1 _ rfl
  have e2 : e 2 = .int .i64 q := he 2 _ rfl
  have e3 : e 3 = .int .i64 n := he 3 _ rfl
  clear he
  have htl := tree_len l
  have hfl := firstN_length n ((tree l).drop (lb O κ q (tree l)))
  rw [List.length_drop] at hfl
  refine W_sq fun K hK => (W_text [true] (by kernel_rfl) ?_); simp only [↓List.toList_toArray, ↓rgd, ↓reduceIte, Nat.reduceEqDiff, rg, ow_21]
  refine hK _ _ ?_; clear hK K
  refine W_sq fun K hK => (W_text [true, true, true, true, false, true] (by kernel_rfl) ?_); simp only [↓List.toList_toArray, ↓rgd, ↓reduceIte, Nat.reduceEqDiff, rg, ow_21, e0, e1, e2, e3]
  refine do_call fn_41 (by simp only [evt, evc, upd_eq, Nat.reduceEqDiff, ↓reduceIte, maT, maC, maN, isnN, isnS] <;> rfl) (impl_ascendMut d hd hd' l lv q n w hl hbig) ?_
  rintro v1 w1 ⟨h1, X1⟩
  refine ⟨trivial, ?_⟩
  simp only [↓List.toList_toArray, ↓rgd, ↓reduceIte, Nat.reduceEqDiff, rg, ow_21]
  refine hK _ _ ?_; clear hK K
  refine W_sq fun K hK => (W_text [true, true, true, true, true, false, true] (by kernel_rfl) ?_); simp only [↓List.toList_toArray, ↓rgd, ↓reduceIte, Nat.reduceEqDiff, rg, ow_21, e1, e2, e3, bu_make, bu_piv]
  refine do_call fn_42 (by simp only [evt, evc, upd_eq, Nat.reduceEqDiff, ↓reduceIte, maT, maC, maN, isnN, isnS] <;> rfl) (gascend_nil l lv (q, 0) n w1 (hl.ext0 X1) hbig) ?_
  rintro v2 w2 ⟨h2, X2⟩
  refine ⟨trivial, ?_⟩
  simp only [↓List.toList_toArray, ↓rgd, ↓reduceIte, Nat.reduceEqDiff, rg, ow_21]
  refine hK _ _ ?_; clear hK K
  refine W_sq fun K hK => (W_text [true, true, false, true] (by kernel_rfl) ?_); simp only [↓List.toList_toArray, ↓rgd, ↓reduceIte, Nat.reduceEqDiff, rg, ow_21]
  refine do_call fn_38 (by simp only [evt, evc, upd_eq, Nat.reduceEqDiff, ↓reduceIte, maT, maC, maN, isnN, isnS] <;> rfl) (eq_i _ v1 v2 w2 (h1.ext0 X2) h2 (by omega)) ?_
  rintro _ w3 ⟨rfl, r3⟩
  refine ⟨trivial, ?_⟩
  simp only [↓List.toList_toArray, ↓rgd, ↓reduceIte, Nat.reduceEqDiff, rg, ow_21]
  refine hK _ _ ?_; clear hK K
  exact W_ret (endQ_1 (by simp only [upd_eq, Nat.reduceEqDiff, ↓reduceIte] <;> rfl) ⟨rfl, (X1.tr X2).tr r3.ext⟩)
end Go.Proofs.Ythonmbkjbgkfaaa
