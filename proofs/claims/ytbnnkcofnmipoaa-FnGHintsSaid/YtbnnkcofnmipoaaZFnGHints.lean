/-
  FnGHints: the whole statement: it returns true whatever the input is, and the arguments read as before. No condition.
-/
import Derived.Test.YtbnnkcofnmipoaaZf3aa9e78
import Derived.Test.YtbnnkcofnmipoaaZd4659f5a
import Derived.Test.YtbnnkcofnmipoaaZ2844d862
/-
  FnGHints returns true, whatever the arguments. No condition.
-/
set_option linter.unusedSimpArgs false
set_option linter.unusedVariables false
namespace Go.Proofs.Ytbnnkcofnmipoaa
open Go Go.Proofs
set_option maxHeartbeats 1600000 in
set_option maxRecDepth 8000 in
theorem top_FnGHints (ord : List Int) (sv : Value) (d : Int) (nl : Bool) (a0 : List It) (v0 : Value) (a1 : List It) (v1 : Value) (w : World) (gs : SlInt w sv ord) (g0 : SlI w v0 a0) (g1 : SlI w v1 a1) :
    CallK Try.prog 6 #[.agg #[sv, .int .i64 d, .bool nl], v0, v1] w fun v w' => v = .bool true ∧ Ext noF w w' := by
  obtain ⟨p0, c0, hv0⟩ := SlV.shape g0
  obtain ⟨p1, c1, hv1⟩ := SlV.shape g1
  refine calls_of_W [.tmp 6] Try.func6 rfl Try.ntmps6 Try.results6 (by simp) fun e he => ?_
  have e0 : e 0 = .agg #[sv, .int .i64 d, .bool nl] := he 0 _ rfl
  have e1 : e 1 = v0 := he 1 _ rfl
  have e2 : e 2 = v1 := he 2 _ rfl
  clear he
  refine W_sq fun K hK => (W_text [false, true] (by kernel_rfl) ?_); simp only [↓List.toList_toArray, ↓rgd, ↓rgf, ↓reduceIte, Nat.reduceEqDiff, rg, ow_6]
  refine do_box (by simp only [evt]; exact e0) fun w1 n1 => ⟨trivial, ?_⟩
  simp only [↓List.toList_toArray, ↓rgd, ↓rgf, ↓reduceIte, Nat.reduceEqDiff, rg, ow_6]
  refine hK _ _ ?_; clear hK K
  have rm1 : Row w1 w.heap.size 0 [sv, .int .i64 d, .bool nl] := n1.row
  have XB : Ext noF w w1 := n1.ext
  have sB := n1.size
  have rm13 : rdA w1 w.heap.size 0 3 = some (.agg #[sv, .int .i64 d, .bool nl]) := rm1.rdA 3 (Nat.le_refl _)
  refine W_seq ?_
  refine W_sq fun K hK => (W_text [true, false, true, true, true, true, true, true, true, true, true, true, true] (by kernel_rfl) ?_); simp only [↓List.toList_toArray, ↓rgd, ↓rgf, ↓reduceIte, Nat.reduceEqDiff, rg, ow_6, e1, e2, hv0, hv1, rm13]
  refine do_call fn_12 (by simp only [evt, evc, upd_eq, Nat.reduceEqDiff, ↓reduceIte, maT, maC, maN, isnN, isnS] <;> rfl) (fits1_any sv ord (.int .i64 d) nl w1 (SlV.ext0 gs XB)) ?_
  rintro _ wf ⟨rfl, xf⟩
  refine ⟨trivial, ?_⟩
  have XF := XB.tr xf
  by_cases hbo : ord.length ≤ 2147483647
  case neg =>
    have to : decide (ord.length ≤ 2147483647) = false := by simp; omega
    simp only [↓List.toList_toArray, ↓rgd, ↓rgf, ↓reduceIte, Nat.reduceEqDiff, rg, ow_6, e1, e2, hv0, hv1, to]
    refine hK _ _ ?_; clear hK K
    refine W_true (by simp only [evt, evc, upd_eq, Nat.reduceEqDiff, ↓reduceIte, ntT, ntF] <;> rfl) ?_
    refine W_sq fun K hK => (W_text [true] (by kernel_rfl) ?_); simp only [↓List.toList_toArray, ↓rgd, ↓rgf, ↓reduceIte, Nat.reduceEqDiff, rg, ow_6]
    refine hK _ _ ?_; clear hK K
    refine W_ret ?_
    simp only [andThen_ret]
    exact endQ_1 (by simp only [upd_eq, Nat.reduceEqDiff, ↓reduceIte] <;> rfl) ⟨rfl, XF⟩
  have to : decide (ord.length ≤ 2147483647) = true := by simp; omega
  by_cases hb0 : a0.length ≤ 2147483647
  case neg =>
    have t0 : decide ((2147483647 : Int) < (a0.length : Int)) = true := by simp; omega
    simp only [↓List.toList_toArray, ↓rgd, ↓rgf, ↓reduceIte, Nat.reduceEqDiff, rg, ow_6, e1, e2, hv0, hv1, to, t0]
    refine hK _ _ ?_; clear hK K
    refine W_true (by simp only [evt, evc, upd_eq, Nat.reduceEqDiff, ↓reduceIte, ntT, ntF] <;> rfl) ?_
    refine W_sq fun K hK => (W_text [true] (by kernel_rfl) ?_); simp only [↓List.toList_toArray, ↓rgd, ↓rgf, ↓reduceIte, Nat.reduceEqDiff, rg, ow_6]
    refine hK _ _ ?_; clear hK K
    refine W_ret ?_
    simp only [andThen_ret]
    exact endQ_1 (by simp only [upd_eq, Nat.reduceEqDiff, ↓reduceIte] <;> rfl) ⟨rfl, XF⟩
  have t0 : decide ((2147483647 : Int) < (a0.length : Int)) = false := by simp; omega
  by_cases hb1 : a1.length ≤ 2147483647
  case neg =>
    have t1 : decide ((2147483647 : Int) < (a1.length : Int)) = true := by simp; omega
    simp only [↓List.toList_toArray, ↓rgd, ↓rgf, ↓reduceIte, Nat.reduceEqDiff, rg, ow_6, e1, e2, hv0, hv1, to, t0, t1]
    refine hK _ _ ?_; clear hK K
    refine W_true (by simp only [evt, evc, upd_eq, Nat.reduceEqDiff, ↓reduceIte, ntT, ntF] <;> rfl) ?_
    refine W_sq fun K hK => (W_text [true] (by kernel_rfl) ?_); simp only [↓List.toList_toArray, ↓rgd, ↓rgf, ↓reduceIte, Nat.reduceEqDiff, rg, ow_6]
    refine hK _ _ ?_; clear hK K
    refine W_ret ?_
    simp only [andThen_ret]
    exact endQ_1 (by simp only [upd_eq, Nat.reduceEqDiff, ↓reduceIte] <;> rfl) ⟨rfl, XF⟩
  have t1 : decide ((2147483647 : Int) < (a1.length : Int)) = false := by simp; omega
  simp only [↓List.toList_toArray, ↓rgd, ↓rgf, ↓reduceIte, Nat.reduceEqDiff, rg, ow_6, e1, e2, hv0, hv1, to, t0, t1]
  refine hK _ _ ?_; clear hK K
  refine W_false (by simp only [evt, evc, upd_eq, Nat.reduceEqDiff, ↓reduceIte, ntT, ntF] <;> rfl) (W_skip ?_)
  show W _ _ _ _ _ _
  have rmf := xf.row rm1 fun _ _ h => h
  have rmf3 : rdA wf w.heap.size 0 3 = some (.agg #[sv, .int .i64 d, .bool nl]) := rmf.rdA 3 (Nat.le_refl _)
  refine W_seq ?_
  refine W_sq fun K hK => (W_text [true, false, true] (by kernel_rfl) ?_); simp only [↓List.toList_toArray, ↓rgd, ↓rgf, ↓reduceIte, Nat.reduceEqDiff, rg, ow_6, rmf3]
  refine do_call fn_13 (by simp only [evt, evc, upd_eq, Nat.reduceEqDiff, ↓reduceIte, maT, maC, maN, isnN, isnS] <;> rfl) (fitsL_any sv d nl wf (SlV.one gs)) ?_
  rintro _ wc ⟨rfl, xc⟩
  refine ⟨trivial, ?_⟩
  have XC := XF.tr xc
  cases hf : (decide (d = 0) || (decide (2 ≤ d) && decide (d ≤ 128))) with
  | false =>
    simp only [↓List.toList_toArray, ↓rgd, ↓rgf, ↓reduceIte, Nat.reduceEqDiff, rg, ow_6]
    refine hK _ _ ?_; clear hK K
    refine W_true (by simp only [evt, evc, upd_eq, Nat.reduceEqDiff, ↓reduceIte, ntT, ntF] <;> rfl) ?_
    refine W_sq fun K hK => (W_text [false, true] (by kernel_rfl) ?_); simp only [↓List.toList_toArray, ↓rgd, ↓rgf, ↓reduceIte, Nat.reduceEqDiff, rg, ow_6]
    refine do_call fn_14 (by simp only [evt, evc, upd_eq, Nat.reduceEqDiff, ↓reduceIte, maT, maC, maN, isnN, isnS] <;> rfl) (alive_any wc) ?_
    rintro _ u1 ⟨rfl, z1⟩
    refine ⟨trivial, ?_⟩
    simp only [↓List.toList_toArray, ↓rgd, ↓rgf, ↓reduceIte, Nat.reduceEqDiff, rg, ow_6]
    refine hK _ _ ?_; clear hK K
    refine W_ret ?_
    simp only [andThen_ret]
    exact endQ_1 (by simp only [upd_eq, Nat.reduceEqDiff, ↓reduceIte] <;> rfl) ⟨rfl, XC.tr z1⟩
  | true =>
    have h2 : d = 0 ∨ 2 ≤ d ∧ d ≤ 128 := by simp at hf; omega
    obtain ⟨n, rfl⟩ : ∃ n : Nat, d = n := ⟨d.toNat, by omega⟩
    have hd : DOk n := by unfold DOk; omega
    simp only [↓List.toList_toArray, ↓rgd, ↓rgf, ↓reduceIte, Nat.reduceEqDiff, rg, ow_6]
    refine hK _ _ ?_; clear hK K
    refine W_false (by simp only [evt, evc, upd_eq, Nat.reduceEqDiff, ↓reduceIte, ntT, ntF] <;> rfl) (W_skip ?_)
    show W _ _ _ _ _ _
    have rm : Row wc w.heap.size 0 (mkL sv n nl) := xc.row rmf fun _ _ h => h
    have rm3 := mk_at rm
    have sC : w.heap.size < wc.heap.size := by have := xf.size; have := xc.size; omega
    have gv := SlV.ext0 g0 XC
    have gk := SlV.ext0 g1 XC
    refine W_sq fun K hK => (W_text [true, true, false, true, true, true, true, true] (by kernel_rfl) ?_); simp only [↓List.toList_toArray, ↓rgd, ↓rgf, ↓reduceIte, Nat.reduceEqDiff, rg, ow_6, e1, rm3]
    refine do_call fn_26 (by simp only [evt, evc, upd_eq, Nat.reduceEqDiff, ↓reduceIte, maT, maC, maN, isnN, isnS] <;> rfl) (impl_gset n hd ord sv nl a0 v0 wc (SlV.ext0 gs XC) hbo gv hb0) ?_
    rintro _ u1 ⟨fa, xa, rfl, ha, hx, X1⟩
    refine ⟨trivial, ?_⟩
    simp only [↓List.toList_toArray, ↓rgd, ↓rgf, ↓reduceIte, Nat.reduceEqDiff, rg, ow_6]
    refine hK _ _ ?_; clear hK K
    have Y1 := XC.tr X1
    have rm31 := mk_at (X1.row rm fun _ _ h => h)
    refine W_sq fun K hK => (W_text [true, true, false, true, true, true, true, true] (by kernel_rfl) ?_); simp only [↓List.toList_toArray, ↓rgd, ↓rgf, ↓reduceIte, Nat.reduceEqDiff, rg, ow_6, e1, rm31]
    refine do_call fn_27 (by simp only [evt, evc, upd_eq, Nat.reduceEqDiff, ↓reduceIte, maT, maC, maN, isnN, isnS] <;> rfl) (impl_gsetH n hd ord sv nl a0 v0 u1 (SlV.ext0 gs Y1) hbo (SlV.ext0 g0 Y1) hb0) ?_
    rintro _ u2 ⟨fb, xb, rfl, hb, hy, X2⟩
    refine ⟨trivial, ?_⟩
    simp only [↓List.toList_toArray, ↓rgd, ↓rgf, ↓reduceIte, Nat.reduceEqDiff, rg, ow_6]
    refine hK _ _ ?_; clear hK K
    have Y2 := Y1.tr X2
    have rm32 := mk_at ((X1.tr X2).row rm fun _ _ h => h)
    refine W_sq fun K hK => (W_text [true, true, true, false, true, true, true, true, true] (by kernel_rfl) ?_); simp only [↓List.toList_toArray, ↓rgd, ↓rgf, ↓reduceIte, Nat.reduceEqDiff, rg, ow_6, e1, e2, rm32]
    refine do_call fn_15 (by simp only [evt, evc, upd_eq, Nat.reduceEqDiff, ↓reduceIte, maT, maC, maN, isnN, isnS] <;> rfl) (impl_gdelete n hd ord sv nl a0 v0 a1 v1 u2 (SlV.ext0 gs Y2) hbo (SlV.ext0 g0 Y2) hb0 (SlV.ext0 g1 Y2) hb1) ?_
    rintro _ u3 ⟨fc, xc', rfl, hc, hu, X3⟩
    refine ⟨trivial, ?_⟩
    simp only [↓List.toList_toArray, ↓rgd, ↓rgf, ↓reduceIte, Nat.reduceEqDiff, rg, ow_6]
    refine hK _ _ ?_; clear hK K
    have Y3 := Y2.tr X3
    have rm33 := mk_at (((X1.tr X2).tr X3).row rm fun _ _ h => h)
    refine W_sq fun K hK => (W_text [true, true, true, false, true, true, true, true, true] (by kernel_rfl) ?_); simp only [↓List.toList_toArray, ↓rgd, ↓rgf, ↓reduceIte, Nat.reduceEqDiff, rg, ow_6, e1, e2, rm33]
    refine do_call fn_28 (by simp only [evt, evc, upd_eq, Nat.reduceEqDiff, ↓reduceIte, maT, maC, maN, isnN, isnS] <;> rfl) (impl_gdeleteH n hd ord sv nl a0 v0 a1 v1 u3 (SlV.ext0 gs Y3) hbo (SlV.ext0 g0 Y3) hb0 (SlV.ext0 g1 Y3) hb1) ?_
    rintro _ u4 ⟨fd, xd, rfl, hd', hv, X4⟩
    refine ⟨trivial, ?_⟩
    simp only [↓List.toList_toArray, ↓rgd, ↓rgf, ↓reduceIte, Nat.reduceEqDiff, rg, ow_6]
    refine hK _ _ ?_; clear hK K
    have Y4 := Y3.tr X4
    have X14 := ((X1.tr X2).tr X3).tr X4
    have rm4 := X14.row rm fun _ _ h => h
    have rm34 := mk_at rm4
    have s14 := X14.size
    have M1 : readsB (some (some [w.heap.size])) w.heap.size = true := by simp [readsB]
    have keep : ∀ {a b : World}, Ext noF a b → u4.heap.size ≤ a.heap.size → keeps (some (some [w.heap.size])) a b := fun x h => keeps_on x fun y hy => ⟨by
      simp only [List.mem_cons, List.not_mem_nil, or_false] at hy
      omega, fun _ g => g⟩
    have XD : Ext noF u4 (dr u4 (u4.drawn + 1)) := Ext.dr _ _ _
    have htl := treeG_len ord a0
    have hdl := dels_len ord a1 (treeG ord a0)
    refine W_sq fun K hK => (W_free (some (some [w.heap.size])) (.take 0 (.take 1 (.bar 2 (.take 3 (.take 4 (.take 5 (.bar 6 (.take 7 (.take 8 (.take 9 (.take 10 (.take 11 (.take 13 (.take 14 (.take 15 (.act 12 (.bar 16 (.bar 17 (.take 18 (.take 19 (.take 20 (.take 21 (.bar 22 (.take 23 (.take 24 (.take 25 (.take 26 (.bar 27 (.take 28 (.take 29 (.bar 30 (.take 31 (.take 32 .nil))))))))))))))))))))))))))))))))) mixed (by kernel_rfl) ?_); simp only [↓List.toList_toArray, ↓rgd, ↓rgf, ↓reduceIte, Nat.reduceEqDiff, rg, ow_6, e1, e2, rm34, M1]
    refine do_call fn_29 (by simp only [evt, evc, upd_eq, Nat.reduceEqDiff, ↓reduceIte, maT, maC, maN, isnN, isnS] <;> rfl) (eq_f (reps ord a0) fa fb _ (SlV.ext0 ha (((X2.tr X3).tr X4).tr XD)) (SlV.ext0 hb ((X3.tr X4).tr XD)) (by rw [reps_length]; omega)) ?_
    rintro _ u5 ⟨rfl, r5⟩
    have X5 := XD.tr r5.ext
    have s5 := X5.size
    refine ⟨by first | exact trivial | exact .inr (keep r5.ext (by rw [sz_dr]; omega)), ?_⟩
    simp only [↓List.toList_toArray, ↓rgd, ↓rgf, ↓reduceIte, Nat.reduceEqDiff, rg, ow_6, e1, e2, rm34, M1]
    refine do_call fn_30 (by simp only [evt, evc, upd_eq, Nat.reduceEqDiff, ↓reduceIte, maT, maC, maN, isnN, isnS] <;> rfl) (eq_i (treeG ord a0) xa xb _ (SlV.ext0 hx (((X2.tr X3).tr X4).tr X5)) (SlV.ext0 hy ((X3.tr X4).tr X5)) (by omega)) ?_
    rintro _ u6 ⟨rfl, r6⟩
    have X6 := X5.tr r6.ext
    have s6 := X6.size
    refine ⟨by first | exact trivial | exact .inr (keep r6.ext (by omega)), ?_⟩
    have rm36 := mk_at (X6.row rm4 fun _ _ h => h)
    simp only [↓List.toList_toArray, ↓rgd, ↓rgf, ↓reduceIte, Nat.reduceEqDiff, rg, ow_6, e1, e2, rm36, M1]
    have Y6 := Y4.tr X6
    refine do_call fn_31 (by simp only [evt, evc, upd_eq, Nat.reduceEqDiff, ↓reduceIte, maT, maC, maN, isnN, isnS] <;> rfl) (impl_ggetP n hd ord sv nl a0 v0 a1 v1 u6 (SlV.ext0 gs Y6) hbo (SlV.ext0 g0 Y6) hb0 (SlV.ext0 g1 Y6) hb1) ?_
    rintro g7 u7 ⟨h7, X7⟩
    have s7 := X7.size
    refine ⟨by first | exact trivial | exact .inr (keep X7 (by omega)), ?_⟩
    have rm37 := mk_at ((X6.tr X7).row rm4 fun _ _ h => h)
    simp only [↓List.toList_toArray, ↓rgd, ↓rgf, ↓reduceIte, Nat.reduceEqDiff, rg, ow_6, e1, e2, rm36, rm37, M1]
    have Y7 := Y6.tr X7
    refine do_call fn_32 (by simp only [evt, evc, upd_eq, Nat.reduceEqDiff, ↓reduceIte, maT, maC, maN, isnN, isnS] <;> rfl) (impl_ggetH n hd ord sv nl a0 v0 a1 v1 u7 (SlV.ext0 gs Y7) hbo (SlV.ext0 g0 Y7) hb0 (SlV.ext0 g1 Y7) hb1) ?_
    rintro g8 u8 ⟨h8, X8⟩
    have s8 := X8.size
    refine ⟨by first | exact trivial | exact .inr (keep X8 (by omega)), ?_⟩
    simp only [↓List.toList_toArray, ↓rgd, ↓rgf, ↓reduceIte, Nat.reduceEqDiff, rg, ow_6, e1, e2, M1]
    rw [← gets_len ord (treeG ord a0) a1] at h7 h8
    refine do_call fn_29 (by simp only [evt, evc, upd_eq, Nat.reduceEqDiff, ↓reduceIte, maT, maC, maN, isnN, isnS] <;> rfl) (eq_f (gets ord (treeG ord a0) a1) g7 g8 _ (SlV.ext0 h7 X8) h8 (by rw [gets_len]; omega)) ?_
    rintro _ u9 ⟨rfl, r9⟩
    have s9 := (r9.ext (F := noF)).size
    refine ⟨by first | exact trivial | exact .inr (keep r9.ext (by omega)), ?_⟩
    simp only [↓List.toList_toArray, ↓rgd, ↓rgf, ↓reduceIte, Nat.reduceEqDiff, rg, ow_6, e1, e2, M1]
    have X49 := ((X6.tr X7).tr X8).tr (r9.ext (F := noF))
    refine do_call fn_29 (by simp only [evt, evc, upd_eq, Nat.reduceEqDiff, ↓reduceIte, maT, maC, maN, isnN, isnS] <;> rfl) (eq_f (dreps ord (treeG ord a0) a1) fc fd _ (SlV.ext0 hc (X4.tr X49)) (SlV.ext0 hd' X49) (by rw [dreps_length]; omega)) ?_
    rintro _ ua ⟨rfl, ra⟩
    have sa := (ra.ext (F := noF)).size
    refine ⟨by first | exact trivial | exact .inr (keep ra.ext (by omega)), ?_⟩
    simp only [↓List.toList_toArray, ↓rgd, ↓rgf, ↓reduceIte, Nat.reduceEqDiff, rg, ow_6, e1, e2, M1]
    have X4a := X49.tr (ra.ext (F := noF))
    refine do_call fn_30 (by simp only [evt, evc, upd_eq, Nat.reduceEqDiff, ↓reduceIte, maT, maC, maN, isnN, isnS] <;> rfl) (eq_i (dels ord (treeG ord a0) a1) xc' xd _ (SlV.ext0 hu (X4.tr X4a)) (SlV.ext0 hv X4a) (by omega)) ?_
    rintro _ ub ⟨rfl, rb⟩
    have sb := (rb.ext (F := noF)).size
    refine ⟨by first | exact trivial | exact .inr (keep rb.ext (by omega)), ?_⟩
    simp only [↓List.toList_toArray, ↓rgd, ↓rgf, ↓reduceIte, Nat.reduceEqDiff, rg, ow_6, e1, e2, M1]
    have X4b := X4a.tr (rb.ext (F := noF))
    refine do_call fn_14 (by simp only [evt, evc, upd_eq, Nat.reduceEqDiff, ↓reduceIte, maT, maC, maN, isnN, isnS] <;> rfl) (alive_any ub) ?_
    rintro _ uc ⟨rfl, X9⟩
    refine ⟨by first | exact trivial | exact .inr (keep X9 (by omega)), ?_⟩
    simp only [↓List.toList_toArray, ↓rgd, ↓rgf, ↓reduceIte, Nat.reduceEqDiff, rg, ow_6]
    refine hK _ _ ?_; clear hK K
    exact W_ret (endQ_1 (by simp only [upd_eq, Nat.reduceEqDiff, ↓reduceIte] <;> rfl) ⟨rfl, (Y4.tr X4b).tr X9⟩)
end Go.Proofs.Ytbnnkcofnmipoaa
/-
  FnGHints: the whole statement: it returns true whatever the input is, and the arguments read as before. No condition.
-/
set_option linter.unusedSimpArgs false
set_option linter.unusedVariables false
namespace Go.Proofs.Ytbnnkcofnmipoaa
open Go Go.Proofs Go.ChangeShapes Go.WideShapes Go.ChangeAt Go.RowKit
set_option maxRecDepth 100000 in
theorem c_FnGHints (H : Type) (enc : TypeId × Value → H) (W : World) (base : Nat) (args : Array Value) (ds gs : List (DataW H)) (before : List MemPlace)
    (hval : ∀ (j : Nat) t v, Try.f6.params[j]? = some t → args[j]? = some v → Value.okWide Try.prog W .any base t v)
    (hW : DataW.Whole enc Try.prog Try.f6.params.toList Rows.fnGHintsSpec.vars false W args.toList ds gs before) :
    Calls Try.prog 6 args W fun e W' => ∃ v, e = .returned v ∧ Rows.fnGHintsSpec.post enc Try.prog Try.f6 false true false false W args v W' := by
  have hW' := hW
  obtain ⟨p, q, hA0, hV, rfl, hfz, hnd⟩ := hW
  have hA : DataW.TrodAll enc Try.prog W 0 (fun _ => true) true Try.f6.params.toList args.toList ds p := hA0
  rw [Try.params6] at hA hval
  obtain ⟨v0, v1, v2, d0, d1, d2, p0, p1, p2, rfl, rfl, rfl, h0, h1, h2⟩ := trodAll_three hA
  obtain ⟨rfl, rfl⟩ := trodVars_none hV
  obtain ⟨s0, a0, n0, r0, rfl, g0⟩ := open_make (hval 0 24 v0 rfl rfl) h0 fun b o h => hfz b o (by simp [h])
  obtain ⟨a1, g1⟩ := open_items (hval 1 25 v1 rfl rfl) h1 fun b o h => hfz b o (by simp [h])
  obtain ⟨a2, g2⟩ := open_items (hval 2 25 v2 rfl rfl) h2 fun b o h => hfz b o (by simp [h])
  exact calls_law laidOut (by rw [Try.params6]; kernel_rfl) rfl hW' rfl rfl rfl (by kernel_rfl) Try.underlying4 (top_FnGHints r0 s0 a0 n0 a1 v1 a2 v2 W g0 g1 g2)
set_option maxRecDepth 100000 in
theorem l_FnGHints (os : Os) (started : os.Started) (H : Type) (enc : TypeId × Value → H) :
    ReturnsInHanded {} Try.checked os 6 .any (Rows.fnGHintsSpec.pre6 enc Try.prog Try.f6 Rows.fnGHintsRow.domain false) (Rows.fnGHintsSpec.post enc Try.prog Try.f6 false true false false) := by
  refine returnsInHanded_of_change (C := Try.checked) own started (by kernel_rfl) Try.func6
    (ChangeSpec.witness6 (enc := enc) (C := Try.checked) false ⟨#[], #[.agg #[.slice none 0 0, .int .i64 0, .bool false], .slice none 0 0, .slice none 0 0], []⟩ 8 (by kernel_rfl) (by kernel_rfl) (by kernel_rfl) (by kernel_rfl)) ?_
  intro W base args ds gs before hval hW _ _
  exact c_FnGHints H enc W base args ds gs before hval hW
theorem h_FnGHints : Rows.FnGHintsSaid :=
  OpenClaim.holds_of_wide 6 Try.f6 rfl rfl rfl rfl rfl rfl rfl ⟨rfl, rfl, rfl, rfl, rfl⟩ rfl rfl rfl rfl rfl (by kernel_rfl) Try.func6 (by kernel_rfl)
    (of_decide_eq_true (by kernel_rfl)) (by unfold Func.isWrapper; first | (rw [if_pos (by decide +kernel)]; kernel_rfl) | (rw [if_neg (by decide +kernel)]; exact ⟨rfl, rfl⟩))
    (fun os started H enc _ => l_FnGHints os started H enc)
#print axioms h_FnGHints
end Go.Proofs.Ytbnnkcofnmipoaa
