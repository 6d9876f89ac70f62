/-
  The keys of a map from strings ascend. No condition.
-/
import Derived.Test.YtinpigpeoakeaaaWStrs
import Derived.Test.YtinpigpeoakeaaaWKeysLaw
import Derived.Test.YtinpigpeoakeaaaWLaws
set_option linter.unusedSimpArgs false
set_option linter.unusedVariables false
namespace Go.Proofs.Ytinpigpeoakeaaa
open Go Go.Proofs
theorem tree_ex3 : (tree (exL.take 3)).length = 3 := by
  simp [tree, exL, put, lb, hit, strOrd, κ, ByteArray.toList_eq, Op.bytesLess]
set_option maxHeartbeats 400000 in
set_option maxRecDepth 8000 in
theorem fit_any (d : Int) (w : World) : CallK Try.prog 12 #[.int .i64 d] w fun v w' => ∃ t, v = .bool t ∧ (t = true → 2 ≤ d ∧ d ≤ 128) ∧ w' = w := by
  refine calls_of_W [.tmp 2] Try.func12 rfl Try.ntmps12 Try.results12 (by simp) fun e he => ?_
  have e0 : e 0 = .int .i64 d := he 0 _ rfl
  clear he
  refine W_sq fun K0 hK => (W_text [true] (by kernel_rfl) ?_); simp only [↓List.toList_toArray, ↓rgd, ↓reduceIte, Nat.reduceEqDiff, rg, ow_12]
  refine hK _ _ ?_; clear hK K0
  by_cases h0 : 0 < d
  · have t2 : decide (0 < d) = true := by simp [h0]
    refine W_sq fun K0 hK => (W_text [true, true, true, true, false, true, true] (by kernel_rfl) ?_); simp only [↓List.toList_toArray, ↓rgd, ↓reduceIte, Nat.reduceEqDiff, rg, ow_12, e0, t2]
    refine do_call fn_11 (by simp only [evt, evc, upd_eq, Nat.reduceEqDiff, ↓reduceIte, maT, maC, maN, isnN, isnS] <;> rfl) (fits_any d w) ?_
    rintro _ w ⟨rfl, rfl⟩
    refine ⟨trivial, ?_⟩
    simp only [↓List.toList_toArray, ↓rgd, ↓reduceIte, Nat.reduceEqDiff, rg, ow_12]
    refine hK _ _ ?_; clear hK K0
    refine W_ret (endQ_1 (by simp only [upd_eq, Nat.reduceEqDiff, ↓reduceIte] <;> rfl) ⟨_, rfl, fun hf => ?_, rfl⟩)
    simp at hf; omega
  · have t2 : decide (0 < d) = false := by simp [h0]
    refine W_sq fun K0 hK => (W_text [true, true, true, true, false, true, true] (by kernel_rfl) ?_); simp only [↓List.toList_toArray, ↓rgd, ↓reduceIte, Nat.reduceEqDiff, rg, ow_12, e0, t2]
    refine hK _ _ ?_; clear hK K0
    exact W_ret (endQ_1 (by simp only [upd_eq, Nat.reduceEqDiff, ↓reduceIte] <;> rfl) ⟨false, rfl, (fun h => by cases h), rfl⟩)
set_option maxHeartbeats 400000 in
set_option maxRecDepth 8000 in
theorem aliveW_any (w : World) : CallK Try.prog 13 #[] w fun v w' => v = .bool true ∧ Ext noF w w' := by
  refine calls_of_W (args := []) [.tmp 0] Try.func13 rfl Try.ntmps13 Try.results13 (by simp) fun e he => ?_
  clear he
  refine W_sq fun K0 hK => (W_text [true] (by kernel_rfl) ?_); simp only [↓List.toList_toArray, ↓rgd, ↓reduceIte, Nat.reduceEqDiff, rg, ow_13]
  refine hK _ _ ?_; clear hK K0
  refine W_sq fun K0 hK => (W_text [false, true, false, true, true, true] (by kernel_rfl) ?_); simp only [↓List.toList_toArray, ↓rgd, ↓reduceIte, Nat.reduceEqDiff, rg, ow_13]
  refine do_call fn_10 (by simp only [evt, evc, upd_eq, Nat.reduceEqDiff, ↓reduceIte, maT, maC, maN, isnN, isnS] <;> rfl) (exWords_any w) ?_
  rintro x0 w1 ⟨q0, y1⟩
  refine ⟨trivial, ?_⟩
  obtain ⟨sv, hs, hsv⟩ := sl_hi q0 3 (by decide)
  have hs' : sliceV Try.prog 22 x0 none (some (.int .i64 3)) none = some sv := hs
  simp only [↓List.toList_toArray, ↓rgd, ↓reduceIte, Nat.reduceEqDiff, rg, ow_13, hs']
  refine do_call fn_14 (by simp only [evt, evc, upd_eq, Nat.reduceEqDiff, ↓reduceIte, maT, maC, maN, isnN, isnS] <;> rfl) (impl_wkeys 2 (by decide) (by decide) (exL.take 3) sv w1 hsv (by decide)) ?_
  rintro v2 w2 ⟨h2, X2⟩
  refine ⟨trivial, ?_⟩
  obtain ⟨a, c, hv2⟩ := h2.sl.shape
  rw [List.length_map, tree_ex3] at hv2
  have t0 : (((3 : Nat) : Int) == (3 : Int)) = true := by simp
  simp only [↓List.toList_toArray, ↓rgd, ↓reduceIte, Nat.reduceEqDiff, rg, ow_13, hv2, t0]
  refine hK _ _ ?_; clear hK K0
  exact W_ret (endQ_1 (by simp only [upd_eq, Nat.reduceEqDiff, ↓reduceIte] <;> rfl) ⟨rfl, y1.tr X2⟩)
theorem sz_len (x : ByteArray) : x.data.toList.length = x.size := rfl
set_option maxRecDepth 8000 in
theorem ix_s (s : ByteArray) (i : Nat) (b : UInt8) (h : s.data.toList[i]? = some b) : ixV Try.prog 9 (.string s) (.int .i64 i) = some (.int .u8 b.toNat) := by
  obtain ⟨h1, h2⟩ := List.getElem?_eq_some_iff.1 h
  have hi : i < s.size := by rw [← sz_len]; exact h1
  have hg : s[i]? = some s[i] := getElem?_pos s i hi
  have hb : s[i] = b := by rw [← h2]; rfl
  have hp : (0 : Int) ≤ (i : Int) := by omega
  simp only [ixV, Try.underlying9, hp, if_true, Int.toNat_natCast, hg, hb]
set_option maxHeartbeats 2000000 in
set_option maxRecDepth 8000 in
theorem top_FnWBytes (d : Int) (a0 : List It) (v0 : Value) (w : World) (g0 : SlI w v0 a0) :
    CallK Try.prog 4 #[.int .i64 d, v0] w fun v w' => v = .bool true ∧ Ext noF w w' := by
  obtain ⟨pa, pc, hv0⟩ := g0.shape
  refine calls_of_W [.tmp 4] Try.func4 rfl Try.ntmps4 Try.results4 (by simp) fun e he => ?_
  have e0 : e 0 = .int .i64 d := he 0 _ rfl
  have e1 : e 1 = v0 := he 1 _ rfl
  clear he
  refine W_sq fun K0 hK => (W_text [true] (by kernel_rfl) ?_); simp only [↓List.toList_toArray, ↓rgd, ↓reduceIte, Nat.reduceEqDiff, rg, ow_4]
  refine hK _ _ ?_; clear hK K0
  refine W_seq ?_
  refine W_sq fun K0 hK => (W_text [true, false, true] (by kernel_rfl) ?_); simp only [↓List.toList_toArray, ↓rgd, ↓reduceIte, Nat.reduceEqDiff, rg, ow_4, e1]
  refine do_call fn_8 (by simp only [evt, evc, upd_eq, Nat.reduceEqDiff, ↓reduceIte, maT, maC, maN, isnN, isnS] <;> rfl) (fits2s_any a0 v0 w g0) ?_
  rintro _ w1 ⟨t, rfl, ht, y1⟩
  refine ⟨trivial, ?_⟩
  simp only [↓List.toList_toArray, ↓rgd, ↓reduceIte, Nat.reduceEqDiff, rg, ow_4]
  refine hK _ _ ?_; clear hK K0
  cases t with
  | false =>
    refine W_true (by simp only [evt, evc, upd_eq, Nat.reduceEqDiff, ↓reduceIte, ntT, ntF] <;> rfl) ?_
    refine W_sq fun K0 hK => (W_text [true] (by kernel_rfl) ?_); simp only [↓List.toList_toArray, ↓rgd, ↓reduceIte, Nat.reduceEqDiff, rg, ow_4]
    refine hK _ _ ?_; clear hK K0
    refine W_ret ?_
    simp only [andThen_ret]
    exact endQ_1 (by simp only [upd_eq, Nat.reduceEqDiff, ↓reduceIte] <;> rfl) ⟨rfl, y1⟩
  | true =>
    obtain ⟨hb0, hsz⟩ := ht rfl
    refine W_false (by simp only [evt, evc, upd_eq, Nat.reduceEqDiff, ↓reduceIte, ntT, ntF] <;> rfl) (W_skip ?_)
    show W _ _ _ _ _ _
    refine W_seq ?_
    refine W_sq fun K0 hK => (W_text [true, false, true] (by kernel_rfl) ?_); simp only [↓List.toList_toArray, ↓rgd, ↓reduceIte, Nat.reduceEqDiff, rg, ow_4, e0]
    refine do_call fn_12 (by simp only [evt, evc, upd_eq, Nat.reduceEqDiff, ↓reduceIte, maT, maC, maN, isnN, isnS] <;> rfl) (fit_any d w1) ?_
    rintro _ w1 ⟨t, rfl, hd, rfl⟩
    refine ⟨trivial, ?_⟩
    simp only [↓List.toList_toArray, ↓rgd, ↓reduceIte, Nat.reduceEqDiff, rg, ow_4]
    refine hK _ _ ?_; clear hK K0
    cases t with
    | false =>
      refine W_true (by simp only [evt, evc, upd_eq, Nat.reduceEqDiff, ↓reduceIte, ntT, ntF] <;> rfl) ?_
      refine W_sq fun K0 hK => (W_text [false, true] (by kernel_rfl) ?_); simp only [↓List.toList_toArray, ↓rgd, ↓reduceIte, Nat.reduceEqDiff, rg, ow_4]
      refine do_call fn_13 (by simp only [evt, evc, upd_eq, Nat.reduceEqDiff, ↓reduceIte, maT, maC, maN, isnN, isnS] <;> rfl) (aliveW_any w1) ?_
      rintro _ w2 ⟨rfl, y2⟩
      refine ⟨trivial, ?_⟩
      simp only [↓List.toList_toArray, ↓rgd, ↓reduceIte, Nat.reduceEqDiff, rg, ow_4]
      refine hK _ _ ?_; clear hK K0
      refine W_ret ?_
      simp only [andThen_ret]
      exact endQ_1 (by simp only [upd_eq, Nat.reduceEqDiff, ↓reduceIte] <;> rfl) ⟨rfl, y1.tr y2⟩
    | true =>
      obtain ⟨n, rfl⟩ : ∃ n : Nat, d = n := ⟨d.toNat, by have := hd rfl; omega⟩
      have hd2 := hd rfl
      refine W_false (by simp only [evt, evc, upd_eq, Nat.reduceEqDiff, ↓reduceIte, ntT, ntF] <;> rfl) (W_skip ?_)
      show W _ _ _ _ _ _
      refine W_sq fun K0 hK => (W_text [true, true, false, true] (by kernel_rfl) ?_); simp only [↓List.toList_toArray, ↓rgd, ↓reduceIte, Nat.reduceEqDiff, rg, ow_4, e0, e1]
      refine do_call fn_14 (by simp only [evt, evc, upd_eq, Nat.reduceEqDiff, ↓reduceIte, maT, maC, maN, isnN, isnS] <;> rfl) (impl_wkeys n (by omega) (by omega) a0 v0 w1 (g0.ext0 y1) hb0) ?_
      rintro kv w2 ⟨hO, y2⟩
      refine ⟨trivial, ?_⟩
      simp only [↓List.toList_toArray, ↓rgd, ↓reduceIte, Nat.reduceEqDiff, rg, ow_4]
      refine hK _ _ ?_; clear hK K0
      have hasc := tree_asc a0
      have hmem := mem_tree a0
      have htl := tree_len a0
      have hS := hO.sl
      have hkl : ((tree a0).map κ).length ≤ 2147483647 := by rw [List.length_map]; omega
      have hasc' : ((tree a0).map κ).Pairwise (fun a b => O.lt a b = true) := List.pairwise_map.2 hasc
      have hks : ∀ k ∈ (tree a0).map κ, k.size ≤ 2147483647 := fun k h => by
        obtain ⟨z, h1, rfl⟩ := List.mem_map.1 h
        exact hsz z (tree_sub a0 z h1)
      generalize (tree a0).map κ = ks at *
      obtain ⟨a, c, hkv⟩ := hS.shape
      have Y2 := y1.tr y2
      have g2 := g0.ext0 Y2
      refine W_sqx fun K hK => ?_
      have hend1 : ∀ (e' : Env) (w' : World), RO w2 w' → e' 1 = v0 → e' 5 = kv → K e' w' := by
        intro e w' r e1 e5
        refine hK _ _ ?_; clear hK K
        refine W_sqx fun K hK => ?_
        have hend4 : ∀ (e' : Env) (w' : World), Ext noF w2 w' → K e' w' := by
          intro e' w' X
          refine hK _ _ ?_; clear hK K
          refine W_sq fun K0 hK => (W_text [false, true] (by kernel_rfl) ?_); simp only [↓List.toList_toArray, ↓rgd, ↓reduceIte, Nat.reduceEqDiff, rg, ow_4]
          refine do_call fn_13 (by simp only [evt, evc, upd_eq, Nat.reduceEqDiff, ↓reduceIte, maT, maC, maN, isnN, isnS] <;> rfl) (aliveW_any w') ?_
          rintro _ w3 ⟨rfl, y3⟩
          refine ⟨trivial, ?_⟩
          simp only [↓List.toList_toArray, ↓rgd, ↓reduceIte, Nat.reduceEqDiff, rg, ow_4]
          refine hK _ _ ?_; clear hK K0
          exact W_ret (endQ_1 (by simp only [upd_eq, Nat.reduceEqDiff, ↓reduceIte] <;> rfl) ⟨rfl, (Y2.tr X).tr y3⟩)
        clear hK
        refine W_seq ?_
        rw [hv0] at e1
        refine W_rg fun K0 hK => (W_text [true, true, true] (by kernel_rfl) ?_); simp only [↓List.toList_toArray, ↓rgd, ↓reduceIte, Nat.reduceEqDiff, rg, ow_4, e1]
        refine hK _ _ ?_; clear hK K0
        show W _ _ _ _ _ _
        refine W_block (W_loop (fun mm e w' => ∃ i : Nat, mm = a0.length - i ∧ i ≤ a0.length ∧ Ext noF w2 w' ∧ e 5 = kv ∧ e 77 = .slice pa a0.length pc ∧ e 78 = .int .i64 a0.length ∧ e 79 = .int .i64 i) a0.length ⟨0, rfl, Nat.zero_le _, r.ext, ?_, ?_, ?_, ?_⟩ ?_)
        · simp only [upd_eq, Nat.reduceEqDiff, ↓reduceIte]; exact e5
        · simp only [upd_eq, Nat.reduceEqDiff, ↓reduceIte]
        · simp only [upd_eq, Nat.reduceEqDiff, ↓reduceIte]
        · simp only [upd_eq, Nat.reduceEqDiff, ↓reduceIte]; rfl
        clear e1 e5 e r
        rintro mm e w' ⟨i, rfl, hi, X, e5, e77, e78, e79⟩
        by_cases hlt : i < a0.length
        · have ht := lt_tt i a0.length hlt
          refine W_sq fun K0 hK => (W_text [true] (by kernel_rfl) ?_); simp only [↓List.toList_toArray, ↓rgd, ↓reduceIte, Nat.reduceEqDiff, rg, ow_4, e78, e79, ht]
          refine hK _ _ ?_; clear hK K0
          refine W_seq (W_true (by simp only [evt, evc, upd_eq, Nat.reduceEqDiff, ↓reduceIte, ntT, ntF] <;> rfl) (W_skip ?_))
          show W _ _ _ _ _ _
          obtain ⟨x, hx⟩ : ∃ x, a0[i]? = some x := ⟨_, List.getElem?_eq_getElem hlt⟩
          obtain ⟨b, o, rfl, row⟩ := g2.at hv0 hlt
          have ix := iV_at (X.row row fun _ _ h => h) hx
          refine W_seq (W_block ?_)
          refine W_sq fun K0 hK => (W_text [true, true, false, false] (by kernel_rfl) ?_); simp only [↓List.toList_toArray, ↓rgd, ↓reduceIte, Nat.reduceEqDiff, rg, ow_4, e77, e79, hlt, ix]
          refine do_alloc z_item fun w3 n3 => ⟨trivial, ?_⟩
          simp only [↓List.toList_toArray, ↓rgd, ↓reduceIte, Nat.reduceEqDiff, rg, ow_4]
          refine do_store (v := iV x) (by simp only [evt, evc, upd_eq, Nat.reduceEqDiff, ↓reduceIte, ntT, ntF] <;> rfl) (by simp only [evt, evc, upd_eq, Nat.reduceEqDiff, ↓reduceIte, ntT, ntF] <;> rfl) sz_31 rfl n3.wok (by decide) (Ei.one x) fun w4 x4 r4 s4 => ⟨trivial, ?_⟩
          simp only [↓List.toList_toArray, ↓rgd, ↓reduceIte, Nat.reduceEqDiff, rg, ow_4]
          refine hK _ _ ?_; clear hK K0
          have X4 : Ext noF w' w4 := noF_of n3.ext x4 fun y o hy h => by simp only [rng] at h; omega
          have rx : Row w4 w'.heap.size 0 (Ei.cel x) := r4
          have v0' : rd w4 w'.heap.size 0 = some (.string x.1) := (Row.cons.1 rx).1
          refine W_sq fun K0 hK => (W_text [true, true, true, false, true] (by kernel_rfl) ?_); simp only [↓List.toList_toArray, ↓rgd, ↓reduceIte, Nat.reduceEqDiff, rg, ow_4, e5, v0']
          refine do_call fn_15 (by simp only [evt, evc, upd_eq, Nat.reduceEqDiff, ↓reduceIte, maT, maC, maN, isnN, isnS] <;> rfl) (contains_any ks kv x.1 w4 (hS.ext0 (X.tr X4)) (hmem x (List.mem_of_getElem? hx)) hkl) ?_
          rintro _ w4 ⟨rfl, rfl⟩
          refine ⟨trivial, ?_⟩
          simp only [↓List.toList_toArray, ↓rgd, ↓reduceIte, Nat.reduceEqDiff, rg, ow_4]
          refine hK _ _ ?_; clear hK K0
          refine W_false (by simp only [evt, evc, upd_eq, Nat.reduceEqDiff, ↓reduceIte, ntT, ntF] <;> rfl) (W_skip ?_)
          simp only [inBlk_normal, andThen_normal]
          have q1 := wadd1 i (by omega)
          refine W_rg fun K0 hK => (W_text [true, true] (by kernel_rfl) ?_); simp only [↓List.toList_toArray, ↓rgd, ↓reduceIte, Nat.reduceEqDiff, rg, ow_4, e79, q1]
          refine hK _ _ ?_; clear hK K0
          refine ⟨_, ?_, i + 1, rfl, hlt, X.tr X4, ?_, ?_, ?_, ?_⟩
          · omega
          · simp only [upd_eq, Nat.reduceEqDiff, ↓reduceIte]; exact e5
          · simp only [upd_eq, Nat.reduceEqDiff, ↓reduceIte]; exact e77
          · simp only [upd_eq, Nat.reduceEqDiff, ↓reduceIte]; exact e78
          · simp only [upd_eq, Nat.reduceEqDiff, ↓reduceIte]
        · have ht := lt_ff i a0.length (by omega)
          refine W_sq fun K0 hK => (W_text [true] (by kernel_rfl) ?_); simp only [↓List.toList_toArray, ↓rgd, ↓reduceIte, Nat.reduceEqDiff, rg, ow_4, e78, e79, ht]
          refine hK _ _ ?_; clear hK K0
          refine W_seq (W_false (by simp only [evt, evc, upd_eq, Nat.reduceEqDiff, ↓reduceIte, ntT, ntF] <;> rfl) (W_exit ?_))
          simp only [andThen_exit, inBlk_exit, andThen_normal, Nat.reduceEqDiff, ↓reduceIte]
          exact hend4 _ _ X
      clear hK
      refine W_seq ?_
      refine W_rg fun K0 hK => (W_text [true] (by kernel_rfl) ?_); simp only [↓List.toList_toArray, ↓rgd, ↓reduceIte, Nat.reduceEqDiff, rg, ow_4]
      refine hK _ _ ?_; clear hK K0
      show W _ _ _ _ _ _
      refine W_block (W_loop (fun mm e w' => ∃ i : Nat, mm = ks.length - i ∧ 1 ≤ i ∧ RO w2 w' ∧ e 1 = v0 ∧ e 5 = .slice a ks.length c ∧ e 6 = .int .i64 i) (ks.length - 1) ⟨1, rfl, Nat.le_refl _, RO.refl _, ?_, ?_, ?_⟩ ?_)
      · simp only [upd_eq, Nat.reduceEqDiff, ↓reduceIte]; exact e1
      · simp only [upd_eq, Nat.reduceEqDiff, ↓reduceIte]; exact hkv
      · simp only [upd_eq, Nat.reduceEqDiff, ↓reduceIte]; rfl
      clear e0 e1 e
      rintro mm e w' ⟨i, rfl, hi, r, e1, e5, e6⟩
      refine W_seq ?_
      by_cases hlt : i < ks.length
      case neg =>
        have ht := lt_ff i ks.length (by omega)
        refine W_sq fun K0 hK => (W_text [true, true, true, true] (by kernel_rfl) ?_); simp only [↓List.toList_toArray, ↓rgd, ↓reduceIte, Nat.reduceEqDiff, rg, ow_4, e5, e6, ht]
        refine hK _ _ ?_; clear hK K0
        refine W_false (by simp only [evt, evc, upd_eq, Nat.reduceEqDiff, ↓reduceIte, ntT, ntF] <;> rfl) (W_exit ?_)
        simp only [andThen_exit, inBlk_exit, andThen_normal, Nat.reduceEqDiff, ↓reduceIte]
        refine hend1 _ _ r ?_ ?_
        · simp only [upd_eq, Nat.reduceEqDiff, ↓reduceIte]; exact e1
        · simp only [upd_eq, Nat.reduceEqDiff, ↓reduceIte]; rw [e5, hkv]
      have ht := lt_tt i ks.length hlt
      refine W_sq fun K0 hK => (W_text [true, true, true, true] (by kernel_rfl) ?_); simp only [↓List.toList_toArray, ↓rgd, ↓reduceIte, Nat.reduceEqDiff, rg, ow_4, e5, e6, ht]
      refine hK _ _ ?_; clear hK K0
      refine W_true (by simp only [evt, evc, upd_eq, Nat.reduceEqDiff, ↓reduceIte, ntT, ntF] <;> rfl) (W_skip ?_)
      show W _ _ _ _ _ _
      obtain ⟨y, hy⟩ : ∃ y, ks[i]? = some y := ⟨_, List.getElem?_eq_getElem hlt⟩
      obtain ⟨x, hx⟩ : ∃ x, ks[i - 1]? = some x := ⟨_, List.getElem?_eq_getElem (by omega)⟩
      have hxy : Op.bytesLess x.data.toList y.data.toList = true := by
        have h1 := List.getElem?_eq_some_iff.1 hx
        have h2 := List.getElem?_eq_some_iff.1 hy
        have h3 := List.pairwise_iff_getElem.1 hasc' (i - 1) i h1.1 h2.1 (by omega)
        rw [h1.2, h2.2] at h3
        have h4 : Op.bytesLess x.toList y.toList = true := h3
        rwa [ByteArray.toList_eq, ByteArray.toList_eq] at h4
      obtain ⟨b, o, rfl, row⟩ := hS.at hkv hlt
      have row' := (r.ext (F := noF)).row row fun _ _ h => h
      have ix := sV_at row' hx
      have iy := sV_at row' hy
      have hlt1 : i - 1 < ks.length := by omega
      have q1 := wsub1 i hi (by omega)
      refine W_seq (W_block ?_)
      refine W_sq fun K0 hK => (W_draw (some none) none [(0, 0, 0), (0, 1, 0), (0, 2, 0), (0, 3, 0), (0, 4, 0), (0, 5, 0), (0, 6, 0), (0, 7, 0), (0, 8, 0), (0, 9, 0), (0, 10, 0)] mixed (by kernel_rfl) ?_); simp only [↓List.toList_toArray, ↓rgd, ↓reduceIte, Nat.reduceEqDiff, rg, ow_4, e5, e6, hlt, hlt1, q1, ix, iy]
      refine hK _ _ ?_; clear hK K0
      refine W_sq fun K0 hK => (W_text [true] (by kernel_rfl) ?_); simp only [↓List.toList_toArray, ↓rgd, ↓reduceIte, Nat.reduceEqDiff, rg, ow_4]
      refine hK _ _ ?_; clear hK K0
      refine W_sqx fun K hK => ?_
      have hend2 : ∀ (e' : Env) (w3 : World) (n : Nat), RO w2 w3 → n ≤ x.size → n ≤ y.size → (∀ j, j < n → x.data.toList[j]? = y.data.toList[j]?) → (∀ p q, x.data.toList[n]? = some p → y.data.toList[n]? = some q → p ≠ q) →
          e' 1 = v0 → e' 5 = .slice (some ⟨b, o, none⟩) ks.length c → e' 6 = .int .i64 i → e' 7 = .string x → e' 8 = .string y → e' 9 = .int .i64 n → K e' w3 := by
        intro e w3 n r hn1 hn2 hpre hstop e1 e5 e6 e7 e8 e9
        refine hK _ _ ?_; clear hK K
        have hny := bl_end (by rw [sz_len]; exact hn1) (by rw [sz_len]; exact hn2) hpre hxy
        rw [sz_len] at hny
        have t1 : ((n : Int) == (y.size : Int)) = false := by simp; omega
        obtain ⟨q, hq⟩ : ∃ q, y.data.toList[n]? = some q := ⟨_, List.getElem?_eq_getElem (by rw [sz_len]; exact hny)⟩
        refine W_sqx fun K1 hK1 => ?_
        have hfin : ∀ (e' : Env) (w4 : World), e' 76 = .bool false → e' 1 = v0 → e' 5 = .slice (some ⟨b, o, none⟩) ks.length c → e' 6 = .int .i64 i → RO w2 w4 → K1 e' w4 := by
          intro e w4 e76 e1 e5 e6 r4
          refine hK1 _ _ ?_; clear hK1 K1
          refine W_false (by simp only [evt]; exact e76) (W_skip ?_)
          simp only [inBlk_normal, andThen_normal]
          have q2 := wadd1 i (by omega)
          refine W_rg fun K0 hK => (W_text [true, true, true] (by kernel_rfl) ?_); simp only [↓List.toList_toArray, ↓rgd, ↓reduceIte, Nat.reduceEqDiff, rg, ow_4, e6, q2]
          refine hK _ _ ?_; clear hK K0
          refine ⟨_, ?_, i + 1, rfl, by omega, r4, ?_, ?_, ?_⟩
          · omega
          · simp only [upd_eq, Nat.reduceEqDiff, ↓reduceIte]; exact e1
          · simp only [upd_eq, Nat.reduceEqDiff, ↓reduceIte]; exact e5
          · simp only [upd_eq, Nat.reduceEqDiff, ↓reduceIte]
        clear hK1
        by_cases hlx : n < x.size
        · obtain ⟨p, hp⟩ : ∃ p, x.data.toList[n]? = some p := ⟨_, List.getElem?_eq_getElem (by rw [sz_len]; exact hlx)⟩
          have hlt := bl_stop hpre hxy hp hq (hstop p q hp hq)
          have t2 := lt_tt n x.size hlx
          have t3 : decide ((q.toNat : Int) < (p.toNat : Int)) = false := by
            have : p.toNat < q.toNat := hlt
            simp; omega
          have i1 := ix_s x n p hp
          have i2 := ix_s y n q hq
          refine W_rg fun K0 hK => (W_draw (some none) none [(0, 0, 0), (0, 1, 0), (0, 2, 0), (0, 3, 0), (0, 4, 0), (0, 5, 0), (0, 6, 0), (0, 7, 0), (0, 8, 0), (0, 9, 0), (0, 10, 0), (0, 11, 0), (0, 12, 0), (0, 13, 0), (0, 14, 0), (0, 15, 0), (0, 16, 0), (0, 17, 0), (0, 18, 0)] mixed (by kernel_rfl) ?_); simp only [↓List.toList_toArray, ↓rgd, ↓reduceIte, Nat.reduceEqDiff, rg, ow_4, e7, e8, e9, len_s, t1, t2, t3, tk_ix, i1, i2]
          refine hK _ _ ?_; clear hK K0
          refine hfin _ _ ?_ ?_ ?_ ?_ (r.tr (RO.dr _ _))
          · simp only [upd_eq, Nat.reduceEqDiff, ↓reduceIte]
          · simp only [upd_eq, Nat.reduceEqDiff, ↓reduceIte]; exact e1
          · simp only [upd_eq, Nat.reduceEqDiff, ↓reduceIte]; exact e5
          · simp only [upd_eq, Nat.reduceEqDiff, ↓reduceIte]; exact e6
        · have t2 := lt_ff n x.size (by omega)
          refine W_rg fun K0 hK => (W_draw (some none) none [(0, 0, 0), (0, 1, 0), (0, 2, 0), (0, 3, 0), (0, 4, 0), (0, 5, 0), (0, 6, 0), (0, 7, 0), (0, 8, 0), (0, 9, 0), (0, 10, 0), (0, 11, 0), (0, 12, 0), (0, 13, 0), (0, 14, 0), (0, 15, 0), (0, 16, 0), (0, 17, 0), (0, 18, 0)] mixed (by kernel_rfl) ?_); simp only [↓List.toList_toArray, ↓rgd, ↓reduceIte, Nat.reduceEqDiff, rg, ow_4, e7, e8, e9, len_s, t1, t2, tk_ix]
          refine hK _ _ ?_; clear hK K0
          refine hfin _ _ ?_ ?_ ?_ ?_ (r.tr (RO.dr _ _))
          · simp only [upd_eq, Nat.reduceEqDiff, ↓reduceIte]
          · simp only [upd_eq, Nat.reduceEqDiff, ↓reduceIte]; exact e1
          · simp only [upd_eq, Nat.reduceEqDiff, ↓reduceIte]; exact e5
          · simp only [upd_eq, Nat.reduceEqDiff, ↓reduceIte]; exact e6
      clear hK
      refine W_block (W_loop (fun mm e w3 => ∃ n : Nat, mm = x.size - n ∧ RO w2 w3 ∧ n ≤ x.size ∧ n ≤ y.size ∧ (∀ j, j < n → x.data.toList[j]? = y.data.toList[j]?) ∧
          e 1 = v0 ∧ e 5 = .slice (some ⟨b, o, none⟩) ks.length c ∧ e 6 = .int .i64 i ∧ e 7 = .string x ∧ e 8 = .string y ∧ e 9 = .int .i64 n) x.size ⟨0, rfl, r.tr (RO.dr _ _), Nat.zero_le _, Nat.zero_le _, fun j h => by omega, ?_, ?_, ?_, ?_, ?_, ?_⟩ ?_)
      · simp only [upd_eq, Nat.reduceEqDiff, ↓reduceIte]; exact e1
      · simp only [upd_eq, Nat.reduceEqDiff, ↓reduceIte]; exact e5
      · simp only [upd_eq, Nat.reduceEqDiff, ↓reduceIte]; exact e6
      · simp only [upd_eq, Nat.reduceEqDiff, ↓reduceIte]
      · simp only [upd_eq, Nat.reduceEqDiff, ↓reduceIte]
      · simp only [upd_eq, Nat.reduceEqDiff, ↓reduceIte]; rfl
      clear e1 e5 e6 e r row' ix iy
      rintro mm e w3 ⟨n, rfl, r, hn1, hn2, hpre, e1, e5, e6, e7, e8, e9⟩
      have hout : ∀ (e' : Env) (w4 : World), (∀ p q, x.data.toList[n]? = some p → y.data.toList[n]? = some q → p ≠ q) → RO w2 w4 → (∀ k, k < 37 → e' k = e k) → K e' w4 := fun e' w4 hs r4 hk =>
        hend2 e' w4 n r4 hn1 hn2 hpre hs (by rw [hk 1 (by decide)]; exact e1) (by rw [hk 5 (by decide)]; exact e5) (by rw [hk 6 (by decide)]; exact e6) (by rw [hk 7 (by decide)]; exact e7) (by rw [hk 8 (by decide)]; exact e8) (by rw [hk 9 (by decide)]; exact e9)
      have hin : x.size ≤ x.size := Nat.le_refl _
      refine W_seq ?_
      by_cases hx1 : n < x.size
      case neg =>
        have t1 := lt_ff n x.size (by omega)
        refine W_sq fun K0 hK => (W_draw (some none) none [(0, 0, 0), (0, 1, 0), (0, 2, 0), (0, 3, 0), (0, 4, 0), (0, 5, 0), (0, 6, 0), (0, 7, 0), (0, 8, 0), (0, 9, 0), (0, 10, 0), (0, 11, 0), (0, 12, 0), (0, 13, 0), (0, 14, 0), (0, 15, 0), (0, 16, 0), (0, 17, 0), (0, 18, 0)] mixed (by kernel_rfl) ?_); simp only [↓List.toList_toArray, ↓rgd, ↓reduceIte, Nat.reduceEqDiff, rg, ow_4, e7, e8, e9, len_s, t1, tk_ix]
        refine hK _ _ ?_; clear hK K0
        refine W_false (by simp only [evt, evc, upd_eq, Nat.reduceEqDiff, ↓reduceIte, ntT, ntF] <;> rfl) (W_exit ?_)
        simp only [andThen_exit, inBlk_exit, andThen_normal, Nat.reduceEqDiff, ↓reduceIte]
        refine hout _ _ (fun p q hp _ => ?_) (r.tr (RO.dr _ _)) fun k hk => ?_
        · have := (List.getElem?_eq_some_iff.1 hp).1
          rw [sz_len] at this; omega
        · simp only [upd]
          repeat rw [if_neg (by omega)]
      have t1 := lt_tt n x.size hx1
      by_cases hy1 : n < y.size
      case neg =>
        have t2 := lt_ff n y.size (by omega)
        refine W_sq fun K0 hK => (W_draw (some none) none [(0, 0, 0), (0, 1, 0), (0, 2, 0), (0, 3, 0), (0, 4, 0), (0, 5, 0), (0, 6, 0), (0, 7, 0), (0, 8, 0), (0, 9, 0), (0, 10, 0), (0, 11, 0), (0, 12, 0), (0, 13, 0), (0, 14, 0), (0, 15, 0), (0, 16, 0), (0, 17, 0), (0, 18, 0)] mixed (by kernel_rfl) ?_); simp only [↓List.toList_toArray, ↓rgd, ↓reduceIte, Nat.reduceEqDiff, rg, ow_4, e7, e8, e9, len_s, t1, t2, tk_ix]
        refine hK _ _ ?_; clear hK K0
        refine W_false (by simp only [evt, evc, upd_eq, Nat.reduceEqDiff, ↓reduceIte, ntT, ntF] <;> rfl) (W_exit ?_)
        simp only [andThen_exit, inBlk_exit, andThen_normal, Nat.reduceEqDiff, ↓reduceIte]
        refine hout _ _ (fun p q _ hq => ?_) (r.tr (RO.dr _ _)) fun k hk => ?_
        · have := (List.getElem?_eq_some_iff.1 hq).1
          rw [sz_len] at this; omega
        · simp only [upd]
          repeat rw [if_neg (by omega)]
      have t2 := lt_tt n y.size hy1
      obtain ⟨p, hp⟩ : ∃ p, x.data.toList[n]? = some p := ⟨_, List.getElem?_eq_getElem (by rw [sz_len]; exact hx1)⟩
      obtain ⟨q, hq⟩ : ∃ q, y.data.toList[n]? = some q := ⟨_, List.getElem?_eq_getElem (by rw [sz_len]; exact hy1)⟩
      have i1 := ix_s x n p hp
      have i2 := ix_s y n q hq
      by_cases hpq : p = q
      · have t3 : ((p.toNat : Int) == (q.toNat : Int)) = true := by rw [hpq]; simp
        refine W_sq fun K0 hK => (W_draw (some none) none [(0, 0, 0), (0, 1, 0), (0, 2, 0), (0, 3, 0), (0, 4, 0), (0, 5, 0), (0, 6, 0), (0, 7, 0), (0, 8, 0), (0, 9, 0), (0, 10, 0), (0, 11, 0), (0, 12, 0), (0, 13, 0), (0, 14, 0), (0, 15, 0), (0, 16, 0), (0, 17, 0), (0, 18, 0)] mixed (by kernel_rfl) ?_); simp only [↓List.toList_toArray, ↓rgd, ↓reduceIte, Nat.reduceEqDiff, rg, ow_4, e7, e8, e9, len_s, t1, t2, t3, tk_ix, i1, i2]
        refine hK _ _ ?_; clear hK K0
        refine W_true (by simp only [evt, evc, upd_eq, Nat.reduceEqDiff, ↓reduceIte, ntT, ntF] <;> rfl) (W_skip ?_)
        show W _ _ _ _ _ _
        have q2 := wadd1 n (by have := hks y (List.mem_of_getElem? hy); omega)
        refine W_block ?_
        refine W_rg fun K0 hK => (W_text [true, true, true] (by kernel_rfl) ?_); simp only [↓List.toList_toArray, ↓rgd, ↓reduceIte, Nat.reduceEqDiff, rg, ow_4, e9, q2]
        refine hK _ _ ?_; clear hK K0
        refine ⟨_, ?_, n + 1, rfl, r.tr (RO.dr _ _), by omega, by omega, fun j hj => ?_, ?_, ?_, ?_, ?_, ?_, ?_⟩
        · omega
        · rcases Nat.lt_or_ge j n with g | g
          · exact hpre j g
          · obtain rfl : j = n := by omega
            rw [hp, hq, hpq]
        · simp only [upd_eq, Nat.reduceEqDiff, ↓reduceIte]; exact e1
        · simp only [upd_eq, Nat.reduceEqDiff, ↓reduceIte]; exact e5
        · simp only [upd_eq, Nat.reduceEqDiff, ↓reduceIte]; exact e6
        · simp only [upd_eq, Nat.reduceEqDiff, ↓reduceIte]; exact e7
        · simp only [upd_eq, Nat.reduceEqDiff, ↓reduceIte]; exact e8
        · simp only [upd_eq, Nat.reduceEqDiff, ↓reduceIte]
      · have t3 : ((p.toNat : Int) == (q.toNat : Int)) = false := by
          have : p.toNat ≠ q.toNat := fun h => hpq (UInt8.toNat_inj.1 h)
          simp; omega
        refine W_sq fun K0 hK => (W_draw (some none) none [(0, 0, 0), (0, 1, 0), (0, 2, 0), (0, 3, 0), (0, 4, 0), (0, 5, 0), (0, 6, 0), (0, 7, 0), (0, 8, 0), (0, 9, 0), (0, 10, 0), (0, 11, 0), (0, 12, 0), (0, 13, 0), (0, 14, 0), (0, 15, 0), (0, 16, 0), (0, 17, 0), (0, 18, 0)] mixed (by kernel_rfl) ?_); simp only [↓List.toList_toArray, ↓rgd, ↓reduceIte, Nat.reduceEqDiff, rg, ow_4, e7, e8, e9, len_s, t1, t2, t3, tk_ix, i1, i2]
        refine hK _ _ ?_; clear hK K0
        refine W_false (by simp only [evt, evc, upd_eq, Nat.reduceEqDiff, ↓reduceIte, ntT, ntF] <;> rfl) (W_exit ?_)
        simp only [andThen_exit, inBlk_exit, andThen_normal, Nat.reduceEqDiff, ↓reduceIte]
        refine hout _ _ (fun p' q' hp' hq' => ?_) (r.tr (RO.dr _ _)) fun k hk => ?_
        · rw [hp] at hp'; rw [hq] at hq'; cases hp'; cases hq'; exact hpq
        · simp only [upd]
          repeat rw [if_neg (by omega)]
end Go.Proofs.Ytinpigpeoakeaaa
