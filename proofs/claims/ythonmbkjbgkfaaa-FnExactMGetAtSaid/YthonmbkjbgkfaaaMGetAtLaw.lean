/-
  The law on GetAt. No condition.
-/
import Derived.Test.YthonmbkjbgkfaaaMMaxLaw
set_option linter.unusedSimpArgs false
set_option linter.unusedVariables false
namespace Go.Proofs.Ythonmbkjbgkfaaa
open Go Go.Proofs
theorem el_fo : elK Try.prog 47 = some (38, 3, 24, [.int .i64 0, .int .i64 0, .bool false]) := by kernel_rfl
theorem ni_fo : noInt Try.prog 47 = true := by kernel_rfl
theorem bs_fo1 (x : It × Bool) : bsV Try.prog 47 1 [(0, foV x)] = some (38, Ef.cel x) := by kernel_rfl
/-- A list that is made of replies, in new memory. -/
structure Outs (B : Nat) (v : Value) (l : List (It × Bool)) (w : World) : Prop where
  sl : SlV w 3 v l.length (flat Ef l)
  si : since B v
theorem Outs.ext {B : Nat} {v : Value} {l : List (It × Bool)} {w w' : World} (h : Outs B v l w) (x : Ext noF w w') : Outs B v l w' := ⟨h.sl.ext0 x, h.si⟩
theorem Outs.nil (B : Nat) (w : World) : Outs B (.slice none 0 0) [] w := ⟨⟨rfl, .inl ⟨rfl, rfl⟩⟩, fun b o n c h => by cases h⟩
theorem Outs.app {B : Nat} {v v' : Value} {l : List (It × Bool)} {x : It × Bool} {w w' : World} (h : Outs B v l w) (a : AppRes w 3 v l.length 1 (flat Ef l) (Ef.cel x) v' w') (hB : B ≤ w.heap.size) : Outs B v' (l ++ [x]) w' ∧ Ext (fun y _ => B ≤ y) w w' := by
  obtain ⟨h1, h2, h3⟩ := app_since a h.si hB
  refine ⟨⟨?_, h2⟩, h3⟩
  rw [List.length_append, List.length_singleton, flat_append, flat_one]
  exact h1
theorem take_snoc {α : Type} {l : List α} {i : Nat} {x : α} (h : l[i]? = some x) : l.take (i + 1) = l.take i ++ [x] := by rw [List.take_add_one, h]; rfl
set_option maxHeartbeats 400000 in
set_option maxRecDepth 8000 in
theorem getAt2_any (m d : Nat) (hd : 2 ≤ d) (hd' : d ≤ 128) (iso : Int) (xs : List It) (F : Nat → Nat → Prop) (ix : Int) (w : World) (hM : MapAt w m d iso xs F) (hbig : xs.length < 4611686018427387904) :
    CallK Try.prog 53 #[ptr m, .int .i64 ix] w fun v w' => v = gotV (nth xs ix) ∧ Ext noF w w' := by
  refine calls_of_W [.tmp 4, .tmp 5, .tmp 6] Try.func53 rfl Try.ntmps53 Try.results53 (by simp) fun e he => ?_
  have e0 : e 0 = ptr m := he 0 _ rfl
  have e1 : e 1 = .int .i64 ix := he 1 _ rfl
  clear he
  refine W_sq fun K hK => (W_text [true, true, true] (by kernel_rfl) ?_); simp only [↓List.toList_toArray, ↓rgd, ↓reduceIte, Nat.reduceEqDiff, rg, ow_53]
  refine hK _ _ ?_; clear hK K
  refine W_sq fun K hK => (W_text [true, true, false, true, true, true, true, true, true] (by kernel_rfl) ?_); simp only [↓List.toList_toArray, ↓rgd, ↓reduceIte, Nat.reduceEqDiff, rg, ow_53, e0, e1]
  refine do_call fn_70 (by simp only [evt, evc, upd_eq, Nat.reduceEqDiff, ↓reduceIte, maT, maC, maN, isnN, isnS] <;> rfl) (getAt_any m d hd hd' iso xs F false ix w hM hbig) ?_
  rintro _ w1 ⟨rfl, X1⟩
  refine ⟨trivial, ?_⟩
  simp only [↓List.toList_toArray, ↓rgd, ↓reduceIte, Nat.reduceEqDiff, rg, ow_53, gotV_eq]
  refine hK _ _ ?_; clear hK K
  exact W_ret (endQ_3 (by simp only [upd_eq, Nat.reduceEqDiff, ↓reduceIte] <;> rfl) (by simp only [upd_eq, Nat.reduceEqDiff, ↓reduceIte] <;> rfl) (by simp only [upd_eq, Nat.reduceEqDiff, ↓reduceIte] <;> rfl) ⟨rfl, X1⟩)
/-- What is found at each index. -/
def founds (xs : List It) (is : List Int) : List (It × Bool) := is.map fun i => foO (nth xs i)
set_option maxHeartbeats 1000000 in
set_option maxRecDepth 8000 in
theorem impl_getAt (d : Nat) (hd : 2 ≤ d) (hd' : d ≤ 128) (l : List It) (lv : Value) (is : List Int) (iv : Value) (w : World) (hl : SlI w lv l) (hi : SlV w 1 iv is.length (flat En is)) (hbig : l.length ≤ 2147483647) (hib : is.length ≤ 2147483647) :
    CallK Try.prog 33 #[.int .i64 d, lv, iv] w fun v w' => SlV w' 3 v is.length (flat Ef (founds (tree l) is)) ∧ Ext noF w w' := by
  obtain ⟨a, c, hiv⟩ := hi.shape
  refine calls_of_W [.tmp 6] Try.func33 rfl Try.ntmps33 Try.results33 (by simp) fun e he => ?_
  have e0 : e 0 = .int .i64 d := he 0 _ rfl
  have e1 : e 1 = lv := he 1 _ rfl
  have e2 : e 2 = .slice a is.length c := by rw [← hiv]; exact he 2 _ rfl
  clear he
  have htl := tree_len l
  refine W_sq fun K hK => (W_text [true] (by kernel_rfl) ?_); simp only [↓List.toList_toArray, ↓rgd, ↓reduceIte, Nat.reduceEqDiff, rg, ow_33]
  refine hK _ _ ?_; clear hK K
  refine W_sq fun K hK => (W_text [true, true, false, true] (by kernel_rfl) ?_); simp only [↓List.toList_toArray, ↓rgd, ↓reduceIte, Nat.reduceEqDiff, rg, ow_33, e0, e1]
  refine do_call fn_46 (by simp only [evt, evc, upd_eq, Nat.reduceEqDiff, ↓reduceIte, maT, maC, maN, isnN, isnS] <;> rfl) (grow_any d hd hd' l lv w hl hbig) ?_
  rintro _ w2 ⟨X2, m, F, rfl, hM, hm, -⟩
  refine ⟨trivial, ?_⟩
  simp only [↓List.toList_toArray, ↓rgd, ↓reduceIte, Nat.reduceEqDiff, rg, ow_33]
  refine hK _ _ ?_; clear hK K
  refine W_sq fun K hK => (W_text [true] (by kernel_rfl) ?_); simp only [↓List.toList_toArray, ↓rgd, ↓reduceIte, Nat.reduceEqDiff, rg, ow_33]
  refine hK _ _ ?_; clear hK K
  refine W_seq (W_seq ?_)
  refine W_rg fun K hK => (W_text [true, true, true] (by kernel_rfl) ?_); simp only [↓List.toList_toArray, ↓rgd, ↓reduceIte, Nat.reduceEqDiff, rg, ow_33, e2]
  refine hK _ _ ?_; clear hK K
  show W _ _ _ _ _ _
  have hi2 := hi.ext0 X2
  have hlt0 := hM.lt
  have hml := hM.mlt
  have s2 := X2.size
  refine W_block (W_loop (fun mm e w' => ∃ k : Nat, mm = is.length - k ∧ k ≤ is.length ∧ e 7 = ptr m ∧ e 14 = .slice a is.length c ∧ e 15 = .int .i64 is.length ∧ e 16 = .int .i64 k ∧ Outs w2.heap.size (e 8) (founds (tree l) (is.take k)) w' ∧ Ext (fun y _ => w2.heap.size ≤ y) w2 w')
    is.length ⟨0, by simp, by simp, ?_, ?_, ?_, ?_, ?_, Ext.refl _ _⟩ ?_)
  · simp only [upd_eq, Nat.reduceEqDiff, ↓reduceIte]
  · simp only [upd_eq, Nat.reduceEqDiff, ↓reduceIte]
  · simp only [upd_eq, Nat.reduceEqDiff, ↓reduceIte]
  · simp only [upd_eq, Nat.reduceEqDiff, ↓reduceIte]; rfl
  · simp only [upd_eq, Nat.reduceEqDiff, ↓reduceIte]; exact Outs.nil _ _
  · clear e0 e1 e2 e
    rintro mm e w' ⟨k, rfl, hk, e7, e14, e15, e16, hO, X⟩
    have sX := X.size
    by_cases hlt : k < is.length
    · have ht := lt_tt k is.length hlt
      refine W_sq fun K hK => (W_text [true] (by kernel_rfl) ?_); simp only [↓List.toList_toArray, ↓rgd, ↓reduceIte, Nat.reduceEqDiff, rg, ow_33, e15, e16, ht]
      refine hK _ _ ?_; clear hK K
      refine W_seq (W_true (by simp only [evt, evc, upd_eq, Nat.reduceEqDiff, ↓reduceIte, ntT, ntF] <;> rfl) (W_skip ?_))
      show W _ _ _ _ _ _
      obtain ⟨x, hx⟩ : ∃ x, is[k]? = some x := ⟨_, List.getElem?_eq_getElem hlt⟩
      obtain ⟨ib, io, rfl, row⟩ := hi2.at hiv hlt
      have hibl := hi2.lt hiv
      have ixx := nV_at (X.row row fun _ _ h => by omega) hx
      refine W_seq (W_block ?_)
      refine W_sq fun K hK => (W_text [true, true, true] (by kernel_rfl) ?_); simp only [↓List.toList_toArray, ↓rgd, ↓reduceIte, Nat.reduceEqDiff, rg, ow_33, e14, e16, hlt, ixx]
      refine hK _ _ ?_; clear hK K
      have hM' := hM.extG X (fun y o h => by have := hlt0 y o h; omega) fun o => by omega
      refine W_rg fun K hK => (W_text [true, true, true, false, true, true, true, false, false, false, true] (by kernel_rfl) ?_); simp only [↓List.toList_toArray, ↓rgd, ↓reduceIte, Nat.reduceEqDiff, rg, ow_33, e7]
      refine do_call fn_53 (by simp only [evt, evc, upd_eq, Nat.reduceEqDiff, ↓reduceIte, maT, maC, maN, isnN, isnS] <;> rfl) (getAt2_any m d hd hd' 0 (tree l) F x w' hM' (by omega)) ?_
      rintro _ w3 ⟨rfl, X3⟩
      refine ⟨trivial, ?_⟩
      simp only [↓List.toList_toArray, ↓rgd, ↓reduceIte, Nat.reduceEqDiff, rg, ow_33, gotV_eq]
      refine do_call fn_49 (by simp only [evt, evc, upd_eq, Nat.reduceEqDiff, ↓reduceIte, maT, maC, maN, isnN, isnS] <;> rfl) (pair_any _ _ _ w3) ?_
      rintro _ w4 ⟨rfl, X4⟩
      refine ⟨trivial, ?_⟩
      simp only [↓List.toList_toArray, ↓rgd, ↓reduceIte, Nat.reduceEqDiff, rg, ow_33]
      refine do_bsl rfl (bs_fo1 _) fun w5 n5 => ⟨trivial, ?_⟩
      simp only [↓List.toList_toArray, ↓rgd, ↓reduceIte, Nat.reduceEqDiff, rg, ow_33]
      have X5 := (X3.tr X4).tr n5.ext
      have s5 := X5.size
      have hfl : (founds (tree l) (is.take k)).length = k := by simp [founds] <;> omega
      have hx5 : SlV w5 3 (.slice (some ⟨w4.heap.size, 0, none⟩) 1 1) 1 (Ef.cel (foP (κ ((nth (tree l) x).getD zIt), ((nth (tree l) x).getD zIt).2) (nth (tree l) x).isSome)) := ⟨rfl, .inr ⟨_, 0, 1, rfl, Nat.le_refl _, n5.row, n5.wok.R (Nat.le_refl _)⟩⟩
      refine do_append (by simp only [evt, evc, upd_eq, Nat.reduceEqDiff, ↓reduceIte, ntT, ntF] <;> rfl) (by simp only [evt, evc, upd_eq, Nat.reduceEqDiff, ↓reduceIte, ntT, ntF] <;> rfl) el_fo rfl ni_fo (hO.ext X5).sl hx5 (by omega) (by decide) (Ef.one _) fun v6 w6 a6 => ?_
      obtain ⟨hO6, X6⟩ := (hO.ext X5).app a6 (by omega)
      refine ⟨trivial, ?_⟩
      simp only [↓List.toList_toArray, ↓rgd, ↓reduceIte, Nat.reduceEqDiff, rg, ow_33]
      refine hK _ _ ?_; clear hK K
      show W _ _ _ _ _ _
      have q1 := wadd1 k (by omega)
      refine W_rg fun K hK => (W_text [true, true] (by kernel_rfl) ?_); simp only [↓List.toList_toArray, ↓rgd, ↓reduceIte, Nat.reduceEqDiff, rg, ow_33, e16, q1]
      refine hK _ _ ?_; clear hK K
      have hf1 : founds (tree l) (is.take (k + 1)) = founds (tree l) (is.take k) ++ [foP (κ ((nth (tree l) x).getD zIt), ((nth (tree l) x).getD zIt).2) (nth (tree l) x).isSome] := by
        rw [take_snoc hx, foP_got]; simp [founds]
      refine ⟨_, ?_, k + 1, rfl, hlt, ?_, ?_, ?_, ?_, ?_, (X.tr (X5.mono fun _ _ _ h => h.elim)).tr X6⟩
      · omega
      · simp only [upd_eq, Nat.reduceEqDiff, ↓reduceIte]; exact e7
      · simp only [upd_eq, Nat.reduceEqDiff, ↓reduceIte]; exact e14
      · simp only [upd_eq, Nat.reduceEqDiff, ↓reduceIte]; exact e15
      · simp only [upd_eq, Nat.reduceEqDiff, ↓reduceIte]
      · simp only [upd_eq, Nat.reduceEqDiff, ↓reduceIte]; rw [hf1]; exact hO6
    · obtain rfl : k = is.length := by omega
      have ht := lt_ff is.length is.length (by omega)
      refine W_sq fun K hK => (W_text [true] (by kernel_rfl) ?_); simp only [↓List.toList_toArray, ↓rgd, ↓reduceIte, Nat.reduceEqDiff, rg, ow_33, e15, e16, ht]
      refine hK _ _ ?_; clear hK K
      refine W_seq (W_false (by simp only [evt, evc, upd_eq, Nat.reduceEqDiff, ↓reduceIte, ntT, ntF] <;> rfl) (W_exit ?_))
      simp only [andThen_exit, inBlk_exit, andThen_normal, ↓reduceIte]
      refine W_sq fun K hK => (W_text [true, true] (by kernel_rfl) ?_); simp only [↓List.toList_toArray, ↓rgd, ↓reduceIte, Nat.reduceEqDiff, rg, ow_33]
      refine hK _ _ ?_; clear hK K
      rw [List.take_length] at hO
      refine W_ret (endQ_1 (by simp only [upd_eq, Nat.reduceEqDiff, ↓reduceIte] <;> rfl) ⟨?_, noF_of X2 X fun y o hy h => by omega⟩)
      have := hO.sl
      rw [show (founds (tree l) is).length = is.length by simp [founds]] at this
      exact this
set_option maxHeartbeats 1000000 in
set_option maxRecDepth 8000 in
theorem ggetAt_nil (l : List It) (lv : Value) (is : List Int) (iv : Value) (w : World) (hl : SlI w lv l) (hi : SlV w 1 iv is.length (flat En is)) (hbig : l.length ≤ 2147483647) (hib : is.length ≤ 2147483647) :
    CallK Try.prog 34 #[mkV, lv, iv] w fun v w' => SlV w' 3 v is.length (flat Ef (founds (tree l) is)) ∧ Ext noF w w' := by
  obtain ⟨a, c, hiv⟩ := hi.shape
  refine calls_of_W [.tmp 6] Try.func34 rfl Try.ntmps34 Try.results34 (by simp) fun e he => ?_
  have e0 : e 0 = mkV := he 0 _ rfl
  have e1 : e 1 = lv := he 1 _ rfl
  have e2 : e 2 = .slice a is.length c := by rw [← hiv]; exact he 2 _ rfl
  clear he
  have htl := tree_len l
  refine W_sq fun K hK => (W_text [false, true] (by kernel_rfl) ?_); simp only [↓List.toList_toArray, ↓rgd, ↓reduceIte, Nat.reduceEqDiff, rg, ow_34]
  refine do_box (by simp only [evt]; exact e0) fun w1 n1 => ⟨trivial, ?_⟩
  simp only [↓List.toList_toArray, ↓rgd, ↓reduceIte, Nat.reduceEqDiff, rg, ow_34]
  refine hK _ _ ?_; clear hK K
  have r1 : rd w1 w.heap.size 0 = some nilS := (Row.cons.1 (show Row w1 w.heap.size 0 [nilS, .int .i64 0, .bool false] from n1.row)).1
  refine W_sq fun K hK => (W_text [true, true, true, false, true] (by kernel_rfl) ?_); simp only [↓List.toList_toArray, ↓rgd, ↓reduceIte, Nat.reduceEqDiff, rg, ow_34, e1, r1]
  refine do_call fn_26 (by simp only [evt, evc, upd_eq, Nat.reduceEqDiff, ↓reduceIte, maT, maC, maN, isnN, isnS] <;> rfl) (stree_nil l lv w1 (hl.ext0 n1.ext) hbig) ?_
  rintro tv w2 ⟨hT, X2⟩
  refine ⟨trivial, ?_⟩
  simp only [↓List.toList_toArray, ↓rgd, ↓reduceIte, Nat.reduceEqDiff, rg, ow_34]
  refine hK _ _ ?_; clear hK K
  have X2 := n1.ext.tr X2
  refine W_sq fun K hK => (W_text [true] (by kernel_rfl) ?_); simp only [↓List.toList_toArray, ↓rgd, ↓reduceIte, Nat.reduceEqDiff, rg, ow_34]
  refine hK _ _ ?_; clear hK K
  refine W_seq (W_seq ?_)
  refine W_rg fun K hK => (W_text [true, true, true] (by kernel_rfl) ?_); simp only [↓List.toList_toArray, ↓rgd, ↓reduceIte, Nat.reduceEqDiff, rg, ow_34, e2]
  refine hK _ _ ?_; clear hK K
  show W _ _ _ _ _ _
  have hi2 := hi.ext0 X2
  have s2 := X2.size
  refine W_block (W_loop (fun mm e w' => ∃ k : Nat, mm = is.length - k ∧ k ≤ is.length ∧ e 7 = tv ∧ e 15 = .slice a is.length c ∧ e 16 = .int .i64 is.length ∧ e 17 = .int .i64 k ∧ Outs w2.heap.size (e 8) (founds (tree l) (is.take k)) w' ∧ Ext (fun y _ => w2.heap.size ≤ y) w2 w')
    is.length ⟨0, by simp, by simp, ?_, ?_, ?_, ?_, ?_, Ext.refl _ _⟩ ?_)
  · simp only [upd_eq, Nat.reduceEqDiff, ↓reduceIte]
  · simp only [upd_eq, Nat.reduceEqDiff, ↓reduceIte]
  · simp only [upd_eq, Nat.reduceEqDiff, ↓reduceIte]
  · simp only [upd_eq, Nat.reduceEqDiff, ↓reduceIte]; rfl
  · simp only [upd_eq, Nat.reduceEqDiff, ↓reduceIte]; exact Outs.nil _ _
  · clear e0 e1 e2 e
    rintro mm e w' ⟨k, rfl, hk, e7, e14, e15, e16, hO, X⟩
    have sX := X.size
    by_cases hlt : k < is.length
    · have ht := lt_tt k is.length hlt
      refine W_sq fun K hK => (W_text [true] (by kernel_rfl) ?_); simp only [↓List.toList_toArray, ↓rgd, ↓reduceIte, Nat.reduceEqDiff, rg, ow_34, e15, e16, ht]
      refine hK _ _ ?_; clear hK K
      refine W_seq (W_true (by simp only [evt, evc, upd_eq, Nat.reduceEqDiff, ↓reduceIte, ntT, ntF] <;> rfl) (W_skip ?_))
      show W _ _ _ _ _ _
      obtain ⟨x, hx⟩ : ∃ x, is[k]? = some x := ⟨_, List.getElem?_eq_getElem hlt⟩
      obtain ⟨ib, io, rfl, row⟩ := hi2.at hiv hlt
      have hibl := hi2.lt hiv
      have ixx := nV_at (X.row row fun _ _ h => by omega) hx
      refine W_seq (W_block ?_)
      refine W_sq fun K hK => (W_text [true, true, true] (by kernel_rfl) ?_); simp only [↓List.toList_toArray, ↓rgd, ↓reduceIte, Nat.reduceEqDiff, rg, ow_34, e14, e16, hlt, ixx]
      refine hK _ _ ?_; clear hK K
      have hT' : SlI w' tv (tree l) := hT.ext X fun b o cap h j hj g => by have := hT.lt h; omega
      refine W_rg fun K hK => (W_text [true, true, true, false, false, false, true] (by kernel_rfl) ?_); simp only [↓List.toList_toArray, ↓rgd, ↓reduceIte, Nat.reduceEqDiff, rg, ow_34, e7]
      refine do_call fn_51 (by simp only [evt, evc, upd_eq, Nat.reduceEqDiff, ↓reduceIte, maT, maC, maN, isnN, isnS] <;> rfl) (sat_any (tree l) tv x w' hT' (by omega)) ?_
      rintro _ w4 ⟨rfl, X4⟩
      refine ⟨trivial, ?_⟩
      simp only [↓List.toList_toArray, ↓rgd, ↓reduceIte, Nat.reduceEqDiff, rg, ow_34]
      refine do_bsl rfl (bs_fo1 _) fun w5 n5 => ⟨trivial, ?_⟩
      simp only [↓List.toList_toArray, ↓rgd, ↓reduceIte, Nat.reduceEqDiff, rg, ow_34]
      have X5 := X4.tr n5.ext
      have s5 := X5.size
      have hfl : (founds (tree l) (is.take k)).length = k := by simp [founds] <;> omega
      have hx5 : SlV w5 3 (.slice (some ⟨w4.heap.size, 0, none⟩) 1 1) 1 (Ef.cel (foO (nth (tree l) x))) := ⟨rfl, .inr ⟨_, 0, 1, rfl, Nat.le_refl _, n5.row, n5.wok.R (Nat.le_refl _)⟩⟩
      refine do_append (by simp only [evt, evc, upd_eq, Nat.reduceEqDiff, ↓reduceIte, ntT, ntF] <;> rfl) (by simp only [evt, evc, upd_eq, Nat.reduceEqDiff, ↓reduceIte, ntT, ntF] <;> rfl) el_fo rfl ni_fo (hO.ext X5).sl hx5 (by omega) (by decide) (Ef.one _) fun v6 w6 a6 => ?_
      obtain ⟨hO6, X6⟩ := (hO.ext X5).app a6 (by omega)
      refine ⟨trivial, ?_⟩
      simp only [↓List.toList_toArray, ↓rgd, ↓reduceIte, Nat.reduceEqDiff, rg, ow_34]
      refine hK _ _ ?_; clear hK K
      show W _ _ _ _ _ _
      have q1 := wadd1 k (by omega)
      refine W_rg fun K hK => (W_text [true, true] (by kernel_rfl) ?_); simp only [↓List.toList_toArray, ↓rgd, ↓reduceIte, Nat.reduceEqDiff, rg, ow_34, e16, q1]
      refine hK _ _ ?_; clear hK K
      have hf1 : founds (tree l) (is.take (k + 1)) = founds (tree l) (is.take k) ++ [foO (nth (tree l) x)] := by rw [take_snoc hx]; simp [founds]
      refine ⟨_, ?_, k + 1, rfl, hlt, ?_, ?_, ?_, ?_, ?_, (X.tr (X5.mono fun _ _ _ h => h.elim)).tr X6⟩
      · omega
      · simp only [upd_eq, Nat.reduceEqDiff, ↓reduceIte]; exact e7
      · simp only [upd_eq, Nat.reduceEqDiff, ↓reduceIte]; exact e14
      · simp only [upd_eq, Nat.reduceEqDiff, ↓reduceIte]; exact e15
      · simp only [upd_eq, Nat.reduceEqDiff, ↓reduceIte]
      · simp only [upd_eq, Nat.reduceEqDiff, ↓reduceIte]; rw [hf1]; exact hO6
    · obtain rfl : k = is.length := by omega
      have ht := lt_ff is.length is.length (by omega)
      refine W_sq fun K hK => (W_text [true] (by kernel_rfl) ?_); simp only [↓List.toList_toArray, ↓rgd, ↓reduceIte, Nat.reduceEqDiff, rg, ow_34, e15, e16, ht]
      refine hK _ _ ?_; clear hK K
      refine W_seq (W_false (by simp only [evt, evc, upd_eq, Nat.reduceEqDiff, ↓reduceIte, ntT, ntF] <;> rfl) (W_exit ?_))
      simp only [andThen_exit, inBlk_exit, andThen_normal, ↓reduceIte]
      refine W_sq fun K hK => (W_text [true, true] (by kernel_rfl) ?_); simp only [↓List.toList_toArray, ↓rgd, ↓reduceIte, Nat.reduceEqDiff, rg, ow_34]
      refine hK _ _ ?_; clear hK K
      rw [List.take_length] at hO
      refine W_ret (endQ_1 (by simp only [upd_eq, Nat.reduceEqDiff, ↓reduceIte] <;> rfl) ⟨?_, noF_of X2 X fun y o hy h => by omega⟩)
      have := hO.sl
      rw [show (founds (tree l) is).length = is.length by simp [founds]] at this
      exact this
def exP : List Int := [0, 2, 5, -1, 100]
theorem bs_exP : bsV Try.prog 26 5 [(0, .int .i64 0), (1, .int .i64 2), (2, .int .i64 5), (3, .int .i64 (-1)), (4, .int .i64 100)] = some (3, flat En exP) := by kernel_rfl
set_option maxHeartbeats 400000 in
set_option maxRecDepth 8000 in
theorem exPlaces_any (w : World) : CallK Try.prog 17 #[] w fun v w' => SlV w' 1 v exP.length (flat En exP) ∧ Ext noF w w' := by
  refine calls_of_W (args := []) [.tmp 0] Try.func17 rfl Try.ntmps17 Try.results17 (by simp) fun e he => ?_
  clear he
  refine W_sq fun K hK => (W_text [true] (by kernel_rfl) ?_); simp only [↓List.toList_toArray, ↓rgd, ↓reduceIte, Nat.reduceEqDiff, rg]
  refine hK _ _ ?_; clear hK K
  refine W_sq fun K hK => (W_text [false, true] (by kernel_rfl) ?_); simp only [↓List.toList_toArray, ↓rgd, ↓reduceIte, Nat.reduceEqDiff, rg]
  refine do_bsl rfl bs_exP fun w1 n1 => ⟨trivial, ?_⟩
  simp only [↓List.toList_toArray, ↓rgd, ↓reduceIte, Nat.reduceEqDiff, rg]
  refine hK _ _ ?_; clear hK K
  exact W_ret (endQ_1 (by simp only [upd_eq, Nat.reduceEqDiff, ↓reduceIte] <;> rfl) ⟨⟨rfl, .inr ⟨_, 0, 5, rfl, Nat.le_refl _, n1.row, n1.wok.R (Nat.le_refl _)⟩⟩, n1.ext⟩)
set_option maxHeartbeats 400000 in
set_option maxRecDepth 8000 in
theorem law_getAt (d : Nat) (hd : 2 ≤ d) (hd' : d ≤ 128) (l : List It) (lv : Value) (is : List Int) (iv : Value) (w : World) (hl : SlI w lv l) (hi : SlV w 1 iv is.length (flat En is)) (hbig : l.length ≤ 2147483647) (hib : is.length ≤ 2147483647) :
    CallK Try.prog 16 #[.int .i64 d, lv, iv] w fun v w' => v = .bool true ∧ Ext noF w w' := by
  refine calls_of_W [.tmp 6] Try.func16 rfl Try.ntmps16 Try.results16 (by simp) fun e he => ?_
  have e0 : e 0 = .int .i64 d := he 0 _ rfl
  have e1 : e 1 = lv := he 1 _ rfl
  have e2 : e 2 = iv := he 2 _ rfl
  clear he
  refine W_sq fun K hK => (W_text [true] (by kernel_rfl) ?_); simp only [↓List.toList_toArray, ↓rgd, ↓reduceIte, Nat.reduceEqDiff, rg, ow_16]
  refine hK _ _ ?_; clear hK K
  refine W_sq fun K hK => (W_text [true, true, true, false, true] (by kernel_rfl) ?_); simp only [↓List.toList_toArray, ↓rgd, ↓reduceIte, Nat.reduceEqDiff, rg, ow_16, e0, e1, e2]
  refine do_call fn_33 (by simp only [evt, evc, upd_eq, Nat.reduceEqDiff, ↓reduceIte, maT, maC, maN, isnN, isnS] <;> rfl) (impl_getAt d hd hd' l lv is iv w hl hi hbig hib) ?_
  rintro v1 w1 ⟨h1, X1⟩
  refine ⟨trivial, ?_⟩
  simp only [↓List.toList_toArray, ↓rgd, ↓reduceIte, Nat.reduceEqDiff, rg, ow_16]
  refine hK _ _ ?_; clear hK K
  refine W_sq fun K hK => (W_text [true, true, true, false, true] (by kernel_rfl) ?_); simp only [↓List.toList_toArray, ↓rgd, ↓reduceIte, Nat.reduceEqDiff, rg, ow_16, e1, e2, bu_make]
  refine do_call fn_34 (by simp only [evt, evc, upd_eq, Nat.reduceEqDiff, ↓reduceIte, maT, maC, maN, isnN, isnS] <;> rfl) (ggetAt_nil l lv is iv w1 (hl.ext0 X1) (hi.ext0 X1) hbig hib) ?_
  rintro v2 w2 ⟨h2, X2⟩
  refine ⟨trivial, ?_⟩
  simp only [↓List.toList_toArray, ↓rgd, ↓reduceIte, Nat.reduceEqDiff, rg, ow_16]
  refine hK _ _ ?_; clear hK K
  have hfl : (founds (tree l) is).length = is.length := by simp [founds]
  rw [← hfl] at h1 h2
  refine W_sq fun K hK => (W_text [true, true, false, true] (by kernel_rfl) ?_); simp only [↓List.toList_toArray, ↓rgd, ↓reduceIte, Nat.reduceEqDiff, rg, ow_16]
  refine do_call fn_35 (by simp only [evt, evc, upd_eq, Nat.reduceEqDiff, ↓reduceIte, maT, maC, maN, isnN, isnS] <;> rfl) (eq_f _ v1 v2 w2 (h1.ext0 X2) h2 (by omega)) ?_
  rintro _ w3 ⟨rfl, r3⟩
  refine ⟨trivial, ?_⟩
  simp only [↓List.toList_toArray, ↓rgd, ↓reduceIte, Nat.reduceEqDiff, rg, ow_16]
  refine hK _ _ ?_; clear hK K
  exact W_ret (endQ_1 (by simp only [upd_eq, Nat.reduceEqDiff, ↓reduceIte] <;> rfl) ⟨rfl, (X1.tr X2).tr r3.ext⟩)
end Go.Proofs.Ythonmbkjbgkfaaa
