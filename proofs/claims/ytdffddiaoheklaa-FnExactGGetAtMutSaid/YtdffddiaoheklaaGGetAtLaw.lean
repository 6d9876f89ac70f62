/-
  The law on GetAtMut. No condition.
-/
import Derived.Test.YtdffddiaoheklaaGGetAt
import Derived.Test.YtdffddiaoheklaaGItems
import Derived.Test.YtdffddiaoheklaaGMinLaw
set_option linter.unusedSimpArgs false
set_option linter.unusedVariables false
namespace Go.Proofs.Ytdffddiaoheklaa
open Go Go.Proofs
theorem el_fo : elK Try.prog 41 = some (48, 3, 24, [.int .i64 0, .int .i64 0, .bool false]) := by kernel_rfl
theorem ni_fo : noInt Try.prog 41 = true := by kernel_rfl
theorem bs_fo1 (x : It × Bool) : bsV Try.prog 41 1 [(0, foV x)] = some (48, Ef.cel x) := by kernel_rfl
/-- A list that is made of replies, in new memory. -/
structure Outs (B : Nat) (v : Value) (l : List (It × Bool)) (w : World) : Prop where
  sl : SlV w 3 v l.length (flat Ef l)
  si : since B v
theorem Outs.ext {B : Nat} {v : Value} {l : List (It × Bool)} {w w' : World} (h : Outs B v l w) (x : Ext noF w w') : Outs B v l w' := ⟨h.sl.ext0 x, h.si⟩
theorem Outs.nil (B : Nat) (w : World) : Outs B (.slice none 0 0) [] w := ⟨⟨rfl, .inl ⟨rfl, rfl⟩⟩, fun b o n c h => by cases h⟩
theorem Outs.app {B : Nat} {v v' : Value} {l : List (It × Bool)} {x : It × Bool} {w w' : World} (h : Outs B v l w) (a : AppRes w 3 v l.length 1 (flat Ef l) (Ef.cel x) v' w') (hB : B ≤ w.heap.size) : Outs B v' (l ++ [x]) w' ∧ Ext (fun y _ => B ≤ y) w w' := by
  obtain ⟨h1, h2, h3⟩ := app_since a h.si hB
  refine ⟨⟨?_, h2⟩, h3⟩
  rw [List.length_append, List.length_singleton, flat_append, flat_one]
  exact h1
set_option maxHeartbeats 400000 in
set_option maxRecDepth 8000 in
theorem getAt2_any (B m d : Nat) (ord : List Int) (hd : 2 ≤ d) (hd' : d ≤ 128) (iso : Int) (xs : List It) (F : Nat → Nat → Prop) (ix : Int) (w : World) (hM : TreeAt B ord w m d iso xs F) (hbig : xs.length < 4611686018427387904) :
    CallK Try.prog 75 #[ptr m, .int .i64 ix] w fun v w' => v = gotG (nth xs ix) ∧ Ext noF w w' := by
  refine calls_of_W [.cell 4 38, .tmp 5] Try.func75 rfl Try.ntmps75 Try.results75 (by simp) fun e he => ?_
  have e0 : e 0 = ptr m := he 0 _ rfl
  have e1 : e 1 = .int .i64 ix := he 1 _ rfl
  clear he
  refine W_sq fun K hK => (W_text [false, true] (by kernel_rfl) ?_); simp only [↓List.toList_toArray, ↓rgd, ↓reduceIte, Nat.reduceEqDiff, rg, ow_75]
  refine do_alloc z_it fun w1 n1 => ⟨trivial, ?_⟩
  simp only [↓List.toList_toArray, ↓rgd, ↓reduceIte, Nat.reduceEqDiff, rg, ow_75]
  refine hK _ _ ?_; clear hK K
  refine W_sq fun K hK => (W_text [true, true, false, true, true, false, true] (by kernel_rfl) ?_); simp only [↓List.toList_toArray, ↓rgd, ↓reduceIte, Nat.reduceEqDiff, rg, ow_75, e0, e1]
  refine do_call fn_98 (by simp only [evt, evc, upd_eq, Nat.reduceEqDiff, ↓reduceIte, maT, maC, maN, isnN, isnS] <;> rfl) (getAt_any B m d ord hd hd' iso xs F true ix w1 (hM.ext n1.ext) hbig) ?_
  rintro _ w2 ⟨rfl, X2⟩
  refine ⟨trivial, ?_⟩
  simp only [↓List.toList_toArray, ↓rgd, ↓reduceIte, Nat.reduceEqDiff, rg, ow_75, gotG_eq]
  refine do_store (by simp only [evt, evc, upd_eq, Nat.reduceEqDiff, ↓reduceIte, ntT, ntF] <;> rfl) (by simp only [evt, evc, upd_eq, Nat.reduceEqDiff, ↓reduceIte, ntT, ntF] <;> rfl) sz_38 (itV_len _) (X2.wok n1.wok) (by decide) (itV_oc _) fun w3 x3 r3 s3 => ⟨trivial, ?_⟩
  simp only [↓List.toList_toArray, ↓rgd, ↓reduceIte, Nat.reduceEqDiff, rg, ow_75]
  refine hK _ _ ?_; clear hK K
  exact W_ret (endQ_ct (by simp only [upd_eq, Nat.reduceEqDiff, ↓reduceIte] <;> rfl) (by simp only [upd_eq, Nat.reduceEqDiff, ↓reduceIte] <;> rfl) ld_38 (iX_at (show Row w3 w.heap.size 0 (E.cel ((nth xs ix).getD zIt)) from r3)) ⟨rfl, noF_of (n1.ext.tr X2) x3 fun y o hy g => by simp only [rng] at g; omega⟩)
/-- What is found at each index. -/
def founds (xs : List It) (is : List Int) : List (It × Bool) := is.map fun i => foO (nth xs i)
set_option maxHeartbeats 1000000 in
set_option maxRecDepth 8000 in
theorem impl_ggetAt (d : Nat) (hd : DOk d) (ord : List Int) (sv : Value) (nl : Bool) (l : List It) (lv : Value) (is : List Int) (iv : Value) (w : World) (hs : SlInt w sv ord) (hsb : ord.length ≤ 2147483647) (hl : SlI w lv l) (hbig : l.length ≤ 2147483647) (hi : SlV w 1 iv is.length (flat En is)) (hib : is.length ≤ 2147483647) :
    CallK Try.prog 48 #[mkV sv d nl, lv, iv] w fun v w' => SlV w' 3 v is.length (flat Ef (founds (treeG ord l) is)) ∧ Ext noF w w' := by
  obtain ⟨a, c, hiv⟩ := hi.shape
  refine calls_of_W [.tmp 6] Try.func48 rfl Try.ntmps48 Try.results48 (by simp) fun e he => ?_
  have e0 : e 0 = mkV sv d nl := he 0 _ rfl
  have e1 : e 1 = lv := he 1 _ rfl
  have e2 : e 2 = .slice a is.length c := by rw [← hiv]; exact he 2 _ rfl
  clear he
  have htl := treeG_len ord l
  obtain ⟨hd2, hd3⟩ := hd.of
  refine W_sq fun K hK => (W_text [false, true] (by kernel_rfl) ?_); simp only [↓List.toList_toArray, ↓rgd, ↓reduceIte, Nat.reduceEqDiff, rg, ow_48]
  refine do_box (by simp only [evt]; exact e0) fun w1 n1 => ⟨trivial, ?_⟩
  simp only [↓List.toList_toArray, ↓rgd, ↓reduceIte, Nat.reduceEqDiff, rg, ow_48]
  refine hK _ _ ?_; clear hK K
  have rm := mk_at (show Row w1 w.heap.size 0 (mkL sv d nl) from n1.row)
  refine W_sq fun K hK => (W_text [true, true, false, true] (by kernel_rfl) ?_); simp only [↓List.toList_toArray, ↓rgd, ↓reduceIte, Nat.reduceEqDiff, rg, ow_48, e1, rm]
  refine do_call fn_54 (by simp only [evt, evc, upd_eq, Nat.reduceEqDiff, ↓reduceIte, maT, maC, maN, isnN, isnS] <;> rfl) (growG_any d hd ord sv nl l lv w1 (SlV.ext0 hs n1.ext) hsb (SlV.ext0 hl n1.ext) (by omega)) ?_
  rintro _ w2 ⟨X2, B, m, F, rfl, hM, hm, -⟩
  have X2 := n1.ext.tr X2
  refine ⟨trivial, ?_⟩
  simp only [↓List.toList_toArray, ↓rgd, ↓reduceIte, Nat.reduceEqDiff, rg, ow_48]
  refine hK _ _ ?_; clear hK K
  refine W_sq fun K hK => (W_text [true] (by kernel_rfl) ?_); simp only [↓List.toList_toArray, ↓rgd, ↓reduceIte, Nat.reduceEqDiff, rg, ow_48]
  refine hK _ _ ?_; clear hK K
  refine W_seq (W_seq ?_)
  refine W_rg fun K hK => (W_text [true, true, true] (by kernel_rfl) ?_); simp only [↓List.toList_toArray, ↓rgd, ↓reduceIte, Nat.reduceEqDiff, rg, ow_48, e2]
  refine hK _ _ ?_; clear hK K
  show W _ _ _ _ _ _
  have hi2 := hi.ext0 X2
  have hlt0 := hM.lt
  have hml := hM.mlt
  have s2 := X2.size
  refine W_block (W_loop (fun mm e w' => ∃ k : Nat, mm = is.length - k ∧ k ≤ is.length ∧ e 7 = ptr m ∧ e 14 = .slice a is.length c ∧ e 15 = .int .i64 is.length ∧ e 16 = .int .i64 k ∧ Outs w2.heap.size (e 8) (founds (treeG ord l) (is.take k)) w' ∧ Ext (fun y _ => w2.heap.size ≤ y) w2 w')
    is.length ⟨0, by simp, by simp, ?_, ?_, ?_, ?_, ?_, Ext.refl _ _⟩ ?_)
  · simp only [upd_eq, Nat.reduceEqDiff, ↓reduceIte]
  · simp only [upd_eq, Nat.reduceEqDiff, ↓reduceIte]
  · simp only [upd_eq, Nat.reduceEqDiff, ↓reduceIte]
  · simp only [upd_eq, Nat.reduceEqDiff, ↓reduceIte]; rfl
  · simp only [upd_eq, Nat.reduceEqDiff, ↓reduceIte]; exact Outs.nil _ _
  · clear e0 e1 e2 e
    rintro mm e w' ⟨k, rfl, hk, e7, e14, e15, e16, hO, X⟩
    have sX := X.size
    by_cases hlt : k < is.length
    · have ht := lt_tt k is.length hlt
      refine W_sq fun K hK => (W_text [true] (by kernel_rfl) ?_); simp only [↓List.toList_toArray, ↓rgd, ↓reduceIte, Nat.reduceEqDiff, rg, ow_48, e15, e16, ht]
      refine hK _ _ ?_; clear hK K
      refine W_seq (W_true (by simp only [evt, evc, upd_eq, Nat.reduceEqDiff, ↓reduceIte, ntT, ntF] <;> rfl) (W_skip ?_))
      show W _ _ _ _ _ _
      obtain ⟨x, hx⟩ : ∃ x, is[k]? = some x := ⟨_, List.getElem?_eq_getElem hlt⟩
      obtain ⟨ib, io, rfl, row⟩ := hi2.at hiv hlt
      have hibl := hi2.lt hiv
      have ixx := nV_at (X.row row fun _ _ h => by omega) hx
      refine W_seq (W_block ?_)
      refine W_sq fun K hK => (W_text [true, true, true] (by kernel_rfl) ?_); simp only [↓List.toList_toArray, ↓rgd, ↓reduceIte, Nat.reduceEqDiff, rg, ow_48, e14, e16, hlt, ixx]
      refine hK _ _ ?_; clear hK K
      have hM' := hM.extG X (fun y o h => by have := hlt0 y o h; omega) fun y o g => by omega
      refine W_rg fun K hK => (W_text [true, true, true, false, true, true, false, false, false, true] (by kernel_rfl) ?_); simp only [↓List.toList_toArray, ↓rgd, ↓reduceIte, Nat.reduceEqDiff, rg, ow_48, e7]
      refine do_call fn_75 (by simp only [evt, evc, upd_eq, Nat.reduceEqDiff, ↓reduceIte, maT, maC, maN, isnN, isnS] <;> rfl) (getAt2_any B m (degOf d) ord hd2 hd3 1 (treeG ord l) F x w' hM' (by omega)) ?_
      rintro _ w3 ⟨rfl, X3⟩
      refine ⟨trivial, ?_⟩
      simp only [↓List.toList_toArray, ↓rgd, ↓reduceIte, Nat.reduceEqDiff, rg, ow_48, gotG_eq]
      refine do_call fn_59 (by simp only [evt, evc, upd_eq, Nat.reduceEqDiff, ↓reduceIte, maT, maC, maN, isnN, isnS] <;> rfl) (found_any _ _ w3) ?_
      rintro _ w4 ⟨rfl, X4⟩
      refine ⟨trivial, ?_⟩
      simp only [↓List.toList_toArray, ↓rgd, ↓reduceIte, Nat.reduceEqDiff, rg, ow_48]
      refine do_bsl rfl (bs_fo1 _) fun w5 n5 => ⟨trivial, ?_⟩
      simp only [↓List.toList_toArray, ↓rgd, ↓reduceIte, Nat.reduceEqDiff, rg, ow_48]
      have X5 := (X3.tr X4).tr n5.ext
      have s5 := X5.size
      have hfl : (founds (treeG ord l) (is.take k)).length = k := by simp [founds] <;> omega
      have hx5 : SlV w5 3 (.slice (some ⟨w4.heap.size, 0, none⟩) 1 1) 1 (Ef.cel (foP ((nth (treeG ord l) x).getD zIt) (nth (treeG ord l) x).isSome)) := ⟨rfl, .inr ⟨_, 0, 1, rfl, Nat.le_refl _, n5.row, n5.wok.R (Nat.le_refl _)⟩⟩
      refine do_append (by simp only [evt, evc, upd_eq, Nat.reduceEqDiff, ↓reduceIte, ntT, ntF] <;> rfl) (by simp only [evt, evc, upd_eq, Nat.reduceEqDiff, ↓reduceIte, ntT, ntF] <;> rfl) el_fo rfl ni_fo (hO.ext X5).sl hx5 (by omega) (by decide) (Ef.one _) fun v6 w6 a6 => ?_
      obtain ⟨hO6, X6⟩ := (hO.ext X5).app a6 (by omega)
      refine ⟨trivial, ?_⟩
      simp only [↓List.toList_toArray, ↓rgd, ↓reduceIte, Nat.reduceEqDiff, rg, ow_48]
      refine hK _ _ ?_; clear hK K
      show W _ _ _ _ _ _
      have q1 := wadd1 k (by omega)
      refine W_rg fun K hK => (W_text [true, true] (by kernel_rfl) ?_); simp only [↓List.toList_toArray, ↓rgd, ↓reduceIte, Nat.reduceEqDiff, rg, ow_48, e16, q1]
      refine hK _ _ ?_; clear hK K
      have hf1 : founds (treeG ord l) (is.take (k + 1)) = founds (treeG ord l) (is.take k) ++ [foP ((nth (treeG ord l) x).getD zIt) (nth (treeG ord l) x).isSome] := by
        rw [take_snoc hx, foP_gotG]; simp [founds]
      refine ⟨_, ?_, k + 1, rfl, hlt, ?_, ?_, ?_, ?_, ?_, (X.tr (X5.mono fun _ _ _ h => h.elim)).tr X6⟩
      · omega
      · simp only [upd_eq, Nat.reduceEqDiff, ↓reduceIte]; exact e7
      · simp only [upd_eq, Nat.reduceEqDiff, ↓reduceIte]; exact e14
      · simp only [upd_eq, Nat.reduceEqDiff, ↓reduceIte]; exact e15
      · simp only [upd_eq, Nat.reduceEqDiff, ↓reduceIte]
      · simp only [upd_eq, Nat.reduceEqDiff, ↓reduceIte]; rw [hf1]; exact hO6
    · obtain rfl : k = is.length := by omega
      have ht := lt_ff is.length is.length (by omega)
      refine W_sq fun K hK => (W_text [true] (by kernel_rfl) ?_); simp only [↓List.toList_toArray, ↓rgd, ↓reduceIte, Nat.reduceEqDiff, rg, ow_48, e15, e16, ht]
      refine hK _ _ ?_; clear hK K
      refine W_seq (W_false (by simp only [evt, evc, upd_eq, Nat.reduceEqDiff, ↓reduceIte, ntT, ntF] <;> rfl) (W_exit ?_))
      simp only [andThen_exit, inBlk_exit, andThen_normal, ↓reduceIte]
      refine W_sq fun K hK => (W_text [true, true] (by kernel_rfl) ?_); simp only [↓List.toList_toArray, ↓rgd, ↓reduceIte, Nat.reduceEqDiff, rg, ow_48]
      refine hK _ _ ?_; clear hK K
      rw [List.take_length] at hO
      refine W_ret (endQ_1 (by simp only [upd_eq, Nat.reduceEqDiff, ↓reduceIte] <;> rfl) ⟨?_, noF_of X2 X fun y o hy h => by omega⟩)
      have := hO.sl
      rw [show (founds (treeG ord l) is).length = is.length by simp [founds]] at this
      exact this
set_option maxHeartbeats 1000000 in
set_option maxRecDepth 8000 in
theorem sggetAt (d : Nat) (ord : List Int) (sv : Value) (nl : Bool) (l : List It) (lv : Value) (is : List Int) (iv : Value) (w : World) (hs : SlInt w sv ord) (hsb : ord.length ≤ 2147483647) (hl : SlI w lv l) (hbig : l.length ≤ 2147483647) (hi : SlV w 1 iv is.length (flat En is)) (hib : is.length ≤ 2147483647) :
    CallK Try.prog 49 #[mkV sv d nl, lv, iv] w fun v w' => SlV w' 3 v is.length (flat Ef (founds (treeG ord l) is)) ∧ Ext noF w w' := by
  obtain ⟨a, c, hiv⟩ := hi.shape
  refine calls_of_W [.tmp 6] Try.func49 rfl Try.ntmps49 Try.results49 (by simp) fun e he => ?_
  have e0 : e 0 = mkV sv d nl := he 0 _ rfl
  have e1 : e 1 = lv := he 1 _ rfl
  have e2 : e 2 = .slice a is.length c := by rw [← hiv]; exact he 2 _ rfl
  clear he
  have htl := treeG_len ord l
  refine W_sq fun K hK => (W_text [false, true] (by kernel_rfl) ?_); simp only [↓List.toList_toArray, ↓rgd, ↓reduceIte, Nat.reduceEqDiff, rg, ow_49]
  refine do_box (by simp only [evt]; exact e0) fun w1 n1 => ⟨trivial, ?_⟩
  simp only [↓List.toList_toArray, ↓rgd, ↓reduceIte, Nat.reduceEqDiff, rg, ow_49]
  refine hK _ _ ?_; clear hK K
  have r1 := mk_at0 (show Row w1 w.heap.size 0 (mkL sv d nl) from n1.row)
  refine W_sq fun K hK => (W_text [true, true, true, false, true] (by kernel_rfl) ?_); simp only [↓List.toList_toArray, ↓rgd, ↓reduceIte, Nat.reduceEqDiff, rg, ow_49, e1, r1]
  refine do_call fn_47 (by simp only [evt, evc, upd_eq, Nat.reduceEqDiff, ↓reduceIte, maT, maC, maN, isnN, isnS] <;> rfl) (stree_ord sv ord l lv w1 (SlV.ext0 hs n1.ext) hsb (SlV.ext0 hl n1.ext) hbig) ?_
  rintro tv w2 ⟨hT, X2⟩
  refine ⟨trivial, ?_⟩
  simp only [↓List.toList_toArray, ↓rgd, ↓reduceIte, Nat.reduceEqDiff, rg, ow_49]
  refine hK _ _ ?_; clear hK K
  have X2 := n1.ext.tr X2
  refine W_sq fun K hK => (W_text [true] (by kernel_rfl) ?_); simp only [↓List.toList_toArray, ↓rgd, ↓reduceIte, Nat.reduceEqDiff, rg, ow_49]
  refine hK _ _ ?_; clear hK K
  refine W_seq (W_seq ?_)
  refine W_rg fun K hK => (W_text [true, true, true] (by kernel_rfl) ?_); simp only [↓List.toList_toArray, ↓rgd, ↓reduceIte, Nat.reduceEqDiff, rg, ow_49, e2]
  refine hK _ _ ?_; clear hK K
  show W _ _ _ _ _ _
  have hi2 := hi.ext0 X2
  have s2 := X2.size
  refine W_block (W_loop (fun mm e w' => ∃ k : Nat, mm = is.length - k ∧ k ≤ is.length ∧ e 7 = tv ∧ e 15 = .slice a is.length c ∧ e 16 = .int .i64 is.length ∧ e 17 = .int .i64 k ∧ Outs w2.heap.size (e 8) (founds (treeG ord l) (is.take k)) w' ∧ Ext (fun y _ => w2.heap.size ≤ y) w2 w')
    is.length ⟨0, by simp, by simp, ?_, ?_, ?_, ?_, ?_, Ext.refl _ _⟩ ?_)
  · simp only [upd_eq, Nat.reduceEqDiff, ↓reduceIte]
  · simp only [upd_eq, Nat.reduceEqDiff, ↓reduceIte]
  · simp only [upd_eq, Nat.reduceEqDiff, ↓reduceIte]
  · simp only [upd_eq, Nat.reduceEqDiff, ↓reduceIte]; rfl
  · simp only [upd_eq, Nat.reduceEqDiff, ↓reduceIte]; exact Outs.nil _ _
  · clear e0 e1 e2 e
    rintro mm e w' ⟨k, rfl, hk, e7, e14, e15, e16, hO, X⟩
    have sX := X.size
    by_cases hlt : k < is.length
    · have ht := lt_tt k is.length hlt
      refine W_sq fun K hK => (W_text [true] (by kernel_rfl) ?_); simp only [↓List.toList_toArray, ↓rgd, ↓reduceIte, Nat.reduceEqDiff, rg, ow_49, e15, e16, ht]
      refine hK _ _ ?_; clear hK K
      refine W_seq (W_true (by simp only [evt, evc, upd_eq, Nat.reduceEqDiff, ↓reduceIte, ntT, ntF] <;> rfl) (W_skip ?_))
      show W _ _ _ _ _ _
      obtain ⟨x, hx⟩ : ∃ x, is[k]? = some x := ⟨_, List.getElem?_eq_getElem hlt⟩
      obtain ⟨ib, io, rfl, row⟩ := hi2.at hiv hlt
      have hibl := hi2.lt hiv
      have ixx := nV_at (X.row row fun _ _ h => by omega) hx
      refine W_seq (W_block ?_)
      refine W_sq fun K hK => (W_text [true, true, true] (by kernel_rfl) ?_); simp only [↓List.toList_toArray, ↓rgd, ↓reduceIte, Nat.reduceEqDiff, rg, ow_49, e14, e16, hlt, ixx]
      refine hK _ _ ?_; clear hK K
      have hT' : SlI w' tv (treeG ord l) := SlV.ext hT X fun b o cap h j hj g => by have := SlV.lt hT h; omega
      refine W_rg fun K hK => (W_text [true, true, true, false, false, false, true] (by kernel_rfl) ?_); simp only [↓List.toList_toArray, ↓rgd, ↓reduceIte, Nat.reduceEqDiff, rg, ow_49, e7]
      refine do_call fn_73 (by simp only [evt, evc, upd_eq, Nat.reduceEqDiff, ↓reduceIte, maT, maC, maN, isnN, isnS] <;> rfl) (sat_any (treeG ord l) tv x w' hT' (by omega)) ?_
      rintro _ w4 ⟨rfl, X4⟩
      refine ⟨trivial, ?_⟩
      simp only [↓List.toList_toArray, ↓rgd, ↓reduceIte, Nat.reduceEqDiff, rg, ow_49]
      refine do_bsl rfl (bs_fo1 _) fun w5 n5 => ⟨trivial, ?_⟩
      simp only [↓List.toList_toArray, ↓rgd, ↓reduceIte, Nat.reduceEqDiff, rg, ow_49]
      have X5 := X4.tr n5.ext
      have s5 := X5.size
      have hfl : (founds (treeG ord l) (is.take k)).length = k := by simp [founds] <;> omega
      have hx5 : SlV w5 3 (.slice (some ⟨w4.heap.size, 0, none⟩) 1 1) 1 (Ef.cel (foO (nth (treeG ord l) x))) := ⟨rfl, .inr ⟨_, 0, 1, rfl, Nat.le_refl _, n5.row, n5.wok.R (Nat.le_refl _)⟩⟩
      refine do_append (by simp only [evt, evc, upd_eq, Nat.reduceEqDiff, ↓reduceIte, ntT, ntF] <;> rfl) (by simp only [evt, evc, upd_eq, Nat.reduceEqDiff, ↓reduceIte, ntT, ntF] <;> rfl) el_fo rfl ni_fo (hO.ext X5).sl hx5 (by omega) (by decide) (Ef.one _) fun v6 w6 a6 => ?_
      obtain ⟨hO6, X6⟩ := (hO.ext X5).app a6 (by omega)
      refine ⟨trivial, ?_⟩
      simp only [↓List.toList_toArray, ↓rgd, ↓reduceIte, Nat.reduceEqDiff, rg, ow_49]
      refine hK _ _ ?_; clear hK K
      show W _ _ _ _ _ _
      have q1 := wadd1 k (by omega)
      refine W_rg fun K hK => (W_text [true, true] (by kernel_rfl) ?_); simp only [↓List.toList_toArray, ↓rgd, ↓reduceIte, Nat.reduceEqDiff, rg, ow_49, e16, q1]
      refine hK _ _ ?_; clear hK K
      have hf1 : founds (treeG ord l) (is.take (k + 1)) = founds (treeG ord l) (is.take k) ++ [foO (nth (treeG ord l) x)] := by rw [take_snoc hx]; simp [founds]
      refine ⟨_, ?_, k + 1, rfl, hlt, ?_, ?_, ?_, ?_, ?_, (X.tr (X5.mono fun _ _ _ h => h.elim)).tr X6⟩
      · omega
      · simp only [upd_eq, Nat.reduceEqDiff, ↓reduceIte]; exact e7
      · simp only [upd_eq, Nat.reduceEqDiff, ↓reduceIte]; exact e14
      · simp only [upd_eq, Nat.reduceEqDiff, ↓reduceIte]; exact e15
      · simp only [upd_eq, Nat.reduceEqDiff, ↓reduceIte]
      · simp only [upd_eq, Nat.reduceEqDiff, ↓reduceIte]; rw [hf1]; exact hO6
    · obtain rfl : k = is.length := by omega
      have ht := lt_ff is.length is.length (by omega)
      refine W_sq fun K hK => (W_text [true] (by kernel_rfl) ?_); simp only [↓List.toList_toArray, ↓rgd, ↓reduceIte, Nat.reduceEqDiff, rg, ow_49, e15, e16, ht]
      refine hK _ _ ?_; clear hK K
      refine W_seq (W_false (by simp only [evt, evc, upd_eq, Nat.reduceEqDiff, ↓reduceIte, ntT, ntF] <;> rfl) (W_exit ?_))
      simp only [andThen_exit, inBlk_exit, andThen_normal, ↓reduceIte]
      refine W_sq fun K hK => (W_text [true, true] (by kernel_rfl) ?_); simp only [↓List.toList_toArray, ↓rgd, ↓reduceIte, Nat.reduceEqDiff, rg, ow_49]
      refine hK _ _ ?_; clear hK K
      rw [List.take_length] at hO
      refine W_ret (endQ_1 (by simp only [upd_eq, Nat.reduceEqDiff, ↓reduceIte] <;> rfl) ⟨?_, noF_of X2 X fun y o hy h => by omega⟩)
      have := hO.sl
      rw [show (founds (treeG ord l) is).length = is.length by simp [founds]] at this
      exact this
def exP : List Int := [0, 2, 5, -1, 100]
theorem bs_exP : bsV Try.prog 22 5 [(0, .int .i64 0), (1, .int .i64 2), (2, .int .i64 5), (3, .int .i64 (-1)), (4, .int .i64 100)] = some (3, flat En exP) := by kernel_rfl
set_option maxHeartbeats 400000 in
set_option maxRecDepth 8000 in
theorem exPlaces_any (w : World) : CallK Try.prog 22 #[] w fun v w' => SlV w' 1 v exP.length (flat En exP) ∧ Ext noF w w' := by
  refine calls_of_W (args := []) [.tmp 0] Try.func22 rfl Try.ntmps22 Try.results22 (by simp) fun e he => ?_
  clear he
  refine W_sq fun K hK => (W_text [true] (by kernel_rfl) ?_); simp only [↓List.toList_toArray, ↓rgd, ↓reduceIte, Nat.reduceEqDiff, rg]
  refine hK _ _ ?_; clear hK K
  refine W_sq fun K hK => (W_text [false, true] (by kernel_rfl) ?_); simp only [↓List.toList_toArray, ↓rgd, ↓reduceIte, Nat.reduceEqDiff, rg]
  refine do_bsl rfl bs_exP fun w1 n1 => ⟨trivial, ?_⟩
  simp only [↓List.toList_toArray, ↓rgd, ↓reduceIte, Nat.reduceEqDiff, rg]
  refine hK _ _ ?_; clear hK K
  exact W_ret (endQ_1 (by simp only [upd_eq, Nat.reduceEqDiff, ↓reduceIte] <;> rfl) ⟨⟨rfl, .inr ⟨_, 0, 5, rfl, Nat.le_refl _, n1.row, n1.wok.R (Nat.le_refl _)⟩⟩, n1.ext⟩)
set_option maxHeartbeats 400000 in
set_option maxRecDepth 8000 in
theorem law_ggetAt (d : Nat) (hd : DOk d) (ord : List Int) (sv : Value) (nl : Bool) (l : List It) (lv : Value) (is : List Int) (iv : Value) (w : World) (hs : SlInt w sv ord) (hsb : ord.length ≤ 2147483647) (hl : SlI w lv l) (hbig : l.length ≤ 2147483647) (hi : SlV w 1 iv is.length (flat En is)) (hib : is.length ≤ 2147483647) :
    CallK Try.prog 21 #[mkV sv d nl, lv, iv] w fun v w' => v = .bool true ∧ Ext noF w w' := by
  refine calls_of_W [.tmp 6] Try.func21 rfl Try.ntmps21 Try.results21 (by simp) fun e he => ?_
  have e0 : e 0 = mkV sv d nl := he 0 _ rfl
  have e1 : e 1 = lv := he 1 _ rfl
  have e2 : e 2 = iv := he 2 _ rfl
  clear he
  refine W_sq fun K hK => (W_text [false, true] (by kernel_rfl) ?_); simp only [↓List.toList_toArray, ↓rgd, ↓reduceIte, Nat.reduceEqDiff, rg, ow_21]
  refine do_box (by simp only [evt]; exact e0) fun w0 n0 => ⟨trivial, ?_⟩
  simp only [↓List.toList_toArray, ↓rgd, ↓reduceIte, Nat.reduceEqDiff, rg, ow_21]
  refine hK _ _ ?_; clear hK K
  have rm0 : Row w0 w.heap.size 0 (mkL sv d nl) := n0.row
  have rm := mk_at rm0
  refine W_sq fun K hK => (W_text [true, true, true, false, true] (by kernel_rfl) ?_); simp only [↓List.toList_toArray, ↓rgd, ↓reduceIte, Nat.reduceEqDiff, rg, ow_21, e1, e2, rm]
  refine do_call fn_48 (by simp only [evt, evc, upd_eq, Nat.reduceEqDiff, ↓reduceIte, maT, maC, maN, isnN, isnS] <;> rfl) (impl_ggetAt d hd ord sv nl l lv is iv w0 (SlV.ext0 hs n0.ext) hsb (SlV.ext0 hl n0.ext) hbig (hi.ext0 n0.ext) hib) ?_
  rintro v1 w1 ⟨h1, X1⟩
  refine ⟨trivial, ?_⟩
  simp only [↓List.toList_toArray, ↓rgd, ↓reduceIte, Nat.reduceEqDiff, rg, ow_21]
  refine hK _ _ ?_; clear hK K
  have rm1 := mk_at (X1.row rm0 fun _ _ h => h)
  have X01 := n0.ext.tr X1
  refine W_sq fun K hK => (W_text [true, true, true, false, true] (by kernel_rfl) ?_); simp only [↓List.toList_toArray, ↓rgd, ↓reduceIte, Nat.reduceEqDiff, rg, ow_21, e1, e2, rm1]
  refine do_call fn_49 (by simp only [evt, evc, upd_eq, Nat.reduceEqDiff, ↓reduceIte, maT, maC, maN, isnN, isnS] <;> rfl) (sggetAt d ord sv nl l lv is iv w1 (SlV.ext0 hs X01) hsb (SlV.ext0 hl X01) hbig (hi.ext0 X01) hib) ?_
  rintro v2 w2 ⟨h2, X2⟩
  refine ⟨trivial, ?_⟩
  simp only [↓List.toList_toArray, ↓rgd, ↓reduceIte, Nat.reduceEqDiff, rg, ow_21]
  refine hK _ _ ?_; clear hK K
  refine W_sq fun K hK => (W_text [true, true, false, true] (by kernel_rfl) ?_); simp only [↓List.toList_toArray, ↓rgd, ↓reduceIte, Nat.reduceEqDiff, rg, ow_21]
  have hfl : (founds (treeG ord l) is).length = is.length := by simp [founds]
  refine do_call fn_33 (by simp only [evt, evc, upd_eq, Nat.reduceEqDiff, ↓reduceIte, maT, maC, maN, isnN, isnS] <;> rfl) (eq_f (founds (treeG ord l) is) v1 v2 w2 (by rw [hfl]; exact h1.ext0 X2) (by rw [hfl]; exact h2) (by rw [hfl]; omega)) ?_
  rintro _ w3 ⟨rfl, r3⟩
  refine ⟨trivial, ?_⟩
  simp only [↓List.toList_toArray, ↓rgd, ↓reduceIte, Nat.reduceEqDiff, rg, ow_21]
  refine hK _ _ ?_; clear hK K
  exact W_ret (endQ_1 (by simp only [upd_eq, Nat.reduceEqDiff, ↓reduceIte] <;> rfl) ⟨rfl, (X01.tr X2).tr r3.ext⟩)
end Go.Proofs.Ytdffddiaoheklaa
