/-
  The law on MinMut. No condition.
-/
import Derived.Test.YtdffddiaoheklaaGMin
import Derived.Test.YtdffddiaoheklaaGCut
import Derived.Test.YtdffddiaoheklaaGMake
set_option linter.unusedSimpArgs false
set_option linter.unusedVariables false
namespace Go.Proofs.Ytdffddiaoheklaa
open Go Go.Proofs
theorem nth_first (l : List It) : nth l 0 = l.head? := by
  unfold nth
  rw [if_pos (Int.le_refl _), List.head?_eq_getElem?]
  rfl
theorem foP_gotG (x : Option It) : foP (x.getD zIt) x.isSome = foO x := by cases x <;> rfl
set_option maxHeartbeats 400000 in
set_option maxRecDepth 8000 in
theorem impl_gmin (d : Nat) (hd : DOk d) (ord : List Int) (sv : Value) (nl : Bool) (l : List It) (lv : Value) (w : World) (hs : SlInt w sv ord) (hsb : ord.length ≤ 2147483647) (hl : SlI w lv l) (hbig : l.length ≤ 2147483647) :
    CallK Try.prog 45 #[mkV sv d nl, lv] w fun v w' => v = foV (foO (treeG ord l).head?) ∧ Ext noF w w' := by
  obtain ⟨hd2, hd3⟩ := hd.of
  refine calls_of_W [.cell 4 48] Try.func45 rfl Try.ntmps45 Try.results45 (by simp) fun e he => ?_
  have e0 : e 0 = mkV sv d nl := he 0 _ rfl
  have e1 : e 1 = lv := he 1 _ rfl
  clear he
  refine W_sq fun K hK => (W_text [false, false] (by kernel_rfl) ?_); simp only [↓List.toList_toArray, ↓rgd, ↓reduceIte, Nat.reduceEqDiff, rg, ow_45]
  refine do_box (by simp only [evt]; exact e0) fun w1 n1 => ⟨trivial, ?_⟩
  simp only [↓List.toList_toArray, ↓rgd, ↓reduceIte, Nat.reduceEqDiff, rg, ow_45]
  refine do_alloc z_fo fun w2 n2 => ⟨trivial, ?_⟩
  simp only [↓List.toList_toArray, ↓rgd, ↓reduceIte, Nat.reduceEqDiff, rg, ow_45]
  refine hK _ _ ?_; clear hK K
  have s1 := n1.size
  have s2 := n2.size
  have X2 := n1.ext.tr n2.ext
  have rm := mk_at (n2.ext.row (show Row w1 w.heap.size 0 (mkL sv d nl) from n1.row) fun _ _ h => h)
  refine W_sq fun K hK => (W_text [true, true, false, false, true, true, false, false] (by kernel_rfl) ?_); simp only [↓List.toList_toArray, ↓rgd, ↓reduceIte, Nat.reduceEqDiff, rg, ow_45, e1, rm]
  refine do_call fn_54 (by simp only [evt, evc, upd_eq, Nat.reduceEqDiff, ↓reduceIte, maT, maC, maN, isnN, isnS] <;> rfl) (growG_any d hd ord sv nl l lv w2 (SlV.ext0 hs X2) hsb (SlV.ext0 hl X2) (by omega)) ?_
  rintro _ w3 ⟨X3, B, m, F, rfl, hM, hm, -⟩
  refine ⟨trivial, ?_⟩
  simp only [↓List.toList_toArray, ↓rgd, ↓reduceIte, Nat.reduceEqDiff, rg, ow_45]
  refine do_call fn_72 (by simp only [evt, evc, upd_eq, Nat.reduceEqDiff, ↓reduceIte, maT, maC, maN, isnN, isnS] <;> rfl) (min_any B m (degOf d) ord hd2 hd3 1 (treeG ord l) F w3 hM) ?_
  rintro _ w4 ⟨rfl, X4⟩
  refine ⟨trivial, ?_⟩
  simp only [↓List.toList_toArray, ↓rgd, ↓reduceIte, Nat.reduceEqDiff, rg, ow_45, gotG_eq]
  refine do_call fn_59 (by simp only [evt, evc, upd_eq, Nat.reduceEqDiff, ↓reduceIte, maT, maC, maN, isnN, isnS] <;> rfl) (found_any _ _ w4) ?_
  rintro _ w5 ⟨rfl, X5⟩
  refine ⟨trivial, ?_⟩
  simp only [↓List.toList_toArray, ↓rgd, ↓reduceIte, Nat.reduceEqDiff, rg, ow_45]
  have X := (X3.tr X4).tr X5
  refine do_store (v := foV _) (by simp only [evt, evc, upd_eq, Nat.reduceEqDiff, ↓reduceIte, ntT, ntF] <;> rfl) (by simp only [evt, evc, upd_eq, Nat.reduceEqDiff, ↓reduceIte, ntT, ntF] <;> rfl) sz_48 rfl (X.wok n2.wok) (by decide) (oc_fo _) fun w6 x6 r6 s6 => ⟨trivial, ?_⟩
  simp only [↓List.toList_toArray, ↓rgd, ↓reduceIte, Nat.reduceEqDiff, rg, ow_45]
  refine hK _ _ ?_; clear hK K
  exact W_ret (endQ_c (by simp only [upd_eq, Nat.reduceEqDiff, ↓reduceIte]) ld_48 (ld_fo r6) ⟨by rw [foP_gotG], noF_of (X2.tr X) x6 fun y o hy h => by simp only [rng] at h; omega⟩)
set_option maxHeartbeats 400000 in
set_option maxRecDepth 8000 in
theorem sgmin_any (d : Nat) (ord : List Int) (sv : Value) (nl : Bool) (l : List It) (lv : Value) (w : World) (hs : SlInt w sv ord) (hsb : ord.length ≤ 2147483647) (hl : SlI w lv l) (hbig : l.length ≤ 2147483647) :
    CallK Try.prog 46 #[mkV sv d nl, lv] w fun v w' => v = foV (foO (treeG ord l).head?) ∧ Ext noF w w' := by
  have htl := treeG_len ord l
  refine calls_of_W [.cell 4 48] Try.func46 rfl Try.ntmps46 Try.results46 (by simp) fun e he => ?_
  have e0 : e 0 = mkV sv d nl := he 0 _ rfl
  have e1 : e 1 = lv := he 1 _ rfl
  clear he
  refine W_sq fun K hK => (W_text [false, false] (by kernel_rfl) ?_); simp only [↓List.toList_toArray, ↓rgd, ↓reduceIte, Nat.reduceEqDiff, rg, ow_46]
  refine do_box (by simp only [evt]; exact e0) fun w1 n1 => ⟨trivial, ?_⟩
  simp only [↓List.toList_toArray, ↓rgd, ↓reduceIte, Nat.reduceEqDiff, rg, ow_46]
  refine do_alloc z_fo fun w2 n2 => ⟨trivial, ?_⟩
  simp only [↓List.toList_toArray, ↓rgd, ↓reduceIte, Nat.reduceEqDiff, rg, ow_46]
  refine hK _ _ ?_; clear hK K
  have s1 := n1.size
  have s2 := n2.size
  have X2 := n1.ext.tr n2.ext
  have r1 := mk_at0 (n2.ext.row (show Row w1 w.heap.size 0 (mkL sv d nl) from n1.row) fun _ _ h => h)
  refine W_sq fun K hK => (W_text [true, true, true, false, false, false] (by kernel_rfl) ?_); simp only [↓List.toList_toArray, ↓rgd, ↓reduceIte, Nat.reduceEqDiff, rg, ow_46, e1, r1]
  refine do_call fn_47 (by simp only [evt, evc, upd_eq, Nat.reduceEqDiff, ↓reduceIte, maT, maC, maN, isnN, isnS] <;> rfl) (stree_ord sv ord l lv w2 (SlV.ext0 hs X2) hsb (SlV.ext0 hl X2) hbig) ?_
  rintro v3 w3 ⟨hS3, X3⟩
  refine ⟨trivial, ?_⟩
  simp only [↓List.toList_toArray, ↓rgd, ↓reduceIte, Nat.reduceEqDiff, rg, ow_46]
  refine do_call fn_73 (by simp only [evt, evc, upd_eq, Nat.reduceEqDiff, ↓reduceIte, maT, maC, maN, isnN, isnS] <;> rfl) (sat_any (treeG ord l) _ 0 w3 hS3 (by omega)) ?_
  rintro _ w4 ⟨rfl, X4⟩
  refine ⟨trivial, ?_⟩
  simp only [↓List.toList_toArray, ↓rgd, ↓reduceIte, Nat.reduceEqDiff, rg, ow_46]
  have X := X3.tr X4
  refine do_store (v := foV _) (by simp only [evt, evc, upd_eq, Nat.reduceEqDiff, ↓reduceIte, ntT, ntF] <;> rfl) (by simp only [evt, evc, upd_eq, Nat.reduceEqDiff, ↓reduceIte, ntT, ntF] <;> rfl) sz_48 rfl (X.wok n2.wok) (by decide) (oc_fo _) fun w5 x5 r5 s5 => ⟨trivial, ?_⟩
  simp only [↓List.toList_toArray, ↓rgd, ↓reduceIte, Nat.reduceEqDiff, rg, ow_46]
  refine hK _ _ ?_; clear hK K
  exact W_ret (endQ_c (by simp only [upd_eq, Nat.reduceEqDiff, ↓reduceIte]) ld_48 (ld_fo r5) ⟨by rw [nth_first], noF_of (X2.tr X) x5 fun y o hy h => by simp only [rng] at h; omega⟩)
theorem eq_f0 (a b : Int) (c : Bool) : binV Try.prog .eql 48 (.agg #[.int .i64 a, .int .i64 b, .bool c]) (.agg #[.int .i64 a, .int .i64 b, .bool c]) = some (.bool ((a == a && (b == b && true)) && (c == c && true))) := by kernel_rfl
theorem eq_fo (x : It × Bool) : binV Try.prog .eql 48 (foV x) (foV x) = some (.bool true) := by rw [foV, eq_f0]; simp
set_option maxHeartbeats 400000 in
set_option maxRecDepth 8000 in
theorem law_gmin (d : Nat) (hd : DOk d) (ord : List Int) (sv : Value) (nl : Bool) (l : List It) (lv : Value) (w : World) (hs : SlInt w sv ord) (hsb : ord.length ≤ 2147483647) (hl : SlI w lv l) (hbig : l.length ≤ 2147483647) :
    CallK Try.prog 16 #[mkV sv d nl, lv] w fun v w' => v = .bool true ∧ Ext noF w w' := by
  refine calls_of_W [.tmp 4] Try.func16 rfl Try.ntmps16 Try.results16 (by simp) fun e he => ?_
  have e0 : e 0 = mkV sv d nl := he 0 _ rfl
  have e1 : e 1 = lv := he 1 _ rfl
  clear he
  refine W_sq fun K hK => (W_text [false, true] (by kernel_rfl) ?_); simp only [↓List.toList_toArray, ↓rgd, ↓reduceIte, Nat.reduceEqDiff, rg, ow_16]
  refine do_box (by simp only [evt]; exact e0) fun w0 n0 => ⟨trivial, ?_⟩
  simp only [↓List.toList_toArray, ↓rgd, ↓reduceIte, Nat.reduceEqDiff, rg, ow_16]
  refine hK _ _ ?_; clear hK K
  have s0 := n0.size
  have rm0 : Row w0 w.heap.size 0 (mkL sv d nl) := n0.row
  have rm := mk_at rm0
  refine W_sq fun K hK => (W_text [true, true, false, false, false] (by kernel_rfl) ?_); simp only [↓List.toList_toArray, ↓rgd, ↓reduceIte, Nat.reduceEqDiff, rg, ow_16, e1, rm]
  refine do_call fn_45 (by simp only [evt, evc, upd_eq, Nat.reduceEqDiff, ↓reduceIte, maT, maC, maN, isnN, isnS] <;> rfl) (impl_gmin d hd ord sv nl l lv w0 (SlV.ext0 hs n0.ext) hsb (SlV.ext0 hl n0.ext) hbig) ?_
  rintro _ w1 ⟨rfl, X1⟩
  refine ⟨trivial, ?_⟩
  simp only [↓List.toList_toArray, ↓rgd, ↓reduceIte, Nat.reduceEqDiff, rg, ow_16]
  refine do_alloc z_fo fun w2 n2 => ⟨trivial, ?_⟩
  simp only [↓List.toList_toArray, ↓rgd, ↓reduceIte, Nat.reduceEqDiff, rg, ow_16]
  have s1 := X1.size
  have s2 := n2.size
  refine do_store (v := foV _) (by simp only [evt, evc, upd_eq, Nat.reduceEqDiff, ↓reduceIte, ntT, ntF] <;> rfl) (by simp only [evt, evc, upd_eq, Nat.reduceEqDiff, ↓reduceIte, ntT, ntF] <;> rfl) sz_48 rfl n2.wok (by decide) (oc_fo _) fun w3 x3 r3 s3 => ⟨trivial, ?_⟩
  simp only [↓List.toList_toArray, ↓rgd, ↓reduceIte, Nat.reduceEqDiff, rg, ow_16]
  refine hK _ _ ?_; clear hK K
  have X03 : Ext noF w0 w3 := X1.tr (noF_of n2.ext x3 fun y o hy h => by simp only [rng] at h; omega)
  have X3 : Ext noF w w3 := n0.ext.tr X03
  have rm3 := mk_at (X03.row rm0 fun _ _ h => h)
  refine W_sq fun K hK => (W_text [true, true, false, false, false] (by kernel_rfl) ?_); simp only [↓List.toList_toArray, ↓rgd, ↓reduceIte, Nat.reduceEqDiff, rg, ow_16, e1, rm3]
  refine do_call fn_46 (by simp only [evt, evc, upd_eq, Nat.reduceEqDiff, ↓reduceIte, maT, maC, maN, isnN, isnS] <;> rfl) (sgmin_any d ord sv nl l lv w3 (SlV.ext0 hs X3) hsb (SlV.ext0 hl X3) hbig) ?_
  rintro _ w4 ⟨rfl, X4⟩
  refine ⟨trivial, ?_⟩
  simp only [↓List.toList_toArray, ↓rgd, ↓reduceIte, Nat.reduceEqDiff, rg, ow_16]
  refine do_alloc z_fo fun w5 n5 => ⟨trivial, ?_⟩
  simp only [↓List.toList_toArray, ↓rgd, ↓reduceIte, Nat.reduceEqDiff, rg, ow_16]
  have s4 := X4.size
  have s5 := n5.size
  refine do_store (v := foV _) (by simp only [evt, evc, upd_eq, Nat.reduceEqDiff, ↓reduceIte, ntT, ntF] <;> rfl) (by simp only [evt, evc, upd_eq, Nat.reduceEqDiff, ↓reduceIte, ntT, ntF] <;> rfl) sz_48 rfl n5.wok (by decide) (oc_fo _) fun w6 x6 r6 s6 => ⟨trivial, ?_⟩
  simp only [↓List.toList_toArray, ↓rgd, ↓reduceIte, Nat.reduceEqDiff, rg, ow_16]
  refine hK _ _ ?_; clear hK K
  have l1 : rdA w6 w1.heap.size 0 3 = some (foV (foO (treeG ord l).head?)) := (x6.row (n5.ext.row (X4.row (show Row w3 w1.heap.size 0 (Ef.cel _) from r3) fun _ _ h => h) fun _ _ h => h) fun i hi g => by simp only [rng] at g; omega).rdA 3 (by simp [Ef])
  have l2 : rdA w6 w4.heap.size 0 3 = some (foV (foO (treeG ord l).head?)) := (show Row w6 w4.heap.size 0 (Ef.cel _) from r6).rdA 3 (by simp [Ef])
  refine W_sq fun K hK => (W_text [true, true, true, true] (by kernel_rfl) ?_); simp only [↓List.toList_toArray, ↓rgd, ↓reduceIte, Nat.reduceEqDiff, rg, ow_16, l1, l2, eq_fo]
  refine hK _ _ ?_; clear hK K
  exact W_ret (endQ_1 (by simp only [upd_eq, Nat.reduceEqDiff, ↓reduceIte] <;> rfl) ⟨rfl, (X3.tr X4).tr (noF_of n5.ext x6 fun y o hy h => by simp only [rng] at h; omega)⟩)
end Go.Proofs.Ytdffddiaoheklaa
