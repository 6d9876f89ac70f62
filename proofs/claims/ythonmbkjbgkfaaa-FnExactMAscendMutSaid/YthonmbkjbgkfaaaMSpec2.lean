/-
  The reference's scan: the first items of the list. No condition.
-/
import Derived.Test.YthonmbkjbgkfaaaMStree
import Derived.Test.YthonmbkjbgkfaaaMPairs
set_option linter.unusedSimpArgs false
set_option linter.unusedVariables false
namespace Go.Proofs.Ythonmbkjbgkfaaa
open Go Go.Proofs
theorem zMake : buildV Try.prog 42 [] = some (.agg #[.slice none 0 0, .int .i64 0, .bool false]) := by kernel_rfl
def mkV : Value := .agg #[.slice none 0 0, .int .i64 0, .bool false]
theorem bu_make : buildV Try.prog 42 [] = some mkV := by kernel_rfl
set_option maxHeartbeats 400000 in
set_option maxRecDepth 8000 in
theorem first_any (l : List It) (lv : Value) (n : Int) (w : World) (hl : SlI w lv l) :
    CallK Try.prog 56 #[lv, .int .i64 n] w fun v w' => SlI w' v (firstN n l) ∧ w' = w := by
  obtain ⟨a, c, hlv⟩ := hl.shape
  refine calls_of_W [.tmp 4] Try.func56 rfl Try.ntmps56 Try.results56 (by simp) fun e he => ?_
  have e0 : e 0 = .slice a l.length c := by rw [← hlv]; exact he 0 _ rfl
  have e1 : e 1 = .int .i64 n := he 1 _ rfl
  clear he
  refine W_sq fun K hK => (W_text [true] (by kernel_rfl) ?_); simp only [↓List.toList_toArray, ↓rgd, ↓reduceIte, Nat.reduceEqDiff, rg, ow_56]
  refine hK _ _ ?_; clear hK K
  refine W_seq ?_
  by_cases h1 : n < 1
  · have t1 : decide (n < 1) = true := by simp [h1]
    refine W_sq fun K hK => (W_text [true, true, true, true, true, true, true, true] (by kernel_rfl) ?_); simp only [↓List.toList_toArray, ↓rgd, ↓reduceIte, Nat.reduceEqDiff, rg, ow_56, e0, e1, t1]
    refine hK _ _ ?_; clear hK K
    refine W_true (by simp only [evt, evc, upd_eq, Nat.reduceEqDiff, ↓reduceIte, ntT, ntF] <;> rfl) ?_
    refine W_sq fun K hK => (W_text [true, true] (by kernel_rfl) ?_); simp only [↓List.toList_toArray, ↓rgd, ↓reduceIte, Nat.reduceEqDiff, rg, ow_56, e0]
    refine hK _ _ ?_; clear hK K
    refine W_ret ?_
    simp only [andThen_ret]
    refine endQ_1 (by simp only [upd_eq, Nat.reduceEqDiff, ↓reduceIte] <;> rfl) ⟨?_, rfl⟩
    rw [firstN, if_pos (.inl h1), ← hlv]; exact hl
  · have t1 : decide (n < 1) = false := by simp; omega
    by_cases h2 : (l.length : Int) < n
    · have t2 : decide ((l.length : Int) < n) = true := by simp [h2]
      refine W_sq fun K hK => (W_text [true, true, true, true, true, true, true, true] (by kernel_rfl) ?_); simp only [↓List.toList_toArray, ↓rgd, ↓reduceIte, Nat.reduceEqDiff, rg, ow_56, e0, e1, t1, t2]
      refine hK _ _ ?_; clear hK K
      refine W_true (by simp only [evt, evc, upd_eq, Nat.reduceEqDiff, ↓reduceIte, ntT, ntF] <;> rfl) ?_
      refine W_sq fun K hK => (W_text [true, true] (by kernel_rfl) ?_); simp only [↓List.toList_toArray, ↓rgd, ↓reduceIte, Nat.reduceEqDiff, rg, ow_56, e0]
      refine hK _ _ ?_; clear hK K
      refine W_ret ?_
      simp only [andThen_ret]
      refine endQ_1 (by simp only [upd_eq, Nat.reduceEqDiff, ↓reduceIte] <;> rfl) ⟨?_, rfl⟩
      rw [firstN, if_pos (.inr h2), ← hlv]; exact hl
    · have t2 : decide ((l.length : Int) < n) = false := by simp; omega
      refine W_sq fun K hK => (W_text [true, true, true, true, true, true, true, true] (by kernel_rfl) ?_); simp only [↓List.toList_toArray, ↓rgd, ↓reduceIte, Nat.reduceEqDiff, rg, ow_56, e0, e1, t1, t2]
      refine hK _ _ ?_; clear hK K
      refine W_false (by simp only [evt, evc, upd_eq, Nat.reduceEqDiff, ↓reduceIte, ntT, ntF] <;> rfl) (W_skip ?_)
      show W _ _ _ _ _ _
      obtain ⟨k, rfl⟩ : ∃ k : Nat, n = k := ⟨n.toNat, by omega⟩
      obtain ⟨sv, hs, hsl⟩ := sl_hi hl k (by omega)
      rw [hlv] at hs
      refine W_sq fun K hK => (W_text [true, true, true, true] (by kernel_rfl) ?_); simp only [↓List.toList_toArray, ↓rgd, ↓reduceIte, Nat.reduceEqDiff, rg, ow_56, e0, e1, hs]
      refine hK _ _ ?_; clear hK K
      refine W_ret (endQ_1 (by simp only [upd_eq, Nat.reduceEqDiff, ↓reduceIte] <;> rfl) ⟨?_, rfl⟩)
      rw [firstN, if_neg (by omega), SlI, List.length_take]
      have : min (k : Int).toNat l.length = k := by omega
      rw [this]
      simpa using hsl
set_option maxHeartbeats 400000 in
set_option maxRecDepth 8000 in
theorem gscan_nil (l : List It) (lv : Value) (n : Int) (w : World) (hl : SlI w lv l) (hbig : l.length ≤ 2147483647) :
    CallK Try.prog 37 #[mkV, lv, .int .i64 n] w fun v w' => SlI w' v (firstN n (tree l)) ∧ Ext noF w w' := by
  refine calls_of_W [.tmp 6] Try.func37 rfl Try.ntmps37 Try.results37 (by simp) fun e he => ?_
  have e0 : e 0 = mkV := he 0 _ rfl
  have e1 : e 1 = lv := he 1 _ rfl
  have e2 : e 2 = .int .i64 n := he 2 _ rfl
  clear he
  refine W_sq fun K hK => (W_text [false, true] (by kernel_rfl) ?_); simp only [↓List.toList_toArray, ↓rgd, ↓reduceIte, Nat.reduceEqDiff, rg, ow_37]
  refine do_box (by simp only [evt]; exact e0) fun w1 n1 => ⟨trivial, ?_⟩
  simp only [↓List.toList_toArray, ↓rgd, ↓reduceIte, Nat.reduceEqDiff, rg, ow_37]
  refine hK _ _ ?_; clear hK K
  have r1 : rd w1 w.heap.size 0 = some nilS := (Row.cons.1 (show Row w1 w.heap.size 0 [nilS, .int .i64 0, .bool false] from n1.row)).1
  refine W_sq fun K hK => (W_text [true, true, true, false, true, false, true] (by kernel_rfl) ?_); simp only [↓List.toList_toArray, ↓rgd, ↓reduceIte, Nat.reduceEqDiff, rg, ow_37, e1, e2, r1]
  refine do_call fn_26 (by simp only [evt, evc, upd_eq, Nat.reduceEqDiff, ↓reduceIte, maT, maC, maN, isnN, isnS] <;> rfl) (stree_nil l lv w1 (hl.ext0 n1.ext) hbig) ?_
  rintro v2 w2 ⟨hS2, X2⟩
  refine ⟨trivial, ?_⟩
  simp only [↓List.toList_toArray, ↓rgd, ↓reduceIte, Nat.reduceEqDiff, rg, ow_37, e2]
  refine do_call fn_56 (by simp only [evt, evc, upd_eq, Nat.reduceEqDiff, ↓reduceIte, maT, maC, maN, isnN, isnS] <;> rfl) (first_any (tree l) v2 n w2 hS2) ?_
  rintro v3 _ ⟨hS3, rfl⟩
  refine ⟨trivial, ?_⟩
  simp only [↓List.toList_toArray, ↓rgd, ↓reduceIte, Nat.reduceEqDiff, rg, ow_37]
  refine hK _ _ ?_; clear hK K
  exact W_ret (endQ_1 (by simp only [upd_eq, Nat.reduceEqDiff, ↓reduceIte] <;> rfl) ⟨hS3, n1.ext.tr X2⟩)
end Go.Proofs.Ythonmbkjbgkfaaa
