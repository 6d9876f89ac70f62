/-
  The sample words; which degrees fit. No condition.
-/
import Derived.Test.YtinpigpeoakeaaaWBase
set_option linter.unusedSimpArgs false
set_option linter.unusedVariables false
namespace Go.Proofs.Ytinpigpeoakeaaa
open Go Go.Proofs
def exL : List It := [(⟨#[98]⟩, 1), (⟨#[]⟩, 2), (⟨#[97, 98]⟩, 3), (⟨#[98]⟩, 4)]
theorem bs_exW : bsV Try.prog 22 4 [(0, iV (⟨#[98]⟩, 1)), (1, iV (⟨#[]⟩, 2)), (2, iV (⟨#[97, 98]⟩, 3)), (3, iV (⟨#[98]⟩, 4))] = some (31, flat Ei exL) := by kernel_rfl
set_option maxHeartbeats 400000 in
set_option maxRecDepth 8000 in
theorem exWords_any (w : World) : CallK Try.prog 10 #[] w fun v w' => SlI w' v exL ∧ Ext noF w w' := by
  refine calls_of_W (args := []) [.tmp 0] Try.func10 rfl Try.ntmps10 Try.results10 (by simp) fun e he => ?_
  clear he
  refine W_sq fun K hK => (W_text [true] (by kernel_rfl) ?_); simp only [↓List.toList_toArray, ↓rgd, ↓reduceIte, Nat.reduceEqDiff, rg]
  refine hK _ _ ?_; clear hK K
  refine W_sq fun K hK => (W_text [true, true, true, true, false, true] (by kernel_rfl) ?_); simp only [↓List.toList_toArray, ↓rgd, ↓reduceIte, Nat.reduceEqDiff, rg, bu_item]
  refine do_bsl rfl bs_exW fun w1 n1 => ⟨trivial, ?_⟩
  simp only [↓List.toList_toArray, ↓rgd, ↓reduceIte, Nat.reduceEqDiff, rg]
  refine hK _ _ ?_; clear hK K
  exact W_ret (endQ_1 (by simp only [upd_eq, Nat.reduceEqDiff, ↓reduceIte] <;> rfl) ⟨⟨rfl, .inr ⟨_, 0, 4, rfl, Nat.le_refl _, n1.row, n1.wok.R (Nat.le_refl _)⟩⟩, n1.ext⟩)
set_option maxHeartbeats 400000 in
set_option maxRecDepth 8000 in
theorem fits_any (d : Int) (w : World) : CallK Try.prog 11 #[.int .i64 d] w fun v w' => v = .bool (decide (d = 0) || (decide (2 ≤ d) && decide (d ≤ 128))) ∧ w = w' := by
  refine calls_of_W [.tmp 2] Try.func11 rfl Try.ntmps11 Try.results11 (by simp) fun e he => ?_
  have e0 : e 0 = .int .i64 d := he 0 _ rfl
  clear he
  refine W_sq fun K hK => (W_text [true] (by kernel_rfl) ?_); simp only [↓List.toList_toArray, ↓rgd, ↓reduceIte, Nat.reduceEqDiff, rg, ow_11]
  refine hK _ _ ?_; clear hK K
  by_cases h0 : d = 0
  · have t1 : (d == 0) = true := by simp [h0]
    refine W_sq fun K hK => (W_text [true, true, true, true, true, true, true, true, true, true, true] (by kernel_rfl) ?_); simp only [↓List.toList_toArray, ↓rgd, ↓reduceIte, Nat.reduceEqDiff, rg, ow_11, e0, t1]
    refine hK _ _ ?_; clear hK K
    exact W_ret (endQ_1 (by simp only [upd_eq, Nat.reduceEqDiff, ↓reduceIte] <;> rfl) ⟨by simp [h0], rfl⟩)
  · have t1 : (d == 0) = false := by simp [h0]
    by_cases h2 : 2 ≤ d
    · have t2 : decide (2 ≤ d) = true := by simp [h2]
      refine W_sq fun K hK => (W_text [true, true, true, true, true, true, true, true, true, true, true] (by kernel_rfl) ?_); simp only [↓List.toList_toArray, ↓rgd, ↓reduceIte, Nat.reduceEqDiff, rg, ow_11, e0, t1, t2]
      refine hK _ _ ?_; clear hK K
      exact W_ret (endQ_1 (by simp only [upd_eq, Nat.reduceEqDiff, ↓reduceIte] <;> rfl) ⟨by simp [h0, h2], rfl⟩)
    · have t2 : decide (2 ≤ d) = false := by simp; omega
      refine W_sq fun K hK => (W_text [true, true, true, true, true, true, true, true, true, true, true] (by kernel_rfl) ?_); simp only [↓List.toList_toArray, ↓rgd, ↓reduceIte, Nat.reduceEqDiff, rg, ow_11, e0, t1, t2]
      refine hK _ _ ?_; clear hK K
      exact W_ret (endQ_1 (by simp only [upd_eq, Nat.reduceEqDiff, ↓reduceIte] <;> rfl) ⟨by simp [h0, h2], rfl⟩)
end Go.Proofs.Ytinpigpeoakeaaa
