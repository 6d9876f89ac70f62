/-
  The laws' sample items; the degrees that fit. No condition.
-/
import Derived.Test.YtdffddiaoheklaaGSpec
import Derived.Test.YtdffddiaoheklaaMItems
set_option linter.unusedSimpArgs false
set_option linter.unusedVariables false
namespace Go.Proofs.Ytdffddiaoheklaa
open Go Go.Proofs
def exL : List It := [(5, 1), (3, 2), (9, 3), (3, 4), (1, 5), (7, 6), (8, 7)]
theorem bs_ex : bsV Try.prog 25 7 [(0, iV (5, 1)), (1, iV (3, 2)), (2, iV (9, 3)), (3, iV (3, 4)), (4, iV (1, 5)), (5, iV (7, 6)), (6, iV (8, 7))] = some (38, flat Ei exL) := by kernel_rfl
set_option maxHeartbeats 400000 in
set_option maxRecDepth 8000 in
theorem exItems_any (w : World) : CallK Try.prog 18 #[] w fun v w' => SlI w' v exL ∧ Ext noF w w' := by
  refine calls_of_W (args := []) [.tmp 0] Try.func18 rfl Try.ntmps18 Try.results18 (by simp) fun e he => ?_
  clear he
  refine W_sq fun K hK => (W_text [true] (by kernel_rfl) ?_); simp only [↓List.toList_toArray, ↓rgd, ↓rgf, ↓reduceIte, Nat.reduceEqDiff, rg]
  refine hK _ _ ?_; clear hK K
  refine W_sq fun K hK => (W_text [true, true, true, true, true, true, true, false, true] (by kernel_rfl) ?_); simp only [↓List.toList_toArray, ↓rgd, ↓rgf, ↓reduceIte, Nat.reduceEqDiff, rg, bu_item]
  refine do_bsl rfl bs_ex fun w1 n1 => ⟨trivial, ?_⟩
  simp only [↓List.toList_toArray, ↓rgd, ↓rgf, ↓reduceIte, Nat.reduceEqDiff, rg]
  refine hK _ _ ?_; clear hK K
  exact W_ret (endQ_1 (by simp only [upd_eq, Nat.reduceEqDiff, ↓reduceIte] <;> rfl) ⟨⟨rfl, .inr ⟨_, 0, 7, rfl, Nat.le_refl _, n1.row, n1.wok.R (Nat.le_refl _)⟩⟩, n1.ext⟩)
set_option maxHeartbeats 400000 in
set_option maxRecDepth 8000 in
theorem fits_any (d : Int) (w : World) : CallK Try.prog 19 #[.int .i64 d] w fun v w' => v = .bool (decide (d = 0) || (decide (2 ≤ d) && decide (d ≤ 128))) ∧ w = w' := by
  refine calls_of_W [.tmp 2] Try.func19 rfl Try.ntmps19 Try.results19 (by simp) fun e he => ?_
  have e0 : e 0 = .int .i64 d := he 0 _ rfl
  clear he
  refine W_sq fun K hK => (W_text [true] (by kernel_rfl) ?_); simp only [↓List.toList_toArray, ↓rgd, ↓rgf, ↓reduceIte, Nat.reduceEqDiff, rg, ow_19]
  refine hK _ _ ?_; clear hK K
  by_cases h0 : d = 0
  · have t1 : (d == 0) = true := by simp [h0]
    refine W_sq fun K hK => (W_text [true, true, true, true, true, true, true, true, true, true, true] (by kernel_rfl) ?_); simp only [↓List.toList_toArray, ↓rgd, ↓rgf, ↓reduceIte, Nat.reduceEqDiff, rg, ow_19, e0, t1]
    refine hK _ _ ?_; clear hK K
    exact W_ret (endQ_1 (by simp only [upd_eq, Nat.reduceEqDiff, ↓reduceIte] <;> rfl) ⟨by simp [h0], rfl⟩)
  · have t1 : (d == 0) = false := by simp [h0]
    by_cases h2 : 2 ≤ d
    · have t2 : decide (2 ≤ d) = true := by simp [h2]
      refine W_sq fun K hK => (W_text [true, true, true, true, true, true, true, true, true, true, true] (by kernel_rfl) ?_); simp only [↓List.toList_toArray, ↓rgd, ↓rgf, ↓reduceIte, Nat.reduceEqDiff, rg, ow_19, e0, t1, t2]
      refine hK _ _ ?_; clear hK K
      exact W_ret (endQ_1 (by simp only [upd_eq, Nat.reduceEqDiff, ↓reduceIte] <;> rfl) ⟨by simp [h0, h2], rfl⟩)
    · have t2 : decide (2 ≤ d) = false := by simp; omega
      refine W_sq fun K hK => (W_text [true, true, true, true, true, true, true, true, true, true, true] (by kernel_rfl) ?_); simp only [↓List.toList_toArray, ↓rgd, ↓rgf, ↓reduceIte, Nat.reduceEqDiff, rg, ow_19, e0, t1, t2]
      refine hK _ _ ?_; clear hK K
      exact W_ret (endQ_1 (by simp only [upd_eq, Nat.reduceEqDiff, ↓reduceIte] <;> rfl) ⟨by simp [h0, h2], rfl⟩)
end Go.Proofs.Ytdffddiaoheklaa
