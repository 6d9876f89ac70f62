/-
  Whether a node is a leaf. No condition.
-/
import Derived.Test.YtdffddiaoheklaaMI
set_option linter.unusedSimpArgs false
set_option linter.unusedVariables false
namespace Go.Proofs.Ytdffddiaoheklaa
open Go Go.Proofs
set_option maxHeartbeats 40000 in
theorem leaf_any (b : Nat) (ch : Option Addr) (w : World) (hch : rd w b 3 = some (.pointer ch)) :
    CallK Try.prog 108 #[ptr b] w fun v w' => v = .bool ch.isNone ∧ w' = w := by
  refine calls_of_W [.tmp 2] Try.func108 rfl Try.ntmps108 Try.results108 (by simp) fun e he => ?_
  have h0 : e 0 = ptr b := he 0 _ rfl
  clear he
  refine W_sq fun K hK => (W_text [true] (by kernel_rfl) ?_); simp only [↓List.toList_toArray, ↓rgd, ↓rgf, ↓reduceIte, Nat.reduceEqDiff, rg, ow_108]
  refine hK _ _ ?_; clear hK K
  refine W_sq fun K hK => (W_text [true, true, true, true, true, true] (by kernel_rfl) ?_); simp only [↓List.toList_toArray, ↓rgd, ↓rgf, ↓reduceIte, Nat.reduceEqDiff, rg, ow_108, h0, ptr_eq, hch]
  refine hK _ _ ?_; clear hK K
  exact W_ret (endQ_1 (by simp only [upd_eq, Nat.reduceEqDiff, ↓reduceIte]) ⟨rfl, rfl⟩)
end Go.Proofs.Ytdffddiaoheklaa
