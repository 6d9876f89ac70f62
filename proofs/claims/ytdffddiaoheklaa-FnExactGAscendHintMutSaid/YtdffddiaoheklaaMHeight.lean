/-
  A tree is not higher than its number of items. No condition.
-/
import Derived.Test.YtdffddiaoheklaaNode
import Derived.Test.YtdffddiaoheklaaMSplitTr
set_option linter.unusedSimpArgs false
set_option linter.unusedVariables false
namespace Go.Proofs.Ytdffddiaoheklaa
open Go Go.Proofs
theorem Tr.height {α : Type} {E : Enc α} {iso : Int} {mn mx : Nat} {w : World} (hmn : 1 ≤ mn) : ∀ {h lo b : Nat} {xs : List α} {F : Nat → Nat → Prop}, 1 ≤ lo → Tr E iso mn mx h w lo b xs F → h < xs.length
  | 0, _, _, _, _, hlo, ⟨_, _, _, _, h1, _⟩ => by omega
  | h + 1, _, _, _, _, hlo, ⟨_, _, _, _, _, _, _, ks, cs, _, _, h1, _, hcs, hxs, hT, _⟩ => by
    have hl := weave_length (cs.map Kid.xs) ks (by simpa using hcs)
    rw [← hxs] at hl
    cases cs with
    | nil => simp at hcs
    | cons c cs =>
      have := Tr.height hmn hmn (hT c (by simp))
      simp at hl; omega
theorem Tr.iso0 {w : World} {iso : Int} {mn mx h lo b : Nat} {xs : List It} {F : Nat → Nat → Prop} (ht : Tr E iso mn mx h w lo b xs F) : rd w b 0 = some (.int .u64 iso) ∧ rd w b 1 = some (.int .i64 xs.length) := by
  obtain ⟨bi, oi, cap, ks, ch, ho, _⟩ := ht.open
  exact ⟨ho.h0, ho.h1⟩
end Go.Proofs.Ytdffddiaoheklaa
