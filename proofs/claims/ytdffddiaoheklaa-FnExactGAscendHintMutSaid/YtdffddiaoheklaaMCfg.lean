/-
  A tree's record: what setting does not change. No condition.
-/
import Derived.Test.YtdffddiaoheklaaMI
set_option linter.unusedSimpArgs false
set_option linter.unusedVariables false
namespace Go.Proofs.Ytdffddiaoheklaa
open Go Go.Proofs
structure Cfg (w : World) (m : Nat) (iso : Int) (d : Nat) : Prop where
  iso : rd w m 0 = some (.int .u64 iso)
  ez : Row w m 7 (E.cel zIt)
  mn : rd w m 10 = some (.int .i64 ((d - 1 : Nat) : Int))
  mx : rd w m 9 = some (.int .i64 ((2 * d - 1 : Nat) : Int))
  cv : rd w m 4 = some (.bool false)
  ci : rd w m 5 = some (.bool false)
  wok : wok w m 11
def cfgF (m : Nat) : Nat → Nat → Prop := fun x o => x = m ∧ o ≠ 2 ∧ o ≠ 3
theorem Cfg.ext {w w' : World} {G : Nat → Nat → Prop} {m : Nat} {iso : Int} {d : Nat} (h : Cfg w m iso d) (hx : Ext G w w') (hG : ∀ o, o ≠ 2 → o ≠ 3 → ¬ G m o) : Cfg w' m iso d :=
  ⟨hx.rd h.iso (hG _ (by decide) (by decide)), hx.row h.ez fun i _ => hG _ (by omega) (by omega), hx.rd h.mn (hG _ (by decide) (by decide)), hx.rd h.mx (hG _ (by decide) (by decide)),
    hx.rd h.cv (hG _ (by decide) (by decide)), hx.rd h.ci (hG _ (by decide) (by decide)), hx.wok h.wok⟩
theorem zIt_at {w : World} {m : Nat} {iso : Int} {d : Nat} (h : Cfg w m iso d) : rdA w m 7 2 = some (itV zIt) := h.ez.rdA 2 (by simp [E])
end Go.Proofs.Ytdffddiaoheklaa
