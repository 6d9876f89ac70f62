/-
  A map in memory. No condition.
-/
import Derived.Test.YtinpigpeoakeaaaMNode
set_option linter.unusedSimpArgs false
set_option linter.unusedVariables false
namespace Go.Proofs.Ytinpigpeoakeaaa
open Go Go.Proofs
/-- The map at m holds the ascending list xs. -/
structure MapAt (w : World) (m d : Nat) (iso : Int) (xs : List It) (F : Nat → Nat → Prop) : Prop where
  cfg : Cfg w m iso d
  cnt : rd w m 3 = some (.int .i64 xs.length)
  asc : Asc O κ xs
  root : (xs = [] ∧ rd w m 2 = some (.pointer none)) ∨ ∃ h b, rd w m 2 = some (ptr b) ∧ Tr E iso (d - 1) (2 * d - 1) h w 1 b xs F
  off : ∀ o, ¬ F m o
  lt : ∀ y o, F y o → y < w.heap.size
def mapF (m : Nat) (F : Nat → Nat → Prop) : Nat → Nat → Prop := fun y o => F y o ∨ y = m ∧ (o = 2 ∨ o = 3)
theorem MapAt.extG {w w' : World} {G : Nat → Nat → Prop} {m d : Nat} {iso : Int} {xs : List It} {F : Nat → Nat → Prop} (h : MapAt w m d iso xs F) (x : Ext G w w') (hF : ∀ y o, F y o → ¬ G y o) (hm : ∀ o, ¬ G m o) : MapAt w' m d iso xs F :=
  ⟨h.cfg.ext x fun o _ _ => hm o, x.rd h.cnt (hm 3), h.asc, h.root.imp (fun ⟨h1, h2⟩ => ⟨h1, x.rd h2 (hm 2)⟩) fun ⟨h', b, h1, h2⟩ => ⟨h', b, x.rd h1 (hm 2), h2.ext x hF⟩, h.off, fun y o g => Nat.lt_of_lt_of_le (h.lt y o g) x.size⟩
theorem MapAt.ext {w w' : World} {m d : Nat} {iso : Int} {xs : List It} {F : Nat → Nat → Prop} (h : MapAt w m d iso xs F) (x : Ext noF w w') : MapAt w' m d iso xs F := h.extG x (fun _ _ _ g => g) fun _ g => g
theorem MapAt.mlt {w : World} {m d : Nat} {iso : Int} {xs : List It} {F : Nat → Nat → Prop} (h : MapAt w m d iso xs F) : m < w.heap.size := wok_lt h.cfg.wok
end Go.Proofs.Ytinpigpeoakeaaa
