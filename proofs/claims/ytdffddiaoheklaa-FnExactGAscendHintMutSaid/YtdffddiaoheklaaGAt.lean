/-
  A tree with an order in memory. No condition.
-/
import Derived.Test.YtdffddiaoheklaaGSearch
set_option linter.unusedSimpArgs false
set_option linter.unusedVariables false
namespace Go.Proofs.Ytdffddiaoheklaa
open Go Go.Proofs
/-- The tree at m holds the list xs, which ascends by the ranks under ord; what the order reads is older than B. -/
structure TreeAt (B : Nat) (ord : List Int) (w : World) (m d : Nat) (iso : Int) (xs : List It) (F : Nat → Nat → Prop) : Prop where
  cfg : Cfg w m iso d
  less : Ls B m w ord
  cnt : rd w m 3 = some (.int .i64 xs.length)
  asc : Asc O (rkI ord) xs
  root : (xs = [] ∧ rd w m 2 = some (.pointer none)) ∨ ∃ h b, rd w m 2 = some (ptr b) ∧ Tr E iso (d - 1) (2 * d - 1) h w 1 b xs F
  off : ∀ o, ¬ F m o
  lt : ∀ y o, F y o → y < w.heap.size
  above : ∀ y o, F y o → m < y
def mapF (m : Nat) (F : Nat → Nat → Prop) : Nat → Nat → Prop := fun y o => F y o ∨ y = m ∧ (o = 2 ∨ o = 3)
theorem TreeAt.extG {B : Nat} {ord : List Int} {w w' : World} {G : Nat → Nat → Prop} {m d : Nat} {iso : Int} {xs : List It} {F : Nat → Nat → Prop} (h : TreeAt B ord w m d iso xs F) (x : Ext G w w') (hF : ∀ y o, F y o → ¬ G y o) (hm : ∀ y o, G y o → m < y) : TreeAt B ord w' m d iso xs F := by
  have hm' : ∀ o, ¬ G m o := fun o g => Nat.lt_irrefl _ (hm _ _ g)
  have hB : B ≤ m := by obtain ⟨_, _, _, h⟩ := h.less; exact h
  exact ⟨h.cfg.ext x fun o _ _ => hm' o, h.less.ext x (fun y o g => by have := hm _ _ g; omega) (hm' 6), x.rd h.cnt (hm' 3), h.asc, h.root.imp (fun ⟨h1, h2⟩ => ⟨h1, x.rd h2 (hm' 2)⟩) fun ⟨h', b, h1, h2⟩ => ⟨h', b, x.rd h1 (hm' 2), h2.ext x hF⟩,
    h.off, fun y o g => Nat.lt_of_lt_of_le (h.lt y o g) x.size, h.above⟩
theorem TreeAt.ext {B : Nat} {ord : List Int} {w w' : World} {m d : Nat} {iso : Int} {xs : List It} {F : Nat → Nat → Prop} (h : TreeAt B ord w m d iso xs F) (x : Ext noF w w') : TreeAt B ord w' m d iso xs F :=
  h.extG x (fun _ _ _ g => g) fun _ _ g => g.elim
theorem TreeAt.mlt {B : Nat} {ord : List Int} {w : World} {m d : Nat} {iso : Int} {xs : List It} {F : Nat → Nat → Prop} (h : TreeAt B ord w m d iso xs F) : m < w.heap.size := wok_lt h.cfg.wok
end Go.Proofs.Ytdffddiaoheklaa
