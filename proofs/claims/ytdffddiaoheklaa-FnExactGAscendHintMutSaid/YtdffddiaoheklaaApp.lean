/-
  Slices that lie in new memory; what an append leaves of them. For whatever program. No condition.
-/
import Derived.Test.YtdffddiaoheklaaTree
set_option linter.unusedSimpArgs false
set_option linter.unusedVariables false
namespace Go.Proofs.Ytdffddiaoheklaa
open Go
theorem SlV.shape {w : World} {sz n : Nat} {v : Value} {l : List Value} (h : SlV w sz v n l) : ∃ a c, v = .slice a n c := by
  rcases h.2 with ⟨rfl, h0⟩ | ⟨b, o, cap, rfl, _⟩
  · exact ⟨none, 0, by rw [h0]⟩
  · exact ⟨_, _, rfl⟩
theorem SlV.at {w : World} {sz n i : Nat} {v : Value} {l : List Value} (h : SlV w sz v n l) {a : Option Addr} {c : Nat} (hv : v = .slice a n c) (hi : i < n) : ∃ b o, a = some ⟨b, o, none⟩ ∧ Row w b o l := by
  rcases h.2 with ⟨_, h⟩ | ⟨b, o, cap, h1, _, hr, _⟩
  · omega
  · rw [h1] at hv; cases hv; exact ⟨b, o, rfl, hr⟩
/-- A slice value whose block, if it has one, is not older than B. -/
def since (B : Nat) (v : Value) : Prop := ∀ b o n c, v = .slice (some ⟨b, o, none⟩) n c → B ≤ b
theorem app_since {w w' : World} {sz n m B : Nat} {v v' : Value} {l l' : List Value} (h : AppRes w sz v n m l l' v' w') (hv : since B v) (hB : B ≤ w.heap.size) :
    SlV w' sz v' (n + m) (l ++ l') ∧ since B v' ∧ Ext (fun y _ => B ≤ y) w w' := by
  obtain ⟨hs, hc⟩ := h
  refine ⟨hs, ?_⟩
  rcases hc with ⟨rfl, rfl, h3⟩ | ⟨b0, o0, cap0, rfl, rfl, h3, h4, h5⟩ | ⟨cap', rfl, h2, h3⟩
  · exact ⟨hv, Ext.refl _ _⟩
  · have hb := hv _ _ _ _ rfl
    refine ⟨fun b o n c h => ?_, h3.mono fun y o _ g => by simp only [rng] at g; omega⟩
    simp only [Value.slice.injEq, Option.some.injEq, Addr.mk.injEq] at h
    omega
  · refine ⟨fun b o n c h => ?_, h2.mono fun y o _ g => g.elim⟩
    simp only [Value.slice.injEq, Option.some.injEq, Addr.mk.injEq] at h
    omega
/-- An append leaves every older block but its slice's own. -/
theorem app_block {w w' : World} {sz n m : Nat} {v v' : Value} {l l' : List Value} (h : AppRes w sz v n m l l' v' w') {y : Nat} (hy : y < w.heap.size) (hv : ∀ o n c, v ≠ .slice (some ⟨y, o, none⟩) n c) : w'.heap[y]? = w.heap[y]? := by
  rcases h.2 with ⟨rfl, rfl, h3⟩ | ⟨b0, o0, cap0, rfl, rfl, h3, h4, h5⟩ | ⟨cap', rfl, h2, h3⟩
  · rfl
  · exact h3.block hy fun o g => hv o0 n cap0 (by simp only [rng] at g; rw [g.1])
  · exact h2.block hy fun _ h => h
theorem SlV.lt {w : World} {sz n n' b o c : Nat} {v : Value} {l : List Value} (h : SlV w sz v n l) (hv : v = .slice (some ⟨b, o, none⟩) n' c) : b < w.heap.size := by
  rcases h.2 with ⟨h, _⟩ | ⟨b', o', cap', h1, _, _, hw⟩
  · rw [h] at hv; cases hv
  · rw [h1] at hv; cases hv; exact wokR_lt hw
/-- A list that is made in new memory. -/
structure OutE {α : Type} (E : Enc α) (B : Nat) (v : Value) (l : List α) (w : World) : Prop where
  sl : SlV w E.sz v l.length (flat E l)
  si : since B v
theorem OutE.ext {α : Type} {E : Enc α} {B : Nat} {v : Value} {l : List α} {w w' : World} (h : OutE E B v l w) (x : Ext noF w w') : OutE E B v l w' := ⟨h.sl.ext0 x, h.si⟩
theorem OutE.nil {α : Type} (E : Enc α) (B : Nat) (w : World) : OutE E B (.slice none 0 0) [] w := ⟨⟨by simp [flat], .inl ⟨rfl, rfl⟩⟩, fun b o n c h => by cases h⟩
theorem OutE.app {α : Type} {E : Enc α} {B : Nat} {v v' : Value} {l : List α} {x : α} {w w' : World} (h : OutE E B v l w) (a : AppRes w E.sz v l.length 1 (flat E l) (E.cel x) v' w') (hB : B ≤ w.heap.size) : OutE E B v' (l ++ [x]) w' ∧ Ext (fun y _ => B ≤ y) w w' := by
  obtain ⟨h1, h2, h3⟩ := app_since a h.si hB
  refine ⟨⟨?_, h2⟩, h3⟩
  rw [List.length_append, List.length_singleton, flat_append, flat_one]
  exact h1
/-- Two slices in different blocks. -/
def apart2 (v u : Value) : Prop := ∀ b o n c o' n' c', v = .slice (some ⟨b, o, none⟩) n c → u ≠ .slice (some ⟨b, o', none⟩) n' c'
theorem apart2.symm {v u : Value} (h : apart2 v u) : apart2 u v := fun b o n c o' n' c' h1 h2 => h b o' n' c' o n c h2 h1
/-- The other slice behind an append. -/
theorem app_other {w w' : World} {sz n m sz2 n2 : Nat} {v v' u : Value} {l l' l2 : List Value} (h : AppRes w sz v n m l l' v' w') (hu : SlV w sz2 u n2 l2) (ha : apart2 v u) : SlV w' sz2 u n2 l2 ∧ apart2 v' u := by
  have hbl : ∀ b o n c, u = .slice (some ⟨b, o, none⟩) n c → w'.heap[b]? = w.heap[b]? := fun b o n c hh => app_block h (hu.lt hh) fun o' n' c' hv => ha b o' n' c' o n c hv hh
  refine ⟨⟨hu.1, ?_⟩, fun b o k c o' n' c' h1 h2 => ?_⟩
  · rcases hu.2 with h0 | ⟨b, o, cap, h1, h2, h3, h4⟩
    · exact .inl h0
    · have hb := hbl b o _ _ h1
      refine .inr ⟨b, o, cap, h1, h2, fun i x hi => ?_, ?_⟩
      · have := h3 i x hi
        unfold rd World.cell? at this ⊢
        rw [hb]; exact this
      · obtain ⟨arr, T, fr, g1, g2, g3⟩ := h4
        exact ⟨arr, T, fr, by rw [hb]; exact g1, g2, g3⟩
  · rcases h.2 with ⟨rfl, rfl, h3⟩ | ⟨b0, o0, cap0, rfl, rfl, h3, h4, h5⟩ | ⟨cap', rfl, h3, h4⟩
    · exact ha b o k c o' n' c' h1 h2
    · simp only [Value.slice.injEq, Option.some.injEq, Addr.mk.injEq] at h1
      obtain ⟨⟨rfl, rfl, -⟩, rfl, rfl⟩ := h1
      exact ha _ _ _ _ o' n' c' rfl h2
    · simp only [Value.slice.injEq, Option.some.injEq, Addr.mk.injEq] at h1
      have := hu.lt h2
      omega
/-- The rest behind a variable, other endings as they are. -/
theorem W_sqx {P : Program} {n : Nat} {x y : Code} {Q : Post} {e : Env} {w : World} (h : ∀ K : Env → World → Prop, (∀ e w, W P n y Q e w → K e w) → W P n x (andThen K Q) e w) : W P n (.seq x y) Q e w := W_seq (h _ fun _ _ h => h)
end Go.Proofs.Ytdffddiaoheklaa
