/-
  A region with a label to which the run jumps. For whatever program. No condition.
-/
import Derived.Test.YtdffddiaoheklaaFun
import Derived.ScopeJumps
set_option linter.unusedSimpArgs false
set_option linter.unusedVariables false
namespace Go.Proofs.Ytdffddiaoheklaa
open Go
/-- A jump to a label: what holds there. -/
def jump (l : Nat) (J : Env → World → Prop) (Q : Post) : Post
  | .goto l', e, w => l' = l ∧ J e w
  | x, e, w => Q x e w
theorem jump_normal (l : Nat) (J : Env → World → Prop) (Q : Post) (e : Env) (w : World) : jump l J Q .normal e w = Q .normal e w := id (Eq.trans rfl rfl)
theorem jump_ret (l : Nat) (J : Env → World → Prop) (Q : Post) (e : Env) (w : World) : jump l J Q .ret e w = Q .ret e w := id (Eq.trans rfl rfl)
theorem jump_exit (l i : Nat) (J : Env → World → Prop) (Q : Post) (e : Env) (w : World) : jump l J Q (.exit i) e w = Q (.exit i) e w := id (Eq.trans rfl rfl)
theorem jump_goto (l l' : Nat) (J : Env → World → Prop) (Q : Post) (e : Env) (w : World) : jump l J Q (.goto l') e w = (l' = l ∧ J e w) := id (Eq.trans rfl rfl)
section
variable {P : Program} {n : Nat} {Q : Post} {e : Env} {w : World}
theorem W_scope {c rest : Code} (l : Nat) (J : Nat → Env → World → Prop) (hf : findLabel c l = some rest) (first : W P n c (jump l (fun e w => ∃ k, J k e w) Q) e w)
    (pass : ∀ k e w, J k e w → W P n rest (jump l (fun e' w' => ∃ k', k' < k ∧ J k' e' w') Q) e w) : W P n (.scope c) Q e w := by
  intro a ha b k cs
  have hg : gotoIn l (.inScope c :: k) = some (.code rest :: .inScope c :: k) := by simp [gotoIn, hf]
  have key : ∀ m e w, J m e w → ∀ a, Fr n e a → ∃ x a' w', lift n Q x a' w' ∧ Arrives P (lone (b.at a (.code rest :: .inScope c :: k)) cs w) b k cs x a' w' := by
    intro m
    induction m using Nat.strongRecOn with
    | _ m ih =>
      intro e w hJ a ha
      obtain ⟨x, a1, w1, ⟨e1, hf1, hx, hq⟩, harr⟩ := pass m e w hJ a ha b (.inScope c :: k) cs
      cases x with
      | normal => exact ⟨.normal, a1, w1, ⟨e1, hf1, hx, hq⟩, Steps.trans harr (.one step_inScope)⟩
      | exit id => exact ⟨.exit id, a1, w1, ⟨e1, hf1, hx, hq⟩, fun k' hk => harr k' (by simp [exitTo, hk])⟩
      | goto l' =>
        obtain ⟨rfl, m', hm', hJ'⟩ := hq
        obtain ⟨x2, a2, w2, hq2, harr2⟩ := ih m' hm' e1 w1 hJ' a1 hf1
        exact ⟨x2, a2, w2, hq2, .of_steps (harr _ hg) harr2⟩
      | ret => exact ⟨_, a1, w1, ⟨e1, hf1, hx, hq⟩, harr⟩
      | panic ch => exact ⟨_, a1, w1, ⟨e1, hf1, hx, hq⟩, harr⟩
      | outgrown => exact ⟨_, a1, w1, ⟨e1, hf1, hx, hq⟩, harr⟩
  obtain ⟨x, a1, w1, ⟨e1, hf1, hx, hq⟩, harr⟩ := first a ha b (.inScope c :: k) cs
  cases x with
  | normal => exact ⟨.normal, a1, w1, ⟨e1, hf1, hx, hq⟩, .head step_scope (Steps.trans harr (.one step_inScope))⟩
  | exit id => exact ⟨.exit id, a1, w1, ⟨e1, hf1, hx, hq⟩, fun k' hk => .head step_scope (harr k' (by simp [exitTo, hk]))⟩
  | goto l' =>
    obtain ⟨rfl, m, hJ⟩ := hq
    obtain ⟨x2, a2, w2, hq2, harr2⟩ := key m e1 w1 hJ a1 hf1
    exact ⟨x2, a2, w2, hq2, .of_steps (.head step_scope (harr _ hg)) harr2⟩
  | ret => exact ⟨_, a1, w1, ⟨e1, hf1, hx, hq⟩, .of_steps (.one step_scope) harr⟩
  | panic ch => exact ⟨_, a1, w1, ⟨e1, hf1, hx, hq⟩, .of_steps (.one step_scope) harr⟩
  | outgrown => exact ⟨_, a1, w1, ⟨e1, hf1, hx, hq⟩, .of_steps (.one step_scope) harr⟩
/-- A label that lies ahead. -/
theorem W_fwd {c rest : Code} (l : Nat) (J : Env → World → Prop) (hf : findLabel c l = some (.seq .skip rest)) (pass : ∀ e w, J e w → W P n rest (jump l (fun _ _ => False) Q) e w)
    (first : (∀ e w, J e w → W P n rest (jump l J Q) e w) → W P n c (jump l J Q) e w) : W P n (.scope c) Q e w := by
  have up : ∀ {K K' : Env → World → Prop} {c : Code} {e : Env} {w : World}, (∀ e w, K e w → K' e w) → W P n c (jump l K Q) e w → W P n c (jump l K' Q) e w := fun hK h => h.mono fun x e w hq => by
    cases x with
    | goto l' => exact ⟨hq.1, hK _ _ hq.2⟩
    | _ => exact hq
  refine W_scope l (fun _ => J) hf (up (fun e w h => ⟨0, h⟩) (first fun e w h => up (fun _ _ h => h.elim) (pass e w h))) fun k e w h => ?_
  exact W_seq (W_skip (up (fun _ _ h => h.elim) (pass e w h)))
end
end Go.Proofs.Ytdffddiaoheklaa
