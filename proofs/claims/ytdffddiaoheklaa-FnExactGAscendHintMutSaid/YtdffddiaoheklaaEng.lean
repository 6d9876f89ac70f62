/-
  A small program logic over the model's weakest preconditions: frames as functions from slots to values, regions run by a plan
  (first what only reads, then what writes), for whatever program. No condition.
-/
import Derived.Orders
import Derived.Tactics
set_option linter.unusedSimpArgs false
set_option linter.unusedVariables false
namespace Go.Proofs.Ytdffddiaoheklaa
open Go

/-! ### Frames as functions -/
abbrev Env := Nat → Value
def upd (e : Env) (d : Nat) (v : Value) : Env := fun t => if t = d then v else e t
def updO (e : Env) : Option Nat → Value → Env
  | none, _ => e
  | some d, v => upd e d v
def ev (e : Env) : Operand → Value
  | .tmp t => e t
  | .const v => v
  | .global g => .pointer (some ⟨g, 0, none⟩)
  | .func f => .func (.func f) #[] #[]

theorem upd_apply (e : Env) (d : Nat) (v : Value) (t : Nat) : upd e d v t = if t = d then v else e t := rfl
theorem ev_tmp (e : Env) (t : Nat) : ev e (.tmp t) = e t := rfl
theorem ev_const (e : Env) (v : Value) : ev e (.const v) = v := rfl
theorem ev_global (e : Env) (g : Nat) : ev e (.global g) = .pointer (some ⟨g, 0, none⟩) := rfl
theorem ev_func (e : Env) (f : Nat) : ev e (.func f) = .func (.func f) #[] #[] := rfl
theorem updO_none (e : Env) (v : Value) : updO e none v = e := rfl
theorem updO_some (e : Env) (d : Nat) (v : Value) : updO e (some d) v = upd e d v := rfl

structure Fr (n : Nat) (e : Env) (a : Act) : Prop where
  defers : a.defers = []
  size : a.tmps.size = n
  get : ∀ t, a.tmps.getD t undef = e t

theorem Fr.eval {n : Nat} {e : Env} {a : Act} (h : Fr n e a) : a.eval = ev e := by
  funext x; cases x with
  | tmp t => exact h.get t
  | _ => rfl

theorem Fr.put {n : Nat} {e : Env} {a : Act} (h : Fr n e a) {d : Option Nat} (hd : ∀ t, d = some t → t < n) (v : Value) : Fr n (updO e d v) (a.put d v) := by
  cases d with
  | none => exact h
  | some d =>
    have hdn := hd d rfl
    refine ⟨h.defers, by simp [Act.put, h.size], fun t => ?_⟩
    have hs : d < a.tmps.size := by rw [h.size]; exact hdn
    show (a.tmps.setIfInBounds d v).getD t undef = if t = d then v else e t
    by_cases ht : t = d
    · subst ht; simp [hs]
    · rw [if_neg ht, ← h.get t]
      simp [Array.getElem?_setIfInBounds_ne (Ne.symm ht)]

/-! ### Code -/
abbrev Post := Exit → Env → World → Prop
def okX : Exit → Prop
  | .panic _ => False
  | .outgrown => False
  | _ => True
def lift (n : Nat) (Q : Post) : Exit → Act → World → Prop := fun x a w => ∃ e, Fr n e a ∧ okX x ∧ Q x e w
def W (P : Program) (n : Nat) (c : Code) (Q : Post) (e : Env) (w : World) : Prop := ∀ a, Fr n e a → c.wp P (lift n Q) a w

def andThen (K : Env → World → Prop) (Q : Post) : Post
  | .normal, e, w => K e w
  | x, e, w => Q x e w
def inBlk (id : Nat) (Q : Post) : Post
  | .exit i, e, w => if i = id then Q .normal e w else Q (.exit i) e w
  | x, e, w => Q x e w
theorem andThen_normal (K : Env → World → Prop) (Q : Post) (e : Env) (w : World) : andThen K Q .normal e w = K e w := rfl
theorem andThen_ret (K : Env → World → Prop) (Q : Post) (e : Env) (w : World) : andThen K Q .ret e w = Q .ret e w := rfl
theorem andThen_exit (K : Env → World → Prop) (Q : Post) (i : Nat) (e : Env) (w : World) : andThen K Q (.exit i) e w = Q (.exit i) e w := rfl
theorem andThen_goto (K : Env → World → Prop) (Q : Post) (i : Nat) (e : Env) (w : World) : andThen K Q (.goto i) e w = Q (.goto i) e w := rfl
theorem inBlk_normal (id : Nat) (Q : Post) (e : Env) (w : World) : inBlk id Q .normal e w = Q .normal e w := rfl
theorem inBlk_ret (id : Nat) (Q : Post) (e : Env) (w : World) : inBlk id Q .ret e w = Q .ret e w := rfl
theorem inBlk_exit (id i : Nat) (Q : Post) (e : Env) (w : World) : inBlk id Q (.exit i) e w = if i = id then Q .normal e w else Q (.exit i) e w := rfl
theorem inBlk_goto (id i : Nat) (Q : Post) (e : Env) (w : World) : inBlk id Q (.goto i) e w = Q (.goto i) e w := rfl

section
variable {P : Program} {n : Nat} {Q : Post} {e : Env} {w : World}

theorem W.mono {c : Code} {Q' : Post} (h : W P n c Q e w) (hq : ∀ x e w, Q x e w → Q' x e w) : W P n c Q' e w :=
  fun a ha => wp_mono (h a ha) fun _ _ _ ⟨e', h1, hx, h2⟩ => ⟨e', h1, hx, hq _ _ _ h2⟩
theorem W_seq {x y : Code} (h : W P n x (andThen (W P n y Q) Q) e w) : W P n (.seq x y) Q e w := fun a ha =>
  wp_seq (wp_mono (h a ha) fun ex a' w' ⟨e', h1, hx, h2⟩ => by
    cases ex with
    | normal => exact h2 a' h1
    | _ => exact ⟨e', h1, hx, h2⟩)
theorem W_skip (h : Q .normal e w) : W P n .skip Q e w := fun _ ha => wp_skip ⟨e, ha, trivial, h⟩
theorem W_label {l : Nat} (h : Q .normal e w) : W P n (.label l) Q e w := fun _ ha => wp_label ⟨e, ha, trivial, h⟩
theorem W_exit {id : Nat} (h : Q (.exit id) e w) : W P n (.exit id) Q e w := fun _ ha => wp_exit ⟨e, ha, trivial, h⟩
theorem W_goto {l : Nat} (h : Q (.goto l) e w) : W P n (.goto l) Q e w := fun _ ha => wp_goto ⟨e, ha, trivial, h⟩
theorem W_ret (h : Q .ret e w) : W P n .ret Q e w := fun _ ha => wp_ret ⟨e, ha, trivial, h⟩
theorem W_cond {c : Operand} {x y : Code} {t : Bool} (hc : ev e c = .bool t) (h : W P n (if t then x else y) Q e w) : W P n (.cond c x y) Q e w :=
  fun a ha => wp_cond (by rw [ha.eval]; exact hc) (h a ha)
theorem W_true {c : Operand} {x y : Code} (hc : ev e c = .bool true) (h : W P n x Q e w) : W P n (.cond c x y) Q e w := W_cond hc h
theorem W_false {c : Operand} {x y : Code} (hc : ev e c = .bool false) (h : W P n y Q e w) : W P n (.cond c x y) Q e w := W_cond hc h
theorem W_block {id : Nat} {c : Code} (h : W P n c (inBlk id Q) e w) : W P n (.block id c) Q e w := fun a ha =>
  wp_block (wp_mono (h a ha) fun ex a' w' ⟨e', h1, hx, h2⟩ => by
    cases ex with
    | exit i =>
      show if i = id then lift n Q .normal a' w' else lift n Q (.exit i) a' w'
      have h2' : if i = id then Q .normal e' w' else Q (.exit i) e' w' := h2
      split
      · rename_i hi; rw [if_pos hi] at h2'; exact ⟨e', h1, trivial, h2'⟩
      · rename_i hi; rw [if_neg hi] at h2'; exact ⟨e', h1, trivial, h2'⟩
    | _ => exact ⟨e', h1, hx, h2⟩)
/-- A loop: what holds at every round's head, and a number that every round lowers. -/
theorem W_loop {c : Code} (I : Nat → Env → World → Prop) (m : Nat) (h0 : I m e w)
    (round : ∀ k e w, I k e w → W P n c (andThen (fun e' w' => ∃ k', k' < k ∧ I k' e' w') Q) e w) : W P n (.loop c) Q e w := by
  intro a ha b k cs
  have key : ∀ m e w, I m e w → ∀ a, Fr n e a →
      ∃ ex a' w', lift n Q ex a' w' ∧ Arrives P (lone (b.at a (.code c :: .inLoop c :: k)) cs w) b k cs ex a' w' := by
    intro m
    induction m using Nat.strongRecOn with
    | _ m ih =>
      intro e w hI a ha
      obtain ⟨ex, a1, w1, ⟨e1, hf1, hx, hq⟩, harr⟩ := round m e w hI a ha b (.inLoop c :: k) cs
      cases ex with
      | normal =>
        obtain ⟨k', hk', hI'⟩ := hq
        obtain ⟨e2, a2, w2, hq2, harr2⟩ := ih k' hk' e1 w1 hI' a1 hf1
        exact ⟨e2, a2, w2, hq2, .of_steps (Steps.trans harr (.one step_inLoop)) harr2⟩
      | exit id => exact ⟨_, a1, w1, ⟨e1, hf1, hx, hq⟩, .pass (x := .inLoop c) rfl (fun _ _ => .inl (by simp)) harr⟩
      | goto l => exact ⟨_, a1, w1, ⟨e1, hf1, hx, hq⟩, .pass (x := .inLoop c) rfl (fun _ _ => .inl (by simp)) harr⟩
      | ret => exact ⟨_, a1, w1, ⟨e1, hf1, hx, hq⟩, .pass (x := .inLoop c) rfl (fun _ _ => .inl (by simp)) harr⟩
      | panic ch => exact ⟨_, a1, w1, ⟨e1, hf1, hx, hq⟩, .pass (x := .inLoop c) rfl (fun _ _ => .inl (by simp)) harr⟩
      | outgrown => exact ⟨_, a1, w1, ⟨e1, hf1, hx, hq⟩, .pass (x := .inLoop c) rfl (fun _ _ => .inl (by simp)) harr⟩
  obtain ⟨ex, a', w', hq, harr⟩ := key m e w h0 a ha
  exact ⟨ex, a', w', hq, .of_steps (.one step_loop) harr⟩
/-- What a region leaves, the rest behind a variable. -/
def nrm (K : Env → World → Prop) : Post
  | .normal, e, w => K e w
  | _, _, _ => False
theorem nrm_normal (K : Env → World → Prop) (e : Env) (w : World) : nrm K .normal e w = K e w := id (Eq.trans rfl rfl)
theorem W_sq {x y : Code} (h : ∀ K : Env → World → Prop, (∀ e w, W P n y Q e w → K e w) → W P n x (nrm K) e w) : W P n (.seq x y) Q e w :=
  W_seq ((h _ fun _ _ h => h).mono fun ex _ _ hh => by cases ex <;> first | exact hh | exact hh.elim)
theorem W_rg {x : Code} (h : ∀ K : Env → World → Prop, (∀ e w, Q .normal e w → K e w) → W P n x (nrm K) e w) : W P n x Q e w :=
  (h _ fun _ _ h => h).mono fun ex _ _ hh => by cases ex <;> first | exact hh | exact hh.elim
/-- Only the slots that are named again are kept. -/
theorem W_keep (ks : List Nat) {c : Code} (h : ∀ e', (∀ k ∈ ks, e' k = e k) → W P n c Q e' w) : W P n c Q e w := h e fun _ _ => rfl
end
end Go.Proofs.Ytdffddiaoheklaa
