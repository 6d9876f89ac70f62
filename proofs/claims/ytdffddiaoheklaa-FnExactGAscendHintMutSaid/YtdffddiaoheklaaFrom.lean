/-
  What lies from a key on in a list that is woven out of children and keys. Plain lists; no program. No condition.
-/
import Derived.Test.YtdffddiaoheklaaWeave
import Derived.Test.YtdffddiaoheklaaHand
import Derived.Test.YtdffddiaoheklaaOrd
set_option linter.unusedSimpArgs false
set_option linter.unusedVariables false
namespace Go.Proofs.Ytdffddiaoheklaa
open Go
section
variable {α : Type}
/-- What lies behind a child. -/
def tl (cs : List (List α)) (ks : List α) (i : Nat) : List α := weave ([] :: cs.drop (i + 1)) (ks.drop i)
theorem weave_hd (c : List α) (cs : List (List α)) (ks : List α) : weave (c :: cs) ks = c ++ weave ([] :: cs) ks := by cases ks <;> simp [weave]
theorem tl_end {cs : List (List α)} {ks : List α} : tl cs ks ks.length = [] := by unfold tl; rw [List.drop_length]; rfl
theorem tl_step {cs : List (List α)} {ks : List α} {i : Nat} {c : List α} {k : α} (hc : cs[i + 1]? = some c) (hk : ks[i]? = some k) : tl cs ks i = k :: (c ++ tl cs ks (i + 1)) := by
  have h1 : cs.drop (i + 1) = c :: cs.drop (i + 1 + 1) := by
    rw [List.drop_eq_getElem_cons (List.getElem?_eq_some_iff.1 hc).1, (List.getElem?_eq_some_iff.1 hc).2]
  have h2 : ks.drop i = k :: ks.drop (i + 1) := by
    rw [List.drop_eq_getElem_cons (List.getElem?_eq_some_iff.1 hk).1, (List.getElem?_eq_some_iff.1 hk).2]
  unfold tl
  rw [h1, h2, weave_cons, weave_hd]; rfl
theorem weave_tl : ∀ (i : Nat) (cs : List (List α)) (ks : List α), cs.length = ks.length + 1 → i ≤ ks.length → ∃ A, WAt cs ks i A (tl cs ks i)
  | 0, [], ks, h, _ => by simp at h
  | 0, c :: cs, [], h, _ => by
    have : cs = [] := List.eq_nil_of_length_eq_zero (by simpa using h)
    subst this
    exact ⟨[], fun c' => by simp [weave, tl], fun cl md cr => by simp [weave, tl], .inl ⟨rfl, rfl⟩, .inl ⟨rfl, rfl⟩⟩
  | 0, c :: cs, k :: ks, h, _ => ⟨[], fun c' => by simp [weave, tl], fun cl md cr => by simp [weave, tl], .inl ⟨rfl, rfl⟩, .inr ⟨k, weave cs ks, rfl, rfl⟩⟩
  | i + 1, [], ks, h, _ => by simp at h
  | i + 1, c :: cs, [], _, hi => by simp at hi
  | i + 1, c :: cs, k :: ks, h, hi => by
    obtain ⟨A, hw⟩ := weave_tl i cs ks (by simpa using h) (by simpa using hi)
    have he : tl (c :: cs) (k :: ks) (i + 1) = tl cs ks i := rfl
    rw [he]
    refine ⟨c ++ k :: A, fun c' => ?_, fun cl md cr => ?_, .inr ?_, ?_⟩
    · rw [List.set_cons_succ, weave_cons, hw.set]; simp
    · rw [List.take_succ_cons, List.take_succ_cons, List.drop_succ_cons, List.drop_succ_cons, List.cons_append, List.cons_append, weave_cons, hw.two]; simp
    · rcases hw.left with ⟨rfl, rfl⟩ | ⟨A', k', h0, hk, rfl⟩
      · exact ⟨c, k, by omega, rfl, rfl⟩
      · refine ⟨c ++ k :: A', k', by omega, ?_, by simp⟩
        rw [show i + 1 - 1 = (i - 1) + 1 by omega]; simpa using hk
    · rcases hw.right with ⟨h1, rfl⟩ | ⟨k', C', hk, h1⟩
      · exact .inl ⟨h1, rfl⟩
      · exact .inr ⟨k', C', by simpa using hk, h1⟩
theorem tl_length {cs : List (List α)} {ks : List α} {i : Nat} {c : List α} (hl : cs.length = ks.length + 1) (hi : i ≤ ks.length) (hc : cs[i]? = some c) : c.length + (tl cs ks i).length ≤ (weave cs ks).length := by
  obtain ⟨A, hw⟩ := weave_tl i cs ks hl hi
  rw [hw.eq hc]; simp only [List.length_append]; omega
variable {R : Type} (O : SOrd R) (κ : α → R)
/-- From a key on, that is among the node's own. -/
theorem from_hit {cs : List (List α)} {ks : List α} {i : Nat} {c : List α} {q : R} (hl : cs.length = ks.length + 1) (hc : cs[i]? = some c) (ha : Asc O κ (weave cs ks)) (hi : lb O κ q ks = i) (hh : hit O κ q ks = true) :
    (weave cs ks).drop (lb O κ q (weave cs ks)) = tl cs ks i := by
  obtain ⟨k, hk1, rfl⟩ := hit_at O κ hh
  rw [hi] at hk1
  have hlt := (List.getElem?_eq_some_iff.1 hk1).1
  obtain ⟨A, hw⟩ := weave_tl i cs ks hl (by omega)
  rw [hw.eq hc] at ha ⊢
  obtain ⟨C, hC⟩ : ∃ C, tl cs ks i = k :: C := by
    rcases hw.right with ⟨_, h⟩ | ⟨k', C', h1, h2⟩
    · omega
    · rw [hk1] at h1; cases h1; exact ⟨C', h2⟩
  rw [hC] at ha ⊢
  rw [(found_mid O κ ha).1, List.drop_left]
/-- From a key on, that is not among the node's own. -/
theorem from_miss {cs : List (List α)} {ks : List α} {i : Nat} {c : List α} {q : R} (hl : cs.length = ks.length + 1) (hc : cs[i]? = some c) (ha : Asc O κ (weave cs ks)) (hi : lb O κ q ks = i) (hh : hit O κ q ks = false) :
    (weave cs ks).drop (lb O κ q (weave cs ks)) = c.drop (lb O κ q c) ++ tl cs ks i := by
  have hlt := lb_le O κ q ks
  obtain ⟨A, hw⟩ := weave_tl i cs ks hl (by omega)
  obtain ⟨h1, h2⟩ := hw.mid O κ hc ha hi hh
  have hle := lb_le O κ q c
  rw [hw.eq hc, lb_mid O κ h1 (fun x hx => O.asym (h2 x hx)), List.append_assoc, List.drop_append, List.drop_eq_nil_of_le (by omega), Nat.add_sub_cancel_left, List.nil_append, List.drop_append_of_le_length hle]
end
end Go.Proofs.Ytdffddiaoheklaa
