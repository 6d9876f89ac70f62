/-
  Lists woven from the children's lists and a node's own items: what is changed at one place. Plain lists; no program. No condition.
-/
import Derived.Test.YtdffddiaoheklaaTree
set_option linter.unusedSimpArgs false
set_option linter.unusedVariables false
namespace Go.Proofs.Ytdffddiaoheklaa
section
variable {α : Type}
theorem weave_nil (c : List α) : weave [c] [] = c := rfl
theorem weave_cons (c : List α) (cs : List (List α)) (k : α) (ks : List α) : weave (c :: cs) (k :: ks) = c ++ k :: weave cs ks := rfl
/-- What lies ahead of and behind one child. -/
structure WAt (cs : List (List α)) (ks : List α) (i : Nat) (A C : List α) : Prop where
  set : ∀ c', weave (cs.set i c') ks = A ++ c' ++ C
  two : ∀ cl md cr, weave (cs.take i ++ cl :: cr :: cs.drop (i + 1)) (ks.take i ++ md :: ks.drop i) = A ++ (cl ++ md :: cr) ++ C
  left : A = [] ∧ i = 0 ∨ ∃ A' k, 0 < i ∧ ks[i - 1]? = some k ∧ A = A' ++ [k]
  right : C = [] ∧ i = ks.length ∨ ∃ k C', ks[i]? = some k ∧ C = k :: C'
theorem weave_at : ∀ (i : Nat) (cs : List (List α)) (ks : List α), cs.length = ks.length + 1 → i ≤ ks.length → ∃ A C, WAt cs ks i A C
  | 0, [], ks, h, _ => by simp at h
  | 0, c :: cs, [], h, _ => by
    have : cs = [] := List.eq_nil_of_length_eq_zero (by simpa using h)
    subst this
    exact ⟨[], [], fun c' => by simp [weave], fun cl md cr => by simp [weave], .inl ⟨rfl, rfl⟩, .inl ⟨rfl, rfl⟩⟩
  | 0, c :: cs, k :: ks, h, _ => ⟨[], k :: weave cs ks, fun c' => by simp [weave], fun cl md cr => by simp [weave], .inl ⟨rfl, rfl⟩, .inr ⟨k, _, rfl, rfl⟩⟩
  | i + 1, [], ks, h, _ => by simp at h
  | i + 1, c :: cs, [], _, hi => by simp at hi
  | i + 1, c :: cs, k :: ks, h, hi => by
    obtain ⟨A, C, hw⟩ := weave_at i cs ks (by simpa using h) (by simpa using hi)
    refine ⟨c ++ k :: A, C, fun c' => ?_, fun cl md cr => ?_, .inr ?_, ?_⟩
    · rw [List.set_cons_succ, weave_cons, hw.set]; simp
    · rw [List.take_succ_cons, List.take_succ_cons, List.drop_succ_cons, List.drop_succ_cons, List.cons_append, List.cons_append, weave_cons, hw.two]; simp
    · rcases hw.left with ⟨rfl, rfl⟩ | ⟨A', k', h0, hk, rfl⟩
      · exact ⟨c, k, by omega, rfl, rfl⟩
      · refine ⟨c ++ k :: A', k', by omega, ?_, by simp⟩
        rw [show i + 1 - 1 = (i - 1) + 1 by omega]; simpa using hk
    · rcases hw.right with ⟨rfl, rfl⟩ | ⟨k', C', hk, rfl⟩
      · exact .inl ⟨rfl, rfl⟩
      · exact .inr ⟨k', C', by simpa using hk, rfl⟩
theorem WAt.eq {cs : List (List α)} {ks : List α} {i : Nat} {A C : List α} (h : WAt cs ks i A C) {c : List α} (hc : cs[i]? = some c) : weave cs ks = A ++ c ++ C := by
  have := h.set c
  have hset : cs.set i c = cs := by
    obtain ⟨h1, h2⟩ := List.getElem?_eq_some_iff.1 hc
    rw [← h2]; exact List.set_getElem_self h1
  rwa [hset] at this
/-- One of the node's own items. -/
theorem weave_key : ∀ (i : Nat) (cs : List (List α)) (ks : List α) (k : α), cs.length = ks.length + 1 → ks[i]? = some k → ∃ A C, ∀ k', weave cs (ks.set i k') = A ++ k' :: C
  | _, cs, [], k, _, hk => by simp at hk
  | _, [], _ :: _, k, h, _ => by simp at h
  | 0, c :: cs, k0 :: ks, k, h, _ => ⟨c, weave cs ks, fun k' => rfl⟩
  | i + 1, c :: cs, k0 :: ks, k, h, hk => by
    obtain ⟨A, C, hw⟩ := weave_key i cs ks k (by simpa using h) (by simpa using hk)
    exact ⟨c ++ k0 :: A, C, fun k' => by rw [List.set_cons_succ, weave_cons, hw]; simp⟩
theorem weave_sub : ∀ (cs : List (List α)) (ks : List α), cs.length = ks.length + 1 → ks.Sublist (weave cs ks)
  | cs, [], _ => List.nil_sublist _
  | [], _ :: _, h => by simp at h
  | c :: cs, k :: ks, h => by
    rw [weave_cons]
    exact ((weave_sub cs ks (by simpa using h)).cons_cons k).trans (List.sublist_append_right _ _)
theorem weave_length : ∀ (cs : List (List α)) (ks : List α), cs.length = ks.length + 1 → (weave cs ks).length = ks.length + (cs.map List.length).sum
  | [c], [], _ => by simp [weave]
  | [], _, h => by simp at h
  | c :: d :: cs, [], h => by simp at h
  | c :: cs, k :: ks, h => by
    rw [weave_cons, List.length_append, List.length_cons, weave_length cs ks (by simpa using h)]; simp; omega
variable {R : Type} (O : SOrd R) (κ : α → R)
theorem asc_left {A : List α} {k : α} (h : Asc O κ (A ++ [k])) {q : R} (hk : O.lt (κ k) q = true) : ∀ y ∈ A ++ [k], O.lt (κ y) q = true := by
  intro y hy
  rcases List.mem_append.1 hy with hy | hy
  · exact O.tr _ _ _ (((Asc.append O κ).1 h).2.2 y hy k (by simp)) hk
  · have : y = k := by simpa using hy
    rw [this]; exact hk
/-- Where a key that is not among the node's own items belongs. -/
theorem WAt.mid {cs : List (List α)} {ks : List α} {i : Nat} {A C : List α} (h : WAt cs ks i A C) {c : List α} (hc : cs[i]? = some c) (ha : Asc O κ (weave cs ks)) {q : R} (hl : lb O κ q ks = i) (hh : hit O κ q ks = false) :
    (∀ y ∈ A, O.lt (κ y) q = true) ∧ (∀ y ∈ C.head?, O.lt q (κ y) = true) := by
  rw [h.eq hc] at ha
  constructor
  · rcases h.left with ⟨rfl, _⟩ | ⟨A', k, h0, hk, rfl⟩
    · intro y hy; simp at hy
    · refine asc_left O κ ((Asc.append O κ).1 ((Asc.append O κ).1 ha).1).1 ?_
      refine lb_take_lt O κ (xs := ks) k ?_
      rw [hl]
      exact List.mem_iff_getElem?.2 ⟨i - 1, by rw [List.getElem?_take, if_pos (by omega), hk]⟩
  · rcases h.right with ⟨rfl, _⟩ | ⟨k, C', hk, rfl⟩
    · intro y hy; simp at hy
    · intro y hy
      simp at hy; subst hy
      unfold hit at hh
      rw [hl, hk] at hh
      simpa using hh
/-- A key that is there. -/
theorem found_mid {A C : List α} {k : α} (ha : Asc O κ (A ++ k :: C)) : lb O κ (κ k) (A ++ k :: C) = A.length ∧ hit O κ (κ k) (A ++ k :: C) = true := by
  have h1 : lb O κ (κ k) (A ++ k :: C) = A.length := by
    rw [lb_append_of_lt O κ _ fun y hy => ((Asc.append O κ).1 ha).2.2 y hy k (by simp)]
    simp [lb, O.irr]
  refine ⟨h1, ?_⟩
  unfold hit
  rw [h1]
  simp [O.irr]
theorem put_found {A C : List α} {k x : α} (ha : Asc O κ (A ++ k :: C)) (hx : κ x = κ k) : put O κ x (A ++ k :: C) = A ++ x :: C := by
  obtain ⟨h1, h2⟩ := found_mid O κ ha
  unfold put
  rw [hx, h1, h2]
  simp
theorem at_found {A C : List α} {k x : α} (ha : Asc O κ (A ++ k :: C)) (hx : κ x = κ k) : at? O κ (κ x) (A ++ k :: C) = some k := by
  obtain ⟨h1, h2⟩ := found_mid O κ ha
  unfold at?
  rw [hx, h1, h2]
  simp
theorem hit_at {q : R} {ks : List α} (h : hit O κ q ks = true) : ∃ k, ks[lb O κ q ks]? = some k ∧ q = κ k := by
  unfold hit at h
  cases hk : ks[lb O κ q ks]? with
  | none => rw [hk] at h; cases h
  | some k =>
    rw [hk] at h
    exact ⟨k, rfl, O.tot _ _ (by simpa using h) (lb_ge O κ hk)⟩
theorem at_mid {q : R} {a m c : List α} (ha : ∀ x ∈ a, O.lt (κ x) q = true) (hc : ∀ x ∈ c.head?, O.lt q (κ x) = true) : at? O κ q (a ++ m ++ c) = at? O κ q m := by
  have hc' : ∀ x ∈ c.head?, O.lt (κ x) q = false := fun x hx => O.asym (hc x hx)
  unfold at?
  rw [hit_mid O κ ha hc, lb_mid O κ ha hc']
  split
  · rename_i hh
    obtain ⟨k, hk, _⟩ := hit_at O κ hh
    have hlt := (List.getElem?_eq_some_iff.1 hk).1
    rw [List.append_assoc, List.getElem?_append_right (by omega), Nat.add_sub_cancel_left, List.getElem?_append_left hlt]
  · rfl
/-- Setting a key that is not there, in a leaf. -/
theorem put_leaf {x : α} {ks : List α} (hh : hit O κ (κ x) ks = false) : put O κ x ks = ks.take (lb O κ (κ x) ks) ++ x :: ks.drop (lb O κ (κ x) ks) := by
  unfold put; rw [hh]; simp
theorem put_set {x : α} {ks : List α} (hh : hit O κ (κ x) ks = true) : put O κ x ks = ks.set (lb O κ (κ x) ks) x := by
  obtain ⟨k, hk, _⟩ := hit_at O κ hh
  unfold put; rw [hh]
  rw [List.set_eq_take_append_cons_drop, if_pos (List.getElem?_eq_some_iff.1 hk).1]
  simp
end
end Go.Proofs.Ytdffddiaoheklaa
