/-
  Sorted lists over a strict total order of ranks: where a key lies, setting, finding and deleting. Plain lists; no program. No condition.
-/
set_option linter.unusedSimpArgs false
set_option linter.unusedVariables false
namespace Go.Proofs.Ytdffddiaoheklaa

/-- A strict total order, as a test. -/
structure SOrd (R : Type) where
  lt : R → R → Bool
  irr : ∀ a, lt a a = false
  tr : ∀ a b c, lt a b = true → lt b c = true → lt a c = true
  tot : ∀ a b, lt a b = false → lt b a = false → a = b

theorem SOrd.asym {R : Type} (O : SOrd R) {a b : R} (h : O.lt a b = true) : O.lt b a = false := by
  cases hb : O.lt b a with
  | false => rfl
  | true => have := O.tr a b a h hb; rw [O.irr] at this; cases this
theorem SOrd.le_lt {R : Type} (O : SOrd R) {a b c : R} (h : O.lt b a = false) (h2 : O.lt b c = true) : O.lt a c = true := by
  cases hab : O.lt a b with
  | true => exact O.tr _ _ _ hab h2
  | false => rw [O.tot a b hab h]; exact h2
theorem SOrd.lt_le {R : Type} (O : SOrd R) {a b c : R} (h : O.lt a b = true) (h2 : O.lt c b = false) : O.lt a c = true := by
  cases hbc : O.lt b c with
  | true => exact O.tr _ _ _ h hbc
  | false => rw [← O.tot b c hbc h2]; exact h

def intOrd : SOrd Int where
  lt a b := decide (a < b)
  irr a := by simp
  tr a b c h1 h2 := by simp at *; omega
  tot a b h1 h2 := by simp at *; omega

section
variable {α R : Type} (O : SOrd R) (κ : α → R)

/-- Strictly ascending. -/
def Asc (xs : List α) : Prop := xs.Pairwise fun a b => O.lt (κ a) (κ b) = true
/-- How many items at the beginning come before a rank. -/
def lb (q : R) : List α → Nat
  | [] => 0
  | x :: xs => if O.lt (κ x) q = true then lb q xs + 1 else 0
/-- Is there an item of this rank at the place where it belongs? -/
def hit (q : R) (xs : List α) : Bool :=
  match xs[lb O κ q xs]? with
  | some x => !O.lt q (κ x)
  | none => false
def put (x : α) (xs : List α) : List α := xs.take (lb O κ (κ x) xs) ++ x :: xs.drop (lb O κ (κ x) xs + if hit O κ (κ x) xs then 1 else 0)
def at? (q : R) (xs : List α) : Option α := if hit O κ q xs then xs[lb O κ q xs]? else none
def del (q : R) (xs : List α) : List α := if hit O κ q xs then xs.eraseIdx (lb O κ q xs) else xs

theorem lb_le (q : R) : ∀ xs : List α, lb O κ q xs ≤ xs.length
  | [] => Nat.le_refl _
  | x :: xs => by simp only [lb]; split <;> simp; exact lb_le q xs
theorem lb_append_of_lt {q : R} : ∀ {xs : List α} (ys : List α), (∀ x ∈ xs, O.lt (κ x) q = true) → lb O κ q (xs ++ ys) = xs.length + lb O κ q ys
  | [], ys, _ => by simp
  | x :: xs, ys, h => by
    simp only [List.cons_append, lb, h x (by simp), if_true, List.length_cons]
    rw [lb_append_of_lt ys fun y hy => h y (by simp [hy])]; omega
theorem lb_append_of_ge {q : R} : ∀ {xs : List α} (ys : List α), (∀ y ∈ ys.head?, O.lt (κ y) q = false) → lb O κ q (xs ++ ys) = lb O κ q xs
  | [], [], _ => rfl
  | [], y :: ys, h => by simp [lb, h y (by simp)]
  | x :: xs, ys, h => by simp only [List.cons_append, lb]; rw [lb_append_of_ge ys h]
theorem lb_eq {q : R} {xs : List α} {i : Nat} (hlt : ∀ x ∈ xs.take i, O.lt (κ x) q = true) (hge : ∀ x, xs[i]? = some x → O.lt (κ x) q = false) (hi : i ≤ xs.length) : lb O κ q xs = i := by
  have h := lb_append_of_lt O κ (q := q) (xs := xs.take i) (xs.drop i) hlt
  rw [List.take_append_drop] at h
  rw [h]
  have : lb O κ q (xs.drop i) = 0 := by
    cases hd : xs.drop i with
    | nil => rfl
    | cons y ys =>
      have : xs[i]? = some y := by
        have := congrArg (fun l : List α => l[0]?) hd
        simpa using this
      simp [lb, hge y this]
  rw [this, List.length_take]; omega
theorem lb_take_lt {q : R} : ∀ {xs : List α}, ∀ x ∈ xs.take (lb O κ q xs), O.lt (κ x) q = true
  | [], x, h => by simp at h
  | y :: ys, x, h => by
    simp only [lb] at h
    split at h
    · rename_i hy
      rw [List.take_succ_cons] at h
      rcases List.mem_cons.1 h with rfl | h
      · exact hy
      · exact lb_take_lt x h
    · simp at h
theorem lb_ge {q : R} : ∀ {xs : List α} {x : α}, xs[lb O κ q xs]? = some x → O.lt (κ x) q = false
  | [], x, h => by simp at h
  | y :: ys, x, h => by
    simp only [lb] at h
    split at h
    · rename_i hy
      exact lb_ge (by simpa using h)
    · rename_i hy
      simp at h; subst h
      simpa using hy
theorem Asc.append {xs ys : List α} : Asc O κ (xs ++ ys) ↔ Asc O κ xs ∧ Asc O κ ys ∧ ∀ x ∈ xs, ∀ y ∈ ys, O.lt (κ x) (κ y) = true := by
  unfold Asc; exact List.pairwise_append
theorem Asc.drop_gt {xs : List α} (h : Asc O κ xs) {q : R} : ∀ x ∈ xs.drop (lb O κ q xs), O.lt (κ x) q = false := by
  intro x hx
  cases hd : xs.drop (lb O κ q xs) with
  | nil => rw [hd] at hx; cases hx
  | cons y ys =>
    have h0 : xs[lb O κ q xs]? = some y := by
      have := congrArg (fun l : List α => l[0]?) hd
      simpa using this
    have hy := lb_ge O κ h0
    rw [hd] at hx
    rcases List.mem_cons.1 hx with rfl | hx
    · exact hy
    · have ha : Asc O κ (xs.drop (lb O κ q xs)) := List.Pairwise.sublist (List.drop_sublist _ _) h
      rw [hd] at ha
      have hlt := (List.pairwise_cons.1 ha).1 x hx
      cases hq : O.lt (κ x) q with
      | false => rfl
      | true => have := O.tr _ _ _ hlt hq; rw [hy] at this; cases this

/-- The middle of a list decides. -/
theorem lb_mid {q : R} {a m c : List α} (ha : ∀ x ∈ a, O.lt (κ x) q = true) (hc : ∀ x ∈ c.head?, O.lt (κ x) q = false) : lb O κ q (a ++ m ++ c) = a.length + lb O κ q m := by
  rw [lb_append_of_ge O κ c hc, lb_append_of_lt O κ m ha]
theorem hit_mid {q : R} {a m c : List α} (ha : ∀ x ∈ a, O.lt (κ x) q = true) (hc : ∀ x ∈ c.head?, O.lt q (κ x) = true) : hit O κ q (a ++ m ++ c) = hit O κ q m := by
  have hc' : ∀ x ∈ c.head?, O.lt (κ x) q = false := fun x hx => O.asym (hc x hx)
  unfold hit
  rw [lb_mid O κ ha hc', List.append_assoc, List.getElem?_append_right (by omega), Nat.add_sub_cancel_left]
  by_cases hlt : lb O κ q m < m.length
  · rw [List.getElem?_append_left hlt]
  · have : lb O κ q m = m.length := by have := lb_le O κ q m; omega
    rw [List.getElem?_append_right (by omega), this]
    simp only [Nat.sub_self, List.getElem?_eq_none (Nat.le_refl _)]
    cases c with
    | nil => rfl
    | cons y ys => simp [hc y (by simp)]
theorem put_mid {x : α} {a m c : List α} (ha : ∀ y ∈ a, O.lt (κ y) (κ x) = true) (hc : ∀ y ∈ c.head?, O.lt (κ x) (κ y) = true) : put O κ x (a ++ m ++ c) = a ++ put O κ x m ++ c := by
  have hc' : ∀ y ∈ c.head?, O.lt (κ y) (κ x) = false := fun y hy => O.asym (hc y hy)
  have hl := lb_le O κ (κ x) m
  unfold put
  rw [hit_mid O κ ha hc, lb_mid O κ ha hc']
  have h1 : (a ++ m ++ c).take (a.length + lb O κ (κ x) m) = a ++ m.take (lb O κ (κ x) m) := by
    rw [List.append_assoc, List.take_append, List.take_of_length_le (by omega), Nat.add_sub_cancel_left, List.take_append_of_le_length hl]
  have hle : lb O κ (κ x) m + (if hit O κ (κ x) m then 1 else 0) ≤ m.length := by
    split
    · rename_i hh
      unfold hit at hh
      cases hg : m[lb O κ (κ x) m]? with
      | none => rw [hg] at hh; cases hh
      | some y => have := (List.getElem?_eq_some_iff.1 hg).1; omega
    · omega
  have h2 : (a ++ m ++ c).drop (a.length + lb O κ (κ x) m + if hit O κ (κ x) m then 1 else 0) = m.drop (lb O κ (κ x) m + if hit O κ (κ x) m then 1 else 0) ++ c := by
    rw [List.append_assoc, Nat.add_assoc, List.drop_append, List.drop_eq_nil_of_le (by omega), Nat.add_sub_cancel_left, List.nil_append, List.drop_append_of_le_length hle]
  rw [h1, h2]
  simp
theorem put_asc {x : α} {xs : List α} (h : Asc O κ xs) : Asc O κ (put O κ x xs) := by
  unfold put
  have hd := h.drop_gt O κ (q := κ x)
  have ht := lb_take_lt O κ (q := κ x) (xs := xs)
  have hgt : ∀ y ∈ xs.drop (lb O κ (κ x) xs + if hit O κ (κ x) xs then 1 else 0), O.lt (κ x) (κ y) = true := by
    intro y hy
    have hy' : y ∈ xs.drop (lb O κ (κ x) xs) := by
      split at hy
      · rw [← List.drop_drop] at hy; exact List.mem_of_mem_drop hy
      · simpa using hy
    have h1 := hd y hy'
    cases hxy : O.lt (κ x) (κ y) with
    | true => rfl
    | false =>
      exfalso
      have he := O.tot _ _ h1 hxy
      cases hdr : xs.drop (lb O κ (κ x) xs) with
      | nil => rw [hdr] at hy'; cases hy'
      | cons z zs =>
        have h0 : xs[lb O κ (κ x) xs]? = some z := by
          have := congrArg (fun l : List α => l[0]?) hdr
          simpa using this
        have ha : Asc O κ (z :: zs) := hdr ▸ List.Pairwise.sublist (List.drop_sublist _ _) h
        by_cases hh : hit O κ (κ x) xs = true
        · rw [if_pos hh, ← List.drop_drop, hdr] at hy
          have hy2 : y ∈ zs := by simpa using hy
          have hzy := (List.pairwise_cons.1 ha).1 y hy2
          have hz := lb_ge O κ h0
          have hzx : O.lt (κ x) (κ z) = false := by unfold hit at hh; rw [h0] at hh; simpa using hh
          rw [← O.tot _ _ hz hzx] at he
          rw [he] at hzy; rw [O.irr] at hzy; cases hzy
        · rw [hdr] at hy'
          have hzx : O.lt (κ x) (κ z) = true := by
            unfold hit at hh; rw [h0] at hh; simpa using hh
          rcases List.mem_cons.1 hy' with rfl | hy2
          · rw [hxy] at hzx; cases hzx
          · have := O.tr _ _ _ hzx ((List.pairwise_cons.1 ha).1 y hy2); rw [hxy] at this; cases this
  refine (Asc.append O κ).2 ⟨List.Pairwise.sublist (List.take_sublist _ _) h, List.pairwise_cons.2 ⟨hgt, List.Pairwise.sublist (List.drop_sublist _ _) h⟩, fun a ha b hb => ?_⟩
  rcases List.mem_cons.1 hb with rfl | hb
  · exact ht a ha
  · exact O.tr _ _ _ (ht a ha) (hgt b hb)
theorem put_length (x : α) (xs : List α) : (put O κ x xs).length = xs.length + if hit O κ (κ x) xs then 0 else 1 := by
  have hl := lb_le O κ (κ x) xs
  unfold put
  by_cases hh : hit O κ (κ x) xs = true
  · have : lb O κ (κ x) xs < xs.length := by
      unfold hit at hh
      cases hg : xs[lb O κ (κ x) xs]? with
      | none => rw [hg] at hh; cases hh
      | some y => exact (List.getElem?_eq_some_iff.1 hg).1
    simp [hh]; omega
  · simp [hh]; omega
end
end Go.Proofs.Ytdffddiaoheklaa
