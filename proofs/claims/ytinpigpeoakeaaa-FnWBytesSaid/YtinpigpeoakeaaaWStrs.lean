/-
  Strings byte by byte; whether a list of strings contains one; the keys of a tree. No condition.
-/
import Derived.Test.YtinpigpeoakeaaaWSpec
set_option linter.unusedSimpArgs false
set_option linter.unusedVariables false
namespace Go.Proofs.Ytinpigpeoakeaaa
open Go Go.Proofs
/-- Behind a beginning in common. -/
theorem bl_drop : ∀ (n : Nat) (a b : List UInt8), n ≤ a.length → n ≤ b.length → (∀ j, j < n → a[j]? = b[j]?) → Op.bytesLess a b = Op.bytesLess (a.drop n) (b.drop n)
  | 0, _, _, _, _, _ => by simp
  | n + 1, [], _, h, _, _ => by simp at h
  | n + 1, _ :: _, [], _, h, _ => by simp at h
  | n + 1, x :: a, y :: b, h1, h2, h => by
    have h0 : x = y := by simpa using h 0 (by omega)
    subst h0
    rw [List.drop_succ_cons, List.drop_succ_cons, ← bl_drop n a b (by simpa using h1) (by simpa using h2) fun j hj => by simpa using h (j + 1) (by omega)]
    have : ¬ x < x := UInt8.lt_irrefl x
    simp [Op.bytesLess, this]
theorem bl_end {a b : List UInt8} {n : Nat} (h1 : n ≤ a.length) (h2 : n ≤ b.length) (h : ∀ j, j < n → a[j]? = b[j]?) (hl : Op.bytesLess a b = true) : n < b.length := by
  rw [bl_drop n a b h1 h2 h] at hl
  rcases Nat.lt_or_ge n b.length with g | g
  · exact g
  · rw [List.drop_eq_nil_of_le g] at hl
    cases a.drop n <;> simp [Op.bytesLess] at hl
theorem bl_stop {a b : List UInt8} {n : Nat} {x y : UInt8} (h : ∀ j, j < n → a[j]? = b[j]?) (hl : Op.bytesLess a b = true) (hx : a[n]? = some x) (hy : b[n]? = some y) (hne : x ≠ y) : x < y := by
  obtain ⟨g1, g2⟩ := List.getElem?_eq_some_iff.1 hx
  obtain ⟨g3, g4⟩ := List.getElem?_eq_some_iff.1 hy
  rw [bl_drop n a b (by omega) (by omega) h, List.drop_eq_getElem_cons g1, List.drop_eq_getElem_cons g3, g2, g4] at hl
  simp only [Op.bytesLess, Bool.or_eq_true, decide_eq_true_eq, Bool.and_eq_true, beq_iff_eq] at hl
  rcases hl with hl | ⟨hl, _⟩
  · exact hl
  · exact absurd hl hne
/-- What is set has its key in the tree. -/
theorem put_mem_new (x : It) (xs : List It) : κ x ∈ (put O κ x xs).map κ := by unfold put; simp
theorem put_mem_old (x : It) {xs : List It} {k : Rk} (h : k ∈ xs.map κ) : k ∈ (put O κ x xs).map κ := by
  cases hh : hit O κ (κ x) xs with
  | true =>
    rw [put_set O κ hh]
    obtain ⟨y, hy, rfl⟩ := List.mem_map.1 h
    obtain ⟨j, hj⟩ := List.mem_iff_getElem?.1 hy
    obtain ⟨z, hz1, hz2⟩ := hit_at O κ hh
    by_cases hjl : j = lb O κ (κ x) xs
    · subst hjl
      rw [hj] at hz1
      cases hz1
      rw [← hz2]
      refine List.mem_map.2 ⟨x, List.mem_iff_getElem?.2 ⟨lb O κ (κ x) xs, ?_⟩, rfl⟩
      rw [List.getElem?_set_self (List.getElem?_eq_some_iff.1 hj).1]
    · refine List.mem_map.2 ⟨y, List.mem_iff_getElem?.2 ⟨j, ?_⟩, rfl⟩
      rw [List.getElem?_set_ne (fun h => hjl h.symm)]; exact hj
  | false =>
    rw [put_leaf O κ hh]
    have : k ∈ ((xs.take (lb O κ (κ x) xs) ++ xs.drop (lb O κ (κ x) xs))).map κ := by rw [List.take_append_drop]; exact h
    simp only [List.map_append, List.map_cons, List.mem_append, List.mem_cons] at this ⊢
    rcases this with h | h
    · exact .inl h
    · exact .inr (.inr h)
theorem mem_tree (l : List It) : ∀ x ∈ l, κ x ∈ (tree l).map κ := by
  have key : ∀ (l xs : List It), (∀ k ∈ xs.map κ, k ∈ (l.foldl (fun xs x => put O κ x xs) xs).map κ) ∧ ∀ x ∈ l, κ x ∈ (l.foldl (fun xs x => put O κ x xs) xs).map κ := by
    intro l
    induction l with
    | nil => intro xs; exact ⟨fun k h => h, fun x h => by cases h⟩
    | cons y l ih =>
      intro xs
      obtain ⟨h1, h2⟩ := ih (put O κ y xs)
      refine ⟨fun k h => h1 k (put_mem_old y h), fun x hx => ?_⟩
      rcases List.mem_cons.1 hx with rfl | hx
      · exact h1 _ (put_mem_new x xs)
      · exact h2 x hx
  exact (key l []).2
theorem tree_sub (l : List It) : ∀ y ∈ tree l, y ∈ l := by
  have hput : ∀ (x y : It) (xs : List It), y ∈ put O κ x xs → y = x ∨ y ∈ xs := fun x y xs h => by
    unfold put at h
    rcases List.mem_append.1 h with h | h
    · exact .inr (List.mem_of_mem_take h)
    · rcases List.mem_cons.1 h with h | h
      · exact .inl h
      · exact .inr (List.mem_of_mem_drop h)
  have key : ∀ (l xs : List It), ∀ y ∈ l.foldl (fun xs x => put O κ x xs) xs, y ∈ xs ∨ y ∈ l := by
    intro l
    induction l with
    | nil => intro xs y h; exact .inl h
    | cons z l ih =>
      intro xs y h
      rcases ih _ y h with h | h
      · rcases hput z y xs h with h | h
        · exact .inr (by rw [h]; simp)
        · exact .inl h
      · exact .inr (List.mem_cons_of_mem _ h)
  intro y h
  exact (key l [] y h).resolve_left (by simp)
theorem tree_asc (l : List It) : Asc O κ (tree l) := by
  have key : ∀ (l xs : List It), Asc O κ xs → Asc O κ (l.foldl (fun xs x => put O κ x xs) xs) := by
    intro l
    induction l with
    | nil => intro xs h; exact h
    | cons y l ih => intro xs h; exact ih _ (put_asc O κ h)
  exact key l [] List.Pairwise.nil
set_option maxHeartbeats 400000 in
set_option maxRecDepth 8000 in
theorem index_any (l : List ByteArray) (lv : Value) (q : ByteArray) (w : World) (hl : SlV w 1 lv l.length (flat Es l)) (hm : q ∈ l) (hbig : l.length ≤ 2147483647) :
    CallK Try.prog 26 #[lv, .string q] w fun v w' => (∃ i : Nat, v = .int .i64 i) ∧ w' = w := by
  obtain ⟨a, c, hlv⟩ := hl.shape
  refine calls_of_W [.tmp 4] Try.func26 rfl Try.ntmps26 Try.results26 (by simp) fun e he => ?_
  have e0 : e 0 = .slice a l.length c := by rw [← hlv]; exact he 0 _ rfl
  have e1 : e 1 = kV q := he 1 _ rfl
  clear he
  refine W_sq fun K0 hK => (W_text [true] (by kernel_rfl) ?_); simp only [↓List.toList_toArray, ↓rgd, ↓reduceIte, Nat.reduceEqDiff, rg, ow_26]
  refine hK _ _ ?_; clear hK K0
  refine W_seq (W_seq ?_)
  refine W_rg fun K0 hK => (W_text [true, true, true] (by kernel_rfl) ?_); simp only [↓List.toList_toArray, ↓rgd, ↓reduceIte, Nat.reduceEqDiff, rg, ow_26, e0]
  refine hK _ _ ?_; clear hK K0
  show W _ _ _ _ _ _
  refine W_block (W_loop (fun mm e w' => ∃ i : Nat, mm = l.length - i ∧ q ∈ l.drop i ∧ w' = w ∧ e 0 = .slice a l.length c ∧ e 1 = kV q ∧ e 7 = .int .i64 l.length ∧ e 8 = .int .i64 i) l.length ⟨0, rfl, by simpa using hm, rfl, ?_, ?_, ?_, ?_⟩ ?_)
  · simp only [upd_eq, Nat.reduceEqDiff, ↓reduceIte]; exact e0
  · simp only [upd_eq, Nat.reduceEqDiff, ↓reduceIte]; exact e1
  · simp only [upd_eq, Nat.reduceEqDiff, ↓reduceIte]
  · simp only [upd_eq, Nat.reduceEqDiff, ↓reduceIte]; rfl
  clear e0 e1 e
  rintro mm e w' ⟨i, rfl, hi, rfl, e0, e1, e7, e8⟩
  have hlt : i < l.length := by
    rcases Nat.lt_or_ge i l.length with g | g
    · exact g
    · rw [List.drop_eq_nil_of_le g] at hi; cases hi
  have ht := lt_tt i l.length hlt
  refine W_sq fun K0 hK => (W_text [true] (by kernel_rfl) ?_); simp only [↓List.toList_toArray, ↓rgd, ↓reduceIte, Nat.reduceEqDiff, rg, ow_26, e7, e8, ht]
  refine hK _ _ ?_; clear hK K0
  refine W_seq (W_true (by simp only [evt, evc, upd_eq, Nat.reduceEqDiff, ↓reduceIte, ntT, ntF] <;> rfl) (W_skip ?_))
  show W _ _ _ _ _ _
  obtain ⟨x, hx⟩ : ∃ x, l[i]? = some x := ⟨_, List.getElem?_eq_getElem hlt⟩
  obtain ⟨b, o, rfl, row⟩ := hl.at hlv hlt
  have ix : rd w' b (o + i) = some (kV x) := sV_at row hx
  refine W_seq (W_block ?_)
  refine W_sq fun K0 hK => (W_text [true, true] (by kernel_rfl) ?_); simp only [↓List.toList_toArray, ↓rgd, ↓reduceIte, Nat.reduceEqDiff, rg, ow_26, e8]
  refine hK _ _ ?_; clear hK K0
  refine W_sq fun K0 hK => (W_text [true, true, true, true, true, true] (by kernel_rfl) ?_); simp only [↓List.toList_toArray, ↓rgd, ↓reduceIte, Nat.reduceEqDiff, rg, ow_26, e0, e1, hlt, ix, kV_eq]
  refine hK _ _ ?_; clear hK K0
  by_cases hq : q = x
  · refine W_true (by simp only [evt, evc, upd_eq, Nat.reduceEqDiff, ↓reduceIte, ntT, ntF]; simp [hq]) ?_
    refine W_sq fun K0 hK => (W_text [true, true] (by kernel_rfl) ?_); simp only [↓List.toList_toArray, ↓rgd, ↓reduceIte, Nat.reduceEqDiff, rg, ow_26]
    refine hK _ _ ?_; clear hK K0
    refine W_ret ?_
    simp only [andThen_ret, inBlk_ret]
    exact endQ_1 (by simp only [upd_eq, Nat.reduceEqDiff, ↓reduceIte] <;> rfl) ⟨⟨i, rfl⟩, rfl⟩
  · refine W_false (by simp only [evt, evc, upd_eq, Nat.reduceEqDiff, ↓reduceIte, ntT, ntF]; simp [hq]) (W_skip ?_)
    simp only [inBlk_normal, andThen_normal]
    have q1 := wadd1 i (by omega)
    refine W_rg fun K0 hK => (W_text [true, true] (by kernel_rfl) ?_); simp only [↓List.toList_toArray, ↓rgd, ↓reduceIte, Nat.reduceEqDiff, rg, ow_26, e8, q1]
    refine hK _ _ ?_; clear hK K0
    refine ⟨_, ?_, i + 1, rfl, ?_, rfl, ?_, ?_, ?_, ?_⟩
    · omega
    · rw [List.drop_eq_getElem_cons hlt, (List.getElem?_eq_some_iff.1 hx).2] at hi
      exact (List.mem_cons.1 hi).resolve_left hq
    · simp only [upd_eq, Nat.reduceEqDiff, ↓reduceIte]; exact e0
    · simp only [upd_eq, Nat.reduceEqDiff, ↓reduceIte]; exact e1
    · simp only [upd_eq, Nat.reduceEqDiff, ↓reduceIte]; exact e7
    · simp only [upd_eq, Nat.reduceEqDiff, ↓reduceIte]
set_option maxHeartbeats 400000 in
set_option maxRecDepth 8000 in
theorem contains_any (l : List ByteArray) (lv : Value) (q : ByteArray) (w : World) (hl : SlV w 1 lv l.length (flat Es l)) (hm : q ∈ l) (hbig : l.length ≤ 2147483647) :
    CallK Try.prog 15 #[lv, .string q] w fun v w' => v = .bool true ∧ w' = w := by
  refine calls_of_W [.tmp 4] Try.func15 rfl Try.ntmps15 Try.results15 (by simp) fun e he => ?_
  have e0 : e 0 = lv := he 0 _ rfl
  have e1 : e 1 = .string q := he 1 _ rfl
  clear he
  refine W_sq fun K0 hK => (W_text [true] (by kernel_rfl) ?_); simp only [↓List.toList_toArray, ↓rgd, ↓reduceIte, Nat.reduceEqDiff, rg, ow_15]
  refine hK _ _ ?_; clear hK K0
  refine W_sq fun K0 hK => (W_text [true, true, false, true, true] (by kernel_rfl) ?_); simp only [↓List.toList_toArray, ↓rgd, ↓reduceIte, Nat.reduceEqDiff, rg, ow_15, e0, e1]
  refine do_call fn_26 (by simp only [evt, evc, upd_eq, Nat.reduceEqDiff, ↓reduceIte, maT, maC, maN, isnN, isnS] <;> rfl) (index_any l lv q w hl hm hbig) ?_
  rintro _ w ⟨⟨i, rfl⟩, rfl⟩
  refine ⟨trivial, ?_⟩
  have t0 : decide ((0 : Int) ≤ (i : Int)) = true := by simp
  simp only [↓List.toList_toArray, ↓rgd, ↓reduceIte, Nat.reduceEqDiff, rg, ow_15, t0]
  refine hK _ _ ?_; clear hK K0
  exact W_ret (endQ_1 (by simp only [upd_eq, Nat.reduceEqDiff, ↓reduceIte] <;> rfl) ⟨rfl, rfl⟩)
end Go.Proofs.Ytinpigpeoakeaaa
