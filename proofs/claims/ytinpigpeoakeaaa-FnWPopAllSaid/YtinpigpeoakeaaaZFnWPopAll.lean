/-
  FnWPopAll: the whole statement: it returns true whatever the input is, and the arguments read as before. No condition.
-/
import Derived.Test.YtinpigpeoakeaaaZ45fc7f84
import Derived.Test.YtinpigpeoakeaaaZfaa6b76c
import Derived.Test.YtinpigpeoakeaaaZb461e836
/-
  Lists of strings, of numbers and of truth values that are compared. No condition.
-/
set_option linter.unusedSimpArgs false
set_option linter.unusedVariables false
namespace Go.Proofs.Ytinpigpeoakeaaa
open Go Go.Proofs
theorem nV_at {w : World} {b o : Nat} {l : List Int} (h : Row w b o (flat En l)) {i : Nat} {x : Int} (hi : l[i]? = some x) : rd w b (o + i) = some (.int .i64 x) := by
  have := row_cell (row_at En h hi) (j := 0) rfl
  rwa [show En.sz = 1 from rfl, Nat.mul_one] at this
theorem tV_at {w : World} {b o : Nat} {l : List Bool} (h : Row w b o (flat Eb l)) {i : Nat} {x : Bool} (hi : l[i]? = some x) : rd w b (o + i) = some (.bool x) := by
  have := row_cell (row_at Eb h hi) (j := 0) rfl
  rwa [show Eb.sz = 1 from rfl, Nat.mul_one] at this
theorem ne_n (x : Int) : binV Try.prog .neq 3 (.int .i64 x) (.int .i64 x) = some (.bool false) := by simp [binV]
theorem ne_t : ∀ x : Bool, binV Try.prog .neq 4 (.bool x) (.bool x) = some (.bool false)
  | true => by kernel_rfl
  | false => by kernel_rfl
set_option maxHeartbeats 400000 in
set_option maxRecDepth 8000 in
/-- Two slices that hold the same list are equal. -/
theorem eq_s (l : List ByteArray) (v1 v2 : Value) (w : World) (h1 : SlV w 1 v1 l.length (flat Es l)) (h2 : SlV w 1 v2 l.length (flat Es l)) (hbig : l.length ≤ 4294967296) :
    CallK Try.prog 23 #[v1, v2] w fun v w' => v = .bool true ∧ RO w w' := by
  obtain ⟨a1, c1, hv1⟩ := h1.shape
  obtain ⟨a2, c2, hv2⟩ := h2.shape
  refine calls_of_W [.tmp 4] Try.func23 rfl Try.ntmps23 Try.results23 (by simp) fun e he => ?_
  have e0 : e 0 = .slice a1 l.length c1 := by rw [← hv1]; exact he 0 _ rfl
  have e1 : e 1 = .slice a2 l.length c2 := by rw [← hv2]; exact he 1 _ rfl
  clear he
  refine W_sq fun K hK => (W_text [true] (by kernel_rfl) ?_); simp only [↓List.toList_toArray, ↓rgd, ↓rgf, ↓reduceIte, Nat.reduceEqDiff, rg, ow_23]
  refine hK _ _ ?_; clear hK K
  have t0 : ((l.length : Int) != (l.length : Int)) = false := by simp
  refine W_seq ?_
  refine W_sq fun K hK => (W_text [true, true, true, true, true] (by kernel_rfl) ?_); simp only [↓List.toList_toArray, ↓rgd, ↓rgf, ↓reduceIte, Nat.reduceEqDiff, rg, ow_23, e0, e1, t0]
  refine hK _ _ ?_; clear hK K
  refine W_false (by simp only [evt, evc, upd_eq, Nat.reduceEqDiff, ↓reduceIte, ntT, ntF] <;> rfl) (W_skip ?_)
  show W _ _ _ _ _ _
  refine W_seq (W_seq ?_)
  refine W_rg fun K hK => (W_text [true, true, true] (by kernel_rfl) ?_); simp only [↓List.toList_toArray, ↓rgd, ↓rgf, ↓reduceIte, Nat.reduceEqDiff, rg, ow_23, e0]
  refine hK _ _ ?_; clear hK K
  show W _ _ _ _ _ _
  refine W_block (W_loop (fun mm e w' => ∃ i : Nat, mm = l.length - i ∧ i ≤ l.length ∧ RO w w' ∧ e 0 = .slice a1 l.length c1 ∧ e 1 = .slice a2 l.length c2 ∧ e 12 = .int .i64 l.length ∧ e 13 = .int .i64 i)
    l.length ⟨0, by simp, by simp, RO.refl _, ?_, ?_, ?_, ?_⟩ ?_)
  · simp only [upd_eq, Nat.reduceEqDiff, ↓reduceIte]; exact e0
  · simp only [upd_eq, Nat.reduceEqDiff, ↓reduceIte]; exact e1
  · simp only [upd_eq, Nat.reduceEqDiff, ↓reduceIte]
  · simp only [upd_eq, Nat.reduceEqDiff, ↓reduceIte]; rfl
  · clear e0 e1 e
    rintro mm e w' ⟨i, rfl, hi, hro, e0, e1, e12, e13⟩
    by_cases hlt : i < l.length
    · have ht := lt_tt i l.length hlt
      refine W_sq fun K hK => (W_text [true] (by kernel_rfl) ?_); simp only [↓List.toList_toArray, ↓rgd, ↓rgf, ↓reduceIte, Nat.reduceEqDiff, rg, ow_23, e12, e13, ht]
      refine hK _ _ ?_; clear hK K
      refine W_seq (W_true (by simp only [evt, evc, upd_eq, Nat.reduceEqDiff, ↓reduceIte, ntT, ntF] <;> rfl) (W_skip ?_))
      show W _ _ _ _ _ _
      obtain ⟨x, hx⟩ : ∃ x, l[i]? = some x := ⟨_, List.getElem?_eq_getElem hlt⟩
      obtain ⟨b1, o1, g1, r1⟩ := h1.at hv1 hlt
      obtain ⟨b2, o2, g2, r2⟩ := h2.at hv2 hlt
      subst g1 g2
      have x1 := sV_at ((hro.ext (F := noF)).row r1 fun _ _ h => h) hx
      have x2 := sV_at ((hro.ext (F := noF)).row r2 fun _ _ h => h) hx
      have n1 := ne_s x
      refine W_seq (W_block ?_)
      refine W_sq fun K hK => (W_text [true, true] (by kernel_rfl) ?_); simp only [↓List.toList_toArray, ↓rgd, ↓rgf, ↓reduceIte, Nat.reduceEqDiff, rg, ow_23, e13]
      refine hK _ _ ?_; clear hK K
      refine W_sq fun K hK => (W_draw (some none) none [(0, 0, 0), (0, 1, 0), (0, 2, 0), (0, 3, 0), (0, 4, 0), (0, 5, 0), (0, 6, 0), (0, 7, 0), (0, 8, 0)] mixed (by kernel_rfl) ?_); simp only [↓List.toList_toArray, ↓rgd, ↓rgf, ↓reduceIte, Nat.reduceEqDiff, rg, ow_23, e0, e1, e13, hlt, x1, x2, n1]
      refine hK _ _ ?_; clear hK K
      refine W_false (by simp only [evt, evc, upd_eq, Nat.reduceEqDiff, ↓reduceIte, ntT, ntF] <;> rfl) (W_skip ?_)
      show W _ _ _ _ _ _
      have q1 := wadd1 i (by omega)
      refine W_rg fun K hK => (W_text [true, true] (by kernel_rfl) ?_); simp only [↓List.toList_toArray, ↓rgd, ↓rgf, ↓reduceIte, Nat.reduceEqDiff, rg, ow_23, e13, q1]
      refine hK _ _ ?_; clear hK K
      refine ⟨_, ?_, i + 1, rfl, hlt, hro.tr (RO.dr _ _), ?_, ?_, ?_, ?_⟩
      · omega
      · simp only [upd_eq, Nat.reduceEqDiff, ↓reduceIte]; exact e0
      · simp only [upd_eq, Nat.reduceEqDiff, ↓reduceIte]; exact e1
      · simp only [upd_eq, Nat.reduceEqDiff, ↓reduceIte]; exact e12
      · simp only [upd_eq, Nat.reduceEqDiff, ↓reduceIte]
    · obtain rfl : i = l.length := by omega
      have ht := lt_ff l.length l.length (by omega)
      refine W_sq fun K hK => (W_text [true] (by kernel_rfl) ?_); simp only [↓List.toList_toArray, ↓rgd, ↓rgf, ↓reduceIte, Nat.reduceEqDiff, rg, ow_23, e12, e13, ht]
      refine hK _ _ ?_; clear hK K
      refine W_seq (W_false (by simp only [evt, evc, upd_eq, Nat.reduceEqDiff, ↓reduceIte, ntT, ntF] <;> rfl) (W_exit ?_))
      simp only [andThen_exit, inBlk_exit, andThen_normal, ↓reduceIte]
      refine W_sq fun K hK => (W_text [true] (by kernel_rfl) ?_); simp only [↓List.toList_toArray, ↓rgd, ↓rgf, ↓reduceIte, Nat.reduceEqDiff, rg, ow_23]
      refine hK _ _ ?_; clear hK K
      exact W_ret (endQ_1 (by simp only [upd_eq, Nat.reduceEqDiff, ↓reduceIte] <;> rfl) ⟨rfl, hro⟩)
set_option maxHeartbeats 400000 in
set_option maxRecDepth 8000 in
/-- Two slices that hold the same list are equal. -/
theorem eq_n (l : List Int) (v1 v2 : Value) (w : World) (h1 : SlV w 1 v1 l.length (flat En l)) (h2 : SlV w 1 v2 l.length (flat En l)) (hbig : l.length ≤ 4294967296) :
    CallK Try.prog 29 #[v1, v2] w fun v w' => v = .bool true ∧ RO w w' := by
  obtain ⟨a1, c1, hv1⟩ := h1.shape
  obtain ⟨a2, c2, hv2⟩ := h2.shape
  refine calls_of_W [.tmp 4] Try.func29 rfl Try.ntmps29 Try.results29 (by simp) fun e he => ?_
  have e0 : e 0 = .slice a1 l.length c1 := by rw [← hv1]; exact he 0 _ rfl
  have e1 : e 1 = .slice a2 l.length c2 := by rw [← hv2]; exact he 1 _ rfl
  clear he
  refine W_sq fun K hK => (W_text [true] (by kernel_rfl) ?_); simp only [↓List.toList_toArray, ↓rgd, ↓rgf, ↓reduceIte, Nat.reduceEqDiff, rg, ow_29]
  refine hK _ _ ?_; clear hK K
  have t0 : ((l.length : Int) != (l.length : Int)) = false := by simp
  refine W_seq ?_
  refine W_sq fun K hK => (W_text [true, true, true, true, true] (by kernel_rfl) ?_); simp only [↓List.toList_toArray, ↓rgd, ↓rgf, ↓reduceIte, Nat.reduceEqDiff, rg, ow_29, e0, e1, t0]
  refine hK _ _ ?_; clear hK K
  refine W_false (by simp only [evt, evc, upd_eq, Nat.reduceEqDiff, ↓reduceIte, ntT, ntF] <;> rfl) (W_skip ?_)
  show W _ _ _ _ _ _
  refine W_seq (W_seq ?_)
  refine W_rg fun K hK => (W_text [true, true, true] (by kernel_rfl) ?_); simp only [↓List.toList_toArray, ↓rgd, ↓rgf, ↓reduceIte, Nat.reduceEqDiff, rg, ow_29, e0]
  refine hK _ _ ?_; clear hK K
  show W _ _ _ _ _ _
  refine W_block (W_loop (fun mm e w' => ∃ i : Nat, mm = l.length - i ∧ i ≤ l.length ∧ RO w w' ∧ e 0 = .slice a1 l.length c1 ∧ e 1 = .slice a2 l.length c2 ∧ e 12 = .int .i64 l.length ∧ e 13 = .int .i64 i)
    l.length ⟨0, by simp, by simp, RO.refl _, ?_, ?_, ?_, ?_⟩ ?_)
  · simp only [upd_eq, Nat.reduceEqDiff, ↓reduceIte]; exact e0
  · simp only [upd_eq, Nat.reduceEqDiff, ↓reduceIte]; exact e1
  · simp only [upd_eq, Nat.reduceEqDiff, ↓reduceIte]
  · simp only [upd_eq, Nat.reduceEqDiff, ↓reduceIte]; rfl
  · clear e0 e1 e
    rintro mm e w' ⟨i, rfl, hi, hro, e0, e1, e12, e13⟩
    by_cases hlt : i < l.length
    · have ht := lt_tt i l.length hlt
      refine W_sq fun K hK => (W_text [true] (by kernel_rfl) ?_); simp only [↓List.toList_toArray, ↓rgd, ↓rgf, ↓reduceIte, Nat.reduceEqDiff, rg, ow_29, e12, e13, ht]
      refine hK _ _ ?_; clear hK K
      refine W_seq (W_true (by simp only [evt, evc, upd_eq, Nat.reduceEqDiff, ↓reduceIte, ntT, ntF] <;> rfl) (W_skip ?_))
      show W _ _ _ _ _ _
      obtain ⟨x, hx⟩ : ∃ x, l[i]? = some x := ⟨_, List.getElem?_eq_getElem hlt⟩
      obtain ⟨b1, o1, g1, r1⟩ := h1.at hv1 hlt
      obtain ⟨b2, o2, g2, r2⟩ := h2.at hv2 hlt
      subst g1 g2
      have x1 := nV_at ((hro.ext (F := noF)).row r1 fun _ _ h => h) hx
      have x2 := nV_at ((hro.ext (F := noF)).row r2 fun _ _ h => h) hx
      have n1 := ne_n x
      refine W_seq (W_block ?_)
      refine W_sq fun K hK => (W_text [true, true] (by kernel_rfl) ?_); simp only [↓List.toList_toArray, ↓rgd, ↓rgf, ↓reduceIte, Nat.reduceEqDiff, rg, ow_29, e13]
      refine hK _ _ ?_; clear hK K
      refine W_sq fun K hK => (W_draw (some none) none [(0, 0, 0), (0, 1, 0), (0, 2, 0), (0, 3, 0), (0, 4, 0), (0, 5, 0), (0, 6, 0), (0, 7, 0), (0, 8, 0)] mixed (by kernel_rfl) ?_); simp only [↓List.toList_toArray, ↓rgd, ↓rgf, ↓reduceIte, Nat.reduceEqDiff, rg, ow_29, e0, e1, e13, hlt, x1, x2, n1]
      refine hK _ _ ?_; clear hK K
      refine W_false (by simp only [evt, evc, upd_eq, Nat.reduceEqDiff, ↓reduceIte, ntT, ntF] <;> rfl) (W_skip ?_)
      show W _ _ _ _ _ _
      have q1 := wadd1 i (by omega)
      refine W_rg fun K hK => (W_text [true, true] (by kernel_rfl) ?_); simp only [↓List.toList_toArray, ↓rgd, ↓rgf, ↓reduceIte, Nat.reduceEqDiff, rg, ow_29, e13, q1]
      refine hK _ _ ?_; clear hK K
      refine ⟨_, ?_, i + 1, rfl, hlt, hro.tr (RO.dr _ _), ?_, ?_, ?_, ?_⟩
      · omega
      · simp only [upd_eq, Nat.reduceEqDiff, ↓reduceIte]; exact e0
      · simp only [upd_eq, Nat.reduceEqDiff, ↓reduceIte]; exact e1
      · simp only [upd_eq, Nat.reduceEqDiff, ↓reduceIte]; exact e12
      · simp only [upd_eq, Nat.reduceEqDiff, ↓reduceIte]
    · obtain rfl : i = l.length := by omega
      have ht := lt_ff l.length l.length (by omega)
      refine W_sq fun K hK => (W_text [true] (by kernel_rfl) ?_); simp only [↓List.toList_toArray, ↓rgd, ↓rgf, ↓reduceIte, Nat.reduceEqDiff, rg, ow_29, e12, e13, ht]
      refine hK _ _ ?_; clear hK K
      refine W_seq (W_false (by simp only [evt, evc, upd_eq, Nat.reduceEqDiff, ↓reduceIte, ntT, ntF] <;> rfl) (W_exit ?_))
      simp only [andThen_exit, inBlk_exit, andThen_normal, ↓reduceIte]
      refine W_sq fun K hK => (W_text [true] (by kernel_rfl) ?_); simp only [↓List.toList_toArray, ↓rgd, ↓rgf, ↓reduceIte, Nat.reduceEqDiff, rg, ow_29]
      refine hK _ _ ?_; clear hK K
      exact W_ret (endQ_1 (by simp only [upd_eq, Nat.reduceEqDiff, ↓reduceIte] <;> rfl) ⟨rfl, hro⟩)
set_option maxHeartbeats 400000 in
set_option maxRecDepth 8000 in
/-- Two slices that hold the same list are equal. -/
theorem eq_t (l : List Bool) (v1 v2 : Value) (w : World) (h1 : SlV w 1 v1 l.length (flat Eb l)) (h2 : SlV w 1 v2 l.length (flat Eb l)) (hbig : l.length ≤ 4294967296) :
    CallK Try.prog 30 #[v1, v2] w fun v w' => v = .bool true ∧ RO w w' := by
  obtain ⟨a1, c1, hv1⟩ := h1.shape
  obtain ⟨a2, c2, hv2⟩ := h2.shape
  refine calls_of_W [.tmp 4] Try.func30 rfl Try.ntmps30 Try.results30 (by simp) fun e he => ?_
  have e0 : e 0 = .slice a1 l.length c1 := by rw [← hv1]; exact he 0 _ rfl
  have e1 : e 1 = .slice a2 l.length c2 := by rw [← hv2]; exact he 1 _ rfl
  clear he
  refine W_sq fun K hK => (W_text [true] (by kernel_rfl) ?_); simp only [↓List.toList_toArray, ↓rgd, ↓rgf, ↓reduceIte, Nat.reduceEqDiff, rg, ow_30]
  refine hK _ _ ?_; clear hK K
  have t0 : ((l.length : Int) != (l.length : Int)) = false := by simp
  refine W_seq ?_
  refine W_sq fun K hK => (W_text [true, true, true, true, true] (by kernel_rfl) ?_); simp only [↓List.toList_toArray, ↓rgd, ↓rgf, ↓reduceIte, Nat.reduceEqDiff, rg, ow_30, e0, e1, t0]
  refine hK _ _ ?_; clear hK K
  refine W_false (by simp only [evt, evc, upd_eq, Nat.reduceEqDiff, ↓reduceIte, ntT, ntF] <;> rfl) (W_skip ?_)
  show W _ _ _ _ _ _
  refine W_seq (W_seq ?_)
  refine W_rg fun K hK => (W_text [true, true, true] (by kernel_rfl) ?_); simp only [↓List.toList_toArray, ↓rgd, ↓rgf, ↓reduceIte, Nat.reduceEqDiff, rg, ow_30, e0]
  refine hK _ _ ?_; clear hK K
  show W _ _ _ _ _ _
  refine W_block (W_loop (fun mm e w' => ∃ i : Nat, mm = l.length - i ∧ i ≤ l.length ∧ RO w w' ∧ e 0 = .slice a1 l.length c1 ∧ e 1 = .slice a2 l.length c2 ∧ e 12 = .int .i64 l.length ∧ e 13 = .int .i64 i)
    l.length ⟨0, by simp, by simp, RO.refl _, ?_, ?_, ?_, ?_⟩ ?_)
  · simp only [upd_eq, Nat.reduceEqDiff, ↓reduceIte]; exact e0
  · simp only [upd_eq, Nat.reduceEqDiff, ↓reduceIte]; exact e1
  · simp only [upd_eq, Nat.reduceEqDiff, ↓reduceIte]
  · simp only [upd_eq, Nat.reduceEqDiff, ↓reduceIte]; rfl
  · clear e0 e1 e
    rintro mm e w' ⟨i, rfl, hi, hro, e0, e1, e12, e13⟩
    by_cases hlt : i < l.length
    · have ht := lt_tt i l.length hlt
      refine W_sq fun K hK => (W_text [true] (by kernel_rfl) ?_); simp only [↓List.toList_toArray, ↓rgd, ↓rgf, ↓reduceIte, Nat.reduceEqDiff, rg, ow_30, e12, e13, ht]
      refine hK _ _ ?_; clear hK K
      refine W_seq (W_true (by simp only [evt, evc, upd_eq, Nat.reduceEqDiff, ↓reduceIte, ntT, ntF] <;> rfl) (W_skip ?_))
      show W _ _ _ _ _ _
      obtain ⟨x, hx⟩ : ∃ x, l[i]? = some x := ⟨_, List.getElem?_eq_getElem hlt⟩
      obtain ⟨b1, o1, g1, r1⟩ := h1.at hv1 hlt
      obtain ⟨b2, o2, g2, r2⟩ := h2.at hv2 hlt
      subst g1 g2
      have x1 := tV_at ((hro.ext (F := noF)).row r1 fun _ _ h => h) hx
      have x2 := tV_at ((hro.ext (F := noF)).row r2 fun _ _ h => h) hx
      have n1 := ne_t x
      refine W_seq (W_block ?_)
      refine W_sq fun K hK => (W_text [true, true] (by kernel_rfl) ?_); simp only [↓List.toList_toArray, ↓rgd, ↓rgf, ↓reduceIte, Nat.reduceEqDiff, rg, ow_30, e13]
      refine hK _ _ ?_; clear hK K
      refine W_sq fun K hK => (W_draw (some none) none [(0, 0, 0), (0, 1, 0), (0, 2, 0), (0, 3, 0), (0, 4, 0), (0, 5, 0), (0, 6, 0), (0, 7, 0), (0, 8, 0)] mixed (by kernel_rfl) ?_); simp only [↓List.toList_toArray, ↓rgd, ↓rgf, ↓reduceIte, Nat.reduceEqDiff, rg, ow_30, e0, e1, e13, hlt, x1, x2, n1]
      refine hK _ _ ?_; clear hK K
      refine W_false (by simp only [evt, evc, upd_eq, Nat.reduceEqDiff, ↓reduceIte, ntT, ntF] <;> rfl) (W_skip ?_)
      show W _ _ _ _ _ _
      have q1 := wadd1 i (by omega)
      refine W_rg fun K hK => (W_text [true, true] (by kernel_rfl) ?_); simp only [↓List.toList_toArray, ↓rgd, ↓rgf, ↓reduceIte, Nat.reduceEqDiff, rg, ow_30, e13, q1]
      refine hK _ _ ?_; clear hK K
      refine ⟨_, ?_, i + 1, rfl, hlt, hro.tr (RO.dr _ _), ?_, ?_, ?_, ?_⟩
      · omega
      · simp only [upd_eq, Nat.reduceEqDiff, ↓reduceIte]; exact e0
      · simp only [upd_eq, Nat.reduceEqDiff, ↓reduceIte]; exact e1
      · simp only [upd_eq, Nat.reduceEqDiff, ↓reduceIte]; exact e12
      · simp only [upd_eq, Nat.reduceEqDiff, ↓reduceIte]
    · obtain rfl : i = l.length := by omega
      have ht := lt_ff l.length l.length (by omega)
      refine W_sq fun K hK => (W_text [true] (by kernel_rfl) ?_); simp only [↓List.toList_toArray, ↓rgd, ↓rgf, ↓reduceIte, Nat.reduceEqDiff, rg, ow_30, e12, e13, ht]
      refine hK _ _ ?_; clear hK K
      refine W_seq (W_false (by simp only [evt, evc, upd_eq, Nat.reduceEqDiff, ↓reduceIte, ntT, ntF] <;> rfl) (W_exit ?_))
      simp only [andThen_exit, inBlk_exit, andThen_normal, ↓reduceIte]
      refine W_sq fun K hK => (W_text [true] (by kernel_rfl) ?_); simp only [↓List.toList_toArray, ↓rgd, ↓rgf, ↓reduceIte, Nat.reduceEqDiff, rg, ow_30]
      refine hK _ _ ?_; clear hK K
      exact W_ret (endQ_1 (by simp only [upd_eq, Nat.reduceEqDiff, ↓reduceIte] <;> rfl) ⟨rfl, hro⟩)
end Go.Proofs.Ytinpigpeoakeaaa
/-
  The length of a map. No condition.
-/
set_option linter.unusedSimpArgs false
set_option linter.unusedVariables false
namespace Go.Proofs.Ytinpigpeoakeaaa
open Go Go.Proofs
set_option maxHeartbeats 400000 in
set_option maxRecDepth 8000 in
theorem len_any (m d : Nat) (iso : Int) (xs : List It) (F : Nat → Nat → Prop) (w : World) (hM : MapAt w m d iso xs F) :
    CallK Try.prog 41 #[ptr m] w fun v w' => v = .int .i64 xs.length ∧ w = w' := by
  refine calls_of_W [.tmp 2] Try.func41 rfl Try.ntmps41 Try.results41 (by simp) fun e he => ?_
  have e0 : e 0 = ptr m := he 0 _ rfl
  clear he
  refine W_sq fun K hK => (W_text [true] (by kernel_rfl) ?_); simp only [↓List.toList_toArray, ↓rgd, ↓rgf, ↓reduceIte, Nat.reduceEqDiff, rg, ow_41]
  refine hK _ _ ?_; clear hK K
  refine W_sq fun K hK => (W_text [true, true, true, true, true] (by kernel_rfl) ?_); simp only [↓List.toList_toArray, ↓rgd, ↓rgf, ↓reduceIte, Nat.reduceEqDiff, rg, ow_41, e0, ptr_eq, hM.cnt]
  refine hK _ _ ?_; clear hK K
  exact W_ret (endQ_1 (by simp only [upd_eq, Nat.reduceEqDiff, ↓reduceIte] <;> rfl) ⟨rfl, rfl⟩)
end Go.Proofs.Ytinpigpeoakeaaa
/-
  The law on Keys. No condition.
-/
set_option linter.unusedSimpArgs false
set_option linter.unusedVariables false
namespace Go.Proofs.Ytinpigpeoakeaaa
open Go Go.Proofs
set_option maxHeartbeats 1000000 in
set_option maxRecDepth 8000 in
theorem keys_any (m d : Nat) (iso : Int) (xs : List It) (F : Nat → Nat → Prop) (w : World) (hM : MapAt w m d iso xs F) (hbig : xs.length ≤ 2147483647) :
    CallK Try.prog 25 #[ptr m] w fun v w' => OutE Es w.heap.size v (xs.map κ) w' ∧ Ext noF w w' := by
  refine calls_of_W [.tmp 2] Try.func25 rfl Try.ntmps25 Try.results25 (by simp) fun e he => ?_
  have e0 : e 0 = ptr m := he 0 _ rfl
  clear he
  refine W_sq fun K hK => (W_text [true] (by kernel_rfl) ?_); simp only [↓List.toList_toArray, ↓rgd, ↓rgf, ↓reduceIte, Nat.reduceEqDiff, rg, ow_25]
  refine hK _ _ ?_; clear hK K
  refine W_sq fun K hK => (W_text [true, false, false, true] (by kernel_rfl) ?_); simp only [↓List.toList_toArray, ↓rgd, ↓rgf, ↓reduceIte, Nat.reduceEqDiff, rg, ow_25, e0]
  refine do_call fn_41 (by simp only [evt, evc, upd_eq, Nat.reduceEqDiff, ↓reduceIte, maT, maC, maN, isnN, isnS] <;> rfl) (len_any m d iso xs F w hM) ?_
  rintro _ w ⟨rfl, rfl⟩
  refine ⟨trivial, ?_⟩
  simp only [↓List.toList_toArray, ↓rgd, ↓rgf, ↓reduceIte, Nat.reduceEqDiff, rg, ow_25]
  refine do_make (n := 0) (c := xs.length) (by simp only [evt, evc, upd_eq, Nat.reduceEqDiff, ↓reduceIte, ntT, ntF] <;> rfl) (by simp only [evt, evc, upd_eq, Nat.reduceEqDiff, ↓reduceIte, ntT, ntF] <;> rfl) el_s rfl (Nat.zero_le _) (by omega) (by omega) fun w1 l1 hl1 n1 => ⟨trivial, ?_⟩
  simp only [↓List.toList_toArray, ↓rgd, ↓rgf, ↓reduceIte, Nat.reduceEqDiff, rg, ow_25]
  refine hK _ _ ?_; clear hK K
  have s1 := n1.size
  have hM1 := hM.ext n1.ext
  have kv0 : OutE Es w.heap.size (.slice (some ⟨w.heap.size, 0, none⟩) 0 xs.length) [] w1 := by
    refine ⟨⟨by simp [flat], .inr ⟨_, 0, _, rfl, Nat.zero_le _, Row.nil _ _ _, n1.wok.R ?_⟩⟩, fun b o n c h => ?_⟩
    · rw [hl1]; show 0 + xs.length * 1 ≤ xs.length * 1; omega
    · simp only [Value.slice.injEq, Option.some.injEq, Addr.mk.injEq] at h; omega
  refine W_seq ?_
  rcases hM1.root with ⟨rfl, hr⟩ | ⟨h, b, hr, ht⟩
  · refine W_sq fun K hK => (W_text [true, true, true, true, true] (by kernel_rfl) ?_); simp only [↓List.toList_toArray, ↓rgd, ↓rgf, ↓reduceIte, Nat.reduceEqDiff, rg, ow_25, e0, ptr_eq, hr]
    refine hK _ _ ?_; clear hK K
    refine W_false (by simp only [evt, evc, upd_eq, Nat.reduceEqDiff, ↓reduceIte, ntT, ntF] <;> rfl) (W_skip ?_)
    show W _ _ _ _ _ _
    refine W_sq fun K hK => (W_text [true, true] (by kernel_rfl) ?_); simp only [↓List.toList_toArray, ↓rgd, ↓rgf, ↓reduceIte, Nat.reduceEqDiff, rg, ow_25]
    refine hK _ _ ?_; clear hK K
    exact W_ret (endQ_1 (by simp only [upd_eq, Nat.reduceEqDiff, ↓reduceIte] <;> rfl) ⟨kv0, n1.ext⟩)
  · refine W_sq fun K hK => (W_text [true, true, true, true, true] (by kernel_rfl) ?_); simp only [↓List.toList_toArray, ↓rgd, ↓rgf, ↓reduceIte, Nat.reduceEqDiff, rg, ow_25, e0, ptr_eq, hr]
    refine hK _ _ ?_; clear hK K
    refine W_true (by simp only [evt, evc, upd_eq, Nat.reduceEqDiff, ↓reduceIte, ntT, ntF] <;> rfl) ?_
    refine W_rg fun K hK => (W_text [true, true, true, true, true, false, true] (by kernel_rfl) ?_); simp only [↓List.toList_toArray, ↓rgd, ↓rgf, ↓reduceIte, Nat.reduceEqDiff, rg, ow_25, e0, ptr_eq, hr]
    refine do_call fn_42 (by simp only [evt, evc, upd_eq, Nat.reduceEqDiff, ↓reduceIte, maT, maC, maN, isnN, isnS] <;> rfl) (nodeKeys_any w.heap.size iso _ _ h b 1 xs F _ [] w1 ht (fun y o g => hM.lt y o g) kv0 (by simp; omega) (by omega)) ?_
    rintro kv2 w2 ⟨H2, X2⟩
    refine ⟨trivial, ?_⟩
    simp only [↓List.toList_toArray, ↓rgd, ↓rgf, ↓reduceIte, Nat.reduceEqDiff, rg, ow_25]
    refine hK _ _ ?_; clear hK K
    show W _ _ _ _ _ _
    refine W_sq fun K hK => (W_text [true, true] (by kernel_rfl) ?_); simp only [↓List.toList_toArray, ↓rgd, ↓rgf, ↓reduceIte, Nat.reduceEqDiff, rg, ow_25]
    refine hK _ _ ?_; clear hK K
    exact W_ret (endQ_1 (by simp only [upd_eq, Nat.reduceEqDiff, ↓reduceIte] <;> rfl) ⟨by simpa using H2, noF_of n1.ext X2 fun y o hy g => by omega⟩)
set_option maxHeartbeats 400000 in
set_option maxRecDepth 8000 in
theorem impl_wkeys (d : Nat) (hd : 2 ≤ d) (hd' : d ≤ 128) (l : List It) (lv : Value) (w : World) (hl : SlI w lv l) (hbig : l.length ≤ 2147483647) :
    CallK Try.prog 14 #[.int .i64 d, lv] w fun v w' => OutE Es w.heap.size v ((tree l).map κ) w' ∧ Ext noF w w' := by
  refine calls_of_W [.tmp 4] Try.func14 rfl Try.ntmps14 Try.results14 (by simp) fun e he => ?_
  have e0 : e 0 = .int .i64 d := he 0 _ rfl
  have e1 : e 1 = lv := he 1 _ rfl
  clear he
  have htl := tree_len l
  refine W_sq fun K hK => (W_text [true] (by kernel_rfl) ?_); simp only [↓List.toList_toArray, ↓rgd, ↓rgf, ↓reduceIte, Nat.reduceEqDiff, rg, ow_14]
  refine hK _ _ ?_; clear hK K
  refine W_sq fun K hK => (W_text [true, true, false, false, true] (by kernel_rfl) ?_); simp only [↓List.toList_toArray, ↓rgd, ↓rgf, ↓reduceIte, Nat.reduceEqDiff, rg, ow_14, e0, e1]
  refine do_call fn_24 (by simp only [evt, evc, upd_eq, Nat.reduceEqDiff, ↓reduceIte, maT, maC, maN, isnN, isnS] <;> rfl) (grow_any d hd hd' l lv w hl hbig) ?_
  rintro _ w1 ⟨X1, m, F, rfl, hM, hm, hF⟩
  refine ⟨trivial, ?_⟩
  simp only [↓List.toList_toArray, ↓rgd, ↓rgf, ↓reduceIte, Nat.reduceEqDiff, rg, ow_14]
  refine do_call fn_25 (by simp only [evt, evc, upd_eq, Nat.reduceEqDiff, ↓reduceIte, maT, maC, maN, isnN, isnS] <;> rfl) (keys_any m d 0 (tree l) F w1 hM (by omega)) ?_
  rintro v2 w2 ⟨h2, X2⟩
  refine ⟨trivial, ?_⟩
  simp only [↓List.toList_toArray, ↓rgd, ↓rgf, ↓reduceIte, Nat.reduceEqDiff, rg, ow_14]
  refine hK _ _ ?_; clear hK K
  have s1 := X1.size
  exact W_ret (endQ_1 (by simp only [upd_eq, Nat.reduceEqDiff, ↓reduceIte] <;> rfl) ⟨⟨h2.sl, fun b o n c h => by have := h2.si _ _ _ _ h; omega⟩, X1.tr X2⟩)
set_option maxHeartbeats 400000 in
set_option maxRecDepth 8000 in
theorem words_any (l : List It) (lv : Value) (w : World) (hl : SlI w lv l) (hbig : l.length ≤ 2147483647) :
    CallK Try.prog 37 #[lv] w fun v w' => SlI w' v (tree l) ∧ Ext noF w w' := by
  refine calls_of_W [.tmp 2] Try.func37 rfl Try.ntmps37 Try.results37 (by simp) fun e he => ?_
  have e0 : e 0 = lv := he 0 _ rfl
  clear he
  refine W_sq fun K hK => (W_text [true] (by kernel_rfl) ?_); simp only [↓List.toList_toArray, ↓rgd, ↓rgf, ↓reduceIte, Nat.reduceEqDiff, rg, ow_37]
  refine hK _ _ ?_; clear hK K
  refine W_sq fun K hK => (W_text [true, false, true, true, true, true, true, true, true] (by kernel_rfl) ?_); simp only [↓List.toList_toArray, ↓rgd, ↓rgf, ↓reduceIte, Nat.reduceEqDiff, rg, ow_37, e0]
  refine do_call fn_51 (by simp only [evt, evc, upd_eq, Nat.reduceEqDiff, ↓reduceIte, maT, maC, maN, isnN, isnS] <;> rfl) (wset_any l lv w hl hbig) ?_
  rintro _ w1 ⟨ov, kv, sv, rfl, h1, X1⟩
  refine ⟨trivial, ?_⟩
  simp only [↓List.toList_toArray, ↓rgd, ↓rgf, ↓reduceIte, Nat.reduceEqDiff, rg, ow_37]
  refine hK _ _ ?_; clear hK K
  refine W_sq fun K hK => (W_text [true, true] (by kernel_rfl) ?_); simp only [↓List.toList_toArray, ↓rgd, ↓rgf, ↓reduceIte, Nat.reduceEqDiff, rg, ow_37]
  refine hK _ _ ?_; clear hK K
  exact W_ret (endQ_1 (by simp only [upd_eq, Nat.reduceEqDiff, ↓reduceIte] <;> rfl) ⟨h1, X1⟩)
set_option maxHeartbeats 400000 in
set_option maxRecDepth 8000 in
theorem wkeys_any (l : List It) (lv : Value) (w : World) (hl : SlI w lv l) (hbig : l.length ≤ 2147483647) :
    CallK Try.prog 22 #[lv] w fun v w' => OutE Es w.heap.size v ((tree l).map κ) w' ∧ Ext noF w w' := by
  refine calls_of_W [.tmp 2] Try.func22 rfl Try.ntmps22 Try.results22 (by simp) fun e he => ?_
  have e0 : e 0 = lv := he 0 _ rfl
  clear he
  have htl := tree_len l
  refine W_sq fun K hK => (W_text [true] (by kernel_rfl) ?_); simp only [↓List.toList_toArray, ↓rgd, ↓rgf, ↓reduceIte, Nat.reduceEqDiff, rg, ow_22]
  refine hK _ _ ?_; clear hK K
  refine W_sq fun K hK => (W_text [true] (by kernel_rfl) ?_); simp only [↓List.toList_toArray, ↓rgd, ↓rgf, ↓reduceIte, Nat.reduceEqDiff, rg, ow_22]
  refine hK _ _ ?_; clear hK K
  refine W_seq (W_seq ?_)
  refine W_rg fun K hK => (W_text [true, false, true, true] (by kernel_rfl) ?_); simp only [↓List.toList_toArray, ↓rgd, ↓rgf, ↓reduceIte, Nat.reduceEqDiff, rg, ow_22, e0]
  refine do_call fn_37 (by simp only [evt, evc, upd_eq, Nat.reduceEqDiff, ↓reduceIte, maT, maC, maN, isnN, isnS] <;> rfl) (words_any l lv w hl hbig) ?_
  rintro tv w1 ⟨h1, X1⟩
  refine ⟨trivial, ?_⟩
  obtain ⟨a, c, htv⟩ := h1.shape
  simp only [↓List.toList_toArray, ↓rgd, ↓rgf, ↓reduceIte, Nat.reduceEqDiff, rg, ow_22, htv]
  refine hK _ _ ?_; clear hK K
  show W _ _ _ _ _ _
  have s1 := X1.size
  generalize tree l = t at *
  refine W_block (W_loop (fun mm e w' => ∃ i : Nat, mm = t.length - i ∧ i ≤ t.length ∧ e 7 = .slice a t.length c ∧ e 8 = .int .i64 t.length ∧ e 9 = .int .i64 i ∧ OutE Es w1.heap.size (e 3) ((t.take i).map κ) w' ∧ Ext (fun y _ => w1.heap.size ≤ y) w1 w')
    t.length ⟨0, rfl, Nat.zero_le _, ?_, ?_, ?_, ?_, Ext.refl _ _⟩ ?_)
  · simp only [upd_eq, Nat.reduceEqDiff, ↓reduceIte]
  · simp only [upd_eq, Nat.reduceEqDiff, ↓reduceIte]
  · simp only [upd_eq, Nat.reduceEqDiff, ↓reduceIte]; rfl
  · simp only [upd_eq, Nat.reduceEqDiff, ↓reduceIte]; exact OutE.nil _ _ _
  clear e0 e
  rintro mm e w' ⟨i, rfl, hi, e7, e8, e9, hO, X⟩
  have sX := X.size
  by_cases hlt : i < t.length
  · have ht := lt_tt i t.length hlt
    refine W_sq fun K hK => (W_text [true] (by kernel_rfl) ?_); simp only [↓List.toList_toArray, ↓rgd, ↓rgf, ↓reduceIte, Nat.reduceEqDiff, rg, ow_22, e8, e9, ht]
    refine hK _ _ ?_; clear hK K
    refine W_seq (W_true (by simp only [evt, evc, upd_eq, Nat.reduceEqDiff, ↓reduceIte, ntT, ntF] <;> rfl) (W_skip ?_))
    show W _ _ _ _ _ _
    obtain ⟨x, hx⟩ : ∃ x, t[i]? = some x := ⟨_, List.getElem?_eq_getElem hlt⟩
    obtain ⟨b, o, rfl, row⟩ := h1.at htv hlt
    have hbl := h1.lt htv
    have ix := iV_at (X.row row fun _ _ h => by omega) hx
    refine W_seq (W_block ?_)
    refine W_sq fun K hK => (W_text [true, true, false, false] (by kernel_rfl) ?_); simp only [↓List.toList_toArray, ↓rgd, ↓rgf, ↓reduceIte, Nat.reduceEqDiff, rg, ow_22, e7, e9, hlt, ix]
    refine do_alloc z_item fun w2 n2 => ⟨trivial, ?_⟩
    simp only [↓List.toList_toArray, ↓rgd, ↓rgf, ↓reduceIte, Nat.reduceEqDiff, rg, ow_22]
    refine do_store (v := iV x) (by simp only [evt, evc, upd_eq, Nat.reduceEqDiff, ↓reduceIte, ntT, ntF] <;> rfl) (by simp only [evt, evc, upd_eq, Nat.reduceEqDiff, ↓reduceIte, ntT, ntF] <;> rfl) sz_31 rfl n2.wok (by decide) (Ei.one x) fun w3 x3 r3 s3 => ⟨trivial, ?_⟩
    simp only [↓List.toList_toArray, ↓rgd, ↓rgf, ↓reduceIte, Nat.reduceEqDiff, rg, ow_22]
    refine hK _ _ ?_; clear hK K
    have s2 := n2.size
    have X3 : Ext noF w' w3 := noF_of n2.ext x3 fun y o hy h => by simp only [rng] at h; omega
    have s3' := X3.size
    have rx : Row w3 w'.heap.size 0 (Ei.cel x) := r3
    have v0 : rd w3 w'.heap.size 0 = some (.string x.1) := (Row.cons.1 rx).1
    have hO3 := hO.ext X3
    have hlk : ((t.take i).map κ).length = i := by rw [List.length_map, List.length_take]; omega
    refine W_rg fun K hK => (W_text [true, true, true, false, false, true] (by kernel_rfl) ?_); simp only [↓List.toList_toArray, ↓rgd, ↓rgf, ↓reduceIte, Nat.reduceEqDiff, rg, ow_22, v0]
    refine do_bsl rfl (bs_s1 (κ x)) fun w4 n4 => ⟨trivial, ?_⟩
    simp only [↓List.toList_toArray, ↓rgd, ↓rgf, ↓reduceIte, Nat.reduceEqDiff, rg, ow_22]
    have hO4 := hO3.ext n4.ext
    have s4 := n4.size
    have z4 : SlV w4 1 (.slice (some ⟨w3.heap.size, 0, none⟩) 1 1) 1 (Es.cel (κ x)) := ⟨rfl, .inr ⟨_, 0, 1, rfl, Nat.le_refl _, n4.row, n4.wok.R (Nat.le_refl _)⟩⟩
    refine do_append (by simp only [evt, evc, upd_eq, Nat.reduceEqDiff, ↓reduceIte, ntT, ntF] <;> rfl) (by simp only [evt, evc, upd_eq, Nat.reduceEqDiff, ↓reduceIte, ntT, ntF] <;> rfl) el_s rfl ni_s hO4.sl z4 (by omega) (by decide) (Es.one _) fun v5 w5 a5 => ⟨trivial, ?_⟩
    obtain ⟨hO5, X5⟩ := hO4.app a5 (by omega)
    simp only [↓List.toList_toArray, ↓rgd, ↓rgf, ↓reduceIte, Nat.reduceEqDiff, rg, ow_22]
    refine hK _ _ ?_; clear hK K
    show W _ _ _ _ _ _
    have q1 := wadd1 i (by omega)
    refine W_rg fun K hK => (W_text [true, true] (by kernel_rfl) ?_); simp only [↓List.toList_toArray, ↓rgd, ↓rgf, ↓reduceIte, Nat.reduceEqDiff, rg, ow_22, e9, q1]
    refine hK _ _ ?_; clear hK K
    refine ⟨_, ?_, i + 1, rfl, hlt, ?_, ?_, ?_, ?_, (X.tr ((X3.tr n4.ext).mono fun _ _ _ h => h.elim)).tr X5⟩
    · omega
    · simp only [upd_eq, Nat.reduceEqDiff, ↓reduceIte]; exact e7
    · simp only [upd_eq, Nat.reduceEqDiff, ↓reduceIte]; exact e8
    · simp only [upd_eq, Nat.reduceEqDiff, ↓reduceIte]
    · simp only [upd_eq, Nat.reduceEqDiff, ↓reduceIte]
      rw [take_snoc hx, List.map_append]
      exact hO5
  · obtain rfl : i = t.length := by omega
    have ht := lt_ff t.length t.length (by omega)
    refine W_sq fun K hK => (W_text [true] (by kernel_rfl) ?_); simp only [↓List.toList_toArray, ↓rgd, ↓rgf, ↓reduceIte, Nat.reduceEqDiff, rg, ow_22, e8, e9, ht]
    refine hK _ _ ?_; clear hK K
    refine W_seq (W_false (by simp only [evt, evc, upd_eq, Nat.reduceEqDiff, ↓reduceIte, ntT, ntF] <;> rfl) (W_exit ?_))
    simp only [andThen_exit, inBlk_exit, andThen_normal, ↓reduceIte]
    refine W_sq fun K hK => (W_text [true, true] (by kernel_rfl) ?_); simp only [↓List.toList_toArray, ↓rgd, ↓rgf, ↓reduceIte, Nat.reduceEqDiff, rg, ow_22]
    refine hK _ _ ?_; clear hK K
    rw [List.take_length] at hO
    exact W_ret (endQ_1 (by simp only [upd_eq, Nat.reduceEqDiff, ↓reduceIte] <;> rfl) ⟨⟨hO.sl, fun b o n c h => by have := hO.si _ _ _ _ h; omega⟩, noF_of X1 X fun y o hy g => by omega⟩)
set_option maxHeartbeats 400000 in
set_option maxRecDepth 8000 in
theorem law_wkeys (d : Nat) (hd : 2 ≤ d) (hd' : d ≤ 128) (l : List It) (lv : Value) (w : World) (hl : SlI w lv l) (hbig : l.length ≤ 2147483647) :
    CallK Try.prog 9 #[.int .i64 d, lv] w fun v w' => v = .bool true ∧ Ext noF w w' := by
  refine calls_of_W [.tmp 4] Try.func9 rfl Try.ntmps9 Try.results9 (by simp) fun e he => ?_
  have e0 : e 0 = .int .i64 d := he 0 _ rfl
  have e1 : e 1 = lv := he 1 _ rfl
  clear he
  have htl := tree_len l
  refine W_sq fun K hK => (W_text [true] (by kernel_rfl) ?_); simp only [↓List.toList_toArray, ↓rgd, ↓rgf, ↓reduceIte, Nat.reduceEqDiff, rg, ow_9]
  refine hK _ _ ?_; clear hK K
  refine W_sq fun K hK => (W_text [true, true, false, true] (by kernel_rfl) ?_); simp only [↓List.toList_toArray, ↓rgd, ↓rgf, ↓reduceIte, Nat.reduceEqDiff, rg, ow_9, e0, e1]
  refine do_call fn_14 (by simp only [evt, evc, upd_eq, Nat.reduceEqDiff, ↓reduceIte, maT, maC, maN, isnN, isnS] <;> rfl) (impl_wkeys d hd hd' l lv w hl hbig) ?_
  rintro v1 w1 ⟨h1, X1⟩
  refine ⟨trivial, ?_⟩
  simp only [↓List.toList_toArray, ↓rgd, ↓rgf, ↓reduceIte, Nat.reduceEqDiff, rg, ow_9]
  refine hK _ _ ?_; clear hK K
  refine W_sq fun K hK => (W_text [true, false, true] (by kernel_rfl) ?_); simp only [↓List.toList_toArray, ↓rgd, ↓rgf, ↓reduceIte, Nat.reduceEqDiff, rg, ow_9, e1]
  refine do_call fn_22 (by simp only [evt, evc, upd_eq, Nat.reduceEqDiff, ↓reduceIte, maT, maC, maN, isnN, isnS] <;> rfl) (wkeys_any l lv w1 (hl.ext0 X1) hbig) ?_
  rintro v2 w2 ⟨h2, X2⟩
  refine ⟨trivial, ?_⟩
  simp only [↓List.toList_toArray, ↓rgd, ↓rgf, ↓reduceIte, Nat.reduceEqDiff, rg, ow_9]
  refine hK _ _ ?_; clear hK K
  refine W_sq fun K hK => (W_text [true, true, false, true] (by kernel_rfl) ?_); simp only [↓List.toList_toArray, ↓rgd, ↓rgf, ↓reduceIte, Nat.reduceEqDiff, rg, ow_9]
  refine do_call fn_23 (by simp only [evt, evc, upd_eq, Nat.reduceEqDiff, ↓reduceIte, maT, maC, maN, isnN, isnS] <;> rfl) (eq_s _ v1 v2 w2 (h1.sl.ext0 X2) h2.sl (by rw [List.length_map]; omega)) ?_
  rintro _ w3 ⟨rfl, r3⟩
  refine ⟨trivial, ?_⟩
  simp only [↓List.toList_toArray, ↓rgd, ↓rgf, ↓reduceIte, Nat.reduceEqDiff, rg, ow_9]
  refine hK _ _ ?_; clear hK K
  exact W_ret (endQ_1 (by simp only [upd_eq, Nat.reduceEqDiff, ↓reduceIte] <;> rfl) ⟨rfl, (X1.tr X2).tr r3.ext⟩)
end Go.Proofs.Ytinpigpeoakeaaa
/-
  The law on Get. No condition.
-/
set_option linter.unusedSimpArgs false
set_option linter.unusedVariables false
namespace Go.Proofs.Ytinpigpeoakeaaa
open Go Go.Proofs
theorem el_n : elK Try.prog 48 = some (3, 1, 8, [.int .i64 0]) := by kernel_rfl
theorem ni_n : noInt Try.prog 48 = true := by kernel_rfl
theorem bs_n1 (x : Int) : bsV Try.prog 48 1 [(0, .int .i64 x)] = some (3, En.cel x) := by kernel_rfl
/-- Two lists that are being made. -/
structure Duo (B : Nat) (nv bv : Value) (N : List Int) (T : List Bool) (w : World) : Prop where
  n : OutE En B nv N w
  b : OutE Eb B bv T w
  ap : apart2 nv bv
theorem Duo.ext {B : Nat} {nv bv : Value} {N : List Int} {T : List Bool} {w w' : World} (h : Duo B nv bv N T w) (x : Ext noF w w') : Duo B nv bv N T w' := ⟨h.n.ext x, h.b.ext x, h.ap⟩
theorem Duo.nil (B : Nat) (w : World) : Duo B (.slice none 0 0) (.slice none 0 0) [] [] w := ⟨OutE.nil _ _ _, OutE.nil _ _ _, fun b o n c o' n' c' h => by cases h⟩
theorem Duo.appN {B : Nat} {nv bv nv' : Value} {N : List Int} {T : List Bool} {x : Int} {w w' : World} (h : Duo B nv bv N T w) (a : AppRes w 1 nv N.length 1 (flat En N) (En.cel x) nv' w') (hB : B ≤ w.heap.size) : Duo B nv' bv (N ++ [x]) T w' ∧ Ext (fun y _ => B ≤ y) w w' := by
  obtain ⟨h1, h2⟩ := h.n.app a hB
  obtain ⟨h3, h4⟩ := app_other a h.b.sl h.ap
  exact ⟨⟨h1, ⟨h3, h.b.si⟩, h4⟩, h2⟩
theorem Duo.appB {B : Nat} {nv bv bv' : Value} {N : List Int} {T : List Bool} {x : Bool} {w w' : World} (h : Duo B nv bv N T w) (a : AppRes w 1 bv T.length 1 (flat Eb T) (Eb.cel x) bv' w') (hB : B ≤ w.heap.size) : Duo B nv bv' N (T ++ [x]) w' ∧ Ext (fun y _ => B ≤ y) w w' := by
  obtain ⟨h1, h2⟩ := h.b.app a hB
  obtain ⟨h3, h4⟩ := app_other a h.n.sl h.ap.symm
  exact ⟨⟨⟨h3, h.n.si⟩, h1, h4.symm⟩, h2⟩
def valOf (t : List It) (k : Rk) : Int := ((at? O κ k t).getD zIt).2
def SlS (w : World) (v : Value) (l : List ByteArray) : Prop := SlV w 1 v l.length (flat Es l)
set_option maxHeartbeats 2000000 in
set_option maxRecDepth 8000 in
theorem impl_wget (d : Nat) (hd : 2 ≤ d) (hd' : d ≤ 128) (l : List It) (lv : Value) (ks : List ByteArray) (kv : Value) (w : World) (hl : SlI w lv l) (hk : SlV w 1 kv ks.length (flat Es ks)) (hbig : l.length ≤ 2147483647) (hkb : ks.length ≤ 2147483647) :
    CallK Try.prog 27 #[.int .i64 d, lv, kv] w fun v w' => ∃ nv bv, v = .tuple #[nv, bv] ∧ Duo w.heap.size nv bv (ks.map (valOf (tree l))) (ks.map (fun k => hit O κ k (tree l))) w' ∧ Ext noF w w' := by
  obtain ⟨a, c, hkv⟩ := hk.shape
  refine calls_of_W [.tmp 6, .tmp 7] Try.func27 rfl Try.ntmps27 Try.results27 (by simp) fun e he => ?_
  have e0 : e 0 = .int .i64 d := he 0 _ rfl
  have e1 : e 1 = lv := he 1 _ rfl
  have e2 : e 2 = .slice a ks.length c := by rw [← hkv]; exact he 2 _ rfl
  clear he
  refine W_sq fun K0 hK => (W_text [true, true] (by kernel_rfl) ?_); simp only [↓List.toList_toArray, ↓rgd, ↓rgf, ↓reduceIte, Nat.reduceEqDiff, rg, ow_27]
  refine hK _ _ ?_; clear hK K0
  refine W_sq fun K0 hK => (W_text [true, true, false, true] (by kernel_rfl) ?_); simp only [↓List.toList_toArray, ↓rgd, ↓rgf, ↓reduceIte, Nat.reduceEqDiff, rg, ow_27, e0, e1]
  refine do_call fn_24 (by simp only [evt, evc, upd_eq, Nat.reduceEqDiff, ↓reduceIte, maT, maC, maN, isnN, isnS] <;> rfl) (grow_any d hd hd' l lv w hl hbig) ?_
  rintro _ w1 ⟨X1, m, F, rfl, hM, hm, hF⟩
  refine ⟨trivial, ?_⟩
  simp only [↓List.toList_toArray, ↓rgd, ↓rgf, ↓reduceIte, Nat.reduceEqDiff, rg, ow_27]
  refine hK _ _ ?_; clear hK K0
  refine W_sq fun K0 hK => (W_text [true] (by kernel_rfl) ?_); simp only [↓List.toList_toArray, ↓rgd, ↓rgf, ↓reduceIte, Nat.reduceEqDiff, rg, ow_27]
  refine hK _ _ ?_; clear hK K0
  refine W_sq fun K0 hK => (W_text [true] (by kernel_rfl) ?_); simp only [↓List.toList_toArray, ↓rgd, ↓rgf, ↓reduceIte, Nat.reduceEqDiff, rg, ow_27]
  refine hK _ _ ?_; clear hK K0
  refine W_seq (W_seq ?_)
  refine W_rg fun K0 hK => (W_text [true, true, true] (by kernel_rfl) ?_); simp only [↓List.toList_toArray, ↓rgd, ↓rgf, ↓reduceIte, Nat.reduceEqDiff, rg, ow_27, e2]
  refine hK _ _ ?_; clear hK K0
  show W _ _ _ _ _ _
  have s1 := X1.size
  have htl := tree_len l
  generalize tree l = t at *
  have hk1 := hk.ext0 X1
  refine W_block (W_loop (fun mm e w' => ∃ i : Nat, mm = ks.length - i ∧ i ≤ ks.length ∧ e 18 = .slice a ks.length c ∧ e 19 = .int .i64 ks.length ∧ e 20 = .int .i64 i ∧ e 8 = ptr m ∧ Duo w1.heap.size (e 9) (e 10) ((ks.take i).map (valOf t)) ((ks.take i).map (fun k => hit O κ k t)) w' ∧ Ext (fun y _ => w1.heap.size ≤ y) w1 w')
    ks.length ⟨0, rfl, Nat.zero_le _, ?_, ?_, ?_, ?_, ?_, Ext.refl _ _⟩ ?_)
  · simp only [upd_eq, Nat.reduceEqDiff, ↓reduceIte]
  · simp only [upd_eq, Nat.reduceEqDiff, ↓reduceIte]
  · simp only [upd_eq, Nat.reduceEqDiff, ↓reduceIte]; rfl
  · simp only [upd_eq, Nat.reduceEqDiff, ↓reduceIte]
  · simp only [upd_eq, Nat.reduceEqDiff, ↓reduceIte]; exact Duo.nil _ _
  clear e0 e1 e2 e
  rintro mm e w' ⟨i, rfl, hi, e18, e19, e20, e8, hD, X⟩
  have sX := X.size
  by_cases hlt : i < ks.length
  · have ht := lt_tt i ks.length hlt
    refine W_sq fun K0 hK => (W_text [true] (by kernel_rfl) ?_); simp only [↓List.toList_toArray, ↓rgd, ↓rgf, ↓reduceIte, Nat.reduceEqDiff, rg, ow_27, e19, e20, ht]
    refine hK _ _ ?_; clear hK K0
    refine W_seq (W_true (by simp only [evt, evc, upd_eq, Nat.reduceEqDiff, ↓reduceIte, ntT, ntF] <;> rfl) (W_skip ?_))
    show W _ _ _ _ _ _
    obtain ⟨k, hx⟩ : ∃ k, ks[i]? = some k := ⟨_, List.getElem?_eq_getElem hlt⟩
    obtain ⟨b, o, rfl, row⟩ := hk1.at hkv hlt
    have hbl := hk1.lt hkv
    have ix := sV_at (X.row row fun _ _ h => by omega) hx
    refine W_seq (W_block ?_)
    refine W_sq fun K0 hK => (W_text [true, true, true] (by kernel_rfl) ?_); simp only [↓List.toList_toArray, ↓rgd, ↓rgf, ↓reduceIte, Nat.reduceEqDiff, rg, ow_27, e18, e20, hlt, ix]
    refine hK _ _ ?_; clear hK K0
    have hMw : MapAt w' m d 0 t F := hM.extG X (fun y o g => by have := hM.lt y o g; omega) (fun o => by have := hM.mlt; omega)
    have hlk : (ks.take i).length = i := by rw [List.length_take]; omega
    refine W_sq fun K0 hK => (W_text [true, true, false, true, true, true, true, true] (by kernel_rfl) ?_); simp only [↓List.toList_toArray, ↓rgd, ↓rgf, ↓reduceIte, Nat.reduceEqDiff, rg, ow_27, e8]
    refine do_call fn_43 (by simp only [evt, evc, upd_eq, Nat.reduceEqDiff, ↓reduceIte, maT, maC, maN, isnN, isnS] <;> rfl) (getM_any m d hd hd' 0 t F k w' hMw) ?_
    rintro _ w2 ⟨rfl, r2⟩
    refine ⟨trivial, ?_⟩
    simp only [↓List.toList_toArray, ↓rgd, ↓rgf, ↓reduceIte, Nat.reduceEqDiff, rg, ow_27]
    refine hK _ _ ?_; clear hK K0
    have X2 : Ext noF w' w2 := r2.ext
    have s2 := X2.size
    have hD2 := hD.ext X2
    refine W_rg fun K0 hK => (W_text [true, true, false, false, true, true, false, false, true, true] (by kernel_rfl) ?_); simp only [↓List.toList_toArray, ↓rgd, ↓rgf, ↓reduceIte, Nat.reduceEqDiff, rg, ow_27]
    refine do_bsl rfl (bs_n1 (valOf t k)) fun w3 n3 => ⟨trivial, ?_⟩
    simp only [↓List.toList_toArray, ↓rgd, ↓rgf, ↓reduceIte, Nat.reduceEqDiff, rg, ow_27]
    have s3 := n3.size
    have hD3 := hD2.ext n3.ext
    have z3 : SlV w3 1 (.slice (some ⟨w2.heap.size, 0, none⟩) 1 1) 1 (En.cel (valOf t k)) := ⟨rfl, .inr ⟨_, 0, 1, rfl, Nat.le_refl _, n3.row, n3.wok.R (Nat.le_refl _)⟩⟩
    refine do_append (by simp only [evt, evc, upd_eq, Nat.reduceEqDiff, ↓reduceIte, ntT, ntF] <;> rfl) (by simp only [evt, evc, upd_eq, Nat.reduceEqDiff, ↓reduceIte, ntT, ntF] <;> rfl) el_n rfl ni_n hD3.n.sl z3 (by rw [List.length_map]; omega) (by decide) (En.one _) fun v4 w4 a4 => ⟨trivial, ?_⟩
    obtain ⟨hD4, X4⟩ := hD3.appN a4 (by omega)
    simp only [↓List.toList_toArray, ↓rgd, ↓rgf, ↓reduceIte, Nat.reduceEqDiff, rg, ow_27]
    have s4 := X4.size
    refine do_bsl rfl (bs_t1 _) fun w5 n5 => ⟨trivial, ?_⟩
    simp only [↓List.toList_toArray, ↓rgd, ↓rgf, ↓reduceIte, Nat.reduceEqDiff, rg, ow_27]
    have s5 := n5.size
    have hD5 := hD4.ext n5.ext
    have z5 : SlV w5 1 (.slice (some ⟨w4.heap.size, 0, none⟩) 1 1) 1 (Eb.cel (hit O κ k t)) := ⟨rfl, .inr ⟨_, 0, 1, rfl, Nat.le_refl _, n5.row, n5.wok.R (Nat.le_refl _)⟩⟩
    refine do_append (by simp only [evt, evc, upd_eq, Nat.reduceEqDiff, ↓reduceIte, ntT, ntF] <;> rfl) (by simp only [evt, evc, upd_eq, Nat.reduceEqDiff, ↓reduceIte, ntT, ntF] <;> rfl) el_t rfl ni_t hD5.b.sl z5 (by rw [List.length_map]; omega) (by decide) (Eb.one _) fun v6 w6 a6 => ⟨trivial, ?_⟩
    obtain ⟨hD6, X6⟩ := hD5.appB a6 (by omega)
    simp only [↓List.toList_toArray, ↓rgd, ↓rgf, ↓reduceIte, Nat.reduceEqDiff, rg, ow_27]
    refine hK _ _ ?_; clear hK K0
    show W _ _ _ _ _ _
    have q1 := wadd1 i (by omega)
    refine W_rg fun K0 hK => (W_text [true, true] (by kernel_rfl) ?_); simp only [↓List.toList_toArray, ↓rgd, ↓rgf, ↓reduceIte, Nat.reduceEqDiff, rg, ow_27, e20, q1]
    refine hK _ _ ?_; clear hK K0
    refine ⟨_, ?_, i + 1, rfl, hlt, ?_, ?_, ?_, ?_, ?_, (((X.tr ((X2.tr n3.ext).mono fun _ _ _ h => h.elim)).tr X4).tr (n5.ext.mono fun _ _ _ h => h.elim)).tr X6⟩
    · omega
    · simp only [upd_eq, Nat.reduceEqDiff, ↓reduceIte]; exact e18
    · simp only [upd_eq, Nat.reduceEqDiff, ↓reduceIte]; exact e19
    · simp only [upd_eq, Nat.reduceEqDiff, ↓reduceIte]
    · simp only [upd_eq, Nat.reduceEqDiff, ↓reduceIte]; exact e8
    · simp only [upd_eq, Nat.reduceEqDiff, ↓reduceIte]
      rw [take_snoc hx, List.map_append, List.map_append]
      exact hD6
  · obtain rfl : i = ks.length := by omega
    have ht := lt_ff ks.length ks.length (by omega)
    refine W_sq fun K0 hK => (W_text [true] (by kernel_rfl) ?_); simp only [↓List.toList_toArray, ↓rgd, ↓rgf, ↓reduceIte, Nat.reduceEqDiff, rg, ow_27, e19, e20, ht]
    refine hK _ _ ?_; clear hK K0
    refine W_seq (W_false (by simp only [evt, evc, upd_eq, Nat.reduceEqDiff, ↓reduceIte, ntT, ntF] <;> rfl) (W_exit ?_))
    simp only [andThen_exit, inBlk_exit, andThen_normal, ↓reduceIte]
    refine W_sq fun K0 hK => (W_text [true, true, true, true] (by kernel_rfl) ?_); simp only [↓List.toList_toArray, ↓rgd, ↓rgf, ↓reduceIte, Nat.reduceEqDiff, rg, ow_27]
    refine hK _ _ ?_; clear hK K0
    rw [List.take_length] at hD
    exact W_ret (endQ_2 (by simp only [upd_eq, Nat.reduceEqDiff, ↓reduceIte] <;> rfl) (by simp only [upd_eq, Nat.reduceEqDiff, ↓reduceIte] <;> rfl) ⟨_, _, rfl, ⟨⟨hD.n.sl, fun b o n c h => by have := hD.n.si _ _ _ _ h; omega⟩, ⟨hD.b.sl, fun b o n c h => by have := hD.b.si _ _ _ _ h; omega⟩, hD.ap⟩, noF_of X1 X fun y o hy g => by omega⟩)
set_option maxHeartbeats 2000000 in
set_option maxRecDepth 8000 in
theorem spec_wget (l : List It) (lv : Value) (ks : List ByteArray) (kv : Value) (w : World) (hl : SlI w lv l) (hk : SlV w 1 kv ks.length (flat Es ks)) (hbig : l.length ≤ 2147483647) (hkb : ks.length ≤ 2147483647) :
    CallK Try.prog 28 #[lv, kv] w fun v w' => ∃ nv bv, v = .tuple #[nv, bv] ∧ Duo w.heap.size nv bv (ks.map (valOf (tree l))) (ks.map (fun k => hit O κ k (tree l))) w' ∧ Ext noF w w' := by
  obtain ⟨a, c, hkv⟩ := hk.shape
  refine calls_of_W [.tmp 4, .tmp 5] Try.func28 rfl Try.ntmps28 Try.results28 (by simp) fun e he => ?_
  have e0 : e 0 = lv := he 0 _ rfl
  have e1 : e 1 = .slice a ks.length c := by rw [← hkv]; exact he 1 _ rfl
  clear he
  refine W_sq fun K0 hK => (W_text [true, true] (by kernel_rfl) ?_); simp only [↓List.toList_toArray, ↓rgd, ↓rgf, ↓reduceIte, Nat.reduceEqDiff, rg, ow_28]
  refine hK _ _ ?_; clear hK K0
  refine W_sq fun K0 hK => (W_text [true, false, true] (by kernel_rfl) ?_); simp only [↓List.toList_toArray, ↓rgd, ↓rgf, ↓reduceIte, Nat.reduceEqDiff, rg, ow_28, e0]
  refine do_call fn_37 (by simp only [evt, evc, upd_eq, Nat.reduceEqDiff, ↓reduceIte, maT, maC, maN, isnN, isnS] <;> rfl) (words_any l lv w hl hbig) ?_
  rintro tv w1 ⟨h1, X1⟩
  refine ⟨trivial, ?_⟩
  simp only [↓List.toList_toArray, ↓rgd, ↓rgf, ↓reduceIte, Nat.reduceEqDiff, rg, ow_28]
  refine hK _ _ ?_; clear hK K0
  refine W_sq fun K0 hK => (W_text [true] (by kernel_rfl) ?_); simp only [↓List.toList_toArray, ↓rgd, ↓rgf, ↓reduceIte, Nat.reduceEqDiff, rg, ow_28]
  refine hK _ _ ?_; clear hK K0
  refine W_sq fun K0 hK => (W_text [true] (by kernel_rfl) ?_); simp only [↓List.toList_toArray, ↓rgd, ↓rgf, ↓reduceIte, Nat.reduceEqDiff, rg, ow_28]
  refine hK _ _ ?_; clear hK K0
  refine W_seq (W_seq ?_)
  refine W_rg fun K0 hK => (W_text [true, true, true] (by kernel_rfl) ?_); simp only [↓List.toList_toArray, ↓rgd, ↓rgf, ↓reduceIte, Nat.reduceEqDiff, rg, ow_28, e1]
  refine hK _ _ ?_; clear hK K0
  show W _ _ _ _ _ _
  have s1 := X1.size
  have htl := tree_len l
  generalize tree l = t at *
  have hk1 := hk.ext0 X1
  obtain ⟨a2, c2, htv⟩ := h1.shape
  refine W_block (W_loop (fun mm e w' => ∃ i : Nat, mm = ks.length - i ∧ i ≤ ks.length ∧ e 16 = .slice a ks.length c ∧ e 17 = .int .i64 ks.length ∧ e 18 = .int .i64 i ∧ e 6 = tv ∧ Duo w1.heap.size (e 7) (e 8) ((ks.take i).map (valOf t)) ((ks.take i).map (fun k => hit O κ k t)) w' ∧ Ext (fun y _ => w1.heap.size ≤ y) w1 w')
    ks.length ⟨0, rfl, Nat.zero_le _, ?_, ?_, ?_, ?_, ?_, Ext.refl _ _⟩ ?_)
  · simp only [upd_eq, Nat.reduceEqDiff, ↓reduceIte]
  · simp only [upd_eq, Nat.reduceEqDiff, ↓reduceIte]
  · simp only [upd_eq, Nat.reduceEqDiff, ↓reduceIte]; rfl
  · simp only [upd_eq, Nat.reduceEqDiff, ↓reduceIte]
  · simp only [upd_eq, Nat.reduceEqDiff, ↓reduceIte]; exact Duo.nil _ _
  clear e0 e1 e
  rintro mm e w' ⟨i, rfl, hi, e16, e17, e18, e6, hD, X⟩
  have sX := X.size
  by_cases hlt : i < ks.length
  · have ht := lt_tt i ks.length hlt
    refine W_sq fun K0 hK => (W_text [true] (by kernel_rfl) ?_); simp only [↓List.toList_toArray, ↓rgd, ↓rgf, ↓reduceIte, Nat.reduceEqDiff, rg, ow_28, e17, e18, ht]
    refine hK _ _ ?_; clear hK K0
    refine W_seq (W_true (by simp only [evt, evc, upd_eq, Nat.reduceEqDiff, ↓reduceIte, ntT, ntF] <;> rfl) (W_skip ?_))
    show W _ _ _ _ _ _
    obtain ⟨k, hx⟩ : ∃ k, ks[i]? = some k := ⟨_, List.getElem?_eq_getElem hlt⟩
    obtain ⟨b, o, rfl, row⟩ := hk1.at hkv hlt
    have hbl := hk1.lt hkv
    have ix := sV_at (X.row row fun _ _ h => by omega) hx
    have hT : SlI w' tv t := h1.ext X fun b o c hb j _ g => by have := h1.lt hb; omega
    refine W_seq (W_block ?_)
    refine W_sq fun K0 hK => (W_text [true, true, true] (by kernel_rfl) ?_); simp only [↓List.toList_toArray, ↓rgd, ↓rgf, ↓reduceIte, Nat.reduceEqDiff, rg, ow_28, e16, e18, hlt, ix]
    refine hK _ _ ?_; clear hK K0
    have hlk : (ks.take i).length = i := by rw [List.length_take]; omega
    refine W_sq fun K0 hK => (W_text [true] (by kernel_rfl) ?_); simp only [↓List.toList_toArray, ↓rgd, ↓rgf, ↓reduceIte, Nat.reduceEqDiff, rg, ow_28]
    refine hK _ _ ?_; clear hK K0
    refine W_sq fun K0 hK => (W_text [true, true, false, true, true, true, true, true] (by kernel_rfl) ?_); simp only [↓List.toList_toArray, ↓rgd, ↓rgf, ↓reduceIte, Nat.reduceEqDiff, rg, ow_28, e6]
    refine do_call fn_44 (by simp only [evt, evc, upd_eq, Nat.reduceEqDiff, ↓reduceIte, maT, maC, maN, isnN, isnS] <;> rfl) (spot_any t tv k w' hT (by omega)) ?_
    rintro _ w2 ⟨rfl, r2⟩
    refine ⟨trivial, ?_⟩
    simp only [↓List.toList_toArray, ↓rgd, ↓rgf, ↓reduceIte, Nat.reduceEqDiff, rg, ow_28]
    refine hK _ _ ?_; clear hK K0
    have X2 : Ext noF w' w2 := r2.ext
    have s2 := X2.size
    have hD2 := hD.ext X2
    refine W_sqx fun K hK => ?_
    have hrest : ∀ e' : Env, e' 16 = .slice (some ⟨b, o, none⟩) ks.length c → e' 17 = .int .i64 ks.length → e' 18 = .int .i64 i → e' 6 = tv → e' 7 = e 7 → e' 8 = e 8 → e' 11 = .int .i64 (valOf t k) → e' 13 = .bool (hit O κ k t) → K e' w2 := by
      intro e' f16 f17 f18 f6 f7 f8 f11 f13
      refine hK _ _ ?_; clear hK K
      refine W_rg fun K0 hK => (W_text [true, true, false, false, true, true, false, false, true, true] (by kernel_rfl) ?_); simp only [↓List.toList_toArray, ↓rgd, ↓rgf, ↓reduceIte, Nat.reduceEqDiff, rg, ow_28, f7, f11]
      refine do_bsl rfl (bs_n1 (valOf t k)) fun w3 n3 => ⟨trivial, ?_⟩
      simp only [↓List.toList_toArray, ↓rgd, ↓rgf, ↓reduceIte, Nat.reduceEqDiff, rg, ow_28]
      have s3 := n3.size
      have hD3 := hD2.ext n3.ext
      have z3 : SlV w3 1 (.slice (some ⟨w2.heap.size, 0, none⟩) 1 1) 1 (En.cel (valOf t k)) := ⟨rfl, .inr ⟨_, 0, 1, rfl, Nat.le_refl _, n3.row, n3.wok.R (Nat.le_refl _)⟩⟩
      refine do_append (by simp only [evt, evc, upd_eq, Nat.reduceEqDiff, ↓reduceIte, ntT, ntF] <;> rfl) (by simp only [evt, evc, upd_eq, Nat.reduceEqDiff, ↓reduceIte, ntT, ntF] <;> rfl) el_n rfl ni_n hD3.n.sl z3 (by rw [List.length_map]; omega) (by decide) (En.one _) fun v4 w4 a4 => ⟨trivial, ?_⟩
      obtain ⟨hD4, X4⟩ := hD3.appN a4 (by omega)
      simp only [↓List.toList_toArray, ↓rgd, ↓rgf, ↓reduceIte, Nat.reduceEqDiff, rg, ow_28, f8, f13]
      have s4 := X4.size
      refine do_bsl rfl (bs_t1 _) fun w5 n5 => ⟨trivial, ?_⟩
      simp only [↓List.toList_toArray, ↓rgd, ↓rgf, ↓reduceIte, Nat.reduceEqDiff, rg, ow_28]
      have s5 := n5.size
      have hD5 := hD4.ext n5.ext
      have z5 : SlV w5 1 (.slice (some ⟨w4.heap.size, 0, none⟩) 1 1) 1 (Eb.cel (hit O κ k t)) := ⟨rfl, .inr ⟨_, 0, 1, rfl, Nat.le_refl _, n5.row, n5.wok.R (Nat.le_refl _)⟩⟩
      refine do_append (by simp only [evt, evc, upd_eq, Nat.reduceEqDiff, ↓reduceIte, ntT, ntF] <;> rfl) (by simp only [evt, evc, upd_eq, Nat.reduceEqDiff, ↓reduceIte, ntT, ntF] <;> rfl) el_t rfl ni_t hD5.b.sl z5 (by rw [List.length_map]; omega) (by decide) (Eb.one _) fun v6 w6 a6 => ⟨trivial, ?_⟩
      obtain ⟨hD6, X6⟩ := hD5.appB a6 (by omega)
      simp only [↓List.toList_toArray, ↓rgd, ↓rgf, ↓reduceIte, Nat.reduceEqDiff, rg, ow_28]
      refine hK _ _ ?_; clear hK K0
      simp only [inBlk_normal, andThen_normal]
      have q1 := wadd1 i (by omega)
      refine W_rg fun K0 hK => (W_text [true, true] (by kernel_rfl) ?_); simp only [↓List.toList_toArray, ↓rgd, ↓rgf, ↓reduceIte, Nat.reduceEqDiff, rg, ow_28, f18, q1]
      refine hK _ _ ?_; clear hK K0
      refine ⟨_, ?_, i + 1, rfl, hlt, ?_, ?_, ?_, ?_, ?_, (((X.tr ((X2.tr n3.ext).mono fun _ _ _ h => h.elim)).tr X4).tr (n5.ext.mono fun _ _ _ h => h.elim)).tr X6⟩
      · omega
      · simp only [upd_eq, Nat.reduceEqDiff, ↓reduceIte]; exact f16
      · simp only [upd_eq, Nat.reduceEqDiff, ↓reduceIte]; exact f17
      · simp only [upd_eq, Nat.reduceEqDiff, ↓reduceIte]
      · simp only [upd_eq, Nat.reduceEqDiff, ↓reduceIte]; exact f6
      · simp only [upd_eq, Nat.reduceEqDiff, ↓reduceIte]
        rw [take_snoc hx, List.map_append, List.map_append]
        exact hD6
    clear hK
    cases hh : hit O κ k t with
    | false =>
      have hv : valOf t k = 0 := by unfold valOf; rw [at_none hh]; rfl
      refine W_sq fun K0 hK => (W_text [true] (by kernel_rfl) ?_); simp only [↓List.toList_toArray, ↓rgd, ↓rgf, ↓reduceIte, Nat.reduceEqDiff, rg, ow_28, hh]
      refine hK _ _ ?_; clear hK K0
      refine W_false (by simp only [evt, evc, upd_eq, Nat.reduceEqDiff, ↓reduceIte, ntT, ntF] <;> rfl) (W_skip ?_)
      simp only [andThen_normal]
      refine hrest _ ?_ ?_ ?_ ?_ ?_ ?_ ?_ ?_
      · simp only [upd_eq, Nat.reduceEqDiff, ↓reduceIte]; exact e16
      · simp only [upd_eq, Nat.reduceEqDiff, ↓reduceIte]; exact e17
      · simp only [upd_eq, Nat.reduceEqDiff, ↓reduceIte]; exact e18
      · simp only [upd_eq, Nat.reduceEqDiff, ↓reduceIte]; exact e6
      · simp only [upd_eq, Nat.reduceEqDiff, ↓reduceIte]
      · simp only [upd_eq, Nat.reduceEqDiff, ↓reduceIte]
      · simp only [upd_eq, Nat.reduceEqDiff, ↓reduceIte]; rw [hv]
      · simp only [upd_eq, Nat.reduceEqDiff, ↓reduceIte]; rw [hh]
    | true =>
      obtain ⟨y, hy, _⟩ := hit_at O κ hh
      have hil := (List.getElem?_eq_some_iff.1 hy).1
      have hv : valOf t k = y.2 := by unfold valOf at?; rw [hh, if_pos rfl, hy]; rfl
      obtain ⟨b2, o2, rfl, row2⟩ := h1.at htv hil
      have hT2 := hT.ext0 X2
      obtain ⟨b3, o3, g3, row3⟩ := SlV.at hT2 htv hil
      simp only [Option.some.injEq, Addr.mk.injEq, and_true] at g3
      obtain ⟨rfl, rfl⟩ := g3
      have hyv : rd w2 b2 (o2 + lb O κ k t * 2 + 1) = some (.int .i64 y.2) := iv_at row3 hy
      refine W_sq fun K0 hK => (W_text [true] (by kernel_rfl) ?_); simp only [↓List.toList_toArray, ↓rgd, ↓rgf, ↓reduceIte, Nat.reduceEqDiff, rg, ow_28, hh]
      refine hK _ _ ?_; clear hK K0
      refine W_true (by simp only [evt, evc, upd_eq, Nat.reduceEqDiff, ↓reduceIte, ntT, ntF] <;> rfl) ?_
      rw [htv] at e6
      refine W_rg fun K0 hK => (W_text [true, true, true, true, true, true] (by kernel_rfl) ?_); simp only [↓List.toList_toArray, ↓rgd, ↓rgf, ↓reduceIte, Nat.reduceEqDiff, rg, ow_28, e6, hil, hyv]
      refine hK _ _ ?_; clear hK K0
      simp only [andThen_normal]
      refine hrest _ ?_ ?_ ?_ ?_ ?_ ?_ ?_ ?_
      · simp only [upd_eq, Nat.reduceEqDiff, ↓reduceIte]; exact e16
      · simp only [upd_eq, Nat.reduceEqDiff, ↓reduceIte]; exact e17
      · simp only [upd_eq, Nat.reduceEqDiff, ↓reduceIte]; exact e18
      · simp only [upd_eq, Nat.reduceEqDiff, ↓reduceIte]; rw [htv]; exact e6
      · simp only [upd_eq, Nat.reduceEqDiff, ↓reduceIte]
      · simp only [upd_eq, Nat.reduceEqDiff, ↓reduceIte]
      · simp only [upd_eq, Nat.reduceEqDiff, ↓reduceIte]; rw [hv]
      · simp only [upd_eq, Nat.reduceEqDiff, ↓reduceIte]; rw [hh]
  · obtain rfl : i = ks.length := by omega
    have ht := lt_ff ks.length ks.length (by omega)
    refine W_sq fun K0 hK => (W_text [true] (by kernel_rfl) ?_); simp only [↓List.toList_toArray, ↓rgd, ↓rgf, ↓reduceIte, Nat.reduceEqDiff, rg, ow_28, e17, e18, ht]
    refine hK _ _ ?_; clear hK K0
    refine W_seq (W_false (by simp only [evt, evc, upd_eq, Nat.reduceEqDiff, ↓reduceIte, ntT, ntF] <;> rfl) (W_exit ?_))
    simp only [andThen_exit, inBlk_exit, andThen_normal, ↓reduceIte]
    refine W_sq fun K0 hK => (W_text [true, true, true, true] (by kernel_rfl) ?_); simp only [↓List.toList_toArray, ↓rgd, ↓rgf, ↓reduceIte, Nat.reduceEqDiff, rg, ow_28]
    refine hK _ _ ?_; clear hK K0
    rw [List.take_length] at hD
    exact W_ret (endQ_2 (by simp only [upd_eq, Nat.reduceEqDiff, ↓reduceIte] <;> rfl) (by simp only [upd_eq, Nat.reduceEqDiff, ↓reduceIte] <;> rfl) ⟨_, _, rfl, ⟨⟨hD.n.sl, fun b o n c h => by have := hD.n.si _ _ _ _ h; omega⟩, ⟨hD.b.sl, fun b o n c h => by have := hD.b.si _ _ _ _ h; omega⟩, hD.ap⟩, noF_of X1 X fun y o hy g => by omega⟩)
set_option maxHeartbeats 400000 in
set_option maxRecDepth 8000 in
theorem law_wget (d : Nat) (hd : 2 ≤ d) (hd' : d ≤ 128) (l : List It) (lv : Value) (ks : List ByteArray) (kv : Value) (w : World) (hl : SlI w lv l) (hk : SlV w 1 kv ks.length (flat Es ks)) (hbig : l.length ≤ 2147483647) (hkb : ks.length ≤ 2147483647) :
    CallK Try.prog 17 #[.int .i64 d, lv, kv] w fun v w' => v = .bool true ∧ Ext noF w w' := by
  refine calls_of_W [.tmp 6] Try.func17 rfl Try.ntmps17 Try.results17 (by simp) fun e he => ?_
  have e0 : e 0 = .int .i64 d := he 0 _ rfl
  have e1 : e 1 = lv := he 1 _ rfl
  have e2 : e 2 = kv := he 2 _ rfl
  clear he
  refine W_sq fun K0 hK => (W_text [true] (by kernel_rfl) ?_); simp only [↓List.toList_toArray, ↓rgd, ↓rgf, ↓reduceIte, Nat.reduceEqDiff, rg, ow_17]
  refine hK _ _ ?_; clear hK K0
  refine W_sq fun K0 hK => (W_text [true, true, true, false, true, true, true, true, true] (by kernel_rfl) ?_); simp only [↓List.toList_toArray, ↓rgd, ↓rgf, ↓reduceIte, Nat.reduceEqDiff, rg, ow_17, e0, e1, e2]
  refine do_call fn_27 (by simp only [evt, evc, upd_eq, Nat.reduceEqDiff, ↓reduceIte, maT, maC, maN, isnN, isnS] <;> rfl) (impl_wget d hd hd' l lv ks kv w hl hk hbig hkb) ?_
  rintro _ w1 ⟨n1, b1, rfl, h1, X1⟩
  refine ⟨trivial, ?_⟩
  simp only [↓List.toList_toArray, ↓rgd, ↓rgf, ↓reduceIte, Nat.reduceEqDiff, rg, ow_17]
  refine hK _ _ ?_; clear hK K0
  refine W_sq fun K0 hK => (W_text [true, true, false, true, true, true, true, true] (by kernel_rfl) ?_); simp only [↓List.toList_toArray, ↓rgd, ↓rgf, ↓reduceIte, Nat.reduceEqDiff, rg, ow_17, e1, e2]
  refine do_call fn_28 (by simp only [evt, evc, upd_eq, Nat.reduceEqDiff, ↓reduceIte, maT, maC, maN, isnN, isnS] <;> rfl) (spec_wget l lv ks kv w1 (hl.ext0 X1) (hk.ext0 X1) hbig hkb) ?_
  rintro _ w2 ⟨n2, b2, rfl, h2, X2⟩
  refine ⟨trivial, ?_⟩
  simp only [↓List.toList_toArray, ↓rgd, ↓rgf, ↓reduceIte, Nat.reduceEqDiff, rg, ow_17]
  refine hK _ _ ?_; clear hK K0
  have h1 := h1.ext X2
  refine W_sq fun K0 hK => (W_text [true, true, false, true, true, true, false, true, true] (by kernel_rfl) ?_); simp only [↓List.toList_toArray, ↓rgd, ↓rgf, ↓reduceIte, Nat.reduceEqDiff, rg, ow_17]
  refine do_call fn_29 (by simp only [evt, evc, upd_eq, Nat.reduceEqDiff, ↓reduceIte, maT, maC, maN, isnN, isnS] <;> rfl) (eq_n _ n1 n2 w2 h1.n.sl h2.n.sl (by rw [List.length_map]; omega)) ?_
  rintro _ w3 ⟨rfl, r3⟩
  refine ⟨trivial, ?_⟩
  simp only [↓List.toList_toArray, ↓rgd, ↓rgf, ↓reduceIte, Nat.reduceEqDiff, rg, ow_17]
  refine do_call fn_30 (by simp only [evt, evc, upd_eq, Nat.reduceEqDiff, ↓reduceIte, maT, maC, maN, isnN, isnS] <;> rfl) (eq_t _ b1 b2 w3 (h1.b.sl.ext0 r3.ext) (h2.b.sl.ext0 r3.ext) (by rw [List.length_map]; omega)) ?_
  rintro _ w4 ⟨rfl, r4⟩
  refine ⟨trivial, ?_⟩
  simp only [↓List.toList_toArray, ↓rgd, ↓rgf, ↓reduceIte, Nat.reduceEqDiff, rg, ow_17]
  refine hK _ _ ?_; clear hK K0
  exact W_ret (endQ_1 (by simp only [upd_eq, Nat.reduceEqDiff, ↓reduceIte] <;> rfl) ⟨rfl, ((X1.tr X2).tr r3.ext).tr r4.ext⟩)
end Go.Proofs.Ytinpigpeoakeaaa
/-
  Popping words: one pop, all words. No condition.
-/
set_option linter.unusedSimpArgs false
set_option linter.unusedVariables false
namespace Go.Proofs.Ytinpigpeoakeaaa
open Go Go.Proofs
def popO (last : Bool) (xs : List It) : Option It := if last = true then xs.getLast? else xs.head?
def popR (last : Bool) (xs : List It) : List It := if last = true then xs.dropLast else xs.tail
/-- The items as they are popped, and what is left. -/
def popD (last : Bool) (xs : List It) : List It := if last = true then xs.reverse else xs
def popL (last : Bool) (xs : List It) (k : Nat) : List It := if last = true then (xs.reverse.drop k).reverse else xs.drop k
theorem popO_L (last : Bool) (xs : List It) (k : Nat) : popO last (popL last xs k) = (popD last xs)[k]? := by
  cases last with
  | false => simp [popO, popL, popD, List.head?_drop]
  | true => simp only [popO, popL, popD, ↓reduceIte]; rw [List.getLast?_reverse, List.head?_drop]
theorem popR_L (last : Bool) (xs : List It) (k : Nat) : popR last (popL last xs k) = popL last xs (k + 1) := by
  cases last with
  | false => simp [popR, popL, List.tail_drop]
  | true => simp only [popR, popL, ↓reduceIte]; rw [List.dropLast_reverse, List.tail_drop]
theorem popL_0 (last : Bool) (xs : List It) : popL last xs 0 = xs := by cases last <;> simp [popL]
theorem popL_end (last : Bool) (xs : List It) (k : Nat) (h : xs.length ≤ k) : popL last xs k = [] := by
  cases last with
  | false => simp [popL, List.drop_eq_nil_of_le h]
  | true => simp only [popL, ↓reduceIte]; rw [List.drop_eq_nil_of_le (by simpa using h)]; rfl
theorem popD_len (last : Bool) (xs : List It) : (popD last xs).length = xs.length := by cases last <;> simp [popD]
theorem popL_len (last : Bool) (xs : List It) (k : Nat) : (popL last xs k).length = xs.length - k := by cases last <;> simp [popL]
set_option maxHeartbeats 800000 in
set_option maxRecDepth 8000 in
theorem popped_any (m d : Nat) (last : Bool) (hd : 2 ≤ d) (hd' : d ≤ 128) (xs : List It) (F : Nat → Nat → Prop) (w : World) (hM : MapAt w m d 0 xs F) (hbig : xs.length < 1152921504606846976) :
    CallK Try.prog 33 #[ptr m, .bool last] w fun v w' => PopQ m d 0 (popO last xs) (popR last xs) F w v w' := by
  refine calls_of_W [.tmp 4, .tmp 5, .tmp 6] Try.func33 rfl Try.ntmps33 Try.results33 (by simp) fun e he => ?_
  have e0 : e 0 = ptr m := he 0 _ rfl
  have e1 : e 1 = .bool last := he 1 _ rfl
  clear he
  refine W_sq fun K hK => (W_text [true, true, true] (by kernel_rfl) ?_); simp only [↓List.toList_toArray, ↓rgd, ↓rgf, ↓reduceIte, Nat.reduceEqDiff, rg, ow_33]
  refine hK _ _ ?_; clear hK K
  refine W_seq ?_
  refine W_sq fun K hK => (W_text [true] (by kernel_rfl) ?_); simp only [↓List.toList_toArray, ↓rgd, ↓rgf, ↓reduceIte, Nat.reduceEqDiff, rg, ow_33, e1]
  refine hK _ _ ?_; clear hK K
  cases last with
  | true =>
    refine W_true (by simp only [evt, evc, upd_eq, Nat.reduceEqDiff, ↓reduceIte, ntT, ntF] <;> rfl) ?_
    refine W_sq fun K hK => (W_text [true, false, true, true, true, true, true, true] (by kernel_rfl) ?_); simp only [↓List.toList_toArray, ↓rgd, ↓rgf, ↓reduceIte, Nat.reduceEqDiff, rg, ow_33, e0]
    refine do_call fn_45 (by simp only [evt, evc, upd_eq, Nat.reduceEqDiff, ↓reduceIte, maT, maC, maN, isnN, isnS] <;> rfl) (popMax_any m d 0 hd hd' xs F w hM hbig) ?_
    rintro _ w1 ⟨rfl, X1, F', hM', hF'⟩
    refine ⟨trivial, ?_⟩
    simp only [↓List.toList_toArray, ↓rgd, ↓rgf, ↓reduceIte, Nat.reduceEqDiff, rg, ow_33, pV]
    refine hK _ _ ?_; clear hK K
    refine W_ret ?_
    simp only [andThen_ret]
    exact endQ_3 (by simp only [upd_eq, Nat.reduceEqDiff, ↓reduceIte] <;> rfl) (by simp only [upd_eq, Nat.reduceEqDiff, ↓reduceIte] <;> rfl) (by simp only [upd_eq, Nat.reduceEqDiff, ↓reduceIte] <;> rfl) ⟨rfl, X1, F', hM', hF'⟩
  | false =>
    refine W_false (by simp only [evt, evc, upd_eq, Nat.reduceEqDiff, ↓reduceIte, ntT, ntF] <;> rfl) (W_skip ?_)
    show W _ _ _ _ _ _
    refine W_sq fun K hK => (W_text [true, false, true, true, true, true, true, true] (by kernel_rfl) ?_); simp only [↓List.toList_toArray, ↓rgd, ↓rgf, ↓reduceIte, Nat.reduceEqDiff, rg, ow_33, e0]
    refine do_call fn_46 (by simp only [evt, evc, upd_eq, Nat.reduceEqDiff, ↓reduceIte, maT, maC, maN, isnN, isnS] <;> rfl) (popMin_any m d 0 hd hd' xs F w hM hbig) ?_
    rintro _ w1 ⟨rfl, X1, F', hM', hF'⟩
    refine ⟨trivial, ?_⟩
    simp only [↓List.toList_toArray, ↓rgd, ↓rgf, ↓reduceIte, Nat.reduceEqDiff, rg, ow_33, pV]
    refine hK _ _ ?_; clear hK K
    refine W_ret ?_
    exact endQ_3 (by simp only [upd_eq, Nat.reduceEqDiff, ↓reduceIte] <;> rfl) (by simp only [upd_eq, Nat.reduceEqDiff, ↓reduceIte] <;> rfl) (by simp only [upd_eq, Nat.reduceEqDiff, ↓reduceIte] <;> rfl) ⟨rfl, X1, F', hM', hF'⟩
theorem pV_eq (x : Option It) : pV x = .tuple #[kV (κ (x.getD zIt)), vV (x.getD zIt), .bool x.isSome] := rfl
/-- Words and truth values that are being listed. -/
structure DuoW (B : Nat) (ov bv : Value) (N : List It) (T : List Bool) (w : World) : Prop where
  n : OutE Ei B ov N w
  b : OutE Eb B bv T w
  ap : apart2 ov bv
theorem DuoW.ext {B : Nat} {nv bv : Value} {N : List It} {T : List Bool} {w w' : World} (h : DuoW B nv bv N T w) (x : Ext noF w w') : DuoW B nv bv N T w' := ⟨h.n.ext x, h.b.ext x, h.ap⟩
theorem DuoW.nil (B : Nat) (w : World) : DuoW B (.slice none 0 0) (.slice none 0 0) [] [] w := ⟨OutE.nil _ _ _, OutE.nil _ _ _, fun b o n c o' n' c' h => by cases h⟩
theorem DuoW.appN {B : Nat} {nv bv nv' : Value} {N : List It} {T : List Bool} {x : It} {w w' : World} (h : DuoW B nv bv N T w) (a : AppRes w 2 nv N.length 1 (flat Ei N) (Ei.cel x) nv' w') (hB : B ≤ w.heap.size) : DuoW B nv' bv (N ++ [x]) T w' ∧ Ext (fun y _ => B ≤ y) w w' ∧ ∀ y, y < w.heap.size → (∀ o n c, nv ≠ .slice (some ⟨y, o, none⟩) n c) → w'.heap[y]? = w.heap[y]? := by
  obtain ⟨h1, h2⟩ := h.n.app a hB
  obtain ⟨h3, h4⟩ := app_other a h.b.sl h.ap
  exact ⟨⟨h1, ⟨h3, h.b.si⟩, h4⟩, h2, fun y hy hn => app_block a hy fun o n c hv => hn o n c hv⟩
theorem DuoW.appB {B : Nat} {nv bv bv' : Value} {N : List It} {T : List Bool} {x : Bool} {w w' : World} (h : DuoW B nv bv N T w) (a : AppRes w 1 bv T.length 1 (flat Eb T) (Eb.cel x) bv' w') (hB : B ≤ w.heap.size) : DuoW B nv bv' N (T ++ [x]) w' ∧ Ext (fun y _ => B ≤ y) w w' ∧ ∀ y, y < w.heap.size → (∀ o n c, bv ≠ .slice (some ⟨y, o, none⟩) n c) → w'.heap[y]? = w.heap[y]? := by
  obtain ⟨h1, h2⟩ := h.b.app a hB
  obtain ⟨h3, h4⟩ := app_other a h.n.sl h.ap.symm
  exact ⟨⟨⟨h3, h.n.si⟩, h1, h4.symm⟩, h2, fun y hy hn => app_block a hy fun o n c hv => hn o n c hv⟩
/-- A slice that lies outside of a tree's cells. -/
def offB (v : Value) (F : Nat → Nat → Prop) : Prop := ∀ b o n c, v = .slice (some ⟨b, o, none⟩) n c → ∀ p, ¬ F b p
theorem offB_nil (F : Nat → Nat → Prop) : offB (.slice none 0 0) F := fun b o n c h => by cases h
theorem app_off {w w' : World} {sz n m B : Nat} {v v' : Value} {l l' : List Value} {F : Nat → Nat → Prop} (h : AppRes w sz v n m l l' v' w') (hv : since B v) (ho : offB v F) (hF : ∀ y o, F y o → y < w.heap.size) (hB : B ≤ w.heap.size) :
    offB v' F ∧ Ext (fun y _ => B ≤ y ∧ ∀ p, ¬ F y p) w w' := by
  rcases h.2 with ⟨rfl, rfl, h3⟩ | ⟨b0, o0, cap0, rfl, rfl, h3, h4, h5⟩ | ⟨cap', rfl, h2, h3⟩
  · exact ⟨ho, Ext.refl _ _⟩
  · have hb := hv _ _ _ _ rfl
    have hf := ho _ _ _ _ rfl
    refine ⟨fun b o n c h => ?_, h3.mono fun y o _ g => by simp only [rng] at g; rw [g.1]; exact ⟨hb, hf⟩⟩
    simp only [Value.slice.injEq, Option.some.injEq, Addr.mk.injEq] at h
    rw [← h.1.1]; exact hf
  · refine ⟨fun b o n c h p hp => ?_, h2.mono fun y o _ g => g.elim⟩
    simp only [Value.slice.injEq, Option.some.injEq, Addr.mk.injEq] at h
    have := hF _ _ hp
    omega
/-- A map whose words are popped and listed. -/
def mapG (m : Nat) (F : Nat → Nat → Prop) : Nat → Nat → Prop := fun y o => F y o ∨ y = m
theorem mapF_G {m : Nat} {F : Nat → Nat → Prop} {y o : Nat} (h : mapF m F y o) : mapG m F y o := h.imp id fun g => g.1
structure FillW (B m d : Nat) (ov bv : Value) (xs : List It) (N : List It) (T : List Bool) (w : World) : Prop where
  mp : ∃ F, MapAt w m d 0 xs F ∧ (∀ y o, F y o → B ≤ y) ∧ offB ov (mapG m F) ∧ offB bv (mapG m F)
  duo : DuoW B ov bv N T w
  mB : B ≤ m
  le : B ≤ w.heap.size
theorem FillW.ext {B m d : Nat} {ov bv : Value} {xs N : List It} {T : List Bool} {w w' : World} (h : FillW B m d ov bv xs N T w) (x : Ext noF w w') : FillW B m d ov bv xs N T w' := by
  obtain ⟨F, h1, h2, h3, h4⟩ := h.mp
  exact ⟨⟨F, h1.ext x, h2, h3, h4⟩, h.duo.ext x, h.mB, Nat.le_trans h.le x.size⟩
def fillF (B : Nat) : Nat → Nat → Prop := fun y _ => B ≤ y
theorem FillW.set {B m d : Nat} {ov bv : Value} {xs ys N : List It} {T : List Bool} {w w' : World} {F F' : Nat → Nat → Prop} (h : FillW B m d ov bv xs N T w) (hF : ∀ y o, F y o → B ≤ y) (ho : offB ov (mapG m F)) (hb : offB bv (mapG m F))
    (X : Ext (mapF m F) w w') (hM' : MapAt w' m d 0 ys F') (hF' : ∀ y o, F' y o → F y o ∨ w.heap.size ≤ y) : FillW B m d ov bv ys N T w' ∧ Ext (fillF B) w w' := by
  have hl := h.le
  have hm := h.mB
  have key : ∀ {v : Value} {b p : Nat}, offB v (mapG m F) → (∀ o n c, v = .slice (some ⟨b, o, none⟩) n c → b < w.heap.size) → (∃ o n c, v = .slice (some ⟨b, o, none⟩) n c) → ¬ mapG m F' b p := fun hv hlt ⟨o, n, c, hb⟩ g => by
    rcases g with g | g
    · rcases hF' _ _ g with g | g
      · exact hv _ _ _ _ hb _ (.inl g)
      · have := hlt _ _ _ hb; omega
    · exact hv _ _ _ _ hb 0 (.inr g)
  refine ⟨⟨⟨F', hM', fun y o g => (hF' y o g).elim (hF y o) fun g => by omega, fun b o n c hv p => key ho (fun o n c hv => h.duo.n.sl.lt hv) ⟨o, n, c, hv⟩, fun b o n c hv p => key hb (fun o n c hv => h.duo.b.sl.lt hv) ⟨o, n, c, hv⟩⟩, ⟨⟨h.duo.n.sl.ext X fun b o c hv i hi g => ho _ _ _ _ hv _ (mapF_G g), h.duo.n.si⟩, ⟨h.duo.b.sl.ext X fun b o c hv i hi g => hb _ _ _ _ hv _ (mapF_G g), h.duo.b.si⟩, h.duo.ap⟩, hm, Nat.le_trans hl X.size⟩, X.mono fun y o _ g => g.elim (fun g => hF y o g) fun g => by rw [g.1]; exact hm⟩
theorem FillW.appN {B m d : Nat} {ov bv ov' : Value} {xs N : List It} {T : List Bool} {x : It} {w w' : World} (h : FillW B m d ov bv xs N T w) (a : AppRes w 2 ov N.length 1 (flat Ei N) (Ei.cel x) ov' w') : FillW B m d ov' bv xs (N ++ [x]) T w' ∧ Ext (fillF B) w w' := by
  obtain ⟨F, h1, h2, h3, h4⟩ := h.mp
  have hml := h1.mlt
  obtain ⟨g1, g2⟩ := app_off a h.duo.n.si h3 (fun y o g => g.elim (h1.lt y o) fun g => by omega) h.le
  obtain ⟨g3, -⟩ := h.duo.appN a h.le
  exact ⟨⟨⟨F, h1.extG g2 (fun y o hf hg => hg.2 o (.inl hf)) (fun o hg => hg.2 o (.inr rfl)), h2, g1, h4⟩, g3, h.mB, Nat.le_trans h.le g2.size⟩, g2.mono fun y o _ g => g.1⟩
theorem FillW.appB {B m d : Nat} {ov bv bv' : Value} {xs N : List It} {T : List Bool} {x : Bool} {w w' : World} (h : FillW B m d ov bv xs N T w) (a : AppRes w 1 bv T.length 1 (flat Eb T) (Eb.cel x) bv' w') : FillW B m d ov bv' xs N (T ++ [x]) w' ∧ Ext (fillF B) w w' := by
  obtain ⟨F, h1, h2, h3, h4⟩ := h.mp
  have hml := h1.mlt
  obtain ⟨g1, g2⟩ := app_off a h.duo.b.si h4 (fun y o g => g.elim (h1.lt y o) fun g => by omega) h.le
  obtain ⟨g3, -⟩ := h.duo.appB a h.le
  exact ⟨⟨⟨F, h1.extG g2 (fun y o hf hg => hg.2 o (.inl hf)) (fun o hg => hg.2 o (.inr rfl)), h2, h3, g1⟩, g3, h.mB, Nat.le_trans h.le g2.size⟩, g2.mono fun y o _ g => g.1⟩
theorem bu_kv (x : It) : buildV Try.prog 31 [(0, kV (κ x)), (1, vV x)] = some (iV x) := bu_item x.1 x.2
theorem bV_at {w : World} {b o : Nat} {l : List Bool} (h : Row w b o (flat Eb l)) {i : Nat} {x : Bool} (hi : l[i]? = some x) : rd w b (o + i) = some (.bool x) := by
  have := row_cell (row_at Eb h hi) (j := 0) rfl
  rwa [show Eb.sz = 1 from rfl, Nat.mul_one] at this
/-- What is popped, and how. -/
def outsL (last : Bool) (T : List It) : List It := popD last T ++ [zIt]
def oksL (T : List It) : List Bool := List.replicate T.length true ++ [false]
theorem outs_at (last : Bool) (T : List It) (k : Nat) (hk : k ≤ T.length) : (outsL last T)[k]? = some (((popD last T)[k]?).getD zIt) := by
  have hl := popD_len last T
  unfold outsL
  by_cases h : k < T.length
  · rw [List.getElem?_append_left (by omega), List.getElem?_eq_getElem (by omega)]; rfl
  · obtain rfl : k = T.length := by omega
    rw [List.getElem?_append_right (by omega), hl, Nat.sub_self, List.getElem?_eq_none (l := popD last T) (by omega)]; rfl
theorem oks_at (last : Bool) (T : List It) (k : Nat) (hk : k ≤ T.length) : (oksL T)[k]? = some ((popD last T)[k]?).isSome := by
  have hl := popD_len last T
  unfold oksL
  by_cases h : k < T.length
  · rw [List.getElem?_append_left (by simpa using h), List.getElem?_eq_getElem (by simpa using h), List.getElem?_eq_getElem (l := popD last T) (by omega)]; simp
  · obtain rfl : k = T.length := by omega
    rw [List.getElem?_append_right (by simp), List.getElem?_eq_none (l := popD last T) (by omega)]; simp
set_option maxHeartbeats 1600000 in
set_option maxRecDepth 8000 in
theorem impl_wpops (d : Nat) (hd : 2 ≤ d) (hd' : d ≤ 128) (last : Bool) (l : List It) (lv : Value) (bv : Value) (w : World) (hl : SlI w lv l) (hbig : l.length ≤ 2147483647) (hb : SlV w 1 bv (List.replicate ((tree l).length + 1) last).length (flat Eb (List.replicate ((tree l).length + 1) last))) :
    CallK Try.prog 19 #[.int .i64 d, lv, bv] w fun v w' => ∃ ov kv sv, v = .tuple #[ov, kv, sv] ∧ SlI w' ov (outsL last (tree l)) ∧ SlV w' 1 kv (oksL (tree l)).length (flat Eb (oksL (tree l))) ∧ SlI w' sv [] ∧ Ext noF w w' := by
  obtain ⟨bs, hbs⟩ : ∃ bs, bs = List.replicate ((tree l).length + 1) last := ⟨_, rfl⟩
  rw [← hbs] at hb
  obtain ⟨ka, kc, hkv⟩ := SlV.shape hb
  refine calls_of_W [.tmp 6, .tmp 7, .tmp 8] Try.func19 rfl Try.ntmps19 Try.results19 (by simp) fun e he => ?_
  have e0 : e 0 = .int .i64 d := he 0 _ rfl
  have e1 : e 1 = lv := he 1 _ rfl
  have e2 : e 2 = bv := he 2 _ rfl
  clear he
  rw [hkv] at e2
  have htl := tree_len l
  have hbl : bs.length = (tree l).length + 1 := by rw [hbs]; simp
  refine W_sq fun K hK => (W_text [true, true, true] (by kernel_rfl) ?_); simp only [↓List.toList_toArray, ↓rgd, ↓rgf, ↓reduceIte, Nat.reduceEqDiff, rg, ow_19]
  refine hK _ _ ?_; clear hK K
  refine W_sq fun K hK => (W_text [true, true, false, true] (by kernel_rfl) ?_); simp only [↓List.toList_toArray, ↓rgd, ↓rgf, ↓reduceIte, Nat.reduceEqDiff, rg, ow_19, e0, e1]
  refine do_call fn_24 (by simp only [evt, evc, upd_eq, Nat.reduceEqDiff, ↓reduceIte, maT, maC, maN, isnN, isnS] <;> rfl) (grow_any d hd hd' l lv w hl hbig) ?_
  rintro _ w1 ⟨X1, m, F0, rfl, hM0, hm0, hF0⟩
  refine ⟨trivial, ?_⟩
  simp only [↓List.toList_toArray, ↓rgd, ↓rgf, ↓reduceIte, Nat.reduceEqDiff, rg, ow_19]
  refine hK _ _ ?_; clear hK K
  refine W_sq fun K hK => (W_text [true] (by kernel_rfl) ?_); simp only [↓List.toList_toArray, ↓rgd, ↓rgf, ↓reduceIte, Nat.reduceEqDiff, rg, ow_19]
  refine hK _ _ ?_; clear hK K
  refine W_sq fun K hK => (W_text [true] (by kernel_rfl) ?_); simp only [↓List.toList_toArray, ↓rgd, ↓rgf, ↓reduceIte, Nat.reduceEqDiff, rg, ow_19]
  refine hK _ _ ?_; clear hK K
  have s1 := X1.size
  have hml0 := hM0.mlt
  obtain ⟨B, hB⟩ : ∃ B, B = w.heap.size := ⟨_, rfl⟩
  refine W_seq (W_seq ?_)
  refine W_rg fun K hK => (W_text [true, true, true] (by kernel_rfl) ?_); simp only [↓List.toList_toArray, ↓rgd, ↓rgf, ↓reduceIte, Nat.reduceEqDiff, rg, ow_19, e2]
  refine hK _ _ ?_; clear hK K
  show W _ _ _ _ _ _
  have hfill : FillW B m d (.slice none 0 0) (.slice none 0 0) (popL last (tree l) 0) ((outsL last (tree l)).take 0) ((oksL (tree l)).take 0) w1 := ⟨⟨F0, by rw [popL_0]; exact hM0, fun y o g => by have := hF0 y o g; omega, offB_nil _, offB_nil _⟩, DuoW.nil _ _, by omega, by omega⟩
  have hb1 := SlV.ext0 hb X1
  have hkl : ∀ b o n c, bv = .slice (some ⟨b, o, none⟩) n c → b < w.heap.size := fun b o n c h => SlV.lt hb h
  refine W_block (W_loop (fun mm e w' => ∃ k : Nat, mm = bs.length - k ∧ k ≤ bs.length ∧ e 20 = .slice ka bs.length kc ∧ e 21 = .int .i64 bs.length ∧ e 22 = .int .i64 k ∧ e 9 = ptr m ∧ FillW B m d (e 10) (e 11) (popL last (tree l) k) ((outsL last (tree l)).take k) ((oksL (tree l)).take k) w' ∧ Ext (fillF B) w1 w')
    bs.length ⟨0, by simp, by simp, by simp only [upd_eq, Nat.reduceEqDiff, ↓reduceIte], by simp only [upd_eq, Nat.reduceEqDiff, ↓reduceIte], by simp only [upd_eq, Nat.reduceEqDiff, ↓reduceIte]; rfl, by simp only [upd_eq, Nat.reduceEqDiff, ↓reduceIte], by simp only [upd_eq, Nat.reduceEqDiff, ↓reduceIte]; exact hfill, Ext.refl _ _⟩ ?_)
  clear e0 e1 e2 e hfill
  rintro mm e w' ⟨k, rfl, hk, eS, eL, eI, eM, hfl, X⟩
  have sX := X.size
  by_cases hlt : k < bs.length
  · have ht := lt_tt k bs.length hlt
    refine W_sq fun K hK => (W_text [true] (by kernel_rfl) ?_); simp only [↓List.toList_toArray, ↓rgd, ↓rgf, ↓reduceIte, Nat.reduceEqDiff, rg, ow_19, eL, eI, ht]
    refine hK _ _ ?_; clear hK K
    refine W_seq (W_true (by simp only [evt, evc, upd_eq, Nat.reduceEqDiff, ↓reduceIte, ntT, ntF] <;> rfl) (W_skip ?_))
    show W _ _ _ _ _ _
    have hx : bs[k]? = some last := by rw [hbs, List.getElem?_replicate, if_pos (by omega)]
    obtain ⟨ib, io, hka, row⟩ := SlV.at hb1 hkv hlt
    have hibl := hkl _ _ _ _ (hkv.trans (by rw [hka]))
    have ixx := bV_at (X.row row (fun _ _ (h : B ≤ _) => by omega)) hx
    rw [hka] at eS
    refine W_seq (W_block ?_)
    refine W_sq fun K hK => (W_text [true, true, true] (by kernel_rfl) ?_); simp only [↓List.toList_toArray, ↓rgd, ↓rgf, ↓reduceIte, Nat.reduceEqDiff, rg, ow_19, eS, eI, hlt, ixx]
    refine hK _ _ ?_; clear hK K
    rw [← hka] at eS
    obtain ⟨F1, hM1, hF1, ho1, hb1'⟩ := hfl.mp
    have hpl := popL_len last (tree l) k
    refine W_sq fun K hK => (W_text [true, true, false, true, true, true, true, true, true, true] (by kernel_rfl) ?_); simp only [↓List.toList_toArray, ↓rgd, ↓rgf, ↓reduceIte, Nat.reduceEqDiff, rg, ow_19, eM]
    refine do_call fn_33 (by simp only [evt, evc, upd_eq, Nat.reduceEqDiff, ↓reduceIte, maT, maC, maN, isnN, isnS] <;> rfl) (popped_any m d last hd hd' _ F1 w' hM1 (by omega)) ?_
    rintro _ w2 ⟨rfl, X2, F2, hM2, hF2⟩
    refine ⟨trivial, ?_⟩
    simp only [↓List.toList_toArray, ↓rgd, ↓rgf, ↓reduceIte, Nat.reduceEqDiff, rg, ow_19, pV_eq]
    refine hK _ _ ?_; clear hK K
    rw [popO_L]
    rw [popR_L] at hM2
    obtain ⟨hfl2, Y2⟩ := hfl.set hF1 ho1 hb1' X2 hM2 hF2
    generalize hy : (popD last (tree l))[k]? = y at *
    have hout := outs_at last (tree l) k (by omega)
    have hoks := oks_at last (tree l) k (by omega)
    rw [hy] at hout hoks
    have tk1 : ((outsL last (tree l)).take k).length ≤ k := by rw [List.length_take]; omega
    have tk2 : ((oksL (tree l)).take k).length ≤ k := by rw [List.length_take]; omega
    refine W_rg fun K hK => (W_text [true, true, true, true, false, false, true, true, false, false, true, true] (by kernel_rfl) ?_); simp only [↓List.toList_toArray, ↓rgd, ↓rgf, ↓reduceIte, Nat.reduceEqDiff, rg, ow_19, bu_kv]
    refine do_bsl rfl (bs_item1 (y.getD zIt)) fun w3 n3 => ⟨trivial, ?_⟩
    simp only [↓List.toList_toArray, ↓rgd, ↓rgf, ↓reduceIte, Nat.reduceEqDiff, rg, ow_19]
    have hfl3 := hfl2.ext n3.ext
    have z3 : SlV w3 2 (.slice (some ⟨w2.heap.size, 0, none⟩) 1 1) 1 (Ei.cel (y.getD zIt)) := ⟨rfl, .inr ⟨_, 0, 1, rfl, Nat.le_refl _, n3.row, n3.wok.R (Nat.le_refl _)⟩⟩
    refine do_append (by simp only [evt, evc, upd_eq, Nat.reduceEqDiff, ↓reduceIte, ntT, ntF] <;> rfl) (by simp only [evt, evc, upd_eq, Nat.reduceEqDiff, ↓reduceIte, ntT, ntF] <;> rfl) el_item rfl ni_i hfl3.duo.n.sl z3 (by omega) (by decide) (Ei.one _) fun v4 w4 a4 => ⟨trivial, ?_⟩
    obtain ⟨hfl4, Y4⟩ := hfl3.appN a4
    simp only [↓List.toList_toArray, ↓rgd, ↓rgf, ↓reduceIte, Nat.reduceEqDiff, rg, ow_19]
    refine do_bsl rfl (bs_t1 y.isSome) fun w5 n5 => ⟨trivial, ?_⟩
    simp only [↓List.toList_toArray, ↓rgd, ↓rgf, ↓reduceIte, Nat.reduceEqDiff, rg, ow_19]
    have hfl5 := hfl4.ext n5.ext
    have z5 : SlV w5 1 (.slice (some ⟨w4.heap.size, 0, none⟩) 1 1) 1 (Eb.cel y.isSome) := ⟨rfl, .inr ⟨_, 0, 1, rfl, Nat.le_refl _, n5.row, n5.wok.R (Nat.le_refl _)⟩⟩
    refine do_append (by simp only [evt, evc, upd_eq, Nat.reduceEqDiff, ↓reduceIte, ntT, ntF] <;> rfl) (by simp only [evt, evc, upd_eq, Nat.reduceEqDiff, ↓reduceIte, ntT, ntF] <;> rfl) el_t rfl ni_t hfl5.duo.b.sl z5 (by omega) (by decide) (Eb.one _) fun v6 w6 a6 => ⟨trivial, ?_⟩
    obtain ⟨hfl6, Y6⟩ := hfl5.appB a6
    simp only [↓List.toList_toArray, ↓rgd, ↓rgf, ↓reduceIte, Nat.reduceEqDiff, rg, ow_19]
    refine hK _ _ ?_; clear hK K
    show W _ _ _ _ _ _
    have q1 := wadd1 k (by omega)
    refine W_rg fun K hK => (W_text [true, true] (by kernel_rfl) ?_); simp only [↓List.toList_toArray, ↓rgd, ↓rgf, ↓reduceIte, Nat.reduceEqDiff, rg, ow_19, eI, q1]
    refine hK _ _ ?_; clear hK K
    rw [← take_snoc hout, ← take_snoc hoks] at hfl6
    refine ⟨_, ?_, k + 1, rfl, hlt, by simp only [upd_eq, Nat.reduceEqDiff, ↓reduceIte]; exact eS, by simp only [upd_eq, Nat.reduceEqDiff, ↓reduceIte]; exact eL, by simp only [upd_eq, Nat.reduceEqDiff, ↓reduceIte], by simp only [upd_eq, Nat.reduceEqDiff, ↓reduceIte]; exact eM, by simp only [upd_eq, Nat.reduceEqDiff, ↓reduceIte]; exact hfl6, (((X.tr Y2).tr (n3.ext.mono fun _ _ _ h => h.elim)).tr Y4).tr ((n5.ext.mono fun _ _ _ h => h.elim).tr Y6)⟩
    omega
  · obtain rfl : k = bs.length := by omega
    have ht := lt_ff bs.length bs.length (by omega)
    refine W_sq fun K hK => (W_text [true] (by kernel_rfl) ?_); simp only [↓List.toList_toArray, ↓rgd, ↓rgf, ↓reduceIte, Nat.reduceEqDiff, rg, ow_19, eL, eI, ht]
    refine hK _ _ ?_; clear hK K
    refine W_seq (W_false (by simp only [evt, evc, upd_eq, Nat.reduceEqDiff, ↓reduceIte, ntT, ntF] <;> rfl) (W_exit ?_))
    simp only [andThen_exit, inBlk_exit, andThen_normal, ↓reduceIte]
    rw [popL_end _ _ _ (by omega)] at hfl
    rw [List.take_of_length_le (by simp [outsL, popD_len]; omega), List.take_of_length_le (by simp [oksL]; omega)] at hfl
    obtain ⟨F1, hM1, hF1, ho1, hb1'⟩ := hfl.mp
    refine W_sq fun K hK => (W_text [true, true, true, false, true, true, true] (by kernel_rfl) ?_); simp only [↓List.toList_toArray, ↓rgd, ↓rgf, ↓reduceIte, Nat.reduceEqDiff, rg, ow_19, eM]
    refine do_call fn_34 (by simp only [evt, evc, upd_eq, Nat.reduceEqDiff, ↓reduceIte, maT, maC, maN, isnN, isnS] <;> rfl) (allWords_any m d 0 [] F1 w' hM1 (by simp)) ?_
    rintro sv w2 ⟨h2, X2⟩
    refine ⟨trivial, ?_⟩
    simp only [↓List.toList_toArray, ↓rgd, ↓rgf, ↓reduceIte, Nat.reduceEqDiff, rg, ow_19]
    refine hK _ _ ?_; clear hK K
    have hfl2 := hfl.duo.ext X2
    refine W_ret (endQ_3 (by simp only [upd_eq, Nat.reduceEqDiff, ↓reduceIte] <;> rfl) (by simp only [upd_eq, Nat.reduceEqDiff, ↓reduceIte] <;> rfl) (by simp only [upd_eq, Nat.reduceEqDiff, ↓reduceIte] <;> rfl) ⟨_, _, _, rfl, hfl2.n.sl, hfl2.b.sl, h2, ?_⟩)
    exact (noF_of X1 X fun y o hy (h : B ≤ y) => by omega).tr X2
end Go.Proofs.Ytinpigpeoakeaaa
/-
  A list of strings turned round. No condition.
-/
set_option linter.unusedSimpArgs false
set_option linter.unusedVariables false
namespace Go.Proofs.Ytinpigpeoakeaaa
open Go Go.Proofs
theorem pred_wrap (i : Nat) (h : i < 4611686018427387904) : IntKind.i64.wrap ((i : Int) - 1) = (i : Int) - 1 := IntWalk.i64_in _ (by omega)
theorem sl_isnil (a : Option Addr) (n c : Nat) : binV Try.prog .eql 28 (.slice a n c) (.slice none 0 0) = some (.bool a.isNone) := by cases a <;> kernel_rfl
theorem bs_s0 : bsV Try.prog 28 0 [] = some (9, []) := by kernel_rfl
/-- A slice that is all one's own. -/
def ownS (w : World) (B : Nat) (v : Value) : Prop := ∀ b o n c, v = .slice (some ⟨b, o, none⟩) n c → B ≤ b ∧ wok w b (o + n)
theorem flat_Es (l : List ByteArray) : flat Es l = l.map Value.string := by
  induction l with
  | nil => rfl
  | cons x l ih => rw [flat_cons, ih]; rfl
theorem flat_Eb (l : List Bool) : flat Eb l = l.map Value.bool := by
  induction l with
  | nil => rfl
  | cons x l ih => rw [flat_cons, ih]; rfl
set_option maxHeartbeats 800000 in
set_option maxRecDepth 8000 in
theorem clone_any (l : List ByteArray) (lv : Value) (w : World) (hl : SlV w 1 lv l.length (flat Es l)) (hbig : l.length ≤ 2147483647) :
    CallK Try.prog 31 #[lv] w fun v w' => SlV w' 1 v l.length (flat Es l) ∧ ownS w' w.heap.size v ∧ Ext noF w w' := by
  obtain ⟨ka, kc, hkv⟩ := SlV.shape hl
  refine calls_of_W [.tmp 2] Try.func31 rfl Try.ntmps31 Try.results31 (by simp) fun e he => ?_
  have e0 : e 0 = lv := he 0 _ rfl
  clear he
  refine W_sq fun K hK => (W_text [true] (by kernel_rfl) ?_); simp only [↓List.toList_toArray, ↓rgd, ↓rgf, ↓reduceIte, Nat.reduceEqDiff, rg, ow_31]
  refine hK _ _ ?_; clear hK K
  refine W_seq ?_
  cases ka with
  | none =>
    have hn : l = [] := by
      rcases hl.2 with ⟨_, h⟩ | ⟨b, o, cap, h, _⟩
      · exact List.eq_nil_of_length_eq_zero h
      · rw [hkv] at h; cases h
    subst hn
    refine W_sq fun K hK => (W_text [true, true] (by kernel_rfl) ?_); simp only [↓List.toList_toArray, ↓rgd, ↓rgf, ↓reduceIte, Nat.reduceEqDiff, rg, ow_31, e0, hkv, sl_isnil]
    refine hK _ _ ?_; clear hK K
    refine W_true (by simp only [evt, evc, upd_eq, Nat.reduceEqDiff, ↓reduceIte, ntT, ntF] <;> rfl) ?_
    refine W_sq fun K hK => (W_text [true] (by kernel_rfl) ?_); simp only [↓List.toList_toArray, ↓rgd, ↓rgf, ↓reduceIte, Nat.reduceEqDiff, rg, ow_31]
    refine hK _ _ ?_; clear hK K
    refine W_ret ?_
    simp only [andThen_ret]
    exact endQ_1 (by simp only [upd_eq, Nat.reduceEqDiff, ↓reduceIte] <;> rfl) ⟨⟨rfl, .inl ⟨rfl, rfl⟩⟩, (fun b o n c h => by cases h), Ext.refl _ _⟩
  | some ka =>
    refine W_sq fun K hK => (W_text [true, true] (by kernel_rfl) ?_); simp only [↓List.toList_toArray, ↓rgd, ↓rgf, ↓reduceIte, Nat.reduceEqDiff, rg, ow_31, e0, hkv, sl_isnil]
    refine hK _ _ ?_; clear hK K
    refine W_false (by simp only [evt, evc, upd_eq, Nat.reduceEqDiff, ↓reduceIte, ntT, ntF] <;> rfl) (W_skip ?_)
    show W _ _ _ _ _ _
    refine W_sq fun K hK => (W_text [false, true, false, true] (by kernel_rfl) ?_); simp only [↓List.toList_toArray, ↓rgd, ↓rgf, ↓reduceIte, Nat.reduceEqDiff, rg, ow_31, e0]
    refine do_bsl rfl bs_s0 fun w1 n1 => ⟨trivial, ?_⟩
    simp only [↓List.toList_toArray, ↓rgd, ↓rgf, ↓reduceIte, Nat.reduceEqDiff, rg, ow_31, e0]
    have h1 : SlV w1 1 (.slice (some ⟨w.heap.size, 0, none⟩) 0 0) 0 [] := ⟨rfl, .inr ⟨_, 0, 0, rfl, Nat.le_refl _, Row.nil _ _ _, n1.wok.R (Nat.le_refl _)⟩⟩
    refine do_append (by simp only [evt, evc, upd_eq, Nat.reduceEqDiff, ↓reduceIte, ntT, ntF] <;> rfl) (by simp only [evt, evc, upd_eq, Nat.reduceEqDiff, ↓reduceIte, ntT, ntF] <;> rfl) el_s rfl ni_s h1 (SlV.ext0 hl n1.ext) (by omega) (by decide) (flat_oc Es _) fun v2 w2 a2 => ⟨trivial, ?_⟩
    simp only [↓List.toList_toArray, ↓rgd, ↓rgf, ↓reduceIte, Nat.reduceEqDiff, rg, ow_31]
    refine hK _ _ ?_; clear hK K
    have s1 := n1.size
    obtain ⟨h2, h2s, x2⟩ := app_since (B := w.heap.size) a2 (fun b o n c h => by simp only [Value.slice.injEq, Option.some.injEq, Addr.mk.injEq] at h; omega) (by omega)
    rw [Nat.zero_add, List.nil_append] at h2
    refine W_ret (endQ_1 (by simp only [upd_eq, Nat.reduceEqDiff, ↓reduceIte] <;> rfl) ⟨h2, fun b o n c hb => ⟨h2s b o n c hb, ?_⟩, noF_of n1.ext x2 fun y o hy (h : w.heap.size ≤ y) => by omega⟩)
    rcases a2.2 with ⟨_, _, h⟩ | ⟨b0, o0, cap0, k1, k2, k3, k4, k5⟩ | ⟨cap, k1, k2, k3, k4⟩
    · cases h
    · simp only [Value.slice.injEq, Option.some.injEq, Addr.mk.injEq, true_and, and_true] at k1
      obtain ⟨⟨rfl, rfl⟩, rfl⟩ := k1
      rw [k2] at hb
      simp only [Value.slice.injEq, Option.some.injEq, Addr.mk.injEq, true_and, and_true] at hb
      obtain ⟨⟨rfl, rfl⟩, rfl, -⟩ := hb
      exact (k3.wok n1.wok).mono (by have := k5; simp only [List.length_nil]; omega)
    · rw [k1] at hb
      simp only [Value.slice.injEq, Option.some.injEq, Addr.mk.injEq, true_and, and_true] at hb
      obtain ⟨⟨rfl, rfl⟩, rfl, rfl⟩ := hb
      have hc : 0 + l.length ≤ cap := by
        rcases h2.2 with ⟨h, _⟩ | ⟨b1, o1, c1, h1, hle, _⟩
        · rw [h] at k1; cases k1
        · rw [k1] at h1
          simp only [Value.slice.injEq, Option.some.injEq, Addr.mk.injEq, true_and, and_true] at h1
          omega
      exact k4.mono (by simp; omega)
/-- A list whose ends are exchanged up to k. -/
def swp (l : List ByteArray) (k p : Nat) : Option ByteArray := if p < k ∨ l.length ≤ p + k then l.reverse[p]? else l[p]?
theorem swp_0 (l : List ByteArray) (p : Nat) (h : p < l.length) : swp l 0 p = l[p]? := by unfold swp; rw [if_neg (by omega)]
theorem swp_end (l : List ByteArray) (k p : Nat) (h : p < l.length) (hk : l.length ≤ 2 * k + 1) : swp l k p = l.reverse[p]? := by
  unfold swp
  split
  · rfl
  · rename_i hc
    rw [List.getElem?_reverse h]
    congr 1
    omega
set_option maxHeartbeats 800000 in
set_option maxRecDepth 8000 in
theorem reverse_any (l : List ByteArray) (lv : Value) (w : World) (B : Nat) (hl : SlV w 1 lv l.length (flat Es l)) (ho : ownS w B lv) (hbig : l.length ≤ 2147483647) :
    CallK Try.prog 32 #[lv] w fun _ w' => SlV w' 1 lv l.length (flat Es l.reverse) ∧ Ext (fun y _ => B ≤ y) w w' := by
  obtain ⟨ka, kc, hkv⟩ := SlV.shape hl
  refine calls_of_W [] Try.func32 rfl Try.ntmps32 Try.results32 (by simp) fun e he => ?_
  have e0 : e 0 = lv := he 0 _ rfl
  clear he
  rw [hkv] at e0
  have q0 := pred_wrap l.length (by omega)
  refine W_sq fun K hK => (W_text [true, true, true, true, true] (by kernel_rfl) ?_); simp only [↓List.toList_toArray, ↓rgd, ↓rgf, ↓reduceIte, Nat.reduceEqDiff, rg, ow_32, e0, q0]
  refine hK _ _ ?_; clear hK K
  have hown : ∀ b o, ka = some ⟨b, o, none⟩ → B ≤ b ∧ wok w b (o + l.length) := fun b o h => ho b o _ _ (by rw [hkv, h])
  have hrow0 : ∀ b o, ka = some ⟨b, o, none⟩ → ∀ p x, l[p]? = some x → rd w b (o + p) = some (.string x) := fun b o h p x hx => by
    rcases hl.2 with ⟨h1, _⟩ | ⟨b1, o1, c1, h1, _, hr, _⟩
    · rw [hkv, h] at h1; cases h1
    · rw [hkv, h] at h1
      simp only [Value.slice.injEq, Option.some.injEq, Addr.mk.injEq, true_and, and_true] at h1
      obtain ⟨⟨rfl, rfl⟩, rfl⟩ := h1
      exact sV_at hr hx
  have hka : l.length = 0 ∨ ∃ b o, ka = some ⟨b, o, none⟩ := by
    rcases hl.2 with ⟨_, h⟩ | ⟨b1, o1, c1, h1, _⟩
    · exact .inl h
    · rw [hkv] at h1
      simp only [Value.slice.injEq, true_and, and_true] at h1
      exact .inr ⟨b1, o1, h1.1⟩
  refine W_block (W_loop (fun mm e w' => ∃ k : Nat, mm = l.length - k ∧ 2 * k ≤ l.length ∧ e 0 = .slice ka l.length kc ∧ e 2 = .int .i64 k ∧ e 3 = .int .i64 ((l.length : Int) - 1 - k) ∧ (∀ b o, ka = some ⟨b, o, none⟩ → ∀ p x, p < l.length → swp l k p = some x → rd w' b (o + p) = some (.string x)) ∧ Ext (fun y _ => B ≤ y) w w')
    l.length ⟨0, by simp, by simp, by simp only [upd_eq, Nat.reduceEqDiff, ↓reduceIte]; exact e0, by simp only [upd_eq, Nat.reduceEqDiff, ↓reduceIte]; rfl, by simp only [upd_eq, Nat.reduceEqDiff, ↓reduceIte]; simp, fun b o h p x hp hx => hrow0 b o h p x (by rw [← swp_0 l p hp]; exact hx), Ext.refl _ _⟩ ?_)
  clear e0 e
  rintro mm e w' ⟨k, rfl, hk, e0, e2, e3, hrow, X⟩
  refine W_seq ?_
  by_cases hlt : 2 * k + 1 < l.length
  · have ht : decide ((k : Int) < (l.length : Int) - 1 - k) = true := by simp; omega
    refine W_sq fun K hK => (W_text [true, true, true] (by kernel_rfl) ?_); simp only [↓List.toList_toArray, ↓rgd, ↓rgf, ↓reduceIte, Nat.reduceEqDiff, rg, ow_32, e2, e3, ht]
    refine hK _ _ ?_; clear hK K
    refine W_true (by simp only [evt, evc, upd_eq, Nat.reduceEqDiff, ↓reduceIte, ntT, ntF] <;> rfl) (W_skip ?_)
    show W _ _ _ _ _ _
    refine W_seq (W_block ?_)
    obtain ⟨b, o, hka⟩ := hka.resolve_left (by omega)
    obtain ⟨hB, hwok⟩ := hown b o hka
    have i1 : k < l.length := by omega
    have i2 : l.length - 1 - k < l.length := by omega
    have hj : (l.length : Int) - 1 - k = ((l.length - 1 - k : Nat) : Int) := by omega
    obtain ⟨x, hx⟩ : ∃ x, l[k]? = some x := ⟨_, List.getElem?_eq_getElem i1⟩
    obtain ⟨y, hy⟩ : ∃ y, l[l.length - 1 - k]? = some y := ⟨_, List.getElem?_eq_getElem i2⟩
    have rx := hrow b o hka k x i1 (by unfold swp; rw [if_neg (by omega)]; exact hx)
    have ry := hrow b o hka (l.length - 1 - k) y i2 (by unfold swp; rw [if_neg (by omega)]; exact hy)
    have e3' := e3
    rw [hj] at e3'
    have e0' := e0
    rw [hka] at e0'
    refine W_rg fun K hK => (W_semi (some none) (.take false 0 (.take false 1 (.take false 2 (.take false 3 (.take false 4 (.take false 5 (.take false 6 (.take true 7 (.take false 8 (.take false 9 (.take false 10 (.take true 11 (.take false 12 (.bar 13 (.take false 14 (.bar 15 .nil)))))))))))))))) mixed (by kernel_rfl) ?_); simp only [↓rgm, ↓List.toList_toArray, ↓rgd, ↓rgf, ↓reduceIte, Nat.reduceEqDiff, rg, ow_32, e0', e2, e3', i1, i2, rx, ry]
    refine do_store (by simp only [evt, evc, upd_eq, Nat.reduceEqDiff, ↓reduceIte, ntT, ntF] <;> rfl) (by simp only [evt, evc, upd_eq, Nat.reduceEqDiff, ↓reduceIte, ntT, ntF] <;> rfl) sz_9 rfl (X.wok hwok) (by omega) (oc_one rfl rfl) fun w3 x3 r3 s3 => ⟨(by first | exact trivial | exact .inl trivial), ?_⟩
    simp only [↓List.toList_toArray, ↓rgd, ↓rgf, ↓reduceIte, Nat.reduceEqDiff, rg, ow_32, ↓rgm, i1, i2]
    refine do_store (by simp only [evt, evc, upd_eq, Nat.reduceEqDiff, ↓reduceIte, ntT, ntF] <;> rfl) (by simp only [evt, evc, upd_eq, Nat.reduceEqDiff, ↓reduceIte, ntT, ntF] <;> rfl) sz_9 rfl (x3.wok (X.wok hwok)) (by omega) (oc_one rfl rfl) fun w4 x4 r4 s4 => ⟨(by first | exact trivial | exact .inl trivial), ?_⟩
    simp only [↓List.toList_toArray, ↓rgd, ↓rgf, ↓reduceIte, Nat.reduceEqDiff, rg, ow_32, ↓rgm]
    refine hK _ _ ?_; clear hK K
    show W _ _ _ _ _ _
    have X4 : Ext (fun y _ => B ≤ y) w w4 := X.tr ((x3.od.mono (G := fun y _ => B ≤ y) fun y o _ g => by simp only [rng] at g; rw [g.1]; exact hB).tr (x4.mono fun y o _ g => by simp only [rng] at g; rw [g.1]; exact hB))
    have q1 := wadd1 k (by omega)
    have q2 : IntKind.i64.wrap ((l.length : Int) - 1 - k - 1) = (l.length : Int) - 1 - (k + 1 : Nat) := by rw [IntWalk.i64_in _ (by omega)]; omega
    refine W_rg fun K hK => (W_text [true, true, true, true, true, true] (by kernel_rfl) ?_); simp only [↓List.toList_toArray, ↓rgd, ↓rgf, ↓reduceIte, Nat.reduceEqDiff, rg, ow_32, e2, e3, q1, q2]
    refine hK _ _ ?_; clear hK K
    refine ⟨_, ?_, k + 1, rfl, by omega, by simp only [upd_eq, Nat.reduceEqDiff, ↓reduceIte]; exact e0, by simp only [upd_eq, Nat.reduceEqDiff, ↓reduceIte], by simp only [upd_eq, Nat.reduceEqDiff, ↓reduceIte], fun b' o' hb' p z hp hz => ?_, X4⟩
    · omega
    · rw [hka] at hb'
      simp only [Option.some.injEq, Addr.mk.injEq, and_true] at hb'
      obtain ⟨rfl, rfl⟩ := hb'
      have hrev : l.reverse[p]? = l[l.length - 1 - p]? := List.getElem?_reverse hp
      by_cases h1 : p = l.length - 1 - k
      · subst h1
        unfold swp at hz
        rw [if_pos (by omega), hrev, show l.length - 1 - (l.length - 1 - k) = k by omega, hx] at hz
        cases hz
        exact (Row.cons.1 r4).1
      · by_cases h2 : p = k
        · subst h2
          unfold swp at hz
          rw [if_pos (by omega), hrev, hy] at hz
          cases hz
          exact x4.rd (Row.cons.1 r3).1 (by simp only [rng]; omega)
        · refine x4.rd (x3.rd (hrow b o hka p z hp ?_) (by simp only [rng]; omega)) (by simp only [rng]; omega)
          unfold swp at hz ⊢
          by_cases h3 : p < k ∨ l.length ≤ p + k
          · rw [if_pos h3]; rwa [if_pos (by omega)] at hz
          · rw [if_neg h3]; rwa [if_neg (by omega)] at hz
  · have ht : decide ((k : Int) < (l.length : Int) - 1 - k) = false := by simp; omega
    refine W_sq fun K hK => (W_text [true, true, true] (by kernel_rfl) ?_); simp only [↓List.toList_toArray, ↓rgd, ↓rgf, ↓reduceIte, Nat.reduceEqDiff, rg, ow_32, e2, e3, ht]
    refine hK _ _ ?_; clear hK K
    refine W_false (by simp only [evt, evc, upd_eq, Nat.reduceEqDiff, ↓reduceIte, ntT, ntF] <;> rfl) (W_exit ?_)
    simp only [andThen_exit, inBlk_exit, andThen_normal, ↓reduceIte]
    refine endQ_0n ⟨⟨by rw [flat_length, List.length_reverse]; exact rfl, ?_⟩, X⟩
    rcases hl.2 with h | ⟨b, o, cap, h1, h2, h3, h4⟩
    · exact .inl h
    · refine .inr ⟨b, o, cap, h1, h2, fun p v hp => ?_, X.wokR h4⟩
      have hk' : ka = some ⟨b, o, none⟩ := by
        rw [hkv] at h1
        simp only [Value.slice.injEq, true_and, and_true] at h1
        exact h1.1
      rw [flat_Es, List.getElem?_map] at hp
      have hpl : p < l.length := by
        rcases Nat.lt_or_ge p l.length with h | h
        · exact h
        · rw [List.getElem?_eq_none (by simpa using h)] at hp; cases hp
      obtain ⟨z, hz⟩ : ∃ z, l.reverse[p]? = some z := ⟨_, List.getElem?_eq_getElem (by simpa using hpl)⟩
      rw [hz] at hp
      cases hp
      exact hrow b o hk' p z hpl (by rw [swp_end l k p hpl (by omega)]; exact hz)
set_option maxHeartbeats 800000 in
set_option maxRecDepth 8000 in
theorem turned_any (l : List ByteArray) (lv : Value) (w : World) (hl : SlV w 1 lv l.length (flat Es l)) (hbig : l.length ≤ 2147483647) :
    CallK Try.prog 18 #[lv] w fun v w' => SlV w' 1 v l.reverse.length (flat Es l.reverse) ∧ Ext noF w w' := by
  refine calls_of_W [.tmp 2] Try.func18 rfl Try.ntmps18 Try.results18 (by simp) fun e he => ?_
  have e0 : e 0 = lv := he 0 _ rfl
  clear he
  refine W_sq fun K hK => (W_text [true] (by kernel_rfl) ?_); simp only [↓List.toList_toArray, ↓rgd, ↓rgf, ↓reduceIte, Nat.reduceEqDiff, rg, ow_18]
  refine hK _ _ ?_; clear hK K
  refine W_sq fun K hK => (W_text [true, false, true] (by kernel_rfl) ?_); simp only [↓List.toList_toArray, ↓rgd, ↓rgf, ↓reduceIte, Nat.reduceEqDiff, rg, ow_18, e0]
  refine do_call fn_31 (by simp only [evt, evc, upd_eq, Nat.reduceEqDiff, ↓reduceIte, maT, maC, maN, isnN, isnS] <;> rfl) (clone_any l lv w hl hbig) ?_
  rintro v1 w1 ⟨h1, o1, X1⟩
  refine ⟨trivial, ?_⟩
  simp only [↓List.toList_toArray, ↓rgd, ↓rgf, ↓reduceIte, Nat.reduceEqDiff, rg, ow_18]
  refine hK _ _ ?_; clear hK K
  refine W_sq fun K hK => (W_text [true, false] (by kernel_rfl) ?_); simp only [↓List.toList_toArray, ↓rgd, ↓rgf, ↓reduceIte, Nat.reduceEqDiff, rg, ow_18]
  refine do_call fn_32 (by simp only [evt, evc, upd_eq, Nat.reduceEqDiff, ↓reduceIte, maT, maC, maN, isnN, isnS] <;> rfl) (reverse_any l v1 w1 w.heap.size h1 o1 hbig) ?_
  rintro _ w2 ⟨h2, X2⟩
  refine ⟨trivial, ?_⟩
  simp only [↓List.toList_toArray, ↓rgd, ↓rgf, ↓reduceIte, Nat.reduceEqDiff, rg, ow_18]
  refine hK _ _ ?_; clear hK K
  refine W_sq fun K hK => (W_text [true, true] (by kernel_rfl) ?_); simp only [↓List.toList_toArray, ↓rgd, ↓rgf, ↓reduceIte, Nat.reduceEqDiff, rg, ow_18]
  refine hK _ _ ?_; clear hK K
  exact W_ret (endQ_1 (by simp only [upd_eq, Nat.reduceEqDiff, ↓reduceIte] <;> rfl) ⟨by rw [List.length_reverse]; exact h2, noF_of X1 X2 fun y o hy (h : w.heap.size ≤ y) => by omega⟩)
end Go.Proofs.Ytinpigpeoakeaaa
/-
  Strings byte by byte; whether a list of strings contains one; the keys of a tree. No condition.
-/
set_option linter.unusedSimpArgs false
set_option linter.unusedVariables false
namespace Go.Proofs.Ytinpigpeoakeaaa
open Go Go.Proofs
/-- Behind a beginning in common. -/
theorem bl_drop : ∀ (n : Nat) (a b : List UInt8), n ≤ a.length → n ≤ b.length → (∀ j, j < n → a[j]? = b[j]?) → Op.bytesLess a b = Op.bytesLess (a.drop n) (b.drop n)
  | 0, _, _, _, _, _ => by simp
  | n + 1, [], _, h, _, _ => by simp at h
  | n + 1, _ :: _, [], _, h, _ => by simp at h
  | n + 1, x :: a, y :: b, h1, h2, h => by
    have h0 : x = y := by simpa using h 0 (by omega)
    subst h0
    rw [List.drop_succ_cons, List.drop_succ_cons, ← bl_drop n a b (by simpa using h1) (by simpa using h2) fun j hj => by simpa using h (j + 1) (by omega)]
    have : ¬ x < x := UInt8.lt_irrefl x
    simp [Op.bytesLess, this]
theorem bl_end {a b : List UInt8} {n : Nat} (h1 : n ≤ a.length) (h2 : n ≤ b.length) (h : ∀ j, j < n → a[j]? = b[j]?) (hl : Op.bytesLess a b = true) : n < b.length := by
  rw [bl_drop n a b h1 h2 h] at hl
  rcases Nat.lt_or_ge n b.length with g | g
  · exact g
  · rw [List.drop_eq_nil_of_le g] at hl
    cases a.drop n <;> simp [Op.bytesLess] at hl
theorem bl_stop {a b : List UInt8} {n : Nat} {x y : UInt8} (h : ∀ j, j < n → a[j]? = b[j]?) (hl : Op.bytesLess a b = true) (hx : a[n]? = some x) (hy : b[n]? = some y) (hne : x ≠ y) : x < y := by
  obtain ⟨g1, g2⟩ := List.getElem?_eq_some_iff.1 hx
  obtain ⟨g3, g4⟩ := List.getElem?_eq_some_iff.1 hy
  rw [bl_drop n a b (by omega) (by omega) h, List.drop_eq_getElem_cons g1, List.drop_eq_getElem_cons g3, g2, g4] at hl
  simp only [Op.bytesLess, Bool.or_eq_true, decide_eq_true_eq, Bool.and_eq_true, beq_iff_eq] at hl
  rcases hl with hl | ⟨hl, _⟩
  · exact hl
  · exact absurd hl hne
/-- What is set has its key in the tree. -/
theorem put_mem_new (x : It) (xs : List It) : κ x ∈ (put O κ x xs).map κ := by unfold put; simp
theorem put_mem_old (x : It) {xs : List It} {k : Rk} (h : k ∈ xs.map κ) : k ∈ (put O κ x xs).map κ := by
  cases hh : hit O κ (κ x) xs with
  | true =>
    rw [put_set O κ hh]
    obtain ⟨y, hy, rfl⟩ := List.mem_map.1 h
    obtain ⟨j, hj⟩ := List.mem_iff_getElem?.1 hy
    obtain ⟨z, hz1, hz2⟩ := hit_at O κ hh
    by_cases hjl : j = lb O κ (κ x) xs
    · subst hjl
      rw [hj] at hz1
      cases hz1
      rw [← hz2]
      refine List.mem_map.2 ⟨x, List.mem_iff_getElem?.2 ⟨lb O κ (κ x) xs, ?_⟩, rfl⟩
      rw [List.getElem?_set_self (List.getElem?_eq_some_iff.1 hj).1]
    · refine List.mem_map.2 ⟨y, List.mem_iff_getElem?.2 ⟨j, ?_⟩, rfl⟩
      rw [List.getElem?_set_ne (fun h => hjl h.symm)]; exact hj
  | false =>
    rw [put_leaf O κ hh]
    have : k ∈ ((xs.take (lb O κ (κ x) xs) ++ xs.drop (lb O κ (κ x) xs))).map κ := by rw [List.take_append_drop]; exact h
    simp only [List.map_append, List.map_cons, List.mem_append, List.mem_cons] at this ⊢
    rcases this with h | h
    · exact .inl h
    · exact .inr (.inr h)
theorem mem_tree (l : List It) : ∀ x ∈ l, κ x ∈ (tree l).map κ := by
  have key : ∀ (l xs : List It), (∀ k ∈ xs.map κ, k ∈ (l.foldl (fun xs x => put O κ x xs) xs).map κ) ∧ ∀ x ∈ l, κ x ∈ (l.foldl (fun xs x => put O κ x xs) xs).map κ := by
    intro l
    induction l with
    | nil => intro xs; exact ⟨fun k h => h, fun x h => by cases h⟩
    | cons y l ih =>
      intro xs
      obtain ⟨h1, h2⟩ := ih (put O κ y xs)
      refine ⟨fun k h => h1 k (put_mem_old y h), fun x hx => ?_⟩
      rcases List.mem_cons.1 hx with rfl | hx
      · exact h1 _ (put_mem_new x xs)
      · exact h2 x hx
  exact (key l []).2
theorem tree_sub (l : List It) : ∀ y ∈ tree l, y ∈ l := by
  have hput : ∀ (x y : It) (xs : List It), y ∈ put O κ x xs → y = x ∨ y ∈ xs := fun x y xs h => by
    unfold put at h
    rcases List.mem_append.1 h with h | h
    · exact .inr (List.mem_of_mem_take h)
    · rcases List.mem_cons.1 h with h | h
      · exact .inl h
      · exact .inr (List.mem_of_mem_drop h)
  have key : ∀ (l xs : List It), ∀ y ∈ l.foldl (fun xs x => put O κ x xs) xs, y ∈ xs ∨ y ∈ l := by
    intro l
    induction l with
    | nil => intro xs y h; exact .inl h
    | cons z l ih =>
      intro xs y h
      rcases ih _ y h with h | h
      · rcases hput z y xs h with h | h
        · exact .inr (by rw [h]; simp)
        · exact .inl h
      · exact .inr (List.mem_cons_of_mem _ h)
  intro y h
  exact (key l [] y h).resolve_left (by simp)
theorem tree_asc (l : List It) : Asc O κ (tree l) := by
  have key : ∀ (l xs : List It), Asc O κ xs → Asc O κ (l.foldl (fun xs x => put O κ x xs) xs) := by
    intro l
    induction l with
    | nil => intro xs h; exact h
    | cons y l ih => intro xs h; exact ih _ (put_asc O κ h)
  exact key l [] List.Pairwise.nil
set_option maxHeartbeats 400000 in
set_option maxRecDepth 8000 in
theorem index_any (l : List ByteArray) (lv : Value) (q : ByteArray) (w : World) (hl : SlV w 1 lv l.length (flat Es l)) (hm : q ∈ l) (hbig : l.length ≤ 2147483647) :
    CallK Try.prog 26 #[lv, .string q] w fun v w' => (∃ i : Nat, v = .int .i64 i) ∧ w' = w := by
  obtain ⟨a, c, hlv⟩ := hl.shape
  refine calls_of_W [.tmp 4] Try.func26 rfl Try.ntmps26 Try.results26 (by simp) fun e he => ?_
  have e0 : e 0 = .slice a l.length c := by rw [← hlv]; exact he 0 _ rfl
  have e1 : e 1 = kV q := he 1 _ rfl
  clear he
  refine W_sq fun K0 hK => (W_text [true] (by kernel_rfl) ?_); simp only [↓List.toList_toArray, ↓rgd, ↓rgf, ↓reduceIte, Nat.reduceEqDiff, rg, ow_26]
  refine hK _ _ ?_; clear hK K0
  refine W_seq (W_seq ?_)
  refine W_rg fun K0 hK => (W_text [true, true, true] (by kernel_rfl) ?_); simp only [↓List.toList_toArray, ↓rgd, ↓rgf, ↓reduceIte, Nat.reduceEqDiff, rg, ow_26, e0]
  refine hK _ _ ?_; clear hK K0
  show W _ _ _ _ _ _
  refine W_block (W_loop (fun mm e w' => ∃ i : Nat, mm = l.length - i ∧ q ∈ l.drop i ∧ w' = w ∧ e 0 = .slice a l.length c ∧ e 1 = kV q ∧ e 7 = .int .i64 l.length ∧ e 8 = .int .i64 i) l.length ⟨0, rfl, by simpa using hm, rfl, ?_, ?_, ?_, ?_⟩ ?_)
  · simp only [upd_eq, Nat.reduceEqDiff, ↓reduceIte]; exact e0
  · simp only [upd_eq, Nat.reduceEqDiff, ↓reduceIte]; exact e1
  · simp only [upd_eq, Nat.reduceEqDiff, ↓reduceIte]
  · simp only [upd_eq, Nat.reduceEqDiff, ↓reduceIte]; rfl
  clear e0 e1 e
  rintro mm e w' ⟨i, rfl, hi, rfl, e0, e1, e7, e8⟩
  have hlt : i < l.length := by
    rcases Nat.lt_or_ge i l.length with g | g
    · exact g
    · rw [List.drop_eq_nil_of_le g] at hi; cases hi
  have ht := lt_tt i l.length hlt
  refine W_sq fun K0 hK => (W_text [true] (by kernel_rfl) ?_); simp only [↓List.toList_toArray, ↓rgd, ↓rgf, ↓reduceIte, Nat.reduceEqDiff, rg, ow_26, e7, e8, ht]
  refine hK _ _ ?_; clear hK K0
  refine W_seq (W_true (by simp only [evt, evc, upd_eq, Nat.reduceEqDiff, ↓reduceIte, ntT, ntF] <;> rfl) (W_skip ?_))
  show W _ _ _ _ _ _
  obtain ⟨x, hx⟩ : ∃ x, l[i]? = some x := ⟨_, List.getElem?_eq_getElem hlt⟩
  obtain ⟨b, o, rfl, row⟩ := hl.at hlv hlt
  have ix : rd w' b (o + i) = some (kV x) := sV_at row hx
  refine W_seq (W_block ?_)
  refine W_sq fun K0 hK => (W_text [true, true] (by kernel_rfl) ?_); simp only [↓List.toList_toArray, ↓rgd, ↓rgf, ↓reduceIte, Nat.reduceEqDiff, rg, ow_26, e8]
  refine hK _ _ ?_; clear hK K0
  refine W_sq fun K0 hK => (W_text [true, true, true, true, true, true] (by kernel_rfl) ?_); simp only [↓List.toList_toArray, ↓rgd, ↓rgf, ↓reduceIte, Nat.reduceEqDiff, rg, ow_26, e0, e1, hlt, ix, kV_eq]
  refine hK _ _ ?_; clear hK K0
  by_cases hq : q = x
  · refine W_true (by simp only [evt, evc, upd_eq, Nat.reduceEqDiff, ↓reduceIte, ntT, ntF]; simp [hq]) ?_
    refine W_sq fun K0 hK => (W_text [true, true] (by kernel_rfl) ?_); simp only [↓List.toList_toArray, ↓rgd, ↓rgf, ↓reduceIte, Nat.reduceEqDiff, rg, ow_26]
    refine hK _ _ ?_; clear hK K0
    refine W_ret ?_
    simp only [andThen_ret, inBlk_ret]
    exact endQ_1 (by simp only [upd_eq, Nat.reduceEqDiff, ↓reduceIte] <;> rfl) ⟨⟨i, rfl⟩, rfl⟩
  · refine W_false (by simp only [evt, evc, upd_eq, Nat.reduceEqDiff, ↓reduceIte, ntT, ntF]; simp [hq]) (W_skip ?_)
    simp only [inBlk_normal, andThen_normal]
    have q1 := wadd1 i (by omega)
    refine W_rg fun K0 hK => (W_text [true, true] (by kernel_rfl) ?_); simp only [↓List.toList_toArray, ↓rgd, ↓rgf, ↓reduceIte, Nat.reduceEqDiff, rg, ow_26, e8, q1]
    refine hK _ _ ?_; clear hK K0
    refine ⟨_, ?_, i + 1, rfl, ?_, rfl, ?_, ?_, ?_, ?_⟩
    · omega
    · rw [List.drop_eq_getElem_cons hlt, (List.getElem?_eq_some_iff.1 hx).2] at hi
      exact (List.mem_cons.1 hi).resolve_left hq
    · simp only [upd_eq, Nat.reduceEqDiff, ↓reduceIte]; exact e0
    · simp only [upd_eq, Nat.reduceEqDiff, ↓reduceIte]; exact e1
    · simp only [upd_eq, Nat.reduceEqDiff, ↓reduceIte]; exact e7
    · simp only [upd_eq, Nat.reduceEqDiff, ↓reduceIte]
set_option maxHeartbeats 400000 in
set_option maxRecDepth 8000 in
theorem contains_any (l : List ByteArray) (lv : Value) (q : ByteArray) (w : World) (hl : SlV w 1 lv l.length (flat Es l)) (hm : q ∈ l) (hbig : l.length ≤ 2147483647) :
    CallK Try.prog 15 #[lv, .string q] w fun v w' => v = .bool true ∧ w' = w := by
  refine calls_of_W [.tmp 4] Try.func15 rfl Try.ntmps15 Try.results15 (by simp) fun e he => ?_
  have e0 : e 0 = lv := he 0 _ rfl
  have e1 : e 1 = .string q := he 1 _ rfl
  clear he
  refine W_sq fun K0 hK => (W_text [true] (by kernel_rfl) ?_); simp only [↓List.toList_toArray, ↓rgd, ↓rgf, ↓reduceIte, Nat.reduceEqDiff, rg, ow_15]
  refine hK _ _ ?_; clear hK K0
  refine W_sq fun K0 hK => (W_text [true, true, false, true, true] (by kernel_rfl) ?_); simp only [↓List.toList_toArray, ↓rgd, ↓rgf, ↓reduceIte, Nat.reduceEqDiff, rg, ow_15, e0, e1]
  refine do_call fn_26 (by simp only [evt, evc, upd_eq, Nat.reduceEqDiff, ↓reduceIte, maT, maC, maN, isnN, isnS] <;> rfl) (index_any l lv q w hl hm hbig) ?_
  rintro _ w ⟨⟨i, rfl⟩, rfl⟩
  refine ⟨trivial, ?_⟩
  have t0 : decide ((0 : Int) ≤ (i : Int)) = true := by simp
  simp only [↓List.toList_toArray, ↓rgd, ↓rgf, ↓reduceIte, Nat.reduceEqDiff, rg, ow_15, t0]
  refine hK _ _ ?_; clear hK K0
  exact W_ret (endQ_1 (by simp only [upd_eq, Nat.reduceEqDiff, ↓reduceIte] <;> rfl) ⟨rfl, rfl⟩)
end Go.Proofs.Ytinpigpeoakeaaa
/-
  The sample words; which degrees fit. No condition.
-/
set_option linter.unusedSimpArgs false
set_option linter.unusedVariables false
namespace Go.Proofs.Ytinpigpeoakeaaa
open Go Go.Proofs
def exL : List It := [(⟨#[98]⟩, 1), (⟨#[]⟩, 2), (⟨#[97, 98]⟩, 3), (⟨#[98]⟩, 4)]
theorem bs_exW : bsV Try.prog 22 4 [(0, iV (⟨#[98]⟩, 1)), (1, iV (⟨#[]⟩, 2)), (2, iV (⟨#[97, 98]⟩, 3)), (3, iV (⟨#[98]⟩, 4))] = some (31, flat Ei exL) := by kernel_rfl
set_option maxHeartbeats 400000 in
set_option maxRecDepth 8000 in
theorem exWords_any (w : World) : CallK Try.prog 10 #[] w fun v w' => SlI w' v exL ∧ Ext noF w w' := by
  refine calls_of_W (args := []) [.tmp 0] Try.func10 rfl Try.ntmps10 Try.results10 (by simp) fun e he => ?_
  clear he
  refine W_sq fun K hK => (W_text [true] (by kernel_rfl) ?_); simp only [↓List.toList_toArray, ↓rgd, ↓rgf, ↓reduceIte, Nat.reduceEqDiff, rg]
  refine hK _ _ ?_; clear hK K
  refine W_sq fun K hK => (W_text [true, true, true, true, false, true] (by kernel_rfl) ?_); simp only [↓List.toList_toArray, ↓rgd, ↓rgf, ↓reduceIte, Nat.reduceEqDiff, rg, bu_item]
  refine do_bsl rfl bs_exW fun w1 n1 => ⟨trivial, ?_⟩
  simp only [↓List.toList_toArray, ↓rgd, ↓rgf, ↓reduceIte, Nat.reduceEqDiff, rg]
  refine hK _ _ ?_; clear hK K
  exact W_ret (endQ_1 (by simp only [upd_eq, Nat.reduceEqDiff, ↓reduceIte] <;> rfl) ⟨⟨rfl, .inr ⟨_, 0, 4, rfl, Nat.le_refl _, n1.row, n1.wok.R (Nat.le_refl _)⟩⟩, n1.ext⟩)
set_option maxHeartbeats 400000 in
set_option maxRecDepth 8000 in
theorem fits_any (d : Int) (w : World) : CallK Try.prog 11 #[.int .i64 d] w fun v w' => v = .bool (decide (d = 0) || (decide (2 ≤ d) && decide (d ≤ 128))) ∧ w = w' := by
  refine calls_of_W [.tmp 2] Try.func11 rfl Try.ntmps11 Try.results11 (by simp) fun e he => ?_
  have e0 : e 0 = .int .i64 d := he 0 _ rfl
  clear he
  refine W_sq fun K hK => (W_text [true] (by kernel_rfl) ?_); simp only [↓List.toList_toArray, ↓rgd, ↓rgf, ↓reduceIte, Nat.reduceEqDiff, rg, ow_11]
  refine hK _ _ ?_; clear hK K
  by_cases h0 : d = 0
  · have t1 : (d == 0) = true := by simp [h0]
    refine W_sq fun K hK => (W_text [true, true, true, true, true, true, true, true, true, true, true] (by kernel_rfl) ?_); simp only [↓List.toList_toArray, ↓rgd, ↓rgf, ↓reduceIte, Nat.reduceEqDiff, rg, ow_11, e0, t1]
    refine hK _ _ ?_; clear hK K
    exact W_ret (endQ_1 (by simp only [upd_eq, Nat.reduceEqDiff, ↓reduceIte] <;> rfl) ⟨by simp [h0], rfl⟩)
  · have t1 : (d == 0) = false := by simp [h0]
    by_cases h2 : 2 ≤ d
    · have t2 : decide (2 ≤ d) = true := by simp [h2]
      refine W_sq fun K hK => (W_text [true, true, true, true, true, true, true, true, true, true, true] (by kernel_rfl) ?_); simp only [↓List.toList_toArray, ↓rgd, ↓rgf, ↓reduceIte, Nat.reduceEqDiff, rg, ow_11, e0, t1, t2]
      refine hK _ _ ?_; clear hK K
      exact W_ret (endQ_1 (by simp only [upd_eq, Nat.reduceEqDiff, ↓reduceIte] <;> rfl) ⟨by simp [h0, h2], rfl⟩)
    · have t2 : decide (2 ≤ d) = false := by simp; omega
      refine W_sq fun K hK => (W_text [true, true, true, true, true, true, true, true, true, true, true] (by kernel_rfl) ?_); simp only [↓List.toList_toArray, ↓rgd, ↓rgf, ↓reduceIte, Nat.reduceEqDiff, rg, ow_11, e0, t1, t2]
      refine hK _ _ ?_; clear hK K
      exact W_ret (endQ_1 (by simp only [upd_eq, Nat.reduceEqDiff, ↓reduceIte] <;> rfl) ⟨by simp [h0, h2], rfl⟩)
end Go.Proofs.Ytinpigpeoakeaaa
/-
  The keys of a map from strings ascend. No condition.
-/
set_option linter.unusedSimpArgs false
set_option linter.unusedVariables false
namespace Go.Proofs.Ytinpigpeoakeaaa
open Go Go.Proofs
theorem tree_ex3 : (tree (exL.take 3)).length = 3 := by
  simp [tree, exL, put, lb, hit, strOrd, κ, ByteArray.toList_eq, Op.bytesLess]
set_option maxHeartbeats 400000 in
set_option maxRecDepth 8000 in
theorem fit_any (d : Int) (w : World) : CallK Try.prog 12 #[.int .i64 d] w fun v w' => ∃ t, v = .bool t ∧ (t = true → 2 ≤ d ∧ d ≤ 128) ∧ w' = w := by
  refine calls_of_W [.tmp 2] Try.func12 rfl Try.ntmps12 Try.results12 (by simp) fun e he => ?_
  have e0 : e 0 = .int .i64 d := he 0 _ rfl
  clear he
  refine W_sq fun K0 hK => (W_text [true] (by kernel_rfl) ?_); simp only [↓List.toList_toArray, ↓rgd, ↓rgf, ↓reduceIte, Nat.reduceEqDiff, rg, ow_12]
  refine hK _ _ ?_; clear hK K0
  by_cases h0 : 0 < d
  · have t2 : decide (0 < d) = true := by simp [h0]
    refine W_sq fun K0 hK => (W_text [true, true, true, true, false, true, true] (by kernel_rfl) ?_); simp only [↓List.toList_toArray, ↓rgd, ↓rgf, ↓reduceIte, Nat.reduceEqDiff, rg, ow_12, e0, t2]
    refine do_call fn_11 (by simp only [evt, evc, upd_eq, Nat.reduceEqDiff, ↓reduceIte, maT, maC, maN, isnN, isnS] <;> rfl) (fits_any d w) ?_
    rintro _ w ⟨rfl, rfl⟩
    refine ⟨trivial, ?_⟩
    simp only [↓List.toList_toArray, ↓rgd, ↓rgf, ↓reduceIte, Nat.reduceEqDiff, rg, ow_12]
    refine hK _ _ ?_; clear hK K0
    refine W_ret (endQ_1 (by simp only [upd_eq, Nat.reduceEqDiff, ↓reduceIte] <;> rfl) ⟨_, rfl, fun hf => ?_, rfl⟩)
    simp at hf; omega
  · have t2 : decide (0 < d) = false := by simp [h0]
    refine W_sq fun K0 hK => (W_text [true, true, true, true, false, true, true] (by kernel_rfl) ?_); simp only [↓List.toList_toArray, ↓rgd, ↓rgf, ↓reduceIte, Nat.reduceEqDiff, rg, ow_12, e0, t2]
    refine hK _ _ ?_; clear hK K0
    exact W_ret (endQ_1 (by simp only [upd_eq, Nat.reduceEqDiff, ↓reduceIte] <;> rfl) ⟨false, rfl, (fun h => by cases h), rfl⟩)
set_option maxHeartbeats 400000 in
set_option maxRecDepth 8000 in
theorem aliveW_any (w : World) : CallK Try.prog 13 #[] w fun v w' => v = .bool true ∧ Ext noF w w' := by
  refine calls_of_W (args := []) [.tmp 0] Try.func13 rfl Try.ntmps13 Try.results13 (by simp) fun e he => ?_
  clear he
  refine W_sq fun K0 hK => (W_text [true] (by kernel_rfl) ?_); simp only [↓List.toList_toArray, ↓rgd, ↓rgf, ↓reduceIte, Nat.reduceEqDiff, rg, ow_13]
  refine hK _ _ ?_; clear hK K0
  refine W_sq fun K0 hK => (W_text [false, true, false, true, true, true] (by kernel_rfl) ?_); simp only [↓List.toList_toArray, ↓rgd, ↓rgf, ↓reduceIte, Nat.reduceEqDiff, rg, ow_13]
  refine do_call fn_10 (by simp only [evt, evc, upd_eq, Nat.reduceEqDiff, ↓reduceIte, maT, maC, maN, isnN, isnS] <;> rfl) (exWords_any w) ?_
  rintro x0 w1 ⟨q0, y1⟩
  refine ⟨trivial, ?_⟩
  obtain ⟨sv, hs, hsv⟩ := sl_hi q0 3 (by decide)
  have hs' : sliceV Try.prog 22 x0 none (some (.int .i64 3)) none = some sv := hs
  simp only [↓List.toList_toArray, ↓rgd, ↓rgf, ↓reduceIte, Nat.reduceEqDiff, rg, ow_13, hs']
  refine do_call fn_14 (by simp only [evt, evc, upd_eq, Nat.reduceEqDiff, ↓reduceIte, maT, maC, maN, isnN, isnS] <;> rfl) (impl_wkeys 2 (by decide) (by decide) (exL.take 3) sv w1 hsv (by decide)) ?_
  rintro v2 w2 ⟨h2, X2⟩
  refine ⟨trivial, ?_⟩
  obtain ⟨a, c, hv2⟩ := h2.sl.shape
  rw [List.length_map, tree_ex3] at hv2
  have t0 : (((3 : Nat) : Int) == (3 : Int)) = true := by simp
  simp only [↓List.toList_toArray, ↓rgd, ↓rgf, ↓reduceIte, Nat.reduceEqDiff, rg, ow_13, hv2, t0]
  refine hK _ _ ?_; clear hK K0
  exact W_ret (endQ_1 (by simp only [upd_eq, Nat.reduceEqDiff, ↓reduceIte] <;> rfl) ⟨rfl, y1.tr X2⟩)
theorem sz_len (x : ByteArray) : x.data.toList.length = x.size := rfl
set_option maxRecDepth 8000 in
theorem ix_s (s : ByteArray) (i : Nat) (b : UInt8) (h : s.data.toList[i]? = some b) : ixV Try.prog 9 (.string s) (.int .i64 i) = some (.int .u8 b.toNat) := by
  obtain ⟨h1, h2⟩ := List.getElem?_eq_some_iff.1 h
  have hi : i < s.size := by rw [← sz_len]; exact h1
  have hg : s[i]? = some s[i] := getElem?_pos s i hi
  have hb : s[i] = b := by rw [← h2]; rfl
  have hp : (0 : Int) ≤ (i : Int) := by omega
  simp only [ixV, Try.underlying9, hp, if_true, Int.toNat_natCast, hg, hb]
set_option maxHeartbeats 2000000 in
set_option maxRecDepth 8000 in
theorem top_FnWBytes (d : Int) (a0 : List It) (v0 : Value) (w : World) (g0 : SlI w v0 a0) :
    CallK Try.prog 4 #[.int .i64 d, v0] w fun v w' => v = .bool true ∧ Ext noF w w' := by
  obtain ⟨pa, pc, hv0⟩ := g0.shape
  refine calls_of_W [.tmp 4] Try.func4 rfl Try.ntmps4 Try.results4 (by simp) fun e he => ?_
  have e0 : e 0 = .int .i64 d := he 0 _ rfl
  have e1 : e 1 = v0 := he 1 _ rfl
  clear he
  refine W_sq fun K0 hK => (W_text [true] (by kernel_rfl) ?_); simp only [↓List.toList_toArray, ↓rgd, ↓rgf, ↓reduceIte, Nat.reduceEqDiff, rg, ow_4]
  refine hK _ _ ?_; clear hK K0
  refine W_seq ?_
  refine W_sq fun K0 hK => (W_text [true, false, true] (by kernel_rfl) ?_); simp only [↓List.toList_toArray, ↓rgd, ↓rgf, ↓reduceIte, Nat.reduceEqDiff, rg, ow_4, e1]
  refine do_call fn_8 (by simp only [evt, evc, upd_eq, Nat.reduceEqDiff, ↓reduceIte, maT, maC, maN, isnN, isnS] <;> rfl) (fits2s_any a0 v0 w g0) ?_
  rintro _ w1 ⟨t, rfl, ht, y1⟩
  refine ⟨trivial, ?_⟩
  simp only [↓List.toList_toArray, ↓rgd, ↓rgf, ↓reduceIte, Nat.reduceEqDiff, rg, ow_4]
  refine hK _ _ ?_; clear hK K0
  cases t with
  | false =>
    refine W_true (by simp only [evt, evc, upd_eq, Nat.reduceEqDiff, ↓reduceIte, ntT, ntF] <;> rfl) ?_
    refine W_sq fun K0 hK => (W_text [true] (by kernel_rfl) ?_); simp only [↓List.toList_toArray, ↓rgd, ↓rgf, ↓reduceIte, Nat.reduceEqDiff, rg, ow_4]
    refine hK _ _ ?_; clear hK K0
    refine W_ret ?_
    simp only [andThen_ret]
    exact endQ_1 (by simp only [upd_eq, Nat.reduceEqDiff, ↓reduceIte] <;> rfl) ⟨rfl, y1⟩
  | true =>
    obtain ⟨hb0, hsz⟩ := ht rfl
    refine W_false (by simp only [evt, evc, upd_eq, Nat.reduceEqDiff, ↓reduceIte, ntT, ntF] <;> rfl) (W_skip ?_)
    show W _ _ _ _ _ _
    refine W_seq ?_
    refine W_sq fun K0 hK => (W_text [true, false, true] (by kernel_rfl) ?_); simp only [↓List.toList_toArray, ↓rgd, ↓rgf, ↓reduceIte, Nat.reduceEqDiff, rg, ow_4, e0]
    refine do_call fn_12 (by simp only [evt, evc, upd_eq, Nat.reduceEqDiff, ↓reduceIte, maT, maC, maN, isnN, isnS] <;> rfl) (fit_any d w1) ?_
    rintro _ w1 ⟨t, rfl, hd, rfl⟩
    refine ⟨trivial, ?_⟩
    simp only [↓List.toList_toArray, ↓rgd, ↓rgf, ↓reduceIte, Nat.reduceEqDiff, rg, ow_4]
    refine hK _ _ ?_; clear hK K0
    cases t with
    | false =>
      refine W_true (by simp only [evt, evc, upd_eq, Nat.reduceEqDiff, ↓reduceIte, ntT, ntF] <;> rfl) ?_
      refine W_sq fun K0 hK => (W_text [false, true] (by kernel_rfl) ?_); simp only [↓List.toList_toArray, ↓rgd, ↓rgf, ↓reduceIte, Nat.reduceEqDiff, rg, ow_4]
      refine do_call fn_13 (by simp only [evt, evc, upd_eq, Nat.reduceEqDiff, ↓reduceIte, maT, maC, maN, isnN, isnS] <;> rfl) (aliveW_any w1) ?_
      rintro _ w2 ⟨rfl, y2⟩
      refine ⟨trivial, ?_⟩
      simp only [↓List.toList_toArray, ↓rgd, ↓rgf, ↓reduceIte, Nat.reduceEqDiff, rg, ow_4]
      refine hK _ _ ?_; clear hK K0
      refine W_ret ?_
      simp only [andThen_ret]
      exact endQ_1 (by simp only [upd_eq, Nat.reduceEqDiff, ↓reduceIte] <;> rfl) ⟨rfl, y1.tr y2⟩
    | true =>
      obtain ⟨n, rfl⟩ : ∃ n : Nat, d = n := ⟨d.toNat, by have := hd rfl; omega⟩
      have hd2 := hd rfl
      refine W_false (by simp only [evt, evc, upd_eq, Nat.reduceEqDiff, ↓reduceIte, ntT, ntF] <;> rfl) (W_skip ?_)
      show W _ _ _ _ _ _
      refine W_sq fun K0 hK => (W_text [true, true, false, true] (by kernel_rfl) ?_); simp only [↓List.toList_toArray, ↓rgd, ↓rgf, ↓reduceIte, Nat.reduceEqDiff, rg, ow_4, e0, e1]
      refine do_call fn_14 (by simp only [evt, evc, upd_eq, Nat.reduceEqDiff, ↓reduceIte, maT, maC, maN, isnN, isnS] <;> rfl) (impl_wkeys n (by omega) (by omega) a0 v0 w1 (g0.ext0 y1) hb0) ?_
      rintro kv w2 ⟨hO, y2⟩
      refine ⟨trivial, ?_⟩
      simp only [↓List.toList_toArray, ↓rgd, ↓rgf, ↓reduceIte, Nat.reduceEqDiff, rg, ow_4]
      refine hK _ _ ?_; clear hK K0
      have hasc := tree_asc a0
      have hmem := mem_tree a0
      have htl := tree_len a0
      have hS := hO.sl
      have hkl : ((tree a0).map κ).length ≤ 2147483647 := by rw [List.length_map]; omega
      have hasc' : ((tree a0).map κ).Pairwise (fun a b => O.lt a b = true) := List.pairwise_map.2 hasc
      have hks : ∀ k ∈ (tree a0).map κ, k.size ≤ 2147483647 := fun k h => by
        obtain ⟨z, h1, rfl⟩ := List.mem_map.1 h
        exact hsz z (tree_sub a0 z h1)
      generalize (tree a0).map κ = ks at *
      obtain ⟨a, c, hkv⟩ := hS.shape
      have Y2 := y1.tr y2
      have g2 := g0.ext0 Y2
      refine W_sqx fun K hK => ?_
      have hend1 : ∀ (e' : Env) (w' : World), RO w2 w' → e' 1 = v0 → e' 5 = kv → K e' w' := by
        intro e w' r e1 e5
        refine hK _ _ ?_; clear hK K
        refine W_sqx fun K hK => ?_
        have hend4 : ∀ (e' : Env) (w' : World), Ext noF w2 w' → K e' w' := by
          intro e' w' X
          refine hK _ _ ?_; clear hK K
          refine W_sq fun K0 hK => (W_text [false, true] (by kernel_rfl) ?_); simp only [↓List.toList_toArray, ↓rgd, ↓rgf, ↓reduceIte, Nat.reduceEqDiff, rg, ow_4]
          refine do_call fn_13 (by simp only [evt, evc, upd_eq, Nat.reduceEqDiff, ↓reduceIte, maT, maC, maN, isnN, isnS] <;> rfl) (aliveW_any w') ?_
          rintro _ w3 ⟨rfl, y3⟩
          refine ⟨trivial, ?_⟩
          simp only [↓List.toList_toArray, ↓rgd, ↓rgf, ↓reduceIte, Nat.reduceEqDiff, rg, ow_4]
          refine hK _ _ ?_; clear hK K0
          exact W_ret (endQ_1 (by simp only [upd_eq, Nat.reduceEqDiff, ↓reduceIte] <;> rfl) ⟨rfl, (Y2.tr X).tr y3⟩)
        clear hK
        refine W_seq ?_
        rw [hv0] at e1
        refine W_rg fun K0 hK => (W_text [true, true, true] (by kernel_rfl) ?_); simp only [↓List.toList_toArray, ↓rgd, ↓rgf, ↓reduceIte, Nat.reduceEqDiff, rg, ow_4, e1]
        refine hK _ _ ?_; clear hK K0
        show W _ _ _ _ _ _
        refine W_block (W_loop (fun mm e w' => ∃ i : Nat, mm = a0.length - i ∧ i ≤ a0.length ∧ Ext noF w2 w' ∧ e 5 = kv ∧ e 77 = .slice pa a0.length pc ∧ e 78 = .int .i64 a0.length ∧ e 79 = .int .i64 i) a0.length ⟨0, rfl, Nat.zero_le _, r.ext, ?_, ?_, ?_, ?_⟩ ?_)
        · simp only [upd_eq, Nat.reduceEqDiff, ↓reduceIte]; exact e5
        · simp only [upd_eq, Nat.reduceEqDiff, ↓reduceIte]
        · simp only [upd_eq, Nat.reduceEqDiff, ↓reduceIte]
        · simp only [upd_eq, Nat.reduceEqDiff, ↓reduceIte]; rfl
        clear e1 e5 e r
        rintro mm e w' ⟨i, rfl, hi, X, e5, e77, e78, e79⟩
        by_cases hlt : i < a0.length
        · have ht := lt_tt i a0.length hlt
          refine W_sq fun K0 hK => (W_text [true] (by kernel_rfl) ?_); simp only [↓List.toList_toArray, ↓rgd, ↓rgf, ↓reduceIte, Nat.reduceEqDiff, rg, ow_4, e78, e79, ht]
          refine hK _ _ ?_; clear hK K0
          refine W_seq (W_true (by simp only [evt, evc, upd_eq, Nat.reduceEqDiff, ↓reduceIte, ntT, ntF] <;> rfl) (W_skip ?_))
          show W _ _ _ _ _ _
          obtain ⟨x, hx⟩ : ∃ x, a0[i]? = some x := ⟨_, List.getElem?_eq_getElem hlt⟩
          obtain ⟨b, o, rfl, row⟩ := g2.at hv0 hlt
          have ix := iV_at (X.row row fun _ _ h => h) hx
          refine W_seq (W_block ?_)
          refine W_sq fun K0 hK => (W_text [true, true, false, false] (by kernel_rfl) ?_); simp only [↓List.toList_toArray, ↓rgd, ↓rgf, ↓reduceIte, Nat.reduceEqDiff, rg, ow_4, e77, e79, hlt, ix]
          refine do_alloc z_item fun w3 n3 => ⟨trivial, ?_⟩
          simp only [↓List.toList_toArray, ↓rgd, ↓rgf, ↓reduceIte, Nat.reduceEqDiff, rg, ow_4]
          refine do_store (v := iV x) (by simp only [evt, evc, upd_eq, Nat.reduceEqDiff, ↓reduceIte, ntT, ntF] <;> rfl) (by simp only [evt, evc, upd_eq, Nat.reduceEqDiff, ↓reduceIte, ntT, ntF] <;> rfl) sz_31 rfl n3.wok (by decide) (Ei.one x) fun w4 x4 r4 s4 => ⟨trivial, ?_⟩
          simp only [↓List.toList_toArray, ↓rgd, ↓rgf, ↓reduceIte, Nat.reduceEqDiff, rg, ow_4]
          refine hK _ _ ?_; clear hK K0
          have X4 : Ext noF w' w4 := noF_of n3.ext x4 fun y o hy h => by simp only [rng] at h; omega
          have rx : Row w4 w'.heap.size 0 (Ei.cel x) := r4
          have v0' : rd w4 w'.heap.size 0 = some (.string x.1) := (Row.cons.1 rx).1
          refine W_sq fun K0 hK => (W_text [true, true, true, false, true] (by kernel_rfl) ?_); simp only [↓List.toList_toArray, ↓rgd, ↓rgf, ↓reduceIte, Nat.reduceEqDiff, rg, ow_4, e5, v0']
          refine do_call fn_15 (by simp only [evt, evc, upd_eq, Nat.reduceEqDiff, ↓reduceIte, maT, maC, maN, isnN, isnS] <;> rfl) (contains_any ks kv x.1 w4 (hS.ext0 (X.tr X4)) (hmem x (List.mem_of_getElem? hx)) hkl) ?_
          rintro _ w4 ⟨rfl, rfl⟩
          refine ⟨trivial, ?_⟩
          simp only [↓List.toList_toArray, ↓rgd, ↓rgf, ↓reduceIte, Nat.reduceEqDiff, rg, ow_4]
          refine hK _ _ ?_; clear hK K0
          refine W_false (by simp only [evt, evc, upd_eq, Nat.reduceEqDiff, ↓reduceIte, ntT, ntF] <;> rfl) (W_skip ?_)
          simp only [inBlk_normal, andThen_normal]
          have q1 := wadd1 i (by omega)
          refine W_rg fun K0 hK => (W_text [true, true] (by kernel_rfl) ?_); simp only [↓List.toList_toArray, ↓rgd, ↓rgf, ↓reduceIte, Nat.reduceEqDiff, rg, ow_4, e79, q1]
          refine hK _ _ ?_; clear hK K0
          refine ⟨_, ?_, i + 1, rfl, hlt, X.tr X4, ?_, ?_, ?_, ?_⟩
          · omega
          · simp only [upd_eq, Nat.reduceEqDiff, ↓reduceIte]; exact e5
          · simp only [upd_eq, Nat.reduceEqDiff, ↓reduceIte]; exact e77
          · simp only [upd_eq, Nat.reduceEqDiff, ↓reduceIte]; exact e78
          · simp only [upd_eq, Nat.reduceEqDiff, ↓reduceIte]
        · have ht := lt_ff i a0.length (by omega)
          refine W_sq fun K0 hK => (W_text [true] (by kernel_rfl) ?_); simp only [↓List.toList_toArray, ↓rgd, ↓rgf, ↓reduceIte, Nat.reduceEqDiff, rg, ow_4, e78, e79, ht]
          refine hK _ _ ?_; clear hK K0
          refine W_seq (W_false (by simp only [evt, evc, upd_eq, Nat.reduceEqDiff, ↓reduceIte, ntT, ntF] <;> rfl) (W_exit ?_))
          simp only [andThen_exit, inBlk_exit, andThen_normal, Nat.reduceEqDiff, ↓reduceIte]
          exact hend4 _ _ X
      clear hK
      refine W_seq ?_
      refine W_rg fun K0 hK => (W_text [true] (by kernel_rfl) ?_); simp only [↓List.toList_toArray, ↓rgd, ↓rgf, ↓reduceIte, Nat.reduceEqDiff, rg, ow_4]
      refine hK _ _ ?_; clear hK K0
      show W _ _ _ _ _ _
      refine W_block (W_loop (fun mm e w' => ∃ i : Nat, mm = ks.length - i ∧ 1 ≤ i ∧ RO w2 w' ∧ e 1 = v0 ∧ e 5 = .slice a ks.length c ∧ e 6 = .int .i64 i) (ks.length - 1) ⟨1, rfl, Nat.le_refl _, RO.refl _, ?_, ?_, ?_⟩ ?_)
      · simp only [upd_eq, Nat.reduceEqDiff, ↓reduceIte]; exact e1
      · simp only [upd_eq, Nat.reduceEqDiff, ↓reduceIte]; exact hkv
      · simp only [upd_eq, Nat.reduceEqDiff, ↓reduceIte]; rfl
      clear e0 e1 e
      rintro mm e w' ⟨i, rfl, hi, r, e1, e5, e6⟩
      refine W_seq ?_
      by_cases hlt : i < ks.length
      case neg =>
        have ht := lt_ff i ks.length (by omega)
        refine W_sq fun K0 hK => (W_text [true, true, true, true] (by kernel_rfl) ?_); simp only [↓List.toList_toArray, ↓rgd, ↓rgf, ↓reduceIte, Nat.reduceEqDiff, rg, ow_4, e5, e6, ht]
        refine hK _ _ ?_; clear hK K0
        refine W_false (by simp only [evt, evc, upd_eq, Nat.reduceEqDiff, ↓reduceIte, ntT, ntF] <;> rfl) (W_exit ?_)
        simp only [andThen_exit, inBlk_exit, andThen_normal, Nat.reduceEqDiff, ↓reduceIte]
        refine hend1 _ _ r ?_ ?_
        · simp only [upd_eq, Nat.reduceEqDiff, ↓reduceIte]; exact e1
        · simp only [upd_eq, Nat.reduceEqDiff, ↓reduceIte]; rw [e5, hkv]
      have ht := lt_tt i ks.length hlt
      refine W_sq fun K0 hK => (W_text [true, true, true, true] (by kernel_rfl) ?_); simp only [↓List.toList_toArray, ↓rgd, ↓rgf, ↓reduceIte, Nat.reduceEqDiff, rg, ow_4, e5, e6, ht]
      refine hK _ _ ?_; clear hK K0
      refine W_true (by simp only [evt, evc, upd_eq, Nat.reduceEqDiff, ↓reduceIte, ntT, ntF] <;> rfl) (W_skip ?_)
      show W _ _ _ _ _ _
      obtain ⟨y, hy⟩ : ∃ y, ks[i]? = some y := ⟨_, List.getElem?_eq_getElem hlt⟩
      obtain ⟨x, hx⟩ : ∃ x, ks[i - 1]? = some x := ⟨_, List.getElem?_eq_getElem (by omega)⟩
      have hxy : Op.bytesLess x.data.toList y.data.toList = true := by
        have h1 := List.getElem?_eq_some_iff.1 hx
        have h2 := List.getElem?_eq_some_iff.1 hy
        have h3 := List.pairwise_iff_getElem.1 hasc' (i - 1) i h1.1 h2.1 (by omega)
        rw [h1.2, h2.2] at h3
        have h4 : Op.bytesLess x.toList y.toList = true := h3
        rwa [ByteArray.toList_eq, ByteArray.toList_eq] at h4
      obtain ⟨b, o, rfl, row⟩ := hS.at hkv hlt
      have row' := (r.ext (F := noF)).row row fun _ _ h => h
      have ix := sV_at row' hx
      have iy := sV_at row' hy
      have hlt1 : i - 1 < ks.length := by omega
      have q1 := wsub1 i hi (by omega)
      refine W_seq (W_block ?_)
      refine W_sq fun K0 hK => (W_draw (some none) none [(0, 0, 0), (0, 1, 0), (0, 2, 0), (0, 3, 0), (0, 4, 0), (0, 5, 0), (0, 6, 0), (0, 7, 0), (0, 8, 0), (0, 9, 0), (0, 10, 0)] mixed (by kernel_rfl) ?_); simp only [↓List.toList_toArray, ↓rgd, ↓rgf, ↓reduceIte, Nat.reduceEqDiff, rg, ow_4, e5, e6, hlt, hlt1, q1, ix, iy]
      refine hK _ _ ?_; clear hK K0
      refine W_sq fun K0 hK => (W_text [true] (by kernel_rfl) ?_); simp only [↓List.toList_toArray, ↓rgd, ↓rgf, ↓reduceIte, Nat.reduceEqDiff, rg, ow_4]
      refine hK _ _ ?_; clear hK K0
      refine W_sqx fun K hK => ?_
      have hend2 : ∀ (e' : Env) (w3 : World) (n : Nat), RO w2 w3 → n ≤ x.size → n ≤ y.size → (∀ j, j < n → x.data.toList[j]? = y.data.toList[j]?) → (∀ p q, x.data.toList[n]? = some p → y.data.toList[n]? = some q → p ≠ q) →
          e' 1 = v0 → e' 5 = .slice (some ⟨b, o, none⟩) ks.length c → e' 6 = .int .i64 i → e' 7 = .string x → e' 8 = .string y → e' 9 = .int .i64 n → K e' w3 := by
        intro e w3 n r hn1 hn2 hpre hstop e1 e5 e6 e7 e8 e9
        refine hK _ _ ?_; clear hK K
        have hny := bl_end (by rw [sz_len]; exact hn1) (by rw [sz_len]; exact hn2) hpre hxy
        rw [sz_len] at hny
        have t1 : ((n : Int) == (y.size : Int)) = false := by simp; omega
        obtain ⟨q, hq⟩ : ∃ q, y.data.toList[n]? = some q := ⟨_, List.getElem?_eq_getElem (by rw [sz_len]; exact hny)⟩
        refine W_sqx fun K1 hK1 => ?_
        have hfin : ∀ (e' : Env) (w4 : World), e' 76 = .bool false → e' 1 = v0 → e' 5 = .slice (some ⟨b, o, none⟩) ks.length c → e' 6 = .int .i64 i → RO w2 w4 → K1 e' w4 := by
          intro e w4 e76 e1 e5 e6 r4
          refine hK1 _ _ ?_; clear hK1 K1
          refine W_false (by simp only [evt]; exact e76) (W_skip ?_)
          simp only [inBlk_normal, andThen_normal]
          have q2 := wadd1 i (by omega)
          refine W_rg fun K0 hK => (W_text [true, true, true] (by kernel_rfl) ?_); simp only [↓List.toList_toArray, ↓rgd, ↓rgf, ↓reduceIte, Nat.reduceEqDiff, rg, ow_4, e6, q2]
          refine hK _ _ ?_; clear hK K0
          refine ⟨_, ?_, i + 1, rfl, by omega, r4, ?_, ?_, ?_⟩
          · omega
          · simp only [upd_eq, Nat.reduceEqDiff, ↓reduceIte]; exact e1
          · simp only [upd_eq, Nat.reduceEqDiff, ↓reduceIte]; exact e5
          · simp only [upd_eq, Nat.reduceEqDiff, ↓reduceIte]
        clear hK1
        by_cases hlx : n < x.size
        · obtain ⟨p, hp⟩ : ∃ p, x.data.toList[n]? = some p := ⟨_, List.getElem?_eq_getElem (by rw [sz_len]; exact hlx)⟩
          have hlt := bl_stop hpre hxy hp hq (hstop p q hp hq)
          have t2 := lt_tt n x.size hlx
          have t3 : decide ((q.toNat : Int) < (p.toNat : Int)) = false := by
            have : p.toNat < q.toNat := hlt
            simp; omega
          have i1 := ix_s x n p hp
          have i2 := ix_s y n q hq
          refine W_rg fun K0 hK => (W_draw (some none) none [(0, 0, 0), (0, 1, 0), (0, 2, 0), (0, 3, 0), (0, 4, 0), (0, 5, 0), (0, 6, 0), (0, 7, 0), (0, 8, 0), (0, 9, 0), (0, 10, 0), (0, 11, 0), (0, 12, 0), (0, 13, 0), (0, 14, 0), (0, 15, 0), (0, 16, 0), (0, 17, 0), (0, 18, 0)] mixed (by kernel_rfl) ?_); simp only [↓List.toList_toArray, ↓rgd, ↓rgf, ↓reduceIte, Nat.reduceEqDiff, rg, ow_4, e7, e8, e9, len_s, t1, t2, t3, tk_ix, i1, i2]
          refine hK _ _ ?_; clear hK K0
          refine hfin _ _ ?_ ?_ ?_ ?_ (r.tr (RO.dr _ _))
          · simp only [upd_eq, Nat.reduceEqDiff, ↓reduceIte]
          · simp only [upd_eq, Nat.reduceEqDiff, ↓reduceIte]; exact e1
          · simp only [upd_eq, Nat.reduceEqDiff, ↓reduceIte]; exact e5
          · simp only [upd_eq, Nat.reduceEqDiff, ↓reduceIte]; exact e6
        · have t2 := lt_ff n x.size (by omega)
          refine W_rg fun K0 hK => (W_draw (some none) none [(0, 0, 0), (0, 1, 0), (0, 2, 0), (0, 3, 0), (0, 4, 0), (0, 5, 0), (0, 6, 0), (0, 7, 0), (0, 8, 0), (0, 9, 0), (0, 10, 0), (0, 11, 0), (0, 12, 0), (0, 13, 0), (0, 14, 0), (0, 15, 0), (0, 16, 0), (0, 17, 0), (0, 18, 0)] mixed (by kernel_rfl) ?_); simp only [↓List.toList_toArray, ↓rgd, ↓rgf, ↓reduceIte, Nat.reduceEqDiff, rg, ow_4, e7, e8, e9, len_s, t1, t2, tk_ix]
          refine hK _ _ ?_; clear hK K0
          refine hfin _ _ ?_ ?_ ?_ ?_ (r.tr (RO.dr _ _))
          · simp only [upd_eq, Nat.reduceEqDiff, ↓reduceIte]
          · simp only [upd_eq, Nat.reduceEqDiff, ↓reduceIte]; exact e1
          · simp only [upd_eq, Nat.reduceEqDiff, ↓reduceIte]; exact e5
          · simp only [upd_eq, Nat.reduceEqDiff, ↓reduceIte]; exact e6
      clear hK
      refine W_block (W_loop (fun mm e w3 => ∃ n : Nat, mm = x.size - n ∧ RO w2 w3 ∧ n ≤ x.size ∧ n ≤ y.size ∧ (∀ j, j < n → x.data.toList[j]? = y.data.toList[j]?) ∧
          e 1 = v0 ∧ e 5 = .slice (some ⟨b, o, none⟩) ks.length c ∧ e 6 = .int .i64 i ∧ e 7 = .string x ∧ e 8 = .string y ∧ e 9 = .int .i64 n) x.size ⟨0, rfl, r.tr (RO.dr _ _), Nat.zero_le _, Nat.zero_le _, fun j h => by omega, ?_, ?_, ?_, ?_, ?_, ?_⟩ ?_)
      · simp only [upd_eq, Nat.reduceEqDiff, ↓reduceIte]; exact e1
      · simp only [upd_eq, Nat.reduceEqDiff, ↓reduceIte]; exact e5
      · simp only [upd_eq, Nat.reduceEqDiff, ↓reduceIte]; exact e6
      · simp only [upd_eq, Nat.reduceEqDiff, ↓reduceIte]
      · simp only [upd_eq, Nat.reduceEqDiff, ↓reduceIte]
      · simp only [upd_eq, Nat.reduceEqDiff, ↓reduceIte]; rfl
      clear e1 e5 e6 e r row' ix iy
      rintro mm e w3 ⟨n, rfl, r, hn1, hn2, hpre, e1, e5, e6, e7, e8, e9⟩
      have hout : ∀ (e' : Env) (w4 : World), (∀ p q, x.data.toList[n]? = some p → y.data.toList[n]? = some q → p ≠ q) → RO w2 w4 → (∀ k, k < 37 → e' k = e k) → K e' w4 := fun e' w4 hs r4 hk =>
        hend2 e' w4 n r4 hn1 hn2 hpre hs (by rw [hk 1 (by decide)]; exact e1) (by rw [hk 5 (by decide)]; exact e5) (by rw [hk 6 (by decide)]; exact e6) (by rw [hk 7 (by decide)]; exact e7) (by rw [hk 8 (by decide)]; exact e8) (by rw [hk 9 (by decide)]; exact e9)
      have hin : x.size ≤ x.size := Nat.le_refl _
      refine W_seq ?_
      by_cases hx1 : n < x.size
      case neg =>
        have t1 := lt_ff n x.size (by omega)
        refine W_sq fun K0 hK => (W_draw (some none) none [(0, 0, 0), (0, 1, 0), (0, 2, 0), (0, 3, 0), (0, 4, 0), (0, 5, 0), (0, 6, 0), (0, 7, 0), (0, 8, 0), (0, 9, 0), (0, 10, 0), (0, 11, 0), (0, 12, 0), (0, 13, 0), (0, 14, 0), (0, 15, 0), (0, 16, 0), (0, 17, 0), (0, 18, 0)] mixed (by kernel_rfl) ?_); simp only [↓List.toList_toArray, ↓rgd, ↓rgf, ↓reduceIte, Nat.reduceEqDiff, rg, ow_4, e7, e8, e9, len_s, t1, tk_ix]
        refine hK _ _ ?_; clear hK K0
        refine W_false (by simp only [evt, evc, upd_eq, Nat.reduceEqDiff, ↓reduceIte, ntT, ntF] <;> rfl) (W_exit ?_)
        simp only [andThen_exit, inBlk_exit, andThen_normal, Nat.reduceEqDiff, ↓reduceIte]
        refine hout _ _ (fun p q hp _ => ?_) (r.tr (RO.dr _ _)) fun k hk => ?_
        · have := (List.getElem?_eq_some_iff.1 hp).1
          rw [sz_len] at this; omega
        · simp only [upd]
          repeat rw [if_neg (by omega)]
      have t1 := lt_tt n x.size hx1
      by_cases hy1 : n < y.size
      case neg =>
        have t2 := lt_ff n y.size (by omega)
        refine W_sq fun K0 hK => (W_draw (some none) none [(0, 0, 0), (0, 1, 0), (0, 2, 0), (0, 3, 0), (0, 4, 0), (0, 5, 0), (0, 6, 0), (0, 7, 0), (0, 8, 0), (0, 9, 0), (0, 10, 0), (0, 11, 0), (0, 12, 0), (0, 13, 0), (0, 14, 0), (0, 15, 0), (0, 16, 0), (0, 17, 0), (0, 18, 0)] mixed (by kernel_rfl) ?_); simp only [↓List.toList_toArray, ↓rgd, ↓rgf, ↓reduceIte, Nat.reduceEqDiff, rg, ow_4, e7, e8, e9, len_s, t1, t2, tk_ix]
        refine hK _ _ ?_; clear hK K0
        refine W_false (by simp only [evt, evc, upd_eq, Nat.reduceEqDiff, ↓reduceIte, ntT, ntF] <;> rfl) (W_exit ?_)
        simp only [andThen_exit, inBlk_exit, andThen_normal, Nat.reduceEqDiff, ↓reduceIte]
        refine hout _ _ (fun p q _ hq => ?_) (r.tr (RO.dr _ _)) fun k hk => ?_
        · have := (List.getElem?_eq_some_iff.1 hq).1
          rw [sz_len] at this; omega
        · simp only [upd]
          repeat rw [if_neg (by omega)]
      have t2 := lt_tt n y.size hy1
      obtain ⟨p, hp⟩ : ∃ p, x.data.toList[n]? = some p := ⟨_, List.getElem?_eq_getElem (by rw [sz_len]; exact hx1)⟩
      obtain ⟨q, hq⟩ : ∃ q, y.data.toList[n]? = some q := ⟨_, List.getElem?_eq_getElem (by rw [sz_len]; exact hy1)⟩
      have i1 := ix_s x n p hp
      have i2 := ix_s y n q hq
      by_cases hpq : p = q
      · have t3 : ((p.toNat : Int) == (q.toNat : Int)) = true := by rw [hpq]; simp
        refine W_sq fun K0 hK => (W_draw (some none) none [(0, 0, 0), (0, 1, 0), (0, 2, 0), (0, 3, 0), (0, 4, 0), (0, 5, 0), (0, 6, 0), (0, 7, 0), (0, 8, 0), (0, 9, 0), (0, 10, 0), (0, 11, 0), (0, 12, 0), (0, 13, 0), (0, 14, 0), (0, 15, 0), (0, 16, 0), (0, 17, 0), (0, 18, 0)] mixed (by kernel_rfl) ?_); simp only [↓List.toList_toArray, ↓rgd, ↓rgf, ↓reduceIte, Nat.reduceEqDiff, rg, ow_4, e7, e8, e9, len_s, t1, t2, t3, tk_ix, i1, i2]
        refine hK _ _ ?_; clear hK K0
        refine W_true (by simp only [evt, evc, upd_eq, Nat.reduceEqDiff, ↓reduceIte, ntT, ntF] <;> rfl) (W_skip ?_)
        show W _ _ _ _ _ _
        have q2 := wadd1 n (by have := hks y (List.mem_of_getElem? hy); omega)
        refine W_block ?_
        refine W_rg fun K0 hK => (W_text [true, true, true] (by kernel_rfl) ?_); simp only [↓List.toList_toArray, ↓rgd, ↓rgf, ↓reduceIte, Nat.reduceEqDiff, rg, ow_4, e9, q2]
        refine hK _ _ ?_; clear hK K0
        refine ⟨_, ?_, n + 1, rfl, r.tr (RO.dr _ _), by omega, by omega, fun j hj => ?_, ?_, ?_, ?_, ?_, ?_, ?_⟩
        · omega
        · rcases Nat.lt_or_ge j n with g | g
          · exact hpre j g
          · obtain rfl : j = n := by omega
            rw [hp, hq, hpq]
        · simp only [upd_eq, Nat.reduceEqDiff, ↓reduceIte]; exact e1
        · simp only [upd_eq, Nat.reduceEqDiff, ↓reduceIte]; exact e5
        · simp only [upd_eq, Nat.reduceEqDiff, ↓reduceIte]; exact e6
        · simp only [upd_eq, Nat.reduceEqDiff, ↓reduceIte]; exact e7
        · simp only [upd_eq, Nat.reduceEqDiff, ↓reduceIte]; exact e8
        · simp only [upd_eq, Nat.reduceEqDiff, ↓reduceIte]
      · have t3 : ((p.toNat : Int) == (q.toNat : Int)) = false := by
          have : p.toNat ≠ q.toNat := fun h => hpq (UInt8.toNat_inj.1 h)
          simp; omega
        refine W_sq fun K0 hK => (W_draw (some none) none [(0, 0, 0), (0, 1, 0), (0, 2, 0), (0, 3, 0), (0, 4, 0), (0, 5, 0), (0, 6, 0), (0, 7, 0), (0, 8, 0), (0, 9, 0), (0, 10, 0), (0, 11, 0), (0, 12, 0), (0, 13, 0), (0, 14, 0), (0, 15, 0), (0, 16, 0), (0, 17, 0), (0, 18, 0)] mixed (by kernel_rfl) ?_); simp only [↓List.toList_toArray, ↓rgd, ↓rgf, ↓reduceIte, Nat.reduceEqDiff, rg, ow_4, e7, e8, e9, len_s, t1, t2, t3, tk_ix, i1, i2]
        refine hK _ _ ?_; clear hK K0
        refine W_false (by simp only [evt, evc, upd_eq, Nat.reduceEqDiff, ↓reduceIte, ntT, ntF] <;> rfl) (W_exit ?_)
        simp only [andThen_exit, inBlk_exit, andThen_normal, Nat.reduceEqDiff, ↓reduceIte]
        refine hout _ _ (fun p' q' hp' hq' => ?_) (r.tr (RO.dr _ _)) fun k hk => ?_
        · rw [hp] at hp'; rw [hq] at hq'; cases hp'; cases hq'; exact hpq
        · simp only [upd]
          repeat rw [if_neg (by omega)]
end Go.Proofs.Ytinpigpeoakeaaa
/-
  FnWPopAll returns true, whatever the arguments. No condition.
-/
set_option linter.unusedSimpArgs false
set_option linter.unusedVariables false
namespace Go.Proofs.Ytinpigpeoakeaaa
open Go Go.Proofs
theorem outs_lt (last : Bool) (T : List It) (k : Nat) (hk : k < T.length) : ∃ x, (outsL last T)[k]? = some x ∧ (popD last T)[k]? = some x := by
  have hl := popD_len last T
  obtain ⟨x, hx⟩ : ∃ x, (popD last T)[k]? = some x := ⟨_, List.getElem?_eq_getElem (by omega)⟩
  exact ⟨x, by have := outs_at last T k (by omega); rw [hx] at this; exact this, hx⟩
theorem oks_lt (T : List It) (k : Nat) (hk : k < T.length) : (oksL T)[k]? = some true := by
  unfold oksL
  rw [List.getElem?_append_left (by simpa using hk), List.getElem?_replicate, if_pos hk]
theorem oks_end (T : List It) : (oksL T)[T.length]? = some false := by
  unfold oksL
  rw [List.getElem?_append_right (by simp)]; simp
theorem outs_len (last : Bool) (T : List It) : (outsL last T).length = T.length + 1 := by simp [outsL, popD_len]
theorem oks_len (T : List It) : (oksL T).length = T.length + 1 := by simp [oksL]
theorem popD_map (last : Bool) (T : List It) : (popD last T).map κ = if last = true then (T.map κ).reverse else T.map κ := by cases last <;> simp [popD]
set_option maxHeartbeats 2000000 in
set_option maxRecDepth 8000 in
theorem top_FnWPopAll (d : Int) (a0 : List It) (v0 : Value) (a2 : Bool) (w : World) (g0 : SlI w v0 a0) :
    CallK Try.prog 6 #[.int .i64 d, v0, .bool a2] w fun v w' => v = .bool true ∧ Ext noF w w' := by
  refine calls_of_W [.tmp 6] Try.func6 rfl Try.ntmps6 Try.results6 (by simp) fun e he => ?_
  have e0 : e 0 = .int .i64 d := he 0 _ rfl
  have e1 : e 1 = v0 := he 1 _ rfl
  have e2 : e 2 = .bool a2 := he 2 _ rfl
  clear he
  refine W_sq fun K hK => (W_text [true] (by kernel_rfl) ?_); simp only [↓List.toList_toArray, ↓rgd, ↓rgf, ↓reduceIte, Nat.reduceEqDiff, rg, ow_6]
  refine hK _ _ ?_; clear hK K
  refine W_seq ?_
  refine W_sq fun K hK => (W_text [true, false, true] (by kernel_rfl) ?_); simp only [↓List.toList_toArray, ↓rgd, ↓rgf, ↓reduceIte, Nat.reduceEqDiff, rg, ow_6, e1]
  refine do_call fn_8 (by simp only [evt, evc, upd_eq, Nat.reduceEqDiff, ↓reduceIte, maT, maC, maN, isnN, isnS] <;> rfl) (fits2_any a0 v0 w g0) ?_
  rintro _ w1 ⟨t, rfl, ht, y1⟩
  refine ⟨trivial, ?_⟩
  simp only [↓List.toList_toArray, ↓rgd, ↓rgf, ↓reduceIte, Nat.reduceEqDiff, rg, ow_6]
  refine hK _ _ ?_; clear hK K
  cases t with
  | false =>
    refine W_true (by simp only [evt, evc, upd_eq, Nat.reduceEqDiff, ↓reduceIte, ntT, ntF] <;> rfl) ?_
    refine W_sq fun K hK => (W_text [true] (by kernel_rfl) ?_); simp only [↓List.toList_toArray, ↓rgd, ↓rgf, ↓reduceIte, Nat.reduceEqDiff, rg, ow_6]
    refine hK _ _ ?_; clear hK K
    refine W_ret ?_
    simp only [andThen_ret]
    exact endQ_1 (by simp only [upd_eq, Nat.reduceEqDiff, ↓reduceIte] <;> rfl) ⟨rfl, y1⟩
  | true =>
  have hb0 := ht rfl
  refine W_false (by simp only [evt, evc, upd_eq, Nat.reduceEqDiff, ↓reduceIte, ntT, ntF] <;> rfl) (W_skip ?_)
  show W _ _ _ _ _ _
  refine W_seq ?_
  refine W_sq fun K hK => (W_text [true, false, true] (by kernel_rfl) ?_); simp only [↓List.toList_toArray, ↓rgd, ↓rgf, ↓reduceIte, Nat.reduceEqDiff, rg, ow_6, e0]
  refine do_call fn_12 (by simp only [evt, evc, upd_eq, Nat.reduceEqDiff, ↓reduceIte, maT, maC, maN, isnN, isnS] <;> rfl) (fit_any d w1) ?_
  rintro _ w1 ⟨t, rfl, hd, rfl⟩
  refine ⟨trivial, ?_⟩
  simp only [↓List.toList_toArray, ↓rgd, ↓rgf, ↓reduceIte, Nat.reduceEqDiff, rg, ow_6]
  refine hK _ _ ?_; clear hK K
  cases t with
  | false =>
    refine W_true (by simp only [evt, evc, upd_eq, Nat.reduceEqDiff, ↓reduceIte, ntT, ntF] <;> rfl) ?_
    refine W_sq fun K hK => (W_text [false, true] (by kernel_rfl) ?_); simp only [↓List.toList_toArray, ↓rgd, ↓rgf, ↓reduceIte, Nat.reduceEqDiff, rg, ow_6]
    refine do_call fn_13 (by simp only [evt, evc, upd_eq, Nat.reduceEqDiff, ↓reduceIte, maT, maC, maN, isnN, isnS] <;> rfl) (aliveW_any w1) ?_
    rintro _ w2 ⟨rfl, y2⟩
    refine ⟨trivial, ?_⟩
    simp only [↓List.toList_toArray, ↓rgd, ↓rgf, ↓reduceIte, Nat.reduceEqDiff, rg, ow_6]
    refine hK _ _ ?_; clear hK K
    refine W_ret ?_
    simp only [andThen_ret]
    exact endQ_1 (by simp only [upd_eq, Nat.reduceEqDiff, ↓reduceIte] <;> rfl) ⟨rfl, y1.tr y2⟩
  | true =>
  obtain ⟨hd2, hd3⟩ := hd rfl
  obtain ⟨n, rfl⟩ : ∃ n : Nat, d = n := ⟨d.toNat, by omega⟩
  refine W_false (by simp only [evt, evc, upd_eq, Nat.reduceEqDiff, ↓reduceIte, ntT, ntF] <;> rfl) (W_skip ?_)
  show W _ _ _ _ _ _
  have htl := tree_len a0
  refine W_sq fun K hK => (W_text [true, true, false, true] (by kernel_rfl) ?_); simp only [↓List.toList_toArray, ↓rgd, ↓rgf, ↓reduceIte, Nat.reduceEqDiff, rg, ow_6, e0, e1]
  refine do_call fn_14 (by simp only [evt, evc, upd_eq, Nat.reduceEqDiff, ↓reduceIte, maT, maC, maN, isnN, isnS] <;> rfl) (impl_wkeys n (by omega) (by omega) a0 v0 w1 (SlV.ext0 g0 y1) hb0) ?_
  rintro kv w2 ⟨hO, y2⟩
  refine ⟨trivial, ?_⟩
  simp only [↓List.toList_toArray, ↓rgd, ↓rgf, ↓reduceIte, Nat.reduceEqDiff, rg, ow_6]
  refine hK _ _ ?_; clear hK K
  have Y2 := y1.tr y2
  have hkl : ((tree a0).map κ).length ≤ 2147483647 := by rw [List.length_map]; omega
  refine W_sqx fun J hJ => ?_
  have hmid : ∀ (e' : Env) (w' : World) (kv : Value), Ext noF w w' → SlV w' 1 kv ((popD a2 (tree a0)).map κ).length (flat Es ((popD a2 (tree a0)).map κ)) → e' 0 = .int .i64 n → e' 1 = v0 → e' 2 = .bool a2 → e' 7 = kv → J e' w' := by
    clear e0 e1 e2 hO Y2 y2 y1
    intro e w3 kv Y3 hk e0 e1 e2 e7
    refine hJ _ _ ?_; clear hJ J
    obtain ⟨ka, kc, hkv⟩ := SlV.shape hk
    rw [hkv] at e7
    obtain ⟨ks, hks⟩ : ∃ ks, ks = (popD a2 (tree a0)).map κ := ⟨_, rfl⟩
    rw [← hks] at hk hkv e7
    have hkn : ks.length = (tree a0).length := by rw [hks, List.length_map, popD_len]
    have q1 := wadd1 ks.length (by omega)
    refine W_sq fun K hK => (W_text [true, true, true, false, true] (by kernel_rfl) ?_); simp only [↓List.toList_toArray, ↓rgd, ↓rgf, ↓reduceIte, Nat.reduceEqDiff, rg, ow_6, e7, q1]
    refine do_make (by simp only [evt, evc, upd_eq, Nat.reduceEqDiff, ↓reduceIte, ntT, ntF] <;> rfl) (by simp only [evt, evc, upd_eq, Nat.reduceEqDiff, ↓reduceIte, ntT, ntF] <;> rfl) el_t rfl (Nat.le_refl _) (by omega) (by omega) fun w4 z hz n4 => ⟨trivial, ?_⟩
    simp only [↓List.toList_toArray, ↓rgd, ↓rgf, ↓reduceIte, Nat.reduceEqDiff, rg, ow_6]
    refine hK _ _ ?_; clear hK K
    obtain ⟨eb, heb⟩ : ∃ eb, eb = w3.heap.size := ⟨_, rfl⟩
    rw [← heb]
    have w4b : wok w4 eb (ks.length + 1) := by have h := n4.wok; rw [hz, Nat.mul_one] at h; rw [heb]; exact h
    have X4 := n4.ext
    clear n4 hz z
    refine W_sqx fun J hJ => ?_
    have hend : ∀ (e' : Env) (w' : World), Ext noF w3 w' → wok w' eb (ks.length + 1) → (∀ j, j < ks.length + 1 → rd w' eb j = some (.bool a2)) → e' 0 = .int .i64 n → e' 1 = v0 → e' 7 = .slice ka ks.length kc → e' 8 = .slice (some ⟨eb, 0, none⟩) (ks.length + 1) (ks.length + 1) → J e' w' := by
      clear X4 w4b e0 e1 e2 e7
      intro e w5 X5 w5b hset e0 e1 e7 e8
      refine hJ _ _ ?_; clear hJ J
      have hends : SlV w5 1 (.slice (some ⟨eb, 0, none⟩) (ks.length + 1) (ks.length + 1)) (List.replicate ((tree a0).length + 1) a2).length (flat Eb (List.replicate ((tree a0).length + 1) a2)) := by
        have hl : (List.replicate ((tree a0).length + 1) a2).length = ks.length + 1 := by simp; omega
        rw [hl]
        refine ⟨by rw [flat_length, hl]; rfl, .inr ⟨eb, 0, _, rfl, Nat.le_refl _, fun j v hj => ?_, w5b.R (by omega)⟩⟩
        rw [flat_Eb, List.getElem?_map, List.getElem?_replicate] at hj
        split at hj
        · cases hj
          rw [Nat.zero_add]
          exact hset j (by omega)
        · cases hj
      have Y5 := Y3.tr X5
      refine W_sq fun K hK => (W_text [true, true, true, false, true, true, true, true, true, true, true] (by kernel_rfl) ?_); simp only [↓List.toList_toArray, ↓rgd, ↓rgf, ↓reduceIte, Nat.reduceEqDiff, rg, ow_6, e0, e1, e8]
      refine do_call fn_19 (by simp only [evt, evc, upd_eq, Nat.reduceEqDiff, ↓reduceIte, maT, maC, maN, isnN, isnS] <;> rfl) (impl_wpops n (by omega) (by omega) a2 a0 v0 _ w5 (SlV.ext0 g0 Y5) hb0 hends) ?_
      rintro _ w6 ⟨ov, bv, sv, rfl, ho, hb, hs, X6⟩
      refine ⟨trivial, ?_⟩
      simp only [↓List.toList_toArray, ↓rgd, ↓rgf, ↓reduceIte, Nat.reduceEqDiff, rg, ow_6]
      refine hK _ _ ?_; clear hK K
      have Y6 := Y5.tr X6
      have hk6 := SlV.ext0 hk (X5.tr X6)
      obtain ⟨oa, oc, rfl⟩ := SlV.shape ho
      obtain ⟨ba, bc, rfl⟩ := SlV.shape hb
      obtain ⟨sa, sc, rfl⟩ := SlV.shape hs
      rw [outs_len, ← hkn]
      rw [oks_len, ← hkn]
      have hb' := hb
      obtain ⟨bb, bo, rfl, brow⟩ := SlV.at hb rfl (show ks.length < _ by rw [oks_len]; omega)
      have boks := bV_at brow (hkn ▸ oks_end (tree a0))
      have t1 : (((ks.length + 1 : Nat) : Int) != ((ks.length + 1 : Nat) : Int)) = false := by simp
      have t2 : (((([] : List It).length : Nat) : Int) != 0) = false := rfl
      have i1 : ks.length < ks.length + 1 := by omega
      refine W_seq ?_
      refine W_sq fun K hK => (W_text [true, true, true, true, true, true, true, true, true, true, true, true, true, true, true, true, true, true, true, true, true, true, true, true, true, true] (by kernel_rfl) ?_); simp only [↓List.toList_toArray, ↓rgd, ↓rgf, ↓reduceIte, Nat.reduceEqDiff, rg, ow_6, e7, q1, t1, t2, i1, boks]
      refine hK _ _ ?_; clear hK K
      refine W_false (by simp only [evt, evc, upd_eq, Nat.reduceEqDiff, ↓reduceIte, ntT, ntF] <;> rfl) (W_skip ?_)
      show W _ _ _ _ _ _
      refine W_seq (W_seq ?_)
      refine W_rg fun K hK => (W_text [true, true, true] (by kernel_rfl) ?_); simp only [↓List.toList_toArray, ↓rgd, ↓rgf, ↓reduceIte, Nat.reduceEqDiff, rg, ow_6, e7]
      refine hK _ _ ?_; clear hK K
      show W _ _ _ _ _ _
      refine W_block (W_loop (fun mm e w' => ∃ k : Nat, mm = ks.length - k ∧ k ≤ ks.length ∧ w' = w6 ∧ e 76 = .slice ka ks.length kc ∧ e 77 = .int .i64 ks.length ∧ e 78 = .int .i64 k ∧ e 10 = .slice oa (ks.length + 1) oc ∧ e 11 = .slice (some ⟨bb, bo, none⟩) (ks.length + 1) bc)
        ks.length ⟨0, by simp, by simp, rfl, by simp only [upd_eq, Nat.reduceEqDiff, ↓reduceIte], by simp only [upd_eq, Nat.reduceEqDiff, ↓reduceIte], by simp only [upd_eq, Nat.reduceEqDiff, ↓reduceIte]; rfl, by simp only [upd_eq, Nat.reduceEqDiff, ↓reduceIte] <;> rfl, by simp only [upd_eq, Nat.reduceEqDiff, ↓reduceIte] <;> rfl⟩ ?_)
      clear e0 e1 e7 e8 e
      rintro mm e _ ⟨k, rfl, hk', rfl, eS, eL, eI, e10, e11⟩
      by_cases hlt : k < ks.length
      · have ht := lt_tt k ks.length hlt
        refine W_sq fun K hK => (W_text [true] (by kernel_rfl) ?_); simp only [↓List.toList_toArray, ↓rgd, ↓rgf, ↓reduceIte, Nat.reduceEqDiff, rg, ow_6, eL, eI, ht]
        refine hK _ _ ?_; clear hK K
        refine W_seq (W_true (by simp only [evt, evc, upd_eq, Nat.reduceEqDiff, ↓reduceIte, ntT, ntF] <;> rfl) (W_skip ?_))
        show W _ _ _ _ _ _
        obtain ⟨x, hx, hx2⟩ := outs_lt a2 (tree a0) k (by omega)
        have hxk : ks[k]? = some (κ x) := by rw [hks, List.getElem?_map, hx2]; rfl
        obtain ⟨ib, io, hka, row⟩ := SlV.at hk6 hkv hlt
        have ixx := sV_at row hxk
        obtain ⟨ob, oo, hoa, orow⟩ := SlV.at ho rfl (show k < _ by rw [outs_len]; omega)
        have iox := ik_at orow hx
        have ibx := bV_at brow (oks_lt (tree a0) k (by omega))
        have i2 : k < ks.length + 1 := by omega
        have nes := ne_s (κ x)
        rw [hka] at eS
        rw [hoa] at e10
        refine W_seq (W_block ?_)
        refine W_sq fun K hK => (W_text [true, true, true, true, true] (by kernel_rfl) ?_); simp only [↓List.toList_toArray, ↓rgd, ↓rgf, ↓reduceIte, Nat.reduceEqDiff, rg, ow_6, eS, eI, hlt, ixx]
        refine hK _ _ ?_; clear hK K
        refine W_sq fun K hK => (W_text [true, true, true, true, true, true, true, true, true, true, true, true, true, true] (by kernel_rfl) ?_); simp only [↓List.toList_toArray, ↓rgd, ↓rgf, ↓reduceIte, Nat.reduceEqDiff, rg, ow_6, e10, e11, i2, ibx, iox, nes, kV]
        refine hK _ _ ?_; clear hK K
        refine W_false (by simp only [evt, evc, upd_eq, Nat.reduceEqDiff, ↓reduceIte, ntT, ntF] <;> rfl) (W_skip ?_)
        show W _ _ _ _ _ _
        have q2 := wadd1 k (by omega)
        rw [← hka] at eS
        rw [← hoa] at e10
        refine W_rg fun K hK => (W_text [true, true] (by kernel_rfl) ?_); simp only [↓List.toList_toArray, ↓rgd, ↓rgf, ↓reduceIte, Nat.reduceEqDiff, rg, ow_6, eI, q2]
        refine hK _ _ ?_; clear hK K
        refine ⟨_, ?_, k + 1, rfl, hlt, rfl, by simp only [upd_eq, Nat.reduceEqDiff, ↓reduceIte]; exact eS, by simp only [upd_eq, Nat.reduceEqDiff, ↓reduceIte]; exact eL, by simp only [upd_eq, Nat.reduceEqDiff, ↓reduceIte], by simp only [upd_eq, Nat.reduceEqDiff, ↓reduceIte]; exact e10, by simp only [upd_eq, Nat.reduceEqDiff, ↓reduceIte]; exact e11⟩
        omega
      · obtain rfl : k = ks.length := by omega
        have ht := lt_ff ks.length ks.length (by omega)
        refine W_sq fun K hK => (W_text [true] (by kernel_rfl) ?_); simp only [↓List.toList_toArray, ↓rgd, ↓rgf, ↓reduceIte, Nat.reduceEqDiff, rg, ow_6, eL, eI, ht]
        refine hK _ _ ?_; clear hK K
        refine W_seq (W_false (by simp only [evt, evc, upd_eq, Nat.reduceEqDiff, ↓reduceIte, ntT, ntF] <;> rfl) (W_exit ?_))
        simp only [andThen_exit, inBlk_exit, andThen_normal, ↓reduceIte]
        refine W_sq fun K hK => (W_text [false, true] (by kernel_rfl) ?_); simp only [↓List.toList_toArray, ↓rgd, ↓rgf, ↓reduceIte, Nat.reduceEqDiff, rg, ow_6]
        refine do_call fn_13 (by simp only [evt, evc, upd_eq, Nat.reduceEqDiff, ↓reduceIte, maT, maC, maN, isnN, isnS] <;> rfl) (aliveW_any _) ?_
        rintro _ w7 ⟨rfl, y7⟩
        refine ⟨trivial, ?_⟩
        simp only [↓List.toList_toArray, ↓rgd, ↓rgf, ↓reduceIte, Nat.reduceEqDiff, rg, ow_6]
        refine hK _ _ ?_; clear hK K
        exact W_ret (endQ_1 (by simp only [upd_eq, Nat.reduceEqDiff, ↓reduceIte] <;> rfl) ⟨rfl, Y6.tr y7⟩)
    refine W_seq ?_
    refine W_rg fun K hK => (W_text [true, true, true] (by kernel_rfl) ?_); simp only [↓List.toList_toArray, ↓rgd, ↓rgf, ↓reduceIte, Nat.reduceEqDiff, rg, ow_6]
    refine hK _ _ ?_; clear hK K
    show W _ _ _ _ _ _
    clear hJ
    refine W_block (W_loop (fun mm e w' => ∃ k : Nat, mm = ks.length + 1 - k ∧ k ≤ ks.length + 1 ∧ Ext noF w3 w' ∧ wok w' eb (ks.length + 1) ∧ (∀ j, j < k → rd w' eb j = some (.bool a2)) ∧ e 0 = .int .i64 n ∧ e 1 = v0 ∧ e 2 = .bool a2 ∧ e 7 = .slice ka ks.length kc ∧ e 8 = .slice (some ⟨eb, 0, none⟩) (ks.length + 1) (ks.length + 1) ∧ e 33 = .int .i64 (ks.length + 1 : Nat) ∧ e 34 = .int .i64 k)
      (ks.length + 1) ⟨0, by simp, by simp, X4, w4b, fun j h => by omega, by simp only [upd_eq, Nat.reduceEqDiff, ↓reduceIte]; exact e0, by simp only [upd_eq, Nat.reduceEqDiff, ↓reduceIte]; exact e1, by simp only [upd_eq, Nat.reduceEqDiff, ↓reduceIte]; exact e2, by simp only [upd_eq, Nat.reduceEqDiff, ↓reduceIte]; exact e7, by simp only [upd_eq, Nat.reduceEqDiff, ↓reduceIte] <;> rfl, by simp only [upd_eq, Nat.reduceEqDiff, ↓reduceIte] <;> rfl, by simp only [upd_eq, Nat.reduceEqDiff, ↓reduceIte]; rfl⟩ ?_)
    clear e0 e1 e2 e7 e X4 w4b
    rintro mm e w' ⟨k, rfl, hk', X, wb, hset, e0, e1, e2, e7, e8, eL, eI⟩
    by_cases hlt : k < ks.length + 1
    · have ht := lt_tt k (ks.length + 1) hlt
      refine W_sq fun K hK => (W_text [true] (by kernel_rfl) ?_); simp only [↓List.toList_toArray, ↓rgd, ↓rgf, ↓reduceIte, Nat.reduceEqDiff, rg, ow_6, eL, eI, ht]
      refine hK _ _ ?_; clear hK K
      refine W_seq (W_true (by simp only [evt, evc, upd_eq, Nat.reduceEqDiff, ↓reduceIte, ntT, ntF] <;> rfl) (W_skip ?_))
      show W _ _ _ _ _ _
      refine W_seq (W_block ?_)
      refine W_sq fun K hK => (W_text [true, true] (by kernel_rfl) ?_); simp only [↓List.toList_toArray, ↓rgd, ↓rgf, ↓reduceIte, Nat.reduceEqDiff, rg, ow_6, eI]
      refine hK _ _ ?_; clear hK K
      refine W_rg fun K hK => (W_text [true, true, true, true, false] (by kernel_rfl) ?_); simp only [↓List.toList_toArray, ↓rgd, ↓rgf, ↓reduceIte, Nat.reduceEqDiff, rg, ow_6, e2, e8, hlt]
      refine do_store (by simp only [evt, evc, upd_eq, Nat.reduceEqDiff, ↓reduceIte, ntT, ntF] <;> rfl) (by simp only [evt, evc, upd_eq, Nat.reduceEqDiff, ↓reduceIte, ntT, ntF] <;> rfl) sz_4 rfl wb (by omega) (oc_one rfl rfl) fun w5 x5 r5 s5 => ⟨trivial, ?_⟩
      simp only [↓List.toList_toArray, ↓rgd, ↓rgf, ↓reduceIte, Nat.reduceEqDiff, rg, ow_6]
      refine hK _ _ ?_; clear hK K
      show W _ _ _ _ _ _
      have q2 := wadd1 k (by omega)
      refine W_rg fun K hK => (W_text [true, true] (by kernel_rfl) ?_); simp only [↓List.toList_toArray, ↓rgd, ↓rgf, ↓reduceIte, Nat.reduceEqDiff, rg, ow_6, eI, q2]
      refine hK _ _ ?_; clear hK K
      refine ⟨_, ?_, k + 1, rfl, hlt, noF_of X x5 (fun y o hy g => by simp only [rng] at g; omega), x5.wok wb, fun j hj => ?_, by simp only [upd_eq, Nat.reduceEqDiff, ↓reduceIte]; exact e0, by simp only [upd_eq, Nat.reduceEqDiff, ↓reduceIte]; exact e1, by simp only [upd_eq, Nat.reduceEqDiff, ↓reduceIte]; exact e2, by simp only [upd_eq, Nat.reduceEqDiff, ↓reduceIte]; exact e7, by simp only [upd_eq, Nat.reduceEqDiff, ↓reduceIte]; exact e8, by simp only [upd_eq, Nat.reduceEqDiff, ↓reduceIte]; exact eL, by simp only [upd_eq, Nat.reduceEqDiff, ↓reduceIte]⟩
      · omega
      · by_cases hjk : j = k
        · subst hjk
          have := (Row.cons.1 r5).1
          simpa using this
        · exact x5.rd (hset j (by omega)) (by simp only [rng]; omega)
    · obtain rfl : k = ks.length + 1 := by omega
      have ht := lt_ff (ks.length + 1) (ks.length + 1) (by omega)
      refine W_sq fun K hK => (W_text [true] (by kernel_rfl) ?_); simp only [↓List.toList_toArray, ↓rgd, ↓rgf, ↓reduceIte, Nat.reduceEqDiff, rg, ow_6, eL, eI, ht]
      refine hK _ _ ?_; clear hK K
      refine W_seq (W_false (by simp only [evt, evc, upd_eq, Nat.reduceEqDiff, ↓reduceIte, ntT, ntF] <;> rfl) (W_exit ?_))
      simp only [andThen_exit, inBlk_exit, andThen_normal, ↓reduceIte]
      refine hend _ _ X wb hset ?_ ?_ ?_ ?_
      · simp only [upd_eq, Nat.reduceEqDiff, ↓reduceIte]; exact e0
      · simp only [upd_eq, Nat.reduceEqDiff, ↓reduceIte]; exact e1
      · simp only [upd_eq, Nat.reduceEqDiff, ↓reduceIte]; exact e7
      · simp only [upd_eq, Nat.reduceEqDiff, ↓reduceIte]; exact e8
  clear hJ
  refine W_sq fun K hK => (W_text [true] (by kernel_rfl) ?_); simp only [↓List.toList_toArray, ↓rgd, ↓rgf, ↓reduceIte, Nat.reduceEqDiff, rg, ow_6, e2]
  refine hK _ _ ?_; clear hK K
  cases a2 with
  | false =>
    refine W_false (by simp only [evt, evc, upd_eq, Nat.reduceEqDiff, ↓reduceIte, ntT, ntF] <;> rfl) (W_skip ?_)
    refine hmid _ _ kv Y2 (by rw [popD_map]; exact hO.sl) ?_ ?_ ?_ ?_
    · simp only [upd_eq, Nat.reduceEqDiff, ↓reduceIte]; exact e0
    · simp only [upd_eq, Nat.reduceEqDiff, ↓reduceIte]; exact e1
    · simp only [upd_eq, Nat.reduceEqDiff, ↓reduceIte]; exact e2
    · simp only [upd_eq, Nat.reduceEqDiff, ↓reduceIte]
  | true =>
    refine W_true (by simp only [evt, evc, upd_eq, Nat.reduceEqDiff, ↓reduceIte, ntT, ntF] <;> rfl) ?_
    refine W_rg fun K hK => (W_text [true, false, true] (by kernel_rfl) ?_); simp only [↓List.toList_toArray, ↓rgd, ↓rgf, ↓reduceIte, Nat.reduceEqDiff, rg, ow_6]
    refine do_call fn_18 (by simp only [evt, evc, upd_eq, Nat.reduceEqDiff, ↓reduceIte, maT, maC, maN, isnN, isnS] <;> rfl) (turned_any _ kv w2 hO.sl hkl) ?_
    rintro v3 w3 ⟨h3, X3⟩
    refine ⟨trivial, ?_⟩
    simp only [↓List.toList_toArray, ↓rgd, ↓rgf, ↓reduceIte, Nat.reduceEqDiff, rg, ow_6]
    refine hK _ _ ?_; clear hK K
    refine hmid _ _ v3 (Y2.tr X3) (by rw [popD_map]; exact h3) ?_ ?_ ?_ ?_
    · simp only [upd_eq, Nat.reduceEqDiff, ↓reduceIte]; exact e0
    · simp only [upd_eq, Nat.reduceEqDiff, ↓reduceIte]; exact e1
    · simp only [upd_eq, Nat.reduceEqDiff, ↓reduceIte]; exact e2
    · simp only [upd_eq, Nat.reduceEqDiff, ↓reduceIte]
end Go.Proofs.Ytinpigpeoakeaaa
/-
  FnWPopAll: the whole statement: it returns true whatever the input is, and the arguments read as before. No condition.
-/
set_option linter.unusedSimpArgs false
set_option linter.unusedVariables false
namespace Go.Proofs.Ytinpigpeoakeaaa
open Go Go.Proofs Go.ChangeShapes Go.WideShapes Go.ChangeAt Go.RowKit
set_option maxRecDepth 100000 in
theorem c_FnWPopAll (H : Type) (enc : TypeId × Value → H) (W : World) (base : Nat) (args : Array Value) (ds gs : List (DataW H)) (before : List MemPlace)
    (hval : ∀ (j : Nat) t v, Try.f6.params[j]? = some t → args[j]? = some v → Value.okWide Try.prog W .any base t v)
    (hW : DataW.Whole enc Try.prog Try.f6.params.toList Rows.fnWPopAllSpec.vars false W args.toList ds gs before) :
    Calls Try.prog 6 args W fun e W' => ∃ v, e = .returned v ∧ Rows.fnWPopAllSpec.post enc Try.prog Try.f6 false true false false W args v W' := by
  have hW' := hW
  obtain ⟨p, q, hA0, hV, rfl, hfz, hnd⟩ := hW
  have hA : DataW.TrodAll enc Try.prog W 0 (fun _ => true) true Try.f6.params.toList args.toList ds p := hA0
  rw [Try.params6] at hA hval
  obtain ⟨v0, v1, v2, d0, d1, d2, p0, p1, p2, rfl, rfl, rfl, h0, h1, h2⟩ := trodAll_three hA
  obtain ⟨rfl, rfl⟩ := trodVars_none hV
  obtain ⟨a0, rfl, rfl, rfl, _⟩ := open_int Try.underlying3 (hval 0 3 v0 rfl rfl) h0
  obtain ⟨a1, g1⟩ := open_words (hval 1 22 v1 rfl rfl) h1 fun b o h => hfz b o (by simp [h])
  obtain ⟨a2, rfl, rfl, rfl⟩ := open_bool Try.underlying4 (hval 2 4 v2 rfl rfl) h2
  exact calls_law laidOut (by rw [Try.params6]; kernel_rfl) rfl hW' rfl rfl rfl (by kernel_rfl) Try.underlying4 (top_FnWPopAll a0 a1 v1 a2 W g1)
set_option maxRecDepth 100000 in
theorem l_FnWPopAll (os : Os) (started : os.Started) (H : Type) (enc : TypeId × Value → H) :
    ReturnsInHanded {} Try.checked os 6 .any (Rows.fnWPopAllSpec.pre6 enc Try.prog Try.f6 Rows.fnWPopAllRow.domain false) (Rows.fnWPopAllSpec.post enc Try.prog Try.f6 false true false false) := by
  refine returnsInHanded_of_change (C := Try.checked) own started (by kernel_rfl) Try.func6
    (ChangeSpec.witness6 (enc := enc) (C := Try.checked) false ⟨#[], #[.int .i64 0, .slice none 0 0, .bool false], []⟩ 8 (by kernel_rfl) (by kernel_rfl) (by kernel_rfl) (by kernel_rfl)) ?_
  intro W base args ds gs before hval hW _ _
  exact c_FnWPopAll H enc W base args ds gs before hval hW
theorem h_FnWPopAll : Rows.FnWPopAllSaid :=
  OpenClaim.holds_of_wide 6 Try.f6 rfl rfl rfl rfl rfl rfl rfl ⟨rfl, rfl, rfl, rfl, rfl⟩ rfl rfl rfl rfl rfl (by kernel_rfl) Try.func6 (by kernel_rfl)
    (of_decide_eq_true (by kernel_rfl)) (by unfold Func.isWrapper; first | (rw [if_pos (by decide +kernel)]; kernel_rfl) | (rw [if_neg (by decide +kernel)]; exact ⟨rfl, rfl⟩))
    (fun os started H enc _ => l_FnWPopAll os started H enc)
#print axioms h_FnWPopAll
end Go.Proofs.Ytinpigpeoakeaaa
