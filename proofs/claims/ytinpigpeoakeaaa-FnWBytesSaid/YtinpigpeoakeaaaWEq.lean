/-
  Lists of strings, of numbers and of truth values that are compared. No condition.
-/
import Derived.Test.YtinpigpeoakeaaaWBase
set_option linter.unusedSimpArgs false
set_option linter.unusedVariables false
namespace Go.Proofs.Ytinpigpeoakeaaa
open Go Go.Proofs
theorem nV_at {w : World} {b o : Nat} {l : List Int} (h : Row w b o (flat En l)) {i : Nat} {x : Int} (hi : l[i]? = some x) : rd w b (o + i) = some (.int .i64 x) := by
  have := row_cell (row_at En h hi) (j := 0) rfl
  rwa [show En.sz = 1 from rfl, Nat.mul_one] at this
theorem tV_at {w : World} {b o : Nat} {l : List Bool} (h : Row w b o (flat Eb l)) {i : Nat} {x : Bool} (hi : l[i]? = some x) : rd w b (o + i) = some (.bool x) := by
  have := row_cell (row_at Eb h hi) (j := 0) rfl
  rwa [show Eb.sz = 1 from rfl, Nat.mul_one] at this
theorem ne_n (x : Int) : binV Try.prog .neq 3 (.int .i64 x) (.int .i64 x) = some (.bool false) := by simp [binV]
theorem ne_t : ∀ x : Bool, binV Try.prog .neq 4 (.bool x) (.bool x) = some (.bool false)
  | true => by kernel_rfl
  | false => by kernel_rfl
set_option maxHeartbeats 400000 in
set_option maxRecDepth 8000 in
/-- Two slices that hold the same list are equal. -/
theorem eq_s (l : List ByteArray) (v1 v2 : Value) (w : World) (h1 : SlV w 1 v1 l.length (flat Es l)) (h2 : SlV w 1 v2 l.length (flat Es l)) (hbig : l.length ≤ 4294967296) :
    CallK Try.prog 23 #[v1, v2] w fun v w' => v = .bool true ∧ RO w w' := by
  obtain ⟨a1, c1, hv1⟩ := h1.shape
  obtain ⟨a2, c2, hv2⟩ := h2.shape
  refine calls_of_W [.tmp 4] Try.func23 rfl Try.ntmps23 Try.results23 (by simp) fun e he => ?_
  have e0 : e 0 = .slice a1 l.length c1 := by rw [← hv1]; exact he 0 _ rfl
  have e1 : e 1 = .slice a2 l.length c2 := by rw [← hv2]; exact he 1 _ rfl
  clear he
  refine W_sq fun K hK => (W_text [true] (by kernel_rfl) ?_); simp only [↓List.toList_toArray, ↓rgd, ↓reduceIte, Nat.reduceEqDiff, rg, ow_23]
  refine hK _ _ ?_; clear hK K
  have t0 : ((l.length : Int) != (l.length : Int)) = false := by simp
  refine W_seq ?_
  refine W_sq fun K hK => (W_text [true, true, true, true, true] (by kernel_rfl) ?_); simp only [↓List.toList_toArray, ↓rgd, ↓reduceIte, Nat.reduceEqDiff, rg, ow_23, e0, e1, t0]
  refine hK _ _ ?_; clear hK K
  refine W_false (by simp only [evt, evc, upd_eq, Nat.reduceEqDiff, ↓reduceIte, ntT, ntF] <;> rfl) (W_skip ?_)
  show W _ _ _ _ _ _
  refine W_seq (W_seq ?_)
  refine W_rg fun K hK => (W_text [true, true, true] (by kernel_rfl) ?_); simp only [↓List.toList_toArray, ↓rgd, ↓reduceIte, Nat.reduceEqDiff, rg, ow_23, e0]
  refine hK _ _ ?_; clear hK K
  show W _ _ _ _ _ _
  refine W_block (W_loop (fun mm e w' => ∃ i : Nat, mm = l.length - i ∧ i ≤ l.length ∧ RO w w' ∧ e 0 = .slice a1 l.length c1 ∧ e 1 = .slice a2 l.length c2 ∧ e 12 = .int .i64 l.length ∧ e 13 = .int .i64 i)
    l.length ⟨0, by simp, by simp, RO.refl _, ?_, ?_, ?_, ?_⟩ ?_)
  · simp only [upd_eq, Nat.reduceEqDiff, ↓reduceIte]; exact e0
  · simp only [upd_eq, Nat.reduceEqDiff, ↓reduceIte]; exact e1
  · simp only [upd_eq, Nat.reduceEqDiff, ↓reduceIte]
  · simp only [upd_eq, Nat.reduceEqDiff, ↓reduceIte]; rfl
  · clear e0 e1 e
    rintro mm e w' ⟨i, rfl, hi, hro, e0, e1, e12, e13⟩
    by_cases hlt : i < l.length
    · have ht := lt_tt i l.length hlt
      refine W_sq fun K hK => (W_text [true] (by kernel_rfl) ?_); simp only [↓List.toList_toArray, ↓rgd, ↓reduceIte, Nat.reduceEqDiff, rg, ow_23, e12, e13, ht]
      refine hK _ _ ?_; clear hK K
      refine W_seq (W_true (by simp only [evt, evc, upd_eq, Nat.reduceEqDiff, ↓reduceIte, ntT, ntF] <;> rfl) (W_skip ?_))
      show W _ _ _ _ _ _
      obtain ⟨x, hx⟩ : ∃ x, l[i]? = some x := ⟨_, List.getElem?_eq_getElem hlt⟩
      obtain ⟨b1, o1, g1, r1⟩ := h1.at hv1 hlt
      obtain ⟨b2, o2, g2, r2⟩ := h2.at hv2 hlt
      subst g1 g2
      have x1 := sV_at ((hro.ext (F := noF)).row r1 fun _ _ h => h) hx
      have x2 := sV_at ((hro.ext (F := noF)).row r2 fun _ _ h => h) hx
      have n1 := ne_s x
      refine W_seq (W_block ?_)
      refine W_sq fun K hK => (W_text [true, true] (by kernel_rfl) ?_); simp only [↓List.toList_toArray, ↓rgd, ↓reduceIte, Nat.reduceEqDiff, rg, ow_23, e13]
      refine hK _ _ ?_; clear hK K
      refine W_sq fun K hK => (W_draw (some none) none [(0, 0, 0), (0, 1, 0), (0, 2, 0), (0, 3, 0), (0, 4, 0), (0, 5, 0), (0, 6, 0), (0, 7, 0), (0, 8, 0)] mixed (by kernel_rfl) ?_); simp only [↓List.toList_toArray, ↓rgd, ↓reduceIte, Nat.reduceEqDiff, rg, ow_23, e0, e1, e13, hlt, x1, x2, n1]
      refine hK _ _ ?_; clear hK K
      refine W_false (by simp only [evt, evc, upd_eq, Nat.reduceEqDiff, ↓reduceIte, ntT, ntF] <;> rfl) (W_skip ?_)
      show W _ _ _ _ _ _
      have q1 := wadd1 i (by omega)
      refine W_rg fun K hK => (W_text [true, true] (by kernel_rfl) ?_); simp only [↓List.toList_toArray, ↓rgd, ↓reduceIte, Nat.reduceEqDiff, rg, ow_23, e13, q1]
      refine hK _ _ ?_; clear hK K
      refine ⟨_, ?_, i + 1, rfl, hlt, hro.tr (RO.dr _ _), ?_, ?_, ?_, ?_⟩
      · omega
      · simp only [upd_eq, Nat.reduceEqDiff, ↓reduceIte]; exact e0
      · simp only [upd_eq, Nat.reduceEqDiff, ↓reduceIte]; exact e1
      · simp only [upd_eq, Nat.reduceEqDiff, ↓reduceIte]; exact e12
      · simp only [upd_eq, Nat.reduceEqDiff, ↓reduceIte]
    · obtain rfl : i = l.length := by omega
      have ht := lt_ff l.length l.length (by omega)
      refine W_sq fun K hK => (W_text [true] (by kernel_rfl) ?_); simp only [↓List.toList_toArray, ↓rgd, ↓reduceIte, Nat.reduceEqDiff, rg, ow_23, e12, e13, ht]
      refine hK _ _ ?_; clear hK K
      refine W_seq (W_false (by simp only [evt, evc, upd_eq, Nat.reduceEqDiff, ↓reduceIte, ntT, ntF] <;> rfl) (W_exit ?_))
      simp only [andThen_exit, inBlk_exit, andThen_normal, ↓reduceIte]
      refine W_sq fun K hK => (W_text [true] (by kernel_rfl) ?_); simp only [↓List.toList_toArray, ↓rgd, ↓reduceIte, Nat.reduceEqDiff, rg, ow_23]
      refine hK _ _ ?_; clear hK K
      exact W_ret (endQ_1 (by simp only [upd_eq, Nat.reduceEqDiff, ↓reduceIte] <;> rfl) ⟨rfl, hro⟩)
set_option maxHeartbeats 400000 in
set_option maxRecDepth 8000 in
/-- Two slices that hold the same list are equal. -/
theorem eq_n (l : List Int) (v1 v2 : Value) (w : World) (h1 : SlV w 1 v1 l.length (flat En l)) (h2 : SlV w 1 v2 l.length (flat En l)) (hbig : l.length ≤ 4294967296) :
    CallK Try.prog 29 #[v1, v2] w fun v w' => v = .bool true ∧ RO w w' := by
  obtain ⟨a1, c1, hv1⟩ := h1.shape
  obtain ⟨a2, c2, hv2⟩ := h2.shape
  refine calls_of_W [.tmp 4] Try.func29 rfl Try.ntmps29 Try.results29 (by simp) fun e he => ?_
  have e0 : e 0 = .slice a1 l.length c1 := by rw [← hv1]; exact he 0 _ rfl
  have e1 : e 1 = .slice a2 l.length c2 := by rw [← hv2]; exact he 1 _ rfl
  clear he
  refine W_sq fun K hK => (W_text [true] (by kernel_rfl) ?_); simp only [↓List.toList_toArray, ↓rgd, ↓reduceIte, Nat.reduceEqDiff, rg, ow_29]
  refine hK _ _ ?_; clear hK K
  have t0 : ((l.length : Int) != (l.length : Int)) = false := by simp
  refine W_seq ?_
  refine W_sq fun K hK => (W_text [true, true, true, true, true] (by kernel_rfl) ?_); simp only [↓List.toList_toArray, ↓rgd, ↓reduceIte, Nat.reduceEqDiff, rg, ow_29, e0, e1, t0]
  refine hK _ _ ?_; clear hK K
  refine W_false (by simp only [evt, evc, upd_eq, Nat.reduceEqDiff, ↓reduceIte, ntT, ntF] <;> rfl) (W_skip ?_)
  show W _ _ _ _ _ _
  refine W_seq (W_seq ?_)
  refine W_rg fun K hK => (W_text [true, true, true] (by kernel_rfl) ?_); simp only [↓List.toList_toArray, ↓rgd, ↓reduceIte, Nat.reduceEqDiff, rg, ow_29, e0]
  refine hK _ _ ?_; clear hK K
  show W _ _ _ _ _ _
  refine W_block (W_loop (fun mm e w' => ∃ i : Nat, mm = l.length - i ∧ i ≤ l.length ∧ RO w w' ∧ e 0 = .slice a1 l.length c1 ∧ e 1 = .slice a2 l.length c2 ∧ e 12 = .int .i64 l.length ∧ e 13 = .int .i64 i)
    l.length ⟨0, by simp, by simp, RO.refl _, ?_, ?_, ?_, ?_⟩ ?_)
  · simp only [upd_eq, Nat.reduceEqDiff, ↓reduceIte]; exact e0
  · simp only [upd_eq, Nat.reduceEqDiff, ↓reduceIte]; exact e1
  · simp only [upd_eq, Nat.reduceEqDiff, ↓reduceIte]
  · simp only [upd_eq, Nat.reduceEqDiff, ↓reduceIte]; rfl
  · clear e0 e1 e
    rintro mm e w' ⟨i, rfl, hi, hro, e0, e1, e12, e13⟩
    by_cases hlt : i < l.length
    · have ht := lt_tt i l.length hlt
      refine W_sq fun K hK => (W_text [true] (by kernel_rfl) ?_); simp only [↓List.toList_toArray, ↓rgd, ↓reduceIte, Nat.reduceEqDiff, rg, ow_29, e12, e13, ht]
      refine hK _ _ ?_; clear hK K
      refine W_seq (W_true (by simp only [evt, evc, upd_eq, Nat.reduceEqDiff, ↓reduceIte, ntT, ntF] <;> rfl) (W_skip ?_))
      show W _ _ _ _ _ _
      obtain ⟨x, hx⟩ : ∃ x, l[i]? = some x := ⟨_, List.getElem?_eq_getElem hlt⟩
      obtain ⟨b1, o1, g1, r1⟩ := h1.at hv1 hlt
      obtain ⟨b2, o2, g2, r2⟩ := h2.at hv2 hlt
      subst g1 g2
      have x1 := nV_at ((hro.ext (F := noF)).row r1 fun _ _ h => h) hx
      have x2 := nV_at ((hro.ext (F := noF)).row r2 fun _ _ h => h) hx
      have n1 := ne_n x
      refine W_seq (W_block ?_)
      refine W_sq fun K hK => (W_text [true, true] (by kernel_rfl) ?_); simp only [↓List.toList_toArray, ↓rgd, ↓reduceIte, Nat.reduceEqDiff, rg, ow_29, e13]
      refine hK _ _ ?_; clear hK K
      refine W_sq fun K hK => (W_draw (some none) none [(0, 0, 0), (0, 1, 0), (0, 2, 0), (0, 3, 0), (0, 4, 0), (0, 5, 0), (0, 6, 0), (0, 7, 0), (0, 8, 0)] mixed (by kernel_rfl) ?_); simp only [↓List.toList_toArray, ↓rgd, ↓reduceIte, Nat.reduceEqDiff, rg, ow_29, e0, e1, e13, hlt, x1, x2, n1]
      refine hK _ _ ?_; clear hK K
      refine W_false (by simp only [evt, evc, upd_eq, Nat.reduceEqDiff, ↓reduceIte, ntT, ntF] <;> rfl) (W_skip ?_)
      show W _ _ _ _ _ _
      have q1 := wadd1 i (by omega)
      refine W_rg fun K hK => (W_text [true, true] (by kernel_rfl) ?_); simp only [↓List.toList_toArray, ↓rgd, ↓reduceIte, Nat.reduceEqDiff, rg, ow_29, e13, q1]
      refine hK _ _ ?_; clear hK K
      refine ⟨_, ?_, i + 1, rfl, hlt, hro.tr (RO.dr _ _), ?_, ?_, ?_, ?_⟩
      · omega
      · simp only [upd_eq, Nat.reduceEqDiff, ↓reduceIte]; exact e0
      · simp only [upd_eq, Nat.reduceEqDiff, ↓reduceIte]; exact e1
      · simp only [upd_eq, Nat.reduceEqDiff, ↓reduceIte]; exact e12
      · simp only [upd_eq, Nat.reduceEqDiff, ↓reduceIte]
    · obtain rfl : i = l.length := by omega
      have ht := lt_ff l.length l.length (by omega)
      refine W_sq fun K hK => (W_text [true] (by kernel_rfl) ?_); simp only [↓List.toList_toArray, ↓rgd, ↓reduceIte, Nat.reduceEqDiff, rg, ow_29, e12, e13, ht]
      refine hK _ _ ?_; clear hK K
      refine W_seq (W_false (by simp only [evt, evc, upd_eq, Nat.reduceEqDiff, ↓reduceIte, ntT, ntF] <;> rfl) (W_exit ?_))
      simp only [andThen_exit, inBlk_exit, andThen_normal, ↓reduceIte]
      refine W_sq fun K hK => (W_text [true] (by kernel_rfl) ?_); simp only [↓List.toList_toArray, ↓rgd, ↓reduceIte, Nat.reduceEqDiff, rg, ow_29]
      refine hK _ _ ?_; clear hK K
      exact W_ret (endQ_1 (by simp only [upd_eq, Nat.reduceEqDiff, ↓reduceIte] <;> rfl) ⟨rfl, hro⟩)
set_option maxHeartbeats 400000 in
set_option maxRecDepth 8000 in
/-- Two slices that hold the same list are equal. -/
theorem eq_t (l : List Bool) (v1 v2 : Value) (w : World) (h1 : SlV w 1 v1 l.length (flat Eb l)) (h2 : SlV w 1 v2 l.length (flat Eb l)) (hbig : l.length ≤ 4294967296) :
    CallK Try.prog 30 #[v1, v2] w fun v w' => v = .bool true ∧ RO w w' := by
  obtain ⟨a1, c1, hv1⟩ := h1.shape
  obtain ⟨a2, c2, hv2⟩ := h2.shape
  refine calls_of_W [.tmp 4] Try.func30 rfl Try.ntmps30 Try.results30 (by simp) fun e he => ?_
  have e0 : e 0 = .slice a1 l.length c1 := by rw [← hv1]; exact he 0 _ rfl
  have e1 : e 1 = .slice a2 l.length c2 := by rw [← hv2]; exact he 1 _ rfl
  clear he
  refine W_sq fun K hK => (W_text [true] (by kernel_rfl) ?_); simp only [↓List.toList_toArray, ↓rgd, ↓reduceIte, Nat.reduceEqDiff, rg, ow_30]
  refine hK _ _ ?_; clear hK K
  have t0 : ((l.length : Int) != (l.length : Int)) = false := by simp
  refine W_seq ?_
  refine W_sq fun K hK => (W_text [true, true, true, true, true] (by kernel_rfl) ?_); simp only [↓List.toList_toArray, ↓rgd, ↓reduceIte, Nat.reduceEqDiff, rg, ow_30, e0, e1, t0]
  refine hK _ _ ?_; clear hK K
  refine W_false (by simp only [evt, evc, upd_eq, Nat.reduceEqDiff, ↓reduceIte, ntT, ntF] <;> rfl) (W_skip ?_)
  show W _ _ _ _ _ _
  refine W_seq (W_seq ?_)
  refine W_rg fun K hK => (W_text [true, true, true] (by kernel_rfl) ?_); simp only [↓List.toList_toArray, ↓rgd, ↓reduceIte, Nat.reduceEqDiff, rg, ow_30, e0]
  refine hK _ _ ?_; clear hK K
  show W _ _ _ _ _ _
  refine W_block (W_loop (fun mm e w' => ∃ i : Nat, mm = l.length - i ∧ i ≤ l.length ∧ RO w w' ∧ e 0 = .slice a1 l.length c1 ∧ e 1 = .slice a2 l.length c2 ∧ e 12 = .int .i64 l.length ∧ e 13 = .int .i64 i)
    l.length ⟨0, by simp, by simp, RO.refl _, ?_, ?_, ?_, ?_⟩ ?_)
  · simp only [upd_eq, Nat.reduceEqDiff, ↓reduceIte]; exact e0
  · simp only [upd_eq, Nat.reduceEqDiff, ↓reduceIte]; exact e1
  · simp only [upd_eq, Nat.reduceEqDiff, ↓reduceIte]
  · simp only [upd_eq, Nat.reduceEqDiff, ↓reduceIte]; rfl
  · clear e0 e1 e
    rintro mm e w' ⟨i, rfl, hi, hro, e0, e1, e12, e13⟩
    by_cases hlt : i < l.length
    · have ht := lt_tt i l.length hlt
      refine W_sq fun K hK => (W_text [true] (by kernel_rfl) ?_); simp only [↓List.toList_toArray, ↓rgd, ↓reduceIte, Nat.reduceEqDiff, rg, ow_30, e12, e13, ht]
      refine hK _ _ ?_; clear hK K
      refine W_seq (W_true (by simp only [evt, evc, upd_eq, Nat.reduceEqDiff, ↓reduceIte, ntT, ntF] <;> rfl) (W_skip ?_))
      show W _ _ _ _ _ _
      obtain ⟨x, hx⟩ : ∃ x, l[i]? = some x := ⟨_, List.getElem?_eq_getElem hlt⟩
      obtain ⟨b1, o1, g1, r1⟩ := h1.at hv1 hlt
      obtain ⟨b2, o2, g2, r2⟩ := h2.at hv2 hlt
      subst g1 g2
      have x1 := tV_at ((hro.ext (F := noF)).row r1 fun _ _ h => h) hx
      have x2 := tV_at ((hro.ext (F := noF)).row r2 fun _ _ h => h) hx
      have n1 := ne_t x
      refine W_seq (W_block ?_)
      refine W_sq fun K hK => (W_text [true, true] (by kernel_rfl) ?_); simp only [↓List.toList_toArray, ↓rgd, ↓reduceIte, Nat.reduceEqDiff, rg, ow_30, e13]
      refine hK _ _ ?_; clear hK K
      refine W_sq fun K hK => (W_draw (some none) none [(0, 0, 0), (0, 1, 0), (0, 2, 0), (0, 3, 0), (0, 4, 0), (0, 5, 0), (0, 6, 0), (0, 7, 0), (0, 8, 0)] mixed (by kernel_rfl) ?_); simp only [↓List.toList_toArray, ↓rgd, ↓reduceIte, Nat.reduceEqDiff, rg, ow_30, e0, e1, e13, hlt, x1, x2, n1]
      refine hK _ _ ?_; clear hK K
      refine W_false (by simp only [evt, evc, upd_eq, Nat.reduceEqDiff, ↓reduceIte, ntT, ntF] <;> rfl) (W_skip ?_)
      show W _ _ _ _ _ _
      have q1 := wadd1 i (by omega)
      refine W_rg fun K hK => (W_text [true, true] (by kernel_rfl) ?_); simp only [↓List.toList_toArray, ↓rgd, ↓reduceIte, Nat.reduceEqDiff, rg, ow_30, e13, q1]
      refine hK _ _ ?_; clear hK K
      refine ⟨_, ?_, i + 1, rfl, hlt, hro.tr (RO.dr _ _), ?_, ?_, ?_, ?_⟩
      · omega
      · simp only [upd_eq, Nat.reduceEqDiff, ↓reduceIte]; exact e0
      · simp only [upd_eq, Nat.reduceEqDiff, ↓reduceIte]; exact e1
      · simp only [upd_eq, Nat.reduceEqDiff, ↓reduceIte]; exact e12
      · simp only [upd_eq, Nat.reduceEqDiff, ↓reduceIte]
    · obtain rfl : i = l.length := by omega
      have ht := lt_ff l.length l.length (by omega)
      refine W_sq fun K hK => (W_text [true] (by kernel_rfl) ?_); simp only [↓List.toList_toArray, ↓rgd, ↓reduceIte, Nat.reduceEqDiff, rg, ow_30, e12, e13, ht]
      refine hK _ _ ?_; clear hK K
      refine W_seq (W_false (by simp only [evt, evc, upd_eq, Nat.reduceEqDiff, ↓reduceIte, ntT, ntF] <;> rfl) (W_exit ?_))
      simp only [andThen_exit, inBlk_exit, andThen_normal, ↓reduceIte]
      refine W_sq fun K hK => (W_text [true] (by kernel_rfl) ?_); simp only [↓List.toList_toArray, ↓rgd, ↓reduceIte, Nat.reduceEqDiff, rg, ow_30]
      refine hK _ _ ?_; clear hK K
      exact W_ret (endQ_1 (by simp only [upd_eq, Nat.reduceEqDiff, ↓reduceIte] <;> rfl) ⟨rfl, hro⟩)
end Go.Proofs.Ytinpigpeoakeaaa
