/-
  Lists of numbers, items and replies that are compared. No condition.
-/
import Derived.Test.YtdffddiaoheklaaMItems
import Derived.Test.YtdffddiaoheklaaApp
set_option linter.unusedSimpArgs false
set_option linter.unusedVariables false
namespace Go.Proofs.Ytdffddiaoheklaa
open Go Go.Proofs
/-- Whole numbers as cells. -/
def En : Enc Int where
  cel x := [.int .i64 x]
  sz := 1
  len _ := rfl
  one x v hv := by simp at hv; subst hv; rfl
  pos := by decide
/-- Replies as cells. -/
def Ef : Enc (It × Bool) where
  cel x := [.int .i64 x.1.1, .int .i64 x.1.2, .bool x.2]
  sz := 3
  len _ := rfl
  one x v hv := by simp at hv; rcases hv with rfl | rfl | rfl <;> rfl
  pos := by decide
def foV (x : It × Bool) : Value := .agg #[.int .i64 x.1.1, .int .i64 x.1.2, .bool x.2]
theorem nV_at {w : World} {b o : Nat} {l : List Int} (h : Row w b o (flat En l)) {i : Nat} {x : Int} (hi : l[i]? = some x) : rd w b (o + i) = some (.int .i64 x) := by
  have := row_cell (row_at En h hi) (j := 0) rfl
  rwa [show En.sz = 1 from rfl, Nat.mul_one] at this
theorem foV_at {w : World} {b o : Nat} {l : List (It × Bool)} (h : Row w b o (flat Ef l)) {i : Nat} {x : It × Bool} (hi : l[i]? = some x) : rdA w b (o + i * 3) 3 = some (foV x) := (row_at Ef h hi).rdA 3 (by simp [Ef])
theorem ne_n (x : Int) : binV Try.prog .neq 3 (.int .i64 x) (.int .i64 x) = some (.bool false) := by simp [binV]
theorem ne_i0 (a b : Int) : binV Try.prog .neq 38 (.agg #[.int .i64 a, .int .i64 b]) (.agg #[.int .i64 a, .int .i64 b]) = some (.bool (!(a == a && (b == b && true)))) := by kernel_rfl
theorem ne_f0 (a b : Int) (c : Bool) : binV Try.prog .neq 48 (.agg #[.int .i64 a, .int .i64 b, .bool c]) (.agg #[.int .i64 a, .int .i64 b, .bool c]) = some (.bool (!((a == a && (b == b && true)) && (c == c && true)))) := by kernel_rfl
theorem ne_i (x : It) : binV Try.prog .neq 38 (iV x) (iV x) = some (.bool false) := by show binV Try.prog .neq _ (itV x) (itV x) = _; rw [itV, ne_i0]; simp
theorem ne_f (x : It × Bool) : binV Try.prog .neq 48 (foV x) (foV x) = some (.bool false) := by rw [foV, ne_f0]; simp
set_option maxHeartbeats 400000 in
set_option maxRecDepth 8000 in
/-- Two slices that hold the same list are equal. -/
theorem eq_i (l : List It) (v1 v2 : Value) (w : World) (h1 : SlV w 2 v1 l.length (flat Ei l)) (h2 : SlV w 2 v2 l.length (flat Ei l)) (hbig : l.length ≤ 4294967296) :
    CallK Try.prog 28 #[v1, v2] w fun v w' => v = .bool true ∧ RO w w' := by
  obtain ⟨a1, c1, hv1⟩ := h1.shape
  obtain ⟨a2, c2, hv2⟩ := h2.shape
  refine calls_of_W [.tmp 4] Try.func28 rfl Try.ntmps28 Try.results28 (by simp) fun e he => ?_
  have e0 : e 0 = .slice a1 l.length c1 := by rw [← hv1]; exact he 0 _ rfl
  have e1 : e 1 = .slice a2 l.length c2 := by rw [← hv2]; exact he 1 _ rfl
  clear he
  refine W_sq fun K hK => (W_text [true] (by kernel_rfl) ?_); simp only [↓List.toList_toArray, ↓rgd, ↓rgf, ↓reduceIte, Nat.reduceEqDiff, rg, ow_28]
  refine hK _ _ ?_; clear hK K
  have t0 : ((l.length : Int) != (l.length : Int)) = false := by simp
  refine W_seq ?_
  refine W_sq fun K hK => (W_text [true, true, true, true, true] (by kernel_rfl) ?_); simp only [↓List.toList_toArray, ↓rgd, ↓rgf, ↓reduceIte, Nat.reduceEqDiff, rg, ow_28, e0, e1, t0]
  refine hK _ _ ?_; clear hK K
  refine W_false (by simp only [evt, evc, upd_eq, Nat.reduceEqDiff, ↓reduceIte, ntT, ntF] <;> rfl) (W_skip ?_)
  show W _ _ _ _ _ _
  refine W_seq (W_seq ?_)
  refine W_rg fun K hK => (W_text [true, true, true] (by kernel_rfl) ?_); simp only [↓List.toList_toArray, ↓rgd, ↓rgf, ↓reduceIte, Nat.reduceEqDiff, rg, ow_28, e0]
  refine hK _ _ ?_; clear hK K
  show W _ _ _ _ _ _
  refine W_block (W_loop (fun mm e w' => ∃ i : Nat, mm = l.length - i ∧ i ≤ l.length ∧ RO w w' ∧ e 0 = .slice a1 l.length c1 ∧ e 1 = .slice a2 l.length c2 ∧ e 12 = .int .i64 l.length ∧ e 13 = .int .i64 i)
    l.length ⟨0, by simp, by simp, RO.refl _, ?_, ?_, ?_, ?_⟩ ?_)
  · simp only [upd_eq, Nat.reduceEqDiff, ↓reduceIte]; exact e0
  · simp only [upd_eq, Nat.reduceEqDiff, ↓reduceIte]; exact e1
  · simp only [upd_eq, Nat.reduceEqDiff, ↓reduceIte]
  · simp only [upd_eq, Nat.reduceEqDiff, ↓reduceIte]; rfl
  · clear e0 e1 e
    rintro mm e w' ⟨i, rfl, hi, hro, e0, e1, e12, e13⟩
    by_cases hlt : i < l.length
    · have ht := lt_tt i l.length hlt
      refine W_sq fun K hK => (W_text [true] (by kernel_rfl) ?_); simp only [↓List.toList_toArray, ↓rgd, ↓rgf, ↓reduceIte, Nat.reduceEqDiff, rg, ow_28, e12, e13, ht]
      refine hK _ _ ?_; clear hK K
      refine W_seq (W_true (by simp only [evt, evc, upd_eq, Nat.reduceEqDiff, ↓reduceIte, ntT, ntF] <;> rfl) (W_skip ?_))
      show W _ _ _ _ _ _
      obtain ⟨x, hx⟩ : ∃ x, l[i]? = some x := ⟨_, List.getElem?_eq_getElem hlt⟩
      obtain ⟨b1, o1, g1, r1⟩ := h1.at hv1 hlt
      obtain ⟨b2, o2, g2, r2⟩ := h2.at hv2 hlt
      subst g1 g2
      have x1 := iV_at ((hro.ext (F := noF)).row r1 fun _ _ h => h) hx
      have x2 := iV_at ((hro.ext (F := noF)).row r2 fun _ _ h => h) hx
      have n1 := ne_i x
      refine W_seq (W_block ?_)
      refine W_sq fun K hK => (W_text [true, true] (by kernel_rfl) ?_); simp only [↓List.toList_toArray, ↓rgd, ↓rgf, ↓reduceIte, Nat.reduceEqDiff, rg, ow_28, e13]
      refine hK _ _ ?_; clear hK K
      refine W_sq fun K hK => (W_draw (some none) none [(0, 0, 0), (0, 1, 0), (0, 2, 0), (0, 3, 0), (0, 4, 0), (0, 5, 0), (0, 6, 0), (0, 7, 0), (0, 8, 0)] mixed (by kernel_rfl) ?_); simp only [↓List.toList_toArray, ↓rgd, ↓rgf, ↓reduceIte, Nat.reduceEqDiff, rg, ow_28, e0, e1, e13, hlt, x1, x2, n1]
      refine hK _ _ ?_; clear hK K
      refine W_false (by simp only [evt, evc, upd_eq, Nat.reduceEqDiff, ↓reduceIte, ntT, ntF] <;> rfl) (W_skip ?_)
      show W _ _ _ _ _ _
      have q1 := wadd1 i (by omega)
      refine W_rg fun K hK => (W_text [true, true] (by kernel_rfl) ?_); simp only [↓List.toList_toArray, ↓rgd, ↓rgf, ↓reduceIte, Nat.reduceEqDiff, rg, ow_28, e13, q1]
      refine hK _ _ ?_; clear hK K
      refine ⟨_, ?_, i + 1, rfl, hlt, hro.tr (RO.dr _ _), ?_, ?_, ?_, ?_⟩
      · omega
      · simp only [upd_eq, Nat.reduceEqDiff, ↓reduceIte]; exact e0
      · simp only [upd_eq, Nat.reduceEqDiff, ↓reduceIte]; exact e1
      · simp only [upd_eq, Nat.reduceEqDiff, ↓reduceIte]; exact e12
      · simp only [upd_eq, Nat.reduceEqDiff, ↓reduceIte]
    · obtain rfl : i = l.length := by omega
      have ht := lt_ff l.length l.length (by omega)
      refine W_sq fun K hK => (W_text [true] (by kernel_rfl) ?_); simp only [↓List.toList_toArray, ↓rgd, ↓rgf, ↓reduceIte, Nat.reduceEqDiff, rg, ow_28, e12, e13, ht]
      refine hK _ _ ?_; clear hK K
      refine W_seq (W_false (by simp only [evt, evc, upd_eq, Nat.reduceEqDiff, ↓reduceIte, ntT, ntF] <;> rfl) (W_exit ?_))
      simp only [andThen_exit, inBlk_exit, andThen_normal, ↓reduceIte]
      refine W_sq fun K hK => (W_text [true] (by kernel_rfl) ?_); simp only [↓List.toList_toArray, ↓rgd, ↓rgf, ↓reduceIte, Nat.reduceEqDiff, rg, ow_28]
      refine hK _ _ ?_; clear hK K
      exact W_ret (endQ_1 (by simp only [upd_eq, Nat.reduceEqDiff, ↓reduceIte] <;> rfl) ⟨rfl, hro⟩)
set_option maxHeartbeats 400000 in
set_option maxRecDepth 8000 in
/-- Two slices that hold the same list are equal. -/
theorem eq_f (l : List (It × Bool)) (v1 v2 : Value) (w : World) (h1 : SlV w 3 v1 l.length (flat Ef l)) (h2 : SlV w 3 v2 l.length (flat Ef l)) (hbig : l.length ≤ 4294967296) :
    CallK Try.prog 33 #[v1, v2] w fun v w' => v = .bool true ∧ RO w w' := by
  obtain ⟨a1, c1, hv1⟩ := h1.shape
  obtain ⟨a2, c2, hv2⟩ := h2.shape
  refine calls_of_W [.tmp 4] Try.func33 rfl Try.ntmps33 Try.results33 (by simp) fun e he => ?_
  have e0 : e 0 = .slice a1 l.length c1 := by rw [← hv1]; exact he 0 _ rfl
  have e1 : e 1 = .slice a2 l.length c2 := by rw [← hv2]; exact he 1 _ rfl
  clear he
  refine W_sq fun K hK => (W_text [true] (by kernel_rfl) ?_); simp only [↓List.toList_toArray, ↓rgd, ↓rgf, ↓reduceIte, Nat.reduceEqDiff, rg, ow_33]
  refine hK _ _ ?_; clear hK K
  have t0 : ((l.length : Int) != (l.length : Int)) = false := by simp
  refine W_seq ?_
  refine W_sq fun K hK => (W_text [true, true, true, true, true] (by kernel_rfl) ?_); simp only [↓List.toList_toArray, ↓rgd, ↓rgf, ↓reduceIte, Nat.reduceEqDiff, rg, ow_33, e0, e1, t0]
  refine hK _ _ ?_; clear hK K
  refine W_false (by simp only [evt, evc, upd_eq, Nat.reduceEqDiff, ↓reduceIte, ntT, ntF] <;> rfl) (W_skip ?_)
  show W _ _ _ _ _ _
  refine W_seq (W_seq ?_)
  refine W_rg fun K hK => (W_text [true, true, true] (by kernel_rfl) ?_); simp only [↓List.toList_toArray, ↓rgd, ↓rgf, ↓reduceIte, Nat.reduceEqDiff, rg, ow_33, e0]
  refine hK _ _ ?_; clear hK K
  show W _ _ _ _ _ _
  refine W_block (W_loop (fun mm e w' => ∃ i : Nat, mm = l.length - i ∧ i ≤ l.length ∧ RO w w' ∧ e 0 = .slice a1 l.length c1 ∧ e 1 = .slice a2 l.length c2 ∧ e 12 = .int .i64 l.length ∧ e 13 = .int .i64 i)
    l.length ⟨0, by simp, by simp, RO.refl _, ?_, ?_, ?_, ?_⟩ ?_)
  · simp only [upd_eq, Nat.reduceEqDiff, ↓reduceIte]; exact e0
  · simp only [upd_eq, Nat.reduceEqDiff, ↓reduceIte]; exact e1
  · simp only [upd_eq, Nat.reduceEqDiff, ↓reduceIte]
  · simp only [upd_eq, Nat.reduceEqDiff, ↓reduceIte]; rfl
  · clear e0 e1 e
    rintro mm e w' ⟨i, rfl, hi, hro, e0, e1, e12, e13⟩
    by_cases hlt : i < l.length
    · have ht := lt_tt i l.length hlt
      refine W_sq fun K hK => (W_text [true] (by kernel_rfl) ?_); simp only [↓List.toList_toArray, ↓rgd, ↓rgf, ↓reduceIte, Nat.reduceEqDiff, rg, ow_33, e12, e13, ht]
      refine hK _ _ ?_; clear hK K
      refine W_seq (W_true (by simp only [evt, evc, upd_eq, Nat.reduceEqDiff, ↓reduceIte, ntT, ntF] <;> rfl) (W_skip ?_))
      show W _ _ _ _ _ _
      obtain ⟨x, hx⟩ : ∃ x, l[i]? = some x := ⟨_, List.getElem?_eq_getElem hlt⟩
      obtain ⟨b1, o1, g1, r1⟩ := h1.at hv1 hlt
      obtain ⟨b2, o2, g2, r2⟩ := h2.at hv2 hlt
      subst g1 g2
      have x1 := foV_at ((hro.ext (F := noF)).row r1 fun _ _ h => h) hx
      have x2 := foV_at ((hro.ext (F := noF)).row r2 fun _ _ h => h) hx
      have n1 := ne_f x
      refine W_seq (W_block ?_)
      refine W_sq fun K hK => (W_text [true, true] (by kernel_rfl) ?_); simp only [↓List.toList_toArray, ↓rgd, ↓rgf, ↓reduceIte, Nat.reduceEqDiff, rg, ow_33, e13]
      refine hK _ _ ?_; clear hK K
      refine W_sq fun K hK => (W_draw (some none) none [(0, 0, 0), (0, 1, 0), (0, 2, 0), (0, 3, 0), (0, 4, 0), (0, 5, 0), (0, 6, 0), (0, 7, 0), (0, 8, 0)] mixed (by kernel_rfl) ?_); simp only [↓List.toList_toArray, ↓rgd, ↓rgf, ↓reduceIte, Nat.reduceEqDiff, rg, ow_33, e0, e1, e13, hlt, x1, x2, n1]
      refine hK _ _ ?_; clear hK K
      refine W_false (by simp only [evt, evc, upd_eq, Nat.reduceEqDiff, ↓reduceIte, ntT, ntF] <;> rfl) (W_skip ?_)
      show W _ _ _ _ _ _
      have q1 := wadd1 i (by omega)
      refine W_rg fun K hK => (W_text [true, true] (by kernel_rfl) ?_); simp only [↓List.toList_toArray, ↓rgd, ↓rgf, ↓reduceIte, Nat.reduceEqDiff, rg, ow_33, e13, q1]
      refine hK _ _ ?_; clear hK K
      refine ⟨_, ?_, i + 1, rfl, hlt, hro.tr (RO.dr _ _), ?_, ?_, ?_, ?_⟩
      · omega
      · simp only [upd_eq, Nat.reduceEqDiff, ↓reduceIte]; exact e0
      · simp only [upd_eq, Nat.reduceEqDiff, ↓reduceIte]; exact e1
      · simp only [upd_eq, Nat.reduceEqDiff, ↓reduceIte]; exact e12
      · simp only [upd_eq, Nat.reduceEqDiff, ↓reduceIte]
    · obtain rfl : i = l.length := by omega
      have ht := lt_ff l.length l.length (by omega)
      refine W_sq fun K hK => (W_text [true] (by kernel_rfl) ?_); simp only [↓List.toList_toArray, ↓rgd, ↓rgf, ↓reduceIte, Nat.reduceEqDiff, rg, ow_33, e12, e13, ht]
      refine hK _ _ ?_; clear hK K
      refine W_seq (W_false (by simp only [evt, evc, upd_eq, Nat.reduceEqDiff, ↓reduceIte, ntT, ntF] <;> rfl) (W_exit ?_))
      simp only [andThen_exit, inBlk_exit, andThen_normal, ↓reduceIte]
      refine W_sq fun K hK => (W_text [true] (by kernel_rfl) ?_); simp only [↓List.toList_toArray, ↓rgd, ↓rgf, ↓reduceIte, Nat.reduceEqDiff, rg, ow_33]
      refine hK _ _ ?_; clear hK K
      exact W_ret (endQ_1 (by simp only [upd_eq, Nat.reduceEqDiff, ↓reduceIte] <;> rfl) ⟨rfl, hro⟩)
end Go.Proofs.Ytdffddiaoheklaa
