/-
  The map's search in a node, and its small functions. No condition.
-/
import Derived.Test.YtinpigpeoakeaaaMI
set_option linter.unusedSimpArgs false
set_option linter.unusedVariables false
namespace Go.Proofs.Ytinpigpeoakeaaa
open Go Go.Proofs
set_option maxHeartbeats 40000 in
theorem leaf_any (b : Nat) (ch : Option Addr) (w : World) (hch : rd w b 3 = some (.pointer ch)) :
    CallK Try.prog 58 #[ptr b] w fun v w' => v = .bool ch.isNone ∧ w' = w := by
  refine calls_of_W [.tmp 2] Try.func58 rfl Try.ntmps58 Try.results58 (by simp) fun e he => ?_
  have h0 : e 0 = ptr b := he 0 _ rfl
  clear he
  refine W_sq fun K hK => (W_text [true] (by kernel_rfl) ?_); simp only [↓List.toList_toArray, ↓rgd, ↓reduceIte, Nat.reduceEqDiff, rg, ow_58]
  refine hK _ _ ?_; clear hK K
  refine W_sq fun K hK => (W_text [true, true, true, true, true, true] (by kernel_rfl) ?_); simp only [↓List.toList_toArray, ↓rgd, ↓reduceIte, Nat.reduceEqDiff, rg, ow_58, h0, ptr_eq, hch]
  refine hK _ _ ?_; clear hK K
  exact W_ret (endQ_1 (by simp only [upd_eq, Nat.reduceEqDiff, ↓reduceIte]) ⟨rfl, rfl⟩)

/-- What the search hands back. -/
def srch (ks : List It) (q : Rk) : Value := .tuple #[.int .i64 (lb O κ q ks : Nat), .bool (hit O κ q ks)]
set_option maxHeartbeats 40000 in
theorem search_any (t : Value) (b bi oi cap : Nat) (ks : List It) (q : Rk) (w : World) (h2 : rd w b 2 = some (.slice (some ⟨bi, oi, none⟩) ks.length cap)) (row : Row w bi oi (flat E ks))
    (hlen : ks.length < 4611686018427387904) (ha : Asc O κ ks) :
    CallK Try.prog 67 #[t, ptr b, kV q] w fun v w' => v = srch ks q ∧ RO w w' := by
  refine calls_of_W [.tmp 6, .tmp 7] Try.func67 rfl Try.ntmps67 Try.results67 (by simp) fun e he => ?_
  have h0 : e 1 = ptr b := he 1 _ rfl
  have h1 : e 2 = kV q := he 2 _ rfl
  clear he
  refine W_sq fun K hK => (W_text [true, true] (by kernel_rfl) ?_); simp only [↓List.toList_toArray, ↓rgd, ↓reduceIte, Nat.reduceEqDiff, rg, ow_67]
  refine hK _ _ ?_; clear hK K
  refine W_sq fun K hK => (W_draw (some none) none [(0, 0, 0), (0, 1, 0), (0, 2, 0), (0, 3, 0), (0, 4, 0), (0, 5, 0), (0, 6, 0)] mixed (by kernel_rfl) ?_); simp only [↓List.toList_toArray, ↓rgd, ↓reduceIte, Nat.reduceEqDiff, rg, ow_67, h0, ptr_eq, h2]
  refine hK _ _ ?_; clear hK K
  refine W_seq (W_block (W_loop (fun m e w' => RO w w' ∧ ∃ lo hi : Nat, m = hi - lo ∧ lo ≤ hi ∧ hi ≤ ks.length ∧ e 1 = ptr b ∧ e 2 = kV q ∧ e 8 = .int .i64 lo ∧ e 9 = .int .i64 hi ∧
    (∀ i x, i < lo → ks[i]? = some x → O.lt q (κ x) = false) ∧ (∀ i x, hi ≤ i → ks[i]? = some x → O.lt q (κ x) = true)) ks.length ⟨RO.dr _ _, 0, ks.length, by simp, by simp, by simp, ?_, ?_, ?_, ?_, ?_, ?_⟩ ?_))
  · simp only [upd_eq, Nat.reduceEqDiff, ↓reduceIte]; exact h0
  · simp only [upd_eq, Nat.reduceEqDiff, ↓reduceIte]; exact h1
  · simp only [upd_eq, Nat.reduceEqDiff, ↓reduceIte]; rfl
  · simp only [upd_eq, Nat.reduceEqDiff, ↓reduceIte]
  · intro i x hi; omega
  · intro i x hi hx; have := (List.getElem?_eq_some_iff.1 hx).1; omega
  · clear h0 h1 e
    rintro m e w' ⟨⟨nd, rfl⟩, lo, hi, rfl, hle, hhi, h0, h1, h8, h9, hlo, hup⟩
    refine W_seq ?_
    by_cases hlt : lo < hi
    · have ht := lt_tt lo hi hlt
      refine W_sq fun K hK => (W_text [true, true, true] (by kernel_rfl) ?_); simp only [↓List.toList_toArray, ↓rgd, ↓reduceIte, Nat.reduceEqDiff, rg, ow_67, h8, h9, ht]
      refine hK _ _ ?_; clear hK K
      refine W_true (by simp only [evt, upd_eq, Nat.reduceEqDiff, ↓reduceIte, ntT, ntF]) (W_skip ?_)
      have e1 := wadd lo hi (by omega)
      have e2 := wdiv2 (lo + hi) (by omega)
      refine W_block ?_
      refine W_sq fun K hK => (W_text [true, true, true, true, true] (by kernel_rfl) ?_); simp only [↓List.toList_toArray, ↓rgd, ↓reduceIte, Nat.reduceEqDiff, rg, ow_67, h8, h9, e1, e2]
      refine hK _ _ ?_; clear hK K
      obtain ⟨x, hx⟩ : ∃ x, ks[(lo + hi) / 2]? = some x := ⟨_, List.getElem?_eq_getElem (by omega)⟩
      have hk := key_at row hx
      have hi1 : (lo + hi) / 2 < ks.length := by omega
      refine W_sq fun K hK => (W_text [true, true, true, true, true, true, true, true, true, true, true] (by kernel_rfl) ?_); simp only [↓List.toList_toArray, ↓rgd, ↓reduceIte, Nat.reduceEqDiff, rg, ow_67, h0, h1, ptr_eq, h2, hi1, hk, kV_lt]
      refine hK _ _ ?_; clear hK K
      cases hq : O.lt q (κ x) with
      | true =>
        refine W_false (by simp only [evt, upd_eq, ↓reduceIte, ntT, ntF]) ?_
        refine W_rg fun K hK => (W_text [true, true] (by kernel_rfl) ?_); simp only [↓List.toList_toArray, ↓rgd, ↓reduceIte, Nat.reduceEqDiff, rg, ow_67]
        refine hK _ _ ?_; clear hK K
        refine ⟨_, ?_, RO.dr _ _, lo, (lo + hi) / 2, rfl, by omega, by omega, ?_, ?_, ?_, ?_, hlo, ?_⟩
        · omega
        · simp only [upd_eq, Nat.reduceEqDiff, ↓reduceIte]; exact h0
        · simp only [upd_eq, Nat.reduceEqDiff, ↓reduceIte]; exact h1
        · simp only [upd_eq, Nat.reduceEqDiff, ↓reduceIte]; exact h8
        · simp only [upd_eq, Nat.reduceEqDiff, ↓reduceIte]
        · intro i y hi' hy
          by_cases he : i = (lo + hi) / 2
          · subst he; rw [hx] at hy; cases hy; exact hq
          · have hsp := List.pairwise_iff_getElem.1 ha ((lo + hi) / 2) i (by omega) (List.getElem?_eq_some_iff.1 hy).1 (by omega)
            rw [(List.getElem?_eq_some_iff.1 hx).2, (List.getElem?_eq_some_iff.1 hy).2] at hsp
            exact O.tr _ _ _ hq hsp
      | false =>
        refine W_true (by simp only [evt, upd_eq, ↓reduceIte, ntT, ntF]) ?_
        have e3 := wadd1 ((lo + hi) / 2) (by omega)
        refine W_rg fun K hK => (W_text [true, true, true] (by kernel_rfl) ?_); simp only [↓List.toList_toArray, ↓rgd, ↓reduceIte, Nat.reduceEqDiff, rg, ow_67, e3]
        refine hK _ _ ?_; clear hK K
        refine ⟨_, ?_, RO.dr _ _, (lo + hi) / 2 + 1, hi, rfl, by omega, by omega, ?_, ?_, ?_, ?_, ?_, hup⟩
        · omega
        · simp only [upd_eq, Nat.reduceEqDiff, ↓reduceIte]; exact h0
        · simp only [upd_eq, Nat.reduceEqDiff, ↓reduceIte]; exact h1
        · simp only [upd_eq, Nat.reduceEqDiff, ↓reduceIte]
        · simp only [upd_eq, Nat.reduceEqDiff, ↓reduceIte]; exact h9
        · intro i y hi' hy
          by_cases he : i = (lo + hi) / 2
          · subst he; rw [hx] at hy; cases hy; exact hq
          · have hsp := List.pairwise_iff_getElem.1 ha i ((lo + hi) / 2) (List.getElem?_eq_some_iff.1 hy).1 (by omega) (by omega)
            rw [(List.getElem?_eq_some_iff.1 hx).2, (List.getElem?_eq_some_iff.1 hy).2] at hsp
            cases hqy : O.lt q (κ y) with
            | false => rfl
            | true => have := O.tr _ _ _ hqy hsp; rw [hq] at this; cases this
    · obtain rfl : lo = hi := by omega
      have ht := lt_ff lo lo (by omega)
      refine W_sq fun K hK => (W_text [true, true, true] (by kernel_rfl) ?_); simp only [↓List.toList_toArray, ↓rgd, ↓reduceIte, Nat.reduceEqDiff, rg, ow_67, h8, h9, ht]
      refine hK _ _ ?_; clear hK K
      refine W_false (by simp only [evt, upd_eq, Nat.reduceEqDiff, ↓reduceIte, ntT, ntF]) (W_exit ?_)
      show W _ _ _ _ _ _
      refine W_seq ?_
      by_cases h00 : 0 < lo
      · obtain ⟨x, hx⟩ : ∃ x, ks[lo - 1]? = some x := ⟨_, List.getElem?_eq_getElem (by omega)⟩
        have hk := key_at row hx
        have hi1 : lo - 1 < ks.length := by omega
        have e3 := wsub1 lo h00 (by omega)
        have ht0 : decide (0 < (lo : Int)) = true := by simp; omega
        refine W_sq fun K hK => (W_text [true, true, true, true, true, true, true, true, true, true, true, true, true, true, true, true] (by kernel_rfl) ?_); simp only [↓List.toList_toArray, ↓rgd, ↓reduceIte, Nat.reduceEqDiff, rg, ow_67, h0, h1, h8, ptr_eq, h2, hi1, hk, kV_lt, ht0, e3]
        refine hK _ _ ?_; clear hK K
        cases hq : O.lt (κ x) q with
        | true =>
          obtain ⟨f1, f2⟩ := missed_at O κ ha (q := q) (u := lo) hhi (fun y hy => hup lo y (Nat.le_refl _) hy) (fun y _ hy => by rw [hx] at hy; cases hy; exact hq)
          refine W_false (by simp only [evt, upd_eq, ↓reduceIte, ntT, ntF]) (W_skip ?_)
          show W _ _ _ _ _ _
          refine W_sq fun K hK => (W_text [true, true, true] (by kernel_rfl) ?_); simp only [↓List.toList_toArray, ↓rgd, ↓reduceIte, Nat.reduceEqDiff, rg, ow_67, h8]
          refine hK _ _ ?_; clear hK K
          have hs : Value.tuple #[.int .i64 (lo : Nat), .bool false] = srch ks q := by rw [srch, f1, f2]
          exact W_ret (endQ_2 (by simp only [upd_eq, Nat.reduceEqDiff, ↓reduceIte]) (by simp only [upd_eq, Nat.reduceEqDiff, ↓reduceIte]) ⟨hs, RO.dr _ _⟩)
        | false =>
          obtain ⟨f1, f2⟩ := found_at O κ ha (q := q) (u := lo) hhi hlo (fun y hy => hup lo y (Nat.le_refl _) hy) h00 hx hq
          refine W_true (by simp only [evt, upd_eq, ↓reduceIte, ntT, ntF]) ?_
          refine W_sq fun K hK => (W_text [true, true, true, true] (by kernel_rfl) ?_); simp only [↓List.toList_toArray, ↓rgd, ↓reduceIte, Nat.reduceEqDiff, rg, ow_67, h8, e3]
          refine hK _ _ ?_; clear hK K
          refine W_ret ?_
          simp only [andThen_ret, inBlk_ret]
          have hs : Value.tuple #[.int .i64 (lo - 1 : Nat), .bool true] = srch ks q := by rw [srch, f1, f2]
          exact endQ_2 (by simp only [upd_eq, Nat.reduceEqDiff, ↓reduceIte]) (by simp only [upd_eq, Nat.reduceEqDiff, ↓reduceIte]) ⟨hs, RO.dr _ _⟩
      · have ht0 : decide (0 < (lo : Int)) = false := by simp; omega
        refine W_sq fun K hK => (W_text [true, true, true, true, true, true, true, true, true, true, true, true, true, true, true, true] (by kernel_rfl) ?_); simp only [↓List.toList_toArray, ↓rgd, ↓reduceIte, Nat.reduceEqDiff, rg, ow_67, h8, ht0]
        refine hK _ _ ?_; clear hK K
        obtain ⟨f1, f2⟩ := missed_at O κ ha (q := q) (u := lo) hhi (fun y hy => hup lo y (Nat.le_refl _) hy) (fun y h _ => by omega)
        refine W_false (by simp only [evt, upd_eq, Nat.reduceEqDiff, ↓reduceIte, ntT, ntF]) (W_skip ?_)
        show W _ _ _ _ _ _
        refine W_sq fun K hK => (W_text [true, true, true] (by kernel_rfl) ?_); simp only [↓List.toList_toArray, ↓rgd, ↓reduceIte, Nat.reduceEqDiff, rg, ow_67, h8]
        refine hK _ _ ?_; clear hK K
        have hs : Value.tuple #[.int .i64 (lo : Nat), .bool false] = srch ks q := by rw [srch, f1, f2]
        exact W_ret (endQ_2 (by simp only [upd_eq, Nat.reduceEqDiff, ↓reduceIte]) (by simp only [upd_eq, Nat.reduceEqDiff, ↓reduceIte]) ⟨hs, RO.dr _ _⟩)
end Go.Proofs.Ytinpigpeoakeaaa
