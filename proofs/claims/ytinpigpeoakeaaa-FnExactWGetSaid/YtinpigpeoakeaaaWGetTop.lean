/-
  FnExactWGet returns true, whatever the arguments. No condition.
-/
import Derived.Test.YtinpigpeoakeaaaWGetLaw
import Derived.Test.YtinpigpeoakeaaaWLaws
set_option linter.unusedSimpArgs false
set_option linter.unusedVariables false
namespace Go.Proofs.Ytinpigpeoakeaaa
open Go Go.Proofs
set_option maxHeartbeats 400000 in
set_option maxRecDepth 8000 in
theorem fits4_any (l : List ByteArray) (lv : Value) (w : World) (hl : SlV w 1 lv l.length (flat Es l)) :
    CallK Try.prog 16 #[lv] w fun v w' => ∃ t, v = .bool t ∧ (t = true → l.length ≤ 2147483647) ∧ w' = w := by
  obtain ⟨a, c, hlv⟩ := hl.shape
  refine calls_of_W [.tmp 2] Try.func16 rfl Try.ntmps16 Try.results16 (by simp) fun e he => ?_
  have e0 : e 0 = .slice a l.length c := by rw [← hlv]; exact he 0 _ rfl
  clear he
  refine W_sq fun K0 hK => (W_text [true] (by kernel_rfl) ?_); simp only [↓List.toList_toArray, ↓rgd, ↓reduceIte, Nat.reduceEqDiff, rg, ow_16]
  refine hK _ _ ?_; clear hK K0
  refine W_seq ?_
  by_cases hbig : l.length ≤ 2147483647
  case neg =>
    have ht : decide ((2147483647 : Int) < (l.length : Int)) = true := by simp; omega
    refine W_sq fun K0 hK => (W_text [true, true, true] (by kernel_rfl) ?_); simp only [↓List.toList_toArray, ↓rgd, ↓reduceIte, Nat.reduceEqDiff, rg, ow_16, e0, ht]
    refine hK _ _ ?_; clear hK K0
    refine W_true (by simp only [evt, evc, upd_eq, Nat.reduceEqDiff, ↓reduceIte, ntT, ntF] <;> rfl) ?_
    refine W_sq fun K0 hK => (W_text [true] (by kernel_rfl) ?_); simp only [↓List.toList_toArray, ↓rgd, ↓reduceIte, Nat.reduceEqDiff, rg, ow_16]
    refine hK _ _ ?_; clear hK K0
    refine W_ret ?_
    simp only [andThen_ret]
    exact endQ_1 (by simp only [upd_eq, Nat.reduceEqDiff, ↓reduceIte] <;> rfl) ⟨false, rfl, (fun h => by cases h), rfl⟩
  have ht : decide ((2147483647 : Int) < (l.length : Int)) = false := by simp; omega
  refine W_sq fun K0 hK => (W_text [true, true, true] (by kernel_rfl) ?_); simp only [↓List.toList_toArray, ↓rgd, ↓reduceIte, Nat.reduceEqDiff, rg, ow_16, e0, ht]
  refine hK _ _ ?_; clear hK K0
  refine W_false (by simp only [evt, evc, upd_eq, Nat.reduceEqDiff, ↓reduceIte, ntT, ntF] <;> rfl) (W_skip ?_)
  show W _ _ _ _ _ _
  refine W_seq (W_seq ?_)
  refine W_rg fun K0 hK => (W_text [true, true, true] (by kernel_rfl) ?_); simp only [↓List.toList_toArray, ↓rgd, ↓reduceIte, Nat.reduceEqDiff, rg, ow_16, e0]
  refine hK _ _ ?_; clear hK K0
  show W _ _ _ _ _ _
  refine W_block (W_loop (fun mm e w' => ∃ i : Nat, mm = l.length - i ∧ i ≤ l.length ∧ w' = w ∧ e 8 = .slice a l.length c ∧ e 9 = .int .i64 l.length ∧ e 10 = .int .i64 i) l.length ⟨0, rfl, Nat.zero_le _, rfl, ?_, ?_, ?_⟩ ?_)
  · simp only [upd_eq, Nat.reduceEqDiff, ↓reduceIte]
  · simp only [upd_eq, Nat.reduceEqDiff, ↓reduceIte]
  · simp only [upd_eq, Nat.reduceEqDiff, ↓reduceIte]; rfl
  clear e0 e
  rintro mm e w' ⟨i, rfl, hi, rfl, e8, e9, e10⟩
  by_cases hlt : i < l.length
  · have ht := lt_tt i l.length hlt
    refine W_sq fun K0 hK => (W_text [true] (by kernel_rfl) ?_); simp only [↓List.toList_toArray, ↓rgd, ↓reduceIte, Nat.reduceEqDiff, rg, ow_16, e9, e10, ht]
    refine hK _ _ ?_; clear hK K0
    refine W_seq (W_true (by simp only [evt, evc, upd_eq, Nat.reduceEqDiff, ↓reduceIte, ntT, ntF] <;> rfl) (W_skip ?_))
    show W _ _ _ _ _ _
    obtain ⟨x, hx⟩ : ∃ x, l[i]? = some x := ⟨_, List.getElem?_eq_getElem hlt⟩
    obtain ⟨b, o, rfl, row⟩ := hl.at hlv hlt
    have ix := sV_at row hx
    refine W_seq (W_block ?_)
    refine W_sq fun K0 hK => (W_text [true, true, true] (by kernel_rfl) ?_); simp only [↓List.toList_toArray, ↓rgd, ↓reduceIte, Nat.reduceEqDiff, rg, ow_16, e8, e10, hlt, ix]
    refine hK _ _ ?_; clear hK K0
    by_cases h : (x.size : Int) > 2147483647
    · have ht : decide ((2147483647 : Int) < (x.size : Int)) = true := by simp; omega
      refine W_sq fun K0 hK => (W_text [true, true, true] (by kernel_rfl) ?_); simp only [↓List.toList_toArray, ↓rgd, ↓reduceIte, Nat.reduceEqDiff, rg, ow_16, len_s, ht]
      refine hK _ _ ?_; clear hK K0
      refine W_true (by simp only [evt, evc, upd_eq, Nat.reduceEqDiff, ↓reduceIte, ntT, ntF] <;> rfl) ?_
      refine W_sq fun K0 hK => (W_text [true] (by kernel_rfl) ?_); simp only [↓List.toList_toArray, ↓rgd, ↓reduceIte, Nat.reduceEqDiff, rg, ow_16]
      refine hK _ _ ?_; clear hK K0
      refine W_ret ?_
      simp only [andThen_ret, inBlk_ret]
      exact endQ_1 (by simp only [upd_eq, Nat.reduceEqDiff, ↓reduceIte] <;> rfl) ⟨false, rfl, (fun h => by cases h), rfl⟩
    · have ht : decide ((2147483647 : Int) < (x.size : Int)) = false := by simp; omega
      refine W_sq fun K0 hK => (W_text [true, true, true] (by kernel_rfl) ?_); simp only [↓List.toList_toArray, ↓rgd, ↓reduceIte, Nat.reduceEqDiff, rg, ow_16, len_s, ht]
      refine hK _ _ ?_; clear hK K0
      refine W_false (by simp only [evt, evc, upd_eq, Nat.reduceEqDiff, ↓reduceIte, ntT, ntF] <;> rfl) (W_skip ?_)
      simp only [inBlk_normal, andThen_normal]
      have q1 := wadd1 i (by omega)
      refine W_rg fun K0 hK => (W_text [true, true] (by kernel_rfl) ?_); simp only [↓List.toList_toArray, ↓rgd, ↓reduceIte, Nat.reduceEqDiff, rg, ow_16, e10, q1]
      refine hK _ _ ?_; clear hK K0
      refine ⟨_, ?_, i + 1, rfl, hlt, rfl, ?_, ?_, ?_⟩
      · omega
      · simp only [upd_eq, Nat.reduceEqDiff, ↓reduceIte]; exact e8
      · simp only [upd_eq, Nat.reduceEqDiff, ↓reduceIte]; exact e9
      · simp only [upd_eq, Nat.reduceEqDiff, ↓reduceIte]
  · have ht := lt_ff i l.length (by omega)
    refine W_sq fun K0 hK => (W_text [true] (by kernel_rfl) ?_); simp only [↓List.toList_toArray, ↓rgd, ↓reduceIte, Nat.reduceEqDiff, rg, ow_16, e9, e10, ht]
    refine hK _ _ ?_; clear hK K0
    refine W_seq (W_false (by simp only [evt, evc, upd_eq, Nat.reduceEqDiff, ↓reduceIte, ntT, ntF] <;> rfl) (W_exit ?_))
    simp only [andThen_exit, inBlk_exit, andThen_normal, ↓reduceIte]
    refine W_sq fun K0 hK => (W_text [true] (by kernel_rfl) ?_); simp only [↓List.toList_toArray, ↓rgd, ↓reduceIte, Nat.reduceEqDiff, rg, ow_16]
    refine hK _ _ ?_; clear hK K0
    exact W_ret (endQ_1 (by simp only [upd_eq, Nat.reduceEqDiff, ↓reduceIte] <;> rfl) ⟨true, rfl, fun _ => hbig, rfl⟩)
def exGk : List ByteArray := [⟨#[98]⟩, ⟨#[120]⟩]
theorem bs_exGk : bsV Try.prog 28 2 [(0, .string ⟨#[98]⟩), (1, .string ⟨#[120]⟩)] = some (9, flat Es exGk) := by kernel_rfl
set_option maxHeartbeats 400000 in
set_option maxRecDepth 8000 in
theorem top_FnExactWGet (d : Int) (a0 : List It) (v0 : Value) (a1 : List ByteArray) (v1 : Value) (w : World) (g0 : SlI w v0 a0) (g1 : SlV w 1 v1 a1.length (flat Es a1)) :
    CallK Try.prog 5 #[.int .i64 d, v0, v1] w fun v w' => v = .bool true ∧ Ext noF w w' := by
  refine calls_of_W [.tmp 6] Try.func5 rfl Try.ntmps5 Try.results5 (by simp) fun e he => ?_
  have e0 : e 0 = .int .i64 d := he 0 _ rfl
  have e1 : e 1 = v0 := he 1 _ rfl
  have e2 : e 2 = v1 := he 2 _ rfl
  clear he
  refine W_sq fun K0 hK => (W_text [true] (by kernel_rfl) ?_); simp only [↓List.toList_toArray, ↓rgd, ↓reduceIte, Nat.reduceEqDiff, rg, ow_5]
  refine hK _ _ ?_; clear hK K0
  refine W_seq (W_sqx fun K hK => ?_)
  have hret : ∀ (e' : Env) (w1 : World), Ext noF w w1 → e' 14 = .bool true → K e' w1 := by
    intro e' w1 y1 f14
    refine hK _ _ ?_; clear hK K
    refine W_true (by simp only [evt]; exact f14) ?_
    refine W_sq fun K0 hK => (W_text [true] (by kernel_rfl) ?_); simp only [↓List.toList_toArray, ↓rgd, ↓reduceIte, Nat.reduceEqDiff, rg, ow_5]
    refine hK _ _ ?_; clear hK K0
    refine W_ret ?_
    simp only [andThen_ret]
    exact endQ_1 (by simp only [upd_eq, Nat.reduceEqDiff, ↓reduceIte] <;> rfl) ⟨rfl, y1⟩
  have hrest : ∀ (e' : Env) (w1 : World), Ext noF w w1 → a0.length ≤ 2147483647 → a1.length ≤ 2147483647 → e' 0 = .int .i64 d → e' 1 = v0 → e' 2 = v1 → e' 14 = .bool false → K e' w1 := by
    intro e w1 y1 hb0 hb1 e0 e1 e2 e14
    refine hK _ _ ?_; clear hK hret K
    refine W_false (by simp only [evt]; exact e14) (W_skip ?_)
    show W _ _ _ _ _ _
    refine W_sq fun K0 hK => (W_text [false, false, false, true, true, false, true, true, true, true, true, true, true, true, true, false, true, true, true] (by kernel_rfl) ?_); simp only [↓List.toList_toArray, ↓rgd, ↓reduceIte, Nat.reduceEqDiff, rg, ow_5]
    refine do_call fn_10 (by simp only [evt, evc, upd_eq, Nat.reduceEqDiff, ↓reduceIte, maT, maC, maN, isnN, isnS] <;> rfl) (exWords_any w1) ?_
    rintro x0 w2 ⟨q0, y2⟩
    refine ⟨trivial, ?_⟩
    simp only [↓List.toList_toArray, ↓rgd, ↓reduceIte, Nat.reduceEqDiff, rg, ow_5]
    refine do_bsl rfl bs_exGk fun w3 n3 => ⟨trivial, ?_⟩
    simp only [↓List.toList_toArray, ↓rgd, ↓reduceIte, Nat.reduceEqDiff, rg, ow_5]
    have Y3 := (y1.tr y2).tr n3.ext
    have hg : SlV w3 1 (.slice (some ⟨w2.heap.size, 0, none⟩) 2 2) exGk.length (flat Es exGk) := ⟨rfl, .inr ⟨_, 0, 2, rfl, Nat.le_refl _, n3.row, n3.wok.R (Nat.le_refl _)⟩⟩
    refine do_call fn_17 (by simp only [evt, evc, upd_eq, Nat.reduceEqDiff, ↓reduceIte, maT, maC, maN, isnN, isnS] <;> rfl) (law_wget 2 (by decide) (by decide) exL x0 exGk _ w3 (q0.ext0 n3.ext) hg (by decide) (by decide)) ?_
    rintro _ w4 ⟨rfl, y4⟩
    refine ⟨trivial, ?_⟩
    simp only [↓List.toList_toArray, ↓rgd, ↓reduceIte, Nat.reduceEqDiff, rg, ow_5, e0]
    have Y4 := Y3.tr y4
    refine do_call fn_11 (by simp only [evt, evc, upd_eq, Nat.reduceEqDiff, ↓reduceIte, maT, maC, maN, isnN, isnS] <;> rfl) (fits_any d w4) ?_
    rintro _ _ ⟨rfl, rfl⟩
    refine ⟨trivial, ?_⟩
    cases hf : (decide (d = 0) || (decide (2 ≤ d) && decide (d ≤ 128))) with
    | false =>
      simp only [↓List.toList_toArray, ↓rgd, ↓reduceIte, Nat.reduceEqDiff, rg, ow_5, e0]
      refine hK _ _ ?_; clear hK K0
      exact W_ret (endQ_1 (by simp only [upd_eq, Nat.reduceEqDiff, ↓reduceIte] <;> rfl) ⟨rfl, Y4⟩)
    | true =>
      by_cases h0 : 0 < d
      · have t2 : decide (0 < d) = true := by simp [h0]
        have h2 : 2 ≤ d ∧ d ≤ 128 := by simp at hf; omega
        obtain ⟨n, rfl⟩ : ∃ n : Nat, d = n := ⟨d.toNat, by omega⟩
        simp only [↓List.toList_toArray, ↓rgd, ↓reduceIte, Nat.reduceEqDiff, rg, ow_5, e0, t2, e1, e2]
        refine do_call fn_17 (by simp only [evt, evc, upd_eq, Nat.reduceEqDiff, ↓reduceIte, maT, maC, maN, isnN, isnS] <;> rfl) (law_wget n (by omega) (by omega) a0 v0 a1 v1 w4 (g0.ext0 Y4) (g1.ext0 Y4) hb0 hb1) ?_
        rintro _ w9 ⟨rfl, y9⟩
        refine ⟨trivial, ?_⟩
        simp only [↓List.toList_toArray, ↓rgd, ↓reduceIte, Nat.reduceEqDiff, rg, ow_5]
        refine hK _ _ ?_; clear hK K0
        exact W_ret (endQ_1 (by simp only [upd_eq, Nat.reduceEqDiff, ↓reduceIte] <;> rfl) ⟨rfl, Y4.tr y9⟩)
      · have t2 : decide (0 < d) = false := by simp [h0]
        simp only [↓List.toList_toArray, ↓rgd, ↓reduceIte, Nat.reduceEqDiff, rg, ow_5, e0, t2]
        refine hK _ _ ?_; clear hK K0
        exact W_ret (endQ_1 (by simp only [upd_eq, Nat.reduceEqDiff, ↓reduceIte] <;> rfl) ⟨rfl, Y4⟩)
  clear hK
  refine W_rg fun K0 hK => (W_text [true, false, true, true, true, false, true, true] (by kernel_rfl) ?_); simp only [↓List.toList_toArray, ↓rgd, ↓reduceIte, Nat.reduceEqDiff, rg, ow_5, e1]
  refine do_call fn_8 (by simp only [evt, evc, upd_eq, Nat.reduceEqDiff, ↓reduceIte, maT, maC, maN, isnN, isnS] <;> rfl) (fits2_any a0 v0 w g0) ?_
  rintro _ w1 ⟨t, rfl, ht, y1⟩
  refine ⟨trivial, ?_⟩
  cases t with
  | false =>
    simp only [↓List.toList_toArray, ↓rgd, ↓reduceIte, Nat.reduceEqDiff, rg, ow_5]
    refine hK _ _ ?_; clear hK K0
    exact hret _ _ y1 (by simp only [upd_eq, Nat.reduceEqDiff, ↓reduceIte] <;> rfl)
  | true =>
    simp only [↓List.toList_toArray, ↓rgd, ↓reduceIte, Nat.reduceEqDiff, rg, ow_5, e2]
    refine do_call fn_16 (by simp only [evt, evc, upd_eq, Nat.reduceEqDiff, ↓reduceIte, maT, maC, maN, isnN, isnS] <;> rfl) (fits4_any a1 v1 w1 (g1.ext0 y1)) ?_
    rintro _ w1 ⟨t, rfl, ht1, rfl⟩
    refine ⟨trivial, ?_⟩
    cases t with
    | false =>
      simp only [↓List.toList_toArray, ↓rgd, ↓reduceIte, Nat.reduceEqDiff, rg, ow_5]
      refine hK _ _ ?_; clear hK K0
      exact hret _ _ y1 (by simp only [upd_eq, Nat.reduceEqDiff, ↓reduceIte] <;> rfl)
    | true =>
      simp only [↓List.toList_toArray, ↓rgd, ↓reduceIte, Nat.reduceEqDiff, rg, ow_5]
      refine hK _ _ ?_; clear hK K0
      refine hrest _ _ y1 (ht rfl) (ht1 rfl) ?_ ?_ ?_ ?_
      · simp only [upd_eq, Nat.reduceEqDiff, ↓reduceIte]; exact e0
      · simp only [upd_eq, Nat.reduceEqDiff, ↓reduceIte]; exact e1
      · simp only [upd_eq, Nat.reduceEqDiff, ↓reduceIte]; exact e2
      · simp only [upd_eq, Nat.reduceEqDiff, ↓reduceIte]
end Go.Proofs.Ytinpigpeoakeaaa
