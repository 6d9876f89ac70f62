/-
  FnExactGAscendHintMut returns true, whatever the arguments. No condition.
-/
import Derived.Test.YtdffddiaoheklaaGAscHLaw
import Derived.Test.YtdffddiaoheklaaGMake
set_option linter.unusedSimpArgs false
set_option linter.unusedVariables false
namespace Go.Proofs.Ytdffddiaoheklaa
open Go Go.Proofs
set_option maxHeartbeats 800000 in
set_option maxRecDepth 8000 in
theorem top_FnExactGAscendHintMut (ord : List Int) (sv : Value) (d : Int) (nl : Bool) (a0 : List It) (v0 : Value) (a1 : It) (a2 : Int) (w : World) (gs : SlInt w sv ord) (g0 : SlI w v0 a0) :
    CallK Try.prog 12 #[.agg #[sv, .int .i64 d, .bool nl], v0, itV a1, .int .i64 a2] w fun v w' => v = .bool true ∧ Ext noF w w' := by
  obtain ⟨p0, c0, hv0⟩ := SlV.shape g0
  refine calls_of_W [.tmp 8] Try.func12 rfl Try.ntmps12 Try.results12 (by simp) fun e he => ?_
  have e0 : e 0 = .agg #[sv, .int .i64 d, .bool nl] := he 0 _ rfl
  have e1 : e 1 = v0 := he 1 _ rfl
  have e2 : e 2 = itV a1 := he 2 _ rfl
  have e3 : e 3 = .int .i64 a2 := he 3 _ rfl
  clear he
  refine W_sq fun K hK => (W_text [false, false, true] (by kernel_rfl) ?_); simp only [↓List.toList_toArray, ↓rgd, ↓rgf, ↓reduceIte, Nat.reduceEqDiff, rg, ow_12]
  refine do_box (by simp only [evt]; exact e0) fun w1 n1 => ⟨trivial, ?_⟩
  simp only [↓List.toList_toArray, ↓rgd, ↓rgf, ↓reduceIte, Nat.reduceEqDiff, rg, ow_12]
  refine do_box (by simp only [evt, upd_eq, Nat.reduceEqDiff, ↓reduceIte]; exact e2) fun w2 n2 => ⟨trivial, ?_⟩
  simp only [↓List.toList_toArray, ↓rgd, ↓rgf, ↓reduceIte, Nat.reduceEqDiff, rg, ow_12]
  have Z2 := n1.ext.tr n2.ext
  refine hK _ _ ?_; clear hK K
  have rm : Row w2 w.heap.size 0 [sv, .int .i64 d, .bool nl] := (n2.ext).row n1.row fun _ _ h => h
  have ri1 : Row w2 w1.heap.size 0 (E.cel a1) := n2.row
  have XB : Ext noF w w2 := Z2
  have rm3 : rdA w2 w.heap.size 0 3 = some (.agg #[sv, .int .i64 d, .bool nl]) := rm.rdA 3 (Nat.le_refl _)
  refine W_seq ?_
  refine W_sq fun K hK => (W_text [true, false, true, true, true, true, true, true] (by kernel_rfl) ?_); simp only [↓List.toList_toArray, ↓rgd, ↓rgf, ↓reduceIte, Nat.reduceEqDiff, rg, ow_12, e1, hv0, rm3]
  refine do_call fn_15 (by simp only [evt, evc, upd_eq, Nat.reduceEqDiff, ↓reduceIte, maT, maC, maN, isnN, isnS] <;> rfl) (fits1_any sv ord (.int .i64 d) nl w2 (SlV.ext0 gs XB)) ?_
  rintro _ wf ⟨rfl, xf⟩
  refine ⟨trivial, ?_⟩
  have XF := XB.tr xf
  by_cases hbo : ord.length ≤ 2147483647
  case neg =>
    have to : decide (ord.length ≤ 2147483647) = false := by simp; omega
    simp only [↓List.toList_toArray, ↓rgd, ↓rgf, ↓reduceIte, Nat.reduceEqDiff, rg, ow_12, e1, hv0, to]
    refine hK _ _ ?_; clear hK K
    refine W_true (by simp only [evt, evc, upd_eq, Nat.reduceEqDiff, ↓reduceIte, ntT, ntF] <;> rfl) ?_
    refine W_sq fun K hK => (W_text [true] (by kernel_rfl) ?_); simp only [↓List.toList_toArray, ↓rgd, ↓rgf, ↓reduceIte, Nat.reduceEqDiff, rg, ow_12]
    refine hK _ _ ?_; clear hK K
    refine W_ret ?_
    simp only [andThen_ret]
    exact endQ_1 (by simp only [upd_eq, Nat.reduceEqDiff, ↓reduceIte] <;> rfl) ⟨rfl, XF⟩
  have to : decide (ord.length ≤ 2147483647) = true := by simp; omega
  by_cases hb0 : a0.length ≤ 2147483647
  case neg =>
    have t0 : decide ((2147483647 : Int) < (a0.length : Int)) = true := by simp; omega
    simp only [↓List.toList_toArray, ↓rgd, ↓rgf, ↓reduceIte, Nat.reduceEqDiff, rg, ow_12, e1, hv0, to, t0]
    refine hK _ _ ?_; clear hK K
    refine W_true (by simp only [evt, evc, upd_eq, Nat.reduceEqDiff, ↓reduceIte, ntT, ntF] <;> rfl) ?_
    refine W_sq fun K hK => (W_text [true] (by kernel_rfl) ?_); simp only [↓List.toList_toArray, ↓rgd, ↓rgf, ↓reduceIte, Nat.reduceEqDiff, rg, ow_12]
    refine hK _ _ ?_; clear hK K
    refine W_ret ?_
    simp only [andThen_ret]
    exact endQ_1 (by simp only [upd_eq, Nat.reduceEqDiff, ↓reduceIte] <;> rfl) ⟨rfl, XF⟩
  have t0 : decide ((2147483647 : Int) < (a0.length : Int)) = false := by simp; omega
  simp only [↓List.toList_toArray, ↓rgd, ↓rgf, ↓reduceIte, Nat.reduceEqDiff, rg, ow_12, e1, hv0, to, t0]
  refine hK _ _ ?_; clear hK K
  refine W_false (by simp only [evt, evc, upd_eq, Nat.reduceEqDiff, ↓reduceIte, ntT, ntF] <;> rfl) (W_skip ?_)
  show W _ _ _ _ _ _
  refine W_sq fun K hK => (W_text [false, false, true, false, true, true, true, false, true, true, true, true, true, true, false, true, true, true] (by kernel_rfl) ?_); simp only [↓List.toList_toArray, ↓rgd, ↓rgf, ↓reduceIte, Nat.reduceEqDiff, rg, ow_12, bu_itemK]
  refine do_call fn_17 (by simp only [evt, evc, upd_eq, Nat.reduceEqDiff, ↓reduceIte, maT, maC, maN, isnN, isnS] <;> rfl) (exMake_any wf) ?_
  rintro _ u0 ⟨rfl, z0⟩
  refine ⟨trivial, ?_⟩
  simp only [↓List.toList_toArray, ↓rgd, ↓rgf, ↓reduceIte, Nat.reduceEqDiff, rg, ow_12]
  have Y0 := z0
  refine do_call fn_18 (by simp only [evt, evc, upd_eq, Nat.reduceEqDiff, ↓reduceIte, maT, maC, maN, isnN, isnS] <;> rfl) (exItems_any u0) ?_
  rintro x0 u1 ⟨q0, y1⟩
  refine ⟨trivial, ?_⟩
  simp only [↓List.toList_toArray, ↓rgd, ↓rgf, ↓reduceIte, Nat.reduceEqDiff, rg, ow_12, bu_itemK]
  have Y1 := Y0.tr y1
  refine do_call fn_38 (by simp only [evt, evc, upd_eq, Nat.reduceEqDiff, ↓reduceIte, maT, maC, maN, isnN, isnS] <;> rfl) (law_gascendHintMut 2 (.inr (by decide)) [] nilS false exL x0 ((4, 0)) (2) u1 (nil_int _) (by decide) q0 (by decide)) ?_
  rintro _ u2 ⟨rfl, y2⟩
  refine ⟨trivial, ?_⟩
  have Y2 := Y1.tr y2
  have XA := XF.tr Y2
  have rmA := (xf.tr Y2).row rm fun _ _ h => h
  have rd1 := (Row.cons.1 (Row.cons.1 rmA).2).1
  have rmA3 : rdA u2 w.heap.size 0 3 = some (.agg #[sv, .int .i64 d, .bool nl]) := rmA.rdA 3 (Nat.le_refl _)
  rw [Nat.zero_add] at rd1
  simp only [↓List.toList_toArray, ↓rgd, ↓rgf, ↓reduceIte, Nat.reduceEqDiff, rg, ow_12, rd1]
  refine do_call fn_19 (by simp only [evt, evc, upd_eq, Nat.reduceEqDiff, ↓reduceIte, maT, maC, maN, isnN, isnS] <;> rfl) (fits_any d u2) ?_
  rintro _ _ ⟨rfl, rfl⟩
  refine ⟨trivial, ?_⟩
  cases hf : (decide (d = 0) || (decide (2 ≤ d) && decide (d ≤ 128))) with
  | false =>
    simp only [↓List.toList_toArray, ↓rgd, ↓rgf, ↓reduceIte, Nat.reduceEqDiff, rg, ow_12]
    refine hK _ _ ?_; clear hK K
    exact W_ret (endQ_1 (by simp only [upd_eq, Nat.reduceEqDiff, ↓reduceIte] <;> rfl) ⟨rfl, XA⟩)
  | true =>
    have h2 : d = 0 ∨ 2 ≤ d ∧ d ≤ 128 := by simp at hf; omega
    obtain ⟨n, rfl⟩ : ∃ n : Nat, d = n := ⟨d.toNat, by omega⟩
    have im1 := iX_at ((xf.tr Y2).row ri1 fun _ _ h => h)
    simp only [↓List.toList_toArray, ↓rgd, ↓rgf, ↓reduceIte, Nat.reduceEqDiff, rg, ow_12, e1, e3, rmA3, im1]
    refine do_call fn_38 (by simp only [evt, evc, upd_eq, Nat.reduceEqDiff, ↓reduceIte, maT, maC, maN, isnN, isnS] <;> rfl) (law_gascendHintMut n (show DOk n by unfold DOk; omega) ord sv nl a0 v0 a1 a2 u2 (SlV.ext0 gs XA) hbo (SlV.ext0 g0 XA) hb0) ?_
    rintro _ u9 ⟨rfl, y9⟩
    refine ⟨trivial, ?_⟩
    simp only [↓List.toList_toArray, ↓rgd, ↓rgf, ↓reduceIte, Nat.reduceEqDiff, rg, ow_12]
    refine hK _ _ ?_; clear hK K
    exact W_ret (endQ_1 (by simp only [upd_eq, Nat.reduceEqDiff, ↓reduceIte] <;> rfl) ⟨rfl, XA.tr y9⟩)
end Go.Proofs.Ytdffddiaoheklaa
