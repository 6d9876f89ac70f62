/-
  How a tree is made, in the laws. No condition.
-/
import Derived.Test.YtdffddiaoheklaaGLaws
set_option linter.unusedSimpArgs false
set_option linter.unusedVariables false
namespace Go.Proofs.Ytdffddiaoheklaa
open Go Go.Proofs
theorem bu_itemK (a : Int) : buildV Try.prog 38 [(0, .int .i64 a)] = some (iV (a, 0)) := by kernel_rfl
def nilS : Value := .slice none 0 0
theorem nil_int (w : World) : SlInt w nilS [] := ⟨rfl, .inl ⟨rfl, rfl⟩⟩
theorem z_make : zK Try.prog 24 = some [.slice none 0 0, .int .i64 0, .bool false] := by kernel_rfl
theorem bu_exMake : buildV Try.prog 24 [(1, .int .i64 2)] = some (mkV nilS 2 false) := by kernel_rfl
theorem ld_make : ldK Try.prog 24 = some (some 3) := by kernel_rfl
theorem oc_mk (a : Option Addr) (n c d : Nat) (nl : Bool) : oc (mkV (.slice a n c) d nl).cells.toList := by
  intro v hv
  have h : v ∈ ([.slice a n c, .int .i64 d, .bool nl] : List Value) := hv
  simp at h
  rcases h with rfl | rfl | rfl <;> rfl
/-- The cells of how a tree is made. -/
def mkL (sv : Value) (d : Nat) (nl : Bool) : List Value := [sv, .int .i64 d, .bool nl]
theorem mk_cells (sv : Value) (d : Nat) (nl : Bool) : (mkV sv d nl).cells.toList = mkL sv d nl := rfl
theorem mk_at {w : World} {b : Nat} {sv : Value} {d : Nat} {nl : Bool} (h : Row w b 0 (mkL sv d nl)) : rdA w b 0 3 = some (mkV sv d nl) := h.rdA 3 (Nat.le_refl _)
theorem mk_at0 {w : World} {b : Nat} {sv : Value} {d : Nat} {nl : Bool} (h : Row w b 0 (mkL sv d nl)) : rd w b 0 = some sv := (Row.cons.1 h).1
theorem mk_at1 {w : World} {b : Nat} {sv : Value} {d : Nat} {nl : Bool} (h : Row w b 0 (mkL sv d nl)) : rd w b 1 = some (.int .i64 d) := (Row.cons.1 (Row.cons.1 h).2).1
set_option maxHeartbeats 400000 in
set_option maxRecDepth 8000 in
theorem exMake_any (w : World) : CallK Try.prog 17 #[] w fun v w' => v = mkV nilS 2 false ∧ Ext noF w w' := by
  refine calls_of_W (args := []) [.cell 0 24] Try.func17 rfl Try.ntmps17 Try.results17 (by simp) fun e he => ?_
  clear he
  refine W_sq fun K hK => (W_text [false] (by kernel_rfl) ?_); simp only [↓List.toList_toArray, ↓rgd, ↓rgf, ↓reduceIte, Nat.reduceEqDiff, rg, ow_17]
  refine do_alloc z_make fun w1 n1 => ⟨trivial, ?_⟩
  simp only [↓List.toList_toArray, ↓rgd, ↓rgf, ↓reduceIte, Nat.reduceEqDiff, rg, ow_17]
  refine hK _ _ ?_; clear hK K
  refine W_sq fun K hK => (W_text [true, false] (by kernel_rfl) ?_); simp only [↓List.toList_toArray, ↓rgd, ↓rgf, ↓reduceIte, Nat.reduceEqDiff, rg, ow_17, bu_exMake]
  refine do_store (by simp only [evt, evc, upd_eq, Nat.reduceEqDiff, ↓reduceIte, ntT, ntF] <;> rfl) (by simp only [evt, evc, upd_eq, Nat.reduceEqDiff, ↓reduceIte, ntT, ntF] <;> rfl) sz_24 rfl n1.wok (by decide) (oc_mk _ _ _ _ _) fun w2 x2 r2 s2 => ⟨trivial, ?_⟩
  simp only [↓List.toList_toArray, ↓rgd, ↓rgf, ↓reduceIte, Nat.reduceEqDiff, rg, ow_17]
  refine hK _ _ ?_; clear hK K
  exact W_ret (endQ_c (by simp only [upd_eq, Nat.reduceEqDiff, ↓reduceIte] <;> rfl) ld_make (mk_at (show Row w2 w.heap.size 0 (mkL nilS 2 false) from r2)) ⟨rfl, noF_of n1.ext x2 fun y o hy g => by simp only [rng] at g; omega⟩)
set_option maxHeartbeats 400000 in
set_option maxRecDepth 8000 in
/-- Whether the order is not too long. -/
theorem fits1_any (sv : Value) (ord : List Int) (dv : Value) (nl : Bool) (w : World) (hs : SlInt w sv ord) :
    CallK Try.prog 15 #[.agg #[sv, dv, .bool nl]] w fun v w' => v = .bool (decide (ord.length ≤ 2147483647)) ∧ Ext noF w w' := by
  obtain ⟨a, c, rfl⟩ := SlV.shape hs
  refine calls_of_W [.tmp 2] Try.func15 rfl Try.ntmps15 Try.results15 (by simp) fun e he => ?_
  have e0 : e 0 = .agg #[.slice a ord.length c, dv, .bool nl] := he 0 _ rfl
  clear he
  refine W_sq fun K hK => (W_text [false, true] (by kernel_rfl) ?_); simp only [↓List.toList_toArray, ↓rgd, ↓rgf, ↓reduceIte, Nat.reduceEqDiff, rg, ow_15]
  refine do_box (by simp only [evt]; exact e0) fun w1 n1 => ⟨trivial, ?_⟩
  simp only [↓List.toList_toArray, ↓rgd, ↓rgf, ↓reduceIte, Nat.reduceEqDiff, rg, ow_15]
  refine hK _ _ ?_; clear hK K
  have g0 : rd w1 w.heap.size 0 = some (.slice a ord.length c) := (Row.cons.1 (show Row w1 w.heap.size 0 [.slice a ord.length c, dv, .bool nl] from n1.row)).1
  refine W_seq ?_
  by_cases h : ord.length ≤ 2147483647
  · have ht : decide ((2147483647 : Int) < (ord.length : Int)) = false := by simp; omega
    refine W_sq fun K hK => (W_text [true, true, true, true] (by kernel_rfl) ?_); simp only [↓List.toList_toArray, ↓rgd, ↓rgf, ↓reduceIte, Nat.reduceEqDiff, rg, ow_15, g0, ht]
    refine hK _ _ ?_; clear hK K
    refine W_false (by simp only [evt, evc, upd_eq, Nat.reduceEqDiff, ↓reduceIte, ntT, ntF] <;> rfl) (W_skip ?_)
    show W _ _ _ _ _ _
    refine W_sq fun K hK => (W_text [true] (by kernel_rfl) ?_); simp only [↓List.toList_toArray, ↓rgd, ↓rgf, ↓reduceIte, Nat.reduceEqDiff, rg, ow_15]
    refine hK _ _ ?_; clear hK K
    exact W_ret (endQ_1 (by simp only [upd_eq, Nat.reduceEqDiff, ↓reduceIte] <;> rfl) ⟨by simp [h], n1.ext⟩)
  · have ht : decide ((2147483647 : Int) < (ord.length : Int)) = true := by simp; omega
    refine W_sq fun K hK => (W_text [true, true, true, true] (by kernel_rfl) ?_); simp only [↓List.toList_toArray, ↓rgd, ↓rgf, ↓reduceIte, Nat.reduceEqDiff, rg, ow_15, g0, ht]
    refine hK _ _ ?_; clear hK K
    refine W_true (by simp only [evt, evc, upd_eq, Nat.reduceEqDiff, ↓reduceIte, ntT, ntF] <;> rfl) ?_
    refine W_sq fun K hK => (W_text [true] (by kernel_rfl) ?_); simp only [↓List.toList_toArray, ↓rgd, ↓rgf, ↓reduceIte, Nat.reduceEqDiff, rg, ow_15]
    refine hK _ _ ?_; clear hK K
    refine W_ret ?_
    simp only [andThen_ret]
    exact endQ_1 (by simp only [upd_eq, Nat.reduceEqDiff, ↓reduceIte] <;> rfl) ⟨by simp [h], n1.ext⟩
end Go.Proofs.Ytdffddiaoheklaa
