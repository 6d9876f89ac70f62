/-
  The function that keeps the items that are handed to it. No condition.
-/
import Derived.Test.YthonmbkjbgkfaaaMEq
import Derived.Test.YthonmbkjbgkfaaaMScan
set_option linter.unusedSimpArgs false
set_option linter.unusedVariables false
namespace Go.Proofs.Ythonmbkjbgkfaaa
open Go Go.Proofs
theorem bs_i1 (x : It) : bsV Try.prog 22 1 [(0, iV x)] = some (36, Ei.cel x) := by kernel_rfl
theorem el_i : elK Try.prog 22 = some (36, 2, 16, [.int .i64 0, .int .i64 0]) := by kernel_rfl
theorem ni_i : noInt Try.prog 22 = true := by kernel_rfl
/-- What is kept: the variable's block, the list, that the list is not older than B. -/
structure Kept (B ob : Nat) (done : List It) (w : World) : Prop where
  var : ∃ sv, rd w ob 0 = some sv ∧ SlI w sv done ∧ since B sv
  wok : wok w ob 1
  lt : ob < B
  le : B ≤ w.heap.size
def outF (B ob : Nat) : Nat → Nat → Prop := fun y _ => y = ob ∨ B ≤ y
theorem Kept.ext {B ob : Nat} {done : List It} {w w' : World} (h : Kept B ob done w) (x : Ext noF w w') : Kept B ob done w' := by
  obtain ⟨sv, h1, h2, h3⟩ := h.var
  exact ⟨⟨sv, x.rd h1 (fun h => h), h2.ext0 x, h3⟩, x.wok h.wok, h.lt, Nat.le_trans h.le x.size⟩
set_option maxHeartbeats 400000 in
set_option maxRecDepth 8000 in
theorem take_any (B ob pb nb : Nat) (n : Int) (done : List It) (x : It) (w : World) (h : Kept B ob done w) (hp : rd w pb 0 = some (ptr ob)) (hn : rd w nb 0 = some (.int .i64 n)) (h1 : pb ≠ ob) (h2 : nb ≠ ob) (h3 : pb < B) (h4 : nb < B)
    (hbig : done.length < 4294967295) :
    CallK Try.prog 85 #[iV x, ptr pb, ptr nb] w fun v w' => v = .bool (upTo n (done ++ [x])) ∧ Kept B ob (done ++ [x]) w' ∧ Ext (outF B ob) w w' := by
  obtain ⟨sv, hv, hS, hsi⟩ := h.var
  have hlt := h.lt
  have hle := h.le
  refine calls_of_W [.tmp 4] Try.func85 rfl Try.ntmps85 Try.results85 (by simp) fun e he => ?_
  have e0 : e 0 = iV x := he 0 _ rfl
  have e1 : e 1 = ptr pb := he 1 _ rfl
  have e2 : e 2 = ptr nb := he 2 _ rfl
  clear he
  refine W_sq fun K hK => (W_text [false, true] (by kernel_rfl) ?_); simp only [↓List.toList_toArray, ↓rgd, ↓reduceIte, Nat.reduceEqDiff, rg, ow_85]
  refine do_box (by simp only [evt]; exact e0) fun w1 n1 => ⟨trivial, ?_⟩
  simp only [↓List.toList_toArray, ↓rgd, ↓reduceIte, Nat.reduceEqDiff, rg, ow_85]
  refine hK _ _ ?_; clear hK K
  have s1 := n1.size
  have hp1 := n1.ext.rd hp (fun h => h)
  have hn1 := n1.ext.rd hn (fun h => h)
  have hv1 := n1.ext.rd hv (fun h => h)
  have bx : rdA w1 w.heap.size 0 2 = some (iV x) := n1.row.rdA 2 (by show 2 ≤ 2; omega)
  have M1 : readsB (some (some [pb, ob, w.heap.size])) pb = true := by simp [readsB]
  have M2 : readsB (some (some [pb, ob, w.heap.size])) ob = true := by simp [readsB]
  have M3 : readsB (some (some [pb, ob, w.heap.size])) w.heap.size = true := by simp [readsB]
  refine W_sq fun K hK => (W_draw (some (some [pb, ob, w.heap.size])) (some 8) [(0, 0, 0), (0, 1, 0), (0, 2, 0), (0, 3, 0), (0, 4, 0), (1, 5, 0), (1, 6, 0), (0, 7, 0), (1, 8, 0)] mixed (by kernel_rfl) ?_); simp only [↓List.toList_toArray, ↓rgd, ↓reduceIte, Nat.reduceEqDiff, rg, ow_85, e1, ptr_eq, hp1, hv1, bx, M1, M2, M3]
  refine do_bsl rfl (bs_i1 x) fun w2 n2 => ⟨.inr (keeps_on n2.ext fun y hy => ⟨?_, fun _ h => h⟩), ?_⟩
  · rw [sz_dr]
    simp only [List.mem_cons, List.not_mem_nil, or_false] at hy
    omega
  simp only [↓List.toList_toArray, ↓rgd, ↓reduceIte, Nat.reduceEqDiff, rg, ow_85]
  have n2 := n2.od
  have s2 := n2.size
  have X2 := n1.ext.tr n2.ext
  have hS2 := hS.ext0 X2
  have hx2 : SlV w2 2 (.slice (some ⟨w1.heap.size, 0, none⟩) 1 1) 1 (Ei.cel x) := ⟨rfl, .inr ⟨_, 0, 1, rfl, Nat.le_refl _, n2.row, n2.wok.R (Nat.le_refl _)⟩⟩
  refine do_append (by simp only [evt, evc, upd_eq, Nat.reduceEqDiff, ↓reduceIte, ntT, ntF] <;> rfl) (by simp only [evt, evc, upd_eq, Nat.reduceEqDiff, ↓reduceIte, ntT, ntF] <;> rfl) el_i rfl ni_i hS2 hx2 (by omega) (by decide) (Ei.one x) fun v3 w3 a3 => ?_
  obtain ⟨hS3, hs3, x3⟩ := app_since (B := B) a3 hsi (by omega)
  refine ⟨.inr fun y hy => app_block a3 ?_ fun o c k hh => ?_, ?_⟩
  · simp only [List.mem_cons, List.not_mem_nil, or_false] at hy
    omega
  · have g1 := hsi _ _ _ _ hh
    have g2 := hS.lt hh
    simp only [List.mem_cons, List.not_mem_nil, or_false] at hy
    omega
  simp only [↓List.toList_toArray, ↓rgd, ↓reduceIte, Nat.reduceEqDiff, rg, ow_85]
  have s3 := x3.size
  obtain ⟨a3', c3', hv3⟩ := hS3.shape
  refine do_store (by simp only [evt, evc, upd_eq, Nat.reduceEqDiff, ↓reduceIte, ntT, ntF] <;> rfl) (by simp only [evt, evc, upd_eq, Nat.reduceEqDiff, ↓reduceIte, ntT, ntF] <;> rfl) sz_22 (by rw [hv3]; rfl) (x3.wok (X2.wok h.wok)) (by decide) (by rw [hv3]; exact oc_one rfl rfl) fun w4 x4 r4 s4 => ⟨.inl trivial, ?_⟩
  simp only [↓List.toList_toArray, ↓rgd, ↓reduceIte, Nat.reduceEqDiff, rg, ow_85]
  refine hK _ _ ?_; clear hK K
  have hrow : rd w4 ob 0 = some v3 := by
    rw [hv3] at r4 ⊢
    exact (Row.cons.1 r4).1
  have X4 : Ext (outF B ob) w w4 := by
    refine (X2.trans (H := outF B ob) x3 (fun _ _ g => g.elim) fun y o _ g => .inr g).trans x4 (fun _ _ g => g) fun y o _ g => ?_
    simp only [rng] at g
    exact .inl g.1
  have x34 : Ext (fun y o => y = ob ∧ True) w3 w4 := x4.mono fun y o _ g => ⟨g.1, trivial⟩
  have hS4 : SlI w4 v3 (done ++ [x]) := by
    have : SlV w4 2 v3 (done.length + 1) (flat Ei done ++ Ei.cel x) := hS3.ext x4 fun b o c hh k _ g => by
      have := hs3 _ _ _ _ hh
      simp only [rng] at g
      omega
    rw [SlI, List.length_append, List.length_singleton, flat_append, flat_one]
    exact this
  have hn4 := x4.rd (x3.rd (X2.rd hn fun h => h) (by omega)) (by simp only [rng]; omega)
  have hp4 := x4.rd (x3.rd (X2.rd hp fun h => h) (by omega)) (by simp only [rng]; omega)
  have hl4 : ((done ++ [x]).length : Int) = ((done.length + 1 : Nat) : Int) := by simp
  have K4 : Kept B ob (done ++ [x]) w4 := ⟨⟨v3, hrow, hS4, hs3⟩, x4.wok (x3.wok (X2.wok h.wok)), hlt, by have := X4.size; omega⟩
  have X5 : ∀ k, Ext (outF B ob) w (dr w4 k) := fun k => X4.tr (Ext.dr _ _ _)
  have K5 : ∀ k, Kept B ob (done ++ [x]) (dr w4 k) := fun k => K4.ext (Ext.dr _ _ _)
  rw [hv3] at hrow
  by_cases hn1' : n < 1
  · have t1 : decide (n < 1) = true := by simp [hn1']
    refine W_sq fun K hK => (W_draw (some none) none [(0, 0, 0), (0, 1, 0), (0, 2, 0), (0, 3, 0), (0, 4, 0), (0, 5, 0), (0, 6, 0), (0, 7, 0), (0, 8, 0), (0, 9, 0), (0, 10, 0)] mixed (by kernel_rfl) ?_); simp only [↓List.toList_toArray, ↓rgd, ↓reduceIte, Nat.reduceEqDiff, rg, ow_85, e1, e2, ptr_eq, hp4, hn4, hrow, t1]
    refine hK _ _ ?_; clear hK K
    refine W_ret (endQ_1 (by simp only [upd_eq, Nat.reduceEqDiff, ↓reduceIte] <;> rfl) ⟨?_, K5 _, X5 _⟩)
    simp [upTo, hn1']
  · have t1 : decide (n < 1) = false := by simp; omega
    refine W_sq fun K hK => (W_draw (some none) none [(0, 0, 0), (0, 1, 0), (0, 2, 0), (0, 3, 0), (0, 4, 0), (0, 5, 0), (0, 6, 0), (0, 7, 0), (0, 8, 0), (0, 9, 0), (0, 10, 0)] mixed (by kernel_rfl) ?_); simp only [↓List.toList_toArray, ↓rgd, ↓reduceIte, Nat.reduceEqDiff, rg, ow_85, e1, e2, ptr_eq, hp4, hn4, hrow, t1]
    refine hK _ _ ?_; clear hK K
    refine W_ret (endQ_1 (by simp only [upd_eq, Nat.reduceEqDiff, ↓reduceIte] <;> rfl) ⟨?_, K5 _, X5 _⟩)
    simp [upTo, hn1']
end Go.Proofs.Ythonmbkjbgkfaaa
