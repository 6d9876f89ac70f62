/-
  Handing a map's items on to the function that keeps them: the closures, the scan of a map. No condition.
-/
import Derived.Test.YthonmbkjbgkfaaaMTake
import Derived.Test.YthonmbkjbgkfaaaMAt
set_option linter.unusedSimpArgs false
set_option linter.unusedVariables false
namespace Go.Proofs.Ythonmbkjbgkfaaa
open Go Go.Proofs
def takeV (pb nb : Nat) : Value := .func (.func 85) #[] #[ptr pb, ptr nb]
theorem takeV_eq (pb nb : Nat) : takeV pb nb = .func (.func 85) #[] #[ptr pb, ptr nb] := rfl
def pairsV (tb : Nat) : Value := .func (.func 73) #[] #[ptr tb]
theorem z_fn : zK Try.prog 100 = some [.nilFunc] := by kernel_rfl
theorem fn_take : isFn Try.prog 85 = true := by kernel_rfl
theorem fn_pairs1 : isFn Try.prog 73 = true := by kernel_rfl
set_option maxHeartbeats 400000 in
set_option maxRecDepth 8000 in
theorem taker_mk (ob : Nat) (n : Int) (w : World) :
    CallK Try.prog 72 #[ptr ob, .int .i64 n] w fun v w' => v = takeV w.heap.size (w.heap.size + 1) ∧ Ext noF w w' ∧ rd w' w.heap.size 0 = some (ptr ob) ∧ rd w' (w.heap.size + 1) 0 = some (.int .i64 n) ∧ w'.heap.size = w.heap.size + 2 := by
  refine calls_of_W [.tmp 4] Try.func72 rfl Try.ntmps72 Try.results72 (by simp) fun e he => ?_
  have e0 : e 0 = ptr ob := he 0 _ rfl
  have e1 : e 1 = .int .i64 n := he 1 _ rfl
  clear he
  refine W_sq fun K hK => (W_text [false, false, true] (by kernel_rfl) ?_); simp only [↓List.toList_toArray, ↓rgd, ↓reduceIte, Nat.reduceEqDiff, rg]
  refine do_box (v := ptr ob) (by simp only [evt]; exact e0) fun w1 n1 => ⟨trivial, ?_⟩
  simp only [↓List.toList_toArray, ↓rgd, ↓reduceIte, Nat.reduceEqDiff, rg]
  refine do_box (v := .int .i64 n) (by simp only [evt, upd_eq, Nat.reduceEqDiff, ↓reduceIte]; exact e1) fun w2 n2 => ⟨trivial, ?_⟩
  simp only [↓List.toList_toArray, ↓rgd, ↓reduceIte, Nat.reduceEqDiff, rg]
  refine hK _ _ ?_; clear hK K
  have s1 := n1.size
  have s2 := n2.size
  have r1 : rd w2 w.heap.size 0 = some (ptr ob) := n2.ext.rd (Row.cons.1 (show Row w1 w.heap.size 0 [ptr ob] from n1.row)).1 fun h => h
  have r2 : rd w2 (w.heap.size + 1) 0 = some (.int .i64 n) := by rw [← s1]; exact (Row.cons.1 (show Row w2 w1.heap.size 0 [.int .i64 n] from n2.row)).1
  refine W_sq fun K hK => (W_text [true, true] (by kernel_rfl) ?_); simp only [↓List.toList_toArray, ↓rgd, ↓reduceIte, Nat.reduceEqDiff, rg]
  refine hK _ _ ?_; clear hK K
  refine W_ret (endQ_1 (by simp only [upd_eq, Nat.reduceEqDiff, ↓reduceIte] <;> rfl) ⟨?_, n1.ext.tr n2.ext, r1, r2, by omega⟩)
  rw [takeV, s1, ptr_eq, ptr_eq]
set_option maxHeartbeats 400000 in
set_option maxRecDepth 8000 in
/-- The function of pairs: what it needs in memory. -/
structure Clo (ob : Nat) (n : Int) (tb B0 B : Nat) (w : World) : Prop where
  ex : ∃ pb nb, rd w tb 0 = some (takeV pb nb) ∧ rd w pb 0 = some (ptr ob) ∧ rd w nb 0 = some (.int .i64 n) ∧ B0 ≤ pb ∧ pb < B ∧ B0 ≤ nb ∧ nb < B
  ge : B0 ≤ tb
  lt : tb < B
theorem Clo.ext {F : Nat → Nat → Prop} {ob tb B0 B : Nat} {n : Int} {w w' : World} (h : Clo ob n tb B0 B w) (x : Ext F w w') (hF : ∀ y o, B0 ≤ y → y < B → ¬ F y o) : Clo ob n tb B0 B w' := by
  obtain ⟨pb, nb, h1, h2, h3, h4, h5, h6, h7⟩ := h.ex
  exact ⟨⟨pb, nb, x.rd h1 (hF _ _ h.ge h.lt), x.rd h2 (hF _ _ h4 h5), x.rd h3 (hF _ _ h6 h7), h4, h5, h6, h7⟩, h.ge, h.lt⟩
set_option maxHeartbeats 400000 in
set_option maxRecDepth 8000 in
theorem pairs_mk (ob : Nat) (n : Int) (w : World) :
    CallK Try.prog 55 #[ptr ob, .int .i64 n] w fun v w' => ∃ tb, v = pairsV tb ∧ Ext noF w w' ∧ Clo ob n tb w.heap.size w'.heap.size w' := by
  refine calls_of_W [.tmp 4] Try.func55 rfl Try.ntmps55 Try.results55 (by simp) fun e he => ?_
  have e0 : e 0 = ptr ob := he 0 _ rfl
  have e1 : e 1 = .int .i64 n := he 1 _ rfl
  clear he
  refine W_sq fun K hK => (W_text [true] (by kernel_rfl) ?_); simp only [↓List.toList_toArray, ↓rgd, ↓reduceIte, Nat.reduceEqDiff, rg, ow_55]
  refine hK _ _ ?_; clear hK K
  refine W_sq fun K hK => (W_text [true, true, false, false, false] (by kernel_rfl) ?_); simp only [↓List.toList_toArray, ↓rgd, ↓reduceIte, Nat.reduceEqDiff, rg, ow_55, e0, e1]
  refine do_call fn_72 (by simp only [evt, evc, upd_eq, Nat.reduceEqDiff, ↓reduceIte, maT, maC, maN, isnN, isnS] <;> rfl) (taker_mk ob n w) ?_
  rintro _ w1 ⟨rfl, X1, r1, r2, s1⟩
  refine ⟨trivial, ?_⟩
  simp only [↓List.toList_toArray, ↓rgd, ↓reduceIte, Nat.reduceEqDiff, rg, ow_55]
  refine do_alloc z_fn fun w2 n2 => ⟨trivial, ?_⟩
  simp only [↓List.toList_toArray, ↓rgd, ↓reduceIte, Nat.reduceEqDiff, rg, ow_55]
  refine do_store (v := takeV w.heap.size (w.heap.size + 1)) (by simp only [evt, evc, upd_eq, Nat.reduceEqDiff, ↓reduceIte, ntT, ntF] <;> rfl) (by simp only [evt, evc, upd_eq, Nat.reduceEqDiff, ↓reduceIte, ntT, ntF] <;> rfl) sz_100 rfl n2.wok (by decide) (oc_one rfl rfl) fun w3 x3 r3 s3 => ⟨trivial, ?_⟩
  simp only [↓List.toList_toArray, ↓rgd, ↓reduceIte, Nat.reduceEqDiff, rg, ow_55]
  refine hK _ _ ?_; clear hK K
  have s2 := n2.size
  refine W_sq fun K hK => (W_text [true, true] (by kernel_rfl) ?_); simp only [↓List.toList_toArray, ↓rgd, ↓reduceIte, Nat.reduceEqDiff, rg, ow_55]
  refine hK _ _ ?_; clear hK K
  refine W_ret (endQ_1 (by simp only [upd_eq, Nat.reduceEqDiff, ↓reduceIte] <;> rfl) ⟨_, rfl, noF_of (X1.tr n2.ext) x3 fun y o hy h => by simp only [rng] at h; omega, ⟨_, _, (Row.cons.1 r3).1, x3.rd (n2.ext.rd r1 fun h => h) (by simp only [rng]; omega), x3.rd (n2.ext.rd r2 fun h => h) (by simp only [rng]; omega), ?_, ?_, ?_, ?_⟩, ?_, ?_⟩)
  all_goals omega
/-- What holds while items are kept through pairs. -/
def PS (ob : Nat) (n : Int) (tb B0 B : Nat) (done : List It) (w : World) : Prop := Kept B ob done w ∧ Clo ob n tb B0 B w
set_option maxHeartbeats 400000 in
set_option maxRecDepth 8000 in
theorem cb_pairs (ob : Nat) (n : Int) (tb B0 B : Nat) (hob : ob < B0) : Cb (pairsV tb) (outF B ob) (PS ob n tb B0 B) (upTo n) := by
  refine ⟨⟨_, #[], #[ptr tb], rfl, fn_pairs1, fun done x w hS hlen => ?_⟩, fun done w w' hS x => ⟨hS.1.ext x, hS.2.ext x fun _ _ _ _ h => h⟩⟩
  obtain ⟨hKp, hC⟩ := hS
  obtain ⟨pb, nb, h1, h2, h3, h4, h5, h6, h7⟩ := hC.ex
  have hge := hC.ge
  have hle := hKp.le
  refine calls_of_W (args := [kV (κ x), vV x, ptr tb]) [.tmp 5] Try.func73 rfl Try.ntmps73 Try.results73 (by simp) fun e he => ?_
  have e0 : e 0 = .int .i64 x.1 := he 0 _ rfl
  have e1 : e 1 = .int .i64 x.2 := he 1 _ rfl
  have e2 : e 2 = ptr tb := he 2 _ rfl
  clear he
  refine W_sq fun K hK => (W_text [true] (by kernel_rfl) ?_); simp only [↓List.toList_toArray, ↓rgd, ↓reduceIte, Nat.reduceEqDiff, rg, ow_73]
  refine hK _ _ ?_; clear hK K
  refine W_sq fun K hK => (W_text [true, true, true, true, false, true] (by kernel_rfl) ?_); simp only [↓List.toList_toArray, ↓rgd, ↓reduceIte, Nat.reduceEqDiff, rg, ow_73, e0, e1, e2, ptr_eq, h1, bu_item]
  refine do_callv (f := 85) (first := #[]) (captured := #[ptr pb, ptr nb]) (vs := #[iV x, ptr pb, ptr nb]) (by simp only [evt, evc, upd_eq, Nat.reduceEqDiff, ↓reduceIte, ntT, ntF] <;> rfl) fn_take (by simp only [evt, upd_eq, Nat.reduceEqDiff, ↓reduceIte, maT, maC, maN]; rfl) (take_any B ob pb nb n done x w hKp h2 h3 (by omega) (by omega) h5 h7 hlen) ?_
  rintro _ w1 ⟨rfl, hK1, X1⟩
  refine ⟨trivial, ?_⟩
  simp only [↓List.toList_toArray, ↓rgd, ↓reduceIte, Nat.reduceEqDiff, rg, ow_73]
  refine hK _ _ ?_; clear hK K
  refine W_ret (endQ_1 (by simp only [upd_eq, Nat.reduceEqDiff, ↓reduceIte] <;> rfl) ⟨rfl, ⟨hK1, hC.ext X1 fun y o hy1 hy2 h => ?_⟩, X1⟩)
  rcases h with h | h <;> omega
set_option maxHeartbeats 400000 in
set_option maxRecDepth 8000 in
theorem scan_any (m d : Nat) (iso : Int) (xs : List It) (F : Nat → Nat → Prop) (f : Value) (G : Nat → Nat → Prop) (S : List It → World → Prop) (go : List It → Bool) (C : Cb f G S go) (hm : ∀ o, ¬ G m o) (mu : Bool) (w : World)
    (hM : MapAt w m d iso xs F) (hG : ∀ y o o', F y o → ¬ G y o') (hS : S [] w) (hbig : xs.length ≤ 4294967295) :
    CallK Try.prog 71 #[ptr m, f, .bool mu] w fun _ w' => S (hand go [] xs).1 w' ∧ Ext G w w' := by
  refine calls_of_W [] Try.func71 rfl Try.ntmps71 Try.results71 (by simp) fun e he => ?_
  have e0 : e 0 = ptr m := he 0 _ rfl
  have e1 : e 1 = f := he 1 _ rfl
  have e2 : e 2 = .bool mu := he 2 _ rfl
  clear he
  refine W_seq ?_
  rcases hM.root with ⟨rfl, hr⟩ | ⟨h, b, hr, ht⟩
  · refine W_sq fun K hK => (W_text [true, true, true, true, true] (by kernel_rfl) ?_); simp only [↓List.toList_toArray, ↓rgd, ↓reduceIte, Nat.reduceEqDiff, rg, ow_71, e0, ptr_eq, hr]
    refine hK _ _ ?_; clear hK K
    refine W_true (by simp only [evt, evc, upd_eq, Nat.reduceEqDiff, ↓reduceIte, ntT, ntF] <;> rfl) (W_ret ?_)
    simp only [andThen_ret]
    exact endQ_0 ⟨hS, Ext.refl _ _⟩
  · refine W_sq fun K hK => (W_text [true, true, true, true, true] (by kernel_rfl) ?_); simp only [↓List.toList_toArray, ↓rgd, ↓reduceIte, Nat.reduceEqDiff, rg, ow_71, e0, ptr_eq, hr]
    refine hK _ _ ?_; clear hK K
    refine W_false (by simp only [evt, evc, upd_eq, Nat.reduceEqDiff, ↓reduceIte, ntT, ntF] <;> rfl) (W_skip ?_)
    show W _ _ _ _ _ _
    refine W_rg fun K hK => (W_text [true, true, true, true, true, true, false] (by kernel_rfl) ?_); simp only [↓List.toList_toArray, ↓rgd, ↓reduceIte, Nat.reduceEqDiff, rg, ow_71, e0, e1, e2, ptr_eq]
    refine do_call fn_84 (by simp only [evt, evc, upd_eq, Nat.reduceEqDiff, ↓reduceIte, maT, maC, maN, isnN, isnS] <;> rfl) (nodeScan_any m iso (d - 1) (2 * d - 1) f G S go C hm mu h b 1 m 2 xs F [] w ht hM.cfg.iso hr hG hS (by simpa using hbig)) ?_
    rintro _ w1 ⟨rfl, hS1, X1⟩
    refine ⟨trivial, ?_⟩
    simp only [↓List.toList_toArray, ↓rgd, ↓reduceIte, Nat.reduceEqDiff, rg, ow_71]
    refine hK _ _ ?_; clear hK K
    exact endQ_0n ⟨hS1, X1⟩
end Go.Proofs.Ythonmbkjbgkfaaa
