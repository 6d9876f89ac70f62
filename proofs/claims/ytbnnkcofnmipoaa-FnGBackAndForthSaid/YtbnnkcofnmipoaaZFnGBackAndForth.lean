/-
  FnGBackAndForth: the whole statement: it returns true whatever the input is, and the arguments read as before. No condition.
-/
import Derived.Test.YtbnnkcofnmipoaaZ30374627
import Derived.Test.YtbnnkcofnmipoaaZA
import Derived.Test.YtbnnkcofnmipoaaZc9fcf298
/-
  An iterator is made and released. No condition.
-/
set_option linter.unusedSimpArgs false
set_option linter.unusedVariables false
namespace Go.Proofs.Ytbnnkcofnmipoaa
open Go Go.Proofs
/-- A new iterator's record. -/
def itR (m : Nat) (mu : Bool) (s : Value) : Value := .agg #[ptr m, .bool mu, .bool false, .bool false, .bool false, .bool false, .pointer none, .int .i64 0, .pointer none, .int .i64 0, .pointer none, .int .i64 0, .pointer none, .int .i64 0, s, .int .i64 0, .int .i64 0]
def itL (m : Nat) (mu : Bool) (s : Value) : List Value := [ptr m, .bool mu, .bool false, .bool false, .bool false, .bool false, .pointer none, .int .i64 0, .pointer none, .int .i64 0, .pointer none, .int .i64 0, .pointer none, .int .i64 0, s, .int .i64 0, .int .i64 0]
def itZ : List Value := [.pointer none, .bool false, .bool false, .bool false, .bool false, .bool false, .pointer none, .int .i64 0, .pointer none, .int .i64 0, .pointer none, .int .i64 0, .pointer none, .int .i64 0, .slice none 0 0, .int .i64 0, .int .i64 0]
def itN (s : Value) : List Value := [.pointer none, .bool false, .bool false, .bool false, .bool false, .bool false, .pointer none, .int .i64 0, .pointer none, .int .i64 0, .pointer none, .int .i64 0, .pointer none, .int .i64 0, s, .int .i64 0, .int .i64 0]
def stk0 (sb : Nat) : Value := .slice (some ⟨sb, 6, none⟩) (0 : Nat) 4
theorem z_ir : zK Try.prog 102 = some itZ := by kernel_rfl
theorem sl_arr (a : Addr) : sliceV Try.prog 99 (.pointer (some a)) none (some (.int .i64 0)) none = some (.slice (some a) (0 : Nat) 4) := by kernel_rfl
theorem Row.setc {w w' : World} {b o i : Nat} {l : List Value} {v : Value} (r : Row w b o l) (x : Ext (rng b (o + i) 1) w w') (hv : Go.Proofs.Ytbnnkcofnmipoaa.rd w' b (o + i) = some v) : Row w' b o (l.set i v) := by
  intro j u hj
  rw [List.getElem?_set] at hj
  by_cases h : i = j
  · subst h
    rw [if_pos rfl] at hj
    split at hj
    · cases hj; exact hv
    · cases hj
  · rw [if_neg h] at hj
    exact x.rd (r j u hj) (by simp only [rng]; omega)
theorem ir_at {w : World} {b m : Nat} {mu : Bool} {s : Value} (h : Row w b 0 (itL m mu s)) : rdA w b 0 17 = some (itR m mu s) := h.rdA 17 (Nat.le_refl _)
theorem oc_ir (m sb : Nat) (mu : Bool) : oc (itR m mu (stk0 sb)).cells.toList := by
  intro v hv
  simp only [itR, stk0, Value.cells] at hv
  simp at hv
  rcases hv with hv | hv | hv | hv | hv | hv | hv | hv | hv | hv | hv | hv | hv <;> (subst hv; rfl)
theorem ItS.new' {w : World} {ib m sb so cap : Nat} {mu : Bool} (h : Row w ib 0 (itL m mu (.slice (some ⟨sb, so, none⟩) (0 : Nat) cap))) (hw : Go.Proofs.Ytbnnkcofnmipoaa.wok w ib 17) (hs : Go.Proofs.Ytbnnkcofnmipoaa.wok w sb (so + cap * 2)) (hne : sb ≠ ib) : ItS ib m mu [] sb so cap w := by
  have h0 : ∀ i v, (itL m mu (.slice (some ⟨sb, so, none⟩) (0 : Nat) cap))[i]? = some v → rd w ib i = some v := fun i v hi => by
    have := h i v hi
    rwa [Nat.zero_add] at this
  refine ⟨h0 0 _ rfl, h0 1 _ rfl, fun k h1 h2 => ⟨false, h0 k _ ?_⟩, h0 2 _ rfl, ⟨h0 14 _ rfl, Row.nil _ _ _, hs, Nat.zero_le _, hw.mono (by decide), hne⟩, ⟨(0, 0), (h.drop 15).take 2⟩, hw⟩
  have : k = 2 ∨ k = 3 ∨ k = 4 ∨ k = 5 := by omega
  rcases this with rfl | rfl | rfl | rfl <;> rfl
theorem ItS.new {w : World} {ib m sb : Nat} {mu : Bool} (h : Row w ib 0 (itL m mu (stk0 sb))) (hw : Go.Proofs.Ytbnnkcofnmipoaa.wok w ib 17) (hs : Go.Proofs.Ytbnnkcofnmipoaa.wok w sb 14) (hne : sb ≠ ib) : ItS ib m mu [] sb 6 4 w := ItS.new' h hw hs hne
set_option maxHeartbeats 1600000 in
set_option maxRecDepth 8000 in
theorem iter_any (m : Nat) (mu : Bool) (w : World) :
    CallK Try.prog 82 #[ptr m, .bool mu] w fun v w' => ∃ sb, v = itR m mu (stk0 sb) ∧ wok w' sb 14 ∧ w.heap.size ≤ sb ∧ sb < w'.heap.size ∧ Ext noF w w' := by
  refine calls_of_W [.cell 4 102] Try.func82 rfl Try.ntmps82 Try.results82 (by simp) fun e he => ?_
  have e0 : e 0 = ptr m := he 0 _ rfl
  have e1 : e 1 = .bool mu := he 1 _ rfl
  clear he
  refine W_sq fun K hK => (W_text [false] (by kernel_rfl) ?_); simp only [↓List.toList_toArray, ↓rgd, ↓rgf, ↓reduceIte, Nat.reduceEqDiff, rg, ow_82]
  refine do_alloc z_ir fun w1 n1 => ⟨trivial, ?_⟩
  simp only [↓List.toList_toArray, ↓rgd, ↓rgf, ↓reduceIte, Nat.reduceEqDiff, rg, ow_82]
  refine hK _ _ ?_; clear hK K
  refine W_sq fun K hK => (W_text [false] (by kernel_rfl) ?_); simp only [↓List.toList_toArray, ↓rgd, ↓rgf, ↓reduceIte, Nat.reduceEqDiff, rg, ow_82]
  refine do_alloc z_ir fun w2 n2 => ⟨trivial, ?_⟩
  simp only [↓List.toList_toArray, ↓rgd, ↓rgf, ↓reduceIte, Nat.reduceEqDiff, rg, ow_82]
  refine hK _ _ ?_; clear hK K
  have z1 := n1.size
  have z2 := n2.size
  have R2 : Row w2 w1.heap.size 0 itZ := n2.row
  have w2k : wok w2 w1.heap.size 17 := n2.wok
  refine W_sq fun K hK => (W_text [true, true, false] (by kernel_rfl) ?_); simp only [↓List.toList_toArray, ↓rgd, ↓rgf, ↓reduceIte, Nat.reduceEqDiff, rg, ow_82, e0]
  refine do_store (v := ptr m) (by simp only [evt, evc, upd_eq, Nat.reduceEqDiff, ↓reduceIte, ntT, ntF] <;> rfl) (by simp only [evt, evc, upd_eq, Nat.reduceEqDiff, ↓reduceIte, ntT, ntF] <;> rfl) sz_84 rfl w2k (by decide) (oc_one rfl rfl) fun w3 x3 r3 s3 => ⟨trivial, ?_⟩
  simp only [↓List.toList_toArray, ↓rgd, ↓rgf, ↓reduceIte, Nat.reduceEqDiff, rg, ow_82]
  refine hK _ _ ?_; clear hK K
  have R3 := R2.setc (i := 0) (by rw [Nat.zero_add]; exact x3) (by rw [Nat.zero_add]; exact (Row.cons.1 r3).1)
  have w3k := x3.wok w2k
  refine W_sq fun K hK => (W_text [true, true, false] (by kernel_rfl) ?_); simp only [↓List.toList_toArray, ↓rgd, ↓rgf, ↓reduceIte, Nat.reduceEqDiff, rg, ow_82, e1]
  refine do_store (v := .bool mu) (by simp only [evt, evc, upd_eq, Nat.reduceEqDiff, ↓reduceIte, ntT, ntF] <;> rfl) (by simp only [evt, evc, upd_eq, Nat.reduceEqDiff, ↓reduceIte, ntT, ntF] <;> rfl) sz_4 rfl w3k (by decide) (oc_one rfl rfl) fun w4 x4 r4 s4 => ⟨trivial, ?_⟩
  simp only [↓List.toList_toArray, ↓rgd, ↓rgf, ↓reduceIte, Nat.reduceEqDiff, rg, ow_82]
  refine hK _ _ ?_; clear hK K
  have R4 := R3.setc (i := 1) (by rw [Nat.zero_add]; exact x4) (by rw [Nat.zero_add]; exact (Row.cons.1 r4).1)
  have w4k := x4.wok w3k
  have hm4 : rd w4 w1.heap.size 1 = some (.bool mu) := (Row.cons.1 r4).1
  refine W_sq fun K hK => (W_text [true, true, true, false, true, false] (by kernel_rfl) ?_); simp only [↓List.toList_toArray, ↓rgd, ↓rgf, ↓reduceIte, Nat.reduceEqDiff, rg, ow_82, e0, hm4]
  refine do_call fn_91 (vs := #[ptr m, .bool mu]) (by simp only [evt, evc, upd_eq, Nat.reduceEqDiff, ↓reduceIte, maT, maC, maN, isnN, isnS] <;> rfl) (lock_any _ _ w4) ?_
  rintro _ w5 ⟨rfl, hw5⟩
  obtain rfl : w4 = w5 := hw5
  refine ⟨trivial, ?_⟩
  simp only [↓List.toList_toArray, ↓rgd, ↓rgf, ↓reduceIte, Nat.reduceEqDiff, rg, ow_82]
  refine do_store (v := .bool false) (by simp only [evt, evc, upd_eq, Nat.reduceEqDiff, ↓reduceIte, ntT, ntF] <;> rfl) (by simp only [evt, evc, upd_eq, Nat.reduceEqDiff, ↓reduceIte, ntT, ntF] <;> rfl) sz_4 rfl w4k (by decide) (oc_one rfl rfl) fun w6 x6 r6 s6 => ⟨trivial, ?_⟩
  simp only [↓List.toList_toArray, ↓rgd, ↓rgf, ↓reduceIte, Nat.reduceEqDiff, rg, ow_82]
  refine hK _ _ ?_; clear hK K
  have R6 := R4.setc (i := 2) (by rw [Nat.zero_add]; exact x6) (by rw [Nat.zero_add]; exact (Row.cons.1 r6).1)
  have w6k := x6.wok w4k
  refine W_sq fun K hK => (W_text [true, true, true, false] (by kernel_rfl) ?_); simp only [↓List.toList_toArray, ↓rgd, ↓rgf, ↓reduceIte, Nat.reduceEqDiff, rg, ow_82, sl_arr]
  refine do_store (v := stk0 w1.heap.size) (by simp only [evt, evc, upd_eq, Nat.reduceEqDiff, ↓reduceIte, ntT, ntF] <;> rfl) (by simp only [evt, evc, upd_eq, Nat.reduceEqDiff, ↓reduceIte, ntT, ntF] <;> rfl) sz_100 rfl w6k (by decide) (oc_one rfl rfl) fun w7 x7 r7 s7 => ⟨trivial, ?_⟩
  simp only [↓List.toList_toArray, ↓rgd, ↓rgf, ↓reduceIte, Nat.reduceEqDiff, rg, ow_82]
  refine hK _ _ ?_; clear hK K
  have R7 := R6.setc (i := 14) (by rw [Nat.zero_add]; exact x7) (by rw [Nat.zero_add]; exact (Row.cons.1 r7).1)
  have w7k := x7.wok w6k
  have R7' : Row w7 w1.heap.size 0 (itL m mu (stk0 w1.heap.size)) := R7
  have c7 := ir_at R7'
  have w1k : wok w7 w.heap.size 17 := x7.wok (x6.wok (x4.wok (x3.wok (n2.ext.wok n1.wok))))
  refine W_sq fun K hK => (W_text [true, false] (by kernel_rfl) ?_); simp only [↓List.toList_toArray, ↓rgd, ↓rgf, ↓reduceIte, Nat.reduceEqDiff, rg, ow_82, c7]
  refine do_store (v := itR m mu (stk0 w1.heap.size)) (by simp only [evt, evc, upd_eq, Nat.reduceEqDiff, ↓reduceIte, ntT, ntF] <;> rfl) (by simp only [evt, evc, upd_eq, Nat.reduceEqDiff, ↓reduceIte, ntT, ntF] <;> rfl) sz_102 rfl w1k (by decide) (oc_ir _ _ _) fun w8 x8 r8 s8 => ⟨trivial, ?_⟩
  simp only [↓List.toList_toArray, ↓rgd, ↓rgf, ↓reduceIte, Nat.reduceEqDiff, rg, ow_82]
  refine hK _ _ ?_; clear hK K
  have X7 : Ext noF w w7 := noF_of (n1.ext.tr n2.ext) (x3.mono (G := fun y _ => y = w1.heap.size) (fun _ _ _ g => g.1) |>.tr (x4.mono fun _ _ _ g => g.1) |>.tr (x6.mono fun _ _ _ g => g.1) |>.tr (x7.mono fun _ _ _ g => g.1)) fun y o hy g => by omega
  have X8 : Ext noF w w8 := noF_of X7 x8 fun y o hy g => by simp only [rng] at g; omega
  refine W_ret ?_
  exact endQ_c (by simp only [upd_eq, Nat.reduceEqDiff, ↓reduceIte] <;> rfl) ld_102 (ir_at (show Row w8 w.heap.size 0 (itL m mu (stk0 w1.heap.size)) from r8)) ⟨w1.heap.size, rfl, x8.wok (x7.wok (x6.wok (x4.wok (x3.wok n2.wok)))) |>.mono (by decide), by omega, by have := X8.size; have := x8.size; have := x7.size; have := x6.size; have := x4.size; have := x3.size; omega, X8⟩
set_option maxHeartbeats 1600000 in
set_option maxRecDepth 8000 in
theorem iterF_any (m : Nat) (w : World) :
    CallK Try.prog 52 #[ptr m] w fun v w' => ∃ sb, v = itR m false (stk0 sb) ∧ wok w' sb 14 ∧ w.heap.size ≤ sb ∧ sb < w'.heap.size ∧ Ext noF w w' := by
  refine calls_of_W [.cell 2 102] Try.func52 rfl Try.ntmps52 Try.results52 (by simp) fun e he => ?_
  have e0 : e 0 = ptr m := he 0 _ rfl
  clear he
  refine W_sq fun K hK => (W_text [false] (by kernel_rfl) ?_); simp only [↓List.toList_toArray, ↓rgd, ↓rgf, ↓reduceIte, Nat.reduceEqDiff, rg, ow_52]
  refine do_alloc z_ir fun w1 n1 => ⟨trivial, ?_⟩
  simp only [↓List.toList_toArray, ↓rgd, ↓rgf, ↓reduceIte, Nat.reduceEqDiff, rg, ow_52]
  refine hK _ _ ?_; clear hK K
  have z1 := n1.size
  refine W_sq fun K hK => (W_text [true, false, false] (by kernel_rfl) ?_); simp only [↓List.toList_toArray, ↓rgd, ↓rgf, ↓reduceIte, Nat.reduceEqDiff, rg, ow_52, e0]
  refine do_call fn_82 (vs := #[ptr m, .bool false]) (by simp only [evt, evc, upd_eq, Nat.reduceEqDiff, ↓reduceIte, maT, maC, maN, isnN, isnS] <;> rfl) (iter_any m false w1) ?_
  rintro _ w2 ⟨sb, rfl, h1, h2, h3, X2⟩
  refine ⟨trivial, ?_⟩
  simp only [↓List.toList_toArray, ↓rgd, ↓rgf, ↓reduceIte, Nat.reduceEqDiff, rg, ow_52]
  refine do_store (v := itR m false (stk0 sb)) (by simp only [evt, evc, upd_eq, Nat.reduceEqDiff, ↓reduceIte, ntT, ntF] <;> rfl) (by simp only [evt, evc, upd_eq, Nat.reduceEqDiff, ↓reduceIte, ntT, ntF] <;> rfl) sz_102 rfl (X2.wok n1.wok) (by decide) (oc_ir _ _ _) fun w3 x3 r3 s3 => ⟨trivial, ?_⟩
  simp only [↓List.toList_toArray, ↓rgd, ↓rgf, ↓reduceIte, Nat.reduceEqDiff, rg, ow_52]
  refine hK _ _ ?_; clear hK K
  have X3 : Ext noF w w3 := noF_of (n1.ext.tr X2) x3 fun y o hy g => by simp only [rng] at g; omega
  refine W_ret ?_
  exact endQ_c (by simp only [upd_eq, Nat.reduceEqDiff, ↓reduceIte] <;> rfl) ld_102 (ir_at (show Row w3 w.heap.size 0 (itL m false (stk0 sb)) from r3)) ⟨sb, rfl, x3.wok h1, by omega, by have := x3.size; omega, X3⟩
theorem bu_iz : buildV Try.prog 102 [] = some (.agg itZ.toArray) := by kernel_rfl
theorem oc_iz : oc (Value.agg itZ.toArray).cells.toList := by
  intro v hv
  simp only [Value.cells, itZ] at hv
  simp at hv
  rcases hv with hv | hv | hv | hv | hv | hv | hv | hv | hv | hv | hv | hv <;> (subst hv; rfl)
set_option maxHeartbeats 1600000 in
set_option maxRecDepth 8000 in
theorem release_any (ib m sb so cap : Nat) (mu : Bool) (full : List (Nat × Int)) (w : World) (hI : ItS ib m mu full sb so cap w) :
    CallK Try.prog 54 #[ptr ib] w fun v w' => Ext (fun y _ => y = ib) w w' ∧ Row w' ib 0 (itN (.slice (some ⟨sb, so, none⟩) (0 : Nat) cap)) ∧ wok w' ib 17 ∧ w'.heap.size = w.heap.size := by
  have h0 := hI.tr
  refine calls_of_W [] Try.func54 rfl Try.ntmps54 Try.results54 (by simp) fun e he => ?_
  have e0 : e 0 = ptr ib := he 0 _ rfl
  clear he
  refine W_seq ?_
  refine W_sq fun K hK => (W_text [true, true, true, true, true] (by kernel_rfl) ?_); simp only [↓List.toList_toArray, ↓rgd, ↓rgf, ↓reduceIte, Nat.reduceEqDiff, rg, ow_54, e0, ptr_eq, h0]
  refine hK _ _ ?_; clear hK K
  refine W_false (by simp only [evt, evc, upd_eq, Nat.reduceEqDiff, ↓reduceIte, ntT, ntF] <;> rfl) (W_skip ?_)
  show W _ _ _ _ _ _
  refine W_seq ?_
  have hl := hI.lk
  refine W_sq fun K hK => (W_text [true, true, true, true] (by kernel_rfl) ?_); simp only [↓List.toList_toArray, ↓rgd, ↓rgf, ↓reduceIte, Nat.reduceEqDiff, rg, ow_54, e0, ptr_eq, hl]
  refine hK _ _ ?_; clear hK K
  refine W_false (by simp only [evt, evc, upd_eq, Nat.reduceEqDiff, ↓reduceIte, ntT, ntF] <;> rfl) (W_skip ?_)
  show W _ _ _ _ _ _
  have l1 := hI.st.hd
  have z1 := sl0 sb so full.length cap
  refine W_sq fun K hK => (W_text [true, true, true, true, true, true] (by kernel_rfl) ?_); simp only [↓List.toList_toArray, ↓rgd, ↓rgf, ↓reduceIte, Nat.reduceEqDiff, rg, ow_54, e0, ptr_eq, l1, z1]
  refine hK _ _ ?_; clear hK K
  refine W_sq fun K hK => (W_text [true, true, true, false] (by kernel_rfl) ?_); simp only [↓List.toList_toArray, ↓rgd, ↓rgf, ↓reduceIte, Nat.reduceEqDiff, rg, ow_54, e0, ptr_eq, bu_iz]
  refine do_store (v := .agg itZ.toArray) (by simp only [evt, evc, upd_eq, Nat.reduceEqDiff, ↓reduceIte, ntT, ntF] <;> rfl) (by simp only [evt, evc, upd_eq, Nat.reduceEqDiff, ↓reduceIte, ntT, ntF] <;> rfl) sz_102 rfl hI.wok (by decide) oc_iz fun w2 x2 r2 s2 => ⟨trivial, ?_⟩
  simp only [↓List.toList_toArray, ↓rgd, ↓rgf, ↓reduceIte, Nat.reduceEqDiff, rg, ow_54]
  refine hK _ _ ?_; clear hK K
  refine W_rg fun K hK => (W_text [true, true, true, true, false] (by kernel_rfl) ?_); simp only [↓List.toList_toArray, ↓rgd, ↓rgf, ↓reduceIte, Nat.reduceEqDiff, rg, ow_54, e0, ptr_eq]
  refine do_store (v := .slice (some ⟨sb, so, none⟩) (0 : Nat) cap) (by simp only [evt, evc, upd_eq, Nat.reduceEqDiff, ↓reduceIte, ntT, ntF] <;> rfl) (by simp only [evt, evc, upd_eq, Nat.reduceEqDiff, ↓reduceIte, ntT, ntF] <;> rfl) sz_100 rfl (x2.wok hI.wok) (by decide) (oc_one rfl rfl) fun w3 x3 r3 s3 => ⟨trivial, ?_⟩
  simp only [↓List.toList_toArray, ↓rgd, ↓rgf, ↓reduceIte, Nat.reduceEqDiff, rg, ow_54]
  refine hK _ _ ?_; clear hK K
  have R2 : Row w2 ib 0 itZ := r2
  have R3 := R2.setc (i := 14) (by rw [Nat.zero_add]; exact x3) (by rw [Nat.zero_add]; exact (Row.cons.1 r3).1)
  exact endQ_0n ⟨(x2.mono fun y o _ g => g.1).tr (x3.mono fun y o _ g => g.1), R3, x3.wok (x2.wok hI.wok), by omega⟩
theorem sl_nn (a : Addr) (n c : Nat) : binV Try.prog .eql 100 (.slice (some a) n c) (.slice none 0 0) = some (.bool false) := by kernel_rfl
set_option maxHeartbeats 1600000 in
set_option maxRecDepth 8000 in
theorem init_it (ib m sb so cap : Nat) (mu : Bool) (w : World) (h : Row w ib 0 (itN (.slice (some ⟨sb, so, none⟩) (0 : Nat) cap))) (hw : wok w ib 17) (hs : wok w sb (so + cap * 2)) (hne : sb ≠ ib) :
    CallK Try.prog 80 #[ptr ib, ptr m, .bool mu] w fun v w' => ItS ib m mu [] sb so cap w' ∧ Ext (fun y _ => y = ib) w w' ∧ w'.heap.size = w.heap.size := by
  refine calls_of_W [] Try.func80 rfl Try.ntmps80 Try.results80 (by simp) fun e he => ?_
  have e0 : e 0 = ptr ib := he 0 _ rfl
  have e1 : e 1 = ptr m := he 1 _ rfl
  have e2 : e 2 = .bool mu := he 2 _ rfl
  clear he
  have h14 : rd w ib 14 = some (.slice (some ⟨sb, so, none⟩) (0 : Nat) cap) := by have := h 14 _ rfl; rwa [Nat.zero_add] at this
  have z1 := sl0 sb so 0 cap
  refine W_sq fun K hK => (W_text [true, true, true, true, true, true] (by kernel_rfl) ?_); simp only [↓List.toList_toArray, ↓rgd, ↓rgf, ↓reduceIte, Nat.reduceEqDiff, rg, ow_80, e0, ptr_eq, h14, z1]
  refine hK _ _ ?_; clear hK K
  refine W_sq fun K hK => (W_text [true, true, true, false] (by kernel_rfl) ?_); simp only [↓List.toList_toArray, ↓rgd, ↓rgf, ↓reduceIte, Nat.reduceEqDiff, rg, ow_80, e0, ptr_eq, bu_iz]
  refine do_store (v := .agg itZ.toArray) (by simp only [evt, evc, upd_eq, Nat.reduceEqDiff, ↓reduceIte, ntT, ntF] <;> rfl) (by simp only [evt, evc, upd_eq, Nat.reduceEqDiff, ↓reduceIte, ntT, ntF] <;> rfl) sz_102 rfl hw (by decide) oc_iz fun w2 x2 r2 s2 => ⟨trivial, ?_⟩
  simp only [↓List.toList_toArray, ↓rgd, ↓rgf, ↓reduceIte, Nat.reduceEqDiff, rg, ow_80]
  refine hK _ _ ?_; clear hK K
  have R2 : Row w2 ib 0 itZ := r2
  have w2k := x2.wok hw
  have Y2 : Ext (fun y _ => y = ib) w w2 := x2.mono fun y o _ g => g.1
  refine W_sq fun K hK => (W_text [true, true, true, true, false] (by kernel_rfl) ?_); simp only [↓List.toList_toArray, ↓rgd, ↓rgf, ↓reduceIte, Nat.reduceEqDiff, rg, ow_80, e0, ptr_eq]
  refine do_store (v := .slice (some ⟨sb, so, none⟩) (0 : Nat) cap) (by simp only [evt, evc, upd_eq, Nat.reduceEqDiff, ↓reduceIte, ntT, ntF] <;> rfl) (by simp only [evt, evc, upd_eq, Nat.reduceEqDiff, ↓reduceIte, ntT, ntF] <;> rfl) sz_100 rfl w2k (by decide) (oc_one rfl rfl) fun w3 x3 r3 s3 => ⟨trivial, ?_⟩
  simp only [↓List.toList_toArray, ↓rgd, ↓rgf, ↓reduceIte, Nat.reduceEqDiff, rg, ow_80]
  refine hK _ _ ?_; clear hK K
  have R3 := R2.setc (i := 14) (by rw [Nat.zero_add]; exact x3) (by rw [Nat.zero_add]; exact (Row.cons.1 r3).1)
  have w3k := x3.wok w2k
  have Y3 : Ext (fun y _ => y = ib) w w3 := Y2.tr (x3.mono fun y o _ g => g.1)
  refine W_sq fun K hK => (W_text [true, true, true, true, false] (by kernel_rfl) ?_); simp only [↓List.toList_toArray, ↓rgd, ↓rgf, ↓reduceIte, Nat.reduceEqDiff, rg, ow_80, e0, e1, ptr_eq]
  refine do_store (v := ptr m) (by simp only [evt, evc, upd_eq, Nat.reduceEqDiff, ↓reduceIte, ntT, ntF] <;> rfl) (by simp only [evt, evc, upd_eq, Nat.reduceEqDiff, ↓reduceIte, ntT, ntF] <;> rfl) sz_84 rfl w3k (by decide) (oc_one rfl rfl) fun w4 x4 r4 s4 => ⟨trivial, ?_⟩
  simp only [↓List.toList_toArray, ↓rgd, ↓rgf, ↓reduceIte, Nat.reduceEqDiff, rg, ow_80]
  refine hK _ _ ?_; clear hK K
  have R4 := R3.setc (i := 0) (by rw [Nat.zero_add]; exact x4) (by rw [Nat.zero_add]; exact (Row.cons.1 r4).1)
  have w4k := x4.wok w3k
  have Y4 : Ext (fun y _ => y = ib) w w4 := Y3.tr (x4.mono fun y o _ g => g.1)
  refine W_sq fun K hK => (W_text [true, true, true, true, false] (by kernel_rfl) ?_); simp only [↓List.toList_toArray, ↓rgd, ↓rgf, ↓reduceIte, Nat.reduceEqDiff, rg, ow_80, e0, e2, ptr_eq]
  refine do_store (v := .bool mu) (by simp only [evt, evc, upd_eq, Nat.reduceEqDiff, ↓reduceIte, ntT, ntF] <;> rfl) (by simp only [evt, evc, upd_eq, Nat.reduceEqDiff, ↓reduceIte, ntT, ntF] <;> rfl) sz_4 rfl w4k (by decide) (oc_one rfl rfl) fun w5 x5 r5 s5 => ⟨trivial, ?_⟩
  simp only [↓List.toList_toArray, ↓rgd, ↓rgf, ↓reduceIte, Nat.reduceEqDiff, rg, ow_80]
  refine hK _ _ ?_; clear hK K
  have R5 := R4.setc (i := 1) (by rw [Nat.zero_add]; exact x5) (by rw [Nat.zero_add]; exact (Row.cons.1 r5).1)
  have w5k := x5.wok w4k
  have Y5 : Ext (fun y _ => y = ib) w w5 := Y4.tr (x5.mono fun y o _ g => g.1)
  have hm5 : rd w5 ib 1 = some (.bool mu) := (Row.cons.1 r5).1
  refine W_sq fun K hK => (W_text [true, true, true, true, true, true, false, true, true, false] (by kernel_rfl) ?_); simp only [↓List.toList_toArray, ↓rgd, ↓rgf, ↓reduceIte, Nat.reduceEqDiff, rg, ow_80, e0, e1, ptr_eq, hm5]
  refine do_call fn_91 (vs := #[ptr m, .bool mu]) (by simp only [evt, evc, upd_eq, Nat.reduceEqDiff, ↓reduceIte, maT, maC, maN, isnN, isnS] <;> rfl) (lock_any _ _ w5) ?_
  rintro _ w5' ⟨rfl, hw5⟩
  obtain rfl : w5 = w5' := hw5
  refine ⟨trivial, ?_⟩
  simp only [↓List.toList_toArray, ↓rgd, ↓rgf, ↓reduceIte, Nat.reduceEqDiff, rg, ow_80, e0, ptr_eq]
  refine do_store (v := .bool false) (by simp only [evt, evc, upd_eq, Nat.reduceEqDiff, ↓reduceIte, ntT, ntF] <;> rfl) (by simp only [evt, evc, upd_eq, Nat.reduceEqDiff, ↓reduceIte, ntT, ntF] <;> rfl) sz_4 rfl w5k (by decide) (oc_one rfl rfl) fun w6 x6 r6 s6 => ⟨trivial, ?_⟩
  simp only [↓List.toList_toArray, ↓rgd, ↓rgf, ↓reduceIte, Nat.reduceEqDiff, rg, ow_80]
  refine hK _ _ ?_; clear hK K
  have R6 := R5.setc (i := 2) (by rw [Nat.zero_add]; exact x6) (by rw [Nat.zero_add]; exact (Row.cons.1 r6).1)
  have w6k := x6.wok w5k
  have Y6 : Ext (fun y _ => y = ib) w w6 := Y5.tr (x6.mono fun y o _ g => g.1)
  have h6 : rd w6 ib 14 = some (.slice (some ⟨sb, so, none⟩) (0 : Nat) cap) := by have := R6 14 _ rfl; rwa [Nat.zero_add] at this
  refine W_sq fun K hK => (W_text [true, true, true, true, true] (by kernel_rfl) ?_); simp only [↓List.toList_toArray, ↓rgd, ↓rgf, ↓reduceIte, Nat.reduceEqDiff, rg, ow_80, e0, ptr_eq, h6, sl_nn]
  refine hK _ _ ?_; clear hK K
  refine W_false (by simp only [evt, evc, upd_eq, Nat.reduceEqDiff, ↓reduceIte, ntT, ntF] <;> rfl) ?_
  refine W_rg fun K hK => (W_text [true, true, true, true, true, true, true, true, false] (by kernel_rfl) ?_); simp only [↓List.toList_toArray, ↓rgd, ↓rgf, ↓reduceIte, Nat.reduceEqDiff, rg, ow_80, e0, ptr_eq, h6, z1]
  refine do_store (v := .slice (some ⟨sb, so, none⟩) (0 : Nat) cap) (by simp only [evt, evc, upd_eq, Nat.reduceEqDiff, ↓reduceIte, ntT, ntF] <;> rfl) (by simp only [evt, evc, upd_eq, Nat.reduceEqDiff, ↓reduceIte, ntT, ntF] <;> rfl) sz_100 rfl w6k (by decide) (oc_one rfl rfl) fun w7 x7 r7 s7 => ⟨trivial, ?_⟩
  simp only [↓List.toList_toArray, ↓rgd, ↓rgf, ↓reduceIte, Nat.reduceEqDiff, rg, ow_80]
  refine hK _ _ ?_; clear hK K
  have R7 := R6.setc (i := 14) (by rw [Nat.zero_add]; exact x7) (by rw [Nat.zero_add]; exact (Row.cons.1 r7).1)
  have w7k := x7.wok w6k
  have Y7 : Ext (fun y _ => y = ib) w w7 := Y6.tr (x7.mono fun y o _ g => g.1)
  have R8 : Row w7 ib 0 (itL m mu (.slice (some ⟨sb, so, none⟩) (0 : Nat) cap)) := R7
  exact endQ_0n ⟨ItS.new' R8 w7k (Y7.wok hs) hne, Y7, by have := x2.size; omega⟩
end Go.Proofs.Ytbnnkcofnmipoaa
/-
  What the moves of an iterator over a list return. Plain lists; no program. No condition.
-/
set_option linter.unusedSimpArgs false
set_option linter.unusedVariables false
namespace Go.Proofs.Ytbnnkcofnmipoaa
section
variable {α : Type}
/-- A move: 1 last, 2 next, 3 back, 4 and 5 to a key's place, any other one first. -/
def stepI (X : List α) (pl : α → Nat) (s : Option Nat) (mv : Int × α) : Option Nat :=
  if mv.1 = 2 then s.bind fun i => if i + 1 < X.length then some (i + 1) else none
  else if mv.1 = 3 then s.bind fun i => if 0 < i then some (i - 1) else none
  else if mv.1 = 1 then (if 0 < X.length then some (X.length - 1) else none)
  else if mv.1 = 4 ∨ mv.1 = 5 then (if pl mv.2 < X.length then some (pl mv.2) else none)
  else (if 0 < X.length then some 0 else none)
def toldI (X : List α) (s : Option Nat) (mv : Int × α) : Bool := if mv.1 = 2 ∨ mv.1 = 3 then s.isSome || X.isEmpty else true
def foI (X : List α) (s : Option Nat) : Option α := s.bind fun i => X[i]?
def nextI (X : List α) (pl : α → Nat) (a : Option Nat × List (Option α × Bool)) (mv : Int × α) : Option Nat × List (Option α × Bool) :=
  (stepI X pl a.1 mv, a.2 ++ [(foI X (stepI X pl a.1 mv), toldI X a.1 mv)])
def runI (X : List α) (pl : α → Nat) (ms : List (Int × α)) : Option Nat × List (Option α × Bool) := ms.foldl (nextI X pl) (none, [])
theorem runI_snoc (X : List α) (pl : α → Nat) (ms : List (Int × α)) (mv : Int × α) : runI X pl (ms ++ [mv]) = nextI X pl (runI X pl ms) mv := by
  unfold runI; rw [List.foldl_append]; rfl
theorem runI_succ (X : List α) (pl : α → Nat) {ms : List (Int × α)} {i : Nat} {mv : Int × α} (h : ms[i]? = some mv) : runI X pl (ms.take (i + 1)) = nextI X pl (runI X pl (ms.take i)) mv := by
  rw [List.take_add_one, h]; exact runI_snoc X pl _ mv
theorem nextI_length (X : List α) (pl : α → Nat) (ms : List (Int × α)) (a : Option Nat × List (Option α × Bool)) : (ms.foldl (nextI X pl) a).2.length = a.2.length + ms.length := by
  induction ms generalizing a with
  | nil => rfl
  | cons mv ms ih => rw [List.foldl_cons, ih]; simp [nextI]; omega
theorem runI_length (X : List α) (pl : α → Nat) (ms : List (Int × α)) : (runI X pl ms).2.length = ms.length := by
  unfold runI; rw [nextI_length]; simp
theorem stepI_lt {X : List α} {pl : α → Nat} {s : Option Nat} {mv : Int × α} (hs : ∀ k, s = some k → k < X.length) {k : Nat} (h : stepI X pl s mv = some k) : k < X.length := by
  unfold stepI at h
  cases s with
  | none =>
    simp only [Option.bind_none] at h
    repeat' split at h
    all_goals first | omega | (simp only [Option.some.injEq, reduceCtorEq] at h <;> omega)
  | some i =>
    have := hs i rfl
    simp only [Option.bind_some] at h
    repeat' split at h
    all_goals first | omega | (simp only [Option.some.injEq, reduceCtorEq] at h <;> omega)
theorem stepI_2 {X : List α} {pl : α → Nat} {s : Option Nat} {mv : Int × α} (h : mv.1 = 2) : stepI X pl s mv = s.bind fun i => if i + 1 < X.length then some (i + 1) else none := by unfold stepI; rw [if_pos h]
theorem stepI_3 {X : List α} {pl : α → Nat} {s : Option Nat} {mv : Int × α} (h : mv.1 = 3) : stepI X pl s mv = s.bind fun i => if 0 < i then some (i - 1) else none := by unfold stepI; rw [if_neg (show ¬ mv.1 = 2 by omega), if_pos h]
theorem stepI_1 {X : List α} {pl : α → Nat} {s : Option Nat} {mv : Int × α} (h : mv.1 = 1) : stepI X pl s mv = if 0 < X.length then some (X.length - 1) else none := by unfold stepI; rw [if_neg (show ¬ mv.1 = 2 by omega), if_neg (show ¬ mv.1 = 3 by omega), if_pos h]
theorem stepI_4 {X : List α} {pl : α → Nat} {s : Option Nat} {mv : Int × α} (h : mv.1 = 4 ∨ mv.1 = 5) : stepI X pl s mv = if pl mv.2 < X.length then some (pl mv.2) else none := by
  unfold stepI; rw [if_neg (show ¬ mv.1 = 2 by omega), if_neg (show ¬ mv.1 = 3 by omega), if_neg (show ¬ mv.1 = 1 by omega), if_pos h]
theorem stepI_0 {X : List α} {pl : α → Nat} {s : Option Nat} {mv : Int × α} (h : ¬ mv.1 = 1 ∧ ¬ mv.1 = 2 ∧ ¬ mv.1 = 3 ∧ ¬ mv.1 = 4 ∧ ¬ mv.1 = 5) : stepI X pl s mv = if 0 < X.length then some 0 else none := by
  unfold stepI; rw [if_neg h.2.1, if_neg h.2.2.1, if_neg h.1, if_neg (show ¬ (mv.1 = 4 ∨ mv.1 = 5) by omega)]
theorem toldI_r {X : List α} {s : Option Nat} {mv : Int × α} (h : mv.1 = 2 ∨ mv.1 = 3) : toldI X s mv = (s.isSome || X.isEmpty) := by unfold toldI; rw [if_pos h]
/-- Answers that agree where they are told. -/
def Agree (P : List (Option α)) (R : List (Option α × Bool)) : Prop := P.length = R.length ∧ ∀ (i : Nat) (p : Option α) (r : Option α × Bool), P[i]? = some p → R[i]? = some r → r.2 = true → p = r.1
theorem Agree.nil : Agree ([] : List (Option α)) [] := ⟨rfl, fun i p r h => by simp at h⟩
theorem Agree.snoc {P : List (Option α)} {R : List (Option α × Bool)} {p q : Option α} {t : Bool} (h : Agree P R) (hp : t = true → p = q) : Agree (P ++ [p]) (R ++ [(q, t)]) := by
  refine ⟨by simp [h.1], fun i a r h1 h2 h3 => ?_⟩
  rcases Nat.lt_trichotomy i P.length with hi | hi | hi
  · rw [List.getElem?_append_left hi] at h1
    rw [List.getElem?_append_left (by rw [← h.1]; exact hi)] at h2
    exact h.2 i a r h1 h2 h3
  · subst hi
    rw [List.getElem?_append_right (Nat.le_refl _)] at h1
    rw [List.getElem?_append_right (by rw [h.1]; exact Nat.le_refl _)] at h2
    simp only [Nat.sub_self, List.getElem?_cons_zero, Option.some.injEq] at h1
    simp only [h.1, Nat.sub_self, List.getElem?_cons_zero, Option.some.injEq] at h2
    subst h1 h2
    exact hp h3
  · rw [List.getElem?_eq_none (by simp; omega)] at h1
    cases h1
/-- Where an iterator may go from where it stands: a move from nowhere is known for an empty list alone. -/
def Goes (X : List α) (pl : α → Nat) (p : Option Nat) (mv : Int × α) (p' : Option Nat) : Prop :=
  (∀ k, p' = some k → k < X.length) ∧ (toldI X p mv = true → p' = stepI X pl p mv)
theorem Goes.agree {X : List α} {pl : α → Nat} {s p p' : Option Nat} {mv : Int × α} (hs : ∀ k, s = some k → p = some k) (h : Goes X pl p mv p') :
    (∀ k, stepI X pl s mv = some k → p' = some k) ∧ (toldI X s mv = true → foI X p' = foI X (stepI X pl s mv)) := by
  have key : toldI X s mv = true → p' = stepI X pl s mv := by
    intro ht
    cases s with
    | none =>
      by_cases hm : mv.1 = 2 ∨ mv.1 = 3
      · have hX : X = [] := by
          unfold toldI at ht; rw [if_pos hm] at ht
          simpa using ht
        subst hX
        have h1 := h.2 (by unfold toldI; rw [if_pos hm]; simp)
        cases p' with
        | some k => exact absurd (h.1 k rfl) (by simp)
        | none =>
          unfold stepI
          rcases hm with hm | hm
          · rw [if_pos hm]; rfl
          · rw [if_neg (by omega), if_pos hm]; rfl
      · have h1 := h.2 (by unfold toldI; rw [if_neg hm])
        rw [h1]
        unfold stepI
        rw [if_neg (fun g => hm (.inl g)), if_neg (fun g => hm (.inr g)), if_neg (fun g => hm (.inl g)), if_neg (fun g => hm (.inr g))]
    | some k =>
      have hp := hs k rfl
      subst hp
      exact h.2 ht
  refine ⟨fun k hk => ?_, fun ht => by rw [key ht]⟩
  have : toldI X s mv = true := by
    unfold toldI
    by_cases hm : mv.1 = 2 ∨ mv.1 = 3
    · rw [if_pos hm]
      cases s with
      | some k => rfl
      | none =>
        exfalso
        unfold stepI at hk
        rcases hm with hm | hm
        · rw [if_pos hm] at hk; cases hk
        · rw [if_neg (by omega), if_pos hm] at hk; cases hk
    · rw [if_neg hm]
  rw [key this]; exact hk
end
end Go.Proofs.Ytbnnkcofnmipoaa
/-
  What is found at an index; a list with an element taken away. No condition.
-/
set_option linter.unusedSimpArgs false
set_option linter.unusedVariables false
namespace Go.Proofs.Ytbnnkcofnmipoaa
open Go Go.Proofs
theorem ni_i : noInt Try.prog 25 = true := by kernel_rfl
/-- The item at an index, and whether there is one. -/
def nth (l : List It) (i : Int) : Option It := if 0 ≤ i then l[i.toNat]? else none
theorem nth_none {xs : List It} {i : Int} (h : i < 0 ∨ (xs.length : Int) ≤ i) : nth xs i = none := by
  unfold nth
  split
  · exact List.getElem?_eq_none (by omega)
  · rfl
def foO (x : Option It) : It × Bool := (x.getD (0, 0), x.isSome)
def foP (x : It) (ok : Bool) : It × Bool := if ok = true then (x, true) else ((0, 0), false)
theorem oc_fo (x : It × Bool) : oc (foV x).cells.toList := Ef.one x
theorem fo_len (x : It × Bool) : (foV x).cells.toList.length = 3 := rfl
theorem bu_fo1 (x : It) : buildV Try.prog 35 [(0, iV x), (1, .bool true)] = some (foV (x, true)) := by kernel_rfl
theorem bu_fo0 : buildV Try.prog 35 [] = some (foV ((0, 0), false)) := by kernel_rfl
theorem z_fo : zK Try.prog 35 = some [.int .i64 0, .int .i64 0, .bool false] := by kernel_rfl
theorem ld_fo {w : World} {b : Nat} {x : It × Bool} (h : Row w b 0 (Ef.cel x)) : loadV w ⟨b, 0, none⟩ (some 3) = some (foV x) := h.rdA 3 (by simp [Ef])
set_option maxHeartbeats 400000 in
set_option maxRecDepth 8000 in
theorem found_any (x : It) (ok : Bool) (w : World) : CallK Try.prog 44 #[iV x, .bool ok] w fun v w' => v = foV (foP x ok) ∧ Ext noF w w' := by
  refine calls_of_W [.cell 4 35] Try.func44 rfl Try.ntmps44 Try.results44 (by simp) fun e he => ?_
  have e0 : e 0 = iV x := he 0 _ rfl
  have e1 : e 1 = .bool ok := he 1 _ rfl
  clear he
  refine W_sq fun K hK => (W_text [false, false] (by kernel_rfl) ?_); simp only [↓List.toList_toArray, ↓rgd, ↓rgf, ↓reduceIte, Nat.reduceEqDiff, rg, ow_44]
  refine do_box (by simp only [evt]; exact e0) fun w1 n1 => ⟨trivial, ?_⟩
  simp only [↓List.toList_toArray, ↓rgd, ↓rgf, ↓reduceIte, Nat.reduceEqDiff, rg, ow_44]
  refine do_alloc z_fo fun w2 n2 => ⟨trivial, ?_⟩
  simp only [↓List.toList_toArray, ↓rgd, ↓rgf, ↓reduceIte, Nat.reduceEqDiff, rg, ow_44]
  refine hK _ _ ?_; clear hK K
  have s1 := n1.size
  have s2 := n2.size
  have bx : rdA w2 w.heap.size 0 2 = some (iV x) := (n2.ext.row n1.row fun _ _ h => h).rdA 2 (by show 2 ≤ 2; omega)
  refine W_seq ?_
  refine W_sq fun K hK => (W_text [true, true] (by kernel_rfl) ?_); simp only [↓List.toList_toArray, ↓rgd, ↓rgf, ↓reduceIte, Nat.reduceEqDiff, rg, ow_44, e1]
  refine hK _ _ ?_; clear hK K
  cases ok with
  | false =>
    refine W_true (by simp only [evt, evc, upd_eq, Nat.reduceEqDiff, ↓reduceIte, ntT, ntF] <;> rfl) ?_
    refine W_sq fun K hK => (W_text [true, false] (by kernel_rfl) ?_); simp only [↓List.toList_toArray, ↓rgd, ↓rgf, ↓reduceIte, Nat.reduceEqDiff, rg, ow_44, bu_fo0]
    refine do_store (v := foV ((0, 0), false)) (by simp only [evt, evc, upd_eq, Nat.reduceEqDiff, ↓reduceIte, ntT, ntF] <;> rfl) (by simp only [evt, evc, upd_eq, Nat.reduceEqDiff, ↓reduceIte, ntT, ntF] <;> rfl) sz_35 rfl n2.wok (by decide) (oc_fo _) fun w3 x3 r3 s3 => ⟨trivial, ?_⟩
    simp only [↓List.toList_toArray, ↓rgd, ↓rgf, ↓reduceIte, Nat.reduceEqDiff, rg, ow_44]
    refine hK _ _ ?_; clear hK K
    refine W_ret ?_
    simp only [andThen_ret]
    exact endQ_c (by simp only [upd_eq, Nat.reduceEqDiff, ↓reduceIte]) ld_35 (ld_fo r3) ⟨rfl, noF_of (n1.ext.tr n2.ext) x3 fun y o hy h => by simp only [rng] at h; omega⟩
  | true =>
    refine W_false (by simp only [evt, evc, upd_eq, Nat.reduceEqDiff, ↓reduceIte, ntT, ntF] <;> rfl) (W_skip ?_)
    show W _ _ _ _ _ _
    refine W_sq fun K hK => (W_text [true, true, false] (by kernel_rfl) ?_); simp only [↓List.toList_toArray, ↓rgd, ↓rgf, ↓reduceIte, Nat.reduceEqDiff, rg, ow_44, bx, bu_fo1]
    refine do_store (v := foV (x, true)) (by simp only [evt, evc, upd_eq, Nat.reduceEqDiff, ↓reduceIte, ntT, ntF] <;> rfl) (by simp only [evt, evc, upd_eq, Nat.reduceEqDiff, ↓reduceIte, ntT, ntF] <;> rfl) sz_35 rfl n2.wok (by decide) (oc_fo _) fun w3 x3 r3 s3 => ⟨trivial, ?_⟩
    simp only [↓List.toList_toArray, ↓rgd, ↓rgf, ↓reduceIte, Nat.reduceEqDiff, rg, ow_44]
    refine hK _ _ ?_; clear hK K
    refine W_ret ?_
    exact endQ_c (by simp only [upd_eq, Nat.reduceEqDiff, ↓reduceIte]) ld_35 (ld_fo r3) ⟨rfl, noF_of (n1.ext.tr n2.ext) x3 fun y o hy h => by simp only [rng] at h; omega⟩
/-- A list without an item, and the item. -/
def cutL (l : List It) (i : Int) : List It := if 0 ≤ i then l.eraseIdx i.toNat else l
theorem cutL_out {l : List It} {i : Int} (h : i < 0 ∨ (l.length : Int) ≤ i) : cutL l i = l := by
  unfold cutL
  split
  · exact List.eraseIdx_of_length_le (by omega)
  · rfl
set_option maxHeartbeats 1000000 in
set_option maxRecDepth 8000 in
theorem cut_any (l : List It) (lv : Value) (ix : Int) (w : World) (hl : SlI w lv l) (hbig : l.length ≤ 2147483648) :
    CallK Try.prog 120 #[lv, .int .i64 ix] w fun v w' => ∃ sv, v = .tuple #[sv, foV (foO (nth l ix))] ∧ SlI w' sv (cutL l ix) ∧ Ext noF w w' := by
  obtain ⟨a, c, hlv⟩ := hl.shape
  refine calls_of_W [.tmp 4, .cell 5 35] Try.func120 rfl Try.ntmps120 Try.results120 (by simp) fun e he => ?_
  have e0 : e 0 = .slice a l.length c := by rw [← hlv]; exact he 0 _ rfl
  have e1 : e 1 = .int .i64 ix := he 1 _ rfl
  clear he
  refine W_sq fun K hK => (W_text [true, false] (by kernel_rfl) ?_); simp only [↓List.toList_toArray, ↓rgd, ↓rgf, ↓reduceIte, Nat.reduceEqDiff, rg, ow_120]
  refine do_alloc z_fo fun w1 n1 => ⟨trivial, ?_⟩
  simp only [↓List.toList_toArray, ↓rgd, ↓rgf, ↓reduceIte, Nat.reduceEqDiff, rg, ow_120]
  refine hK _ _ ?_; clear hK K
  have s1 := n1.size
  have out : (ix < 0 ∨ (l.length : Int) ≤ ix) → nth l ix = none ∧ cutL l ix = l := fun h => ⟨nth_none h, cutL_out h⟩
  refine W_seq ?_
  by_cases h1 : ix < 0
  · have t1 : decide (ix < 0) = true := by simp [h1]
    refine W_sq fun K hK => (W_text [true, true, true, true, true, true, true, true] (by kernel_rfl) ?_); simp only [↓List.toList_toArray, ↓rgd, ↓rgf, ↓reduceIte, Nat.reduceEqDiff, rg, ow_120, e0, e1, t1]
    refine hK _ _ ?_; clear hK K
    refine W_true (by simp only [evt, evc, upd_eq, Nat.reduceEqDiff, ↓reduceIte, ntT, ntF] <;> rfl) ?_
    refine W_sq fun K hK => (W_text [true, true, true, false] (by kernel_rfl) ?_); simp only [↓List.toList_toArray, ↓rgd, ↓rgf, ↓reduceIte, Nat.reduceEqDiff, rg, ow_120, e0, bu_fo0]
    refine do_store (v := foV ((0, 0), false)) (by simp only [evt, evc, upd_eq, Nat.reduceEqDiff, ↓reduceIte, ntT, ntF] <;> rfl) (by simp only [evt, evc, upd_eq, Nat.reduceEqDiff, ↓reduceIte, ntT, ntF] <;> rfl) sz_35 rfl n1.wok (by decide) (oc_fo _) fun w3 x3 r3 s3 => ⟨trivial, ?_⟩
    simp only [↓List.toList_toArray, ↓rgd, ↓rgf, ↓reduceIte, Nat.reduceEqDiff, rg, ow_120]
    refine hK _ _ ?_; clear hK K
    refine W_ret ?_
    simp only [andThen_ret]
    have X3 := noF_of n1.ext x3 fun y o hy h => by simp only [rng] at h; omega
    rw [(out (.inl h1)).1, (out (.inl h1)).2]
    exact endQ_tc (by simp only [upd_eq, Nat.reduceEqDiff, ↓reduceIte] <;> rfl) (by simp only [upd_eq, Nat.reduceEqDiff, ↓reduceIte]) ld_35 (ld_fo r3) ⟨_, rfl, by rw [← hlv]; exact hl.ext0 X3, X3⟩
  have t1 : decide (ix < 0) = false := by simp; omega
  by_cases h2 : (l.length : Int) ≤ ix
  · have t2 : decide ((l.length : Int) ≤ ix) = true := by simp [h2]
    refine W_sq fun K hK => (W_text [true, true, true, true, true, true, true, true] (by kernel_rfl) ?_); simp only [↓List.toList_toArray, ↓rgd, ↓rgf, ↓reduceIte, Nat.reduceEqDiff, rg, ow_120, e0, e1, t1, t2]
    refine hK _ _ ?_; clear hK K
    refine W_true (by simp only [evt, evc, upd_eq, Nat.reduceEqDiff, ↓reduceIte, ntT, ntF] <;> rfl) ?_
    refine W_sq fun K hK => (W_text [true, true, true, false] (by kernel_rfl) ?_); simp only [↓List.toList_toArray, ↓rgd, ↓rgf, ↓reduceIte, Nat.reduceEqDiff, rg, ow_120, e0, bu_fo0]
    refine do_store (v := foV ((0, 0), false)) (by simp only [evt, evc, upd_eq, Nat.reduceEqDiff, ↓reduceIte, ntT, ntF] <;> rfl) (by simp only [evt, evc, upd_eq, Nat.reduceEqDiff, ↓reduceIte, ntT, ntF] <;> rfl) sz_35 rfl n1.wok (by decide) (oc_fo _) fun w3 x3 r3 s3 => ⟨trivial, ?_⟩
    simp only [↓List.toList_toArray, ↓rgd, ↓rgf, ↓reduceIte, Nat.reduceEqDiff, rg, ow_120]
    refine hK _ _ ?_; clear hK K
    refine W_ret ?_
    simp only [andThen_ret]
    have X3 := noF_of n1.ext x3 fun y o hy h => by simp only [rng] at h; omega
    rw [(out (.inr h2)).1, (out (.inr h2)).2]
    exact endQ_tc (by simp only [upd_eq, Nat.reduceEqDiff, ↓reduceIte] <;> rfl) (by simp only [upd_eq, Nat.reduceEqDiff, ↓reduceIte]) ld_35 (ld_fo r3) ⟨_, rfl, by rw [← hlv]; exact hl.ext0 X3, X3⟩
  have t2 : decide ((l.length : Int) ≤ ix) = false := by simp; omega
  refine W_sq fun K hK => (W_text [true, true, true, true, true, true, true, true] (by kernel_rfl) ?_); simp only [↓List.toList_toArray, ↓rgd, ↓rgf, ↓reduceIte, Nat.reduceEqDiff, rg, ow_120, e0, e1, t1, t2]
  refine hK _ _ ?_; clear hK K
  refine W_false (by simp only [evt, evc, upd_eq, Nat.reduceEqDiff, ↓reduceIte, ntT, ntF] <;> rfl) (W_skip ?_)
  show W _ _ _ _ _ _
  obtain ⟨i, rfl⟩ : ∃ i : Nat, ix = i := ⟨ix.toNat, by omega⟩
  have hi : i < l.length := by omega
  obtain ⟨x, hx⟩ : ∃ x, l[i]? = some x := ⟨_, List.getElem?_eq_getElem hi⟩
  have hn : nth l (i : Int) = some x := by simp [nth, hx]
  obtain ⟨sv1, hs1, hsl1⟩ := sl_hi (hl.ext0 n1.ext) i (by omega)
  obtain ⟨sv2, hs2, hsl2⟩ := sl_lo (hl.ext0 n1.ext) (i + 1) (by omega)
  rw [hlv] at hs1 hs2
  have q1 := wadd1 i (by omega)
  obtain ⟨lb, lo, rfl, row⟩ := (hl.ext0 n1.ext).at hlv hi
  have ixx := iV_at row hx
  have hlb : lb < w1.heap.size := (hl.ext0 n1.ext).lt hlv
  have M1 : readsB (some (some [lb])) lb = true := by simp [readsB]
  refine W_sq fun K hK => (W_draw (some (some [lb])) (some 16) [(0, 1, 0), (0, 2, 0), (0, 3, 0), (0, 5, 0), (0, 6, 0), (0, 7, 0), (0, 8, 0), (0, 10, 0), (0, 11, 0), (0, 12, 0), (0, 13, 0), (0, 14, 0), (1, 0, 0), (1, 4, 0), (1, 9, 0), (0, 15, 0), (1, 16, 0)] mixed (by kernel_rfl) ?_); simp only [↓List.toList_toArray, ↓rgd, ↓rgf, ↓reduceIte, Nat.reduceEqDiff, rg, ow_120, e0, e1, hs1, hs2, q1, hi, ixx, bu_fo1, M1]
  refine do_bsl rfl bs_it0 fun w2 n2 => ⟨.inr (keeps_on n2.ext fun y hy => ⟨?_, fun _ h => h⟩), ?_⟩
  · rw [sz_dr]
    simp only [List.mem_cons, List.not_mem_nil, or_false] at hy
    omega
  simp only [↓List.toList_toArray, ↓rgd, ↓rgf, ↓reduceIte, Nat.reduceEqDiff, rg, ow_120, e0, e1, hs1, hs2, q1, hi, ixx, bu_fo1]
  have n2 := n2.od
  have s2 := n2.size
  have hv2 : SlV w2 2 (.slice (some ⟨w1.heap.size, 0, none⟩) 0 0) 0 [] := ⟨rfl, .inr ⟨_, 0, 0, rfl, Nat.le_refl _, Row.nil _ _ _, n2.wok.R (Nat.le_refl _)⟩⟩
  refine do_append (by simp only [evt, evc, upd_eq, Nat.reduceEqDiff, ↓reduceIte, ntT, ntF] <;> rfl) (by simp only [evt, evc, upd_eq, Nat.reduceEqDiff, ↓reduceIte, ntT, ntF] <;> rfl) el_it rfl ni_i hv2 (hsl1.ext0 n2.ext) (by omega) (by decide) (flat_oc Ei _) fun v3 w3 a3 => ?_
  obtain ⟨hS3, hg3, x3⟩ := app_since (B := w1.heap.size) a3 (fun b o n c h => by simp only [Value.slice.injEq, Option.some.injEq, Addr.mk.injEq] at h; omega) (by omega)
  refine ⟨.inr (keeps_on x3 fun y hy => ?_), ?_⟩
  · simp only [List.mem_cons, List.not_mem_nil, or_false] at hy
    exact ⟨by omega, fun o h => by omega⟩
  simp only [↓List.toList_toArray, ↓rgd, ↓rgf, ↓reduceIte, Nat.reduceEqDiff, rg, ow_120, e0, e1, hs1, hs2, q1, hi, ixx, bu_fo1]
  have s3 := x3.size
  have hsl2' : SlV w3 2 sv2 (l.length - (i + 1)) (flat Ei (l.drop (i + 1))) := (hsl2.ext0 n2.ext).ext x3 fun b o c h k hk g => by
    have := hsl2.lt h
    omega
  refine do_append (by simp only [evt, evc, upd_eq, Nat.reduceEqDiff, ↓reduceIte, ntT, ntF] <;> rfl) (by simp only [evt, evc, upd_eq, Nat.reduceEqDiff, ↓reduceIte, ntT, ntF] <;> rfl) el_it rfl ni_i hS3 hsl2' (by omega) (by decide) (flat_oc Ei _) fun v4 w4 a4 => ?_
  obtain ⟨hS4, hg4, x4⟩ := app_since (B := w1.heap.size) a4 hg3 (by omega)
  refine ⟨.inr (keeps_on x4 fun y hy => ?_), ?_⟩
  · simp only [List.mem_cons, List.not_mem_nil, or_false] at hy
    exact ⟨by omega, fun o h => by omega⟩
  simp only [↓List.toList_toArray, ↓rgd, ↓rgf, ↓reduceIte, Nat.reduceEqDiff, rg, ow_120, e0, e1, hs1, hs2, q1, hi, ixx, bu_fo1]
  have s4 := x4.size
  have X4 : Ext (fun y _ => w.heap.size ≤ y) w w4 := ((n1.ext.mono (G := fun y _ => w.heap.size ≤ y) fun _ _ _ h => h.elim).tr (n2.ext.mono fun _ _ _ h => h.elim)).tr ((x3.tr x4).mono fun y o _ h => by omega)
  refine do_store (v := foV (x, true)) (by simp only [evt, evc, upd_eq, Nat.reduceEqDiff, ↓reduceIte, ntT, ntF] <;> rfl) (by simp only [evt, evc, upd_eq, Nat.reduceEqDiff, ↓reduceIte, ntT, ntF] <;> rfl) sz_35 rfl (x4.wok (x3.wok (n2.ext.wok n1.wok))) (by decide) (oc_fo _) fun w5 x5 r5 s5 => ⟨.inl trivial, ?_⟩
  simp only [↓List.toList_toArray, ↓rgd, ↓rgf, ↓reduceIte, Nat.reduceEqDiff, rg, ow_120]
  refine hK _ _ ?_; clear hK K
  refine W_ret ?_
  rw [hn]
  refine endQ_tc (by simp only [upd_eq, Nat.reduceEqDiff, ↓reduceIte] <;> rfl) (by simp only [upd_eq, Nat.reduceEqDiff, ↓reduceIte]) ld_35 (ld_fo r5) ⟨_, rfl, ?_, noF_of (Ext.refl _ _) (X4.tr (x5.mono fun y o _ h => by simp only [rng] at h; show w.heap.size ≤ y; omega)) fun y o hy h => by omega⟩
  have he : cutL l (i : Int) = l.take i ++ l.drop (i + 1) := by simp [cutL, List.eraseIdx_eq_take_drop_succ]
  have hln : (cutL l (i : Int)).length = 0 + i + (l.length - (i + 1)) := by rw [he, List.length_append, List.length_take, List.length_drop]; omega
  rw [SlI, hln, he, flat_append]
  have := hS4.ext x5 fun b o c h k hk g => by
    have := hg4 _ _ _ _ h
    simp only [rng] at g
    omega
  simpa using this
set_option maxHeartbeats 400000 in
set_option maxRecDepth 8000 in
theorem sat_any (l : List It) (lv : Value) (ix : Int) (w : World) (hl : SlI w lv l) (hbig : l.length ≤ 2147483648) :
    CallK Try.prog 81 #[lv, .int .i64 ix] w fun v w' => v = foV (foO (nth l ix)) ∧ Ext noF w w' := by
  refine calls_of_W [.cell 4 35] Try.func81 rfl Try.ntmps81 Try.results81 (by simp) fun e he => ?_
  have e0 : e 0 = lv := he 0 _ rfl
  have e1 : e 1 = .int .i64 ix := he 1 _ rfl
  clear he
  refine W_sq fun K hK => (W_text [false] (by kernel_rfl) ?_); simp only [↓List.toList_toArray, ↓rgd, ↓rgf, ↓reduceIte, Nat.reduceEqDiff, rg, ow_81]
  refine do_alloc z_fo fun w1 n1 => ⟨trivial, ?_⟩
  simp only [↓List.toList_toArray, ↓rgd, ↓rgf, ↓reduceIte, Nat.reduceEqDiff, rg, ow_81]
  refine hK _ _ ?_; clear hK K
  have s1 := n1.size
  refine W_sq fun K hK => (W_text [true, true, false, true, true, true, false, true, false] (by kernel_rfl) ?_); simp only [↓List.toList_toArray, ↓rgd, ↓rgf, ↓reduceIte, Nat.reduceEqDiff, rg, ow_81, e0, e1]
  refine do_call fn_120 (by simp only [evt, evc, upd_eq, Nat.reduceEqDiff, ↓reduceIte, maT, maC, maN, isnN, isnS] <;> rfl) (cut_any l lv ix w1 (hl.ext0 n1.ext) hbig) ?_
  rintro _ w2 ⟨sv, rfl, _, X2⟩
  refine ⟨trivial, ?_⟩
  simp only [↓List.toList_toArray, ↓rgd, ↓rgf, ↓reduceIte, Nat.reduceEqDiff, rg, ow_81]
  refine do_alloc z_fo fun w3 n3 => ⟨trivial, ?_⟩
  simp only [↓List.toList_toArray, ↓rgd, ↓rgf, ↓reduceIte, Nat.reduceEqDiff, rg, ow_81]
  have s2 := X2.size
  have s3 := n3.size
  refine do_store (v := foV (foO (nth l ix))) (by simp only [evt, evc, upd_eq, Nat.reduceEqDiff, ↓reduceIte, ntT, ntF] <;> rfl) (by simp only [evt, evc, upd_eq, Nat.reduceEqDiff, ↓reduceIte, ntT, ntF] <;> rfl) sz_35 rfl n3.wok (by decide) (oc_fo _) fun w4 x4 r4 s4 => ⟨trivial, ?_⟩
  simp only [↓List.toList_toArray, ↓rgd, ↓rgf, ↓reduceIte, Nat.reduceEqDiff, rg, ow_81]
  refine hK _ _ ?_; clear hK K
  have ld : rdA w4 w2.heap.size 0 3 = some (foV (foO (nth l ix))) := (show Row w4 w2.heap.size 0 (Ef.cel (foO (nth l ix))) from r4).rdA 3 (by simp [Ef])
  refine W_sq fun K hK => (W_text [true, false] (by kernel_rfl) ?_); simp only [↓List.toList_toArray, ↓rgd, ↓rgf, ↓reduceIte, Nat.reduceEqDiff, rg, ow_81, ld]
  refine do_store (v := foV (foO (nth l ix))) (by simp only [evt, evc, upd_eq, Nat.reduceEqDiff, ↓reduceIte, ntT, ntF] <;> rfl) (by simp only [evt, evc, upd_eq, Nat.reduceEqDiff, ↓reduceIte, ntT, ntF] <;> rfl) sz_35 rfl (x4.wok (n3.ext.wok (X2.wok n1.wok))) (by decide) (oc_fo _) fun w5 x5 r5 s5 => ⟨trivial, ?_⟩
  simp only [↓List.toList_toArray, ↓rgd, ↓rgf, ↓reduceIte, Nat.reduceEqDiff, rg, ow_81]
  refine hK _ _ ?_; clear hK K
  refine W_ret ?_
  refine endQ_c (by simp only [upd_eq, Nat.reduceEqDiff, ↓reduceIte]) ld_35 (ld_fo r5) ⟨rfl, ?_⟩
  have X4 : Ext noF w w4 := noF_of ((n1.ext.tr X2).tr n3.ext) x4 fun y o hy h => by simp only [rng] at h; omega
  exact noF_of X4 x5 fun y o hy h => by simp only [rng] at h; omega
end Go.Proofs.Ytbnnkcofnmipoaa
/-
  All items of a tree in their order. No condition.
-/
set_option linter.unusedSimpArgs false
set_option linter.unusedVariables false
namespace Go.Proofs.Ytbnnkcofnmipoaa
open Go Go.Proofs
theorem take_snoc {α : Type} {l : List α} {i : Nat} {x : α} (h : l[i]? = some x) : l.take (i + 1) = l.take i ++ [x] := by rw [List.take_add_one, h]; rfl
set_option maxHeartbeats 1000000 in
set_option maxRecDepth 8000 in
theorem nodeItems_any (m B : Nat) (iso : Int) (mn mx : Nat) (hmB : m < B) (mu : Bool) :
    ∀ (h b lo pc po : Nat) (xs : List It) (F : Nat → Nat → Prop) (iv : Value) (K : List It) (w : World), Tr E iso mn mx h w lo b xs F → rd w m 0 = some (.int .u64 iso) → rd w pc po = some (ptr b) → (∀ y o, F y o → y < B) →
      OutE E B iv K w → K.length + xs.length ≤ 4294967295 → B ≤ w.heap.size → pc < B →
    CallK Try.prog 118 #[ptr m, .pointer (some ⟨pc, po, none⟩), iv, .bool mu] w fun v w' => OutE E B v (K ++ xs) w' ∧ Ext (fun y _ => B ≤ y) w w' := by
  intro h
  induction h with
  | zero =>
    intro b lo pc po xs F iv K w ht h0 hp hG hS hb1 hB hpc
    obtain ⟨bi, oi, cap, ho, h1, h2, hF⟩ := ht
    have hGo : ∀ y o, ownF E b bi oi cap y o → y < B := fun y o g => hG y o ((hF y o).2 g)
    obtain ⟨ia, ic, hiv⟩ := hS.sl.shape
    refine calls_of_W [.tmp 8] Try.func118 rfl Try.ntmps118 Try.results118 (by simp) fun e he => ?_
    have e0 : e 0 = ptr m := he 0 _ rfl
    have e1 : e 1 = .pointer (some ⟨pc, po, none⟩) := he 1 _ rfl
    have e2 : e 2 = iv := he 2 _ rfl
    have e3 : e 3 = .bool mu := he 3 _ rfl
    clear he
    refine W_sq fun K hK => (W_text [true] (by kernel_rfl) ?_); simp only [↓List.toList_toArray, ↓rgd, ↓rgf, ↓reduceIte, Nat.reduceEqDiff, rg, ow_118]
    refine hK _ _ ?_; clear hK K
    refine W_sq fun K hK => (W_text [true, true, true, false, true] (by kernel_rfl) ?_); simp only [↓List.toList_toArray, ↓rgd, ↓rgf, ↓reduceIte, Nat.reduceEqDiff, rg, ow_118, e0, e1, e3]
    refine do_call fn_96 (by simp only [evt, evc, upd_eq, Nat.reduceEqDiff, ↓reduceIte, maT, maC, maN, isnN, isnS] <;> rfl) (isoLoad_any m pc po b mu iso w h0 hp ho.h0) ?_
    rintro _ w1 ⟨rfl, r1⟩
    refine ⟨trivial, ?_⟩
    simp only [↓List.toList_toArray, ↓rgd, ↓rgf, ↓reduceIte, Nat.reduceEqDiff, rg, ow_118]
    refine hK _ _ ?_; clear hK K
    have x1 : Ext noF w w1 := r1.ext
    have o1 := ho.ext x1 fun _ _ _ h => h
    have S1 := hS.ext x1
    have s1 := x1.size
    refine W_seq ?_
    refine W_sq fun K hK => (W_text [true, false] (by kernel_rfl) ?_); simp only [↓List.toList_toArray, ↓rgd, ↓rgf, ↓reduceIte, Nat.reduceEqDiff, rg, ow_118]
    refine do_call fn_108 (by simp only [evt, evc, upd_eq, Nat.reduceEqDiff, ↓reduceIte, maT, maC, maN, isnN, isnS] <;> rfl) (leaf_any b none w1 o1.h3) ?_
    rintro _ w1' ⟨rfl, hw1⟩
    obtain rfl : w1 = w1' := hw1.symm
    refine ⟨trivial, ?_⟩
    simp only [↓List.toList_toArray, ↓rgd, ↓rgf, ↓reduceIte, Nat.reduceEqDiff, rg, ow_118]
    refine hK _ _ ?_; clear hK K
    refine W_true (by simp only [evt, evc, upd_eq, Nat.reduceEqDiff, ↓reduceIte, ntT, ntF] <;> rfl) ?_
    have hb2 := o1.h2
    refine W_sq fun K hK => (W_text [true, true, true, true, true, false, true] (by kernel_rfl) ?_); simp only [↓List.toList_toArray, ↓rgd, ↓rgf, ↓reduceIte, Nat.reduceEqDiff, rg, ow_118, e2, ptr_eq, hb2]
    have hsl : SlV w1 2 (.slice (some ⟨bi, oi, none⟩) xs.length cap) xs.length (flat E xs) := ⟨by rw [flat_length]; rfl, .inr ⟨bi, oi, cap, rfl, ho.le, o1.row, o1.wi.R (Nat.le_refl _)⟩⟩
    refine do_append (by simp only [evt, evc, upd_eq, Nat.reduceEqDiff, ↓reduceIte, ntT, ntF] <;> rfl) (by simp only [evt, evc, upd_eq, Nat.reduceEqDiff, ↓reduceIte, ntT, ntF] <;> rfl) el_it rfl ni_25 S1.sl hsl (by omega) (by decide) (flat_oc E _) fun v2 w2 a2 => ⟨trivial, ?_⟩
    simp only [↓List.toList_toArray, ↓rgd, ↓rgf, ↓reduceIte, Nat.reduceEqDiff, rg, ow_118]
    refine hK _ _ ?_; clear hK K
    obtain ⟨q1, q2, q3⟩ := app_since a2 S1.si (by omega)
    refine W_ret ?_
    simp only [andThen_ret]
    refine endQ_1 (by simp only [upd_eq, Nat.reduceEqDiff, ↓reduceIte] <;> rfl) ⟨⟨?_, q2⟩, (x1.mono fun _ _ _ h => h.elim).tr q3⟩
    rw [List.length_append, flat_append]
    exact q1
  | succ h ih =>
    intro b lo pc po xs F iv K w ht h0 hp hG hS hb1 hB hpc
    obtain ⟨bi, oi, cap, bc, ba, oa, capc, ks, cs, ho, hk, h1, h2, hcs, rfl, hT, hA, hF⟩ := ht
    have hGo : ∀ y o, ownF E b bi oi cap y o → y < B := fun y o g => hG y o ((hF y o).2 (.inl g))
    have hGk : ∀ y o, kidF bc ba oa capc y o → y < B := fun y o g => hG y o ((hF y o).2 (.inr (.inl g)))
    have hGc : ∀ c ∈ cs, ∀ y o, c.F y o → y < B := fun c hc y o g => hG y o ((hF y o).2 (.inr (.inr ⟨c, hc, g⟩)))
    have hbaB : cs ≠ [] → ba < B := fun hne => hGk ba oa (.inr ⟨rfl, Nat.le_refl _, by have := hk.le; rw [List.length_map] at this; have := List.length_pos_iff.2 hne; omega⟩)
    have hwl := weave_length (cs.map Kid.xs) ks (by simpa using hcs)
    refine calls_of_W [.tmp 8] Try.func118 rfl Try.ntmps118 Try.results118 (by simp) fun e he => ?_
    have e0 : e 0 = ptr m := he 0 _ rfl
    have e1 : e 1 = .pointer (some ⟨pc, po, none⟩) := he 1 _ rfl
    have e2 : e 2 = iv := he 2 _ rfl
    have e3 : e 3 = .bool mu := he 3 _ rfl
    clear he
    refine W_sq fun K hK => (W_text [true] (by kernel_rfl) ?_); simp only [↓List.toList_toArray, ↓rgd, ↓rgf, ↓reduceIte, Nat.reduceEqDiff, rg, ow_118]
    refine hK _ _ ?_; clear hK K
    refine W_sq fun K hK => (W_text [true, true, true, false, true] (by kernel_rfl) ?_); simp only [↓List.toList_toArray, ↓rgd, ↓rgf, ↓reduceIte, Nat.reduceEqDiff, rg, ow_118, e0, e1, e3]
    refine do_call fn_96 (by simp only [evt, evc, upd_eq, Nat.reduceEqDiff, ↓reduceIte, maT, maC, maN, isnN, isnS] <;> rfl) (isoLoad_any m pc po b mu iso w h0 hp ho.h0) ?_
    rintro _ w1 ⟨rfl, r1⟩
    refine ⟨trivial, ?_⟩
    simp only [↓List.toList_toArray, ↓rgd, ↓rgf, ↓reduceIte, Nat.reduceEqDiff, rg, ow_118]
    refine hK _ _ ?_; clear hK K
    have x1 : Ext noF w w1 := r1.ext
    have o1 := ho.ext x1 fun _ _ _ h => h
    have S1 := hS.ext x1
    refine W_seq ?_
    refine W_sq fun K hK => (W_text [true, false] (by kernel_rfl) ?_); simp only [↓List.toList_toArray, ↓rgd, ↓rgf, ↓reduceIte, Nat.reduceEqDiff, rg, ow_118]
    refine do_call fn_108 (by simp only [evt, evc, upd_eq, Nat.reduceEqDiff, ↓reduceIte, maT, maC, maN, isnN, isnS] <;> rfl) (leaf_any b (some ⟨bc, 0, none⟩) w1 o1.h3) ?_
    rintro _ w1' ⟨rfl, hw1⟩
    obtain rfl : w1 = w1' := hw1.symm
    refine ⟨trivial, ?_⟩
    simp only [↓List.toList_toArray, ↓rgd, ↓rgf, ↓reduceIte, Nat.reduceEqDiff, rg, ow_118]
    refine hK _ _ ?_; clear hK K
    refine W_false (by simp only [evt, evc, upd_eq, Nat.reduceEqDiff, ↓reduceIte, ntT, ntF] <;> rfl) (W_skip ?_)
    show W _ _ _ _ _ _
    refine W_seq (W_seq ?_)
    refine W_rg fun K hK => (W_text [true] (by kernel_rfl) ?_); simp only [↓List.toList_toArray, ↓rgd, ↓rgf, ↓reduceIte, Nat.reduceEqDiff, rg, ow_118]
    refine hK _ _ ?_; clear hK K
    refine W_block (W_loop (fun mm e w' => ∃ (i : Nat) (K' : List It), mm = ks.length - i ∧ i ≤ ks.length ∧ K ++ weave (cs.map Kid.xs) ks = K' ++ weave ((cs.map Kid.xs).drop i) (ks.drop i) ∧
        OutE E B (e 2) K' w' ∧ Ext (fun y _ => B ≤ y) w w' ∧ e 0 = ptr m ∧ e 3 = .bool mu ∧ e 9 = ptr b ∧ e 10 = .int .i64 i)
      ks.length ⟨0, K, by simp, by simp, by simp, ?_, x1.mono fun _ _ _ h => h.elim, ?_, ?_, ?_, ?_⟩ ?_)
    · simp only [upd_eq, Nat.reduceEqDiff, ↓reduceIte]; rw [e2]; exact S1
    · simp only [upd_eq, Nat.reduceEqDiff, ↓reduceIte]; exact e0
    · simp only [upd_eq, Nat.reduceEqDiff, ↓reduceIte]; exact e3
    · simp only [upd_eq, Nat.reduceEqDiff, ↓reduceIte]
    · simp only [upd_eq, Nat.reduceEqDiff, ↓reduceIte]; rfl
    · clear e0 e1 e2 e3 e S1 o1
      rintro mm e w' ⟨i, K', rfl, hi, hKe, hkv, X, e0, e3, e9, e10⟩
      have hKl := congrArg List.length hKe
      simp only [List.length_append] at hKl
      have o' := ho.ext X fun y o g => by have := hGo y o g; omega
      have k' := hk.ext X fun y o g => by have := hGk y o g; omega
      have hb2 := o'.h2
      have hb3 := o'.h3
      have hc0 := k'.c0
      have sX := X.size
      have h0' := X.rd h0 (by omega)
      have hci : ∀ i, i < cs.length → ∃ c, cs[i]? = some c ∧ rd w' ba (oa + i) = some (ptr c.b) := fun i hi => by
        refine ⟨cs[i], List.getElem?_eq_getElem hi, k'.row i _ ?_⟩
        rw [List.getElem?_map, List.getElem?_map, List.getElem?_eq_getElem hi]; rfl
      rw [List.length_map] at hc0
      have hba := hbaB (by intro h; rw [h] at hcs; simp at hcs)
      refine W_seq ?_
      by_cases hlt : i < ks.length
      · have ht := lt_tt i ks.length hlt
        refine W_sq fun K hK => (W_text [true, true, true, true, true, true, true] (by kernel_rfl) ?_); simp only [↓List.toList_toArray, ↓rgd, ↓rgf, ↓reduceIte, Nat.reduceEqDiff, rg, ow_118, e9, e10, ptr_eq, hb2, ht]
        refine hK _ _ ?_; clear hK K
        refine W_true (by simp only [evt, evc, upd_eq, Nat.reduceEqDiff, ↓reduceIte, ntT, ntF] <;> rfl) (W_skip ?_)
        show W _ _ _ _ _ _
        refine W_seq (W_block ?_)
        obtain ⟨c, hc, hcr⟩ := hci i (by omega)
        have hcm : c ∈ cs := List.mem_of_getElem? hc
        obtain ⟨x, hx⟩ : ∃ x, ks[i]? = some x := ⟨_, List.getElem?_eq_getElem hlt⟩
        have hlc : i < cs.length := by omega
        rw [weave_step (c := c.xs) (by rw [List.getElem?_map, hc]; rfl) hx] at hKe hKl
        simp only [List.length_append, List.length_cons] at hKl
        refine W_sq fun K hK => (W_text [true, true, true, true, true, true, true, true, true, true, true, false, true] (by kernel_rfl) ?_); simp only [↓List.toList_toArray, ↓rgd, ↓rgf, ↓reduceIte, Nat.reduceEqDiff, rg, ow_118, e0, e3, e9, e10, ptr_eq, hb3, hc0, hlc]
        refine do_call fn_118 (by simp only [evt, evc, upd_eq, Nat.reduceEqDiff, ↓reduceIte, maT, maC, maN, isnN, isnS] <;> rfl) (ih c.b mn ba (oa + i) c.xs c.F (e 2) K' _ ((hT c hcm).ext X fun y o g => by have := hGc c hcm y o g; omega) h0' hcr (hGc c hcm) hkv (by omega) (by omega) hba) ?_
        rintro iv2 w2 ⟨H2, X2⟩
        refine ⟨trivial, ?_⟩
        simp only [↓List.toList_toArray, ↓rgd, ↓rgf, ↓reduceIte, Nat.reduceEqDiff, rg, ow_118]
        refine hK _ _ ?_; clear hK K
        have s2 := X2.size
        have o2 := o'.ext X2 fun y o g => by have := hGo y o g; omega
        have hb2' := o2.h2
        have hk2 := it_at o2.row hx
        refine W_rg fun K hK => (W_text [true, true, true, true, true, true, true, true, false, false, true] (by kernel_rfl) ?_); simp only [↓List.toList_toArray, ↓rgd, ↓rgf, ↓reduceIte, Nat.reduceEqDiff, rg, ow_118, e9, e10, ptr_eq, hb2', hlt, hk2]
        refine do_bsl rfl (bs_it1 x) fun w3 n3 => ⟨trivial, ?_⟩
        simp only [↓List.toList_toArray, ↓rgd, ↓rgf, ↓reduceIte, Nat.reduceEqDiff, rg, ow_118]
        have H3 := H2.ext n3.ext
        have s3 := n3.size
        have z3 : SlV w3 2 (.slice (some ⟨w2.heap.size, 0, none⟩) 1 1) 1 (E.cel x) := ⟨rfl, .inr ⟨_, 0, 1, rfl, Nat.le_refl _, n3.row, n3.wok.R (Nat.le_refl _)⟩⟩
        refine do_append (by simp only [evt, evc, upd_eq, Nat.reduceEqDiff, ↓reduceIte, ntT, ntF] <;> rfl) (by simp only [evt, evc, upd_eq, Nat.reduceEqDiff, ↓reduceIte, ntT, ntF] <;> rfl) el_it rfl ni_25 H3.sl z3 (by simp; omega) (by decide) (E.one _) fun v4 w4 a4 => ⟨trivial, ?_⟩
        obtain ⟨H4, X4⟩ := H3.app a4 (by omega)
        simp only [↓List.toList_toArray, ↓rgd, ↓rgf, ↓reduceIte, Nat.reduceEqDiff, rg, ow_118]
        refine hK _ _ ?_; clear hK K
        have s4 := X4.size
        have X4' : Ext (fun y _ => B ≤ y) w2 w4 := (n3.ext.mono fun _ _ _ h => h.elim).tr X4
        show W _ _ _ _ _ _
        have q1 := wadd1 i (by omega)
        refine W_rg fun K hK => (W_text [true, true, true] (by kernel_rfl) ?_); simp only [↓List.toList_toArray, ↓rgd, ↓rgf, ↓reduceIte, Nat.reduceEqDiff, rg, ow_118, e10, q1]
        refine hK _ _ ?_; clear hK K
        refine ⟨_, ?_, i + 1, K' ++ c.xs ++ [x], rfl, hlt, ?_, ?_, (X.tr X2).tr X4', ?_, ?_, ?_, ?_⟩
        · omega
        · rw [hKe]; simp
        · simp only [upd_eq, Nat.reduceEqDiff, ↓reduceIte]; exact H4
        · simp only [upd_eq, Nat.reduceEqDiff, ↓reduceIte]; exact e0
        · simp only [upd_eq, Nat.reduceEqDiff, ↓reduceIte]; exact e3
        · simp only [upd_eq, Nat.reduceEqDiff, ↓reduceIte]; exact e9
        · simp only [upd_eq, Nat.reduceEqDiff, ↓reduceIte]
      · obtain rfl : i = ks.length := by omega
        have ht := lt_ff ks.length ks.length (by omega)
        refine W_sq fun K hK => (W_text [true, true, true, true, true, true, true] (by kernel_rfl) ?_); simp only [↓List.toList_toArray, ↓rgd, ↓rgf, ↓reduceIte, Nat.reduceEqDiff, rg, ow_118, e9, e10, ptr_eq, hb2, ht]
        refine hK _ _ ?_; clear hK K
        refine W_false (by simp only [evt, evc, upd_eq, Nat.reduceEqDiff, ↓reduceIte, ntT, ntF] <;> rfl) (W_exit ?_)
        simp only [andThen_exit, inBlk_exit, ↓reduceIte]
        show W _ _ _ _ _ _
        obtain ⟨c, hc, hcr⟩ := hci ks.length (by omega)
        have hcm : c ∈ cs := List.mem_of_getElem? hc
        rw [weave_last (c := c.xs) (by simpa using hcs) (by rw [List.getElem?_map, hc]; rfl)] at hKe hKl
        have hlc : cs.length - 1 < cs.length := by omega
        have hl1 : cs.length - 1 = ks.length := by omega
        have q1 := wsub1 cs.length (by omega) (by omega)
        have M1 : readsB (some (some [b, bc, ba])) b = true := by simp [readsB]
        have M2 : readsB (some (some [b, bc, ba])) bc = true := by simp [readsB]
        have M3 : readsB (some (some [b, bc, ba])) ba = true := by simp [readsB]
        refine W_sq fun K hK => (W_draw (some (some [b, bc, ba])) none [(0, 0, 0), (0, 1, 0), (0, 2, 0), (0, 3, 0), (0, 4, 0), (0, 5, 0), (0, 6, 0), (0, 7, 0), (0, 8, 0), (0, 9, 0), (0, 10, 0), (0, 11, 0), (0, 12, 0), (0, 13, 0), (0, 14, 0), (0, 15, 0), (0, 16, 0), (0, 17, 0), (1, 18, 0), (0, 19, 0)] mixed (by kernel_rfl) ?_); simp only [↓List.toList_toArray, ↓rgd, ↓rgf, ↓reduceIte, Nat.reduceEqDiff, rg, ow_118, e0, e3, e9, ptr_eq, hb3, hc0, q1, hlc, M1, M2, M3]
        rw [hl1]
        refine do_call fn_118 (by simp only [evt, evc, upd_eq, Nat.reduceEqDiff, ↓reduceIte, maT, maC, maN, isnN, isnS] <;> rfl) (ih c.b mn ba (oa + ks.length) c.xs c.F (e 2) K' _ ((hT c hcm).ext (X.tr (Ext.dr _ _ _)) fun y o g => by have := hGc c hcm y o g; omega) h0' hcr (hGc c hcm) (hkv.ext (Ext.dr _ _ _)) (by omega) (by rw [sz_dr]; omega) hba) ?_
        rintro iv2 w2 ⟨H2, X2⟩
        refine ⟨.inr (keeps_on X2 fun y hy => ?_), ?_⟩
        · rw [sz_dr]
          simp only [List.mem_cons, List.not_mem_nil, or_false] at hy
          rcases hy with rfl | rfl | rfl
          · exact ⟨wok_lt o'.wb, fun o g => by have := hGo _ 0 (.inl rfl); omega⟩
          · exact ⟨wok_lt k'.wc, fun o g => by have := hGk _ 0 (.inl rfl); omega⟩
          · exact ⟨wok_lt k'.wa, fun o g => by omega⟩
        simp only [↓List.toList_toArray, ↓rgd, ↓rgf, ↓reduceIte, Nat.reduceEqDiff, rg, ow_118]
        refine hK _ _ ?_; clear hK K
        refine W_ret ?_
        refine endQ_1 (by simp only [upd_eq, Nat.reduceEqDiff, ↓reduceIte] <;> rfl) ⟨?_, X.tr X2.od⟩
        rw [hKe]
        exact H2
set_option maxRecDepth 8000 in
theorem len_any (m : Nat) (n : Nat) (w : World) (h : rd w m 3 = some (.int .i64 n)) : CallK Try.prog 71 #[ptr m] w fun v w' => v = .int .i64 n ∧ w = w' := by
  refine calls_of_W [.tmp 2] Try.func71 rfl Try.ntmps71 Try.results71 (by simp) fun e he => ?_
  have e0 : e 0 = ptr m := he 0 _ rfl
  clear he
  refine W_sq fun K hK => (W_text [true] (by kernel_rfl) ?_); simp only [↓List.toList_toArray, ↓rgd, ↓rgf, ↓reduceIte, Nat.reduceEqDiff, rg, ow_71]
  refine hK _ _ ?_; clear hK K
  refine W_sq fun K hK => (W_text [true, true, true, true, true] (by kernel_rfl) ?_); simp only [↓List.toList_toArray, ↓rgd, ↓rgf, ↓reduceIte, Nat.reduceEqDiff, rg, ow_71, e0, ptr_eq, h]
  refine hK _ _ ?_; clear hK K
  exact W_ret (endQ_1 (by simp only [upd_eq, Nat.reduceEqDiff, ↓reduceIte] <;> rfl) ⟨rfl, rfl⟩)
set_option maxHeartbeats 400000 in
set_option maxRecDepth 8000 in
theorem items_any (B m d : Nat) (ord : List Int) (iso : Int) (xs : List It) (F : Nat → Nat → Prop) (mu : Bool) (w : World) (hM : TreeAt B ord w m d iso xs F) (hbig : xs.length ≤ 4294967295) :
    CallK Try.prog 77 #[ptr m, .bool mu] w fun v w' => OutE E w.heap.size v xs w' ∧ Ext noF w w' := by
  have hml := hM.mlt
  refine calls_of_W [.tmp 4] Try.func77 rfl Try.ntmps77 Try.results77 (by simp) fun e he => ?_
  have e0 : e 0 = ptr m := he 0 _ rfl
  have e1 : e 1 = .bool mu := he 1 _ rfl
  clear he
  refine W_sq fun K hK => (W_text [true] (by kernel_rfl) ?_); simp only [↓List.toList_toArray, ↓rgd, ↓rgf, ↓reduceIte, Nat.reduceEqDiff, rg, ow_77]
  refine hK _ _ ?_; clear hK K
  refine W_seq ?_
  refine W_sq fun K hK => (W_text [true, true, false] (by kernel_rfl) ?_); simp only [↓List.toList_toArray, ↓rgd, ↓rgf, ↓reduceIte, Nat.reduceEqDiff, rg, ow_77, e0, e1]
  refine do_call fn_91 (by simp only [evt, evc, upd_eq, Nat.reduceEqDiff, ↓reduceIte, maT, maC, maN, isnN, isnS] <;> rfl) (lock_any _ _ w) ?_
  rintro _ _ ⟨rfl, rfl⟩
  refine ⟨trivial, ?_⟩
  simp only [↓List.toList_toArray, ↓rgd, ↓rgf, ↓reduceIte, Nat.reduceEqDiff, rg, ow_77]
  refine hK _ _ ?_; clear hK K
  refine W_false (by simp only [evt, evc, upd_eq, Nat.reduceEqDiff, ↓reduceIte, ntT, ntF] <;> rfl) (W_skip ?_)
  show W _ _ _ _ _ _
  refine W_sq fun K hK => (W_text [true, false, false, true] (by kernel_rfl) ?_); simp only [↓List.toList_toArray, ↓rgd, ↓rgf, ↓reduceIte, Nat.reduceEqDiff, rg, ow_77, e0]
  refine do_call fn_71 (by simp only [evt, evc, upd_eq, Nat.reduceEqDiff, ↓reduceIte, maT, maC, maN, isnN, isnS] <;> rfl) (len_any m xs.length w hM.cnt) ?_
  rintro _ _ ⟨rfl, rfl⟩
  refine ⟨trivial, ?_⟩
  simp only [↓List.toList_toArray, ↓rgd, ↓rgf, ↓reduceIte, Nat.reduceEqDiff, rg, ow_77]
  refine do_make (n := 0) (c := xs.length) (by simp only [evt, evc, upd_eq, Nat.reduceEqDiff, ↓reduceIte, ntT, ntF] <;> rfl) (by simp only [evt, evc, upd_eq, Nat.reduceEqDiff, ↓reduceIte, ntT, ntF] <;> rfl) el_it rfl (by omega) (by omega) (by omega) fun w1 l1 hl1 n1 => ⟨trivial, ?_⟩
  simp only [↓List.toList_toArray, ↓rgd, ↓rgf, ↓reduceIte, Nat.reduceEqDiff, rg, ow_77]
  refine hK _ _ ?_; clear hK K
  have s1 := n1.size
  have hO : OutE E w.heap.size (.slice (some ⟨w.heap.size, 0, none⟩) 0 xs.length) [] w1 := by
    refine ⟨⟨rfl, .inr ⟨_, 0, _, rfl, Nat.zero_le _, Row.nil _ _ _, n1.wok.R (by rw [hl1, E_sz]; omega)⟩⟩, fun b o n c h => by cases h; exact Nat.le_refl _⟩
  have hM1 := hM.ext n1.ext
  refine W_seq ?_
  rcases hM1.root with ⟨rfl, hr⟩ | ⟨h, b, hr, ht⟩
  · refine W_sq fun K hK => (W_text [true, true, true, true, true] (by kernel_rfl) ?_); simp only [↓List.toList_toArray, ↓rgd, ↓rgf, ↓reduceIte, Nat.reduceEqDiff, rg, ow_77, e0, ptr_eq, hr]
    refine hK _ _ ?_; clear hK K
    refine W_false (by simp only [evt, evc, upd_eq, Nat.reduceEqDiff, ↓reduceIte, ntT, ntF] <;> rfl) (W_skip ?_)
    show W _ _ _ _ _ _
    refine W_sq fun K hK => (W_text [true, true] (by kernel_rfl) ?_); simp only [↓List.toList_toArray, ↓rgd, ↓rgf, ↓reduceIte, Nat.reduceEqDiff, rg, ow_77]
    refine hK _ _ ?_; clear hK K
    exact W_ret (endQ_1 (by simp only [upd_eq, Nat.reduceEqDiff, ↓reduceIte] <;> rfl) ⟨hO, n1.ext⟩)
  · refine W_sq fun K hK => (W_text [true, true, true, true, true] (by kernel_rfl) ?_); simp only [↓List.toList_toArray, ↓rgd, ↓rgf, ↓reduceIte, Nat.reduceEqDiff, rg, ow_77, e0, ptr_eq, hr]
    refine hK _ _ ?_; clear hK K
    refine W_true (by simp only [evt, evc, upd_eq, Nat.reduceEqDiff, ↓reduceIte, ntT, ntF] <;> rfl) ?_
    refine W_rg fun K hK => (W_text [true, true, true, true, true, true, false, true] (by kernel_rfl) ?_); simp only [↓List.toList_toArray, ↓rgd, ↓rgf, ↓reduceIte, Nat.reduceEqDiff, rg, ow_77, e0, e1, ptr_eq]
    refine do_call fn_118 (by simp only [evt, evc, upd_eq, Nat.reduceEqDiff, ↓reduceIte, maT, maC, maN, isnN, isnS] <;> rfl) (nodeItems_any m w.heap.size iso (d - 1) (2 * d - 1) hml mu h b 1 m 2 xs F _ [] w1 ht hM1.cfg.iso hr hM.lt hO (by simp; omega) (by omega) hml) ?_
    rintro v2 w2 ⟨hO2, X2⟩
    refine ⟨trivial, ?_⟩
    simp only [↓List.toList_toArray, ↓rgd, ↓rgf, ↓reduceIte, Nat.reduceEqDiff, rg, ow_77]
    refine hK _ _ ?_; clear hK K
    show W _ _ _ _ _ _
    refine W_sq fun K hK => (W_text [true, true] (by kernel_rfl) ?_); simp only [↓List.toList_toArray, ↓rgd, ↓rgf, ↓reduceIte, Nat.reduceEqDiff, rg, ow_77]
    refine hK _ _ ?_; clear hK K
    exact W_ret (endQ_1 (by simp only [upd_eq, Nat.reduceEqDiff, ↓reduceIte] <;> rfl) ⟨hO2, noF_of n1.ext X2 fun y o hy g => by omega⟩)
set_option maxRecDepth 8000 in
theorem itemsG_any (B m d : Nat) (ord : List Int) (iso : Int) (xs : List It) (F : Nat → Nat → Prop) (w : World) (hM : TreeAt B ord w m d iso xs F) (hbig : xs.length ≤ 4294967295) :
    CallK Try.prog 46 #[ptr m] w fun v w' => OutE E w.heap.size v xs w' ∧ Ext noF w w' := by
  refine calls_of_W [.tmp 2] Try.func46 rfl Try.ntmps46 Try.results46 (by simp) fun e he => ?_
  have e0 : e 0 = ptr m := he 0 _ rfl
  clear he
  refine W_sq fun K hK => (W_text [true] (by kernel_rfl) ?_); simp only [↓List.toList_toArray, ↓rgd, ↓rgf, ↓reduceIte, Nat.reduceEqDiff, rg, ow_46]
  refine hK _ _ ?_; clear hK K
  refine W_sq fun K hK => (W_text [true, false, true] (by kernel_rfl) ?_); simp only [↓List.toList_toArray, ↓rgd, ↓rgf, ↓reduceIte, Nat.reduceEqDiff, rg, ow_46, e0]
  refine do_call fn_77 (by simp only [evt, evc, upd_eq, Nat.reduceEqDiff, ↓reduceIte, maT, maC, maN, isnN, isnS] <;> rfl) (items_any B m d ord iso xs F false w hM hbig) ?_
  rintro v1 w1 h1
  refine ⟨trivial, ?_⟩
  simp only [↓List.toList_toArray, ↓rgd, ↓rgf, ↓reduceIte, Nat.reduceEqDiff, rg, ow_46]
  refine hK _ _ ?_; clear hK K
  exact W_ret (endQ_1 (by simp only [upd_eq, Nat.reduceEqDiff, ↓reduceIte] <;> rfl) h1)
end Go.Proofs.Ytbnnkcofnmipoaa
/-
  Replies: an item and whether there was one. No condition.
-/
set_option linter.unusedSimpArgs false
set_option linter.unusedVariables false
namespace Go.Proofs.Ytbnnkcofnmipoaa
open Go Go.Proofs
theorem nth_first (l : List It) : nth l 0 = l.head? := by
  unfold nth
  rw [if_pos (Int.le_refl _), List.head?_eq_getElem?]
  rfl
theorem foP_gotG (x : Option It) : foP (x.getD zIt) x.isSome = foO x := by cases x <;> rfl
theorem eq_f0 (a b : Int) (c : Bool) : binV Try.prog .eql 35 (.agg #[.int .i64 a, .int .i64 b, .bool c]) (.agg #[.int .i64 a, .int .i64 b, .bool c]) = some (.bool ((a == a && (b == b && true)) && (c == c && true))) := by kernel_rfl
theorem eq_fo (x : It × Bool) : binV Try.prog .eql 35 (foV x) (foV x) = some (.bool true) := by rw [foV, eq_f0]; simp
theorem el_fo : elK Try.prog 28 = some (35, 3, 24, [.int .i64 0, .int .i64 0, .bool false]) := by kernel_rfl
theorem ni_fo : noInt Try.prog 28 = true := by kernel_rfl
theorem bs_fo1 (x : It × Bool) : bsV Try.prog 28 1 [(0, foV x)] = some (35, Ef.cel x) := by kernel_rfl
/-- A list that is made of replies, in new memory. -/
structure Outs (B : Nat) (v : Value) (l : List (It × Bool)) (w : World) : Prop where
  sl : SlV w 3 v l.length (flat Ef l)
  si : since B v
theorem Outs.ext {B : Nat} {v : Value} {l : List (It × Bool)} {w w' : World} (h : Outs B v l w) (x : Ext noF w w') : Outs B v l w' := ⟨h.sl.ext0 x, h.si⟩
theorem Outs.nil (B : Nat) (w : World) : Outs B (.slice none 0 0) [] w := ⟨⟨rfl, .inl ⟨rfl, rfl⟩⟩, fun b o n c h => by cases h⟩
theorem Outs.app {B : Nat} {v v' : Value} {l : List (It × Bool)} {x : It × Bool} {w w' : World} (h : Outs B v l w) (a : AppRes w 3 v l.length 1 (flat Ef l) (Ef.cel x) v' w') (hB : B ≤ w.heap.size) : Outs B v' (l ++ [x]) w' ∧ Ext (fun y _ => B ≤ y) w w' := by
  obtain ⟨h1, h2, h3⟩ := app_since a h.si hB
  refine ⟨⟨?_, h2⟩, h3⟩
  rw [List.length_append, List.length_singleton, flat_append, flat_one]
  exact h1
end Go.Proofs.Ytbnnkcofnmipoaa
/-
  The moves of an iterator with what they keep. No condition.
-/
set_option linter.unusedSimpArgs false
set_option linter.unusedVariables false
namespace Go.Proofs.Ytbnnkcofnmipoaa
open Go Go.Proofs
theorem z_hint : zK Try.prog 109 = some [.bool false, .bool false, .bool false, .bool false, .bool false, .bool false, .bool false, .bool false, .int .u8 0, .int .u8 0, .int .u8 0, .int .u8 0, .int .u8 0, .int .u8 0, .int .u8 0, .int .u8 0] := by kernel_rfl
theorem hint_new {w w' : World} (h : New w w' [.bool false, .bool false, .bool false, .bool false, .bool false, .bool false, .bool false, .bool false, .int .u8 0, .int .u8 0, .int .u8 0, .int .u8 0, .int .u8 0, .int .u8 0, .int .u8 0, .int .u8 0]) : HintAt w' w.heap.size := by
  refine ⟨h.wok, fun i hi => ⟨false, ?_⟩, fun i hi => ⟨0, by omega, ?_⟩⟩
  · have : i = 0 ∨ i = 1 ∨ i = 2 ∨ i = 3 ∨ i = 4 ∨ i = 5 ∨ i = 6 ∨ i = 7 := by omega
    have := h.row i (.bool false) (by rcases this with rfl | rfl | rfl | rfl | rfl | rfl | rfl | rfl <;> rfl)
    rwa [Nat.zero_add] at this
  · have : i = 0 ∨ i = 1 ∨ i = 2 ∨ i = 3 ∨ i = 4 ∨ i = 5 ∨ i = 6 ∨ i = 7 := by omega
    have := h.row (8 + i) (.int .u8 0) (by rcases this with rfl | rfl | rfl | rfl | rfl | rfl | rfl | rfl <;> rfl)
    rwa [Nat.zero_add] at this
/-- Moves as cells. -/
def Em : Enc (Int × It) where
  cel x := [.int .i64 x.1, .int .i64 x.2.1, .int .i64 x.2.2]
  sz := 3
  len _ := rfl
  one x v hv := by simp at hv; rcases hv with rfl | rfl | rfl <;> rfl
  pos := by decide
def mvV (x : Int × It) : Value := .agg #[.int .i64 x.1, .int .i64 x.2.1, .int .i64 x.2.2]
theorem mv_at {w : World} {b o : Nat} {l : List (Int × It)} (h : Row w b o (flat Em l)) {i : Nat} {x : Int × It} (hi : l[i]? = some x) : rdA w b (o + i * 3) 3 = some (mvV x) :=
  (row_at Em h hi).rdA 3 (by simp [Em])
theorem z_mv : zK Try.prog 46 = some [.int .i64 0, .int .i64 0, .int .i64 0] := by kernel_rfl
/-- What holds all the while. -/
structure Bs (B m : Nat) (F : Nat → Nat → Prop) (ib sb0 hb : Nat) (w1 : World) : Prop where
  off : ∀ y o, (y = ib ∨ y = sb0 ∨ w1.heap.size ≤ y) → Far B m y ∧ ¬ F y o
  il : ib < w1.heap.size
  sl : sb0 < w1.heap.size
  hl : w1.heap.size ≤ hb
/-- An iterator at p, a hint, what was answered so far. -/
structure MvS (B : Nat) (ord : List Int) (m d : Nat) (iso : Int) (X : List It) (F : Nat → Nat → Prop) (mu : Bool) (ib sb0 hb : Nat) (w1 : World) (ov : Value) (P : List (Option It)) (p : Option Nat) (w : World) : Prop where
  ex : ∃ full sb so cap, ItS ib m mu full sb so cap w ∧ PosT m d iso X F ib w full p ∧ (sb = sb0 ∨ w1.heap.size ≤ sb) ∧ sb ≠ hb ∧ ∀ b o n c, ov = .slice (some ⟨b, o, none⟩) n c → b ≠ sb
  tree : TreeAt B ord w m d iso X F
  hint : HOk (some hb) w
  out : Outs w1.heap.size ov (P.map foO) w
  oh : ∀ b o n c, ov = .slice (some ⟨b, o, none⟩) n c → b ≠ hb
  ext : Ext (fun y _ => y = ib ∨ y = sb0 ∨ w1.heap.size ≤ y) w1 w
theorem MvS.ext0 {B : Nat} {ord : List Int} {m d : Nat} {iso : Int} {X : List It} {F : Nat → Nat → Prop} {mu : Bool} {ib sb0 hb : Nat} {w1 : World} {ov : Value} {P : List (Option It)} {p : Option Nat} {w w' : World} (s : MvS B ord m d iso X F mu ib sb0 hb w1 ov P p w) (x : Ext noF w w') : MvS B ord m d iso X F mu ib sb0 hb w1 ov P p w' := by
  obtain ⟨⟨full, sb, so, cap, h1, h2, h3, h4, h5⟩, g2, g3, g4, g5, g6⟩ := s
  exact ⟨⟨full, sb, so, cap, h1.ext0 x, h2.ext x (fun h => h) (fun h => h) (fun _ _ _ h => h), h3, h4, h5⟩, g2.ext x, g3.ext0 x, g4.ext x, g5, g6.tr (x.mono fun _ _ _ g => g.elim)⟩
theorem Outs.blt {B : Nat} {v : Value} {l : List (It × Bool)} {w : World} (h : Outs B v l w) {b o n c : Nat} (hv : v = .slice (some ⟨b, o, none⟩) n c) : b < w.heap.size := by
  rcases h.sl.2 with ⟨g, _⟩ | ⟨b', o', c', g, _, _, hw⟩
  · rw [hv] at g; cases g
  · rw [hv] at g
    simp only [Value.slice.injEq, Option.some.injEq, Addr.mk.injEq, and_true] at g
    rw [g.1.1]; exact wokR_lt hw
/-- Behind a move. -/
theorem MvS.after {B : Nat} {ord : List Int} {m d : Nat} {iso : Int} {X : List It} {F : Nat → Nat → Prop} {mu : Bool} {ib sb0 hb : Nat} {w1 : World} {ov : Value} {P : List (Option It)} {p : Option Nat} {p' : Option Nat} {v : Value} {w w' : World} {HG : Nat → Nat → Prop} {full : List (Nat × Int)} {sb so cap : Nat} (s : MvS B ord m d iso X F mu ib sb0 hb w1 ov P p w) (bs : Bs B m F ib sb0 hb w1) (hI : ItS ib m mu full sb so cap w) (hs : sb = sb0 ∨ w1.heap.size ≤ sb) (hsb : sb ≠ hb) (hob : ∀ b o n c, ov = .slice (some ⟨b, o, none⟩) n c → b ≠ sb)
    (q : MvQ B ord m d iso X F HG mu ib sb w p' v w') (hg : ∀ y o, HG y o → hb = y) (HH : HOk (some hb) w') : MvS B ord m d iso X F mu ib sb0 hb w1 ov P p' w' := by
  obtain ⟨-, -, T, ⟨full', ⟨sb', so', cap', hI', hs', x⟩, hp'⟩, -⟩ := q
  have sx := s.ext.size
  have hbl := wok_lt (s.hint hb rfl).wok
  have hil := bs.il
  have hhl := bs.hl
  refine ⟨⟨full', sb', so', cap', hI', hp', by omega, by omega, fun b o n c hv => ?_⟩, T, HH, ⟨s.out.sl.ext x fun b o cp hv j _ g => ?_, s.out.si⟩, s.oh, s.ext.trans x (fun _ _ g => g) fun y o hy g => ?_⟩
  · have := s.out.blt hv
    have := hob b o n c hv
    omega
  · have h1 := s.out.si _ _ _ _ hv
    have h2 := hob _ _ _ _ hv
    have h3 := s.oh _ _ _ _ hv
    rcases g with g | g | g
    · omega
    · exact h2 g
    · exact h3 (hg _ _ g).symm
  · rcases g with g | g | g
    · exact .inl g
    · rcases hs with h | h
      · exact .inr (.inl (g.trans h))
      · exact .inr (.inr (by omega))
    · have := hg _ _ g; exact .inr (.inr (by omega))
theorem MvS.g {B : Nat} {ord : List Int} {m d : Nat} {iso : Int} {X : List It} {F : Nat → Nat → Prop} {mu : Bool} {ib sb0 hb : Nat} {w1 : World} {ov : Value} {P : List (Option It)} {p : Option Nat} {w : World} {HG : Nat → Nat → Prop} {sb : Nat} (s : MvS B ord m d iso X F mu ib sb0 hb w1 ov P p w) (bs : Bs B m F ib sb0 hb w1) (hs : sb = sb0 ∨ w1.heap.size ≤ sb) (hg : ∀ y o, HG y o → hb = y) : ∀ y o, itF HG ib sb y o → Far B m y ∧ ¬ F y o := fun y o g => by
  have hhl := bs.hl
  refine bs.off y o ?_
  rcases g with g | g | g
  · exact .inl g
  · omega
  · have := hg _ _ g; omega
/-- A move without a hint keeps the hint. -/
theorem MvS.hk {B : Nat} {ord : List Int} {m d : Nat} {iso : Int} {X : List It} {F : Nat → Nat → Prop} {mu : Bool} {ib sb0 hb : Nat} {w1 : World} {ov : Value} {P : List (Option It)} {p : Option Nat} {p' : Option Nat} {v : Value} {w w' : World} {sb : Nat} (s : MvS B ord m d iso X F mu ib sb0 hb w1 ov P p w) (bs : Bs B m F ib sb0 hb w1) (hsb : sb ≠ hb) (q : MvQ B ord m d iso X F noF mu ib sb w p' v w') : HOk (some hb) w' := by
  obtain ⟨_, _, _, ⟨_, i, _⟩, _⟩ := q
  have hil := bs.il
  have hhl := bs.hl
  exact s.hint.ext i.x fun hb' hh o g => by
    cases hh
    rcases g with g | g | g
    · omega
    · exact hsb g.symm
    · exact g
/-- One more answer. -/
theorem MvS.app {B : Nat} {ord : List Int} {m d : Nat} {iso : Int} {X : List It} {F : Nat → Nat → Prop} {mu : Bool} {ib sb0 hb : Nat} {w1 : World} {ov : Value} {P : List (Option It)} {p : Option Nat} {ov' : Value} {q : Option It} {w w' : World} (s : MvS B ord m d iso X F mu ib sb0 hb w1 ov P p w) (bs : Bs B m F ib sb0 hb w1) (a : AppRes w 3 ov (P.map foO).length 1 (flat Ef (P.map foO)) (Ef.cel (foO q)) ov' w') : MvS B ord m d iso X F mu ib sb0 hb w1 ov' (P ++ [q]) p w' := by
  have sx := s.ext.size
  obtain ⟨hO, -⟩ := s.out.app a sx
  have hO : Outs w1.heap.size ov' ((P ++ [q]).map foO) w' := by rw [List.map_append, List.map_singleton]; exact hO
  have hbl := wok_lt (s.hint hb rfl).wok
  obtain ⟨⟨full, sb, so, cap, h1, h2, h3, h4, h5⟩, g2, g3, g4, g5, g6⟩ := s
  have hil := bs.il
  have hsbl := wok_lt h1.st.wi
  have key : ∃ G : Nat → Nat → Prop, Ext G w w' ∧ (∀ y o, G y o → y ≠ ib ∧ y ≠ sb ∧ y ≠ hb ∧ w1.heap.size ≤ y) ∧ ∀ b o n c, ov' = .slice (some ⟨b, o, none⟩) n c → b ≠ sb ∧ b ≠ hb := by
    rcases a.2 with ⟨rfl, rfl, h⟩ | ⟨b0, o0, c0, rfl, rfl, x, hz, _⟩ | ⟨c0, rfl, x, hz, _⟩
    · exact ⟨noF, Ext.refl _ _, fun _ _ g => g.elim, fun b o n c hv => ⟨h5 b o n c hv, g5 b o n c hv⟩⟩
    · have e1 := h5 _ _ _ _ rfl
      have e2 := g5 _ _ _ _ rfl
      have e3 := g4.si _ _ _ _ rfl
      refine ⟨_, x, fun y o g => ?_, fun b o n c hv => ?_⟩
      · have := g.1; refine ⟨by omega, by omega, by omega, by omega⟩
      · simp only [Value.slice.injEq, Option.some.injEq, Addr.mk.injEq, and_true] at hv
        rw [← hv.1.1]; exact ⟨e1, e2⟩
    · refine ⟨noF, x, fun _ _ g => g.elim, fun b o n c hv => ?_⟩
      simp only [Value.slice.injEq, Option.some.injEq, Addr.mk.injEq, and_true] at hv
      rw [← hv.1.1]; exact ⟨by omega, by omega⟩
  obtain ⟨G, x, hG, hb'⟩ := key
  have hFG : ∀ y o, F y o → ¬ G y o := fun y o g k => (bs.off y o (.inr (.inr (hG y o k).2.2.2))).2 g
  have hmG : ∀ y o, G y o → Far B m y ∧ ¬ F y o := fun y o k => bs.off y o (.inr (.inr (hG y o k).2.2.2))
  exact ⟨⟨full, sb, so, cap, h1.ext x (fun o g => (hG _ o g).1 rfl) (fun o g => (hG _ o g).2.1 rfl), h2.ext x (fun g => (hG _ _ g).1 rfl) (fun g => g2.nf (hmG _ _ g).1) hFG, h3, h4, fun b o n c hv => (hb' b o n c hv).1⟩, g2.extF x hmG, g3.ext x fun hb2 hh o g => by cases hh; exact (hG _ o g).2.2.1 rfl, hO, fun b o n c hv => (hb' b o n c hv).2,
    g6.trans x (fun _ _ g => g) fun y o _ g => .inr (.inr (hG y o g).2.2.2)⟩
set_option maxHeartbeats 800000 in
set_option maxRecDepth 8000 in
theorem mv_first {B : Nat} {ord : List Int} {m d : Nat} {iso : Int} {X : List It} {F : Nat → Nat → Prop} {mu : Bool} {ib sb0 hb : Nat} {w1 : World} {ov : Value} {P : List (Option It)} {p : Option Nat} {w : World} (s : MvS B ord m d iso X F mu ib sb0 hb w1 ov P p w) (bs : Bs B m F ib sb0 hb w1) (hd : 2 ≤ d) (hd' : d ≤ 128) (hbig : X.length ≤ 2147483648) (mv : Int × It) (hop : ¬ mv.1 = 1 ∧ ¬ mv.1 = 2 ∧ ¬ mv.1 = 3 ∧ ¬ mv.1 = 4 ∧ ¬ mv.1 = 5) :
    CallK Try.prog 79 #[ptr ib] w fun v w' => ∃ p', v = .bool p'.isSome ∧ MvS B ord m d iso X F mu ib sb0 hb w1 ov P p' w' ∧ Goes X (fun k : It => lb O (rkI ord) (rkI ord k) X) p mv p' ∧ ∀ k x, p' = some k → X[k]? = some x → Row w' ib 15 (E.cel x) := by
  obtain ⟨full, sb, so, cap, hI, hp, hs, hsb, hob⟩ := s.ex
  have hG := s.g (HG := noF) bs hs (fun _ _ g => g.elim)
  exact CallK_mono (ifirst_any B m d ord hd hd' iso X F noF mu ib sb so cap full w s.tree hG hI hbig) fun v w' q => ⟨_, q.1, s.after bs hI hs hsb hob q (fun _ _ g => g.elim) (s.hk bs hsb q), ⟨q.2.1, fun _ => (stepI_0 hop).symm⟩, q.2.2.2.2⟩
set_option maxHeartbeats 800000 in
set_option maxRecDepth 8000 in
theorem mv_last {B : Nat} {ord : List Int} {m d : Nat} {iso : Int} {X : List It} {F : Nat → Nat → Prop} {mu : Bool} {ib sb0 hb : Nat} {w1 : World} {ov : Value} {P : List (Option It)} {p : Option Nat} {w : World} (s : MvS B ord m d iso X F mu ib sb0 hb w1 ov P p w) (bs : Bs B m F ib sb0 hb w1) (hd : 2 ≤ d) (hd' : d ≤ 128) (hbig : X.length ≤ 2147483648) (mv : Int × It) (hop : mv.1 = 1) :
    CallK Try.prog 83 #[ptr ib] w fun v w' => ∃ p', v = .bool p'.isSome ∧ MvS B ord m d iso X F mu ib sb0 hb w1 ov P p' w' ∧ Goes X (fun k : It => lb O (rkI ord) (rkI ord k) X) p mv p' ∧ ∀ k x, p' = some k → X[k]? = some x → Row w' ib 15 (E.cel x) := by
  obtain ⟨full, sb, so, cap, hI, hp, hs, hsb, hob⟩ := s.ex
  have hG := s.g (HG := noF) bs hs (fun _ _ g => g.elim)
  exact CallK_mono (ilast_any B m d ord hd hd' iso X F noF mu ib sb so cap full w s.tree hG hI hbig) fun v w' q => ⟨_, q.1, s.after bs hI hs hsb hob q (fun _ _ g => g.elim) (s.hk bs hsb q), ⟨q.2.1, fun _ => (stepI_1 hop).symm⟩, q.2.2.2.2⟩
set_option maxHeartbeats 800000 in
set_option maxRecDepth 8000 in
theorem mv_next {B : Nat} {ord : List Int} {m d : Nat} {iso : Int} {X : List It} {F : Nat → Nat → Prop} {mu : Bool} {ib sb0 hb : Nat} {w1 : World} {ov : Value} {P : List (Option It)} {p : Option Nat} {w : World} (s : MvS B ord m d iso X F mu ib sb0 hb w1 ov P p w) (bs : Bs B m F ib sb0 hb w1) (hd : 2 ≤ d) (hd' : d ≤ 128) (hbig : X.length ≤ 2147483648) (mv : Int × It) (hop : mv.1 = 2) :
    CallK Try.prog 84 #[ptr ib] w fun v w' => ∃ p', v = .bool p'.isSome ∧ MvS B ord m d iso X F mu ib sb0 hb w1 ov P p' w' ∧ Goes X (fun k : It => lb O (rkI ord) (rkI ord k) X) p mv p' ∧ ∀ k x, p' = some k → X[k]? = some x → Row w' ib 15 (E.cel x) := by
  obtain ⟨full, sb, so, cap, hI, hp, hs, hsb, hob⟩ := s.ex
  have hG := s.g (HG := noF) bs hs (fun _ _ g => g.elim)
  exact CallK_mono (inext_any B m d ord hd hd' iso X F noF mu ib sb so cap full w s.tree hG hI hbig p hp) fun v w' q => (by
    obtain ⟨p', q, q1, q2⟩ := q
    refine ⟨p', q.1, s.after bs hI hs hsb hob q (fun _ _ g => g.elim) (s.hk bs hsb q), ⟨q.2.1, fun ht => ?_⟩, q.2.2.2.2⟩
    rw [toldI_r (by omega)] at ht
    rw [stepI_2 hop]
    cases p with
    | some k => exact q1 k rfl
    | none =>
      have hX : X = [] := by simpa using ht
      exact q2 rfl hX)
set_option maxHeartbeats 800000 in
set_option maxRecDepth 8000 in
theorem mv_prev {B : Nat} {ord : List Int} {m d : Nat} {iso : Int} {X : List It} {F : Nat → Nat → Prop} {mu : Bool} {ib sb0 hb : Nat} {w1 : World} {ov : Value} {P : List (Option It)} {p : Option Nat} {w : World} (s : MvS B ord m d iso X F mu ib sb0 hb w1 ov P p w) (bs : Bs B m F ib sb0 hb w1) (hd : 2 ≤ d) (hd' : d ≤ 128) (hbig : X.length ≤ 2147483648) (mv : Int × It) (hop : mv.1 = 3) :
    CallK Try.prog 85 #[ptr ib] w fun v w' => ∃ p', v = .bool p'.isSome ∧ MvS B ord m d iso X F mu ib sb0 hb w1 ov P p' w' ∧ Goes X (fun k : It => lb O (rkI ord) (rkI ord k) X) p mv p' ∧ ∀ k x, p' = some k → X[k]? = some x → Row w' ib 15 (E.cel x) := by
  obtain ⟨full, sb, so, cap, hI, hp, hs, hsb, hob⟩ := s.ex
  have hG := s.g (HG := noF) bs hs (fun _ _ g => g.elim)
  exact CallK_mono (iprev_any B m d ord hd hd' iso X F noF mu ib sb so cap full w s.tree hG hI hbig p hp) fun v w' q => (by
    obtain ⟨p', q, q1, q2⟩ := q
    refine ⟨p', q.1, s.after bs hI hs hsb hob q (fun _ _ g => g.elim) (s.hk bs hsb q), ⟨q.2.1, fun ht => ?_⟩, q.2.2.2.2⟩
    rw [toldI_r (by omega)] at ht
    rw [stepI_3 hop]
    cases p with
    | some k => exact q1 k rfl
    | none =>
      have hX : X = [] := by simpa using ht
      exact q2 rfl hX)
set_option maxHeartbeats 800000 in
set_option maxRecDepth 8000 in
theorem seekN_any (B m d : Nat) (q : It) (ord : List Int) (hd : 2 ≤ d) (hd' : d ≤ 128) (iso : Int) (X : List It) (F : Nat → Nat → Prop) (mu : Bool) (ib sb0 so0 cap0 : Nat) (full0 : List (Nat × Int)) (w1 : World) (hM : TreeAt B ord w1 m d iso X F) (hG : ∀ y o, itF (hF none) ib sb0 y o → Far B m y ∧ ¬ F y o) (hI : ItS ib m mu full0 sb0 so0 cap0 w1) (hbig : X.length ≤ 2147483648) :
    CallK Try.prog 86 #[ptr ib, itV q] w1 fun v w' => MvQ B ord m d iso X F (hF none) mu ib sb0 w1 (if lb O (rkI ord) (rkI ord q) X < X.length then some (lb O (rkI ord) (rkI ord q) X) else none) v w' ∧ HOk none w' := by
  refine calls_of_W [.tmp 4] Try.func86 rfl Try.ntmps86 Try.results86 (by simp) fun e he => ?_
  have e0 : e 0 = ptr ib := he 0 _ rfl
  have e1 : e 1 = itV q := he 1 _ rfl
  clear he
  refine W_sq fun K hK => (W_text [false, true] (by kernel_rfl) ?_); simp only [↓List.toList_toArray, ↓rgd, ↓rgf, ↓reduceIte, Nat.reduceEqDiff, rg, ow_86]
  refine do_box (by simp only [evt]; exact e1) fun w2 n2 => ⟨trivial, ?_⟩
  simp only [↓List.toList_toArray, ↓rgd, ↓rgf, ↓reduceIte, Nat.reduceEqDiff, rg, ow_86]
  refine hK _ _ ?_; clear hK K
  have ik := iX_at (show Row w2 w1.heap.size 0 (E.cel q) from n2.row)
  refine W_sq fun K hK => (W_text [true, true, false, true] (by kernel_rfl) ?_); simp only [↓List.toList_toArray, ↓rgd, ↓rgf, ↓reduceIte, Nat.reduceEqDiff, rg, ow_86, e0, e1, ptr_eq, ik]
  refine do_call fn_121 (vs := #[ptr ib, itV q, .pointer none]) (by simp only [evt, evc, upd_eq, Nat.reduceEqDiff, ↓reduceIte, maT, maC, maN, isnN, isnS] <;> rfl) (iseek_any B m d none q ord hd hd' iso X F mu ib sb0 so0 cap0 full0 w2 (hM.ext n2.ext) hG (hI.ext0 n2.ext) hbig (HOk.none _) (fun _ h => by cases h)) ?_
  rintro v w' h
  refine ⟨trivial, ?_⟩
  obtain ⟨⟨rfl, _⟩, _⟩ := id h
  simp only [↓List.toList_toArray, ↓rgd, ↓rgf, ↓reduceIte, Nat.reduceEqDiff, rg, ow_86]
  refine hK _ _ ?_; clear hK K
  exact W_ret (endQ_1 (by simp only [upd_eq, Nat.reduceEqDiff, ↓reduceIte] <;> rfl) ⟨MvQ.call (.inl rfl) (n2.ext.mono fun _ _ _ g => g.elim) (fun _ _ g => g) h.1, h.2⟩)
set_option maxHeartbeats 800000 in
set_option maxRecDepth 8000 in
theorem seekhint_any (B m d : Nat) (hp : Option Nat) (q : It) (ord : List Int) (hd : 2 ≤ d) (hd' : d ≤ 128) (iso : Int) (X : List It) (F : Nat → Nat → Prop) (mu : Bool) (ib sb0 so0 cap0 : Nat) (full0 : List (Nat × Int)) (w1 : World) (hM : TreeAt B ord w1 m d iso X F) (hG : ∀ y o, itF (hF hp) ib sb0 y o → Far B m y ∧ ¬ F y o) (hI : ItS ib m mu full0 sb0 so0 cap0 w1) (hbig : X.length ≤ 2147483648) (hH : HOk hp w1) (hHi : ∀ hb, hp = some hb → hb ≠ ib ∧ hb ≠ sb0) :
    CallK Try.prog 87 #[ptr ib, itV q, hV hp] w1 fun v w' => MvQ B ord m d iso X F (hF hp) mu ib sb0 w1 (if lb O (rkI ord) (rkI ord q) X < X.length then some (lb O (rkI ord) (rkI ord q) X) else none) v w' ∧ HOk hp w' := by
  refine calls_of_W [.tmp 6] Try.func87 rfl Try.ntmps87 Try.results87 (by simp) fun e he => ?_
  have e0 : e 0 = ptr ib := he 0 _ rfl
  have e1 : e 1 = itV q := he 1 _ rfl
  have e2 : e 2 = hV hp := he 2 _ rfl
  clear he
  refine W_sq fun K hK => (W_text [false, true] (by kernel_rfl) ?_); simp only [↓List.toList_toArray, ↓rgd, ↓rgf, ↓reduceIte, Nat.reduceEqDiff, rg, ow_87]
  refine do_box (by simp only [evt]; exact e1) fun w2 n2 => ⟨trivial, ?_⟩
  simp only [↓List.toList_toArray, ↓rgd, ↓rgf, ↓reduceIte, Nat.reduceEqDiff, rg, ow_87]
  refine hK _ _ ?_; clear hK K
  have ik := iX_at (show Row w2 w1.heap.size 0 (E.cel q) from n2.row)
  refine W_sq fun K hK => (W_text [true, true, true, false, true] (by kernel_rfl) ?_); simp only [↓List.toList_toArray, ↓rgd, ↓rgf, ↓reduceIte, Nat.reduceEqDiff, rg, ow_87, e0, e1, e2, ptr_eq, ik]
  refine do_call fn_121 (vs := #[ptr ib, itV q, hV hp]) (by simp only [evt, evc, upd_eq, Nat.reduceEqDiff, ↓reduceIte, maT, maC, maN, isnN, isnS] <;> rfl) (iseek_any B m d hp q ord hd hd' iso X F mu ib sb0 so0 cap0 full0 w2 (hM.ext n2.ext) hG (hI.ext0 n2.ext) hbig (hH.ext0 n2.ext) hHi) ?_
  rintro v w' h
  refine ⟨trivial, ?_⟩
  obtain ⟨⟨rfl, _⟩, _⟩ := id h
  simp only [↓List.toList_toArray, ↓rgd, ↓rgf, ↓reduceIte, Nat.reduceEqDiff, rg, ow_87]
  refine hK _ _ ?_; clear hK K
  exact W_ret (endQ_1 (by simp only [upd_eq, Nat.reduceEqDiff, ↓reduceIte] <;> rfl) ⟨MvQ.call (.inl rfl) (n2.ext.mono fun _ _ _ g => g.elim) (fun _ _ g => g) h.1, h.2⟩)
set_option maxHeartbeats 800000 in
set_option maxRecDepth 8000 in
theorem mv_seek {B : Nat} {ord : List Int} {m d : Nat} {iso : Int} {X : List It} {F : Nat → Nat → Prop} {mu : Bool} {ib sb0 hb : Nat} {w1 : World} {ov : Value} {P : List (Option It)} {p : Option Nat} {w : World} (s : MvS B ord m d iso X F mu ib sb0 hb w1 ov P p w) (bs : Bs B m F ib sb0 hb w1) (hd : 2 ≤ d) (hd' : d ≤ 128) (hbig : X.length ≤ 2147483648) (mv : Int × It) (hop : mv.1 = 4) :
    CallK Try.prog 86 #[ptr ib, itV mv.2] w fun v w' => ∃ p', v = .bool p'.isSome ∧ MvS B ord m d iso X F mu ib sb0 hb w1 ov P p' w' ∧ Goes X (fun k : It => lb O (rkI ord) (rkI ord k) X) p mv p' ∧ ∀ k x, p' = some k → X[k]? = some x → Row w' ib 15 (E.cel x) := by
  obtain ⟨full, sb, so, cap, hI, hp, hs, hsb, hob⟩ := s.ex
  have hG := s.g (HG := noF) bs hs (fun _ _ g => g.elim)
  have hG' : ∀ y o, itF (hF none) ib sb y o → Far B m y ∧ ¬ F y o := fun y o g => hG y o (g.imp id fun g => g.imp id fun g => by cases g)
  exact CallK_mono (seekN_any B m d mv.2 ord hd hd' iso X F mu ib sb so cap full w s.tree hG' hI hbig) fun v w' q => ⟨_, q.1.1, s.after bs hI hs hsb hob (MvQ.call (HF := noF) (.inl rfl) (Ext.refl _ _) (fun y o g => by cases g) q.1) (fun _ _ g => g.elim) (s.hk bs hsb (MvQ.call (HF := noF) (.inl rfl) (Ext.refl _ _) (fun y o g => by cases g) q.1)), ⟨q.1.2.1, fun _ => (stepI_4 (pl := (fun k : It => lb O (rkI ord) (rkI ord k) X)) (.inl hop)).symm⟩, q.1.2.2.2.2⟩
set_option maxHeartbeats 800000 in
set_option maxRecDepth 8000 in
theorem mv_seekh {B : Nat} {ord : List Int} {m d : Nat} {iso : Int} {X : List It} {F : Nat → Nat → Prop} {mu : Bool} {ib sb0 hb : Nat} {w1 : World} {ov : Value} {P : List (Option It)} {p : Option Nat} {w : World} (s : MvS B ord m d iso X F mu ib sb0 hb w1 ov P p w) (bs : Bs B m F ib sb0 hb w1) (hd : 2 ≤ d) (hd' : d ≤ 128) (hbig : X.length ≤ 2147483648) (mv : Int × It) (hop : mv.1 = 5) :
    CallK Try.prog 87 #[ptr ib, itV mv.2, hV (some hb)] w fun v w' => ∃ p', v = .bool p'.isSome ∧ MvS B ord m d iso X F mu ib sb0 hb w1 ov P p' w' ∧ Goes X (fun k : It => lb O (rkI ord) (rkI ord k) X) p mv p' ∧ ∀ k x, p' = some k → X[k]? = some x → Row w' ib 15 (E.cel x) := by
  obtain ⟨full, sb, so, cap, hI, hp, hs, hsb, hob⟩ := s.ex
  have hG := s.g (HG := (hF (some hb))) bs hs (fun y o g => by cases g; rfl)
  exact CallK_mono (seekhint_any B m d (some hb) mv.2 ord hd hd' iso X F mu ib sb so cap full w s.tree hG hI hbig s.hint (fun hb' hh => by cases hh; have := bs.il; have := bs.hl; exact ⟨by omega, fun h => hsb h.symm⟩)) fun v w' q => ⟨_, q.1.1, s.after bs hI hs hsb hob q.1 (fun y o g => by cases g; rfl) q.2, ⟨q.1.2.1, fun _ => (stepI_4 (pl := (fun k : It => lb O (rkI ord) (rkI ord k) X)) (.inr hop)).symm⟩, q.1.2.2.2.2⟩
end Go.Proofs.Ytbnnkcofnmipoaa
/-
  How moves are read as an argument. No condition.
-/
set_option linter.unusedSimpArgs false
set_option linter.unusedVariables false
namespace Go.Proofs.Ytbnnkcofnmipoaa
open Go Go.Proofs Go.ChangeShapes Go.WideShapes Go.ChangeAt Go.RowKit
theorem move_td : ∃ f0 f1 : Field, Try.prog.underlying 46 = some (.struct #[f0, f1]) ∧ f0.offset = 0 ∧ f1.offset = 1 ∧ Try.prog.cellsOf f0.type = 1 ∧ Try.prog.cellsOf f1.type = 2 ∧
    Try.prog.underlying f0.type = some (.int .i64) ∧ f1.type = 33 := ⟨_, _, Try.underlying46, by kernel_rfl, by kernel_rfl, by kernel_rfl, by kernel_rfl, by kernel_rfl, by kernel_rfl⟩
set_option maxRecDepth 100000
section
variable {H : Type} {enc : TypeId × Value → H}
theorem elem_move {w : World} : ∀ n cs x, DataW.trod enc Try.prog w 0 (fun _ => true) true n 46 cs = some x → cs.length = Em.sz → ∃ a : Int × It, cs = Em.cel a := by
  obtain ⟨f0, f1, he, o0, o1, c0, c1, u0, t1⟩ := move_td
  obtain ⟨i0, i1, he', o0', o1', c0', c1', u0', u1'⟩ := item_td
  intro n cs x h hl
  obtain ⟨xs, k, _, _, _, hxl, hf⟩ := DataW.trod_struct he h
  match xs, hxl, cs, hl with
  | [y0, y1], _, [v0, v1, v2], _ =>
    have g0 := hf 0 f0 rfl
    have g1 := hf 1 f1 rfl
    simp [o0, o1, c0, c1] at g0 g1
    obtain ⟨a, h1, _, _⟩ := DataW.trod_int u0 g0
    rw [t1] at g1
    obtain ⟨b, h2⟩ := elem_int2 he' o0' o1' c0' c1' u0' u1' _ _ _ g1 rfl
    simp only [List.cons.injEq, and_true] at h1 h2
    exact ⟨(a, b), by rw [h1, h2.1, h2.2]; rfl⟩
theorem open_moves {w : World} {base : Nat} {v : Value} {d : DataW H} {ps : List MemPlace} (hok : Value.okWide Try.prog w .any base 38 v)
    (h : DataW.Trod enc Try.prog w 0 (fun _ => true) true 38 v d ps) (hz : ∀ b o, MemPlace.cell b o ∈ ps → w.frozen? ⟨b, o, none⟩ = false) : ∃ l : List (Int × It), SlV w 3 v l.length (flat Em l) := by
  have hce : Try.prog.cellsOf 46 = Em.sz := by kernel_rfl
  exact open_arg (enc := enc) Em Try.underlying38 hce elem_move hok h hz
end
end Go.Proofs.Ytbnnkcofnmipoaa
/-
  Moves of an iterator, one after the other. No condition.
-/
set_option linter.unusedSimpArgs false
set_option linter.unusedVariables false
namespace Go.Proofs.Ytbnnkcofnmipoaa
open Go Go.Proofs
set_option maxHeartbeats 800000 in
set_option maxRecDepth 8000 in
theorem item_any (ib : Nat) (x : It) (w : World) (h : Row w ib 15 (E.cel x)) : CallK Try.prog 88 #[ptr ib] w fun v w' => v = itV x ∧ Ext noF w w' := by
  refine calls_of_W [.cell 2 33] Try.func88 rfl Try.ntmps88 Try.results88 (by simp) fun e he => ?_
  have e0 : e 0 = ptr ib := he 0 _ rfl
  clear he
  have h1 : rdA w ib 15 2 = some (itV x) := h.rdA 2 (by simp [E])
  refine W_sq fun K hK => (W_text [false] (by kernel_rfl) ?_); simp only [↓List.toList_toArray, ↓rgd, ↓rgf, ↓reduceIte, Nat.reduceEqDiff, rg, ow_88]
  refine do_alloc z_it fun w1 n1 => ⟨trivial, ?_⟩
  simp only [↓List.toList_toArray, ↓rgd, ↓rgf, ↓reduceIte, Nat.reduceEqDiff, rg, ow_88]
  refine hK _ _ ?_; clear hK K
  have h2 : rdA w1 ib 15 2 = some (itV x) := (n1.ext.row h fun _ _ g => g).rdA 2 (by simp [E])
  refine W_sq fun K hK => (W_text [true, true, true, true, false] (by kernel_rfl) ?_); simp only [↓List.toList_toArray, ↓rgd, ↓rgf, ↓reduceIte, Nat.reduceEqDiff, rg, ow_88, e0, ptr_eq, h2]
  refine do_store (v := itV x) (by simp only [evt, evc, upd_eq, Nat.reduceEqDiff, ↓reduceIte, ntT, ntF] <;> rfl) (by simp only [evt, evc, upd_eq, Nat.reduceEqDiff, ↓reduceIte, ntT, ntF] <;> rfl) sz_33 (itV_len x) n1.wok (by decide) (itV_oc x) fun w2 x2 r2 s2 => ⟨trivial, ?_⟩
  simp only [↓List.toList_toArray, ↓rgd, ↓rgf, ↓reduceIte, Nat.reduceEqDiff, rg, ow_88]
  refine hK _ _ ?_; clear hK K
  exact W_ret (endQ_c (by simp only [upd_eq, Nat.reduceEqDiff, ↓reduceIte] <;> rfl) ld_33 (iX_at (show Row w2 w.heap.size 0 (E.cel x) from r2)) ⟨rfl, noF_of n1.ext x2 fun y o hy g => by simp only [rng] at g; omega⟩)
set_option maxHeartbeats 4000000 in
set_option maxRecDepth 8000 in
theorem moved_any (B m d : Nat) (ord : List Int) (hd : 2 ≤ d) (hd' : d ≤ 128) (iso : Int) (X : List It) (F : Nat → Nat → Prop) (mu : Bool) (ib sb0 so0 cap0 : Nat) (ms : List (Int × It)) (mvs : Value) (w1 : World) (hM : TreeAt B ord w1 m d iso X F) (hI : ItS ib m mu [] sb0 so0 cap0 w1) (hoff : ∀ y o, (y = ib ∨ y = sb0 ∨ w1.heap.size ≤ y) → Far B m y ∧ ¬ F y o) (hbig : X.length ≤ 2147483648) (hms : SlV w1 3 mvs ms.length (flat Em ms)) (hmb : ms.length ≤ 2147483647) (hmn : ∀ b o n c, mvs = .slice (some ⟨b, o, none⟩) n c → b ≠ ib ∧ b ≠ sb0) :
    CallK Try.prog 53 #[ptr ib, mvs] w1 fun v w' => ∃ P : List (Option It), SlV w' 3 v P.length (flat Ef (P.map foO)) ∧ Agree P (runI X (fun k : It => lb O (rkI ord) (rkI ord k) X) ms).2 ∧ Ext (fun y _ => y = ib ∨ y = sb0) w1 w' ∧ (∃ full sb so cap, ItS ib m mu full sb so cap w') ∧ ∀ b o n c, v = .slice (some ⟨b, o, none⟩) n c → w1.heap.size ≤ b := by
  obtain ⟨ka, kc, hkv⟩ := hms.shape
  refine calls_of_W [.tmp 4] Try.func53 rfl Try.ntmps53 Try.results53 (by simp) fun e he => ?_
  have e0 : e 0 = ptr ib := he 0 _ rfl
  have e1 : e 1 = mvs := he 1 _ rfl
  clear he
  rw [hkv] at e1
  refine W_sq fun K hK => (W_text [true] (by kernel_rfl) ?_); simp only [↓List.toList_toArray, ↓rgd, ↓rgf, ↓reduceIte, Nat.reduceEqDiff, rg, ow_53]
  refine hK _ _ ?_; clear hK K
  refine W_sq fun K hK => (W_text [false] (by kernel_rfl) ?_); simp only [↓List.toList_toArray, ↓rgd, ↓rgf, ↓reduceIte, Nat.reduceEqDiff, rg, ow_53]
  refine do_alloc z_hint fun w2 n2 => ⟨trivial, ?_⟩
  simp only [↓List.toList_toArray, ↓rgd, ↓rgf, ↓reduceIte, Nat.reduceEqDiff, rg, ow_53]
  refine hK _ _ ?_; clear hK K
  refine W_sq fun K hK => (W_text [true] (by kernel_rfl) ?_); simp only [↓List.toList_toArray, ↓rgd, ↓rgf, ↓reduceIte, Nat.reduceEqDiff, rg, ow_53]
  refine hK _ _ ?_; clear hK K
  refine W_seq (W_seq ?_)
  refine W_rg fun K hK => (W_text [true, true, true] (by kernel_rfl) ?_); simp only [↓List.toList_toArray, ↓rgd, ↓rgf, ↓reduceIte, Nat.reduceEqDiff, rg, ow_53, e1]
  refine hK _ _ ?_; clear hK K
  show W _ _ _ _ _ _
  have bs : Bs B m F ib sb0 w1.heap.size w1 := ⟨hoff, wok_lt hI.wok, wok_lt hI.st.wi, Nat.le_refl _⟩
  have S0 : MvS B ord m d iso X F mu ib sb0 w1.heap.size w1 (.slice none 0 0) [] none w2 := by
    have hh := hint_new n2
    have h1 := bs.sl
    exact ⟨⟨[], sb0, so0, cap0, hI.ext0 n2.ext, rfl, .inl rfl, by omega, fun b o n c h => (by cases h)⟩, hM.ext n2.ext, fun hb h => (by cases h; exact hh), Outs.nil _ _, fun b o n c h => (by cases h), n2.ext.mono fun _ _ _ g => g.elim⟩
  refine W_block (W_loop (fun mm e w => ∃ (k : Nat) (p : Option Nat) (P : List (Option It)), mm = ms.length - k ∧ k ≤ ms.length ∧ e 10 = .slice ka ms.length kc ∧ e 11 = .int .i64 ms.length ∧ e 12 = .int .i64 k ∧ e 0 = ptr ib ∧ e 5 = ptr w1.heap.size ∧ MvS B ord m d iso X F mu ib sb0 w1.heap.size w1 (e 6) P p w ∧ Agree P (runI X (fun k : It => lb O (rkI ord) (rkI ord k) X) (ms.take k)).2 ∧ ∀ j, (runI X (fun k : It => lb O (rkI ord) (rkI ord k) X) (ms.take k)).1 = some j → p = some j)
    ms.length ⟨0, none, [], by simp, by simp, by simp only [upd_eq, Nat.reduceEqDiff, ↓reduceIte], by simp only [upd_eq, Nat.reduceEqDiff, ↓reduceIte], by simp only [upd_eq, Nat.reduceEqDiff, ↓reduceIte]; rfl, by simp only [upd_eq, Nat.reduceEqDiff, ↓reduceIte]; exact e0, by simp only [upd_eq, Nat.reduceEqDiff, ↓reduceIte]; rfl, by simp only [upd_eq, Nat.reduceEqDiff, ↓reduceIte]; exact S0, Agree.nil, fun j h => by cases h⟩ ?_)
  clear S0 e0 e1 e
  rintro mm e w ⟨k, p, P, rfl, hk, eS, eL, eI, e0, e5, S, hA, hp⟩
  by_cases hlt : k < ms.length
  · have ht := lt_tt k ms.length hlt
    refine W_sq fun K hK => (W_text [true] (by kernel_rfl) ?_); simp only [↓List.toList_toArray, ↓rgd, ↓rgf, ↓reduceIte, Nat.reduceEqDiff, rg, ow_53, eL, eI, ht]
    refine hK _ _ ?_; clear hK K
    refine W_seq (W_true (by simp only [evt, evc, upd_eq, Nat.reduceEqDiff, ↓reduceIte, ntT, ntF] <;> rfl) (W_skip ?_))
    show W _ _ _ _ _ _
    obtain ⟨mv, hx⟩ : ∃ x, ms[k]? = some x := ⟨_, List.getElem?_eq_getElem hlt⟩
    obtain ⟨mb, mo, hka, row⟩ := SlV.at hms hkv hlt
    have hml := SlV.lt hms (hkv.trans (by rw [hka]))
    have hmb2 := hmn mb mo ms.length kc (by rw [hkv, hka])
    have ixx := mv_at (S.ext.row row fun i _ g => by rcases g with g | g | g; exact hmb2.1 g; exact hmb2.2 g; omega) hx
    rw [hka] at eS
    refine W_seq (W_block ?_)
    refine W_sq fun K hK => (W_text [true, true, false, false] (by kernel_rfl) ?_); simp only [↓List.toList_toArray, ↓rgd, ↓rgf, ↓reduceIte, Nat.reduceEqDiff, rg, ow_53, eS, eI, hlt, ixx]
    refine do_alloc z_mv fun w2' n2' => ⟨trivial, ?_⟩
    simp only [↓List.toList_toArray, ↓rgd, ↓rgf, ↓reduceIte, Nat.reduceEqDiff, rg, ow_53]
    refine do_store (v := mvV mv) (by simp only [evt, evc, upd_eq, Nat.reduceEqDiff, ↓reduceIte, ntT, ntF] <;> rfl) (by simp only [evt, evc, upd_eq, Nat.reduceEqDiff, ↓reduceIte, ntT, ntF] <;> rfl) sz_46 rfl n2'.wok (by decide) (Em.one mv) fun w3 x3 r3 s3 => ⟨trivial, ?_⟩
    simp only [↓List.toList_toArray, ↓rgd, ↓rgf, ↓reduceIte, Nat.reduceEqDiff, rg, ow_53]
    refine hK _ _ ?_; clear hK K
    have X3 : Ext noF w w3 := noF_of n2'.ext x3 fun y o hy h => by simp only [rng] at h; omega
    have S3 := S.ext0 X3
    have r3' : Row w3 w.heap.size 0 (Em.cel mv) := r3
    have op3 : rd w3 w.heap.size 0 = some (.int .i64 mv.1) := (Row.cons.1 r3').1
    have key3 : rdA w3 w.heap.size 1 2 = some (iV mv.2) := (r3'.drop 1).rdA 2 (Nat.le_refl _)
    rw [← hka] at eS
    obtain ⟨ov, hov⟩ : ∃ ov, ov = e 6 := ⟨_, rfl⟩
    rw [← hov] at S3 S
    have e6 : e 6 = ov := hov.symm
    clear r3 r3' x3 n2' X3 S
    refine W_sq fun K hK => (W_text [true] (by kernel_rfl) ?_); simp only [↓List.toList_toArray, ↓rgd, ↓rgf, ↓reduceIte, Nat.reduceEqDiff, rg, ow_53]
    refine hK _ _ ?_; clear hK K
    refine W_sqx fun J hJ => ?_
    have hmid : ∀ (e : Env) (w4 : World) (p' : Option Nat), MvS B ord m d iso X F mu ib sb0 w1.heap.size w1 ov P p' w4 → Goes X (fun k : It => lb O (rkI ord) (rkI ord k) X) p mv p' → (∀ k x, p' = some k → X[k]? = some x → Row w4 ib 15 (E.cel x)) → e 10 = .slice ka ms.length kc → e 11 = .int .i64 ms.length → e 12 = .int .i64 k → e 0 = ptr ib → e 5 = ptr w1.heap.size → e 9 = .bool p'.isSome → e 6 = ov → J e w4 := by
      clear eS eL eI e0 e5 e6 hov S3 op3 key3 e
      intro e w4 p' S4 hg hit eS eL eI e0 e5 e9 e6
      refine hJ _ _ ?_; clear hJ J
      obtain ⟨x, hr, hfx⟩ : ∃ x : It, Row w4 ib 15 (E.cel x) ∧ foP x p'.isSome = foO (foI X p') := by
        cases p' with
        | some kk =>
          obtain ⟨x, hX⟩ : ∃ x, X[kk]? = some x := ⟨_, List.getElem?_eq_getElem (hg.1 kk rfl)⟩
          refine ⟨x, hit kk x rfl hX, ?_⟩
          rw [show foI X (some kk) = some x from hX]; rfl
        | none =>
          obtain ⟨_, _, _, _, hI4, _⟩ := S4.ex
          obtain ⟨x, hx⟩ := hI4.itm
          exact ⟨x, hx, rfl⟩
      refine W_rg fun K hK => (W_text [true, true, false, true, false, false, false, true] (by kernel_rfl) ?_); simp only [↓List.toList_toArray, ↓rgd, ↓rgf, ↓reduceIte, Nat.reduceEqDiff, rg, ow_53, e0, e6, e9]
      refine do_call fn_88 (vs := #[ptr ib]) (by simp only [evt, evc, upd_eq, Nat.reduceEqDiff, ↓reduceIte, maT, maC, maN, isnN, isnS] <;> rfl) (item_any ib x w4 hr) ?_
      rintro _ w5 ⟨rfl, X5⟩
      refine ⟨trivial, ?_⟩
      simp only [↓List.toList_toArray, ↓rgd, ↓rgf, ↓reduceIte, Nat.reduceEqDiff, rg, ow_53, e6, e9]
      refine do_call fn_44 (vs := #[itV x, .bool p'.isSome]) (by simp only [evt, evc, upd_eq, Nat.reduceEqDiff, ↓reduceIte, maT, maC, maN, isnN, isnS] <;> rfl) (found_any x p'.isSome w5) ?_
      rintro _ w5' ⟨rfl, X5'⟩
      refine ⟨trivial, ?_⟩
      rw [hfx]
      simp only [↓List.toList_toArray, ↓rgd, ↓rgf, ↓reduceIte, Nat.reduceEqDiff, rg, ow_53, e6]
      have S5 := (S4.ext0 X5).ext0 X5'
      refine do_bsl rfl (bs_fo1 (foO (foI X p'))) fun w6 n6 => ⟨trivial, ?_⟩
      simp only [↓List.toList_toArray, ↓rgd, ↓rgf, ↓reduceIte, Nat.reduceEqDiff, rg, ow_53]
      have S6 := S5.ext0 n6.ext
      have hx6 : SlV w6 3 (.slice (some ⟨w5'.heap.size, 0, none⟩) 1 1) 1 (Ef.cel (foO (foI X p'))) := ⟨rfl, .inr ⟨_, 0, 1, rfl, Nat.le_refl _, n6.row, n6.wok.R (Nat.le_refl _)⟩⟩
      have hPl : (P.map foO).length = k := by rw [List.length_map, hA.1, runI_length, List.length_take]; omega
      refine do_append (by simp only [evt, evc, upd_eq, Nat.reduceEqDiff, ↓reduceIte, ntT, ntF] <;> rfl) (by simp only [evt, evc, upd_eq, Nat.reduceEqDiff, ↓reduceIte, ntT, ntF] <;> rfl) el_fo rfl ni_fo S6.out.sl hx6 (by omega) (by decide) (Ef.one _) fun v7 w7 a7 => ⟨trivial, ?_⟩
      have S7 := S6.app bs a7
      simp only [↓List.toList_toArray, ↓rgd, ↓rgf, ↓reduceIte, Nat.reduceEqDiff, rg, ow_53]
      refine hK _ _ ?_; clear hK K
      show W _ _ _ _ _ _
      have q1 := wadd1 k (by omega)
      refine W_rg fun K hK => (W_text [true, true] (by kernel_rfl) ?_); simp only [↓List.toList_toArray, ↓rgd, ↓rgf, ↓reduceIte, Nat.reduceEqDiff, rg, ow_53, eI, q1]
      refine hK _ _ ?_; clear hK K
      have hrs := runI_succ X (fun k : It => lb O (rkI ord) (rkI ord k) X) hx
      refine ⟨_, ?_, k + 1, p', P ++ [foI X p'], rfl, hlt, by simp only [upd_eq, Nat.reduceEqDiff, ↓reduceIte]; exact eS, by simp only [upd_eq, Nat.reduceEqDiff, ↓reduceIte]; exact eL, by simp only [upd_eq, Nat.reduceEqDiff, ↓reduceIte], by simp only [upd_eq, Nat.reduceEqDiff, ↓reduceIte]; exact e0, by simp only [upd_eq, Nat.reduceEqDiff, ↓reduceIte]; exact e5, by simp only [upd_eq, Nat.reduceEqDiff, ↓reduceIte]; exact S7, ?_, ?_⟩
      · omega
      · rw [hrs]
        exact hA.snoc (hg.agree hp).2
      · intro j hj
        rw [hrs] at hj
        exact (hg.agree hp).1 j hj
    clear hJ
    refine W_sq fun K hK => (W_text [true, true] (by kernel_rfl) ?_); simp only [↓List.toList_toArray, ↓rgd, ↓rgf, ↓reduceIte, Nat.reduceEqDiff, rg, ow_53, op3]
    refine hK _ _ ?_; clear hK K
    refine W_block ?_
    by_cases h1 : mv.1 = 1
    · have c1 : (mv.1 == 1) = true := by rw [beq_iff_eq]; exact h1
      refine W_sq fun K hK => (W_text [true, true] (by kernel_rfl) ?_); simp only [↓List.toList_toArray, ↓rgd, ↓rgf, ↓reduceIte, Nat.reduceEqDiff, rg, ow_53, c1]
      refine hK _ _ ?_; clear hK K
      refine W_true (by simp only [evt, evc, upd_eq, Nat.reduceEqDiff, ↓reduceIte, ntT, ntF] <;> rfl) ?_
      refine W_rg fun K hK => (W_text [true, false, true] (by kernel_rfl) ?_); simp only [↓List.toList_toArray, ↓rgd, ↓rgf, ↓reduceIte, Nat.reduceEqDiff, rg, ow_53, e0, e5]
      refine do_call fn_83 (vs := #[ptr ib]) (by simp only [evt, evc, upd_eq, Nat.reduceEqDiff, ↓reduceIte, maT, maC, maN, isnN, isnS] <;> rfl) (mv_last S3 bs hd hd' hbig mv h1) ?_
      rintro _ w4 ⟨p', rfl, S4, hg, hit⟩
      refine ⟨trivial, ?_⟩
      simp only [↓List.toList_toArray, ↓rgd, ↓rgf, ↓reduceIte, Nat.reduceEqDiff, rg, ow_53]
      refine hK _ _ ?_; clear hK K
      exact hmid _ w4 p' S4 hg hit (by simp only [upd_eq, Nat.reduceEqDiff, ↓reduceIte]; exact eS) (by simp only [upd_eq, Nat.reduceEqDiff, ↓reduceIte]; exact eL) (by simp only [upd_eq, Nat.reduceEqDiff, ↓reduceIte]; exact eI) (by simp only [upd_eq, Nat.reduceEqDiff, ↓reduceIte]; exact e0) (by simp only [upd_eq, Nat.reduceEqDiff, ↓reduceIte]; exact e5) (by simp only [upd_eq, Nat.reduceEqDiff, ↓reduceIte] <;> rfl) (by simp only [upd_eq, Nat.reduceEqDiff, ↓reduceIte]; exact e6)
    · have c1 : (mv.1 == 1) = false := by rw [beq_eq_false_iff_ne]; exact h1
      refine W_sq fun K hK => (W_text [true, true] (by kernel_rfl) ?_); simp only [↓List.toList_toArray, ↓rgd, ↓rgf, ↓reduceIte, Nat.reduceEqDiff, rg, ow_53, c1]
      refine hK _ _ ?_; clear hK K
      refine W_false (by simp only [evt, evc, upd_eq, Nat.reduceEqDiff, ↓reduceIte, ntT, ntF] <;> rfl) ?_
      by_cases h2 : mv.1 = 2
      · have c2 : (mv.1 == 2) = true := by rw [beq_iff_eq]; exact h2
        refine W_sq fun K hK => (W_text [true, true] (by kernel_rfl) ?_); simp only [↓List.toList_toArray, ↓rgd, ↓rgf, ↓reduceIte, Nat.reduceEqDiff, rg, ow_53, c2]
        refine hK _ _ ?_; clear hK K
        refine W_true (by simp only [evt, evc, upd_eq, Nat.reduceEqDiff, ↓reduceIte, ntT, ntF] <;> rfl) ?_
        refine W_rg fun K hK => (W_text [true, false, true] (by kernel_rfl) ?_); simp only [↓List.toList_toArray, ↓rgd, ↓rgf, ↓reduceIte, Nat.reduceEqDiff, rg, ow_53, e0, e5]
        refine do_call fn_84 (vs := #[ptr ib]) (by simp only [evt, evc, upd_eq, Nat.reduceEqDiff, ↓reduceIte, maT, maC, maN, isnN, isnS] <;> rfl) (mv_next S3 bs hd hd' hbig mv h2) ?_
        rintro _ w4 ⟨p', rfl, S4, hg, hit⟩
        refine ⟨trivial, ?_⟩
        simp only [↓List.toList_toArray, ↓rgd, ↓rgf, ↓reduceIte, Nat.reduceEqDiff, rg, ow_53]
        refine hK _ _ ?_; clear hK K
        exact hmid _ w4 p' S4 hg hit (by simp only [upd_eq, Nat.reduceEqDiff, ↓reduceIte]; exact eS) (by simp only [upd_eq, Nat.reduceEqDiff, ↓reduceIte]; exact eL) (by simp only [upd_eq, Nat.reduceEqDiff, ↓reduceIte]; exact eI) (by simp only [upd_eq, Nat.reduceEqDiff, ↓reduceIte]; exact e0) (by simp only [upd_eq, Nat.reduceEqDiff, ↓reduceIte]; exact e5) (by simp only [upd_eq, Nat.reduceEqDiff, ↓reduceIte] <;> rfl) (by simp only [upd_eq, Nat.reduceEqDiff, ↓reduceIte]; exact e6)
      · have c2 : (mv.1 == 2) = false := by rw [beq_eq_false_iff_ne]; exact h2
        refine W_sq fun K hK => (W_text [true, true] (by kernel_rfl) ?_); simp only [↓List.toList_toArray, ↓rgd, ↓rgf, ↓reduceIte, Nat.reduceEqDiff, rg, ow_53, c2]
        refine hK _ _ ?_; clear hK K
        refine W_false (by simp only [evt, evc, upd_eq, Nat.reduceEqDiff, ↓reduceIte, ntT, ntF] <;> rfl) ?_
        by_cases h3 : mv.1 = 3
        · have c3 : (mv.1 == 3) = true := by rw [beq_iff_eq]; exact h3
          refine W_sq fun K hK => (W_text [true, true] (by kernel_rfl) ?_); simp only [↓List.toList_toArray, ↓rgd, ↓rgf, ↓reduceIte, Nat.reduceEqDiff, rg, ow_53, c3]
          refine hK _ _ ?_; clear hK K
          refine W_true (by simp only [evt, evc, upd_eq, Nat.reduceEqDiff, ↓reduceIte, ntT, ntF] <;> rfl) ?_
          refine W_rg fun K hK => (W_text [true, false, true] (by kernel_rfl) ?_); simp only [↓List.toList_toArray, ↓rgd, ↓rgf, ↓reduceIte, Nat.reduceEqDiff, rg, ow_53, e0, e5]
          refine do_call fn_85 (vs := #[ptr ib]) (by simp only [evt, evc, upd_eq, Nat.reduceEqDiff, ↓reduceIte, maT, maC, maN, isnN, isnS] <;> rfl) (mv_prev S3 bs hd hd' hbig mv h3) ?_
          rintro _ w4 ⟨p', rfl, S4, hg, hit⟩
          refine ⟨trivial, ?_⟩
          simp only [↓List.toList_toArray, ↓rgd, ↓rgf, ↓reduceIte, Nat.reduceEqDiff, rg, ow_53]
          refine hK _ _ ?_; clear hK K
          exact hmid _ w4 p' S4 hg hit (by simp only [upd_eq, Nat.reduceEqDiff, ↓reduceIte]; exact eS) (by simp only [upd_eq, Nat.reduceEqDiff, ↓reduceIte]; exact eL) (by simp only [upd_eq, Nat.reduceEqDiff, ↓reduceIte]; exact eI) (by simp only [upd_eq, Nat.reduceEqDiff, ↓reduceIte]; exact e0) (by simp only [upd_eq, Nat.reduceEqDiff, ↓reduceIte]; exact e5) (by simp only [upd_eq, Nat.reduceEqDiff, ↓reduceIte] <;> rfl) (by simp only [upd_eq, Nat.reduceEqDiff, ↓reduceIte]; exact e6)
        · have c3 : (mv.1 == 3) = false := by rw [beq_eq_false_iff_ne]; exact h3
          refine W_sq fun K hK => (W_text [true, true] (by kernel_rfl) ?_); simp only [↓List.toList_toArray, ↓rgd, ↓rgf, ↓reduceIte, Nat.reduceEqDiff, rg, ow_53, c3]
          refine hK _ _ ?_; clear hK K
          refine W_false (by simp only [evt, evc, upd_eq, Nat.reduceEqDiff, ↓reduceIte, ntT, ntF] <;> rfl) ?_
          by_cases h4 : mv.1 = 4
          · have c4 : (mv.1 == 4) = true := by rw [beq_iff_eq]; exact h4
            refine W_sq fun K hK => (W_text [true, true] (by kernel_rfl) ?_); simp only [↓List.toList_toArray, ↓rgd, ↓rgf, ↓reduceIte, Nat.reduceEqDiff, rg, ow_53, c4]
            refine hK _ _ ?_; clear hK K
            refine W_true (by simp only [evt, evc, upd_eq, Nat.reduceEqDiff, ↓reduceIte, ntT, ntF] <;> rfl) ?_
            refine W_rg fun K hK => (W_text [true, true, true, false, true] (by kernel_rfl) ?_); simp only [↓List.toList_toArray, ↓rgd, ↓rgf, ↓reduceIte, Nat.reduceEqDiff, rg, ow_53, e0, e5, key3]
            refine do_call fn_86 (vs := #[ptr ib, itV mv.2]) (by simp only [evt, evc, upd_eq, Nat.reduceEqDiff, ↓reduceIte, maT, maC, maN, isnN, isnS] <;> rfl) (mv_seek S3 bs hd hd' hbig mv h4) ?_
            rintro _ w4 ⟨p', rfl, S4, hg, hit⟩
            refine ⟨trivial, ?_⟩
            simp only [↓List.toList_toArray, ↓rgd, ↓rgf, ↓reduceIte, Nat.reduceEqDiff, rg, ow_53]
            refine hK _ _ ?_; clear hK K
            exact hmid _ w4 p' S4 hg hit (by simp only [upd_eq, Nat.reduceEqDiff, ↓reduceIte]; exact eS) (by simp only [upd_eq, Nat.reduceEqDiff, ↓reduceIte]; exact eL) (by simp only [upd_eq, Nat.reduceEqDiff, ↓reduceIte]; exact eI) (by simp only [upd_eq, Nat.reduceEqDiff, ↓reduceIte]; exact e0) (by simp only [upd_eq, Nat.reduceEqDiff, ↓reduceIte]; exact e5) (by simp only [upd_eq, Nat.reduceEqDiff, ↓reduceIte] <;> rfl) (by simp only [upd_eq, Nat.reduceEqDiff, ↓reduceIte]; exact e6)
          · have c4 : (mv.1 == 4) = false := by rw [beq_eq_false_iff_ne]; exact h4
            refine W_sq fun K hK => (W_text [true, true] (by kernel_rfl) ?_); simp only [↓List.toList_toArray, ↓rgd, ↓rgf, ↓reduceIte, Nat.reduceEqDiff, rg, ow_53, c4]
            refine hK _ _ ?_; clear hK K
            refine W_false (by simp only [evt, evc, upd_eq, Nat.reduceEqDiff, ↓reduceIte, ntT, ntF] <;> rfl) ?_
            by_cases h5 : mv.1 = 5
            · have c5 : (mv.1 == 5) = true := by rw [beq_iff_eq]; exact h5
              refine W_sq fun K hK => (W_text [true, true] (by kernel_rfl) ?_); simp only [↓List.toList_toArray, ↓rgd, ↓rgf, ↓reduceIte, Nat.reduceEqDiff, rg, ow_53, c5]
              refine hK _ _ ?_; clear hK K
              refine W_true (by simp only [evt, evc, upd_eq, Nat.reduceEqDiff, ↓reduceIte, ntT, ntF] <;> rfl) ?_
              refine W_rg fun K hK => (W_text [true, true, true, false, true] (by kernel_rfl) ?_); simp only [↓List.toList_toArray, ↓rgd, ↓rgf, ↓reduceIte, Nat.reduceEqDiff, rg, ow_53, e0, e5, key3]
              refine do_call fn_87 (vs := #[ptr ib, itV mv.2, hV (some w1.heap.size)]) (by simp only [evt, evc, upd_eq, Nat.reduceEqDiff, ↓reduceIte, maT, maC, maN, isnN, isnS, e5] <;> rfl) (mv_seekh S3 bs hd hd' hbig mv h5) ?_
              rintro _ w4 ⟨p', rfl, S4, hg, hit⟩
              refine ⟨trivial, ?_⟩
              simp only [↓List.toList_toArray, ↓rgd, ↓rgf, ↓reduceIte, Nat.reduceEqDiff, rg, ow_53]
              refine hK _ _ ?_; clear hK K
              exact hmid _ w4 p' S4 hg hit (by simp only [upd_eq, Nat.reduceEqDiff, ↓reduceIte]; exact eS) (by simp only [upd_eq, Nat.reduceEqDiff, ↓reduceIte]; exact eL) (by simp only [upd_eq, Nat.reduceEqDiff, ↓reduceIte]; exact eI) (by simp only [upd_eq, Nat.reduceEqDiff, ↓reduceIte]; exact e0) (by simp only [upd_eq, Nat.reduceEqDiff, ↓reduceIte]; exact e5) (by simp only [upd_eq, Nat.reduceEqDiff, ↓reduceIte] <;> rfl) (by simp only [upd_eq, Nat.reduceEqDiff, ↓reduceIte]; exact e6)
            · have c5 : (mv.1 == 5) = false := by rw [beq_eq_false_iff_ne]; exact h5
              refine W_sq fun K hK => (W_text [true, true] (by kernel_rfl) ?_); simp only [↓List.toList_toArray, ↓rgd, ↓rgf, ↓reduceIte, Nat.reduceEqDiff, rg, ow_53, c5]
              refine hK _ _ ?_; clear hK K
              refine W_false (by simp only [evt, evc, upd_eq, Nat.reduceEqDiff, ↓reduceIte, ntT, ntF] <;> rfl) ?_
              refine W_rg fun K hK => (W_text [true, false, true] (by kernel_rfl) ?_); simp only [↓List.toList_toArray, ↓rgd, ↓rgf, ↓reduceIte, Nat.reduceEqDiff, rg, ow_53, e0, e5]
              refine do_call fn_79 (vs := #[ptr ib]) (by simp only [evt, evc, upd_eq, Nat.reduceEqDiff, ↓reduceIte, maT, maC, maN, isnN, isnS] <;> rfl) (mv_first S3 bs hd hd' hbig mv ⟨h1, h2, h3, h4, h5⟩) ?_
              rintro _ w4 ⟨p', rfl, S4, hg, hit⟩
              refine ⟨trivial, ?_⟩
              simp only [↓List.toList_toArray, ↓rgd, ↓rgf, ↓reduceIte, Nat.reduceEqDiff, rg, ow_53]
              refine hK _ _ ?_; clear hK K
              exact hmid _ w4 p' S4 hg hit (by simp only [upd_eq, Nat.reduceEqDiff, ↓reduceIte]; exact eS) (by simp only [upd_eq, Nat.reduceEqDiff, ↓reduceIte]; exact eL) (by simp only [upd_eq, Nat.reduceEqDiff, ↓reduceIte]; exact eI) (by simp only [upd_eq, Nat.reduceEqDiff, ↓reduceIte]; exact e0) (by simp only [upd_eq, Nat.reduceEqDiff, ↓reduceIte]; exact e5) (by simp only [upd_eq, Nat.reduceEqDiff, ↓reduceIte] <;> rfl) (by simp only [upd_eq, Nat.reduceEqDiff, ↓reduceIte]; exact e6)
  · obtain rfl : k = ms.length := by omega
    have ht := lt_ff ms.length ms.length (by omega)
    refine W_sq fun K hK => (W_text [true] (by kernel_rfl) ?_); simp only [↓List.toList_toArray, ↓rgd, ↓rgf, ↓reduceIte, Nat.reduceEqDiff, rg, ow_53, eL, eI, ht]
    refine hK _ _ ?_; clear hK K
    refine W_seq (W_false (by simp only [evt, evc, upd_eq, Nat.reduceEqDiff, ↓reduceIte, ntT, ntF] <;> rfl) (W_exit ?_))
    simp only [andThen_exit, inBlk_exit, andThen_normal, ↓reduceIte]
    refine W_sq fun K hK => (W_text [true, true] (by kernel_rfl) ?_); simp only [↓List.toList_toArray, ↓rgd, ↓rgf, ↓reduceIte, Nat.reduceEqDiff, rg, ow_53]
    refine hK _ _ ?_; clear hK K
    rw [List.take_length] at hA
    refine W_ret (endQ_1 (by simp only [upd_eq, Nat.reduceEqDiff, ↓reduceIte] <;> rfl) ⟨P, ?_, hA, S.ext.mono fun y o hy g => by rcases g with g | g | g; exact .inl g; exact .inr g; omega, ?_, fun b o n c h => S.out.si b o n c h⟩)
    · have := S.out.sl
      rwa [List.length_map] at this
    · obtain ⟨full, sb, so, cap, h, _⟩ := S.ex
      exact ⟨full, sb, so, cap, h⟩
end Go.Proofs.Ytbnnkcofnmipoaa
/-
  What the reference answers to the moves of an iterator. No condition.
-/
set_option linter.unusedSimpArgs false
set_option linter.unusedVariables false
namespace Go.Proofs.Ytbnnkcofnmipoaa
open Go Go.Proofs
/-- A place, -1 for none. -/
def satI : Option Nat → Int
  | none => -1
  | some k => k
/-- The index that is asked for tells the place. -/
def Ask (l : List It) (a : Int) (s : Option Nat) : Prop := (∃ k, s = some k ∧ a = (k : Nat) ∧ k < l.length) ∨ (s = none ∧ ¬ (0 ≤ a ∧ a < l.length))
theorem Ask.nt {l : List It} {a : Int} {s : Option Nat} (h : Ask l a s) : Go.Proofs.Ytbnnkcofnmipoaa.nth l a = foI l s := by
  rcases h with ⟨k, rfl, rfl, hk⟩ | ⟨rfl, h⟩
  · unfold Go.Proofs.Ytbnnkcofnmipoaa.nth foI; rw [if_pos (by omega)]; simp
  · unfold Go.Proofs.Ytbnnkcofnmipoaa.nth foI
    by_cases ha : 0 ≤ a
    · rw [if_pos ha]; exact List.getElem?_eq_none (by omega)
    · rw [if_neg ha]; rfl
theorem Ask.if {l : List It} {n : Nat} {c : Prop} [Decidable c] {a : Int} (ha : a = (n : Nat)) (hn : c ↔ n < l.length) : Ask l a (if c then some n else none) := by
  by_cases h : c
  · rw [if_pos h]; exact .inl ⟨n, rfl, ha, hn.1 h⟩
  · rw [if_neg h]; exact .inr ⟨rfl, fun g => h (hn.2 (by omega))⟩
theorem Ask.lst (l : List It) : Ask l ((l.length : Int) - 1) (if 0 < l.length then some (l.length - 1) else none) := by
  by_cases h : 0 < l.length
  · rw [if_pos h]; exact .inl ⟨_, rfl, by omega, by omega⟩
  · rw [if_neg h]; exact .inr ⟨rfl, by omega⟩
theorem SlV.extS {w w' : World} {sz n : Nat} {v : Value} {l : List Value} (h : SlV w sz v n l) (x : Ext (fun y _ => w.heap.size ≤ y) w w') : SlV w' sz v n l := h.ext x fun b o cap hv j _ g => by have := h.lt hv; omega
theorem el_bo : elK Try.prog 70 = some (4, 1, 1, [.bool false]) := by kernel_rfl
theorem ni_bo : noInt Try.prog 70 = true := by kernel_rfl
theorem bs_bo1 (b : Bool) : bsV Try.prog 70 1 [(0, .bool b)] = some (4, [.bool b]) := by kernel_rfl
def Eb : Enc Bool where
  cel b := [.bool b]
  sz := 1
  len _ := rfl
  one b v hv := by simp at hv; subst hv; rfl
  pos := by decide
theorem bV_at {w : World} {b o : Nat} {l : List Bool} (h : Row w b o (flat Eb l)) {i : Nat} {x : Bool} (hi : l[i]? = some x) : rd w b (o + i) = some (.bool x) := by
  have := row_cell (row_at Eb h hi) (j := 0) rfl
  rwa [show Eb.sz = 1 from rfl, Nat.mul_one] at this
theorem z_fd : zK Try.prog 35 = some [.int .i64 0, .int .i64 0, .bool false] := by kernel_rfl
/-- The answers and what is told. -/
def ansI (R : List (Option It × Bool)) : List (It × Bool) := R.map fun r => foO r.1
def telI (R : List (Option It × Bool)) : List Bool := R.map fun r => r.2
theorem foO_ok (o : Option It) : (foO o).2 = o.isSome := by cases o <;> rfl
theorem toldI_o {α : Type} {X : List α} {s : Option Nat} {mv : Int × α} (h : ¬ mv.1 = 2 ∧ ¬ mv.1 = 3) : toldI X s mv = true := by unfold toldI; rw [if_neg (by omega)]
set_option maxHeartbeats 4000000 in
set_option maxRecDepth 8000 in
theorem siter_any (ord : List Int) (os : Value) (l : List It) (lv : Value) (ms : List (Int × It)) (mvs : Value) (w : World) (hO0 : SlInt w os ord) (hOb : ord.length ≤ 2147483647) (hl : SlI w lv l) (hlb : l.length ≤ 2147483647) (hms : SlV w 3 mvs ms.length (flat Em ms)) (hmb : ms.length ≤ 2147483647) :
    CallK Try.prog 50 #[os, lv, mvs] w fun v w' => ∃ v1 v2, v = .tuple #[v1, v2] ∧ SlV w' 3 v1 ms.length (flat Ef (ansI (runI l (fun k : It => lb O (rkI ord) (rkI ord k) l) ms).2)) ∧ SlV w' 1 v2 ms.length (flat Eb (telI (runI l (fun k : It => lb O (rkI ord) (rkI ord k) l) ms).2)) ∧ Ext noF w w' := by
  obtain ⟨ka, kc, hkv⟩ := hms.shape
  obtain ⟨la, lc, rfl⟩ := SlV.shape hl
  refine calls_of_W [.tmp 6, .tmp 7] Try.func50 rfl Try.ntmps50 Try.results50 (by simp) fun e he => ?_
  have e0 : e 0 = os := he 0 _ rfl
  have e1 : e 1 = .slice la l.length lc := he 1 _ rfl
  have e2 : e 2 = mvs := he 2 _ rfl
  clear he
  rw [hkv] at e2
  refine W_sq fun K hK => (W_text [true, true] (by kernel_rfl) ?_); simp only [↓List.toList_toArray, ↓rgd, ↓rgf, ↓reduceIte, Nat.reduceEqDiff, rg, ow_50]
  refine hK _ _ ?_; clear hK K
  refine W_sq fun K hK => (W_text [true] (by kernel_rfl) ?_); simp only [↓List.toList_toArray, ↓rgd, ↓rgf, ↓reduceIte, Nat.reduceEqDiff, rg, ow_50]
  refine hK _ _ ?_; clear hK K
  refine W_sq fun K hK => (W_text [true] (by kernel_rfl) ?_); simp only [↓List.toList_toArray, ↓rgd, ↓rgf, ↓reduceIte, Nat.reduceEqDiff, rg, ow_50]
  refine hK _ _ ?_; clear hK K
  refine W_sq fun K hK => (W_text [true] (by kernel_rfl) ?_); simp only [↓List.toList_toArray, ↓rgd, ↓rgf, ↓reduceIte, Nat.reduceEqDiff, rg, ow_50]
  refine hK _ _ ?_; clear hK K
  refine W_seq (W_seq ?_)
  refine W_rg fun K hK => (W_text [true, true, true] (by kernel_rfl) ?_); simp only [↓List.toList_toArray, ↓rgd, ↓rgf, ↓reduceIte, Nat.reduceEqDiff, rg, ow_50, e2]
  refine hK _ _ ?_; clear hK K
  show W _ _ _ _ _ _
  refine W_block (W_loop (fun mm e w' => ∃ (k : Nat) (s : Option Nat), mm = ms.length - k ∧ k ≤ ms.length ∧ s = (runI l (fun k : It => lb O (rkI ord) (rkI ord k) l) (ms.take k)).1 ∧ (∀ j, s = some j → j < l.length) ∧ e 15 = .slice ka ms.length kc ∧ e 16 = .int .i64 ms.length ∧ e 17 = .int .i64 k ∧ e 0 = os ∧ e 1 = .slice la l.length lc ∧ e 10 = .int .i64 (satI s) ∧
      OutE Ef w.heap.size (e 8) (ansI (runI l (fun k : It => lb O (rkI ord) (rkI ord k) l) (ms.take k)).2) w' ∧ OutE Eb w.heap.size (e 9) (telI (runI l (fun k : It => lb O (rkI ord) (rkI ord k) l) (ms.take k)).2) w' ∧ apart2 (e 8) (e 9) ∧ Ext (fun y _ => w.heap.size ≤ y) w w')
    ms.length ⟨0, none, by simp, by simp, rfl, fun j h => (by cases h), by simp only [upd_eq, Nat.reduceEqDiff, ↓reduceIte], by simp only [upd_eq, Nat.reduceEqDiff, ↓reduceIte], by simp only [upd_eq, Nat.reduceEqDiff, ↓reduceIte]; rfl, by simp only [upd_eq, Nat.reduceEqDiff, ↓reduceIte]; exact e0, by simp only [upd_eq, Nat.reduceEqDiff, ↓reduceIte]; exact e1, by simp only [upd_eq, Nat.reduceEqDiff, ↓reduceIte]; rfl, by simp only [upd_eq, Nat.reduceEqDiff, ↓reduceIte]; exact OutE.nil _ _ _, by simp only [upd_eq, Nat.reduceEqDiff, ↓reduceIte]; exact OutE.nil _ _ _, by simp only [upd_eq, Nat.reduceEqDiff, ↓reduceIte]; exact (fun b o n c o' n' c' h => by cases h), Ext.refl _ _⟩ ?_)
  clear e0 e1 e2 e
  rintro mm e w' ⟨k, s, rfl, hk, hsr, hs, eS, eL, eI, e0, e1, e10, hO, hT, hap, X⟩
  have hRl := runI_length l (fun k : It => lb O (rkI ord) (rkI ord k) l) (ms.take k)
  have hkl : (ms.take k).length = k := by rw [List.length_take]; omega
  rw [hkl] at hRl
  by_cases hlt : k < ms.length
  · have ht := lt_tt k ms.length hlt
    refine W_sq fun K hK => (W_text [true] (by kernel_rfl) ?_); simp only [↓List.toList_toArray, ↓rgd, ↓rgf, ↓reduceIte, Nat.reduceEqDiff, rg, ow_50, eL, eI, ht]
    refine hK _ _ ?_; clear hK K
    refine W_seq (W_true (by simp only [evt, evc, upd_eq, Nat.reduceEqDiff, ↓reduceIte, ntT, ntF] <;> rfl) (W_skip ?_))
    show W _ _ _ _ _ _
    obtain ⟨mv, hx⟩ : ∃ x, ms[k]? = some x := ⟨_, List.getElem?_eq_getElem hlt⟩
    obtain ⟨mb, mo, hka, row⟩ := SlV.at hms hkv hlt
    have hml := SlV.lt hms (hkv.trans (by rw [hka]))
    have ixx := mv_at (X.row row fun i _ g => by omega) hx
    rw [hka] at eS
    refine W_seq (W_block ?_)
    refine W_sq fun K hK => (W_text [true, true, false, false] (by kernel_rfl) ?_); simp only [↓List.toList_toArray, ↓rgd, ↓rgf, ↓reduceIte, Nat.reduceEqDiff, rg, ow_50, eS, eI, hlt, ixx]
    refine do_alloc z_mv fun w2 n2 => ⟨trivial, ?_⟩
    simp only [↓List.toList_toArray, ↓rgd, ↓rgf, ↓reduceIte, Nat.reduceEqDiff, rg, ow_50]
    refine do_store (v := mvV mv) (by simp only [evt, evc, upd_eq, Nat.reduceEqDiff, ↓reduceIte, ntT, ntF] <;> rfl) (by simp only [evt, evc, upd_eq, Nat.reduceEqDiff, ↓reduceIte, ntT, ntF] <;> rfl) sz_46 rfl n2.wok (by decide) (Em.one mv) fun w3 x3 r3 s3 => ⟨trivial, ?_⟩
    simp only [↓List.toList_toArray, ↓rgd, ↓rgf, ↓reduceIte, Nat.reduceEqDiff, rg, ow_50]
    refine hK _ _ ?_; clear hK K
    have s2 := n2.size
    have X3 : Ext noF w' w3 := noF_of n2.ext x3 fun y o hy h => by simp only [rng] at h; omega
    have r3' : Row w3 w'.heap.size 0 (Em.cel mv) := r3
    have op3 : rd w3 w'.heap.size 0 = some (.int .i64 mv.1) := (Row.cons.1 r3').1
    have key3 : rdA w3 w'.heap.size 1 2 = some (iV mv.2) := (r3'.drop 1).rdA 2 (Nat.le_refl _)
    rw [← hka] at eS
    have XX := X.tr (X3.mono fun _ _ _ g => g.elim)
    obtain ⟨ov, hov⟩ : ∃ ov, ov = e 8 := ⟨_, rfl⟩
    obtain ⟨tv, htv⟩ : ∃ tv, tv = e 9 := ⟨_, rfl⟩
    have hO3 := hO.ext X3
    have hT3 := hT.ext X3
    rw [← hov] at hO3 hap
    rw [← htv] at hT3 hap
    have e8 : e 8 = ov := hov.symm
    have e9 : e 9 = tv := htv.symm
    clear r3 r3' x3 n2 hO hT X
    refine W_sq fun K hK => (W_text [true] (by kernel_rfl) ?_); simp only [↓List.toList_toArray, ↓rgd, ↓rgf, ↓reduceIte, Nat.reduceEqDiff, rg, ow_50]
    refine hK _ _ ?_; clear hK K
    refine W_sqx fun J hJ => ?_
    have hmid : ∀ (e : Env) (w4 : World) (a : Int), Ask l a (stepI l (fun k : It => lb O (rkI ord) (rkI ord k) l) s mv) → Ext noF w3 w4 → e 0 = os → e 1 = .slice la l.length lc → e 8 = ov → e 9 = tv → e 10 = .int .i64 a → e 13 = .bool (toldI l s mv) → e 15 = .slice ka ms.length kc → e 16 = .int .i64 ms.length → e 17 = .int .i64 k → J e w4 := by
      clear eS eL eI e0 e1 e8 e9 e10 hov htv op3 key3 e
      intro e w4 a hA X4 e0 e1 e8 e9 e10 e13 eS eL eI
      refine hJ _ _ ?_; clear hJ J
      have XX4 := XX.tr (X4.mono fun _ _ _ g => g.elim)
      refine W_sq fun K hK => (W_text [true, true, false, false, false] (by kernel_rfl) ?_); simp only [↓List.toList_toArray, ↓rgd, ↓rgf, ↓reduceIte, Nat.reduceEqDiff, rg, ow_50, e1, e10]
      refine do_call fn_81 (vs := #[.slice la l.length lc, .int .i64 a]) (by simp only [evt, evc, upd_eq, Nat.reduceEqDiff, ↓reduceIte, maT, maC, maN, isnN, isnS] <;> rfl) (sat_any l _ a w4 (SlV.extS hl XX4) (by omega)) ?_
      rintro _ w5 ⟨rfl, X5⟩
      refine ⟨trivial, ?_⟩
      simp only [↓List.toList_toArray, ↓rgd, ↓rgf, ↓reduceIte, Nat.reduceEqDiff, rg, ow_50]
      refine do_alloc z_fd fun w6 n6 => ⟨trivial, ?_⟩
      simp only [↓List.toList_toArray, ↓rgd, ↓rgf, ↓reduceIte, Nat.reduceEqDiff, rg, ow_50]
      refine do_store (v := foV (foO (nth l a))) (by simp only [evt, evc, upd_eq, Nat.reduceEqDiff, ↓reduceIte, ntT, ntF] <;> rfl) (by simp only [evt, evc, upd_eq, Nat.reduceEqDiff, ↓reduceIte, ntT, ntF] <;> rfl) sz_35 rfl n6.wok (by decide) (oc_fo _) fun w7 x7 r7 s7 => ⟨trivial, ?_⟩
      simp only [↓List.toList_toArray, ↓rgd, ↓rgf, ↓reduceIte, Nat.reduceEqDiff, rg, ow_50]
      refine hK _ _ ?_; clear hK K
      have s6 := n6.size
      have X7 : Ext noF w4 w7 := noF_of (X5.tr n6.ext) x7 fun y o hy h => by have := X5.size; simp only [rng] at h; omega
      have r7' : Row w7 w5.heap.size 0 (Ef.cel (foO (nth l a))) := r7
      have fd7 : rdA w7 w5.heap.size 0 3 = some (foV (foO (nth l a))) := r7'.rdA 3 (Nat.le_refl _)
      have ok7 : rd w7 w5.heap.size 2 = some (.bool (foO (nth l a)).2) := (Row.cons.1 (Row.cons.1 (Row.cons.1 r7').2).2).1
      have hnth := hA.nt
      rw [foO_ok, hnth] at ok7
      rw [hnth] at fd7
      have hO7 := (hO3.ext X4).ext X7
      have hT7 := (hT3.ext X4).ext X7
      have XX7 := XX4.tr (X7.mono fun _ _ _ g => g.elim)
      clear r7 r7' x7 n6 X5
      refine W_sqx fun J hJ => ?_
      have hend : ∀ (e : Env), e 0 = os → e 1 = .slice la l.length lc → e 8 = ov → e 9 = tv → e 10 = .int .i64 (satI (stepI l (fun k : It => lb O (rkI ord) (rkI ord k) l) s mv)) → e 13 = .bool (toldI l s mv) → e 14 = ptr w5.heap.size → e 15 = .slice ka ms.length kc → e 16 = .int .i64 ms.length → e 17 = .int .i64 k → J e w7 := by
        clear eS eL eI e0 e1 e8 e9 e10 e13 e
        intro e e0 e1 e8 e9 e10 e13 e14 eS eL eI
        refine hJ _ _ ?_; clear hJ J
        refine W_rg fun K hK => (W_text [true, true, false, false, true, true, false, false, true, true] (by kernel_rfl) ?_); simp only [↓List.toList_toArray, ↓rgd, ↓rgf, ↓reduceIte, Nat.reduceEqDiff, rg, ow_50, e8, e9, e13, e14, ptr_eq, fd7]
        refine do_bsl rfl (bs_fo1 (foO (foI l (stepI l (fun k : It => lb O (rkI ord) (rkI ord k) l) s mv)))) fun w8 n8 => ⟨trivial, ?_⟩
        simp only [↓List.toList_toArray, ↓rgd, ↓rgf, ↓reduceIte, Nat.reduceEqDiff, rg, ow_50, e8, e9, e13]
        have hOl : (ansI (runI l (fun k : It => lb O (rkI ord) (rkI ord k) l) (ms.take k)).2).length = k := by unfold ansI; rw [List.length_map]; exact hRl
        have hTl : (telI (runI l (fun k : It => lb O (rkI ord) (rkI ord k) l) (ms.take k)).2).length = k := by unfold telI; rw [List.length_map]; exact hRl
        refine do_append (by simp only [evt, evc, upd_eq, Nat.reduceEqDiff, ↓reduceIte, ntT, ntF] <;> rfl) (by simp only [evt, evc, upd_eq, Nat.reduceEqDiff, ↓reduceIte, ntT, ntF] <;> rfl) el_fo rfl ni_fo (hO7.ext n8.ext).sl (u := .slice (some ⟨w7.heap.size, 0, none⟩) 1 1) (m := 1) (l' := Ef.cel (foO (foI l (stepI l (fun k : It => lb O (rkI ord) (rkI ord k) l) s mv)))) ⟨rfl, .inr ⟨_, 0, 1, rfl, Nat.le_refl _, n8.row, n8.wok.R (Nat.le_refl _)⟩⟩ (by omega) (by decide) (Ef.one _) fun v9 w9 a9 => ⟨trivial, ?_⟩
        have s8 := n8.size
        have sX7 := XX7.size
        obtain ⟨hO9, X9⟩ := (hO7.ext n8.ext).app (E := Ef) a9 (by omega)
        obtain ⟨hT9, hap9⟩ := app_other a9 (hT7.ext n8.ext).sl hap
        have s9 := X9.size
        simp only [↓List.toList_toArray, ↓rgd, ↓rgf, ↓reduceIte, Nat.reduceEqDiff, rg, ow_50, e8, e9, e13]
        refine do_bsl rfl (bs_bo1 (toldI l s mv)) fun w10 n10 => ⟨trivial, ?_⟩
        simp only [↓List.toList_toArray, ↓rgd, ↓rgf, ↓reduceIte, Nat.reduceEqDiff, rg, ow_50, e9]
        have hT10 : OutE Eb w.heap.size tv (telI (runI l (fun k : It => lb O (rkI ord) (rkI ord k) l) (ms.take k)).2) w10 := ⟨hT9.ext0 n10.ext, hT7.si⟩
        refine do_append (by simp only [evt, evc, upd_eq, Nat.reduceEqDiff, ↓reduceIte, ntT, ntF] <;> rfl) (by simp only [evt, evc, upd_eq, Nat.reduceEqDiff, ↓reduceIte, ntT, ntF] <;> rfl) el_bo rfl ni_bo hT10.sl (u := .slice (some ⟨w9.heap.size, 0, none⟩) 1 1) (m := 1) (l' := Eb.cel (toldI l s mv)) ⟨rfl, .inr ⟨_, 0, 1, rfl, Nat.le_refl _, n10.row, n10.wok.R (Nat.le_refl _)⟩⟩ (by omega) (by decide) (Eb.one _) fun v11 w11 a11 => ⟨trivial, ?_⟩
        have s10 := n10.size
        obtain ⟨hT11, X11⟩ := hT10.app (E := Eb) a11 (by omega)
        obtain ⟨hO11, hap11⟩ := app_other a11 (hO9.ext n10.ext).sl hap9.symm
        simp only [↓List.toList_toArray, ↓rgd, ↓rgf, ↓reduceIte, Nat.reduceEqDiff, rg, ow_50]
        refine hK _ _ ?_; clear hK K
        show W _ _ _ _ _ _
        have q1 := wadd1 k (by omega)
        refine W_rg fun K hK => (W_text [true, true] (by kernel_rfl) ?_); simp only [↓List.toList_toArray, ↓rgd, ↓rgf, ↓reduceIte, Nat.reduceEqDiff, rg, ow_50, eI, q1]
        refine hK _ _ ?_; clear hK K
        have hrs := runI_succ l (fun k : It => lb O (rkI ord) (rkI ord k) l) hx
        unfold nextI at hrs
        rw [← hsr] at hrs
        refine ⟨_, ?_, k + 1, (stepI l (fun k : It => lb O (rkI ord) (rkI ord k) l) s mv), rfl, hlt, by rw [hrs], fun j hj => stepI_lt hs hj, by simp only [upd_eq, Nat.reduceEqDiff, ↓reduceIte]; exact eS, by simp only [upd_eq, Nat.reduceEqDiff, ↓reduceIte]; exact eL, by simp only [upd_eq, Nat.reduceEqDiff, ↓reduceIte], by simp only [upd_eq, Nat.reduceEqDiff, ↓reduceIte]; exact e0, by simp only [upd_eq, Nat.reduceEqDiff, ↓reduceIte]; exact e1, by simp only [upd_eq, Nat.reduceEqDiff, ↓reduceIte]; exact e10, ?_, ?_, ?_, ?_⟩
        · omega
        · simp only [upd_eq, Nat.reduceEqDiff, ↓reduceIte]; rw [hrs]; unfold ansI; rw [List.map_append, List.map_singleton]; exact ⟨hO11, hO9.si⟩
        · simp only [upd_eq, Nat.reduceEqDiff, ↓reduceIte]; rw [hrs]; unfold telI; rw [List.map_append, List.map_singleton]; exact hT11
        · simp only [upd_eq, Nat.reduceEqDiff, ↓reduceIte]; exact hap11.symm
        · exact (((XX7.tr (n8.ext.mono fun _ _ _ g => g.elim)).tr X9).tr (n10.ext.mono fun _ _ _ g => g.elim)).tr X11
      clear hJ
      rcases hA with ⟨kk, hk1, rfl, hkl2⟩ | ⟨hk1, -⟩
      · have hso : (foI l (stepI l (fun k : It => lb O (rkI ord) (rkI ord k) l) s mv)).isSome = true := by rw [hk1]; unfold foI; simp [hkl2]
        rw [hso] at ok7
        refine W_sq fun K hK => (W_text [true, true, true] (by kernel_rfl) ?_); simp only [↓List.toList_toArray, ↓rgd, ↓rgf, ↓reduceIte, Nat.reduceEqDiff, rg, ow_50, ok7]
        refine hK _ _ ?_; clear hK K
        refine W_false (by simp only [evt, evc, upd_eq, Nat.reduceEqDiff, ↓reduceIte, ntT, ntF] <;> rfl) (W_skip ?_)
        exact hend _ (by simp only [upd_eq, Nat.reduceEqDiff, ↓reduceIte]; exact e0) (by simp only [upd_eq, Nat.reduceEqDiff, ↓reduceIte]; exact e1) (by simp only [upd_eq, Nat.reduceEqDiff, ↓reduceIte]; exact e8) (by simp only [upd_eq, Nat.reduceEqDiff, ↓reduceIte]; exact e9) (by simp only [upd_eq, Nat.reduceEqDiff, ↓reduceIte]; rw [hk1]; exact e10) (by simp only [upd_eq, Nat.reduceEqDiff, ↓reduceIte]; exact e13) (by simp only [upd_eq, Nat.reduceEqDiff, ↓reduceIte] <;> rfl) (by simp only [upd_eq, Nat.reduceEqDiff, ↓reduceIte]; exact eS) (by simp only [upd_eq, Nat.reduceEqDiff, ↓reduceIte]; exact eL) (by simp only [upd_eq, Nat.reduceEqDiff, ↓reduceIte]; exact eI)
      · have hso : (foI l (stepI l (fun k : It => lb O (rkI ord) (rkI ord k) l) s mv)).isSome = false := by rw [hk1]; rfl
        rw [hso] at ok7
        refine W_sq fun K hK => (W_text [true, true, true] (by kernel_rfl) ?_); simp only [↓List.toList_toArray, ↓rgd, ↓rgf, ↓reduceIte, Nat.reduceEqDiff, rg, ow_50, ok7]
        refine hK _ _ ?_; clear hK K
        refine W_true (by simp only [evt, evc, upd_eq, Nat.reduceEqDiff, ↓reduceIte, ntT, ntF] <;> rfl) ?_
        refine W_rg fun K hK => (W_text [true] (by kernel_rfl) ?_); simp only [↓List.toList_toArray, ↓rgd, ↓rgf, ↓reduceIte, Nat.reduceEqDiff, rg, ow_50]
        refine hK _ _ ?_; clear hK K
        exact hend _ (by simp only [upd_eq, Nat.reduceEqDiff, ↓reduceIte]; exact e0) (by simp only [upd_eq, Nat.reduceEqDiff, ↓reduceIte]; exact e1) (by simp only [upd_eq, Nat.reduceEqDiff, ↓reduceIte]; exact e8) (by simp only [upd_eq, Nat.reduceEqDiff, ↓reduceIte]; exact e9) (by simp only [upd_eq, Nat.reduceEqDiff, ↓reduceIte]; rw [hk1]; rfl) (by simp only [upd_eq, Nat.reduceEqDiff, ↓reduceIte]; exact e13) (by simp only [upd_eq, Nat.reduceEqDiff, ↓reduceIte] <;> rfl) (by simp only [upd_eq, Nat.reduceEqDiff, ↓reduceIte]; exact eS) (by simp only [upd_eq, Nat.reduceEqDiff, ↓reduceIte]; exact eL) (by simp only [upd_eq, Nat.reduceEqDiff, ↓reduceIte]; exact eI)
    clear hJ
    refine W_sq fun K hK => (W_text [true, true] (by kernel_rfl) ?_); simp only [↓List.toList_toArray, ↓rgd, ↓rgf, ↓reduceIte, Nat.reduceEqDiff, rg, ow_50, op3]
    refine hK _ _ ?_; clear hK K
    refine W_block (W_seq ?_)
    by_cases h2 : mv.1 = 2
    · have c2 : (mv.1 == 2) = true := by rw [beq_iff_eq]; exact h2
      refine W_sq fun K hK => (W_text [true, true] (by kernel_rfl) ?_); simp only [↓List.toList_toArray, ↓rgd, ↓rgf, ↓reduceIte, Nat.reduceEqDiff, rg, ow_50, c2]
      refine hK _ _ ?_; clear hK K
      refine W_true (by simp only [evt, evc, upd_eq, Nat.reduceEqDiff, ↓reduceIte, ntT, ntF] <;> rfl) (W_skip ?_)
      show W _ _ _ _ _ _
      refine W_true (by simp only [evt, evc, upd_eq, Nat.reduceEqDiff, ↓reduceIte, ntT, ntF] <;> rfl) ?_
      cases s with
      | some i =>
        have hil := hs i rfl
        have g0 : decide ((0 : Int) ≤ ((i : Nat) : Int)) = true := by simp
        have e10 : e 10 = .int .i64 ((i : Nat) : Int) := e10
        refine W_sq fun K hK => (W_text [true, true, true, true, true, true, true, true] (by kernel_rfl) ?_); simp only [↓List.toList_toArray, ↓rgd, ↓rgf, ↓reduceIte, Nat.reduceEqDiff, rg, ow_50, e10, g0]
        refine hK _ _ ?_; clear hK K
        refine W_sq fun K hK => (W_text [true, true, true, true, true, true, true] (by kernel_rfl) ?_); simp only [↓List.toList_toArray, ↓rgd, ↓rgf, ↓reduceIte, Nat.reduceEqDiff, rg, ow_50, e10, g0, op3, c2]
        refine hK _ _ ?_; clear hK K
        refine W_true (by simp only [evt, evc, upd_eq, Nat.reduceEqDiff, ↓reduceIte, ntT, ntF] <;> rfl) ?_
        have q1 := wadd1 i (by omega)
        refine W_rg fun K hK => (W_text [true, true, true] (by kernel_rfl) ?_); simp only [↓List.toList_toArray, ↓rgd, ↓rgf, ↓reduceIte, Nat.reduceEqDiff, rg, ow_50, e10, q1]
        refine hK _ _ ?_; clear hK K
        exact hmid _ _ ((i + 1 : Nat) : Int) (by rw [stepI_2 h2]; exact Ask.if rfl Iff.rfl) (Ext.refl _ _) (by simp only [upd_eq, Nat.reduceEqDiff, ↓reduceIte]; exact e0) (by simp only [upd_eq, Nat.reduceEqDiff, ↓reduceIte]; exact e1) (by simp only [upd_eq, Nat.reduceEqDiff, ↓reduceIte]; exact e8) (by simp only [upd_eq, Nat.reduceEqDiff, ↓reduceIte]; exact e9) (by simp only [upd_eq, Nat.reduceEqDiff, ↓reduceIte]) (by simp only [upd_eq, Nat.reduceEqDiff, ↓reduceIte]; rw [toldI_r (.inl h2)]; rfl) (by simp only [upd_eq, Nat.reduceEqDiff, ↓reduceIte]; exact eS) (by simp only [upd_eq, Nat.reduceEqDiff, ↓reduceIte]; exact eL) (by simp only [upd_eq, Nat.reduceEqDiff, ↓reduceIte]; exact eI)
      | none =>
        have g0 : decide ((0 : Int) ≤ -1) = false := rfl
        have e10 : e 10 = .int .i64 (-1) := e10
        obtain ⟨kn, hkn⟩ : ∃ kn : Bool, ((l.length : Int) == 0) = kn := ⟨_, rfl⟩
        have hk2 : toldI l none mv = kn := by
          rw [toldI_r (by omega), ← hkn]
          cases l with
          | nil => rfl
          | cons x l => simp; omega
        refine W_sq fun K hK => (W_text [true, true, true, true, true, true, true, true] (by kernel_rfl) ?_); simp only [↓List.toList_toArray, ↓rgd, ↓rgf, ↓reduceIte, Nat.reduceEqDiff, rg, ow_50, e1, e10, g0, hkn]
        refine hK _ _ ?_; clear hK K
        refine W_sq fun K hK => (W_text [true, true, true, true, true, true, true] (by kernel_rfl) ?_); simp only [↓List.toList_toArray, ↓rgd, ↓rgf, ↓reduceIte, Nat.reduceEqDiff, rg, ow_50, e10, g0]
        refine hK _ _ ?_; clear hK K
        refine W_false (by simp only [evt, evc, upd_eq, Nat.reduceEqDiff, ↓reduceIte, ntT, ntF] <;> rfl) ?_
        refine W_sq fun K hK => (W_text [true, true] (by kernel_rfl) ?_); simp only [↓List.toList_toArray, ↓rgd, ↓rgf, ↓reduceIte, Nat.reduceEqDiff, rg, ow_50, e10, g0]
        refine hK _ _ ?_; clear hK K
        refine W_false (by simp only [evt, evc, upd_eq, Nat.reduceEqDiff, ↓reduceIte, ntT, ntF] <;> rfl) (W_skip ?_)
        exact hmid _ _ (-1) (by rw [stepI_2 h2]; exact .inr ⟨rfl, by omega⟩) (Ext.refl _ _) (by simp only [upd_eq, Nat.reduceEqDiff, ↓reduceIte]; exact e0) (by simp only [upd_eq, Nat.reduceEqDiff, ↓reduceIte]; exact e1) (by simp only [upd_eq, Nat.reduceEqDiff, ↓reduceIte]; exact e8) (by simp only [upd_eq, Nat.reduceEqDiff, ↓reduceIte]; exact e9) (by simp only [upd_eq, Nat.reduceEqDiff, ↓reduceIte]; exact e10) (by simp only [upd_eq, Nat.reduceEqDiff, ↓reduceIte]; rw [hk2]) (by simp only [upd_eq, Nat.reduceEqDiff, ↓reduceIte]; exact eS) (by simp only [upd_eq, Nat.reduceEqDiff, ↓reduceIte]; exact eL) (by simp only [upd_eq, Nat.reduceEqDiff, ↓reduceIte]; exact eI)
    · have c2 : (mv.1 == 2) = false := by rw [beq_eq_false_iff_ne]; exact h2
      refine W_sq fun K hK => (W_text [true, true] (by kernel_rfl) ?_); simp only [↓List.toList_toArray, ↓rgd, ↓rgf, ↓reduceIte, Nat.reduceEqDiff, rg, ow_50, c2]
      refine hK _ _ ?_; clear hK K
      refine W_false (by simp only [evt, evc, upd_eq, Nat.reduceEqDiff, ↓reduceIte, ntT, ntF] <;> rfl) ?_
      by_cases h3 : mv.1 = 3
      · have c3 : (mv.1 == 3) = true := by rw [beq_iff_eq]; exact h3
        refine W_rg fun K hK => (W_text [true, true] (by kernel_rfl) ?_); simp only [↓List.toList_toArray, ↓rgd, ↓rgf, ↓reduceIte, Nat.reduceEqDiff, rg, ow_50, c3]
        refine hK _ _ ?_; clear hK K
        show W _ _ _ _ _ _
        refine W_true (by simp only [evt, evc, upd_eq, Nat.reduceEqDiff, ↓reduceIte, ntT, ntF] <;> rfl) ?_
        cases s with
        | some i =>
          have hil := hs i rfl
          have g0 : decide ((0 : Int) ≤ ((i : Nat) : Int)) = true := by simp
          have e10 : e 10 = .int .i64 ((i : Nat) : Int) := e10
          refine W_sq fun K hK => (W_text [true, true, true, true, true, true, true, true] (by kernel_rfl) ?_); simp only [↓List.toList_toArray, ↓rgd, ↓rgf, ↓reduceIte, Nat.reduceEqDiff, rg, ow_50, e10, g0]
          refine hK _ _ ?_; clear hK K
          refine W_sq fun K hK => (W_text [true, true, true, true, true, true, true] (by kernel_rfl) ?_); simp only [↓List.toList_toArray, ↓rgd, ↓rgf, ↓reduceIte, Nat.reduceEqDiff, rg, ow_50, e10, g0, op3, c2]
          refine hK _ _ ?_; clear hK K
          refine W_false (by simp only [evt, evc, upd_eq, Nat.reduceEqDiff, ↓reduceIte, ntT, ntF] <;> rfl) ?_
          refine W_sq fun K hK => (W_text [true, true] (by kernel_rfl) ?_); simp only [↓List.toList_toArray, ↓rgd, ↓rgf, ↓reduceIte, Nat.reduceEqDiff, rg, ow_50, e10, g0]
          refine hK _ _ ?_; clear hK K
          refine W_true (by simp only [evt, evc, upd_eq, Nat.reduceEqDiff, ↓reduceIte, ntT, ntF] <;> rfl) ?_
          have q1 : IntKind.i64.wrap ((i : Int) - 1) = (i : Int) - 1 := by rw [IntWalk.i64_in _ (by omega)]
          refine W_rg fun K hK => (W_text [true, true, true] (by kernel_rfl) ?_); simp only [↓List.toList_toArray, ↓rgd, ↓rgf, ↓reduceIte, Nat.reduceEqDiff, rg, ow_50, e10, q1]
          refine hK _ _ ?_; clear hK K
          exact hmid _ _ ((i : Int) - 1) (by
              rw [stepI_3 h3]
              show Ask l _ (if 0 < i then some (i - 1) else none)
              by_cases hi : 0 < i
              · rw [if_pos hi]; exact .inl ⟨i - 1, rfl, by omega, by omega⟩
              · rw [if_neg hi]; exact .inr ⟨rfl, by omega⟩) (Ext.refl _ _) (by simp only [upd_eq, Nat.reduceEqDiff, ↓reduceIte]; exact e0) (by simp only [upd_eq, Nat.reduceEqDiff, ↓reduceIte]; exact e1) (by simp only [upd_eq, Nat.reduceEqDiff, ↓reduceIte]; exact e8) (by simp only [upd_eq, Nat.reduceEqDiff, ↓reduceIte]; exact e9) (by simp only [upd_eq, Nat.reduceEqDiff, ↓reduceIte]) (by simp only [upd_eq, Nat.reduceEqDiff, ↓reduceIte]; rw [toldI_r (.inr h3)]; rfl) (by simp only [upd_eq, Nat.reduceEqDiff, ↓reduceIte]; exact eS) (by simp only [upd_eq, Nat.reduceEqDiff, ↓reduceIte]; exact eL) (by simp only [upd_eq, Nat.reduceEqDiff, ↓reduceIte]; exact eI)
        | none =>
          have g0 : decide ((0 : Int) ≤ -1) = false := rfl
          have e10 : e 10 = .int .i64 (-1) := e10
          obtain ⟨kn, hkn⟩ : ∃ kn : Bool, ((l.length : Int) == 0) = kn := ⟨_, rfl⟩
          have hk2 : toldI l none mv = kn := by
            rw [toldI_r (by omega), ← hkn]
            cases l with
            | nil => rfl
            | cons x l => simp; omega
          refine W_sq fun K hK => (W_text [true, true, true, true, true, true, true, true] (by kernel_rfl) ?_); simp only [↓List.toList_toArray, ↓rgd, ↓rgf, ↓reduceIte, Nat.reduceEqDiff, rg, ow_50, e1, e10, g0, hkn]
          refine hK _ _ ?_; clear hK K
          refine W_sq fun K hK => (W_text [true, true, true, true, true, true, true] (by kernel_rfl) ?_); simp only [↓List.toList_toArray, ↓rgd, ↓rgf, ↓reduceIte, Nat.reduceEqDiff, rg, ow_50, e10, g0]
          refine hK _ _ ?_; clear hK K
          refine W_false (by simp only [evt, evc, upd_eq, Nat.reduceEqDiff, ↓reduceIte, ntT, ntF] <;> rfl) ?_
          refine W_sq fun K hK => (W_text [true, true] (by kernel_rfl) ?_); simp only [↓List.toList_toArray, ↓rgd, ↓rgf, ↓reduceIte, Nat.reduceEqDiff, rg, ow_50, e10, g0]
          refine hK _ _ ?_; clear hK K
          refine W_false (by simp only [evt, evc, upd_eq, Nat.reduceEqDiff, ↓reduceIte, ntT, ntF] <;> rfl) (W_skip ?_)
          exact hmid _ _ (-1) (by rw [stepI_3 h3]; exact .inr ⟨rfl, by omega⟩) (Ext.refl _ _) (by simp only [upd_eq, Nat.reduceEqDiff, ↓reduceIte]; exact e0) (by simp only [upd_eq, Nat.reduceEqDiff, ↓reduceIte]; exact e1) (by simp only [upd_eq, Nat.reduceEqDiff, ↓reduceIte]; exact e8) (by simp only [upd_eq, Nat.reduceEqDiff, ↓reduceIte]; exact e9) (by simp only [upd_eq, Nat.reduceEqDiff, ↓reduceIte]; exact e10) (by simp only [upd_eq, Nat.reduceEqDiff, ↓reduceIte]; rw [hk2]) (by simp only [upd_eq, Nat.reduceEqDiff, ↓reduceIte]; exact eS) (by simp only [upd_eq, Nat.reduceEqDiff, ↓reduceIte]; exact eL) (by simp only [upd_eq, Nat.reduceEqDiff, ↓reduceIte]; exact eI)
      · have c3 : (mv.1 == 3) = false := by rw [beq_eq_false_iff_ne]; exact h3
        refine W_rg fun K hK => (W_text [true, true] (by kernel_rfl) ?_); simp only [↓List.toList_toArray, ↓rgd, ↓rgf, ↓reduceIte, Nat.reduceEqDiff, rg, ow_50, c3]
        refine hK _ _ ?_; clear hK K
        show W _ _ _ _ _ _
        refine W_false (by simp only [evt, evc, upd_eq, Nat.reduceEqDiff, ↓reduceIte, ntT, ntF] <;> rfl) ?_
        by_cases h1 : mv.1 = 1
        · have c1 : (mv.1 == 1) = true := by rw [beq_iff_eq]; exact h1
          refine W_sq fun K hK => (W_text [true, true] (by kernel_rfl) ?_); simp only [↓List.toList_toArray, ↓rgd, ↓rgf, ↓reduceIte, Nat.reduceEqDiff, rg, ow_50, c1]
          refine hK _ _ ?_; clear hK K
          refine W_true (by simp only [evt, evc, upd_eq, Nat.reduceEqDiff, ↓reduceIte, ntT, ntF] <;> rfl) ?_
          have q1 : IntKind.i64.wrap ((l.length : Int) - 1) = (l.length : Int) - 1 := by rw [IntWalk.i64_in _ (by omega)]
          refine W_rg fun K hK => (W_text [true, true, true, true] (by kernel_rfl) ?_); simp only [↓List.toList_toArray, ↓rgd, ↓rgf, ↓reduceIte, Nat.reduceEqDiff, rg, ow_50, e1, q1]
          refine hK _ _ ?_; clear hK K
          exact hmid _ _ ((l.length : Int) - 1) (by rw [stepI_1 h1]; exact Ask.lst l) (Ext.refl _ _) (by simp only [upd_eq, Nat.reduceEqDiff, ↓reduceIte]; exact e0) (by simp only [upd_eq, Nat.reduceEqDiff, ↓reduceIte]; exact e1) (by simp only [upd_eq, Nat.reduceEqDiff, ↓reduceIte]; exact e8) (by simp only [upd_eq, Nat.reduceEqDiff, ↓reduceIte]; exact e9) (by simp only [upd_eq, Nat.reduceEqDiff, ↓reduceIte]) (by simp only [upd_eq, Nat.reduceEqDiff, ↓reduceIte]; rw [toldI_o (by omega)]) (by simp only [upd_eq, Nat.reduceEqDiff, ↓reduceIte]; exact eS) (by simp only [upd_eq, Nat.reduceEqDiff, ↓reduceIte]; exact eL) (by simp only [upd_eq, Nat.reduceEqDiff, ↓reduceIte]; exact eI)
        · have c1 : (mv.1 == 1) = false := by rw [beq_eq_false_iff_ne]; exact h1
          refine W_sq fun K hK => (W_text [true, true] (by kernel_rfl) ?_); simp only [↓List.toList_toArray, ↓rgd, ↓rgf, ↓reduceIte, Nat.reduceEqDiff, rg, ow_50, c1]
          refine hK _ _ ?_; clear hK K
          refine W_false (by simp only [evt, evc, upd_eq, Nat.reduceEqDiff, ↓reduceIte, ntT, ntF] <;> rfl) ?_
          refine W_seq ?_
          by_cases h4 : mv.1 = 4
          · have c4 : (mv.1 == 4) = true := by rw [beq_iff_eq]; exact h4
            refine W_sq fun K hK => (W_text [true, true] (by kernel_rfl) ?_); simp only [↓List.toList_toArray, ↓rgd, ↓rgf, ↓reduceIte, Nat.reduceEqDiff, rg, ow_50, c4]
            refine hK _ _ ?_; clear hK K
            refine W_true (by simp only [evt, evc, upd_eq, Nat.reduceEqDiff, ↓reduceIte, ntT, ntF] <;> rfl) (W_skip ?_)
            show W _ _ _ _ _ _
            refine W_true (by simp only [evt, evc, upd_eq, Nat.reduceEqDiff, ↓reduceIte, ntT, ntF] <;> rfl) ?_
            have key : ((fun k : It => lb O (rkI ord) (rkI ord k) l) mv.2) = (fun k : It => lb O (rkI ord) (rkI ord k) l) mv.2 := rfl
            refine W_rg fun K hK => (W_text [true, true, true, true, false, true, true, true, true] (by kernel_rfl) ?_); simp only [↓List.toList_toArray, ↓rgd, ↓rgf, ↓reduceIte, Nat.reduceEqDiff, rg, ow_50, e0, e1, key3]
            refine do_call fn_78 (vs := #[os, .slice la l.length lc, iV mv.2]) (by simp only [evt, evc, upd_eq, Nat.reduceEqDiff, ↓reduceIte, maT, maC, maN, isnN, isnS] <;> rfl) (place_ord os ord l _ mv.2 w3 (SlV.extS hO0 XX) hOb (SlV.extS hl XX) (by omega)) ?_
            rintro _ w4 ⟨rfl, X4⟩
            refine ⟨trivial, ?_⟩
            simp only [↓List.toList_toArray, ↓rgd, ↓rgf, ↓reduceIte, Nat.reduceEqDiff, rg, ow_50]
            refine hK _ _ ?_; clear hK K
            exact hmid _ _ ((lb O (rkI ord) (rkI ord mv.2) l : Nat) : Int) (by rw [stepI_4 (pl := (fun k : It => lb O (rkI ord) (rkI ord k) l)) (by omega)]; exact Ask.if rfl Iff.rfl) X4 (by simp only [upd_eq, Nat.reduceEqDiff, ↓reduceIte]; exact e0) (by simp only [upd_eq, Nat.reduceEqDiff, ↓reduceIte]; exact e1) (by simp only [upd_eq, Nat.reduceEqDiff, ↓reduceIte]; exact e8) (by simp only [upd_eq, Nat.reduceEqDiff, ↓reduceIte]; exact e9) (by simp only [upd_eq, Nat.reduceEqDiff, ↓reduceIte]) (by simp only [upd_eq, Nat.reduceEqDiff, ↓reduceIte]; rw [toldI_o (by omega)]) (by simp only [upd_eq, Nat.reduceEqDiff, ↓reduceIte]; exact eS) (by simp only [upd_eq, Nat.reduceEqDiff, ↓reduceIte]; exact eL) (by simp only [upd_eq, Nat.reduceEqDiff, ↓reduceIte]; exact eI)
          · have c4 : (mv.1 == 4) = false := by rw [beq_eq_false_iff_ne]; exact h4
            refine W_sq fun K hK => (W_text [true, true] (by kernel_rfl) ?_); simp only [↓List.toList_toArray, ↓rgd, ↓rgf, ↓reduceIte, Nat.reduceEqDiff, rg, ow_50, c4]
            refine hK _ _ ?_; clear hK K
            refine W_false (by simp only [evt, evc, upd_eq, Nat.reduceEqDiff, ↓reduceIte, ntT, ntF] <;> rfl) ?_
            by_cases h5 : mv.1 = 5
            · have c5 : (mv.1 == 5) = true := by rw [beq_iff_eq]; exact h5
              refine W_rg fun K hK => (W_text [true, true] (by kernel_rfl) ?_); simp only [↓List.toList_toArray, ↓rgd, ↓rgf, ↓reduceIte, Nat.reduceEqDiff, rg, ow_50, c5]
              refine hK _ _ ?_; clear hK K
              show W _ _ _ _ _ _
              refine W_true (by simp only [evt, evc, upd_eq, Nat.reduceEqDiff, ↓reduceIte, ntT, ntF] <;> rfl) ?_
              have key : ((fun k : It => lb O (rkI ord) (rkI ord k) l) mv.2) = (fun k : It => lb O (rkI ord) (rkI ord k) l) mv.2 := rfl
              refine W_rg fun K hK => (W_text [true, true, true, true, false, true, true, true, true] (by kernel_rfl) ?_); simp only [↓List.toList_toArray, ↓rgd, ↓rgf, ↓reduceIte, Nat.reduceEqDiff, rg, ow_50, e0, e1, key3]
              refine do_call fn_78 (vs := #[os, .slice la l.length lc, iV mv.2]) (by simp only [evt, evc, upd_eq, Nat.reduceEqDiff, ↓reduceIte, maT, maC, maN, isnN, isnS] <;> rfl) (place_ord os ord l _ mv.2 w3 (SlV.extS hO0 XX) hOb (SlV.extS hl XX) (by omega)) ?_
              rintro _ w4 ⟨rfl, X4⟩
              refine ⟨trivial, ?_⟩
              simp only [↓List.toList_toArray, ↓rgd, ↓rgf, ↓reduceIte, Nat.reduceEqDiff, rg, ow_50]
              refine hK _ _ ?_; clear hK K
              exact hmid _ _ ((lb O (rkI ord) (rkI ord mv.2) l : Nat) : Int) (by rw [stepI_4 (pl := (fun k : It => lb O (rkI ord) (rkI ord k) l)) (by omega)]; exact Ask.if rfl Iff.rfl) X4 (by simp only [upd_eq, Nat.reduceEqDiff, ↓reduceIte]; exact e0) (by simp only [upd_eq, Nat.reduceEqDiff, ↓reduceIte]; exact e1) (by simp only [upd_eq, Nat.reduceEqDiff, ↓reduceIte]; exact e8) (by simp only [upd_eq, Nat.reduceEqDiff, ↓reduceIte]; exact e9) (by simp only [upd_eq, Nat.reduceEqDiff, ↓reduceIte]) (by simp only [upd_eq, Nat.reduceEqDiff, ↓reduceIte]; rw [toldI_o (by omega)]) (by simp only [upd_eq, Nat.reduceEqDiff, ↓reduceIte]; exact eS) (by simp only [upd_eq, Nat.reduceEqDiff, ↓reduceIte]; exact eL) (by simp only [upd_eq, Nat.reduceEqDiff, ↓reduceIte]; exact eI)
            · have c5 : (mv.1 == 5) = false := by rw [beq_eq_false_iff_ne]; exact h5
              refine W_rg fun K hK => (W_text [true, true] (by kernel_rfl) ?_); simp only [↓List.toList_toArray, ↓rgd, ↓rgf, ↓reduceIte, Nat.reduceEqDiff, rg, ow_50, c5]
              refine hK _ _ ?_; clear hK K
              show W _ _ _ _ _ _
              refine W_false (by simp only [evt, evc, upd_eq, Nat.reduceEqDiff, ↓reduceIte, ntT, ntF] <;> rfl) ?_
              refine W_rg fun K hK => (W_text [true] (by kernel_rfl) ?_); simp only [↓List.toList_toArray, ↓rgd, ↓rgf, ↓reduceIte, Nat.reduceEqDiff, rg, ow_50]
              refine hK _ _ ?_; clear hK K
              exact hmid _ _ ((0 : Nat) : Int) (by rw [stepI_0 ⟨h1, h2, h3, h4, h5⟩]; exact Ask.if rfl Iff.rfl) (Ext.refl _ _) (by simp only [upd_eq, Nat.reduceEqDiff, ↓reduceIte]; exact e0) (by simp only [upd_eq, Nat.reduceEqDiff, ↓reduceIte]; exact e1) (by simp only [upd_eq, Nat.reduceEqDiff, ↓reduceIte]; exact e8) (by simp only [upd_eq, Nat.reduceEqDiff, ↓reduceIte]; exact e9) (by simp only [upd_eq, Nat.reduceEqDiff, ↓reduceIte] <;> rfl) (by simp only [upd_eq, Nat.reduceEqDiff, ↓reduceIte]; rw [toldI_o (by omega)]) (by simp only [upd_eq, Nat.reduceEqDiff, ↓reduceIte]; exact eS) (by simp only [upd_eq, Nat.reduceEqDiff, ↓reduceIte]; exact eL) (by simp only [upd_eq, Nat.reduceEqDiff, ↓reduceIte]; exact eI)
  · obtain rfl : k = ms.length := by omega
    have ht := lt_ff ms.length ms.length (by omega)
    refine W_sq fun K hK => (W_text [true] (by kernel_rfl) ?_); simp only [↓List.toList_toArray, ↓rgd, ↓rgf, ↓reduceIte, Nat.reduceEqDiff, rg, ow_50, eL, eI, ht]
    refine hK _ _ ?_; clear hK K
    refine W_seq (W_false (by simp only [evt, evc, upd_eq, Nat.reduceEqDiff, ↓reduceIte, ntT, ntF] <;> rfl) (W_exit ?_))
    simp only [andThen_exit, inBlk_exit, andThen_normal, ↓reduceIte]
    refine W_sq fun K hK => (W_text [true, true, true, true] (by kernel_rfl) ?_); simp only [↓List.toList_toArray, ↓rgd, ↓rgf, ↓reduceIte, Nat.reduceEqDiff, rg, ow_50]
    refine hK _ _ ?_; clear hK K
    rw [List.take_length] at hO hT
    refine W_ret (endQ_2 (by simp only [upd_eq, Nat.reduceEqDiff, ↓reduceIte] <;> rfl) (by simp only [upd_eq, Nat.reduceEqDiff, ↓reduceIte] <;> rfl) ⟨_, _, rfl, ?_, ?_, noF_of (Ext.refl _ _) X fun y o hy h => by omega⟩)
    · have := hO.sl
      unfold ansI at this ⊢
      rwa [List.length_map, runI_length] at this
    · have := hT.sl
      unfold telI at this ⊢
      rwa [List.length_map, runI_length] at this
end Go.Proofs.Ytbnnkcofnmipoaa
/-
  impl.GItems. No condition.
-/
set_option linter.unusedSimpArgs false
set_option linter.unusedVariables false
namespace Go.Proofs.Ytbnnkcofnmipoaa
open Go Go.Proofs
set_option maxHeartbeats 400000 in
set_option maxRecDepth 8000 in
theorem impl_gitems (d : Nat) (hd : DOk d) (ord : List Int) (sv : Value) (nl : Bool) (l : List It) (lv : Value) (w : World) (hs : SlInt w sv ord) (hsb : ord.length ≤ 2147483647) (hl : SlI w lv l) (hbig : l.length ≤ 4294967294) :
    CallK Try.prog 24 #[mkV sv d nl, lv] w fun v w' => SlI w' v (treeG ord l) ∧ since w.heap.size v ∧ Ext noF w w' := by
  have htl := treeG_len ord l
  refine calls_of_W [.tmp 4] Try.func24 rfl Try.ntmps24 Try.results24 (by simp) fun e he => ?_
  have e0 : e 0 = mkV sv d nl := he 0 _ rfl
  have e1 : e 1 = lv := he 1 _ rfl
  clear he
  refine W_sq fun K hK => (W_text [false, true] (by kernel_rfl) ?_); simp only [↓List.toList_toArray, ↓rgd, ↓rgf, ↓reduceIte, Nat.reduceEqDiff, rg, ow_24]
  refine do_box (by simp only [evt]; exact e0) fun w1 n1 => ⟨trivial, ?_⟩
  simp only [↓List.toList_toArray, ↓rgd, ↓rgf, ↓reduceIte, Nat.reduceEqDiff, rg, ow_24]
  refine hK _ _ ?_; clear hK K
  have s1 := n1.size
  have rm := mk_at (show Row w1 w.heap.size 0 (mkL sv d nl) from n1.row)
  refine W_sq fun K hK => (W_text [true, true, false, false, true] (by kernel_rfl) ?_); simp only [↓List.toList_toArray, ↓rgd, ↓rgf, ↓reduceIte, Nat.reduceEqDiff, rg, ow_24, e1, rm]
  refine do_call fn_43 (by simp only [evt, evc, upd_eq, Nat.reduceEqDiff, ↓reduceIte, maT, maC, maN, isnN, isnS] <;> rfl) (growG_any d hd ord sv nl l lv w1 (SlV.ext0 hs n1.ext) hsb (SlV.ext0 hl n1.ext) hbig) ?_
  rintro _ w2 ⟨X2, B, m, F, rfl, hM, hm, -⟩
  refine ⟨trivial, ?_⟩
  simp only [↓List.toList_toArray, ↓rgd, ↓rgf, ↓reduceIte, Nat.reduceEqDiff, rg, ow_24]
  refine do_call fn_46 (by simp only [evt, evc, upd_eq, Nat.reduceEqDiff, ↓reduceIte, maT, maC, maN, isnN, isnS] <;> rfl) (itemsG_any B m (degOf d) ord 1 (treeG ord l) F w2 hM (by omega)) ?_
  rintro v3 w3 ⟨hO, X3⟩
  refine ⟨trivial, ?_⟩
  simp only [↓List.toList_toArray, ↓rgd, ↓rgf, ↓reduceIte, Nat.reduceEqDiff, rg, ow_24]
  refine hK _ _ ?_; clear hK K
  have s2 := X2.size
  exact W_ret (endQ_1 (by simp only [upd_eq, Nat.reduceEqDiff, ↓reduceIte] <;> rfl) ⟨hO.sl, fun b o n c h => by have := hO.si b o n c h; omega, (n1.ext.tr X2).tr X3⟩)
end Go.Proofs.Ytbnnkcofnmipoaa
/-
  Whether a degree fits; the laws' question whether trees hold items at all. No condition.
-/
set_option linter.unusedSimpArgs false
set_option linter.unusedVariables false
namespace Go.Proofs.Ytbnnkcofnmipoaa
open Go Go.Proofs
theorem SlV.one {w : World} {sz n : Nat} {v : Value} {l : List Value} (h : SlV w sz v n l) : v.oneCell' = true := by obtain ⟨a, c, rfl⟩ := h.shape; rfl
set_option maxHeartbeats 400000 in
set_option maxRecDepth 8000 in
theorem fitsL_any (sv : Value) (d : Int) (nl : Bool) (w : World) (h1 : sv.oneCell' = true) :
    CallK Try.prog 13 #[.agg #[sv, .int .i64 d, .bool nl]] w fun v w' => v = .bool (decide (d = 0) || (decide (2 ≤ d) && decide (d ≤ 128))) ∧ Ext noF w w' := by
  refine calls_of_W [.tmp 2] Try.func13 rfl Try.ntmps13 Try.results13 (by simp) fun e he => ?_
  have e0 : e 0 = .agg #[sv, .int .i64 d, .bool nl] := he 0 _ rfl
  clear he
  refine W_sq fun K hK => (W_text [false, true] (by kernel_rfl) ?_); simp only [↓List.toList_toArray, ↓rgd, ↓rgf, ↓reduceIte, Nat.reduceEqDiff, rg, ow_13]
  refine do_box (by simp only [evt]; exact e0) fun w1 n1 => ⟨trivial, ?_⟩
  simp only [↓List.toList_toArray, ↓rgd, ↓rgf, ↓reduceIte, Nat.reduceEqDiff, rg, ow_13]
  refine hK _ _ ?_; clear hK K
  have g1 := (Row.cons.1 (Row.cons.1 (show Row w1 w.heap.size 0 [sv, .int .i64 d, .bool nl] from n1.row)).2).1
  rw [Nat.zero_add] at g1
  refine W_sq fun K hK => (W_text [true, true, false, true] (by kernel_rfl) ?_); simp only [↓List.toList_toArray, ↓rgd, ↓rgf, ↓reduceIte, Nat.reduceEqDiff, rg, ow_13, g1]
  refine do_call fn_23 (by simp only [evt, evc, upd_eq, Nat.reduceEqDiff, ↓reduceIte, maT, maC, maN, isnN, isnS] <;> rfl) (fits_any d w1) ?_
  rintro _ w2 ⟨rfl, hw2⟩
  obtain rfl : w1 = w2 := hw2
  refine ⟨trivial, ?_⟩
  simp only [↓List.toList_toArray, ↓rgd, ↓rgf, ↓reduceIte, Nat.reduceEqDiff, rg, ow_13]
  refine hK _ _ ?_; clear hK K
  exact W_ret (endQ_1 (by simp only [upd_eq, Nat.reduceEqDiff, ↓reduceIte] <;> rfl) ⟨rfl, n1.ext⟩)
set_option maxHeartbeats 400000 in
set_option maxRecDepth 8000 in
theorem alive_any (w : World) : CallK Try.prog 14 #[] w fun v w' => v = .bool true ∧ Ext noF w w' := by
  refine calls_of_W (args := []) [.tmp 0] Try.func14 rfl Try.ntmps14 Try.results14 (by simp) fun e he => ?_
  clear he
  refine W_sq fun K hK => (W_text [true] (by kernel_rfl) ?_); simp only [↓List.toList_toArray, ↓rgd, ↓rgf, ↓reduceIte, Nat.reduceEqDiff, rg, ow_14]
  refine hK _ _ ?_; clear hK K
  refine W_sq fun K hK => (W_text [false, false, true, false, true, true, true] (by kernel_rfl) ?_); simp only [↓List.toList_toArray, ↓rgd, ↓rgf, ↓reduceIte, Nat.reduceEqDiff, rg, ow_14]
  refine do_call fn_19 (by simp only [evt, evc, upd_eq, Nat.reduceEqDiff, ↓reduceIte, maT, maC, maN, isnN, isnS] <;> rfl) (exMake_any w) ?_
  rintro _ w1 ⟨rfl, X1⟩
  refine ⟨trivial, ?_⟩
  simp only [↓List.toList_toArray, ↓rgd, ↓rgf, ↓reduceIte, Nat.reduceEqDiff, rg, ow_14]
  refine do_call fn_20 (by simp only [evt, evc, upd_eq, Nat.reduceEqDiff, ↓reduceIte, maT, maC, maN, isnN, isnS] <;> rfl) (exItems_any w1) ?_
  rintro x0 w2 ⟨h2, X2⟩
  refine ⟨trivial, ?_⟩
  obtain ⟨s3, hs30, hS3⟩ := sl_hi h2 3 (by decide)
  have hs3 : sliceV Try.prog 25 x0 none (some (.int .i64 3)) none = some s3 := hs30
  simp only [↓List.toList_toArray, ↓rgd, ↓rgf, ↓reduceIte, Nat.reduceEqDiff, rg, ow_14, hs3]
  refine do_call fn_24 (by simp only [evt, evc, upd_eq, Nat.reduceEqDiff, ↓reduceIte, maT, maC, maN, isnN, isnS] <;> rfl) (impl_gitems 2 (.inr (by decide)) [] nilS false (exL.take 3) s3 w2 (nil_int _) (by decide) hS3 (by decide)) ?_
  rintro v4 w4 ⟨h4, _, X4⟩
  refine ⟨trivial, ?_⟩
  obtain ⟨a4, c4, rfl⟩ := SlV.shape h4
  have hl : (treeG [] (exL.take 3)).length = 3 := by decide
  have ht : (((3 : Nat) : Int) == 3) = true := by decide
  rw [hl]
  simp only [↓List.toList_toArray, ↓rgd, ↓rgf, ↓reduceIte, Nat.reduceEqDiff, rg, ow_14, ht]
  refine hK _ _ ?_; clear hK K
  exact W_ret (endQ_1 (by simp only [upd_eq, Nat.reduceEqDiff, ↓reduceIte] <;> rfl) ⟨rfl, (X1.tr X2).tr X4⟩)
end Go.Proofs.Ytbnnkcofnmipoaa
/-
  The law on an iterator that is given another tree. No condition.
-/
set_option linter.unusedSimpArgs false
set_option linter.unusedVariables false
namespace Go.Proofs.Ytbnnkcofnmipoaa
open Go Go.Proofs
theorem ifo_at {w : World} {b o : Nat} {l : List (It × Bool)} (h : Row w b o (flat Ef l)) {i : Nat} {x : It × Bool} (hi : l[i]? = some x) : rdA w b (o + i * 3) 3 = some (foV x) :=
  (row_at Ef h hi).rdA 3 (by simp [Ef])
set_option maxHeartbeats 2000000 in
set_option maxRecDepth 8000 in
theorem same_any (P : List (Option It)) (R : List (Option It × Bool)) (hA : Agree P R) (va vb vt : Value) (w : World) (ha : SlV w 3 va P.length (flat Ef (P.map foO))) (hb : SlV w 3 vb R.length (flat Ef (ansI R))) (ht : SlV w 1 vt R.length (flat Eb (telI R))) (hbig : P.length ≤ 2147483647) :
    CallK Try.prog 51 #[va, vb, vt] w fun v w' => v = .bool true ∧ Ext noF w w' := by
  obtain ⟨aa, ac, hva⟩ := ha.shape
  obtain ⟨ba, bc, hvb⟩ := hb.shape
  obtain ⟨ta, tc, hvt⟩ := ht.shape
  refine calls_of_W [.tmp 6] Try.func51 rfl Try.ntmps51 Try.results51 (by simp) fun e he => ?_
  have e0 : e 0 = .slice aa P.length ac := by rw [← hva]; exact he 0 _ rfl
  have e1 : e 1 = .slice ba R.length bc := by rw [← hvb]; exact he 1 _ rfl
  have e2 : e 2 = .slice ta R.length tc := by rw [← hvt]; exact he 2 _ rfl
  clear he
  have hl := hA.1
  refine W_sq fun K hK => (W_text [true] (by kernel_rfl) ?_); simp only [↓List.toList_toArray, ↓rgd, ↓rgf, ↓reduceIte, Nat.reduceEqDiff, rg, ow_51]
  refine hK _ _ ?_; clear hK K
  have t0 : ((P.length : Int) != (R.length : Int)) = false := by rw [hl]; simp
  refine W_seq ?_
  refine W_sq fun K hK => (W_text [true, true, true, true, true] (by kernel_rfl) ?_); simp only [↓List.toList_toArray, ↓rgd, ↓rgf, ↓reduceIte, Nat.reduceEqDiff, rg, ow_51, e0, e1, t0]
  refine hK _ _ ?_; clear hK K
  refine W_false (by simp only [evt, evc, upd_eq, Nat.reduceEqDiff, ↓reduceIte, ntT, ntF] <;> rfl) (W_skip ?_)
  show W _ _ _ _ _ _
  refine W_seq (W_seq ?_)
  refine W_rg fun K hK => (W_text [true, true, true] (by kernel_rfl) ?_); simp only [↓List.toList_toArray, ↓rgd, ↓rgf, ↓reduceIte, Nat.reduceEqDiff, rg, ow_51, e0]
  refine hK _ _ ?_; clear hK K
  show W _ _ _ _ _ _
  refine W_block (W_loop (fun mm e w' => ∃ i : Nat, mm = P.length - i ∧ i ≤ P.length ∧ RO w w' ∧ e 0 = .slice aa P.length ac ∧ e 1 = .slice ba R.length bc ∧ e 2 = .slice ta R.length tc ∧ e 14 = .int .i64 P.length ∧ e 15 = .int .i64 i)
    P.length ⟨0, by simp, by simp, RO.refl _, by simp only [upd_eq, Nat.reduceEqDiff, ↓reduceIte]; exact e0, by simp only [upd_eq, Nat.reduceEqDiff, ↓reduceIte]; exact e1, by simp only [upd_eq, Nat.reduceEqDiff, ↓reduceIte]; exact e2, by simp only [upd_eq, Nat.reduceEqDiff, ↓reduceIte], by simp only [upd_eq, Nat.reduceEqDiff, ↓reduceIte]; rfl⟩ ?_)
  clear e0 e1 e2 e
  rintro mm e w' ⟨i, rfl, hi, hro, e0, e1, e2, e14, e15⟩
  by_cases hlt : i < P.length
  · have ht' := lt_tt i P.length hlt
    refine W_sq fun K hK => (W_text [true] (by kernel_rfl) ?_); simp only [↓List.toList_toArray, ↓rgd, ↓rgf, ↓reduceIte, Nat.reduceEqDiff, rg, ow_51, e14, e15, ht']
    refine hK _ _ ?_; clear hK K
    refine W_seq (W_true (by simp only [evt, evc, upd_eq, Nat.reduceEqDiff, ↓reduceIte, ntT, ntF] <;> rfl) (W_skip ?_))
    show W _ _ _ _ _ _
    have hltR : i < R.length := by omega
    obtain ⟨p, hp⟩ : ∃ p, P[i]? = some p := ⟨_, List.getElem?_eq_getElem hlt⟩
    obtain ⟨q, hq⟩ : ∃ q, R[i]? = some q := ⟨_, List.getElem?_eq_getElem hltR⟩
    obtain ⟨b1, o1, g1, r1⟩ := SlV.at ha hva hlt
    obtain ⟨b2, o2, g2, r2⟩ := SlV.at hb hvb hltR
    obtain ⟨b3, o3, g3, r3⟩ := SlV.at ht hvt hltR
    subst g1 g2 g3
    have x1 := ifo_at ((hro.ext (F := noF)).row r1 fun _ _ h => h) (show (P.map foO)[i]? = some (foO p) by rw [List.getElem?_map, hp]; rfl)
    have x2 := ifo_at ((hro.ext (F := noF)).row r2 fun _ _ h => h) (show (ansI R)[i]? = some (foO q.1) by unfold ansI; rw [List.getElem?_map, hq]; rfl)
    have x3 := bV_at ((hro.ext (F := noF)).row r3 fun _ _ h => h) (show (telI R)[i]? = some q.2 by unfold telI; rw [List.getElem?_map, hq]; rfl)
    refine W_seq (W_block ?_)
    refine W_sq fun K hK => (W_text [true, true] (by kernel_rfl) ?_); simp only [↓List.toList_toArray, ↓rgd, ↓rgf, ↓reduceIte, Nat.reduceEqDiff, rg, ow_51, e15]
    refine hK _ _ ?_; clear hK K
    cases hq2 : q.2 with
    | false =>
      rw [hq2] at x3
      refine W_sq fun K hK => (W_draw (some none) none [(0, 0, 0), (0, 1, 0), (0, 2, 0), (0, 3, 0), (0, 4, 0), (0, 5, 0), (0, 6, 0), (0, 7, 0), (0, 8, 0), (0, 9, 0), (0, 10, 0), (0, 11, 0), (0, 12, 0), (0, 13, 0), (0, 14, 0)] mixed (by kernel_rfl) ?_); simp only [↓List.toList_toArray, ↓rgd, ↓rgf, ↓reduceIte, Nat.reduceEqDiff, rg, ow_51, e2, hltR, x3]
      refine hK _ _ ?_; clear hK K
      refine W_false (by simp only [evt, evc, upd_eq, Nat.reduceEqDiff, ↓reduceIte, ntT, ntF] <;> rfl) (W_skip ?_)
      show W _ _ _ _ _ _
      have q1 := wadd1 i (by omega)
      refine W_rg fun K hK => (W_text [true, true] (by kernel_rfl) ?_); simp only [↓List.toList_toArray, ↓rgd, ↓rgf, ↓reduceIte, Nat.reduceEqDiff, rg, ow_51, e15, q1]
      refine hK _ _ ?_; clear hK K
      refine ⟨_, ?_, i + 1, rfl, hlt, hro.tr (RO.dr _ _), by simp only [upd_eq, Nat.reduceEqDiff, ↓reduceIte]; exact e0, by simp only [upd_eq, Nat.reduceEqDiff, ↓reduceIte]; exact e1, by simp only [upd_eq, Nat.reduceEqDiff, ↓reduceIte]; exact e2, by simp only [upd_eq, Nat.reduceEqDiff, ↓reduceIte]; exact e14, by simp only [upd_eq, Nat.reduceEqDiff, ↓reduceIte]⟩
      omega
    | true =>
      rw [hq2] at x3
      have hpq := hA.2 i p q hp hq hq2
      rw [hpq] at x1
      have nf := ne_f (foO q.1)
      refine W_sq fun K hK => (W_draw (some none) none [(0, 0, 0), (0, 1, 0), (0, 2, 0), (0, 3, 0), (0, 4, 0), (0, 5, 0), (0, 6, 0), (0, 7, 0), (0, 8, 0), (0, 9, 0), (0, 10, 0), (0, 11, 0), (0, 12, 0), (0, 13, 0), (0, 14, 0)] mixed (by kernel_rfl) ?_); simp only [↓List.toList_toArray, ↓rgd, ↓rgf, ↓reduceIte, Nat.reduceEqDiff, rg, ow_51, e0, e1, e2, hlt, hltR, x1, x2, x3, nf]
      refine hK _ _ ?_; clear hK K
      refine W_false (by simp only [evt, evc, upd_eq, Nat.reduceEqDiff, ↓reduceIte, ntT, ntF] <;> rfl) (W_skip ?_)
      show W _ _ _ _ _ _
      have q1 := wadd1 i (by omega)
      refine W_rg fun K hK => (W_text [true, true] (by kernel_rfl) ?_); simp only [↓List.toList_toArray, ↓rgd, ↓rgf, ↓reduceIte, Nat.reduceEqDiff, rg, ow_51, e15, q1]
      refine hK _ _ ?_; clear hK K
      refine ⟨_, ?_, i + 1, rfl, hlt, hro.tr (RO.dr _ _), by simp only [upd_eq, Nat.reduceEqDiff, ↓reduceIte]; exact e0, by simp only [upd_eq, Nat.reduceEqDiff, ↓reduceIte]; exact e1, by simp only [upd_eq, Nat.reduceEqDiff, ↓reduceIte]; exact e2, by simp only [upd_eq, Nat.reduceEqDiff, ↓reduceIte]; exact e14, by simp only [upd_eq, Nat.reduceEqDiff, ↓reduceIte]⟩
      omega
  · obtain rfl : i = P.length := by omega
    have ht' := lt_ff P.length P.length (by omega)
    refine W_sq fun K hK => (W_text [true] (by kernel_rfl) ?_); simp only [↓List.toList_toArray, ↓rgd, ↓rgf, ↓reduceIte, Nat.reduceEqDiff, rg, ow_51, e14, e15, ht']
    refine hK _ _ ?_; clear hK K
    refine W_seq (W_false (by simp only [evt, evc, upd_eq, Nat.reduceEqDiff, ↓reduceIte, ntT, ntF] <;> rfl) (W_exit ?_))
    simp only [andThen_exit, inBlk_exit, andThen_normal, ↓reduceIte]
    refine W_sq fun K hK => (W_text [true] (by kernel_rfl) ?_); simp only [↓List.toList_toArray, ↓rgd, ↓rgf, ↓reduceIte, Nat.reduceEqDiff, rg, ow_51]
    refine hK _ _ ?_; clear hK K
    exact W_ret (endQ_1 (by simp only [upd_eq, Nat.reduceEqDiff, ↓reduceIte] <;> rfl) ⟨rfl, hro.ext⟩)
def exMv : List (Int × It) := [(1, (0, 0)), (3, (0, 0)), (4, (4, 0)), (2, (0, 0)), (5, (1, 0)), (0, (0, 0))]
theorem bu_mv (a : Int) : buildV Try.prog 46 [(0, .int .i64 a)] = some (mvV (a, (0, 0))) := by kernel_rfl
theorem bu_mvk (a k : Int) : buildV Try.prog 46 [(0, .int .i64 a), (1, iV (k, 0))] = some (mvV (a, (k, 0))) := by kernel_rfl
theorem bs_exMv : bsV Try.prog 38 6 [(0, mvV (1, (0, 0))), (1, mvV (3, (0, 0))), (2, mvV (4, (4, 0))), (3, mvV (2, (0, 0))), (4, mvV (5, (1, 0))), (5, mvV (0, (0, 0)))] = some (46, flat Em exMv) := by kernel_rfl
set_option maxHeartbeats 800000 in
set_option maxRecDepth 8000 in
theorem exMoves_any (w : World) : CallK Try.prog 22 #[] w fun v w' => SlV w' 3 v exMv.length (flat Em exMv) ∧ Ext noF w w' := by
  refine calls_of_W (args := []) [.tmp 0] Try.func22 rfl Try.ntmps22 Try.results22 (by simp) fun e he => ?_
  clear he
  refine W_sq fun K hK => (W_text [true] (by kernel_rfl) ?_); simp only [↓List.toList_toArray, ↓rgd, ↓rgf, ↓reduceIte, Nat.reduceEqDiff, rg]
  refine hK _ _ ?_; clear hK K
  refine W_sq fun K hK => (W_text [true, true, true, true, true, true, true, true, false, true] (by kernel_rfl) ?_); simp only [↓List.toList_toArray, ↓rgd, ↓rgf, ↓reduceIte, Nat.reduceEqDiff, rg, bu_mv, bu_mvk, bu_itemK]
  refine do_bsl rfl bs_exMv fun w1 n1 => ⟨trivial, ?_⟩
  simp only [↓List.toList_toArray, ↓rgd, ↓rgf, ↓reduceIte, Nat.reduceEqDiff, rg]
  refine hK _ _ ?_; clear hK K
  exact W_ret (endQ_1 (by simp only [upd_eq, Nat.reduceEqDiff, ↓reduceIte] <;> rfl) ⟨⟨rfl, .inr ⟨_, 0, 6, rfl, Nat.le_refl _, n1.row, n1.wok.R (Nat.le_refl _)⟩⟩, n1.ext⟩)
theorem bu_item0 (a b : Int) : buildV Try.prog 33 [(0, .int .i64 a), (1, .int .i64 b)] = some (iV (a, b)) := by kernel_rfl
def exK : List It := [(3, 0), (4, 0), (9, 1)]
theorem bs_exK : bsV Try.prog 25 3 [(0, iV (3, 0)), (1, iV (4, 0)), (2, iV (9, 1))] = some (33, flat Ei exK) := by kernel_rfl
set_option maxHeartbeats 800000 in
set_option maxRecDepth 8000 in
theorem exKeys_any (w : World) : CallK Try.prog 21 #[] w fun v w' => SlI w' v exK ∧ Ext noF w w' := by
  refine calls_of_W (args := []) [.tmp 0] Try.func21 rfl Try.ntmps21 Try.results21 (by simp) fun e he => ?_
  clear he
  refine W_sq fun K hK => (W_text [true] (by kernel_rfl) ?_); simp only [↓List.toList_toArray, ↓rgd, ↓rgf, ↓reduceIte, Nat.reduceEqDiff, rg]
  refine hK _ _ ?_; clear hK K
  refine W_sq fun K hK => (W_text [true, true, true, false, true] (by kernel_rfl) ?_); simp only [↓List.toList_toArray, ↓rgd, ↓rgf, ↓reduceIte, Nat.reduceEqDiff, rg, bu_item, bu_itemK]
  refine do_bsl rfl bs_exK fun w1 n1 => ⟨trivial, ?_⟩
  simp only [↓List.toList_toArray, ↓rgd, ↓rgf, ↓reduceIte, Nat.reduceEqDiff, rg]
  refine hK _ _ ?_; clear hK K
  exact W_ret (endQ_1 (by simp only [upd_eq, Nat.reduceEqDiff, ↓reduceIte] <;> rfl) ⟨⟨rfl, .inr ⟨_, 0, 3, rfl, Nat.le_refl _, n1.row, n1.wok.R (Nat.le_refl _)⟩⟩, n1.ext⟩)
set_option maxHeartbeats 1600000 in
set_option maxRecDepth 8000 in
theorem impl_giter (d : Nat) (hd : DOk d) (ord : List Int) (sv : Value) (nl : Bool) (l : List It) (lv : Value) (ms : List (Int × It)) (mvs : Value) (w : World) (hs : SlInt w sv ord) (hsb : ord.length ≤ 2147483647) (hl : SlI w lv l) (hbig : l.length ≤ 2147483647) (hms : SlV w 3 mvs ms.length (flat Em ms)) (hmb : ms.length ≤ 2147483647) :
    CallK Try.prog 25 #[mkV sv d nl, lv, mvs] w fun v w' => ∃ P : List (Option It), SlV w' 3 v P.length (flat Ef (P.map foO)) ∧ Agree P (runI (treeG ord l) (fun k : It => lb O (rkI ord) (rkI ord k) (treeG ord l)) ms).2 ∧ Ext noF w w' := by
  refine calls_of_W [.tmp 6] Try.func25 rfl Try.ntmps25 Try.results25 (by simp) fun e he => ?_
  have e0 : e 0 = mkV sv d nl := he 0 _ rfl
  have e1 : e 1 = lv := he 1 _ rfl
  have e2 : e 2 = mvs := he 2 _ rfl
  clear he
  have htl := treeG_len ord l
  obtain ⟨hd2, hd3⟩ := hd.of
  refine W_sq fun K hK => (W_text [false, true] (by kernel_rfl) ?_); simp only [↓List.toList_toArray, ↓rgd, ↓rgf, ↓reduceIte, Nat.reduceEqDiff, rg, ow_25]
  refine do_box (by simp only [evt]; exact e0) fun w1 n1 => ⟨trivial, ?_⟩
  simp only [↓List.toList_toArray, ↓rgd, ↓rgf, ↓reduceIte, Nat.reduceEqDiff, rg, ow_25]
  refine hK _ _ ?_; clear hK K
  have rm := mk_at (show Row w1 w.heap.size 0 (mkL sv d nl) from n1.row)
  refine W_sq fun K hK => (W_text [true, true, false, false, false, false] (by kernel_rfl) ?_); simp only [↓List.toList_toArray, ↓rgd, ↓rgf, ↓reduceIte, Nat.reduceEqDiff, rg, ow_25, e1, rm]
  refine do_call fn_43 (by simp only [evt, evc, upd_eq, Nat.reduceEqDiff, ↓reduceIte, maT, maC, maN, isnN, isnS] <;> rfl) (growG_low d hd ord sv nl l lv w1 (SlV.ext0 hs n1.ext) hsb (SlV.ext0 hl n1.ext) (by omega)) ?_
  rintro _ w2 ⟨X2, B, m, F, rfl, hM, hmw, hFw, hBw⟩
  have X12 := X2
  have X2 := n1.ext.tr X2
  refine ⟨trivial, ?_⟩
  simp only [↓List.toList_toArray, ↓rgd, ↓rgf, ↓reduceIte, Nat.reduceEqDiff, rg, ow_25]
  refine do_call fn_52 (by simp only [evt, evc, upd_eq, Nat.reduceEqDiff, ↓reduceIte, maT, maC, maN, isnN, isnS] <;> rfl) (iterF_any m w2) ?_
  rintro _ w3 ⟨sb, rfl, hsw, hs2, hs3, X3⟩
  refine ⟨trivial, ?_⟩
  simp only [↓List.toList_toArray, ↓rgd, ↓rgf, ↓reduceIte, Nat.reduceEqDiff, rg, ow_25]
  refine do_alloc z_ir fun w4 n4 => ⟨trivial, ?_⟩
  simp only [↓List.toList_toArray, ↓rgd, ↓rgf, ↓reduceIte, Nat.reduceEqDiff, rg, ow_25]
  refine do_store (v := itR m false (stk0 sb)) (by simp only [evt, evc, upd_eq, Nat.reduceEqDiff, ↓reduceIte, ntT, ntF] <;> rfl) (by simp only [evt, evc, upd_eq, Nat.reduceEqDiff, ↓reduceIte, ntT, ntF] <;> rfl) sz_102 rfl n4.wok (by decide) (oc_ir _ _ _) fun w5 x5 r5 s5 => ⟨trivial, ?_⟩
  simp only [↓List.toList_toArray, ↓rgd, ↓rgf, ↓reduceIte, Nat.reduceEqDiff, rg, ow_25]
  refine hK _ _ ?_; clear hK K
  have s1 := n1.size
  have s3 := X3.size
  have s4 := n4.size
  have hml := hM.mlt
  have hltF := hM.lt
  have X35 : Ext noF w2 w5 := noF_of (X3.tr n4.ext) x5 fun y o hy g => by simp only [rng] at g; omega
  have X5 := X2.tr X35
  have s05 := X5.size
  have sx2 := X2.size
  have sx12 := X12.size
  have hI : ItS w3.heap.size m false [] sb 6 4 w5 := ItS.new (show Row w5 w3.heap.size 0 (itL m false (stk0 sb)) from r5) (x5.wok n4.wok) (x5.wok (n4.ext.wok hsw)) (by omega)
  refine W_sq fun K hK => (W_text [true, false, true] (by kernel_rfl) ?_); simp only [↓List.toList_toArray, ↓rgd, ↓rgf, ↓reduceIte, Nat.reduceEqDiff, rg, ow_25, e2]
  refine do_call fn_53 (vs := #[ptr w3.heap.size, mvs]) (by simp only [evt, evc, upd_eq, Nat.reduceEqDiff, ↓reduceIte, maT, maC, maN, isnN, isnS] <;> rfl) (moved_any B m (degOf d) ord hd2 hd3 1 (treeG ord l) F false w3.heap.size sb 6 4 ms mvs w5 (hM.ext X35) hI (fun y o g => ⟨.inl (by omega), fun k => by have := hltF y o k; omega⟩) (by omega) (SlV.ext0 hms X5) hmb fun b o n c hv => by have := SlV.lt hms hv; omega) ?_
  rintro v6 w6 ⟨P, hP, hA, X6, ⟨full, sb6, so6, cap6, hI6⟩, hsi⟩
  refine ⟨trivial, ?_⟩
  simp only [↓List.toList_toArray, ↓rgd, ↓rgf, ↓reduceIte, Nat.reduceEqDiff, rg, ow_25]
  refine hK _ _ ?_; clear hK K
  refine W_sq fun K hK => (W_text [false] (by kernel_rfl) ?_); simp only [↓List.toList_toArray, ↓rgd, ↓rgf, ↓reduceIte, Nat.reduceEqDiff, rg, ow_25]
  refine do_call fn_54 (vs := #[ptr w3.heap.size]) (by simp only [evt, evc, upd_eq, Nat.reduceEqDiff, ↓reduceIte, maT, maC, maN, isnN, isnS] <;> rfl) (release_any w3.heap.size m sb6 so6 cap6 false full w6 hI6) ?_
  rintro _ w7 ⟨X7, -, -, h7⟩
  refine ⟨trivial, ?_⟩
  simp only [↓List.toList_toArray, ↓rgd, ↓rgf, ↓reduceIte, Nat.reduceEqDiff, rg, ow_25]
  refine hK _ _ ?_; clear hK K
  refine W_sq fun K hK => (W_text [true, true] (by kernel_rfl) ?_); simp only [↓List.toList_toArray, ↓rgd, ↓rgf, ↓reduceIte, Nat.reduceEqDiff, rg, ow_25]
  refine hK _ _ ?_; clear hK K
  exact W_ret (endQ_1 (by simp only [upd_eq, Nat.reduceEqDiff, ↓reduceIte] <;> rfl) ⟨P, hP.ext X7 fun b o cap hv j _ g => by have := hsi _ _ _ _ hv; omega, hA, noF_of X5 (X6.trans X7 (fun _ _ g => g) fun _ _ _ g => .inl g) fun y o hy g => by omega⟩)
set_option maxHeartbeats 1600000 in
set_option maxRecDepth 8000 in
theorem impl_giterinit (d : Nat) (hd : DOk d) (ord : List Int) (sv : Value) (nl : Bool) (l : List It) (lv : Value) (ks : List It) (kv : Value) (mu : Bool) (ms : List (Int × It)) (mvs : Value) (w : World) (hs : SlInt w sv ord) (hsb : ord.length ≤ 2147483647) (hl : SlI w lv l) (hbig : l.length ≤ 2147483647) (hks : SlI w kv ks) (hkb : ks.length ≤ 2147483647) (hms : SlV w 3 mvs ms.length (flat Em ms)) (hmb : ms.length ≤ 2147483647) :
    CallK Try.prog 49 #[mkV sv d nl, lv, kv, .bool mu, mvs] w fun v w' => ∃ P : List (Option It), SlV w' 3 v P.length (flat Ef (P.map foO)) ∧ Agree P (runI (treeG ord ks) (fun k : It => lb O (rkI ord) (rkI ord k) (treeG ord ks)) ms).2 ∧ Ext noF w w' := by
  refine calls_of_W [.tmp 10] Try.func49 rfl Try.ntmps49 Try.results49 (by simp) fun e he => ?_
  have e0 : e 0 = mkV sv d nl := he 0 _ rfl
  have e1 : e 1 = lv := he 1 _ rfl
  have e2 : e 2 = kv := he 2 _ rfl
  have e3 : e 3 = .bool mu := he 3 _ rfl
  have e4 : e 4 = mvs := he 4 _ rfl
  clear he
  have htl := treeG_len ord l
  have htk := treeG_len ord ks
  obtain ⟨hd2, hd3⟩ := hd.of
  refine W_sq fun K hK => (W_text [false, true] (by kernel_rfl) ?_); simp only [↓List.toList_toArray, ↓rgd, ↓rgf, ↓reduceIte, Nat.reduceEqDiff, rg, ow_49]
  refine do_box (by simp only [evt]; exact e0) fun w1 n1 => ⟨trivial, ?_⟩
  simp only [↓List.toList_toArray, ↓rgd, ↓rgf, ↓reduceIte, Nat.reduceEqDiff, rg, ow_49]
  refine hK _ _ ?_; clear hK K
  have rm0 : Row w1 w.heap.size 0 (mkL sv d nl) := n1.row
  have rm := mk_at rm0
  refine W_sq fun K hK => (W_text [true, true, false, false, false, false] (by kernel_rfl) ?_); simp only [↓List.toList_toArray, ↓rgd, ↓rgf, ↓reduceIte, Nat.reduceEqDiff, rg, ow_49, e1, rm]
  refine do_call fn_43 (by simp only [evt, evc, upd_eq, Nat.reduceEqDiff, ↓reduceIte, maT, maC, maN, isnN, isnS] <;> rfl) (growG_low d hd ord sv nl l lv w1 (SlV.ext0 hs n1.ext) hsb (SlV.ext0 hl n1.ext) (by omega)) ?_
  rintro _ w2 ⟨X2, B, m, F, rfl, hM, hmw, hFw, hBw⟩
  have X12 := X2
  have X2 := n1.ext.tr X2
  refine ⟨trivial, ?_⟩
  simp only [↓List.toList_toArray, ↓rgd, ↓rgf, ↓reduceIte, Nat.reduceEqDiff, rg, ow_49]
  refine do_call fn_52 (by simp only [evt, evc, upd_eq, Nat.reduceEqDiff, ↓reduceIte, maT, maC, maN, isnN, isnS] <;> rfl) (iterF_any m w2) ?_
  rintro _ w3 ⟨sb, rfl, hsw, hs2, hs3, X3⟩
  refine ⟨trivial, ?_⟩
  simp only [↓List.toList_toArray, ↓rgd, ↓rgf, ↓reduceIte, Nat.reduceEqDiff, rg, ow_49]
  refine do_alloc z_ir fun w4 n4 => ⟨trivial, ?_⟩
  simp only [↓List.toList_toArray, ↓rgd, ↓rgf, ↓reduceIte, Nat.reduceEqDiff, rg, ow_49]
  refine do_store (v := itR m false (stk0 sb)) (by simp only [evt, evc, upd_eq, Nat.reduceEqDiff, ↓reduceIte, ntT, ntF] <;> rfl) (by simp only [evt, evc, upd_eq, Nat.reduceEqDiff, ↓reduceIte, ntT, ntF] <;> rfl) sz_102 rfl n4.wok (by decide) (oc_ir _ _ _) fun w5 x5 r5 s5 => ⟨trivial, ?_⟩
  simp only [↓List.toList_toArray, ↓rgd, ↓rgf, ↓reduceIte, Nat.reduceEqDiff, rg, ow_49]
  refine hK _ _ ?_; clear hK K
  have s1 := n1.size
  have s3 := X3.size
  have s4 := n4.size
  have hml := hM.mlt
  have hltF := hM.lt
  have X35 : Ext noF w2 w5 := noF_of (X3.tr n4.ext) x5 fun y o hy g => by simp only [rng] at g; omega
  have X5 := X2.tr X35
  have s05 := X5.size
  have sx2 := X2.size
  have sx12 := X12.size
  have hI : ItS w3.heap.size m false [] sb 6 4 w5 := ItS.new (show Row w5 w3.heap.size 0 (itL m false (stk0 sb)) from r5) (x5.wok n4.wok) (x5.wok (n4.ext.wok hsw)) (by omega)
  refine W_sq fun K hK => (W_text [false] (by kernel_rfl) ?_); simp only [↓List.toList_toArray, ↓rgd, ↓rgf, ↓reduceIte, Nat.reduceEqDiff, rg, ow_49]
  refine do_call fn_79 (vs := #[ptr w3.heap.size]) (by simp only [evt, evc, upd_eq, Nat.reduceEqDiff, ↓reduceIte, maT, maC, maN, isnN, isnS] <;> rfl) (ifirst_any B m (degOf d) ord hd2 hd3 1 (treeG ord l) F noF false w3.heap.size sb 6 4 [] w5 (hM.ext X35) (fun y o g => by
    rcases g with g | g | g
    · exact ⟨.inl (by omega), fun k => by have := hltF y o k; omega⟩
    · exact ⟨.inl (by omega), fun k => by have := hltF y o k; omega⟩
    · exact g.elim) hI (by omega)) ?_
  rintro _ w6 ⟨rfl, -, -, ⟨full, ⟨sb6, so6, cap6, hI6, hs6, X6⟩, -⟩, -⟩
  refine ⟨trivial, ?_⟩
  simp only [↓List.toList_toArray, ↓rgd, ↓rgf, ↓reduceIte, Nat.reduceEqDiff, rg, ow_49]
  refine hK _ _ ?_; clear hK K
  have X06 : Ext noF w1 w6 := noF_of (X12.tr X35) X6 fun y o hy g => by rcases g with g | g | g; omega; omega; exact g
  have s6 := X6.size
  refine W_sq fun K hK => (W_text [false] (by kernel_rfl) ?_); simp only [↓List.toList_toArray, ↓rgd, ↓rgf, ↓reduceIte, Nat.reduceEqDiff, rg, ow_49]
  refine do_call fn_54 (vs := #[ptr w3.heap.size]) (by simp only [evt, evc, upd_eq, Nat.reduceEqDiff, ↓reduceIte, maT, maC, maN, isnN, isnS] <;> rfl) (release_any w3.heap.size m sb6 so6 cap6 false full w6 hI6) ?_
  rintro _ w7 ⟨X7, R7, k7, h7⟩
  refine ⟨trivial, ?_⟩
  simp only [↓List.toList_toArray, ↓rgd, ↓rgf, ↓reduceIte, Nat.reduceEqDiff, rg, ow_49]
  refine hK _ _ ?_; clear hK K
  have X07 : Ext noF w1 w7 := noF_of X06 X7 fun y o hy g => by omega
  have s07 := X07.size
  have k6 := X7.wok hI6.st.wi
  have l6 := wok_lt k6
  have i6 := wok_lt k7
  rw [Es_sz] at k6
  have ne6 := hI6.st.ne
  have rm7 := mk_at (X07.row rm0 fun _ _ h => h)
  have XX7 := n1.ext.tr X07
  refine W_sq fun K hK => (W_text [true, true, false, true, false] (by kernel_rfl) ?_); simp only [↓List.toList_toArray, ↓rgd, ↓rgf, ↓reduceIte, Nat.reduceEqDiff, rg, ow_49, e2, e3, rm7]
  refine do_call fn_43 (by simp only [evt, evc, upd_eq, Nat.reduceEqDiff, ↓reduceIte, maT, maC, maN, isnN, isnS] <;> rfl) (growG_low d hd ord sv nl ks kv w7 (SlV.ext0 hs XX7) hsb (SlV.ext0 hks XX7) (by omega)) ?_
  rintro _ w8 ⟨X8, B2, m2, F2, rfl, hM2, hm2, hF2, hB2⟩
  refine ⟨trivial, ?_⟩
  simp only [↓List.toList_toArray, ↓rgd, ↓rgf, ↓reduceIte, Nat.reduceEqDiff, rg, ow_49, e3]
  refine do_call fn_80 (vs := #[ptr w3.heap.size, ptr m2, .bool mu]) (by simp only [evt, evc, upd_eq, Nat.reduceEqDiff, ↓reduceIte, maT, maC, maN, isnN, isnS] <;> rfl) (init_it w3.heap.size m2 sb6 so6 cap6 mu w8 (X8.row R7 fun _ _ h => h) (X8.wok k7) (X8.wok k6) ne6) ?_
  rintro _ w9 ⟨hI9, X9, h9⟩
  refine ⟨trivial, ?_⟩
  simp only [↓List.toList_toArray, ↓rgd, ↓rgf, ↓reduceIte, Nat.reduceEqDiff, rg, ow_49]
  refine hK _ _ ?_; clear hK K
  have s8 := X8.size
  have hml2 := hM2.mlt
  have hltF2 := hM2.lt
  have hoff : ∀ y o, (y = w3.heap.size ∨ y = sb6 ∨ w9.heap.size ≤ y) → Far B2 m2 y ∧ ¬ F2 y o := fun y o g => by
    rcases g with g | g | g
    · exact ⟨.inr (by omega), fun k => by have := hF2 y o k; omega⟩
    · exact ⟨.inr (by omega), fun k => by have := hF2 y o k; omega⟩
    · exact ⟨.inl (by omega), fun k => by have := hltF2 y o k; omega⟩
  have XX9 : Ext noF w w9 := noF_of (XX7.tr X8) X9 fun y o hy g => by omega
  have sx9 := XX9.size
  refine W_sq fun K hK => (W_text [true, false, true] (by kernel_rfl) ?_); simp only [↓List.toList_toArray, ↓rgd, ↓rgf, ↓reduceIte, Nat.reduceEqDiff, rg, ow_49, e4]
  refine do_call fn_53 (vs := #[ptr w3.heap.size, mvs]) (by simp only [evt, evc, upd_eq, Nat.reduceEqDiff, ↓reduceIte, maT, maC, maN, isnN, isnS] <;> rfl) (moved_any B2 m2 (degOf d) ord hd2 hd3 1 (treeG ord ks) F2 mu w3.heap.size sb6 so6 cap6 ms mvs w9 (hM2.extF X9 fun y o g => hoff y o (.inl g)) hI9 hoff (by omega) (SlV.ext0 hms XX9) hmb fun b o n c hv => by
    have := SlV.lt hms hv
    rcases hs6 with h | h <;> omega) ?_
  rintro v10 w10 ⟨P, hP, hA, X10, ⟨full10, sb10, so10, cap10, hI10⟩, hsi⟩
  refine ⟨trivial, ?_⟩
  simp only [↓List.toList_toArray, ↓rgd, ↓rgf, ↓reduceIte, Nat.reduceEqDiff, rg, ow_49]
  refine hK _ _ ?_; clear hK K
  refine W_sq fun K hK => (W_text [false] (by kernel_rfl) ?_); simp only [↓List.toList_toArray, ↓rgd, ↓rgf, ↓reduceIte, Nat.reduceEqDiff, rg, ow_49]
  refine do_call fn_54 (vs := #[ptr w3.heap.size]) (by simp only [evt, evc, upd_eq, Nat.reduceEqDiff, ↓reduceIte, maT, maC, maN, isnN, isnS] <;> rfl) (release_any w3.heap.size m2 sb10 so10 cap10 mu full10 w10 hI10) ?_
  rintro _ w11 ⟨X11, -, -, h11⟩
  refine ⟨trivial, ?_⟩
  simp only [↓List.toList_toArray, ↓rgd, ↓rgf, ↓reduceIte, Nat.reduceEqDiff, rg, ow_49]
  refine hK _ _ ?_; clear hK K
  refine W_sq fun K hK => (W_text [true, true] (by kernel_rfl) ?_); simp only [↓List.toList_toArray, ↓rgd, ↓rgf, ↓reduceIte, Nat.reduceEqDiff, rg, ow_49]
  refine hK _ _ ?_; clear hK K
  exact W_ret (endQ_1 (by simp only [upd_eq, Nat.reduceEqDiff, ↓reduceIte] <;> rfl) ⟨P, hP.ext X11 fun b o cap hv j _ g => by have := hsi _ _ _ _ hv; omega, hA, noF_of XX9 (X10.trans X11 (fun _ _ g => g) fun _ _ _ g => .inl g) fun y o hy g => by rcases hs6 with h | h <;> omega⟩)
set_option maxHeartbeats 1600000 in
set_option maxRecDepth 8000 in
theorem law_giterinit (d : Nat) (hd : DOk d) (ord : List Int) (sv : Value) (nl : Bool) (l : List It) (lv : Value) (ks : List It) (kv : Value) (mu : Bool) (ms : List (Int × It)) (mvs : Value) (w : World) (hs : SlInt w sv ord) (hsb : ord.length ≤ 2147483647) (hl : SlI w lv l) (hbig : l.length ≤ 2147483647) (hks : SlI w kv ks) (hkb : ks.length ≤ 2147483647) (hms : SlV w 3 mvs ms.length (flat Em ms)) (hmb : ms.length ≤ 2147483647) :
    CallK Try.prog 18 #[mkV sv d nl, lv, kv, .bool mu, mvs] w fun v w' => v = .bool true ∧ Ext noF w w' := by
  refine calls_of_W [.tmp 10] Try.func18 rfl Try.ntmps18 Try.results18 (by simp) fun e he => ?_
  have e0 : e 0 = mkV sv d nl := he 0 _ rfl
  have e1 : e 1 = lv := he 1 _ rfl
  have e2 : e 2 = kv := he 2 _ rfl
  have e3 : e 3 = .bool mu := he 3 _ rfl
  have e4 : e 4 = mvs := he 4 _ rfl
  clear he
  have htl := treeG_len ord ks
  refine W_sq fun K hK => (W_text [false, true] (by kernel_rfl) ?_); simp only [↓List.toList_toArray, ↓rgd, ↓rgf, ↓reduceIte, Nat.reduceEqDiff, rg, ow_18]
  refine do_box (by simp only [evt]; exact e0) fun w0 n0 => ⟨trivial, ?_⟩
  simp only [↓List.toList_toArray, ↓rgd, ↓rgf, ↓reduceIte, Nat.reduceEqDiff, rg, ow_18]
  refine hK _ _ ?_; clear hK K
  have rm0 : Row w0 w.heap.size 0 (mkL sv d nl) := n0.row
  have rm := mk_at rm0
  refine W_sq fun K hK => (W_text [true, true, true, true, true, false, true] (by kernel_rfl) ?_); simp only [↓List.toList_toArray, ↓rgd, ↓rgf, ↓reduceIte, Nat.reduceEqDiff, rg, ow_18, e1, e2, e3, e4, rm]
  refine do_call fn_49 (by simp only [evt, evc, upd_eq, Nat.reduceEqDiff, ↓reduceIte, maT, maC, maN, isnN, isnS] <;> rfl) (impl_giterinit d hd ord sv nl l lv ks kv mu ms mvs w0 (SlV.ext0 hs n0.ext) hsb (SlV.ext0 hl n0.ext) hbig (SlV.ext0 hks n0.ext) hkb (SlV.ext0 hms n0.ext) hmb) ?_
  rintro v1 w1 ⟨P, h1, hA, X1⟩
  refine ⟨trivial, ?_⟩
  simp only [↓List.toList_toArray, ↓rgd, ↓rgf, ↓reduceIte, Nat.reduceEqDiff, rg, ow_18]
  refine hK _ _ ?_; clear hK K
  have rm1 := mk_at0 (X1.row rm0 fun _ _ h => h)
  have X01 := n0.ext.tr X1
  have z0 := n0.size
  have z1 := X1.size
  have M1 : readsB (some (some [w.heap.size])) w.heap.size = true := by simp [readsB]
  refine W_sq fun K hK => (W_draw (some (some [w.heap.size])) none [(0, 0, 0), (0, 1, 0), (0, 2, 0), (0, 3, 0), (0, 4, 0), (0, 6, 0), (1, 5, 0), (1, 7, 0), (0, 8, 0), (0, 9, 0), (0, 10, 0), (0, 11, 0), (0, 12, 0)] mixed (by kernel_rfl) ?_); simp only [↓List.toList_toArray, ↓rgd, ↓rgf, ↓reduceIte, Nat.reduceEqDiff, rg, ow_18, e2, e4, rm1, M1]
  refine do_call fn_17 (by simp only [evt, evc, upd_eq, Nat.reduceEqDiff, ↓reduceIte, maT, maC, maN, isnN, isnS] <;> rfl) (stree_ord sv ord ks kv _ (SlV.ext0 hs (X01.tr (Ext.dr noF _ _))) hsb (SlV.ext0 hks (X01.tr (Ext.dr noF _ _))) hkb) ?_
  rintro tv w2 ⟨hT, X2⟩
  have s2 := X2.size
  refine ⟨.inr (keeps_on X2 fun y hy => ⟨by rw [sz_dr]; simp only [List.mem_cons, List.not_mem_nil, or_false] at hy; omega, fun _ g => g⟩), ?_⟩
  have X2 := X2.od
  simp only [↓List.toList_toArray, ↓rgd, ↓rgf, ↓reduceIte, Nat.reduceEqDiff, rg, ow_18, e4]
  refine do_call fn_50 (vs := #[sv, tv, mvs]) (by simp only [evt, evc, upd_eq, Nat.reduceEqDiff, ↓reduceIte, maT, maC, maN, isnN, isnS] <;> rfl) (siter_any ord sv (treeG ord ks) tv ms mvs w2 (SlV.ext0 hs (X01.tr X2)) hsb hT (by omega) (SlV.ext0 hms (X01.tr X2)) hmb) ?_
  rintro _ w3 ⟨v2, v3, rfl, h2, h3, X3⟩
  have s3 := X3.size
  have s2 := X2.size
  refine ⟨by first | exact trivial | exact .inr (keeps_on X3 fun y hy => ⟨by simp only [List.mem_cons, List.not_mem_nil, or_false] at hy; omega, fun _ g => g⟩), ?_⟩
  simp only [↓List.toList_toArray, ↓rgd, ↓rgf, ↓reduceIte, Nat.reduceEqDiff, rg, ow_18]
  refine hK _ _ ?_; clear hK K
  refine W_sq fun K hK => (W_text [true, true, true, false, true] (by kernel_rfl) ?_); simp only [↓List.toList_toArray, ↓rgd, ↓rgf, ↓reduceIte, Nat.reduceEqDiff, rg, ow_18]
  have hRl := runI_length (treeG ord ks) (fun k : It => lb O (rkI ord) (rkI ord k) (treeG ord ks)) ms
  rw [← hRl] at h2 h3
  refine do_call fn_51 (by simp only [evt, evc, upd_eq, Nat.reduceEqDiff, ↓reduceIte, maT, maC, maN, isnN, isnS] <;> rfl) (same_any P _ hA v1 v2 v3 w3 (h1.ext0 (X2.tr X3)) h2 h3 (by have := hA.1; omega)) ?_
  rintro _ w4 ⟨rfl, X4⟩
  refine ⟨trivial, ?_⟩
  simp only [↓List.toList_toArray, ↓rgd, ↓rgf, ↓reduceIte, Nat.reduceEqDiff, rg, ow_18]
  refine hK _ _ ?_; clear hK K
  exact W_ret (endQ_1 (by simp only [upd_eq, Nat.reduceEqDiff, ↓reduceIte] <;> rfl) ⟨rfl, ((X01.tr X2).tr X3).tr X4⟩)
end Go.Proofs.Ytbnnkcofnmipoaa
/-
  FnGBackAndForth returns true, whatever the arguments. No condition.
-/
set_option linter.unusedSimpArgs false
set_option linter.unusedVariables false
namespace Go.Proofs.Ytbnnkcofnmipoaa
open Go Go.Proofs
theorem rem_nn (a b : Nat) (h : 0 < b) : (a : Int).tmod (b : Int) = ((a % b : Nat) : Int) := by rw [Int.tmod_eq_emod_of_nonneg (by omega)]; omega
theorem el_mv : elK Try.prog 38 = some (46, 3, 24, [.int .i64 0, .int .i64 0, .int .i64 0]) := by kernel_rfl
theorem ni_mv : noInt Try.prog 38 = true := by kernel_rfl
theorem bs_mv1 (x : Int × It) : bsV Try.prog 38 1 [(0, mvV x)] = some (46, Em.cel x) := by kernel_rfl
theorem bs_mv3 (x y z : Int × It) : bsV Try.prog 38 3 [(0, mvV x), (1, mvV y), (2, mvV z)] = some (46, flat Em [x, y, z]) := by kernel_rfl
def mvF : Int × It := (0, (0, 0))
def mvN : Int × It := (2, (0, 0))
def mvP : Int × It := (3, (0, 0))
def onM (j : Nat) : List (Int × It) := mvF :: List.replicate j mvN
theorem onM_succ (j : Nat) : onM (j + 1) = onM j ++ [mvN] := by unfold onM; rw [List.replicate_succ']; rfl
theorem onM_len (j : Nat) : (onM j).length = j + 1 := by simp [onM]
theorem run_on {X : List It} {pl : It → Nat} (j : Nat) (hj : j < X.length) : runI X pl (onM j) = (some j, (List.range (j + 1)).map fun i => (X[i]?, true)) := by
  induction j with
  | zero =>
    have : runI X pl [mvF] = nextI X pl (none, []) mvF := rfl
    rw [show onM 0 = [mvF] from rfl, this]
    unfold nextI
    rw [stepI_0 (by decide), if_pos hj]
    rfl
  | succ j ih =>
    rw [onM_succ, runI_snoc, ih (by omega)]
    unfold nextI
    rw [stepI_2 (show mvN.1 = 2 from rfl)]
    simp only [Option.bind_some, if_pos hj]
    rw [List.range_succ (n := j + 1), List.map_append]
    rfl
theorem run_back {X : List It} {pl : It → Nat} (k : Nat) (hk : k + 1 < X.length) : (runI X pl (onM k ++ [mvN, mvP, mvN])).2 = ((List.range (k + 1)).map fun i => (X[i]?, true)) ++ [(X[k + 1]?, true), (X[k]?, true), (X[k + 1]?, true)] := by
  rw [show onM k ++ [mvN, mvP, mvN] = ((onM k ++ [mvN]) ++ [mvP]) ++ [mvN] by simp, runI_snoc, runI_snoc, runI_snoc, run_on k (by omega)]
  have h1 : nextI X pl (some k, (List.range (k + 1)).map fun i => (X[i]?, true)) mvN = (some (k + 1), ((List.range (k + 1)).map fun i => (X[i]?, true)) ++ [(X[k + 1]?, true)]) := by
    unfold nextI
    rw [stepI_2 (show mvN.1 = 2 from rfl)]
    simp only [Option.bind_some, if_pos hk]
    rfl
  have h2 : ∀ L, nextI X pl (some (k + 1), L) mvP = (some k, L ++ [(X[k]?, true)]) := fun L => by
    unfold nextI
    rw [stepI_3 (show mvP.1 = 3 from rfl)]
    simp only [Option.bind_some, if_pos (Nat.succ_pos k), Nat.add_sub_cancel]
    rfl
  have h3 : ∀ L, nextI X pl (some k, L) mvN = (some (k + 1), L ++ [(X[k + 1]?, true)]) := fun L => by
    unfold nextI
    rw [stepI_2 (show mvN.1 = 2 from rfl)]
    simp only [Option.bind_some, if_pos hk]
    rfl
  rw [h1, h2, h3]
  simp
theorem back_at {X : List It} {pl : It → Nat} {P : List (Option It)} (k : Nat) (hk : k + 1 < X.length) (hA : Agree P (runI X pl (onM k ++ [mvN, mvP, mvN])).2) :
    P.length = k + 4 ∧ P[k]? = some X[k]? ∧ P[k + 1]? = some X[k + 1]? ∧ P[k + 2]? = some X[k]? ∧ P[k + 3]? = some X[k + 1]? := by
  rw [run_back k hk] at hA
  have hl : P.length = k + 4 := by rw [hA.1]; simp
  have key : ∀ (i : Nat) (r : Option It × Bool), i < k + 4 → (((List.range (k + 1)).map fun i => (X[i]?, true)) ++ [(X[k + 1]?, true), (X[k]?, true), (X[k + 1]?, true)])[i]? = some r → r.2 = true → P[i]? = some r.1 := fun i r hi hr h2 => by
    have hp : P[i]? = some P[i] := List.getElem?_eq_getElem (by omega)
    rw [hp, hA.2 i _ r hp hr h2]
  refine ⟨hl, key k (X[k]?, true) (by omega) ?_ rfl, key (k + 1) (X[k + 1]?, true) (by omega) ?_ rfl, key (k + 2) (X[k]?, true) (by omega) ?_ rfl, key (k + 3) (X[k + 1]?, true) (by omega) ?_ rfl⟩
  · rw [List.getElem?_append_left (by simp)]; simp
  · rw [List.getElem?_append_right (by simp)]; simp
  · rw [List.getElem?_append_right (by simp)]; simp
  · rw [List.getElem?_append_right (by simp)]; simp
set_option maxHeartbeats 1600000 in
set_option maxRecDepth 8000 in
theorem top_FnGBackAndForth (ord : List Int) (sv : Value) (d : Int) (nl : Bool) (a0 : List It) (v0 : Value) (a1 : Nat) (w : World) (gs : SlInt w sv ord) (g0 : SlI w v0 a0) (g1 : a1 < 256) :
    CallK Try.prog 5 #[.agg #[sv, .int .i64 d, .bool nl], v0, .int .u8 a1] w fun v w' => v = .bool true ∧ Ext noF w w' := by
  obtain ⟨p0, c0, hv0⟩ := SlV.shape g0
  refine calls_of_W [.tmp 6] Try.func5 rfl Try.ntmps5 Try.results5 (by simp) fun e he => ?_
  have e0 : e 0 = .agg #[sv, .int .i64 d, .bool nl] := he 0 _ rfl
  have e1 : e 1 = v0 := he 1 _ rfl
  have e2 : e 2 = .int .u8 a1 := he 2 _ rfl
  clear he
  refine W_sq fun K hK => (W_text [false, true] (by kernel_rfl) ?_); simp only [↓List.toList_toArray, ↓rgd, ↓rgf, ↓reduceIte, Nat.reduceEqDiff, rg, ow_5]
  refine do_box (by simp only [evt]; exact e0) fun w1 n1 => ⟨trivial, ?_⟩
  simp only [↓List.toList_toArray, ↓rgd, ↓rgf, ↓reduceIte, Nat.reduceEqDiff, rg, ow_5]
  refine hK _ _ ?_; clear hK K
  have rm1 : Row w1 w.heap.size 0 [sv, .int .i64 d, .bool nl] := n1.row
  have XB : Ext noF w w1 := n1.ext
  have sB := n1.size
  have rm13 : rdA w1 w.heap.size 0 3 = some (.agg #[sv, .int .i64 d, .bool nl]) := rm1.rdA 3 (Nat.le_refl _)
  refine W_seq ?_
  refine W_sq fun K hK => (W_text [true, false, true, true, true, true, true, true] (by kernel_rfl) ?_); simp only [↓List.toList_toArray, ↓rgd, ↓rgf, ↓reduceIte, Nat.reduceEqDiff, rg, ow_5, e1, hv0, rm13]
  refine do_call fn_12 (by simp only [evt, evc, upd_eq, Nat.reduceEqDiff, ↓reduceIte, maT, maC, maN, isnN, isnS] <;> rfl) (fits1_any sv ord (.int .i64 d) nl w1 (SlV.ext0 gs XB)) ?_
  rintro _ wf ⟨rfl, xf⟩
  refine ⟨trivial, ?_⟩
  have XF := XB.tr xf
  by_cases hbo : ord.length ≤ 2147483647
  case neg =>
    have to : decide (ord.length ≤ 2147483647) = false := by simp; omega
    simp only [↓List.toList_toArray, ↓rgd, ↓rgf, ↓reduceIte, Nat.reduceEqDiff, rg, ow_5, e1, hv0, to]
    refine hK _ _ ?_; clear hK K
    refine W_true (by simp only [evt, evc, upd_eq, Nat.reduceEqDiff, ↓reduceIte, ntT, ntF] <;> rfl) ?_
    refine W_sq fun K hK => (W_text [true] (by kernel_rfl) ?_); simp only [↓List.toList_toArray, ↓rgd, ↓rgf, ↓reduceIte, Nat.reduceEqDiff, rg, ow_5]
    refine hK _ _ ?_; clear hK K
    refine W_ret ?_
    simp only [andThen_ret]
    exact endQ_1 (by simp only [upd_eq, Nat.reduceEqDiff, ↓reduceIte] <;> rfl) ⟨rfl, XF⟩
  have to : decide (ord.length ≤ 2147483647) = true := by simp; omega
  by_cases hb0 : a0.length ≤ 2147483647
  case neg =>
    have t0 : decide ((2147483647 : Int) < (a0.length : Int)) = true := by simp; omega
    simp only [↓List.toList_toArray, ↓rgd, ↓rgf, ↓reduceIte, Nat.reduceEqDiff, rg, ow_5, e1, hv0, to, t0]
    refine hK _ _ ?_; clear hK K
    refine W_true (by simp only [evt, evc, upd_eq, Nat.reduceEqDiff, ↓reduceIte, ntT, ntF] <;> rfl) ?_
    refine W_sq fun K hK => (W_text [true] (by kernel_rfl) ?_); simp only [↓List.toList_toArray, ↓rgd, ↓rgf, ↓reduceIte, Nat.reduceEqDiff, rg, ow_5]
    refine hK _ _ ?_; clear hK K
    refine W_ret ?_
    simp only [andThen_ret]
    exact endQ_1 (by simp only [upd_eq, Nat.reduceEqDiff, ↓reduceIte] <;> rfl) ⟨rfl, XF⟩
  have t0 : decide ((2147483647 : Int) < (a0.length : Int)) = false := by simp; omega
  simp only [↓List.toList_toArray, ↓rgd, ↓rgf, ↓reduceIte, Nat.reduceEqDiff, rg, ow_5, e1, hv0, to, t0]
  refine hK _ _ ?_; clear hK K
  refine W_false (by simp only [evt, evc, upd_eq, Nat.reduceEqDiff, ↓reduceIte, ntT, ntF] <;> rfl) (W_skip ?_)
  show W _ _ _ _ _ _
  have rmf := xf.row rm1 fun _ _ h => h
  have rmf3 : rdA wf w.heap.size 0 3 = some (.agg #[sv, .int .i64 d, .bool nl]) := rmf.rdA 3 (Nat.le_refl _)
  refine W_seq ?_
  refine W_sq fun K hK => (W_text [true, false, true] (by kernel_rfl) ?_); simp only [↓List.toList_toArray, ↓rgd, ↓rgf, ↓reduceIte, Nat.reduceEqDiff, rg, ow_5, rmf3]
  refine do_call fn_13 (by simp only [evt, evc, upd_eq, Nat.reduceEqDiff, ↓reduceIte, maT, maC, maN, isnN, isnS] <;> rfl) (fitsL_any sv d nl wf (SlV.one gs)) ?_
  rintro _ wc ⟨rfl, xc⟩
  refine ⟨trivial, ?_⟩
  have XC := XF.tr xc
  cases hf : (decide (d = 0) || (decide (2 ≤ d) && decide (d ≤ 128))) with
  | false =>
    simp only [↓List.toList_toArray, ↓rgd, ↓rgf, ↓reduceIte, Nat.reduceEqDiff, rg, ow_5]
    refine hK _ _ ?_; clear hK K
    refine W_true (by simp only [evt, evc, upd_eq, Nat.reduceEqDiff, ↓reduceIte, ntT, ntF] <;> rfl) ?_
    refine W_sq fun K hK => (W_text [false, true] (by kernel_rfl) ?_); simp only [↓List.toList_toArray, ↓rgd, ↓rgf, ↓reduceIte, Nat.reduceEqDiff, rg, ow_5]
    refine do_call fn_14 (by simp only [evt, evc, upd_eq, Nat.reduceEqDiff, ↓reduceIte, maT, maC, maN, isnN, isnS] <;> rfl) (alive_any wc) ?_
    rintro _ u1 ⟨rfl, z1⟩
    refine ⟨trivial, ?_⟩
    simp only [↓List.toList_toArray, ↓rgd, ↓rgf, ↓reduceIte, Nat.reduceEqDiff, rg, ow_5]
    refine hK _ _ ?_; clear hK K
    refine W_ret ?_
    simp only [andThen_ret]
    exact endQ_1 (by simp only [upd_eq, Nat.reduceEqDiff, ↓reduceIte] <;> rfl) ⟨rfl, XC.tr z1⟩
  | true =>
    have h2 : d = 0 ∨ 2 ≤ d ∧ d ≤ 128 := by simp at hf; omega
    obtain ⟨n, rfl⟩ : ∃ n : Nat, d = n := ⟨d.toNat, by omega⟩
    have hd : DOk n := by unfold DOk; omega
    simp only [↓List.toList_toArray, ↓rgd, ↓rgf, ↓reduceIte, Nat.reduceEqDiff, rg, ow_5]
    refine hK _ _ ?_; clear hK K
    refine W_false (by simp only [evt, evc, upd_eq, Nat.reduceEqDiff, ↓reduceIte, ntT, ntF] <;> rfl) (W_skip ?_)
    show W _ _ _ _ _ _
    have rm : Row wc w.heap.size 0 (mkL sv n nl) := xc.row rmf fun _ _ h => h
    have rm3 := mk_at rm
    have sC : w.heap.size < wc.heap.size := by have := xf.size; have := xc.size; omega
    have htl := treeG_len ord a0
    refine W_sq fun K hK => (W_text [true, true, false, true] (by kernel_rfl) ?_); simp only [↓List.toList_toArray, ↓rgd, ↓rgf, ↓reduceIte, Nat.reduceEqDiff, rg, ow_5, e1, rm3]
    refine do_call fn_24 (vs := #[mkV sv n nl, v0]) (by simp only [evt, evc, upd_eq, Nat.reduceEqDiff, ↓reduceIte, maT, maC, maN, isnN, isnS] <;> rfl) (impl_gitems n hd ord sv nl a0 v0 wc (SlV.ext0 gs XC) hbo (SlV.ext0 g0 XC) (by omega)) ?_
    rintro xv u1 ⟨h1, -, X1⟩
    refine ⟨trivial, ?_⟩
    simp only [↓List.toList_toArray, ↓rgd, ↓rgf, ↓reduceIte, Nat.reduceEqDiff, rg, ow_5]
    refine hK _ _ ?_; clear hK K
    obtain ⟨xa, xcp, rfl⟩ := SlV.shape h1
    have Y1 := XC.tr X1
    refine W_seq ?_
    by_cases hX : (treeG ord a0).length < 2
    case pos =>
      have t2 : decide (((treeG ord a0).length : Int) < 2) = true := by simp; omega
      refine W_sq fun K hK => (W_text [true, true, true] (by kernel_rfl) ?_); simp only [↓List.toList_toArray, ↓rgd, ↓rgf, ↓reduceIte, Nat.reduceEqDiff, rg, ow_5, t2]
      refine hK _ _ ?_; clear hK K
      refine W_true (by simp only [evt, evc, upd_eq, Nat.reduceEqDiff, ↓reduceIte, ntT, ntF] <;> rfl) ?_
      refine W_sq fun K hK => (W_text [false, true] (by kernel_rfl) ?_); simp only [↓List.toList_toArray, ↓rgd, ↓rgf, ↓reduceIte, Nat.reduceEqDiff, rg, ow_5]
      refine do_call fn_14 (by simp only [evt, evc, upd_eq, Nat.reduceEqDiff, ↓reduceIte, maT, maC, maN, isnN, isnS] <;> rfl) (alive_any u1) ?_
      rintro _ u2 ⟨rfl, X2⟩
      refine ⟨trivial, ?_⟩
      simp only [↓List.toList_toArray, ↓rgd, ↓rgf, ↓reduceIte, Nat.reduceEqDiff, rg, ow_5]
      refine hK _ _ ?_; clear hK K
      refine W_ret ?_
      simp only [andThen_ret]
      exact endQ_1 (by simp only [upd_eq, Nat.reduceEqDiff, ↓reduceIte] <;> rfl) ⟨rfl, Y1.tr X2⟩
    have t2 : decide (((treeG ord a0).length : Int) < 2) = false := by simp; omega
    refine W_sq fun K hK => (W_text [true, true, true] (by kernel_rfl) ?_); simp only [↓List.toList_toArray, ↓rgd, ↓rgf, ↓reduceIte, Nat.reduceEqDiff, rg, ow_5, t2]
    refine hK _ _ ?_; clear hK K
    refine W_false (by simp only [evt, evc, upd_eq, Nat.reduceEqDiff, ↓reduceIte, ntT, ntF] <;> rfl) (W_skip ?_)
    show W _ _ _ _ _ _
    have q0 := u8_i64 a1 g1
    have q1 := wsub1 (treeG ord a0).length (by omega) (by omega)
    have q2 := rem_nn a1 ((treeG ord a0).length - 1) (by omega)
    have hz0 : ((((treeG ord a0).length - 1 : Nat) : Int) = 0) = False := eq_false (by omega)
    have hk : a1 % ((treeG ord a0).length - 1) < (treeG ord a0).length - 1 := Nat.mod_lt _ (by omega)
    obtain ⟨k, hkd⟩ : ∃ k, k = a1 % ((treeG ord a0).length - 1) := ⟨_, rfl⟩
    rw [← hkd] at q2 hk
    have hk255 : k < 256 := by
      have := Nat.mod_le a1 ((treeG ord a0).length - 1)
      omega
    refine W_sq fun K hK => (W_text [true, true, true, true, true, true, true] (by kernel_rfl) ?_); simp only [↓List.toList_toArray, ↓rgd, ↓rgf, ↓reduceIte, Nat.reduceEqDiff, rg, ow_5, e2, q0, q1, bv_rem _ _ _ _ hz0, q2]
    refine hK _ _ ?_; clear hK K
    clear hkd
    refine W_sq fun K hK => (W_text [true, false, true] (by kernel_rfl) ?_); simp only [↓List.toList_toArray, ↓rgd, ↓rgf, ↓reduceIte, Nat.reduceEqDiff, rg, ow_5, bu_mv]
    refine do_bsl rfl (bs_mv1 mvF) fun u2 n2 => ⟨trivial, ?_⟩
    simp only [↓List.toList_toArray, ↓rgd, ↓rgf, ↓reduceIte, Nat.reduceEqDiff, rg, ow_5]
    refine hK _ _ ?_; clear hK K
    have hm0 : OutE Em u1.heap.size (.slice (some ⟨u1.heap.size, 0, none⟩) 1 1) (onM 0) u2 := ⟨⟨rfl, .inr ⟨_, 0, 1, rfl, Nat.le_refl _, n2.row, n2.wok.R (Nat.le_refl _)⟩⟩, fun b o n c h => by cases h; exact Nat.le_refl _⟩
    refine W_seq (W_seq ?_)
    refine W_rg fun K hK => (W_text [true, true] (by kernel_rfl) ?_); simp only [↓List.toList_toArray, ↓rgd, ↓rgf, ↓reduceIte, Nat.reduceEqDiff, rg, ow_5]
    refine hK _ _ ?_; clear hK K
    show W _ _ _ _ _ _
    refine W_block (W_loop (fun mm e w' => ∃ j : Nat, mm = k - j ∧ j ≤ k ∧ e 38 = .int .i64 k ∧ e 39 = .int .i64 j ∧ e 1 = v0 ∧ e 3 = ptr w.heap.size ∧ e 7 = .slice xa (treeG ord a0).length xcp ∧ e 8 = .int .i64 k ∧ OutE Em u1.heap.size (e 9) (onM j) w' ∧ Ext (fun y _ => u1.heap.size ≤ y) u1 w')
      k ⟨0, by simp, by simp, by simp only [upd_eq, Nat.reduceEqDiff, ↓reduceIte], by simp only [upd_eq, Nat.reduceEqDiff, ↓reduceIte]; rfl, by simp only [upd_eq, Nat.reduceEqDiff, ↓reduceIte]; exact e1, by simp only [upd_eq, Nat.reduceEqDiff, ↓reduceIte]; rfl, by simp only [upd_eq, Nat.reduceEqDiff, ↓reduceIte], by simp only [upd_eq, Nat.reduceEqDiff, ↓reduceIte], by simp only [upd_eq, Nat.reduceEqDiff, ↓reduceIte]; exact hm0, n2.ext.mono fun _ _ _ g => g.elim⟩ ?_)
    clear e0 e1 e2 e
    rintro mm e w' ⟨j, rfl, hj, eL, eI, e1, e3, e7, e8, hO, X⟩
    by_cases hlt : j < k
    · have ht := lt_tt j k hlt
      refine W_sq fun K hK => (W_text [true] (by kernel_rfl) ?_); simp only [↓List.toList_toArray, ↓rgd, ↓rgf, ↓reduceIte, Nat.reduceEqDiff, rg, ow_5, eL, eI, ht]
      refine hK _ _ ?_; clear hK K
      refine W_seq (W_true (by simp only [evt, evc, upd_eq, Nat.reduceEqDiff, ↓reduceIte, ntT, ntF] <;> rfl) (W_skip ?_))
      show W _ _ _ _ _ _
      refine W_seq (W_block ?_)
      obtain ⟨ov, hov⟩ : ∃ ov, ov = e 9 := ⟨_, rfl⟩
      have e9 : e 9 = ov := hov.symm
      rw [← hov] at hO
      refine W_rg fun K hK => (W_text [true, true, false, false, true] (by kernel_rfl) ?_); simp only [↓List.toList_toArray, ↓rgd, ↓rgf, ↓reduceIte, Nat.reduceEqDiff, rg, ow_5, e9, bu_mv]
      refine do_bsl rfl (bs_mv1 mvN) fun u3 n3 => ⟨trivial, ?_⟩
      simp only [↓List.toList_toArray, ↓rgd, ↓rgf, ↓reduceIte, Nat.reduceEqDiff, rg, ow_5, e9]
      have hol := onM_len j
      refine do_append (by simp only [evt, evc, upd_eq, Nat.reduceEqDiff, ↓reduceIte, ntT, ntF] <;> rfl) (by simp only [evt, evc, upd_eq, Nat.reduceEqDiff, ↓reduceIte, ntT, ntF] <;> rfl) el_mv rfl ni_mv (hO.ext n3.ext).sl (u := .slice (some ⟨w'.heap.size, 0, none⟩) 1 1) (m := 1) (l' := Em.cel mvN) ⟨rfl, .inr ⟨_, 0, 1, rfl, Nat.le_refl _, n3.row, n3.wok.R (Nat.le_refl _)⟩⟩ (by omega) (by decide) (Em.one _) fun v4 w4 a4 => ⟨trivial, ?_⟩
      have sX := X.size
      have s3 := n3.size
      obtain ⟨hO4, X4⟩ := (hO.ext n3.ext).app (E := Em) a4 (by omega)
      simp only [↓List.toList_toArray, ↓rgd, ↓rgf, ↓reduceIte, Nat.reduceEqDiff, rg, ow_5]
      refine hK _ _ ?_; clear hK K
      show W _ _ _ _ _ _
      have q1 := wadd1 j (by omega)
      refine W_rg fun K hK => (W_text [true, true] (by kernel_rfl) ?_); simp only [↓List.toList_toArray, ↓rgd, ↓rgf, ↓reduceIte, Nat.reduceEqDiff, rg, ow_5, eI, q1]
      refine hK _ _ ?_; clear hK K
      refine ⟨_, ?_, j + 1, rfl, hlt, by simp only [upd_eq, Nat.reduceEqDiff, ↓reduceIte]; exact eL, by simp only [upd_eq, Nat.reduceEqDiff, ↓reduceIte], by simp only [upd_eq, Nat.reduceEqDiff, ↓reduceIte]; exact e1, by simp only [upd_eq, Nat.reduceEqDiff, ↓reduceIte]; exact e3, by simp only [upd_eq, Nat.reduceEqDiff, ↓reduceIte]; exact e7, by simp only [upd_eq, Nat.reduceEqDiff, ↓reduceIte]; exact e8, by simp only [upd_eq, Nat.reduceEqDiff, ↓reduceIte]; rw [onM_succ]; exact hO4, (X.tr (n3.ext.mono fun _ _ _ g => g.elim)).tr X4⟩
      omega
    · obtain rfl : j = k := by omega
      have ht := lt_ff j j (by omega)
      refine W_sq fun K hK => (W_text [true] (by kernel_rfl) ?_); simp only [↓List.toList_toArray, ↓rgd, ↓rgf, ↓reduceIte, Nat.reduceEqDiff, rg, ow_5, eL, eI, ht]
      refine hK _ _ ?_; clear hK K
      refine W_seq (W_false (by simp only [evt, evc, upd_eq, Nat.reduceEqDiff, ↓reduceIte, ntT, ntF] <;> rfl) (W_exit ?_))
      simp only [andThen_exit, inBlk_exit, andThen_normal, ↓reduceIte]
      obtain ⟨ov, hov⟩ : ∃ ov, ov = e 9 := ⟨_, rfl⟩
      have e9 : e 9 = ov := hov.symm
      rw [← hov] at hO
      refine W_sq fun K hK => (W_text [true, true, true, true, false, false, true] (by kernel_rfl) ?_); simp only [↓List.toList_toArray, ↓rgd, ↓rgf, ↓reduceIte, Nat.reduceEqDiff, rg, ow_5, e9, bu_mv]
      refine do_bsl rfl (bs_mv3 mvN mvP mvN) fun u3 n3 => ⟨trivial, ?_⟩
      simp only [↓List.toList_toArray, ↓rgd, ↓rgf, ↓reduceIte, Nat.reduceEqDiff, rg, ow_5, e9]
      have hol := onM_len j
      refine do_append (by simp only [evt, evc, upd_eq, Nat.reduceEqDiff, ↓reduceIte, ntT, ntF] <;> rfl) (by simp only [evt, evc, upd_eq, Nat.reduceEqDiff, ↓reduceIte, ntT, ntF] <;> rfl) el_mv rfl ni_mv (hO.ext n3.ext).sl (u := .slice (some ⟨w'.heap.size, 0, none⟩) 3 3) (m := 3) (l' := flat Em [mvN, mvP, mvN]) ⟨rfl, .inr ⟨_, 0, 3, rfl, Nat.le_refl _, n3.row, n3.wok.R (Nat.le_refl _)⟩⟩ (by omega) (by decide) (flat_oc Em _) fun v4 w4 a4 => ⟨trivial, ?_⟩
      have sX := X.size
      have s3 := n3.size
      obtain ⟨h4, -, X4⟩ := app_since a4 (hO.ext n3.ext).si (by omega)
      simp only [↓List.toList_toArray, ↓rgd, ↓rgf, ↓reduceIte, Nat.reduceEqDiff, rg, ow_5]
      refine hK _ _ ?_; clear hK K
      have hms : SlV w4 3 v4 (onM j ++ [mvN, mvP, mvN]).length (flat Em (onM j ++ [mvN, mvP, mvN])) := by
        rw [List.length_append, flat_append]; exact h4
      have XX4 : Ext noF u1 w4 := noF_of (Ext.refl _ _) ((X.tr (n3.ext.mono fun _ _ _ g => g.elim)).tr X4) fun y o hy g => by omega
      have Y4 := Y1.tr XX4
      have rm4 := mk_at ((X1.tr XX4).row rm fun _ _ h => h)
      refine W_sq fun K hK => (W_text [true, true, true, false, true] (by kernel_rfl) ?_); simp only [↓List.toList_toArray, ↓rgd, ↓rgf, ↓reduceIte, Nat.reduceEqDiff, rg, ow_5, e1, e3, ptr_eq, rm4]
      refine do_call fn_25 (vs := #[mkV sv n nl, v0, v4]) (by simp only [evt, evc, upd_eq, Nat.reduceEqDiff, ↓reduceIte, maT, maC, maN, isnN, isnS] <;> rfl) (impl_giter n hd ord sv nl a0 v0 _ v4 w4 (SlV.ext0 gs Y4) hbo (SlV.ext0 g0 Y4) hb0 hms (by rw [List.length_append, hol]; simp; omega)) ?_
      rintro gv u5 ⟨P, hP, hA, X5⟩
      refine ⟨trivial, ?_⟩
      simp only [↓List.toList_toArray, ↓rgd, ↓rgf, ↓reduceIte, Nat.reduceEqDiff, rg, ow_5]
      refine hK _ _ ?_; clear hK K
      obtain ⟨hl, p0, p1, p2, p3⟩ := back_at j (by omega) hA
      rw [hl] at hP
      obtain ⟨ga, gc, rfl⟩ := SlV.shape hP
      obtain ⟨x0, hx0⟩ : ∃ x, (treeG ord a0)[j]? = some x := ⟨_, List.getElem?_eq_getElem (by omega)⟩
      obtain ⟨x1, hx1⟩ : ∃ x, (treeG ord a0)[j + 1]? = some x := ⟨_, List.getElem?_eq_getElem (by omega)⟩
      rw [hx0] at p0 p2
      rw [hx1] at p1 p3
      obtain ⟨gb, go, rfl, gr⟩ := SlV.at hP rfl (show 0 < j + 4 by omega)
      obtain ⟨xb, xo, rfl, xr⟩ := SlV.at h1 rfl (show 0 < (treeG ord a0).length by omega)
      have pm : ∀ {i : Nat} {q : Option It}, P[i]? = some q → (P.map foO)[i]? = some (foO q) := fun h => by rw [List.getElem?_map, h]; rfl
      have L0 := foV_at gr (pm p0)
      have L1 := foV_at gr (pm p1)
      have L2 := foV_at gr (pm p2)
      have L3 := foV_at gr (pm p3)
      have I0 := iV_at ((XX4.tr X5).row xr fun _ _ h => h) hx0
      have z1 : IntKind.i64.wrap ((j : Int) + 1) = ((j + 1 : Nat) : Int) := by rw [IntWalk.i64_in _ (by omega)]; omega
      have z2 : IntKind.i64.wrap ((j : Int) + 2) = ((j + 2 : Nat) : Int) := by rw [IntWalk.i64_in _ (by omega)]; omega
      have z3 : IntKind.i64.wrap ((j : Int) + 3) = ((j + 3 : Nat) : Int) := by rw [IntWalk.i64_in _ (by omega)]; omega
      have z4 : IntKind.i64.wrap ((j : Int) + 4) = ((j + 4 : Nat) : Int) := by rw [IntWalk.i64_in _ (by omega)]; omega
      have z5 : ((((j + 4 : Nat)) : Int) == ((j + 4 : Nat) : Int)) = true := by simp
      have b0 : j < j + 4 := by omega
      have b1 : j + 1 < j + 4 := by omega
      have b2 : j + 2 < j + 4 := by omega
      have b3 : j + 3 < j + 4 := by omega
      have bx : j < (treeG ord a0).length := by omega
      have f0 := bu_fo1 x0
      have c0 := eq_fo (x0, true)
      have c1 := eq_fo (foO (some x0))
      have c2 := eq_fo (foO (some x1))
      have fx : foO (some x0) = (x0, true) := rfl
      have fx1 : foO (some x1) = (x1, true) := rfl
      rw [fx] at L0 L2 c1
      rw [fx1] at L1 L3 c2
      refine W_sq fun K hK => (W_free (some none) (.take 0 (.take 1 (.take 2 (.take 3 (.take 4 (.take 5 (.take 6 (.take 7 (.take 8 (.take 9 (.take 10 (.take 11 (.take 12 (.take 13 (.take 14 (.take 15 (.take 16 (.take 17 (.take 18 (.take 19 (.take 20 (.take 21 (.take 22 (.take 23 (.take 24 (.take 25 (.take 26 (.take 27 (.take 28 (.take 29 (.take 30 (.take 31 (.take 32 (.take 33 (.take 34 (.take 35 (.take 36 (.take 37 (.take 38 (.take 39 (.take 40 (.take 41 (.take 42 (.bar 43 (.take 44 (.take 45 .nil)))))))))))))))))))))))))))))))))))))))))))))) mixed (by kernel_rfl) ?_); simp only [↓List.toList_toArray, ↓rgd, ↓rgf, ↓reduceIte, Nat.reduceEqDiff, rg, ow_5, e7, e8, z1, z2, z3, z4, z5, b0, b1, b2, b3, bx, L0, L1, L2, L3, I0, f0, c0, c2]
      refine do_call fn_14 (by simp only [evt, evc, upd_eq, Nat.reduceEqDiff, ↓reduceIte, maT, maC, maN, isnN, isnS] <;> rfl) (alive_any _) ?_
      rintro _ u6 ⟨rfl, X6⟩
      refine ⟨by first | exact trivial | exact .inl trivial, ?_⟩
      simp only [↓List.toList_toArray, ↓rgd, ↓rgf, ↓reduceIte, Nat.reduceEqDiff, rg, ow_5]
      refine hK _ _ ?_; clear hK K
      exact W_ret (endQ_1 (by simp only [upd_eq, Nat.reduceEqDiff, ↓reduceIte] <;> rfl) ⟨rfl, (Y4.tr X5).tr (by first | exact X6 | exact X6.od)⟩)
end Go.Proofs.Ytbnnkcofnmipoaa
/-
  FnGBackAndForth: the whole statement: it returns true whatever the input is, and the arguments read as before. No condition.
-/
set_option linter.unusedSimpArgs false
set_option linter.unusedVariables false
namespace Go.Proofs.Ytbnnkcofnmipoaa
open Go Go.Proofs Go.ChangeShapes Go.WideShapes Go.ChangeAt Go.RowKit
theorem u8_wf {n : Int} (h : (Lit.int .u8 n).wf = true) : ∃ m : Nat, n = m ∧ m < 256 := by
  simp [Lit.wf, IntKind.min, IntKind.max, IntKind.signed, IntKind.bits] at h
  exact ⟨n.toNat, by omega, by omega⟩
set_option maxRecDepth 100000 in
theorem c_FnGBackAndForth (H : Type) (enc : TypeId × Value → H) (W : World) (base : Nat) (args : Array Value) (ds gs : List (DataW H)) (before : List MemPlace)
    (hval : ∀ (j : Nat) t v, Try.f5.params[j]? = some t → args[j]? = some v → Value.okWide Try.prog W .any base t v)
    (hW : DataW.Whole enc Try.prog Try.f5.params.toList Rows.fnGBackAndForthSpec.vars false W args.toList ds gs before) :
    Calls Try.prog 5 args W fun e W' => ∃ v, e = .returned v ∧ Rows.fnGBackAndForthSpec.post enc Try.prog Try.f5 false true false false W args v W' := by
  have hW' := hW
  obtain ⟨p, q, hA0, hV, rfl, hfz, hnd⟩ := hW
  have hA : DataW.TrodAll enc Try.prog W 0 (fun _ => true) true Try.f5.params.toList args.toList ds p := hA0
  rw [Try.params5] at hA hval
  obtain ⟨v0, v1, v2, d0, d1, d2, p0, p1, p2, rfl, rfl, rfl, h0, h1, h2⟩ := trodAll_three hA
  obtain ⟨rfl, rfl⟩ := trodVars_none hV
  obtain ⟨s0, a0, n0, r0, rfl, g0⟩ := open_make (hval 0 24 v0 rfl rfl) h0 fun b o h => hfz b o (by simp [h])
  obtain ⟨a1, g1⟩ := open_items (hval 1 25 v1 rfl rfl) h1 fun b o h => hfz b o (by simp [h])
  obtain ⟨z2, rfl, rfl, rfl, hz2⟩ := open_int Try.underlying5 (hval 2 5 v2 rfl rfl) h2
  obtain ⟨a2, rfl, g2⟩ := u8_wf hz2
  exact calls_law laidOut (by rw [Try.params5]; kernel_rfl) rfl hW' rfl rfl rfl (by kernel_rfl) Try.underlying4 (top_FnGBackAndForth r0 s0 a0 n0 a1 v1 a2 W g0 g1 g2)
set_option maxRecDepth 100000 in
theorem l_FnGBackAndForth (os : Os) (started : os.Started) (H : Type) (enc : TypeId × Value → H) :
    ReturnsInHanded {} Try.checked os 5 .any (Rows.fnGBackAndForthSpec.pre6 enc Try.prog Try.f5 Rows.fnGBackAndForthRow.domain false) (Rows.fnGBackAndForthSpec.post enc Try.prog Try.f5 false true false false) := by
  refine returnsInHanded_of_change (C := Try.checked) own started (by kernel_rfl) Try.func5
    (ChangeSpec.witness6 (enc := enc) (C := Try.checked) false ⟨#[], #[.agg #[.slice none 0 0, .int .i64 0, .bool false], .slice none 0 0, .int .u8 0], []⟩ 8 (by kernel_rfl) (by kernel_rfl) (by kernel_rfl) (by kernel_rfl)) ?_
  intro W base args ds gs before hval hW _ _
  exact c_FnGBackAndForth H enc W base args ds gs before hval hW
theorem h_FnGBackAndForth : Rows.FnGBackAndForthSaid :=
  OpenClaim.holds_of_wide 5 Try.f5 rfl rfl rfl rfl rfl rfl rfl ⟨rfl, rfl, rfl, rfl, rfl⟩ rfl rfl rfl rfl rfl (by kernel_rfl) Try.func5 (by kernel_rfl)
    (of_decide_eq_true (by kernel_rfl)) (by unfold Func.isWrapper; first | (rw [if_pos (by decide +kernel)]; kernel_rfl) | (rw [if_neg (by decide +kernel)]; exact ⟨rfl, rfl⟩))
    (fun os started H enc _ => l_FnGBackAndForth os started H enc)
#print axioms h_FnGBackAndForth
end Go.Proofs.Ytbnnkcofnmipoaa
