/-
  What is found at an index; a list with an element taken away. No condition.
-/
import Derived.Test.YtdffddiaoheklaaGSpec
import Derived.Test.YtdffddiaoheklaaMEq
import Derived.Test.YtdffddiaoheklaaMItems
set_option linter.unusedSimpArgs false
set_option linter.unusedVariables false
namespace Go.Proofs.Ytdffddiaoheklaa
open Go Go.Proofs
theorem ni_i : noInt Try.prog 25 = true := by kernel_rfl
/-- The item at an index, and whether there is one. -/
def nth (l : List It) (i : Int) : Option It := if 0 ≤ i then l[i.toNat]? else none
theorem nth_none {xs : List It} {i : Int} (h : i < 0 ∨ (xs.length : Int) ≤ i) : nth xs i = none := by
  unfold nth
  split
  · exact List.getElem?_eq_none (by omega)
  · rfl
def foO (x : Option It) : It × Bool := (x.getD (0, 0), x.isSome)
def foP (x : It) (ok : Bool) : It × Bool := if ok = true then (x, true) else ((0, 0), false)
theorem oc_fo (x : It × Bool) : oc (foV x).cells.toList := Ef.one x
theorem fo_len (x : It × Bool) : (foV x).cells.toList.length = 3 := rfl
theorem bu_fo1 (x : It) : buildV Try.prog 48 [(0, iV x), (1, .bool true)] = some (foV (x, true)) := by kernel_rfl
theorem bu_fo0 : buildV Try.prog 48 [] = some (foV ((0, 0), false)) := by kernel_rfl
theorem z_fo : zK Try.prog 48 = some [.int .i64 0, .int .i64 0, .bool false] := by kernel_rfl
theorem ld_fo {w : World} {b : Nat} {x : It × Bool} (h : Row w b 0 (Ef.cel x)) : loadV w ⟨b, 0, none⟩ (some 3) = some (foV x) := h.rdA 3 (by simp [Ef])
set_option maxHeartbeats 400000 in
set_option maxRecDepth 8000 in
theorem found_any (x : It) (ok : Bool) (w : World) : CallK Try.prog 59 #[iV x, .bool ok] w fun v w' => v = foV (foP x ok) ∧ Ext noF w w' := by
  refine calls_of_W [.cell 4 48] Try.func59 rfl Try.ntmps59 Try.results59 (by simp) fun e he => ?_
  have e0 : e 0 = iV x := he 0 _ rfl
  have e1 : e 1 = .bool ok := he 1 _ rfl
  clear he
  refine W_sq fun K hK => (W_text [false, false] (by kernel_rfl) ?_); simp only [↓List.toList_toArray, ↓rgd, ↓rgf, ↓reduceIte, Nat.reduceEqDiff, rg, ow_59]
  refine do_box (by simp only [evt]; exact e0) fun w1 n1 => ⟨trivial, ?_⟩
  simp only [↓List.toList_toArray, ↓rgd, ↓rgf, ↓reduceIte, Nat.reduceEqDiff, rg, ow_59]
  refine do_alloc z_fo fun w2 n2 => ⟨trivial, ?_⟩
  simp only [↓List.toList_toArray, ↓rgd, ↓rgf, ↓reduceIte, Nat.reduceEqDiff, rg, ow_59]
  refine hK _ _ ?_; clear hK K
  have s1 := n1.size
  have s2 := n2.size
  have bx : rdA w2 w.heap.size 0 2 = some (iV x) := (n2.ext.row n1.row fun _ _ h => h).rdA 2 (by show 2 ≤ 2; omega)
  refine W_seq ?_
  refine W_sq fun K hK => (W_text [true, true] (by kernel_rfl) ?_); simp only [↓List.toList_toArray, ↓rgd, ↓rgf, ↓reduceIte, Nat.reduceEqDiff, rg, ow_59, e1]
  refine hK _ _ ?_; clear hK K
  cases ok with
  | false =>
    refine W_true (by simp only [evt, evc, upd_eq, Nat.reduceEqDiff, ↓reduceIte, ntT, ntF] <;> rfl) ?_
    refine W_sq fun K hK => (W_text [true, false] (by kernel_rfl) ?_); simp only [↓List.toList_toArray, ↓rgd, ↓rgf, ↓reduceIte, Nat.reduceEqDiff, rg, ow_59, bu_fo0]
    refine do_store (v := foV ((0, 0), false)) (by simp only [evt, evc, upd_eq, Nat.reduceEqDiff, ↓reduceIte, ntT, ntF] <;> rfl) (by simp only [evt, evc, upd_eq, Nat.reduceEqDiff, ↓reduceIte, ntT, ntF] <;> rfl) sz_48 rfl n2.wok (by decide) (oc_fo _) fun w3 x3 r3 s3 => ⟨trivial, ?_⟩
    simp only [↓List.toList_toArray, ↓rgd, ↓rgf, ↓reduceIte, Nat.reduceEqDiff, rg, ow_59]
    refine hK _ _ ?_; clear hK K
    refine W_ret ?_
    simp only [andThen_ret]
    exact endQ_c (by simp only [upd_eq, Nat.reduceEqDiff, ↓reduceIte]) ld_48 (ld_fo r3) ⟨rfl, noF_of (n1.ext.tr n2.ext) x3 fun y o hy h => by simp only [rng] at h; omega⟩
  | true =>
    refine W_false (by simp only [evt, evc, upd_eq, Nat.reduceEqDiff, ↓reduceIte, ntT, ntF] <;> rfl) (W_skip ?_)
    show W _ _ _ _ _ _
    refine W_sq fun K hK => (W_text [true, true, false] (by kernel_rfl) ?_); simp only [↓List.toList_toArray, ↓rgd, ↓rgf, ↓reduceIte, Nat.reduceEqDiff, rg, ow_59, bx, bu_fo1]
    refine do_store (v := foV (x, true)) (by simp only [evt, evc, upd_eq, Nat.reduceEqDiff, ↓reduceIte, ntT, ntF] <;> rfl) (by simp only [evt, evc, upd_eq, Nat.reduceEqDiff, ↓reduceIte, ntT, ntF] <;> rfl) sz_48 rfl n2.wok (by decide) (oc_fo _) fun w3 x3 r3 s3 => ⟨trivial, ?_⟩
    simp only [↓List.toList_toArray, ↓rgd, ↓rgf, ↓reduceIte, Nat.reduceEqDiff, rg, ow_59]
    refine hK _ _ ?_; clear hK K
    refine W_ret ?_
    exact endQ_c (by simp only [upd_eq, Nat.reduceEqDiff, ↓reduceIte]) ld_48 (ld_fo r3) ⟨rfl, noF_of (n1.ext.tr n2.ext) x3 fun y o hy h => by simp only [rng] at h; omega⟩
/-- A list without an item, and the item. -/
def cutL (l : List It) (i : Int) : List It := if 0 ≤ i then l.eraseIdx i.toNat else l
theorem cutL_out {l : List It} {i : Int} (h : i < 0 ∨ (l.length : Int) ≤ i) : cutL l i = l := by
  unfold cutL
  split
  · exact List.eraseIdx_of_length_le (by omega)
  · rfl
set_option maxHeartbeats 1000000 in
set_option maxRecDepth 8000 in
theorem cut_any (l : List It) (lv : Value) (ix : Int) (w : World) (hl : SlI w lv l) (hbig : l.length ≤ 2147483648) :
    CallK Try.prog 97 #[lv, .int .i64 ix] w fun v w' => ∃ sv, v = .tuple #[sv, foV (foO (nth l ix))] ∧ SlI w' sv (cutL l ix) ∧ Ext noF w w' := by
  obtain ⟨a, c, hlv⟩ := hl.shape
  refine calls_of_W [.tmp 4, .cell 5 48] Try.func97 rfl Try.ntmps97 Try.results97 (by simp) fun e he => ?_
  have e0 : e 0 = .slice a l.length c := by rw [← hlv]; exact he 0 _ rfl
  have e1 : e 1 = .int .i64 ix := he 1 _ rfl
  clear he
  refine W_sq fun K hK => (W_text [true, false] (by kernel_rfl) ?_); simp only [↓List.toList_toArray, ↓rgd, ↓rgf, ↓reduceIte, Nat.reduceEqDiff, rg, ow_97]
  refine do_alloc z_fo fun w1 n1 => ⟨trivial, ?_⟩
  simp only [↓List.toList_toArray, ↓rgd, ↓rgf, ↓reduceIte, Nat.reduceEqDiff, rg, ow_97]
  refine hK _ _ ?_; clear hK K
  have s1 := n1.size
  have out : (ix < 0 ∨ (l.length : Int) ≤ ix) → nth l ix = none ∧ cutL l ix = l := fun h => ⟨nth_none h, cutL_out h⟩
  refine W_seq ?_
  by_cases h1 : ix < 0
  · have t1 : decide (ix < 0) = true := by simp [h1]
    refine W_sq fun K hK => (W_text [true, true, true, true, true, true, true, true] (by kernel_rfl) ?_); simp only [↓List.toList_toArray, ↓rgd, ↓rgf, ↓reduceIte, Nat.reduceEqDiff, rg, ow_97, e0, e1, t1]
    refine hK _ _ ?_; clear hK K
    refine W_true (by simp only [evt, evc, upd_eq, Nat.reduceEqDiff, ↓reduceIte, ntT, ntF] <;> rfl) ?_
    refine W_sq fun K hK => (W_text [true, true, true, false] (by kernel_rfl) ?_); simp only [↓List.toList_toArray, ↓rgd, ↓rgf, ↓reduceIte, Nat.reduceEqDiff, rg, ow_97, e0, bu_fo0]
    refine do_store (v := foV ((0, 0), false)) (by simp only [evt, evc, upd_eq, Nat.reduceEqDiff, ↓reduceIte, ntT, ntF] <;> rfl) (by simp only [evt, evc, upd_eq, Nat.reduceEqDiff, ↓reduceIte, ntT, ntF] <;> rfl) sz_48 rfl n1.wok (by decide) (oc_fo _) fun w3 x3 r3 s3 => ⟨trivial, ?_⟩
    simp only [↓List.toList_toArray, ↓rgd, ↓rgf, ↓reduceIte, Nat.reduceEqDiff, rg, ow_97]
    refine hK _ _ ?_; clear hK K
    refine W_ret ?_
    simp only [andThen_ret]
    have X3 := noF_of n1.ext x3 fun y o hy h => by simp only [rng] at h; omega
    rw [(out (.inl h1)).1, (out (.inl h1)).2]
    exact endQ_tc (by simp only [upd_eq, Nat.reduceEqDiff, ↓reduceIte] <;> rfl) (by simp only [upd_eq, Nat.reduceEqDiff, ↓reduceIte]) ld_48 (ld_fo r3) ⟨_, rfl, by rw [← hlv]; exact hl.ext0 X3, X3⟩
  have t1 : decide (ix < 0) = false := by simp; omega
  by_cases h2 : (l.length : Int) ≤ ix
  · have t2 : decide ((l.length : Int) ≤ ix) = true := by simp [h2]
    refine W_sq fun K hK => (W_text [true, true, true, true, true, true, true, true] (by kernel_rfl) ?_); simp only [↓List.toList_toArray, ↓rgd, ↓rgf, ↓reduceIte, Nat.reduceEqDiff, rg, ow_97, e0, e1, t1, t2]
    refine hK _ _ ?_; clear hK K
    refine W_true (by simp only [evt, evc, upd_eq, Nat.reduceEqDiff, ↓reduceIte, ntT, ntF] <;> rfl) ?_
    refine W_sq fun K hK => (W_text [true, true, true, false] (by kernel_rfl) ?_); simp only [↓List.toList_toArray, ↓rgd, ↓rgf, ↓reduceIte, Nat.reduceEqDiff, rg, ow_97, e0, bu_fo0]
    refine do_store (v := foV ((0, 0), false)) (by simp only [evt, evc, upd_eq, Nat.reduceEqDiff, ↓reduceIte, ntT, ntF] <;> rfl) (by simp only [evt, evc, upd_eq, Nat.reduceEqDiff, ↓reduceIte, ntT, ntF] <;> rfl) sz_48 rfl n1.wok (by decide) (oc_fo _) fun w3 x3 r3 s3 => ⟨trivial, ?_⟩
    simp only [↓List.toList_toArray, ↓rgd, ↓rgf, ↓reduceIte, Nat.reduceEqDiff, rg, ow_97]
    refine hK _ _ ?_; clear hK K
    refine W_ret ?_
    simp only [andThen_ret]
    have X3 := noF_of n1.ext x3 fun y o hy h => by simp only [rng] at h; omega
    rw [(out (.inr h2)).1, (out (.inr h2)).2]
    exact endQ_tc (by simp only [upd_eq, Nat.reduceEqDiff, ↓reduceIte] <;> rfl) (by simp only [upd_eq, Nat.reduceEqDiff, ↓reduceIte]) ld_48 (ld_fo r3) ⟨_, rfl, by rw [← hlv]; exact hl.ext0 X3, X3⟩
  have t2 : decide ((l.length : Int) ≤ ix) = false := by simp; omega
  refine W_sq fun K hK => (W_text [true, true, true, true, true, true, true, true] (by kernel_rfl) ?_); simp only [↓List.toList_toArray, ↓rgd, ↓rgf, ↓reduceIte, Nat.reduceEqDiff, rg, ow_97, e0, e1, t1, t2]
  refine hK _ _ ?_; clear hK K
  refine W_false (by simp only [evt, evc, upd_eq, Nat.reduceEqDiff, ↓reduceIte, ntT, ntF] <;> rfl) (W_skip ?_)
  show W _ _ _ _ _ _
  obtain ⟨i, rfl⟩ : ∃ i : Nat, ix = i := ⟨ix.toNat, by omega⟩
  have hi : i < l.length := by omega
  obtain ⟨x, hx⟩ : ∃ x, l[i]? = some x := ⟨_, List.getElem?_eq_getElem hi⟩
  have hn : nth l (i : Int) = some x := by simp [nth, hx]
  obtain ⟨sv1, hs1, hsl1⟩ := sl_hi (hl.ext0 n1.ext) i (by omega)
  obtain ⟨sv2, hs2, hsl2⟩ := sl_lo (hl.ext0 n1.ext) (i + 1) (by omega)
  rw [hlv] at hs1 hs2
  have q1 := wadd1 i (by omega)
  obtain ⟨lb, lo, rfl, row⟩ := (hl.ext0 n1.ext).at hlv hi
  have ixx := iV_at row hx
  have hlb : lb < w1.heap.size := (hl.ext0 n1.ext).lt hlv
  have M1 : readsB (some (some [lb])) lb = true := by simp [readsB]
  refine W_sq fun K hK => (W_draw (some (some [lb])) (some 16) [(0, 1, 0), (0, 2, 0), (0, 3, 0), (0, 5, 0), (0, 6, 0), (0, 7, 0), (0, 8, 0), (0, 10, 0), (0, 11, 0), (0, 12, 0), (0, 13, 0), (0, 14, 0), (1, 0, 0), (1, 4, 0), (1, 9, 0), (0, 15, 0), (1, 16, 0)] mixed (by kernel_rfl) ?_); simp only [↓List.toList_toArray, ↓rgd, ↓rgf, ↓reduceIte, Nat.reduceEqDiff, rg, ow_97, e0, e1, hs1, hs2, q1, hi, ixx, bu_fo1, M1]
  refine do_bsl rfl bs_it0 fun w2 n2 => ⟨.inr (keeps_on n2.ext fun y hy => ⟨?_, fun _ h => h⟩), ?_⟩
  · rw [sz_dr]
    simp only [List.mem_cons, List.not_mem_nil, or_false] at hy
    omega
  simp only [↓List.toList_toArray, ↓rgd, ↓rgf, ↓reduceIte, Nat.reduceEqDiff, rg, ow_97, e0, e1, hs1, hs2, q1, hi, ixx, bu_fo1]
  have n2 := n2.od
  have s2 := n2.size
  have hv2 : SlV w2 2 (.slice (some ⟨w1.heap.size, 0, none⟩) 0 0) 0 [] := ⟨rfl, .inr ⟨_, 0, 0, rfl, Nat.le_refl _, Row.nil _ _ _, n2.wok.R (Nat.le_refl _)⟩⟩
  refine do_append (by simp only [evt, evc, upd_eq, Nat.reduceEqDiff, ↓reduceIte, ntT, ntF] <;> rfl) (by simp only [evt, evc, upd_eq, Nat.reduceEqDiff, ↓reduceIte, ntT, ntF] <;> rfl) el_it rfl ni_i hv2 (hsl1.ext0 n2.ext) (by omega) (by decide) (flat_oc Ei _) fun v3 w3 a3 => ?_
  obtain ⟨hS3, hg3, x3⟩ := app_since (B := w1.heap.size) a3 (fun b o n c h => by simp only [Value.slice.injEq, Option.some.injEq, Addr.mk.injEq] at h; omega) (by omega)
  refine ⟨.inr (keeps_on x3 fun y hy => ?_), ?_⟩
  · simp only [List.mem_cons, List.not_mem_nil, or_false] at hy
    exact ⟨by omega, fun o h => by omega⟩
  simp only [↓List.toList_toArray, ↓rgd, ↓rgf, ↓reduceIte, Nat.reduceEqDiff, rg, ow_97, e0, e1, hs1, hs2, q1, hi, ixx, bu_fo1]
  have s3 := x3.size
  have hsl2' : SlV w3 2 sv2 (l.length - (i + 1)) (flat Ei (l.drop (i + 1))) := (hsl2.ext0 n2.ext).ext x3 fun b o c h k hk g => by
    have := hsl2.lt h
    omega
  refine do_append (by simp only [evt, evc, upd_eq, Nat.reduceEqDiff, ↓reduceIte, ntT, ntF] <;> rfl) (by simp only [evt, evc, upd_eq, Nat.reduceEqDiff, ↓reduceIte, ntT, ntF] <;> rfl) el_it rfl ni_i hS3 hsl2' (by omega) (by decide) (flat_oc Ei _) fun v4 w4 a4 => ?_
  obtain ⟨hS4, hg4, x4⟩ := app_since (B := w1.heap.size) a4 hg3 (by omega)
  refine ⟨.inr (keeps_on x4 fun y hy => ?_), ?_⟩
  · simp only [List.mem_cons, List.not_mem_nil, or_false] at hy
    exact ⟨by omega, fun o h => by omega⟩
  simp only [↓List.toList_toArray, ↓rgd, ↓rgf, ↓reduceIte, Nat.reduceEqDiff, rg, ow_97, e0, e1, hs1, hs2, q1, hi, ixx, bu_fo1]
  have s4 := x4.size
  have X4 : Ext (fun y _ => w.heap.size ≤ y) w w4 := ((n1.ext.mono (G := fun y _ => w.heap.size ≤ y) fun _ _ _ h => h.elim).tr (n2.ext.mono fun _ _ _ h => h.elim)).tr ((x3.tr x4).mono fun y o _ h => by omega)
  refine do_store (v := foV (x, true)) (by simp only [evt, evc, upd_eq, Nat.reduceEqDiff, ↓reduceIte, ntT, ntF] <;> rfl) (by simp only [evt, evc, upd_eq, Nat.reduceEqDiff, ↓reduceIte, ntT, ntF] <;> rfl) sz_48 rfl (x4.wok (x3.wok (n2.ext.wok n1.wok))) (by decide) (oc_fo _) fun w5 x5 r5 s5 => ⟨.inl trivial, ?_⟩
  simp only [↓List.toList_toArray, ↓rgd, ↓rgf, ↓reduceIte, Nat.reduceEqDiff, rg, ow_97]
  refine hK _ _ ?_; clear hK K
  refine W_ret ?_
  rw [hn]
  refine endQ_tc (by simp only [upd_eq, Nat.reduceEqDiff, ↓reduceIte] <;> rfl) (by simp only [upd_eq, Nat.reduceEqDiff, ↓reduceIte]) ld_48 (ld_fo r5) ⟨_, rfl, ?_, noF_of (Ext.refl _ _) (X4.tr (x5.mono fun y o _ h => by simp only [rng] at h; show w.heap.size ≤ y; omega)) fun y o hy h => by omega⟩
  have he : cutL l (i : Int) = l.take i ++ l.drop (i + 1) := by simp [cutL, List.eraseIdx_eq_take_drop_succ]
  have hln : (cutL l (i : Int)).length = 0 + i + (l.length - (i + 1)) := by rw [he, List.length_append, List.length_take, List.length_drop]; omega
  rw [SlI, hln, he, flat_append]
  have := hS4.ext x5 fun b o c h k hk g => by
    have := hg4 _ _ _ _ h
    simp only [rng] at g
    omega
  simpa using this
set_option maxHeartbeats 400000 in
set_option maxRecDepth 8000 in
theorem sat_any (l : List It) (lv : Value) (ix : Int) (w : World) (hl : SlI w lv l) (hbig : l.length ≤ 2147483648) :
    CallK Try.prog 73 #[lv, .int .i64 ix] w fun v w' => v = foV (foO (nth l ix)) ∧ Ext noF w w' := by
  refine calls_of_W [.cell 4 48] Try.func73 rfl Try.ntmps73 Try.results73 (by simp) fun e he => ?_
  have e0 : e 0 = lv := he 0 _ rfl
  have e1 : e 1 = .int .i64 ix := he 1 _ rfl
  clear he
  refine W_sq fun K hK => (W_text [false] (by kernel_rfl) ?_); simp only [↓List.toList_toArray, ↓rgd, ↓rgf, ↓reduceIte, Nat.reduceEqDiff, rg, ow_73]
  refine do_alloc z_fo fun w1 n1 => ⟨trivial, ?_⟩
  simp only [↓List.toList_toArray, ↓rgd, ↓rgf, ↓reduceIte, Nat.reduceEqDiff, rg, ow_73]
  refine hK _ _ ?_; clear hK K
  have s1 := n1.size
  refine W_sq fun K hK => (W_text [true, true, false, true, true, true, false, true, false] (by kernel_rfl) ?_); simp only [↓List.toList_toArray, ↓rgd, ↓rgf, ↓reduceIte, Nat.reduceEqDiff, rg, ow_73, e0, e1]
  refine do_call fn_97 (by simp only [evt, evc, upd_eq, Nat.reduceEqDiff, ↓reduceIte, maT, maC, maN, isnN, isnS] <;> rfl) (cut_any l lv ix w1 (hl.ext0 n1.ext) hbig) ?_
  rintro _ w2 ⟨sv, rfl, _, X2⟩
  refine ⟨trivial, ?_⟩
  simp only [↓List.toList_toArray, ↓rgd, ↓rgf, ↓reduceIte, Nat.reduceEqDiff, rg, ow_73]
  refine do_alloc z_fo fun w3 n3 => ⟨trivial, ?_⟩
  simp only [↓List.toList_toArray, ↓rgd, ↓rgf, ↓reduceIte, Nat.reduceEqDiff, rg, ow_73]
  have s2 := X2.size
  have s3 := n3.size
  refine do_store (v := foV (foO (nth l ix))) (by simp only [evt, evc, upd_eq, Nat.reduceEqDiff, ↓reduceIte, ntT, ntF] <;> rfl) (by simp only [evt, evc, upd_eq, Nat.reduceEqDiff, ↓reduceIte, ntT, ntF] <;> rfl) sz_48 rfl n3.wok (by decide) (oc_fo _) fun w4 x4 r4 s4 => ⟨trivial, ?_⟩
  simp only [↓List.toList_toArray, ↓rgd, ↓rgf, ↓reduceIte, Nat.reduceEqDiff, rg, ow_73]
  refine hK _ _ ?_; clear hK K
  have ld : rdA w4 w2.heap.size 0 3 = some (foV (foO (nth l ix))) := (show Row w4 w2.heap.size 0 (Ef.cel (foO (nth l ix))) from r4).rdA 3 (by simp [Ef])
  refine W_sq fun K hK => (W_text [true, false] (by kernel_rfl) ?_); simp only [↓List.toList_toArray, ↓rgd, ↓rgf, ↓reduceIte, Nat.reduceEqDiff, rg, ow_73, ld]
  refine do_store (v := foV (foO (nth l ix))) (by simp only [evt, evc, upd_eq, Nat.reduceEqDiff, ↓reduceIte, ntT, ntF] <;> rfl) (by simp only [evt, evc, upd_eq, Nat.reduceEqDiff, ↓reduceIte, ntT, ntF] <;> rfl) sz_48 rfl (x4.wok (n3.ext.wok (X2.wok n1.wok))) (by decide) (oc_fo _) fun w5 x5 r5 s5 => ⟨trivial, ?_⟩
  simp only [↓List.toList_toArray, ↓rgd, ↓rgf, ↓reduceIte, Nat.reduceEqDiff, rg, ow_73]
  refine hK _ _ ?_; clear hK K
  refine W_ret ?_
  refine endQ_c (by simp only [upd_eq, Nat.reduceEqDiff, ↓reduceIte]) ld_48 (ld_fo r5) ⟨rfl, ?_⟩
  have X4 : Ext noF w w4 := noF_of ((n1.ext.tr X2).tr n3.ext) x4 fun y o hy h => by simp only [rng] at h; omega
  exact noF_of X4 x5 fun y o hy h => by simp only [rng] at h; omega
end Go.Proofs.Ytdffddiaoheklaa
