/-
  The reference's put: the new list lies in new memory. No condition.
-/
import Derived.Test.YthonmbkjbgkfaaaMSpec
import Derived.Test.YthonmbkjbgkfaaaWeave
import Derived.Test.YthonmbkjbgkfaaaApp
set_option linter.unusedSimpArgs false
set_option linter.unusedVariables false
namespace Go.Proofs.Ythonmbkjbgkfaaa
open Go Go.Proofs
theorem z_found : zK Try.prog 38 = some [.int .i64 0, .int .i64 0, .bool false] := by kernel_rfl
theorem el_item : elK Try.prog 22 = some (36, 2, 16, [.int .i64 0, .int .i64 0]) := by kernel_rfl
theorem bs_item0 : bsV Try.prog 22 0 [] = some (36, []) := by kernel_rfl
theorem bs_item1 (x : It) : bsV Try.prog 22 1 [(0, iV x)] = some (36, Ei.cel x) := by kernel_rfl
theorem bu_found0 : buildV Try.prog 38 [] = some (.agg #[.int .i64 0, .int .i64 0, .bool false]) := by kernel_rfl
theorem bu_found1 (x : It) : buildV Try.prog 38 [(0, iV x), (1, .bool true)] = some (.agg #[.int .i64 x.1, .int .i64 x.2, .bool true]) := by kernel_rfl
theorem oc_found0 : oc (Value.agg #[.int .i64 0, .int .i64 0, .bool false]).cells.toList := by
  intro v hv
  have h : v ∈ ([.int .i64 0, .int .i64 0, .bool false] : List Value) := hv
  simp at h
  rcases h with rfl | rfl <;> rfl
theorem oc_found1 (y : It) : oc (Value.agg #[.int .i64 y.1, .int .i64 y.2, .bool true]).cells.toList := by
  intro v hv
  have h : v ∈ ([.int .i64 y.1, .int .i64 y.2, .bool true] : List Value) := hv
  simp at h
  rcases h with rfl | rfl | rfl <;> rfl
/-- What Put hands back beside the list. -/
def fV : Option It → Value
  | some y => .agg #[.int .i64 y.1, .int .i64 y.2, .bool true]
  | none => .agg #[.int .i64 0, .int .i64 0, .bool false]
theorem sl_hi {w : World} {lv : Value} {l : List It} (hl : SlI w lv l) (i : Nat) (hi : i ≤ l.length) : ∃ sv, sliceV Try.prog 22 lv none (some (.int .i64 (i : Nat))) none = some sv ∧ SlV w 2 sv i (flat Ei (l.take i)) := by
  have hlen : (flat Ei (l.take i)).length = i * 2 := by rw [flat_length, List.length_take, Ei_sz]; congr 1; omega
  rcases hl.2 with ⟨rfl, h⟩ | ⟨b, o, cap, rfl, hc, row, hw⟩
  · have h0 : i = 0 := by omega
    exact ⟨.slice none 0 0, by rw [slc_sl, sl_22, slcX_nil _ _ _ h0], hlen, .inl ⟨rfl, h0⟩⟩
  · exact ⟨_, by rw [slc_sl, sl_22, slcX_hi _ _ _ _ _ _ _ (by omega : i ≤ cap)], hlen, .inr ⟨b, o, cap, rfl, by omega, by rw [← flat_take]; exact row.take _, hw⟩⟩
theorem sl_lo {w : World} {lv : Value} {l : List It} (hl : SlI w lv l) (i : Nat) (hi : i ≤ l.length) : ∃ sv, sliceV Try.prog 22 lv (some (.int .i64 (i : Nat))) none none = some sv ∧ SlV w 2 sv (l.length - i) (flat Ei (l.drop i)) := by
  have hlen : (flat Ei (l.drop i)).length = (l.length - i) * 2 := by rw [flat_length, List.length_drop, Ei_sz]
  rcases hl.2 with ⟨rfl, h⟩ | ⟨b, o, cap, rfl, hc, row, hw⟩
  · have h0 : i = 0 := by omega
    exact ⟨.slice none 0 0, by rw [slc_sl, sl_22, slcX_nil_lo _ _ _ h0], hlen, .inl ⟨rfl, by omega⟩⟩
  · have hr : Row w b (o + i * 2) (flat Ei (l.drop i)) := by rw [← flat_drop]; exact row.drop _
    by_cases hci : cap = i
    · refine ⟨_, by rw [slc_sl, sl_22, slcX_lo _ _ _ _ _ _ _ hi], hlen, .inr ⟨b, o, cap - i, by simp [slFrom, hci], by omega, ?_, hw.mono (by omega) (by omega)⟩⟩
      have : l.drop i = [] := List.drop_eq_nil_of_le (by omega)
      rw [this]; exact Row.nil _ _ _
    · exact ⟨_, by rw [slc_sl, sl_22, slcX_lo _ _ _ _ _ _ _ hi], hlen, .inr ⟨b, o + i * 2, cap - i, by simp [slFrom, hci], by omega, hr, hw.mono (by omega) (by omega)⟩⟩
set_option maxHeartbeats 1000000 in
set_option maxRecDepth 8000 in
theorem sput_nil (l : List It) (lv : Value) (x : It) (w : World) (hl : SlI w lv l) (hbig : l.length ≤ 2147483648) :
    CallK Try.prog 48 #[nilS, lv, iV x] w fun v w' => ∃ sv, v = .tuple #[sv, fV (at? O κ (κ x) l)] ∧ SlI w' sv (put O κ x l) ∧ Ext noF w w' ∧ since w.heap.size sv := by
  refine calls_of_W [.tmp 6, .cell 7 38] Try.func48 rfl Try.ntmps48 Try.results48 (by simp) fun e he => ?_
  have e0 : e 0 = nilS := he 0 _ rfl
  have e1 : e 1 = lv := he 1 _ rfl
  have e2 : e 2 = iV x := he 2 _ rfl
  clear he
  have hlbl := lb_le O κ (κ x) l
  refine W_sq fun K hK => (W_text [false, true, false] (by kernel_rfl) ?_); simp only [↓List.toList_toArray, ↓rgd, ↓reduceIte, Nat.reduceEqDiff, rg, ow_48]
  refine do_box (by simp only [evt]; exact e2) fun w1 n1 => ⟨trivial, ?_⟩
  simp only [↓List.toList_toArray, ↓rgd, ↓reduceIte, Nat.reduceEqDiff, rg, ow_48]
  refine do_alloc z_found fun w2 n2 => ⟨trivial, ?_⟩
  simp only [↓List.toList_toArray, ↓rgd, ↓reduceIte, Nat.reduceEqDiff, rg, ow_48]
  refine hK _ _ ?_; clear hK K
  have s1 := n1.size
  have s2 := n2.size
  have X2 := n1.ext.tr n2.ext
  have bx2 : rdA w2 w.heap.size 0 2 = some (iV x) := (n2.ext.row n1.row fun _ _ h => h).rdA 2 (by show 2 ≤ 2; omega)
  refine W_sq fun K hK => (W_text [true, true, true, false, true, true, true, true, true] (by kernel_rfl) ?_); simp only [↓List.toList_toArray, ↓rgd, ↓reduceIte, Nat.reduceEqDiff, rg, ow_48, e0, e1, bx2]
  refine do_call fn_65 (by simp only [evt, evc, upd_eq, Nat.reduceEqDiff, ↓reduceIte, maT, maC, maN, isnN, isnS] <;> rfl) (place_nil l lv x w2 (hl.ext0 X2) hbig) ?_
  rintro _ w3 ⟨rfl, x3⟩
  refine ⟨trivial, ?_⟩
  simp only [↓List.toList_toArray, ↓rgd, ↓reduceIte, Nat.reduceEqDiff, rg, ow_48]
  refine hK _ _ ?_; clear hK K
  have s3 := x3.size
  have X3 := X2.tr x3
  have bx3 : rdA w3 w.heap.size 0 2 = some (iV x) := (x3.row (n2.ext.row n1.row fun _ _ h => h) fun _ _ h => h).rdA 2 (by show 2 ≤ 2; omega)
  generalize hi : lb O κ (κ x) l = i at *
  have hl3 := hl.ext0 X3
  obtain ⟨sv1, hs1, hsv1⟩ := sl_hi hl3 i hlbl
  have hz2 : ∀ v ∈ ([.int .i64 0, .int .i64 0] : List Value), v.oneCell' = true := by intro v hv; simp at hv; subst hv; rfl
  refine W_sq fun K hK => (W_text [false, true, true, true, false, true] (by kernel_rfl) ?_); simp only [↓List.toList_toArray, ↓rgd, ↓reduceIte, Nat.reduceEqDiff, rg, ow_48, e1]
  refine do_bsl rfl bs_item0 fun w4 n4 => ⟨trivial, ?_⟩
  simp only [↓List.toList_toArray, ↓rgd, ↓reduceIte, Nat.reduceEqDiff, rg, ow_48, e1, hs1]
  have s4 := n4.size
  have hv4 : SlV w4 2 (.slice (some ⟨w3.heap.size, 0, none⟩) 0 0) 0 [] := ⟨rfl, .inr ⟨_, 0, 0, rfl, Nat.le_refl _, Row.nil _ _ _, n4.wok.R (Nat.le_refl _)⟩⟩
  refine do_append (by simp only [evt, evc, upd_eq, Nat.reduceEqDiff, ↓reduceIte, ntT, ntF] <;> rfl) (by simp only [evt, evc, upd_eq, Nat.reduceEqDiff, ↓reduceIte, ntT, ntF] <;> rfl) el_item rfl ni_22 hv4 (hsv1.ext0 n4.ext) (by omega) (by decide) (flat_oc Ei _) fun v5 w5 a5 => ⟨trivial, ?_⟩
  obtain ⟨hs5, hg5, x5⟩ := app_since (B := w3.heap.size) a5 (fun b o n c h => by simp only [Value.slice.injEq, Option.some.injEq, Addr.mk.injEq] at h; omega) (by omega)
  simp only [↓List.toList_toArray, ↓rgd, ↓reduceIte, Nat.reduceEqDiff, rg, ow_48]
  refine hK _ _ ?_; clear hK K
  have s5 := x5.size
  have X5 : Ext noF w w5 := noF_of (X3.tr n4.ext) x5 fun y o hy g => by omega
  have bx5 : rdA w5 w.heap.size 0 2 = some (iV x) := (X5.tr (Ext.refl _ _) |> fun _ => x5.row (n4.ext.row (x3.row (n2.ext.row n1.row fun _ _ h => h) fun _ _ h => h) fun _ _ h => h) fun j _ g => by omega).rdA 2 (by show 2 ≤ 2; omega)
  rw [Nat.zero_add, List.nil_append] at hs5
  refine W_sq fun K hK => (W_text [true, true, false, false, true] (by kernel_rfl) ?_); simp only [↓List.toList_toArray, ↓rgd, ↓reduceIte, Nat.reduceEqDiff, rg, ow_48, bx5]
  refine do_bsl rfl (bs_item1 x) fun w6 n6 => ⟨trivial, ?_⟩
  simp only [↓List.toList_toArray, ↓rgd, ↓reduceIte, Nat.reduceEqDiff, rg, ow_48]
  have s6 := n6.size
  have hv6 : SlV w6 2 (.slice (some ⟨w5.heap.size, 0, none⟩) 1 1) 1 (Ei.cel x) := ⟨rfl, .inr ⟨_, 0, 1, rfl, Nat.le_refl _, n6.row, n6.wok.R (Nat.le_refl _)⟩⟩
  refine do_append (by simp only [evt, evc, upd_eq, Nat.reduceEqDiff, ↓reduceIte, ntT, ntF] <;> rfl) (by simp only [evt, evc, upd_eq, Nat.reduceEqDiff, ↓reduceIte, ntT, ntF] <;> rfl) el_item rfl ni_22 (hs5.ext0 n6.ext) hv6 (by omega) (by decide) (Ei.one x) fun v7 w7 a7 => ⟨trivial, ?_⟩
  obtain ⟨hs7, hg7, x7⟩ := app_since (B := w3.heap.size) a7 hg5 (by omega)
  simp only [↓List.toList_toArray, ↓rgd, ↓reduceIte, Nat.reduceEqDiff, rg, ow_48]
  refine hK _ _ ?_; clear hK K
  have s7 := x7.size
  have X7 : Ext noF w w7 := noF_of (X5.tr n6.ext) x7 fun y o hy g => by omega
  refine W_seq ?_
  refine W_sq fun K hK => (W_text [true] (by kernel_rfl) ?_); simp only [↓List.toList_toArray, ↓rgd, ↓reduceIte, Nat.reduceEqDiff, rg, ow_48]
  refine hK _ _ ?_; clear hK K
  have fr7 : Row w7 w1.heap.size 0 [.int .i64 0, .int .i64 0, .bool false] := x7.row (n6.ext.row (x5.row (n4.ext.row (x3.row n2.row fun _ _ h => h) fun _ _ h => h) fun j _ g => by omega) fun _ _ h => h) fun j _ g => by omega
  have fw7 : wok w7 w1.heap.size 3 := x7.wok (n6.ext.wok (x5.wok (n4.ext.wok (x3.wok n2.wok))))
  cases hh : hit O κ (κ x) l with
  | false =>
    refine W_false (by simp only [evt, evc, upd_eq, Nat.reduceEqDiff, ↓reduceIte, ntT, ntF] <;> rfl) (W_skip ?_)
    show W _ _ _ _ _ _
    obtain ⟨sv2, hs2, hsv2⟩ := sl_lo (hl.ext0 X7) i hlbl
    refine W_sq fun K hK => (W_text [true, true, true, true, false, true, true, false] (by kernel_rfl) ?_); simp only [↓List.toList_toArray, ↓rgd, ↓reduceIte, Nat.reduceEqDiff, rg, ow_48, e1, hs2]
    refine do_append (by simp only [evt, evc, upd_eq, Nat.reduceEqDiff, ↓reduceIte, ntT, ntF] <;> rfl) (by simp only [evt, evc, upd_eq, Nat.reduceEqDiff, ↓reduceIte, ntT, ntF] <;> rfl) el_item rfl ni_22 hs7 hsv2 (by omega) (by decide) (flat_oc Ei _) fun v8 w8 a8 => ⟨trivial, ?_⟩
    obtain ⟨hs8, hg8, x8⟩ := app_since (B := w3.heap.size) a8 hg7 (by omega)
    simp only [↓List.toList_toArray, ↓rgd, ↓reduceIte, Nat.reduceEqDiff, rg, ow_48, bu_found0]
    have s8 := x8.size
    refine do_store (by simp only [evt, evc, upd_eq, Nat.reduceEqDiff, ↓reduceIte, ntT, ntF] <;> rfl) (by simp only [evt, evc, upd_eq, Nat.reduceEqDiff, ↓reduceIte, ntT, ntF] <;> rfl) sz_38 rfl (x8.wok fw7) (by decide) oc_found0 fun w9 x9 r9 s9 => ⟨trivial, ?_⟩
    simp only [↓List.toList_toArray, ↓rgd, ↓reduceIte, Nat.reduceEqDiff, rg, ow_48]
    refine hK _ _ ?_; clear hK K
    have hat : at? O κ (κ x) l = none := by unfold at?; rw [hh]; rfl
    have hp := put_leaf O κ hh
    rw [hi] at hp
    have hs9 := hs8.ext x9 fun b o c hb j _ g => by have := hg8 _ _ _ _ hb; simp only [rng] at g; omega
    have hlen : (put O κ x l).length = i + 1 + (l.length - i) := by rw [put_length, hh]; simp; omega
    have X9 : Ext noF w w9 := noF_of (noF_of X7 x8 fun y o hy g => by omega) x9 fun y o hy g => by simp only [rng] at g; omega
    refine W_ret (endQ_tc (by simp only [upd_eq, Nat.reduceEqDiff, ↓reduceIte] <;> rfl) (by simp only [upd_eq, Nat.reduceEqDiff, ↓reduceIte] <;> rfl) ld_38 (r9.rdA 3 (by show 3 ≤ 3; omega)) ⟨_, by rw [hat]; rfl, ?_, X9, fun b o k c hb => by have := hg8 _ _ _ _ hb; omega⟩)
    have he : flat Ei (l.take i) ++ Ei.cel x ++ flat Ei (l.drop i) = flat Ei (put O κ x l) := by rw [hp, flat_append, flat_cons, List.append_assoc]
    show SlV w9 2 _ (put O κ x l).length _
    rw [hlen, ← he]; exact hs9
  | true =>
    refine W_true (by simp only [evt, evc, upd_eq, Nat.reduceEqDiff, ↓reduceIte, ntT, ntF] <;> rfl) ?_
    obtain ⟨y, hy, hxy⟩ := hit_at O κ hh
    rw [hi] at hy
    have hil := (List.getElem?_eq_some_iff.1 hy).1
    obtain ⟨sv2, hs2, hsv2⟩ := sl_lo (hl.ext0 X7) (i + 1) hil
    have q1 := wadd1 i (by omega)
    obtain ⟨b, o, cap, hlv2, row, hb⟩ : ∃ b o cap, lv = .slice (some ⟨b, o, none⟩) l.length cap ∧ Row w b o (flat Ei l) ∧ b < w.heap.size := by
      rcases hl.2 with ⟨_, h⟩ | ⟨b, o, cap, h1, _, h2, h3⟩
      · omega
      · exact ⟨b, o, cap, h1, h2, wokR_lt h3⟩
    rw [hlv2] at hs2 e1
    have ix := iV_at (X7.row row fun _ _ h => h) hy
    have M1 : readsB (some (some [b])) b = true := by simp [readsB]
    rw [slc_sl, sl_22] at hs2
    refine W_sq fun K hK => (W_draw (some (some [b])) (some 12) [(0, 0, 0), (0, 1, 0), (0, 2, 0), (0, 3, 0), (0, 4, 0), (0, 6, 0), (0, 7, 0), (0, 8, 0), (0, 9, 0), (0, 10, 0), (1, 5, 0), (0, 11, 0), (1, 12, 0)] mixed (by kernel_rfl) ?_); simp only [↓List.toList_toArray, ↓rgd, ↓reduceIte, Nat.reduceEqDiff, rg, ow_48, e1, q1, hs2, hil, ix, M1, bu_found1]
    have s3' := X3.size
    refine do_append (by simp only [evt, evc, upd_eq, Nat.reduceEqDiff, ↓reduceIte, ntT, ntF] <;> rfl) (by simp only [evt, evc, upd_eq, Nat.reduceEqDiff, ↓reduceIte, ntT, ntF] <;> rfl) el_item rfl ni_22 hs7 hsv2 (by omega) (by decide) (flat_oc Ei _) fun v8 w8 a8 => ?_
    obtain ⟨hs8, hg8, x8'⟩ := app_since (B := w3.heap.size) a8 hg7 (by rw [sz_dr]; omega)
    refine ⟨.inr (keeps_on x8' fun z hz => ?_), ?_⟩
    · rw [sz_dr]
      simp only [List.mem_cons, List.not_mem_nil, or_false] at hz
      subst hz
      exact ⟨by omega, fun _ g => by omega⟩
    have x8 := x8'.od
    simp only [↓List.toList_toArray, ↓rgd, ↓reduceIte, Nat.reduceEqDiff, rg, ow_48, bu_found1]
    have s8 := x8.size
    refine do_store (by simp only [evt, evc, upd_eq, Nat.reduceEqDiff, ↓reduceIte, ntT, ntF] <;> rfl) (by simp only [evt, evc, upd_eq, Nat.reduceEqDiff, ↓reduceIte, ntT, ntF] <;> rfl) sz_38 rfl (x8.wok fw7) (by decide) (oc_found1 y) fun w9 x9 r9 s9 => ⟨.inl trivial, ?_⟩
    simp only [↓List.toList_toArray, ↓rgd, ↓reduceIte, Nat.reduceEqDiff, rg, ow_48]
    refine hK _ _ ?_; clear hK K
    have hat : at? O κ (κ x) l = some y := by unfold at?; rw [hh, hi, hy]; rfl
    have hp := put_set O κ hh
    rw [hi, List.set_eq_take_append_cons_drop, if_pos hil] at hp
    have hs9 := hs8.ext x9 fun b o c hb j _ g => by have := hg8 _ _ _ _ hb; simp only [rng] at g; omega
    have hlen : (put O κ x l).length = i + 1 + (l.length - (i + 1)) := by rw [put_length, hh]; simp; omega
    have X9 : Ext noF w w9 := noF_of (noF_of X7 x8 fun y o hy g => by omega) x9 fun y o hy g => by simp only [rng] at g; omega
    refine W_ret ?_
    simp only [andThen_ret]
    refine endQ_tc (by simp only [upd_eq, Nat.reduceEqDiff, ↓reduceIte] <;> rfl) (by simp only [upd_eq, Nat.reduceEqDiff, ↓reduceIte] <;> rfl) ld_38 (r9.rdA 3 (by show 3 ≤ 3; omega)) ⟨_, by rw [hat]; rfl, ?_, X9, fun b o k c hb => by have := hg8 _ _ _ _ hb; omega⟩
    have he : flat Ei (l.take i) ++ Ei.cel x ++ flat Ei (l.drop (i + 1)) = flat Ei (put O κ x l) := by rw [hp, flat_append, flat_cons, List.append_assoc]
    show SlV w9 2 _ (put O κ x l).length _
    rw [hlen, ← he]; exact hs9
end Go.Proofs.Ythonmbkjbgkfaaa
