/-
  The reference's words behind settings, and their keys. No condition.
-/
import Derived.Test.YtinpigpeoakeaaaWBase
import Derived.Test.YtinpigpeoakeaaaWeave
set_option linter.unusedSimpArgs false
set_option linter.unusedVariables false
namespace Go.Proofs.Ytinpigpeoakeaaa
open Go Go.Proofs
theorem z_word : zK Try.prog 31 = some [.string ByteArray.empty, .int .i64 0] := by kernel_rfl
theorem el_item : elK Try.prog 22 = some (31, 2, 24, [.string ByteArray.empty, .int .i64 0]) := by kernel_rfl
theorem el_t : elK Try.prog 36 = some (4, 1, 1, [.bool false]) := by kernel_rfl
theorem el_s : elK Try.prog 28 = some (9, 1, 16, [.string ByteArray.empty]) := by kernel_rfl
theorem ni_i : noInt Try.prog 22 = true := by kernel_rfl
theorem ni_t : noInt Try.prog 36 = true := by kernel_rfl
theorem ni_s : noInt Try.prog 28 = true := by kernel_rfl
theorem bs_item0 : bsV Try.prog 22 0 [] = some (31, []) := by kernel_rfl
theorem bs_item1 (x : It) : bsV Try.prog 22 1 [(0, iV x)] = some (31, Ei.cel x) := by kernel_rfl
theorem bs_t1 (x : Bool) : bsV Try.prog 36 1 [(0, .bool x)] = some (4, Eb.cel x) := by kernel_rfl
theorem bs_s1 (x : ByteArray) : bsV Try.prog 28 1 [(0, .string x)] = some (9, Es.cel x) := by kernel_rfl
theorem bu_wk (a : ByteArray) : buildV Try.prog 31 [(0, .string a)] = some (iV (a, 0)) := by kernel_rfl
theorem sl_hi {w : World} {lv : Value} {l : List It} (hl : SlI w lv l) (i : Nat) (hi : i ≤ l.length) : ∃ sv, sliceV Try.prog 22 lv none (some (.int .i64 (i : Nat))) none = some sv ∧ SlV w 2 sv i (flat Ei (l.take i)) := by
  have hlen : (flat Ei (l.take i)).length = i * 2 := by rw [flat_length, List.length_take, Ei_sz]; congr 1; omega
  rcases hl.2 with ⟨rfl, h⟩ | ⟨b, o, cap, rfl, hc, row, hw⟩
  · have h0 : i = 0 := by omega
    exact ⟨.slice none 0 0, by rw [slc_sl, sl_22, slcX_nil _ _ _ h0], hlen, .inl ⟨rfl, h0⟩⟩
  · exact ⟨_, by rw [slc_sl, sl_22, slcX_hi _ _ _ _ _ _ _ (by omega : i ≤ cap)], hlen, .inr ⟨b, o, cap, rfl, by omega, by rw [← flat_take]; exact row.take _, hw⟩⟩
theorem sl_lo {w : World} {lv : Value} {l : List It} (hl : SlI w lv l) (i : Nat) (hi : i ≤ l.length) : ∃ sv, sliceV Try.prog 22 lv (some (.int .i64 (i : Nat))) none none = some sv ∧ SlV w 2 sv (l.length - i) (flat Ei (l.drop i)) := by
  have hlen : (flat Ei (l.drop i)).length = (l.length - i) * 2 := by rw [flat_length, List.length_drop, Ei_sz]
  rcases hl.2 with ⟨rfl, h⟩ | ⟨b, o, cap, rfl, hc, row, hw⟩
  · have h0 : i = 0 := by omega
    exact ⟨.slice none 0 0, by rw [slc_sl, sl_22, slcX_nil_lo _ _ _ h0], hlen, .inl ⟨rfl, by omega⟩⟩
  · have hr : Row w b (o + i * 2) (flat Ei (l.drop i)) := by rw [← flat_drop]; exact row.drop _
    by_cases hci : cap = i
    · refine ⟨_, by rw [slc_sl, sl_22, slcX_lo _ _ _ _ _ _ _ hi], hlen, .inr ⟨b, o, cap - i, by simp [slFrom, hci], by omega, ?_, hw.mono (by omega) (by omega)⟩⟩
      have : l.drop i = [] := List.drop_eq_nil_of_le (by omega)
      rw [this]; exact Row.nil _ _ _
    · exact ⟨_, by rw [slc_sl, sl_22, slcX_lo _ _ _ _ _ _ _ hi], hlen, .inr ⟨b, o + i * 2, cap - i, by simp [slFrom, hci], by omega, hr, hw.mono (by omega) (by omega)⟩⟩
theorem put_two {x : It} {l : List It} : put O κ x l = l.take (lb O κ (κ x) l) ++ [x] ++ l.drop (lb O κ (κ x) l + if hit O κ (κ x) l then 1 else 0) := by unfold put; simp
theorem apart_since {w : World} {sz n : Nat} {v u : Value} {l : List Value} (hu : SlV w sz u n l) (hv : since w.heap.size v) : apart2 v u := fun b o n c o' n' c' h1 h2 => by
  have := hu.lt h2
  have := hv _ _ _ _ h1
  omega
/-- The three lists of WSet. -/
structure Tri (B : Nat) (ov kv sv : Value) (os : List It) (bs : List Bool) (l : List It) (w : World) : Prop where
  o : OutE Ei B ov os w
  k : OutE Eb B kv bs w
  s : OutE Ei B sv l w
  ok : apart2 ov kv
  os : apart2 ov sv
  ks : apart2 kv sv
theorem Tri.ext {B : Nat} {ov kv sv : Value} {os : List It} {bs : List Bool} {l : List It} {w w' : World} (h : Tri B ov kv sv os bs l w) (x : Ext noF w w') : Tri B ov kv sv os bs l w' := ⟨h.o.ext x, h.k.ext x, h.s.ext x, h.ok, h.os, h.ks⟩
theorem Tri.appO {B : Nat} {ov kv sv ov' : Value} {os : List It} {bs : List Bool} {l : List It} {x : It} {w w' : World} (h : Tri B ov kv sv os bs l w) (a : AppRes w 2 ov os.length 1 (flat Ei os) (Ei.cel x) ov' w') (hB : B ≤ w.heap.size) :
    Tri B ov' kv sv (os ++ [x]) bs l w' ∧ Ext (fun y _ => B ≤ y) w w' := by
  obtain ⟨h1, h2⟩ := h.o.app a hB
  obtain ⟨h3, h4⟩ := app_other a h.k.sl h.ok
  obtain ⟨h5, h6⟩ := app_other a h.s.sl h.os
  exact ⟨⟨h1, ⟨h3, h.k.si⟩, ⟨h5, h.s.si⟩, h4, h6, h.ks⟩, h2⟩
theorem Tri.appK {B : Nat} {ov kv sv kv' : Value} {os : List It} {bs : List Bool} {l : List It} {x : Bool} {w w' : World} (h : Tri B ov kv sv os bs l w) (a : AppRes w 1 kv bs.length 1 (flat Eb bs) (Eb.cel x) kv' w') (hB : B ≤ w.heap.size) :
    Tri B ov kv' sv os (bs ++ [x]) l w' ∧ Ext (fun y _ => B ≤ y) w w' := by
  obtain ⟨h1, h2⟩ := h.k.app a hB
  obtain ⟨h3, h4⟩ := app_other a h.o.sl h.ok.symm
  obtain ⟨h5, h6⟩ := app_other a h.s.sl h.ks
  exact ⟨⟨⟨h3, h.o.si⟩, h1, ⟨h5, h.s.si⟩, h4.symm, h.os, h6⟩, h2⟩
set_option maxHeartbeats 4000000 in
set_option maxRecDepth 8000 in
theorem wset_any (l : List It) (lv : Value) (w : World) (hl : SlI w lv l) (hbig : l.length ≤ 2147483647) :
    CallK Try.prog 51 #[lv] w fun v w' => ∃ ov kv sv, v = .tuple #[ov, kv, sv] ∧ SlI w' sv (tree l) ∧ Ext noF w w' := by
  obtain ⟨a, c, hlv⟩ := hl.shape
  refine calls_of_W [.tmp 2, .tmp 3, .tmp 4] Try.func51 rfl Try.ntmps51 Try.results51 (by simp) fun e he => ?_
  have e0 : e 0 = .slice a l.length c := by rw [← hlv]; exact he 0 _ rfl
  clear he
  refine W_sq fun K0 hK => (W_text [true, true, true] (by kernel_rfl) ?_); simp only [↓List.toList_toArray, ↓rgd, ↓reduceIte, Nat.reduceEqDiff, rg, ow_51]
  refine hK _ _ ?_; clear hK K0
  refine W_sq fun K0 hK => (W_text [true, true] (by kernel_rfl) ?_); simp only [↓List.toList_toArray, ↓rgd, ↓reduceIte, Nat.reduceEqDiff, rg, ow_51]
  refine hK _ _ ?_; clear hK K0
  refine W_sq fun K0 hK => (W_text [true] (by kernel_rfl) ?_); simp only [↓List.toList_toArray, ↓rgd, ↓reduceIte, Nat.reduceEqDiff, rg, ow_51]
  refine hK _ _ ?_; clear hK K0
  refine W_seq (W_seq ?_)
  refine W_rg fun K0 hK => (W_text [true, true, true] (by kernel_rfl) ?_); simp only [↓List.toList_toArray, ↓rgd, ↓reduceIte, Nat.reduceEqDiff, rg, ow_51, e0]
  refine hK _ _ ?_; clear hK K0
  show W _ _ _ _ _ _
  refine W_block (W_loop (fun mm e w' => ∃ (i : Nat) (os : List It) (bs : List Bool), mm = l.length - i ∧ i ≤ l.length ∧ e 14 = .slice a l.length c ∧ e 15 = .int .i64 l.length ∧ e 16 = .int .i64 i ∧ os.length = i ∧ bs.length = i ∧ Tri w.heap.size (e 5) (e 7) (e 6) os bs (tree (l.take i)) w' ∧ Ext noF w w')
    l.length ⟨0, [], [], rfl, Nat.zero_le _, ?_, ?_, ?_, rfl, rfl, ?_, Ext.refl _ _⟩ ?_)
  · simp only [upd_eq, Nat.reduceEqDiff, ↓reduceIte]
  · simp only [upd_eq, Nat.reduceEqDiff, ↓reduceIte]
  · simp only [upd_eq, Nat.reduceEqDiff, ↓reduceIte]; rfl
  · simp only [upd_eq, Nat.reduceEqDiff, ↓reduceIte]; exact ⟨OutE.nil _ _ _, OutE.nil _ _ _, OutE.nil _ _ _, (fun b o n c o' n' c' h => by cases h), (fun b o n c o' n' c' h => by cases h), (fun b o n c o' n' c' h => by cases h)⟩
  clear e0 e
  rintro mm e w' ⟨i, os, bs, rfl, hi, e14, e15, e16, ho, hb, hT, X⟩
  have sX := X.size
  have htl := tree_len (l.take i)
  have htk : (l.take i).length ≤ i := by rw [List.length_take]; omega
  by_cases hlt : i < l.length
  · have ht := lt_tt i l.length hlt
    refine W_sq fun K0 hK => (W_text [true] (by kernel_rfl) ?_); simp only [↓List.toList_toArray, ↓rgd, ↓reduceIte, Nat.reduceEqDiff, rg, ow_51, e15, e16, ht]
    refine hK _ _ ?_; clear hK K0
    refine W_seq (W_true (by simp only [evt, evc, upd_eq, Nat.reduceEqDiff, ↓reduceIte, ntT, ntF] <;> rfl) (W_skip ?_))
    show W _ _ _ _ _ _
    obtain ⟨x, hx⟩ : ∃ x, l[i]? = some x := ⟨_, List.getElem?_eq_getElem hlt⟩
    obtain ⟨b, o, rfl, row⟩ := hl.at hlv hlt
    have ix := iV_at (X.row row fun _ _ h => h) hx
    refine W_seq (W_block ?_)
    refine W_sq fun K0 hK => (W_text [true, true, false, false] (by kernel_rfl) ?_); simp only [↓List.toList_toArray, ↓rgd, ↓reduceIte, Nat.reduceEqDiff, rg, ow_51, e14, e16, hlt, ix]
    refine do_alloc z_item fun w2 n2 => ⟨trivial, ?_⟩
    simp only [↓List.toList_toArray, ↓rgd, ↓reduceIte, Nat.reduceEqDiff, rg, ow_51]
    refine do_store (v := iV x) (by simp only [evt, evc, upd_eq, Nat.reduceEqDiff, ↓reduceIte, ntT, ntF] <;> rfl) (by simp only [evt, evc, upd_eq, Nat.reduceEqDiff, ↓reduceIte, ntT, ntF] <;> rfl) sz_31 rfl n2.wok (by decide) (Ei.one x) fun w3 x3 r3 s3 => ⟨trivial, ?_⟩
    simp only [↓List.toList_toArray, ↓rgd, ↓reduceIte, Nat.reduceEqDiff, rg, ow_51]
    refine hK _ _ ?_; clear hK K0
    have s2 := n2.size
    have X3 : Ext noF w' w3 := noF_of n2.ext x3 fun y o hy h => by simp only [rng] at h; omega
    have hT3 := hT.ext X3
    have rx : Row w3 w'.heap.size 0 (Ei.cel x) := r3
    have v0 : rd w3 w'.heap.size 0 = some (.string x.1) := (Row.cons.1 rx).1
    generalize hlt' : tree (l.take i) = t at *
    generalize hsv : e 6 = sv at *
    refine W_sq fun K0 hK => (W_text [true, true, true, false, true, true, true, true, true] (by kernel_rfl) ?_); simp only [↓List.toList_toArray, ↓rgd, ↓reduceIte, Nat.reduceEqDiff, rg, ow_51, hsv, v0]
    refine do_call fn_44 (by simp only [evt, evc, upd_eq, Nat.reduceEqDiff, ↓reduceIte, maT, maC, maN, isnN, isnS] <;> rfl) (spot_any t sv (κ x) w3 hT3.s.sl (by omega)) ?_
    rintro _ w4 ⟨rfl, r4⟩
    refine ⟨trivial, ?_⟩
    simp only [↓List.toList_toArray, ↓rgd, ↓reduceIte, Nat.reduceEqDiff, rg, ow_51]
    refine hK _ _ ?_; clear hK K0
    have hT4 := hT3.ext r4.ext
    have v4 : rd w4 w'.heap.size 0 = some (.string x.1) := (r4.ext (F := noF)).rd v0 fun h => h
    have bx4 : rdA w4 w'.heap.size 0 2 = some (iV x) := ((r4.ext (F := noF)).row rx fun _ _ h => h).rdA 2 (by show 2 ≤ 2; omega)
    have hlbl := lb_le O κ (κ x) t
    have s4 := (r4.ext (F := noF)).size
    have s3' := X3.size
    refine W_sq fun K0 hK => (W_text [true, true, true, false, false] (by kernel_rfl) ?_); simp only [↓List.toList_toArray, ↓rgd, ↓reduceIte, Nat.reduceEqDiff, rg, ow_51, v4, bu_wk]
    refine do_alloc z_item fun w5 n5 => ⟨trivial, ?_⟩
    simp only [↓List.toList_toArray, ↓rgd, ↓reduceIte, Nat.reduceEqDiff, rg, ow_51]
    refine do_store (v := iV (x.1, 0)) (by simp only [evt, evc, upd_eq, Nat.reduceEqDiff, ↓reduceIte, ntT, ntF] <;> rfl) (by simp only [evt, evc, upd_eq, Nat.reduceEqDiff, ↓reduceIte, ntT, ntF] <;> rfl) sz_31 rfl n5.wok (by decide) (Ei.one _) fun w6 x6 r6 s6 => ⟨trivial, ?_⟩
    simp only [↓List.toList_toArray, ↓rgd, ↓reduceIte, Nat.reduceEqDiff, rg, ow_51]
    refine hK _ _ ?_; clear hK K0
    have s5 := n5.size
    have X6 : Ext noF w4 w6 := noF_of n5.ext x6 fun y o hy h => by simp only [rng] at h; omega
    have hT6 := hT4.ext X6
    have r6 : Row w6 w4.heap.size 0 [.string x.1, .int .i64 0] := r6
    have k6 : wok w6 w4.heap.size 2 := x6.wok n5.wok
    have bx6 : rdA w6 w'.heap.size 0 2 = some (iV x) := (X6.row ((r4.ext (F := noF)).row rx fun _ _ h => h) fun _ _ h => h).rdA 2 (by show 2 ≤ 2; omega)
    obtain ⟨sv1, hs1, hsv1⟩ := sl_hi hT6.s.sl (lb O κ (κ x) t) hlbl
    refine W_sq fun K0 hK => (W_text [false, true, true, true, false, true] (by kernel_rfl) ?_); simp only [↓List.toList_toArray, ↓rgd, ↓reduceIte, Nat.reduceEqDiff, rg, ow_51, hsv]
    refine do_bsl rfl bs_item0 fun w7 n7 => ⟨trivial, ?_⟩
    simp only [↓List.toList_toArray, ↓rgd, ↓reduceIte, Nat.reduceEqDiff, rg, ow_51, hsv, hs1]
    have s7 := n7.size
    have hv7 : SlV w7 2 (.slice (some ⟨w6.heap.size, 0, none⟩) 0 0) 0 [] := ⟨rfl, .inr ⟨_, 0, 0, rfl, Nat.le_refl _, Row.nil _ _ _, n7.wok.R (Nat.le_refl _)⟩⟩
    refine do_append (by simp only [evt, evc, upd_eq, Nat.reduceEqDiff, ↓reduceIte, ntT, ntF] <;> rfl) (by simp only [evt, evc, upd_eq, Nat.reduceEqDiff, ↓reduceIte, ntT, ntF] <;> rfl) el_item rfl ni_i hv7 (hsv1.ext0 n7.ext) (by omega) (by decide) (flat_oc Ei _) fun v8 w8 a8 => ⟨trivial, ?_⟩
    obtain ⟨hs8, hg8, x8⟩ := app_since (B := w6.heap.size) a8 (fun b o n c h => by simp only [Value.slice.injEq, Option.some.injEq, Addr.mk.injEq] at h; omega) (by omega)
    simp only [↓List.toList_toArray, ↓rgd, ↓reduceIte, Nat.reduceEqDiff, rg, ow_51]
    refine hK _ _ ?_; clear hK K0
    have s8 := x8.size
    have X8 : Ext noF w6 w8 := noF_of n7.ext x8 fun y o hy g => by omega
    rw [Nat.zero_add, List.nil_append] at hs8
    have bx8 : rdA w8 w'.heap.size 0 2 = some (iV x) := (X8.row (X6.row ((r4.ext (F := noF)).row rx fun _ _ h => h) fun _ _ h => h) fun _ _ h => h).rdA 2 (by show 2 ≤ 2; omega)
    refine W_sq fun K0 hK => (W_text [true, true, false, false, true] (by kernel_rfl) ?_); simp only [↓List.toList_toArray, ↓rgd, ↓reduceIte, Nat.reduceEqDiff, rg, ow_51, bx8]
    refine do_bsl rfl (bs_item1 x) fun w9 n9 => ⟨trivial, ?_⟩
    simp only [↓List.toList_toArray, ↓rgd, ↓reduceIte, Nat.reduceEqDiff, rg, ow_51]
    have s9 := n9.size
    have hv9 : SlV w9 2 (.slice (some ⟨w8.heap.size, 0, none⟩) 1 1) 1 (Ei.cel x) := ⟨rfl, .inr ⟨_, 0, 1, rfl, Nat.le_refl _, n9.row, n9.wok.R (Nat.le_refl _)⟩⟩
    refine do_append (by simp only [evt, evc, upd_eq, Nat.reduceEqDiff, ↓reduceIte, ntT, ntF] <;> rfl) (by simp only [evt, evc, upd_eq, Nat.reduceEqDiff, ↓reduceIte, ntT, ntF] <;> rfl) el_item rfl ni_i (hs8.ext0 n9.ext) hv9 (by omega) (by decide) (Ei.one x) fun v10 w10 a10 => ⟨trivial, ?_⟩
    obtain ⟨hs10, hg10, x10⟩ := app_since (B := w6.heap.size) a10 hg8 (by omega)
    simp only [↓List.toList_toArray, ↓rgd, ↓reduceIte, Nat.reduceEqDiff, rg, ow_51]
    refine hK _ _ ?_; clear hK K0
    have s10 := x10.size
    have X10 : Ext noF w6 w10 := noF_of (X8.tr n9.ext) x10 fun y o hy g => by omega
    have hT10 := hT6.ext X10
    have R10 : Row w10 w4.heap.size 0 [.string x.1, .int .i64 0] := X10.row r6 fun _ _ h => h
    have K10 := X10.wok k6
    have hlt2 : hit O κ (κ x) t = true → lb O κ (κ x) t < t.length := fun h => by
      obtain ⟨k, h1, _⟩ := hit_at O κ h
      exact (List.getElem?_eq_some_iff.1 h1).1
    refine W_sqx fun K hK => ?_
    have hrest : ∀ (e' : Env) (w11 : World) (y : It) (j : Nat), Ext noF w4 w11 → w6.heap.size ≤ w11.heap.size → SlV w11 2 v10 (lb O κ (κ x) t + 1) (flat Ei (t.take (lb O κ (κ x) t)) ++ Ei.cel x) → Row w11 w4.heap.size 0 (Ei.cel y) → j = lb O κ (κ x) t + (if hit O κ (κ x) t then 1 else 0) →
        e' 14 = .slice (some ⟨b, o, none⟩) l.length c → e' 15 = .int .i64 l.length → e' 16 = .int .i64 i → e' 5 = e 5 → e' 7 = e 7 → e' 6 = sv → e' 13 = v10 → e' 12 = ptr w4.heap.size → e' 11 = .bool (hit O κ (κ x) t) →
        e' 10 = .int .i64 j → K e' w11 := by
      intro e1 w11 y j X11 s11 hs11 by11 hj f14 f15 f16 f5 f7 f6 f13 f12 f11 f10
      refine hK _ _ ?_; clear hK K
      have hT11 := hT4.ext X11
      have hjl : j ≤ t.length := by
        cases hh : hit O κ (κ x) t with
        | true => have := hlt2 hh; simp [hh] at hj; omega
        | false => simp [hh] at hj; omega
      obtain ⟨sv2, hs2, hsv2⟩ := sl_lo hT11.s.sl j hjl
      refine W_sq fun K0 hK => (W_text [true, true, true, true, false, true] (by kernel_rfl) ?_); simp only [↓List.toList_toArray, ↓rgd, ↓reduceIte, Nat.reduceEqDiff, rg, ow_51, f13, f6, f10, hs2]
      refine do_append (by simp only [evt, evc, upd_eq, Nat.reduceEqDiff, ↓reduceIte, ntT, ntF] <;> rfl) (by simp only [evt, evc, upd_eq, Nat.reduceEqDiff, ↓reduceIte, ntT, ntF] <;> rfl) el_item rfl ni_i hs11 hsv2 (by omega) (by decide) (flat_oc Ei _) fun v12 w12 a12 => ⟨trivial, ?_⟩
      obtain ⟨hs12, hg12, x12⟩ := app_since (B := w6.heap.size) a12 hg10 s11
      simp only [↓List.toList_toArray, ↓rgd, ↓reduceIte, Nat.reduceEqDiff, rg, ow_51]
      refine hK _ _ ?_; clear hK K0
      have s12 := x12.size
      have X12 : Ext noF w4 w12 := noF_of X11 x12 fun y o hy g => by omega
      have hT12 := hT4.ext X12
      have hpl := put_length O κ x t
      have hlen : (put O κ x t).length = lb O κ (κ x) t + 1 + (t.length - j) := by
        cases hh : hit O κ (κ x) t with
        | true => have := hlt2 hh; simp [hh] at hj hpl; omega
        | false => simp [hh] at hj hpl; omega
      have hfe : flat Ei (t.take (lb O κ (κ x) t)) ++ Ei.cel x ++ flat Ei (t.drop j) = flat Ei (put O κ x t) := by
        rw [put_two, ← hj, flat_append, flat_append, flat_one]
      have hnew : SlV w12 2 v12 (put O κ x t).length (flat Ei (put O κ x t)) := by rw [hlen, ← hfe]; exact hs12
      have hTn : Tri w.heap.size (e 5) (e 7) v12 os bs (put O κ x t) w12 := ⟨hT12.o, hT12.k, ⟨hnew, fun b o n c h => by have := hg12 _ _ _ _ h; omega⟩, hT12.ok, (apart_since hT6.o.sl hg12).symm, (apart_since hT6.k.sl hg12).symm⟩
      have by12 : rdA w12 w4.heap.size 0 2 = some (iV y) := (x12.row by11 fun j _ g => by omega).rdA 2 (by show 2 ≤ 2; omega)
      refine W_rg fun K0 hK => (W_text [true, true, false, false, true, true, false, false, true, true] (by kernel_rfl) ?_); simp only [↓List.toList_toArray, ↓rgd, ↓reduceIte, Nat.reduceEqDiff, rg, ow_51, f5, f12, ptr_eq, by12]
      refine do_bsl rfl (bs_item1 y) fun w13 n13 => ⟨trivial, ?_⟩
      simp only [↓List.toList_toArray, ↓rgd, ↓reduceIte, Nat.reduceEqDiff, rg, ow_51]
      have s13 := n13.size
      have hTn3 := hTn.ext n13.ext
      have hv13 : SlV w13 2 (.slice (some ⟨w12.heap.size, 0, none⟩) 1 1) 1 (Ei.cel y) := ⟨rfl, .inr ⟨_, 0, 1, rfl, Nat.le_refl _, n13.row, n13.wok.R (Nat.le_refl _)⟩⟩
      refine do_append (by simp only [evt, evc, upd_eq, Nat.reduceEqDiff, ↓reduceIte, ntT, ntF] <;> rfl) (by simp only [evt, evc, upd_eq, Nat.reduceEqDiff, ↓reduceIte, ntT, ntF] <;> rfl) el_item rfl ni_i hTn3.o.sl hv13 (by omega) (by decide) (Ei.one y) fun v14 w14 a14 => ⟨trivial, ?_⟩
      obtain ⟨hTn4, x14⟩ := hTn3.appO a14 (by omega)
      simp only [↓List.toList_toArray, ↓rgd, ↓reduceIte, Nat.reduceEqDiff, rg, ow_51, f7, f11]
      have s14 := x14.size
      refine do_bsl rfl (bs_t1 _) fun w15 n15 => ⟨trivial, ?_⟩
      simp only [↓List.toList_toArray, ↓rgd, ↓reduceIte, Nat.reduceEqDiff, rg, ow_51]
      have s15 := n15.size
      have hTn5 := hTn4.ext n15.ext
      have hv15 : SlV w15 1 (.slice (some ⟨w14.heap.size, 0, none⟩) 1 1) 1 (Eb.cel (hit O κ (κ x) t)) := ⟨rfl, .inr ⟨_, 0, 1, rfl, Nat.le_refl _, n15.row, n15.wok.R (Nat.le_refl _)⟩⟩
      refine do_append (by simp only [evt, evc, upd_eq, Nat.reduceEqDiff, ↓reduceIte, ntT, ntF] <;> rfl) (by simp only [evt, evc, upd_eq, Nat.reduceEqDiff, ↓reduceIte, ntT, ntF] <;> rfl) el_t rfl ni_t hTn5.k.sl hv15 (by omega) (by decide) (Eb.one _) fun v16 w16 a16 => ⟨trivial, ?_⟩
      obtain ⟨hTn6, x16⟩ := hTn5.appK a16 (by omega)
      simp only [↓List.toList_toArray, ↓rgd, ↓reduceIte, Nat.reduceEqDiff, rg, ow_51]
      refine hK _ _ ?_; clear hK K0
      simp only [inBlk_normal, andThen_normal]
      have q1 := wadd1 i (by omega)
      refine W_rg fun K0 hK => (W_text [true, true] (by kernel_rfl) ?_); simp only [↓List.toList_toArray, ↓rgd, ↓reduceIte, Nat.reduceEqDiff, rg, ow_51, f16, q1]
      refine hK _ _ ?_; clear hK K0
      refine ⟨_, ?_, i + 1, os ++ [y], bs ++ [hit O κ (κ x) t], rfl, hlt, ?_, ?_, ?_, ?_, ?_, ?_, ?_⟩
      · omega
      · simp only [upd_eq, Nat.reduceEqDiff, ↓reduceIte]; exact f14
      · simp only [upd_eq, Nat.reduceEqDiff, ↓reduceIte]; exact f15
      · simp only [upd_eq, Nat.reduceEqDiff, ↓reduceIte]
      · rw [List.length_append, ho]; rfl
      · rw [List.length_append, hb]; rfl
      · simp only [upd_eq, Nat.reduceEqDiff, ↓reduceIte]
        rw [tree_succ l i x hx, hlt']
        exact hTn6
      · exact noF_of ((noF_of (((X.tr X3).tr r4.ext).tr (X12.tr n13.ext)) x14 fun y o hy g => by omega).tr n15.ext) x16 fun y o hy g => by omega
    clear hK
    cases hh : hit O κ (κ x) t with
    | false =>
      refine W_sq fun K0 hK => (W_text [true] (by kernel_rfl) ?_); simp only [↓List.toList_toArray, ↓rgd, ↓reduceIte, Nat.reduceEqDiff, rg, ow_51, hh]
      refine hK _ _ ?_; clear hK K0
      refine W_false (by simp only [evt, evc, upd_eq, Nat.reduceEqDiff, ↓reduceIte, ntT, ntF] <;> rfl) (W_skip ?_)
      simp only [andThen_normal]
      refine hrest _ w10 (x.1, 0) (lb O κ (κ x) t) (X6.tr X10) (by omega) hs10 R10 (by rw [hh]; rfl) ?_ ?_ ?_ ?_ ?_ ?_ ?_ ?_ ?_ ?_
      · simp only [upd_eq, Nat.reduceEqDiff, ↓reduceIte]; exact e14
      · simp only [upd_eq, Nat.reduceEqDiff, ↓reduceIte]; exact e15
      · simp only [upd_eq, Nat.reduceEqDiff, ↓reduceIte]; exact e16
      · simp only [upd_eq, Nat.reduceEqDiff, ↓reduceIte]
      · simp only [upd_eq, Nat.reduceEqDiff, ↓reduceIte]
      · simp only [upd_eq, Nat.reduceEqDiff, ↓reduceIte]; exact hsv
      · simp only [upd_eq, Nat.reduceEqDiff, ↓reduceIte]
      · simp only [upd_eq, Nat.reduceEqDiff, ↓reduceIte]; rfl
      · simp only [upd_eq, Nat.reduceEqDiff, ↓reduceIte]; rw [hh]
      · simp only [upd_eq, Nat.reduceEqDiff, ↓reduceIte]
    | true =>
      refine W_sq fun K0 hK => (W_text [true] (by kernel_rfl) ?_); simp only [↓List.toList_toArray, ↓rgd, ↓reduceIte, Nat.reduceEqDiff, rg, ow_51, hh]
      refine hK _ _ ?_; clear hK K0
      refine W_true (by simp only [evt, evc, upd_eq, Nat.reduceEqDiff, ↓reduceIte, ntT, ntF] <;> rfl) ?_
      have hil := hlt2 hh
      obtain ⟨a2, c2, hsh⟩ := hT10.s.sl.shape
      obtain ⟨b2, o2, rfl, row2⟩ := SlV.at hT10.s.sl hsh hil
      obtain ⟨y, hy⟩ : ∃ y, t[lb O κ (κ x) t]? = some y := ⟨_, List.getElem?_eq_getElem hil⟩
      have hyv : rd w10 b2 (o2 + lb O κ (κ x) t * 2 + 1) = some (.int .i64 y.2) := iv_at row2 hy
      rw [hsh] at hsv
      refine W_sq fun K0 hK => (W_text [true, true, true, true, true, true, false] (by kernel_rfl) ?_); simp only [↓List.toList_toArray, ↓rgd, ↓reduceIte, Nat.reduceEqDiff, rg, ow_51, hsv, hil, hyv, ptr_eq]
      refine do_store (v := .int .i64 y.2) (by simp only [evt, evc, upd_eq, Nat.reduceEqDiff, ↓reduceIte, ntT, ntF] <;> rfl) (by simp only [evt, evc, upd_eq, Nat.reduceEqDiff, ↓reduceIte, ntT, ntF] <;> rfl) sz_3 rfl K10 (by decide) (oc_one rfl rfl) fun w11 x11 r11 s11 => ⟨trivial, ?_⟩
      simp only [↓List.toList_toArray, ↓rgd, ↓reduceIte, Nat.reduceEqDiff, rg, ow_51]
      refine hK _ _ ?_; clear hK K0
      have q2 := wadd1 (lb O κ (κ x) t) (by omega)
      refine W_rg fun K0 hK => (W_text [true, true, true] (by kernel_rfl) ?_); simp only [↓List.toList_toArray, ↓rgd, ↓reduceIte, Nat.reduceEqDiff, rg, ow_51, q2]
      refine hK _ _ ?_; clear hK K0
      have c0 := x11.rd (Row.cons.1 R10).1 (by simp only [rng]; omega)
      have c1 := (Row.cons.1 r11).1
      have X11 : Ext noF w4 w11 := noF_of (X6.tr X10) x11 fun y o hy g => by simp only [rng] at g; omega
      have hs11 := hs10.ext x11 fun b o c h j _ g => by have := hg10 _ _ _ _ h; simp only [rng] at g; omega
      refine hrest _ w11 (x.1, y.2) (lb O κ (κ x) t + 1) X11 (by omega) hs11 (Row.cons.2 ⟨c0, Row.cons.2 ⟨c1, Row.nil _ _ _⟩⟩) (by rw [hh]; rfl) ?_ ?_ ?_ ?_ ?_ ?_ ?_ ?_ ?_ ?_
      · simp only [upd_eq, Nat.reduceEqDiff, ↓reduceIte]; exact e14
      · simp only [upd_eq, Nat.reduceEqDiff, ↓reduceIte]; exact e15
      · simp only [upd_eq, Nat.reduceEqDiff, ↓reduceIte]; exact e16
      · simp only [upd_eq, Nat.reduceEqDiff, ↓reduceIte]
      · simp only [upd_eq, Nat.reduceEqDiff, ↓reduceIte]
      · simp only [upd_eq, Nat.reduceEqDiff, ↓reduceIte]; rw [hsh]; exact hsv
      · simp only [upd_eq, Nat.reduceEqDiff, ↓reduceIte]
      · simp only [upd_eq, Nat.reduceEqDiff, ↓reduceIte]; rfl
      · simp only [upd_eq, Nat.reduceEqDiff, ↓reduceIte]; rw [hh]
      · simp only [upd_eq, Nat.reduceEqDiff, ↓reduceIte]
  · obtain rfl : i = l.length := by omega
    have ht := lt_ff l.length l.length (by omega)
    refine W_sq fun K0 hK => (W_text [true] (by kernel_rfl) ?_); simp only [↓List.toList_toArray, ↓rgd, ↓reduceIte, Nat.reduceEqDiff, rg, ow_51, e15, e16, ht]
    refine hK _ _ ?_; clear hK K0
    refine W_seq (W_false (by simp only [evt, evc, upd_eq, Nat.reduceEqDiff, ↓reduceIte, ntT, ntF] <;> rfl) (W_exit ?_))
    simp only [andThen_exit, inBlk_exit, andThen_normal, ↓reduceIte]
    refine W_sq fun K0 hK => (W_text [true, true, true, true, true, true] (by kernel_rfl) ?_); simp only [↓List.toList_toArray, ↓rgd, ↓reduceIte, Nat.reduceEqDiff, rg, ow_51]
    refine hK _ _ ?_; clear hK K0
    rw [List.take_length] at hT
    exact W_ret (endQ_3 (by simp only [upd_eq, Nat.reduceEqDiff, ↓reduceIte] <;> rfl) (by simp only [upd_eq, Nat.reduceEqDiff, ↓reduceIte] <;> rfl) (by simp only [upd_eq, Nat.reduceEqDiff, ↓reduceIte] <;> rfl) ⟨_, _, _, rfl, hT.s.sl, X⟩)
end Go.Proofs.Ytinpigpeoakeaaa
