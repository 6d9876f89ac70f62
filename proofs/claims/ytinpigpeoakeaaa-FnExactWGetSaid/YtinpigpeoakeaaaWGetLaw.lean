/-
  The law on Get. No condition.
-/
import Derived.Test.YtinpigpeoakeaaaMGrow2
import Derived.Test.YtinpigpeoakeaaaMLook
import Derived.Test.YtinpigpeoakeaaaWKeysLaw
set_option linter.unusedSimpArgs false
set_option linter.unusedVariables false
namespace Go.Proofs.Ytinpigpeoakeaaa
open Go Go.Proofs
theorem el_n : elK Try.prog 48 = some (3, 1, 8, [.int .i64 0]) := by kernel_rfl
theorem ni_n : noInt Try.prog 48 = true := by kernel_rfl
theorem bs_n1 (x : Int) : bsV Try.prog 48 1 [(0, .int .i64 x)] = some (3, En.cel x) := by kernel_rfl
/-- Two lists that are being made. -/
structure Duo (B : Nat) (nv bv : Value) (N : List Int) (T : List Bool) (w : World) : Prop where
  n : OutE En B nv N w
  b : OutE Eb B bv T w
  ap : apart2 nv bv
theorem Duo.ext {B : Nat} {nv bv : Value} {N : List Int} {T : List Bool} {w w' : World} (h : Duo B nv bv N T w) (x : Ext noF w w') : Duo B nv bv N T w' := ⟨h.n.ext x, h.b.ext x, h.ap⟩
theorem Duo.nil (B : Nat) (w : World) : Duo B (.slice none 0 0) (.slice none 0 0) [] [] w := ⟨OutE.nil _ _ _, OutE.nil _ _ _, fun b o n c o' n' c' h => by cases h⟩
theorem Duo.appN {B : Nat} {nv bv nv' : Value} {N : List Int} {T : List Bool} {x : Int} {w w' : World} (h : Duo B nv bv N T w) (a : AppRes w 1 nv N.length 1 (flat En N) (En.cel x) nv' w') (hB : B ≤ w.heap.size) : Duo B nv' bv (N ++ [x]) T w' ∧ Ext (fun y _ => B ≤ y) w w' := by
  obtain ⟨h1, h2⟩ := h.n.app a hB
  obtain ⟨h3, h4⟩ := app_other a h.b.sl h.ap
  exact ⟨⟨h1, ⟨h3, h.b.si⟩, h4⟩, h2⟩
theorem Duo.appB {B : Nat} {nv bv bv' : Value} {N : List Int} {T : List Bool} {x : Bool} {w w' : World} (h : Duo B nv bv N T w) (a : AppRes w 1 bv T.length 1 (flat Eb T) (Eb.cel x) bv' w') (hB : B ≤ w.heap.size) : Duo B nv bv' N (T ++ [x]) w' ∧ Ext (fun y _ => B ≤ y) w w' := by
  obtain ⟨h1, h2⟩ := h.b.app a hB
  obtain ⟨h3, h4⟩ := app_other a h.n.sl h.ap.symm
  exact ⟨⟨⟨h3, h.n.si⟩, h1, h4.symm⟩, h2⟩
def valOf (t : List It) (k : Rk) : Int := ((at? O κ k t).getD zIt).2
def SlS (w : World) (v : Value) (l : List ByteArray) : Prop := SlV w 1 v l.length (flat Es l)
set_option maxHeartbeats 2000000 in
set_option maxRecDepth 8000 in
theorem impl_wget (d : Nat) (hd : 2 ≤ d) (hd' : d ≤ 128) (l : List It) (lv : Value) (ks : List ByteArray) (kv : Value) (w : World) (hl : SlI w lv l) (hk : SlV w 1 kv ks.length (flat Es ks)) (hbig : l.length ≤ 2147483647) (hkb : ks.length ≤ 2147483647) :
    CallK Try.prog 27 #[.int .i64 d, lv, kv] w fun v w' => ∃ nv bv, v = .tuple #[nv, bv] ∧ Duo w.heap.size nv bv (ks.map (valOf (tree l))) (ks.map (fun k => hit O κ k (tree l))) w' ∧ Ext noF w w' := by
  obtain ⟨a, c, hkv⟩ := hk.shape
  refine calls_of_W [.tmp 6, .tmp 7] Try.func27 rfl Try.ntmps27 Try.results27 (by simp) fun e he => ?_
  have e0 : e 0 = .int .i64 d := he 0 _ rfl
  have e1 : e 1 = lv := he 1 _ rfl
  have e2 : e 2 = .slice a ks.length c := by rw [← hkv]; exact he 2 _ rfl
  clear he
  refine W_sq fun K0 hK => (W_text [true, true] (by kernel_rfl) ?_); simp only [↓List.toList_toArray, ↓rgd, ↓reduceIte, Nat.reduceEqDiff, rg, ow_27]
  refine hK _ _ ?_; clear hK K0
  refine W_sq fun K0 hK => (W_text [true, true, false, true] (by kernel_rfl) ?_); simp only [↓List.toList_toArray, ↓rgd, ↓reduceIte, Nat.reduceEqDiff, rg, ow_27, e0, e1]
  refine do_call fn_24 (by simp only [evt, evc, upd_eq, Nat.reduceEqDiff, ↓reduceIte, maT, maC, maN, isnN, isnS] <;> rfl) (grow_any d hd hd' l lv w hl hbig) ?_
  rintro _ w1 ⟨X1, m, F, rfl, hM, hm, hF⟩
  refine ⟨trivial, ?_⟩
  simp only [↓List.toList_toArray, ↓rgd, ↓reduceIte, Nat.reduceEqDiff, rg, ow_27]
  refine hK _ _ ?_; clear hK K0
  refine W_sq fun K0 hK => (W_text [true] (by kernel_rfl) ?_); simp only [↓List.toList_toArray, ↓rgd, ↓reduceIte, Nat.reduceEqDiff, rg, ow_27]
  refine hK _ _ ?_; clear hK K0
  refine W_sq fun K0 hK => (W_text [true] (by kernel_rfl) ?_); simp only [↓List.toList_toArray, ↓rgd, ↓reduceIte, Nat.reduceEqDiff, rg, ow_27]
  refine hK _ _ ?_; clear hK K0
  refine W_seq (W_seq ?_)
  refine W_rg fun K0 hK => (W_text [true, true, true] (by kernel_rfl) ?_); simp only [↓List.toList_toArray, ↓rgd, ↓reduceIte, Nat.reduceEqDiff, rg, ow_27, e2]
  refine hK _ _ ?_; clear hK K0
  show W _ _ _ _ _ _
  have s1 := X1.size
  have htl := tree_len l
  generalize tree l = t at *
  have hk1 := hk.ext0 X1
  refine W_block (W_loop (fun mm e w' => ∃ i : Nat, mm = ks.length - i ∧ i ≤ ks.length ∧ e 18 = .slice a ks.length c ∧ e 19 = .int .i64 ks.length ∧ e 20 = .int .i64 i ∧ e 8 = ptr m ∧ Duo w1.heap.size (e 9) (e 10) ((ks.take i).map (valOf t)) ((ks.take i).map (fun k => hit O κ k t)) w' ∧ Ext (fun y _ => w1.heap.size ≤ y) w1 w')
    ks.length ⟨0, rfl, Nat.zero_le _, ?_, ?_, ?_, ?_, ?_, Ext.refl _ _⟩ ?_)
  · simp only [upd_eq, Nat.reduceEqDiff, ↓reduceIte]
  · simp only [upd_eq, Nat.reduceEqDiff, ↓reduceIte]
  · simp only [upd_eq, Nat.reduceEqDiff, ↓reduceIte]; rfl
  · simp only [upd_eq, Nat.reduceEqDiff, ↓reduceIte]
  · simp only [upd_eq, Nat.reduceEqDiff, ↓reduceIte]; exact Duo.nil _ _
  clear e0 e1 e2 e
  rintro mm e w' ⟨i, rfl, hi, e18, e19, e20, e8, hD, X⟩
  have sX := X.size
  by_cases hlt : i < ks.length
  · have ht := lt_tt i ks.length hlt
    refine W_sq fun K0 hK => (W_text [true] (by kernel_rfl) ?_); simp only [↓List.toList_toArray, ↓rgd, ↓reduceIte, Nat.reduceEqDiff, rg, ow_27, e19, e20, ht]
    refine hK _ _ ?_; clear hK K0
    refine W_seq (W_true (by simp only [evt, evc, upd_eq, Nat.reduceEqDiff, ↓reduceIte, ntT, ntF] <;> rfl) (W_skip ?_))
    show W _ _ _ _ _ _
    obtain ⟨k, hx⟩ : ∃ k, ks[i]? = some k := ⟨_, List.getElem?_eq_getElem hlt⟩
    obtain ⟨b, o, rfl, row⟩ := hk1.at hkv hlt
    have hbl := hk1.lt hkv
    have ix := sV_at (X.row row fun _ _ h => by omega) hx
    refine W_seq (W_block ?_)
    refine W_sq fun K0 hK => (W_text [true, true, true] (by kernel_rfl) ?_); simp only [↓List.toList_toArray, ↓rgd, ↓reduceIte, Nat.reduceEqDiff, rg, ow_27, e18, e20, hlt, ix]
    refine hK _ _ ?_; clear hK K0
    have hMw : MapAt w' m d 0 t F := hM.extG X (fun y o g => by have := hM.lt y o g; omega) (fun o => by have := hM.mlt; omega)
    have hlk : (ks.take i).length = i := by rw [List.length_take]; omega
    refine W_sq fun K0 hK => (W_text [true, true, false, true, true, true, true, true] (by kernel_rfl) ?_); simp only [↓List.toList_toArray, ↓rgd, ↓reduceIte, Nat.reduceEqDiff, rg, ow_27, e8]
    refine do_call fn_43 (by simp only [evt, evc, upd_eq, Nat.reduceEqDiff, ↓reduceIte, maT, maC, maN, isnN, isnS] <;> rfl) (getM_any m d hd hd' 0 t F k w' hMw) ?_
    rintro _ w2 ⟨rfl, r2⟩
    refine ⟨trivial, ?_⟩
    simp only [↓List.toList_toArray, ↓rgd, ↓reduceIte, Nat.reduceEqDiff, rg, ow_27]
    refine hK _ _ ?_; clear hK K0
    have X2 : Ext noF w' w2 := r2.ext
    have s2 := X2.size
    have hD2 := hD.ext X2
    refine W_rg fun K0 hK => (W_text [true, true, false, false, true, true, false, false, true, true] (by kernel_rfl) ?_); simp only [↓List.toList_toArray, ↓rgd, ↓reduceIte, Nat.reduceEqDiff, rg, ow_27]
    refine do_bsl rfl (bs_n1 (valOf t k)) fun w3 n3 => ⟨trivial, ?_⟩
    simp only [↓List.toList_toArray, ↓rgd, ↓reduceIte, Nat.reduceEqDiff, rg, ow_27]
    have s3 := n3.size
    have hD3 := hD2.ext n3.ext
    have z3 : SlV w3 1 (.slice (some ⟨w2.heap.size, 0, none⟩) 1 1) 1 (En.cel (valOf t k)) := ⟨rfl, .inr ⟨_, 0, 1, rfl, Nat.le_refl _, n3.row, n3.wok.R (Nat.le_refl _)⟩⟩
    refine do_append (by simp only [evt, evc, upd_eq, Nat.reduceEqDiff, ↓reduceIte, ntT, ntF] <;> rfl) (by simp only [evt, evc, upd_eq, Nat.reduceEqDiff, ↓reduceIte, ntT, ntF] <;> rfl) el_n rfl ni_n hD3.n.sl z3 (by rw [List.length_map]; omega) (by decide) (En.one _) fun v4 w4 a4 => ⟨trivial, ?_⟩
    obtain ⟨hD4, X4⟩ := hD3.appN a4 (by omega)
    simp only [↓List.toList_toArray, ↓rgd, ↓reduceIte, Nat.reduceEqDiff, rg, ow_27]
    have s4 := X4.size
    refine do_bsl rfl (bs_t1 _) fun w5 n5 => ⟨trivial, ?_⟩
    simp only [↓List.toList_toArray, ↓rgd, ↓reduceIte, Nat.reduceEqDiff, rg, ow_27]
    have s5 := n5.size
    have hD5 := hD4.ext n5.ext
    have z5 : SlV w5 1 (.slice (some ⟨w4.heap.size, 0, none⟩) 1 1) 1 (Eb.cel (hit O κ k t)) := ⟨rfl, .inr ⟨_, 0, 1, rfl, Nat.le_refl _, n5.row, n5.wok.R (Nat.le_refl _)⟩⟩
    refine do_append (by simp only [evt, evc, upd_eq, Nat.reduceEqDiff, ↓reduceIte, ntT, ntF] <;> rfl) (by simp only [evt, evc, upd_eq, Nat.reduceEqDiff, ↓reduceIte, ntT, ntF] <;> rfl) el_t rfl ni_t hD5.b.sl z5 (by rw [List.length_map]; omega) (by decide) (Eb.one _) fun v6 w6 a6 => ⟨trivial, ?_⟩
    obtain ⟨hD6, X6⟩ := hD5.appB a6 (by omega)
    simp only [↓List.toList_toArray, ↓rgd, ↓reduceIte, Nat.reduceEqDiff, rg, ow_27]
    refine hK _ _ ?_; clear hK K0
    show W _ _ _ _ _ _
    have q1 := wadd1 i (by omega)
    refine W_rg fun K0 hK => (W_text [true, true] (by kernel_rfl) ?_); simp only [↓List.toList_toArray, ↓rgd, ↓reduceIte, Nat.reduceEqDiff, rg, ow_27, e20, q1]
    refine hK _ _ ?_; clear hK K0
    refine ⟨_, ?_, i + 1, rfl, hlt, ?_, ?_, ?_, ?_, ?_, (((X.tr ((X2.tr n3.ext).mono fun _ _ _ h => h.elim)).tr X4).tr (n5.ext.mono fun _ _ _ h => h.elim)).tr X6⟩
    · omega
    · simp only [upd_eq, Nat.reduceEqDiff, ↓reduceIte]; exact e18
    · simp only [upd_eq, Nat.reduceEqDiff, ↓reduceIte]; exact e19
    · simp only [upd_eq, Nat.reduceEqDiff, ↓reduceIte]
    · simp only [upd_eq, Nat.reduceEqDiff, ↓reduceIte]; exact e8
    · simp only [upd_eq, Nat.reduceEqDiff, ↓reduceIte]
      rw [take_snoc hx, List.map_append, List.map_append]
      exact hD6
  · obtain rfl : i = ks.length := by omega
    have ht := lt_ff ks.length ks.length (by omega)
    refine W_sq fun K0 hK => (W_text [true] (by kernel_rfl) ?_); simp only [↓List.toList_toArray, ↓rgd, ↓reduceIte, Nat.reduceEqDiff, rg, ow_27, e19, e20, ht]
    refine hK _ _ ?_; clear hK K0
    refine W_seq (W_false (by simp only [evt, evc, upd_eq, Nat.reduceEqDiff, ↓reduceIte, ntT, ntF] <;> rfl) (W_exit ?_))
    simp only [andThen_exit, inBlk_exit, andThen_normal, ↓reduceIte]
    refine W_sq fun K0 hK => (W_text [true, true, true, true] (by kernel_rfl) ?_); simp only [↓List.toList_toArray, ↓rgd, ↓reduceIte, Nat.reduceEqDiff, rg, ow_27]
    refine hK _ _ ?_; clear hK K0
    rw [List.take_length] at hD
    exact W_ret (endQ_2 (by simp only [upd_eq, Nat.reduceEqDiff, ↓reduceIte] <;> rfl) (by simp only [upd_eq, Nat.reduceEqDiff, ↓reduceIte] <;> rfl) ⟨_, _, rfl, ⟨⟨hD.n.sl, fun b o n c h => by have := hD.n.si _ _ _ _ h; omega⟩, ⟨hD.b.sl, fun b o n c h => by have := hD.b.si _ _ _ _ h; omega⟩, hD.ap⟩, noF_of X1 X fun y o hy g => by omega⟩)
set_option maxHeartbeats 2000000 in
set_option maxRecDepth 8000 in
theorem spec_wget (l : List It) (lv : Value) (ks : List ByteArray) (kv : Value) (w : World) (hl : SlI w lv l) (hk : SlV w 1 kv ks.length (flat Es ks)) (hbig : l.length ≤ 2147483647) (hkb : ks.length ≤ 2147483647) :
    CallK Try.prog 28 #[lv, kv] w fun v w' => ∃ nv bv, v = .tuple #[nv, bv] ∧ Duo w.heap.size nv bv (ks.map (valOf (tree l))) (ks.map (fun k => hit O κ k (tree l))) w' ∧ Ext noF w w' := by
  obtain ⟨a, c, hkv⟩ := hk.shape
  refine calls_of_W [.tmp 4, .tmp 5] Try.func28 rfl Try.ntmps28 Try.results28 (by simp) fun e he => ?_
  have e0 : e 0 = lv := he 0 _ rfl
  have e1 : e 1 = .slice a ks.length c := by rw [← hkv]; exact he 1 _ rfl
  clear he
  refine W_sq fun K0 hK => (W_text [true, true] (by kernel_rfl) ?_); simp only [↓List.toList_toArray, ↓rgd, ↓reduceIte, Nat.reduceEqDiff, rg, ow_28]
  refine hK _ _ ?_; clear hK K0
  refine W_sq fun K0 hK => (W_text [true, false, true] (by kernel_rfl) ?_); simp only [↓List.toList_toArray, ↓rgd, ↓reduceIte, Nat.reduceEqDiff, rg, ow_28, e0]
  refine do_call fn_37 (by simp only [evt, evc, upd_eq, Nat.reduceEqDiff, ↓reduceIte, maT, maC, maN, isnN, isnS] <;> rfl) (words_any l lv w hl hbig) ?_
  rintro tv w1 ⟨h1, X1⟩
  refine ⟨trivial, ?_⟩
  simp only [↓List.toList_toArray, ↓rgd, ↓reduceIte, Nat.reduceEqDiff, rg, ow_28]
  refine hK _ _ ?_; clear hK K0
  refine W_sq fun K0 hK => (W_text [true] (by kernel_rfl) ?_); simp only [↓List.toList_toArray, ↓rgd, ↓reduceIte, Nat.reduceEqDiff, rg, ow_28]
  refine hK _ _ ?_; clear hK K0
  refine W_sq fun K0 hK => (W_text [true] (by kernel_rfl) ?_); simp only [↓List.toList_toArray, ↓rgd, ↓reduceIte, Nat.reduceEqDiff, rg, ow_28]
  refine hK _ _ ?_; clear hK K0
  refine W_seq (W_seq ?_)
  refine W_rg fun K0 hK => (W_text [true, true, true] (by kernel_rfl) ?_); simp only [↓List.toList_toArray, ↓rgd, ↓reduceIte, Nat.reduceEqDiff, rg, ow_28, e1]
  refine hK _ _ ?_; clear hK K0
  show W _ _ _ _ _ _
  have s1 := X1.size
  have htl := tree_len l
  generalize tree l = t at *
  have hk1 := hk.ext0 X1
  obtain ⟨a2, c2, htv⟩ := h1.shape
  refine W_block (W_loop (fun mm e w' => ∃ i : Nat, mm = ks.length - i ∧ i ≤ ks.length ∧ e 16 = .slice a ks.length c ∧ e 17 = .int .i64 ks.length ∧ e 18 = .int .i64 i ∧ e 6 = tv ∧ Duo w1.heap.size (e 7) (e 8) ((ks.take i).map (valOf t)) ((ks.take i).map (fun k => hit O κ k t)) w' ∧ Ext (fun y _ => w1.heap.size ≤ y) w1 w')
    ks.length ⟨0, rfl, Nat.zero_le _, ?_, ?_, ?_, ?_, ?_, Ext.refl _ _⟩ ?_)
  · simp only [upd_eq, Nat.reduceEqDiff, ↓reduceIte]
  · simp only [upd_eq, Nat.reduceEqDiff, ↓reduceIte]
  · simp only [upd_eq, Nat.reduceEqDiff, ↓reduceIte]; rfl
  · simp only [upd_eq, Nat.reduceEqDiff, ↓reduceIte]
  · simp only [upd_eq, Nat.reduceEqDiff, ↓reduceIte]; exact Duo.nil _ _
  clear e0 e1 e
  rintro mm e w' ⟨i, rfl, hi, e16, e17, e18, e6, hD, X⟩
  have sX := X.size
  by_cases hlt : i < ks.length
  · have ht := lt_tt i ks.length hlt
    refine W_sq fun K0 hK => (W_text [true] (by kernel_rfl) ?_); simp only [↓List.toList_toArray, ↓rgd, ↓reduceIte, Nat.reduceEqDiff, rg, ow_28, e17, e18, ht]
    refine hK _ _ ?_; clear hK K0
    refine W_seq (W_true (by simp only [evt, evc, upd_eq, Nat.reduceEqDiff, ↓reduceIte, ntT, ntF] <;> rfl) (W_skip ?_))
    show W _ _ _ _ _ _
    obtain ⟨k, hx⟩ : ∃ k, ks[i]? = some k := ⟨_, List.getElem?_eq_getElem hlt⟩
    obtain ⟨b, o, rfl, row⟩ := hk1.at hkv hlt
    have hbl := hk1.lt hkv
    have ix := sV_at (X.row row fun _ _ h => by omega) hx
    have hT : SlI w' tv t := h1.ext X fun b o c hb j _ g => by have := h1.lt hb; omega
    refine W_seq (W_block ?_)
    refine W_sq fun K0 hK => (W_text [true, true, true] (by kernel_rfl) ?_); simp only [↓List.toList_toArray, ↓rgd, ↓reduceIte, Nat.reduceEqDiff, rg, ow_28, e16, e18, hlt, ix]
    refine hK _ _ ?_; clear hK K0
    have hlk : (ks.take i).length = i := by rw [List.length_take]; omega
    refine W_sq fun K0 hK => (W_text [true] (by kernel_rfl) ?_); simp only [↓List.toList_toArray, ↓rgd, ↓reduceIte, Nat.reduceEqDiff, rg, ow_28]
    refine hK _ _ ?_; clear hK K0
    refine W_sq fun K0 hK => (W_text [true, true, false, true, true, true, true, true] (by kernel_rfl) ?_); simp only [↓List.toList_toArray, ↓rgd, ↓reduceIte, Nat.reduceEqDiff, rg, ow_28, e6]
    refine do_call fn_44 (by simp only [evt, evc, upd_eq, Nat.reduceEqDiff, ↓reduceIte, maT, maC, maN, isnN, isnS] <;> rfl) (spot_any t tv k w' hT (by omega)) ?_
    rintro _ w2 ⟨rfl, r2⟩
    refine ⟨trivial, ?_⟩
    simp only [↓List.toList_toArray, ↓rgd, ↓reduceIte, Nat.reduceEqDiff, rg, ow_28]
    refine hK _ _ ?_; clear hK K0
    have X2 : Ext noF w' w2 := r2.ext
    have s2 := X2.size
    have hD2 := hD.ext X2
    refine W_sqx fun K hK => ?_
    have hrest : ∀ e' : Env, e' 16 = .slice (some ⟨b, o, none⟩) ks.length c → e' 17 = .int .i64 ks.length → e' 18 = .int .i64 i → e' 6 = tv → e' 7 = e 7 → e' 8 = e 8 → e' 11 = .int .i64 (valOf t k) → e' 13 = .bool (hit O κ k t) → K e' w2 := by
      intro e' f16 f17 f18 f6 f7 f8 f11 f13
      refine hK _ _ ?_; clear hK K
      refine W_rg fun K0 hK => (W_text [true, true, false, false, true, true, false, false, true, true] (by kernel_rfl) ?_); simp only [↓List.toList_toArray, ↓rgd, ↓reduceIte, Nat.reduceEqDiff, rg, ow_28, f7, f11]
      refine do_bsl rfl (bs_n1 (valOf t k)) fun w3 n3 => ⟨trivial, ?_⟩
      simp only [↓List.toList_toArray, ↓rgd, ↓reduceIte, Nat.reduceEqDiff, rg, ow_28]
      have s3 := n3.size
      have hD3 := hD2.ext n3.ext
      have z3 : SlV w3 1 (.slice (some ⟨w2.heap.size, 0, none⟩) 1 1) 1 (En.cel (valOf t k)) := ⟨rfl, .inr ⟨_, 0, 1, rfl, Nat.le_refl _, n3.row, n3.wok.R (Nat.le_refl _)⟩⟩
      refine do_append (by simp only [evt, evc, upd_eq, Nat.reduceEqDiff, ↓reduceIte, ntT, ntF] <;> rfl) (by simp only [evt, evc, upd_eq, Nat.reduceEqDiff, ↓reduceIte, ntT, ntF] <;> rfl) el_n rfl ni_n hD3.n.sl z3 (by rw [List.length_map]; omega) (by decide) (En.one _) fun v4 w4 a4 => ⟨trivial, ?_⟩
      obtain ⟨hD4, X4⟩ := hD3.appN a4 (by omega)
      simp only [↓List.toList_toArray, ↓rgd, ↓reduceIte, Nat.reduceEqDiff, rg, ow_28, f8, f13]
      have s4 := X4.size
      refine do_bsl rfl (bs_t1 _) fun w5 n5 => ⟨trivial, ?_⟩
      simp only [↓List.toList_toArray, ↓rgd, ↓reduceIte, Nat.reduceEqDiff, rg, ow_28]
      have s5 := n5.size
      have hD5 := hD4.ext n5.ext
      have z5 : SlV w5 1 (.slice (some ⟨w4.heap.size, 0, none⟩) 1 1) 1 (Eb.cel (hit O κ k t)) := ⟨rfl, .inr ⟨_, 0, 1, rfl, Nat.le_refl _, n5.row, n5.wok.R (Nat.le_refl _)⟩⟩
      refine do_append (by simp only [evt, evc, upd_eq, Nat.reduceEqDiff, ↓reduceIte, ntT, ntF] <;> rfl) (by simp only [evt, evc, upd_eq, Nat.reduceEqDiff, ↓reduceIte, ntT, ntF] <;> rfl) el_t rfl ni_t hD5.b.sl z5 (by rw [List.length_map]; omega) (by decide) (Eb.one _) fun v6 w6 a6 => ⟨trivial, ?_⟩
      obtain ⟨hD6, X6⟩ := hD5.appB a6 (by omega)
      simp only [↓List.toList_toArray, ↓rgd, ↓reduceIte, Nat.reduceEqDiff, rg, ow_28]
      refine hK _ _ ?_; clear hK K0
      simp only [inBlk_normal, andThen_normal]
      have q1 := wadd1 i (by omega)
      refine W_rg fun K0 hK => (W_text [true, true] (by kernel_rfl) ?_); simp only [↓List.toList_toArray, ↓rgd, ↓reduceIte, Nat.reduceEqDiff, rg, ow_28, f18, q1]
      refine hK _ _ ?_; clear hK K0
      refine ⟨_, ?_, i + 1, rfl, hlt, ?_, ?_, ?_, ?_, ?_, (((X.tr ((X2.tr n3.ext).mono fun _ _ _ h => h.elim)).tr X4).tr (n5.ext.mono fun _ _ _ h => h.elim)).tr X6⟩
      · omega
      · simp only [upd_eq, Nat.reduceEqDiff, ↓reduceIte]; exact f16
      · simp only [upd_eq, Nat.reduceEqDiff, ↓reduceIte]; exact f17
      · simp only [upd_eq, Nat.reduceEqDiff, ↓reduceIte]
      · simp only [upd_eq, Nat.reduceEqDiff, ↓reduceIte]; exact f6
      · simp only [upd_eq, Nat.reduceEqDiff, ↓reduceIte]
        rw [take_snoc hx, List.map_append, List.map_append]
        exact hD6
    clear hK
    cases hh : hit O κ k t with
    | false =>
      have hv : valOf t k = 0 := by unfold valOf; rw [at_none hh]; rfl
      refine W_sq fun K0 hK => (W_text [true] (by kernel_rfl) ?_); simp only [↓List.toList_toArray, ↓rgd, ↓reduceIte, Nat.reduceEqDiff, rg, ow_28, hh]
      refine hK _ _ ?_; clear hK K0
      refine W_false (by simp only [evt, evc, upd_eq, Nat.reduceEqDiff, ↓reduceIte, ntT, ntF] <;> rfl) (W_skip ?_)
      simp only [andThen_normal]
      refine hrest _ ?_ ?_ ?_ ?_ ?_ ?_ ?_ ?_
      · simp only [upd_eq, Nat.reduceEqDiff, ↓reduceIte]; exact e16
      · simp only [upd_eq, Nat.reduceEqDiff, ↓reduceIte]; exact e17
      · simp only [upd_eq, Nat.reduceEqDiff, ↓reduceIte]; exact e18
      · simp only [upd_eq, Nat.reduceEqDiff, ↓reduceIte]; exact e6
      · simp only [upd_eq, Nat.reduceEqDiff, ↓reduceIte]
      · simp only [upd_eq, Nat.reduceEqDiff, ↓reduceIte]
      · simp only [upd_eq, Nat.reduceEqDiff, ↓reduceIte]; rw [hv]
      · simp only [upd_eq, Nat.reduceEqDiff, ↓reduceIte]; rw [hh]
    | true =>
      obtain ⟨y, hy, _⟩ := hit_at O κ hh
      have hil := (List.getElem?_eq_some_iff.1 hy).1
      have hv : valOf t k = y.2 := by unfold valOf at?; rw [hh, if_pos rfl, hy]; rfl
      obtain ⟨b2, o2, rfl, row2⟩ := h1.at htv hil
      have hT2 := hT.ext0 X2
      obtain ⟨b3, o3, g3, row3⟩ := SlV.at hT2 htv hil
      simp only [Option.some.injEq, Addr.mk.injEq, and_true] at g3
      obtain ⟨rfl, rfl⟩ := g3
      have hyv : rd w2 b2 (o2 + lb O κ k t * 2 + 1) = some (.int .i64 y.2) := iv_at row3 hy
      refine W_sq fun K0 hK => (W_text [true] (by kernel_rfl) ?_); simp only [↓List.toList_toArray, ↓rgd, ↓reduceIte, Nat.reduceEqDiff, rg, ow_28, hh]
      refine hK _ _ ?_; clear hK K0
      refine W_true (by simp only [evt, evc, upd_eq, Nat.reduceEqDiff, ↓reduceIte, ntT, ntF] <;> rfl) ?_
      rw [htv] at e6
      refine W_rg fun K0 hK => (W_text [true, true, true, true, true, true] (by kernel_rfl) ?_); simp only [↓List.toList_toArray, ↓rgd, ↓reduceIte, Nat.reduceEqDiff, rg, ow_28, e6, hil, hyv]
      refine hK _ _ ?_; clear hK K0
      simp only [andThen_normal]
      refine hrest _ ?_ ?_ ?_ ?_ ?_ ?_ ?_ ?_
      · simp only [upd_eq, Nat.reduceEqDiff, ↓reduceIte]; exact e16
      · simp only [upd_eq, Nat.reduceEqDiff, ↓reduceIte]; exact e17
      · simp only [upd_eq, Nat.reduceEqDiff, ↓reduceIte]; exact e18
      · simp only [upd_eq, Nat.reduceEqDiff, ↓reduceIte]; rw [htv]; exact e6
      · simp only [upd_eq, Nat.reduceEqDiff, ↓reduceIte]
      · simp only [upd_eq, Nat.reduceEqDiff, ↓reduceIte]
      · simp only [upd_eq, Nat.reduceEqDiff, ↓reduceIte]; rw [hv]
      · simp only [upd_eq, Nat.reduceEqDiff, ↓reduceIte]; rw [hh]
  · obtain rfl : i = ks.length := by omega
    have ht := lt_ff ks.length ks.length (by omega)
    refine W_sq fun K0 hK => (W_text [true] (by kernel_rfl) ?_); simp only [↓List.toList_toArray, ↓rgd, ↓reduceIte, Nat.reduceEqDiff, rg, ow_28, e17, e18, ht]
    refine hK _ _ ?_; clear hK K0
    refine W_seq (W_false (by simp only [evt, evc, upd_eq, Nat.reduceEqDiff, ↓reduceIte, ntT, ntF] <;> rfl) (W_exit ?_))
    simp only [andThen_exit, inBlk_exit, andThen_normal, ↓reduceIte]
    refine W_sq fun K0 hK => (W_text [true, true, true, true] (by kernel_rfl) ?_); simp only [↓List.toList_toArray, ↓rgd, ↓reduceIte, Nat.reduceEqDiff, rg, ow_28]
    refine hK _ _ ?_; clear hK K0
    rw [List.take_length] at hD
    exact W_ret (endQ_2 (by simp only [upd_eq, Nat.reduceEqDiff, ↓reduceIte] <;> rfl) (by simp only [upd_eq, Nat.reduceEqDiff, ↓reduceIte] <;> rfl) ⟨_, _, rfl, ⟨⟨hD.n.sl, fun b o n c h => by have := hD.n.si _ _ _ _ h; omega⟩, ⟨hD.b.sl, fun b o n c h => by have := hD.b.si _ _ _ _ h; omega⟩, hD.ap⟩, noF_of X1 X fun y o hy g => by omega⟩)
set_option maxHeartbeats 400000 in
set_option maxRecDepth 8000 in
theorem law_wget (d : Nat) (hd : 2 ≤ d) (hd' : d ≤ 128) (l : List It) (lv : Value) (ks : List ByteArray) (kv : Value) (w : World) (hl : SlI w lv l) (hk : SlV w 1 kv ks.length (flat Es ks)) (hbig : l.length ≤ 2147483647) (hkb : ks.length ≤ 2147483647) :
    CallK Try.prog 17 #[.int .i64 d, lv, kv] w fun v w' => v = .bool true ∧ Ext noF w w' := by
  refine calls_of_W [.tmp 6] Try.func17 rfl Try.ntmps17 Try.results17 (by simp) fun e he => ?_
  have e0 : e 0 = .int .i64 d := he 0 _ rfl
  have e1 : e 1 = lv := he 1 _ rfl
  have e2 : e 2 = kv := he 2 _ rfl
  clear he
  refine W_sq fun K0 hK => (W_text [true] (by kernel_rfl) ?_); simp only [↓List.toList_toArray, ↓rgd, ↓reduceIte, Nat.reduceEqDiff, rg, ow_17]
  refine hK _ _ ?_; clear hK K0
  refine W_sq fun K0 hK => (W_text [true, true, true, false, true, true, true, true, true] (by kernel_rfl) ?_); simp only [↓List.toList_toArray, ↓rgd, ↓reduceIte, Nat.reduceEqDiff, rg, ow_17, e0, e1, e2]
  refine do_call fn_27 (by simp only [evt, evc, upd_eq, Nat.reduceEqDiff, ↓reduceIte, maT, maC, maN, isnN, isnS] <;> rfl) (impl_wget d hd hd' l lv ks kv w hl hk hbig hkb) ?_
  rintro _ w1 ⟨n1, b1, rfl, h1, X1⟩
  refine ⟨trivial, ?_⟩
  simp only [↓List.toList_toArray, ↓rgd, ↓reduceIte, Nat.reduceEqDiff, rg, ow_17]
  refine hK _ _ ?_; clear hK K0
  refine W_sq fun K0 hK => (W_text [true, true, false, true, true, true, true, true] (by kernel_rfl) ?_); simp only [↓List.toList_toArray, ↓rgd, ↓reduceIte, Nat.reduceEqDiff, rg, ow_17, e1, e2]
  refine do_call fn_28 (by simp only [evt, evc, upd_eq, Nat.reduceEqDiff, ↓reduceIte, maT, maC, maN, isnN, isnS] <;> rfl) (spec_wget l lv ks kv w1 (hl.ext0 X1) (hk.ext0 X1) hbig hkb) ?_
  rintro _ w2 ⟨n2, b2, rfl, h2, X2⟩
  refine ⟨trivial, ?_⟩
  simp only [↓List.toList_toArray, ↓rgd, ↓reduceIte, Nat.reduceEqDiff, rg, ow_17]
  refine hK _ _ ?_; clear hK K0
  have h1 := h1.ext X2
  refine W_sq fun K0 hK => (W_text [true, true, false, true, true, true, false, true, true] (by kernel_rfl) ?_); simp only [↓List.toList_toArray, ↓rgd, ↓reduceIte, Nat.reduceEqDiff, rg, ow_17]
  refine do_call fn_29 (by simp only [evt, evc, upd_eq, Nat.reduceEqDiff, ↓reduceIte, maT, maC, maN, isnN, isnS] <;> rfl) (eq_n _ n1 n2 w2 h1.n.sl h2.n.sl (by rw [List.length_map]; omega)) ?_
  rintro _ w3 ⟨rfl, r3⟩
  refine ⟨trivial, ?_⟩
  simp only [↓List.toList_toArray, ↓rgd, ↓reduceIte, Nat.reduceEqDiff, rg, ow_17]
  refine do_call fn_30 (by simp only [evt, evc, upd_eq, Nat.reduceEqDiff, ↓reduceIte, maT, maC, maN, isnN, isnS] <;> rfl) (eq_t _ b1 b2 w3 (h1.b.sl.ext0 r3.ext) (h2.b.sl.ext0 r3.ext) (by rw [List.length_map]; omega)) ?_
  rintro _ w4 ⟨rfl, r4⟩
  refine ⟨trivial, ?_⟩
  simp only [↓List.toList_toArray, ↓rgd, ↓reduceIte, Nat.reduceEqDiff, rg, ow_17]
  refine hK _ _ ?_; clear hK K0
  exact W_ret (endQ_1 (by simp only [upd_eq, Nat.reduceEqDiff, ↓reduceIte] <;> rfl) ⟨rfl, ((X1.tr X2).tr r3.ext).tr r4.ext⟩)
end Go.Proofs.Ytinpigpeoakeaaa
