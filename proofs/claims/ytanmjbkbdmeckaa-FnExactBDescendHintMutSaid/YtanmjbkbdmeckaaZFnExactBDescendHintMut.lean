/-
  FnExactBDescendHintMut: the whole statement: it returns true whatever the input is, and the arguments read as before. No condition.
-/
import Derived.Test.YtanmjbkbdmeckaaZad0c5824
import Derived.Test.YtanmjbkbdmeckaaZ980db7cf
/-
  The reference: lists from a key, down to a key, turned, cut off. No condition.
-/
set_option linter.unusedSimpArgs false
set_option linter.unusedVariables false
namespace Go.Proofs.Ytanmjbkbdmeckaa
open Go Go.Proofs
theorem treeG_asc (ord : List Int) (l : List It) : Asc O (rkI ord) (treeG ord l) := by
  have : ∀ (l : List It) (xs : List It), Asc O (rkI ord) xs → Asc O (rkI ord) (l.foldl (fun xs x => put O (rkI ord) x xs) xs) := by
    intro l
    induction l with
    | nil => intro xs h; exact h
    | cons x l ih => intro xs h; exact ih _ (put_asc O (rkI ord) h)
  exact this l [] List.Pairwise.nil
theorem iXi_at {w : World} {b o : Nat} {x : It} (h : Row w b o (Ei.cel x)) : rdA w b o 2 = some (iV x) := h.rdA 2 (Nat.le_refl _)

set_option maxHeartbeats 400000 in
set_option maxRecDepth 8000 in
theorem first_any (l : List It) (lv : Value) (n : Int) (w : World) (hl : SlI w lv l) :
    CallK Try.prog 35 #[lv, .int .i64 n] w fun v w' => SlI w' v (firstN n l) ∧ w' = w := by
  obtain ⟨a, c, hlv⟩ := hl.shape
  refine calls_of_W [.tmp 4] Try.func35 rfl Try.ntmps35 Try.results35 (by simp) fun e he => ?_
  have e0 : e 0 = .slice a l.length c := by rw [← hlv]; exact he 0 _ rfl
  have e1 : e 1 = .int .i64 n := he 1 _ rfl
  clear he
  refine W_sq fun K hK => (W_text [true] (by kernel_rfl) ?_); simp only [↓List.toList_toArray, ↓rgd, ↓rgf, ↓reduceIte, Nat.reduceEqDiff, rg, ow_35]
  refine hK _ _ ?_; clear hK K
  refine W_seq ?_
  by_cases h1 : n < 1
  · have t1 : decide (n < 1) = true := by simp [h1]
    refine W_sq fun K hK => (W_text [true, true, true, true, true, true, true, true] (by kernel_rfl) ?_); simp only [↓List.toList_toArray, ↓rgd, ↓rgf, ↓reduceIte, Nat.reduceEqDiff, rg, ow_35, e0, e1, t1]
    refine hK _ _ ?_; clear hK K
    refine W_true (by simp only [evt, evc, upd_eq, Nat.reduceEqDiff, ↓reduceIte, ntT, ntF] <;> rfl) ?_
    refine W_sq fun K hK => (W_text [true, true] (by kernel_rfl) ?_); simp only [↓List.toList_toArray, ↓rgd, ↓rgf, ↓reduceIte, Nat.reduceEqDiff, rg, ow_35, e0]
    refine hK _ _ ?_; clear hK K
    refine W_ret ?_
    simp only [andThen_ret]
    refine endQ_1 (by simp only [upd_eq, Nat.reduceEqDiff, ↓reduceIte] <;> rfl) ⟨?_, rfl⟩
    rw [firstN, if_pos (.inl h1), ← hlv]; exact hl
  · have t1 : decide (n < 1) = false := by simp; omega
    by_cases h2 : (l.length : Int) < n
    · have t2 : decide ((l.length : Int) < n) = true := by simp [h2]
      refine W_sq fun K hK => (W_text [true, true, true, true, true, true, true, true] (by kernel_rfl) ?_); simp only [↓List.toList_toArray, ↓rgd, ↓rgf, ↓reduceIte, Nat.reduceEqDiff, rg, ow_35, e0, e1, t1, t2]
      refine hK _ _ ?_; clear hK K
      refine W_true (by simp only [evt, evc, upd_eq, Nat.reduceEqDiff, ↓reduceIte, ntT, ntF] <;> rfl) ?_
      refine W_sq fun K hK => (W_text [true, true] (by kernel_rfl) ?_); simp only [↓List.toList_toArray, ↓rgd, ↓rgf, ↓reduceIte, Nat.reduceEqDiff, rg, ow_35, e0]
      refine hK _ _ ?_; clear hK K
      refine W_ret ?_
      simp only [andThen_ret]
      refine endQ_1 (by simp only [upd_eq, Nat.reduceEqDiff, ↓reduceIte] <;> rfl) ⟨?_, rfl⟩
      rw [firstN, if_pos (.inr h2), ← hlv]; exact hl
    · have t2 : decide ((l.length : Int) < n) = false := by simp; omega
      refine W_sq fun K hK => (W_text [true, true, true, true, true, true, true, true] (by kernel_rfl) ?_); simp only [↓List.toList_toArray, ↓rgd, ↓rgf, ↓reduceIte, Nat.reduceEqDiff, rg, ow_35, e0, e1, t1, t2]
      refine hK _ _ ?_; clear hK K
      refine W_false (by simp only [evt, evc, upd_eq, Nat.reduceEqDiff, ↓reduceIte, ntT, ntF] <;> rfl) (W_skip ?_)
      show W _ _ _ _ _ _
      obtain ⟨k, rfl⟩ : ∃ k : Nat, n = k := ⟨n.toNat, by omega⟩
      obtain ⟨sv, hs, hsl⟩ := sl_hi hl k (by omega)
      rw [hlv] at hs
      refine W_sq fun K hK => (W_text [true, true, true, true] (by kernel_rfl) ?_); simp only [↓List.toList_toArray, ↓rgd, ↓rgf, ↓reduceIte, Nat.reduceEqDiff, rg, ow_35, e0, e1, hs]
      refine hK _ _ ?_; clear hK K
      refine W_ret (endQ_1 (by simp only [upd_eq, Nat.reduceEqDiff, ↓reduceIte] <;> rfl) ⟨?_, rfl⟩)
      rw [firstN, if_neg (by omega), SlI, List.length_take]
      have : min (k : Int).toNat l.length = k := by omega
      rw [this]
      simpa using hsl
set_option maxHeartbeats 400000 in
set_option maxRecDepth 8000 in
theorem sgscan (d : Nat) (ord : List Int) (sv : Value) (nl : Bool) (l : List It) (lv : Value) (n : Int) (w : World) (hs : SlInt w sv ord) (hsb : ord.length ≤ 2147483647) (hl : SlI w lv l) (hbig : l.length ≤ 2147483647) :
    CallK Try.prog 51 #[mkV sv d nl, lv, .int .i64 n] w fun v w' => SlI w' v (firstN n (treeG ord l)) ∧ Ext noF w w' := by
  refine calls_of_W [.tmp 6] Try.func51 rfl Try.ntmps51 Try.results51 (by simp) fun e he => ?_
  have e0 : e 0 = mkV sv d nl := he 0 _ rfl
  have e1 : e 1 = lv := he 1 _ rfl
  have e2 : e 2 = .int .i64 n := he 2 _ rfl
  clear he
  refine W_sq fun K hK => (W_text [false, true] (by kernel_rfl) ?_); simp only [↓List.toList_toArray, ↓rgd, ↓rgf, ↓reduceIte, Nat.reduceEqDiff, rg, ow_51]
  refine do_box (by simp only [evt]; exact e0) fun w1 n1 => ⟨trivial, ?_⟩
  simp only [↓List.toList_toArray, ↓rgd, ↓rgf, ↓reduceIte, Nat.reduceEqDiff, rg, ow_51]
  refine hK _ _ ?_; clear hK K
  have r1 := mk_at0 (show Row w1 w.heap.size 0 (mkL sv d nl) from n1.row)
  refine W_sq fun K hK => (W_text [true, true, true, false, true, false, true] (by kernel_rfl) ?_); simp only [↓List.toList_toArray, ↓rgd, ↓rgf, ↓reduceIte, Nat.reduceEqDiff, rg, ow_51, e1, e2, r1]
  refine do_call fn_60 (by simp only [evt, evc, upd_eq, Nat.reduceEqDiff, ↓reduceIte, maT, maC, maN, isnN, isnS] <;> rfl) (stree_ord sv ord l lv w1 (SlV.ext0 hs n1.ext) hsb (SlV.ext0 hl n1.ext) hbig) ?_
  rintro v2 w2 ⟨hS2, X2⟩
  refine ⟨trivial, ?_⟩
  simp only [↓List.toList_toArray, ↓rgd, ↓rgf, ↓reduceIte, Nat.reduceEqDiff, rg, ow_51, e2]
  refine do_call fn_35 (by simp only [evt, evc, upd_eq, Nat.reduceEqDiff, ↓reduceIte, maT, maC, maN, isnN, isnS] <;> rfl) (first_any (treeG ord l) v2 n w2 hS2) ?_
  rintro v3 w3 ⟨hS3, hw3⟩
  obtain rfl : w2 = w3 := hw3.symm
  refine ⟨trivial, ?_⟩
  simp only [↓List.toList_toArray, ↓rgd, ↓rgf, ↓reduceIte, Nat.reduceEqDiff, rg, ow_51]
  refine hK _ _ ?_; clear hK K
  exact W_ret (endQ_1 (by simp only [upd_eq, Nat.reduceEqDiff, ↓reduceIte] <;> rfl) ⟨hS3, n1.ext.tr X2⟩)
set_option maxHeartbeats 800000 in
set_option maxRecDepth 8000 in
theorem sturned_any (l : List It) (lv : Value) (w : World) (hl : SlI w lv l) (hbig : l.length ≤ 2147483647) :
    CallK Try.prog 80 #[lv] w fun v w' => SlI w' v l.reverse ∧ Ext noF w w' := by
  refine calls_of_W [.tmp 2] Try.func80 rfl Try.ntmps80 Try.results80 (by simp) fun e he => ?_
  have e0 : e 0 = lv := he 0 _ rfl
  clear he
  obtain ⟨ka, kc, hkv⟩ := SlV.shape hl
  rw [hkv] at e0
  refine W_sq fun K hK => (W_text [true] (by kernel_rfl) ?_); simp only [↓List.toList_toArray, ↓rgd, ↓rgf, ↓reduceIte, Nat.reduceEqDiff, rg, ow_80]
  refine hK _ _ ?_; clear hK K
  refine W_sq fun K hK => (W_text [true] (by kernel_rfl) ?_); simp only [↓List.toList_toArray, ↓rgd, ↓rgf, ↓reduceIte, Nat.reduceEqDiff, rg, ow_80]
  refine hK _ _ ?_; clear hK K
  have q0 := pred_wrap l.length (by omega)
  refine W_seq (W_seq ?_)
  refine W_rg fun K hK => (W_text [true, true, true, true] (by kernel_rfl) ?_); simp only [↓List.toList_toArray, ↓rgd, ↓rgf, ↓reduceIte, Nat.reduceEqDiff, rg, ow_80, e0, q0]
  refine hK _ _ ?_; clear hK K
  show W _ _ _ _ _ _
  refine W_block (W_loop (fun mm e w' => mm ≤ l.length ∧ OutE Ei w.heap.size (e 3) (l.drop mm).reverse w' ∧ Ext (fun y _ => w.heap.size ≤ y) w w' ∧ e 0 = .slice ka l.length kc ∧ e 4 = .int .i64 ((mm : Int) - 1))
    l.length ⟨Nat.le_refl _, by simp only [upd_eq, Nat.reduceEqDiff, ↓reduceIte]; rw [List.drop_length]; exact OutE.nil _ _ _, Ext.refl _ _, by simp only [upd_eq, Nat.reduceEqDiff, ↓reduceIte]; exact e0, by simp only [upd_eq, Nat.reduceEqDiff, ↓reduceIte]⟩ ?_)
  clear e0 e
  rintro mm e w' ⟨hi, hO, X, e0, e4⟩
  have sX := X.size
  refine W_seq ?_
  by_cases hlt : 0 < mm
  · have ht := ge_tt mm hlt
    refine W_sq fun K hK => (W_text [true, true] (by kernel_rfl) ?_); simp only [↓List.toList_toArray, ↓rgd, ↓rgf, ↓reduceIte, Nat.reduceEqDiff, rg, ow_80, e4, ht]
    refine hK _ _ ?_; clear hK K
    refine W_true (by simp only [evt, evc, upd_eq, Nat.reduceEqDiff, ↓reduceIte, ntT, ntF] <;> rfl) (W_skip ?_)
    show W _ _ _ _ _ _
    refine W_seq (W_block ?_)
    have hil : mm - 1 < l.length := by omega
    obtain ⟨x, hx⟩ : ∃ x, l[mm - 1]? = some x := ⟨_, List.getElem?_eq_getElem hil⟩
    obtain ⟨ib, io, hka, row⟩ := SlV.at hl hkv hil
    have hibl := SlV.lt hl (hkv.trans (by rw [hka]))
    have hk := iV_at (X.row row fun _ _ h => by omega) hx
    rw [int_pred mm hlt] at e4
    rw [hka] at e0
    refine W_rg fun K hK => (W_text [true, true, true, true, true, false, false, true] (by kernel_rfl) ?_); simp only [↓List.toList_toArray, ↓rgd, ↓rgf, ↓reduceIte, Nat.reduceEqDiff, rg, ow_80, e0, e4, hil, hk]
    refine do_bsl rfl (bs_i1 x) fun w3 n3 => ⟨trivial, ?_⟩
    simp only [↓List.toList_toArray, ↓rgd, ↓rgf, ↓reduceIte, Nat.reduceEqDiff, rg, ow_80]
    have H3 := hO.ext n3.ext
    have s3 := n3.size
    have z3 : SlV w3 2 (.slice (some ⟨w'.heap.size, 0, none⟩) 1 1) 1 (Ei.cel x) := ⟨rfl, .inr ⟨_, 0, 1, rfl, Nat.le_refl _, n3.row, n3.wok.R (Nat.le_refl _)⟩⟩
    refine do_append (by simp only [evt, evc, upd_eq, Nat.reduceEqDiff, ↓reduceIte, ntT, ntF] <;> rfl) (by simp only [evt, evc, upd_eq, Nat.reduceEqDiff, ↓reduceIte, ntT, ntF] <;> rfl) el_i rfl ni_i H3.sl z3 (by simp; omega) (by decide) (Ei.one _) fun v4 w4 a4 => ⟨trivial, ?_⟩
    obtain ⟨H4, X4⟩ := H3.app a4 (by omega)
    simp only [↓List.toList_toArray, ↓rgd, ↓rgf, ↓reduceIte, Nat.reduceEqDiff, rg, ow_80]
    refine hK _ _ ?_; clear hK K
    show W _ _ _ _ _ _
    have q1 := pred_wrap (mm - 1) (by omega)
    refine W_rg fun K hK => (W_text [true, true, true] (by kernel_rfl) ?_); simp only [↓List.toList_toArray, ↓rgd, ↓rgf, ↓reduceIte, Nat.reduceEqDiff, rg, ow_80, e4, q1]
    refine hK _ _ ?_; clear hK K
    have hd : (l.drop (mm - 1)).reverse = (l.drop mm).reverse ++ [x] := by
      rw [List.drop_eq_getElem_cons hil, List.reverse_cons, show mm - 1 + 1 = mm by omega]
      congr 2
      exact (List.getElem?_eq_some_iff.1 hx).2
    refine ⟨mm - 1, by omega, by omega, by simp only [upd_eq, Nat.reduceEqDiff, ↓reduceIte]; rw [hd]; exact H4, (X.tr (n3.ext.mono fun _ _ _ h => h.elim)).tr X4, by simp only [upd_eq, Nat.reduceEqDiff, ↓reduceIte]; rw [hka]; exact e0, by simp only [upd_eq, Nat.reduceEqDiff, ↓reduceIte]⟩
  · obtain rfl : mm = 0 := by omega
    refine W_sq fun K hK => (W_text [true, true] (by kernel_rfl) ?_); simp only [↓List.toList_toArray, ↓rgd, ↓rgf, ↓reduceIte, Nat.reduceEqDiff, rg, ow_80, e4, ge_ff]
    refine hK _ _ ?_; clear hK K
    refine W_false (by simp only [evt, evc, upd_eq, Nat.reduceEqDiff, ↓reduceIte, ntT, ntF] <;> rfl) (W_exit ?_)
    simp only [andThen_exit, inBlk_exit, andThen_normal, ↓reduceIte]
    refine W_sq fun K hK => (W_text [true, true] (by kernel_rfl) ?_); simp only [↓List.toList_toArray, ↓rgd, ↓rgf, ↓reduceIte, Nat.reduceEqDiff, rg, ow_80]
    refine hK _ _ ?_; clear hK K
    exact W_ret (endQ_1 (by simp only [upd_eq, Nat.reduceEqDiff, ↓reduceIte] <;> rfl) ⟨hO.sl, noF_of (Ext.refl _ _) X fun y o hy h => by omega⟩)
set_option maxHeartbeats 800000 in
set_option maxRecDepth 8000 in
theorem sdown_any (os : Value) (ord : List Int) (l : List It) (lv : Value) (x : It) (w : World) (hO : SlInt w os ord) (hOb : ord.length ≤ 2147483647) (hl : SlI w lv l) (hbig : l.length ≤ 2147483647) (ha : Asc O (rkI ord) l) :
    CallK Try.prog 81 #[os, lv, iV x] w fun v w' => SlI w' v (l.take (ub O (rkI ord) (rkI ord x) l)).reverse ∧ Ext noF w w' := by
  obtain ⟨a, c, hlv⟩ : ∃ a c, lv = .slice a l.length c := by
    rcases hl.2 with ⟨rfl, h⟩ | ⟨b, o, cap, rfl, _⟩
    · exact ⟨none, 0, by rw [h]⟩
    · exact ⟨_, _, rfl⟩
  have hsome : ∀ i, i < l.length → ∃ b o cap, lv = .slice (some ⟨b, o, none⟩) l.length cap ∧ Row w b o (flat Ei l) ∧ b < w.heap.size := fun i hi => by
    rcases hl.2 with ⟨_, h⟩ | ⟨b, o, cap, h1, _, h2, h3⟩
    · omega
    · exact ⟨b, o, cap, h1, h2, wokR_lt h3⟩
  have hub := ub_le O (rkI ord) (rkI ord x) l
  refine calls_of_W [.tmp 6] Try.func81 rfl Try.ntmps81 Try.results81 (by simp) fun e he => ?_
  have e0 : e 0 = os := he 0 _ rfl
  have e1 : e 1 = lv := he 1 _ rfl
  have e2 : e 2 = iV x := he 2 _ rfl
  clear he
  refine W_sq fun K hK => (W_text [false, true] (by kernel_rfl) ?_); simp only [↓List.toList_toArray, ↓rgd, ↓rgf, ↓reduceIte, Nat.reduceEqDiff, rg, ow_81]
  refine do_box (by simp only [evt]; exact e2) fun w1 n1 => ⟨trivial, ?_⟩
  simp only [↓List.toList_toArray, ↓rgd, ↓rgf, ↓reduceIte, Nat.reduceEqDiff, rg, ow_81]
  refine hK _ _ ?_; clear hK K
  refine W_sq fun K hK => (W_text [true] (by kernel_rfl) ?_); simp only [↓List.toList_toArray, ↓rgd, ↓rgf, ↓reduceIte, Nat.reduceEqDiff, rg, ow_81]
  refine hK _ _ ?_; clear hK K
  have s1 := n1.size
  refine W_seq ((W_block (Q := fun ex e w' => ex = .normal ∧ e 1 = lv ∧ e 7 = .int .i64 (ub O (rkI ord) (rkI ord x) l : Nat) ∧ Ext noF w1 w') (W_loop (fun mm e w' => ∃ i : Nat, mm = l.length - i ∧ i ≤ l.length ∧ (∀ j y, j < i → l[j]? = some y → O.lt (rkI ord x) (rkI ord y) = false) ∧ e 0 = os ∧ e 1 = lv ∧ e 5 = .pointer (some ⟨w.heap.size, 0, none⟩) ∧ e 7 = .int .i64 i ∧ Ext noF w1 w')
    l.length ⟨0, by simp, by simp, fun j y h => by omega, ?_, ?_, ?_, ?_, Ext.refl _ _⟩ ?_)).mono ?_)
  · simp only [upd_eq, Nat.reduceEqDiff, ↓reduceIte]; exact e0
  · simp only [upd_eq, Nat.reduceEqDiff, ↓reduceIte]; exact e1
  · simp only [upd_eq, Nat.reduceEqDiff, ↓reduceIte]
  · simp only [upd_eq, Nat.reduceEqDiff, ↓reduceIte]; rfl
  · clear e0 e1 e2 e
    rintro mm e w' ⟨i, rfl, hi, hlow, e0, e1, e5, e7, X⟩
    have sX := X.size
    refine W_seq ?_
    by_cases hlt : i < l.length
    · have ht := lt_tt i l.length hlt
      obtain ⟨y, hy⟩ : ∃ y, l[i]? = some y := ⟨_, List.getElem?_eq_getElem hlt⟩
      obtain ⟨b, o, cap, hlv2, row, hb⟩ := hsome i hlt
      rw [hlv2] at e1
      have ix := iV_at (X.row (n1.ext.row row fun _ _ h => h) fun _ _ h => h) hy
      have bx : rdA w' w.heap.size 0 2 = some (iV x) := (X.row n1.row fun _ _ h => h).rdA 2 (by show 2 ≤ 2; omega)
      have M1 : readsB (some (some [b, w.heap.size])) b = true := by simp [readsB]
      have M2 : readsB (some (some [b, w.heap.size])) w.heap.size = true := by simp [readsB]
      refine W_sq fun K hK => (W_draw (some (some [b, w.heap.size])) none [(0, 0, 0), (0, 1, 0), (0, 2, 0), (0, 3, 0), (0, 4, 0), (0, 5, 0), (0, 6, 0), (0, 7, 0), (0, 8, 0), (0, 9, 0), (0, 10, 0), (1, 11, 0), (0, 12, 0), (0, 13, 0)] mixed (by kernel_rfl) ?_); simp only [↓List.toList_toArray, ↓rgd, ↓rgf, ↓reduceIte, Nat.reduceEqDiff, rg, ow_81, e0, e1, e5, e7, ht, hlt, ix, bx, M1, M2]
      refine do_call fn_52 (by simp only [evt, evc, upd_eq, Nat.reduceEqDiff, ↓reduceIte, maT, maC, maN, isnN, isnS] <;> rfl) (before_ord os ord x y _ (SlV.ext0 hO ((n1.ext.tr X).tr (Ext.dr noF _ _))) hOb) ?_
      rintro _ w2 ⟨rfl, x2⟩
      refine ⟨.inr (keeps_on x2 fun z hz => ⟨?_, fun _ h => h⟩), ?_⟩
      · rw [sz_dr]
        simp only [List.mem_cons, List.not_mem_nil, or_false] at hz
        omega
      simp only [↓List.toList_toArray, ↓rgd, ↓rgf, ↓reduceIte, Nat.reduceEqDiff, rg, ow_81]
      refine hK _ _ ?_; clear hK K
      have x2 := x2.od
      cases hq : O.lt (rkI ord x) (rkI ord y) with
      | false =>
        refine W_true (by simp only [evt, evc, upd_eq, Nat.reduceEqDiff, ↓reduceIte, ntT, ntF] <;> rfl) (W_skip ?_)
        show W _ _ _ _ _ _
        have q1 := wadd1 i (by omega)
        refine W_block ?_
        refine W_rg fun K hK => (W_text [true, true, true] (by kernel_rfl) ?_); simp only [↓List.toList_toArray, ↓rgd, ↓rgf, ↓reduceIte, Nat.reduceEqDiff, rg, ow_81, e7, q1]
        refine hK _ _ ?_; clear hK K
        refine ⟨_, ?_, i + 1, rfl, hlt, fun j z hj hz => ?_, ?_, ?_, ?_, ?_, X.tr x2⟩
        · omega
        · rcases Nat.lt_or_ge j i with g | g
          · exact hlow j z g hz
          · obtain rfl : j = i := by omega
            rw [hy] at hz; cases hz; exact hq
        · simp only [upd_eq, Nat.reduceEqDiff, ↓reduceIte]; exact e0
        · simp only [upd_eq, Nat.reduceEqDiff, ↓reduceIte]; rw [e1, hlv2]
        · simp only [upd_eq, Nat.reduceEqDiff, ↓reduceIte]; exact e5
        · simp only [upd_eq, Nat.reduceEqDiff, ↓reduceIte]
      | true =>
        have hu := ub_at O (rkI ord) ha hi hlow (fun z hz => by rw [hy] at hz; cases hz; exact hq)
        refine W_false (by simp only [evt, evc, upd_eq, Nat.reduceEqDiff, ↓reduceIte, ntT, ntF] <;> rfl) (W_exit ?_)
        simp only [andThen_exit, inBlk_exit, ↓reduceIte]
        refine ⟨trivial, ?_, ?_, X.tr x2⟩
        · simp only [upd_eq, Nat.reduceEqDiff, ↓reduceIte]; rw [e1, hlv2]
        · simp only [upd_eq, Nat.reduceEqDiff, ↓reduceIte]; rw [e7, hu]
    · obtain rfl : i = l.length := by omega
      have ht := lt_ff l.length l.length (by omega)
      have hu := ub_at O (rkI ord) ha (Nat.le_refl _) hlow (fun z hz => by have := (List.getElem?_eq_some_iff.1 hz).1; omega)
      rw [hlv] at e1
      refine W_sq fun K hK => (W_draw (some (some [])) none [(0, 0, 0), (0, 1, 0), (0, 2, 0), (0, 3, 0), (0, 4, 0), (0, 5, 0), (0, 6, 0), (0, 7, 0), (0, 8, 0), (0, 9, 0), (0, 10, 0), (1, 11, 0), (0, 12, 0), (0, 13, 0)] mixed (by kernel_rfl) ?_); simp only [↓List.toList_toArray, ↓rgd, ↓rgf, ↓reduceIte, Nat.reduceEqDiff, rg, ow_81, e0, e1, e5, e7, ht]
      refine hK _ _ ?_; clear hK K
      refine W_false (by simp only [evt, evc, upd_eq, Nat.reduceEqDiff, ↓reduceIte, ntT, ntF] <;> rfl) (W_exit ?_)
      simp only [andThen_exit, inBlk_exit, ↓reduceIte]
      refine ⟨trivial, ?_, ?_, X.tr (Ext.dr _ _ _)⟩
      · simp only [upd_eq, Nat.reduceEqDiff, ↓reduceIte]; rw [e1, hlv]
      · simp only [upd_eq, Nat.reduceEqDiff, ↓reduceIte]; rw [e7, hu]
  · clear e0 e1 e2 e
    rintro ex e w' ⟨rfl, e1, e7, X⟩
    show W _ _ _ _ _ _
    have X1 := n1.ext.tr X
    obtain ⟨sv, hs, hsl⟩ := sl_hi (SlV.ext0 hl X1) (ub O (rkI ord) (rkI ord x) l) hub
    have hS : SlI w' sv (l.take (ub O (rkI ord) (rkI ord x) l)) := by
      rw [SlI, List.length_take, Nat.min_eq_left hub]; exact hsl
    refine W_sq fun K hK => (W_text [true, true, true, false, true] (by kernel_rfl) ?_); simp only [↓List.toList_toArray, ↓rgd, ↓rgf, ↓reduceIte, Nat.reduceEqDiff, rg, ow_81, e1, e7, hs]
    refine do_call fn_80 (by simp only [evt, evc, upd_eq, Nat.reduceEqDiff, ↓reduceIte, maT, maC, maN, isnN, isnS] <;> rfl) (sturned_any _ sv w' hS (by rw [List.length_take]; omega)) ?_
    rintro v2 w2 ⟨hS2, X2⟩
    refine ⟨trivial, ?_⟩
    simp only [↓List.toList_toArray, ↓rgd, ↓rgf, ↓reduceIte, Nat.reduceEqDiff, rg, ow_81]
    refine hK _ _ ?_; clear hK K
    exact W_ret (endQ_1 (by simp only [upd_eq, Nat.reduceEqDiff, ↓reduceIte] <;> rfl) ⟨hS2, X1.tr X2⟩)
set_option maxHeartbeats 800000 in
set_option maxRecDepth 8000 in
theorem sgreverse (d : Nat) (ord : List Int) (sv : Value) (nl : Bool) (l : List It) (lv : Value) (n : Int) (w : World) (hs : SlInt w sv ord) (hsb : ord.length ≤ 2147483647) (hl : SlI w lv l) (hbig : l.length ≤ 2147483647) :
    CallK Try.prog 47 #[mkV sv d nl, lv, .int .i64 n] w fun v w' => SlI w' v (firstN n (treeG ord l).reverse) ∧ Ext noF w w' := by
  have htl := treeG_len ord l
  refine calls_of_W [.tmp 6] Try.func47 rfl Try.ntmps47 Try.results47 (by simp) fun e he => ?_
  have e0 : e 0 = mkV sv d nl := he 0 _ rfl
  have e1 : e 1 = lv := he 1 _ rfl
  have e2 : e 2 = .int .i64 n := he 2 _ rfl
  clear he
  refine W_sq fun K hK => (W_text [false, true] (by kernel_rfl) ?_); simp only [↓List.toList_toArray, ↓rgd, ↓rgf, ↓reduceIte, Nat.reduceEqDiff, rg, ow_47]
  refine do_box (by simp only [evt]; exact e0) fun w1 n1 => ⟨trivial, ?_⟩
  simp only [↓List.toList_toArray, ↓rgd, ↓rgf, ↓reduceIte, Nat.reduceEqDiff, rg, ow_47]
  refine hK _ _ ?_; clear hK K
  have r1 := mk_at0 (show Row w1 w.heap.size 0 (mkL sv d nl) from n1.row)
  refine W_sq fun K hK => (W_text [true, true, true, false, false, true, false, true] (by kernel_rfl) ?_); simp only [↓List.toList_toArray, ↓rgd, ↓rgf, ↓reduceIte, Nat.reduceEqDiff, rg, ow_47, e1, e2, r1]
  refine do_call fn_60 (by simp only [evt, evc, upd_eq, Nat.reduceEqDiff, ↓reduceIte, maT, maC, maN, isnN, isnS] <;> rfl) (stree_ord sv ord l lv w1 (SlV.ext0 hs n1.ext) hsb (SlV.ext0 hl n1.ext) hbig) ?_
  rintro v2 w2 ⟨hS2, X2⟩
  refine ⟨trivial, ?_⟩
  simp only [↓List.toList_toArray, ↓rgd, ↓rgf, ↓reduceIte, Nat.reduceEqDiff, rg, ow_47]
  refine do_call fn_80 (by simp only [evt, evc, upd_eq, Nat.reduceEqDiff, ↓reduceIte, maT, maC, maN, isnN, isnS] <;> rfl) (sturned_any (treeG ord l) v2 w2 hS2 (by omega)) ?_
  rintro v3 w3 ⟨hS3, X3⟩
  refine ⟨trivial, ?_⟩
  simp only [↓List.toList_toArray, ↓rgd, ↓rgf, ↓reduceIte, Nat.reduceEqDiff, rg, ow_47, e2]
  refine do_call fn_35 (by simp only [evt, evc, upd_eq, Nat.reduceEqDiff, ↓reduceIte, maT, maC, maN, isnN, isnS] <;> rfl) (first_any _ v3 n w3 hS3) ?_
  rintro v4 w4 ⟨hS4, hw4⟩
  obtain rfl : w3 = w4 := hw4.symm
  refine ⟨trivial, ?_⟩
  simp only [↓List.toList_toArray, ↓rgd, ↓rgf, ↓reduceIte, Nat.reduceEqDiff, rg, ow_47]
  refine hK _ _ ?_; clear hK K
  exact W_ret (endQ_1 (by simp only [upd_eq, Nat.reduceEqDiff, ↓reduceIte] <;> rfl) ⟨hS4, (n1.ext.tr X2).tr X3⟩)
set_option maxHeartbeats 400000 in
set_option maxRecDepth 8000 in
theorem sgdescend (d : Nat) (ord : List Int) (sv : Value) (nl : Bool) (l : List It) (lv : Value) (q : It) (n : Int) (w : World) (hs : SlInt w sv ord) (hsb : ord.length ≤ 2147483647) (hl : SlI w lv l) (hbig : l.length ≤ 2147483647) :
    CallK Try.prog 48 #[mkV sv d nl, lv, iV q, .int .i64 n] w fun v w' => SlI w' v (firstN n (((treeG ord l).take (ub O (rkI ord) (rkI ord q) (treeG ord l))).reverse)) ∧ Ext noF w w' := by
  refine calls_of_W [.tmp 8] Try.func48 rfl Try.ntmps48 Try.results48 (by simp) fun e he => ?_
  have e0 : e 0 = mkV sv d nl := he 0 _ rfl
  have e1 : e 1 = lv := he 1 _ rfl
  have e2 : e 2 = iV q := he 2 _ rfl
  have e3 : e 3 = .int .i64 n := he 3 _ rfl
  clear he
  have htl := treeG_len ord l
  refine W_sq fun K hK => (W_text [false, false, true] (by kernel_rfl) ?_); simp only [↓List.toList_toArray, ↓rgd, ↓rgf, ↓reduceIte, Nat.reduceEqDiff, rg, ow_48]
  refine do_box (by simp only [evt]; exact e0) fun w0 n0 => ⟨trivial, ?_⟩
  simp only [↓List.toList_toArray, ↓rgd, ↓rgf, ↓reduceIte, Nat.reduceEqDiff, rg, ow_48]
  refine do_box (by simp only [evt, upd_eq, Nat.reduceEqDiff, ↓reduceIte]; exact e2) fun wq nq => ⟨trivial, ?_⟩
  simp only [↓List.toList_toArray, ↓rgd, ↓rgf, ↓reduceIte, Nat.reduceEqDiff, rg, ow_48]
  refine hK _ _ ?_; clear hK K
  have s0 := n0.size
  have sq := nq.size
  have X0 := n0.ext.tr nq.ext
  have r1 := mk_at0 (nq.ext.row (show Row w0 w.heap.size 0 (mkL sv d nl) from n0.row) fun _ _ h => h)
  have iq := iXi_at (show Row wq w0.heap.size 0 (Ei.cel q) from nq.row)
  have M1 : readsB (some (some [w.heap.size, w0.heap.size])) w.heap.size = true := by simp [readsB]
  have M2 : readsB (some (some [w.heap.size, w0.heap.size])) w0.heap.size = true := by simp [readsB]
  refine W_sq fun K hK => (W_free (some (some [w.heap.size, w0.heap.size])) (.take 0 (.take 1 (.take 2 (.take 3 (.take 4 (.take 6 (.take 8 (.act 5 (.act 7 (.bar 9 (.take 10 .nil))))))))))) mixed (by kernel_rfl) ?_); simp only [↓List.toList_toArray, ↓rgd, ↓rgf, ↓reduceIte, Nat.reduceEqDiff, rg, ow_48, e1, e3, r1, iq, M1, M2]
  refine do_call fn_60 (by simp only [evt, evc, upd_eq, Nat.reduceEqDiff, ↓reduceIte, maT, maC, maN, isnN, isnS] <;> rfl) (stree_ord sv ord l lv _ (SlV.ext0 hs (X0.tr (Ext.dr _ _ _))) hsb (SlV.ext0 hl (X0.tr (Ext.dr _ _ _))) hbig) ?_
  rintro v2 w2 ⟨hS2, X2⟩
  refine ⟨.inr (keeps_on X2 fun y hy => ⟨?_, fun _ g => g⟩), ?_⟩
  · rw [sz_dr]
    simp only [List.mem_cons, List.not_mem_nil, or_false] at hy
    omega
  have X2 := X2.od
  have s2 := X2.size
  have X02 := X0.tr X2
  simp only [↓List.toList_toArray, ↓rgd, ↓rgf, ↓reduceIte, Nat.reduceEqDiff, rg, ow_48]
  refine do_call fn_81 (by simp only [evt, evc, upd_eq, Nat.reduceEqDiff, ↓reduceIte, maT, maC, maN, isnN, isnS] <;> rfl) (sdown_any sv ord (treeG ord l) v2 q w2 (SlV.ext0 hs X02) hsb hS2 (by omega) (treeG_asc ord l)) ?_
  rintro v3 w3 ⟨hS3, X3⟩
  refine ⟨.inr (keeps_on X3 fun y hy => ⟨?_, fun _ g => g⟩), ?_⟩
  · simp only [List.mem_cons, List.not_mem_nil, or_false] at hy
    omega
  simp only [↓List.toList_toArray, ↓rgd, ↓rgf, ↓reduceIte, Nat.reduceEqDiff, rg, ow_48, e3]
  refine do_call fn_35 (by simp only [evt, evc, upd_eq, Nat.reduceEqDiff, ↓reduceIte, maT, maC, maN, isnN, isnS] <;> rfl) (first_any _ v3 n w3 hS3) ?_
  rintro v4 w4 ⟨hS4, hw4⟩
  obtain rfl : w3 = w4 := hw4.symm
  refine ⟨trivial, ?_⟩
  simp only [↓List.toList_toArray, ↓rgd, ↓rgf, ↓reduceIte, Nat.reduceEqDiff, rg, ow_48]
  refine hK _ _ ?_; clear hK K
  exact W_ret (endQ_1 (by simp only [upd_eq, Nat.reduceEqDiff, ↓reduceIte] <;> rfl) ⟨hS4, X02.tr X3⟩)
end Go.Proofs.Ytanmjbkbdmeckaa
/-
  The laws on DescendMut and DescendHintMut. No condition.
-/
set_option linter.unusedSimpArgs false
set_option linter.unusedVariables false
namespace Go.Proofs.Ytanmjbkbdmeckaa
open Go Go.Proofs
set_option maxHeartbeats 800000 in
set_option maxRecDepth 8000 in
theorem law_bDescendMut (d : Nat) (hd : DOk d) (ord : List Int) (sv : Value) (nl : Bool) (l : List It) (lv : Value) (all : Bool) (q : It) (n : Int) (w : World) (hs : SlInt w sv ord) (hsb : ord.length ≤ 2147483647) (hl : SlI w lv l) (hbig : l.length ≤ 2147483647) :
    CallK Try.prog 20 #[mkV sv d nl, lv, .bool all, iV q, .int .i64 n] w fun v w' => v = .bool true ∧ Ext noF w w' := by
  have htl := treeG_len ord l
  refine calls_of_W [.tmp 10] Try.func20 rfl Try.ntmps20 Try.results20 (by simp) fun e he => ?_
  have e0 : e 0 = mkV sv d nl := he 0 _ rfl
  have e1 : e 1 = lv := he 1 _ rfl
  have e2 : e 2 = .bool all := he 2 _ rfl
  have e3 : e 3 = iV q := he 3 _ rfl
  have e4 : e 4 = .int .i64 n := he 4 _ rfl
  clear he
  refine W_sq fun K hK => (W_text [false, false, true] (by kernel_rfl) ?_); simp only [↓List.toList_toArray, ↓rgd, ↓rgf, ↓reduceIte, Nat.reduceEqDiff, rg, ow_20]
  refine do_box (by simp only [evt]; exact e0) fun w0 n0 => ⟨trivial, ?_⟩
  simp only [↓List.toList_toArray, ↓rgd, ↓rgf, ↓reduceIte, Nat.reduceEqDiff, rg, ow_20]
  refine do_box (by simp only [evt, upd_eq, Nat.reduceEqDiff, ↓reduceIte]; exact e3) fun wq nq => ⟨trivial, ?_⟩
  simp only [↓List.toList_toArray, ↓rgd, ↓rgf, ↓reduceIte, Nat.reduceEqDiff, rg, ow_20]
  refine hK _ _ ?_; clear hK K
  have rm0 : Row wq w.heap.size 0 (mkL sv d nl) := nq.ext.row n0.row fun _ _ h => h
  have rq0 : Row wq w0.heap.size 0 (Ei.cel q) := nq.row
  have rm := mk_at rm0
  have iq := iXi_at rq0
  have X0 := n0.ext.tr nq.ext
  refine W_sq fun K hK => (W_text [true, true, true, true, true, false, true] (by kernel_rfl) ?_); simp only [↓List.toList_toArray, ↓rgd, ↓rgf, ↓reduceIte, Nat.reduceEqDiff, rg, ow_20, e1, e2, e4, rm, iq]
  refine do_call fn_40 (by simp only [evt, evc, upd_eq, Nat.reduceEqDiff, ↓reduceIte, maT, maC, maN, isnN, isnS] <;> rfl) (impl_BDescendMut d hd ord sv nl l lv all q n wq (SlV.ext0 hs X0) hsb (SlV.ext0 hl X0) hbig) ?_
  rintro v1 w1 ⟨h1, X1⟩
  refine ⟨trivial, ?_⟩
  simp only [↓List.toList_toArray, ↓rgd, ↓rgf, ↓reduceIte, Nat.reduceEqDiff, rg, ow_20]
  refine hK _ _ ?_; clear hK K
  have rm1 := mk_at (X1.row rm0 fun _ _ h => h)
  have iq1 := iXi_at (X1.row rq0 fun _ _ h => h)
  have X01 := X0.tr X1
  refine W_seq ?_
  cases all with
  | true =>
    have hfl := firstN_length n (treeG ord l).reverse
    rw [List.length_reverse] at hfl
    refine W_sq fun K hK => (W_text [true] (by kernel_rfl) ?_); simp only [↓List.toList_toArray, ↓rgd, ↓rgf, ↓reduceIte, Nat.reduceEqDiff, rg, ow_20, e2]
    refine hK _ _ ?_; clear hK K
    refine W_true (by simp only [evt, evc, upd_eq, Nat.reduceEqDiff, ↓reduceIte, ntT, ntF] <;> rfl) ?_
    refine W_sq fun K hK => (W_text [true, true, true, true, false, false, true] (by kernel_rfl) ?_); simp only [↓List.toList_toArray, ↓rgd, ↓rgf, ↓reduceIte, Nat.reduceEqDiff, rg, ow_20, e1, e4, rm1]
    refine do_call fn_47 (by simp only [evt, evc, upd_eq, Nat.reduceEqDiff, ↓reduceIte, maT, maC, maN, isnN, isnS] <;> rfl) (sgreverse d ord sv nl l lv n w1 (SlV.ext0 hs X01) hsb (SlV.ext0 hl X01) hbig) ?_
    rintro v2 w2 ⟨h2, X2⟩
    refine ⟨trivial, ?_⟩
    simp only [↓List.toList_toArray, ↓rgd, ↓rgf, ↓reduceIte, Nat.reduceEqDiff, rg, ow_20]
    refine do_call fn_29 (by simp only [evt, evc, upd_eq, Nat.reduceEqDiff, ↓reduceIte, maT, maC, maN, isnN, isnS] <;> rfl) (eq_i _ v1 v2 w2 (SlV.ext0 h1 X2) h2 (by show (firstN n (treeG ord l).reverse).length ≤ _; omega)) ?_
    rintro _ w3 ⟨rfl, r3⟩
    refine ⟨trivial, ?_⟩
    simp only [↓List.toList_toArray, ↓rgd, ↓rgf, ↓reduceIte, Nat.reduceEqDiff, rg, ow_20]
    refine hK _ _ ?_; clear hK K
    refine W_ret ?_
    simp only [andThen_ret]
    exact endQ_1 (by simp only [upd_eq, Nat.reduceEqDiff, ↓reduceIte] <;> rfl) ⟨rfl, (X01.tr X2).tr r3.ext⟩
  | false =>
    have hfl := firstN_length n ((treeG ord l).take (ub O (rkI ord) (rkI ord q) (treeG ord l))).reverse
    rw [List.length_reverse, List.length_take] at hfl
    refine W_sq fun K hK => (W_text [true] (by kernel_rfl) ?_); simp only [↓List.toList_toArray, ↓rgd, ↓rgf, ↓reduceIte, Nat.reduceEqDiff, rg, ow_20, e2]
    refine hK _ _ ?_; clear hK K
    refine W_false (by simp only [evt, evc, upd_eq, Nat.reduceEqDiff, ↓reduceIte, ntT, ntF] <;> rfl) (W_skip ?_)
    show W _ _ _ _ _ _
    refine W_sq fun K hK => (W_text [true, true, true, true, false, true] (by kernel_rfl) ?_); simp only [↓List.toList_toArray, ↓rgd, ↓rgf, ↓reduceIte, Nat.reduceEqDiff, rg, ow_20, e1, e4, rm1, iq1]
    refine do_call fn_48 (by simp only [evt, evc, upd_eq, Nat.reduceEqDiff, ↓reduceIte, maT, maC, maN, isnN, isnS] <;> rfl) (sgdescend d ord sv nl l lv q n w1 (SlV.ext0 hs X01) hsb (SlV.ext0 hl X01) hbig) ?_
    rintro v2 w2 ⟨h2, X2⟩
    refine ⟨trivial, ?_⟩
    simp only [↓List.toList_toArray, ↓rgd, ↓rgf, ↓reduceIte, Nat.reduceEqDiff, rg, ow_20]
    refine hK _ _ ?_; clear hK K
    refine W_sq fun K hK => (W_text [true, true, false, true] (by kernel_rfl) ?_); simp only [↓List.toList_toArray, ↓rgd, ↓rgf, ↓reduceIte, Nat.reduceEqDiff, rg, ow_20]
    refine do_call fn_29 (by simp only [evt, evc, upd_eq, Nat.reduceEqDiff, ↓reduceIte, maT, maC, maN, isnN, isnS] <;> rfl) (eq_i _ v1 v2 w2 (SlV.ext0 h1 X2) h2 (by show (firstN n ((treeG ord l).take (ub O (rkI ord) (rkI ord q) (treeG ord l))).reverse).length ≤ _; omega)) ?_
    rintro _ w3 ⟨rfl, r3⟩
    refine ⟨trivial, ?_⟩
    simp only [↓List.toList_toArray, ↓rgd, ↓rgf, ↓reduceIte, Nat.reduceEqDiff, rg, ow_20]
    refine hK _ _ ?_; clear hK K
    exact W_ret (endQ_1 (by simp only [upd_eq, Nat.reduceEqDiff, ↓reduceIte] <;> rfl) ⟨rfl, (X01.tr X2).tr r3.ext⟩)
set_option maxHeartbeats 800000 in
set_option maxRecDepth 8000 in
theorem law_bDescendHintMut (d : Nat) (hd : DOk d) (ord : List Int) (sv : Value) (nl : Bool) (l : List It) (lv : Value) (all : Bool) (q : It) (n : Int) (w : World) (hs : SlInt w sv ord) (hsb : ord.length ≤ 2147483647) (hl : SlI w lv l) (hbig : l.length ≤ 2147483647) :
    CallK Try.prog 21 #[mkV sv d nl, lv, .bool all, iV q, .int .i64 n] w fun v w' => v = .bool true ∧ Ext noF w w' := by
  have htl := treeG_len ord l
  refine calls_of_W [.tmp 10] Try.func21 rfl Try.ntmps21 Try.results21 (by simp) fun e he => ?_
  have e0 : e 0 = mkV sv d nl := he 0 _ rfl
  have e1 : e 1 = lv := he 1 _ rfl
  have e2 : e 2 = .bool all := he 2 _ rfl
  have e3 : e 3 = iV q := he 3 _ rfl
  have e4 : e 4 = .int .i64 n := he 4 _ rfl
  clear he
  refine W_sq fun K hK => (W_text [false, false, true] (by kernel_rfl) ?_); simp only [↓List.toList_toArray, ↓rgd, ↓rgf, ↓reduceIte, Nat.reduceEqDiff, rg, ow_21]
  refine do_box (by simp only [evt]; exact e0) fun w0 n0 => ⟨trivial, ?_⟩
  simp only [↓List.toList_toArray, ↓rgd, ↓rgf, ↓reduceIte, Nat.reduceEqDiff, rg, ow_21]
  refine do_box (by simp only [evt, upd_eq, Nat.reduceEqDiff, ↓reduceIte]; exact e3) fun wq nq => ⟨trivial, ?_⟩
  simp only [↓List.toList_toArray, ↓rgd, ↓rgf, ↓reduceIte, Nat.reduceEqDiff, rg, ow_21]
  refine hK _ _ ?_; clear hK K
  have rm0 : Row wq w.heap.size 0 (mkL sv d nl) := nq.ext.row n0.row fun _ _ h => h
  have rq0 : Row wq w0.heap.size 0 (Ei.cel q) := nq.row
  have rm := mk_at rm0
  have iq := iXi_at rq0
  have X0 := n0.ext.tr nq.ext
  refine W_sq fun K hK => (W_text [true, true, true, true, true, false, true] (by kernel_rfl) ?_); simp only [↓List.toList_toArray, ↓rgd, ↓rgf, ↓reduceIte, Nat.reduceEqDiff, rg, ow_21, e1, e2, e4, rm, iq]
  refine do_call fn_49 (by simp only [evt, evc, upd_eq, Nat.reduceEqDiff, ↓reduceIte, maT, maC, maN, isnN, isnS] <;> rfl) (impl_BDescendHintMut d hd ord sv nl l lv all q n wq (SlV.ext0 hs X0) hsb (SlV.ext0 hl X0) hbig) ?_
  rintro v1 w1 ⟨h1, X1⟩
  refine ⟨trivial, ?_⟩
  simp only [↓List.toList_toArray, ↓rgd, ↓rgf, ↓reduceIte, Nat.reduceEqDiff, rg, ow_21]
  refine hK _ _ ?_; clear hK K
  have rm1 := mk_at (X1.row rm0 fun _ _ h => h)
  have iq1 := iXi_at (X1.row rq0 fun _ _ h => h)
  have X01 := X0.tr X1
  refine W_seq ?_
  cases all with
  | true =>
    have hfl := firstN_length n (treeG ord l).reverse
    rw [List.length_reverse] at hfl
    refine W_sq fun K hK => (W_text [true] (by kernel_rfl) ?_); simp only [↓List.toList_toArray, ↓rgd, ↓rgf, ↓reduceIte, Nat.reduceEqDiff, rg, ow_21, e2]
    refine hK _ _ ?_; clear hK K
    refine W_true (by simp only [evt, evc, upd_eq, Nat.reduceEqDiff, ↓reduceIte, ntT, ntF] <;> rfl) ?_
    refine W_sq fun K hK => (W_text [true, true, true, true, false, false, true] (by kernel_rfl) ?_); simp only [↓List.toList_toArray, ↓rgd, ↓rgf, ↓reduceIte, Nat.reduceEqDiff, rg, ow_21, e1, e4, rm1]
    refine do_call fn_47 (by simp only [evt, evc, upd_eq, Nat.reduceEqDiff, ↓reduceIte, maT, maC, maN, isnN, isnS] <;> rfl) (sgreverse d ord sv nl l lv n w1 (SlV.ext0 hs X01) hsb (SlV.ext0 hl X01) hbig) ?_
    rintro v2 w2 ⟨h2, X2⟩
    refine ⟨trivial, ?_⟩
    simp only [↓List.toList_toArray, ↓rgd, ↓rgf, ↓reduceIte, Nat.reduceEqDiff, rg, ow_21]
    refine do_call fn_29 (by simp only [evt, evc, upd_eq, Nat.reduceEqDiff, ↓reduceIte, maT, maC, maN, isnN, isnS] <;> rfl) (eq_i _ v1 v2 w2 (SlV.ext0 h1 X2) h2 (by show (firstN n (treeG ord l).reverse).length ≤ _; omega)) ?_
    rintro _ w3 ⟨rfl, r3⟩
    refine ⟨trivial, ?_⟩
    simp only [↓List.toList_toArray, ↓rgd, ↓rgf, ↓reduceIte, Nat.reduceEqDiff, rg, ow_21]
    refine hK _ _ ?_; clear hK K
    refine W_ret ?_
    simp only [andThen_ret]
    exact endQ_1 (by simp only [upd_eq, Nat.reduceEqDiff, ↓reduceIte] <;> rfl) ⟨rfl, (X01.tr X2).tr r3.ext⟩
  | false =>
    have hfl := firstN_length n ((treeG ord l).take (ub O (rkI ord) (rkI ord q) (treeG ord l))).reverse
    rw [List.length_reverse, List.length_take] at hfl
    refine W_sq fun K hK => (W_text [true] (by kernel_rfl) ?_); simp only [↓List.toList_toArray, ↓rgd, ↓rgf, ↓reduceIte, Nat.reduceEqDiff, rg, ow_21, e2]
    refine hK _ _ ?_; clear hK K
    refine W_false (by simp only [evt, evc, upd_eq, Nat.reduceEqDiff, ↓reduceIte, ntT, ntF] <;> rfl) (W_skip ?_)
    show W _ _ _ _ _ _
    refine W_sq fun K hK => (W_text [true, true, true, true, false, true] (by kernel_rfl) ?_); simp only [↓List.toList_toArray, ↓rgd, ↓rgf, ↓reduceIte, Nat.reduceEqDiff, rg, ow_21, e1, e4, rm1, iq1]
    refine do_call fn_48 (by simp only [evt, evc, upd_eq, Nat.reduceEqDiff, ↓reduceIte, maT, maC, maN, isnN, isnS] <;> rfl) (sgdescend d ord sv nl l lv q n w1 (SlV.ext0 hs X01) hsb (SlV.ext0 hl X01) hbig) ?_
    rintro v2 w2 ⟨h2, X2⟩
    refine ⟨trivial, ?_⟩
    simp only [↓List.toList_toArray, ↓rgd, ↓rgf, ↓reduceIte, Nat.reduceEqDiff, rg, ow_21]
    refine hK _ _ ?_; clear hK K
    refine W_sq fun K hK => (W_text [true, true, false, true] (by kernel_rfl) ?_); simp only [↓List.toList_toArray, ↓rgd, ↓rgf, ↓reduceIte, Nat.reduceEqDiff, rg, ow_21]
    refine do_call fn_29 (by simp only [evt, evc, upd_eq, Nat.reduceEqDiff, ↓reduceIte, maT, maC, maN, isnN, isnS] <;> rfl) (eq_i _ v1 v2 w2 (SlV.ext0 h1 X2) h2 (by show (firstN n ((treeG ord l).take (ub O (rkI ord) (rkI ord q) (treeG ord l))).reverse).length ≤ _; omega)) ?_
    rintro _ w3 ⟨rfl, r3⟩
    refine ⟨trivial, ?_⟩
    simp only [↓List.toList_toArray, ↓rgd, ↓rgf, ↓reduceIte, Nat.reduceEqDiff, rg, ow_21]
    refine hK _ _ ?_; clear hK K
    exact W_ret (endQ_1 (by simp only [upd_eq, Nat.reduceEqDiff, ↓reduceIte] <;> rfl) ⟨rfl, (X01.tr X2).tr r3.ext⟩)
end Go.Proofs.Ytanmjbkbdmeckaa
/-
  FnExactBDescendHintMut returns true, whatever the arguments. No condition.
-/
set_option linter.unusedSimpArgs false
set_option linter.unusedVariables false
namespace Go.Proofs.Ytanmjbkbdmeckaa
open Go Go.Proofs
set_option maxHeartbeats 800000 in
set_option maxRecDepth 8000 in
theorem top_FnExactBDescendHintMut (ord : List Int) (sv : Value) (d : Int) (nl : Bool) (a0 : List It) (v0 : Value) (a1 : Bool) (a2 : It) (a3 : Int) (w : World) (gs : SlInt w sv ord) (g0 : SlI w v0 a0) :
    CallK Try.prog 6 #[.agg #[sv, .int .i64 d, .bool nl], v0, .bool a1, iV a2, .int .i64 a3] w fun v w' => v = .bool true ∧ Ext noF w w' := by
  obtain ⟨p0, c0, hv0⟩ := SlV.shape g0
  refine calls_of_W [.tmp 10] Try.func6 rfl Try.ntmps6 Try.results6 (by simp) fun e he => ?_
  have e0 : e 0 = .agg #[sv, .int .i64 d, .bool nl] := he 0 _ rfl
  have e1 : e 1 = v0 := he 1 _ rfl
  have e2 : e 2 = .bool a1 := he 2 _ rfl
  have e3 : e 3 = iV a2 := he 3 _ rfl
  have e4 : e 4 = .int .i64 a3 := he 4 _ rfl
  clear he
  refine W_sq fun K hK => (W_text [false, false, true] (by kernel_rfl) ?_); simp only [↓List.toList_toArray, ↓rgd, ↓rgf, ↓reduceIte, Nat.reduceEqDiff, rg, ow_6]
  refine do_box (by simp only [evt]; exact e0) fun w1 n1 => ⟨trivial, ?_⟩
  simp only [↓List.toList_toArray, ↓rgd, ↓rgf, ↓reduceIte, Nat.reduceEqDiff, rg, ow_6]
  refine do_box (by simp only [evt, upd_eq, Nat.reduceEqDiff, ↓reduceIte]; exact e3) fun w2 n2 => ⟨trivial, ?_⟩
  simp only [↓List.toList_toArray, ↓rgd, ↓rgf, ↓reduceIte, Nat.reduceEqDiff, rg, ow_6]
  have Z2 := n1.ext.tr n2.ext
  refine hK _ _ ?_; clear hK K
  have rm : Row w2 w.heap.size 0 [sv, .int .i64 d, .bool nl] := (n2.ext).row n1.row fun _ _ h => h
  have ri2 : Row w2 w1.heap.size 0 (Ei.cel a2) := n2.row
  have XB : Ext noF w w2 := Z2
  have rm3 : rdA w2 w.heap.size 0 3 = some (.agg #[sv, .int .i64 d, .bool nl]) := rm.rdA 3 (Nat.le_refl _)
  refine W_seq ?_
  refine W_sq fun K hK => (W_text [true, false, true, true, true, true, true, true] (by kernel_rfl) ?_); simp only [↓List.toList_toArray, ↓rgd, ↓rgf, ↓reduceIte, Nat.reduceEqDiff, rg, ow_6, e1, hv0, rm3]
  refine do_call fn_13 (by simp only [evt, evc, upd_eq, Nat.reduceEqDiff, ↓reduceIte, maT, maC, maN, isnN, isnS] <;> rfl) (fits1_any sv ord (.int .i64 d) nl w2 (SlV.ext0 gs XB)) ?_
  rintro _ wf ⟨rfl, xf⟩
  refine ⟨trivial, ?_⟩
  have XF := XB.tr xf
  by_cases hbo : ord.length ≤ 2147483647
  case neg =>
    have to : decide (ord.length ≤ 2147483647) = false := by simp; omega
    simp only [↓List.toList_toArray, ↓rgd, ↓rgf, ↓reduceIte, Nat.reduceEqDiff, rg, ow_6, e1, hv0, to]
    refine hK _ _ ?_; clear hK K
    refine W_true (by simp only [evt, evc, upd_eq, Nat.reduceEqDiff, ↓reduceIte, ntT, ntF] <;> rfl) ?_
    refine W_sq fun K hK => (W_text [true] (by kernel_rfl) ?_); simp only [↓List.toList_toArray, ↓rgd, ↓rgf, ↓reduceIte, Nat.reduceEqDiff, rg, ow_6]
    refine hK _ _ ?_; clear hK K
    refine W_ret ?_
    simp only [andThen_ret]
    exact endQ_1 (by simp only [upd_eq, Nat.reduceEqDiff, ↓reduceIte] <;> rfl) ⟨rfl, XF⟩
  have to : decide (ord.length ≤ 2147483647) = true := by simp; omega
  by_cases hb0 : a0.length ≤ 2147483647
  case neg =>
    have t0 : decide ((2147483647 : Int) < (a0.length : Int)) = true := by simp; omega
    simp only [↓List.toList_toArray, ↓rgd, ↓rgf, ↓reduceIte, Nat.reduceEqDiff, rg, ow_6, e1, hv0, to, t0]
    refine hK _ _ ?_; clear hK K
    refine W_true (by simp only [evt, evc, upd_eq, Nat.reduceEqDiff, ↓reduceIte, ntT, ntF] <;> rfl) ?_
    refine W_sq fun K hK => (W_text [true] (by kernel_rfl) ?_); simp only [↓List.toList_toArray, ↓rgd, ↓rgf, ↓reduceIte, Nat.reduceEqDiff, rg, ow_6]
    refine hK _ _ ?_; clear hK K
    refine W_ret ?_
    simp only [andThen_ret]
    exact endQ_1 (by simp only [upd_eq, Nat.reduceEqDiff, ↓reduceIte] <;> rfl) ⟨rfl, XF⟩
  have t0 : decide ((2147483647 : Int) < (a0.length : Int)) = false := by simp; omega
  simp only [↓List.toList_toArray, ↓rgd, ↓rgf, ↓reduceIte, Nat.reduceEqDiff, rg, ow_6, e1, hv0, to, t0]
  refine hK _ _ ?_; clear hK K
  refine W_false (by simp only [evt, evc, upd_eq, Nat.reduceEqDiff, ↓reduceIte, ntT, ntF] <;> rfl) (W_skip ?_)
  show W _ _ _ _ _ _
  refine W_sq fun K hK => (W_text [false, false, true, false, true, true, true, false, true, true, true, true, true, true, true, false, true, true, true] (by kernel_rfl) ?_); simp only [↓List.toList_toArray, ↓rgd, ↓rgf, ↓reduceIte, Nat.reduceEqDiff, rg, ow_6, bu_itemK]
  refine do_call fn_15 (by simp only [evt, evc, upd_eq, Nat.reduceEqDiff, ↓reduceIte, maT, maC, maN, isnN, isnS] <;> rfl) (exMake_any wf) ?_
  rintro _ u0 ⟨rfl, z0⟩
  refine ⟨trivial, ?_⟩
  simp only [↓List.toList_toArray, ↓rgd, ↓rgf, ↓reduceIte, Nat.reduceEqDiff, rg, ow_6]
  have Y0 := z0
  refine do_call fn_16 (by simp only [evt, evc, upd_eq, Nat.reduceEqDiff, ↓reduceIte, maT, maC, maN, isnN, isnS] <;> rfl) (exItems_any u0) ?_
  rintro x0 u1 ⟨q0, y1⟩
  refine ⟨trivial, ?_⟩
  simp only [↓List.toList_toArray, ↓rgd, ↓rgf, ↓reduceIte, Nat.reduceEqDiff, rg, ow_6, bu_itemK]
  have Y1 := Y0.tr y1
  refine do_call fn_21 (by simp only [evt, evc, upd_eq, Nat.reduceEqDiff, ↓reduceIte, maT, maC, maN, isnN, isnS] <;> rfl) (law_bDescendHintMut 2 (.inr (by decide)) [] nilS false exL x0 (false) ((4, 0)) (2) u1 (nil_int _) (by decide) q0 (by decide)) ?_
  rintro _ u2 ⟨rfl, y2⟩
  refine ⟨trivial, ?_⟩
  have Y2 := Y1.tr y2
  have XA := XF.tr Y2
  have rmA := (xf.tr Y2).row rm fun _ _ h => h
  have rd1 := (Row.cons.1 (Row.cons.1 rmA).2).1
  have rmA3 : rdA u2 w.heap.size 0 3 = some (.agg #[sv, .int .i64 d, .bool nl]) := rmA.rdA 3 (Nat.le_refl _)
  rw [Nat.zero_add] at rd1
  simp only [↓List.toList_toArray, ↓rgd, ↓rgf, ↓reduceIte, Nat.reduceEqDiff, rg, ow_6, rd1]
  refine do_call fn_17 (by simp only [evt, evc, upd_eq, Nat.reduceEqDiff, ↓reduceIte, maT, maC, maN, isnN, isnS] <;> rfl) (fits_any d u2) ?_
  rintro _ _ ⟨rfl, rfl⟩
  refine ⟨trivial, ?_⟩
  cases hf : (decide (d = 0) || (decide (2 ≤ d) && decide (d ≤ 128))) with
  | false =>
    simp only [↓List.toList_toArray, ↓rgd, ↓rgf, ↓reduceIte, Nat.reduceEqDiff, rg, ow_6]
    refine hK _ _ ?_; clear hK K
    exact W_ret (endQ_1 (by simp only [upd_eq, Nat.reduceEqDiff, ↓reduceIte] <;> rfl) ⟨rfl, XA⟩)
  | true =>
    have h2 : d = 0 ∨ 2 ≤ d ∧ d ≤ 128 := by simp at hf; omega
    obtain ⟨n, rfl⟩ : ∃ n : Nat, d = n := ⟨d.toNat, by omega⟩
    have im2 := iXi_at ((xf.tr Y2).row ri2 fun _ _ h => h)
    simp only [↓List.toList_toArray, ↓rgd, ↓rgf, ↓reduceIte, Nat.reduceEqDiff, rg, ow_6, e1, e2, e4, rmA3, im2]
    refine do_call fn_21 (by simp only [evt, evc, upd_eq, Nat.reduceEqDiff, ↓reduceIte, maT, maC, maN, isnN, isnS] <;> rfl) (law_bDescendHintMut n (show DOk n by unfold DOk; omega) ord sv nl a0 v0 a1 a2 a3 u2 (SlV.ext0 gs XA) hbo (SlV.ext0 g0 XA) hb0) ?_
    rintro _ u9 ⟨rfl, y9⟩
    refine ⟨trivial, ?_⟩
    simp only [↓List.toList_toArray, ↓rgd, ↓rgf, ↓reduceIte, Nat.reduceEqDiff, rg, ow_6]
    refine hK _ _ ?_; clear hK K
    exact W_ret (endQ_1 (by simp only [upd_eq, Nat.reduceEqDiff, ↓reduceIte] <;> rfl) ⟨rfl, XA.tr y9⟩)
end Go.Proofs.Ytanmjbkbdmeckaa
/-
  FnExactBDescendHintMut: the whole statement: it returns true whatever the input is, and the arguments read as before. No condition.
-/
set_option linter.unusedSimpArgs false
set_option linter.unusedVariables false
namespace Go.Proofs.Ytanmjbkbdmeckaa
open Go Go.Proofs Go.ChangeShapes Go.WideShapes Go.ChangeAt Go.RowKit
theorem trodAll_five5 {H : Type} {enc : TypeId × Value → H} {P : Program} {w : World} {base : Nat} {spare : Nat → Bool} {held : Bool} {t0 t1 t2 t3 t4 : TypeId} {args : Array Value} {ds : List (DataW H)} {ps : List MemPlace} (h : DataW.TrodAll enc P w base spare held [t0, t1, t2, t3, t4] args.toList ds ps) :
    ∃ v0 v1 v2 v3 v4 d0 d1 d2 d3 d4 p0 p1 p2 p3 p4, args = #[v0, v1, v2, v3, v4] ∧ ds = [d0, d1, d2, d3, d4] ∧ ps = p0 ++ p1 ++ p2 ++ p3 ++ p4 ∧ DataW.Trod enc P w base spare held t0 v0 d0 p0 ∧ DataW.Trod enc P w base spare held t1 v1 d1 p1 ∧ DataW.Trod enc P w base spare held t2 v2 d2 p2 ∧ DataW.Trod enc P w base spare held t3 v3 d3 p3 ∧ DataW.Trod enc P w base spare held t4 v4 d4 p4 := by
  obtain ⟨v0, vs0, d0, ds0, p0, q0, hargs, rfl, rfl, h0, r0⟩ := trodAll_cons h
  obtain ⟨v1, vs1, d1, ds1, p1, q1, rfl, rfl, rfl, h1, r1⟩ := trodAll_cons r0
  obtain ⟨v2, vs2, d2, ds2, p2, q2, rfl, rfl, rfl, h2, r2⟩ := trodAll_cons r1
  obtain ⟨v3, vs3, d3, ds3, p3, q3, rfl, rfl, rfl, h3, r3⟩ := trodAll_cons r2
  obtain ⟨v4, vs4, d4, ds4, p4, q4, rfl, rfl, rfl, h4, r4⟩ := trodAll_cons r3
  obtain ⟨rfl, rfl, rfl⟩ := trodAll_nil r4
  exact ⟨v0, v1, v2, v3, v4, d0, d1, d2, d3, d4, p0, p1, p2, p3, p4, by cases args; simp_all, rfl, by simp, h0, h1, h2, h3, h4⟩
set_option maxRecDepth 100000 in
theorem c_FnExactBDescendHintMut (H : Type) (enc : TypeId × Value → H) (W : World) (base : Nat) (args : Array Value) (ds gs : List (DataW H)) (before : List MemPlace)
    (hval : ∀ (j : Nat) t v, Try.f6.params[j]? = some t → args[j]? = some v → Value.okWide Try.prog W .any base t v)
    (hW : DataW.Whole enc Try.prog Try.f6.params.toList Rows.fnExactBDescendHintMutSpec.vars false W args.toList ds gs before) :
    Calls Try.prog 6 args W fun e W' => ∃ v, e = .returned v ∧ Rows.fnExactBDescendHintMutSpec.post enc Try.prog Try.f6 false true false false W args v W' := by
  have hW' := hW
  obtain ⟨p, q, hA0, hV, rfl, hfz, hnd⟩ := hW
  have hA : DataW.TrodAll enc Try.prog W 0 (fun _ => true) true Try.f6.params.toList args.toList ds p := hA0
  rw [Try.params6] at hA hval
  obtain ⟨v0, v1, v2, v3, v4, d0, d1, d2, d3, d4, p0, p1, p2, p3, p4, rfl, rfl, rfl, h0, h1, h2, h3, h4⟩ := trodAll_five5 hA
  obtain ⟨rfl, rfl⟩ := trodVars_none hV
  obtain ⟨s0, a0, n0, r0, rfl, g0⟩ := open_make (hval 0 24 v0 rfl rfl) h0 fun b o h => hfz b o (by simp [h])
  obtain ⟨a1, g1⟩ := open_items (hval 1 25 v1 rfl rfl) h1 fun b o h => hfz b o (by simp [h])
  obtain ⟨a2, rfl, rfl, rfl⟩ := open_bool Try.underlying4 (hval 2 4 v2 rfl rfl) h2
  obtain ⟨a3, rfl⟩ := open_item (hval 3 33 v3 rfl rfl) h3
  obtain ⟨a4, rfl, rfl, rfl, _⟩ := open_int Try.underlying3 (hval 4 3 v4 rfl rfl) h4
  exact calls_law laidOut (by rw [Try.params6]; kernel_rfl) rfl hW' rfl rfl rfl (by kernel_rfl) Try.underlying4 (top_FnExactBDescendHintMut r0 s0 a0 n0 a1 v1 a2 a3 a4 W g0 g1)
set_option maxRecDepth 100000 in
theorem l_FnExactBDescendHintMut (os : Os) (started : os.Started) (H : Type) (enc : TypeId × Value → H) :
    ReturnsInHanded {} Try.checked os 6 .any (Rows.fnExactBDescendHintMutSpec.pre6 enc Try.prog Try.f6 Rows.fnExactBDescendHintMutRow.domain false) (Rows.fnExactBDescendHintMutSpec.post enc Try.prog Try.f6 false true false false) := by
  refine returnsInHanded_of_change (C := Try.checked) own started (by kernel_rfl) Try.func6
    (ChangeSpec.witness6 (enc := enc) (C := Try.checked) false ⟨#[], #[.agg #[.slice none 0 0, .int .i64 0, .bool false], .slice none 0 0, .bool false, .agg #[.int .i64 0, .int .i64 0], .int .i64 0], []⟩ 8 (by kernel_rfl) (by kernel_rfl) (by kernel_rfl) (by kernel_rfl)) ?_
  intro W base args ds gs before hval hW _ _
  exact c_FnExactBDescendHintMut H enc W base args ds gs before hval hW
theorem h_FnExactBDescendHintMut : Rows.FnExactBDescendHintMutSaid :=
  OpenClaim.holds_of_wide 6 Try.f6 rfl rfl rfl rfl rfl rfl rfl ⟨rfl, rfl, rfl, rfl, rfl⟩ rfl rfl rfl rfl rfl (by kernel_rfl) Try.func6 (by kernel_rfl)
    (of_decide_eq_true (by kernel_rfl)) (by unfold Func.isWrapper; first | (rw [if_pos (by decide +kernel)]; kernel_rfl) | (rw [if_neg (by decide +kernel)]; exact ⟨rfl, rfl⟩))
    (fun os started H enc _ => l_FnExactBDescendHintMut os started H enc)
#print axioms h_FnExactBDescendHintMut
end Go.Proofs.Ytanmjbkbdmeckaa
