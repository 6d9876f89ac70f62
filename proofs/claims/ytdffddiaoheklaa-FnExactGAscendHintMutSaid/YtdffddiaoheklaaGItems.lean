/-
  All items of a tree in their order. No condition.
-/
import Derived.Test.YtdffddiaoheklaaGMin
import Derived.Test.YtdffddiaoheklaaGCut
set_option linter.unusedSimpArgs false
set_option linter.unusedVariables false
namespace Go.Proofs.Ytdffddiaoheklaa
open Go Go.Proofs
theorem take_snoc {α : Type} {l : List α} {i : Nat} {x : α} (h : l[i]? = some x) : l.take (i + 1) = l.take i ++ [x] := by rw [List.take_add_one, h]; rfl
set_option maxHeartbeats 1000000 in
set_option maxRecDepth 8000 in
theorem nodeItems_any (m B : Nat) (iso : Int) (mn mx : Nat) (hmB : m < B) (mu : Bool) :
    ∀ (h b lo pc po : Nat) (xs : List It) (F : Nat → Nat → Prop) (iv : Value) (K : List It) (w : World), Tr E iso mn mx h w lo b xs F → rd w m 0 = some (.int .u64 iso) → rd w pc po = some (ptr b) → (∀ y o, F y o → y < B) →
      OutE E B iv K w → K.length + xs.length ≤ 4294967295 → B ≤ w.heap.size → pc < B →
    CallK Try.prog 105 #[ptr m, .pointer (some ⟨pc, po, none⟩), iv, .bool mu] w fun v w' => OutE E B v (K ++ xs) w' ∧ Ext (fun y _ => B ≤ y) w w' := by
  intro h
  induction h with
  | zero =>
    intro b lo pc po xs F iv K w ht h0 hp hG hS hb1 hB hpc
    obtain ⟨bi, oi, cap, ho, h1, h2, hF⟩ := ht
    have hGo : ∀ y o, ownF E b bi oi cap y o → y < B := fun y o g => hG y o ((hF y o).2 g)
    obtain ⟨ia, ic, hiv⟩ := hS.sl.shape
    refine calls_of_W [.tmp 8] Try.func105 rfl Try.ntmps105 Try.results105 (by simp) fun e he => ?_
    have e0 : e 0 = ptr m := he 0 _ rfl
    have e1 : e 1 = .pointer (some ⟨pc, po, none⟩) := he 1 _ rfl
    have e2 : e 2 = iv := he 2 _ rfl
    have e3 : e 3 = .bool mu := he 3 _ rfl
    clear he
    refine W_sq fun K hK => (W_text [true] (by kernel_rfl) ?_); simp only [↓List.toList_toArray, ↓rgd, ↓rgf, ↓reduceIte, Nat.reduceEqDiff, rg, ow_105]
    refine hK _ _ ?_; clear hK K
    refine W_sq fun K hK => (W_text [true, true, true, false, true] (by kernel_rfl) ?_); simp only [↓List.toList_toArray, ↓rgd, ↓rgf, ↓reduceIte, Nat.reduceEqDiff, rg, ow_105, e0, e1, e3]
    refine do_call fn_107 (by simp only [evt, evc, upd_eq, Nat.reduceEqDiff, ↓reduceIte, maT, maC, maN, isnN, isnS] <;> rfl) (isoLoad_any m pc po b mu iso w h0 hp ho.h0) ?_
    rintro _ w1 ⟨rfl, r1⟩
    refine ⟨trivial, ?_⟩
    simp only [↓List.toList_toArray, ↓rgd, ↓rgf, ↓reduceIte, Nat.reduceEqDiff, rg, ow_105]
    refine hK _ _ ?_; clear hK K
    have x1 : Ext noF w w1 := r1.ext
    have o1 := ho.ext x1 fun _ _ _ h => h
    have S1 := hS.ext x1
    have s1 := x1.size
    refine W_seq ?_
    refine W_sq fun K hK => (W_text [true, false] (by kernel_rfl) ?_); simp only [↓List.toList_toArray, ↓rgd, ↓rgf, ↓reduceIte, Nat.reduceEqDiff, rg, ow_105]
    refine do_call fn_108 (by simp only [evt, evc, upd_eq, Nat.reduceEqDiff, ↓reduceIte, maT, maC, maN, isnN, isnS] <;> rfl) (leaf_any b none w1 o1.h3) ?_
    rintro _ w1' ⟨rfl, hw1⟩
    obtain rfl : w1 = w1' := hw1.symm
    refine ⟨trivial, ?_⟩
    simp only [↓List.toList_toArray, ↓rgd, ↓rgf, ↓reduceIte, Nat.reduceEqDiff, rg, ow_105]
    refine hK _ _ ?_; clear hK K
    refine W_true (by simp only [evt, evc, upd_eq, Nat.reduceEqDiff, ↓reduceIte, ntT, ntF] <;> rfl) ?_
    have hb2 := o1.h2
    refine W_sq fun K hK => (W_text [true, true, true, true, true, false, true] (by kernel_rfl) ?_); simp only [↓List.toList_toArray, ↓rgd, ↓rgf, ↓reduceIte, Nat.reduceEqDiff, rg, ow_105, e2, ptr_eq, hb2]
    have hsl : SlV w1 2 (.slice (some ⟨bi, oi, none⟩) xs.length cap) xs.length (flat E xs) := ⟨by rw [flat_length]; rfl, .inr ⟨bi, oi, cap, rfl, ho.le, o1.row, o1.wi.R (Nat.le_refl _)⟩⟩
    refine do_append (by simp only [evt, evc, upd_eq, Nat.reduceEqDiff, ↓reduceIte, ntT, ntF] <;> rfl) (by simp only [evt, evc, upd_eq, Nat.reduceEqDiff, ↓reduceIte, ntT, ntF] <;> rfl) el_it rfl ni_25 S1.sl hsl (by omega) (by decide) (flat_oc E _) fun v2 w2 a2 => ⟨trivial, ?_⟩
    simp only [↓List.toList_toArray, ↓rgd, ↓rgf, ↓reduceIte, Nat.reduceEqDiff, rg, ow_105]
    refine hK _ _ ?_; clear hK K
    obtain ⟨q1, q2, q3⟩ := app_since a2 S1.si (by omega)
    refine W_ret ?_
    simp only [andThen_ret]
    refine endQ_1 (by simp only [upd_eq, Nat.reduceEqDiff, ↓reduceIte] <;> rfl) ⟨⟨?_, q2⟩, (x1.mono fun _ _ _ h => h.elim).tr q3⟩
    rw [List.length_append, flat_append]
    exact q1
  | succ h ih =>
    intro b lo pc po xs F iv K w ht h0 hp hG hS hb1 hB hpc
    obtain ⟨bi, oi, cap, bc, ba, oa, capc, ks, cs, ho, hk, h1, h2, hcs, rfl, hT, hA, hF⟩ := ht
    have hGo : ∀ y o, ownF E b bi oi cap y o → y < B := fun y o g => hG y o ((hF y o).2 (.inl g))
    have hGk : ∀ y o, kidF bc ba oa capc y o → y < B := fun y o g => hG y o ((hF y o).2 (.inr (.inl g)))
    have hGc : ∀ c ∈ cs, ∀ y o, c.F y o → y < B := fun c hc y o g => hG y o ((hF y o).2 (.inr (.inr ⟨c, hc, g⟩)))
    have hbaB : cs ≠ [] → ba < B := fun hne => hGk ba oa (.inr ⟨rfl, Nat.le_refl _, by have := hk.le; rw [List.length_map] at this; have := List.length_pos_iff.2 hne; omega⟩)
    have hwl := weave_length (cs.map Kid.xs) ks (by simpa using hcs)
    refine calls_of_W [.tmp 8] Try.func105 rfl Try.ntmps105 Try.results105 (by simp) fun e he => ?_
    have e0 : e 0 = ptr m := he 0 _ rfl
    have e1 : e 1 = .pointer (some ⟨pc, po, none⟩) := he 1 _ rfl
    have e2 : e 2 = iv := he 2 _ rfl
    have e3 : e 3 = .bool mu := he 3 _ rfl
    clear he
    refine W_sq fun K hK => (W_text [true] (by kernel_rfl) ?_); simp only [↓List.toList_toArray, ↓rgd, ↓rgf, ↓reduceIte, Nat.reduceEqDiff, rg, ow_105]
    refine hK _ _ ?_; clear hK K
    refine W_sq fun K hK => (W_text [true, true, true, false, true] (by kernel_rfl) ?_); simp only [↓List.toList_toArray, ↓rgd, ↓rgf, ↓reduceIte, Nat.reduceEqDiff, rg, ow_105, e0, e1, e3]
    refine do_call fn_107 (by simp only [evt, evc, upd_eq, Nat.reduceEqDiff, ↓reduceIte, maT, maC, maN, isnN, isnS] <;> rfl) (isoLoad_any m pc po b mu iso w h0 hp ho.h0) ?_
    rintro _ w1 ⟨rfl, r1⟩
    refine ⟨trivial, ?_⟩
    simp only [↓List.toList_toArray, ↓rgd, ↓rgf, ↓reduceIte, Nat.reduceEqDiff, rg, ow_105]
    refine hK _ _ ?_; clear hK K
    have x1 : Ext noF w w1 := r1.ext
    have o1 := ho.ext x1 fun _ _ _ h => h
    have S1 := hS.ext x1
    refine W_seq ?_
    refine W_sq fun K hK => (W_text [true, false] (by kernel_rfl) ?_); simp only [↓List.toList_toArray, ↓rgd, ↓rgf, ↓reduceIte, Nat.reduceEqDiff, rg, ow_105]
    refine do_call fn_108 (by simp only [evt, evc, upd_eq, Nat.reduceEqDiff, ↓reduceIte, maT, maC, maN, isnN, isnS] <;> rfl) (leaf_any b (some ⟨bc, 0, none⟩) w1 o1.h3) ?_
    rintro _ w1' ⟨rfl, hw1⟩
    obtain rfl : w1 = w1' := hw1.symm
    refine ⟨trivial, ?_⟩
    simp only [↓List.toList_toArray, ↓rgd, ↓rgf, ↓reduceIte, Nat.reduceEqDiff, rg, ow_105]
    refine hK _ _ ?_; clear hK K
    refine W_false (by simp only [evt, evc, upd_eq, Nat.reduceEqDiff, ↓reduceIte, ntT, ntF] <;> rfl) (W_skip ?_)
    show W _ _ _ _ _ _
    refine W_seq (W_seq ?_)
    refine W_rg fun K hK => (W_text [true] (by kernel_rfl) ?_); simp only [↓List.toList_toArray, ↓rgd, ↓rgf, ↓reduceIte, Nat.reduceEqDiff, rg, ow_105]
    refine hK _ _ ?_; clear hK K
    refine W_block (W_loop (fun mm e w' => ∃ (i : Nat) (K' : List It), mm = ks.length - i ∧ i ≤ ks.length ∧ K ++ weave (cs.map Kid.xs) ks = K' ++ weave ((cs.map Kid.xs).drop i) (ks.drop i) ∧
        OutE E B (e 2) K' w' ∧ Ext (fun y _ => B ≤ y) w w' ∧ e 0 = ptr m ∧ e 3 = .bool mu ∧ e 9 = ptr b ∧ e 10 = .int .i64 i)
      ks.length ⟨0, K, by simp, by simp, by simp, ?_, x1.mono fun _ _ _ h => h.elim, ?_, ?_, ?_, ?_⟩ ?_)
    · simp only [upd_eq, Nat.reduceEqDiff, ↓reduceIte]; rw [e2]; exact S1
    · simp only [upd_eq, Nat.reduceEqDiff, ↓reduceIte]; exact e0
    · simp only [upd_eq, Nat.reduceEqDiff, ↓reduceIte]; exact e3
    · simp only [upd_eq, Nat.reduceEqDiff, ↓reduceIte]
    · simp only [upd_eq, Nat.reduceEqDiff, ↓reduceIte]; rfl
    · clear e0 e1 e2 e3 e S1 o1
      rintro mm e w' ⟨i, K', rfl, hi, hKe, hkv, X, e0, e3, e9, e10⟩
      have hKl := congrArg List.length hKe
      simp only [List.length_append] at hKl
      have o' := ho.ext X fun y o g => by have := hGo y o g; omega
      have k' := hk.ext X fun y o g => by have := hGk y o g; omega
      have hb2 := o'.h2
      have hb3 := o'.h3
      have hc0 := k'.c0
      have sX := X.size
      have h0' := X.rd h0 (by omega)
      have hci : ∀ i, i < cs.length → ∃ c, cs[i]? = some c ∧ rd w' ba (oa + i) = some (ptr c.b) := fun i hi => by
        refine ⟨cs[i], List.getElem?_eq_getElem hi, k'.row i _ ?_⟩
        rw [List.getElem?_map, List.getElem?_map, List.getElem?_eq_getElem hi]; rfl
      rw [List.length_map] at hc0
      have hba := hbaB (by intro h; rw [h] at hcs; simp at hcs)
      refine W_seq ?_
      by_cases hlt : i < ks.length
      · have ht := lt_tt i ks.length hlt
        refine W_sq fun K hK => (W_text [true, true, true, true, true, true, true] (by kernel_rfl) ?_); simp only [↓List.toList_toArray, ↓rgd, ↓rgf, ↓reduceIte, Nat.reduceEqDiff, rg, ow_105, e9, e10, ptr_eq, hb2, ht]
        refine hK _ _ ?_; clear hK K
        refine W_true (by simp only [evt, evc, upd_eq, Nat.reduceEqDiff, ↓reduceIte, ntT, ntF] <;> rfl) (W_skip ?_)
        show W _ _ _ _ _ _
        refine W_seq (W_block ?_)
        obtain ⟨c, hc, hcr⟩ := hci i (by omega)
        have hcm : c ∈ cs := List.mem_of_getElem? hc
        obtain ⟨x, hx⟩ : ∃ x, ks[i]? = some x := ⟨_, List.getElem?_eq_getElem hlt⟩
        have hlc : i < cs.length := by omega
        rw [weave_step (c := c.xs) (by rw [List.getElem?_map, hc]; rfl) hx] at hKe hKl
        simp only [List.length_append, List.length_cons] at hKl
        refine W_sq fun K hK => (W_text [true, true, true, true, true, true, true, true, true, true, true, false, true] (by kernel_rfl) ?_); simp only [↓List.toList_toArray, ↓rgd, ↓rgf, ↓reduceIte, Nat.reduceEqDiff, rg, ow_105, e0, e3, e9, e10, ptr_eq, hb3, hc0, hlc]
        refine do_call fn_105 (by simp only [evt, evc, upd_eq, Nat.reduceEqDiff, ↓reduceIte, maT, maC, maN, isnN, isnS] <;> rfl) (ih c.b mn ba (oa + i) c.xs c.F (e 2) K' _ ((hT c hcm).ext X fun y o g => by have := hGc c hcm y o g; omega) h0' hcr (hGc c hcm) hkv (by omega) (by omega) hba) ?_
        rintro iv2 w2 ⟨H2, X2⟩
        refine ⟨trivial, ?_⟩
        simp only [↓List.toList_toArray, ↓rgd, ↓rgf, ↓reduceIte, Nat.reduceEqDiff, rg, ow_105]
        refine hK _ _ ?_; clear hK K
        have s2 := X2.size
        have o2 := o'.ext X2 fun y o g => by have := hGo y o g; omega
        have hb2' := o2.h2
        have hk2 := it_at o2.row hx
        refine W_rg fun K hK => (W_text [true, true, true, true, true, true, true, true, false, false, true] (by kernel_rfl) ?_); simp only [↓List.toList_toArray, ↓rgd, ↓rgf, ↓reduceIte, Nat.reduceEqDiff, rg, ow_105, e9, e10, ptr_eq, hb2', hlt, hk2]
        refine do_bsl rfl (bs_it1 x) fun w3 n3 => ⟨trivial, ?_⟩
        simp only [↓List.toList_toArray, ↓rgd, ↓rgf, ↓reduceIte, Nat.reduceEqDiff, rg, ow_105]
        have H3 := H2.ext n3.ext
        have s3 := n3.size
        have z3 : SlV w3 2 (.slice (some ⟨w2.heap.size, 0, none⟩) 1 1) 1 (E.cel x) := ⟨rfl, .inr ⟨_, 0, 1, rfl, Nat.le_refl _, n3.row, n3.wok.R (Nat.le_refl _)⟩⟩
        refine do_append (by simp only [evt, evc, upd_eq, Nat.reduceEqDiff, ↓reduceIte, ntT, ntF] <;> rfl) (by simp only [evt, evc, upd_eq, Nat.reduceEqDiff, ↓reduceIte, ntT, ntF] <;> rfl) el_it rfl ni_25 H3.sl z3 (by simp; omega) (by decide) (E.one _) fun v4 w4 a4 => ⟨trivial, ?_⟩
        obtain ⟨H4, X4⟩ := H3.app a4 (by omega)
        simp only [↓List.toList_toArray, ↓rgd, ↓rgf, ↓reduceIte, Nat.reduceEqDiff, rg, ow_105]
        refine hK _ _ ?_; clear hK K
        have s4 := X4.size
        have X4' : Ext (fun y _ => B ≤ y) w2 w4 := (n3.ext.mono fun _ _ _ h => h.elim).tr X4
        show W _ _ _ _ _ _
        have q1 := wadd1 i (by omega)
        refine W_rg fun K hK => (W_text [true, true, true] (by kernel_rfl) ?_); simp only [↓List.toList_toArray, ↓rgd, ↓rgf, ↓reduceIte, Nat.reduceEqDiff, rg, ow_105, e10, q1]
        refine hK _ _ ?_; clear hK K
        refine ⟨_, ?_, i + 1, K' ++ c.xs ++ [x], rfl, hlt, ?_, ?_, (X.tr X2).tr X4', ?_, ?_, ?_, ?_⟩
        · omega
        · rw [hKe]; simp
        · simp only [upd_eq, Nat.reduceEqDiff, ↓reduceIte]; exact H4
        · simp only [upd_eq, Nat.reduceEqDiff, ↓reduceIte]; exact e0
        · simp only [upd_eq, Nat.reduceEqDiff, ↓reduceIte]; exact e3
        · simp only [upd_eq, Nat.reduceEqDiff, ↓reduceIte]; exact e9
        · simp only [upd_eq, Nat.reduceEqDiff, ↓reduceIte]
      · obtain rfl : i = ks.length := by omega
        have ht := lt_ff ks.length ks.length (by omega)
        refine W_sq fun K hK => (W_text [true, true, true, true, true, true, true] (by kernel_rfl) ?_); simp only [↓List.toList_toArray, ↓rgd, ↓rgf, ↓reduceIte, Nat.reduceEqDiff, rg, ow_105, e9, e10, ptr_eq, hb2, ht]
        refine hK _ _ ?_; clear hK K
        refine W_false (by simp only [evt, evc, upd_eq, Nat.reduceEqDiff, ↓reduceIte, ntT, ntF] <;> rfl) (W_exit ?_)
        simp only [andThen_exit, inBlk_exit, ↓reduceIte]
        show W _ _ _ _ _ _
        obtain ⟨c, hc, hcr⟩ := hci ks.length (by omega)
        have hcm : c ∈ cs := List.mem_of_getElem? hc
        rw [weave_last (c := c.xs) (by simpa using hcs) (by rw [List.getElem?_map, hc]; rfl)] at hKe hKl
        have hlc : cs.length - 1 < cs.length := by omega
        have hl1 : cs.length - 1 = ks.length := by omega
        have q1 := wsub1 cs.length (by omega) (by omega)
        have M1 : readsB (some (some [b, bc, ba])) b = true := by simp [readsB]
        have M2 : readsB (some (some [b, bc, ba])) bc = true := by simp [readsB]
        have M3 : readsB (some (some [b, bc, ba])) ba = true := by simp [readsB]
        refine W_sq fun K hK => (W_draw (some (some [b, bc, ba])) none [(0, 0, 0), (0, 1, 0), (0, 2, 0), (0, 3, 0), (0, 4, 0), (0, 5, 0), (0, 6, 0), (0, 7, 0), (0, 8, 0), (0, 9, 0), (0, 10, 0), (0, 11, 0), (0, 12, 0), (0, 13, 0), (0, 14, 0), (0, 15, 0), (0, 16, 0), (0, 17, 0), (1, 18, 0), (0, 19, 0)] mixed (by kernel_rfl) ?_); simp only [↓List.toList_toArray, ↓rgd, ↓rgf, ↓reduceIte, Nat.reduceEqDiff, rg, ow_105, e0, e3, e9, ptr_eq, hb3, hc0, q1, hlc, M1, M2, M3]
        rw [hl1]
        refine do_call fn_105 (by simp only [evt, evc, upd_eq, Nat.reduceEqDiff, ↓reduceIte, maT, maC, maN, isnN, isnS] <;> rfl) (ih c.b mn ba (oa + ks.length) c.xs c.F (e 2) K' _ ((hT c hcm).ext (X.tr (Ext.dr _ _ _)) fun y o g => by have := hGc c hcm y o g; omega) h0' hcr (hGc c hcm) (hkv.ext (Ext.dr _ _ _)) (by omega) (by rw [sz_dr]; omega) hba) ?_
        rintro iv2 w2 ⟨H2, X2⟩
        refine ⟨.inr (keeps_on X2 fun y hy => ?_), ?_⟩
        · rw [sz_dr]
          simp only [List.mem_cons, List.not_mem_nil, or_false] at hy
          rcases hy with rfl | rfl | rfl
          · exact ⟨wok_lt o'.wb, fun o g => by have := hGo _ 0 (.inl rfl); omega⟩
          · exact ⟨wok_lt k'.wc, fun o g => by have := hGk _ 0 (.inl rfl); omega⟩
          · exact ⟨wok_lt k'.wa, fun o g => by omega⟩
        simp only [↓List.toList_toArray, ↓rgd, ↓rgf, ↓reduceIte, Nat.reduceEqDiff, rg, ow_105]
        refine hK _ _ ?_; clear hK K
        refine W_ret ?_
        refine endQ_1 (by simp only [upd_eq, Nat.reduceEqDiff, ↓reduceIte] <;> rfl) ⟨?_, X.tr X2.od⟩
        rw [hKe]
        exact H2
set_option maxRecDepth 8000 in
theorem len_any (m : Nat) (n : Nat) (w : World) (h : rd w m 3 = some (.int .i64 n)) : CallK Try.prog 58 #[ptr m] w fun v w' => v = .int .i64 n ∧ w = w' := by
  refine calls_of_W [.tmp 2] Try.func58 rfl Try.ntmps58 Try.results58 (by simp) fun e he => ?_
  have e0 : e 0 = ptr m := he 0 _ rfl
  clear he
  refine W_sq fun K hK => (W_text [true] (by kernel_rfl) ?_); simp only [↓List.toList_toArray, ↓rgd, ↓rgf, ↓reduceIte, Nat.reduceEqDiff, rg, ow_58]
  refine hK _ _ ?_; clear hK K
  refine W_sq fun K hK => (W_text [true, true, true, true, true] (by kernel_rfl) ?_); simp only [↓List.toList_toArray, ↓rgd, ↓rgf, ↓reduceIte, Nat.reduceEqDiff, rg, ow_58, e0, ptr_eq, h]
  refine hK _ _ ?_; clear hK K
  exact W_ret (endQ_1 (by simp only [upd_eq, Nat.reduceEqDiff, ↓reduceIte] <;> rfl) ⟨rfl, rfl⟩)
set_option maxHeartbeats 400000 in
set_option maxRecDepth 8000 in
theorem items_any (B m d : Nat) (ord : List Int) (iso : Int) (xs : List It) (F : Nat → Nat → Prop) (mu : Bool) (w : World) (hM : TreeAt B ord w m d iso xs F) (hbig : xs.length ≤ 4294967295) :
    CallK Try.prog 82 #[ptr m, .bool mu] w fun v w' => OutE E w.heap.size v xs w' ∧ Ext noF w w' := by
  have hml := hM.mlt
  refine calls_of_W [.tmp 4] Try.func82 rfl Try.ntmps82 Try.results82 (by simp) fun e he => ?_
  have e0 : e 0 = ptr m := he 0 _ rfl
  have e1 : e 1 = .bool mu := he 1 _ rfl
  clear he
  refine W_sq fun K hK => (W_text [true] (by kernel_rfl) ?_); simp only [↓List.toList_toArray, ↓rgd, ↓rgf, ↓reduceIte, Nat.reduceEqDiff, rg, ow_82]
  refine hK _ _ ?_; clear hK K
  refine W_seq ?_
  refine W_sq fun K hK => (W_text [true, true, false] (by kernel_rfl) ?_); simp only [↓List.toList_toArray, ↓rgd, ↓rgf, ↓reduceIte, Nat.reduceEqDiff, rg, ow_82, e0, e1]
  refine do_call fn_83 (by simp only [evt, evc, upd_eq, Nat.reduceEqDiff, ↓reduceIte, maT, maC, maN, isnN, isnS] <;> rfl) (lock_any _ _ w) ?_
  rintro _ _ ⟨rfl, rfl⟩
  refine ⟨trivial, ?_⟩
  simp only [↓List.toList_toArray, ↓rgd, ↓rgf, ↓reduceIte, Nat.reduceEqDiff, rg, ow_82]
  refine hK _ _ ?_; clear hK K
  refine W_false (by simp only [evt, evc, upd_eq, Nat.reduceEqDiff, ↓reduceIte, ntT, ntF] <;> rfl) (W_skip ?_)
  show W _ _ _ _ _ _
  refine W_sq fun K hK => (W_text [true, false, false, true] (by kernel_rfl) ?_); simp only [↓List.toList_toArray, ↓rgd, ↓rgf, ↓reduceIte, Nat.reduceEqDiff, rg, ow_82, e0]
  refine do_call fn_58 (by simp only [evt, evc, upd_eq, Nat.reduceEqDiff, ↓reduceIte, maT, maC, maN, isnN, isnS] <;> rfl) (len_any m xs.length w hM.cnt) ?_
  rintro _ _ ⟨rfl, rfl⟩
  refine ⟨trivial, ?_⟩
  simp only [↓List.toList_toArray, ↓rgd, ↓rgf, ↓reduceIte, Nat.reduceEqDiff, rg, ow_82]
  refine do_make (n := 0) (c := xs.length) (by simp only [evt, evc, upd_eq, Nat.reduceEqDiff, ↓reduceIte, ntT, ntF] <;> rfl) (by simp only [evt, evc, upd_eq, Nat.reduceEqDiff, ↓reduceIte, ntT, ntF] <;> rfl) el_it rfl (by omega) (by omega) (by omega) fun w1 l1 hl1 n1 => ⟨trivial, ?_⟩
  simp only [↓List.toList_toArray, ↓rgd, ↓rgf, ↓reduceIte, Nat.reduceEqDiff, rg, ow_82]
  refine hK _ _ ?_; clear hK K
  have s1 := n1.size
  have hO : OutE E w.heap.size (.slice (some ⟨w.heap.size, 0, none⟩) 0 xs.length) [] w1 := by
    refine ⟨⟨rfl, .inr ⟨_, 0, _, rfl, Nat.zero_le _, Row.nil _ _ _, n1.wok.R (by rw [hl1, E_sz]; omega)⟩⟩, fun b o n c h => by cases h; exact Nat.le_refl _⟩
  have hM1 := hM.ext n1.ext
  refine W_seq ?_
  rcases hM1.root with ⟨rfl, hr⟩ | ⟨h, b, hr, ht⟩
  · refine W_sq fun K hK => (W_text [true, true, true, true, true] (by kernel_rfl) ?_); simp only [↓List.toList_toArray, ↓rgd, ↓rgf, ↓reduceIte, Nat.reduceEqDiff, rg, ow_82, e0, ptr_eq, hr]
    refine hK _ _ ?_; clear hK K
    refine W_false (by simp only [evt, evc, upd_eq, Nat.reduceEqDiff, ↓reduceIte, ntT, ntF] <;> rfl) (W_skip ?_)
    show W _ _ _ _ _ _
    refine W_sq fun K hK => (W_text [true, true] (by kernel_rfl) ?_); simp only [↓List.toList_toArray, ↓rgd, ↓rgf, ↓reduceIte, Nat.reduceEqDiff, rg, ow_82]
    refine hK _ _ ?_; clear hK K
    exact W_ret (endQ_1 (by simp only [upd_eq, Nat.reduceEqDiff, ↓reduceIte] <;> rfl) ⟨hO, n1.ext⟩)
  · refine W_sq fun K hK => (W_text [true, true, true, true, true] (by kernel_rfl) ?_); simp only [↓List.toList_toArray, ↓rgd, ↓rgf, ↓reduceIte, Nat.reduceEqDiff, rg, ow_82, e0, ptr_eq, hr]
    refine hK _ _ ?_; clear hK K
    refine W_true (by simp only [evt, evc, upd_eq, Nat.reduceEqDiff, ↓reduceIte, ntT, ntF] <;> rfl) ?_
    refine W_rg fun K hK => (W_text [true, true, true, true, true, true, false, true] (by kernel_rfl) ?_); simp only [↓List.toList_toArray, ↓rgd, ↓rgf, ↓reduceIte, Nat.reduceEqDiff, rg, ow_82, e0, e1, ptr_eq]
    refine do_call fn_105 (by simp only [evt, evc, upd_eq, Nat.reduceEqDiff, ↓reduceIte, maT, maC, maN, isnN, isnS] <;> rfl) (nodeItems_any m w.heap.size iso (d - 1) (2 * d - 1) hml mu h b 1 m 2 xs F _ [] w1 ht hM1.cfg.iso hr hM.lt hO (by simp; omega) (by omega) hml) ?_
    rintro v2 w2 ⟨hO2, X2⟩
    refine ⟨trivial, ?_⟩
    simp only [↓List.toList_toArray, ↓rgd, ↓rgf, ↓reduceIte, Nat.reduceEqDiff, rg, ow_82]
    refine hK _ _ ?_; clear hK K
    show W _ _ _ _ _ _
    refine W_sq fun K hK => (W_text [true, true] (by kernel_rfl) ?_); simp only [↓List.toList_toArray, ↓rgd, ↓rgf, ↓reduceIte, Nat.reduceEqDiff, rg, ow_82]
    refine hK _ _ ?_; clear hK K
    exact W_ret (endQ_1 (by simp only [upd_eq, Nat.reduceEqDiff, ↓reduceIte] <;> rfl) ⟨hO2, noF_of n1.ext X2 fun y o hy g => by omega⟩)
set_option maxRecDepth 8000 in
theorem itemsG_any (B m d : Nat) (ord : List Int) (iso : Int) (xs : List It) (F : Nat → Nat → Prop) (w : World) (hM : TreeAt B ord w m d iso xs F) (hbig : xs.length ≤ 4294967295) :
    CallK Try.prog 55 #[ptr m] w fun v w' => OutE E w.heap.size v xs w' ∧ Ext noF w w' := by
  refine calls_of_W [.tmp 2] Try.func55 rfl Try.ntmps55 Try.results55 (by simp) fun e he => ?_
  have e0 : e 0 = ptr m := he 0 _ rfl
  clear he
  refine W_sq fun K hK => (W_text [true] (by kernel_rfl) ?_); simp only [↓List.toList_toArray, ↓rgd, ↓rgf, ↓reduceIte, Nat.reduceEqDiff, rg, ow_55]
  refine hK _ _ ?_; clear hK K
  refine W_sq fun K hK => (W_text [true, false, true] (by kernel_rfl) ?_); simp only [↓List.toList_toArray, ↓rgd, ↓rgf, ↓reduceIte, Nat.reduceEqDiff, rg, ow_55, e0]
  refine do_call fn_82 (by simp only [evt, evc, upd_eq, Nat.reduceEqDiff, ↓reduceIte, maT, maC, maN, isnN, isnS] <;> rfl) (items_any B m d ord iso xs F false w hM hbig) ?_
  rintro v1 w1 h1
  refine ⟨trivial, ?_⟩
  simp only [↓List.toList_toArray, ↓rgd, ↓rgf, ↓reduceIte, Nat.reduceEqDiff, rg, ow_55]
  refine hK _ _ ?_; clear hK K
  exact W_ret (endQ_1 (by simp only [upd_eq, Nat.reduceEqDiff, ↓reduceIte] <;> rfl) h1)
end Go.Proofs.Ytdffddiaoheklaa
