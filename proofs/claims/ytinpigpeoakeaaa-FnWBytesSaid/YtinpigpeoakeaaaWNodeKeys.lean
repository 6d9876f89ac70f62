/-
  The keys of a tree. No condition.
-/
import Derived.Test.YtinpigpeoakeaaaWSpec
import Derived.Test.YtinpigpeoakeaaaHand
import Derived.Test.YtinpigpeoakeaaaNode
set_option linter.unusedSimpArgs false
set_option linter.unusedVariables false
namespace Go.Proofs.Ytinpigpeoakeaaa
open Go Go.Proofs
theorem take_snoc {α : Type} {l : List α} {i : Nat} {x : α} (h : l[i]? = some x) : l.take (i + 1) = l.take i ++ [x] := by rw [List.take_add_one, h]; rfl
set_option maxHeartbeats 1000000 in
set_option maxRecDepth 8000 in
theorem nodeKeys_any (B : Nat) (iso : Int) (mn mx : Nat) :
    ∀ (h b lo : Nat) (xs : List It) (F : Nat → Nat → Prop) (kv : Value) (K : List ByteArray) (w : World), Tr E iso mn mx h w lo b xs F → (∀ y o, F y o → y < B) → OutE Es B kv K w →
      K.length + xs.length ≤ 4294967295 → B ≤ w.heap.size →
    CallK Try.prog 42 #[ptr b, kv] w fun v w' => OutE Es B v (K ++ xs.map κ) w' ∧ Ext (fun y _ => B ≤ y) w w' := by
  intro h
  induction h with
  | zero =>
    intro b lo xs F kv K w ht hG hS hb1 hB
    obtain ⟨bi, oi, cap, ho, h1, h2, hF⟩ := ht
    have hGo : ∀ y o, ownF E b bi oi cap y o → y < B := fun y o g => hG y o ((hF y o).2 g)
    refine calls_of_W [.tmp 4] Try.func42 rfl Try.ntmps42 Try.results42 (by simp) fun e he => ?_
    have e0 : e 0 = ptr b := he 0 _ rfl
    have e1 : e 1 = kv := he 1 _ rfl
    clear he
    refine W_sq fun K0 hK => (W_text [true] (by kernel_rfl) ?_); simp only [↓List.toList_toArray, ↓rgd, ↓reduceIte, Nat.reduceEqDiff, rg, ow_42]
    refine hK _ _ ?_; clear hK K0
    refine W_seq ?_
    refine W_sq fun K0 hK => (W_text [true, false] (by kernel_rfl) ?_); simp only [↓List.toList_toArray, ↓rgd, ↓reduceIte, Nat.reduceEqDiff, rg, ow_42, e0]
    refine do_call fn_58 (by simp only [evt, evc, upd_eq, Nat.reduceEqDiff, ↓reduceIte, maT, maC, maN, isnN, isnS] <;> rfl) (leaf_any b none w ho.h3) ?_
    rintro _ w ⟨rfl, rfl⟩
    refine ⟨trivial, ?_⟩
    simp only [↓List.toList_toArray, ↓rgd, ↓reduceIte, Nat.reduceEqDiff, rg, ow_42]
    refine hK _ _ ?_; clear hK K0
    refine W_true (by simp only [evt, evc, upd_eq, Nat.reduceEqDiff, ↓reduceIte, ntT, ntF] <;> rfl) (W_seq ?_)
    refine W_sq fun K0 hK => (W_text [true] (by kernel_rfl) ?_); simp only [↓List.toList_toArray, ↓rgd, ↓reduceIte, Nat.reduceEqDiff, rg, ow_42]
    refine hK _ _ ?_; clear hK K0
    refine W_block (W_loop (fun mm e w' => ∃ (i : Nat), mm = xs.length - i ∧ i ≤ xs.length ∧ OutE Es B (e 1) (K ++ (xs.take i).map κ) w' ∧ Ext (fun y _ => B ≤ y) w w' ∧ e 0 = ptr b ∧ e 5 = .int .i64 i)
      xs.length ⟨0, by simp, by simp, ?_, Ext.refl _ _, ?_, ?_⟩ ?_)
    · simp only [upd_eq, Nat.reduceEqDiff, ↓reduceIte]; rw [e1]; simpa using hS
    · simp only [upd_eq, Nat.reduceEqDiff, ↓reduceIte]; exact e0
    · simp only [upd_eq, Nat.reduceEqDiff, ↓reduceIte]; rfl
    · clear e0 e1 e hS
      rintro mm e w' ⟨i, rfl, hi, hkv, X, e0, e5⟩
      have o' := ho.ext X fun y o h => by have := hGo y o h; omega
      have hb2 := o'.h2
      have sX := X.size
      refine W_seq ?_
      by_cases hlt : i < xs.length
      · have ht := lt_tt i xs.length hlt
        refine W_sq fun K0 hK => (W_text [true, true, true, true, true, true, true] (by kernel_rfl) ?_); simp only [↓List.toList_toArray, ↓rgd, ↓reduceIte, Nat.reduceEqDiff, rg, ow_42, e0, e5, ptr_eq, hb2, ht]
        refine hK _ _ ?_; clear hK K0
        refine W_true (by simp only [evt, evc, upd_eq, Nat.reduceEqDiff, ↓reduceIte, ntT, ntF] <;> rfl) (W_skip ?_)
        show W _ _ _ _ _ _
        refine W_seq (W_block ?_)
        obtain ⟨x, hx⟩ : ∃ x, xs[i]? = some x := ⟨_, List.getElem?_eq_getElem hlt⟩
        have hk := key_at o'.row hx
        have hlk : (xs.take i).length = i := by rw [List.length_take]; omega
        refine W_rg fun K0 hK => (W_text [true, true, true, true, true, true, true, true, true, false, false, true] (by kernel_rfl) ?_); simp only [↓List.toList_toArray, ↓rgd, ↓reduceIte, Nat.reduceEqDiff, rg, ow_42, e0, e5, ptr_eq, hb2, hlt, hk]
        refine do_bsl rfl (bs_s1 (κ x)) fun w3 n3 => ⟨trivial, ?_⟩
        simp only [↓List.toList_toArray, ↓rgd, ↓reduceIte, Nat.reduceEqDiff, rg, ow_42]
        have H3 := hkv.ext n3.ext
        have s3 := n3.size
        have z3 : SlV w3 1 (.slice (some ⟨w'.heap.size, 0, none⟩) 1 1) 1 (Es.cel (κ x)) := ⟨rfl, .inr ⟨_, 0, 1, rfl, Nat.le_refl _, n3.row, n3.wok.R (Nat.le_refl _)⟩⟩
        refine do_append (by simp only [evt, evc, upd_eq, Nat.reduceEqDiff, ↓reduceIte, ntT, ntF] <;> rfl) (by simp only [evt, evc, upd_eq, Nat.reduceEqDiff, ↓reduceIte, ntT, ntF] <;> rfl) el_s rfl ni_s H3.sl z3 (by simp; omega) (by decide) (Es.one _) fun v4 w4 a4 => ⟨trivial, ?_⟩
        obtain ⟨H4, X4⟩ := H3.app a4 (by omega)
        simp only [↓List.toList_toArray, ↓rgd, ↓reduceIte, Nat.reduceEqDiff, rg, ow_42]
        refine hK _ _ ?_; clear hK K0
        have X4' : Ext (fun y _ => B ≤ y) w' w4 := (n3.ext.mono fun _ _ _ h => h.elim).tr X4
        show W _ _ _ _ _ _
        have q1 := wadd1 i (by omega)
        refine W_rg fun K0 hK => (W_text [true, true, true] (by kernel_rfl) ?_); simp only [↓List.toList_toArray, ↓rgd, ↓reduceIte, Nat.reduceEqDiff, rg, ow_42, e5, q1]
        refine hK _ _ ?_; clear hK K0
        refine ⟨_, ?_, i + 1, rfl, hlt, ?_, X.tr X4', ?_, ?_⟩
        · omega
        · simp only [upd_eq, Nat.reduceEqDiff, ↓reduceIte]
          rw [take_snoc hx, List.map_append, ← List.append_assoc]
          exact H4
        · simp only [upd_eq, Nat.reduceEqDiff, ↓reduceIte]; exact e0
        · simp only [upd_eq, Nat.reduceEqDiff, ↓reduceIte]
      · obtain rfl : i = xs.length := by omega
        have ht := lt_ff xs.length xs.length (by omega)
        refine W_sq fun K0 hK => (W_text [true, true, true, true, true, true, true] (by kernel_rfl) ?_); simp only [↓List.toList_toArray, ↓rgd, ↓reduceIte, Nat.reduceEqDiff, rg, ow_42, e0, e5, ptr_eq, hb2, ht]
        refine hK _ _ ?_; clear hK K0
        refine W_false (by simp only [evt, evc, upd_eq, Nat.reduceEqDiff, ↓reduceIte, ntT, ntF] <;> rfl) (W_exit ?_)
        simp only [andThen_exit, inBlk_exit, ↓reduceIte]
        show W _ _ _ _ _ _
        refine W_sq fun K0 hK => (W_text [true, true] (by kernel_rfl) ?_); simp only [↓List.toList_toArray, ↓rgd, ↓reduceIte, Nat.reduceEqDiff, rg, ow_42]
        refine hK _ _ ?_; clear hK K0
        refine W_ret ?_
        simp only [andThen_ret]
        rw [List.take_length] at hkv
        exact endQ_1 (by simp only [upd_eq, Nat.reduceEqDiff, ↓reduceIte] <;> rfl) ⟨hkv, X⟩
  | succ h ih =>
    intro b lo xs F kv K w ht hG hS hb1 hB
    obtain ⟨bi, oi, cap, bc, ba, oa, capc, ks, cs, ho, hk, h1, h2, hcs, rfl, hT, hA, hF⟩ := ht
    have hGo : ∀ y o, ownF E b bi oi cap y o → y < B := fun y o g => hG y o ((hF y o).2 (.inl g))
    have hGk : ∀ y o, kidF bc ba oa capc y o → y < B := fun y o g => hG y o ((hF y o).2 (.inr (.inl g)))
    have hGc : ∀ c ∈ cs, ∀ y o, c.F y o → y < B := fun c hc y o g => hG y o ((hF y o).2 (.inr (.inr ⟨c, hc, g⟩)))
    have hwl := weave_length (cs.map Kid.xs) ks (by simpa using hcs)
    refine calls_of_W [.tmp 4] Try.func42 rfl Try.ntmps42 Try.results42 (by simp) fun e he => ?_
    have e0 : e 0 = ptr b := he 0 _ rfl
    have e1 : e 1 = kv := he 1 _ rfl
    clear he
    refine W_sq fun K0 hK => (W_text [true] (by kernel_rfl) ?_); simp only [↓List.toList_toArray, ↓rgd, ↓reduceIte, Nat.reduceEqDiff, rg, ow_42]
    refine hK _ _ ?_; clear hK K0
    refine W_seq ?_
    refine W_sq fun K0 hK => (W_text [true, false] (by kernel_rfl) ?_); simp only [↓List.toList_toArray, ↓rgd, ↓reduceIte, Nat.reduceEqDiff, rg, ow_42, e0]
    refine do_call fn_58 (by simp only [evt, evc, upd_eq, Nat.reduceEqDiff, ↓reduceIte, maT, maC, maN, isnN, isnS] <;> rfl) (leaf_any b (some ⟨bc, 0, none⟩) w ho.h3) ?_
    rintro _ w ⟨rfl, rfl⟩
    refine ⟨trivial, ?_⟩
    simp only [↓List.toList_toArray, ↓rgd, ↓reduceIte, Nat.reduceEqDiff, rg, ow_42]
    refine hK _ _ ?_; clear hK K0
    refine W_false (by simp only [evt, evc, upd_eq, Nat.reduceEqDiff, ↓reduceIte, ntT, ntF] <;> rfl) (W_skip ?_)
    show W _ _ _ _ _ _
    refine W_seq (W_seq ?_)
    refine W_rg fun K0 hK => (W_text [true] (by kernel_rfl) ?_); simp only [↓List.toList_toArray, ↓rgd, ↓reduceIte, Nat.reduceEqDiff, rg, ow_42]
    refine hK _ _ ?_; clear hK K0
    show W _ _ _ _ _ _
    refine W_block (W_loop (fun mm e w' => ∃ (i : Nat) (K' : List ByteArray), mm = ks.length - i ∧ i ≤ ks.length ∧ K ++ (weave (cs.map Kid.xs) ks).map κ = K' ++ (weave ((cs.map Kid.xs).drop i) (ks.drop i)).map κ ∧
        OutE Es B (e 1) K' w' ∧ Ext (fun y _ => B ≤ y) w w' ∧ e 0 = ptr b ∧ e 6 = .int .i64 i)
      ks.length ⟨0, K, by simp, by simp, by simp, ?_, Ext.refl _ _, ?_, ?_⟩ ?_)
    · simp only [upd_eq, Nat.reduceEqDiff, ↓reduceIte]; rw [e1]; exact hS
    · simp only [upd_eq, Nat.reduceEqDiff, ↓reduceIte]; exact e0
    · simp only [upd_eq, Nat.reduceEqDiff, ↓reduceIte]; rfl
    · clear e0 e1 e hS
      rintro mm e w' ⟨i, K', rfl, hi, hKe, hkv, X, e0, e6⟩
      have hKl := congrArg List.length hKe
      simp only [List.length_append, List.length_map] at hKl
      have o' := ho.ext X fun y o g => by have := hGo y o g; omega
      have k' := hk.ext X fun y o g => by have := hGk y o g; omega
      have hb2 := o'.h2
      have hb3 := o'.h3
      have hc0 := k'.c0
      have sX := X.size
      have hci : ∀ i, i < cs.length → ∃ c, cs[i]? = some c ∧ rd w' ba (oa + i) = some (ptr c.b) := fun i hi => by
        refine ⟨cs[i], List.getElem?_eq_getElem hi, k'.row i _ ?_⟩
        rw [List.getElem?_map, List.getElem?_map, List.getElem?_eq_getElem hi]; rfl
      rw [List.length_map] at hc0
      refine W_seq ?_
      by_cases hlt : i < ks.length
      · have ht := lt_tt i ks.length hlt
        refine W_sq fun K0 hK => (W_text [true, true, true, true, true, true, true] (by kernel_rfl) ?_); simp only [↓List.toList_toArray, ↓rgd, ↓reduceIte, Nat.reduceEqDiff, rg, ow_42, e0, e6, ptr_eq, hb2, ht]
        refine hK _ _ ?_; clear hK K0
        refine W_true (by simp only [evt, evc, upd_eq, Nat.reduceEqDiff, ↓reduceIte, ntT, ntF] <;> rfl) (W_skip ?_)
        show W _ _ _ _ _ _
        refine W_seq (W_block ?_)
        obtain ⟨c, hc, hcr⟩ := hci i (by omega)
        have hcm : c ∈ cs := List.mem_of_getElem? hc
        obtain ⟨x, hx⟩ : ∃ x, ks[i]? = some x := ⟨_, List.getElem?_eq_getElem hlt⟩
        have hlc : i < cs.length := by omega
        rw [weave_step (c := c.xs) (by rw [List.getElem?_map, hc]; rfl) hx] at hKe hKl
        simp only [List.length_append, List.length_cons] at hKl
        refine W_sq fun K0 hK => (W_text [true, true, true, true, true, true, true, true, true, true, false, true] (by kernel_rfl) ?_); simp only [↓List.toList_toArray, ↓rgd, ↓reduceIte, Nat.reduceEqDiff, rg, ow_42, e0, e6, ptr_eq, hb3, hc0, hlc, hcr]
        refine do_call fn_42 (by simp only [evt, evc, upd_eq, Nat.reduceEqDiff, ↓reduceIte, maT, maC, maN, isnN, isnS] <;> rfl) (ih c.b mn c.xs c.F (e 1) K' _ ((hT c hcm).ext X fun y o g => by have := hGc c hcm y o g; omega) (hGc c hcm) hkv (by omega) (by omega)) ?_
        rintro kv2 w2 ⟨H2, X2⟩
        refine ⟨trivial, ?_⟩
        simp only [↓List.toList_toArray, ↓rgd, ↓reduceIte, Nat.reduceEqDiff, rg, ow_42]
        refine hK _ _ ?_; clear hK K0
        have s2 := X2.size
        have o2 := o'.ext X2 fun y o g => by have := hGo y o g; omega
        have hb2' := o2.h2
        have hk2 := key_at o2.row hx
        refine W_rg fun K0 hK => (W_text [true, true, true, true, true, true, true, true, true, false, false, true] (by kernel_rfl) ?_); simp only [↓List.toList_toArray, ↓rgd, ↓reduceIte, Nat.reduceEqDiff, rg, ow_42, e0, e6, ptr_eq, hb2', hlt, hk2]
        refine do_bsl rfl (bs_s1 (κ x)) fun w3 n3 => ⟨trivial, ?_⟩
        simp only [↓List.toList_toArray, ↓rgd, ↓reduceIte, Nat.reduceEqDiff, rg, ow_42]
        have H3 := H2.ext n3.ext
        have s3 := n3.size
        have z3 : SlV w3 1 (.slice (some ⟨w2.heap.size, 0, none⟩) 1 1) 1 (Es.cel (κ x)) := ⟨rfl, .inr ⟨_, 0, 1, rfl, Nat.le_refl _, n3.row, n3.wok.R (Nat.le_refl _)⟩⟩
        refine do_append (by simp only [evt, evc, upd_eq, Nat.reduceEqDiff, ↓reduceIte, ntT, ntF] <;> rfl) (by simp only [evt, evc, upd_eq, Nat.reduceEqDiff, ↓reduceIte, ntT, ntF] <;> rfl) el_s rfl ni_s H3.sl z3 (by simp; omega) (by decide) (Es.one _) fun v4 w4 a4 => ⟨trivial, ?_⟩
        obtain ⟨H4, X4⟩ := H3.app a4 (by omega)
        simp only [↓List.toList_toArray, ↓rgd, ↓reduceIte, Nat.reduceEqDiff, rg, ow_42]
        refine hK _ _ ?_; clear hK K0
        have X4' : Ext (fun y _ => B ≤ y) w2 w4 := (n3.ext.mono fun _ _ _ h => h.elim).tr X4
        show W _ _ _ _ _ _
        have q1 := wadd1 i (by omega)
        refine W_rg fun K0 hK => (W_text [true, true, true] (by kernel_rfl) ?_); simp only [↓List.toList_toArray, ↓rgd, ↓reduceIte, Nat.reduceEqDiff, rg, ow_42, e6, q1]
        refine hK _ _ ?_; clear hK K0
        refine ⟨_, ?_, i + 1, K' ++ c.xs.map κ ++ [κ x], rfl, hlt, ?_, ?_, (X.tr X2).tr X4', ?_, ?_⟩
        · omega
        · rw [hKe]; simp
        · simp only [upd_eq, Nat.reduceEqDiff, ↓reduceIte]; exact H4
        · simp only [upd_eq, Nat.reduceEqDiff, ↓reduceIte]; exact e0
        · simp only [upd_eq, Nat.reduceEqDiff, ↓reduceIte]
      · obtain rfl : i = ks.length := by omega
        have ht := lt_ff ks.length ks.length (by omega)
        refine W_sq fun K0 hK => (W_text [true, true, true, true, true, true, true] (by kernel_rfl) ?_); simp only [↓List.toList_toArray, ↓rgd, ↓reduceIte, Nat.reduceEqDiff, rg, ow_42, e0, e6, ptr_eq, hb2, ht]
        refine hK _ _ ?_; clear hK K0
        refine W_false (by simp only [evt, evc, upd_eq, Nat.reduceEqDiff, ↓reduceIte, ntT, ntF] <;> rfl) (W_exit ?_)
        simp only [andThen_exit, inBlk_exit, andThen_normal, Nat.reduceEqDiff, ↓reduceIte]
        obtain ⟨c, hc, hcr⟩ := hci ks.length (by omega)
        have hcm : c ∈ cs := List.mem_of_getElem? hc
        rw [weave_last (c := c.xs) (by simpa using hcs) (by rw [List.getElem?_map, hc]; rfl)] at hKe hKl
        have hlc : cs.length - 1 < cs.length := by omega
        have hl1 : cs.length - 1 = ks.length := by omega
        have q1 := wsub1 cs.length (by omega) (by omega)
        rw [← hl1] at hcr
        have M1 : readsB (some (some [b, bc, ba])) b = true := by simp [readsB]
        have M2 : readsB (some (some [b, bc, ba])) bc = true := by simp [readsB]
        have M3 : readsB (some (some [b, bc, ba])) ba = true := by simp [readsB]
        refine W_sq fun K0 hK => (W_draw (some (some [b, bc, ba])) none [(0, 0, 0), (0, 1, 0), (0, 2, 0), (0, 3, 0), (0, 4, 0), (0, 5, 0), (0, 6, 0), (0, 7, 0), (0, 8, 0), (0, 9, 0), (0, 10, 0), (0, 11, 0), (0, 12, 0), (0, 13, 0), (0, 14, 0), (0, 15, 0), (0, 16, 0), (1, 17, 0), (0, 18, 0)] mixed (by kernel_rfl) ?_); simp only [↓List.toList_toArray, ↓rgd, ↓reduceIte, Nat.reduceEqDiff, rg, ow_42, e0, ptr_eq, hb3, hc0, q1, hlc, hcr, M1, M2, M3]
        refine do_call fn_42 (by simp only [evt, evc, upd_eq, Nat.reduceEqDiff, ↓reduceIte, maT, maC, maN, isnN, isnS] <;> rfl) (ih c.b mn c.xs c.F (e 1) K' _ ((hT c hcm).ext (X.tr (Ext.dr _ _ _)) fun y o g => by have := hGc c hcm y o g; omega) (hGc c hcm) (hkv.ext (Ext.dr _ _ _)) (by omega) (by rw [sz_dr]; omega)) ?_
        rintro kv2 w2 ⟨H2, X2⟩
        refine ⟨.inr (keeps_on X2 fun y hy => ?_), ?_⟩
        · rw [sz_dr]
          simp only [List.mem_cons, List.not_mem_nil, or_false] at hy
          rcases hy with rfl | rfl | rfl
          · exact ⟨wok_lt o'.wb, fun o g => by have := hGo _ 0 (.inl rfl); omega⟩
          · exact ⟨wok_lt k'.wc, fun o g => by have := hGk _ 0 (.inl rfl); omega⟩
          · exact ⟨wok_lt k'.wa, fun o g => by have := hGk _ oa (.inr ⟨rfl, by omega, by have := k'.le; rw [List.length_map] at this; omega⟩); omega⟩
        simp only [↓List.toList_toArray, ↓rgd, ↓reduceIte, Nat.reduceEqDiff, rg, ow_42]
        refine hK _ _ ?_; clear hK K0
        refine W_ret ?_
        refine endQ_1 (by simp only [upd_eq, Nat.reduceEqDiff, ↓reduceIte] <;> rfl) ⟨?_, X.tr X2.od⟩
        rw [hKe]
        exact H2
end Go.Proofs.Ytinpigpeoakeaaa
