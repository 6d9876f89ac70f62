/-
  The law on Clear. No condition.
-/
import Derived.Test.YthonmbkjbgkfaaaMReps
import Derived.Test.YthonmbkjbgkfaaaMLen
set_option linter.unusedSimpArgs false
set_option linter.unusedVariables false
namespace Go.Proofs.Ythonmbkjbgkfaaa
open Go Go.Proofs
set_option maxHeartbeats 400000 in
set_option maxRecDepth 8000 in
theorem clear_any (m d : Nat) (iso : Int) (xs : List It) (F : Nat → Nat → Prop) (w : World) (hM : MapAt w m d iso xs F) :
    CallK Try.prog 57 #[ptr m] w fun _ w' => MapAt w' m d iso [] noF ∧ Ext (fun y _ => y = m) w w' ∧ w'.heap.size = w.heap.size := by
  refine calls_of_W [] Try.func57 rfl Try.ntmps57 Try.results57 (by simp) fun e he => ?_
  have e0 : e 0 = ptr m := he 0 _ rfl
  clear he
  refine W_sq fun K hK => (W_text [true, true, true, false] (by kernel_rfl) ?_); simp only [↓List.toList_toArray, ↓rgd, ↓reduceIte, Nat.reduceEqDiff, rg, ow_57, e0, ptr_eq]
  refine do_store (by simp only [evt, evc, upd_eq, Nat.reduceEqDiff, ↓reduceIte, ntT, ntF] <;> rfl) (by simp only [evt, evc, upd_eq, Nat.reduceEqDiff, ↓reduceIte, ntT, ntF] <;> rfl) sz_3 rfl hM.cfg.wok (by decide) (oc_one rfl rfl) fun w1 x1 r1 s1 => ⟨trivial, ?_⟩
  simp only [↓List.toList_toArray, ↓rgd, ↓reduceIte, Nat.reduceEqDiff, rg, ow_57]
  refine hK _ _ ?_; clear hK K
  refine W_rg fun K hK => (W_text [true, true, true, false] (by kernel_rfl) ?_); simp only [↓List.toList_toArray, ↓rgd, ↓reduceIte, Nat.reduceEqDiff, rg, ow_57, e0, ptr_eq]
  refine do_store (by simp only [evt, evc, upd_eq, Nat.reduceEqDiff, ↓reduceIte, ntT, ntF] <;> rfl) (by simp only [evt, evc, upd_eq, Nat.reduceEqDiff, ↓reduceIte, ntT, ntF] <;> rfl) sz_88 rfl (x1.wok hM.cfg.wok) (by decide) (oc_one rfl rfl) fun w2 x2 r2 s2 => ⟨trivial, ?_⟩
  simp only [↓List.toList_toArray, ↓rgd, ↓reduceIte, Nat.reduceEqDiff, rg, ow_57]
  refine hK _ _ ?_; clear hK K
  have c2 := (hM.cfg.ext x1 fun o h2 h3 g => by simp only [rng] at g; omega).ext x2 fun o h2 h3 g => by simp only [rng] at g; omega
  refine endQ_0n ⟨⟨c2, x2.rd (Row.cons.1 r1).1 (by simp only [rng]; omega), List.Pairwise.nil, .inl ⟨rfl, (Row.cons.1 r2).1⟩, fun _ h => h, fun _ _ h => h.elim⟩, ?_, by omega⟩
  exact (x1.mono (G := fun y _ => y = m) fun y o _ g => g.1).tr (x2.mono fun y o _ g => g.1)
set_option maxHeartbeats 2000000 in
set_option maxRecDepth 8000 in
theorem impl_clear (d : Nat) (hd : 2 ≤ d) (hd' : d ≤ 128) (l : List It) (lv : Value) (ks : List It) (kv : Value) (w : World) (hl : SlI w lv l) (hk0 : SlI w kv ks) (hbig : l.length ≤ 2147483647) (hkb : ks.length ≤ 2147483647) :
    CallK Try.prog 39 #[.int .i64 d, lv, kv] w fun v w' => ∃ rv tv, v = .tuple #[.int .i64 0, rv, tv] ∧ SlV w' 3 rv (reps ks).length (flat Ef (reps ks)) ∧ SlI w' tv (tree ks) ∧ Ext noF w w' := by
  obtain ⟨a, c, hkv⟩ := hk0.shape
  refine calls_of_W [.tmp 6, .tmp 7, .tmp 8] Try.func39 rfl Try.ntmps39 Try.results39 (by simp) fun e he => ?_
  have e0 : e 0 = .int .i64 d := he 0 _ rfl
  have e1 : e 1 = lv := he 1 _ rfl
  have e2 : e 2 = .slice a ks.length c := by rw [← hkv]; exact he 2 _ rfl
  clear he
  refine W_sq fun K hK => (W_text [true, true, true] (by kernel_rfl) ?_); simp only [↓List.toList_toArray, ↓rgd, ↓reduceIte, Nat.reduceEqDiff, rg, ow_39]
  refine hK _ _ ?_; clear hK K
  refine W_sq fun K hK => (W_text [true, true, false, true] (by kernel_rfl) ?_); simp only [↓List.toList_toArray, ↓rgd, ↓reduceIte, Nat.reduceEqDiff, rg, ow_39, e0, e1]
  refine do_call fn_46 (by simp only [evt, evc, upd_eq, Nat.reduceEqDiff, ↓reduceIte, maT, maC, maN, isnN, isnS] <;> rfl) (grow_any d hd hd' l lv w hl hbig) ?_
  rintro _ w1 ⟨X1, m, F1, rfl, hM1, hm, hF1⟩
  refine ⟨trivial, ?_⟩
  simp only [↓List.toList_toArray, ↓rgd, ↓reduceIte, Nat.reduceEqDiff, rg, ow_39]
  refine hK _ _ ?_; clear hK K
  refine W_sq fun K hK => (W_text [true, false] (by kernel_rfl) ?_); simp only [↓List.toList_toArray, ↓rgd, ↓reduceIte, Nat.reduceEqDiff, rg, ow_39]
  refine do_call fn_57 (by simp only [evt, evc, upd_eq, Nat.reduceEqDiff, ↓reduceIte, maT, maC, maN, isnN, isnS] <;> rfl) (clear_any m d 0 (tree l) F1 w1 hM1) ?_
  rintro _ w2 ⟨hM2, X2, s2⟩
  refine ⟨trivial, ?_⟩
  simp only [↓List.toList_toArray, ↓rgd, ↓reduceIte, Nat.reduceEqDiff, rg, ow_39]
  refine hK _ _ ?_; clear hK K
  refine W_sq fun K hK => (W_text [true, false, true] (by kernel_rfl) ?_); simp only [↓List.toList_toArray, ↓rgd, ↓reduceIte, Nat.reduceEqDiff, rg, ow_39]
  refine do_call fn_47 (by simp only [evt, evc, upd_eq, Nat.reduceEqDiff, ↓reduceIte, maT, maC, maN, isnN, isnS] <;> rfl) (len_any m d 0 [] noF w2 hM2) ?_
  rintro _ w2 ⟨rfl, rfl⟩
  refine ⟨trivial, ?_⟩
  simp only [↓List.toList_toArray, ↓rgd, ↓reduceIte, Nat.reduceEqDiff, rg, ow_39]
  refine hK _ _ ?_; clear hK K
  refine W_sq fun K hK => (W_text [true] (by kernel_rfl) ?_); simp only [↓List.toList_toArray, ↓rgd, ↓reduceIte, Nat.reduceEqDiff, rg, ow_39]
  refine hK _ _ ?_; clear hK K
  have s1 := X1.size
  have Xw2 : Ext noF w w2 := noF_of X1 X2 fun y o hy h => by omega
  obtain ⟨w0, hw0⟩ : ∃ w0, w0 = w2 := ⟨_, rfl⟩
  obtain ⟨B, hB⟩ : ∃ B, B = w2.heap.size := ⟨_, rfl⟩
  have hks : SlI w0 kv ks := by rw [hw0]; exact hk0.ext0 Xw2
  have hkm : ∀ b o n c, kv = .slice (some ⟨b, o, none⟩) n c → b ≠ m := fun b o n c h => by have := hk0.lt h; omega
  have hkB : ∀ b o n c, kv = .slice (some ⟨b, o, none⟩) n c → b < B := fun b o n c h => by have := hk0.lt h; omega
  have hfill : Fill B m d 0 (.slice none 0 0) (tree (ks.take 0)) (reps (ks.take 0)) w0 := ⟨⟨noF, by rw [hw0]; exact hM2, fun _ _ h => h.elim, offB_nil _⟩, OutE.nil _ _ _, by rw [hB]; exact hM2.mlt, by rw [hB, hw0]; exact Nat.le_refl _⟩
  rw [← hw0]
  refine W_seq (W_seq ?_)
  refine W_rg fun K hK => (W_text [true, true, true] (by kernel_rfl) ?_); simp only [↓List.toList_toArray, ↓rgd, ↓reduceIte, Nat.reduceEqDiff, rg, ow_39, e2]
  refine hK _ _ ?_; clear hK K
  show W _ _ _ _ _ _
  refine W_block (W_loop (fun mm e w' => ∃ k : Nat, mm = ks.length - k ∧ k ≤ ks.length ∧ e 9 = ptr m ∧ e 23 = .slice a ks.length c ∧ e 24 = .int .i64 ks.length ∧ e 25 = .int .i64 k ∧ e 10 = .int .i64 0 ∧ Fill B m d 0 (e 11) (tree (ks.take k)) (reps (ks.take k)) w' ∧ Ext (fillF B m) w0 w')
    ks.length ⟨0, by simp, by simp, ?_, ?_, ?_, ?_, ?_, ?_, Ext.refl _ _⟩ ?_)
  · simp only [upd_eq, Nat.reduceEqDiff, ↓reduceIte]
  · simp only [upd_eq, Nat.reduceEqDiff, ↓reduceIte]
  · simp only [upd_eq, Nat.reduceEqDiff, ↓reduceIte]
  · simp only [upd_eq, Nat.reduceEqDiff, ↓reduceIte]; rfl
  · simp only [upd_eq, Nat.reduceEqDiff, ↓reduceIte]; rfl
  · simp only [upd_eq, Nat.reduceEqDiff, ↓reduceIte]; exact hfill
  · clear hfill e0 e1 e2 e
    rintro mm e w' ⟨k, rfl, hk, eM, eS, eL, eI, eZ, hfl, X⟩
    have sX := X.size
    have hmB := hfl.mB
    have hle := hfl.le
    obtain ⟨F, hM0, hF0, ho0⟩ := hfl.mp
    by_cases hlt : k < ks.length
    · have ht := lt_tt k ks.length hlt
      refine W_sq fun K hK => (W_text [true] (by kernel_rfl) ?_); simp only [↓List.toList_toArray, ↓rgd, ↓reduceIte, Nat.reduceEqDiff, rg, ow_39, eL, eI, ht]
      refine hK _ _ ?_; clear hK K
      refine W_seq (W_true (by simp only [evt, evc, upd_eq, Nat.reduceEqDiff, ↓reduceIte, ntT, ntF] <;> rfl) (W_skip ?_))
      show W _ _ _ _ _ _
      obtain ⟨x, hx⟩ : ∃ x, ks[k]? = some x := ⟨_, List.getElem?_eq_getElem hlt⟩
      obtain ⟨ib, io, rfl, row⟩ := hks.at hkv hlt
      have hibm := hkm _ _ _ _ hkv
      have hibl := hkB _ _ _ _ hkv
      have ixx := iV_at (X.row row fun _ _ h => by simp only [fillF] at h; omega) hx
      refine W_seq (W_block ?_)
      refine W_sq fun K hK => (W_text [true, true, false, false] (by kernel_rfl) ?_); simp only [↓List.toList_toArray, ↓rgd, ↓reduceIte, Nat.reduceEqDiff, rg, ow_39, eS, eI, hlt, ixx]
      refine do_alloc z_item fun w2 n2 => ⟨trivial, ?_⟩
      simp only [↓List.toList_toArray, ↓rgd, ↓reduceIte, Nat.reduceEqDiff, rg, ow_39]
      refine do_store (v := iV x) (by simp only [evt, evc, upd_eq, Nat.reduceEqDiff, ↓reduceIte, ntT, ntF] <;> rfl) (by simp only [evt, evc, upd_eq, Nat.reduceEqDiff, ↓reduceIte, ntT, ntF] <;> rfl) sz_36 rfl n2.wok (by decide) (Ei.one x) fun w3 x3 r3 s3 => ⟨trivial, ?_⟩
      simp only [↓List.toList_toArray, ↓rgd, ↓reduceIte, Nat.reduceEqDiff, rg, ow_39]
      refine hK _ _ ?_; clear hK K
      have s2 := n2.size
      have X3 : Ext noF w' w3 := noF_of n2.ext x3 fun y o hy h => by simp only [rng] at h; omega
      have rx : Row w3 w'.heap.size 0 [.int .i64 x.1, .int .i64 x.2] := r3
      have v0 := (Row.cons.1 rx).1
      have v1 := (Row.cons.1 (Row.cons.1 rx).2).1
      have hfl3 := hfl.ext X3
      have hM3 := hM0.ext X3
      have htl := tree_len (ks.take k)
      have htk : (ks.take k).length ≤ k := by rw [List.length_take]; omega
      refine W_sq fun K hK => (W_text [true, true, true, true, true, false, true, true, true, true, true] (by kernel_rfl) ?_); simp only [↓List.toList_toArray, ↓rgd, ↓reduceIte, Nat.reduceEqDiff, rg, ow_39, eM, v0, v1]
      refine do_call fn_58 (by simp only [evt, evc, upd_eq, Nat.reduceEqDiff, ↓reduceIte, maT, maC, maN, isnN, isnS] <;> rfl) (set_map m d 0 x hd hd' _ F w3 hM3 (by omega)) ?_
      rintro _ w4 ⟨rfl, x4, F', hM4, hF'⟩
      refine ⟨trivial, ?_⟩
      simp only [↓List.toList_toArray, ↓rgd, ↓reduceIte, Nat.reduceEqDiff, rg, ow_39]
      refine hK _ _ ?_; clear hK K
      obtain ⟨hfl4, X4⟩ := hfl3.set hM3 hF0 ho0 x4 hM4 hF'
      have v4 := x4.rd v0 fun h => by
        rcases h with h | h
        · have := hM0.lt _ _ h; omega
        · omega
      refine W_rg fun K hK => (W_text [true, true, true, true, true, false, false, false, true] (by kernel_rfl) ?_); simp only [↓List.toList_toArray, ↓rgd, ↓reduceIte, Nat.reduceEqDiff, rg, ow_39, v4]
      refine do_call fn_49 (by simp only [evt, evc, upd_eq, Nat.reduceEqDiff, ↓reduceIte, maT, maC, maN, isnN, isnS] <;> rfl) (pair_any _ _ _ w4) ?_
      rintro _ w5 ⟨rfl, X5⟩
      refine ⟨trivial, ?_⟩
      simp only [↓List.toList_toArray, ↓rgd, ↓reduceIte, Nat.reduceEqDiff, rg, ow_39]
      refine do_bsl rfl (bs_fo1 _) fun w6 n6 => ⟨trivial, ?_⟩
      simp only [↓List.toList_toArray, ↓rgd, ↓reduceIte, Nat.reduceEqDiff, rg, ow_39]
      have X6 := X5.tr n6.ext
      have s6 := X6.size
      have hrl : (reps (ks.take k)).length = k := by rw [reps_length, List.length_take]; omega
      have hx6 : SlV w6 3 (.slice (some ⟨w5.heap.size, 0, none⟩) 1 1) 1 (Ef.cel (foP (x.1, ((at? O κ (κ x) (tree (ks.take k))).getD zIt).2) (hit O κ (κ x) (tree (ks.take k))))) := ⟨rfl, .inr ⟨_, 0, 1, rfl, Nat.le_refl _, n6.row, n6.wok.R (Nat.le_refl _)⟩⟩
      have hfl6 := hfl4.ext X6
      refine do_append (by simp only [evt, evc, upd_eq, Nat.reduceEqDiff, ↓reduceIte, ntT, ntF] <;> rfl) (by simp only [evt, evc, upd_eq, Nat.reduceEqDiff, ↓reduceIte, ntT, ntF] <;> rfl) el_fo rfl ni_fo hfl6.out.sl hx6 (by omega) (by decide) (Ef.one _) fun v7 w7 a7 => ?_
      obtain ⟨hfl7, X7⟩ := hfl6.app a7
      refine ⟨trivial, ?_⟩
      simp only [↓List.toList_toArray, ↓rgd, ↓reduceIte, Nat.reduceEqDiff, rg, ow_39]
      refine hK _ _ ?_; clear hK K
      show W _ _ _ _ _ _
      have q1 := wadd1 k (by omega)
      refine W_rg fun K hK => (W_text [true, true] (by kernel_rfl) ?_); simp only [↓List.toList_toArray, ↓rgd, ↓reduceIte, Nat.reduceEqDiff, rg, ow_39, eI, q1]
      refine hK _ _ ?_; clear hK K
      rw [foP_at] at hfl7
      refine ⟨_, ?_, k + 1, rfl, hlt, ?_, ?_, ?_, ?_, ?_, ?_, (((X.tr (X3.mono fun _ _ _ h => h.elim)).tr X4).tr (X6.mono fun _ _ _ h => h.elim)).tr X7⟩
      · omega
      · simp only [upd_eq, Nat.reduceEqDiff, ↓reduceIte]; exact eM
      · simp only [upd_eq, Nat.reduceEqDiff, ↓reduceIte]; exact eS
      · simp only [upd_eq, Nat.reduceEqDiff, ↓reduceIte]; exact eL
      · simp only [upd_eq, Nat.reduceEqDiff, ↓reduceIte]
      · simp only [upd_eq, Nat.reduceEqDiff, ↓reduceIte]; exact eZ
      · simp only [upd_eq, Nat.reduceEqDiff, ↓reduceIte]; rw [reps_succ hx, tree_succ ks k x hx]; exact hfl7
    · obtain rfl : k = ks.length := by omega
      have ht := lt_ff ks.length ks.length (by omega)
      refine W_sq fun K hK => (W_text [true] (by kernel_rfl) ?_); simp only [↓List.toList_toArray, ↓rgd, ↓reduceIte, Nat.reduceEqDiff, rg, ow_39, eL, eI, ht]
      refine hK _ _ ?_; clear hK K
      refine W_seq (W_false (by simp only [evt, evc, upd_eq, Nat.reduceEqDiff, ↓reduceIte, ntT, ntF] <;> rfl) (W_exit ?_))
      simp only [andThen_exit, inBlk_exit, andThen_normal, ↓reduceIte]
      rw [List.take_length] at hfl hM0
      have htl := tree_len ks
      refine W_sq fun K hK => (W_text [true, true, true, false, true, true, true] (by kernel_rfl) ?_); simp only [↓List.toList_toArray, ↓rgd, ↓reduceIte, Nat.reduceEqDiff, rg, ow_39, eM]
      refine do_call fn_59 (by simp only [evt, evc, upd_eq, Nat.reduceEqDiff, ↓reduceIte, maT, maC, maN, isnN, isnS] <;> rfl) (entries_any m d 0 (tree ks) F w' hM0 (by omega)) ?_
      rintro ev8 w8 ⟨hE, X8⟩
      refine ⟨trivial, ?_⟩
      simp only [↓List.toList_toArray, ↓rgd, ↓reduceIte, Nat.reduceEqDiff, rg, ow_39]
      refine hK _ _ ?_; clear hK K
      refine W_ret (endQ_3 (by simp only [upd_eq, Nat.reduceEqDiff, ↓reduceIte] <;> rfl) (by simp only [upd_eq, Nat.reduceEqDiff, ↓reduceIte] <;> rfl) (by simp only [upd_eq, Nat.reduceEqDiff, ↓reduceIte] <;> rfl) ⟨_, _, ?_, hfl.out.sl.ext0 X8, hE, ?_⟩)
      · rw [eZ]
      · rw [hw0] at X
        refine (noF_of (noF_of X1 X2 fun y o hy h => by omega) X fun y o hy h => ?_).tr X8
        simp only [fillF] at h
        omega
set_option maxHeartbeats 400000 in
set_option maxRecDepth 8000 in
theorem gclear_nil (lv : Value) (ks : List It) (kv : Value) (w : World) (hk : SlI w kv ks) (hkb : ks.length ≤ 2147483647) :
    CallK Try.prog 40 #[mkV, lv, kv] w fun v w' => ∃ rv tv, v = .tuple #[.int .i64 0, rv, tv] ∧ SlV w' 3 rv (reps ks).length (flat Ef (reps ks)) ∧ SlI w' tv (tree ks) ∧ Ext noF w w' := by
  refine calls_of_W [.tmp 6, .tmp 7, .tmp 8] Try.func40 rfl Try.ntmps40 Try.results40 (by simp) fun e he => ?_
  have e0 : e 0 = mkV := he 0 _ rfl
  have e2 : e 2 = kv := he 2 _ rfl
  clear he
  refine W_sq fun K hK => (W_text [false, true, true, true] (by kernel_rfl) ?_); simp only [↓List.toList_toArray, ↓rgd, ↓reduceIte, Nat.reduceEqDiff, rg, ow_40]
  refine do_box (by simp only [evt]; exact e0) fun w1 n1 => ⟨trivial, ?_⟩
  simp only [↓List.toList_toArray, ↓rgd, ↓reduceIte, Nat.reduceEqDiff, rg, ow_40]
  refine hK _ _ ?_; clear hK K
  have l1 : rdA w1 w.heap.size 0 3 = some mkV := n1.row.rdA 3 (by show 3 ≤ 3; omega)
  refine W_sq fun K hK => (W_text [true, true, false, true, true, true, true, true] (by kernel_rfl) ?_); simp only [↓List.toList_toArray, ↓rgd, ↓reduceIte, Nat.reduceEqDiff, rg, ow_40, e2, l1]
  refine do_call fn_44 (by simp only [evt, evc, upd_eq, Nat.reduceEqDiff, ↓reduceIte, maT, maC, maN, isnN, isnS] <;> rfl) (gset_nil ks kv w1 (hk.ext0 n1.ext) hkb) ?_
  rintro _ w2 ⟨rv, tv, rfl, h1, h2, X2⟩
  refine ⟨trivial, ?_⟩
  simp only [↓List.toList_toArray, ↓rgd, ↓reduceIte, Nat.reduceEqDiff, rg, ow_40]
  refine hK _ _ ?_; clear hK K
  refine W_sq fun K hK => (W_text [true, true, true, true, true] (by kernel_rfl) ?_); simp only [↓List.toList_toArray, ↓rgd, ↓reduceIte, Nat.reduceEqDiff, rg, ow_40]
  refine hK _ _ ?_; clear hK K
  exact W_ret (endQ_3 (by simp only [upd_eq, Nat.reduceEqDiff, ↓reduceIte] <;> rfl) (by simp only [upd_eq, Nat.reduceEqDiff, ↓reduceIte] <;> rfl) (by simp only [upd_eq, Nat.reduceEqDiff, ↓reduceIte] <;> rfl) ⟨_, _, rfl, h1, h2, n1.ext.tr X2⟩)
def exK : List It := [(3, 0), (4, 0), (9, 1)]
theorem bu_itemK (a : Int) : buildV Try.prog 36 [(0, .int .i64 a)] = some (iV (a, 0)) := by kernel_rfl
theorem bs_exK : bsV Try.prog 22 3 [(0, iV (3, 0)), (1, iV (4, 0)), (2, iV (9, 1))] = some (36, flat Ei exK) := by kernel_rfl
set_option maxHeartbeats 400000 in
set_option maxRecDepth 8000 in
theorem exKeys_any (w : World) : CallK Try.prog 20 #[] w fun v w' => SlI w' v exK ∧ Ext noF w w' := by
  refine calls_of_W (args := []) [.tmp 0] Try.func20 rfl Try.ntmps20 Try.results20 (by simp) fun e he => ?_
  clear he
  refine W_sq fun K hK => (W_text [true] (by kernel_rfl) ?_); simp only [↓List.toList_toArray, ↓rgd, ↓reduceIte, Nat.reduceEqDiff, rg]
  refine hK _ _ ?_; clear hK K
  refine W_sq fun K hK => (W_text [true, true, true, false, true] (by kernel_rfl) ?_); simp only [↓List.toList_toArray, ↓rgd, ↓reduceIte, Nat.reduceEqDiff, rg, bu_item, bu_itemK]
  refine do_bsl rfl bs_exK fun w1 n1 => ⟨trivial, ?_⟩
  simp only [↓List.toList_toArray, ↓rgd, ↓reduceIte, Nat.reduceEqDiff, rg]
  refine hK _ _ ?_; clear hK K
  exact W_ret (endQ_1 (by simp only [upd_eq, Nat.reduceEqDiff, ↓reduceIte] <;> rfl) ⟨⟨rfl, .inr ⟨_, 0, 3, rfl, Nat.le_refl _, n1.row, n1.wok.R (Nat.le_refl _)⟩⟩, n1.ext⟩)
set_option maxHeartbeats 400000 in
set_option maxRecDepth 8000 in
theorem law_clear (d : Nat) (hd : 2 ≤ d) (hd' : d ≤ 128) (l : List It) (lv : Value) (ks : List It) (kv : Value) (w : World) (hl : SlI w lv l) (hk : SlI w kv ks) (hbig : l.length ≤ 2147483647) (hkb : ks.length ≤ 2147483647) :
    CallK Try.prog 19 #[.int .i64 d, lv, kv] w fun v w' => v = .bool true ∧ Ext noF w w' := by
  refine calls_of_W [.tmp 6] Try.func19 rfl Try.ntmps19 Try.results19 (by simp) fun e he => ?_
  have e0 : e 0 = .int .i64 d := he 0 _ rfl
  have e1 : e 1 = lv := he 1 _ rfl
  have e2 : e 2 = kv := he 2 _ rfl
  clear he
  have htl := tree_len ks
  have hrl := reps_length ks
  refine W_sq fun K hK => (W_text [true] (by kernel_rfl) ?_); simp only [↓List.toList_toArray, ↓rgd, ↓reduceIte, Nat.reduceEqDiff, rg, ow_19]
  refine hK _ _ ?_; clear hK K
  refine W_sq fun K hK => (W_text [true, true, true, false, true, true, true, true, true, true, true] (by kernel_rfl) ?_); simp only [↓List.toList_toArray, ↓rgd, ↓reduceIte, Nat.reduceEqDiff, rg, ow_19, e0, e1, e2]
  refine do_call fn_39 (by simp only [evt, evc, upd_eq, Nat.reduceEqDiff, ↓reduceIte, maT, maC, maN, isnN, isnS] <;> rfl) (impl_clear d hd hd' l lv ks kv w hl hk hbig hkb) ?_
  rintro _ w1 ⟨r1, t1, rfl, h1, g1, X1⟩
  refine ⟨trivial, ?_⟩
  simp only [↓List.toList_toArray, ↓rgd, ↓reduceIte, Nat.reduceEqDiff, rg, ow_19]
  refine hK _ _ ?_; clear hK K
  refine W_sq fun K hK => (W_text [true, true, true, false, true, true, true, true, true, true, true] (by kernel_rfl) ?_); simp only [↓List.toList_toArray, ↓rgd, ↓reduceIte, Nat.reduceEqDiff, rg, ow_19, e1, e2, bu_make]
  refine do_call fn_40 (by simp only [evt, evc, upd_eq, Nat.reduceEqDiff, ↓reduceIte, maT, maC, maN, isnN, isnS] <;> rfl) (gclear_nil lv ks kv w1 (hk.ext0 X1) hkb) ?_
  rintro _ w2 ⟨r2, t2, rfl, h2, g2, X2⟩
  refine ⟨trivial, ?_⟩
  simp only [↓List.toList_toArray, ↓rgd, ↓reduceIte, Nat.reduceEqDiff, rg, ow_19]
  refine hK _ _ ?_; clear hK K
  have t0 : ((0 : Int) == (0 : Int)) = true := by simp
  refine W_sq fun K hK => (W_text [true, true, true, true, true, true, false, true, true, true, true, false, true, true] (by kernel_rfl) ?_); simp only [↓List.toList_toArray, ↓rgd, ↓reduceIte, Nat.reduceEqDiff, rg, ow_19, t0]
  refine do_call fn_35 (by simp only [evt, evc, upd_eq, Nat.reduceEqDiff, ↓reduceIte, maT, maC, maN, isnN, isnS] <;> rfl) (eq_f _ r1 r2 w2 (h1.ext0 X2) h2 (by omega)) ?_
  rintro _ w3 ⟨rfl, y3⟩
  refine ⟨trivial, ?_⟩
  simp only [↓List.toList_toArray, ↓rgd, ↓reduceIte, Nat.reduceEqDiff, rg, ow_19]
  refine do_call fn_38 (by simp only [evt, evc, upd_eq, Nat.reduceEqDiff, ↓reduceIte, maT, maC, maN, isnN, isnS] <;> rfl) (eq_i _ t1 t2 w3 ((g1.ext0 X2).ext0 y3.ext) (g2.ext0 y3.ext) (by omega)) ?_
  rintro _ w4 ⟨rfl, y4⟩
  refine ⟨trivial, ?_⟩
  simp only [↓List.toList_toArray, ↓rgd, ↓reduceIte, Nat.reduceEqDiff, rg, ow_19]
  refine hK _ _ ?_; clear hK K
  exact W_ret (endQ_1 (by simp only [upd_eq, Nat.reduceEqDiff, ↓reduceIte] <;> rfl) ⟨rfl, ((X1.tr X2).tr y3.ext).tr y4.ext⟩)
end Go.Proofs.Ythonmbkjbgkfaaa
