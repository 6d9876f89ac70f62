/-
  The law on Load. No condition.
-/
import Derived.Test.YthonmbkjbgkfaaaMReps
import Derived.Test.YthonmbkjbgkfaaaMLoadW
set_option linter.unusedSimpArgs false
set_option linter.unusedVariables false
namespace Go.Proofs.Ythonmbkjbgkfaaa
open Go Go.Proofs
theorem MapAt.nil {w : World} {m d : Nat} {iso : Int} {F : Nat → Nat → Prop} (h : MapAt w m d iso [] F) : MapAt w m d iso [] noF :=
  ⟨h.cfg, h.cnt, h.asc, .inl (by
    rcases h.root with h | ⟨h', b, _, ht⟩
    · exact h
    · exact absurd (ht.pos (Nat.le_refl 1)) (by simp)), fun _ h => h, fun _ _ h => h.elim⟩
set_option maxHeartbeats 2000000 in
set_option maxRecDepth 8000 in
theorem impl_load (d : Nat) (hd : 2 ≤ d) (hd' : d ≤ 128) (ks : List It) (kv : Value) (w : World) (hk0 : SlI w kv ks) (hkb : ks.length ≤ 2147483647) :
    CallK Try.prog 43 #[.int .i64 d, kv] w fun v w' => ∃ rv tv, v = .tuple #[rv, tv] ∧ SlV w' 3 rv (reps ks).length (flat Ef (reps ks)) ∧ SlI w' tv (tree ks) ∧ Ext noF w w' := by
  obtain ⟨a, c, hkv⟩ := hk0.shape
  refine calls_of_W [.tmp 4, .tmp 5] Try.func43 rfl Try.ntmps43 Try.results43 (by simp) fun e he => ?_
  have e0 : e 0 = .int .i64 d := he 0 _ rfl
  have e1 : e 1 = .slice a ks.length c := by rw [← hkv]; exact he 1 _ rfl
  clear he
  refine W_sq fun K hK => (W_text [true, true] (by kernel_rfl) ?_); simp only [↓List.toList_toArray, ↓rgd, ↓reduceIte, Nat.reduceEqDiff, rg, ow_43]
  refine hK _ _ ?_; clear hK K
  refine W_sq fun K hK => (W_text [true, false, true] (by kernel_rfl) ?_); simp only [↓List.toList_toArray, ↓rgd, ↓reduceIte, Nat.reduceEqDiff, rg, ow_43, e0]
  refine do_call fn_46 (by simp only [evt, evc, upd_eq, Nat.reduceEqDiff, ↓reduceIte, maT, maC, maN, isnN, isnS] <;> rfl) (grow_any d hd hd' [] (.slice none 0 0) w ⟨rfl, .inl ⟨rfl, rfl⟩⟩ (by decide)) ?_
  rintro _ w1 ⟨X1, m, F1, rfl, hM2, hm, hF1⟩
  refine ⟨trivial, ?_⟩
  simp only [↓List.toList_toArray, ↓rgd, ↓reduceIte, Nat.reduceEqDiff, rg, ow_43]
  refine hK _ _ ?_; clear hK K
  refine W_sq fun K hK => (W_text [true] (by kernel_rfl) ?_); simp only [↓List.toList_toArray, ↓rgd, ↓reduceIte, Nat.reduceEqDiff, rg, ow_43]
  refine hK _ _ ?_; clear hK K
  obtain ⟨w0, hw0⟩ : ∃ w0, w0 = w1 := ⟨_, rfl⟩
  obtain ⟨B, hB⟩ : ∃ B, B = w1.heap.size := ⟨_, rfl⟩
  have hks : SlI w0 kv ks := by rw [hw0]; exact hk0.ext0 X1
  have hkm : ∀ b o n c, kv = .slice (some ⟨b, o, none⟩) n c → b ≠ m := fun b o n c h => by have := hk0.lt h; omega
  have hkB : ∀ b o n c, kv = .slice (some ⟨b, o, none⟩) n c → b < B := fun b o n c h => by have := hk0.lt h; have := X1.size; omega
  have hfill : Fill B m d 0 (.slice none 0 0) (tree (ks.take 0)) (reps (ks.take 0)) w0 := ⟨⟨noF, by rw [hw0]; exact hM2.nil, fun _ _ h => h.elim, offB_nil _⟩, OutE.nil _ _ _, by rw [hB]; exact hM2.mlt, by rw [hB, hw0]; exact Nat.le_refl _⟩
  rw [← hw0]
  refine W_seq (W_seq ?_)
  refine W_rg fun K hK => (W_text [true, true, true] (by kernel_rfl) ?_); simp only [↓List.toList_toArray, ↓rgd, ↓reduceIte, Nat.reduceEqDiff, rg, ow_43, e1]
  refine hK _ _ ?_; clear hK K
  show W _ _ _ _ _ _
  refine W_block (W_loop (fun mm e w' => ∃ k : Nat, mm = ks.length - k ∧ k ≤ ks.length ∧ e 6 = ptr m ∧ e 14 = .slice a ks.length c ∧ e 15 = .int .i64 ks.length ∧ e 16 = .int .i64 k ∧  Fill B m d 0 (e 7) (tree (ks.take k)) (reps (ks.take k)) w' ∧ Ext (fillF B m) w0 w')
    ks.length ⟨0, by simp, by simp, ?_, ?_, ?_, ?_, ?_, Ext.refl _ _⟩ ?_)
  · simp only [upd_eq, Nat.reduceEqDiff, ↓reduceIte]
  · simp only [upd_eq, Nat.reduceEqDiff, ↓reduceIte]
  · simp only [upd_eq, Nat.reduceEqDiff, ↓reduceIte]
  · simp only [upd_eq, Nat.reduceEqDiff, ↓reduceIte]; rfl
  · simp only [upd_eq, Nat.reduceEqDiff, ↓reduceIte]; exact hfill
  · clear hfill e0 e1 e
    rintro mm e w' ⟨k, rfl, hk, eM, eS, eL, eI,  hfl, X⟩
    have sX := X.size
    have hmB := hfl.mB
    have hle := hfl.le
    obtain ⟨F, hM0, hF0, ho0⟩ := hfl.mp
    by_cases hlt : k < ks.length
    · have ht := lt_tt k ks.length hlt
      refine W_sq fun K hK => (W_text [true] (by kernel_rfl) ?_); simp only [↓List.toList_toArray, ↓rgd, ↓reduceIte, Nat.reduceEqDiff, rg, ow_43, eL, eI, ht]
      refine hK _ _ ?_; clear hK K
      refine W_seq (W_true (by simp only [evt, evc, upd_eq, Nat.reduceEqDiff, ↓reduceIte, ntT, ntF] <;> rfl) (W_skip ?_))
      show W _ _ _ _ _ _
      obtain ⟨x, hx⟩ : ∃ x, ks[k]? = some x := ⟨_, List.getElem?_eq_getElem hlt⟩
      obtain ⟨ib, io, rfl, row⟩ := hks.at hkv hlt
      have hibm := hkm _ _ _ _ hkv
      have hibl := hkB _ _ _ _ hkv
      have ixx := iV_at (X.row row fun _ _ h => by simp only [fillF] at h; omega) hx
      refine W_seq (W_block ?_)
      refine W_sq fun K hK => (W_text [true, true, false, false] (by kernel_rfl) ?_); simp only [↓List.toList_toArray, ↓rgd, ↓reduceIte, Nat.reduceEqDiff, rg, ow_43, eS, eI, hlt, ixx]
      refine do_alloc z_item fun w2 n2 => ⟨trivial, ?_⟩
      simp only [↓List.toList_toArray, ↓rgd, ↓reduceIte, Nat.reduceEqDiff, rg, ow_43]
      refine do_store (v := iV x) (by simp only [evt, evc, upd_eq, Nat.reduceEqDiff, ↓reduceIte, ntT, ntF] <;> rfl) (by simp only [evt, evc, upd_eq, Nat.reduceEqDiff, ↓reduceIte, ntT, ntF] <;> rfl) sz_36 rfl n2.wok (by decide) (Ei.one x) fun w3 x3 r3 s3 => ⟨trivial, ?_⟩
      simp only [↓List.toList_toArray, ↓rgd, ↓reduceIte, Nat.reduceEqDiff, rg, ow_43]
      refine hK _ _ ?_; clear hK K
      have s2 := n2.size
      have X3 : Ext noF w' w3 := noF_of n2.ext x3 fun y o hy h => by simp only [rng] at h; omega
      have rx : Row w3 w'.heap.size 0 [.int .i64 x.1, .int .i64 x.2] := r3
      have v0 := (Row.cons.1 rx).1
      have v1 := (Row.cons.1 (Row.cons.1 rx).2).1
      have hfl3 := hfl.ext X3
      have hM3 := hM0.ext X3
      have htl := tree_len (ks.take k)
      have htk : (ks.take k).length ≤ k := by rw [List.length_take]; omega
      refine W_sq fun K hK => (W_text [true, true, true, true, true, false, true, true, true, true, true] (by kernel_rfl) ?_); simp only [↓List.toList_toArray, ↓rgd, ↓reduceIte, Nat.reduceEqDiff, rg, ow_43, eM, v0, v1]
      refine do_call fn_62 (by simp only [evt, evc, upd_eq, Nat.reduceEqDiff, ↓reduceIte, maT, maC, maN, isnN, isnS] <;> rfl) (load_map m d 0 x hd hd' _ F w3 hM3 (by omega)) ?_
      rintro _ w4 ⟨rfl, x4, F', hM4, hF'⟩
      refine ⟨trivial, ?_⟩
      simp only [↓List.toList_toArray, ↓rgd, ↓reduceIte, Nat.reduceEqDiff, rg, ow_43]
      refine hK _ _ ?_; clear hK K
      obtain ⟨hfl4, X4⟩ := hfl3.set hM3 hF0 ho0 x4 hM4 hF'
      have v4 := x4.rd v0 fun h => by
        rcases h with h | h
        · have := hM0.lt _ _ h; omega
        · omega
      refine W_rg fun K hK => (W_text [true, true, true, true, true, false, false, false, true] (by kernel_rfl) ?_); simp only [↓List.toList_toArray, ↓rgd, ↓reduceIte, Nat.reduceEqDiff, rg, ow_43, v4]
      refine do_call fn_49 (by simp only [evt, evc, upd_eq, Nat.reduceEqDiff, ↓reduceIte, maT, maC, maN, isnN, isnS] <;> rfl) (pair_any _ _ _ w4) ?_
      rintro _ w5 ⟨rfl, X5⟩
      refine ⟨trivial, ?_⟩
      simp only [↓List.toList_toArray, ↓rgd, ↓reduceIte, Nat.reduceEqDiff, rg, ow_43]
      refine do_bsl rfl (bs_fo1 _) fun w6 n6 => ⟨trivial, ?_⟩
      simp only [↓List.toList_toArray, ↓rgd, ↓reduceIte, Nat.reduceEqDiff, rg, ow_43]
      have X6 := X5.tr n6.ext
      have s6 := X6.size
      have hrl : (reps (ks.take k)).length = k := by rw [reps_length, List.length_take]; omega
      have hx6 : SlV w6 3 (.slice (some ⟨w5.heap.size, 0, none⟩) 1 1) 1 (Ef.cel (foP (x.1, ((at? O κ (κ x) (tree (ks.take k))).getD zIt).2) (hit O κ (κ x) (tree (ks.take k))))) := ⟨rfl, .inr ⟨_, 0, 1, rfl, Nat.le_refl _, n6.row, n6.wok.R (Nat.le_refl _)⟩⟩
      have hfl6 := hfl4.ext X6
      refine do_append (by simp only [evt, evc, upd_eq, Nat.reduceEqDiff, ↓reduceIte, ntT, ntF] <;> rfl) (by simp only [evt, evc, upd_eq, Nat.reduceEqDiff, ↓reduceIte, ntT, ntF] <;> rfl) el_fo rfl ni_fo hfl6.out.sl hx6 (by omega) (by decide) (Ef.one _) fun v7 w7 a7 => ?_
      obtain ⟨hfl7, X7⟩ := hfl6.app a7
      refine ⟨trivial, ?_⟩
      simp only [↓List.toList_toArray, ↓rgd, ↓reduceIte, Nat.reduceEqDiff, rg, ow_43]
      refine hK _ _ ?_; clear hK K
      show W _ _ _ _ _ _
      have q1 := wadd1 k (by omega)
      refine W_rg fun K hK => (W_text [true, true] (by kernel_rfl) ?_); simp only [↓List.toList_toArray, ↓rgd, ↓reduceIte, Nat.reduceEqDiff, rg, ow_43, eI, q1]
      refine hK _ _ ?_; clear hK K
      rw [foP_at] at hfl7
      refine ⟨_, ?_, k + 1, rfl, hlt, ?_, ?_, ?_, ?_,  ?_, (((X.tr (X3.mono fun _ _ _ h => h.elim)).tr X4).tr (X6.mono fun _ _ _ h => h.elim)).tr X7⟩
      · omega
      · simp only [upd_eq, Nat.reduceEqDiff, ↓reduceIte]; exact eM
      · simp only [upd_eq, Nat.reduceEqDiff, ↓reduceIte]; exact eS
      · simp only [upd_eq, Nat.reduceEqDiff, ↓reduceIte]; exact eL
      · simp only [upd_eq, Nat.reduceEqDiff, ↓reduceIte]

      · simp only [upd_eq, Nat.reduceEqDiff, ↓reduceIte]; rw [reps_succ hx, tree_succ ks k x hx]; exact hfl7
    · obtain rfl : k = ks.length := by omega
      have ht := lt_ff ks.length ks.length (by omega)
      refine W_sq fun K hK => (W_text [true] (by kernel_rfl) ?_); simp only [↓List.toList_toArray, ↓rgd, ↓reduceIte, Nat.reduceEqDiff, rg, ow_43, eL, eI, ht]
      refine hK _ _ ?_; clear hK K
      refine W_seq (W_false (by simp only [evt, evc, upd_eq, Nat.reduceEqDiff, ↓reduceIte, ntT, ntF] <;> rfl) (W_exit ?_))
      simp only [andThen_exit, inBlk_exit, andThen_normal, ↓reduceIte]
      rw [List.take_length] at hfl hM0
      have htl := tree_len ks
      refine W_sq fun K hK => (W_text [true, true, false, true, true] (by kernel_rfl) ?_); simp only [↓List.toList_toArray, ↓rgd, ↓reduceIte, Nat.reduceEqDiff, rg, ow_43, eM]
      refine do_call fn_59 (by simp only [evt, evc, upd_eq, Nat.reduceEqDiff, ↓reduceIte, maT, maC, maN, isnN, isnS] <;> rfl) (entries_any m d 0 (tree ks) F w' hM0 (by omega)) ?_
      rintro ev8 w8 ⟨hE, X8⟩
      refine ⟨trivial, ?_⟩
      simp only [↓List.toList_toArray, ↓rgd, ↓reduceIte, Nat.reduceEqDiff, rg, ow_43]
      refine hK _ _ ?_; clear hK K
      refine W_ret (endQ_2 (by simp only [upd_eq, Nat.reduceEqDiff, ↓reduceIte] <;> rfl) (by simp only [upd_eq, Nat.reduceEqDiff, ↓reduceIte] <;> rfl) ⟨_, _, rfl, hfl.out.sl.ext0 X8, hE, ?_⟩)
      rw [hw0] at X
      refine (noF_of X1 X fun y o hy h => ?_).tr X8
      simp only [fillF] at h
      have := X1.size
      omega
set_option maxHeartbeats 400000 in
set_option maxRecDepth 8000 in
theorem law_load (d : Nat) (hd : 2 ≤ d) (hd' : d ≤ 128) (ks : List It) (kv : Value) (w : World) (hk : SlI w kv ks) (hkb : ks.length ≤ 2147483647) :
    CallK Try.prog 22 #[.int .i64 d, kv] w fun v w' => v = .bool true ∧ Ext noF w w' := by
  refine calls_of_W [.tmp 4] Try.func22 rfl Try.ntmps22 Try.results22 (by simp) fun e he => ?_
  have e0 : e 0 = .int .i64 d := he 0 _ rfl
  have e1 : e 1 = kv := he 1 _ rfl
  clear he
  have htl := tree_len ks
  have hrl := reps_length ks
  refine W_sq fun K hK => (W_text [true] (by kernel_rfl) ?_); simp only [↓List.toList_toArray, ↓rgd, ↓reduceIte, Nat.reduceEqDiff, rg, ow_22]
  refine hK _ _ ?_; clear hK K
  refine W_sq fun K hK => (W_text [true, true, false, true, true, true, true, true] (by kernel_rfl) ?_); simp only [↓List.toList_toArray, ↓rgd, ↓reduceIte, Nat.reduceEqDiff, rg, ow_22, e0, e1]
  refine do_call fn_43 (by simp only [evt, evc, upd_eq, Nat.reduceEqDiff, ↓reduceIte, maT, maC, maN, isnN, isnS] <;> rfl) (impl_load d hd hd' ks kv w hk hkb) ?_
  rintro _ w1 ⟨r1, t1, rfl, h1, g1, X1⟩
  refine ⟨trivial, ?_⟩
  simp only [↓List.toList_toArray, ↓rgd, ↓reduceIte, Nat.reduceEqDiff, rg, ow_22]
  refine hK _ _ ?_; clear hK K
  refine W_sq fun K hK => (W_text [true, true, false, true, true, true, true, true] (by kernel_rfl) ?_); simp only [↓List.toList_toArray, ↓rgd, ↓reduceIte, Nat.reduceEqDiff, rg, ow_22, e1, bu_make]
  refine do_call fn_44 (by simp only [evt, evc, upd_eq, Nat.reduceEqDiff, ↓reduceIte, maT, maC, maN, isnN, isnS] <;> rfl) (gset_nil ks kv w1 (hk.ext0 X1) hkb) ?_
  rintro _ w2 ⟨r2, t2, rfl, h2, g2, X2⟩
  refine ⟨trivial, ?_⟩
  simp only [↓List.toList_toArray, ↓rgd, ↓reduceIte, Nat.reduceEqDiff, rg, ow_22]
  refine hK _ _ ?_; clear hK K
  refine W_sq fun K hK => (W_text [true, true, false, true, true, true, false, true, true] (by kernel_rfl) ?_); simp only [↓List.toList_toArray, ↓rgd, ↓reduceIte, Nat.reduceEqDiff, rg, ow_22]
  refine do_call fn_35 (by simp only [evt, evc, upd_eq, Nat.reduceEqDiff, ↓reduceIte, maT, maC, maN, isnN, isnS] <;> rfl) (eq_f _ r1 r2 w2 (h1.ext0 X2) h2 (by omega)) ?_
  rintro _ w3 ⟨rfl, y3⟩
  refine ⟨trivial, ?_⟩
  simp only [↓List.toList_toArray, ↓rgd, ↓reduceIte, Nat.reduceEqDiff, rg, ow_22]
  refine do_call fn_38 (by simp only [evt, evc, upd_eq, Nat.reduceEqDiff, ↓reduceIte, maT, maC, maN, isnN, isnS] <;> rfl) (eq_i _ t1 t2 w3 ((g1.ext0 X2).ext0 y3.ext) (g2.ext0 y3.ext) (by omega)) ?_
  rintro _ w4 ⟨rfl, y4⟩
  refine ⟨trivial, ?_⟩
  simp only [↓List.toList_toArray, ↓rgd, ↓reduceIte, Nat.reduceEqDiff, rg, ow_22]
  refine hK _ _ ?_; clear hK K
  exact W_ret (endQ_1 (by simp only [upd_eq, Nat.reduceEqDiff, ↓reduceIte] <;> rfl) ⟨rfl, ((X1.tr X2).tr y3.ext).tr y4.ext⟩)
def exS : List It := [(1, 5), (3, 2), (3, 4), (5, 1), (7, 6)]
theorem bu_itemS (a b : Int) : buildV Try.prog 36 [(0, .int .i64 a), (1, .int .i64 b)] = some (iV (a, b)) := by kernel_rfl
theorem bs_exS : bsV Try.prog 22 5 [(0, iV (1, 5)), (1, iV (3, 2)), (2, iV (3, 4)), (3, iV (5, 1)), (4, iV (7, 6))] = some (36, flat Ei exS) := by kernel_rfl
set_option maxHeartbeats 400000 in
set_option maxRecDepth 8000 in
theorem exSorted_any (w : World) : CallK Try.prog 23 #[] w fun v w' => SlI w' v exS ∧ Ext noF w w' := by
  refine calls_of_W (args := []) [.tmp 0] Try.func23 rfl Try.ntmps23 Try.results23 (by simp) fun e he => ?_
  clear he
  refine W_sq fun K hK => (W_text [true] (by kernel_rfl) ?_); simp only [↓List.toList_toArray, ↓rgd, ↓reduceIte, Nat.reduceEqDiff, rg]
  refine hK _ _ ?_; clear hK K
  refine W_sq fun K hK => (W_text [true, true, true, true, true, false, true] (by kernel_rfl) ?_); simp only [↓List.toList_toArray, ↓rgd, ↓reduceIte, Nat.reduceEqDiff, rg, bu_itemS]
  refine do_bsl rfl bs_exS fun w1 n1 => ⟨trivial, ?_⟩
  simp only [↓List.toList_toArray, ↓rgd, ↓reduceIte, Nat.reduceEqDiff, rg]
  refine hK _ _ ?_; clear hK K
  exact W_ret (endQ_1 (by simp only [upd_eq, Nat.reduceEqDiff, ↓reduceIte] <;> rfl) ⟨⟨rfl, .inr ⟨_, 0, 5, rfl, Nat.le_refl _, n1.row, n1.wok.R (Nat.le_refl _)⟩⟩, n1.ext⟩)
set_option maxHeartbeats 400000 in
set_option maxRecDepth 8000 in
theorem ascends_any (l : List It) (lv : Value) (w : World) (hl : SlI w lv l) (hbig : l.length ≤ 2147483647) :
    CallK Try.prog 24 #[nilS, lv] w fun v w' => ∃ t, v = .bool t ∧ Ext noF w w' := by
  obtain ⟨a, c, hlv⟩ := hl.shape
  refine calls_of_W [.tmp 4] Try.func24 rfl Try.ntmps24 Try.results24 (by simp) fun e he => ?_
  have e0 : e 0 = nilS := he 0 _ rfl
  have e1 : e 1 = .slice a l.length c := by rw [← hlv]; exact he 1 _ rfl
  clear he
  refine W_sq fun K hK => (W_text [true] (by kernel_rfl) ?_); simp only [↓List.toList_toArray, ↓rgd, ↓reduceIte, Nat.reduceEqDiff, rg, ow_24]
  refine hK _ _ ?_; clear hK K
  refine W_seq (W_seq ?_)
  refine W_rg fun K hK => (W_text [true] (by kernel_rfl) ?_); simp only [↓List.toList_toArray, ↓rgd, ↓reduceIte, Nat.reduceEqDiff, rg, ow_24]
  refine hK _ _ ?_; clear hK K
  show W _ _ _ _ _ _
  refine W_block (W_loop (fun mm e w' => ∃ i : Nat, mm = l.length - i ∧ 1 ≤ i ∧ e 0 = nilS ∧ e 1 = .slice a l.length c ∧ e 5 = .int .i64 i ∧ Ext noF w w') (l.length - 1) ⟨1, rfl, Nat.le_refl _, ?_, ?_, ?_, Ext.refl _ _⟩ ?_)
  · simp only [upd_eq, Nat.reduceEqDiff, ↓reduceIte]; exact e0
  · simp only [upd_eq, Nat.reduceEqDiff, ↓reduceIte]; exact e1
  · simp only [upd_eq, Nat.reduceEqDiff, ↓reduceIte]; rfl
  clear e0 e1 e
  rintro mm e w' ⟨i, rfl, hi, e0, e1, e5, X⟩
  refine W_seq ?_
  by_cases hlt : i < l.length
  · have ht := lt_tt i l.length hlt
    refine W_sq fun K hK => (W_text [true, true, true, true] (by kernel_rfl) ?_); simp only [↓List.toList_toArray, ↓rgd, ↓reduceIte, Nat.reduceEqDiff, rg, ow_24, e1, e5, ht]
    refine hK _ _ ?_; clear hK K
    refine W_true (by simp only [evt, evc, upd_eq, Nat.reduceEqDiff, ↓reduceIte, ntT, ntF] <;> rfl) (W_skip ?_)
    show W _ _ _ _ _ _
    obtain ⟨x, hx⟩ : ∃ x, l[i]? = some x := ⟨_, List.getElem?_eq_getElem hlt⟩
    obtain ⟨y, hy⟩ : ∃ y, l[i - 1]? = some y := ⟨_, List.getElem?_eq_getElem (by omega)⟩
    obtain ⟨b, o, rfl, row⟩ := hl.at hlv hlt
    have row' : Row w' b o (flat Ei l) := X.row row fun _ _ h => h
    have ix := iV_at row' hx
    have iy := iV_at row' hy
    have hlt1 : i - 1 < l.length := by omega
    have q1 := wsub1 i hi (by omega)
    have M1 : readsB (some (some [b])) b = true := by simp [readsB]
    refine W_seq (W_block ?_)
    refine W_sq fun K hK => (W_draw (some (some [b])) (some 10) [(0, 0, 0), (0, 1, 0), (0, 2, 0), (0, 3, 0), (0, 4, 0), (0, 5, 0), (0, 6, 0), (0, 7, 0), (0, 8, 0), (0, 9, 0), (1, 10, 0)] mixed (by kernel_rfl) ?_); simp only [↓List.toList_toArray, ↓rgd, ↓reduceIte, Nat.reduceEqDiff, rg, ow_24, e0, e1, e5, hlt, hlt1, q1, ix, iy, M1]
    refine do_call fn_45 (by simp only [evt, evc, upd_eq, Nat.reduceEqDiff, ↓reduceIte, maT, maC, maN, isnN, isnS] <;> rfl) (before_nil x y _) ?_
    rintro _ w2 ⟨rfl, x2⟩
    refine ⟨.inr (keeps_on x2 fun z hz => ⟨?_, fun _ h => h⟩), ?_⟩
    · rw [sz_dr]
      simp only [List.mem_cons, List.not_mem_nil, or_false] at hz
      rw [hz]
      have := hl.lt hlv
      have := X.size
      omega
    simp only [↓List.toList_toArray, ↓rgd, ↓reduceIte, Nat.reduceEqDiff, rg, ow_24]
    refine hK _ _ ?_; clear hK K
    have x2 := x2.od
    cases hq : O.lt (κ x) (κ y) with
    | true =>
      refine W_true (by simp only [evt, evc, upd_eq, Nat.reduceEqDiff, ↓reduceIte, ntT, ntF] <;> rfl) ?_
      refine W_sq fun K hK => (W_text [true] (by kernel_rfl) ?_); simp only [↓List.toList_toArray, ↓rgd, ↓reduceIte, Nat.reduceEqDiff, rg, ow_24]
      refine hK _ _ ?_; clear hK K
      refine W_ret ?_
      simp only [andThen_ret, inBlk_ret]
      exact endQ_1 (by simp only [upd_eq, Nat.reduceEqDiff, ↓reduceIte] <;> rfl) ⟨false, rfl, X.tr x2⟩
    | false =>
      refine W_false (by simp only [evt, evc, upd_eq, Nat.reduceEqDiff, ↓reduceIte, ntT, ntF] <;> rfl) (W_skip ?_)
      simp only [inBlk_normal, andThen_normal]
      have q2 := wadd1 i (by omega)
      refine W_rg fun K hK => (W_text [true, true, true] (by kernel_rfl) ?_); simp only [↓List.toList_toArray, ↓rgd, ↓reduceIte, Nat.reduceEqDiff, rg, ow_24, e5, q2]
      refine hK _ _ ?_; clear hK K
      refine ⟨_, ?_, i + 1, rfl, by omega, ?_, ?_, ?_, X.tr x2⟩
      · omega
      · simp only [upd_eq, Nat.reduceEqDiff, ↓reduceIte]; exact e0
      · simp only [upd_eq, Nat.reduceEqDiff, ↓reduceIte]; exact e1
      · simp only [upd_eq, Nat.reduceEqDiff, ↓reduceIte]
  · have ht := lt_ff i l.length (by omega)
    refine W_sq fun K hK => (W_text [true, true, true, true] (by kernel_rfl) ?_); simp only [↓List.toList_toArray, ↓rgd, ↓reduceIte, Nat.reduceEqDiff, rg, ow_24, e1, e5, ht]
    refine hK _ _ ?_; clear hK K
    refine W_false (by simp only [evt, evc, upd_eq, Nat.reduceEqDiff, ↓reduceIte, ntT, ntF] <;> rfl) (W_exit ?_)
    simp only [andThen_exit, inBlk_exit, andThen_normal, ↓reduceIte]
    refine W_sq fun K hK => (W_text [true] (by kernel_rfl) ?_); simp only [↓List.toList_toArray, ↓rgd, ↓reduceIte, Nat.reduceEqDiff, rg, ow_24]
    refine hK _ _ ?_; clear hK K
    exact W_ret (endQ_1 (by simp only [upd_eq, Nat.reduceEqDiff, ↓reduceIte] <;> rfl) ⟨true, rfl, X⟩)
end Go.Proofs.Ythonmbkjbgkfaaa
