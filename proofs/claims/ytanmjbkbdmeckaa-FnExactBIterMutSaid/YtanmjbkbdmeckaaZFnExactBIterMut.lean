/-
  FnExactBIterMut: the whole statement: it returns true whatever the input is, and the arguments read as before. No condition.
-/
import Derived.Test.YtanmjbkbdmeckaaZ21fb5494
import Derived.Test.YtanmjbkbdmeckaaZb3a8c75d
import Derived.Test.YtanmjbkbdmeckaaZ9de258df
/-
  How moves are read as an argument. No condition.
-/
set_option linter.unusedSimpArgs false
set_option linter.unusedVariables false
namespace Go.Proofs.Ytanmjbkbdmeckaa
open Go Go.Proofs Go.ChangeShapes Go.WideShapes Go.ChangeAt Go.RowKit
theorem move_td : ∃ f0 f1 : Field, Try.prog.underlying 72 = some (.struct #[f0, f1]) ∧ f0.offset = 0 ∧ f1.offset = 1 ∧ Try.prog.cellsOf f0.type = 1 ∧ Try.prog.cellsOf f1.type = 2 ∧
    Try.prog.underlying f0.type = some (.int .i64) ∧ f1.type = 33 := ⟨_, _, Try.underlying72, by kernel_rfl, by kernel_rfl, by kernel_rfl, by kernel_rfl, by kernel_rfl, by kernel_rfl⟩
set_option maxRecDepth 100000
section
variable {H : Type} {enc : TypeId × Value → H}
theorem elem_move {w : World} : ∀ n cs x, DataW.trod enc Try.prog w 0 (fun _ => true) true n 72 cs = some x → cs.length = Em.sz → ∃ a : Int × It, cs = Em.cel a := by
  obtain ⟨f0, f1, he, o0, o1, c0, c1, u0, t1⟩ := move_td
  obtain ⟨i0, i1, he', o0', o1', c0', c1', u0', u1'⟩ := item_td
  intro n cs x h hl
  obtain ⟨xs, k, _, _, _, hxl, hf⟩ := DataW.trod_struct he h
  match xs, hxl, cs, hl with
  | [y0, y1], _, [v0, v1, v2], _ =>
    have g0 := hf 0 f0 rfl
    have g1 := hf 1 f1 rfl
    simp [o0, o1, c0, c1] at g0 g1
    obtain ⟨a, h1, _, _⟩ := DataW.trod_int u0 g0
    rw [t1] at g1
    obtain ⟨b, h2⟩ := elem_int2 he' o0' o1' c0' c1' u0' u1' _ _ _ g1 rfl
    simp only [List.cons.injEq, and_true] at h1 h2
    exact ⟨(a, b), by rw [h1, h2.1, h2.2]; rfl⟩
theorem open_moves {w : World} {base : Nat} {v : Value} {d : DataW H} {ps : List MemPlace} (hok : Value.okWide Try.prog w .any base 45 v)
    (h : DataW.Trod enc Try.prog w 0 (fun _ => true) true 45 v d ps) (hz : ∀ b o, MemPlace.cell b o ∈ ps → w.frozen? ⟨b, o, none⟩ = false) : ∃ l : List (Int × It), SlV w 3 v l.length (flat Em l) := by
  have hce : Try.prog.cellsOf 72 = Em.sz := by kernel_rfl
  exact open_arg (enc := enc) Em Try.underlying45 hce elem_move hok h hz
end
end Go.Proofs.Ytanmjbkbdmeckaa
/-
  Moves of an iterator, one after the other. No condition.
-/
set_option linter.unusedSimpArgs false
set_option linter.unusedVariables false
namespace Go.Proofs.Ytanmjbkbdmeckaa
open Go Go.Proofs
set_option maxHeartbeats 800000 in
set_option maxRecDepth 8000 in
theorem iitem_any (ib : Nat) (x : It) (w : World) (h : Row w ib 15 (E.cel x)) : CallK Try.prog 161 #[ptr ib] w fun v w' => v = itV x ∧ Ext noF w w' := by
  refine calls_of_W [.tmp 2] Try.func161 rfl Try.ntmps161 Try.results161 (by simp) fun e he => ?_
  have e0 : e 0 = ptr ib := he 0 _ rfl
  clear he
  have h1 : rd w ib 15 = some (itV x) := (Row.cons.1 h).1
  refine W_sq fun K hK => (W_text [true] (by kernel_rfl) ?_); simp only [↓List.toList_toArray, ↓rgd, ↓rgf, ↓reduceIte, Nat.reduceEqDiff, rg, ow_161]
  refine hK _ _ ?_; clear hK K
  refine W_sq fun K hK => (W_text [true, true, true, true, true] (by kernel_rfl) ?_); simp only [↓List.toList_toArray, ↓rgd, ↓rgf, ↓reduceIte, Nat.reduceEqDiff, rg, ow_161, e0, ptr_eq, h1]
  refine hK _ _ ?_; clear hK K
  exact W_ret (endQ_1 (by simp only [upd_eq, Nat.reduceEqDiff, ↓reduceIte] <;> rfl) ⟨rfl, Ext.refl _ _⟩)
set_option maxHeartbeats 800000 in
set_option maxRecDepth 8000 in
theorem item_any (ib : Nat) (x : It) (w : World) (h : Row w ib 15 (E.cel x)) : CallK Try.prog 132 #[ptr ib] w fun v w' => v = itV x ∧ Ext noF w w' := by
  refine calls_of_W [.tmp 2] Try.func132 rfl Try.ntmps132 Try.results132 (by simp) fun e he => ?_
  have e0 : e 0 = ptr ib := he 0 _ rfl
  clear he
  refine W_sq fun K hK => (W_text [true] (by kernel_rfl) ?_); simp only [↓List.toList_toArray, ↓rgd, ↓rgf, ↓reduceIte, Nat.reduceEqDiff, rg, ow_132]
  refine hK _ _ ?_; clear hK K
  refine W_sq fun K hK => (W_text [true, true, true, false, true] (by kernel_rfl) ?_); simp only [↓List.toList_toArray, ↓rgd, ↓rgf, ↓reduceIte, Nat.reduceEqDiff, rg, ow_132, e0, ptr_eq]
  refine do_call fn_161 (vs := #[ptr ib]) (by simp only [evt, evc, upd_eq, Nat.reduceEqDiff, ↓reduceIte, maT, maC, maN, isnN, isnS] <;> rfl) (iitem_any ib x w h) ?_
  rintro _ w1 ⟨rfl, X1⟩
  refine ⟨trivial, ?_⟩
  simp only [↓List.toList_toArray, ↓rgd, ↓rgf, ↓reduceIte, Nat.reduceEqDiff, rg, ow_132]
  refine hK _ _ ?_; clear hK K
  exact W_ret (endQ_1 (by simp only [upd_eq, Nat.reduceEqDiff, ↓reduceIte] <;> rfl) ⟨rfl, X1⟩)
set_option maxHeartbeats 4000000 in
set_option maxRecDepth 8000 in
theorem moved_any (B m d : Nat) (ord : List Int) (hd : 2 ≤ d) (hd' : d ≤ 128) (iso : Int) (X : List It) (F : Nat → Nat → Prop) (mu : Bool) (ib sb0 so0 cap0 : Nat) (ms : List (Int × It)) (mvs : Value) (w1 : World) (hM : TreeAt B ord w1 m d iso X F) (hI : ItS ib m mu [] sb0 so0 cap0 w1) (hoff : ∀ y o, (y = ib ∨ y = sb0 ∨ w1.heap.size ≤ y) → m < y ∧ ¬ F y o) (hbig : X.length ≤ 2147483648) (hms : SlV w1 3 mvs ms.length (flat Em ms)) (hmb : ms.length ≤ 2147483647) (hmn : ∀ b o n c, mvs = .slice (some ⟨b, o, none⟩) n c → b ≠ ib ∧ b ≠ sb0) :
    CallK Try.prog 92 #[ptr ib, mvs] w1 fun v w' => ∃ P : List (Option It), SlV w' 3 v P.length (flat Ef (P.map foO)) ∧ Agree P (runI X (fun k : It => lb O (rkI ord) (rkI ord k) X) ms).2 ∧ Ext (fun y _ => y = ib ∨ y = sb0) w1 w' ∧ (∃ full sb so cap, ItS ib m mu full sb so cap w') ∧ ∀ b o n c, v = .slice (some ⟨b, o, none⟩) n c → w1.heap.size ≤ b := by
  obtain ⟨ka, kc, hkv⟩ := hms.shape
  refine calls_of_W [.tmp 4] Try.func92 rfl Try.ntmps92 Try.results92 (by simp) fun e he => ?_
  have e0 : e 0 = ptr ib := he 0 _ rfl
  have e1 : e 1 = mvs := he 1 _ rfl
  clear he
  rw [hkv] at e1
  refine W_sq fun K hK => (W_text [true] (by kernel_rfl) ?_); simp only [↓List.toList_toArray, ↓rgd, ↓rgf, ↓reduceIte, Nat.reduceEqDiff, rg, ow_92]
  refine hK _ _ ?_; clear hK K
  refine W_sq fun K hK => (W_text [false] (by kernel_rfl) ?_); simp only [↓List.toList_toArray, ↓rgd, ↓rgf, ↓reduceIte, Nat.reduceEqDiff, rg, ow_92]
  refine do_alloc z_hint fun w2 n2 => ⟨trivial, ?_⟩
  simp only [↓List.toList_toArray, ↓rgd, ↓rgf, ↓reduceIte, Nat.reduceEqDiff, rg, ow_92]
  refine hK _ _ ?_; clear hK K
  refine W_sq fun K hK => (W_text [true] (by kernel_rfl) ?_); simp only [↓List.toList_toArray, ↓rgd, ↓rgf, ↓reduceIte, Nat.reduceEqDiff, rg, ow_92]
  refine hK _ _ ?_; clear hK K
  refine W_seq (W_seq ?_)
  refine W_rg fun K hK => (W_text [true, true, true] (by kernel_rfl) ?_); simp only [↓List.toList_toArray, ↓rgd, ↓rgf, ↓reduceIte, Nat.reduceEqDiff, rg, ow_92, e1]
  refine hK _ _ ?_; clear hK K
  show W _ _ _ _ _ _
  have bs : Bs m F ib sb0 w1.heap.size w1 := ⟨hoff, wok_lt hI.wok, wok_lt hI.st.wi, Nat.le_refl _⟩
  have S0 : MvS B ord m d iso X F mu ib sb0 w1.heap.size w1 (.slice none 0 0) [] none w2 := by
    have hh := hint_new n2
    have h1 := bs.sl
    exact ⟨⟨[], sb0, so0, cap0, hI.ext0 n2.ext, rfl, .inl rfl, by omega, fun b o n c h => (by cases h)⟩, hM.ext n2.ext, fun hb h => (by cases h; exact hh), Outs.nil _ _, fun b o n c h => (by cases h), n2.ext.mono fun _ _ _ g => g.elim⟩
  refine W_block (W_loop (fun mm e w => ∃ (k : Nat) (p : Option Nat) (P : List (Option It)), mm = ms.length - k ∧ k ≤ ms.length ∧ e 10 = .slice ka ms.length kc ∧ e 11 = .int .i64 ms.length ∧ e 12 = .int .i64 k ∧ e 0 = ptr ib ∧ e 5 = ptr w1.heap.size ∧ MvS B ord m d iso X F mu ib sb0 w1.heap.size w1 (e 6) P p w ∧ Agree P (runI X (fun k : It => lb O (rkI ord) (rkI ord k) X) (ms.take k)).2 ∧ ∀ j, (runI X (fun k : It => lb O (rkI ord) (rkI ord k) X) (ms.take k)).1 = some j → p = some j)
    ms.length ⟨0, none, [], by simp, by simp, by simp only [upd_eq, Nat.reduceEqDiff, ↓reduceIte], by simp only [upd_eq, Nat.reduceEqDiff, ↓reduceIte], by simp only [upd_eq, Nat.reduceEqDiff, ↓reduceIte]; rfl, by simp only [upd_eq, Nat.reduceEqDiff, ↓reduceIte]; exact e0, by simp only [upd_eq, Nat.reduceEqDiff, ↓reduceIte]; rfl, by simp only [upd_eq, Nat.reduceEqDiff, ↓reduceIte]; exact S0, Agree.nil, fun j h => by cases h⟩ ?_)
  clear S0 e0 e1 e
  rintro mm e w ⟨k, p, P, rfl, hk, eS, eL, eI, e0, e5, S, hA, hp⟩
  by_cases hlt : k < ms.length
  · have ht := lt_tt k ms.length hlt
    refine W_sq fun K hK => (W_text [true] (by kernel_rfl) ?_); simp only [↓List.toList_toArray, ↓rgd, ↓rgf, ↓reduceIte, Nat.reduceEqDiff, rg, ow_92, eL, eI, ht]
    refine hK _ _ ?_; clear hK K
    refine W_seq (W_true (by simp only [evt, evc, upd_eq, Nat.reduceEqDiff, ↓reduceIte, ntT, ntF] <;> rfl) (W_skip ?_))
    show W _ _ _ _ _ _
    obtain ⟨mv, hx⟩ : ∃ x, ms[k]? = some x := ⟨_, List.getElem?_eq_getElem hlt⟩
    obtain ⟨mb, mo, hka, row⟩ := SlV.at hms hkv hlt
    have hml := SlV.lt hms (hkv.trans (by rw [hka]))
    have hmb2 := hmn mb mo ms.length kc (by rw [hkv, hka])
    have ixx := mv_at (S.ext.row row fun i _ g => by rcases g with g | g | g; exact hmb2.1 g; exact hmb2.2 g; omega) hx
    rw [hka] at eS
    refine W_seq (W_block ?_)
    refine W_sq fun K hK => (W_text [true, true, false, false] (by kernel_rfl) ?_); simp only [↓List.toList_toArray, ↓rgd, ↓rgf, ↓reduceIte, Nat.reduceEqDiff, rg, ow_92, eS, eI, hlt, ixx]
    refine do_alloc z_mv fun w2' n2' => ⟨trivial, ?_⟩
    simp only [↓List.toList_toArray, ↓rgd, ↓rgf, ↓reduceIte, Nat.reduceEqDiff, rg, ow_92]
    refine do_store (v := mvV mv) (by simp only [evt, evc, upd_eq, Nat.reduceEqDiff, ↓reduceIte, ntT, ntF] <;> rfl) (by simp only [evt, evc, upd_eq, Nat.reduceEqDiff, ↓reduceIte, ntT, ntF] <;> rfl) sz_72 rfl n2'.wok (by decide) (Em.one mv) fun w3 x3 r3 s3 => ⟨trivial, ?_⟩
    simp only [↓List.toList_toArray, ↓rgd, ↓rgf, ↓reduceIte, Nat.reduceEqDiff, rg, ow_92]
    refine hK _ _ ?_; clear hK K
    have X3 : Ext noF w w3 := noF_of n2'.ext x3 fun y o hy h => by simp only [rng] at h; omega
    have S3 := S.ext0 X3
    have r3' : Row w3 w.heap.size 0 (Em.cel mv) := r3
    have op3 : rd w3 w.heap.size 0 = some (.int .i64 mv.1) := (Row.cons.1 r3').1
    have key3 : rdA w3 w.heap.size 1 2 = some (iV mv.2) := (r3'.drop 1).rdA 2 (Nat.le_refl _)
    rw [← hka] at eS
    obtain ⟨ov, hov⟩ : ∃ ov, ov = e 6 := ⟨_, rfl⟩
    rw [← hov] at S3 S
    have e6 : e 6 = ov := hov.symm
    clear r3 r3' x3 n2' X3 S
    refine W_sq fun K hK => (W_text [true] (by kernel_rfl) ?_); simp only [↓List.toList_toArray, ↓rgd, ↓rgf, ↓reduceIte, Nat.reduceEqDiff, rg, ow_92]
    refine hK _ _ ?_; clear hK K
    refine W_sqx fun J hJ => ?_
    have hmid : ∀ (e : Env) (w4 : World) (p' : Option Nat), MvS B ord m d iso X F mu ib sb0 w1.heap.size w1 ov P p' w4 → Goes X (fun k : It => lb O (rkI ord) (rkI ord k) X) p mv p' → (∀ k x, p' = some k → X[k]? = some x → Row w4 ib 15 (E.cel x)) → e 10 = .slice ka ms.length kc → e 11 = .int .i64 ms.length → e 12 = .int .i64 k → e 0 = ptr ib → e 5 = ptr w1.heap.size → e 9 = .bool p'.isSome → e 6 = ov → J e w4 := by
      clear eS eL eI e0 e5 e6 hov S3 op3 key3 e
      intro e w4 p' S4 hg hit eS eL eI e0 e5 e9 e6
      refine hJ _ _ ?_; clear hJ J
      refine W_sq fun K hK => (W_text [true] (by kernel_rfl) ?_); simp only [↓List.toList_toArray, ↓rgd, ↓rgf, ↓reduceIte, Nat.reduceEqDiff, rg, ow_92, e9]
      refine hK _ _ ?_; clear hK K
      cases p' with
      | some kk =>
        refine W_true (by simp only [evt, evc, upd_eq, Nat.reduceEqDiff, ↓reduceIte, ntT, ntF] <;> rfl) ?_
        obtain ⟨x, hX⟩ : ∃ x, X[kk]? = some x := ⟨_, List.getElem?_eq_getElem (hg.1 kk rfl)⟩
        have hr := hit kk x rfl hX
        refine W_rg fun K hK => (W_text [true, true, false, false, false, false, true] (by kernel_rfl) ?_); simp only [↓List.toList_toArray, ↓rgd, ↓rgf, ↓reduceIte, Nat.reduceEqDiff, rg, ow_92, e0, e6]
        refine do_call fn_132 (vs := #[ptr ib]) (by simp only [evt, evc, upd_eq, Nat.reduceEqDiff, ↓reduceIte, maT, maC, maN, isnN, isnS] <;> rfl) (item_any ib x w4 hr) ?_
        rintro _ w5 ⟨rfl, X5⟩
        refine ⟨trivial, ?_⟩
        simp only [↓List.toList_toArray, ↓rgd, ↓rgf, ↓reduceIte, Nat.reduceEqDiff, rg, ow_92]
        refine do_call fn_54 (vs := #[itO (some x)]) (by simp only [evt, evc, upd_eq, Nat.reduceEqDiff, ↓reduceIte, maT, maC, maN, isnN, isnS] <;> rfl) (found_any (some x) w5) ?_
        rintro _ w5' ⟨rfl, X5'⟩
        refine ⟨trivial, ?_⟩
        simp only [↓List.toList_toArray, ↓rgd, ↓rgf, ↓reduceIte, Nat.reduceEqDiff, rg, ow_92, e6]
        have S5 := (S4.ext0 X5).ext0 X5'
        refine do_bsl rfl (bs_fo1 (foO (some x))) fun w6 n6 => ⟨trivial, ?_⟩
        simp only [↓List.toList_toArray, ↓rgd, ↓rgf, ↓reduceIte, Nat.reduceEqDiff, rg, ow_92]
        have S6 := S5.ext0 n6.ext
        have hx6 : SlV w6 3 (.slice (some ⟨w5'.heap.size, 0, none⟩) 1 1) 1 (Ef.cel (foO (some x))) := ⟨rfl, .inr ⟨_, 0, 1, rfl, Nat.le_refl _, n6.row, n6.wok.R (Nat.le_refl _)⟩⟩
        have hPl : (P.map foO).length = k := by rw [List.length_map, hA.1, runI_length, List.length_take]; omega
        refine do_append (by simp only [evt, evc, upd_eq, Nat.reduceEqDiff, ↓reduceIte, ntT, ntF] <;> rfl) (by simp only [evt, evc, upd_eq, Nat.reduceEqDiff, ↓reduceIte, ntT, ntF] <;> rfl) el_fo rfl ni_fo S6.out.sl hx6 (by omega) (by decide) (Ef.one _) fun v7 w7 a7 => ⟨trivial, ?_⟩
        have S7 := S6.app bs a7
        simp only [↓List.toList_toArray, ↓rgd, ↓rgf, ↓reduceIte, Nat.reduceEqDiff, rg, ow_92]
        refine hK _ _ ?_; clear hK K
        obtain ⟨p', hp'⟩ : ∃ p' : Option Nat, p' = some kk := ⟨_, rfl⟩
        rw [← hp'] at S7 hg
        have hfo : foI X p' = some x := by rw [hp']; exact hX
        rw [← hfo] at S7
        show W _ _ _ _ _ _
        have q1 := wadd1 k (by omega)
        refine W_rg fun K hK => (W_text [true, true] (by kernel_rfl) ?_); simp only [↓List.toList_toArray, ↓rgd, ↓rgf, ↓reduceIte, Nat.reduceEqDiff, rg, ow_92, eI, q1]
        refine hK _ _ ?_; clear hK K
        have hrs := runI_succ X (fun k : It => lb O (rkI ord) (rkI ord k) X) hx
        refine ⟨_, ?_, k + 1, p', P ++ [foI X p'], rfl, hlt, by simp only [upd_eq, Nat.reduceEqDiff, ↓reduceIte]; exact eS, by simp only [upd_eq, Nat.reduceEqDiff, ↓reduceIte]; exact eL, by simp only [upd_eq, Nat.reduceEqDiff, ↓reduceIte], by simp only [upd_eq, Nat.reduceEqDiff, ↓reduceIte]; exact e0, by simp only [upd_eq, Nat.reduceEqDiff, ↓reduceIte]; exact e5, by simp only [upd_eq, Nat.reduceEqDiff, ↓reduceIte]; exact S7, ?_, ?_⟩
        · omega
        · rw [hrs]
          exact hA.snoc (hg.agree hp).2
        · intro j hj
          rw [hrs] at hj
          exact (hg.agree hp).1 j hj
      | none =>
        refine W_false (by simp only [evt, evc, upd_eq, Nat.reduceEqDiff, ↓reduceIte, ntT, ntF] <;> rfl) ?_
        refine W_rg fun K hK => (W_text [true, true, false, false, true] (by kernel_rfl) ?_); simp only [↓List.toList_toArray, ↓rgd, ↓rgf, ↓reduceIte, Nat.reduceEqDiff, rg, ow_92, e6, bu_fo0]
        refine do_bsl rfl (bs_fo1 (foO none)) fun w6 n6 => ⟨trivial, ?_⟩
        simp only [↓List.toList_toArray, ↓rgd, ↓rgf, ↓reduceIte, Nat.reduceEqDiff, rg, ow_92]
        have S6 := S4.ext0 n6.ext
        have hx6 : SlV w6 3 (.slice (some ⟨w4.heap.size, 0, none⟩) 1 1) 1 (Ef.cel (foO none)) := ⟨rfl, .inr ⟨_, 0, 1, rfl, Nat.le_refl _, n6.row, n6.wok.R (Nat.le_refl _)⟩⟩
        have hPl : (P.map foO).length = k := by rw [List.length_map, hA.1, runI_length, List.length_take]; omega
        refine do_append (by simp only [evt, evc, upd_eq, Nat.reduceEqDiff, ↓reduceIte, ntT, ntF] <;> rfl) (by simp only [evt, evc, upd_eq, Nat.reduceEqDiff, ↓reduceIte, ntT, ntF] <;> rfl) el_fo rfl ni_fo S6.out.sl hx6 (by omega) (by decide) (Ef.one _) fun v7 w7 a7 => ⟨trivial, ?_⟩
        have S7 := S6.app bs a7
        simp only [↓List.toList_toArray, ↓rgd, ↓rgf, ↓reduceIte, Nat.reduceEqDiff, rg, ow_92]
        refine hK _ _ ?_; clear hK K
        obtain ⟨p', hp'⟩ : ∃ p' : Option Nat, p' = none := ⟨_, rfl⟩
        rw [← hp'] at S7 hg
        have hfo : foI X p' = none := by rw [hp']; rfl
        rw [← hfo] at S7
        show W _ _ _ _ _ _
        have q1 := wadd1 k (by omega)
        refine W_rg fun K hK => (W_text [true, true] (by kernel_rfl) ?_); simp only [↓List.toList_toArray, ↓rgd, ↓rgf, ↓reduceIte, Nat.reduceEqDiff, rg, ow_92, eI, q1]
        refine hK _ _ ?_; clear hK K
        have hrs := runI_succ X (fun k : It => lb O (rkI ord) (rkI ord k) X) hx
        refine ⟨_, ?_, k + 1, p', P ++ [foI X p'], rfl, hlt, by simp only [upd_eq, Nat.reduceEqDiff, ↓reduceIte]; exact eS, by simp only [upd_eq, Nat.reduceEqDiff, ↓reduceIte]; exact eL, by simp only [upd_eq, Nat.reduceEqDiff, ↓reduceIte], by simp only [upd_eq, Nat.reduceEqDiff, ↓reduceIte]; exact e0, by simp only [upd_eq, Nat.reduceEqDiff, ↓reduceIte]; exact e5, by simp only [upd_eq, Nat.reduceEqDiff, ↓reduceIte]; exact S7, ?_, ?_⟩
        · omega
        · rw [hrs]
          exact hA.snoc (hg.agree hp).2
        · intro j hj
          rw [hrs] at hj
          exact (hg.agree hp).1 j hj
    clear hJ
    refine W_sq fun K hK => (W_text [true, true] (by kernel_rfl) ?_); simp only [↓List.toList_toArray, ↓rgd, ↓rgf, ↓reduceIte, Nat.reduceEqDiff, rg, ow_92, op3]
    refine hK _ _ ?_; clear hK K
    refine W_block ?_
    by_cases h1 : mv.1 = 1
    · have c1 : (mv.1 == 1) = true := by rw [beq_iff_eq]; exact h1
      refine W_sq fun K hK => (W_text [true, true] (by kernel_rfl) ?_); simp only [↓List.toList_toArray, ↓rgd, ↓rgf, ↓reduceIte, Nat.reduceEqDiff, rg, ow_92, c1]
      refine hK _ _ ?_; clear hK K
      refine W_true (by simp only [evt, evc, upd_eq, Nat.reduceEqDiff, ↓reduceIte, ntT, ntF] <;> rfl) ?_
      refine W_rg fun K hK => (W_text [true, false, true] (by kernel_rfl) ?_); simp only [↓List.toList_toArray, ↓rgd, ↓rgf, ↓reduceIte, Nat.reduceEqDiff, rg, ow_92, e0, e5]
      refine do_call fn_126 (vs := #[ptr ib]) (by simp only [evt, evc, upd_eq, Nat.reduceEqDiff, ↓reduceIte, maT, maC, maN, isnN, isnS] <;> rfl) (mv_last S3 bs hd hd' hbig mv h1) ?_
      rintro _ w4 ⟨p', rfl, S4, hg, hit⟩
      refine ⟨trivial, ?_⟩
      simp only [↓List.toList_toArray, ↓rgd, ↓rgf, ↓reduceIte, Nat.reduceEqDiff, rg, ow_92]
      refine hK _ _ ?_; clear hK K
      exact hmid _ w4 p' S4 hg hit (by simp only [upd_eq, Nat.reduceEqDiff, ↓reduceIte]; exact eS) (by simp only [upd_eq, Nat.reduceEqDiff, ↓reduceIte]; exact eL) (by simp only [upd_eq, Nat.reduceEqDiff, ↓reduceIte]; exact eI) (by simp only [upd_eq, Nat.reduceEqDiff, ↓reduceIte]; exact e0) (by simp only [upd_eq, Nat.reduceEqDiff, ↓reduceIte]; exact e5) (by simp only [upd_eq, Nat.reduceEqDiff, ↓reduceIte] <;> rfl) (by simp only [upd_eq, Nat.reduceEqDiff, ↓reduceIte]; exact e6)
    · have c1 : (mv.1 == 1) = false := by rw [beq_eq_false_iff_ne]; exact h1
      refine W_sq fun K hK => (W_text [true, true] (by kernel_rfl) ?_); simp only [↓List.toList_toArray, ↓rgd, ↓rgf, ↓reduceIte, Nat.reduceEqDiff, rg, ow_92, c1]
      refine hK _ _ ?_; clear hK K
      refine W_false (by simp only [evt, evc, upd_eq, Nat.reduceEqDiff, ↓reduceIte, ntT, ntF] <;> rfl) ?_
      by_cases h2 : mv.1 = 2
      · have c2 : (mv.1 == 2) = true := by rw [beq_iff_eq]; exact h2
        refine W_sq fun K hK => (W_text [true, true] (by kernel_rfl) ?_); simp only [↓List.toList_toArray, ↓rgd, ↓rgf, ↓reduceIte, Nat.reduceEqDiff, rg, ow_92, c2]
        refine hK _ _ ?_; clear hK K
        refine W_true (by simp only [evt, evc, upd_eq, Nat.reduceEqDiff, ↓reduceIte, ntT, ntF] <;> rfl) ?_
        refine W_rg fun K hK => (W_text [true, false, true] (by kernel_rfl) ?_); simp only [↓List.toList_toArray, ↓rgd, ↓rgf, ↓reduceIte, Nat.reduceEqDiff, rg, ow_92, e0, e5]
        refine do_call fn_127 (vs := #[ptr ib]) (by simp only [evt, evc, upd_eq, Nat.reduceEqDiff, ↓reduceIte, maT, maC, maN, isnN, isnS] <;> rfl) (mv_next S3 bs hd hd' hbig mv h2) ?_
        rintro _ w4 ⟨p', rfl, S4, hg, hit⟩
        refine ⟨trivial, ?_⟩
        simp only [↓List.toList_toArray, ↓rgd, ↓rgf, ↓reduceIte, Nat.reduceEqDiff, rg, ow_92]
        refine hK _ _ ?_; clear hK K
        exact hmid _ w4 p' S4 hg hit (by simp only [upd_eq, Nat.reduceEqDiff, ↓reduceIte]; exact eS) (by simp only [upd_eq, Nat.reduceEqDiff, ↓reduceIte]; exact eL) (by simp only [upd_eq, Nat.reduceEqDiff, ↓reduceIte]; exact eI) (by simp only [upd_eq, Nat.reduceEqDiff, ↓reduceIte]; exact e0) (by simp only [upd_eq, Nat.reduceEqDiff, ↓reduceIte]; exact e5) (by simp only [upd_eq, Nat.reduceEqDiff, ↓reduceIte] <;> rfl) (by simp only [upd_eq, Nat.reduceEqDiff, ↓reduceIte]; exact e6)
      · have c2 : (mv.1 == 2) = false := by rw [beq_eq_false_iff_ne]; exact h2
        refine W_sq fun K hK => (W_text [true, true] (by kernel_rfl) ?_); simp only [↓List.toList_toArray, ↓rgd, ↓rgf, ↓reduceIte, Nat.reduceEqDiff, rg, ow_92, c2]
        refine hK _ _ ?_; clear hK K
        refine W_false (by simp only [evt, evc, upd_eq, Nat.reduceEqDiff, ↓reduceIte, ntT, ntF] <;> rfl) ?_
        by_cases h3 : mv.1 = 3
        · have c3 : (mv.1 == 3) = true := by rw [beq_iff_eq]; exact h3
          refine W_sq fun K hK => (W_text [true, true] (by kernel_rfl) ?_); simp only [↓List.toList_toArray, ↓rgd, ↓rgf, ↓reduceIte, Nat.reduceEqDiff, rg, ow_92, c3]
          refine hK _ _ ?_; clear hK K
          refine W_true (by simp only [evt, evc, upd_eq, Nat.reduceEqDiff, ↓reduceIte, ntT, ntF] <;> rfl) ?_
          refine W_rg fun K hK => (W_text [true, false, true] (by kernel_rfl) ?_); simp only [↓List.toList_toArray, ↓rgd, ↓rgf, ↓reduceIte, Nat.reduceEqDiff, rg, ow_92, e0, e5]
          refine do_call fn_128 (vs := #[ptr ib]) (by simp only [evt, evc, upd_eq, Nat.reduceEqDiff, ↓reduceIte, maT, maC, maN, isnN, isnS] <;> rfl) (mv_prev S3 bs hd hd' hbig mv h3) ?_
          rintro _ w4 ⟨p', rfl, S4, hg, hit⟩
          refine ⟨trivial, ?_⟩
          simp only [↓List.toList_toArray, ↓rgd, ↓rgf, ↓reduceIte, Nat.reduceEqDiff, rg, ow_92]
          refine hK _ _ ?_; clear hK K
          exact hmid _ w4 p' S4 hg hit (by simp only [upd_eq, Nat.reduceEqDiff, ↓reduceIte]; exact eS) (by simp only [upd_eq, Nat.reduceEqDiff, ↓reduceIte]; exact eL) (by simp only [upd_eq, Nat.reduceEqDiff, ↓reduceIte]; exact eI) (by simp only [upd_eq, Nat.reduceEqDiff, ↓reduceIte]; exact e0) (by simp only [upd_eq, Nat.reduceEqDiff, ↓reduceIte]; exact e5) (by simp only [upd_eq, Nat.reduceEqDiff, ↓reduceIte] <;> rfl) (by simp only [upd_eq, Nat.reduceEqDiff, ↓reduceIte]; exact e6)
        · have c3 : (mv.1 == 3) = false := by rw [beq_eq_false_iff_ne]; exact h3
          refine W_sq fun K hK => (W_text [true, true] (by kernel_rfl) ?_); simp only [↓List.toList_toArray, ↓rgd, ↓rgf, ↓reduceIte, Nat.reduceEqDiff, rg, ow_92, c3]
          refine hK _ _ ?_; clear hK K
          refine W_false (by simp only [evt, evc, upd_eq, Nat.reduceEqDiff, ↓reduceIte, ntT, ntF] <;> rfl) ?_
          by_cases h4 : mv.1 = 4
          · have c4 : (mv.1 == 4) = true := by rw [beq_iff_eq]; exact h4
            refine W_sq fun K hK => (W_text [true, true] (by kernel_rfl) ?_); simp only [↓List.toList_toArray, ↓rgd, ↓rgf, ↓reduceIte, Nat.reduceEqDiff, rg, ow_92, c4]
            refine hK _ _ ?_; clear hK K
            refine W_true (by simp only [evt, evc, upd_eq, Nat.reduceEqDiff, ↓reduceIte, ntT, ntF] <;> rfl) ?_
            refine W_rg fun K hK => (W_text [true, true, true, true, false, true] (by kernel_rfl) ?_); simp only [↓List.toList_toArray, ↓rgd, ↓rgf, ↓reduceIte, Nat.reduceEqDiff, rg, ow_92, e0, e5, key3]
            refine do_call fn_129 (vs := #[ptr ib, itV mv.2]) (by simp only [evt, evc, upd_eq, Nat.reduceEqDiff, ↓reduceIte, maT, maC, maN, isnN, isnS] <;> rfl) (mv_seek S3 bs hd hd' hbig mv h4) ?_
            rintro _ w4 ⟨p', rfl, S4, hg, hit⟩
            refine ⟨trivial, ?_⟩
            simp only [↓List.toList_toArray, ↓rgd, ↓rgf, ↓reduceIte, Nat.reduceEqDiff, rg, ow_92]
            refine hK _ _ ?_; clear hK K
            exact hmid _ w4 p' S4 hg hit (by simp only [upd_eq, Nat.reduceEqDiff, ↓reduceIte]; exact eS) (by simp only [upd_eq, Nat.reduceEqDiff, ↓reduceIte]; exact eL) (by simp only [upd_eq, Nat.reduceEqDiff, ↓reduceIte]; exact eI) (by simp only [upd_eq, Nat.reduceEqDiff, ↓reduceIte]; exact e0) (by simp only [upd_eq, Nat.reduceEqDiff, ↓reduceIte]; exact e5) (by simp only [upd_eq, Nat.reduceEqDiff, ↓reduceIte] <;> rfl) (by simp only [upd_eq, Nat.reduceEqDiff, ↓reduceIte]; exact e6)
          · have c4 : (mv.1 == 4) = false := by rw [beq_eq_false_iff_ne]; exact h4
            refine W_sq fun K hK => (W_text [true, true] (by kernel_rfl) ?_); simp only [↓List.toList_toArray, ↓rgd, ↓rgf, ↓reduceIte, Nat.reduceEqDiff, rg, ow_92, c4]
            refine hK _ _ ?_; clear hK K
            refine W_false (by simp only [evt, evc, upd_eq, Nat.reduceEqDiff, ↓reduceIte, ntT, ntF] <;> rfl) ?_
            by_cases h5 : mv.1 = 5
            · have c5 : (mv.1 == 5) = true := by rw [beq_iff_eq]; exact h5
              refine W_sq fun K hK => (W_text [true, true] (by kernel_rfl) ?_); simp only [↓List.toList_toArray, ↓rgd, ↓rgf, ↓reduceIte, Nat.reduceEqDiff, rg, ow_92, c5]
              refine hK _ _ ?_; clear hK K
              refine W_true (by simp only [evt, evc, upd_eq, Nat.reduceEqDiff, ↓reduceIte, ntT, ntF] <;> rfl) ?_
              refine W_rg fun K hK => (W_text [true, true, true, true, false, true] (by kernel_rfl) ?_); simp only [↓List.toList_toArray, ↓rgd, ↓rgf, ↓reduceIte, Nat.reduceEqDiff, rg, ow_92, e0, e5, key3]
              refine do_call fn_130 (vs := #[ptr ib, itV mv.2, hV (some w1.heap.size)]) (by simp only [evt, evc, upd_eq, Nat.reduceEqDiff, ↓reduceIte, maT, maC, maN, isnN, isnS, e5] <;> rfl) (mv_seekh S3 bs hd hd' hbig mv h5) ?_
              rintro _ w4 ⟨p', rfl, S4, hg, hit⟩
              refine ⟨trivial, ?_⟩
              simp only [↓List.toList_toArray, ↓rgd, ↓rgf, ↓reduceIte, Nat.reduceEqDiff, rg, ow_92]
              refine hK _ _ ?_; clear hK K
              exact hmid _ w4 p' S4 hg hit (by simp only [upd_eq, Nat.reduceEqDiff, ↓reduceIte]; exact eS) (by simp only [upd_eq, Nat.reduceEqDiff, ↓reduceIte]; exact eL) (by simp only [upd_eq, Nat.reduceEqDiff, ↓reduceIte]; exact eI) (by simp only [upd_eq, Nat.reduceEqDiff, ↓reduceIte]; exact e0) (by simp only [upd_eq, Nat.reduceEqDiff, ↓reduceIte]; exact e5) (by simp only [upd_eq, Nat.reduceEqDiff, ↓reduceIte] <;> rfl) (by simp only [upd_eq, Nat.reduceEqDiff, ↓reduceIte]; exact e6)
            · have c5 : (mv.1 == 5) = false := by rw [beq_eq_false_iff_ne]; exact h5
              refine W_sq fun K hK => (W_text [true, true] (by kernel_rfl) ?_); simp only [↓List.toList_toArray, ↓rgd, ↓rgf, ↓reduceIte, Nat.reduceEqDiff, rg, ow_92, c5]
              refine hK _ _ ?_; clear hK K
              refine W_false (by simp only [evt, evc, upd_eq, Nat.reduceEqDiff, ↓reduceIte, ntT, ntF] <;> rfl) ?_
              refine W_rg fun K hK => (W_text [true, false, true] (by kernel_rfl) ?_); simp only [↓List.toList_toArray, ↓rgd, ↓rgf, ↓reduceIte, Nat.reduceEqDiff, rg, ow_92, e0, e5]
              refine do_call fn_131 (vs := #[ptr ib]) (by simp only [evt, evc, upd_eq, Nat.reduceEqDiff, ↓reduceIte, maT, maC, maN, isnN, isnS] <;> rfl) (mv_first S3 bs hd hd' hbig mv ⟨h1, h2, h3, h4, h5⟩) ?_
              rintro _ w4 ⟨p', rfl, S4, hg, hit⟩
              refine ⟨trivial, ?_⟩
              simp only [↓List.toList_toArray, ↓rgd, ↓rgf, ↓reduceIte, Nat.reduceEqDiff, rg, ow_92]
              refine hK _ _ ?_; clear hK K
              exact hmid _ w4 p' S4 hg hit (by simp only [upd_eq, Nat.reduceEqDiff, ↓reduceIte]; exact eS) (by simp only [upd_eq, Nat.reduceEqDiff, ↓reduceIte]; exact eL) (by simp only [upd_eq, Nat.reduceEqDiff, ↓reduceIte]; exact eI) (by simp only [upd_eq, Nat.reduceEqDiff, ↓reduceIte]; exact e0) (by simp only [upd_eq, Nat.reduceEqDiff, ↓reduceIte]; exact e5) (by simp only [upd_eq, Nat.reduceEqDiff, ↓reduceIte] <;> rfl) (by simp only [upd_eq, Nat.reduceEqDiff, ↓reduceIte]; exact e6)
  · obtain rfl : k = ms.length := by omega
    have ht := lt_ff ms.length ms.length (by omega)
    refine W_sq fun K hK => (W_text [true] (by kernel_rfl) ?_); simp only [↓List.toList_toArray, ↓rgd, ↓rgf, ↓reduceIte, Nat.reduceEqDiff, rg, ow_92, eL, eI, ht]
    refine hK _ _ ?_; clear hK K
    refine W_seq (W_false (by simp only [evt, evc, upd_eq, Nat.reduceEqDiff, ↓reduceIte, ntT, ntF] <;> rfl) (W_exit ?_))
    simp only [andThen_exit, inBlk_exit, andThen_normal, ↓reduceIte]
    refine W_sq fun K hK => (W_text [true, true] (by kernel_rfl) ?_); simp only [↓List.toList_toArray, ↓rgd, ↓rgf, ↓reduceIte, Nat.reduceEqDiff, rg, ow_92]
    refine hK _ _ ?_; clear hK K
    rw [List.take_length] at hA
    refine W_ret (endQ_1 (by simp only [upd_eq, Nat.reduceEqDiff, ↓reduceIte] <;> rfl) ⟨P, ?_, hA, S.ext.mono fun y o hy g => by rcases g with g | g | g; exact .inl g; exact .inr g; omega, ?_, fun b o n c h => S.out.si b o n c h⟩)
    · have := S.out.sl
      rwa [List.length_map] at this
    · obtain ⟨full, sb, so, cap, h, _⟩ := S.ex
      exact ⟨full, sb, so, cap, h⟩
end Go.Proofs.Ytanmjbkbdmeckaa
/-
  What the reference answers to the moves of an iterator. No condition.
-/
set_option linter.unusedSimpArgs false
set_option linter.unusedVariables false
namespace Go.Proofs.Ytanmjbkbdmeckaa
open Go Go.Proofs
/-- A place, -1 for none. -/
def satI : Option Nat → Int
  | none => -1
  | some k => k
/-- The index that is asked for tells the place. -/
def Ask (l : List It) (a : Int) (s : Option Nat) : Prop := (∃ k, s = some k ∧ a = (k : Nat) ∧ k < l.length) ∨ (s = none ∧ ¬ (0 ≤ a ∧ a < l.length))
theorem Ask.nt {l : List It} {a : Int} {s : Option Nat} (h : Ask l a s) : Go.Proofs.Ytanmjbkbdmeckaa.nth l a = foI l s := by
  rcases h with ⟨k, rfl, rfl, hk⟩ | ⟨rfl, h⟩
  · unfold Go.Proofs.Ytanmjbkbdmeckaa.nth foI; rw [if_pos (by omega)]; simp
  · unfold Go.Proofs.Ytanmjbkbdmeckaa.nth foI
    by_cases ha : 0 ≤ a
    · rw [if_pos ha]; exact List.getElem?_eq_none (by omega)
    · rw [if_neg ha]; rfl
theorem Ask.if {l : List It} {n : Nat} {c : Prop} [Decidable c] {a : Int} (ha : a = (n : Nat)) (hn : c ↔ n < l.length) : Ask l a (if c then some n else none) := by
  by_cases h : c
  · rw [if_pos h]; exact .inl ⟨n, rfl, ha, hn.1 h⟩
  · rw [if_neg h]; exact .inr ⟨rfl, fun g => h (hn.2 (by omega))⟩
theorem Ask.lst (l : List It) : Ask l ((l.length : Int) - 1) (if 0 < l.length then some (l.length - 1) else none) := by
  by_cases h : 0 < l.length
  · rw [if_pos h]; exact .inl ⟨_, rfl, by omega, by omega⟩
  · rw [if_neg h]; exact .inr ⟨rfl, by omega⟩
theorem SlV.extS {w w' : World} {sz n : Nat} {v : Value} {l : List Value} (h : SlV w sz v n l) (x : Ext (fun y _ => w.heap.size ≤ y) w w') : SlV w' sz v n l := h.ext x fun b o cap hv j _ g => by have := h.lt hv; omega
theorem el_bo : elK Try.prog 66 = some (4, 1, 1, [.bool false]) := by kernel_rfl
theorem ni_bo : noInt Try.prog 66 = true := by kernel_rfl
theorem bs_bo1 (b : Bool) : bsV Try.prog 66 1 [(0, .bool b)] = some (4, [.bool b]) := by kernel_rfl
def Eb : Enc Bool where
  cel b := [.bool b]
  sz := 1
  len _ := rfl
  one b v hv := by simp at hv; subst hv; rfl
  pos := by decide
theorem bV_at {w : World} {b o : Nat} {l : List Bool} (h : Row w b o (flat Eb l)) {i : Nat} {x : Bool} (hi : l[i]? = some x) : rd w b (o + i) = some (.bool x) := by
  have := row_cell (row_at Eb h hi) (j := 0) rfl
  rwa [show Eb.sz = 1 from rfl, Nat.mul_one] at this
theorem z_fd : zK Try.prog 43 = some [.int .i64 0, .int .i64 0, .bool false] := by kernel_rfl
/-- The answers and what is told. -/
def ansI (R : List (Option It × Bool)) : List (It × Bool) := R.map fun r => foO r.1
def telI (R : List (Option It × Bool)) : List Bool := R.map fun r => r.2
theorem foO_ok (o : Option It) : (foO o).2 = o.isSome := by cases o <;> rfl
theorem toldI_o {α : Type} {X : List α} {s : Option Nat} {mv : Int × α} (h : ¬ mv.1 = 2 ∧ ¬ mv.1 = 3) : toldI X s mv = true := by unfold toldI; rw [if_neg (by omega)]
set_option maxHeartbeats 4000000 in
set_option maxRecDepth 8000 in
theorem siter_any (ord : List Int) (os : Value) (l : List It) (lv : Value) (ms : List (Int × It)) (mvs : Value) (w : World) (hO0 : SlInt w os ord) (hOb : ord.length ≤ 2147483647) (hl : SlI w lv l) (hlb : l.length ≤ 2147483647) (hms : SlV w 3 mvs ms.length (flat Em ms)) (hmb : ms.length ≤ 2147483647) :
    CallK Try.prog 59 #[os, lv, mvs] w fun v w' => ∃ v1 v2, v = .tuple #[v1, v2] ∧ SlV w' 3 v1 ms.length (flat Ef (ansI (runI l (fun k : It => lb O (rkI ord) (rkI ord k) l) ms).2)) ∧ SlV w' 1 v2 ms.length (flat Eb (telI (runI l (fun k : It => lb O (rkI ord) (rkI ord k) l) ms).2)) ∧ Ext noF w w' := by
  obtain ⟨ka, kc, hkv⟩ := hms.shape
  obtain ⟨la, lc, rfl⟩ := SlV.shape hl
  refine calls_of_W [.tmp 6, .tmp 7] Try.func59 rfl Try.ntmps59 Try.results59 (by simp) fun e he => ?_
  have e0 : e 0 = os := he 0 _ rfl
  have e1 : e 1 = .slice la l.length lc := he 1 _ rfl
  have e2 : e 2 = mvs := he 2 _ rfl
  clear he
  rw [hkv] at e2
  refine W_sq fun K hK => (W_text [true, true] (by kernel_rfl) ?_); simp only [↓List.toList_toArray, ↓rgd, ↓rgf, ↓reduceIte, Nat.reduceEqDiff, rg, ow_59]
  refine hK _ _ ?_; clear hK K
  refine W_sq fun K hK => (W_text [true] (by kernel_rfl) ?_); simp only [↓List.toList_toArray, ↓rgd, ↓rgf, ↓reduceIte, Nat.reduceEqDiff, rg, ow_59]
  refine hK _ _ ?_; clear hK K
  refine W_sq fun K hK => (W_text [true] (by kernel_rfl) ?_); simp only [↓List.toList_toArray, ↓rgd, ↓rgf, ↓reduceIte, Nat.reduceEqDiff, rg, ow_59]
  refine hK _ _ ?_; clear hK K
  refine W_sq fun K hK => (W_text [true] (by kernel_rfl) ?_); simp only [↓List.toList_toArray, ↓rgd, ↓rgf, ↓reduceIte, Nat.reduceEqDiff, rg, ow_59]
  refine hK _ _ ?_; clear hK K
  refine W_seq (W_seq ?_)
  refine W_rg fun K hK => (W_text [true, true, true] (by kernel_rfl) ?_); simp only [↓List.toList_toArray, ↓rgd, ↓rgf, ↓reduceIte, Nat.reduceEqDiff, rg, ow_59, e2]
  refine hK _ _ ?_; clear hK K
  show W _ _ _ _ _ _
  refine W_block (W_loop (fun mm e w' => ∃ (k : Nat) (s : Option Nat), mm = ms.length - k ∧ k ≤ ms.length ∧ s = (runI l (fun k : It => lb O (rkI ord) (rkI ord k) l) (ms.take k)).1 ∧ (∀ j, s = some j → j < l.length) ∧ e 15 = .slice ka ms.length kc ∧ e 16 = .int .i64 ms.length ∧ e 17 = .int .i64 k ∧ e 0 = os ∧ e 1 = .slice la l.length lc ∧ e 10 = .int .i64 (satI s) ∧
      OutE Ef w.heap.size (e 8) (ansI (runI l (fun k : It => lb O (rkI ord) (rkI ord k) l) (ms.take k)).2) w' ∧ OutE Eb w.heap.size (e 9) (telI (runI l (fun k : It => lb O (rkI ord) (rkI ord k) l) (ms.take k)).2) w' ∧ apart2 (e 8) (e 9) ∧ Ext (fun y _ => w.heap.size ≤ y) w w')
    ms.length ⟨0, none, by simp, by simp, rfl, fun j h => (by cases h), by simp only [upd_eq, Nat.reduceEqDiff, ↓reduceIte], by simp only [upd_eq, Nat.reduceEqDiff, ↓reduceIte], by simp only [upd_eq, Nat.reduceEqDiff, ↓reduceIte]; rfl, by simp only [upd_eq, Nat.reduceEqDiff, ↓reduceIte]; exact e0, by simp only [upd_eq, Nat.reduceEqDiff, ↓reduceIte]; exact e1, by simp only [upd_eq, Nat.reduceEqDiff, ↓reduceIte]; rfl, by simp only [upd_eq, Nat.reduceEqDiff, ↓reduceIte]; exact OutE.nil _ _ _, by simp only [upd_eq, Nat.reduceEqDiff, ↓reduceIte]; exact OutE.nil _ _ _, by simp only [upd_eq, Nat.reduceEqDiff, ↓reduceIte]; exact (fun b o n c o' n' c' h => by cases h), Ext.refl _ _⟩ ?_)
  clear e0 e1 e2 e
  rintro mm e w' ⟨k, s, rfl, hk, hsr, hs, eS, eL, eI, e0, e1, e10, hO, hT, hap, X⟩
  have hRl := runI_length l (fun k : It => lb O (rkI ord) (rkI ord k) l) (ms.take k)
  have hkl : (ms.take k).length = k := by rw [List.length_take]; omega
  rw [hkl] at hRl
  by_cases hlt : k < ms.length
  · have ht := lt_tt k ms.length hlt
    refine W_sq fun K hK => (W_text [true] (by kernel_rfl) ?_); simp only [↓List.toList_toArray, ↓rgd, ↓rgf, ↓reduceIte, Nat.reduceEqDiff, rg, ow_59, eL, eI, ht]
    refine hK _ _ ?_; clear hK K
    refine W_seq (W_true (by simp only [evt, evc, upd_eq, Nat.reduceEqDiff, ↓reduceIte, ntT, ntF] <;> rfl) (W_skip ?_))
    show W _ _ _ _ _ _
    obtain ⟨mv, hx⟩ : ∃ x, ms[k]? = some x := ⟨_, List.getElem?_eq_getElem hlt⟩
    obtain ⟨mb, mo, hka, row⟩ := SlV.at hms hkv hlt
    have hml := SlV.lt hms (hkv.trans (by rw [hka]))
    have ixx := mv_at (X.row row fun i _ g => by omega) hx
    rw [hka] at eS
    refine W_seq (W_block ?_)
    refine W_sq fun K hK => (W_text [true, true, false, false] (by kernel_rfl) ?_); simp only [↓List.toList_toArray, ↓rgd, ↓rgf, ↓reduceIte, Nat.reduceEqDiff, rg, ow_59, eS, eI, hlt, ixx]
    refine do_alloc z_mv fun w2 n2 => ⟨trivial, ?_⟩
    simp only [↓List.toList_toArray, ↓rgd, ↓rgf, ↓reduceIte, Nat.reduceEqDiff, rg, ow_59]
    refine do_store (v := mvV mv) (by simp only [evt, evc, upd_eq, Nat.reduceEqDiff, ↓reduceIte, ntT, ntF] <;> rfl) (by simp only [evt, evc, upd_eq, Nat.reduceEqDiff, ↓reduceIte, ntT, ntF] <;> rfl) sz_72 rfl n2.wok (by decide) (Em.one mv) fun w3 x3 r3 s3 => ⟨trivial, ?_⟩
    simp only [↓List.toList_toArray, ↓rgd, ↓rgf, ↓reduceIte, Nat.reduceEqDiff, rg, ow_59]
    refine hK _ _ ?_; clear hK K
    have s2 := n2.size
    have X3 : Ext noF w' w3 := noF_of n2.ext x3 fun y o hy h => by simp only [rng] at h; omega
    have r3' : Row w3 w'.heap.size 0 (Em.cel mv) := r3
    have op3 : rd w3 w'.heap.size 0 = some (.int .i64 mv.1) := (Row.cons.1 r3').1
    have key3 : rdA w3 w'.heap.size 1 2 = some (iV mv.2) := (r3'.drop 1).rdA 2 (Nat.le_refl _)
    rw [← hka] at eS
    have XX := X.tr (X3.mono fun _ _ _ g => g.elim)
    obtain ⟨ov, hov⟩ : ∃ ov, ov = e 8 := ⟨_, rfl⟩
    obtain ⟨tv, htv⟩ : ∃ tv, tv = e 9 := ⟨_, rfl⟩
    have hO3 := hO.ext X3
    have hT3 := hT.ext X3
    rw [← hov] at hO3 hap
    rw [← htv] at hT3 hap
    have e8 : e 8 = ov := hov.symm
    have e9 : e 9 = tv := htv.symm
    clear r3 r3' x3 n2 hO hT X
    refine W_sq fun K hK => (W_text [true] (by kernel_rfl) ?_); simp only [↓List.toList_toArray, ↓rgd, ↓rgf, ↓reduceIte, Nat.reduceEqDiff, rg, ow_59]
    refine hK _ _ ?_; clear hK K
    refine W_sqx fun J hJ => ?_
    have hmid : ∀ (e : Env) (w4 : World) (a : Int), Ask l a (stepI l (fun k : It => lb O (rkI ord) (rkI ord k) l) s mv) → Ext noF w3 w4 → e 0 = os → e 1 = .slice la l.length lc → e 8 = ov → e 9 = tv → e 10 = .int .i64 a → e 13 = .bool (toldI l s mv) → e 15 = .slice ka ms.length kc → e 16 = .int .i64 ms.length → e 17 = .int .i64 k → J e w4 := by
      clear eS eL eI e0 e1 e8 e9 e10 hov htv op3 key3 e
      intro e w4 a hA X4 e0 e1 e8 e9 e10 e13 eS eL eI
      refine hJ _ _ ?_; clear hJ J
      have XX4 := XX.tr (X4.mono fun _ _ _ g => g.elim)
      refine W_sq fun K hK => (W_text [true, true, false, false, false] (by kernel_rfl) ?_); simp only [↓List.toList_toArray, ↓rgd, ↓rgf, ↓reduceIte, Nat.reduceEqDiff, rg, ow_59, e1, e10]
      refine do_call fn_77 (vs := #[.slice la l.length lc, .int .i64 a]) (by simp only [evt, evc, upd_eq, Nat.reduceEqDiff, ↓reduceIte, maT, maC, maN, isnN, isnS] <;> rfl) (sat_any l _ a w4 (SlV.extS hl XX4) (by omega)) ?_
      rintro _ w5 ⟨rfl, X5⟩
      refine ⟨trivial, ?_⟩
      simp only [↓List.toList_toArray, ↓rgd, ↓rgf, ↓reduceIte, Nat.reduceEqDiff, rg, ow_59]
      refine do_alloc z_fd fun w6 n6 => ⟨trivial, ?_⟩
      simp only [↓List.toList_toArray, ↓rgd, ↓rgf, ↓reduceIte, Nat.reduceEqDiff, rg, ow_59]
      refine do_store (v := foV (foO (nth l a))) (by simp only [evt, evc, upd_eq, Nat.reduceEqDiff, ↓reduceIte, ntT, ntF] <;> rfl) (by simp only [evt, evc, upd_eq, Nat.reduceEqDiff, ↓reduceIte, ntT, ntF] <;> rfl) sz_43 rfl n6.wok (by decide) (oc_fo _) fun w7 x7 r7 s7 => ⟨trivial, ?_⟩
      simp only [↓List.toList_toArray, ↓rgd, ↓rgf, ↓reduceIte, Nat.reduceEqDiff, rg, ow_59]
      refine hK _ _ ?_; clear hK K
      have s6 := n6.size
      have X7 : Ext noF w4 w7 := noF_of (X5.tr n6.ext) x7 fun y o hy h => by have := X5.size; simp only [rng] at h; omega
      have r7' : Row w7 w5.heap.size 0 (Ef.cel (foO (nth l a))) := r7
      have fd7 : rdA w7 w5.heap.size 0 3 = some (foV (foO (nth l a))) := r7'.rdA 3 (Nat.le_refl _)
      have ok7 : rd w7 w5.heap.size 2 = some (.bool (foO (nth l a)).2) := (Row.cons.1 (Row.cons.1 (Row.cons.1 r7').2).2).1
      have hnth := hA.nt
      rw [foO_ok, hnth] at ok7
      rw [hnth] at fd7
      have hO7 := (hO3.ext X4).ext X7
      have hT7 := (hT3.ext X4).ext X7
      have XX7 := XX4.tr (X7.mono fun _ _ _ g => g.elim)
      clear r7 r7' x7 n6 X5
      refine W_sqx fun J hJ => ?_
      have hend : ∀ (e : Env), e 0 = os → e 1 = .slice la l.length lc → e 8 = ov → e 9 = tv → e 10 = .int .i64 (satI (stepI l (fun k : It => lb O (rkI ord) (rkI ord k) l) s mv)) → e 13 = .bool (toldI l s mv) → e 14 = ptr w5.heap.size → e 15 = .slice ka ms.length kc → e 16 = .int .i64 ms.length → e 17 = .int .i64 k → J e w7 := by
        clear eS eL eI e0 e1 e8 e9 e10 e13 e
        intro e e0 e1 e8 e9 e10 e13 e14 eS eL eI
        refine hJ _ _ ?_; clear hJ J
        refine W_rg fun K hK => (W_text [true, true, false, false, true, true, false, false, true, true] (by kernel_rfl) ?_); simp only [↓List.toList_toArray, ↓rgd, ↓rgf, ↓reduceIte, Nat.reduceEqDiff, rg, ow_59, e8, e9, e13, e14, ptr_eq, fd7]
        refine do_bsl rfl (bs_fo1 (foO (foI l (stepI l (fun k : It => lb O (rkI ord) (rkI ord k) l) s mv)))) fun w8 n8 => ⟨trivial, ?_⟩
        simp only [↓List.toList_toArray, ↓rgd, ↓rgf, ↓reduceIte, Nat.reduceEqDiff, rg, ow_59, e8, e9, e13]
        have hOl : (ansI (runI l (fun k : It => lb O (rkI ord) (rkI ord k) l) (ms.take k)).2).length = k := by unfold ansI; rw [List.length_map]; exact hRl
        have hTl : (telI (runI l (fun k : It => lb O (rkI ord) (rkI ord k) l) (ms.take k)).2).length = k := by unfold telI; rw [List.length_map]; exact hRl
        refine do_append (by simp only [evt, evc, upd_eq, Nat.reduceEqDiff, ↓reduceIte, ntT, ntF] <;> rfl) (by simp only [evt, evc, upd_eq, Nat.reduceEqDiff, ↓reduceIte, ntT, ntF] <;> rfl) el_fo rfl ni_fo (hO7.ext n8.ext).sl (u := .slice (some ⟨w7.heap.size, 0, none⟩) 1 1) (m := 1) (l' := Ef.cel (foO (foI l (stepI l (fun k : It => lb O (rkI ord) (rkI ord k) l) s mv)))) ⟨rfl, .inr ⟨_, 0, 1, rfl, Nat.le_refl _, n8.row, n8.wok.R (Nat.le_refl _)⟩⟩ (by omega) (by decide) (Ef.one _) fun v9 w9 a9 => ⟨trivial, ?_⟩
        have s8 := n8.size
        have sX7 := XX7.size
        obtain ⟨hO9, X9⟩ := (hO7.ext n8.ext).app (E := Ef) a9 (by omega)
        obtain ⟨hT9, hap9⟩ := app_other a9 (hT7.ext n8.ext).sl hap
        have s9 := X9.size
        simp only [↓List.toList_toArray, ↓rgd, ↓rgf, ↓reduceIte, Nat.reduceEqDiff, rg, ow_59, e8, e9, e13]
        refine do_bsl rfl (bs_bo1 (toldI l s mv)) fun w10 n10 => ⟨trivial, ?_⟩
        simp only [↓List.toList_toArray, ↓rgd, ↓rgf, ↓reduceIte, Nat.reduceEqDiff, rg, ow_59, e9]
        have hT10 : OutE Eb w.heap.size tv (telI (runI l (fun k : It => lb O (rkI ord) (rkI ord k) l) (ms.take k)).2) w10 := ⟨hT9.ext0 n10.ext, hT7.si⟩
        refine do_append (by simp only [evt, evc, upd_eq, Nat.reduceEqDiff, ↓reduceIte, ntT, ntF] <;> rfl) (by simp only [evt, evc, upd_eq, Nat.reduceEqDiff, ↓reduceIte, ntT, ntF] <;> rfl) el_bo rfl ni_bo hT10.sl (u := .slice (some ⟨w9.heap.size, 0, none⟩) 1 1) (m := 1) (l' := Eb.cel (toldI l s mv)) ⟨rfl, .inr ⟨_, 0, 1, rfl, Nat.le_refl _, n10.row, n10.wok.R (Nat.le_refl _)⟩⟩ (by omega) (by decide) (Eb.one _) fun v11 w11 a11 => ⟨trivial, ?_⟩
        have s10 := n10.size
        obtain ⟨hT11, X11⟩ := hT10.app (E := Eb) a11 (by omega)
        obtain ⟨hO11, hap11⟩ := app_other a11 (hO9.ext n10.ext).sl hap9.symm
        simp only [↓List.toList_toArray, ↓rgd, ↓rgf, ↓reduceIte, Nat.reduceEqDiff, rg, ow_59]
        refine hK _ _ ?_; clear hK K
        show W _ _ _ _ _ _
        have q1 := wadd1 k (by omega)
        refine W_rg fun K hK => (W_text [true, true] (by kernel_rfl) ?_); simp only [↓List.toList_toArray, ↓rgd, ↓rgf, ↓reduceIte, Nat.reduceEqDiff, rg, ow_59, eI, q1]
        refine hK _ _ ?_; clear hK K
        have hrs := runI_succ l (fun k : It => lb O (rkI ord) (rkI ord k) l) hx
        unfold nextI at hrs
        rw [← hsr] at hrs
        refine ⟨_, ?_, k + 1, (stepI l (fun k : It => lb O (rkI ord) (rkI ord k) l) s mv), rfl, hlt, by rw [hrs], fun j hj => stepI_lt hs hj, by simp only [upd_eq, Nat.reduceEqDiff, ↓reduceIte]; exact eS, by simp only [upd_eq, Nat.reduceEqDiff, ↓reduceIte]; exact eL, by simp only [upd_eq, Nat.reduceEqDiff, ↓reduceIte], by simp only [upd_eq, Nat.reduceEqDiff, ↓reduceIte]; exact e0, by simp only [upd_eq, Nat.reduceEqDiff, ↓reduceIte]; exact e1, by simp only [upd_eq, Nat.reduceEqDiff, ↓reduceIte]; exact e10, ?_, ?_, ?_, ?_⟩
        · omega
        · simp only [upd_eq, Nat.reduceEqDiff, ↓reduceIte]; rw [hrs]; unfold ansI; rw [List.map_append, List.map_singleton]; exact ⟨hO11, hO9.si⟩
        · simp only [upd_eq, Nat.reduceEqDiff, ↓reduceIte]; rw [hrs]; unfold telI; rw [List.map_append, List.map_singleton]; exact hT11
        · simp only [upd_eq, Nat.reduceEqDiff, ↓reduceIte]; exact hap11.symm
        · exact (((XX7.tr (n8.ext.mono fun _ _ _ g => g.elim)).tr X9).tr (n10.ext.mono fun _ _ _ g => g.elim)).tr X11
      clear hJ
      rcases hA with ⟨kk, hk1, rfl, hkl2⟩ | ⟨hk1, -⟩
      · have hso : (foI l (stepI l (fun k : It => lb O (rkI ord) (rkI ord k) l) s mv)).isSome = true := by rw [hk1]; unfold foI; simp [hkl2]
        rw [hso] at ok7
        refine W_sq fun K hK => (W_text [true, true, true] (by kernel_rfl) ?_); simp only [↓List.toList_toArray, ↓rgd, ↓rgf, ↓reduceIte, Nat.reduceEqDiff, rg, ow_59, ok7]
        refine hK _ _ ?_; clear hK K
        refine W_false (by simp only [evt, evc, upd_eq, Nat.reduceEqDiff, ↓reduceIte, ntT, ntF] <;> rfl) (W_skip ?_)
        exact hend _ (by simp only [upd_eq, Nat.reduceEqDiff, ↓reduceIte]; exact e0) (by simp only [upd_eq, Nat.reduceEqDiff, ↓reduceIte]; exact e1) (by simp only [upd_eq, Nat.reduceEqDiff, ↓reduceIte]; exact e8) (by simp only [upd_eq, Nat.reduceEqDiff, ↓reduceIte]; exact e9) (by simp only [upd_eq, Nat.reduceEqDiff, ↓reduceIte]; rw [hk1]; exact e10) (by simp only [upd_eq, Nat.reduceEqDiff, ↓reduceIte]; exact e13) (by simp only [upd_eq, Nat.reduceEqDiff, ↓reduceIte] <;> rfl) (by simp only [upd_eq, Nat.reduceEqDiff, ↓reduceIte]; exact eS) (by simp only [upd_eq, Nat.reduceEqDiff, ↓reduceIte]; exact eL) (by simp only [upd_eq, Nat.reduceEqDiff, ↓reduceIte]; exact eI)
      · have hso : (foI l (stepI l (fun k : It => lb O (rkI ord) (rkI ord k) l) s mv)).isSome = false := by rw [hk1]; rfl
        rw [hso] at ok7
        refine W_sq fun K hK => (W_text [true, true, true] (by kernel_rfl) ?_); simp only [↓List.toList_toArray, ↓rgd, ↓rgf, ↓reduceIte, Nat.reduceEqDiff, rg, ow_59, ok7]
        refine hK _ _ ?_; clear hK K
        refine W_true (by simp only [evt, evc, upd_eq, Nat.reduceEqDiff, ↓reduceIte, ntT, ntF] <;> rfl) ?_
        refine W_rg fun K hK => (W_text [true] (by kernel_rfl) ?_); simp only [↓List.toList_toArray, ↓rgd, ↓rgf, ↓reduceIte, Nat.reduceEqDiff, rg, ow_59]
        refine hK _ _ ?_; clear hK K
        exact hend _ (by simp only [upd_eq, Nat.reduceEqDiff, ↓reduceIte]; exact e0) (by simp only [upd_eq, Nat.reduceEqDiff, ↓reduceIte]; exact e1) (by simp only [upd_eq, Nat.reduceEqDiff, ↓reduceIte]; exact e8) (by simp only [upd_eq, Nat.reduceEqDiff, ↓reduceIte]; exact e9) (by simp only [upd_eq, Nat.reduceEqDiff, ↓reduceIte]; rw [hk1]; rfl) (by simp only [upd_eq, Nat.reduceEqDiff, ↓reduceIte]; exact e13) (by simp only [upd_eq, Nat.reduceEqDiff, ↓reduceIte] <;> rfl) (by simp only [upd_eq, Nat.reduceEqDiff, ↓reduceIte]; exact eS) (by simp only [upd_eq, Nat.reduceEqDiff, ↓reduceIte]; exact eL) (by simp only [upd_eq, Nat.reduceEqDiff, ↓reduceIte]; exact eI)
    clear hJ
    refine W_sq fun K hK => (W_text [true, true] (by kernel_rfl) ?_); simp only [↓List.toList_toArray, ↓rgd, ↓rgf, ↓reduceIte, Nat.reduceEqDiff, rg, ow_59, op3]
    refine hK _ _ ?_; clear hK K
    refine W_block (W_seq ?_)
    by_cases h2 : mv.1 = 2
    · have c2 : (mv.1 == 2) = true := by rw [beq_iff_eq]; exact h2
      refine W_sq fun K hK => (W_text [true, true] (by kernel_rfl) ?_); simp only [↓List.toList_toArray, ↓rgd, ↓rgf, ↓reduceIte, Nat.reduceEqDiff, rg, ow_59, c2]
      refine hK _ _ ?_; clear hK K
      refine W_true (by simp only [evt, evc, upd_eq, Nat.reduceEqDiff, ↓reduceIte, ntT, ntF] <;> rfl) (W_skip ?_)
      show W _ _ _ _ _ _
      refine W_true (by simp only [evt, evc, upd_eq, Nat.reduceEqDiff, ↓reduceIte, ntT, ntF] <;> rfl) ?_
      cases s with
      | some i =>
        have hil := hs i rfl
        have g0 : decide ((0 : Int) ≤ ((i : Nat) : Int)) = true := by simp
        have e10 : e 10 = .int .i64 ((i : Nat) : Int) := e10
        refine W_sq fun K hK => (W_text [true, true, true, true, true, true, true, true] (by kernel_rfl) ?_); simp only [↓List.toList_toArray, ↓rgd, ↓rgf, ↓reduceIte, Nat.reduceEqDiff, rg, ow_59, e10, g0]
        refine hK _ _ ?_; clear hK K
        refine W_sq fun K hK => (W_text [true, true, true, true, true, true, true] (by kernel_rfl) ?_); simp only [↓List.toList_toArray, ↓rgd, ↓rgf, ↓reduceIte, Nat.reduceEqDiff, rg, ow_59, e10, g0, op3, c2]
        refine hK _ _ ?_; clear hK K
        refine W_true (by simp only [evt, evc, upd_eq, Nat.reduceEqDiff, ↓reduceIte, ntT, ntF] <;> rfl) ?_
        have q1 := wadd1 i (by omega)
        refine W_rg fun K hK => (W_text [true, true, true] (by kernel_rfl) ?_); simp only [↓List.toList_toArray, ↓rgd, ↓rgf, ↓reduceIte, Nat.reduceEqDiff, rg, ow_59, e10, q1]
        refine hK _ _ ?_; clear hK K
        exact hmid _ _ ((i + 1 : Nat) : Int) (by rw [stepI_2 h2]; exact Ask.if rfl Iff.rfl) (Ext.refl _ _) (by simp only [upd_eq, Nat.reduceEqDiff, ↓reduceIte]; exact e0) (by simp only [upd_eq, Nat.reduceEqDiff, ↓reduceIte]; exact e1) (by simp only [upd_eq, Nat.reduceEqDiff, ↓reduceIte]; exact e8) (by simp only [upd_eq, Nat.reduceEqDiff, ↓reduceIte]; exact e9) (by simp only [upd_eq, Nat.reduceEqDiff, ↓reduceIte]) (by simp only [upd_eq, Nat.reduceEqDiff, ↓reduceIte]; rw [toldI_r (.inl h2)]; rfl) (by simp only [upd_eq, Nat.reduceEqDiff, ↓reduceIte]; exact eS) (by simp only [upd_eq, Nat.reduceEqDiff, ↓reduceIte]; exact eL) (by simp only [upd_eq, Nat.reduceEqDiff, ↓reduceIte]; exact eI)
      | none =>
        have g0 : decide ((0 : Int) ≤ -1) = false := rfl
        have e10 : e 10 = .int .i64 (-1) := e10
        obtain ⟨kn, hkn⟩ : ∃ kn : Bool, ((l.length : Int) == 0) = kn := ⟨_, rfl⟩
        have hk2 : toldI l none mv = kn := by
          rw [toldI_r (by omega), ← hkn]
          cases l with
          | nil => rfl
          | cons x l => simp; omega
        refine W_sq fun K hK => (W_text [true, true, true, true, true, true, true, true] (by kernel_rfl) ?_); simp only [↓List.toList_toArray, ↓rgd, ↓rgf, ↓reduceIte, Nat.reduceEqDiff, rg, ow_59, e1, e10, g0, hkn]
        refine hK _ _ ?_; clear hK K
        refine W_sq fun K hK => (W_text [true, true, true, true, true, true, true] (by kernel_rfl) ?_); simp only [↓List.toList_toArray, ↓rgd, ↓rgf, ↓reduceIte, Nat.reduceEqDiff, rg, ow_59, e10, g0]
        refine hK _ _ ?_; clear hK K
        refine W_false (by simp only [evt, evc, upd_eq, Nat.reduceEqDiff, ↓reduceIte, ntT, ntF] <;> rfl) ?_
        refine W_sq fun K hK => (W_text [true, true] (by kernel_rfl) ?_); simp only [↓List.toList_toArray, ↓rgd, ↓rgf, ↓reduceIte, Nat.reduceEqDiff, rg, ow_59, e10, g0]
        refine hK _ _ ?_; clear hK K
        refine W_false (by simp only [evt, evc, upd_eq, Nat.reduceEqDiff, ↓reduceIte, ntT, ntF] <;> rfl) (W_skip ?_)
        exact hmid _ _ (-1) (by rw [stepI_2 h2]; exact .inr ⟨rfl, by omega⟩) (Ext.refl _ _) (by simp only [upd_eq, Nat.reduceEqDiff, ↓reduceIte]; exact e0) (by simp only [upd_eq, Nat.reduceEqDiff, ↓reduceIte]; exact e1) (by simp only [upd_eq, Nat.reduceEqDiff, ↓reduceIte]; exact e8) (by simp only [upd_eq, Nat.reduceEqDiff, ↓reduceIte]; exact e9) (by simp only [upd_eq, Nat.reduceEqDiff, ↓reduceIte]; exact e10) (by simp only [upd_eq, Nat.reduceEqDiff, ↓reduceIte]; rw [hk2]) (by simp only [upd_eq, Nat.reduceEqDiff, ↓reduceIte]; exact eS) (by simp only [upd_eq, Nat.reduceEqDiff, ↓reduceIte]; exact eL) (by simp only [upd_eq, Nat.reduceEqDiff, ↓reduceIte]; exact eI)
    · have c2 : (mv.1 == 2) = false := by rw [beq_eq_false_iff_ne]; exact h2
      refine W_sq fun K hK => (W_text [true, true] (by kernel_rfl) ?_); simp only [↓List.toList_toArray, ↓rgd, ↓rgf, ↓reduceIte, Nat.reduceEqDiff, rg, ow_59, c2]
      refine hK _ _ ?_; clear hK K
      refine W_false (by simp only [evt, evc, upd_eq, Nat.reduceEqDiff, ↓reduceIte, ntT, ntF] <;> rfl) ?_
      by_cases h3 : mv.1 = 3
      · have c3 : (mv.1 == 3) = true := by rw [beq_iff_eq]; exact h3
        refine W_rg fun K hK => (W_text [true, true] (by kernel_rfl) ?_); simp only [↓List.toList_toArray, ↓rgd, ↓rgf, ↓reduceIte, Nat.reduceEqDiff, rg, ow_59, c3]
        refine hK _ _ ?_; clear hK K
        show W _ _ _ _ _ _
        refine W_true (by simp only [evt, evc, upd_eq, Nat.reduceEqDiff, ↓reduceIte, ntT, ntF] <;> rfl) ?_
        cases s with
        | some i =>
          have hil := hs i rfl
          have g0 : decide ((0 : Int) ≤ ((i : Nat) : Int)) = true := by simp
          have e10 : e 10 = .int .i64 ((i : Nat) : Int) := e10
          refine W_sq fun K hK => (W_text [true, true, true, true, true, true, true, true] (by kernel_rfl) ?_); simp only [↓List.toList_toArray, ↓rgd, ↓rgf, ↓reduceIte, Nat.reduceEqDiff, rg, ow_59, e10, g0]
          refine hK _ _ ?_; clear hK K
          refine W_sq fun K hK => (W_text [true, true, true, true, true, true, true] (by kernel_rfl) ?_); simp only [↓List.toList_toArray, ↓rgd, ↓rgf, ↓reduceIte, Nat.reduceEqDiff, rg, ow_59, e10, g0, op3, c2]
          refine hK _ _ ?_; clear hK K
          refine W_false (by simp only [evt, evc, upd_eq, Nat.reduceEqDiff, ↓reduceIte, ntT, ntF] <;> rfl) ?_
          refine W_sq fun K hK => (W_text [true, true] (by kernel_rfl) ?_); simp only [↓List.toList_toArray, ↓rgd, ↓rgf, ↓reduceIte, Nat.reduceEqDiff, rg, ow_59, e10, g0]
          refine hK _ _ ?_; clear hK K
          refine W_true (by simp only [evt, evc, upd_eq, Nat.reduceEqDiff, ↓reduceIte, ntT, ntF] <;> rfl) ?_
          have q1 : IntKind.i64.wrap ((i : Int) - 1) = (i : Int) - 1 := by rw [IntWalk.i64_in _ (by omega)]
          refine W_rg fun K hK => (W_text [true, true, true] (by kernel_rfl) ?_); simp only [↓List.toList_toArray, ↓rgd, ↓rgf, ↓reduceIte, Nat.reduceEqDiff, rg, ow_59, e10, q1]
          refine hK _ _ ?_; clear hK K
          exact hmid _ _ ((i : Int) - 1) (by
              rw [stepI_3 h3]
              show Ask l _ (if 0 < i then some (i - 1) else none)
              by_cases hi : 0 < i
              · rw [if_pos hi]; exact .inl ⟨i - 1, rfl, by omega, by omega⟩
              · rw [if_neg hi]; exact .inr ⟨rfl, by omega⟩) (Ext.refl _ _) (by simp only [upd_eq, Nat.reduceEqDiff, ↓reduceIte]; exact e0) (by simp only [upd_eq, Nat.reduceEqDiff, ↓reduceIte]; exact e1) (by simp only [upd_eq, Nat.reduceEqDiff, ↓reduceIte]; exact e8) (by simp only [upd_eq, Nat.reduceEqDiff, ↓reduceIte]; exact e9) (by simp only [upd_eq, Nat.reduceEqDiff, ↓reduceIte]) (by simp only [upd_eq, Nat.reduceEqDiff, ↓reduceIte]; rw [toldI_r (.inr h3)]; rfl) (by simp only [upd_eq, Nat.reduceEqDiff, ↓reduceIte]; exact eS) (by simp only [upd_eq, Nat.reduceEqDiff, ↓reduceIte]; exact eL) (by simp only [upd_eq, Nat.reduceEqDiff, ↓reduceIte]; exact eI)
        | none =>
          have g0 : decide ((0 : Int) ≤ -1) = false := rfl
          have e10 : e 10 = .int .i64 (-1) := e10
          obtain ⟨kn, hkn⟩ : ∃ kn : Bool, ((l.length : Int) == 0) = kn := ⟨_, rfl⟩
          have hk2 : toldI l none mv = kn := by
            rw [toldI_r (by omega), ← hkn]
            cases l with
            | nil => rfl
            | cons x l => simp; omega
          refine W_sq fun K hK => (W_text [true, true, true, true, true, true, true, true] (by kernel_rfl) ?_); simp only [↓List.toList_toArray, ↓rgd, ↓rgf, ↓reduceIte, Nat.reduceEqDiff, rg, ow_59, e1, e10, g0, hkn]
          refine hK _ _ ?_; clear hK K
          refine W_sq fun K hK => (W_text [true, true, true, true, true, true, true] (by kernel_rfl) ?_); simp only [↓List.toList_toArray, ↓rgd, ↓rgf, ↓reduceIte, Nat.reduceEqDiff, rg, ow_59, e10, g0]
          refine hK _ _ ?_; clear hK K
          refine W_false (by simp only [evt, evc, upd_eq, Nat.reduceEqDiff, ↓reduceIte, ntT, ntF] <;> rfl) ?_
          refine W_sq fun K hK => (W_text [true, true] (by kernel_rfl) ?_); simp only [↓List.toList_toArray, ↓rgd, ↓rgf, ↓reduceIte, Nat.reduceEqDiff, rg, ow_59, e10, g0]
          refine hK _ _ ?_; clear hK K
          refine W_false (by simp only [evt, evc, upd_eq, Nat.reduceEqDiff, ↓reduceIte, ntT, ntF] <;> rfl) (W_skip ?_)
          exact hmid _ _ (-1) (by rw [stepI_3 h3]; exact .inr ⟨rfl, by omega⟩) (Ext.refl _ _) (by simp only [upd_eq, Nat.reduceEqDiff, ↓reduceIte]; exact e0) (by simp only [upd_eq, Nat.reduceEqDiff, ↓reduceIte]; exact e1) (by simp only [upd_eq, Nat.reduceEqDiff, ↓reduceIte]; exact e8) (by simp only [upd_eq, Nat.reduceEqDiff, ↓reduceIte]; exact e9) (by simp only [upd_eq, Nat.reduceEqDiff, ↓reduceIte]; exact e10) (by simp only [upd_eq, Nat.reduceEqDiff, ↓reduceIte]; rw [hk2]) (by simp only [upd_eq, Nat.reduceEqDiff, ↓reduceIte]; exact eS) (by simp only [upd_eq, Nat.reduceEqDiff, ↓reduceIte]; exact eL) (by simp only [upd_eq, Nat.reduceEqDiff, ↓reduceIte]; exact eI)
      · have c3 : (mv.1 == 3) = false := by rw [beq_eq_false_iff_ne]; exact h3
        refine W_rg fun K hK => (W_text [true, true] (by kernel_rfl) ?_); simp only [↓List.toList_toArray, ↓rgd, ↓rgf, ↓reduceIte, Nat.reduceEqDiff, rg, ow_59, c3]
        refine hK _ _ ?_; clear hK K
        show W _ _ _ _ _ _
        refine W_false (by simp only [evt, evc, upd_eq, Nat.reduceEqDiff, ↓reduceIte, ntT, ntF] <;> rfl) ?_
        by_cases h1 : mv.1 = 1
        · have c1 : (mv.1 == 1) = true := by rw [beq_iff_eq]; exact h1
          refine W_sq fun K hK => (W_text [true, true] (by kernel_rfl) ?_); simp only [↓List.toList_toArray, ↓rgd, ↓rgf, ↓reduceIte, Nat.reduceEqDiff, rg, ow_59, c1]
          refine hK _ _ ?_; clear hK K
          refine W_true (by simp only [evt, evc, upd_eq, Nat.reduceEqDiff, ↓reduceIte, ntT, ntF] <;> rfl) ?_
          have q1 : IntKind.i64.wrap ((l.length : Int) - 1) = (l.length : Int) - 1 := by rw [IntWalk.i64_in _ (by omega)]
          refine W_rg fun K hK => (W_text [true, true, true, true] (by kernel_rfl) ?_); simp only [↓List.toList_toArray, ↓rgd, ↓rgf, ↓reduceIte, Nat.reduceEqDiff, rg, ow_59, e1, q1]
          refine hK _ _ ?_; clear hK K
          exact hmid _ _ ((l.length : Int) - 1) (by rw [stepI_1 h1]; exact Ask.lst l) (Ext.refl _ _) (by simp only [upd_eq, Nat.reduceEqDiff, ↓reduceIte]; exact e0) (by simp only [upd_eq, Nat.reduceEqDiff, ↓reduceIte]; exact e1) (by simp only [upd_eq, Nat.reduceEqDiff, ↓reduceIte]; exact e8) (by simp only [upd_eq, Nat.reduceEqDiff, ↓reduceIte]; exact e9) (by simp only [upd_eq, Nat.reduceEqDiff, ↓reduceIte]) (by simp only [upd_eq, Nat.reduceEqDiff, ↓reduceIte]; rw [toldI_o (by omega)]) (by simp only [upd_eq, Nat.reduceEqDiff, ↓reduceIte]; exact eS) (by simp only [upd_eq, Nat.reduceEqDiff, ↓reduceIte]; exact eL) (by simp only [upd_eq, Nat.reduceEqDiff, ↓reduceIte]; exact eI)
        · have c1 : (mv.1 == 1) = false := by rw [beq_eq_false_iff_ne]; exact h1
          refine W_sq fun K hK => (W_text [true, true] (by kernel_rfl) ?_); simp only [↓List.toList_toArray, ↓rgd, ↓rgf, ↓reduceIte, Nat.reduceEqDiff, rg, ow_59, c1]
          refine hK _ _ ?_; clear hK K
          refine W_false (by simp only [evt, evc, upd_eq, Nat.reduceEqDiff, ↓reduceIte, ntT, ntF] <;> rfl) ?_
          refine W_seq ?_
          by_cases h4 : mv.1 = 4
          · have c4 : (mv.1 == 4) = true := by rw [beq_iff_eq]; exact h4
            refine W_sq fun K hK => (W_text [true, true] (by kernel_rfl) ?_); simp only [↓List.toList_toArray, ↓rgd, ↓rgf, ↓reduceIte, Nat.reduceEqDiff, rg, ow_59, c4]
            refine hK _ _ ?_; clear hK K
            refine W_true (by simp only [evt, evc, upd_eq, Nat.reduceEqDiff, ↓reduceIte, ntT, ntF] <;> rfl) (W_skip ?_)
            show W _ _ _ _ _ _
            refine W_true (by simp only [evt, evc, upd_eq, Nat.reduceEqDiff, ↓reduceIte, ntT, ntF] <;> rfl) ?_
            have key : ((fun k : It => lb O (rkI ord) (rkI ord k) l) mv.2) = (fun k : It => lb O (rkI ord) (rkI ord k) l) mv.2 := rfl
            refine W_rg fun K hK => (W_text [true, true, true, true, false, true, true, true, true] (by kernel_rfl) ?_); simp only [↓List.toList_toArray, ↓rgd, ↓rgf, ↓reduceIte, Nat.reduceEqDiff, rg, ow_59, e0, e1, key3]
            refine do_call fn_79 (vs := #[os, .slice la l.length lc, iV mv.2]) (by simp only [evt, evc, upd_eq, Nat.reduceEqDiff, ↓reduceIte, maT, maC, maN, isnN, isnS] <;> rfl) (place_ord os ord l _ mv.2 w3 (SlV.extS hO0 XX) hOb (SlV.extS hl XX) (by omega)) ?_
            rintro _ w4 ⟨rfl, X4⟩
            refine ⟨trivial, ?_⟩
            simp only [↓List.toList_toArray, ↓rgd, ↓rgf, ↓reduceIte, Nat.reduceEqDiff, rg, ow_59]
            refine hK _ _ ?_; clear hK K
            exact hmid _ _ ((lb O (rkI ord) (rkI ord mv.2) l : Nat) : Int) (by rw [stepI_4 (pl := (fun k : It => lb O (rkI ord) (rkI ord k) l)) (by omega)]; exact Ask.if rfl Iff.rfl) X4 (by simp only [upd_eq, Nat.reduceEqDiff, ↓reduceIte]; exact e0) (by simp only [upd_eq, Nat.reduceEqDiff, ↓reduceIte]; exact e1) (by simp only [upd_eq, Nat.reduceEqDiff, ↓reduceIte]; exact e8) (by simp only [upd_eq, Nat.reduceEqDiff, ↓reduceIte]; exact e9) (by simp only [upd_eq, Nat.reduceEqDiff, ↓reduceIte]) (by simp only [upd_eq, Nat.reduceEqDiff, ↓reduceIte]; rw [toldI_o (by omega)]) (by simp only [upd_eq, Nat.reduceEqDiff, ↓reduceIte]; exact eS) (by simp only [upd_eq, Nat.reduceEqDiff, ↓reduceIte]; exact eL) (by simp only [upd_eq, Nat.reduceEqDiff, ↓reduceIte]; exact eI)
          · have c4 : (mv.1 == 4) = false := by rw [beq_eq_false_iff_ne]; exact h4
            refine W_sq fun K hK => (W_text [true, true] (by kernel_rfl) ?_); simp only [↓List.toList_toArray, ↓rgd, ↓rgf, ↓reduceIte, Nat.reduceEqDiff, rg, ow_59, c4]
            refine hK _ _ ?_; clear hK K
            refine W_false (by simp only [evt, evc, upd_eq, Nat.reduceEqDiff, ↓reduceIte, ntT, ntF] <;> rfl) ?_
            by_cases h5 : mv.1 = 5
            · have c5 : (mv.1 == 5) = true := by rw [beq_iff_eq]; exact h5
              refine W_rg fun K hK => (W_text [true, true] (by kernel_rfl) ?_); simp only [↓List.toList_toArray, ↓rgd, ↓rgf, ↓reduceIte, Nat.reduceEqDiff, rg, ow_59, c5]
              refine hK _ _ ?_; clear hK K
              show W _ _ _ _ _ _
              refine W_true (by simp only [evt, evc, upd_eq, Nat.reduceEqDiff, ↓reduceIte, ntT, ntF] <;> rfl) ?_
              have key : ((fun k : It => lb O (rkI ord) (rkI ord k) l) mv.2) = (fun k : It => lb O (rkI ord) (rkI ord k) l) mv.2 := rfl
              refine W_rg fun K hK => (W_text [true, true, true, true, false, true, true, true, true] (by kernel_rfl) ?_); simp only [↓List.toList_toArray, ↓rgd, ↓rgf, ↓reduceIte, Nat.reduceEqDiff, rg, ow_59, e0, e1, key3]
              refine do_call fn_79 (vs := #[os, .slice la l.length lc, iV mv.2]) (by simp only [evt, evc, upd_eq, Nat.reduceEqDiff, ↓reduceIte, maT, maC, maN, isnN, isnS] <;> rfl) (place_ord os ord l _ mv.2 w3 (SlV.extS hO0 XX) hOb (SlV.extS hl XX) (by omega)) ?_
              rintro _ w4 ⟨rfl, X4⟩
              refine ⟨trivial, ?_⟩
              simp only [↓List.toList_toArray, ↓rgd, ↓rgf, ↓reduceIte, Nat.reduceEqDiff, rg, ow_59]
              refine hK _ _ ?_; clear hK K
              exact hmid _ _ ((lb O (rkI ord) (rkI ord mv.2) l : Nat) : Int) (by rw [stepI_4 (pl := (fun k : It => lb O (rkI ord) (rkI ord k) l)) (by omega)]; exact Ask.if rfl Iff.rfl) X4 (by simp only [upd_eq, Nat.reduceEqDiff, ↓reduceIte]; exact e0) (by simp only [upd_eq, Nat.reduceEqDiff, ↓reduceIte]; exact e1) (by simp only [upd_eq, Nat.reduceEqDiff, ↓reduceIte]; exact e8) (by simp only [upd_eq, Nat.reduceEqDiff, ↓reduceIte]; exact e9) (by simp only [upd_eq, Nat.reduceEqDiff, ↓reduceIte]) (by simp only [upd_eq, Nat.reduceEqDiff, ↓reduceIte]; rw [toldI_o (by omega)]) (by simp only [upd_eq, Nat.reduceEqDiff, ↓reduceIte]; exact eS) (by simp only [upd_eq, Nat.reduceEqDiff, ↓reduceIte]; exact eL) (by simp only [upd_eq, Nat.reduceEqDiff, ↓reduceIte]; exact eI)
            · have c5 : (mv.1 == 5) = false := by rw [beq_eq_false_iff_ne]; exact h5
              refine W_rg fun K hK => (W_text [true, true] (by kernel_rfl) ?_); simp only [↓List.toList_toArray, ↓rgd, ↓rgf, ↓reduceIte, Nat.reduceEqDiff, rg, ow_59, c5]
              refine hK _ _ ?_; clear hK K
              show W _ _ _ _ _ _
              refine W_false (by simp only [evt, evc, upd_eq, Nat.reduceEqDiff, ↓reduceIte, ntT, ntF] <;> rfl) ?_
              refine W_rg fun K hK => (W_text [true] (by kernel_rfl) ?_); simp only [↓List.toList_toArray, ↓rgd, ↓rgf, ↓reduceIte, Nat.reduceEqDiff, rg, ow_59]
              refine hK _ _ ?_; clear hK K
              exact hmid _ _ ((0 : Nat) : Int) (by rw [stepI_0 ⟨h1, h2, h3, h4, h5⟩]; exact Ask.if rfl Iff.rfl) (Ext.refl _ _) (by simp only [upd_eq, Nat.reduceEqDiff, ↓reduceIte]; exact e0) (by simp only [upd_eq, Nat.reduceEqDiff, ↓reduceIte]; exact e1) (by simp only [upd_eq, Nat.reduceEqDiff, ↓reduceIte]; exact e8) (by simp only [upd_eq, Nat.reduceEqDiff, ↓reduceIte]; exact e9) (by simp only [upd_eq, Nat.reduceEqDiff, ↓reduceIte] <;> rfl) (by simp only [upd_eq, Nat.reduceEqDiff, ↓reduceIte]; rw [toldI_o (by omega)]) (by simp only [upd_eq, Nat.reduceEqDiff, ↓reduceIte]; exact eS) (by simp only [upd_eq, Nat.reduceEqDiff, ↓reduceIte]; exact eL) (by simp only [upd_eq, Nat.reduceEqDiff, ↓reduceIte]; exact eI)
  · obtain rfl : k = ms.length := by omega
    have ht := lt_ff ms.length ms.length (by omega)
    refine W_sq fun K hK => (W_text [true] (by kernel_rfl) ?_); simp only [↓List.toList_toArray, ↓rgd, ↓rgf, ↓reduceIte, Nat.reduceEqDiff, rg, ow_59, eL, eI, ht]
    refine hK _ _ ?_; clear hK K
    refine W_seq (W_false (by simp only [evt, evc, upd_eq, Nat.reduceEqDiff, ↓reduceIte, ntT, ntF] <;> rfl) (W_exit ?_))
    simp only [andThen_exit, inBlk_exit, andThen_normal, ↓reduceIte]
    refine W_sq fun K hK => (W_text [true, true, true, true] (by kernel_rfl) ?_); simp only [↓List.toList_toArray, ↓rgd, ↓rgf, ↓reduceIte, Nat.reduceEqDiff, rg, ow_59]
    refine hK _ _ ?_; clear hK K
    rw [List.take_length] at hO hT
    refine W_ret (endQ_2 (by simp only [upd_eq, Nat.reduceEqDiff, ↓reduceIte] <;> rfl) (by simp only [upd_eq, Nat.reduceEqDiff, ↓reduceIte] <;> rfl) ⟨_, _, rfl, ?_, ?_, noF_of (Ext.refl _ _) X fun y o hy h => by omega⟩)
    · have := hO.sl
      unfold ansI at this ⊢
      rwa [List.length_map, runI_length] at this
    · have := hT.sl
      unfold telI at this ⊢
      rwa [List.length_map, runI_length] at this
end Go.Proofs.Ytanmjbkbdmeckaa
/-
  The item of a key in a tree of whatever values. No condition.
-/
set_option linter.unusedSimpArgs false
set_option linter.unusedVariables false
namespace Go.Proofs.Ytanmjbkbdmeckaa
open Go Go.Proofs
set_option maxHeartbeats 800000 in
set_option maxRecDepth 8000 in
theorem getH_any (B m d : Nat) (ord : List Int) (hd : 2 ≤ d) (hd' : d ≤ 128) (iso : Int) (xs : List It) (F : Nat → Nat → Prop) (q : It) (w : World) (hM : TreeAt B ord w m d iso xs F) (hbig : xs.length ≤ 4294967295) :
    CallK Try.prog 143 #[ptr m, itV q, .pointer none] w fun v w' => v = gotG (at? O (rkI ord) (rkI ord q) xs) ∧ Ext noF w w' := by
  refine calls_of_W [.tmp 6, .tmp 7] Try.func143 rfl Try.ntmps143 Try.results143 (by simp) fun e he => ?_
  have e0 : e 0 = ptr m := he 0 _ rfl
  have e1 : e 1 = itV q := he 1 _ rfl
  have e2 : e 2 = .pointer none := he 2 _ rfl
  clear he
  refine W_sq fun K hK => (W_text [true, true] (by kernel_rfl) ?_); simp only [↓List.toList_toArray, ↓rgd, ↓rgf, ↓reduceIte, Nat.reduceEqDiff, rg, ow_143]
  refine hK _ _ ?_; clear hK K
  refine W_sq fun K hK => (W_text [true, true, true, false, true, true, true, true] (by kernel_rfl) ?_); simp only [↓List.toList_toArray, ↓rgd, ↓rgf, ↓reduceIte, Nat.reduceEqDiff, rg, ow_143, e0, e1, e2]
  refine do_call fn_168 (by simp only [evt, evc, upd_eq, Nat.reduceEqDiff, ↓reduceIte, maT, maC, maN, isnN, isnS] <;> rfl) (getHint_any B m d ord hd hd' iso xs F q none false w hM hbig (HOk.none _) (fun _ h => by cases h)) ?_
  rintro _ w1 ⟨rfl, X1, -⟩
  refine ⟨trivial, ?_⟩
  simp only [↓List.toList_toArray, ↓rgd, ↓rgf, ↓reduceIte, Nat.reduceEqDiff, rg, ow_143, gotG_eq]
  refine hK _ _ ?_; clear hK K
  exact W_ret (endQ_2 (by simp only [upd_eq, Nat.reduceEqDiff, ↓reduceIte] <;> rfl) (by simp only [upd_eq, Nat.reduceEqDiff, ↓reduceIte] <;> rfl) ⟨rfl, by first | exact X1.mono (fun _ _ _ g => by cases g) | exact (X1.mono (fun _ _ _ g => by cases g)).tr (Ext.dr _ _ _)⟩)
set_option maxHeartbeats 800000 in
set_option maxRecDepth 8000 in
theorem getT_any (t : Nat) (B m d : Nat) (ord : List Int) (hd : 2 ≤ d) (hd' : d ≤ 128) (iso : Int) (xs : List It) (F : Nat → Nat → Prop) (q : It) (w : World) (hM : TreeAt B ord w m d iso xs F) (hbig : xs.length ≤ 4294967295) (ht : BAt w t m) :
    CallK Try.prog 112 #[ptr t, itV q, .pointer none, .bool false] w fun v w' => v = itO (at? O (rkI ord) (rkI ord q) xs) ∧ Ext noF w w' := by
  refine calls_of_W [.tmp 8] Try.func112 rfl Try.ntmps112 Try.results112 (by simp) fun e he => ?_
  have e0 : e 0 = ptr t := he 0 _ rfl
  have e1 : e 1 = itV q := he 1 _ rfl
  have e2 : e 2 = .pointer none := he 2 _ rfl
  have e3 : e 3 = .bool false := he 3 _ rfl
  clear he
  have ht : rd w t 0 = some (ptr m) := ht
  refine W_sq fun K hK => (W_text [true] (by kernel_rfl) ?_); simp only [↓List.toList_toArray, ↓rgd, ↓rgf, ↓reduceIte, Nat.reduceEqDiff, rg, ow_112]
  refine hK _ _ ?_; clear hK K
  refine W_seq ?_
  refine W_sq fun K hK => (W_text [true, true] (by kernel_rfl) ?_); simp only [↓List.toList_toArray, ↓rgd, ↓rgf, ↓reduceIte, Nat.reduceEqDiff, rg, ow_112, e1, eq_any]
  refine hK _ _ ?_; clear hK K
  refine W_false (by simp only [evt, evc, upd_eq, Nat.reduceEqDiff, ↓reduceIte, ntT, ntF] <;> rfl) (W_skip ?_)
  show W _ _ _ _ _ _
  refine W_sq fun K hK => (W_text [true] (by kernel_rfl) ?_); simp only [↓List.toList_toArray, ↓rgd, ↓rgf, ↓reduceIte, Nat.reduceEqDiff, rg, ow_112]
  refine hK _ _ ?_; clear hK K
  refine W_sq fun K hK => (W_text [true] (by kernel_rfl) ?_); simp only [↓List.toList_toArray, ↓rgd, ↓rgf, ↓reduceIte, Nat.reduceEqDiff, rg, ow_112]
  refine hK _ _ ?_; clear hK K
  refine W_seq ?_
  refine W_sq fun K hK => (W_text [true] (by kernel_rfl) ?_); simp only [↓List.toList_toArray, ↓rgd, ↓rgf, ↓reduceIte, Nat.reduceEqDiff, rg, ow_112, e3]
  refine hK _ _ ?_; clear hK K
  refine W_false (by simp only [evt, evc, upd_eq, Nat.reduceEqDiff, ↓reduceIte, ntT, ntF] <;> rfl) ?_
  refine W_rg fun K hK => (W_text [true, true, true, true, true, true, false, true, true, true, true, true] (by kernel_rfl) ?_); simp only [↓List.toList_toArray, ↓rgd, ↓rgf, ↓reduceIte, Nat.reduceEqDiff, rg, ow_112, e0, e1, e2, ptr_eq, ht]
  refine do_call fn_143 (by simp only [evt, evc, upd_eq, Nat.reduceEqDiff, ↓reduceIte, maT, maC, maN, isnN, isnS] <;> rfl) (getH_any B m d ord hd hd' iso xs F q w hM hbig) ?_
  rintro _ w1 ⟨rfl, X1⟩
  refine ⟨trivial, ?_⟩
  simp only [↓List.toList_toArray, ↓rgd, ↓rgf, ↓reduceIte, Nat.reduceEqDiff, rg, ow_112, gotG_eq]
  refine hK _ _ ?_; clear hK K
  show W _ _ _ _ _ _
  refine W_seq ?_
  generalize at? O (rkI ord) (rkI ord q) xs = r at *
  cases r with
  | some y =>
    have hy : (some y).isSome = true := rfl
    refine W_sq fun K hK => (W_text [true, true] (by kernel_rfl) ?_); simp only [↓List.toList_toArray, ↓rgd, ↓rgf, ↓reduceIte, Nat.reduceEqDiff, rg, ow_112, hy]
    refine hK _ _ ?_; clear hK K
    refine W_false (by simp only [evt, evc, upd_eq, Nat.reduceEqDiff, ↓reduceIte, ntT, ntF] <;> rfl) (W_skip ?_)
    show W _ _ _ _ _ _
    refine W_sq fun K hK => (W_text [true, true] (by kernel_rfl) ?_); simp only [↓List.toList_toArray, ↓rgd, ↓rgf, ↓reduceIte, Nat.reduceEqDiff, rg, ow_112]
    refine hK _ _ ?_; clear hK K
    exact W_ret (endQ_1 (by simp only [upd_eq, Nat.reduceEqDiff, ↓reduceIte] <;> rfl) ⟨rfl, by first | exact X1 | exact X1.tr (Ext.dr _ _ _)⟩)
  | none =>
    have hy : (none : Option It).isSome = false := rfl
    refine W_sq fun K hK => (W_text [true, true] (by kernel_rfl) ?_); simp only [↓List.toList_toArray, ↓rgd, ↓rgf, ↓reduceIte, Nat.reduceEqDiff, rg, ow_112, hy]
    refine hK _ _ ?_; clear hK K
    refine W_true (by simp only [evt, evc, upd_eq, Nat.reduceEqDiff, ↓reduceIte, ntT, ntF] <;> rfl) ?_
    refine W_sq fun K hK => (W_text [true] (by kernel_rfl) ?_); simp only [↓List.toList_toArray, ↓rgd, ↓rgf, ↓reduceIte, Nat.reduceEqDiff, rg, ow_112]
    refine hK _ _ ?_; clear hK K
    refine W_ret ?_
    simp only [andThen_ret]
    exact endQ_1 (by simp only [upd_eq, Nat.reduceEqDiff, ↓reduceIte] <;> rfl) ⟨rfl, by first | exact X1 | exact X1.tr (Ext.dr _ _ _)⟩
set_option maxHeartbeats 800000 in
set_option maxRecDepth 8000 in
theorem get_any (t : Nat) (B m d : Nat) (ord : List Int) (hd : 2 ≤ d) (hd' : d ≤ 128) (iso : Int) (xs : List It) (F : Nat → Nat → Prop) (q : It) (w : World) (hM : TreeAt B ord w m d iso xs F) (hbig : xs.length ≤ 4294967295) (ht : BAt w t m) :
    CallK Try.prog 78 #[ptr t, itV q] w fun v w' => v = itO (at? O (rkI ord) (rkI ord q) xs) ∧ Ext noF w w' := by
  refine calls_of_W [.tmp 4] Try.func78 rfl Try.ntmps78 Try.results78 (by simp) fun e he => ?_
  have e0 : e 0 = ptr t := he 0 _ rfl
  have e1 : e 1 = itV q := he 1 _ rfl
  clear he
  refine W_sq fun K hK => (W_text [true] (by kernel_rfl) ?_); simp only [↓List.toList_toArray, ↓rgd, ↓rgf, ↓reduceIte, Nat.reduceEqDiff, rg, ow_78]
  refine hK _ _ ?_; clear hK K
  refine W_sq fun K hK => (W_text [true, true, false, true] (by kernel_rfl) ?_); simp only [↓List.toList_toArray, ↓rgd, ↓rgf, ↓reduceIte, Nat.reduceEqDiff, rg, ow_78, e0, e1]
  refine do_call fn_112 (by simp only [evt, evc, upd_eq, Nat.reduceEqDiff, ↓reduceIte, maT, maC, maN, isnN, isnS] <;> rfl) (getT_any t B m d ord hd hd' iso xs F q w hM hbig ht) ?_
  rintro _ w1 ⟨rfl, X1⟩
  refine ⟨trivial, ?_⟩
  simp only [↓List.toList_toArray, ↓rgd, ↓rgf, ↓reduceIte, Nat.reduceEqDiff, rg, ow_78]
  refine hK _ _ ?_; clear hK K
  exact W_ret (endQ_1 (by simp only [upd_eq, Nat.reduceEqDiff, ↓reduceIte] <;> rfl) ⟨rfl, X1⟩)
end Go.Proofs.Ytanmjbkbdmeckaa
/-
  The reference: lists from a key, down to a key, turned, cut off. No condition.
-/
set_option linter.unusedSimpArgs false
set_option linter.unusedVariables false
namespace Go.Proofs.Ytanmjbkbdmeckaa
open Go Go.Proofs
theorem treeG_asc (ord : List Int) (l : List It) : Asc O (rkI ord) (treeG ord l) := by
  have : ∀ (l : List It) (xs : List It), Asc O (rkI ord) xs → Asc O (rkI ord) (l.foldl (fun xs x => put O (rkI ord) x xs) xs) := by
    intro l
    induction l with
    | nil => intro xs h; exact h
    | cons x l ih => intro xs h; exact ih _ (put_asc O (rkI ord) h)
  exact this l [] List.Pairwise.nil
theorem iXi_at {w : World} {b o : Nat} {x : It} (h : Row w b o (Ei.cel x)) : rdA w b o 2 = some (iV x) := h.rdA 2 (Nat.le_refl _)

set_option maxHeartbeats 400000 in
set_option maxRecDepth 8000 in
theorem first_any (l : List It) (lv : Value) (n : Int) (w : World) (hl : SlI w lv l) :
    CallK Try.prog 35 #[lv, .int .i64 n] w fun v w' => SlI w' v (firstN n l) ∧ w' = w := by
  obtain ⟨a, c, hlv⟩ := hl.shape
  refine calls_of_W [.tmp 4] Try.func35 rfl Try.ntmps35 Try.results35 (by simp) fun e he => ?_
  have e0 : e 0 = .slice a l.length c := by rw [← hlv]; exact he 0 _ rfl
  have e1 : e 1 = .int .i64 n := he 1 _ rfl
  clear he
  refine W_sq fun K hK => (W_text [true] (by kernel_rfl) ?_); simp only [↓List.toList_toArray, ↓rgd, ↓rgf, ↓reduceIte, Nat.reduceEqDiff, rg, ow_35]
  refine hK _ _ ?_; clear hK K
  refine W_seq ?_
  by_cases h1 : n < 1
  · have t1 : decide (n < 1) = true := by simp [h1]
    refine W_sq fun K hK => (W_text [true, true, true, true, true, true, true, true] (by kernel_rfl) ?_); simp only [↓List.toList_toArray, ↓rgd, ↓rgf, ↓reduceIte, Nat.reduceEqDiff, rg, ow_35, e0, e1, t1]
    refine hK _ _ ?_; clear hK K
    refine W_true (by simp only [evt, evc, upd_eq, Nat.reduceEqDiff, ↓reduceIte, ntT, ntF] <;> rfl) ?_
    refine W_sq fun K hK => (W_text [true, true] (by kernel_rfl) ?_); simp only [↓List.toList_toArray, ↓rgd, ↓rgf, ↓reduceIte, Nat.reduceEqDiff, rg, ow_35, e0]
    refine hK _ _ ?_; clear hK K
    refine W_ret ?_
    simp only [andThen_ret]
    refine endQ_1 (by simp only [upd_eq, Nat.reduceEqDiff, ↓reduceIte] <;> rfl) ⟨?_, rfl⟩
    rw [firstN, if_pos (.inl h1), ← hlv]; exact hl
  · have t1 : decide (n < 1) = false := by simp; omega
    by_cases h2 : (l.length : Int) < n
    · have t2 : decide ((l.length : Int) < n) = true := by simp [h2]
      refine W_sq fun K hK => (W_text [true, true, true, true, true, true, true, true] (by kernel_rfl) ?_); simp only [↓List.toList_toArray, ↓rgd, ↓rgf, ↓reduceIte, Nat.reduceEqDiff, rg, ow_35, e0, e1, t1, t2]
      refine hK _ _ ?_; clear hK K
      refine W_true (by simp only [evt, evc, upd_eq, Nat.reduceEqDiff, ↓reduceIte, ntT, ntF] <;> rfl) ?_
      refine W_sq fun K hK => (W_text [true, true] (by kernel_rfl) ?_); simp only [↓List.toList_toArray, ↓rgd, ↓rgf, ↓reduceIte, Nat.reduceEqDiff, rg, ow_35, e0]
      refine hK _ _ ?_; clear hK K
      refine W_ret ?_
      simp only [andThen_ret]
      refine endQ_1 (by simp only [upd_eq, Nat.reduceEqDiff, ↓reduceIte] <;> rfl) ⟨?_, rfl⟩
      rw [firstN, if_pos (.inr h2), ← hlv]; exact hl
    · have t2 : decide ((l.length : Int) < n) = false := by simp; omega
      refine W_sq fun K hK => (W_text [true, true, true, true, true, true, true, true] (by kernel_rfl) ?_); simp only [↓List.toList_toArray, ↓rgd, ↓rgf, ↓reduceIte, Nat.reduceEqDiff, rg, ow_35, e0, e1, t1, t2]
      refine hK _ _ ?_; clear hK K
      refine W_false (by simp only [evt, evc, upd_eq, Nat.reduceEqDiff, ↓reduceIte, ntT, ntF] <;> rfl) (W_skip ?_)
      show W _ _ _ _ _ _
      obtain ⟨k, rfl⟩ : ∃ k : Nat, n = k := ⟨n.toNat, by omega⟩
      obtain ⟨sv, hs, hsl⟩ := sl_hi hl k (by omega)
      rw [hlv] at hs
      refine W_sq fun K hK => (W_text [true, true, true, true] (by kernel_rfl) ?_); simp only [↓List.toList_toArray, ↓rgd, ↓rgf, ↓reduceIte, Nat.reduceEqDiff, rg, ow_35, e0, e1, hs]
      refine hK _ _ ?_; clear hK K
      refine W_ret (endQ_1 (by simp only [upd_eq, Nat.reduceEqDiff, ↓reduceIte] <;> rfl) ⟨?_, rfl⟩)
      rw [firstN, if_neg (by omega), SlI, List.length_take]
      have : min (k : Int).toNat l.length = k := by omega
      rw [this]
      simpa using hsl
set_option maxHeartbeats 400000 in
set_option maxRecDepth 8000 in
theorem sgscan (d : Nat) (ord : List Int) (sv : Value) (nl : Bool) (l : List It) (lv : Value) (n : Int) (w : World) (hs : SlInt w sv ord) (hsb : ord.length ≤ 2147483647) (hl : SlI w lv l) (hbig : l.length ≤ 2147483647) :
    CallK Try.prog 51 #[mkV sv d nl, lv, .int .i64 n] w fun v w' => SlI w' v (firstN n (treeG ord l)) ∧ Ext noF w w' := by
  refine calls_of_W [.tmp 6] Try.func51 rfl Try.ntmps51 Try.results51 (by simp) fun e he => ?_
  have e0 : e 0 = mkV sv d nl := he 0 _ rfl
  have e1 : e 1 = lv := he 1 _ rfl
  have e2 : e 2 = .int .i64 n := he 2 _ rfl
  clear he
  refine W_sq fun K hK => (W_text [false, true] (by kernel_rfl) ?_); simp only [↓List.toList_toArray, ↓rgd, ↓rgf, ↓reduceIte, Nat.reduceEqDiff, rg, ow_51]
  refine do_box (by simp only [evt]; exact e0) fun w1 n1 => ⟨trivial, ?_⟩
  simp only [↓List.toList_toArray, ↓rgd, ↓rgf, ↓reduceIte, Nat.reduceEqDiff, rg, ow_51]
  refine hK _ _ ?_; clear hK K
  have r1 := mk_at0 (show Row w1 w.heap.size 0 (mkL sv d nl) from n1.row)
  refine W_sq fun K hK => (W_text [true, true, true, false, true, false, true] (by kernel_rfl) ?_); simp only [↓List.toList_toArray, ↓rgd, ↓rgf, ↓reduceIte, Nat.reduceEqDiff, rg, ow_51, e1, e2, r1]
  refine do_call fn_60 (by simp only [evt, evc, upd_eq, Nat.reduceEqDiff, ↓reduceIte, maT, maC, maN, isnN, isnS] <;> rfl) (stree_ord sv ord l lv w1 (SlV.ext0 hs n1.ext) hsb (SlV.ext0 hl n1.ext) hbig) ?_
  rintro v2 w2 ⟨hS2, X2⟩
  refine ⟨trivial, ?_⟩
  simp only [↓List.toList_toArray, ↓rgd, ↓rgf, ↓reduceIte, Nat.reduceEqDiff, rg, ow_51, e2]
  refine do_call fn_35 (by simp only [evt, evc, upd_eq, Nat.reduceEqDiff, ↓reduceIte, maT, maC, maN, isnN, isnS] <;> rfl) (first_any (treeG ord l) v2 n w2 hS2) ?_
  rintro v3 w3 ⟨hS3, hw3⟩
  obtain rfl : w2 = w3 := hw3.symm
  refine ⟨trivial, ?_⟩
  simp only [↓List.toList_toArray, ↓rgd, ↓rgf, ↓reduceIte, Nat.reduceEqDiff, rg, ow_51]
  refine hK _ _ ?_; clear hK K
  exact W_ret (endQ_1 (by simp only [upd_eq, Nat.reduceEqDiff, ↓reduceIte] <;> rfl) ⟨hS3, n1.ext.tr X2⟩)
set_option maxHeartbeats 800000 in
set_option maxRecDepth 8000 in
theorem sturned_any (l : List It) (lv : Value) (w : World) (hl : SlI w lv l) (hbig : l.length ≤ 2147483647) :
    CallK Try.prog 80 #[lv] w fun v w' => SlI w' v l.reverse ∧ Ext noF w w' := by
  refine calls_of_W [.tmp 2] Try.func80 rfl Try.ntmps80 Try.results80 (by simp) fun e he => ?_
  have e0 : e 0 = lv := he 0 _ rfl
  clear he
  obtain ⟨ka, kc, hkv⟩ := SlV.shape hl
  rw [hkv] at e0
  refine W_sq fun K hK => (W_text [true] (by kernel_rfl) ?_); simp only [↓List.toList_toArray, ↓rgd, ↓rgf, ↓reduceIte, Nat.reduceEqDiff, rg, ow_80]
  refine hK _ _ ?_; clear hK K
  refine W_sq fun K hK => (W_text [true] (by kernel_rfl) ?_); simp only [↓List.toList_toArray, ↓rgd, ↓rgf, ↓reduceIte, Nat.reduceEqDiff, rg, ow_80]
  refine hK _ _ ?_; clear hK K
  have q0 := pred_wrap l.length (by omega)
  refine W_seq (W_seq ?_)
  refine W_rg fun K hK => (W_text [true, true, true, true] (by kernel_rfl) ?_); simp only [↓List.toList_toArray, ↓rgd, ↓rgf, ↓reduceIte, Nat.reduceEqDiff, rg, ow_80, e0, q0]
  refine hK _ _ ?_; clear hK K
  show W _ _ _ _ _ _
  refine W_block (W_loop (fun mm e w' => mm ≤ l.length ∧ OutE Ei w.heap.size (e 3) (l.drop mm).reverse w' ∧ Ext (fun y _ => w.heap.size ≤ y) w w' ∧ e 0 = .slice ka l.length kc ∧ e 4 = .int .i64 ((mm : Int) - 1))
    l.length ⟨Nat.le_refl _, by simp only [upd_eq, Nat.reduceEqDiff, ↓reduceIte]; rw [List.drop_length]; exact OutE.nil _ _ _, Ext.refl _ _, by simp only [upd_eq, Nat.reduceEqDiff, ↓reduceIte]; exact e0, by simp only [upd_eq, Nat.reduceEqDiff, ↓reduceIte]⟩ ?_)
  clear e0 e
  rintro mm e w' ⟨hi, hO, X, e0, e4⟩
  have sX := X.size
  refine W_seq ?_
  by_cases hlt : 0 < mm
  · have ht := ge_tt mm hlt
    refine W_sq fun K hK => (W_text [true, true] (by kernel_rfl) ?_); simp only [↓List.toList_toArray, ↓rgd, ↓rgf, ↓reduceIte, Nat.reduceEqDiff, rg, ow_80, e4, ht]
    refine hK _ _ ?_; clear hK K
    refine W_true (by simp only [evt, evc, upd_eq, Nat.reduceEqDiff, ↓reduceIte, ntT, ntF] <;> rfl) (W_skip ?_)
    show W _ _ _ _ _ _
    refine W_seq (W_block ?_)
    have hil : mm - 1 < l.length := by omega
    obtain ⟨x, hx⟩ : ∃ x, l[mm - 1]? = some x := ⟨_, List.getElem?_eq_getElem hil⟩
    obtain ⟨ib, io, hka, row⟩ := SlV.at hl hkv hil
    have hibl := SlV.lt hl (hkv.trans (by rw [hka]))
    have hk := iV_at (X.row row fun _ _ h => by omega) hx
    rw [int_pred mm hlt] at e4
    rw [hka] at e0
    refine W_rg fun K hK => (W_text [true, true, true, true, true, false, false, true] (by kernel_rfl) ?_); simp only [↓List.toList_toArray, ↓rgd, ↓rgf, ↓reduceIte, Nat.reduceEqDiff, rg, ow_80, e0, e4, hil, hk]
    refine do_bsl rfl (bs_i1 x) fun w3 n3 => ⟨trivial, ?_⟩
    simp only [↓List.toList_toArray, ↓rgd, ↓rgf, ↓reduceIte, Nat.reduceEqDiff, rg, ow_80]
    have H3 := hO.ext n3.ext
    have s3 := n3.size
    have z3 : SlV w3 2 (.slice (some ⟨w'.heap.size, 0, none⟩) 1 1) 1 (Ei.cel x) := ⟨rfl, .inr ⟨_, 0, 1, rfl, Nat.le_refl _, n3.row, n3.wok.R (Nat.le_refl _)⟩⟩
    refine do_append (by simp only [evt, evc, upd_eq, Nat.reduceEqDiff, ↓reduceIte, ntT, ntF] <;> rfl) (by simp only [evt, evc, upd_eq, Nat.reduceEqDiff, ↓reduceIte, ntT, ntF] <;> rfl) el_i rfl ni_i H3.sl z3 (by simp; omega) (by decide) (Ei.one _) fun v4 w4 a4 => ⟨trivial, ?_⟩
    obtain ⟨H4, X4⟩ := H3.app a4 (by omega)
    simp only [↓List.toList_toArray, ↓rgd, ↓rgf, ↓reduceIte, Nat.reduceEqDiff, rg, ow_80]
    refine hK _ _ ?_; clear hK K
    show W _ _ _ _ _ _
    have q1 := pred_wrap (mm - 1) (by omega)
    refine W_rg fun K hK => (W_text [true, true, true] (by kernel_rfl) ?_); simp only [↓List.toList_toArray, ↓rgd, ↓rgf, ↓reduceIte, Nat.reduceEqDiff, rg, ow_80, e4, q1]
    refine hK _ _ ?_; clear hK K
    have hd : (l.drop (mm - 1)).reverse = (l.drop mm).reverse ++ [x] := by
      rw [List.drop_eq_getElem_cons hil, List.reverse_cons, show mm - 1 + 1 = mm by omega]
      congr 2
      exact (List.getElem?_eq_some_iff.1 hx).2
    refine ⟨mm - 1, by omega, by omega, by simp only [upd_eq, Nat.reduceEqDiff, ↓reduceIte]; rw [hd]; exact H4, (X.tr (n3.ext.mono fun _ _ _ h => h.elim)).tr X4, by simp only [upd_eq, Nat.reduceEqDiff, ↓reduceIte]; rw [hka]; exact e0, by simp only [upd_eq, Nat.reduceEqDiff, ↓reduceIte]⟩
  · obtain rfl : mm = 0 := by omega
    refine W_sq fun K hK => (W_text [true, true] (by kernel_rfl) ?_); simp only [↓List.toList_toArray, ↓rgd, ↓rgf, ↓reduceIte, Nat.reduceEqDiff, rg, ow_80, e4, ge_ff]
    refine hK _ _ ?_; clear hK K
    refine W_false (by simp only [evt, evc, upd_eq, Nat.reduceEqDiff, ↓reduceIte, ntT, ntF] <;> rfl) (W_exit ?_)
    simp only [andThen_exit, inBlk_exit, andThen_normal, ↓reduceIte]
    refine W_sq fun K hK => (W_text [true, true] (by kernel_rfl) ?_); simp only [↓List.toList_toArray, ↓rgd, ↓rgf, ↓reduceIte, Nat.reduceEqDiff, rg, ow_80]
    refine hK _ _ ?_; clear hK K
    exact W_ret (endQ_1 (by simp only [upd_eq, Nat.reduceEqDiff, ↓reduceIte] <;> rfl) ⟨hO.sl, noF_of (Ext.refl _ _) X fun y o hy h => by omega⟩)
set_option maxHeartbeats 800000 in
set_option maxRecDepth 8000 in
theorem sdown_any (os : Value) (ord : List Int) (l : List It) (lv : Value) (x : It) (w : World) (hO : SlInt w os ord) (hOb : ord.length ≤ 2147483647) (hl : SlI w lv l) (hbig : l.length ≤ 2147483647) (ha : Asc O (rkI ord) l) :
    CallK Try.prog 81 #[os, lv, iV x] w fun v w' => SlI w' v (l.take (ub O (rkI ord) (rkI ord x) l)).reverse ∧ Ext noF w w' := by
  obtain ⟨a, c, hlv⟩ : ∃ a c, lv = .slice a l.length c := by
    rcases hl.2 with ⟨rfl, h⟩ | ⟨b, o, cap, rfl, _⟩
    · exact ⟨none, 0, by rw [h]⟩
    · exact ⟨_, _, rfl⟩
  have hsome : ∀ i, i < l.length → ∃ b o cap, lv = .slice (some ⟨b, o, none⟩) l.length cap ∧ Row w b o (flat Ei l) ∧ b < w.heap.size := fun i hi => by
    rcases hl.2 with ⟨_, h⟩ | ⟨b, o, cap, h1, _, h2, h3⟩
    · omega
    · exact ⟨b, o, cap, h1, h2, wokR_lt h3⟩
  have hub := ub_le O (rkI ord) (rkI ord x) l
  refine calls_of_W [.tmp 6] Try.func81 rfl Try.ntmps81 Try.results81 (by simp) fun e he => ?_
  have e0 : e 0 = os := he 0 _ rfl
  have e1 : e 1 = lv := he 1 _ rfl
  have e2 : e 2 = iV x := he 2 _ rfl
  clear he
  refine W_sq fun K hK => (W_text [false, true] (by kernel_rfl) ?_); simp only [↓List.toList_toArray, ↓rgd, ↓rgf, ↓reduceIte, Nat.reduceEqDiff, rg, ow_81]
  refine do_box (by simp only [evt]; exact e2) fun w1 n1 => ⟨trivial, ?_⟩
  simp only [↓List.toList_toArray, ↓rgd, ↓rgf, ↓reduceIte, Nat.reduceEqDiff, rg, ow_81]
  refine hK _ _ ?_; clear hK K
  refine W_sq fun K hK => (W_text [true] (by kernel_rfl) ?_); simp only [↓List.toList_toArray, ↓rgd, ↓rgf, ↓reduceIte, Nat.reduceEqDiff, rg, ow_81]
  refine hK _ _ ?_; clear hK K
  have s1 := n1.size
  refine W_seq ((W_block (Q := fun ex e w' => ex = .normal ∧ e 1 = lv ∧ e 7 = .int .i64 (ub O (rkI ord) (rkI ord x) l : Nat) ∧ Ext noF w1 w') (W_loop (fun mm e w' => ∃ i : Nat, mm = l.length - i ∧ i ≤ l.length ∧ (∀ j y, j < i → l[j]? = some y → O.lt (rkI ord x) (rkI ord y) = false) ∧ e 0 = os ∧ e 1 = lv ∧ e 5 = .pointer (some ⟨w.heap.size, 0, none⟩) ∧ e 7 = .int .i64 i ∧ Ext noF w1 w')
    l.length ⟨0, by simp, by simp, fun j y h => by omega, ?_, ?_, ?_, ?_, Ext.refl _ _⟩ ?_)).mono ?_)
  · simp only [upd_eq, Nat.reduceEqDiff, ↓reduceIte]; exact e0
  · simp only [upd_eq, Nat.reduceEqDiff, ↓reduceIte]; exact e1
  · simp only [upd_eq, Nat.reduceEqDiff, ↓reduceIte]
  · simp only [upd_eq, Nat.reduceEqDiff, ↓reduceIte]; rfl
  · clear e0 e1 e2 e
    rintro mm e w' ⟨i, rfl, hi, hlow, e0, e1, e5, e7, X⟩
    have sX := X.size
    refine W_seq ?_
    by_cases hlt : i < l.length
    · have ht := lt_tt i l.length hlt
      obtain ⟨y, hy⟩ : ∃ y, l[i]? = some y := ⟨_, List.getElem?_eq_getElem hlt⟩
      obtain ⟨b, o, cap, hlv2, row, hb⟩ := hsome i hlt
      rw [hlv2] at e1
      have ix := iV_at (X.row (n1.ext.row row fun _ _ h => h) fun _ _ h => h) hy
      have bx : rdA w' w.heap.size 0 2 = some (iV x) := (X.row n1.row fun _ _ h => h).rdA 2 (by show 2 ≤ 2; omega)
      have M1 : readsB (some (some [b, w.heap.size])) b = true := by simp [readsB]
      have M2 : readsB (some (some [b, w.heap.size])) w.heap.size = true := by simp [readsB]
      refine W_sq fun K hK => (W_draw (some (some [b, w.heap.size])) none [(0, 0, 0), (0, 1, 0), (0, 2, 0), (0, 3, 0), (0, 4, 0), (0, 5, 0), (0, 6, 0), (0, 7, 0), (0, 8, 0), (0, 9, 0), (0, 10, 0), (1, 11, 0), (0, 12, 0), (0, 13, 0)] mixed (by kernel_rfl) ?_); simp only [↓List.toList_toArray, ↓rgd, ↓rgf, ↓reduceIte, Nat.reduceEqDiff, rg, ow_81, e0, e1, e5, e7, ht, hlt, ix, bx, M1, M2]
      refine do_call fn_52 (by simp only [evt, evc, upd_eq, Nat.reduceEqDiff, ↓reduceIte, maT, maC, maN, isnN, isnS] <;> rfl) (before_ord os ord x y _ (SlV.ext0 hO ((n1.ext.tr X).tr (Ext.dr noF _ _))) hOb) ?_
      rintro _ w2 ⟨rfl, x2⟩
      refine ⟨.inr (keeps_on x2 fun z hz => ⟨?_, fun _ h => h⟩), ?_⟩
      · rw [sz_dr]
        simp only [List.mem_cons, List.not_mem_nil, or_false] at hz
        omega
      simp only [↓List.toList_toArray, ↓rgd, ↓rgf, ↓reduceIte, Nat.reduceEqDiff, rg, ow_81]
      refine hK _ _ ?_; clear hK K
      have x2 := x2.od
      cases hq : O.lt (rkI ord x) (rkI ord y) with
      | false =>
        refine W_true (by simp only [evt, evc, upd_eq, Nat.reduceEqDiff, ↓reduceIte, ntT, ntF] <;> rfl) (W_skip ?_)
        show W _ _ _ _ _ _
        have q1 := wadd1 i (by omega)
        refine W_block ?_
        refine W_rg fun K hK => (W_text [true, true, true] (by kernel_rfl) ?_); simp only [↓List.toList_toArray, ↓rgd, ↓rgf, ↓reduceIte, Nat.reduceEqDiff, rg, ow_81, e7, q1]
        refine hK _ _ ?_; clear hK K
        refine ⟨_, ?_, i + 1, rfl, hlt, fun j z hj hz => ?_, ?_, ?_, ?_, ?_, X.tr x2⟩
        · omega
        · rcases Nat.lt_or_ge j i with g | g
          · exact hlow j z g hz
          · obtain rfl : j = i := by omega
            rw [hy] at hz; cases hz; exact hq
        · simp only [upd_eq, Nat.reduceEqDiff, ↓reduceIte]; exact e0
        · simp only [upd_eq, Nat.reduceEqDiff, ↓reduceIte]; rw [e1, hlv2]
        · simp only [upd_eq, Nat.reduceEqDiff, ↓reduceIte]; exact e5
        · simp only [upd_eq, Nat.reduceEqDiff, ↓reduceIte]
      | true =>
        have hu := ub_at O (rkI ord) ha hi hlow (fun z hz => by rw [hy] at hz; cases hz; exact hq)
        refine W_false (by simp only [evt, evc, upd_eq, Nat.reduceEqDiff, ↓reduceIte, ntT, ntF] <;> rfl) (W_exit ?_)
        simp only [andThen_exit, inBlk_exit, ↓reduceIte]
        refine ⟨trivial, ?_, ?_, X.tr x2⟩
        · simp only [upd_eq, Nat.reduceEqDiff, ↓reduceIte]; rw [e1, hlv2]
        · simp only [upd_eq, Nat.reduceEqDiff, ↓reduceIte]; rw [e7, hu]
    · obtain rfl : i = l.length := by omega
      have ht := lt_ff l.length l.length (by omega)
      have hu := ub_at O (rkI ord) ha (Nat.le_refl _) hlow (fun z hz => by have := (List.getElem?_eq_some_iff.1 hz).1; omega)
      rw [hlv] at e1
      refine W_sq fun K hK => (W_draw (some (some [])) none [(0, 0, 0), (0, 1, 0), (0, 2, 0), (0, 3, 0), (0, 4, 0), (0, 5, 0), (0, 6, 0), (0, 7, 0), (0, 8, 0), (0, 9, 0), (0, 10, 0), (1, 11, 0), (0, 12, 0), (0, 13, 0)] mixed (by kernel_rfl) ?_); simp only [↓List.toList_toArray, ↓rgd, ↓rgf, ↓reduceIte, Nat.reduceEqDiff, rg, ow_81, e0, e1, e5, e7, ht]
      refine hK _ _ ?_; clear hK K
      refine W_false (by simp only [evt, evc, upd_eq, Nat.reduceEqDiff, ↓reduceIte, ntT, ntF] <;> rfl) (W_exit ?_)
      simp only [andThen_exit, inBlk_exit, ↓reduceIte]
      refine ⟨trivial, ?_, ?_, X.tr (Ext.dr _ _ _)⟩
      · simp only [upd_eq, Nat.reduceEqDiff, ↓reduceIte]; rw [e1, hlv]
      · simp only [upd_eq, Nat.reduceEqDiff, ↓reduceIte]; rw [e7, hu]
  · clear e0 e1 e2 e
    rintro ex e w' ⟨rfl, e1, e7, X⟩
    show W _ _ _ _ _ _
    have X1 := n1.ext.tr X
    obtain ⟨sv, hs, hsl⟩ := sl_hi (SlV.ext0 hl X1) (ub O (rkI ord) (rkI ord x) l) hub
    have hS : SlI w' sv (l.take (ub O (rkI ord) (rkI ord x) l)) := by
      rw [SlI, List.length_take, Nat.min_eq_left hub]; exact hsl
    refine W_sq fun K hK => (W_text [true, true, true, false, true] (by kernel_rfl) ?_); simp only [↓List.toList_toArray, ↓rgd, ↓rgf, ↓reduceIte, Nat.reduceEqDiff, rg, ow_81, e1, e7, hs]
    refine do_call fn_80 (by simp only [evt, evc, upd_eq, Nat.reduceEqDiff, ↓reduceIte, maT, maC, maN, isnN, isnS] <;> rfl) (sturned_any _ sv w' hS (by rw [List.length_take]; omega)) ?_
    rintro v2 w2 ⟨hS2, X2⟩
    refine ⟨trivial, ?_⟩
    simp only [↓List.toList_toArray, ↓rgd, ↓rgf, ↓reduceIte, Nat.reduceEqDiff, rg, ow_81]
    refine hK _ _ ?_; clear hK K
    exact W_ret (endQ_1 (by simp only [upd_eq, Nat.reduceEqDiff, ↓reduceIte] <;> rfl) ⟨hS2, X1.tr X2⟩)
set_option maxHeartbeats 800000 in
set_option maxRecDepth 8000 in
theorem sgreverse (d : Nat) (ord : List Int) (sv : Value) (nl : Bool) (l : List It) (lv : Value) (n : Int) (w : World) (hs : SlInt w sv ord) (hsb : ord.length ≤ 2147483647) (hl : SlI w lv l) (hbig : l.length ≤ 2147483647) :
    CallK Try.prog 47 #[mkV sv d nl, lv, .int .i64 n] w fun v w' => SlI w' v (firstN n (treeG ord l).reverse) ∧ Ext noF w w' := by
  have htl := treeG_len ord l
  refine calls_of_W [.tmp 6] Try.func47 rfl Try.ntmps47 Try.results47 (by simp) fun e he => ?_
  have e0 : e 0 = mkV sv d nl := he 0 _ rfl
  have e1 : e 1 = lv := he 1 _ rfl
  have e2 : e 2 = .int .i64 n := he 2 _ rfl
  clear he
  refine W_sq fun K hK => (W_text [false, true] (by kernel_rfl) ?_); simp only [↓List.toList_toArray, ↓rgd, ↓rgf, ↓reduceIte, Nat.reduceEqDiff, rg, ow_47]
  refine do_box (by simp only [evt]; exact e0) fun w1 n1 => ⟨trivial, ?_⟩
  simp only [↓List.toList_toArray, ↓rgd, ↓rgf, ↓reduceIte, Nat.reduceEqDiff, rg, ow_47]
  refine hK _ _ ?_; clear hK K
  have r1 := mk_at0 (show Row w1 w.heap.size 0 (mkL sv d nl) from n1.row)
  refine W_sq fun K hK => (W_text [true, true, true, false, false, true, false, true] (by kernel_rfl) ?_); simp only [↓List.toList_toArray, ↓rgd, ↓rgf, ↓reduceIte, Nat.reduceEqDiff, rg, ow_47, e1, e2, r1]
  refine do_call fn_60 (by simp only [evt, evc, upd_eq, Nat.reduceEqDiff, ↓reduceIte, maT, maC, maN, isnN, isnS] <;> rfl) (stree_ord sv ord l lv w1 (SlV.ext0 hs n1.ext) hsb (SlV.ext0 hl n1.ext) hbig) ?_
  rintro v2 w2 ⟨hS2, X2⟩
  refine ⟨trivial, ?_⟩
  simp only [↓List.toList_toArray, ↓rgd, ↓rgf, ↓reduceIte, Nat.reduceEqDiff, rg, ow_47]
  refine do_call fn_80 (by simp only [evt, evc, upd_eq, Nat.reduceEqDiff, ↓reduceIte, maT, maC, maN, isnN, isnS] <;> rfl) (sturned_any (treeG ord l) v2 w2 hS2 (by omega)) ?_
  rintro v3 w3 ⟨hS3, X3⟩
  refine ⟨trivial, ?_⟩
  simp only [↓List.toList_toArray, ↓rgd, ↓rgf, ↓reduceIte, Nat.reduceEqDiff, rg, ow_47, e2]
  refine do_call fn_35 (by simp only [evt, evc, upd_eq, Nat.reduceEqDiff, ↓reduceIte, maT, maC, maN, isnN, isnS] <;> rfl) (first_any _ v3 n w3 hS3) ?_
  rintro v4 w4 ⟨hS4, hw4⟩
  obtain rfl : w3 = w4 := hw4.symm
  refine ⟨trivial, ?_⟩
  simp only [↓List.toList_toArray, ↓rgd, ↓rgf, ↓reduceIte, Nat.reduceEqDiff, rg, ow_47]
  refine hK _ _ ?_; clear hK K
  exact W_ret (endQ_1 (by simp only [upd_eq, Nat.reduceEqDiff, ↓reduceIte] <;> rfl) ⟨hS4, (n1.ext.tr X2).tr X3⟩)
set_option maxHeartbeats 400000 in
set_option maxRecDepth 8000 in
theorem sgdescend (d : Nat) (ord : List Int) (sv : Value) (nl : Bool) (l : List It) (lv : Value) (q : It) (n : Int) (w : World) (hs : SlInt w sv ord) (hsb : ord.length ≤ 2147483647) (hl : SlI w lv l) (hbig : l.length ≤ 2147483647) :
    CallK Try.prog 48 #[mkV sv d nl, lv, iV q, .int .i64 n] w fun v w' => SlI w' v (firstN n (((treeG ord l).take (ub O (rkI ord) (rkI ord q) (treeG ord l))).reverse)) ∧ Ext noF w w' := by
  refine calls_of_W [.tmp 8] Try.func48 rfl Try.ntmps48 Try.results48 (by simp) fun e he => ?_
  have e0 : e 0 = mkV sv d nl := he 0 _ rfl
  have e1 : e 1 = lv := he 1 _ rfl
  have e2 : e 2 = iV q := he 2 _ rfl
  have e3 : e 3 = .int .i64 n := he 3 _ rfl
  clear he
  have htl := treeG_len ord l
  refine W_sq fun K hK => (W_text [false, false, true] (by kernel_rfl) ?_); simp only [↓List.toList_toArray, ↓rgd, ↓rgf, ↓reduceIte, Nat.reduceEqDiff, rg, ow_48]
  refine do_box (by simp only [evt]; exact e0) fun w0 n0 => ⟨trivial, ?_⟩
  simp only [↓List.toList_toArray, ↓rgd, ↓rgf, ↓reduceIte, Nat.reduceEqDiff, rg, ow_48]
  refine do_box (by simp only [evt, upd_eq, Nat.reduceEqDiff, ↓reduceIte]; exact e2) fun wq nq => ⟨trivial, ?_⟩
  simp only [↓List.toList_toArray, ↓rgd, ↓rgf, ↓reduceIte, Nat.reduceEqDiff, rg, ow_48]
  refine hK _ _ ?_; clear hK K
  have s0 := n0.size
  have sq := nq.size
  have X0 := n0.ext.tr nq.ext
  have r1 := mk_at0 (nq.ext.row (show Row w0 w.heap.size 0 (mkL sv d nl) from n0.row) fun _ _ h => h)
  have iq := iXi_at (show Row wq w0.heap.size 0 (Ei.cel q) from nq.row)
  have M1 : readsB (some (some [w.heap.size, w0.heap.size])) w.heap.size = true := by simp [readsB]
  have M2 : readsB (some (some [w.heap.size, w0.heap.size])) w0.heap.size = true := by simp [readsB]
  refine W_sq fun K hK => (W_free (some (some [w.heap.size, w0.heap.size])) (.take 0 (.take 1 (.take 2 (.take 3 (.take 4 (.take 6 (.take 8 (.act 5 (.act 7 (.bar 9 (.take 10 .nil))))))))))) mixed (by kernel_rfl) ?_); simp only [↓List.toList_toArray, ↓rgd, ↓rgf, ↓reduceIte, Nat.reduceEqDiff, rg, ow_48, e1, e3, r1, iq, M1, M2]
  refine do_call fn_60 (by simp only [evt, evc, upd_eq, Nat.reduceEqDiff, ↓reduceIte, maT, maC, maN, isnN, isnS] <;> rfl) (stree_ord sv ord l lv _ (SlV.ext0 hs (X0.tr (Ext.dr _ _ _))) hsb (SlV.ext0 hl (X0.tr (Ext.dr _ _ _))) hbig) ?_
  rintro v2 w2 ⟨hS2, X2⟩
  refine ⟨.inr (keeps_on X2 fun y hy => ⟨?_, fun _ g => g⟩), ?_⟩
  · rw [sz_dr]
    simp only [List.mem_cons, List.not_mem_nil, or_false] at hy
    omega
  have X2 := X2.od
  have s2 := X2.size
  have X02 := X0.tr X2
  simp only [↓List.toList_toArray, ↓rgd, ↓rgf, ↓reduceIte, Nat.reduceEqDiff, rg, ow_48]
  refine do_call fn_81 (by simp only [evt, evc, upd_eq, Nat.reduceEqDiff, ↓reduceIte, maT, maC, maN, isnN, isnS] <;> rfl) (sdown_any sv ord (treeG ord l) v2 q w2 (SlV.ext0 hs X02) hsb hS2 (by omega) (treeG_asc ord l)) ?_
  rintro v3 w3 ⟨hS3, X3⟩
  refine ⟨.inr (keeps_on X3 fun y hy => ⟨?_, fun _ g => g⟩), ?_⟩
  · simp only [List.mem_cons, List.not_mem_nil, or_false] at hy
    omega
  simp only [↓List.toList_toArray, ↓rgd, ↓rgf, ↓reduceIte, Nat.reduceEqDiff, rg, ow_48, e3]
  refine do_call fn_35 (by simp only [evt, evc, upd_eq, Nat.reduceEqDiff, ↓reduceIte, maT, maC, maN, isnN, isnS] <;> rfl) (first_any _ v3 n w3 hS3) ?_
  rintro v4 w4 ⟨hS4, hw4⟩
  obtain rfl : w3 = w4 := hw4.symm
  refine ⟨trivial, ?_⟩
  simp only [↓List.toList_toArray, ↓rgd, ↓rgf, ↓reduceIte, Nat.reduceEqDiff, rg, ow_48]
  refine hK _ _ ?_; clear hK K
  exact W_ret (endQ_1 (by simp only [upd_eq, Nat.reduceEqDiff, ↓reduceIte] <;> rfl) ⟨hS4, X02.tr X3⟩)
end Go.Proofs.Ytanmjbkbdmeckaa
/-
  The law on Get. No condition.
-/
set_option linter.unusedSimpArgs false
set_option linter.unusedVariables false
namespace Go.Proofs.Ytanmjbkbdmeckaa
open Go Go.Proofs
/-- What is found for each key. -/
def gets (ord : List Int) (xs ks : List It) : List (It × Bool) := ks.map fun k => foO (at? O (rkI ord) (rkI ord k) xs)
theorem gets_len (ord : List Int) (xs ks : List It) : (gets ord xs ks).length = ks.length := by simp [gets]
theorem gets_succ {ord : List Int} {xs ks : List It} {k : Nat} {x : It} (hx : ks[k]? = some x) : gets ord xs (ks.take (k + 1)) = gets ord xs (ks.take k) ++ [foO (at? O (rkI ord) (rkI ord x) xs)] := by rw [take_snoc hx]; simp [gets]
theorem nth_nat (l : List It) (i : Nat) : nth l (i : Int) = l[i]? := by unfold nth; rw [if_pos (by omega)]; simp
def exK : List It := [(3, 0), (4, 0), (9, 1)]
theorem bs_exK : bsV Try.prog 25 3 [(0, iV (3, 0)), (1, iV (4, 0)), (2, iV (9, 1))] = some (33, flat Ei exK) := by kernel_rfl
set_option maxHeartbeats 400000 in
set_option maxRecDepth 8000 in
theorem exKeys_any (w : World) : CallK Try.prog 19 #[] w fun v w' => SlI w' v exK ∧ Ext noF w w' := by
  refine calls_of_W (args := []) [.tmp 0] Try.func19 rfl Try.ntmps19 Try.results19 (by simp) fun e he => ?_
  clear he
  refine W_sq fun K hK => (W_text [true] (by kernel_rfl) ?_); simp only [↓List.toList_toArray, ↓rgd, ↓rgf, ↓reduceIte, Nat.reduceEqDiff, rg]
  refine hK _ _ ?_; clear hK K
  refine W_sq fun K hK => (W_text [true, true, true, false, true] (by kernel_rfl) ?_); simp only [↓List.toList_toArray, ↓rgd, ↓rgf, ↓reduceIte, Nat.reduceEqDiff, rg, bu_item, bu_itemK]
  refine do_bsl rfl bs_exK fun w1 n1 => ⟨trivial, ?_⟩
  simp only [↓List.toList_toArray, ↓rgd, ↓rgf, ↓reduceIte, Nat.reduceEqDiff, rg]
  refine hK _ _ ?_; clear hK K
  exact W_ret (endQ_1 (by simp only [upd_eq, Nat.reduceEqDiff, ↓reduceIte] <;> rfl) ⟨⟨rfl, .inr ⟨_, 0, 3, rfl, Nat.le_refl _, n1.row, n1.wok.R (Nat.le_refl _)⟩⟩, n1.ext⟩)
set_option maxHeartbeats 1000000 in
set_option maxRecDepth 8000 in
theorem impl_bget (d : Nat) (hd : DOk d) (ord : List Int) (sv : Value) (nl : Bool) (l : List It) (lv : Value) (ks : List It) (kv : Value) (w : World) (hs : SlInt w sv ord) (hsb : ord.length ≤ 2147483647) (hl : SlI w lv l) (hbig : l.length ≤ 2147483647) (hks : SlI w kv ks) (hkb : ks.length ≤ 2147483647) :
    CallK Try.prog 45 #[mkV sv d nl, lv, kv] w fun v w' => SlV w' 3 v ks.length (flat Ef (gets ord (treeG ord l) ks)) ∧ Ext noF w w' := by
  refine calls_of_W [.tmp 6] Try.func45 rfl Try.ntmps45 Try.results45 (by simp) fun e he => ?_
  have e0 : e 0 = mkV sv d nl := he 0 _ rfl
  have e1 : e 1 = lv := he 1 _ rfl
  have e2 : e 2 = kv := he 2 _ rfl
  clear he
  obtain ⟨ka, kc, hkv⟩ := hks.shape
  rw [hkv] at e2
  have htl := treeG_len ord l
  obtain ⟨hd2, hd3⟩ := hd.of
  refine W_sq fun K hK => (W_text [false, true] (by kernel_rfl) ?_); simp only [↓List.toList_toArray, ↓rgd, ↓rgf, ↓reduceIte, Nat.reduceEqDiff, rg, ow_45]
  refine do_box (by simp only [evt]; exact e0) fun w1 n1 => ⟨trivial, ?_⟩
  simp only [↓List.toList_toArray, ↓rgd, ↓rgf, ↓reduceIte, Nat.reduceEqDiff, rg, ow_45]
  refine hK _ _ ?_; clear hK K
  have rm := mk_at (show Row w1 w.heap.size 0 (mkL sv d nl) from n1.row)
  refine W_sq fun K hK => (W_text [true, true, false, true] (by kernel_rfl) ?_); simp only [↓List.toList_toArray, ↓rgd, ↓rgf, ↓reduceIte, Nat.reduceEqDiff, rg, ow_45, e1, rm]
  refine do_call fn_53 (by simp only [evt, evc, upd_eq, Nat.reduceEqDiff, ↓reduceIte, maT, maC, maN, isnN, isnS] <;> rfl) (growB_any d hd ord sv nl l lv w1 (SlV.ext0 hs n1.ext) hsb (SlV.ext0 hl n1.ext) (by omega)) ?_
  rintro _ w2 ⟨X2, t, B, m, F, rfl, hbt, htw, hFt, htl2, hM, hmw, hmt, hFw, hBw⟩
  have X2 := n1.ext.tr X2
  have sX2 := X2.size
  refine ⟨trivial, ?_⟩
  simp only [↓List.toList_toArray, ↓rgd, ↓rgf, ↓reduceIte, Nat.reduceEqDiff, rg, ow_45]
  refine hK _ _ ?_; clear hK K
  have hml := hM.mlt
  have hltF := hM.lt
  clear n1
  refine W_sq fun K hK => (W_text [true] (by kernel_rfl) ?_); simp only [↓List.toList_toArray, ↓rgd, ↓rgf, ↓reduceIte, Nat.reduceEqDiff, rg, ow_45]
  refine hK _ _ ?_; clear hK K

  refine W_seq (W_seq ?_)
  refine W_rg fun K hK => (W_text [true, true, true] (by kernel_rfl) ?_); simp only [↓List.toList_toArray, ↓rgd, ↓rgf, ↓reduceIte, Nat.reduceEqDiff, rg, ow_45, e2]
  refine hK _ _ ?_; clear hK K
  show W _ _ _ _ _ _
  have hk3 := SlV.ext0 hks X2
  refine W_block (W_loop (fun mm e w' => ∃ k : Nat, mm = ks.length - k ∧ k ≤ ks.length ∧ e 14 = .slice ka ks.length kc ∧ e 15 = .int .i64 ks.length ∧ e 16 = .int .i64 k ∧ e 7 = ptr t ∧ Outs w2.heap.size (e 8) (gets ord (treeG ord l) (ks.take k)) w' ∧ Ext (fun y _ => w2.heap.size ≤ y) w2 w')
    ks.length ⟨0, by simp, by simp, by simp only [upd_eq, Nat.reduceEqDiff, ↓reduceIte], by simp only [upd_eq, Nat.reduceEqDiff, ↓reduceIte], by simp only [upd_eq, Nat.reduceEqDiff, ↓reduceIte]; rfl, by simp only [upd_eq, Nat.reduceEqDiff, ↓reduceIte], by simp only [upd_eq, Nat.reduceEqDiff, ↓reduceIte]; exact Outs.nil _ _, Ext.refl _ _⟩ ?_)
  clear e0 e1 e2 e
  rintro mm e w' ⟨k, rfl, hk, eS, eL, eI, e7, hO, X⟩
  by_cases hlt : k < ks.length
  · have ht := lt_tt k ks.length hlt
    refine W_sq fun K hK => (W_text [true] (by kernel_rfl) ?_); simp only [↓List.toList_toArray, ↓rgd, ↓rgf, ↓reduceIte, Nat.reduceEqDiff, rg, ow_45, eL, eI, ht]
    refine hK _ _ ?_; clear hK K
    refine W_seq (W_true (by simp only [evt, evc, upd_eq, Nat.reduceEqDiff, ↓reduceIte, ntT, ntF] <;> rfl) (W_skip ?_))
    show W _ _ _ _ _ _
    obtain ⟨x, hx⟩ : ∃ x, ks[k]? = some x := ⟨_, List.getElem?_eq_getElem hlt⟩
    obtain ⟨ib, io, hka, row⟩ := hks.at hkv hlt
    have hibl := hks.lt (hkv.trans (by rw [hka]))
    have ixx := iV_at (X.row (X2.row row fun _ _ h => h) (fun _ _ h => by have := h; omega)) hx
    rw [hka] at eS
    refine W_seq (W_block ?_)
    refine W_sq fun K hK => (W_text [true, true, false, false] (by kernel_rfl) ?_); simp only [↓List.toList_toArray, ↓rgd, ↓rgf, ↓reduceIte, Nat.reduceEqDiff, rg, ow_45, eS, eI, hlt, ixx]
    refine do_alloc z_item fun w2 n2 => ⟨trivial, ?_⟩
    simp only [↓List.toList_toArray, ↓rgd, ↓rgf, ↓reduceIte, Nat.reduceEqDiff, rg, ow_45]
    refine do_store (v := iV x) (by simp only [evt, evc, upd_eq, Nat.reduceEqDiff, ↓reduceIte, ntT, ntF] <;> rfl) (by simp only [evt, evc, upd_eq, Nat.reduceEqDiff, ↓reduceIte, ntT, ntF] <;> rfl) sz_33 rfl n2.wok (by decide) (Ei.one x) fun w3 x3 r3 s3 => ⟨trivial, ?_⟩
    simp only [↓List.toList_toArray, ↓rgd, ↓rgf, ↓reduceIte, Nat.reduceEqDiff, rg, ow_45]
    refine hK _ _ ?_; clear hK K
    have s2 := n2.size
    have X3 : Ext noF w' w3 := noF_of n2.ext x3 fun y o hy h => by simp only [rng] at h; omega
    have s3 := X3.size
    have ix3 := iXi_at (show Row w3 w'.heap.size 0 (Ei.cel x) from r3)
    rw [← hka] at eS
    have hMk := (hM.extG X (fun y o h => by have := hltF y o h; omega) fun y o g => by omega).ext X3
    have hbk : BAt w3 t m := X3.rd (X.rd hbt fun g => by omega) fun g => g
    refine W_rg fun K hK => (W_text [true, true, true, true, false, false, false, false, true] (by kernel_rfl) ?_); simp only [↓List.toList_toArray, ↓rgd, ↓rgf, ↓reduceIte, Nat.reduceEqDiff, rg, ow_45, e7, ix3]
    refine do_call fn_78 (vs := #[ptr t, itV x]) (by simp only [evt, evc, upd_eq, Nat.reduceEqDiff, ↓reduceIte, maT, maC, maN, isnN, isnS] <;> rfl) (get_any t B m (degOf d) ord hd2 hd3 1 (treeG ord l) F x w3 hMk (by omega) hbk) ?_
    rintro _ w4 ⟨rfl, X4⟩
    refine ⟨trivial, ?_⟩
    simp only [↓List.toList_toArray, ↓rgd, ↓rgf, ↓reduceIte, Nat.reduceEqDiff, rg, ow_45]
    refine do_call fn_54 (by simp only [evt, evc, upd_eq, Nat.reduceEqDiff, ↓reduceIte, maT, maC, maN, isnN, isnS] <;> rfl) (found_any _ w4) ?_
    rintro _ w5 ⟨rfl, X5⟩
    refine ⟨trivial, ?_⟩
    simp only [↓List.toList_toArray, ↓rgd, ↓rgf, ↓reduceIte, Nat.reduceEqDiff, rg, ow_45]
    refine do_bsl rfl (bs_fo1 _) fun w6 n6 => ⟨trivial, ?_⟩
    simp only [↓List.toList_toArray, ↓rgd, ↓rgf, ↓reduceIte, Nat.reduceEqDiff, rg, ow_45]
    have s6 := n6.size
    have sX := X.size
    have X36 := (X4.tr X5).tr n6.ext
    have X06 := X3.tr X36
    have s36 := X06.size
    have s45 := X4.size
    have s56 := X5.size
    have hfl : (gets ord (treeG ord l) (ks.take k)).length = k := by rw [gets_len, List.length_take]; omega
    have hx5 : SlV w6 3 (.slice (some ⟨w5.heap.size, 0, none⟩) 1 1) 1 (Ef.cel (foO (at? O (rkI ord) (rkI ord x) (treeG ord l)))) := ⟨rfl, .inr ⟨_, 0, 1, rfl, Nat.le_refl _, n6.row, n6.wok.R (Nat.le_refl _)⟩⟩
    refine do_append (by simp only [evt, evc, upd_eq, Nat.reduceEqDiff, ↓reduceIte, ntT, ntF] <;> rfl) (by simp only [evt, evc, upd_eq, Nat.reduceEqDiff, ↓reduceIte, ntT, ntF] <;> rfl) el_fo rfl ni_fo (hO.ext X06).sl hx5 (by omega) (by decide) (Ef.one _) fun v7 w7 a7 => ?_
    obtain ⟨hO7, X7⟩ := (hO.ext X06).app a7 (by omega)
    refine ⟨trivial, ?_⟩
    simp only [↓List.toList_toArray, ↓rgd, ↓rgf, ↓reduceIte, Nat.reduceEqDiff, rg, ow_45]
    refine hK _ _ ?_; clear hK K
    show W _ _ _ _ _ _
    have q1 := wadd1 k (by omega)
    refine W_rg fun K hK => (W_text [true, true] (by kernel_rfl) ?_); simp only [↓List.toList_toArray, ↓rgd, ↓rgf, ↓reduceIte, Nat.reduceEqDiff, rg, ow_45, eI, q1]
    refine hK _ _ ?_; clear hK K
    refine ⟨_, ?_, k + 1, rfl, hlt, by simp only [upd_eq, Nat.reduceEqDiff, ↓reduceIte]; exact eS, by simp only [upd_eq, Nat.reduceEqDiff, ↓reduceIte]; exact eL, by simp only [upd_eq, Nat.reduceEqDiff, ↓reduceIte], by simp only [upd_eq, Nat.reduceEqDiff, ↓reduceIte]; exact e7, by simp only [upd_eq, Nat.reduceEqDiff, ↓reduceIte]; rw [gets_succ hx]; exact hO7, (X.tr (X06.mono fun _ _ _ h => h.elim)).tr X7⟩
    omega
  · obtain rfl : k = ks.length := by omega
    have ht := lt_ff ks.length ks.length (by omega)
    refine W_sq fun K hK => (W_text [true] (by kernel_rfl) ?_); simp only [↓List.toList_toArray, ↓rgd, ↓rgf, ↓reduceIte, Nat.reduceEqDiff, rg, ow_45, eL, eI, ht]
    refine hK _ _ ?_; clear hK K
    refine W_seq (W_false (by simp only [evt, evc, upd_eq, Nat.reduceEqDiff, ↓reduceIte, ntT, ntF] <;> rfl) (W_exit ?_))
    simp only [andThen_exit, inBlk_exit, andThen_normal, ↓reduceIte]
    refine W_sq fun K hK => (W_text [true, true] (by kernel_rfl) ?_); simp only [↓List.toList_toArray, ↓rgd, ↓rgf, ↓reduceIte, Nat.reduceEqDiff, rg, ow_45]
    refine hK _ _ ?_; clear hK K
    rw [List.take_length] at hO
    refine W_ret (endQ_1 (by simp only [upd_eq, Nat.reduceEqDiff, ↓reduceIte] <;> rfl) ⟨?_, noF_of X2 X fun y o hy h => by omega⟩)
    have := hO.sl
    rw [gets_len] at this
    exact this
set_option maxHeartbeats 800000 in
set_option maxRecDepth 8000 in
theorem sgget (d : Nat) (hd : DOk d) (ord : List Int) (sv : Value) (nl : Bool) (l : List It) (lv : Value) (ks : List It) (kv : Value) (w : World) (hs : SlInt w sv ord) (hsb : ord.length ≤ 2147483647) (hl : SlI w lv l) (hbig : l.length ≤ 2147483647) (hks : SlI w kv ks) (hkb : ks.length ≤ 2147483647) :
    CallK Try.prog 46 #[mkV sv d nl, lv, kv] w fun v w' => SlV w' 3 v ks.length (flat Ef (gets ord (treeG ord l) ks)) ∧ Ext noF w w' := by
  refine calls_of_W [.tmp 6] Try.func46 rfl Try.ntmps46 Try.results46 (by simp) fun e he => ?_
  have e0 : e 0 = mkV sv d nl := he 0 _ rfl
  have e1 : e 1 = lv := he 1 _ rfl
  have e2 : e 2 = kv := he 2 _ rfl
  clear he
  obtain ⟨ka, kc, hkv⟩ := hks.shape
  rw [hkv] at e2
  have htl := treeG_len ord l
  refine W_sq fun K hK => (W_text [false, true] (by kernel_rfl) ?_); simp only [↓List.toList_toArray, ↓rgd, ↓rgf, ↓reduceIte, Nat.reduceEqDiff, rg, ow_46]
  refine do_box (by simp only [evt]; exact e0) fun w1 n1 => ⟨trivial, ?_⟩
  simp only [↓List.toList_toArray, ↓rgd, ↓rgf, ↓reduceIte, Nat.reduceEqDiff, rg, ow_46]
  refine hK _ _ ?_; clear hK K
  have s1 := n1.size
  have rm0 := show Row w1 w.heap.size 0 (mkL sv d nl) from n1.row
  have r1 := mk_at0 rm0
  refine W_sq fun K hK => (W_text [true, true, true, false, true] (by kernel_rfl) ?_); simp only [↓List.toList_toArray, ↓rgd, ↓rgf, ↓reduceIte, Nat.reduceEqDiff, rg, ow_46, e1, r1]
  refine do_call fn_60 (by simp only [evt, evc, upd_eq, Nat.reduceEqDiff, ↓reduceIte, maT, maC, maN, isnN, isnS] <;> rfl) (stree_ord sv ord l lv w1 (SlV.ext0 hs n1.ext) hsb (SlV.ext0 hl n1.ext) hbig) ?_
  rintro tv w20 ⟨hT, X2⟩
  refine ⟨trivial, ?_⟩
  simp only [↓List.toList_toArray, ↓rgd, ↓rgf, ↓reduceIte, Nat.reduceEqDiff, rg, ow_46]
  refine hK _ _ ?_; clear hK K
  have X20 := n1.ext.tr X2
  have rm2 := X2.row rm0 fun _ _ h => h
  have s20 := X2.size
  have ss := X20.size
  have hs2 := SlV.ext0 hs X20
  clear n1
  refine W_sq fun K hK => (W_text [true] (by kernel_rfl) ?_); simp only [↓List.toList_toArray, ↓rgd, ↓rgf, ↓reduceIte, Nat.reduceEqDiff, rg, ow_46]
  refine hK _ _ ?_; clear hK K

  refine W_seq (W_seq ?_)
  refine W_rg fun K hK => (W_text [true, true, true] (by kernel_rfl) ?_); simp only [↓List.toList_toArray, ↓rgd, ↓rgf, ↓reduceIte, Nat.reduceEqDiff, rg, ow_46, e2]
  refine hK _ _ ?_; clear hK K
  show W _ _ _ _ _ _
  refine W_block (W_loop (fun mm e w' => ∃ k : Nat, mm = ks.length - k ∧ k ≤ ks.length ∧ e 18 = .slice ka ks.length kc ∧ e 19 = .int .i64 ks.length ∧ e 20 = .int .i64 k ∧ e 3 = ptr w.heap.size ∧ e 7 = tv ∧ Outs w20.heap.size (e 8) (gets ord (treeG ord l) (ks.take k)) w' ∧ Ext (fun y _ => w20.heap.size ≤ y) w20 w')
    ks.length ⟨0, by simp, by simp, by simp only [upd_eq, Nat.reduceEqDiff, ↓reduceIte], by simp only [upd_eq, Nat.reduceEqDiff, ↓reduceIte], by simp only [upd_eq, Nat.reduceEqDiff, ↓reduceIte]; rfl, by simp only [upd_eq, Nat.reduceEqDiff, ↓reduceIte]; rfl, by simp only [upd_eq, Nat.reduceEqDiff, ↓reduceIte], by simp only [upd_eq, Nat.reduceEqDiff, ↓reduceIte]; exact Outs.nil _ _, Ext.refl _ _⟩ ?_)
  clear e0 e1 e2 e
  rintro mm e w' ⟨k, rfl, hk, eS, eL, eI, e3, e7, hO, X⟩
  by_cases hlt : k < ks.length
  · have ht := lt_tt k ks.length hlt
    refine W_sq fun K hK => (W_text [true] (by kernel_rfl) ?_); simp only [↓List.toList_toArray, ↓rgd, ↓rgf, ↓reduceIte, Nat.reduceEqDiff, rg, ow_46, eL, eI, ht]
    refine hK _ _ ?_; clear hK K
    refine W_seq (W_true (by simp only [evt, evc, upd_eq, Nat.reduceEqDiff, ↓reduceIte, ntT, ntF] <;> rfl) (W_skip ?_))
    show W _ _ _ _ _ _
    obtain ⟨x, hx⟩ : ∃ x, ks[k]? = some x := ⟨_, List.getElem?_eq_getElem hlt⟩
    obtain ⟨ib, io, hka, row⟩ := hks.at hkv hlt
    have hibl := hks.lt (hkv.trans (by rw [hka]))
    have ixx := iV_at ((X).row (X20.row row fun _ _ h => h) (fun _ _ h => by have := h; omega)) hx
    rw [hka] at eS
    refine W_seq (W_block ?_)
    refine W_sq fun K hK => (W_text [true, true, false, false] (by kernel_rfl) ?_); simp only [↓List.toList_toArray, ↓rgd, ↓rgf, ↓reduceIte, Nat.reduceEqDiff, rg, ow_46, eS, eI, hlt, ixx]
    refine do_alloc z_item fun w2 n2 => ⟨trivial, ?_⟩
    simp only [↓List.toList_toArray, ↓rgd, ↓rgf, ↓reduceIte, Nat.reduceEqDiff, rg, ow_46]
    refine do_store (v := iV x) (by simp only [evt, evc, upd_eq, Nat.reduceEqDiff, ↓reduceIte, ntT, ntF] <;> rfl) (by simp only [evt, evc, upd_eq, Nat.reduceEqDiff, ↓reduceIte, ntT, ntF] <;> rfl) sz_33 rfl n2.wok (by decide) (Ei.one x) fun w3 x3 r3 s3 => ⟨trivial, ?_⟩
    simp only [↓List.toList_toArray, ↓rgd, ↓rgf, ↓reduceIte, Nat.reduceEqDiff, rg, ow_46]
    refine hK _ _ ?_; clear hK K
    have s2 := n2.size
    have X3 : Ext noF w' w3 := noF_of n2.ext x3 fun y o hy h => by simp only [rng] at h; omega
    have s3 := X3.size
    have ix3 := iXi_at (show Row w3 w'.heap.size 0 (Ei.cel x) from r3)
    rw [← hka] at eS
    refine W_sq fun K hK => (W_text [true, false, false] (by kernel_rfl) ?_); simp only [↓List.toList_toArray, ↓rgd, ↓rgf, ↓reduceIte, Nat.reduceEqDiff, rg, ow_46, bu_fo0]
    refine do_alloc z_fo fun w4 n4 => ⟨trivial, ?_⟩
    simp only [↓List.toList_toArray, ↓rgd, ↓rgf, ↓reduceIte, Nat.reduceEqDiff, rg, ow_46]
    refine do_store (v := foV ((0, 0), false)) (by simp only [evt, evc, upd_eq, Nat.reduceEqDiff, ↓reduceIte, ntT, ntF] <;> rfl) (by simp only [evt, evc, upd_eq, Nat.reduceEqDiff, ↓reduceIte, ntT, ntF] <;> rfl) sz_43 rfl n4.wok (by decide) (oc_fo _) fun w5 x5 r5 s5 => ⟨trivial, ?_⟩
    simp only [↓List.toList_toArray, ↓rgd, ↓rgf, ↓reduceIte, Nat.reduceEqDiff, rg, ow_46]
    refine hK _ _ ?_; clear hK K
    have s4 := n4.size
    have sX := X.size
    have X35 : Ext noF w3 w5 := noF_of n4.ext x5 fun y o hy h => by simp only [rng] at h; omega
    have X5 := X3.tr X35
    have XB : Ext (fun y _ => w20.heap.size ≤ y) w20 w5 := X.tr (X5.mono fun _ _ _ h => h.elim)
    have hT5 : SlI w5 tv (treeG ord l) := SlV.ext hT XB fun b o cap h j hj g => by have := SlV.lt hT h; omega
    have hs5 : SlInt w5 sv ord := SlV.ext hs2 XB fun b o cap h j hj g => by have := SlV.lt hs2 h; omega
    have r05 := mk_at0 (XB.row rm2 fun _ _ g => by omega)
    have ix5 := iXi_at (X35.row (show Row w3 w'.heap.size 0 (Ei.cel x) from r3) fun _ _ h => h)
    have k5 := x5.wok n4.wok
    have hfo : gets ord (treeG ord l) (ks.take (k + 1)) = gets ord (treeG ord l) (ks.take k) ++ [foO (at? O (rkI ord) (rkI ord x) (treeG ord l))] := gets_succ hx
    obtain ⟨fv, hfv⟩ : ∃ fv, fv = foO (at? O (rkI ord) (rkI ord x) (treeG ord l)) := ⟨_, rfl⟩
    rw [← hfv] at hfo
    refine W_seq ?_
    refine W_sq fun K hK => (W_text [true, true, true, true, false, true, true, true, true, true] (by kernel_rfl) ?_); simp only [↓List.toList_toArray, ↓rgd, ↓rgf, ↓reduceIte, Nat.reduceEqDiff, rg, ow_46, e3, ptr_eq, r05, e7, ix5]
    refine do_call fn_79 (by simp only [evt, evc, upd_eq, Nat.reduceEqDiff, ↓reduceIte, maT, maC, maN, isnN, isnS] <;> rfl) (place_ord sv ord (treeG ord l) tv x w5 hs5 hsb hT5 (by omega)) ?_
    rintro _ w6 ⟨rfl, X6⟩
    refine ⟨trivial, ?_⟩
    simp only [↓List.toList_toArray, ↓rgd, ↓rgf, ↓reduceIte, Nat.reduceEqDiff, rg, ow_46]
    refine hK _ _ ?_; clear hK K
    have X36 := X35.tr X6
    have X06 := X5.tr X6
    cases hh : hit O (rkI ord) (rkI ord x) (treeG ord l) with
    | true =>
      refine W_sq fun K hK => (W_text [true] (by kernel_rfl) ?_); simp only [↓List.toList_toArray, ↓rgd, ↓rgf, ↓reduceIte, Nat.reduceEqDiff, rg, ow_46, hh]
      refine hK _ _ ?_; clear hK K
      refine W_true (by simp only [evt, evc, upd_eq, Nat.reduceEqDiff, ↓reduceIte, ntT, ntF] <;> rfl) ?_
      refine W_rg fun K hK => (W_text [true, true, false, false] (by kernel_rfl) ?_); simp only [↓List.toList_toArray, ↓rgd, ↓rgf, ↓reduceIte, Nat.reduceEqDiff, rg, ow_46, e7]
      refine do_call fn_77 (by simp only [evt, evc, upd_eq, Nat.reduceEqDiff, ↓reduceIte, maT, maC, maN, isnN, isnS] <;> rfl) (sat_any (treeG ord l) tv _ _ ((SlV.ext0 hT5 X6).ext0 (Ext.dr _ _ _)) (by omega)) ?_
      rintro _ w7 ⟨rfl, X7⟩
      have X7 := X7.od
      refine ⟨trivial, ?_⟩
      simp only [↓List.toList_toArray, ↓rgd, ↓rgf, ↓reduceIte, Nat.reduceEqDiff, rg, ow_46]
      refine do_store (v := foV _) (by simp only [evt, evc, upd_eq, Nat.reduceEqDiff, ↓reduceIte, ntT, ntF] <;> rfl) (by simp only [evt, evc, upd_eq, Nat.reduceEqDiff, ↓reduceIte, ntT, ntF] <;> rfl) sz_43 rfl ((X6.tr X7).wok k5) (by decide) (oc_fo _) fun w8 x8 r8 s8 => ⟨trivial, ?_⟩
      simp only [↓List.toList_toArray, ↓rgd, ↓rgf, ↓reduceIte, Nat.reduceEqDiff, rg, ow_46]
      refine hK _ _ ?_; clear hK K
      show W _ _ _ _ _ _
      have X08 : Ext noF w' w8 := noF_of (X06.tr X7) x8 fun y o hy h => by simp only [rng] at h; omega
      have hfe : foO (nth (treeG ord l) (lb O (rkI ord) (rkI ord x) (treeG ord l) : Nat)) = fv := by rw [hfv]; unfold at?; rw [hh, if_pos rfl, nth_nat]
      rw [hfe] at r8
      have l8 : rdA w8 w3.heap.size 0 3 = some (foV fv) := ld_fo r8
      refine W_rg fun K hK => (W_text [true, true, false, false, true] (by kernel_rfl) ?_); simp only [↓List.toList_toArray, ↓rgd, ↓rgf, ↓reduceIte, Nat.reduceEqDiff, rg, ow_46, l8]
      refine do_bsl rfl (bs_fo1 fv) fun w9 n9 => ⟨trivial, ?_⟩
      simp only [↓List.toList_toArray, ↓rgd, ↓rgf, ↓reduceIte, Nat.reduceEqDiff, rg, ow_46]
      have X9 : Ext noF w' w9 := X08.tr n9.ext
      have s9 := X08.size
      have hfl : (gets ord (treeG ord l) (ks.take k)).length = k := by rw [gets_len, List.length_take]; omega
      have hx9 : SlV w9 3 (.slice (some ⟨w8.heap.size, 0, none⟩) 1 1) 1 (Ef.cel fv) := ⟨rfl, .inr ⟨_, 0, 1, rfl, Nat.le_refl _, n9.row, n9.wok.R (Nat.le_refl _)⟩⟩
      have s9' := n9.size
      refine do_append (by simp only [evt, evc, upd_eq, Nat.reduceEqDiff, ↓reduceIte, ntT, ntF] <;> rfl) (by simp only [evt, evc, upd_eq, Nat.reduceEqDiff, ↓reduceIte, ntT, ntF] <;> rfl) el_fo rfl ni_fo (hO.ext X9).sl hx9 (by omega) (by decide) (Ef.one _) fun v7 w10 a10 => ?_
      obtain ⟨hO10, X10⟩ := (hO.ext X9).app a10 (by omega)
      refine ⟨trivial, ?_⟩
      simp only [↓List.toList_toArray, ↓rgd, ↓rgf, ↓reduceIte, Nat.reduceEqDiff, rg, ow_46]
      refine hK _ _ ?_; clear hK K
      show W _ _ _ _ _ _
      have q1 := wadd1 k (by omega)
      refine W_rg fun K hK => (W_text [true, true] (by kernel_rfl) ?_); simp only [↓List.toList_toArray, ↓rgd, ↓rgf, ↓reduceIte, Nat.reduceEqDiff, rg, ow_46, eI, q1]
      refine hK _ _ ?_; clear hK K
      refine ⟨_, ?_, k + 1, rfl, hlt, by simp only [upd_eq, Nat.reduceEqDiff, ↓reduceIte]; exact eS, by simp only [upd_eq, Nat.reduceEqDiff, ↓reduceIte]; exact eL, by simp only [upd_eq, Nat.reduceEqDiff, ↓reduceIte], by simp only [upd_eq, Nat.reduceEqDiff, ↓reduceIte]; exact e3, by simp only [upd_eq, Nat.reduceEqDiff, ↓reduceIte]; exact e7, by simp only [upd_eq, Nat.reduceEqDiff, ↓reduceIte]; rw [hfo]; exact hO10, (X.tr (X9.mono fun _ _ _ h => h.elim)).tr X10⟩
      omega
    | false =>
      refine W_sq fun K hK => (W_text [true] (by kernel_rfl) ?_); simp only [↓List.toList_toArray, ↓rgd, ↓rgf, ↓reduceIte, Nat.reduceEqDiff, rg, ow_46, hh]
      refine hK _ _ ?_; clear hK K
      refine W_false (by simp only [evt, evc, upd_eq, Nat.reduceEqDiff, ↓reduceIte, ntT, ntF] <;> rfl) (W_skip ?_)
      simp only [andThen_normal]
      have X08 : Ext noF w' w6 := X06
      have r8 : Row w6 w3.heap.size 0 (Ef.cel fv) := by
        rw [hfv, at_noneG hh]
        exact X6.row (show Row w5 w3.heap.size 0 (Ef.cel ((0, 0), false)) from r5) fun _ _ h => h
      have l8 : rdA w6 w3.heap.size 0 3 = some (foV fv) := ld_fo r8
      refine W_rg fun K hK => (W_text [true, true, false, false, true] (by kernel_rfl) ?_); simp only [↓List.toList_toArray, ↓rgd, ↓rgf, ↓reduceIte, Nat.reduceEqDiff, rg, ow_46, l8]
      refine do_bsl rfl (bs_fo1 fv) fun w9 n9 => ⟨trivial, ?_⟩
      simp only [↓List.toList_toArray, ↓rgd, ↓rgf, ↓reduceIte, Nat.reduceEqDiff, rg, ow_46]
      have X9 : Ext noF w' w9 := X08.tr n9.ext
      have s9 := X08.size
      have hfl : (gets ord (treeG ord l) (ks.take k)).length = k := by rw [gets_len, List.length_take]; omega
      have hx9 : SlV w9 3 (.slice (some ⟨w6.heap.size, 0, none⟩) 1 1) 1 (Ef.cel fv) := ⟨rfl, .inr ⟨_, 0, 1, rfl, Nat.le_refl _, n9.row, n9.wok.R (Nat.le_refl _)⟩⟩
      have s9' := n9.size
      refine do_append (by simp only [evt, evc, upd_eq, Nat.reduceEqDiff, ↓reduceIte, ntT, ntF] <;> rfl) (by simp only [evt, evc, upd_eq, Nat.reduceEqDiff, ↓reduceIte, ntT, ntF] <;> rfl) el_fo rfl ni_fo (hO.ext X9).sl hx9 (by omega) (by decide) (Ef.one _) fun v7 w10 a10 => ?_
      obtain ⟨hO10, X10⟩ := (hO.ext X9).app a10 (by omega)
      refine ⟨trivial, ?_⟩
      simp only [↓List.toList_toArray, ↓rgd, ↓rgf, ↓reduceIte, Nat.reduceEqDiff, rg, ow_46]
      refine hK _ _ ?_; clear hK K
      show W _ _ _ _ _ _
      have q1 := wadd1 k (by omega)
      refine W_rg fun K hK => (W_text [true, true] (by kernel_rfl) ?_); simp only [↓List.toList_toArray, ↓rgd, ↓rgf, ↓reduceIte, Nat.reduceEqDiff, rg, ow_46, eI, q1]
      refine hK _ _ ?_; clear hK K
      refine ⟨_, ?_, k + 1, rfl, hlt, by simp only [upd_eq, Nat.reduceEqDiff, ↓reduceIte]; exact eS, by simp only [upd_eq, Nat.reduceEqDiff, ↓reduceIte]; exact eL, by simp only [upd_eq, Nat.reduceEqDiff, ↓reduceIte], by simp only [upd_eq, Nat.reduceEqDiff, ↓reduceIte]; exact e3, by simp only [upd_eq, Nat.reduceEqDiff, ↓reduceIte]; exact e7, by simp only [upd_eq, Nat.reduceEqDiff, ↓reduceIte]; rw [hfo]; exact hO10, (X.tr (X9.mono fun _ _ _ h => h.elim)).tr X10⟩
      omega
  · obtain rfl : k = ks.length := by omega
    have ht := lt_ff ks.length ks.length (by omega)
    refine W_sq fun K hK => (W_text [true] (by kernel_rfl) ?_); simp only [↓List.toList_toArray, ↓rgd, ↓rgf, ↓reduceIte, Nat.reduceEqDiff, rg, ow_46, eL, eI, ht]
    refine hK _ _ ?_; clear hK K
    refine W_seq (W_false (by simp only [evt, evc, upd_eq, Nat.reduceEqDiff, ↓reduceIte, ntT, ntF] <;> rfl) (W_exit ?_))
    simp only [andThen_exit, inBlk_exit, andThen_normal, ↓reduceIte]
    refine W_sq fun K hK => (W_text [true, true] (by kernel_rfl) ?_); simp only [↓List.toList_toArray, ↓rgd, ↓rgf, ↓reduceIte, Nat.reduceEqDiff, rg, ow_46]
    refine hK _ _ ?_; clear hK K
    rw [List.take_length] at hO
    refine W_ret (endQ_1 (by simp only [upd_eq, Nat.reduceEqDiff, ↓reduceIte] <;> rfl) ⟨?_, noF_of X20 X fun y o hy h => by omega⟩)
    have := hO.sl
    rw [gets_len] at this
    exact this
set_option maxHeartbeats 800000 in
set_option maxRecDepth 8000 in
theorem law_bget (d : Nat) (hd : DOk d) (ord : List Int) (sv : Value) (nl : Bool) (l : List It) (lv : Value) (ks : List It) (kv : Value) (w : World) (hs : SlInt w sv ord) (hsb : ord.length ≤ 2147483647) (hl : SlI w lv l) (hbig : l.length ≤ 2147483647) (hks : SlI w kv ks) (hkb : ks.length ≤ 2147483647) :
    CallK Try.prog 18 #[mkV sv d nl, lv, kv] w fun v w' => v = .bool true ∧ Ext noF w w' := by
  refine calls_of_W [.tmp 6] Try.func18 rfl Try.ntmps18 Try.results18 (by simp) fun e he => ?_
  have e0 : e 0 = mkV sv d nl := he 0 _ rfl
  have e1 : e 1 = lv := he 1 _ rfl
  have e2 : e 2 = kv := he 2 _ rfl
  clear he
  refine W_sq fun K hK => (W_text [false, true] (by kernel_rfl) ?_); simp only [↓List.toList_toArray, ↓rgd, ↓rgf, ↓reduceIte, Nat.reduceEqDiff, rg, ow_18]
  refine do_box (by simp only [evt]; exact e0) fun w0 n0 => ⟨trivial, ?_⟩
  simp only [↓List.toList_toArray, ↓rgd, ↓rgf, ↓reduceIte, Nat.reduceEqDiff, rg, ow_18]
  refine hK _ _ ?_; clear hK K
  have rm0 : Row w0 w.heap.size 0 (mkL sv d nl) := n0.row
  have rm := mk_at rm0
  refine W_sq fun K hK => (W_text [true, true, true, false, true] (by kernel_rfl) ?_); simp only [↓List.toList_toArray, ↓rgd, ↓rgf, ↓reduceIte, Nat.reduceEqDiff, rg, ow_18, e1, e2, rm]
  refine do_call fn_45 (by simp only [evt, evc, upd_eq, Nat.reduceEqDiff, ↓reduceIte, maT, maC, maN, isnN, isnS] <;> rfl) (impl_bget d hd ord sv nl l lv ks kv w0 (SlV.ext0 hs n0.ext) hsb (SlV.ext0 hl n0.ext) hbig (SlV.ext0 hks n0.ext) hkb) ?_
  rintro v1 w1 ⟨h1, X1⟩
  refine ⟨trivial, ?_⟩
  simp only [↓List.toList_toArray, ↓rgd, ↓rgf, ↓reduceIte, Nat.reduceEqDiff, rg, ow_18]
  refine hK _ _ ?_; clear hK K
  have rm1 := mk_at (X1.row rm0 fun _ _ h => h)
  have X01 := n0.ext.tr X1
  refine W_sq fun K hK => (W_text [true, true, true, false, true] (by kernel_rfl) ?_); simp only [↓List.toList_toArray, ↓rgd, ↓rgf, ↓reduceIte, Nat.reduceEqDiff, rg, ow_18, e1, e2, rm1]
  refine do_call fn_46 (by simp only [evt, evc, upd_eq, Nat.reduceEqDiff, ↓reduceIte, maT, maC, maN, isnN, isnS] <;> rfl) (sgget d hd ord sv nl l lv ks kv w1 (SlV.ext0 hs X01) hsb (SlV.ext0 hl X01) hbig (SlV.ext0 hks X01) hkb) ?_
  rintro v2 w2 ⟨h2, X2⟩
  refine ⟨trivial, ?_⟩
  simp only [↓List.toList_toArray, ↓rgd, ↓rgf, ↓reduceIte, Nat.reduceEqDiff, rg, ow_18]
  refine hK _ _ ?_; clear hK K
  refine W_sq fun K hK => (W_text [true, true, false, true] (by kernel_rfl) ?_); simp only [↓List.toList_toArray, ↓rgd, ↓rgf, ↓reduceIte, Nat.reduceEqDiff, rg, ow_18]
  have hfl := gets_len ord (treeG ord l) ks
  refine do_call fn_28 (by simp only [evt, evc, upd_eq, Nat.reduceEqDiff, ↓reduceIte, maT, maC, maN, isnN, isnS] <;> rfl) (eq_f (gets ord (treeG ord l) ks) v1 v2 w2 (by rw [hfl]; exact h1.ext0 X2) (by rw [hfl]; exact h2) (by rw [hfl]; omega)) ?_
  rintro _ w3 ⟨rfl, r3⟩
  refine ⟨trivial, ?_⟩
  simp only [↓List.toList_toArray, ↓rgd, ↓rgf, ↓reduceIte, Nat.reduceEqDiff, rg, ow_18]
  refine hK _ _ ?_; clear hK K
  exact W_ret (endQ_1 (by simp only [upd_eq, Nat.reduceEqDiff, ↓reduceIte] <;> rfl) ⟨rfl, (X01.tr X2).tr r3.ext⟩)
end Go.Proofs.Ytanmjbkbdmeckaa
/-
  The law on an iterator over a tree of whatever values. No condition.
-/
set_option linter.unusedSimpArgs false
set_option linter.unusedVariables false
namespace Go.Proofs.Ytanmjbkbdmeckaa
open Go Go.Proofs
theorem ifo_at {w : World} {b o : Nat} {l : List (It × Bool)} (h : Row w b o (flat Ef l)) {i : Nat} {x : It × Bool} (hi : l[i]? = some x) : rdA w b (o + i * 3) 3 = some (foV x) :=
  (row_at Ef h hi).rdA 3 (by simp [Ef])
set_option maxHeartbeats 2000000 in
set_option maxRecDepth 8000 in
theorem same_any (P : List (Option It)) (R : List (Option It × Bool)) (hA : Agree P R) (va vb vt : Value) (w : World) (ha : SlV w 3 va P.length (flat Ef (P.map foO))) (hb : SlV w 3 vb R.length (flat Ef (ansI R))) (ht : SlV w 1 vt R.length (flat Eb (telI R))) (hbig : P.length ≤ 2147483647) :
    CallK Try.prog 61 #[va, vb, vt] w fun v w' => v = .bool true ∧ Ext noF w w' := by
  obtain ⟨aa, ac, hva⟩ := ha.shape
  obtain ⟨ba, bc, hvb⟩ := hb.shape
  obtain ⟨ta, tc, hvt⟩ := ht.shape
  refine calls_of_W [.tmp 6] Try.func61 rfl Try.ntmps61 Try.results61 (by simp) fun e he => ?_
  have e0 : e 0 = .slice aa P.length ac := by rw [← hva]; exact he 0 _ rfl
  have e1 : e 1 = .slice ba R.length bc := by rw [← hvb]; exact he 1 _ rfl
  have e2 : e 2 = .slice ta R.length tc := by rw [← hvt]; exact he 2 _ rfl
  clear he
  have hl := hA.1
  refine W_sq fun K hK => (W_text [true] (by kernel_rfl) ?_); simp only [↓List.toList_toArray, ↓rgd, ↓rgf, ↓reduceIte, Nat.reduceEqDiff, rg, ow_61]
  refine hK _ _ ?_; clear hK K
  have t0 : ((P.length : Int) != (R.length : Int)) = false := by rw [hl]; simp
  refine W_seq ?_
  refine W_sq fun K hK => (W_text [true, true, true, true, true] (by kernel_rfl) ?_); simp only [↓List.toList_toArray, ↓rgd, ↓rgf, ↓reduceIte, Nat.reduceEqDiff, rg, ow_61, e0, e1, t0]
  refine hK _ _ ?_; clear hK K
  refine W_false (by simp only [evt, evc, upd_eq, Nat.reduceEqDiff, ↓reduceIte, ntT, ntF] <;> rfl) (W_skip ?_)
  show W _ _ _ _ _ _
  refine W_seq (W_seq ?_)
  refine W_rg fun K hK => (W_text [true, true, true] (by kernel_rfl) ?_); simp only [↓List.toList_toArray, ↓rgd, ↓rgf, ↓reduceIte, Nat.reduceEqDiff, rg, ow_61, e0]
  refine hK _ _ ?_; clear hK K
  show W _ _ _ _ _ _
  refine W_block (W_loop (fun mm e w' => ∃ i : Nat, mm = P.length - i ∧ i ≤ P.length ∧ RO w w' ∧ e 0 = .slice aa P.length ac ∧ e 1 = .slice ba R.length bc ∧ e 2 = .slice ta R.length tc ∧ e 14 = .int .i64 P.length ∧ e 15 = .int .i64 i)
    P.length ⟨0, by simp, by simp, RO.refl _, by simp only [upd_eq, Nat.reduceEqDiff, ↓reduceIte]; exact e0, by simp only [upd_eq, Nat.reduceEqDiff, ↓reduceIte]; exact e1, by simp only [upd_eq, Nat.reduceEqDiff, ↓reduceIte]; exact e2, by simp only [upd_eq, Nat.reduceEqDiff, ↓reduceIte], by simp only [upd_eq, Nat.reduceEqDiff, ↓reduceIte]; rfl⟩ ?_)
  clear e0 e1 e2 e
  rintro mm e w' ⟨i, rfl, hi, hro, e0, e1, e2, e14, e15⟩
  by_cases hlt : i < P.length
  · have ht' := lt_tt i P.length hlt
    refine W_sq fun K hK => (W_text [true] (by kernel_rfl) ?_); simp only [↓List.toList_toArray, ↓rgd, ↓rgf, ↓reduceIte, Nat.reduceEqDiff, rg, ow_61, e14, e15, ht']
    refine hK _ _ ?_; clear hK K
    refine W_seq (W_true (by simp only [evt, evc, upd_eq, Nat.reduceEqDiff, ↓reduceIte, ntT, ntF] <;> rfl) (W_skip ?_))
    show W _ _ _ _ _ _
    have hltR : i < R.length := by omega
    obtain ⟨p, hp⟩ : ∃ p, P[i]? = some p := ⟨_, List.getElem?_eq_getElem hlt⟩
    obtain ⟨q, hq⟩ : ∃ q, R[i]? = some q := ⟨_, List.getElem?_eq_getElem hltR⟩
    obtain ⟨b1, o1, g1, r1⟩ := SlV.at ha hva hlt
    obtain ⟨b2, o2, g2, r2⟩ := SlV.at hb hvb hltR
    obtain ⟨b3, o3, g3, r3⟩ := SlV.at ht hvt hltR
    subst g1 g2 g3
    have x1 := ifo_at ((hro.ext (F := noF)).row r1 fun _ _ h => h) (show (P.map foO)[i]? = some (foO p) by rw [List.getElem?_map, hp]; rfl)
    have x2 := ifo_at ((hro.ext (F := noF)).row r2 fun _ _ h => h) (show (ansI R)[i]? = some (foO q.1) by unfold ansI; rw [List.getElem?_map, hq]; rfl)
    have x3 := bV_at ((hro.ext (F := noF)).row r3 fun _ _ h => h) (show (telI R)[i]? = some q.2 by unfold telI; rw [List.getElem?_map, hq]; rfl)
    refine W_seq (W_block ?_)
    refine W_sq fun K hK => (W_text [true, true] (by kernel_rfl) ?_); simp only [↓List.toList_toArray, ↓rgd, ↓rgf, ↓reduceIte, Nat.reduceEqDiff, rg, ow_61, e15]
    refine hK _ _ ?_; clear hK K
    cases hq2 : q.2 with
    | false =>
      rw [hq2] at x3
      refine W_sq fun K hK => (W_draw (some none) none [(0, 0, 0), (0, 1, 0), (0, 2, 0), (0, 3, 0), (0, 4, 0), (0, 5, 0), (0, 6, 0), (0, 7, 0), (0, 8, 0), (0, 9, 0), (0, 10, 0), (0, 11, 0), (0, 12, 0), (0, 13, 0), (0, 14, 0)] mixed (by kernel_rfl) ?_); simp only [↓List.toList_toArray, ↓rgd, ↓rgf, ↓reduceIte, Nat.reduceEqDiff, rg, ow_61, e2, hltR, x3]
      refine hK _ _ ?_; clear hK K
      refine W_false (by simp only [evt, evc, upd_eq, Nat.reduceEqDiff, ↓reduceIte, ntT, ntF] <;> rfl) (W_skip ?_)
      show W _ _ _ _ _ _
      have q1 := wadd1 i (by omega)
      refine W_rg fun K hK => (W_text [true, true] (by kernel_rfl) ?_); simp only [↓List.toList_toArray, ↓rgd, ↓rgf, ↓reduceIte, Nat.reduceEqDiff, rg, ow_61, e15, q1]
      refine hK _ _ ?_; clear hK K
      refine ⟨_, ?_, i + 1, rfl, hlt, hro.tr (RO.dr _ _), by simp only [upd_eq, Nat.reduceEqDiff, ↓reduceIte]; exact e0, by simp only [upd_eq, Nat.reduceEqDiff, ↓reduceIte]; exact e1, by simp only [upd_eq, Nat.reduceEqDiff, ↓reduceIte]; exact e2, by simp only [upd_eq, Nat.reduceEqDiff, ↓reduceIte]; exact e14, by simp only [upd_eq, Nat.reduceEqDiff, ↓reduceIte]⟩
      omega
    | true =>
      rw [hq2] at x3
      have hpq := hA.2 i p q hp hq hq2
      rw [hpq] at x1
      have nf := ne_f (foO q.1)
      refine W_sq fun K hK => (W_draw (some none) none [(0, 0, 0), (0, 1, 0), (0, 2, 0), (0, 3, 0), (0, 4, 0), (0, 5, 0), (0, 6, 0), (0, 7, 0), (0, 8, 0), (0, 9, 0), (0, 10, 0), (0, 11, 0), (0, 12, 0), (0, 13, 0), (0, 14, 0)] mixed (by kernel_rfl) ?_); simp only [↓List.toList_toArray, ↓rgd, ↓rgf, ↓reduceIte, Nat.reduceEqDiff, rg, ow_61, e0, e1, e2, hlt, hltR, x1, x2, x3, nf]
      refine hK _ _ ?_; clear hK K
      refine W_false (by simp only [evt, evc, upd_eq, Nat.reduceEqDiff, ↓reduceIte, ntT, ntF] <;> rfl) (W_skip ?_)
      show W _ _ _ _ _ _
      have q1 := wadd1 i (by omega)
      refine W_rg fun K hK => (W_text [true, true] (by kernel_rfl) ?_); simp only [↓List.toList_toArray, ↓rgd, ↓rgf, ↓reduceIte, Nat.reduceEqDiff, rg, ow_61, e15, q1]
      refine hK _ _ ?_; clear hK K
      refine ⟨_, ?_, i + 1, rfl, hlt, hro.tr (RO.dr _ _), by simp only [upd_eq, Nat.reduceEqDiff, ↓reduceIte]; exact e0, by simp only [upd_eq, Nat.reduceEqDiff, ↓reduceIte]; exact e1, by simp only [upd_eq, Nat.reduceEqDiff, ↓reduceIte]; exact e2, by simp only [upd_eq, Nat.reduceEqDiff, ↓reduceIte]; exact e14, by simp only [upd_eq, Nat.reduceEqDiff, ↓reduceIte]⟩
      omega
  · obtain rfl : i = P.length := by omega
    have ht' := lt_ff P.length P.length (by omega)
    refine W_sq fun K hK => (W_text [true] (by kernel_rfl) ?_); simp only [↓List.toList_toArray, ↓rgd, ↓rgf, ↓reduceIte, Nat.reduceEqDiff, rg, ow_61, e14, e15, ht']
    refine hK _ _ ?_; clear hK K
    refine W_seq (W_false (by simp only [evt, evc, upd_eq, Nat.reduceEqDiff, ↓reduceIte, ntT, ntF] <;> rfl) (W_exit ?_))
    simp only [andThen_exit, inBlk_exit, andThen_normal, ↓reduceIte]
    refine W_sq fun K hK => (W_text [true] (by kernel_rfl) ?_); simp only [↓List.toList_toArray, ↓rgd, ↓rgf, ↓reduceIte, Nat.reduceEqDiff, rg, ow_61]
    refine hK _ _ ?_; clear hK K
    exact W_ret (endQ_1 (by simp only [upd_eq, Nat.reduceEqDiff, ↓reduceIte] <;> rfl) ⟨rfl, hro.ext⟩)
def exMv : List (Int × It) := [(1, (0, 0)), (3, (0, 0)), (4, (4, 0)), (2, (0, 0)), (5, (1, 0)), (0, (0, 0))]
theorem bu_mv (a : Int) : buildV Try.prog 72 [(0, .int .i64 a)] = some (mvV (a, (0, 0))) := by kernel_rfl
theorem bu_mvk (a k : Int) : buildV Try.prog 72 [(0, .int .i64 a), (1, iV (k, 0))] = some (mvV (a, (k, 0))) := by kernel_rfl
theorem bs_exMv : bsV Try.prog 45 6 [(0, mvV (1, (0, 0))), (1, mvV (3, (0, 0))), (2, mvV (4, (4, 0))), (3, mvV (2, (0, 0))), (4, mvV (5, (1, 0))), (5, mvV (0, (0, 0)))] = some (72, flat Em exMv) := by kernel_rfl
set_option maxHeartbeats 800000 in
set_option maxRecDepth 8000 in
theorem exMoves_any (w : World) : CallK Try.prog 31 #[] w fun v w' => SlV w' 3 v exMv.length (flat Em exMv) ∧ Ext noF w w' := by
  refine calls_of_W (args := []) [.tmp 0] Try.func31 rfl Try.ntmps31 Try.results31 (by simp) fun e he => ?_
  clear he
  refine W_sq fun K hK => (W_text [true] (by kernel_rfl) ?_); simp only [↓List.toList_toArray, ↓rgd, ↓rgf, ↓reduceIte, Nat.reduceEqDiff, rg]
  refine hK _ _ ?_; clear hK K
  refine W_sq fun K hK => (W_text [true, true, true, true, true, true, true, true, false, true] (by kernel_rfl) ?_); simp only [↓List.toList_toArray, ↓rgd, ↓rgf, ↓reduceIte, Nat.reduceEqDiff, rg, bu_mv, bu_mvk, bu_itemK]
  refine do_bsl rfl bs_exMv fun w1 n1 => ⟨trivial, ?_⟩
  simp only [↓List.toList_toArray, ↓rgd, ↓rgf, ↓reduceIte, Nat.reduceEqDiff, rg]
  refine hK _ _ ?_; clear hK K
  exact W_ret (endQ_1 (by simp only [upd_eq, Nat.reduceEqDiff, ↓reduceIte] <;> rfl) ⟨⟨rfl, .inr ⟨_, 0, 6, rfl, Nat.le_refl _, n1.row, n1.wok.R (Nat.le_refl _)⟩⟩, n1.ext⟩)
set_option maxHeartbeats 800000 in
set_option maxHeartbeats 1600000 in
set_option maxRecDepth 8000 in
theorem vrel_any (ib m sb so cap : Nat) (mu : Bool) (full : List (Nat × Int)) (w : World) (hI : ItS ib m mu full sb so cap w) :
    CallK Try.prog 93 #[ptr ib] w fun v w' => Ext (fun y _ => y = ib) w w' ∧ w'.heap.size = w.heap.size := by
  refine calls_of_W [] Try.func93 rfl Try.ntmps93 Try.results93 (by simp) fun e he => ?_
  have e0 : e 0 = ptr ib := he 0 _ rfl
  clear he
  refine W_rg fun K hK => (W_text [true, true, true, false] (by kernel_rfl) ?_); simp only [↓List.toList_toArray, ↓rgd, ↓rgf, ↓reduceIte, Nat.reduceEqDiff, rg, ow_93, e0, ptr_eq]
  refine do_call fn_133 (vs := #[ptr ib]) (by simp only [evt, evc, upd_eq, Nat.reduceEqDiff, ↓reduceIte, maT, maC, maN, isnN, isnS] <;> rfl) (release_any ib m sb so cap mu full w hI) ?_
  rintro _ w1 ⟨X1, -, -, h1⟩
  refine ⟨trivial, ?_⟩
  simp only [↓List.toList_toArray, ↓rgd, ↓rgf, ↓reduceIte, Nat.reduceEqDiff, rg, ow_93]
  refine hK _ _ ?_; clear hK K
  exact endQ_0n ⟨X1, h1⟩
set_option maxHeartbeats 1600000 in
set_option maxRecDepth 8000 in
theorem impl_biter (d : Nat) (hd : DOk d) (ord : List Int) (sv : Value) (nl : Bool) (l : List It) (lv : Value) (ms : List (Int × It)) (mvs : Value) (w : World) (hs : SlInt w sv ord) (hsb : ord.length ≤ 2147483647) (hl : SlI w lv l) (hbig : l.length ≤ 2147483647) (hms : SlV w 3 mvs ms.length (flat Em ms)) (hmb : ms.length ≤ 2147483647) :
    CallK Try.prog 58 #[mkV sv d nl, lv, mvs] w fun v w' => ∃ P : List (Option It), SlV w' 3 v P.length (flat Ef (P.map foO)) ∧ Agree P (runI (treeG ord l) (fun k : It => lb O (rkI ord) (rkI ord k) (treeG ord l)) ms).2 ∧ Ext noF w w' := by
  refine calls_of_W [.tmp 6] Try.func58 rfl Try.ntmps58 Try.results58 (by simp) fun e he => ?_
  have e0 : e 0 = mkV sv d nl := he 0 _ rfl
  have e1 : e 1 = lv := he 1 _ rfl
  have e2 : e 2 = mvs := he 2 _ rfl
  clear he
  have htl := treeG_len ord l
  obtain ⟨hd2, hd3⟩ := hd.of
  refine W_sq fun K hK => (W_text [false, true] (by kernel_rfl) ?_); simp only [↓List.toList_toArray, ↓rgd, ↓rgf, ↓reduceIte, Nat.reduceEqDiff, rg, ow_58]
  refine do_box (by simp only [evt]; exact e0) fun w1 n1 => ⟨trivial, ?_⟩
  simp only [↓List.toList_toArray, ↓rgd, ↓rgf, ↓reduceIte, Nat.reduceEqDiff, rg, ow_58]
  refine hK _ _ ?_; clear hK K
  have rm := mk_at (show Row w1 w.heap.size 0 (mkL sv d nl) from n1.row)
  refine W_sq fun K hK => (W_text [true, true, false, false, false, false] (by kernel_rfl) ?_); simp only [↓List.toList_toArray, ↓rgd, ↓rgf, ↓reduceIte, Nat.reduceEqDiff, rg, ow_58, e1, rm]
  refine do_call fn_53 (by simp only [evt, evc, upd_eq, Nat.reduceEqDiff, ↓reduceIte, maT, maC, maN, isnN, isnS] <;> rfl) (growB_any d hd ord sv nl l lv w1 (SlV.ext0 hs n1.ext) hsb (SlV.ext0 hl n1.ext) (by omega)) ?_
  rintro _ w2 ⟨X2, t, B, m, F, rfl, hbt, htw, hFt, htl2, hM, hmw, hmt, hFw, hBw⟩
  have X2 := n1.ext.tr X2
  refine ⟨trivial, ?_⟩
  simp only [↓List.toList_toArray, ↓rgd, ↓rgf, ↓reduceIte, Nat.reduceEqDiff, rg, ow_58]
  refine do_call fn_91 (by simp only [evt, evc, upd_eq, Nat.reduceEqDiff, ↓reduceIte, maT, maC, maN, isnN, isnS] <;> rfl) (titerMut_any t m w2 hbt) ?_
  rintro _ w3 ⟨sb, rfl, hsw, hs2, hs3, X3⟩
  refine ⟨trivial, ?_⟩
  simp only [↓List.toList_toArray, ↓rgd, ↓rgf, ↓reduceIte, Nat.reduceEqDiff, rg, ow_58]
  refine do_alloc z_ii fun w4 n4 => ⟨trivial, ?_⟩
  simp only [↓List.toList_toArray, ↓rgd, ↓rgf, ↓reduceIte, Nat.reduceEqDiff, rg, ow_58]
  refine do_store (v := itR m true (stk0 sb)) (by simp only [evt, evc, upd_eq, Nat.reduceEqDiff, ↓reduceIte, ntT, ntF] <;> rfl) (by simp only [evt, evc, upd_eq, Nat.reduceEqDiff, ↓reduceIte, ntT, ntF] <;> rfl) sz_114 rfl n4.wok (by decide) (oc_ir _ _ _) fun w5 x5 r5 s5 => ⟨trivial, ?_⟩
  simp only [↓List.toList_toArray, ↓rgd, ↓rgf, ↓reduceIte, Nat.reduceEqDiff, rg, ow_58]
  refine hK _ _ ?_; clear hK K
  have s3 := X3.size
  have s4 := n4.size
  have hml := hM.mlt
  have hltF := hM.lt
  have X35 : Ext noF w2 w5 := noF_of (X3.tr n4.ext) x5 fun y o hy g => by simp only [rng] at g; omega
  have X5 := X2.tr X35
  have s05 := X5.size
  have sx2 := X2.size
  have hI : ItS w3.heap.size m true [] sb 6 4 w5 := ItS.new (show Row w5 w3.heap.size 0 (itL m true (stk0 sb)) from r5) (x5.wok n4.wok) (x5.wok (n4.ext.wok hsw)) (by omega)
  refine W_sq fun K hK => (W_text [true, false, true] (by kernel_rfl) ?_); simp only [↓List.toList_toArray, ↓rgd, ↓rgf, ↓reduceIte, Nat.reduceEqDiff, rg, ow_58, e2]
  refine do_call fn_92 (vs := #[ptr w3.heap.size, mvs]) (by simp only [evt, evc, upd_eq, Nat.reduceEqDiff, ↓reduceIte, maT, maC, maN, isnN, isnS] <;> rfl) (moved_any B m (degOf d) ord hd2 hd3 1 (treeG ord l) F true w3.heap.size sb 6 4 ms mvs w5 (hM.ext X35) hI (fun y o g => ⟨by omega, fun k => by have := hltF y o k; omega⟩) (by omega) (SlV.ext0 hms X5) hmb fun b o n c hv => by have := SlV.lt hms hv; omega) ?_
  rintro v6 w6 ⟨P, hP, hA, X6, ⟨full, sb6, so6, cap6, hI6⟩, hsi⟩
  refine ⟨trivial, ?_⟩
  simp only [↓List.toList_toArray, ↓rgd, ↓rgf, ↓reduceIte, Nat.reduceEqDiff, rg, ow_58]
  refine hK _ _ ?_; clear hK K
  refine W_sq fun K hK => (W_text [false] (by kernel_rfl) ?_); simp only [↓List.toList_toArray, ↓rgd, ↓rgf, ↓reduceIte, Nat.reduceEqDiff, rg, ow_58]
  refine do_call fn_93 (vs := #[ptr w3.heap.size]) (by simp only [evt, evc, upd_eq, Nat.reduceEqDiff, ↓reduceIte, maT, maC, maN, isnN, isnS] <;> rfl) (vrel_any w3.heap.size m sb6 so6 cap6 true full w6 hI6) ?_
  rintro _ w7 ⟨X7, h7⟩
  refine ⟨trivial, ?_⟩
  simp only [↓List.toList_toArray, ↓rgd, ↓rgf, ↓reduceIte, Nat.reduceEqDiff, rg, ow_58]
  refine hK _ _ ?_; clear hK K
  refine W_sq fun K hK => (W_text [true, true] (by kernel_rfl) ?_); simp only [↓List.toList_toArray, ↓rgd, ↓rgf, ↓reduceIte, Nat.reduceEqDiff, rg, ow_58]
  refine hK _ _ ?_; clear hK K
  exact W_ret (endQ_1 (by simp only [upd_eq, Nat.reduceEqDiff, ↓reduceIte] <;> rfl) ⟨P, hP.ext X7 fun b o cap hv j _ g => by have := hsi _ _ _ _ hv; omega, hA, noF_of X5 (X6.trans X7 (fun _ _ g => g) fun _ _ _ g => .inl g) fun y o hy g => by omega⟩)
set_option maxHeartbeats 1600000 in
set_option maxRecDepth 8000 in
theorem law_biter (d : Nat) (hd : DOk d) (ord : List Int) (sv : Value) (nl : Bool) (l : List It) (lv : Value) (ms : List (Int × It)) (mvs : Value) (w : World) (hs : SlInt w sv ord) (hsb : ord.length ≤ 2147483647) (hl : SlI w lv l) (hbig : l.length ≤ 2147483647) (hms : SlV w 3 mvs ms.length (flat Em ms)) (hmb : ms.length ≤ 2147483647) :
    CallK Try.prog 30 #[mkV sv d nl, lv, mvs] w fun v w' => v = .bool true ∧ Ext noF w w' := by
  refine calls_of_W [.tmp 6] Try.func30 rfl Try.ntmps30 Try.results30 (by simp) fun e he => ?_
  have e0 : e 0 = mkV sv d nl := he 0 _ rfl
  have e1 : e 1 = lv := he 1 _ rfl
  have e2 : e 2 = mvs := he 2 _ rfl
  clear he
  have htl := treeG_len ord l
  refine W_sq fun K hK => (W_text [false, true] (by kernel_rfl) ?_); simp only [↓List.toList_toArray, ↓rgd, ↓rgf, ↓reduceIte, Nat.reduceEqDiff, rg, ow_30]
  refine do_box (by simp only [evt]; exact e0) fun w0 n0 => ⟨trivial, ?_⟩
  simp only [↓List.toList_toArray, ↓rgd, ↓rgf, ↓reduceIte, Nat.reduceEqDiff, rg, ow_30]
  refine hK _ _ ?_; clear hK K
  have rm0 : Row w0 w.heap.size 0 (mkL sv d nl) := n0.row
  have rm := mk_at rm0
  refine W_sq fun K hK => (W_text [true, true, true, false, true] (by kernel_rfl) ?_); simp only [↓List.toList_toArray, ↓rgd, ↓rgf, ↓reduceIte, Nat.reduceEqDiff, rg, ow_30, e1, e2, rm]
  refine do_call fn_58 (by simp only [evt, evc, upd_eq, Nat.reduceEqDiff, ↓reduceIte, maT, maC, maN, isnN, isnS] <;> rfl) (impl_biter d hd ord sv nl l lv ms mvs w0 (SlV.ext0 hs n0.ext) hsb (SlV.ext0 hl n0.ext) hbig (SlV.ext0 hms n0.ext) hmb) ?_
  rintro v1 w1 ⟨P, h1, hA, X1⟩
  refine ⟨trivial, ?_⟩
  simp only [↓List.toList_toArray, ↓rgd, ↓rgf, ↓reduceIte, Nat.reduceEqDiff, rg, ow_30]
  refine hK _ _ ?_; clear hK K
  have rm1 := mk_at0 (X1.row rm0 fun _ _ h => h)
  have X01 := n0.ext.tr X1
  have z0 := n0.size
  have z1 := X1.size
  have M1 : readsB (some (some [w.heap.size])) w.heap.size = true := by simp [readsB]
  refine W_sq fun K hK => (W_draw (some (some [w.heap.size])) none [(0, 0, 0), (0, 1, 0), (0, 2, 0), (0, 3, 0), (0, 4, 0), (0, 6, 0), (1, 5, 0), (1, 7, 0), (0, 8, 0), (0, 9, 0), (0, 10, 0), (0, 11, 0), (0, 12, 0)] mixed (by kernel_rfl) ?_); simp only [↓List.toList_toArray, ↓rgd, ↓rgf, ↓reduceIte, Nat.reduceEqDiff, rg, ow_30, e1, e2, rm1, M1]
  refine do_call fn_60 (by simp only [evt, evc, upd_eq, Nat.reduceEqDiff, ↓reduceIte, maT, maC, maN, isnN, isnS] <;> rfl) (stree_ord sv ord l lv _ (SlV.ext0 hs (X01.tr (Ext.dr noF _ _))) hsb (SlV.ext0 hl (X01.tr (Ext.dr noF _ _))) hbig) ?_
  rintro tv w2 ⟨hT, X2⟩
  have s2 := X2.size
  refine ⟨.inr (keeps_on X2 fun y hy => ⟨by rw [sz_dr]; simp only [List.mem_cons, List.not_mem_nil, or_false] at hy; omega, fun _ g => g⟩), ?_⟩
  have X2 := X2.od
  simp only [↓List.toList_toArray, ↓rgd, ↓rgf, ↓reduceIte, Nat.reduceEqDiff, rg, ow_30, e2]
  refine do_call fn_59 (vs := #[sv, tv, mvs]) (by simp only [evt, evc, upd_eq, Nat.reduceEqDiff, ↓reduceIte, maT, maC, maN, isnN, isnS] <;> rfl) (siter_any ord sv (treeG ord l) tv ms mvs w2 (SlV.ext0 hs (X01.tr X2)) hsb hT (by omega) (SlV.ext0 hms (X01.tr X2)) hmb) ?_
  rintro _ w3 ⟨v2, v3, rfl, h2, h3, X3⟩
  have s3 := X3.size
  have s2 := X2.size
  refine ⟨by first | exact trivial | exact .inr (keeps_on X3 fun y hy => ⟨by simp only [List.mem_cons, List.not_mem_nil, or_false] at hy; omega, fun _ g => g⟩), ?_⟩
  simp only [↓List.toList_toArray, ↓rgd, ↓rgf, ↓reduceIte, Nat.reduceEqDiff, rg, ow_30]
  refine hK _ _ ?_; clear hK K
  refine W_sq fun K hK => (W_text [true, true, true, false, true] (by kernel_rfl) ?_); simp only [↓List.toList_toArray, ↓rgd, ↓rgf, ↓reduceIte, Nat.reduceEqDiff, rg, ow_30]
  have hRl := runI_length (treeG ord l) (fun k : It => lb O (rkI ord) (rkI ord k) (treeG ord l)) ms
  rw [← hRl] at h2 h3
  refine do_call fn_61 (by simp only [evt, evc, upd_eq, Nat.reduceEqDiff, ↓reduceIte, maT, maC, maN, isnN, isnS] <;> rfl) (same_any P _ hA v1 v2 v3 w3 (h1.ext0 (X2.tr X3)) h2 h3 (by have := hA.1; omega)) ?_
  rintro _ w4 ⟨rfl, X4⟩
  refine ⟨trivial, ?_⟩
  simp only [↓List.toList_toArray, ↓rgd, ↓rgf, ↓reduceIte, Nat.reduceEqDiff, rg, ow_30]
  refine hK _ _ ?_; clear hK K
  exact W_ret (endQ_1 (by simp only [upd_eq, Nat.reduceEqDiff, ↓reduceIte] <;> rfl) ⟨rfl, ((X01.tr X2).tr X3).tr X4⟩)
end Go.Proofs.Ytanmjbkbdmeckaa
/-
  FnExactBIterMut returns true, whatever the arguments. No condition.
-/
set_option linter.unusedSimpArgs false
set_option linter.unusedVariables false
namespace Go.Proofs.Ytanmjbkbdmeckaa
open Go Go.Proofs
set_option maxHeartbeats 800000 in
set_option maxRecDepth 8000 in
theorem top_FnExactBIterMut (ord : List Int) (sv : Value) (d : Int) (nl : Bool) (a0 : List It) (v0 : Value) (a1 : List (Int × It)) (v1 : Value) (w : World) (gs : SlInt w sv ord) (g0 : SlI w v0 a0) (g1 : SlV w 3 v1 a1.length (flat Em a1)) :
    CallK Try.prog 9 #[.agg #[sv, .int .i64 d, .bool nl], v0, v1] w fun v w' => v = .bool true ∧ Ext noF w w' := by
  obtain ⟨p0, c0, hv0⟩ := SlV.shape g0
  obtain ⟨p1, c1, hv1⟩ := SlV.shape g1
  refine calls_of_W [.tmp 6] Try.func9 rfl Try.ntmps9 Try.results9 (by simp) fun e he => ?_
  have e0 : e 0 = .agg #[sv, .int .i64 d, .bool nl] := he 0 _ rfl
  have e1 : e 1 = v0 := he 1 _ rfl
  have e2 : e 2 = v1 := he 2 _ rfl
  clear he
  refine W_sq fun K hK => (W_text [false, true] (by kernel_rfl) ?_); simp only [↓List.toList_toArray, ↓rgd, ↓rgf, ↓reduceIte, Nat.reduceEqDiff, rg, ow_9]
  refine do_box (by simp only [evt]; exact e0) fun w1 n1 => ⟨trivial, ?_⟩
  simp only [↓List.toList_toArray, ↓rgd, ↓rgf, ↓reduceIte, Nat.reduceEqDiff, rg, ow_9]
  refine hK _ _ ?_; clear hK K
  have rm : Row w1 w.heap.size 0 [sv, .int .i64 d, .bool nl] := n1.row
  have XB : Ext noF w w1 := n1.ext
  have rm3 : rdA w1 w.heap.size 0 3 = some (.agg #[sv, .int .i64 d, .bool nl]) := rm.rdA 3 (Nat.le_refl _)
  refine W_seq ?_
  refine W_sq fun K hK => (W_text [true, false, true, true, true, true, true, true, true, true, true, true, true] (by kernel_rfl) ?_); simp only [↓List.toList_toArray, ↓rgd, ↓rgf, ↓reduceIte, Nat.reduceEqDiff, rg, ow_9, e1, e2, hv0, hv1, rm3]
  refine do_call fn_13 (by simp only [evt, evc, upd_eq, Nat.reduceEqDiff, ↓reduceIte, maT, maC, maN, isnN, isnS] <;> rfl) (fits1_any sv ord (.int .i64 d) nl w1 (SlV.ext0 gs XB)) ?_
  rintro _ wf ⟨rfl, xf⟩
  refine ⟨trivial, ?_⟩
  have XF := XB.tr xf
  by_cases hbo : ord.length ≤ 2147483647
  case neg =>
    have to : decide (ord.length ≤ 2147483647) = false := by simp; omega
    simp only [↓List.toList_toArray, ↓rgd, ↓rgf, ↓reduceIte, Nat.reduceEqDiff, rg, ow_9, e1, e2, hv0, hv1, to]
    refine hK _ _ ?_; clear hK K
    refine W_true (by simp only [evt, evc, upd_eq, Nat.reduceEqDiff, ↓reduceIte, ntT, ntF] <;> rfl) ?_
    refine W_sq fun K hK => (W_text [true] (by kernel_rfl) ?_); simp only [↓List.toList_toArray, ↓rgd, ↓rgf, ↓reduceIte, Nat.reduceEqDiff, rg, ow_9]
    refine hK _ _ ?_; clear hK K
    refine W_ret ?_
    simp only [andThen_ret]
    exact endQ_1 (by simp only [upd_eq, Nat.reduceEqDiff, ↓reduceIte] <;> rfl) ⟨rfl, XF⟩
  have to : decide (ord.length ≤ 2147483647) = true := by simp; omega
  by_cases hb0 : a0.length ≤ 2147483647
  case neg =>
    have t0 : decide ((2147483647 : Int) < (a0.length : Int)) = true := by simp; omega
    simp only [↓List.toList_toArray, ↓rgd, ↓rgf, ↓reduceIte, Nat.reduceEqDiff, rg, ow_9, e1, e2, hv0, hv1, to, t0]
    refine hK _ _ ?_; clear hK K
    refine W_true (by simp only [evt, evc, upd_eq, Nat.reduceEqDiff, ↓reduceIte, ntT, ntF] <;> rfl) ?_
    refine W_sq fun K hK => (W_text [true] (by kernel_rfl) ?_); simp only [↓List.toList_toArray, ↓rgd, ↓rgf, ↓reduceIte, Nat.reduceEqDiff, rg, ow_9]
    refine hK _ _ ?_; clear hK K
    refine W_ret ?_
    simp only [andThen_ret]
    exact endQ_1 (by simp only [upd_eq, Nat.reduceEqDiff, ↓reduceIte] <;> rfl) ⟨rfl, XF⟩
  have t0 : decide ((2147483647 : Int) < (a0.length : Int)) = false := by simp; omega
  by_cases hb1 : a1.length ≤ 2147483647
  case neg =>
    have t1 : decide ((2147483647 : Int) < (a1.length : Int)) = true := by simp; omega
    simp only [↓List.toList_toArray, ↓rgd, ↓rgf, ↓reduceIte, Nat.reduceEqDiff, rg, ow_9, e1, e2, hv0, hv1, to, t0, t1]
    refine hK _ _ ?_; clear hK K
    refine W_true (by simp only [evt, evc, upd_eq, Nat.reduceEqDiff, ↓reduceIte, ntT, ntF] <;> rfl) ?_
    refine W_sq fun K hK => (W_text [true] (by kernel_rfl) ?_); simp only [↓List.toList_toArray, ↓rgd, ↓rgf, ↓reduceIte, Nat.reduceEqDiff, rg, ow_9]
    refine hK _ _ ?_; clear hK K
    refine W_ret ?_
    simp only [andThen_ret]
    exact endQ_1 (by simp only [upd_eq, Nat.reduceEqDiff, ↓reduceIte] <;> rfl) ⟨rfl, XF⟩
  have t1 : decide ((2147483647 : Int) < (a1.length : Int)) = false := by simp; omega
  simp only [↓List.toList_toArray, ↓rgd, ↓rgf, ↓reduceIte, Nat.reduceEqDiff, rg, ow_9, e1, e2, hv0, hv1, to, t0, t1]
  refine hK _ _ ?_; clear hK K
  refine W_false (by simp only [evt, evc, upd_eq, Nat.reduceEqDiff, ↓reduceIte, ntT, ntF] <;> rfl) (W_skip ?_)
  show W _ _ _ _ _ _
  refine W_sq fun K hK => (W_text [false, false, false, false, true, true, true, false, true, true, true, true, true, false, true, true, true] (by kernel_rfl) ?_); simp only [↓List.toList_toArray, ↓rgd, ↓rgf, ↓reduceIte, Nat.reduceEqDiff, rg, ow_9]
  refine do_call fn_15 (by simp only [evt, evc, upd_eq, Nat.reduceEqDiff, ↓reduceIte, maT, maC, maN, isnN, isnS] <;> rfl) (exMake_any wf) ?_
  rintro _ u0 ⟨rfl, z0⟩
  refine ⟨trivial, ?_⟩
  simp only [↓List.toList_toArray, ↓rgd, ↓rgf, ↓reduceIte, Nat.reduceEqDiff, rg, ow_9]
  have Y0 := z0
  refine do_call fn_16 (by simp only [evt, evc, upd_eq, Nat.reduceEqDiff, ↓reduceIte, maT, maC, maN, isnN, isnS] <;> rfl) (exItems_any u0) ?_
  rintro x0 u1 ⟨q0, y1⟩
  refine ⟨trivial, ?_⟩
  simp only [↓List.toList_toArray, ↓rgd, ↓rgf, ↓reduceIte, Nat.reduceEqDiff, rg, ow_9]
  have Y1 := Y0.tr y1
  refine do_call fn_31 (by simp only [evt, evc, upd_eq, Nat.reduceEqDiff, ↓reduceIte, maT, maC, maN, isnN, isnS] <;> rfl) (exMoves_any u1) ?_
  rintro x1 u2 ⟨q1, y2⟩
  refine ⟨trivial, ?_⟩
  simp only [↓List.toList_toArray, ↓rgd, ↓rgf, ↓reduceIte, Nat.reduceEqDiff, rg, ow_9]
  have q0 := SlV.ext0 q0 y2
  have Y2 := Y1.tr y2
  refine do_call fn_30 (by simp only [evt, evc, upd_eq, Nat.reduceEqDiff, ↓reduceIte, maT, maC, maN, isnN, isnS] <;> rfl) (law_biter 2 (.inr (by decide)) [] nilS false exL x0 exMv x1 u2 (nil_int _) (by decide) q0 (by decide) q1 (by decide)) ?_
  rintro _ u3 ⟨rfl, y3⟩
  refine ⟨trivial, ?_⟩
  have Y3 := Y2.tr y3
  have XA := XF.tr Y3
  have rmA := (xf.tr Y3).row rm fun _ _ h => h
  have rd1 := (Row.cons.1 (Row.cons.1 rmA).2).1
  have rmA3 : rdA u3 w.heap.size 0 3 = some (.agg #[sv, .int .i64 d, .bool nl]) := rmA.rdA 3 (Nat.le_refl _)
  rw [Nat.zero_add] at rd1
  simp only [↓List.toList_toArray, ↓rgd, ↓rgf, ↓reduceIte, Nat.reduceEqDiff, rg, ow_9, rd1]
  refine do_call fn_17 (by simp only [evt, evc, upd_eq, Nat.reduceEqDiff, ↓reduceIte, maT, maC, maN, isnN, isnS] <;> rfl) (fits_any d u3) ?_
  rintro _ _ ⟨rfl, rfl⟩
  refine ⟨trivial, ?_⟩
  cases hf : (decide (d = 0) || (decide (2 ≤ d) && decide (d ≤ 128))) with
  | false =>
    simp only [↓List.toList_toArray, ↓rgd, ↓rgf, ↓reduceIte, Nat.reduceEqDiff, rg, ow_9]
    refine hK _ _ ?_; clear hK K
    exact W_ret (endQ_1 (by simp only [upd_eq, Nat.reduceEqDiff, ↓reduceIte] <;> rfl) ⟨rfl, XA⟩)
  | true =>
    have h2 : d = 0 ∨ 2 ≤ d ∧ d ≤ 128 := by simp at hf; omega
    obtain ⟨n, rfl⟩ : ∃ n : Nat, d = n := ⟨d.toNat, by omega⟩
    simp only [↓List.toList_toArray, ↓rgd, ↓rgf, ↓reduceIte, Nat.reduceEqDiff, rg, ow_9, e1, e2, rmA3]
    refine do_call fn_30 (by simp only [evt, evc, upd_eq, Nat.reduceEqDiff, ↓reduceIte, maT, maC, maN, isnN, isnS] <;> rfl) (law_biter n (show DOk n by unfold DOk; omega) ord sv nl a0 v0 a1 v1 u3 (SlV.ext0 gs XA) hbo (SlV.ext0 g0 XA) hb0 (SlV.ext0 g1 XA) hb1) ?_
    rintro _ u9 ⟨rfl, y9⟩
    refine ⟨trivial, ?_⟩
    simp only [↓List.toList_toArray, ↓rgd, ↓rgf, ↓reduceIte, Nat.reduceEqDiff, rg, ow_9]
    refine hK _ _ ?_; clear hK K
    exact W_ret (endQ_1 (by simp only [upd_eq, Nat.reduceEqDiff, ↓reduceIte] <;> rfl) ⟨rfl, XA.tr y9⟩)
end Go.Proofs.Ytanmjbkbdmeckaa
/-
  FnExactBIterMut: the whole statement: it returns true whatever the input is, and the arguments read as before. No condition.
-/
set_option linter.unusedSimpArgs false
set_option linter.unusedVariables false
namespace Go.Proofs.Ytanmjbkbdmeckaa
open Go Go.Proofs Go.ChangeShapes Go.WideShapes Go.ChangeAt Go.RowKit
set_option maxRecDepth 100000 in
theorem c_FnExactBIterMut (H : Type) (enc : TypeId × Value → H) (W : World) (base : Nat) (args : Array Value) (ds gs : List (DataW H)) (before : List MemPlace)
    (hval : ∀ (j : Nat) t v, Try.f9.params[j]? = some t → args[j]? = some v → Value.okWide Try.prog W .any base t v)
    (hW : DataW.Whole enc Try.prog Try.f9.params.toList Rows.fnExactBIterMutSpec.vars false W args.toList ds gs before) :
    Calls Try.prog 9 args W fun e W' => ∃ v, e = .returned v ∧ Rows.fnExactBIterMutSpec.post enc Try.prog Try.f9 false true false false W args v W' := by
  have hW' := hW
  obtain ⟨p, q, hA0, hV, rfl, hfz, hnd⟩ := hW
  have hA : DataW.TrodAll enc Try.prog W 0 (fun _ => true) true Try.f9.params.toList args.toList ds p := hA0
  rw [Try.params9] at hA hval
  obtain ⟨v0, v1, v2, d0, d1, d2, p0, p1, p2, rfl, rfl, rfl, h0, h1, h2⟩ := trodAll_three hA
  obtain ⟨rfl, rfl⟩ := trodVars_none hV
  obtain ⟨s0, a0, n0, r0, rfl, g0⟩ := open_make (hval 0 24 v0 rfl rfl) h0 fun b o h => hfz b o (by simp [h])
  obtain ⟨a1, g1⟩ := open_items (hval 1 25 v1 rfl rfl) h1 fun b o h => hfz b o (by simp [h])
  obtain ⟨a2, g2⟩ := open_moves (hval 2 45 v2 rfl rfl) h2 fun b o h => hfz b o (by simp [h])
  exact calls_law laidOut (by rw [Try.params9]; kernel_rfl) rfl hW' rfl rfl rfl (by kernel_rfl) Try.underlying4 (top_FnExactBIterMut r0 s0 a0 n0 a1 v1 a2 v2 W g0 g1 g2)
set_option maxRecDepth 100000 in
theorem l_FnExactBIterMut (os : Os) (started : os.Started) (H : Type) (enc : TypeId × Value → H) :
    ReturnsInHanded {} Try.checked os 9 .any (Rows.fnExactBIterMutSpec.pre6 enc Try.prog Try.f9 Rows.fnExactBIterMutRow.domain false) (Rows.fnExactBIterMutSpec.post enc Try.prog Try.f9 false true false false) := by
  refine returnsInHanded_of_change (C := Try.checked) own started (by kernel_rfl) Try.func9
    (ChangeSpec.witness6 (enc := enc) (C := Try.checked) false ⟨#[], #[.agg #[.slice none 0 0, .int .i64 0, .bool false], .slice none 0 0, .slice none 0 0], []⟩ 8 (by kernel_rfl) (by kernel_rfl) (by kernel_rfl) (by kernel_rfl)) ?_
  intro W base args ds gs before hval hW _ _
  exact c_FnExactBIterMut H enc W base args ds gs before hval hW
theorem h_FnExactBIterMut : Rows.FnExactBIterMutSaid :=
  OpenClaim.holds_of_wide 9 Try.f9 rfl rfl rfl rfl rfl rfl rfl ⟨rfl, rfl, rfl, rfl, rfl⟩ rfl rfl rfl rfl rfl (by kernel_rfl) Try.func9 (by kernel_rfl)
    (of_decide_eq_true (by kernel_rfl)) (by unfold Func.isWrapper; first | (rw [if_pos (by decide +kernel)]; kernel_rfl) | (rw [if_neg (by decide +kernel)]; exact ⟨rfl, rfl⟩))
    (fun os started H enc _ => l_FnExactBIterMut os started H enc)
#print axioms h_FnExactBIterMut
end Go.Proofs.Ytanmjbkbdmeckaa
