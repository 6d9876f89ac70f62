/-
  A map that is grown from a list; its length. No condition.
-/
import Derived.Test.YtinpigpeoakeaaaMGrow
import Derived.Test.YtinpigpeoakeaaaMItems
set_option linter.unusedSimpArgs false
set_option linter.unusedVariables false
namespace Go.Proofs.Ytinpigpeoakeaaa
open Go Go.Proofs
/-- Setting in whatever map. -/
theorem set_map (m d : Nat) (iso : Int) (x : It) (hd : 2 ≤ d) (hd' : d ≤ 128) (xs : List It) (F : Nat → Nat → Prop) (w : World) (hM : MapAt w m d iso xs F) (hbig : xs.length < 1152921504606846976) :
    CallK Try.prog 40 #[ptr m, kV x.1, vV x] w fun v w' => v = .tuple #[vV ((at? O κ (κ x) xs).getD zIt), .bool (hit O κ (κ x) xs)] ∧ Ext (mapF m F) w w' ∧
      ∃ F', MapAt w' m d iso (put O κ x xs) F' ∧ ∀ y o, F' y o → F y o ∨ w.heap.size ≤ y := by
  rcases hM.root with ⟨rfl, hr⟩ | ⟨h, b, hr, ht⟩
  · refine CallK_mono (set_nil m d iso x hd hd' w hM.cfg hr) ?_
    rintro v w' ⟨rfl, hX, F', hM', hF'⟩
    exact ⟨rfl, hX.mono fun y o _ g => g.imp (fun g => g.elim) id, F', by rw [put_nil]; exact hM', fun y o g => .inr (hF' y o g)⟩
  · exact set_root m d iso x hd hd' _ h b xs F w rfl hM.cfg hM.cnt hM.asc hr ht hM.off hbig
set_option maxHeartbeats 400000 in
set_option maxRecDepth 8000 in
theorem grow_any (d : Nat) (hd : 2 ≤ d) (hd' : d ≤ 128) (l : List It) (lv : Value) (w : World) (hl : SlI w lv l) (hbig : l.length ≤ 2147483647) :
    CallK Try.prog 24 #[.int .i64 d, lv] w fun v w' => Ext noF w w' ∧ ∃ m F, v = ptr m ∧ MapAt w' m d 0 (tree l) F ∧ w.heap.size ≤ m ∧ ∀ y o, F y o → w.heap.size ≤ y := by
  refine calls_of_W [.tmp 4] Try.func24 rfl Try.ntmps24 Try.results24 (by simp) fun e he => ?_
  have e0 : e 0 = .int .i64 d := he 0 _ rfl
  have e1 : e 1 = lv := he 1 _ rfl
  clear he
  refine W_sq fun K hK => (W_text [true] (by kernel_rfl) ?_); simp only [↓List.toList_toArray, ↓rgd, ↓reduceIte, Nat.reduceEqDiff, rg, ow_24]
  refine hK _ _ ?_; clear hK K
  refine W_sq fun K hK => (W_text [true, false, true] (by kernel_rfl) ?_); simp only [↓List.toList_toArray, ↓rgd, ↓reduceIte, Nat.reduceEqDiff, rg, ow_24, e0]
  refine do_call fn_39 (by simp only [evt, evc, upd_eq, Nat.reduceEqDiff, ↓reduceIte, maT, maC, maN, isnN, isnS] <;> rfl) (newMap_any d hd hd' w) ?_
  rintro _ w1 ⟨m, rfl, hm, X1, c1, r1, k1⟩
  refine ⟨trivial, ?_⟩
  simp only [↓List.toList_toArray, ↓rgd, ↓reduceIte, Nat.reduceEqDiff, rg, ow_24]
  refine hK _ _ ?_; clear hK K
  obtain ⟨a, c, hlv⟩ : ∃ a c, lv = .slice a l.length c := by
    rcases hl.2 with ⟨rfl, h⟩ | ⟨b, o, cap, rfl, _⟩
    · exact ⟨none, 0, by rw [h]⟩
    · exact ⟨_, _, rfl⟩
  refine W_seq ?_
  refine W_sq fun K hK => (W_text [true, true, true] (by kernel_rfl) ?_); simp only [↓List.toList_toArray, ↓rgd, ↓reduceIte, Nat.reduceEqDiff, rg, ow_24, e1, hlv]
  refine hK _ _ ?_; clear hK K
  refine W_block (W_loop (fun mm e w' => ∃ i : Nat, mm = l.length - i ∧ i ≤ l.length ∧ e 10 = lv ∧ e 5 = ptr m ∧ e 11 = .int .i64 l.length ∧ e 12 = .int .i64 i ∧ Ext noF w w' ∧ ∃ F, MapAt w' m d 0 (tree (l.take i)) F ∧ ∀ y o, F y o → w.heap.size ≤ y)
    l.length ⟨0, by simp, by simp, ?_, ?_, ?_, ?_, X1, noF, ⟨c1, k1, List.Pairwise.nil, .inl ⟨rfl, r1⟩, fun _ h => h, fun _ _ h => h.elim⟩, fun _ _ h => h.elim⟩ ?_)
  · simp only [upd_eq, Nat.reduceEqDiff, ↓reduceIte]; rw [hlv]
  · simp only [upd_eq, Nat.reduceEqDiff, ↓reduceIte]
  · simp only [upd_eq, Nat.reduceEqDiff, ↓reduceIte]
  · simp only [upd_eq, Nat.reduceEqDiff, ↓reduceIte]; rfl
  · clear X1 c1 r1 k1 e0 e1 e
    rintro mm e w' ⟨i, rfl, hi, e10, e5, e11, e12, X, F, hM, hF⟩
    by_cases hlt : i < l.length
    · have ht := lt_tt i l.length hlt
      refine W_sq fun K hK => (W_text [true] (by kernel_rfl) ?_); simp only [↓List.toList_toArray, ↓rgd, ↓reduceIte, Nat.reduceEqDiff, rg, ow_24, e11, e12, ht]
      refine hK _ _ ?_; clear hK K
      refine W_seq (W_true (by simp only [evt, evc, upd_eq, Nat.reduceEqDiff, ↓reduceIte, ntT, ntF] <;> rfl) (W_skip ?_))
      show W _ _ _ _ _ _
      obtain ⟨x, hx⟩ : ∃ x, l[i]? = some x := ⟨_, List.getElem?_eq_getElem hlt⟩
      obtain ⟨lb, lo, cap, rfl, hlc, row, wl⟩ : ∃ b o cap, lv = .slice (some ⟨b, o, none⟩) l.length cap ∧ l.length ≤ cap ∧ Row w b o (flat Ei l) ∧ wokR w b o (cap * 2) := by
        rcases hl.2 with ⟨_, h⟩ | h
        · omega
        · exact h
      have row' : Row w' lb lo (flat Ei l) := X.row row fun _ _ h => h
      have ix := iV_at row' hx
      refine W_seq (W_block ?_)
      refine W_sq fun K hK => (W_text [true, true, false, false] (by kernel_rfl) ?_); simp only [↓List.toList_toArray, ↓rgd, ↓reduceIte, Nat.reduceEqDiff, rg, ow_24, e10, e12, hlt, ix]
      refine do_alloc z_item fun w2 n2 => ⟨trivial, ?_⟩
      simp only [↓List.toList_toArray, ↓rgd, ↓reduceIte, Nat.reduceEqDiff, rg, ow_24]
      refine do_store (v := iV x) (by simp only [evt, evc, upd_eq, Nat.reduceEqDiff, ↓reduceIte, ntT, ntF] <;> rfl) (by simp only [evt, evc, upd_eq, Nat.reduceEqDiff, ↓reduceIte, ntT, ntF] <;> rfl) sz_31 rfl n2.wok (by decide) (Ei.one x) fun w3 x3 r3 s3 => ⟨trivial, ?_⟩
      simp only [↓List.toList_toArray, ↓rgd, ↓reduceIte, Nat.reduceEqDiff, rg, ow_24]
      refine hK _ _ ?_; clear hK K
      have X3 : Ext noF w' w3 := noF_of n2.ext x3 fun y o hy h => by simp only [rng] at h; omega
      have rx : Row w3 w'.heap.size 0 [kV x.1, .int .i64 x.2] := r3
      have v0 := (Row.cons.1 rx).1
      have v1 := (Row.cons.1 (Row.cons.1 rx).2).1
      have hM3 : MapAt w3 m d 0 (tree (l.take i)) F := ⟨hM.cfg.ext X3 fun _ _ _ h => h, X3.rd hM.cnt fun h => h, hM.asc, by
        rcases hM.root with ⟨h1, h2⟩ | ⟨h, b, h1, h2⟩
        · exact .inl ⟨h1, X3.rd h2 fun h => h⟩
        · exact .inr ⟨h, b, X3.rd h1 fun h => h, h2.ext X3 fun _ _ _ h => h⟩, hM.off, fun y o g => Nat.lt_of_lt_of_le (hM.lt y o g) X3.size⟩
      have htl := tree_len (l.take i)
      have htk : (l.take i).length ≤ i := by rw [List.length_take]; omega
      refine W_rg fun K hK => (W_text [true, true, true, true, true, false] (by kernel_rfl) ?_); simp only [↓List.toList_toArray, ↓rgd, ↓reduceIte, Nat.reduceEqDiff, rg, ow_24, e5, v0, v1]
      refine do_call fn_40 (by simp only [evt, evc, upd_eq, Nat.reduceEqDiff, ↓reduceIte, maT, maC, maN, isnN, isnS] <;> rfl) (set_map m d 0 x hd hd' _ F w3 hM3 (by omega)) ?_
      rintro v w4 ⟨-, x4, F', hM4, hF'⟩
      refine ⟨trivial, ?_⟩
      simp only [↓List.toList_toArray, ↓rgd, ↓reduceIte, Nat.reduceEqDiff, rg, ow_24]
      refine hK _ _ ?_; clear hK K
      show W _ _ _ _ _ _
      have q1 := wadd1 i (by omega)
      refine W_rg fun K hK => (W_text [true, true] (by kernel_rfl) ?_); simp only [↓List.toList_toArray, ↓rgd, ↓reduceIte, Nat.reduceEqDiff, rg, ow_24, e12, q1]
      refine hK _ _ ?_; clear hK K
      have s3' := X3.size
      have sX := X.size
      refine ⟨_, ?_, i + 1, rfl, hlt, ?_, ?_, ?_, ?_, ?_, F', by rw [tree_succ l i x hx]; exact hM4, fun y o g => ?_⟩
      · omega
      · simp only [upd_eq, Nat.reduceEqDiff, ↓reduceIte]; exact e10
      · simp only [upd_eq, Nat.reduceEqDiff, ↓reduceIte]; exact e5
      · simp only [upd_eq, Nat.reduceEqDiff, ↓reduceIte]; exact e11
      · simp only [upd_eq, Nat.reduceEqDiff, ↓reduceIte]
      · refine noF_of (X.tr X3) x4 fun y o hy g => ?_
        rcases g with g | g
        · have := hF y o g; omega
        · omega
      · rcases hF' y o g with g | g
        · exact hF y o g
        · omega
    · obtain rfl : i = l.length := by omega
      have ht := lt_ff l.length l.length (by omega)
      refine W_sq fun K hK => (W_text [true] (by kernel_rfl) ?_); simp only [↓List.toList_toArray, ↓rgd, ↓reduceIte, Nat.reduceEqDiff, rg, ow_24, e11, e12, ht]
      refine hK _ _ ?_; clear hK K
      refine W_seq (W_false (by simp only [evt, evc, upd_eq, Nat.reduceEqDiff, ↓reduceIte, ntT, ntF] <;> rfl) (W_exit ?_))
      simp only [andThen_exit, inBlk_exit, andThen_normal, ↓reduceIte]
      refine W_sq fun K hK => (W_text [true, true] (by kernel_rfl) ?_); simp only [↓List.toList_toArray, ↓rgd, ↓reduceIte, Nat.reduceEqDiff, rg, ow_24, e5]
      refine hK _ _ ?_; clear hK K
      rw [List.take_length] at hM
      exact W_ret (endQ_1 (by simp only [upd_eq, Nat.reduceEqDiff, ↓reduceIte] <;> rfl) ⟨X, m, F, rfl, hM, hm, hF⟩)
end Go.Proofs.Ytinpigpeoakeaaa
