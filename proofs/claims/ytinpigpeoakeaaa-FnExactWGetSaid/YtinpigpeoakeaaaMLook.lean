/-
  The value of a key. No condition.
-/
import Derived.Test.YtinpigpeoakeaaaMAt
import Derived.Test.YtinpigpeoakeaaaMSet
import Derived.Test.YtinpigpeoakeaaaApp
set_option linter.unusedSimpArgs false
set_option linter.unusedVariables false
namespace Go.Proofs.Ytinpigpeoakeaaa
open Go Go.Proofs
theorem vx_atL {w : World} {b o : Nat} {xs : List It} (h : Row w b o (flat E xs)) {i : Nat} {x : It} (hi : xs[i]? = some x) : rd w b (o + i * 2) = some (vV x) := val_at h hi
theorem at_none {q : Rk} {xs : List It} (h : hit O κ q xs = false) : at? O κ q xs = none := by unfold at?; rw [h]; rfl
set_option maxHeartbeats 1000000 in
set_option maxRecDepth 8000 in
theorem get_any (m d : Nat) (hd : 2 ≤ d) (hd' : d ≤ 128) (iso : Int) (xs : List It) (F : Nat → Nat → Prop) (q : Rk) (mu : Bool) (w : World) (hM : MapAt w m d iso xs F) :
    CallK Try.prog 59 #[ptr m, kV q, .bool mu] w fun v w' => v = .tuple #[vV ((at? O κ q xs).getD zIt), .bool (hit O κ q xs)] ∧ RO w w' := by
  refine calls_of_W [.tmp 6, .tmp 7] Try.func59 rfl Try.ntmps59 Try.results59 (by simp) fun e he => ?_
  have e0 : e 0 = ptr m := he 0 _ rfl
  have e1 : e 1 = kV q := he 1 _ rfl
  have e2 : e 2 = .bool mu := he 2 _ rfl
  clear he
  have hz := vV_at hM.cfg.ez
  refine W_sq fun K0 hK => (W_text [true, true] (by kernel_rfl) ?_); simp only [↓List.toList_toArray, ↓rgd, ↓reduceIte, Nat.reduceEqDiff, rg, ow_59]
  refine hK _ _ ?_; clear hK K0
  refine W_seq ?_
  rcases hM.root with ⟨rfl, hr⟩ | ⟨h, b, hr, ht⟩
  · refine W_sq fun K0 hK => (W_text [true, true, true, true, true] (by kernel_rfl) ?_); simp only [↓List.toList_toArray, ↓rgd, ↓reduceIte, Nat.reduceEqDiff, rg, ow_59, e0, ptr_eq, hr]
    refine hK _ _ ?_; clear hK K0
    refine W_true (by simp only [evt, evc, upd_eq, Nat.reduceEqDiff, ↓reduceIte, ntT, ntF] <;> rfl) ?_
    refine W_sq fun K0 hK => (W_text [true, true, true, true, true, true, true] (by kernel_rfl) ?_); simp only [↓List.toList_toArray, ↓rgd, ↓reduceIte, Nat.reduceEqDiff, rg, ow_59, e0, ptr_eq, hz]
    refine hK _ _ ?_; clear hK K0
    refine W_ret ?_
    simp only [andThen_ret]
    exact endQ_2 (by simp only [upd_eq, Nat.reduceEqDiff, ↓reduceIte] <;> rfl) (by simp only [upd_eq, Nat.reduceEqDiff, ↓reduceIte] <;> rfl) ⟨rfl, RO.refl _⟩
  · refine W_sq fun K0 hK => (W_text [true, true, true, true, true] (by kernel_rfl) ?_); simp only [↓List.toList_toArray, ↓rgd, ↓reduceIte, Nat.reduceEqDiff, rg, ow_59, e0, ptr_eq, hr]
    refine hK _ _ ?_; clear hK K0
    refine W_false (by simp only [evt, evc, upd_eq, Nat.reduceEqDiff, ↓reduceIte, ntT, ntF] <;> rfl) (W_skip ?_)
    show W _ _ _ _ _ _
    have hi00 : rd w b 0 = some (.int .u64 iso) := by obtain ⟨bi, oi, cap, ks, ch, ho, _⟩ := ht.open; exact ho.h0
    refine W_sq fun K0 hK => (W_text [true, true, true, true, true, false, true] (by kernel_rfl) ?_); simp only [↓List.toList_toArray, ↓rgd, ↓reduceIte, Nat.reduceEqDiff, rg, ow_59, e0, e2, ptr_eq]
    refine do_call fn_60 (by simp only [evt, evc, upd_eq, Nat.reduceEqDiff, ↓reduceIte, maT, maC, maN, isnN, isnS] <;> rfl) (isoLoad_any m m 2 b mu iso w hM.cfg.iso hr hi00) ?_
    rintro _ w1 ⟨rfl, r1⟩
    refine ⟨trivial, ?_⟩
    simp only [↓List.toList_toArray, ↓rgd, ↓reduceIte, Nat.reduceEqDiff, rg, ow_59]
    refine hK _ _ ?_; clear hK K0
    refine W_block (W_loop (fun mm e w' => ∃ (lo b : Nat) (ys : List It) (F : Nat → Nat → Prop), Tr E iso (d - 1) (2 * d - 1) mm w lo b ys F ∧ Asc O κ ys ∧ at? O κ q ys = at? O κ q xs ∧ hit O κ q ys = hit O κ q xs ∧ RO w w' ∧ e 0 = ptr m ∧ e 1 = kV q ∧ e 2 = .bool mu ∧ e 8 = ptr b)
      h ⟨1, b, xs, F, ht, hM.asc, rfl, rfl, r1, ?_, ?_, ?_, ?_⟩ ?_)
    · simp only [upd_eq, Nat.reduceEqDiff, ↓reduceIte]; exact e0
    · simp only [upd_eq, Nat.reduceEqDiff, ↓reduceIte]; exact e1
    · simp only [upd_eq, Nat.reduceEqDiff, ↓reduceIte]; exact e2
    · simp only [upd_eq, Nat.reduceEqDiff, ↓reduceIte]
    clear e0 e1 e2 e hr ht r1 hi00
    rintro mm e w' ⟨lo, b, ys, F', ht, ha, h1, h2, r, e0, e1, e2, e8⟩
    have X : Ext noF w w' := r.ext
    have hiso := X.rd hM.cfg.iso (fun h => h)
    have hz' := X.rd hz (fun h => h)
    obtain ⟨bi, oi, cap, ks, ch, ho, hl1, hl2, _, hin⟩ := ht.open
    have ho' := ho.ext X fun _ _ _ h => h
    have hak : Asc O κ ks := by
      rcases hin with ⟨_, _, hx, _⟩ | ⟨_, _, _, _, _, cs, _, _, n⟩
      · rw [← hx]; exact ha
      · refine List.Pairwise.sublist ?_ ha
        rw [n.eq]; exact weave_sub _ _ (by simpa using n.len)
    have hb2 := ho'.h2
    have hb3 := ho'.h3
    refine W_block ?_
    refine W_sq fun K0 hK => (W_text [true, true, true, false, true, true, true, true, true] (by kernel_rfl) ?_); simp only [↓List.toList_toArray, ↓rgd, ↓reduceIte, Nat.reduceEqDiff, rg, ow_59, e0, e1, e8]
    refine do_call fn_67 (by simp only [evt, evc, upd_eq, Nat.reduceEqDiff, ↓reduceIte, maT, maC, maN, isnN, isnS] <;> rfl) (search_any (ptr m) b bi oi cap ks q w' ho'.h2 ho'.row (by omega) hak) ?_
    rintro _ w2 ⟨rfl, r2⟩
    refine ⟨trivial, ?_⟩
    simp only [↓List.toList_toArray, ↓rgd, ↓reduceIte, Nat.reduceEqDiff, rg, ow_59, srch_eq]
    refine hK _ _ ?_; clear hK K0
    have X2 : Ext noF w' w2 := r2.ext
    have hb2' := X2.rd hb2 (fun h => h)
    have hb3' := X2.rd hb3 (fun h => h)
    refine W_seq ?_
    cases hh : hit O κ q ks with
    | true =>
      refine W_sq fun K0 hK => (W_text [true] (by kernel_rfl) ?_); simp only [↓List.toList_toArray, ↓rgd, ↓reduceIte, Nat.reduceEqDiff, rg, ow_59, hh]
      refine hK _ _ ?_; clear hK K0
      refine W_true (by simp only [evt, evc, upd_eq, Nat.reduceEqDiff, ↓reduceIte, ntT, ntF] <;> rfl) ?_
      obtain ⟨kk, hk1, hk2⟩ := hit_at O κ hh
      have hi := (List.getElem?_eq_some_iff.1 hk1).1
      have hv := vx_atL (X2.row ho'.row fun _ _ h => h) hk1
      refine W_sq fun K0 hK => (W_text [true, true, true, true, true, true, true, true, true, true] (by kernel_rfl) ?_); simp only [↓List.toList_toArray, ↓rgd, ↓reduceIte, Nat.reduceEqDiff, rg, ow_59, e8, ptr_eq, hb2', hi, hv]
      refine hK _ _ ?_; clear hK K0
      have key : hit O κ q ys = true ∧ at? O κ q ys = some kk := by
        rcases hin with ⟨_, _, rfl, _⟩ | ⟨_, _, _, _, _, cs, _, _, n⟩
        · exact ⟨hh, by unfold at?; rw [hh]; exact hk1⟩
        · obtain ⟨A, C, hw⟩ := weave_key (lb O κ q ks) (cs.map Kid.xs) ks kk (by simpa using n.len) hk1
          have hxs : ys = A ++ kk :: C := by
            rw [n.eq, ← hw kk]
            obtain ⟨g1, g2⟩ := List.getElem?_eq_some_iff.1 hk1
            rw [← g2, List.set_getElem_self g1]
          have hf := found_xs (x := kk) ha hxs rfl
          rw [hk2]
          exact ⟨hf.1, hf.2.1⟩
      refine W_ret ?_
      simp only [andThen_ret, inBlk_ret]
      refine endQ_2 (by simp only [upd_eq, Nat.reduceEqDiff, ↓reduceIte] <;> rfl) (by simp only [upd_eq, Nat.reduceEqDiff, ↓reduceIte] <;> rfl) ⟨?_, r.tr r2⟩
      rw [← h1, ← h2, key.1, key.2]; rfl
    | false =>
      refine W_sq fun K0 hK => (W_text [true] (by kernel_rfl) ?_); simp only [↓List.toList_toArray, ↓rgd, ↓reduceIte, Nat.reduceEqDiff, rg, ow_59, hh]
      refine hK _ _ ?_; clear hK K0
      refine W_false (by simp only [evt, evc, upd_eq, Nat.reduceEqDiff, ↓reduceIte, ntT, ntF] <;> rfl) (W_skip ?_)
      simp only [andThen_normal]
      refine W_seq ?_
      have hlb : lb O κ q ks ≤ ks.length := lb_le O κ _ _
      rcases hin with ⟨rfl, rfl, rfl, hF⟩ | ⟨h', bc, ba, oa, capc, cs, rfl, rfl, n⟩
      · refine W_sq fun K0 hK => (W_text [true, false] (by kernel_rfl) ?_); simp only [↓List.toList_toArray, ↓rgd, ↓reduceIte, Nat.reduceEqDiff, rg, ow_59, e8]
        refine do_call fn_58 (by simp only [evt, evc, upd_eq, Nat.reduceEqDiff, ↓reduceIte, maT, maC, maN, isnN, isnS] <;> rfl) (leaf_any b none w2 hb3') ?_
        rintro _ w2 ⟨rfl, rfl⟩
        refine ⟨trivial, ?_⟩
        simp only [↓List.toList_toArray, ↓rgd, ↓reduceIte, Nat.reduceEqDiff, rg, ow_59]
        refine hK _ _ ?_; clear hK K0
        refine W_true (by simp only [evt, evc, upd_eq, Nat.reduceEqDiff, ↓reduceIte, ntT, ntF] <;> rfl) ?_
        have hz2 := X2.rd hz' (fun h => h)
        refine W_sq fun K0 hK => (W_text [true, true, true, true, true, true, true] (by kernel_rfl) ?_); simp only [↓List.toList_toArray, ↓rgd, ↓reduceIte, Nat.reduceEqDiff, rg, ow_59, e0, ptr_eq, hz2]
        refine hK _ _ ?_; clear hK K0
        refine W_ret ?_
        simp only [andThen_ret, inBlk_ret]
        refine endQ_2 (by simp only [upd_eq, Nat.reduceEqDiff, ↓reduceIte] <;> rfl) (by simp only [upd_eq, Nat.reduceEqDiff, ↓reduceIte] <;> rfl) ⟨?_, r.tr r2⟩
        rw [← h1, ← h2, hh, at_none hh]; rfl
      · generalize hli : lb O κ q ks = i at *
        obtain ⟨c, hci⟩ : ∃ c, cs[i]? = some c := ⟨_, List.getElem?_eq_getElem (by have := n.len; omega)⟩
        have hcm := List.mem_of_getElem? hci
        have hcl := (List.getElem?_eq_some_iff.1 hci).1
        have hcx : (cs.map Kid.xs)[i]? = some c.xs := by rw [List.getElem?_map, hci]; rfl
        obtain ⟨A, C, hw⟩ := weave_at i (cs.map Kid.xs) ks (by simpa using n.len) hlb
        have hxs : ys = A ++ c.xs ++ C := by rw [n.eq]; exact hw.eq hcx
        obtain ⟨hA, hC⟩ := hw.mid O κ hcx (by rw [← n.eq]; exact ha) hli hh
        have ga : rd w2 ba (oa + i) = some (ptr c.b) := X2.rd (X.rd (ptr_at n.kids.row (by rw [List.getElem?_map, hci]; rfl)) (fun h => h)) (fun h => h)
        have gc := X2.rd (X.rd n.kids.c0 (fun h => h)) (fun h => h)
        rw [List.length_map] at gc
        have hc0 : rd w c.b 0 = some (.int .u64 iso) := by obtain ⟨bi, oi, cap, ks, ch, ho, _⟩ := (n.sub c hcm).open; exact ho.h0
        refine W_sq fun K0 hK => (W_text [true, false] (by kernel_rfl) ?_); simp only [↓List.toList_toArray, ↓rgd, ↓reduceIte, Nat.reduceEqDiff, rg, ow_59, e8]
        refine do_call fn_58 (by simp only [evt, evc, upd_eq, Nat.reduceEqDiff, ↓reduceIte, maT, maC, maN, isnN, isnS] <;> rfl) (leaf_any b (some ⟨bc, 0, none⟩) w2 hb3') ?_
        rintro _ w2 ⟨rfl, rfl⟩
        refine ⟨trivial, ?_⟩
        simp only [↓List.toList_toArray, ↓rgd, ↓reduceIte, Nat.reduceEqDiff, rg, ow_59]
        refine hK _ _ ?_; clear hK K0
        refine W_false (by simp only [evt, evc, upd_eq, Nat.reduceEqDiff, ↓reduceIte, ntT, ntF] <;> rfl) (W_skip ?_)
        simp only [andThen_normal]
        refine W_rg fun K0 hK => (W_text [true, true, true, true, true, true, true, true, true, true, false, true] (by kernel_rfl) ?_); simp only [↓List.toList_toArray, ↓rgd, ↓reduceIte, Nat.reduceEqDiff, rg, ow_59, e0, e2, e8, ptr_eq, hb3', gc, hcl]
        refine do_call fn_60 (by simp only [evt, evc, upd_eq, Nat.reduceEqDiff, ↓reduceIte, maT, maC, maN, isnN, isnS] <;> rfl) (isoLoad_any m ba (oa + i) c.b mu iso w2 (X2.rd hiso (fun h => h)) ga (X2.rd (X.rd hc0 (fun h => h)) (fun h => h))) ?_
        rintro _ w3 ⟨rfl, r3⟩
        refine ⟨trivial, ?_⟩
        simp only [↓List.toList_toArray, ↓rgd, ↓reduceIte, Nat.reduceEqDiff, rg, ow_59]
        refine hK _ _ ?_; clear hK K0
        have hac : Asc O κ c.xs := by rw [hxs] at ha; exact ((Asc.append O κ).1 ((Asc.append O κ).1 ha).1).2.1
        refine ⟨h', by omega, d - 1, c.b, c.xs, c.F, n.sub c hcm, hac, ?_, ?_, (r.tr r2).tr r3, ?_, ?_, ?_, ?_⟩
        · rw [← h1, hxs, at_mid O κ hA hC]
        · rw [← h2, hxs, hit_mid O κ hA hC]
        · simp only [upd_eq, Nat.reduceEqDiff, ↓reduceIte]; exact e0
        · simp only [upd_eq, Nat.reduceEqDiff, ↓reduceIte]; exact e1
        · simp only [upd_eq, Nat.reduceEqDiff, ↓reduceIte]; exact e2
        · simp only [upd_eq, Nat.reduceEqDiff, ↓reduceIte]
set_option maxHeartbeats 400000 in
set_option maxRecDepth 8000 in
theorem getM_any (m d : Nat) (hd : 2 ≤ d) (hd' : d ≤ 128) (iso : Int) (xs : List It) (F : Nat → Nat → Prop) (q : Rk) (w : World) (hM : MapAt w m d iso xs F) :
    CallK Try.prog 43 #[ptr m, kV q] w fun v w' => v = .tuple #[vV ((at? O κ q xs).getD zIt), .bool (hit O κ q xs)] ∧ RO w w' := by
  refine calls_of_W [.tmp 4, .tmp 5] Try.func43 rfl Try.ntmps43 Try.results43 (by simp) fun e he => ?_
  have e0 : e 0 = ptr m := he 0 _ rfl
  have e1 : e 1 = kV q := he 1 _ rfl
  clear he
  refine W_sq fun K0 hK => (W_text [true, true] (by kernel_rfl) ?_); simp only [↓List.toList_toArray, ↓rgd, ↓reduceIte, Nat.reduceEqDiff, rg, ow_43]
  refine hK _ _ ?_; clear hK K0
  refine W_sq fun K0 hK => (W_text [true, true, false, true, true, true, true] (by kernel_rfl) ?_); simp only [↓List.toList_toArray, ↓rgd, ↓reduceIte, Nat.reduceEqDiff, rg, ow_43, e0, e1]
  refine do_call fn_59 (by simp only [evt, evc, upd_eq, Nat.reduceEqDiff, ↓reduceIte, maT, maC, maN, isnN, isnS] <;> rfl) (get_any m d hd hd' iso xs F q false w hM) ?_
  rintro _ w1 ⟨rfl, r1⟩
  refine ⟨trivial, ?_⟩
  simp only [↓List.toList_toArray, ↓rgd, ↓reduceIte, Nat.reduceEqDiff, rg, ow_43]
  refine hK _ _ ?_; clear hK K0
  exact W_ret (endQ_2 (by simp only [upd_eq, Nat.reduceEqDiff, ↓reduceIte] <;> rfl) (by simp only [upd_eq, Nat.reduceEqDiff, ↓reduceIte] <;> rfl) ⟨rfl, r1⟩)
end Go.Proofs.Ytinpigpeoakeaaa
