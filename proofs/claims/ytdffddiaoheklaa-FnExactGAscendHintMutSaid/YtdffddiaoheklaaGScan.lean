/-
  Handing on the items of a tree in their order. No condition.
-/
import Derived.Test.YtdffddiaoheklaaGMin
import Derived.Test.YtdffddiaoheklaaMNode
import Derived.Test.YtdffddiaoheklaaHand
set_option linter.unusedSimpArgs false
set_option linter.unusedVariables false
namespace Go.Proofs.Ytdffddiaoheklaa
open Go Go.Proofs
/-- A function that is handed items: S says what the world is behind the items that were handed on; go tells whether it wants more; it changes nothing outside G. -/
def Cb (f : Value) (G : Nat → Nat → Prop) (S : List It → World → Prop) (go : List It → Bool) : Prop :=
  (∃ g first cap, f = .func (.func g) first cap ∧ isFn Try.prog g = true ∧ ∀ done x w, S done w → done.length < 4294967295 →
    CallK Try.prog g (first ++ #[itV x] ++ cap) w fun v w' => v = .bool (go (done ++ [x])) ∧ S (done ++ [x]) w' ∧ Ext G w w') ∧
  ∀ done w w', S done w → Ext noF w w' → S done w'
set_option maxHeartbeats 400000 in
set_option maxRecDepth 8000 in
theorem nodeScan_any (m : Nat) (iso : Int) (mn mx : Nat) (f : Value) (G : Nat → Nat → Prop) (S : List It → World → Prop) (go : List It → Bool) (C : Cb f G S go) (hm : ∀ o, ¬ G m o) (mu : Bool) :
    ∀ (h b lo pc po : Nat) (xs : List It) (F : Nat → Nat → Prop) (done : List It) (w : World), Tr E iso mn mx h w lo b xs F → rd w m 0 = some (.int .u64 iso) → rd w pc po = some (ptr b) → (∀ y o o', F y o → ¬ G y o') → S done w →
      done.length + xs.length ≤ 4294967295 →
    CallK Try.prog 112 #[ptr m, .pointer (some ⟨pc, po, none⟩), f, .bool mu] w fun v w' => v = .bool (hand go done xs).2 ∧ S (hand go done xs).1 w' ∧ Ext G w w' := by
  obtain ⟨⟨g, first, cap0, rfl, hg, hcall⟩, hSx⟩ := C
  intro h
  induction h with
  | zero =>
    intro b lo pc po xs F done w ht h0 hp hG hS hbig
    obtain ⟨bi, oi, cap, ho, h1, h2, hF⟩ := ht
    refine calls_of_W [.tmp 8] Try.func112 rfl Try.ntmps112 Try.results112 (by simp) fun e he => ?_
    have e0 : e 0 = ptr m := he 0 _ rfl
    have e1 : e 1 = .pointer (some ⟨pc, po, none⟩) := he 1 _ rfl
    have e2 : e 2 = .func (.func g) first cap0 := he 2 _ rfl
    have e3 : e 3 = .bool mu := he 3 _ rfl
    clear he
    refine W_sq fun K hK => (W_text [true] (by kernel_rfl) ?_); simp only [↓List.toList_toArray, ↓rgd, ↓rgf, ↓reduceIte, Nat.reduceEqDiff, rg, ow_112]
    refine hK _ _ ?_; clear hK K
    refine W_sq fun K hK => (W_text [true, true, true, false, true] (by kernel_rfl) ?_); simp only [↓List.toList_toArray, ↓rgd, ↓rgf, ↓reduceIte, Nat.reduceEqDiff, rg, ow_112, e0, e1, e3]
    refine do_call fn_107 (by simp only [evt, evc, upd_eq, Nat.reduceEqDiff, ↓reduceIte, maT, maC, maN, isnN, isnS] <;> rfl) (isoLoad_any m pc po b mu iso w h0 hp ho.h0) ?_
    rintro _ w1 ⟨rfl, r1⟩
    refine ⟨trivial, ?_⟩
    simp only [↓List.toList_toArray, ↓rgd, ↓rgf, ↓reduceIte, Nat.reduceEqDiff, rg, ow_112]
    refine hK _ _ ?_; clear hK K
    have x1 : Ext noF w w1 := r1.ext
    have o1 := ho.ext x1 fun _ _ _ h => h
    have S1 := hSx _ _ _ hS x1
    refine W_seq ?_
    refine W_sq fun K hK => (W_text [true, false] (by kernel_rfl) ?_); simp only [↓List.toList_toArray, ↓rgd, ↓rgf, ↓reduceIte, Nat.reduceEqDiff, rg, ow_112]
    refine do_call fn_108 (by simp only [evt, evc, upd_eq, Nat.reduceEqDiff, ↓reduceIte, maT, maC, maN, isnN, isnS] <;> rfl) (leaf_any b none w1 o1.h3) ?_
    rintro _ _ ⟨rfl, rfl⟩
    refine ⟨trivial, ?_⟩
    simp only [↓List.toList_toArray, ↓rgd, ↓rgf, ↓reduceIte, Nat.reduceEqDiff, rg, ow_112]
    refine hK _ _ ?_; clear hK K
    refine W_true (by simp only [evt, evc, upd_eq, Nat.reduceEqDiff, ↓reduceIte, ntT, ntF] <;> rfl) (W_seq ?_)
    refine W_sq fun K hK => (W_text [true] (by kernel_rfl) ?_); simp only [↓List.toList_toArray, ↓rgd, ↓rgf, ↓reduceIte, Nat.reduceEqDiff, rg, ow_112]
    refine hK _ _ ?_; clear hK K
    refine W_block (W_loop (fun mm e w' => ∃ (i : Nat) (d : List It), mm = xs.length - i ∧ i ≤ xs.length ∧ hand go done xs = hand go d (xs.drop i) ∧ d.length + (xs.length - i) ≤ 4294967295 ∧ S d w' ∧ Ext G w w' ∧ e 2 = .func (.func g) first cap0 ∧ e 9 = ptr b ∧ e 10 = .int .i64 i)
      xs.length ⟨0, done, by simp, by simp, by simp, by omega, S1, x1.mono fun _ _ _ h => h.elim, ?_, ?_, ?_⟩ ?_)
    · simp only [upd_eq, Nat.reduceEqDiff, ↓reduceIte]; exact e2
    · simp only [upd_eq, Nat.reduceEqDiff, ↓reduceIte]
    · simp only [upd_eq, Nat.reduceEqDiff, ↓reduceIte]; rfl
    · clear e0 e1 e2 e3 e S1 o1
      rintro mm e w' ⟨i, d, rfl, hi, hh, hdl, hS', X, e2, e9, e10⟩
      have o' := ho.ext X fun y o h => hG y o o ((hF y o).2 h)
      have hb2 := o'.h2
      refine W_seq ?_
      by_cases hlt : i < xs.length
      · have ht := lt_tt i xs.length hlt
        refine W_sq fun K hK => (W_text [true, true, true, true, true, true, true] (by kernel_rfl) ?_); simp only [↓List.toList_toArray, ↓rgd, ↓rgf, ↓reduceIte, Nat.reduceEqDiff, rg, ow_112, e9, e10, ptr_eq, hb2, ht]
        refine hK _ _ ?_; clear hK K
        refine W_true (by simp only [evt, evc, upd_eq, Nat.reduceEqDiff, ↓reduceIte, ntT, ntF] <;> rfl) (W_skip ?_)
        show W _ _ _ _ _ _
        refine W_seq (W_block ?_)
        obtain ⟨x, hx⟩ : ∃ x, xs[i]? = some x := ⟨_, List.getElem?_eq_getElem hlt⟩
        have hk := it_at o'.row hx
        have hd : xs.drop i = x :: xs.drop (i + 1) := by rw [List.drop_eq_getElem_cons hlt, (List.getElem?_eq_some_iff.1 hx).2]
        refine W_sq fun K hK => (W_text [true, true, true, true, true, true, true, true, false, true] (by kernel_rfl) ?_); simp only [↓List.toList_toArray, ↓rgd, ↓rgf, ↓reduceIte, Nat.reduceEqDiff, rg, ow_112, e2, e9, e10, ptr_eq, hb2, hlt, hk]
        refine do_callv (by simp only [evt, evc, upd_eq, Nat.reduceEqDiff, ↓reduceIte, ntT, ntF] <;> rfl) hg rfl (by simp only [evt, upd_eq, Nat.reduceEqDiff, ↓reduceIte, maT, maC, maN]; exact hcall d x _ hS' (by omega)) ?_
        rintro _ w2 ⟨rfl, hS2, x2⟩
        refine ⟨trivial, ?_⟩
        simp only [↓List.toList_toArray, ↓rgd, ↓rgf, ↓reduceIte, Nat.reduceEqDiff, rg, ow_112]
        refine hK _ _ ?_; clear hK K
        cases hgo : go (d ++ [x]) with
        | true =>
          refine W_false (by simp only [evt, evc, upd_eq, Nat.reduceEqDiff, ↓reduceIte, ntT, ntF] <;> rfl) (W_skip ?_)
          show W _ _ _ _ _ _
          have q1 := wadd1 i (by omega)
          refine W_rg fun K hK => (W_text [true, true, true] (by kernel_rfl) ?_); simp only [↓List.toList_toArray, ↓rgd, ↓rgf, ↓reduceIte, Nat.reduceEqDiff, rg, ow_112, e10, q1]
          refine hK _ _ ?_; clear hK K
          refine ⟨_, ?_, i + 1, d ++ [x], rfl, hlt, by rw [hh, hd, hand_yes go hgo], by simp; omega, hS2, X.tr x2, ?_, ?_, ?_⟩
          · omega
          · simp only [upd_eq, Nat.reduceEqDiff, ↓reduceIte]; exact e2
          · simp only [upd_eq, Nat.reduceEqDiff, ↓reduceIte]; exact e9
          · simp only [upd_eq, Nat.reduceEqDiff, ↓reduceIte]
        | false =>
          refine W_true (by simp only [evt, evc, upd_eq, Nat.reduceEqDiff, ↓reduceIte, ntT, ntF] <;> rfl) ?_
          refine W_sq fun K hK => (W_text [true] (by kernel_rfl) ?_); simp only [↓List.toList_toArray, ↓rgd, ↓rgf, ↓reduceIte, Nat.reduceEqDiff, rg, ow_112]
          refine hK _ _ ?_; clear hK K
          refine W_ret ?_
          simp only [andThen_ret, inBlk_ret]
          refine endQ_1 (by simp only [upd_eq, Nat.reduceEqDiff, ↓reduceIte] <;> rfl) ?_
          rw [hh, hd, hand_no go hgo]
          exact ⟨rfl, hS2, X.tr x2⟩
      · obtain rfl : i = xs.length := by omega
        have ht := lt_ff xs.length xs.length (by omega)
        refine W_sq fun K hK => (W_text [true, true, true, true, true, true, true] (by kernel_rfl) ?_); simp only [↓List.toList_toArray, ↓rgd, ↓rgf, ↓reduceIte, Nat.reduceEqDiff, rg, ow_112, e9, e10, ptr_eq, hb2, ht]
        refine hK _ _ ?_; clear hK K
        refine W_false (by simp only [evt, evc, upd_eq, Nat.reduceEqDiff, ↓reduceIte, ntT, ntF] <;> rfl) (W_exit ?_)
        simp only [andThen_exit, inBlk_exit, ↓reduceIte]
        show W _ _ _ _ _ _
        refine W_sq fun K hK => (W_text [true] (by kernel_rfl) ?_); simp only [↓List.toList_toArray, ↓rgd, ↓rgf, ↓reduceIte, Nat.reduceEqDiff, rg, ow_112]
        refine hK _ _ ?_; clear hK K
        refine W_ret ?_
        simp only [andThen_ret]
        refine endQ_1 (by simp only [upd_eq, Nat.reduceEqDiff, ↓reduceIte] <;> rfl) ?_
        rw [hh, List.drop_length, hand_nil]
        exact ⟨rfl, hS', X⟩
  | succ h ih =>
    intro b lo pc po xs F done w ht h0 hp hG hS hbig
    obtain ⟨bi, oi, cap, bc, ba, oa, capc, ks, cs, ho, hk, h1, h2, hcs, rfl, hT, hA, hF⟩ := ht
    have hGo : ∀ y o, ownF E b bi oi cap y o → ∀ o', ¬ G y o' := fun y o g o' => hG y o o' ((hF y o).2 (.inl g))
    have hGk : ∀ y o, kidF bc ba oa capc y o → ∀ o', ¬ G y o' := fun y o g o' => hG y o o' ((hF y o).2 (.inr (.inl g)))
    have hGc : ∀ c ∈ cs, ∀ y o o', c.F y o → ¬ G y o' := fun c hc y o o' g => hG y o o' ((hF y o).2 (.inr (.inr ⟨c, hc, g⟩)))
    have hwl := weave_length (cs.map Kid.xs) ks (by simpa using hcs)
    have hks : ks.length < 4611686018427387904 := by omega
    refine calls_of_W [.tmp 8] Try.func112 rfl Try.ntmps112 Try.results112 (by simp) fun e he => ?_
    have e0 : e 0 = ptr m := he 0 _ rfl
    have e1 : e 1 = .pointer (some ⟨pc, po, none⟩) := he 1 _ rfl
    have e2 : e 2 = .func (.func g) first cap0 := he 2 _ rfl
    have e3 : e 3 = .bool mu := he 3 _ rfl
    clear he
    refine W_sq fun K hK => (W_text [true] (by kernel_rfl) ?_); simp only [↓List.toList_toArray, ↓rgd, ↓rgf, ↓reduceIte, Nat.reduceEqDiff, rg, ow_112]
    refine hK _ _ ?_; clear hK K
    refine W_sq fun K hK => (W_text [true, true, true, false, true] (by kernel_rfl) ?_); simp only [↓List.toList_toArray, ↓rgd, ↓rgf, ↓reduceIte, Nat.reduceEqDiff, rg, ow_112, e0, e1, e3]
    refine do_call fn_107 (by simp only [evt, evc, upd_eq, Nat.reduceEqDiff, ↓reduceIte, maT, maC, maN, isnN, isnS] <;> rfl) (isoLoad_any m pc po b mu iso w h0 hp ho.h0) ?_
    rintro _ w1 ⟨rfl, r1⟩
    refine ⟨trivial, ?_⟩
    simp only [↓List.toList_toArray, ↓rgd, ↓rgf, ↓reduceIte, Nat.reduceEqDiff, rg, ow_112]
    refine hK _ _ ?_; clear hK K
    have x1 : Ext noF w w1 := r1.ext
    have o1 := ho.ext x1 fun _ _ _ h => h
    have S1 := hSx _ _ _ hS x1
    refine W_seq ?_
    refine W_sq fun K hK => (W_text [true, false] (by kernel_rfl) ?_); simp only [↓List.toList_toArray, ↓rgd, ↓rgf, ↓reduceIte, Nat.reduceEqDiff, rg, ow_112]
    refine do_call fn_108 (by simp only [evt, evc, upd_eq, Nat.reduceEqDiff, ↓reduceIte, maT, maC, maN, isnN, isnS] <;> rfl) (leaf_any b (some ⟨bc, 0, none⟩) w1 o1.h3) ?_
    rintro _ _ ⟨rfl, rfl⟩
    refine ⟨trivial, ?_⟩
    simp only [↓List.toList_toArray, ↓rgd, ↓rgf, ↓reduceIte, Nat.reduceEqDiff, rg, ow_112]
    refine hK _ _ ?_; clear hK K
    refine W_false (by simp only [evt, evc, upd_eq, Nat.reduceEqDiff, ↓reduceIte, ntT, ntF] <;> rfl) (W_skip ?_)
    show W _ _ _ _ _ _
    refine W_seq ?_
    refine W_sq fun K hK => (W_text [true] (by kernel_rfl) ?_); simp only [↓List.toList_toArray, ↓rgd, ↓rgf, ↓reduceIte, Nat.reduceEqDiff, rg, ow_112]
    refine hK _ _ ?_; clear hK K
    refine W_block (W_loop (fun mm e w' => ∃ (i : Nat) (d : List It), mm = ks.length - i ∧ i ≤ ks.length ∧ hand go done (weave (cs.map Kid.xs) ks) = hand go d (weave ((cs.map Kid.xs).drop i) (ks.drop i)) ∧ d.length + (weave ((cs.map Kid.xs).drop i) (ks.drop i)).length ≤ 4294967295 ∧ S d w' ∧ Ext G w w' ∧
        e 0 = ptr m ∧ e 2 = .func (.func g) first cap0 ∧ e 3 = .bool mu ∧ e 9 = ptr b ∧ e 11 = .int .i64 i)
      ks.length ⟨0, done, by simp, by simp, by simp, by simpa using hbig, S1, x1.mono fun _ _ _ h => h.elim, ?_, ?_, ?_, ?_, ?_⟩ ?_)
    · simp only [upd_eq, Nat.reduceEqDiff, ↓reduceIte]; exact e0
    · simp only [upd_eq, Nat.reduceEqDiff, ↓reduceIte]; exact e2
    · simp only [upd_eq, Nat.reduceEqDiff, ↓reduceIte]; exact e3
    · simp only [upd_eq, Nat.reduceEqDiff, ↓reduceIte]
    · simp only [upd_eq, Nat.reduceEqDiff, ↓reduceIte]; rfl
    · clear e0 e1 e2 e3 e S1 o1
      rintro mm e w' ⟨i, d, rfl, hi, hh, hdl, hS', X, e0, e2, e3, e9, e11⟩
      have o' := ho.ext X fun y o g => hGo y o g o
      have k' := hk.ext X fun y o g => hGk y o g o
      have hb2 := o'.h2
      have hb3 := o'.h3
      have hc0 := k'.c0
      have h0' := X.rd h0 (hm 0)
      have hci : ∀ i, i < cs.length → ∃ c, cs[i]? = some c ∧ rd w' ba (oa + i) = some (ptr c.b) := fun i hi => by
        refine ⟨cs[i], List.getElem?_eq_getElem hi, k'.row i _ ?_⟩
        rw [List.getElem?_map, List.getElem?_map, List.getElem?_eq_getElem hi]; rfl
      rw [List.length_map] at hc0
      refine W_seq ?_
      by_cases hlt : i < ks.length
      · have ht := lt_tt i ks.length hlt
        refine W_sq fun K hK => (W_text [true, true, true, true, true, true, true] (by kernel_rfl) ?_); simp only [↓List.toList_toArray, ↓rgd, ↓rgf, ↓reduceIte, Nat.reduceEqDiff, rg, ow_112, e9, e11, ptr_eq, hb2, ht]
        refine hK _ _ ?_; clear hK K
        refine W_true (by simp only [evt, evc, upd_eq, Nat.reduceEqDiff, ↓reduceIte, ntT, ntF] <;> rfl) (W_skip ?_)
        show W _ _ _ _ _ _
        refine W_seq (W_block (W_seq ?_))
        obtain ⟨c, hc, hcr⟩ := hci i (by omega)
        have hcm : c ∈ cs := List.mem_of_getElem? hc
        obtain ⟨x, hx⟩ : ∃ x, ks[i]? = some x := ⟨_, List.getElem?_eq_getElem hlt⟩
        have hlc : i < cs.length := by omega
        rw [weave_step (c := c.xs) (by rw [List.getElem?_map, hc]; rfl) hx] at hh hdl
        rw [List.length_append, List.length_cons] at hdl
        refine W_sq fun K hK => (W_text [true, true, true, true, true, true, true, true, true, true, true, false, true] (by kernel_rfl) ?_); simp only [↓List.toList_toArray, ↓rgd, ↓rgf, ↓reduceIte, Nat.reduceEqDiff, rg, ow_112, e0, e2, e3, e9, e11, ptr_eq, hb3, hc0, hlc]
        refine do_call fn_112 (by simp only [evt, evc, upd_eq, Nat.reduceEqDiff, ↓reduceIte, maT, maC, maN, isnN, isnS] <;> rfl) (ih c.b mn ba (oa + i) c.xs c.F d _ ((hT c hcm).ext X fun y o g => hGc c hcm y o o g) h0' hcr (hGc c hcm) hS' (by omega)) ?_
        rintro _ w2 ⟨rfl, hS2, x2⟩
        refine ⟨trivial, ?_⟩
        simp only [↓List.toList_toArray, ↓rgd, ↓rgf, ↓reduceIte, Nat.reduceEqDiff, rg, ow_112]
        refine hK _ _ ?_; clear hK K
        have X2 := X.tr x2
        cases hgo : (hand go d c.xs).2 with
        | false =>
          refine W_true (by simp only [evt, evc, upd_eq, Nat.reduceEqDiff, ↓reduceIte, ntT, ntF] <;> rfl) ?_
          refine W_sq fun K hK => (W_text [true] (by kernel_rfl) ?_); simp only [↓List.toList_toArray, ↓rgd, ↓rgf, ↓reduceIte, Nat.reduceEqDiff, rg, ow_112]
          refine hK _ _ ?_; clear hK K
          refine W_ret ?_
          simp only [andThen_ret, inBlk_ret]
          refine endQ_1 (by simp only [upd_eq, Nat.reduceEqDiff, ↓reduceIte] <;> rfl) ?_
          rw [hh, hand_off go hgo, hgo]
          exact ⟨rfl, hS2, X2⟩
        | true =>
          rw [hand_on go hgo] at hh
          have hd2 : (hand go d c.xs).1.length = d.length + c.xs.length := by rw [hand_true go hgo, List.length_append]
          refine W_false (by simp only [evt, evc, upd_eq, Nat.reduceEqDiff, ↓reduceIte, ntT, ntF] <;> rfl) (W_skip ?_)
          show W _ _ _ _ _ _
          have o2 := ho.ext X2 fun y o g => hGo y o g o
          have hb2 := o2.h2
          have hk2 := it_at o2.row hx
          refine W_sq fun K hK => (W_text [true, true, true, true, true, true, true, true, false, true] (by kernel_rfl) ?_); simp only [↓List.toList_toArray, ↓rgd, ↓rgf, ↓reduceIte, Nat.reduceEqDiff, rg, ow_112, e2, e9, e11, ptr_eq, hb2, hlt, hk2]
          refine do_callv (by simp only [evt, evc, upd_eq, Nat.reduceEqDiff, ↓reduceIte, ntT, ntF] <;> rfl) hg rfl (by simp only [evt, upd_eq, Nat.reduceEqDiff, ↓reduceIte, maT, maC, maN]; exact hcall _ x _ hS2 (by omega)) ?_
          rintro _ w3 ⟨rfl, hS3, x3⟩
          refine ⟨trivial, ?_⟩
          simp only [↓List.toList_toArray, ↓rgd, ↓rgf, ↓reduceIte, Nat.reduceEqDiff, rg, ow_112]
          refine hK _ _ ?_; clear hK K
          cases hgo2 : go ((hand go d c.xs).1 ++ [x]) with
          | true =>
            refine W_false (by simp only [evt, evc, upd_eq, Nat.reduceEqDiff, ↓reduceIte, ntT, ntF] <;> rfl) (W_skip ?_)
            show W _ _ _ _ _ _
            have q1 := wadd1 i (by omega)
            refine W_rg fun K hK => (W_text [true, true, true] (by kernel_rfl) ?_); simp only [↓List.toList_toArray, ↓rgd, ↓rgf, ↓reduceIte, Nat.reduceEqDiff, rg, ow_112, e11, q1]
            refine hK _ _ ?_; clear hK K
            refine ⟨_, ?_, i + 1, _, rfl, hlt, by rw [hh, hand_yes go hgo2], by rw [List.length_append, List.length_singleton]; omega, hS3, X2.tr x3, ?_, ?_, ?_, ?_, ?_⟩
            · omega
            · simp only [upd_eq, Nat.reduceEqDiff, ↓reduceIte]; exact e0
            · simp only [upd_eq, Nat.reduceEqDiff, ↓reduceIte]; exact e2
            · simp only [upd_eq, Nat.reduceEqDiff, ↓reduceIte]; exact e3
            · simp only [upd_eq, Nat.reduceEqDiff, ↓reduceIte]; exact e9
            · simp only [upd_eq, Nat.reduceEqDiff, ↓reduceIte]
          | false =>
            refine W_true (by simp only [evt, evc, upd_eq, Nat.reduceEqDiff, ↓reduceIte, ntT, ntF] <;> rfl) ?_
            refine W_sq fun K hK => (W_text [true] (by kernel_rfl) ?_); simp only [↓List.toList_toArray, ↓rgd, ↓rgf, ↓reduceIte, Nat.reduceEqDiff, rg, ow_112]
            refine hK _ _ ?_; clear hK K
            refine W_ret ?_
            simp only [andThen_ret, inBlk_ret]
            refine endQ_1 (by simp only [upd_eq, Nat.reduceEqDiff, ↓reduceIte] <;> rfl) ?_
            rw [hh, hand_no go hgo2]
            exact ⟨rfl, hS3, X2.tr x3⟩
      · obtain rfl : i = ks.length := by omega
        have ht := lt_ff ks.length ks.length (by omega)
        refine W_sq fun K hK => (W_text [true, true, true, true, true, true, true] (by kernel_rfl) ?_); simp only [↓List.toList_toArray, ↓rgd, ↓rgf, ↓reduceIte, Nat.reduceEqDiff, rg, ow_112, e9, e11, ptr_eq, hb2, ht]
        refine hK _ _ ?_; clear hK K
        refine W_false (by simp only [evt, evc, upd_eq, Nat.reduceEqDiff, ↓reduceIte, ntT, ntF] <;> rfl) (W_exit ?_)
        simp only [andThen_exit, inBlk_exit, ↓reduceIte]
        show W _ _ _ _ _ _
        obtain ⟨c, hc, hcr⟩ := hci ks.length (by omega)
        have hcm : c ∈ cs := List.mem_of_getElem? hc
        rw [weave_last (c := c.xs) (by simpa using hcs) (by rw [List.getElem?_map, hc]; rfl)] at hh hdl
        have hlc : cs.length - 1 < cs.length := by omega
        have hl1 : cs.length - 1 = ks.length := by omega
        have q1 := wsub1 cs.length (by omega) (by omega)
        have M1 : readsB (some (some [b, bc, ba])) b = true := by simp [readsB]
        have M2 : readsB (some (some [b, bc, ba])) bc = true := by simp [readsB]
        have M3 : readsB (some (some [b, bc, ba])) ba = true := by simp [readsB]
        refine W_sq fun K hK => (W_draw (some (some [b, bc, ba])) none [(0, 0, 0), (0, 1, 0), (0, 2, 0), (0, 3, 0), (0, 4, 0), (0, 5, 0), (0, 6, 0), (0, 7, 0), (0, 8, 0), (0, 9, 0), (0, 10, 0), (0, 11, 0), (0, 12, 0), (0, 13, 0), (0, 14, 0), (0, 15, 0), (0, 16, 0), (0, 17, 0), (1, 18, 0), (0, 19, 0)] mixed (by kernel_rfl) ?_); simp only [↓List.toList_toArray, ↓rgd, ↓rgf, ↓reduceIte, Nat.reduceEqDiff, rg, ow_112, e0, e2, e3, e9, ptr_eq, hb3, hc0, q1, hlc, M1, M2, M3]
        rw [hl1]
        refine do_call fn_112 (by simp only [evt, evc, upd_eq, Nat.reduceEqDiff, ↓reduceIte, maT, maC, maN, isnN, isnS] <;> rfl) (ih c.b mn ba (oa + ks.length) c.xs c.F d _ ((hT c hcm).ext (X.tr (Ext.dr _ _ _)) fun y o g => hGc c hcm y o o g) h0' hcr (hGc c hcm) (hSx _ _ _ hS' (Ext.dr _ _ _)) (by omega)) ?_
        rintro _ w2 ⟨rfl, hS2, x2⟩
        refine ⟨.inr (keeps_on x2 fun y hy => ?_), ?_⟩
        · rw [sz_dr]
          simp only [List.mem_cons, List.not_mem_nil, or_false] at hy
          rcases hy with rfl | rfl | rfl
          · exact ⟨wok_lt o'.wb, hGo _ 0 (.inl rfl)⟩
          · exact ⟨wok_lt k'.wc, hGk _ 0 (.inl rfl)⟩
          · exact ⟨wok_lt k'.wa, hGk _ oa (.inr ⟨rfl, by omega, by have := k'.le; rw [List.length_map] at this; omega⟩)⟩
        simp only [↓List.toList_toArray, ↓rgd, ↓rgf, ↓reduceIte, Nat.reduceEqDiff, rg, ow_112]
        refine hK _ _ ?_; clear hK K
        refine W_ret ?_
        refine endQ_1 (by simp only [upd_eq, Nat.reduceEqDiff, ↓reduceIte] <;> rfl) ?_
        rw [hh]
        exact ⟨rfl, hS2, X.tr x2.od⟩
set_option maxHeartbeats 400000 in
set_option maxRecDepth 8000 in
theorem scan_any (B m d : Nat) (ord : List Int) (iso : Int) (xs : List It) (F : Nat → Nat → Prop) (f : Value) (G : Nat → Nat → Prop) (S : List It → World → Prop) (go : List It → Bool) (C : Cb f G S go) (hm : ∀ o, ¬ G m o) (mu : Bool) (w : World)
    (hM : TreeAt B ord w m d iso xs F) (hG : ∀ y o o', F y o → ¬ G y o') (hS : S [] w) (hbig : xs.length ≤ 4294967295) :
    CallK Try.prog 94 #[ptr m, f, .bool mu] w fun _ w' => S (hand go [] xs).1 w' ∧ Ext G w w' := by
  refine calls_of_W [] Try.func94 rfl Try.ntmps94 Try.results94 (by simp) fun e he => ?_
  have e0 : e 0 = ptr m := he 0 _ rfl
  have e1 : e 1 = f := he 1 _ rfl
  have e2 : e 2 = .bool mu := he 2 _ rfl
  clear he
  refine W_seq ?_
  refine W_sq fun K hK => (W_text [true, true, false] (by kernel_rfl) ?_); simp only [↓List.toList_toArray, ↓rgd, ↓rgf, ↓reduceIte, Nat.reduceEqDiff, rg, ow_94, e0, e2]
  refine do_call fn_83 (by simp only [evt, evc, upd_eq, Nat.reduceEqDiff, ↓reduceIte, maT, maC, maN, isnN, isnS] <;> rfl) (lock_any _ _ w) ?_
  rintro _ _ ⟨rfl, rfl⟩
  refine ⟨trivial, ?_⟩
  simp only [↓List.toList_toArray, ↓rgd, ↓rgf, ↓reduceIte, Nat.reduceEqDiff, rg, ow_94]
  refine hK _ _ ?_; clear hK K
  refine W_false (by simp only [evt, evc, upd_eq, Nat.reduceEqDiff, ↓reduceIte, ntT, ntF] <;> rfl) (W_skip ?_)
  show W _ _ _ _ _ _
  refine W_seq ?_
  rcases hM.root with ⟨rfl, hr⟩ | ⟨h, b, hr, ht⟩
  · refine W_sq fun K hK => (W_text [true, true, true, true, true] (by kernel_rfl) ?_); simp only [↓List.toList_toArray, ↓rgd, ↓rgf, ↓reduceIte, Nat.reduceEqDiff, rg, ow_94, e0, ptr_eq, hr]
    refine hK _ _ ?_; clear hK K
    refine W_true (by simp only [evt, evc, upd_eq, Nat.reduceEqDiff, ↓reduceIte, ntT, ntF] <;> rfl) (W_ret ?_)
    simp only [andThen_ret]
    exact endQ_0 ⟨hS, Ext.refl _ _⟩
  · refine W_sq fun K hK => (W_text [true, true, true, true, true] (by kernel_rfl) ?_); simp only [↓List.toList_toArray, ↓rgd, ↓rgf, ↓reduceIte, Nat.reduceEqDiff, rg, ow_94, e0, ptr_eq, hr]
    refine hK _ _ ?_; clear hK K
    refine W_false (by simp only [evt, evc, upd_eq, Nat.reduceEqDiff, ↓reduceIte, ntT, ntF] <;> rfl) (W_skip ?_)
    show W _ _ _ _ _ _
    refine W_rg fun K hK => (W_text [true, true, true, true, true, true, false] (by kernel_rfl) ?_); simp only [↓List.toList_toArray, ↓rgd, ↓rgf, ↓reduceIte, Nat.reduceEqDiff, rg, ow_94, e0, e1, e2, ptr_eq]
    refine do_call fn_112 (by simp only [evt, evc, upd_eq, Nat.reduceEqDiff, ↓reduceIte, maT, maC, maN, isnN, isnS] <;> rfl) (nodeScan_any m iso (d - 1) (2 * d - 1) f G S go C hm mu h b 1 m 2 xs F [] w ht hM.cfg.iso hr hG hS (by simpa using hbig)) ?_
    rintro _ w1 ⟨rfl, hS1, X1⟩
    refine ⟨trivial, ?_⟩
    simp only [↓List.toList_toArray, ↓rgd, ↓rgf, ↓reduceIte, Nat.reduceEqDiff, rg, ow_94]
    refine hK _ _ ?_; clear hK K
    exact endQ_0n ⟨hS1, X1⟩
end Go.Proofs.Ytdffddiaoheklaa
