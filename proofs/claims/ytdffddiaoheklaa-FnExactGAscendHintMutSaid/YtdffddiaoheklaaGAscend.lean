/-
  Handing on the items of a tree from a key on. No condition.
-/
import Derived.Test.YtdffddiaoheklaaGScan
import Derived.Test.YtdffddiaoheklaaGFind
import Derived.Test.YtdffddiaoheklaaFrom
set_option linter.unusedSimpArgs false
set_option linter.unusedVariables false
namespace Go.Proofs.Ytdffddiaoheklaa
open Go Go.Proofs
set_option maxHeartbeats 1000000 in
set_option maxRecDepth 8000 in
theorem nodeAscend_any (m : Nat) (iso : Int) (mn mx : Nat) (B : Nat) (ord : List Int) (q : It) (hp : Option Nat) (f : Value) (G : Nat → Nat → Prop) (S : List It → World → Prop) (go : List It → Bool) (C : Cb f G S go) (hm : ∀ o, ¬ G m o) (hB : ∀ hb, hp = some hb → (m ≤ hb ∨ hb < B) ∧ ∀ o, G hb o) (hSh : ∀ done w w', S done w → Ext (hF hp) w w' → S done w') (hmn : 1 ≤ mn) (mu : Bool) :
    ∀ (h b lo pc po : Nat) (xs : List It) (F : Nat → Nat → Prop) (done : List It) (w : World) (dep : Nat), 1 ≤ lo → dep + h < 4611686018427387904 → Ls B m w ord → HOk hp w → Tr E iso mn mx h w lo b xs F → Asc O (rkI ord) xs → rd w m 0 = some (.int .u64 iso) → rd w pc po = some (ptr b) → (∀ y o o', F y o → ¬ G y o') → S done w →
      done.length + xs.length ≤ 4294967295 →
    CallK Try.prog 110 #[ptr m, .pointer (some ⟨pc, po, none⟩), itV q, hV hp, .int .i64 dep, f, .bool mu] w fun v w' => v = .bool (hand go done (xs.drop (lb O (rkI ord) (rkI ord q) xs))).2 ∧ S (hand go done (xs.drop (lb O (rkI ord) (rkI ord q) xs))).1 w' ∧ Ext G w w' := by
  have C0 := C
  obtain ⟨⟨g, first, cap0, rfl, hg, hcall⟩, hSx⟩ := C
  intro h
  induction h with
  | zero =>
    intro b lo pc po xs F done w dep hlo hdep hL hH ht ha h0 hpc hG hS hbig
    obtain ⟨bi, oi, cap, ho, h1, h2, hF⟩ := ht
    refine calls_of_W [.tmp 14] Try.func110 rfl Try.ntmps110 Try.results110 (by simp) fun e he => ?_
    have e0 : e 0 = ptr m := he 0 _ rfl
    have e1 : e 1 = .pointer (some ⟨pc, po, none⟩) := he 1 _ rfl
    have e2 : e 2 = itV q := he 2 _ rfl
    have e3 : e 3 = hV hp := he 3 _ rfl
    have e4 : e 4 = .int .i64 dep := he 4 _ rfl
    have e5 : e 5 = .func (.func g) first cap0 := he 5 _ rfl
    have e6 : e 6 = .bool mu := he 6 _ rfl
    clear he
    refine W_sq fun K0 hK => (W_text [false, true] (by kernel_rfl) ?_); simp only [↓List.toList_toArray, ↓rgd, ↓rgf, ↓reduceIte, Nat.reduceEqDiff, rg, ow_110]
    refine do_box (by simp only [evt]; exact e2) fun w0 n0 => ⟨trivial, ?_⟩
    simp only [↓List.toList_toArray, ↓rgd, ↓rgf, ↓reduceIte, Nat.reduceEqDiff, rg, ow_110]
    refine hK _ _ ?_; clear hK K0
    have x0 := n0.ext
    have s0 := x0.size
    have ix0 : Row w0 w.heap.size 0 (E.cel q) := n0.row
    refine W_sq fun K0 hK => (W_text [true, true, true, false, true] (by kernel_rfl) ?_); simp only [↓List.toList_toArray, ↓rgd, ↓rgf, ↓reduceIte, Nat.reduceEqDiff, rg, ow_110, e0, e1, e6]
    refine do_call fn_107 (by simp only [evt, evc, upd_eq, Nat.reduceEqDiff, ↓reduceIte, maT, maC, maN, isnN, isnS] <;> rfl) (isoLoad_any m pc po b mu iso w0 (x0.rd h0 fun h => h) (x0.rd hpc fun h => h) (x0.rd ho.h0 fun h => h)) ?_
    rintro _ w1 ⟨rfl, r1⟩
    refine ⟨trivial, ?_⟩
    simp only [↓List.toList_toArray, ↓rgd, ↓rgf, ↓reduceIte, Nat.reduceEqDiff, rg, ow_110]
    refine hK _ _ ?_; clear hK K0
    have x01 : Ext noF w0 w1 := r1.ext
    have x1 : Ext noF w w1 := x0.tr x01
    have s1 := x1.size
    have hbl := wok_lt ho.wb
    have hbil := wok_lt ho.wi
    have hbh : ∀ hb, hp = some hb → hb ≠ b := fun hb hh hE => hG b 0 0 ((hF _ _).2 (.inl rfl)) (by rw [← hE]; exact (hB hb hh).2 0)
    have hbx : ∀ o, ¬ Go.Proofs.Ytdffddiaoheklaa.hF hp w.heap.size o := fun o g => by
      have := wok_lt (hH _ g).wok; omega
    have hbF : ∀ y o, F y o → ¬ Go.Proofs.Ytdffddiaoheklaa.hF hp y o := fun y o hy hg => hG y o o hy ((hB y hg).2 o)
    have o1 := ho.ext x1 fun _ _ _ h => h
    have ix1 := iX_at (x01.row ix0 fun _ _ h => h)
    refine W_sq fun K0 hK => (W_text [true, true, true, true, true, false, true, true, true, true, true] (by kernel_rfl) ?_); simp only [↓List.toList_toArray, ↓rgd, ↓rgf, ↓reduceIte, Nat.reduceEqDiff, rg, ow_110, e0, e3, e4, ix1]
    refine do_call fn_114 (by simp only [evt, evc, upd_eq, Nat.reduceEqDiff, ↓reduceIte, maT, maC, maN, isnN, isnS] <;> rfl) (find_any B m b bi oi cap ord xs q none hp dep w1 (hL.ext0 x1) o1.h2 o1.h3 o1.row (by omega) (by omega) (by omega) ha (hH.ext0 x1) hbh) ?_
    rintro _ w2 ⟨rfl, r2, hH2⟩
    refine ⟨trivial, ?_⟩
    simp only [↓List.toList_toArray, ↓rgd, ↓rgf, ↓reduceIte, Nat.reduceEqDiff, rg, ow_110, srchG_eq]
    refine hK _ _ ?_; clear hK K0
    have x2 : Ext (Go.Proofs.Ytdffddiaoheklaa.hF hp) w w2 := (x1.trans r2 (fun _ _ g => g.elim) fun _ _ _ g => g)
    have x2G : Ext G w w2 := x2.mono fun y o _ g => (hB y g).2 o
    have o2 := ho.ext x2 fun y o h => hbF y o ((hF y o).2 h)
    have S2 := hSh _ _ _ hS x2
    have hlb := lb_le O (rkI ord) (rkI ord q) xs
    refine W_sqx fun K hK => ?_
    have hloop : ∀ e' : Env, e' 5 = .func (.func g) first cap0 → e' 15 = ptr b → e' 16 = .int .i64 (lb O (rkI ord) (rkI ord q) xs : Nat) → K e' w2 := by
      intro e e5 e15 e16
      refine hK _ _ ?_; clear hK K
      refine W_seq ?_
      refine W_block (W_loop (fun mm e w' => ∃ (i : Nat) (d : List It), mm = xs.length - i ∧ i ≤ xs.length ∧ hand go done (xs.drop (lb O (rkI ord) (rkI ord q) xs)) = hand go d (xs.drop i) ∧ d.length + (xs.length - i) ≤ 4294967295 ∧ S d w' ∧ Ext G w w' ∧ e 5 = .func (.func g) first cap0 ∧ e 15 = ptr b ∧ e 16 = .int .i64 i)
        (xs.length - lb O (rkI ord) (rkI ord q) xs) ⟨_, done, rfl, hlb, rfl, by omega, S2, x2G, e5, e15, e16⟩ ?_)
      clear e5 e15 e16 e S2 o2
      rintro mm e w' ⟨i, d, rfl, hi, hh, hdl, hS', X, e5, e15, e16⟩
      have o' := ho.ext X fun y o h => hG y o o ((hF y o).2 h)
      have hb2 := o'.h2
      have hb3 := o'.h3
      refine W_seq ?_
      by_cases hlt : i < xs.length
      · have ht := lt_tt i xs.length hlt
        refine W_sq fun K0 hK => (W_text [true, true, true, true, true, true, true] (by kernel_rfl) ?_); simp only [↓List.toList_toArray, ↓rgd, ↓rgf, ↓reduceIte, Nat.reduceEqDiff, rg, ow_110, e15, e16, ptr_eq, hb2, ht]
        refine hK _ _ ?_; clear hK K0
        refine W_true (by simp only [evt, evc, upd_eq, Nat.reduceEqDiff, ↓reduceIte, ntT, ntF] <;> rfl) (W_skip ?_)
        show W _ _ _ _ _ _
        obtain ⟨x, hx⟩ : ∃ x, xs[i]? = some x := ⟨_, List.getElem?_eq_getElem hlt⟩
        have hk := it_at o'.row hx
        have hd : xs.drop i = x :: xs.drop (i + 1) := by rw [List.drop_eq_getElem_cons hlt, (List.getElem?_eq_some_iff.1 hx).2]
        refine W_seq (W_block (W_seq ?_))
        refine W_sq fun K0 hK => (W_text [true, true, true, true, true, true, true, true, false, true] (by kernel_rfl) ?_); simp only [↓List.toList_toArray, ↓rgd, ↓rgf, ↓reduceIte, Nat.reduceEqDiff, rg, ow_110, e5, e15, e16, ptr_eq, hb2, hlt, hk]
        refine do_callv (by simp only [evt, evc, upd_eq, Nat.reduceEqDiff, ↓reduceIte, ntT, ntF] <;> rfl) hg rfl (by simp only [evt, upd_eq, Nat.reduceEqDiff, ↓reduceIte, maT, maC, maN]; exact hcall d x _ hS' (by omega)) ?_
        rintro _ w3 ⟨rfl, hS3, x3⟩
        refine ⟨trivial, ?_⟩
        simp only [↓List.toList_toArray, ↓rgd, ↓rgf, ↓reduceIte, Nat.reduceEqDiff, rg, ow_110]
        refine hK _ _ ?_; clear hK K0
        have o3 := ho.ext (X.tr x3) fun y o h => hG y o o ((hF y o).2 h)
        have b3 := o3.h3
        cases hgo : go (d ++ [x]) with
        | true =>
          refine W_false (by simp only [evt, evc, upd_eq, Nat.reduceEqDiff, ↓reduceIte, ntT, ntF] <;> rfl) (W_skip ?_)
          show W _ _ _ _ _ _
          refine W_sq fun K0 hK => (W_text [true, false, true] (by kernel_rfl) ?_); simp only [↓List.toList_toArray, ↓rgd, ↓rgf, ↓reduceIte, Nat.reduceEqDiff, rg, ow_110, e15]
          refine do_call fn_108 (by simp only [evt, evc, upd_eq, Nat.reduceEqDiff, ↓reduceIte, maT, maC, maN, isnN, isnS] <;> rfl) (leaf_any b none w3 b3) ?_
          rintro _ w3 ⟨rfl, rfl⟩
          refine ⟨trivial, ?_⟩
          simp only [↓List.toList_toArray, ↓rgd, ↓rgf, ↓reduceIte, Nat.reduceEqDiff, rg, ow_110]
          refine hK _ _ ?_; clear hK K0
          refine W_false (by simp only [evt, evc, upd_eq, Nat.reduceEqDiff, ↓reduceIte, ntT, ntF] <;> rfl) (W_skip ?_)
          show W _ _ _ _ _ _
          have q1 := wadd1 i (by omega)
          refine W_rg fun K0 hK => (W_text [true, true, true] (by kernel_rfl) ?_); simp only [↓List.toList_toArray, ↓rgd, ↓rgf, ↓reduceIte, Nat.reduceEqDiff, rg, ow_110, e16, q1]
          refine hK _ _ ?_; clear hK K0
          refine ⟨_, ?_, i + 1, d ++ [x], rfl, hlt, by rw [hh, hd, hand_yes go hgo], by simp; omega, hS3, X.tr x3, ?_, ?_, ?_⟩
          · omega
          · simp only [upd_eq, Nat.reduceEqDiff, ↓reduceIte]; exact e5
          · simp only [upd_eq, Nat.reduceEqDiff, ↓reduceIte]; exact e15
          · simp only [upd_eq, Nat.reduceEqDiff, ↓reduceIte]
        | false =>
          refine W_true (by simp only [evt, evc, upd_eq, Nat.reduceEqDiff, ↓reduceIte, ntT, ntF] <;> rfl) ?_
          refine W_sq fun K0 hK => (W_text [true] (by kernel_rfl) ?_); simp only [↓List.toList_toArray, ↓rgd, ↓rgf, ↓reduceIte, Nat.reduceEqDiff, rg, ow_110]
          refine hK _ _ ?_; clear hK K0
          refine W_ret ?_
          simp only [andThen_ret, inBlk_ret]
          refine endQ_1 (by simp only [upd_eq, Nat.reduceEqDiff, ↓reduceIte] <;> rfl) ?_
          rw [hh, hd, hand_no go hgo]
          exact ⟨rfl, hS3, X.tr x3⟩
      · obtain rfl : i = xs.length := by omega
        have ht := lt_ff xs.length xs.length (by omega)
        refine W_sq fun K0 hK => (W_text [true, true, true, true, true, true, true] (by kernel_rfl) ?_); simp only [↓List.toList_toArray, ↓rgd, ↓rgf, ↓reduceIte, Nat.reduceEqDiff, rg, ow_110, e15, e16, ptr_eq, hb2, ht]
        refine hK _ _ ?_; clear hK K0
        refine W_false (by simp only [evt, evc, upd_eq, Nat.reduceEqDiff, ↓reduceIte, ntT, ntF] <;> rfl) (W_exit ?_)
        simp only [andThen_exit, inBlk_exit, andThen_normal, ↓reduceIte]
        refine W_sq fun K0 hK => (W_text [true] (by kernel_rfl) ?_); simp only [↓List.toList_toArray, ↓rgd, ↓rgf, ↓reduceIte, Nat.reduceEqDiff, rg, ow_110]
        refine hK _ _ ?_; clear hK K0
        refine W_ret ?_
        refine endQ_1 (by simp only [upd_eq, Nat.reduceEqDiff, ↓reduceIte] <;> rfl) ?_
        rw [hh, List.drop_length, hand_nil]
        exact ⟨rfl, hS', X⟩
    clear hK

    cases hq : hit O (rkI ord) (rkI ord q) xs with
    | true =>
      refine W_sq fun K0 hK => (W_text [true, true] (by kernel_rfl) ?_); simp only [↓List.toList_toArray, ↓rgd, ↓rgf, ↓reduceIte, Nat.reduceEqDiff, rg, ow_110, hq]
      refine hK _ _ ?_; clear hK K0
      refine W_false (by simp only [evt, evc, upd_eq, Nat.reduceEqDiff, ↓reduceIte, ntT, ntF] <;> rfl) (W_skip ?_)
      simp only [andThen_normal]
      refine hloop _ ?_ ?_ ?_
      · simp only [upd_eq, Nat.reduceEqDiff, ↓reduceIte]; exact e5
      · simp only [upd_eq, Nat.reduceEqDiff, ↓reduceIte]
      · simp only [upd_eq, Nat.reduceEqDiff, ↓reduceIte]
    | false =>
      refine W_sq fun K0 hK => (W_text [true, true] (by kernel_rfl) ?_); simp only [↓List.toList_toArray, ↓rgd, ↓rgf, ↓reduceIte, Nat.reduceEqDiff, rg, ow_110, hq]
      refine hK _ _ ?_; clear hK K0
      refine W_true (by simp only [evt, evc, upd_eq, Nat.reduceEqDiff, ↓reduceIte, ntT, ntF] <;> rfl) ?_
      refine W_sq fun K0 hK => (W_text [true, false, true] (by kernel_rfl) ?_); simp only [↓List.toList_toArray, ↓rgd, ↓rgf, ↓reduceIte, Nat.reduceEqDiff, rg, ow_110]
      refine do_call fn_108 (by simp only [evt, evc, upd_eq, Nat.reduceEqDiff, ↓reduceIte, maT, maC, maN, isnN, isnS] <;> rfl) (leaf_any b none w2 o2.h3) ?_
      rintro _ _ ⟨rfl, rfl⟩
      refine ⟨trivial, ?_⟩
      simp only [↓List.toList_toArray, ↓rgd, ↓rgf, ↓reduceIte, Nat.reduceEqDiff, rg, ow_110]
      refine hK _ _ ?_; clear hK K0
      refine W_false (by simp only [evt, evc, upd_eq, Nat.reduceEqDiff, ↓reduceIte, ntT, ntF] <;> rfl) (W_skip ?_)
      simp only [andThen_normal]
      refine hloop _ ?_ ?_ ?_
      · simp only [upd_eq, Nat.reduceEqDiff, ↓reduceIte]; exact e5
      · simp only [upd_eq, Nat.reduceEqDiff, ↓reduceIte]
      · simp only [upd_eq, Nat.reduceEqDiff, ↓reduceIte]
  | succ h ih =>
    intro b lo pc po xs F done w dep hlo hdep hL hH ht ha h0 hpc hG hS hbig
    obtain ⟨bi, oi, cap, bc, ba, oa, capc, ks, cs, ho, hk, h1, h2, hcs, rfl, hT, hA, hF⟩ := ht
    have hGo : ∀ y o, ownF E b bi oi cap y o → ∀ o', ¬ G y o' := fun y o g o' => hG y o o' ((hF y o).2 (.inl g))
    have hGk : ∀ y o, kidF bc ba oa capc y o → ∀ o', ¬ G y o' := fun y o g o' => hG y o o' ((hF y o).2 (.inr (.inl g)))
    have hGc : ∀ c ∈ cs, ∀ y o o', c.F y o → ¬ G y o' := fun c hc y o o' g => hG y o o' ((hF y o).2 (.inr (.inr ⟨c, hc, g⟩)))
    have hcs' : (cs.map Kid.xs).length = ks.length + 1 := by simpa using hcs
    have hwl := weave_length (cs.map Kid.xs) ks hcs'
    have hks : ks.length < 4611686018427387904 := by omega
    have hak : Asc O (rkI ord) ks := List.Pairwise.sublist (weave_sub _ _ hcs') ha
    refine calls_of_W [.tmp 14] Try.func110 rfl Try.ntmps110 Try.results110 (by simp) fun e he => ?_
    have e0 : e 0 = ptr m := he 0 _ rfl
    have e1 : e 1 = .pointer (some ⟨pc, po, none⟩) := he 1 _ rfl
    have e2 : e 2 = itV q := he 2 _ rfl
    have e3 : e 3 = hV hp := he 3 _ rfl
    have e4 : e 4 = .int .i64 dep := he 4 _ rfl
    have e5 : e 5 = .func (.func g) first cap0 := he 5 _ rfl
    have e6 : e 6 = .bool mu := he 6 _ rfl
    clear he
    refine W_sq fun K0 hK => (W_text [false, true] (by kernel_rfl) ?_); simp only [↓List.toList_toArray, ↓rgd, ↓rgf, ↓reduceIte, Nat.reduceEqDiff, rg, ow_110]
    refine do_box (by simp only [evt]; exact e2) fun w0 n0 => ⟨trivial, ?_⟩
    simp only [↓List.toList_toArray, ↓rgd, ↓rgf, ↓reduceIte, Nat.reduceEqDiff, rg, ow_110]
    refine hK _ _ ?_; clear hK K0
    have x0 := n0.ext
    have s0 := x0.size
    have ix0 : Row w0 w.heap.size 0 (E.cel q) := n0.row
    refine W_sq fun K0 hK => (W_text [true, true, true, false, true] (by kernel_rfl) ?_); simp only [↓List.toList_toArray, ↓rgd, ↓rgf, ↓reduceIte, Nat.reduceEqDiff, rg, ow_110, e0, e1, e6]
    refine do_call fn_107 (by simp only [evt, evc, upd_eq, Nat.reduceEqDiff, ↓reduceIte, maT, maC, maN, isnN, isnS] <;> rfl) (isoLoad_any m pc po b mu iso w0 (x0.rd h0 fun h => h) (x0.rd hpc fun h => h) (x0.rd ho.h0 fun h => h)) ?_
    rintro _ w1 ⟨rfl, r1⟩
    refine ⟨trivial, ?_⟩
    simp only [↓List.toList_toArray, ↓rgd, ↓rgf, ↓reduceIte, Nat.reduceEqDiff, rg, ow_110]
    refine hK _ _ ?_; clear hK K0
    have x01 : Ext noF w0 w1 := r1.ext
    have x1 : Ext noF w w1 := x0.tr x01
    have s1 := x1.size
    have hbl := wok_lt ho.wb
    have hbil := wok_lt ho.wi
    have hbh : ∀ hb, hp = some hb → hb ≠ b := fun hb hh hE => hG b 0 0 ((hF _ _).2 (.inl (.inl rfl))) (by rw [← hE]; exact (hB hb hh).2 0)
    have hbx : ∀ o, ¬ Go.Proofs.Ytdffddiaoheklaa.hF hp w.heap.size o := fun o g => by
      have := wok_lt (hH _ g).wok; omega
    have hbF : ∀ y o, F y o → ¬ Go.Proofs.Ytdffddiaoheklaa.hF hp y o := fun y o hy hg => hG y o o hy ((hB y hg).2 o)
    have o1 := ho.ext x1 fun _ _ _ h => h
    have ix1 := iX_at (x01.row ix0 fun _ _ h => h)
    refine W_sq fun K0 hK => (W_text [true, true, true, true, true, false, true, true, true, true, true] (by kernel_rfl) ?_); simp only [↓List.toList_toArray, ↓rgd, ↓rgf, ↓reduceIte, Nat.reduceEqDiff, rg, ow_110, e0, e3, e4, ix1]
    refine do_call fn_114 (by simp only [evt, evc, upd_eq, Nat.reduceEqDiff, ↓reduceIte, maT, maC, maN, isnN, isnS] <;> rfl) (find_any B m b bi oi cap ord ks q (some ⟨bc, 0, none⟩) hp dep w1 (hL.ext0 x1) o1.h2 o1.h3 o1.row (by omega) hks (by omega) hak (hH.ext0 x1) hbh) ?_
    rintro _ w2 ⟨rfl, r2, hH2⟩
    refine ⟨trivial, ?_⟩
    simp only [↓List.toList_toArray, ↓rgd, ↓rgf, ↓reduceIte, Nat.reduceEqDiff, rg, ow_110, srchG_eq]
    refine hK _ _ ?_; clear hK K0
    have x2 : Ext (Go.Proofs.Ytdffddiaoheklaa.hF hp) w w2 := (x1.trans r2 (fun _ _ g => g.elim) fun _ _ _ g => g)
    have x2G : Ext G w w2 := x2.mono fun y o _ g => (hB y g).2 o
    have o2 := ho.ext x2 fun y o h => hbF y o ((hF y o).2 (.inl h))
    have k2 := hk.ext x2 fun y o h => hbF y o ((hF y o).2 (.inr (.inl h)))
    have S2 := hSh _ _ _ hS x2
    have hmh : ¬ Go.Proofs.Ytdffddiaoheklaa.hF hp m 0 := fun g => hm 0 ((hB m g).2 0)
    have hL2 := hL.ext x2 (fun y o g => (hB y g).1) fun g => hm 6 ((hB m g).2 6)
    have hlb := lb_le O (rkI ord) (rkI ord q) ks
    have hci : ∀ i, i < cs.length → ∃ c, cs[i]? = some c ∧ (cs.map Kid.xs)[i]? = some c.xs ∧ ∀ w', Ext G w w' → rd w' ba (oa + i) = some (ptr c.b) := fun i hi => by
      refine ⟨cs[i], List.getElem?_eq_getElem hi, by rw [List.getElem?_map, List.getElem?_eq_getElem hi]; rfl, fun w' X => (hk.ext X fun y o g => hGk y o g o).row i _ ?_⟩
      rw [List.getElem?_map, List.getElem?_map, List.getElem?_eq_getElem hi]; rfl
    generalize hi0 : lb O (rkI ord) (rkI ord q) ks = i0 at *
    obtain ⟨c0, hc0, hx0, hr0⟩ := hci i0 (by omega)
    have hc0m : c0 ∈ cs := List.mem_of_getElem? hc0
    have hln0 := tl_length hcs' hlb hx0
    refine W_sqx fun K hK => ?_
    have hloop : ∀ (e' : Env) (w2 : World) (d : List It), S d w2 → Ext G w w2 → hand go done ((weave (cs.map Kid.xs) ks).drop (lb O (rkI ord) (rkI ord q) (weave (cs.map Kid.xs) ks))) = hand go d (tl (cs.map Kid.xs) ks i0) → d.length + (tl (cs.map Kid.xs) ks i0).length ≤ 4294967295 →
        e' 0 = ptr m → e' 5 = .func (.func g) first cap0 → e' 6 = .bool mu → e' 15 = ptr b → e' 16 = .int .i64 i0 → K e' w2 := by
      intro e w2 d0 S2 X2 hh0 hdl0 e0 e5 e6 e15 e16
      refine hK _ _ ?_; clear hK K
      refine W_seq ?_
      refine W_block (W_loop (fun mm e w' => ∃ (i : Nat) (d : List It), mm = ks.length - i ∧ i ≤ ks.length ∧ hand go done ((weave (cs.map Kid.xs) ks).drop (lb O (rkI ord) (rkI ord q) (weave (cs.map Kid.xs) ks))) = hand go d (tl (cs.map Kid.xs) ks i) ∧ d.length + (tl (cs.map Kid.xs) ks i).length ≤ 4294967295 ∧ S d w' ∧ Ext G w w' ∧
          e 0 = ptr m ∧ e 5 = .func (.func g) first cap0 ∧ e 6 = .bool mu ∧ e 15 = ptr b ∧ e 16 = .int .i64 i)
        (ks.length - i0) ⟨_, d0, rfl, hlb, hh0, hdl0, S2, X2, e0, e5, e6, e15, e16⟩ ?_)
      clear e0 e1 e2 e5 e6 e15 e16 e S2 o2 X2 hdl0 hh0
      rintro mm e w' ⟨i, d, rfl, hi, hh, hdl, hS', X, e0, e5, e6, e15, e16⟩
      have o' := ho.ext X fun y o g => hGo y o g o
      have hb2 := o'.h2
      refine W_seq ?_
      by_cases hlt : i < ks.length
      · have ht := lt_tt i ks.length hlt
        refine W_sq fun K0 hK => (W_text [true, true, true, true, true, true, true] (by kernel_rfl) ?_); simp only [↓List.toList_toArray, ↓rgd, ↓rgf, ↓reduceIte, Nat.reduceEqDiff, rg, ow_110, e15, e16, ptr_eq, hb2, ht]
        refine hK _ _ ?_; clear hK K0
        refine W_true (by simp only [evt, evc, upd_eq, Nat.reduceEqDiff, ↓reduceIte, ntT, ntF] <;> rfl) (W_skip ?_)
        show W _ _ _ _ _ _
        obtain ⟨x, hx⟩ : ∃ x, ks[i]? = some x := ⟨_, List.getElem?_eq_getElem hlt⟩
        obtain ⟨c, hc, hcx, hcr⟩ := hci (i + 1) (by omega)
        have hcm : c ∈ cs := List.mem_of_getElem? hc
        have hlc : i + 1 < cs.length := by omega
        rw [tl_step hcx hx] at hh hdl
        rw [List.length_cons, List.length_append] at hdl
        have hkx := it_at o'.row hx
        refine W_seq (W_block (W_seq ?_))
        refine W_sq fun K0 hK => (W_text [true, true, true, true, true, true, true, true, false, true] (by kernel_rfl) ?_); simp only [↓List.toList_toArray, ↓rgd, ↓rgf, ↓reduceIte, Nat.reduceEqDiff, rg, ow_110, e5, e15, e16, ptr_eq, hb2, hlt, hkx]
        refine do_callv (by simp only [evt, evc, upd_eq, Nat.reduceEqDiff, ↓reduceIte, ntT, ntF] <;> rfl) hg rfl (by simp only [evt, upd_eq, Nat.reduceEqDiff, ↓reduceIte, maT, maC, maN]; exact hcall d x _ hS' (by omega)) ?_
        rintro _ w3 ⟨rfl, hS3, x3⟩
        refine ⟨trivial, ?_⟩
        simp only [↓List.toList_toArray, ↓rgd, ↓rgf, ↓reduceIte, Nat.reduceEqDiff, rg, ow_110]
        refine hK _ _ ?_; clear hK K0
        have X3 := X.tr x3
        have o3 := ho.ext X3 fun y o g => hGo y o g o
        have k3 := hk.ext X3 fun y o g => hGk y o g o
        have b3 := o3.h3
        have hbc := k3.c0
        rw [List.length_map] at hbc
        have hcr3 := hcr _ X3
        have h03 := X3.rd h0 (hm 0)
        cases hgo : go (d ++ [x]) with
        | true =>
          rw [hand_yes go hgo] at hh
          refine W_false (by simp only [evt, evc, upd_eq, Nat.reduceEqDiff, ↓reduceIte, ntT, ntF] <;> rfl) (W_skip ?_)
          show W _ _ _ _ _ _
          refine W_sq fun K0 hK => (W_text [true, false, true] (by kernel_rfl) ?_); simp only [↓List.toList_toArray, ↓rgd, ↓rgf, ↓reduceIte, Nat.reduceEqDiff, rg, ow_110, e15]
          refine do_call fn_108 (by simp only [evt, evc, upd_eq, Nat.reduceEqDiff, ↓reduceIte, maT, maC, maN, isnN, isnS] <;> rfl) (leaf_any b (some ⟨bc, 0, none⟩) w3 b3) ?_
          rintro _ w3 ⟨rfl, rfl⟩
          refine ⟨trivial, ?_⟩
          simp only [↓List.toList_toArray, ↓rgd, ↓rgf, ↓reduceIte, Nat.reduceEqDiff, rg, ow_110]
          refine hK _ _ ?_; clear hK K0
          refine W_true (by simp only [evt, evc, upd_eq, Nat.reduceEqDiff, ↓reduceIte, ntT, ntF] <;> rfl) ?_
          have q1 := wadd1 i (by omega)
          refine W_sq fun K0 hK => (W_text [true, true, true, true, true, true, true, true, true, true, true, true, false, true] (by kernel_rfl) ?_); simp only [↓List.toList_toArray, ↓rgd, ↓rgf, ↓reduceIte, Nat.reduceEqDiff, rg, ow_110, e0, e5, e6, e15, e16, ptr_eq, b3, hbc, hlc, q1]
          refine do_call fn_112 (by simp only [evt, evc, upd_eq, Nat.reduceEqDiff, ↓reduceIte, maT, maC, maN, isnN, isnS] <;> rfl) (nodeScan_any m iso mn mx _ G S go C0 hm mu h c.b mn ba (oa + (i + 1)) c.xs c.F (d ++ [x]) _ ((hT c hcm).ext X3 fun y o g => hGc c hcm y o o g) h03 hcr3 (hGc c hcm) hS3 (by rw [List.length_append, List.length_singleton]; omega)) ?_
          rintro _ w4 ⟨rfl, hS4, x4⟩
          refine ⟨trivial, ?_⟩
          simp only [↓List.toList_toArray, ↓rgd, ↓rgf, ↓reduceIte, Nat.reduceEqDiff, rg, ow_110]
          refine hK _ _ ?_; clear hK K0
          cases hgo2 : (hand go (d ++ [x]) c.xs).2 with
          | true =>
            rw [hand_on go hgo2] at hh
            have hd2 : (hand go (d ++ [x]) c.xs).1.length = d.length + 1 + c.xs.length := by rw [hand_true go hgo2]; simp only [List.length_append, List.length_singleton]
            refine W_false (by simp only [evt, evc, upd_eq, Nat.reduceEqDiff, ↓reduceIte, ntT, ntF] <;> rfl) (W_skip ?_)
            simp only [inBlk_normal, andThen_normal]
            refine W_rg fun K0 hK => (W_text [true, true, true] (by kernel_rfl) ?_); simp only [↓List.toList_toArray, ↓rgd, ↓rgf, ↓reduceIte, Nat.reduceEqDiff, rg, ow_110, e16, q1]
            refine hK _ _ ?_; clear hK K0
            refine ⟨_, ?_, i + 1, _, rfl, hlt, hh, by omega, hS4, X3.tr x4, ?_, ?_, ?_, ?_, ?_⟩
            · omega
            · simp only [upd_eq, Nat.reduceEqDiff, ↓reduceIte]; exact e0
            · simp only [upd_eq, Nat.reduceEqDiff, ↓reduceIte]; exact e5
            · simp only [upd_eq, Nat.reduceEqDiff, ↓reduceIte]; exact e6
            · simp only [upd_eq, Nat.reduceEqDiff, ↓reduceIte]; exact e15
            · simp only [upd_eq, Nat.reduceEqDiff, ↓reduceIte]
          | false =>
            refine W_true (by simp only [evt, evc, upd_eq, Nat.reduceEqDiff, ↓reduceIte, ntT, ntF] <;> rfl) ?_
            refine W_sq fun K0 hK => (W_text [true] (by kernel_rfl) ?_); simp only [↓List.toList_toArray, ↓rgd, ↓rgf, ↓reduceIte, Nat.reduceEqDiff, rg, ow_110]
            refine hK _ _ ?_; clear hK K0
            refine W_ret ?_
            simp only [andThen_ret, inBlk_ret]
            refine endQ_1 (by simp only [upd_eq, Nat.reduceEqDiff, ↓reduceIte] <;> rfl) ?_
            rw [hh, hand_off go hgo2, hgo2]
            exact ⟨rfl, hS4, X3.tr x4⟩
        | false =>
          refine W_true (by simp only [evt, evc, upd_eq, Nat.reduceEqDiff, ↓reduceIte, ntT, ntF] <;> rfl) ?_
          refine W_sq fun K0 hK => (W_text [true] (by kernel_rfl) ?_); simp only [↓List.toList_toArray, ↓rgd, ↓rgf, ↓reduceIte, Nat.reduceEqDiff, rg, ow_110]
          refine hK _ _ ?_; clear hK K0
          refine W_ret ?_
          simp only [andThen_ret, inBlk_ret]
          refine endQ_1 (by simp only [upd_eq, Nat.reduceEqDiff, ↓reduceIte] <;> rfl) ?_
          rw [hh, hand_no go hgo]
          exact ⟨rfl, hS3, X3⟩
      · obtain rfl : i = ks.length := by omega
        have ht := lt_ff ks.length ks.length (by omega)
        refine W_sq fun K0 hK => (W_text [true, true, true, true, true, true, true] (by kernel_rfl) ?_); simp only [↓List.toList_toArray, ↓rgd, ↓rgf, ↓reduceIte, Nat.reduceEqDiff, rg, ow_110, e15, e16, ptr_eq, hb2, ht]
        refine hK _ _ ?_; clear hK K0
        refine W_false (by simp only [evt, evc, upd_eq, Nat.reduceEqDiff, ↓reduceIte, ntT, ntF] <;> rfl) (W_exit ?_)
        simp only [andThen_exit, inBlk_exit, andThen_normal, ↓reduceIte]
        refine W_sq fun K0 hK => (W_text [true] (by kernel_rfl) ?_); simp only [↓List.toList_toArray, ↓rgd, ↓rgf, ↓reduceIte, Nat.reduceEqDiff, rg, ow_110]
        refine hK _ _ ?_; clear hK K0
        refine W_ret ?_
        refine endQ_1 (by simp only [upd_eq, Nat.reduceEqDiff, ↓reduceIte] <;> rfl) ?_
        rw [hh, tl_end, hand_nil]
        exact ⟨rfl, hS', X⟩
    clear hK
    cases hq : hit O (rkI ord) (rkI ord q) ks with
    | true =>
      refine W_sq fun K0 hK => (W_text [true, true] (by kernel_rfl) ?_); simp only [↓List.toList_toArray, ↓rgd, ↓rgf, ↓reduceIte, Nat.reduceEqDiff, rg, ow_110, hq]
      refine hK _ _ ?_; clear hK K0
      refine W_false (by simp only [evt, evc, upd_eq, Nat.reduceEqDiff, ↓reduceIte, ntT, ntF] <;> rfl) (W_skip ?_)
      simp only [andThen_normal]
      refine hloop _ _ done S2 x2G (by rw [from_hit O (rkI ord) hcs' hx0 ha hi0 hq]) (by omega) ?_ ?_ ?_ ?_ ?_
      · simp only [upd_eq, Nat.reduceEqDiff, ↓reduceIte]; exact e0
      · simp only [upd_eq, Nat.reduceEqDiff, ↓reduceIte]; exact e5
      · simp only [upd_eq, Nat.reduceEqDiff, ↓reduceIte]; exact e6
      · simp only [upd_eq, Nat.reduceEqDiff, ↓reduceIte]
      · simp only [upd_eq, Nat.reduceEqDiff, ↓reduceIte]
    | false =>
      have hb3 := o2.h3
      have hbc := k2.c0
      rw [List.length_map] at hbc
      have hlc : i0 < cs.length := by omega
      have hfm := from_miss O (rkI ord) hcs' hx0 ha hi0 hq
      have hac : Asc O (rkI ord) c0.xs := by
        obtain ⟨A, C, hw⟩ := weave_at i0 (cs.map Kid.xs) ks hcs' hlb
        rw [hw.eq hx0] at ha
        exact ((Asc.append O (rkI ord)).1 ((Asc.append O (rkI ord)).1 ha).1).2.1
      refine W_sq fun K0 hK => (W_text [true, true] (by kernel_rfl) ?_); simp only [↓List.toList_toArray, ↓rgd, ↓rgf, ↓reduceIte, Nat.reduceEqDiff, rg, ow_110, hq]
      refine hK _ _ ?_; clear hK K0
      refine W_true (by simp only [evt, evc, upd_eq, Nat.reduceEqDiff, ↓reduceIte, ntT, ntF] <;> rfl) ?_
      refine W_sq fun K0 hK => (W_text [true, false, true] (by kernel_rfl) ?_); simp only [↓List.toList_toArray, ↓rgd, ↓rgf, ↓reduceIte, Nat.reduceEqDiff, rg, ow_110]
      refine do_call fn_108 (by simp only [evt, evc, upd_eq, Nat.reduceEqDiff, ↓reduceIte, maT, maC, maN, isnN, isnS] <;> rfl) (leaf_any b (some ⟨bc, 0, none⟩) w2 o2.h3) ?_
      rintro _ w3 ⟨rfl, hw3⟩
      obtain rfl : w2 = w3 := hw3.symm
      refine ⟨trivial, ?_⟩
      simp only [↓List.toList_toArray, ↓rgd, ↓rgf, ↓reduceIte, Nat.reduceEqDiff, rg, ow_110]
      refine hK _ _ ?_; clear hK K0
      refine W_true (by simp only [evt, evc, upd_eq, Nat.reduceEqDiff, ↓reduceIte, ntT, ntF] <;> rfl) ?_
      have q1 := wadd1 dep (by omega)
      have ix2 := iX_at (x01.row ix0 fun _ _ h => h)
      have ix3 : rdA w2 w.heap.size 0 2 = some (itV q) := iX_at (r2.row (x01.row ix0 fun _ _ h => h) fun i _ g => hbx _ g)
      refine W_sq fun K0 hK => (W_free (some none) (.take 0 (.take 1 (.take 2 (.take 3 (.take 4 (.take 5 (.take 6 (.take 7 (.take 8 (.take 9 (.take 10 (.take 11 (.take 12 (.take 13 (.take 14 (.bar 15 (.take 16 .nil))))))))))))))))) mixed (by kernel_rfl) ?_); simp only [↓List.toList_toArray, ↓rgd, ↓rgf, ↓reduceIte, Nat.reduceEqDiff, rg, ow_110, e0, e3, e4, e5, e6, ptr_eq, hb3, hbc, hlc, q1, ix3]
      refine do_call fn_110 (by simp only [evt, evc, upd_eq, Nat.reduceEqDiff, ↓reduceIte, maT, maC, maN, isnN, isnS] <;> rfl) (ih c0.b mn ba (oa + i0) c0.xs c0.F done _ (dep + 1) hmn (by omega) (hL2.ext0 (Ext.dr _ _ _)) (hH2.ext0 (Ext.dr _ _ _)) (((hT c0 hc0m).ext x2 fun y o h g => hGc c0 hc0m y o o h ((hB y g).2 o)).ext (Ext.dr noF _ _) fun _ _ _ h => h) hac (x2.rd h0 hmh) (hr0 _ (x2G.tr (Ext.dr _ _ _))) (hGc c0 hc0m) (hSx _ _ _ S2 (Ext.dr _ _ _)) (by omega)) ?_
      rintro _ w4 ⟨rfl, hS4, x4⟩
      refine ⟨trivial, ?_⟩
      simp only [↓List.toList_toArray, ↓rgd, ↓rgf, ↓reduceIte, Nat.reduceEqDiff, rg, ow_110]
      refine hK _ _ ?_; clear hK K0
      have X4 : Ext G w w4 := x2G.tr x4.od
      cases hgo2 : (hand go done (c0.xs.drop (lb O (rkI ord) (rkI ord q) c0.xs))).2 with
      | true =>
        have hd2 : (hand go done (c0.xs.drop (lb O (rkI ord) (rkI ord q) c0.xs))).1.length ≤ done.length + c0.xs.length := by rw [hand_true go hgo2]; simp only [List.length_append, List.length_drop]; omega
        refine W_false (by simp only [evt, evc, upd_eq, Nat.reduceEqDiff, ↓reduceIte, ntT, ntF] <;> rfl) (W_skip ?_)
        simp only [andThen_normal]
        refine hloop _ _ _ hS4 X4 (by rw [hfm, hand_on go hgo2]) (by omega) ?_ ?_ ?_ ?_ ?_
        · simp only [upd_eq, Nat.reduceEqDiff, ↓reduceIte]; exact e0
        · simp only [upd_eq, Nat.reduceEqDiff, ↓reduceIte]; exact e5
        · simp only [upd_eq, Nat.reduceEqDiff, ↓reduceIte]; exact e6
        · simp only [upd_eq, Nat.reduceEqDiff, ↓reduceIte]; rfl
        · simp only [upd_eq, Nat.reduceEqDiff, ↓reduceIte]
      | false =>
        refine W_true (by simp only [evt, evc, upd_eq, Nat.reduceEqDiff, ↓reduceIte, ntT, ntF] <;> rfl) ?_
        refine W_sq fun K0 hK => (W_text [true] (by kernel_rfl) ?_); simp only [↓List.toList_toArray, ↓rgd, ↓rgf, ↓reduceIte, Nat.reduceEqDiff, rg, ow_110]
        refine hK _ _ ?_; clear hK K0
        refine W_ret ?_
        simp only [andThen_ret]
        refine endQ_1 (by simp only [upd_eq, Nat.reduceEqDiff, ↓reduceIte] <;> rfl) ?_
        rw [hfm, hand_off go hgo2, hgo2]
        exact ⟨rfl, hS4, X4⟩
set_option maxHeartbeats 400000 in
set_option maxRecDepth 8000 in
theorem ascend_any (B m d : Nat) (ord : List Int) (hd : 2 ≤ d) (iso : Int) (xs : List It) (F : Nat → Nat → Prop) (q : It) (hp : Option Nat) (f : Value) (G : Nat → Nat → Prop) (S : List It → World → Prop) (go : List It → Bool) (C : Cb f G S go) (hm : ∀ o, ¬ G m o)
    (hB : ∀ hb, hp = some hb → (m ≤ hb ∨ hb < B) ∧ ∀ o, G hb o) (hSh : ∀ done w w', S done w → Ext (Go.Proofs.Ytdffddiaoheklaa.hF hp) w w' → S done w') (mu : Bool) (w : World)
    (hM : TreeAt B ord w m d iso xs F) (hG : ∀ y o o', F y o → ¬ G y o') (hS : S [] w) (hH : HOk hp w) (hbig : xs.length ≤ 4294967295) :
    CallK Try.prog 91 #[ptr m, itV q, f, .bool mu, hV hp] w fun _ w' => S (hand go [] (xs.drop (lb O (rkI ord) (rkI ord q) xs))).1 w' ∧ Ext G w w' := by
  refine calls_of_W [] Try.func91 rfl Try.ntmps91 Try.results91 (by simp) fun e he => ?_
  have e0 : e 0 = ptr m := he 0 _ rfl
  have e1 : e 1 = itV q := he 1 _ rfl
  have e2 : e 2 = f := he 2 _ rfl
  have e3 : e 3 = .bool mu := he 3 _ rfl
  have e4 : e 4 = hV hp := he 4 _ rfl
  clear he
  refine W_sq fun K0 hK => (W_text [false] (by kernel_rfl) ?_); simp only [↓List.toList_toArray, ↓rgd, ↓rgf, ↓reduceIte, Nat.reduceEqDiff, rg, ow_91]
  refine do_box (by simp only [evt]; exact e1) fun w1 n1 => ⟨trivial, ?_⟩
  simp only [↓List.toList_toArray, ↓rgd, ↓rgf, ↓reduceIte, Nat.reduceEqDiff, rg, ow_91]
  refine hK _ _ ?_; clear hK K0
  have X1 := n1.ext
  have ix := iX_at (show Row w1 w.heap.size 0 (E.cel q) from n1.row)
  have hS1 := C.2 _ _ _ hS X1
  have hM1 := hM.ext X1
  have hH1 := hH.ext0 X1
  refine W_seq ?_
  refine W_sq fun K0 hK => (W_text [true, true, false] (by kernel_rfl) ?_); simp only [↓List.toList_toArray, ↓rgd, ↓rgf, ↓reduceIte, Nat.reduceEqDiff, rg, ow_91, e0, e3]
  refine do_call fn_83 (by simp only [evt, evc, upd_eq, Nat.reduceEqDiff, ↓reduceIte, maT, maC, maN, isnN, isnS] <;> rfl) (lock_any _ _ w1) ?_
  rintro _ _ ⟨rfl, rfl⟩
  refine ⟨trivial, ?_⟩
  simp only [↓List.toList_toArray, ↓rgd, ↓rgf, ↓reduceIte, Nat.reduceEqDiff, rg, ow_91]
  refine hK _ _ ?_; clear hK K0
  refine W_false (by simp only [evt, evc, upd_eq, Nat.reduceEqDiff, ↓reduceIte, ntT, ntF] <;> rfl) (W_skip ?_)
  show W _ _ _ _ _ _
  refine W_seq ?_
  have X1G : Ext G w w1 := X1.mono fun _ _ _ g => g.elim
  rcases hM1.root with ⟨rfl, hr⟩ | ⟨h, b, hr, ht⟩
  · refine W_sq fun K0 hK => (W_text [true, true, true, true, true] (by kernel_rfl) ?_); simp only [↓List.toList_toArray, ↓rgd, ↓rgf, ↓reduceIte, Nat.reduceEqDiff, rg, ow_91, e0, ptr_eq, hr]
    refine hK _ _ ?_; clear hK K0
    refine W_true (by simp only [evt, evc, upd_eq, Nat.reduceEqDiff, ↓reduceIte, ntT, ntF] <;> rfl) (W_ret ?_)
    simp only [andThen_ret]
    exact endQ_0 ⟨hS1, X1G⟩
  · refine W_sq fun K0 hK => (W_text [true, true, true, true, true] (by kernel_rfl) ?_); simp only [↓List.toList_toArray, ↓rgd, ↓rgf, ↓reduceIte, Nat.reduceEqDiff, rg, ow_91, e0, ptr_eq, hr]
    refine hK _ _ ?_; clear hK K0
    refine W_false (by simp only [evt, evc, upd_eq, Nat.reduceEqDiff, ↓reduceIte, ntT, ntF] <;> rfl) (W_skip ?_)
    show W _ _ _ _ _ _
    have hh := ht.height (by omega) (by omega)
    refine W_rg fun K0 hK => (W_free (some none) (.take 0 (.take 1 (.take 2 (.take 3 (.take 4 (.take 5 (.take 6 (.take 7 (.bar 8 .nil))))))))) mixed (by kernel_rfl) ?_); simp only [↓List.toList_toArray, ↓rgd, ↓rgf, ↓reduceIte, Nat.reduceEqDiff, rg, ow_91, e0, e2, e3, e4, ptr_eq, ix]
    refine do_call fn_110 (by simp only [evt, evc, upd_eq, Nat.reduceEqDiff, ↓reduceIte, maT, maC, maN, isnN, isnS] <;> rfl) (nodeAscend_any m iso (d - 1) (2 * d - 1) B ord q hp f G S go C hm hB hSh (by omega) mu h b 1 m 2 xs F [] (dr w1 _) 0 (Nat.le_refl _) (by omega) (hM1.less.ext0 (Ext.dr _ _ _)) (hH1.ext0 (Ext.dr _ _ _)) (ht.ext (Ext.dr noF _ _) fun _ _ _ h => h) hM1.asc hM1.cfg.iso hr hG (C.2 _ _ _ hS1 (Ext.dr _ _ _)) (by simpa using hbig)) ?_
    rintro _ w2 ⟨rfl, hS2, X2⟩
    refine ⟨trivial, ?_⟩
    simp only [↓List.toList_toArray, ↓rgd, ↓rgf, ↓reduceIte, Nat.reduceEqDiff, rg, ow_91]
    refine hK _ _ ?_; clear hK K0
    exact endQ_0n ⟨hS2, X1G.tr X2.od⟩
end Go.Proofs.Ytdffddiaoheklaa
