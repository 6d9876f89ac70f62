/-
  The law on AscendHintMut. No condition.
-/
import Derived.Test.YtdffddiaoheklaaGAscLaw
set_option linter.unusedSimpArgs false
set_option linter.unusedVariables false
namespace Go.Proofs.Ytdffddiaoheklaa
open Go Go.Proofs
theorem z_hint : zK Try.prog 80 = some [.bool false, .bool false, .bool false, .bool false, .bool false, .bool false, .bool false, .bool false, .int .u8 0, .int .u8 0, .int .u8 0, .int .u8 0, .int .u8 0, .int .u8 0, .int .u8 0, .int .u8 0] := by kernel_rfl
theorem hint_new {w w' : World} (h : New w w' [.bool false, .bool false, .bool false, .bool false, .bool false, .bool false, .bool false, .bool false, .int .u8 0, .int .u8 0, .int .u8 0, .int .u8 0, .int .u8 0, .int .u8 0, .int .u8 0, .int .u8 0]) : HintAt w' w.heap.size := by
  refine ⟨h.wok, fun i hi => ⟨false, ?_⟩, fun i hi => ⟨0, by omega, ?_⟩⟩
  · have : i = 0 ∨ i = 1 ∨ i = 2 ∨ i = 3 ∨ i = 4 ∨ i = 5 ∨ i = 6 ∨ i = 7 := by omega
    have := h.row i (.bool false) (by rcases this with rfl | rfl | rfl | rfl | rfl | rfl | rfl | rfl <;> rfl)
    rwa [Nat.zero_add] at this
  · have : i = 0 ∨ i = 1 ∨ i = 2 ∨ i = 3 ∨ i = 4 ∨ i = 5 ∨ i = 6 ∨ i = 7 := by omega
    have := h.row (8 + i) (.int .u8 0) (by rcases this with rfl | rfl | rfl | rfl | rfl | rfl | rfl | rfl <;> rfl)
    rwa [Nat.zero_add] at this
theorem Cb.mono {f : Value} {G G' : Nat → Nat → Prop} {S : List It → World → Prop} {go : List It → Bool} (h : Cb f G S go) (hG : ∀ y o, G y o → G' y o) : Cb f G' S go := by
  obtain ⟨⟨g, first, cap, h1, h2, h3⟩, h4⟩ := h
  exact ⟨⟨g, first, cap, h1, h2, fun done x w hS hl => CallK_mono (h3 done x w hS hl) fun v w' ⟨a, b, c⟩ => ⟨a, b, c.mono fun y o _ g => hG y o g⟩⟩, h4⟩
theorem Kept.extH {B ob : Nat} {done : List It} {w w' : World} {G : Nat → Nat → Prop} (h : Kept B ob done w) (x : Ext G w w') (hG : ∀ y o, G y o → y ≠ ob ∧ y < B) : Kept B ob done w' := by
  obtain ⟨sv, h1, h2, h3⟩ := h.var
  exact ⟨⟨sv, x.rd h1 (fun g => (hG _ _ g).1 rfl), h2.ext x fun b o c hv i _ g => by have := h3 _ _ _ _ hv; have := (hG _ _ g).2; omega, h3⟩, x.wok h.wok, h.lt, Nat.le_trans h.le x.size⟩
set_option maxHeartbeats 400000 in
set_option maxRecDepth 8000 in
theorem ascendHintMut_any (B m d : Nat) (ord : List Int) (hd : 2 ≤ d) (iso : Int) (xs : List It) (F : Nat → Nat → Prop) (q : It) (hp : Option Nat) (f : Value) (G : Nat → Nat → Prop) (S : List It → World → Prop) (go : List It → Bool) (C : Cb f G S go) (hm : ∀ o, ¬ G m o)
    (hB : ∀ hb, hp = some hb → (m ≤ hb ∨ hb < B) ∧ ∀ o, G hb o) (hSh : ∀ done w w', S done w → Ext (Go.Proofs.Ytdffddiaoheklaa.hF hp) w w' → S done w') (w : World)
    (hM : TreeAt B ord w m d iso xs F) (hG : ∀ y o o', F y o → ¬ G y o') (hS : S [] w) (hH : HOk hp w) (hbig : xs.length ≤ 4294967295) :
    CallK Try.prog 90 #[ptr m, itV q, f, hV hp] w fun _ w' => S (hand go [] (xs.drop (lb O (rkI ord) (rkI ord q) xs))).1 w' ∧ Ext G w w' := by
  refine calls_of_W [] Try.func90 rfl Try.ntmps90 Try.results90 (by simp) fun e he => ?_
  have e0 : e 0 = ptr m := he 0 _ rfl
  have e1 : e 1 = itV q := he 1 _ rfl
  have e2 : e 2 = f := he 2 _ rfl
  have e3 : e 3 = hV hp := he 3 _ rfl
  clear he
  refine W_sq fun K hK => (W_text [false] (by kernel_rfl) ?_); simp only [↓List.toList_toArray, ↓rgd, ↓rgf, ↓reduceIte, Nat.reduceEqDiff, rg, ow_90]
  refine do_box (by simp only [evt]; exact e1) fun w1 n1 => ⟨trivial, ?_⟩
  simp only [↓List.toList_toArray, ↓rgd, ↓rgf, ↓reduceIte, Nat.reduceEqDiff, rg, ow_90]
  refine hK _ _ ?_; clear hK K
  have ix := iX_at (show Row w1 w.heap.size 0 (E.cel q) from n1.row)
  refine W_rg fun K hK => (W_text [true, true, true, true, false] (by kernel_rfl) ?_); simp only [↓List.toList_toArray, ↓rgd, ↓rgf, ↓reduceIte, Nat.reduceEqDiff, rg, ow_90, e0, e2, e3, ix]
  refine do_call fn_91 (by simp only [evt, evc, upd_eq, Nat.reduceEqDiff, ↓reduceIte, maT, maC, maN, isnN, isnS] <;> rfl) (ascend_any B m d ord hd iso xs F q hp f G S go C hm hB hSh true w1 (hM.ext n1.ext) hG (C.2 _ _ _ hS n1.ext) (hH.ext0 n1.ext) hbig) ?_
  rintro _ w2 ⟨hS2, X2⟩
  refine ⟨trivial, ?_⟩
  simp only [↓List.toList_toArray, ↓rgd, ↓rgf, ↓reduceIte, Nat.reduceEqDiff, rg, ow_90]
  refine hK _ _ ?_; clear hK K
  exact endQ_0n ⟨hS2, (n1.ext.mono fun _ _ _ g => g.elim).tr X2⟩
/-- What is there when a tree, a function that keeps items and a hint have been made, in whatever order. -/
structure Ready (B0 ob pb nb hb B m d : Nat) (ord : List Int) (xs : List It) (F : Nat → Nat → Prop) (n : Int) (w : World) : Prop where
  tree : TreeAt B ord w m d 1 xs F
  out : rd w ob 0 = some (.slice none 0 0)
  wout : wok w ob 1
  rpb : rd w pb 0 = some (ptr ob)
  rnb : rd w nb 0 = some (.int .i64 n)
  hint : HintAt w hb
  lt : B0 ≤ ob ∧ ob < pb ∧ ob < nb ∧ ob < hb ∧ ob < m ∧ pb ≠ hb ∧ nb ≠ hb ∧ m ≠ hb ∧ pb < w.heap.size ∧ nb < w.heap.size
  hB : m ≤ hb ∨ hb < B
  off : ∀ y o, F y o → ob < y ∧ y ≠ hb
set_option maxHeartbeats 400000 in
set_option maxRecDepth 8000 in
theorem ready_asc (B0 ob pb nb hb B m d : Nat) (ord : List Int) (hd : 2 ≤ d) (xs : List It) (F : Nat → Nat → Prop) (q : It) (n : Int) (w0 w : World) (hR : Ready B0 ob pb nb hb B m d ord xs F n w) (X : Ext noF w0 w) (h0 : B0 = w0.heap.size) (hbig : xs.length ≤ 4294967295) :
    CallK Try.prog 90 #[ptr m, itV q, takeV pb nb, ptr hb] w fun _ w' => Ext noF w0 w' ∧ ∃ sv, rd w' ob 0 = some sv ∧ SlI w' sv (firstN n (xs.drop (lb O (rkI ord) (rkI ord q) xs))) := by
  obtain ⟨l0, l1, l2, l3, l4, l5, l6, l7, l8, l9⟩ := hR.lt
  have hhl := wok_lt hR.hint.wok
  have hml := hR.tree.mlt
  have hKp : Kept w.heap.size ob [] w := ⟨⟨_, hR.out, ⟨rfl, .inl ⟨rfl, rfl⟩⟩, fun b o n c h => by cases h⟩, hR.wout, by omega, Nat.le_refl _⟩
  have C := (cb_take ob pb nb w.heap.size n (by omega) (by omega) (by omega) (by omega)).mono (G' := fun y o => outF w.heap.size ob y o ∨ y = hb) fun _ _ g => .inl g
  refine CallK_mono (ascendHintMut_any B m d ord hd 1 xs F q (some hb) _ _ _ _ C (fun o g => ?_) (fun y h => ?_) (fun done w1 w2 hS x => ?_) w hR.tree (fun y o o' hy g => ?_) ⟨hKp, hR.rpb, hR.rnb⟩ (fun y h => by cases h; exact hR.hint) hbig) ?_
  · rcases g with (g | g) | g <;> omega
  · cases h; exact ⟨hR.hB, fun o => .inr rfl⟩
  · refine ⟨hS.1.extH x fun y o g => ?_, x.rd hS.2.1 fun g => ?_, x.rd hS.2.2 fun g => ?_⟩
    · cases g; omega
    · cases g; omega
    · cases g; omega
  · have h1 := hR.off y o hy
    have h2 := hR.tree.lt y o hy
    rcases g with (g | g) | g <;> omega
  rintro _ w' ⟨⟨hK4, _⟩, X4⟩
  obtain ⟨sv, h1, h2, _⟩ := hK4.var
  rw [hand_upTo_nil] at h2
  refine ⟨noF_of X X4 fun y o hy g => ?_, sv, h1, h2⟩
  have := X.size
  rcases g with (g | g) | g <;> omega
set_option maxHeartbeats 400000 in
set_option maxRecDepth 8000 in
theorem impl_gascendHintMut (d : Nat) (hd : DOk d) (ord : List Int) (sv : Value) (nl : Bool) (l : List It) (lv : Value) (q : It) (n : Int) (w : World) (hs : SlInt w sv ord) (hsb : ord.length ≤ 2147483647) (hl : SlI w lv l) (hbig : l.length ≤ 2147483647) :
    CallK Try.prog 66 #[mkV sv d nl, lv, itV q, .int .i64 n] w fun v w' => SlI w' v (firstN n ((treeG ord l).drop (lb O (rkI ord) (rkI ord q) (treeG ord l)))) ∧ Ext noF w w' := by
  obtain ⟨hd2, hd3⟩ := hd.of
  refine calls_of_W [.tmp 8] Try.func66 rfl Try.ntmps66 Try.results66 (by simp) fun e he => ?_
  have e0 : e 0 = mkV sv d nl := he 0 _ rfl
  have e1 : e 1 = lv := he 1 _ rfl
  have e2 : e 2 = itV q := he 2 _ rfl
  have e3 : e 3 = .int .i64 n := he 3 _ rfl
  clear he
  have htl := treeG_len ord l
  refine W_sq fun K hK => (W_text [false, false, true] (by kernel_rfl) ?_); simp only [↓List.toList_toArray, ↓rgd, ↓rgf, ↓reduceIte, Nat.reduceEqDiff, rg, ow_66]
  refine do_box (by simp only [evt]; exact e0) fun w0 n0 => ⟨trivial, ?_⟩
  simp only [↓List.toList_toArray, ↓rgd, ↓rgf, ↓reduceIte, Nat.reduceEqDiff, rg, ow_66]
  refine do_box (by simp only [evt, upd_eq, Nat.reduceEqDiff, ↓reduceIte]; exact e2) fun wq nq => ⟨trivial, ?_⟩
  simp only [↓List.toList_toArray, ↓rgd, ↓rgf, ↓reduceIte, Nat.reduceEqDiff, rg, ow_66]
  refine hK _ _ ?_; clear hK K
  have s0 := n0.size
  have sq := nq.size
  refine W_sq fun K hK => (W_text [false] (by kernel_rfl) ?_); simp only [↓List.toList_toArray, ↓rgd, ↓rgf, ↓reduceIte, Nat.reduceEqDiff, rg, ow_66]
  refine do_alloc z_sl fun w1 n1 => ⟨trivial, ?_⟩
  simp only [↓List.toList_toArray, ↓rgd, ↓rgf, ↓reduceIte, Nat.reduceEqDiff, rg, ow_66]
  refine hK _ _ ?_; clear hK K
  have s1 := n1.size
  have X01 := (n0.ext.tr nq.ext).tr n1.ext
  have rm := mk_at ((nq.ext.tr n1.ext).row (show Row w0 w.heap.size 0 (mkL sv d nl) from n0.row) fun _ _ h => h)
  have iq := iX_at (n1.ext.row (show Row wq w0.heap.size 0 (E.cel q) from nq.row) fun _ _ h => h)
  have r1 : rd w1 wq.heap.size 0 = some (.slice none 0 0) := (Row.cons.1 n1.row).1
  have k1 := n1.wok
  have M1 : readsB (some (some [w.heap.size, w0.heap.size])) w.heap.size = true := by simp [readsB]
  have M2 : readsB (some (some [w.heap.size, w0.heap.size])) w0.heap.size = true := by simp [readsB]
  have keep : ∀ {a b : World}, Ext noF a b → w1.heap.size ≤ a.heap.size → keeps (some (some [w.heap.size, w0.heap.size])) a b := fun x h => keeps_on x fun y hy => ⟨by
    simp only [List.mem_cons, List.not_mem_nil, or_false] at hy
    omega, fun _ g => g⟩
  clear n1 nq n0
  refine W_sq fun K hK => (W_free (some (some [w.heap.size, w0.heap.size])) (.take 0 (.take 1 (.take 3 (.take 4 (.split 2 (.split 5 (.act 6 (.bar 7 .nil)) 6 (.act 5 (.bar 7 .nil))) 6 (.act 2 (.act 5 (.bar 7 .nil)))))))) mixed (by kernel_rfl) ?_); simp only [↓List.toList_toArray, ↓rgd, ↓rgf, ↓reduceIte, Nat.reduceEqDiff, rg, ow_66, e1, e3, rm, iq, M1, M2]
  refine ⟨?_, ?_⟩
  · refine do_call fn_54 (by simp only [evt, evc, upd_eq, Nat.reduceEqDiff, ↓reduceIte, maT, maC, maN, isnN, isnS] <;> rfl) (growG_low d hd ord sv nl l lv _ (SlV.ext0 hs (X01.tr (Ext.dr _ _ _))) hsb (SlV.ext0 hl (X01.tr (Ext.dr _ _ _))) (by omega)) ?_
    rintro _ w2 ⟨X2, B, m, F, rfl, hM, hm, hsi, hBl⟩
    rw [sz_dr] at hm hsi hBl
    refine ⟨.inr (keep X2 (Nat.le_refl _)), ?_⟩
    have X2 := X2.od
    have s2 := X2.size
    have hml := hM.mlt
    have hlt := hM.lt
    simp only [↓List.toList_toArray, ↓rgd, ↓rgf, ↓reduceIte, Nat.reduceEqDiff, rg, ow_66]
    refine ⟨?_, ?_⟩
    · refine do_call fn_68 (vs := #[ptr wq.heap.size, .int .i64 n]) (by simp only [evt, evc, upd_eq, Nat.reduceEqDiff, ↓reduceIte, maT, maC, maN, isnN, isnS] <;> rfl) (taker_mk wq.heap.size n w2) ?_
      rintro _ w3 ⟨rfl, X3, p3, q3, s3⟩
      refine ⟨.inr (keep X3 s2), ?_⟩
      simp only [↓List.toList_toArray, ↓rgd, ↓rgf, ↓reduceIte, Nat.reduceEqDiff, rg, ow_66]
      refine do_alloc z_hint fun w4 n4 => ⟨.inr (keep n4.ext (by omega)), ?_⟩
      have s4 := n4.size
      simp only [↓List.toList_toArray, ↓rgd, ↓rgf, ↓reduceIte, Nat.reduceEqDiff, rg, ow_66]
      refine do_call fn_90 (by simp only [evt, evc, upd_eq, Nat.reduceEqDiff, ↓reduceIte, maT, maC, maN, isnN, isnS] <;> rfl) (ready_asc _ wq.heap.size w2.heap.size (w2.heap.size + 1) w3.heap.size B m (degOf d) ord hd2 _ F q n w w4 ⟨(hM.ext X3).ext n4.ext, (((X2.tr X3).tr n4.ext)).rd r1 fun h => h, ((X2.tr X3).tr n4.ext).wok k1, n4.ext.rd p3 fun h => h, n4.ext.rd q3 fun h => h, hint_new n4, by omega, by omega, fun y o hy => by have := hsi y o hy; have := hlt y o hy; omega⟩ (((X01.tr X2).tr X3).tr n4.ext) rfl (by omega)) ?_
      rintro _ w5 ⟨X5, sv2, hv, hS⟩
      refine ⟨trivial, ?_⟩
      simp only [↓List.toList_toArray, ↓rgd, ↓rgf, ↓reduceIte, Nat.reduceEqDiff, rg, ow_66]
      refine hK _ _ ?_; clear hK K
      refine W_sq fun K hK => (W_text [true, true] (by kernel_rfl) ?_); simp only [↓List.toList_toArray, ↓rgd, ↓rgf, ↓reduceIte, Nat.reduceEqDiff, rg, ow_66, hv]
      refine hK _ _ ?_; clear hK K
      exact W_ret (endQ_1 (by simp only [upd_eq, Nat.reduceEqDiff, ↓reduceIte] <;> rfl) ⟨hS, X5⟩)
    · refine do_alloc z_hint fun w3 n3 => ⟨.inr (keep n3.ext s2), ?_⟩
      have s3 := n3.size
      simp only [↓List.toList_toArray, ↓rgd, ↓rgf, ↓reduceIte, Nat.reduceEqDiff, rg, ow_66]
      refine do_call fn_68 (vs := #[ptr wq.heap.size, .int .i64 n]) (by simp only [evt, evc, upd_eq, Nat.reduceEqDiff, ↓reduceIte, maT, maC, maN, isnN, isnS] <;> rfl) (taker_mk wq.heap.size n w3) ?_
      rintro _ w4 ⟨rfl, X4, p4, q4, s4⟩
      refine ⟨.inr (keep X4 (by omega)), ?_⟩
      simp only [↓List.toList_toArray, ↓rgd, ↓rgf, ↓reduceIte, Nat.reduceEqDiff, rg, ow_66]
      refine do_call fn_90 (by simp only [evt, evc, upd_eq, Nat.reduceEqDiff, ↓reduceIte, maT, maC, maN, isnN, isnS] <;> rfl) (ready_asc _ wq.heap.size w3.heap.size (w3.heap.size + 1) w2.heap.size B m (degOf d) ord hd2 _ F q n w w4 ⟨(hM.ext n3.ext).ext X4, (((X2.tr n3.ext).tr X4)).rd r1 fun h => h, ((X2.tr n3.ext).tr X4).wok k1, p4, q4, (hint_new n3).ext X4 fun _ h => h, by omega, by omega, fun y o hy => by have := hsi y o hy; have := hlt y o hy; omega⟩ (((X01.tr X2).tr n3.ext).tr X4) rfl (by omega)) ?_
      rintro _ w5 ⟨X5, sv2, hv, hS⟩
      refine ⟨trivial, ?_⟩
      simp only [↓List.toList_toArray, ↓rgd, ↓rgf, ↓reduceIte, Nat.reduceEqDiff, rg, ow_66]
      refine hK _ _ ?_; clear hK K
      refine W_sq fun K hK => (W_text [true, true] (by kernel_rfl) ?_); simp only [↓List.toList_toArray, ↓rgd, ↓rgf, ↓reduceIte, Nat.reduceEqDiff, rg, ow_66, hv]
      refine hK _ _ ?_; clear hK K
      exact W_ret (endQ_1 (by simp only [upd_eq, Nat.reduceEqDiff, ↓reduceIte] <;> rfl) ⟨hS, X5⟩)
  · refine do_alloc z_hint fun w2 n2 => ⟨.inr (keep n2.ext (Nat.le_refl _)), ?_⟩
    have s2 := n2.size
    have H2 := hint_new n2
    rw [sz_dr] at s2 H2
    have X2 := n2.ext.od
    simp only [↓List.toList_toArray, ↓rgd, ↓rgf, ↓reduceIte, Nat.reduceEqDiff, rg, ow_66]
    refine do_call fn_54 (by simp only [evt, evc, upd_eq, Nat.reduceEqDiff, ↓reduceIte, maT, maC, maN, isnN, isnS] <;> rfl) (growG_low d hd ord sv nl l lv w2 (SlV.ext0 hs (X01.tr X2)) hsb (SlV.ext0 hl (X01.tr X2)) (by omega)) ?_
    rintro _ w3 ⟨X3, B, m, F, rfl, hM, hm, hsi, hBl⟩
    refine ⟨.inr (keep X3 (by omega)), ?_⟩
    have s3 := X3.size
    have hml := hM.mlt
    have hlt := hM.lt
    simp only [↓List.toList_toArray, ↓rgd, ↓rgf, ↓reduceIte, Nat.reduceEqDiff, rg, ow_66]
    refine do_call fn_68 (vs := #[ptr wq.heap.size, .int .i64 n]) (by simp only [evt, evc, upd_eq, Nat.reduceEqDiff, ↓reduceIte, maT, maC, maN, isnN, isnS] <;> rfl) (taker_mk wq.heap.size n w3) ?_
    rintro _ w4 ⟨rfl, X4, p4, q4, s4⟩
    refine ⟨.inr (keep X4 (by omega)), ?_⟩
    simp only [↓List.toList_toArray, ↓rgd, ↓rgf, ↓reduceIte, Nat.reduceEqDiff, rg, ow_66]
    refine do_call fn_90 (by simp only [evt, evc, upd_eq, Nat.reduceEqDiff, ↓reduceIte, maT, maC, maN, isnN, isnS] <;> rfl) (ready_asc _ wq.heap.size w3.heap.size (w3.heap.size + 1) w1.heap.size B m (degOf d) ord hd2 _ F q n w w4 ⟨hM.ext X4, (((X2.tr X3).tr X4)).rd r1 fun h => h, ((X2.tr X3).tr X4).wok k1, p4, q4, H2.ext (X3.tr X4) fun _ h => h, by omega, by omega, fun y o hy => by have := hsi y o hy; have := hlt y o hy; omega⟩ (((X01.tr X2).tr X3).tr X4) rfl (by omega)) ?_
    rintro _ w5 ⟨X5, sv2, hv, hS⟩
    refine ⟨trivial, ?_⟩
    simp only [↓List.toList_toArray, ↓rgd, ↓rgf, ↓reduceIte, Nat.reduceEqDiff, rg, ow_66]
    refine hK _ _ ?_; clear hK K
    refine W_sq fun K hK => (W_text [true, true] (by kernel_rfl) ?_); simp only [↓List.toList_toArray, ↓rgd, ↓rgf, ↓reduceIte, Nat.reduceEqDiff, rg, ow_66, hv]
    refine hK _ _ ?_; clear hK K
    exact W_ret (endQ_1 (by simp only [upd_eq, Nat.reduceEqDiff, ↓reduceIte] <;> rfl) ⟨hS, X5⟩)
set_option maxHeartbeats 400000 in
set_option maxRecDepth 8000 in
theorem law_gascendHintMut (d : Nat) (hd : DOk d) (ord : List Int) (sv : Value) (nl : Bool) (l : List It) (lv : Value) (q : It) (n : Int) (w : World) (hs : SlInt w sv ord) (hsb : ord.length ≤ 2147483647) (hl : SlI w lv l) (hbig : l.length ≤ 2147483647) :
    CallK Try.prog 38 #[mkV sv d nl, lv, itV q, .int .i64 n] w fun v w' => v = .bool true ∧ Ext noF w w' := by
  have htl := treeG_len ord l
  have hfl := firstN_length n ((treeG ord l).drop (lb O (rkI ord) (rkI ord q) (treeG ord l)))
  have hrl : ((treeG ord l).drop (lb O (rkI ord) (rkI ord q) (treeG ord l))).length ≤ (treeG ord l).length := by rw [List.length_drop]; omega
  refine calls_of_W [.tmp 8] Try.func38 rfl Try.ntmps38 Try.results38 (by simp) fun e he => ?_
  have e0 : e 0 = mkV sv d nl := he 0 _ rfl
  have e1 : e 1 = lv := he 1 _ rfl
  have e2 : e 2 = itV q := he 2 _ rfl
  have e3 : e 3 = .int .i64 n := he 3 _ rfl
  clear he
  refine W_sq fun K hK => (W_text [false, false, true] (by kernel_rfl) ?_); simp only [↓List.toList_toArray, ↓rgd, ↓rgf, ↓reduceIte, Nat.reduceEqDiff, rg, ow_38]
  refine do_box (by simp only [evt]; exact e0) fun w0 n0 => ⟨trivial, ?_⟩
  simp only [↓List.toList_toArray, ↓rgd, ↓rgf, ↓reduceIte, Nat.reduceEqDiff, rg, ow_38]
  refine do_box (by simp only [evt, upd_eq, Nat.reduceEqDiff, ↓reduceIte]; exact e2) fun wq nq => ⟨trivial, ?_⟩
  simp only [↓List.toList_toArray, ↓rgd, ↓rgf, ↓reduceIte, Nat.reduceEqDiff, rg, ow_38]
  refine hK _ _ ?_; clear hK K
  have rm0 : Row wq w.heap.size 0 (mkL sv d nl) := nq.ext.row n0.row fun _ _ h => h
  have rq0 : Row wq w0.heap.size 0 (E.cel q) := nq.row
  have rm := mk_at rm0
  have iq := iX_at rq0
  have X0 := n0.ext.tr nq.ext
  refine W_sq fun K hK => (W_text [true, true, true, true, false, true] (by kernel_rfl) ?_); simp only [↓List.toList_toArray, ↓rgd, ↓rgf, ↓reduceIte, Nat.reduceEqDiff, rg, ow_38, e1, e3, rm, iq]
  refine do_call fn_66 (by simp only [evt, evc, upd_eq, Nat.reduceEqDiff, ↓reduceIte, maT, maC, maN, isnN, isnS] <;> rfl) (impl_gascendHintMut d hd ord sv nl l lv q n wq (SlV.ext0 hs X0) hsb (SlV.ext0 hl X0) hbig) ?_
  rintro v1 w1 ⟨h1, X1⟩
  refine ⟨trivial, ?_⟩
  simp only [↓List.toList_toArray, ↓rgd, ↓rgf, ↓reduceIte, Nat.reduceEqDiff, rg, ow_38]
  refine hK _ _ ?_; clear hK K
  have rm1 := mk_at (X1.row rm0 fun _ _ h => h)
  have iq1 := iX_at (X1.row rq0 fun _ _ h => h)
  have X01 := X0.tr X1
  refine W_sq fun K hK => (W_text [true, true, true, true, false, true] (by kernel_rfl) ?_); simp only [↓List.toList_toArray, ↓rgd, ↓rgf, ↓reduceIte, Nat.reduceEqDiff, rg, ow_38, e1, e3, rm1, iq1]
  refine do_call fn_65 (by simp only [evt, evc, upd_eq, Nat.reduceEqDiff, ↓reduceIte, maT, maC, maN, isnN, isnS] <;> rfl) (sgascend d ord sv nl l lv q n w1 (SlV.ext0 hs X01) hsb (SlV.ext0 hl X01) hbig) ?_
  rintro v2 w2 ⟨h2, X2⟩
  refine ⟨trivial, ?_⟩
  simp only [↓List.toList_toArray, ↓rgd, ↓rgf, ↓reduceIte, Nat.reduceEqDiff, rg, ow_38]
  refine hK _ _ ?_; clear hK K
  refine W_sq fun K hK => (W_text [true, true, false, true] (by kernel_rfl) ?_); simp only [↓List.toList_toArray, ↓rgd, ↓rgf, ↓reduceIte, Nat.reduceEqDiff, rg, ow_38]
  refine do_call fn_28 (by simp only [evt, evc, upd_eq, Nat.reduceEqDiff, ↓reduceIte, maT, maC, maN, isnN, isnS] <;> rfl) (eq_i _ v1 v2 w2 (SlV.ext0 h1 X2) h2 (by omega)) ?_
  rintro _ w3 ⟨rfl, r3⟩
  refine ⟨trivial, ?_⟩
  simp only [↓List.toList_toArray, ↓rgd, ↓rgf, ↓reduceIte, Nat.reduceEqDiff, rg, ow_38]
  refine hK _ _ ?_; clear hK K
  exact W_ret (endQ_1 (by simp only [upd_eq, Nat.reduceEqDiff, ↓reduceIte] <;> rfl) ⟨rfl, (X01.tr X2).tr r3.ext⟩)
end Go.Proofs.Ytdffddiaoheklaa
