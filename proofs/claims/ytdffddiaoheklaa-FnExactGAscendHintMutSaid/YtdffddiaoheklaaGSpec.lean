/-
  The reference's order of items, its place of a key, its put, its list of a tree. No condition.
-/
import Derived.Test.YtdffddiaoheklaaGNew
import Derived.Test.YtdffddiaoheklaaWeave
set_option linter.unusedSimpArgs false
set_option linter.unusedVariables false
namespace Go.Proofs.Ytdffddiaoheklaa
open Go Go.Proofs
set_option maxHeartbeats 400000 in
set_option maxRecDepth 8000 in
theorem srank_any (sv : Value) (ord : List Int) (k : Int) (w : World) (hs : SlInt w sv ord) (hl : ord.length ≤ 2147483647) :
    CallK Try.prog 87 #[sv, .int .i64 k] w fun v w' => v = .int .i64 (rk ord k) ∧ w = w' := by
  obtain ⟨a, cp, hsv⟩ := SlV.shape hs
  refine calls_of_W [.tmp 4] Try.func87 rfl Try.ntmps87 Try.results87 (by simp) fun e he => ?_
  have e0 : e 0 = .slice a ord.length cp := (he 0 _ rfl).trans hsv
  have e1 : e 1 = .int .i64 k := he 1 _ rfl
  clear he
  refine W_sq fun K hK => (W_text [true] (by kernel_rfl) ?_); simp only [↓List.toList_toArray, ↓rgd, ↓rgf, ↓reduceIte, Nat.reduceEqDiff, rg, ow_87]
  refine hK _ _ ?_; clear hK K
  refine W_sq fun K hK => (W_text [true, true, true] (by kernel_rfl) ?_); simp only [↓List.toList_toArray, ↓rgd, ↓rgf, ↓reduceIte, Nat.reduceEqDiff, rg, ow_87, e0]
  refine hK _ _ ?_; clear hK K
  refine W_seq ?_
  by_cases h0 : ord = []
  · have t1 : ((ord.length : Int) == 0) = true := by rw [h0]; rfl
    refine W_sq fun K hK => (W_text [true, true] (by kernel_rfl) ?_); simp only [↓List.toList_toArray, ↓rgd, ↓rgf, ↓reduceIte, Nat.reduceEqDiff, rg, ow_87, t1]
    refine hK _ _ ?_; clear hK K
    refine W_true (by simp only [evt, evc, upd_eq, Nat.reduceEqDiff, ↓reduceIte, ntT, ntF] <;> rfl) ?_
    refine W_sq fun K hK => (W_text [true, true] (by kernel_rfl) ?_); simp only [↓List.toList_toArray, ↓rgd, ↓rgf, ↓reduceIte, Nat.reduceEqDiff, rg, ow_87, e1]
    refine hK _ _ ?_; clear hK K
    refine W_ret ?_
    simp only [andThen_ret]
    exact endQ_1 (by simp only [upd_eq, Nat.reduceEqDiff, ↓reduceIte] <;> rfl) ⟨by rw [rk, if_pos h0], rfl⟩
  · have hp : 0 < ord.length := List.length_pos_iff.2 h0
    have t1 : ((ord.length : Int) == 0) = false := by simp; omega
    refine W_sq fun K hK => (W_text [true, true] (by kernel_rfl) ?_); simp only [↓List.toList_toArray, ↓rgd, ↓rgf, ↓reduceIte, Nat.reduceEqDiff, rg, ow_87, t1]
    refine hK _ _ ?_; clear hK K
    refine W_false (by simp only [evt, evc, upd_eq, Nat.reduceEqDiff, ↓reduceIte, ntT, ntF] <;> rfl) (W_skip ?_)
    show W _ _ _ _ _ _
    have hz : ((ord.length : Int) = 0) = False := eq_false (by omega)
    have h1 := Int.tmod_lt_of_pos k (b := (ord.length : Int)) (by omega)
    have h2 : -(ord.length : Int) < k.tmod ord.length := by have := Int.lt_tmod_of_pos k (b := (ord.length : Int)) (by omega); omega
    have q1 : IntKind.i64.wrap (k.tmod ord.length + ord.length) = k.tmod ord.length + ord.length := IntWalk.i64_in _ (by omega)
    obtain ⟨j, hj, hjl⟩ := rem_nat k ord.length hp
    obtain ⟨b, o, ha, row⟩ := SlV.at hs hsv hjl
    subst ha
    have hr : rd w b (o + j) = some (.int .i64 (rk ord k)) := by
      refine row _ _ ?_
      rw [ints, List.getElem?_map, List.getElem?_eq_getElem hjl]
      simp only [Option.map_some, Option.some.injEq, Value.int.injEq, true_and]
      rw [rk, if_neg h0, hj, Int.toNat_natCast, List.getElem?_eq_getElem hjl]
      rfl
    refine W_sq fun K hK => (W_text [true, true, true, true, true, true, true, true, true, true, true] (by kernel_rfl) ?_); simp only [↓List.toList_toArray, ↓rgd, ↓rgf, ↓reduceIte, Nat.reduceEqDiff, rg, ow_87, e0, e1, bv_rem _ _ _ _ hz, q1, hj, hjl, hr]
    refine hK _ _ ?_; clear hK K
    exact W_ret (endQ_1 (by simp only [upd_eq, Nat.reduceEqDiff, ↓reduceIte] <;> rfl) ⟨rfl, rfl⟩)
set_option maxHeartbeats 400000 in
set_option maxRecDepth 8000 in
theorem before_ord (os : Value) (ord : List Int) (a b : It) (w : World) (hO : SlInt w os ord) (hOb : ord.length ≤ 2147483647) : CallK Try.prog 63 #[os, itV a, itV b] w fun v w' => v = .bool (O.lt ((rkI ord) a) ((rkI ord) b)) ∧ Ext noF w w' := by
  refine calls_of_W [.tmp 6] Try.func63 rfl Try.ntmps63 Try.results63 (by simp) fun e he => ?_
  have e0 : e 0 = os := he 0 _ rfl
  have e1 : e 1 = itV a := he 1 _ rfl
  have e2 : e 2 = itV b := he 2 _ rfl
  clear he
  refine W_sq fun K hK => (W_text [false, false, true] (by kernel_rfl) ?_); simp only [↓List.toList_toArray, ↓rgd, ↓rgf, ↓reduceIte, Nat.reduceEqDiff, rg, ow_63]
  refine do_box (by simp only [evt]; exact e1) fun w1 n1 => ⟨trivial, ?_⟩
  simp only [↓List.toList_toArray, ↓rgd, ↓rgf, ↓reduceIte, Nat.reduceEqDiff, rg, ow_63]
  refine do_box (by simp only [evt, upd_eq, Nat.reduceEqDiff, ↓reduceIte]; exact e2) fun w2 n2 => ⟨trivial, ?_⟩
  simp only [↓List.toList_toArray, ↓rgd, ↓rgf, ↓reduceIte, Nat.reduceEqDiff, rg, ow_63]
  refine hK _ _ ?_; clear hK K
  have ra : Row w2 w.heap.size 0 [.int .i64 a.1, .int .i64 a.2] := n2.ext.row n1.row fun _ _ h => h
  have rb : Row w2 w1.heap.size 0 [.int .i64 b.1, .int .i64 b.2] := n2.row
  have ka := (Row.cons.1 ra).1
  have kb := (Row.cons.1 rb).1
  have X2 := n1.ext.tr n2.ext
  refine W_sq fun K hK => (W_draw (some none) none [(0, 0, 0), (0, 1, 0), (0, 2, 0), (0, 4, 0), (0, 5, 0), (0, 6, 0), (1, 3, 0), (1, 7, 0), (0, 8, 0), (0, 9, 0)] mixed (by kernel_rfl) ?_); simp only [↓List.toList_toArray, ↓rgd, ↓rgf, ↓reduceIte, Nat.reduceEqDiff, rg, ow_63, e0, ka, kb]
  refine do_call fn_87 (by simp only [evt, evc, upd_eq, Nat.reduceEqDiff, ↓reduceIte, maT, maC, maN, isnN, isnS] <;> rfl) (srank_any os ord a.1 _ (SlV.ext0 hO (X2.tr (Ext.dr noF _ _))) hOb) ?_
  rintro _ _ ⟨rfl, rfl⟩
  refine ⟨.inr (keeps_ro (RO.refl _)), ?_⟩
  simp only [↓List.toList_toArray, ↓rgd, ↓rgf, ↓reduceIte, Nat.reduceEqDiff, rg, ow_63, e0, kb]
  refine do_call fn_87 (by simp only [evt, evc, upd_eq, Nat.reduceEqDiff, ↓reduceIte, maT, maC, maN, isnN, isnS] <;> rfl) (srank_any os ord b.1 _ (SlV.ext0 hO (X2.tr (Ext.dr noF _ _))) hOb) ?_
  rintro _ _ ⟨rfl, rfl⟩
  refine ⟨.inr (keeps_ro (RO.refl _)), ?_⟩
  simp only [↓List.toList_toArray, ↓rgd, ↓rgf, ↓reduceIte, Nat.reduceEqDiff, rg, ow_63]
  refine hK _ _ ?_; clear hK K
  refine W_ret (endQ_1 (by simp only [upd_eq, Nat.reduceEqDiff, ↓reduceIte] <;> rfl) ⟨rfl, X2.tr (Ext.dr _ _ _)⟩)
set_option maxHeartbeats 400000 in
set_option maxRecDepth 8000 in
theorem place_ord (os : Value) (ord : List Int) (l : List It) (lv : Value) (x : It) (w : World) (hO : SlInt w os ord) (hOb : ord.length ≤ 2147483647) (hl : SlI w lv l) (hbig : l.length ≤ 2147483648) :
    CallK Try.prog 78 #[os, lv, itV x] w fun v w' => v = .tuple #[.int .i64 (lb O (rkI ord) (rkI ord x) l : Nat), .bool (hit O (rkI ord) (rkI ord x) l)] ∧ Ext noF w w' := by
  obtain ⟨a, c, hlv⟩ : ∃ a c, lv = .slice a l.length c := by
    rcases hl.2 with ⟨rfl, h⟩ | ⟨b, o, cap, rfl, _⟩
    · exact ⟨none, 0, by rw [h]⟩
    · exact ⟨_, _, rfl⟩
  have hsome : ∀ i, i < l.length → ∃ b o cap, lv = .slice (some ⟨b, o, none⟩) l.length cap ∧ Row w b o (flat E l) ∧ b < w.heap.size := fun i hi => by
    rcases hl.2 with ⟨_, h⟩ | ⟨b, o, cap, h1, _, h2, h3⟩
    · omega
    · exact ⟨b, o, cap, h1, h2, wokR_lt h3⟩
  refine calls_of_W [.tmp 6, .tmp 7] Try.func78 rfl Try.ntmps78 Try.results78 (by simp) fun e he => ?_
  have e0 : e 0 = os := he 0 _ rfl
  have e1 : e 1 = lv := he 1 _ rfl
  have e2 : e 2 = itV x := he 2 _ rfl
  clear he
  refine W_sq fun K hK => (W_text [false, true, true] (by kernel_rfl) ?_); simp only [↓List.toList_toArray, ↓rgd, ↓rgf, ↓reduceIte, Nat.reduceEqDiff, rg, ow_78]
  refine do_box (by simp only [evt]; exact e2) fun w1 n1 => ⟨trivial, ?_⟩
  simp only [↓List.toList_toArray, ↓rgd, ↓rgf, ↓reduceIte, Nat.reduceEqDiff, rg, ow_78]
  refine hK _ _ ?_; clear hK K
  refine W_sq fun K hK => (W_text [true] (by kernel_rfl) ?_); simp only [↓List.toList_toArray, ↓rgd, ↓rgf, ↓reduceIte, Nat.reduceEqDiff, rg, ow_78]
  refine hK _ _ ?_; clear hK K
  have s1 := n1.size
  have hlbl := lb_le O (rkI ord) (rkI ord x) l
  have hseg : ∀ i, i < l.length → ∀ y, l[i]? = some y → i ≤ lb O (rkI ord) (rkI ord x) l → (O.lt ((rkI ord) y) (rkI ord x) = true ↔ i < lb O (rkI ord) (rkI ord x) l) := fun i hi y hy hle => by
    constructor
    · intro h
      rcases Nat.lt_or_ge i (lb O (rkI ord) (rkI ord x) l) with g | g
      · exact g
      · have : i = lb O (rkI ord) (rkI ord x) l := by omega
        subst this
        rw [lb_ge O (rkI ord) hy] at h; cases h
    · intro h
      exact lb_take_lt O (rkI ord) y (List.mem_iff_getElem?.2 ⟨i, by rw [List.getElem?_take, if_pos h, hy]⟩)
  refine W_seq ((W_block (Q := fun ex e w' => ex = .normal ∧ e 0 = os ∧ e 1 = lv ∧ e 5 = .pointer (some ⟨w.heap.size, 0, none⟩) ∧ e 8 = .int .i64 (lb O (rkI ord) (rkI ord x) l : Nat) ∧ Ext noF w1 w') (W_loop (fun mm e w' => ∃ i : Nat, mm = l.length - i ∧ i ≤ lb O (rkI ord) (rkI ord x) l ∧ e 0 = os ∧ e 1 = lv ∧ e 5 = .pointer (some ⟨w.heap.size, 0, none⟩) ∧ e 8 = .int .i64 i ∧ Ext noF w1 w')
    l.length ⟨0, by simp, by omega, ?_, ?_, ?_, ?_, Ext.refl _ _⟩ ?_)).mono ?_)
  · simp only [upd_eq, Nat.reduceEqDiff, ↓reduceIte]; exact e0
  · simp only [upd_eq, Nat.reduceEqDiff, ↓reduceIte]; exact e1
  · simp only [upd_eq, Nat.reduceEqDiff, ↓reduceIte]
  · simp only [upd_eq, Nat.reduceEqDiff, ↓reduceIte]; rfl
  · clear e0 e1 e2 e
    rintro mm e w' ⟨i, rfl, hi, e0, e1, e5, e8, X⟩
    have sX := X.size
    refine W_seq ?_
    by_cases hlt : i < l.length
    · have ht := lt_tt i l.length hlt
      obtain ⟨y, hy⟩ : ∃ y, l[i]? = some y := ⟨_, List.getElem?_eq_getElem hlt⟩
      obtain ⟨b, o, cap, hlv2, row, hb⟩ := hsome i hlt
      rw [hlv2] at e1
      have ix := it_at (X.row (n1.ext.row row fun _ _ h => h) fun _ _ h => h) hy
      have bx : rdA w' w.heap.size 0 2 = some (itV x) := (X.row n1.row fun _ _ h => h).rdA 2 (by show 2 ≤ 2; omega)
      have M1 : readsB (some (some [b, w.heap.size])) b = true := by simp [readsB]
      have M2 : readsB (some (some [b, w.heap.size])) w.heap.size = true := by simp [readsB]
      refine W_sq fun K hK => (W_draw (some (some [b, w.heap.size])) none [(0, 0, 0), (0, 1, 0), (0, 2, 0), (0, 3, 0), (0, 4, 0), (0, 5, 0), (0, 6, 0), (0, 7, 0), (0, 8, 0), (0, 9, 0), (0, 10, 0), (1, 11, 0), (0, 12, 0)] mixed (by kernel_rfl) ?_); simp only [↓List.toList_toArray, ↓rgd, ↓rgf, ↓reduceIte, Nat.reduceEqDiff, rg, ow_78, e0, e1, e5, e8, ht, hlt, ix, bx, M1, M2]
      refine do_call fn_63 (by simp only [evt, evc, upd_eq, Nat.reduceEqDiff, ↓reduceIte, maT, maC, maN, isnN, isnS] <;> rfl) (before_ord os ord y x _ (SlV.ext0 hO ((n1.ext.tr X).tr (Ext.dr noF _ _))) hOb) ?_
      rintro _ w2 ⟨rfl, x2⟩
      refine ⟨.inr (keeps_on x2 fun z hz => ⟨?_, fun _ h => h⟩), ?_⟩
      · rw [sz_dr]
        simp only [List.mem_cons, List.not_mem_nil, or_false] at hz
        omega
      simp only [↓List.toList_toArray, ↓rgd, ↓rgf, ↓reduceIte, Nat.reduceEqDiff, rg, ow_78]
      refine hK _ _ ?_; clear hK K
      have x2 := x2.od
      cases hq : O.lt ((rkI ord) y) (rkI ord x) with
      | true =>
        have hil := (hseg i hlt y hy hi).1 hq
        refine W_true (by simp only [evt, evc, upd_eq, Nat.reduceEqDiff, ↓reduceIte, ntT, ntF] <;> rfl) (W_skip ?_)
        show W _ _ _ _ _ _
        have q1 := wadd1 i (by omega)
        refine W_block ?_
        refine W_rg fun K hK => (W_text [true, true, true] (by kernel_rfl) ?_); simp only [↓List.toList_toArray, ↓rgd, ↓rgf, ↓reduceIte, Nat.reduceEqDiff, rg, ow_78, e8, q1]
        refine hK _ _ ?_; clear hK K
        refine ⟨_, ?_, i + 1, rfl, hil, ?_, ?_, ?_, ?_, X.tr x2⟩
        · omega
        · simp only [upd_eq, Nat.reduceEqDiff, ↓reduceIte]; exact e0
        · simp only [upd_eq, Nat.reduceEqDiff, ↓reduceIte]; rw [e1, hlv2]
        · simp only [upd_eq, Nat.reduceEqDiff, ↓reduceIte]; exact e5
        · simp only [upd_eq, Nat.reduceEqDiff, ↓reduceIte]
      | false =>
        have hil : i = lb O (rkI ord) (rkI ord x) l := by
          rcases Nat.lt_or_ge i (lb O (rkI ord) (rkI ord x) l) with g | g
          · have := (hseg i hlt y hy hi).2 g; rw [hq] at this; cases this
          · omega
        refine W_false (by simp only [evt, evc, upd_eq, Nat.reduceEqDiff, ↓reduceIte, ntT, ntF] <;> rfl) (W_exit ?_)
        simp only [andThen_exit, inBlk_exit, ↓reduceIte]
        refine ⟨trivial, ?_, ?_, ?_, ?_, X.tr x2⟩
        · simp only [upd_eq, Nat.reduceEqDiff, ↓reduceIte]; exact e0
        · simp only [upd_eq, Nat.reduceEqDiff, ↓reduceIte]; rw [e1, hlv2]
        · simp only [upd_eq, Nat.reduceEqDiff, ↓reduceIte]; exact e5
        · simp only [upd_eq, Nat.reduceEqDiff, ↓reduceIte]; rw [e8, hil]
    · have hil : i = lb O (rkI ord) (rkI ord x) l := by omega
      have ht := lt_ff i l.length (by omega)
      rw [hlv] at e1
      refine W_sq fun K hK => (W_draw (some (some [])) none [(0, 0, 0), (0, 1, 0), (0, 2, 0), (0, 3, 0), (0, 4, 0), (0, 5, 0), (0, 6, 0), (0, 7, 0), (0, 8, 0), (0, 9, 0), (0, 10, 0), (1, 11, 0), (0, 12, 0)] mixed (by kernel_rfl) ?_); simp only [↓List.toList_toArray, ↓rgd, ↓rgf, ↓reduceIte, Nat.reduceEqDiff, rg, ow_78, e0, e1, e5, e8, ht]
      refine hK _ _ ?_; clear hK K
      refine W_false (by simp only [evt, evc, upd_eq, Nat.reduceEqDiff, ↓reduceIte, ntT, ntF] <;> rfl) (W_exit ?_)
      simp only [andThen_exit, inBlk_exit, ↓reduceIte]
      refine ⟨trivial, ?_, ?_, ?_, ?_, X.tr (Ext.dr _ _ _)⟩
      · simp only [upd_eq, Nat.reduceEqDiff, ↓reduceIte]; exact e0
      · simp only [upd_eq, Nat.reduceEqDiff, ↓reduceIte]; rw [e1, hlv]
      · simp only [upd_eq, Nat.reduceEqDiff, ↓reduceIte]; exact e5
      · simp only [upd_eq, Nat.reduceEqDiff, ↓reduceIte]; rw [e8, hil]
  · clear e0 e1 e2 e
    rintro ex e w' ⟨rfl, e0, e1, e5, e8, X⟩
    show W _ _ _ _ _ _
    have sX := X.size
    have X1 := n1.ext.tr X
    by_cases hlt : lb O (rkI ord) (rkI ord x) l < l.length
    · have ht := lt_tt _ l.length hlt
      obtain ⟨y, hy⟩ : ∃ y, l[lb O (rkI ord) (rkI ord x) l]? = some y := ⟨_, List.getElem?_eq_getElem hlt⟩
      obtain ⟨b, o, cap, hlv2, row, hb⟩ := hsome _ hlt
      rw [hlv2] at e1
      have ix := it_at (X.row (n1.ext.row row fun _ _ h => h) fun _ _ h => h) hy
      have bx : rdA w' w.heap.size 0 2 = some (itV x) := (X.row n1.row fun _ _ h => h).rdA 2 (by show 2 ≤ 2; omega)
      have M1 : readsB (some (some [b, w.heap.size])) b = true := by simp [readsB]
      have M2 : readsB (some (some [b, w.heap.size])) w.heap.size = true := by simp [readsB]
      have hhit : hit O (rkI ord) (rkI ord x) l = !O.lt (rkI ord x) ((rkI ord) y) := by unfold hit; rw [hy]
      refine W_sq fun K hK => (W_draw (some (some [b, w.heap.size])) none [(0, 0, 0), (0, 1, 0), (0, 2, 0), (0, 3, 0), (0, 4, 0), (0, 5, 0), (0, 6, 0), (0, 7, 0), (0, 8, 0), (0, 9, 0), (0, 10, 0), (0, 11, 0), (1, 12, 0), (0, 13, 0), (0, 14, 0), (0, 15, 0), (0, 16, 0)] mixed (by kernel_rfl) ?_); simp only [↓List.toList_toArray, ↓rgd, ↓rgf, ↓reduceIte, Nat.reduceEqDiff, rg, ow_78, e0, e1, e5, e8, ht, hlt, ix, bx, M1, M2]
      refine do_call fn_63 (by simp only [evt, evc, upd_eq, Nat.reduceEqDiff, ↓reduceIte, maT, maC, maN, isnN, isnS] <;> rfl) (before_ord os ord x y _ (SlV.ext0 hO ((n1.ext.tr X).tr (Ext.dr noF _ _))) hOb) ?_
      rintro _ w2 ⟨rfl, x2⟩
      refine ⟨.inr (keeps_on x2 fun z hz => ⟨?_, fun _ h => h⟩), ?_⟩
      · rw [sz_dr]
        simp only [List.mem_cons, List.not_mem_nil, or_false] at hz
        omega
      simp only [↓List.toList_toArray, ↓rgd, ↓rgf, ↓reduceIte, Nat.reduceEqDiff, rg, ow_78]
      refine hK _ _ ?_; clear hK K
      refine W_ret (endQ_2 (by simp only [upd_eq, Nat.reduceEqDiff, ↓reduceIte] <;> rfl) (by simp only [upd_eq, Nat.reduceEqDiff, ↓reduceIte] <;> rfl) ⟨by rw [hhit], X1.tr x2.od⟩)
    · have ht := lt_ff (lb O (rkI ord) (rkI ord x) l) l.length (by omega)
      have hhit : hit O (rkI ord) (rkI ord x) l = false := by unfold hit; rw [List.getElem?_eq_none (by omega)]
      rw [hlv] at e1
      refine W_sq fun K hK => (W_draw (some (some [])) none [(0, 0, 0), (0, 1, 0), (0, 2, 0), (0, 3, 0), (0, 4, 0), (0, 5, 0), (0, 6, 0), (0, 7, 0), (0, 8, 0), (0, 9, 0), (0, 10, 0), (0, 11, 0), (1, 12, 0), (0, 13, 0), (0, 14, 0), (0, 15, 0), (0, 16, 0)] mixed (by kernel_rfl) ?_); simp only [↓List.toList_toArray, ↓rgd, ↓rgf, ↓reduceIte, Nat.reduceEqDiff, rg, ow_78, e0, e1, e5, e8, ht]
      refine hK _ _ ?_; clear hK K
      refine W_ret (endQ_2 (by simp only [upd_eq, Nat.reduceEqDiff, ↓reduceIte] <;> rfl) (by simp only [upd_eq, Nat.reduceEqDiff, ↓reduceIte] <;> rfl) ⟨by rw [hhit], X1.tr (Ext.dr _ _ _)⟩)
theorem z_found : zK Try.prog 48 = some [.int .i64 0, .int .i64 0, .bool false] := by kernel_rfl
theorem bu_found0 : buildV Try.prog 48 [] = some (.agg #[.int .i64 0, .int .i64 0, .bool false]) := by kernel_rfl
theorem bu_found1 (x : It) : buildV Try.prog 48 [(0, itV x), (1, .bool true)] = some (.agg #[.int .i64 x.1, .int .i64 x.2, .bool true]) := by kernel_rfl
theorem oc_found0 : oc (Value.agg #[.int .i64 0, .int .i64 0, .bool false]).cells.toList := by
  intro v hv
  have h : v ∈ ([.int .i64 0, .int .i64 0, .bool false] : List Value) := hv
  simp at h
  rcases h with rfl | rfl <;> rfl
theorem oc_found1 (y : It) : oc (Value.agg #[.int .i64 y.1, .int .i64 y.2, .bool true]).cells.toList := by
  intro v hv
  have h : v ∈ ([.int .i64 y.1, .int .i64 y.2, .bool true] : List Value) := hv
  simp at h
  rcases h with rfl | rfl | rfl <;> rfl
/-- What Put hands back beside the list. -/
def fV : Option It → Value
  | some y => .agg #[.int .i64 y.1, .int .i64 y.2, .bool true]
  | none => .agg #[.int .i64 0, .int .i64 0, .bool false]
theorem sl_hi {w : World} {lv : Value} {l : List It} (hl : SlI w lv l) (i : Nat) (hi : i ≤ l.length) : ∃ sv, sliceV Try.prog 25 lv none (some (.int .i64 (i : Nat))) none = some sv ∧ SlV w 2 sv i (flat E (l.take i)) := by
  have hlen : (flat E (l.take i)).length = i * 2 := by rw [flat_length, List.length_take, E_sz]; congr 1; omega
  rcases hl.2 with ⟨rfl, h⟩ | ⟨b, o, cap, rfl, hc, row, hw⟩
  · have h0 : i = 0 := by omega
    exact ⟨.slice none 0 0, by rw [slc_sl, sl_25, slcX_nil _ _ _ h0], hlen, .inl ⟨rfl, h0⟩⟩
  · exact ⟨_, by rw [slc_sl, sl_25, slcX_hi _ _ _ _ _ _ _ (by omega : i ≤ cap)], hlen, .inr ⟨b, o, cap, rfl, by omega, by rw [← flat_take]; exact row.take _, hw⟩⟩
theorem sl_lo {w : World} {lv : Value} {l : List It} (hl : SlI w lv l) (i : Nat) (hi : i ≤ l.length) : ∃ sv, sliceV Try.prog 25 lv (some (.int .i64 (i : Nat))) none none = some sv ∧ SlV w 2 sv (l.length - i) (flat E (l.drop i)) := by
  have hlen : (flat E (l.drop i)).length = (l.length - i) * 2 := by rw [flat_length, List.length_drop, E_sz]
  rcases hl.2 with ⟨rfl, h⟩ | ⟨b, o, cap, rfl, hc, row, hw⟩
  · have h0 : i = 0 := by omega
    exact ⟨.slice none 0 0, by rw [slc_sl, sl_25, slcX_nil_lo _ _ _ h0], hlen, .inl ⟨rfl, by omega⟩⟩
  · have hr : Row w b (o + i * 2) (flat E (l.drop i)) := by rw [← flat_drop]; exact row.drop _
    by_cases hci : cap = i
    · refine ⟨_, by rw [slc_sl, sl_25, slcX_lo _ _ _ _ _ _ _ hi], hlen, .inr ⟨b, o, cap - i, by simp [slFrom, hci], by omega, ?_, hw.mono (by omega) (by omega)⟩⟩
      have : l.drop i = [] := List.drop_eq_nil_of_le (by omega)
      rw [this]; exact Row.nil _ _ _
    · exact ⟨_, by rw [slc_sl, sl_25, slcX_lo _ _ _ _ _ _ _ hi], hlen, .inr ⟨b, o + i * 2, cap - i, by simp [slFrom, hci], by omega, hr, hw.mono (by omega) (by omega)⟩⟩
set_option maxHeartbeats 1000000 in
set_option maxRecDepth 8000 in
theorem sput_ord (os : Value) (ord : List Int) (l : List It) (lv : Value) (x : It) (w : World) (hO : SlInt w os ord) (hOb : ord.length ≤ 2147483647) (hl : SlI w lv l) (hbig : l.length ≤ 2147483648) :
    CallK Try.prog 74 #[os, lv, itV x] w fun v w' => ∃ sv, v = .tuple #[sv, fV (at? O (rkI ord) (rkI ord x) l)] ∧ SlI w' sv (put O (rkI ord) x l) ∧ Ext noF w w' ∧ since w.heap.size sv := by
  refine calls_of_W [.tmp 6, .cell 7 48] Try.func74 rfl Try.ntmps74 Try.results74 (by simp) fun e he => ?_
  have e0 : e 0 = os := he 0 _ rfl
  have e1 : e 1 = lv := he 1 _ rfl
  have e2 : e 2 = itV x := he 2 _ rfl
  clear he
  have hlbl := lb_le O (rkI ord) (rkI ord x) l
  refine W_sq fun K hK => (W_text [false, true, false] (by kernel_rfl) ?_); simp only [↓List.toList_toArray, ↓rgd, ↓rgf, ↓reduceIte, Nat.reduceEqDiff, rg, ow_74]
  refine do_box (by simp only [evt]; exact e2) fun w1 n1 => ⟨trivial, ?_⟩
  simp only [↓List.toList_toArray, ↓rgd, ↓rgf, ↓reduceIte, Nat.reduceEqDiff, rg, ow_74]
  refine do_alloc z_found fun w2 n2 => ⟨trivial, ?_⟩
  simp only [↓List.toList_toArray, ↓rgd, ↓rgf, ↓reduceIte, Nat.reduceEqDiff, rg, ow_74]
  refine hK _ _ ?_; clear hK K
  have s1 := n1.size
  have s2 := n2.size
  have X2 := n1.ext.tr n2.ext
  have bx2 : rdA w2 w.heap.size 0 2 = some (itV x) := (n2.ext.row n1.row fun _ _ h => h).rdA 2 (by show 2 ≤ 2; omega)
  refine W_sq fun K hK => (W_text [true, true, true, false, true, true, true, true, true] (by kernel_rfl) ?_); simp only [↓List.toList_toArray, ↓rgd, ↓rgf, ↓reduceIte, Nat.reduceEqDiff, rg, ow_74, e0, e1, bx2]
  refine do_call fn_78 (by simp only [evt, evc, upd_eq, Nat.reduceEqDiff, ↓reduceIte, maT, maC, maN, isnN, isnS] <;> rfl) (place_ord os ord l lv x w2 (SlV.ext0 hO X2) hOb (SlV.ext0 hl X2) hbig) ?_
  rintro _ w3 ⟨rfl, x3⟩
  refine ⟨trivial, ?_⟩
  simp only [↓List.toList_toArray, ↓rgd, ↓rgf, ↓reduceIte, Nat.reduceEqDiff, rg, ow_74]
  refine hK _ _ ?_; clear hK K
  have s3 := x3.size
  have X3 := X2.tr x3
  have bx3 : rdA w3 w.heap.size 0 2 = some (itV x) := (x3.row (n2.ext.row n1.row fun _ _ h => h) fun _ _ h => h).rdA 2 (by show 2 ≤ 2; omega)
  generalize hi : lb O (rkI ord) (rkI ord x) l = i at *
  have hl3 := SlV.ext0 hl X3
  obtain ⟨sv1, hs1, hsv1⟩ := sl_hi hl3 i hlbl
  have hz2 : ∀ v ∈ ([.int .i64 0, .int .i64 0] : List Value), v.oneCell' = true := by intro v hv; simp at hv; subst hv; rfl
  refine W_sq fun K hK => (W_text [false, true, true, true, false, true] (by kernel_rfl) ?_); simp only [↓List.toList_toArray, ↓rgd, ↓rgf, ↓reduceIte, Nat.reduceEqDiff, rg, ow_74, e1]
  refine do_bsl rfl bs_it0 fun w4 n4 => ⟨trivial, ?_⟩
  simp only [↓List.toList_toArray, ↓rgd, ↓rgf, ↓reduceIte, Nat.reduceEqDiff, rg, ow_74, e1, hs1]
  have s4 := n4.size
  have hv4 : SlV w4 2 (.slice (some ⟨w3.heap.size, 0, none⟩) 0 0) 0 [] := ⟨rfl, .inr ⟨_, 0, 0, rfl, Nat.le_refl _, Row.nil _ _ _, n4.wok.R (Nat.le_refl _)⟩⟩
  refine do_append (by simp only [evt, evc, upd_eq, Nat.reduceEqDiff, ↓reduceIte, ntT, ntF] <;> rfl) (by simp only [evt, evc, upd_eq, Nat.reduceEqDiff, ↓reduceIte, ntT, ntF] <;> rfl) el_it rfl ni_25 hv4 (hsv1.ext0 n4.ext) (by omega) (by decide) (flat_oc E _) fun v5 w5 a5 => ⟨trivial, ?_⟩
  obtain ⟨hs5, hg5, x5⟩ := app_since (B := w3.heap.size) a5 (fun b o n c h => by simp only [Value.slice.injEq, Option.some.injEq, Addr.mk.injEq] at h; omega) (by omega)
  simp only [↓List.toList_toArray, ↓rgd, ↓rgf, ↓reduceIte, Nat.reduceEqDiff, rg, ow_74]
  refine hK _ _ ?_; clear hK K
  have s5 := x5.size
  have X5 : Ext noF w w5 := noF_of (X3.tr n4.ext) x5 fun y o hy g => by omega
  have bx5 : rdA w5 w.heap.size 0 2 = some (itV x) := (X5.tr (Ext.refl _ _) |> fun _ => x5.row (n4.ext.row (x3.row (n2.ext.row n1.row fun _ _ h => h) fun _ _ h => h) fun _ _ h => h) fun j _ g => by omega).rdA 2 (by show 2 ≤ 2; omega)
  rw [Nat.zero_add, List.nil_append] at hs5
  refine W_sq fun K hK => (W_text [true, true, false, false, true] (by kernel_rfl) ?_); simp only [↓List.toList_toArray, ↓rgd, ↓rgf, ↓reduceIte, Nat.reduceEqDiff, rg, ow_74, bx5]
  refine do_bsl rfl (bs_it1 x) fun w6 n6 => ⟨trivial, ?_⟩
  simp only [↓List.toList_toArray, ↓rgd, ↓rgf, ↓reduceIte, Nat.reduceEqDiff, rg, ow_74]
  have s6 := n6.size
  have hv6 : SlV w6 2 (.slice (some ⟨w5.heap.size, 0, none⟩) 1 1) 1 (E.cel x) := ⟨rfl, .inr ⟨_, 0, 1, rfl, Nat.le_refl _, n6.row, n6.wok.R (Nat.le_refl _)⟩⟩
  refine do_append (by simp only [evt, evc, upd_eq, Nat.reduceEqDiff, ↓reduceIte, ntT, ntF] <;> rfl) (by simp only [evt, evc, upd_eq, Nat.reduceEqDiff, ↓reduceIte, ntT, ntF] <;> rfl) el_it rfl ni_25 (hs5.ext0 n6.ext) hv6 (by omega) (by decide) (E.one x) fun v7 w7 a7 => ⟨trivial, ?_⟩
  obtain ⟨hs7, hg7, x7⟩ := app_since (B := w3.heap.size) a7 hg5 (by omega)
  simp only [↓List.toList_toArray, ↓rgd, ↓rgf, ↓reduceIte, Nat.reduceEqDiff, rg, ow_74]
  refine hK _ _ ?_; clear hK K
  have s7 := x7.size
  have X7 : Ext noF w w7 := noF_of (X5.tr n6.ext) x7 fun y o hy g => by omega
  refine W_seq ?_
  refine W_sq fun K hK => (W_text [true] (by kernel_rfl) ?_); simp only [↓List.toList_toArray, ↓rgd, ↓rgf, ↓reduceIte, Nat.reduceEqDiff, rg, ow_74]
  refine hK _ _ ?_; clear hK K
  have fr7 : Row w7 w1.heap.size 0 [.int .i64 0, .int .i64 0, .bool false] := x7.row (n6.ext.row (x5.row (n4.ext.row (x3.row n2.row fun _ _ h => h) fun _ _ h => h) fun j _ g => by omega) fun _ _ h => h) fun j _ g => by omega
  have fw7 : wok w7 w1.heap.size 3 := x7.wok (n6.ext.wok (x5.wok (n4.ext.wok (x3.wok n2.wok))))
  cases hh : hit O (rkI ord) (rkI ord x) l with
  | false =>
    refine W_false (by simp only [evt, evc, upd_eq, Nat.reduceEqDiff, ↓reduceIte, ntT, ntF] <;> rfl) (W_skip ?_)
    show W _ _ _ _ _ _
    obtain ⟨sv2, hs2, hsv2⟩ := sl_lo (SlV.ext0 hl X7) i hlbl
    refine W_sq fun K hK => (W_text [true, true, true, true, false, true, true, false] (by kernel_rfl) ?_); simp only [↓List.toList_toArray, ↓rgd, ↓rgf, ↓reduceIte, Nat.reduceEqDiff, rg, ow_74, e1, hs2]
    refine do_append (by simp only [evt, evc, upd_eq, Nat.reduceEqDiff, ↓reduceIte, ntT, ntF] <;> rfl) (by simp only [evt, evc, upd_eq, Nat.reduceEqDiff, ↓reduceIte, ntT, ntF] <;> rfl) el_it rfl ni_25 hs7 hsv2 (by omega) (by decide) (flat_oc E _) fun v8 w8 a8 => ⟨trivial, ?_⟩
    obtain ⟨hs8, hg8, x8⟩ := app_since (B := w3.heap.size) a8 hg7 (by omega)
    simp only [↓List.toList_toArray, ↓rgd, ↓rgf, ↓reduceIte, Nat.reduceEqDiff, rg, ow_74, bu_found0]
    have s8 := x8.size
    refine do_store (by simp only [evt, evc, upd_eq, Nat.reduceEqDiff, ↓reduceIte, ntT, ntF] <;> rfl) (by simp only [evt, evc, upd_eq, Nat.reduceEqDiff, ↓reduceIte, ntT, ntF] <;> rfl) sz_48 rfl (x8.wok fw7) (by decide) oc_found0 fun w9 x9 r9 s9 => ⟨trivial, ?_⟩
    simp only [↓List.toList_toArray, ↓rgd, ↓rgf, ↓reduceIte, Nat.reduceEqDiff, rg, ow_74]
    refine hK _ _ ?_; clear hK K
    have hat : at? O (rkI ord) (rkI ord x) l = none := by unfold at?; rw [hh]; rfl
    have hp := put_leaf O (rkI ord) hh
    rw [hi] at hp
    have hs9 := hs8.ext x9 fun b o c hb j _ g => by have := hg8 _ _ _ _ hb; simp only [rng] at g; omega
    have hlen : (put O (rkI ord) x l).length = i + 1 + (l.length - i) := by rw [put_length, hh]; simp; omega
    have X9 : Ext noF w w9 := noF_of (noF_of X7 x8 fun y o hy g => by omega) x9 fun y o hy g => by simp only [rng] at g; omega
    refine W_ret (endQ_tc (by simp only [upd_eq, Nat.reduceEqDiff, ↓reduceIte] <;> rfl) (by simp only [upd_eq, Nat.reduceEqDiff, ↓reduceIte] <;> rfl) ld_48 (r9.rdA 3 (by show 3 ≤ 3; omega)) ⟨_, by rw [hat]; rfl, ?_, X9, fun b o k c hb => by have := hg8 _ _ _ _ hb; omega⟩)
    have he : flat E (l.take i) ++ E.cel x ++ flat E (l.drop i) = flat E (put O (rkI ord) x l) := by rw [hp, flat_append, flat_cons, List.append_assoc]
    show SlV w9 2 _ (put O (rkI ord) x l).length _
    rw [hlen, ← he]; exact hs9
  | true =>
    refine W_true (by simp only [evt, evc, upd_eq, Nat.reduceEqDiff, ↓reduceIte, ntT, ntF] <;> rfl) ?_
    obtain ⟨y, hy, hxy⟩ := hit_at O (rkI ord) hh
    rw [hi] at hy
    have hil := (List.getElem?_eq_some_iff.1 hy).1
    obtain ⟨sv2, hs2, hsv2⟩ := sl_lo (SlV.ext0 hl X7) (i + 1) hil
    have q1 := wadd1 i (by omega)
    obtain ⟨b, o, cap, hlv2, row, hb⟩ : ∃ b o cap, lv = .slice (some ⟨b, o, none⟩) l.length cap ∧ Row w b o (flat E l) ∧ b < w.heap.size := by
      rcases hl.2 with ⟨_, h⟩ | ⟨b, o, cap, h1, _, h2, h3⟩
      · omega
      · exact ⟨b, o, cap, h1, h2, wokR_lt h3⟩
    rw [hlv2] at hs2 e1
    have ix := it_at (X7.row row fun _ _ h => h) hy
    have M1 : readsB (some (some [b])) b = true := by simp [readsB]
    rw [slc_sl, sl_25] at hs2
    refine W_sq fun K hK => (W_draw (some (some [b])) (some 12) [(0, 0, 0), (0, 1, 0), (0, 2, 0), (0, 3, 0), (0, 4, 0), (0, 6, 0), (0, 7, 0), (0, 8, 0), (0, 9, 0), (0, 10, 0), (1, 5, 0), (0, 11, 0), (1, 12, 0)] mixed (by kernel_rfl) ?_); simp only [↓List.toList_toArray, ↓rgd, ↓rgf, ↓reduceIte, Nat.reduceEqDiff, rg, ow_74, e1, q1, hs2, hil, ix, M1, bu_found1]
    have s3' := X3.size
    refine do_append (by simp only [evt, evc, upd_eq, Nat.reduceEqDiff, ↓reduceIte, ntT, ntF] <;> rfl) (by simp only [evt, evc, upd_eq, Nat.reduceEqDiff, ↓reduceIte, ntT, ntF] <;> rfl) el_it rfl ni_25 hs7 hsv2 (by omega) (by decide) (flat_oc E _) fun v8 w8 a8 => ?_
    obtain ⟨hs8, hg8, x8'⟩ := app_since (B := w3.heap.size) a8 hg7 (by rw [sz_dr]; omega)
    refine ⟨.inr (keeps_on x8' fun z hz => ?_), ?_⟩
    · rw [sz_dr]
      simp only [List.mem_cons, List.not_mem_nil, or_false] at hz
      subst hz
      exact ⟨by omega, fun _ g => by omega⟩
    have x8 := x8'.od
    simp only [↓List.toList_toArray, ↓rgd, ↓rgf, ↓reduceIte, Nat.reduceEqDiff, rg, ow_74, bu_found1]
    have s8 := x8.size
    refine do_store (by simp only [evt, evc, upd_eq, Nat.reduceEqDiff, ↓reduceIte, ntT, ntF] <;> rfl) (by simp only [evt, evc, upd_eq, Nat.reduceEqDiff, ↓reduceIte, ntT, ntF] <;> rfl) sz_48 rfl (x8.wok fw7) (by decide) (oc_found1 y) fun w9 x9 r9 s9 => ⟨.inl trivial, ?_⟩
    simp only [↓List.toList_toArray, ↓rgd, ↓rgf, ↓reduceIte, Nat.reduceEqDiff, rg, ow_74]
    refine hK _ _ ?_; clear hK K
    have hat : at? O (rkI ord) (rkI ord x) l = some y := by unfold at?; rw [hh, hi, hy]; rfl
    have hp := put_set O (rkI ord) hh
    rw [hi, List.set_eq_take_append_cons_drop, if_pos hil] at hp
    have hs9 := hs8.ext x9 fun b o c hb j _ g => by have := hg8 _ _ _ _ hb; simp only [rng] at g; omega
    have hlen : (put O (rkI ord) x l).length = i + 1 + (l.length - (i + 1)) := by rw [put_length, hh]; simp; omega
    have X9 : Ext noF w w9 := noF_of (noF_of X7 x8 fun y o hy g => by omega) x9 fun y o hy g => by simp only [rng] at g; omega
    refine W_ret ?_
    simp only [andThen_ret]
    refine endQ_tc (by simp only [upd_eq, Nat.reduceEqDiff, ↓reduceIte] <;> rfl) (by simp only [upd_eq, Nat.reduceEqDiff, ↓reduceIte] <;> rfl) ld_48 (r9.rdA 3 (by show 3 ≤ 3; omega)) ⟨_, by rw [hat]; rfl, ?_, X9, fun b o k c hb => by have := hg8 _ _ _ _ hb; omega⟩
    have he : flat E (l.take i) ++ E.cel x ++ flat E (l.drop (i + 1)) = flat E (put O (rkI ord) x l) := by rw [hp, flat_append, flat_cons, List.append_assoc]
    show SlV w9 2 _ (put O (rkI ord) x l).length _
    rw [hlen, ← he]; exact hs9
set_option maxHeartbeats 400000 in
set_option maxRecDepth 8000 in
theorem stree_ord (os : Value) (ord : List Int) (l : List It) (lv : Value) (w : World) (hO : SlInt w os ord) (hOb : ord.length ≤ 2147483647) (hl : SlI w lv l) (hbig : l.length ≤ 2147483647) :
    CallK Try.prog 47 #[os, lv] w fun v w' => SlI w' v (treeG ord l) ∧ Ext noF w w' := by
  refine calls_of_W [.tmp 4] Try.func47 rfl Try.ntmps47 Try.results47 (by simp) fun e he => ?_
  have e0 : e 0 = os := he 0 _ rfl
  have e1 : e 1 = lv := he 1 _ rfl
  clear he
  obtain ⟨a, c, hlv⟩ : ∃ a c, lv = .slice a l.length c := by
    rcases hl.2 with ⟨rfl, h⟩ | ⟨b, o, cap, rfl, _⟩
    · exact ⟨none, 0, by rw [h]⟩
    · exact ⟨_, _, rfl⟩
  refine W_sq fun K hK => (W_text [true] (by kernel_rfl) ?_); simp only [↓List.toList_toArray, ↓rgd, ↓rgf, ↓reduceIte, Nat.reduceEqDiff, rg, ow_47]
  refine hK _ _ ?_; clear hK K
  refine W_sq fun K hK => (W_text [true] (by kernel_rfl) ?_); simp only [↓List.toList_toArray, ↓rgd, ↓rgf, ↓reduceIte, Nat.reduceEqDiff, rg, ow_47]
  refine hK _ _ ?_; clear hK K
  refine W_seq (W_seq ?_)
  refine W_rg fun K hK => (W_text [true, true, true] (by kernel_rfl) ?_); simp only [↓List.toList_toArray, ↓rgd, ↓rgf, ↓reduceIte, Nat.reduceEqDiff, rg, ow_47, e1, hlv]
  refine hK _ _ ?_; clear hK K
  show W _ _ _ _ _ _
  refine W_block (W_loop (fun mm e w' => ∃ i : Nat, mm = l.length - i ∧ i ≤ l.length ∧ e 8 = lv ∧ e 0 = os ∧ e 9 = .int .i64 l.length ∧ e 10 = .int .i64 i ∧ Ext noF w w' ∧ SlI w' (e 5) (treeG ord (l.take i)))
    l.length ⟨0, by simp, by simp, ?_, ?_, ?_, ?_, Ext.refl _ _, ?_⟩ ?_)
  · simp only [upd_eq, Nat.reduceEqDiff, ↓reduceIte]; rw [hlv]
  · simp only [upd_eq, Nat.reduceEqDiff, ↓reduceIte]; exact e0
  · simp only [upd_eq, Nat.reduceEqDiff, ↓reduceIte]
  · simp only [upd_eq, Nat.reduceEqDiff, ↓reduceIte]; rfl
  · simp only [upd_eq, Nat.reduceEqDiff, ↓reduceIte]; exact ⟨rfl, .inl ⟨rfl, rfl⟩⟩
  · clear e0 e1 e
    rintro mm e w' ⟨i, rfl, hi, e8, e0, e9, e10, X, hS⟩
    by_cases hlt : i < l.length
    · have ht := lt_tt i l.length hlt
      refine W_sq fun K hK => (W_text [true] (by kernel_rfl) ?_); simp only [↓List.toList_toArray, ↓rgd, ↓rgf, ↓reduceIte, Nat.reduceEqDiff, rg, ow_47, e9, e10, ht]
      refine hK _ _ ?_; clear hK K
      refine W_seq (W_true (by simp only [evt, evc, upd_eq, Nat.reduceEqDiff, ↓reduceIte, ntT, ntF] <;> rfl) (W_skip ?_))
      show W _ _ _ _ _ _
      obtain ⟨x, hx⟩ : ∃ x, l[i]? = some x := ⟨_, List.getElem?_eq_getElem hlt⟩
      obtain ⟨lb, lo, cap, rfl, hlc, row, wl⟩ : ∃ b o cap, lv = .slice (some ⟨b, o, none⟩) l.length cap ∧ l.length ≤ cap ∧ Row w b o (flat E l) ∧ wokR w b o (cap * 2) := by
        rcases hl.2 with ⟨_, h⟩ | h
        · omega
        · exact h
      have ix := it_at (X.row row fun _ _ h => h) hx
      refine W_seq (W_block ?_)
      refine W_sq fun K hK => (W_text [true, true, false, false] (by kernel_rfl) ?_); simp only [↓List.toList_toArray, ↓rgd, ↓rgf, ↓reduceIte, Nat.reduceEqDiff, rg, ow_47, e8, e10, hlt, ix]
      refine do_alloc z_it fun w2 n2 => ⟨trivial, ?_⟩
      simp only [↓List.toList_toArray, ↓rgd, ↓rgf, ↓reduceIte, Nat.reduceEqDiff, rg, ow_47]
      refine do_store (v := itV x) (by simp only [evt, evc, upd_eq, Nat.reduceEqDiff, ↓reduceIte, ntT, ntF] <;> rfl) (by simp only [evt, evc, upd_eq, Nat.reduceEqDiff, ↓reduceIte, ntT, ntF] <;> rfl) sz_38 rfl n2.wok (by decide) (E.one x) fun w3 x3 r3 s3 => ⟨trivial, ?_⟩
      simp only [↓List.toList_toArray, ↓rgd, ↓rgf, ↓reduceIte, Nat.reduceEqDiff, rg, ow_47]
      refine hK _ _ ?_; clear hK K
      have X3 : Ext noF w' w3 := noF_of n2.ext x3 fun y o hy h => by simp only [rng] at h; omega
      have bx : rdA w3 w'.heap.size 0 2 = some (itV x) := r3.rdA 2 (by show 2 ≤ 2; omega)
      have htl := treeG_len ord (l.take i)
      have htk : (l.take i).length ≤ i := by rw [List.length_take]; omega
      refine W_rg fun K hK => (W_text [true, true, true, false, true, true, true, true] (by kernel_rfl) ?_); simp only [↓List.toList_toArray, ↓rgd, ↓rgf, ↓reduceIte, Nat.reduceEqDiff, rg, ow_47, e0, bx]
      refine do_call fn_74 (by simp only [evt, evc, upd_eq, Nat.reduceEqDiff, ↓reduceIte, maT, maC, maN, isnN, isnS] <;> rfl) (sput_ord os ord (treeG ord (l.take i)) (e 5) x w3 (SlV.ext0 hO (X.tr X3)) hOb (SlV.ext0 hS X3) (by omega)) ?_
      rintro _ w4 ⟨sv, rfl, hS4, x4, -⟩
      refine ⟨trivial, ?_⟩
      simp only [↓List.toList_toArray, ↓rgd, ↓rgf, ↓reduceIte, Nat.reduceEqDiff, rg, ow_47]
      refine hK _ _ ?_; clear hK K
      show W _ _ _ _ _ _
      have q1 := wadd1 i (by omega)
      refine W_rg fun K hK => (W_text [true, true] (by kernel_rfl) ?_); simp only [↓List.toList_toArray, ↓rgd, ↓rgf, ↓reduceIte, Nat.reduceEqDiff, rg, ow_47, e10, q1]
      refine hK _ _ ?_; clear hK K
      refine ⟨_, ?_, i + 1, rfl, hlt, ?_, ?_, ?_, ?_, (X.tr X3).tr x4, ?_⟩
      · omega
      · simp only [upd_eq, Nat.reduceEqDiff, ↓reduceIte]; exact e8
      · simp only [upd_eq, Nat.reduceEqDiff, ↓reduceIte]; exact e0
      · simp only [upd_eq, Nat.reduceEqDiff, ↓reduceIte]; exact e9
      · simp only [upd_eq, Nat.reduceEqDiff, ↓reduceIte]
      · simp only [upd_eq, Nat.reduceEqDiff, ↓reduceIte]; rw [treeG_succ ord l i x hx]; exact hS4
    · obtain rfl : i = l.length := by omega
      have ht := lt_ff l.length l.length (by omega)
      refine W_sq fun K hK => (W_text [true] (by kernel_rfl) ?_); simp only [↓List.toList_toArray, ↓rgd, ↓rgf, ↓reduceIte, Nat.reduceEqDiff, rg, ow_47, e9, e10, ht]
      refine hK _ _ ?_; clear hK K
      refine W_seq (W_false (by simp only [evt, evc, upd_eq, Nat.reduceEqDiff, ↓reduceIte, ntT, ntF] <;> rfl) (W_exit ?_))
      simp only [andThen_exit, inBlk_exit, andThen_normal, ↓reduceIte]
      refine W_sq fun K hK => (W_text [true, true] (by kernel_rfl) ?_); simp only [↓List.toList_toArray, ↓rgd, ↓rgf, ↓reduceIte, Nat.reduceEqDiff, rg, ow_47]
      refine hK _ _ ?_; clear hK K
      rw [List.take_length] at hS
      exact W_ret (endQ_1 (by simp only [upd_eq, Nat.reduceEqDiff, ↓reduceIte] <;> rfl) ⟨hS, X⟩)
end Go.Proofs.Ytdffddiaoheklaa
