/-
  The order of a tree's items: the rank of a key; the function value that compares two items. No condition.
-/
import Derived.Test.YtdffddiaoheklaaMCfg
import Derived.Test.YtdffddiaoheklaaApp
set_option linter.unusedSimpArgs false
set_option linter.unusedVariables false
namespace Go.Proofs.Ytdffddiaoheklaa
open Go Go.Proofs
/-- The cells of a list of numbers. -/
def ints (l : List Int) : List Value := l.map (Value.int .i64)
theorem rem_any (n : Int) (b : Nat) (hb : 0 < b) (hb' : b ≤ 2147483647) (w : World) :
    CallK Try.prog 116 #[.int .i64 n, .int .i64 b] w fun v w' => v = .int .i64 ((n.tmod b + b).tmod b) ∧ w = w' := by
  refine calls_of_W [.tmp 4] Try.func116 rfl Try.ntmps116 Try.results116 (by simp) fun e he => ?_
  have e0 : e 0 = .int .i64 n := he 0 _ rfl
  have e1 : e 1 = .int .i64 b := he 1 _ rfl
  clear he
  have hz : ((b : Int) = 0) = False := eq_false (by omega)
  have h1 := Int.tmod_lt_of_pos n (b := (b : Int)) (by omega)
  have h2 : -(b : Int) < n.tmod b := by have := Int.lt_tmod_of_pos n (b := (b : Int)) (by omega); omega
  have q1 : IntKind.i64.wrap (n.tmod b + b) = n.tmod b + b := IntWalk.i64_in _ (by omega)
  refine W_sq fun K0 hK => (W_text [true] (by kernel_rfl) ?_); simp only [↓List.toList_toArray, ↓rgd, ↓rgf, ↓reduceIte, Nat.reduceEqDiff, rg, ow_116]
  refine hK _ _ ?_; clear hK K0
  refine W_sq fun K0 hK => (W_text [true, true, true, true, true, true, true, true] (by kernel_rfl) ?_); simp only [↓List.toList_toArray, ↓rgd, ↓rgf, ↓reduceIte, Nat.reduceEqDiff, rg, ow_116, e0, e1, bv_rem _ _ _ _ hz, q1]
  refine hK _ _ ?_; clear hK K0
  exact W_ret (endQ_1 (by simp only [upd_eq, Nat.reduceEqDiff, ↓reduceIte] <;> rfl) ⟨rfl, rfl⟩)
theorem rem_nat (n : Int) (b : Nat) (hb : 0 < b) : ∃ j : Nat, (n.tmod b + b).tmod b = (j : Int) ∧ j < b := by
  have h2 : -(b : Int) < n.tmod b := by have := Int.lt_tmod_of_pos n (b := (b : Int)) (by omega); omega
  have h3 := Int.tmod_nonneg (b : Int) (a := n.tmod b + b) (by omega)
  have h4 := Int.tmod_lt_of_pos (n.tmod b + b) (b := (b : Int)) (by omega)
  exact ⟨((n.tmod b + b).tmod b).toNat, by omega, by omega⟩
set_option maxHeartbeats 400000 in
set_option maxRecDepth 8000 in
theorem rank_any (sv : Value) (ord : List Int) (k : Int) (w : World) (hs : SlV w 1 sv ord.length (ints ord)) (hl : ord.length ≤ 2147483647) :
    CallK Try.prog 104 #[sv, .int .i64 k] w fun v w' => v = .int .i64 (rk ord k) ∧ w = w' := by
  obtain ⟨a, cp, hsv⟩ := hs.shape
  refine calls_of_W [.tmp 4] Try.func104 rfl Try.ntmps104 Try.results104 (by simp) fun e he => ?_
  have e0 : e 0 = .slice a ord.length cp := (he 0 _ rfl).trans hsv
  have e1 : e 1 = .int .i64 k := he 1 _ rfl
  clear he
  refine W_sq fun K0 hK => (W_text [true] (by kernel_rfl) ?_); simp only [↓List.toList_toArray, ↓rgd, ↓rgf, ↓reduceIte, Nat.reduceEqDiff, rg, ow_104]
  refine hK _ _ ?_; clear hK K0
  refine W_seq ?_
  by_cases h0 : ord = []
  · have t1 : ((ord.length : Int) == 0) = true := by rw [h0]; rfl
    refine W_sq fun K0 hK => (W_text [true, true, true] (by kernel_rfl) ?_); simp only [↓List.toList_toArray, ↓rgd, ↓rgf, ↓reduceIte, Nat.reduceEqDiff, rg, ow_104, e0, t1]
    refine hK _ _ ?_; clear hK K0
    refine W_true (by simp only [evt, evc, upd_eq, Nat.reduceEqDiff, ↓reduceIte, ntT, ntF] <;> rfl) ?_
    refine W_sq fun K0 hK => (W_text [true, true] (by kernel_rfl) ?_); simp only [↓List.toList_toArray, ↓rgd, ↓rgf, ↓reduceIte, Nat.reduceEqDiff, rg, ow_104, e1]
    refine hK _ _ ?_; clear hK K0
    refine W_ret ?_
    simp only [andThen_ret]
    exact endQ_1 (by simp only [upd_eq, Nat.reduceEqDiff, ↓reduceIte] <;> rfl) ⟨by rw [rk, if_pos h0], rfl⟩
  · have hp : 0 < ord.length := List.length_pos_iff.2 h0
    have t1 : ((ord.length : Int) == 0) = false := by simp; omega
    refine W_sq fun K0 hK => (W_text [true, true, true] (by kernel_rfl) ?_); simp only [↓List.toList_toArray, ↓rgd, ↓rgf, ↓reduceIte, Nat.reduceEqDiff, rg, ow_104, e0, t1]
    refine hK _ _ ?_; clear hK K0
    refine W_false (by simp only [evt, evc, upd_eq, Nat.reduceEqDiff, ↓reduceIte, ntT, ntF] <;> rfl) (W_skip ?_)
    show W _ _ _ _ _ _
    refine W_sq fun K0 hK => (W_text [true, true, true, true, false, true, true, true] (by kernel_rfl) ?_); simp only [↓List.toList_toArray, ↓rgd, ↓rgf, ↓reduceIte, Nat.reduceEqDiff, rg, ow_104, e0, e1]
    refine do_call fn_116 (by simp only [evt, evc, upd_eq, Nat.reduceEqDiff, ↓reduceIte, maT, maC, maN, isnN, isnS] <;> rfl) (rem_any k ord.length hp hl w) ?_
    rintro _ _ ⟨rfl, rfl⟩
    refine ⟨trivial, ?_⟩
    obtain ⟨j, hj, hjl⟩ := rem_nat k ord.length hp
    obtain ⟨b, o, ha, row⟩ := hs.at hsv hjl
    subst ha
    have hr : rd w b (o + j) = some (.int .i64 (rk ord k)) := by
      refine row _ _ ?_
      rw [ints, List.getElem?_map, List.getElem?_eq_getElem hjl]
      simp only [Option.map_some, Option.some.injEq, Value.int.injEq, true_and]
      rw [rk, if_neg h0, hj, Int.toNat_natCast, List.getElem?_eq_getElem hjl]
      rfl
    simp only [↓List.toList_toArray, ↓rgd, ↓rgf, ↓reduceIte, Nat.reduceEqDiff, rg, ow_104, hj, hjl, hr]
    refine hK _ _ ?_; clear hK K0
    exact W_ret (endQ_1 (by simp only [upd_eq, Nat.reduceEqDiff, ↓reduceIte] <;> rfl) ⟨rfl, rfl⟩)
/-- The function value lv compares items by the ranks of their keys; what it reads lies in blocks from B on that are older than M. -/
structure LessAt (B M : Nat) (w : World) (lv : Value) (ord : List Int) : Prop where
  ex : ∃ c sv, lv = .func (.func 103) #[] #[ptr c] ∧ (B ≤ c ∧ c < M) ∧ rd w c 0 = some sv ∧ SlV w 1 sv ord.length (ints ord) ∧ ∀ b o n cp, sv = .slice (some ⟨b, o, none⟩) n cp → B ≤ b ∧ b < M
  small : ord.length ≤ 2147483647
theorem SlV.extB {w w' : World} {G : Nat → Nat → Prop} {sz n : Nat} {v : Value} {l : List Value} (h : SlV w sz v n l) (x : Ext G w w') (hG : ∀ b o n cp, v = .slice (some ⟨b, o, none⟩) n cp → ∀ p, ¬ G b p) : SlV w' sz v n l := by
  refine ⟨h.1, h.2.imp id fun ⟨b, o, cap, h1, h2, h3, h4⟩ => ⟨b, o, cap, h1, h2, x.row h3 fun i _ => hG _ _ _ _ h1 _, x.wokR h4⟩⟩
theorem LessAt.ext {B M : Nat} {w w' : World} {G : Nat → Nat → Prop} {lv : Value} {ord : List Int} (h : LessAt B M w lv ord) (x : Ext G w w') (hG : ∀ y o, G y o → M ≤ y ∨ y < B) : LessAt B M w' lv ord := by
  obtain ⟨c, sv, h1, h2, h3, h4, h5⟩ := h.ex
  exact ⟨⟨c, sv, h1, h2, x.rd h3 fun g => by have := hG _ _ g; omega, h4.extB x fun b o n cp hv p g => by have := hG _ _ g; have := h5 _ _ _ _ hv; omega, h5⟩, h.small⟩
theorem LessAt.mono {B M M' : Nat} {w : World} {lv : Value} {ord : List Int} (h : LessAt B M w lv ord) (hM : M ≤ M') : LessAt B M' w lv ord := by
  obtain ⟨c, sv, h1, h2, h3, h4, h5⟩ := h.ex
  exact ⟨⟨c, sv, h1, ⟨h2.1, Nat.lt_of_lt_of_le h2.2 hM⟩, h3, h4, fun b o n cp hv => ⟨(h5 b o n cp hv).1, Nat.lt_of_lt_of_le (h5 b o n cp hv).2 hM⟩⟩, h.small⟩
theorem fn_before : isFn Try.prog 103 = true := by kernel_rfl
set_option maxHeartbeats 400000 in
set_option maxRecDepth 8000 in
theorem before_any (B : Nat) {M : Nat} (lv : Value) (ord : List Int) (a b : It) (w : World) (h : LessAt B M w lv ord) :
    CallV Try.prog lv #[itV a, itV b] w fun v w' => v = .bool (O.lt (rkI ord a) (rkI ord b)) ∧ Ext noF w w' := by
  obtain ⟨c, sv, rfl, h2, h3, h4, h5⟩ := h.ex
  refine ⟨fn_before, ?_⟩
  refine calls_of_W (args := [itV a, itV b, ptr c]) [.tmp 5] Try.func103 rfl Try.ntmps103 Try.results103 (by simp) fun e he => ?_
  have e0 : e 0 = itV a := he 0 _ rfl
  have e1 : e 1 = itV b := he 1 _ rfl
  have e2 : e 2 = ptr c := he 2 _ rfl
  clear he
  refine W_sq fun K0 hK => (W_text [false, false, true] (by kernel_rfl) ?_); simp only [↓List.toList_toArray, ↓rgd, ↓rgf, ↓reduceIte, Nat.reduceEqDiff, rg, ow_103]
  refine do_box (by simp only [evt]; exact e0) fun w1 n1 => ⟨trivial, ?_⟩
  simp only [↓List.toList_toArray, ↓rgd, ↓rgf, ↓reduceIte, Nat.reduceEqDiff, rg, ow_103]
  refine do_box (by simp only [evt, upd_eq, Nat.reduceEqDiff, ↓reduceIte]; exact e1) fun w2 n2 => ⟨trivial, ?_⟩
  simp only [↓List.toList_toArray, ↓rgd, ↓rgf, ↓reduceIte, Nat.reduceEqDiff, rg, ow_103]
  refine hK _ _ ?_; clear hK K0
  have s1 := n1.size
  have X2 : Ext noF w w2 := n1.ext.tr n2.ext
  have ra : rd w2 w.heap.size 0 = some (.int .i64 a.1) := n2.ext.rd (Row.cons.1 n1.row).1 fun h => h
  have rb : rd w2 w1.heap.size 0 = some (.int .i64 b.1) := (Row.cons.1 n2.row).1
  have hc := X2.rd h3 fun h => h
  have hs := h4.ext0 X2
  refine W_sq fun K0 hK => (W_draw (some none) none [(0, 0, 0), (0, 1, 0), (0, 2, 0), (0, 4, 0), (0, 5, 0), (0, 6, 0), (1, 3, 0), (1, 7, 0), (0, 8, 0), (0, 9, 0)] mixed (by kernel_rfl) ?_); simp only [↓List.toList_toArray, ↓rgd, ↓rgf, ↓reduceIte, Nat.reduceEqDiff, rg, ow_103, e2, ptr_eq, hc, ra, rb]
  refine do_call fn_104 (by simp only [evt, evc, upd_eq, Nat.reduceEqDiff, ↓reduceIte, maT, maC, maN, isnN, isnS] <;> rfl) (rank_any sv ord a.1 _ (hs.ext0 (Ext.dr noF _ _)) h.small) ?_
  rintro _ _ ⟨rfl, rfl⟩
  refine ⟨.inr rfl, ?_⟩
  simp only [↓List.toList_toArray, ↓rgd, ↓rgf, ↓reduceIte, Nat.reduceEqDiff, rg, ow_103, e2, ptr_eq, hc, ra, rb]
  refine do_call fn_104 (by simp only [evt, evc, upd_eq, Nat.reduceEqDiff, ↓reduceIte, maT, maC, maN, isnN, isnS] <;> rfl) (rank_any sv ord b.1 _ (hs.ext0 (Ext.dr noF _ _)) h.small) ?_
  rintro _ _ ⟨rfl, rfl⟩
  refine ⟨.inr rfl, ?_⟩
  simp only [↓List.toList_toArray, ↓rgd, ↓rgf, ↓reduceIte, Nat.reduceEqDiff, rg, ow_103]
  refine hK _ _ ?_; clear hK K0
  refine W_ret (endQ_1 (by simp only [upd_eq, Nat.reduceEqDiff, ↓reduceIte] <;> rfl) ⟨rfl, X2.tr (Ext.dr _ _ _)⟩)
end Go.Proofs.Ytdffddiaoheklaa
