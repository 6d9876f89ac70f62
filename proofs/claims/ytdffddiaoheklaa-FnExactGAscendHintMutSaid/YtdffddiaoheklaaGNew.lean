/-
  A new tree with an order; setting in it; a tree that is grown from a list. No condition.
-/
import Derived.Test.YtdffddiaoheklaaGGrow
import Derived.Test.YtdffddiaoheklaaMItems
set_option linter.unusedSimpArgs false
set_option linter.unusedVariables false
namespace Go.Proofs.Ytdffddiaoheklaa
open Go Go.Proofs
/-- The degree that is meant: 32 where none is given. -/
def degOf (d : Nat) : Nat := if d = 0 then 32 else d
/-- A degree of 0 or from 2 to 128. -/
def DOk (d : Nat) : Prop := d = 0 ∨ 2 ≤ d ∧ d ≤ 128
theorem DOk.of {d : Nat} (h : DOk d) : 2 ≤ degOf d ∧ degOf d ≤ 128 := by
  unfold degOf
  rcases h with rfl | h
  · simp
  · rw [if_neg (by omega)]; exact h
set_option maxHeartbeats 400000 in
set_option maxRecDepth 8000 in
theorem minmax_any (d : Nat) (h : DOk d) (w : World) :
    CallK Try.prog 115 #[.int .i64 d] w fun v w' => v = .tuple #[.int .i64 (degOf d - 1 : Nat), .int .i64 (2 * degOf d - 1 : Nat)] ∧ w = w' := by
  refine calls_of_W [.tmp 2, .tmp 3] Try.func115 rfl Try.ntmps115 Try.results115 (by simp) fun e he => ?_
  have e0 : e 0 = .int .i64 d := he 0 _ rfl
  clear he
  obtain ⟨h2, h3⟩ := h.of
  have q1 : IntKind.i64.wrap ((degOf d : Int) * 2) = ((2 * degOf d : Nat) : Int) := by rw [IntWalk.i64_in _ (by omega)]; omega
  have q2 : IntKind.i64.wrap (((2 * degOf d : Nat) : Int) - 1) = ((2 * degOf d - 1 : Nat) : Int) := wsub1 _ (by omega) (by omega)
  have q3 : IntKind.i64.wrap (((2 * degOf d - 1 : Nat) : Int).tdiv 2) = ((degOf d - 1 : Nat) : Int) := by rw [wdiv2 _ (by omega)]; congr 1; omega
  refine W_sq fun K hK => (W_text [true, true] (by kernel_rfl) ?_); simp only [↓List.toList_toArray, ↓rgd, ↓rgf, ↓reduceIte, Nat.reduceEqDiff, rg, ow_115]
  refine hK _ _ ?_; clear hK K
  refine W_sqx fun K hK => ?_
  have rest : ∀ e', e' 0 = .int .i64 (degOf d) → K e' w := fun e' f0 => by
    refine hK _ _ ?_; clear hK K
    refine W_sq fun K hK => (W_text [true, true, true, true] (by kernel_rfl) ?_); simp only [↓List.toList_toArray, ↓rgd, ↓rgf, ↓reduceIte, Nat.reduceEqDiff, rg, ow_115, f0, bv_mul, q1, q2]
    refine hK _ _ ?_; clear hK K
    refine W_sq fun K hK => (W_text [true, true, true] (by kernel_rfl) ?_); simp only [↓List.toList_toArray, ↓rgd, ↓rgf, ↓reduceIte, Nat.reduceEqDiff, rg, ow_115, q3]
    refine hK _ _ ?_; clear hK K
    refine W_sq fun K hK => (W_text [true, true, true, true] (by kernel_rfl) ?_); simp only [↓List.toList_toArray, ↓rgd, ↓rgf, ↓reduceIte, Nat.reduceEqDiff, rg, ow_115]
    refine hK _ _ ?_; clear hK K
    exact W_ret (endQ_2 (by simp only [upd_eq, Nat.reduceEqDiff, ↓reduceIte] <;> rfl) (by simp only [upd_eq, Nat.reduceEqDiff, ↓reduceIte] <;> rfl) ⟨rfl, rfl⟩)
  clear hK
  rcases h with rfl | ⟨g1, g2⟩
  · have t1 : decide ((0 : Int) ≤ 0) = true := rfl
    refine W_sq fun K hK => (W_text [true, true] (by kernel_rfl) ?_); simp only [↓List.toList_toArray, ↓rgd, ↓rgf, ↓reduceIte, Nat.reduceEqDiff, rg, ow_115, e0, Int.natCast_zero, t1]
    refine hK _ _ ?_; clear hK K
    refine W_true (by simp only [evt, evc, upd_eq, Nat.reduceEqDiff, ↓reduceIte, ntT, ntF] <;> rfl) ?_
    refine W_rg fun K hK => (W_text [true] (by kernel_rfl) ?_); simp only [↓List.toList_toArray, ↓rgd, ↓rgf, ↓reduceIte, Nat.reduceEqDiff, rg, ow_115]
    refine hK _ _ ?_; clear hK K
    refine rest _ ?_
    simp only [upd_eq, Nat.reduceEqDiff, ↓reduceIte]; rfl
  · have t1 : decide ((d : Int) ≤ 0) = false := by simp; omega
    have t2 : ((d : Int) == 1) = false := by simp; omega
    refine W_sq fun K hK => (W_text [true, true] (by kernel_rfl) ?_); simp only [↓List.toList_toArray, ↓rgd, ↓rgf, ↓reduceIte, Nat.reduceEqDiff, rg, ow_115, e0, t1]
    refine hK _ _ ?_; clear hK K
    refine W_false (by simp only [evt, evc, upd_eq, Nat.reduceEqDiff, ↓reduceIte, ntT, ntF] <;> rfl) ?_
    refine W_sq fun K hK => (W_text [true, true] (by kernel_rfl) ?_); simp only [↓List.toList_toArray, ↓rgd, ↓rgf, ↓reduceIte, Nat.reduceEqDiff, rg, ow_115, e0, t2]
    refine hK _ _ ?_; clear hK K
    refine W_false (by simp only [evt, evc, upd_eq, Nat.reduceEqDiff, ↓reduceIte, ntT, ntF] <;> rfl) (W_skip ?_)
    refine rest _ ?_
    simp only [upd_eq, Nat.reduceEqDiff, ↓reduceIte]
    rw [e0, degOf, if_neg (by omega)]
theorem la_cv : laK Try.prog 38 124 = some .nilIface := by kernel_rfl
theorem la_ci : laK Try.prog 38 127 = some .nilIface := by kernel_rfl
/-- A tree's record that is all zero. -/
theorem z_tree : zK Try.prog 98 = some [.int .u64 0, .pointer none, .pointer none, .int .i64 0, .bool false, .bool false, .nilFunc, .int .i64 0, .int .i64 0, .int .i64 0, .int .i64 0] := by kernel_rfl
theorem z_u64 : zK Try.prog 94 = some [.int .u64 0] := by kernel_rfl
theorem z_ints : zK Try.prog 22 = some [.slice none 0 0] := by kernel_rfl
theorem z_opt : zK Try.prog 89 = some [.int .i64 0, .bool false] := by kernel_rfl
theorem el_int : elK Try.prog 22 = some (3, 1, 8, [.int .i64 0]) := by kernel_rfl
theorem ld_opt : ldK Try.prog 89 = some (some 2) := by kernel_rfl
theorem bs_int0 : bsV Try.prog 22 0 [] = some (3, []) := by kernel_rfl
theorem bu_opt (d : Int) (b : Bool) : buildV Try.prog 89 [(0, .int .i64 d), (1, .bool b)] = some (.agg #[.int .i64 d, .bool b]) := by kernel_rfl
theorem eq_nil (a : Option Addr) (n c : Nat) : binV Try.prog .eql 22 (.slice a n c) (.slice none 0 0) = some (.bool a.isNone) := by kernel_rfl
theorem oc_ints (l : List Int) : oc (ints l) := fun v hv => by
  obtain ⟨n, _, rfl⟩ := List.mem_map.1 hv
  rfl
set_option maxHeartbeats 400000 in
set_option maxRecDepth 8000 in
theorem init_any (m d : Nat) (hd : DOk d) (w : World) (wm : wok w m 11) (hr : Row w m 7 [.int .i64 0, .int .i64 0, .int .i64 0, .int .i64 0]) :
    CallK Try.prog 101 #[ptr m, .int .i64 d] w fun _ w' => Ext (fun y o => y = m ∧ (o = 4 ∨ o = 5 ∨ o = 9 ∨ o = 10)) w w' ∧ rd w' m 10 = some (.int .i64 (degOf d - 1 : Nat)) ∧ rd w' m 9 = some (.int .i64 (2 * degOf d - 1 : Nat)) ∧
      rd w' m 4 = some (.bool false) ∧ rd w' m 5 = some (.bool false) ∧ w'.heap.size = w.heap.size := by
  have hz : rdA w m 7 2 = some (itV zIt) := (hr.take 2).rdA 2 (by decide)
  simp only [Row.cons] at hr
  obtain ⟨g7, g8, g9, g10, -⟩ := hr
  refine calls_of_W [] Try.func101 rfl Try.ntmps101 Try.results101 (by simp) fun e he => ?_
  have e0 : e 0 = ptr m := he 0 _ rfl
  have e1 : e 1 = .int .i64 d := he 1 _ rfl
  clear he
  have t1 : ((0 : Int) != 0) = false := by simp
  refine W_seq ?_
  refine W_sq fun K hK => (W_text [true, true, true, true, true] (by kernel_rfl) ?_); simp only [↓List.toList_toArray, ↓rgd, ↓rgf, ↓reduceIte, Nat.reduceEqDiff, rg, ow_101, e0, ptr_eq, g10, t1]
  refine hK _ _ ?_; clear hK K
  refine W_false (by simp only [evt, evc, upd_eq, Nat.reduceEqDiff, ↓reduceIte, ntT, ntF] <;> rfl) (W_skip ?_)
  show W _ _ _ _ _ _
  refine W_sq fun K hK => (W_text [true, true, true, false, true, true, true, true, true, false, true, true, false] (by kernel_rfl) ?_); simp only [↓List.toList_toArray, ↓rgd, ↓rgf, ↓reduceIte, Nat.reduceEqDiff, rg, ow_101, e0, e1, ptr_eq]
  refine do_call fn_115 (by simp only [evt, evc, upd_eq, Nat.reduceEqDiff, ↓reduceIte, maT, maC, maN, isnN, isnS] <;> rfl) (minmax_any d hd w) ?_
  rintro _ _ ⟨rfl, rfl⟩
  refine ⟨trivial, ?_⟩
  simp only [↓List.toList_toArray, ↓rgd, ↓rgf, ↓reduceIte, Nat.reduceEqDiff, rg, ow_101, ptr_eq]
  refine do_store (by simp only [evt, evc, upd_eq, Nat.reduceEqDiff, ↓reduceIte, ntT, ntF] <;> rfl) (by simp only [evt, evc, upd_eq, Nat.reduceEqDiff, ↓reduceIte, ntT, ntF] <;> rfl) sz_3 rfl wm (by decide) (oc_one rfl rfl) fun w1 x1 r1 s1 => ⟨trivial, ?_⟩
  simp only [↓List.toList_toArray, ↓rgd, ↓rgf, ↓reduceIte, Nat.reduceEqDiff, rg, ow_101, ptr_eq]
  refine do_store (by simp only [evt, evc, upd_eq, Nat.reduceEqDiff, ↓reduceIte, ntT, ntF] <;> rfl) (by simp only [evt, evc, upd_eq, Nat.reduceEqDiff, ↓reduceIte, ntT, ntF] <;> rfl) sz_3 rfl (x1.wok wm) (by decide) (oc_one rfl rfl) fun w2 x2 r2 s2 => ⟨trivial, ?_⟩
  simp only [↓List.toList_toArray, ↓rgd, ↓rgf, ↓reduceIte, Nat.reduceEqDiff, rg, ow_101]
  refine hK _ _ ?_; clear hK K
  have Z : ∀ {u : World} {G : Nat → Nat → Prop}, Ext G w u → (∀ o, G m o → o ≠ 7 ∧ o ≠ 8) → rdA u m 7 2 = some (itV zIt) := fun hx hG =>
    (hx.row (show Row w m 7 [.int .i64 0, .int .i64 0] from Row.cons.2 ⟨g7, Row.cons.2 ⟨g8, Row.nil _ _ _⟩⟩) fun j hj g => by have := hG _ g; simp at hj; omega).rdA 2 (by decide)
  have X2 : Ext (fun y o => y = m ∧ (o = 4 ∨ o = 5 ∨ o = 9 ∨ o = 10)) w w2 := x1.trans x2 (fun y o g => by simp only [rng] at g; omega) fun y o _ g => by simp only [rng] at g; omega
  have z2 := Z X2 fun o g => by omega
  have n1 := tas_no (P := Try.prog) _ _ (itV zIt) _ co_124 la_cv
  have n2 := tas_no (P := Try.prog) _ _ (itV zIt) _ co_127 la_ci
  refine W_sq fun K hK => (W_text [true, true, true, true, true, true, true, true, true, true, true, true, false] (by kernel_rfl) ?_); simp only [↓List.toList_toArray, ↓rgd, ↓rgf, ↓reduceIte, Nat.reduceEqDiff, rg, ow_101, e0, ptr_eq, z2, n1]
  refine do_store (by simp only [evt, evc, upd_eq, Nat.reduceEqDiff, ↓reduceIte, ntT, ntF] <;> rfl) (by simp only [evt, evc, upd_eq, Nat.reduceEqDiff, ↓reduceIte, ntT, ntF] <;> rfl) sz_4 rfl (x2.wok (x1.wok wm)) (by decide) (oc_one rfl rfl) fun w3 x3 r3 s3 => ⟨trivial, ?_⟩
  simp only [↓List.toList_toArray, ↓rgd, ↓rgf, ↓reduceIte, Nat.reduceEqDiff, rg, ow_101]
  refine hK _ _ ?_; clear hK K
  have g8' : rd w3 m 4 = some (.bool false) := (Row.cons.1 r3).1
  have X3 : Ext (fun y o => y = m ∧ (o = 4 ∨ o = 5 ∨ o = 9 ∨ o = 10)) w w3 := X2.trans x3 (fun _ _ g => g) fun y o _ g => by simp only [rng] at g; omega
  have z3 := Z X3 fun o g => by omega
  refine W_sq fun K hK => (W_text [true, true, true, true, true] (by kernel_rfl) ?_); simp only [↓List.toList_toArray, ↓rgd, ↓rgf, ↓reduceIte, Nat.reduceEqDiff, rg, ow_101, e0, ptr_eq, g8']
  refine hK _ _ ?_; clear hK K
  refine W_true (by simp only [evt, evc, upd_eq, Nat.reduceEqDiff, ↓reduceIte, ntT, ntF] <;> rfl) ?_
  refine W_rg fun K hK => (W_text [true, true, true, true, true, true, true, true, true, true, true, true, false] (by kernel_rfl) ?_); simp only [↓List.toList_toArray, ↓rgd, ↓rgf, ↓reduceIte, Nat.reduceEqDiff, rg, ow_101, e0, ptr_eq, z3, n2]
  refine do_store (by simp only [evt, evc, upd_eq, Nat.reduceEqDiff, ↓reduceIte, ntT, ntF] <;> rfl) (by simp only [evt, evc, upd_eq, Nat.reduceEqDiff, ↓reduceIte, ntT, ntF] <;> rfl) sz_4 rfl (x3.wok (x2.wok (x1.wok wm))) (by decide) (oc_one rfl rfl) fun w4 x4 r4 s4 => ⟨trivial, ?_⟩
  simp only [↓List.toList_toArray, ↓rgd, ↓rgf, ↓reduceIte, Nat.reduceEqDiff, rg, ow_101]
  refine hK _ _ ?_; clear hK K
  have X : Ext (fun y o => y = m ∧ (o = 4 ∨ o = 5 ∨ o = 9 ∨ o = 10)) w w4 := X3.trans x4 (fun _ _ g => g) fun y o _ g => by simp only [rng] at g; omega
  exact endQ_0n ⟨X, x4.rd (x3.rd (x2.rd (Row.cons.1 r1).1 (by simp only [rng]; omega)) (by simp only [rng]; omega)) (by simp only [rng]; omega), x4.rd (x3.rd (Row.cons.1 r2).1 (by simp only [rng]; omega)) (by simp only [rng]; omega),
    x4.rd g8' (by simp only [rng]; omega), (Row.cons.1 r4).1, by rw [s4, s3, s2, s1]⟩
set_option maxRecDepth 8000 in
theorem newIso_any (c : Nat) (w : World) (wc : wok w c 1) (h0 : rd w c 0 = some (.int .u64 0)) :
    CallK Try.prog 100 #[ptr c] w fun v w' => v = .int .u64 1 ∧ Ext (rng c 0 1) w w' ∧ w'.heap.size = w.heap.size := by
  refine calls_of_W [.tmp 2] Try.func100 rfl Try.ntmps100 Try.results100 (by simp) fun e he => ?_
  have e0 : e 0 = ptr c := he 0 _ rfl
  clear he
  have q : IntKind.u64.wrap (0 + 1) = 1 := rfl
  refine W_sq fun K hK => (W_text [true] (by kernel_rfl) ?_); simp only [↓List.toList_toArray, ↓rgd, ↓rgf, ↓reduceIte, Nat.reduceEqDiff, rg, ow_100]
  refine hK _ _ ?_; clear hK K
  refine W_sq fun K hK => (W_text [true, true, true, true, true, false] (by kernel_rfl) ?_); simp only [↓List.toList_toArray, ↓rgd, ↓rgf, ↓reduceIte, Nat.reduceEqDiff, rg, ow_100, e0, ptr_eq, h0, q]
  refine do_store (by simp only [evt, evc, upd_eq, Nat.reduceEqDiff, ↓reduceIte, ntT, ntF] <;> rfl) (by simp only [evt, evc, upd_eq, Nat.reduceEqDiff, ↓reduceIte, ntT, ntF] <;> rfl) sz_94 rfl wc (by decide) (oc_one rfl rfl) fun w1 x1 r1 s1 => ⟨trivial, ?_⟩
  simp only [↓List.toList_toArray, ↓rgd, ↓rgf, ↓reduceIte, Nat.reduceEqDiff, rg, ow_100]
  refine hK _ _ ?_; clear hK K
  have d0 : rd w1 c 0 = some (.int .u64 1) := (Row.cons.1 r1).1
  refine W_sq fun K hK => (W_text [true, true, true, true] (by kernel_rfl) ?_); simp only [↓List.toList_toArray, ↓rgd, ↓rgf, ↓reduceIte, Nat.reduceEqDiff, rg, ow_100, e0, ptr_eq, d0]
  refine hK _ _ ?_; clear hK K
  exact W_ret (endQ_1 (by simp only [upd_eq, Nat.reduceEqDiff, ↓reduceIte] <;> rfl) ⟨rfl, x1, s1⟩)
set_option maxHeartbeats 400000 in
set_option maxRecDepth 8000 in
theorem newTree_any (B d : Nat) (ord : List Int) (lv : Value) (nl : Bool) (hd : DOk d) (w : World) (hL : LessAt B w.heap.size w lv ord) (hB : B ≤ w.heap.size) :
    CallK Try.prog 79 #[lv, .agg #[.int .i64 d, .bool nl]] w fun v w' => ∃ m, v = ptr m ∧ w.heap.size ≤ m ∧ Ext noF w w' ∧ TreeAt B ord w' m (degOf d) 1 [] noF := by
  obtain ⟨cc, sv, rfl, -⟩ := id hL.ex
  obtain ⟨lv, hlv⟩ : ∃ lv : Value, lv = .func (.func 103) #[] #[ptr cc] := ⟨_, rfl⟩
  have h1c : lv.cells.toList = [lv] := by rw [hlv]; rfl
  have h1o : lv.oneCell' = true := by rw [hlv]; rfl
  rw [← hlv] at hL ⊢
  refine calls_of_W [.tmp 4] Try.func79 rfl Try.ntmps79 Try.results79 (by simp) fun e he => ?_
  have e0 : e 0 = lv := he 0 _ rfl
  have e1 : e 1 = .agg #[.int .i64 d, .bool nl] := he 1 _ rfl
  clear he
  refine W_sq fun K hK => (W_text [false, true] (by kernel_rfl) ?_); simp only [↓List.toList_toArray, ↓rgd, ↓rgf, ↓reduceIte, Nat.reduceEqDiff, rg, ow_79]
  refine do_box (by simp only [evt]; exact e1) fun w1 n1 => ⟨trivial, ?_⟩
  simp only [↓List.toList_toArray, ↓rgd, ↓rgf, ↓reduceIte, Nat.reduceEqDiff, rg, ow_79]
  refine hK _ _ ?_; clear hK K
  have s1 := n1.size
  have op1 : rd w1 w.heap.size 0 = some (.int .i64 d) := (Row.cons.1 n1.row).1
  refine W_sq fun K hK => (W_text [false, true] (by kernel_rfl) ?_); simp only [↓List.toList_toArray, ↓rgd, ↓rgf, ↓reduceIte, Nat.reduceEqDiff, rg, ow_79]
  refine do_alloc z_tree fun w2 n2 => ⟨trivial, ?_⟩
  simp only [↓List.toList_toArray, ↓rgd, ↓rgf, ↓reduceIte, Nat.reduceEqDiff, rg, ow_79]
  refine hK _ _ ?_; clear hK K
  have s2 := n2.size
  have r2 := n2.row
  obtain ⟨m, hm⟩ : ∃ m, m = w1.heap.size := ⟨_, rfl⟩
  have wm2 : wok w2 m 11 := by rw [hm]; exact n2.wok
  rw [← hm] at r2 ⊢
  refine W_sq fun K hK => (W_text [true, false, true, true, false] (by kernel_rfl) ?_); simp only [↓List.toList_toArray, ↓rgd, ↓rgf, ↓reduceIte, Nat.reduceEqDiff, rg, ow_79]
  refine do_alloc z_u64 fun w3 n3 => ⟨trivial, ?_⟩
  simp only [↓List.toList_toArray, ↓rgd, ↓rgf, ↓reduceIte, Nat.reduceEqDiff, rg, ow_79]
  have s3 := n3.size
  obtain ⟨c, hc⟩ : ∃ c, c = w2.heap.size := ⟨_, rfl⟩
  have wc3 : wok w3 c 1 := by rw [hc]; exact n3.wok
  have c3 : rd w3 c 0 = some (.int .u64 0) := by rw [hc]; exact (Row.cons.1 n3.row).1
  have hcm : c ≠ m := by omega
  rw [← hc]
  refine do_store (by simp only [evt, evc, upd_eq, Nat.reduceEqDiff, ↓reduceIte, ntT, ntF] <;> rfl) (by simp only [evt, evc, upd_eq, Nat.reduceEqDiff, ↓reduceIte, ntT, ntF] <;> rfl) sz_95 rfl (n3.ext.wok wm2) (by decide) (oc_one rfl rfl) fun w4 x4 r4 s4 => ⟨trivial, ?_⟩
  simp only [↓List.toList_toArray, ↓rgd, ↓rgf, ↓reduceIte, Nat.reduceEqDiff, rg, ow_79]
  refine hK _ _ ?_; clear hK K
  have rc4 : rd w4 m 1 = some (.pointer (some ⟨c, 0, none⟩)) := (Row.cons.1 r4).1
  have X34 : Ext (fun y o => y = m ∧ o ≤ 1 ∨ y = c) w2 w4 := n3.ext.trans x4 (fun _ _ g => g.elim) fun y o _ g => by simp only [rng] at g; omega
  refine W_sq fun K hK => (W_text [true, true, true, true, true, false, true, true, false] (by kernel_rfl) ?_); simp only [↓List.toList_toArray, ↓rgd, ↓rgf, ↓reduceIte, Nat.reduceEqDiff, rg, ow_79, ptr_eq, rc4]
  refine do_call fn_100 (by simp only [evt, evc, upd_eq, Nat.reduceEqDiff, ↓reduceIte, maT, maC, maN, isnN, isnS] <;> rfl) (newIso_any c w4 (x4.wok wc3) (x4.rd c3 (by simp only [rng]; omega))) ?_
  rintro _ w5 ⟨rfl, x5, s5⟩
  refine ⟨trivial, ?_⟩
  simp only [↓List.toList_toArray, ↓rgd, ↓rgf, ↓reduceIte, Nat.reduceEqDiff, rg, ow_79]
  have wm5 := x5.wok (x4.wok (n3.ext.wok wm2))
  refine do_store (by simp only [evt, evc, upd_eq, Nat.reduceEqDiff, ↓reduceIte, ntT, ntF] <;> rfl) (by simp only [evt, evc, upd_eq, Nat.reduceEqDiff, ↓reduceIte, ntT, ntF] <;> rfl) sz_94 rfl wm5 (by decide) (oc_one rfl rfl) fun w6 x6 r6 s6 => ⟨trivial, ?_⟩
  simp only [↓List.toList_toArray, ↓rgd, ↓rgf, ↓reduceIte, Nat.reduceEqDiff, rg, ow_79]
  refine hK _ _ ?_; clear hK K
  have X6 : Ext (fun y o => y = m ∧ o ≤ 1 ∨ y = c) w2 w6 := (X34.trans x5 (fun _ _ g => g) fun y o _ g => by simp only [rng] at g; omega).trans x6 (fun _ _ g => g) fun y o _ g => by simp only [rng] at g; omega
  have wm6 := x6.wok wm5
  refine W_sq fun K hK => (W_text [true, true, true, true, false] (by kernel_rfl) ?_); simp only [↓List.toList_toArray, ↓rgd, ↓rgf, ↓reduceIte, Nat.reduceEqDiff, rg, ow_79, e0]
  refine do_store (by simp only [evt, evc, upd_eq, Nat.reduceEqDiff, ↓reduceIte, ntT, ntF] <;> rfl) (by simp only [evt, evc, upd_eq, Nat.reduceEqDiff, ↓reduceIte, ntT, ntF] <;> rfl) sz_86 (by rw [h1c]; rfl) wm6 (by decide) (by rw [h1c]; exact oc_one rfl h1o) fun w7 x7 r7 s7 => ⟨trivial, ?_⟩
  simp only [↓List.toList_toArray, ↓rgd, ↓rgf, ↓reduceIte, Nat.reduceEqDiff, rg, ow_79]
  refine hK _ _ ?_; clear hK K
  have r7 : rd w7 m 6 = some lv := by have := r7; rw [h1c] at this; exact (Row.cons.1 this).1
  have X7 : Ext (fun y o => y = m ∧ (o ≤ 1 ∨ o = 6) ∨ y = c) w2 w7 := X6.trans x7 (fun y o g => by omega) fun y o _ g => by simp only [rng] at g; omega
  have op7 : rd w7 w.heap.size 0 = some (.int .i64 d) := X7.rd (n2.ext.rd op1 fun h => h) fun g => by omega
  refine W_sq fun K hK => (W_text [true, true, true, false] (by kernel_rfl) ?_); simp only [↓List.toList_toArray, ↓rgd, ↓rgf, ↓reduceIte, Nat.reduceEqDiff, rg, ow_79, op7]
  refine do_call fn_101 (by simp only [evt, evc, upd_eq, Nat.reduceEqDiff, ↓reduceIte, maT, maC, maN, isnN, isnS] <;> rfl) (init_any m d hd w7 (x7.wok wm6) (X7.row ((r2.drop 7).of_eq (by omega) rfl) fun j _ g => by omega)) ?_
  rintro _ w8 ⟨x8, g10, g9, g4, g5, s8⟩
  refine ⟨trivial, ?_⟩
  simp only [↓List.toList_toArray, ↓rgd, ↓rgf, ↓reduceIte, Nat.reduceEqDiff, rg, ow_79]
  refine hK _ _ ?_; clear hK K
  refine W_sq fun K hK => (W_text [true, true] (by kernel_rfl) ?_); simp only [↓List.toList_toArray, ↓rgd, ↓rgf, ↓reduceIte, Nat.reduceEqDiff, rg, ow_79]
  refine hK _ _ ?_; clear hK K
  have r2' := r2
  simp only [Row.cons] at r2'
  obtain ⟨h0, h1, h2, h3, h4, h5, h6, h7, h8, h9, h10, -⟩ := r2'
  have X18 : Ext noF w w8 := noF_of (noF_of (n1.ext.tr n2.ext) X7 fun y o hy g => by omega) x8 fun y o hy g => by omega
  have hL8 : LessAt B m w8 lv ord := (hL.ext X18 fun _ _ g => g.elim).mono (by omega)
  have is8 : rd w8 m 0 = some (.int .u64 1) := x8.rd (x7.rd (Row.cons.1 r6).1 (by simp only [rng]; omega)) (by omega)
  have ez8 : Row w8 m 7 (E.cel zIt) := x8.row (X7.row (((r2.drop 7).take 2).of_eq (by omega) rfl) fun j _ g => by omega) fun j hj g => by have : (E.cel zIt).length = 2 := rfl; omega
  refine W_ret (endQ_1 (by simp only [upd_eq, Nat.reduceEqDiff, ↓reduceIte] <;> rfl) ⟨m, rfl, by omega, X18, ⟨is8, ez8, g10, g9, g4, g5, x8.wok (x7.wok wm6)⟩, ⟨lv, x8.rd r7 (by omega), hL8, by omega⟩, x8.rd (X7.rd h3 (by omega)) (by omega), List.Pairwise.nil, .inl ⟨rfl, x8.rd (X7.rd h2 (by omega)) (by omega)⟩, fun _ g => g, fun _ _ g => g.elim, fun _ _ g => g.elim⟩)
/-- A slice that is handed in, as numbers. -/
def SlInt (w : World) (v : Value) (l : List Int) : Prop := SlV w 1 v l.length (ints l)
set_option maxHeartbeats 400000 in
set_option maxRecDepth 8000 in
theorem clone_any (sv : Value) (ord : List Int) (w : World) (hs : SlInt w sv ord) (hbig : ord.length ≤ 2147483647) :
    CallK Try.prog 102 #[sv] w fun v w' => SlInt w' v ord ∧ Ext noF w w' ∧ since w.heap.size v := by
  obtain ⟨a, cp, rfl⟩ := hs.shape
  refine calls_of_W [.tmp 2] Try.func102 rfl Try.ntmps102 Try.results102 (by simp) fun e he => ?_
  have e0 : e 0 = .slice a ord.length cp := he 0 _ rfl
  clear he
  refine W_sq fun K hK => (W_text [true] (by kernel_rfl) ?_); simp only [↓List.toList_toArray, ↓rgd, ↓rgf, ↓reduceIte, Nat.reduceEqDiff, rg, ow_102]
  refine hK _ _ ?_; clear hK K
  refine W_seq ?_
  cases a with
  | none =>
    refine W_sq fun K hK => (W_text [true, true] (by kernel_rfl) ?_); simp only [↓List.toList_toArray, ↓rgd, ↓rgf, ↓reduceIte, Nat.reduceEqDiff, rg, ow_102, e0, eq_nil]
    refine hK _ _ ?_; clear hK K
    refine W_true (by simp only [evt, evc, upd_eq, Nat.reduceEqDiff, ↓reduceIte, ntT, ntF] <;> rfl) ?_
    refine W_sq fun K hK => (W_text [true] (by kernel_rfl) ?_); simp only [↓List.toList_toArray, ↓rgd, ↓rgf, ↓reduceIte, Nat.reduceEqDiff, rg, ow_102]
    refine hK _ _ ?_; clear hK K
    refine W_ret ?_
    simp only [andThen_ret]
    refine endQ_1 (by simp only [upd_eq, Nat.reduceEqDiff, ↓reduceIte] <;> rfl) ⟨?_, Ext.refl _ _, fun b o n c h => by cases h⟩
    have h0 : ord = [] := by
      rcases hs.2 with ⟨_, h⟩ | ⟨b, o, cap, h, _⟩
      · exact List.length_eq_zero_iff.1 h
      · cases h
    subst h0
    exact ⟨rfl, .inl ⟨rfl, rfl⟩⟩
  | some a =>
    refine W_sq fun K hK => (W_text [true, true] (by kernel_rfl) ?_); simp only [↓List.toList_toArray, ↓rgd, ↓rgf, ↓reduceIte, Nat.reduceEqDiff, rg, ow_102, e0, eq_nil]
    refine hK _ _ ?_; clear hK K
    refine W_false (by simp only [evt, evc, upd_eq, Nat.reduceEqDiff, ↓reduceIte, ntT, ntF] <;> rfl) (W_skip ?_)
    show W _ _ _ _ _ _
    refine W_sq fun K hK => (W_text [false, true, false, true] (by kernel_rfl) ?_); simp only [↓List.toList_toArray, ↓rgd, ↓rgf, ↓reduceIte, Nat.reduceEqDiff, rg, ow_102, e0]
    refine do_bsl rfl bs_int0 fun w1 n1 => ⟨trivial, ?_⟩
    simp only [↓List.toList_toArray, ↓rgd, ↓rgf, ↓reduceIte, Nat.reduceEqDiff, rg, ow_102, e0]
    have hv : SlV w1 1 (.slice (some ⟨w.heap.size, 0, none⟩) 0 0) 0 [] := ⟨rfl, .inr ⟨_, 0, 0, rfl, Nat.le_refl _, Row.nil _ _ _, n1.wok.R (Nat.le_refl _)⟩⟩
    refine do_append (by simp only [evt, evc, upd_eq, Nat.reduceEqDiff, ↓reduceIte, ntT, ntF] <;> rfl) (by simp only [evt, evc, upd_eq, Nat.reduceEqDiff, ↓reduceIte, ntT, ntF] <;> rfl) el_int rfl ni_22 hv (hs.ext0 n1.ext) (by omega) (by decide) (oc_ints _) fun v2 w2 a2 => ⟨trivial, ?_⟩
    simp only [↓List.toList_toArray, ↓rgd, ↓rgf, ↓reduceIte, Nat.reduceEqDiff, rg, ow_102]
    refine hK _ _ ?_; clear hK K
    obtain ⟨h1, h2, h3⟩ := app_since a2 (B := w.heap.size) (fun b o n c h => by cases h; exact Nat.le_refl _) (by have := n1.size; omega)
    rw [Nat.zero_add, List.nil_append] at h1
    refine W_ret (endQ_1 (by simp only [upd_eq, Nat.reduceEqDiff, ↓reduceIte] <;> rfl) ⟨h1, noF_of n1.ext h3 fun y o hy g => by omega, h2⟩)
set_option maxHeartbeats 400000 in
set_option maxRecDepth 8000 in
theorem before0_any (sv : Value) (ord : List Int) (w : World) (hs : SlInt w sv ord) (hbig : ord.length ≤ 2147483647) :
    CallK Try.prog 80 #[sv] w fun v w' => Ext noF w w' ∧ LessAt w.heap.size w'.heap.size w' v ord := by
  refine calls_of_W [.tmp 2] Try.func80 rfl Try.ntmps80 Try.results80 (by simp) fun e he => ?_
  have e0 : e 0 = sv := he 0 _ rfl
  clear he
  refine W_sq fun K hK => (W_text [true] (by kernel_rfl) ?_); simp only [↓List.toList_toArray, ↓rgd, ↓rgf, ↓reduceIte, Nat.reduceEqDiff, rg, ow_80]
  refine hK _ _ ?_; clear hK K
  refine W_sq fun K hK => (W_text [true, false, false, false] (by kernel_rfl) ?_); simp only [↓List.toList_toArray, ↓rgd, ↓rgf, ↓reduceIte, Nat.reduceEqDiff, rg, ow_80, e0]
  refine do_call fn_102 (by simp only [evt, evc, upd_eq, Nat.reduceEqDiff, ↓reduceIte, maT, maC, maN, isnN, isnS] <;> rfl) (clone_any sv ord w hs hbig) ?_
  rintro v1 w1 ⟨h1, x1, hsi⟩
  refine ⟨trivial, ?_⟩
  simp only [↓List.toList_toArray, ↓rgd, ↓rgf, ↓reduceIte, Nat.reduceEqDiff, rg, ow_80]
  refine do_alloc z_ints fun w2 n2 => ⟨trivial, ?_⟩
  simp only [↓List.toList_toArray, ↓rgd, ↓rgf, ↓reduceIte, Nat.reduceEqDiff, rg, ow_80]
  obtain ⟨a, cp, rfl⟩ := h1.shape
  refine do_store (by simp only [evt, evc, upd_eq, Nat.reduceEqDiff, ↓reduceIte, ntT, ntF] <;> rfl) (by simp only [evt, evc, upd_eq, Nat.reduceEqDiff, ↓reduceIte, ntT, ntF] <;> rfl) sz_22 rfl n2.wok (by decide) (oc_one rfl rfl) fun w3 x3 r3 s3 => ⟨trivial, ?_⟩
  simp only [↓List.toList_toArray, ↓rgd, ↓rgf, ↓reduceIte, Nat.reduceEqDiff, rg, ow_80]
  refine hK _ _ ?_; clear hK K
  refine W_sq fun K hK => (W_text [true, true] (by kernel_rfl) ?_); simp only [↓List.toList_toArray, ↓rgd, ↓rgf, ↓reduceIte, Nat.reduceEqDiff, rg, ow_80]
  refine hK _ _ ?_; clear hK K
  have X3 : Ext noF w1 w3 := noF_of n2.ext x3 fun y o hy g => by simp only [rng] at g; omega
  have s2 := n2.size
  refine W_ret (endQ_1 (by simp only [upd_eq, Nat.reduceEqDiff, ↓reduceIte] <;> rfl) ⟨x1.tr X3, ⟨⟨w1.heap.size, _, rfl, ⟨x1.size, by omega⟩, (Row.cons.1 r3).1, h1.ext0 X3, fun b o n c h => ?_⟩, hbig⟩⟩)
  have := h1.lt h
  have := hsi _ _ _ _ h
  have := X3.size
  omega
set_option maxHeartbeats 400000 in
set_option maxRecDepth 8000 in
theorem options_any (sv : Value) (d : Int) (nl : Bool) (w : World) (h1 : sv.oneCell' = true) :
    CallK Try.prog 81 #[.agg #[sv, .int .i64 d, .bool nl]] w fun v w' => v = .agg #[.int .i64 d, .bool nl] ∧ Ext noF w w' := by
  refine calls_of_W [.cell 2 89] Try.func81 rfl Try.ntmps81 Try.results81 (by simp) fun e he => ?_
  have e0 : e 0 = .agg #[sv, .int .i64 d, .bool nl] := he 0 _ rfl
  clear he
  refine W_sq fun K hK => (W_text [false, false] (by kernel_rfl) ?_); simp only [↓List.toList_toArray, ↓rgd, ↓rgf, ↓reduceIte, Nat.reduceEqDiff, rg, ow_81]
  refine do_box (by simp only [evt]; exact e0) fun w1 n1 => ⟨trivial, ?_⟩
  simp only [↓List.toList_toArray, ↓rgd, ↓rgf, ↓reduceIte, Nat.reduceEqDiff, rg, ow_81]
  refine do_alloc z_opt fun w2 n2 => ⟨trivial, ?_⟩
  simp only [↓List.toList_toArray, ↓rgd, ↓rgf, ↓reduceIte, Nat.reduceEqDiff, rg, ow_81]
  refine hK _ _ ?_; clear hK K
  have s1 := n1.size
  have r2 : Row w2 w.heap.size 0 [sv, .int .i64 d, .bool nl] := n2.ext.row n1.row fun _ _ h => h
  simp only [Row.cons] at r2
  obtain ⟨-, g1, g2, -⟩ := r2
  refine W_sq fun K hK => (W_text [true, true, true, true, true, false] (by kernel_rfl) ?_); simp only [↓List.toList_toArray, ↓rgd, ↓rgf, ↓reduceIte, Nat.reduceEqDiff, rg, ow_81, g1, g2, bu_opt]
  refine do_store (by simp only [evt, evc, upd_eq, Nat.reduceEqDiff, ↓reduceIte, ntT, ntF] <;> rfl) (by simp only [evt, evc, upd_eq, Nat.reduceEqDiff, ↓reduceIte, ntT, ntF] <;> rfl) sz_89 rfl n2.wok (by decide) (by intro v hv; simp [Value.cells] at hv; rcases hv with rfl | rfl <;> rfl) fun w3 x3 r3 s3 => ⟨trivial, ?_⟩
  simp only [↓List.toList_toArray, ↓rgd, ↓rgf, ↓reduceIte, Nat.reduceEqDiff, rg, ow_81]
  refine hK _ _ ?_; clear hK K
  refine W_ret (endQ_c (by simp only [upd_eq, Nat.reduceEqDiff, ↓reduceIte] <;> rfl) ld_opt (Row.rdA (l := [.int .i64 d, .bool nl]) r3 2 (Nat.le_refl _)) ⟨rfl, noF_of (n1.ext.tr n2.ext) x3 fun y o hy g => by simp only [rng] at g; omega⟩)
theorem set_tree (B m d : Nat) (iso : Int) (ord : List Int) (x : It) (hd : 2 ≤ d) (hd' : d ≤ 128) (xs : List It) (F : Nat → Nat → Prop) (w : World) (hM : TreeAt B ord w m d iso xs F) (hbig : xs.length < 1152921504606846976) :
    CallK Try.prog 106 #[ptr m, itV x, .pointer none] w fun v w' => v = .tuple #[itV ((at? O (rkI ord) (rkI ord x) xs).getD zIt), .bool (hit O (rkI ord) (rkI ord x) xs)] ∧ Ext (mapF m F) w w' ∧
      ∃ F', TreeAt B ord w' m d iso (put O (rkI ord) x xs) F' ∧ ∀ y o, F' y o → F y o ∨ w.heap.size ≤ y := by
  rcases hM.root with ⟨rfl, hr⟩ | ⟨h, b, hr, ht⟩
  · refine CallK_mono (set_nil B m d iso ord x hd hd' w hM.cfg hM.less hr) ?_
    rintro v w' ⟨rfl, hX, F', hM', hF'⟩
    exact ⟨rfl, hX.mono fun y o _ g => g.imp (fun g => g.elim) id, F', hM', fun y o g => .inr (hF' y o g)⟩
  · exact set_root B m d iso ord x hd hd' _ h b xs F w rfl hM.cfg hM.less hM.above hM.cnt hM.asc hr ht hM.off hbig
set_option maxHeartbeats 400000 in
set_option maxRecDepth 8000 in
theorem setH_tree (B m d : Nat) (iso : Int) (ord : List Int) (x : It) (hd : 2 ≤ d) (hd' : d ≤ 128) (xs : List It) (F : Nat → Nat → Prop) (w : World) (hM : TreeAt B ord w m d iso xs F) (hbig : xs.length < 1152921504606846976) :
    CallK Try.prog 85 #[ptr m, itV x, .pointer none] w fun v w' => v = .tuple #[itV ((at? O (rkI ord) (rkI ord x) xs).getD zIt), .bool (hit O (rkI ord) (rkI ord x) xs)] ∧ Ext (mapF m F) w w' ∧
      ∃ F', TreeAt B ord w' m d iso (put O (rkI ord) x xs) F' ∧ ∀ y o, F' y o → F y o ∨ w.heap.size ≤ y := by
  have hml := hM.mlt
  refine calls_of_W [.cell 6 38, .tmp 7] Try.func85 rfl Try.ntmps85 Try.results85 (by simp) fun e he => ?_
  have e0 : e 0 = ptr m := he 0 _ rfl
  have e1 : e 1 = itV x := he 1 _ rfl
  have e2 : e 2 = .pointer none := he 2 _ rfl
  clear he
  refine W_sq fun K hK => (W_text [false, false, true] (by kernel_rfl) ?_); simp only [↓List.toList_toArray, ↓rgd, ↓rgf, ↓reduceIte, Nat.reduceEqDiff, rg, ow_85]
  refine do_box (by simp only [evt]; exact e1) fun w1 n1 => ⟨trivial, ?_⟩
  simp only [↓List.toList_toArray, ↓rgd, ↓rgf, ↓reduceIte, Nat.reduceEqDiff, rg, ow_85]
  refine do_alloc z_it fun w2 n2 => ⟨trivial, ?_⟩
  simp only [↓List.toList_toArray, ↓rgd, ↓rgf, ↓reduceIte, Nat.reduceEqDiff, rg, ow_85]
  refine hK _ _ ?_; clear hK K
  have s1 := n1.size
  have s2 := n2.size
  have X2 : Ext noF w w2 := n1.ext.tr n2.ext
  have ix := iX_at (n2.ext.row (show Row w1 w.heap.size 0 (E.cel x) from n1.row) fun _ _ h => h)
  refine W_sq fun K hK => (W_text [true, true, true, false, true, true, true, false, true] (by kernel_rfl) ?_); simp only [↓List.toList_toArray, ↓rgd, ↓rgf, ↓reduceIte, Nat.reduceEqDiff, rg, ow_85, e0, e2, ix]
  refine do_call fn_106 (by simp only [evt, evc, upd_eq, Nat.reduceEqDiff, ↓reduceIte, maT, maC, maN, isnN, isnS] <;> rfl) (set_tree B m d iso ord x hd hd' xs F w2 (hM.ext X2) hbig) ?_
  rintro _ w3 ⟨rfl, x3, F', hM', hF'⟩
  refine ⟨trivial, ?_⟩
  simp only [↓List.toList_toArray, ↓rgd, ↓rgf, ↓reduceIte, Nat.reduceEqDiff, rg, ow_85]
  have hq : ∀ o, ¬ mapF m F w1.heap.size o := fun o g => by
    rcases g with g | g
    · have := hM.lt _ _ g; omega
    · omega
  have s3 := x3.size
  have hF2 : ∀ y o, F' y o → y ≠ w1.heap.size := fun y o g k => by
    subst k
    rcases hF' _ o g with g | g
    · exact hq o (.inl g)
    · omega
  refine do_store (by simp only [evt, evc, upd_eq, Nat.reduceEqDiff, ↓reduceIte, ntT, ntF] <;> rfl) (by simp only [evt, evc, upd_eq, Nat.reduceEqDiff, ↓reduceIte, ntT, ntF] <;> rfl) sz_38 (itV_len _) (x3.wok n2.wok) (by decide) (itV_oc _) fun w4 x4 r4 s4 => ⟨trivial, ?_⟩
  simp only [↓List.toList_toArray, ↓rgd, ↓rgf, ↓reduceIte, Nat.reduceEqDiff, rg, ow_85]
  refine hK _ _ ?_; clear hK K
  have iv := iX_at (show Row w4 w1.heap.size 0 (E.cel ((at? O (rkI ord) (rkI ord x) xs).getD zIt)) from r4)
  refine W_sq fun K hK => (W_text [true, true, false, true] (by kernel_rfl) ?_); simp only [↓List.toList_toArray, ↓rgd, ↓rgf, ↓reduceIte, Nat.reduceEqDiff, rg, ow_85, iv]
  refine do_store (by simp only [evt, evc, upd_eq, Nat.reduceEqDiff, ↓reduceIte, ntT, ntF] <;> rfl) (by simp only [evt, evc, upd_eq, Nat.reduceEqDiff, ↓reduceIte, ntT, ntF] <;> rfl) sz_38 (itV_len _) (x4.wok (x3.wok n2.wok)) (by decide) (itV_oc _) fun w5 x5 r5 s5 => ⟨trivial, ?_⟩
  simp only [↓List.toList_toArray, ↓rgd, ↓rgf, ↓reduceIte, Nat.reduceEqDiff, rg, ow_85]
  refine hK _ _ ?_; clear hK K
  have x45 : Ext (rng w1.heap.size 0 2) w3 w5 := x4.tr x5
  refine W_ret (endQ_ct (by simp only [upd_eq, Nat.reduceEqDiff, ↓reduceIte] <;> rfl) (by simp only [upd_eq, Nat.reduceEqDiff, ↓reduceIte] <;> rfl) ld_38 (iX_at (show Row w5 w1.heap.size 0 (E.cel ((at? O (rkI ord) (rkI ord x) xs).getD zIt)) from r5)) ⟨rfl, (X2.trans x3 (fun _ _ g => g.elim) fun _ _ _ g => g).trans x45 (fun _ _ g => g) fun y o hy g => by simp only [rng] at g; omega, F',
    hM'.extG x45 (fun y o g k => hF2 y o g k.1) (fun y o g => by simp only [rng] at g; omega), fun y o g => (hF' y o g).imp id fun g => by omega⟩)
set_option maxHeartbeats 400000 in
set_option maxRecDepth 8000 in
theorem setG_any (B m d : Nat) (iso : Int) (ord : List Int) (x : It) (hd : 2 ≤ d) (hd' : d ≤ 128) (xs : List It) (F : Nat → Nat → Prop) (w : World) (hM : TreeAt B ord w m d iso xs F) (hbig : xs.length < 1152921504606846976) :
    CallK Try.prog 60 #[ptr m, itV x] w fun v w' => v = .tuple #[itV ((at? O (rkI ord) (rkI ord x) xs).getD zIt), .bool (hit O (rkI ord) (rkI ord x) xs)] ∧ Ext (mapF m F) w w' ∧
      ∃ F', TreeAt B ord w' m d iso (put O (rkI ord) x xs) F' ∧ ∀ y o, F' y o → F y o ∨ w.heap.size ≤ y := by
  have hml := hM.mlt
  refine calls_of_W [.cell 4 38, .tmp 5] Try.func60 rfl Try.ntmps60 Try.results60 (by simp) fun e he => ?_
  have e0 : e 0 = ptr m := he 0 _ rfl
  have e1 : e 1 = itV x := he 1 _ rfl
  clear he
  refine W_sq fun K hK => (W_text [false, false, true] (by kernel_rfl) ?_); simp only [↓List.toList_toArray, ↓rgd, ↓rgf, ↓reduceIte, Nat.reduceEqDiff, rg, ow_60]
  refine do_box (by simp only [evt]; exact e1) fun w1 n1 => ⟨trivial, ?_⟩
  simp only [↓List.toList_toArray, ↓rgd, ↓rgf, ↓reduceIte, Nat.reduceEqDiff, rg, ow_60]
  refine do_alloc z_it fun w2 n2 => ⟨trivial, ?_⟩
  simp only [↓List.toList_toArray, ↓rgd, ↓rgf, ↓reduceIte, Nat.reduceEqDiff, rg, ow_60]
  refine hK _ _ ?_; clear hK K
  have s1 := n1.size
  have s2 := n2.size
  have X2 : Ext noF w w2 := n1.ext.tr n2.ext
  have ix := iX_at (n2.ext.row (show Row w1 w.heap.size 0 (E.cel x) from n1.row) fun _ _ h => h)
  refine W_sq fun K hK => (W_text [true, true, false, true, true, false, true] (by kernel_rfl) ?_); simp only [↓List.toList_toArray, ↓rgd, ↓rgf, ↓reduceIte, Nat.reduceEqDiff, rg, ow_60, e0, ix]
  refine do_call fn_85 (by simp only [evt, evc, upd_eq, Nat.reduceEqDiff, ↓reduceIte, maT, maC, maN, isnN, isnS] <;> rfl) (setH_tree B m d iso ord x hd hd' xs F w2 (hM.ext X2) hbig) ?_
  rintro _ w3 ⟨rfl, x3, F', hM', hF'⟩
  refine ⟨trivial, ?_⟩
  simp only [↓List.toList_toArray, ↓rgd, ↓rgf, ↓reduceIte, Nat.reduceEqDiff, rg, ow_60]
  have s3 := x3.size
  have hF2 : ∀ y o, F' y o → y ≠ w1.heap.size := fun y o g k => by
    subst k
    rcases hF' _ o g with g | g
    · have := hM.lt _ _ g; omega
    · omega
  refine do_store (by simp only [evt, evc, upd_eq, Nat.reduceEqDiff, ↓reduceIte, ntT, ntF] <;> rfl) (by simp only [evt, evc, upd_eq, Nat.reduceEqDiff, ↓reduceIte, ntT, ntF] <;> rfl) sz_38 (itV_len _) (x3.wok n2.wok) (by decide) (itV_oc _) fun w4 x4 r4 s4 => ⟨trivial, ?_⟩
  simp only [↓List.toList_toArray, ↓rgd, ↓rgf, ↓reduceIte, Nat.reduceEqDiff, rg, ow_60]
  refine hK _ _ ?_; clear hK K
  refine W_ret (endQ_ct (by simp only [upd_eq, Nat.reduceEqDiff, ↓reduceIte] <;> rfl) (by simp only [upd_eq, Nat.reduceEqDiff, ↓reduceIte] <;> rfl) ld_38 (iX_at (show Row w4 w1.heap.size 0 (E.cel ((at? O (rkI ord) (rkI ord x) xs).getD zIt)) from r4)) ⟨rfl, (X2.trans x3 (fun _ _ g => g.elim) fun _ _ _ g => g).trans x4 (fun _ _ g => g) fun y o hy g => by simp only [rng] at g; omega, F',
    hM'.extG x4 (fun y o g k => hF2 y o g k.1) (fun y o g => by simp only [rng] at g; omega), fun y o g => (hF' y o g).imp id fun g => by omega⟩)
/-- The list that a tree holds behind the settings. -/
def treeG (ord : List Int) (l : List It) : List It := l.foldl (fun xs x => put O (rkI ord) x xs) []
theorem treeG_succ (ord : List Int) (l : List It) (i : Nat) (x : It) (h : l[i]? = some x) : treeG ord (l.take (i + 1)) = put O (rkI ord) x (treeG ord (l.take i)) := by
  rw [List.take_add_one, h]; simp [treeG]
theorem treeG_len (ord : List Int) (l : List It) : (treeG ord l).length ≤ l.length := by
  have : ∀ (l : List It) (xs : List It), (l.foldl (fun xs x => put O (rkI ord) x xs) xs).length ≤ xs.length + l.length := by
    intro l
    induction l with
    | nil => intro xs; simp
    | cons x l ih => intro xs; have h1 := ih (put O (rkI ord) x xs); have h2 := put_length O (rkI ord) x xs; simp only [List.foldl_cons, List.length_cons]; split at h2 <;> omega
  have h := this l []
  simp only [List.length_nil, Nat.zero_add] at h
  exact h
/-- How a tree is made. -/
def mkV (sv : Value) (d : Nat) (nl : Bool) : Value := .agg #[sv, .int .i64 d, .bool nl]
set_option maxHeartbeats 800000 in
set_option maxRecDepth 8000 in
theorem growG_low (d : Nat) (hd : DOk d) (ord : List Int) (sv : Value) (nl : Bool) (l : List It) (lv : Value) (w : World) (hs : SlInt w sv ord) (hsb : ord.length ≤ 2147483647) (hl : SlI w lv l) (hbig : l.length ≤ 4294967294) :
    CallK Try.prog 54 #[mkV sv d nl, lv] w fun v w' => Ext noF w w' ∧ ∃ B m F, v = ptr m ∧ TreeAt B ord w' m (degOf d) 1 (treeG ord l) F ∧ w.heap.size ≤ m ∧ (∀ y o, F y o → w.heap.size ≤ y) ∧ w.heap.size ≤ B := by
  obtain ⟨hd2, hd3⟩ := hd.of
  obtain ⟨sa, sc, rfl⟩ := hs.shape
  refine calls_of_W [.tmp 4] Try.func54 rfl Try.ntmps54 Try.results54 (by simp) fun e he => ?_
  have e0 : e 0 = mkV (.slice sa ord.length sc) d nl := he 0 _ rfl
  have e1 : e 1 = lv := he 1 _ rfl
  clear he
  refine W_sq fun K hK => (W_text [false, true] (by kernel_rfl) ?_); simp only [↓List.toList_toArray, ↓rgd, ↓rgf, ↓reduceIte, Nat.reduceEqDiff, rg, ow_54]
  refine do_box (by simp only [evt]; exact e0) fun w1 n1 => ⟨trivial, ?_⟩
  simp only [↓List.toList_toArray, ↓rgd, ↓rgf, ↓reduceIte, Nat.reduceEqDiff, rg, ow_54]
  refine hK _ _ ?_; clear hK K
  have s1 := n1.size
  have rm : Row w1 w.heap.size 0 [.slice sa ord.length sc, .int .i64 d, .bool nl] := n1.row
  have rm0 := (Row.cons.1 rm).1
  have rm3 : rdA w1 w.heap.size 0 3 = some (mkV (.slice sa ord.length sc) d nl) := rm.rdA 3 (Nat.le_refl _)
  have M1 : readsB (some (some [w.heap.size])) w.heap.size = true := by simp [readsB]
  refine W_sq fun K hK => (W_draw (some (some [w.heap.size])) none [(0, 0, 0), (0, 1, 0), (0, 3, 0), (1, 2, 0), (1, 4, 0), (1, 5, 0), (0, 6, 0)] mixed (by kernel_rfl) ?_); simp only [↓List.toList_toArray, ↓rgd, ↓rgf, ↓reduceIte, Nat.reduceEqDiff, rg, ow_54, rm0, rm3, M1]
  refine do_call fn_80 (by simp only [evt, evc, upd_eq, Nat.reduceEqDiff, ↓reduceIte, maT, maC, maN, isnN, isnS] <;> rfl) (before0_any _ ord _ (SlV.ext0 hs (n1.ext.tr (Ext.dr noF _ _))) hsb) ?_
  rintro lv2 w2 ⟨x2, hL2⟩
  have s2 := x2.size
  refine ⟨.inr (keeps_on x2 fun y hy => ⟨?_, fun _ g => g⟩), ?_⟩
  · rw [sz_dr]
    simp only [List.mem_cons, List.not_mem_nil, or_false] at hy
    omega
  have x2 := x2.od
  simp only [↓List.toList_toArray, ↓rgd, ↓rgf, ↓reduceIte, Nat.reduceEqDiff, rg, ow_54, rm0, rm3, M1]
  refine do_call fn_81 (by simp only [evt, evc, upd_eq, Nat.reduceEqDiff, ↓reduceIte, maT, maC, maN, isnN, isnS] <;> rfl) (options_any _ d nl w2 rfl) ?_
  rintro _ w3 ⟨rfl, x3⟩
  have s2' := x2.size
  refine ⟨.inr (keeps_on x3 fun y hy => ⟨?_, fun _ g => g⟩), ?_⟩
  · simp only [List.mem_cons, List.not_mem_nil, or_false] at hy
    omega
  simp only [↓List.toList_toArray, ↓rgd, ↓rgf, ↓reduceIte, Nat.reduceEqDiff, rg, ow_54]
  have s3 := x3.size
  refine do_call fn_79 (by simp only [evt, evc, upd_eq, Nat.reduceEqDiff, ↓reduceIte, maT, maC, maN, isnN, isnS] <;> rfl) (newTree_any w1.heap.size d ord lv2 nl hd w3 ((hL2.ext x3 fun _ _ g => g.elim).mono s3) (by omega)) ?_
  rintro _ w4 ⟨m, rfl, hm, x4, hT⟩
  refine ⟨.inr (keeps_on x4 fun y hy => ⟨?_, fun _ g => g⟩), ?_⟩
  · simp only [List.mem_cons, List.not_mem_nil, or_false] at hy
    omega
  simp only [↓List.toList_toArray, ↓rgd, ↓rgf, ↓reduceIte, Nat.reduceEqDiff, rg, ow_54]
  refine hK _ _ ?_; clear hK K
  have X4 : Ext noF w w4 := ((n1.ext.tr x2).tr x3).tr x4
  have hB : w.heap.size ≤ m := by omega
  clear rm rm0 rm3 n1 x2 x3 x4 hL2 M1
  obtain ⟨a, c, hlv⟩ := SlV.shape hl
  refine W_seq ?_
  refine W_sq fun K hK => (W_text [true, true, true] (by kernel_rfl) ?_); simp only [↓List.toList_toArray, ↓rgd, ↓rgf, ↓reduceIte, Nat.reduceEqDiff, rg, ow_54, e1, hlv]
  refine hK _ _ ?_; clear hK K
  refine W_block (W_loop (fun mm e w' => ∃ i : Nat, mm = l.length - i ∧ i ≤ l.length ∧ e 14 = lv ∧ e 5 = ptr m ∧ e 15 = .int .i64 l.length ∧ e 16 = .int .i64 i ∧ Ext noF w w' ∧ ∃ F, TreeAt w1.heap.size ord w' m (degOf d) 1 (treeG ord (l.take i)) F ∧ ∀ y o, F y o → w.heap.size ≤ y)
    l.length ⟨0, by simp, by simp, ?_, ?_, ?_, ?_, X4, noF, hT, fun _ _ h => h.elim⟩ ?_)
  · simp only [upd_eq, Nat.reduceEqDiff, ↓reduceIte]; rw [hlv]
  · simp only [upd_eq, Nat.reduceEqDiff, ↓reduceIte]
  · simp only [upd_eq, Nat.reduceEqDiff, ↓reduceIte]
  · simp only [upd_eq, Nat.reduceEqDiff, ↓reduceIte]; rfl
  · clear X4 hT e0 e1 e
    rintro mm e w' ⟨i, rfl, hi, e10, e5, e11, e12, X, F, hM, hF⟩
    by_cases hlt : i < l.length
    · have ht := lt_tt i l.length hlt
      refine W_sq fun K hK => (W_text [true] (by kernel_rfl) ?_); simp only [↓List.toList_toArray, ↓rgd, ↓rgf, ↓reduceIte, Nat.reduceEqDiff, rg, ow_54, e11, e12, ht]
      refine hK _ _ ?_; clear hK K
      refine W_seq (W_true (by simp only [evt, evc, upd_eq, Nat.reduceEqDiff, ↓reduceIte, ntT, ntF] <;> rfl) (W_skip ?_))
      show W _ _ _ _ _ _
      obtain ⟨x, hx⟩ : ∃ x, l[i]? = some x := ⟨_, List.getElem?_eq_getElem hlt⟩
      obtain ⟨lb, lo, ha, row⟩ := SlV.at hl hlv hlt
      subst ha
      have row' : Row w' lb lo (flat E l) := X.row row fun _ _ h => h
      have ix := it_at row' hx
      refine W_seq (W_block ?_)
      refine W_sq fun K hK => (W_text [true, true, false, false] (by kernel_rfl) ?_); simp only [↓List.toList_toArray, ↓rgd, ↓rgf, ↓reduceIte, Nat.reduceEqDiff, rg, ow_54, e10, hlv, e12, hlt, ix]
      refine do_alloc z_it fun w5 n5 => ⟨trivial, ?_⟩
      simp only [↓List.toList_toArray, ↓rgd, ↓rgf, ↓reduceIte, Nat.reduceEqDiff, rg, ow_54]
      refine do_store (by simp only [evt, evc, upd_eq, Nat.reduceEqDiff, ↓reduceIte, ntT, ntF] <;> rfl) (by simp only [evt, evc, upd_eq, Nat.reduceEqDiff, ↓reduceIte, ntT, ntF] <;> rfl) sz_38 (itV_len x) n5.wok (by decide) (itV_oc x) fun w6 x6 r6 s6 => ⟨trivial, ?_⟩
      simp only [↓List.toList_toArray, ↓rgd, ↓rgf, ↓reduceIte, Nat.reduceEqDiff, rg, ow_54]
      refine hK _ _ ?_; clear hK K
      have X6 : Ext noF w' w6 := noF_of n5.ext x6 fun y o hy h => by simp only [rng] at h; omega
      have ix6 := iX_at (show Row w6 w'.heap.size 0 (E.cel x) from r6)
      have htl := treeG_len ord (l.take i)
      have htk : (l.take i).length ≤ i := by rw [List.length_take]; omega
      refine W_rg fun K hK => (W_text [true, true, false] (by kernel_rfl) ?_); simp only [↓List.toList_toArray, ↓rgd, ↓rgf, ↓reduceIte, Nat.reduceEqDiff, rg, ow_54, e5, ix6]
      refine do_call fn_60 (by simp only [evt, evc, upd_eq, Nat.reduceEqDiff, ↓reduceIte, maT, maC, maN, isnN, isnS] <;> rfl) (setG_any w1.heap.size m (degOf d) 1 ord x hd2 hd3 _ F w6 (hM.ext X6) (by omega)) ?_
      rintro v w7 ⟨-, x7, F', hM7, hF'⟩
      refine ⟨trivial, ?_⟩
      simp only [↓List.toList_toArray, ↓rgd, ↓rgf, ↓reduceIte, Nat.reduceEqDiff, rg, ow_54]
      refine hK _ _ ?_; clear hK K
      show W _ _ _ _ _ _
      have q1 := wadd1 i (by omega)
      refine W_rg fun K hK => (W_text [true, true] (by kernel_rfl) ?_); simp only [↓List.toList_toArray, ↓rgd, ↓rgf, ↓reduceIte, Nat.reduceEqDiff, rg, ow_54, e12, q1]
      refine hK _ _ ?_; clear hK K
      have s3' := X6.size
      have sX := X.size
      refine ⟨_, ?_, i + 1, rfl, hlt, ?_, ?_, ?_, ?_, ?_, F', by rw [treeG_succ ord l i x hx]; exact hM7, fun y o g => ?_⟩
      · omega
      · simp only [upd_eq, Nat.reduceEqDiff, ↓reduceIte]; exact e10
      · simp only [upd_eq, Nat.reduceEqDiff, ↓reduceIte]; exact e5
      · simp only [upd_eq, Nat.reduceEqDiff, ↓reduceIte]; exact e11
      · simp only [upd_eq, Nat.reduceEqDiff, ↓reduceIte]
      · refine noF_of (X.tr X6) x7 fun y o hy g => ?_
        rcases g with g | g
        · have := hF y o g; omega
        · omega
      · rcases hF' y o g with g | g
        · exact hF y o g
        · omega
    · obtain rfl : i = l.length := by omega
      have ht := lt_ff l.length l.length (by omega)
      refine W_sq fun K hK => (W_text [true] (by kernel_rfl) ?_); simp only [↓List.toList_toArray, ↓rgd, ↓rgf, ↓reduceIte, Nat.reduceEqDiff, rg, ow_54, e11, e12, ht]
      refine hK _ _ ?_; clear hK K
      refine W_seq (W_false (by simp only [evt, evc, upd_eq, Nat.reduceEqDiff, ↓reduceIte, ntT, ntF] <;> rfl) (W_exit ?_))
      simp only [andThen_exit, inBlk_exit, andThen_normal, ↓reduceIte]
      refine W_sq fun K hK => (W_text [true, true] (by kernel_rfl) ?_); simp only [↓List.toList_toArray, ↓rgd, ↓rgf, ↓reduceIte, Nat.reduceEqDiff, rg, ow_54, e5]
      refine hK _ _ ?_; clear hK K
      rw [List.take_length] at hM
      exact W_ret (endQ_1 (by simp only [upd_eq, Nat.reduceEqDiff, ↓reduceIte] <;> rfl) ⟨X, _, m, F, rfl, hM, hB, hF, by omega⟩)
theorem growG_any (d : Nat) (hd : DOk d) (ord : List Int) (sv : Value) (nl : Bool) (l : List It) (lv : Value) (w : World) (hs : SlInt w sv ord) (hsb : ord.length ≤ 2147483647) (hl : SlI w lv l) (hbig : l.length ≤ 4294967294) :
    CallK Try.prog 54 #[mkV sv d nl, lv] w fun v w' => Ext noF w w' ∧ ∃ B m F, v = ptr m ∧ TreeAt B ord w' m (degOf d) 1 (treeG ord l) F ∧ w.heap.size ≤ m ∧ ∀ y o, F y o → w.heap.size ≤ y :=
  CallK_mono (growG_low d hd ord sv nl l lv w hs hsb hl hbig) fun _ _ ⟨X, B, m, F, h1, h2, h3, h4, _⟩ => ⟨X, B, m, F, h1, h2, h3, h4⟩
end Go.Proofs.Ytdffddiaoheklaa
