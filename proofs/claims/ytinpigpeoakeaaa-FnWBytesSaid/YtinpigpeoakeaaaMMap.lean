/-
  The map's degree bounds, its setting up, a new map. No condition.
-/
import Derived.Test.YtinpigpeoakeaaaNode
import Derived.Test.YtinpigpeoakeaaaMSplitTr
set_option linter.unusedSimpArgs false
set_option linter.unusedVariables false
namespace Go.Proofs.Ytinpigpeoakeaaa
open Go Go.Proofs
theorem Tr.height {α : Type} {E : Enc α} {iso : Int} {mn mx : Nat} {w : World} (hmn : 1 ≤ mn) : ∀ {h lo b : Nat} {xs : List α} {F : Nat → Nat → Prop}, 1 ≤ lo → Tr E iso mn mx h w lo b xs F → h < xs.length
  | 0, _, _, _, _, hlo, ⟨_, _, _, _, h1, _⟩ => by omega
  | h + 1, _, _, _, _, hlo, ⟨_, _, _, _, _, _, _, ks, cs, _, _, h1, _, hcs, hxs, hT, _⟩ => by
    have hl := weave_length (cs.map Kid.xs) ks (by simpa using hcs)
    rw [← hxs] at hl
    cases cs with
    | nil => simp at hcs
    | cons c cs =>
      have := Tr.height hmn hmn (hT c (by simp))
      simp at hl; omega
set_option maxHeartbeats 400000 in
set_option maxRecDepth 8000 in
theorem minmax_any (d : Nat) (hd : 2 ≤ d) (hd' : d ≤ 128) (w : World) :
    CallK Try.prog 66 #[.int .i64 d] w fun v w' => v = .tuple #[.int .i64 (d - 1 : Nat), .int .i64 (2 * d - 1 : Nat)] ∧ w = w' := by
  refine calls_of_W [.tmp 2, .tmp 3] Try.func66 rfl Try.ntmps66 Try.results66 (by simp) fun e he => ?_
  have e0 : e 0 = .int .i64 d := he 0 _ rfl
  clear he
  have t1 : decide ((d : Int) ≤ 0) = false := by simp; omega
  have t2 : ((d : Int) == 1) = false := by simp; omega
  have q1 : IntKind.i64.wrap ((d : Int) * 2) = ((2 * d : Nat) : Int) := by rw [IntWalk.i64_in _ (by omega)]; omega
  have q2 : IntKind.i64.wrap (((2 * d : Nat) : Int) - 1) = ((2 * d - 1 : Nat) : Int) := wsub1 _ (by omega) (by omega)
  have q3 : IntKind.i64.wrap (((2 * d - 1 : Nat) : Int).tdiv 2) = ((d - 1 : Nat) : Int) := by rw [wdiv2 _ (by omega)]; congr 1; omega
  refine W_sq fun K hK => (W_text [true, true] (by kernel_rfl) ?_); simp only [↓List.toList_toArray, ↓rgd, ↓reduceIte, Nat.reduceEqDiff, rg, ow_66]
  refine hK _ _ ?_; clear hK K
  refine W_seq ?_
  refine W_sq fun K hK => (W_text [true, true] (by kernel_rfl) ?_); simp only [↓List.toList_toArray, ↓rgd, ↓reduceIte, Nat.reduceEqDiff, rg, ow_66, e0, t1]
  refine hK _ _ ?_; clear hK K
  refine W_false (by simp only [evt, evc, upd_eq, Nat.reduceEqDiff, ↓reduceIte, ntT, ntF] <;> rfl) ?_
  refine W_sq fun K hK => (W_text [true, true] (by kernel_rfl) ?_); simp only [↓List.toList_toArray, ↓rgd, ↓reduceIte, Nat.reduceEqDiff, rg, ow_66, e0, t2]
  refine hK _ _ ?_; clear hK K
  refine W_false (by simp only [evt, evc, upd_eq, Nat.reduceEqDiff, ↓reduceIte, ntT, ntF] <;> rfl) (W_skip ?_)
  show W _ _ _ _ _ _
  refine W_sq fun K hK => (W_text [true, true, true, true] (by kernel_rfl) ?_); simp only [↓List.toList_toArray, ↓rgd, ↓reduceIte, Nat.reduceEqDiff, rg, ow_66, e0, bv_mul, q1, q2]
  refine hK _ _ ?_; clear hK K
  refine W_sq fun K hK => (W_text [true, true, true] (by kernel_rfl) ?_); simp only [↓List.toList_toArray, ↓rgd, ↓reduceIte, Nat.reduceEqDiff, rg, ow_66, q3]
  refine hK _ _ ?_; clear hK K
  refine W_sq fun K hK => (W_text [true, true, true, true] (by kernel_rfl) ?_); simp only [↓List.toList_toArray, ↓rgd, ↓reduceIte, Nat.reduceEqDiff, rg, ow_66]
  refine hK _ _ ?_; clear hK K
  exact W_ret (endQ_2 (by simp only [upd_eq, Nat.reduceEqDiff, ↓reduceIte] <;> rfl) (by simp only [upd_eq, Nat.reduceEqDiff, ↓reduceIte] <;> rfl) ⟨rfl, rfl⟩)
theorem la_cv : laK Try.prog 3 105 = some .nilIface := by kernel_rfl
theorem la_ci : laK Try.prog 3 108 = some .nilIface := by kernel_rfl
/-- A map's record that is all zero. -/
theorem z_map : zK Try.prog 73 = some [.int .u64 0, .pointer none, .pointer none, .int .i64 0, .int .i64 0, kV (κ zIt), .int .i64 0, .int .i64 0, .bool false, .bool false] := by kernel_rfl
set_option maxHeartbeats 400000 in
set_option maxRecDepth 8000 in
theorem init_any (m d : Nat) (hd : 2 ≤ d) (hd' : d ≤ 128) (w : World) (wm : wok w m 10) (hr : Row w m 4 [.int .i64 0, kV (κ zIt), .int .i64 0, .int .i64 0, .bool false, .bool false]) :
    CallK Try.prog 53 #[ptr m, .int .i64 d] w fun _ w' => Ext (rng m 6 4) w w' ∧ rd w' m 6 = some (.int .i64 (d - 1 : Nat)) ∧ rd w' m 7 = some (.int .i64 (2 * d - 1 : Nat)) ∧ rd w' m 8 = some (.bool false) ∧
      rd w' m 9 = some (.bool false) ∧ w'.heap.size = w.heap.size := by
  simp only [Row.cons] at hr
  obtain ⟨g4, g5, g6, g7, g8, g9, -⟩ := hr
  refine calls_of_W [] Try.func53 rfl Try.ntmps53 Try.results53 (by simp) fun e he => ?_
  have e0 : e 0 = ptr m := he 0 _ rfl
  have e1 : e 1 = .int .i64 d := he 1 _ rfl
  clear he
  have t1 : ((0 : Int) != 0) = false := by simp
  refine W_seq ?_
  refine W_sq fun K hK => (W_text [true, true, true, true, true] (by kernel_rfl) ?_); simp only [↓List.toList_toArray, ↓rgd, ↓reduceIte, Nat.reduceEqDiff, rg, ow_53, e0, ptr_eq, g6, t1]
  refine hK _ _ ?_; clear hK K
  refine W_false (by simp only [evt, evc, upd_eq, Nat.reduceEqDiff, ↓reduceIte, ntT, ntF] <;> rfl) (W_skip ?_)
  show W _ _ _ _ _ _
  refine W_sq fun K hK => (W_text [true, true, true, false, true, true, true, true, true, false, true, true, false] (by kernel_rfl) ?_); simp only [↓List.toList_toArray, ↓rgd, ↓reduceIte, Nat.reduceEqDiff, rg, ow_53, e0, e1, ptr_eq]
  refine do_call fn_66 (by simp only [evt, evc, upd_eq, Nat.reduceEqDiff, ↓reduceIte, maT, maC, maN, isnN, isnS] <;> rfl) (minmax_any d hd hd' w) ?_
  rintro _ _ ⟨rfl, rfl⟩
  refine ⟨trivial, ?_⟩
  simp only [↓List.toList_toArray, ↓rgd, ↓reduceIte, Nat.reduceEqDiff, rg, ow_53, ptr_eq]
  refine do_store (by simp only [evt, evc, upd_eq, Nat.reduceEqDiff, ↓reduceIte, ntT, ntF] <;> rfl) (by simp only [evt, evc, upd_eq, Nat.reduceEqDiff, ↓reduceIte, ntT, ntF] <;> rfl) sz_3 rfl wm (by decide) (oc_one rfl rfl) fun w1 x1 r1 s1 => ⟨trivial, ?_⟩
  simp only [↓List.toList_toArray, ↓rgd, ↓reduceIte, Nat.reduceEqDiff, rg, ow_53, ptr_eq]
  refine do_store (by simp only [evt, evc, upd_eq, Nat.reduceEqDiff, ↓reduceIte, ntT, ntF] <;> rfl) (by simp only [evt, evc, upd_eq, Nat.reduceEqDiff, ↓reduceIte, ntT, ntF] <;> rfl) sz_3 rfl (x1.wok wm) (by decide) (oc_one rfl rfl) fun w2 x2 r2 s2 => ⟨trivial, ?_⟩
  simp only [↓List.toList_toArray, ↓rgd, ↓reduceIte, Nat.reduceEqDiff, rg, ow_53]
  refine hK _ _ ?_; clear hK K
  have g4' := x2.rd (x1.rd g4 (by simp only [rng]; omega)) (by simp only [rng]; omega)
  have n1 := tas_no (P := Try.prog) _ _ (.int .i64 0) _ co_105 la_cv
  have n2 := tas_no (P := Try.prog) _ _ (.int .i64 0) _ co_108 la_ci
  refine W_sq fun K hK => (W_text [true, true, true, true, true, true, true, true, true, true, true, true, true, false] (by kernel_rfl) ?_); simp only [↓List.toList_toArray, ↓rgd, ↓reduceIte, Nat.reduceEqDiff, rg, ow_53, e0, ptr_eq, g4', n1]
  refine do_store (by simp only [evt, evc, upd_eq, Nat.reduceEqDiff, ↓reduceIte, ntT, ntF] <;> rfl) (by simp only [evt, evc, upd_eq, Nat.reduceEqDiff, ↓reduceIte, ntT, ntF] <;> rfl) sz_4 rfl (x2.wok (x1.wok wm)) (by decide) (oc_one rfl rfl) fun w3 x3 r3 s3 => ⟨trivial, ?_⟩
  simp only [↓List.toList_toArray, ↓rgd, ↓reduceIte, Nat.reduceEqDiff, rg, ow_53]
  refine hK _ _ ?_; clear hK K
  have g8' : rd w3 m 8 = some (.bool false) := (Row.cons.1 r3).1
  have g4'' := x3.rd g4' (by simp only [rng]; omega)
  refine W_sq fun K hK => (W_text [true, true, true, true, true] (by kernel_rfl) ?_); simp only [↓List.toList_toArray, ↓rgd, ↓reduceIte, Nat.reduceEqDiff, rg, ow_53, e0, ptr_eq, g8']
  refine hK _ _ ?_; clear hK K
  refine W_true (by simp only [evt, evc, upd_eq, Nat.reduceEqDiff, ↓reduceIte, ntT, ntF] <;> rfl) ?_
  refine W_rg fun K hK => (W_text [true, true, true, true, true, true, true, true, true, true, true, true, true, false] (by kernel_rfl) ?_); simp only [↓List.toList_toArray, ↓rgd, ↓reduceIte, Nat.reduceEqDiff, rg, ow_53, e0, ptr_eq, g4'', n2]
  refine do_store (by simp only [evt, evc, upd_eq, Nat.reduceEqDiff, ↓reduceIte, ntT, ntF] <;> rfl) (by simp only [evt, evc, upd_eq, Nat.reduceEqDiff, ↓reduceIte, ntT, ntF] <;> rfl) sz_4 rfl (x3.wok (x2.wok (x1.wok wm))) (by decide) (oc_one rfl rfl) fun w4 x4 r4 s4 => ⟨trivial, ?_⟩
  simp only [↓List.toList_toArray, ↓rgd, ↓reduceIte, Nat.reduceEqDiff, rg, ow_53]
  refine hK _ _ ?_; clear hK K
  have X : Ext (rng m 6 4) w w4 := ((x1.trans x2 (fun _ _ g => by simp only [rng] at *; omega) fun _ _ _ g => by simp only [rng] at *; omega).trans x3 (fun _ _ g => g) fun _ _ _ g => by simp only [rng] at *; omega).trans x4 (fun _ _ g => g) fun _ _ _ g => by simp only [rng] at *; omega
  exact endQ_0n ⟨X, x4.rd (x3.rd (x2.rd (Row.cons.1 r1).1 (by simp only [rng]; omega)) (by simp only [rng]; omega)) (by simp only [rng]; omega), x4.rd (x3.rd (Row.cons.1 r2).1 (by simp only [rng]; omega)) (by simp only [rng]; omega),
    x4.rd g8' (by simp only [rng]; omega), (Row.cons.1 r4).1, by rw [s4, s3, s2, s1]⟩
set_option maxHeartbeats 400000 in
set_option maxRecDepth 8000 in
theorem newMap_any (d : Nat) (hd : 2 ≤ d) (hd' : d ≤ 128) (w : World) :
    CallK Try.prog 39 #[.int .i64 d] w fun v w' => ∃ m, v = ptr m ∧ w.heap.size ≤ m ∧ Ext noF w w' ∧ Cfg w' m 0 d ∧ rd w' m 2 = some (.pointer none) ∧ rd w' m 3 = some (.int .i64 0) := by
  refine calls_of_W [.tmp 2] Try.func39 rfl Try.ntmps39 Try.results39 (by simp) fun e he => ?_
  have e0 : e 0 = .int .i64 d := he 0 _ rfl
  clear he
  refine W_sq fun K hK => (W_text [true] (by kernel_rfl) ?_); simp only [↓List.toList_toArray, ↓rgd, ↓reduceIte, Nat.reduceEqDiff, rg, ow_39]
  refine hK _ _ ?_; clear hK K
  refine W_sq fun K hK => (W_text [false, true] (by kernel_rfl) ?_); simp only [↓List.toList_toArray, ↓rgd, ↓reduceIte, Nat.reduceEqDiff, rg, ow_39]
  refine do_alloc z_map fun w1 n1 => ⟨trivial, ?_⟩
  simp only [↓List.toList_toArray, ↓rgd, ↓reduceIte, Nat.reduceEqDiff, rg, ow_39]
  refine hK _ _ ?_; clear hK K
  have r := n1.row
  have r4 := r.drop 4
  simp only [Row.cons] at r
  obtain ⟨g0, g1, g2, g3, g4, g5, -⟩ := r
  refine W_sq fun K hK => (W_text [true, true, false] (by kernel_rfl) ?_); simp only [↓List.toList_toArray, ↓rgd, ↓reduceIte, Nat.reduceEqDiff, rg, ow_39, e0]
  refine do_call fn_53 (by simp only [evt, evc, upd_eq, Nat.reduceEqDiff, ↓reduceIte, maT, maC, maN, isnN, isnS] <;> rfl) (init_any w.heap.size d hd hd' w1 n1.wok r4) ?_
  rintro _ w2 ⟨x2, g6, g7, g8, g9, s2⟩
  refine ⟨trivial, ?_⟩
  simp only [↓List.toList_toArray, ↓rgd, ↓reduceIte, Nat.reduceEqDiff, rg, ow_39]
  refine hK _ _ ?_; clear hK K
  refine W_sq fun K hK => (W_text [true, true] (by kernel_rfl) ?_); simp only [↓List.toList_toArray, ↓rgd, ↓reduceIte, Nat.reduceEqDiff, rg, ow_39]
  refine hK _ _ ?_; clear hK K
  refine W_ret (endQ_1 (by simp only [upd_eq, Nat.reduceEqDiff, ↓reduceIte] <;> rfl) ⟨_, rfl, Nat.le_refl _, noF_of n1.ext x2 fun y o hy h => by simp only [rng] at h; omega, ⟨x2.rd g0 (by simp only [rng]; omega), ?_, g6, g7, g8, g9, x2.wok n1.wok⟩,
    x2.rd g2 (by simp only [rng]; omega), x2.rd g3 (by simp only [rng]; omega)⟩)
  exact Row.cons.2 ⟨x2.rd g4 (by simp only [rng]; omega), Row.cons.2 ⟨x2.rd g5 (by simp only [rng]; omega), Row.nil _ _ _⟩⟩
end Go.Proofs.Ytinpigpeoakeaaa
