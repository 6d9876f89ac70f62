/-
  An iterator over a map is made; its moves. No condition.
-/
import Derived.Test.YtmbbhmkenmliiaaZA
import Derived.Test.YtmbbhmkenmliiaaZf4b5de97
import Derived.Test.YtmbbhmkenmliiaaZMSet
import Derived.Test.YtmbbhmkenmliiaaRows
/-
  A tree is not higher than its number of items. No condition.
-/
set_option linter.unusedSimpArgs false
set_option linter.unusedVariables false
namespace Go.Proofs.Ytmbbhmkenmliiaa
open Go Go.Proofs
theorem Tr.height {α : Type} {E : Enc α} {iso : Int} {mn mx : Nat} {w : World} (hmn : 1 ≤ mn) : ∀ {h lo b : Nat} {xs : List α} {F : Nat → Nat → Prop}, 1 ≤ lo → Tr E iso mn mx h w lo b xs F → h < xs.length
  | 0, _, _, _, _, hlo, ⟨_, _, _, _, h1, _⟩ => by omega
  | h + 1, _, _, _, _, hlo, ⟨_, _, _, _, _, _, _, ks, cs, _, _, h1, _, hcs, hxs, hT, _⟩ => by
    have hl := weave_length (cs.map Kid.xs) ks (by simpa using hcs)
    rw [← hxs] at hl
    cases cs with
    | nil => simp at hcs
    | cons c cs =>
      have := Tr.height hmn hmn (hT c (by simp))
      simp at hl; omega
theorem Tr.iso0 {w : World} {iso : Int} {mn mx h lo b : Nat} {xs : List It} {F : Nat → Nat → Prop} (ht : Tr E iso mn mx h w lo b xs F) : rd w b 0 = some (.int .u64 iso) ∧ rd w b 1 = some (.int .i64 xs.length) := by
  obtain ⟨bi, oi, cap, ks, ch, ho, _⟩ := ht.open
  exact ⟨ho.h0, ho.h1⟩
end Go.Proofs.Ytmbbhmkenmliiaa
/-
  The map's degree bounds, its setting up, a new map. No condition.
-/
set_option linter.unusedSimpArgs false
set_option linter.unusedVariables false
namespace Go.Proofs.Ytmbbhmkenmliiaa
open Go Go.Proofs
set_option maxHeartbeats 400000 in
set_option maxRecDepth 8000 in
theorem minmax_any (d : Nat) (hd : 2 ≤ d) (hd' : d ≤ 128) (w : World) :
    CallK Try.prog 44 #[.int .i64 d] w fun v w' => v = .tuple #[.int .i64 (d - 1 : Nat), .int .i64 (2 * d - 1 : Nat)] ∧ w = w' := by
  refine calls_of_W [.tmp 2, .tmp 3] Try.func44 rfl Try.ntmps44 Try.results44 (by simp) fun e he => ?_
  have e0 : e 0 = .int .i64 d := he 0 _ rfl
  clear he
  have t1 : decide ((d : Int) ≤ 0) = false := by simp; omega
  have t2 : ((d : Int) == 1) = false := by simp; omega
  have q1 : IntKind.i64.wrap ((d : Int) * 2) = ((2 * d : Nat) : Int) := by rw [IntWalk.i64_in _ (by omega)]; omega
  have q2 : IntKind.i64.wrap (((2 * d : Nat) : Int) - 1) = ((2 * d - 1 : Nat) : Int) := wsub1 _ (by omega) (by omega)
  have q3 : IntKind.i64.wrap (((2 * d - 1 : Nat) : Int).tdiv 2) = ((d - 1 : Nat) : Int) := by rw [wdiv2 _ (by omega)]; congr 1; omega
  refine W_sq fun K hK => (W_text [true, true] (by kernel_rfl) ?_); simp only [↓List.toList_toArray, ↓rgd, ↓rgf, ↓reduceIte, Nat.reduceEqDiff, rg, ow_44]
  refine hK _ _ ?_; clear hK K
  refine W_seq ?_
  refine W_sq fun K hK => (W_text [true, true] (by kernel_rfl) ?_); simp only [↓List.toList_toArray, ↓rgd, ↓rgf, ↓reduceIte, Nat.reduceEqDiff, rg, ow_44, e0, t1]
  refine hK _ _ ?_; clear hK K
  refine W_false (by simp only [evt, evc, upd_eq, Nat.reduceEqDiff, ↓reduceIte, ntT, ntF] <;> rfl) ?_
  refine W_sq fun K hK => (W_text [true, true] (by kernel_rfl) ?_); simp only [↓List.toList_toArray, ↓rgd, ↓rgf, ↓reduceIte, Nat.reduceEqDiff, rg, ow_44, e0, t2]
  refine hK _ _ ?_; clear hK K
  refine W_false (by simp only [evt, evc, upd_eq, Nat.reduceEqDiff, ↓reduceIte, ntT, ntF] <;> rfl) (W_skip ?_)
  show W _ _ _ _ _ _
  refine W_sq fun K hK => (W_text [true, true, true, true] (by kernel_rfl) ?_); simp only [↓List.toList_toArray, ↓rgd, ↓rgf, ↓reduceIte, Nat.reduceEqDiff, rg, ow_44, e0, bv_mul, q1, q2]
  refine hK _ _ ?_; clear hK K
  refine W_sq fun K hK => (W_text [true, true, true] (by kernel_rfl) ?_); simp only [↓List.toList_toArray, ↓rgd, ↓rgf, ↓reduceIte, Nat.reduceEqDiff, rg, ow_44, q3]
  refine hK _ _ ?_; clear hK K
  refine W_sq fun K hK => (W_text [true, true, true, true] (by kernel_rfl) ?_); simp only [↓List.toList_toArray, ↓rgd, ↓rgf, ↓reduceIte, Nat.reduceEqDiff, rg, ow_44]
  refine hK _ _ ?_; clear hK K
  exact W_ret (endQ_2 (by simp only [upd_eq, Nat.reduceEqDiff, ↓reduceIte] <;> rfl) (by simp only [upd_eq, Nat.reduceEqDiff, ↓reduceIte] <;> rfl) ⟨rfl, rfl⟩)
theorem la_cv : laK Try.prog 3 91 = some .nilIface := by kernel_rfl
theorem la_ci : laK Try.prog 3 94 = some .nilIface := by kernel_rfl
/-- A map's record that is all zero. -/
theorem z_map : zK Try.prog 67 = some [.int .u64 0, .pointer none, .pointer none, .int .i64 0, .int .i64 0, kV (κ zIt), .int .i64 0, .int .i64 0, .bool false, .bool false] := by kernel_rfl
set_option maxHeartbeats 400000 in
set_option maxRecDepth 8000 in
theorem init_any (m d : Nat) (hd : 2 ≤ d) (hd' : d ≤ 128) (w : World) (wm : wok w m 10) (hr : Row w m 4 [.int .i64 0, kV (κ zIt), .int .i64 0, .int .i64 0, .bool false, .bool false]) :
    CallK Try.prog 33 #[ptr m, .int .i64 d] w fun _ w' => Ext (rng m 6 4) w w' ∧ rd w' m 6 = some (.int .i64 (d - 1 : Nat)) ∧ rd w' m 7 = some (.int .i64 (2 * d - 1 : Nat)) ∧ rd w' m 8 = some (.bool false) ∧
      rd w' m 9 = some (.bool false) ∧ w'.heap.size = w.heap.size := by
  simp only [Row.cons] at hr
  obtain ⟨g4, g5, g6, g7, g8, g9, -⟩ := hr
  refine calls_of_W [] Try.func33 rfl Try.ntmps33 Try.results33 (by simp) fun e he => ?_
  have e0 : e 0 = ptr m := he 0 _ rfl
  have e1 : e 1 = .int .i64 d := he 1 _ rfl
  clear he
  have t1 : ((0 : Int) != 0) = false := by simp
  refine W_seq ?_
  refine W_sq fun K hK => (W_text [true, true, true, true, true] (by kernel_rfl) ?_); simp only [↓List.toList_toArray, ↓rgd, ↓rgf, ↓reduceIte, Nat.reduceEqDiff, rg, ow_33, e0, ptr_eq, g6, t1]
  refine hK _ _ ?_; clear hK K
  refine W_false (by simp only [evt, evc, upd_eq, Nat.reduceEqDiff, ↓reduceIte, ntT, ntF] <;> rfl) (W_skip ?_)
  show W _ _ _ _ _ _
  refine W_sq fun K hK => (W_text [true, true, true, false, true, true, true, true, true, false, true, true, false] (by kernel_rfl) ?_); simp only [↓List.toList_toArray, ↓rgd, ↓rgf, ↓reduceIte, Nat.reduceEqDiff, rg, ow_33, e0, e1, ptr_eq]
  refine do_call fn_44 (by simp only [evt, evc, upd_eq, Nat.reduceEqDiff, ↓reduceIte, maT, maC, maN, isnN, isnS] <;> rfl) (minmax_any d hd hd' w) ?_
  rintro _ _ ⟨rfl, rfl⟩
  refine ⟨trivial, ?_⟩
  simp only [↓List.toList_toArray, ↓rgd, ↓rgf, ↓reduceIte, Nat.reduceEqDiff, rg, ow_33, ptr_eq]
  refine do_store (by simp only [evt, evc, upd_eq, Nat.reduceEqDiff, ↓reduceIte, ntT, ntF] <;> rfl) (by simp only [evt, evc, upd_eq, Nat.reduceEqDiff, ↓reduceIte, ntT, ntF] <;> rfl) sz_3 rfl wm (by decide) (oc_one rfl rfl) fun w1 x1 r1 s1 => ⟨trivial, ?_⟩
  simp only [↓List.toList_toArray, ↓rgd, ↓rgf, ↓reduceIte, Nat.reduceEqDiff, rg, ow_33, ptr_eq]
  refine do_store (by simp only [evt, evc, upd_eq, Nat.reduceEqDiff, ↓reduceIte, ntT, ntF] <;> rfl) (by simp only [evt, evc, upd_eq, Nat.reduceEqDiff, ↓reduceIte, ntT, ntF] <;> rfl) sz_3 rfl (x1.wok wm) (by decide) (oc_one rfl rfl) fun w2 x2 r2 s2 => ⟨trivial, ?_⟩
  simp only [↓List.toList_toArray, ↓rgd, ↓rgf, ↓reduceIte, Nat.reduceEqDiff, rg, ow_33]
  refine hK _ _ ?_; clear hK K
  have g4' := x2.rd (x1.rd g4 (by simp only [rng]; omega)) (by simp only [rng]; omega)
  have n1 := tas_no (P := Try.prog) _ _ (.int .i64 0) _ co_91 la_cv
  have n2 := tas_no (P := Try.prog) _ _ (.int .i64 0) _ co_94 la_ci
  refine W_sq fun K hK => (W_text [true, true, true, true, true, true, true, true, true, true, true, true, true, false] (by kernel_rfl) ?_); simp only [↓List.toList_toArray, ↓rgd, ↓rgf, ↓reduceIte, Nat.reduceEqDiff, rg, ow_33, e0, ptr_eq, g4', n1]
  refine do_store (by simp only [evt, evc, upd_eq, Nat.reduceEqDiff, ↓reduceIte, ntT, ntF] <;> rfl) (by simp only [evt, evc, upd_eq, Nat.reduceEqDiff, ↓reduceIte, ntT, ntF] <;> rfl) sz_4 rfl (x2.wok (x1.wok wm)) (by decide) (oc_one rfl rfl) fun w3 x3 r3 s3 => ⟨trivial, ?_⟩
  simp only [↓List.toList_toArray, ↓rgd, ↓rgf, ↓reduceIte, Nat.reduceEqDiff, rg, ow_33]
  refine hK _ _ ?_; clear hK K
  have g8' : rd w3 m 8 = some (.bool false) := (Row.cons.1 r3).1
  have g4'' := x3.rd g4' (by simp only [rng]; omega)
  refine W_sq fun K hK => (W_text [true, true, true, true, true] (by kernel_rfl) ?_); simp only [↓List.toList_toArray, ↓rgd, ↓rgf, ↓reduceIte, Nat.reduceEqDiff, rg, ow_33, e0, ptr_eq, g8']
  refine hK _ _ ?_; clear hK K
  refine W_true (by simp only [evt, evc, upd_eq, Nat.reduceEqDiff, ↓reduceIte, ntT, ntF] <;> rfl) ?_
  refine W_rg fun K hK => (W_text [true, true, true, true, true, true, true, true, true, true, true, true, true, false] (by kernel_rfl) ?_); simp only [↓List.toList_toArray, ↓rgd, ↓rgf, ↓reduceIte, Nat.reduceEqDiff, rg, ow_33, e0, ptr_eq, g4'', n2]
  refine do_store (by simp only [evt, evc, upd_eq, Nat.reduceEqDiff, ↓reduceIte, ntT, ntF] <;> rfl) (by simp only [evt, evc, upd_eq, Nat.reduceEqDiff, ↓reduceIte, ntT, ntF] <;> rfl) sz_4 rfl (x3.wok (x2.wok (x1.wok wm))) (by decide) (oc_one rfl rfl) fun w4 x4 r4 s4 => ⟨trivial, ?_⟩
  simp only [↓List.toList_toArray, ↓rgd, ↓rgf, ↓reduceIte, Nat.reduceEqDiff, rg, ow_33]
  refine hK _ _ ?_; clear hK K
  have X : Ext (rng m 6 4) w w4 := ((x1.trans x2 (fun _ _ g => by simp only [rng] at *; omega) fun _ _ _ g => by simp only [rng] at *; omega).trans x3 (fun _ _ g => g) fun _ _ _ g => by simp only [rng] at *; omega).trans x4 (fun _ _ g => g) fun _ _ _ g => by simp only [rng] at *; omega
  exact endQ_0n ⟨X, x4.rd (x3.rd (x2.rd (Row.cons.1 r1).1 (by simp only [rng]; omega)) (by simp only [rng]; omega)) (by simp only [rng]; omega), x4.rd (x3.rd (Row.cons.1 r2).1 (by simp only [rng]; omega)) (by simp only [rng]; omega),
    x4.rd g8' (by simp only [rng]; omega), (Row.cons.1 r4).1, by rw [s4, s3, s2, s1]⟩
set_option maxHeartbeats 400000 in
set_option maxRecDepth 8000 in
theorem newMap_any (d : Nat) (hd : 2 ≤ d) (hd' : d ≤ 128) (w : World) :
    CallK Try.prog 17 #[.int .i64 d] w fun v w' => ∃ m, v = ptr m ∧ w.heap.size ≤ m ∧ Ext noF w w' ∧ Cfg w' m 0 d ∧ rd w' m 2 = some (.pointer none) ∧ rd w' m 3 = some (.int .i64 0) := by
  refine calls_of_W [.tmp 2] Try.func17 rfl Try.ntmps17 Try.results17 (by simp) fun e he => ?_
  have e0 : e 0 = .int .i64 d := he 0 _ rfl
  clear he
  refine W_sq fun K hK => (W_text [true] (by kernel_rfl) ?_); simp only [↓List.toList_toArray, ↓rgd, ↓rgf, ↓reduceIte, Nat.reduceEqDiff, rg, ow_17]
  refine hK _ _ ?_; clear hK K
  refine W_sq fun K hK => (W_text [false, true] (by kernel_rfl) ?_); simp only [↓List.toList_toArray, ↓rgd, ↓rgf, ↓reduceIte, Nat.reduceEqDiff, rg, ow_17]
  refine do_alloc z_map fun w1 n1 => ⟨trivial, ?_⟩
  simp only [↓List.toList_toArray, ↓rgd, ↓rgf, ↓reduceIte, Nat.reduceEqDiff, rg, ow_17]
  refine hK _ _ ?_; clear hK K
  have r := n1.row
  have r4 := r.drop 4
  simp only [Row.cons] at r
  obtain ⟨g0, g1, g2, g3, g4, g5, -⟩ := r
  refine W_sq fun K hK => (W_text [true, true, false] (by kernel_rfl) ?_); simp only [↓List.toList_toArray, ↓rgd, ↓rgf, ↓reduceIte, Nat.reduceEqDiff, rg, ow_17, e0]
  refine do_call fn_33 (by simp only [evt, evc, upd_eq, Nat.reduceEqDiff, ↓reduceIte, maT, maC, maN, isnN, isnS] <;> rfl) (init_any w.heap.size d hd hd' w1 n1.wok r4) ?_
  rintro _ w2 ⟨x2, g6, g7, g8, g9, s2⟩
  refine ⟨trivial, ?_⟩
  simp only [↓List.toList_toArray, ↓rgd, ↓rgf, ↓reduceIte, Nat.reduceEqDiff, rg, ow_17]
  refine hK _ _ ?_; clear hK K
  refine W_sq fun K hK => (W_text [true, true] (by kernel_rfl) ?_); simp only [↓List.toList_toArray, ↓rgd, ↓rgf, ↓reduceIte, Nat.reduceEqDiff, rg, ow_17]
  refine hK _ _ ?_; clear hK K
  refine W_ret (endQ_1 (by simp only [upd_eq, Nat.reduceEqDiff, ↓reduceIte] <;> rfl) ⟨_, rfl, Nat.le_refl _, noF_of n1.ext x2 fun y o hy h => by simp only [rng] at h; omega, ⟨x2.rd g0 (by simp only [rng]; omega), ?_, g6, g7, g8, g9, x2.wok n1.wok⟩,
    x2.rd g2 (by simp only [rng]; omega), x2.rd g3 (by simp only [rng]; omega)⟩)
  exact Row.cons.2 ⟨x2.rd g4 (by simp only [rng]; omega), Row.cons.2 ⟨x2.rd g5 (by simp only [rng]; omega), Row.nil _ _ _⟩⟩
end Go.Proofs.Ytmbbhmkenmliiaa
/-
  A map in memory. No condition.
-/
set_option linter.unusedSimpArgs false
set_option linter.unusedVariables false
namespace Go.Proofs.Ytmbbhmkenmliiaa
open Go Go.Proofs
/-- The map at m holds the ascending list xs. -/
structure MapAt (w : World) (m d : Nat) (iso : Int) (xs : List It) (F : Nat → Nat → Prop) : Prop where
  cfg : Cfg w m iso d
  cnt : rd w m 3 = some (.int .i64 xs.length)
  asc : Asc O κ xs
  root : (xs = [] ∧ rd w m 2 = some (.pointer none)) ∨ ∃ h b, rd w m 2 = some (ptr b) ∧ Tr E iso (d - 1) (2 * d - 1) h w 1 b xs F
  off : ∀ o, ¬ F m o
  lt : ∀ y o, F y o → y < w.heap.size
def mapF (m : Nat) (F : Nat → Nat → Prop) : Nat → Nat → Prop := fun y o => F y o ∨ y = m ∧ (o = 2 ∨ o = 3)
theorem MapAt.extG {w w' : World} {G : Nat → Nat → Prop} {m d : Nat} {iso : Int} {xs : List It} {F : Nat → Nat → Prop} (h : MapAt w m d iso xs F) (x : Ext G w w') (hF : ∀ y o, F y o → ¬ G y o) (hm : ∀ o, ¬ G m o) : MapAt w' m d iso xs F :=
  ⟨h.cfg.ext x fun o _ _ => hm o, x.rd h.cnt (hm 3), h.asc, h.root.imp (fun ⟨h1, h2⟩ => ⟨h1, x.rd h2 (hm 2)⟩) fun ⟨h', b, h1, h2⟩ => ⟨h', b, x.rd h1 (hm 2), h2.ext x hF⟩, h.off, fun y o g => Nat.lt_of_lt_of_le (h.lt y o g) x.size⟩
theorem MapAt.ext {w w' : World} {m d : Nat} {iso : Int} {xs : List It} {F : Nat → Nat → Prop} (h : MapAt w m d iso xs F) (x : Ext noF w w') : MapAt w' m d iso xs F := h.extG x (fun _ _ _ g => g) fun _ g => g
theorem MapAt.mlt {w : World} {m d : Nat} {iso : Int} {xs : List It} {F : Nat → Nat → Prop} (h : MapAt w m d iso xs F) : m < w.heap.size := wok_lt h.cfg.wok
end Go.Proofs.Ytmbbhmkenmliiaa
/-
  Setting a key in a map; a map that is grown from a list. No condition.
-/
set_option linter.unusedSimpArgs false
set_option linter.unusedVariables false
namespace Go.Proofs.Ytmbbhmkenmliiaa
open Go Go.Proofs
theorem bu_it (a : Rk) (b : Int) : buildV Try.prog 47 [(1, kV a), (0, .int .i64 b)] = some (itV (a, b)) := by kernel_rfl
theorem bs_it0 : bsV Try.prog 71 0 [] = some (47, []) := by kernel_rfl
theorem bs_it1 (x : It) : bsV Try.prog 71 1 [(0, itV x)] = some (47, E.cel x) := by kernel_rfl
theorem bs_kid0 : bsV Try.prog 80 0 [] = some (65, []) := by kernel_rfl
theorem bs_kid2 (a b : Nat) : bsV Try.prog 80 2 [(0, ptr a), (1, ptr b)] = some (65, [ptr a, ptr b]) := by kernel_rfl
theorem keep2 {F : Nat → Nat → Prop} {w w' : World} {a b : Nat} (h : Ext F w w') (h1 : a < w.heap.size ∧ ∀ o, ¬ F a o) (h2 : b < w.heap.size ∧ ∀ o, ¬ F b o) : keeps (some (some [a, b])) w w' := keeps_on h fun x hx => by
  simp only [List.mem_cons, List.not_mem_nil, or_false] at hx
  rcases hx with rfl | rfl
  · exact h1
  · exact h2
theorem app_new {w w' : World} {sz m b o : Nat} {l' : List Value} {v' : Value} (h : AppRes w sz (.slice (some ⟨b, o, none⟩) 0 0) 0 m [] l' v' w') (hm : 0 < m) :
    ∃ cap', v' = .slice (some ⟨w.heap.size, 0, none⟩) m cap' ∧ m ≤ cap' ∧ Row w' w.heap.size 0 l' ∧ wok w' w.heap.size (cap' * sz) ∧ Ext noF w w' ∧ w'.heap.size = w.heap.size + 1 := by
  obtain ⟨hs, hc⟩ := h
  rw [Nat.zero_add] at hs hc
  rcases hc with ⟨_, _, h3⟩ | ⟨b0, o0, cap0, h1, h2, h3, h4, h5⟩ | ⟨cap', h1, h2, h3, h4⟩
  · cases h3
  · simp only [Value.slice.injEq, Option.some.injEq, Addr.mk.injEq, true_and, and_true] at h1
    omega
  · subst h1
    rcases hs.2 with ⟨h, _⟩ | ⟨b1, o1, c1, h1, hle, hr, hw⟩
    · cases h
    · simp only [Value.slice.injEq, Option.some.injEq, Addr.mk.injEq, true_and, and_true] at h1
      obtain ⟨⟨rfl, rfl⟩, rfl⟩ := h1
      exact ⟨_, rfl, hle, by simpa using hr, h4, h2, h3⟩
set_option maxHeartbeats 1000000 in
set_option maxRecDepth 8000 in
/-- Setting, where there is a root. -/
theorem set_root (m d : Nat) (iso : Int) (x : It) (hd : 2 ≤ d) (hd' : d ≤ 128) : ∀ (k h b : Nat) (xs : List It) (F : Nat → Nat → Prop) (w : World), xs.length - h = k → Cfg w m iso d → rd w m 3 = some (.int .i64 xs.length) → Asc O κ xs →
    rd w m 2 = some (ptr b) → Tr E iso (d - 1) (2 * d - 1) h w 1 b xs F → (∀ o, ¬ F m o) → xs.length < 1152921504606846976 →
    CallK Try.prog 18 #[ptr m, kV x.1, vV x] w fun v w' => v = .tuple #[vV ((at? O κ (κ x) xs).getD zIt), .bool (hit O κ (κ x) xs)] ∧ Ext (mapF m F) w w' ∧
      ∃ F', MapAt w' m d iso (put O κ x xs) F' ∧ ∀ y o, F' y o → F y o ∨ w.heap.size ≤ y := by
  intro k
  induction k using Nat.strongRecOn with
  | _ k ih =>
  intro h b xs F w hk hc hcnt ha hroot ht hm hbig
  have hml := wok_lt hc.wok
  have hht := Tr.height (by omega) (Nat.le_refl 1) ht
  refine calls_of_W [.tmp 6, .tmp 7] Try.func18 rfl Try.ntmps18 Try.results18 (by simp) fun e he => ?_
  have e0 : e 0 = ptr m := he 0 _ rfl
  have e1 : e 1 = kV x.1 := he 1 _ rfl
  have e2 : e 2 = .int .i64 x.2 := he 2 _ rfl
  clear he
  refine W_sq fun K hK => (W_text [true, true] (by kernel_rfl) ?_); simp only [↓List.toList_toArray, ↓rgd, ↓rgf, ↓reduceIte, Nat.reduceEqDiff, rg, ow_18]
  refine hK _ _ ?_; clear hK K
  refine W_sq fun K hK => (W_text [true, true, true, false, false] (by kernel_rfl) ?_); simp only [↓List.toList_toArray, ↓rgd, ↓rgf, ↓reduceIte, Nat.reduceEqDiff, rg, ow_18, e1, e2, bu_it]
  refine do_alloc z_it fun w1 n1 => ⟨trivial, ?_⟩
  simp only [↓List.toList_toArray, ↓rgd, ↓rgf, ↓reduceIte, Nat.reduceEqDiff, rg, ow_18]
  refine do_store (by simp only [evt, evc, upd_eq, Nat.reduceEqDiff, ↓reduceIte, ntT, ntF] <;> rfl) (by simp only [evt, evc, upd_eq, Nat.reduceEqDiff, ↓reduceIte, ntT, ntF] <;> rfl) sz_47 (itV_len x) n1.wok (by decide) (itV_oc x) fun w2 x2 r2 s2 => ⟨trivial, ?_⟩
  simp only [↓List.toList_toArray, ↓rgd, ↓rgf, ↓reduceIte, Nat.reduceEqDiff, rg, ow_18]
  refine hK _ _ ?_; clear hK K
  have s1 := n1.size
  have X2 : Ext noF w w2 := noF_of n1.ext x2 fun y o hy h => by simp only [rng] at h; omega
  have rx : Row w2 w.heap.size 0 (E.cel x) := r2
  have c2 := hc.ext X2 fun _ _ _ h => h
  have rt2 := X2.rd hroot (fun h => h)
  have ix := iA_at rx
  refine W_seq ?_
  refine W_sq fun K hK => (W_text [true, true, true, true, true] (by kernel_rfl) ?_); simp only [↓List.toList_toArray, ↓rgd, ↓rgf, ↓reduceIte, Nat.reduceEqDiff, rg, ow_18, e0, ptr_eq, rt2]
  refine hK _ _ ?_; clear hK K
  refine W_false (by simp only [evt, evc, upd_eq, Nat.reduceEqDiff, ↓reduceIte, ntT, ntF] <;> rfl) (W_skip ?_)
  show W _ _ _ _ _ _
  have M1 : readsB (some (some [w.heap.size])) w.heap.size = true := by simp [readsB]
  have hFlt := ht.lt
  refine W_sq fun K hK => (W_draw (some (some [w.heap.size])) none [(0, 0, 0), (0, 1, 0), (0, 2, 0), (0, 3, 0), (0, 4, 0), (1, 5, 0), (0, 6, 0), (0, 7, 0), (0, 8, 0), (0, 9, 0), (0, 10, 0), (0, 11, 0), (0, 12, 0)] mixed (by kernel_rfl) ?_); simp only [↓List.toList_toArray, ↓rgd, ↓rgf, ↓reduceIte, Nat.reduceEqDiff, rg, ow_18, e0, ptr_eq, ix, M1]
  refine do_call fn_35 (by simp only [evt, evc, upd_eq, Nat.reduceEqDiff, ↓reduceIte, maT, maC, maN, isnN, isnS] <;> rfl) (set_any m d iso x hd hd' h _ 1 rfl (Nat.le_refl 1) b xs F _ m 2 (c2.ext (Ext.dr noF _ _) fun _ _ _ g => g) ((ht.ext X2 fun _ _ _ g => g).ext (Ext.dr noF _ _) fun _ _ _ g => g) ha hbig hm rt2 (hm 2)) ?_
  rintro v w3 ⟨x3, F', hF', hres⟩
  have s2' : w2.heap.size = w.heap.size + 1 := by omega
  refine ⟨.inr (keeps_on x3 fun y hy => ?_), ?_⟩
  · rw [sz_dr]
    simp only [List.mem_cons, List.not_mem_nil, or_false] at hy
    subst hy
    exact ⟨by omega, fun o g => by have := hFlt _ _ g; omega⟩
  have x3 := x3.od
  have hF3 : ∀ y o, F' y o → F y o ∨ w2.heap.size ≤ y := hF'
  have s3 := x3.size
  have X3 : Ext F w w3 := X2.trans x3 (fun _ _ g => g.elim) fun _ _ _ g => g
  have c3 := c2.ext x3 fun o _ _ => hm o
  have rt3 := x3.rd rt2 (hm 2)
  have ct3 := X3.rd hcnt (hm 3)
  have zv3 := vV_at c3.ez
  have hF'm : ∀ o, ¬ F' m o := fun o g => by
    rcases hF3 m o g with g | g
    · exact hm o g
    · omega
  rcases hres with ⟨rfl, hT', hh⟩ | ⟨rfl, hT'⟩
  · simp only [↓List.toList_toArray, ↓rgd, ↓rgf, ↓reduceIte, Nat.reduceEqDiff, rg, ow_18]
    refine hK _ _ ?_; clear hK K
    refine W_seq ?_
    refine W_sq fun K hK => (W_text [true] (by kernel_rfl) ?_); simp only [↓List.toList_toArray, ↓rgd, ↓rgf, ↓reduceIte, Nat.reduceEqDiff, rg, ow_18]
    refine hK _ _ ?_; clear hK K
    refine W_true (by simp only [evt, evc, upd_eq, Nat.reduceEqDiff, ↓reduceIte, ntT, ntF] <;> rfl) ?_
    refine W_sq fun K hK => (W_text [true, true, true, true, true] (by kernel_rfl) ?_); simp only [↓List.toList_toArray, ↓rgd, ↓rgf, ↓reduceIte, Nat.reduceEqDiff, rg, ow_18, e0, ptr_eq, rt3]
    refine hK _ _ ?_; clear hK K
    refine W_sq fun K hK => (W_text [true, true, false, true, true, true, false, true, false] (by kernel_rfl) ?_); simp only [↓List.toList_toArray, ↓rgd, ↓rgf, ↓reduceIte, Nat.reduceEqDiff, rg, ow_18, e0]
    refine do_call fn_36 (by simp only [evt, evc, upd_eq, Nat.reduceEqDiff, ↓reduceIte, maT, maC, maN, isnN, isnS] <;> rfl) (split_tr m d b h iso xs F' w3 hd hd' c3 hT' hF'm (by omega)) ?_
    rintro _ w4 ⟨rb, md, xl, xr, Fl, Fr, rfl, hxs, x4, hFl, hFr, hlr, tL, tR⟩
    refine ⟨trivial, ?_⟩
    simp only [↓List.toList_toArray, ↓rgd, ↓rgf, ↓reduceIte, Nat.reduceEqDiff, rg, ow_18]
    refine do_alloc z_it fun w5 n5 => ⟨trivial, ?_⟩
    simp only [↓List.toList_toArray, ↓rgd, ↓rgf, ↓reduceIte, Nat.reduceEqDiff, rg, ow_18]
    refine do_store (by simp only [evt, evc, upd_eq, Nat.reduceEqDiff, ↓reduceIte, ntT, ntF] <;> rfl) (by simp only [evt, evc, upd_eq, Nat.reduceEqDiff, ↓reduceIte, ntT, ntF] <;> rfl) sz_47 (itV_len md) n5.wok (by decide) (itV_oc md) fun w6 x6 r6 s6 => ⟨trivial, ?_⟩
    simp only [↓List.toList_toArray, ↓rgd, ↓rgf, ↓reduceIte, Nat.reduceEqDiff, rg, ow_18]
    refine hK _ _ ?_; clear hK K
    have s4 := x4.size
    have s5 := n5.size
    have X6 : Ext noF w4 w6 := noF_of n5.ext x6 fun y o hy h => by simp only [rng] at h; omega
    have c4 := c3.ext x4 fun o _ _ => hF'm o
    have c6 := c4.ext X6 fun _ _ _ h => h
    refine W_sq fun K hK => (W_text [true, true, false, true, true, false] (by kernel_rfl) ?_); simp only [↓List.toList_toArray, ↓rgd, ↓rgf, ↓reduceIte, Nat.reduceEqDiff, rg, ow_18, e0]
    refine do_call fn_34 (by simp only [evt, evc, upd_eq, Nat.reduceEqDiff, ↓reduceIte, maT, maC, maN, isnN, isnS] <;> rfl) (newNode_any m false iso w6 c6.iso) ?_
    rintro _ w7 ⟨b2, rfl, x7, nn⟩
    refine ⟨trivial, ?_⟩
    simp only [↓List.toList_toArray, ↓rgd, ↓rgf, ↓reduceIte, Nat.reduceEqDiff, rg, ow_18, ptr_eq]
    have c7 := c6.ext x7 fun _ _ _ h => h
    refine do_store (by simp only [evt, evc, upd_eq, Nat.reduceEqDiff, ↓reduceIte, ntT, ntF] <;> rfl) (by simp only [evt, evc, upd_eq, Nat.reduceEqDiff, ↓reduceIte, ntT, ntF] <;> rfl) sz_65 rfl (c7.wok.mono (by decide)) (Nat.le_refl 3) (oc_one rfl rfl) fun w8 x8 r8 s8 => ⟨trivial, ?_⟩
    simp only [↓List.toList_toArray, ↓rgd, ↓rgf, ↓reduceIte, Nat.reduceEqDiff, rg, ow_18]
    refine hK _ _ ?_; clear hK K
    obtain ⟨bc2, nk, nk1, nk2, nk3, nk4⟩ := nn.kids rfl
    have s7 := x7.size
    have nnge := nn.ge
    have rt8 : rd w8 m 2 = some (ptr b2) := (Row.cons.1 r8).1
    have c8 := c7.ext x8 fun o h2 _ g => h2 (by simp only [rng] at g; omega)
    have kp8 := x8.rd nk (by simp only [rng]; omega)
    have q1 : IntKind.i64.wrap (((2 * d - 1 : Nat) : Int) + 1) = ((2 * d : Nat) : Int) := by rw [wadd1 _ (by omega)]; congr 1; omega
    have M2 : readsB (some (some [m, b2])) m = true := by simp [readsB]
    have M3 : readsB (some (some [m, b2])) b2 = true := by simp [readsB]
    have hb2l := wok_lt nn.wb
    refine W_sq fun K hK => (W_draw (some (some [m, b2])) (some 14) [(0, 0, 0), (0, 1, 0), (0, 2, 0), (0, 3, 0), (0, 4, 0), (0, 5, 0), (0, 6, 0), (0, 7, 0), (0, 8, 0), (0, 9, 0), (0, 10, 0), (0, 11, 0), (1, 12, 0), (0, 13, 0), (1, 14, 0)] mixed (by kernel_rfl) ?_); simp only [↓List.toList_toArray, ↓rgd, ↓rgf, ↓reduceIte, Nat.reduceEqDiff, rg, ow_18, e0, ptr_eq, rt8, kp8, c8.mx, q1, M2, M3]
    refine do_make (n := 0) (c := 2 * d) (by simp only [evt, evc, upd_eq, Nat.reduceEqDiff, ↓reduceIte, ntT, ntF] <;> rfl) (by simp only [evt, evc, upd_eq, Nat.reduceEqDiff, ↓reduceIte, ntT, ntF] <;> rfl) el_kid rfl (by omega) (by omega) (by omega) fun w9 l9 hl9 n9 => ⟨.inr (keeps_on n9.ext fun y hy => ⟨?_, fun _ h => h⟩), ?_⟩
    · rw [sz_dr]
      simp only [List.mem_cons, List.not_mem_nil, or_false] at hy
      omega
    simp only [↓List.toList_toArray, ↓rgd, ↓rgf, ↓reduceIte, Nat.reduceEqDiff, rg, ow_18]
    have n9 := n9.od
    refine do_store (by simp only [evt, evc, upd_eq, Nat.reduceEqDiff, ↓reduceIte, ntT, ntF] <;> rfl) (by simp only [evt, evc, upd_eq, Nat.reduceEqDiff, ↓reduceIte, ntT, ntF] <;> rfl) sz_80 rfl (n9.ext.wok (x8.wok nk4)) (by decide) (oc_one rfl rfl) fun w10 x10 r10 s10 => ⟨.inl trivial, ?_⟩
    simp only [↓List.toList_toArray, ↓rgd, ↓rgf, ↓reduceIte, Nat.reduceEqDiff, rg, ow_18]
    refine hK _ _ ?_; clear hK K
    have rt10 : rd w10 m 2 = some (ptr b2) := x10.rd (n9.ext.rd rt8 fun h => h) (by simp only [rng]; omega)
    have kp10 : rd w10 b2 3 = some (ptr bc2) := x10.rd (n9.ext.rd kp8 fun h => h) (by simp only [rng]; omega)
    have wbc10 : wok w10 bc2 1 := x10.wok (n9.ext.wok (x8.wok nk4))
    have s9 := n9.size
    have hbc2l := wok_lt wbc10
    refine W_sq fun K hK => (W_draw (some (some [m, b2])) (some 13) [(0, 0, 0), (0, 1, 0), (0, 2, 0), (0, 3, 0), (0, 4, 0), (0, 5, 0), (0, 6, 0), (0, 8, 0), (0, 9, 0), (2, 7, 10), (1, 11, 0), (0, 12, 0), (1, 13, 0)] mixed (by kernel_rfl) ?_); simp only [↓List.toList_toArray, ↓rgd, ↓rgf, ↓reduceIte, Nat.reduceEqDiff, rg, ow_18, e0, ptr_eq, rt10, kp10, M2, M3]
    have rest : ∀ e' w', e' 0 = ptr m → e' 8 = .pointer (some ⟨w.heap.size, 0, none⟩) → e' 14 = .pointer (some ⟨w4.heap.size, 0, none⟩) → Ext (rng bc2 0 1) w10 w' →
        (∃ ba2 cap2, rd w' bc2 0 = some (.slice (some ⟨ba2, 0, none⟩) 2 cap2) ∧ 2 ≤ cap2 ∧ Row w' ba2 0 [ptr b, ptr rb] ∧ wok w' ba2 cap2 ∧ w10.heap.size ≤ ba2) → K e' w' := by
      intro e' w14 f0 f8 f14 x14 ⟨ba2, cap2, q0, q2, q3, q4, q5⟩
      refine hK _ _ ?_; clear hK K
      have s10' := x10.size
      have s14 := x14.size
      have rt14 : rd w14 m 2 = some (ptr b2) := x14.rd rt10 (by simp only [rng]; omega)
      have rm14 : Row w14 w4.heap.size 0 (E.cel md) := x14.row (x10.row (n9.ext.row (x8.row (x7.row r6 fun _ _ h => h) fun j _ h => by simp only [rng] at h; omega) fun _ _ h => h) fun j _ h => by simp only [rng] at h; omega) fun j _ h => by simp only [rng] at h; omega
      have im14 := iA_at rm14
      have wb14 : wok w14 b2 4 := x14.wok (x10.wok (n9.ext.wok (x8.wok nn.wb)))
      have M4 : readsB (some (some [m, w4.heap.size])) m = true := by simp [readsB]
      have M5 : readsB (some (some [m, w4.heap.size])) w4.heap.size = true := by simp [readsB]
      have s8' := x8.size
      have s6' : w6.heap.size = w4.heap.size + 1 := by omega
      refine W_sq fun K hK => (W_draw (some (some [m, w4.heap.size])) (some 10) [(0, 0, 0), (0, 1, 0), (0, 2, 0), (0, 3, 0), (0, 5, 0), (2, 4, 6), (1, 7, 0), (0, 8, 0), (0, 9, 0), (1, 10, 0)] mixed (by kernel_rfl) ?_); simp only [↓List.toList_toArray, ↓rgd, ↓rgf, ↓reduceIte, Nat.reduceEqDiff, rg, ow_18, f0, f14, ptr_eq, rt14, im14, M4, M5]
      have rest2 : ∀ e'' w', e'' 0 = ptr m → e'' 8 = .pointer (some ⟨w.heap.size, 0, none⟩) → Ext (rng b2 2 1) w14 w' →
          (∃ bi2 cap3, rd w' b2 2 = some (.slice (some ⟨bi2, 0, none⟩) 1 cap3) ∧ 1 ≤ cap3 ∧ Row w' bi2 0 (E.cel md) ∧ wok w' bi2 (cap3 * 2) ∧ w14.heap.size ≤ bi2) → K e'' w' := by
        intro e'' w18 f0 f8 x18 ⟨bi2, cap3, p0, p2, p3, p4, p5⟩
        refine hK _ _ ?_; clear hK K
        have s18 := x18.size
        have hb4 : b < w4.heap.size := tL.lt _ _ (tL.self 0)
        have hrb4 : rb < w4.heap.size := tR.lt _ _ (tR.self 0)
        have hba18 := wok_lt (x18.wok q4)
        have hba14 := wok_lt q4
        have hbi18 := wok_lt p4
        have T18 : Ext (fun y o => (y = m ∧ o = 2) ∨ w4.heap.size ≤ y) w4 w18 := by
          refine ((((((X6.trans x7 (H := fun y o => (y = m ∧ o = 2) ∨ w4.heap.size ≤ y) (fun _ _ g => g.elim) fun _ _ _ g => g.elim).trans x8 (fun _ _ g => g) fun y o _ g => ?_).trans n9.ext (fun _ _ g => g) fun _ _ _ g => g.elim).trans x10 (fun _ _ g => g) fun y o _ g => ?_).trans x14 (fun _ _ g => g) fun y o _ g => ?_).trans x18 (fun _ _ g => g) fun y o _ g => ?_)
          all_goals simp only [rng] at g; omega
        have hFlm : ∀ y o, Fl y o → ¬ ((y = m ∧ o = 2) ∨ w4.heap.size ≤ y) := fun y o g k => by
          rcases k with ⟨rfl, _⟩ | k
          · exact hF'm _ (hFl _ _ g)
          · have := tL.lt _ _ g; omega
        have hFrm' : ∀ o, ¬ Fr m o := fun o g => by
          rcases hFr _ _ g with g | g
          · exact hF'm _ g
          · omega
        have hFrm : ∀ y o, Fr y o → ¬ ((y = m ∧ o = 2) ∨ w4.heap.size ≤ y) := fun y o g k => by
          rcases k with ⟨rfl, _⟩ | k
          · exact hFrm' _ g
          · have := tR.lt _ _ g; omega
        have tL18 := tL.ext T18 hFlm
        have tR18 := tR.ext T18 hFrm
        have kp18 : rd w18 b2 3 = some (ptr bc2) := x18.rd (x14.rd kp10 (by simp only [rng]; omega)) (by simp only [rng]; omega)
        have K18 : Kids w18 bc2 ba2 0 cap2 [b, rb] := ⟨x18.rd q0 (by simp only [rng]; omega), x18.wok (x14.wok wbc10), x18.row q3 fun j _ h => by simp only [rng] at h; omega, by rw [Nat.zero_add]; exact x18.wok q4, q2, by omega⟩
        have wb18 := x18.wok wb14
        have rt18 : rd w18 m 2 = some (ptr b2) := x18.rd rt14 (by simp only [rng]; omega)
        have hcn : cntP (cnW w18) [b, rb] = xl.length + xr.length := by simp [cntP, cnW_eq tL18.cnt, cnW_eq tR18.cnt]
        have hxl : xs.length = xl.length + 1 + xr.length := by rw [hxs]; simp; omega
        refine W_sq fun K hK => (W_text [true, true, true, true, false] (by kernel_rfl) ?_); simp only [↓List.toList_toArray, ↓rgd, ↓rgf, ↓reduceIte, Nat.reduceEqDiff, rg, ow_18, f0, ptr_eq, rt18]
        refine do_call fn_37 (by simp only [evt, evc, upd_eq, Nat.reduceEqDiff, ↓reduceIte, maT, maC, maN, isnN, isnS] <;> rfl) (count_kids b2 1 cap3 bc2 ba2 0 cap2 _ [b, rb] (cnW w18) w18 p0 kp18 wb18 K18 (by omega) (by omega) (fun p hp => by
          simp only [List.mem_cons, List.not_mem_nil, or_false] at hp
          rcases hp with rfl | rfl
          · exact ⟨by rw [cnW_eq tL18.cnt]; exact tL18.cnt, by omega⟩
          · exact ⟨by rw [cnW_eq tR18.cnt]; exact tR18.cnt, by omega⟩) (by omega) (by simp)) ?_
        rintro _ w19 ⟨x19, d1, s19⟩
        refine ⟨trivial, ?_⟩
        simp only [↓List.toList_toArray, ↓rgd, ↓rgf, ↓reduceIte, Nat.reduceEqDiff, rg, ow_18]
        refine hK _ _ ?_; clear hK K
        rw [hcn] at d1
        have T19 : Ext (fun y o => (y = m ∧ o = 2) ∨ w4.heap.size ≤ y) w4 w19 := T18.trans x19 (fun _ _ g => g) fun y o _ g => by simp only [rng] at g; omega
        have c19 := c4.ext T19 fun o h2 _ g => by
          rcases g with g | g
          · exact h2 g.2
          · have := wok_lt c4.wok; omega
        have ct19 : rd w19 m 3 = some (.int .i64 xs.length) := T19.rd (x4.rd ct3 (hF'm 3)) fun g => by omega
        have rx19 : Row w19 w.heap.size 0 (E.cel x) := T19.row (x4.row (x3.row rx fun j _ g => by have := hFlt _ _ g; omega) fun j _ g => by
          rcases hF3 _ _ g with g | g
          · have := hFlt _ _ g; omega
          · omega) fun j _ g => by omega
        have kx19 := kV_at rx19
        have vx19 := vV_at rx19
        have own19 : Own E w19 b2 iso xs.length bi2 0 cap3 [md] (ptr bc2) := by
          have h0 := x19.rd (x18.rd (x14.rd (x10.rd (n9.ext.rd (x8.rd nn.h0 (by simp only [rng]; omega)) fun h => h) (by simp only [rng]; omega)) (by simp only [rng]; omega)) (by simp only [rng]; omega)) (by simp only [rng]; omega)
          refine ⟨h0, ?_, x19.rd p0 (by simp only [rng]; omega), x19.rd kp18 (by simp only [rng]; omega), x19.wok wb18, ?_, by rw [Nat.zero_add]; exact x19.wok p4, p2, by omega⟩
          · rw [d1, hxl]; congr 3; omega
          · rw [flat_one]; exact x19.row p3 fun j _ h => by simp only [rng] at h; omega
        have K19 := K18.ext x19 fun y o g h => by simp only [kidF, rng] at g h; omega
        have tL19 := tL.ext T19 hFlm
        have tR19 := tR.ext T19 hFrm
        have tr19 : Tr E iso (d - 1) (2 * d - 1) (h + 1) w19 1 b2 xs (fun y o => ownF E b2 bi2 0 cap3 y o ∨ kidF bc2 ba2 0 cap2 y o ∨ ∃ c ∈ [Kid.mk b xl Fl, Kid.mk rb xr Fr], c.F y o) := by
          refine ⟨bi2, 0, cap3, bc2, ba2, 0, cap2, [md], [Kid.mk b xl Fl, Kid.mk rb xr Fr], own19, K19, Nat.le_refl _, (by show 1 ≤ 2 * d - 1; omega), rfl, hxs, ?_, ⟨nk2, by omega, by omega, by omega, ?_, ?_, ?_⟩, fun _ _ => Iff.rfl⟩
          · intro c hc
            simp only [List.mem_cons, List.not_mem_nil, or_false] at hc
            rcases hc with rfl | rfl
            · exact tL19
            · exact tR19
          · intro c hc y o g k
            have : y < w4.heap.size := by
              simp only [List.mem_cons, List.not_mem_nil, or_false] at hc
              rcases hc with rfl | rfl
              · exact tL.lt _ _ g
              · exact tR.lt _ _ g
            simp only [ownF, rng] at k; omega
          · intro c hc y o g k
            have : y < w4.heap.size := by
              simp only [List.mem_cons, List.not_mem_nil, or_false] at hc
              rcases hc with rfl | rfl
              · exact tL.lt _ _ g
              · exact tR.lt _ _ g
            simp only [kidF, rng] at k; omega
          · exact List.pairwise_cons.2 ⟨fun c hc y o g k => by
              simp only [List.mem_cons, List.not_mem_nil, or_false] at hc
              subst hc; exact hlr y o g k, List.pairwise_singleton _ _⟩
        have hF2 : ∀ y o, (ownF E b2 bi2 0 cap3 y o ∨ kidF bc2 ba2 0 cap2 y o ∨ ∃ c ∈ [Kid.mk b xl Fl, Kid.mk rb xr Fr], c.F y o) → y ≠ m ∧ (F y o ∨ w2.heap.size ≤ y) := by
          have hF'2 : ∀ y o, F' y o → y ≠ m ∧ (F y o ∨ w2.heap.size ≤ y) := fun y o g => ⟨fun k => hF'm o (k ▸ g), hF3 y o g⟩
          rintro y o (g | g | ⟨c, hc, g⟩)
          · simp only [ownF, rng] at g; omega
          · simp only [kidF, rng] at g; omega
          · simp only [List.mem_cons, List.not_mem_nil, or_false] at hc
            rcases hc with rfl | rfl
            · exact hF'2 y o (hFl y o g)
            · rcases hFr y o g with g | g
              · exact hF'2 y o g
              · exact ⟨by omega, .inr (by omega)⟩
        refine W_sq fun K hK => (W_text [true, true, true, true, true, false, true, true, true, true] (by kernel_rfl) ?_); simp only [↓List.toList_toArray, ↓rgd, ↓rgf, ↓reduceIte, Nat.reduceEqDiff, rg, ow_18, f0, f8, kx19, vx19]
        refine do_call fn_18 (by simp only [evt, evc, upd_eq, Nat.reduceEqDiff, ↓reduceIte, maT, maC, maN, isnN, isnS] <;> rfl) (ih (xs.length - (h + 1)) (by omega) (h + 1) b2 xs _ w19 rfl c19 ct19 ha (x19.rd rt18 (by simp only [rng]; omega)) tr19 (fun o g => (hF2 _ _ g).1 rfl) hbig) ?_
        rintro _ w20 ⟨rfl, x20, F'', hM, hF''⟩
        refine ⟨trivial, ?_⟩
        simp only [↓List.toList_toArray, ↓rgd, ↓rgf, ↓reduceIte, Nat.reduceEqDiff, rg, ow_18]
        refine hK _ _ ?_; clear hK K
        have s20 := x20.size
        refine W_ret ?_
        simp only [andThen_ret]
        refine endQ_2 (by simp only [upd_eq, Nat.reduceEqDiff, ↓reduceIte] <;> rfl) (by simp only [upd_eq, Nat.reduceEqDiff, ↓reduceIte] <;> rfl) ⟨rfl, ?_, F'', hM, fun y o g => ?_⟩
        · refine (((X3.trans x4 (H := mapF m F) (fun _ _ g => .inl g) fun y o hy g => ?_).trans T19 (fun _ _ g => g) fun y o hy g => ?_).trans x20 (fun _ _ g => g) fun y o hy g => ?_)
          · rcases hF3 y o g with g | g
            · exact .inl g
            · omega
          · rcases g with g | g
            · exact .inr ⟨g.1, .inl g.2⟩
            · omega
          · rcases g with g | g
            · rcases (hF2 y o g).2 with g | g
              · exact .inl g
              · omega
            · exact .inr g
        · rcases hF'' y o g with g | g
          · exact (hF2 y o g).2.imp id fun g => by omega
          · exact .inr (by omega)
      constructor
      · refine do_bsl rfl bs_it0 fun w15 n15 => ⟨.inr (keep2 n15.ext ⟨by rw [sz_dr]; omega, fun _ h => h⟩ ⟨by rw [sz_dr]; omega, fun _ h => h⟩), ?_⟩
        simp only [↓List.toList_toArray, ↓rgd, ↓rgf, ↓reduceIte, Nat.reduceEqDiff, rg, ow_18]
        have n15 := n15.od
        have s15 := n15.size
        refine do_bsl rfl (bs_it1 md) fun w16 n16 => ⟨.inr (keep2 n16.ext ⟨by omega, fun _ h => h⟩ ⟨by omega, fun _ h => h⟩), ?_⟩
        simp only [↓List.toList_toArray, ↓rgd, ↓rgf, ↓reduceIte, Nat.reduceEqDiff, rg, ow_18]
        have s16 := n16.size
        have hv : SlV w16 2 (.slice (some ⟨w14.heap.size, 0, none⟩) 0 0) 0 [] := ⟨rfl, .inr ⟨_, 0, 0, rfl, Nat.le_refl _, Row.nil _ _ _, (n16.ext.wok n15.wok).R (Nat.le_refl _)⟩⟩
        have hu : SlV w16 2 (.slice (some ⟨w15.heap.size, 0, none⟩) 1 1) 1 (E.cel md) := ⟨rfl, .inr ⟨_, 0, 1, rfl, Nat.le_refl _, n16.row, n16.wok.R (Nat.le_refl _)⟩⟩
        have X16 : Ext noF w14 w16 := n15.ext.tr n16.ext
        refine do_append (by simp only [evt, evc, upd_eq, Nat.reduceEqDiff, ↓reduceIte, ntT, ntF] <;> rfl) (by simp only [evt, evc, upd_eq, Nat.reduceEqDiff, ↓reduceIte, ntT, ntF] <;> rfl) el_it rfl ni_71 hv hu (by omega) (by decide) (E.one md) fun v17 w17 a17 => ?_
        obtain ⟨cap3, rfl, hcap3, row17, wok17, x17, s17⟩ := app_new a17 (by omega)
        refine ⟨.inr (keep2 x17 ⟨by omega, fun _ h => h⟩ ⟨by omega, fun _ h => h⟩), ?_⟩
        simp only [↓List.toList_toArray, ↓rgd, ↓rgf, ↓reduceIte, Nat.reduceEqDiff, rg, ow_18, ptr_eq]
        refine do_store (by simp only [evt, evc, upd_eq, Nat.reduceEqDiff, ↓reduceIte, ntT, ntF] <;> rfl) (by simp only [evt, evc, upd_eq, Nat.reduceEqDiff, ↓reduceIte, ntT, ntF] <;> rfl) sz_71 rfl (x17.wok (X16.wok wb14)) (by decide) (oc_one rfl rfl) fun w18 x18 r18 s18 => ⟨.inl trivial, ?_⟩
        simp only [↓List.toList_toArray, ↓rgd, ↓rgf, ↓reduceIte, Nat.reduceEqDiff, rg, ow_18]
        refine rest2 _ _ (by simp only [upd_eq, Nat.reduceEqDiff, ↓reduceIte]; exact f0) (by simp only [upd_eq, Nat.reduceEqDiff, ↓reduceIte]; exact f8) (((X16.tr x17).mono fun _ _ _ g => g.elim).tr x18) ⟨w16.heap.size, cap3, (Row.cons.1 r18).1, hcap3, x18.row row17 fun j _ h => by simp only [rng] at h; omega, x18.wok wok17, by omega⟩
      · refine do_bsl rfl (bs_it1 md) fun w15 n15 => ⟨.inr (keep2 n15.ext ⟨by rw [sz_dr]; omega, fun _ h => h⟩ ⟨by rw [sz_dr]; omega, fun _ h => h⟩), ?_⟩
        simp only [↓List.toList_toArray, ↓rgd, ↓rgf, ↓reduceIte, Nat.reduceEqDiff, rg, ow_18]
        have n15 := n15.od
        have s15 := n15.size
        refine do_bsl rfl bs_it0 fun w16 n16 => ⟨.inr (keep2 n16.ext ⟨by omega, fun _ h => h⟩ ⟨by omega, fun _ h => h⟩), ?_⟩
        simp only [↓List.toList_toArray, ↓rgd, ↓rgf, ↓reduceIte, Nat.reduceEqDiff, rg, ow_18]
        have s16 := n16.size
        have hv : SlV w16 2 (.slice (some ⟨w15.heap.size, 0, none⟩) 0 0) 0 [] := ⟨rfl, .inr ⟨_, 0, 0, rfl, Nat.le_refl _, Row.nil _ _ _, n16.wok.R (Nat.le_refl _)⟩⟩
        have hu : SlV w16 2 (.slice (some ⟨w14.heap.size, 0, none⟩) 1 1) 1 (E.cel md) := ⟨rfl, .inr ⟨_, 0, 1, rfl, Nat.le_refl _, n16.ext.row n15.row fun _ _ h => h, (n16.ext.wok n15.wok).R (Nat.le_refl _)⟩⟩
        have X16 : Ext noF w14 w16 := n15.ext.tr n16.ext
        refine do_append (by simp only [evt, evc, upd_eq, Nat.reduceEqDiff, ↓reduceIte, ntT, ntF] <;> rfl) (by simp only [evt, evc, upd_eq, Nat.reduceEqDiff, ↓reduceIte, ntT, ntF] <;> rfl) el_it rfl ni_71 hv hu (by omega) (by decide) (E.one md) fun v17 w17 a17 => ?_
        obtain ⟨cap3, rfl, hcap3, row17, wok17, x17, s17⟩ := app_new a17 (by omega)
        refine ⟨.inr (keep2 x17 ⟨by omega, fun _ h => h⟩ ⟨by omega, fun _ h => h⟩), ?_⟩
        simp only [↓List.toList_toArray, ↓rgd, ↓rgf, ↓reduceIte, Nat.reduceEqDiff, rg, ow_18, ptr_eq]
        refine do_store (by simp only [evt, evc, upd_eq, Nat.reduceEqDiff, ↓reduceIte, ntT, ntF] <;> rfl) (by simp only [evt, evc, upd_eq, Nat.reduceEqDiff, ↓reduceIte, ntT, ntF] <;> rfl) sz_71 rfl (x17.wok (X16.wok wb14)) (by decide) (oc_one rfl rfl) fun w18 x18 r18 s18 => ⟨.inl trivial, ?_⟩
        simp only [↓List.toList_toArray, ↓rgd, ↓rgf, ↓reduceIte, Nat.reduceEqDiff, rg, ow_18]
        refine rest2 _ _ (by simp only [upd_eq, Nat.reduceEqDiff, ↓reduceIte]; exact f0) (by simp only [upd_eq, Nat.reduceEqDiff, ↓reduceIte]; exact f8) (((X16.tr x17).mono fun _ _ _ g => g.elim).tr x18) ⟨w16.heap.size, cap3, (Row.cons.1 r18).1, hcap3, x18.row row17 fun j _ h => by simp only [rng] at h; omega, x18.wok wok17, by omega⟩
    constructor
    · refine do_bsl rfl bs_kid0 fun w11 n11 => ⟨.inr (keep2 n11.ext ⟨by rw [sz_dr]; omega, fun _ h => h⟩ ⟨by rw [sz_dr]; omega, fun _ h => h⟩), ?_⟩
      simp only [↓List.toList_toArray, ↓rgd, ↓rgf, ↓reduceIte, Nat.reduceEqDiff, rg, ow_18]
      have n11 := n11.od
      have s11 := n11.size
      refine do_bsl rfl (bs_kid2 b rb) fun w12 n12 => ⟨.inr (keep2 n12.ext ⟨by omega, fun _ h => h⟩ ⟨by omega, fun _ h => h⟩), ?_⟩
      simp only [↓List.toList_toArray, ↓rgd, ↓rgf, ↓reduceIte, Nat.reduceEqDiff, rg, ow_18]
      have s12 := n12.size
      have hv : SlV w12 1 (.slice (some ⟨w10.heap.size, 0, none⟩) 0 0) 0 [] := ⟨rfl, .inr ⟨_, 0, 0, rfl, Nat.le_refl _, Row.nil _ _ _, (n12.ext.wok n11.wok).R (Nat.le_refl _)⟩⟩
      have hu : SlV w12 1 (.slice (some ⟨w11.heap.size, 0, none⟩) 2 2) 2 [ptr b, ptr rb] := ⟨rfl, .inr ⟨_, 0, 2, rfl, Nat.le_refl _, n12.row, n12.wok.R (Nat.le_refl _)⟩⟩
      have X12 : Ext noF w10 w12 := n11.ext.tr n12.ext
      refine do_append (by simp only [evt, evc, upd_eq, Nat.reduceEqDiff, ↓reduceIte, ntT, ntF] <;> rfl) (by simp only [evt, evc, upd_eq, Nat.reduceEqDiff, ↓reduceIte, ntT, ntF] <;> rfl) el_kid rfl ni_80 hv hu (by omega) (by decide) (by intro v hv; simp at hv; rcases hv with rfl | rfl <;> rfl) fun v13 w13 a13 => ?_
      obtain ⟨cap2, rfl, hcap2, row13, wok13, x13, s13⟩ := app_new a13 (by omega)
      refine ⟨.inr (keep2 x13 ⟨by omega, fun _ h => h⟩ ⟨by omega, fun _ h => h⟩), ?_⟩
      simp only [↓List.toList_toArray, ↓rgd, ↓rgf, ↓reduceIte, Nat.reduceEqDiff, rg, ow_18]
      refine do_store (by simp only [evt, evc, upd_eq, Nat.reduceEqDiff, ↓reduceIte, ntT, ntF] <;> rfl) (by simp only [evt, evc, upd_eq, Nat.reduceEqDiff, ↓reduceIte, ntT, ntF] <;> rfl) sz_80 rfl (x13.wok (X12.wok wbc10)) (by decide) (oc_one rfl rfl) fun w14 x14 r14 s14 => ⟨.inl trivial, ?_⟩
      simp only [↓List.toList_toArray, ↓rgd, ↓rgf, ↓reduceIte, Nat.reduceEqDiff, rg, ow_18]
      refine rest _ _ (by simp only [upd_eq, Nat.reduceEqDiff, ↓reduceIte]; exact e0) (by simp only [upd_eq, Nat.reduceEqDiff, ↓reduceIte] <;> rfl) (by simp only [upd_eq, Nat.reduceEqDiff, ↓reduceIte] <;> rfl) (((X12.tr x13).mono fun _ _ _ g => g.elim).tr x14) ⟨w12.heap.size, cap2, (Row.cons.1 r14).1, hcap2, x14.row row13 fun j _ h => by simp only [rng] at h; omega, by have := x14.wok wok13; rwa [Nat.mul_one] at this, by omega⟩
    · refine do_bsl rfl (bs_kid2 b rb) fun w11 n11 => ⟨.inr (keep2 n11.ext ⟨by rw [sz_dr]; omega, fun _ h => h⟩ ⟨by rw [sz_dr]; omega, fun _ h => h⟩), ?_⟩
      simp only [↓List.toList_toArray, ↓rgd, ↓rgf, ↓reduceIte, Nat.reduceEqDiff, rg, ow_18]
      have n11 := n11.od
      have s11 := n11.size
      refine do_bsl rfl bs_kid0 fun w12 n12 => ⟨.inr (keep2 n12.ext ⟨by omega, fun _ h => h⟩ ⟨by omega, fun _ h => h⟩), ?_⟩
      simp only [↓List.toList_toArray, ↓rgd, ↓rgf, ↓reduceIte, Nat.reduceEqDiff, rg, ow_18]
      have s12 := n12.size
      have hv : SlV w12 1 (.slice (some ⟨w11.heap.size, 0, none⟩) 0 0) 0 [] := ⟨rfl, .inr ⟨_, 0, 0, rfl, Nat.le_refl _, Row.nil _ _ _, n12.wok.R (Nat.le_refl _)⟩⟩
      have hu : SlV w12 1 (.slice (some ⟨w10.heap.size, 0, none⟩) 2 2) 2 [ptr b, ptr rb] := ⟨rfl, .inr ⟨_, 0, 2, rfl, Nat.le_refl _, n12.ext.row n11.row fun _ _ h => h, (n12.ext.wok n11.wok).R (Nat.le_refl _)⟩⟩
      have X12 : Ext noF w10 w12 := n11.ext.tr n12.ext
      refine do_append (by simp only [evt, evc, upd_eq, Nat.reduceEqDiff, ↓reduceIte, ntT, ntF] <;> rfl) (by simp only [evt, evc, upd_eq, Nat.reduceEqDiff, ↓reduceIte, ntT, ntF] <;> rfl) el_kid rfl ni_80 hv hu (by omega) (by decide) (by intro v hv; simp at hv; rcases hv with rfl | rfl <;> rfl) fun v13 w13 a13 => ?_
      obtain ⟨cap2, rfl, hcap2, row13, wok13, x13, s13⟩ := app_new a13 (by omega)
      refine ⟨.inr (keep2 x13 ⟨by omega, fun _ h => h⟩ ⟨by omega, fun _ h => h⟩), ?_⟩
      simp only [↓List.toList_toArray, ↓rgd, ↓rgf, ↓reduceIte, Nat.reduceEqDiff, rg, ow_18]
      refine do_store (by simp only [evt, evc, upd_eq, Nat.reduceEqDiff, ↓reduceIte, ntT, ntF] <;> rfl) (by simp only [evt, evc, upd_eq, Nat.reduceEqDiff, ↓reduceIte, ntT, ntF] <;> rfl) sz_80 rfl (x13.wok (X12.wok wbc10)) (by decide) (oc_one rfl rfl) fun w14 x14 r14 s14 => ⟨.inl trivial, ?_⟩
      simp only [↓List.toList_toArray, ↓rgd, ↓rgf, ↓reduceIte, Nat.reduceEqDiff, rg, ow_18]
      refine rest _ _ (by simp only [upd_eq, Nat.reduceEqDiff, ↓reduceIte]; exact e0) (by simp only [upd_eq, Nat.reduceEqDiff, ↓reduceIte] <;> rfl) (by simp only [upd_eq, Nat.reduceEqDiff, ↓reduceIte] <;> rfl) (((X12.tr x13).mono fun _ _ _ g => g.elim).tr x14) ⟨w12.heap.size, cap2, (Row.cons.1 r14).1, hcap2, x14.row row13 fun j _ h => by simp only [rng] at h; omega, by have := x14.wok wok13; rwa [Nat.mul_one] at this, by omega⟩
  · simp only [↓List.toList_toArray, ↓rgd, ↓rgf, ↓reduceIte, Nat.reduceEqDiff, rg, ow_18]
    refine hK _ _ ?_; clear hK K
    refine W_seq ?_
    refine W_sq fun K hK => (W_text [true] (by kernel_rfl) ?_); simp only [↓List.toList_toArray, ↓rgd, ↓rgf, ↓reduceIte, Nat.reduceEqDiff, rg, ow_18]
    refine hK _ _ ?_; clear hK K
    refine W_false (by simp only [evt, evc, upd_eq, Nat.reduceEqDiff, ↓reduceIte, ntT, ntF] <;> rfl) (W_skip ?_)
    show W _ _ _ _ _ _
    refine W_seq ?_
    have hpl := put_length O κ x xs
    have hpa := put_asc O κ (x := x) ha
    cases hh2 : hit O κ (κ x) xs with
    | true =>
      rw [hh2] at hpl
      refine W_sq fun K hK => (W_text [true] (by kernel_rfl) ?_); simp only [↓List.toList_toArray, ↓rgd, ↓rgf, ↓reduceIte, Nat.reduceEqDiff, rg, ow_18]
      refine hK _ _ ?_; clear hK K
      refine W_true (by simp only [evt, evc, upd_eq, Nat.reduceEqDiff, ↓reduceIte, ntT, ntF] <;> rfl) ?_
      refine W_sq fun K hK => (W_text [true, true, true] (by kernel_rfl) ?_); simp only [↓List.toList_toArray, ↓rgd, ↓rgf, ↓reduceIte, Nat.reduceEqDiff, rg, ow_18]
      refine hK _ _ ?_; clear hK K
      refine W_ret ?_
      simp only [andThen_ret]
      exact (endQ_2 (by simp only [upd_eq, Nat.reduceEqDiff, ↓reduceIte] <;> rfl) (by simp only [upd_eq, Nat.reduceEqDiff, ↓reduceIte] <;> rfl) ⟨rfl, X3.mono fun _ _ _ g => .inl g, F', ⟨c3, by rw [hpl]; exact ct3, hpa, .inr ⟨h, b, rt3, hT'⟩, hF'm, hT'.lt⟩, fun y o g => (hF3 y o g).imp id fun g => by omega⟩)
    | false =>
      rw [hh2] at hpl
      have q1 := wadd1 xs.length (by omega)
      refine W_sq fun K hK => (W_text [true] (by kernel_rfl) ?_); simp only [↓List.toList_toArray, ↓rgd, ↓rgf, ↓reduceIte, Nat.reduceEqDiff, rg, ow_18]
      refine hK _ _ ?_; clear hK K
      refine W_false (by simp only [evt, evc, upd_eq, Nat.reduceEqDiff, ↓reduceIte, ntT, ntF] <;> rfl) (W_skip ?_)
      show W _ _ _ _ _ _
      refine W_sq fun K hK => (W_text [true, true, true, true, true, true, true, false] (by kernel_rfl) ?_); simp only [↓List.toList_toArray, ↓rgd, ↓rgf, ↓reduceIte, Nat.reduceEqDiff, rg, ow_18, e0, ptr_eq, ct3, q1]
      refine do_store (by simp only [evt, evc, upd_eq, Nat.reduceEqDiff, ↓reduceIte, ntT, ntF] <;> rfl) (by simp only [evt, evc, upd_eq, Nat.reduceEqDiff, ↓reduceIte, ntT, ntF] <;> rfl) sz_3 rfl c3.wok (by decide) (oc_one rfl rfl) fun w4 x4 r4 s4 => ⟨trivial, ?_⟩
      simp only [↓List.toList_toArray, ↓rgd, ↓rgf, ↓reduceIte, Nat.reduceEqDiff, rg, ow_18]
      refine hK _ _ ?_; clear hK K
      have c4 := c3.ext x4 fun o _ h3 g => h3 (by simp only [rng] at g; omega)
      have zv4 := vV_at c4.ez
      refine W_sq fun K hK => (W_text [true, true, true, true, true, true, true] (by kernel_rfl) ?_); simp only [↓List.toList_toArray, ↓rgd, ↓rgf, ↓reduceIte, Nat.reduceEqDiff, rg, ow_18, e0, ptr_eq, zv4]
      refine hK _ _ ?_; clear hK K
      have hat : at? O κ (κ x) xs = none := by unfold at?; rw [hh2]; rfl
      refine W_ret (endQ_2 (by simp only [upd_eq, Nat.reduceEqDiff, ↓reduceIte] <;> rfl) (by simp only [upd_eq, Nat.reduceEqDiff, ↓reduceIte] <;> rfl) ⟨by rw [hat]; rfl, X3.trans x4 (fun _ _ g => .inl g) fun y o _ g => .inr ⟨g.1, by simp only [rng] at g; omega⟩, F', ⟨c4, ?_, hpa, .inr ⟨h, b, x4.rd rt3 (by simp only [rng]; omega), ?_⟩, hF'm, fun y o g => ?_⟩,
        fun y o g => (hF3 y o g).imp id fun g => by omega⟩)
      · rw [hpl]; exact (Row.cons.1 r4).1
      · exact hT'.ext x4 fun y o g k => hF'm o (by simp only [rng] at k; rw [← k.1]; exact g)
      · have := hT'.lt y o g; omega
set_option maxHeartbeats 400000 in
set_option maxRecDepth 8000 in
theorem init_again (m d : Nat) (iso : Int) (hd : 2 ≤ d) (v : Value) (w : World) (hc : Cfg w m iso d) : CallK Try.prog 33 #[ptr m, v] w fun _ w' => w = w' := by
  refine calls_of_W [] Try.func33 rfl Try.ntmps33 Try.results33 (by simp) fun e he => ?_
  have e0 : e 0 = ptr m := he 0 _ rfl
  clear he
  have t1 : (((d - 1 : Nat) : Int) != 0) = true := by simp; omega
  refine W_seq ?_
  refine W_sq fun K hK => (W_text [true, true, true, true, true] (by kernel_rfl) ?_); simp only [↓List.toList_toArray, ↓rgd, ↓rgf, ↓reduceIte, Nat.reduceEqDiff, rg, ow_33, e0, ptr_eq, hc.mn, t1]
  refine hK _ _ ?_; clear hK K
  refine W_true (by simp only [evt, evc, upd_eq, Nat.reduceEqDiff, ↓reduceIte, ntT, ntF] <;> rfl) (W_ret ?_)
  simp only [andThen_ret]
  exact endQ_0 rfl
set_option maxHeartbeats 1000000 in
set_option maxRecDepth 8000 in
/-- Setting in an empty map. -/
theorem set_nil' (m d : Nat) (iso : Int) (x : It) (hd : 2 ≤ d) (hd' : d ≤ 128) (w : World) (I : Nat → Nat → Prop) (hI : ∀ y o, I y o → y = m)
    (hinit : ∀ w1, Ext noF w w1 → CallK Try.prog 33 #[ptr m, .int .i64 0] w1 fun _ w' => Ext I w1 w' ∧ Cfg w' m iso d ∧ w'.heap.size = w1.heap.size) (hroot : rd w m 2 = some (.pointer none)) :
    CallK Try.prog 18 #[ptr m, kV x.1, vV x] w fun v w' => v = .tuple #[vV zIt, .bool false] ∧ Ext (fun y o => mapF m noF y o ∨ I y o) w w' ∧ ∃ F', MapAt w' m d iso [x] F' ∧ ∀ y o, F' y o → w.heap.size ≤ y := by
  have hml := rd_lt hroot
  refine calls_of_W [.tmp 6, .tmp 7] Try.func18 rfl Try.ntmps18 Try.results18 (by simp) fun e he => ?_
  have e0 : e 0 = ptr m := he 0 _ rfl
  have e1 : e 1 = kV x.1 := he 1 _ rfl
  have e2 : e 2 = .int .i64 x.2 := he 2 _ rfl
  clear he
  refine W_sq fun K hK => (W_text [true, true] (by kernel_rfl) ?_); simp only [↓List.toList_toArray, ↓rgd, ↓rgf, ↓reduceIte, Nat.reduceEqDiff, rg, ow_18]
  refine hK _ _ ?_; clear hK K
  refine W_sq fun K hK => (W_text [true, true, true, false, false] (by kernel_rfl) ?_); simp only [↓List.toList_toArray, ↓rgd, ↓rgf, ↓reduceIte, Nat.reduceEqDiff, rg, ow_18, e1, e2, bu_it]
  refine do_alloc z_it fun w1 n1 => ⟨trivial, ?_⟩
  simp only [↓List.toList_toArray, ↓rgd, ↓rgf, ↓reduceIte, Nat.reduceEqDiff, rg, ow_18]
  refine do_store (by simp only [evt, evc, upd_eq, Nat.reduceEqDiff, ↓reduceIte, ntT, ntF] <;> rfl) (by simp only [evt, evc, upd_eq, Nat.reduceEqDiff, ↓reduceIte, ntT, ntF] <;> rfl) sz_47 (itV_len x) n1.wok (by decide) (itV_oc x) fun w2 x2 r2 s2 => ⟨trivial, ?_⟩
  simp only [↓List.toList_toArray, ↓rgd, ↓rgf, ↓reduceIte, Nat.reduceEqDiff, rg, ow_18]
  refine hK _ _ ?_; clear hK K
  have s1 := n1.size
  have X2 : Ext noF w w2 := noF_of n1.ext x2 fun y o hy h => by simp only [rng] at h; omega
  have rx : Row w2 w.heap.size 0 (E.cel x) := r2
  have rt2 := X2.rd hroot (fun h => h)
  refine W_seq ?_
  refine W_sq fun K hK => (W_text [true, true, true, true, true] (by kernel_rfl) ?_); simp only [↓List.toList_toArray, ↓rgd, ↓rgf, ↓reduceIte, Nat.reduceEqDiff, rg, ow_18, e0, ptr_eq, rt2]
  refine hK _ _ ?_; clear hK K
  refine W_true (by simp only [evt, evc, upd_eq, Nat.reduceEqDiff, ↓reduceIte, ntT, ntF] <;> rfl) ?_
  refine W_sq fun K hK => (W_text [true, false] (by kernel_rfl) ?_); simp only [↓List.toList_toArray, ↓rgd, ↓rgf, ↓reduceIte, Nat.reduceEqDiff, rg, ow_18, e0]
  refine do_call fn_33 (by simp only [evt, evc, upd_eq, Nat.reduceEqDiff, ↓reduceIte, maT, maC, maN, isnN, isnS] <;> rfl) (hinit w2 X2) ?_
  rintro _ w2b ⟨xi, c2b, si⟩
  refine ⟨trivial, ?_⟩
  have rxb : Row w2b w.heap.size 0 (E.cel x) := xi.row rx fun j _ g => by have := hI _ _ g; omega
  simp only [↓List.toList_toArray, ↓rgd, ↓rgf, ↓reduceIte, Nat.reduceEqDiff, rg, ow_18]
  refine hK _ _ ?_; clear hK K
  refine W_sq fun K hK => (W_text [true, true, false, true, true, false] (by kernel_rfl) ?_); simp only [↓List.toList_toArray, ↓rgd, ↓rgf, ↓reduceIte, Nat.reduceEqDiff, rg, ow_18, e0]
  refine do_call fn_34 (by simp only [evt, evc, upd_eq, Nat.reduceEqDiff, ↓reduceIte, maT, maC, maN, isnN, isnS] <;> rfl) (newNode_any m true iso w2b c2b.iso) ?_
  rintro _ w3 ⟨b, rfl, x3, nn⟩
  refine ⟨trivial, ?_⟩
  simp only [↓List.toList_toArray, ↓rgd, ↓rgf, ↓reduceIte, Nat.reduceEqDiff, rg, ow_18, ptr_eq]
  have c3 := c2b.ext x3 fun _ _ _ h => h
  refine do_store (by simp only [evt, evc, upd_eq, Nat.reduceEqDiff, ↓reduceIte, ntT, ntF] <;> rfl) (by simp only [evt, evc, upd_eq, Nat.reduceEqDiff, ↓reduceIte, ntT, ntF] <;> rfl) sz_65 rfl (c3.wok.mono (by decide)) (Nat.le_refl 3) (oc_one rfl rfl) fun w4 x4 r4 s4 => ⟨trivial, ?_⟩
  simp only [↓List.toList_toArray, ↓rgd, ↓rgf, ↓reduceIte, Nat.reduceEqDiff, rg, ow_18]
  refine hK _ _ ?_; clear hK K
  have nnge := nn.ge
  have s3 := x3.size
  have hbl := wok_lt nn.wb
  have rt4 : rd w4 m 2 = some (ptr b) := (Row.cons.1 r4).1
  have c4 := c3.ext x4 fun o h2 _ g => h2 (by simp only [rng] at g; omega)
  have rx4 : Row w4 w.heap.size 0 (E.cel x) := x4.row (x3.row rxb fun _ _ h => h) fun j _ h => by simp only [rng] at h; omega
  have ix4 := iA_at rx4
  have wb4 := x4.wok nn.wb
  have M4 : readsB (some (some [m, w.heap.size])) m = true := by simp [readsB]
  have M5 : readsB (some (some [m, w.heap.size])) w.heap.size = true := by simp [readsB]
  refine W_sq fun K hK => (W_draw (some (some [m, w.heap.size])) (some 10) [(0, 0, 0), (0, 1, 0), (0, 2, 0), (0, 3, 0), (0, 5, 0), (2, 4, 6), (1, 7, 0), (0, 8, 0), (0, 9, 0), (1, 10, 0)] mixed (by kernel_rfl) ?_); simp only [↓List.toList_toArray, ↓rgd, ↓rgf, ↓reduceIte, Nat.reduceEqDiff, rg, ow_18, e0, ptr_eq, rt4, ix4, M4, M5]
  have rest2 : ∀ e'' w', e'' 0 = ptr m → Ext (rng b 2 1) w4 w' →
      (∃ bi2 cap3, rd w' b 2 = some (.slice (some ⟨bi2, 0, none⟩) 1 cap3) ∧ 1 ≤ cap3 ∧ Row w' bi2 0 (E.cel x) ∧ wok w' bi2 (cap3 * 2) ∧ w4.heap.size ≤ bi2) → K e'' w' := by
    intro e'' w18 f0 x18 ⟨bi2, cap3, p0, p2, p3, p4, p5⟩
    refine hK _ _ ?_; clear hK K
    have s18 := x18.size
    have hbi18 := wok_lt p4
    have rt18 : rd w18 m 2 = some (ptr b) := x18.rd rt4 (by simp only [rng]; omega)
    have c18 := c4.ext x18 fun o _ _ g => by simp only [rng] at g; omega
    refine W_sq fun K hK => (W_text [true, true, true, true, true, true, false] (by kernel_rfl) ?_); simp only [↓List.toList_toArray, ↓rgd, ↓rgf, ↓reduceIte, Nat.reduceEqDiff, rg, ow_18, f0, ptr_eq, rt18]
    refine do_store (by simp only [evt, evc, upd_eq, Nat.reduceEqDiff, ↓reduceIte, ntT, ntF] <;> rfl) (by simp only [evt, evc, upd_eq, Nat.reduceEqDiff, ↓reduceIte, ntT, ntF] <;> rfl) sz_3 rfl (x18.wok wb4) (by decide) (oc_one rfl rfl) fun w19 x19 r19 s19 => ⟨trivial, ?_⟩
    simp only [↓List.toList_toArray, ↓rgd, ↓rgf, ↓reduceIte, Nat.reduceEqDiff, rg, ow_18]
    refine hK _ _ ?_; clear hK K
    have c19 := c18.ext x19 fun o _ _ g => by simp only [rng] at g; omega
    refine W_sq fun K hK => (W_text [true, true, true, false] (by kernel_rfl) ?_); simp only [↓List.toList_toArray, ↓rgd, ↓rgf, ↓reduceIte, Nat.reduceEqDiff, rg, ow_18, f0, ptr_eq]
    refine do_store (by simp only [evt, evc, upd_eq, Nat.reduceEqDiff, ↓reduceIte, ntT, ntF] <;> rfl) (by simp only [evt, evc, upd_eq, Nat.reduceEqDiff, ↓reduceIte, ntT, ntF] <;> rfl) sz_3 rfl (c19.wok.mono (by decide)) (Nat.le_refl 4) (oc_one rfl rfl) fun w20 x20 r20 s20 => ⟨trivial, ?_⟩
    simp only [↓List.toList_toArray, ↓rgd, ↓rgf, ↓reduceIte, Nat.reduceEqDiff, rg, ow_18]
    refine hK _ _ ?_; clear hK K
    have c20 := c19.ext x20 fun o _ h3 g => h3 (by simp only [rng] at g; omega)
    have zv := vV_at c20.ez
    refine W_sq fun K hK => (W_text [true, true, true, true, true, true, true] (by kernel_rfl) ?_); simp only [↓List.toList_toArray, ↓rgd, ↓rgf, ↓reduceIte, Nat.reduceEqDiff, rg, ow_18, f0, ptr_eq, zv]
    refine hK _ _ ?_; clear hK K
    have X20 : Ext (fun y o => mapF m noF y o ∨ I y o) w w20 := by
      refine ((((((X2.trans xi (H := fun y o => mapF m noF y o ∨ I y o) (fun _ _ g => g.elim) fun y o _ g => .inr g).trans x3 (fun _ _ g => g) fun _ _ _ g => g.elim).trans x4 (fun _ _ g => g) fun y o _ g => ?_).trans x18 (fun _ _ g => g) fun y o _ g => ?_).trans x19 (fun _ _ g => g) fun y o _ g => ?_).trans x20 (fun _ _ g => g) fun y o _ g => ?_)
      · simp only [rng] at g; exact .inl (.inr ⟨g.1, by omega⟩)
      · simp only [rng] at g; omega
      · simp only [rng] at g; omega
      · simp only [rng] at g; exact .inl (.inr ⟨g.1, by omega⟩)
    have tr : Tr E iso (d - 1) (2 * d - 1) 0 w20 1 b [x] (ownF E b bi2 0 cap3) := by
      refine ⟨bi2, 0, cap3, ⟨x20.rd (x19.rd (x18.rd (x4.rd nn.h0 (by simp only [rng]; omega)) (by simp only [rng]; omega)) (by simp only [rng]; omega)) (by simp only [rng]; omega), ?_, x20.rd (x19.rd p0 (by simp only [rng]; omega)) (by simp only [rng]; omega),
        x20.rd (x19.rd (x18.rd (x4.rd (nn.leaf rfl) (by simp only [rng]; omega)) (by simp only [rng]; omega)) (by simp only [rng]; omega)) (by simp only [rng]; omega), x20.wok (x19.wok (x18.wok wb4)), ?_, by rw [Nat.zero_add]; exact x20.wok (x19.wok p4), p2, by omega⟩,
        Nat.le_refl _, (by show 1 ≤ 2 * d - 1; omega), fun _ _ => Iff.rfl⟩
      · exact x20.rd (Row.cons.1 r19).1 (by simp only [rng]; omega)
      · rw [flat_one]; exact x20.row (x19.row p3 fun j _ h => by simp only [rng] at h; omega) fun j _ h => by simp only [rng] at h; omega
    have hown : ∀ y o, ownF E b bi2 0 cap3 y o → w2.heap.size ≤ y := fun y o g => by simp only [ownF, rng] at g; omega
    refine W_ret ?_
    simp only [andThen_ret]
    exact endQ_2 (by simp only [upd_eq, Nat.reduceEqDiff, ↓reduceIte] <;> rfl) (by simp only [upd_eq, Nat.reduceEqDiff, ↓reduceIte] <;> rfl) ⟨rfl, X20, _, ⟨c20, (Row.cons.1 r20).1, List.pairwise_singleton _ _, .inr ⟨0, b, x20.rd (x19.rd rt18 (by simp only [rng]; omega)) (by simp only [rng]; omega), tr⟩, fun o g => by have := hown _ _ g; omega, tr.lt⟩,
      fun y o g => by have := hown _ _ g; omega⟩
  constructor
  · refine do_bsl rfl bs_it0 fun w15 n15 => ⟨.inr (keep2 n15.ext ⟨by rw [sz_dr]; omega, fun _ h => h⟩ ⟨by rw [sz_dr]; omega, fun _ h => h⟩), ?_⟩
    simp only [↓List.toList_toArray, ↓rgd, ↓rgf, ↓reduceIte, Nat.reduceEqDiff, rg, ow_18]
    have n15 := n15.od
    have s15 := n15.size
    refine do_bsl rfl (bs_it1 x) fun w16 n16 => ⟨.inr (keep2 n16.ext ⟨by omega, fun _ h => h⟩ ⟨by omega, fun _ h => h⟩), ?_⟩
    simp only [↓List.toList_toArray, ↓rgd, ↓rgf, ↓reduceIte, Nat.reduceEqDiff, rg, ow_18]
    have s16 := n16.size
    have hv : SlV w16 2 (.slice (some ⟨w4.heap.size, 0, none⟩) 0 0) 0 [] := ⟨rfl, .inr ⟨_, 0, 0, rfl, Nat.le_refl _, Row.nil _ _ _, (n16.ext.wok n15.wok).R (Nat.le_refl _)⟩⟩
    have hu : SlV w16 2 (.slice (some ⟨w15.heap.size, 0, none⟩) 1 1) 1 (E.cel x) := ⟨rfl, .inr ⟨_, 0, 1, rfl, Nat.le_refl _, n16.row, n16.wok.R (Nat.le_refl _)⟩⟩
    have X16 : Ext noF w4 w16 := n15.ext.tr n16.ext
    refine do_append (by simp only [evt, evc, upd_eq, Nat.reduceEqDiff, ↓reduceIte, ntT, ntF] <;> rfl) (by simp only [evt, evc, upd_eq, Nat.reduceEqDiff, ↓reduceIte, ntT, ntF] <;> rfl) el_it rfl ni_71 hv hu (by omega) (by decide) (E.one x) fun v17 w17 a17 => ?_
    obtain ⟨cap3, rfl, hcap3, row17, wok17, x17, s17⟩ := app_new a17 (by omega)
    refine ⟨.inr (keep2 x17 ⟨by omega, fun _ h => h⟩ ⟨by omega, fun _ h => h⟩), ?_⟩
    simp only [↓List.toList_toArray, ↓rgd, ↓rgf, ↓reduceIte, Nat.reduceEqDiff, rg, ow_18, ptr_eq]
    refine do_store (by simp only [evt, evc, upd_eq, Nat.reduceEqDiff, ↓reduceIte, ntT, ntF] <;> rfl) (by simp only [evt, evc, upd_eq, Nat.reduceEqDiff, ↓reduceIte, ntT, ntF] <;> rfl) sz_71 rfl (x17.wok (X16.wok wb4)) (by decide) (oc_one rfl rfl) fun w18 x18 r18 s18 => ⟨.inl trivial, ?_⟩
    simp only [↓List.toList_toArray, ↓rgd, ↓rgf, ↓reduceIte, Nat.reduceEqDiff, rg, ow_18]
    refine rest2 _ _ (by simp only [upd_eq, Nat.reduceEqDiff, ↓reduceIte]; exact e0) (((X16.tr x17).mono fun _ _ _ g => g.elim).tr x18) ⟨w16.heap.size, cap3, (Row.cons.1 r18).1, hcap3, x18.row row17 fun j _ h => by simp only [rng] at h; omega, x18.wok wok17, by omega⟩
  · refine do_bsl rfl (bs_it1 x) fun w15 n15 => ⟨.inr (keep2 n15.ext ⟨by rw [sz_dr]; omega, fun _ h => h⟩ ⟨by rw [sz_dr]; omega, fun _ h => h⟩), ?_⟩
    simp only [↓List.toList_toArray, ↓rgd, ↓rgf, ↓reduceIte, Nat.reduceEqDiff, rg, ow_18]
    have n15 := n15.od
    have s15 := n15.size
    refine do_bsl rfl bs_it0 fun w16 n16 => ⟨.inr (keep2 n16.ext ⟨by omega, fun _ h => h⟩ ⟨by omega, fun _ h => h⟩), ?_⟩
    simp only [↓List.toList_toArray, ↓rgd, ↓rgf, ↓reduceIte, Nat.reduceEqDiff, rg, ow_18]
    have s16 := n16.size
    have hv : SlV w16 2 (.slice (some ⟨w15.heap.size, 0, none⟩) 0 0) 0 [] := ⟨rfl, .inr ⟨_, 0, 0, rfl, Nat.le_refl _, Row.nil _ _ _, n16.wok.R (Nat.le_refl _)⟩⟩
    have hu : SlV w16 2 (.slice (some ⟨w4.heap.size, 0, none⟩) 1 1) 1 (E.cel x) := ⟨rfl, .inr ⟨_, 0, 1, rfl, Nat.le_refl _, n16.ext.row n15.row fun _ _ h => h, (n16.ext.wok n15.wok).R (Nat.le_refl _)⟩⟩
    have X16 : Ext noF w4 w16 := n15.ext.tr n16.ext
    refine do_append (by simp only [evt, evc, upd_eq, Nat.reduceEqDiff, ↓reduceIte, ntT, ntF] <;> rfl) (by simp only [evt, evc, upd_eq, Nat.reduceEqDiff, ↓reduceIte, ntT, ntF] <;> rfl) el_it rfl ni_71 hv hu (by omega) (by decide) (E.one x) fun v17 w17 a17 => ?_
    obtain ⟨cap3, rfl, hcap3, row17, wok17, x17, s17⟩ := app_new a17 (by omega)
    refine ⟨.inr (keep2 x17 ⟨by omega, fun _ h => h⟩ ⟨by omega, fun _ h => h⟩), ?_⟩
    simp only [↓List.toList_toArray, ↓rgd, ↓rgf, ↓reduceIte, Nat.reduceEqDiff, rg, ow_18, ptr_eq]
    refine do_store (by simp only [evt, evc, upd_eq, Nat.reduceEqDiff, ↓reduceIte, ntT, ntF] <;> rfl) (by simp only [evt, evc, upd_eq, Nat.reduceEqDiff, ↓reduceIte, ntT, ntF] <;> rfl) sz_71 rfl (x17.wok (X16.wok wb4)) (by decide) (oc_one rfl rfl) fun w18 x18 r18 s18 => ⟨.inl trivial, ?_⟩
    simp only [↓List.toList_toArray, ↓rgd, ↓rgf, ↓reduceIte, Nat.reduceEqDiff, rg, ow_18]
    refine rest2 _ _ (by simp only [upd_eq, Nat.reduceEqDiff, ↓reduceIte]; exact e0) (((X16.tr x17).mono fun _ _ _ g => g.elim).tr x18) ⟨w16.heap.size, cap3, (Row.cons.1 r18).1, hcap3, x18.row row17 fun j _ h => by simp only [rng] at h; omega, x18.wok wok17, by omega⟩
theorem set_nil (m d : Nat) (iso : Int) (x : It) (hd : 2 ≤ d) (hd' : d ≤ 128) (w : World) (hc : Cfg w m iso d) (hroot : rd w m 2 = some (.pointer none)) :
    CallK Try.prog 18 #[ptr m, kV x.1, vV x] w fun v w' => v = .tuple #[vV zIt, .bool false] ∧ Ext (mapF m noF) w w' ∧ ∃ F', MapAt w' m d iso [x] F' ∧ ∀ y o, F' y o → w.heap.size ≤ y := by
  refine CallK_mono (set_nil' m d iso x hd hd' w noF (fun _ _ g => g.elim) (fun w1 X => CallK_mono (init_again m d iso hd (.int .i64 0) w1 (hc.ext X fun _ _ _ h => h)) ?_) hroot) ?_
  · rintro _ _ rfl
    exact ⟨Ext.refl _ _, hc.ext X fun _ _ _ h => h, rfl⟩
  · rintro v w' ⟨rfl, h2, h3⟩
    exact ⟨rfl, h2.mono fun y o _ g => g.elim id fun g => g.elim, h3⟩
end Go.Proofs.Ytmbbhmkenmliiaa
/-
  Items as a program's cells; the list that a map holds behind the settings. No condition.
-/
set_option linter.unusedSimpArgs false
set_option linter.unusedVariables false
namespace Go.Proofs.Ytmbbhmkenmliiaa
open Go Go.Proofs
/-- A list's items as a program's cells: key, then value. -/
def Ei : Enc It where
  cel x := [.int .i64 x.1, .int .i64 x.2]
  sz := 2
  len _ := rfl
  one x v hv := by simp at hv; rcases hv with rfl | rfl <;> rfl
  pos := by decide
theorem Ei_sz : Ei.sz = 2 := rfl
def iV (x : It) : Value := .agg #[.int .i64 x.1, .int .i64 x.2]
/-- The list that a map holds behind the settings. -/
def tree (l : List It) : List It := l.foldl (fun xs x => put O κ x xs) []
theorem tree_succ (l : List It) (i : Nat) (x : It) (h : l[i]? = some x) : tree (l.take (i + 1)) = put O κ x (tree (l.take i)) := by
  rw [List.take_add_one, h]; simp [tree]
theorem tree_len (l : List It) : (tree l).length ≤ l.length := by
  have : ∀ (l : List It) (xs : List It), (l.foldl (fun xs x => put O κ x xs) xs).length ≤ xs.length + l.length := by
    intro l
    induction l with
    | nil => intro xs; simp
    | cons x l ih => intro xs; have h1 := ih (put O κ x xs); have h2 := put_length O κ x xs; simp only [List.foldl_cons, List.length_cons]; split at h2 <;> omega
  have h := this l []
  simp only [List.length_nil, Nat.zero_add] at h
  exact h
theorem put_nil (x : It) : put O κ x [] = [x] := rfl
theorem z_item : zK Try.prog 27 = some [.int .i64 0, .int .i64 0] := by kernel_rfl
theorem iV_at {w : World} {b o : Nat} {l : List It} (h : Row w b o (flat Ei l)) {i : Nat} {x : It} (hi : l[i]? = some x) : rdA w b (o + i * 2) 2 = some (iV x) :=
  (row_at Ei h hi).rdA 2 (by simp [Ei])
/-- A list of items as a slice. -/
def SlI (w : World) (v : Value) (l : List It) : Prop := SlV w 2 v l.length (flat Ei l)
theorem bu_item (a b : Int) : buildV Try.prog 27 [(0, .int .i64 a), (1, .int .i64 b)] = some (iV (a, b)) := by kernel_rfl
end Go.Proofs.Ytmbbhmkenmliiaa
/-
  A map that is grown from a list; its length. No condition.
-/
set_option linter.unusedSimpArgs false
set_option linter.unusedVariables false
namespace Go.Proofs.Ytmbbhmkenmliiaa
open Go Go.Proofs
/-- Setting in whatever map. -/
theorem set_map (m d : Nat) (iso : Int) (x : It) (hd : 2 ≤ d) (hd' : d ≤ 128) (xs : List It) (F : Nat → Nat → Prop) (w : World) (hM : MapAt w m d iso xs F) (hbig : xs.length < 1152921504606846976) :
    CallK Try.prog 18 #[ptr m, kV x.1, vV x] w fun v w' => v = .tuple #[vV ((at? O κ (κ x) xs).getD zIt), .bool (hit O κ (κ x) xs)] ∧ Ext (mapF m F) w w' ∧
      ∃ F', MapAt w' m d iso (put O κ x xs) F' ∧ ∀ y o, F' y o → F y o ∨ w.heap.size ≤ y := by
  rcases hM.root with ⟨rfl, hr⟩ | ⟨h, b, hr, ht⟩
  · refine CallK_mono (set_nil m d iso x hd hd' w hM.cfg hr) ?_
    rintro v w' ⟨rfl, hX, F', hM', hF'⟩
    exact ⟨rfl, hX.mono fun y o _ g => g.imp (fun g => g.elim) id, F', by rw [put_nil]; exact hM', fun y o g => .inr (hF' y o g)⟩
  · exact set_root m d iso x hd hd' _ h b xs F w rfl hM.cfg hM.cnt hM.asc hr ht hM.off hbig
set_option maxHeartbeats 400000 in
set_option maxRecDepth 8000 in
theorem grow_any (d : Nat) (hd : 2 ≤ d) (hd' : d ≤ 128) (l : List It) (lv : Value) (w : World) (hl : SlI w lv l) (hbig : l.length ≤ 2147483647) :
    CallK Try.prog 11 #[.int .i64 d, lv] w fun v w' => Ext noF w w' ∧ ∃ m F, v = ptr m ∧ MapAt w' m d 0 (tree l) F ∧ w.heap.size ≤ m ∧ ∀ y o, F y o → w.heap.size ≤ y := by
  refine calls_of_W [.tmp 4] Try.func11 rfl Try.ntmps11 Try.results11 (by simp) fun e he => ?_
  have e0 : e 0 = .int .i64 d := he 0 _ rfl
  have e1 : e 1 = lv := he 1 _ rfl
  clear he
  refine W_sq fun K hK => (W_text [true] (by kernel_rfl) ?_); simp only [↓List.toList_toArray, ↓rgd, ↓rgf, ↓reduceIte, Nat.reduceEqDiff, rg, ow_11]
  refine hK _ _ ?_; clear hK K
  refine W_sq fun K hK => (W_text [true, false, true] (by kernel_rfl) ?_); simp only [↓List.toList_toArray, ↓rgd, ↓rgf, ↓reduceIte, Nat.reduceEqDiff, rg, ow_11, e0]
  refine do_call fn_17 (by simp only [evt, evc, upd_eq, Nat.reduceEqDiff, ↓reduceIte, maT, maC, maN, isnN, isnS] <;> rfl) (newMap_any d hd hd' w) ?_
  rintro _ w1 ⟨m, rfl, hm, X1, c1, r1, k1⟩
  refine ⟨trivial, ?_⟩
  simp only [↓List.toList_toArray, ↓rgd, ↓rgf, ↓reduceIte, Nat.reduceEqDiff, rg, ow_11]
  refine hK _ _ ?_; clear hK K
  obtain ⟨a, c, hlv⟩ : ∃ a c, lv = .slice a l.length c := by
    rcases hl.2 with ⟨rfl, h⟩ | ⟨b, o, cap, rfl, _⟩
    · exact ⟨none, 0, by rw [h]⟩
    · exact ⟨_, _, rfl⟩
  refine W_seq ?_
  refine W_sq fun K hK => (W_text [true, true, true] (by kernel_rfl) ?_); simp only [↓List.toList_toArray, ↓rgd, ↓rgf, ↓reduceIte, Nat.reduceEqDiff, rg, ow_11, e1, hlv]
  refine hK _ _ ?_; clear hK K
  refine W_block (W_loop (fun mm e w' => ∃ i : Nat, mm = l.length - i ∧ i ≤ l.length ∧ e 10 = lv ∧ e 5 = ptr m ∧ e 11 = .int .i64 l.length ∧ e 12 = .int .i64 i ∧ Ext noF w w' ∧ ∃ F, MapAt w' m d 0 (tree (l.take i)) F ∧ ∀ y o, F y o → w.heap.size ≤ y)
    l.length ⟨0, by simp, by simp, ?_, ?_, ?_, ?_, X1, noF, ⟨c1, k1, List.Pairwise.nil, .inl ⟨rfl, r1⟩, fun _ h => h, fun _ _ h => h.elim⟩, fun _ _ h => h.elim⟩ ?_)
  · simp only [upd_eq, Nat.reduceEqDiff, ↓reduceIte]; rw [hlv]
  · simp only [upd_eq, Nat.reduceEqDiff, ↓reduceIte]
  · simp only [upd_eq, Nat.reduceEqDiff, ↓reduceIte]
  · simp only [upd_eq, Nat.reduceEqDiff, ↓reduceIte]; rfl
  · clear X1 c1 r1 k1 e0 e1 e
    rintro mm e w' ⟨i, rfl, hi, e10, e5, e11, e12, X, F, hM, hF⟩
    by_cases hlt : i < l.length
    · have ht := lt_tt i l.length hlt
      refine W_sq fun K hK => (W_text [true] (by kernel_rfl) ?_); simp only [↓List.toList_toArray, ↓rgd, ↓rgf, ↓reduceIte, Nat.reduceEqDiff, rg, ow_11, e11, e12, ht]
      refine hK _ _ ?_; clear hK K
      refine W_seq (W_true (by simp only [evt, evc, upd_eq, Nat.reduceEqDiff, ↓reduceIte, ntT, ntF] <;> rfl) (W_skip ?_))
      show W _ _ _ _ _ _
      obtain ⟨x, hx⟩ : ∃ x, l[i]? = some x := ⟨_, List.getElem?_eq_getElem hlt⟩
      obtain ⟨lb, lo, cap, rfl, hlc, row, wl⟩ : ∃ b o cap, lv = .slice (some ⟨b, o, none⟩) l.length cap ∧ l.length ≤ cap ∧ Row w b o (flat Ei l) ∧ wokR w b o (cap * 2) := by
        rcases hl.2 with ⟨_, h⟩ | h
        · omega
        · exact h
      have row' : Row w' lb lo (flat Ei l) := X.row row fun _ _ h => h
      have ix := iV_at row' hx
      refine W_seq (W_block ?_)
      refine W_sq fun K hK => (W_text [true, true, false, false] (by kernel_rfl) ?_); simp only [↓List.toList_toArray, ↓rgd, ↓rgf, ↓reduceIte, Nat.reduceEqDiff, rg, ow_11, e10, e12, hlt, ix]
      refine do_alloc z_item fun w2 n2 => ⟨trivial, ?_⟩
      simp only [↓List.toList_toArray, ↓rgd, ↓rgf, ↓reduceIte, Nat.reduceEqDiff, rg, ow_11]
      refine do_store (v := iV x) (by simp only [evt, evc, upd_eq, Nat.reduceEqDiff, ↓reduceIte, ntT, ntF] <;> rfl) (by simp only [evt, evc, upd_eq, Nat.reduceEqDiff, ↓reduceIte, ntT, ntF] <;> rfl) sz_27 rfl n2.wok (by decide) (Ei.one x) fun w3 x3 r3 s3 => ⟨trivial, ?_⟩
      simp only [↓List.toList_toArray, ↓rgd, ↓rgf, ↓reduceIte, Nat.reduceEqDiff, rg, ow_11]
      refine hK _ _ ?_; clear hK K
      have X3 : Ext noF w' w3 := noF_of n2.ext x3 fun y o hy h => by simp only [rng] at h; omega
      have rx : Row w3 w'.heap.size 0 [kV x.1, .int .i64 x.2] := r3
      have v0 := (Row.cons.1 rx).1
      have v1 := (Row.cons.1 (Row.cons.1 rx).2).1
      have hM3 : MapAt w3 m d 0 (tree (l.take i)) F := ⟨hM.cfg.ext X3 fun _ _ _ h => h, X3.rd hM.cnt fun h => h, hM.asc, by
        rcases hM.root with ⟨h1, h2⟩ | ⟨h, b, h1, h2⟩
        · exact .inl ⟨h1, X3.rd h2 fun h => h⟩
        · exact .inr ⟨h, b, X3.rd h1 fun h => h, h2.ext X3 fun _ _ _ h => h⟩, hM.off, fun y o g => Nat.lt_of_lt_of_le (hM.lt y o g) X3.size⟩
      have htl := tree_len (l.take i)
      have htk : (l.take i).length ≤ i := by rw [List.length_take]; omega
      refine W_rg fun K hK => (W_text [true, true, true, true, true, false] (by kernel_rfl) ?_); simp only [↓List.toList_toArray, ↓rgd, ↓rgf, ↓reduceIte, Nat.reduceEqDiff, rg, ow_11, e5, v0, v1]
      refine do_call fn_18 (by simp only [evt, evc, upd_eq, Nat.reduceEqDiff, ↓reduceIte, maT, maC, maN, isnN, isnS] <;> rfl) (set_map m d 0 x hd hd' _ F w3 hM3 (by omega)) ?_
      rintro v w4 ⟨-, x4, F', hM4, hF'⟩
      refine ⟨trivial, ?_⟩
      simp only [↓List.toList_toArray, ↓rgd, ↓rgf, ↓reduceIte, Nat.reduceEqDiff, rg, ow_11]
      refine hK _ _ ?_; clear hK K
      show W _ _ _ _ _ _
      have q1 := wadd1 i (by omega)
      refine W_rg fun K hK => (W_text [true, true] (by kernel_rfl) ?_); simp only [↓List.toList_toArray, ↓rgd, ↓rgf, ↓reduceIte, Nat.reduceEqDiff, rg, ow_11, e12, q1]
      refine hK _ _ ?_; clear hK K
      have s3' := X3.size
      have sX := X.size
      refine ⟨_, ?_, i + 1, rfl, hlt, ?_, ?_, ?_, ?_, ?_, F', by rw [tree_succ l i x hx]; exact hM4, fun y o g => ?_⟩
      · omega
      · simp only [upd_eq, Nat.reduceEqDiff, ↓reduceIte]; exact e10
      · simp only [upd_eq, Nat.reduceEqDiff, ↓reduceIte]; exact e5
      · simp only [upd_eq, Nat.reduceEqDiff, ↓reduceIte]; exact e11
      · simp only [upd_eq, Nat.reduceEqDiff, ↓reduceIte]
      · refine noF_of (X.tr X3) x4 fun y o hy g => ?_
        rcases g with g | g
        · have := hF y o g; omega
        · omega
      · rcases hF' y o g with g | g
        · exact hF y o g
        · omega
    · obtain rfl : i = l.length := by omega
      have ht := lt_ff l.length l.length (by omega)
      refine W_sq fun K hK => (W_text [true] (by kernel_rfl) ?_); simp only [↓List.toList_toArray, ↓rgd, ↓rgf, ↓reduceIte, Nat.reduceEqDiff, rg, ow_11, e11, e12, ht]
      refine hK _ _ ?_; clear hK K
      refine W_seq (W_false (by simp only [evt, evc, upd_eq, Nat.reduceEqDiff, ↓reduceIte, ntT, ntF] <;> rfl) (W_exit ?_))
      simp only [andThen_exit, inBlk_exit, andThen_normal, ↓reduceIte]
      refine W_sq fun K hK => (W_text [true, true] (by kernel_rfl) ?_); simp only [↓List.toList_toArray, ↓rgd, ↓rgf, ↓reduceIte, Nat.reduceEqDiff, rg, ow_11, e5]
      refine hK _ _ ?_; clear hK K
      rw [List.take_length] at hM
      exact W_ret (endQ_1 (by simp only [upd_eq, Nat.reduceEqDiff, ↓reduceIte] <;> rfl) ⟨X, m, F, rfl, hM, hm, hF⟩)
end Go.Proofs.Ytmbbhmkenmliiaa
/-
  The map laws' rows: closed facts of the program, and how the arguments are read. No condition.
-/
set_option linter.unusedSimpArgs false
set_option linter.unusedVariables false
namespace Go.Proofs.Ytmbbhmkenmliiaa
open Go Go.Proofs Go.ChangeShapes Go.WideShapes Go.ChangeAt Go.RowKit
theorem own : ownKnob Try.prog.godebug = none := by kernel_rfl
theorem laidOut : laidOutB Try.prog = true := by kernel_rfl
theorem item_td : ∃ f0 f1 : Field, Try.prog.underlying 27 = some (.struct #[f0, f1]) ∧ f0.offset = 0 ∧ f1.offset = 1 ∧ Try.prog.cellsOf f0.type = 1 ∧ Try.prog.cellsOf f1.type = 1 ∧
    Try.prog.underlying f0.type = some (.int .i64) ∧ Try.prog.underlying f1.type = some (.int .i64) := ⟨_, _, Try.underlying27, by kernel_rfl, by kernel_rfl, by kernel_rfl, by kernel_rfl, by kernel_rfl, by kernel_rfl⟩
set_option maxRecDepth 100000
section
variable {H : Type} {enc : TypeId × Value → H}
theorem open_items {w : World} {base : Nat} {v : Value} {d : DataW H} {ps : List MemPlace} (hok : Value.okWide Try.prog w .any base 22 v)
    (h : DataW.Trod enc Try.prog w 0 (fun _ => true) true 22 v d ps) (hz : ∀ b o, MemPlace.cell b o ∈ ps → w.frozen? ⟨b, o, none⟩ = false) : ∃ l : List It, SlI w v l := by
  obtain ⟨f0, f1, he, o0, o1, c0, c1, u0, u1⟩ := item_td
  have hce : Try.prog.cellsOf 27 = Ei.sz := by kernel_rfl
  have hel : ∀ n cs x, DataW.trod enc Try.prog w 0 (fun _ => true) true n 27 cs = some x → cs.length = Ei.sz → ∃ a : It, cs = Ei.cel a := elem_int2 he o0 o1 c0 c1 u0 u1
  exact open_arg (enc := enc) Ei Try.underlying22 hce hel hok h hz
end
end Go.Proofs.Ytmbbhmkenmliiaa
/-
  A place in a tree as the way down to it: nodes with the children's places. The next place, the one before it. For items of whatever make; no program. No condition.
-/
set_option linter.unusedSimpArgs false
set_option linter.unusedVariables false
namespace Go.Proofs.Ytmbbhmkenmliiaa
open Go
section
variable {α : Type}
/-- The way down from the root to a subtree; how many items lie ahead of it. -/
inductive Way (E : Enc α) (iso : Int) (mn mx : Nat) (w : World) (H lo0 root : Nat) (X : List α) (F0 : Nat → Nat → Prop) : List (Nat × Int) → Nat → Nat → Nat → List α → (Nat → Nat → Prop) → Nat → Prop
  | root : Way E iso mn mx w H lo0 root X F0 [] H lo0 root X F0 0
  | down {st : List (Nat × Int)} {h lo b : Nat} {xs : List α} {Fb : Nat → Nat → Prop} {off bi oi cap : Nat} {ks : List α} {bc ba oa capc : Nat} {cs : List (Kid α)} {i : Nat} {c : Kid α} (hw : Way E iso mn mx w H lo0 root X F0 st (h + 1) lo b xs Fb off)
      (ho : Own E w b iso xs.length bi oi cap ks (ptr bc)) (n : Inn E iso mn mx h w b xs Fb bi oi cap ks bc ba oa capc cs) (hc : cs[i]? = some c) :
      Way E iso mn mx w H lo0 root X F0 (st ++ [(b, (i : Int))]) h mn c.b c.xs c.F (off + (fr (cs.map Kid.xs) ks i).length)
variable {E : Enc α} {iso : Int} {mn mx : Nat} {w : World} {H lo0 root : Nat} {X : List α} {F0 : Nat → Nat → Prop}
theorem Kid.at {cs : List (Kid α)} {i : Nat} {c : Kid α} (hc : cs[i]? = some c) : (cs.map Kid.xs)[i]? = some c.xs := by rw [List.getElem?_map, hc]; rfl
theorem Inn.le {h b bi oi cap bc ba oa capc : Nat} {xs ks : List α} {F : Nat → Nat → Prop} {cs : List (Kid α)} (n : Inn E iso mn mx h w b xs F bi oi cap ks bc ba oa capc cs) {i : Nat} {c : Kid α} (hc : cs[i]? = some c) : i ≤ ks.length := by
  have := (List.getElem?_eq_some_iff.1 hc).1
  have := n.len
  omega
theorem Inn.xs {h b bi oi cap bc ba oa capc : Nat} {xs ks : List α} {F : Nat → Nat → Prop} {cs : List (Kid α)} (n : Inn E iso mn mx h w b xs F bi oi cap ks bc ba oa capc cs) {i : Nat} {c : Kid α} (hc : cs[i]? = some c) :
    xs = fr (cs.map Kid.xs) ks i ++ c.xs ++ tl (cs.map Kid.xs) ks i := by
  rw [n.eq]
  exact fr_mid i _ _ _ (by simpa using n.len) (n.le hc) (Kid.at hc)
theorem Inn.kid {h b bi oi cap bc ba oa capc : Nat} {xs ks : List α} {F : Nat → Nat → Prop} {cs : List (Kid α)} (n : Inn E iso mn mx h w b xs F bi oi cap ks bc ba oa capc cs) {i : Nat} (hi : i ≤ ks.length) : ∃ c, cs[i]? = some c :=
  ⟨_, List.getElem?_eq_getElem (by have := n.len; omega)⟩
/-- The subtree at the end of the way. -/
theorem Way.tr (ht : Tr E iso mn mx H w lo0 root X F0) {st : List (Nat × Int)} {h lo b off : Nat} {xs : List α} {Fb : Nat → Nat → Prop} (hw : Way E iso mn mx w H lo0 root X F0 st h lo b xs Fb off) : Tr E iso mn mx h w lo b xs Fb := by
  induction hw with
  | root => exact ht
  | down hw ho n hc ih => exact n.sub _ (List.mem_of_getElem? hc)
theorem Way.sub {st : List (Nat × Int)} {h lo b off : Nat} {xs : List α} {Fb : Nat → Nat → Prop} (hw : Way E iso mn mx w H lo0 root X F0 st h lo b xs Fb off) : ∀ y o, Fb y o → F0 y o := by
  induction hw with
  | root => exact fun _ _ h => h
  | down hw ho n hc ih => exact fun y o g => ih y o ((n.fp y o).2 (.inr (.inr ⟨_, List.mem_of_getElem? hc, g⟩)))
theorem Way.lo (h0 : 1 ≤ lo0) (hm : 1 ≤ mn) {st : List (Nat × Int)} {h lo b off : Nat} {xs : List α} {Fb : Nat → Nat → Prop} (hw : Way E iso mn mx w H lo0 root X F0 st h lo b xs Fb off) : 1 ≤ lo := by
  cases hw with
  | root => exact h0
  | down hw ho n hc => exact hm
theorem Way.len {st : List (Nat × Int)} {h lo b off : Nat} {xs : List α} {Fb : Nat → Nat → Prop} (hw : Way E iso mn mx w H lo0 root X F0 st h lo b xs Fb off) : st.length + h = H := by
  induction hw with
  | root => simp
  | down hw ho n hc ih => rw [List.length_append, List.length_singleton]; omega
/-- The items of the subtree stand in the list. -/
theorem Way.at {st : List (Nat × Int)} {h lo b off : Nat} {xs : List α} {Fb : Nat → Nat → Prop} (hw : Way E iso mn mx w H lo0 root X F0 st h lo b xs Fb off) : ∃ A C, X = A ++ xs ++ C ∧ A.length = off := by
  induction hw with
  | root => exact ⟨[], [], by simp, rfl⟩
  | down hw ho n hc ih =>
    obtain ⟨A, C, hX, hA⟩ := ih
    have hx := n.xs hc
    refine ⟨A ++ fr _ _ _, (tl _ _ _ ++ C : List α), (hX.trans (by rw [congrArg (fun l => A ++ l ++ C) hx]; simp only [List.append_assoc]; rfl)), by rw [List.length_append, hA]⟩
theorem Way.get {st : List (Nat × Int)} {h lo b off : Nat} {xs : List α} {Fb : Nat → Nat → Prop} (hw : Way E iso mn mx w H lo0 root X F0 st h lo b xs Fb off) {j : Nat} (hj : j < xs.length) : X[off + j]? = xs[j]? := by
  obtain ⟨A, C, hX, hA⟩ := hw.at
  rw [hX, List.append_assoc, List.getElem?_append_right (by omega), show off + j - A.length = j by omega, List.getElem?_append_left hj]
theorem Way.le {st : List (Nat × Int)} {h lo b off : Nat} {xs : List α} {Fb : Nat → Nat → Prop} (hw : Way E iso mn mx w H lo0 root X F0 st h lo b xs Fb off) : off + xs.length ≤ X.length := by
  obtain ⟨A, C, hX, hA⟩ := hw.at
  rw [hX]; simp only [List.length_append]; omega
/-- The last step of a way, taken back. -/
theorem Way.up {st : List (Nat × Int)} {h lo b off : Nat} {xs : List α} {Fb : Nat → Nat → Prop} {p : Nat × Int} {L : List (Nat × Int)} (hw : Way E iso mn mx w H lo0 root X F0 L h lo b xs Fb off) (hL : L = st ++ [p]) :
    ∃ lo' b' off' bi oi cap bc ba oa capc i xs' ks Fb' cs c, p = (b', ((i : Nat) : Int)) ∧ Way E iso mn mx w H lo0 root X F0 st (h + 1) lo' b' xs' Fb' off' ∧ Own E w b' iso xs'.length bi oi cap ks (ptr bc) ∧ Inn E iso mn mx h w b' xs' Fb' bi oi cap ks bc ba oa capc cs ∧ cs[i]? = some c ∧
      c.b = b ∧ c.xs = xs ∧ off = off' + (fr (cs.map Kid.xs) ks i).length := by
  cases hw with
  | root => simp at hL
  | down hw ho n hc =>
    have := List.append_inj' hL rfl
    obtain ⟨rfl, hp⟩ := this
    simp only [List.cons.injEq, and_true] at hp
    subst hp
    exact ⟨_, _, _, _, _, _, _, _, _, _, _, _, _, _, _, _, rfl, hw, ho, n, hc, rfl, rfl, rfl⟩
/-- The place of an item: in a leaf, or a node's key. -/
def Cur (E : Enc α) (iso : Int) (mn mx : Nat) (w : World) (H lo0 root : Nat) (X : List α) (F0 : Nat → Nat → Prop) (full : List (Nat × Int)) (p : Nat) : Prop :=
  ∃ st b h lo off xs Fb, ∃ j : Nat, full = st ++ [(b, (j : Int))] ∧ Way E iso mn mx w H lo0 root X F0 st h lo b xs Fb off ∧
    ((h = 0 ∧ j < xs.length ∧ p = off + j) ∨
     ∃ h' bi oi cap ks bc ba oa capc cs c, h = h' + 1 ∧ Own E w b iso xs.length bi oi cap ks (ptr bc) ∧ Inn E iso mn mx h' w b xs Fb bi oi cap ks bc ba oa capc cs ∧ cs[j]? = some c ∧ j < ks.length ∧ p = off + (fr (cs.map Kid.xs) ks j).length + c.xs.length)
/-- The item at a place, in memory and in the list. -/
theorem Cur.item (ht : Tr E iso mn mx H w lo0 root X F0) {full : List (Nat × Int)} {p : Nat} (hc : Cur E iso mn mx w H lo0 root X F0 full p) :
    ∃ st b, ∃ j : Nat, ∃ bi oi cap ks ch x, ∃ cnt : Int, full = st ++ [(b, (j : Int))] ∧ Own E w b iso cnt bi oi cap ks ch ∧ (∀ y o, ownF E b bi oi cap y o → F0 y o) ∧ ks[j]? = some x ∧ X[p]? = some x := by
  obtain ⟨st, b, h, lo, off, xs, Fb, j, rfl, hw, ⟨rfl, hj, rfl⟩ | ⟨h', bi, oi, cap, ks, bc, ba, oa, capc, cs, c, rfl, ho, n, hcs, hj, rfl⟩⟩ := hc
  · obtain ⟨bi, oi, cap, ks, ch, ho, _, _, hF, ⟨_, _, rfl, _⟩ | ⟨h', _, _, _, _, _, h0, _⟩⟩ := (hw.tr ht).open
    · refine ⟨st, b, j, bi, oi, cap, xs, ch, xs[j], _, rfl, ho, fun y o g => hw.sub y o (hF y o g), List.getElem?_eq_getElem hj, ?_⟩
      rw [hw.get hj]; exact List.getElem?_eq_getElem hj
    · cases h0
  · refine ⟨st, b, j, bi, oi, cap, ks, _, ks[j], _, rfl, ho, fun y o g => hw.sub y o ((n.fp y o).2 (.inl g)), List.getElem?_eq_getElem hj, ?_⟩
    obtain ⟨c', hc'⟩ := n.kid (i := j + 1) hj
    have hx := n.xs hc'
    rw [fr_step (Kid.at hcs) (List.getElem?_eq_getElem hj)] at hx
    have hl : (fr (cs.map Kid.xs) ks j).length + c.xs.length < xs.length := by rw [hx]; simp only [List.length_append, List.length_singleton]; omega
    rw [Nat.add_assoc, hw.get hl]
    conv => lhs; rw [hx]
    simp only [List.append_assoc]
    rw [List.getElem?_append_right (by omega), show (fr (cs.map Kid.xs) ks j).length + c.xs.length - (fr (cs.map Kid.xs) ks j).length = c.xs.length by omega, List.getElem?_append_right (Nat.le_refl _), Nat.sub_self]
    rfl
theorem Cur.lt (ht : Tr E iso mn mx H w lo0 root X F0) {full : List (Nat × Int)} {p : Nat} (hc : Cur E iso mn mx w H lo0 root X F0 full p) : p < X.length := by
  obtain ⟨_, _, _, _, _, _, _, _, _, _, _, _, _, _, h⟩ := hc.item ht
  exact (List.getElem?_eq_some_iff.1 h).1
/-- What comes behind a subtree: nothing, or the node's key, or what comes behind the node. -/
theorem Way.next {st : List (Nat × Int)} {h lo b off : Nat} {xs : List α} {Fb : Nat → Nat → Prop} (hw : Way E iso mn mx w H lo0 root X F0 st h lo b xs Fb off) :
    (st = [] ∧ off + xs.length = X.length) ∨ ∃ st' lo' b' off' bi oi cap bc ks, ∃ i : Nat, ∃ xs' Fb', st = st' ++ [(b', (i : Int))] ∧ Way E iso mn mx w H lo0 root X F0 st' (h + 1) lo' b' xs' Fb' off' ∧ Own E w b' iso xs'.length bi oi cap ks (ptr bc) ∧ (∀ y o, ownF E b' bi oi cap y o → Fb' y o) ∧
      ((i < ks.length ∧ Cur E iso mn mx w H lo0 root X F0 st (off + xs.length)) ∨ (i = ks.length ∧ off' + xs'.length = off + xs.length)) := by
  rcases List.eq_nil_or_concat st with hst | ⟨st', p, hst⟩
  · subst hst
    refine .inl ⟨rfl, ?_⟩
    have : ∀ {L : List (Nat × Int)}, Way E iso mn mx w H lo0 root X F0 L h lo b xs Fb off → L = [] → off + xs.length = X.length := fun hw hL => by
      cases hw with
      | root => simp
      | down hw ho n hc => simp at hL
    exact this hw rfl
  · right
    rw [List.concat_eq_append] at hst
    obtain ⟨lo', b', off', bi, oi, cap, bc, ba, oa, capc, i, xs', ks, Fb', cs, c, rfl, hw', ho, n, hc, rfl, rfl, rfl⟩ := hw.up hst
    refine ⟨st', lo', b', off', bi, oi, cap, bc, ks, i, xs', Fb', hst, hw', ho, fun y o g => (n.fp y o).2 (.inl g), ?_⟩
    rcases Nat.lt_or_ge i ks.length with hi | hi
    · exact .inl ⟨hi, st', b', _, lo', off', xs', Fb', i, hst, hw', .inr ⟨h, bi, oi, cap, ks, bc, ba, oa, capc, cs, c, rfl, ho, n, hc, hi, rfl⟩⟩
    · obtain rfl : i = ks.length := by have := n.le hc; omega
      refine .inr ⟨rfl, ?_⟩
      conv => lhs; rw [n.eq, fr_all (by simpa using n.len) (Kid.at hc)]
      rw [List.length_append]; omega
/-- What comes ahead of a subtree: nothing, or a key, or what comes ahead of the node. -/
theorem Way.prev {st : List (Nat × Int)} {h lo b off : Nat} {xs : List α} {Fb : Nat → Nat → Prop} (hw : Way E iso mn mx w H lo0 root X F0 st h lo b xs Fb off) :
    (st = [] ∧ off = 0) ∨ ∃ st' lo' b' off', ∃ i : Nat, ∃ xs' Fb', st = st' ++ [(b', (i : Int))] ∧ Way E iso mn mx w H lo0 root X F0 st' (h + 1) lo' b' xs' Fb' off' ∧
      ((0 < i ∧ 0 < off ∧ Cur E iso mn mx w H lo0 root X F0 (st' ++ [(b', ((i - 1 : Nat) : Int))]) (off - 1)) ∨ (i = 0 ∧ off' = off)) := by
  rcases List.eq_nil_or_concat st with hst | ⟨st', p, hst⟩
  · subst hst
    refine .inl ⟨rfl, ?_⟩
    have : ∀ {L : List (Nat × Int)}, Way E iso mn mx w H lo0 root X F0 L h lo b xs Fb off → L = [] → off = 0 := fun hw hL => by
      cases hw with
      | root => rfl
      | down hw ho n hc => simp at hL
    exact this hw rfl
  · right
    rw [List.concat_eq_append] at hst
    obtain ⟨lo', b', off', bi, oi, cap, bc, ba, oa, capc, i, xs', ks, Fb', cs, c, rfl, hw', ho, n, hc, rfl, rfl, rfl⟩ := hw.up hst
    refine ⟨st', lo', b', off', i, xs', Fb', hst, hw', ?_⟩
    rcases Nat.eq_zero_or_pos i with hi | hi
    · subst hi
      exact .inr ⟨rfl, by rw [fr_zero]; rfl⟩
    · have hle := n.le hc
      obtain ⟨c0, hc0⟩ := n.kid (i := i - 1) (by omega)
      obtain ⟨k, hk⟩ : ∃ k, ks[i - 1]? = some k := ⟨_, List.getElem?_eq_getElem (by omega)⟩
      have hf := fr_step (Kid.at hc0) hk
      rw [show i - 1 + 1 = i by omega] at hf
      have hl := congrArg List.length hf
      simp only [List.length_append, List.length_singleton] at hl
      exact .inl ⟨hi, by omega, st', b', _, lo', off', xs', Fb', i - 1, rfl, hw', .inr ⟨h, bi, oi, cap, ks, bc, ba, oa, capc, cs, c0, rfl, ho, n, hc0, by omega, by omega⟩⟩
theorem Way.ext {w' : World} {G : Nat → Nat → Prop} (x : Ext G w w') (hG : ∀ y o, F0 y o → ¬ G y o) {st : List (Nat × Int)} {h lo b off : Nat} {xs : List α} {Fb : Nat → Nat → Prop} (hw : Way E iso mn mx w H lo0 root X F0 st h lo b xs Fb off) : Way E iso mn mx w' H lo0 root X F0 st h lo b xs Fb off := by
  induction hw with
  | root => exact .root
  | down hw ho n hc ih =>
    exact .down ih (ho.ext x fun y o g => hG y o (hw.sub y o ((n.fp y o).2 (.inl g)))) (n.ext x (fun y o g => hG y o (hw.sub y o ((n.fp y o).2 (.inr (.inl g))))) fun c hc y o g => hG y o (hw.sub y o ((n.fp y o).2 (.inr (.inr ⟨c, hc, g⟩))))) hc
theorem Cur.ext {w' : World} {G : Nat → Nat → Prop} (x : Ext G w w') (hG : ∀ y o, F0 y o → ¬ G y o) {full : List (Nat × Int)} {p : Nat} (hc : Cur E iso mn mx w H lo0 root X F0 full p) : Cur E iso mn mx w' H lo0 root X F0 full p := by
  obtain ⟨st, b, h, lo, off, xs, Fb, j, hf, hw, hh⟩ := hc
  refine ⟨st, b, h, lo, off, xs, Fb, j, hf, hw.ext x hG, hh.imp id ?_⟩
  rintro ⟨h', bi, oi, cap, ks, bc, ba, oa, capc, cs, c, h1, ho, n, h2⟩
  exact ⟨h', bi, oi, cap, ks, bc, ba, oa, capc, cs, c, h1, ho.ext x fun y o g => hG y o (hw.sub y o ((n.fp y o).2 (.inl g))), n.ext x (fun y o g => hG y o (hw.sub y o ((n.fp y o).2 (.inr (.inl g))))) (fun c hc y o g => hG y o (hw.sub y o ((n.fp y o).2 (.inr (.inr ⟨c, hc, g⟩))))), h2⟩
/-- The place ahead of the next item's: its node's place is one less. -/
def NxAt (E : Enc α) (iso : Int) (mn mx : Nat) (w : World) (H lo0 root : Nat) (X : List α) (F0 : Nat → Nat → Prop) (full : List (Nat × Int)) (q : Nat) : Prop :=
  ∃ st b h lo off xs Fb, ∃ j : Nat, full = st ++ [(b, (j : Int) - 1)] ∧ Way E iso mn mx w H lo0 root X F0 st h lo b xs Fb off ∧
    ((h = 0 ∧ j ≤ xs.length ∧ q = off + j) ∨
     ∃ h' bi oi cap ks bc ba oa capc cs c, h = h' + 1 ∧ Own E w b iso xs.length bi oi cap ks (ptr bc) ∧ Inn E iso mn mx h' w b xs Fb bi oi cap ks bc ba oa capc cs ∧ cs[j]? = some c ∧ q = off + (fr (cs.map Kid.xs) ks j).length)
theorem Cur.nx {full : List (Nat × Int)} {p : Nat} (hc : Cur E iso mn mx w H lo0 root X F0 full p) : NxAt E iso mn mx w H lo0 root X F0 full (p + 1) := by
  obtain ⟨st, b, h, lo, off, xs, Fb, j, rfl, hw, ⟨h0, hj, rfl⟩ | ⟨h', bi, oi, cap, ks, bc, ba, oa, capc, cs, c, rfl, ho, n, hcs, hj, rfl⟩⟩ := hc
  · exact ⟨st, b, h, lo, off, xs, Fb, j + 1, by simp, hw, .inl ⟨h0, hj, by omega⟩⟩
  · obtain ⟨c', hc'⟩ := n.kid (i := j + 1) hj
    refine ⟨st, b, _, lo, off, xs, Fb, j + 1, by simp, hw, .inr ⟨h', bi, oi, cap, ks, bc, ba, oa, capc, cs, c', rfl, ho, n, hc', ?_⟩⟩
    rw [fr_step (Kid.at hcs) (List.getElem?_eq_getElem hj)]
    simp only [List.length_append, List.length_singleton]
    omega
theorem Cur.depth {full : List (Nat × Int)} {p : Nat} (hc : Cur E iso mn mx w H lo0 root X F0 full p) : full.length ≤ H + 1 := by
  obtain ⟨st, b, h, lo, off, xs, Fb, j, rfl, hw, _⟩ := hc
  have := hw.len
  rw [List.length_append, List.length_singleton]; omega
theorem NxAt.depth {full : List (Nat × Int)} {p : Nat} (hc : NxAt E iso mn mx w H lo0 root X F0 full p) : full.length ≤ H + 1 := by
  obtain ⟨st, b, h, lo, off, xs, Fb, j, rfl, hw, _⟩ := hc
  have := hw.len
  rw [List.length_append, List.length_singleton]; omega
end
end Go.Proofs.Ytmbbhmkenmliiaa
/-
  A slice that a cell holds: what appends, insertions, removals and settings leave of it. For whatever program. No condition.
-/
set_option linter.unusedSimpArgs false
set_option linter.unusedVariables false
namespace Go.Proofs.Ytmbbhmkenmliiaa
open Go
/-- Pointers to blocks as elements. -/
def Ep : Enc Nat where
  cel b := [ptr b]
  sz := 1
  len _ := rfl
  one b v hv := by simp at hv; subst hv; rfl
  pos := by decide
theorem flat_Ep (l : List Nat) : flat Ep l = l.map ptr := by
  induction l with
  | nil => rfl
  | cons x l ih => rw [flat_cons, ih]; rfl
section
variable {α : Type} {E : Enc α}
structure SE (E : Enc α) (w : World) (hb ho : Nat) (ks : List α) (bi oi cap : Nat) : Prop where
  hd : rd w hb ho = some (.slice (some ⟨bi, oi, none⟩) ks.length cap)
  row : Row w bi oi (flat E ks)
  wi : wok w bi (oi + cap * E.sz)
  le : ks.length ≤ cap
  hok : wok w hb (ho + 1)
  ne : bi ≠ hb
/-- The slice's own cells: the one that holds it, and its room. -/
def seF (E : Enc α) (hb ho bi oi cap : Nat) : Nat → Nat → Prop := fun y o => (y = hb ∧ o = ho) ∨ rng bi oi (cap * E.sz) y o
theorem SE.ext {w w' : World} {G : Nat → Nat → Prop} {hb ho bi oi cap : Nat} {ks : List α} (h : SE E w hb ho ks bi oi cap) (x : Ext G w w') (hG : ∀ y o, seF E hb ho bi oi cap y o → ¬ G y o) : SE E w' hb ho ks bi oi cap :=
  ⟨x.rd h.hd (hG _ _ (.inl ⟨rfl, rfl⟩)), x.row h.row fun i hi => hG _ _ (.inr ⟨rfl, by omega, by rw [flat_length] at hi; have := Nat.mul_le_mul_right E.sz h.le; omega⟩), x.wok h.wi, h.le, x.wok h.hok, h.ne⟩
theorem SE.ext0 {w w' : World} {hb ho bi oi cap : Nat} {ks : List α} (h : SE E w hb ho ks bi oi cap) (x : Ext noF w w') : SE E w' hb ho ks bi oi cap := h.ext x fun _ _ _ g => g
theorem SE.lt {w : World} {hb ho bi oi cap : Nat} {ks : List α} (h : SE E w hb ho ks bi oi cap) : hb < w.heap.size ∧ bi < w.heap.size := ⟨wok_lt h.hok, wok_lt h.wi⟩
theorem SE.slV {w : World} {hb ho bi oi cap : Nat} {ks : List α} (h : SE E w hb ho ks bi oi cap) : SlV w E.sz (.slice (some ⟨bi, oi, none⟩) ks.length cap) ks.length (flat E ks) :=
  ⟨flat_length _ _, .inr ⟨bi, oi, cap, rfl, h.le, h.row, h.wi.R (Nat.le_refl _)⟩⟩
/-- An append, whose slice is stored again. -/
theorem SE.app {w w1 w2 : World} {hb ho bi oi cap m : Nat} {ks ls : List α} {v' : Value} (h : SE E w hb ho ks bi oi cap) (hm : ls.length = m) (a : AppRes w E.sz (.slice (some ⟨bi, oi, none⟩) ks.length cap) ks.length m (flat E ks) (flat E ls) v' w1)
    (x : Ext (rng hb ho 1) w1 w2) (r : rd w2 hb ho = some v') :
    ∃ bi' oi' cap', v' = .slice (some ⟨bi', oi', none⟩) (ks.length + m) cap' ∧ SE E w2 hb ho (ks ++ ls) bi' oi' cap' ∧ Ext (seF E hb ho bi oi cap) w w2 ∧ ((bi' = bi ∧ oi' = oi ∧ cap' = cap) ∨ (bi' = w.heap.size ∧ w.heap.size < w2.heap.size)) := by
  subst hm
  obtain ⟨hs, hc⟩ := a
  have hbl := wok_lt h.hok
  have hbil := wok_lt h.wi
  have hne := h.ne
  have hlen : (ks ++ ls).length = ks.length + ls.length := List.length_append
  rcases hc with ⟨_, _, h3⟩ | ⟨b0, o0, cap0, h1, h2, h3, h4, h5⟩ | ⟨cap', h1, h2, h3, h4⟩
  · cases h3
  · simp only [Value.slice.injEq, Option.some.injEq, Addr.mk.injEq, true_and, and_true] at h1
    obtain ⟨⟨rfl, rfl⟩, rfl⟩ := h1
    subst h2
    have hw1 := h3.wok h.wi
    have hr : Row w1 bi oi (flat E (ks ++ ls)) := by
      rw [flat_append]
      rcases hs.2 with ⟨h, _⟩ | ⟨b1, o1, c1, h1, hle, hr, hw⟩
      · cases h
      · simp only [Value.slice.injEq, Option.some.injEq, Addr.mk.injEq, true_and, and_true] at h1
        obtain ⟨⟨rfl, rfl⟩, rfl⟩ := h1
        exact hr
    refine ⟨bi, oi, cap, rfl, ⟨by rw [r, hlen], x.row hr fun i _ g => by simp only [rng] at g; omega, x.wok hw1, by omega, x.wok (h3.wok h.hok), hne⟩, h3.trans x (fun y o g => .inr ?_) fun y o _ g => .inl ?_, .inl ⟨rfl, rfl, rfl⟩⟩
    · have e1 : (ks.length + ls.length) * E.sz = ks.length * E.sz + ls.length * E.sz := Nat.add_mul _ _ _
      have e2 := Nat.mul_le_mul_right E.sz h5
      simp only [rng] at g ⊢
      omega
    · simp only [rng] at g; omega
  · subst h1
    have hr : Row w1 w.heap.size 0 (flat E (ks ++ ls)) ∧ ks.length + ls.length ≤ cap' := by
      rw [flat_append]
      rcases hs.2 with ⟨h, _⟩ | ⟨b1, o1, c1, h1, hle, hr, hw⟩
      · cases h
      · simp only [Value.slice.injEq, Option.some.injEq, Addr.mk.injEq, true_and, and_true] at h1
        obtain ⟨⟨rfl, rfl⟩, rfl⟩ := h1
        exact ⟨hr, hle⟩
    have s2 := x.size
    refine ⟨_, 0, cap', rfl, ⟨by rw [r, hlen], x.row hr.1 fun i _ g => by simp only [rng] at g; omega, by rw [Nat.zero_add]; exact x.wok h4, by omega, x.wok (h2.wok h.hok), by omega⟩, h2.trans x (fun y o g => g.elim) fun y o _ g => .inl ?_, .inr ⟨rfl, by omega⟩⟩
    simp only [rng] at g; omega
/-- One element, put ahead of all others: an append of something, a copy one place on, a store. -/
theorem SE.ins0 {w w1 w2 : World} {hb ho bi oi cap o1 : Nat} {ks : List α} {z x : α} (h : SE E w hb ho (ks ++ [z]) bi oi cap)
    (x1 : Ext (rng bi o1 (ks.length * E.sz)) w w1) (r1 : Row w1 bi o1 (flat E ks)) (ho1 : 0 < ks.length → o1 = oi + E.sz) (x2 : Ext (rng bi oi E.sz) w1 w2) (r2 : Row w2 bi oi (E.cel x)) :
    SE E w2 hb ho (x :: ks) bi oi cap ∧ Ext (seF E hb ho bi oi cap) w w2 := by
  have hne := h.ne
  have hle := h.le
  rw [List.length_append, List.length_singleton] at hle
  have hcap := Nat.mul_le_mul_right E.sz hle
  have e1 : (ks.length + 1) * E.sz = ks.length * E.sz + E.sz := by rw [Nat.add_mul, Nat.one_mul]
  have hk0 : ks.length = 0 → ks.length * E.sz = 0 := fun e => by rw [e, Nat.zero_mul]
  have X1 : Ext (seF E hb ho bi oi cap) w w1 := x1.mono fun y o _ g => .inr (by
    simp only [rng] at g ⊢
    by_cases hk : 0 < ks.length
    · have := ho1 hk; omega
    · have := hk0 (by omega); omega)
  have X : Ext (seF E hb ho bi oi cap) w w2 := X1.tr (x2.mono fun y o _ g => .inr (by simp only [rng] at g ⊢; omega))
  refine ⟨⟨?_, ?_, X.wok h.wi, ?_, X.wok h.hok, hne⟩, X⟩
  · have := h.hd
    rw [List.length_append, List.length_singleton] at this
    rw [List.length_cons]
    refine x2.rd (x1.rd this ?_) ?_
    · simp only [rng]; omega
    · simp only [rng]; omega
  · rw [flat_cons]
    refine Row.append.2 ⟨r2, ?_⟩
    rw [E.len]
    by_cases hk : 0 < ks.length
    · rw [← ho1 hk]
      exact x2.row r1 fun i hi g => by have := ho1 hk; simp only [rng] at g; omega
    · have : ks = [] := List.eq_nil_of_length_eq_zero (by omega)
      rw [this]; exact Row.nil _ _ _
  · rw [List.length_cons]; exact hle
/-- One element is taken out: a copy one place back, something in the last place, the slice shortened. -/
theorem SE.erase {w w1 w2 w3 : World} {hb ho bi oi cap i : Nat} {ks : List α} (h : SE E w hb ho ks bi oi cap) (hi : i < ks.length)
    (x1 : Ext (rng bi (oi + i * E.sz) ((ks.length - 1 - i) * E.sz)) w w1) (r1 : Row w1 bi (oi + i * E.sz) (flat E (ks.drop (i + 1)))) (x2 : Ext (rng bi (oi + (ks.length - 1) * E.sz) E.sz) w1 w2)
    (x3 : Ext (rng hb ho 1) w2 w3) (r3 : rd w3 hb ho = some (.slice (some ⟨bi, oi, none⟩) (ks.length - 1 : Nat) cap)) :
    SE E w3 hb ho (ks.eraseIdx i) bi oi cap ∧ Ext (seF E hb ho bi oi cap) w w3 := by
  have hne := h.ne
  have hle := h.le
  have hcap := Nat.mul_le_mul_right E.sz hle
  have e1 : (ks.length - 1) * E.sz = ks.length * E.sz - E.sz := by rw [Nat.sub_mul, Nat.one_mul]
  have e2 : (ks.length - 1 - i) * E.sz = (ks.length - 1) * E.sz - i * E.sz := Nat.sub_mul _ _ _
  have e3 : (i + 1) * E.sz ≤ ks.length * E.sz := Nat.mul_le_mul_right _ hi
  have e4 : (i + 1) * E.sz = i * E.sz + E.sz := by rw [Nat.add_mul, Nat.one_mul]
  have hl : (ks.eraseIdx i).length = ks.length - 1 := by rw [List.length_eraseIdx, if_pos hi]
  have X : Ext (seF E hb ho bi oi cap) w w3 := ((x1.mono fun y o _ g => .inr (by simp only [rng] at g ⊢; omega)).tr (x2.mono fun y o _ g => .inr (by simp only [rng] at g ⊢; omega))).tr (x3.mono fun y o _ g => .inl (by simp only [rng] at g; omega))
  refine ⟨⟨by rw [hl]; exact r3, ?_, X.wok h.wi, by omega, X.wok h.hok, hne⟩, X⟩
  rw [List.eraseIdx_eq_take_drop_succ, flat_append]
  have hlt : (flat E (ks.take i)).length = i * E.sz := by rw [flat_length, List.length_take]; congr 1; omega
  have hld : (flat E (ks.drop (i + 1))).length = ks.length * E.sz - (i + 1) * E.sz := by rw [flat_length, List.length_drop, Nat.sub_mul]
  refine Row.append.2 ⟨?_, ?_⟩
  · have h0 := h.row.take (i * E.sz)
    rw [flat_take] at h0
    refine x3.row (x2.row (x1.row h0 fun j hj g => ?_) fun j hj g => ?_) fun j hj g => ?_
    · rw [hlt] at hj; simp only [rng] at g; omega
    · rw [hlt] at hj; simp only [rng] at g; omega
    · simp only [rng] at g; omega
  · rw [hlt]
    refine x3.row (x2.row r1 fun j hj g => ?_) fun j hj g => ?_
    · rw [hld] at hj; simp only [rng] at g; omega
    · simp only [rng] at g; omega
/-- The last element is taken away. -/
theorem SE.pop {w w2 w3 : World} {hb ho bi oi cap : Nat} {ks : List α} (h : SE E w hb ho ks bi oi cap) (hi : 0 < ks.length)
    (x2 : Ext (rng bi (oi + (ks.length - 1) * E.sz) E.sz) w w2) (x3 : Ext (rng hb ho 1) w2 w3) (r3 : rd w3 hb ho = some (.slice (some ⟨bi, oi, none⟩) (ks.length - 1 : Nat) cap)) :
    SE E w3 hb ho ks.dropLast bi oi cap ∧ Ext (seF E hb ho bi oi cap) w w3 := by
  have hd : ks.drop (ks.length - 1 + 1) = [] := List.drop_eq_nil_of_le (by omega)
  have := h.erase (i := ks.length - 1) (w1 := w) (by omega) (Ext.refl _ _) (by rw [hd]; exact Row.nil _ _ _) x2 x3 r3
  have he : ks.eraseIdx (ks.length - 1) = ks.dropLast := by rw [List.eraseIdx_eq_take_drop_succ, hd, List.append_nil, List.dropLast_eq_take]
  rw [he] at this
  exact this
/-- One element is set. -/
theorem SE.set {w w' : World} {hb ho bi oi cap i : Nat} {ks : List α} {x : α} (h : SE E w hb ho ks bi oi cap) (hi : i < ks.length) (X : Ext (rng bi (oi + i * E.sz) E.sz) w w') (r : Row w' bi (oi + i * E.sz) (E.cel x)) :
    SE E w' hb ho (ks.set i x) bi oi cap ∧ Ext (seF E hb ho bi oi cap) w w' := by
  have hne := h.ne
  have hle := h.le
  have hcap := Nat.mul_le_mul_right E.sz hle
  have e3 : (i + 1) * E.sz ≤ ks.length * E.sz := Nat.mul_le_mul_right _ hi
  have e4 : (i + 1) * E.sz = i * E.sz + E.sz := by rw [Nat.add_mul, Nat.one_mul]
  have hrow : Row w' bi oi (flat E (ks.set i x)) := by
    rw [List.set_eq_take_append_cons_drop, if_pos hi, flat_append, flat_cons]
    have hl : (flat E (ks.take i)).length = i * E.sz := by rw [flat_length, List.length_take]; congr 1; omega
    refine Row.append.2 ⟨?_, Row.append.2 ⟨by rw [hl]; exact r, ?_⟩⟩
    · rw [← flat_take]
      exact X.row (h.row.take _) fun j hj g => by rw [flat_take, hl] at hj; simp only [rng] at g; omega
    · rw [hl, E.len, ← flat_drop]
      have h1 := h.row.drop ((i + 1) * E.sz)
      rw [e4, ← Nat.add_assoc] at h1
      rw [e4]
      exact X.row h1 fun j hj g => by simp only [rng] at g; omega
  refine ⟨⟨by rw [List.length_set]; exact X.rd h.hd (by simp only [rng]; omega), hrow, X.wok h.wi, by rw [List.length_set]; exact hle, X.wok h.hok, hne⟩, X.mono fun y o _ g => .inr (by simp only [rng] at g ⊢; omega)⟩
end
end Go.Proofs.Ytmbbhmkenmliiaa
/-
  Several things in memory that lie apart; one of them is changed. For items of whatever make. No condition.
-/
set_option linter.unusedSimpArgs false
set_option linter.unusedVariables false
namespace Go.Proofs.Ytmbbhmkenmliiaa
open Go
/-- A thing: what it says of a world, the cells it takes, the block of its row. -/
structure Ob where
  p : World → (Nat → Nat → Prop) → Nat → Prop
  loc : ∀ {w w' : World} {F G : Nat → Nat → Prop} {K : Nat}, p w F K → Ext G w w' → (∀ y o, F y o → ¬ G y o) → p w' F K
  lt : ∀ {w : World} {F : Nat → Nat → Prop} {K : Nat}, p w F K → (∀ y o, F y o → y < w.heap.size) ∧ K < w.heap.size
/-- Things that lie apart; the rows of two things whose places are three apart lie in different blocks. -/
structure St (w0 : World) (G : Nat → Nat → Prop) (w : World) (P : List Ob) (F : Nat → Nat → Nat → Prop) (K : Nat → Nat) : Prop where
  o : ∀ (i : Nat) (A : Ob), P[i]? = some A → A.p w (F i) (K i)
  d : ∀ i j, i < P.length → j < P.length → i ≠ j → ∀ y o, F i y o → ¬ F j y o
  s : ∀ i, i < P.length → ∀ y o, F i y o → G y o ∨ w0.heap.size ≤ y
  r : ∀ i, i + 3 < P.length → K i ≠ K (i + 3)
  x : Ext G w0 w
/-- The things P stand in w, apart; since w0 nothing else has changed, and they take no other old cells than G's. -/
def Ss (w0 : World) (G : Nat → Nat → Prop) (w : World) (P : List Ob) : Prop := ∃ F K, St w0 G w P F K
theorem Ss.x {w0 w : World} {G : Nat → Nat → Prop} {P : List Ob} (s : Ss w0 G w P) : Ext G w0 w := s.elim fun _ h => h.elim fun _ h => h.x
theorem St.step {w0 w w' : World} {G : Nat → Nat → Prop} {P : List Ob} {F : Nat → Nat → Nat → Prop} {K : Nat → Nat} (s : St w0 G w P F K) {i : Nat} {A : Ob} (hi : P[i]? = some A) (B : Ob) {F' : Nat → Nat → Prop} {K' : Nat}
    (x : Ext (F i) w w') (hB : B.p w' F' K') (hF : ∀ y o, F' y o → F i y o ∨ w.heap.size ≤ y) (hK : K' = K i ∨ w.heap.size ≤ K') : Ss w0 G w' (P.set i B) := by
  have hil := (List.getElem?_eq_some_iff.1 hi).1
  have hlt : ∀ j, j < P.length → (∀ y o, F j y o → y < w.heap.size) ∧ K j < w.heap.size := fun j hj => (P[j]).lt (s.o j _ (List.getElem?_eq_getElem hj))
  refine ⟨fun j => if j = i then F' else F j, fun j => if j = i then K' else K j, ⟨fun j C hj => ?_, fun j k hj hk hne y o g h => ?_, fun j hj y o g => ?_, fun j hj => ?_, s.x.trans x (fun _ _ g => g) fun y o hy g => ?_⟩⟩
  · by_cases hji : j = i
    · subst hji
      rw [if_pos rfl, if_pos rfl]
      rw [List.getElem?_set_self hil] at hj
      cases hj
      exact hB
    · rw [if_neg hji, if_neg hji]
      rw [List.getElem?_set_ne (Ne.symm hji)] at hj
      have hjl := (List.getElem?_eq_some_iff.1 hj).1
      exact C.loc (s.o j C hj) x (s.d j i hjl hil hji)
  · rw [List.length_set] at hj hk
    by_cases hji : j = i
    · subst hji
      have hki : k ≠ j := Ne.symm hne
      rw [if_pos rfl] at g
      rw [if_neg hki] at h
      rcases hF y o g with g | g
      · exact s.d j k hj hk hne y o g h
      · have := (hlt k hk).1 y o h; omega
    · rw [if_neg hji] at g
      by_cases hki : k = i
      · subst hki
        rw [if_pos rfl] at h
        rcases hF y o h with h | h
        · exact s.d j k hj hk hne y o g h
        · have := (hlt j hj).1 y o g; omega
      · rw [if_neg hki] at h
        exact s.d j k hj hk hne y o g h
  · rw [List.length_set] at hj
    by_cases hji : j = i
    · subst hji
      rw [if_pos rfl] at g
      rcases hF y o g with g | g
      · exact s.s j hj y o g
      · have := s.x.size; exact .inr (by omega)
    · rw [if_neg hji] at g
      exact s.s j hj y o g
  · rw [List.length_set] at hj
    have h1 := s.r j hj
    have h2 := (hlt j (by omega)).2
    have h3 := (hlt (j + 3) hj).2
    by_cases hji : j = i
    · subst hji
      rw [if_pos rfl, if_neg (by omega)]
      omega
    · rw [if_neg hji]
      by_cases hki : j + 3 = i
      · subst hki
        rw [if_pos rfl]; omega
      · rw [if_neg hki]; exact h1
  · rcases s.s i hil y o g with g | g
    · exact g
    · omega
/-- A run that changes nothing old. -/
theorem Ss.ext0 {w0 w w' : World} {G : Nat → Nat → Prop} {P : List Ob} (s : Ss w0 G w P) (x : Ext noF w w') : Ss w0 G w' P := by
  obtain ⟨F, K, s⟩ := s
  exact ⟨F, K, fun i A h => A.loc (s.o i A h) x fun _ _ _ g => g, s.d, s.s, s.r, s.x.trans x (fun _ _ g => g) fun _ _ _ g => g.elim⟩
section
variable {α : Type} {E : Enc α}
theorem Own.se {w : World} {b : Nat} {iso cnt : Int} {bi oi cap : Nat} {ks : List α} {ch : Value} (h : Own E w b iso cnt bi oi cap ks ch) : SE E w b 2 ks bi oi cap := ⟨h.h2, h.row, h.wi, h.le, h.wb.mono (by decide), h.ne⟩
theorem seF_own {b bi oi cap : Nat} {y o : Nat} (h : seF E b 2 bi oi cap y o) : ownF E b bi oi cap y o := by
  rcases h with ⟨h, _⟩ | h
  · exact .inl h
  · exact .inr h
theorem Own.step {w w' : World} {b : Nat} {iso cnt : Int} {bi oi cap bi' oi' cap' : Nat} {ks ks' : List α} {ch : Value} (h : Own E w b iso cnt bi oi cap ks ch) (s : SE E w' b 2 ks' bi' oi' cap') (x : Ext (seF E b 2 bi oi cap) w w') :
    Own E w' b iso cnt bi' oi' cap' ks' ch := by
  have hne := h.ne
  have hn : ∀ o, o ≠ 2 → ¬ seF E b 2 bi oi cap b o := fun o ho g => by
    rcases g with g | g
    · omega
    · exact hne g.1.symm
  exact ⟨x.rd h.h0 (hn _ (by decide)), x.rd h.h1 (hn _ (by decide)), s.hd, x.rd h.h3 (hn _ (by decide)), x.wok h.wb, s.row, s.wi, s.le, s.ne⟩
theorem Own.cnt' {w w' : World} {b : Nat} {iso cnt cnt' : Int} {bi oi cap : Nat} {ks : List α} {ch : Value} (h : Own E w b iso cnt bi oi cap ks ch) (x : Ext (rng b 1 1) w w') (r : rd w' b 1 = some (.int .i64 cnt')) :
    Own E w' b iso cnt' bi oi cap ks ch := by
  have hne := h.ne
  refine ⟨x.rd h.h0 ?_, r, x.rd h.h2 ?_, x.rd h.h3 ?_, x.wok h.wb, x.row h.row fun i _ g => ?_, x.wok h.wi, h.le, h.ne⟩
  · simp only [rng]; omega
  · simp only [rng]; omega
  · simp only [rng]; omega
  · exact hne g.1
/-- Pointers that may be nil as elements. -/
def Eo : Enc (Option Nat) where
  cel o := [.pointer (o.map fun b => ⟨b, 0, none⟩)]
  sz := 1
  len _ := rfl
  one o v hv := by simp at hv; subst hv; rfl
  pos := by decide
theorem Eo_sz : Eo.sz = 1 := id (Eq.trans rfl rfl)
theorem flat_Eo (l : List Nat) : flat Eo (l.map some) = l.map ptr := by
  induction l with
  | nil => rfl
  | cons x l ih => rw [List.map_cons, flat_cons, ih]; rfl
theorem Kids.se {w : World} {bc ba oa capc : Nat} {ps : List Nat} (h : Kids w bc ba oa capc ps) : SE Eo w bc 0 (ps.map some) ba oa capc :=
  ⟨by rw [List.length_map]; exact h.c0, by rw [flat_Eo]; exact h.row, by rw [Eo_sz, Nat.mul_one]; exact h.wa, by rw [List.length_map]; exact h.le, h.wc, h.ne⟩
theorem SE.kids {w : World} {bc ba oa capc : Nat} {ps : List Nat} (h : SE Eo w bc 0 (ps.map some) ba oa capc) : Kids w bc ba oa capc ps :=
  ⟨by have := h.hd; rw [List.length_map] at this; exact this, h.hok, by have := h.row; rw [flat_Eo] at this; exact this, by have := h.wi; rw [Eo_sz, Nat.mul_one] at this; exact this, by have := h.le; rw [List.length_map] at this; exact this, h.ne⟩
theorem seF_kid {bc ba oa capc : Nat} {y o : Nat} (h : seF Eo bc 0 ba oa capc y o) : kidF bc ba oa capc y o := by
  rcases h with ⟨h, _⟩ | h
  · exact .inl h
  · rw [Eo_sz, Nat.mul_one] at h; exact .inr h
/-- A node's own part; its items' room is no less than z. -/
def ndO (E : Enc α) (iso : Int) (z b : Nat) (cnt : Int) (ks : List α) (ch : Value) : Ob where
  p w F K := ∃ bi oi cap, Own E w b iso cnt bi oi cap ks ch ∧ z ≤ cap ∧ K = bi ∧ ∀ y o, F y o ↔ ownF E b bi oi cap y o
  loc := fun ⟨bi, oi, cap, h, hz, hK, hF⟩ x hd => ⟨bi, oi, cap, h.ext x fun y o g => hd y o ((hF y o).2 g), hz, hK, hF⟩
  lt := fun ⟨_, _, _, h, _, hK, hF⟩ => ⟨fun y o g => h.lt ((hF y o).1 g), hK ▸ wok_lt h.wi⟩
/-- A node's children: none, or a cell with a slice. -/
def kdO (ch : Value) (ps : List (Option Nat)) : Ob where
  p w F K := (ch = .pointer none ∧ ps = [] ∧ K < w.heap.size ∧ ∀ y o, ¬ F y o) ∨ ∃ bc ba oa capc, ch = ptr bc ∧ SE Eo w bc 0 ps ba oa capc ∧ K = ba ∧ ∀ y o, F y o ↔ kidF bc ba oa capc y o
  loc := fun h x hd => h.imp (fun ⟨h1, h2, h3, h4⟩ => ⟨h1, h2, Nat.lt_of_lt_of_le h3 x.size, h4⟩) fun ⟨bc, ba, oa, capc, h1, h, hK, hF⟩ => ⟨bc, ba, oa, capc, h1, h.ext x fun y o g => hd y o ((hF y o).2 (seF_kid g)), hK, hF⟩
  lt := fun h => by
    rcases h with ⟨_, _, hK, h⟩ | ⟨bc, ba, _, _, _, h, hK, hF⟩
    · exact ⟨fun y o g => (h y o g).elim, hK⟩
    · have := h.lt
      refine ⟨fun y o g => ?_, by omega⟩
      rcases (hF y o).1 g with g | g
      · omega
      · have := g.1; omega
theorem ownF_new {b bi oi cap bi' oi' cap' B : Nat} (h : (bi' = bi ∧ oi' = oi ∧ cap' = cap) ∨ B ≤ bi') {y o : Nat} (g : ownF E b bi' oi' cap' y o) : ownF E b bi oi cap y o ∨ B ≤ y := by
  rcases h with ⟨rfl, rfl, rfl⟩ | h
  · exact .inl g
  · rcases g with g | g
    · exact .inl (.inl g)
    · exact .inr (by have := g.1; omega)
theorem kidF_new {bc ba oa capc ba' oa' capc' B : Nat} (h : (ba' = ba ∧ oa' = oa ∧ capc' = capc) ∨ B ≤ ba') {y o : Nat} (g : kidF bc ba' oa' capc' y o) : kidF bc ba oa capc y o ∨ B ≤ y := by
  rcases h with ⟨rfl, rfl, rfl⟩ | h
  · exact .inl g
  · rcases g with g | g
    · exact .inl (.inl g)
    · exact .inr (by have := g.1; omega)
theorem Ss.nd {w0 w : World} {G : Nat → Nat → Prop} {P : List Ob} (s : Ss w0 G w P) (i : Nat) {iso : Int} {z b : Nat} {cnt : Int} {ks : List α} {ch : Value} (hi : P[i]? = some (ndO E iso z b cnt ks ch)) :
    ∃ bi oi cap, Own E w b iso cnt bi oi cap ks ch ∧
      (∀ {w' : World} {ks' : List α} {bi' oi' cap' : Nat}, SE E w' b 2 ks' bi' oi' cap' → Ext (seF E b 2 bi oi cap) w w' → ((bi' = bi ∧ oi' = oi ∧ cap' = cap) ∨ (w.heap.size ≤ bi' ∧ z ≤ cap')) → Ss w0 G w' (P.set i (ndO E iso z b cnt ks' ch))) ∧
      (∀ {w' : World} {cnt' : Int}, Ext (rng b 1 1) w w' → rd w' b 1 = some (.int .i64 cnt') → Ss w0 G w' (P.set i (ndO E iso z b cnt' ks ch))) := by
  obtain ⟨F, K, s⟩ := s
  obtain ⟨bi, oi, cap, h, hz, hK, hF⟩ := s.o i _ hi
  refine ⟨bi, oi, cap, h, fun {w' ks' bi' oi' cap'} s' x hb => s.step hi _ (x.mono fun y o _ g => (hF y o).2 (seF_own g)) ⟨bi', oi', cap', h.step s' x, by omega, rfl, fun _ _ => Iff.rfl⟩ (fun y o g => ?_) (by rw [hK]; exact hb.imp And.left And.left),
    fun {w' cnt'} x r => s.step hi _ (x.mono fun y o _ g => (hF y o).2 (.inl g.1)) ⟨bi, oi, cap, h.cnt' x r, hz, rfl, fun _ _ => Iff.rfl⟩ (fun y o g => .inl ((hF y o).2 g)) (.inl hK.symm)⟩
  rcases ownF_new (hb.imp id And.left) g with g | g
  · exact .inl ((hF y o).2 g)
  · exact .inr g
theorem Ss.kd {w0 w : World} {G : Nat → Nat → Prop} {P : List Ob} (s : Ss w0 G w P) (i : Nat) {bc : Nat} {ps : List (Option Nat)} (hi : P[i]? = some (kdO (ptr bc) ps)) :
    ∃ ba oa capc, SE Eo w bc 0 ps ba oa capc ∧
      (∀ {w' : World} {ps' : List (Option Nat)} {ba' oa' capc' : Nat}, SE Eo w' bc 0 ps' ba' oa' capc' → Ext (seF Eo bc 0 ba oa capc) w w' → ((ba' = ba ∧ oa' = oa ∧ capc' = capc) ∨ w.heap.size ≤ ba') → Ss w0 G w' (P.set i (kdO (ptr bc) ps'))) := by
  obtain ⟨F, K, s⟩ := s
  rcases s.o i _ hi with ⟨h, _⟩ | ⟨bc', ba, oa, capc, h1, h, hK, hF⟩
  · cases h
  · obtain rfl : bc = bc' := by simpa [ptr] using h1
    refine ⟨ba, oa, capc, h, fun {w' ps' ba' oa' capc'} s' x hb => s.step hi _ (x.mono fun y o _ g => (hF y o).2 (seF_kid g)) (.inr ⟨bc, ba', oa', capc', rfl, s', rfl, fun _ _ => Iff.rfl⟩) (fun y o g => ?_) (by rw [hK]; exact hb.imp And.left id)⟩
    rcases kidF_new hb g with g | g
    · exact .inl ((hF y o).2 g)
    · exact .inr g
end
/-! ### Steps of a slice in a cell -/
section
variable {α : Type} {E : Enc α}
/-- A copy of what lies behind place i, one place back. -/
theorem SE.down {w w1 : World} {hb ho bi oi cap i : Nat} {ks : List α} (h : SE E w hb ho ks bi oi cap) (hi : i < ks.length)
    (x1 : Ext (rng bi (oi + i * E.sz) ((ks.length - 1 - i) * E.sz)) w w1) (r1 : Row w1 bi (oi + i * E.sz) (flat E (ks.drop (i + 1)))) :
    ∃ z, SE E w1 hb ho (ks.eraseIdx i ++ [z]) bi oi cap ∧ Ext (seF E hb ho bi oi cap) w w1 := by
  obtain ⟨z, hz⟩ : ∃ z, ks.drop (ks.length - 1) = [z] := List.length_eq_one_iff.1 (by rw [List.length_drop]; omega)
  refine ⟨z, ?_⟩
  rw [← hz]
  have hne := h.ne
  have hle := h.le
  have hcap := Nat.mul_le_mul_right E.sz hle
  have e1 : (ks.length - 1) * E.sz = ks.length * E.sz - E.sz := by rw [Nat.sub_mul, Nat.one_mul]
  have e2 : (ks.length - 1 - i) * E.sz = (ks.length - 1) * E.sz - i * E.sz := Nat.sub_mul _ _ _
  have e3 : (i + 1) * E.sz ≤ ks.length * E.sz := Nat.mul_le_mul_right _ hi
  have e4 : (i + 1) * E.sz = i * E.sz + E.sz := by rw [Nat.add_mul, Nat.one_mul]
  have hl : (ks.eraseIdx i ++ ks.drop (ks.length - 1)).length = ks.length := by rw [List.length_append, List.length_eraseIdx, if_pos hi, List.length_drop]; omega
  have X : Ext (seF E hb ho bi oi cap) w w1 := x1.mono fun y o _ g => .inr (by simp only [rng] at g ⊢; omega)
  refine ⟨⟨by rw [hl]; exact x1.rd h.hd (by simp only [rng]; omega), ?_, X.wok h.wi, by omega, X.wok h.hok, hne⟩, X⟩
  rw [List.eraseIdx_eq_take_drop_succ, List.append_assoc, flat_append, flat_append]
  have hlt : (flat E (ks.take i)).length = i * E.sz := by rw [flat_length, List.length_take]; congr 1; omega
  have hld : (flat E (ks.drop (i + 1))).length = ks.length * E.sz - (i + 1) * E.sz := by rw [flat_length, List.length_drop, Nat.sub_mul]
  refine Row.append.2 ⟨?_, Row.append.2 ⟨?_, ?_⟩⟩
  · have h0 := h.row.take (i * E.sz)
    rw [flat_take] at h0
    refine x1.row h0 fun j hj g => ?_
    rw [hlt] at hj; simp only [rng] at g; omega
  · rw [hlt]; exact r1
  · rw [hlt, hld]
    have h0 := h.row.drop ((ks.length - 1) * E.sz)
    rw [flat_drop] at h0
    have ho : oi + i * E.sz + (ks.length * E.sz - (i + 1) * E.sz) = oi + (ks.length - 1) * E.sz := by omega
    rw [ho]
    refine x1.row h0 fun j hj g => ?_
    simp only [rng] at g; omega
/-- A copy of all, one place on. -/
theorem SE.up {w w1 : World} {hb ho bi oi cap o1 : Nat} {ks : List α} {z : α} (h : SE E w hb ho (ks ++ [z]) bi oi cap)
    (x1 : Ext (rng bi o1 (ks.length * E.sz)) w w1) (r1 : Row w1 bi o1 (flat E ks)) (ho1 : 0 < ks.length → o1 = oi + E.sz) :
    SE E w1 hb ho ((ks ++ [z]).take 1 ++ ks) bi oi cap ∧ Ext (seF E hb ho bi oi cap) w w1 := by
  have hne := h.ne
  have hle := h.le
  rw [List.length_append, List.length_singleton] at hle
  have hcap := Nat.mul_le_mul_right E.sz hle
  have e1 : (ks.length + 1) * E.sz = ks.length * E.sz + E.sz := by rw [Nat.add_mul, Nat.one_mul]
  have hk0 : ks.length = 0 → ks.length * E.sz = 0 := fun e => by rw [e, Nat.zero_mul]
  have X1 : Ext (seF E hb ho bi oi cap) w w1 := x1.mono fun y o _ g => .inr (by
    simp only [rng] at g ⊢
    by_cases hk : 0 < ks.length
    · have := ho1 hk; omega
    · have := hk0 (by omega); omega)
  have hl : ((ks ++ [z]).take 1 ++ ks).length = ks.length + 1 := by simp only [List.length_append, List.length_take, List.length_singleton]; omega
  have hl1 : (flat E ((ks ++ [z]).take 1)).length = E.sz := by rw [flat_length, List.length_take, List.length_append, List.length_singleton, Nat.min_eq_left (by omega), Nat.one_mul]
  refine ⟨⟨?_, ?_, X1.wok h.wi, by omega, X1.wok h.hok, hne⟩, X1⟩
  · have := h.hd
    rw [List.length_append, List.length_singleton] at this
    rw [hl]
    exact x1.rd this (by simp only [rng]; omega)
  · rw [flat_append]
    refine Row.append.2 ⟨?_, ?_⟩
    · have h0 := h.row.take (1 * E.sz)
      rw [flat_take] at h0
      refine x1.row h0 fun j hj g => ?_
      rw [hl1] at hj
      simp only [rng] at g
      by_cases hk : 0 < ks.length
      · have := ho1 hk; omega
      · have := hk0 (by omega); omega
    · rw [hl1]
      by_cases hk : 0 < ks.length
      · rw [← ho1 hk]; exact r1
      · have : ks = [] := List.eq_nil_of_length_eq_zero (by omega)
        rw [this]; exact Row.nil _ _ _
/-- The slice is shortened. -/
theorem SE.cut {w w1 : World} {hb ho bi oi cap : Nat} {ks : List α} {z : α} (h : SE E w hb ho (ks ++ [z]) bi oi cap) (x1 : Ext (rng hb ho 1) w w1) (r1 : rd w1 hb ho = some (.slice (some ⟨bi, oi, none⟩) ks.length cap)) :
    SE E w1 hb ho ks bi oi cap ∧ Ext (seF E hb ho bi oi cap) w w1 := by
  have hne := h.ne
  have hle := h.le
  rw [List.length_append, List.length_singleton] at hle
  have hr := h.row
  rw [flat_append] at hr
  exact ⟨⟨r1, x1.row (Row.append.1 hr).1 fun j _ g => by simp only [rng] at g; omega, x1.wok h.wi, by omega, x1.wok h.hok, hne⟩, x1.mono fun y o _ g => .inl (by simp only [rng] at g; omega)⟩
theorem set_last {A : List α} {z x : α} : (A ++ [z]).set A.length x = A ++ [x] := by simp
theorem set_first {A : List α} {z x : α} : ((A ++ [z]).take 1 ++ A).set 0 x = x :: A := by cases A <;> rfl
theorem SE.app' {w w1 : World} {hb ho bi oi cap m : Nat} {ks ls : List α} {v' : Value} (h : SE E w hb ho ks bi oi cap) (hm : ls.length = m) (a : AppRes w E.sz (.slice (some ⟨bi, oi, none⟩) ks.length cap) ks.length m (flat E ks) (flat E ls) v' w1) :
    ∃ bi' oi' cap', v' = .slice (some ⟨bi', oi', none⟩) (ks.length + m) cap' ∧ wok w1 hb (ho + 1) ∧ w.heap.size ≤ w1.heap.size ∧
      ∀ w2, Ext (rng hb ho 1) w1 w2 → rd w2 hb ho = some v' → SE E w2 hb ho (ks ++ ls) bi' oi' cap' ∧ Ext (seF E hb ho bi oi cap) w w2 ∧ ((bi' = bi ∧ oi' = oi ∧ cap' = cap) ∨ w.heap.size ≤ bi') := by
  have key : ∃ bi' oi' cap', v' = .slice (some ⟨bi', oi', none⟩) (ks.length + m) cap' ∧ wok w1 hb (ho + 1) ∧ w.heap.size ≤ w1.heap.size := by
    rcases a.2 with ⟨_, _, h3⟩ | ⟨b0, o0, cap0, h1, h2, h3, h4, h5⟩ | ⟨cap', h1, h2, h3, h4⟩
    · cases h3
    · exact ⟨_, _, _, h2, h3.wok h.hok, by omega⟩
    · exact ⟨_, _, _, h1, h2.wok h.hok, by omega⟩
  obtain ⟨bi', oi', cap', hv, hw, hs⟩ := key
  refine ⟨bi', oi', cap', hv, hw, hs, fun w2 x r => ?_⟩
  obtain ⟨bi2, oi2, cap2, hv2, h1, h2, h3⟩ := h.app hm a x r
  rw [hv] at hv2
  simp only [Value.slice.injEq, Option.some.injEq, Addr.mk.injEq, true_and, and_true] at hv2
  obtain ⟨⟨rfl, rfl⟩, rfl⟩ := hv2
  exact ⟨h1, h2, h3.imp id fun g => Nat.le_of_eq g.1.symm⟩
/-- The slice from place i on. -/
theorem SE.from {w : World} {hb ho bi oi cap : Nat} {ks : List α} (h : SE E w hb ho ks bi oi cap) {sz : Nat} (hsz : E.sz = sz) (i : Nat) (hi : i ≤ ks.length) :
    ∃ o1, slFrom bi oi sz i ks.length cap = .slice (some ⟨bi, o1, none⟩) (ks.length - i) (cap - i) ∧ (i < cap → o1 = oi + i * sz) ∧ SlV w sz (.slice (some ⟨bi, o1, none⟩) (ks.length - i) (cap - i)) (ks.length - i) (flat E (ks.drop i)) ∧ wok w bi (o1 + (ks.length - i) * sz) := by
  subst hsz
  have hle := h.le
  obtain ⟨o1, h1, h2, h3⟩ := slFrom_sl bi oi E.sz i ks.length cap
  have hl : (flat E (ks.drop i)).length = (ks.length - i) * E.sz := by rw [flat_length, List.length_drop]
  have e1 : (ks.length - i) * E.sz = ks.length * E.sz - i * E.sz := Nat.sub_mul _ _ _
  have e2 := Nat.mul_le_mul_right E.sz hle
  have e3 := Nat.mul_le_mul_right E.sz hi
  have e4 : (cap - i) * E.sz = cap * E.sz - i * E.sz := Nat.sub_mul _ _ _
  by_cases hc : cap = i
  · have ho := h3 hc
    have hi0 : ks.length - i = 0 := by omega
    have hd : ks.drop i = [] := List.drop_eq_nil_of_le (by omega)
    have e5 : (ks.length - i) * E.sz = 0 := by rw [hi0, Nat.zero_mul]
    refine ⟨o1, h1, fun g => by omega, ⟨by rw [hl], .inr ⟨bi, o1, cap - i, rfl, by omega, by rw [hd]; exact Row.nil _ _ _, (h.wi.mono ?_).R (Nat.le_refl _)⟩⟩, h.wi.mono ?_⟩
    · omega
    · omega
  · have ho := h2 hc
    have hr := h.row.drop (i * E.sz)
    rw [flat_drop, ← ho] at hr
    refine ⟨o1, h1, fun _ => ho, ⟨by rw [hl], .inr ⟨bi, o1, cap - i, rfl, by omega, hr, (h.wi.mono ?_).R (Nat.le_refl _)⟩⟩, h.wi.mono ?_⟩
    · omega
    · omega
theorem New.keep {w w' : World} {l : List Value} (n : New w w' l) (L : List Nat) (h : ∀ b ∈ L, b < w.heap.size) : keeps (some (some L)) w w' := keeps_on n.ext fun x hx => ⟨h x hx, fun _ g => g⟩
theorem SE.ptr_at {w : World} {bc ba oa capc j p : Nat} {ps : List (Option Nat)} (h : SE Eo w bc 0 ps ba oa capc) (hp : ps[j]? = some (some p)) : rd w ba (oa + j) = some (ptr p) := by
  have := (Row.cons.1 (row_at Eo h.row hp)).1
  rw [Eo_sz, Nat.mul_one] at this
  exact this
end
/-- As kd, and the array lies in no other thing's own blocks. -/
theorem Ss.kdx {w0 w : World} {G : Nat → Nat → Prop} {P : List Ob} (s : Ss w0 G w P) (i : Nat) {bc : Nat} {ps : List (Option Nat)} (hi : P[i]? = some (kdO (ptr bc) ps)) (h0 : 0 < ps.length) :
    ∃ ba oa capc, SE Eo w bc 0 ps ba oa capc ∧
      (∀ {w' : World} {ps' : List (Option Nat)} {ba' oa' capc' : Nat}, SE Eo w' bc 0 ps' ba' oa' capc' → Ext (seF Eo bc 0 ba oa capc) w w' → ((ba' = ba ∧ oa' = oa ∧ capc' = capc) ∨ w.heap.size ≤ ba') → Ss w0 G w' (P.set i (kdO (ptr bc) ps'))) ∧
      (∀ {α : Type} {E : Enc α} (j : Nat) {iso : Int} {z b : Nat} {cnt : Int} {ks : List α} {ch : Value}, j ≠ i → P[j]? = some (ndO E iso z b cnt ks ch) → b ≠ ba) ∧
      (∀ (j : Nat) {c : Nat} {qs : List (Option Nat)}, j ≠ i → P[j]? = some (kdO (ptr c) qs) → c ≠ ba) := by
  obtain ⟨F, K, s⟩ := s
  rcases s.o i _ hi with ⟨h, _⟩ | ⟨bc', ba, oa, capc, h1, h, hK, hF⟩
  · cases h
  · obtain rfl : bc = bc' := by simpa [ptr] using h1
    have hle := h.le
    have hil := (List.getElem?_eq_some_iff.1 hi).1
    have hin : F i ba oa := (hF _ _).2 (.inr ⟨rfl, Nat.le_refl _, by omega⟩)
    refine ⟨ba, oa, capc, h, fun {w' ps' ba' oa' capc'} s' x hb => s.step hi _ (x.mono fun y o _ g => (hF y o).2 (seF_kid g)) (.inr ⟨bc, ba', oa', capc', rfl, s', rfl, fun _ _ => Iff.rfl⟩) (fun y o g => ?_) (by rw [hK]; exact hb.imp And.left id), fun {α E} j {iso z b cnt ks ch} hji hj hb => ?_, fun j {c qs} hji hj hc => ?_⟩
    · rcases kidF_new hb g with g | g
      · exact .inl ((hF y o).2 g)
      · exact .inr g
    · obtain ⟨bi, oi, cap, _, _, _, hF'⟩ := s.o j _ hj
      exact s.d j i (List.getElem?_eq_some_iff.1 hj).1 hil hji ba oa ((hF' _ _).2 (.inl hb.symm)) hin
    · rcases s.o j _ hj with ⟨h, _⟩ | ⟨c', ba', oa', capc', h1, _, _, hF'⟩
      · cases h
      · obtain rfl : c = c' := by simpa [ptr] using h1
        exact s.d j i (List.getElem?_eq_some_iff.1 hj).1 hil hji ba oa ((hF' _ _).2 (.inl hc.symm)) hin
theorem app_keep {w w1 : World} {sz n m bi oi cap : Nat} {l l' : List Value} {v' : Value} (a : AppRes w sz (.slice (some ⟨bi, oi, none⟩) n cap) n m l l' v' w1) (L : List Nat) (h : ∀ x ∈ L, x < w.heap.size ∧ x ≠ bi) : keeps (some (some L)) w w1 := by
  rcases a.2 with ⟨_, rfl, _⟩ | ⟨b0, o0, cap0, h1, _, h3, _⟩ | ⟨_, _, h2, _⟩
  · exact keeps_refl _ _
  · simp only [Value.slice.injEq, Option.some.injEq, Addr.mk.injEq, true_and, and_true] at h1
    obtain ⟨⟨rfl, rfl⟩, rfl⟩ := h1
    exact keeps_on h3 fun x hx => ⟨(h x hx).1, fun o g => (h x hx).2 g.1⟩
  · exact keeps_on h2 fun x hx => ⟨(h x hx).1, fun _ g => g⟩
theorem W_keep5 {P : Program} {n : Nat} {c : Code} {Q : Post} {e : Env} {w : World} {v0 v1 v2 v6 v7 : Value} (h0 : e 0 = v0) (h1 : e 1 = v1) (h2 : e 2 = v2) (h6 : e 6 = v6) (h7 : e 7 = v7)
    (h : ∀ e' : Env, e' 0 = v0 → e' 1 = v1 → e' 2 = v2 → e' 6 = v6 → e' 7 = v7 → W P n c Q e' w) : W P n c Q e w := h e h0 h1 h2 h6 h7
end Go.Proofs.Ytmbbhmkenmliiaa
/-
  Regions by a plan, once more: where all operations that read the heap wait for an operation or it for them, the heap may change at it at will. For whatever program. No condition.
-/
set_option linter.unusedSimpArgs false
set_option linter.unusedVariables false
namespace Go.Proofs.Ytmbbhmkenmliiaa
open Go
/-- What the operation yields does not depend on the heap. -/
def pureOp (P : Program) : Op → Bool
  | .move _ => true
  | .assign _ => true
  | .pick _ _ _ => true
  | .nilCheck _ => true
  | .binOp _ _ _ _ _ => true
  | .unOp .not _ _ => true
  | .slice _ _ _ _ _ => true
  | .fieldAddr T _ f => (fOff P T f).isSome
  | .indexAddr _ _ _ => true
  | .extract _ _ => true
  | _ => false
theorem pure_tk {P : Program} {H H' : Hold} {e : Env} {w w' : World} {op : Op} (h : pureOp P op = true) : tkOp P H e w op = tkOp P H' e w' op := by
  cases op with
  | fieldAddr T x f =>
    obtain ⟨o, ho⟩ := Option.isSome_iff_exists.1 (show (fOff P T f).isSome = true from h)
    simp only [tkOp, foZ, ho]
  | unOp k T x => cases k <;> first | rfl | cases h
  | _ => first | rfl | cases h
/-- What f waits for, of those from f - k on. -/
def ancs (ops : Array Oper) (f : Nat) : Nat → List Nat
  | 0 => [f]
  | k + 1 => let L := ancs ops f k; if L.any (fun j => waitsOn ops j (f - (k + 1))) then (f - (k + 1)) :: L else L
/-- What waits for f, of those up to f + k. -/
def descs (ops : Array Oper) (f : Nat) : Nat → List Nat
  | 0 => [f]
  | k + 1 => let L := descs ops f k; if L.any (fun j => waitsOn ops (f + (k + 1)) j) then (f + (k + 1)) :: L else L
def semiOk (P : Program) (ops : Array Oper) (f : Nat) : Bool :=
  decide (f < ops.size) && (let A := ancs ops f f; let D := descs ops f (ops.size - f); (List.range ops.size).all fun i => i == f || A.contains i || D.contains i || (ops[i]?).any fun o => pureOp P o.op)
inductive Anc (ops : Array Oper) (f : Nat) : Nat → Prop
  | self : Anc ops f f
  | step {j i : Nat} : Anc ops f j → waitsOn ops j i = true → Anc ops f i
inductive Desc (ops : Array Oper) (f : Nat) : Nat → Prop
  | self : Desc ops f f
  | step {j i : Nat} : Desc ops f j → waitsOn ops i j = true → Desc ops f i
theorem ancs_spec {ops : Array Oper} {f : Nat} : ∀ (k i : Nat), i ∈ ancs ops f k → Anc ops f i
  | 0, i, h => by
    simp only [ancs, List.mem_singleton] at h
    subst h; exact .self
  | k + 1, i, h => by
    simp only [ancs] at h
    split at h
    · rename_i hc
      rcases List.mem_cons.1 h with rfl | h
      · obtain ⟨j, hj, hw⟩ := List.any_eq_true.1 hc
        exact .step (ancs_spec k j hj) hw
      · exact ancs_spec k i h
    · exact ancs_spec k i h
theorem descs_spec {ops : Array Oper} {f : Nat} : ∀ (k i : Nat), i ∈ descs ops f k → Desc ops f i
  | 0, i, h => by
    simp only [descs, List.mem_singleton] at h
    subst h; exact .self
  | k + 1, i, h => by
    simp only [descs] at h
    split at h
    · rename_i hc
      rcases List.mem_cons.1 h with rfl | h
      · obtain ⟨j, hj, hw⟩ := List.any_eq_true.1 hc
        exact .step (descs_spec k j hj) hw
      · exact descs_spec k i h
    · exact descs_spec k i h
theorem anc_ahead {ops : Array Oper} {f : Nat} {listed : Array Bool} (hc : ClosedUp ops listed) (hr : f ∈ Region.ready .any ops listed) {i : Nat} (h : Anc ops f i) (hu : listed.getD i false = false) : i = f := by
  induction h with
  | self => rfl
  | @step j i hj hw ih =>
    cases hl : listed.getD j false with
    | true =>
      have := waits_listed hc (.inr hl) hw
      rw [hu] at this; cases this
    | false =>
      obtain rfl := ih hl
      have := waits_listed hc (.inl hr) hw
      rw [hu] at this; cases this
theorem desc_behind {ops : Array Oper} {f : Nat} {listed : Array Bool} (hc : ClosedUp ops listed) (hf : f ∈ Region.ready .any ops listed) {i : Nat} (h : Desc ops f i) (hr : i ∈ Region.ready .any ops listed ∨ listed.getD i false = true) : i = f := by
  have key : i = f ∨ listed.getD f false = true := by
    induction h with
    | self => exact .inl rfl
    | @step j i hj hw ih =>
      have hl := waits_listed hc hr hw
      rcases ih (.inr hl) with rfl | h
      · exact .inr hl
      · exact .inr h
  rcases key with h | h
  · exact h
  · exact (listed_unready h hf).elim
theorem semi_spec {P : Program} {ops : Array Oper} {f i : Nat} {o : Oper} (h : semiOk P ops f = true) (hi : ops[i]? = some o) : i = f ∨ Anc ops f i ∨ Desc ops f i ∨ pureOp P o.op = true := by
  simp only [semiOk, Bool.and_eq_true, decide_eq_true_eq, List.all_eq_true, List.mem_range, Bool.or_eq_true, beq_iff_eq] at h
  rcases h.2 i (Array.getElem?_eq_some_iff.1 hi).1 with ((h | h) | h) | h
  · exact .inl h
  · exact .inr (.inl (ancs_spec _ _ (by simpa using h)))
  · exact .inr (.inr (.inl (descs_spec _ _ (by simpa using h))))
  · rw [hi] at h; exact .inr (.inr (.inr h))
/-- Of those that are marked, f waits for each, or each for f. -/
def linkOk (ops : Array Oper) (sd : List Nat) (f : Nat) : Bool :=
  let A := ancs ops f f; let D := descs ops f (ops.size - f); sd.all fun i => i == f || A.contains i || D.contains i
theorem link_spec {ops : Array Oper} {sd : List Nat} {f i : Nat} (h : linkOk ops sd f = true) (hi : sd.contains i = true) : i = f ∨ Anc ops f i ∨ Desc ops f i := by
  simp only [linkOk, List.all_eq_true, Bool.or_eq_true, beq_iff_eq] at h
  rcases h i (by simpa using hi) with (h | h) | h
  · exact .inl h
  · exact .inr (.inl (ancs_spec _ _ (by simpa using h)))
  · exact .inr (.inr (descs_spec _ _ (by simpa using h)))
section
variable {P : Program} {ops : Array Oper} {Q : Exit → Act → World → Prop} {R : World → World → Prop} {sd : List Nat}
def wpM (P : Program) (ops : Array Oper) (Q : Exit → Act → World → Prop) (R : World → World → Prop) (sd : List Nat) : Nat → Array Bool → World → Act → World → Prop
  | 0, listed, _, a, w => Region.ready .any ops listed = [] ∧ Q .normal a w
  | fuel + 1, listed, w0, a, w =>
    (Region.ready .any ops listed = [] → Q .normal a w) ∧
    ∀ i ∈ Region.ready .any ops listed, wpOp P ops Q i (fun a' w' => (semiOk P ops i = true ∧ wpM P ops Q R sd fuel (listed.setIfInBounds i true) w' a' w') ∨
      ((linkOk ops sd i = true ∨ w'.heap = w.heap) ∧ R w0 w' ∧ wpM P ops Q R sd fuel (listed.setIfInBounds i true) w0 a' w')) a w
theorem wpAny_of_wpM : ∀ (fuel : Nat) (listed : Array Bool) (w0 : World) (a : Act) (w : World), wpM P ops Q R sd fuel listed w0 a w → wpAny P .any ops Q fuel listed a w
  | 0, _, _, _, _, h => h
  | fuel + 1, _, _, _, _, h => ⟨h.1, fun i hi => wpOp_mono (fun a' w' h' => h'.elim (fun h => wpAny_of_wpM fuel _ _ a' w' h.2) fun h => wpAny_of_wpM fuel _ _ a' w' h.2.2) (h.2 i hi)⟩
/-- In which worlds an operation that is pending must yield its value. -/
def Tol (P : Program) (R : World → World → Prop) (sd : List Nat) (o : Oper) (i : Nat) (w0 w u : World) : Prop := pureOp P o.op = true ∨ (sd.contains i = true ∧ u.heap = w.heap) ∨ (sd.contains i = false ∧ R w0 u)
theorem Gives.mono {S S' : World → Prop} {o : Oper} {v : Value} {a : Act} (h : Gives P ops S o v a) (hS : ∀ u, S' u → S u) : Gives P ops S' o v a := h.imp (fun ⟨h1, h2⟩ => ⟨h1, fun w hw => h2 w (hS w hw)⟩) id
theorem wpM_first {i : Nat} {oi : Oper} {v : Value} (hi : ops[i]? = some oi) (hR : ∀ w, R w w)
    (hsel : ∀ (j : Nat) (o : Oper) cs b, ops[j]? = some o → o.op ≠ .select cs b) (hQ : ∀ c a w, ¬ Q (.panic c) a w) :
    ∀ (fuel : Nat) (listed : Array Bool) (w0 : World) (a : Act) (w : World), ClosedUp ops listed →
      (∀ j oj, ops[j]? = some oj → j ≠ i → listed.getD j true = false → (∀ e ∈ oj.after, Region.binds .any e = true → e.on ≠ i) → oi.apart ops oj = true) →
      i ∈ Region.ready .any ops listed → Gives P ops (Tol P R sd oi i w0 w) oi v a → R w0 w →
      wpM P ops Q R sd fuel (listed.setIfInBounds i true) w0 (a.put oi.dst v) w → wpM P ops Q R sd (fuel + 1) listed w0 a w := by
  have here : ∀ {w0 w : World}, R w0 w → Tol P R sd oi i w0 w w := fun h => by
    cases hs : sd.contains i with
    | true => exact .inr (.inl ⟨hs, rfl⟩)
    | false => exact .inr (.inr ⟨hs, h⟩)
  intro fuel
  induction fuel with
  | zero =>
    intro listed w0 a w _ _ hr hy hS H
    refine ⟨fun h => (by rw [h] at hr; cases hr), fun j hj => ?_⟩
    by_cases hji : j = i
    · subst hji; exact hy.wpOp hi (here hS) (.inr ⟨.inr rfl, hS, H⟩)
    · have := ready_mono hj hji
      rw [H.1] at this
      cases this
  | succ fuel ih =>
    intro listed w0 a w hc hfree hr hy hS H
    refine ⟨fun h => (by rw [h] at hr; cases hr), fun j hj => ?_⟩
    by_cases hji : j = i
    · subst hji; exact hy.wpOp hi (here hS) (.inr ⟨.inr rfl, hS, H⟩)
    · have h1 := H.2 j (ready_mono hj hji)
      obtain ⟨hjun, oj, hoj, hall⟩ := mem_ready.1 hj
      have hiun := (mem_ready.1 hr).1
      have his : i < ops.size := (Array.getElem?_eq_some_iff.1 hi).1
      have hnot : ∀ e ∈ oj.after, Region.binds .any e = true → e.on ≠ i := fun e he hb heq => by
        have h1 := hall e he hb
        rw [heq, getD_tf hiun] at h1
        cases h1
      have h2 := wpOp_before hoj (hfree j oj hoj hji hjun hnot) (fun cs b => hsel i oi cs b hi) (fun cs b => hsel j oj cs b hoj) hQ hy h1
      have hfree' : ∀ k ok, ops[k]? = some ok → k ≠ i → (listed.setIfInBounds j true).getD k true = false → (∀ e ∈ ok.after, Region.binds .any e = true → e.on ≠ i) → oi.apart ops ok = true := fun k ok hk hki hun hno => by
        refine hfree k ok hk hki ?_ hno
        by_cases hjk : j = k
        · subst hjk; exact hjun
        · rw [getD_set_ne true hjk] at hun; exact hun
      have apartL : ¬ (i = j ∨ Anc ops j i ∨ Desc ops j i) := fun h => by
        rcases h with h | h | h
        · exact hji h.symm
        · exact hji (anc_ahead hc hj h (getD_tf hiun)).symm
        · exact hji (desc_behind hc hj h (.inl hr)).symm
      refine wpOp_mono (fun a' w' h3 => ?_) h2
      rcases h3.2 with ⟨hb, hrest⟩ | ⟨hl, hS', hrest⟩
      · refine .inl ⟨hb, ih (listed.setIfInBounds j true) w' a' w' (hc.set hj) hfree' (ready_mono hr (Ne.symm hji)) (h3.1.mono fun u _ => .inl ?_) (hR _) ?_⟩
        · rcases semi_spec hb hi with h | h | h | h
          · exact (apartL (.inl h)).elim
          · exact (apartL (.inr (.inl h))).elim
          · exact (apartL (.inr (.inr h))).elim
          · exact h
        · rw [Array.setIfInBounds_comm _ _ hji]
          exact hrest
      · refine .inr ⟨hl, hS', ih (listed.setIfInBounds j true) w0 a' w' (hc.set hj) hfree' (ready_mono hr (Ne.symm hji)) (h3.1.mono fun u hu => ?_) hS' ?_⟩
        · rcases hu with hu | ⟨hu, hh⟩ | hu
          · exact .inl hu
          · rcases hl with hl | hl
            · exact (apartL (link_spec hl hu)).elim
            · exact .inr (.inl ⟨hu, hh.trans hl⟩)
          · exact .inr (.inr hu)
        · rw [Array.setIfInBounds_comm _ _ hji]
          exact hrest
end
/-- A plan: an operation is taken (true: all that write wait for it or it for them); is carried out; is carried out, and all that read wait for it or it for them; two may come up. -/
inductive PM where
  | nil
  | take (s : Bool) (i : Nat) (r : PM)
  | act (i : Nat) (r : PM)
  | bar (i : Nat) (r : PM)
  | split (i : Nat) (r : PM) (j : Nat) (s : PM)
def sdOf : PM → List Nat
  | .nil => []
  | .take true i r => i :: sdOf r
  | .take false _ r => sdOf r
  | .act _ r => sdOf r
  | .bar _ r => sdOf r
  | .split _ r _ s => sdOf r ++ sdOf s
def ptOkM (P : Program) (ops : Array Oper) (sd : List Nat) : PM → Array Bool → Bool
  | .nil, listed => (Region.ready .any ops listed).isEmpty
  | .take s i r, listed => (s == sd.contains i) && (Region.ready .any ops listed).contains i && Region.free .any ops listed i && ptOkM P ops sd r (listed.setIfInBounds i true)
  | .act i r, listed => decide (Region.ready .any ops listed = [i]) && linkOk ops sd i && ptOkM P ops sd r (listed.setIfInBounds i true)
  | .bar i r, listed => decide (Region.ready .any ops listed = [i]) && semiOk P ops i && ptOkM P ops sd r (listed.setIfInBounds i true)
  | .split i r j s, listed => decide (Region.ready .any ops listed = [i, j]) && linkOk ops sd i && linkOk ops sd j && ptOkM P ops sd r (listed.setIfInBounds i true) && ptOkM P ops sd s (listed.setIfInBounds j true)
def ptM : PM → Nat → Bool
  | .nil, n => n == 0
  | .take _ _ r, n => n != 0 && ptM r (n - 1)
  | .act _ r, n => n != 0 && ptM r (n - 1)
  | .bar _ r, n => n != 0 && ptM r (n - 1)
  | .split _ r _ s, n => n != 0 && ptM r (n - 1) && ptM s (n - 1)
def regOkM (P : Program) (n : Nat) (ops : Array Oper) (pl : PM) : Bool :=
  Region.noSelect ops && dstsOk n ops && ptM pl ops.size && (let sd := sdOf pl; ptOkM P ops sd pl (Array.replicate ops.size false))
def WPM (P : Program) (ops : Array Oper) (H : Hold) (Q : Post) : PM → Env → World → Prop
  | .nil, e, w => Q .normal e w
  | .take true i r, e, w => withOp ops i (TakeO P ops (some none) (WPM P ops H Q r) e w)
  | .take false i r, e, w => withOp ops i (TakeO P ops H (WPM P ops H Q r) e w)
  | .act i r, e, w => DoAt P ops H none i (WPM P ops H Q r) e w
  | .bar i r, e, w => DoB P ops i (WPM P ops H Q r) e w
  | .split i r j s, e, w => DoAt P ops H none i (WPM P ops H Q r) e w ∧ DoAt P ops H none j (WPM P ops H Q s) e w
section
variable {P : Program} {ops : Array Oper} {n : Nat} {Q : Post} {sd : List Nat}
theorem wpM_of_plan {H : Hold} (hsel : Region.noSelect ops = true) (hd : dstsOk n ops = true) (hH : ∀ a b c, keeps H a b → keeps H b c → keeps H a c) :
    ∀ (pl : PM) (k : Nat) (listed : Array Bool) (w0 : World) (e : Env) (a : Act) (w : World), ptM pl k = true → Fr n e a → ClosedUp ops listed → ptOkM P ops sd pl listed = true → keeps H w0 w →
      WPM P ops H Q pl e w → wpM P ops (lift n Q) (keeps H) sd k listed w0 a w
  | .nil, k, listed, w0, e, a, w, hn, ha, _, hok, _, h => by
    obtain rfl : k = 0 := by simpa [ptM] using hn
    exact ⟨by simpa [ptOkM] using hok, e, ha, trivial, h⟩
  | .take s i r, 0, listed, w0, e, a, w, hn, ha, hc, hok, hk, h => by simp [ptM] at hn
  | .act i r, 0, listed, w0, e, a, w, hn, ha, hc, hok, hk, h => by simp [ptM] at hn
  | .bar i r, 0, listed, w0, e, a, w, hn, ha, hc, hok, hk, h => by simp [ptM] at hn
  | .split i r j s, 0, listed, w0, e, a, w, hn, ha, hc, hok, hk, h => by simp [ptM] at hn
  | .take s i r, k + 1, listed, w0, e, a, w, hn, ha, hc, hok, hk, h => by
    obtain ⟨o, ho, h⟩ : withOp ops i (TakeO P ops (if s = true then some none else H) (WPM P ops H Q r) e w) := by cases s <;> exact h
    have hn' : ptM r k = true := by simpa [ptM] using hn
    simp only [ptOkM, Bool.and_eq_true, beq_iff_eq] at hok
    obtain ⟨⟨⟨hs, hr⟩, hf⟩, hok⟩ := hok
    have hr' : i ∈ Region.ready .any ops listed := by simpa using hr
    have go : ∀ v, Gives P ops (Tol P (keeps H) sd o i w0 w) o v a → WPM P ops H Q r (updO e o.dst v) w →
        wpM P ops (lift n Q) (keeps H) sd (k + 1) listed w0 a w := fun v hg hw =>
      wpM_first ho (keeps_refl H) (Region.noSelect_spec hsel) lift_panic k listed w0 a w hc (Region.free_spec ho hf) hr' hg hk
        (wpM_of_plan hsel hd hH r k _ _ _ _ _ hn' (ha.put (dst_lt hd ho) v) (hc.set hr') hok hk hw)
    rcases guardE_cases h with ⟨hw, v, hv, hrest⟩ | ⟨hw, hrest⟩
    · refine go v (.inl ⟨wanted_of ha hd hw, fun w' hk2 => ?_⟩) hrest
      rw [ha.eval]
      rcases hk2 with hp | ⟨h1, h2⟩ | ⟨h1, h2⟩
      · rw [pure_tk (H' := some (some [])) (w' := w) hp] at hv
        exact tk_sound hv fun b hb => by simp [readsB] at hb
      · exact tk_sound hv fun b _ => by rw [h2]
      · rw [h1] at hs
        subst hs
        exact tk_sound hv fun b hb => (keeps_reads h2 hb).trans (keeps_reads hk hb).symm
    · exact go undef (.inr ⟨unwanted_of ha hd hw, rfl⟩) hrest
  | .act i r, k + 1, listed, w0, e, a, w, hn, ha, hc, hok, hk, h => by
    have hn' : ptM r k = true := by simpa [ptM] using hn
    simp only [ptOkM, Bool.and_eq_true, decide_eq_true_eq] at hok
    obtain ⟨⟨hr, hl⟩, hok⟩ := hok
    have hr' : i ∈ Region.ready .any ops listed := by rw [hr]; simp
    refine ⟨fun h0 => (by rw [h0] at hr; cases hr), fun j hj => ?_⟩
    obtain rfl : j = i := by rw [hr] at hj; simpa using hj
    refine wpOp_of_doAt ha hd h fun e' a' w' ha' hkk hrest => ?_
    have hk1 := hH _ _ _ hk (hkk.resolve_left (by simp))
    exact .inr ⟨.inl hl, hk1, wpM_of_plan hsel hd hH r k _ _ _ _ _ hn' ha' (hc.set hr') hok hk1 hrest⟩
  | .bar i r, k + 1, listed, w0, e, a, w, hn, ha, hc, hok, hk, h => by
    have hn' : ptM r k = true := by simpa [ptM] using hn
    simp only [ptOkM, Bool.and_eq_true, decide_eq_true_eq] at hok
    obtain ⟨⟨hr, hb⟩, hok⟩ := hok
    have hr' : i ∈ Region.ready .any ops listed := by rw [hr]; simp
    refine ⟨fun h0 => (by rw [h0] at hr; cases hr), fun j hj => ?_⟩
    obtain rfl : j = i := by rw [hr] at hj; simpa using hj
    refine wpOp_of_doB ha hd h fun e' a' w' ha' hrest => .inl ⟨hb, ?_⟩
    exact wpM_of_plan hsel hd hH r k _ _ _ _ _ hn' ha' (hc.set hr') hok (keeps_refl _ _) hrest
  | .split i r j s, k + 1, listed, w0, e, a, w, hn, ha, hc, hok, hk, h => by
    have hn' : ptM r k = true ∧ ptM s k = true := by simpa [ptM] using hn
    simp only [ptOkM, Bool.and_eq_true, decide_eq_true_eq] at hok
    obtain ⟨⟨⟨⟨hr, hl1⟩, hl2⟩, hok1⟩, hok2⟩ := hok
    have hi' : i ∈ Region.ready .any ops listed := by rw [hr]; simp
    have hj' : j ∈ Region.ready .any ops listed := by rw [hr]; simp
    refine ⟨fun h0 => (by rw [h0] at hr; cases hr), fun m hm => ?_⟩
    rw [hr] at hm
    rcases List.mem_cons.1 hm with rfl | hm
    · refine wpOp_of_doAt ha hd h.1 fun e' a' w' ha' hkk hrest => ?_
      have hk1 := hH _ _ _ hk (hkk.resolve_left (by simp))
      exact .inr ⟨.inl hl1, hk1, wpM_of_plan hsel hd hH r k _ _ _ _ _ hn'.1 ha' (hc.set hi') hok1 hk1 hrest⟩
    · obtain rfl : m = j := by simpa using hm
      refine wpOp_of_doAt ha hd h.2 fun e' a' w' ha' hkk hrest => ?_
      have hk1 := hH _ _ _ hk (hkk.resolve_left (by simp))
      exact .inr ⟨.inl hl2, hk1, wpM_of_plan hsel hd hH s k _ _ _ _ _ hn'.2 ha' (hc.set hj') hok2 hk1 hrest⟩
/-- A region that draws its order, by a plan with branches; barriers concern the heap alone, and what is linked with all that write needs no hold. -/
theorem W_semi (H : Hold) (pl : PM) {id : Nat} {e : Env} {w : World} (hm : P.follows .mixedOrders = true)
    (hok : regOkM P n ops pl = true) (h : WPM P ops H Q pl e w.drew) : W P n (.region id ops true) Q e w := by
  intro a ha
  simp only [regOkM, Bool.and_eq_true] at hok
  obtain ⟨⟨⟨hsel, hd⟩, hlen⟩, hok⟩ := hok
  refine wp_region_any hm ?_
  have hc : ClosedUp ops (Array.replicate ops.size false) := ⟨by simp, fun j oj _ hl => by
    rcases Nat.lt_or_ge j ops.size with h | h
    · simp [h] at hl
    · simp [h] at hl⟩
  exact wpAny_of_wpM _ _ _ _ _ (wpM_of_plan hsel hd (keeps_trans H) pl _ _ w.drew e a w.drew hlen ha hc hok (keeps_refl _ _) h)
end
theorem rgm :
    (∀ {P : Program} {ops : Array Oper} {H : Hold} {Q : Post} {e : Env} {w : World}, WPM P ops H Q .nil e w = Q Exit.normal e w) ∧
    (∀ {P : Program} {ops : Array Oper} {H : Hold} {Q : Post} {e : Env} {w : World} (i : Nat) (r : PM), WPM P ops H Q (.take true i r) e w = withOp ops i (TakeO P ops (some none) (WPM P ops H Q r) e w)) ∧
    (∀ {P : Program} {ops : Array Oper} {H : Hold} {Q : Post} {e : Env} {w : World} (i : Nat) (r : PM), WPM P ops H Q (.take false i r) e w = withOp ops i (TakeO P ops H (WPM P ops H Q r) e w)) ∧
    (∀ {P : Program} {ops : Array Oper} {H : Hold} {Q : Post} {e : Env} {w : World} (i : Nat) (r : PM), WPM P ops H Q (.act i r) e w = DoAt P ops H none i (WPM P ops H Q r) e w) ∧
    (∀ {P : Program} {ops : Array Oper} {H : Hold} {Q : Post} {e : Env} {w : World} (i : Nat) (r : PM), WPM P ops H Q (.bar i r) e w = DoB P ops i (WPM P ops H Q r) e w) ∧
    (∀ {P : Program} {ops : Array Oper} {H : Hold} {Q : Post} {e : Env} {w : World} (i j : Nat) (r s : PM), WPM P ops H Q (.split i r j s) e w = (DoAt P ops H none i (WPM P ops H Q r) e w ∧ DoAt P ops H none j (WPM P ops H Q s) e w)) :=
  ⟨id (Eq.trans rfl rfl), fun _ _ => id (Eq.trans rfl rfl), fun _ _ => id (Eq.trans rfl rfl), fun _ _ => id (Eq.trans rfl rfl), fun _ _ => id (Eq.trans rfl rfl), fun _ _ _ _ => id (Eq.trans rfl rfl)⟩
end Go.Proofs.Ytmbbhmkenmliiaa
/-
  What nodeRebalance's walks share. No condition.
-/
set_option linter.unusedSimpArgs false
set_option linter.unusedVariables false
namespace Go.Proofs.Ytmbbhmkenmliiaa
open Go Go.Proofs
theorem rb_k (x : It) : bsV Try.prog 71 1 [(0, itV x)] = some (47, E.cel x) := by kernel_rfl
theorem rb_o (a : Option Addr) : bsV Try.prog 80 1 [(0, .pointer a)] = some (65, [.pointer a]) := by kernel_rfl
theorem rb_eli : elK Try.prog 71 = some (47, 2, 16, E.cel zIt) := by kernel_rfl
theorem rb_elk : elK Try.prog 80 = some (65, 1, 8, [.pointer none]) := by kernel_rfl
theorem rb_len (x : It) : (itV x).cells.toList.length = 2 := rfl
theorem rb_oc (x : It) : oc (itV x).cells.toList := E.one x
theorem on1_0 (a : Nat) : readsB (some (some [a])) a = true := by simp [readsB]
theorem on2_0 (a b : Nat) : readsB (some (some [a, b])) a = true := by simp [readsB]
theorem on2_1 (a b : Nat) : readsB (some (some [a, b])) b = true := by simp [readsB]
theorem on3_0 (a b c : Nat) : readsB (some (some [a, b, c])) a = true := by simp [readsB]
theorem on3_1 (a b c : Nat) : readsB (some (some [a, b, c])) b = true := by simp [readsB]
theorem on3_2 (a b c : Nat) : readsB (some (some [a, b, c])) c = true := by simp [readsB]
theorem on5_0 (a b c d e : Nat) : readsB (some (some [a, b, c, d, e])) a = true := by simp [readsB]
theorem on5_1 (a b c d e : Nat) : readsB (some (some [a, b, c, d, e])) b = true := by simp [readsB]
theorem on5_2 (a b c d e : Nat) : readsB (some (some [a, b, c, d, e])) c = true := by simp [readsB]
theorem on5_3 (a b c d e : Nat) : readsB (some (some [a, b, c, d, e])) d = true := by simp [readsB]
theorem on5_4 (a b c d e : Nat) : readsB (some (some [a, b, c, d, e])) e = true := by simp [readsB]
theorem lt1 {B a : Nat} (h : a < B) : ∀ x ∈ [a], x < B := by simp [h]
theorem lt2 {B a b : Nat} (h : a < B) (h2 : b < B) : ∀ x ∈ [a, b], x < B := by simp [h, h2]
theorem lt3 {B a b c : Nat} (h : a < B) (h2 : b < B) (h3 : c < B) : ∀ x ∈ [a, b, c], x < B := by simp [h, h2, h3]
theorem lt5 {B a b c d e : Nat} (h : a < B) (h2 : b < B) (h3 : c < B) (h4 : d < B) (h5 : e < B) : ∀ x ∈ [a, b, c, d, e], x < B := by simp [h, h2, h3, h4, h5]
theorem fkeep1 {B c a : Nat} (h : a < B ∧ a ≠ c) : ∀ x ∈ [a], x < B ∧ x ≠ c := by simp [h]
theorem fkeep2 {B c a b : Nat} (h : a < B ∧ a ≠ c) (h2 : b < B ∧ b ≠ c) : ∀ x ∈ [a, b], x < B ∧ x ≠ c := by simp [h, h2]
theorem ix0 (sz b o n : Nat) (h : 0 < n) : idxX (some sz) ⟨b, o, none⟩ n 0 = some (.pointer (some ⟨b, o, none⟩)) := by
  have := idxX_s sz b o n 0 h
  rwa [Nat.zero_mul, Nat.add_zero] at this
theorem W_st {P : Program} {n : Nat} {c : Code} {Q : Post} {e : Env} {w w0 : World} {G : Nat → Nat → Prop} {L : List Ob} {v0 v1 v2 v6 v7 : Value} (s : Ss w0 G w L) (h0 : e 0 = v0) (h1 : e 1 = v1) (h2 : e 2 = v2) (h6 : e 6 = v6) (h7 : e 7 = v7)
    (h : ∀ (e' : Env) (w' : World), Ss w0 G w' L → e' 0 = v0 → e' 1 = v1 → e' 2 = v2 → e' 6 = v6 → e' 7 = v7 → W P n c Q e' w') : W P n c Q e w := h e w s h0 h1 h2 h6 h7
end Go.Proofs.Ytmbbhmkenmliiaa
/-
  An iterator over a map: its record and its stack, what its moves leave. No condition.
-/
set_option linter.unusedSimpArgs false
set_option linter.unusedVariables false
namespace Go.Proofs.Ytmbbhmkenmliiaa
open Go Go.Proofs
/-- A stack's entries: a node and a place in it. -/
def Es : Enc (Nat × Int) where
  cel p := [ptr p.1, .int .i64 p.2]
  sz := 2
  len _ := rfl
  one p v hv := by simp at hv; rcases hv with rfl | rfl <;> rfl
  pos := by decide
theorem Es_sz : Es.sz = 2 := rfl
def stV (p : Nat × Int) : Value := .agg #[ptr p.1, .int .i64 p.2]
theorem bu_st (b : Nat) (i : Int) : buildV Try.prog 84 [(0, .pointer (some ⟨b, 0, none⟩)), (1, .int .i64 i)] = some (stV (b, i)) := by kernel_rfl
theorem bs_st1 (p : Nat × Int) : bsV Try.prog 45 1 [(0, stV p)] = some (84, Es.cel p) := by kernel_rfl
theorem el_st : elK Try.prog 45 = some (84, 2, 16, [.pointer none, .int .i64 0]) := by kernel_rfl
theorem ni_st : noInt Try.prog 45 = true := by kernel_rfl
def ItI (w : World) (ib : Nat) : Prop := ∃ x : It, Row w ib 6 (E.cel x)
/-- An iterator's record and its stack. -/
structure ItS (ib m : Nat) (mu : Bool) (full : List (Nat × Int)) (sb so cap : Nat) (w : World) : Prop where
  tr : rd w ib 0 = some (ptr m)
  mtf : rd w ib 1 = some (.bool mu)
  fl : ∀ k, 2 ≤ k → k < 5 → ∃ a : Bool, rd w ib k = some (.bool a)
  st : SE Es w ib 5 full sb so cap
  itm : ItI w ib
  wok : wok w ib 8
theorem ItI.ext {w w' : World} {ib : Nat} {G : Nat → Nat → Prop} (h : ItI w ib) (x : Ext G w w') (hG : ∀ o, 6 ≤ o → o < 8 → ¬ G ib o) : ItI w' ib := h.imp fun _ g => x.row g fun i hi => hG _ (by omega) (by have : i < 2 := hi; omega)
theorem ItS.ext {ib m : Nat} {mu : Bool} {full : List (Nat × Int)} {sb so cap : Nat} {w w' : World} {G : Nat → Nat → Prop} (h : ItS ib m mu full sb so cap w) (x : Ext G w w') (h1 : ∀ o, ¬ G ib o) (h2 : ∀ o, ¬ G sb o) : ItS ib m mu full sb so cap w' :=
  ⟨x.rd h.tr (h1 _), x.rd h.mtf (h1 _), fun k k1 k2 => (h.fl k k1 k2).imp fun _ g => x.rd g (h1 _), h.st.ext x (fun y o g k => by
    rcases g with g | g
    · rw [g.1] at k; exact h1 _ k
    · rw [g.1] at k; exact h2 _ k), h.itm.ext x fun o _ _ => h1 o, x.wok h.wok⟩
theorem ItS.ext0 {ib m : Nat} {mu : Bool} {full : List (Nat × Int)} {sb so cap : Nat} {w w' : World} (h : ItS ib m mu full sb so cap w) (x : Ext noF w w') : ItS ib m mu full sb so cap w' := h.ext x (fun _ g => g) fun _ g => g
theorem ItS.stack {ib m : Nat} {mu : Bool} {full full' : List (Nat × Int)} {sb so cap sb' so' cap' : Nat} {w w' : World} (h : ItS ib m mu full sb so cap w) (x : Ext (seF Es ib 5 sb so cap) w w') (s : SE Es w' ib 5 full' sb' so' cap') : ItS ib m mu full' sb' so' cap' w' := by
  have hn : ∀ k, k ≠ 5 → ¬ seF Es ib 5 sb so cap ib k := fun k hk g => by
    rcases g with g | g
    · omega
    · exact h.st.ne g.1.symm
  exact ⟨x.rd h.tr (hn 0 (by decide)), x.rd h.mtf (hn 1 (by decide)), fun k h1 h2 => (h.fl k h1 h2).imp fun _ g => x.rd g (hn k (by omega)), s, h.itm.ext x (fun o h1 h2 => hn o (by omega)), x.wok h.wok⟩
theorem ItS.flag {ib m : Nat} {mu : Bool} {full : List (Nat × Int)} {sb so cap k : Nat} {a : Bool} {w w' : World} (h : ItS ib m mu full sb so cap w) (x : Ext (rng ib k 1) w w') (r : rd w' ib k = some (.bool a)) (h3 : 2 ≤ k) (h6 : k < 5) : ItS ib m mu full sb so cap w' :=
  ⟨x.rd h.tr (by simp only [rng]; omega), x.rd h.mtf (by simp only [rng]; omega), fun j h1 h2 => by
    by_cases hj : j = k
    · subst hj; exact ⟨a, r⟩
    · exact (h.fl j h1 h2).imp fun _ g => x.rd g (by simp only [rng]; omega), h.st.ext x (fun y o g k' => by
      simp only [rng] at k'
      rcases g with g | g
      · omega
      · exact h.st.ne (g.1.symm.trans k'.1)), h.itm.ext x (fun o h1 h2 => by simp only [rng]; omega), x.wok h.wok⟩
theorem ItS.item {ib m : Nat} {mu : Bool} {full : List (Nat × Int)} {sb so cap : Nat} {w w' : World} {x : It} (h : ItS ib m mu full sb so cap w) (x0 : Ext (rng ib 6 2) w w') (r : Row w' ib 6 (E.cel x)) : ItS ib m mu full sb so cap w' :=
  ⟨x0.rd h.tr (by simp only [rng]; omega), x0.rd h.mtf (by simp only [rng]; omega), fun j h1 h2 => (h.fl j h1 h2).imp fun _ g => x0.rd g (by simp only [rng]; omega), h.st.ext x0 (fun y o g k' => by
      simp only [rng] at k'
      rcases g with g | g
      · omega
      · exact h.st.ne (g.1.symm.trans k'.1)), ⟨x, r⟩, x0.wok h.wok⟩
def itF (HF : Nat → Nat → Prop) (ib sb : Nat) : Nat → Nat → Prop := fun y o => y = ib ∨ y = sb ∨ HF y o
/-- What a method of an iterator leaves: the record and a stack, in its own block or in a new one; nothing else is changed but HF. -/
def Its (HF : Nat → Nat → Prop) (w1 : World) (ib m : Nat) (mu : Bool) (sb0 : Nat) (full : List (Nat × Int)) (w : World) : Prop :=
  ∃ sb so cap, ItS ib m mu full sb so cap w ∧ (sb = sb0 ∨ w1.heap.size ≤ sb) ∧ Ext (itF HF ib sb0) w1 w
theorem Its.start {HF : Nat → Nat → Prop} {ib m so cap sb0 : Nat} {mu : Bool} {full : List (Nat × Int)} {w : World} (h : ItS ib m mu full sb0 so cap w) : Its HF w ib m mu sb0 full w := ⟨sb0, so, cap, h, .inl rfl, Ext.refl _ _⟩
theorem itF_tr {HF : Nat → Nat → Prop} {w1 w w' : World} {ib sb0 sb : Nat} (X : Ext (itF HF ib sb0) w1 w) (hs : sb = sb0 ∨ w1.heap.size ≤ sb) (x : Ext (itF HF ib sb) w w') : Ext (itF HF ib sb0) w1 w' :=
  X.trans x (fun _ _ g => g) fun y o hy g => by
    rcases g with g | g | g
    · exact .inl g
    · rcases hs with h | h
      · exact .inr (.inl (g.trans h))
      · omega
    · exact .inr (.inr g)
theorem Its.step {HF : Nat → Nat → Prop} {w1 w w' : World} {ib m sb0 sb sb' so' cap' : Nat} {mu : Bool} {full' : List (Nat × Int)} (hs : sb = sb0 ∨ w1.heap.size ≤ sb) (X : Ext (itF HF ib sb0) w1 w) (x : Ext (itF HF ib sb) w w') (h' : ItS ib m mu full' sb' so' cap' w') (hb : sb' = sb ∨ w.heap.size ≤ sb') : Its HF w1 ib m mu sb0 full' w' :=
  ⟨sb', so', cap', h', by have := X.size; omega, itF_tr X hs x⟩
theorem Its.ext0 {HF : Nat → Nat → Prop} {w1 w w' : World} {ib m sb0 : Nat} {mu : Bool} {full : List (Nat × Int)} (h : Its HF w1 ib m mu sb0 full w) (x : Ext noF w w') : Its HF w1 ib m mu sb0 full w' := by
  obtain ⟨sb, so, cap, h1, h2, h3⟩ := h
  exact ⟨sb, so, cap, h1.ext0 x, h2, h3.tr (x.mono fun _ _ _ g => g.elim)⟩
theorem Its.x {HF : Nat → Nat → Prop} {w1 w : World} {ib m sb0 : Nat} {mu : Bool} {full : List (Nat × Int)} (h : Its HF w1 ib m mu sb0 full w) : Ext (itF HF ib sb0) w1 w := by
  obtain ⟨sb, so, cap, h1, h2, h3⟩ := h
  exact h3
/-- A method called by another one. -/
theorem Its.call {HF HG : Nat → Nat → Prop} {w1 w w' : World} {ib m sb0 sb : Nat} {mu : Bool} {full' : List (Nat × Int)} (hs : sb = sb0 ∨ w1.heap.size ≤ sb) (X : Ext (itF HF ib sb0) w1 w) (hG : ∀ y o, HG y o → HF y o) (h : Its HG w ib m mu sb full' w') : Its HF w1 ib m mu sb0 full' w' := by
  obtain ⟨sb', so', cap', h1, h2, h3⟩ := h
  exact Its.step hs X (h3.mono fun y o _ g => g.imp id fun g => g.imp id (hG y o)) h1 h2
theorem seF_itF {HF : Nat → Nat → Prop} {ib sb so cap : Nat} {y o : Nat} (g : seF Es ib 5 sb so cap y o) : itF HF ib sb y o := by
  rcases g with g | g
  · exact .inl g.1
  · exact .inr (.inl g.1)
/-- The stack's last entry, in memory. -/
theorem SE.last {w : World} {hb ho sb so cap : Nat} {st : List (Nat × Int)} {b : Nat} {i : Int} (h : SE Es w hb ho (st ++ [(b, i)]) sb so cap) :
    rd w hb ho = some (.slice (some ⟨sb, so, none⟩) (st.length + 1 : Nat) cap) ∧ rd w sb (so + st.length * 2) = some (ptr b) ∧ rd w sb (so + st.length * 2 + 1) = some (.int .i64 i) ∧ st.length + 1 ≤ cap := by
  have h1 := h.hd
  have h2 := h.le
  rw [List.length_append, List.length_singleton] at h1 h2
  have h3 := row_at Es h.row (i := st.length) (x := (b, i)) (by simp)
  have h4 : Row w sb (so + st.length * 2) [ptr b, .int .i64 i] := h3
  have h5 := Row.cons.1 h4
  exact ⟨h1, h5.1, (Row.cons.1 h5.2).1, h2⟩
/-- The stack is emptied. -/
theorem SE.cut0 {w w' : World} {hb ho sb so cap : Nat} {l : List (Nat × Int)} (h : SE Es w hb ho l sb so cap) (x : Ext (rng hb ho 1) w w') (r : rd w' hb ho = some (.slice (some ⟨sb, so, none⟩) (0 : Nat) cap)) : SE Es w' hb ho [] sb so cap ∧ Ext (seF Es hb ho sb so cap) w w' :=
  ⟨⟨r, Row.nil _ _ _, x.wok h.wi, Nat.zero_le _, x.wok h.hok, h.ne⟩, x.mono fun y o _ g => .inl (by simp only [rng] at g; omega)⟩
/-- The last entry's place is changed. -/
theorem SE.seti {w w' : World} {hb ho sb so cap : Nat} {st : List (Nat × Int)} {b : Nat} {i j : Int} (h : SE Es w hb ho (st ++ [(b, i)]) sb so cap) (x : Ext (rng sb (so + st.length * 2 + 1) 1) w w') (r : rd w' sb (so + st.length * 2 + 1) = some (.int .i64 j)) :
    SE Es w' hb ho (st ++ [(b, j)]) sb so cap ∧ Ext (seF Es hb ho sb so cap) w w' := by
  obtain ⟨h1, h2, h3, h4⟩ := h.last
  have hle := Nat.mul_le_mul_right 2 h4
  have X : Ext (rng sb (so + st.length * Es.sz) Es.sz) w w' := x.mono fun y o _ g => by
    simp only [rng] at g ⊢
    rw [Es_sz]
    omega
  have hr : Row w' sb (so + st.length * Es.sz) (Es.cel (b, j)) := by
    have h2' := x.rd h2 (by simp only [rng]; omega)
    exact Row.cons.2 ⟨h2', Row.cons.2 ⟨r, Row.nil _ _ _⟩⟩
  obtain ⟨g1, g2⟩ := h.set (i := st.length) (x := (b, j)) (by simp) X hr
  have : (st ++ [(b, i)]).set st.length (b, j) = st ++ [(b, j)] := set_last
  rw [this] at g1
  exact ⟨g1, g2⟩
/-- Where an iterator stands: nowhere, or at an item. -/
def Pos (iso : Int) (d : Nat) (w : World) (H root : Nat) (X : List It) (F : Nat → Nat → Prop) (full : List (Nat × Int)) (p : Option Nat) : Prop := match p with
  | none => full = []
  | some k => Cur E iso (d - 1) (2 * d - 1) w H 1 root X F full k
/-- Outside of the map's own block. -/
def Far (_ m y : Nat) : Prop := y ≠ m
abbrev TreeAt (_ : Nat) (_ : List Int) (w : World) (m d : Nat) (iso : Int) (xs : List It) (F : Nat → Nat → Prop) : Prop := MapAt w m d iso xs F
theorem TreeAt.nf {B : Nat} {ord : List Int} {w : World} {m d : Nat} {iso : Int} {xs : List It} {F : Nat → Nat → Prop} (_ : TreeAt B ord w m d iso xs F) : ¬ Far B m m := fun g => g rfl
theorem TreeAt.extF {B : Nat} {ord : List Int} {w w' : World} {G : Nat → Nat → Prop} {m d : Nat} {iso : Int} {xs : List It} {F : Nat → Nat → Prop} (h : TreeAt B ord w m d iso xs F) (x : Ext G w w') (hG : ∀ y o, G y o → Far B m y ∧ ¬ F y o) : TreeAt B ord w' m d iso xs F :=
  MapAt.extG h x (fun y o k g => (hG y o g).2 k) fun o g => (hG m o g).1 rfl
theorem idx0 (sz b o n : Nat) (h : 0 < n) : idxX (some sz) ⟨b, o, none⟩ n 0 = some (.pointer (some ⟨b, o, none⟩)) := by
  have := idxX_s sz b o n 0 h
  rwa [Nat.zero_mul, Nat.add_zero] at this
/-- Where an iterator stands in a tree: nowhere, or at an item. -/
def PosT (m d : Nat) (iso : Int) (X : List It) (F : Nat → Nat → Prop) (ib : Nat) (w : World) (full : List (Nat × Int)) (p : Option Nat) : Prop := match p with
  | none => full = []
  | some k => rd w ib 2 = some (.bool true) ∧ ∃ H root, rd w m 2 = some (ptr root) ∧ Tr E iso (d - 1) (2 * d - 1) H w 1 root X F ∧ Cur E iso (d - 1) (2 * d - 1) w H 1 root X F full k
theorem PosT.ext {m d : Nat} {iso : Int} {X : List It} {F : Nat → Nat → Prop} {ib : Nat} {w w' : World} {full : List (Nat × Int)} {p : Option Nat} {G : Nat → Nat → Prop} (h : PosT m d iso X F ib w full p) (x : Ext G w w') (h1 : ¬ G ib 2) (h2 : ¬ G m 2) (h3 : ∀ y o, F y o → ¬ G y o) : PosT m d iso X F ib w' full p := by
  cases p with
  | none => exact h
  | some k =>
    obtain ⟨g1, H, root, g2, g3, g4⟩ := h
    exact ⟨x.rd g1 h1, H, root, x.rd g2 h2, g3.ext x h3, g4.ext x h3⟩
theorem TreeAt.rt {B : Nat} {ord : List Int} {w w' : World} {m d root : Nat} {iso : Int} {xs : List It} {F G : Nat → Nat → Prop} (_ : TreeAt B ord w m d iso xs F) (hr : rd w' m 2 = some (ptr root)) (x : Ext G w' w) (hm : ¬ G m 2) : rd w m 2 = some (ptr root) := x.rd hr hm
theorem ItS.skF {ib m : Nat} {mu : Bool} {full : List (Nat × Int)} {sb so cap k : Nat} {w : World} (h : ItS ib m mu full sb so cap w) (hk : k ≠ 5) : ¬ seF Es ib 5 sb so cap ib k := fun g => by
  rcases g with g | g
  · omega
  · exact h.st.ne g.1.symm
theorem sl0 (sb so n cap : Nat) : slcX (some 2) (.slice (some ⟨sb, so, none⟩) n cap) none (some (.int .i64 0)) none = some (.slice (some ⟨sb, so, none⟩) (0 : Nat) cap) := slcX_hi 2 sb so n cap 0 .i64 (Nat.zero_le _)
/-- What a move leaves: an answer, where it stands, the item there. -/
def MvQ (B : Nat) (ord : List Int) (m d : Nat) (iso : Int) (X : List It) (F HF : Nat → Nat → Prop) (mu : Bool) (ib sb0 : Nat) (w1 : World) (p : Option Nat) (v : Value) (w' : World) : Prop :=
  v = .bool p.isSome ∧ (∀ k, p = some k → k < X.length) ∧ TreeAt B ord w' m d iso X F ∧ (∃ full, Its HF w1 ib m mu sb0 full w' ∧ PosT m d iso X F ib w' full p) ∧ ∀ k x, p = some k → X[k]? = some x → Row w' ib 6 (E.cel x)
theorem MvQ.none {B : Nat} {ord : List Int} {m d : Nat} {iso : Int} {X : List It} {F HF : Nat → Nat → Prop} {mu : Bool} {ib sb0 : Nat} {w1 w' : World} (T : TreeAt B ord w' m d iso X F) (h : Its HF w1 ib m mu sb0 [] w') : MvQ B ord m d iso X F HF mu ib sb0 w1 none (.bool false) w' :=
  ⟨rfl, fun k hk => (by cases hk), T, ⟨[], h, rfl⟩, fun k x hk => (by cases hk)⟩
theorem MvQ.some {B : Nat} {ord : List Int} {m d : Nat} {iso : Int} {X : List It} {F HF : Nat → Nat → Prop} {mu : Bool} {ib sb0 k : Nat} {x : It} {w1 w' : World} {full : List (Nat × Int)} (hx : X[k]? = some x) (T : TreeAt B ord w' m d iso X F) (h : Its HF w1 ib m mu sb0 full w') (hp : PosT m d iso X F ib w' full (some k)) (hr : Row w' ib 6 (E.cel x)) : MvQ B ord m d iso X F HF mu ib sb0 w1 (some k) (.bool true) w' :=
  ⟨rfl, fun j hk => (by cases hk; exact (List.getElem?_eq_some_iff.1 hx).1), T, ⟨full, h, hp⟩, fun j y hk hy => (by cases hk; rw [hx] at hy; cases hy; exact hr)⟩
theorem itG_new {B m d ib sb0 sb : Nat} {ord : List Int} {iso : Int} {X : List It} {F HF HG : Nat → Nat → Prop} {w1 : World} (hM : TreeAt B ord w1 m d iso X F) (hG : ∀ y o, itF HF ib sb0 y o → Far B m y ∧ ¬ F y o) (hs : sb = sb0 ∨ w1.heap.size ≤ sb) (hF : ∀ y o, HG y o → HF y o) : ∀ y o, itF HG ib sb y o → Far B m y ∧ ¬ F y o := fun y o g => by
  rcases g with g | g | g
  · exact hG y o (.inl g)
  · rcases hs with h | h
    · exact hG y o (.inr (.inl (g.trans h)))
    · have := MapAt.mlt hM
      exact ⟨fun e => by subst e; omega, fun k => by have := hM.lt y o k; omega⟩
  · exact hG y o (.inr (.inr (hF y o g)))
theorem MvQ.call {B : Nat} {ord : List Int} {m d : Nat} {iso : Int} {X : List It} {F HF HG : Nat → Nat → Prop} {mu : Bool} {ib sb0 sb : Nat} {w1 w w' : World} {p : Option Nat} {v : Value} (hs : sb = sb0 ∨ w1.heap.size ≤ sb) (x : Ext (itF HF ib sb0) w1 w) (hG : ∀ y o, HG y o → HF y o) (h : MvQ B ord m d iso X F HG mu ib sb w p v w') : MvQ B ord m d iso X F HF mu ib sb0 w1 p v w' := by
  obtain ⟨h1, h2, h3, ⟨full, h4, h5⟩, h6⟩ := h
  exact ⟨h1, h2, h3, ⟨full, Its.call hs x hG h4, h5⟩, h6⟩
/-- An iterator's record and its stack, which may have no block as yet. -/
structure ItV (ib m : Nat) (mu : Bool) (B0 : Nat) (st : List (Nat × Int)) (sv : Value) (w : World) : Prop where
  tr : rd w ib 0 = some (ptr m)
  mtf : rd w ib 1 = some (.bool mu)
  fl : ∀ k, 2 ≤ k → k < 5 → ∃ a : Bool, rd w ib k = some (.bool a)
  hd : rd w ib 5 = some sv
  sl : (sv = .slice none 0 0 ∧ st = []) ∨ ∃ sb so cap, sv = .slice (some ⟨sb, so, none⟩) st.length cap ∧ SE Es w ib 5 st sb so cap ∧ B0 ≤ sb
  itm : ItI w ib
  wok : wok w ib 8
theorem ItV.ext0 {ib m B0 : Nat} {mu : Bool} {st : List (Nat × Int)} {sv : Value} {w w' : World} (h : ItV ib m mu B0 st sv w) (x : Ext noF w w') : ItV ib m mu B0 st sv w' :=
  ⟨x.rd h.tr (fun g => g), x.rd h.mtf (fun g => g), fun k k1 k2 => (h.fl k k1 k2).imp fun _ g => x.rd g (fun g => g), x.rd h.hd (fun g => g), h.sl.imp id fun ⟨sb, so, cap, h1, h2, h3⟩ => ⟨sb, so, cap, h1, h2.ext0 x, h3⟩, h.itm.ext x fun _ _ _ g => g, x.wok h.wok⟩
theorem ItV.flag {ib m B0 k : Nat} {mu a : Bool} {w w' : World} (h : ItV ib m mu B0 [] (.slice none 0 0) w) (x : Ext (rng ib k 1) w w') (r : rd w' ib k = some (.bool a)) (h3 : 2 ≤ k) (h6 : k < 5) : ItV ib m mu B0 [] (.slice none 0 0) w' :=
  ⟨x.rd h.tr (by simp only [rng]; omega), x.rd h.mtf (by simp only [rng]; omega), fun j h1 h2 => by
    by_cases hj : j = k
    · subst hj; exact ⟨a, r⟩
    · exact (h.fl j h1 h2).imp fun _ g => x.rd g (by simp only [rng]; omega), x.rd h.hd (by simp only [rng]; omega), .inl ⟨rfl, rfl⟩, h.itm.ext x (fun o h1 h2 => by simp only [rng]; omega), x.wok h.wok⟩
theorem ItV.again {ib m B0 : Nat} {mu : Bool} {w w' : World} (h : ItV ib m mu B0 [] (.slice none 0 0) w) (x : Ext (rng ib 5 1) w w') (r : rd w' ib 5 = some (.slice none 0 0)) : ItV ib m mu B0 [] (.slice none 0 0) w' :=
  ⟨x.rd h.tr (by simp only [rng]; omega), x.rd h.mtf (by simp only [rng]; omega), fun j h1 h2 => (h.fl j h1 h2).imp fun _ g => x.rd g (by simp only [rng]; omega), r, .inl ⟨rfl, rfl⟩, h.itm.ext x (fun o h1 h2 => by simp only [rng]; omega), x.wok h.wok⟩
theorem ItV.of {ib m B0 : Nat} {mu : Bool} {st : List (Nat × Int)} {sb so cap : Nat} {w : World} (h : ItS ib m mu st sb so cap w) (hB : B0 ≤ sb) : ItV ib m mu B0 st (.slice (some ⟨sb, so, none⟩) st.length cap) w :=
  ⟨h.tr, h.mtf, h.fl, h.st.hd, .inr ⟨sb, so, cap, rfl, h.st, hB⟩, h.itm, h.wok⟩
theorem ItV.slV {ib m B0 : Nat} {mu : Bool} {st : List (Nat × Int)} {sv : Value} {w : World} (h : ItV ib m mu B0 st sv w) : SlV w Es.sz sv st.length (flat Es st) := by
  rcases h.sl with ⟨rfl, rfl⟩ | ⟨sb, so, cap, rfl, h1, _⟩
  · exact ⟨rfl, .inl ⟨rfl, rfl⟩⟩
  · exact h1.slV
theorem ItV.app {ib m B0 : Nat} {mu : Bool} {st : List (Nat × Int)} {p : Nat × Int} {sv v' : Value} {w w1 : World} (h : ItV ib m mu B0 st sv w) (hB : B0 ≤ w.heap.size) (a : AppRes w Es.sz sv st.length 1 (flat Es st) (Es.cel p) v' w1) :
    ∃ sb so cap, v' = .slice (some ⟨sb, so, none⟩) (st.length + 1) cap ∧ Go.Proofs.Ytmbbhmkenmliiaa.wok w1 ib (5 + 1) ∧
      ∀ w2, Ext (rng ib 5 1) w1 w2 → rd w2 ib 5 = some v' → ItS ib m mu (st ++ [p]) sb so cap w2 ∧ B0 ≤ sb ∧ Ext (fun y o => (y = ib ∧ o = 5) ∨ B0 ≤ y ∧ y ≠ ib) w w2 := by
  have hil := wok_lt h.wok
  have mk : ∀ w2 (sb so cap : Nat), SE Es w2 ib 5 (st ++ [p]) sb so cap → Ext (fun y o => (y = ib ∧ o = 5) ∨ B0 ≤ y ∧ y ≠ ib) w w2 → ItS ib m mu (st ++ [p]) sb so cap w2 := fun w2 sb so cap g x =>
    ⟨x.rd h.tr (by omega), x.rd h.mtf (by omega), fun j h1 h2 => (h.fl j h1 h2).imp fun _ g => x.rd g (by omega), g, h.itm.ext x (fun o h1 h2 => by omega), x.wok h.wok⟩
  rcases h.sl with ⟨rfl, rfl⟩ | ⟨sb, so, cap, rfl, h1, h2⟩
  · obtain ⟨hs, hc⟩ := a
    rcases hc with ⟨rfl, _, _⟩ | ⟨_, _, _, h, _⟩ | ⟨cap, rfl, h2, h3, h4⟩
    · rcases hs.2 with ⟨_, h⟩ | ⟨_, _, _, h, _⟩
      · cases h
      · cases h
    · cases h
    · refine ⟨_, _, _, rfl, (h2.wok h.wok).mono (by decide), fun w2 x r => ?_⟩
      have X : Ext (fun y o => (y = ib ∧ o = 5) ∨ B0 ≤ y ∧ y ≠ ib) w w2 := (h2.mono fun _ _ _ g => g.elim).tr (x.mono fun y o _ g => .inl (by simp only [rng] at g; omega))
      refine ⟨mk _ _ _ _ ?_ X, hB, X⟩
      rcases hs.2 with ⟨h, _⟩ | ⟨b1, o1, c1, e1, hle, hr, hw⟩
      · cases h
      · simp only [Value.slice.injEq, Option.some.injEq, Addr.mk.injEq, true_and, and_true] at e1
        obtain ⟨⟨rfl, rfl⟩, rfl⟩ := e1
        exact ⟨r, x.row hr fun i _ g => by simp only [rng] at g; omega, by rw [Nat.zero_add]; exact x.wok h4, hle, (X.wok h.wok).mono (by decide), by omega⟩
  · have ha : AppRes w Es.sz (.slice (some ⟨sb, so, none⟩) st.length cap) st.length 1 (flat Es st) (flat Es [p]) v' w1 := by rw [flat_one]; exact a
    obtain ⟨bi, oi, cap', e1, e2, e3, e4⟩ := h1.app' (ls := [p]) rfl ha
    refine ⟨bi, oi, cap', e1, e2, fun w2 x r => ?_⟩
    obtain ⟨g1, g2, g3⟩ := e4 w2 x r
    have hne := h1.ne
    have X : Ext (fun y o => (y = ib ∧ o = 5) ∨ B0 ≤ y ∧ y ≠ ib) w w2 := g2.mono fun y o _ g => by
      rcases g with g | g
      · exact .inl g
      · simp only [rng] at g; omega
    exact ⟨mk _ _ _ _ g1 X, by omega, X⟩
theorem sln : slcX (some 2) (.slice none 0 0) none (some (.int .i64 0)) none = some (.slice none 0 0) := by rfl
end Go.Proofs.Ytmbbhmkenmliiaa
/-
  An iterator goes on. No condition.
-/
set_option linter.unusedSimpArgs false
set_option linter.unusedVariables false
namespace Go.Proofs.Ytmbbhmkenmliiaa
open Go Go.Proofs
set_option maxHeartbeats 4000000 in
set_option maxRecDepth 8000 in
theorem nextC_any (B m d : Nat) (ord : List Int) (hd : 2 ≤ d) (hd' : d ≤ 128) (iso : Int) (X : List It) (F HF : Nat → Nat → Prop) (mu : Bool) (ib sb0 so0 cap0 : Nat) (full0 : List (Nat × Int)) (w1 : World) (hM : TreeAt B ord w1 m d iso X F) (hG : ∀ y o, itF HF ib sb0 y o → Far B m y ∧ ¬ F y o) (hI : ItS ib m mu full0 sb0 so0 cap0 w1) (hbig : X.length ≤ 2147483648) (hsk : rd w1 ib 2 = some (.bool true)) (H root : Nat) (hr : rd w1 m 2 = some (ptr root)) (ht : Tr E iso (d - 1) (2 * d - 1) H w1 1 root X F) (q : Nat) (hpos : NxAt E iso (d - 1) (2 * d - 1) w1 H 1 root X F full0 q) :
    CallK Try.prog 24 #[ptr ib] w1 fun v w' => MvQ B ord m d iso X F HF mu ib sb0 w1 (if q < X.length then some q else none) v w' := by
  have hT : ∀ w, Ext (itF HF ib sb0) w1 w → TreeAt B ord w m d iso X F := fun w x => hM.extF x hG
  have Y := Ext.refl (itF HF ib sb0) w1
  have hs : sb0 = sb0 ∨ w1.heap.size ≤ sb0 := .inl rfl
  have hm2 : ¬ itF HF ib sb0 m 2 := fun g => hM.nf (hG _ _ g).1
  have htT : ∀ w, Ext (itF HF ib sb0) w1 w → Tr E iso (d - 1) (2 * d - 1) H w 1 root X F := fun w x => ht.ext x fun y o g k => (hG y o k).2 g
  have hht := ht.height (by omega) (by decide)
  have hdp := hpos.depth
  obtain ⟨st, b, h, lo, off, xs, Fb, j, rfl, hw, hcase⟩ := hpos
  rw [List.length_append, List.length_singleton] at hdp
  have h0 := hI.tr
  obtain ⟨l1, l2, l3, l4⟩ := hI.st.last
  have q1 := wsub1 (st.length + 1) (by omega) (by omega)
  rw [Nat.add_sub_cancel] at q1
  have q2 : st.length < st.length + 1 := Nat.lt_succ_self _
  have z5 : (((st.length + 1 : Nat) : Int) == 0) = false := by rw [beq_eq_false_iff_ne]; omega
  obtain ⟨bi, oi, cp, ks, ch, ho1, h1, h2, hsub, hin⟩ := (hw.tr ht).open
  have hoF : ∀ y o, ownF E b bi oi cp y o → ¬ itF HF ib sb0 y o := fun y o g k => (hG y o k).2 (hw.sub y o (hsub y o g))
  have hjb : j ≤ 256 := by
    rcases hcase with ⟨rfl, hj, _⟩ | ⟨h', bi', oi', cap', ks', bc, ba, oa, capc, cs, c, rfl, ho', n', hcs, _⟩
    · rcases hin with ⟨_, _, rfl, _⟩ | ⟨_, _, _, _, _, _, h0', _⟩
      · omega
      · cases h0'
    · have := n'.le hcs
      have e1 := ho'.h2
      have e2 := ho1.h2
      rw [e1] at e2
      simp only [Option.some.injEq, Value.slice.injEq, Addr.mk.injEq, and_true] at e2
      omega
  have q3 : IntKind.i64.wrap ((j : Int) - 1 + 1) = (j : Int) := by rw [IntWalk.i64_in _ (by omega)]; omega
  refine calls_of_W [.tmp 2] Try.func24 rfl Try.ntmps24 Try.results24 (by simp) fun e he => ?_
  have e0 : e 0 = ptr ib := he 0 _ rfl
  clear he
  refine W_sq fun K hK => (W_text [true] (by kernel_rfl) ?_); simp only [↓List.toList_toArray, ↓rgd, ↓rgf, ↓reduceIte, Nat.reduceEqDiff, rg, ow_24]
  refine hK _ _ ?_; clear hK K
  refine W_seq ?_
  refine W_sq fun K hK => (W_text [true, true, true, true, true] (by kernel_rfl) ?_); simp only [↓List.toList_toArray, ↓rgd, ↓rgf, ↓reduceIte, Nat.reduceEqDiff, rg, ow_24, e0, ptr_eq, h0]
  refine hK _ _ ?_; clear hK K
  refine W_false (by simp only [evt, evc, upd_eq, Nat.reduceEqDiff, ↓reduceIte, ntT, ntF] <;> rfl) (W_skip ?_)
  show W _ _ _ _ _ _
  refine W_seq ?_
  refine W_sq fun K hK => (W_text [true, true, true, true, true] (by kernel_rfl) ?_); simp only [↓List.toList_toArray, ↓rgd, ↓rgf, ↓reduceIte, Nat.reduceEqDiff, rg, ow_24, e0, ptr_eq, hsk]
  refine hK _ _ ?_; clear hK K
  refine W_false (by simp only [evt, evc, upd_eq, Nat.reduceEqDiff, ↓reduceIte, ntT, ntF] <;> rfl) (W_skip ?_)
  show W _ _ _ _ _ _
  refine W_seq ?_
  refine W_sq fun K hK => (W_text [true, true, true, true, true, true] (by kernel_rfl) ?_); simp only [↓List.toList_toArray, ↓rgd, ↓rgf, ↓reduceIte, Nat.reduceEqDiff, rg, ow_24, e0, ptr_eq, l1, z5]
  refine hK _ _ ?_; clear hK K
  refine W_false (by simp only [evt, evc, upd_eq, Nat.reduceEqDiff, ↓reduceIte, ntT, ntF] <;> rfl) (W_skip ?_)
  show W _ _ _ _ _ _
  refine W_sq fun K hK => (W_draw (some none) none [(0, 0, 0), (0, 1, 0), (0, 2, 0), (0, 3, 0), (0, 4, 0), (0, 5, 0), (0, 6, 0), (0, 7, 0), (0, 8, 0), (0, 9, 0), (0, 10, 0), (0, 11, 0)] mixed (by kernel_rfl) ?_); simp only [↓List.toList_toArray, ↓rgd, ↓rgf, ↓reduceIte, Nat.reduceEqDiff, rg, ow_24, e0, ptr_eq, l1, q1, q2]
  refine hK _ _ ?_; clear hK K
  refine W_sq fun K hK => (W_text [true, true, true, true, true, true, true, false] (by kernel_rfl) ?_); simp only [↓List.toList_toArray, ↓rgd, ↓rgf, ↓reduceIte, Nat.reduceEqDiff, rg, ow_24, e0, ptr_eq, l3, q3]
  refine do_store (v := .int .i64 (j : Int)) (by simp only [evt, evc, upd_eq, Nat.reduceEqDiff, ↓reduceIte, ntT, ntF] <;> rfl) (by simp only [evt, evc, upd_eq, Nat.reduceEqDiff, ↓reduceIte, ntT, ntF] <;> rfl) sz_3 rfl hI.st.wi (by rw [Es_sz]; omega) (oc_one rfl rfl) fun w2 x2 r2 s2 => ⟨trivial, ?_⟩
  simp only [↓List.toList_toArray, ↓rgd, ↓rgf, ↓reduceIte, Nat.reduceEqDiff, rg, ow_24]
  refine hK _ _ ?_; clear hK K
  have x2 : Ext (rng sb0 (so0 + st.length * 2 + 1) 1) w1 w2 := by first | exact x2 | exact x2.od | exact x2.od.od | exact x2.od.od.od
  obtain ⟨g1, g2⟩ := hI.st.seti x2 (Row.cons.1 r2).1
  have hI2 := hI.stack g2 g1
  have Y2 := itF_tr Y hs (g2.mono fun y o _ g => seF_itF (HF := HF) g)
  have skd := g2.rd hsk (hI.skF (by decide))
  clear g1 g2 x2 r2 l1 l2 l3
  obtain ⟨l1, l2, l3, -⟩ := hI2.st.last
  have ho2 := ho1.ext Y2 hoF
  refine W_sqx fun J hJ => ?_
  have hend : ∀ (e : Env) (w : World) (full : List (Nat × Int)) (sb so cap : Nat), ItS ib m mu full sb so cap w → (sb = sb0 ∨ w1.heap.size ≤ sb) → Ext (itF HF ib sb0) w1 w → rd w ib 2 = some (.bool true) → Cur E iso (d - 1) (2 * d - 1) w1 H 1 root X F full (q) → e 0 = ptr ib → J e w := by
    clear e0 e
    intro e w full sb so cap hI hs Y skd cur e0
    refine hJ _ _ ?_; clear hJ J
    have hdp := cur.depth
    obtain ⟨st, b, j, bi, oi, cp, ks, ch, x, cnt, rfl, ho1, hoF, hj, hx⟩ := cur.item ht
    rw [List.length_append, List.length_singleton] at hdp
    have hht := ht.height (by omega) (by decide)
    obtain ⟨l1, l2, l3, l4⟩ := hI.st.last
    have q1 := wsub1 (st.length + 1) (by omega) (by omega)
    rw [Nat.add_sub_cancel] at q1
    have q2 : st.length < st.length + 1 := Nat.lt_succ_self _
    have hlen : (st ++ [(b, (j : Int))]).length = st.length + 1 := by simp
    refine W_sq fun K hK => (W_draw (some none) none [(0, 0, 0), (0, 1, 0), (0, 2, 0), (0, 3, 0), (0, 4, 0), (0, 5, 0), (0, 6, 0), (0, 7, 0), (0, 8, 0), (0, 9, 0), (0, 10, 0), (0, 11, 0)] mixed (by kernel_rfl) ?_); simp only [↓List.toList_toArray, ↓rgd, ↓rgf, ↓reduceIte, Nat.reduceEqDiff, rg, ow_24, e0, ptr_eq, l1, q1, q2]
    refine hK _ _ ?_; clear hK K
    have ho := ho1.ext Y fun y o g k => (hG y o k).2 (hoF y o g)
    have hjl := (List.getElem?_eq_some_iff.1 hj).1
    have hk := it_at ho.row hj
    have hi := ho.h2
    refine W_sq fun K hK => (W_draw (some none) (some 16) [(0, 0, 0), (0, 1, 0), (0, 2, 0), (0, 3, 0), (0, 4, 0), (0, 5, 0), (0, 6, 0), (0, 7, 0), (0, 8, 0), (0, 9, 0), (0, 10, 0), (0, 11, 0), (0, 12, 0), (0, 13, 0), (0, 14, 0), (0, 15, 0), (1, 16, 0)] mixed (by kernel_rfl) ?_); simp only [↓List.toList_toArray, ↓rgd, ↓rgf, ↓reduceIte, Nat.reduceEqDiff, rg, ow_24, e0, ptr_eq, l2, l3, hi, hjl, hk]
    refine do_store (v := itV x) (by simp only [evt, evc, upd_eq, Nat.reduceEqDiff, ↓reduceIte, ntT, ntF] <;> rfl) (by simp only [evt, evc, upd_eq, Nat.reduceEqDiff, ↓reduceIte, ntT, ntF] <;> rfl) sz_47 (itV_len x) hI.wok (by decide) (itV_oc x) fun w2 x2 r2 s2 => ⟨by first | exact trivial | exact .inl trivial, ?_⟩
    simp only [↓List.toList_toArray, ↓rgd, ↓rgf, ↓reduceIte, Nat.reduceEqDiff, rg, ow_24]
    refine hK _ _ ?_; clear hK K
    have x2 := x2.od.od
    have hI2 := hI.item (x := x) x2 r2
    have Y2 := itF_tr Y hs (x2.mono (G := itF HF ib sb) fun y o _ g => .inl g.1)
    refine W_sq fun K hK => (W_text [true] (by kernel_rfl) ?_); simp only [↓List.toList_toArray, ↓rgd, ↓rgf, ↓reduceIte, Nat.reduceEqDiff, rg, ow_24]
    refine hK _ _ ?_; clear hK K
    rw [if_pos (List.getElem?_eq_some_iff.1 hx).1]
    refine W_ret (endQ_1 (by simp only [upd_eq, Nat.reduceEqDiff, ↓reduceIte] <;> rfl) (MvQ.some hx (hT _ Y2) ⟨sb, so, cap, hI2, hs, Y2⟩ ⟨x2.rd skd (by simp only [rng]; omega), H, root, Y2.rd hr hm2, ht.ext Y2 fun y o g k => (hG y o k).2 g, cur.ext Y2 fun y o g k => (hG y o k).2 g⟩ r2))
  clear hJ
  rcases hcase with ⟨rfl, hj, hq⟩ | ⟨h', bi', oi', cap', ks', bc, ba, oa, capc, cs, c, rfl, ho', n, hc, hq⟩
  · obtain ⟨rfl, rfl⟩ : ch = .pointer none ∧ xs = ks := by
      rcases hin with ⟨_, g1, g2, _⟩ | ⟨_, _, _, _, _, _, h0', _⟩
      · exact ⟨g1, g2⟩
      · cases h0'
    refine W_sq fun K hK => (W_text [true, true, true, true, false] (by kernel_rfl) ?_); simp only [↓List.toList_toArray, ↓rgd, ↓rgf, ↓reduceIte, Nat.reduceEqDiff, rg, ow_24, ptr_eq, l2]
    refine do_call fn_41 (vs := #[ptr b]) (by simp only [evt, evc, upd_eq, Nat.reduceEqDiff, ↓reduceIte, maT, maC, maN, isnN, isnS] <;> rfl) (leaf_any b none w2 ho2.h3) ?_
    rintro _ w6 ⟨rfl, hw6⟩
    obtain rfl : w2 = w6 := hw6.symm
    refine ⟨trivial, ?_⟩
    simp only [↓List.toList_toArray, ↓rgd, ↓rgf, ↓reduceIte, Nat.reduceEqDiff, rg, ow_24]
    refine hK _ _ ?_; clear hK K
    refine W_true (by simp only [evt, evc, upd_eq, Nat.reduceEqDiff, ↓reduceIte, ntT, ntF] <;> rfl) ?_
    have hoi := ho2.h2
    by_cases hjl : j = xs.length
    · have z12 : ((j : Int) == (xs.length : Int)) = true := by rw [beq_iff_eq]; omega
      refine W_sq fun K hK => (W_draw (some none) none [(0, 0, 0), (0, 1, 0), (0, 2, 0), (0, 3, 0), (0, 4, 0), (0, 5, 0), (0, 6, 0), (0, 7, 0), (0, 8, 0), (0, 9, 0), (0, 10, 0), (0, 11, 0), (0, 12, 0)] mixed (by kernel_rfl) ?_); simp only [↓List.toList_toArray, ↓rgd, ↓rgf, ↓reduceIte, Nat.reduceEqDiff, rg, ow_24, ptr_eq, l2, l3, hoi, z12]
      refine hK _ _ ?_; clear hK K
      refine W_true (by simp only [evt, evc, upd_eq, Nat.reduceEqDiff, ↓reduceIte, ntT, ntF] <;> rfl) ?_
      refine W_block (W_loop (fun mm e w => ∃ (st : List (Nat × Int)) (h lo b off : Nat) (i : Int) (xs : List It) (Fb : Nat → Nat → Prop) (sb so cap : Nat), mm = st.length ∧ Way E iso (d - 1) (2 * d - 1) w1 H 1 root X F st h lo b xs Fb off ∧ off + xs.length = q ∧ ItS ib m mu (st ++ [(b, i)]) sb so cap w ∧ (sb = sb0 ∨ w1.heap.size ≤ sb) ∧ Ext (itF HF ib sb0) w1 w ∧ rd w ib 2 = some (.bool true) ∧ e 0 = ptr ib)
        _ ⟨st, _, _, _, _, _, _, _, _, _, _, rfl, hw, by omega, (by first | exact hI2 | exact hI2.ext0 (Ext.dr _ _ _) | exact (hI2.ext0 (Ext.dr _ _ _)).ext0 (Ext.dr _ _ _)), hs, (by first | exact Y2 | exact Y2.tr (Ext.dr _ _ _) | exact (Y2.tr (Ext.dr _ _ _)).tr (Ext.dr _ _ _)), skd, by simp only [upd_eq, Nat.reduceEqDiff, ↓reduceIte]; exact e0⟩ ?_)
      clear hI2 Y2 skd e0 e
      rintro mm e w ⟨st, h, lo, b, off, i, xs, Fb, sb, so, cap, rfl, hw, hq, hI, hs, Y, skd, e0⟩
      have hwl := hw.len
      refine W_block ?_
      obtain ⟨l1, -, -, l4⟩ := hI.st.last
      have q1 := wsub1 (st.length + 1) (by omega) (by omega)
      rw [Nat.add_sub_cancel] at q1
      have z13 := slcX_hi 2 sb so (st.length + 1) cap st.length .i64 (by omega)
      refine W_sq fun K hK => (W_draw (some none) (some 14) [(0, 0, 0), (0, 1, 0), (0, 2, 0), (0, 3, 0), (0, 4, 0), (0, 5, 0), (0, 6, 0), (0, 7, 0), (0, 8, 0), (0, 9, 0), (0, 10, 0), (0, 11, 0), (0, 12, 0), (0, 13, 0), (1, 14, 0)] mixed (by kernel_rfl) ?_); simp only [↓List.toList_toArray, ↓rgd, ↓rgf, ↓reduceIte, Nat.reduceEqDiff, rg, ow_24, e0, ptr_eq, l1, q1, z13]
      refine do_store (v := .slice (some ⟨sb, so, none⟩) st.length cap) (by simp only [evt, evc, upd_eq, Nat.reduceEqDiff, ↓reduceIte, ntT, ntF] <;> rfl) (by simp only [evt, evc, upd_eq, Nat.reduceEqDiff, ↓reduceIte, ntT, ntF] <;> rfl) sz_45 rfl hI.st.hok (by decide) (oc_one rfl rfl) fun w3 x3 r3 s3 => ⟨by first | exact trivial | exact .inl trivial, ?_⟩
      simp only [↓List.toList_toArray, ↓rgd, ↓rgf, ↓reduceIte, Nat.reduceEqDiff, rg, ow_24]
      refine hK _ _ ?_; clear hK K
      have x3 : Ext (rng ib 5 1) w w3 := by first | exact x3 | exact x3.od | exact x3.od.od | exact x3.od.od.od
      obtain ⟨g1, g2⟩ := hI.st.pop (by simp) (Ext.refl _ _) x3 (by simpa using (Row.cons.1 r3).1)
      rw [List.dropLast_concat] at g1
      have hI3 := hI.stack g2 g1
      have Y3 := itF_tr Y hs (g2.mono fun y o _ g => seF_itF (HF := HF) g)
      have skd3 := g2.rd skd (hI.skF (by decide))
      have hd3 := g1.hd
      clear g1 g2 x3 r3 l1
      refine W_seq ?_
      rcases hw.next with ⟨rfl, hX⟩ | ⟨st', lo', b', off', bi, oi, cp, bc, ks, i', xs', Fb', rfl, hw', ho', hoF', hcur⟩
      · have z14 : (((([] : List (Nat × Int)).length : Nat) : Int) == 0) = true := rfl
        refine W_sq fun K hK => (W_text [true, true, true, true, true, true] (by kernel_rfl) ?_); simp only [↓List.toList_toArray, ↓rgd, ↓rgf, ↓reduceIte, Nat.reduceEqDiff, rg, ow_24, e0, ptr_eq, hd3, z14]
        refine hK _ _ ?_; clear hK K
        refine W_true (by simp only [evt, evc, upd_eq, Nat.reduceEqDiff, ↓reduceIte, ntT, ntF] <;> rfl) ?_
        refine W_sq fun K hK => (W_text [true, true, true, false] (by kernel_rfl) ?_); simp only [↓List.toList_toArray, ↓rgd, ↓rgf, ↓reduceIte, Nat.reduceEqDiff, rg, ow_24, e0, ptr_eq]
        refine do_store (v := .bool true) (by simp only [evt, evc, upd_eq, Nat.reduceEqDiff, ↓reduceIte, ntT, ntF] <;> rfl) (by simp only [evt, evc, upd_eq, Nat.reduceEqDiff, ↓reduceIte, ntT, ntF] <;> rfl) sz_4 rfl hI3.wok (by decide) (oc_one rfl rfl) fun w4 x4 r4 s4 => ⟨trivial, ?_⟩
        simp only [↓List.toList_toArray, ↓rgd, ↓rgf, ↓reduceIte, Nat.reduceEqDiff, rg, ow_24]
        refine hK _ _ ?_; clear hK K
        have hI4 := hI3.flag x4 (Row.cons.1 r4).1 (by decide) (by decide)
        have Y4 := itF_tr Y3 hs (x4.mono (G := itF HF ib sb) fun y o _ g => .inl g.1)
        refine W_sq fun K hK => (W_text [true] (by kernel_rfl) ?_); simp only [↓List.toList_toArray, ↓rgd, ↓rgf, ↓reduceIte, Nat.reduceEqDiff, rg, ow_24]
        refine hK _ _ ?_; clear hK K
        refine W_ret ?_
        simp only [andThen_ret, inBlk_ret]
        rw [if_neg (by omega)]
        exact endQ_1 (by simp only [upd_eq, Nat.reduceEqDiff, ↓reduceIte] <;> rfl) (MvQ.none (hT _ Y4) ⟨_, _, _, hI4, hs, Y4⟩)
      · have z14 : ((((st' ++ [(b', (i' : Int))]).length : Nat) : Int) == 0) = false := by rw [beq_eq_false_iff_ne, List.length_append, List.length_singleton]; omega
        refine W_sq fun K hK => (W_text [true, true, true, true, true, true] (by kernel_rfl) ?_); simp only [↓List.toList_toArray, ↓rgd, ↓rgf, ↓reduceIte, Nat.reduceEqDiff, rg, ow_24, e0, ptr_eq, hd3, z14]
        refine hK _ _ ?_; clear hK K
        refine W_false (by simp only [evt, evc, upd_eq, Nat.reduceEqDiff, ↓reduceIte, ntT, ntF] <;> rfl) (W_skip ?_)
        show W _ _ _ _ _ _
        obtain ⟨l1, l2, l3, l4⟩ := hI3.st.last
        have hwl' := hw'.len
        have q1 := wsub1 (st'.length + 1) (by omega) (by omega)
        rw [Nat.add_sub_cancel] at q1
        have q2 : st'.length < st'.length + 1 := Nat.lt_succ_self _
        refine W_sq fun K hK => (W_draw (some none) none [(0, 0, 0), (0, 1, 0), (0, 2, 0), (0, 3, 0), (0, 4, 0), (0, 5, 0), (0, 6, 0), (0, 7, 0), (0, 8, 0), (0, 9, 0), (0, 10, 0), (0, 11, 0)] mixed (by kernel_rfl) ?_); simp only [↓List.toList_toArray, ↓rgd, ↓rgf, ↓reduceIte, Nat.reduceEqDiff, rg, ow_24, e0, ptr_eq, l1, q1, q2]
        refine hK _ _ ?_; clear hK K
        have ho3 := (ho'.ext Y3 fun y o g k => (hG y o k).2 (hw'.sub y o (hoF' y o g))).h2
        rcases hcur with ⟨hi, cur⟩ | ⟨hi, hoff⟩
        · have z18 := lt_tt i' ks.length hi
          refine W_sq fun K hK => (W_draw (some none) none [(0, 0, 0), (0, 1, 0), (0, 2, 0), (0, 3, 0), (0, 4, 0), (0, 5, 0), (0, 6, 0), (0, 7, 0), (0, 8, 0), (0, 9, 0), (0, 10, 0), (0, 11, 0), (0, 12, 0)] mixed (by kernel_rfl) ?_); simp only [↓List.toList_toArray, ↓rgd, ↓rgf, ↓reduceIte, Nat.reduceEqDiff, rg, ow_24, ptr_eq, l2, l3, ho3, z18]
          refine hK _ _ ?_; clear hK K
          refine W_true (by simp only [evt, evc, upd_eq, Nat.reduceEqDiff, ↓reduceIte, ntT, ntF] <;> rfl) (W_exit ?_)
          simp only [andThen_exit, inBlk_exit, andThen_normal, Nat.reduceEqDiff, ↓reduceIte]
          exact hend _ _ _ _ _ _ (by first | exact hI3 | exact hI3.ext0 (Ext.dr _ _ _) | exact (hI3.ext0 (Ext.dr _ _ _)).ext0 (Ext.dr _ _ _)) hs (by first | exact Y3 | exact Y3.tr (Ext.dr _ _ _) | exact (Y3.tr (Ext.dr _ _ _)).tr (Ext.dr _ _ _)) skd3 (by rw [← hq]; exact cur) (by simp only [upd_eq, Nat.reduceEqDiff, ↓reduceIte]; exact e0)
        · have z18 := lt_ff i' ks.length (by omega)
          refine W_sq fun K hK => (W_draw (some none) none [(0, 0, 0), (0, 1, 0), (0, 2, 0), (0, 3, 0), (0, 4, 0), (0, 5, 0), (0, 6, 0), (0, 7, 0), (0, 8, 0), (0, 9, 0), (0, 10, 0), (0, 11, 0), (0, 12, 0)] mixed (by kernel_rfl) ?_); simp only [↓List.toList_toArray, ↓rgd, ↓rgf, ↓reduceIte, Nat.reduceEqDiff, rg, ow_24, ptr_eq, l2, l3, ho3, z18]
          refine hK _ _ ?_; clear hK K
          refine W_false (by simp only [evt, evc, upd_eq, Nat.reduceEqDiff, ↓reduceIte, ntT, ntF] <;> rfl) (W_skip ?_)
          exact ⟨st'.length, by simp, st', _, lo', b', off', _, xs', Fb', _, _, _, rfl, hw', by omega, (by first | exact hI3 | exact hI3.ext0 (Ext.dr _ _ _) | exact (hI3.ext0 (Ext.dr _ _ _)).ext0 (Ext.dr _ _ _)), hs, (by first | exact Y3 | exact Y3.tr (Ext.dr _ _ _) | exact (Y3.tr (Ext.dr _ _ _)).tr (Ext.dr _ _ _)), skd3, by simp only [upd_eq, Nat.reduceEqDiff, ↓reduceIte]; exact e0⟩
    · have z12 : ((j : Int) == (xs.length : Int)) = false := by rw [beq_eq_false_iff_ne]; omega
      refine W_sq fun K hK => (W_draw (some none) none [(0, 0, 0), (0, 1, 0), (0, 2, 0), (0, 3, 0), (0, 4, 0), (0, 5, 0), (0, 6, 0), (0, 7, 0), (0, 8, 0), (0, 9, 0), (0, 10, 0), (0, 11, 0), (0, 12, 0)] mixed (by kernel_rfl) ?_); simp only [↓List.toList_toArray, ↓rgd, ↓rgf, ↓reduceIte, Nat.reduceEqDiff, rg, ow_24, ptr_eq, l2, l3, hoi, z12]
      refine hK _ _ ?_; clear hK K
      refine W_false (by simp only [evt, evc, upd_eq, Nat.reduceEqDiff, ↓reduceIte, ntT, ntF] <;> rfl) (W_skip ?_)
      exact hend _ _ _ _ _ _ (by first | exact hI2 | exact hI2.ext0 (Ext.dr _ _ _) | exact (hI2.ext0 (Ext.dr _ _ _)).ext0 (Ext.dr _ _ _)) hs (by first | exact Y2 | exact Y2.tr (Ext.dr _ _ _) | exact (Y2.tr (Ext.dr _ _ _)).tr (Ext.dr _ _ _)) skd ⟨st, b, 0, lo, off, xs, Fb, j, rfl, hw, .inl ⟨rfl, by omega, hq⟩⟩ (by simp only [upd_eq, Nat.reduceEqDiff, ↓reduceIte]; exact e0)
  · have ho3 := ho'.ext Y2 fun y o g k => (hG y o k).2 (hw.sub y o ((n.fp y o).2 (.inl g)))
    refine W_sq fun K hK => (W_text [true, true, true, true, false] (by kernel_rfl) ?_); simp only [↓List.toList_toArray, ↓rgd, ↓rgf, ↓reduceIte, Nat.reduceEqDiff, rg, ow_24, ptr_eq, l2]
    refine do_call fn_41 (vs := #[ptr b]) (by simp only [evt, evc, upd_eq, Nat.reduceEqDiff, ↓reduceIte, maT, maC, maN, isnN, isnS] <;> rfl) (leaf_any b (some ⟨bc, 0, none⟩) w2 ho3.h3) ?_
    rintro _ w6 ⟨rfl, hw6⟩
    obtain rfl : w2 = w6 := hw6.symm
    refine ⟨trivial, ?_⟩
    simp only [↓List.toList_toArray, ↓rgd, ↓rgf, ↓reduceIte, Nat.reduceEqDiff, rg, ow_24]
    refine hK _ _ ?_; clear hK K
    refine W_false (by simp only [evt, evc, upd_eq, Nat.reduceEqDiff, ↓reduceIte, ntT, ntF] <;> rfl) ?_
    have hcm := List.mem_of_getElem? hc
    have hcl := (List.getElem?_eq_some_iff.1 hc).1
    have k5 := n.kids.ext Y2 fun y o g k => (hG y o k).2 (hw.sub y o ((n.fp y o).2 (.inr (.inl g))))
    have t5 := (n.sub c hcm).ext Y2 fun y o g k => (hG y o k).2 (hw.sub y o ((n.fp y o).2 (.inr (.inr ⟨c, hcm, g⟩))))
    have hc0 := k5.c0
    rw [List.length_map] at hc0
    have hcr : rd w2 ba (oa + j) = some (ptr c.b) := ptr_at k5.row (by rw [List.getElem?_map, hc]; rfl)
    have f1 := hI2.tr
    have f2 := hI2.mtf
    have f3 := ho3.h3
    refine W_sq fun K hK => (W_draw (some none) none [(0, 0, 0), (0, 1, 0), (0, 2, 0), (0, 3, 0), (0, 4, 0), (0, 5, 0), (0, 6, 0), (0, 7, 0), (0, 8, 0), (0, 9, 0), (0, 10, 0), (0, 11, 0), (0, 12, 0), (0, 13, 0), (0, 14, 0), (0, 15, 0), (0, 16, 0), (0, 17, 0), (0, 18, 0), (0, 19, 0), (0, 20, 0), (0, 21, 0), (1, 22, 0), (0, 23, 0)] mixed (by kernel_rfl) ?_); simp only [↓List.toList_toArray, ↓rgd, ↓rgf, ↓reduceIte, Nat.reduceEqDiff, rg, ow_24, e0, ptr_eq, f1, f2, l2, l3, f3, hc0, hcl]
    refine do_call fn_40 (vs := #[ptr m, .pointer (some ⟨ba, oa + j, none⟩), .bool mu]) (by simp only [evt, evc, upd_eq, Nat.reduceEqDiff, ↓reduceIte, maT, maC, maN, isnN, isnS] <;> rfl) (isoLoad_any m ba (oa + j) c.b mu iso _ (hT _ Y2).cfg.iso hcr t5.iso0.1) ?_
    rintro _ w6 ⟨rfl, r6⟩
    refine ⟨by first | exact trivial | exact .inr (keeps_ro r6), ?_⟩
    simp only [↓List.toList_toArray, ↓rgd, ↓rgf, ↓reduceIte, Nat.reduceEqDiff, rg, ow_24]
    refine hK _ _ ?_; clear hK K
    have r6 := (RO.dr _ _).tr r6
    have hI6 := hI2.ext0 r6.ext
    have Y6 := Y2.tr r6.ext
    have skd := r6.ext.rd skd (fun h : noF _ _ => h)
    clear hI2 Y2
    refine W_block (W_loop (fun mm e w => ∃ (st : List (Nat × Int)) (lo b : Nat) (xs : List It) (Fb : Nat → Nat → Prop) (sb so cap : Nat), Way E iso (d - 1) (2 * d - 1) w1 H 1 root X F st mm lo b xs Fb (q) ∧ ItS ib m mu st sb so cap w ∧ (sb = sb0 ∨ w1.heap.size ≤ sb) ∧ Ext (itF HF ib sb0) w1 w ∧ rd w ib 2 = some (.bool true) ∧ e 0 = ptr ib ∧ e 4 = ptr b)
      _ ⟨_, _, _, _, _, _, _, _, (by rw [hq]; exact hw.down ho' n hc), hI6, hs, Y6, skd, by simp only [upd_eq, Nat.reduceEqDiff, ↓reduceIte]; exact e0, by simp only [upd_eq, Nat.reduceEqDiff, ↓reduceIte]⟩ ?_)
    clear hI6 Y6 skd e0 e
    rintro mm e w ⟨st, lo, b, xs, Fb, sb, so, cap, hw, hI, hs, Y, skd, e0, e4⟩
    obtain ⟨bi, oi, cp, ks, ch, ho1, h1, h2, hsub, hin⟩ := (hw.tr ht).open
    have hlo := hw.lo (by decide) (by omega : 1 ≤ d - 1)
    have hoF : ∀ y o, ownF E b bi oi cp y o → ¬ itF HF ib sb0 y o := fun y o g k => (hG y o k).2 (hw.sub y o (hsub y o g))
    refine W_block ?_
    have l0 := hI.st.hd
    refine W_sq fun K hK => (W_text [true, true, true, true, true, true, true, false, false, true, true, false] (by kernel_rfl) ?_); simp only [↓List.toList_toArray, ↓rgd, ↓rgf, ↓reduceIte, Nat.reduceEqDiff, rg, ow_24, e0, e4, ptr_eq, l0, bu_st]
    refine do_bsl rfl (bs_st1 (b, 0)) fun w3 n3 => ⟨by first | exact trivial | exact .inr trivial, ?_⟩
    simp only [↓List.toList_toArray, ↓rgd, ↓rgf, ↓reduceIte, Nat.reduceEqDiff, rg, ow_24, l0]
    have st3 := hI.st.ext0 n3.ext
    have hstl := hw.len
    have hht := ht.height (by omega) (by decide)
    refine do_append (by simp only [evt, evc, upd_eq, Nat.reduceEqDiff, ↓reduceIte, ntT, ntF] <;> rfl) (by simp only [evt, evc, upd_eq, Nat.reduceEqDiff, ↓reduceIte, ntT, ntF] <;> rfl) el_st rfl ni_st st3.slV (u := .slice (some ⟨w.heap.size, 0, none⟩) 1 1) (m := 1) (l' := Es.cel (b, 0)) ⟨rfl, .inr ⟨_, 0, 1, rfl, Nat.le_refl _, n3.row, n3.wok.R (Nat.le_refl _)⟩⟩ (by omega) (by decide) (Es.one _) fun v4 w4 a4 => ⟨by first | exact trivial | exact .inr trivial, ?_⟩
    obtain ⟨sb5, so5, cap5, rfl, wk4, -, nx⟩ := st3.app' (ls := [(b, 0)]) rfl (by rw [flat_one]; exact a4)
    simp only [↓List.toList_toArray, ↓rgd, ↓rgf, ↓reduceIte, Nat.reduceEqDiff, rg, ow_24]
    refine do_store (by simp only [evt, evc, upd_eq, Nat.reduceEqDiff, ↓reduceIte, ntT, ntF] <;> rfl) (by simp only [evt, evc, upd_eq, Nat.reduceEqDiff, ↓reduceIte, ntT, ntF] <;> rfl) sz_45 rfl wk4 (by decide) (oc_one rfl rfl) fun w5 x5 r5 s5 => ⟨by first | exact trivial | exact .inl trivial, ?_⟩
    simp only [↓List.toList_toArray, ↓rgd, ↓rgf, ↓reduceIte, Nat.reduceEqDiff, rg, ow_24]
    refine hK _ _ ?_; clear hK K
    obtain ⟨g1, g2, g3⟩ := nx w5 x5 (Row.cons.1 r5).1
    have G5 := n3.ext.trans g2 (fun _ _ h => h.elim) fun _ _ _ h => h
    have hI5 := hI.stack G5 g1
    have Y5 := itF_tr Y hs (G5.mono fun y o _ g => seF_itF (HF := HF) g)
    have hs5 : sb5 = sb0 ∨ w1.heap.size ≤ sb5 := by
      rcases g3 with g3 | g3
      · rw [g3.1]; exact hs
      · have s3 := n3.size; have s1 := Y.size; exact .inr (by omega)
    have skd5 := G5.rd skd (hI.skF (by decide))
    clear nx x5 r5 s5 a4 wk4 st3 n3 g1 g2 g3 G5
    have ho5 := ho1.ext Y5 hoF
    refine W_seq ?_
    rcases hin with ⟨rfl, rfl, rfl, -⟩ | ⟨h', bc, ba, oa, capc, cs, rfl, rfl, n⟩
    · refine W_sq fun K hK => (W_text [true, false] (by kernel_rfl) ?_); simp only [↓List.toList_toArray, ↓rgd, ↓rgf, ↓reduceIte, Nat.reduceEqDiff, rg, ow_24, e4]
      refine do_call fn_41 (by simp only [evt, evc, upd_eq, Nat.reduceEqDiff, ↓reduceIte, maT, maC, maN, isnN, isnS] <;> rfl) (leaf_any b (none) w5 ho5.h3) ?_
      rintro _ w6 ⟨rfl, hw6⟩
      obtain rfl : w5 = w6 := hw6.symm
      refine ⟨trivial, ?_⟩
      simp only [↓List.toList_toArray, ↓rgd, ↓rgf, ↓reduceIte, Nat.reduceEqDiff, rg, ow_24]
      refine hK _ _ ?_; clear hK K
      refine W_true (by simp only [evt, evc, upd_eq, Nat.reduceEqDiff, ↓reduceIte, ntT, ntF] <;> rfl) (W_exit ?_)
      simp only [andThen_exit, inBlk_exit, andThen_normal, Nat.reduceEqDiff, ↓reduceIte]
      exact hend _ _ _ _ _ _ hI5 hs5 Y5 skd5 ⟨st, b, 0, lo, _, xs, Fb, 0, rfl, hw, .inl ⟨rfl, by omega, by omega⟩⟩ (by simp only [upd_eq, Nat.reduceEqDiff, ↓reduceIte]; exact e0)
    · refine W_sq fun K hK => (W_text [true, false] (by kernel_rfl) ?_); simp only [↓List.toList_toArray, ↓rgd, ↓rgf, ↓reduceIte, Nat.reduceEqDiff, rg, ow_24, e4]
      refine do_call fn_41 (by simp only [evt, evc, upd_eq, Nat.reduceEqDiff, ↓reduceIte, maT, maC, maN, isnN, isnS] <;> rfl) (leaf_any b (some ⟨bc, 0, none⟩) w5 ho5.h3) ?_
      rintro _ w6 ⟨rfl, hw6⟩
      obtain rfl : w5 = w6 := hw6.symm
      refine ⟨trivial, ?_⟩
      simp only [↓List.toList_toArray, ↓rgd, ↓rgf, ↓reduceIte, Nat.reduceEqDiff, rg, ow_24]
      refine hK _ _ ?_; clear hK K
      refine W_false (by simp only [evt, evc, upd_eq, Nat.reduceEqDiff, ↓reduceIte, ntT, ntF] <;> rfl) (W_skip ?_)
      show W _ _ _ _ _ _
      obtain ⟨c, hc⟩ := n.kid (i := 0) (Nat.zero_le _)
      have hcm := List.mem_of_getElem? hc
      have hcl := (List.getElem?_eq_some_iff.1 hc).1
      have k5 := n.kids.ext Y5 fun y o g k => (hG y o k).2 (hw.sub y o ((n.fp y o).2 (.inr (.inl g))))
      have t5 := (n.sub c hcm).ext Y5 fun y o g k => (hG y o k).2 (hw.sub y o ((n.fp y o).2 (.inr (.inr ⟨c, hcm, g⟩))))
      have hc0 := k5.c0
      rw [List.length_map] at hc0
      have hcr : rd w5 ba (oa + 0) = some (ptr c.b) := ptr_at k5.row (by rw [List.getElem?_map, hc]; rfl)
      rw [Nat.add_zero] at hcr
      have i0 := idx0 1 ba oa cs.length hcl
      have f1 := hI5.tr
      have f2 := hI5.mtf
      have f3 := ho5.h3
      refine W_rg fun K hK => (W_draw (some none) none [(0, 0, 0), (0, 1, 0), (0, 2, 0), (0, 3, 0), (0, 4, 0), (0, 5, 0), (0, 6, 0), (0, 7, 0), (0, 8, 0), (0, 9, 0), (0, 10, 0), (0, 11, 0), (0, 12, 0), (0, 13, 0), (0, 14, 0), (1, 15, 0), (0, 16, 0)] mixed (by kernel_rfl) ?_); simp only [↓List.toList_toArray, ↓rgd, ↓rgf, ↓reduceIte, Nat.reduceEqDiff, rg, ow_24, e0, e4, ptr_eq, f1, f2, f3, hc0, i0]
      refine do_call fn_40 (vs := #[ptr m, .pointer (some ⟨ba, oa, none⟩), .bool mu]) (by simp only [evt, evc, upd_eq, Nat.reduceEqDiff, ↓reduceIte, maT, maC, maN, isnN, isnS] <;> rfl) (isoLoad_any m ba oa c.b mu iso _ (hT _ Y5).cfg.iso hcr t5.iso0.1) ?_
      rintro _ w6 ⟨rfl, r6⟩
      refine ⟨by first | exact trivial | exact .inr (keeps_ro r6), ?_⟩
      simp only [↓List.toList_toArray, ↓rgd, ↓rgf, ↓reduceIte, Nat.reduceEqDiff, rg, ow_24]
      refine hK _ _ ?_; clear hK K
      have r6 := (RO.dr _ _).tr r6
      exact ⟨h', by omega, st ++ [(b, 0)], d - 1, c.b, c.xs, c.F, sb5, so5, cap5, hw.down ho1 n hc, hI5.ext0 r6.ext, hs5, Y5.tr r6.ext, r6.ext.rd skd5 (fun h : noF _ _ => h), by simp only [upd_eq, Nat.reduceEqDiff, ↓reduceIte]; exact e0, by simp only [upd_eq, Nat.reduceEqDiff, ↓reduceIte]⟩
end Go.Proofs.Ytmbbhmkenmliiaa
/-
  An iterator goes to a key. No condition.
-/
set_option linter.unusedSimpArgs false
set_option linter.unusedVariables false
namespace Go.Proofs.Ytmbbhmkenmliiaa
open Go Go.Proofs
set_option maxHeartbeats 4000000 in
set_option maxRecDepth 8000 in
theorem iseek_any (B m d : Nat) (ord : List Int) (q : Rk) (hd : 2 ≤ d) (hd' : d ≤ 128) (iso : Int) (X : List It) (F HF : Nat → Nat → Prop) (mu : Bool) (ib sb0 : Nat) (w1 : World) (hM : TreeAt B ord w1 m d iso X F) (hG : ∀ y o, itF HF ib sb0 y o → Far B m y ∧ ¬ F y o) (hI : ItV ib m mu w1.heap.size [] (.slice none 0 0) w1) (hbig : X.length ≤ 2147483648) :
    CallK Try.prog 26 #[ptr ib, kV q] w1 fun v w' => (X ≠ [] ∧ MvQ B ord m d iso X F HF mu ib sb0 w1 (if lb O κ q X < X.length then some (lb O κ q X) else none) v w') ∨ (X = [] ∧ v = .bool false ∧ ItI w' ib ∧ Ext (itF HF ib sb0) w1 w') := by
  have hT : ∀ w, Ext (itF HF ib sb0) w1 w → TreeAt B ord w m d iso X F := fun w x => hM.extF x hG
  have h0 := hI.tr
  refine calls_of_W [.tmp 4] Try.func26 rfl Try.ntmps26 Try.results26 (by simp) fun e he => ?_
  have e0 : e 0 = ptr ib := he 0 _ rfl
  have e1 : e 1 = kV q := he 1 _ rfl
  clear he
  refine W_sq fun K hK => (W_text [true] (by kernel_rfl) ?_); simp only [↓List.toList_toArray, ↓rgd, ↓rgf, ↓reduceIte, Nat.reduceEqDiff, rg, ow_26]
  refine hK _ _ ?_; clear hK K
  refine W_seq ?_
  refine W_sq fun K hK => (W_text [true, true, true, true, true] (by kernel_rfl) ?_); simp only [↓List.toList_toArray, ↓rgd, ↓rgf, ↓reduceIte, Nat.reduceEqDiff, rg, ow_26, e0, ptr_eq, h0]
  refine hK _ _ ?_; clear hK K
  refine W_false (by simp only [evt, evc, upd_eq, Nat.reduceEqDiff, ↓reduceIte, ntT, ntF] <;> rfl) (W_skip ?_)
  show W _ _ _ _ _ _
  refine W_sq fun K hK => (W_text [true, true, true, false] (by kernel_rfl) ?_); simp only [↓List.toList_toArray, ↓rgd, ↓rgf, ↓reduceIte, Nat.reduceEqDiff, rg, ow_26, e0, ptr_eq]
  refine do_store (v := .bool true) (by simp only [evt, evc, upd_eq, Nat.reduceEqDiff, ↓reduceIte, ntT, ntF] <;> rfl) (by simp only [evt, evc, upd_eq, Nat.reduceEqDiff, ↓reduceIte, ntT, ntF] <;> rfl) sz_4 rfl hI.wok (by decide) (oc_one rfl rfl) fun aw ax ar sa => ⟨trivial, ?_⟩
  simp only [↓List.toList_toArray, ↓rgd, ↓rgf, ↓reduceIte, Nat.reduceEqDiff, rg, ow_26]
  refine hK _ _ ?_; clear hK K
  have skd : rd aw ib 2 = some (.bool true) := (Row.cons.1 ar).1
  have aI := hI.flag ax skd (by decide) (by decide)
  have aY : Ext (itF HF ib sb0) w1 aw := ax.mono fun y o _ g => .inl g.1
  have ah := aI.hd
  refine W_sq fun K hK => (W_text [true, true, true, true, true, true, true, true, false] (by kernel_rfl) ?_); simp only [↓List.toList_toArray, ↓rgd, ↓rgf, ↓reduceIte, Nat.reduceEqDiff, rg, ow_26, e0, ptr_eq, ah, sln]
  refine do_store (v := .slice none 0 0) (by simp only [evt, evc, upd_eq, Nat.reduceEqDiff, ↓reduceIte, ntT, ntF] <;> rfl) (by simp only [evt, evc, upd_eq, Nat.reduceEqDiff, ↓reduceIte, ntT, ntF] <;> rfl) sz_45 rfl aI.wok (by decide) (oc_one rfl rfl) fun bw bx br sb1 => ⟨trivial, ?_⟩
  simp only [↓List.toList_toArray, ↓rgd, ↓rgf, ↓reduceIte, Nat.reduceEqDiff, rg, ow_26]
  refine hK _ _ ?_; clear hK K
  have bI := aI.again bx (Row.cons.1 br).1
  have Y : Ext (itF HF ib sb0) w1 bw := aY.tr (bx.mono fun y o _ g => .inl g.1)
  have skd := bx.rd skd (by simp only [rng]; omega)
  clear aI aY ah ax bx
  have T := hT bw Y
  have ft := bI.tr
  refine W_seq ?_
  rcases T.root with ⟨hX, hr⟩ | ⟨H, root, hr, ht2⟩
  · refine W_sq fun K hK => (W_text [true, true, true, true, true, true, true, true] (by kernel_rfl) ?_); simp only [↓List.toList_toArray, ↓rgd, ↓rgf, ↓reduceIte, Nat.reduceEqDiff, rg, ow_26, e0, ptr_eq, ft, hr]
    refine hK _ _ ?_; clear hK K
    refine W_true (by simp only [evt, evc, upd_eq, Nat.reduceEqDiff, ↓reduceIte, ntT, ntF] <;> rfl) ?_
    refine W_sq fun K hK => (W_text [true] (by kernel_rfl) ?_); simp only [↓List.toList_toArray, ↓rgd, ↓rgf, ↓reduceIte, Nat.reduceEqDiff, rg, ow_26]
    refine hK _ _ ?_; clear hK K
    refine W_ret ?_
    simp only [andThen_ret]
    exact endQ_1 (by simp only [upd_eq, Nat.reduceEqDiff, ↓reduceIte] <;> rfl) (.inr ⟨hX, rfl, bI.itm, Y⟩)
  · refine W_sq fun K hK => (W_text [true, true, true, true, true, true, true, true] (by kernel_rfl) ?_); simp only [↓List.toList_toArray, ↓rgd, ↓rgf, ↓reduceIte, Nat.reduceEqDiff, rg, ow_26, e0, ptr_eq, ft, hr]
    refine hK _ _ ?_; clear hK K
    refine W_false (by simp only [evt, evc, upd_eq, Nat.reduceEqDiff, ↓reduceIte, ntT, ntF] <;> rfl) (W_skip ?_)
    show W _ _ _ _ _ _
    obtain ⟨H, root, hr, ht⟩ : ∃ H root, rd w1 m 2 = some (ptr root) ∧ Tr E iso (d - 1) (2 * d - 1) H w1 1 root X F := by
      rcases hM.root with ⟨h, h'⟩ | h
      · rw [Y.rd h' (fun g => hM.nf (hG _ _ g).1)] at hr; cases hr
      · exact h
    have hm2 : ¬ itF HF ib sb0 m 2 := fun g => hM.nf (hG _ _ g).1
    have htT : ∀ w, Ext (itF HF ib sb0) w1 w → Tr E iso (d - 1) (2 * d - 1) H w 1 root X F := fun w x => ht.ext x fun y o g k => (hG y o k).2 g
    have hht := ht.height (by omega) (by decide)
    have hXn : X ≠ [] := fun e => by rw [e] at hht; cases hht
    clear ht2
    have bm := bI.mtf
    refine W_sq fun K hK => (W_draw (some none) none [(0, 0, 0), (0, 1, 0), (0, 2, 0), (0, 3, 0), (0, 4, 0), (0, 5, 0), (0, 6, 0), (0, 7, 0), (0, 8, 0), (0, 9, 0), (0, 10, 0), (0, 11, 0), (0, 12, 0), (0, 13, 0), (1, 14, 0), (0, 15, 0)] mixed (by kernel_rfl) ?_); simp only [↓List.toList_toArray, ↓rgd, ↓rgf, ↓reduceIte, Nat.reduceEqDiff, rg, ow_26, e0, ptr_eq, bm, ft]
    refine do_call fn_40 (vs := #[ptr m, .pointer (some ⟨m, 2, none⟩), .bool mu]) (by simp only [evt, evc, upd_eq, Nat.reduceEqDiff, ↓reduceIte, maT, maC, maN, isnN, isnS] <;> rfl) (isoLoad_any m m 2 root mu iso _ T.cfg.iso (Y.rd hr hm2) (htT bw Y).iso0.1) ?_
    rintro _ cw ⟨rfl, cr⟩
    refine ⟨by first | exact trivial | exact .inr (keeps_ro cr), ?_⟩
    simp only [↓List.toList_toArray, ↓rgd, ↓rgf, ↓reduceIte, Nat.reduceEqDiff, rg, ow_26]
    refine hK _ _ ?_; clear hK K
    have cr := (RO.dr _ _).tr cr
    have cI := bI.ext0 cr.ext
    have cY := Y.tr cr.ext
    have skd := cr.ext.rd skd (fun h : noF _ _ => h)
    refine W_block (W_loop (fun mm e w => ∃ (st : List (Nat × Int)) (lo b off : Nat) (xs : List It) (Fb : Nat → Nat → Prop) (sv : Value), Way E iso (d - 1) (2 * d - 1) w1 H 1 root X F st mm lo b xs Fb off ∧ lb O κ q X = off + lb O κ q xs ∧ ItV ib m mu w1.heap.size st sv w ∧ Ext (itF HF ib sb0) w1 w ∧ rd w ib 2 = some (.bool true) ∧ e 0 = ptr ib ∧ e 1 = kV q ∧ e 5 = ptr b)
      _ ⟨_, _, _, _, _, _, _, .root, by omega, cI, cY, skd, by simp only [upd_eq, Nat.reduceEqDiff, ↓reduceIte]; exact e0, by simp only [upd_eq, Nat.reduceEqDiff, ↓reduceIte]; exact e1, by simp only [upd_eq, Nat.reduceEqDiff, ↓reduceIte]⟩ ?_)
    clear cI cY bI Y bm T skd ft e0 e1 e cr
    rintro mm e w ⟨st, lo, b, off, xs, Fb, sv, hw, hlb, hI, Y, skd, e0, e1, e5⟩
    obtain ⟨bi, oi, cp, ks, ch, ho1, h1, h2, hsub, hin⟩ := (hw.tr ht).open
    have hlo := hw.lo (by decide) (by omega : 1 ≤ d - 1)
    have hoF : ∀ y o, ownF E b bi oi cp y o → ¬ itF HF ib sb0 y o := fun y o g k => (hG y o k).2 (hw.sub y o (hsub y o g))
    have hasc : Asc O κ xs := by
      obtain ⟨A, C, hX, -⟩ := hw.at
      have := hM.asc
      rw [hX] at this
      exact ((Asc.append O κ).1 ((Asc.append O κ).1 this).1).2.1
    have hak : Asc O κ ks := by
      rcases hin with ⟨_, _, hx, _⟩ | ⟨_, _, _, _, _, cs, _, _, n⟩
      · rw [← hx]; exact hasc
      · refine List.Pairwise.sublist ?_ hasc
        rw [n.eq]; exact weave_sub _ _ (by simpa using n.len)
    have hch : ∃ a : Option Addr, ch = .pointer a := by
      rcases hin with ⟨_, rfl, _⟩ | ⟨_, bc, _, _, _, _, _, rfl, _⟩
      · exact ⟨none, rfl⟩
      · exact ⟨some ⟨bc, 0, none⟩, rfl⟩
    obtain ⟨cha, rfl⟩ := hch
    have ho := ho1.ext Y hoF
    have f1 := hI.tr
    refine W_block ?_
    refine W_sq fun K hK => (W_text [true, true, true, true, true, true, false, true, true, true, true, true] (by kernel_rfl) ?_); simp only [↓List.toList_toArray, ↓rgd, ↓rgf, ↓reduceIte, Nat.reduceEqDiff, rg, ow_26, e0, e1, e5, ptr_eq, f1]
    refine do_call fn_42 (vs := #[ptr m, ptr b, kV q]) (by simp only [evt, evc, upd_eq, Nat.reduceEqDiff, ↓reduceIte, maT, maC, maN, isnN, isnS] <;> rfl) (search_any (ptr m) b bi oi cp ks q w ho.h2 ho.row (by omega) hak) ?_
    rintro _ w4 ⟨rfl, r4⟩
    refine ⟨trivial, ?_⟩
    simp only [↓List.toList_toArray, ↓rgd, ↓rgf, ↓reduceIte, Nat.reduceEqDiff, rg, ow_26, srch_eq]
    refine hK _ _ ?_; clear hK K
    have Y := Y.tr r4.ext
    have hI := hI.ext0 r4.ext
    have skd := r4.ext.rd skd (fun h : noF _ _ => h)
    clear ho f1
    have l0 := hI.hd
    have hB : w1.heap.size ≤ w4.heap.size := Y.size
    have hstl := hw.len
    refine W_sq fun K hK => (W_text [true, true, true, true, true, true, true, true, false, false, true, true, false] (by kernel_rfl) ?_); simp only [↓List.toList_toArray, ↓rgd, ↓rgf, ↓reduceIte, Nat.reduceEqDiff, rg, ow_26, e0, e5, ptr_eq, l0, bu_st]
    refine do_bsl rfl (bs_st1 (b, ((lb O κ q ks : Nat) : Int))) fun w3 n3 => ⟨by first | exact trivial | exact .inr trivial, ?_⟩
    simp only [↓List.toList_toArray, ↓rgd, ↓rgf, ↓reduceIte, Nat.reduceEqDiff, rg, ow_26, l0]
    have hI3 := hI.ext0 n3.ext
    have hs3 := n3.size
    refine do_append (by simp only [evt, evc, upd_eq, Nat.reduceEqDiff, ↓reduceIte, ntT, ntF] <;> rfl) (by simp only [evt, evc, upd_eq, Nat.reduceEqDiff, ↓reduceIte, ntT, ntF] <;> rfl) el_st rfl ni_st hI3.slV (u := .slice (some ⟨w4.heap.size, 0, none⟩) 1 1) (m := 1) (l' := Es.cel (b, ((lb O κ q ks : Nat) : Int))) ⟨rfl, .inr ⟨_, 0, 1, rfl, Nat.le_refl _, n3.row, n3.wok.R (Nat.le_refl _)⟩⟩ (by omega) (by decide) (Es.one _) fun v4 wa a4 => ⟨by first | exact trivial | exact .inr trivial, ?_⟩
    obtain ⟨sb5, so5, cap5, rfl, wk4, nx⟩ := hI3.app (by omega) a4
    simp only [↓List.toList_toArray, ↓rgd, ↓rgf, ↓reduceIte, Nat.reduceEqDiff, rg, ow_26]
    refine do_store (by simp only [evt, evc, upd_eq, Nat.reduceEqDiff, ↓reduceIte, ntT, ntF] <;> rfl) (by simp only [evt, evc, upd_eq, Nat.reduceEqDiff, ↓reduceIte, ntT, ntF] <;> rfl) sz_45 rfl wk4 (by decide) (oc_one rfl rfl) fun w5 x5 r5 s5 => ⟨by first | exact trivial | exact .inl trivial, ?_⟩
    simp only [↓List.toList_toArray, ↓rgd, ↓rgf, ↓reduceIte, Nat.reduceEqDiff, rg, ow_26]
    refine hK _ _ ?_; clear hK K
    obtain ⟨hI5, hs5', g3⟩ := nx w5 x5 (Row.cons.1 r5).1
    have hs5 : sb5 = sb0 ∨ w1.heap.size ≤ sb5 := .inr hs5'
    have Y5 : Ext (itF HF ib sb0) w1 w5 := (Y.tr (n3.ext.mono fun _ _ _ g => g.elim)).trans g3 (fun _ _ g => g) fun y o hy g => by
      rcases g with g | g
      · exact .inl g.1
      · omega
    have hil := wok_lt hI3.wok
    have skd5 := g3.rd (n3.ext.rd skd (fun h : noF _ _ => h)) (by omega)
    clear nx x5 r5 s5 a4 wk4 n3 g3
    have ho5 := ho1.ext Y5 hoF
    have hlk := lb_le O κ q ks
    refine W_seq ?_
    cases hh : hit O κ q ks with
    | true =>
      refine W_sq fun K hK => (W_text [true] (by kernel_rfl) ?_); simp only [↓List.toList_toArray, ↓rgd, ↓rgf, ↓reduceIte, Nat.reduceEqDiff, rg, ow_26]
      refine hK _ _ ?_; clear hK K
      refine W_true (by simp only [evt, evc, upd_eq, Nat.reduceEqDiff, ↓reduceIte, ntT, ntF] <;> rfl) ?_
      obtain ⟨kk, hk1, hk2⟩ := hit_at O κ hh
      have hi := (List.getElem?_eq_some_iff.1 hk1).1
      have hv := it_at ho5.row hk1
      have hi2 := ho5.h2
      refine W_sq fun K hK => (W_text [true, true, true, true, true, true, true, true, true, true, false] (by kernel_rfl) ?_); simp only [↓List.toList_toArray, ↓rgd, ↓rgf, ↓reduceIte, Nat.reduceEqDiff, rg, ow_26, e0, e5, ptr_eq, hi2, hi, hv]
      refine do_store (v := itV kk) (by simp only [evt, evc, upd_eq, Nat.reduceEqDiff, ↓reduceIte, ntT, ntF] <;> rfl) (by simp only [evt, evc, upd_eq, Nat.reduceEqDiff, ↓reduceIte, ntT, ntF] <;> rfl) sz_47 (itV_len kk) hI5.wok (by decide) (itV_oc kk) fun w6 x6 r6 s6 => ⟨trivial, ?_⟩
      simp only [↓List.toList_toArray, ↓rgd, ↓rgf, ↓reduceIte, Nat.reduceEqDiff, rg, ow_26]
      refine hK _ _ ?_; clear hK K
      have hI6 := hI5.item (x := kk) x6 r6
      have Y6 := itF_tr Y5 hs5 (x6.mono (G := itF HF ib sb5) fun y o _ g => .inl g.1)
      refine W_sq fun K hK => (W_text [true] (by kernel_rfl) ?_); simp only [↓List.toList_toArray, ↓rgd, ↓rgf, ↓reduceIte, Nat.reduceEqDiff, rg, ow_26]
      refine hK _ _ ?_; clear hK K
      have key : X[lb O κ q X]? = some kk ∧ Cur E iso (d - 1) (2 * d - 1) w1 H 1 root X F (st ++ [(b, ((lb O κ q ks : Nat) : Int))]) (lb O κ q X) := by
        rcases hin with ⟨rfl, _, rfl, _⟩ | ⟨h', bc, ba, oa, capc, cs, rfl, hc0, n⟩
        · exact ⟨by rw [hlb, hw.get hi]; exact hk1, st, b, 0, lo, off, xs, Fb, _, rfl, hw, .inl ⟨rfl, hi, hlb⟩⟩
        · obtain ⟨c, hc⟩ := n.kid (Nat.le_of_lt hi)
          obtain ⟨c', hc'⟩ := n.kid (i := lb O κ q ks + 1) hi
          have hx := n.xs hc'
          rw [fr_step (Kid.at hc) hk1] at hx
          obtain ⟨A, hA⟩ : ∃ A, A = fr (cs.map Kid.xs) ks (lb O κ q ks) ++ c.xs := ⟨_, rfl⟩
          have hxs : xs = A ++ kk :: (c'.xs ++ tl (cs.map Kid.xs) ks (lb O κ q ks + 1)) := by rw [hA]; rw [hx]; simp
          have hl : lb O κ q xs = A.length := by
            rw [hk2, hxs]
            exact (found_mid O κ (hxs ▸ hasc)).1
          have hlt : A.length < xs.length := by rw [hxs]; simp
          have hg : xs[A.length]? = some kk := by
            conv => lhs; rw [hxs]
            rw [List.getElem?_append_right (Nat.le_refl _), Nat.sub_self]; rfl
          refine ⟨by rw [hlb, hl, hw.get hlt]; exact hg, st, b, _, lo, off, xs, Fb, _, rfl, hw, .inr ⟨h', bi, oi, cp, ks, bc, ba, oa, capc, cs, c, rfl, hc0 ▸ ho1, n, hc, hi, ?_⟩⟩
          rw [hlb, hl, hA, List.length_append]; omega
      obtain ⟨hx, cur⟩ := key
      refine W_ret ?_
      simp only [andThen_ret, inBlk_ret]
      rw [if_pos (List.getElem?_eq_some_iff.1 hx).1]
      exact endQ_1 (by simp only [upd_eq, Nat.reduceEqDiff, ↓reduceIte] <;> rfl) (.inl ⟨hXn, MvQ.some hx (hT _ Y6) ⟨_, _, _, hI6, hs5, Y6⟩ ⟨x6.rd skd5 (by simp only [rng]; omega), H, root, Y6.rd hr hm2, ht.ext Y6 fun y o g k => (hG y o k).2 g, cur.ext Y6 fun y o g k => (hG y o k).2 g⟩ r6⟩)
    | false =>
      refine W_sq fun K hK => (W_text [true] (by kernel_rfl) ?_); simp only [↓List.toList_toArray, ↓rgd, ↓rgf, ↓reduceIte, Nat.reduceEqDiff, rg, ow_26]
      refine hK _ _ ?_; clear hK K
      refine W_false (by simp only [evt, evc, upd_eq, Nat.reduceEqDiff, ↓reduceIte, ntT, ntF] <;> rfl) (W_skip ?_)
      show W _ _ _ _ _ _
      refine W_seq ?_
      rcases hin with ⟨rfl, hc0, rfl, -⟩ | ⟨h', bc, ba, oa, capc, cs, rfl, hc0, n⟩
      · obtain rfl : cha = none := by simp only [Value.pointer.injEq] at hc0; exact hc0
        refine W_sq fun K hK => (W_text [true, false] (by kernel_rfl) ?_); simp only [↓List.toList_toArray, ↓rgd, ↓rgf, ↓reduceIte, Nat.reduceEqDiff, rg, ow_26, e5]
        refine do_call fn_41 (by simp only [evt, evc, upd_eq, Nat.reduceEqDiff, ↓reduceIte, maT, maC, maN, isnN, isnS] <;> rfl) (leaf_any b (none) w5 ho5.h3) ?_
        rintro _ w6 ⟨rfl, hw6⟩
        obtain rfl : w5 = w6 := hw6.symm
        refine ⟨trivial, ?_⟩
        simp only [↓List.toList_toArray, ↓rgd, ↓rgf, ↓reduceIte, Nat.reduceEqDiff, rg, ow_26]
        refine hK _ _ ?_; clear hK K
        refine W_true (by simp only [evt, evc, upd_eq, Nat.reduceEqDiff, ↓reduceIte, ntT, ntF] <;> rfl) ?_
        obtain ⟨l1, l2, l3, l4⟩ := hI5.st.last
        have q1 := wsub1 (st.length + 1) (by omega) (by omega)
        rw [Nat.add_sub_cancel] at q1
        have q2 : st.length < st.length + 1 := Nat.lt_succ_self _
        have q3 : IntKind.i64.wrap (((lb O κ q xs : Nat) : Int) - 1) = ((lb O κ q xs : Nat) : Int) - 1 := by rw [IntWalk.i64_in _ (by omega)]
        refine W_sq fun K hK => (W_draw (some none) (some 16) [(0, 0, 0), (0, 1, 0), (0, 2, 0), (0, 3, 0), (0, 4, 0), (0, 5, 0), (0, 6, 0), (0, 7, 0), (0, 8, 0), (0, 9, 0), (0, 10, 0), (0, 11, 0), (0, 12, 0), (0, 13, 0), (0, 14, 0), (0, 15, 0), (1, 16, 0)] mixed (by kernel_rfl) ?_); simp only [↓List.toList_toArray, ↓rgd, ↓rgf, ↓reduceIte, Nat.reduceEqDiff, rg, ow_26, e0, ptr_eq, l1, q1, q2, l3, q3]
        refine do_store (v := .int .i64 (((lb O κ q xs : Nat) : Int) - 1)) (by simp only [evt, evc, upd_eq, Nat.reduceEqDiff, ↓reduceIte, ntT, ntF] <;> rfl) (by simp only [evt, evc, upd_eq, Nat.reduceEqDiff, ↓reduceIte, ntT, ntF] <;> rfl) sz_3 rfl hI5.st.wi (by rw [Es_sz]; omega) (oc_one rfl rfl) fun w6 x6 r6 s6 => ⟨by first | exact trivial | exact .inl trivial, ?_⟩
        simp only [↓List.toList_toArray, ↓rgd, ↓rgf, ↓reduceIte, Nat.reduceEqDiff, rg, ow_26]
        refine hK _ _ ?_; clear hK K
        have x6 : Ext (rng sb5 (so5 + st.length * 2 + 1) 1) w5 w6 := by first | exact x6 | exact x6.od | exact x6.od.od | exact x6.od.od.od
        obtain ⟨g1, g2⟩ := hI5.st.seti x6 (Row.cons.1 r6).1
        have hI6 := hI5.stack g2 g1
        have Y6 := itF_tr Y5 hs5 (g2.mono fun y o _ g => seF_itF (HF := HF) g)
        have skd6 := g2.rd skd5 (hI5.skF (by decide))
        refine W_sq fun K hK => (W_text [true, false, true] (by kernel_rfl) ?_); simp only [↓List.toList_toArray, ↓rgd, ↓rgf, ↓reduceIte, Nat.reduceEqDiff, rg, ow_26, e0]
        refine do_call fn_24 (vs := #[ptr ib]) (by simp only [evt, evc, upd_eq, Nat.reduceEqDiff, ↓reduceIte, maT, maC, maN, isnN, isnS] <;> rfl) (nextC_any B m d ord hd hd' iso X F noF mu ib sb5 so5 cap5 (st ++ [(b, ((lb O κ q xs : Nat) : Int) - 1)]) w6 (hT _ Y6) (itG_new hM hG hs5 fun _ _ g => g.elim) hI6 hbig skd6 H root (Y6.rd hr hm2) (htT _ Y6) (lb O κ q X) ⟨st, b, 0, lo, off, xs, Fb, lb O κ q xs, rfl, hw.ext Y6 (fun y o g k => (hG y o k).2 g), .inl ⟨rfl, hlk, hlb⟩⟩) ?_
        rintro v w7 h7
        refine ⟨trivial, ?_⟩
        obtain ⟨rfl, -⟩ := id h7
        simp only [↓List.toList_toArray, ↓rgd, ↓rgf, ↓reduceIte, Nat.reduceEqDiff, rg, ow_26]
        refine hK _ _ ?_; clear hK K
        refine W_ret ?_
        simp only [andThen_ret, inBlk_ret]
        exact endQ_1 (by simp only [upd_eq, Nat.reduceEqDiff, ↓reduceIte] <;> rfl) (.inl ⟨hXn, MvQ.call hs5 Y6 (fun _ _ g => g.elim) h7⟩)
      · obtain rfl : cha = some ⟨bc, 0, none⟩ := by simp only [ptr, Value.pointer.injEq] at hc0; exact hc0
        refine W_sq fun K hK => (W_text [true, false] (by kernel_rfl) ?_); simp only [↓List.toList_toArray, ↓rgd, ↓rgf, ↓reduceIte, Nat.reduceEqDiff, rg, ow_26, e5]
        refine do_call fn_41 (by simp only [evt, evc, upd_eq, Nat.reduceEqDiff, ↓reduceIte, maT, maC, maN, isnN, isnS] <;> rfl) (leaf_any b (some ⟨bc, 0, none⟩) w5 ho5.h3) ?_
        rintro _ w6 ⟨rfl, hw6⟩
        obtain rfl : w5 = w6 := hw6.symm
        refine ⟨trivial, ?_⟩
        simp only [↓List.toList_toArray, ↓rgd, ↓rgf, ↓reduceIte, Nat.reduceEqDiff, rg, ow_26]
        refine hK _ _ ?_; clear hK K
        refine W_false (by simp only [evt, evc, upd_eq, Nat.reduceEqDiff, ↓reduceIte, ntT, ntF] <;> rfl) (W_skip ?_)
        show W _ _ _ _ _ _
        obtain ⟨c, hc⟩ := n.kid hlk
        have hcm := List.mem_of_getElem? hc
        have hcl := (List.getElem?_eq_some_iff.1 hc).1
        have k5 := n.kids.ext Y5 fun y o g k => (hG y o k).2 (hw.sub y o ((n.fp y o).2 (.inr (.inl g))))
        have t5 := (n.sub c hcm).ext Y5 fun y o g k => (hG y o k).2 (hw.sub y o ((n.fp y o).2 (.inr (.inr ⟨c, hcm, g⟩))))
        have hcc := k5.c0
        rw [List.length_map] at hcc
        have hcr : rd w5 ba (oa + lb O κ q ks) = some (ptr c.b) := ptr_at k5.row (by rw [List.getElem?_map, hc]; rfl)
        have hlb2 : lb O κ q xs = (fr (cs.map Kid.xs) ks (lb O κ q ks)).length + lb O κ q c.xs := by
          have hl : (cs.map Kid.xs).length = ks.length + 1 := by simpa using n.len
          have ha := hasc
          rw [n.eq] at ha
          obtain ⟨A, hA⟩ := weave_tl _ (cs.map Kid.xs) ks hl hlk
          obtain ⟨g1, g2⟩ := hA.mid O κ (Kid.at hc) ha rfl hh
          have hAf := hA.is_fr hl hlk (Kid.at hc)
          subst hAf
          rw [n.xs hc]
          exact lb_mid O κ g1 fun x hx => O.asym (g2 x hx)
        have f1 := hI5.tr
        have f2 := hI5.mtf
        have f3 := ho5.h3
        rw [show (Value.pointer (some ⟨bc, 0, none⟩)) = ptr bc from rfl] at f3
        refine W_rg fun K hK => (W_draw (some none) none [(0, 0, 0), (0, 1, 0), (0, 2, 0), (0, 3, 0), (0, 4, 0), (0, 5, 0), (0, 6, 0), (0, 7, 0), (0, 8, 0), (0, 9, 0), (0, 10, 0), (0, 11, 0), (0, 12, 0), (0, 13, 0), (0, 14, 0), (0, 15, 0), (1, 16, 0), (0, 17, 0)] mixed (by kernel_rfl) ?_); simp only [↓List.toList_toArray, ↓rgd, ↓rgf, ↓reduceIte, Nat.reduceEqDiff, rg, ow_26, e0, e5, ptr_eq, f1, f2, f3, hcc, hcl]
        refine do_call fn_40 (vs := #[ptr m, .pointer (some ⟨ba, oa + lb O κ q ks, none⟩), .bool mu]) (by simp only [evt, evc, upd_eq, Nat.reduceEqDiff, ↓reduceIte, maT, maC, maN, isnN, isnS] <;> rfl) (isoLoad_any m ba (oa + lb O κ q ks) c.b mu iso _ (hT _ Y5).cfg.iso hcr t5.iso0.1) ?_
        rintro _ w6 ⟨rfl, r6⟩
        refine ⟨by first | exact trivial | exact .inr (keeps_ro r6), ?_⟩
        simp only [↓List.toList_toArray, ↓rgd, ↓rgf, ↓reduceIte, Nat.reduceEqDiff, rg, ow_26]
        refine hK _ _ ?_; clear hK K
        have r6 := (RO.dr _ _).tr r6
        exact ⟨h', by omega, st ++ [(b, ((lb O κ q ks : Nat) : Int))], d - 1, c.b, _, c.xs, c.F, _, hw.down ho1 n hc, by omega, (ItV.of hI5 hs5').ext0 r6.ext, Y5.tr r6.ext, r6.ext.rd skd5 (fun h : noF _ _ => h), by simp only [upd_eq, Nat.reduceEqDiff, ↓reduceIte]; exact e0, by simp only [upd_eq, Nat.reduceEqDiff, ↓reduceIte]; exact e1, by simp only [upd_eq, Nat.reduceEqDiff, ↓reduceIte]⟩
end Go.Proofs.Ytmbbhmkenmliiaa
/-
  Lists of numbers, items and replies that are compared. No condition.
-/
set_option linter.unusedSimpArgs false
set_option linter.unusedVariables false
namespace Go.Proofs.Ytmbbhmkenmliiaa
open Go Go.Proofs
/-- Whole numbers as cells. -/
def En : Enc Int where
  cel x := [.int .i64 x]
  sz := 1
  len _ := rfl
  one x v hv := by simp at hv; subst hv; rfl
  pos := by decide
/-- Replies as cells. -/
def Ef : Enc (It × Bool) where
  cel x := [.int .i64 x.1.1, .int .i64 x.1.2, .bool x.2]
  sz := 3
  len _ := rfl
  one x v hv := by simp at hv; rcases hv with rfl | rfl | rfl <;> rfl
  pos := by decide
def foV (x : It × Bool) : Value := .agg #[.int .i64 x.1.1, .int .i64 x.1.2, .bool x.2]
theorem nV_at {w : World} {b o : Nat} {l : List Int} (h : Row w b o (flat En l)) {i : Nat} {x : Int} (hi : l[i]? = some x) : rd w b (o + i) = some (.int .i64 x) := by
  have := row_cell (row_at En h hi) (j := 0) rfl
  rwa [show En.sz = 1 from rfl, Nat.mul_one] at this
theorem foV_at {w : World} {b o : Nat} {l : List (It × Bool)} (h : Row w b o (flat Ef l)) {i : Nat} {x : It × Bool} (hi : l[i]? = some x) : rdA w b (o + i * 3) 3 = some (foV x) := (row_at Ef h hi).rdA 3 (by simp [Ef])
theorem ne_n (x : Int) : binV Try.prog .neq 3 (.int .i64 x) (.int .i64 x) = some (.bool false) := by simp [binV]
theorem ne_i0 (a b : Int) : binV Try.prog .neq 27 (.agg #[.int .i64 a, .int .i64 b]) (.agg #[.int .i64 a, .int .i64 b]) = some (.bool (!(a == a && (b == b && true)))) := by kernel_rfl
theorem ne_f0 (a b : Int) (c : Bool) : binV Try.prog .neq 34 (.agg #[.int .i64 a, .int .i64 b, .bool c]) (.agg #[.int .i64 a, .int .i64 b, .bool c]) = some (.bool (!((a == a && (b == b && true)) && (c == c && true)))) := by kernel_rfl
theorem ne_i (x : It) : binV Try.prog .neq 27 (iV x) (iV x) = some (.bool false) := by rw [iV, ne_i0]; simp
theorem ne_f (x : It × Bool) : binV Try.prog .neq 34 (foV x) (foV x) = some (.bool false) := by rw [foV, ne_f0]; simp
theorem el_n : elK Try.prog 36 = some (3, 1, 8, [.int .i64 0]) := by kernel_rfl
theorem ni_n : noInt Try.prog 36 = true := by kernel_rfl
theorem bs_n1 (x : Int) : bsV Try.prog 36 1 [(0, .int .i64 x)] = some (3, En.cel x) := by kernel_rfl
theorem el_fo : elK Try.prog 31 = some (34, 3, 24, [.int .i64 0, .int .i64 0, .bool false]) := by kernel_rfl
theorem ni_fo : noInt Try.prog 31 = true := by kernel_rfl
theorem bs_fo1 (x : It × Bool) : bsV Try.prog 31 1 [(0, foV x)] = some (34, Ef.cel x) := by kernel_rfl
/-- A list that is made of replies, in new memory. -/
structure Outs (B : Nat) (v : Value) (l : List (It × Bool)) (w : World) : Prop where
  sl : SlV w 3 v l.length (flat Ef l)
  si : since B v
theorem Outs.ext {B : Nat} {v : Value} {l : List (It × Bool)} {w w' : World} (h : Outs B v l w) (x : Ext noF w w') : Outs B v l w' := ⟨h.sl.ext0 x, h.si⟩
theorem Outs.nil (B : Nat) (w : World) : Outs B (.slice none 0 0) [] w := ⟨⟨rfl, .inl ⟨rfl, rfl⟩⟩, fun b o n c h => by cases h⟩
theorem Outs.app {B : Nat} {v v' : Value} {l : List (It × Bool)} {x : It × Bool} {w w' : World} (h : Outs B v l w) (a : AppRes w 3 v l.length 1 (flat Ef l) (Ef.cel x) v' w') (hB : B ≤ w.heap.size) : Outs B v' (l ++ [x]) w' ∧ Ext (fun y _ => B ≤ y) w w' := by
  obtain ⟨h1, h2, h3⟩ := app_since a h.si hB
  refine ⟨⟨?_, h2⟩, h3⟩
  rw [List.length_append, List.length_singleton, flat_append, flat_one]
  exact h1
end Go.Proofs.Ytmbbhmkenmliiaa
/-
  Replies; the reference's cut of a list, and the item at an index. No condition.
-/
set_option linter.unusedSimpArgs false
set_option linter.unusedVariables false
namespace Go.Proofs.Ytmbbhmkenmliiaa
open Go Go.Proofs
def foO (x : Option It) : It × Bool := (x.getD (0, 0), x.isSome)
def foP (x : It) (ok : Bool) : It × Bool := if ok = true then (x, true) else ((0, 0), false)
theorem oc_fo (x : It × Bool) : oc (foV x).cells.toList := Ef.one x
theorem fo_len (x : It × Bool) : (foV x).cells.toList.length = 3 := rfl
theorem bu_fo1 (x : It) : buildV Try.prog 34 [(0, iV x), (1, .bool true)] = some (foV (x, true)) := by kernel_rfl
theorem bu_fo0 : buildV Try.prog 34 [] = some (foV ((0, 0), false)) := by kernel_rfl
theorem z_fo : zK Try.prog 34 = some [.int .i64 0, .int .i64 0, .bool false] := by kernel_rfl
theorem ld_fo {w : World} {b : Nat} {x : It × Bool} (h : Row w b 0 (Ef.cel x)) : loadV w ⟨b, 0, none⟩ (some 3) = some (foV x) := h.rdA 3 (by simp [Ef])
set_option maxHeartbeats 400000 in
set_option maxRecDepth 8000 in
theorem found_any (x : It) (ok : Bool) (w : World) : CallK Try.prog 43 #[iV x, .bool ok] w fun v w' => v = foV (foP x ok) ∧ Ext noF w w' := by
  refine calls_of_W [.cell 4 34] Try.func43 rfl Try.ntmps43 Try.results43 (by simp) fun e he => ?_
  have e0 : e 0 = iV x := he 0 _ rfl
  have e1 : e 1 = .bool ok := he 1 _ rfl
  clear he
  refine W_sq fun K hK => (W_text [false, false] (by kernel_rfl) ?_); simp only [↓List.toList_toArray, ↓rgd, ↓rgf, ↓reduceIte, Nat.reduceEqDiff, rg, ow_43]
  refine do_box (by simp only [evt]; exact e0) fun w1 n1 => ⟨trivial, ?_⟩
  simp only [↓List.toList_toArray, ↓rgd, ↓rgf, ↓reduceIte, Nat.reduceEqDiff, rg, ow_43]
  refine do_alloc z_fo fun w2 n2 => ⟨trivial, ?_⟩
  simp only [↓List.toList_toArray, ↓rgd, ↓rgf, ↓reduceIte, Nat.reduceEqDiff, rg, ow_43]
  refine hK _ _ ?_; clear hK K
  have s1 := n1.size
  have s2 := n2.size
  have bx : rdA w2 w.heap.size 0 2 = some (iV x) := (n2.ext.row n1.row fun _ _ h => h).rdA 2 (by show 2 ≤ 2; omega)
  refine W_seq ?_
  refine W_sq fun K hK => (W_text [true, true] (by kernel_rfl) ?_); simp only [↓List.toList_toArray, ↓rgd, ↓rgf, ↓reduceIte, Nat.reduceEqDiff, rg, ow_43, e1]
  refine hK _ _ ?_; clear hK K
  cases ok with
  | false =>
    refine W_true (by simp only [evt, evc, upd_eq, Nat.reduceEqDiff, ↓reduceIte, ntT, ntF] <;> rfl) ?_
    refine W_sq fun K hK => (W_text [true, false] (by kernel_rfl) ?_); simp only [↓List.toList_toArray, ↓rgd, ↓rgf, ↓reduceIte, Nat.reduceEqDiff, rg, ow_43, bu_fo0]
    refine do_store (v := foV ((0, 0), false)) (by simp only [evt, evc, upd_eq, Nat.reduceEqDiff, ↓reduceIte, ntT, ntF] <;> rfl) (by simp only [evt, evc, upd_eq, Nat.reduceEqDiff, ↓reduceIte, ntT, ntF] <;> rfl) sz_34 rfl n2.wok (by decide) (oc_fo _) fun w3 x3 r3 s3 => ⟨trivial, ?_⟩
    simp only [↓List.toList_toArray, ↓rgd, ↓rgf, ↓reduceIte, Nat.reduceEqDiff, rg, ow_43]
    refine hK _ _ ?_; clear hK K
    refine W_ret ?_
    simp only [andThen_ret]
    exact endQ_c (by simp only [upd_eq, Nat.reduceEqDiff, ↓reduceIte]) ld_34 (ld_fo r3) ⟨rfl, noF_of (n1.ext.tr n2.ext) x3 fun y o hy h => by simp only [rng] at h; omega⟩
  | true =>
    refine W_false (by simp only [evt, evc, upd_eq, Nat.reduceEqDiff, ↓reduceIte, ntT, ntF] <;> rfl) (W_skip ?_)
    show W _ _ _ _ _ _
    refine W_sq fun K hK => (W_text [true, true, false] (by kernel_rfl) ?_); simp only [↓List.toList_toArray, ↓rgd, ↓rgf, ↓reduceIte, Nat.reduceEqDiff, rg, ow_43, bx, bu_fo1]
    refine do_store (v := foV (x, true)) (by simp only [evt, evc, upd_eq, Nat.reduceEqDiff, ↓reduceIte, ntT, ntF] <;> rfl) (by simp only [evt, evc, upd_eq, Nat.reduceEqDiff, ↓reduceIte, ntT, ntF] <;> rfl) sz_34 rfl n2.wok (by decide) (oc_fo _) fun w3 x3 r3 s3 => ⟨trivial, ?_⟩
    simp only [↓List.toList_toArray, ↓rgd, ↓rgf, ↓reduceIte, Nat.reduceEqDiff, rg, ow_43]
    refine hK _ _ ?_; clear hK K
    refine W_ret ?_
    exact endQ_c (by simp only [upd_eq, Nat.reduceEqDiff, ↓reduceIte]) ld_34 (ld_fo r3) ⟨rfl, noF_of (n1.ext.tr n2.ext) x3 fun y o hy h => by simp only [rng] at h; omega⟩
set_option maxHeartbeats 400000 in
set_option maxRecDepth 8000 in
theorem pair_any (a b : Int) (ok : Bool) (w : World) : CallK Try.prog 28 #[.int .i64 a, .int .i64 b, .bool ok] w fun v w' => v = foV (foP (a, b) ok) ∧ Ext noF w w' := by
  refine calls_of_W [.cell 6 34] Try.func28 rfl Try.ntmps28 Try.results28 (by simp) fun e he => ?_
  have e0 : e 0 = .int .i64 a := he 0 _ rfl
  have e1 : e 1 = .int .i64 b := he 1 _ rfl
  have e2 : e 2 = .bool ok := he 2 _ rfl
  clear he
  refine W_sq fun K hK => (W_text [false] (by kernel_rfl) ?_); simp only [↓List.toList_toArray, ↓rgd, ↓rgf, ↓reduceIte, Nat.reduceEqDiff, rg, ow_28]
  refine do_alloc z_fo fun w1 n1 => ⟨trivial, ?_⟩
  simp only [↓List.toList_toArray, ↓rgd, ↓rgf, ↓reduceIte, Nat.reduceEqDiff, rg, ow_28]
  refine hK _ _ ?_; clear hK K
  have s1 := n1.size
  refine W_sq fun K hK => (W_text [true, true, true, true, false, false] (by kernel_rfl) ?_); simp only [↓List.toList_toArray, ↓rgd, ↓rgf, ↓reduceIte, Nat.reduceEqDiff, rg, ow_28, e0, e1, e2, bu_item]
  refine do_call fn_43 (by simp only [evt, evc, upd_eq, Nat.reduceEqDiff, ↓reduceIte, maT, maC, maN, isnN, isnS] <;> rfl) (found_any (a, b) ok w1) ?_
  rintro _ w2 ⟨rfl, X2⟩
  refine ⟨trivial, ?_⟩
  simp only [↓List.toList_toArray, ↓rgd, ↓rgf, ↓reduceIte, Nat.reduceEqDiff, rg, ow_28]
  refine do_store (v := foV (foP (a, b) ok)) (by simp only [evt, evc, upd_eq, Nat.reduceEqDiff, ↓reduceIte, ntT, ntF] <;> rfl) (by simp only [evt, evc, upd_eq, Nat.reduceEqDiff, ↓reduceIte, ntT, ntF] <;> rfl) sz_34 rfl (X2.wok n1.wok) (by decide) (oc_fo _) fun w3 x3 r3 s3 => ⟨trivial, ?_⟩
  simp only [↓List.toList_toArray, ↓rgd, ↓rgf, ↓reduceIte, Nat.reduceEqDiff, rg, ow_28]
  refine hK _ _ ?_; clear hK K
  refine W_ret ?_
  exact endQ_c (by simp only [upd_eq, Nat.reduceEqDiff, ↓reduceIte]) ld_34 (ld_fo r3) ⟨rfl, noF_of (n1.ext.tr X2) x3 fun y o hy h => by simp only [rng] at h; omega⟩
theorem foP_got (x : Option It) : foP (κ (x.getD zIt), (x.getD zIt).2) x.isSome = foO x := by cases x <;> rfl
end Go.Proofs.Ytmbbhmkenmliiaa
/-
  An iterator over a map is made; its moves. No condition.
-/
set_option linter.unusedSimpArgs false
set_option linter.unusedVariables false
namespace Go.Proofs.Ytmbbhmkenmliiaa
open Go Go.Proofs
/-- A new iterator's record. -/
def itR (m : Nat) (mu : Bool) : Value := .agg #[ptr m, .bool mu, .bool false, .bool false, .bool false, .slice none 0 0, .int .i64 0, .int .i64 0]
def itL (m : Nat) (mu : Bool) : List Value := [ptr m, .bool mu, .bool false, .bool false, .bool false, .slice none 0 0, .int .i64 0, .int .i64 0]
def itZ : List Value := [.pointer none, .bool false, .bool false, .bool false, .bool false, .slice none 0 0, .int .i64 0, .int .i64 0]
theorem z_ir : zK Try.prog 49 = some itZ := by kernel_rfl
theorem Row.setc {w w' : World} {b o i : Nat} {l : List Value} {v : Value} (r : Row w b o l) (x : Ext (rng b (o + i) 1) w w') (hv : Go.Proofs.Ytmbbhmkenmliiaa.rd w' b (o + i) = some v) : Row w' b o (l.set i v) := by
  intro j u hj
  rw [List.getElem?_set] at hj
  by_cases h : i = j
  · subst h
    rw [if_pos rfl] at hj
    split at hj
    · cases hj; exact hv
    · cases hj
  · rw [if_neg h] at hj
    exact x.rd (r j u hj) (by simp only [rng]; omega)
theorem ir_at {w : World} {b m : Nat} {mu : Bool} (h : Row w b 0 (itL m mu)) : rdA w b 0 8 = some (itR m mu) := h.rdA 8 (Nat.le_refl _)
theorem oc_ir (m : Nat) (mu : Bool) : oc (itR m mu).cells.toList := by
  intro v hv
  simp only [itR, Value.cells] at hv
  simp at hv
  rcases hv with hv | hv | hv | hv | hv <;> (subst hv; rfl)
theorem ItV.new {w : World} {ib m B0 : Nat} {mu : Bool} (h : Row w ib 0 (itL m mu)) (hw : Go.Proofs.Ytmbbhmkenmliiaa.wok w ib 8) : ItV ib m mu B0 [] (.slice none 0 0) w := by
  have h0 : ∀ i v, (itL m mu)[i]? = some v → rd w ib i = some v := fun i v hi => by
    have := h i v hi
    rwa [Nat.zero_add] at this
  refine ⟨h0 0 _ rfl, h0 1 _ rfl, fun k h1 h2 => ⟨false, h0 k _ ?_⟩, h0 5 _ rfl, .inl ⟨rfl, rfl⟩, ⟨(0, 0), h.drop 6⟩, hw⟩
  have : k = 2 ∨ k = 3 ∨ k = 4 := by omega
  rcases this with rfl | rfl | rfl <;> rfl
theorem ItV.anew {ib m B0 B1 : Nat} {mu : Bool} {w : World} (h : ItV ib m mu B0 [] (.slice none 0 0) w) : ItV ib m mu B1 [] (.slice none 0 0) w := ⟨h.tr, h.mtf, h.fl, h.hd, .inl ⟨rfl, rfl⟩, h.itm, h.wok⟩
set_option maxHeartbeats 800000 in
set_option maxRecDepth 8000 in
theorem iter_any (m : Nat) (mu : Bool) (w : World) :
    CallK Try.prog 22 #[ptr m, .bool mu] w fun v w' => v = itR m mu ∧ Ext noF w w' := by
  refine calls_of_W [.cell 4 49] Try.func22 rfl Try.ntmps22 Try.results22 (by simp) fun e he => ?_
  have e0 : e 0 = ptr m := he 0 _ rfl
  have e1 : e 1 = .bool mu := he 1 _ rfl
  clear he
  refine W_sq fun K hK => (W_text [false] (by kernel_rfl) ?_); simp only [↓List.toList_toArray, ↓rgd, ↓rgf, ↓reduceIte, Nat.reduceEqDiff, rg, ow_22]
  refine do_alloc z_ir fun w1 n1 => ⟨trivial, ?_⟩
  simp only [↓List.toList_toArray, ↓rgd, ↓rgf, ↓reduceIte, Nat.reduceEqDiff, rg, ow_22]
  refine hK _ _ ?_; clear hK K
  refine W_sq fun K hK => (W_text [false] (by kernel_rfl) ?_); simp only [↓List.toList_toArray, ↓rgd, ↓rgf, ↓reduceIte, Nat.reduceEqDiff, rg, ow_22]
  refine do_alloc z_ir fun w2 n2 => ⟨trivial, ?_⟩
  simp only [↓List.toList_toArray, ↓rgd, ↓rgf, ↓reduceIte, Nat.reduceEqDiff, rg, ow_22]
  refine hK _ _ ?_; clear hK K
  have z1 := n1.size
  have z2 := n2.size
  have R2 : Row w2 w1.heap.size 0 itZ := n2.row
  have w2k : wok w2 w1.heap.size 8 := n2.wok
  refine W_sq fun K hK => (W_text [true, true, false] (by kernel_rfl) ?_); simp only [↓List.toList_toArray, ↓rgd, ↓rgf, ↓reduceIte, Nat.reduceEqDiff, rg, ow_22, e0]
  refine do_store (v := ptr m) (by simp only [evt, evc, upd_eq, Nat.reduceEqDiff, ↓reduceIte, ntT, ntF] <;> rfl) (by simp only [evt, evc, upd_eq, Nat.reduceEqDiff, ↓reduceIte, ntT, ntF] <;> rfl) sz_39 rfl w2k (by decide) (oc_one rfl rfl) fun w3 x3 r3 s3 => ⟨trivial, ?_⟩
  simp only [↓List.toList_toArray, ↓rgd, ↓rgf, ↓reduceIte, Nat.reduceEqDiff, rg, ow_22]
  refine hK _ _ ?_; clear hK K
  have R3 := R2.setc (i := 0) (by rw [Nat.zero_add]; exact x3) (by rw [Nat.zero_add]; exact (Row.cons.1 r3).1)
  have w3k := x3.wok w2k
  refine W_sq fun K hK => (W_text [true, true, false] (by kernel_rfl) ?_); simp only [↓List.toList_toArray, ↓rgd, ↓rgf, ↓reduceIte, Nat.reduceEqDiff, rg, ow_22, e1]
  refine do_store (v := .bool mu) (by simp only [evt, evc, upd_eq, Nat.reduceEqDiff, ↓reduceIte, ntT, ntF] <;> rfl) (by simp only [evt, evc, upd_eq, Nat.reduceEqDiff, ↓reduceIte, ntT, ntF] <;> rfl) sz_4 rfl w3k (by decide) (oc_one rfl rfl) fun w4 x4 r4 s4 => ⟨trivial, ?_⟩
  simp only [↓List.toList_toArray, ↓rgd, ↓rgf, ↓reduceIte, Nat.reduceEqDiff, rg, ow_22]
  refine hK _ _ ?_; clear hK K
  have R4 := R3.setc (i := 1) (by rw [Nat.zero_add]; exact x4) (by rw [Nat.zero_add]; exact (Row.cons.1 r4).1)
  have c4 := ir_at (show Row w4 w1.heap.size 0 (itL m mu) from R4)
  have w1k : wok w4 w.heap.size 8 := x4.wok (x3.wok (n2.ext.wok n1.wok))
  refine W_sq fun K hK => (W_text [true, false] (by kernel_rfl) ?_); simp only [↓List.toList_toArray, ↓rgd, ↓rgf, ↓reduceIte, Nat.reduceEqDiff, rg, ow_22, c4]
  refine do_store (v := itR m mu) (by simp only [evt, evc, upd_eq, Nat.reduceEqDiff, ↓reduceIte, ntT, ntF] <;> rfl) (by simp only [evt, evc, upd_eq, Nat.reduceEqDiff, ↓reduceIte, ntT, ntF] <;> rfl) sz_49 rfl w1k (by decide) (oc_ir _ _) fun w8 x8 r8 s8 => ⟨trivial, ?_⟩
  simp only [↓List.toList_toArray, ↓rgd, ↓rgf, ↓reduceIte, Nat.reduceEqDiff, rg, ow_22]
  refine hK _ _ ?_; clear hK K
  have X4 : Ext noF w w4 := noF_of (n1.ext.tr n2.ext) (x3.mono (G := fun y _ => y = w1.heap.size) (fun _ _ _ g => g.1) |>.tr (x4.mono fun _ _ _ g => g.1)) fun y o hy g => by omega
  have X8 : Ext noF w w8 := noF_of X4 x8 fun y o hy g => by simp only [rng] at g; omega
  refine W_ret ?_
  exact endQ_c (by simp only [upd_eq, Nat.reduceEqDiff, ↓reduceIte] <;> rfl) ld_49 (ir_at (show Row w8 w.heap.size 0 (itL m mu) from r8)) ⟨rfl, X8⟩
set_option maxHeartbeats 800000 in
set_option maxRecDepth 8000 in
theorem iter0_any (m : Nat) (w : World) :
    CallK Try.prog 14 #[ptr m] w fun v w' => v = itR m false ∧ Ext noF w w' := by
  refine calls_of_W [.cell 2 49] Try.func14 rfl Try.ntmps14 Try.results14 (by simp) fun e he => ?_
  have e0 : e 0 = ptr m := he 0 _ rfl
  clear he
  refine W_sq fun K hK => (W_text [false] (by kernel_rfl) ?_); simp only [↓List.toList_toArray, ↓rgd, ↓rgf, ↓reduceIte, Nat.reduceEqDiff, rg, ow_14]
  refine do_alloc z_ir fun w1 n1 => ⟨trivial, ?_⟩
  simp only [↓List.toList_toArray, ↓rgd, ↓rgf, ↓reduceIte, Nat.reduceEqDiff, rg, ow_14]
  refine hK _ _ ?_; clear hK K
  have z1 := n1.size
  refine W_sq fun K hK => (W_text [true, false, false] (by kernel_rfl) ?_); simp only [↓List.toList_toArray, ↓rgd, ↓rgf, ↓reduceIte, Nat.reduceEqDiff, rg, ow_14, e0]
  refine do_call fn_22 (vs := #[ptr m, .bool false]) (by simp only [evt, evc, upd_eq, Nat.reduceEqDiff, ↓reduceIte, maT, maC, maN, isnN, isnS] <;> rfl) (iter_any m false w1) ?_
  rintro _ w2 ⟨rfl, X2⟩
  refine ⟨trivial, ?_⟩
  simp only [↓List.toList_toArray, ↓rgd, ↓rgf, ↓reduceIte, Nat.reduceEqDiff, rg, ow_14]
  refine do_store (v := itR m false) (by simp only [evt, evc, upd_eq, Nat.reduceEqDiff, ↓reduceIte, ntT, ntF] <;> rfl) (by simp only [evt, evc, upd_eq, Nat.reduceEqDiff, ↓reduceIte, ntT, ntF] <;> rfl) sz_49 rfl (X2.wok n1.wok) (by decide) (oc_ir _ _) fun w3 x3 r3 s3 => ⟨trivial, ?_⟩
  simp only [↓List.toList_toArray, ↓rgd, ↓rgf, ↓reduceIte, Nat.reduceEqDiff, rg, ow_14]
  refine hK _ _ ?_; clear hK K
  have X3 : Ext noF w w3 := noF_of (n1.ext.tr X2) x3 fun y o hy g => by simp only [rng] at g; omega
  refine W_ret ?_
  exact endQ_c (by simp only [upd_eq, Nat.reduceEqDiff, ↓reduceIte] <;> rfl) ld_49 (ir_at (show Row w3 w.heap.size 0 (itL m false) from r3)) ⟨rfl, X3⟩
set_option maxHeartbeats 800000 in
set_option maxRecDepth 8000 in
theorem key_any (ib : Nat) (x : It) (w : World) (h : Row w ib 6 (E.cel x)) : CallK Try.prog 29 #[ptr ib] w fun v w' => v = .int .i64 x.1 ∧ w = w' := by
  have h1 : rd w ib 7 = some (.int .i64 x.1) := (Row.cons.1 (Row.cons.1 h).2).1
  refine calls_of_W [.tmp 2] Try.func29 rfl Try.ntmps29 Try.results29 (by simp) fun e he => ?_
  have e0 : e 0 = ptr ib := he 0 _ rfl
  clear he
  refine W_sq fun K hK => (W_text [true] (by kernel_rfl) ?_); simp only [↓List.toList_toArray, ↓rgd, ↓rgf, ↓reduceIte, Nat.reduceEqDiff, rg, ow_29]
  refine hK _ _ ?_; clear hK K
  refine W_sq fun K hK => (W_text [true, true, true, true, true, true] (by kernel_rfl) ?_); simp only [↓List.toList_toArray, ↓rgd, ↓rgf, ↓reduceIte, Nat.reduceEqDiff, rg, ow_29, e0, ptr_eq, h1]
  refine hK _ _ ?_; clear hK K
  exact W_ret (endQ_1 (by simp only [upd_eq, Nat.reduceEqDiff, ↓reduceIte] <;> rfl) ⟨rfl, rfl⟩)
set_option maxHeartbeats 800000 in
set_option maxRecDepth 8000 in
theorem value_any (ib : Nat) (x : It) (w : World) (h : Row w ib 6 (E.cel x)) : CallK Try.prog 30 #[ptr ib] w fun v w' => v = .int .i64 x.2 ∧ w = w' := by
  have h1 : rd w ib 6 = some (.int .i64 x.2) := (Row.cons.1 h).1
  refine calls_of_W [.tmp 2] Try.func30 rfl Try.ntmps30 Try.results30 (by simp) fun e he => ?_
  have e0 : e 0 = ptr ib := he 0 _ rfl
  clear he
  refine W_sq fun K hK => (W_text [true] (by kernel_rfl) ?_); simp only [↓List.toList_toArray, ↓rgd, ↓rgf, ↓reduceIte, Nat.reduceEqDiff, rg, ow_30]
  refine hK _ _ ?_; clear hK K
  refine W_sq fun K hK => (W_text [true, true, true, true, true, true] (by kernel_rfl) ?_); simp only [↓List.toList_toArray, ↓rgd, ↓rgf, ↓reduceIte, Nat.reduceEqDiff, rg, ow_30, e0, ptr_eq, h1]
  refine hK _ _ ?_; clear hK K
  exact W_ret (endQ_1 (by simp only [upd_eq, Nat.reduceEqDiff, ↓reduceIte] <;> rfl) ⟨rfl, rfl⟩)
/-- Moves as cells. -/
def Em : Enc (Int × It) where
  cel x := [.int .i64 x.1, .int .i64 x.2.1, .int .i64 x.2.2]
  sz := 3
  len _ := rfl
  one x v hv := by simp at hv; rcases hv with rfl | rfl | rfl <;> rfl
  pos := by decide
def mvV (x : Int × It) : Value := .agg #[.int .i64 x.1, .int .i64 x.2.1, .int .i64 x.2.2]
theorem mv_at {w : World} {b o : Nat} {l : List (Int × It)} (h : Row w b o (flat Em l)) {i : Nat} {x : Int × It} (hi : l[i]? = some x) : rdA w b (o + i * 3) 3 = some (mvV x) :=
  (row_at Em h hi).rdA 3 (by simp [Em])
theorem z_mv : zK Try.prog 29 = some [.int .i64 0, .int .i64 0, .int .i64 0] := by kernel_rfl
/-- To a key, then on. -/
def msOf (q : Int) (n : Nat) : List (Int × It) := (4, (q, 0)) :: List.replicate n (2, (0, 0))
theorem msOf_len (q : Int) (n : Nat) : (msOf q n).length = n + 1 := by simp [msOf]
theorem msOf_succ (q : Int) (n : Nat) : msOf q (n + 1) = msOf q n ++ [(2, (0, 0))] := by
  unfold msOf; rw [List.replicate_succ', List.cons_append]
theorem msOf_0 (q : Int) (n : Nat) : (msOf q n)[0]? = some (4, (q, 0)) := rfl
theorem msOf_at (q : Int) (n k : Nat) (h : k < n) : (msOf q n)[k + 1]? = some (2, (0, 0)) := by
  show (List.replicate n ((2, (0, 0)) : Int × It))[k]? = _
  rw [List.getElem?_replicate, if_pos h]
/-- What is found: the first k. -/
def ansM (X : List It) (p0 k : Nat) : List (It × Bool) := (List.range k).map fun j => foO X[p0 + j]?
theorem ansM_len (X : List It) (p0 k : Nat) : (ansM X p0 k).length = k := by simp [ansM]
theorem ansM_succ (X : List It) (p0 k : Nat) : ansM X p0 (k + 1) = ansM X p0 k ++ [foO X[p0 + k]?] := by simp [ansM, List.range_succ]
theorem ansM_at (X : List It) (p0 : Nat) {k j : Nat} (h : j < k) : (ansM X p0 k)[j]? = some (foO X[p0 + j]?) := by simp [ansM, h]
def posM (X : List It) (i : Nat) : Option Nat := if i < X.length then some i else none
theorem posM_is (X : List It) (i : Nat) : (posM X i).isSome = (X[i]?).isSome := by
  unfold posM
  by_cases h : i < X.length
  · rw [if_pos h, List.getElem?_eq_getElem h]; rfl
  · rw [if_neg h, List.getElem?_eq_none (by omega)]; rfl
/-- An iterator behind a move, what was found so far. -/
structure MS (B m d : Nat) (ord : List Int) (iso : Int) (X : List It) (F : Nat → Nat → Prop) (mu : Bool) (ib : Nat) (w1 : World) (ov : Value) (P : List (It × Bool)) (p : Option Nat) (w : World) : Prop where
  it : (X = [] ∧ ItI w ib) ∨ ∃ full sb so cap, ItS ib m mu full sb so cap w ∧ PosT m d iso X F ib w full p ∧ w1.heap.size ≤ sb ∧ ∀ b o n c, ov = .slice (some ⟨b, o, none⟩) n c → b ≠ sb
  tree : TreeAt B ord w m d iso X F
  out : Outs w1.heap.size ov P w
  ext : Ext (fun y _ => y = ib ∨ w1.heap.size ≤ y) w1 w
theorem MS.ext0 {B m d : Nat} {ord : List Int} {iso : Int} {X : List It} {F : Nat → Nat → Prop} {mu : Bool} {ib : Nat} {w1 : World} {ov : Value} {P : List (It × Bool)} {p : Option Nat} {w w' : World} (s : MS B m d ord iso X F mu ib w1 ov P p w) (x : Ext noF w w') : MS B m d ord iso X F mu ib w1 ov P p w' := by
  obtain ⟨h, g2, g4, g6⟩ := s
  refine ⟨?_, MapAt.ext g2 x, g4.ext x, g6.tr (x.mono fun _ _ _ g => g.elim)⟩
  rcases h with ⟨h, h1⟩ | ⟨full, sb, so, cap, h1, h2, h3, h5⟩
  · exact .inl ⟨h, h1.ext x fun _ _ _ g => g⟩
  · exact .inr ⟨full, sb, so, cap, h1.ext0 x, h2.ext x (fun h => h) (fun h => h) (fun _ _ _ h => h), h3, h5⟩
theorem MS.app {B m d : Nat} {ord : List Int} {iso : Int} {X : List It} {F : Nat → Nat → Prop} {mu : Bool} {ib : Nat} {w1 : World} {ov : Value} {P : List (It × Bool)} {p : Option Nat} {ov' : Value} {q : It × Bool} {w w' : World} (s : MS B m d ord iso X F mu ib w1 ov P p w) (hoff : ∀ y o, (y = ib ∨ w1.heap.size ≤ y) → Far B m y ∧ ¬ F y o) (hil : ib < w1.heap.size) (a : AppRes w 3 ov P.length 1 (flat Ef P) (Ef.cel q) ov' w') : MS B m d ord iso X F mu ib w1 ov' (P ++ [q]) p w' := by
  have sx := s.ext.size
  obtain ⟨hO, -⟩ := s.out.app a sx
  obtain ⟨h, g2, g4, g6⟩ := s
  have key : ∃ G : Nat → Nat → Prop, Ext G w w' ∧ (∀ y o, G y o → y ≠ ib ∧ w1.heap.size ≤ y ∧ (∃ o n c, ov = .slice (some ⟨y, o, none⟩) n c)) ∧ ∀ b o n c, ov' = .slice (some ⟨b, o, none⟩) n c → (∃ o n c, ov = .slice (some ⟨b, o, none⟩) n c) ∨ b = w.heap.size := by
    rcases a.2 with ⟨rfl, rfl, h⟩ | ⟨b0, o0, c0, rfl, rfl, x, hz, _⟩ | ⟨c0, rfl, x, hz, _⟩
    · exact ⟨noF, Ext.refl _ _, fun _ _ g => g.elim, fun b o n c hv => .inl ⟨_, _, _, hv⟩⟩
    · have e3 := g4.si _ _ _ _ rfl
      refine ⟨_, x, fun y o g => ?_, fun b o n c hv => ?_⟩
      · have := g.1
        refine ⟨by omega, by omega, _, _, _, by rw [this]⟩
      · simp only [Value.slice.injEq, Option.some.injEq, Addr.mk.injEq, and_true] at hv
        rw [← hv.1.1]; exact .inl ⟨_, _, _, rfl⟩
    · refine ⟨noF, x, fun _ _ g => g.elim, fun b o n c hv => ?_⟩
      simp only [Value.slice.injEq, Option.some.injEq, Addr.mk.injEq, and_true] at hv
      rw [← hv.1.1]; exact .inr rfl
  obtain ⟨G, x, hG, hb'⟩ := key
  have hmG : ∀ y o, G y o → Far B m y ∧ ¬ F y o := fun y o k => hoff y o (.inr (hG y o k).2.1)
  refine ⟨?_, g2.extF x hmG, hO, g6.trans x (fun _ _ g => g) fun y o _ g => .inr (hG y o g).2.1⟩
  rcases h with ⟨h, h1⟩ | ⟨full, sb, so, cap, h1, h2, h3, h5⟩
  · exact .inl ⟨h, h1.ext x fun o _ _ g => (hG _ _ g).1 rfl⟩
  · refine .inr ⟨full, sb, so, cap, h1.ext x (fun o g => (hG _ o g).1 rfl) (fun o g => ?_), h2.ext x (fun g => (hG _ _ g).1 rfl) (fun g => g2.nf (hmG _ _ g).1) (fun y o g k => (hmG y o k).2 g), h3, fun b o n c hv => ?_⟩
    · obtain ⟨_, _, o', n', c', hov⟩ := hG _ _ g
      exact h5 _ _ _ _ hov rfl
    · rcases hb' b o n c hv with ⟨o', n', c', hov⟩ | hb
      · exact h5 _ _ _ _ hov
      · have := wok_lt h1.st.wi; omega
theorem Outs.blt {B : Nat} {v : Value} {l : List (It × Bool)} {w : World} (h : Outs B v l w) {b o n c : Nat} (hv : v = .slice (some ⟨b, o, none⟩) n c) : b < w.heap.size := by
  rcases h.sl.2 with ⟨g, _⟩ | ⟨b', o', c', g, _, _, hw⟩
  · rw [hv] at g; cases g
  · rw [hv] at g
    simp only [Value.slice.injEq, Option.some.injEq, Addr.mk.injEq, and_true] at g
    rw [g.1.1]; exact wokR_lt hw
end Go.Proofs.Ytmbbhmkenmliiaa
