/-
  FnExactBDeleteAt: the whole statement: it returns true whatever the input is, and the arguments read as before. No condition.
-/
import Derived.Test.YtanmjbkbdmeckaaZ67153cae
import Derived.Test.YtanmjbkbdmeckaaZ0e15e4a4
/-
  Handing on the items of a tree of whatever values, wrapped. No condition.
-/
set_option linter.unusedSimpArgs false
set_option linter.unusedVariables false
namespace Go.Proofs.Ytanmjbkbdmeckaa
open Go Go.Proofs
theorem hSh_none {S : List It → World → Prop} (h : ∀ done w w', S done w → Ext noF w w' → S done w') : ∀ done w w', S done w → Ext (Go.Proofs.Ytanmjbkbdmeckaa.hF none) w w' → S done w' :=
  fun done w w' hs x => h done w w' hs (x.mono fun y o _ g => by cases g)
/-- What a function of a tree hands on to a function value, in order. -/
def Scans (fn : Nat) (args : Value → Array Value) (hp : Option Nat) (B m : Nat) (ys : List It) (F : Nat → Nat → Prop) (w : World) : Prop :=
  ∀ (f : Value) (G : Nat → Nat → Prop) (S : List It → World → Prop) (go : List It → Bool), Cb f G S go → (∀ o, ¬ G m o) → (∀ hb, hp = some hb → (m ≤ hb ∨ hb < B) ∧ ∀ o, G hb o) → (∀ done w w', S done w → Ext (Go.Proofs.Ytanmjbkbdmeckaa.hF hp) w w' → S done w') →
    (∀ y o o', F y o → ¬ G y o') → S [] w → CallK Try.prog fn (args f) w fun _ w' => S (hand go [] ys).1 w' ∧ Ext G w w'
/-- A pivot or none. -/
def upO (ord : List Int) (p : Option It) (xs : List It) : List It := match p with
  | some q => xs.drop (lb O (rkI ord) (rkI ord q) xs)
  | none => xs
set_option maxHeartbeats 400000 in
set_option maxRecDepth 8000 in
theorem M_Scan_s (B m d : Nat) (ord : List Int) (hd : 2 ≤ d) (iso : Int) (xs : List It) (F : Nat → Nat → Prop) (w : World) (hM : TreeAt B ord w m d iso xs F) (hbig : xs.length ≤ 4294967295) :
    Scans 97 (fun f => #[ptr m, f]) none B m (xs) F w := by
  intro f G S go C hm hB hSh hG hS
  refine calls_of_W [] Try.func97 rfl Try.ntmps97 Try.results97 (by simp) fun e he => ?_
  have e0 : e 0 = ptr m := he 0 _ rfl
  have e1 : e 1 = f := he 1 _ rfl
  clear he
  refine W_rg fun K hK => (W_text [true, true, false] (by kernel_rfl) ?_); simp only [↓List.toList_toArray, ↓rgd, ↓rgf, ↓reduceIte, Nat.reduceEqDiff, rg, ow_97, e0, e1]
  refine do_call fn_135 (by simp only [evt, evc, upd_eq, Nat.reduceEqDiff, ↓reduceIte, maT, maC, maN, isnN, isnS] <;> rfl) (scan_any B m d ord iso xs F f G S go C hm false w hM hG hS hbig) ?_
  rintro _ w1 ⟨hS1, X1⟩
  refine ⟨trivial, ?_⟩
  simp only [↓List.toList_toArray, ↓rgd, ↓rgf, ↓reduceIte, Nat.reduceEqDiff, rg, ow_97]
  refine hK _ _ ?_; clear hK K
  exact endQ_0n ⟨hS1, X1⟩
set_option maxHeartbeats 400000 in
set_option maxRecDepth 8000 in
theorem M_Ascend_s (B m d : Nat) (ord : List Int) (hd : 2 ≤ d) (iso : Int) (xs : List It) (F : Nat → Nat → Prop) (q : It) (w : World) (hM : TreeAt B ord w m d iso xs F) (hbig : xs.length ≤ 4294967295) :
    Scans 98 (fun f => #[ptr m, itV q, f]) none B m (xs.drop (lb O (rkI ord) (rkI ord q) xs)) F w := by
  intro f G S go C hm hB hSh hG hS
  refine calls_of_W [] Try.func98 rfl Try.ntmps98 Try.results98 (by simp) fun e he => ?_
  have e0 : e 0 = ptr m := he 0 _ rfl
  have e1 : e 1 = itV q := he 1 _ rfl
  have e2 : e 2 = f := he 2 _ rfl
  clear he
  refine W_rg fun K hK => (W_text [true, true, true, false] (by kernel_rfl) ?_); simp only [↓List.toList_toArray, ↓rgd, ↓rgf, ↓reduceIte, Nat.reduceEqDiff, rg, ow_98, e0, e1, e2]
  refine do_call fn_136 (by simp only [evt, evc, upd_eq, Nat.reduceEqDiff, ↓reduceIte, maT, maC, maN, isnN, isnS] <;> rfl) (ascend_any B m d ord hd iso xs F q none f G S go C hm hB hSh false w hM hG hS (HOk.none _) hbig) ?_
  rintro _ w1 ⟨hS1, X1⟩
  refine ⟨trivial, ?_⟩
  simp only [↓List.toList_toArray, ↓rgd, ↓rgf, ↓reduceIte, Nat.reduceEqDiff, rg, ow_98]
  refine hK _ _ ?_; clear hK K
  exact endQ_0n ⟨hS1, X1⟩
set_option maxHeartbeats 400000 in
set_option maxRecDepth 8000 in
theorem T_Ascend_s (t : Nat) (B m d : Nat) (ord : List Int) (hd : 2 ≤ d) (iso : Int) (xs : List It) (F : Nat → Nat → Prop) (p : Option It) (w : World) (hM : TreeAt B ord w m d iso xs F) (hbig : xs.length ≤ 4294967295) (ht : BAt w t m) :
    Scans 64 (fun f => #[ptr t, itO p, f]) none B m (upO ord p xs) F w := by
  intro f G S go C hm hB hSh hG hS
  refine calls_of_W [] Try.func64 rfl Try.ntmps64 Try.results64 (by simp) fun e he => ?_
  have e0 : e 0 = ptr t := he 0 _ rfl
  have e1 : e 1 = itO p := he 1 _ rfl
  have e2 : e 2 = f := he 2 _ rfl
  clear he
  have ht : rd w t 0 = some (ptr m) := ht
  cases p with
  | none =>
    replace e1 : e 1 = zV := e1
    refine W_sq fun K hK => (W_text [true, true] (by kernel_rfl) ?_); simp only [↓List.toList_toArray, ↓rgd, ↓rgf, ↓reduceIte, Nat.reduceEqDiff, rg, ow_64, e1, eq_anyN]
    refine hK _ _ ?_; clear hK K
    refine W_true (by simp only [evt, evc, upd_eq, Nat.reduceEqDiff, ↓reduceIte, ntT, ntF] <;> rfl) ?_
    refine W_rg fun K hK => (W_text [true, true, true, true, true, false] (by kernel_rfl) ?_); simp only [↓List.toList_toArray, ↓rgd, ↓rgf, ↓reduceIte, Nat.reduceEqDiff, rg, ow_64, e0, e2, ptr_eq, ht]
    refine do_call fn_97 (by simp only [evt, evc, upd_eq, Nat.reduceEqDiff, ↓reduceIte, maT, maC, maN, isnN, isnS] <;> rfl) (M_Scan_s B m d ord hd iso xs F w hM hbig f G S go C hm (fun _ h => by cases h) (hSh_none C.2) hG hS) ?_
    rintro _ w1 ⟨hS1, X1⟩
    refine ⟨trivial, ?_⟩
    simp only [↓List.toList_toArray, ↓rgd, ↓rgf, ↓reduceIte, Nat.reduceEqDiff, rg, ow_64]
    refine hK _ _ ?_; clear hK K
    exact endQ_0n ⟨hS1, X1⟩
  | some q =>
    replace e1 : e 1 = itV q := e1
    refine W_sq fun K hK => (W_text [true, true] (by kernel_rfl) ?_); simp only [↓List.toList_toArray, ↓rgd, ↓rgf, ↓reduceIte, Nat.reduceEqDiff, rg, ow_64, e1, eq_any]
    refine hK _ _ ?_; clear hK K
    refine W_false (by simp only [evt, evc, upd_eq, Nat.reduceEqDiff, ↓reduceIte, ntT, ntF] <;> rfl) ?_
    refine W_rg fun K hK => (W_text [true, true, true, true, true, true, false] (by kernel_rfl) ?_); simp only [↓List.toList_toArray, ↓rgd, ↓rgf, ↓reduceIte, Nat.reduceEqDiff, rg, ow_64, e0, e1, e2, ptr_eq, ht]
    refine do_call fn_98 (by simp only [evt, evc, upd_eq, Nat.reduceEqDiff, ↓reduceIte, maT, maC, maN, isnN, isnS] <;> rfl) (M_Ascend_s B m d ord hd iso xs F q w hM hbig f G S go C hm hB hSh hG hS) ?_
    rintro _ w1 ⟨hS1, X1⟩
    refine ⟨trivial, ?_⟩
    simp only [↓List.toList_toArray, ↓rgd, ↓rgf, ↓reduceIte, Nat.reduceEqDiff, rg, ow_64]
    refine hK _ _ ?_; clear hK K
    exact endQ_0n ⟨hS1, X1⟩
end Go.Proofs.Ytanmjbkbdmeckaa
/-
  The function that keeps the items that are handed to it. No condition.
-/
set_option linter.unusedSimpArgs false
set_option linter.unusedVariables false
namespace Go.Proofs.Ytanmjbkbdmeckaa
open Go Go.Proofs
/-- What is kept: the variable's block, the list, that the list is not older than B. -/
structure Kept (B ob : Nat) (done : List It) (w : World) : Prop where
  var : ∃ sv, rd w ob 0 = some sv ∧ SlI w sv done ∧ since B sv
  wok : wok w ob 1
  lt : ob < B
  le : B ≤ w.heap.size
def outF (B ob : Nat) : Nat → Nat → Prop := fun y _ => y = ob ∨ B ≤ y
theorem Kept.ext {B ob : Nat} {done : List It} {w w' : World} (h : Kept B ob done w) (x : Ext noF w w') : Kept B ob done w' := by
  obtain ⟨sv, h1, h2, h3⟩ := h.var
  exact ⟨⟨sv, x.rd h1 (fun h => h), h2.ext0 x, h3⟩, x.wok h.wok, h.lt, Nat.le_trans h.le x.size⟩
set_option maxHeartbeats 400000 in
set_option maxRecDepth 8000 in
theorem take_any (B ob pb nb : Nat) (n : Int) (done : List It) (x : It) (w : World) (h : Kept B ob done w) (hp : rd w pb 0 = some (ptr ob)) (hn : rd w nb 0 = some (.int .i64 n)) (h1 : pb ≠ ob) (h2 : nb ≠ ob) (h3 : pb < B) (h4 : nb < B)
    (hbig : done.length < 4294967295) :
    CallK Try.prog 137 #[iV x, ptr pb, ptr nb] w fun v w' => v = .bool (upTo n (done ++ [x])) ∧ Kept B ob (done ++ [x]) w' ∧ Ext (outF B ob) w w' := by
  obtain ⟨sv, hv, hS, hsi⟩ := h.var
  have hlt := h.lt
  have hle := h.le
  refine calls_of_W [.tmp 4] Try.func137 rfl Try.ntmps137 Try.results137 (by simp) fun e he => ?_
  have e0 : e 0 = iV x := he 0 _ rfl
  have e1 : e 1 = ptr pb := he 1 _ rfl
  have e2 : e 2 = ptr nb := he 2 _ rfl
  clear he
  refine W_sq fun K hK => (W_text [false, true] (by kernel_rfl) ?_); simp only [↓List.toList_toArray, ↓rgd, ↓rgf, ↓reduceIte, Nat.reduceEqDiff, rg, ow_137]
  refine do_box (by simp only [evt]; exact e0) fun w1 n1 => ⟨trivial, ?_⟩
  simp only [↓List.toList_toArray, ↓rgd, ↓rgf, ↓reduceIte, Nat.reduceEqDiff, rg, ow_137]
  refine hK _ _ ?_; clear hK K
  have s1 := n1.size
  have hp1 := n1.ext.rd hp (fun h => h)
  have hn1 := n1.ext.rd hn (fun h => h)
  have hv1 := n1.ext.rd hv (fun h => h)
  have bx : rdA w1 w.heap.size 0 2 = some (iV x) := n1.row.rdA 2 (by show 2 ≤ 2; omega)
  have M1 : readsB (some (some [pb, ob, w.heap.size])) pb = true := by simp [readsB]
  have M2 : readsB (some (some [pb, ob, w.heap.size])) ob = true := by simp [readsB]
  have M3 : readsB (some (some [pb, ob, w.heap.size])) w.heap.size = true := by simp [readsB]
  refine W_sq fun K hK => (W_draw (some (some [pb, ob, w.heap.size])) (some 8) [(0, 0, 0), (0, 1, 0), (0, 2, 0), (0, 3, 0), (0, 4, 0), (1, 5, 0), (1, 6, 0), (0, 7, 0), (1, 8, 0)] mixed (by kernel_rfl) ?_); simp only [↓List.toList_toArray, ↓rgd, ↓rgf, ↓reduceIte, Nat.reduceEqDiff, rg, ow_137, e1, ptr_eq, hp1, hv1, bx, M1, M2, M3]
  refine do_bsl rfl (bs_i1 x) fun w2 n2 => ⟨.inr (keeps_on n2.ext fun y hy => ⟨?_, fun _ h => h⟩), ?_⟩
  · rw [sz_dr]
    simp only [List.mem_cons, List.not_mem_nil, or_false] at hy
    omega
  simp only [↓List.toList_toArray, ↓rgd, ↓rgf, ↓reduceIte, Nat.reduceEqDiff, rg, ow_137]
  have n2 := n2.od
  have s2 := n2.size
  have X2 := n1.ext.tr n2.ext
  have hS2 := hS.ext0 X2
  have hx2 : SlV w2 2 (.slice (some ⟨w1.heap.size, 0, none⟩) 1 1) 1 (Ei.cel x) := ⟨rfl, .inr ⟨_, 0, 1, rfl, Nat.le_refl _, n2.row, n2.wok.R (Nat.le_refl _)⟩⟩
  refine do_append (by simp only [evt, evc, upd_eq, Nat.reduceEqDiff, ↓reduceIte, ntT, ntF] <;> rfl) (by simp only [evt, evc, upd_eq, Nat.reduceEqDiff, ↓reduceIte, ntT, ntF] <;> rfl) el_i rfl ni_i hS2 hx2 (by omega) (by decide) (Ei.one x) fun v3 w3 a3 => ?_
  obtain ⟨hS3, hs3, x3⟩ := app_since (B := B) a3 hsi (by omega)
  refine ⟨.inr fun y hy => app_block a3 ?_ fun o c k hh => ?_, ?_⟩
  · simp only [List.mem_cons, List.not_mem_nil, or_false] at hy
    omega
  · have g1 := hsi _ _ _ _ hh
    have g2 := hS.lt hh
    simp only [List.mem_cons, List.not_mem_nil, or_false] at hy
    omega
  simp only [↓List.toList_toArray, ↓rgd, ↓rgf, ↓reduceIte, Nat.reduceEqDiff, rg, ow_137]
  have s3 := x3.size
  obtain ⟨a3', c3', hv3⟩ := hS3.shape
  refine do_store (by simp only [evt, evc, upd_eq, Nat.reduceEqDiff, ↓reduceIte, ntT, ntF] <;> rfl) (by simp only [evt, evc, upd_eq, Nat.reduceEqDiff, ↓reduceIte, ntT, ntF] <;> rfl) sz_25 (by rw [hv3]; rfl) (x3.wok (X2.wok h.wok)) (by decide) (by rw [hv3]; exact oc_one rfl rfl) fun w4 x4 r4 s4 => ⟨.inl trivial, ?_⟩
  simp only [↓List.toList_toArray, ↓rgd, ↓rgf, ↓reduceIte, Nat.reduceEqDiff, rg, ow_137]
  refine hK _ _ ?_; clear hK K
  have hrow : rd w4 ob 0 = some v3 := by
    rw [hv3] at r4 ⊢
    exact (Row.cons.1 r4).1
  have X4 : Ext (outF B ob) w w4 := by
    refine (X2.trans (H := outF B ob) x3 (fun _ _ g => g.elim) fun y o _ g => .inr g).trans x4 (fun _ _ g => g) fun y o _ g => ?_
    simp only [rng] at g
    exact .inl g.1
  have x34 : Ext (fun y o => y = ob ∧ True) w3 w4 := x4.mono fun y o _ g => ⟨g.1, trivial⟩
  have hS4 : SlI w4 v3 (done ++ [x]) := by
    have : SlV w4 2 v3 (done.length + 1) (flat Ei done ++ Ei.cel x) := hS3.ext x4 fun b o c hh k _ g => by
      have := hs3 _ _ _ _ hh
      simp only [rng] at g
      omega
    rw [SlI, List.length_append, List.length_singleton, flat_append, flat_one]
    exact this
  have hn4 := x4.rd (x3.rd (X2.rd hn fun h => h) (by omega)) (by simp only [rng]; omega)
  have hp4 := x4.rd (x3.rd (X2.rd hp fun h => h) (by omega)) (by simp only [rng]; omega)
  have hl4 : ((done ++ [x]).length : Int) = ((done.length + 1 : Nat) : Int) := by simp
  have K4 : Kept B ob (done ++ [x]) w4 := ⟨⟨v3, hrow, hS4, hs3⟩, x4.wok (x3.wok (X2.wok h.wok)), hlt, by have := X4.size; omega⟩
  have X5 : ∀ k, Ext (outF B ob) w (dr w4 k) := fun k => X4.tr (Ext.dr _ _ _)
  have K5 : ∀ k, Kept B ob (done ++ [x]) (dr w4 k) := fun k => K4.ext (Ext.dr _ _ _)
  rw [hv3] at hrow
  by_cases hn1' : n < 1
  · have t1 : decide (n < 1) = true := by simp [hn1']
    refine W_sq fun K hK => (W_draw (some none) none [(0, 0, 0), (0, 1, 0), (0, 2, 0), (0, 3, 0), (0, 4, 0), (0, 5, 0), (0, 6, 0), (0, 7, 0), (0, 8, 0), (0, 9, 0), (0, 10, 0)] mixed (by kernel_rfl) ?_); simp only [↓List.toList_toArray, ↓rgd, ↓rgf, ↓reduceIte, Nat.reduceEqDiff, rg, ow_137, e1, e2, ptr_eq, hp4, hn4, hrow, t1]
    refine hK _ _ ?_; clear hK K
    refine W_ret (endQ_1 (by simp only [upd_eq, Nat.reduceEqDiff, ↓reduceIte] <;> rfl) ⟨?_, K5 _, X5 _⟩)
    simp [upTo, hn1']
  · have t1 : decide (n < 1) = false := by simp; omega
    refine W_sq fun K hK => (W_draw (some none) none [(0, 0, 0), (0, 1, 0), (0, 2, 0), (0, 3, 0), (0, 4, 0), (0, 5, 0), (0, 6, 0), (0, 7, 0), (0, 8, 0), (0, 9, 0), (0, 10, 0)] mixed (by kernel_rfl) ?_); simp only [↓List.toList_toArray, ↓rgd, ↓rgf, ↓reduceIte, Nat.reduceEqDiff, rg, ow_137, e1, e2, ptr_eq, hp4, hn4, hrow, t1]
    refine hK _ _ ?_; clear hK K
    refine W_ret (endQ_1 (by simp only [upd_eq, Nat.reduceEqDiff, ↓reduceIte] <;> rfl) ⟨?_, K5 _, X5 _⟩)
    simp [upTo, hn1']
def takeV (pb nb : Nat) : Value := .func (.func 137) #[] #[ptr pb, ptr nb]
theorem takeV_eq (pb nb : Nat) : takeV pb nb = .func (.func 137) #[] #[ptr pb, ptr nb] := rfl
theorem fn_take : isFn Try.prog 137 = true := by kernel_rfl
set_option maxHeartbeats 400000 in
set_option maxRecDepth 8000 in
theorem taker_mk (ob : Nat) (n : Int) (w : World) :
    CallK Try.prog 99 #[ptr ob, .int .i64 n] w fun v w' => v = takeV w.heap.size (w.heap.size + 1) ∧ Ext noF w w' ∧ rd w' w.heap.size 0 = some (ptr ob) ∧ rd w' (w.heap.size + 1) 0 = some (.int .i64 n) ∧ w'.heap.size = w.heap.size + 2 := by
  refine calls_of_W [.tmp 4] Try.func99 rfl Try.ntmps99 Try.results99 (by simp) fun e he => ?_
  have e0 : e 0 = ptr ob := he 0 _ rfl
  have e1 : e 1 = .int .i64 n := he 1 _ rfl
  clear he
  refine W_sq fun K hK => (W_text [false, false, true] (by kernel_rfl) ?_); simp only [↓List.toList_toArray, ↓rgd, ↓rgf, ↓reduceIte, Nat.reduceEqDiff, rg]
  refine do_box (v := ptr ob) (by simp only [evt]; exact e0) fun w1 n1 => ⟨trivial, ?_⟩
  simp only [↓List.toList_toArray, ↓rgd, ↓rgf, ↓reduceIte, Nat.reduceEqDiff, rg]
  refine do_box (v := .int .i64 n) (by simp only [evt, upd_eq, Nat.reduceEqDiff, ↓reduceIte]; exact e1) fun w2 n2 => ⟨trivial, ?_⟩
  simp only [↓List.toList_toArray, ↓rgd, ↓rgf, ↓reduceIte, Nat.reduceEqDiff, rg]
  refine hK _ _ ?_; clear hK K
  have s1 := n1.size
  have s2 := n2.size
  have r1 : rd w2 w.heap.size 0 = some (ptr ob) := n2.ext.rd (Row.cons.1 (show Row w1 w.heap.size 0 [ptr ob] from n1.row)).1 fun h => h
  have r2 : rd w2 (w.heap.size + 1) 0 = some (.int .i64 n) := by rw [← s1]; exact (Row.cons.1 (show Row w2 w1.heap.size 0 [.int .i64 n] from n2.row)).1
  refine W_sq fun K hK => (W_text [true, true] (by kernel_rfl) ?_); simp only [↓List.toList_toArray, ↓rgd, ↓rgf, ↓reduceIte, Nat.reduceEqDiff, rg]
  refine hK _ _ ?_; clear hK K
  refine W_ret (endQ_1 (by simp only [upd_eq, Nat.reduceEqDiff, ↓reduceIte] <;> rfl) ⟨?_, n1.ext.tr n2.ext, r1, r2, by omega⟩)
  rw [takeV, s1, ptr_eq, ptr_eq]
/-- The same for items in interfaces: a function value that holds the other. -/
def takeA (c : Nat) : Value := .func (.func 100) #[] #[ptr c]
theorem z_fnA : zK Try.prog 121 = some [.nilFunc] := by kernel_rfl
theorem fn_takeA : isFn Try.prog 100 = true := by kernel_rfl
/-- What holds while items are kept. -/
def TS (c ob pb nb B : Nat) (n : Int) (done : List It) (w : World) : Prop := Kept B ob done w ∧ rd w pb 0 = some (ptr ob) ∧ rd w nb 0 = some (.int .i64 n) ∧ rd w c 0 = some (takeV pb nb)
set_option maxHeartbeats 400000 in
set_option maxRecDepth 8000 in
theorem takeA_any (c B ob pb nb : Nat) (n : Int) (done : List It) (x : It) (w : World) (h : TS c ob pb nb B n done w) (h1 : pb ≠ ob) (h2 : nb ≠ ob) (h3 : pb < B) (h4 : nb < B) (h5 : c ≠ ob) (h6 : c < B)
    (hbig : done.length < 4294967295) :
    CallK Try.prog 100 #[itV x, ptr c] w fun v w' => v = .bool (upTo n (done ++ [x])) ∧ TS c ob pb nb B n (done ++ [x]) w' ∧ Ext (outF B ob) w w' := by
  obtain ⟨hK0, hp, hn, hc⟩ := h
  refine calls_of_W [.tmp 3] Try.func100 rfl Try.ntmps100 Try.results100 (by simp) fun e he => ?_
  have e0 : e 0 = itV x := he 0 _ rfl
  have e1 : e 1 = ptr c := he 1 _ rfl
  clear he
  refine W_sq fun K hK => (W_text [true] (by kernel_rfl) ?_); simp only [↓List.toList_toArray, ↓rgd, ↓rgf, ↓reduceIte, Nat.reduceEqDiff, rg, ow_100]
  refine hK _ _ ?_; clear hK K
  have M1 : readsB (some (some [c])) c = true := by simp [readsB]
  have hle := hK0.le
  have hob := hK0.lt
  refine W_sq fun K hK => (W_draw (some (some [c])) none [(0, 0, 0), (0, 1, 0), (0, 2, 0), (1, 3, 0), (0, 4, 0)] mixed (by kernel_rfl) ?_); simp only [↓List.toList_toArray, ↓rgd, ↓rgf, ↓reduceIte, Nat.reduceEqDiff, rg, ow_100, e0, e1, ptr_eq, hc, tas_any, M1]
  rw [takeV_eq]
  refine do_callv (by simp only [evt, evc, upd_eq, Nat.reduceEqDiff, ↓reduceIte, ntT, ntF] <;> rfl) fn_take rfl (by simp only [evt, upd_eq, Nat.reduceEqDiff, ↓reduceIte, maT, maC, maN]; exact take_any B ob pb nb n done x _ (hK0.ext (Ext.dr noF w (w.drawn + 1))) ((Ext.dr noF w (w.drawn + 1)).rd hp fun h => h) ((Ext.dr noF w (w.drawn + 1)).rd hn fun h => h) h1 h2 h3 h4 hbig) ?_
  rintro _ w2 ⟨rfl, hK2, x2⟩
  refine ⟨.inr (keeps_on x2 fun y hy => ?_), ?_⟩
  · simp only [List.mem_cons, List.not_mem_nil, or_false] at hy
    subst hy
    exact ⟨by rw [sz_dr]; omega, fun _ g => by rcases g with g | g <;> omega⟩
  have x2 := x2.od
  simp only [↓List.toList_toArray, ↓rgd, ↓rgf, ↓reduceIte, Nat.reduceEqDiff, rg, ow_100]
  refine hK _ _ ?_; clear hK K
  have nF : ∀ y, y ≠ ob → y < B → ¬ outF B ob y 0 := fun y g1 g2 g => by rcases g with g | g <;> omega
  exact W_ret (endQ_1 (by simp only [upd_eq, Nat.reduceEqDiff, ↓reduceIte] <;> rfl) ⟨rfl, ⟨hK2, x2.rd hp (nF _ h1 h3), x2.rd hn (nF _ h2 h4), x2.rd hc (nF _ h5 h6)⟩, x2⟩)
set_option maxHeartbeats 400000 in
set_option maxRecDepth 8000 in
theorem takerA_mk (ob : Nat) (n : Int) (w : World) :
    CallK Try.prog 66 #[ptr ob, .int .i64 n] w fun v w' => ∃ c pb nb, v = takeA c ∧ Ext noF w w' ∧ rd w' pb 0 = some (ptr ob) ∧ rd w' nb 0 = some (.int .i64 n) ∧ rd w' c 0 = some (takeV pb nb) ∧ w.heap.size ≤ c ∧ w.heap.size ≤ pb ∧ w.heap.size ≤ nb ∧ c < w'.heap.size ∧ pb < w'.heap.size ∧ nb < w'.heap.size := by
  refine calls_of_W [.tmp 4] Try.func66 rfl Try.ntmps66 Try.results66 (by simp) fun e he => ?_
  have e0 : e 0 = ptr ob := he 0 _ rfl
  have e1 : e 1 = .int .i64 n := he 1 _ rfl
  clear he
  refine W_sq fun K hK => (W_text [true] (by kernel_rfl) ?_); simp only [↓List.toList_toArray, ↓rgd, ↓rgf, ↓reduceIte, Nat.reduceEqDiff, rg, ow_66]
  refine hK _ _ ?_; clear hK K
  refine W_sq fun K hK => (W_text [true, true, false, false, false] (by kernel_rfl) ?_); simp only [↓List.toList_toArray, ↓rgd, ↓rgf, ↓reduceIte, Nat.reduceEqDiff, rg, ow_66, e0, e1]
  refine do_call fn_99 (vs := #[ptr ob, .int .i64 n]) (by simp only [evt, evc, upd_eq, Nat.reduceEqDiff, ↓reduceIte, maT, maC, maN, isnN, isnS] <;> rfl) (taker_mk ob n w) ?_
  rintro _ w3 ⟨rfl, X3, p3, q3, s3⟩
  refine ⟨trivial, ?_⟩
  simp only [↓List.toList_toArray, ↓rgd, ↓rgf, ↓reduceIte, Nat.reduceEqDiff, rg, ow_66]
  refine do_alloc z_fnA fun w4 n4 => ⟨trivial, ?_⟩
  simp only [↓List.toList_toArray, ↓rgd, ↓rgf, ↓reduceIte, Nat.reduceEqDiff, rg, ow_66]
  refine do_store (v := takeV w.heap.size (w.heap.size + 1)) (by simp only [evt, evc, upd_eq, Nat.reduceEqDiff, ↓reduceIte, ntT, ntF] <;> rfl) (by simp only [evt, evc, upd_eq, Nat.reduceEqDiff, ↓reduceIte, ntT, ntF] <;> rfl) sz_121 rfl n4.wok (by decide) (oc_one rfl rfl) fun w5 x5 r5 s5 => ⟨trivial, ?_⟩
  simp only [↓List.toList_toArray, ↓rgd, ↓rgf, ↓reduceIte, Nat.reduceEqDiff, rg, ow_66]
  refine hK _ _ ?_; clear hK K
  have s4 := n4.size
  have X5 : Ext noF w w5 := noF_of (X3.tr n4.ext) x5 fun y o hy h => by simp only [rng] at h; omega
  have nr : ∀ y, y < w3.heap.size → ¬ rng w3.heap.size 0 1 y 0 := fun y hy h => by simp only [rng] at h; omega
  refine W_sq fun K hK => (W_text [true, true] (by kernel_rfl) ?_); simp only [↓List.toList_toArray, ↓rgd, ↓rgf, ↓reduceIte, Nat.reduceEqDiff, rg, ow_66]
  refine hK _ _ ?_; clear hK K
  refine W_ret (endQ_1 (by simp only [upd_eq, Nat.reduceEqDiff, ↓reduceIte] <;> rfl) ⟨w3.heap.size, w.heap.size, w.heap.size + 1, ?_, X5, x5.rd (n4.ext.rd p3 fun h => h) (nr _ (by omega)), x5.rd (n4.ext.rd q3 fun h => h) (nr _ (by omega)), (Row.cons.1 (show Row w5 w3.heap.size 0 [takeV w.heap.size (w.heap.size + 1)] from r5)).1, by omega, by omega, by omega, by omega, by omega, by omega⟩)
  rw [takeA, ptr_eq]
theorem TS.ext {c ob pb nb B : Nat} {n : Int} {done : List It} {w w' : World} (h : TS c ob pb nb B n done w) (x : Ext noF w w') : TS c ob pb nb B n done w' :=
  ⟨h.1.ext x, x.rd h.2.1 fun h => h, x.rd h.2.2.1 fun h => h, x.rd h.2.2.2 fun h => h⟩
theorem cb_take (c ob pb nb B : Nat) (n : Int) (h1 : pb ≠ ob) (h2 : nb ≠ ob) (h3 : pb < B) (h4 : nb < B) (h5 : c ≠ ob) (h6 : c < B) : Cb (takeA c) (outF B ob) (TS c ob pb nb B n) (upTo n) :=
  ⟨⟨_, #[], #[ptr c], rfl, fn_takeA, fun done x w hS hlen => takeA_any c B ob pb nb n done x w hS h1 h2 h3 h4 h5 h6 hlen⟩, fun _ _ _ hS x => hS.ext x⟩
end Go.Proofs.Ytanmjbkbdmeckaa
/-
  What a tree hands on, kept; all items of a tree. No condition.
-/
set_option linter.unusedSimpArgs false
set_option linter.unusedVariables false
namespace Go.Proofs.Ytanmjbkbdmeckaa
open Go Go.Proofs
theorem z_hint : zK Try.prog 85 = some [.bool false, .bool false, .bool false, .bool false, .bool false, .bool false, .bool false, .bool false, .int .u8 0, .int .u8 0, .int .u8 0, .int .u8 0, .int .u8 0, .int .u8 0, .int .u8 0, .int .u8 0] := by kernel_rfl
theorem hint_new {w w' : World} (h : New w w' [.bool false, .bool false, .bool false, .bool false, .bool false, .bool false, .bool false, .bool false, .int .u8 0, .int .u8 0, .int .u8 0, .int .u8 0, .int .u8 0, .int .u8 0, .int .u8 0, .int .u8 0]) : HintAt w' w.heap.size := by
  refine ⟨h.wok, fun i hi => ⟨false, ?_⟩, fun i hi => ⟨0, by omega, ?_⟩⟩
  · have : i = 0 ∨ i = 1 ∨ i = 2 ∨ i = 3 ∨ i = 4 ∨ i = 5 ∨ i = 6 ∨ i = 7 := by omega
    have := h.row i (.bool false) (by rcases this with rfl | rfl | rfl | rfl | rfl | rfl | rfl | rfl <;> rfl)
    rwa [Nat.zero_add] at this
  · have : i = 0 ∨ i = 1 ∨ i = 2 ∨ i = 3 ∨ i = 4 ∨ i = 5 ∨ i = 6 ∨ i = 7 := by omega
    have := h.row (8 + i) (.int .u8 0) (by rcases this with rfl | rfl | rfl | rfl | rfl | rfl | rfl | rfl <;> rfl)
    rwa [Nat.zero_add] at this
theorem Cb.mono {f : Value} {G G' : Nat → Nat → Prop} {S : List It → World → Prop} {go : List It → Bool} (h : Cb f G S go) (hG : ∀ y o, G y o → G' y o) : Cb f G' S go := by
  obtain ⟨⟨g, first, cap, h1, h2, h3⟩, h4⟩ := h
  exact ⟨⟨g, first, cap, h1, h2, fun done x w hS hl => CallK_mono (h3 done x w hS hl) fun v w' ⟨a, b, c⟩ => ⟨a, b, c.mono fun y o _ g => hG y o g⟩⟩, h4⟩
theorem Kept.extH {B ob : Nat} {done : List It} {w w' : World} {G : Nat → Nat → Prop} (h : Kept B ob done w) (x : Ext G w w') (hG : ∀ y o, G y o → y ≠ ob ∧ y < B) : Kept B ob done w' := by
  obtain ⟨sv, h1, h2, h3⟩ := h.var
  exact ⟨⟨sv, x.rd h1 (fun g => (hG _ _ g).1 rfl), h2.ext x fun b o c hv i _ g => by have := h3 _ _ _ _ hv; have := (hG _ _ g).2; omega, h3⟩, x.wok h.wok, h.lt, Nat.le_trans h.le x.size⟩
theorem z_sl : zK Try.prog 25 = some [.slice none 0 0] := by kernel_rfl
theorem firstN_0 {α : Type} (l : List α) : firstN 0 l = l := by unfold firstN; rw [if_pos (.inl (by decide))]
/-- What is there when a tree, a function that keeps items and a hint (or none) have been made, in whatever order. -/
structure Ready (B0 ob c pb nb : Nat) (hp : Option Nat) (B m : Nat) (F : Nat → Nat → Prop) (n : Int) (w : World) : Prop where
  out : rd w ob 0 = some (.slice none 0 0)
  wout : wok w ob 1
  rpb : rd w pb 0 = some (ptr ob)
  rnb : rd w nb 0 = some (.int .i64 n)
  rc : rd w c 0 = some (takeV pb nb)
  lt : B0 ≤ ob ∧ c ≠ ob ∧ pb ≠ ob ∧ nb ≠ ob ∧ m ≠ ob ∧ c < w.heap.size ∧ pb < w.heap.size ∧ nb < w.heap.size ∧ m < w.heap.size
  hlt : ∀ hb, hp = some hb → B0 ≤ hb ∧ hb < w.heap.size ∧ hb ≠ ob ∧ c ≠ hb ∧ pb ≠ hb ∧ nb ≠ hb ∧ m ≠ hb ∧ (m ≤ hb ∨ hb < B)
  off : ∀ y o, F y o → y ≠ ob ∧ y < w.heap.size ∧ ∀ hb, hp = some hb → y ≠ hb
set_option maxHeartbeats 400000 in
set_option maxRecDepth 8000 in
theorem ready_go {B0 ob c pb nb : Nat} {hp : Option Nat} {B m : Nat} {ys : List It} {F : Nat → Nat → Prop} {n : Int} {w0 w : World} {fn : Nat} {args : Value → Array Value} (hR : Ready B0 ob c pb nb hp B m F n w) (X : Ext noF w0 w) (h0 : B0 = w0.heap.size)
    (hs : Scans fn args hp B m ys F w) :
    CallK Try.prog fn (args (takeA c)) w fun _ w' => Ext noF w0 w' ∧ ∃ sv, rd w' ob 0 = some sv ∧ SlI w' sv (firstN n ys) := by
  obtain ⟨l0, l1, l2, l3, l4, l5, l6, l7, l8⟩ := hR.lt
  have hob := wok_lt hR.wout
  have hKp : Kept w.heap.size ob [] w := ⟨⟨_, hR.out, ⟨rfl, .inl ⟨rfl, rfl⟩⟩, fun b o n c h => by cases h⟩, hR.wout, by omega, Nat.le_refl _⟩
  have C := (cb_take c ob pb nb w.heap.size n (by omega) (by omega) (by omega) (by omega) (by omega) (by omega)).mono (G' := fun y o => outF w.heap.size ob y o ∨ hp = some y) fun _ _ g => .inl g
  refine CallK_mono (hs _ _ _ _ C (fun o g => ?_) (fun y h => ⟨(hR.hlt y h).2.2.2.2.2.2.2, fun o => .inr h⟩) (fun done w1 w2 hS x => ?_) (fun y o o' hy g => ?_) ⟨hKp, hR.rpb, hR.rnb, hR.rc⟩) ?_
  · rcases g with (g | g) | g
    · omega
    · omega
    · exact (hR.hlt _ g).2.2.2.2.2.2.1 rfl
  · have q : ∀ y, Go.Proofs.Ytanmjbkbdmeckaa.hF hp y 0 → y ≠ ob ∧ y < w.heap.size ∧ c ≠ y ∧ pb ≠ y ∧ nb ≠ y := fun y g => by
      have := hR.hlt y g; omega
    refine ⟨hS.1.extH x fun y o g => ⟨(q y g).1, (q y g).2.1⟩, x.rd hS.2.1 fun g => (q _ g).2.2.2.1 rfl, x.rd hS.2.2.1 fun g => (q _ g).2.2.2.2 rfl, x.rd hS.2.2.2 fun g => (q _ g).2.2.1 rfl⟩
  · have h1 := hR.off y o hy
    rcases g with (g | g) | g
    · omega
    · omega
    · exact h1.2.2 _ g rfl
  rintro _ w' ⟨⟨hK4, _⟩, X4⟩
  obtain ⟨sv, h1, h2, _⟩ := hK4.var
  rw [hand_upTo_nil] at h2
  refine ⟨noF_of X X4 fun y o hy g => ?_, sv, h1, h2⟩
  have := X.size
  rcases g with (g | g) | g
  · omega
  · omega
  · have := hR.hlt y g; omega
set_option maxHeartbeats 800000 in
set_option maxRecDepth 8000 in
theorem allOf_any (t B m d : Nat) (ord : List Int) (hd : 2 ≤ d) (iso : Int) (xs : List It) (F : Nat → Nat → Prop) (w : World) (ht : BAt w t m) (hM : TreeAt B ord w m d iso xs F) (hbig : xs.length ≤ 4294967295) :
    CallK Try.prog 56 #[ptr t] w fun v w' => SlI w' v xs ∧ Ext noF w w' := by
  refine calls_of_W [.tmp 2] Try.func56 rfl Try.ntmps56 Try.results56 (by simp) fun e he => ?_
  have e0 : e 0 = ptr t := he 0 _ rfl
  clear he
  refine W_sq fun K hK => (W_text [true] (by kernel_rfl) ?_); simp only [↓List.toList_toArray, ↓rgd, ↓rgf, ↓reduceIte, Nat.reduceEqDiff, rg, ow_56]
  refine hK _ _ ?_; clear hK K
  refine W_sq fun K hK => (W_text [false] (by kernel_rfl) ?_); simp only [↓List.toList_toArray, ↓rgd, ↓rgf, ↓reduceIte, Nat.reduceEqDiff, rg, ow_56]
  refine do_alloc z_sl fun w1 n1 => ⟨trivial, ?_⟩
  simp only [↓List.toList_toArray, ↓rgd, ↓rgf, ↓reduceIte, Nat.reduceEqDiff, rg, ow_56]
  refine hK _ _ ?_; clear hK K
  have s1 := n1.size
  have hml := hM.mlt
  have hlt := hM.lt
  refine W_sq fun K hK => (W_text [true, false, false] (by kernel_rfl) ?_); simp only [↓List.toList_toArray, ↓rgd, ↓rgf, ↓reduceIte, Nat.reduceEqDiff, rg, ow_56, e0]
  refine do_call fn_66 (vs := #[ptr w.heap.size, .int .i64 0]) (by simp only [evt, evc, upd_eq, Nat.reduceEqDiff, ↓reduceIte, maT, maC, maN, isnN, isnS] <;> rfl) (takerA_mk w.heap.size 0 w1) ?_
  rintro _ w2 ⟨c, pb, nb, rfl, X2, h1, h2, h3, h4, h5, h6, h7, h8, h9⟩
  refine ⟨trivial, ?_⟩
  simp only [↓List.toList_toArray, ↓rgd, ↓rgf, ↓reduceIte, Nat.reduceEqDiff, rg, ow_56]
  have X12 := n1.ext.tr X2
  refine do_call fn_64 (vs := #[ptr t, itO none, takeA c]) (by simp only [evt, evc, upd_eq, Nat.reduceEqDiff, ↓reduceIte, maT, maC, maN, isnN, isnS] <;> rfl) (ready_go (fn := 64) (args := fun f => #[ptr t, itO none, f]) (n := 0) ⟨X2.rd (Row.cons.1 n1.row).1 fun h => h, X2.wok n1.wok, h1, h2, h3, by have := X2.size; omega, (fun _ h => by cases h), fun y o hy => ⟨by have := hlt y o hy; omega, by have := hlt y o hy; have := X2.size; omega, fun _ h => by cases h⟩⟩ X12 rfl
    (T_Ascend_s t B m d ord hd iso xs F none w2 (hM.ext X12) hbig (X12.rd ht fun h => h))) ?_
  rintro _ w3 ⟨X3, sv, hv, hS⟩
  refine ⟨trivial, ?_⟩
  simp only [↓List.toList_toArray, ↓rgd, ↓rgf, ↓reduceIte, Nat.reduceEqDiff, rg, ow_56]
  refine hK _ _ ?_; clear hK K
  refine W_sq fun K hK => (W_text [true, true] (by kernel_rfl) ?_); simp only [↓List.toList_toArray, ↓rgd, ↓rgf, ↓reduceIte, Nat.reduceEqDiff, rg, ow_56, hv]
  refine hK _ _ ?_; clear hK K
  refine W_ret (endQ_1 (by simp only [upd_eq, Nat.reduceEqDiff, ↓reduceIte] <;> rfl) ⟨?_, X3⟩)
  rw [firstN_0] at hS
  exact hS
end Go.Proofs.Ytanmjbkbdmeckaa
/-
  DeleteAt of a tree of whatever values. No condition.
-/
set_option linter.unusedSimpArgs false
set_option linter.unusedVariables false
namespace Go.Proofs.Ytanmjbkbdmeckaa
open Go Go.Proofs
def E8 : Enc Int where
  cel i := [.int .u8 i]
  sz := 1
  len _ := rfl
  one i v hv := by simp at hv; subst hv; rfl
  pos := by decide
theorem u8V_at {w : World} {b o : Nat} {l : List Int} (h : Row w b o (flat E8 l)) {i : Nat} {x : Int} (hi : l[i]? = some x) : rd w b (o + i) = some (.int .u8 x) := by
  have := row_cell (row_at E8 h hi) (j := 0) rfl
  rwa [show E8.sz = 1 from rfl, Nat.mul_one] at this
theorem z_pb : zK Try.prog 83 = some [.int .u8 0, .int .u8 0, .int .u8 0, .int .u8 0, .int .u8 0, .int .u8 0, .int .u8 0, .int .u8 0] := by kernel_rfl
theorem sl_pb (a : Addr) : sliceV Try.prog 83 (.pointer (some a)) none (some (.int .i64 0)) none = some (.slice (some a) (0 : Nat) 8) := by kernel_rfl
theorem el_u8 : elK Try.prog 164 = some (5, 1, 1, [.int .u8 0]) := by kernel_rfl
theorem ni_u8 : noInt Try.prog 164 = true := by kernel_rfl
theorem bs_u1 (i : Int) : bsV Try.prog 164 1 [(0, .int .u8 i)] = some (5, E8.cel i) := by kernel_rfl
theorem u8_in (i : Nat) (h : i < 256) : IntKind.u8.wrap (i : Int) = i := by rw [IntKind.wrap_u8]; omega
theorem OutE.low {α : Type} {E : Enc α} {B : Nat} {v : Value} {l : List α} {w w' : World} {G : Nat → Nat → Prop} (h : OutE E B v l w) (x : Ext G w w') (hG : ∀ y o, G y o → y < B) : OutE E B v l w' :=
  ⟨h.sl.ext x fun b o cap hv j _ g => by have := h.si _ _ _ _ hv; have := hG _ _ g; omega, h.si⟩
/-- A list without the item at an index. -/
def cutI (l : List It) (k : Int) : List It := if 0 ≤ k then l.eraseIdx k.toNat else l
theorem cutI_nat (l : List It) (k : Nat) : cutI l (k : Int) = l.eraseIdx k := by unfold cutI; rw [if_pos (by omega)]; simp
theorem cutI_off (l : List It) (k : Int) (h : k < 0 ∨ (l.length : Int) ≤ k) : cutI l k = l ∧ nth l k = none := by
  unfold cutI nth
  by_cases h0 : 0 ≤ k
  · rw [if_pos h0, if_pos h0, List.eraseIdx_of_length_le (by omega)]
    exact ⟨rfl, List.getElem?_eq_none (by omega)⟩
  · rw [if_neg h0, if_neg h0]; exact ⟨rfl, rfl⟩
theorem nth_n (l : List It) (k : Nat) : nth l (k : Int) = l[k]? := by unfold nth; rw [if_pos (by omega)]; simp
theorem del_idx {ord : List Int} {l : List It} {k : Nat} {x : It} (ha : Asc O (rkI ord) l) (hx : l[k]? = some x) : at? O (rkI ord) (rkI ord x) l = some x ∧ del O (rkI ord) (rkI ord x) l = l.eraseIdx k := by
  obtain ⟨h1, h2⟩ := List.getElem?_eq_some_iff.1 hx
  have hs : l = l.take k ++ x :: l.drop (k + 1) := by
    rw [← h2, ← List.drop_eq_getElem_cons h1, List.take_append_drop]
  have hl : (l.take k).length = k := by rw [List.length_take]; omega
  obtain ⟨f1, f2⟩ := found_mid O (rkI ord) (A := l.take k) (k := x) (C := l.drop (k + 1)) (by rw [← hs]; exact ha)
  rw [← hs, hl] at f1
  rw [← hs] at f2
  refine ⟨?_, ?_⟩
  · unfold at?; rw [f2, f1]; simpa using hx
  · unfold del; rw [f2, f1]; rfl
theorem step_len {X : List It} {k : Nat} (h : k < X.length) : (X.eraseIdx k).length = X.length - 1 := by rw [List.length_eraseIdx, if_pos h]
theorem erase_mid {A B C : List It} {i : Nat} (hi : i < B.length) : (A ++ B ++ C).eraseIdx (A.length + i) = A ++ B.eraseIdx i ++ C := by
  rw [List.append_assoc, List.eraseIdx_append_of_length_le (by omega), Nat.add_sub_cancel_left, List.eraseIdx_append_of_lt_length hi, List.append_assoc]
/-- The nodes on a way. -/
def nds (st : List (Nat × Int)) (y : Nat) : Prop := y ∈ st.map Prod.fst
theorem node_facts {w : World} {iso : Int} {mn mx H lo0 root : Nat} {X : List It} {F0 : Nat → Nat → Prop} (ht : Tr E iso mn mx H w lo0 root X F0) {st : List (Nat × Int)} {h lo b off : Nat} {xs : List It} {Fb : Nat → Nat → Prop} (hw : Way E iso mn mx w H lo0 root X F0 st h lo b xs Fb off) (hbig : X.length ≤ 2147483648) (i : Nat) (ch : Option Addr)
    (hch : rd w b 3 = some (.pointer ch)) (h1 : rd w b 1 = some (.int .i64 (xs.length : Nat))) (hwb : wok w b 4) (hb : ch = none ∨ ∃ bc ba oa n capc z, ch = some ⟨bc, 0, none⟩ ∧ i < n ∧ rd w bc 0 = some (.slice (some ⟨ba, oa, none⟩) n capc) ∧ rd w ba (oa + i) = some (ptr z) ∧ Fb ba (oa + i) ∧ ba ≠ b) :
    ∀ (j y i' : Nat), (st ++ [(b, (i : Int))])[j]? = some (y, (i' : Int)) → ∃ (cw : Nat) (ch : Option Addr), rd w y 3 = some (.pointer ch) ∧ (rd w y 1 = some (.int .i64 (cw : Nat)) ∧ cw ≤ 2147483648) ∧ wok w y 4 ∧ (ch = none → j + 1 = (st ++ [(b, (i : Int))]).length) ∧
      ∀ ca, ch = some ca → ∃ bc ba oa n capc z, ca = ⟨bc, 0, none⟩ ∧ i' < n ∧ rd w bc 0 = some (.slice (some ⟨ba, oa, none⟩) n capc) ∧ rd w ba (oa + i') = some (ptr z) ∧ (∀ (y' : Nat) (i'' : Int), (st ++ [(b, (i : Int))])[j + 1]? = some (y', i'') → y' = z) ∧ ∀ u, nds (st ++ [(b, (i : Int))]) u → u ≠ ba := by
  intro j y i' hj
  have hself := (hw.tr ht).self
  have hfst : (st ++ [(b, (i : Int))]).map Prod.fst = st.map Prod.fst ++ [b] := by simp
  rcases Nat.lt_or_ge j st.length with hlt | hge
  · rw [List.getElem?_append_left hlt] at hj
    obtain ⟨c, c1, c2, c3⟩ := hw.cnt ht j y _ hj
    obtain ⟨bc, ba, oa, n, capc, i2, z, g1, g2, g3, g4, g5, g6, g7, g8⟩ := hw.step ht j y _ hj
    obtain rfl : i' = i2 := by omega
    refine ⟨c, some ⟨bc, 0, none⟩, g3, ⟨c1, by omega⟩, c3, fun h => (by cases h), fun ca hca => ?_⟩
    cases hca
    refine ⟨bc, ba, oa, n, capc, z, rfl, g2, g4, g5, fun y' i'' h => ?_, fun u hu => ?_⟩
    · have : ((st ++ [(b, (i : Int))]).map Prod.fst)[j + 1]? = some y' := by rw [List.getElem?_map, h]; rfl
      rw [hfst, g6] at this
      cases this; rfl
    · unfold nds at hu
      rw [hfst, List.mem_append] at hu
      rcases hu with hu | hu
      · exact g7 u hu
      · simp only [List.mem_singleton] at hu
        subst hu
        rintro rfl
        exact g8 (hself _)
  · have hj2 : j = st.length := by
      have := (List.getElem?_eq_some_iff.1 hj).1
      simp at this; omega
    subst hj2
    rw [List.getElem?_append_right (Nat.le_refl _), Nat.sub_self] at hj
    simp only [List.getElem?_cons_zero, Option.some.injEq, Prod.mk.injEq] at hj
    obtain ⟨rfl, hi⟩ := hj
    obtain rfl : i = i' := by omega
    refine ⟨xs.length, ch, hch, ⟨h1, by have := hw.le; omega⟩, hwb, fun _ => by simp, fun ca hca => ?_⟩
    rcases hb with rfl | ⟨bc, ba, oa, n, capc, z, rfl, g2, g3, g4, g5, g6⟩
    · cases hca
    · cases hca
      refine ⟨bc, ba, oa, n, capc, z, rfl, g2, g3, g4, fun y' i'' h => ?_, fun u hu => ?_⟩
      · rw [List.getElem?_eq_none (by simp)] at h; cases h
      · unfold nds at hu
        rw [hfst, List.mem_append] at hu
        rcases hu with hu | hu
        · rintro rfl
          exact hw.out _ hu _ g5
        · simp only [List.mem_singleton] at hu
          subst hu
          exact fun e => g6 e.symm
set_option maxHeartbeats 4000000 in
set_option maxRecDepth 8000 in
theorem delAtG_any (B m d : Nat) (iso : Int) (ord : List Int) (K : Int) (hd : 2 ≤ d) (hd' : d ≤ 128) (X : List It) (F : Nat → Nat → Prop) (w : World) (hM : TreeAt B ord w m d iso X F) (hbig : X.length ≤ 2147483648) :
    CallK Try.prog 140 #[ptr m, .int .i64 K] w fun v w' => v = gotG (nth X K) ∧ Ext (mapF m F) w w' ∧ ∃ F', TreeAt B ord w' m d iso (cutI X K) F' ∧ ∀ y o, F' y o → F y o ∨ w.heap.size ≤ y := by
  refine calls_of_W [.tmp 4, .tmp 5] Try.func140 rfl Try.ntmps140 Try.results140 (by simp) fun e he => ?_
  have e0 : e 0 = ptr m := he 0 _ rfl
  have e1 : e 1 = .int .i64 K := he 1 _ rfl
  clear he
  refine W_sq fun K hK => (W_text [true, true] (by kernel_rfl) ?_); simp only [↓List.toList_toArray, ↓rgd, ↓rgf, ↓reduceIte, Nat.reduceEqDiff, rg, ow_140]
  refine hK _ _ ?_; clear hK K
  refine W_scope 0 (fun _ _ _ => False) rfl ?_ (fun _ _ _ h => h.elim)
  refine W_seq ?_
  refine W_sq fun K hK => (W_text [true, false] (by kernel_rfl) ?_); simp only [↓List.toList_toArray, ↓rgd, ↓rgf, ↓reduceIte, Nat.reduceEqDiff, rg, ow_140, e0]
  refine do_call fn_118 (by simp only [evt, evc, upd_eq, Nat.reduceEqDiff, ↓reduceIte, maT, maC, maN, isnN, isnS] <;> rfl) (lock_any _ _ w) ?_
  rintro _ w0 ⟨rfl, hw0⟩
  obtain rfl : w = w0 := hw0
  refine ⟨trivial, ?_⟩
  simp only [↓List.toList_toArray, ↓rgd, ↓rgf, ↓reduceIte, Nat.reduceEqDiff, rg, ow_140]
  refine hK _ _ ?_; clear hK K
  refine W_false (by simp only [evt, evc, upd_eq, Nat.reduceEqDiff, ↓reduceIte, ntT, ntF] <;> rfl) (W_skip ?_)
  show W _ _ _ _ _ _
  refine W_seq ?_
  have hcn := hM.cnt
  rcases hM.root with ⟨hX0, hr⟩ | ⟨H, root, hr, ht⟩
  · have hK : K < 0 ∨ (X.length : Int) ≤ K := by rw [hX0]; simp; omega
    refine W_sq fun K hK => (W_text [true, true, true, true, true, true, true, true, true, true, true, true, true, true, true, true, true] (by kernel_rfl) ?_); simp only [↓List.toList_toArray, ↓rgd, ↓rgf, ↓reduceIte, Nat.reduceEqDiff, rg, ow_140, e0, e1, ptr_eq, hr]
    refine hK _ _ ?_; clear hK K
    refine W_true (by simp only [evt, evc, upd_eq, Nat.reduceEqDiff, ↓reduceIte, ntT, ntF] <;> rfl) ?_
    have z2 := zIt_at hM.cfg
    refine W_sq fun K hK => (W_text [true, true, true, true, true, true] (by kernel_rfl) ?_); simp only [↓List.toList_toArray, ↓rgd, ↓rgf, ↓reduceIte, Nat.reduceEqDiff, rg, ow_140, e0, ptr_eq, z2]
    refine hK _ _ ?_; clear hK K
    refine W_ret ?_
    simp only [andThen_ret, jump_ret]
    obtain ⟨g1, g2⟩ := cutI_off X K hK
    exact endQ_2 (by simp only [upd_eq, Nat.reduceEqDiff, ↓reduceIte] <;> rfl) (by simp only [upd_eq, Nat.reduceEqDiff, ↓reduceIte] <;> rfl) ⟨by rw [g2]; rfl, Ext.refl _ _, F, by rw [g1]; exact hM, fun _ _ g => .inl g⟩
  by_cases hK1 : K < 0
  · have hK : K < 0 ∨ (X.length : Int) ≤ K := .inl hK1
    have t1 : decide (K < 0) = true := by simp; omega
    refine W_sq fun K hK => (W_text [true, true, true, true, true, true, true, true, true, true, true, true, true, true, true, true, true] (by kernel_rfl) ?_); simp only [↓List.toList_toArray, ↓rgd, ↓rgf, ↓reduceIte, Nat.reduceEqDiff, rg, ow_140, e0, e1, ptr_eq, hr, t1]
    refine hK _ _ ?_; clear hK K
    refine W_true (by simp only [evt, evc, upd_eq, Nat.reduceEqDiff, ↓reduceIte, ntT, ntF] <;> rfl) ?_
    have z2 := zIt_at hM.cfg
    refine W_sq fun K hK => (W_text [true, true, true, true, true, true] (by kernel_rfl) ?_); simp only [↓List.toList_toArray, ↓rgd, ↓rgf, ↓reduceIte, Nat.reduceEqDiff, rg, ow_140, e0, ptr_eq, z2]
    refine hK _ _ ?_; clear hK K
    refine W_ret ?_
    simp only [andThen_ret, jump_ret]
    obtain ⟨g1, g2⟩ := cutI_off X K hK
    exact endQ_2 (by simp only [upd_eq, Nat.reduceEqDiff, ↓reduceIte] <;> rfl) (by simp only [upd_eq, Nat.reduceEqDiff, ↓reduceIte] <;> rfl) ⟨by rw [g2]; rfl, Ext.refl _ _, F, by rw [g1]; exact hM, fun _ _ g => .inl g⟩
  have t1 : decide (K < 0) = false := by simp; omega
  by_cases hK2 : (X.length : Int) ≤ K
  · have hK : K < 0 ∨ (X.length : Int) ≤ K := .inr hK2
    have t2 : decide ((X.length : Int) ≤ K) = true := by simp; omega
    refine W_sq fun K hK => (W_text [true, true, true, true, true, true, true, true, true, true, true, true, true, true, true, true, true] (by kernel_rfl) ?_); simp only [↓List.toList_toArray, ↓rgd, ↓rgf, ↓reduceIte, Nat.reduceEqDiff, rg, ow_140, e0, e1, ptr_eq, hr, t1, hcn, t2]
    refine hK _ _ ?_; clear hK K
    refine W_true (by simp only [evt, evc, upd_eq, Nat.reduceEqDiff, ↓reduceIte, ntT, ntF] <;> rfl) ?_
    have z2 := zIt_at hM.cfg
    refine W_sq fun K hK => (W_text [true, true, true, true, true, true] (by kernel_rfl) ?_); simp only [↓List.toList_toArray, ↓rgd, ↓rgf, ↓reduceIte, Nat.reduceEqDiff, rg, ow_140, e0, ptr_eq, z2]
    refine hK _ _ ?_; clear hK K
    refine W_ret ?_
    simp only [andThen_ret, jump_ret]
    obtain ⟨g1, g2⟩ := cutI_off X K hK
    exact endQ_2 (by simp only [upd_eq, Nat.reduceEqDiff, ↓reduceIte] <;> rfl) (by simp only [upd_eq, Nat.reduceEqDiff, ↓reduceIte] <;> rfl) ⟨by rw [g2]; rfl, Ext.refl _ _, F, by rw [g1]; exact hM, fun _ _ g => .inl g⟩
  have t2 : decide ((X.length : Int) ≤ K) = false := by simp; omega
  refine W_sq fun K hK => (W_text [true, true, true, true, true, true, true, true, true, true, true, true, true, true, true, true, true] (by kernel_rfl) ?_); simp only [↓List.toList_toArray, ↓rgd, ↓rgf, ↓reduceIte, Nat.reduceEqDiff, rg, ow_140, e0, e1, ptr_eq, hr, t1, hcn, t2]
  refine hK _ _ ?_; clear hK K
  refine W_false (by simp only [evt, evc, upd_eq, Nat.reduceEqDiff, ↓reduceIte, ntT, ntF] <;> rfl) (W_skip ?_)
  show W _ _ _ _ _ _
  clear t1 t2
  obtain ⟨k, rfl⟩ : ∃ k : Nat, K = k := ⟨K.toNat, by omega⟩
  have hkX : k < X.length := by omega
  have hht := ht.height (by omega) (by decide)
  refine W_sq fun K hK => (W_text [false] (by kernel_rfl) ?_); simp only [↓List.toList_toArray, ↓rgd, ↓rgf, ↓reduceIte, Nat.reduceEqDiff, rg, ow_140]
  refine do_alloc z_pb fun w1 n1 => ⟨trivial, ?_⟩
  simp only [↓List.toList_toArray, ↓rgd, ↓rgf, ↓reduceIte, Nat.reduceEqDiff, rg, ow_140]
  refine hK _ _ ?_; clear hK K
  refine W_sq fun K hK => (W_text [true, true] (by kernel_rfl) ?_); simp only [↓List.toList_toArray, ↓rgd, ↓rgf, ↓reduceIte, Nat.reduceEqDiff, rg, ow_140, sl_pb]
  refine hK _ _ ?_; clear hK K
  refine W_sq fun K hK => (W_text [true] (by kernel_rfl) ?_); simp only [↓List.toList_toArray, ↓rgd, ↓rgf, ↓reduceIte, Nat.reduceEqDiff, rg, ow_140]
  refine hK _ _ ?_; clear hK K
  have hpbn : OutE E8 w.heap.size (.slice (some ⟨w.heap.size, 0, none⟩) (0 : Nat) 8) [] w1 := ⟨⟨rfl, .inr ⟨_, 0, 8, rfl, Nat.zero_le _, Row.nil _ _ _, n1.wok.R (Nat.le_refl _)⟩⟩, fun b o n c h => by cases h; exact Nat.le_refl _⟩
  refine W_sq fun K hK => (W_text [true, true, true, true, false, true] (by kernel_rfl) ?_); simp only [↓List.toList_toArray, ↓rgd, ↓rgf, ↓reduceIte, Nat.reduceEqDiff, rg, ow_140, e0, ptr_eq]
  refine do_call fn_121 (vs := #[ptr m, .pointer (some ⟨m, 2, none⟩), .bool true]) (by simp only [evt, evc, upd_eq, Nat.reduceEqDiff, ↓reduceIte, maT, maC, maN, isnN, isnS] <;> rfl) (isoLoad_any m m 2 root true iso w1 (n1.ext.rd hM.cfg.iso fun h => h) (n1.ext.rd hr fun h => h) (n1.ext.rd ht.iso0.1 fun h => h)) ?_
  rintro _ w2 ⟨rfl, r2⟩
  refine ⟨trivial, ?_⟩
  simp only [↓List.toList_toArray, ↓rgd, ↓rgf, ↓reduceIte, Nat.reduceEqDiff, rg, ow_140]
  refine hK _ _ ?_; clear hK K
  have hO3 := hpbn.ext r2.ext
  have X3 : Ext (fun y _ => w.heap.size ≤ y) w w2 := (n1.ext.tr r2.ext).mono fun _ _ _ g => g.elim
  refine W_seq (W_label ?_)
  refine W_sqx fun J hJ => ?_
  have hback : ∀ (e : Env) (w' : World) (full : List (Nat × Int)) (x : It), X[k]? = some x → (full.map Prod.fst).Nodup → (∀ y, nds full y → ∀ o, F y o) → (∀ (y : Nat) (i : Int), full[0]? = some (y, i) → y = root) → (∀ (j y : Nat) (iv : Int), full[j]? = some (y, iv) → ∃ i : Nat, iv = (i : Int) ∧ i < 256) →
      (∀ (j y i : Nat), full[j]? = some (y, (i : Int)) → ∃ (cw : Nat) (ch : Option Addr), rd w y 3 = some (.pointer ch) ∧ (rd w y 1 = some (.int .i64 (cw : Nat)) ∧ cw ≤ 2147483648) ∧ wok w y 4 ∧ (ch = none → j + 1 = full.length) ∧
        ∀ ca, ch = some ca → ∃ bc ba oa n capc z, ca = ⟨bc, 0, none⟩ ∧ i < n ∧ rd w bc 0 = some (.slice (some ⟨ba, oa, none⟩) n capc) ∧ rd w ba (oa + i) = some (ptr z) ∧ (∀ (y' : Nat) (i' : Int), full[j + 1]? = some (y', i') → y' = z) ∧ ∀ u, nds full u → u ≠ ba) →
      full.length ≤ 2147483649 → Shift (-1) w w' (nds full) → OutE E8 w.heap.size (e 7) (full.map Prod.snd) w' → e 0 = ptr m → e 8 = itV x → J e w' := by
    clear e0 e1 e
    intro e w' full x hx hnd hDF h0 hsm hnode hfl sh hO e0 e8
    refine hJ _ _ ?_; clear hJ J
    have hpl : (full.map Prod.snd).length = full.length := List.length_map _
    have sS := sh.ext.size
    refine W_sq fun K hK => (W_text [false] (by kernel_rfl) ?_); simp only [↓List.toList_toArray, ↓rgd, ↓rgf, ↓reduceIte, Nat.reduceEqDiff, rg, ow_140]
    refine do_alloc z_hint fun w2 n2 => ⟨trivial, ?_⟩
    simp only [↓List.toList_toArray, ↓rgd, ↓rgf, ↓reduceIte, Nat.reduceEqDiff, rg, ow_140]
    refine hK _ _ ?_; clear hK K
    have hH2 := hint_new n2
    have sh2 := sh.far (n2.ext.mono fun _ _ _ g => g.elim)
    have hmD : ∀ y, nds full y → y ≠ m := fun y hy e => hM.off 0 (e ▸ hDF y hy 0)
    have hr2 := sh2.ext.rd hr (fun g => by omega)
    have hO2 := hO.ext n2.ext
    refine W_sq fun K hK => (W_text [true, true, true, true, true] (by kernel_rfl) ?_); simp only [↓List.toList_toArray, ↓rgd, ↓rgf, ↓reduceIte, Nat.reduceEqDiff, rg, ow_140, e0, ptr_eq, hr2]
    refine hK _ _ ?_; clear hK K
    refine W_seq (W_seq ?_)
    refine W_rg fun K hK => (W_text [true] (by kernel_rfl) ?_); simp only [↓List.toList_toArray, ↓rgd, ↓rgf, ↓reduceIte, Nat.reduceEqDiff, rg, ow_140]
    refine hK _ _ ?_; clear hK K
    show W _ _ _ _ _ _
    obtain ⟨pv, hpv⟩ : ∃ pv, pv = e 7 := ⟨_, rfl⟩
    have e7 : e 7 = pv := hpv.symm
    rw [← hpv] at hO2
    obtain ⟨pa, pc, hps⟩ := SlV.shape hO2.sl
    rw [hpl] at hps
    have hpsi : ∀ b' o' n' c', pv = .slice (some ⟨b', o', none⟩) n' c' → b' < w'.heap.size := fun b' o' n' c' hv => by
      rw [← hpv] at hO
      exact SlV.lt hO.sl hv
    have hn0 : ∀ (y : Nat) (i : Int), full[0]? = some (y, i) → y = root := h0
    refine W_block (W_loop (fun mm e w4 => ∃ j : Nat, mm = full.length - j ∧ j ≤ full.length ∧ e 12 = .int .i64 j ∧ e 0 = ptr m ∧ e 7 = pv ∧ e 8 = itV x ∧ e 11 = ptr w'.heap.size ∧ (∀ (y : Nat) (i : Int), full[j]? = some (y, i) → e 9 = ptr y) ∧ Shift (-1) w w4 (fun y => nds full y ∧ ∀ k', k' < j → ∀ p, full[k']? = some p → y ≠ p.1) ∧ HintAt w4 w'.heap.size ∧ OutE E8 w.heap.size pv (full.map Prod.snd) w4)
      full.length ⟨0, by simp, by simp, by simp only [upd_eq, Nat.reduceEqDiff, ↓reduceIte]; rfl, by simp only [upd_eq, Nat.reduceEqDiff, ↓reduceIte]; exact e0, by simp only [upd_eq, Nat.reduceEqDiff, ↓reduceIte]; exact e7, by simp only [upd_eq, Nat.reduceEqDiff, ↓reduceIte]; exact e8, by simp only [upd_eq, Nat.reduceEqDiff, ↓reduceIte]; rfl, fun y i hy => by simp only [upd_eq, Nat.reduceEqDiff, ↓reduceIte]; rw [hn0 y i hy]; rfl, sh2.congr fun y => ⟨fun g => g.1, fun g => ⟨g, fun k' hk' => by omega⟩⟩, hH2, hO2⟩ ?_)
    clear e0 e7 e8 hpv hO hO2 sh2 hr2 hH2 n2 sh e
    rintro mm e w4 ⟨j, rfl, hj, e12, e0, e7, e8, e11, e9, sh, hH, hO⟩
    refine W_seq ?_
    have sS4 := sh.ext.size
    by_cases hlt : j < full.length
    · have ht1 := lt_tt j full.length hlt
      refine W_sq fun K hK => (W_text [true, true, true, true] (by kernel_rfl) ?_); simp only [↓List.toList_toArray, ↓rgd, ↓rgf, ↓reduceIte, Nat.reduceEqDiff, rg, ow_140, e7, hps, e12, ht1]
      refine hK _ _ ?_; clear hK K
      refine W_true (by simp only [evt, evc, upd_eq, Nat.reduceEqDiff, ↓reduceIte, ntT, ntF] <;> rfl) (W_skip ?_)
      show W _ _ _ _ _ _
      obtain ⟨⟨y, iv⟩, hy⟩ : ∃ p, full[j]? = some p := ⟨_, List.getElem?_eq_getElem hlt⟩
      replace e9 := e9 y iv hy
      obtain ⟨i, hiv, hi256⟩ : ∃ i : Nat, iv = (i : Int) ∧ i < 256 := hsm j y iv hy
      subst hiv
      obtain ⟨qb, qo, hqa, qrow⟩ := SlV.at hO.sl (hps.trans (by rw [hpl])) (by rw [hpl]; exact hlt)
      have hqv : pv = .slice (some ⟨qb, qo, none⟩) full.length pc := by rw [hps, hqa]
      have hql := hpsi _ _ _ _ hqv
      have hqS := hO.si _ _ _ _ hqv
      have pj : (full.map Prod.snd)[j]? = some (i : Int) := by rw [List.getElem?_map, hy]; rfl
      have pr := u8V_at qrow pj
      have q12 := wadd1 j (by omega)
      refine W_seq (W_block ?_)
      refine W_sqx fun J hJ => ?_
      have hmid : ∀ (e : Env) (w5 : World), Ext (fun z _ => z = w'.heap.size) w4 w5 → HintAt w5 w'.heap.size → e 12 = .int .i64 j → e 0 = ptr m → e 7 = pv → e 8 = itV x → e 11 = ptr w'.heap.size → e 9 = ptr y → J e w5 := by
        clear e0 e7 e8 e9 e11 e12 e
        intro e w5 X5 hH5 e12 e0 e7 e8 e11 e9
        refine hJ _ _ ?_; clear hJ J
        have hDy : nds full y := by unfold nds; exact List.mem_map_of_mem (List.mem_of_getElem? hy)
        have hDj : nds full y ∧ ∀ k', k' < j → ∀ p, full[k']? = some p → y ≠ p.1 := ⟨hDy, fun k' hk' p hp e => by
          have h1 : (full.map Prod.fst)[k']? = some p.1 := by rw [List.getElem?_map, hp]; rfl
          have h2 : (full.map Prod.fst)[j]? = some y := by rw [List.getElem?_map, hy]; rfl
          obtain ⟨a1, a2⟩ := List.getElem?_eq_some_iff.1 h1
          obtain ⟨b1, b2⟩ := List.getElem?_eq_some_iff.1 h2
          exact List.pairwise_iff_getElem.1 hnd k' j a1 b1 hk' (by rw [a2, b2, ← e])⟩
        have sh5 := sh.far (X5.mono fun z _ _ g => by omega)
        obtain ⟨cn, c1, c2⟩ := sh5.cnt y hDj
        have hyl : y < w.heap.size := hM.lt y 0 (hDF y hDy 0)
        obtain ⟨cw, chy, hcw, hck, hyw, hcb⟩ := hnode j y i hy
        have hcn : cn = (cw : Int) := by
          have := c1.symm.trans hck.1
          simp only [Option.some.injEq, Value.int.injEq, true_and] at this
          exact this
        have hcl := hck.2
        have q1 : IntKind.i64.wrap (cn + -1 + 1) = cn := by rw [IntWalk.i64_in _ (by omega)]; omega
        refine W_sq fun K hK => (W_text [true, true, true, true, true, true, true, false] (by kernel_rfl) ?_); simp only [↓List.toList_toArray, ↓rgd, ↓rgf, ↓reduceIte, Nat.reduceEqDiff, rg, ow_140, e9, ptr_eq, c2, q1]
        refine do_store (v := .int .i64 cn) (by simp only [evt, evc, upd_eq, Nat.reduceEqDiff, ↓reduceIte, ntT, ntF] <;> rfl) (by simp only [evt, evc, upd_eq, Nat.reduceEqDiff, ↓reduceIte, ntT, ntF] <;> rfl) sz_3 rfl (sh5.ext.wok hyw) (by decide) (oc_one rfl rfl) fun w6 x6 r6 s6 => ⟨trivial, ?_⟩
        simp only [↓List.toList_toArray, ↓rgd, ↓rgf, ↓reduceIte, Nat.reduceEqDiff, rg, ow_140]
        refine hK _ _ ?_; clear hK K
        have sh6 := sh5.undo hDj c1 x6 (Row.cons.1 r6).1
        have hH6 := hH5.ext x6 fun o g => by have := g.1; omega
        have O6 := (hO.low (B := w.heap.size) (G := noF) (Ext.refl _ _) fun _ _ g => g.elim)
        have O6 : OutE E8 w.heap.size pv (full.map Prod.snd) w6 := ⟨(hO.sl.ext X5 fun b o cap hv p _ g => by have := hpsi _ _ _ _ hv; omega).ext x6 fun b o cap hv p _ g => by have := hO.si _ _ _ _ hv; have := g.1; omega, hO.si⟩
        have shN : Shift (-1) w w6 (fun z => nds full z ∧ ∀ k', k' < j + 1 → ∀ p, full[k']? = some p → z ≠ p.1) := sh6.congr fun z => ⟨fun g => ⟨⟨g.1, fun k' hk' => g.2 k' (by omega)⟩, g.2 j (by omega) _ hy⟩, fun g => ⟨g.1.1, fun k' hk' p hp => by
          rcases Nat.lt_or_ge k' j with h | h
          · exact g.1.2 k' h p hp
          · obtain rfl : k' = j := by omega
            rw [hy] at hp; cases hp; exact g.2⟩⟩
        have hch6 := shN.ext.rd hcw (fun g => by omega)
        refine W_sq fun K hK => (W_text [true, false, true] (by kernel_rfl) ?_); simp only [↓List.toList_toArray, ↓rgd, ↓rgf, ↓reduceIte, Nat.reduceEqDiff, rg, ow_140, e9]
        refine do_call fn_122 (by simp only [evt, evc, upd_eq, Nat.reduceEqDiff, ↓reduceIte, maT, maC, maN, isnN, isnS] <;> rfl) (leaf_any y chy w6 hch6) ?_
        rintro _ w7 ⟨rfl, hw7⟩
        obtain rfl : w6 = w7 := hw7.symm
        refine ⟨trivial, ?_⟩
        simp only [↓List.toList_toArray, ↓rgd, ↓rgf, ↓reduceIte, Nat.reduceEqDiff, rg, ow_140]
        refine hK _ _ ?_; clear hK K
        cases chy with
        | none =>
          refine W_false (by simp only [evt, evc, upd_eq, Nat.reduceEqDiff, ↓reduceIte, ntT, ntF] <;> rfl) (W_skip ?_)
          have hlast := hcb.1 rfl
          show W _ _ _ _ _ _
          refine W_rg fun K hK => (W_text [true, true, true] (by kernel_rfl) ?_); simp only [↓List.toList_toArray, ↓rgd, ↓rgf, ↓reduceIte, Nat.reduceEqDiff, rg, ow_140, e12, q12]
          refine hK _ _ ?_; clear hK K
          refine ⟨_, ?_, j + 1, rfl, hlt, by simp only [upd_eq, Nat.reduceEqDiff, ↓reduceIte], by simp only [upd_eq, Nat.reduceEqDiff, ↓reduceIte]; exact e0, by simp only [upd_eq, Nat.reduceEqDiff, ↓reduceIte]; exact e7, by simp only [upd_eq, Nat.reduceEqDiff, ↓reduceIte]; exact e8, by simp only [upd_eq, Nat.reduceEqDiff, ↓reduceIte]; exact e11, fun y' i' hy' => by
              have := (List.getElem?_eq_some_iff.1 hy').1
              omega, by first | exact shN | exact shN.ro (RO.dr _ _), by first | exact hH6 | exact hH6.ext (Ext.dr noF _ _) fun _ h => h, by first | exact O6 | exact O6.ext (Ext.dr _ _ _)⟩
          omega
        | some ca =>
          obtain ⟨bc, ba, oa, n, capc, z, rfl, hin, k1, k2, k3, k4⟩ := hcb.2 ca rfl
          refine W_true (by simp only [evt, evc, upd_eq, Nat.reduceEqDiff, ↓reduceIte, ntT, ntF] <;> rfl) ?_
          have k1' := shN.ext.rd k1 (fun g => by omega)
          have k2' := shN.ext.rd k2 (fun g => k4 ba g.2.1 rfl)
          have qr6 := u8V_at ((x6.row (X5.row qrow fun p _ g => by omega) fun p _ g => by have := g.1; omega)) pj
          refine W_rg fun K hK => (W_draw (some none) none [(0, 0, 0), (0, 1, 0), (0, 2, 0), (0, 3, 0), (0, 4, 0), (0, 5, 0), (0, 6, 0), (0, 7, 0), (0, 8, 0), (0, 9, 0), (0, 10, 0), (0, 11, 0), (0, 12, 0)] mixed (by kernel_rfl) ?_); simp only [↓List.toList_toArray, ↓rgd, ↓rgf, ↓reduceIte, Nat.reduceEqDiff, rg, ow_140, e7, e9, e12, hqv, ptr_eq, hch6, k1', k2', hlt, hin, qr6]
          refine hK _ _ ?_; clear hK K
          show W _ _ _ _ _ _
          refine W_rg fun K hK => (W_text [true, true, true] (by kernel_rfl) ?_); simp only [↓List.toList_toArray, ↓rgd, ↓rgf, ↓reduceIte, Nat.reduceEqDiff, rg, ow_140, e12, q12]
          refine hK _ _ ?_; clear hK K
          refine ⟨_, ?_, j + 1, rfl, hlt, by simp only [upd_eq, Nat.reduceEqDiff, ↓reduceIte], by simp only [upd_eq, Nat.reduceEqDiff, ↓reduceIte]; exact e0, by simp only [upd_eq, Nat.reduceEqDiff, ↓reduceIte]; exact e7, by simp only [upd_eq, Nat.reduceEqDiff, ↓reduceIte]; exact e8, by simp only [upd_eq, Nat.reduceEqDiff, ↓reduceIte]; exact e11, fun y' i' hy' => by simp only [upd_eq, Nat.reduceEqDiff, ↓reduceIte]; rw [k3 y' i' hy']; rfl, by first | exact shN | exact shN.ro (RO.dr _ _), by first | exact hH6 | exact hH6.ext (Ext.dr noF _ _) fun _ h => h, by first | exact O6 | exact O6.ext (Ext.dr _ _ _)⟩
          omega
      clear hJ
      by_cases h8 : j < 8
      · have t8 : decide ((j : Int) < 8) = true := by simp; omega
        refine W_sq fun K hK => (W_text [true, true] (by kernel_rfl) ?_); simp only [↓List.toList_toArray, ↓rgd, ↓rgf, ↓reduceIte, Nat.reduceEqDiff, rg, ow_140, e12, t8]
        refine hK _ _ ?_; clear hK K
        refine W_true (by simp only [evt, evc, upd_eq, Nat.reduceEqDiff, ↓reduceIte, ntT, ntF] <;> rfl) ?_
        refine W_sq fun K hK => (W_text [true, true, true, true, true, true, true, false] (by kernel_rfl) ?_); simp only [↓List.toList_toArray, ↓rgd, ↓rgf, ↓reduceIte, Nat.reduceEqDiff, rg, ow_140, e7, e11, e12, hqv, hlt, ptr_eq, pr, idx_ar, idxA_s, h8]
        refine do_store (v := .int .u8 (i : Int)) (by simp only [evt, evc, upd_eq, Nat.reduceEqDiff, ↓reduceIte, ntT, ntF] <;> rfl) (by simp only [evt, evc, upd_eq, Nat.reduceEqDiff, ↓reduceIte, ntT, ntF] <;> rfl) sz_5 rfl hH.wok (by omega) (oc_one rfl rfl) fun w5 x5 r5 s5 => ⟨trivial, ?_⟩
        simp only [↓List.toList_toArray, ↓rgd, ↓rgf, ↓reduceIte, Nat.reduceEqDiff, rg, ow_140]
        refine hK _ _ ?_; clear hK K
        have hH5 := hH.setP (i := j) (p := i) (by simpa using x5) (by simpa using (Row.cons.1 r5).1) hi256
        refine W_rg fun K hK => (W_text [true, true, true, false] (by kernel_rfl) ?_); simp only [↓List.toList_toArray, ↓rgd, ↓rgf, ↓reduceIte, Nat.reduceEqDiff, rg, ow_140, e11, e12, ptr_eq, idx_ar, idxA_s, h8]
        refine do_store (v := .bool true) (by simp only [evt, evc, upd_eq, Nat.reduceEqDiff, ↓reduceIte, ntT, ntF] <;> rfl) (by simp only [evt, evc, upd_eq, Nat.reduceEqDiff, ↓reduceIte, ntT, ntF] <;> rfl) sz_4 rfl hH5.wok (by omega) (oc_one rfl rfl) fun w6 x6 r6 s6 => ⟨trivial, ?_⟩
        simp only [↓List.toList_toArray, ↓rgd, ↓rgf, ↓reduceIte, Nat.reduceEqDiff, rg, ow_140]
        refine hK _ _ ?_; clear hK K
        have hH6 := hH5.setU (i := j) (by simpa using x6) (by simpa using (Row.cons.1 r6).1) h8
        exact hmid _ w6 ((x5.mono fun z o _ g => g.1).tr (x6.mono fun z o _ g => g.1)) hH6 (by simp only [upd_eq, Nat.reduceEqDiff, ↓reduceIte]; exact e12) (by simp only [upd_eq, Nat.reduceEqDiff, ↓reduceIte]; exact e0) (by simp only [upd_eq, Nat.reduceEqDiff, ↓reduceIte]; exact e7) (by simp only [upd_eq, Nat.reduceEqDiff, ↓reduceIte]; exact e8) (by simp only [upd_eq, Nat.reduceEqDiff, ↓reduceIte]; exact e11) (by simp only [upd_eq, Nat.reduceEqDiff, ↓reduceIte]; exact e9)
      · have t8 : decide ((j : Int) < 8) = false := by simp; omega
        refine W_sq fun K hK => (W_text [true, true] (by kernel_rfl) ?_); simp only [↓List.toList_toArray, ↓rgd, ↓rgf, ↓reduceIte, Nat.reduceEqDiff, rg, ow_140, e12, t8]
        refine hK _ _ ?_; clear hK K
        refine W_false (by simp only [evt, evc, upd_eq, Nat.reduceEqDiff, ↓reduceIte, ntT, ntF] <;> rfl) (W_skip ?_)
        exact hmid _ w4 (Ext.refl _ _) hH (by simp only [upd_eq, Nat.reduceEqDiff, ↓reduceIte]; exact e12) (by simp only [upd_eq, Nat.reduceEqDiff, ↓reduceIte]; exact e0) (by simp only [upd_eq, Nat.reduceEqDiff, ↓reduceIte]; exact e7) (by simp only [upd_eq, Nat.reduceEqDiff, ↓reduceIte]; exact e8) (by simp only [upd_eq, Nat.reduceEqDiff, ↓reduceIte]; exact e11) (by simp only [upd_eq, Nat.reduceEqDiff, ↓reduceIte]; exact e9)
    · obtain rfl : j = full.length := by omega
      have ht1 := lt_ff full.length full.length (by omega)
      refine W_sq fun K hK => (W_text [true, true, true, true] (by kernel_rfl) ?_); simp only [↓List.toList_toArray, ↓rgd, ↓rgf, ↓reduceIte, Nat.reduceEqDiff, rg, ow_140, e7, hps, e12, ht1]
      refine hK _ _ ?_; clear hK K
      refine W_false (by simp only [evt, evc, upd_eq, Nat.reduceEqDiff, ↓reduceIte, ntT, ntF] <;> rfl) (W_exit ?_)
      simp only [andThen_exit, inBlk_exit, andThen_normal, Nat.reduceEqDiff, ↓reduceIte]
      have X0 : Ext noF w w4 := sh.ext.mono fun y o _ g => by
        obtain ⟨-, h1, h2⟩ := g
        unfold nds at h1
        obtain ⟨p, hp, rfl⟩ := List.mem_map.1 h1
        obtain ⟨j', hj'⟩ := List.getElem?_of_mem hp
        exact h2 j' (List.getElem?_eq_some_iff.1 hj').1 p hj' rfl
      have hM4 := hM.ext X0
      obtain ⟨f1, f2⟩ := del_idx hM.asc hx
      refine W_sq fun K hK => (W_text [true, true, false, true, true, true, true] (by kernel_rfl) ?_); simp only [↓List.toList_toArray, ↓rgd, ↓rgf, ↓reduceIte, Nat.reduceEqDiff, rg, ow_140, e0, e8, e11]
      refine do_call fn_167 (vs := #[ptr m, itV x, hV (some w'.heap.size)]) (by simp only [evt, evc, upd_eq, Nat.reduceEqDiff, ↓reduceIte, maT, maC, maN, isnN, isnS, e11] <;> rfl) (delH_any B m d iso ord x (some w'.heap.size) hd hd' X F w4 hM4 (by omega) (fun hb h => by cases h; exact hH) fun hb h => by
        cases h
        exact ⟨by have := hM.mlt; omega, fun o g => by have := hM.lt _ _ g; omega⟩) ?_
      rintro _ w5 ⟨rfl, x5, -, F5, hM5, hF5⟩
      refine ⟨trivial, ?_⟩
      rw [f1, gotG_eq]
      simp only [↓List.toList_toArray, ↓rgd, ↓rgf, ↓reduceIte, Nat.reduceEqDiff, rg, ow_140]
      refine hK _ _ ?_; clear hK K
      rw [f2] at hM5
      refine W_ret ?_
      simp only [andThen_ret, inBlk_ret, jump_ret]
      refine endQ_2 (by simp only [upd_eq, Nat.reduceEqDiff, ↓reduceIte] <;> rfl) (by simp only [upd_eq, Nat.reduceEqDiff, ↓reduceIte] <;> rfl) ⟨by rw [nth_n, hx]; rfl, X0.trans x5 (fun _ _ g => g.elim) fun y o hy g => g.elim id fun g => by (have : w'.heap.size = y := by cases g; rfl); omega, F5, by rw [cutI_nat]; exact hM5, fun y o g => (hF5 y o g).imp id fun g => by have := X0.size; omega⟩
  clear hJ
  clear hpbn
  refine W_block (W_loop (fun mm e w' => ∃ (st : List (Nat × Int)) (lo b off J : Nat) (xs : List It) (Fb : Nat → Nat → Prop), Way E iso (d - 1) (2 * d - 1) w H 1 root X F st mm lo b xs Fb off ∧ k = off + J ∧ J < xs.length ∧ (∀ (j y : Nat) (iv : Int), st[j]? = some (y, iv) → ∃ i : Nat, iv = (i : Int) ∧ i < 256) ∧ Shift (-1) w w' (nds st) ∧ OutE E8 w.heap.size (e 7) (st.map Prod.snd) w' ∧ e 0 = ptr m ∧ e 1 = .int .i64 J ∧ e 9 = ptr b)
    H ⟨[], 1, root, 0, k, X, F, .root, by omega, hkX, fun j y iv h => by simp at h, (Shift.nil (-1) w).far X3 |>.congr fun y => by unfold nds; simp, by simp only [upd_eq, Nat.reduceEqDiff, ↓reduceIte]; exact hO3, by simp only [upd_eq, Nat.reduceEqDiff, ↓reduceIte]; exact e0, by simp only [upd_eq, Nat.reduceEqDiff, ↓reduceIte]; exact e1, by simp only [upd_eq, Nat.reduceEqDiff, ↓reduceIte]⟩ ?_)
  clear e0 e1 hO3 X3 e
  rintro mm e w' ⟨st, lo, b, off, i, xs, Fb, hw, hk, hJ, hsm, sh, hO, e0, e1, e9⟩
  obtain ⟨bi, oi, cap, ks, ch, ho, h1, h2, hoF, hin⟩ := (hw.tr ht).open
  have hlo := hw.lo (by decide) (by omega : 1 ≤ d - 1)
  have hout := hw.out
  have hself := (hw.tr ht).self
  have hsubF := hw.sub
  have hxl := hw.le
  have hwl := hw.len
  have hDb : ¬ nds st b := fun g => hout b g 0 (hself 0)
  have hbF : ∀ o, F b o := fun o => hsubF b o (hself o)
  have hbl : b < w.heap.size := hM.lt b 0 (hbF 0)
  have hDF : ∀ y, nds st y → ∀ o, F y o := by
    intro y hy
    unfold nds at hy
    obtain ⟨p, hp, rfl⟩ := List.mem_map.1 hy
    obtain ⟨j, hj⟩ := List.getElem?_of_mem hp
    exact hw.nodeF ht j p.1 p.2 hj
  have q1 : IntKind.i64.wrap ((xs.length : Int) - 1) = (xs.length : Int) + -1 := by rw [IntWalk.i64_in _ (by omega)]; omega
  have c1 := sh.ext.rd ho.h1 (fun g => hDb g.2)
  have sS := sh.ext.size
  refine W_block ?_
  refine W_sq fun K hK => (W_text [true, true, true, true, true, true, true, false] (by kernel_rfl) ?_); simp only [↓List.toList_toArray, ↓rgd, ↓rgf, ↓reduceIte, Nat.reduceEqDiff, rg, ow_140, e9, ptr_eq, c1, q1]
  refine do_store (v := .int .i64 ((xs.length : Int) + -1)) (by simp only [evt, evc, upd_eq, Nat.reduceEqDiff, ↓reduceIte, ntT, ntF] <;> rfl) (by simp only [evt, evc, upd_eq, Nat.reduceEqDiff, ↓reduceIte, ntT, ntF] <;> rfl) sz_3 rfl (sh.ext.wok ho.wb) (by decide) (oc_one rfl rfl) fun w4 x4 r4 s4 => ⟨trivial, ?_⟩
  simp only [↓List.toList_toArray, ↓rgd, ↓rgf, ↓reduceIte, Nat.reduceEqDiff, rg, ow_140]
  refine hK _ _ ?_; clear hK K
  have b1 : rd w4 b 1 = some (.int .i64 (xs.length + -1 : Int)) := (Row.cons.1 r4).1
  have sh4 := sh.add hDb ho.h1 x4 b1
  obtain ⟨pv, hpv⟩ : ∃ pv, pv = e 7 := ⟨_, rfl⟩
  have e7 : e 7 = pv := hpv.symm
  rw [← hpv] at hO
  have hO4 := hO.low x4 fun y o g => by have := g.1; omega
  have hX4 : ∀ y o, Fb y o → y ≠ b ∨ o ≠ 1 → ¬ (o = 1 ∧ (nds st y ∨ y = b)) := fun y o g h k => by
    rcases k.2 with k2 | k2
    · exact hout y k2 o g
    · rcases h with h | h
      · exact h k2
      · exact h k.1
  have ho4h2 := sh4.ext.rd ho.h2 (fun g => by omega)
  have ho4h3 := sh4.ext.rd ho.h3 (fun g => by omega)
  have sS4 := sh4.ext.size
  have hstl : st.length ≤ 2147483648 := by omega
  refine W_seq ?_
  have ho' := ho.ext sh.ext fun y o g hh => hout y hh.2 o (hoF y o g)
  have o4 := ho'.cnt' x4 b1
  rcases Nat.eq_zero_or_pos mm with hm0 | hm0
  · subst hm0
    obtain ⟨rfl, rfl⟩ : ch = .pointer none ∧ xs = ks := by
      rcases hin with ⟨_, g1, g2, _⟩ | ⟨_, _, _, _, _, _, h0', _⟩
      · exact ⟨g1, g2⟩
      · cases h0'
    refine W_sq fun K hK => (W_text [true, false] (by kernel_rfl) ?_); simp only [↓List.toList_toArray, ↓rgd, ↓rgf, ↓reduceIte, Nat.reduceEqDiff, rg, ow_140, e9]
    refine do_call fn_122 (by simp only [evt, evc, upd_eq, Nat.reduceEqDiff, ↓reduceIte, maT, maC, maN, isnN, isnS] <;> rfl) (leaf_any b none w4 o4.h3) ?_
    rintro _ w5 ⟨rfl, hw5⟩
    obtain rfl : w4 = w5 := hw5.symm
    refine ⟨trivial, ?_⟩
    simp only [↓List.toList_toArray, ↓rgd, ↓rgf, ↓reduceIte, Nat.reduceEqDiff, rg, ow_140]
    refine hK _ _ ?_; clear hK K
    refine W_true (by simp only [evt, evc, upd_eq, Nat.reduceEqDiff, ↓reduceIte, ntT, ntF] <;> rfl) ?_
    obtain ⟨x, hxJ⟩ : ∃ x, xs[i]? = some x := ⟨_, List.getElem?_eq_getElem hJ⟩
    have hXk : X[k]? = some x := by rw [hk, hw.get hJ]; exact hxJ
    have hkv := it_at o4.row hxJ
    refine W_sq fun K hK => (W_text [true, true, true, true, true, true, true, true] (by kernel_rfl) ?_); simp only [↓List.toList_toArray, ↓rgd, ↓rgf, ↓reduceIte, Nat.reduceEqDiff, rg, ow_140, e1, e9, ptr_eq, o4.h2, hJ, hkv]
    refine hK _ _ ?_; clear hK K
    have c4 : Cfg w4 m iso d := hM.cfg.ext sh4.ext fun o _ _ g => g.2.elim (fun g => hM.off 0 (hDF m g 0)) fun g => hM.off 0 (g ▸ hbF 0)
    have hmn := c4.mn
    refine W_seq ?_
    by_cases hmin : xs.length = d - 1
    · have t1 : ((xs.length : Int) == ((d - 1 : Nat) : Int)) = true := by simp; omega
      refine W_sq fun K hK => (W_draw (some none) none [(0, 0, 0), (0, 1, 0), (0, 2, 0), (0, 3, 0), (0, 4, 0), (0, 5, 0), (0, 6, 0), (0, 7, 0), (0, 8, 0), (0, 9, 0)] mixed (by kernel_rfl) ?_); simp only [↓List.toList_toArray, ↓rgd, ↓rgf, ↓reduceIte, Nat.reduceEqDiff, rg, ow_140, e0, e9, ptr_eq, o4.h2, hmn, t1]
      refine hK _ _ ?_; clear hK K
      refine W_true (by simp only [evt, evc, upd_eq, Nat.reduceEqDiff, ↓reduceIte, ntT, ntF] <;> rfl) ?_
      have u1 := u8_in i (by omega)
      have D4 : Ext noF w4 (dr w4 (w4.drawn + 1)) := Ext.dr _ _ _
      have hO4 := hO4.ext D4
      have sh4 := sh4.ro (RO.dr w4 (w4.drawn + 1))
      have sS4 := sh4.ext.size
      generalize dr w4 (w4.drawn + 1) = w4 at hO4 sh4 sS4 ⊢
      refine W_sq fun K hK => (W_text [true, true, true, false, false, true] (by kernel_rfl) ?_); simp only [↓List.toList_toArray, ↓rgd, ↓rgf, ↓reduceIte, Nat.reduceEqDiff, rg, ow_140, e1, e7, u1]
      refine do_bsl rfl (bs_u1 _) fun w5 n5 => ⟨trivial, ?_⟩
      simp only [↓List.toList_toArray, ↓rgd, ↓rgf, ↓reduceIte, Nat.reduceEqDiff, rg, ow_140, e7]
      refine do_append (by simp only [evt, evc, upd_eq, Nat.reduceEqDiff, ↓reduceIte, ntT, ntF] <;> rfl) (by simp only [evt, evc, upd_eq, Nat.reduceEqDiff, ↓reduceIte, ntT, ntF] <;> rfl) el_u8 rfl ni_u8 (hO4.ext n5.ext).sl (u := .slice (some ⟨w4.heap.size, 0, none⟩) 1 1) (m := 1) (l' := E8.cel ((i : Nat) : Int)) ⟨rfl, .inr ⟨_, 0, 1, rfl, Nat.le_refl _, n5.row, n5.wok.R (Nat.le_refl _)⟩⟩ (by rw [List.length_map]; omega) (by decide) (E8.one _) fun v6 w6 a6 => ⟨trivial, ?_⟩
      have s5 := n5.size
      obtain ⟨hO6, X6⟩ := (hO4.ext n5.ext).app (E := E8) a6 (by omega)
      simp only [↓List.toList_toArray, ↓rgd, ↓rgf, ↓reduceIte, Nat.reduceEqDiff, rg, ow_140]
      refine hK _ _ ?_; clear hK K
      have XP : Ext (fun y _ => w.heap.size ≤ y) w4 w6 := (n5.ext.mono fun _ _ _ g => g.elim).tr X6
      have sh6 := sh4.far XP
      refine W_exit ?_
      simp only [andThen_exit, inBlk_exit, andThen_normal, Nat.reduceEqDiff, ↓reduceIte]
      exact hback _ w6 (st ++ [(b, ((i : Nat) : Int))]) x hXk (by rw [List.map_append]; exact hw.nodup ht)
          (fun y hy o => by
            unfold nds at hy
            rw [List.map_append, List.mem_append] at hy
            rcases hy with hy | hy
            · exact hDF y hy o
            · simp only [List.map_cons, List.map_nil, List.mem_singleton] at hy
              rw [hy]; exact hbF o)
          (fun y i h => hw.first _ y i h)
          (fun j y iv h => by
            rcases Nat.lt_or_ge j st.length with hlt | hge
            · rw [List.getElem?_append_left hlt] at h; exact hsm j y iv h
            · have : j = st.length := by have := (List.getElem?_eq_some_iff.1 h).1; simp at this; omega
              subst this
              rw [List.getElem?_append_right (Nat.le_refl _), Nat.sub_self] at h
              simp only [List.getElem?_cons_zero, Option.some.injEq, Prod.mk.injEq] at h
              exact ⟨_, h.2.symm, by omega⟩)
          (node_facts ht hw hbig i none ho.h3 ho.h1 ho.wb (.inl rfl))
          (by rw [List.length_append, List.length_singleton]; omega)
          (sh6.congr fun y => by unfold nds; rw [List.map_append, List.mem_append]; simp only [List.map_cons, List.map_nil, List.mem_singleton])
          (by simp only [upd_eq, Nat.reduceEqDiff, ↓reduceIte]; rw [List.map_append]; exact hO6) (by simp only [upd_eq, Nat.reduceEqDiff, ↓reduceIte]; exact e0) (by simp only [upd_eq, Nat.reduceEqDiff, ↓reduceIte])
    have t1 : ((xs.length : Int) == ((d - 1 : Nat) : Int)) = false := by simp; omega
    refine W_sq fun K hK => (W_draw (some none) none [(0, 0, 0), (0, 1, 0), (0, 2, 0), (0, 3, 0), (0, 4, 0), (0, 5, 0), (0, 6, 0), (0, 7, 0), (0, 8, 0), (0, 9, 0)] mixed (by kernel_rfl) ?_); simp only [↓List.toList_toArray, ↓rgd, ↓rgf, ↓reduceIte, Nat.reduceEqDiff, rg, ow_140, e0, e9, ptr_eq, o4.h2, hmn, t1]
    refine hK _ _ ?_; clear hK K
    refine W_false (by simp only [evt, evc, upd_eq, Nat.reduceEqDiff, ↓reduceIte, ntT, ntF] <;> rfl) (W_skip ?_)
    show W _ _ _ _ _ _
    have D4 : Ext noF w4 (dr w4 (w4.drawn + 1)) := Ext.dr _ _ _
    have o3 := o4.ext D4 fun _ _ _ g => g
    have c3 := c4.ext D4 fun _ _ _ g => g
    have XW3 : Ext (fun y o => Fb y o ∨ (o = 1 ∧ nds st y)) w w4 := sh4.ext.mono fun y o _ g => g.2.elim (fun h => .inr ⟨g.1, h⟩) fun h => .inl (h ▸ hself o)
    have XW3 := XW3.tr (D4.mono fun _ _ _ g => g.elim)
    have hcn3 : ∀ y, nds st y → ∃ c : Int, rd w y 1 = some (.int .i64 c) ∧ rd (dr w4 (w4.drawn + 1)) y 1 = some (.int .i64 (c + -1)) := fun y hy => by
      obtain ⟨c, a1, a2⟩ := sh4.cnt y (.inl hy)
      exact ⟨c, a1, D4.rd a2 fun h => h⟩
    generalize dr w4 (w4.drawn + 1) = w3 at o3 c3 XW3 hcn3 ⊢
    have hi := hJ
    have X5 : Ext noF w3 w3 := Ext.refl _ _
    have o5 := o3.ext X5 fun _ _ _ g => g
    have hmo : ∀ o, ¬ ownF E b bi oi cap m o := fun o g => hM.off o (hsubF _ _ (hoF _ _ g))
    have q1 := wadd1 i (by omega)
    have hcap := ho.le
    have i1 : i ≤ xs.length := by omega
    have i2 : i + 1 ≤ xs.length := by omega
    obtain ⟨o1, h1, h1', -, k1⟩ := o5.se.from E_sz i i1
    have h1' := h1' (by omega)
    try simp only [Nat.mul_one] at h1'
    subst h1'
    obtain ⟨o2, h2, -, v2, -⟩ := o5.se.from E_sz (i + 1) i2
    refine W_sq fun K hK => (W_draw (some none) (some 13) [(0, 0, 0), (0, 1, 0), (0, 2, 0), (0, 3, 0), (0, 4, 0), (0, 5, 0), (0, 6, 0), (0, 7, 0), (0, 8, 0), (0, 9, 0), (0, 10, 0), (0, 11, 0), (0, 12, 0), (1, 13, 0)] mixed (by kernel_rfl) ?_); simp only [↓List.toList_toArray, ↓rgd, ↓rgf, ↓reduceIte, Nat.reduceEqDiff, rg, ow_140, e9, e1, ptr_eq, o5.h2, q1, i1, i2, h1, h2]
    refine do_copy (by simp only [evt, evc, upd_eq, Nat.reduceEqDiff, ↓reduceIte, ntT, ntF] <;> rfl) (by simp only [evt, evc, upd_eq, Nat.reduceEqDiff, ↓reduceIte, ntT, ntF] <;> rfl) rb_eli (SlV.ext0 v2 (Ext.dr noF w3 (w3.drawn + 1))) ((Ext.dr noF w3 (w3.drawn + 1)).wok k1) (flat_oc E _) fun w6 x6 r6 s6 => ⟨(by first | exact trivial | exact .inl trivial), ?_⟩
    simp only [↓List.toList_toArray, ↓rgd, ↓rgf, ↓reduceIte, Nat.reduceEqDiff, rg, ow_140]
    refine hK _ _ ?_; clear hK K
    have hmn : min (xs.length - (i + 1)) (xs.length - i) = xs.length - 1 - i := by omega
    rw [hmn] at x6 r6
    rw [List.take_of_length_le (by rw [flat_length, List.length_drop, E_sz]; omega)] at r6
    obtain ⟨z, g1, g2⟩ := o5.se.down (i := i) hi (by simp only [E_sz, Nat.mul_one]; (try simp only [Nat.mul_one] at x6); exact x6.od) (by simp only [E_sz, Nat.mul_one]; (try simp only [Nat.mul_one] at r6); exact r6)
    have o6 := o5.step g1 g2
    have X6 : Ext (ownF E b bi oi cap) w3 w6 := X5.trans g2 (fun _ _ g => g.elim) fun _ _ _ g => seF_own g
    have le := List.length_eraseIdx_of_lt hi
    have hA : (xs.eraseIdx i ++ [z]).length = xs.length := by rw [List.length_append, List.length_singleton]; omega
    have h26 := o6.h2
    have h46 := o6.le
    rw [hA] at h26 h46
    have q2 := wsub1 xs.length (by omega) (by omega)
    have i3 : xs.length - 1 < xs.length := by omega
    have z6 := zIt_at (c3.ext X6 fun o _ _ => hmo o)
    refine W_sq fun K hK => (W_draw (some none) (some 15) [(0, 0, 0), (0, 1, 0), (0, 2, 0), (0, 3, 0), (0, 4, 0), (0, 5, 0), (0, 6, 0), (0, 7, 0), (0, 8, 0), (0, 9, 0), (0, 10, 0), (0, 11, 0), (0, 12, 0), (0, 13, 0), (0, 14, 0), (1, 15, 0)] mixed (by kernel_rfl) ?_); simp only [↓List.toList_toArray, ↓rgd, ↓rgf, ↓reduceIte, Nat.reduceEqDiff, rg, ow_140, e0, e9, ptr_eq, h26, q2, i3, z6]
    refine do_store (by simp only [evt, evc, upd_eq, Nat.reduceEqDiff, ↓reduceIte, ntT, ntF] <;> rfl) (by simp only [evt, evc, upd_eq, Nat.reduceEqDiff, ↓reduceIte, ntT, ntF] <;> rfl) sz_20 (rb_len none) o6.wi (by rw [E_sz]; omega) (rb_oc none) fun w7 x7 r7 s7 => ⟨(by first | exact trivial | exact .inl trivial), ?_⟩
    simp only [↓List.toList_toArray, ↓rgd, ↓rgf, ↓reduceIte, Nat.reduceEqDiff, rg, ow_140]
    refine hK _ _ ?_; clear hK K
    have o6z := o6.z
    have hAz : ((xs.eraseIdx i ++ [z]).map some).length = xs.length := by rw [List.length_map]; exact hA
    obtain ⟨g3, g4⟩ := o6z.se.set (i := xs.length - 1) (x := none) (by rw [hAz]; omega) (by simp only [Ez_sz, Nat.mul_one]; exact x7.od) (by simp only [Ez_sz, Nat.mul_one]; first | exact r7 | exact (rb_cel _) ▸ r7)
    rw [show ((xs.eraseIdx i ++ [z]).map some).set (xs.length - 1) none = (xs.eraseIdx i).map some ++ [none] by rw [List.map_append, show xs.length - 1 = ((xs.eraseIdx i).map some).length by rw [List.length_map]; omega]; exact set_last] at g3
    have o7 := o6z.step g3 g4
    have X7 : Ext (ownF E b bi oi cap) w3 w7 := X6.tr (g4.mono fun _ _ _ g => seF_own g)
    have hA' : ((xs.eraseIdx i).map some ++ [(none : Option It)]).length = xs.length := by rw [List.length_append, List.length_singleton, List.length_map]; omega
    have h27 := o7.h2
    rw [hA'] at h27
    have i4 : xs.length - 1 ≤ cap := by omega
    refine W_sq fun K hK => (W_draw (some none) (some 14) [(0, 0, 0), (0, 1, 0), (0, 2, 0), (0, 3, 0), (0, 4, 0), (0, 5, 0), (0, 6, 0), (0, 7, 0), (0, 8, 0), (0, 9, 0), (0, 10, 0), (0, 11, 0), (0, 12, 0), (0, 13, 0), (1, 14, 0)] mixed (by kernel_rfl) ?_); simp only [↓List.toList_toArray, ↓rgd, ↓rgf, ↓reduceIte, Nat.reduceEqDiff, rg, ow_140, e9, ptr_eq, h27, q2, i4]
    refine do_store (by simp only [evt, evc, upd_eq, Nat.reduceEqDiff, ↓reduceIte, ntT, ntF] <;> rfl) (by simp only [evt, evc, upd_eq, Nat.reduceEqDiff, ↓reduceIte, ntT, ntF] <;> rfl) sz_140 rfl o7.wb (by decide) (oc_one rfl rfl) fun w8 x8 r8 s8 => ⟨(by first | exact trivial | exact .inl trivial), ?_⟩
    simp only [↓List.toList_toArray, ↓rgd, ↓rgf, ↓reduceIte, Nat.reduceEqDiff, rg, ow_140]
    refine hK _ _ ?_; clear hK K
    obtain ⟨g5, g6⟩ := o7.se.cut x8.od (by rw [List.length_map, le]; exact (Row.cons.1 r8).1)
    have o8 := (o7.step g5 g6).unz
    have X8 : Ext (ownF E b bi oi cap) w3 w8 := X7.tr (g6.mono fun _ _ _ g => seF_own g)

    have hFo8 : ∀ y o, ownF E b bi oi cap y o → Fb y o := hoF
    have XW8 : Ext (fun y o => Fb y o ∨ (o = 1 ∧ nds st y)) w w8 := XW3.tr (X8.mono fun y o _ g => .inl (hoF y o g))
    have hcn8 : ∀ y ∈ st.map Prod.fst, ∃ c : Int, rd w y 1 = some (.int .i64 c) ∧ rd w8 y 1 = some (.int .i64 (c - 1)) := fun y hy => by
      obtain ⟨c, a1, a2⟩ := hcn3 y hy
      exact ⟨c, a1, X8.rd a2 fun g => hout y hy 1 (hoF _ _ g)⟩
    have hFb8 : ∀ y o, (Fb y o ∨ (o = 1 ∧ nds st y)) → F y o := fun y o g => g.elim (hsubF y o) fun g => hDF y g.2 o
    have XF8 : Ext F w w8 := XW8.mono fun y o _ g => hFb8 y o g
    have ct8 := XF8.rd hM.cnt (hM.off 3)
    have c8 := hM.cfg.ext XF8 fun o _ _ => hM.off o
    have rt8 := XF8.rd hr (hM.off 2)
    have hkX : k < X.length := (List.getElem?_eq_some_iff.1 hXk).1
    have q3 := wsub1 X.length (by omega) (by omega)
    refine W_sq fun K hK => (W_text [true, true, true, true, true, true, true, false] (by kernel_rfl) ?_); simp only [↓List.toList_toArray, ↓rgd, ↓rgf, ↓reduceIte, Nat.reduceEqDiff, rg, ow_140, e0, ptr_eq, ct8, q3]
    refine do_store (v := .int .i64 ((X.length - 1 : Nat) : Int)) (by simp only [evt, evc, upd_eq, Nat.reduceEqDiff, ↓reduceIte, ntT, ntF] <;> rfl) (by simp only [evt, evc, upd_eq, Nat.reduceEqDiff, ↓reduceIte, ntT, ntF] <;> rfl) sz_3 rfl c8.wok (by decide) (oc_one rfl rfl) fun w9 x9 r9 s9 => ⟨trivial, ?_⟩
    simp only [↓List.toList_toArray, ↓rgd, ↓rgf, ↓reduceIte, Nat.reduceEqDiff, rg, ow_140]
    refine hK _ _ ?_; clear hK K
    have ct9 : rd w9 m 3 = some (.int .i64 (X.length - 1 : Nat)) := (Row.cons.1 r9).1
    have c9 := c8.ext x9 fun o h2 h3 g => by simp only [rng] at g; omega
    have X9 : Ext (mapF m F) w w9 := (XF8.mono fun y o _ g => .inl g).tr (x9.mono fun y o _ g => .inr (by simp only [rng] at g; exact ⟨g.1, by omega⟩))
    have hless9 := hM.less.ext X9 (fun y o g => .inl (by rcases g with g | g; have := hM.above y o g; omega; omega)) (fun g => g.elim (hM.off 6) fun g => by omega)
    have hasc : Asc O (rkI ord) (X.eraseIdx k) := List.Pairwise.sublist (List.eraseIdx_sublist X k) hM.asc
    have hlen : (X.eraseIdx k).length = X.length - 1 := step_len hkX
    refine W_seq ?_
    by_cases hc1 : X.length = 1
    · have t2 : (((X.length - 1 : Nat) : Int) == 0) = true := by rw [hc1]; rfl
      refine W_sq fun K hK => (W_text [true, true, true, true, true] (by kernel_rfl) ?_); simp only [↓List.toList_toArray, ↓rgd, ↓rgf, ↓reduceIte, Nat.reduceEqDiff, rg, ow_140, e0, ptr_eq, ct9, t2]
      refine hK _ _ ?_; clear hK K
      refine W_true (by simp only [evt, evc, upd_eq, Nat.reduceEqDiff, ↓reduceIte, ntT, ntF] <;> rfl) ?_
      refine W_rg fun K hK => (W_text [true, true, true, false] (by kernel_rfl) ?_); simp only [↓List.toList_toArray, ↓rgd, ↓rgf, ↓reduceIte, Nat.reduceEqDiff, rg, ow_140, e0, ptr_eq]
      refine do_store (v := .pointer none) (by simp only [evt, evc, upd_eq, Nat.reduceEqDiff, ↓reduceIte, ntT, ntF] <;> rfl) (by simp only [evt, evc, upd_eq, Nat.reduceEqDiff, ↓reduceIte, ntT, ntF] <;> rfl) sz_106 rfl c9.wok (by decide) (oc_one rfl rfl) fun w10 x10 r10 s10 => ⟨trivial, ?_⟩
      simp only [↓List.toList_toArray, ↓rgd, ↓rgf, ↓reduceIte, Nat.reduceEqDiff, rg, ow_140]
      refine hK _ _ ?_; clear hK K
      show W _ _ _ _ _ _
      refine W_sq fun K hK => (W_text [true, true, true] (by kernel_rfl) ?_); simp only [↓List.toList_toArray, ↓rgd, ↓rgf, ↓reduceIte, Nat.reduceEqDiff, rg, ow_140]
      refine hK _ _ ?_; clear hK K
      refine W_ret ?_
      simp only [andThen_ret, inBlk_ret, jump_ret]
      have hnil : X.eraseIdx k = [] := List.eq_nil_of_length_eq_zero (by omega)
      have X10 : Ext (mapF m F) w w10 := X9.tr (x10.mono fun y o _ g => .inr (by simp only [rng] at g; exact ⟨g.1, by omega⟩))
      refine endQ_2 (by simp only [upd_eq, Nat.reduceEqDiff, ↓reduceIte] <;> rfl) (by simp only [upd_eq, Nat.reduceEqDiff, ↓reduceIte] <;> rfl) ⟨by rw [nth_n, hXk]; rfl, X10, noF, ?_, fun _ _ g => g.elim⟩
      rw [cutI_nat, hnil]
      refine ⟨c9.ext x10 fun o h2 h3 g => by simp only [rng] at g; omega, hless9.ext x10 (fun y o g => .inl (by simp only [rng] at g; omega)) (by simp only [rng]; omega), ?_, List.Pairwise.nil, .inl ⟨rfl, (Row.cons.1 r10).1⟩, fun _ g => g, fun _ _ g => g.elim, fun _ _ g => g.elim⟩
      rw [hc1] at ct9
      exact x10.rd ct9 (by simp only [rng]; omega)
    · have t2 : (((X.length - 1 : Nat) : Int) == 0) = false := by simp; omega
      refine W_sq fun K hK => (W_text [true, true, true, true, true] (by kernel_rfl) ?_); simp only [↓List.toList_toArray, ↓rgd, ↓rgf, ↓reduceIte, Nat.reduceEqDiff, rg, ow_140, e0, ptr_eq, ct9, t2]
      refine hK _ _ ?_; clear hK K
      refine W_false (by simp only [evt, evc, upd_eq, Nat.reduceEqDiff, ↓reduceIte, ntT, ntF] <;> rfl) (W_skip ?_)
      show W _ _ _ _ _ _
      refine W_sq fun K hK => (W_text [true, true, true] (by kernel_rfl) ?_); simp only [↓List.toList_toArray, ↓rgd, ↓rgf, ↓reduceIte, Nat.reduceEqDiff, rg, ow_140]
      refine hK _ _ ?_; clear hK K
      refine W_ret ?_
      simp only [andThen_ret, inBlk_ret, jump_ret]
      have hlo2 : lo = d - 1 ∨ (lo = 1 ∧ xs = X) := by
        have key : ∀ {h lo b off : Nat} {xs : List It} {Fb : Nat → Nat → Prop} {st : List (Nat × Int)}, Way E iso (d - 1) (2 * d - 1) w H 1 root X F st h lo b xs Fb off → lo = d - 1 ∨ (lo = 1 ∧ xs = X) := fun hw => by
          cases hw with
          | root => exact .inr ⟨rfl, rfl⟩
          | down => exact .inl rfl
        exact key hw
      have hel : (xs.eraseIdx i).length + 1 = xs.length := by rw [List.length_eraseIdx, if_pos hJ]; omega
      have T8 : Tr E iso (d - 1) (2 * d - 1) 0 w8 lo b (xs.eraseIdx i) Fb := by
        refine ⟨bi, oi, cap, ?_, ?_, by omega, ?_⟩
        · have := o8
          rw [show ((xs.length : Int) + -1) = ((xs.eraseIdx i).length : Nat) by omega] at this
          exact this
        · rcases hlo2 with h | ⟨h, h'⟩
          · omega
          · have := congrArg List.length h'; omega
        · rcases hin with ⟨_, _, _, hF⟩ | ⟨_, _, _, _, _, _, h0', _⟩
          · exact hF
          · cases h0'
      have TF := hw.fill ht hel T8 XW8 hcn8
      have hXe : X.take off ++ xs.eraseIdx i ++ X.drop (off + xs.length) = X.eraseIdx k := by
        obtain ⟨A, C, hX, hA⟩ := hw.at
        subst hA
        rw [hk, hX, splice, erase_mid hJ]
      rw [hXe] at TF
      have hmF : ∀ y o, F y o → ¬ rng m 3 1 y o := fun y o g k => by simp only [rng] at k; rw [k.1] at g; exact hM.off o g
      refine endQ_2 (by simp only [upd_eq, Nat.reduceEqDiff, ↓reduceIte] <;> rfl) (by simp only [upd_eq, Nat.reduceEqDiff, ↓reduceIte] <;> rfl) ⟨by rw [nth_n, hXk]; rfl, X9, F, ?_, fun y o g => .inl g⟩
      rw [cutI_nat]
      exact ⟨c9, hless9, by rw [hlen]; exact ct9, hasc, .inr ⟨H, root, x9.rd rt8 (by simp only [rng]; omega), TF.ext x9 hmF⟩, hM.off, fun y o g => by have := hM.lt y o g; have := X9.size; omega, hM.above⟩
  · have hin : ∃ h' bc ba oa capc cs, mm = h' + 1 ∧ ch = ptr bc ∧ Inn E iso (d - 1) (2 * d - 1) h' w b xs Fb bi oi cap ks bc ba oa capc cs := by
      rcases hin with ⟨h, _⟩ | h
      · omega
      · exact h
    obtain ⟨h', bc, ba, oa, capc, cs, hh, hch, n⟩ := hin
    subst hch
    have hclen := n.len
    refine W_sq fun K hK => (W_text [true, false] (by kernel_rfl) ?_); simp only [↓List.toList_toArray, ↓rgd, ↓rgf, ↓reduceIte, Nat.reduceEqDiff, rg, ow_140, e9]
    refine do_call fn_122 (by simp only [evt, evc, upd_eq, Nat.reduceEqDiff, ↓reduceIte, maT, maC, maN, isnN, isnS] <;> rfl) (leaf_any b (some ⟨bc, 0, none⟩) w4 o4.h3) ?_
    rintro _ w5 ⟨rfl, hw5⟩
    obtain rfl : w4 = w5 := hw5.symm
    refine ⟨trivial, ?_⟩
    simp only [↓List.toList_toArray, ↓rgd, ↓rgf, ↓reduceIte, Nat.reduceEqDiff, rg, ow_140]
    refine hK _ _ ?_; clear hK K
    refine W_false (by simp only [evt, evc, upd_eq, Nat.reduceEqDiff, ↓reduceIte, ntT, ntF] <;> rfl) (W_skip ?_)
    show W _ _ _ _ _ _
    refine W_sq fun K hK => (W_text [true] (by kernel_rfl) ?_); simp only [↓List.toList_toArray, ↓rgd, ↓rgf, ↓reduceIte, Nat.reduceEqDiff, rg, ow_140]
    refine hK _ _ ?_; clear hK K
    subst hh
    have n4 := n.kids.ext sh4.ext fun y o g k => by
      rcases k.2 with k2 | k2
      · exact hout y k2 o ((n.fp y o).2 (.inr (.inl g)))
      · subst k2
        rcases g with g | g
        · exact n.ap.cb g.symm
        · exact n.ap.ab g.1.symm
    have hc0 := n4.c0
    rw [List.length_map] at hc0
    have hcnt : ∀ {j : Nat} {c : Kid It}, cs[j]? = some c → rd w4 ba (oa + j) = some (ptr c.b) ∧ rd w4 c.b 1 = some (.int .i64 (c.xs.length : Nat)) ∧ c.xs.length ≤ xs.length := fun {j c} hc => by
      have hcm := List.mem_of_getElem? hc
      refine ⟨ptr_at n4.row (by rw [List.getElem?_map, hc]; rfl), sh4.ext.rd (n.sub c hcm).iso0.2 fun g => ?_, ?_⟩
      · have hcb := (n.sub c hcm).self 1
        rcases g.2 with g2 | g2
        · exact hout _ g2 1 ((n.fp _ _).2 (.inr (.inr ⟨c, hcm, hcb⟩)))
        · rw [g2] at hcb; exact n.ap.own c hcm b 1 hcb (.inl rfl)
      · rw [n.eq]; exact weave_mem_length _ _ (by simpa using n.len) _ (List.mem_map_of_mem hcm)
    refine W_sqx fun J2 hJ2 => ?_
    have hchild : ∀ (e : Env) (j I : Nat) (c : Kid It), cs[j]? = some c → j ≤ ks.length → k = off + ((fr (cs.map Kid.xs) ks j).length + I) → I < c.xs.length → e 0 = ptr m → e 1 = .int .i64 I → e 7 = pv → e 9 = ptr b → e 10 = .int .i64 j → J2 e w4 := by
      clear e0 e1 e7 e9 hpv e
      intro e j I c hc hj hkI hI e0 e1 e7 e9 e10
      refine hJ2 _ _ ?_; clear hJ2 J2
      have hcm := List.mem_of_getElem? hc
      obtain ⟨k1, -, -⟩ := hcnt hc
      have hcl := (List.getElem?_eq_some_iff.1 hc).1
      have u1 := u8_in j (by omega)
      refine W_sq fun K hK => (W_text [true, true, true, false, false, true] (by kernel_rfl) ?_); simp only [↓List.toList_toArray, ↓rgd, ↓rgf, ↓reduceIte, Nat.reduceEqDiff, rg, ow_140, e7, e10, u1]
      refine do_bsl rfl (bs_u1 _) fun w5 n5 => ⟨trivial, ?_⟩
      simp only [↓List.toList_toArray, ↓rgd, ↓rgf, ↓reduceIte, Nat.reduceEqDiff, rg, ow_140, e7]
      refine do_append (by simp only [evt, evc, upd_eq, Nat.reduceEqDiff, ↓reduceIte, ntT, ntF] <;> rfl) (by simp only [evt, evc, upd_eq, Nat.reduceEqDiff, ↓reduceIte, ntT, ntF] <;> rfl) el_u8 rfl ni_u8 (hO4.ext n5.ext).sl (u := .slice (some ⟨w4.heap.size, 0, none⟩) 1 1) (m := 1) (l' := E8.cel ((j : Nat) : Int)) ⟨rfl, .inr ⟨_, 0, 1, rfl, Nat.le_refl _, n5.row, n5.wok.R (Nat.le_refl _)⟩⟩ (by rw [List.length_map]; omega) (by decide) (E8.one _) fun v6 w6 a6 => ⟨trivial, ?_⟩
      have s5 := n5.size
      obtain ⟨hO6, X6⟩ := (hO4.ext n5.ext).app (E := E8) a6 (by omega)
      simp only [↓List.toList_toArray, ↓rgd, ↓rgf, ↓reduceIte, Nat.reduceEqDiff, rg, ow_140]
      refine hK _ _ ?_; clear hK K
      have XP : Ext (fun y _ => w.heap.size ≤ y) w4 w6 := (n5.ext.mono fun _ _ _ g => g.elim).tr X6
      have sh6 := sh4.far XP
      have k6 := XP.rd k1 fun g => by
        have := hM.lt ba (oa + j) (hsubF _ _ ((n.fp _ _).2 (.inr (.inl (.inr ⟨rfl, by omega, by have := n.kids.le; rw [List.length_map] at this; omega⟩)))))
        omega
      have c06 := XP.rd hc0 fun g => by
        have := hM.lt bc 0 (hsubF _ _ ((n.fp _ _).2 (.inr (.inl (.inl rfl)))))
        omega
      have h36 := XP.rd ho4h3 fun g => by omega
      have hiso6 := sh6.ext.rd hM.cfg.iso fun g => by omega
      have ci6 := sh6.ext.rd (n.sub c hcm).iso0.1 fun g => by omega
      refine W_rg fun K hK => (W_text [true, true, true, true, true, true, true, true, true, false, true] (by kernel_rfl) ?_); simp only [↓List.toList_toArray, ↓rgd, ↓rgf, ↓reduceIte, Nat.reduceEqDiff, rg, ow_140, e0, e9, e10, ptr_eq, h36, c06, hcl]
      refine do_call fn_121 (vs := #[ptr m, .pointer (some ⟨ba, oa + j, none⟩), .bool true]) (by simp only [evt, evc, upd_eq, Nat.reduceEqDiff, ↓reduceIte, maT, maC, maN, isnN, isnS] <;> rfl) (isoLoad_any m ba (oa + j) c.b true iso w6 hiso6 k6 ci6) ?_
      rintro _ w7 ⟨rfl, r7⟩
      refine ⟨by first | exact trivial | exact .inr (keeps_ro r7), ?_⟩
      simp only [↓List.toList_toArray, ↓rgd, ↓rgf, ↓reduceIte, Nat.reduceEqDiff, rg, ow_140]
      refine hK _ _ ?_; clear hK K
      refine ⟨h', by omega, st ++ [(b, (j : Int))], d - 1, c.b, _, I, c.xs, c.F, hw.down ho n hc, by omega, hI, fun j' y iv h => ?_, (sh6.ro r7).congr fun y => ?_, ?_, by simp only [upd_eq, Nat.reduceEqDiff, ↓reduceIte]; exact e0, by simp only [upd_eq, Nat.reduceEqDiff, ↓reduceIte]; exact e1, by simp only [upd_eq, Nat.reduceEqDiff, ↓reduceIte]⟩
      · rcases Nat.lt_or_ge j' st.length with hlt | hge
        · rw [List.getElem?_append_left hlt] at h; exact hsm j' y iv h
        · have : j' = st.length := by have := (List.getElem?_eq_some_iff.1 h).1; simp at this; omega
          subst this
          rw [List.getElem?_append_right (Nat.le_refl _), Nat.sub_self] at h
          simp only [List.getElem?_cons_zero, Option.some.injEq, Prod.mk.injEq] at h
          exact ⟨_, h.2.symm, by omega⟩
      · unfold nds; rw [List.map_append, List.mem_append]; simp only [List.map_cons, List.map_nil, List.mem_singleton]
      · simp only [upd_eq, Nat.reduceEqDiff, ↓reduceIte]; rw [List.map_append]; exact hO6.ext r7.ext
    clear hJ2
    refine W_block (W_loop (fun mm e w5 => ∃ j I : Nat, mm = ks.length - j ∧ j ≤ ks.length ∧ w4 = w5 ∧ k = off + ((fr (cs.map Kid.xs) ks j).length + I) ∧ e 0 = ptr m ∧ e 1 = .int .i64 I ∧ e 7 = pv ∧ e 9 = ptr b ∧ e 10 = .int .i64 j)
      ks.length ⟨0, i, by simp, by simp, rfl, by rw [fr_zero]; simpa using hk, by simp only [upd_eq, Nat.reduceEqDiff, ↓reduceIte]; exact e0, by simp only [upd_eq, Nat.reduceEqDiff, ↓reduceIte]; exact e1, by simp only [upd_eq, Nat.reduceEqDiff, ↓reduceIte]; exact e7, by simp only [upd_eq, Nat.reduceEqDiff, ↓reduceIte]; exact e9, by simp only [upd_eq, Nat.reduceEqDiff, ↓reduceIte]; rfl⟩ ?_)
    clear e0 e1 e7 e9 hpv e
    rintro mm e w5 ⟨j, I, rfl, hj, rfl, hkI, e0, e1, e7, e9, e10⟩
    obtain ⟨c, hc⟩ := n.kid hj
    have hcm := List.mem_of_getElem? hc
    have hcl := (List.getElem?_eq_some_iff.1 hc).1
    obtain ⟨k1, k2, k3⟩ := hcnt hc
    have hxe := congrArg List.length (n.xs hc)
    simp only [List.length_append] at hxe
    refine W_seq ?_
    by_cases hlt : j < ks.length
    · have ht1 := lt_tt j ks.length hlt
      refine W_sq fun K hK => (W_text [true, true, true, true, true, true, true] (by kernel_rfl) ?_); simp only [↓List.toList_toArray, ↓rgd, ↓rgf, ↓reduceIte, Nat.reduceEqDiff, rg, ow_140, e9, e10, ptr_eq, ho4h2, ht1]
      refine hK _ _ ?_; clear hK K
      refine W_true (by simp only [evt, evc, upd_eq, Nat.reduceEqDiff, ↓reduceIte, ntT, ntF] <;> rfl) (W_skip ?_)
      show W _ _ _ _ _ _
      refine W_seq (W_block ?_)
      refine W_seq ?_
      by_cases hIc : I < c.xs.length
      · have t24 := lt_tt I c.xs.length hIc
        refine W_sq fun K hK => (W_text [true, true, true, true, true, true, true, true, true, true, true, true, true, true] (by kernel_rfl) ?_); simp only [↓List.toList_toArray, ↓rgd, ↓rgf, ↓reduceIte, Nat.reduceEqDiff, rg, ow_140, e1, e9, e10, ptr_eq, ho4h3, hc0, hcl, k1, k2, t24]
        refine hK _ _ ?_; clear hK K
        refine W_true (by simp only [evt, evc, upd_eq, Nat.reduceEqDiff, ↓reduceIte, ntT, ntF] <;> rfl) (W_exit ?_)
        simp only [andThen_exit, inBlk_exit, andThen_normal, Nat.reduceEqDiff, ↓reduceIte]
        exact hchild _ j I c hc hj hkI hIc (by simp only [upd_eq, Nat.reduceEqDiff, ↓reduceIte]; exact e0) (by simp only [upd_eq, Nat.reduceEqDiff, ↓reduceIte]; exact e1) (by simp only [upd_eq, Nat.reduceEqDiff, ↓reduceIte]; exact e7) (by simp only [upd_eq, Nat.reduceEqDiff, ↓reduceIte]; exact e9) (by simp only [upd_eq, Nat.reduceEqDiff, ↓reduceIte]; exact e10)
      · have t24 := lt_ff I c.xs.length (by omega)
        refine W_sq fun K hK => (W_text [true, true, true, true, true, true, true, true, true, true, true, true, true, true] (by kernel_rfl) ?_); simp only [↓List.toList_toArray, ↓rgd, ↓rgf, ↓reduceIte, Nat.reduceEqDiff, rg, ow_140, e1, e9, e10, ptr_eq, ho4h3, hc0, hcl, k1, k2, t24]
        refine hK _ _ ?_; clear hK K
        refine W_false (by simp only [evt, evc, upd_eq, Nat.reduceEqDiff, ↓reduceIte, ntT, ntF] <;> rfl) ?_
        obtain ⟨x, hxj⟩ : ∃ x, ks[j]? = some x := ⟨_, List.getElem?_eq_getElem hlt⟩
        obtain ⟨c', hc'⟩ := n.kid (i := j + 1) hlt
        have hfs := congrArg List.length (fr_step (Kid.at hc) hxj)
        simp only [List.length_append, List.length_singleton] at hfs
        by_cases hIe : I = c.xs.length
        · have t25 : ((I : Int) == (c.xs.length : Int)) = true := by rw [beq_iff_eq]; omega
          refine W_sq fun K hK => (W_text [true, true, true, true, true, true, true, true, true, true, true, true, true, true] (by kernel_rfl) ?_); simp only [↓List.toList_toArray, ↓rgd, ↓rgf, ↓reduceIte, Nat.reduceEqDiff, rg, ow_140, e1, e9, e10, ptr_eq, ho4h3, hc0, hcl, k1, k2, t25]
          refine hK _ _ ?_; clear hK K
          refine W_true (by simp only [evt, evc, upd_eq, Nat.reduceEqDiff, ↓reduceIte, ntT, ntF] <;> rfl) ?_
          have hkv := it_at o4.row hxj
          have hX' := n.xs hc'
          rw [fr_step (Kid.at hc) hxj] at hX'
          have hXk : X[k]? = some x := by
            have hlt2 : (fr (cs.map Kid.xs) ks j).length + c.xs.length < xs.length := by rw [hX']; simp only [List.length_append, List.length_singleton]; omega
            rw [hkI, hIe, hw.get hlt2]
            conv => lhs; rw [hX']
            simp only [List.append_assoc]
            rw [List.getElem?_append_right (by omega), show (fr (cs.map Kid.xs) ks j).length + c.xs.length - (fr (cs.map Kid.xs) ks j).length = c.xs.length by omega, List.getElem?_append_right (Nat.le_refl _), Nat.sub_self]
            rfl
          refine W_sq fun K hK => (W_text [true, true, true, true, true, true, true, true] (by kernel_rfl) ?_); simp only [↓List.toList_toArray, ↓rgd, ↓rgf, ↓reduceIte, Nat.reduceEqDiff, rg, ow_140, e9, e10, ptr_eq, ho4h2, hlt, hkv]
          refine hK _ _ ?_; clear hK K
          have u1 := u8_in j (by omega)
          refine W_sq fun K hK => (W_text [true, true, true, false, false, true] (by kernel_rfl) ?_); simp only [↓List.toList_toArray, ↓rgd, ↓rgf, ↓reduceIte, Nat.reduceEqDiff, rg, ow_140, e7, e10, u1]
          refine do_bsl rfl (bs_u1 _) fun w5 n5 => ⟨trivial, ?_⟩
          simp only [↓List.toList_toArray, ↓rgd, ↓rgf, ↓reduceIte, Nat.reduceEqDiff, rg, ow_140, e7]
          refine do_append (by simp only [evt, evc, upd_eq, Nat.reduceEqDiff, ↓reduceIte, ntT, ntF] <;> rfl) (by simp only [evt, evc, upd_eq, Nat.reduceEqDiff, ↓reduceIte, ntT, ntF] <;> rfl) el_u8 rfl ni_u8 (hO4.ext n5.ext).sl (u := .slice (some ⟨w4.heap.size, 0, none⟩) 1 1) (m := 1) (l' := E8.cel ((j : Nat) : Int)) ⟨rfl, .inr ⟨_, 0, 1, rfl, Nat.le_refl _, n5.row, n5.wok.R (Nat.le_refl _)⟩⟩ (by rw [List.length_map]; omega) (by decide) (E8.one _) fun v6 w6 a6 => ⟨trivial, ?_⟩
          have s5 := n5.size
          obtain ⟨hO6, X6⟩ := (hO4.ext n5.ext).app (E := E8) a6 (by omega)
          simp only [↓List.toList_toArray, ↓rgd, ↓rgf, ↓reduceIte, Nat.reduceEqDiff, rg, ow_140]
          refine hK _ _ ?_; clear hK K
          have XP : Ext (fun y _ => w.heap.size ≤ y) w4 w6 := (n5.ext.mono fun _ _ _ g => g.elim).tr X6
          have sh6 := sh4.far XP
          refine W_exit ?_
          simp only [andThen_exit, inBlk_exit, andThen_normal, Nat.reduceEqDiff, ↓reduceIte]
          exact hback _ w6 (st ++ [(b, ((j : Nat) : Int))]) x hXk (by rw [List.map_append]; exact hw.nodup ht)
              (fun y hy o => by
                unfold nds at hy
                rw [List.map_append, List.mem_append] at hy
                rcases hy with hy | hy
                · exact hDF y hy o
                · simp only [List.map_cons, List.map_nil, List.mem_singleton] at hy
                  rw [hy]; exact hbF o)
              (fun y i h => hw.first _ y i h)
              (fun j y iv h => by
                rcases Nat.lt_or_ge j st.length with hlt | hge
                · rw [List.getElem?_append_left hlt] at h; exact hsm j y iv h
                · have : j = st.length := by have := (List.getElem?_eq_some_iff.1 h).1; simp at this; omega
                  subst this
                  rw [List.getElem?_append_right (Nat.le_refl _), Nat.sub_self] at h
                  simp only [List.getElem?_cons_zero, Option.some.injEq, Prod.mk.injEq] at h
                  exact ⟨_, h.2.symm, by omega⟩)
              (node_facts ht hw hbig j (some ⟨bc, 0, none⟩) ho.h3 ho.h1 ho.wb (.inr ⟨bc, ba, oa, cs.length, capc, c.b, rfl, hcl, by have := n.kids.c0; rwa [List.length_map] at this, n.kids.row j _ (by rw [List.getElem?_map, List.getElem?_map, hc]; rfl), (n.fp _ _).2 (.inr (.inl (.inr ⟨rfl, by omega, by have := n.kids.le; rw [List.length_map] at this; omega⟩))), n.ap.ab⟩))
              (by rw [List.length_append, List.length_singleton]; omega)
              (sh6.congr fun y => by unfold nds; rw [List.map_append, List.mem_append]; simp only [List.map_cons, List.map_nil, List.mem_singleton])
              (by simp only [upd_eq, Nat.reduceEqDiff, ↓reduceIte]; rw [List.map_append]; exact hO6) (by simp only [upd_eq, Nat.reduceEqDiff, ↓reduceIte]; exact e0) (by simp only [upd_eq, Nat.reduceEqDiff, ↓reduceIte])
        · have t25 : ((I : Int) == (c.xs.length : Int)) = false := by rw [beq_eq_false_iff_ne]; omega
          refine W_sq fun K hK => (W_text [true, true, true, true, true, true, true, true, true, true, true, true, true, true] (by kernel_rfl) ?_); simp only [↓List.toList_toArray, ↓rgd, ↓rgf, ↓reduceIte, Nat.reduceEqDiff, rg, ow_140, e1, e9, e10, ptr_eq, ho4h3, hc0, hcl, k1, k2, t25]
          refine hK _ _ ?_; clear hK K
          refine W_false (by simp only [evt, evc, upd_eq, Nat.reduceEqDiff, ↓reduceIte, ntT, ntF] <;> rfl) (W_skip ?_)
          show W _ _ _ _ _ _
          have q28 := wadd1 c.xs.length (by omega)
          have q29 := wsub I (c.xs.length + 1) (by omega) (by omega)
          refine W_rg fun K hK => (W_text [true, true, true, true, true, true, true, true, true, true, true, true, true, true, true, true] (by kernel_rfl) ?_); simp only [↓List.toList_toArray, ↓rgd, ↓rgf, ↓reduceIte, Nat.reduceEqDiff, rg, ow_140, e1, e9, e10, ptr_eq, ho4h3, hc0, hcl, k1, k2, q28, q29]
          refine hK _ _ ?_; clear hK K
          show W _ _ _ _ _ _
          have q23 := wadd1 j (by omega)
          refine W_rg fun K hK => (W_text [true, true, true] (by kernel_rfl) ?_); simp only [↓List.toList_toArray, ↓rgd, ↓rgf, ↓reduceIte, Nat.reduceEqDiff, rg, ow_140, e10, q23]
          refine hK _ _ ?_; clear hK K
          refine ⟨_, ?_, j + 1, I - (c.xs.length + 1), rfl, hlt, rfl, by omega, by simp only [upd_eq, Nat.reduceEqDiff, ↓reduceIte]; exact e0, by simp only [upd_eq, Nat.reduceEqDiff, ↓reduceIte], by simp only [upd_eq, Nat.reduceEqDiff, ↓reduceIte]; exact e7, by simp only [upd_eq, Nat.reduceEqDiff, ↓reduceIte]; exact e9, by simp only [upd_eq, Nat.reduceEqDiff, ↓reduceIte]⟩
          omega
    · obtain rfl : j = ks.length := by omega
      have ht1 := lt_ff ks.length ks.length (by omega)
      refine W_sq fun K hK => (W_text [true, true, true, true, true, true, true] (by kernel_rfl) ?_); simp only [↓List.toList_toArray, ↓rgd, ↓rgf, ↓reduceIte, Nat.reduceEqDiff, rg, ow_140, e9, e10, ptr_eq, ho4h2, ht1]
      refine hK _ _ ?_; clear hK K
      refine W_false (by simp only [evt, evc, upd_eq, Nat.reduceEqDiff, ↓reduceIte, ntT, ntF] <;> rfl) (W_exit ?_)
      simp only [andThen_exit, inBlk_exit, andThen_normal, Nat.reduceEqDiff, ↓reduceIte]
      have htl0 : (tl (cs.map Kid.xs) ks ks.length).length = 0 := by rw [tl_end]; rfl
      exact hchild _ ks.length I c hc hj hkI (by omega) (by simp only [upd_eq, Nat.reduceEqDiff, ↓reduceIte]; exact e0) (by simp only [upd_eq, Nat.reduceEqDiff, ↓reduceIte]; exact e1) (by simp only [upd_eq, Nat.reduceEqDiff, ↓reduceIte]; exact e7) (by simp only [upd_eq, Nat.reduceEqDiff, ↓reduceIte]; exact e9) (by simp only [upd_eq, Nat.reduceEqDiff, ↓reduceIte]; exact e10)
end Go.Proofs.Ytanmjbkbdmeckaa
/-
  Replies kept in a list. No condition.
-/
set_option linter.unusedSimpArgs false
set_option linter.unusedVariables false
namespace Go.Proofs.Ytanmjbkbdmeckaa
open Go Go.Proofs
theorem nth_first (l : List It) : nth l 0 = l.head? := by
  unfold nth
  rw [if_pos (Int.le_refl _), List.head?_eq_getElem?]
  rfl
theorem el_fo : elK Try.prog 38 = some (43, 3, 24, [.int .i64 0, .int .i64 0, .bool false]) := by kernel_rfl
theorem ni_fo : noInt Try.prog 38 = true := by kernel_rfl
theorem bs_fo1 (x : It × Bool) : bsV Try.prog 38 1 [(0, foV x)] = some (43, Ef.cel x) := by kernel_rfl
/-- A list that is made of replies, in new memory. -/
structure Outs (B : Nat) (v : Value) (l : List (It × Bool)) (w : World) : Prop where
  sl : SlV w 3 v l.length (flat Ef l)
  si : since B v
theorem Outs.ext {B : Nat} {v : Value} {l : List (It × Bool)} {w w' : World} (h : Outs B v l w) (x : Ext noF w w') : Outs B v l w' := ⟨h.sl.ext0 x, h.si⟩
theorem Outs.nil (B : Nat) (w : World) : Outs B (.slice none 0 0) [] w := ⟨⟨rfl, .inl ⟨rfl, rfl⟩⟩, fun b o n c h => by cases h⟩
theorem Outs.app {B : Nat} {v v' : Value} {l : List (It × Bool)} {x : It × Bool} {w w' : World} (h : Outs B v l w) (a : AppRes w 3 v l.length 1 (flat Ef l) (Ef.cel x) v' w') (hB : B ≤ w.heap.size) : Outs B v' (l ++ [x]) w' ∧ Ext (fun y _ => B ≤ y) w w' := by
  obtain ⟨h1, h2, h3⟩ := app_since a h.si hB
  refine ⟨⟨?_, h2⟩, h3⟩
  rw [List.length_append, List.length_singleton, flat_append, flat_one]
  exact h1
theorem Outs.extB {B : Nat} {v : Value} {l : List (It × Bool)} {w w' : World} {G : Nat → Nat → Prop} (h : Outs B v l w) (x : Ext G w w') (hG : ∀ y o, G y o → y < B) : Outs B v l w' :=
  ⟨h.sl.ext x fun b o cap hv j _ g => by have := h.si _ _ _ _ hv; have := hG _ _ g; omega, h.si⟩
theorem take_snoc {α : Type} {l : List α} {i : Nat} {x : α} (h : l[i]? = some x) : l.take (i + 1) = l.take i ++ [x] := by rw [List.take_add_one, h]; rfl
end Go.Proofs.Ytanmjbkbdmeckaa
/-
  Answers one after the other; the reference's Cut and Drop. No condition.
-/
set_option linter.unusedSimpArgs false
set_option linter.unusedVariables false
namespace Go.Proofs.Ytanmjbkbdmeckaa
open Go Go.Proofs
section
variable {α : Type} (U : List It → α → List It) (A : List It → α → It × Bool)
/-- What is left behind changes, and what they answer. -/
def runL (T : List It) (ks : List α) : List It := ks.foldl U T
def runR : List It → List α → List (It × Bool)
  | _, [] => []
  | xs, x :: l => A xs x :: runR (U xs x) l
theorem runL_snoc (T : List It) (ks : List α) (x : α) : runL U T (ks ++ [x]) = U (runL U T ks) x := by simp [runL]
theorem runR_snoc (x : α) : ∀ (l : List α) (xs : List It), runR U A xs (l ++ [x]) = runR U A xs l ++ [A (runL U xs l) x]
  | [], _ => rfl
  | y :: l, xs => by simp only [List.cons_append, runR, runR_snoc x l, runL, List.foldl_cons]
theorem runR_length : ∀ (l : List α) (xs : List It), (runR U A xs l).length = l.length
  | [], _ => rfl
  | x :: l, xs => by simp [runR, runR_length l]
theorem runL_len (h : ∀ xs x, (U xs x).length ≤ xs.length) : ∀ (ks : List α) (T : List It), (runL U T ks).length ≤ T.length
  | [], _ => Nat.le_refl _
  | x :: ks, T => Nat.le_trans (runL_len h ks (U T x)) (h T x)
theorem take_sn {l : List α} {i : Nat} {x : α} (h : l[i]? = some x) : l.take (i + 1) = l.take i ++ [x] := by rw [List.take_add_one, h]; rfl
end
/-- Deletions of keys, of places. -/
def dlU (ord : List Int) (xs : List It) (x : It) : List It := del O (rkI ord) (rkI ord x) xs
def dlA (ord : List Int) (xs : List It) (x : It) : It × Bool := foO (at? O (rkI ord) (rkI ord x) xs)
def ctA (xs : List It) (i : Int) : It × Bool := foO (nth xs i)
theorem dlU_len (ord : List Int) (xs : List It) (x : It) : (dlU ord xs x).length ≤ xs.length := by
  unfold dlU del; split
  · exact List.length_eraseIdx_le ..
  · exact Nat.le_refl _
theorem ctU_len (xs : List It) (i : Int) : (cutL xs i).length ≤ xs.length := by
  unfold cutL; split
  · exact List.length_eraseIdx_le ..
  · exact Nat.le_refl _
theorem at_foO {ord : List Int} {x : It} {l : List It} (h : hit O (rkI ord) (rkI ord x) l = true) : foO (nth l (lb O (rkI ord) (rkI ord x) l : Nat)) = dlA ord l x := by
  unfold dlA nth at?; simp [h]
theorem cut_del {ord : List Int} {x : It} {l : List It} (h : hit O (rkI ord) (rkI ord x) l = true) : cutL l (lb O (rkI ord) (rkI ord x) l : Nat) = dlU ord l x := by
  unfold cutL dlU del; simp [h]
set_option maxHeartbeats 1000000 in
set_option maxRecDepth 8000 in
theorem cut_since (l : List It) (lv : Value) (ix : Int) (w : World) (hl : SlI w lv l) (hbig : l.length ≤ 2147483648) :
    CallK Try.prog 110 #[lv, .int .i64 ix] w fun v w' => ∃ sv, v = .tuple #[sv, foV (foO (nth l ix))] ∧ SlI w' sv (cutL l ix) ∧ Ext noF w w' ∧ (since w.heap.size sv ∨ sv = lv) := by
  obtain ⟨a, c, hlv⟩ := hl.shape
  refine calls_of_W [.tmp 4, .cell 5 43] Try.func110 rfl Try.ntmps110 Try.results110 (by simp) fun e he => ?_
  have e0 : e 0 = .slice a l.length c := by rw [← hlv]; exact he 0 _ rfl
  have e1 : e 1 = .int .i64 ix := he 1 _ rfl
  clear he
  refine W_sq fun K hK => (W_text [true, false] (by kernel_rfl) ?_); simp only [↓List.toList_toArray, ↓rgd, ↓rgf, ↓reduceIte, Nat.reduceEqDiff, rg, ow_110]
  refine do_alloc z_fo fun w1 n1 => ⟨trivial, ?_⟩
  simp only [↓List.toList_toArray, ↓rgd, ↓rgf, ↓reduceIte, Nat.reduceEqDiff, rg, ow_110]
  refine hK _ _ ?_; clear hK K
  have s1 := n1.size
  have out : (ix < 0 ∨ (l.length : Int) ≤ ix) → nth l ix = none ∧ cutL l ix = l := fun h => ⟨nth_none h, cutL_out h⟩
  refine W_seq ?_
  by_cases h1 : ix < 0
  · have t1 : decide (ix < 0) = true := by simp [h1]
    refine W_sq fun K hK => (W_text [true, true, true, true, true, true, true, true] (by kernel_rfl) ?_); simp only [↓List.toList_toArray, ↓rgd, ↓rgf, ↓reduceIte, Nat.reduceEqDiff, rg, ow_110, e0, e1, t1]
    refine hK _ _ ?_; clear hK K
    refine W_true (by simp only [evt, evc, upd_eq, Nat.reduceEqDiff, ↓reduceIte, ntT, ntF] <;> rfl) ?_
    refine W_sq fun K hK => (W_text [true, true, true, false] (by kernel_rfl) ?_); simp only [↓List.toList_toArray, ↓rgd, ↓rgf, ↓reduceIte, Nat.reduceEqDiff, rg, ow_110, e0, bu_fo0]
    refine do_store (v := foV ((0, 0), false)) (by simp only [evt, evc, upd_eq, Nat.reduceEqDiff, ↓reduceIte, ntT, ntF] <;> rfl) (by simp only [evt, evc, upd_eq, Nat.reduceEqDiff, ↓reduceIte, ntT, ntF] <;> rfl) sz_43 rfl n1.wok (by decide) (oc_fo _) fun w3 x3 r3 s3 => ⟨trivial, ?_⟩
    simp only [↓List.toList_toArray, ↓rgd, ↓rgf, ↓reduceIte, Nat.reduceEqDiff, rg, ow_110]
    refine hK _ _ ?_; clear hK K
    refine W_ret ?_
    simp only [andThen_ret]
    have X3 := noF_of n1.ext x3 fun y o hy h => by simp only [rng] at h; omega
    rw [(out (.inl h1)).1, (out (.inl h1)).2]
    exact endQ_tc (by simp only [upd_eq, Nat.reduceEqDiff, ↓reduceIte] <;> rfl) (by simp only [upd_eq, Nat.reduceEqDiff, ↓reduceIte]) ld_43 (ld_fo r3) ⟨_, rfl, by rw [← hlv]; exact hl.ext0 X3, X3, .inr hlv.symm⟩
  have t1 : decide (ix < 0) = false := by simp; omega
  by_cases h2 : (l.length : Int) ≤ ix
  · have t2 : decide ((l.length : Int) ≤ ix) = true := by simp [h2]
    refine W_sq fun K hK => (W_text [true, true, true, true, true, true, true, true] (by kernel_rfl) ?_); simp only [↓List.toList_toArray, ↓rgd, ↓rgf, ↓reduceIte, Nat.reduceEqDiff, rg, ow_110, e0, e1, t1, t2]
    refine hK _ _ ?_; clear hK K
    refine W_true (by simp only [evt, evc, upd_eq, Nat.reduceEqDiff, ↓reduceIte, ntT, ntF] <;> rfl) ?_
    refine W_sq fun K hK => (W_text [true, true, true, false] (by kernel_rfl) ?_); simp only [↓List.toList_toArray, ↓rgd, ↓rgf, ↓reduceIte, Nat.reduceEqDiff, rg, ow_110, e0, bu_fo0]
    refine do_store (v := foV ((0, 0), false)) (by simp only [evt, evc, upd_eq, Nat.reduceEqDiff, ↓reduceIte, ntT, ntF] <;> rfl) (by simp only [evt, evc, upd_eq, Nat.reduceEqDiff, ↓reduceIte, ntT, ntF] <;> rfl) sz_43 rfl n1.wok (by decide) (oc_fo _) fun w3 x3 r3 s3 => ⟨trivial, ?_⟩
    simp only [↓List.toList_toArray, ↓rgd, ↓rgf, ↓reduceIte, Nat.reduceEqDiff, rg, ow_110]
    refine hK _ _ ?_; clear hK K
    refine W_ret ?_
    simp only [andThen_ret]
    have X3 := noF_of n1.ext x3 fun y o hy h => by simp only [rng] at h; omega
    rw [(out (.inr h2)).1, (out (.inr h2)).2]
    exact endQ_tc (by simp only [upd_eq, Nat.reduceEqDiff, ↓reduceIte] <;> rfl) (by simp only [upd_eq, Nat.reduceEqDiff, ↓reduceIte]) ld_43 (ld_fo r3) ⟨_, rfl, by rw [← hlv]; exact hl.ext0 X3, X3, .inr hlv.symm⟩
  have t2 : decide ((l.length : Int) ≤ ix) = false := by simp; omega
  refine W_sq fun K hK => (W_text [true, true, true, true, true, true, true, true] (by kernel_rfl) ?_); simp only [↓List.toList_toArray, ↓rgd, ↓rgf, ↓reduceIte, Nat.reduceEqDiff, rg, ow_110, e0, e1, t1, t2]
  refine hK _ _ ?_; clear hK K
  refine W_false (by simp only [evt, evc, upd_eq, Nat.reduceEqDiff, ↓reduceIte, ntT, ntF] <;> rfl) (W_skip ?_)
  show W _ _ _ _ _ _
  obtain ⟨i, rfl⟩ : ∃ i : Nat, ix = i := ⟨ix.toNat, by omega⟩
  have hi : i < l.length := by omega
  obtain ⟨x, hx⟩ : ∃ x, l[i]? = some x := ⟨_, List.getElem?_eq_getElem hi⟩
  have hn : nth l (i : Int) = some x := by simp [nth, hx]
  obtain ⟨sv1, hs1, hsl1⟩ := sl_hi (hl.ext0 n1.ext) i (by omega)
  obtain ⟨sv2, hs2, hsl2⟩ := sl_lo (hl.ext0 n1.ext) (i + 1) (by omega)
  rw [hlv] at hs1 hs2
  have q1 := wadd1 i (by omega)
  obtain ⟨lb, lo, rfl, row⟩ := (hl.ext0 n1.ext).at hlv hi
  have ixx := iV_at row hx
  have hlb : lb < w1.heap.size := (hl.ext0 n1.ext).lt hlv
  have M1 : readsB (some (some [lb])) lb = true := by simp [readsB]
  refine W_sq fun K hK => (W_draw (some (some [lb])) (some 16) [(0, 1, 0), (0, 2, 0), (0, 3, 0), (0, 5, 0), (0, 6, 0), (0, 7, 0), (0, 8, 0), (0, 10, 0), (0, 11, 0), (0, 12, 0), (0, 13, 0), (0, 14, 0), (1, 0, 0), (1, 4, 0), (1, 9, 0), (0, 15, 0), (1, 16, 0)] mixed (by kernel_rfl) ?_); simp only [↓List.toList_toArray, ↓rgd, ↓rgf, ↓reduceIte, Nat.reduceEqDiff, rg, ow_110, e0, e1, hs1, hs2, q1, hi, ixx, bu_fo1, M1]
  refine do_bsl rfl bs_i0 fun w2 n2 => ⟨.inr (keeps_on n2.ext fun y hy => ⟨?_, fun _ h => h⟩), ?_⟩
  · rw [sz_dr]
    simp only [List.mem_cons, List.not_mem_nil, or_false] at hy
    omega
  simp only [↓List.toList_toArray, ↓rgd, ↓rgf, ↓reduceIte, Nat.reduceEqDiff, rg, ow_110, e0, e1, hs1, hs2, q1, hi, ixx, bu_fo1]
  have n2 := n2.od
  have s2 := n2.size
  have hv2 : SlV w2 2 (.slice (some ⟨w1.heap.size, 0, none⟩) 0 0) 0 [] := ⟨rfl, .inr ⟨_, 0, 0, rfl, Nat.le_refl _, Row.nil _ _ _, n2.wok.R (Nat.le_refl _)⟩⟩
  refine do_append (by simp only [evt, evc, upd_eq, Nat.reduceEqDiff, ↓reduceIte, ntT, ntF] <;> rfl) (by simp only [evt, evc, upd_eq, Nat.reduceEqDiff, ↓reduceIte, ntT, ntF] <;> rfl) el_i rfl ni_i hv2 (hsl1.ext0 n2.ext) (by omega) (by decide) (flat_oc Ei _) fun v3 w3 a3 => ?_
  obtain ⟨hS3, hg3, x3⟩ := app_since (B := w1.heap.size) a3 (fun b o n c h => by simp only [Value.slice.injEq, Option.some.injEq, Addr.mk.injEq] at h; omega) (by omega)
  refine ⟨.inr (keeps_on x3 fun y hy => ?_), ?_⟩
  · simp only [List.mem_cons, List.not_mem_nil, or_false] at hy
    exact ⟨by omega, fun o h => by omega⟩
  simp only [↓List.toList_toArray, ↓rgd, ↓rgf, ↓reduceIte, Nat.reduceEqDiff, rg, ow_110, e0, e1, hs1, hs2, q1, hi, ixx, bu_fo1]
  have s3 := x3.size
  have hsl2' : SlV w3 2 sv2 (l.length - (i + 1)) (flat Ei (l.drop (i + 1))) := (hsl2.ext0 n2.ext).ext x3 fun b o c h k hk g => by
    have := hsl2.lt h
    omega
  refine do_append (by simp only [evt, evc, upd_eq, Nat.reduceEqDiff, ↓reduceIte, ntT, ntF] <;> rfl) (by simp only [evt, evc, upd_eq, Nat.reduceEqDiff, ↓reduceIte, ntT, ntF] <;> rfl) el_i rfl ni_i hS3 hsl2' (by omega) (by decide) (flat_oc Ei _) fun v4 w4 a4 => ?_
  obtain ⟨hS4, hg4, x4⟩ := app_since (B := w1.heap.size) a4 hg3 (by omega)
  refine ⟨.inr (keeps_on x4 fun y hy => ?_), ?_⟩
  · simp only [List.mem_cons, List.not_mem_nil, or_false] at hy
    exact ⟨by omega, fun o h => by omega⟩
  simp only [↓List.toList_toArray, ↓rgd, ↓rgf, ↓reduceIte, Nat.reduceEqDiff, rg, ow_110, e0, e1, hs1, hs2, q1, hi, ixx, bu_fo1]
  have s4 := x4.size
  have X4 : Ext (fun y _ => w.heap.size ≤ y) w w4 := ((n1.ext.mono (G := fun y _ => w.heap.size ≤ y) fun _ _ _ h => h.elim).tr (n2.ext.mono fun _ _ _ h => h.elim)).tr ((x3.tr x4).mono fun y o _ h => by omega)
  refine do_store (v := foV (x, true)) (by simp only [evt, evc, upd_eq, Nat.reduceEqDiff, ↓reduceIte, ntT, ntF] <;> rfl) (by simp only [evt, evc, upd_eq, Nat.reduceEqDiff, ↓reduceIte, ntT, ntF] <;> rfl) sz_43 rfl (x4.wok (x3.wok (n2.ext.wok n1.wok))) (by decide) (oc_fo _) fun w5 x5 r5 s5 => ⟨.inl trivial, ?_⟩
  simp only [↓List.toList_toArray, ↓rgd, ↓rgf, ↓reduceIte, Nat.reduceEqDiff, rg, ow_110]
  refine hK _ _ ?_; clear hK K
  refine W_ret ?_
  rw [hn]
  refine endQ_tc (by simp only [upd_eq, Nat.reduceEqDiff, ↓reduceIte] <;> rfl) (by simp only [upd_eq, Nat.reduceEqDiff, ↓reduceIte]) ld_43 (ld_fo r5) ⟨_, rfl, ?_, noF_of (Ext.refl _ _) (X4.tr (x5.mono fun y o _ h => by simp only [rng] at h; show w.heap.size ≤ y; omega)) fun y o hy h => by omega, .inl fun b o n c h => by have := hg4 _ _ _ _ h; omega⟩
  have he : cutL l (i : Int) = l.take i ++ l.drop (i + 1) := by simp [cutL, List.eraseIdx_eq_take_drop_succ]
  have hln : (cutL l (i : Int)).length = 0 + i + (l.length - (i + 1)) := by rw [he, List.length_append, List.length_take, List.length_drop]; omega
  rw [SlI, hln, he, flat_append]
  have := hS4.ext x5 fun b o c h k hk g => by
    have := hg4 _ _ _ _ h
    simp only [rng] at g
    omega
  simpa using this
set_option maxHeartbeats 800000 in
set_option maxRecDepth 8000 in
theorem drop_ord (os : Value) (ord : List Int) (l : List It) (lv : Value) (x : It) (w : World) (hO : SlInt w os ord) (hOb : ord.length ≤ 2147483647) (hl : SlI w lv l) (hbig : l.length ≤ 2147483648) :
    CallK Try.prog 96 #[os, lv, iV x] w fun v w' => ∃ sv, v = .tuple #[sv, foV (dlA ord l x)] ∧ SlI w' sv (dlU ord l x) ∧ Ext noF w w' ∧ (since w.heap.size sv ∨ sv = lv) := by
  refine calls_of_W [.tmp 6, .cell 7 43] Try.func96 rfl Try.ntmps96 Try.results96 (by simp) fun e he => ?_
  have e0 : e 0 = os := he 0 _ rfl
  have e1 : e 1 = lv := he 1 _ rfl
  have e2 : e 2 = iV x := he 2 _ rfl
  clear he
  refine W_sq fun K hK => (W_text [false, true, false] (by kernel_rfl) ?_); simp only [↓List.toList_toArray, ↓rgd, ↓rgf, ↓reduceIte, Nat.reduceEqDiff, rg, ow_96]
  refine do_box (by simp only [evt]; exact e2) fun w1 n1 => ⟨trivial, ?_⟩
  simp only [↓List.toList_toArray, ↓rgd, ↓rgf, ↓reduceIte, Nat.reduceEqDiff, rg, ow_96]
  refine do_alloc z_fo fun w2 n2 => ⟨trivial, ?_⟩
  simp only [↓List.toList_toArray, ↓rgd, ↓rgf, ↓reduceIte, Nat.reduceEqDiff, rg, ow_96]
  refine hK _ _ ?_; clear hK K
  have s1 := n1.size
  have s2 := n2.size
  have X2 := n1.ext.tr n2.ext
  have bx2 : rdA w2 w.heap.size 0 2 = some (iV x) := (n2.ext.row n1.row fun _ _ h => h).rdA 2 (by show 2 ≤ 2; omega)
  refine W_sq fun K hK => (W_text [true, true, true, false, true, true, true, true, true] (by kernel_rfl) ?_); simp only [↓List.toList_toArray, ↓rgd, ↓rgf, ↓reduceIte, Nat.reduceEqDiff, rg, ow_96, e0, e1, bx2]
  refine do_call fn_79 (by simp only [evt, evc, upd_eq, Nat.reduceEqDiff, ↓reduceIte, maT, maC, maN, isnN, isnS] <;> rfl) (place_ord os ord l lv x w2 (SlV.ext0 hO X2) hOb (SlV.ext0 hl X2) hbig) ?_
  rintro _ w3 ⟨rfl, x3⟩
  refine ⟨trivial, ?_⟩
  simp only [↓List.toList_toArray, ↓rgd, ↓rgf, ↓reduceIte, Nat.reduceEqDiff, rg, ow_96]
  refine hK _ _ ?_; clear hK K
  have s3 := x3.size
  have X3 := X2.tr x3
  refine W_seq ?_
  cases hh : hit O (rkI ord) (rkI ord x) l with
  | false =>
    refine W_sq fun K hK => (W_text [true, true] (by kernel_rfl) ?_); simp only [↓List.toList_toArray, ↓rgd, ↓rgf, ↓reduceIte, Nat.reduceEqDiff, rg, ow_96, hh]
    refine hK _ _ ?_; clear hK K
    refine W_true (by simp only [evt, evc, upd_eq, Nat.reduceEqDiff, ↓reduceIte, ntT, ntF] <;> rfl) ?_
    refine W_sq fun K hK => (W_text [true, true, true, false] (by kernel_rfl) ?_); simp only [↓List.toList_toArray, ↓rgd, ↓rgf, ↓reduceIte, Nat.reduceEqDiff, rg, ow_96, e1, bu_fo0]
    refine do_store (v := foV _) (by simp only [evt, evc, upd_eq, Nat.reduceEqDiff, ↓reduceIte, ntT, ntF] <;> rfl) (by simp only [evt, evc, upd_eq, Nat.reduceEqDiff, ↓reduceIte, ntT, ntF] <;> rfl) sz_43 rfl (x3.wok n2.wok) (by decide) (oc_fo _) fun w4 x4 r4 s4 => ⟨trivial, ?_⟩
    simp only [↓List.toList_toArray, ↓rgd, ↓rgf, ↓reduceIte, Nat.reduceEqDiff, rg, ow_96]
    refine hK _ _ ?_; clear hK K
    refine W_ret ?_
    simp only [andThen_ret]
    have X4 := noF_of X3 x4 fun y o hy h => by simp only [rng] at h; omega
    have h1 : dlA ord l x = ((0, 0), false) := by simp [dlA, foO, at?, hh]
    have h2 : dlU ord l x = l := by simp [dlU, del, hh]
    rw [h1, h2]
    exact endQ_tc (by simp only [upd_eq, Nat.reduceEqDiff, ↓reduceIte] <;> rfl) (by simp only [upd_eq, Nat.reduceEqDiff, ↓reduceIte]) ld_43 (ld_fo r4) ⟨_, rfl, SlV.ext0 hl X4, X4, .inr rfl⟩
  | true =>
    refine W_sq fun K hK => (W_text [true, true] (by kernel_rfl) ?_); simp only [↓List.toList_toArray, ↓rgd, ↓rgf, ↓reduceIte, Nat.reduceEqDiff, rg, ow_96, hh]
    refine hK _ _ ?_; clear hK K
    refine W_false (by simp only [evt, evc, upd_eq, Nat.reduceEqDiff, ↓reduceIte, ntT, ntF] <;> rfl) (W_skip ?_)
    show W _ _ _ _ _ _
    refine W_sq fun K hK => (W_text [true, true, false, true, true, true, false] (by kernel_rfl) ?_); simp only [↓List.toList_toArray, ↓rgd, ↓rgf, ↓reduceIte, Nat.reduceEqDiff, rg, ow_96, e1]
    refine do_call fn_110 (by simp only [evt, evc, upd_eq, Nat.reduceEqDiff, ↓reduceIte, maT, maC, maN, isnN, isnS] <;> rfl) (cut_since l lv _ w3 (SlV.ext0 hl X3) hbig) ?_
    rintro _ w4 ⟨sv, rfl, hs, X4, hsi⟩
    refine ⟨trivial, ?_⟩
    simp only [↓List.toList_toArray, ↓rgd, ↓rgf, ↓reduceIte, Nat.reduceEqDiff, rg, ow_96]
    rw [at_foO hh]
    rw [cut_del hh] at hs
    have s4 := X4.size
    refine do_store (v := foV _) (by simp only [evt, evc, upd_eq, Nat.reduceEqDiff, ↓reduceIte, ntT, ntF] <;> rfl) (by simp only [evt, evc, upd_eq, Nat.reduceEqDiff, ↓reduceIte, ntT, ntF] <;> rfl) sz_43 rfl ((x3.tr X4).wok n2.wok) (by decide) (oc_fo _) fun w5 x5 r5 s5 => ⟨trivial, ?_⟩
    simp only [↓List.toList_toArray, ↓rgd, ↓rgf, ↓reduceIte, Nat.reduceEqDiff, rg, ow_96]
    refine hK _ _ ?_; clear hK K
    refine W_ret ?_
    refine endQ_tc (by simp only [upd_eq, Nat.reduceEqDiff, ↓reduceIte] <;> rfl) (by simp only [upd_eq, Nat.reduceEqDiff, ↓reduceIte]) ld_43 (ld_fo r5) ⟨_, rfl, ?_, noF_of (X3.tr X4) x5 (fun y o hy h => by simp only [rng] at h; omega), hsi.imp (fun h b o n c g => by have := h b o n c g; omega) id⟩
    refine SlV.ext hs x5 fun b o c hb i hi g => ?_
    simp only [rng] at g
    rcases hsi with h | h
    · have := h _ _ _ _ hb; omega
    · have := SlV.lt hl (h.symm.trans hb); omega
end Go.Proofs.Ytanmjbkbdmeckaa
/-
  A wrapped tree that is being changed, and the answers that are kept. No condition.
-/
set_option linter.unusedSimpArgs false
set_option linter.unusedVariables false
namespace Go.Proofs.Ytanmjbkbdmeckaa
open Go Go.Proofs
/-- A slice that lies outside of a tree's cells. -/
def offB (v : Value) (F : Nat → Nat → Prop) : Prop := ∀ b o n c, v = .slice (some ⟨b, o, none⟩) n c → ∀ p, ¬ F b p
theorem offB_nil (F : Nat → Nat → Prop) : offB (.slice none 0 0) F := fun b o n c h => by cases h
theorem app_off {w w' : World} {sz n m B : Nat} {v v' : Value} {l l' : List Value} {F : Nat → Nat → Prop} (h : AppRes w sz v n m l l' v' w') (hv : since B v) (ho : offB v F) (hF : ∀ y o, F y o → y < w.heap.size) (hB : B ≤ w.heap.size) :
    offB v' F ∧ Ext (fun y _ => B ≤ y ∧ ∀ p, ¬ F y p) w w' := by
  rcases h.2 with ⟨rfl, rfl, h3⟩ | ⟨b0, o0, cap0, rfl, rfl, h3, h4, h5⟩ | ⟨cap', rfl, h2, h3⟩
  · exact ⟨ho, Ext.refl _ _⟩
  · have hb := hv _ _ _ _ rfl
    have hf := ho _ _ _ _ rfl
    refine ⟨fun b o n c h => ?_, h3.mono fun y o _ g => by simp only [rng] at g; rw [g.1]; exact ⟨hb, hf⟩⟩
    simp only [Value.slice.injEq, Option.some.injEq, Addr.mk.injEq] at h
    rw [← h.1.1]; exact hf
  · refine ⟨fun b o n c h p hp => ?_, h2.mono fun y o _ g => g.elim⟩
    simp only [Value.slice.injEq, Option.some.injEq, Addr.mk.injEq] at h
    have := hF _ _ hp
    omega
/-- A wrapped tree that is being changed (all of its cells lie behind its record at m), and the answers that are kept. -/
structure Fil (A t m d : Nat) (ord : List Int) (v : Value) (xs : List It) (rs : List (It × Bool)) (w : World) : Prop where
  bat : BAt w t m
  tr : ∃ F, TreeAt A ord w m d 1 xs F ∧ (∀ o, ¬ F t o) ∧ offB v F
  out : OutE Ef (t + 1) v rs w
  lt : m < t ∧ t < w.heap.size
/-- What the changes of a tree change. -/
def filF (m : Nat) : Nat → Nat → Prop := fun y _ => m ≤ y
theorem Fil.ext {A t m d : Nat} {ord : List Int} {v : Value} {xs : List It} {rs : List (It × Bool)} {w w' : World} (h : Fil A t m d ord v xs rs w) (x : Ext noF w w') : Fil A t m d ord v xs rs w' := by
  obtain ⟨F, h1, h2, h3⟩ := h.tr
  exact ⟨x.rd h.bat fun h => h, ⟨F, h1.ext x, h2, h3⟩, h.out.ext x, h.lt.1, Nat.lt_of_lt_of_le h.lt.2 x.size⟩
/-- One change. -/
theorem Fil.step {A t m d : Nat} {ord : List Int} {v : Value} {xs ys : List It} {rs : List (It × Bool)} {w w' : World} {F F' : Nat → Nat → Prop} (h : Fil A t m d ord v xs rs w) (hM : TreeAt A ord w m d 1 xs F) (hFt : ∀ o, ¬ F t o) (ho : offB v F)
    (X : Ext (mapF m F) w w') (hM' : TreeAt A ord w' m d 1 ys F') (hF' : ∀ y o, F' y o → F y o ∨ w.heap.size ≤ y) : Fil A t m d ord v ys rs w' ∧ Ext (filF m) w w' := by
  obtain ⟨l1, l2⟩ := h.lt
  have ht : ¬ mapF m F t 0 := fun g => by
    rcases g with g | g
    · exact hFt _ g
    · omega
  refine ⟨⟨X.rd h.bat ht, ⟨F', hM', fun o g => (hF' t o g).elim (hFt o) fun g => by omega, fun b o n c hv p g => ?_⟩, ⟨h.out.sl.ext X fun b o c hv i hi g => ?_, h.out.si⟩, l1, Nat.lt_of_lt_of_le l2 X.size⟩, X.mono fun y o _ g => ?_⟩
  · rcases hF' b p g with g | g
    · exact ho b o n c hv p g
    · have := h.out.sl.lt hv; omega
  · have := h.out.si _ _ _ _ hv
    rcases g with g | g
    · exact ho _ _ _ _ hv _ g
    · omega
  · rcases g with g | g
    · exact Nat.le_of_lt (hM.above y o g)
    · exact Nat.le_of_eq g.1.symm
/-- One answer is kept. -/
theorem Fil.app {A t m d : Nat} {ord : List Int} {v v' : Value} {xs : List It} {rs : List (It × Bool)} {x : It × Bool} {w w' : World} (h : Fil A t m d ord v xs rs w) (a : AppRes w 3 v rs.length 1 (flat Ef rs) (Ef.cel x) v' w') :
    Fil A t m d ord v' xs (rs ++ [x]) w' ∧ Ext (filF m) w w' := by
  obtain ⟨F, h1, h2, h3⟩ := h.tr
  obtain ⟨l1, l2⟩ := h.lt
  obtain ⟨g1, g2⟩ := app_off a h.out.si h3 h1.lt (by omega)
  obtain ⟨g3, _⟩ := h.out.app a (by omega)
  exact ⟨⟨g2.rd h.bat fun g => by omega, ⟨F, h1.extG g2 (fun y o hf hg => hg.2 o hf) (fun y o hg => by omega), h2, g1⟩, g3, l1, Nat.lt_of_lt_of_le l2 g2.size⟩, g2.mono fun y o _ g => Nat.le_trans (Nat.le_of_lt l1) (Nat.le_of_succ_le g.1)⟩
end Go.Proofs.Ytanmjbkbdmeckaa
/-
  The reference: lists from a key, down to a key, turned, cut off. No condition.
-/
set_option linter.unusedSimpArgs false
set_option linter.unusedVariables false
namespace Go.Proofs.Ytanmjbkbdmeckaa
open Go Go.Proofs
theorem treeG_asc (ord : List Int) (l : List It) : Asc O (rkI ord) (treeG ord l) := by
  have : ∀ (l : List It) (xs : List It), Asc O (rkI ord) xs → Asc O (rkI ord) (l.foldl (fun xs x => put O (rkI ord) x xs) xs) := by
    intro l
    induction l with
    | nil => intro xs h; exact h
    | cons x l ih => intro xs h; exact ih _ (put_asc O (rkI ord) h)
  exact this l [] List.Pairwise.nil
theorem iXi_at {w : World} {b o : Nat} {x : It} (h : Row w b o (Ei.cel x)) : rdA w b o 2 = some (iV x) := h.rdA 2 (Nat.le_refl _)

end Go.Proofs.Ytanmjbkbdmeckaa
/-
  The law on DeleteAt. No condition.
-/
set_option linter.unusedSimpArgs false
set_option linter.unusedVariables false
namespace Go.Proofs.Ytanmjbkbdmeckaa
open Go Go.Proofs
/-- What an index answers. -/
def idA (xs : List It) (k : Int) : It × Bool := foO (nth xs k)
theorem cutL_len2 (xs : List It) (k : Int) : (cutL xs k).length ≤ xs.length := by
  unfold cutL
  split
  · exact List.length_eraseIdx_le ..
  · exact Nat.le_refl _
def exP : List Int := [0, 2, 5, -1, 100]
theorem bs_exP : bsV Try.prog 22 5 [(0, .int .i64 0), (1, .int .i64 2), (2, .int .i64 5), (3, .int .i64 (-1)), (4, .int .i64 100)] = some (3, flat En exP) := by kernel_rfl
set_option maxHeartbeats 400000 in
set_option maxRecDepth 8000 in
theorem exPlaces_any (w : World) : CallK Try.prog 42 #[] w fun v w' => SlV w' 1 v exP.length (flat En exP) ∧ Ext noF w w' := by
  refine calls_of_W (args := []) [.tmp 0] Try.func42 rfl Try.ntmps42 Try.results42 (by simp) fun e he => ?_
  clear he
  refine W_sq fun K hK => (W_text [true] (by kernel_rfl) ?_); simp only [↓List.toList_toArray, ↓rgd, ↓rgf, ↓reduceIte, Nat.reduceEqDiff, rg]
  refine hK _ _ ?_; clear hK K
  refine W_sq fun K hK => (W_text [false, true] (by kernel_rfl) ?_); simp only [↓List.toList_toArray, ↓rgd, ↓rgf, ↓reduceIte, Nat.reduceEqDiff, rg]
  refine do_bsl rfl bs_exP fun w1 n1 => ⟨trivial, ?_⟩
  simp only [↓List.toList_toArray, ↓rgd, ↓rgf, ↓reduceIte, Nat.reduceEqDiff, rg]
  refine hK _ _ ?_; clear hK K
  exact W_ret (endQ_1 (by simp only [upd_eq, Nat.reduceEqDiff, ↓reduceIte] <;> rfl) ⟨⟨rfl, .inr ⟨_, 0, 5, rfl, Nat.le_refl _, n1.row, n1.wok.R (Nat.le_refl _)⟩⟩, n1.ext⟩)
set_option maxHeartbeats 800000 in
set_option maxRecDepth 8000 in
theorem tdelat_any (t B m d : Nat) (iso : Int) (ord : List Int) (I : Int) (hd : 2 ≤ d) (hd' : d ≤ 128) (X : List It) (F : Nat → Nat → Prop) (w : World) (ht : BAt w t m) (hM : TreeAt B ord w m d iso X F) (hbig : X.length ≤ 2147483648) :
    CallK Try.prog 109 #[ptr t, .int .i64 I] w fun v w' => v = itO (nth X I) ∧ Ext (mapF m F) w w' ∧ ∃ F', TreeAt B ord w' m d iso (cutL X I) F' ∧ ∀ y o, F' y o → F y o ∨ w.heap.size ≤ y := by
  refine calls_of_W [.tmp 4] Try.func109 rfl Try.ntmps109 Try.results109 (by simp) fun e he => ?_
  have e0 : e 0 = ptr t := he 0 _ rfl
  have e1 : e 1 = .int .i64 I := he 1 _ rfl
  clear he
  have ht : rd w t 0 = some (ptr m) := ht
  refine W_sq fun K hK => (W_text [true] (by kernel_rfl) ?_); simp only [↓List.toList_toArray, ↓rgd, ↓rgf, ↓reduceIte, Nat.reduceEqDiff, rg, ow_109]
  refine hK _ _ ?_; clear hK K
  refine W_sq fun K hK => (W_text [true, true, true, true, true, false, true, true, true, true, true] (by kernel_rfl) ?_); simp only [↓List.toList_toArray, ↓rgd, ↓rgf, ↓reduceIte, Nat.reduceEqDiff, rg, ow_109, e0, e1, ptr_eq, ht]
  refine do_call fn_140 (vs := #[ptr m, .int .i64 I]) (by simp only [evt, evc, upd_eq, Nat.reduceEqDiff, ↓reduceIte, maT, maC, maN, isnN, isnS] <;> rfl) (delAtG_any B m d iso ord I hd hd' X F w hM hbig) ?_
  rintro _ w1 ⟨rfl, h1, h3⟩
  have h3 : ∃ F', TreeAt B ord w1 m d iso (cutL X I) F' ∧ ∀ y o, F' y o → F y o ∨ w.heap.size ≤ y := h3
  refine ⟨trivial, ?_⟩
  simp only [↓List.toList_toArray, ↓rgd, ↓rgf, ↓reduceIte, Nat.reduceEqDiff, rg, ow_109, gotG_eq]
  refine hK _ _ ?_; clear hK K
  refine W_seq ?_
  generalize nth X I = r at *
  cases r with
  | some y =>
    have hy : (some y).isSome = true := rfl
    refine W_sq fun K hK => (W_text [true, true] (by kernel_rfl) ?_); simp only [↓List.toList_toArray, ↓rgd, ↓rgf, ↓reduceIte, Nat.reduceEqDiff, rg, ow_109, hy]
    refine hK _ _ ?_; clear hK K
    refine W_false (by simp only [evt, evc, upd_eq, Nat.reduceEqDiff, ↓reduceIte, ntT, ntF] <;> rfl) (W_skip ?_)
    show W _ _ _ _ _ _
    refine W_sq fun K hK => (W_text [true, true] (by kernel_rfl) ?_); simp only [↓List.toList_toArray, ↓rgd, ↓rgf, ↓reduceIte, Nat.reduceEqDiff, rg, ow_109]
    refine hK _ _ ?_; clear hK K
    exact W_ret (endQ_1 (by simp only [upd_eq, Nat.reduceEqDiff, ↓reduceIte] <;> rfl) ⟨rfl, h1, h3⟩)
  | none =>
    have hy : (none : Option It).isSome = false := rfl
    refine W_sq fun K hK => (W_text [true, true] (by kernel_rfl) ?_); simp only [↓List.toList_toArray, ↓rgd, ↓rgf, ↓reduceIte, Nat.reduceEqDiff, rg, ow_109, hy]
    refine hK _ _ ?_; clear hK K
    refine W_true (by simp only [evt, evc, upd_eq, Nat.reduceEqDiff, ↓reduceIte, ntT, ntF] <;> rfl) ?_
    refine W_sq fun K hK => (W_text [true] (by kernel_rfl) ?_); simp only [↓List.toList_toArray, ↓rgd, ↓rgf, ↓reduceIte, Nat.reduceEqDiff, rg, ow_109]
    refine hK _ _ ?_; clear hK K
    refine W_ret ?_
    simp only [andThen_ret]
    exact endQ_1 (by simp only [upd_eq, Nat.reduceEqDiff, ↓reduceIte] <;> rfl) ⟨rfl, h1, h3⟩
set_option maxHeartbeats 1600000 in
set_option maxRecDepth 8000 in
theorem impl_bdelat (d : Nat) (hd : DOk d) (ord : List Int) (sv : Value) (nl : Bool) (l : List It) (lv : Value) (ks : List Int) (kv : Value) (w : World) (hs : SlInt w sv ord) (hsb : ord.length ≤ 2147483647) (hl : SlI w lv l) (hbig : l.length ≤ 2147483647) (hks : SlV w 1 kv ks.length (flat En ks)) (hkb : ks.length ≤ 2147483647) :
    CallK Try.prog 74 #[mkV sv d nl, lv, kv] w fun v w' => ∃ v1 v2, v = .tuple #[v1, v2] ∧ SlV w' 3 v1 ks.length (flat Ef (runR cutL idA (treeG ord l) ks)) ∧ SlI w' v2 (runL cutL (treeG ord l) ks) ∧ Ext noF w w' := by
  refine calls_of_W [.tmp 6, .tmp 7] Try.func74 rfl Try.ntmps74 Try.results74 (by simp) fun e he => ?_
  have e0 : e 0 = mkV sv d nl := he 0 _ rfl
  have e1 : e 1 = lv := he 1 _ rfl
  have e2 : e 2 = kv := he 2 _ rfl
  clear he
  obtain ⟨ka, kc, hkv⟩ := SlV.shape hks
  rw [hkv] at e2
  obtain ⟨hd2, hd3⟩ := hd.of
  have htr := treeG_len ord l
  refine W_sq fun K hK => (W_text [false, true, true] (by kernel_rfl) ?_); simp only [↓List.toList_toArray, ↓rgd, ↓rgf, ↓reduceIte, Nat.reduceEqDiff, rg, ow_74]
  refine do_box (by simp only [evt]; exact e0) fun w1 n1 => ⟨trivial, ?_⟩
  simp only [↓List.toList_toArray, ↓rgd, ↓rgf, ↓reduceIte, Nat.reduceEqDiff, rg, ow_74]
  refine hK _ _ ?_; clear hK K
  have rm := mk_at (show Row w1 w.heap.size 0 (mkL sv d nl) from n1.row)
  refine W_sq fun K hK => (W_text [true, true, false, true] (by kernel_rfl) ?_); simp only [↓List.toList_toArray, ↓rgd, ↓rgf, ↓reduceIte, Nat.reduceEqDiff, rg, ow_74, e1, rm]
  refine do_call fn_53 (by simp only [evt, evc, upd_eq, Nat.reduceEqDiff, ↓reduceIte, maT, maC, maN, isnN, isnS] <;> rfl) (growB_any d hd ord sv nl l lv w1 (SlV.ext0 hs n1.ext) hsb (SlV.ext0 hl n1.ext) (by omega)) ?_
  rintro _ w0 ⟨X2, t, A, m, F, rfl, hbt, htw, hFt, htl2, hM0, hmw, hmt, hFw, hBw⟩
  have X02 := n1.ext.tr X2
  have s1 := n1.size
  have s02 := X02.size
  refine ⟨trivial, ?_⟩
  simp only [↓List.toList_toArray, ↓rgd, ↓rgf, ↓reduceIte, Nat.reduceEqDiff, rg, ow_74]
  refine hK _ _ ?_; clear hK K
  refine W_sq fun K hK => (W_text [true] (by kernel_rfl) ?_); simp only [↓List.toList_toArray, ↓rgd, ↓rgf, ↓reduceIte, Nat.reduceEqDiff, rg, ow_74]
  refine hK _ _ ?_; clear hK K
  have hk0 : SlV w0 1 kv ks.length (flat En ks) := SlV.ext0 hks X02
  have hfill : Fil A t m (degOf d) ord (.slice none 0 0) (runL cutL (treeG ord l) (ks.take 0)) (runR cutL idA (treeG ord l) (ks.take 0)) w0 := ⟨hbt, ⟨F, hM0, hFt, offB_nil _⟩, OutE.nil _ _ _, hmt, htl2⟩
  have hkl : ∀ b o n c, kv = .slice (some ⟨b, o, none⟩) n c → b < w.heap.size := fun b o n c h => SlV.lt hks h
  clear hM0 X2 n1

  refine W_seq (W_seq ?_)
  refine W_rg fun K hK => (W_text [true, true, true] (by kernel_rfl) ?_); simp only [↓List.toList_toArray, ↓rgd, ↓rgf, ↓reduceIte, Nat.reduceEqDiff, rg, ow_74, e2]
  refine hK _ _ ?_; clear hK K
  show W _ _ _ _ _ _
  refine W_block (W_loop (fun mm e w' => ∃ k : Nat, mm = ks.length - k ∧ k ≤ ks.length ∧ e 15 = .slice ka ks.length kc ∧ e 16 = .int .i64 ks.length ∧ e 17 = .int .i64 k ∧ e 8 = ptr t ∧ Fil A t m (degOf d) ord (e 9) (runL cutL (treeG ord l) (ks.take k)) (runR cutL idA (treeG ord l) (ks.take k)) w' ∧ Ext (filF m) w0 w')
    ks.length ⟨0, by simp, by simp, by simp only [upd_eq, Nat.reduceEqDiff, ↓reduceIte], by simp only [upd_eq, Nat.reduceEqDiff, ↓reduceIte], by simp only [upd_eq, Nat.reduceEqDiff, ↓reduceIte]; rfl, by simp only [upd_eq, Nat.reduceEqDiff, ↓reduceIte], by simp only [upd_eq, Nat.reduceEqDiff, ↓reduceIte]; exact hfill, Ext.refl _ _⟩ ?_)
  clear hfill e0 e1 e2 e
  rintro mm e w' ⟨k, rfl, hk, eS, eL, eI, eM, hfl, X⟩
  by_cases hlt : k < ks.length
  · have ht := lt_tt k ks.length hlt
    refine W_sq fun K hK => (W_text [true] (by kernel_rfl) ?_); simp only [↓List.toList_toArray, ↓rgd, ↓rgf, ↓reduceIte, Nat.reduceEqDiff, rg, ow_74, eL, eI, ht]
    refine hK _ _ ?_; clear hK K
    refine W_seq (W_true (by simp only [evt, evc, upd_eq, Nat.reduceEqDiff, ↓reduceIte, ntT, ntF] <;> rfl) (W_skip ?_))
    show W _ _ _ _ _ _
    obtain ⟨x, hx⟩ : ∃ x, ks[k]? = some x := ⟨_, List.getElem?_eq_getElem hlt⟩
    obtain ⟨ib, io, hka, row⟩ := SlV.at hk0 hkv hlt
    have hibl := SlV.lt hk0 (hkv.trans (by rw [hka]))
    have ixx := nV_at (X.row row (fun _ _ h => by have := hkl _ _ _ _ (hkv.trans (by rw [hka])); have : m ≤ _ := h; omega)) hx
    rw [hka] at eS
    refine W_seq (W_block ?_)
    refine W_sq fun K hK => (W_text [true, true, true] (by kernel_rfl) ?_); simp only [↓List.toList_toArray, ↓rgd, ↓rgf, ↓reduceIte, Nat.reduceEqDiff, rg, ow_74, eS, eI, hlt, ixx]
    refine hK _ _ ?_; clear hK K
    have X3 : Ext noF w' w' := Ext.refl _ _
    rw [← hka] at eS
    have sX := X.size
    obtain ⟨l1, l2⟩ := hfl.lt
    have hfl3 := hfl.ext X3
    obtain ⟨F0, hM0, hF0, ho0⟩ := hfl.tr
    have htl := runL_len cutL cutL_len2 (ks.take k) (treeG ord l)
    refine W_rg fun K hK => (W_text [true, true, true, false, false, false, false, true] (by kernel_rfl) ?_); simp only [↓List.toList_toArray, ↓rgd, ↓rgf, ↓reduceIte, Nat.reduceEqDiff, rg, ow_74, eM]
    refine do_call fn_109 (vs := #[ptr t, .int .i64 x]) (by simp only [evt, evc, upd_eq, Nat.reduceEqDiff, ↓reduceIte, maT, maC, maN, isnN, isnS] <;> rfl) (tdelat_any t A m (degOf d) 1 ord x hd2 hd3 _ F0 w' (hfl3.bat) (hM0.ext X3) (by omega)) ?_
    rintro _ w4 ⟨rfl, x4, F', hM4, hF'⟩
    refine ⟨trivial, ?_⟩
    simp only [↓List.toList_toArray, ↓rgd, ↓rgf, ↓reduceIte, Nat.reduceEqDiff, rg, ow_74]
    obtain ⟨hfl4, X4⟩ := hfl3.step (hM0.ext X3) hF0 ho0 x4 hM4 hF'
    refine do_call fn_54 (by simp only [evt, evc, upd_eq, Nat.reduceEqDiff, ↓reduceIte, maT, maC, maN, isnN, isnS] <;> rfl) (found_any _ w4) ?_
    rintro _ w5 ⟨rfl, X5⟩
    refine ⟨trivial, ?_⟩
    simp only [↓List.toList_toArray, ↓rgd, ↓rgf, ↓reduceIte, Nat.reduceEqDiff, rg, ow_74]
    refine do_bsl rfl (bs_fo1 _) fun w6 n6 => ⟨trivial, ?_⟩
    simp only [↓List.toList_toArray, ↓rgd, ↓rgf, ↓reduceIte, Nat.reduceEqDiff, rg, ow_74]
    have X6 := X5.tr n6.ext
    have s6 := X6.size
    have hrl : (runR cutL idA (treeG ord l) (ks.take k)).length = k := by rw [runR_length, List.length_take]; omega
    have hx6 : SlV w6 3 (.slice (some ⟨w5.heap.size, 0, none⟩) 1 1) 1 (Ef.cel (idA (runL cutL (treeG ord l) (ks.take k)) x)) := ⟨rfl, .inr ⟨_, 0, 1, rfl, Nat.le_refl _, n6.row, n6.wok.R (Nat.le_refl _)⟩⟩
    have hfl6 := hfl4.ext X6
    refine do_append (by simp only [evt, evc, upd_eq, Nat.reduceEqDiff, ↓reduceIte, ntT, ntF] <;> rfl) (by simp only [evt, evc, upd_eq, Nat.reduceEqDiff, ↓reduceIte, ntT, ntF] <;> rfl) el_fo rfl ni_fo hfl6.out.sl hx6 (by omega) (by decide) (Ef.one _) fun v7 w7 a7 => ?_
    obtain ⟨hfl7, X7⟩ := hfl6.app a7
    refine ⟨trivial, ?_⟩
    simp only [↓List.toList_toArray, ↓rgd, ↓rgf, ↓reduceIte, Nat.reduceEqDiff, rg, ow_74]
    refine hK _ _ ?_; clear hK K
    show W _ _ _ _ _ _
    have q1 := wadd1 k (by omega)
    refine W_rg fun K hK => (W_text [true, true] (by kernel_rfl) ?_); simp only [↓List.toList_toArray, ↓rgd, ↓rgf, ↓reduceIte, Nat.reduceEqDiff, rg, ow_74, eI, q1]
    refine hK _ _ ?_; clear hK K
    refine ⟨_, ?_, k + 1, rfl, hlt, by simp only [upd_eq, Nat.reduceEqDiff, ↓reduceIte]; exact eS, by simp only [upd_eq, Nat.reduceEqDiff, ↓reduceIte]; exact eL, by simp only [upd_eq, Nat.reduceEqDiff, ↓reduceIte], by simp only [upd_eq, Nat.reduceEqDiff, ↓reduceIte]; exact eM, by simp only [upd_eq, Nat.reduceEqDiff, ↓reduceIte]; rw [take_sn hx, runR_snoc, runL_snoc]; exact hfl7, (((X.tr (X3.mono fun _ _ _ h => h.elim)).tr X4).tr (X6.mono fun _ _ _ h => h.elim)).tr X7⟩
    omega
  · obtain rfl : k = ks.length := by omega
    have ht := lt_ff ks.length ks.length (by omega)
    refine W_sq fun K hK => (W_text [true] (by kernel_rfl) ?_); simp only [↓List.toList_toArray, ↓rgd, ↓rgf, ↓reduceIte, Nat.reduceEqDiff, rg, ow_74, eL, eI, ht]
    refine hK _ _ ?_; clear hK K
    refine W_seq (W_false (by simp only [evt, evc, upd_eq, Nat.reduceEqDiff, ↓reduceIte, ntT, ntF] <;> rfl) (W_exit ?_))
    simp only [andThen_exit, inBlk_exit, andThen_normal, ↓reduceIte]
    rw [List.take_length] at hfl
    obtain ⟨F, hM, hFB, ho⟩ := hfl.tr
    obtain ⟨l1, l2⟩ := hfl.lt
    have htl := runL_len cutL cutL_len2 ks (treeG ord l)
    refine W_sq fun K hK => (W_text [true, true, false, true, true] (by kernel_rfl) ?_); simp only [↓List.toList_toArray, ↓rgd, ↓rgf, ↓reduceIte, Nat.reduceEqDiff, rg, ow_74, eM]
    refine do_call fn_56 (vs := #[ptr t]) (by simp only [evt, evc, upd_eq, Nat.reduceEqDiff, ↓reduceIte, maT, maC, maN, isnN, isnS] <;> rfl) (allOf_any t A m (degOf d) ord hd2 1 _ F w' hfl.bat hM (by omega)) ?_
    rintro v8 w8 ⟨hO, X8⟩
    refine ⟨trivial, ?_⟩
    simp only [↓List.toList_toArray, ↓rgd, ↓rgf, ↓reduceIte, Nat.reduceEqDiff, rg, ow_74]
    refine hK _ _ ?_; clear hK K
    refine W_ret (endQ_2 (by simp only [upd_eq, Nat.reduceEqDiff, ↓reduceIte] <;> rfl) (by simp only [upd_eq, Nat.reduceEqDiff, ↓reduceIte] <;> rfl) ⟨_, _, rfl, ?_, hO, ?_⟩)
    · have := (hfl.out.ext X8).sl
      rwa [runR_length] at this
    refine (noF_of X02 X fun y o hy h => ?_).tr X8
    have : m ≤ y := h
    omega
set_option maxHeartbeats 1600000 in
set_option maxRecDepth 8000 in
theorem sgdelat (d : Nat) (hd : DOk d) (ord : List Int) (sv : Value) (nl : Bool) (l : List It) (lv : Value) (ks : List Int) (kv : Value) (w : World) (hs : SlInt w sv ord) (hsb : ord.length ≤ 2147483647) (hl : SlI w lv l) (hbig : l.length ≤ 2147483647) (hks : SlV w 1 kv ks.length (flat En ks)) (hkb : ks.length ≤ 2147483647) :
    CallK Try.prog 75 #[mkV sv d nl, lv, kv] w fun v w' => ∃ v1 v2, v = .tuple #[v1, v2] ∧ SlV w' 3 v1 ks.length (flat Ef (runR cutL idA (treeG ord l) ks)) ∧ SlI w' v2 (runL cutL (treeG ord l) ks) ∧ Ext noF w w' := by
  obtain ⟨ka, kc, hkv⟩ := SlV.shape hks
  refine calls_of_W [.tmp 6, .tmp 7] Try.func75 rfl Try.ntmps75 Try.results75 (by simp) fun e he => ?_
  have e0 : e 0 = mkV sv d nl := he 0 _ rfl
  have e1 : e 1 = lv := he 1 _ rfl
  have e2 : e 2 = kv := he 2 _ rfl
  clear he
  rw [hkv] at e2
  refine W_sq fun K hK => (W_text [false, true, true] (by kernel_rfl) ?_); simp only [↓List.toList_toArray, ↓rgd, ↓rgf, ↓reduceIte, Nat.reduceEqDiff, rg, ow_75]
  refine do_box (by simp only [evt]; exact e0) fun w1 n1 => ⟨trivial, ?_⟩
  simp only [↓List.toList_toArray, ↓rgd, ↓rgf, ↓reduceIte, Nat.reduceEqDiff, rg, ow_75]
  refine hK _ _ ?_; clear hK K
  have s1 := n1.size
  have r1 : rd w1 w.heap.size 0 = some sv := mk_at0 (show Row w1 w.heap.size 0 (mkL sv d nl) from n1.row)
  refine W_sq fun K hK => (W_text [true, true, true, false, true] (by kernel_rfl) ?_); simp only [↓List.toList_toArray, ↓rgd, ↓rgf, ↓reduceIte, Nat.reduceEqDiff, rg, ow_75, e1, ptr_eq, r1]
  refine do_call fn_60 (by simp only [evt, evc, upd_eq, Nat.reduceEqDiff, ↓reduceIte, maT, maC, maN, isnN, isnS] <;> rfl) (stree_ord sv ord l lv w1 (SlV.ext0 hs n1.ext) hsb (SlV.ext0 hl n1.ext) hbig) ?_
  rintro v2 w2 ⟨hT0, X12⟩
  refine ⟨trivial, ?_⟩
  simp only [↓List.toList_toArray, ↓rgd, ↓rgf, ↓reduceIte, Nat.reduceEqDiff, rg, ow_75]
  refine hK _ _ ?_; clear hK K
  have s2 := X12.size
  have r2 : rd w2 w.heap.size 0 = some sv := X12.rd r1 fun h => h
  have X2 := n1.ext.tr X12
  have htl := treeG_len ord l
  have hs2 := SlV.ext0 hs X2
  refine W_sq fun K hK => (W_text [true] (by kernel_rfl) ?_); simp only [↓List.toList_toArray, ↓rgd, ↓rgf, ↓reduceIte, Nat.reduceEqDiff, rg, ow_75]
  refine hK _ _ ?_; clear hK K
  refine W_seq (W_seq ?_)
  refine W_rg fun K hK => (W_text [true, true, true] (by kernel_rfl) ?_); simp only [↓List.toList_toArray, ↓rgd, ↓rgf, ↓reduceIte, Nat.reduceEqDiff, rg, ow_75, e2]
  refine hK _ _ ?_; clear hK K
  show W _ _ _ _ _ _
  refine W_block (W_loop (fun mm e w' => ∃ k : Nat, mm = ks.length - k ∧ k ≤ ks.length ∧ e 3 = ptr w.heap.size ∧ e 17 = .slice ka ks.length kc ∧ e 18 = .int .i64 ks.length ∧ e 19 = .int .i64 k ∧ OutE Ef w2.heap.size (e 9) (runR cutL idA (treeG ord l) (ks.take k)) w' ∧ SlI w' (e 8) (runL cutL (treeG ord l) (ks.take k)) ∧ apart2 (e 9) (e 8) ∧ Ext (fun y _ => w2.heap.size ≤ y) w2 w')
    ks.length ⟨0, by simp, by simp, by simp only [upd_eq, Nat.reduceEqDiff, ↓reduceIte]; rfl, by simp only [upd_eq, Nat.reduceEqDiff, ↓reduceIte], by simp only [upd_eq, Nat.reduceEqDiff, ↓reduceIte], by simp only [upd_eq, Nat.reduceEqDiff, ↓reduceIte]; rfl, by simp only [upd_eq, Nat.reduceEqDiff, ↓reduceIte]; exact OutE.nil _ _ _, by simp only [upd_eq, Nat.reduceEqDiff, ↓reduceIte]; exact hT0, by simp only [upd_eq, Nat.reduceEqDiff, ↓reduceIte]; exact (fun b o n c o' n' c' h => by cases h), Ext.refl _ _⟩ ?_)
  clear e0 e1 e2 e
  rintro mm e w' ⟨k, rfl, hk, e3, eS, eL, eI, hO, hT, hap, X⟩
  have sX := X.size
  by_cases hlt : k < ks.length
  · have ht := lt_tt k ks.length hlt
    refine W_sq fun K hK => (W_text [true] (by kernel_rfl) ?_); simp only [↓List.toList_toArray, ↓rgd, ↓rgf, ↓reduceIte, Nat.reduceEqDiff, rg, ow_75, eL, eI, ht]
    refine hK _ _ ?_; clear hK K
    refine W_seq (W_true (by simp only [evt, evc, upd_eq, Nat.reduceEqDiff, ↓reduceIte, ntT, ntF] <;> rfl) (W_skip ?_))
    show W _ _ _ _ _ _
    obtain ⟨x, hx⟩ : ∃ x, ks[k]? = some x := ⟨_, List.getElem?_eq_getElem hlt⟩
    obtain ⟨ib, io, hka, row⟩ := SlV.at hks hkv hlt
    have hibl := SlV.lt hks (hkv.trans (by rw [hka]))
    have ixx := nV_at (X.row (X2.row row fun _ _ h => h) fun _ _ h => by omega) hx
    rw [hka] at eS
    refine W_seq (W_block ?_)
    refine W_sq fun K hK => (W_text [true, true, true] (by kernel_rfl) ?_); simp only [↓List.toList_toArray, ↓rgd, ↓rgf, ↓reduceIte, Nat.reduceEqDiff, rg, ow_75, eS, eI, hlt, ixx]
    refine hK _ _ ?_; clear hK K
    have X4 : Ext noF w' w' := Ext.refl _ _
    have s3 : w'.heap.size = w'.heap.size := rfl
    have s4 : w'.heap.size = w'.heap.size := rfl
    rw [← hka] at eS
    refine W_sq fun K hK => (W_text [false] (by kernel_rfl) ?_); simp only [↓List.toList_toArray, ↓rgd, ↓rgf, ↓reduceIte, Nat.reduceEqDiff, rg, ow_75]
    refine do_alloc z_fo fun w5 n5 => ⟨trivial, ?_⟩
    simp only [↓List.toList_toArray, ↓rgd, ↓rgf, ↓reduceIte, Nat.reduceEqDiff, rg, ow_75]
    refine hK _ _ ?_; clear hK K
    have s5 := n5.size
    have X5 := X4.tr n5.ext
    have r5 : rd w5 w.heap.size 0 = some sv := X5.rd (X.rd r2 (by omega)) fun h => h
    have hdl := runL_len cutL cutL_len2 (ks.take k) (treeG ord l)
    have htk : (ks.take k).length ≤ k := by rw [List.length_take]; omega
    refine W_sq fun K hK => (W_text [true, true, false, true, true, true, true, false] (by kernel_rfl) ?_); simp only [↓List.toList_toArray, ↓rgd, ↓rgf, ↓reduceIte, Nat.reduceEqDiff, rg, ow_75]
    refine do_call fn_110 (vs := #[e 8, .int .i64 x]) (by simp only [evt, evc, upd_eq, Nat.reduceEqDiff, ↓reduceIte, maT, maC, maN, isnN, isnS] <;> rfl) (cut_since (runL cutL (treeG ord l) (ks.take k)) (e 8) x w5 (SlV.ext0 hT X5) (by omega)) ?_
    rintro _ w6 ⟨sw, rfl, hS6, X6, hsv⟩
    refine ⟨trivial, ?_⟩
    simp only [↓List.toList_toArray, ↓rgd, ↓rgf, ↓reduceIte, Nat.reduceEqDiff, rg, ow_75]
    refine do_store (v := foV _) (by simp only [evt, evc, upd_eq, Nat.reduceEqDiff, ↓reduceIte, ntT, ntF] <;> rfl) (by simp only [evt, evc, upd_eq, Nat.reduceEqDiff, ↓reduceIte, ntT, ntF] <;> rfl) sz_43 rfl (X6.wok n5.wok) (by decide) (oc_fo _) fun w7 x7 r7 s7 => ⟨trivial, ?_⟩
    simp only [↓List.toList_toArray, ↓rgd, ↓rgf, ↓reduceIte, Nat.reduceEqDiff, rg, ow_75]
    refine hK _ _ ?_; clear hK K
    have s6 := X6.size
    have X7 : Ext noF w' w7 := noF_of (X5.tr X6) x7 fun y o hy h => by simp only [rng] at h; omega
    have l7 : rdA w7 w'.heap.size 0 3 = some (foV (idA (runL cutL (treeG ord l) (ks.take k)) x)) := (show Row w7 w'.heap.size 0 (Ef.cel _) from r7).rdA 3 (by simp [Ef])
    refine W_rg fun K hK => (W_text [true, true, false, false, true] (by kernel_rfl) ?_); simp only [↓List.toList_toArray, ↓rgd, ↓rgf, ↓reduceIte, Nat.reduceEqDiff, rg, ow_75, l7]
    refine do_bsl rfl (bs_fo1 _) fun w8 n8 => ⟨trivial, ?_⟩
    simp only [↓List.toList_toArray, ↓rgd, ↓rgf, ↓reduceIte, Nat.reduceEqDiff, rg, ow_75]
    have X8 := X7.tr n8.ext
    have s8 := X8.size
    have s78 := n8.size
    have hrl : (runR cutL idA (treeG ord l) (ks.take k)).length = k := by rw [runR_length, List.length_take]; omega
    have hx8 : SlV w8 3 (.slice (some ⟨w7.heap.size, 0, none⟩) 1 1) 1 (Ef.cel (idA (runL cutL (treeG ord l) (ks.take k)) x)) := ⟨rfl, .inr ⟨_, 0, 1, rfl, Nat.le_refl _, n8.row, n8.wok.R (Nat.le_refl _)⟩⟩
    refine do_append (by simp only [evt, evc, upd_eq, Nat.reduceEqDiff, ↓reduceIte, ntT, ntF] <;> rfl) (by simp only [evt, evc, upd_eq, Nat.reduceEqDiff, ↓reduceIte, ntT, ntF] <;> rfl) el_fo rfl ni_fo (hO.ext X8).sl hx8 (by omega) (by decide) (Ef.one _) fun v9 w9 a9 => ?_
    have hapsv : apart2 (e 9) sw := fun b o n c o' n' c' g1 g2 => by
      rcases hsv with h | h
      · have := hO.sl.lt g1
        have := h _ _ _ _ g2
        omega
      · exact hap _ _ _ _ _ _ _ g1 (h.symm.trans g2)
    have hS8 : SlI w8 sw (cutL (runL cutL (treeG ord l) (ks.take k)) x) := by
      refine SlV.ext0 ?_ n8.ext
      exact SlV.ext hS6 x7 fun b o cap hb i hi g => by
        simp only [rng] at g
        rcases hsv with h | h
        · have := h _ _ _ _ hb; omega
        · have := SlV.lt hT (h.symm.trans hb); omega
    obtain ⟨hO9, X9⟩ := (hO.ext X8).app a9 (by omega)
    obtain ⟨hS9, hap9⟩ := app_other a9 hS8 hapsv
    refine ⟨trivial, ?_⟩
    simp only [↓List.toList_toArray, ↓rgd, ↓rgf, ↓reduceIte, Nat.reduceEqDiff, rg, ow_75]
    refine hK _ _ ?_; clear hK K
    show W _ _ _ _ _ _
    have q1 := wadd1 k (by omega)
    refine W_rg fun K hK => (W_text [true, true] (by kernel_rfl) ?_); simp only [↓List.toList_toArray, ↓rgd, ↓rgf, ↓reduceIte, Nat.reduceEqDiff, rg, ow_75, eI, q1]
    refine hK _ _ ?_; clear hK K
    refine ⟨_, ?_, k + 1, rfl, hlt, by simp only [upd_eq, Nat.reduceEqDiff, ↓reduceIte]; exact e3, by simp only [upd_eq, Nat.reduceEqDiff, ↓reduceIte]; exact eS, by simp only [upd_eq, Nat.reduceEqDiff, ↓reduceIte]; exact eL, by simp only [upd_eq, Nat.reduceEqDiff, ↓reduceIte], by simp only [upd_eq, Nat.reduceEqDiff, ↓reduceIte]; rw [take_sn hx, runR_snoc]; exact hO9, by simp only [upd_eq, Nat.reduceEqDiff, ↓reduceIte]; rw [take_sn hx, runL_snoc]; exact hS9, by simp only [upd_eq, Nat.reduceEqDiff, ↓reduceIte]; exact hap9, (X.tr (X8.mono fun _ _ _ h => h.elim)).tr X9⟩
    omega
  · obtain rfl : k = ks.length := by omega
    have ht := lt_ff ks.length ks.length (by omega)
    refine W_sq fun K hK => (W_text [true] (by kernel_rfl) ?_); simp only [↓List.toList_toArray, ↓rgd, ↓rgf, ↓reduceIte, Nat.reduceEqDiff, rg, ow_75, eL, eI, ht]
    refine hK _ _ ?_; clear hK K
    refine W_seq (W_false (by simp only [evt, evc, upd_eq, Nat.reduceEqDiff, ↓reduceIte, ntT, ntF] <;> rfl) (W_exit ?_))
    simp only [andThen_exit, inBlk_exit, andThen_normal, ↓reduceIte]
    refine W_sq fun K hK => (W_text [true, true, true, true] (by kernel_rfl) ?_); simp only [↓List.toList_toArray, ↓rgd, ↓rgf, ↓reduceIte, Nat.reduceEqDiff, rg, ow_75]
    refine hK _ _ ?_; clear hK K
    rw [List.take_length] at hO hT
    exact W_ret (endQ_2 (by simp only [upd_eq, Nat.reduceEqDiff, ↓reduceIte] <;> rfl) (by simp only [upd_eq, Nat.reduceEqDiff, ↓reduceIte] <;> rfl) ⟨_, _, rfl, by have := hO.sl; rwa [runR_length] at this, hT, noF_of X2 X fun y o hy h => by omega⟩)
set_option maxHeartbeats 800000 in
set_option maxRecDepth 8000 in
theorem law_bDeleteAt (d : Nat) (hd : DOk d) (ord : List Int) (sv : Value) (nl : Bool) (l : List It) (lv : Value) (ks : List Int) (kv : Value) (w : World) (hs : SlInt w sv ord) (hsb : ord.length ≤ 2147483647) (hl : SlI w lv l) (hbig : l.length ≤ 2147483647) (hks : SlV w 1 kv ks.length (flat En ks)) (hkb : ks.length ≤ 2147483647) :
    CallK Try.prog 41 #[mkV sv d nl, lv, kv] w fun v w' => v = .bool true ∧ Ext noF w w' := by
  refine calls_of_W [.tmp 6] Try.func41 rfl Try.ntmps41 Try.results41 (by simp) fun e he => ?_
  have e0 : e 0 = mkV sv d nl := he 0 _ rfl
  have e1 : e 1 = lv := he 1 _ rfl
  have e2 : e 2 = kv := he 2 _ rfl
  clear he
  have htl := treeG_len ord l
  have hll := runL_len cutL cutL_len2 ks (treeG ord l)
  have hrl := runR_length cutL idA ks (treeG ord l)
  refine W_sq fun K hK => (W_text [false, true] (by kernel_rfl) ?_); simp only [↓List.toList_toArray, ↓rgd, ↓rgf, ↓reduceIte, Nat.reduceEqDiff, rg, ow_41]
  refine do_box (by simp only [evt]; exact e0) fun w0 n0 => ⟨trivial, ?_⟩
  simp only [↓List.toList_toArray, ↓rgd, ↓rgf, ↓reduceIte, Nat.reduceEqDiff, rg, ow_41]
  refine hK _ _ ?_; clear hK K
  have rm0 : Row w0 w.heap.size 0 (mkL sv d nl) := n0.row
  have rm := mk_at rm0
  refine W_sq fun K hK => (W_text [true, true, true, false, true, true, true, true, true] (by kernel_rfl) ?_); simp only [↓List.toList_toArray, ↓rgd, ↓rgf, ↓reduceIte, Nat.reduceEqDiff, rg, ow_41, e1, e2, rm]
  refine do_call fn_74 (by simp only [evt, evc, upd_eq, Nat.reduceEqDiff, ↓reduceIte, maT, maC, maN, isnN, isnS] <;> rfl) (impl_bdelat d hd ord sv nl l lv ks kv w0 (SlV.ext0 hs n0.ext) hsb (SlV.ext0 hl n0.ext) hbig (SlV.ext0 hks n0.ext) hkb) ?_
  rintro _ w1 ⟨f1, i1, rfl, hf1, hi1, X1⟩
  refine ⟨trivial, ?_⟩
  simp only [↓List.toList_toArray, ↓rgd, ↓rgf, ↓reduceIte, Nat.reduceEqDiff, rg, ow_41]
  refine hK _ _ ?_; clear hK K
  have rm1 := mk_at (X1.row rm0 fun _ _ h => h)
  have X01 := n0.ext.tr X1
  refine W_sq fun K hK => (W_text [true, true, true, false, true, true, true, true, true] (by kernel_rfl) ?_); simp only [↓List.toList_toArray, ↓rgd, ↓rgf, ↓reduceIte, Nat.reduceEqDiff, rg, ow_41, e1, e2, rm1]
  refine do_call fn_75 (by simp only [evt, evc, upd_eq, Nat.reduceEqDiff, ↓reduceIte, maT, maC, maN, isnN, isnS] <;> rfl) (sgdelat d hd ord sv nl l lv ks kv w1 (SlV.ext0 hs X01) hsb (SlV.ext0 hl X01) hbig (SlV.ext0 hks X01) hkb) ?_
  rintro _ w2 ⟨f2, i2, rfl, hf2, hi2, X2⟩
  refine ⟨trivial, ?_⟩
  simp only [↓List.toList_toArray, ↓rgd, ↓rgf, ↓reduceIte, Nat.reduceEqDiff, rg, ow_41]
  refine hK _ _ ?_; clear hK K
  refine W_sq fun K hK => (W_text [true, true, false, true, true, true, false, true, true] (by kernel_rfl) ?_); simp only [↓List.toList_toArray, ↓rgd, ↓rgf, ↓reduceIte, Nat.reduceEqDiff, rg, ow_41]
  refine do_call fn_28 (by simp only [evt, evc, upd_eq, Nat.reduceEqDiff, ↓reduceIte, maT, maC, maN, isnN, isnS] <;> rfl) (eq_f (runR cutL idA (treeG ord l) ks) f1 f2 w2 (by rw [hrl]; exact hf1.ext0 X2) (by rw [hrl]; exact hf2) (by omega)) ?_
  rintro _ w3 ⟨rfl, r3⟩
  refine ⟨trivial, ?_⟩
  simp only [↓List.toList_toArray, ↓rgd, ↓rgf, ↓reduceIte, Nat.reduceEqDiff, rg, ow_41]
  refine do_call fn_29 (by simp only [evt, evc, upd_eq, Nat.reduceEqDiff, ↓reduceIte, maT, maC, maN, isnN, isnS] <;> rfl) (eq_i (runL cutL (treeG ord l) ks) i1 i2 w3 (SlV.ext0 hi1 (X2.tr r3.ext)) (SlV.ext0 hi2 r3.ext) (by omega)) ?_
  rintro _ w4 ⟨rfl, r4⟩
  refine ⟨trivial, ?_⟩
  simp only [↓List.toList_toArray, ↓rgd, ↓rgf, ↓reduceIte, Nat.reduceEqDiff, rg, ow_41]
  refine hK _ _ ?_; clear hK K
  exact W_ret (endQ_1 (by simp only [upd_eq, Nat.reduceEqDiff, ↓reduceIte] <;> rfl) ⟨rfl, ((X01.tr X2).tr r3.ext).tr r4.ext⟩)
end Go.Proofs.Ytanmjbkbdmeckaa
/-
  FnExactBDeleteAt returns true, whatever the arguments. No condition.
-/
set_option linter.unusedSimpArgs false
set_option linter.unusedVariables false
namespace Go.Proofs.Ytanmjbkbdmeckaa
open Go Go.Proofs
set_option maxHeartbeats 800000 in
set_option maxRecDepth 8000 in
theorem top_FnExactBDeleteAt (ord : List Int) (sv : Value) (d : Int) (nl : Bool) (a0 : List It) (v0 : Value) (a1 : List Int) (v1 : Value) (w : World) (gs : SlInt w sv ord) (g0 : SlI w v0 a0) (g1 : SlV w 1 v1 a1.length (flat En a1)) :
    CallK Try.prog 12 #[.agg #[sv, .int .i64 d, .bool nl], v0, v1] w fun v w' => v = .bool true ∧ Ext noF w w' := by
  obtain ⟨p0, c0, hv0⟩ := SlV.shape g0
  obtain ⟨p1, c1, hv1⟩ := SlV.shape g1
  refine calls_of_W [.tmp 6] Try.func12 rfl Try.ntmps12 Try.results12 (by simp) fun e he => ?_
  have e0 : e 0 = .agg #[sv, .int .i64 d, .bool nl] := he 0 _ rfl
  have e1 : e 1 = v0 := he 1 _ rfl
  have e2 : e 2 = v1 := he 2 _ rfl
  clear he
  refine W_sq fun K hK => (W_text [false, true] (by kernel_rfl) ?_); simp only [↓List.toList_toArray, ↓rgd, ↓rgf, ↓reduceIte, Nat.reduceEqDiff, rg, ow_12]
  refine do_box (by simp only [evt]; exact e0) fun w1 n1 => ⟨trivial, ?_⟩
  simp only [↓List.toList_toArray, ↓rgd, ↓rgf, ↓reduceIte, Nat.reduceEqDiff, rg, ow_12]
  refine hK _ _ ?_; clear hK K
  have rm : Row w1 w.heap.size 0 [sv, .int .i64 d, .bool nl] := n1.row
  have XB : Ext noF w w1 := n1.ext
  have rm3 : rdA w1 w.heap.size 0 3 = some (.agg #[sv, .int .i64 d, .bool nl]) := rm.rdA 3 (Nat.le_refl _)
  refine W_seq ?_
  refine W_sq fun K hK => (W_text [true, false, true, true, true, true, true, true, true, true, true, true, true] (by kernel_rfl) ?_); simp only [↓List.toList_toArray, ↓rgd, ↓rgf, ↓reduceIte, Nat.reduceEqDiff, rg, ow_12, e1, e2, hv0, hv1, rm3]
  refine do_call fn_13 (by simp only [evt, evc, upd_eq, Nat.reduceEqDiff, ↓reduceIte, maT, maC, maN, isnN, isnS] <;> rfl) (fits1_any sv ord (.int .i64 d) nl w1 (SlV.ext0 gs XB)) ?_
  rintro _ wf ⟨rfl, xf⟩
  refine ⟨trivial, ?_⟩
  have XF := XB.tr xf
  by_cases hbo : ord.length ≤ 2147483647
  case neg =>
    have to : decide (ord.length ≤ 2147483647) = false := by simp; omega
    simp only [↓List.toList_toArray, ↓rgd, ↓rgf, ↓reduceIte, Nat.reduceEqDiff, rg, ow_12, e1, e2, hv0, hv1, to]
    refine hK _ _ ?_; clear hK K
    refine W_true (by simp only [evt, evc, upd_eq, Nat.reduceEqDiff, ↓reduceIte, ntT, ntF] <;> rfl) ?_
    refine W_sq fun K hK => (W_text [true] (by kernel_rfl) ?_); simp only [↓List.toList_toArray, ↓rgd, ↓rgf, ↓reduceIte, Nat.reduceEqDiff, rg, ow_12]
    refine hK _ _ ?_; clear hK K
    refine W_ret ?_
    simp only [andThen_ret]
    exact endQ_1 (by simp only [upd_eq, Nat.reduceEqDiff, ↓reduceIte] <;> rfl) ⟨rfl, XF⟩
  have to : decide (ord.length ≤ 2147483647) = true := by simp; omega
  by_cases hb0 : a0.length ≤ 2147483647
  case neg =>
    have t0 : decide ((2147483647 : Int) < (a0.length : Int)) = true := by simp; omega
    simp only [↓List.toList_toArray, ↓rgd, ↓rgf, ↓reduceIte, Nat.reduceEqDiff, rg, ow_12, e1, e2, hv0, hv1, to, t0]
    refine hK _ _ ?_; clear hK K
    refine W_true (by simp only [evt, evc, upd_eq, Nat.reduceEqDiff, ↓reduceIte, ntT, ntF] <;> rfl) ?_
    refine W_sq fun K hK => (W_text [true] (by kernel_rfl) ?_); simp only [↓List.toList_toArray, ↓rgd, ↓rgf, ↓reduceIte, Nat.reduceEqDiff, rg, ow_12]
    refine hK _ _ ?_; clear hK K
    refine W_ret ?_
    simp only [andThen_ret]
    exact endQ_1 (by simp only [upd_eq, Nat.reduceEqDiff, ↓reduceIte] <;> rfl) ⟨rfl, XF⟩
  have t0 : decide ((2147483647 : Int) < (a0.length : Int)) = false := by simp; omega
  by_cases hb1 : a1.length ≤ 2147483647
  case neg =>
    have t1 : decide ((2147483647 : Int) < (a1.length : Int)) = true := by simp; omega
    simp only [↓List.toList_toArray, ↓rgd, ↓rgf, ↓reduceIte, Nat.reduceEqDiff, rg, ow_12, e1, e2, hv0, hv1, to, t0, t1]
    refine hK _ _ ?_; clear hK K
    refine W_true (by simp only [evt, evc, upd_eq, Nat.reduceEqDiff, ↓reduceIte, ntT, ntF] <;> rfl) ?_
    refine W_sq fun K hK => (W_text [true] (by kernel_rfl) ?_); simp only [↓List.toList_toArray, ↓rgd, ↓rgf, ↓reduceIte, Nat.reduceEqDiff, rg, ow_12]
    refine hK _ _ ?_; clear hK K
    refine W_ret ?_
    simp only [andThen_ret]
    exact endQ_1 (by simp only [upd_eq, Nat.reduceEqDiff, ↓reduceIte] <;> rfl) ⟨rfl, XF⟩
  have t1 : decide ((2147483647 : Int) < (a1.length : Int)) = false := by simp; omega
  simp only [↓List.toList_toArray, ↓rgd, ↓rgf, ↓reduceIte, Nat.reduceEqDiff, rg, ow_12, e1, e2, hv0, hv1, to, t0, t1]
  refine hK _ _ ?_; clear hK K
  refine W_false (by simp only [evt, evc, upd_eq, Nat.reduceEqDiff, ↓reduceIte, ntT, ntF] <;> rfl) (W_skip ?_)
  show W _ _ _ _ _ _
  refine W_sq fun K hK => (W_text [false, false, false, false, true, true, true, false, true, true, true, true, true, false, true, true, true] (by kernel_rfl) ?_); simp only [↓List.toList_toArray, ↓rgd, ↓rgf, ↓reduceIte, Nat.reduceEqDiff, rg, ow_12]
  refine do_call fn_15 (by simp only [evt, evc, upd_eq, Nat.reduceEqDiff, ↓reduceIte, maT, maC, maN, isnN, isnS] <;> rfl) (exMake_any wf) ?_
  rintro _ u0 ⟨rfl, z0⟩
  refine ⟨trivial, ?_⟩
  simp only [↓List.toList_toArray, ↓rgd, ↓rgf, ↓reduceIte, Nat.reduceEqDiff, rg, ow_12]
  have Y0 := z0
  refine do_call fn_16 (by simp only [evt, evc, upd_eq, Nat.reduceEqDiff, ↓reduceIte, maT, maC, maN, isnN, isnS] <;> rfl) (exItems_any u0) ?_
  rintro x0 u1 ⟨q0, y1⟩
  refine ⟨trivial, ?_⟩
  simp only [↓List.toList_toArray, ↓rgd, ↓rgf, ↓reduceIte, Nat.reduceEqDiff, rg, ow_12]
  have Y1 := Y0.tr y1
  refine do_call fn_42 (by simp only [evt, evc, upd_eq, Nat.reduceEqDiff, ↓reduceIte, maT, maC, maN, isnN, isnS] <;> rfl) (exPlaces_any u1) ?_
  rintro x1 u2 ⟨q1, y2⟩
  refine ⟨trivial, ?_⟩
  simp only [↓List.toList_toArray, ↓rgd, ↓rgf, ↓reduceIte, Nat.reduceEqDiff, rg, ow_12]
  have q0 := SlV.ext0 q0 y2
  have Y2 := Y1.tr y2
  refine do_call fn_41 (by simp only [evt, evc, upd_eq, Nat.reduceEqDiff, ↓reduceIte, maT, maC, maN, isnN, isnS] <;> rfl) (law_bDeleteAt 2 (.inr (by decide)) [] nilS false exL x0 exP x1 u2 (nil_int _) (by decide) q0 (by decide) q1 (by decide)) ?_
  rintro _ u3 ⟨rfl, y3⟩
  refine ⟨trivial, ?_⟩
  have Y3 := Y2.tr y3
  have XA := XF.tr Y3
  have rmA := (xf.tr Y3).row rm fun _ _ h => h
  have rd1 := (Row.cons.1 (Row.cons.1 rmA).2).1
  have rmA3 : rdA u3 w.heap.size 0 3 = some (.agg #[sv, .int .i64 d, .bool nl]) := rmA.rdA 3 (Nat.le_refl _)
  rw [Nat.zero_add] at rd1
  simp only [↓List.toList_toArray, ↓rgd, ↓rgf, ↓reduceIte, Nat.reduceEqDiff, rg, ow_12, rd1]
  refine do_call fn_17 (by simp only [evt, evc, upd_eq, Nat.reduceEqDiff, ↓reduceIte, maT, maC, maN, isnN, isnS] <;> rfl) (fits_any d u3) ?_
  rintro _ _ ⟨rfl, rfl⟩
  refine ⟨trivial, ?_⟩
  cases hf : (decide (d = 0) || (decide (2 ≤ d) && decide (d ≤ 128))) with
  | false =>
    simp only [↓List.toList_toArray, ↓rgd, ↓rgf, ↓reduceIte, Nat.reduceEqDiff, rg, ow_12]
    refine hK _ _ ?_; clear hK K
    exact W_ret (endQ_1 (by simp only [upd_eq, Nat.reduceEqDiff, ↓reduceIte] <;> rfl) ⟨rfl, XA⟩)
  | true =>
    have h2 : d = 0 ∨ 2 ≤ d ∧ d ≤ 128 := by simp at hf; omega
    obtain ⟨n, rfl⟩ : ∃ n : Nat, d = n := ⟨d.toNat, by omega⟩
    simp only [↓List.toList_toArray, ↓rgd, ↓rgf, ↓reduceIte, Nat.reduceEqDiff, rg, ow_12, e1, e2, rmA3]
    refine do_call fn_41 (by simp only [evt, evc, upd_eq, Nat.reduceEqDiff, ↓reduceIte, maT, maC, maN, isnN, isnS] <;> rfl) (law_bDeleteAt n (show DOk n by unfold DOk; omega) ord sv nl a0 v0 a1 v1 u3 (SlV.ext0 gs XA) hbo (SlV.ext0 g0 XA) hb0 (SlV.ext0 g1 XA) hb1) ?_
    rintro _ u9 ⟨rfl, y9⟩
    refine ⟨trivial, ?_⟩
    simp only [↓List.toList_toArray, ↓rgd, ↓rgf, ↓reduceIte, Nat.reduceEqDiff, rg, ow_12]
    refine hK _ _ ?_; clear hK K
    exact W_ret (endQ_1 (by simp only [upd_eq, Nat.reduceEqDiff, ↓reduceIte] <;> rfl) ⟨rfl, XA.tr y9⟩)
end Go.Proofs.Ytanmjbkbdmeckaa
/-
  FnExactBDeleteAt: the whole statement: it returns true whatever the input is, and the arguments read as before. No condition.
-/
set_option linter.unusedSimpArgs false
set_option linter.unusedVariables false
namespace Go.Proofs.Ytanmjbkbdmeckaa
open Go Go.Proofs Go.ChangeShapes Go.WideShapes Go.ChangeAt Go.RowKit
set_option maxRecDepth 100000 in
theorem c_FnExactBDeleteAt (H : Type) (enc : TypeId × Value → H) (W : World) (base : Nat) (args : Array Value) (ds gs : List (DataW H)) (before : List MemPlace)
    (hval : ∀ (j : Nat) t v, Try.f12.params[j]? = some t → args[j]? = some v → Value.okWide Try.prog W .any base t v)
    (hW : DataW.Whole enc Try.prog Try.f12.params.toList Rows.fnExactBDeleteAtSpec.vars false W args.toList ds gs before) :
    Calls Try.prog 12 args W fun e W' => ∃ v, e = .returned v ∧ Rows.fnExactBDeleteAtSpec.post enc Try.prog Try.f12 false true false false W args v W' := by
  have hW' := hW
  obtain ⟨p, q, hA0, hV, rfl, hfz, hnd⟩ := hW
  have hA : DataW.TrodAll enc Try.prog W 0 (fun _ => true) true Try.f12.params.toList args.toList ds p := hA0
  rw [Try.params12] at hA hval
  obtain ⟨v0, v1, v2, d0, d1, d2, p0, p1, p2, rfl, rfl, rfl, h0, h1, h2⟩ := trodAll_three hA
  obtain ⟨rfl, rfl⟩ := trodVars_none hV
  obtain ⟨s0, a0, n0, r0, rfl, g0⟩ := open_make (hval 0 24 v0 rfl rfl) h0 fun b o h => hfz b o (by simp [h])
  obtain ⟨a1, g1⟩ := open_items (hval 1 25 v1 rfl rfl) h1 fun b o h => hfz b o (by simp [h])
  obtain ⟨a2, g2⟩ := open_nums (hval 2 22 v2 rfl rfl) h2 fun b o h => hfz b o (by simp [h])
  exact calls_law laidOut (by rw [Try.params12]; kernel_rfl) rfl hW' rfl rfl rfl (by kernel_rfl) Try.underlying4 (top_FnExactBDeleteAt r0 s0 a0 n0 a1 v1 a2 v2 W g0 g1 g2)
set_option maxRecDepth 100000 in
theorem l_FnExactBDeleteAt (os : Os) (started : os.Started) (H : Type) (enc : TypeId × Value → H) :
    ReturnsInHanded {} Try.checked os 12 .any (Rows.fnExactBDeleteAtSpec.pre6 enc Try.prog Try.f12 Rows.fnExactBDeleteAtRow.domain false) (Rows.fnExactBDeleteAtSpec.post enc Try.prog Try.f12 false true false false) := by
  refine returnsInHanded_of_change (C := Try.checked) own started (by kernel_rfl) Try.func12
    (ChangeSpec.witness6 (enc := enc) (C := Try.checked) false ⟨#[], #[.agg #[.slice none 0 0, .int .i64 0, .bool false], .slice none 0 0, .slice none 0 0], []⟩ 8 (by kernel_rfl) (by kernel_rfl) (by kernel_rfl) (by kernel_rfl)) ?_
  intro W base args ds gs before hval hW _ _
  exact c_FnExactBDeleteAt H enc W base args ds gs before hval hW
theorem h_FnExactBDeleteAt : Rows.FnExactBDeleteAtSaid :=
  OpenClaim.holds_of_wide 12 Try.f12 rfl rfl rfl rfl rfl rfl rfl ⟨rfl, rfl, rfl, rfl, rfl⟩ rfl rfl rfl rfl rfl (by kernel_rfl) Try.func12 (by kernel_rfl)
    (of_decide_eq_true (by kernel_rfl)) (by unfold Func.isWrapper; first | (rw [if_pos (by decide +kernel)]; kernel_rfl) | (rw [if_neg (by decide +kernel)]; exact ⟨rfl, rfl⟩))
    (fun os started H enc _ => l_FnExactBDeleteAt os started H enc)
#print axioms h_FnExactBDeleteAt
end Go.Proofs.Ytanmjbkbdmeckaa
