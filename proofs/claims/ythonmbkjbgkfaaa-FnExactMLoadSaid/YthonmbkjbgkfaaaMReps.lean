/-
  What settings answer, one after the other; the items of a map; the reference's settings with their answers. No condition.
-/
import Derived.Test.YthonmbkjbgkfaaaMGrow2
import Derived.Test.YthonmbkjbgkfaaaMCut
import Derived.Test.YthonmbkjbgkfaaaMLaws
import Derived.Test.YthonmbkjbgkfaaaWeave
set_option linter.unusedSimpArgs false
set_option linter.unusedVariables false
namespace Go.Proofs.Ythonmbkjbgkfaaa
open Go Go.Proofs
theorem take_snoc {α : Type} {l : List α} {i : Nat} {x : α} (h : l[i]? = some x) : l.take (i + 1) = l.take i ++ [x] := by rw [List.take_add_one, h]; rfl
theorem el_fo : elK Try.prog 47 = some (38, 3, 24, [.int .i64 0, .int .i64 0, .bool false]) := by kernel_rfl
theorem ni_fo : noInt Try.prog 47 = true := by kernel_rfl
theorem bs_fo1 (x : It × Bool) : bsV Try.prog 47 1 [(0, foV x)] = some (38, Ef.cel x) := by kernel_rfl
theorem z_sl : zK Try.prog 22 = some [.slice none 0 0] := by kernel_rfl
def repsF : List It → List It → List (It × Bool)
  | _, [] => []
  | xs, x :: l => foO (at? O κ (κ x) xs) :: repsF (put O κ x xs) l
def reps (l : List It) : List (It × Bool) := repsF [] l
theorem repsF_snoc (x : It) : ∀ (l xs : List It), repsF xs (l ++ [x]) = repsF xs l ++ [foO (at? O κ (κ x) (l.foldl (fun xs x => put O κ x xs) xs))]
  | [], _ => rfl
  | y :: l, xs => by simp only [List.cons_append, repsF, repsF_snoc x l, List.foldl_cons]
theorem reps_succ {l : List It} {i : Nat} {x : It} (h : l[i]? = some x) : reps (l.take (i + 1)) = reps (l.take i) ++ [foO (at? O κ (κ x) (tree (l.take i)))] := by
  rw [take_snoc h, reps, repsF_snoc]; rfl
theorem repsF_length : ∀ (l xs : List It), (repsF xs l).length = l.length
  | [], _ => rfl
  | x :: l, xs => by simp [repsF, repsF_length l]
theorem reps_length (l : List It) : (reps l).length = l.length := repsF_length l []
theorem at_key {q : Rk} {xs : List It} {k : It} (h : at? O κ q xs = some k) : κ k = q := by
  unfold at? at h
  split at h
  · rename_i hh
    obtain ⟨k', h1, h2⟩ := hit_at O κ hh
    rw [h1] at h; cases h; exact h2.symm
  · cases h
theorem at_is (q : Rk) (xs : List It) : (at? O κ q xs).isSome = hit O κ q xs := by
  unfold at?
  cases hh : hit O κ q xs with
  | true => obtain ⟨k, h1, _⟩ := hit_at O κ hh; simp [h1]
  | false => simp
theorem foP_at (x : It) (xs : List It) : foP (x.1, ((at? O κ (κ x) xs).getD zIt).2) (hit O κ (κ x) xs) = foO (at? O κ (κ x) xs) := by
  rw [← at_is]
  cases h : at? O κ (κ x) xs with
  | none => rfl
  | some k =>
    have hk : k.1 = x.1 := at_key h
    simp only [foP, foO, Option.getD_some, Option.isSome_some, if_true]
    rw [← hk]
/-- A slice that lies outside of a tree's cells. -/
def offB (v : Value) (F : Nat → Nat → Prop) : Prop := ∀ b o n c, v = .slice (some ⟨b, o, none⟩) n c → ∀ p, ¬ F b p
theorem offB_nil (F : Nat → Nat → Prop) : offB (.slice none 0 0) F := fun b o n c h => by cases h
theorem app_off {w w' : World} {sz n m B : Nat} {v v' : Value} {l l' : List Value} {F : Nat → Nat → Prop} (h : AppRes w sz v n m l l' v' w') (hv : since B v) (ho : offB v F) (hF : ∀ y o, F y o → y < w.heap.size) (hB : B ≤ w.heap.size) :
    offB v' F ∧ Ext (fun y _ => B ≤ y ∧ ∀ p, ¬ F y p) w w' := by
  rcases h.2 with ⟨rfl, rfl, h3⟩ | ⟨b0, o0, cap0, rfl, rfl, h3, h4, h5⟩ | ⟨cap', rfl, h2, h3⟩
  · exact ⟨ho, Ext.refl _ _⟩
  · have hb := hv _ _ _ _ rfl
    have hf := ho _ _ _ _ rfl
    refine ⟨fun b o n c h => ?_, h3.mono fun y o _ g => by simp only [rng] at g; rw [g.1]; exact ⟨hb, hf⟩⟩
    simp only [Value.slice.injEq, Option.some.injEq, Addr.mk.injEq] at h
    rw [← h.1.1]; exact hf
  · refine ⟨fun b o n c h p hp => ?_, h2.mono fun y o _ g => g.elim⟩
    simp only [Value.slice.injEq, Option.some.injEq, Addr.mk.injEq] at h
    have := hF _ _ hp
    omega
/-- A map that is being filled, and the answers. -/
structure Fill (B m d : Nat) (iso : Int) (v : Value) (xs : List It) (rs : List (It × Bool)) (w : World) : Prop where
  mp : ∃ F, MapAt w m d iso xs F ∧ (∀ y o, F y o → B ≤ y) ∧ offB v F
  out : OutE Ef B v rs w
  mB : m < B
  le : B ≤ w.heap.size
theorem Fill.ext {B m d : Nat} {iso : Int} {v : Value} {xs : List It} {rs : List (It × Bool)} {w w' : World} (h : Fill B m d iso v xs rs w) (x : Ext noF w w') : Fill B m d iso v xs rs w' := by
  obtain ⟨F, h1, h2, h3⟩ := h.mp
  exact ⟨⟨F, h1.ext x, h2, h3⟩, h.out.ext x, h.mB, Nat.le_trans h.le x.size⟩
/-- What a filling changes. -/
def fillF (B m : Nat) : Nat → Nat → Prop := fun y _ => y = m ∨ B ≤ y
/-- One item is set. -/
theorem Fill.set {B m d : Nat} {iso : Int} {v : Value} {xs ys : List It} {rs : List (It × Bool)} {w w' : World} {F F' : Nat → Nat → Prop} (h : Fill B m d iso v xs rs w) (hM : MapAt w m d iso xs F) (hF : ∀ y o, F y o → B ≤ y) (ho : offB v F)
    (X : Ext (mapF m F) w w') (hM' : MapAt w' m d iso ys F') (hF' : ∀ y o, F' y o → F y o ∨ w.heap.size ≤ y) : Fill B m d iso v ys rs w' ∧ Ext (fillF B m) w w' := by
  have hl := h.le
  have hm := h.mB
  refine ⟨⟨⟨F', hM', fun y o g => (hF' y o g).elim (hF y o) fun g => by omega, fun b o n c hv p g => ?_⟩, ⟨h.out.sl.ext X fun b o c hv i hi g => ?_, h.out.si⟩, hm, Nat.le_trans hl X.size⟩, X.mono fun y o _ g => g.elim (fun g => .inr (hF y o g)) fun g => .inl g.1⟩
  · rcases hF' b p g with g | g
    · exact ho b o n c hv p g
    · have := h.out.sl.lt hv; omega
  · have := h.out.si _ _ _ _ hv
    rcases g with g | g
    · exact ho _ _ _ _ hv _ g
    · omega
/-- One answer is kept. -/
theorem Fill.app {B m d : Nat} {iso : Int} {v v' : Value} {xs : List It} {rs : List (It × Bool)} {x : It × Bool} {w w' : World} (h : Fill B m d iso v xs rs w) (a : AppRes w 3 v rs.length 1 (flat Ef rs) (Ef.cel x) v' w') :
    Fill B m d iso v' xs (rs ++ [x]) w' ∧ Ext (fillF B m) w w' := by
  obtain ⟨F, h1, h2, h3⟩ := h.mp
  have hm := h.mB
  obtain ⟨g1, g2⟩ := app_off a h.out.si h3 h1.lt h.le
  obtain ⟨g3, _⟩ := h.out.app a h.le
  refine ⟨⟨⟨F, h1.extG g2 (fun y o hf hg => hg.2 o hf) (fun o hg => by omega), h2, g1⟩, g3, hm, Nat.le_trans h.le g2.size⟩, g2.mono fun y o _ g => .inr g.1⟩
set_option maxHeartbeats 400000 in
set_option maxRecDepth 8000 in
theorem scanR_any (m d : Nat) (iso : Int) (xs : List It) (F : Nat → Nat → Prop) (f : Value) (G : Nat → Nat → Prop) (S : List It → World → Prop) (go : List It → Bool) (C : Cb f G S go) (hm : ∀ o, ¬ G m o) (w : World)
    (hM : MapAt w m d iso xs F) (hG : ∀ y o o', F y o → ¬ G y o') (hS : S [] w) (hbig : xs.length ≤ 4294967295) :
    CallK Try.prog 79 #[ptr m, f] w fun _ w' => S (hand go [] xs).1 w' ∧ Ext G w w' := by
  refine calls_of_W [] Try.func79 rfl Try.ntmps79 Try.results79 (by simp) fun e he => ?_
  have e0 : e 0 = ptr m := he 0 _ rfl
  have e1 : e 1 = f := he 1 _ rfl
  clear he
  refine W_rg fun K hK => (W_text [true, true, false] (by kernel_rfl) ?_); simp only [↓List.toList_toArray, ↓rgd, ↓reduceIte, Nat.reduceEqDiff, rg, ow_79, e0, e1]
  refine do_call fn_71 (by simp only [evt, evc, upd_eq, Nat.reduceEqDiff, ↓reduceIte, maT, maC, maN, isnN, isnS] <;> rfl) (scan_any m d iso xs F f G S go C hm false w hM hG hS hbig) ?_
  rintro _ w1 ⟨hS1, X1⟩
  refine ⟨trivial, ?_⟩
  simp only [↓List.toList_toArray, ↓rgd, ↓reduceIte, Nat.reduceEqDiff, rg, ow_79]
  refine hK _ _ ?_; clear hK K
  exact endQ_0n ⟨hS1, X1⟩
set_option maxHeartbeats 400000 in
set_option maxRecDepth 8000 in
theorem entries_any (m d : Nat) (iso : Int) (xs : List It) (F : Nat → Nat → Prop) (w : World) (hM : MapAt w m d iso xs F) (hbig : xs.length ≤ 4294967295) :
    CallK Try.prog 59 #[ptr m] w fun v w' => SlI w' v xs ∧ Ext noF w w' := by
  refine calls_of_W [.tmp 2] Try.func59 rfl Try.ntmps59 Try.results59 (by simp) fun e he => ?_
  have e0 : e 0 = ptr m := he 0 _ rfl
  clear he
  refine W_sq fun K hK => (W_text [true] (by kernel_rfl) ?_); simp only [↓List.toList_toArray, ↓rgd, ↓reduceIte, Nat.reduceEqDiff, rg, ow_59]
  refine hK _ _ ?_; clear hK K
  refine W_sq fun K hK => (W_text [false] (by kernel_rfl) ?_); simp only [↓List.toList_toArray, ↓rgd, ↓reduceIte, Nat.reduceEqDiff, rg, ow_59]
  refine do_alloc z_sl fun w1 n1 => ⟨trivial, ?_⟩
  simp only [↓List.toList_toArray, ↓rgd, ↓reduceIte, Nat.reduceEqDiff, rg, ow_59]
  refine hK _ _ ?_; clear hK K
  have s1 := n1.size
  refine W_sq fun K hK => (W_text [true, false, false] (by kernel_rfl) ?_); simp only [↓List.toList_toArray, ↓rgd, ↓reduceIte, Nat.reduceEqDiff, rg, ow_59, e0]
  refine do_call fn_55 (vs := #[ptr w.heap.size, .int .i64 0]) (by simp only [evt, evc, upd_eq, Nat.reduceEqDiff, ↓reduceIte, maT, maC, maN, isnN, isnS] <;> rfl) (pairs_mk w.heap.size 0 w1) ?_
  rintro _ w3 ⟨tb, rfl, X3, hC⟩
  refine ⟨trivial, ?_⟩
  simp only [↓List.toList_toArray, ↓rgd, ↓reduceIte, Nat.reduceEqDiff, rg, ow_59]
  have s3 := X3.size
  have hM3 := (hM.ext n1.ext).ext X3
  have r3 := X3.rd (Row.cons.1 n1.row).1 fun h => h
  have hKp : Kept w3.heap.size w.heap.size [] w3 := ⟨⟨_, r3, ⟨rfl, .inl ⟨rfl, rfl⟩⟩, fun b o n c h => by cases h⟩, X3.wok n1.wok, by omega, Nat.le_refl _⟩
  have hlt := hM.lt
  have hml := hM.mlt
  refine do_call fn_79 (by simp only [evt, evc, upd_eq, Nat.reduceEqDiff, ↓reduceIte, maT, maC, maN, isnN, isnS] <;> rfl) (scanR_any m d iso xs F (pairsV tb) (outF w3.heap.size w.heap.size) (PS w.heap.size 0 tb w1.heap.size w3.heap.size) (upTo 0) (cb_pairs _ 0 tb _ _ (by omega)) (fun o h => ?_) w3 hM3 (fun y o o' hy h => ?_) ⟨hKp, hC⟩ hbig) ?_
  · rcases h with h | h <;> omega
  · have := hlt y o hy
    rcases h with h | h <;> omega
  rintro _ w4 ⟨⟨hK4, _⟩, X4⟩
  refine ⟨trivial, ?_⟩
  simp only [↓List.toList_toArray, ↓rgd, ↓reduceIte, Nat.reduceEqDiff, rg, ow_59]
  refine hK _ _ ?_; clear hK K
  obtain ⟨sv, hv, hS, _⟩ := hK4.var
  refine W_sq fun K hK => (W_text [true, true] (by kernel_rfl) ?_); simp only [↓List.toList_toArray, ↓rgd, ↓reduceIte, Nat.reduceEqDiff, rg, ow_59, hv]
  refine hK _ _ ?_; clear hK K
  refine W_ret (endQ_1 (by simp only [upd_eq, Nat.reduceEqDiff, ↓reduceIte] <;> rfl) ⟨by rw [hand_upTo_nil] at hS; simpa [firstN] using hS, ?_⟩)
  refine noF_of (n1.ext.tr X3) X4 fun y o hy h => ?_
  rcases h with h | h <;> omega
set_option maxHeartbeats 1000000 in
set_option maxRecDepth 8000 in
theorem gset_nil (l : List It) (lv : Value) (w : World) (hl : SlI w lv l) (hbig : l.length ≤ 2147483647) :
    CallK Try.prog 44 #[mkV, lv] w fun v w' => ∃ rv tv, v = .tuple #[rv, tv] ∧ SlV w' 3 rv (reps l).length (flat Ef (reps l)) ∧ SlI w' tv (tree l) ∧ Ext noF w w' := by
  obtain ⟨a, c, hlv⟩ := hl.shape
  refine calls_of_W [.tmp 4, .tmp 5] Try.func44 rfl Try.ntmps44 Try.results44 (by simp) fun e he => ?_
  have e0 : e 0 = mkV := he 0 _ rfl
  have e1 : e 1 = .slice a l.length c := by rw [← hlv]; exact he 1 _ rfl
  clear he
  refine W_sq fun K hK => (W_text [false, true, true] (by kernel_rfl) ?_); simp only [↓List.toList_toArray, ↓rgd, ↓reduceIte, Nat.reduceEqDiff, rg, ow_44]
  refine do_box (by simp only [evt]; exact e0) fun w1 n1 => ⟨trivial, ?_⟩
  simp only [↓List.toList_toArray, ↓rgd, ↓reduceIte, Nat.reduceEqDiff, rg, ow_44]
  refine hK _ _ ?_; clear hK K
  have s1 := n1.size
  have r1 : rd w1 w.heap.size 0 = some nilS := (Row.cons.1 (show Row w1 w.heap.size 0 [nilS, .int .i64 0, .bool false] from n1.row)).1
  refine W_sq fun K hK => (W_text [true] (by kernel_rfl) ?_); simp only [↓List.toList_toArray, ↓rgd, ↓reduceIte, Nat.reduceEqDiff, rg, ow_44]
  refine hK _ _ ?_; clear hK K
  refine W_sq fun K hK => (W_text [true] (by kernel_rfl) ?_); simp only [↓List.toList_toArray, ↓rgd, ↓reduceIte, Nat.reduceEqDiff, rg, ow_44]
  refine hK _ _ ?_; clear hK K
  refine W_seq (W_seq ?_)
  refine W_rg fun K hK => (W_text [true, true, true] (by kernel_rfl) ?_); simp only [↓List.toList_toArray, ↓rgd, ↓reduceIte, Nat.reduceEqDiff, rg, ow_44, e1]
  refine hK _ _ ?_; clear hK K
  show W _ _ _ _ _ _
  refine W_block (W_loop (fun mm e w' => ∃ k : Nat, mm = l.length - k ∧ k ≤ l.length ∧ e 2 = ptr w.heap.size ∧ e 11 = .slice a l.length c ∧ e 12 = .int .i64 l.length ∧ e 13 = .int .i64 k ∧ OutE Ef w1.heap.size (e 6) (reps (l.take k)) w' ∧ SlI w' (e 7) (tree (l.take k)) ∧ apart2 (e 6) (e 7) ∧ Ext (fun y _ => w1.heap.size ≤ y) w1 w')
    l.length ⟨0, by simp, by simp, ?_, ?_, ?_, ?_, ?_, ?_, ?_, Ext.refl _ _⟩ ?_)
  · simp only [upd_eq, Nat.reduceEqDiff, ↓reduceIte]; rfl
  · simp only [upd_eq, Nat.reduceEqDiff, ↓reduceIte]
  · simp only [upd_eq, Nat.reduceEqDiff, ↓reduceIte]
  · simp only [upd_eq, Nat.reduceEqDiff, ↓reduceIte]; rfl
  · simp only [upd_eq, Nat.reduceEqDiff, ↓reduceIte]; exact OutE.nil _ _ _
  · simp only [upd_eq, Nat.reduceEqDiff, ↓reduceIte]; exact ⟨rfl, .inl ⟨rfl, rfl⟩⟩
  · simp only [upd_eq, Nat.reduceEqDiff, ↓reduceIte]; exact fun b o n c o' n' c' h => by cases h
  · clear e0 e1 e
    rintro mm e w' ⟨k, rfl, hk, e2, e11, e12, e13, hO, hT, hap, X⟩
    have sX := X.size
    by_cases hlt : k < l.length
    · have ht := lt_tt k l.length hlt
      refine W_sq fun K hK => (W_text [true] (by kernel_rfl) ?_); simp only [↓List.toList_toArray, ↓rgd, ↓reduceIte, Nat.reduceEqDiff, rg, ow_44, e12, e13, ht]
      refine hK _ _ ?_; clear hK K
      refine W_seq (W_true (by simp only [evt, evc, upd_eq, Nat.reduceEqDiff, ↓reduceIte, ntT, ntF] <;> rfl) (W_skip ?_))
      show W _ _ _ _ _ _
      obtain ⟨x, hx⟩ : ∃ x, l[k]? = some x := ⟨_, List.getElem?_eq_getElem hlt⟩
      obtain ⟨ib, io, rfl, row⟩ := hl.at hlv hlt
      have hibl := hl.lt hlv
      have ixx := iV_at (X.row (n1.ext.row row fun _ _ h => h) fun _ _ h => by omega) hx
      refine W_seq (W_block ?_)
      refine W_sq fun K hK => (W_text [true, true, false, false] (by kernel_rfl) ?_); simp only [↓List.toList_toArray, ↓rgd, ↓reduceIte, Nat.reduceEqDiff, rg, ow_44, e11, e13, hlt, ixx]
      refine do_alloc z_item fun w2 n2 => ⟨trivial, ?_⟩
      simp only [↓List.toList_toArray, ↓rgd, ↓reduceIte, Nat.reduceEqDiff, rg, ow_44]
      refine do_store (v := iV x) (by simp only [evt, evc, upd_eq, Nat.reduceEqDiff, ↓reduceIte, ntT, ntF] <;> rfl) (by simp only [evt, evc, upd_eq, Nat.reduceEqDiff, ↓reduceIte, ntT, ntF] <;> rfl) sz_36 rfl n2.wok (by decide) (Ei.one x) fun w3 x3 r3 s3 => ⟨trivial, ?_⟩
      simp only [↓List.toList_toArray, ↓rgd, ↓reduceIte, Nat.reduceEqDiff, rg, ow_44]
      refine hK _ _ ?_; clear hK K
      have s2 := n2.size
      have X3 : Ext noF w' w3 := noF_of n2.ext x3 fun y o hy h => by simp only [rng] at h; omega
      refine W_sq fun K hK => (W_text [false] (by kernel_rfl) ?_); simp only [↓List.toList_toArray, ↓rgd, ↓reduceIte, Nat.reduceEqDiff, rg, ow_44]
      refine do_alloc z_fo fun w4 n4 => ⟨trivial, ?_⟩
      simp only [↓List.toList_toArray, ↓rgd, ↓reduceIte, Nat.reduceEqDiff, rg, ow_44]
      refine hK _ _ ?_; clear hK K
      have s4 := n4.size
      have X4 := X3.tr n4.ext
      have bx : rdA w4 w'.heap.size 0 2 = some (iV x) := (n4.ext.row (show Row w3 w'.heap.size 0 (Ei.cel x) from r3) fun _ _ h => h).rdA 2 (by show 2 ≤ 2; omega)
      have r4 : rd w4 w.heap.size 0 = some nilS := X4.rd (X.rd r1 (by omega)) fun h => h
      have htl := tree_len (l.take k)
      have htk : (l.take k).length ≤ k := by rw [List.length_take]; omega
      refine W_sq fun K hK => (W_text [true, true, true, true, false, true, true, true, true, false] (by kernel_rfl) ?_); simp only [↓List.toList_toArray, ↓rgd, ↓reduceIte, Nat.reduceEqDiff, rg, ow_44, e2, ptr_eq, bx, r4]
      refine do_call fn_48 (by simp only [evt, evc, upd_eq, Nat.reduceEqDiff, ↓reduceIte, maT, maC, maN, isnN, isnS] <;> rfl) (sput_nil (tree (l.take k)) (e 7) x w4 (hT.ext0 X4) (by omega)) ?_
      rintro _ w5 ⟨sv, rfl, hS5, X5, hsv⟩
      refine ⟨trivial, ?_⟩
      simp only [↓List.toList_toArray, ↓rgd, ↓reduceIte, Nat.reduceEqDiff, rg, ow_44]
      have hfv : fV (at? O κ (κ x) (tree (l.take k))) = foV (foO (at? O κ (κ x) (tree (l.take k)))) := by cases at? O κ (κ x) (tree (l.take k)) <;> rfl
      rw [hfv]
      refine do_store (v := foV _) (by simp only [evt, evc, upd_eq, Nat.reduceEqDiff, ↓reduceIte, ntT, ntF] <;> rfl) (by simp only [evt, evc, upd_eq, Nat.reduceEqDiff, ↓reduceIte, ntT, ntF] <;> rfl) sz_38 rfl (X5.wok n4.wok) (by decide) (oc_fo _) fun w6 x6 r6 s6 => ⟨trivial, ?_⟩
      simp only [↓List.toList_toArray, ↓rgd, ↓reduceIte, Nat.reduceEqDiff, rg, ow_44]
      refine hK _ _ ?_; clear hK K
      have s5 := X5.size
      have X6 : Ext noF w' w6 := noF_of (X4.tr X5) x6 fun y o hy h => by simp only [rng] at h; omega
      have l6 : rdA w6 w3.heap.size 0 3 = some (foV (foO (at? O κ (κ x) (tree (l.take k))))) := (show Row w6 w3.heap.size 0 (Ef.cel _) from r6).rdA 3 (by simp [Ef])
      refine W_rg fun K hK => (W_text [true, true, false, false, true] (by kernel_rfl) ?_); simp only [↓List.toList_toArray, ↓rgd, ↓reduceIte, Nat.reduceEqDiff, rg, ow_44, l6]
      refine do_bsl rfl (bs_fo1 _) fun w7 n7 => ⟨trivial, ?_⟩
      simp only [↓List.toList_toArray, ↓rgd, ↓reduceIte, Nat.reduceEqDiff, rg, ow_44]
      have X7 := X6.tr n7.ext
      have s7 := X7.size
      have hrl : (reps (l.take k)).length = k := by rw [reps_length, List.length_take]; omega
      have hx7 : SlV w7 3 (.slice (some ⟨w6.heap.size, 0, none⟩) 1 1) 1 (Ef.cel (foO (at? O κ (κ x) (tree (l.take k))))) := ⟨rfl, .inr ⟨_, 0, 1, rfl, Nat.le_refl _, n7.row, n7.wok.R (Nat.le_refl _)⟩⟩
      refine do_append (by simp only [evt, evc, upd_eq, Nat.reduceEqDiff, ↓reduceIte, ntT, ntF] <;> rfl) (by simp only [evt, evc, upd_eq, Nat.reduceEqDiff, ↓reduceIte, ntT, ntF] <;> rfl) el_fo rfl ni_fo (hO.ext X7).sl hx7 (by omega) (by decide) (Ef.one _) fun v8 w8 a8 => ?_
      have hapsv : apart2 (e 6) sv := fun b o n c o' n' c' g1 g2 => by
        have := hO.sl.lt g1
        have := hsv _ _ _ _ g2
        omega
      have hS7 : SlI w7 sv (put O κ x (tree (l.take k))) := by
        refine SlV.ext0 ?_ n7.ext
        exact hS5.ext x6 fun b o cap hb i hi g => by
          have := hsv _ _ _ _ hb
          simp only [rng] at g; omega
      obtain ⟨hO8, X8⟩ := (hO.ext X7).app a8 (by omega)
      obtain ⟨hS8, hap8⟩ := app_other a8 hS7 hapsv
      refine ⟨trivial, ?_⟩
      simp only [↓List.toList_toArray, ↓rgd, ↓reduceIte, Nat.reduceEqDiff, rg, ow_44]
      refine hK _ _ ?_; clear hK K
      show W _ _ _ _ _ _
      have q1 := wadd1 k (by omega)
      refine W_rg fun K hK => (W_text [true, true] (by kernel_rfl) ?_); simp only [↓List.toList_toArray, ↓rgd, ↓reduceIte, Nat.reduceEqDiff, rg, ow_44, e13, q1]
      refine hK _ _ ?_; clear hK K
      refine ⟨_, ?_, k + 1, rfl, hlt, ?_, ?_, ?_, ?_, ?_, ?_, ?_, (X.tr (X7.mono fun _ _ _ h => h.elim)).tr X8⟩
      · omega
      · simp only [upd_eq, Nat.reduceEqDiff, ↓reduceIte]; exact e2
      · simp only [upd_eq, Nat.reduceEqDiff, ↓reduceIte]; exact e11
      · simp only [upd_eq, Nat.reduceEqDiff, ↓reduceIte]; exact e12
      · simp only [upd_eq, Nat.reduceEqDiff, ↓reduceIte]
      · simp only [upd_eq, Nat.reduceEqDiff, ↓reduceIte]; rw [reps_succ hx]; exact hO8
      · simp only [upd_eq, Nat.reduceEqDiff, ↓reduceIte]; rw [tree_succ l k x hx]; exact hS8
      · simp only [upd_eq, Nat.reduceEqDiff, ↓reduceIte]; exact hap8
    · obtain rfl : k = l.length := by omega
      have ht := lt_ff l.length l.length (by omega)
      refine W_sq fun K hK => (W_text [true] (by kernel_rfl) ?_); simp only [↓List.toList_toArray, ↓rgd, ↓reduceIte, Nat.reduceEqDiff, rg, ow_44, e12, e13, ht]
      refine hK _ _ ?_; clear hK K
      refine W_seq (W_false (by simp only [evt, evc, upd_eq, Nat.reduceEqDiff, ↓reduceIte, ntT, ntF] <;> rfl) (W_exit ?_))
      simp only [andThen_exit, inBlk_exit, andThen_normal, ↓reduceIte]
      refine W_sq fun K hK => (W_text [true, true, true, true] (by kernel_rfl) ?_); simp only [↓List.toList_toArray, ↓rgd, ↓reduceIte, Nat.reduceEqDiff, rg, ow_44]
      refine hK _ _ ?_; clear hK K
      rw [List.take_length] at hO hT
      exact W_ret (endQ_2 (by simp only [upd_eq, Nat.reduceEqDiff, ↓reduceIte] <;> rfl) (by simp only [upd_eq, Nat.reduceEqDiff, ↓reduceIte] <;> rfl) ⟨_, _, rfl, hO.sl, hT, noF_of n1.ext X fun y o hy h => by omega⟩)
end Go.Proofs.Ythonmbkjbgkfaaa
