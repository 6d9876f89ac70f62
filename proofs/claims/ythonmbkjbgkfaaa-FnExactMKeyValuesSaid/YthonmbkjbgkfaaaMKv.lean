/-
  The keys and the values of a tree. No condition.
-/
import Derived.Test.YthonmbkjbgkfaaaMGet
import Derived.Test.YthonmbkjbgkfaaaMEq
set_option linter.unusedSimpArgs false
set_option linter.unusedVariables false
namespace Go.Proofs.Ythonmbkjbgkfaaa
open Go Go.Proofs
def sndV (x : It) : Int := x.2
theorem el_n : elK Try.prog 26 = some (3, 1, 8, [.int .i64 0]) := by kernel_rfl
theorem ni_n : noInt Try.prog 26 = true := by kernel_rfl
theorem bs_n1 (x : Int) : bsV Try.prog 26 1 [(0, .int .i64 x)] = some (3, En.cel x) := by kernel_rfl
/-- Two lists that are being made. -/
structure KV (B : Nat) (kv vv : Value) (K V : List Int) (w : World) : Prop where
  k : OutE En B kv K w
  v : OutE En B vv V w
  ap : apart2 kv vv
theorem KV.ext {B : Nat} {kv vv : Value} {K V : List Int} {w w' : World} (h : KV B kv vv K V w) (x : Ext noF w w') : KV B kv vv K V w' := ⟨h.k.ext x, h.v.ext x, h.ap⟩
theorem take_snoc {α : Type} {l : List α} {i : Nat} {x : α} (h : l[i]? = some x) : l.take (i + 1) = l.take i ++ [x] := by rw [List.take_add_one, h]; rfl
theorem KV.appK {B : Nat} {kv vv kv' : Value} {K V : List Int} {x : Int} {w w' : World} (h : KV B kv vv K V w) (a : AppRes w 1 kv K.length 1 (flat En K) (En.cel x) kv' w') (hB : B ≤ w.heap.size) : KV B kv' vv (K ++ [x]) V w' ∧ Ext (fun y _ => B ≤ y) w w' := by
  obtain ⟨h1, h2⟩ := h.k.app a hB
  obtain ⟨h3, h4⟩ := app_other a h.v.sl h.ap
  exact ⟨⟨h1, ⟨h3, h.v.si⟩, h4⟩, h2⟩
theorem KV.appV {B : Nat} {kv vv vv' : Value} {K V : List Int} {x : Int} {w w' : World} (h : KV B kv vv K V w) (a : AppRes w 1 vv V.length 1 (flat En V) (En.cel x) vv' w') (hB : B ≤ w.heap.size) : KV B kv vv' K (V ++ [x]) w' ∧ Ext (fun y _ => B ≤ y) w w' := by
  obtain ⟨h1, h2⟩ := h.v.app a hB
  obtain ⟨h3, h4⟩ := app_other a h.k.sl h.ap.symm
  exact ⟨⟨⟨h3, h.k.si⟩, h1, h4.symm⟩, h2⟩
set_option maxHeartbeats 1000000 in
set_option maxRecDepth 8000 in
theorem nodeKV_any (m B : Nat) (iso : Int) (mn mx : Nat) (hmB : m < B) (mu : Bool) :
    ∀ (h b lo pc po : Nat) (xs : List It) (F : Nat → Nat → Prop) (kv vv : Value) (K V : List Int) (w : World), Tr E iso mn mx h w lo b xs F → rd w m 0 = some (.int .u64 iso) → rd w pc po = some (ptr b) → (∀ y o, F y o → y < B) → KV B kv vv K V w →
      K.length + xs.length ≤ 4294967295 → V.length + xs.length ≤ 4294967295 → B ≤ w.heap.size →
    CallK Try.prog 83 #[ptr m, .pointer (some ⟨pc, po, none⟩), kv, vv, .bool mu] w fun v w' => ∃ kv' vv', v = .tuple #[kv', vv'] ∧ KV B kv' vv' (K ++ xs.map κ) (V ++ xs.map sndV) w' ∧ Ext (fun y _ => B ≤ y) w w' := by
  intro h
  induction h with
  | zero =>
    intro b lo pc po xs F kv vv K V w ht h0 hp hG hS hb1 hb2 hB
    obtain ⟨bi, oi, cap, ho, h1, h2, hF⟩ := ht
    have hGo : ∀ y o, ownF E b bi oi cap y o → y < B := fun y o g => hG y o ((hF y o).2 g)
    refine calls_of_W [.tmp 10, .tmp 11] Try.func83 rfl Try.ntmps83 Try.results83 (by simp) fun e he => ?_
    have e0 : e 0 = ptr m := he 0 _ rfl
    have e1 : e 1 = .pointer (some ⟨pc, po, none⟩) := he 1 _ rfl
    have e2 : e 2 = kv := he 2 _ rfl
    have e3 : e 3 = vv := he 3 _ rfl
    have e4 : e 4 = .bool mu := he 4 _ rfl
    clear he
    refine W_sq fun K0 hK => (W_text [true, true] (by kernel_rfl) ?_); simp only [↓List.toList_toArray, ↓rgd, ↓reduceIte, Nat.reduceEqDiff, rg, ow_83]
    refine hK _ _ ?_; clear hK K0
    refine W_sq fun K0 hK => (W_text [true, true, true, false, true] (by kernel_rfl) ?_); simp only [↓List.toList_toArray, ↓rgd, ↓reduceIte, Nat.reduceEqDiff, rg, ow_83, e0, e1, e4]
    refine do_call fn_81 (by simp only [evt, evc, upd_eq, Nat.reduceEqDiff, ↓reduceIte, maT, maC, maN, isnN, isnS] <;> rfl) (isoLoad_any m pc po b mu iso w h0 hp ho.h0) ?_
    rintro _ w1 ⟨rfl, r1⟩
    refine ⟨trivial, ?_⟩
    simp only [↓List.toList_toArray, ↓rgd, ↓reduceIte, Nat.reduceEqDiff, rg, ow_83]
    refine hK _ _ ?_; clear hK K0
    have x1 : Ext noF w w1 := r1.ext
    have o1 := ho.ext x1 fun _ _ _ h => h
    have S1 := hS.ext x1
    refine W_seq ?_
    refine W_sq fun K0 hK => (W_text [true, false] (by kernel_rfl) ?_); simp only [↓List.toList_toArray, ↓rgd, ↓reduceIte, Nat.reduceEqDiff, rg, ow_83]
    refine do_call fn_82 (by simp only [evt, evc, upd_eq, Nat.reduceEqDiff, ↓reduceIte, maT, maC, maN, isnN, isnS] <;> rfl) (leaf_any b none w1 o1.h3) ?_
    rintro _ w1 ⟨rfl, rfl⟩
    refine ⟨trivial, ?_⟩
    simp only [↓List.toList_toArray, ↓rgd, ↓reduceIte, Nat.reduceEqDiff, rg, ow_83]
    refine hK _ _ ?_; clear hK K0
    refine W_true (by simp only [evt, evc, upd_eq, Nat.reduceEqDiff, ↓reduceIte, ntT, ntF] <;> rfl) (W_seq ?_)
    refine W_sq fun K0 hK => (W_text [true] (by kernel_rfl) ?_); simp only [↓List.toList_toArray, ↓rgd, ↓reduceIte, Nat.reduceEqDiff, rg, ow_83]
    refine hK _ _ ?_; clear hK K0
    refine W_block (W_loop (fun mm e w' => ∃ (i : Nat), mm = xs.length - i ∧ i ≤ xs.length ∧ KV B (e 2) (e 3) (K ++ (xs.take i).map κ) (V ++ (xs.take i).map sndV) w' ∧ Ext (fun y _ => B ≤ y) w w' ∧ e 12 = ptr b ∧ e 13 = .int .i64 i)
      xs.length ⟨0, by simp, by simp, ?_, x1.mono fun _ _ _ h => h.elim, ?_, ?_⟩ ?_)
    · simp only [upd_eq, Nat.reduceEqDiff, ↓reduceIte]; rw [e2, e3]; simpa using S1
    · simp only [upd_eq, Nat.reduceEqDiff, ↓reduceIte]
    · simp only [upd_eq, Nat.reduceEqDiff, ↓reduceIte]; rfl
    · clear e0 e1 e2 e3 e4 e S1 o1
      rintro mm e w' ⟨i, rfl, hi, hkv, X, e12, e13⟩
      have o' := ho.ext X fun y o h => by have := hGo y o h; omega
      have hb2 := o'.h2
      have sX := X.size
      refine W_seq ?_
      by_cases hlt : i < xs.length
      · have ht := lt_tt i xs.length hlt
        refine W_sq fun K0 hK => (W_text [true, true, true, true, true, true, true] (by kernel_rfl) ?_); simp only [↓List.toList_toArray, ↓rgd, ↓reduceIte, Nat.reduceEqDiff, rg, ow_83, e12, e13, ptr_eq, hb2, ht]
        refine hK _ _ ?_; clear hK K0
        refine W_true (by simp only [evt, evc, upd_eq, Nat.reduceEqDiff, ↓reduceIte, ntT, ntF] <;> rfl) (W_skip ?_)
        show W _ _ _ _ _ _
        refine W_seq (W_block ?_)
        obtain ⟨x, hx⟩ : ∃ x, xs[i]? = some x := ⟨_, List.getElem?_eq_getElem hlt⟩
        have hk := key_at o'.row hx
        have hlk : (xs.take i).length = i := by rw [List.length_take]; omega
        refine W_sq fun K0 hK => (W_text [true, true, true, true, true, true, true, true, true, false, false, true] (by kernel_rfl) ?_); simp only [↓List.toList_toArray, ↓rgd, ↓reduceIte, Nat.reduceEqDiff, rg, ow_83, e12, e13, ptr_eq, hb2, hlt, hk]
        refine do_bsl rfl (bs_n1 (κ x)) fun w3 n3 => ⟨trivial, ?_⟩
        simp only [↓List.toList_toArray, ↓rgd, ↓reduceIte, Nat.reduceEqDiff, rg, ow_83]
        have H3 := hkv.ext n3.ext
        have s3 := n3.size
        have z3 : SlV w3 1 (.slice (some ⟨w'.heap.size, 0, none⟩) 1 1) 1 (En.cel (κ x)) := ⟨rfl, .inr ⟨_, 0, 1, rfl, Nat.le_refl _, n3.row, n3.wok.R (Nat.le_refl _)⟩⟩
        refine do_append (by simp only [evt, evc, upd_eq, Nat.reduceEqDiff, ↓reduceIte, ntT, ntF] <;> rfl) (by simp only [evt, evc, upd_eq, Nat.reduceEqDiff, ↓reduceIte, ntT, ntF] <;> rfl) el_n rfl ni_n H3.k.sl z3 (by simp; omega) (by decide) (En.one _) fun v4 w4 a4 => ⟨trivial, ?_⟩
        obtain ⟨H4, X4⟩ := H3.appK a4 (by omega)
        simp only [↓List.toList_toArray, ↓rgd, ↓reduceIte, Nat.reduceEqDiff, rg, ow_83]
        refine hK _ _ ?_; clear hK K0
        have s4 := X4.size
        have X4' : Ext (fun y _ => B ≤ y) w' w4 := (n3.ext.mono fun _ _ _ h => h.elim).tr X4
        have o4 := o'.ext X4' fun y o h => by have := hGo y o h; omega
        have hb4 := o4.h2
        have hv := vx_at2 o4.row hx
        refine W_rg fun K0 hK => (W_text [true, true, true, true, true, true, true, true, true, false, false, true] (by kernel_rfl) ?_); simp only [↓List.toList_toArray, ↓rgd, ↓reduceIte, Nat.reduceEqDiff, rg, ow_83, e12, e13, ptr_eq, hb4, hlt, hv]
        refine do_bsl rfl (bs_n1 (sndV x)) fun w5 n5 => ⟨trivial, ?_⟩
        simp only [↓List.toList_toArray, ↓rgd, ↓reduceIte, Nat.reduceEqDiff, rg, ow_83]
        have H5 := H4.ext n5.ext
        have s5 := n5.size
        have z5 : SlV w5 1 (.slice (some ⟨w4.heap.size, 0, none⟩) 1 1) 1 (En.cel (sndV x)) := ⟨rfl, .inr ⟨_, 0, 1, rfl, Nat.le_refl _, n5.row, n5.wok.R (Nat.le_refl _)⟩⟩
        refine do_append (by simp only [evt, evc, upd_eq, Nat.reduceEqDiff, ↓reduceIte, ntT, ntF] <;> rfl) (by simp only [evt, evc, upd_eq, Nat.reduceEqDiff, ↓reduceIte, ntT, ntF] <;> rfl) el_n rfl ni_n H5.v.sl z5 (by simp; omega) (by decide) (En.one _) fun v6 w6 a6 => ⟨trivial, ?_⟩
        obtain ⟨H6, X6⟩ := H5.appV a6 (by omega)
        simp only [↓List.toList_toArray, ↓rgd, ↓reduceIte, Nat.reduceEqDiff, rg, ow_83]
        refine hK _ _ ?_; clear hK K0
        have s6 := X6.size
        have X6' : Ext (fun y _ => B ≤ y) w4 w6 := (n5.ext.mono fun _ _ _ h => h.elim).tr X6
        show W _ _ _ _ _ _
        have q1 := wadd1 i (by omega)
        refine W_rg fun K0 hK => (W_text [true, true, true] (by kernel_rfl) ?_); simp only [↓List.toList_toArray, ↓rgd, ↓reduceIte, Nat.reduceEqDiff, rg, ow_83, e13, q1]
        refine hK _ _ ?_; clear hK K0
        refine ⟨_, ?_, i + 1, rfl, hlt, ?_, (X.tr X4').tr X6', ?_, ?_⟩
        · omega
        · simp only [upd_eq, Nat.reduceEqDiff, ↓reduceIte]
          rw [take_snoc hx, List.map_append, List.map_append, ← List.append_assoc, ← List.append_assoc]
          exact H6
        · simp only [upd_eq, Nat.reduceEqDiff, ↓reduceIte]; exact e12
        · simp only [upd_eq, Nat.reduceEqDiff, ↓reduceIte]
      · obtain rfl : i = xs.length := by omega
        have ht := lt_ff xs.length xs.length (by omega)
        refine W_sq fun K0 hK => (W_text [true, true, true, true, true, true, true] (by kernel_rfl) ?_); simp only [↓List.toList_toArray, ↓rgd, ↓reduceIte, Nat.reduceEqDiff, rg, ow_83, e12, e13, ptr_eq, hb2, ht]
        refine hK _ _ ?_; clear hK K0
        refine W_false (by simp only [evt, evc, upd_eq, Nat.reduceEqDiff, ↓reduceIte, ntT, ntF] <;> rfl) (W_exit ?_)
        simp only [andThen_exit, inBlk_exit, ↓reduceIte]
        show W _ _ _ _ _ _
        refine W_sq fun K0 hK => (W_text [true, true, true, true] (by kernel_rfl) ?_); simp only [↓List.toList_toArray, ↓rgd, ↓reduceIte, Nat.reduceEqDiff, rg, ow_83]
        refine hK _ _ ?_; clear hK K0
        refine W_ret ?_
        simp only [andThen_ret]
        rw [List.take_length] at hkv
        exact endQ_2 (by simp only [upd_eq, Nat.reduceEqDiff, ↓reduceIte] <;> rfl) (by simp only [upd_eq, Nat.reduceEqDiff, ↓reduceIte] <;> rfl) ⟨_, _, rfl, hkv, X⟩
  | succ h ih =>
    intro b lo pc po xs F kv vv K V w ht h0 hp hG hS hb1 hb2 hB
    obtain ⟨bi, oi, cap, bc, ba, oa, capc, ks, cs, ho, hk, h1, h2, hcs, rfl, hT, hA, hF⟩ := ht
    have hGo : ∀ y o, ownF E b bi oi cap y o → y < B := fun y o g => hG y o ((hF y o).2 (.inl g))
    have hGk : ∀ y o, kidF bc ba oa capc y o → y < B := fun y o g => hG y o ((hF y o).2 (.inr (.inl g)))
    have hGc : ∀ c ∈ cs, ∀ y o, c.F y o → y < B := fun c hc y o g => hG y o ((hF y o).2 (.inr (.inr ⟨c, hc, g⟩)))
    have hwl := weave_length (cs.map Kid.xs) ks (by simpa using hcs)
    refine calls_of_W [.tmp 10, .tmp 11] Try.func83 rfl Try.ntmps83 Try.results83 (by simp) fun e he => ?_
    have e0 : e 0 = ptr m := he 0 _ rfl
    have e1 : e 1 = .pointer (some ⟨pc, po, none⟩) := he 1 _ rfl
    have e2 : e 2 = kv := he 2 _ rfl
    have e3 : e 3 = vv := he 3 _ rfl
    have e4 : e 4 = .bool mu := he 4 _ rfl
    clear he
    refine W_sq fun K0 hK => (W_text [true, true] (by kernel_rfl) ?_); simp only [↓List.toList_toArray, ↓rgd, ↓reduceIte, Nat.reduceEqDiff, rg, ow_83]
    refine hK _ _ ?_; clear hK K0
    refine W_sq fun K0 hK => (W_text [true, true, true, false, true] (by kernel_rfl) ?_); simp only [↓List.toList_toArray, ↓rgd, ↓reduceIte, Nat.reduceEqDiff, rg, ow_83, e0, e1, e4]
    refine do_call fn_81 (by simp only [evt, evc, upd_eq, Nat.reduceEqDiff, ↓reduceIte, maT, maC, maN, isnN, isnS] <;> rfl) (isoLoad_any m pc po b mu iso w h0 hp ho.h0) ?_
    rintro _ w1 ⟨rfl, r1⟩
    refine ⟨trivial, ?_⟩
    simp only [↓List.toList_toArray, ↓rgd, ↓reduceIte, Nat.reduceEqDiff, rg, ow_83]
    refine hK _ _ ?_; clear hK K0
    have x1 : Ext noF w w1 := r1.ext
    have o1 := ho.ext x1 fun _ _ _ h => h
    have S1 := hS.ext x1
    refine W_seq ?_
    refine W_sq fun K0 hK => (W_text [true, false] (by kernel_rfl) ?_); simp only [↓List.toList_toArray, ↓rgd, ↓reduceIte, Nat.reduceEqDiff, rg, ow_83]
    refine do_call fn_82 (by simp only [evt, evc, upd_eq, Nat.reduceEqDiff, ↓reduceIte, maT, maC, maN, isnN, isnS] <;> rfl) (leaf_any b (some ⟨bc, 0, none⟩) w1 o1.h3) ?_
    rintro _ w1 ⟨rfl, rfl⟩
    refine ⟨trivial, ?_⟩
    simp only [↓List.toList_toArray, ↓rgd, ↓reduceIte, Nat.reduceEqDiff, rg, ow_83]
    refine hK _ _ ?_; clear hK K0
    refine W_false (by simp only [evt, evc, upd_eq, Nat.reduceEqDiff, ↓reduceIte, ntT, ntF] <;> rfl) (W_skip ?_)
    show W _ _ _ _ _ _
    refine W_seq ?_
    refine W_sq fun K0 hK => (W_text [true] (by kernel_rfl) ?_); simp only [↓List.toList_toArray, ↓rgd, ↓reduceIte, Nat.reduceEqDiff, rg, ow_83]
    refine hK _ _ ?_; clear hK K0
    refine W_block (W_loop (fun mm e w' => ∃ (i : Nat) (K' V' : List Int), mm = ks.length - i ∧ i ≤ ks.length ∧ K ++ (weave (cs.map Kid.xs) ks).map κ = K' ++ (weave ((cs.map Kid.xs).drop i) (ks.drop i)).map κ ∧ V ++ (weave (cs.map Kid.xs) ks).map sndV = V' ++ (weave ((cs.map Kid.xs).drop i) (ks.drop i)).map sndV ∧
        KV B (e 2) (e 3) K' V' w' ∧ Ext (fun y _ => B ≤ y) w w' ∧ e 0 = ptr m ∧ e 4 = .bool mu ∧ e 12 = ptr b ∧ e 14 = .int .i64 i)
      ks.length ⟨0, K, V, by simp, by simp, by simp, by simp, ?_, x1.mono fun _ _ _ h => h.elim, ?_, ?_, ?_, ?_⟩ ?_)
    · simp only [upd_eq, Nat.reduceEqDiff, ↓reduceIte]; rw [e2, e3]; exact S1
    · simp only [upd_eq, Nat.reduceEqDiff, ↓reduceIte]; exact e0
    · simp only [upd_eq, Nat.reduceEqDiff, ↓reduceIte]; exact e4
    · simp only [upd_eq, Nat.reduceEqDiff, ↓reduceIte]
    · simp only [upd_eq, Nat.reduceEqDiff, ↓reduceIte]; rfl
    · clear e0 e1 e2 e3 e4 e S1 o1
      rintro mm e w' ⟨i, K', V', rfl, hi, hKe, hVe, hkv, X, e0, e4, e12, e14⟩
      have hKl := congrArg List.length hKe
      have hVl := congrArg List.length hVe
      simp only [List.length_append, List.length_map] at hKl hVl
      have o' := ho.ext X fun y o g => by have := hGo y o g; omega
      have k' := hk.ext X fun y o g => by have := hGk y o g; omega
      have hb2 := o'.h2
      have hb3 := o'.h3
      have hc0 := k'.c0
      have sX := X.size
      have h0' := X.rd h0 (by omega)
      have hci : ∀ i, i < cs.length → ∃ c, cs[i]? = some c ∧ rd w' ba (oa + i) = some (ptr c.b) := fun i hi => by
        refine ⟨cs[i], List.getElem?_eq_getElem hi, k'.row i _ ?_⟩
        rw [List.getElem?_map, List.getElem?_map, List.getElem?_eq_getElem hi]; rfl
      rw [List.length_map] at hc0
      refine W_seq ?_
      by_cases hlt : i < ks.length
      · have ht := lt_tt i ks.length hlt
        refine W_sq fun K0 hK => (W_text [true, true, true, true, true, true, true] (by kernel_rfl) ?_); simp only [↓List.toList_toArray, ↓rgd, ↓reduceIte, Nat.reduceEqDiff, rg, ow_83, e12, e14, ptr_eq, hb2, ht]
        refine hK _ _ ?_; clear hK K0
        refine W_true (by simp only [evt, evc, upd_eq, Nat.reduceEqDiff, ↓reduceIte, ntT, ntF] <;> rfl) (W_skip ?_)
        show W _ _ _ _ _ _
        refine W_seq (W_block ?_)
        obtain ⟨c, hc, hcr⟩ := hci i (by omega)
        have hcm : c ∈ cs := List.mem_of_getElem? hc
        obtain ⟨x, hx⟩ : ∃ x, ks[i]? = some x := ⟨_, List.getElem?_eq_getElem hlt⟩
        have hlc : i < cs.length := by omega
        rw [weave_step (c := c.xs) (by rw [List.getElem?_map, hc]; rfl) hx] at hKe hVe hKl hVl
        simp only [List.length_append, List.length_cons] at hKl hVl
        refine W_sq fun K0 hK => (W_text [true, true, true, true, true, true, true, true, true, true, true, true, false, true, true, true, true, true] (by kernel_rfl) ?_); simp only [↓List.toList_toArray, ↓rgd, ↓reduceIte, Nat.reduceEqDiff, rg, ow_83, e0, e4, e12, e14, ptr_eq, hb3, hc0, hlc]
        refine do_call fn_83 (by simp only [evt, evc, upd_eq, Nat.reduceEqDiff, ↓reduceIte, maT, maC, maN, isnN, isnS] <;> rfl) (ih c.b mn ba (oa + i) c.xs c.F (e 2) (e 3) K' V' _ ((hT c hcm).ext X fun y o g => by have := hGc c hcm y o g; omega) h0' hcr (hGc c hcm) hkv (by omega) (by omega) (by omega)) ?_
        rintro _ w2 ⟨kv2, vv2, rfl, H2, X2⟩
        refine ⟨trivial, ?_⟩
        simp only [↓List.toList_toArray, ↓rgd, ↓reduceIte, Nat.reduceEqDiff, rg, ow_83]
        refine hK _ _ ?_; clear hK K0
        have s2 := X2.size
        have o2 := o'.ext X2 fun y o g => by have := hGo y o g; omega
        have hb2' := o2.h2
        have hk2 := key_at o2.row hx
        refine W_sq fun K0 hK => (W_text [true, true, true, true, true, true, true, true, true, false, false, true] (by kernel_rfl) ?_); simp only [↓List.toList_toArray, ↓rgd, ↓reduceIte, Nat.reduceEqDiff, rg, ow_83, e12, e14, ptr_eq, hb2', hlt, hk2]
        refine do_bsl rfl (bs_n1 (κ x)) fun w3 n3 => ⟨trivial, ?_⟩
        simp only [↓List.toList_toArray, ↓rgd, ↓reduceIte, Nat.reduceEqDiff, rg, ow_83]
        have H3 := H2.ext n3.ext
        have s3 := n3.size
        have z3 : SlV w3 1 (.slice (some ⟨w2.heap.size, 0, none⟩) 1 1) 1 (En.cel (κ x)) := ⟨rfl, .inr ⟨_, 0, 1, rfl, Nat.le_refl _, n3.row, n3.wok.R (Nat.le_refl _)⟩⟩
        refine do_append (by simp only [evt, evc, upd_eq, Nat.reduceEqDiff, ↓reduceIte, ntT, ntF] <;> rfl) (by simp only [evt, evc, upd_eq, Nat.reduceEqDiff, ↓reduceIte, ntT, ntF] <;> rfl) el_n rfl ni_n H3.k.sl z3 (by simp; omega) (by decide) (En.one _) fun v4 w4 a4 => ⟨trivial, ?_⟩
        obtain ⟨H4, X4⟩ := H3.appK a4 (by omega)
        simp only [↓List.toList_toArray, ↓rgd, ↓reduceIte, Nat.reduceEqDiff, rg, ow_83]
        refine hK _ _ ?_; clear hK K0
        have s4 := X4.size
        have X4' : Ext (fun y _ => B ≤ y) w2 w4 := (n3.ext.mono fun _ _ _ h => h.elim).tr X4
        have o4 := o2.ext X4' fun y o h => by have := hGo y o h; omega
        have hb4 := o4.h2
        have hv := vx_at2 o4.row hx
        refine W_rg fun K0 hK => (W_text [true, true, true, true, true, true, true, true, true, false, false, true] (by kernel_rfl) ?_); simp only [↓List.toList_toArray, ↓rgd, ↓reduceIte, Nat.reduceEqDiff, rg, ow_83, e12, e14, ptr_eq, hb4, hlt, hv]
        refine do_bsl rfl (bs_n1 (sndV x)) fun w5 n5 => ⟨trivial, ?_⟩
        simp only [↓List.toList_toArray, ↓rgd, ↓reduceIte, Nat.reduceEqDiff, rg, ow_83]
        have H5 := H4.ext n5.ext
        have s5 := n5.size
        have z5 : SlV w5 1 (.slice (some ⟨w4.heap.size, 0, none⟩) 1 1) 1 (En.cel (sndV x)) := ⟨rfl, .inr ⟨_, 0, 1, rfl, Nat.le_refl _, n5.row, n5.wok.R (Nat.le_refl _)⟩⟩
        refine do_append (by simp only [evt, evc, upd_eq, Nat.reduceEqDiff, ↓reduceIte, ntT, ntF] <;> rfl) (by simp only [evt, evc, upd_eq, Nat.reduceEqDiff, ↓reduceIte, ntT, ntF] <;> rfl) el_n rfl ni_n H5.v.sl z5 (by simp; omega) (by decide) (En.one _) fun v6 w6 a6 => ⟨trivial, ?_⟩
        obtain ⟨H6, X6⟩ := H5.appV a6 (by omega)
        simp only [↓List.toList_toArray, ↓rgd, ↓reduceIte, Nat.reduceEqDiff, rg, ow_83]
        refine hK _ _ ?_; clear hK K0
        have s6 := X6.size
        have X6' : Ext (fun y _ => B ≤ y) w4 w6 := (n5.ext.mono fun _ _ _ h => h.elim).tr X6
        show W _ _ _ _ _ _
        have q1 := wadd1 i (by omega)
        refine W_rg fun K0 hK => (W_text [true, true, true] (by kernel_rfl) ?_); simp only [↓List.toList_toArray, ↓rgd, ↓reduceIte, Nat.reduceEqDiff, rg, ow_83, e14, q1]
        refine hK _ _ ?_; clear hK K0
        refine ⟨_, ?_, i + 1, K' ++ c.xs.map κ ++ [κ x], V' ++ c.xs.map sndV ++ [sndV x], rfl, hlt, ?_, ?_, ?_, ((X.tr X2).tr X4').tr X6', ?_, ?_, ?_, ?_⟩
        · omega
        · rw [hKe]; simp
        · rw [hVe]; simp
        · simp only [upd_eq, Nat.reduceEqDiff, ↓reduceIte]; exact H6
        · simp only [upd_eq, Nat.reduceEqDiff, ↓reduceIte]; exact e0
        · simp only [upd_eq, Nat.reduceEqDiff, ↓reduceIte]; exact e4
        · simp only [upd_eq, Nat.reduceEqDiff, ↓reduceIte]; exact e12
        · simp only [upd_eq, Nat.reduceEqDiff, ↓reduceIte]
      · obtain rfl : i = ks.length := by omega
        have ht := lt_ff ks.length ks.length (by omega)
        refine W_sq fun K0 hK => (W_text [true, true, true, true, true, true, true] (by kernel_rfl) ?_); simp only [↓List.toList_toArray, ↓rgd, ↓reduceIte, Nat.reduceEqDiff, rg, ow_83, e12, e14, ptr_eq, hb2, ht]
        refine hK _ _ ?_; clear hK K0
        refine W_false (by simp only [evt, evc, upd_eq, Nat.reduceEqDiff, ↓reduceIte, ntT, ntF] <;> rfl) (W_exit ?_)
        simp only [andThen_exit, inBlk_exit, ↓reduceIte]
        show W _ _ _ _ _ _
        obtain ⟨c, hc, hcr⟩ := hci ks.length (by omega)
        have hcm : c ∈ cs := List.mem_of_getElem? hc
        rw [weave_last (c := c.xs) (by simpa using hcs) (by rw [List.getElem?_map, hc]; rfl)] at hKe hVe hKl hVl
        have hlc : cs.length - 1 < cs.length := by omega
        have hl1 : cs.length - 1 = ks.length := by omega
        have q1 := wsub1 cs.length (by omega) (by omega)
        have M1 : readsB (some (some [b, bc, ba])) b = true := by simp [readsB]
        have M2 : readsB (some (some [b, bc, ba])) bc = true := by simp [readsB]
        have M3 : readsB (some (some [b, bc, ba])) ba = true := by simp [readsB]
        refine W_sq fun K0 hK => (W_draw (some (some [b, bc, ba])) none [(0, 0, 0), (0, 1, 0), (0, 2, 0), (0, 3, 0), (0, 4, 0), (0, 5, 0), (0, 6, 0), (0, 7, 0), (0, 8, 0), (0, 9, 0), (0, 10, 0), (0, 11, 0), (0, 12, 0), (0, 13, 0), (0, 14, 0), (0, 15, 0), (0, 16, 0), (0, 17, 0), (0, 18, 0), (1, 19, 0), (0, 20, 0), (0, 21, 0), (0, 22, 0), (0, 23, 0)] mixed (by kernel_rfl) ?_); simp only [↓List.toList_toArray, ↓rgd, ↓reduceIte, Nat.reduceEqDiff, rg, ow_83, e0, e4, e12, ptr_eq, hb3, hc0, q1, hlc, M1, M2, M3]
        rw [hl1]
        refine do_call fn_83 (by simp only [evt, evc, upd_eq, Nat.reduceEqDiff, ↓reduceIte, maT, maC, maN, isnN, isnS] <;> rfl) (ih c.b mn ba (oa + ks.length) c.xs c.F (e 2) (e 3) K' V' _ ((hT c hcm).ext (X.tr (Ext.dr _ _ _)) fun y o g => by have := hGc c hcm y o g; omega) h0' hcr (hGc c hcm) (hkv.ext (Ext.dr _ _ _)) (by omega) (by omega) (by rw [sz_dr]; omega)) ?_
        rintro _ w2 ⟨kv2, vv2, rfl, H2, X2⟩
        refine ⟨.inr (keeps_on X2 fun y hy => ?_), ?_⟩
        · rw [sz_dr]
          simp only [List.mem_cons, List.not_mem_nil, or_false] at hy
          rcases hy with rfl | rfl | rfl
          · exact ⟨wok_lt o'.wb, fun o g => by have := hGo _ 0 (.inl rfl); omega⟩
          · exact ⟨wok_lt k'.wc, fun o g => by have := hGk _ 0 (.inl rfl); omega⟩
          · exact ⟨wok_lt k'.wa, fun o g => by have := hGk _ oa (.inr ⟨rfl, by omega, by have := k'.le; rw [List.length_map] at this; omega⟩); omega⟩
        simp only [↓List.toList_toArray, ↓rgd, ↓reduceIte, Nat.reduceEqDiff, rg, ow_83]
        refine hK _ _ ?_; clear hK K0
        refine W_ret ?_
        refine endQ_2 (by simp only [upd_eq, Nat.reduceEqDiff, ↓reduceIte] <;> rfl) (by simp only [upd_eq, Nat.reduceEqDiff, ↓reduceIte] <;> rfl) ⟨_, _, rfl, ?_, X.tr X2.od⟩
        rw [hKe, hVe]
        exact H2
end Go.Proofs.Ythonmbkjbgkfaaa
