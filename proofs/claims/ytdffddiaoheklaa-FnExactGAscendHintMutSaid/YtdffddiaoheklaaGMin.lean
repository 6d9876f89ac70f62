/-
  The least item of a tree. No condition.
-/
import Derived.Test.YtdffddiaoheklaaGNew
import Derived.Test.YtdffddiaoheklaaMHeight
import Derived.Test.YtdffddiaoheklaaHand
set_option linter.unusedSimpArgs false
set_option linter.unusedVariables false
namespace Go.Proofs.Ytdffddiaoheklaa
open Go Go.Proofs
theorem idx0 (sz b o n : Nat) (h : 0 < n) : idxX (some sz) ⟨b, o, none⟩ n 0 = some (.pointer (some ⟨b, o, none⟩)) := by
  have := idxX_s sz b o n 0 h
  rwa [Nat.zero_mul, Nat.add_zero] at this
theorem lock_any (a b : Value) (w : World) : CallK Try.prog 83 #[a, b] w fun v w' => v = .bool false ∧ w = w' := by
  refine calls_of_W [.tmp 4] Try.func83 rfl Try.ntmps83 Try.results83 (by simp) fun e he => ?_
  clear he
  refine W_sq fun K hK => (W_text [true] (by kernel_rfl) ?_); simp only [↓List.toList_toArray, ↓rgd, ↓rgf, ↓reduceIte, Nat.reduceEqDiff, rg]
  refine hK _ _ ?_; clear hK K
  refine W_sq fun K hK => (W_text [true] (by kernel_rfl) ?_); simp only [↓List.toList_toArray, ↓rgd, ↓rgf, ↓reduceIte, Nat.reduceEqDiff, rg]
  refine hK _ _ ?_; clear hK K
  exact W_ret (endQ_1 (by simp only [upd_eq, Nat.reduceEqDiff, ↓reduceIte] <;> rfl) ⟨rfl, rfl⟩)
/-- An item that was found, and whether one was. -/
def gotG (x : Option It) : Value := .tuple #[itV (x.getD zIt), .bool x.isSome]
theorem gotG_eq (x : Option It) : gotG x = .tuple #[itV (x.getD zIt), .bool x.isSome] := id (Eq.trans rfl rfl)
theorem Tr.pos {w : World} {iso : Int} {mn mx h lo b : Nat} {xs : List It} {F : Nat → Nat → Prop} (ht : Tr E iso mn mx h w lo b xs F) (hlo : 1 ≤ lo) : 0 < xs.length := by
  obtain ⟨bi, oi, cap, ks, ch, ho, h1, h2, _, h | ⟨h', bc, ba, oa, capc, cs, _, _, n⟩⟩ := ht.open
  · rw [h.2.2.1]; omega
  · rw [n.eq]; have := weave_length (cs.map Kid.xs) ks (by simpa using n.len); omega
theorem weave_head {cs : List (List It)} {ks : List It} {c : List It} (hc : cs[0]? = some c) (hne : 0 < c.length) : (weave cs ks).head? = c.head? := by
  cases cs with
  | nil => simp at hc
  | cons d cs =>
    simp at hc; subst hc
    cases d with
    | nil => simp at hne
    | cons x d => cases ks <;> simp [weave]
set_option maxHeartbeats 1000000 in
set_option maxRecDepth 8000 in
theorem minMut_any (B m d : Nat) (ord : List Int) (hd : 2 ≤ d) (hd' : d ≤ 128) (iso : Int) (xs : List It) (F : Nat → Nat → Prop) (mu : Bool) (w : World) (hM : TreeAt B ord w m d iso xs F) :
    CallK Try.prog 96 #[ptr m, .bool mu] w fun v w' => v = gotG xs.head? ∧ Ext noF w w' := by
  refine calls_of_W [.cell 4 38, .tmp 5] Try.func96 rfl Try.ntmps96 Try.results96 (by simp) fun e he => ?_
  have e0 : e 0 = ptr m := he 0 _ rfl
  have e1 : e 1 = .bool mu := he 1 _ rfl
  clear he
  refine W_sq fun K hK => (W_text [false, true] (by kernel_rfl) ?_); simp only [↓List.toList_toArray, ↓rgd, ↓rgf, ↓reduceIte, Nat.reduceEqDiff, rg, ow_96]
  refine do_alloc z_it fun w1 n1 => ⟨trivial, ?_⟩
  simp only [↓List.toList_toArray, ↓rgd, ↓rgf, ↓reduceIte, Nat.reduceEqDiff, rg, ow_96]
  refine hK _ _ ?_; clear hK K
  have hM1 := hM.ext n1.ext
  have s1 := n1.size
  refine W_seq ?_
  refine W_sq fun K hK => (W_text [true, true, false] (by kernel_rfl) ?_); simp only [↓List.toList_toArray, ↓rgd, ↓rgf, ↓reduceIte, Nat.reduceEqDiff, rg, ow_96, e0, e1]
  refine do_call fn_83 (by simp only [evt, evc, upd_eq, Nat.reduceEqDiff, ↓reduceIte, maT, maC, maN, isnN, isnS] <;> rfl) (lock_any _ _ w1) ?_
  rintro _ _ ⟨rfl, rfl⟩
  refine ⟨trivial, ?_⟩
  simp only [↓List.toList_toArray, ↓rgd, ↓rgf, ↓reduceIte, Nat.reduceEqDiff, rg, ow_96]
  refine hK _ _ ?_; clear hK K
  refine W_false (by simp only [evt, evc, upd_eq, Nat.reduceEqDiff, ↓reduceIte, ntT, ntF] <;> rfl) (W_skip ?_)
  show W _ _ _ _ _ _
  refine W_seq ?_
  rcases hM1.root with ⟨rfl, hr⟩ | ⟨h, b, hr, ht⟩
  · have hz := zIt_at hM1.cfg
    refine W_sq fun K hK => (W_text [true, true, true, true, true] (by kernel_rfl) ?_); simp only [↓List.toList_toArray, ↓rgd, ↓rgf, ↓reduceIte, Nat.reduceEqDiff, rg, ow_96, e0, ptr_eq, hr]
    refine hK _ _ ?_; clear hK K
    refine W_true (by simp only [evt, evc, upd_eq, Nat.reduceEqDiff, ↓reduceIte, ntT, ntF] <;> rfl) ?_
    refine W_sq fun K hK => (W_text [true, true, true, true, false, true] (by kernel_rfl) ?_); simp only [↓List.toList_toArray, ↓rgd, ↓rgf, ↓reduceIte, Nat.reduceEqDiff, rg, ow_96, e0, ptr_eq, hz]
    refine do_store (by simp only [evt, evc, upd_eq, Nat.reduceEqDiff, ↓reduceIte, ntT, ntF] <;> rfl) (by simp only [evt, evc, upd_eq, Nat.reduceEqDiff, ↓reduceIte, ntT, ntF] <;> rfl) sz_38 (itV_len zIt) n1.wok (by decide) (itV_oc zIt) fun w2 x2 r2 s2 => ⟨trivial, ?_⟩
    simp only [↓List.toList_toArray, ↓rgd, ↓rgf, ↓reduceIte, Nat.reduceEqDiff, rg, ow_96]
    refine hK _ _ ?_; clear hK K
    refine W_ret ?_
    simp only [andThen_ret]
    exact endQ_ct (by simp only [upd_eq, Nat.reduceEqDiff, ↓reduceIte] <;> rfl) (by simp only [upd_eq, Nat.reduceEqDiff, ↓reduceIte] <;> rfl) ld_38 (iX_at (show Row w2 w.heap.size 0 (E.cel zIt) from r2)) ⟨rfl, noF_of n1.ext x2 fun y o hy g => by simp only [rng] at g; omega⟩
  · refine W_sq fun K hK => (W_text [true, true, true, true, true] (by kernel_rfl) ?_); simp only [↓List.toList_toArray, ↓rgd, ↓rgf, ↓reduceIte, Nat.reduceEqDiff, rg, ow_96, e0, ptr_eq, hr]
    refine hK _ _ ?_; clear hK K
    refine W_false (by simp only [evt, evc, upd_eq, Nat.reduceEqDiff, ↓reduceIte, ntT, ntF] <;> rfl) (W_skip ?_)
    show W _ _ _ _ _ _
    refine W_sq fun K hK => (W_text [true, true, true, true, true, false, true] (by kernel_rfl) ?_); simp only [↓List.toList_toArray, ↓rgd, ↓rgf, ↓reduceIte, Nat.reduceEqDiff, rg, ow_96, e0, e1, ptr_eq]
    refine do_call fn_107 (by simp only [evt, evc, upd_eq, Nat.reduceEqDiff, ↓reduceIte, maT, maC, maN, isnN, isnS] <;> rfl) (isoLoad_any m m 2 b mu iso w1 hM1.cfg.iso hr ht.iso0.1) ?_
    rintro _ w2 ⟨rfl, r2⟩
    refine ⟨trivial, ?_⟩
    simp only [↓List.toList_toArray, ↓rgd, ↓rgf, ↓reduceIte, Nat.reduceEqDiff, rg, ow_96]
    refine hK _ _ ?_; clear hK K
    refine W_block (W_loop (fun mm e w' => ∃ (lo b : Nat) (ys : List It) (F : Nat → Nat → Prop), Tr E iso (d - 1) (2 * d - 1) mm w' lo b ys F ∧ 1 ≤ lo ∧ ys.head? = xs.head? ∧ Ext noF w1 w' ∧ e 0 = ptr m ∧ e 1 = .bool mu ∧ e 4 = ptr w.heap.size ∧ e 6 = ptr b)
      h ⟨1, b, xs, F, ht.ext r2.ext (fun _ _ _ h => h), Nat.le_refl _, rfl, r2.ext, ?_, ?_, ?_, ?_⟩ ?_)
    · simp only [upd_eq, Nat.reduceEqDiff, ↓reduceIte]; exact e0
    · simp only [upd_eq, Nat.reduceEqDiff, ↓reduceIte]; exact e1
    · simp only [upd_eq, Nat.reduceEqDiff, ↓reduceIte]; rfl
    · simp only [upd_eq, Nat.reduceEqDiff, ↓reduceIte]
    · clear e0 e1 e hr ht r2
      rintro mm e w' ⟨lo, b, ys, F', ht, hlo, hl, X, e0, e1, e4, e6⟩
      have hi0 := X.rd hM1.cfg.iso (fun h => h)
      refine W_block (W_seq ?_)
      obtain ⟨bi, oi, cap, ks, ch, ho, h1, h2, _, ⟨rfl, rfl, rfl, hF⟩ | ⟨h', bc, ba, oa, capc, cs, rfl, rfl, n⟩⟩ := ht.open
      · refine W_sq fun K hK => (W_text [true, false] (by kernel_rfl) ?_); simp only [↓List.toList_toArray, ↓rgd, ↓rgf, ↓reduceIte, Nat.reduceEqDiff, rg, ow_96, e6]
        refine do_call fn_108 (by simp only [evt, evc, upd_eq, Nat.reduceEqDiff, ↓reduceIte, maT, maC, maN, isnN, isnS] <;> rfl) (leaf_any b none w' ho.h3) ?_
        rintro _ w' ⟨rfl, rfl⟩
        refine ⟨trivial, ?_⟩
        simp only [↓List.toList_toArray, ↓rgd, ↓rgf, ↓reduceIte, Nat.reduceEqDiff, rg, ow_96]
        refine hK _ _ ?_; clear hK K
        refine W_true (by simp only [evt, evc, upd_eq, Nat.reduceEqDiff, ↓reduceIte, ntT, ntF] <;> rfl) ?_
        obtain ⟨x, hx⟩ : ∃ x, ys[0]? = some x := ⟨_, List.getElem?_eq_getElem (by omega)⟩
        have hb2 := ho.h2
        have i0 := idx0 2 bi oi ys.length (by omega)
        have ix := it_at ho.row hx
        rw [Nat.zero_mul, Nat.add_zero] at ix
        refine W_sq fun K hK => (W_text [true, true, true, true, true, true, false, true] (by kernel_rfl) ?_); simp only [↓List.toList_toArray, ↓rgd, ↓rgf, ↓reduceIte, Nat.reduceEqDiff, rg, ow_96, e6, ptr_eq, hb2, i0, ix]
        refine do_store (by simp only [evt, upd_eq, Nat.reduceEqDiff, ↓reduceIte]; exact e4) (by simp only [evt, evc, upd_eq, Nat.reduceEqDiff, ↓reduceIte, ntT, ntF] <;> rfl) sz_38 (itV_len x) (X.wok n1.wok) (by decide) (itV_oc x) fun w3 x3 r3 s3 => ⟨trivial, ?_⟩
        simp only [↓List.toList_toArray, ↓rgd, ↓rgf, ↓reduceIte, Nat.reduceEqDiff, rg, ow_96]
        refine hK _ _ ?_; clear hK K
        refine W_ret ?_
        simp only [andThen_ret, inBlk_ret]
        have hgl : xs.head? = some x := by rw [← hl, List.head?_eq_getElem?]; exact hx
        refine endQ_ct (by simp only [upd_eq, Nat.reduceEqDiff, ↓reduceIte]; exact e4) (by simp only [upd_eq, Nat.reduceEqDiff, ↓reduceIte] <;> rfl) ld_38 (iX_at (show Row w3 w.heap.size 0 (E.cel x) from r3)) ⟨?_, noF_of (n1.ext.tr X) x3 fun y o hy g => by simp only [rng] at g; omega⟩
        rw [hgl]; rfl
      · have hcl : 0 < cs.length := by have := n.len; omega
        obtain ⟨c, hc⟩ : ∃ c, cs[0]? = some c := ⟨_, List.getElem?_eq_getElem hcl⟩
        have hcm : c ∈ cs := List.mem_of_getElem? hc
        have htc := n.sub c hcm
        have hcr : rd w' ba (oa + 0) = some (ptr c.b) := n.kids.row 0 _ (by rw [List.getElem?_map, List.getElem?_map, hc]; rfl)
        rw [Nat.add_zero] at hcr
        have hb3 := ho.h3
        have hc0 := n.kids.c0
        rw [List.length_map] at hc0
        refine W_sq fun K hK => (W_text [true, false] (by kernel_rfl) ?_); simp only [↓List.toList_toArray, ↓rgd, ↓rgf, ↓reduceIte, Nat.reduceEqDiff, rg, ow_96, e6]
        refine do_call fn_108 (by simp only [evt, evc, upd_eq, Nat.reduceEqDiff, ↓reduceIte, maT, maC, maN, isnN, isnS] <;> rfl) (leaf_any b (some ⟨bc, 0, none⟩) w' ho.h3) ?_
        rintro _ w' ⟨rfl, rfl⟩
        refine ⟨trivial, ?_⟩
        simp only [↓List.toList_toArray, ↓rgd, ↓rgf, ↓reduceIte, Nat.reduceEqDiff, rg, ow_96]
        refine hK _ _ ?_; clear hK K
        refine W_false (by simp only [evt, evc, upd_eq, Nat.reduceEqDiff, ↓reduceIte, ntT, ntF] <;> rfl) (W_skip ?_)
        show W _ _ _ _ _ _
        have i0 := idx0 1 ba oa cs.length hcl
        refine W_rg fun K hK => (W_text [true, true, true, true, true, true, true, true, true, false, true] (by kernel_rfl) ?_); simp only [↓List.toList_toArray, ↓rgd, ↓rgf, ↓reduceIte, Nat.reduceEqDiff, rg, ow_96, e0, e1, e6, ptr_eq, hb3, hc0, i0]
        refine do_call fn_107 (by simp only [evt, evc, upd_eq, Nat.reduceEqDiff, ↓reduceIte, maT, maC, maN, isnN, isnS] <;> rfl) (isoLoad_any m ba oa c.b mu iso _ hi0 hcr htc.iso0.1) ?_
        rintro _ w2 ⟨rfl, r2⟩
        refine ⟨trivial, ?_⟩
        simp only [↓List.toList_toArray, ↓rgd, ↓rgf, ↓reduceIte, Nat.reduceEqDiff, rg, ow_96]
        refine hK _ _ ?_; clear hK K
        have X2 : Ext noF w' w2 := r2.ext
        have hlast : (weave (cs.map Kid.xs) ks).head? = c.xs.head? := weave_head (by rw [List.getElem?_map, hc]; rfl) (htc.pos (by omega))
        refine ⟨h', by omega, d - 1, c.b, c.xs, c.F, htc.ext X2 (fun _ _ _ h => h), by omega, ?_, X.tr X2, ?_, ?_, ?_, ?_⟩
        · rw [← hl, n.eq, hlast]
        · simp only [upd_eq, Nat.reduceEqDiff, ↓reduceIte]; exact e0
        · simp only [upd_eq, Nat.reduceEqDiff, ↓reduceIte]; exact e1
        · simp only [upd_eq, Nat.reduceEqDiff, ↓reduceIte]; exact e4
        · simp only [upd_eq, Nat.reduceEqDiff, ↓reduceIte]
set_option maxHeartbeats 400000 in
set_option maxRecDepth 8000 in
theorem min_any (B m d : Nat) (ord : List Int) (hd : 2 ≤ d) (hd' : d ≤ 128) (iso : Int) (xs : List It) (F : Nat → Nat → Prop) (w : World) (hM : TreeAt B ord w m d iso xs F) :
    CallK Try.prog 72 #[ptr m] w fun v w' => v = gotG xs.head? ∧ Ext noF w w' := by
  refine calls_of_W [.cell 2 38, .tmp 3] Try.func72 rfl Try.ntmps72 Try.results72 (by simp) fun e he => ?_
  have e0 : e 0 = ptr m := he 0 _ rfl
  clear he
  refine W_sq fun K hK => (W_text [false, true] (by kernel_rfl) ?_); simp only [↓List.toList_toArray, ↓rgd, ↓rgf, ↓reduceIte, Nat.reduceEqDiff, rg, ow_72]
  refine do_alloc z_it fun w1 n1 => ⟨trivial, ?_⟩
  simp only [↓List.toList_toArray, ↓rgd, ↓rgf, ↓reduceIte, Nat.reduceEqDiff, rg, ow_72]
  refine hK _ _ ?_; clear hK K
  refine W_sq fun K hK => (W_text [true, false, true, true, false, true] (by kernel_rfl) ?_); simp only [↓List.toList_toArray, ↓rgd, ↓rgf, ↓reduceIte, Nat.reduceEqDiff, rg, ow_72, e0]
  refine do_call fn_96 (by simp only [evt, evc, upd_eq, Nat.reduceEqDiff, ↓reduceIte, maT, maC, maN, isnN, isnS] <;> rfl) (minMut_any B m d ord hd hd' iso xs F true w1 (hM.ext n1.ext)) ?_
  rintro _ w2 ⟨rfl, X2⟩
  refine ⟨trivial, ?_⟩
  simp only [↓List.toList_toArray, ↓rgd, ↓rgf, ↓reduceIte, Nat.reduceEqDiff, rg, ow_72, gotG_eq]
  refine do_store (by simp only [evt, evc, upd_eq, Nat.reduceEqDiff, ↓reduceIte, ntT, ntF] <;> rfl) (by simp only [evt, evc, upd_eq, Nat.reduceEqDiff, ↓reduceIte, ntT, ntF] <;> rfl) sz_38 (itV_len _) (X2.wok n1.wok) (by decide) (itV_oc _) fun w3 x3 r3 s3 => ⟨trivial, ?_⟩
  simp only [↓List.toList_toArray, ↓rgd, ↓rgf, ↓reduceIte, Nat.reduceEqDiff, rg, ow_72]
  refine hK _ _ ?_; clear hK K
  exact W_ret (endQ_ct (by simp only [upd_eq, Nat.reduceEqDiff, ↓reduceIte] <;> rfl) (by simp only [upd_eq, Nat.reduceEqDiff, ↓reduceIte] <;> rfl) ld_38 (iX_at (show Row w3 w.heap.size 0 (E.cel (xs.head?.getD zIt)) from r3)) ⟨rfl, noF_of (n1.ext.tr X2) x3 fun y o hy g => by simp only [rng] at g; omega⟩)
end Go.Proofs.Ytdffddiaoheklaa
