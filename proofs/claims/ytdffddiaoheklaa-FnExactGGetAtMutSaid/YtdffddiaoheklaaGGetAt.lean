/-
  The item of a tree at an index. No condition.
-/
import Derived.Test.YtdffddiaoheklaaGMin
import Derived.Test.YtdffddiaoheklaaGCut
set_option linter.unusedSimpArgs false
set_option linter.unusedVariables false
namespace Go.Proofs.Ytdffddiaoheklaa
open Go Go.Proofs
set_option maxHeartbeats 2000000 in
set_option maxRecDepth 8000 in
theorem getAt_any (B m d : Nat) (ord : List Int) (hd : 2 ≤ d) (hd' : d ≤ 128) (iso : Int) (xs : List It) (F : Nat → Nat → Prop) (mu : Bool) (ix : Int) (w0 : World) (hM : TreeAt B ord w0 m d iso xs F) (hbig : xs.length < 4611686018427387904) :
    CallK Try.prog 98 #[ptr m, .int .i64 ix, .bool mu] w0 fun v w' => v = gotG (nth xs ix) ∧ Ext noF w0 w' := by
  refine calls_of_W [.cell 6 38, .tmp 7] Try.func98 rfl Try.ntmps98 Try.results98 (by simp) fun e he => ?_
  have e0 : e 0 = ptr m := he 0 _ rfl
  have e1 : e 1 = .int .i64 ix := he 1 _ rfl
  have e2 : e 2 = .bool mu := he 2 _ rfl
  clear he
  refine W_sq fun K hK => (W_text [false, true] (by kernel_rfl) ?_); simp only [↓List.toList_toArray, ↓rgd, ↓reduceIte, Nat.reduceEqDiff, rg, ow_98]
  refine do_alloc z_it fun w n1 => ⟨trivial, ?_⟩
  simp only [↓List.toList_toArray, ↓rgd, ↓reduceIte, Nat.reduceEqDiff, rg, ow_98]
  refine hK _ _ ?_; clear hK K
  replace hM := hM.ext n1.ext
  have X0 := n1.ext
  have wq : wok w w0.heap.size 2 := n1.wok
  clear n1
  refine W_seq ?_
  refine W_sq fun K hK => (W_text [true, true, false] (by kernel_rfl) ?_); simp only [↓List.toList_toArray, ↓rgd, ↓reduceIte, Nat.reduceEqDiff, rg, ow_98, e0, e2]
  refine do_call fn_83 (by simp only [evt, evc, upd_eq, Nat.reduceEqDiff, ↓reduceIte, maT, maC, maN, isnN, isnS] <;> rfl) (lock_any _ _ w) ?_
  rintro _ w' ⟨rfl, hw⟩
  obtain rfl : w = w' := hw
  refine ⟨trivial, ?_⟩
  simp only [↓List.toList_toArray, ↓rgd, ↓reduceIte, Nat.reduceEqDiff, rg, ow_98]
  refine hK _ _ ?_; clear hK K
  refine W_false (by simp only [evt, evc, upd_eq, Nat.reduceEqDiff, ↓reduceIte, ntT, ntF] <;> rfl) (W_skip ?_)
  show W _ _ _ _ _ _
  have hz := zIt_at hM.cfg
  have hcnt := hM.cnt
  refine W_seq ?_
  rcases hM.root with ⟨rfl, hr⟩ | ⟨h, b, hr, ht⟩
  · refine W_sq fun K hK => (W_text [true, true, true, true, true, true, true, true, true, true, true, true, true, true, true, true, true] (by kernel_rfl) ?_); simp only [↓List.toList_toArray, ↓rgd, ↓reduceIte, Nat.reduceEqDiff, rg, ow_98, e0, e1, ptr_eq, hr]
    refine hK _ _ ?_; clear hK K
    refine W_true (by simp only [evt, evc, upd_eq, Nat.reduceEqDiff, ↓reduceIte, ntT, ntF] <;> rfl) ?_
    refine W_sq fun K hK => (W_text [true, true, true, true, false, true] (by kernel_rfl) ?_); simp only [↓List.toList_toArray, ↓rgd, ↓reduceIte, Nat.reduceEqDiff, rg, ow_98, e0, ptr_eq, hz]
    refine do_store (by simp only [evt, evc, upd_eq, Nat.reduceEqDiff, ↓reduceIte, ntT, ntF] <;> rfl) (by simp only [evt, evc, upd_eq, Nat.reduceEqDiff, ↓reduceIte, ntT, ntF] <;> rfl) sz_38 (itV_len zIt) wq (by decide) (itV_oc zIt) fun w2 x2 r2 s2 => ⟨trivial, ?_⟩
    simp only [↓List.toList_toArray, ↓rgd, ↓reduceIte, Nat.reduceEqDiff, rg, ow_98]
    refine hK _ _ ?_; clear hK K
    refine W_ret ?_
    simp only [andThen_ret]
    refine endQ_ct (by simp only [upd_eq, Nat.reduceEqDiff, ↓reduceIte] <;> rfl) (by simp only [upd_eq, Nat.reduceEqDiff, ↓reduceIte] <;> rfl) ld_38 (iX_at (show Row w2 w0.heap.size 0 (E.cel zIt) from r2)) ⟨?_, noF_of X0 x2 fun y o hy g => by simp only [rng] at g; omega⟩
    rw [nth_none (by simp; omega)]; rfl
  by_cases hneg : ix < 0
  · have t1 : decide (ix < 0) = true := by simp [hneg]
    refine W_sq fun K hK => (W_text [true, true, true, true, true, true, true, true, true, true, true, true, true, true, true, true, true] (by kernel_rfl) ?_); simp only [↓List.toList_toArray, ↓rgd, ↓reduceIte, Nat.reduceEqDiff, rg, ow_98, e0, e1, ptr_eq, hr, t1]
    refine hK _ _ ?_; clear hK K
    refine W_true (by simp only [evt, evc, upd_eq, Nat.reduceEqDiff, ↓reduceIte, ntT, ntF] <;> rfl) ?_
    refine W_sq fun K hK => (W_text [true, true, true, true, false, true] (by kernel_rfl) ?_); simp only [↓List.toList_toArray, ↓rgd, ↓reduceIte, Nat.reduceEqDiff, rg, ow_98, e0, ptr_eq, hz]
    refine do_store (by simp only [evt, evc, upd_eq, Nat.reduceEqDiff, ↓reduceIte, ntT, ntF] <;> rfl) (by simp only [evt, evc, upd_eq, Nat.reduceEqDiff, ↓reduceIte, ntT, ntF] <;> rfl) sz_38 (itV_len zIt) wq (by decide) (itV_oc zIt) fun w2 x2 r2 s2 => ⟨trivial, ?_⟩
    simp only [↓List.toList_toArray, ↓rgd, ↓reduceIte, Nat.reduceEqDiff, rg, ow_98]
    refine hK _ _ ?_; clear hK K
    refine W_ret ?_
    simp only [andThen_ret]
    refine endQ_ct (by simp only [upd_eq, Nat.reduceEqDiff, ↓reduceIte] <;> rfl) (by simp only [upd_eq, Nat.reduceEqDiff, ↓reduceIte] <;> rfl) ld_38 (iX_at (show Row w2 w0.heap.size 0 (E.cel zIt) from r2)) ⟨?_, noF_of X0 x2 fun y o hy g => by simp only [rng] at g; omega⟩
    rw [nth_none (.inl hneg)]; rfl
  have t1 : decide (ix < 0) = false := by simp; omega
  by_cases hge : (xs.length : Int) ≤ ix
  · have t2 : decide ((xs.length : Int) ≤ ix) = true := by simp [hge]
    refine W_sq fun K hK => (W_text [true, true, true, true, true, true, true, true, true, true, true, true, true, true, true, true, true] (by kernel_rfl) ?_); simp only [↓List.toList_toArray, ↓rgd, ↓reduceIte, Nat.reduceEqDiff, rg, ow_98, e0, e1, ptr_eq, hr, t1, hcnt, t2]
    refine hK _ _ ?_; clear hK K
    refine W_true (by simp only [evt, evc, upd_eq, Nat.reduceEqDiff, ↓reduceIte, ntT, ntF] <;> rfl) ?_
    refine W_sq fun K hK => (W_text [true, true, true, true, false, true] (by kernel_rfl) ?_); simp only [↓List.toList_toArray, ↓rgd, ↓reduceIte, Nat.reduceEqDiff, rg, ow_98, e0, ptr_eq, hz]
    refine do_store (by simp only [evt, evc, upd_eq, Nat.reduceEqDiff, ↓reduceIte, ntT, ntF] <;> rfl) (by simp only [evt, evc, upd_eq, Nat.reduceEqDiff, ↓reduceIte, ntT, ntF] <;> rfl) sz_38 (itV_len zIt) wq (by decide) (itV_oc zIt) fun w2 x2 r2 s2 => ⟨trivial, ?_⟩
    simp only [↓List.toList_toArray, ↓rgd, ↓reduceIte, Nat.reduceEqDiff, rg, ow_98]
    refine hK _ _ ?_; clear hK K
    refine W_ret ?_
    simp only [andThen_ret]
    refine endQ_ct (by simp only [upd_eq, Nat.reduceEqDiff, ↓reduceIte] <;> rfl) (by simp only [upd_eq, Nat.reduceEqDiff, ↓reduceIte] <;> rfl) ld_38 (iX_at (show Row w2 w0.heap.size 0 (E.cel zIt) from r2)) ⟨?_, noF_of X0 x2 fun y o hy g => by simp only [rng] at g; omega⟩
    rw [nth_none (.inr hge)]; rfl
  have t2 : decide ((xs.length : Int) ≤ ix) = false := by simp; omega
  refine W_sq fun K hK => (W_text [true, true, true, true, true, true, true, true, true, true, true, true, true, true, true, true, true] (by kernel_rfl) ?_); simp only [↓List.toList_toArray, ↓rgd, ↓reduceIte, Nat.reduceEqDiff, rg, ow_98, e0, e1, ptr_eq, hr, t1, hcnt, t2]
  refine hK _ _ ?_; clear hK K
  refine W_false (by simp only [evt, evc, upd_eq, Nat.reduceEqDiff, ↓reduceIte, ntT, ntF] <;> rfl) (W_skip ?_)
  show W _ _ _ _ _ _
  obtain ⟨i0, rfl⟩ : ∃ i0 : Nat, ix = i0 := ⟨ix.toNat, by omega⟩
  have hn : nth xs (i0 : Int) = xs[i0]? := by simp [nth]
  rw [hn]
  clear t1 t2 hn hz hcnt
  refine W_sq fun K hK => (W_text [true, true, true, true, true, false, true] (by kernel_rfl) ?_); simp only [↓List.toList_toArray, ↓rgd, ↓reduceIte, Nat.reduceEqDiff, rg, ow_98, e0, e2, ptr_eq]
  refine do_call fn_107 (by simp only [evt, evc, upd_eq, Nat.reduceEqDiff, ↓reduceIte, maT, maC, maN, isnN, isnS] <;> rfl) (isoLoad_any m m 2 b mu iso w hM.cfg.iso hr ht.iso0.1) ?_
  rintro _ w1 ⟨rfl, r1⟩
  refine ⟨trivial, ?_⟩
  simp only [↓List.toList_toArray, ↓rgd, ↓reduceIte, Nat.reduceEqDiff, rg, ow_98]
  refine hK _ _ ?_; clear hK K
  refine W_block (W_loop (fun mm e w' => ∃ (lo b i : Nat) (ys : List It) (F : Nat → Nat → Prop), Tr E iso (d - 1) (2 * d - 1) mm w' lo b ys F ∧ 1 ≤ lo ∧ ys[i]? = xs[i0]? ∧ i < ys.length ∧ ys.length ≤ xs.length ∧ Ext noF w w' ∧ e 0 = ptr m ∧ e 1 = .int .i64 i ∧ e 2 = .bool mu ∧ e 6 = ptr w0.heap.size ∧ e 8 = ptr b)
    h ⟨1, b, i0, xs, F, ht.ext r1.ext (fun _ _ _ h => h), Nat.le_refl _, rfl, by omega, Nat.le_refl _, r1.ext, ?_, ?_, ?_, ?_, ?_⟩ ?_)
  · simp only [upd_eq, Nat.reduceEqDiff, ↓reduceIte]; exact e0
  · simp only [upd_eq, Nat.reduceEqDiff, ↓reduceIte]; exact e1
  · simp only [upd_eq, Nat.reduceEqDiff, ↓reduceIte]; exact e2
  · simp only [upd_eq, Nat.reduceEqDiff, ↓reduceIte]; rfl
  · simp only [upd_eq, Nat.reduceEqDiff, ↓reduceIte]
  · clear e0 e1 e2 e hr ht r1 hneg hge
    rintro mm e w' ⟨lo, b, i, ys, F', ht, hlo, hl, hilt, hle, X, e0, e1, e2, e6, e9⟩
    have hi0 := X.rd hM.cfg.iso (fun h => h)
    refine W_block (W_seq ?_)
    obtain ⟨bi, oi, cap, ks, ch, ho, h1, h2, _, ⟨rfl, rfl, rfl, hF⟩ | ⟨h', bc, ba, oa, capc, cs, rfl, rfl, n⟩⟩ := ht.open
    · refine W_sq fun K hK => (W_text [true, false] (by kernel_rfl) ?_); simp only [↓List.toList_toArray, ↓rgd, ↓reduceIte, Nat.reduceEqDiff, rg, ow_98, e9]
      refine do_call fn_108 (by simp only [evt, evc, upd_eq, Nat.reduceEqDiff, ↓reduceIte, maT, maC, maN, isnN, isnS] <;> rfl) (leaf_any b none w' ho.h3) ?_
      rintro _ w' ⟨rfl, rfl⟩
      refine ⟨trivial, ?_⟩
      simp only [↓List.toList_toArray, ↓rgd, ↓reduceIte, Nat.reduceEqDiff, rg, ow_98]
      refine hK _ _ ?_; clear hK K
      refine W_true (by simp only [evt, evc, upd_eq, Nat.reduceEqDiff, ↓reduceIte, ntT, ntF] <;> rfl) ?_
      obtain ⟨x, hx⟩ : ∃ x, ys[i]? = some x := ⟨_, List.getElem?_eq_getElem hilt⟩
      have hb2 := ho.h2
      have hk := it_at ho.row hx
      refine W_sq fun K hK => (W_text [true, true, true, true, true, true, true, false, true] (by kernel_rfl) ?_); simp only [↓List.toList_toArray, ↓rgd, ↓reduceIte, Nat.reduceEqDiff, rg, ow_98, e1, e9, ptr_eq, hb2, hilt, hk]
      refine do_store (by simp only [evt, upd_eq, Nat.reduceEqDiff, ↓reduceIte]; exact e6) (by simp only [evt, evc, upd_eq, Nat.reduceEqDiff, ↓reduceIte, ntT, ntF] <;> rfl) sz_38 (itV_len x) (X.wok wq) (by decide) (itV_oc x) fun w3 x3 r3 s3 => ⟨trivial, ?_⟩
      simp only [↓List.toList_toArray, ↓rgd, ↓reduceIte, Nat.reduceEqDiff, rg, ow_98]
      refine hK _ _ ?_; clear hK K
      refine W_ret ?_
      simp only [andThen_ret, inBlk_ret]
      refine endQ_ct (by simp only [upd_eq, Nat.reduceEqDiff, ↓reduceIte]; exact e6) (by simp only [upd_eq, Nat.reduceEqDiff, ↓reduceIte] <;> rfl) ld_38 (iX_at (show Row w3 w0.heap.size 0 (E.cel x) from r3)) ⟨?_, noF_of (X0.tr X) x3 fun y o hy g => by simp only [rng] at g; omega⟩
      rw [← hl, hx]; rfl
    · refine W_sq fun K hK => (W_text [true, false] (by kernel_rfl) ?_); simp only [↓List.toList_toArray, ↓rgd, ↓reduceIte, Nat.reduceEqDiff, rg, ow_98, e9]
      refine do_call fn_108 (by simp only [evt, evc, upd_eq, Nat.reduceEqDiff, ↓reduceIte, maT, maC, maN, isnN, isnS] <;> rfl) (leaf_any b (some ⟨bc, 0, none⟩) w' ho.h3) ?_
      rintro _ w' ⟨rfl, rfl⟩
      refine ⟨trivial, ?_⟩
      simp only [↓List.toList_toArray, ↓rgd, ↓reduceIte, Nat.reduceEqDiff, rg, ow_98]
      refine hK _ _ ?_; clear hK K
      refine W_false (by simp only [evt, evc, upd_eq, Nat.reduceEqDiff, ↓reduceIte, ntT, ntF] <;> rfl) (W_skip ?_)
      show W _ _ _ _ _ _
      refine W_sq fun K hK => (W_text [true] (by kernel_rfl) ?_); simp only [↓List.toList_toArray, ↓rgd, ↓reduceIte, Nat.reduceEqDiff, rg, ow_98]
      refine hK _ _ ?_; clear hK K
      have hb2 := ho.h2
      have hb3 := ho.h3
      have hc0 := n.kids.c0
      rw [List.length_map] at hc0
      have hcn := n.len
      have hcr : ∀ j c, cs[j]? = some c → rd w' ba (oa + j) = some (ptr c.b) := fun j c hc => n.kids.row j _ (by rw [List.getElem?_map, List.getElem?_map, hc]; rfl)
      refine W_sqx fun K hK => ?_
      have hrest : ∀ (e' : Env) (w2 : World) (j i' : Nat) (c : Kid It), RO w' w2 → cs[j]? = some c → c.xs[i']? = xs[i0]? → i' < c.xs.length → e' 0 = ptr m → e' 1 = .int .i64 i' → e' 2 = .bool mu → e' 6 = ptr w0.heap.size → e' 8 = ptr b → e' 9 = .int .i64 j → K e' w2 := by
        intro e' w2 j i' c r2 hc hx hlt' f0 f1 f2 f6 f9 f10
        refine hK _ _ ?_; clear hK K
        have hcm : c ∈ cs := List.mem_of_getElem? hc
        have htc := n.sub c hcm
        have hjl : j < cs.length := (List.getElem?_eq_some_iff.1 hc).1
        have X2 : Ext noF w' w2 := r2.ext
        have hcr2 := X2.rd (hcr j c hc) (fun h => h)
        have hb3' := X2.rd hb3 (fun h => h)
        have hc0' := X2.rd hc0 (fun h => h)
        have hi0' := X2.rd hi0 (fun h => h)
        refine W_rg fun K hK => (W_text [true, true, true, true, true, true, true, true, true, true, false, true] (by kernel_rfl) ?_); simp only [↓List.toList_toArray, ↓rgd, ↓reduceIte, Nat.reduceEqDiff, rg, ow_98, f0, f2, f9, f10, ptr_eq, hb3', hc0', hjl]
        refine do_call fn_107 (by simp only [evt, evc, upd_eq, Nat.reduceEqDiff, ↓reduceIte, maT, maC, maN, isnN, isnS] <;> rfl) (isoLoad_any m ba (oa + j) c.b mu iso _ hi0' hcr2 (htc.ext X2 fun _ _ _ h => h).iso0.1) ?_
        rintro _ w3 ⟨rfl, r3⟩
        refine ⟨trivial, ?_⟩
        simp only [↓List.toList_toArray, ↓rgd, ↓reduceIte, Nat.reduceEqDiff, rg, ow_98]
        refine hK _ _ ?_; clear hK K
        have X3 : Ext noF w' w3 := X2.tr r3.ext
        have hlen : c.xs.length ≤ ys.length := by rw [n.eq]; exact weave_mem_length _ _ (by simpa using hcn) _ (List.mem_map_of_mem hcm)
        refine ⟨h', by omega, d - 1, c.b, i', c.xs, c.F, htc.ext X3 (fun _ _ _ h => h), by omega, hx, hlt', by omega, X.tr X3, ?_, ?_, ?_, ?_, ?_⟩
        · simp only [upd_eq, Nat.reduceEqDiff, ↓reduceIte]; exact f0
        · simp only [upd_eq, Nat.reduceEqDiff, ↓reduceIte]; exact f1
        · simp only [upd_eq, Nat.reduceEqDiff, ↓reduceIte]; exact f2
        · simp only [upd_eq, Nat.reduceEqDiff, ↓reduceIte]; exact f6
        · simp only [upd_eq, Nat.reduceEqDiff, ↓reduceIte]
      clear hK
      refine W_block (W_loop (fun mm e' w2 => ∃ (j i' : Nat), mm = ks.length - j ∧ j ≤ ks.length ∧ i' ≤ i ∧ (weave ((cs.map Kid.xs).drop j) (ks.drop j))[i']? = xs[i0]? ∧ i' < (weave ((cs.map Kid.xs).drop j) (ks.drop j)).length ∧ RO w' w2 ∧
        e' 0 = ptr m ∧ e' 1 = .int .i64 i' ∧ e' 2 = .bool mu ∧ e' 6 = ptr w0.heap.size ∧ e' 8 = ptr b ∧ e' 9 = .int .i64 j)
        ks.length ⟨0, i, by simp, by simp, Nat.le_refl _, by simpa [← n.eq] using hl, by simpa [← n.eq] using hilt, RO.refl _, ?_, ?_, ?_, ?_, ?_, ?_⟩ ?_)
      · simp only [upd_eq, Nat.reduceEqDiff, ↓reduceIte]; exact e0
      · simp only [upd_eq, Nat.reduceEqDiff, ↓reduceIte]; exact e1
      · simp only [upd_eq, Nat.reduceEqDiff, ↓reduceIte]; exact e2
      · simp only [upd_eq, Nat.reduceEqDiff, ↓reduceIte]; exact e6
      · simp only [upd_eq, Nat.reduceEqDiff, ↓reduceIte]; exact e9
      · simp only [upd_eq, Nat.reduceEqDiff, ↓reduceIte]; rfl
      · clear e0 e1 e2 e6 e9 e
        rintro mm e w2 ⟨j, i', rfl, hj, hii, hx, hlt', r2, e0, e1, e2, e6, e9, e10⟩
        have X2 : Ext noF w' w2 := r2.ext
        have hb2' := X2.rd hb2 (fun h => h)
        have hb3' := X2.rd hb3 (fun h => h)
        have hc0' := X2.rd hc0 (fun h => h)
        obtain ⟨c, hc⟩ : ∃ c, cs[j]? = some c := ⟨_, List.getElem?_eq_getElem (by omega)⟩
        have hjl : j < cs.length := by omega
        have hcr2 := X2.rd (hcr j c hc) (fun h => h)
        have hcm : c ∈ cs := List.mem_of_getElem? hc
        have hcc := X2.rd ((n.sub c hcm).iso0.2) (fun h => h)
        have hclen : c.xs.length ≤ ys.length := by rw [n.eq]; exact weave_mem_length _ _ (by simpa using hcn) _ (List.mem_map_of_mem hcm)
        have hkl : ks.length ≤ ys.length := by rw [n.eq]; exact (weave_sub _ _ (by simpa using hcn)).length_le
        refine W_seq ?_
        by_cases hlt : j < ks.length
        · have ht := lt_tt j ks.length hlt
          obtain ⟨x, hkx⟩ : ∃ x, ks[j]? = some x := ⟨_, List.getElem?_eq_getElem hlt⟩
          rw [weave_step (c := c.xs) (by rw [List.getElem?_map, hc]; rfl) hkx] at hx hlt'
          refine W_sq fun K hK => (W_text [true, true, true, true, true, true, true] (by kernel_rfl) ?_); simp only [↓List.toList_toArray, ↓rgd, ↓reduceIte, Nat.reduceEqDiff, rg, ow_98, e9, e10, ptr_eq, hb2', ht]
          refine hK _ _ ?_; clear hK K
          refine W_true (by simp only [evt, evc, upd_eq, Nat.reduceEqDiff, ↓reduceIte, ntT, ntF] <;> rfl) (W_skip ?_)
          show W _ _ _ _ _ _
          refine W_seq (W_block (W_seq ?_))
          by_cases hin : i' < c.xs.length
          · have t3 := lt_tt i' c.xs.length hin
            refine W_sq fun K hK => (W_text [true, true, true, true, true, true, true, true, true, true, true, true, true, true] (by kernel_rfl) ?_); simp only [↓List.toList_toArray, ↓rgd, ↓reduceIte, Nat.reduceEqDiff, rg, ow_98, e1, e9, e10, ptr_eq, hb3', hc0', hjl, hcr2, hcc, t3]
            refine hK _ _ ?_; clear hK K
            refine W_true (by simp only [evt, evc, upd_eq, Nat.reduceEqDiff, ↓reduceIte, ntT, ntF] <;> rfl) (W_exit ?_)
            simp only [andThen_exit, inBlk_exit, ↓reduceIte, Nat.reduceEqDiff]
            refine hrest _ _ j i' c (r2.tr (RO.dr _ _)) hc ?_ hin ?_ ?_ ?_ ?_ ?_ ?_
            · rw [List.getElem?_append_left hin] at hx; exact hx
            · simp only [upd_eq, Nat.reduceEqDiff, ↓reduceIte]; exact e0
            · simp only [upd_eq, Nat.reduceEqDiff, ↓reduceIte]; exact e1
            · simp only [upd_eq, Nat.reduceEqDiff, ↓reduceIte]; exact e2
            · simp only [upd_eq, Nat.reduceEqDiff, ↓reduceIte]; exact e6
            · simp only [upd_eq, Nat.reduceEqDiff, ↓reduceIte]; exact e9
            · simp only [upd_eq, Nat.reduceEqDiff, ↓reduceIte]; exact e10
          · have t3 := lt_ff i' c.xs.length (by omega)
            refine W_sq fun K hK => (W_text [true, true, true, true, true, true, true, true, true, true, true, true, true, true] (by kernel_rfl) ?_); simp only [↓List.toList_toArray, ↓rgd, ↓reduceIte, Nat.reduceEqDiff, rg, ow_98, e1, e9, e10, ptr_eq, hb3', hc0', hjl, hcr2, hcc, t3]
            refine hK _ _ ?_; clear hK K
            refine W_false (by simp only [evt, evc, upd_eq, Nat.reduceEqDiff, ↓reduceIte, ntT, ntF] <;> rfl) ?_
            by_cases heq : i' = c.xs.length
            · have t4 : ((i' : Int) == (c.xs.length : Int)) = true := by simp [heq]
              refine W_sq fun K hK => (W_text [true, true, true, true, true, true, true, true, true, true, true, true, true, true] (by kernel_rfl) ?_); simp only [↓List.toList_toArray, ↓rgd, ↓reduceIte, Nat.reduceEqDiff, rg, ow_98, e1, e9, e10, ptr_eq, hb3', hc0', hjl, hcr2, hcc, t4]
              refine hK _ _ ?_; clear hK K
              refine W_true (by simp only [evt, evc, upd_eq, Nat.reduceEqDiff, ↓reduceIte, ntT, ntF] <;> rfl) ?_
              have hk' := it_at (X2.row ho.row fun _ _ h => h) hkx
              refine W_sq fun K hK => (W_text [true, true, true, true, true, true, true, false, true] (by kernel_rfl) ?_); simp only [↓List.toList_toArray, ↓rgd, ↓reduceIte, Nat.reduceEqDiff, rg, ow_98, e9, e10, ptr_eq, hb2', hlt, hk']
              refine do_store (by simp only [evt, upd_eq, Nat.reduceEqDiff, ↓reduceIte]; exact e6) (by simp only [evt, evc, upd_eq, Nat.reduceEqDiff, ↓reduceIte, ntT, ntF] <;> rfl) sz_38 (itV_len x) ((X.tr X2).wok wq) (by decide) (itV_oc x) fun w3 x3 r3 s3 => ⟨trivial, ?_⟩
              simp only [↓List.toList_toArray, ↓rgd, ↓reduceIte, Nat.reduceEqDiff, rg, ow_98]
              refine hK _ _ ?_; clear hK K
              refine W_ret ?_
              simp only [andThen_ret, inBlk_ret]
              refine endQ_ct (by simp only [upd_eq, Nat.reduceEqDiff, ↓reduceIte]; exact e6) (by simp only [upd_eq, Nat.reduceEqDiff, ↓reduceIte] <;> rfl) ld_38 (iX_at (show Row w3 w0.heap.size 0 (E.cel x) from r3)) ⟨?_, noF_of ((X0.tr X).tr X2) x3 fun y o hy g => by simp only [rng] at g; omega⟩
              rw [← hx, heq, List.getElem?_append_right (Nat.le_refl _), Nat.sub_self]; rfl
            · have t4 : ((i' : Int) == (c.xs.length : Int)) = false := by simp; omega
              refine W_sq fun K hK => (W_text [true, true, true, true, true, true, true, true, true, true, true, true, true, true] (by kernel_rfl) ?_); simp only [↓List.toList_toArray, ↓rgd, ↓reduceIte, Nat.reduceEqDiff, rg, ow_98, e1, e9, e10, ptr_eq, hb3', hc0', hjl, hcr2, hcc, t4]
              refine hK _ _ ?_; clear hK K
              refine W_false (by simp only [evt, evc, upd_eq, Nat.reduceEqDiff, ↓reduceIte, ntT, ntF] <;> rfl) (W_skip ?_)
              show W _ _ _ _ _ _
              have q1 := wadd1 c.xs.length (by omega)
              rw [List.length_append, List.length_cons] at hlt'
              have q2 := wsub i' (c.xs.length + 1) (by omega) (by omega)
              refine W_rg fun K hK => (W_text [true, true, true, true, true, true, true, true, true, true, true, true, true, true, true, true] (by kernel_rfl) ?_); simp only [↓List.toList_toArray, ↓rgd, ↓reduceIte, Nat.reduceEqDiff, rg, ow_98, e1, e9, e10, ptr_eq, hb3', hc0', hjl, hcr2, hcc, q1, q2]
              refine hK _ _ ?_; clear hK K
              show W _ _ _ _ _ _
              have q3 := wadd1 j (by omega)
              refine W_rg fun K hK => (W_text [true, true, true] (by kernel_rfl) ?_); simp only [↓List.toList_toArray, ↓rgd, ↓reduceIte, Nat.reduceEqDiff, rg, ow_98, e10, q3]
              refine hK _ _ ?_; clear hK K
              refine ⟨_, ?_, j + 1, i' - (c.xs.length + 1), rfl, hlt, by omega, ?_, by omega, r2.tr (RO.dr _ _), ?_, ?_, ?_, ?_, ?_, ?_⟩
              · omega
              · rw [List.getElem?_append_right (by omega)] at hx
                rw [show i' - c.xs.length = (i' - (c.xs.length + 1)) + 1 by omega, List.getElem?_cons_succ] at hx
                exact hx
              · simp only [upd_eq, Nat.reduceEqDiff, ↓reduceIte]; exact e0
              · simp only [upd_eq, Nat.reduceEqDiff, ↓reduceIte]
              · simp only [upd_eq, Nat.reduceEqDiff, ↓reduceIte]; exact e2
              · simp only [upd_eq, Nat.reduceEqDiff, ↓reduceIte]; exact e6
              · simp only [upd_eq, Nat.reduceEqDiff, ↓reduceIte]; exact e9
              · simp only [upd_eq, Nat.reduceEqDiff, ↓reduceIte]
        · obtain rfl : j = ks.length := by omega
          have ht := lt_ff ks.length ks.length (by omega)
          rw [weave_last (c := c.xs) (by simpa using hcn) (by rw [List.getElem?_map, hc]; rfl)] at hx hlt'
          refine W_sq fun K hK => (W_text [true, true, true, true, true, true, true] (by kernel_rfl) ?_); simp only [↓List.toList_toArray, ↓rgd, ↓reduceIte, Nat.reduceEqDiff, rg, ow_98, e9, e10, ptr_eq, hb2', ht]
          refine hK _ _ ?_; clear hK K
          refine W_false (by simp only [evt, evc, upd_eq, Nat.reduceEqDiff, ↓reduceIte, ntT, ntF] <;> rfl) (W_exit ?_)
          simp only [andThen_exit, inBlk_exit, ↓reduceIte]
          refine hrest _ _ ks.length i' c (r2.tr (RO.dr _ _)) hc hx hlt' ?_ ?_ ?_ ?_ ?_ ?_
          · simp only [upd_eq, Nat.reduceEqDiff, ↓reduceIte]; exact e0
          · simp only [upd_eq, Nat.reduceEqDiff, ↓reduceIte]; exact e1
          · simp only [upd_eq, Nat.reduceEqDiff, ↓reduceIte]; exact e2
          · simp only [upd_eq, Nat.reduceEqDiff, ↓reduceIte]; exact e6
          · simp only [upd_eq, Nat.reduceEqDiff, ↓reduceIte]; exact e9
          · simp only [upd_eq, Nat.reduceEqDiff, ↓reduceIte]; exact e10
end Go.Proofs.Ytdffddiaoheklaa
