/-
  FnExactSDelete: the whole statement: it returns true whatever the input is, and the arguments read as before. No condition.
-/
import Derived.Test.YtjaolgehpnmieaaZc7433210
import Derived.Test.YtjaolgehpnmieaaZee1719b2
import Derived.Test.YtjaolgehpnmieaaZMSet
import Derived.Test.YtjaolgehpnmieaaZ6eab3e7b
/-
  Delete of a map. No condition.
-/
set_option linter.unusedSimpArgs false
set_option linter.unusedVariables false
namespace Go.Proofs.Ytjaolgehpnmieaa
open Go Go.Proofs
theorem delR_out {q : Rk} {xs : List It} : (delR O κ false q xs = none → at? O κ q xs = none ∧ hit O κ q xs = false ∧ del O κ q xs = xs) ∧
    (∀ {y ys}, delR O κ false q xs = some (y, ys) → at? O κ q xs = some y ∧ hit O κ q xs = true ∧ del O κ q xs = ys) := by
  cases hh : hit O κ q xs with
  | false =>
    refine ⟨fun _ => ⟨by simp [at?, hh], rfl, by simp [del, hh]⟩, fun {y ys} h => ?_⟩
    rw [delR_miss hh] at h; cases h
  | true =>
    obtain ⟨k, hk, _⟩ := hit_at O κ hh
    refine ⟨fun h => ?_, fun {y ys} h => ?_⟩
    · rw [delR_leaf hh hk] at h; cases h
    · rw [delR_leaf hh hk] at h
      cases h
      exact ⟨by simp [at?, hh, hk], rfl, by simp [del, hh]⟩
def DltQ (m d : Nat) (iso : Int) (q : Rk) (xs : List It) (F : Nat → Nat → Prop) (w : World) (v : Value) (w' : World) : Prop :=
  v = .tuple #[vV ((at? O κ q xs).getD zIt), .bool (hit O κ q xs)] ∧ Ext (mapF m F) w w' ∧ ∃ F', MapAt w' m d iso (del O κ q xs) F' ∧ ∀ y o, F' y o → F y o ∨ w.heap.size ≤ y
theorem dTr_ne {w : World} {iso : Int} {mn mx h lo b : Nat} {xs : List It} {F : Nat → Nat → Prop} (ht : Tr E iso mn mx h w lo b xs F) (hlo : 1 ≤ lo) : xs ≠ [] := by
  obtain ⟨bi, oi, cap, ks, ch, ho, h1, h2, hoF, hin⟩ := ht.open
  rcases hin with ⟨_, _, hx, _⟩ | ⟨_, _, _, _, _, cs, _, _, n⟩
  · intro e; rw [e] at hx; rw [← hx] at h1; simp at h1; omega
  · intro e
    have hl := n.len
    have := congrArg List.length n.eq
    rw [weave_length (cs.map Kid.xs) ks (by simpa using hl), e] at this
    simp only [List.length_nil] at this
    omega
set_option maxHeartbeats 4000000 in
set_option maxRecDepth 8000 in
theorem delete_map (m d : Nat) (iso : Int) (q : Rk) (xs : List It) (hd : xs ≠ [] → 2 ≤ d ∧ d ≤ 128) (F : Nat → Nat → Prop) (w00 : World) (hM : MapAt w00 m d iso xs F) (hbig : xs.length < 1152921504606846976) :
    CallK Try.prog 52 #[ptr m, kV q] w00 (DltQ m d iso q xs F w00) := by
  suffices HS : ∀ R : Value → World → Prop, (∀ v w', DltQ m d iso q xs F w00 v w' → R v w') → CallK Try.prog 52 #[ptr m, kV q] w00 R from HS _ fun _ _ h => h
  intro R hR
  refine calls_of_W [.cell 4 74, .tmp 5] Try.func52 rfl Try.ntmps52 Try.results52 (by simp) fun e he => ?_
  have e0 : e 0 = ptr m := he 0 _ rfl
  have e1 : e 1 = kV q := he 1 _ rfl
  clear he
  refine W_sq fun K hK => (W_text [false, true] (by kernel_rfl) ?_); simp only [↓List.toList_toArray, ↓rgd, ↓rgf, ↓reduceIte, Nat.reduceEqDiff, rg, ow_52]
  refine do_alloc z_unit fun w nb => ⟨trivial, ?_⟩
  simp only [↓List.toList_toArray, ↓rgd, ↓rgf, ↓reduceIte, Nat.reduceEqDiff, rg, ow_52]
  refine hK _ _ ?_; clear hK K
  have Xb : Ext noF w00 w := nb.ext
  have sb := nb.size
  have hml0 := hM.mlt
  obtain ⟨r0, hr0⟩ : ∃ r0, r0 = w00.heap.size := ⟨_, rfl⟩
  have wr : wok w r0 0 := by rw [hr0]; exact nb.wok
  have hrF : ∀ o, ¬ F r0 o := fun o g => by have := hM.lt _ _ g; omega
  have hrw : r0 < w.heap.size := by omega
  have hrm : r0 ≠ m := by omega
  rw [← hr0]
  replace hR : ∀ v w', DltQ m d iso q xs F w v w' → R v w' := fun v w' ⟨h1, h2, F', h3, h4⟩ => hR v w' ⟨h1, Xb.trans h2 (fun _ _ g => g.elim) (fun _ _ _ g => g), F', h3, fun y o g => (h4 y o g).imp id fun g => by omega⟩
  replace hM := hM.ext Xb
  clear Xb nb sb hml0 hr0
  have hml := hM.mlt
  refine W_seq ?_
  rcases hM.root with ⟨hxs, hr⟩ | ⟨h, b, hr, ht⟩
  · refine W_sq fun K hK => (W_text [true, true, true, true, true] (by kernel_rfl) ?_); simp only [↓List.toList_toArray, ↓rgd, ↓rgf, ↓reduceIte, Nat.reduceEqDiff, rg, ow_52, e0, ptr_eq, hr]
    refine hK _ _ ?_; clear hK K
    refine W_true (by simp only [evt, evc, upd_eq, Nat.reduceEqDiff, ↓reduceIte, ntT, ntF] <;> rfl) ?_
    subst hxs
    have tm := wok.ty tyP hM.cfg.wok
    refine W_sq fun K hK => (W_text [true, true, true, true, true, false, true] (by kernel_rfl) ?_); simp only [↓List.toList_toArray, ↓rgd, ↓rgf, ↓reduceIte, Nat.reduceEqDiff, rg, ow_52, e0, ptr_eq, tm]
    refine do_store (b := r0) (o := 0) (by simp only [evt, evc, upd_eq, Nat.reduceEqDiff, ↓reduceIte] <;> first | rfl | exact e4) (by simp only [evt, evc, upd_eq, Nat.reduceEqDiff, ↓reduceIte, ntT, ntF] <;> rfl) sz_74 rfl wr (by decide) (fun _ h => by cases h) fun wz xz rz sz => ⟨trivial, ?_⟩
    simp only [↓List.toList_toArray, ↓rgd, ↓rgf, ↓reduceIte, Nat.reduceEqDiff, rg, ow_52]
    refine hK _ _ ?_; clear hK K
    refine W_ret ?_
    simp only [andThen_ret]
    exact endQ_ct (by simp only [upd_eq, Nat.reduceEqDiff, ↓reduceIte] <;> first | rfl | exact e4) (by simp only [upd_eq, Nat.reduceEqDiff, ↓reduceIte] <;> rfl) ld_74 ld_unit (hR _ _ ⟨rfl, (Ext.refl _ w).trans xz (fun _ _ g => g) fun y o _ k => by have := k.2; omega, F, (hM).extG xz (fun y o _ k => by have := k.2; omega) (fun o k => by have := k.2; omega), fun _ _ g => .inl g⟩)
  · obtain ⟨hd, hd'⟩ := hd (dTr_ne ht (Nat.le_refl 1))
    refine W_sq fun K hK => (W_text [true, true, true, true, true] (by kernel_rfl) ?_); simp only [↓List.toList_toArray, ↓rgd, ↓rgf, ↓reduceIte, Nat.reduceEqDiff, rg, ow_52, e0, ptr_eq, hr]
    refine hK _ _ ?_; clear hK K
    refine W_false (by simp only [evt, evc, upd_eq, Nat.reduceEqDiff, ↓reduceIte, ntT, ntF] <;> rfl) (W_skip ?_)
    show W _ _ _ _ _ _
    have hm := hM.off
    have hFlt := hM.lt
    have hh := ht.height (by omega) (by omega)
    refine W_sq fun K hK => (W_text [true, true, true, true, true, false, true, true, true, false, false, true] (by kernel_rfl) ?_); simp only [↓List.toList_toArray, ↓rgd, ↓rgf, ↓reduceIte, Nat.reduceEqDiff, rg, ow_52, e0, e1, ptr_eq]
    refine do_call fn_66 (by simp only [evt, evc, upd_eq, Nat.reduceEqDiff, ↓reduceIte, maT, maC, maN, isnN, isnS] <;> rfl) (del_any m d iso hd hd' h 1 b xs F w m 2 false q none hM.cfg hm (Nat.le_refl 1) ht hM.asc hbig hr (HOk.none _) (fun hb hh => by cases hh)) ?_
    rintro VV w3 ⟨X3p, -, F', hF', hres⟩
    refine ⟨trivial, ?_⟩
    have X3 : Ext F w w3 := X3p.mono fun y o _ g => g.elim id fun g => by cases g
    have s3 := X3.size
    clear X3p
    have hF't : ∀ o, ¬ F' w3.heap.size o := fun o g => by
      rcases hres with ⟨_, _, T⟩ | ⟨y, ys, _, _, T⟩
      · have := T.lt _ _ g; omega
      · have := T.lt _ _ g; omega
    have hj : ∃ (y : It) (dl : Bool), VV = .tuple #[itV y, .bool dl] ∧ ((dl = false ∧ delR O κ false q xs = none ∧ Tr E iso (d - 1) (2 * d - 1) h w3 1 b xs F') ∨ (dl = true ∧ ∃ ys, delR O κ false q xs = some (y, ys) ∧ Tr E iso (d - 1) (2 * d - 1) h w3 0 b ys F')) := by
      rcases hres with ⟨h1, h2, h3⟩ | ⟨y, ys, h1, h2, h3⟩
      · exact ⟨zIt, false, h2, .inl ⟨rfl, h1, h3⟩⟩
      · exact ⟨y, true, h2, .inr ⟨rfl, ys, h1, h3⟩⟩
    clear hres
    obtain ⟨y, dl, hVV, hres⟩ := hj
    subst hVV
    simp only [↓List.toList_toArray, ↓rgd, ↓rgf, ↓reduceIte, Nat.reduceEqDiff, rg, ow_52]
    refine do_alloc dz_it fun w4p n4 => ⟨trivial, ?_⟩
    simp only [↓List.toList_toArray, ↓rgd, ↓rgf, ↓reduceIte, Nat.reduceEqDiff, rg, ow_52]
    refine do_store (by simp only [evt, evc, upd_eq, Nat.reduceEqDiff, ↓reduceIte, ntT, ntF] <;> rfl) (by simp only [evt, evc, upd_eq, Nat.reduceEqDiff, ↓reduceIte, ntT, ntF] <;> rfl) sz_76 (rb_len y) n4.wok (by decide) (rb_oc y) fun w4 x4 r4 s4 => ⟨trivial, ?_⟩
    simp only [↓List.toList_toArray, ↓rgd, ↓rgf, ↓reduceIte, Nat.reduceEqDiff, rg, ow_52]
    refine hK _ _ ?_; clear hK K
    have s4p := n4.size
    have X34 : Ext noF w3 w4 := noF_of n4.ext x4 fun y o hy g => by have := g.1; omega
    obtain ⟨t, ht0⟩ : ∃ t, t = w3.heap.size := ⟨_, rfl⟩
    rw [← ht0] at r4 hF't ⊢
    have rt4 : Row w4 t 0 (E.cel y) := r4
    have wt4 : wok w4 t 1 := by rw [ht0]; exact x4.wok n4.wok
    have XX4 : Ext F w w4 := X3.trans X34 (fun _ _ g => g) fun _ _ _ g => g.elim
    have hres : (dl = false ∧ delR O κ false q xs = none ∧ Tr E iso (d - 1) (2 * d - 1) h w4 1 b xs F') ∨ (dl = true ∧ ∃ ys, delR O κ false q xs = some (y, ys) ∧ Tr E iso (d - 1) (2 * d - 1) h w4 0 b ys F') := by
      rcases hres with ⟨h1, h2, h3⟩ | ⟨h1, ys, h2, h3⟩
      · exact .inl ⟨h1, h2, h3.ext X34 fun _ _ _ g => g⟩
      · exact .inr ⟨h1, ys, h2, h3.ext X34 fun _ _ _ g => g⟩
    have c4 := hM.cfg.ext XX4 fun o _ _ => hm o
    have hFm : ∀ y o, F' y o → y ≠ m := fun y o g k => by
      rw [k] at g
      rcases hF' m o g with g | g
      · exact hm o g
      · omega
    have wr4 := XX4.wok wr
    have hFr : ∀ o, ¬ F' r0 o := fun o g => by
      rcases hF' r0 o g with g | g
      · exact hrF o g
      · omega
    refine W_seq ?_
    rcases hres with ⟨rfl, hdl, T4⟩ | ⟨rfl, ys, hdl, T4⟩
    · refine W_sq fun K hK => (W_text [true, true] (by kernel_rfl) ?_); simp only [↓List.toList_toArray, ↓rgd, ↓rgf, ↓reduceIte, Nat.reduceEqDiff, rg, ow_52]
      refine hK _ _ ?_; clear hK K
      refine W_true (by simp only [evt, evc, upd_eq, Nat.reduceEqDiff, ↓reduceIte, ntT, ntF] <;> rfl) ?_
      obtain ⟨h1, h2, h3⟩ := delR_out.1 hdl
      have tm := wok.ty tyP c4.wok
      have hM4 : MapAt w4 m d iso (del O κ q xs) F' := by
        rw [h3]
        exact ⟨c4, XX4.rd hM.cnt (hm 3), hM.asc, .inr ⟨h, b, XX4.rd hr (hm 2), T4⟩, fun o g => hFm m o g rfl, T4.lt⟩
      refine W_sq fun K hK => (W_text [true, true, true, true, true, false, true] (by kernel_rfl) ?_); simp only [↓List.toList_toArray, ↓rgd, ↓rgf, ↓reduceIte, Nat.reduceEqDiff, rg, ow_52, e0, ptr_eq, tm]
      refine do_store (b := r0) (o := 0) (by simp only [evt, evc, upd_eq, Nat.reduceEqDiff, ↓reduceIte] <;> first | rfl | exact e4) (by simp only [evt, evc, upd_eq, Nat.reduceEqDiff, ↓reduceIte, ntT, ntF] <;> rfl) sz_74 rfl wr4 (by decide) (fun _ h => by cases h) fun wz xz rz sz => ⟨trivial, ?_⟩
      simp only [↓List.toList_toArray, ↓rgd, ↓rgf, ↓reduceIte, Nat.reduceEqDiff, rg, ow_52]
      refine hK _ _ ?_; clear hK K
      refine W_ret ?_
      simp only [andThen_ret]
      exact endQ_ct (by simp only [upd_eq, Nat.reduceEqDiff, ↓reduceIte] <;> first | rfl | exact e4) (by simp only [upd_eq, Nat.reduceEqDiff, ↓reduceIte] <;> rfl) ld_74 ld_unit (hR _ _ ⟨by rw [h1, h2]; rfl, (XX4.mono fun y o _ g => Or.inl g).trans xz (fun _ _ g => g) fun y o _ k => by have := k.2; omega, F', (hM4).extG xz (fun y o _ k => by have := k.2; omega) (fun o k => by have := k.2; omega), fun y o g => (hF' y o g)⟩)
    · refine W_sq fun K hK => (W_text [true, true] (by kernel_rfl) ?_); simp only [↓List.toList_toArray, ↓rgd, ↓rgf, ↓reduceIte, Nat.reduceEqDiff, rg, ow_52]
      refine hK _ _ ?_; clear hK K
      refine W_false (by simp only [evt, evc, upd_eq, Nat.reduceEqDiff, ↓reduceIte, ntT, ntF] <;> rfl) (W_skip ?_)
      show W _ _ _ _ _ _
      obtain ⟨h1, h2, h3⟩ := delR_out.2 hdl
      have hyl := delR_len hdl
      have hya := delR_asc hM.asc hdl
      have rm4 : rd w4 m 2 = some (ptr b) := XX4.rd hr (hm 2)
      have rc4 : rd w4 m 3 = some (.int .i64 (xs.length : Nat)) := XX4.rd hM.cnt (hm 3)
      have htl : t < w4.heap.size := wok_lt wt4
      have hml4 : m < w4.heap.size := by have := XX4.size; omega
      obtain ⟨a, nk, capn, hkn, -, -, hraise⟩ := T4.keys
      refine W_sqx fun J hJ => ?_
      have hfin : ∀ (e : Env) (w5 : World) (F5 : Nat → Nat → Prop), (ys = [] ∨ ∃ h5 b5, rd w5 m 2 = some (ptr b5) ∧ Tr E iso (d - 1) (2 * d - 1) h5 w5 1 b5 ys F5) → (∀ y o, F5 y o → F' y o) → Ext (rng m 2 1) w4 w5 → e 0 = ptr m → e 4 = .pointer (some ⟨r0, 0, none⟩) → e 6 = ptr t → J e w5 := by
        clear e0 e1
        clear e
        intro e w5 F5 hroot hF5 x5 e0 e4 e6
        refine hJ _ _ ?_; clear hJ J
        have rc5 := x5.rd rc4 fun g => by have := g.2; omega
        have wm5 := x5.wok c4.wok
        have q1 := wsub1 xs.length (by omega) (by omega)
        refine W_sq fun K hK => (W_text [true, true, true, true, true, true, true, false] (by kernel_rfl) ?_); simp only [↓List.toList_toArray, ↓rgd, ↓rgf, ↓reduceIte, Nat.reduceEqDiff, rg, ow_52, e0, ptr_eq, rc5, q1]
        refine do_store (by simp only [evt, evc, upd_eq, Nat.reduceEqDiff, ↓reduceIte, ntT, ntF] <;> rfl) (by simp only [evt, evc, upd_eq, Nat.reduceEqDiff, ↓reduceIte, ntT, ntF] <;> rfl) sz_3 rfl wm5 (by decide) (oc_one rfl rfl) fun w6 x6 r6 s6 => ⟨trivial, ?_⟩
        simp only [↓List.toList_toArray, ↓rgd, ↓rgf, ↓reduceIte, Nat.reduceEqDiff, rg, ow_52]
        refine hK _ _ ?_; clear hK K
        have rc6 : rd w6 m 3 = some (.int .i64 (xs.length - 1 : Nat)) := (Row.cons.1 r6).1
        have G46 : Ext (fun y o => y = m ∧ (o = 2 ∨ o = 3)) w4 w6 := x5.trans x6 (fun y o g => ⟨g.1, by have := g.2; omega⟩) fun y o _ g => ⟨g.1, by have := g.2; omega⟩
        refine W_sqx fun J hJ => ?_
        have hret : ∀ (e : Env) (w7 : World) (F7 : Nat → Nat → Prop), ((ys = [] ∧ rd w7 m 2 = some (.pointer none)) ∨ ∃ h5 b5, rd w7 m 2 = some (ptr b5) ∧ Tr E iso (d - 1) (2 * d - 1) h5 w7 1 b5 ys F7) → (∀ y o, F7 y o → F' y o) → rd w7 m 3 = some (.int .i64 (ys.length : Nat)) → Ext (fun y o => y = m ∧ (o = 2 ∨ o = 3)) w4 w7 → (∀ y o, F7 y o → y < w7.heap.size) → e 4 = .pointer (some ⟨r0, 0, none⟩) → e 6 = ptr t → J e w7 := by
          clear e0 e4 e6
          clear e
          intro e w7 F7 hroot hF7 rc7 x7 hlt7 e4 e6
          refine hJ _ _ ?_; clear hJ J
          have rt7 := x7.row rt4 fun j _ g => by have := g.1; omega
          have XX7 : Ext (mapF m F) w w7 := (XX4.mono fun y o _ g => Or.inl g).trans x7 (fun _ _ g => g) fun y o _ g => .inr g
          have hM7 : MapAt w7 m d iso (del O κ q xs) F7 := by
            rw [h3]
            exact ⟨c4.ext x7 fun o h2 h3 g => by have := g.2; omega, rc7, hya, hroot, fun o g => hFm m o (hF7 _ _ g) rfl, hlt7⟩
          have ty7 := wok.ty tyP (x7.wok wt4)
          refine W_sq fun K hK => (W_text [true, true, false, true] (by kernel_rfl) ?_); simp only [↓List.toList_toArray, ↓rgd, ↓rgf, ↓reduceIte, Nat.reduceEqDiff, rg, ow_52, e6, ptr_eq, ty7]
          refine do_store (b := r0) (o := 0) (by simp only [evt, evc, upd_eq, Nat.reduceEqDiff, ↓reduceIte] <;> first | rfl | exact e4) (by simp only [evt, evc, upd_eq, Nat.reduceEqDiff, ↓reduceIte, ntT, ntF] <;> rfl) sz_74 rfl (x7.wok wr4) (by decide) (fun _ h => by cases h) fun wz xz rz sz => ⟨trivial, ?_⟩
          simp only [↓List.toList_toArray, ↓rgd, ↓rgf, ↓reduceIte, Nat.reduceEqDiff, rg, ow_52]
          refine hK _ _ ?_; clear hK K
          refine W_ret ?_
          exact endQ_ct (by simp only [upd_eq, Nat.reduceEqDiff, ↓reduceIte] <;> first | rfl | exact e4) (by simp only [upd_eq, Nat.reduceEqDiff, ↓reduceIte] <;> rfl) ld_74 ld_unit (hR _ _ ⟨by rw [h1, h2]; rfl, (XX7).trans xz (fun _ _ g => g) fun y o _ k => by have := k.2; omega, F7, (hM7).extG xz (fun y o _ k => by have := k.2; omega) (fun o k => by have := k.2; omega), fun y o g => (hF' y o (hF7 y o g))⟩)
        by_cases hy0 : ys = []
        · have hb : (((xs.length - 1 : Nat) : Int) == 0) = true := by rw [hy0] at hyl; simp at hyl ⊢; omega
          refine W_sq fun K hK => (W_text [true, true, true, true, true] (by kernel_rfl) ?_); simp only [↓List.toList_toArray, ↓rgd, ↓rgf, ↓reduceIte, Nat.reduceEqDiff, rg, ow_52, e0, ptr_eq, rc6, hb]
          refine hK _ _ ?_; clear hK K
          refine W_true (by simp only [evt, evc, upd_eq, Nat.reduceEqDiff, ↓reduceIte, ntT, ntF] <;> rfl) ?_
          refine W_rg fun K hK => (W_text [true, true, true, false] (by kernel_rfl) ?_); simp only [↓List.toList_toArray, ↓rgd, ↓rgf, ↓reduceIte, Nat.reduceEqDiff, rg, ow_52, e0, ptr_eq]
          refine do_store (v := .pointer none) (by simp only [evt, evc, upd_eq, Nat.reduceEqDiff, ↓reduceIte, ntT, ntF] <;> rfl) (by simp only [evt, evc, upd_eq, Nat.reduceEqDiff, ↓reduceIte, ntT, ntF] <;> rfl) sz_73 rfl (x6.wok wm5) (by decide) (oc_one rfl rfl) fun w7 x7 r7 s7 => ⟨trivial, ?_⟩
          simp only [↓List.toList_toArray, ↓rgd, ↓rgf, ↓reduceIte, Nat.reduceEqDiff, rg, ow_52]
          refine hK _ _ ?_; clear hK K
          exact hret _ w7 noF (.inl ⟨hy0, (Row.cons.1 r7).1⟩) (fun _ _ g => g.elim) (by rw [show ys.length = xs.length - 1 by omega]; exact x7.rd rc6 fun g => by have := g.2; omega) (G46.trans x7 (fun _ _ g => g) fun y o _ g => ⟨g.1, by have := g.2; omega⟩) (fun _ _ g => g.elim) (by simp only [upd_eq, Nat.reduceEqDiff, ↓reduceIte]; exact e4) (by simp only [upd_eq, Nat.reduceEqDiff, ↓reduceIte]; exact e6)
        · have hb : (((xs.length - 1 : Nat) : Int) == 0) = false := by
            have : ys.length ≠ 0 := fun h => hy0 (List.eq_nil_of_length_eq_zero h)
            simp; omega
          refine W_sq fun K hK => (W_text [true, true, true, true, true] (by kernel_rfl) ?_); simp only [↓List.toList_toArray, ↓rgd, ↓rgf, ↓reduceIte, Nat.reduceEqDiff, rg, ow_52, e0, ptr_eq, rc6, hb]
          refine hK _ _ ?_; clear hK K
          refine W_false (by simp only [evt, evc, upd_eq, Nat.reduceEqDiff, ↓reduceIte, ntT, ntF] <;> rfl) (W_skip ?_)
          obtain ⟨h5, b5, hr5, T5⟩ := hroot.resolve_left hy0
          have T6 := T5.ext x6 fun y o g k => hFm y o (hF5 y o g) k.1
          exact hret _ w6 F5 (.inr ⟨h5, b5, x6.rd hr5 fun g => by have := g.2; omega, T6⟩) hF5 (by rw [show ys.length = xs.length - 1 by omega]; exact rc6) G46 T6.lt (by simp only [upd_eq, Nat.reduceEqDiff, ↓reduceIte]; exact e4) (by simp only [upd_eq, Nat.reduceEqDiff, ↓reduceIte]; exact e6)
      by_cases hn0 : nk = 0
      · subst hn0
        have hb : (((0 : Nat) : Int) == 0) = true := rfl
        rcases T4.open with ⟨bi, oi, cap, ks, ch, ho, -, -, hoF, hin⟩
        have hks : ks = [] := by
          have := ho.h2.symm.trans hkn
          simp only [Option.some.injEq, Value.slice.injEq] at this
          exact List.eq_nil_of_length_eq_zero this.2.1
        rcases hin with ⟨_, hcn, hx, _⟩ | ⟨h', bc, ba, oa, capc, cs, rfl, hcn, n⟩
        · rw [hcn] at ho
          refine W_sq fun K hK => (W_text [true, true, true, true, true, true, true, true, true, true, true, true, true, true, false, true, true] (by kernel_rfl) ?_); simp only [↓List.toList_toArray, ↓rgd, ↓rgf, ↓reduceIte, Nat.reduceEqDiff, rg, ow_52, e0, ptr_eq, rm4, hkn, hb]
          refine do_call fn_63 (by simp only [evt, evc, upd_eq, Nat.reduceEqDiff, ↓reduceIte, maT, maC, maN, isnN, isnS] <;> rfl) (leaf_any b none w4 ho.h3) ?_
          rintro _ w5 ⟨rfl, hw5⟩
          obtain rfl : w4 = w5 := hw5.symm
          refine ⟨trivial, ?_⟩
          simp only [↓List.toList_toArray, ↓rgd, ↓rgf, ↓reduceIte, Nat.reduceEqDiff, rg, ow_52]
          refine hK _ _ ?_; clear hK K
          refine W_false (by simp only [evt, evc, upd_eq, Nat.reduceEqDiff, ↓reduceIte, ntT, ntF] <;> rfl) (W_skip ?_)
          exact hfin _ w4 F' (.inl (hx.trans hks)) (fun _ _ g => g) (Ext.refl _ _) (by simp only [upd_eq, Nat.reduceEqDiff, ↓reduceIte]; exact e0) (by simp only [upd_eq, Nat.reduceEqDiff, ↓reduceIte] <;> rfl) (by simp only [upd_eq, Nat.reduceEqDiff, ↓reduceIte] <;> rfl)
        · rw [hcn] at ho
          refine W_sq fun K hK => (W_text [true, true, true, true, true, true, true, true, true, true, true, true, true, true, false, true, true] (by kernel_rfl) ?_); simp only [↓List.toList_toArray, ↓rgd, ↓rgf, ↓reduceIte, Nat.reduceEqDiff, rg, ow_52, e0, ptr_eq, rm4, hkn, hb]
          refine do_call fn_63 (by simp only [evt, evc, upd_eq, Nat.reduceEqDiff, ↓reduceIte, maT, maC, maN, isnN, isnS] <;> rfl) (leaf_any b (some ⟨bc, 0, none⟩) w4 ho.h3) ?_
          rintro _ w5 ⟨rfl, hw5⟩
          obtain rfl : w4 = w5 := hw5.symm
          refine ⟨trivial, ?_⟩
          simp only [↓List.toList_toArray, ↓rgd, ↓rgf, ↓reduceIte, Nat.reduceEqDiff, rg, ow_52]
          refine hK _ _ ?_; clear hK K
          refine W_true (by simp only [evt, evc, upd_eq, Nat.reduceEqDiff, ↓reduceIte, ntT, ntF] <;> rfl) ?_
          have hl1 : cs.length = 1 := by rw [n.len, hks]; rfl
          obtain ⟨c, rfl⟩ := List.length_eq_one_iff.1 hl1
          have hk0 : rd w4 bc 0 = some (.slice (some ⟨ba, oa, none⟩) 1 capc) := n.kids.c0
          have i0 := ix0 1 ba oa 1 (by decide)
          have hce := n.kids.se.ptr_at (j := 0) (p := c.b) rfl
          rw [Nat.add_zero] at hce
          have hyc : ys = c.xs := by rw [n.eq, hks]; rfl
          have hcF : ∀ y o, c.F y o → F' y o := fun y o g => (n.fp y o).2 (.inr (.inr ⟨c, by simp, g⟩))
          refine W_rg fun K hK => (W_text [true, true, true, true, true, true, true, true, true, true, true, true, true, true, false] (by kernel_rfl) ?_); simp only [↓List.toList_toArray, ↓rgd, ↓rgf, ↓reduceIte, Nat.reduceEqDiff, rg, ow_52, e0, ptr_eq, rm4, ho.h3, hk0, i0, hce]
          refine do_store (v := ptr c.b) (by simp only [evt, evc, upd_eq, Nat.reduceEqDiff, ↓reduceIte, ntT, ntF] <;> rfl) (by simp only [evt, evc, upd_eq, Nat.reduceEqDiff, ↓reduceIte, ntT, ntF] <;> rfl) sz_73 rfl (c4.wok.mono (by decide)) (Nat.le_refl 3) (oc_one rfl rfl) fun w5 x5 r5 s5 => ⟨trivial, ?_⟩
          simp only [↓List.toList_toArray, ↓rgd, ↓rgf, ↓reduceIte, Nat.reduceEqDiff, rg, ow_52]
          refine hK _ _ ?_; clear hK K
          refine hfin _ w5 c.F (.inr ⟨h', c.b, (Row.cons.1 r5).1, ?_⟩) hcF x5 (by simp only [upd_eq, Nat.reduceEqDiff, ↓reduceIte]; exact e0) (by simp only [upd_eq, Nat.reduceEqDiff, ↓reduceIte] <;> rfl) (by simp only [upd_eq, Nat.reduceEqDiff, ↓reduceIte] <;> rfl)
          rw [hyc]
          exact ((n.sub c (by simp)).mono (by omega)).ext x5 fun y o g k => hFm y o (hcF y o g) k.1
      · have hb : ((nk : Int) == 0) = false := by simp; omega
        refine W_sq fun K hK => (W_text [true, true, true, true, true, true, true, true, true, true, true, true, true, true, false, true, true] (by kernel_rfl) ?_); simp only [↓List.toList_toArray, ↓rgd, ↓rgf, ↓reduceIte, Nat.reduceEqDiff, rg, ow_52, e0, ptr_eq, rm4, hkn, hb]
        refine hK _ _ ?_; clear hK K
        refine W_false (by simp only [evt, evc, upd_eq, Nat.reduceEqDiff, ↓reduceIte, ntT, ntF] <;> rfl) (W_skip ?_)
        exact hfin _ w4 F' (.inr ⟨h, b, rm4, hraise 1 (by omega)⟩) (fun _ _ g => g) (Ext.refl _ _) (by simp only [upd_eq, Nat.reduceEqDiff, ↓reduceIte]; exact e0) (by simp only [upd_eq, Nat.reduceEqDiff, ↓reduceIte] <;> rfl) (by simp only [upd_eq, Nat.reduceEqDiff, ↓reduceIte] <;> rfl)
end Go.Proofs.Ytjaolgehpnmieaa
/-
  Deletions from a set, and the law on them. No condition.
-/
set_option linter.unusedSimpArgs false
set_option linter.unusedVariables false
namespace Go.Proofs.Ytjaolgehpnmieaa
open Go Go.Proofs
theorem DOf.del {d : Nat} {xs : List It} (h : DOf d xs) (q : Rk) : DOf d (del O κ q xs) := h.imp id fun ⟨h1, h2⟩ => ⟨h1, by subst h2; rfl⟩
theorem DOf.two {d : Nat} {xs : List It} (h : DOf d xs) : xs ≠ [] → 2 ≤ d ∧ d ≤ 128 := fun hne => by
  rcases h with rfl | ⟨-, h⟩
  · omega
  · exact (hne h).elim
set_option maxHeartbeats 800000 in
set_option maxRecDepth 8000 in
theorem sdelete_any (m : Nat) (k : Int) (xs : List It) (F : Nat → Nat → Prop) (w : World) (h : SetAt w m xs F) (hbig : xs.length < 1152921504606846976) :
    CallK Try.prog 35 #[ptr m, .int .i64 k] w fun _ w' => Ext (setF m F) w w' ∧ ∃ F', SetAt w' m (del O κ k xs) F' ∧ ∀ y o, F' y o → F y o ∨ w.heap.size ≤ y := by
  obtain ⟨d, hd, hM⟩ := h
  refine calls_of_W [] Try.func35 rfl Try.ntmps35 Try.results35 (by simp) fun e he => ?_
  have e0 : e 0 = ptr m := he 0 _ rfl
  have e1 : e 1 = .int .i64 k := he 1 _ rfl
  clear he
  refine W_rg fun K hK => (W_text [true, true, true, true, false] (by kernel_rfl) ?_); simp only [↓List.toList_toArray, ↓rgd, ↓rgf, ↓reduceIte, Nat.reduceEqDiff, rg, ow_35, e0, e1, ptr_eq]
  refine do_call fn_52 (by simp only [evt, evc, upd_eq, Nat.reduceEqDiff, ↓reduceIte, maT, maC, maN, isnN, isnS] <;> rfl) (delete_map m d 0 k xs hd.two F w hM hbig) ?_
  rintro _ w1 ⟨rfl, X1, F', hM1, hF1⟩
  refine ⟨trivial, ?_⟩
  simp only [↓List.toList_toArray, ↓rgd, ↓rgf, ↓reduceIte, Nat.reduceEqDiff, rg, ow_35]
  refine hK _ _ ?_; clear hK K
  exact endQ_0n ⟨X1.mono fun y o _ g => mapF_setF g, F', ⟨d, hd.del k, hM1⟩, hF1⟩
set_option maxHeartbeats 800000 in
set_option maxRecDepth 8000 in
theorem impl_sdelete (l : List Int) (lv : Value) (ks : List Int) (kv : Value) (w : World) (hl : SlN w lv l) (hbig : l.length ≤ 2147483647) (hks : SlN w kv ks) (hkb : ks.length ≤ 2147483647) :
    CallK Try.prog 19 #[lv, kv] w fun v w' => SlN w' v ((delsK (tree (its l)) (its ks)).map κ) ∧ Ext noF w w' := by
  refine calls_of_W [.tmp 4] Try.func19 rfl Try.ntmps19 Try.results19 (by simp) fun e he => ?_
  have e0 : e 0 = lv := he 0 _ rfl
  have e1 : e 1 = kv := he 1 _ rfl
  clear he
  obtain ⟨ka, kc, hkv⟩ := SlV.shape hks
  rw [hkv] at e1
  have hkl : ∀ b o n c, kv = .slice (some ⟨b, o, none⟩) n c → b < w.heap.size := fun b o n c h => SlV.lt hks h
  have htl := tree_len (its l)
  rw [its_length] at htl
  refine W_sq fun K hK => (W_text [true] (by kernel_rfl) ?_); simp only [↓List.toList_toArray, ↓rgd, ↓rgf, ↓reduceIte, Nat.reduceEqDiff, rg, ow_19]
  refine hK _ _ ?_; clear hK K
  refine W_sq fun K hK => (W_text [true, false, true] (by kernel_rfl) ?_); simp only [↓List.toList_toArray, ↓rgd, ↓rgf, ↓reduceIte, Nat.reduceEqDiff, rg, ow_19, e0]
  refine do_call fn_30 (by simp only [evt, evc, upd_eq, Nat.reduceEqDiff, ↓reduceIte, maT, maC, maN, isnN, isnS] <;> rfl) (grow_any l lv w hl hbig) ?_
  rintro _ w1 ⟨X1, m, F0, rfl, hM0, hmg, hF0⟩
  refine ⟨trivial, ?_⟩
  simp only [↓List.toList_toArray, ↓rgd, ↓rgf, ↓reduceIte, Nat.reduceEqDiff, rg, ow_19]
  refine hK _ _ ?_; clear hK K
  have hks0 := SlV.ext0 hks X1
  have s1 := X1.size

  refine W_seq (W_seq ?_)
  refine W_rg fun K hK => (W_text [true, true, true] (by kernel_rfl) ?_); simp only [↓List.toList_toArray, ↓rgd, ↓rgf, ↓reduceIte, Nat.reduceEqDiff, rg, ow_19, e1]
  refine hK _ _ ?_; clear hK K
  show W _ _ _ _ _ _
  refine W_block (W_loop (fun mm e w' => ∃ k : Nat, mm = ks.length - k ∧ k ≤ ks.length ∧ e 10 = .slice ka ks.length kc ∧ e 11 = .int .i64 ks.length ∧ e 12 = .int .i64 k ∧ e 5 = ptr m ∧ Ext (fun y _ => w.heap.size ≤ y) w1 w' ∧ ∃ F, SetAt w' m (delsK (tree (its l)) ((its ks).take k)) F ∧ ∀ y o, F y o → w.heap.size ≤ y)
    ks.length ⟨0, by simp, by simp, by simp only [upd_eq, Nat.reduceEqDiff, ↓reduceIte], by simp only [upd_eq, Nat.reduceEqDiff, ↓reduceIte], by simp only [upd_eq, Nat.reduceEqDiff, ↓reduceIte]; rfl, by simp only [upd_eq, Nat.reduceEqDiff, ↓reduceIte] <;> rfl, Ext.refl _ _, F0, hM0, hF0⟩ ?_)
  clear hM0 hF0 e0 e1 e
  rintro mm e w' ⟨k, rfl, hk, eS, eL, eI, eM, X, F, hM, hF⟩
  by_cases hlt : k < ks.length
  · have ht := lt_tt k ks.length hlt
    refine W_sq fun K hK => (W_text [true] (by kernel_rfl) ?_); simp only [↓List.toList_toArray, ↓rgd, ↓rgf, ↓reduceIte, Nat.reduceEqDiff, rg, ow_19, eL, eI, ht]
    refine hK _ _ ?_; clear hK K
    refine W_seq (W_true (by simp only [evt, evc, upd_eq, Nat.reduceEqDiff, ↓reduceIte, ntT, ntF] <;> rfl) (W_skip ?_))
    show W _ _ _ _ _ _
    obtain ⟨x, hx⟩ : ∃ x, ks[k]? = some x := ⟨_, List.getElem?_eq_getElem hlt⟩
    obtain ⟨ib, io, hka, row⟩ := SlV.at hks0 hkv hlt
    have hibl := SlV.lt hks0 (hkv.trans (by rw [hka]))
    have ixx := nV_at (X.row row (fun _ _ h => by have := hkl _ _ _ _ (hkv.trans (by rw [hka])); omega)) hx
    rw [hka] at eS
    refine W_seq (W_block ?_)
    refine W_sq fun K hK => (W_text [true, true, true] (by kernel_rfl) ?_); simp only [↓List.toList_toArray, ↓rgd, ↓rgf, ↓reduceIte, Nat.reduceEqDiff, rg, ow_19, eS, eI, hlt, ixx]
    refine hK _ _ ?_; clear hK K
    rw [← hka] at eS
    have hdl := delsK_len ((its ks).take k) (tree (its l))
    refine W_rg fun K hK => (W_text [true, true, false] (by kernel_rfl) ?_); simp only [↓List.toList_toArray, ↓rgd, ↓rgf, ↓reduceIte, Nat.reduceEqDiff, rg, ow_19, eM]
    refine do_call fn_35 (by simp only [evt, evc, upd_eq, Nat.reduceEqDiff, ↓reduceIte, maT, maC, maN, isnN, isnS] <;> rfl) (sdelete_any m x _ F w' hM (by omega)) ?_
    rintro _ w4 ⟨x4, F', hM4, hF'⟩
    refine ⟨trivial, ?_⟩
    simp only [↓List.toList_toArray, ↓rgd, ↓rgf, ↓reduceIte, Nat.reduceEqDiff, rg, ow_19]
    refine hK _ _ ?_; clear hK K
    have sX := X.size
    show W _ _ _ _ _ _
    have q1 := wadd1 k (by omega)
    refine W_rg fun K hK => (W_text [true, true] (by kernel_rfl) ?_); simp only [↓List.toList_toArray, ↓rgd, ↓rgf, ↓reduceIte, Nat.reduceEqDiff, rg, ow_19, eI, q1]
    refine hK _ _ ?_; clear hK K
    refine ⟨_, ?_, k + 1, rfl, hlt, by simp only [upd_eq, Nat.reduceEqDiff, ↓reduceIte]; exact eS, by simp only [upd_eq, Nat.reduceEqDiff, ↓reduceIte]; exact eL, by simp only [upd_eq, Nat.reduceEqDiff, ↓reduceIte], by simp only [upd_eq, Nat.reduceEqDiff, ↓reduceIte]; exact eM, X.tr (x4.mono fun y o _ g => by
      rcases g with g | g
      · exact hF y o g
      · omega), F', by rw [take_snoc (its_get hx), delsK_snoc]; exact hM4, fun y o g => by
      rcases hF' y o g with g | g
      · exact hF y o g
      · omega⟩
    omega
  · obtain rfl : k = ks.length := by omega
    have ht := lt_ff ks.length ks.length (by omega)
    refine W_sq fun K hK => (W_text [true] (by kernel_rfl) ?_); simp only [↓List.toList_toArray, ↓rgd, ↓rgf, ↓reduceIte, Nat.reduceEqDiff, rg, ow_19, eL, eI, ht]
    refine hK _ _ ?_; clear hK K
    refine W_seq (W_false (by simp only [evt, evc, upd_eq, Nat.reduceEqDiff, ↓reduceIte, ntT, ntF] <;> rfl) (W_exit ?_))
    simp only [andThen_exit, inBlk_exit, andThen_normal, ↓reduceIte]
    have hfull : (its ks).take ks.length = its ks := by rw [← its_length, List.take_length]
    rw [hfull] at hM
    have hdl := delsK_len (its ks) (tree (its l))
    refine W_sq fun K hK => (W_text [true, false, true] (by kernel_rfl) ?_); simp only [↓List.toList_toArray, ↓rgd, ↓rgf, ↓reduceIte, Nat.reduceEqDiff, rg, ow_19, eM]
    refine do_call fn_32 (by simp only [evt, evc, upd_eq, Nat.reduceEqDiff, ↓reduceIte, maT, maC, maN, isnN, isnS] <;> rfl) (skeys_any m _ F w' hM (by omega)) ?_
    rintro v w5 ⟨h5, X5⟩
    refine ⟨trivial, ?_⟩
    simp only [↓List.toList_toArray, ↓rgd, ↓rgf, ↓reduceIte, Nat.reduceEqDiff, rg, ow_19]
    refine hK _ _ ?_; clear hK K
    exact W_ret (endQ_1 (by simp only [upd_eq, Nat.reduceEqDiff, ↓reduceIte] <;> rfl) ⟨SlN.eq h5.sl rfl, (noF_of X1 X fun y o hy h => by omega).tr X5⟩)
set_option maxHeartbeats 800000 in
set_option maxRecDepth 8000 in
theorem law_sdelete (l : List Int) (lv : Value) (ks : List Int) (kv : Value) (w : World) (hl : SlN w lv l) (hks : SlN w kv ks) (hbig : l.length ≤ 2147483647) (hkb : ks.length ≤ 2147483647) :
    CallK Try.prog 17 #[lv, kv] w fun v w' => v = .bool true ∧ Ext noF w w' := by
  have hil := its_length l
  have hik := its_length ks
  have htl := tree_len (its l)
  have hdl := delsK_len (its ks) (tree (its l))
  refine calls_of_W [.tmp 4] Try.func17 rfl Try.ntmps17 Try.results17 (by simp) fun e he => ?_
  have e0 : e 0 = lv := he 0 _ rfl
  have e1 : e 1 = kv := he 1 _ rfl
  clear he
  refine W_sq fun K hK => (W_text [true] (by kernel_rfl) ?_); simp only [↓List.toList_toArray, ↓rgd, ↓rgf, ↓reduceIte, Nat.reduceEqDiff, rg, ow_17]
  refine hK _ _ ?_; clear hK K
  refine W_sq fun K hK => (W_text [true, true, false, true] (by kernel_rfl) ?_); simp only [↓List.toList_toArray, ↓rgd, ↓rgf, ↓reduceIte, Nat.reduceEqDiff, rg, ow_17, e0, e1]
  refine do_call fn_19 (by simp only [evt, evc, upd_eq, Nat.reduceEqDiff, ↓reduceIte, maT, maC, maN, isnN, isnS] <;> rfl) (impl_sdelete l lv ks kv w hl hbig hks hkb) ?_
  rintro v1 w1 ⟨h1, X1⟩
  refine ⟨trivial, ?_⟩
  simp only [↓List.toList_toArray, ↓rgd, ↓rgf, ↓reduceIte, Nat.reduceEqDiff, rg, ow_17]
  refine hK _ _ ?_; clear hK K
  refine W_sq fun K hK => (W_text [true, true, false, true, false, false, true, true, true, true, true] (by kernel_rfl) ?_); simp only [↓List.toList_toArray, ↓rgd, ↓rgf, ↓reduceIte, Nat.reduceEqDiff, rg, ow_17, e0, e1, bu_make]
  refine do_call fn_24 (by simp only [evt, evc, upd_eq, Nat.reduceEqDiff, ↓reduceIte, maT, maC, maN, isnN, isnS] <;> rfl) (sitems_any l lv w1 (SlV.ext0 hl X1) hbig) ?_
  rintro iv w2 ⟨h2, X2⟩
  refine ⟨trivial, ?_⟩
  simp only [↓List.toList_toArray, ↓rgd, ↓rgf, ↓reduceIte, Nat.reduceEqDiff, rg, ow_17, e1, bu_make]
  refine do_call fn_24 (by simp only [evt, evc, upd_eq, Nat.reduceEqDiff, ↓reduceIte, maT, maC, maN, isnN, isnS] <;> rfl) (sitems_any ks kv w2 (SlV.ext0 hks (X1.tr X2)) hkb) ?_
  rintro jv w3 ⟨h3, X3⟩
  refine ⟨trivial, ?_⟩
  simp only [↓List.toList_toArray, ↓rgd, ↓rgf, ↓reduceIte, Nat.reduceEqDiff, rg, ow_17]
  refine do_call fn_33 (by simp only [evt, evc, upd_eq, Nat.reduceEqDiff, ↓reduceIte, maT, maC, maN, isnN, isnS] <;> rfl) (gdelete_nil (its l) iv (its ks) jv w3 (SlV.ext0 h2 X3) (by omega) h3 (by omega)) ?_
  rintro _ w4 ⟨rv, tv, rfl, h4, X4⟩
  refine ⟨trivial, ?_⟩
  simp only [↓List.toList_toArray, ↓rgd, ↓rgf, ↓reduceIte, Nat.reduceEqDiff, rg, ow_17]
  refine hK _ _ ?_; clear hK K
  refine W_sq fun K hK => (W_text [true, false, true] (by kernel_rfl) ?_); simp only [↓List.toList_toArray, ↓rgd, ↓rgf, ↓reduceIte, Nat.reduceEqDiff, rg, ow_17]
  refine do_call fn_26 (by simp only [evt, evc, upd_eq, Nat.reduceEqDiff, ↓reduceIte, maT, maC, maN, isnN, isnS] <;> rfl) (skeysS_any _ tv w4 h4 (by omega)) ?_
  rintro v5 w5 ⟨h5, X5⟩
  refine ⟨trivial, ?_⟩
  simp only [↓List.toList_toArray, ↓rgd, ↓rgf, ↓reduceIte, Nat.reduceEqDiff, rg, ow_17]
  refine hK _ _ ?_; clear hK K
  have XY := (X2.tr X3).tr (X4.tr X5)
  refine W_sq fun K hK => (W_text [true, true, false, true] (by kernel_rfl) ?_); simp only [↓List.toList_toArray, ↓rgd, ↓rgf, ↓reduceIte, Nat.reduceEqDiff, rg, ow_17]
  refine do_call fn_14 (by simp only [evt, evc, upd_eq, Nat.reduceEqDiff, ↓reduceIte, maT, maC, maN, isnN, isnS] <;> rfl) (eq_n _ v1 v5 w5 (SlV.ext0 h1 XY) h5 (by rw [List.length_map]; omega)) ?_
  rintro _ w6 ⟨rfl, r6⟩
  refine ⟨trivial, ?_⟩
  simp only [↓List.toList_toArray, ↓rgd, ↓rgf, ↓reduceIte, Nat.reduceEqDiff, rg, ow_17]
  refine hK _ _ ?_; clear hK K
  exact W_ret (endQ_1 (by simp only [upd_eq, Nat.reduceEqDiff, ↓reduceIte] <;> rfl) ⟨rfl, (X1.tr XY).tr r6.ext⟩)
end Go.Proofs.Ytjaolgehpnmieaa
/-
  FnExactSDelete returns true, whatever the arguments. No condition.
-/
set_option linter.unusedSimpArgs false
set_option linter.unusedVariables false
namespace Go.Proofs.Ytjaolgehpnmieaa
open Go Go.Proofs
theorem bs_34 : bsV Try.prog 22 2 [(0, .int .i64 3), (1, .int .i64 4)] = some (3, flat En [3, 4]) := by kernel_rfl
set_option maxHeartbeats 800000 in
set_option maxRecDepth 8000 in
theorem top_FnExactSDelete (a0 : List Int) (v0 : Value) (a1 : List Int) (v1 : Value) (w : World) (g0 : SlN w v0 a0) (g1 : SlN w v1 a1) :
    CallK Try.prog 7 #[v0, v1] w fun v w' => v = .bool true ∧ Ext noF w w' := by
  obtain ⟨p0, c0, hv0⟩ := SlV.shape g0
  obtain ⟨p1, c1, hv1⟩ := SlV.shape g1
  refine calls_of_W [.tmp 4] Try.func7 rfl Try.ntmps7 Try.results7 (by simp) fun e he => ?_
  have e0 : e 0 = v0 := he 0 _ rfl
  have e1 : e 1 = v1 := he 1 _ rfl
  clear he
  refine W_sq fun K hK => (W_text [true] (by kernel_rfl) ?_); simp only [↓List.toList_toArray, ↓rgd, ↓rgf, ↓reduceIte, Nat.reduceEqDiff, rg, ow_7]
  refine hK _ _ ?_; clear hK K
  refine W_seq ?_
  by_cases hb0 : a0.length ≤ 2147483647
  case neg =>
    have t0 : decide ((2147483647 : Int) < (a0.length : Int)) = true := by simp; omega
    refine W_sq fun K hK => (W_text [true, true, true, true, true, true, true, true] (by kernel_rfl) ?_); simp only [↓List.toList_toArray, ↓rgd, ↓rgf, ↓reduceIte, Nat.reduceEqDiff, rg, ow_7, e0, e1, hv0, hv1, t0]
    refine hK _ _ ?_; clear hK K
    refine W_true (by simp only [evt, evc, upd_eq, Nat.reduceEqDiff, ↓reduceIte, ntT, ntF] <;> rfl) ?_
    refine W_sq fun K hK => (W_text [true] (by kernel_rfl) ?_); simp only [↓List.toList_toArray, ↓rgd, ↓rgf, ↓reduceIte, Nat.reduceEqDiff, rg, ow_7]
    refine hK _ _ ?_; clear hK K
    refine W_ret ?_
    simp only [andThen_ret]
    exact endQ_1 (by simp only [upd_eq, Nat.reduceEqDiff, ↓reduceIte] <;> rfl) ⟨rfl, Ext.refl _ _⟩
  have t0 : decide ((2147483647 : Int) < (a0.length : Int)) = false := by simp; omega
  by_cases hb1 : a1.length ≤ 2147483647
  case neg =>
    have t1 : decide ((2147483647 : Int) < (a1.length : Int)) = true := by simp; omega
    refine W_sq fun K hK => (W_text [true, true, true, true, true, true, true, true] (by kernel_rfl) ?_); simp only [↓List.toList_toArray, ↓rgd, ↓rgf, ↓reduceIte, Nat.reduceEqDiff, rg, ow_7, e0, e1, hv0, hv1, t0, t1]
    refine hK _ _ ?_; clear hK K
    refine W_true (by simp only [evt, evc, upd_eq, Nat.reduceEqDiff, ↓reduceIte, ntT, ntF] <;> rfl) ?_
    refine W_sq fun K hK => (W_text [true] (by kernel_rfl) ?_); simp only [↓List.toList_toArray, ↓rgd, ↓rgf, ↓reduceIte, Nat.reduceEqDiff, rg, ow_7]
    refine hK _ _ ?_; clear hK K
    refine W_ret ?_
    simp only [andThen_ret]
    exact endQ_1 (by simp only [upd_eq, Nat.reduceEqDiff, ↓reduceIte] <;> rfl) ⟨rfl, Ext.refl _ _⟩
  have t1 : decide ((2147483647 : Int) < (a1.length : Int)) = false := by simp; omega
  refine W_sq fun K hK => (W_text [true, true, true, true, true, true, true, true] (by kernel_rfl) ?_); simp only [↓List.toList_toArray, ↓rgd, ↓rgf, ↓reduceIte, Nat.reduceEqDiff, rg, ow_7, e0, e1, hv0, hv1, t0, t1]
  refine hK _ _ ?_; clear hK K
  refine W_false (by simp only [evt, evc, upd_eq, Nat.reduceEqDiff, ↓reduceIte, ntT, ntF] <;> rfl) (W_skip ?_)
  show W _ _ _ _ _ _
  refine W_sq fun K hK => (W_text [false, false, false, true, true, true, false, true, true] (by kernel_rfl) ?_); simp only [↓List.toList_toArray, ↓rgd, ↓rgf, ↓reduceIte, Nat.reduceEqDiff, rg, ow_7]
  refine do_bsl rfl bs_exS fun w1 n1 => ⟨trivial, ?_⟩
  simp only [↓List.toList_toArray, ↓rgd, ↓rgf, ↓reduceIte, Nat.reduceEqDiff, rg, ow_7]
  have q0 : SlN w1 (.slice (some ⟨w.heap.size, 0, none⟩) 5 5) [5, 3, 9, 3, 1] := ⟨rfl, .inr ⟨_, 0, 5, rfl, Nat.le_refl _, n1.row, n1.wok.R (Nat.le_refl _)⟩⟩
  have Y1 := n1.ext
  refine do_bsl rfl bs_34 fun w2 n2 => ⟨trivial, ?_⟩
  simp only [↓List.toList_toArray, ↓rgd, ↓rgf, ↓reduceIte, Nat.reduceEqDiff, rg, ow_7]
  have q0 := SlV.ext0 q0 n2.ext
  have q1 : SlN w2 (.slice (some ⟨w1.heap.size, 0, none⟩) 2 2) [3, 4] := ⟨rfl, .inr ⟨_, 0, 2, rfl, Nat.le_refl _, n2.row, n2.wok.R (Nat.le_refl _)⟩⟩
  have Y2 := Y1.tr n2.ext
  refine do_call fn_17 (by simp only [evt, evc, upd_eq, Nat.reduceEqDiff, ↓reduceIte, maT, maC, maN, isnN, isnS] <;> rfl) (law_sdelete ([5, 3, 9, 3, 1]) _ ([3, 4]) _ w2 q0 q1 (by decide) (by decide)) ?_
  rintro _ wx ⟨rfl, yx⟩
  refine ⟨trivial, ?_⟩
  simp only [↓List.toList_toArray, ↓rgd, ↓rgf, ↓reduceIte, Nat.reduceEqDiff, rg, ow_7, e0, e1]
  have YX := Y2.tr yx
  refine do_call fn_17 (by simp only [evt, evc, upd_eq, Nat.reduceEqDiff, ↓reduceIte, maT, maC, maN, isnN, isnS] <;> rfl) (law_sdelete a0 v0 a1 v1 wx (SlV.ext0 g0 YX) (SlV.ext0 g1 YX) hb0 hb1) ?_
  rintro _ w9 ⟨rfl, y9⟩
  refine ⟨trivial, ?_⟩
  simp only [↓List.toList_toArray, ↓rgd, ↓rgf, ↓reduceIte, Nat.reduceEqDiff, rg, ow_7]
  refine hK _ _ ?_; clear hK K
  exact W_ret (endQ_1 (by simp only [upd_eq, Nat.reduceEqDiff, ↓reduceIte] <;> rfl) ⟨rfl, YX.tr y9⟩)
end Go.Proofs.Ytjaolgehpnmieaa
/-
  FnExactSDelete: the whole statement: it returns true whatever the input is, and the arguments read as before. No condition.
-/
set_option linter.unusedSimpArgs false
set_option linter.unusedVariables false
namespace Go.Proofs.Ytjaolgehpnmieaa
open Go Go.Proofs Go.ChangeShapes Go.WideShapes Go.ChangeAt Go.RowKit
set_option maxRecDepth 100000 in
theorem c_FnExactSDelete (H : Type) (enc : TypeId × Value → H) (W : World) (base : Nat) (args : Array Value) (ds gs : List (DataW H)) (before : List MemPlace)
    (hval : ∀ (j : Nat) t v, Try.f7.params[j]? = some t → args[j]? = some v → Value.okWide Try.prog W .any base t v)
    (hW : DataW.Whole enc Try.prog Try.f7.params.toList Rows.fnExactSDeleteSpec.vars false W args.toList ds gs before) :
    Calls Try.prog 7 args W fun e W' => ∃ v, e = .returned v ∧ Rows.fnExactSDeleteSpec.post enc Try.prog Try.f7 false true false false W args v W' := by
  have hW' := hW
  obtain ⟨p, q, hA0, hV, rfl, hfz, hnd⟩ := hW
  have hA : DataW.TrodAll enc Try.prog W 0 (fun _ => true) true Try.f7.params.toList args.toList ds p := hA0
  rw [Try.params7] at hA hval
  obtain ⟨v0, v1, d0, d1, p0, p1, rfl, rfl, rfl, h0, h1⟩ := trodAll_two hA
  obtain ⟨rfl, rfl⟩ := trodVars_none hV
  obtain ⟨a0, g0⟩ := open_nums (hval 0 22 v0 rfl rfl) h0 fun b o h => hfz b o (by simp [h])
  obtain ⟨a1, g1⟩ := open_nums (hval 1 22 v1 rfl rfl) h1 fun b o h => hfz b o (by simp [h])
  exact calls_law laidOut (by rw [Try.params7]; kernel_rfl) rfl hW' rfl rfl rfl (by kernel_rfl) Try.underlying4 (top_FnExactSDelete a0 v0 a1 v1 W g0 g1)
set_option maxRecDepth 100000 in
theorem l_FnExactSDelete (os : Os) (started : os.Started) (H : Type) (enc : TypeId × Value → H) :
    ReturnsInHanded {} Try.checked os 7 .any (Rows.fnExactSDeleteSpec.pre6 enc Try.prog Try.f7 Rows.fnExactSDeleteRow.domain false) (Rows.fnExactSDeleteSpec.post enc Try.prog Try.f7 false true false false) := by
  refine returnsInHanded_of_change (C := Try.checked) own started (by kernel_rfl) Try.func7
    (ChangeSpec.witness6 (enc := enc) (C := Try.checked) false ⟨#[], #[.slice none 0 0, .slice none 0 0], []⟩ 8 (by kernel_rfl) (by kernel_rfl) (by kernel_rfl) (by kernel_rfl)) ?_
  intro W base args ds gs before hval hW _ _
  exact c_FnExactSDelete H enc W base args ds gs before hval hW
theorem h_FnExactSDelete : Rows.FnExactSDeleteSaid :=
  OpenClaim.holds_of_wide 7 Try.f7 rfl rfl rfl rfl rfl rfl rfl ⟨rfl, rfl, rfl, rfl, rfl⟩ rfl rfl rfl rfl rfl (by kernel_rfl) Try.func7 (by kernel_rfl)
    (of_decide_eq_true (by kernel_rfl)) (by unfold Func.isWrapper; first | (rw [if_pos (by decide +kernel)]; kernel_rfl) | (rw [if_neg (by decide +kernel)]; exact ⟨rfl, rfl⟩))
    (fun os started H enc _ => l_FnExactSDelete os started H enc)
#print axioms h_FnExactSDelete
end Go.Proofs.Ytjaolgehpnmieaa
