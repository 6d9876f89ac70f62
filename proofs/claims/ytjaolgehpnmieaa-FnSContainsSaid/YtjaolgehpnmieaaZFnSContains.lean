/-
  FnSContains: the whole statement: it returns true whatever the input is, and the arguments read as before. No condition.
-/
import Derived.Test.YtjaolgehpnmieaaZc7433210
import Derived.Test.YtjaolgehpnmieaaZee1719b2
import Derived.Test.YtjaolgehpnmieaaZMSet
import Derived.Test.YtjaolgehpnmieaaZ6eab3e7b
import Derived.Test.YtjaolgehpnmieaaZA
/-
  Delete of a map. No condition.
-/
set_option linter.unusedSimpArgs false
set_option linter.unusedVariables false
namespace Go.Proofs.Ytjaolgehpnmieaa
open Go Go.Proofs
theorem delR_out {q : Rk} {xs : List It} : (delR O κ false q xs = none → at? O κ q xs = none ∧ hit O κ q xs = false ∧ del O κ q xs = xs) ∧
    (∀ {y ys}, delR O κ false q xs = some (y, ys) → at? O κ q xs = some y ∧ hit O κ q xs = true ∧ del O κ q xs = ys) := by
  cases hh : hit O κ q xs with
  | false =>
    refine ⟨fun _ => ⟨by simp [at?, hh], rfl, by simp [del, hh]⟩, fun {y ys} h => ?_⟩
    rw [delR_miss hh] at h; cases h
  | true =>
    obtain ⟨k, hk, _⟩ := hit_at O κ hh
    refine ⟨fun h => ?_, fun {y ys} h => ?_⟩
    · rw [delR_leaf hh hk] at h; cases h
    · rw [delR_leaf hh hk] at h
      cases h
      exact ⟨by simp [at?, hh, hk], rfl, by simp [del, hh]⟩
def DltQ (m d : Nat) (iso : Int) (q : Rk) (xs : List It) (F : Nat → Nat → Prop) (w : World) (v : Value) (w' : World) : Prop :=
  v = .tuple #[vV ((at? O κ q xs).getD zIt), .bool (hit O κ q xs)] ∧ Ext (mapF m F) w w' ∧ ∃ F', MapAt w' m d iso (del O κ q xs) F' ∧ ∀ y o, F' y o → F y o ∨ w.heap.size ≤ y
theorem dTr_ne {w : World} {iso : Int} {mn mx h lo b : Nat} {xs : List It} {F : Nat → Nat → Prop} (ht : Tr E iso mn mx h w lo b xs F) (hlo : 1 ≤ lo) : xs ≠ [] := by
  obtain ⟨bi, oi, cap, ks, ch, ho, h1, h2, hoF, hin⟩ := ht.open
  rcases hin with ⟨_, _, hx, _⟩ | ⟨_, _, _, _, _, cs, _, _, n⟩
  · intro e; rw [e] at hx; rw [← hx] at h1; simp at h1; omega
  · intro e
    have hl := n.len
    have := congrArg List.length n.eq
    rw [weave_length (cs.map Kid.xs) ks (by simpa using hl), e] at this
    simp only [List.length_nil] at this
    omega
set_option maxHeartbeats 4000000 in
set_option maxRecDepth 8000 in
theorem delete_map (m d : Nat) (iso : Int) (q : Rk) (xs : List It) (hd : xs ≠ [] → 2 ≤ d ∧ d ≤ 128) (F : Nat → Nat → Prop) (w00 : World) (hM : MapAt w00 m d iso xs F) (hbig : xs.length < 1152921504606846976) :
    CallK Try.prog 52 #[ptr m, kV q] w00 (DltQ m d iso q xs F w00) := by
  suffices HS : ∀ R : Value → World → Prop, (∀ v w', DltQ m d iso q xs F w00 v w' → R v w') → CallK Try.prog 52 #[ptr m, kV q] w00 R from HS _ fun _ _ h => h
  intro R hR
  refine calls_of_W [.cell 4 74, .tmp 5] Try.func52 rfl Try.ntmps52 Try.results52 (by simp) fun e he => ?_
  have e0 : e 0 = ptr m := he 0 _ rfl
  have e1 : e 1 = kV q := he 1 _ rfl
  clear he
  refine W_sq fun K hK => (W_text [false, true] (by kernel_rfl) ?_); simp only [↓List.toList_toArray, ↓rgd, ↓rgf, ↓reduceIte, Nat.reduceEqDiff, rg, ow_52]
  refine do_alloc z_unit fun w nb => ⟨trivial, ?_⟩
  simp only [↓List.toList_toArray, ↓rgd, ↓rgf, ↓reduceIte, Nat.reduceEqDiff, rg, ow_52]
  refine hK _ _ ?_; clear hK K
  have Xb : Ext noF w00 w := nb.ext
  have sb := nb.size
  have hml0 := hM.mlt
  obtain ⟨r0, hr0⟩ : ∃ r0, r0 = w00.heap.size := ⟨_, rfl⟩
  have wr : wok w r0 0 := by rw [hr0]; exact nb.wok
  have hrF : ∀ o, ¬ F r0 o := fun o g => by have := hM.lt _ _ g; omega
  have hrw : r0 < w.heap.size := by omega
  have hrm : r0 ≠ m := by omega
  rw [← hr0]
  replace hR : ∀ v w', DltQ m d iso q xs F w v w' → R v w' := fun v w' ⟨h1, h2, F', h3, h4⟩ => hR v w' ⟨h1, Xb.trans h2 (fun _ _ g => g.elim) (fun _ _ _ g => g), F', h3, fun y o g => (h4 y o g).imp id fun g => by omega⟩
  replace hM := hM.ext Xb
  clear Xb nb sb hml0 hr0
  have hml := hM.mlt
  refine W_seq ?_
  rcases hM.root with ⟨hxs, hr⟩ | ⟨h, b, hr, ht⟩
  · refine W_sq fun K hK => (W_text [true, true, true, true, true] (by kernel_rfl) ?_); simp only [↓List.toList_toArray, ↓rgd, ↓rgf, ↓reduceIte, Nat.reduceEqDiff, rg, ow_52, e0, ptr_eq, hr]
    refine hK _ _ ?_; clear hK K
    refine W_true (by simp only [evt, evc, upd_eq, Nat.reduceEqDiff, ↓reduceIte, ntT, ntF] <;> rfl) ?_
    subst hxs
    have tm := wok.ty tyP hM.cfg.wok
    refine W_sq fun K hK => (W_text [true, true, true, true, true, false, true] (by kernel_rfl) ?_); simp only [↓List.toList_toArray, ↓rgd, ↓rgf, ↓reduceIte, Nat.reduceEqDiff, rg, ow_52, e0, ptr_eq, tm]
    refine do_store (b := r0) (o := 0) (by simp only [evt, evc, upd_eq, Nat.reduceEqDiff, ↓reduceIte] <;> first | rfl | exact e4) (by simp only [evt, evc, upd_eq, Nat.reduceEqDiff, ↓reduceIte, ntT, ntF] <;> rfl) sz_74 rfl wr (by decide) (fun _ h => by cases h) fun wz xz rz sz => ⟨trivial, ?_⟩
    simp only [↓List.toList_toArray, ↓rgd, ↓rgf, ↓reduceIte, Nat.reduceEqDiff, rg, ow_52]
    refine hK _ _ ?_; clear hK K
    refine W_ret ?_
    simp only [andThen_ret]
    exact endQ_ct (by simp only [upd_eq, Nat.reduceEqDiff, ↓reduceIte] <;> first | rfl | exact e4) (by simp only [upd_eq, Nat.reduceEqDiff, ↓reduceIte] <;> rfl) ld_74 ld_unit (hR _ _ ⟨rfl, (Ext.refl _ w).trans xz (fun _ _ g => g) fun y o _ k => by have := k.2; omega, F, (hM).extG xz (fun y o _ k => by have := k.2; omega) (fun o k => by have := k.2; omega), fun _ _ g => .inl g⟩)
  · obtain ⟨hd, hd'⟩ := hd (dTr_ne ht (Nat.le_refl 1))
    refine W_sq fun K hK => (W_text [true, true, true, true, true] (by kernel_rfl) ?_); simp only [↓List.toList_toArray, ↓rgd, ↓rgf, ↓reduceIte, Nat.reduceEqDiff, rg, ow_52, e0, ptr_eq, hr]
    refine hK _ _ ?_; clear hK K
    refine W_false (by simp only [evt, evc, upd_eq, Nat.reduceEqDiff, ↓reduceIte, ntT, ntF] <;> rfl) (W_skip ?_)
    show W _ _ _ _ _ _
    have hm := hM.off
    have hFlt := hM.lt
    have hh := ht.height (by omega) (by omega)
    refine W_sq fun K hK => (W_text [true, true, true, true, true, false, true, true, true, false, false, true] (by kernel_rfl) ?_); simp only [↓List.toList_toArray, ↓rgd, ↓rgf, ↓reduceIte, Nat.reduceEqDiff, rg, ow_52, e0, e1, ptr_eq]
    refine do_call fn_66 (by simp only [evt, evc, upd_eq, Nat.reduceEqDiff, ↓reduceIte, maT, maC, maN, isnN, isnS] <;> rfl) (del_any m d iso hd hd' h 1 b xs F w m 2 false q none hM.cfg hm (Nat.le_refl 1) ht hM.asc hbig hr (HOk.none _) (fun hb hh => by cases hh)) ?_
    rintro VV w3 ⟨X3p, -, F', hF', hres⟩
    refine ⟨trivial, ?_⟩
    have X3 : Ext F w w3 := X3p.mono fun y o _ g => g.elim id fun g => by cases g
    have s3 := X3.size
    clear X3p
    have hF't : ∀ o, ¬ F' w3.heap.size o := fun o g => by
      rcases hres with ⟨_, _, T⟩ | ⟨y, ys, _, _, T⟩
      · have := T.lt _ _ g; omega
      · have := T.lt _ _ g; omega
    have hj : ∃ (y : It) (dl : Bool), VV = .tuple #[itV y, .bool dl] ∧ ((dl = false ∧ delR O κ false q xs = none ∧ Tr E iso (d - 1) (2 * d - 1) h w3 1 b xs F') ∨ (dl = true ∧ ∃ ys, delR O κ false q xs = some (y, ys) ∧ Tr E iso (d - 1) (2 * d - 1) h w3 0 b ys F')) := by
      rcases hres with ⟨h1, h2, h3⟩ | ⟨y, ys, h1, h2, h3⟩
      · exact ⟨zIt, false, h2, .inl ⟨rfl, h1, h3⟩⟩
      · exact ⟨y, true, h2, .inr ⟨rfl, ys, h1, h3⟩⟩
    clear hres
    obtain ⟨y, dl, hVV, hres⟩ := hj
    subst hVV
    simp only [↓List.toList_toArray, ↓rgd, ↓rgf, ↓reduceIte, Nat.reduceEqDiff, rg, ow_52]
    refine do_alloc dz_it fun w4p n4 => ⟨trivial, ?_⟩
    simp only [↓List.toList_toArray, ↓rgd, ↓rgf, ↓reduceIte, Nat.reduceEqDiff, rg, ow_52]
    refine do_store (by simp only [evt, evc, upd_eq, Nat.reduceEqDiff, ↓reduceIte, ntT, ntF] <;> rfl) (by simp only [evt, evc, upd_eq, Nat.reduceEqDiff, ↓reduceIte, ntT, ntF] <;> rfl) sz_76 (rb_len y) n4.wok (by decide) (rb_oc y) fun w4 x4 r4 s4 => ⟨trivial, ?_⟩
    simp only [↓List.toList_toArray, ↓rgd, ↓rgf, ↓reduceIte, Nat.reduceEqDiff, rg, ow_52]
    refine hK _ _ ?_; clear hK K
    have s4p := n4.size
    have X34 : Ext noF w3 w4 := noF_of n4.ext x4 fun y o hy g => by have := g.1; omega
    obtain ⟨t, ht0⟩ : ∃ t, t = w3.heap.size := ⟨_, rfl⟩
    rw [← ht0] at r4 hF't ⊢
    have rt4 : Row w4 t 0 (E.cel y) := r4
    have wt4 : wok w4 t 1 := by rw [ht0]; exact x4.wok n4.wok
    have XX4 : Ext F w w4 := X3.trans X34 (fun _ _ g => g) fun _ _ _ g => g.elim
    have hres : (dl = false ∧ delR O κ false q xs = none ∧ Tr E iso (d - 1) (2 * d - 1) h w4 1 b xs F') ∨ (dl = true ∧ ∃ ys, delR O κ false q xs = some (y, ys) ∧ Tr E iso (d - 1) (2 * d - 1) h w4 0 b ys F') := by
      rcases hres with ⟨h1, h2, h3⟩ | ⟨h1, ys, h2, h3⟩
      · exact .inl ⟨h1, h2, h3.ext X34 fun _ _ _ g => g⟩
      · exact .inr ⟨h1, ys, h2, h3.ext X34 fun _ _ _ g => g⟩
    have c4 := hM.cfg.ext XX4 fun o _ _ => hm o
    have hFm : ∀ y o, F' y o → y ≠ m := fun y o g k => by
      rw [k] at g
      rcases hF' m o g with g | g
      · exact hm o g
      · omega
    have wr4 := XX4.wok wr
    have hFr : ∀ o, ¬ F' r0 o := fun o g => by
      rcases hF' r0 o g with g | g
      · exact hrF o g
      · omega
    refine W_seq ?_
    rcases hres with ⟨rfl, hdl, T4⟩ | ⟨rfl, ys, hdl, T4⟩
    · refine W_sq fun K hK => (W_text [true, true] (by kernel_rfl) ?_); simp only [↓List.toList_toArray, ↓rgd, ↓rgf, ↓reduceIte, Nat.reduceEqDiff, rg, ow_52]
      refine hK _ _ ?_; clear hK K
      refine W_true (by simp only [evt, evc, upd_eq, Nat.reduceEqDiff, ↓reduceIte, ntT, ntF] <;> rfl) ?_
      obtain ⟨h1, h2, h3⟩ := delR_out.1 hdl
      have tm := wok.ty tyP c4.wok
      have hM4 : MapAt w4 m d iso (del O κ q xs) F' := by
        rw [h3]
        exact ⟨c4, XX4.rd hM.cnt (hm 3), hM.asc, .inr ⟨h, b, XX4.rd hr (hm 2), T4⟩, fun o g => hFm m o g rfl, T4.lt⟩
      refine W_sq fun K hK => (W_text [true, true, true, true, true, false, true] (by kernel_rfl) ?_); simp only [↓List.toList_toArray, ↓rgd, ↓rgf, ↓reduceIte, Nat.reduceEqDiff, rg, ow_52, e0, ptr_eq, tm]
      refine do_store (b := r0) (o := 0) (by simp only [evt, evc, upd_eq, Nat.reduceEqDiff, ↓reduceIte] <;> first | rfl | exact e4) (by simp only [evt, evc, upd_eq, Nat.reduceEqDiff, ↓reduceIte, ntT, ntF] <;> rfl) sz_74 rfl wr4 (by decide) (fun _ h => by cases h) fun wz xz rz sz => ⟨trivial, ?_⟩
      simp only [↓List.toList_toArray, ↓rgd, ↓rgf, ↓reduceIte, Nat.reduceEqDiff, rg, ow_52]
      refine hK _ _ ?_; clear hK K
      refine W_ret ?_
      simp only [andThen_ret]
      exact endQ_ct (by simp only [upd_eq, Nat.reduceEqDiff, ↓reduceIte] <;> first | rfl | exact e4) (by simp only [upd_eq, Nat.reduceEqDiff, ↓reduceIte] <;> rfl) ld_74 ld_unit (hR _ _ ⟨by rw [h1, h2]; rfl, (XX4.mono fun y o _ g => Or.inl g).trans xz (fun _ _ g => g) fun y o _ k => by have := k.2; omega, F', (hM4).extG xz (fun y o _ k => by have := k.2; omega) (fun o k => by have := k.2; omega), fun y o g => (hF' y o g)⟩)
    · refine W_sq fun K hK => (W_text [true, true] (by kernel_rfl) ?_); simp only [↓List.toList_toArray, ↓rgd, ↓rgf, ↓reduceIte, Nat.reduceEqDiff, rg, ow_52]
      refine hK _ _ ?_; clear hK K
      refine W_false (by simp only [evt, evc, upd_eq, Nat.reduceEqDiff, ↓reduceIte, ntT, ntF] <;> rfl) (W_skip ?_)
      show W _ _ _ _ _ _
      obtain ⟨h1, h2, h3⟩ := delR_out.2 hdl
      have hyl := delR_len hdl
      have hya := delR_asc hM.asc hdl
      have rm4 : rd w4 m 2 = some (ptr b) := XX4.rd hr (hm 2)
      have rc4 : rd w4 m 3 = some (.int .i64 (xs.length : Nat)) := XX4.rd hM.cnt (hm 3)
      have htl : t < w4.heap.size := wok_lt wt4
      have hml4 : m < w4.heap.size := by have := XX4.size; omega
      obtain ⟨a, nk, capn, hkn, -, -, hraise⟩ := T4.keys
      refine W_sqx fun J hJ => ?_
      have hfin : ∀ (e : Env) (w5 : World) (F5 : Nat → Nat → Prop), (ys = [] ∨ ∃ h5 b5, rd w5 m 2 = some (ptr b5) ∧ Tr E iso (d - 1) (2 * d - 1) h5 w5 1 b5 ys F5) → (∀ y o, F5 y o → F' y o) → Ext (rng m 2 1) w4 w5 → e 0 = ptr m → e 4 = .pointer (some ⟨r0, 0, none⟩) → e 6 = ptr t → J e w5 := by
        clear e0 e1
        clear e
        intro e w5 F5 hroot hF5 x5 e0 e4 e6
        refine hJ _ _ ?_; clear hJ J
        have rc5 := x5.rd rc4 fun g => by have := g.2; omega
        have wm5 := x5.wok c4.wok
        have q1 := wsub1 xs.length (by omega) (by omega)
        refine W_sq fun K hK => (W_text [true, true, true, true, true, true, true, false] (by kernel_rfl) ?_); simp only [↓List.toList_toArray, ↓rgd, ↓rgf, ↓reduceIte, Nat.reduceEqDiff, rg, ow_52, e0, ptr_eq, rc5, q1]
        refine do_store (by simp only [evt, evc, upd_eq, Nat.reduceEqDiff, ↓reduceIte, ntT, ntF] <;> rfl) (by simp only [evt, evc, upd_eq, Nat.reduceEqDiff, ↓reduceIte, ntT, ntF] <;> rfl) sz_3 rfl wm5 (by decide) (oc_one rfl rfl) fun w6 x6 r6 s6 => ⟨trivial, ?_⟩
        simp only [↓List.toList_toArray, ↓rgd, ↓rgf, ↓reduceIte, Nat.reduceEqDiff, rg, ow_52]
        refine hK _ _ ?_; clear hK K
        have rc6 : rd w6 m 3 = some (.int .i64 (xs.length - 1 : Nat)) := (Row.cons.1 r6).1
        have G46 : Ext (fun y o => y = m ∧ (o = 2 ∨ o = 3)) w4 w6 := x5.trans x6 (fun y o g => ⟨g.1, by have := g.2; omega⟩) fun y o _ g => ⟨g.1, by have := g.2; omega⟩
        refine W_sqx fun J hJ => ?_
        have hret : ∀ (e : Env) (w7 : World) (F7 : Nat → Nat → Prop), ((ys = [] ∧ rd w7 m 2 = some (.pointer none)) ∨ ∃ h5 b5, rd w7 m 2 = some (ptr b5) ∧ Tr E iso (d - 1) (2 * d - 1) h5 w7 1 b5 ys F7) → (∀ y o, F7 y o → F' y o) → rd w7 m 3 = some (.int .i64 (ys.length : Nat)) → Ext (fun y o => y = m ∧ (o = 2 ∨ o = 3)) w4 w7 → (∀ y o, F7 y o → y < w7.heap.size) → e 4 = .pointer (some ⟨r0, 0, none⟩) → e 6 = ptr t → J e w7 := by
          clear e0 e4 e6
          clear e
          intro e w7 F7 hroot hF7 rc7 x7 hlt7 e4 e6
          refine hJ _ _ ?_; clear hJ J
          have rt7 := x7.row rt4 fun j _ g => by have := g.1; omega
          have XX7 : Ext (mapF m F) w w7 := (XX4.mono fun y o _ g => Or.inl g).trans x7 (fun _ _ g => g) fun y o _ g => .inr g
          have hM7 : MapAt w7 m d iso (del O κ q xs) F7 := by
            rw [h3]
            exact ⟨c4.ext x7 fun o h2 h3 g => by have := g.2; omega, rc7, hya, hroot, fun o g => hFm m o (hF7 _ _ g) rfl, hlt7⟩
          have ty7 := wok.ty tyP (x7.wok wt4)
          refine W_sq fun K hK => (W_text [true, true, false, true] (by kernel_rfl) ?_); simp only [↓List.toList_toArray, ↓rgd, ↓rgf, ↓reduceIte, Nat.reduceEqDiff, rg, ow_52, e6, ptr_eq, ty7]
          refine do_store (b := r0) (o := 0) (by simp only [evt, evc, upd_eq, Nat.reduceEqDiff, ↓reduceIte] <;> first | rfl | exact e4) (by simp only [evt, evc, upd_eq, Nat.reduceEqDiff, ↓reduceIte, ntT, ntF] <;> rfl) sz_74 rfl (x7.wok wr4) (by decide) (fun _ h => by cases h) fun wz xz rz sz => ⟨trivial, ?_⟩
          simp only [↓List.toList_toArray, ↓rgd, ↓rgf, ↓reduceIte, Nat.reduceEqDiff, rg, ow_52]
          refine hK _ _ ?_; clear hK K
          refine W_ret ?_
          exact endQ_ct (by simp only [upd_eq, Nat.reduceEqDiff, ↓reduceIte] <;> first | rfl | exact e4) (by simp only [upd_eq, Nat.reduceEqDiff, ↓reduceIte] <;> rfl) ld_74 ld_unit (hR _ _ ⟨by rw [h1, h2]; rfl, (XX7).trans xz (fun _ _ g => g) fun y o _ k => by have := k.2; omega, F7, (hM7).extG xz (fun y o _ k => by have := k.2; omega) (fun o k => by have := k.2; omega), fun y o g => (hF' y o (hF7 y o g))⟩)
        by_cases hy0 : ys = []
        · have hb : (((xs.length - 1 : Nat) : Int) == 0) = true := by rw [hy0] at hyl; simp at hyl ⊢; omega
          refine W_sq fun K hK => (W_text [true, true, true, true, true] (by kernel_rfl) ?_); simp only [↓List.toList_toArray, ↓rgd, ↓rgf, ↓reduceIte, Nat.reduceEqDiff, rg, ow_52, e0, ptr_eq, rc6, hb]
          refine hK _ _ ?_; clear hK K
          refine W_true (by simp only [evt, evc, upd_eq, Nat.reduceEqDiff, ↓reduceIte, ntT, ntF] <;> rfl) ?_
          refine W_rg fun K hK => (W_text [true, true, true, false] (by kernel_rfl) ?_); simp only [↓List.toList_toArray, ↓rgd, ↓rgf, ↓reduceIte, Nat.reduceEqDiff, rg, ow_52, e0, ptr_eq]
          refine do_store (v := .pointer none) (by simp only [evt, evc, upd_eq, Nat.reduceEqDiff, ↓reduceIte, ntT, ntF] <;> rfl) (by simp only [evt, evc, upd_eq, Nat.reduceEqDiff, ↓reduceIte, ntT, ntF] <;> rfl) sz_73 rfl (x6.wok wm5) (by decide) (oc_one rfl rfl) fun w7 x7 r7 s7 => ⟨trivial, ?_⟩
          simp only [↓List.toList_toArray, ↓rgd, ↓rgf, ↓reduceIte, Nat.reduceEqDiff, rg, ow_52]
          refine hK _ _ ?_; clear hK K
          exact hret _ w7 noF (.inl ⟨hy0, (Row.cons.1 r7).1⟩) (fun _ _ g => g.elim) (by rw [show ys.length = xs.length - 1 by omega]; exact x7.rd rc6 fun g => by have := g.2; omega) (G46.trans x7 (fun _ _ g => g) fun y o _ g => ⟨g.1, by have := g.2; omega⟩) (fun _ _ g => g.elim) (by simp only [upd_eq, Nat.reduceEqDiff, ↓reduceIte]; exact e4) (by simp only [upd_eq, Nat.reduceEqDiff, ↓reduceIte]; exact e6)
        · have hb : (((xs.length - 1 : Nat) : Int) == 0) = false := by
            have : ys.length ≠ 0 := fun h => hy0 (List.eq_nil_of_length_eq_zero h)
            simp; omega
          refine W_sq fun K hK => (W_text [true, true, true, true, true] (by kernel_rfl) ?_); simp only [↓List.toList_toArray, ↓rgd, ↓rgf, ↓reduceIte, Nat.reduceEqDiff, rg, ow_52, e0, ptr_eq, rc6, hb]
          refine hK _ _ ?_; clear hK K
          refine W_false (by simp only [evt, evc, upd_eq, Nat.reduceEqDiff, ↓reduceIte, ntT, ntF] <;> rfl) (W_skip ?_)
          obtain ⟨h5, b5, hr5, T5⟩ := hroot.resolve_left hy0
          have T6 := T5.ext x6 fun y o g k => hFm y o (hF5 y o g) k.1
          exact hret _ w6 F5 (.inr ⟨h5, b5, x6.rd hr5 fun g => by have := g.2; omega, T6⟩) hF5 (by rw [show ys.length = xs.length - 1 by omega]; exact rc6) G46 T6.lt (by simp only [upd_eq, Nat.reduceEqDiff, ↓reduceIte]; exact e4) (by simp only [upd_eq, Nat.reduceEqDiff, ↓reduceIte]; exact e6)
      by_cases hn0 : nk = 0
      · subst hn0
        have hb : (((0 : Nat) : Int) == 0) = true := rfl
        rcases T4.open with ⟨bi, oi, cap, ks, ch, ho, -, -, hoF, hin⟩
        have hks : ks = [] := by
          have := ho.h2.symm.trans hkn
          simp only [Option.some.injEq, Value.slice.injEq] at this
          exact List.eq_nil_of_length_eq_zero this.2.1
        rcases hin with ⟨_, hcn, hx, _⟩ | ⟨h', bc, ba, oa, capc, cs, rfl, hcn, n⟩
        · rw [hcn] at ho
          refine W_sq fun K hK => (W_text [true, true, true, true, true, true, true, true, true, true, true, true, true, true, false, true, true] (by kernel_rfl) ?_); simp only [↓List.toList_toArray, ↓rgd, ↓rgf, ↓reduceIte, Nat.reduceEqDiff, rg, ow_52, e0, ptr_eq, rm4, hkn, hb]
          refine do_call fn_63 (by simp only [evt, evc, upd_eq, Nat.reduceEqDiff, ↓reduceIte, maT, maC, maN, isnN, isnS] <;> rfl) (leaf_any b none w4 ho.h3) ?_
          rintro _ w5 ⟨rfl, hw5⟩
          obtain rfl : w4 = w5 := hw5.symm
          refine ⟨trivial, ?_⟩
          simp only [↓List.toList_toArray, ↓rgd, ↓rgf, ↓reduceIte, Nat.reduceEqDiff, rg, ow_52]
          refine hK _ _ ?_; clear hK K
          refine W_false (by simp only [evt, evc, upd_eq, Nat.reduceEqDiff, ↓reduceIte, ntT, ntF] <;> rfl) (W_skip ?_)
          exact hfin _ w4 F' (.inl (hx.trans hks)) (fun _ _ g => g) (Ext.refl _ _) (by simp only [upd_eq, Nat.reduceEqDiff, ↓reduceIte]; exact e0) (by simp only [upd_eq, Nat.reduceEqDiff, ↓reduceIte] <;> rfl) (by simp only [upd_eq, Nat.reduceEqDiff, ↓reduceIte] <;> rfl)
        · rw [hcn] at ho
          refine W_sq fun K hK => (W_text [true, true, true, true, true, true, true, true, true, true, true, true, true, true, false, true, true] (by kernel_rfl) ?_); simp only [↓List.toList_toArray, ↓rgd, ↓rgf, ↓reduceIte, Nat.reduceEqDiff, rg, ow_52, e0, ptr_eq, rm4, hkn, hb]
          refine do_call fn_63 (by simp only [evt, evc, upd_eq, Nat.reduceEqDiff, ↓reduceIte, maT, maC, maN, isnN, isnS] <;> rfl) (leaf_any b (some ⟨bc, 0, none⟩) w4 ho.h3) ?_
          rintro _ w5 ⟨rfl, hw5⟩
          obtain rfl : w4 = w5 := hw5.symm
          refine ⟨trivial, ?_⟩
          simp only [↓List.toList_toArray, ↓rgd, ↓rgf, ↓reduceIte, Nat.reduceEqDiff, rg, ow_52]
          refine hK _ _ ?_; clear hK K
          refine W_true (by simp only [evt, evc, upd_eq, Nat.reduceEqDiff, ↓reduceIte, ntT, ntF] <;> rfl) ?_
          have hl1 : cs.length = 1 := by rw [n.len, hks]; rfl
          obtain ⟨c, rfl⟩ := List.length_eq_one_iff.1 hl1
          have hk0 : rd w4 bc 0 = some (.slice (some ⟨ba, oa, none⟩) 1 capc) := n.kids.c0
          have i0 := ix0 1 ba oa 1 (by decide)
          have hce := n.kids.se.ptr_at (j := 0) (p := c.b) rfl
          rw [Nat.add_zero] at hce
          have hyc : ys = c.xs := by rw [n.eq, hks]; rfl
          have hcF : ∀ y o, c.F y o → F' y o := fun y o g => (n.fp y o).2 (.inr (.inr ⟨c, by simp, g⟩))
          refine W_rg fun K hK => (W_text [true, true, true, true, true, true, true, true, true, true, true, true, true, true, false] (by kernel_rfl) ?_); simp only [↓List.toList_toArray, ↓rgd, ↓rgf, ↓reduceIte, Nat.reduceEqDiff, rg, ow_52, e0, ptr_eq, rm4, ho.h3, hk0, i0, hce]
          refine do_store (v := ptr c.b) (by simp only [evt, evc, upd_eq, Nat.reduceEqDiff, ↓reduceIte, ntT, ntF] <;> rfl) (by simp only [evt, evc, upd_eq, Nat.reduceEqDiff, ↓reduceIte, ntT, ntF] <;> rfl) sz_73 rfl (c4.wok.mono (by decide)) (Nat.le_refl 3) (oc_one rfl rfl) fun w5 x5 r5 s5 => ⟨trivial, ?_⟩
          simp only [↓List.toList_toArray, ↓rgd, ↓rgf, ↓reduceIte, Nat.reduceEqDiff, rg, ow_52]
          refine hK _ _ ?_; clear hK K
          refine hfin _ w5 c.F (.inr ⟨h', c.b, (Row.cons.1 r5).1, ?_⟩) hcF x5 (by simp only [upd_eq, Nat.reduceEqDiff, ↓reduceIte]; exact e0) (by simp only [upd_eq, Nat.reduceEqDiff, ↓reduceIte] <;> rfl) (by simp only [upd_eq, Nat.reduceEqDiff, ↓reduceIte] <;> rfl)
          rw [hyc]
          exact ((n.sub c (by simp)).mono (by omega)).ext x5 fun y o g k => hFm y o (hcF y o g) k.1
      · have hb : ((nk : Int) == 0) = false := by simp; omega
        refine W_sq fun K hK => (W_text [true, true, true, true, true, true, true, true, true, true, true, true, true, true, false, true, true] (by kernel_rfl) ?_); simp only [↓List.toList_toArray, ↓rgd, ↓rgf, ↓reduceIte, Nat.reduceEqDiff, rg, ow_52, e0, ptr_eq, rm4, hkn, hb]
        refine hK _ _ ?_; clear hK K
        refine W_false (by simp only [evt, evc, upd_eq, Nat.reduceEqDiff, ↓reduceIte, ntT, ntF] <;> rfl) (W_skip ?_)
        exact hfin _ w4 F' (.inr ⟨h, b, rm4, hraise 1 (by omega)⟩) (fun _ _ g => g) (Ext.refl _ _) (by simp only [upd_eq, Nat.reduceEqDiff, ↓reduceIte]; exact e0) (by simp only [upd_eq, Nat.reduceEqDiff, ↓reduceIte] <;> rfl) (by simp only [upd_eq, Nat.reduceEqDiff, ↓reduceIte] <;> rfl)
end Go.Proofs.Ytjaolgehpnmieaa
/-
  Deletions from a set, and the law on them. No condition.
-/
set_option linter.unusedSimpArgs false
set_option linter.unusedVariables false
namespace Go.Proofs.Ytjaolgehpnmieaa
open Go Go.Proofs
theorem DOf.del {d : Nat} {xs : List It} (h : DOf d xs) (q : Rk) : DOf d (del O κ q xs) := h.imp id fun ⟨h1, h2⟩ => ⟨h1, by subst h2; rfl⟩
theorem DOf.two {d : Nat} {xs : List It} (h : DOf d xs) : xs ≠ [] → 2 ≤ d ∧ d ≤ 128 := fun hne => by
  rcases h with rfl | ⟨-, h⟩
  · omega
  · exact (hne h).elim
set_option maxHeartbeats 800000 in
set_option maxRecDepth 8000 in
theorem sdelete_any (m : Nat) (k : Int) (xs : List It) (F : Nat → Nat → Prop) (w : World) (h : SetAt w m xs F) (hbig : xs.length < 1152921504606846976) :
    CallK Try.prog 35 #[ptr m, .int .i64 k] w fun _ w' => Ext (setF m F) w w' ∧ ∃ F', SetAt w' m (del O κ k xs) F' ∧ ∀ y o, F' y o → F y o ∨ w.heap.size ≤ y := by
  obtain ⟨d, hd, hM⟩ := h
  refine calls_of_W [] Try.func35 rfl Try.ntmps35 Try.results35 (by simp) fun e he => ?_
  have e0 : e 0 = ptr m := he 0 _ rfl
  have e1 : e 1 = .int .i64 k := he 1 _ rfl
  clear he
  refine W_rg fun K hK => (W_text [true, true, true, true, false] (by kernel_rfl) ?_); simp only [↓List.toList_toArray, ↓rgd, ↓rgf, ↓reduceIte, Nat.reduceEqDiff, rg, ow_35, e0, e1, ptr_eq]
  refine do_call fn_52 (by simp only [evt, evc, upd_eq, Nat.reduceEqDiff, ↓reduceIte, maT, maC, maN, isnN, isnS] <;> rfl) (delete_map m d 0 k xs hd.two F w hM hbig) ?_
  rintro _ w1 ⟨rfl, X1, F', hM1, hF1⟩
  refine ⟨trivial, ?_⟩
  simp only [↓List.toList_toArray, ↓rgd, ↓rgf, ↓reduceIte, Nat.reduceEqDiff, rg, ow_35]
  refine hK _ _ ?_; clear hK K
  exact endQ_0n ⟨X1.mono fun y o _ g => mapF_setF g, F', ⟨d, hd.del k, hM1⟩, hF1⟩
set_option maxHeartbeats 800000 in
set_option maxRecDepth 8000 in
theorem impl_sdelete (l : List Int) (lv : Value) (ks : List Int) (kv : Value) (w : World) (hl : SlN w lv l) (hbig : l.length ≤ 2147483647) (hks : SlN w kv ks) (hkb : ks.length ≤ 2147483647) :
    CallK Try.prog 19 #[lv, kv] w fun v w' => SlN w' v ((delsK (tree (its l)) (its ks)).map κ) ∧ Ext noF w w' := by
  refine calls_of_W [.tmp 4] Try.func19 rfl Try.ntmps19 Try.results19 (by simp) fun e he => ?_
  have e0 : e 0 = lv := he 0 _ rfl
  have e1 : e 1 = kv := he 1 _ rfl
  clear he
  obtain ⟨ka, kc, hkv⟩ := SlV.shape hks
  rw [hkv] at e1
  have hkl : ∀ b o n c, kv = .slice (some ⟨b, o, none⟩) n c → b < w.heap.size := fun b o n c h => SlV.lt hks h
  have htl := tree_len (its l)
  rw [its_length] at htl
  refine W_sq fun K hK => (W_text [true] (by kernel_rfl) ?_); simp only [↓List.toList_toArray, ↓rgd, ↓rgf, ↓reduceIte, Nat.reduceEqDiff, rg, ow_19]
  refine hK _ _ ?_; clear hK K
  refine W_sq fun K hK => (W_text [true, false, true] (by kernel_rfl) ?_); simp only [↓List.toList_toArray, ↓rgd, ↓rgf, ↓reduceIte, Nat.reduceEqDiff, rg, ow_19, e0]
  refine do_call fn_30 (by simp only [evt, evc, upd_eq, Nat.reduceEqDiff, ↓reduceIte, maT, maC, maN, isnN, isnS] <;> rfl) (grow_any l lv w hl hbig) ?_
  rintro _ w1 ⟨X1, m, F0, rfl, hM0, hmg, hF0⟩
  refine ⟨trivial, ?_⟩
  simp only [↓List.toList_toArray, ↓rgd, ↓rgf, ↓reduceIte, Nat.reduceEqDiff, rg, ow_19]
  refine hK _ _ ?_; clear hK K
  have hks0 := SlV.ext0 hks X1
  have s1 := X1.size

  refine W_seq (W_seq ?_)
  refine W_rg fun K hK => (W_text [true, true, true] (by kernel_rfl) ?_); simp only [↓List.toList_toArray, ↓rgd, ↓rgf, ↓reduceIte, Nat.reduceEqDiff, rg, ow_19, e1]
  refine hK _ _ ?_; clear hK K
  show W _ _ _ _ _ _
  refine W_block (W_loop (fun mm e w' => ∃ k : Nat, mm = ks.length - k ∧ k ≤ ks.length ∧ e 10 = .slice ka ks.length kc ∧ e 11 = .int .i64 ks.length ∧ e 12 = .int .i64 k ∧ e 5 = ptr m ∧ Ext (fun y _ => w.heap.size ≤ y) w1 w' ∧ ∃ F, SetAt w' m (delsK (tree (its l)) ((its ks).take k)) F ∧ ∀ y o, F y o → w.heap.size ≤ y)
    ks.length ⟨0, by simp, by simp, by simp only [upd_eq, Nat.reduceEqDiff, ↓reduceIte], by simp only [upd_eq, Nat.reduceEqDiff, ↓reduceIte], by simp only [upd_eq, Nat.reduceEqDiff, ↓reduceIte]; rfl, by simp only [upd_eq, Nat.reduceEqDiff, ↓reduceIte] <;> rfl, Ext.refl _ _, F0, hM0, hF0⟩ ?_)
  clear hM0 hF0 e0 e1 e
  rintro mm e w' ⟨k, rfl, hk, eS, eL, eI, eM, X, F, hM, hF⟩
  by_cases hlt : k < ks.length
  · have ht := lt_tt k ks.length hlt
    refine W_sq fun K hK => (W_text [true] (by kernel_rfl) ?_); simp only [↓List.toList_toArray, ↓rgd, ↓rgf, ↓reduceIte, Nat.reduceEqDiff, rg, ow_19, eL, eI, ht]
    refine hK _ _ ?_; clear hK K
    refine W_seq (W_true (by simp only [evt, evc, upd_eq, Nat.reduceEqDiff, ↓reduceIte, ntT, ntF] <;> rfl) (W_skip ?_))
    show W _ _ _ _ _ _
    obtain ⟨x, hx⟩ : ∃ x, ks[k]? = some x := ⟨_, List.getElem?_eq_getElem hlt⟩
    obtain ⟨ib, io, hka, row⟩ := SlV.at hks0 hkv hlt
    have hibl := SlV.lt hks0 (hkv.trans (by rw [hka]))
    have ixx := nV_at (X.row row (fun _ _ h => by have := hkl _ _ _ _ (hkv.trans (by rw [hka])); omega)) hx
    rw [hka] at eS
    refine W_seq (W_block ?_)
    refine W_sq fun K hK => (W_text [true, true, true] (by kernel_rfl) ?_); simp only [↓List.toList_toArray, ↓rgd, ↓rgf, ↓reduceIte, Nat.reduceEqDiff, rg, ow_19, eS, eI, hlt, ixx]
    refine hK _ _ ?_; clear hK K
    rw [← hka] at eS
    have hdl := delsK_len ((its ks).take k) (tree (its l))
    refine W_rg fun K hK => (W_text [true, true, false] (by kernel_rfl) ?_); simp only [↓List.toList_toArray, ↓rgd, ↓rgf, ↓reduceIte, Nat.reduceEqDiff, rg, ow_19, eM]
    refine do_call fn_35 (by simp only [evt, evc, upd_eq, Nat.reduceEqDiff, ↓reduceIte, maT, maC, maN, isnN, isnS] <;> rfl) (sdelete_any m x _ F w' hM (by omega)) ?_
    rintro _ w4 ⟨x4, F', hM4, hF'⟩
    refine ⟨trivial, ?_⟩
    simp only [↓List.toList_toArray, ↓rgd, ↓rgf, ↓reduceIte, Nat.reduceEqDiff, rg, ow_19]
    refine hK _ _ ?_; clear hK K
    have sX := X.size
    show W _ _ _ _ _ _
    have q1 := wadd1 k (by omega)
    refine W_rg fun K hK => (W_text [true, true] (by kernel_rfl) ?_); simp only [↓List.toList_toArray, ↓rgd, ↓rgf, ↓reduceIte, Nat.reduceEqDiff, rg, ow_19, eI, q1]
    refine hK _ _ ?_; clear hK K
    refine ⟨_, ?_, k + 1, rfl, hlt, by simp only [upd_eq, Nat.reduceEqDiff, ↓reduceIte]; exact eS, by simp only [upd_eq, Nat.reduceEqDiff, ↓reduceIte]; exact eL, by simp only [upd_eq, Nat.reduceEqDiff, ↓reduceIte], by simp only [upd_eq, Nat.reduceEqDiff, ↓reduceIte]; exact eM, X.tr (x4.mono fun y o _ g => by
      rcases g with g | g
      · exact hF y o g
      · omega), F', by rw [take_snoc (its_get hx), delsK_snoc]; exact hM4, fun y o g => by
      rcases hF' y o g with g | g
      · exact hF y o g
      · omega⟩
    omega
  · obtain rfl : k = ks.length := by omega
    have ht := lt_ff ks.length ks.length (by omega)
    refine W_sq fun K hK => (W_text [true] (by kernel_rfl) ?_); simp only [↓List.toList_toArray, ↓rgd, ↓rgf, ↓reduceIte, Nat.reduceEqDiff, rg, ow_19, eL, eI, ht]
    refine hK _ _ ?_; clear hK K
    refine W_seq (W_false (by simp only [evt, evc, upd_eq, Nat.reduceEqDiff, ↓reduceIte, ntT, ntF] <;> rfl) (W_exit ?_))
    simp only [andThen_exit, inBlk_exit, andThen_normal, ↓reduceIte]
    have hfull : (its ks).take ks.length = its ks := by rw [← its_length, List.take_length]
    rw [hfull] at hM
    have hdl := delsK_len (its ks) (tree (its l))
    refine W_sq fun K hK => (W_text [true, false, true] (by kernel_rfl) ?_); simp only [↓List.toList_toArray, ↓rgd, ↓rgf, ↓reduceIte, Nat.reduceEqDiff, rg, ow_19, eM]
    refine do_call fn_32 (by simp only [evt, evc, upd_eq, Nat.reduceEqDiff, ↓reduceIte, maT, maC, maN, isnN, isnS] <;> rfl) (skeys_any m _ F w' hM (by omega)) ?_
    rintro v w5 ⟨h5, X5⟩
    refine ⟨trivial, ?_⟩
    simp only [↓List.toList_toArray, ↓rgd, ↓rgf, ↓reduceIte, Nat.reduceEqDiff, rg, ow_19]
    refine hK _ _ ?_; clear hK K
    exact W_ret (endQ_1 (by simp only [upd_eq, Nat.reduceEqDiff, ↓reduceIte] <;> rfl) ⟨SlN.eq h5.sl rfl, (noF_of X1 X fun y o hy h => by omega).tr X5⟩)
set_option maxHeartbeats 800000 in
set_option maxRecDepth 8000 in
theorem law_sdelete (l : List Int) (lv : Value) (ks : List Int) (kv : Value) (w : World) (hl : SlN w lv l) (hks : SlN w kv ks) (hbig : l.length ≤ 2147483647) (hkb : ks.length ≤ 2147483647) :
    CallK Try.prog 17 #[lv, kv] w fun v w' => v = .bool true ∧ Ext noF w w' := by
  have hil := its_length l
  have hik := its_length ks
  have htl := tree_len (its l)
  have hdl := delsK_len (its ks) (tree (its l))
  refine calls_of_W [.tmp 4] Try.func17 rfl Try.ntmps17 Try.results17 (by simp) fun e he => ?_
  have e0 : e 0 = lv := he 0 _ rfl
  have e1 : e 1 = kv := he 1 _ rfl
  clear he
  refine W_sq fun K hK => (W_text [true] (by kernel_rfl) ?_); simp only [↓List.toList_toArray, ↓rgd, ↓rgf, ↓reduceIte, Nat.reduceEqDiff, rg, ow_17]
  refine hK _ _ ?_; clear hK K
  refine W_sq fun K hK => (W_text [true, true, false, true] (by kernel_rfl) ?_); simp only [↓List.toList_toArray, ↓rgd, ↓rgf, ↓reduceIte, Nat.reduceEqDiff, rg, ow_17, e0, e1]
  refine do_call fn_19 (by simp only [evt, evc, upd_eq, Nat.reduceEqDiff, ↓reduceIte, maT, maC, maN, isnN, isnS] <;> rfl) (impl_sdelete l lv ks kv w hl hbig hks hkb) ?_
  rintro v1 w1 ⟨h1, X1⟩
  refine ⟨trivial, ?_⟩
  simp only [↓List.toList_toArray, ↓rgd, ↓rgf, ↓reduceIte, Nat.reduceEqDiff, rg, ow_17]
  refine hK _ _ ?_; clear hK K
  refine W_sq fun K hK => (W_text [true, true, false, true, false, false, true, true, true, true, true] (by kernel_rfl) ?_); simp only [↓List.toList_toArray, ↓rgd, ↓rgf, ↓reduceIte, Nat.reduceEqDiff, rg, ow_17, e0, e1, bu_make]
  refine do_call fn_24 (by simp only [evt, evc, upd_eq, Nat.reduceEqDiff, ↓reduceIte, maT, maC, maN, isnN, isnS] <;> rfl) (sitems_any l lv w1 (SlV.ext0 hl X1) hbig) ?_
  rintro iv w2 ⟨h2, X2⟩
  refine ⟨trivial, ?_⟩
  simp only [↓List.toList_toArray, ↓rgd, ↓rgf, ↓reduceIte, Nat.reduceEqDiff, rg, ow_17, e1, bu_make]
  refine do_call fn_24 (by simp only [evt, evc, upd_eq, Nat.reduceEqDiff, ↓reduceIte, maT, maC, maN, isnN, isnS] <;> rfl) (sitems_any ks kv w2 (SlV.ext0 hks (X1.tr X2)) hkb) ?_
  rintro jv w3 ⟨h3, X3⟩
  refine ⟨trivial, ?_⟩
  simp only [↓List.toList_toArray, ↓rgd, ↓rgf, ↓reduceIte, Nat.reduceEqDiff, rg, ow_17]
  refine do_call fn_33 (by simp only [evt, evc, upd_eq, Nat.reduceEqDiff, ↓reduceIte, maT, maC, maN, isnN, isnS] <;> rfl) (gdelete_nil (its l) iv (its ks) jv w3 (SlV.ext0 h2 X3) (by omega) h3 (by omega)) ?_
  rintro _ w4 ⟨rv, tv, rfl, h4, X4⟩
  refine ⟨trivial, ?_⟩
  simp only [↓List.toList_toArray, ↓rgd, ↓rgf, ↓reduceIte, Nat.reduceEqDiff, rg, ow_17]
  refine hK _ _ ?_; clear hK K
  refine W_sq fun K hK => (W_text [true, false, true] (by kernel_rfl) ?_); simp only [↓List.toList_toArray, ↓rgd, ↓rgf, ↓reduceIte, Nat.reduceEqDiff, rg, ow_17]
  refine do_call fn_26 (by simp only [evt, evc, upd_eq, Nat.reduceEqDiff, ↓reduceIte, maT, maC, maN, isnN, isnS] <;> rfl) (skeysS_any _ tv w4 h4 (by omega)) ?_
  rintro v5 w5 ⟨h5, X5⟩
  refine ⟨trivial, ?_⟩
  simp only [↓List.toList_toArray, ↓rgd, ↓rgf, ↓reduceIte, Nat.reduceEqDiff, rg, ow_17]
  refine hK _ _ ?_; clear hK K
  have XY := (X2.tr X3).tr (X4.tr X5)
  refine W_sq fun K hK => (W_text [true, true, false, true] (by kernel_rfl) ?_); simp only [↓List.toList_toArray, ↓rgd, ↓rgf, ↓reduceIte, Nat.reduceEqDiff, rg, ow_17]
  refine do_call fn_14 (by simp only [evt, evc, upd_eq, Nat.reduceEqDiff, ↓reduceIte, maT, maC, maN, isnN, isnS] <;> rfl) (eq_n _ v1 v5 w5 (SlV.ext0 h1 XY) h5 (by rw [List.length_map]; omega)) ?_
  rintro _ w6 ⟨rfl, r6⟩
  refine ⟨trivial, ?_⟩
  simp only [↓List.toList_toArray, ↓rgd, ↓rgf, ↓reduceIte, Nat.reduceEqDiff, rg, ow_17]
  refine hK _ _ ?_; clear hK K
  exact W_ret (endQ_1 (by simp only [upd_eq, Nat.reduceEqDiff, ↓reduceIte] <;> rfl) ⟨rfl, (X1.tr XY).tr r6.ext⟩)
end Go.Proofs.Ytjaolgehpnmieaa
/-
  The value of a key. No condition.
-/
set_option linter.unusedSimpArgs false
set_option linter.unusedVariables false
namespace Go.Proofs.Ytjaolgehpnmieaa
open Go Go.Proofs
theorem at_none {q : Rk} {xs : List It} (h : hit O κ q xs = false) : at? O κ q xs = none := by unfold at?; rw [h]; rfl
set_option maxHeartbeats 1000000 in
set_option maxRecDepth 8000 in
theorem get_any (m d : Nat) (iso : Int) (xs : List It) (hd : xs ≠ [] → 2 ≤ d ∧ d ≤ 128) (F : Nat → Nat → Prop) (q : Rk) (mu : Bool) (w0 : World) (hM : MapAt w0 m d iso xs F) :
    CallK Try.prog 65 #[ptr m, kV q, .bool mu] w0 fun v w' => v = .tuple #[vV ((at? O κ q xs).getD zIt), .bool (hit O κ q xs)] ∧ Ext noF w0 w' := by
  refine calls_of_W [.cell 6 74, .tmp 7] Try.func65 rfl Try.ntmps65 Try.results65 (by simp) fun e he => ?_
  have e0 : e 0 = ptr m := he 0 _ rfl
  have e1 : e 1 = kV q := he 1 _ rfl
  have e2 : e 2 = .bool mu := he 2 _ rfl
  clear he
  refine W_sq fun K0 hK => (W_text [false, true] (by kernel_rfl) ?_); simp only [↓List.toList_toArray, ↓rgd, ↓rgf, ↓reduceIte, Nat.reduceEqDiff, rg, ow_65]
  refine do_alloc z_unit fun w nq => ⟨trivial, ?_⟩
  simp only [↓List.toList_toArray, ↓rgd, ↓rgf, ↓reduceIte, Nat.reduceEqDiff, rg, ow_65]
  refine hK _ _ ?_; clear hK K0
  have X0 := nq.ext
  have sq := nq.size
  obtain ⟨q1, hq⟩ : ∃ q1, q1 = w0.heap.size := ⟨_, rfl⟩
  have wq : wok w q1 0 := by rw [hq]; exact nq.wok
  replace hM := hM.ext X0
  rw [← hq]
  clear nq sq
  refine W_seq ?_
  rcases hM.root with ⟨rfl, hr⟩ | ⟨h, b, hr, ht⟩
  · refine W_sq fun K0 hK => (W_text [true, true, true, true, true] (by kernel_rfl) ?_); simp only [↓List.toList_toArray, ↓rgd, ↓rgf, ↓reduceIte, Nat.reduceEqDiff, rg, ow_65, e0, ptr_eq, hr]
    refine hK _ _ ?_; clear hK K0
    refine W_true (by simp only [evt, evc, upd_eq, Nat.reduceEqDiff, ↓reduceIte, ntT, ntF] <;> rfl) ?_
    have tm := wok.ty tyP hM.cfg.wok
    refine W_sq fun K0 hK => (W_text [true, true, true, true, true, false, true] (by kernel_rfl) ?_); simp only [↓List.toList_toArray, ↓rgd, ↓rgf, ↓reduceIte, Nat.reduceEqDiff, rg, ow_65, e0, ptr_eq, tm]
    refine do_store (b := q1) (o := 0) (by simp only [evt, evc, upd_eq, Nat.reduceEqDiff, ↓reduceIte, ntT, ntF] <;> rfl) (by simp only [evt, evc, upd_eq, Nat.reduceEqDiff, ↓reduceIte, ntT, ntF] <;> rfl) sz_74 rfl wq (by decide) (fun _ h => by cases h) fun w2 x2 r2 s2 => ⟨trivial, ?_⟩
    simp only [↓List.toList_toArray, ↓rgd, ↓rgf, ↓reduceIte, Nat.reduceEqDiff, rg, ow_65]
    refine hK _ _ ?_; clear hK K0
    refine W_ret ?_
    simp only [andThen_ret]
    exact endQ_ct (by simp only [upd_eq, Nat.reduceEqDiff, ↓reduceIte] <;> rfl) (by simp only [upd_eq, Nat.reduceEqDiff, ↓reduceIte] <;> rfl) ld_74 ld_unit ⟨rfl, noF_of X0 x2 fun y o hy k => by simp only [rng] at k; omega⟩
  · obtain ⟨hd, hd'⟩ := hd (by
      obtain ⟨bi, oi, cap, ks, ch, ho, h1, h2, _, h | ⟨h', bc, ba, oa, capc, cs, _, _, n⟩⟩ := ht.open
      · intro e; rw [h.2.2.1] at e; rw [e] at h1; simp at h1
      · intro e; have := weave_length (cs.map Kid.xs) ks (by simpa using n.len); rw [← n.eq, e] at this; simp at this; omega)
    refine W_sq fun K0 hK => (W_text [true, true, true, true, true] (by kernel_rfl) ?_); simp only [↓List.toList_toArray, ↓rgd, ↓rgf, ↓reduceIte, Nat.reduceEqDiff, rg, ow_65, e0, ptr_eq, hr]
    refine hK _ _ ?_; clear hK K0
    refine W_false (by simp only [evt, evc, upd_eq, Nat.reduceEqDiff, ↓reduceIte, ntT, ntF] <;> rfl) (W_skip ?_)
    show W _ _ _ _ _ _
    have hi00 : rd w b 0 = some (.int .u64 iso) := by obtain ⟨bi, oi, cap, ks, ch, ho, _⟩ := ht.open; exact ho.h0
    refine W_sq fun K0 hK => (W_text [true, true, true, true, true, false, true] (by kernel_rfl) ?_); simp only [↓List.toList_toArray, ↓rgd, ↓rgf, ↓reduceIte, Nat.reduceEqDiff, rg, ow_65, e0, e2, ptr_eq]
    refine do_call fn_62 (by simp only [evt, evc, upd_eq, Nat.reduceEqDiff, ↓reduceIte, maT, maC, maN, isnN, isnS] <;> rfl) (isoLoad_any m m 2 b mu iso w hM.cfg.iso hr hi00) ?_
    rintro _ w1 ⟨rfl, r1⟩
    refine ⟨trivial, ?_⟩
    simp only [↓List.toList_toArray, ↓rgd, ↓rgf, ↓reduceIte, Nat.reduceEqDiff, rg, ow_65]
    refine hK _ _ ?_; clear hK K0
    refine W_block (W_loop (fun mm e w' => ∃ (lo b : Nat) (ys : List It) (F : Nat → Nat → Prop), Tr E iso (d - 1) (2 * d - 1) mm w lo b ys F ∧ Asc O κ ys ∧ at? O κ q ys = at? O κ q xs ∧ hit O κ q ys = hit O κ q xs ∧ RO w w' ∧ e 0 = ptr m ∧ e 1 = kV q ∧ e 2 = .bool mu ∧ e 6 = .pointer (some ⟨q1, 0, none⟩) ∧ e 8 = ptr b)
      h ⟨1, b, xs, F, ht, hM.asc, rfl, rfl, r1, ?_, ?_, ?_, ?_, ?_⟩ ?_)
    · simp only [upd_eq, Nat.reduceEqDiff, ↓reduceIte]; exact e0
    · simp only [upd_eq, Nat.reduceEqDiff, ↓reduceIte]; exact e1
    · simp only [upd_eq, Nat.reduceEqDiff, ↓reduceIte]; exact e2
    · simp only [upd_eq, Nat.reduceEqDiff, ↓reduceIte] <;> rfl
    · simp only [upd_eq, Nat.reduceEqDiff, ↓reduceIte]
    clear e0 e1 e2 e hr ht r1 hi00
    rintro mm e w' ⟨lo, b, ys, F', ht, ha, h1, h2, r, e0, e1, e2, e6, e8⟩
    have X : Ext noF w w' := r.ext
    have hiso := X.rd hM.cfg.iso (fun h => h)
    have sX := X.size
    obtain ⟨bi, oi, cap, ks, ch, ho, hl1, hl2, _, hin⟩ := ht.open
    have ho' := ho.ext X fun _ _ _ h => h
    have hak : Asc O κ ks := by
      rcases hin with ⟨_, _, hx, _⟩ | ⟨_, _, _, _, _, cs, _, _, n⟩
      · rw [← hx]; exact ha
      · refine List.Pairwise.sublist ?_ ha
        rw [n.eq]; exact weave_sub _ _ (by simpa using n.len)
    have hb2 := ho'.h2
    have hb3 := ho'.h3
    refine W_block ?_
    refine W_sq fun K0 hK => (W_text [true, true, true, false, true, true, true, true, true] (by kernel_rfl) ?_); simp only [↓List.toList_toArray, ↓rgd, ↓rgf, ↓reduceIte, Nat.reduceEqDiff, rg, ow_65, e0, e1, e8]
    refine do_call fn_76 (by simp only [evt, evc, upd_eq, Nat.reduceEqDiff, ↓reduceIte, maT, maC, maN, isnN, isnS] <;> rfl) (search_any (ptr m) b bi oi cap ks q w' ho'.h2 ho'.row (by omega) hak) ?_
    rintro _ w2 ⟨rfl, r2⟩
    refine ⟨trivial, ?_⟩
    simp only [↓List.toList_toArray, ↓rgd, ↓rgf, ↓reduceIte, Nat.reduceEqDiff, rg, ow_65, srch_eq]
    refine hK _ _ ?_; clear hK K0
    have X2 : Ext noF w' w2 := r2.ext
    have hb2' := X2.rd hb2 (fun h => h)
    have hb3' := X2.rd hb3 (fun h => h)
    refine W_seq ?_
    cases hh : hit O κ q ks with
    | true =>
      refine W_sq fun K0 hK => (W_text [true] (by kernel_rfl) ?_); simp only [↓List.toList_toArray, ↓rgd, ↓rgf, ↓reduceIte, Nat.reduceEqDiff, rg, ow_65, hh]
      refine hK _ _ ?_; clear hK K0
      refine W_true (by simp only [evt, evc, upd_eq, Nat.reduceEqDiff, ↓reduceIte, ntT, ntF] <;> rfl) ?_
      obtain ⟨kk, hk1, hk2⟩ := hit_at O κ hh
      have hi := (List.getElem?_eq_some_iff.1 hk1).1
      have ty := wok.ty tyP (X2.wok ho'.wi)
      have sX2 := X2.size
      refine W_sq fun K0 hK => (W_text [true, true, true, true, true, true, true, true, false, true] (by kernel_rfl) ?_); simp only [↓List.toList_toArray, ↓rgd, ↓rgf, ↓reduceIte, Nat.reduceEqDiff, rg, ow_65, e8, ptr_eq, hb2', hi, ty]
      refine do_store (b := q1) (o := 0) (by simp only [evt, upd_eq, Nat.reduceEqDiff, ↓reduceIte]; exact e6) (by simp only [evt, evc, upd_eq, Nat.reduceEqDiff, ↓reduceIte, ntT, ntF] <;> rfl) sz_74 rfl (X2.wok (X.wok wq)) (by decide) (fun _ h => by cases h) fun w4 x4 r4 s4 => ⟨trivial, ?_⟩
      simp only [↓List.toList_toArray, ↓rgd, ↓rgf, ↓reduceIte, Nat.reduceEqDiff, rg, ow_65]
      refine hK _ _ ?_; clear hK K0
      have key : hit O κ q ys = true ∧ at? O κ q ys = some kk := by
        rcases hin with ⟨_, _, rfl, _⟩ | ⟨_, _, _, _, _, cs, _, _, n⟩
        · exact ⟨hh, by unfold at?; rw [hh]; exact hk1⟩
        · obtain ⟨A, C, hw⟩ := weave_key (lb O κ q ks) (cs.map Kid.xs) ks kk (by simpa using n.len) hk1
          have hxs : ys = A ++ kk :: C := by
            rw [n.eq, ← hw kk]
            obtain ⟨g1, g2⟩ := List.getElem?_eq_some_iff.1 hk1
            rw [← g2, List.set_getElem_self g1]
          have hf := found_xs (x := kk) ha hxs rfl
          rw [hk2]
          exact ⟨hf.1, hf.2.1⟩
      refine W_ret ?_
      simp only [andThen_ret, inBlk_ret]
      refine endQ_ct (by simp only [upd_eq, Nat.reduceEqDiff, ↓reduceIte] <;> exact e6) (by simp only [upd_eq, Nat.reduceEqDiff, ↓reduceIte] <;> rfl) ld_74 ld_unit ⟨?_, noF_of ((X0.tr X).tr X2) x4 fun y o hy k => by simp only [rng] at k; omega⟩
      rw [← h1, ← h2, key.1, key.2]; rfl
    | false =>
      refine W_sq fun K0 hK => (W_text [true] (by kernel_rfl) ?_); simp only [↓List.toList_toArray, ↓rgd, ↓rgf, ↓reduceIte, Nat.reduceEqDiff, rg, ow_65, hh]
      refine hK _ _ ?_; clear hK K0
      refine W_false (by simp only [evt, evc, upd_eq, Nat.reduceEqDiff, ↓reduceIte, ntT, ntF] <;> rfl) (W_skip ?_)
      simp only [andThen_normal]
      refine W_seq ?_
      have hlb : lb O κ q ks ≤ ks.length := lb_le O κ _ _
      rcases hin with ⟨rfl, rfl, rfl, hF⟩ | ⟨h', bc, ba, oa, capc, cs, rfl, rfl, n⟩
      · refine W_sq fun K0 hK => (W_text [true, false] (by kernel_rfl) ?_); simp only [↓List.toList_toArray, ↓rgd, ↓rgf, ↓reduceIte, Nat.reduceEqDiff, rg, ow_65, e8]
        refine do_call fn_63 (by simp only [evt, evc, upd_eq, Nat.reduceEqDiff, ↓reduceIte, maT, maC, maN, isnN, isnS] <;> rfl) (leaf_any b none w2 hb3') ?_
        rintro _ w2 ⟨rfl, rfl⟩
        refine ⟨trivial, ?_⟩
        simp only [↓List.toList_toArray, ↓rgd, ↓rgf, ↓reduceIte, Nat.reduceEqDiff, rg, ow_65]
        refine hK _ _ ?_; clear hK K0
        refine W_true (by simp only [evt, evc, upd_eq, Nat.reduceEqDiff, ↓reduceIte, ntT, ntF] <;> rfl) ?_
        have tm2 := wok.ty tyP (X2.wok (X.wok hM.cfg.wok))
        refine W_sq fun K0 hK => (W_text [true, true, true, true, true, false, true] (by kernel_rfl) ?_); simp only [↓List.toList_toArray, ↓rgd, ↓rgf, ↓reduceIte, Nat.reduceEqDiff, rg, ow_65, e0, ptr_eq, tm2]
        refine do_store (b := q1) (o := 0) (by simp only [evt, upd_eq, Nat.reduceEqDiff, ↓reduceIte]; exact e6) (by simp only [evt, evc, upd_eq, Nat.reduceEqDiff, ↓reduceIte, ntT, ntF] <;> rfl) sz_74 rfl (X2.wok (X.wok wq)) (by decide) (fun _ h => by cases h) fun w4 x4 r4 s4 => ⟨trivial, ?_⟩
        simp only [↓List.toList_toArray, ↓rgd, ↓rgf, ↓reduceIte, Nat.reduceEqDiff, rg, ow_65]
        refine hK _ _ ?_; clear hK K0
        refine W_ret ?_
        simp only [andThen_ret, inBlk_ret]
        refine endQ_ct (by simp only [upd_eq, Nat.reduceEqDiff, ↓reduceIte] <;> exact e6) (by simp only [upd_eq, Nat.reduceEqDiff, ↓reduceIte] <;> rfl) ld_74 ld_unit ⟨?_, noF_of ((X0.tr X).tr X2) x4 fun y o hy k => by simp only [rng] at k; omega⟩
        rw [← h1, ← h2, hh, at_none hh]; rfl
      · generalize hli : lb O κ q ks = i at *
        obtain ⟨c, hci⟩ : ∃ c, cs[i]? = some c := ⟨_, List.getElem?_eq_getElem (by have := n.len; omega)⟩
        have hcm := List.mem_of_getElem? hci
        have hcl := (List.getElem?_eq_some_iff.1 hci).1
        have hcx : (cs.map Kid.xs)[i]? = some c.xs := by rw [List.getElem?_map, hci]; rfl
        obtain ⟨A, C, hw⟩ := weave_at i (cs.map Kid.xs) ks (by simpa using n.len) hlb
        have hxs : ys = A ++ c.xs ++ C := by rw [n.eq]; exact hw.eq hcx
        obtain ⟨hA, hC⟩ := hw.mid O κ hcx (by rw [← n.eq]; exact ha) hli hh
        have ga : rd w2 ba (oa + i) = some (ptr c.b) := X2.rd (X.rd (ptr_at n.kids.row (by rw [List.getElem?_map, hci]; rfl)) (fun h => h)) (fun h => h)
        have gc := X2.rd (X.rd n.kids.c0 (fun h => h)) (fun h => h)
        rw [List.length_map] at gc
        have hc0 : rd w c.b 0 = some (.int .u64 iso) := by obtain ⟨bi, oi, cap, ks, ch, ho, _⟩ := (n.sub c hcm).open; exact ho.h0
        refine W_sq fun K0 hK => (W_text [true, false] (by kernel_rfl) ?_); simp only [↓List.toList_toArray, ↓rgd, ↓rgf, ↓reduceIte, Nat.reduceEqDiff, rg, ow_65, e8]
        refine do_call fn_63 (by simp only [evt, evc, upd_eq, Nat.reduceEqDiff, ↓reduceIte, maT, maC, maN, isnN, isnS] <;> rfl) (leaf_any b (some ⟨bc, 0, none⟩) w2 hb3') ?_
        rintro _ w2 ⟨rfl, rfl⟩
        refine ⟨trivial, ?_⟩
        simp only [↓List.toList_toArray, ↓rgd, ↓rgf, ↓reduceIte, Nat.reduceEqDiff, rg, ow_65]
        refine hK _ _ ?_; clear hK K0
        refine W_false (by simp only [evt, evc, upd_eq, Nat.reduceEqDiff, ↓reduceIte, ntT, ntF] <;> rfl) (W_skip ?_)
        simp only [andThen_normal]
        refine W_rg fun K0 hK => (W_text [true, true, true, true, true, true, true, true, true, true, false, true] (by kernel_rfl) ?_); simp only [↓List.toList_toArray, ↓rgd, ↓rgf, ↓reduceIte, Nat.reduceEqDiff, rg, ow_65, e0, e2, e8, ptr_eq, hb3', gc, hcl]
        refine do_call fn_62 (by simp only [evt, evc, upd_eq, Nat.reduceEqDiff, ↓reduceIte, maT, maC, maN, isnN, isnS] <;> rfl) (isoLoad_any m ba (oa + i) c.b mu iso w2 (X2.rd hiso (fun h => h)) ga (X2.rd (X.rd hc0 (fun h => h)) (fun h => h))) ?_
        rintro _ w3 ⟨rfl, r3⟩
        refine ⟨trivial, ?_⟩
        simp only [↓List.toList_toArray, ↓rgd, ↓rgf, ↓reduceIte, Nat.reduceEqDiff, rg, ow_65]
        refine hK _ _ ?_; clear hK K0
        have hac : Asc O κ c.xs := by rw [hxs] at ha; exact ((Asc.append O κ).1 ((Asc.append O κ).1 ha).1).2.1
        refine ⟨h', by omega, d - 1, c.b, c.xs, c.F, n.sub c hcm, hac, ?_, ?_, (r.tr r2).tr r3, ?_, ?_, ?_, ?_, ?_⟩
        · rw [← h1, hxs, at_mid O κ hA hC]
        · rw [← h2, hxs, hit_mid O κ hA hC]
        · simp only [upd_eq, Nat.reduceEqDiff, ↓reduceIte]; exact e0
        · simp only [upd_eq, Nat.reduceEqDiff, ↓reduceIte]; exact e1
        · simp only [upd_eq, Nat.reduceEqDiff, ↓reduceIte]; exact e2
        · simp only [upd_eq, Nat.reduceEqDiff, ↓reduceIte]; exact e6
        · simp only [upd_eq, Nat.reduceEqDiff, ↓reduceIte]
set_option maxHeartbeats 400000 in
set_option maxRecDepth 8000 in
theorem getM_any (m d : Nat) (iso : Int) (xs : List It) (hd : xs ≠ [] → 2 ≤ d ∧ d ≤ 128) (F : Nat → Nat → Prop) (q : Rk) (w : World) (hM : MapAt w m d iso xs F) :
    CallK Try.prog 51 #[ptr m, kV q] w fun v w' => v = .tuple #[vV ((at? O κ q xs).getD zIt), .bool (hit O κ q xs)] ∧ Ext noF w w' := by
  refine calls_of_W [.cell 4 74, .tmp 5] Try.func51 rfl Try.ntmps51 Try.results51 (by simp) fun e he => ?_
  have e0 : e 0 = ptr m := he 0 _ rfl
  have e1 : e 1 = kV q := he 1 _ rfl
  clear he
  refine W_sq fun K0 hK => (W_text [false, true] (by kernel_rfl) ?_); simp only [↓List.toList_toArray, ↓rgd, ↓rgf, ↓reduceIte, Nat.reduceEqDiff, rg, ow_51]
  refine do_alloc z_unit fun w1 n1 => ⟨trivial, ?_⟩
  simp only [↓List.toList_toArray, ↓rgd, ↓rgf, ↓reduceIte, Nat.reduceEqDiff, rg, ow_51]
  refine hK _ _ ?_; clear hK K0
  have s1 := n1.size
  refine W_sq fun K0 hK => (W_text [true, true, false, true, true, false, true] (by kernel_rfl) ?_); simp only [↓List.toList_toArray, ↓rgd, ↓rgf, ↓reduceIte, Nat.reduceEqDiff, rg, ow_51, e0, e1]
  refine do_call fn_65 (by simp only [evt, evc, upd_eq, Nat.reduceEqDiff, ↓reduceIte, maT, maC, maN, isnN, isnS] <;> rfl) (get_any m d iso xs hd F q false w1 (hM.ext n1.ext)) ?_
  rintro _ w2 ⟨rfl, X2⟩
  refine ⟨trivial, ?_⟩
  simp only [↓List.toList_toArray, ↓rgd, ↓rgf, ↓reduceIte, Nat.reduceEqDiff, rg, ow_51]
  refine do_store (by simp only [evt, evc, upd_eq, Nat.reduceEqDiff, ↓reduceIte, ntT, ntF] <;> rfl) (by simp only [evt, evc, upd_eq, Nat.reduceEqDiff, ↓reduceIte, ntT, ntF] <;> rfl) sz_74 rfl (X2.wok n1.wok) (by decide) (fun _ h => by cases h) fun w3 x3 r3 s3 => ⟨trivial, ?_⟩
  simp only [↓List.toList_toArray, ↓rgd, ↓rgf, ↓reduceIte, Nat.reduceEqDiff, rg, ow_51]
  refine hK _ _ ?_; clear hK K0
  refine W_ret ?_
  exact endQ_ct (by simp only [upd_eq, Nat.reduceEqDiff, ↓reduceIte] <;> rfl) (by simp only [upd_eq, Nat.reduceEqDiff, ↓reduceIte] <;> rfl) ld_74 ld_unit ⟨rfl, noF_of (n1.ext.tr X2) x3 fun y o hy h => by simp only [rng] at h; omega⟩
end Go.Proofs.Ytjaolgehpnmieaa
/-
  Walks down a tree that change the counts on their way, and take the changes back or make a change at the end. For items of whatever make; no program. No condition.
-/
set_option linter.unusedSimpArgs false
set_option linter.unusedVariables false
namespace Go.Proofs.Ytjaolgehpnmieaa
open Go
variable {α : Type} {E : Enc α} {iso : Int} {mn mx : Nat}
theorem Ext.heal {F : Nat → Nat → Prop} {w w' : World} (h : Ext F w w') {b o : Nat} {v : Value} (h1 : Go.Proofs.Ytjaolgehpnmieaa.rd w b o = some v) (h2 : Go.Proofs.Ytjaolgehpnmieaa.rd w' b o = some v) : Ext (fun y p => F y p ∧ ¬ (y = b ∧ p = o)) w w' := by
  refine ⟨h.os, h.output, h.tape, h.size, fun y arr T fr hy => ?_, h.other⟩
  obtain ⟨arr', g1, g2, g3⟩ := h.cells y arr T fr hy
  refine ⟨arr', g1, g2, fun p hp => ?_⟩
  by_cases hb : y = b ∧ p = o
  · obtain ⟨rfl, rfl⟩ := hb
    rw [rd_of hy] at h1
    rw [rd_of g1] at h2
    rw [h1, h2]
  · exact g3 p fun hf => hp ⟨hf, hb⟩
/-- The child that is chosen by the number of children. -/
def selKid (sel : Nat → Nat) (w : World) (b c : Nat) : Prop :=
  ∃ bc ba oa n cap, rd w b 3 = some (ptr bc) ∧ rd w bc 0 = some (.slice (some ⟨ba, oa, none⟩) n cap) ∧ rd w ba (oa + sel n) = some (ptr c)
theorem selKid.uniq {sel : Nat → Nat} {w : World} {b c c' : Nat} (h : selKid sel w b c) (h' : selKid sel w b c') : c = c' := by
  obtain ⟨bc, ba, oa, n, cap, h1, h2, h3⟩ := h
  obtain ⟨bc', ba', oa', n', cap', g1, g2, g3⟩ := h'
  rw [h1] at g1; simp only [ptr, Option.some.injEq, Value.pointer.injEq, Addr.mk.injEq, and_true] at g1; subst g1
  rw [h2] at g2; simp only [Option.some.injEq, Value.slice.injEq, Addr.mk.injEq, and_true] at g2
  obtain ⟨⟨rfl, rfl⟩, rfl, rfl⟩ := g2
  rw [h3] at g3; simp only [ptr, Option.some.injEq, Value.pointer.injEq, Addr.mk.injEq, and_true] at g3
  exact g3
/-- The nodes on the way down. -/
def RS (sel : Nat → Nat) (w : World) : Nat → Nat → Nat → Prop
  | 0, b, y => y = b
  | h + 1, b, y => y = b ∨ ∃ c, selKid sel w b c ∧ RS sel w h c y
theorem Inn.sel {h : Nat} {w : World} {b : Nat} {xs : List α} {F : Nat → Nat → Prop} {bi oi cap : Nat} {ks : List α} {bc ba oa capc : Nat} {cs : List (Kid α)} (n : Inn E iso mn mx h w b xs F bi oi cap ks bc ba oa capc cs)
    (h3 : rd w b 3 = some (ptr bc)) {sel : Nat → Nat} {c : Kid α} (hc : cs[sel cs.length]? = some c) : selKid sel w b c.b := by
  refine ⟨bc, ba, oa, _, capc, h3, n.kids.c0, ?_⟩
  rw [List.length_map]
  exact n.kids.row _ _ (by rw [List.getElem?_map, List.getElem?_map, hc]; rfl)
theorem Inn.rs {h : Nat} {w : World} {b : Nat} {xs : List α} {F : Nat → Nat → Prop} {bi oi cap : Nat} {ks : List α} {bc ba oa capc : Nat} {cs : List (Kid α)} (n : Inn E iso mn mx h w b xs F bi oi cap ks bc ba oa capc cs)
    (h3 : rd w b 3 = some (ptr bc)) {sel : Nat → Nat} {c : Kid α} (hc : cs[sel cs.length]? = some c) (y : Nat) : RS sel w (h + 1) b y ↔ y = b ∨ RS sel w h c.b y := by
  have hs := n.sel h3 hc
  constructor
  · rintro (h | ⟨c', h1, h2⟩)
    · exact .inl h
    · rw [h1.uniq hs] at h2; exact .inr h2
  · rintro (h | h)
    · exact .inl h
    · exact .inr ⟨_, hs, h⟩
theorem RS.sub {sel : Nat → Nat} (hsel : ∀ n, 0 < n → sel n < n) {w : World} : ∀ {h lo b : Nat} {xs : List α} {F : Nat → Nat → Prop}, Tr E iso mn mx h w lo b xs F → ∀ y, RS sel w h b y → ∀ o, F y o
  | 0, _, _, _, _, ht, y, hy, o => by rw [show y = _ from hy]; exact ht.self o
  | h + 1, _, b, _, F, ht, y, hy, o => by
    obtain ⟨bi, oi, cap, ks, ch, ho, _, _, hsub, ⟨h0, _⟩ | ⟨h', bc, ba, oa, capc, cs, hh, rfl, n⟩⟩ := ht.open
    · omega
    · obtain rfl : h = h' := by omega
      obtain ⟨c, hc⟩ : ∃ c, cs[sel cs.length]? = some c := ⟨_, List.getElem?_eq_getElem (hsel _ (by have := n.len; omega))⟩
      rcases (n.rs ho.h3 hc y).1 hy with rfl | hy
      · exact hsub _ _ (.inl rfl)
      · exact (n.fp y o).2 (.inr (.inr ⟨c, List.mem_of_getElem? hc, RS.sub hsel (n.sub c (List.mem_of_getElem? hc)) y hy o⟩))
/-- The counts of some nodes are off. -/
structure Shift (δ : Int) (w0 w' : World) (D : Nat → Prop) : Prop where
  ext : Ext (fun y o => o = 1 ∧ D y) w0 w'
  cnt : ∀ y, D y → ∃ k : Int, rd w0 y 1 = some (.int .i64 k) ∧ rd w' y 1 = some (.int .i64 (k + δ))
theorem Shift.nil (δ : Int) (w : World) : Shift δ w w fun _ => False := ⟨Ext.refl _ _, fun _ h => h.elim⟩
theorem Shift.ro {δ : Int} {w0 w1 w2 : World} {D : Nat → Prop} (h : Shift δ w0 w1 D) (r : RO w1 w2) : Shift δ w0 w2 D :=
  ⟨h.ext.tr r.ext, fun y hy => by obtain ⟨k, h1, h2⟩ := h.cnt y hy; exact ⟨k, h1, (r.ext (F := noF)).rd h2 fun h => h⟩⟩
theorem Shift.congr {δ : Int} {w0 w1 : World} {D D' : Nat → Prop} (h : Shift δ w0 w1 D) (hd : ∀ y, D' y ↔ D y) : Shift δ w0 w1 D' :=
  ⟨h.ext.mono fun y o _ g => ⟨g.1, (hd y).2 g.2⟩, fun y hy => h.cnt y ((hd y).1 hy)⟩
/-- One more count is changed. -/
theorem Shift.add {δ : Int} {w0 w1 w2 : World} {D : Nat → Prop} (h : Shift δ w0 w1 D) {b : Nat} {k : Int} (hD : ¬ D b) (h0 : rd w0 b 1 = some (.int .i64 k)) (x : Ext (rng b 1 1) w1 w2) (h2 : rd w2 b 1 = some (.int .i64 (k + δ))) :
    Shift δ w0 w2 fun y => D y ∨ y = b := by
  refine ⟨(h.ext.mono fun y o _ g => ⟨g.1, .inl g.2⟩).trans x (fun _ _ g => g) fun y o _ g => ?_, fun y hy => ?_⟩
  · simp only [rng] at g; exact ⟨by omega, .inr g.1⟩
  · rcases hy with hy | rfl
    · obtain ⟨k', g1, g2⟩ := h.cnt y hy
      exact ⟨k', g1, x.rd g2 fun g => hD (by simp only [rng] at g; rw [← g.1]; exact hy)⟩
    · exact ⟨k, h0, h2⟩
/-- One count is taken back. -/
theorem Shift.undo {δ : Int} {w0 w1 w2 : World} {D : Nat → Prop} (h : Shift δ w0 w1 D) {b : Nat} {v : Value} (hD : D b) (h0 : rd w0 b 1 = some v) (x : Ext (rng b 1 1) w1 w2) (h2 : rd w2 b 1 = some v) :
    Shift δ w0 w2 fun y => D y ∧ y ≠ b := by
  have X : Ext (fun y o => o = 1 ∧ D y) w0 w2 := h.ext.trans x (fun _ _ g => g) fun y o _ g => by simp only [rng] at g; rw [g.1]; exact ⟨by omega, hD⟩
  refine ⟨(X.heal h0 h2).mono fun y o _ g => ⟨g.1.1, g.1.2, fun e => g.2 ⟨e, g.1.1⟩⟩, fun y hy => ?_⟩
  obtain ⟨k', g1, g2⟩ := h.cnt y hy.1
  exact ⟨k', g1, x.rd g2 fun g => hy.2 (by simp only [rng] at g; exact g.1)⟩
/-- A whole tree, but for the subtree at b: put in another one, whose length is off by δ, and it is a tree again. -/
def Hole (E : Enc α) (iso : Int) (mn mx H lo0 root : Nat) (F : Nat → Nat → Prop) (S : Nat) (w : World) (h lo b : Nat) (ys : List α) (Fb : Nat → Nat → Prop) (A C : List α) (δ : Int) : Prop :=
  ∀ (w2 : World) (ys' : List α) (Fb' : Nat → Nat → Prop), Ext Fb w w2 → Tr E iso mn mx h w2 lo b ys' Fb' → (∀ y o, Fb' y o → Fb y o ∨ w.heap.size ≤ y) → (ys'.length : Int) = ys.length + δ →
    ∃ F', Tr E iso mn mx H w2 lo0 root (A ++ ys' ++ C) F' ∧ ∀ y o, F' y o → F y o ∨ S ≤ y
theorem Hole.root {w : World} {h lo b S : Nat} {ys : List α} {F : Nat → Nat → Prop} {δ : Int} (hS : S ≤ w.heap.size) : Hole E iso mn mx h lo b F S w h lo b ys F [] [] δ :=
  fun w2 ys' Fb' _ ht hF _ => ⟨Fb', by simpa using ht, fun y o g => (hF y o g).imp id fun g => by omega⟩
theorem Hole.ro {H lo0 root S h lo b : Nat} {F Fb : Nat → Nat → Prop} {w w1 : World} {ys A C : List α} {δ : Int} (k : Hole E iso mn mx H lo0 root F S w h lo b ys Fb A C δ) (r : RO w w1) : Hole E iso mn mx H lo0 root F S w1 h lo b ys Fb A C δ := by
  intro w2 ys' Fb' x ht hF hl
  have hs : w1.heap.size = w.heap.size := by obtain ⟨n, rfl⟩ := r; rfl
  exact k w2 ys' Fb' (r.ext.tr x) ht (fun y o g => (hF y o g).imp id fun g => by omega) hl
/-- The hole goes down one level. -/
theorem Hole.down {H lo0 root S h lo b : Nat} {F Fb : Nat → Nat → Prop} {w w1 : World} {ys A C : List α} {δ : Int} (k : Hole E iso mn mx H lo0 root F S w (h + 1) lo b ys Fb A C δ)
    {bi oi cap : Nat} {ks : List α} {bc ba oa capc : Nat} {cs : List (Kid α)} (n : Inn E iso mn mx h w b ys Fb bi oi cap ks bc ba oa capc cs) (ho : Own E w b iso ys.length bi oi cap ks (ptr bc)) (h1 : lo ≤ ks.length) (h2 : ks.length ≤ mx)
    (x : Ext (rng b 1 1) w w1) (hc1 : rd w1 b 1 = some (.int .i64 (ys.length + δ))) {i : Nat} {c : Kid α} (hc : cs[i]? = some c) {A' C' : List α} (hw : WAt (cs.map Kid.xs) ks i A' C') :
    Hole E iso mn mx H lo0 root F S w1 h mn c.b c.xs c.F (A ++ A') (C' ++ C) δ := by
  intro w2 ys' Fb' x2 ht hF hl
  have hcm := List.mem_of_getElem? hc
  have hcx : (cs.map Kid.xs)[i]? = some c.xs := by rw [List.getElem?_map, hc]; rfl
  have hil := (List.getElem?_eq_some_iff.1 hc).1
  have s1 : w.heap.size ≤ w1.heap.size := x.size
  have hbw := wok_lt ho.wb
  have hbiw := wok_lt ho.wi
  have hcb : ∀ o, ¬ c.F b o := fun o g => n.ap.own c hcm _ _ g (.inl rfl)
  have hi1 : ∀ y o, c.F y o → ¬ ownF E b bi oi cap y o := fun y o g => n.ap.own c hcm y o g
  have n1 : Inn E iso mn mx h w1 b ys Fb bi oi cap ks bc ba oa capc cs := n.ext x (fun y o g hr => by
      simp only [rng] at hr
      rcases g with g | g
      · exact n.ap.cb (by omega)
      · exact n.ap.ab (by simp only [rng] at g; omega)) fun d hd y o g hr => by
    simp only [rng] at hr
    exact n.ap.own d hd y o g (.inl hr.1)
  have n2 := n1.child (c' := ⟨c.b, ys', Fb'⟩) hc x2 rfl ht hF (by omega) (by omega)
  have e1 := hw.eq hcx
  have e2 : weave ((cs.map Kid.xs).set i ys') ks = A' ++ ys' ++ C' := by
    exact hw.set ys'
  have hln : (((weave ((cs.map Kid.xs).set i ys') ks).length : Nat) : Int) = ys.length + δ := by
    rw [e2, n.eq, e1]
    simp only [List.length_append, Int.natCast_add]
    omega
  have ho2 : Own E w2 b iso ((weave ((cs.map Kid.xs).set i ys') ks).length : Nat) bi oi cap ks (ptr bc) := by
    have hr : ∀ o, o ≠ 1 → ¬ rng b 1 1 b o := fun o h g => by simp only [rng] at g; omega
    have q0 := x2.rd (x.rd ho.h0 (hr 0 (by decide))) (hcb 0)
    have q1 := x2.rd hc1 (hcb 1)
    have q2 := x2.rd (x.rd ho.h2 (hr 2 (by decide))) (hcb 2)
    have q3 := x2.rd (x.rd ho.h3 (hr 3 (by decide))) (hcb 3)
    rw [← hln] at q1
    exact ⟨q0, q1, q2, q3, x2.wok (x.wok ho.wb), x2.row (x.row ho.row fun j _ g => by simp only [rng] at g; have := ho.ne; omega) fun j hj g => hi1 _ _ g (.inr ⟨rfl, by omega, by rw [flat_length] at hj; have := Nat.mul_le_mul_right E.sz ho.le; omega⟩),
      x2.wok (x.wok ho.wi), ho.le, ho.ne⟩
  have htr := n2.tr (lo := lo) ho2 h1 h2
  have key := k w2 _ _ ?_ htr ?_ hln
  · obtain ⟨F', g1, g2⟩ := key
    refine ⟨F', ?_, g2⟩
    rw [e2] at g1
    simpa [List.append_assoc] using g1
  · refine (x.mono fun y o _ g => ?_).trans x2 (fun _ _ g => g) fun y o _ g => (n.fp y o).2 (.inr (.inr ⟨c, hcm, g⟩))
    simp only [rng] at g; rw [g.1]; exact (n.fp _ _).2 (.inl (.inl rfl))
  · intro y o g
    rcases g with g | g | ⟨d, hd, g⟩
    · exact .inl ((n.fp y o).2 (.inl g))
    · exact .inl ((n.fp y o).2 (.inr (.inl g)))
    · rw [List.set_eq_take_append_cons_drop, if_pos hil] at hd
      rcases List.mem_append.1 hd with hd | hd
      · exact .inl ((n.fp y o).2 (.inr (.inr ⟨d, List.mem_of_mem_take hd, g⟩)))
      · rcases List.mem_cons.1 hd with rfl | hd
        · rcases hF y o g with g | g
          · exact .inl ((n.fp y o).2 (.inr (.inr ⟨c, hcm, g⟩)))
          · exact .inr (by omega)
        · exact .inl ((n.fp y o).2 (.inr (.inr ⟨d, List.mem_of_mem_drop hd, g⟩)))
end Go.Proofs.Ytjaolgehpnmieaa
/-
  Setting in ascending order. No condition.
-/
set_option linter.unusedSimpArgs false
set_option linter.unusedVariables false
namespace Go.Proofs.Ytjaolgehpnmieaa
open Go Go.Proofs
section
variable {α R : Type} (O : SOrd R) (κ : α → R)
theorem put_last {x : α} {xs : List α} (h : ∀ y ∈ xs, O.lt (κ y) (κ x) = true) : put O κ x xs = xs ++ [x] ∧ hit O κ (κ x) xs = false ∧ at? O κ (κ x) xs = none := by
  have hl : lb O κ (κ x) xs = xs.length := by have := lb_append_of_lt O κ (q := κ x) (xs := xs) [] h; simpa [lb] using this
  have hh : hit O κ (κ x) xs = false := by unfold hit; rw [hl, List.getElem?_eq_none (Nat.le_refl _)]
  refine ⟨?_, hh, ?_⟩
  · unfold put; rw [hh, hl]; simp
  · unfold at?; rw [hh]; rfl
theorem all_lt {x y : α} {xs ys A : List α} (ha : Asc O κ xs) (hx : xs = A ++ ys) (hy : ys[ys.length - 1]? = some y) (h : O.lt (κ y) (κ x) = true) : ∀ z ∈ xs, O.lt (κ z) (κ x) = true := by
  have hne : ys ≠ [] := fun h => by rw [h] at hy; simp at hy
  have e : ys = ys.dropLast ++ [y] := by
    rw [← List.getLast?_eq_getElem?] at hy
    rw [List.getLast?_eq_some_getLast hne, Option.some.injEq] at hy
    rw [← hy]
    exact (List.dropLast_concat_getLast hne).symm
  rw [hx, e, ← List.append_assoc]
  refine asc_left O κ ?_ h
  rw [hx, e, ← List.append_assoc] at ha
  exact ha
end
theorem put_nil1 (x : It) : put O κ x [] = [x] := rfl
/-- Setting in whatever map. -/
theorem set_map (m d : Nat) (iso : Int) (x : It) (hd : 2 ≤ d) (hd' : d ≤ 128) (xs : List It) (F : Nat → Nat → Prop) (w : World) (hM : MapAt w m d iso xs F) (hbig : xs.length < 1152921504606846976) :
    CallK Try.prog 57 #[ptr m, kV x.1, vV x] w fun v w' => v = .tuple #[vV ((at? O κ (κ x) xs).getD zIt), .bool (hit O κ (κ x) xs)] ∧ Ext (mapF m F) w w' ∧
      ∃ F', MapAt w' m d iso (put O κ x xs) F' ∧ ∀ y o, F' y o → F y o ∨ w.heap.size ≤ y := by
  rcases hM.root with ⟨rfl, hr⟩ | ⟨h, b, hr, ht⟩
  · refine CallK_mono (set_nil m d iso x hd hd' w hM.cfg hr) ?_
    rintro v w' ⟨rfl, hX, F', hM', hF'⟩
    exact ⟨rfl, hX.mono fun y o _ g => g.imp (fun g => g.elim) id, F', by rw [put_nil1]; exact hM', fun y o g => .inr (hF' y o g)⟩
  · exact set_root m d iso x hd hd' _ h b xs F w rfl hM.cfg hM.cnt hM.asc hr ht hM.off hbig
def lastSel (n : Nat) : Nat := n - 1
theorem lastSel_lt (n : Nat) (h : 0 < n) : lastSel n < n := by unfold lastSel; omega
set_option maxHeartbeats 2000000 in
set_option maxRecDepth 8000 in
theorem load_map (m d : Nat) (iso : Int) (x : It) (hd : 2 ≤ d) (hd' : d ≤ 128) (xs : List It) (F : Nat → Nat → Prop) (w00 : World) (hM : MapAt w00 m d iso xs F) (hbig : xs.length < 1152921504606846976) :
    CallK Try.prog 48 #[ptr m, kV x.1, vV x] w00 (RootQ m d iso x xs F w00) := by
  suffices HS : ∀ R : Value → World → Prop, (∀ v w', RootQ m d iso x xs F w00 v w' → R v w') → CallK Try.prog 48 #[ptr m, kV x.1, vV x] w00 R from HS _ fun _ _ h => h
  intro R hR
  have hml0 := hM.mlt
  refine calls_of_W [.cell 6 74, .tmp 7] Try.func48 rfl Try.ntmps48 Try.results48 (by simp) fun e he => ?_
  have e0 : e 0 = ptr m := he 0 _ rfl
  have e1 : e 1 = kV x.1 := he 1 _ rfl
  have e2 : e 2 = .agg #[] := he 2 _ rfl
  clear he
  refine W_sq fun K0 hK => (W_text [false, false, true] (by kernel_rfl) ?_); simp only [↓List.toList_toArray, ↓rgd, ↓rgf, ↓reduceIte, Nat.reduceEqDiff, rg, ow_48]
  refine do_box (by simp only [evt]; exact e2) fun wa na => ⟨trivial, ?_⟩
  simp only [↓List.toList_toArray, ↓rgd, ↓rgf, ↓reduceIte, Nat.reduceEqDiff, rg, ow_48]
  refine do_alloc z_unit fun w nb => ⟨trivial, ?_⟩
  simp only [↓List.toList_toArray, ↓rgd, ↓rgf, ↓reduceIte, Nat.reduceEqDiff, rg, ow_48]
  refine hK _ _ ?_; clear hK K0
  have Xb : Ext noF w00 w := na.ext.tr nb.ext
  have sa := na.size
  have sb := nb.size
  obtain ⟨q, hq⟩ : ∃ q, q = wa.heap.size := ⟨_, rfl⟩
  have wqb : wok w q 0 := by rw [hq]; exact nb.wok
  have hqF : ∀ o, ¬ F q o := fun o g => by have := hM.lt _ _ g; omega
  rw [← hq]
  have hqw : q < w.heap.size := by omega
  have hqm : q ≠ m := by omega
  replace hR : ∀ v w', RootQ m d iso x xs F w v w' → R v w' := fun v w' ⟨h1, h2, F', h3, h4⟩ => hR v w' ⟨h1, Xb.trans h2 (fun _ _ g => g.elim) (fun _ _ _ g => g), F', h3, fun y o g => (h4 y o g).imp id fun g => by omega⟩
  replace hM := hM.ext Xb
  have hml := hM.mlt
  clear Xb na nb sa sb hq hml0
  refine W_sq fun K0 hK => (W_text [true, true, true, false, false] (by kernel_rfl) ?_); simp only [↓List.toList_toArray, ↓rgd, ↓rgf, ↓reduceIte, Nat.reduceEqDiff, rg, ow_48, e1, e2, bu_it x.1 x.2]
  refine do_alloc z_it fun w1 n1 => ⟨trivial, ?_⟩
  simp only [↓List.toList_toArray, ↓rgd, ↓rgf, ↓reduceIte, Nat.reduceEqDiff, rg, ow_48]
  refine do_store (by simp only [evt, evc, upd_eq, Nat.reduceEqDiff, ↓reduceIte, ntT, ntF] <;> rfl) (by simp only [evt, evc, upd_eq, Nat.reduceEqDiff, ↓reduceIte, ntT, ntF] <;> rfl) sz_76 (itV_len x) n1.wok (by decide) (itV_oc x) fun w2 x2 r2 s2 => ⟨trivial, ?_⟩
  simp only [↓List.toList_toArray, ↓rgd, ↓rgf, ↓reduceIte, Nat.reduceEqDiff, rg, ow_48]
  refine hK _ _ ?_; clear hK K0
  have s1 := n1.size
  have s2' : w2.heap.size = w.heap.size + 1 := by omega
  have X2 : Ext noF w w2 := noF_of n1.ext x2 fun y o hy h => by simp only [rng] at h; omega
  have rx : Row w2 w.heap.size 0 (E.cel x) := r2
  have hM2 := hM.ext X2
  have hFlt := hM.lt
  obtain ⟨B, hB⟩ : ∃ B, B = w.heap.size := ⟨_, rfl⟩
  rw [← hB] at rx s2' ⊢
  replace hR : ∀ v w', v = .tuple #[vV ((at? O κ (κ x) xs).getD zIt), .bool (hit O κ (κ x) xs)] ∧ Ext (mapF m F) w w' ∧ (∃ F', MapAt w' m d iso (put O κ x xs) F' ∧ ∀ y o, F' y o → F y o ∨ B ≤ y) → R v w' := fun v w' ⟨h1, h2, F', h3, h4⟩ => hR v w' ⟨h1, h2, F', h3, fun y o g => by rw [← hB]; exact h4 y o g⟩
  have hqB : q < B := by omega
  have wx2 : wok w2 B 1 := by rw [hB]; exact x2.wok n1.wok
  have wq2 : wok w2 q 0 := X2.wok wqb
  have tyB := wok.ty tyP wx2
  have rxk : rd w2 B 0 = some (kV x.1) := kV_at rx
  refine W_seq ?_
  rcases hM2.root with ⟨rfl, hr⟩ | ⟨h, b, hr, ht⟩
  · refine W_sq fun K0 hK => (W_text [true, true, true, true, true] (by kernel_rfl) ?_); simp only [↓List.toList_toArray, ↓rgd, ↓rgf, ↓reduceIte, Nat.reduceEqDiff, rg, ow_48, e0, ptr_eq, hr]
    refine hK _ _ ?_; clear hK K0
    refine W_true (by simp only [evt, evc, upd_eq, Nat.reduceEqDiff, ↓reduceIte, ntT, ntF] <;> rfl) ?_
    refine W_sq fun K0 hK => (W_text [true, true, true, true, true, false, true, true, false, true] (by kernel_rfl) ?_); simp only [↓List.toList_toArray, ↓rgd, ↓rgf, ↓reduceIte, Nat.reduceEqDiff, rg, ow_48, e0, tyB, rxk]
    refine do_call fn_57 (by simp only [evt, evc, upd_eq, Nat.reduceEqDiff, ↓reduceIte, maT, maC, maN, isnN, isnS] <;> rfl) (set_map m d iso x hd hd' _ F w2 hM2 hbig) ?_
    rintro _ w3 ⟨rfl, x3, F', hM3, hF'⟩
    refine ⟨trivial, ?_⟩
    simp only [↓List.toList_toArray, ↓rgd, ↓rgf, ↓reduceIte, Nat.reduceEqDiff, rg, ow_48]
    refine do_store (by simp only [evt, evc, upd_eq, Nat.reduceEqDiff, ↓reduceIte, ntT, ntF] <;> rfl) (by simp only [evt, evc, upd_eq, Nat.reduceEqDiff, ↓reduceIte, ntT, ntF] <;> rfl) sz_74 rfl (x3.wok wq2) (by decide) (fun _ h => by cases h) fun w4 x4 r4 s4 => ⟨trivial, ?_⟩
    simp only [↓List.toList_toArray, ↓rgd, ↓rgf, ↓reduceIte, Nat.reduceEqDiff, rg, ow_48]
    refine hK _ _ ?_; clear hK K0
    refine W_ret ?_
    simp only [andThen_ret]
    refine endQ_ct (by simp only [upd_eq, Nat.reduceEqDiff, ↓reduceIte] <;> rfl) (by simp only [upd_eq, Nat.reduceEqDiff, ↓reduceIte] <;> rfl) ld_74 ld_unit (hR _ _ ⟨rfl, ((X2.mono fun _ _ _ h => h.elim).tr x3).trans x4 (fun _ _ g => g) fun y o _ k => by simp only [rng] at k; omega, F', hM3.extG x4 (fun y o _ k => by simp only [rng] at k; omega) fun o k => by simp only [rng] at k; omega, fun y o g => (hF' y o g).imp id fun g => by omega⟩)
  · refine W_sq fun K0 hK => (W_text [true, true, true, true, true] (by kernel_rfl) ?_); simp only [↓List.toList_toArray, ↓rgd, ↓rgf, ↓reduceIte, Nat.reduceEqDiff, rg, ow_48, e0, ptr_eq, hr]
    refine hK _ _ ?_; clear hK K0
    refine W_false (by simp only [evt, evc, upd_eq, Nat.reduceEqDiff, ↓reduceIte, ntT, ntF] <;> rfl) (W_skip ?_)
    show W _ _ _ _ _ _
    refine W_sq fun K0 hK => (W_text [true, true, true, true, false, true] (by kernel_rfl) ?_); simp only [↓List.toList_toArray, ↓rgd, ↓rgf, ↓reduceIte, Nat.reduceEqDiff, rg, ow_48, e0, ptr_eq]
    refine do_call fn_62 (by simp only [evt, evc, upd_eq, Nat.reduceEqDiff, ↓reduceIte, maT, maC, maN, isnN, isnS] <;> rfl) (isoLoad_any m m 2 b true iso w2 hM2.cfg.iso hr ht.iso0.1) ?_
    rintro _ w3 ⟨rfl, r3⟩
    refine ⟨trivial, ?_⟩
    simp only [↓List.toList_toArray, ↓rgd, ↓rgf, ↓reduceIte, Nat.reduceEqDiff, rg, ow_48]
    refine hK _ _ ?_; clear hK K0
    have X3 : Ext noF w w3 := X2.tr r3.ext
    have s3 : w3.heap.size = B + 1 := by obtain ⟨n, rfl⟩ := r3; exact s2'
    replace rx : Row w3 B 0 (E.cel x) := r3.ext.row (F := noF) rx fun _ _ h => h
    replace hM := hM.ext X3
    replace hr : rd w3 m 2 = some (ptr b) := r3.ext.rd (F := noF) hr fun h => h
    replace ht := ht.ext (r3.ext (F := noF)) fun _ _ _ h => h
    have wq3 : wok w3 q 0 := X3.wok wqb
    have wx3 : wok w3 B 1 := r3.ext.wok (F := noF) wx2
    clear hM2 tyB rxk X2 x2 r2 r3 n1 s2 s1
    obtain ⟨root, hroot⟩ : ∃ root, root = b := ⟨_, rfl⟩
    rw [← hroot] at hr
    have mS : ∀ y o, F y o → y ≠ m := fun y o g h => hM.off o (h ▸ g)
    refine W_sqx fun K hK => ?_
    have hrest : ∀ (e' : Env) (w' : World) (D : Nat → Prop), Shift 1 w3 w' D → (∀ y, RS lastSel w3 h b y ↔ D y) → e' 0 = ptr m → e' 6 = .pointer (some ⟨q, 0, none⟩) → e' 8 = ptr B → K e' w' := by
      intro e w' D sh hD e0 e6 e8
      refine hK _ _ ?_; clear hK K
      have hr' := sh.ext.rd hr (fun g => by omega)
      refine W_sq fun K0 hK => (W_text [true, true, true, true, true] (by kernel_rfl) ?_); simp only [↓List.toList_toArray, ↓rgd, ↓rgf, ↓reduceIte, Nat.reduceEqDiff, rg, ow_48, e0, ptr_eq, hr']
      refine hK _ _ ?_; clear hK K0
      refine W_sqx fun K hK => ?_
      have hend : ∀ (e' : Env) (w' : World), Ext noF w3 w' → e' 0 = ptr m → e' 6 = .pointer (some ⟨q, 0, none⟩) → e' 8 = ptr B → K e' w' := by
        intro e w' X e0 e6 e8
        refine hK _ _ ?_; clear hK K
        have v0 := wok.ty tyP (X.wok wx3)
        have v1 : rd w' B 0 = some (kV x.1) := X.rd (kV_at rx) fun h => h
        refine W_sq fun K0 hK => (W_text [true, true, true, true, true, false, true, true, false, true] (by kernel_rfl) ?_); simp only [↓List.toList_toArray, ↓rgd, ↓rgf, ↓reduceIte, Nat.reduceEqDiff, rg, ow_48, e0, e8, ptr_eq, v0, v1]
        refine do_call fn_57 (by simp only [evt, evc, upd_eq, Nat.reduceEqDiff, ↓reduceIte, maT, maC, maN, isnN, isnS] <;> rfl) (set_map m d iso x hd hd' xs F w' (hM.ext X) hbig) ?_
        rintro _ w4 ⟨rfl, x4, F', hM4, hF'⟩
        refine ⟨trivial, ?_⟩
        simp only [↓List.toList_toArray, ↓rgd, ↓rgf, ↓reduceIte, Nat.reduceEqDiff, rg, ow_48]
        refine do_store (b := q) (o := 0) (by simp only [evt, upd_eq, Nat.reduceEqDiff, ↓reduceIte]; exact e6) (by simp only [evt, evc, upd_eq, Nat.reduceEqDiff, ↓reduceIte, ntT, ntF] <;> rfl) sz_74 rfl (x4.wok (X.wok wq3)) (by decide) (fun _ h => by cases h) fun w5 x5 r5 s5 => ⟨trivial, ?_⟩
        simp only [↓List.toList_toArray, ↓rgd, ↓rgf, ↓reduceIte, Nat.reduceEqDiff, rg, ow_48]
        refine hK _ _ ?_; clear hK K0
        have sX := X.size
        refine W_ret ?_
        refine endQ_ct (by simp only [upd_eq, Nat.reduceEqDiff, ↓reduceIte]; exact e6) (by simp only [upd_eq, Nat.reduceEqDiff, ↓reduceIte] <;> rfl) ld_74 ld_unit (hR _ _ ⟨rfl, (((X3.tr X).mono fun _ _ _ h => h.elim).tr x4).trans x5 (fun _ _ g => g) fun y o _ k => by simp only [rng] at k; omega, F', hM4.extG x5 (fun y o _ k => by simp only [rng] at k; omega) fun o k => by simp only [rng] at k; omega, fun y o g => (hF' y o g).imp id fun g => by omega⟩)
      clear hK
      refine W_block (W_loop (fun mm e w' => ∃ (lo b : Nat) (ys : List It) (F : Nat → Nat → Prop) (D : Nat → Prop), Tr E iso (d - 1) (2 * d - 1) mm w3 lo b ys F ∧ Shift 1 w3 w' D ∧ (∀ y, RS lastSel w3 mm b y ↔ D y) ∧ ys.length ≤ xs.length ∧ e 0 = ptr m ∧ e 6 = .pointer (some ⟨q, 0, none⟩) ∧ e 8 = ptr B ∧ e 9 = ptr b)
        h ⟨1, b, xs, F, D, ht, sh, hD, Nat.le_refl _, ?_, ?_, ?_, ?_⟩ ?_)
      · simp only [upd_eq, Nat.reduceEqDiff, ↓reduceIte]; exact e0
      · simp only [upd_eq, Nat.reduceEqDiff, ↓reduceIte]; exact e6
      · simp only [upd_eq, Nat.reduceEqDiff, ↓reduceIte]; exact e8
      · simp only [upd_eq, Nat.reduceEqDiff, ↓reduceIte]; rw [hroot]; rfl
      clear sh hD e0 e6 e8 hr' D e w' ht
      rintro mm e w' ⟨lo, b, ys, F', D, ht, sh, hD, hle, e0, e6, e8, e9⟩
      obtain ⟨bi, oi, cap, ks, ch, ho, h1, h2, _, hin⟩ := ht.open
      have hDb : D b := (hD b).1 (by cases mm <;> simp [RS])
      obtain ⟨k, k1, k2⟩ := sh.cnt b hDb
      rw [ho.h1, Option.some.injEq, Value.int.injEq] at k1
      obtain ⟨-, rfl⟩ := k1
      have q1 : IntKind.i64.wrap ((ys.length : Int) + 1 - 1) = ys.length := by rw [IntWalk.i64_in _ (by omega)]; omega
      refine W_block ?_
      refine W_sq fun K0 hK => (W_text [true, true, true, true, true, true, true, false] (by kernel_rfl) ?_); simp only [↓List.toList_toArray, ↓rgd, ↓rgf, ↓reduceIte, Nat.reduceEqDiff, rg, ow_48, e9, ptr_eq, k2, q1]
      refine do_store (by simp only [evt, evc, upd_eq, Nat.reduceEqDiff, ↓reduceIte, ntT, ntF] <;> rfl) (by simp only [evt, evc, upd_eq, Nat.reduceEqDiff, ↓reduceIte, ntT, ntF] <;> rfl) sz_3 rfl (sh.ext.wok ho.wb) (by decide) (oc_one rfl rfl) fun w4 x4 r4 s4 => ⟨trivial, ?_⟩
      simp only [↓List.toList_toArray, ↓rgd, ↓rgf, ↓reduceIte, Nat.reduceEqDiff, rg, ow_48]
      refine hK _ _ ?_; clear hK K0
      have sh4 := sh.undo hDb ho.h1 x4 (Row.cons.1 r4).1
      have b3 := sh4.ext.rd ho.h3 (fun g => by omega)
      refine W_seq ?_
      rcases hin with ⟨rfl, rfl, rfl, hF⟩ | ⟨h', bc, ba, oa, capc, cs, rfl, rfl, n⟩
      · refine W_sq fun K0 hK => (W_text [true, false] (by kernel_rfl) ?_); simp only [↓List.toList_toArray, ↓rgd, ↓rgf, ↓reduceIte, Nat.reduceEqDiff, rg, ow_48, e9]
        refine do_call fn_63 (by simp only [evt, evc, upd_eq, Nat.reduceEqDiff, ↓reduceIte, maT, maC, maN, isnN, isnS] <;> rfl) (leaf_any b none w4 b3) ?_
        rintro _ w4 ⟨rfl, rfl⟩
        refine ⟨trivial, ?_⟩
        simp only [↓List.toList_toArray, ↓rgd, ↓rgf, ↓reduceIte, Nat.reduceEqDiff, rg, ow_48]
        refine hK _ _ ?_; clear hK K0
        refine W_true (by simp only [evt, evc, upd_eq, Nat.reduceEqDiff, ↓reduceIte, ntT, ntF] <;> rfl) (W_exit ?_)
        simp only [andThen_exit, inBlk_exit, andThen_normal, Nat.reduceEqDiff, ↓reduceIte]
        refine hend _ _ (sh4.ext.mono fun y o _ g => g.2.2 ((hD y).2 g.2.1)) ?_ ?_ ?_
        · simp only [upd_eq, Nat.reduceEqDiff, ↓reduceIte]; exact e0
        · simp only [upd_eq, Nat.reduceEqDiff, ↓reduceIte]; exact e6
        · simp only [upd_eq, Nat.reduceEqDiff, ↓reduceIte]; exact e8
      · refine W_sq fun K0 hK => (W_text [true, false] (by kernel_rfl) ?_); simp only [↓List.toList_toArray, ↓rgd, ↓rgf, ↓reduceIte, Nat.reduceEqDiff, rg, ow_48, e9]
        refine do_call fn_63 (by simp only [evt, evc, upd_eq, Nat.reduceEqDiff, ↓reduceIte, maT, maC, maN, isnN, isnS] <;> rfl) (leaf_any b (some ⟨bc, 0, none⟩) w4 b3) ?_
        rintro _ w4 ⟨rfl, rfl⟩
        refine ⟨trivial, ?_⟩
        simp only [↓List.toList_toArray, ↓rgd, ↓rgf, ↓reduceIte, Nat.reduceEqDiff, rg, ow_48]
        refine hK _ _ ?_; clear hK K0
        refine W_false (by simp only [evt, evc, upd_eq, Nat.reduceEqDiff, ↓reduceIte, ntT, ntF] <;> rfl) (W_skip ?_)
        show W _ _ _ _ _ _
        have hcl : lastSel cs.length < cs.length := lastSel_lt _ (by have := n.len; omega)
        obtain ⟨c, hc⟩ : ∃ c, cs[lastSel cs.length]? = some c := ⟨_, List.getElem?_eq_getElem hcl⟩
        have hcm : c ∈ cs := List.mem_of_getElem? hc
        have htc := n.sub c hcm
        have hcD : ∀ y, (D y ∧ y ≠ b) ↔ RS lastSel w3 h' c.b y := by
          intro y
          rw [← hD y, n.rs ho.h3 hc y]
          refine ⟨fun g => g.1.resolve_left g.2, fun g => ⟨.inr g, fun hb => ?_⟩⟩
          rw [hb] at g
          exact n.ap.own c hcm b 0 (RS.sub lastSel_lt htc b g 0) (.inl rfl)
        have k4 := n.kids.ext sh4.ext fun y o g hh => n.ap.kid c hcm y o (RS.sub lastSel_lt htc y ((hcD y).1 hh.2) o) g
        have hc0 := k4.c0
        rw [List.length_map] at hc0
        have hcr : rd w4 ba (oa + (cs.length - 1)) = some (ptr c.b) := ptr_at k4.row (by rw [List.getElem?_map]; exact congrArg _ hc)
        have q2 := wsub1 cs.length (by omega) (by have := n.len; omega)
        have hlc : cs.length - 1 < cs.length := hcl
        refine W_rg fun K0 hK => (W_draw (some none) none [(0, 0, 0), (0, 1, 0), (0, 2, 0), (0, 3, 0), (0, 4, 0), (0, 5, 0), (0, 6, 0), (0, 7, 0), (0, 8, 0), (0, 9, 0), (0, 10, 0), (0, 11, 0), (0, 12, 0), (0, 13, 0), (0, 14, 0), (0, 15, 0), (0, 16, 0)] mixed (by kernel_rfl) ?_); simp only [↓List.toList_toArray, ↓rgd, ↓rgf, ↓reduceIte, Nat.reduceEqDiff, rg, ow_48, e9, ptr_eq, b3, hc0, q2, hlc, hcr]
        refine hK _ _ ?_; clear hK K0
        have hlen : c.xs.length ≤ ys.length := by rw [n.eq]; exact weave_mem_length _ _ (by simpa using n.len) _ (List.mem_map_of_mem hcm)
        refine ⟨h', by omega, d - 1, c.b, c.xs, c.F, _, htc, sh4.ro (RO.dr _ _), fun y => (hcD y).symm, by omega, ?_, ?_, ?_, ?_⟩
        · simp only [upd_eq, Nat.reduceEqDiff, ↓reduceIte]; exact e0
        · simp only [upd_eq, Nat.reduceEqDiff, ↓reduceIte]; exact e6
        · simp only [upd_eq, Nat.reduceEqDiff, ↓reduceIte]; exact e8
        · simp only [upd_eq, Nat.reduceEqDiff, ↓reduceIte]; rfl
    clear hK
    refine W_block (W_loop (fun mm e w' => ∃ (lo b' : Nat) (ys : List It) (Fb : Nat → Nat → Prop) (A : List It) (D : Nat → Prop), Tr E iso (d - 1) (2 * d - 1) mm w3 lo b' ys Fb ∧ 1 ≤ lo ∧ Shift 1 w3 w' D ∧ (∀ y, RS lastSel w3 h b y ↔ D y ∨ RS lastSel w3 mm b' y) ∧ (∀ y, D y → ∀ o, ¬ Fb y o) ∧ (∀ y, D y → ∀ o, F y o) ∧ xs = A ++ ys ∧
        Hole E iso (d - 1) (2 * d - 1) h 1 b F w3.heap.size w' mm lo b' ys Fb A [] 1 ∧ (∀ y o, Fb y o → F y o) ∧ e 0 = ptr m ∧ e 6 = .pointer (some ⟨q, 0, none⟩) ∧ e 8 = ptr B ∧ e 9 = ptr b')
        h ⟨1, b, xs, F, [], fun _ => False, ht, Nat.le_refl _, Shift.nil _ _, fun y => by simp, fun _ h => h.elim, fun _ h => h.elim, rfl, Hole.root (Nat.le_refl _), fun _ _ g => g, ?_, ?_, ?_, ?_⟩ ?_)
    · simp only [upd_eq, Nat.reduceEqDiff, ↓reduceIte]; exact e0
    · simp only [upd_eq, Nat.reduceEqDiff, ↓reduceIte]
    · simp only [upd_eq, Nat.reduceEqDiff, ↓reduceIte]; rfl
    · simp only [upd_eq, Nat.reduceEqDiff, ↓reduceIte]
    clear e0 e1 e2 e
    rintro mm e w' ⟨lo, b', ys, Fb, A, D, htb, hlo, sh, hD, hDF, hDD, hxs, hole, hsub, e0, e6, e8, e9⟩
    obtain ⟨bi, oi, cap, ks, ch, ho, h1, h2, hoF, hin⟩ := htb.open
    have hyx : ys.length ≤ xs.length := by rw [hxs]; simp
    have hDb : ¬ D b' := fun g => hDF b' g 0 (htb.self 0)
    have q1 := wadd1 ys.length (by omega)
    have c1 := sh.ext.rd ho.h1 (fun g => hDb g.2)
    refine W_block ?_
    refine W_sq fun K0 hK => (W_text [true, true, true, true, true, true, true, false] (by kernel_rfl) ?_); simp only [↓List.toList_toArray, ↓rgd, ↓rgf, ↓reduceIte, Nat.reduceEqDiff, rg, ow_48, e9, ptr_eq, c1, q1]
    refine do_store (by simp only [evt, evc, upd_eq, Nat.reduceEqDiff, ↓reduceIte, ntT, ntF] <;> rfl) (by simp only [evt, evc, upd_eq, Nat.reduceEqDiff, ↓reduceIte, ntT, ntF] <;> rfl) sz_3 rfl (sh.ext.wok ho.wb) (by decide) (oc_one rfl rfl) fun w4 x4 r4 s4 => ⟨trivial, ?_⟩
    simp only [↓List.toList_toArray, ↓rgd, ↓rgf, ↓reduceIte, Nat.reduceEqDiff, rg, ow_48]
    refine hK _ _ ?_; clear hK K0
    have b1 : rd w4 b' 1 = some (.int .i64 (ys.length + 1 : Int)) := (Row.cons.1 r4).1
    have sh4 := sh.add hDb ho.h1 x4 b1
    have hFF : ∀ y o, (o = 1 ∧ (D y ∨ y = b')) → ∀ p, F y p := fun y o g p => g.2.elim (fun g => hDD y g p) fun g => by rw [g]; exact hsub _ _ (htb.self p)
    have hM4 : Cfg w4 m iso d := hM.cfg.ext sh4.ext fun o _ _ g => hM.off 0 (hFF _ _ g 0)
    have b3 := sh4.ext.rd ho.h3 (fun g => by omega)
    have b2 := sh4.ext.rd ho.h2 (fun g => by omega)
    refine W_seq ?_
    rcases hin with ⟨rfl, rfl, rfl, hF⟩ | ⟨h', bc, ba, oa, capc, cs, rfl, rfl, n⟩
    · refine W_sq fun K0 hK => (W_text [true, false] (by kernel_rfl) ?_); simp only [↓List.toList_toArray, ↓rgd, ↓rgf, ↓reduceIte, Nat.reduceEqDiff, rg, ow_48, e9]
      refine do_call fn_63 (by simp only [evt, evc, upd_eq, Nat.reduceEqDiff, ↓reduceIte, maT, maC, maN, isnN, isnS] <;> rfl) (leaf_any b' none w4 b3) ?_
      rintro _ w4 ⟨rfl, rfl⟩
      refine ⟨trivial, ?_⟩
      simp only [↓List.toList_toArray, ↓rgd, ↓rgf, ↓reduceIte, Nat.reduceEqDiff, rg, ow_48]
      refine hK _ _ ?_; clear hK K0
      refine W_true (by simp only [evt, evc, upd_eq, Nat.reduceEqDiff, ↓reduceIte, ntT, ntF] <;> rfl) ?_
      refine W_sqx fun K hK => ?_
      have hdown : ∀ (e' : Env) (w' : World), RO w4 w' → e' 0 = ptr m → e' 6 = .pointer (some ⟨q, 0, none⟩) → e' 8 = ptr B → K e' w' := by
        intro e' w5 r5 f0 f6 f8
        refine hK _ _ ?_; clear hK K
        refine W_exit ?_
        simp only [andThen_exit, inBlk_exit, andThen_normal, Nat.reduceEqDiff, ↓reduceIte]
        refine hrest _ _ _ (sh4.ro r5) (fun y => ?_) f0 f6 f8
        rw [hD y]; rfl
      have hmx := hM4.mx
      have o4 := ho.row
      have row4 : Row w4 bi oi (flat E ys) := sh4.ext.row ho.row fun j hj g => by
        rw [flat_length] at hj
        have hc := Nat.mul_le_mul_right E.sz ho.le
        rcases g.2 with g | g
        · exact hDF _ g (oi + j) (hoF _ _ (.inr ⟨rfl, by omega, by omega⟩))
        · exact ho.ne g
      by_cases hfull : ys.length < 2 * d - 1
      · have t1 : decide ((ys.length : Int) < ((2 * d - 1 : Nat) : Int)) = true := by simp; omega
        refine W_sq fun K0 hK => (W_draw (some none) none [(0, 0, 0), (0, 1, 0), (0, 2, 0), (0, 3, 0), (0, 4, 0), (0, 5, 0), (0, 6, 0), (0, 7, 0), (0, 8, 0), (0, 9, 0)] mixed (by kernel_rfl) ?_); simp only [↓List.toList_toArray, ↓rgd, ↓rgf, ↓reduceIte, Nat.reduceEqDiff, rg, ow_48, e0, e9, ptr_eq, b2, hmx, t1]
        refine hK _ _ ?_; clear hK K0
        refine W_true (by simp only [evt, evc, upd_eq, Nat.reduceEqDiff, ↓reduceIte, ntT, ntF] <;> rfl) ?_
        obtain ⟨y, hy⟩ : ∃ y, ys[ys.length - 1]? = some y := ⟨_, List.getElem?_eq_getElem (by omega)⟩
        have hyl : ys.length - 1 < ys.length := by omega
        have q2 := wsub1 ys.length (by omega) (by omega)
        have hyk : rd w4 bi (oi + (ys.length - 1)) = some (kV y.1) := key_at row4 hy
        have rx4 : Row w4 B 0 (E.cel x) := sh4.ext.row rx fun j _ g => by have := hFlt _ _ (hFF _ _ g 0); omega
        have rxk : rd w4 B 0 = some (kV x.1) := kV_at rx4
        by_cases hlt : y.1 < x.1
        · have t2 : decide (y.1 < x.1) = true := by simpa using hlt
          have t3 : binV Try.prog .lss 3 (kV y.1) (kV x.1) = some (.bool true) := by rw [kV_lt]; exact congrArg _ (congrArg _ t2)
          refine W_sq fun K0 hK => (W_draw (some none) none [(0, 0, 0), (0, 1, 0), (0, 2, 0), (0, 3, 0), (0, 4, 0), (0, 5, 0), (0, 6, 0), (0, 7, 0), (0, 8, 0), (0, 9, 0), (0, 10, 0), (0, 11, 0), (0, 12, 0), (0, 13, 0), (0, 14, 0), (0, 15, 0)] mixed (by kernel_rfl) ?_); simp only [↓List.toList_toArray, ↓rgd, ↓rgf, ↓reduceIte, Nat.reduceEqDiff, rg, ow_48, e8, e9, ptr_eq, b2, q2, hyl, hyk, rxk, t3]
          refine hK _ _ ?_; clear hK K0
          refine W_true (by simp only [evt, evc, upd_eq, Nat.reduceEqDiff, ↓reduceIte, ntT, ntF] <;> rfl) ?_
          have M1 : readsB (some (some [b', B])) b' = true := by simp [readsB]
          have M2 : readsB (some (some [b', B])) B = true := by simp [readsB]
          have ix := iA_at rx4
          refine W_sq fun K0 hK => (W_draw (some (some [b', B])) (some 10) [(0, 0, 0), (0, 1, 0), (0, 2, 0), (0, 3, 0), (0, 4, 0), (0, 5, 0), (1, 6, 0), (1, 7, 0), (0, 8, 0), (0, 9, 0), (1, 10, 0)] mixed (by kernel_rfl) ?_); simp only [↓List.toList_toArray, ↓rgd, ↓rgf, ↓reduceIte, Nat.reduceEqDiff, rg, ow_48, e8, e9, ptr_eq, b2, ix, M1, M2]
          have s4' : w4.heap.size = w'.heap.size := s4
          have hbw := x4.wok (sh.ext.wok ho.wb)
          have hbl := wok_lt hbw
          have hwi : wok w4 bi (oi + cap * 1) := sh4.ext.wok ho.wi
          have hbil := wok_lt hwi
          have hBl : B < w4.heap.size := by have := sh4.ext.size; omega
          have hBb : B ≠ b' := fun g => by have := hFlt _ _ (hsub _ _ (g ▸ htb.self 0)); omega
          have hBbi : B ≠ bi := fun g => by have := hFlt _ _ (hsub _ _ (hoF bi oi (.inr ⟨rfl, by omega, by rw [E_sz]; have := ho.le; omega⟩))); omega
          have hmb : m ≠ b' := fun g => hM.off 0 (hsub _ _ (g ▸ htb.self 0))
          have hcap := ho.le
          have hne := ho.ne
          refine do_bsl rfl (bs_it1 x) fun w6 n6 => ⟨.inr (keep2 n6.ext ⟨by simp only [sz_dr]; omega, fun _ h => h⟩ ⟨by simp only [sz_dr]; omega, fun _ h => h⟩), ?_⟩
          simp only [↓List.toList_toArray, ↓rgd, ↓rgf, ↓reduceIte, Nat.reduceEqDiff, rg, ow_48]
          have n6 := n6.od.od.od
          have s6 := n6.size
          have hsl : SlV w6 1 (.slice (some ⟨bi, oi, none⟩) ys.length cap) ys.length (flat E ys) := ⟨by rw [flat_length]; rfl, .inr ⟨bi, oi, cap, rfl, hcap, n6.ext.row row4 fun _ _ h => h, (n6.ext.wok hwi).R (Nat.le_refl _)⟩⟩
          have hz : SlV w6 1 (.slice (some ⟨w4.heap.size, 0, none⟩) 1 1) 1 (E.cel x) := ⟨rfl, .inr ⟨_, 0, 1, rfl, Nat.le_refl _, n6.row, n6.wok.R (Nat.le_refl _)⟩⟩
          refine do_append (by simp only [evt, evc, upd_eq, Nat.reduceEqDiff, ↓reduceIte, ntT, ntF] <;> rfl) (by simp only [evt, evc, upd_eq, Nat.reduceEqDiff, ↓reduceIte, ntT, ntF] <;> rfl) el_it rfl ni_93 hsl hz (by omega) (by decide) (E.one x) fun v7 w7 a7 => ?_
          obtain ⟨b2', o', cap', rfl, hcap', row7, wok7, x7, hcase⟩ := app_out a7 (n6.ext.wok hwi)
          refine ⟨.inr (keep2 x7 ⟨by omega, fun o h => by simp only [rng] at h; omega⟩ ⟨by omega, fun o h => by simp only [rng] at h; omega⟩), ?_⟩
          simp only [↓List.toList_toArray, ↓rgd, ↓rgf, ↓reduceIte, Nat.reduceEqDiff, rg, ow_48, ptr_eq]
          have s7 := x7.size
          have wb7 := x7.wok (n6.ext.wok hbw)
          refine do_store (by simp only [evt, evc, upd_eq, Nat.reduceEqDiff, ↓reduceIte, ntT, ntF] <;> rfl) (by simp only [evt, evc, upd_eq, Nat.reduceEqDiff, ↓reduceIte, ntT, ntF] <;> rfl) sz_93 rfl wb7 (by decide) (oc_one rfl rfl) fun w8 x8 r8 s8 => ⟨.inl trivial, ?_⟩
          simp only [↓List.toList_toArray, ↓rgd, ↓rgf, ↓reduceIte, Nat.reduceEqDiff, rg, ow_48]
          refine hK _ _ ?_; clear hK K0
          have hb2b : b2' ≠ b' := by omega
          have Y : Ext (fun y o => (rng bi (oi + ys.length) 1 y o ∧ ys.length + 1 ≤ cap) ∨ (y = b' ∧ (o = 1 ∨ o = 2))) w' w8 := by
            refine ((x4.trans n6.ext (fun y o g => ?_) fun _ _ _ g => g.elim).trans x7 (fun _ _ g => g) fun y o _ g => ?_).trans x8 (fun _ _ g => g) fun y o _ g => ?_
            · simp only [rng] at g; exact .inr ⟨g.1, by omega⟩
            · exact .inl (by simp only [Nat.mul_one] at g; exact g)
            · simp only [rng] at g; exact .inr ⟨g.1, by omega⟩
          have XF : Ext Fb w' w8 := Y.mono fun y o _ g => (hF y o).2 (by
            rcases g with g | g
            · simp only [rng] at g
              exact .inr ⟨g.1.1, by omega, by rw [E_sz]; omega⟩
            · exact .inl g.1)
          have htr : Tr E iso (d - 1) (2 * d - 1) 0 w8 lo b' (ys ++ [x]) (ownF E b' b2' o' cap') := by
            have g0 : rd w' b' 0 = some (.int .u64 iso) := sh.ext.rd ho.h0 (fun g => hDb g.2)
            have g3 : rd w' b' 3 = some (.pointer none) := sh.ext.rd ho.h3 (fun g => hDb g.2)
            refine ⟨b2', o', cap', ⟨?_, ?_, ?_, ?_, x8.wok wb7, ?_, x8.wok wok7, ?_, hb2b⟩, ?_, ?_, fun _ _ => Iff.rfl⟩
            · exact Y.rd g0 (by simp only [rng]; omega)
            · rw [List.length_append, List.length_singleton]
              exact x8.rd (x7.rd (n6.ext.rd b1 fun h => h) (by simp only [rng]; omega)) (by simp only [rng]; omega)
            · rw [List.length_append, List.length_singleton]
              exact (Row.cons.1 r8).1
            · exact Y.rd g3 (by simp only [rng]; omega)
            · rw [flat_append, flat_one]
              exact x8.row row7 fun j _ h => by simp only [rng] at h; omega
            · rw [List.length_append, List.length_singleton]; exact hcap'
            · rw [List.length_append, List.length_singleton]; omega
            · rw [List.length_append, List.length_singleton]; omega
          obtain ⟨F2, hT2, hF2⟩ := hole w8 (ys ++ [x]) (ownF E b' b2' o' cap') XF htr (fun y o g => by
            rcases g with g | g
            · exact .inl ((hF _ _).2 (.inl g))
            · rcases hcase with ⟨rfl, rfl, rfl⟩ | hc
              · exact .inl ((hF _ _).2 (.inr g))
              · exact .inr (by simp only [rng] at g; omega)) (by rw [List.length_append]; simp)
          rw [List.append_nil, ← List.append_assoc, ← hxs] at hT2
          have XW : Ext F w3 w8 := (sh.ext.mono fun y o _ g => hDD y g.2 o).tr (XF.mono fun y o _ g => hsub y o g)
          have ct8 := XW.rd hM.cnt (hM.off 3)
          have q3 := wadd1 xs.length (by omega)
          have cf8 := hM.cfg.ext XW fun o _ _ => hM.off o
          refine W_sq fun K0 hK => (W_text [true, true, true, true, true, true, true, false] (by kernel_rfl) ?_); simp only [↓List.toList_toArray, ↓rgd, ↓rgf, ↓reduceIte, Nat.reduceEqDiff, rg, ow_48, e0, ptr_eq, ct8, q3]
          refine do_store (by simp only [evt, evc, upd_eq, Nat.reduceEqDiff, ↓reduceIte, ntT, ntF] <;> rfl) (by simp only [evt, evc, upd_eq, Nat.reduceEqDiff, ↓reduceIte, ntT, ntF] <;> rfl) sz_3 rfl cf8.wok (by decide) (oc_one rfl rfl) fun w9 x9 r9 s9 => ⟨trivial, ?_⟩
          simp only [↓List.toList_toArray, ↓rgd, ↓rgf, ↓reduceIte, Nat.reduceEqDiff, rg, ow_48]
          refine hK _ _ ?_; clear hK K0
          have cf9 := cf8.ext x9 fun o h2 h3 g => by simp only [rng] at g; omega
          have tm9 := wok.ty tyP cf9.wok
          have wq9 : wok w9 q 0 := x9.wok (XW.wok wq3)
          refine W_sq fun K0 hK => (W_text [true, true, true, true, true, false, true] (by kernel_rfl) ?_); simp only [↓List.toList_toArray, ↓rgd, ↓rgf, ↓reduceIte, Nat.reduceEqDiff, rg, ow_48, e0, ptr_eq, tm9]
          refine do_store (b := q) (o := 0) (by simp only [evt, upd_eq, Nat.reduceEqDiff, ↓reduceIte]; exact e6) (by simp only [evt, evc, upd_eq, Nat.reduceEqDiff, ↓reduceIte, ntT, ntF] <;> rfl) sz_74 rfl wq9 (by decide) (fun _ h => by cases h) fun w10 x10 r10 s10 => ⟨trivial, ?_⟩
          simp only [↓List.toList_toArray, ↓rgd, ↓rgf, ↓reduceIte, Nat.reduceEqDiff, rg, ow_48]
          refine hK _ _ ?_; clear hK K0
          refine W_ret ?_
          simp only [andThen_ret, inBlk_ret]
          obtain ⟨p1, p2, p3⟩ := put_last O κ (all_lt O κ hM.asc hxs hy t2)
          have hF2m : ∀ o, ¬ F2 m o := fun o g => by
            rcases hF2 m o g with g | g
            · exact hM.off o g
            · omega
          have hm9 : MapAt w9 m d iso (put O κ x xs) F2 := by
            refine ⟨cf9, ?_, put_asc O κ hM.asc, .inr ⟨h, b, ?_, ?_⟩, hF2m, ?_⟩
            · rw [p1, List.length_append, List.length_singleton]; exact (Row.cons.1 r9).1
            · rw [hroot] at hr
              exact x9.rd (XW.rd hr (hM.off 2)) (by simp only [rng]; omega)
            · rw [p1]
              exact hT2.ext x9 fun y o g k => by simp only [rng] at k; rw [k.1] at g; exact hF2m _ g
            · intro y o g; rw [s9]; exact hT2.lt y o g
          refine endQ_ct (by simp only [upd_eq, Nat.reduceEqDiff, ↓reduceIte]; exact e6) (by simp only [upd_eq, Nat.reduceEqDiff, ↓reduceIte] <;> rfl) ld_74 ld_unit (hR _ _ ⟨by rw [p2, p3]; rfl, ?_, F2, hm9.extG x10 (fun y o _ k => by simp only [rng] at k; omega) (fun o k => by simp only [rng] at k; omega), ?_⟩)
          · refine (((X3.mono fun _ _ _ h => h.elim).tr (XW.mono fun y o _ g => .inl g)).tr (x9.mono fun y o _ g => ?_)).trans x10 (fun _ _ g => g) fun y o _ k => by simp only [rng] at k; omega
            simp only [rng] at g
            exact .inr ⟨g.1, by omega⟩
          · intro y o g
            exact (hF2 y o g).imp id fun g => by omega
        · have t2 : decide (y.1 < x.1) = false := by simpa using hlt
          have t3 : binV Try.prog .lss 3 (kV y.1) (kV x.1) = some (.bool false) := by rw [kV_lt]; exact congrArg _ (congrArg _ t2)
          refine W_sq fun K0 hK => (W_draw (some none) none [(0, 0, 0), (0, 1, 0), (0, 2, 0), (0, 3, 0), (0, 4, 0), (0, 5, 0), (0, 6, 0), (0, 7, 0), (0, 8, 0), (0, 9, 0), (0, 10, 0), (0, 11, 0), (0, 12, 0), (0, 13, 0), (0, 14, 0), (0, 15, 0)] mixed (by kernel_rfl) ?_); simp only [↓List.toList_toArray, ↓rgd, ↓rgf, ↓reduceIte, Nat.reduceEqDiff, rg, ow_48, e8, e9, ptr_eq, b2, q2, hyl, hyk, rxk, t3]
          refine hK _ _ ?_; clear hK K0
          refine W_false (by simp only [evt, evc, upd_eq, Nat.reduceEqDiff, ↓reduceIte, ntT, ntF] <;> rfl) (W_skip ?_)
          simp only [andThen_normal]
          refine hdown _ _ ((RO.dr _ _).tr (RO.dr _ _)) ?_ ?_ ?_
          · simp only [upd_eq, Nat.reduceEqDiff, ↓reduceIte]; exact e0
          · simp only [upd_eq, Nat.reduceEqDiff, ↓reduceIte]; exact e6
          · simp only [upd_eq, Nat.reduceEqDiff, ↓reduceIte]; exact e8
      · have t1 : decide ((ys.length : Int) < ((2 * d - 1 : Nat) : Int)) = false := by simp; omega
        refine W_sq fun K0 hK => (W_draw (some none) none [(0, 0, 0), (0, 1, 0), (0, 2, 0), (0, 3, 0), (0, 4, 0), (0, 5, 0), (0, 6, 0), (0, 7, 0), (0, 8, 0), (0, 9, 0)] mixed (by kernel_rfl) ?_); simp only [↓List.toList_toArray, ↓rgd, ↓rgf, ↓reduceIte, Nat.reduceEqDiff, rg, ow_48, e0, e9, ptr_eq, b2, hmx, t1]
        refine hK _ _ ?_; clear hK K0
        refine W_false (by simp only [evt, evc, upd_eq, Nat.reduceEqDiff, ↓reduceIte, ntT, ntF] <;> rfl) (W_skip ?_)
        simp only [andThen_normal]
        refine hdown _ _ (RO.dr _ _) ?_ ?_ ?_
        · simp only [upd_eq, Nat.reduceEqDiff, ↓reduceIte]; exact e0
        · simp only [upd_eq, Nat.reduceEqDiff, ↓reduceIte]; exact e6
        · simp only [upd_eq, Nat.reduceEqDiff, ↓reduceIte]; exact e8
    · have hcl : lastSel cs.length < cs.length := lastSel_lt _ (by have := n.len; omega)
      obtain ⟨c, hc⟩ : ∃ c, cs[lastSel cs.length]? = some c := ⟨_, List.getElem?_eq_getElem hcl⟩
      have hcm : c ∈ cs := List.mem_of_getElem? hc
      have htc := n.sub c hcm
      have hcF : ∀ y o, c.F y o → Fb y o := fun y o g => (n.fp y o).2 (.inr (.inr ⟨c, hcm, g⟩))
      refine W_sq fun K0 hK => (W_text [true, false] (by kernel_rfl) ?_); simp only [↓List.toList_toArray, ↓rgd, ↓rgf, ↓reduceIte, Nat.reduceEqDiff, rg, ow_48, e9]
      refine do_call fn_63 (by simp only [evt, evc, upd_eq, Nat.reduceEqDiff, ↓reduceIte, maT, maC, maN, isnN, isnS] <;> rfl) (leaf_any b' (some ⟨bc, 0, none⟩) w4 b3) ?_
      rintro _ w4 ⟨rfl, rfl⟩
      refine ⟨trivial, ?_⟩
      simp only [↓List.toList_toArray, ↓rgd, ↓rgf, ↓reduceIte, Nat.reduceEqDiff, rg, ow_48]
      refine hK _ _ ?_; clear hK K0
      refine W_false (by simp only [evt, evc, upd_eq, Nat.reduceEqDiff, ↓reduceIte, ntT, ntF] <;> rfl) (W_skip ?_)
      show W _ _ _ _ _ _
      have n4 := n.ext sh4.ext (fun y o g hh => by
        rcases hh.2 with hh | hh
        · exact hDF y hh o ((n.fp y o).2 (.inr (.inl g)))
        · subst hh
          rcases g with g | g
          · exact n.ap.cb g.symm
          · exact n.ap.ab g.1.symm) fun d' hd y o g hh => by
        rcases hh.2 with hh | hh
        · exact hDF y hh o ((n.fp y o).2 (.inr (.inr ⟨d', hd, g⟩)))
        · exact n.ap.own d' hd y o g (.inl hh)
      have hc0 := n4.kids.c0
      rw [List.length_map] at hc0
      have hcr : rd w4 ba (oa + (cs.length - 1)) = some (ptr c.b) := ptr_at n4.kids.row (by rw [List.getElem?_map]; exact congrArg _ hc)
      have q2 := wsub1 cs.length (by omega) (by have := n.len; omega)
      have hlc : cs.length - 1 < cs.length := hcl
      refine W_rg fun K0 hK => (W_draw (some none) none [(0, 0, 0), (0, 1, 0), (0, 2, 0), (0, 3, 0), (0, 4, 0), (0, 5, 0), (0, 6, 0), (0, 7, 0), (0, 8, 0), (0, 9, 0), (0, 10, 0), (0, 11, 0), (0, 12, 0), (0, 13, 0), (0, 14, 0), (0, 15, 0), (1, 16, 0), (0, 17, 0)] mixed (by kernel_rfl) ?_); simp only [↓List.toList_toArray, ↓rgd, ↓rgf, ↓reduceIte, Nat.reduceEqDiff, rg, ow_48, e0, e9, ptr_eq, b3, hc0, q2, hlc]
      refine do_call fn_62 (by simp only [evt, evc, upd_eq, Nat.reduceEqDiff, ↓reduceIte, maT, maC, maN, isnN, isnS] <;> rfl) (isoLoad_any m ba (oa + (cs.length - 1)) c.b true iso _ hM4.iso hcr (n4.sub c hcm).iso0.1) ?_
      rintro _ w5 ⟨rfl, r5⟩
      refine ⟨.inr (keeps_ro r5), ?_⟩
      simp only [↓List.toList_toArray, ↓rgd, ↓rgf, ↓reduceIte, Nat.reduceEqDiff, rg, ow_48]
      refine hK _ _ ?_; clear hK K0
      have R5 : RO w4 w5 := (RO.dr _ _).tr r5
      obtain ⟨A', C', hw⟩ := weave_at (lastSel cs.length) (cs.map Kid.xs) ks (by simpa using n.len) (by have := n.len; simp only [lastSel]; omega)
      have hC' : C' = [] := by
        rcases hw.right with ⟨hC, _⟩ | ⟨k, _, hk, _⟩
        · exact hC
        · have := (List.getElem?_eq_some_iff.1 hk).1; have := n.len; simp only [lastSel] at *; omega
      subst hC'
      have hxe : ys = A' ++ c.xs := by rw [n.eq, hw.eq (c := c.xs) (by rw [List.getElem?_map, hc]; rfl), List.append_nil]
      have n' := n.ext sh.ext (fun y o g hh => hDF y hh.2 o ((n.fp y o).2 (.inr (.inl g)))) fun d' hd y o g hh => hDF y hh.2 o ((n.fp y o).2 (.inr (.inr ⟨d', hd, g⟩)))
      have ho' := ho.ext sh.ext fun y o g hh => hDF y hh.2 o (hoF y o g)
      have hole4 := (hole.down n' ho' h1 h2 x4 b1 hc hw).ro R5
      refine ⟨h', by omega, d - 1, c.b, c.xs, c.F, A ++ A', _, htc, by omega, sh4.ro R5, fun y => ?_, fun y g o hh => ?_, fun y g => ?_, by rw [hxs, hxe, List.append_assoc], hole4, fun y o g => hsub y o (hcF y o g), ?_, ?_, ?_, ?_⟩
      · rw [hD y, n.rs ho.h3 hc y, or_assoc]
      · rcases g with g | g
        · exact hDF y g o (hcF y o hh)
        · exact n.ap.own c hcm y o hh (.inl g)
      · exact hFF y 1 ⟨rfl, g⟩
      · simp only [upd_eq, Nat.reduceEqDiff, ↓reduceIte]; exact e0
      · simp only [upd_eq, Nat.reduceEqDiff, ↓reduceIte]; exact e6
      · simp only [upd_eq, Nat.reduceEqDiff, ↓reduceIte]; exact e8
      · simp only [upd_eq, Nat.reduceEqDiff, ↓reduceIte]
end Go.Proofs.Ytjaolgehpnmieaa
/-
  The law on Load over sets: what it needs. No condition.
-/
set_option linter.unusedSimpArgs false
set_option linter.unusedVariables false
namespace Go.Proofs.Ytjaolgehpnmieaa
open Go Go.Proofs
set_option maxHeartbeats 800000 in
set_option maxRecDepth 8000 in
theorem load_nil (m : Nat) (k : Int) (w00 : World) (hM : MapAt w00 m 0 0 [] noF) :
    CallK Try.prog 48 #[ptr m, kV k, .agg #[]] w00 fun _ w' => Ext (setF m noF) w00 w' ∧ ∃ F', SetAt w' m (put O κ (toIt k) []) F' ∧ ∀ y o, F' y o → noF y o ∨ w00.heap.size ≤ y := by
  refine calls_of_W [.cell 6 74, .tmp 7] Try.func48 rfl Try.ntmps48 Try.results48 (by simp) fun e he => ?_
  have e0 : e 0 = ptr m := he 0 _ rfl
  have e1 : e 1 = kV k := he 1 _ rfl
  have e2 : e 2 = .agg #[] := he 2 _ rfl
  clear he
  refine W_sq fun K hK => (W_text [false, false, true] (by kernel_rfl) ?_); simp only [↓List.toList_toArray, ↓rgd, ↓rgf, ↓reduceIte, Nat.reduceEqDiff, rg, ow_48]
  refine do_box (by simp only [evt]; exact e2) fun wa na => ⟨trivial, ?_⟩
  simp only [↓List.toList_toArray, ↓rgd, ↓rgf, ↓reduceIte, Nat.reduceEqDiff, rg, ow_48]
  refine do_alloc z_unit fun w nb => ⟨trivial, ?_⟩
  simp only [↓List.toList_toArray, ↓rgd, ↓rgf, ↓reduceIte, Nat.reduceEqDiff, rg, ow_48]
  refine hK _ _ ?_; clear hK K
  have sa := na.size
  have sb := nb.size
  have Xb : Ext noF w00 w := na.ext.tr nb.ext
  obtain ⟨q, hq⟩ : ∃ q, q = wa.heap.size := ⟨_, rfl⟩
  have wqb : wok w q 0 := by rw [hq]; exact nb.wok
  rw [← hq]
  have hml := hM.mlt
  refine W_sq fun K hK => (W_text [true, true, true, false, false] (by kernel_rfl) ?_); simp only [↓List.toList_toArray, ↓rgd, ↓rgf, ↓reduceIte, Nat.reduceEqDiff, rg, ow_48, e1, bu_it k 0]
  refine do_alloc z_it fun w1 n1 => ⟨trivial, ?_⟩
  simp only [↓List.toList_toArray, ↓rgd, ↓rgf, ↓reduceIte, Nat.reduceEqDiff, rg, ow_48]
  refine do_store (by simp only [evt, evc, upd_eq, Nat.reduceEqDiff, ↓reduceIte, ntT, ntF] <;> rfl) (by simp only [evt, evc, upd_eq, Nat.reduceEqDiff, ↓reduceIte, ntT, ntF] <;> rfl) sz_76 (itV_len (k, 0)) n1.wok (by decide) (itV_oc (k, 0)) fun w2 x2 r2 s2 => ⟨trivial, ?_⟩
  simp only [↓List.toList_toArray, ↓rgd, ↓rgf, ↓reduceIte, Nat.reduceEqDiff, rg, ow_48]
  refine hK _ _ ?_; clear hK K
  have s1 := n1.size
  have X2 : Ext noF w w2 := noF_of n1.ext x2 fun y o hy h => by simp only [rng] at h; omega
  have rx : Row w2 w.heap.size 0 (E.cel (toIt k)) := r2
  have rxk := kV_at rx
  have wx2 : wok w2 w.heap.size 1 := x2.wok n1.wok
  have wq2 : wok w2 q 0 := X2.wok wqb
  have tyB := wok.ty tyP wx2
  have hM2 := (hM.ext Xb).ext X2
  have hr : rd w2 m 2 = some (.pointer none) := by
    rcases hM2.root with ⟨_, hr⟩ | ⟨h, b, hr, ht⟩
    · exact hr
    · exact (ht.ne (Nat.le_refl 1) rfl).elim
  refine W_seq ?_
  refine W_sq fun K hK => (W_text [true, true, true, true, true] (by kernel_rfl) ?_); simp only [↓List.toList_toArray, ↓rgd, ↓rgf, ↓reduceIte, Nat.reduceEqDiff, rg, ow_48, e0, ptr_eq, hr]
  refine hK _ _ ?_; clear hK K
  refine W_true (by simp only [evt, evc, upd_eq, Nat.reduceEqDiff, ↓reduceIte, ntT, ntF] <;> rfl) ?_
  refine W_sq fun K hK => (W_text [true, true, true, true, true, false, true, true, false, true] (by kernel_rfl) ?_); simp only [↓List.toList_toArray, ↓rgd, ↓rgf, ↓reduceIte, Nat.reduceEqDiff, rg, ow_48, e0, tyB, rxk]
  refine do_call fn_57 (by simp only [evt, evc, upd_eq, Nat.reduceEqDiff, ↓reduceIte, maT, maC, maN, isnN, isnS] <;> rfl) (set_set m k [] noF w2 ⟨0, .inr ⟨rfl, rfl⟩, hM2⟩ (by simp)) ?_
  rintro _ w3 ⟨⟨b, rfl⟩, x3, F', hM3, hF'⟩
  refine ⟨trivial, ?_⟩
  simp only [↓List.toList_toArray, ↓rgd, ↓rgf, ↓reduceIte, Nat.reduceEqDiff, rg, ow_48]
  refine do_store (by simp only [evt, evc, upd_eq, Nat.reduceEqDiff, ↓reduceIte, ntT, ntF] <;> rfl) (by simp only [evt, evc, upd_eq, Nat.reduceEqDiff, ↓reduceIte, ntT, ntF] <;> rfl) sz_74 rfl (x3.wok wq2) (by decide) (fun _ h => by cases h) fun w4 x4 r4 s4 => ⟨trivial, ?_⟩
  simp only [↓List.toList_toArray, ↓rgd, ↓rgf, ↓reduceIte, Nat.reduceEqDiff, rg, ow_48]
  refine hK _ _ ?_; clear hK K
  refine W_ret ?_
  simp only [andThen_ret]
  exact endQ_ct (by simp only [upd_eq, Nat.reduceEqDiff, ↓reduceIte] <;> rfl) (by simp only [upd_eq, Nat.reduceEqDiff, ↓reduceIte] <;> rfl) ld_74 ld_unit ⟨(((Xb.tr X2).mono fun _ _ _ h => h.elim).tr x3).trans x4 (fun _ _ g => g) fun y o _ k => by simp only [rng] at k; omega, F', hM3.extG x4 (fun y o _ k => by simp only [rng] at k; omega) fun o k => by simp only [rng] at k; omega, fun y o g => (hF' y o g).imp id fun g => by have := Xb.size; have := X2.size; omega⟩
theorem load_set (m : Nat) (k : Int) (xs : List It) (F : Nat → Nat → Prop) (w : World) (h : SetAt w m xs F) (hbig : xs.length < 1152921504606846976) :
    CallK Try.prog 48 #[ptr m, .int .i64 k, .agg #[]] w fun _ w' => Ext (setF m F) w w' ∧ ∃ F', SetAt w' m (put O κ (toIt k) xs) F' ∧ ∀ y o, F' y o → F y o ∨ w.heap.size ≤ y := by
  obtain ⟨d, hd, hM⟩ := h
  rcases hd with rfl | ⟨rfl, rfl⟩
  · refine CallK_mono (load_map m 32 0 (toIt k) (by omega) (by omega) xs F w hM hbig) ?_
    rintro v w' ⟨-, h2, F', h3, h4⟩
    exact ⟨h2.mono fun y o _ g => mapF_setF g, F', ⟨32, .inl rfl, h3⟩, h4⟩
  · have hr : rd w m 2 = some (.pointer none) := by
      rcases hM.root with ⟨_, hr⟩ | ⟨h, b, hr, ht⟩
      · exact hr
      · exact (ht.ne (Nat.le_refl 1) rfl).elim
    refine CallK_mono (load_nil m k w ⟨hM.cfg, hM.cnt, hM.asc, .inl ⟨rfl, hr⟩, fun _ g => g, fun _ _ g => g.elim⟩) ?_
    rintro v w' ⟨h2, F', h3, h4⟩
    exact ⟨h2.mono fun y o _ g => g.imp (fun g => g.elim) id, F', h3, fun y o g => .inr ((h4 y o g).elim (fun g => g.elim) id)⟩
set_option maxHeartbeats 800000 in
set_option maxRecDepth 8000 in
theorem sload_any (m : Nat) (k : Int) (xs : List It) (F : Nat → Nat → Prop) (w : World) (h : SetAt w m xs F) (hbig : xs.length < 1152921504606846976) :
    CallK Try.prog 31 #[ptr m, .int .i64 k] w fun _ w' => Ext (setF m F) w w' ∧ ∃ F', SetAt w' m (put O κ (toIt k) xs) F' ∧ ∀ y o, F' y o → F y o ∨ w.heap.size ≤ y := by
  refine calls_of_W [] Try.func31 rfl Try.ntmps31 Try.results31 (by simp) fun e he => ?_
  have e0 : e 0 = ptr m := he 0 _ rfl
  have e1 : e 1 = .int .i64 k := he 1 _ rfl
  clear he
  refine W_rg fun K hK => (W_text [true, true, true, true, true, false] (by kernel_rfl) ?_); simp only [↓List.toList_toArray, ↓rgd, ↓rgf, ↓reduceIte, Nat.reduceEqDiff, rg, ow_31, e0, e1, ptr_eq, bu_unit]
  refine do_call fn_48 (by simp only [evt, evc, upd_eq, Nat.reduceEqDiff, ↓reduceIte, maT, maC, maN, isnN, isnS] <;> rfl) (load_set m k xs F w h hbig) ?_
  rintro _ w1 h1
  refine ⟨trivial, ?_⟩
  simp only [↓List.toList_toArray, ↓rgd, ↓rgf, ↓reduceIte, Nat.reduceEqDiff, rg, ow_31]
  refine hK _ _ ?_; clear hK K
  exact endQ_0n h1
set_option maxHeartbeats 800000 in
set_option maxRecDepth 8000 in
theorem impl_sload (l : List Int) (lv : Value) (w : World) (hl : SlN w lv l) (hbig : l.length ≤ 2147483647) :
    CallK Try.prog 15 #[lv] w fun v w' => SlN w' v ((tree (its l)).map κ) ∧ Ext noF w w' := by
  refine calls_of_W [.tmp 2] Try.func15 rfl Try.ntmps15 Try.results15 (by simp) fun e he => ?_
  have e0 : e 0 = lv := he 0 _ rfl
  clear he
  obtain ⟨ka, kc, hkv⟩ := SlV.shape hl
  rw [hkv] at e0
  refine W_sq fun K hK => (W_text [true] (by kernel_rfl) ?_); simp only [↓List.toList_toArray, ↓rgd, ↓rgf, ↓reduceIte, Nat.reduceEqDiff, rg, ow_15]
  refine hK _ _ ?_; clear hK K
  refine W_sq fun K hK => (W_text [false, true] (by kernel_rfl) ?_); simp only [↓List.toList_toArray, ↓rgd, ↓rgf, ↓reduceIte, Nat.reduceEqDiff, rg, ow_15]
  refine do_call fn_30 (by simp only [evt, evc, upd_eq, Nat.reduceEqDiff, ↓reduceIte, maT, maC, maN, isnN, isnS] <;> rfl) (grow_any [] (.slice none 0 0) w (nil_n w) (by decide)) ?_
  rintro _ w1 ⟨X1, m, F0, rfl, hM0, hmg, hF0⟩
  refine ⟨trivial, ?_⟩
  simp only [↓List.toList_toArray, ↓rgd, ↓rgf, ↓reduceIte, Nat.reduceEqDiff, rg, ow_15]
  refine hK _ _ ?_; clear hK K
  have hM0 : SetAt w1 m (tree ((its l).take 0)) F0 := hM0

  refine W_seq (W_seq ?_)
  refine W_rg fun K hK => (W_text [true, true, true] (by kernel_rfl) ?_); simp only [↓List.toList_toArray, ↓rgd, ↓rgf, ↓reduceIte, Nat.reduceEqDiff, rg, ow_15, e0]
  refine hK _ _ ?_; clear hK K
  show W _ _ _ _ _ _
  refine W_block (W_loop (fun mm e w' => ∃ k : Nat, mm = l.length - k ∧ k ≤ l.length ∧ e 7 = .slice ka l.length kc ∧ e 8 = .int .i64 l.length ∧ e 9 = .int .i64 k ∧ e 3 = ptr m ∧ Ext noF w w' ∧ ∃ F, SetAt w' m (tree ((its l).take k)) F ∧ ∀ y o, F y o → w.heap.size ≤ y)
    l.length ⟨0, by simp, by simp, by simp only [upd_eq, Nat.reduceEqDiff, ↓reduceIte], by simp only [upd_eq, Nat.reduceEqDiff, ↓reduceIte], by simp only [upd_eq, Nat.reduceEqDiff, ↓reduceIte]; rfl, by simp only [upd_eq, Nat.reduceEqDiff, ↓reduceIte] <;> rfl, X1, F0, hM0, hF0⟩ ?_)
  clear X1 hM0 hF0 e0 e
  rintro mm e w' ⟨k, rfl, hk, eS, eL, eI, eM, X, F, hM, hF⟩
  by_cases hlt : k < l.length
  · have ht := lt_tt k l.length hlt
    refine W_sq fun K hK => (W_text [true] (by kernel_rfl) ?_); simp only [↓List.toList_toArray, ↓rgd, ↓rgf, ↓reduceIte, Nat.reduceEqDiff, rg, ow_15, eL, eI, ht]
    refine hK _ _ ?_; clear hK K
    refine W_seq (W_true (by simp only [evt, evc, upd_eq, Nat.reduceEqDiff, ↓reduceIte, ntT, ntF] <;> rfl) (W_skip ?_))
    show W _ _ _ _ _ _
    obtain ⟨x, hx⟩ : ∃ x, l[k]? = some x := ⟨_, List.getElem?_eq_getElem hlt⟩
    obtain ⟨ib, io, hka, row⟩ := SlV.at hl hkv hlt
    have hibl := SlV.lt hl (hkv.trans (by rw [hka]))
    have ixx := nV_at (X.row row (fun _ _ h => h)) hx
    rw [hka] at eS
    refine W_seq (W_block ?_)
    refine W_sq fun K hK => (W_text [true, true, true] (by kernel_rfl) ?_); simp only [↓List.toList_toArray, ↓rgd, ↓rgf, ↓reduceIte, Nat.reduceEqDiff, rg, ow_15, eS, eI, hlt, ixx]
    refine hK _ _ ?_; clear hK K
    rw [← hka] at eS
    have htl := tree_len ((its l).take k)
    have htk : ((its l).take k).length ≤ k := by rw [List.length_take]; omega
    refine W_rg fun K hK => (W_text [true, true, false] (by kernel_rfl) ?_); simp only [↓List.toList_toArray, ↓rgd, ↓rgf, ↓reduceIte, Nat.reduceEqDiff, rg, ow_15, eM]
    refine do_call fn_31 (by simp only [evt, evc, upd_eq, Nat.reduceEqDiff, ↓reduceIte, maT, maC, maN, isnN, isnS] <;> rfl) (sload_any m x _ F w' hM (by omega)) ?_
    rintro _ w4 ⟨x4, F', hM4, hF'⟩
    refine ⟨trivial, ?_⟩
    simp only [↓List.toList_toArray, ↓rgd, ↓rgf, ↓reduceIte, Nat.reduceEqDiff, rg, ow_15]
    refine hK _ _ ?_; clear hK K
    have sX := X.size
    show W _ _ _ _ _ _
    have q1 := wadd1 k (by omega)
    refine W_rg fun K hK => (W_text [true, true] (by kernel_rfl) ?_); simp only [↓List.toList_toArray, ↓rgd, ↓rgf, ↓reduceIte, Nat.reduceEqDiff, rg, ow_15, eI, q1]
    refine hK _ _ ?_; clear hK K
    refine ⟨_, ?_, k + 1, rfl, hlt, by simp only [upd_eq, Nat.reduceEqDiff, ↓reduceIte]; exact eS, by simp only [upd_eq, Nat.reduceEqDiff, ↓reduceIte]; exact eL, by simp only [upd_eq, Nat.reduceEqDiff, ↓reduceIte], by simp only [upd_eq, Nat.reduceEqDiff, ↓reduceIte]; exact eM, noF_of X x4 (fun y o hy g => by
      rcases g with g | g
      · have := hF y o g; omega
      · omega), F', by rw [tree_succ (its l) k (toIt x) (its_get hx)]; exact hM4, fun y o g => by
      rcases hF' y o g with g | g
      · exact hF y o g
      · omega⟩
    omega
  · obtain rfl : k = l.length := by omega
    have ht := lt_ff l.length l.length (by omega)
    refine W_sq fun K hK => (W_text [true] (by kernel_rfl) ?_); simp only [↓List.toList_toArray, ↓rgd, ↓rgf, ↓reduceIte, Nat.reduceEqDiff, rg, ow_15, eL, eI, ht]
    refine hK _ _ ?_; clear hK K
    refine W_seq (W_false (by simp only [evt, evc, upd_eq, Nat.reduceEqDiff, ↓reduceIte, ntT, ntF] <;> rfl) (W_exit ?_))
    simp only [andThen_exit, inBlk_exit, andThen_normal, ↓reduceIte]
    have hfull : (its l).take l.length = its l := by rw [← its_length, List.take_length]
    rw [hfull] at hM
    have htl := tree_len (its l)
    rw [its_length] at htl
    refine W_sq fun K hK => (W_text [true, false, true] (by kernel_rfl) ?_); simp only [↓List.toList_toArray, ↓rgd, ↓rgf, ↓reduceIte, Nat.reduceEqDiff, rg, ow_15, eM]
    refine do_call fn_32 (by simp only [evt, evc, upd_eq, Nat.reduceEqDiff, ↓reduceIte, maT, maC, maN, isnN, isnS] <;> rfl) (skeys_any m _ F w' hM (by omega)) ?_
    rintro v w5 ⟨h5, X5⟩
    refine ⟨trivial, ?_⟩
    simp only [↓List.toList_toArray, ↓rgd, ↓rgf, ↓reduceIte, Nat.reduceEqDiff, rg, ow_15]
    refine hK _ _ ?_; clear hK K
    exact W_ret (endQ_1 (by simp only [upd_eq, Nat.reduceEqDiff, ↓reduceIte] <;> rfl) ⟨h5.sl, X.tr X5⟩)
set_option maxHeartbeats 800000 in
set_option maxRecDepth 8000 in
theorem rises_any (l : List Int) (lv : Value) (w : World) (hl : SlN w lv l) (hbig : l.length ≤ 2147483647) :
    CallK Try.prog 12 #[lv] w fun v w' => (∃ b, v = .bool b) ∧ Ext noF w w' := by
  refine calls_of_W [.tmp 2] Try.func12 rfl Try.ntmps12 Try.results12 (by simp) fun e he => ?_
  have e0 : e 0 = lv := he 0 _ rfl
  clear he
  obtain ⟨ka, kc, hkv⟩ := SlV.shape hl
  rw [hkv] at e0
  refine W_sq fun K hK => (W_text [true] (by kernel_rfl) ?_); simp only [↓List.toList_toArray, ↓rgd, ↓rgf, ↓reduceIte, Nat.reduceEqDiff, rg, ow_12]
  refine hK _ _ ?_; clear hK K
  refine W_seq (W_seq ?_)
  refine W_rg fun K hK => (W_text [true] (by kernel_rfl) ?_); simp only [↓List.toList_toArray, ↓rgd, ↓rgf, ↓reduceIte, Nat.reduceEqDiff, rg, ow_12]
  refine hK _ _ ?_; clear hK K
  show W _ _ _ _ _ _
  refine W_block (W_loop (fun mm e w' => ∃ i : Nat, mm = l.length + 1 - i ∧ 1 ≤ i ∧ e 0 = .slice ka l.length kc ∧ e 3 = .int .i64 i ∧ Ext noF w w')
    (l.length + 1 - 1) ⟨1, rfl, Nat.le_refl _, by simp only [upd_eq, Nat.reduceEqDiff, ↓reduceIte]; exact e0, by simp only [upd_eq, Nat.reduceEqDiff, ↓reduceIte] <;> rfl, Ext.refl _ _⟩ ?_)
  clear e0 e
  rintro mm e w' ⟨i, rfl, hi, e0, e3, X⟩
  refine W_seq ?_
  by_cases hlt : i < l.length
  · have ht := lt_tt i l.length hlt
    refine W_sq fun K hK => (W_text [true, true, true, true] (by kernel_rfl) ?_); simp only [↓List.toList_toArray, ↓rgd, ↓rgf, ↓reduceIte, Nat.reduceEqDiff, rg, ow_12, e0, e3, ht]
    refine hK _ _ ?_; clear hK K
    refine W_true (by simp only [evt, evc, upd_eq, Nat.reduceEqDiff, ↓reduceIte, ntT, ntF] <;> rfl) (W_skip ?_)
    show W _ _ _ _ _ _
    obtain ⟨x, hx⟩ : ∃ x, l[i]? = some x := ⟨_, List.getElem?_eq_getElem hlt⟩
    have hlt1 : i - 1 < l.length := by omega
    obtain ⟨y, hy⟩ : ∃ y, l[i - 1]? = some y := ⟨_, List.getElem?_eq_getElem hlt1⟩
    obtain ⟨ib, io, rfl, row⟩ := SlV.at hl hkv hlt
    have ix := nV_at (X.row row fun _ _ h => h) hx
    have iy := nV_at (X.row row fun _ _ h => h) hy
    have q1 := wsub1 i (by omega) (by omega)
    have M1 : readsB (some (some [ib])) ib = true := by simp [readsB]
    refine W_seq (W_block ?_)
    cases hd : decide (x < y) with
    | true =>
      refine W_sq fun K hK => (W_draw (some (some [ib])) none [(0, 0, 0), (0, 1, 0), (0, 2, 0), (0, 3, 0), (0, 4, 0), (0, 5, 0), (0, 6, 0), (0, 7, 0), (0, 8, 0), (0, 9, 0)] mixed (by kernel_rfl) ?_); simp only [↓List.toList_toArray, ↓rgd, ↓rgf, ↓reduceIte, Nat.reduceEqDiff, rg, ow_12, e0, e3, hlt, hlt1, q1, ix, iy, hd, M1]
      refine hK _ _ ?_; clear hK K
      refine W_true (by simp only [evt, evc, upd_eq, Nat.reduceEqDiff, ↓reduceIte, ntT, ntF] <;> rfl) ?_
      refine W_sq fun K hK => (W_text [true] (by kernel_rfl) ?_); simp only [↓List.toList_toArray, ↓rgd, ↓rgf, ↓reduceIte, Nat.reduceEqDiff, rg, ow_12]
      refine hK _ _ ?_; clear hK K
      refine W_ret ?_
      simp only [andThen_ret, inBlk_ret]
      exact endQ_1 (by simp only [upd_eq, Nat.reduceEqDiff, ↓reduceIte] <;> rfl) ⟨⟨_, rfl⟩, X.tr (Ext.dr _ _ _)⟩
    | false =>
      refine W_sq fun K hK => (W_draw (some (some [ib])) none [(0, 0, 0), (0, 1, 0), (0, 2, 0), (0, 3, 0), (0, 4, 0), (0, 5, 0), (0, 6, 0), (0, 7, 0), (0, 8, 0), (0, 9, 0)] mixed (by kernel_rfl) ?_); simp only [↓List.toList_toArray, ↓rgd, ↓rgf, ↓reduceIte, Nat.reduceEqDiff, rg, ow_12, e0, e3, hlt, hlt1, q1, ix, iy, hd, M1]
      refine hK _ _ ?_; clear hK K
      refine W_false (by simp only [evt, evc, upd_eq, Nat.reduceEqDiff, ↓reduceIte, ntT, ntF] <;> rfl) (W_skip ?_)
      show W _ _ _ _ _ _
      have q2 := wadd1 i (by omega)
      refine W_rg fun K hK => (W_text [true, true, true] (by kernel_rfl) ?_); simp only [↓List.toList_toArray, ↓rgd, ↓rgf, ↓reduceIte, Nat.reduceEqDiff, rg, ow_12, e3, q2]
      refine hK _ _ ?_; clear hK K
      refine ⟨_, ?_, i + 1, rfl, by omega, by simp only [upd_eq, Nat.reduceEqDiff, ↓reduceIte]; exact e0, by simp only [upd_eq, Nat.reduceEqDiff, ↓reduceIte], X.tr (Ext.dr _ _ _)⟩
      omega
  · have ht := lt_ff i l.length (by omega)
    refine W_sq fun K hK => (W_text [true, true, true, true] (by kernel_rfl) ?_); simp only [↓List.toList_toArray, ↓rgd, ↓rgf, ↓reduceIte, Nat.reduceEqDiff, rg, ow_12, e0, e3, ht]
    refine hK _ _ ?_; clear hK K
    refine W_false (by simp only [evt, evc, upd_eq, Nat.reduceEqDiff, ↓reduceIte, ntT, ntF] <;> rfl) (W_exit ?_)
    simp only [andThen_exit, inBlk_exit, andThen_normal, ↓reduceIte]
    refine W_sq fun K hK => (W_text [true] (by kernel_rfl) ?_); simp only [↓List.toList_toArray, ↓rgd, ↓rgf, ↓reduceIte, Nat.reduceEqDiff, rg, ow_12]
    refine hK _ _ ?_; clear hK K
    exact W_ret (endQ_1 (by simp only [upd_eq, Nat.reduceEqDiff, ↓reduceIte] <;> rfl) ⟨⟨_, rfl⟩, X⟩)
theorem bs_al : bsV Try.prog 22 3 [(0, .int .i64 5), (1, .int .i64 3), (2, .int .i64 9)] = some (3, flat En [5, 3, 9]) := by kernel_rfl
theorem al_len : ((tree (its [5, 3, 9])).map κ).length = 3 := by decide
set_option maxHeartbeats 800000 in
set_option maxRecDepth 8000 in
theorem aliveS_any (w : World) :
    CallK Try.prog 13 #[] w fun v w' => v = .bool true ∧ Ext noF w w' := by
  refine calls_of_W (args := []) [.tmp 0] Try.func13 rfl Try.ntmps13 Try.results13 (by simp) fun e he => ?_
  clear he
  refine W_sq fun K hK => (W_text [true] (by kernel_rfl) ?_); simp only [↓List.toList_toArray, ↓rgd, ↓rgf, ↓reduceIte, Nat.reduceEqDiff, rg, ow_13]
  refine hK _ _ ?_; clear hK K
  refine W_sq fun K hK => (W_text [false, false, true, true, true] (by kernel_rfl) ?_); simp only [↓List.toList_toArray, ↓rgd, ↓rgf, ↓reduceIte, Nat.reduceEqDiff, rg, ow_13]
  refine do_bsl rfl bs_al fun w1 n1 => ⟨trivial, ?_⟩
  simp only [↓List.toList_toArray, ↓rgd, ↓rgf, ↓reduceIte, Nat.reduceEqDiff, rg, ow_13]
  have h1 : SlN w1 (.slice (some ⟨w.heap.size, 0, none⟩) 3 3) [5, 3, 9] := ⟨rfl, .inr ⟨_, 0, 3, rfl, Nat.le_refl _, n1.row, n1.wok.R (Nat.le_refl _)⟩⟩
  refine do_call fn_16 (by simp only [evt, evc, upd_eq, Nat.reduceEqDiff, ↓reduceIte, maT, maC, maN, isnN, isnS] <;> rfl) (impl_sinsert [5, 3, 9] _ w1 h1 (by decide)) ?_
  rintro v w2 ⟨h2, X2⟩
  obtain ⟨a, c, rfl⟩ := SlV.shape h2
  rw [al_len]
  refine ⟨trivial, ?_⟩
  have t3 : (((3 : Nat) : Int) == 3) = true := rfl
  simp only [↓List.toList_toArray, ↓rgd, ↓rgf, ↓reduceIte, Nat.reduceEqDiff, rg, ow_13, t3]
  refine hK _ _ ?_; clear hK K
  exact W_ret (endQ_1 (by simp only [upd_eq, Nat.reduceEqDiff, ↓reduceIte] <;> rfl) ⟨rfl, n1.ext.tr X2⟩)
end Go.Proofs.Ytjaolgehpnmieaa
/-
  Sorted lists by their members: what is in a list behind a setting or a deletion; equal members, equal lists. Plain lists; no program. No condition.
-/
set_option linter.unusedSimpArgs false
set_option linter.unusedVariables false
namespace Go.Proofs.Ytjaolgehpnmieaa
open Go
section
variable {α R : Type} (O : SOrd R) (κ : α → R)
theorem lt_ne {a b : R} (h : O.lt a b = true) : a ≠ b := fun e => by
  subst e
  have := O.asym h
  rw [h] at this; cases this
theorem asc_split {xs : List α} {i : Nat} {k : α} (hk : xs[i]? = some k) : xs = xs.take i ++ k :: xs.drop (i + 1) := by
  have hlt := (List.getElem?_eq_some_iff.1 hk).1
  have := List.take_append_drop i xs
  rw [List.drop_eq_getElem_cons hlt, (List.getElem?_eq_some_iff.1 hk).2] at this
  exact this.symm
theorem hit_of_mem {xs : List α} (ha : Asc O κ xs) {y : α} (hy : y ∈ xs) : hit O κ (κ y) xs = true := by
  obtain ⟨A, C, rfl⟩ := List.append_of_mem hy
  exact (found_mid O κ ha).2
theorem at_of_mem {xs : List α} (ha : Asc O κ xs) {y : α} (hy : y ∈ xs) : at? O κ (κ y) xs = some y := by
  obtain ⟨A, C, rfl⟩ := List.append_of_mem hy
  exact at_found O κ ha rfl
theorem mem_of_at {xs : List α} {q : R} {y : α} (h : at? O κ q xs = some y) : y ∈ xs ∧ κ y = q := by
  unfold at? at h
  split at h
  · rename_i hh
    obtain ⟨k, h1, h2⟩ := hit_at O κ hh
    rw [h1] at h; cases h
    exact ⟨List.mem_of_getElem? h1, h2.symm⟩
  · cases h
theorem no_hit {xs : List α} (ha : Asc O κ xs) {q : R} : hit O κ q xs = false ↔ ∀ y ∈ xs, κ y ≠ q := by
  constructor
  · intro h y hy e
    subst e
    rw [hit_of_mem O κ ha hy] at h; cases h
  · intro h
    cases hh : hit O κ q xs with
    | false => rfl
    | true =>
      obtain ⟨k, h1, h2⟩ := hit_at O κ hh
      exact (h k (List.mem_of_getElem? h1) h2.symm).elim
theorem mem_put {xs : List α} (ha : Asc O κ xs) {x y : α} : y ∈ put O κ x xs ↔ y = x ∨ (y ∈ xs ∧ κ y ≠ κ x) := by
  cases hh : hit O κ (κ x) xs with
  | true =>
    obtain ⟨k, h1, h2⟩ := hit_at O κ hh
    have hs := asc_split h1
    generalize xs.take _ = A at hs
    generalize xs.drop _ = C at hs
    subst hs
    rw [put_found O κ ha h2]
    obtain ⟨_, h3, h4⟩ := (Asc.append O κ).1 ha
    have h5 := (List.pairwise_cons.1 h3).1
    simp only [List.mem_append, List.mem_cons]
    constructor
    · rintro (h | h | h)
      · exact .inr ⟨.inl h, by rw [h2]; exact lt_ne O (h4 y h k (by simp))⟩
      · exact .inl h
      · exact .inr ⟨.inr (.inr h), by rw [h2]; exact (lt_ne O (h5 y h)).symm⟩
    · rintro (h | ⟨h | h | h, hne⟩)
      · exact .inr (.inl h)
      · exact .inl h
      · subst h; exact (hne h2.symm).elim
      · exact .inr (.inr h)
  | false =>
    have hn := (no_hit O κ ha).1 hh
    rw [put_leaf O κ hh]
    have hs := List.take_append_drop (lb O κ (κ x) xs) xs
    generalize xs.take _ = A at hs ⊢
    generalize xs.drop _ = C at hs ⊢
    subst hs
    simp only [List.mem_append, List.mem_cons]
    constructor
    · rintro (h | h | h)
      · exact .inr ⟨.inl h, hn y (by simp [h])⟩
      · exact .inl h
      · exact .inr ⟨.inr h, hn y (by simp [h])⟩
    · rintro (h | ⟨h | h, -⟩)
      · exact .inr (.inl h)
      · exact .inl h
      · exact .inr (.inr h)
theorem asc_ext : ∀ {xs ys : List α}, Asc O κ xs → Asc O κ ys → (∀ y, y ∈ xs ↔ y ∈ ys) → xs = ys
  | [], [], _, _, _ => rfl
  | [], y :: ys, _, _, h => by have := (h y).2 (by simp); simp at this
  | x :: xs, [], _, _, h => by have := (h x).1 (by simp); simp at this
  | x :: xs, y :: ys, hx, hy, h => by
    have h1 := (List.pairwise_cons.1 hx).1
    have h2 := (List.pairwise_cons.1 hy).1
    have hxy : x = y := by
      rcases List.mem_cons.1 ((h x).1 (by simp)) with e | e
      · exact e
      · rcases List.mem_cons.1 ((h y).2 (by simp)) with e' | e'
        · exact e'.symm
        · have a := h2 x e
          have b := h1 y e'
          have := O.asym a
          rw [b] at this; cases this
    subst hxy
    have hd : ∀ {zs : List α}, (∀ z ∈ zs, O.lt (κ x) (κ z) = true) → x ∉ zs := fun hz hm => by
      have a := hz x hm
      have := O.asym a
      rw [a] at this; cases this
    rw [asc_ext (List.pairwise_cons.1 hx).2 (List.pairwise_cons.1 hy).2 fun z => ⟨fun hz => by
      rcases List.mem_cons.1 ((h z).1 (by simp [hz])) with e | e
      · subst e; exact (hd h1 hz).elim
      · exact e, fun hz => by
      rcases List.mem_cons.1 ((h z).2 (by simp [hz])) with e | e
      · subst e; exact (hd h2 hz).elim
      · exact e⟩]
/-- The list behind settings. -/
def sets (xs l : List α) : List α := l.foldl (fun xs x => put O κ x xs) xs
theorem sets_snoc (xs l : List α) (x : α) : sets O κ xs (l ++ [x]) = put O κ x (sets O κ xs l) := by simp [sets]
theorem sets_asc {xs : List α} (ha : Asc O κ xs) (l : List α) : Asc O κ (sets O κ xs l) := by
  induction l generalizing xs with
  | nil => exact ha
  | cons x l ih => exact ih (put_asc O κ ha)
theorem snoc_ind {p : List α → Prop} (h0 : p []) (h1 : ∀ l x, p l → p (l ++ [x])) (l : List α) : p l := by
  have : ∀ n (l : List α), l.length = n → p l := by
    intro n
    induction n with
    | zero => intro l hl; rw [List.length_eq_zero_iff.1 hl]; exact h0
    | succ n ih =>
      intro l hl
      have hne : l ≠ [] := fun e => by rw [e] at hl; cases hl
      rw [← List.dropLast_concat_getLast hne]
      exact h1 _ _ (ih _ (by rw [List.length_dropLast]; omega))
  exact this _ l rfl
theorem mem_sets {xs : List α} (ha : Asc O κ xs) (l : List α) (y : α) : y ∈ sets O κ xs l ↔ y ∈ sets O κ [] l ∨ (y ∈ xs ∧ ∀ z ∈ l, κ z ≠ κ y) := by
  induction l using snoc_ind with
  | h0 => simp [sets]
  | h1 l x ih =>
    rw [sets_snoc, sets_snoc, mem_put O κ (sets_asc O κ ha l), mem_put O κ (sets_asc O κ List.Pairwise.nil l), ih]
    constructor
    · rintro (h | ⟨h | ⟨h, h2⟩, h3⟩)
      · exact .inl (.inl h)
      · exact .inl (.inr ⟨h, h3⟩)
      · refine .inr ⟨h, fun z hz => ?_⟩
        rcases List.mem_append.1 hz with hz | hz
        · exact h2 z hz
        · have : z = x := by simpa using hz
          subst this; exact h3.symm
    · rintro ((h | ⟨h, h3⟩) | ⟨h, h2⟩)
      · exact .inl h
      · exact .inr ⟨.inl h, h3⟩
      · exact .inr ⟨.inr ⟨h, fun z hz => h2 z (by simp [hz])⟩, (h2 x (by simp)).symm⟩
theorem sets_twice (l : List α) : sets O κ [] (l ++ l) = sets O κ [] l := by
  have h : sets O κ [] (l ++ l) = sets O κ (sets O κ [] l) l := by simp [sets]
  have ha := sets_asc O κ (List.Pairwise.nil : Asc O κ []) l
  rw [h]
  refine asc_ext O κ (sets_asc O κ ha l) ha fun y => ?_
  rw [mem_sets O κ ha]
  exact ⟨fun h => h.elim id (·.1), .inl⟩
end
end Go.Proofs.Ytjaolgehpnmieaa
/-
  Whether a set bears a key. No condition.
-/
set_option linter.unusedSimpArgs false
set_option linter.unusedVariables false
namespace Go.Proofs.Ytjaolgehpnmieaa
open Go Go.Proofs
theorem treeK_asc (l : List It) : Asc O κ (tree l) := by
  have : ∀ (l : List It) (xs : List It), Asc O κ xs → Asc O κ (l.foldl (fun xs x => put O κ x xs) xs) := by
    intro l
    induction l with
    | nil => intro xs h; exact h
    | cons x l ih => intro xs h; exact ih _ (put_asc O κ h)
  exact this l [] List.Pairwise.nil
theorem mem_its : ∀ (n : Nat) (l : List Int), l.length = n → ∀ y, y ∈ tree (its l) ↔ y ∈ its l
  | 0, l, h, y => by
    obtain rfl : l = [] := List.eq_nil_of_length_eq_zero h
    exact Iff.rfl
  | n + 1, l, h, y => by
    obtain ⟨l', x, rfl⟩ : ∃ l' x, l = l' ++ [x] := ⟨l.dropLast, l.getLast (by intro e; simp [e] at h), (List.dropLast_concat_getLast _).symm⟩
    have ih := mem_its n l' (by simpa using h) y
    have e1 : its (l' ++ [x]) = its l' ++ [toIt x] := by simp [its]
    have e2 : tree (its l' ++ [toIt x]) = put O κ (toIt x) (tree (its l')) := by simp [tree]
    rw [e1, e2, mem_put O κ (treeK_asc _), ih, List.mem_append, List.mem_singleton]
    constructor
    · rintro (h | h)
      · exact .inr h
      · exact .inl h.1
    · rintro (h | h)
      · by_cases hk : κ y = κ (toIt x)
        · refine .inl ?_
          obtain ⟨a, -, rfl⟩ := List.mem_map.1 h
          have : a = x := hk
          rw [this]
        · exact .inr ⟨h, hk⟩
      · exact .inl h
theorem hit_its (l : List Int) (k : Int) : hit O κ k (tree (its l)) = decide (k ∈ l) := by
  by_cases hk : k ∈ l
  · rw [decide_eq_true hk]
    exact hit_of_mem O κ (treeK_asc _) (y := toIt k) ((mem_its _ l rfl _).2 (List.mem_map.2 ⟨k, hk, rfl⟩))
  · rw [decide_eq_false hk]
    refine (no_hit O κ (treeK_asc _)).2 fun y hy e => hk ?_
    obtain ⟨a, ha, rfl⟩ := List.mem_map.1 ((mem_its _ l rfl _).1 hy)
    have : a = k := e
    rw [← this]; exact ha
theorem not_left (l : List Int) (k : Int) : k ∉ (delsK (tree (its l)) (its [k])).map κ := by
  intro h
  obtain ⟨y, hy, e⟩ := List.mem_map.1 h
  have hy : y ∈ del O κ k (tree (its l)) := hy
  have ha := treeK_asc (its l)
  generalize tree (its l) = xs at *
  cases hh : hit O κ k xs with
  | false =>
    simp only [del, hh, Bool.false_eq_true, ↓reduceIte] at hy
    exact (no_hit O κ ha).1 hh y hy e
  | true =>
    simp only [del, hh, ↓reduceIte] at hy
    obtain ⟨z, hz, hq⟩ := hit_at O κ hh
    have hs := asc_split hz
    rw [List.eraseIdx_eq_take_drop_succ] at hy
    rw [hs] at ha
    obtain ⟨-, a2, a3⟩ := (Asc.append O κ).1 ha
    rcases List.mem_append.1 hy with h | h
    · exact lt_ne O (a3 y h z (by simp)) (e.trans hq)
    · exact lt_ne O ((List.pairwise_cons.1 a2).1 y h) (hq.symm.trans e.symm)
/-- Truth values as cells. -/
def Eb : Enc Bool where
  cel x := [.bool x]
  sz := 1
  len _ := rfl
  one x v hv := by simp at hv; rcases hv with rfl; rfl
  pos := by decide
theorem bV_at {w : World} {b o : Nat} {xs : List Bool} (h : Row w b o (flat Eb xs)) {i : Nat} {x : Bool} (hi : xs[i]? = some x) : rd w b (o + i) = some (.bool x) := by
  have := row_cell (row_at Eb h hi) (j := 0) rfl
  rwa [show Eb.sz = 1 from rfl, Nat.mul_one] at this
theorem el_b : elK Try.prog 28 = some (4, 1, 1, [.bool false]) := by kernel_rfl
theorem ni_b : noInt Try.prog 28 = true := by kernel_rfl
theorem bs_b1 (x : Bool) : bsV Try.prog 28 1 [(0, .bool x)] = some (4, Eb.cel x) := by kernel_rfl
theorem eq_bb (x : Bool) : binV Try.prog .eql 4 (.bool x) (.bool x) = some (.bool true) := by
  have h : binV Try.prog .eql 4 (.bool x) (.bool x) = some (.bool (x == x)) := by kernel_rfl
  rw [h, beq_self_eq_true]
theorem DOf.two' {d : Nat} {xs : List It} (h : DOf d xs) : xs ≠ [] → 2 ≤ d ∧ d ≤ 128 := fun hne => by
  rcases h with rfl | ⟨-, h⟩
  · omega
  · exact (hne h).elim
set_option maxHeartbeats 800000 in
set_option maxRecDepth 8000 in
theorem scontains_any (m : Nat) (k : Int) (xs : List It) (F : Nat → Nat → Prop) (w : World) (h : SetAt w m xs F) :
    CallK Try.prog 34 #[ptr m, .int .i64 k] w fun v w' => v = .bool (hit O κ k xs) ∧ Ext noF w w' := by
  obtain ⟨d, hd, hM⟩ := h
  refine calls_of_W [.tmp 4] Try.func34 rfl Try.ntmps34 Try.results34 (by simp) fun e he => ?_
  have e0 : e 0 = ptr m := he 0 _ rfl
  have e1 : e 1 = .int .i64 k := he 1 _ rfl
  clear he
  refine W_sq fun K hK => (W_text [true] (by kernel_rfl) ?_); simp only [↓List.toList_toArray, ↓rgd, ↓rgf, ↓reduceIte, Nat.reduceEqDiff, rg, ow_34]
  refine hK _ _ ?_; clear hK K
  refine W_sq fun K hK => (W_text [true, true, true, true, false, true, true, true, false, false, true] (by kernel_rfl) ?_); simp only [↓List.toList_toArray, ↓rgd, ↓rgf, ↓reduceIte, Nat.reduceEqDiff, rg, ow_34, e0, e1, ptr_eq]
  refine do_call fn_51 (by simp only [evt, evc, upd_eq, Nat.reduceEqDiff, ↓reduceIte, maT, maC, maN, isnN, isnS] <;> rfl) (getM_any m d 0 xs hd.two' F k w hM) ?_
  rintro _ w1 ⟨rfl, X1⟩
  refine ⟨trivial, ?_⟩
  simp only [↓List.toList_toArray, ↓rgd, ↓rgf, ↓reduceIte, Nat.reduceEqDiff, rg, ow_34]
  refine do_alloc z_unit fun w2 n2 => ⟨trivial, ?_⟩
  simp only [↓List.toList_toArray, ↓rgd, ↓rgf, ↓reduceIte, Nat.reduceEqDiff, rg, ow_34]
  refine do_store (by simp only [evt, evc, upd_eq, Nat.reduceEqDiff, ↓reduceIte, ntT, ntF] <;> rfl) (by simp only [evt, evc, upd_eq, Nat.reduceEqDiff, ↓reduceIte, ntT, ntF] <;> rfl) sz_74 rfl n2.wok (by decide) (fun _ h => by cases h) fun w3 x3 r3 s3 => ⟨trivial, ?_⟩
  simp only [↓List.toList_toArray, ↓rgd, ↓rgf, ↓reduceIte, Nat.reduceEqDiff, rg, ow_34]
  refine hK _ _ ?_; clear hK K
  refine W_sq fun K hK => (W_text [true, true] (by kernel_rfl) ?_); simp only [↓List.toList_toArray, ↓rgd, ↓rgf, ↓reduceIte, Nat.reduceEqDiff, rg, ow_34]
  refine hK _ _ ?_; clear hK K
  exact W_ret (endQ_1 (by simp only [upd_eq, Nat.reduceEqDiff, ↓reduceIte] <;> rfl) ⟨rfl, noF_of (X1.tr n2.ext) x3 fun y o hy h => by simp only [rng] at h; omega⟩)
set_option maxHeartbeats 800000 in
set_option maxRecDepth 8000 in
theorem index_any (l : List Int) (k : Int) (lv : Value) (w : World) (hl : SlN w lv l) (hbig : l.length ≤ 2147483647) :
    CallK Try.prog 36 #[lv, .int .i64 k] w fun v w' => (∃ r : Int, v = .int .i64 r ∧ decide (0 ≤ r) = decide (k ∈ l)) ∧ Ext noF w w' := by
  refine calls_of_W [.tmp 4] Try.func36 rfl Try.ntmps36 Try.results36 (by simp) fun e he => ?_
  have e0 : e 0 = lv := he 0 _ rfl
  have e1 : e 1 = .int .i64 k := he 1 _ rfl
  clear he
  obtain ⟨ka, kc, hkv⟩ := SlV.shape hl
  rw [hkv] at e0
  refine W_sq fun K hK => (W_text [true] (by kernel_rfl) ?_); simp only [↓List.toList_toArray, ↓rgd, ↓rgf, ↓reduceIte, Nat.reduceEqDiff, rg, ow_36]
  refine hK _ _ ?_; clear hK K
  refine W_seq (W_seq ?_)
  refine W_rg fun K hK => (W_text [true, true, true] (by kernel_rfl) ?_); simp only [↓List.toList_toArray, ↓rgd, ↓rgf, ↓reduceIte, Nat.reduceEqDiff, rg, ow_36, e0]
  refine hK _ _ ?_; clear hK K
  show W _ _ _ _ _ _
  refine W_block (W_loop (fun mm e w' => ∃ i : Nat, mm = l.length - i ∧ i ≤ l.length ∧ e 0 = .slice ka l.length kc ∧ e 1 = .int .i64 k ∧ e 7 = .int .i64 l.length ∧ e 8 = .int .i64 i ∧ (∀ x ∈ l.take i, x ≠ k) ∧ w' = w)
    l.length ⟨0, by simp, by simp, by simp only [upd_eq, Nat.reduceEqDiff, ↓reduceIte]; exact e0, by simp only [upd_eq, Nat.reduceEqDiff, ↓reduceIte]; exact e1, by simp only [upd_eq, Nat.reduceEqDiff, ↓reduceIte], by simp only [upd_eq, Nat.reduceEqDiff, ↓reduceIte]; rfl, by simp, rfl⟩ ?_)
  clear e0 e1 e
  rintro mm e _ ⟨i, rfl, hi, e0, e1, e7, e8, hno, rfl⟩
  by_cases hlt : i < l.length
  · have ht := lt_tt i l.length hlt
    refine W_sq fun K hK => (W_text [true] (by kernel_rfl) ?_); simp only [↓List.toList_toArray, ↓rgd, ↓rgf, ↓reduceIte, Nat.reduceEqDiff, rg, ow_36, e7, e8, ht]
    refine hK _ _ ?_; clear hK K
    refine W_seq (W_true (by simp only [evt, evc, upd_eq, Nat.reduceEqDiff, ↓reduceIte, ntT, ntF] <;> rfl) (W_skip ?_))
    show W _ _ _ _ _ _
    obtain ⟨x, hx⟩ : ∃ x, l[i]? = some x := ⟨_, List.getElem?_eq_getElem hlt⟩
    obtain ⟨ib, io, hka, row⟩ := SlV.at hl hkv hlt
    have hibl := SlV.lt hl (hkv.trans (by rw [hka]))
    have ix := nV_at row hx
    rw [hka] at e0
    refine W_seq (W_block ?_)
    refine W_sq fun K hK => (W_text [true, true] (by kernel_rfl) ?_); simp only [↓List.toList_toArray, ↓rgd, ↓rgf, ↓reduceIte, Nat.reduceEqDiff, rg, ow_36, e8]
    refine hK _ _ ?_; clear hK K
    have hxm : x ∈ l := List.mem_of_getElem? hx
    by_cases hxk : x = k
    · have hd : (k == x) = true := by simp [hxk]
      refine W_sq fun K hK => (W_text [true, true, true, true, true, true] (by kernel_rfl) ?_); simp only [↓List.toList_toArray, ↓rgd, ↓rgf, ↓reduceIte, Nat.reduceEqDiff, rg, ow_36, e0, e1, hlt, ix, hd]
      refine hK _ _ ?_; clear hK K
      refine W_true (by simp only [evt, evc, upd_eq, Nat.reduceEqDiff, ↓reduceIte, ntT, ntF] <;> rfl) ?_
      refine W_sq fun K hK => (W_text [true, true] (by kernel_rfl) ?_); simp only [↓List.toList_toArray, ↓rgd, ↓rgf, ↓reduceIte, Nat.reduceEqDiff, rg, ow_36]
      refine hK _ _ ?_; clear hK K
      refine W_ret ?_
      simp only [andThen_ret, inBlk_ret]
      exact endQ_1 (by simp only [upd_eq, Nat.reduceEqDiff, ↓reduceIte] <;> rfl) ⟨⟨_, rfl, by rw [decide_eq_true (show k ∈ l by rw [← hxk]; exact hxm)]; simp⟩, Ext.refl _ _⟩
    · have hd : (k == x) = false := by simp; exact fun e => hxk e.symm
      refine W_sq fun K hK => (W_text [true, true, true, true, true, true] (by kernel_rfl) ?_); simp only [↓List.toList_toArray, ↓rgd, ↓rgf, ↓reduceIte, Nat.reduceEqDiff, rg, ow_36, e0, e1, hlt, ix, hd]
      refine hK _ _ ?_; clear hK K
      refine W_false (by simp only [evt, evc, upd_eq, Nat.reduceEqDiff, ↓reduceIte, ntT, ntF] <;> rfl) (W_skip ?_)
      show W _ _ _ _ _ _
      have q2 := wadd1 i (by omega)
      rw [← hka] at e0
      refine W_rg fun K hK => (W_text [true, true] (by kernel_rfl) ?_); simp only [↓List.toList_toArray, ↓rgd, ↓rgf, ↓reduceIte, Nat.reduceEqDiff, rg, ow_36, e8, q2]
      refine hK _ _ ?_; clear hK K
      refine ⟨_, ?_, i + 1, rfl, hlt, by simp only [upd_eq, Nat.reduceEqDiff, ↓reduceIte]; exact e0, by simp only [upd_eq, Nat.reduceEqDiff, ↓reduceIte]; exact e1, by simp only [upd_eq, Nat.reduceEqDiff, ↓reduceIte]; exact e7, by simp only [upd_eq, Nat.reduceEqDiff, ↓reduceIte], fun y hy => ?_, rfl⟩
      · omega
      · rw [take_snoc hx] at hy
        rcases List.mem_append.1 hy with h | h
        · exact hno y h
        · rw [List.mem_singleton.1 h]; exact hxk
  · obtain rfl : i = l.length := by omega
    have ht := lt_ff l.length l.length (by omega)
    refine W_sq fun K hK => (W_text [true] (by kernel_rfl) ?_); simp only [↓List.toList_toArray, ↓rgd, ↓rgf, ↓reduceIte, Nat.reduceEqDiff, rg, ow_36, e7, e8, ht]
    refine hK _ _ ?_; clear hK K
    refine W_seq (W_false (by simp only [evt, evc, upd_eq, Nat.reduceEqDiff, ↓reduceIte, ntT, ntF] <;> rfl) (W_exit ?_))
    simp only [andThen_exit, inBlk_exit, andThen_normal, ↓reduceIte]
    refine W_sq fun K hK => (W_text [true] (by kernel_rfl) ?_); simp only [↓List.toList_toArray, ↓rgd, ↓rgf, ↓reduceIte, Nat.reduceEqDiff, rg, ow_36]
    refine hK _ _ ?_; clear hK K
    rw [List.take_length] at hno
    exact W_ret (endQ_1 (by simp only [upd_eq, Nat.reduceEqDiff, ↓reduceIte] <;> rfl) ⟨⟨_, rfl, by rw [decide_eq_false fun h => hno k h rfl]; rfl⟩, Ext.refl _ _⟩)
set_option maxHeartbeats 800000 in
set_option maxRecDepth 8000 in
theorem contains_any (l : List Int) (k : Int) (lv : Value) (w : World) (hl : SlN w lv l) (hbig : l.length ≤ 2147483647) :
    CallK Try.prog 20 #[lv, .int .i64 k] w fun v w' => v = .bool (decide (k ∈ l)) ∧ Ext noF w w' := by
  refine calls_of_W [.tmp 4] Try.func20 rfl Try.ntmps20 Try.results20 (by simp) fun e he => ?_
  have e0 : e 0 = lv := he 0 _ rfl
  have e1 : e 1 = .int .i64 k := he 1 _ rfl
  clear he
  refine W_sq fun K hK => (W_text [true] (by kernel_rfl) ?_); simp only [↓List.toList_toArray, ↓rgd, ↓rgf, ↓reduceIte, Nat.reduceEqDiff, rg, ow_20]
  refine hK _ _ ?_; clear hK K
  refine W_sq fun K hK => (W_text [true, true, false, true, true] (by kernel_rfl) ?_); simp only [↓List.toList_toArray, ↓rgd, ↓rgf, ↓reduceIte, Nat.reduceEqDiff, rg, ow_20, e0, e1]
  refine do_call fn_36 (by simp only [evt, evc, upd_eq, Nat.reduceEqDiff, ↓reduceIte, maT, maC, maN, isnN, isnS] <;> rfl) (index_any l k lv w hl hbig) ?_
  rintro _ w1 ⟨⟨r, rfl, hr⟩, X1⟩
  refine ⟨trivial, ?_⟩
  simp only [↓List.toList_toArray, ↓rgd, ↓rgf, ↓reduceIte, Nat.reduceEqDiff, rg, ow_20, hr]
  refine hK _ _ ?_; clear hK K
  exact W_ret (endQ_1 (by simp only [upd_eq, Nat.reduceEqDiff, ↓reduceIte] <;> rfl) ⟨rfl, X1⟩)
set_option maxHeartbeats 800000 in
set_option maxRecDepth 8000 in
theorem impl_scontains (l : List Int) (lv : Value) (ks : List Int) (kv : Value) (w : World) (hl : SlN w lv l) (hbig : l.length ≤ 2147483647) (hks : SlN w kv ks) (hkb : ks.length ≤ 2147483647) :
    CallK Try.prog 18 #[lv, kv] w fun v w' => SlV w' 1 v (ks.map fun q => hit O κ q (tree (its l))).length (flat Eb (ks.map fun q => hit O κ q (tree (its l)))) ∧ Ext noF w w' := by
  refine calls_of_W [.tmp 4] Try.func18 rfl Try.ntmps18 Try.results18 (by simp) fun e he => ?_
  have e0 : e 0 = lv := he 0 _ rfl
  have e1 : e 1 = kv := he 1 _ rfl
  clear he
  obtain ⟨ka, kc, hkv⟩ := SlV.shape hks
  rw [hkv] at e1
  have hkl : ∀ b o n c, kv = .slice (some ⟨b, o, none⟩) n c → b < w.heap.size := fun b o n c h => SlV.lt hks h
  refine W_sq fun K hK => (W_text [true] (by kernel_rfl) ?_); simp only [↓List.toList_toArray, ↓rgd, ↓rgf, ↓reduceIte, Nat.reduceEqDiff, rg, ow_18]
  refine hK _ _ ?_; clear hK K
  refine W_sq fun K hK => (W_text [true, false, true] (by kernel_rfl) ?_); simp only [↓List.toList_toArray, ↓rgd, ↓rgf, ↓reduceIte, Nat.reduceEqDiff, rg, ow_18, e0]
  refine do_call fn_30 (by simp only [evt, evc, upd_eq, Nat.reduceEqDiff, ↓reduceIte, maT, maC, maN, isnN, isnS] <;> rfl) (grow_any l lv w hl hbig) ?_
  rintro _ w1 ⟨X1, m, F, rfl, hM0, hmg, hF0⟩
  refine ⟨trivial, ?_⟩
  simp only [↓List.toList_toArray, ↓rgd, ↓rgf, ↓reduceIte, Nat.reduceEqDiff, rg, ow_18]
  refine hK _ _ ?_; clear hK K
  refine W_sq fun K hK => (W_text [true] (by kernel_rfl) ?_); simp only [↓List.toList_toArray, ↓rgd, ↓rgf, ↓reduceIte, Nat.reduceEqDiff, rg, ow_18]
  refine hK _ _ ?_; clear hK K
  have hks0 := SlV.ext0 hks X1
  have s1 := X1.size

  refine W_seq (W_seq ?_)
  refine W_rg fun K hK => (W_text [true, true, true] (by kernel_rfl) ?_); simp only [↓List.toList_toArray, ↓rgd, ↓rgf, ↓reduceIte, Nat.reduceEqDiff, rg, ow_18, e1]
  refine hK _ _ ?_; clear hK K
  show W _ _ _ _ _ _
  refine W_block (W_loop (fun mm e w' => ∃ k : Nat, mm = ks.length - k ∧ k ≤ ks.length ∧ e 11 = .slice ka ks.length kc ∧ e 12 = .int .i64 ks.length ∧ e 13 = .int .i64 k ∧ e 5 = ptr m ∧ OutE Eb w1.heap.size (e 6) ((ks.take k).map fun q => hit O κ q (tree (its l))) w' ∧ Ext (fun y _ => w1.heap.size ≤ y) w1 w')
    ks.length ⟨0, by simp, by simp, by simp only [upd_eq, Nat.reduceEqDiff, ↓reduceIte], by simp only [upd_eq, Nat.reduceEqDiff, ↓reduceIte], by simp only [upd_eq, Nat.reduceEqDiff, ↓reduceIte]; rfl, by simp only [upd_eq, Nat.reduceEqDiff, ↓reduceIte] <;> rfl, by simp only [upd_eq, Nat.reduceEqDiff, ↓reduceIte]; exact OutE.nil _ _ _, Ext.refl _ _⟩ ?_)
  clear e0 e1 e
  rintro mm e w' ⟨k, rfl, hk, eS, eL, eI, eM, hO, X⟩
  by_cases hlt : k < ks.length
  · have ht := lt_tt k ks.length hlt
    refine W_sq fun K hK => (W_text [true] (by kernel_rfl) ?_); simp only [↓List.toList_toArray, ↓rgd, ↓rgf, ↓reduceIte, Nat.reduceEqDiff, rg, ow_18, eL, eI, ht]
    refine hK _ _ ?_; clear hK K
    refine W_seq (W_true (by simp only [evt, evc, upd_eq, Nat.reduceEqDiff, ↓reduceIte, ntT, ntF] <;> rfl) (W_skip ?_))
    show W _ _ _ _ _ _
    obtain ⟨x, hx⟩ : ∃ x, ks[k]? = some x := ⟨_, List.getElem?_eq_getElem hlt⟩
    obtain ⟨ib, io, hka, row⟩ := SlV.at hks0 hkv hlt
    have hibl := SlV.lt hks0 (hkv.trans (by rw [hka]))
    have ixx := nV_at (X.row row (fun _ _ h => by have := hkl _ _ _ _ (hkv.trans (by rw [hka])); omega)) hx
    rw [hka] at eS
    refine W_seq (W_block ?_)
    refine W_sq fun K hK => (W_text [true, true, true] (by kernel_rfl) ?_); simp only [↓List.toList_toArray, ↓rgd, ↓rgf, ↓reduceIte, Nat.reduceEqDiff, rg, ow_18, eS, eI, hlt, ixx]
    refine hK _ _ ?_; clear hK K
    rw [← hka] at eS
    have sX := X.size
    refine W_rg fun K hK => (W_text [true, true, true, false, false, false, true] (by kernel_rfl) ?_); simp only [↓List.toList_toArray, ↓rgd, ↓rgf, ↓reduceIte, Nat.reduceEqDiff, rg, ow_18, eM]
    refine do_call fn_34 (by simp only [evt, evc, upd_eq, Nat.reduceEqDiff, ↓reduceIte, maT, maC, maN, isnN, isnS] <;> rfl) (scontains_any m x _ F w' (hM0.extG X (fun y o g => by have := hM0.lt y o g; omega) (fun o => by have := hM0.mlt; omega))) ?_
    rintro _ w4 ⟨rfl, X4⟩
    refine ⟨trivial, ?_⟩
    simp only [↓List.toList_toArray, ↓rgd, ↓rgf, ↓reduceIte, Nat.reduceEqDiff, rg, ow_18]
    refine do_bsl rfl (bs_b1 _) fun w5 n5 => ⟨trivial, ?_⟩
    simp only [↓List.toList_toArray, ↓rgd, ↓rgf, ↓reduceIte, Nat.reduceEqDiff, rg, ow_18]
    have X5 := X4.tr n5.ext
    have s5 := X5.size
    have hx5 : SlV w5 1 (.slice (some ⟨w4.heap.size, 0, none⟩) 1 1) 1 (Eb.cel (hit O κ x (tree (its l)))) := ⟨rfl, .inr ⟨_, 0, 1, rfl, Nat.le_refl _, n5.row, n5.wok.R (Nat.le_refl _)⟩⟩
    have htk : ((ks.take k).map fun q => hit O κ q (tree (its l))).length ≤ k := by rw [List.length_map, List.length_take]; omega
    refine do_append (by simp only [evt, evc, upd_eq, Nat.reduceEqDiff, ↓reduceIte, ntT, ntF] <;> rfl) (by simp only [evt, evc, upd_eq, Nat.reduceEqDiff, ↓reduceIte, ntT, ntF] <;> rfl) el_b rfl ni_b (hO.ext X5).sl hx5 (by omega) (by decide) (Eb.one _) fun v6 w6 a6 => ?_
    obtain ⟨hO6, X6⟩ := (hO.ext X5).app a6 (by omega)
    refine ⟨trivial, ?_⟩
    simp only [↓List.toList_toArray, ↓rgd, ↓rgf, ↓reduceIte, Nat.reduceEqDiff, rg, ow_18]
    refine hK _ _ ?_; clear hK K
    show W _ _ _ _ _ _
    have q1 := wadd1 k (by omega)
    refine W_rg fun K hK => (W_text [true, true] (by kernel_rfl) ?_); simp only [↓List.toList_toArray, ↓rgd, ↓rgf, ↓reduceIte, Nat.reduceEqDiff, rg, ow_18, eI, q1]
    refine hK _ _ ?_; clear hK K
    refine ⟨_, ?_, k + 1, rfl, hlt, by simp only [upd_eq, Nat.reduceEqDiff, ↓reduceIte]; exact eS, by simp only [upd_eq, Nat.reduceEqDiff, ↓reduceIte]; exact eL, by simp only [upd_eq, Nat.reduceEqDiff, ↓reduceIte], by simp only [upd_eq, Nat.reduceEqDiff, ↓reduceIte]; exact eM, by simp only [upd_eq, Nat.reduceEqDiff, ↓reduceIte]; rw [take_snoc hx, List.map_append]; exact hO6, (X.tr (X5.mono fun _ _ _ h => h.elim)).tr X6⟩
    omega
  · obtain rfl : k = ks.length := by omega
    have ht := lt_ff ks.length ks.length (by omega)
    refine W_sq fun K hK => (W_text [true] (by kernel_rfl) ?_); simp only [↓List.toList_toArray, ↓rgd, ↓rgf, ↓reduceIte, Nat.reduceEqDiff, rg, ow_18, eL, eI, ht]
    refine hK _ _ ?_; clear hK K
    refine W_seq (W_false (by simp only [evt, evc, upd_eq, Nat.reduceEqDiff, ↓reduceIte, ntT, ntF] <;> rfl) (W_exit ?_))
    simp only [andThen_exit, inBlk_exit, andThen_normal, ↓reduceIte]
    refine W_sq fun K hK => (W_text [true, true] (by kernel_rfl) ?_); simp only [↓List.toList_toArray, ↓rgd, ↓rgf, ↓reduceIte, Nat.reduceEqDiff, rg, ow_18]
    refine hK _ _ ?_; clear hK K
    rw [List.take_length] at hO
    exact W_ret (endQ_1 (by simp only [upd_eq, Nat.reduceEqDiff, ↓reduceIte] <;> rfl) ⟨hO.sl, noF_of X1 X fun y o hy h => by omega⟩)
end Go.Proofs.Ytjaolgehpnmieaa
/-
  FnSContains returns true, whatever the arguments. No condition.
-/
set_option linter.unusedSimpArgs false
set_option linter.unusedVariables false
namespace Go.Proofs.Ytjaolgehpnmieaa
open Go Go.Proofs
set_option maxHeartbeats 800000 in
set_option maxRecDepth 8000 in
theorem top_FnSContains (a0 : List Int) (v0 : Value) (a1 : Int) (w : World) (g0 : SlN w v0 a0) :
    CallK Try.prog 8 #[v0, .int .i64 a1] w fun v w' => v = .bool true ∧ Ext noF w w' := by
  obtain ⟨p0, c0, hv0⟩ := SlV.shape g0
  refine calls_of_W [.tmp 4] Try.func8 rfl Try.ntmps8 Try.results8 (by simp) fun e he => ?_
  have e0 : e 0 = v0 := he 0 _ rfl
  have e1 : e 1 = .int .i64 a1 := he 1 _ rfl
  clear he
  refine W_sq fun K hK => (W_text [true] (by kernel_rfl) ?_); simp only [↓List.toList_toArray, ↓rgd, ↓rgf, ↓reduceIte, Nat.reduceEqDiff, rg, ow_8]
  refine hK _ _ ?_; clear hK K
  refine W_seq ?_
  by_cases hb0 : a0.length ≤ 2147483647
  case neg =>
    have t0 : decide ((2147483647 : Int) < (a0.length : Int)) = true := by simp; omega
    refine W_sq fun K hK => (W_text [true, true, true] (by kernel_rfl) ?_); simp only [↓List.toList_toArray, ↓rgd, ↓rgf, ↓reduceIte, Nat.reduceEqDiff, rg, ow_8, e0, hv0, t0]
    refine hK _ _ ?_; clear hK K
    refine W_true (by simp only [evt, evc, upd_eq, Nat.reduceEqDiff, ↓reduceIte, ntT, ntF] <;> rfl) ?_
    refine W_sq fun K hK => (W_text [true] (by kernel_rfl) ?_); simp only [↓List.toList_toArray, ↓rgd, ↓rgf, ↓reduceIte, Nat.reduceEqDiff, rg, ow_8]
    refine hK _ _ ?_; clear hK K
    refine W_ret ?_
    simp only [andThen_ret]
    exact endQ_1 (by simp only [upd_eq, Nat.reduceEqDiff, ↓reduceIte] <;> rfl) ⟨rfl, Ext.refl _ _⟩
  have t0 : decide ((2147483647 : Int) < (a0.length : Int)) = false := by simp; omega
  refine W_sq fun K hK => (W_text [true, true, true] (by kernel_rfl) ?_); simp only [↓List.toList_toArray, ↓rgd, ↓rgf, ↓reduceIte, Nat.reduceEqDiff, rg, ow_8, e0, hv0, t0]
  refine hK _ _ ?_; clear hK K
  refine W_false (by simp only [evt, evc, upd_eq, Nat.reduceEqDiff, ↓reduceIte, ntT, ntF] <;> rfl) (W_skip ?_)
  show W _ _ _ _ _ _
  have htl := tree_len (its a0)
  rw [its_length] at htl
  refine W_sq fun K hK => (W_text [true, true, false, false, true] (by kernel_rfl) ?_); simp only [↓List.toList_toArray, ↓rgd, ↓rgf, ↓reduceIte, Nat.reduceEqDiff, rg, ow_8, e0, e1]
  refine do_bsl rfl (bs_n1 a1) fun w1 n1 => ⟨trivial, ?_⟩
  simp only [↓List.toList_toArray, ↓rgd, ↓rgf, ↓reduceIte, Nat.reduceEqDiff, rg, ow_8]
  have h1 : SlN w1 (.slice (some ⟨w.heap.size, 0, none⟩) 1 1) [a1] := ⟨rfl, .inr ⟨_, 0, 1, rfl, Nat.le_refl _, n1.row, n1.wok.R (Nat.le_refl _)⟩⟩
  refine do_call fn_18 (by simp only [evt, evc, upd_eq, Nat.reduceEqDiff, ↓reduceIte, maT, maC, maN, isnN, isnS] <;> rfl) (impl_scontains a0 v0 [a1] _ w1 (SlV.ext0 g0 n1.ext) hb0 h1 (by simp)) ?_
  rintro gv w2 ⟨h2, X2⟩
  refine ⟨trivial, ?_⟩
  simp only [↓List.toList_toArray, ↓rgd, ↓rgf, ↓reduceIte, Nat.reduceEqDiff, rg, ow_8]
  refine hK _ _ ?_; clear hK K
  have h2 : SlV w2 1 gv 1 (flat Eb [decide (a1 ∈ a0)]) := by rw [← hit_its]; exact h2
  have Y2 := n1.ext.tr X2
  refine W_sq fun K hK => (W_text [true, true, false, false, true] (by kernel_rfl) ?_); simp only [↓List.toList_toArray, ↓rgd, ↓rgf, ↓reduceIte, Nat.reduceEqDiff, rg, ow_8, e0, e1]
  refine do_bsl rfl (bs_n1 a1) fun w3 n3 => ⟨trivial, ?_⟩
  simp only [↓List.toList_toArray, ↓rgd, ↓rgf, ↓reduceIte, Nat.reduceEqDiff, rg, ow_8]
  have Y3 := Y2.tr n3.ext
  have h3 : SlN w3 (.slice (some ⟨w2.heap.size, 0, none⟩) 1 1) [a1] := ⟨rfl, .inr ⟨_, 0, 1, rfl, Nat.le_refl _, n3.row, n3.wok.R (Nat.le_refl _)⟩⟩
  refine do_call fn_19 (by simp only [evt, evc, upd_eq, Nat.reduceEqDiff, ↓reduceIte, maT, maC, maN, isnN, isnS] <;> rfl) (impl_sdelete a0 v0 [a1] _ w3 (SlV.ext0 g0 Y3) hb0 h3 (by simp)) ?_
  rintro lv w4 ⟨h4, X4⟩
  refine ⟨trivial, ?_⟩
  simp only [↓List.toList_toArray, ↓rgd, ↓rgf, ↓reduceIte, Nat.reduceEqDiff, rg, ow_8]
  refine hK _ _ ?_; clear hK K
  have Y4 := Y3.tr X4
  have g4 := SlV.ext0 h2 (n3.ext.tr X4)
  obtain ⟨ga, gc, hgv⟩ := SlV.shape g4
  obtain ⟨ib, io, hga, row⟩ := SlV.at g4 hgv (show 0 < 1 by decide)
  have ix := bV_at row (i := 0) rfl
  rw [Nat.add_zero] at ix
  subst hga
  subst hgv
  have hib := SlV.lt g4 rfl
  have hnl := not_left a0 a1
  have hdl := delsK_len (its [a1]) (tree (its a0))
  have M1 : readsB (some (some [ib])) ib = true := by simp [readsB]
  have keep : ∀ {a b : World}, Ext noF a b → w4.heap.size ≤ a.heap.size → keeps (some (some [ib])) a b := fun x h => keeps_on x fun y hy => ⟨by
    simp only [List.mem_cons, List.not_mem_nil, or_false] at hy
    omega, fun _ g => g⟩
  have hlt01 : (0 : Nat) < 1 := by decide
  have t1 : (((1 : Nat) : Int) == 1) = true := rfl
  refine W_sq fun K hK => (W_free (some (some [ib])) (.take 0 (.take 1 (.take 2 (.take 3 (.take 4 (.take 5 (.take 6 (.take 7 (.take 8 (.act 9 (.take 10 (.take 11 (.take 12 (.take 13 (.take 14 (.bar 15 (.take 16 (.take 17 (.take 18 (.bar 19 (.take 20 (.take 21 .nil)))))))))))))))))))))) mixed (by kernel_rfl) ?_); simp only [↓List.toList_toArray, ↓rgd, ↓rgf, ↓reduceIte, Nat.reduceEqDiff, rg, ow_8, e0, e1, ix, M1, ix0 _ _ _ _ hlt01, t1]
  refine do_call fn_20 (by simp only [evt, evc, upd_eq, Nat.reduceEqDiff, ↓reduceIte, maT, maC, maN, isnN, isnS] <;> rfl) (contains_any a0 a1 v0 _ (SlV.ext0 g0 (Y4.tr (Ext.dr _ _ _))) hb0) ?_
  rintro _ w5 ⟨rfl, X5⟩
  have S5 := X5.size
  rw [sz_dr] at S5
  refine ⟨by first | exact trivial | exact .inr (keep X5 (by rw [sz_dr]; omega)), ?_⟩
  simp only [↓List.toList_toArray, ↓rgd, ↓rgf, ↓reduceIte, Nat.reduceEqDiff, rg, ow_8, e0, e1, ix, M1, eq_bb]
  have Y5 := (Y4.tr (Ext.dr _ _ _)).tr X5
  have g4' := SlV.ext0 h4 ((Ext.dr _ _ _).tr X5)
  refine do_call fn_20 (by simp only [evt, evc, upd_eq, Nat.reduceEqDiff, ↓reduceIte, maT, maC, maN, isnN, isnS] <;> rfl) (contains_any _ a1 lv w5 g4' (by rw [List.length_map]; omega)) ?_
  rintro _ w6 ⟨rfl, X6⟩
  rw [decide_eq_false hnl]
  have Y6 := Y5.tr X6
  refine ⟨by first | exact trivial | exact .inr (keep X6 (by omega)), ?_⟩
  simp only [↓List.toList_toArray, ↓rgd, ↓rgf, ↓reduceIte, Nat.reduceEqDiff, rg, ow_8, e0, e1, ix, M1, eq_bb]
  refine do_call fn_13 (by simp only [evt, evc, upd_eq, Nat.reduceEqDiff, ↓reduceIte, maT, maC, maN, isnN, isnS] <;> rfl) (aliveS_any w6) ?_
  rintro _ w7 ⟨rfl, X7⟩
  refine ⟨by first | exact trivial | exact .inr (keep X7 (by have := X6.size; omega)), ?_⟩
  simp only [↓List.toList_toArray, ↓rgd, ↓rgf, ↓reduceIte, Nat.reduceEqDiff, rg, ow_8]
  refine hK _ _ ?_; clear hK K
  exact W_ret (endQ_1 (by simp only [upd_eq, Nat.reduceEqDiff, ↓reduceIte] <;> rfl) ⟨rfl, Y6.tr X7⟩)
end Go.Proofs.Ytjaolgehpnmieaa
/-
  FnSContains: the whole statement: it returns true whatever the input is, and the arguments read as before. No condition.
-/
set_option linter.unusedSimpArgs false
set_option linter.unusedVariables false
namespace Go.Proofs.Ytjaolgehpnmieaa
open Go Go.Proofs Go.ChangeShapes Go.WideShapes Go.ChangeAt Go.RowKit
set_option maxRecDepth 100000 in
theorem c_FnSContains (H : Type) (enc : TypeId × Value → H) (W : World) (base : Nat) (args : Array Value) (ds gs : List (DataW H)) (before : List MemPlace)
    (hval : ∀ (j : Nat) t v, Try.f8.params[j]? = some t → args[j]? = some v → Value.okWide Try.prog W .any base t v)
    (hW : DataW.Whole enc Try.prog Try.f8.params.toList Rows.fnSContainsSpec.vars false W args.toList ds gs before) :
    Calls Try.prog 8 args W fun e W' => ∃ v, e = .returned v ∧ Rows.fnSContainsSpec.post enc Try.prog Try.f8 false true false false W args v W' := by
  have hW' := hW
  obtain ⟨p, q, hA0, hV, rfl, hfz, hnd⟩ := hW
  have hA : DataW.TrodAll enc Try.prog W 0 (fun _ => true) true Try.f8.params.toList args.toList ds p := hA0
  rw [Try.params8] at hA hval
  obtain ⟨v0, v1, d0, d1, p0, p1, rfl, rfl, rfl, h0, h1⟩ := trodAll_two hA
  obtain ⟨rfl, rfl⟩ := trodVars_none hV
  obtain ⟨a0, g0⟩ := open_nums (hval 0 22 v0 rfl rfl) h0 fun b o h => hfz b o (by simp [h])
  obtain ⟨a1, rfl, rfl, rfl, _⟩ := open_int Try.underlying3 (hval 1 3 v1 rfl rfl) h1
  exact calls_law laidOut (by rw [Try.params8]; kernel_rfl) rfl hW' rfl rfl rfl (by kernel_rfl) Try.underlying4 (top_FnSContains a0 v0 a1 W g0)
set_option maxRecDepth 100000 in
theorem l_FnSContains (os : Os) (started : os.Started) (H : Type) (enc : TypeId × Value → H) :
    ReturnsInHanded {} Try.checked os 8 .any (Rows.fnSContainsSpec.pre6 enc Try.prog Try.f8 Rows.fnSContainsRow.domain false) (Rows.fnSContainsSpec.post enc Try.prog Try.f8 false true false false) := by
  refine returnsInHanded_of_change (C := Try.checked) own started (by kernel_rfl) Try.func8
    (ChangeSpec.witness6 (enc := enc) (C := Try.checked) false ⟨#[], #[.slice none 0 0, .int .i64 0], []⟩ 8 (by kernel_rfl) (by kernel_rfl) (by kernel_rfl) (by kernel_rfl)) ?_
  intro W base args ds gs before hval hW _ _
  exact c_FnSContains H enc W base args ds gs before hval hW
theorem h_FnSContains : Rows.FnSContainsSaid :=
  OpenClaim.holds_of_wide 8 Try.f8 rfl rfl rfl rfl rfl rfl rfl ⟨rfl, rfl, rfl, rfl, rfl⟩ rfl rfl rfl rfl rfl (by kernel_rfl) Try.func8 (by kernel_rfl)
    (of_decide_eq_true (by kernel_rfl)) (by unfold Func.isWrapper; first | (rw [if_pos (by decide +kernel)]; kernel_rfl) | (rw [if_neg (by decide +kernel)]; exact ⟨rfl, rfl⟩))
    (fun os started H enc _ => l_FnSContains os started H enc)
#print axioms h_FnSContains
end Go.Proofs.Ytjaolgehpnmieaa
