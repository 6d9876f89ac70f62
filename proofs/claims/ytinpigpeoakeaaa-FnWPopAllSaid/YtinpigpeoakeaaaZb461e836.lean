/-
  The keys of a tree. No condition.
-/
import Derived.Test.YtinpigpeoakeaaaZ45fc7f84
import Derived.Test.YtinpigpeoakeaaaZfaa6b76c
import Derived.Test.YtinpigpeoakeaaaZMSet
import Derived.Test.YtinpigpeoakeaaaZA
/-
  Taking the least and the greatest item out of a map. No condition.
-/
set_option linter.unusedSimpArgs false
set_option linter.unusedVariables false
namespace Go.Proofs.Ytinpigpeoakeaaa
open Go Go.Proofs
theorem ext_symm {F : Nat → Nat → Prop} {u v : World} (x : Ext F u v) (hs : v.heap.size = u.heap.size) : Ext F v u := by
  refine ⟨x.os.symm, x.output.symm, x.tape.symm, by omega, fun b arr T fr hb => ?_, fun b o hb ho => ?_⟩
  · have hlt : b < u.heap.size := by rw [← hs]; exact lt_of_some hb
    obtain ⟨o, hu⟩ : ∃ o, u.heap[b]? = some o := ⟨_, Array.getElem?_eq_getElem hlt⟩
    by_cases hc : ∃ a T' fr', o = Obj.cells a T' fr'
    · obtain ⟨a, T', fr', rfl⟩ := hc
      obtain ⟨a', g1, g2, g3⟩ := x.cells b a T' fr' hu
      rw [hb, Option.some.injEq, Obj.cells.injEq] at g1
      obtain ⟨rfl, rfl, rfl⟩ := g1
      exact ⟨a, hu, g2.symm, fun o h => (g3 o h).symm⟩
    · have := x.other b o hu fun a T' fr' e => hc ⟨a, T', fr', e⟩
      rw [hb, Option.some.injEq] at this
      exact (hc ⟨arr, T, fr, this.symm⟩).elim
  · have hlt : b < u.heap.size := by rw [← hs]; exact lt_of_some hb
    obtain ⟨o', hu⟩ : ∃ o, u.heap[b]? = some o := ⟨_, Array.getElem?_eq_getElem hlt⟩
    by_cases hc : ∃ a T' fr', o' = Obj.cells a T' fr'
    · obtain ⟨a, T', fr', rfl⟩ := hc
      obtain ⟨a', g1, -⟩ := x.cells b a T' fr' hu
      rw [hb, Option.some.injEq] at g1
      exact (ho _ _ _ g1).elim
    · have := x.other b o' hu fun a T' fr' e => hc ⟨a, T', fr', e⟩
      rw [hb] at this
      rw [hu, this]
def lastSel (n : Nat) : Nat := n - 1
theorem lastSel_lt (n : Nat) (h : 0 < n) : lastSel n < n := by unfold lastSel; omega
def firstSel (_ : Nat) : Nat := 0
theorem firstSel_lt (n : Nat) (h : 0 < n) : firstSel n < n := h
theorem del_last {y : It} {zs : List It} (ha : Asc O κ (zs ++ [y])) : (at? O κ (κ y) (zs ++ [y])).getD zIt = y ∧ hit O κ (κ y) (zs ++ [y]) = true ∧ del O κ (κ y) (zs ++ [y]) = zs := by
  obtain ⟨h1, h2⟩ := found_mid O κ (C := []) ha
  refine ⟨?_, h2, ?_⟩
  · simp [at?, h1, h2]
  · simp only [del, h1, h2, ↓reduceIte]
    rw [List.eraseIdx_append_of_length_le (Nat.le_refl _)]
    simp
theorem del_first {y : It} {zs : List It} (ha : Asc O κ (y :: zs)) : (at? O κ (κ y) (y :: zs)).getD zIt = y ∧ hit O κ (κ y) (y :: zs) = true ∧ del O κ (κ y) (y :: zs) = zs := by
  obtain ⟨h1, h2⟩ := found_mid O κ (A := []) (k := y) (C := zs) ha
  refine ⟨?_, h2, ?_⟩
  · simp [at?, show lb O κ (κ y) (y :: zs) = 0 from h1, show hit O κ (κ y) (y :: zs) = true from h2]
  · simp only [del, show lb O κ (κ y) (y :: zs) = 0 from h1, show hit O κ (κ y) (y :: zs) = true from h2, ↓reduceIte]
    rfl
theorem pz_v {w : World} {m : Nat} (h : Row w m 4 (E.cel zIt)) : rd w m 4 = some (vV zIt) := row_cell h (j := 0) rfl
theorem pz_k {w : World} {m : Nat} (h : Row w m 4 (E.cel zIt)) : rd w m 5 = some (kV (κ zIt)) := row_cell h (j := 1) rfl
def pV (x : Option It) : Value := .tuple #[kV (κ (x.getD zIt)), vV (x.getD zIt), .bool x.isSome]
def PopQ (m d : Nat) (iso : Int) (y : Option It) (ys : List It) (F : Nat → Nat → Prop) (w : World) (v : Value) (w' : World) : Prop :=
  v = pV y ∧ Ext (mapF m F) w w' ∧ ∃ F', MapAt w' m d iso ys F' ∧ ∀ y o, F' y o → F y o ∨ w.heap.size ≤ y
set_option maxHeartbeats 4000000 in
set_option maxRecDepth 8000 in
theorem popMax_any (m d : Nat) (iso : Int) (hd : 2 ≤ d) (hd' : d ≤ 128) (xs : List It) (F : Nat → Nat → Prop) (w : World) (hM : MapAt w m d iso xs F) (hbig : xs.length < 1152921504606846976) :
    CallK Try.prog 45 #[ptr m] w fun v w' => PopQ m d iso xs.getLast? xs.dropLast F w v w' := by
  have hml := hM.mlt
  refine calls_of_W [.tmp 2, .tmp 3, .tmp 4] Try.func45 rfl Try.ntmps45 Try.results45 (by simp) fun e he => ?_
  have e0 : e 0 = ptr m := he 0 _ rfl
  clear he
  refine W_sq fun K hK => (W_text [true, true, true] (by kernel_rfl) ?_); simp only [↓List.toList_toArray, ↓rgd, ↓rgf, ↓reduceIte, Nat.reduceEqDiff, rg, ow_45]
  refine hK _ _ ?_; clear hK K
  refine W_seq ?_
  rcases hM.root with ⟨rfl, hr⟩ | ⟨h, b, hr, ht⟩
  · have hk := pz_k hM.cfg.ez
    have hv := pz_v hM.cfg.ez
    refine W_sq fun K hK => (W_text [true, true, true, true, true] (by kernel_rfl) ?_); simp only [↓List.toList_toArray, ↓rgd, ↓rgf, ↓reduceIte, Nat.reduceEqDiff, rg, ow_45, e0, ptr_eq, hr]
    refine hK _ _ ?_; clear hK K
    refine W_true (by simp only [evt, evc, upd_eq, Nat.reduceEqDiff, ↓reduceIte, ntT, ntF] <;> rfl) ?_
    refine W_sq fun K hK => (W_draw (some none) none [(0, 0, 0), (0, 1, 0), (0, 2, 0), (0, 3, 0), (0, 4, 0), (0, 5, 0), (0, 6, 0), (0, 7, 0), (0, 8, 0), (0, 9, 0), (0, 10, 0), (0, 11, 0), (0, 12, 0)] mixed (by kernel_rfl) ?_); simp only [↓List.toList_toArray, ↓rgd, ↓rgf, ↓reduceIte, Nat.reduceEqDiff, rg, ow_45, e0, ptr_eq, hk, hv]
    refine hK _ _ ?_; clear hK K
    refine W_ret ?_
    simp only [andThen_ret]
    exact endQ_3 (by simp only [upd_eq, Nat.reduceEqDiff, ↓reduceIte] <;> rfl) (by simp only [upd_eq, Nat.reduceEqDiff, ↓reduceIte] <;> rfl) (by simp only [upd_eq, Nat.reduceEqDiff, ↓reduceIte] <;> rfl) ⟨rfl, Ext.dr _ _ _, F, hM.ext (Ext.dr _ _ _), fun _ _ g => .inl g⟩
  · refine W_sq fun K hK => (W_text [true, true, true, true, true] (by kernel_rfl) ?_); simp only [↓List.toList_toArray, ↓rgd, ↓rgf, ↓reduceIte, Nat.reduceEqDiff, rg, ow_45, e0, ptr_eq, hr]
    refine hK _ _ ?_; clear hK K
    refine W_false (by simp only [evt, evc, upd_eq, Nat.reduceEqDiff, ↓reduceIte, ntT, ntF] <;> rfl) (W_skip ?_)
    show W _ _ _ _ _ _
    refine W_sq fun K hK => (W_text [true, true, true, true, false, true] (by kernel_rfl) ?_); simp only [↓List.toList_toArray, ↓rgd, ↓rgf, ↓reduceIte, Nat.reduceEqDiff, rg, ow_45, e0, ptr_eq]
    refine do_call fn_60 (by simp only [evt, evc, upd_eq, Nat.reduceEqDiff, ↓reduceIte, maT, maC, maN, isnN, isnS] <;> rfl) (isoLoad_any m m 2 b true iso w hM.cfg.iso hr ht.iso0.1) ?_
    rintro _ w1 ⟨rfl, r1⟩
    refine ⟨trivial, ?_⟩
    simp only [↓List.toList_toArray, ↓rgd, ↓rgf, ↓reduceIte, Nat.reduceEqDiff, rg, ow_45]
    refine hK _ _ ?_; clear hK K
    refine W_sq fun K hK => (W_text [false] (by kernel_rfl) ?_); simp only [↓List.toList_toArray, ↓rgd, ↓rgf, ↓reduceIte, Nat.reduceEqDiff, rg, ow_45]
    refine do_alloc dz_it fun w3 n3 => ⟨trivial, ?_⟩
    simp only [↓List.toList_toArray, ↓rgd, ↓rgf, ↓reduceIte, Nat.reduceEqDiff, rg, ow_45]
    refine hK _ _ ?_; clear hK K
    have X3 : Ext noF w w3 := (r1.ext (F := noF)).tr n3.ext
    obtain ⟨B, hB⟩ : ∃ B, B = w.heap.size := ⟨_, rfl⟩
    have hB1 : w1.heap.size = B := by obtain ⟨n, rfl⟩ := r1; exact hB.symm
    have s3 : w3.heap.size = B + 1 := by have := n3.size; omega
    have wB : wok w3 B 2 := by rw [← hB1]; exact n3.wok
    have hFlt : ∀ y o, F y o → y < B := by rw [hB]; exact hM.lt
    rw [hB1]
    replace hM := hM.ext X3
    replace hr : rd w3 m 2 = some (ptr b) := X3.rd hr fun h => h
    replace ht := ht.ext X3 fun _ _ _ h => h
    rw [← hB] at hml
    clear r1 n3 hB1
    obtain ⟨root, hroot⟩ : ∃ root, root = b := ⟨_, rfl⟩
    rw [← hroot] at hr
    refine W_sqx fun J hJ => ?_
    have hrest : ∀ (e' : Env) (w' u : World) (D : Nat → Prop) (y : It) (zs : List It), Ext (blkF B) w3 u → u.heap.size = w3.heap.size → Shift (-1) u w' D → (∀ y, RS lastSel w3 h b y ↔ D y) → (∀ y, D y → ∀ o, F y o) → Row w' B 0 (E.cel y) → xs = zs ++ [y] → e' 0 = ptr m → e' 6 = ptr B → J e' w' := by
      intro e w' u D y zs xu su sh hD hDD hrow hxy e0 e6
      refine hJ _ _ ?_; clear hJ J
      have hr' := sh.ext.rd (xu.rd hr (by show ¬ m = B; omega)) (fun g => by omega)
      refine W_sq fun K hK => (W_text [true, true, true, true, true] (by kernel_rfl) ?_); simp only [↓List.toList_toArray, ↓rgd, ↓rgf, ↓reduceIte, Nat.reduceEqDiff, rg, ow_45, e0, ptr_eq, hr']
      refine hK _ _ ?_; clear hK K
      refine W_sqx fun J hJ => ?_
      have hend : ∀ (e' : Env) (w' : World), Ext noF u w' → Row w' B 0 (E.cel y) → e' 0 = ptr m → e' 6 = ptr B → J e' w' := by
        intro e w' X hrow e0 e6
        refine hJ _ _ ?_; clear hJ J
        have XB : Ext (blkF B) w3 w' := xu.tr (X.mono fun _ _ _ g => g.elim)
        have hM' := hM.extG XB (fun y o g k => by have := hFlt y o g; have : y = B := k; omega) (fun o k => by have : m = B := k; omega)
        have v1 : rd w' B 1 = some (kV y.1) := kV_at hrow
        refine W_sq fun K hK => (W_text [true, true, true, false, true, true, true, true, true] (by kernel_rfl) ?_); simp only [↓List.toList_toArray, ↓rgd, ↓rgf, ↓reduceIte, Nat.reduceEqDiff, rg, ow_45, e0, e6, ptr_eq, v1]
        refine do_call fn_61 (by simp only [evt, evc, upd_eq, Nat.reduceEqDiff, ↓reduceIte, maT, maC, maN, isnN, isnS] <;> rfl) (delete_map m d iso (κ y) xs (fun _ => ⟨hd, hd'⟩) F w' hM' hbig) ?_
        obtain ⟨q1, q2, q3⟩ := del_last (hxy ▸ hM.asc : Asc O κ (zs ++ [y]))
        rw [← hxy] at q1 q2 q3
        rintro _ w4 ⟨rfl, x4, F', hM4, hF'⟩
        refine ⟨trivial, ?_⟩
        simp only [↓List.toList_toArray, ↓rgd, ↓rgf, ↓reduceIte, Nat.reduceEqDiff, rg, ow_45]
        refine hK _ _ ?_; clear hK K
        refine W_seq ?_
        have hrow4 : Row w4 B 0 (E.cel y) := x4.row hrow fun j _ g => by
          rcases g with g | g
          · have := hFlt _ _ g; omega
          · omega
        have v1 : rd w4 B 1 = some (kV y.1) := kV_at hrow4
        rw [q1, q2]
        rw [q3] at hM4
        refine W_sq fun K hK => (W_text [true] (by kernel_rfl) ?_); simp only [↓List.toList_toArray, ↓rgd, ↓rgf, ↓reduceIte, Nat.reduceEqDiff, rg, ow_45]
        refine hK _ _ ?_; clear hK K
        refine W_true (by simp only [evt, evc, upd_eq, Nat.reduceEqDiff, ↓reduceIte, ntT, ntF] <;> rfl) ?_
        refine W_sq fun K hK => (W_text [true, true, true, true, true, true] (by kernel_rfl) ?_); simp only [↓List.toList_toArray, ↓rgd, ↓rgf, ↓reduceIte, Nat.reduceEqDiff, rg, ow_45, e6, ptr_eq, v1]
        refine hK _ _ ?_; clear hK K
        have sX := XB.size
        refine W_ret ?_
        simp only [andThen_ret]
        refine endQ_3 (by simp only [upd_eq, Nat.reduceEqDiff, ↓reduceIte] <;> rfl) (by simp only [upd_eq, Nat.reduceEqDiff, ↓reduceIte] <;> rfl) (by simp only [upd_eq, Nat.reduceEqDiff, ↓reduceIte] <;> rfl) ⟨by rw [hxy, List.getLast?_concat]; rfl, ?_, F', by rw [hxy]; rw [List.dropLast_concat]; exact hM4, fun y o g => (hF' y o g).imp id fun g => by omega⟩
        exact X3.trans ((XB.mono (G := fun y o => mapF m F y o ∨ y = B) fun _ _ _ g => .inr g).tr (x4.mono fun _ _ _ g => .inl g)) (fun _ _ g => g.elim) fun y o hy g => g.elim id fun g => by omega
      clear hJ
      refine W_block (W_loop (fun mm e w' => ∃ (lo b : Nat) (ys : List It) (F : Nat → Nat → Prop) (D : Nat → Prop), Tr E iso (d - 1) (2 * d - 1) mm w3 lo b ys F ∧ (∀ y o, F y o → y < B) ∧ Shift (-1) u w' D ∧ (∀ y, RS lastSel w3 mm b y ↔ D y) ∧ (∀ y, D y → y < B) ∧ Row w' B 0 (E.cel y) ∧ ys.length ≤ xs.length ∧ e 0 = ptr m ∧ e 6 = ptr B ∧ e 5 = ptr b)
        h ⟨1, b, xs, F, D, ht, hFlt, sh, hD, fun y g => hFlt y 0 (hDD y g 0), hrow, Nat.le_refl _, ?_, ?_, ?_⟩ ?_)
      · simp only [upd_eq, Nat.reduceEqDiff, ↓reduceIte]; exact e0
      · simp only [upd_eq, Nat.reduceEqDiff, ↓reduceIte]; exact e6
      · simp only [upd_eq, Nat.reduceEqDiff, ↓reduceIte]; rw [hroot]; rfl
      clear sh hD hDD hrow e0 e6 hr' D e w' ht
      rintro mm e w' ⟨lo, b, ys, F', D, ht, hlt', sh, hD, hDB, hrow, hle, e0, e6, e5⟩
      obtain ⟨bi, oi, cap, ks, ch, ho3, h1, h2, hoF, hin⟩ := ht.open
      have hnb : ∀ y o, F' y o → ¬ blkF B y o := fun y o g k => by have := hlt' y o g; have : y = B := k; omega
      have ho := ho3.ext xu fun y o g => hnb y o (hoF y o g)
      have hDb : D b := (hD b).1 (by cases mm <;> simp [RS])
      obtain ⟨k, k1, k2⟩ := sh.cnt b hDb
      rw [ho.h1, Option.some.injEq, Value.int.injEq] at k1
      obtain ⟨-, rfl⟩ := k1
      have q1 : IntKind.i64.wrap ((ys.length : Int) + -1 + 1) = ys.length := by rw [IntWalk.i64_in _ (by omega)]; omega
      refine W_block ?_
      refine W_sq fun K hK => (W_text [true, true, true, true, true, true, true, false] (by kernel_rfl) ?_); simp only [↓List.toList_toArray, ↓rgd, ↓rgf, ↓reduceIte, Nat.reduceEqDiff, rg, ow_45, e5, ptr_eq, k2, q1]
      refine do_store (by simp only [evt, evc, upd_eq, Nat.reduceEqDiff, ↓reduceIte, ntT, ntF] <;> rfl) (by simp only [evt, evc, upd_eq, Nat.reduceEqDiff, ↓reduceIte, ntT, ntF] <;> rfl) sz_3 rfl (sh.ext.wok ho.wb) (by decide) (oc_one rfl rfl) fun w4 x4 r4 s4 => ⟨trivial, ?_⟩
      simp only [↓List.toList_toArray, ↓rgd, ↓rgf, ↓reduceIte, Nat.reduceEqDiff, rg, ow_45]
      refine hK _ _ ?_; clear hK K
      have sh4 := sh.undo hDb ho.h1 x4 (Row.cons.1 r4).1
      have hbB := hDB b hDb
      have hrow4 : Row w4 B 0 (E.cel y) := x4.row hrow fun j _ g => by simp only [rng] at g; omega
      have b3 := sh4.ext.rd ho.h3 (fun g => by omega)
      refine W_seq ?_
      rcases hin with ⟨rfl, rfl, rfl, hF⟩ | ⟨h', bc, ba, oa, capc, cs, rfl, rfl, n⟩
      · refine W_sq fun K hK => (W_text [true, false] (by kernel_rfl) ?_); simp only [↓List.toList_toArray, ↓rgd, ↓rgf, ↓reduceIte, Nat.reduceEqDiff, rg, ow_45, e5]
        refine do_call fn_58 (by simp only [evt, evc, upd_eq, Nat.reduceEqDiff, ↓reduceIte, maT, maC, maN, isnN, isnS] <;> rfl) (leaf_any b none w4 b3) ?_
        rintro _ w4 ⟨rfl, rfl⟩
        refine ⟨trivial, ?_⟩
        simp only [↓List.toList_toArray, ↓rgd, ↓rgf, ↓reduceIte, Nat.reduceEqDiff, rg, ow_45]
        refine hK _ _ ?_; clear hK K
        refine W_true (by simp only [evt, evc, upd_eq, Nat.reduceEqDiff, ↓reduceIte, ntT, ntF] <;> rfl) (W_exit ?_)
        simp only [andThen_exit, inBlk_exit, andThen_normal, Nat.reduceEqDiff, ↓reduceIte]
        refine hend _ _ (sh4.ext.mono fun y o _ g => g.2.2 ((hD y).2 g.2.1)) hrow4 ?_ ?_
        · simp only [upd_eq, Nat.reduceEqDiff, ↓reduceIte]; exact e0
        · simp only [upd_eq, Nat.reduceEqDiff, ↓reduceIte]; exact e6
      · refine W_sq fun K hK => (W_text [true, false] (by kernel_rfl) ?_); simp only [↓List.toList_toArray, ↓rgd, ↓rgf, ↓reduceIte, Nat.reduceEqDiff, rg, ow_45, e5]
        refine do_call fn_58 (by simp only [evt, evc, upd_eq, Nat.reduceEqDiff, ↓reduceIte, maT, maC, maN, isnN, isnS] <;> rfl) (leaf_any b (some ⟨bc, 0, none⟩) w4 b3) ?_
        rintro _ w4 ⟨rfl, rfl⟩
        refine ⟨trivial, ?_⟩
        simp only [↓List.toList_toArray, ↓rgd, ↓rgf, ↓reduceIte, Nat.reduceEqDiff, rg, ow_45]
        refine hK _ _ ?_; clear hK K
        refine W_false (by simp only [evt, evc, upd_eq, Nat.reduceEqDiff, ↓reduceIte, ntT, ntF] <;> rfl) (W_skip ?_)
        show W _ _ _ _ _ _
        have hcl : lastSel cs.length < cs.length := lastSel_lt _ (by have := n.len; omega)
        obtain ⟨c, hc⟩ : ∃ c, cs[lastSel cs.length]? = some c := ⟨_, List.getElem?_eq_getElem hcl⟩
        have hcm : c ∈ cs := List.mem_of_getElem? hc
        have htc := n.sub c hcm
        have hcD : ∀ y, (D y ∧ y ≠ b) ↔ RS lastSel w3 h' c.b y := by
          intro y
          rw [← hD y, n.rs ho3.h3 hc y]
          refine ⟨fun g => g.1.resolve_left g.2, fun g => ⟨.inr g, fun hb => ?_⟩⟩
          rw [hb] at g
          exact n.ap.own c hcm b 0 (RS.sub lastSel_lt htc b g 0) (.inl rfl)
        have k4 := (n.kids.ext xu fun y o g => hnb y o ((n.fp y o).2 (.inr (.inl g)))).ext sh4.ext fun y o g hh => n.ap.kid c hcm y o (RS.sub lastSel_lt htc y ((hcD y).1 hh.2) o) g
        have hc0 := k4.c0
        rw [List.length_map] at hc0
        have hcr : rd w4 ba (oa + (cs.length - 1)) = some (ptr c.b) := ptr_at k4.row (by rw [List.getElem?_map]; exact congrArg _ hc)
        have q2 := wsub1 cs.length (by omega) (by have := n.len; omega)
        have hlc : cs.length - 1 < cs.length := hcl
        refine W_rg fun K hK => (W_draw (some none) none [(0, 0, 0), (0, 1, 0), (0, 2, 0), (0, 3, 0), (0, 4, 0), (0, 5, 0), (0, 6, 0), (0, 7, 0), (0, 8, 0), (0, 9, 0), (0, 10, 0), (0, 11, 0), (0, 12, 0), (0, 13, 0), (0, 14, 0), (0, 15, 0), (0, 16, 0)] mixed (by kernel_rfl) ?_); simp only [↓List.toList_toArray, ↓rgd, ↓rgf, ↓reduceIte, Nat.reduceEqDiff, rg, ow_45, e5, ptr_eq, b3, hc0, q2, hlc, hcr]
        refine hK _ _ ?_; clear hK K
        have hlen : c.xs.length ≤ ys.length := by rw [n.eq]; exact weave_mem_length _ _ (by simpa using n.len) _ (List.mem_map_of_mem hcm)
        refine ⟨h', by omega, d - 1, c.b, c.xs, c.F, _, htc, fun y o g => hlt' y o ((n.fp y o).2 (.inr (.inr ⟨c, hcm, g⟩))), sh4.ro (RO.dr _ _), fun y => (hcD y).symm, fun y g => hDB y g.1, (Ext.dr noF _ _).row hrow4 fun _ _ g => g, by omega, ?_, ?_, ?_⟩
        · simp only [upd_eq, Nat.reduceEqDiff, ↓reduceIte]; exact e0
        · simp only [upd_eq, Nat.reduceEqDiff, ↓reduceIte]; exact e6
        · simp only [upd_eq, Nat.reduceEqDiff, ↓reduceIte]; rfl
    clear hJ
    refine W_block (W_loop (fun mm e w' => ∃ (lo b' : Nat) (ys : List It) (Fb : Nat → Nat → Prop) (A : List It) (D : Nat → Prop), Tr E iso (d - 1) (2 * d - 1) mm w3 lo b' ys Fb ∧ (lo = d - 1 ∨ lo = 1 ∧ A = []) ∧ Shift (-1) w3 w' D ∧ (∀ y, RS lastSel w3 h b y ↔ D y ∨ RS lastSel w3 mm b' y) ∧ (∀ y, D y → ∀ o, ¬ Fb y o) ∧ (∀ y, D y → ∀ o, F y o) ∧ xs = A ++ ys ∧
        Hole E iso (d - 1) (2 * d - 1) h 1 b F w3.heap.size w' mm lo b' ys Fb A [] (-1) ∧ (∀ y o, Fb y o → F y o) ∧ e 0 = ptr m ∧ e 6 = ptr B ∧ e 5 = ptr b')
        h ⟨1, b, xs, F, [], fun _ => False, ht, .inr ⟨rfl, rfl⟩, Shift.nil _ _, fun y => by simp, fun _ h => h.elim, fun _ h => h.elim, rfl, Hole.root (Nat.le_refl _), fun _ _ g => g, ?_, ?_, ?_⟩ ?_)
    · simp only [upd_eq, Nat.reduceEqDiff, ↓reduceIte]; exact e0
    · simp only [upd_eq, Nat.reduceEqDiff, ↓reduceIte]; rfl
    · simp only [upd_eq, Nat.reduceEqDiff, ↓reduceIte]
    clear e0 e
    rintro mm e w' ⟨lo, b', ys, Fb, A, D, htb, hlo, sh, hD, hDF, hDD, hxs, hole, hsub, e0, e6, e5⟩
    obtain ⟨bi, oi, cap, ks, ch, ho, h1, h2, hoF, hin⟩ := htb.open
    have hyx : ys.length ≤ xs.length := by rw [hxs]; simp
    have hDb : ¬ D b' := fun g => hDF b' g 0 (htb.self 0)
    have q1 : IntKind.i64.wrap ((ys.length : Int) - 1) = (ys.length : Int) + -1 := by rw [IntWalk.i64_in _ (by omega)]; omega
    have c1 := sh.ext.rd ho.h1 (fun g => hDb g.2)
    have hbB := hFlt b' 0 (hsub b' 0 (htb.self 0))
    have hDB : ∀ y, D y → y < B := fun y g => hFlt y 0 (hDD y g 0)
    refine W_block ?_
    refine W_sq fun K hK => (W_text [true, true, true, true, true, true, true, false] (by kernel_rfl) ?_); simp only [↓List.toList_toArray, ↓rgd, ↓rgf, ↓reduceIte, Nat.reduceEqDiff, rg, ow_45, e5, ptr_eq, c1, q1]
    refine do_store (by simp only [evt, evc, upd_eq, Nat.reduceEqDiff, ↓reduceIte, ntT, ntF] <;> rfl) (by simp only [evt, evc, upd_eq, Nat.reduceEqDiff, ↓reduceIte, ntT, ntF] <;> rfl) sz_3 rfl (sh.ext.wok ho.wb) (by decide) (oc_one rfl rfl) fun w4 x4 r4 s4 => ⟨trivial, ?_⟩
    simp only [↓List.toList_toArray, ↓rgd, ↓rgf, ↓reduceIte, Nat.reduceEqDiff, rg, ow_45]
    refine hK _ _ ?_; clear hK K
    have b1 : rd w4 b' 1 = some (.int .i64 (ys.length + -1 : Int)) := (Row.cons.1 r4).1
    have sh4 := sh.add hDb ho.h1 x4 b1
    have hFF : ∀ y o, (o = 1 ∧ (D y ∨ y = b')) → ∀ p, F y p := fun y o g p => g.2.elim (fun g => hDD y g p) fun g => by rw [g]; exact hsub _ _ (htb.self p)
    have hM4 : Cfg w4 m iso d := hM.cfg.ext sh4.ext fun o _ _ g => hM.off 0 (hFF _ _ g 0)
    have ho' := ho.ext sh.ext fun y o g hh => hDF y hh.2 o (hoF y o g)
    have o4 := ho'.cnt' x4 b1
    refine W_seq ?_
    rcases hin with ⟨rfl, rfl, rfl, hF⟩ | ⟨h', bc, ba, oa, capc, cs, rfl, rfl, n⟩
    · refine W_sq fun K hK => (W_text [true, false] (by kernel_rfl) ?_); simp only [↓List.toList_toArray, ↓rgd, ↓rgf, ↓reduceIte, Nat.reduceEqDiff, rg, ow_45, e5]
      refine do_call fn_58 (by simp only [evt, evc, upd_eq, Nat.reduceEqDiff, ↓reduceIte, maT, maC, maN, isnN, isnS] <;> rfl) (leaf_any b' none w4 o4.h3) ?_
      rintro _ w4 ⟨rfl, rfl⟩
      refine ⟨trivial, ?_⟩
      simp only [↓List.toList_toArray, ↓rgd, ↓rgf, ↓reduceIte, Nat.reduceEqDiff, rg, ow_45]
      refine hK _ _ ?_; clear hK K
      refine W_true (by simp only [evt, evc, upd_eq, Nat.reduceEqDiff, ↓reduceIte, ntT, ntF] <;> rfl) ?_
      have hpos : 0 < ys.length := by rcases hlo with h | h <;> omega
      obtain ⟨y, zs, hys⟩ : ∃ y zs, ys = zs ++ [y] := ⟨ys.getLast (by intro e; rw [e] at hpos; simp at hpos), ys.dropLast, (List.dropLast_concat_getLast _).symm⟩
      have hzl : zs.length + 1 = ys.length := by rw [hys]; simp
      have wB4 : wok w4 B 2 := sh4.ext.wok wB
      have i3 : ys.length - 1 < ys.length := by omega
      have q2 := wsub1 ys.length hpos (by omega)
      have hyi : ys[ys.length - 1]? = some y := by rw [hys]; simp
      have kv := it_at o4.row hyi
      refine W_sq fun K hK => (W_draw (some none) (some 12) [(0, 0, 0), (0, 1, 0), (0, 2, 0), (0, 3, 0), (0, 4, 0), (0, 5, 0), (0, 6, 0), (0, 7, 0), (0, 8, 0), (0, 9, 0), (0, 10, 0), (0, 11, 0), (1, 12, 0)] mixed (by kernel_rfl) ?_); simp only [↓List.toList_toArray, ↓rgd, ↓rgf, ↓reduceIte, Nat.reduceEqDiff, rg, ow_45, e5, e6, ptr_eq, o4.h2, q2, i3, kv]
      refine do_store (b := B) (o := 0) (by simp only [evt, evc, upd_eq, Nat.reduceEqDiff, ↓reduceIte]; exact e6) (by simp only [evt, evc, upd_eq, Nat.reduceEqDiff, ↓reduceIte, ntT, ntF] <;> rfl) sz_71 (rb_len y) wB4 (by decide) (rb_oc y) fun w5 x5 r5 s5 => ⟨(by first | exact trivial | exact .inl trivial), ?_⟩
      simp only [↓List.toList_toArray, ↓rgd, ↓rgf, ↓reduceIte, Nat.reduceEqDiff, rg, ow_45]
      refine hK _ _ ?_; clear hK K
      (try replace x5 := x5.od)
      have rB : Row w5 B 0 (E.cel y) := r5
      have xB : Ext (blkF B) w4 w5 := x5.mono fun y o _ g => g.1
      have hnb : ∀ y o, Fb y o → ¬ blkF B y o := fun y o g k => by have := hFlt y o (hsub y o g); have : y = B := k; omega
      have o5 := o4.ext xB fun y o g => hnb y o (hoF y o g)
      have hM5 : Cfg w5 m iso d := hM4.ext xB fun o _ _ (g : m = B) => by omega
      have hmn := hM5.mn
      refine W_seq ?_
      by_cases hmin : ys.length = d - 1
      · have t1 : ((ys.length : Int) == ((d - 1 : Nat) : Int)) = true := by simp; omega
        refine W_sq fun K hK => (W_draw (some none) none [(0, 0, 0), (0, 1, 0), (0, 2, 0), (0, 3, 0), (0, 4, 0), (0, 5, 0), (0, 6, 0), (0, 7, 0), (0, 8, 0), (0, 9, 0)] mixed (by kernel_rfl) ?_); simp only [↓List.toList_toArray, ↓rgd, ↓rgf, ↓reduceIte, Nat.reduceEqDiff, rg, ow_45, e0, e5, ptr_eq, o5.h2, hmn, t1]
        refine hK _ _ ?_; clear hK K
        refine W_true (by simp only [evt, evc, upd_eq, Nat.reduceEqDiff, ↓reduceIte, ntT, ntF] <;> rfl) (W_exit ?_)
        simp only [andThen_exit, inBlk_exit, andThen_normal, Nat.reduceEqDiff, ↓reduceIte]
        obtain ⟨u, xu, su, shu⟩ := shift_base sh4 xB wB fun g => g.elim (fun g => by have := hDB _ g; omega) fun g => by omega
        refine hrest _ _ u _ y (A ++ zs) xu su (shu.ro (RO.dr _ _)) (fun y => ?_) (fun y g => hFF y 1 ⟨rfl, g⟩) ((Ext.dr noF _ _).row rB fun _ _ g => g) (by rw [hxs, hys]; simp) ?_ ?_
        · rw [hD y]; rfl
        · simp only [upd_eq, Nat.reduceEqDiff, ↓reduceIte]; exact e0
        · simp only [upd_eq, Nat.reduceEqDiff, ↓reduceIte]; exact e6
      have t1 : ((ys.length : Int) == ((d - 1 : Nat) : Int)) = false := by simp; omega
      refine W_sq fun K hK => (W_draw (some none) none [(0, 0, 0), (0, 1, 0), (0, 2, 0), (0, 3, 0), (0, 4, 0), (0, 5, 0), (0, 6, 0), (0, 7, 0), (0, 8, 0), (0, 9, 0)] mixed (by kernel_rfl) ?_); simp only [↓List.toList_toArray, ↓rgd, ↓rgf, ↓reduceIte, Nat.reduceEqDiff, rg, ow_45, e0, e5, ptr_eq, o5.h2, hmn, t1]
      refine hK _ _ ?_; clear hK K
      refine W_false (by simp only [evt, evc, upd_eq, Nat.reduceEqDiff, ↓reduceIte, ntT, ntF] <;> rfl) (W_skip ?_)
      show W _ _ _ _ _ _
      have D5 : Ext noF w5 (dr w5 (w5.drawn + 1)) := Ext.dr _ _ _
      have rB := D5.row rB fun _ _ g => g
      have xB := xB.tr (D5.mono fun _ _ _ g => g.elim)
      have o5 := o5.ext D5 fun _ _ _ g => g
      have hM5 := hM5.ext D5 fun _ _ _ g => g
      have hmn5 := hM5.mn
      generalize dr w5 (w5.drawn + 1) = w5 at *
      have z5 := zIt_at hM5
      have hml5 : ∀ o, ¬ ownF E b' bi oi cap m o := fun o g => hM.off o (hsub _ _ (hoF _ _ g))
      have hcap := ho.le
      refine W_sq fun K hK => (W_draw (some none) (some 15) [(0, 0, 0), (0, 1, 0), (0, 2, 0), (0, 3, 0), (0, 4, 0), (0, 5, 0), (0, 6, 0), (0, 7, 0), (0, 8, 0), (0, 9, 0), (0, 10, 0), (0, 11, 0), (0, 12, 0), (0, 13, 0), (0, 14, 0), (1, 15, 0)] mixed (by kernel_rfl) ?_); simp only [↓List.toList_toArray, ↓rgd, ↓rgf, ↓reduceIte, Nat.reduceEqDiff, rg, ow_45, e0, e5, ptr_eq, o5.h2, q2, i3, z5]
      refine do_store (by simp only [evt, evc, upd_eq, Nat.reduceEqDiff, ↓reduceIte, ntT, ntF] <;> rfl) (by simp only [evt, evc, upd_eq, Nat.reduceEqDiff, ↓reduceIte, ntT, ntF] <;> rfl) sz_71 (rb_len zIt) o5.wi (by rw [E_sz]; omega) (rb_oc zIt) fun w7 x7 r7 s7 => ⟨(by first | exact trivial | exact .inl trivial), ?_⟩
      simp only [↓List.toList_toArray, ↓rgd, ↓rgf, ↓reduceIte, Nat.reduceEqDiff, rg, ow_45]
      refine hK _ _ ?_; clear hK K
      obtain ⟨g3, g4⟩ := o5.se.set (i := ys.length - 1) (x := zIt) (by omega) (by simp only [E_sz, Nat.mul_one]; exact x7.od) (by simp only [E_sz, Nat.mul_one]; exact r7)
      rw [show ys.set (ys.length - 1) zIt = zs ++ [zIt] by rw [show ys.length - 1 = zs.length by omega, hys]; exact set_last] at g3
      have o7 := o5.step g3 g4
      have X7 : Ext (ownF E b' bi oi cap) w5 w7 := g4.mono fun _ _ _ g => seF_own g
      have hA' : (zs ++ [zIt]).length = ys.length := by rw [List.length_append, List.length_singleton]; omega
      have h27 := o7.h2
      rw [hA'] at h27
      have i4 : ys.length - 1 ≤ cap := by omega
      refine W_sq fun K hK => (W_draw (some none) (some 14) [(0, 0, 0), (0, 1, 0), (0, 2, 0), (0, 3, 0), (0, 4, 0), (0, 5, 0), (0, 6, 0), (0, 7, 0), (0, 8, 0), (0, 9, 0), (0, 10, 0), (0, 11, 0), (0, 12, 0), (0, 13, 0), (1, 14, 0)] mixed (by kernel_rfl) ?_); simp only [↓List.toList_toArray, ↓rgd, ↓rgf, ↓reduceIte, Nat.reduceEqDiff, rg, ow_45, e5, ptr_eq, h27, q2, i4]
      refine do_store (by simp only [evt, evc, upd_eq, Nat.reduceEqDiff, ↓reduceIte, ntT, ntF] <;> rfl) (by simp only [evt, evc, upd_eq, Nat.reduceEqDiff, ↓reduceIte, ntT, ntF] <;> rfl) sz_87 rfl o7.wb (by decide) (oc_one rfl rfl) fun w8 x8 r8 s8 => ⟨(by first | exact trivial | exact .inl trivial), ?_⟩
      simp only [↓List.toList_toArray, ↓rgd, ↓rgf, ↓reduceIte, Nat.reduceEqDiff, rg, ow_45]
      refine hK _ _ ?_; clear hK K
      obtain ⟨g5, g6⟩ := o7.se.cut x8.od (by rw [show zs.length = ys.length - 1 by omega]; exact (Row.cons.1 r8).1)
      have o8 := o7.step g5 g6
      have X8 : Ext (ownF E b' bi oi cap) w5 w8 := X7.tr (g6.mono fun _ _ _ g => seF_own g)
      have ho8 : ∀ o, ¬ ownF E b' bi oi cap B o := fun o g => hnb _ _ (hoF _ _ g) rfl
      have rB8 : Row w8 B 0 (E.cel y) := X8.row rB fun j _ g => ho8 _ g
      have Xw : Ext (fun y o => Fb y o ∨ y = B) w' w8 := ((x4.mono fun y o _ g => .inl (by simp only [rng] at g; rw [g.1]; exact htb.self o)).tr (xB.mono fun y o _ g => .inr g)).tr (X8.mono fun y o _ g => .inl (hoF y o g))
      obtain ⟨u, xu1, su, xu2⟩ := ext_cutR Xw (sh.ext.wok wB)
      have xu3 := ext_symm xu2 su.symm
      have ou := o8.ext xu3 fun y o g => hnb y o (hoF y o g)
      have hz : ((ys.length : Int) + -1) = (zs.length : Int) := by omega
      rw [hz] at ou
      have htr : ∀ lo, lo ≤ zs.length → Tr E iso (d - 1) (2 * d - 1) 0 u lo b' zs (ownF E b' bi oi cap) := fun lo h => ⟨bi, oi, cap, ou, h, by omega, fun _ _ => Iff.rfl⟩
      have XW : Ext (fun y o => F y o ∨ y = B) w3 w8 := (sh.ext.mono fun y o _ g => .inl (hDD y g.2 o)).tr (Xw.mono fun y o _ g => g.imp (hsub y o) id)
      have hmW : ∀ o, ¬ (F m o ∨ m = B) := fun o g => g.elim (hM.off o) fun g => by omega
      have ct8 := XW.rd hM.cnt (hmW 3)
      have q3 := wsub1 xs.length (by omega) (by omega)
      have cf8 := hM.cfg.ext XW fun o _ _ => hmW o
      refine W_sq fun K hK => (W_text [true, true, true, true, true, true, true, false] (by kernel_rfl) ?_); simp only [↓List.toList_toArray, ↓rgd, ↓rgf, ↓reduceIte, Nat.reduceEqDiff, rg, ow_45, e0, ptr_eq, ct8, q3]
      refine do_store (by simp only [evt, evc, upd_eq, Nat.reduceEqDiff, ↓reduceIte, ntT, ntF] <;> rfl) (by simp only [evt, evc, upd_eq, Nat.reduceEqDiff, ↓reduceIte, ntT, ntF] <;> rfl) sz_3 rfl cf8.wok (by decide) (oc_one rfl rfl) fun w9 x9 r9 s9 => ⟨trivial, ?_⟩
      simp only [↓List.toList_toArray, ↓rgd, ↓rgf, ↓reduceIte, Nat.reduceEqDiff, rg, ow_45]
      refine hK _ _ ?_; clear hK K
      have hmB : ¬ B = m := by omega
      have cf9 := cf8.ext x9 fun o h2 h3 g => by simp only [rng] at g; omega
      have ct9 : rd w9 m 3 = some (.int .i64 (xs.length - 1 : Nat)) := (Row.cons.1 r9).1
      have rB9 : Row w9 B 0 (E.cel y) := x9.row rB8 fun j _ g => hmB g.1
      have vk := kV_at rB9
      have vv := vV_at rB9
      have X39 : Ext (fun y o => mapF m F y o ∨ y = B) w3 w9 := (XW.mono fun y o _ g => g.imp .inl id).tr (x9.mono fun y o _ g => .inl (.inr (by simp only [rng] at g; exact ⟨g.1, by omega⟩)))
      have ha : Asc O κ xs.dropLast := hM.asc.sublist (List.dropLast_sublist _)
      have hxe : xs = (A ++ zs) ++ [y] := by rw [hxs, hys]; simp
      have hxr : xs.dropLast = A ++ zs := by rw [hxe]; rw [List.dropLast_concat]
      have hxo : xs.getLast? = some y := by rw [hxe]; rw [List.getLast?_concat]
      have hxl : (xs.dropLast).length = xs.length - 1 := by simp
      have hlen := congrArg List.length hxs
      rw [List.length_append] at hlen
      refine W_seq ?_
      by_cases hc1 : xs.length = 1
      · have t2 : (((xs.length - 1 : Nat) : Int) == 0) = true := by rw [hc1]; rfl
        refine W_sq fun K hK => (W_text [true, true, true, true, true] (by kernel_rfl) ?_); simp only [↓List.toList_toArray, ↓rgd, ↓rgf, ↓reduceIte, Nat.reduceEqDiff, rg, ow_45, e0, ptr_eq, ct9, t2]
        refine hK _ _ ?_; clear hK K
        refine W_true (by simp only [evt, evc, upd_eq, Nat.reduceEqDiff, ↓reduceIte, ntT, ntF] <;> rfl) ?_
        refine W_rg fun K hK => (W_text [true, true, true, false] (by kernel_rfl) ?_); simp only [↓List.toList_toArray, ↓rgd, ↓rgf, ↓reduceIte, Nat.reduceEqDiff, rg, ow_45, e0, ptr_eq]
        refine do_store (by simp only [evt, evc, upd_eq, Nat.reduceEqDiff, ↓reduceIte, ntT, ntF] <;> rfl) (by simp only [evt, evc, upd_eq, Nat.reduceEqDiff, ↓reduceIte, ntT, ntF] <;> rfl) sz_69 rfl cf9.wok (by decide) (oc_one rfl rfl) fun w10 x10 r10 s10 => ⟨trivial, ?_⟩
        simp only [↓List.toList_toArray, ↓rgd, ↓rgf, ↓reduceIte, Nat.reduceEqDiff, rg, ow_45]
        refine hK _ _ ?_; clear hK K
        show W _ _ _ _ _ _
        have rB10 : Row w10 B 0 (E.cel y) := x10.row rB9 fun j _ g => hmB g.1
        have vk := kV_at rB10
        have vv := vV_at rB10
        refine W_sq fun K hK => (W_draw (some none) none [(0, 0, 0), (0, 1, 0), (0, 2, 0), (0, 3, 0), (0, 4, 0), (0, 5, 0), (0, 6, 0)] mixed (by kernel_rfl) ?_); simp only [↓List.toList_toArray, ↓rgd, ↓rgf, ↓reduceIte, Nat.reduceEqDiff, rg, ow_45, e6, ptr_eq, vk, vv]
        refine hK _ _ ?_; clear hK K
        refine W_ret ?_
        simp only [andThen_ret, inBlk_ret]
        have hnil : xs.dropLast = [] := List.eq_nil_of_length_eq_zero (by omega)
        have X310 : Ext (fun y o => mapF m F y o ∨ y = B) w3 (dr w10 (w10.drawn + 1)) := (X39.tr (x10.mono fun y o _ g => .inl (.inr (by simp only [rng] at g; exact ⟨g.1, by omega⟩)))).tr (Ext.dr _ _ _)
        refine endQ_3 (by simp only [upd_eq, Nat.reduceEqDiff, ↓reduceIte] <;> rfl) (by simp only [upd_eq, Nat.reduceEqDiff, ↓reduceIte] <;> rfl) (by simp only [upd_eq, Nat.reduceEqDiff, ↓reduceIte] <;> rfl) ⟨by rw [hxo]; rfl, X3.trans X310 (fun _ _ g => g.elim) (fun y o hy g => g.elim id fun g => by omega), noF, ?_, fun _ _ g => g.elim⟩
        rw [hnil]
        refine MapAt.ext ⟨cf9.ext x10 fun o h2 h3 g => by simp only [rng] at g; omega, ?_, List.Pairwise.nil, .inl ⟨rfl, (Row.cons.1 r10).1⟩, fun _ g => g, fun _ _ g => g.elim⟩ (Ext.dr noF w10 (w10.drawn + 1))
        rw [hc1] at ct9
        exact x10.rd ct9 (by simp only [rng]; omega)
      · have t2 : (((xs.length - 1 : Nat) : Int) == 0) = false := by simp; omega
        refine W_sq fun K hK => (W_text [true, true, true, true, true] (by kernel_rfl) ?_); simp only [↓List.toList_toArray, ↓rgd, ↓rgf, ↓reduceIte, Nat.reduceEqDiff, rg, ow_45, e0, ptr_eq, ct9, t2]
        refine hK _ _ ?_; clear hK K
        refine W_false (by simp only [evt, evc, upd_eq, Nat.reduceEqDiff, ↓reduceIte, ntT, ntF] <;> rfl) (W_skip ?_)
        show W _ _ _ _ _ _
        refine W_sq fun K hK => (W_draw (some none) none [(0, 0, 0), (0, 1, 0), (0, 2, 0), (0, 3, 0), (0, 4, 0), (0, 5, 0), (0, 6, 0)] mixed (by kernel_rfl) ?_); simp only [↓List.toList_toArray, ↓rgd, ↓rgf, ↓reduceIte, Nat.reduceEqDiff, rg, ow_45, e6, ptr_eq, vk, vv]
        refine hK _ _ ?_; clear hK K
        refine W_ret ?_
        simp only [andThen_ret, inBlk_ret]
        have hzlo : lo ≤ zs.length := by
          rcases hlo with h | ⟨h, hA⟩
          · omega
          · rw [hA] at hlen; simp at hlen; omega
        obtain ⟨F2, hT2, hF2⟩ := hole u zs _ xu1 (htr lo hzlo) (fun y o g => .inl (hoF y o g)) (by omega)
        have hF2B : ∀ y o, F2 y o → ¬ blkF B y o := fun y o g (k : y = B) => by
          rcases hF2 y o g with g | g
          · have := hFlt y o g; omega
          · omega
        have hF2m : ∀ o, ¬ F2 m o := fun o g => by
          rcases hF2 m o g with g | g
          · exact hM.off o g
          · omega
        refine endQ_3 (by simp only [upd_eq, Nat.reduceEqDiff, ↓reduceIte] <;> rfl) (by simp only [upd_eq, Nat.reduceEqDiff, ↓reduceIte] <;> rfl) (by simp only [upd_eq, Nat.reduceEqDiff, ↓reduceIte] <;> rfl) ⟨by rw [hxo]; rfl, X3.trans (X39.tr (Ext.dr _ _ _)) (fun _ _ g => g.elim) (fun y o hy g => g.elim id fun g => by omega), F2, ?_, fun y o g => (hF2 y o g).imp id fun g => by omega⟩
        refine MapAt.ext ⟨cf9, by rw [hxl]; exact ct9, ha, .inr ⟨h, b, ?_, ?_⟩, hF2m, ?_⟩ (Ext.dr noF w9 (w9.drawn + 1))
        · rw [hroot] at hr
          exact x9.rd (XW.rd hr (hmW 2)) (by simp only [rng]; omega)
        · rw [hxr]
          have := (hT2.ext xu2 hF2B).ext x9 fun y o g k => by simp only [rng] at k; rw [k.1] at g; exact hF2m _ g
          simpa using this
        · intro y o g; rw [s9]; exact (hT2.ext xu2 hF2B).lt y o g
    · have hcl : lastSel cs.length < cs.length := lastSel_lt _ (by have := n.len; omega)
      obtain ⟨c, hc⟩ : ∃ c, cs[lastSel cs.length]? = some c := ⟨_, List.getElem?_eq_getElem hcl⟩
      have hcm : c ∈ cs := List.mem_of_getElem? hc
      have htc := n.sub c hcm
      have hcF : ∀ y o, c.F y o → Fb y o := fun y o g => (n.fp y o).2 (.inr (.inr ⟨c, hcm, g⟩))
      have b3 := o4.h3
      refine W_sq fun K hK => (W_text [true, false] (by kernel_rfl) ?_); simp only [↓List.toList_toArray, ↓rgd, ↓rgf, ↓reduceIte, Nat.reduceEqDiff, rg, ow_45, e5]
      refine do_call fn_58 (by simp only [evt, evc, upd_eq, Nat.reduceEqDiff, ↓reduceIte, maT, maC, maN, isnN, isnS] <;> rfl) (leaf_any b' (some ⟨bc, 0, none⟩) w4 b3) ?_
      rintro _ w4 ⟨rfl, rfl⟩
      refine ⟨trivial, ?_⟩
      simp only [↓List.toList_toArray, ↓rgd, ↓rgf, ↓reduceIte, Nat.reduceEqDiff, rg, ow_45]
      refine hK _ _ ?_; clear hK K
      refine W_false (by simp only [evt, evc, upd_eq, Nat.reduceEqDiff, ↓reduceIte, ntT, ntF] <;> rfl) (W_skip ?_)
      show W _ _ _ _ _ _
      have n4 := n.ext sh4.ext (fun y o g hh => by
        rcases hh.2 with hh | hh
        · exact hDF y hh o ((n.fp y o).2 (.inr (.inl g)))
        · subst hh
          rcases g with g | g
          · exact n.ap.cb g.symm
          · exact n.ap.ab g.1.symm) fun d' hd y o g hh => by
        rcases hh.2 with hh | hh
        · exact hDF y hh o ((n.fp y o).2 (.inr (.inr ⟨d', hd, g⟩)))
        · exact n.ap.own d' hd y o g (.inl hh)
      have hc0 := n4.kids.c0
      rw [List.length_map] at hc0
      have hcr : rd w4 ba (oa + (cs.length - 1)) = some (ptr c.b) := ptr_at n4.kids.row (by rw [List.getElem?_map]; exact congrArg _ hc)
      have q2 := wsub1 cs.length (by omega) (by have := n.len; omega)
      have hlc : cs.length - 1 < cs.length := hcl
      refine W_rg fun K hK => (W_draw (some none) none [(0, 0, 0), (0, 1, 0), (0, 2, 0), (0, 3, 0), (0, 4, 0), (0, 5, 0), (0, 6, 0), (0, 7, 0), (0, 8, 0), (0, 9, 0), (0, 10, 0), (0, 11, 0), (0, 12, 0), (0, 13, 0), (0, 14, 0), (0, 15, 0), (1, 16, 0), (0, 17, 0)] mixed (by kernel_rfl) ?_); simp only [↓List.toList_toArray, ↓rgd, ↓rgf, ↓reduceIte, Nat.reduceEqDiff, rg, ow_45, e0, e5, ptr_eq, b3, hc0, q2, hlc]
      refine do_call fn_60 (by simp only [evt, evc, upd_eq, Nat.reduceEqDiff, ↓reduceIte, maT, maC, maN, isnN, isnS] <;> rfl) (isoLoad_any m ba (oa + (cs.length - 1)) c.b true iso _ hM4.iso hcr (n4.sub c hcm).iso0.1) ?_
      rintro _ w5 ⟨rfl, r5⟩
      refine ⟨.inr (keeps_ro r5), ?_⟩
      simp only [↓List.toList_toArray, ↓rgd, ↓rgf, ↓reduceIte, Nat.reduceEqDiff, rg, ow_45]
      refine hK _ _ ?_; clear hK K
      have R5 : RO w4 w5 := (RO.dr _ _).tr r5
      obtain ⟨A', C', hw⟩ := weave_at (lastSel cs.length) (cs.map Kid.xs) ks (by simpa using n.len) (by have := n.len; simp only [lastSel]; omega)
      have hC' : C' = [] := by
        rcases hw.right with ⟨hC, _⟩ | ⟨k, _, hk, _⟩
        · exact hC
        · have := (List.getElem?_eq_some_iff.1 hk).1; have := n.len; simp only [lastSel] at *; omega
      subst hC'
      have hxe : ys = A' ++ c.xs := by rw [n.eq, hw.eq (c := c.xs) (by rw [List.getElem?_map, hc]; rfl), List.append_nil]
      have n' := n.ext sh.ext (fun y o g hh => hDF y hh.2 o ((n.fp y o).2 (.inr (.inl g)))) fun d' hd y o g hh => hDF y hh.2 o ((n.fp y o).2 (.inr (.inr ⟨d', hd, g⟩)))
      have hole4 := (hole.down n' ho' h1 h2 x4 b1 hc hw).ro R5
      refine ⟨h', by omega, d - 1, c.b, c.xs, c.F, A ++ A', _, htc, .inl rfl, sh4.ro R5, fun y => ?_, fun y g o hh => ?_, fun y g => ?_, by rw [hxs, hxe, List.append_assoc], hole4, fun y o g => hsub y o (hcF y o g), ?_, ?_, ?_⟩
      · rw [hD y, n.rs ho.h3 hc y, or_assoc]
      · rcases g with g | g
        · exact hDF y g o (hcF y o hh)
        · exact n.ap.own c hcm y o hh (.inl g)
      · exact hFF y 1 ⟨rfl, g⟩
      · simp only [upd_eq, Nat.reduceEqDiff, ↓reduceIte]; exact e0
      · simp only [upd_eq, Nat.reduceEqDiff, ↓reduceIte]; exact e6
      · simp only [upd_eq, Nat.reduceEqDiff, ↓reduceIte]
set_option maxHeartbeats 4000000 in
set_option maxRecDepth 8000 in
theorem popMin_any (m d : Nat) (iso : Int) (hd : 2 ≤ d) (hd' : d ≤ 128) (xs : List It) (F : Nat → Nat → Prop) (w : World) (hM : MapAt w m d iso xs F) (hbig : xs.length < 1152921504606846976) :
    CallK Try.prog 46 #[ptr m] w fun v w' => PopQ m d iso xs.head? xs.tail F w v w' := by
  have hml := hM.mlt
  refine calls_of_W [.tmp 2, .tmp 3, .tmp 4] Try.func46 rfl Try.ntmps46 Try.results46 (by simp) fun e he => ?_
  have e0 : e 0 = ptr m := he 0 _ rfl
  clear he
  refine W_sq fun K hK => (W_text [true, true, true] (by kernel_rfl) ?_); simp only [↓List.toList_toArray, ↓rgd, ↓rgf, ↓reduceIte, Nat.reduceEqDiff, rg, ow_46]
  refine hK _ _ ?_; clear hK K
  refine W_seq ?_
  rcases hM.root with ⟨rfl, hr⟩ | ⟨h, b, hr, ht⟩
  · have hk := pz_k hM.cfg.ez
    have hv := pz_v hM.cfg.ez
    refine W_sq fun K hK => (W_text [true, true, true, true, true] (by kernel_rfl) ?_); simp only [↓List.toList_toArray, ↓rgd, ↓rgf, ↓reduceIte, Nat.reduceEqDiff, rg, ow_46, e0, ptr_eq, hr]
    refine hK _ _ ?_; clear hK K
    refine W_true (by simp only [evt, evc, upd_eq, Nat.reduceEqDiff, ↓reduceIte, ntT, ntF] <;> rfl) ?_
    refine W_sq fun K hK => (W_draw (some none) none [(0, 0, 0), (0, 1, 0), (0, 2, 0), (0, 3, 0), (0, 4, 0), (0, 5, 0), (0, 6, 0), (0, 7, 0), (0, 8, 0), (0, 9, 0), (0, 10, 0), (0, 11, 0), (0, 12, 0)] mixed (by kernel_rfl) ?_); simp only [↓List.toList_toArray, ↓rgd, ↓rgf, ↓reduceIte, Nat.reduceEqDiff, rg, ow_46, e0, ptr_eq, hk, hv]
    refine hK _ _ ?_; clear hK K
    refine W_ret ?_
    simp only [andThen_ret]
    exact endQ_3 (by simp only [upd_eq, Nat.reduceEqDiff, ↓reduceIte] <;> rfl) (by simp only [upd_eq, Nat.reduceEqDiff, ↓reduceIte] <;> rfl) (by simp only [upd_eq, Nat.reduceEqDiff, ↓reduceIte] <;> rfl) ⟨rfl, Ext.dr _ _ _, F, hM.ext (Ext.dr _ _ _), fun _ _ g => .inl g⟩
  · refine W_sq fun K hK => (W_text [true, true, true, true, true] (by kernel_rfl) ?_); simp only [↓List.toList_toArray, ↓rgd, ↓rgf, ↓reduceIte, Nat.reduceEqDiff, rg, ow_46, e0, ptr_eq, hr]
    refine hK _ _ ?_; clear hK K
    refine W_false (by simp only [evt, evc, upd_eq, Nat.reduceEqDiff, ↓reduceIte, ntT, ntF] <;> rfl) (W_skip ?_)
    show W _ _ _ _ _ _
    refine W_sq fun K hK => (W_text [true, true, true, true, false, true] (by kernel_rfl) ?_); simp only [↓List.toList_toArray, ↓rgd, ↓rgf, ↓reduceIte, Nat.reduceEqDiff, rg, ow_46, e0, ptr_eq]
    refine do_call fn_60 (by simp only [evt, evc, upd_eq, Nat.reduceEqDiff, ↓reduceIte, maT, maC, maN, isnN, isnS] <;> rfl) (isoLoad_any m m 2 b true iso w hM.cfg.iso hr ht.iso0.1) ?_
    rintro _ w1 ⟨rfl, r1⟩
    refine ⟨trivial, ?_⟩
    simp only [↓List.toList_toArray, ↓rgd, ↓rgf, ↓reduceIte, Nat.reduceEqDiff, rg, ow_46]
    refine hK _ _ ?_; clear hK K
    refine W_sq fun K hK => (W_text [false] (by kernel_rfl) ?_); simp only [↓List.toList_toArray, ↓rgd, ↓rgf, ↓reduceIte, Nat.reduceEqDiff, rg, ow_46]
    refine do_alloc dz_it fun w3 n3 => ⟨trivial, ?_⟩
    simp only [↓List.toList_toArray, ↓rgd, ↓rgf, ↓reduceIte, Nat.reduceEqDiff, rg, ow_46]
    refine hK _ _ ?_; clear hK K
    have X3 : Ext noF w w3 := (r1.ext (F := noF)).tr n3.ext
    obtain ⟨B, hB⟩ : ∃ B, B = w.heap.size := ⟨_, rfl⟩
    have hB1 : w1.heap.size = B := by obtain ⟨n, rfl⟩ := r1; exact hB.symm
    have s3 : w3.heap.size = B + 1 := by have := n3.size; omega
    have wB : wok w3 B 2 := by rw [← hB1]; exact n3.wok
    have hFlt : ∀ y o, F y o → y < B := by rw [hB]; exact hM.lt
    rw [hB1]
    replace hM := hM.ext X3
    replace hr : rd w3 m 2 = some (ptr b) := X3.rd hr fun h => h
    replace ht := ht.ext X3 fun _ _ _ h => h
    rw [← hB] at hml
    clear r1 n3 hB1
    obtain ⟨root, hroot⟩ : ∃ root, root = b := ⟨_, rfl⟩
    rw [← hroot] at hr
    refine W_sqx fun J hJ => ?_
    have hrest : ∀ (e' : Env) (w' u : World) (D : Nat → Prop) (y : It) (zs : List It), Ext (blkF B) w3 u → u.heap.size = w3.heap.size → Shift (-1) u w' D → (∀ y, RS firstSel w3 h b y ↔ D y) → (∀ y, D y → ∀ o, F y o) → Row w' B 0 (E.cel y) → xs = y :: zs → e' 0 = ptr m → e' 6 = ptr B → J e' w' := by
      intro e w' u D y zs xu su sh hD hDD hrow hxy e0 e6
      refine hJ _ _ ?_; clear hJ J
      have hr' := sh.ext.rd (xu.rd hr (by show ¬ m = B; omega)) (fun g => by omega)
      refine W_sq fun K hK => (W_text [true, true, true, true, true] (by kernel_rfl) ?_); simp only [↓List.toList_toArray, ↓rgd, ↓rgf, ↓reduceIte, Nat.reduceEqDiff, rg, ow_46, e0, ptr_eq, hr']
      refine hK _ _ ?_; clear hK K
      refine W_sqx fun J hJ => ?_
      have hend : ∀ (e' : Env) (w' : World), Ext noF u w' → Row w' B 0 (E.cel y) → e' 0 = ptr m → e' 6 = ptr B → J e' w' := by
        intro e w' X hrow e0 e6
        refine hJ _ _ ?_; clear hJ J
        have XB : Ext (blkF B) w3 w' := xu.tr (X.mono fun _ _ _ g => g.elim)
        have hM' := hM.extG XB (fun y o g k => by have := hFlt y o g; have : y = B := k; omega) (fun o k => by have : m = B := k; omega)
        have v1 : rd w' B 1 = some (kV y.1) := kV_at hrow
        refine W_sq fun K hK => (W_text [true, true, true, false, true, true, true, true, true] (by kernel_rfl) ?_); simp only [↓List.toList_toArray, ↓rgd, ↓rgf, ↓reduceIte, Nat.reduceEqDiff, rg, ow_46, e0, e6, ptr_eq, v1]
        refine do_call fn_61 (by simp only [evt, evc, upd_eq, Nat.reduceEqDiff, ↓reduceIte, maT, maC, maN, isnN, isnS] <;> rfl) (delete_map m d iso (κ y) xs (fun _ => ⟨hd, hd'⟩) F w' hM' hbig) ?_
        obtain ⟨q1, q2, q3⟩ := del_first (hxy ▸ hM.asc : Asc O κ (y :: zs))
        rw [← hxy] at q1 q2 q3
        rintro _ w4 ⟨rfl, x4, F', hM4, hF'⟩
        refine ⟨trivial, ?_⟩
        simp only [↓List.toList_toArray, ↓rgd, ↓rgf, ↓reduceIte, Nat.reduceEqDiff, rg, ow_46]
        refine hK _ _ ?_; clear hK K
        refine W_seq ?_
        have hrow4 : Row w4 B 0 (E.cel y) := x4.row hrow fun j _ g => by
          rcases g with g | g
          · have := hFlt _ _ g; omega
          · omega
        have v1 : rd w4 B 1 = some (kV y.1) := kV_at hrow4
        rw [q1, q2]
        rw [q3] at hM4
        refine W_sq fun K hK => (W_text [true] (by kernel_rfl) ?_); simp only [↓List.toList_toArray, ↓rgd, ↓rgf, ↓reduceIte, Nat.reduceEqDiff, rg, ow_46]
        refine hK _ _ ?_; clear hK K
        refine W_true (by simp only [evt, evc, upd_eq, Nat.reduceEqDiff, ↓reduceIte, ntT, ntF] <;> rfl) ?_
        refine W_sq fun K hK => (W_text [true, true, true, true, true, true] (by kernel_rfl) ?_); simp only [↓List.toList_toArray, ↓rgd, ↓rgf, ↓reduceIte, Nat.reduceEqDiff, rg, ow_46, e6, ptr_eq, v1]
        refine hK _ _ ?_; clear hK K
        have sX := XB.size
        refine W_ret ?_
        simp only [andThen_ret]
        refine endQ_3 (by simp only [upd_eq, Nat.reduceEqDiff, ↓reduceIte] <;> rfl) (by simp only [upd_eq, Nat.reduceEqDiff, ↓reduceIte] <;> rfl) (by simp only [upd_eq, Nat.reduceEqDiff, ↓reduceIte] <;> rfl) ⟨by rw [hxy]; rfl, ?_, F', by rw [hxy]; exact hM4, fun y o g => (hF' y o g).imp id fun g => by omega⟩
        exact X3.trans ((XB.mono (G := fun y o => mapF m F y o ∨ y = B) fun _ _ _ g => .inr g).tr (x4.mono fun _ _ _ g => .inl g)) (fun _ _ g => g.elim) fun y o hy g => g.elim id fun g => by omega
      clear hJ
      refine W_block (W_loop (fun mm e w' => ∃ (lo b : Nat) (ys : List It) (F : Nat → Nat → Prop) (D : Nat → Prop), Tr E iso (d - 1) (2 * d - 1) mm w3 lo b ys F ∧ (∀ y o, F y o → y < B) ∧ Shift (-1) u w' D ∧ (∀ y, RS firstSel w3 mm b y ↔ D y) ∧ (∀ y, D y → y < B) ∧ Row w' B 0 (E.cel y) ∧ ys.length ≤ xs.length ∧ e 0 = ptr m ∧ e 6 = ptr B ∧ e 5 = ptr b)
        h ⟨1, b, xs, F, D, ht, hFlt, sh, hD, fun y g => hFlt y 0 (hDD y g 0), hrow, Nat.le_refl _, ?_, ?_, ?_⟩ ?_)
      · simp only [upd_eq, Nat.reduceEqDiff, ↓reduceIte]; exact e0
      · simp only [upd_eq, Nat.reduceEqDiff, ↓reduceIte]; exact e6
      · simp only [upd_eq, Nat.reduceEqDiff, ↓reduceIte]; rw [hroot]; rfl
      clear sh hD hDD hrow e0 e6 hr' D e w' ht
      rintro mm e w' ⟨lo, b, ys, F', D, ht, hlt', sh, hD, hDB, hrow, hle, e0, e6, e5⟩
      obtain ⟨bi, oi, cap, ks, ch, ho3, h1, h2, hoF, hin⟩ := ht.open
      have hnb : ∀ y o, F' y o → ¬ blkF B y o := fun y o g k => by have := hlt' y o g; have : y = B := k; omega
      have ho := ho3.ext xu fun y o g => hnb y o (hoF y o g)
      have hDb : D b := (hD b).1 (by cases mm <;> simp [RS])
      obtain ⟨k, k1, k2⟩ := sh.cnt b hDb
      rw [ho.h1, Option.some.injEq, Value.int.injEq] at k1
      obtain ⟨-, rfl⟩ := k1
      have q1 : IntKind.i64.wrap ((ys.length : Int) + -1 + 1) = ys.length := by rw [IntWalk.i64_in _ (by omega)]; omega
      refine W_block ?_
      refine W_sq fun K hK => (W_text [true, true, true, true, true, true, true, false] (by kernel_rfl) ?_); simp only [↓List.toList_toArray, ↓rgd, ↓rgf, ↓reduceIte, Nat.reduceEqDiff, rg, ow_46, e5, ptr_eq, k2, q1]
      refine do_store (by simp only [evt, evc, upd_eq, Nat.reduceEqDiff, ↓reduceIte, ntT, ntF] <;> rfl) (by simp only [evt, evc, upd_eq, Nat.reduceEqDiff, ↓reduceIte, ntT, ntF] <;> rfl) sz_3 rfl (sh.ext.wok ho.wb) (by decide) (oc_one rfl rfl) fun w4 x4 r4 s4 => ⟨trivial, ?_⟩
      simp only [↓List.toList_toArray, ↓rgd, ↓rgf, ↓reduceIte, Nat.reduceEqDiff, rg, ow_46]
      refine hK _ _ ?_; clear hK K
      have sh4 := sh.undo hDb ho.h1 x4 (Row.cons.1 r4).1
      have hbB := hDB b hDb
      have hrow4 : Row w4 B 0 (E.cel y) := x4.row hrow fun j _ g => by simp only [rng] at g; omega
      have b3 := sh4.ext.rd ho.h3 (fun g => by omega)
      refine W_seq ?_
      rcases hin with ⟨rfl, rfl, rfl, hF⟩ | ⟨h', bc, ba, oa, capc, cs, rfl, rfl, n⟩
      · refine W_sq fun K hK => (W_text [true, false] (by kernel_rfl) ?_); simp only [↓List.toList_toArray, ↓rgd, ↓rgf, ↓reduceIte, Nat.reduceEqDiff, rg, ow_46, e5]
        refine do_call fn_58 (by simp only [evt, evc, upd_eq, Nat.reduceEqDiff, ↓reduceIte, maT, maC, maN, isnN, isnS] <;> rfl) (leaf_any b none w4 b3) ?_
        rintro _ w4 ⟨rfl, rfl⟩
        refine ⟨trivial, ?_⟩
        simp only [↓List.toList_toArray, ↓rgd, ↓rgf, ↓reduceIte, Nat.reduceEqDiff, rg, ow_46]
        refine hK _ _ ?_; clear hK K
        refine W_true (by simp only [evt, evc, upd_eq, Nat.reduceEqDiff, ↓reduceIte, ntT, ntF] <;> rfl) (W_exit ?_)
        simp only [andThen_exit, inBlk_exit, andThen_normal, Nat.reduceEqDiff, ↓reduceIte]
        refine hend _ _ (sh4.ext.mono fun y o _ g => g.2.2 ((hD y).2 g.2.1)) hrow4 ?_ ?_
        · simp only [upd_eq, Nat.reduceEqDiff, ↓reduceIte]; exact e0
        · simp only [upd_eq, Nat.reduceEqDiff, ↓reduceIte]; exact e6
      · refine W_sq fun K hK => (W_text [true, false] (by kernel_rfl) ?_); simp only [↓List.toList_toArray, ↓rgd, ↓rgf, ↓reduceIte, Nat.reduceEqDiff, rg, ow_46, e5]
        refine do_call fn_58 (by simp only [evt, evc, upd_eq, Nat.reduceEqDiff, ↓reduceIte, maT, maC, maN, isnN, isnS] <;> rfl) (leaf_any b (some ⟨bc, 0, none⟩) w4 b3) ?_
        rintro _ w4 ⟨rfl, rfl⟩
        refine ⟨trivial, ?_⟩
        simp only [↓List.toList_toArray, ↓rgd, ↓rgf, ↓reduceIte, Nat.reduceEqDiff, rg, ow_46]
        refine hK _ _ ?_; clear hK K
        refine W_false (by simp only [evt, evc, upd_eq, Nat.reduceEqDiff, ↓reduceIte, ntT, ntF] <;> rfl) (W_skip ?_)
        show W _ _ _ _ _ _
        have hcl : firstSel cs.length < cs.length := firstSel_lt _ (by have := n.len; omega)
        obtain ⟨c, hc⟩ : ∃ c, cs[firstSel cs.length]? = some c := ⟨_, List.getElem?_eq_getElem hcl⟩
        have hcm : c ∈ cs := List.mem_of_getElem? hc
        have htc := n.sub c hcm
        have hcD : ∀ y, (D y ∧ y ≠ b) ↔ RS firstSel w3 h' c.b y := by
          intro y
          rw [← hD y, n.rs ho3.h3 hc y]
          refine ⟨fun g => g.1.resolve_left g.2, fun g => ⟨.inr g, fun hb => ?_⟩⟩
          rw [hb] at g
          exact n.ap.own c hcm b 0 (RS.sub firstSel_lt htc b g 0) (.inl rfl)
        have k4 := (n.kids.ext xu fun y o g => hnb y o ((n.fp y o).2 (.inr (.inl g)))).ext sh4.ext fun y o g hh => n.ap.kid c hcm y o (RS.sub firstSel_lt htc y ((hcD y).1 hh.2) o) g
        have hc0 := k4.c0
        rw [List.length_map] at hc0
        have hcr : rd w4 ba oa = some (ptr c.b) := ptr_at (i := 0) k4.row (by rw [List.getElem?_map]; exact congrArg _ hc)
        have hlc := ix0 1 ba oa cs.length (by omega)
        refine W_rg fun K hK => (W_text [true, true, true, true, true, true, true, true, true] (by kernel_rfl) ?_); simp only [↓List.toList_toArray, ↓rgd, ↓rgf, ↓reduceIte, Nat.reduceEqDiff, rg, ow_46, e5, ptr_eq, b3, hc0, hlc, hcr]
        refine hK _ _ ?_; clear hK K
        have hlen : c.xs.length ≤ ys.length := by rw [n.eq]; exact weave_mem_length _ _ (by simpa using n.len) _ (List.mem_map_of_mem hcm)
        refine ⟨h', by omega, d - 1, c.b, c.xs, c.F, _, htc, fun y o g => hlt' y o ((n.fp y o).2 (.inr (.inr ⟨c, hcm, g⟩))), sh4, fun y => (hcD y).symm, fun y g => hDB y g.1, hrow4, by omega, ?_, ?_, ?_⟩
        · simp only [upd_eq, Nat.reduceEqDiff, ↓reduceIte]; exact e0
        · simp only [upd_eq, Nat.reduceEqDiff, ↓reduceIte]; exact e6
        · simp only [upd_eq, Nat.reduceEqDiff, ↓reduceIte]; rfl
    clear hJ
    refine W_block (W_loop (fun mm e w' => ∃ (lo b' : Nat) (ys : List It) (Fb : Nat → Nat → Prop) (A : List It) (D : Nat → Prop), Tr E iso (d - 1) (2 * d - 1) mm w3 lo b' ys Fb ∧ (lo = d - 1 ∨ lo = 1 ∧ A = []) ∧ Shift (-1) w3 w' D ∧ (∀ y, RS firstSel w3 h b y ↔ D y ∨ RS firstSel w3 mm b' y) ∧ (∀ y, D y → ∀ o, ¬ Fb y o) ∧ (∀ y, D y → ∀ o, F y o) ∧ xs = ys ++ A ∧
        Hole E iso (d - 1) (2 * d - 1) h 1 b F w3.heap.size w' mm lo b' ys Fb [] A (-1) ∧ (∀ y o, Fb y o → F y o) ∧ e 0 = ptr m ∧ e 6 = ptr B ∧ e 5 = ptr b')
        h ⟨1, b, xs, F, [], fun _ => False, ht, .inr ⟨rfl, rfl⟩, Shift.nil _ _, fun y => by simp, fun _ h => h.elim, fun _ h => h.elim, (List.append_nil _).symm, Hole.root (Nat.le_refl _), fun _ _ g => g, ?_, ?_, ?_⟩ ?_)
    · simp only [upd_eq, Nat.reduceEqDiff, ↓reduceIte]; exact e0
    · simp only [upd_eq, Nat.reduceEqDiff, ↓reduceIte]; rfl
    · simp only [upd_eq, Nat.reduceEqDiff, ↓reduceIte]
    clear e0 e
    rintro mm e w' ⟨lo, b', ys, Fb, A, D, htb, hlo, sh, hD, hDF, hDD, hxs, hole, hsub, e0, e6, e5⟩
    obtain ⟨bi, oi, cap, ks, ch, ho, h1, h2, hoF, hin⟩ := htb.open
    have hyx : ys.length ≤ xs.length := by rw [hxs]; simp
    have hDb : ¬ D b' := fun g => hDF b' g 0 (htb.self 0)
    have q1 : IntKind.i64.wrap ((ys.length : Int) - 1) = (ys.length : Int) + -1 := by rw [IntWalk.i64_in _ (by omega)]; omega
    have c1 := sh.ext.rd ho.h1 (fun g => hDb g.2)
    have hbB := hFlt b' 0 (hsub b' 0 (htb.self 0))
    have hDB : ∀ y, D y → y < B := fun y g => hFlt y 0 (hDD y g 0)
    refine W_block ?_
    refine W_sq fun K hK => (W_text [true, true, true, true, true, true, true, false] (by kernel_rfl) ?_); simp only [↓List.toList_toArray, ↓rgd, ↓rgf, ↓reduceIte, Nat.reduceEqDiff, rg, ow_46, e5, ptr_eq, c1, q1]
    refine do_store (by simp only [evt, evc, upd_eq, Nat.reduceEqDiff, ↓reduceIte, ntT, ntF] <;> rfl) (by simp only [evt, evc, upd_eq, Nat.reduceEqDiff, ↓reduceIte, ntT, ntF] <;> rfl) sz_3 rfl (sh.ext.wok ho.wb) (by decide) (oc_one rfl rfl) fun w4 x4 r4 s4 => ⟨trivial, ?_⟩
    simp only [↓List.toList_toArray, ↓rgd, ↓rgf, ↓reduceIte, Nat.reduceEqDiff, rg, ow_46]
    refine hK _ _ ?_; clear hK K
    have b1 : rd w4 b' 1 = some (.int .i64 (ys.length + -1 : Int)) := (Row.cons.1 r4).1
    have sh4 := sh.add hDb ho.h1 x4 b1
    have hFF : ∀ y o, (o = 1 ∧ (D y ∨ y = b')) → ∀ p, F y p := fun y o g p => g.2.elim (fun g => hDD y g p) fun g => by rw [g]; exact hsub _ _ (htb.self p)
    have hM4 : Cfg w4 m iso d := hM.cfg.ext sh4.ext fun o _ _ g => hM.off 0 (hFF _ _ g 0)
    have ho' := ho.ext sh.ext fun y o g hh => hDF y hh.2 o (hoF y o g)
    have o4 := ho'.cnt' x4 b1
    refine W_seq ?_
    rcases hin with ⟨rfl, rfl, rfl, hF⟩ | ⟨h', bc, ba, oa, capc, cs, rfl, rfl, n⟩
    · refine W_sq fun K hK => (W_text [true, false] (by kernel_rfl) ?_); simp only [↓List.toList_toArray, ↓rgd, ↓rgf, ↓reduceIte, Nat.reduceEqDiff, rg, ow_46, e5]
      refine do_call fn_58 (by simp only [evt, evc, upd_eq, Nat.reduceEqDiff, ↓reduceIte, maT, maC, maN, isnN, isnS] <;> rfl) (leaf_any b' none w4 o4.h3) ?_
      rintro _ w4 ⟨rfl, rfl⟩
      refine ⟨trivial, ?_⟩
      simp only [↓List.toList_toArray, ↓rgd, ↓rgf, ↓reduceIte, Nat.reduceEqDiff, rg, ow_46]
      refine hK _ _ ?_; clear hK K
      refine W_true (by simp only [evt, evc, upd_eq, Nat.reduceEqDiff, ↓reduceIte, ntT, ntF] <;> rfl) ?_
      have hpos : 0 < ys.length := by rcases hlo with h | h <;> omega
      obtain ⟨y, zs, hys⟩ : ∃ y zs, ys = y :: zs := by cases ys with | nil => simp at hpos | cons y zs => exact ⟨y, zs, rfl⟩
      have hzl : zs.length + 1 = ys.length := by rw [hys]; simp
      have wB4 : wok w4 B 2 := sh4.ext.wok wB
      have i3 : ys.length - 1 < ys.length := by omega
      have q2 := wsub1 ys.length hpos (by omega)
      have hyi : ys[0]? = some y := by rw [hys]; rfl
      have kv := it_at o4.row hyi
      simp only [Nat.zero_mul, Nat.add_zero] at kv
      have ii := ix0 2 bi oi ys.length hpos
      refine W_sq fun K hK => (W_text [true, true, true, true, true, true, false] (by kernel_rfl) ?_); simp only [↓List.toList_toArray, ↓rgd, ↓rgf, ↓reduceIte, Nat.reduceEqDiff, rg, ow_46, e5, e6, ptr_eq, o4.h2, ii, kv]
      refine do_store (b := B) (o := 0) (by simp only [evt, evc, upd_eq, Nat.reduceEqDiff, ↓reduceIte]; exact e6) (by simp only [evt, evc, upd_eq, Nat.reduceEqDiff, ↓reduceIte, ntT, ntF] <;> rfl) sz_71 (rb_len y) wB4 (by decide) (rb_oc y) fun w5 x5 r5 s5 => ⟨(by first | exact trivial | exact .inl trivial), ?_⟩
      simp only [↓List.toList_toArray, ↓rgd, ↓rgf, ↓reduceIte, Nat.reduceEqDiff, rg, ow_46]
      refine hK _ _ ?_; clear hK K
      (try replace x5 := x5.od)
      have rB : Row w5 B 0 (E.cel y) := r5
      have xB : Ext (blkF B) w4 w5 := x5.mono fun y o _ g => g.1
      have hnb : ∀ y o, Fb y o → ¬ blkF B y o := fun y o g k => by have := hFlt y o (hsub y o g); have : y = B := k; omega
      have o5 := o4.ext xB fun y o g => hnb y o (hoF y o g)
      have hM5 : Cfg w5 m iso d := hM4.ext xB fun o _ _ (g : m = B) => by omega
      have hmn := hM5.mn
      refine W_seq ?_
      by_cases hmin : ys.length = d - 1
      · have t1 : ((ys.length : Int) == ((d - 1 : Nat) : Int)) = true := by simp; omega
        refine W_sq fun K hK => (W_draw (some none) none [(0, 0, 0), (0, 1, 0), (0, 2, 0), (0, 3, 0), (0, 4, 0), (0, 5, 0), (0, 6, 0), (0, 7, 0), (0, 8, 0), (0, 9, 0)] mixed (by kernel_rfl) ?_); simp only [↓List.toList_toArray, ↓rgd, ↓rgf, ↓reduceIte, Nat.reduceEqDiff, rg, ow_46, e0, e5, ptr_eq, o5.h2, hmn, t1]
        refine hK _ _ ?_; clear hK K
        refine W_true (by simp only [evt, evc, upd_eq, Nat.reduceEqDiff, ↓reduceIte, ntT, ntF] <;> rfl) (W_exit ?_)
        simp only [andThen_exit, inBlk_exit, andThen_normal, Nat.reduceEqDiff, ↓reduceIte]
        obtain ⟨u, xu, su, shu⟩ := shift_base sh4 xB wB fun g => g.elim (fun g => by have := hDB _ g; omega) fun g => by omega
        refine hrest _ _ u _ y (zs ++ A) xu su (shu.ro (RO.dr _ _)) (fun y => ?_) (fun y g => hFF y 1 ⟨rfl, g⟩) ((Ext.dr noF _ _).row rB fun _ _ g => g) (by rw [hxs, hys]; simp) ?_ ?_
        · rw [hD y]; rfl
        · simp only [upd_eq, Nat.reduceEqDiff, ↓reduceIte]; exact e0
        · simp only [upd_eq, Nat.reduceEqDiff, ↓reduceIte]; exact e6
      have t1 : ((ys.length : Int) == ((d - 1 : Nat) : Int)) = false := by simp; omega
      refine W_sq fun K hK => (W_draw (some none) none [(0, 0, 0), (0, 1, 0), (0, 2, 0), (0, 3, 0), (0, 4, 0), (0, 5, 0), (0, 6, 0), (0, 7, 0), (0, 8, 0), (0, 9, 0)] mixed (by kernel_rfl) ?_); simp only [↓List.toList_toArray, ↓rgd, ↓rgf, ↓reduceIte, Nat.reduceEqDiff, rg, ow_46, e0, e5, ptr_eq, o5.h2, hmn, t1]
      refine hK _ _ ?_; clear hK K
      refine W_false (by simp only [evt, evc, upd_eq, Nat.reduceEqDiff, ↓reduceIte, ntT, ntF] <;> rfl) (W_skip ?_)
      show W _ _ _ _ _ _
      have D5 : Ext noF w5 (dr w5 (w5.drawn + 1)) := Ext.dr _ _ _
      have rB := D5.row rB fun _ _ g => g
      have xB := xB.tr (D5.mono fun _ _ _ g => g.elim)
      have o5 := o5.ext D5 fun _ _ _ g => g
      have hM5 := hM5.ext D5 fun _ _ _ g => g
      have hmn5 := hM5.mn
      generalize dr w5 (w5.drawn + 1) = w5 at *
      have z5 := zIt_at hM5
      have hml5 : ∀ o, ¬ ownF E b' bi oi cap m o := fun o g => hM.off o (hsub _ _ (hoF _ _ g))
      have hcap := ho.le
      obtain ⟨o1, g1', g2', v2, -⟩ := o5.se.from E_sz 1 (by omega : 1 ≤ ys.length)
      have hp1 : slcX (some 2) (.slice (some ⟨bi, oi, none⟩) ys.length cap) (some (.int .i64 1)) none none = some (.slice (some ⟨bi, o1, none⟩) (ys.length - 1) (cap - 1)) := (slcX_lo 2 bi oi ys.length cap 1 .i64 hpos).trans (by rw [g1'])
      refine W_sq fun K hK => (W_draw (some none) (some 10) [(0, 0, 0), (0, 1, 0), (0, 2, 0), (0, 3, 0), (0, 4, 0), (0, 5, 0), (0, 6, 0), (0, 7, 0), (0, 8, 0), (0, 9, 0), (1, 10, 0)] mixed (by kernel_rfl) ?_); simp only [↓List.toList_toArray, ↓rgd, ↓rgf, ↓reduceIte, Nat.reduceEqDiff, rg, ow_46, e5, ptr_eq, o5.h2, hp1]
      refine do_copy (by simp only [evt, evc, upd_eq, Nat.reduceEqDiff, ↓reduceIte, ntT, ntF] <;> rfl) (by simp only [evt, evc, upd_eq, Nat.reduceEqDiff, ↓reduceIte, ntT, ntF] <;> rfl) rb_eli (SlV.ext0 v2 (Ext.dr noF w5 (w5.drawn + 1))) ((Ext.dr noF w5 (w5.drawn + 1)).wok (o5.wi.mono (by rw [E_sz]; omega))) (flat_oc E _) fun w6 x6 r6 s6 => ⟨(by first | exact trivial | exact .inl trivial), ?_⟩
      simp only [↓List.toList_toArray, ↓rgd, ↓rgf, ↓reduceIte, Nat.reduceEqDiff, rg, ow_46]
      refine hK _ _ ?_; clear hK K
      have hmn : min (ys.length - 1) ys.length = ys.length - 1 - 0 := by omega
      rw [hmn] at x6 r6
      rw [List.take_of_length_le (by rw [flat_length, List.length_drop, E_sz]; omega)] at r6
      obtain ⟨z, g1, g2⟩ := o5.se.down (i := 0) hpos (by simp only [E_sz, Nat.mul_one, Nat.zero_mul, Nat.add_zero]; (try simp only [Nat.mul_one] at x6); exact x6.od) (by simp only [E_sz, Nat.mul_one, Nat.zero_mul, Nat.add_zero]; (try simp only [Nat.mul_one] at r6); exact r6)
      have he0 : ys.eraseIdx 0 = zs := by rw [hys]; rfl
      rw [he0] at g1
      have o6 := o5.step g1 g2
      have X6 : Ext (ownF E b' bi oi cap) w5 w6 := g2.mono fun _ _ _ g => seF_own g
      have hA : (zs ++ [z]).length = ys.length := by rw [List.length_append, List.length_singleton]; omega
      have h26 := o6.h2
      have h46 := o6.le
      rw [hA] at h26 h46
      have z6 := zIt_at (hM5.ext X6 fun o _ _ => hml5 o)
      refine W_sq fun K hK => (W_draw (some none) (some 15) [(0, 0, 0), (0, 1, 0), (0, 2, 0), (0, 3, 0), (0, 4, 0), (0, 5, 0), (0, 6, 0), (0, 7, 0), (0, 8, 0), (0, 9, 0), (0, 10, 0), (0, 11, 0), (0, 12, 0), (0, 13, 0), (0, 14, 0), (1, 15, 0)] mixed (by kernel_rfl) ?_); simp only [↓List.toList_toArray, ↓rgd, ↓rgf, ↓reduceIte, Nat.reduceEqDiff, rg, ow_46, e0, e5, ptr_eq, h26, q2, i3, z6]
      refine do_store (by simp only [evt, evc, upd_eq, Nat.reduceEqDiff, ↓reduceIte, ntT, ntF] <;> rfl) (by simp only [evt, evc, upd_eq, Nat.reduceEqDiff, ↓reduceIte, ntT, ntF] <;> rfl) sz_71 (rb_len zIt) o6.wi (by rw [E_sz]; omega) (rb_oc zIt) fun w7 x7 r7 s7 => ⟨(by first | exact trivial | exact .inl trivial), ?_⟩
      simp only [↓List.toList_toArray, ↓rgd, ↓rgf, ↓reduceIte, Nat.reduceEqDiff, rg, ow_46]
      refine hK _ _ ?_; clear hK K
      obtain ⟨g3, g4⟩ := o6.se.set (i := ys.length - 1) (x := zIt) (by rw [hA]; omega) (by simp only [E_sz, Nat.mul_one]; exact x7.od) (by simp only [E_sz, Nat.mul_one]; exact r7)
      rw [show (zs ++ [z]).set (ys.length - 1) zIt = zs ++ [zIt] by rw [show ys.length - 1 = zs.length by omega]; exact set_last] at g3
      have o7 := o6.step g3 g4
      have X7 : Ext (ownF E b' bi oi cap) w5 w7 := X6.tr (g4.mono fun _ _ _ g => seF_own g)
      have hA' : (zs ++ [zIt]).length = ys.length := by rw [List.length_append, List.length_singleton]; omega
      have h27 := o7.h2
      rw [hA'] at h27
      have i4 : ys.length - 1 ≤ cap := by omega
      refine W_sq fun K hK => (W_draw (some none) (some 14) [(0, 0, 0), (0, 1, 0), (0, 2, 0), (0, 3, 0), (0, 4, 0), (0, 5, 0), (0, 6, 0), (0, 7, 0), (0, 8, 0), (0, 9, 0), (0, 10, 0), (0, 11, 0), (0, 12, 0), (0, 13, 0), (1, 14, 0)] mixed (by kernel_rfl) ?_); simp only [↓List.toList_toArray, ↓rgd, ↓rgf, ↓reduceIte, Nat.reduceEqDiff, rg, ow_46, e5, ptr_eq, h27, q2, i4]
      refine do_store (by simp only [evt, evc, upd_eq, Nat.reduceEqDiff, ↓reduceIte, ntT, ntF] <;> rfl) (by simp only [evt, evc, upd_eq, Nat.reduceEqDiff, ↓reduceIte, ntT, ntF] <;> rfl) sz_87 rfl o7.wb (by decide) (oc_one rfl rfl) fun w8 x8 r8 s8 => ⟨(by first | exact trivial | exact .inl trivial), ?_⟩
      simp only [↓List.toList_toArray, ↓rgd, ↓rgf, ↓reduceIte, Nat.reduceEqDiff, rg, ow_46]
      refine hK _ _ ?_; clear hK K
      obtain ⟨g5, g6⟩ := o7.se.cut x8.od (by rw [show zs.length = ys.length - 1 by omega]; exact (Row.cons.1 r8).1)
      have o8 := o7.step g5 g6
      have X8 : Ext (ownF E b' bi oi cap) w5 w8 := X7.tr (g6.mono fun _ _ _ g => seF_own g)
      have ho8 : ∀ o, ¬ ownF E b' bi oi cap B o := fun o g => hnb _ _ (hoF _ _ g) rfl
      have rB8 : Row w8 B 0 (E.cel y) := X8.row rB fun j _ g => ho8 _ g
      have Xw : Ext (fun y o => Fb y o ∨ y = B) w' w8 := ((x4.mono fun y o _ g => .inl (by simp only [rng] at g; rw [g.1]; exact htb.self o)).tr (xB.mono fun y o _ g => .inr g)).tr (X8.mono fun y o _ g => .inl (hoF y o g))
      obtain ⟨u, xu1, su, xu2⟩ := ext_cutR Xw (sh.ext.wok wB)
      have xu3 := ext_symm xu2 su.symm
      have ou := o8.ext xu3 fun y o g => hnb y o (hoF y o g)
      have hz : ((ys.length : Int) + -1) = (zs.length : Int) := by omega
      rw [hz] at ou
      have htr : ∀ lo, lo ≤ zs.length → Tr E iso (d - 1) (2 * d - 1) 0 u lo b' zs (ownF E b' bi oi cap) := fun lo h => ⟨bi, oi, cap, ou, h, by omega, fun _ _ => Iff.rfl⟩
      have XW : Ext (fun y o => F y o ∨ y = B) w3 w8 := (sh.ext.mono fun y o _ g => .inl (hDD y g.2 o)).tr (Xw.mono fun y o _ g => g.imp (hsub y o) id)
      have hmW : ∀ o, ¬ (F m o ∨ m = B) := fun o g => g.elim (hM.off o) fun g => by omega
      have ct8 := XW.rd hM.cnt (hmW 3)
      have q3 := wsub1 xs.length (by omega) (by omega)
      have cf8 := hM.cfg.ext XW fun o _ _ => hmW o
      refine W_sq fun K hK => (W_text [true, true, true, true, true, true, true, false] (by kernel_rfl) ?_); simp only [↓List.toList_toArray, ↓rgd, ↓rgf, ↓reduceIte, Nat.reduceEqDiff, rg, ow_46, e0, ptr_eq, ct8, q3]
      refine do_store (by simp only [evt, evc, upd_eq, Nat.reduceEqDiff, ↓reduceIte, ntT, ntF] <;> rfl) (by simp only [evt, evc, upd_eq, Nat.reduceEqDiff, ↓reduceIte, ntT, ntF] <;> rfl) sz_3 rfl cf8.wok (by decide) (oc_one rfl rfl) fun w9 x9 r9 s9 => ⟨trivial, ?_⟩
      simp only [↓List.toList_toArray, ↓rgd, ↓rgf, ↓reduceIte, Nat.reduceEqDiff, rg, ow_46]
      refine hK _ _ ?_; clear hK K
      have hmB : ¬ B = m := by omega
      have cf9 := cf8.ext x9 fun o h2 h3 g => by simp only [rng] at g; omega
      have ct9 : rd w9 m 3 = some (.int .i64 (xs.length - 1 : Nat)) := (Row.cons.1 r9).1
      have rB9 : Row w9 B 0 (E.cel y) := x9.row rB8 fun j _ g => hmB g.1
      have vk := kV_at rB9
      have vv := vV_at rB9
      have X39 : Ext (fun y o => mapF m F y o ∨ y = B) w3 w9 := (XW.mono fun y o _ g => g.imp .inl id).tr (x9.mono fun y o _ g => .inl (.inr (by simp only [rng] at g; exact ⟨g.1, by omega⟩)))
      have ha : Asc O κ xs.tail := hM.asc.sublist (List.tail_sublist _)
      have hxe : xs = y :: (zs ++ A) := by rw [hxs, hys]; simp
      have hxr : xs.tail = zs ++ A := by rw [hxe]; rfl
      have hxo : xs.head? = some y := by rw [hxe]; rfl
      have hxl : (xs.tail).length = xs.length - 1 := by simp
      have hlen := congrArg List.length hxs
      rw [List.length_append] at hlen
      refine W_seq ?_
      by_cases hc1 : xs.length = 1
      · have t2 : (((xs.length - 1 : Nat) : Int) == 0) = true := by rw [hc1]; rfl
        refine W_sq fun K hK => (W_text [true, true, true, true, true] (by kernel_rfl) ?_); simp only [↓List.toList_toArray, ↓rgd, ↓rgf, ↓reduceIte, Nat.reduceEqDiff, rg, ow_46, e0, ptr_eq, ct9, t2]
        refine hK _ _ ?_; clear hK K
        refine W_true (by simp only [evt, evc, upd_eq, Nat.reduceEqDiff, ↓reduceIte, ntT, ntF] <;> rfl) ?_
        refine W_rg fun K hK => (W_text [true, true, true, false] (by kernel_rfl) ?_); simp only [↓List.toList_toArray, ↓rgd, ↓rgf, ↓reduceIte, Nat.reduceEqDiff, rg, ow_46, e0, ptr_eq]
        refine do_store (by simp only [evt, evc, upd_eq, Nat.reduceEqDiff, ↓reduceIte, ntT, ntF] <;> rfl) (by simp only [evt, evc, upd_eq, Nat.reduceEqDiff, ↓reduceIte, ntT, ntF] <;> rfl) sz_69 rfl cf9.wok (by decide) (oc_one rfl rfl) fun w10 x10 r10 s10 => ⟨trivial, ?_⟩
        simp only [↓List.toList_toArray, ↓rgd, ↓rgf, ↓reduceIte, Nat.reduceEqDiff, rg, ow_46]
        refine hK _ _ ?_; clear hK K
        show W _ _ _ _ _ _
        have rB10 : Row w10 B 0 (E.cel y) := x10.row rB9 fun j _ g => hmB g.1
        have vk := kV_at rB10
        have vv := vV_at rB10
        refine W_sq fun K hK => (W_draw (some none) none [(0, 0, 0), (0, 1, 0), (0, 2, 0), (0, 3, 0), (0, 4, 0), (0, 5, 0), (0, 6, 0)] mixed (by kernel_rfl) ?_); simp only [↓List.toList_toArray, ↓rgd, ↓rgf, ↓reduceIte, Nat.reduceEqDiff, rg, ow_46, e6, ptr_eq, vk, vv]
        refine hK _ _ ?_; clear hK K
        refine W_ret ?_
        simp only [andThen_ret, inBlk_ret]
        have hnil : xs.tail = [] := List.eq_nil_of_length_eq_zero (by omega)
        have X310 : Ext (fun y o => mapF m F y o ∨ y = B) w3 (dr w10 (w10.drawn + 1)) := (X39.tr (x10.mono fun y o _ g => .inl (.inr (by simp only [rng] at g; exact ⟨g.1, by omega⟩)))).tr (Ext.dr _ _ _)
        refine endQ_3 (by simp only [upd_eq, Nat.reduceEqDiff, ↓reduceIte] <;> rfl) (by simp only [upd_eq, Nat.reduceEqDiff, ↓reduceIte] <;> rfl) (by simp only [upd_eq, Nat.reduceEqDiff, ↓reduceIte] <;> rfl) ⟨by rw [hxo]; rfl, X3.trans X310 (fun _ _ g => g.elim) (fun y o hy g => g.elim id fun g => by omega), noF, ?_, fun _ _ g => g.elim⟩
        rw [hnil]
        refine MapAt.ext ⟨cf9.ext x10 fun o h2 h3 g => by simp only [rng] at g; omega, ?_, List.Pairwise.nil, .inl ⟨rfl, (Row.cons.1 r10).1⟩, fun _ g => g, fun _ _ g => g.elim⟩ (Ext.dr noF w10 (w10.drawn + 1))
        rw [hc1] at ct9
        exact x10.rd ct9 (by simp only [rng]; omega)
      · have t2 : (((xs.length - 1 : Nat) : Int) == 0) = false := by simp; omega
        refine W_sq fun K hK => (W_text [true, true, true, true, true] (by kernel_rfl) ?_); simp only [↓List.toList_toArray, ↓rgd, ↓rgf, ↓reduceIte, Nat.reduceEqDiff, rg, ow_46, e0, ptr_eq, ct9, t2]
        refine hK _ _ ?_; clear hK K
        refine W_false (by simp only [evt, evc, upd_eq, Nat.reduceEqDiff, ↓reduceIte, ntT, ntF] <;> rfl) (W_skip ?_)
        show W _ _ _ _ _ _
        refine W_sq fun K hK => (W_draw (some none) none [(0, 0, 0), (0, 1, 0), (0, 2, 0), (0, 3, 0), (0, 4, 0), (0, 5, 0), (0, 6, 0)] mixed (by kernel_rfl) ?_); simp only [↓List.toList_toArray, ↓rgd, ↓rgf, ↓reduceIte, Nat.reduceEqDiff, rg, ow_46, e6, ptr_eq, vk, vv]
        refine hK _ _ ?_; clear hK K
        refine W_ret ?_
        simp only [andThen_ret, inBlk_ret]
        have hzlo : lo ≤ zs.length := by
          rcases hlo with h | ⟨h, hA⟩
          · omega
          · rw [hA] at hlen; simp at hlen; omega
        obtain ⟨F2, hT2, hF2⟩ := hole u zs _ xu1 (htr lo hzlo) (fun y o g => .inl (hoF y o g)) (by omega)
        have hF2B : ∀ y o, F2 y o → ¬ blkF B y o := fun y o g (k : y = B) => by
          rcases hF2 y o g with g | g
          · have := hFlt y o g; omega
          · omega
        have hF2m : ∀ o, ¬ F2 m o := fun o g => by
          rcases hF2 m o g with g | g
          · exact hM.off o g
          · omega
        refine endQ_3 (by simp only [upd_eq, Nat.reduceEqDiff, ↓reduceIte] <;> rfl) (by simp only [upd_eq, Nat.reduceEqDiff, ↓reduceIte] <;> rfl) (by simp only [upd_eq, Nat.reduceEqDiff, ↓reduceIte] <;> rfl) ⟨by rw [hxo]; rfl, X3.trans (X39.tr (Ext.dr _ _ _)) (fun _ _ g => g.elim) (fun y o hy g => g.elim id fun g => by omega), F2, ?_, fun y o g => (hF2 y o g).imp id fun g => by omega⟩
        refine MapAt.ext ⟨cf9, by rw [hxl]; exact ct9, ha, .inr ⟨h, b, ?_, ?_⟩, hF2m, ?_⟩ (Ext.dr noF w9 (w9.drawn + 1))
        · rw [hroot] at hr
          exact x9.rd (XW.rd hr (hmW 2)) (by simp only [rng]; omega)
        · rw [hxr]
          have := (hT2.ext xu2 hF2B).ext x9 fun y o g k => by simp only [rng] at k; rw [k.1] at g; exact hF2m _ g
          simpa using this
        · intro y o g; rw [s9]; exact (hT2.ext xu2 hF2B).lt y o g
    · have hcl : firstSel cs.length < cs.length := firstSel_lt _ (by have := n.len; omega)
      obtain ⟨c, hc⟩ : ∃ c, cs[firstSel cs.length]? = some c := ⟨_, List.getElem?_eq_getElem hcl⟩
      have hcm : c ∈ cs := List.mem_of_getElem? hc
      have htc := n.sub c hcm
      have hcF : ∀ y o, c.F y o → Fb y o := fun y o g => (n.fp y o).2 (.inr (.inr ⟨c, hcm, g⟩))
      have b3 := o4.h3
      refine W_sq fun K hK => (W_text [true, false] (by kernel_rfl) ?_); simp only [↓List.toList_toArray, ↓rgd, ↓rgf, ↓reduceIte, Nat.reduceEqDiff, rg, ow_46, e5]
      refine do_call fn_58 (by simp only [evt, evc, upd_eq, Nat.reduceEqDiff, ↓reduceIte, maT, maC, maN, isnN, isnS] <;> rfl) (leaf_any b' (some ⟨bc, 0, none⟩) w4 b3) ?_
      rintro _ w4 ⟨rfl, rfl⟩
      refine ⟨trivial, ?_⟩
      simp only [↓List.toList_toArray, ↓rgd, ↓rgf, ↓reduceIte, Nat.reduceEqDiff, rg, ow_46]
      refine hK _ _ ?_; clear hK K
      refine W_false (by simp only [evt, evc, upd_eq, Nat.reduceEqDiff, ↓reduceIte, ntT, ntF] <;> rfl) (W_skip ?_)
      show W _ _ _ _ _ _
      have n4 := n.ext sh4.ext (fun y o g hh => by
        rcases hh.2 with hh | hh
        · exact hDF y hh o ((n.fp y o).2 (.inr (.inl g)))
        · subst hh
          rcases g with g | g
          · exact n.ap.cb g.symm
          · exact n.ap.ab g.1.symm) fun d' hd y o g hh => by
        rcases hh.2 with hh | hh
        · exact hDF y hh o ((n.fp y o).2 (.inr (.inr ⟨d', hd, g⟩)))
        · exact n.ap.own d' hd y o g (.inl hh)
      have hc0 := n4.kids.c0
      rw [List.length_map] at hc0
      have hcr : rd w4 ba oa = some (ptr c.b) := ptr_at (i := 0) n4.kids.row (by rw [List.getElem?_map]; exact congrArg _ hc)
      have hlc := ix0 1 ba oa cs.length (by omega)
      refine W_rg fun K hK => (W_text [true, true, true, true, true, true, true, true, false, true] (by kernel_rfl) ?_); simp only [↓List.toList_toArray, ↓rgd, ↓rgf, ↓reduceIte, Nat.reduceEqDiff, rg, ow_46, e0, e5, ptr_eq, b3, hc0, hlc]
      refine do_call fn_60 (by simp only [evt, evc, upd_eq, Nat.reduceEqDiff, ↓reduceIte, maT, maC, maN, isnN, isnS] <;> rfl) (isoLoad_any m ba oa c.b true iso _ hM4.iso hcr (n4.sub c hcm).iso0.1) ?_
      rintro _ w5 ⟨rfl, r5⟩
      refine ⟨trivial, ?_⟩
      simp only [↓List.toList_toArray, ↓rgd, ↓rgf, ↓reduceIte, Nat.reduceEqDiff, rg, ow_46]
      refine hK _ _ ?_; clear hK K
      have R5 : RO w4 w5 := r5
      obtain ⟨A', C', hw⟩ := weave_at (firstSel cs.length) (cs.map Kid.xs) ks (by simpa using n.len) (by have := n.len; simp only [firstSel]; omega)
      have hA' : A' = [] := by
        rcases hw.left with ⟨hA, _⟩ | ⟨_, k, hk, _⟩
        · exact hA
        · simp only [firstSel] at hk; omega
      subst hA'
      have hxe : ys = c.xs ++ C' := by rw [n.eq, hw.eq (c := c.xs) (by rw [List.getElem?_map, hc]; rfl), List.nil_append]
      have n' := n.ext sh.ext (fun y o g hh => hDF y hh.2 o ((n.fp y o).2 (.inr (.inl g)))) fun d' hd y o g hh => hDF y hh.2 o ((n.fp y o).2 (.inr (.inr ⟨d', hd, g⟩)))
      have hole4 := (hole.down n' ho' h1 h2 x4 b1 hc hw).ro R5
      refine ⟨h', by omega, d - 1, c.b, c.xs, c.F, C' ++ A, _, htc, .inl rfl, sh4.ro R5, fun y => ?_, fun y g o hh => ?_, fun y g => ?_, by rw [hxs, hxe, List.append_assoc], hole4, fun y o g => hsub y o (hcF y o g), ?_, ?_, ?_⟩
      · rw [hD y, n.rs ho.h3 hc y, or_assoc]
      · rcases g with g | g
        · exact hDF y g o (hcF y o hh)
        · exact n.ap.own c hcm y o hh (.inl g)
      · exact hFF y 1 ⟨rfl, g⟩
      · simp only [upd_eq, Nat.reduceEqDiff, ↓reduceIte]; exact e0
      · simp only [upd_eq, Nat.reduceEqDiff, ↓reduceIte]; exact e6
      · simp only [upd_eq, Nat.reduceEqDiff, ↓reduceIte]
end Go.Proofs.Ytinpigpeoakeaaa
/-
  The reference's words behind settings, and their keys. No condition.
-/
set_option linter.unusedSimpArgs false
set_option linter.unusedVariables false
namespace Go.Proofs.Ytinpigpeoakeaaa
open Go Go.Proofs
theorem z_word : zK Try.prog 31 = some [.string ByteArray.empty, .int .i64 0] := by kernel_rfl
theorem el_item : elK Try.prog 22 = some (31, 2, 24, [.string ByteArray.empty, .int .i64 0]) := by kernel_rfl
theorem el_t : elK Try.prog 36 = some (4, 1, 1, [.bool false]) := by kernel_rfl
theorem el_s : elK Try.prog 28 = some (9, 1, 16, [.string ByteArray.empty]) := by kernel_rfl
theorem ni_i : noInt Try.prog 22 = true := by kernel_rfl
theorem ni_t : noInt Try.prog 36 = true := by kernel_rfl
theorem ni_s : noInt Try.prog 28 = true := by kernel_rfl
theorem bs_item0 : bsV Try.prog 22 0 [] = some (31, []) := by kernel_rfl
theorem bs_item1 (x : It) : bsV Try.prog 22 1 [(0, iV x)] = some (31, Ei.cel x) := by kernel_rfl
theorem bs_t1 (x : Bool) : bsV Try.prog 36 1 [(0, .bool x)] = some (4, Eb.cel x) := by kernel_rfl
theorem bs_s1 (x : ByteArray) : bsV Try.prog 28 1 [(0, .string x)] = some (9, Es.cel x) := by kernel_rfl
theorem bu_wk (a : ByteArray) : buildV Try.prog 31 [(0, .string a)] = some (iV (a, 0)) := by kernel_rfl
theorem sl_hi {w : World} {lv : Value} {l : List It} (hl : SlI w lv l) (i : Nat) (hi : i ≤ l.length) : ∃ sv, sliceV Try.prog 22 lv none (some (.int .i64 (i : Nat))) none = some sv ∧ SlV w 2 sv i (flat Ei (l.take i)) := by
  have hlen : (flat Ei (l.take i)).length = i * 2 := by rw [flat_length, List.length_take, Ei_sz]; congr 1; omega
  rcases hl.2 with ⟨rfl, h⟩ | ⟨b, o, cap, rfl, hc, row, hw⟩
  · have h0 : i = 0 := by omega
    exact ⟨.slice none 0 0, by rw [slc_sl, sl_22, slcX_nil _ _ _ h0], hlen, .inl ⟨rfl, h0⟩⟩
  · exact ⟨_, by rw [slc_sl, sl_22, slcX_hi _ _ _ _ _ _ _ (by omega : i ≤ cap)], hlen, .inr ⟨b, o, cap, rfl, by omega, by rw [← flat_take]; exact row.take _, hw⟩⟩
theorem sl_lo {w : World} {lv : Value} {l : List It} (hl : SlI w lv l) (i : Nat) (hi : i ≤ l.length) : ∃ sv, sliceV Try.prog 22 lv (some (.int .i64 (i : Nat))) none none = some sv ∧ SlV w 2 sv (l.length - i) (flat Ei (l.drop i)) := by
  have hlen : (flat Ei (l.drop i)).length = (l.length - i) * 2 := by rw [flat_length, List.length_drop, Ei_sz]
  rcases hl.2 with ⟨rfl, h⟩ | ⟨b, o, cap, rfl, hc, row, hw⟩
  · have h0 : i = 0 := by omega
    exact ⟨.slice none 0 0, by rw [slc_sl, sl_22, slcX_nil_lo _ _ _ h0], hlen, .inl ⟨rfl, by omega⟩⟩
  · have hr : Row w b (o + i * 2) (flat Ei (l.drop i)) := by rw [← flat_drop]; exact row.drop _
    by_cases hci : cap = i
    · refine ⟨_, by rw [slc_sl, sl_22, slcX_lo _ _ _ _ _ _ _ hi], hlen, .inr ⟨b, o, cap - i, by simp [slFrom, hci], by omega, ?_, hw.mono (by omega) (by omega)⟩⟩
      have : l.drop i = [] := List.drop_eq_nil_of_le (by omega)
      rw [this]; exact Row.nil _ _ _
    · exact ⟨_, by rw [slc_sl, sl_22, slcX_lo _ _ _ _ _ _ _ hi], hlen, .inr ⟨b, o + i * 2, cap - i, by simp [slFrom, hci], by omega, hr, hw.mono (by omega) (by omega)⟩⟩
theorem put_two {x : It} {l : List It} : put O κ x l = l.take (lb O κ (κ x) l) ++ [x] ++ l.drop (lb O κ (κ x) l + if hit O κ (κ x) l then 1 else 0) := by unfold put; simp
theorem apart_since {w : World} {sz n : Nat} {v u : Value} {l : List Value} (hu : SlV w sz u n l) (hv : since w.heap.size v) : apart2 v u := fun b o n c o' n' c' h1 h2 => by
  have := hu.lt h2
  have := hv _ _ _ _ h1
  omega
/-- The three lists of WSet. -/
structure Tri (B : Nat) (ov kv sv : Value) (os : List It) (bs : List Bool) (l : List It) (w : World) : Prop where
  o : OutE Ei B ov os w
  k : OutE Eb B kv bs w
  s : OutE Ei B sv l w
  ok : apart2 ov kv
  os : apart2 ov sv
  ks : apart2 kv sv
theorem Tri.ext {B : Nat} {ov kv sv : Value} {os : List It} {bs : List Bool} {l : List It} {w w' : World} (h : Tri B ov kv sv os bs l w) (x : Ext noF w w') : Tri B ov kv sv os bs l w' := ⟨h.o.ext x, h.k.ext x, h.s.ext x, h.ok, h.os, h.ks⟩
theorem Tri.appO {B : Nat} {ov kv sv ov' : Value} {os : List It} {bs : List Bool} {l : List It} {x : It} {w w' : World} (h : Tri B ov kv sv os bs l w) (a : AppRes w 2 ov os.length 1 (flat Ei os) (Ei.cel x) ov' w') (hB : B ≤ w.heap.size) :
    Tri B ov' kv sv (os ++ [x]) bs l w' ∧ Ext (fun y _ => B ≤ y) w w' := by
  obtain ⟨h1, h2⟩ := h.o.app a hB
  obtain ⟨h3, h4⟩ := app_other a h.k.sl h.ok
  obtain ⟨h5, h6⟩ := app_other a h.s.sl h.os
  exact ⟨⟨h1, ⟨h3, h.k.si⟩, ⟨h5, h.s.si⟩, h4, h6, h.ks⟩, h2⟩
theorem Tri.appK {B : Nat} {ov kv sv kv' : Value} {os : List It} {bs : List Bool} {l : List It} {x : Bool} {w w' : World} (h : Tri B ov kv sv os bs l w) (a : AppRes w 1 kv bs.length 1 (flat Eb bs) (Eb.cel x) kv' w') (hB : B ≤ w.heap.size) :
    Tri B ov kv' sv os (bs ++ [x]) l w' ∧ Ext (fun y _ => B ≤ y) w w' := by
  obtain ⟨h1, h2⟩ := h.k.app a hB
  obtain ⟨h3, h4⟩ := app_other a h.o.sl h.ok.symm
  obtain ⟨h5, h6⟩ := app_other a h.s.sl h.ks
  exact ⟨⟨⟨h3, h.o.si⟩, h1, ⟨h5, h.s.si⟩, h4.symm, h.os, h6⟩, h2⟩
set_option maxHeartbeats 4000000 in
set_option maxRecDepth 8000 in
theorem wset_any (l : List It) (lv : Value) (w : World) (hl : SlI w lv l) (hbig : l.length ≤ 2147483647) :
    CallK Try.prog 51 #[lv] w fun v w' => ∃ ov kv sv, v = .tuple #[ov, kv, sv] ∧ SlI w' sv (tree l) ∧ Ext noF w w' := by
  obtain ⟨a, c, hlv⟩ := hl.shape
  refine calls_of_W [.tmp 2, .tmp 3, .tmp 4] Try.func51 rfl Try.ntmps51 Try.results51 (by simp) fun e he => ?_
  have e0 : e 0 = .slice a l.length c := by rw [← hlv]; exact he 0 _ rfl
  clear he
  refine W_sq fun K0 hK => (W_text [true, true, true] (by kernel_rfl) ?_); simp only [↓List.toList_toArray, ↓rgd, ↓rgf, ↓reduceIte, Nat.reduceEqDiff, rg, ow_51]
  refine hK _ _ ?_; clear hK K0
  refine W_sq fun K0 hK => (W_text [true, true] (by kernel_rfl) ?_); simp only [↓List.toList_toArray, ↓rgd, ↓rgf, ↓reduceIte, Nat.reduceEqDiff, rg, ow_51]
  refine hK _ _ ?_; clear hK K0
  refine W_sq fun K0 hK => (W_text [true] (by kernel_rfl) ?_); simp only [↓List.toList_toArray, ↓rgd, ↓rgf, ↓reduceIte, Nat.reduceEqDiff, rg, ow_51]
  refine hK _ _ ?_; clear hK K0
  refine W_seq (W_seq ?_)
  refine W_rg fun K0 hK => (W_text [true, true, true] (by kernel_rfl) ?_); simp only [↓List.toList_toArray, ↓rgd, ↓rgf, ↓reduceIte, Nat.reduceEqDiff, rg, ow_51, e0]
  refine hK _ _ ?_; clear hK K0
  show W _ _ _ _ _ _
  refine W_block (W_loop (fun mm e w' => ∃ (i : Nat) (os : List It) (bs : List Bool), mm = l.length - i ∧ i ≤ l.length ∧ e 14 = .slice a l.length c ∧ e 15 = .int .i64 l.length ∧ e 16 = .int .i64 i ∧ os.length = i ∧ bs.length = i ∧ Tri w.heap.size (e 5) (e 7) (e 6) os bs (tree (l.take i)) w' ∧ Ext noF w w')
    l.length ⟨0, [], [], rfl, Nat.zero_le _, ?_, ?_, ?_, rfl, rfl, ?_, Ext.refl _ _⟩ ?_)
  · simp only [upd_eq, Nat.reduceEqDiff, ↓reduceIte]
  · simp only [upd_eq, Nat.reduceEqDiff, ↓reduceIte]
  · simp only [upd_eq, Nat.reduceEqDiff, ↓reduceIte]; rfl
  · simp only [upd_eq, Nat.reduceEqDiff, ↓reduceIte]; exact ⟨OutE.nil _ _ _, OutE.nil _ _ _, OutE.nil _ _ _, (fun b o n c o' n' c' h => by cases h), (fun b o n c o' n' c' h => by cases h), (fun b o n c o' n' c' h => by cases h)⟩
  clear e0 e
  rintro mm e w' ⟨i, os, bs, rfl, hi, e14, e15, e16, ho, hb, hT, X⟩
  have sX := X.size
  have htl := tree_len (l.take i)
  have htk : (l.take i).length ≤ i := by rw [List.length_take]; omega
  by_cases hlt : i < l.length
  · have ht := lt_tt i l.length hlt
    refine W_sq fun K0 hK => (W_text [true] (by kernel_rfl) ?_); simp only [↓List.toList_toArray, ↓rgd, ↓rgf, ↓reduceIte, Nat.reduceEqDiff, rg, ow_51, e15, e16, ht]
    refine hK _ _ ?_; clear hK K0
    refine W_seq (W_true (by simp only [evt, evc, upd_eq, Nat.reduceEqDiff, ↓reduceIte, ntT, ntF] <;> rfl) (W_skip ?_))
    show W _ _ _ _ _ _
    obtain ⟨x, hx⟩ : ∃ x, l[i]? = some x := ⟨_, List.getElem?_eq_getElem hlt⟩
    obtain ⟨b, o, rfl, row⟩ := hl.at hlv hlt
    have ix := iV_at (X.row row fun _ _ h => h) hx
    refine W_seq (W_block ?_)
    refine W_sq fun K0 hK => (W_text [true, true, false, false] (by kernel_rfl) ?_); simp only [↓List.toList_toArray, ↓rgd, ↓rgf, ↓reduceIte, Nat.reduceEqDiff, rg, ow_51, e14, e16, hlt, ix]
    refine do_alloc z_item fun w2 n2 => ⟨trivial, ?_⟩
    simp only [↓List.toList_toArray, ↓rgd, ↓rgf, ↓reduceIte, Nat.reduceEqDiff, rg, ow_51]
    refine do_store (v := iV x) (by simp only [evt, evc, upd_eq, Nat.reduceEqDiff, ↓reduceIte, ntT, ntF] <;> rfl) (by simp only [evt, evc, upd_eq, Nat.reduceEqDiff, ↓reduceIte, ntT, ntF] <;> rfl) sz_31 rfl n2.wok (by decide) (Ei.one x) fun w3 x3 r3 s3 => ⟨trivial, ?_⟩
    simp only [↓List.toList_toArray, ↓rgd, ↓rgf, ↓reduceIte, Nat.reduceEqDiff, rg, ow_51]
    refine hK _ _ ?_; clear hK K0
    have s2 := n2.size
    have X3 : Ext noF w' w3 := noF_of n2.ext x3 fun y o hy h => by simp only [rng] at h; omega
    have hT3 := hT.ext X3
    have rx : Row w3 w'.heap.size 0 (Ei.cel x) := r3
    have v0 : rd w3 w'.heap.size 0 = some (.string x.1) := (Row.cons.1 rx).1
    generalize hlt' : tree (l.take i) = t at *
    generalize hsv : e 6 = sv at *
    refine W_sq fun K0 hK => (W_text [true, true, true, false, true, true, true, true, true] (by kernel_rfl) ?_); simp only [↓List.toList_toArray, ↓rgd, ↓rgf, ↓reduceIte, Nat.reduceEqDiff, rg, ow_51, hsv, v0]
    refine do_call fn_44 (by simp only [evt, evc, upd_eq, Nat.reduceEqDiff, ↓reduceIte, maT, maC, maN, isnN, isnS] <;> rfl) (spot_any t sv (κ x) w3 hT3.s.sl (by omega)) ?_
    rintro _ w4 ⟨rfl, r4⟩
    refine ⟨trivial, ?_⟩
    simp only [↓List.toList_toArray, ↓rgd, ↓rgf, ↓reduceIte, Nat.reduceEqDiff, rg, ow_51]
    refine hK _ _ ?_; clear hK K0
    have hT4 := hT3.ext r4.ext
    have v4 : rd w4 w'.heap.size 0 = some (.string x.1) := (r4.ext (F := noF)).rd v0 fun h => h
    have bx4 : rdA w4 w'.heap.size 0 2 = some (iV x) := ((r4.ext (F := noF)).row rx fun _ _ h => h).rdA 2 (by show 2 ≤ 2; omega)
    have hlbl := lb_le O κ (κ x) t
    have s4 := (r4.ext (F := noF)).size
    have s3' := X3.size
    refine W_sq fun K0 hK => (W_text [true, true, true, false, false] (by kernel_rfl) ?_); simp only [↓List.toList_toArray, ↓rgd, ↓rgf, ↓reduceIte, Nat.reduceEqDiff, rg, ow_51, v4, bu_wk]
    refine do_alloc z_item fun w5 n5 => ⟨trivial, ?_⟩
    simp only [↓List.toList_toArray, ↓rgd, ↓rgf, ↓reduceIte, Nat.reduceEqDiff, rg, ow_51]
    refine do_store (v := iV (x.1, 0)) (by simp only [evt, evc, upd_eq, Nat.reduceEqDiff, ↓reduceIte, ntT, ntF] <;> rfl) (by simp only [evt, evc, upd_eq, Nat.reduceEqDiff, ↓reduceIte, ntT, ntF] <;> rfl) sz_31 rfl n5.wok (by decide) (Ei.one _) fun w6 x6 r6 s6 => ⟨trivial, ?_⟩
    simp only [↓List.toList_toArray, ↓rgd, ↓rgf, ↓reduceIte, Nat.reduceEqDiff, rg, ow_51]
    refine hK _ _ ?_; clear hK K0
    have s5 := n5.size
    have X6 : Ext noF w4 w6 := noF_of n5.ext x6 fun y o hy h => by simp only [rng] at h; omega
    have hT6 := hT4.ext X6
    have r6 : Row w6 w4.heap.size 0 [.string x.1, .int .i64 0] := r6
    have k6 : wok w6 w4.heap.size 2 := x6.wok n5.wok
    have bx6 : rdA w6 w'.heap.size 0 2 = some (iV x) := (X6.row ((r4.ext (F := noF)).row rx fun _ _ h => h) fun _ _ h => h).rdA 2 (by show 2 ≤ 2; omega)
    obtain ⟨sv1, hs1, hsv1⟩ := sl_hi hT6.s.sl (lb O κ (κ x) t) hlbl
    refine W_sq fun K0 hK => (W_text [false, true, true, true, false, true] (by kernel_rfl) ?_); simp only [↓List.toList_toArray, ↓rgd, ↓rgf, ↓reduceIte, Nat.reduceEqDiff, rg, ow_51, hsv]
    refine do_bsl rfl bs_item0 fun w7 n7 => ⟨trivial, ?_⟩
    simp only [↓List.toList_toArray, ↓rgd, ↓rgf, ↓reduceIte, Nat.reduceEqDiff, rg, ow_51, hsv, hs1]
    have s7 := n7.size
    have hv7 : SlV w7 2 (.slice (some ⟨w6.heap.size, 0, none⟩) 0 0) 0 [] := ⟨rfl, .inr ⟨_, 0, 0, rfl, Nat.le_refl _, Row.nil _ _ _, n7.wok.R (Nat.le_refl _)⟩⟩
    refine do_append (by simp only [evt, evc, upd_eq, Nat.reduceEqDiff, ↓reduceIte, ntT, ntF] <;> rfl) (by simp only [evt, evc, upd_eq, Nat.reduceEqDiff, ↓reduceIte, ntT, ntF] <;> rfl) el_item rfl ni_i hv7 (hsv1.ext0 n7.ext) (by omega) (by decide) (flat_oc Ei _) fun v8 w8 a8 => ⟨trivial, ?_⟩
    obtain ⟨hs8, hg8, x8⟩ := app_since (B := w6.heap.size) a8 (fun b o n c h => by simp only [Value.slice.injEq, Option.some.injEq, Addr.mk.injEq] at h; omega) (by omega)
    simp only [↓List.toList_toArray, ↓rgd, ↓rgf, ↓reduceIte, Nat.reduceEqDiff, rg, ow_51]
    refine hK _ _ ?_; clear hK K0
    have s8 := x8.size
    have X8 : Ext noF w6 w8 := noF_of n7.ext x8 fun y o hy g => by omega
    rw [Nat.zero_add, List.nil_append] at hs8
    have bx8 : rdA w8 w'.heap.size 0 2 = some (iV x) := (X8.row (X6.row ((r4.ext (F := noF)).row rx fun _ _ h => h) fun _ _ h => h) fun _ _ h => h).rdA 2 (by show 2 ≤ 2; omega)
    refine W_sq fun K0 hK => (W_text [true, true, false, false, true] (by kernel_rfl) ?_); simp only [↓List.toList_toArray, ↓rgd, ↓rgf, ↓reduceIte, Nat.reduceEqDiff, rg, ow_51, bx8]
    refine do_bsl rfl (bs_item1 x) fun w9 n9 => ⟨trivial, ?_⟩
    simp only [↓List.toList_toArray, ↓rgd, ↓rgf, ↓reduceIte, Nat.reduceEqDiff, rg, ow_51]
    have s9 := n9.size
    have hv9 : SlV w9 2 (.slice (some ⟨w8.heap.size, 0, none⟩) 1 1) 1 (Ei.cel x) := ⟨rfl, .inr ⟨_, 0, 1, rfl, Nat.le_refl _, n9.row, n9.wok.R (Nat.le_refl _)⟩⟩
    refine do_append (by simp only [evt, evc, upd_eq, Nat.reduceEqDiff, ↓reduceIte, ntT, ntF] <;> rfl) (by simp only [evt, evc, upd_eq, Nat.reduceEqDiff, ↓reduceIte, ntT, ntF] <;> rfl) el_item rfl ni_i (hs8.ext0 n9.ext) hv9 (by omega) (by decide) (Ei.one x) fun v10 w10 a10 => ⟨trivial, ?_⟩
    obtain ⟨hs10, hg10, x10⟩ := app_since (B := w6.heap.size) a10 hg8 (by omega)
    simp only [↓List.toList_toArray, ↓rgd, ↓rgf, ↓reduceIte, Nat.reduceEqDiff, rg, ow_51]
    refine hK _ _ ?_; clear hK K0
    have s10 := x10.size
    have X10 : Ext noF w6 w10 := noF_of (X8.tr n9.ext) x10 fun y o hy g => by omega
    have hT10 := hT6.ext X10
    have R10 : Row w10 w4.heap.size 0 [.string x.1, .int .i64 0] := X10.row r6 fun _ _ h => h
    have K10 := X10.wok k6
    have hlt2 : hit O κ (κ x) t = true → lb O κ (κ x) t < t.length := fun h => by
      obtain ⟨k, h1, _⟩ := hit_at O κ h
      exact (List.getElem?_eq_some_iff.1 h1).1
    refine W_sqx fun K hK => ?_
    have hrest : ∀ (e' : Env) (w11 : World) (y : It) (j : Nat), Ext noF w4 w11 → w6.heap.size ≤ w11.heap.size → SlV w11 2 v10 (lb O κ (κ x) t + 1) (flat Ei (t.take (lb O κ (κ x) t)) ++ Ei.cel x) → Row w11 w4.heap.size 0 (Ei.cel y) → j = lb O κ (κ x) t + (if hit O κ (κ x) t then 1 else 0) →
        e' 14 = .slice (some ⟨b, o, none⟩) l.length c → e' 15 = .int .i64 l.length → e' 16 = .int .i64 i → e' 5 = e 5 → e' 7 = e 7 → e' 6 = sv → e' 13 = v10 → e' 12 = ptr w4.heap.size → e' 11 = .bool (hit O κ (κ x) t) →
        e' 10 = .int .i64 j → K e' w11 := by
      intro e1 w11 y j X11 s11 hs11 by11 hj f14 f15 f16 f5 f7 f6 f13 f12 f11 f10
      refine hK _ _ ?_; clear hK K
      have hT11 := hT4.ext X11
      have hjl : j ≤ t.length := by
        cases hh : hit O κ (κ x) t with
        | true => have := hlt2 hh; simp [hh] at hj; omega
        | false => simp [hh] at hj; omega
      obtain ⟨sv2, hs2, hsv2⟩ := sl_lo hT11.s.sl j hjl
      refine W_sq fun K0 hK => (W_text [true, true, true, true, false, true] (by kernel_rfl) ?_); simp only [↓List.toList_toArray, ↓rgd, ↓rgf, ↓reduceIte, Nat.reduceEqDiff, rg, ow_51, f13, f6, f10, hs2]
      refine do_append (by simp only [evt, evc, upd_eq, Nat.reduceEqDiff, ↓reduceIte, ntT, ntF] <;> rfl) (by simp only [evt, evc, upd_eq, Nat.reduceEqDiff, ↓reduceIte, ntT, ntF] <;> rfl) el_item rfl ni_i hs11 hsv2 (by omega) (by decide) (flat_oc Ei _) fun v12 w12 a12 => ⟨trivial, ?_⟩
      obtain ⟨hs12, hg12, x12⟩ := app_since (B := w6.heap.size) a12 hg10 s11
      simp only [↓List.toList_toArray, ↓rgd, ↓rgf, ↓reduceIte, Nat.reduceEqDiff, rg, ow_51]
      refine hK _ _ ?_; clear hK K0
      have s12 := x12.size
      have X12 : Ext noF w4 w12 := noF_of X11 x12 fun y o hy g => by omega
      have hT12 := hT4.ext X12
      have hpl := put_length O κ x t
      have hlen : (put O κ x t).length = lb O κ (κ x) t + 1 + (t.length - j) := by
        cases hh : hit O κ (κ x) t with
        | true => have := hlt2 hh; simp [hh] at hj hpl; omega
        | false => simp [hh] at hj hpl; omega
      have hfe : flat Ei (t.take (lb O κ (κ x) t)) ++ Ei.cel x ++ flat Ei (t.drop j) = flat Ei (put O κ x t) := by
        rw [put_two, ← hj, flat_append, flat_append, flat_one]
      have hnew : SlV w12 2 v12 (put O κ x t).length (flat Ei (put O κ x t)) := by rw [hlen, ← hfe]; exact hs12
      have hTn : Tri w.heap.size (e 5) (e 7) v12 os bs (put O κ x t) w12 := ⟨hT12.o, hT12.k, ⟨hnew, fun b o n c h => by have := hg12 _ _ _ _ h; omega⟩, hT12.ok, (apart_since hT6.o.sl hg12).symm, (apart_since hT6.k.sl hg12).symm⟩
      have by12 : rdA w12 w4.heap.size 0 2 = some (iV y) := (x12.row by11 fun j _ g => by omega).rdA 2 (by show 2 ≤ 2; omega)
      refine W_rg fun K0 hK => (W_text [true, true, false, false, true, true, false, false, true, true] (by kernel_rfl) ?_); simp only [↓List.toList_toArray, ↓rgd, ↓rgf, ↓reduceIte, Nat.reduceEqDiff, rg, ow_51, f5, f12, ptr_eq, by12]
      refine do_bsl rfl (bs_item1 y) fun w13 n13 => ⟨trivial, ?_⟩
      simp only [↓List.toList_toArray, ↓rgd, ↓rgf, ↓reduceIte, Nat.reduceEqDiff, rg, ow_51]
      have s13 := n13.size
      have hTn3 := hTn.ext n13.ext
      have hv13 : SlV w13 2 (.slice (some ⟨w12.heap.size, 0, none⟩) 1 1) 1 (Ei.cel y) := ⟨rfl, .inr ⟨_, 0, 1, rfl, Nat.le_refl _, n13.row, n13.wok.R (Nat.le_refl _)⟩⟩
      refine do_append (by simp only [evt, evc, upd_eq, Nat.reduceEqDiff, ↓reduceIte, ntT, ntF] <;> rfl) (by simp only [evt, evc, upd_eq, Nat.reduceEqDiff, ↓reduceIte, ntT, ntF] <;> rfl) el_item rfl ni_i hTn3.o.sl hv13 (by omega) (by decide) (Ei.one y) fun v14 w14 a14 => ⟨trivial, ?_⟩
      obtain ⟨hTn4, x14⟩ := hTn3.appO a14 (by omega)
      simp only [↓List.toList_toArray, ↓rgd, ↓rgf, ↓reduceIte, Nat.reduceEqDiff, rg, ow_51, f7, f11]
      have s14 := x14.size
      refine do_bsl rfl (bs_t1 _) fun w15 n15 => ⟨trivial, ?_⟩
      simp only [↓List.toList_toArray, ↓rgd, ↓rgf, ↓reduceIte, Nat.reduceEqDiff, rg, ow_51]
      have s15 := n15.size
      have hTn5 := hTn4.ext n15.ext
      have hv15 : SlV w15 1 (.slice (some ⟨w14.heap.size, 0, none⟩) 1 1) 1 (Eb.cel (hit O κ (κ x) t)) := ⟨rfl, .inr ⟨_, 0, 1, rfl, Nat.le_refl _, n15.row, n15.wok.R (Nat.le_refl _)⟩⟩
      refine do_append (by simp only [evt, evc, upd_eq, Nat.reduceEqDiff, ↓reduceIte, ntT, ntF] <;> rfl) (by simp only [evt, evc, upd_eq, Nat.reduceEqDiff, ↓reduceIte, ntT, ntF] <;> rfl) el_t rfl ni_t hTn5.k.sl hv15 (by omega) (by decide) (Eb.one _) fun v16 w16 a16 => ⟨trivial, ?_⟩
      obtain ⟨hTn6, x16⟩ := hTn5.appK a16 (by omega)
      simp only [↓List.toList_toArray, ↓rgd, ↓rgf, ↓reduceIte, Nat.reduceEqDiff, rg, ow_51]
      refine hK _ _ ?_; clear hK K0
      simp only [inBlk_normal, andThen_normal]
      have q1 := wadd1 i (by omega)
      refine W_rg fun K0 hK => (W_text [true, true] (by kernel_rfl) ?_); simp only [↓List.toList_toArray, ↓rgd, ↓rgf, ↓reduceIte, Nat.reduceEqDiff, rg, ow_51, f16, q1]
      refine hK _ _ ?_; clear hK K0
      refine ⟨_, ?_, i + 1, os ++ [y], bs ++ [hit O κ (κ x) t], rfl, hlt, ?_, ?_, ?_, ?_, ?_, ?_, ?_⟩
      · omega
      · simp only [upd_eq, Nat.reduceEqDiff, ↓reduceIte]; exact f14
      · simp only [upd_eq, Nat.reduceEqDiff, ↓reduceIte]; exact f15
      · simp only [upd_eq, Nat.reduceEqDiff, ↓reduceIte]
      · rw [List.length_append, ho]; rfl
      · rw [List.length_append, hb]; rfl
      · simp only [upd_eq, Nat.reduceEqDiff, ↓reduceIte]
        rw [tree_succ l i x hx, hlt']
        exact hTn6
      · exact noF_of ((noF_of (((X.tr X3).tr r4.ext).tr (X12.tr n13.ext)) x14 fun y o hy g => by omega).tr n15.ext) x16 fun y o hy g => by omega
    clear hK
    cases hh : hit O κ (κ x) t with
    | false =>
      refine W_sq fun K0 hK => (W_text [true] (by kernel_rfl) ?_); simp only [↓List.toList_toArray, ↓rgd, ↓rgf, ↓reduceIte, Nat.reduceEqDiff, rg, ow_51, hh]
      refine hK _ _ ?_; clear hK K0
      refine W_false (by simp only [evt, evc, upd_eq, Nat.reduceEqDiff, ↓reduceIte, ntT, ntF] <;> rfl) (W_skip ?_)
      simp only [andThen_normal]
      refine hrest _ w10 (x.1, 0) (lb O κ (κ x) t) (X6.tr X10) (by omega) hs10 R10 (by rw [hh]; rfl) ?_ ?_ ?_ ?_ ?_ ?_ ?_ ?_ ?_ ?_
      · simp only [upd_eq, Nat.reduceEqDiff, ↓reduceIte]; exact e14
      · simp only [upd_eq, Nat.reduceEqDiff, ↓reduceIte]; exact e15
      · simp only [upd_eq, Nat.reduceEqDiff, ↓reduceIte]; exact e16
      · simp only [upd_eq, Nat.reduceEqDiff, ↓reduceIte]
      · simp only [upd_eq, Nat.reduceEqDiff, ↓reduceIte]
      · simp only [upd_eq, Nat.reduceEqDiff, ↓reduceIte]; exact hsv
      · simp only [upd_eq, Nat.reduceEqDiff, ↓reduceIte]
      · simp only [upd_eq, Nat.reduceEqDiff, ↓reduceIte]; rfl
      · simp only [upd_eq, Nat.reduceEqDiff, ↓reduceIte]; rw [hh]
      · simp only [upd_eq, Nat.reduceEqDiff, ↓reduceIte]
    | true =>
      refine W_sq fun K0 hK => (W_text [true] (by kernel_rfl) ?_); simp only [↓List.toList_toArray, ↓rgd, ↓rgf, ↓reduceIte, Nat.reduceEqDiff, rg, ow_51, hh]
      refine hK _ _ ?_; clear hK K0
      refine W_true (by simp only [evt, evc, upd_eq, Nat.reduceEqDiff, ↓reduceIte, ntT, ntF] <;> rfl) ?_
      have hil := hlt2 hh
      obtain ⟨a2, c2, hsh⟩ := hT10.s.sl.shape
      obtain ⟨b2, o2, rfl, row2⟩ := SlV.at hT10.s.sl hsh hil
      obtain ⟨y, hy⟩ : ∃ y, t[lb O κ (κ x) t]? = some y := ⟨_, List.getElem?_eq_getElem hil⟩
      have hyv : rd w10 b2 (o2 + lb O κ (κ x) t * 2 + 1) = some (.int .i64 y.2) := iv_at row2 hy
      rw [hsh] at hsv
      refine W_sq fun K0 hK => (W_text [true, true, true, true, true, true, false] (by kernel_rfl) ?_); simp only [↓List.toList_toArray, ↓rgd, ↓rgf, ↓reduceIte, Nat.reduceEqDiff, rg, ow_51, hsv, hil, hyv, ptr_eq]
      refine do_store (v := .int .i64 y.2) (by simp only [evt, evc, upd_eq, Nat.reduceEqDiff, ↓reduceIte, ntT, ntF] <;> rfl) (by simp only [evt, evc, upd_eq, Nat.reduceEqDiff, ↓reduceIte, ntT, ntF] <;> rfl) sz_3 rfl K10 (by decide) (oc_one rfl rfl) fun w11 x11 r11 s11 => ⟨trivial, ?_⟩
      simp only [↓List.toList_toArray, ↓rgd, ↓rgf, ↓reduceIte, Nat.reduceEqDiff, rg, ow_51]
      refine hK _ _ ?_; clear hK K0
      have q2 := wadd1 (lb O κ (κ x) t) (by omega)
      refine W_rg fun K0 hK => (W_text [true, true, true] (by kernel_rfl) ?_); simp only [↓List.toList_toArray, ↓rgd, ↓rgf, ↓reduceIte, Nat.reduceEqDiff, rg, ow_51, q2]
      refine hK _ _ ?_; clear hK K0
      have c0 := x11.rd (Row.cons.1 R10).1 (by simp only [rng]; omega)
      have c1 := (Row.cons.1 r11).1
      have X11 : Ext noF w4 w11 := noF_of (X6.tr X10) x11 fun y o hy g => by simp only [rng] at g; omega
      have hs11 := hs10.ext x11 fun b o c h j _ g => by have := hg10 _ _ _ _ h; simp only [rng] at g; omega
      refine hrest _ w11 (x.1, y.2) (lb O κ (κ x) t + 1) X11 (by omega) hs11 (Row.cons.2 ⟨c0, Row.cons.2 ⟨c1, Row.nil _ _ _⟩⟩) (by rw [hh]; rfl) ?_ ?_ ?_ ?_ ?_ ?_ ?_ ?_ ?_ ?_
      · simp only [upd_eq, Nat.reduceEqDiff, ↓reduceIte]; exact e14
      · simp only [upd_eq, Nat.reduceEqDiff, ↓reduceIte]; exact e15
      · simp only [upd_eq, Nat.reduceEqDiff, ↓reduceIte]; exact e16
      · simp only [upd_eq, Nat.reduceEqDiff, ↓reduceIte]
      · simp only [upd_eq, Nat.reduceEqDiff, ↓reduceIte]
      · simp only [upd_eq, Nat.reduceEqDiff, ↓reduceIte]; rw [hsh]; exact hsv
      · simp only [upd_eq, Nat.reduceEqDiff, ↓reduceIte]
      · simp only [upd_eq, Nat.reduceEqDiff, ↓reduceIte]; rfl
      · simp only [upd_eq, Nat.reduceEqDiff, ↓reduceIte]; rw [hh]
      · simp only [upd_eq, Nat.reduceEqDiff, ↓reduceIte]
  · obtain rfl : i = l.length := by omega
    have ht := lt_ff l.length l.length (by omega)
    refine W_sq fun K0 hK => (W_text [true] (by kernel_rfl) ?_); simp only [↓List.toList_toArray, ↓rgd, ↓rgf, ↓reduceIte, Nat.reduceEqDiff, rg, ow_51, e15, e16, ht]
    refine hK _ _ ?_; clear hK K0
    refine W_seq (W_false (by simp only [evt, evc, upd_eq, Nat.reduceEqDiff, ↓reduceIte, ntT, ntF] <;> rfl) (W_exit ?_))
    simp only [andThen_exit, inBlk_exit, andThen_normal, ↓reduceIte]
    refine W_sq fun K0 hK => (W_text [true, true, true, true, true, true] (by kernel_rfl) ?_); simp only [↓List.toList_toArray, ↓rgd, ↓rgf, ↓reduceIte, Nat.reduceEqDiff, rg, ow_51]
    refine hK _ _ ?_; clear hK K0
    rw [List.take_length] at hT
    exact W_ret (endQ_3 (by simp only [upd_eq, Nat.reduceEqDiff, ↓reduceIte] <;> rfl) (by simp only [upd_eq, Nat.reduceEqDiff, ↓reduceIte] <;> rfl) (by simp only [upd_eq, Nat.reduceEqDiff, ↓reduceIte] <;> rfl) ⟨_, _, _, rfl, hT.s.sl, X⟩)
end Go.Proofs.Ytinpigpeoakeaaa
/-
  Handing on the items of a tree in their order. No condition.
-/
set_option linter.unusedSimpArgs false
set_option linter.unusedVariables false
namespace Go.Proofs.Ytinpigpeoakeaaa
open Go Go.Proofs
/-- A function that is handed items: S says what the world is behind the items that were handed on; go tells whether it wants more; it changes nothing outside G. -/
def Cb (f : Value) (G : Nat → Nat → Prop) (S : List It → World → Prop) (go : List It → Bool) : Prop :=
  (∃ g first cap, f = .func (.func g) first cap ∧ isFn Try.prog g = true ∧ ∀ done x w, S done w → done.length < 4294967295 →
    CallK Try.prog g (first ++ #[kV (κ x), vV x] ++ cap) w fun v w' => v = .bool (go (done ++ [x])) ∧ S (done ++ [x]) w' ∧ Ext G w w') ∧
  ∀ done w w', S done w → Ext noF w w' → S done w'
theorem vx_at {w : World} {b o : Nat} {xs : List It} (h : Row w b o (flat E xs)) {i : Nat} {x : It} (hi : xs[i]? = some x) : rd w b (o + i * 2) = some (vV x) := val_at h hi
set_option maxHeartbeats 400000 in
set_option maxRecDepth 8000 in
theorem nodeScan_any (m : Nat) (iso : Int) (mn mx : Nat) (f : Value) (G : Nat → Nat → Prop) (S : List It → World → Prop) (go : List It → Bool) (C : Cb f G S go) (hm : ∀ o, ¬ G m o) (mu : Bool) :
    ∀ (h b lo pc po : Nat) (xs : List It) (F : Nat → Nat → Prop) (done : List It) (w : World), Tr E iso mn mx h w lo b xs F → rd w m 0 = some (.int .u64 iso) → rd w pc po = some (ptr b) → (∀ y o o', F y o → ¬ G y o') → S done w →
      done.length + xs.length ≤ 4294967295 →
    CallK Try.prog 70 #[ptr m, .pointer (some ⟨pc, po, none⟩), f, .bool mu] w fun v w' => v = .bool (hand go done xs).2 ∧ S (hand go done xs).1 w' ∧ Ext G w w' := by
  obtain ⟨⟨g, first, cap0, rfl, hg, hcall⟩, hSx⟩ := C
  intro h
  induction h with
  | zero =>
    intro b lo pc po xs F done w ht h0 hp hG hS hbig
    obtain ⟨bi, oi, cap, ho, h1, h2, hF⟩ := ht
    refine calls_of_W [.tmp 8] Try.func70 rfl Try.ntmps70 Try.results70 (by simp) fun e he => ?_
    have e0 : e 0 = ptr m := he 0 _ rfl
    have e1 : e 1 = .pointer (some ⟨pc, po, none⟩) := he 1 _ rfl
    have e2 : e 2 = .func (.func g) first cap0 := he 2 _ rfl
    have e3 : e 3 = .bool mu := he 3 _ rfl
    clear he
    refine W_sq fun K hK => (W_text [true] (by kernel_rfl) ?_); simp only [↓List.toList_toArray, ↓rgd, ↓rgf, ↓reduceIte, Nat.reduceEqDiff, rg, ow_70]
    refine hK _ _ ?_; clear hK K
    refine W_sq fun K hK => (W_text [true, true, true, false, true] (by kernel_rfl) ?_); simp only [↓List.toList_toArray, ↓rgd, ↓rgf, ↓reduceIte, Nat.reduceEqDiff, rg, ow_70, e0, e1, e3]
    refine do_call fn_60 (by simp only [evt, evc, upd_eq, Nat.reduceEqDiff, ↓reduceIte, maT, maC, maN, isnN, isnS] <;> rfl) (isoLoad_any m pc po b mu iso w h0 hp ho.h0) ?_
    rintro _ w1 ⟨rfl, r1⟩
    refine ⟨trivial, ?_⟩
    simp only [↓List.toList_toArray, ↓rgd, ↓rgf, ↓reduceIte, Nat.reduceEqDiff, rg, ow_70]
    refine hK _ _ ?_; clear hK K
    have x1 : Ext noF w w1 := r1.ext
    have o1 := ho.ext x1 fun _ _ _ h => h
    have S1 := hSx _ _ _ hS x1
    refine W_seq ?_
    refine W_sq fun K hK => (W_text [true, false] (by kernel_rfl) ?_); simp only [↓List.toList_toArray, ↓rgd, ↓rgf, ↓reduceIte, Nat.reduceEqDiff, rg, ow_70]
    refine do_call fn_58 (by simp only [evt, evc, upd_eq, Nat.reduceEqDiff, ↓reduceIte, maT, maC, maN, isnN, isnS] <;> rfl) (leaf_any b none w1 o1.h3) ?_
    rintro _ _ ⟨rfl, rfl⟩
    refine ⟨trivial, ?_⟩
    simp only [↓List.toList_toArray, ↓rgd, ↓rgf, ↓reduceIte, Nat.reduceEqDiff, rg, ow_70]
    refine hK _ _ ?_; clear hK K
    refine W_true (by simp only [evt, evc, upd_eq, Nat.reduceEqDiff, ↓reduceIte, ntT, ntF] <;> rfl) (W_seq ?_)
    refine W_sq fun K hK => (W_text [true] (by kernel_rfl) ?_); simp only [↓List.toList_toArray, ↓rgd, ↓rgf, ↓reduceIte, Nat.reduceEqDiff, rg, ow_70]
    refine hK _ _ ?_; clear hK K
    refine W_block (W_loop (fun mm e w' => ∃ (i : Nat) (d : List It), mm = xs.length - i ∧ i ≤ xs.length ∧ hand go done xs = hand go d (xs.drop i) ∧ d.length + (xs.length - i) ≤ 4294967295 ∧ S d w' ∧ Ext G w w' ∧ e 2 = .func (.func g) first cap0 ∧ e 9 = ptr b ∧ e 10 = .int .i64 i)
      xs.length ⟨0, done, by simp, by simp, by simp, by omega, S1, x1.mono fun _ _ _ h => h.elim, ?_, ?_, ?_⟩ ?_)
    · simp only [upd_eq, Nat.reduceEqDiff, ↓reduceIte]; exact e2
    · simp only [upd_eq, Nat.reduceEqDiff, ↓reduceIte]
    · simp only [upd_eq, Nat.reduceEqDiff, ↓reduceIte]; rfl
    · clear e0 e1 e2 e3 e S1 o1
      rintro mm e w' ⟨i, d, rfl, hi, hh, hdl, hS', X, e2, e9, e10⟩
      have o' := ho.ext X fun y o h => hG y o o ((hF y o).2 h)
      have hb2 := o'.h2
      refine W_seq ?_
      by_cases hlt : i < xs.length
      · have ht := lt_tt i xs.length hlt
        refine W_sq fun K hK => (W_text [true, true, true, true, true, true, true] (by kernel_rfl) ?_); simp only [↓List.toList_toArray, ↓rgd, ↓rgf, ↓reduceIte, Nat.reduceEqDiff, rg, ow_70, e9, e10, ptr_eq, hb2, ht]
        refine hK _ _ ?_; clear hK K
        refine W_true (by simp only [evt, evc, upd_eq, Nat.reduceEqDiff, ↓reduceIte, ntT, ntF] <;> rfl) (W_skip ?_)
        show W _ _ _ _ _ _
        refine W_seq (W_block ?_)
        obtain ⟨x, hx⟩ : ∃ x, xs[i]? = some x := ⟨_, List.getElem?_eq_getElem hlt⟩
        have hk := key_at o'.row hx
        have hv := vx_at o'.row hx
        have hd : xs.drop i = x :: xs.drop (i + 1) := by rw [List.drop_eq_getElem_cons hlt, (List.getElem?_eq_some_iff.1 hx).2]
        have M1 : readsB (some (some [b, bi])) b = true := by simp [readsB]
        have M2 : readsB (some (some [b, bi])) bi = true := by simp [readsB]
        refine W_sq fun K hK => (W_draw (some (some [b, bi])) none [(0, 0, 0), (0, 1, 0), (0, 2, 0), (0, 3, 0), (0, 4, 0), (0, 5, 0), (0, 6, 0), (0, 7, 0), (0, 8, 0), (0, 9, 0), (0, 10, 0), (0, 11, 0), (0, 12, 0), (0, 13, 0), (0, 14, 0), (0, 15, 0), (0, 16, 0), (1, 17, 0), (0, 18, 0)] mixed (by kernel_rfl) ?_); simp only [↓List.toList_toArray, ↓rgd, ↓rgf, ↓reduceIte, Nat.reduceEqDiff, rg, ow_70, e2, e9, e10, ptr_eq, hb2, hlt, hk, hv, M1, M2]
        refine do_callv (by simp only [evt, evc, upd_eq, Nat.reduceEqDiff, ↓reduceIte, ntT, ntF] <;> rfl) hg rfl (by simp only [evt, upd_eq, Nat.reduceEqDiff, ↓reduceIte, maT, maC, maN]; exact hcall d x _ (hSx _ _ _ hS' (Ext.dr _ _ _)) (by omega)) ?_
        rintro _ w2 ⟨rfl, hS2, x2⟩
        refine ⟨.inr (keeps_on x2 fun y hy => ?_), ?_⟩
        · rw [sz_dr]
          simp only [List.mem_cons, List.not_mem_nil, or_false] at hy
          rcases hy with rfl | rfl
          · exact ⟨wok_lt o'.wb, fun o => hG _ 0 o ((hF _ _).2 (.inl rfl))⟩
          · exact ⟨wok_lt o'.wi, fun o => hG _ (oi + i * 2) o ((hF _ _).2 (.inr ⟨rfl, by omega, by have := Nat.mul_le_mul_right 2 (Nat.le_trans hlt o'.le); rw [E_sz]; omega⟩))⟩
        simp only [↓List.toList_toArray, ↓rgd, ↓rgf, ↓reduceIte, Nat.reduceEqDiff, rg, ow_70]
        refine hK _ _ ?_; clear hK K
        have x2 := x2.od
        cases hgo : go (d ++ [x]) with
        | true =>
          refine W_false (by simp only [evt, evc, upd_eq, Nat.reduceEqDiff, ↓reduceIte, ntT, ntF] <;> rfl) (W_skip ?_)
          show W _ _ _ _ _ _
          have q1 := wadd1 i (by omega)
          refine W_rg fun K hK => (W_text [true, true, true] (by kernel_rfl) ?_); simp only [↓List.toList_toArray, ↓rgd, ↓rgf, ↓reduceIte, Nat.reduceEqDiff, rg, ow_70, e10, q1]
          refine hK _ _ ?_; clear hK K
          refine ⟨_, ?_, i + 1, d ++ [x], rfl, hlt, by rw [hh, hd, hand_yes go hgo], by simp; omega, hS2, X.tr x2, ?_, ?_, ?_⟩
          · omega
          · simp only [upd_eq, Nat.reduceEqDiff, ↓reduceIte]; exact e2
          · simp only [upd_eq, Nat.reduceEqDiff, ↓reduceIte]; exact e9
          · simp only [upd_eq, Nat.reduceEqDiff, ↓reduceIte]
        | false =>
          refine W_true (by simp only [evt, evc, upd_eq, Nat.reduceEqDiff, ↓reduceIte, ntT, ntF] <;> rfl) ?_
          refine W_sq fun K hK => (W_text [true] (by kernel_rfl) ?_); simp only [↓List.toList_toArray, ↓rgd, ↓rgf, ↓reduceIte, Nat.reduceEqDiff, rg, ow_70]
          refine hK _ _ ?_; clear hK K
          refine W_ret ?_
          simp only [andThen_ret, inBlk_ret]
          refine endQ_1 (by simp only [upd_eq, Nat.reduceEqDiff, ↓reduceIte] <;> rfl) ?_
          rw [hh, hd, hand_no go hgo]
          exact ⟨rfl, hS2, X.tr x2⟩
      · obtain rfl : i = xs.length := by omega
        have ht := lt_ff xs.length xs.length (by omega)
        refine W_sq fun K hK => (W_text [true, true, true, true, true, true, true] (by kernel_rfl) ?_); simp only [↓List.toList_toArray, ↓rgd, ↓rgf, ↓reduceIte, Nat.reduceEqDiff, rg, ow_70, e9, e10, ptr_eq, hb2, ht]
        refine hK _ _ ?_; clear hK K
        refine W_false (by simp only [evt, evc, upd_eq, Nat.reduceEqDiff, ↓reduceIte, ntT, ntF] <;> rfl) (W_exit ?_)
        simp only [andThen_exit, inBlk_exit, ↓reduceIte]
        show W _ _ _ _ _ _
        refine W_sq fun K hK => (W_text [true] (by kernel_rfl) ?_); simp only [↓List.toList_toArray, ↓rgd, ↓rgf, ↓reduceIte, Nat.reduceEqDiff, rg, ow_70]
        refine hK _ _ ?_; clear hK K
        refine W_ret ?_
        simp only [andThen_ret]
        refine endQ_1 (by simp only [upd_eq, Nat.reduceEqDiff, ↓reduceIte] <;> rfl) ?_
        rw [hh, List.drop_length, hand_nil]
        exact ⟨rfl, hS', X⟩
  | succ h ih =>
    intro b lo pc po xs F done w ht h0 hp hG hS hbig
    obtain ⟨bi, oi, cap, bc, ba, oa, capc, ks, cs, ho, hk, h1, h2, hcs, rfl, hT, hA, hF⟩ := ht
    have hGo : ∀ y o, ownF E b bi oi cap y o → ∀ o', ¬ G y o' := fun y o g o' => hG y o o' ((hF y o).2 (.inl g))
    have hGk : ∀ y o, kidF bc ba oa capc y o → ∀ o', ¬ G y o' := fun y o g o' => hG y o o' ((hF y o).2 (.inr (.inl g)))
    have hGc : ∀ c ∈ cs, ∀ y o o', c.F y o → ¬ G y o' := fun c hc y o o' g => hG y o o' ((hF y o).2 (.inr (.inr ⟨c, hc, g⟩)))
    have hwl := weave_length (cs.map Kid.xs) ks (by simpa using hcs)
    have hks : ks.length < 4611686018427387904 := by omega
    refine calls_of_W [.tmp 8] Try.func70 rfl Try.ntmps70 Try.results70 (by simp) fun e he => ?_
    have e0 : e 0 = ptr m := he 0 _ rfl
    have e1 : e 1 = .pointer (some ⟨pc, po, none⟩) := he 1 _ rfl
    have e2 : e 2 = .func (.func g) first cap0 := he 2 _ rfl
    have e3 : e 3 = .bool mu := he 3 _ rfl
    clear he
    refine W_sq fun K hK => (W_text [true] (by kernel_rfl) ?_); simp only [↓List.toList_toArray, ↓rgd, ↓rgf, ↓reduceIte, Nat.reduceEqDiff, rg, ow_70]
    refine hK _ _ ?_; clear hK K
    refine W_sq fun K hK => (W_text [true, true, true, false, true] (by kernel_rfl) ?_); simp only [↓List.toList_toArray, ↓rgd, ↓rgf, ↓reduceIte, Nat.reduceEqDiff, rg, ow_70, e0, e1, e3]
    refine do_call fn_60 (by simp only [evt, evc, upd_eq, Nat.reduceEqDiff, ↓reduceIte, maT, maC, maN, isnN, isnS] <;> rfl) (isoLoad_any m pc po b mu iso w h0 hp ho.h0) ?_
    rintro _ w1 ⟨rfl, r1⟩
    refine ⟨trivial, ?_⟩
    simp only [↓List.toList_toArray, ↓rgd, ↓rgf, ↓reduceIte, Nat.reduceEqDiff, rg, ow_70]
    refine hK _ _ ?_; clear hK K
    have x1 : Ext noF w w1 := r1.ext
    have o1 := ho.ext x1 fun _ _ _ h => h
    have S1 := hSx _ _ _ hS x1
    refine W_seq ?_
    refine W_sq fun K hK => (W_text [true, false] (by kernel_rfl) ?_); simp only [↓List.toList_toArray, ↓rgd, ↓rgf, ↓reduceIte, Nat.reduceEqDiff, rg, ow_70]
    refine do_call fn_58 (by simp only [evt, evc, upd_eq, Nat.reduceEqDiff, ↓reduceIte, maT, maC, maN, isnN, isnS] <;> rfl) (leaf_any b (some ⟨bc, 0, none⟩) w1 o1.h3) ?_
    rintro _ _ ⟨rfl, rfl⟩
    refine ⟨trivial, ?_⟩
    simp only [↓List.toList_toArray, ↓rgd, ↓rgf, ↓reduceIte, Nat.reduceEqDiff, rg, ow_70]
    refine hK _ _ ?_; clear hK K
    refine W_false (by simp only [evt, evc, upd_eq, Nat.reduceEqDiff, ↓reduceIte, ntT, ntF] <;> rfl) (W_skip ?_)
    show W _ _ _ _ _ _
    refine W_seq ?_
    refine W_sq fun K hK => (W_text [true] (by kernel_rfl) ?_); simp only [↓List.toList_toArray, ↓rgd, ↓rgf, ↓reduceIte, Nat.reduceEqDiff, rg, ow_70]
    refine hK _ _ ?_; clear hK K
    refine W_block (W_loop (fun mm e w' => ∃ (i : Nat) (d : List It), mm = ks.length - i ∧ i ≤ ks.length ∧ hand go done (weave (cs.map Kid.xs) ks) = hand go d (weave ((cs.map Kid.xs).drop i) (ks.drop i)) ∧ d.length + (weave ((cs.map Kid.xs).drop i) (ks.drop i)).length ≤ 4294967295 ∧ S d w' ∧ Ext G w w' ∧
        e 0 = ptr m ∧ e 2 = .func (.func g) first cap0 ∧ e 3 = .bool mu ∧ e 9 = ptr b ∧ e 11 = .int .i64 i)
      ks.length ⟨0, done, by simp, by simp, by simp, by simpa using hbig, S1, x1.mono fun _ _ _ h => h.elim, ?_, ?_, ?_, ?_, ?_⟩ ?_)
    · simp only [upd_eq, Nat.reduceEqDiff, ↓reduceIte]; exact e0
    · simp only [upd_eq, Nat.reduceEqDiff, ↓reduceIte]; exact e2
    · simp only [upd_eq, Nat.reduceEqDiff, ↓reduceIte]; exact e3
    · simp only [upd_eq, Nat.reduceEqDiff, ↓reduceIte]
    · simp only [upd_eq, Nat.reduceEqDiff, ↓reduceIte]; rfl
    · clear e0 e1 e2 e3 e S1 o1
      rintro mm e w' ⟨i, d, rfl, hi, hh, hdl, hS', X, e0, e2, e3, e9, e11⟩
      have o' := ho.ext X fun y o g => hGo y o g o
      have k' := hk.ext X fun y o g => hGk y o g o
      have hb2 := o'.h2
      have hb3 := o'.h3
      have hc0 := k'.c0
      have h0' := X.rd h0 (hm 0)
      have hci : ∀ i, i < cs.length → ∃ c, cs[i]? = some c ∧ rd w' ba (oa + i) = some (ptr c.b) := fun i hi => by
        refine ⟨cs[i], List.getElem?_eq_getElem hi, k'.row i _ ?_⟩
        rw [List.getElem?_map, List.getElem?_map, List.getElem?_eq_getElem hi]; rfl
      rw [List.length_map] at hc0
      refine W_seq ?_
      by_cases hlt : i < ks.length
      · have ht := lt_tt i ks.length hlt
        refine W_sq fun K hK => (W_text [true, true, true, true, true, true, true] (by kernel_rfl) ?_); simp only [↓List.toList_toArray, ↓rgd, ↓rgf, ↓reduceIte, Nat.reduceEqDiff, rg, ow_70, e9, e11, ptr_eq, hb2, ht]
        refine hK _ _ ?_; clear hK K
        refine W_true (by simp only [evt, evc, upd_eq, Nat.reduceEqDiff, ↓reduceIte, ntT, ntF] <;> rfl) (W_skip ?_)
        show W _ _ _ _ _ _
        refine W_seq (W_block (W_seq ?_))
        obtain ⟨c, hc, hcr⟩ := hci i (by omega)
        have hcm : c ∈ cs := List.mem_of_getElem? hc
        obtain ⟨x, hx⟩ : ∃ x, ks[i]? = some x := ⟨_, List.getElem?_eq_getElem hlt⟩
        have hlc : i < cs.length := by omega
        rw [weave_step (c := c.xs) (by rw [List.getElem?_map, hc]; rfl) hx] at hh hdl
        rw [List.length_append, List.length_cons] at hdl
        refine W_sq fun K hK => (W_text [true, true, true, true, true, true, true, true, true, true, true, false, true] (by kernel_rfl) ?_); simp only [↓List.toList_toArray, ↓rgd, ↓rgf, ↓reduceIte, Nat.reduceEqDiff, rg, ow_70, e0, e2, e3, e9, e11, ptr_eq, hb3, hc0, hlc]
        refine do_call fn_70 (by simp only [evt, evc, upd_eq, Nat.reduceEqDiff, ↓reduceIte, maT, maC, maN, isnN, isnS] <;> rfl) (ih c.b mn ba (oa + i) c.xs c.F d _ ((hT c hcm).ext X fun y o g => hGc c hcm y o o g) h0' hcr (hGc c hcm) hS' (by omega)) ?_
        rintro _ w2 ⟨rfl, hS2, x2⟩
        refine ⟨trivial, ?_⟩
        simp only [↓List.toList_toArray, ↓rgd, ↓rgf, ↓reduceIte, Nat.reduceEqDiff, rg, ow_70]
        refine hK _ _ ?_; clear hK K
        have X2 := X.tr x2
        cases hgo : (hand go d c.xs).2 with
        | false =>
          refine W_true (by simp only [evt, evc, upd_eq, Nat.reduceEqDiff, ↓reduceIte, ntT, ntF] <;> rfl) ?_
          refine W_sq fun K hK => (W_text [true] (by kernel_rfl) ?_); simp only [↓List.toList_toArray, ↓rgd, ↓rgf, ↓reduceIte, Nat.reduceEqDiff, rg, ow_70]
          refine hK _ _ ?_; clear hK K
          refine W_ret ?_
          simp only [andThen_ret, inBlk_ret]
          refine endQ_1 (by simp only [upd_eq, Nat.reduceEqDiff, ↓reduceIte] <;> rfl) ?_
          rw [hh, hand_off go hgo, hgo]
          exact ⟨rfl, hS2, X2⟩
        | true =>
          rw [hand_on go hgo] at hh
          have hd2 : (hand go d c.xs).1.length = d.length + c.xs.length := by rw [hand_true go hgo, List.length_append]
          refine W_false (by simp only [evt, evc, upd_eq, Nat.reduceEqDiff, ↓reduceIte, ntT, ntF] <;> rfl) (W_skip ?_)
          show W _ _ _ _ _ _
          have o2 := ho.ext X2 fun y o g => hGo y o g o
          have hb2 := o2.h2
          have hk2 := key_at o2.row hx
          have hv2 := vx_at o2.row hx
          have M1 : readsB (some (some [b, bi])) b = true := by simp [readsB]
          have M2 : readsB (some (some [b, bi])) bi = true := by simp [readsB]
          refine W_sq fun K hK => (W_draw (some (some [b, bi])) none [(0, 0, 0), (0, 1, 0), (0, 2, 0), (0, 3, 0), (0, 4, 0), (0, 5, 0), (0, 6, 0), (0, 7, 0), (0, 8, 0), (0, 9, 0), (0, 10, 0), (0, 11, 0), (0, 12, 0), (0, 13, 0), (0, 14, 0), (0, 15, 0), (0, 16, 0), (1, 17, 0), (0, 18, 0)] mixed (by kernel_rfl) ?_); simp only [↓List.toList_toArray, ↓rgd, ↓rgf, ↓reduceIte, Nat.reduceEqDiff, rg, ow_70, e2, e9, e11, ptr_eq, hb2, hlt, hk2, hv2, M1, M2]
          refine do_callv (by simp only [evt, evc, upd_eq, Nat.reduceEqDiff, ↓reduceIte, ntT, ntF] <;> rfl) hg rfl (by simp only [evt, upd_eq, Nat.reduceEqDiff, ↓reduceIte, maT, maC, maN]; exact hcall _ x _ (hSx _ _ _ hS2 (Ext.dr _ _ _)) (by omega)) ?_
          rintro _ w3 ⟨rfl, hS3, x3⟩
          refine ⟨.inr (keeps_on x3 fun y hy => ?_), ?_⟩
          · rw [sz_dr]
            simp only [List.mem_cons, List.not_mem_nil, or_false] at hy
            rcases hy with rfl | rfl
            · exact ⟨wok_lt o2.wb, hGo _ 0 (.inl rfl)⟩
            · exact ⟨wok_lt o2.wi, hGo _ (oi + i * 2) (.inr ⟨rfl, by omega, by have := Nat.mul_le_mul_right 2 (Nat.le_trans hlt o2.le); rw [E_sz]; omega⟩)⟩
          simp only [↓List.toList_toArray, ↓rgd, ↓rgf, ↓reduceIte, Nat.reduceEqDiff, rg, ow_70]
          refine hK _ _ ?_; clear hK K
          have x3 := x3.od
          cases hgo2 : go ((hand go d c.xs).1 ++ [x]) with
          | true =>
            refine W_false (by simp only [evt, evc, upd_eq, Nat.reduceEqDiff, ↓reduceIte, ntT, ntF] <;> rfl) (W_skip ?_)
            show W _ _ _ _ _ _
            have q1 := wadd1 i (by omega)
            refine W_rg fun K hK => (W_text [true, true, true] (by kernel_rfl) ?_); simp only [↓List.toList_toArray, ↓rgd, ↓rgf, ↓reduceIte, Nat.reduceEqDiff, rg, ow_70, e11, q1]
            refine hK _ _ ?_; clear hK K
            refine ⟨_, ?_, i + 1, _, rfl, hlt, by rw [hh, hand_yes go hgo2], by rw [List.length_append, List.length_singleton]; omega, hS3, X2.tr x3, ?_, ?_, ?_, ?_, ?_⟩
            · omega
            · simp only [upd_eq, Nat.reduceEqDiff, ↓reduceIte]; exact e0
            · simp only [upd_eq, Nat.reduceEqDiff, ↓reduceIte]; exact e2
            · simp only [upd_eq, Nat.reduceEqDiff, ↓reduceIte]; exact e3
            · simp only [upd_eq, Nat.reduceEqDiff, ↓reduceIte]; exact e9
            · simp only [upd_eq, Nat.reduceEqDiff, ↓reduceIte]
          | false =>
            refine W_true (by simp only [evt, evc, upd_eq, Nat.reduceEqDiff, ↓reduceIte, ntT, ntF] <;> rfl) ?_
            refine W_sq fun K hK => (W_text [true] (by kernel_rfl) ?_); simp only [↓List.toList_toArray, ↓rgd, ↓rgf, ↓reduceIte, Nat.reduceEqDiff, rg, ow_70]
            refine hK _ _ ?_; clear hK K
            refine W_ret ?_
            simp only [andThen_ret, inBlk_ret]
            refine endQ_1 (by simp only [upd_eq, Nat.reduceEqDiff, ↓reduceIte] <;> rfl) ?_
            rw [hh, hand_no go hgo2]
            exact ⟨rfl, hS3, X2.tr x3⟩
      · obtain rfl : i = ks.length := by omega
        have ht := lt_ff ks.length ks.length (by omega)
        refine W_sq fun K hK => (W_text [true, true, true, true, true, true, true] (by kernel_rfl) ?_); simp only [↓List.toList_toArray, ↓rgd, ↓rgf, ↓reduceIte, Nat.reduceEqDiff, rg, ow_70, e9, e11, ptr_eq, hb2, ht]
        refine hK _ _ ?_; clear hK K
        refine W_false (by simp only [evt, evc, upd_eq, Nat.reduceEqDiff, ↓reduceIte, ntT, ntF] <;> rfl) (W_exit ?_)
        simp only [andThen_exit, inBlk_exit, ↓reduceIte]
        show W _ _ _ _ _ _
        obtain ⟨c, hc, hcr⟩ := hci ks.length (by omega)
        have hcm : c ∈ cs := List.mem_of_getElem? hc
        rw [weave_last (c := c.xs) (by simpa using hcs) (by rw [List.getElem?_map, hc]; rfl)] at hh hdl
        have hlc : cs.length - 1 < cs.length := by omega
        have hl1 : cs.length - 1 = ks.length := by omega
        have q1 := wsub1 cs.length (by omega) (by omega)
        have M1 : readsB (some (some [b, bc, ba])) b = true := by simp [readsB]
        have M2 : readsB (some (some [b, bc, ba])) bc = true := by simp [readsB]
        have M3 : readsB (some (some [b, bc, ba])) ba = true := by simp [readsB]
        refine W_sq fun K hK => (W_draw (some (some [b, bc, ba])) none [(0, 0, 0), (0, 1, 0), (0, 2, 0), (0, 3, 0), (0, 4, 0), (0, 5, 0), (0, 6, 0), (0, 7, 0), (0, 8, 0), (0, 9, 0), (0, 10, 0), (0, 11, 0), (0, 12, 0), (0, 13, 0), (0, 14, 0), (0, 15, 0), (0, 16, 0), (0, 17, 0), (1, 18, 0), (0, 19, 0)] mixed (by kernel_rfl) ?_); simp only [↓List.toList_toArray, ↓rgd, ↓rgf, ↓reduceIte, Nat.reduceEqDiff, rg, ow_70, e0, e2, e3, e9, ptr_eq, hb3, hc0, q1, hlc, M1, M2, M3]
        rw [hl1]
        refine do_call fn_70 (by simp only [evt, evc, upd_eq, Nat.reduceEqDiff, ↓reduceIte, maT, maC, maN, isnN, isnS] <;> rfl) (ih c.b mn ba (oa + ks.length) c.xs c.F d _ ((hT c hcm).ext (X.tr (Ext.dr _ _ _)) fun y o g => hGc c hcm y o o g) h0' hcr (hGc c hcm) (hSx _ _ _ hS' (Ext.dr _ _ _)) (by omega)) ?_
        rintro _ w2 ⟨rfl, hS2, x2⟩
        refine ⟨.inr (keeps_on x2 fun y hy => ?_), ?_⟩
        · rw [sz_dr]
          simp only [List.mem_cons, List.not_mem_nil, or_false] at hy
          rcases hy with rfl | rfl | rfl
          · exact ⟨wok_lt o'.wb, hGo _ 0 (.inl rfl)⟩
          · exact ⟨wok_lt k'.wc, hGk _ 0 (.inl rfl)⟩
          · exact ⟨wok_lt k'.wa, hGk _ oa (.inr ⟨rfl, by omega, by have := k'.le; rw [List.length_map] at this; omega⟩)⟩
        simp only [↓List.toList_toArray, ↓rgd, ↓rgf, ↓reduceIte, Nat.reduceEqDiff, rg, ow_70]
        refine hK _ _ ?_; clear hK K
        refine W_ret ?_
        refine endQ_1 (by simp only [upd_eq, Nat.reduceEqDiff, ↓reduceIte] <;> rfl) ?_
        rw [hh]
        exact ⟨rfl, hS2, X.tr x2.od⟩
end Go.Proofs.Ytinpigpeoakeaaa
/-
  The function that keeps the items that are handed to it. No condition.
-/
set_option linter.unusedSimpArgs false
set_option linter.unusedVariables false
namespace Go.Proofs.Ytinpigpeoakeaaa
open Go Go.Proofs
/-- What is kept: the variable's block, the list, that the list is not older than B. -/
structure Kept (B ob : Nat) (done : List It) (w : World) : Prop where
  var : ∃ sv, rd w ob 0 = some sv ∧ SlI w sv done ∧ since B sv
  wok : wok w ob 1
  lt : ob < B
  le : B ≤ w.heap.size
def outF (B ob : Nat) : Nat → Nat → Prop := fun y _ => y = ob ∨ B ≤ y
theorem Kept.ext {B ob : Nat} {done : List It} {w w' : World} (h : Kept B ob done w) (x : Ext noF w w') : Kept B ob done w' := by
  obtain ⟨sv, h1, h2, h3⟩ := h.var
  exact ⟨⟨sv, x.rd h1 (fun h => h), h2.ext0 x, h3⟩, x.wok h.wok, h.lt, Nat.le_trans h.le x.size⟩
set_option maxHeartbeats 400000 in
set_option maxRecDepth 8000 in
theorem take_any (B ob pb nb : Nat) (n : Int) (done : List It) (x : It) (w : World) (h : Kept B ob done w) (hp : rd w pb 0 = some (ptr ob)) (hn : rd w nb 0 = some (.int .i64 n)) (h1 : pb ≠ ob) (h2 : nb ≠ ob) (h3 : pb < B) (h4 : nb < B)
    (hbig : done.length < 4294967295) :
    CallK Try.prog 71 #[iV x, ptr pb, ptr nb] w fun v w' => v = .bool (upTo n (done ++ [x])) ∧ Kept B ob (done ++ [x]) w' ∧ Ext (outF B ob) w w' := by
  obtain ⟨sv, hv, hS, hsi⟩ := h.var
  have hlt := h.lt
  have hle := h.le
  refine calls_of_W [.tmp 4] Try.func71 rfl Try.ntmps71 Try.results71 (by simp) fun e he => ?_
  have e0 : e 0 = iV x := he 0 _ rfl
  have e1 : e 1 = ptr pb := he 1 _ rfl
  have e2 : e 2 = ptr nb := he 2 _ rfl
  clear he
  refine W_sq fun K hK => (W_text [false, true] (by kernel_rfl) ?_); simp only [↓List.toList_toArray, ↓rgd, ↓rgf, ↓reduceIte, Nat.reduceEqDiff, rg, ow_71]
  refine do_box (by simp only [evt]; exact e0) fun w1 n1 => ⟨trivial, ?_⟩
  simp only [↓List.toList_toArray, ↓rgd, ↓rgf, ↓reduceIte, Nat.reduceEqDiff, rg, ow_71]
  refine hK _ _ ?_; clear hK K
  have s1 := n1.size
  have hp1 := n1.ext.rd hp (fun h => h)
  have hn1 := n1.ext.rd hn (fun h => h)
  have hv1 := n1.ext.rd hv (fun h => h)
  have bx : rdA w1 w.heap.size 0 2 = some (iV x) := n1.row.rdA 2 (by show 2 ≤ 2; omega)
  have M1 : readsB (some (some [pb, ob, w.heap.size])) pb = true := by simp [readsB]
  have M2 : readsB (some (some [pb, ob, w.heap.size])) ob = true := by simp [readsB]
  have M3 : readsB (some (some [pb, ob, w.heap.size])) w.heap.size = true := by simp [readsB]
  refine W_sq fun K hK => (W_draw (some (some [pb, ob, w.heap.size])) (some 8) [(0, 0, 0), (0, 1, 0), (0, 2, 0), (0, 3, 0), (0, 4, 0), (1, 5, 0), (1, 6, 0), (0, 7, 0), (1, 8, 0)] mixed (by kernel_rfl) ?_); simp only [↓List.toList_toArray, ↓rgd, ↓rgf, ↓reduceIte, Nat.reduceEqDiff, rg, ow_71, e1, ptr_eq, hp1, hv1, bx, M1, M2, M3]
  refine do_bsl rfl (bs_item1 x) fun w2 n2 => ⟨.inr (keeps_on n2.ext fun y hy => ⟨?_, fun _ h => h⟩), ?_⟩
  · rw [sz_dr]
    simp only [List.mem_cons, List.not_mem_nil, or_false] at hy
    omega
  simp only [↓List.toList_toArray, ↓rgd, ↓rgf, ↓reduceIte, Nat.reduceEqDiff, rg, ow_71]
  have n2 := n2.od
  have s2 := n2.size
  have X2 := n1.ext.tr n2.ext
  have hS2 := hS.ext0 X2
  have hx2 : SlV w2 2 (.slice (some ⟨w1.heap.size, 0, none⟩) 1 1) 1 (Ei.cel x) := ⟨rfl, .inr ⟨_, 0, 1, rfl, Nat.le_refl _, n2.row, n2.wok.R (Nat.le_refl _)⟩⟩
  refine do_append (by simp only [evt, evc, upd_eq, Nat.reduceEqDiff, ↓reduceIte, ntT, ntF] <;> rfl) (by simp only [evt, evc, upd_eq, Nat.reduceEqDiff, ↓reduceIte, ntT, ntF] <;> rfl) el_item rfl ni_i hS2 hx2 (by omega) (by decide) (Ei.one x) fun v3 w3 a3 => ?_
  obtain ⟨hS3, hs3, x3⟩ := app_since (B := B) a3 hsi (by omega)
  refine ⟨.inr fun y hy => app_block a3 ?_ fun o c k hh => ?_, ?_⟩
  · simp only [List.mem_cons, List.not_mem_nil, or_false] at hy
    omega
  · have g1 := hsi _ _ _ _ hh
    have g2 := hS.lt hh
    simp only [List.mem_cons, List.not_mem_nil, or_false] at hy
    omega
  simp only [↓List.toList_toArray, ↓rgd, ↓rgf, ↓reduceIte, Nat.reduceEqDiff, rg, ow_71]
  have s3 := x3.size
  obtain ⟨a3', c3', hv3⟩ := hS3.shape
  refine do_store (by simp only [evt, evc, upd_eq, Nat.reduceEqDiff, ↓reduceIte, ntT, ntF] <;> rfl) (by simp only [evt, evc, upd_eq, Nat.reduceEqDiff, ↓reduceIte, ntT, ntF] <;> rfl) sz_22 (by rw [hv3]; rfl) (x3.wok (X2.wok h.wok)) (by decide) (by rw [hv3]; exact oc_one rfl rfl) fun w4 x4 r4 s4 => ⟨.inl trivial, ?_⟩
  simp only [↓List.toList_toArray, ↓rgd, ↓rgf, ↓reduceIte, Nat.reduceEqDiff, rg, ow_71]
  refine hK _ _ ?_; clear hK K
  have hrow : rd w4 ob 0 = some v3 := by
    rw [hv3] at r4 ⊢
    exact (Row.cons.1 r4).1
  have X4 : Ext (outF B ob) w w4 := by
    refine (X2.trans (H := outF B ob) x3 (fun _ _ g => g.elim) fun y o _ g => .inr g).trans x4 (fun _ _ g => g) fun y o _ g => ?_
    simp only [rng] at g
    exact .inl g.1
  have x34 : Ext (fun y o => y = ob ∧ True) w3 w4 := x4.mono fun y o _ g => ⟨g.1, trivial⟩
  have hS4 : SlI w4 v3 (done ++ [x]) := by
    have : SlV w4 2 v3 (done.length + 1) (flat Ei done ++ Ei.cel x) := hS3.ext x4 fun b o c hh k _ g => by
      have := hs3 _ _ _ _ hh
      simp only [rng] at g
      omega
    rw [SlI, List.length_append, List.length_singleton, flat_append, flat_one]
    exact this
  have hn4 := x4.rd (x3.rd (X2.rd hn fun h => h) (by omega)) (by simp only [rng]; omega)
  have hp4 := x4.rd (x3.rd (X2.rd hp fun h => h) (by omega)) (by simp only [rng]; omega)
  have hl4 : ((done ++ [x]).length : Int) = ((done.length + 1 : Nat) : Int) := by simp
  have K4 : Kept B ob (done ++ [x]) w4 := ⟨⟨v3, hrow, hS4, hs3⟩, x4.wok (x3.wok (X2.wok h.wok)), hlt, by have := X4.size; omega⟩
  have X5 : ∀ k, Ext (outF B ob) w (dr w4 k) := fun k => X4.tr (Ext.dr _ _ _)
  have K5 : ∀ k, Kept B ob (done ++ [x]) (dr w4 k) := fun k => K4.ext (Ext.dr _ _ _)
  rw [hv3] at hrow
  by_cases hn1' : n < 1
  · have t1 : decide (n < 1) = true := by simp [hn1']
    refine W_sq fun K hK => (W_draw (some none) none [(0, 0, 0), (0, 1, 0), (0, 2, 0), (0, 3, 0), (0, 4, 0), (0, 5, 0), (0, 6, 0), (0, 7, 0), (0, 8, 0), (0, 9, 0), (0, 10, 0)] mixed (by kernel_rfl) ?_); simp only [↓List.toList_toArray, ↓rgd, ↓rgf, ↓reduceIte, Nat.reduceEqDiff, rg, ow_71, e1, e2, ptr_eq, hp4, hn4, hrow, t1]
    refine hK _ _ ?_; clear hK K
    refine W_ret (endQ_1 (by simp only [upd_eq, Nat.reduceEqDiff, ↓reduceIte] <;> rfl) ⟨?_, K5 _, X5 _⟩)
    simp [upTo, hn1']
  · have t1 : decide (n < 1) = false := by simp; omega
    refine W_sq fun K hK => (W_draw (some none) none [(0, 0, 0), (0, 1, 0), (0, 2, 0), (0, 3, 0), (0, 4, 0), (0, 5, 0), (0, 6, 0), (0, 7, 0), (0, 8, 0), (0, 9, 0), (0, 10, 0)] mixed (by kernel_rfl) ?_); simp only [↓List.toList_toArray, ↓rgd, ↓rgf, ↓reduceIte, Nat.reduceEqDiff, rg, ow_71, e1, e2, ptr_eq, hp4, hn4, hrow, t1]
    refine hK _ _ ?_; clear hK K
    refine W_ret (endQ_1 (by simp only [upd_eq, Nat.reduceEqDiff, ↓reduceIte] <;> rfl) ⟨?_, K5 _, X5 _⟩)
    simp [upTo, hn1']
end Go.Proofs.Ytinpigpeoakeaaa
/-
  Handing a map's items on to the function that keeps them: the closures, the scan of a map. No condition.
-/
set_option linter.unusedSimpArgs false
set_option linter.unusedVariables false
namespace Go.Proofs.Ytinpigpeoakeaaa
open Go Go.Proofs
def takeV (pb nb : Nat) : Value := .func (.func 71) #[] #[ptr pb, ptr nb]
theorem takeV_eq (pb nb : Nat) : takeV pb nb = .func (.func 71) #[] #[ptr pb, ptr nb] := rfl
def pairsV (tb : Nat) : Value := .func (.func 64) #[] #[ptr tb]
theorem z_fn : zK Try.prog 41 = some [.nilFunc] := by kernel_rfl
theorem fn_take : isFn Try.prog 71 = true := by kernel_rfl
theorem fn_pairs1 : isFn Try.prog 64 = true := by kernel_rfl
set_option maxHeartbeats 400000 in
set_option maxRecDepth 8000 in
theorem taker_mk (ob : Nat) (n : Int) (w : World) :
    CallK Try.prog 63 #[ptr ob, .int .i64 n] w fun v w' => v = takeV w.heap.size (w.heap.size + 1) ∧ Ext noF w w' ∧ rd w' w.heap.size 0 = some (ptr ob) ∧ rd w' (w.heap.size + 1) 0 = some (.int .i64 n) ∧ w'.heap.size = w.heap.size + 2 := by
  refine calls_of_W [.tmp 4] Try.func63 rfl Try.ntmps63 Try.results63 (by simp) fun e he => ?_
  have e0 : e 0 = ptr ob := he 0 _ rfl
  have e1 : e 1 = .int .i64 n := he 1 _ rfl
  clear he
  refine W_sq fun K hK => (W_text [false, false, true] (by kernel_rfl) ?_); simp only [↓List.toList_toArray, ↓rgd, ↓rgf, ↓reduceIte, Nat.reduceEqDiff, rg]
  refine do_box (v := ptr ob) (by simp only [evt]; exact e0) fun w1 n1 => ⟨trivial, ?_⟩
  simp only [↓List.toList_toArray, ↓rgd, ↓rgf, ↓reduceIte, Nat.reduceEqDiff, rg]
  refine do_box (v := .int .i64 n) (by simp only [evt, upd_eq, Nat.reduceEqDiff, ↓reduceIte]; exact e1) fun w2 n2 => ⟨trivial, ?_⟩
  simp only [↓List.toList_toArray, ↓rgd, ↓rgf, ↓reduceIte, Nat.reduceEqDiff, rg]
  refine hK _ _ ?_; clear hK K
  have s1 := n1.size
  have s2 := n2.size
  have r1 : rd w2 w.heap.size 0 = some (ptr ob) := n2.ext.rd (Row.cons.1 (show Row w1 w.heap.size 0 [ptr ob] from n1.row)).1 fun h => h
  have r2 : rd w2 (w.heap.size + 1) 0 = some (.int .i64 n) := by rw [← s1]; exact (Row.cons.1 (show Row w2 w1.heap.size 0 [.int .i64 n] from n2.row)).1
  refine W_sq fun K hK => (W_text [true, true] (by kernel_rfl) ?_); simp only [↓List.toList_toArray, ↓rgd, ↓rgf, ↓reduceIte, Nat.reduceEqDiff, rg]
  refine hK _ _ ?_; clear hK K
  refine W_ret (endQ_1 (by simp only [upd_eq, Nat.reduceEqDiff, ↓reduceIte] <;> rfl) ⟨?_, n1.ext.tr n2.ext, r1, r2, by omega⟩)
  rw [takeV, s1, ptr_eq, ptr_eq]
set_option maxHeartbeats 400000 in
set_option maxRecDepth 8000 in
/-- The function of pairs: what it needs in memory. -/
structure Clo (ob : Nat) (n : Int) (tb B0 B : Nat) (w : World) : Prop where
  ex : ∃ pb nb, rd w tb 0 = some (takeV pb nb) ∧ rd w pb 0 = some (ptr ob) ∧ rd w nb 0 = some (.int .i64 n) ∧ B0 ≤ pb ∧ pb < B ∧ B0 ≤ nb ∧ nb < B
  ge : B0 ≤ tb
  lt : tb < B
theorem Clo.ext {F : Nat → Nat → Prop} {ob tb B0 B : Nat} {n : Int} {w w' : World} (h : Clo ob n tb B0 B w) (x : Ext F w w') (hF : ∀ y o, B0 ≤ y → y < B → ¬ F y o) : Clo ob n tb B0 B w' := by
  obtain ⟨pb, nb, h1, h2, h3, h4, h5, h6, h7⟩ := h.ex
  exact ⟨⟨pb, nb, x.rd h1 (hF _ _ h.ge h.lt), x.rd h2 (hF _ _ h4 h5), x.rd h3 (hF _ _ h6 h7), h4, h5, h6, h7⟩, h.ge, h.lt⟩
set_option maxHeartbeats 400000 in
set_option maxRecDepth 8000 in
theorem pairs_mk (ob : Nat) (n : Int) (w : World) :
    CallK Try.prog 48 #[ptr ob, .int .i64 n] w fun v w' => ∃ tb, v = pairsV tb ∧ Ext noF w w' ∧ Clo ob n tb w.heap.size w'.heap.size w' := by
  refine calls_of_W [.tmp 4] Try.func48 rfl Try.ntmps48 Try.results48 (by simp) fun e he => ?_
  have e0 : e 0 = ptr ob := he 0 _ rfl
  have e1 : e 1 = .int .i64 n := he 1 _ rfl
  clear he
  refine W_sq fun K hK => (W_text [true] (by kernel_rfl) ?_); simp only [↓List.toList_toArray, ↓rgd, ↓rgf, ↓reduceIte, Nat.reduceEqDiff, rg, ow_48]
  refine hK _ _ ?_; clear hK K
  refine W_sq fun K hK => (W_text [true, true, false, false, false] (by kernel_rfl) ?_); simp only [↓List.toList_toArray, ↓rgd, ↓rgf, ↓reduceIte, Nat.reduceEqDiff, rg, ow_48, e0, e1]
  refine do_call fn_63 (by simp only [evt, evc, upd_eq, Nat.reduceEqDiff, ↓reduceIte, maT, maC, maN, isnN, isnS] <;> rfl) (taker_mk ob n w) ?_
  rintro _ w1 ⟨rfl, X1, r1, r2, s1⟩
  refine ⟨trivial, ?_⟩
  simp only [↓List.toList_toArray, ↓rgd, ↓rgf, ↓reduceIte, Nat.reduceEqDiff, rg, ow_48]
  refine do_alloc z_fn fun w2 n2 => ⟨trivial, ?_⟩
  simp only [↓List.toList_toArray, ↓rgd, ↓rgf, ↓reduceIte, Nat.reduceEqDiff, rg, ow_48]
  refine do_store (v := takeV w.heap.size (w.heap.size + 1)) (by simp only [evt, evc, upd_eq, Nat.reduceEqDiff, ↓reduceIte, ntT, ntF] <;> rfl) (by simp only [evt, evc, upd_eq, Nat.reduceEqDiff, ↓reduceIte, ntT, ntF] <;> rfl) sz_41 rfl n2.wok (by decide) (oc_one rfl rfl) fun w3 x3 r3 s3 => ⟨trivial, ?_⟩
  simp only [↓List.toList_toArray, ↓rgd, ↓rgf, ↓reduceIte, Nat.reduceEqDiff, rg, ow_48]
  refine hK _ _ ?_; clear hK K
  have s2 := n2.size
  refine W_sq fun K hK => (W_text [true, true] (by kernel_rfl) ?_); simp only [↓List.toList_toArray, ↓rgd, ↓rgf, ↓reduceIte, Nat.reduceEqDiff, rg, ow_48]
  refine hK _ _ ?_; clear hK K
  refine W_ret (endQ_1 (by simp only [upd_eq, Nat.reduceEqDiff, ↓reduceIte] <;> rfl) ⟨_, rfl, noF_of (X1.tr n2.ext) x3 fun y o hy h => by simp only [rng] at h; omega, ⟨_, _, (Row.cons.1 r3).1, x3.rd (n2.ext.rd r1 fun h => h) (by simp only [rng]; omega), x3.rd (n2.ext.rd r2 fun h => h) (by simp only [rng]; omega), ?_, ?_, ?_, ?_⟩, ?_, ?_⟩)
  all_goals omega
/-- What holds while items are kept through pairs. -/
def PS (ob : Nat) (n : Int) (tb B0 B : Nat) (done : List It) (w : World) : Prop := Kept B ob done w ∧ Clo ob n tb B0 B w
set_option maxHeartbeats 400000 in
set_option maxRecDepth 8000 in
theorem cb_pairs (ob : Nat) (n : Int) (tb B0 B : Nat) (hob : ob < B0) : Cb (pairsV tb) (outF B ob) (PS ob n tb B0 B) (upTo n) := by
  refine ⟨⟨_, #[], #[ptr tb], rfl, fn_pairs1, fun done x w hS hlen => ?_⟩, fun done w w' hS x => ⟨hS.1.ext x, hS.2.ext x fun _ _ _ _ h => h⟩⟩
  obtain ⟨hKp, hC⟩ := hS
  obtain ⟨pb, nb, h1, h2, h3, h4, h5, h6, h7⟩ := hC.ex
  have hge := hC.ge
  have hle := hKp.le
  refine calls_of_W (args := [kV (κ x), vV x, ptr tb]) [.tmp 5] Try.func64 rfl Try.ntmps64 Try.results64 (by simp) fun e he => ?_
  have e0 : e 0 = .string x.1 := he 0 _ rfl
  have e1 : e 1 = .int .i64 x.2 := he 1 _ rfl
  have e2 : e 2 = ptr tb := he 2 _ rfl
  clear he
  refine W_sq fun K hK => (W_text [true] (by kernel_rfl) ?_); simp only [↓List.toList_toArray, ↓rgd, ↓rgf, ↓reduceIte, Nat.reduceEqDiff, rg, ow_64]
  refine hK _ _ ?_; clear hK K
  refine W_sq fun K hK => (W_text [true, true, true, true, false, true] (by kernel_rfl) ?_); simp only [↓List.toList_toArray, ↓rgd, ↓rgf, ↓reduceIte, Nat.reduceEqDiff, rg, ow_64, e0, e1, e2, ptr_eq, h1, bu_item]
  refine do_callv (f := 71) (first := #[]) (captured := #[ptr pb, ptr nb]) (vs := #[iV x, ptr pb, ptr nb]) (by simp only [evt, evc, upd_eq, Nat.reduceEqDiff, ↓reduceIte, ntT, ntF] <;> rfl) fn_take (by simp only [evt, upd_eq, Nat.reduceEqDiff, ↓reduceIte, maT, maC, maN]; rfl) (take_any B ob pb nb n done x w hKp h2 h3 (by omega) (by omega) h5 h7 hlen) ?_
  rintro _ w1 ⟨rfl, hK1, X1⟩
  refine ⟨trivial, ?_⟩
  simp only [↓List.toList_toArray, ↓rgd, ↓rgf, ↓reduceIte, Nat.reduceEqDiff, rg, ow_64]
  refine hK _ _ ?_; clear hK K
  refine W_ret (endQ_1 (by simp only [upd_eq, Nat.reduceEqDiff, ↓reduceIte] <;> rfl) ⟨rfl, ⟨hK1, hC.ext X1 fun y o hy1 hy2 h => ?_⟩, X1⟩)
  rcases h with h | h <;> omega
set_option maxHeartbeats 400000 in
set_option maxRecDepth 8000 in
theorem scan_any (m d : Nat) (iso : Int) (xs : List It) (F : Nat → Nat → Prop) (f : Value) (G : Nat → Nat → Prop) (S : List It → World → Prop) (go : List It → Bool) (C : Cb f G S go) (hm : ∀ o, ¬ G m o) (mu : Bool) (w : World)
    (hM : MapAt w m d iso xs F) (hG : ∀ y o o', F y o → ¬ G y o') (hS : S [] w) (hbig : xs.length ≤ 4294967295) :
    CallK Try.prog 62 #[ptr m, f, .bool mu] w fun _ w' => S (hand go [] xs).1 w' ∧ Ext G w w' := by
  refine calls_of_W [] Try.func62 rfl Try.ntmps62 Try.results62 (by simp) fun e he => ?_
  have e0 : e 0 = ptr m := he 0 _ rfl
  have e1 : e 1 = f := he 1 _ rfl
  have e2 : e 2 = .bool mu := he 2 _ rfl
  clear he
  refine W_seq ?_
  rcases hM.root with ⟨rfl, hr⟩ | ⟨h, b, hr, ht⟩
  · refine W_sq fun K hK => (W_text [true, true, true, true, true] (by kernel_rfl) ?_); simp only [↓List.toList_toArray, ↓rgd, ↓rgf, ↓reduceIte, Nat.reduceEqDiff, rg, ow_62, e0, ptr_eq, hr]
    refine hK _ _ ?_; clear hK K
    refine W_true (by simp only [evt, evc, upd_eq, Nat.reduceEqDiff, ↓reduceIte, ntT, ntF] <;> rfl) (W_ret ?_)
    simp only [andThen_ret]
    exact endQ_0 ⟨hS, Ext.refl _ _⟩
  · refine W_sq fun K hK => (W_text [true, true, true, true, true] (by kernel_rfl) ?_); simp only [↓List.toList_toArray, ↓rgd, ↓rgf, ↓reduceIte, Nat.reduceEqDiff, rg, ow_62, e0, ptr_eq, hr]
    refine hK _ _ ?_; clear hK K
    refine W_false (by simp only [evt, evc, upd_eq, Nat.reduceEqDiff, ↓reduceIte, ntT, ntF] <;> rfl) (W_skip ?_)
    show W _ _ _ _ _ _
    refine W_rg fun K hK => (W_text [true, true, true, true, true, true, false] (by kernel_rfl) ?_); simp only [↓List.toList_toArray, ↓rgd, ↓rgf, ↓reduceIte, Nat.reduceEqDiff, rg, ow_62, e0, e1, e2, ptr_eq]
    refine do_call fn_70 (by simp only [evt, evc, upd_eq, Nat.reduceEqDiff, ↓reduceIte, maT, maC, maN, isnN, isnS] <;> rfl) (nodeScan_any m iso (d - 1) (2 * d - 1) f G S go C hm mu h b 1 m 2 xs F [] w ht hM.cfg.iso hr hG hS (by simpa using hbig)) ?_
    rintro _ w1 ⟨rfl, hS1, X1⟩
    refine ⟨trivial, ?_⟩
    simp only [↓List.toList_toArray, ↓rgd, ↓rgf, ↓reduceIte, Nat.reduceEqDiff, rg, ow_62]
    refine hK _ _ ?_; clear hK K
    exact endQ_0n ⟨hS1, X1⟩
theorem z_sl : zK Try.prog 22 = some [.slice none 0 0] := by kernel_rfl
set_option maxHeartbeats 400000 in
set_option maxRecDepth 8000 in
theorem scanR_any (m d : Nat) (iso : Int) (xs : List It) (F : Nat → Nat → Prop) (f : Value) (G : Nat → Nat → Prop) (S : List It → World → Prop) (go : List It → Bool) (C : Cb f G S go) (hm : ∀ o, ¬ G m o) (w : World)
    (hM : MapAt w m d iso xs F) (hG : ∀ y o o', F y o → ¬ G y o') (hS : S [] w) (hbig : xs.length ≤ 4294967295) :
    CallK Try.prog 47 #[ptr m, f] w fun _ w' => S (hand go [] xs).1 w' ∧ Ext G w w' := by
  refine calls_of_W [] Try.func47 rfl Try.ntmps47 Try.results47 (by simp) fun e he => ?_
  have e0 : e 0 = ptr m := he 0 _ rfl
  have e1 : e 1 = f := he 1 _ rfl
  clear he
  refine W_rg fun K hK => (W_text [true, true, false] (by kernel_rfl) ?_); simp only [↓List.toList_toArray, ↓rgd, ↓rgf, ↓reduceIte, Nat.reduceEqDiff, rg, ow_47, e0, e1]
  refine do_call fn_62 (by simp only [evt, evc, upd_eq, Nat.reduceEqDiff, ↓reduceIte, maT, maC, maN, isnN, isnS] <;> rfl) (scan_any m d iso xs F f G S go C hm false w hM hG hS hbig) ?_
  rintro _ w1 ⟨hS1, X1⟩
  refine ⟨trivial, ?_⟩
  simp only [↓List.toList_toArray, ↓rgd, ↓rgf, ↓reduceIte, Nat.reduceEqDiff, rg, ow_47]
  refine hK _ _ ?_; clear hK K
  exact endQ_0n ⟨hS1, X1⟩
set_option maxHeartbeats 400000 in
set_option maxRecDepth 8000 in
theorem allWords_any (m d : Nat) (iso : Int) (xs : List It) (F : Nat → Nat → Prop) (w : World) (hM : MapAt w m d iso xs F) (hbig : xs.length ≤ 4294967295) :
    CallK Try.prog 34 #[ptr m] w fun v w' => SlI w' v xs ∧ Ext noF w w' := by
  refine calls_of_W [.tmp 2] Try.func34 rfl Try.ntmps34 Try.results34 (by simp) fun e he => ?_
  have e0 : e 0 = ptr m := he 0 _ rfl
  clear he
  refine W_sq fun K hK => (W_text [true] (by kernel_rfl) ?_); simp only [↓List.toList_toArray, ↓rgd, ↓rgf, ↓reduceIte, Nat.reduceEqDiff, rg, ow_34]
  refine hK _ _ ?_; clear hK K
  refine W_sq fun K hK => (W_text [false] (by kernel_rfl) ?_); simp only [↓List.toList_toArray, ↓rgd, ↓rgf, ↓reduceIte, Nat.reduceEqDiff, rg, ow_34]
  refine do_alloc z_sl fun w1 n1 => ⟨trivial, ?_⟩
  simp only [↓List.toList_toArray, ↓rgd, ↓rgf, ↓reduceIte, Nat.reduceEqDiff, rg, ow_34]
  refine hK _ _ ?_; clear hK K
  have s1 := n1.size
  refine W_sq fun K hK => (W_text [true, false, false] (by kernel_rfl) ?_); simp only [↓List.toList_toArray, ↓rgd, ↓rgf, ↓reduceIte, Nat.reduceEqDiff, rg, ow_34, e0]
  refine do_call fn_48 (vs := #[ptr w.heap.size, .int .i64 0]) (by simp only [evt, evc, upd_eq, Nat.reduceEqDiff, ↓reduceIte, maT, maC, maN, isnN, isnS] <;> rfl) (pairs_mk w.heap.size 0 w1) ?_
  rintro _ w3 ⟨tb, rfl, X3, hC⟩
  refine ⟨trivial, ?_⟩
  simp only [↓List.toList_toArray, ↓rgd, ↓rgf, ↓reduceIte, Nat.reduceEqDiff, rg, ow_34]
  have s3 := X3.size
  have hM3 := (hM.ext n1.ext).ext X3
  have r3 := X3.rd (Row.cons.1 n1.row).1 fun h => h
  have hKp : Kept w3.heap.size w.heap.size [] w3 := ⟨⟨_, r3, ⟨rfl, .inl ⟨rfl, rfl⟩⟩, fun b o n c h => by cases h⟩, X3.wok n1.wok, by omega, Nat.le_refl _⟩
  have hlt := hM.lt
  have hml := hM.mlt
  refine do_call fn_47 (by simp only [evt, evc, upd_eq, Nat.reduceEqDiff, ↓reduceIte, maT, maC, maN, isnN, isnS] <;> rfl) (scanR_any m d iso xs F (pairsV tb) (outF w3.heap.size w.heap.size) (PS w.heap.size 0 tb w1.heap.size w3.heap.size) (upTo 0) (cb_pairs _ 0 tb _ _ (by omega)) (fun o h => ?_) w3 hM3 (fun y o o' hy h => ?_) ⟨hKp, hC⟩ hbig) ?_
  · rcases h with h | h <;> omega
  · have := hlt y o hy
    rcases h with h | h <;> omega
  rintro _ w4 ⟨⟨hK4, _⟩, X4⟩
  refine ⟨trivial, ?_⟩
  simp only [↓List.toList_toArray, ↓rgd, ↓rgf, ↓reduceIte, Nat.reduceEqDiff, rg, ow_34]
  refine hK _ _ ?_; clear hK K
  obtain ⟨sv, hv, hS, _⟩ := hK4.var
  refine W_sq fun K hK => (W_text [true, true] (by kernel_rfl) ?_); simp only [↓List.toList_toArray, ↓rgd, ↓rgf, ↓reduceIte, Nat.reduceEqDiff, rg, ow_34, hv]
  refine hK _ _ ?_; clear hK K
  refine W_ret (endQ_1 (by simp only [upd_eq, Nat.reduceEqDiff, ↓reduceIte] <;> rfl) ⟨by rw [hand_upTo_nil] at hS; simpa [firstN] using hS, ?_⟩)
  refine noF_of (n1.ext.tr X3) X4 fun y o hy h => ?_
  rcases h with h | h <;> omega
end Go.Proofs.Ytinpigpeoakeaaa
/-
  The map's degree bounds, its setting up, a new map. No condition.
-/
set_option linter.unusedSimpArgs false
set_option linter.unusedVariables false
namespace Go.Proofs.Ytinpigpeoakeaaa
open Go Go.Proofs
set_option maxHeartbeats 400000 in
set_option maxRecDepth 8000 in
theorem minmax_any (d : Nat) (hd : 2 ≤ d) (hd' : d ≤ 128) (w : World) :
    CallK Try.prog 66 #[.int .i64 d] w fun v w' => v = .tuple #[.int .i64 (d - 1 : Nat), .int .i64 (2 * d - 1 : Nat)] ∧ w = w' := by
  refine calls_of_W [.tmp 2, .tmp 3] Try.func66 rfl Try.ntmps66 Try.results66 (by simp) fun e he => ?_
  have e0 : e 0 = .int .i64 d := he 0 _ rfl
  clear he
  have t1 : decide ((d : Int) ≤ 0) = false := by simp; omega
  have t2 : ((d : Int) == 1) = false := by simp; omega
  have q1 : IntKind.i64.wrap ((d : Int) * 2) = ((2 * d : Nat) : Int) := by rw [IntWalk.i64_in _ (by omega)]; omega
  have q2 : IntKind.i64.wrap (((2 * d : Nat) : Int) - 1) = ((2 * d - 1 : Nat) : Int) := wsub1 _ (by omega) (by omega)
  have q3 : IntKind.i64.wrap (((2 * d - 1 : Nat) : Int).tdiv 2) = ((d - 1 : Nat) : Int) := by rw [wdiv2 _ (by omega)]; congr 1; omega
  refine W_sq fun K hK => (W_text [true, true] (by kernel_rfl) ?_); simp only [↓List.toList_toArray, ↓rgd, ↓rgf, ↓reduceIte, Nat.reduceEqDiff, rg, ow_66]
  refine hK _ _ ?_; clear hK K
  refine W_seq ?_
  refine W_sq fun K hK => (W_text [true, true] (by kernel_rfl) ?_); simp only [↓List.toList_toArray, ↓rgd, ↓rgf, ↓reduceIte, Nat.reduceEqDiff, rg, ow_66, e0, t1]
  refine hK _ _ ?_; clear hK K
  refine W_false (by simp only [evt, evc, upd_eq, Nat.reduceEqDiff, ↓reduceIte, ntT, ntF] <;> rfl) ?_
  refine W_sq fun K hK => (W_text [true, true] (by kernel_rfl) ?_); simp only [↓List.toList_toArray, ↓rgd, ↓rgf, ↓reduceIte, Nat.reduceEqDiff, rg, ow_66, e0, t2]
  refine hK _ _ ?_; clear hK K
  refine W_false (by simp only [evt, evc, upd_eq, Nat.reduceEqDiff, ↓reduceIte, ntT, ntF] <;> rfl) (W_skip ?_)
  show W _ _ _ _ _ _
  refine W_sq fun K hK => (W_text [true, true, true, true] (by kernel_rfl) ?_); simp only [↓List.toList_toArray, ↓rgd, ↓rgf, ↓reduceIte, Nat.reduceEqDiff, rg, ow_66, e0, bv_mul, q1, q2]
  refine hK _ _ ?_; clear hK K
  refine W_sq fun K hK => (W_text [true, true, true] (by kernel_rfl) ?_); simp only [↓List.toList_toArray, ↓rgd, ↓rgf, ↓reduceIte, Nat.reduceEqDiff, rg, ow_66, q3]
  refine hK _ _ ?_; clear hK K
  refine W_sq fun K hK => (W_text [true, true, true, true] (by kernel_rfl) ?_); simp only [↓List.toList_toArray, ↓rgd, ↓rgf, ↓reduceIte, Nat.reduceEqDiff, rg, ow_66]
  refine hK _ _ ?_; clear hK K
  exact W_ret (endQ_2 (by simp only [upd_eq, Nat.reduceEqDiff, ↓reduceIte] <;> rfl) (by simp only [upd_eq, Nat.reduceEqDiff, ↓reduceIte] <;> rfl) ⟨rfl, rfl⟩)
theorem la_cv : laK Try.prog 3 105 = some .nilIface := by kernel_rfl
theorem la_ci : laK Try.prog 3 108 = some .nilIface := by kernel_rfl
/-- A map's record that is all zero. -/
theorem z_map : zK Try.prog 73 = some [.int .u64 0, .pointer none, .pointer none, .int .i64 0, .int .i64 0, kV (κ zIt), .int .i64 0, .int .i64 0, .bool false, .bool false] := by kernel_rfl
set_option maxHeartbeats 400000 in
set_option maxRecDepth 8000 in
theorem init_any (m d : Nat) (hd : 2 ≤ d) (hd' : d ≤ 128) (w : World) (wm : wok w m 10) (hr : Row w m 4 [.int .i64 0, kV (κ zIt), .int .i64 0, .int .i64 0, .bool false, .bool false]) :
    CallK Try.prog 53 #[ptr m, .int .i64 d] w fun _ w' => Ext (rng m 6 4) w w' ∧ rd w' m 6 = some (.int .i64 (d - 1 : Nat)) ∧ rd w' m 7 = some (.int .i64 (2 * d - 1 : Nat)) ∧ rd w' m 8 = some (.bool false) ∧
      rd w' m 9 = some (.bool false) ∧ w'.heap.size = w.heap.size := by
  simp only [Row.cons] at hr
  obtain ⟨g4, g5, g6, g7, g8, g9, -⟩ := hr
  refine calls_of_W [] Try.func53 rfl Try.ntmps53 Try.results53 (by simp) fun e he => ?_
  have e0 : e 0 = ptr m := he 0 _ rfl
  have e1 : e 1 = .int .i64 d := he 1 _ rfl
  clear he
  have t1 : ((0 : Int) != 0) = false := by simp
  refine W_seq ?_
  refine W_sq fun K hK => (W_text [true, true, true, true, true] (by kernel_rfl) ?_); simp only [↓List.toList_toArray, ↓rgd, ↓rgf, ↓reduceIte, Nat.reduceEqDiff, rg, ow_53, e0, ptr_eq, g6, t1]
  refine hK _ _ ?_; clear hK K
  refine W_false (by simp only [evt, evc, upd_eq, Nat.reduceEqDiff, ↓reduceIte, ntT, ntF] <;> rfl) (W_skip ?_)
  show W _ _ _ _ _ _
  refine W_sq fun K hK => (W_text [true, true, true, false, true, true, true, true, true, false, true, true, false] (by kernel_rfl) ?_); simp only [↓List.toList_toArray, ↓rgd, ↓rgf, ↓reduceIte, Nat.reduceEqDiff, rg, ow_53, e0, e1, ptr_eq]
  refine do_call fn_66 (by simp only [evt, evc, upd_eq, Nat.reduceEqDiff, ↓reduceIte, maT, maC, maN, isnN, isnS] <;> rfl) (minmax_any d hd hd' w) ?_
  rintro _ _ ⟨rfl, rfl⟩
  refine ⟨trivial, ?_⟩
  simp only [↓List.toList_toArray, ↓rgd, ↓rgf, ↓reduceIte, Nat.reduceEqDiff, rg, ow_53, ptr_eq]
  refine do_store (by simp only [evt, evc, upd_eq, Nat.reduceEqDiff, ↓reduceIte, ntT, ntF] <;> rfl) (by simp only [evt, evc, upd_eq, Nat.reduceEqDiff, ↓reduceIte, ntT, ntF] <;> rfl) sz_3 rfl wm (by decide) (oc_one rfl rfl) fun w1 x1 r1 s1 => ⟨trivial, ?_⟩
  simp only [↓List.toList_toArray, ↓rgd, ↓rgf, ↓reduceIte, Nat.reduceEqDiff, rg, ow_53, ptr_eq]
  refine do_store (by simp only [evt, evc, upd_eq, Nat.reduceEqDiff, ↓reduceIte, ntT, ntF] <;> rfl) (by simp only [evt, evc, upd_eq, Nat.reduceEqDiff, ↓reduceIte, ntT, ntF] <;> rfl) sz_3 rfl (x1.wok wm) (by decide) (oc_one rfl rfl) fun w2 x2 r2 s2 => ⟨trivial, ?_⟩
  simp only [↓List.toList_toArray, ↓rgd, ↓rgf, ↓reduceIte, Nat.reduceEqDiff, rg, ow_53]
  refine hK _ _ ?_; clear hK K
  have g4' := x2.rd (x1.rd g4 (by simp only [rng]; omega)) (by simp only [rng]; omega)
  have n1 := tas_no (P := Try.prog) _ _ (.int .i64 0) _ co_105 la_cv
  have n2 := tas_no (P := Try.prog) _ _ (.int .i64 0) _ co_108 la_ci
  refine W_sq fun K hK => (W_text [true, true, true, true, true, true, true, true, true, true, true, true, true, false] (by kernel_rfl) ?_); simp only [↓List.toList_toArray, ↓rgd, ↓rgf, ↓reduceIte, Nat.reduceEqDiff, rg, ow_53, e0, ptr_eq, g4', n1]
  refine do_store (by simp only [evt, evc, upd_eq, Nat.reduceEqDiff, ↓reduceIte, ntT, ntF] <;> rfl) (by simp only [evt, evc, upd_eq, Nat.reduceEqDiff, ↓reduceIte, ntT, ntF] <;> rfl) sz_4 rfl (x2.wok (x1.wok wm)) (by decide) (oc_one rfl rfl) fun w3 x3 r3 s3 => ⟨trivial, ?_⟩
  simp only [↓List.toList_toArray, ↓rgd, ↓rgf, ↓reduceIte, Nat.reduceEqDiff, rg, ow_53]
  refine hK _ _ ?_; clear hK K
  have g8' : rd w3 m 8 = some (.bool false) := (Row.cons.1 r3).1
  have g4'' := x3.rd g4' (by simp only [rng]; omega)
  refine W_sq fun K hK => (W_text [true, true, true, true, true] (by kernel_rfl) ?_); simp only [↓List.toList_toArray, ↓rgd, ↓rgf, ↓reduceIte, Nat.reduceEqDiff, rg, ow_53, e0, ptr_eq, g8']
  refine hK _ _ ?_; clear hK K
  refine W_true (by simp only [evt, evc, upd_eq, Nat.reduceEqDiff, ↓reduceIte, ntT, ntF] <;> rfl) ?_
  refine W_rg fun K hK => (W_text [true, true, true, true, true, true, true, true, true, true, true, true, true, false] (by kernel_rfl) ?_); simp only [↓List.toList_toArray, ↓rgd, ↓rgf, ↓reduceIte, Nat.reduceEqDiff, rg, ow_53, e0, ptr_eq, g4'', n2]
  refine do_store (by simp only [evt, evc, upd_eq, Nat.reduceEqDiff, ↓reduceIte, ntT, ntF] <;> rfl) (by simp only [evt, evc, upd_eq, Nat.reduceEqDiff, ↓reduceIte, ntT, ntF] <;> rfl) sz_4 rfl (x3.wok (x2.wok (x1.wok wm))) (by decide) (oc_one rfl rfl) fun w4 x4 r4 s4 => ⟨trivial, ?_⟩
  simp only [↓List.toList_toArray, ↓rgd, ↓rgf, ↓reduceIte, Nat.reduceEqDiff, rg, ow_53]
  refine hK _ _ ?_; clear hK K
  have X : Ext (rng m 6 4) w w4 := ((x1.trans x2 (fun _ _ g => by simp only [rng] at *; omega) fun _ _ _ g => by simp only [rng] at *; omega).trans x3 (fun _ _ g => g) fun _ _ _ g => by simp only [rng] at *; omega).trans x4 (fun _ _ g => g) fun _ _ _ g => by simp only [rng] at *; omega
  exact endQ_0n ⟨X, x4.rd (x3.rd (x2.rd (Row.cons.1 r1).1 (by simp only [rng]; omega)) (by simp only [rng]; omega)) (by simp only [rng]; omega), x4.rd (x3.rd (Row.cons.1 r2).1 (by simp only [rng]; omega)) (by simp only [rng]; omega),
    x4.rd g8' (by simp only [rng]; omega), (Row.cons.1 r4).1, by rw [s4, s3, s2, s1]⟩
set_option maxHeartbeats 400000 in
set_option maxRecDepth 8000 in
theorem newMap_any (d : Nat) (hd : 2 ≤ d) (hd' : d ≤ 128) (w : World) :
    CallK Try.prog 39 #[.int .i64 d] w fun v w' => ∃ m, v = ptr m ∧ w.heap.size ≤ m ∧ Ext noF w w' ∧ Cfg w' m 0 d ∧ rd w' m 2 = some (.pointer none) ∧ rd w' m 3 = some (.int .i64 0) := by
  refine calls_of_W [.tmp 2] Try.func39 rfl Try.ntmps39 Try.results39 (by simp) fun e he => ?_
  have e0 : e 0 = .int .i64 d := he 0 _ rfl
  clear he
  refine W_sq fun K hK => (W_text [true] (by kernel_rfl) ?_); simp only [↓List.toList_toArray, ↓rgd, ↓rgf, ↓reduceIte, Nat.reduceEqDiff, rg, ow_39]
  refine hK _ _ ?_; clear hK K
  refine W_sq fun K hK => (W_text [false, true] (by kernel_rfl) ?_); simp only [↓List.toList_toArray, ↓rgd, ↓rgf, ↓reduceIte, Nat.reduceEqDiff, rg, ow_39]
  refine do_alloc z_map fun w1 n1 => ⟨trivial, ?_⟩
  simp only [↓List.toList_toArray, ↓rgd, ↓rgf, ↓reduceIte, Nat.reduceEqDiff, rg, ow_39]
  refine hK _ _ ?_; clear hK K
  have r := n1.row
  have r4 := r.drop 4
  simp only [Row.cons] at r
  obtain ⟨g0, g1, g2, g3, g4, g5, -⟩ := r
  refine W_sq fun K hK => (W_text [true, true, false] (by kernel_rfl) ?_); simp only [↓List.toList_toArray, ↓rgd, ↓rgf, ↓reduceIte, Nat.reduceEqDiff, rg, ow_39, e0]
  refine do_call fn_53 (by simp only [evt, evc, upd_eq, Nat.reduceEqDiff, ↓reduceIte, maT, maC, maN, isnN, isnS] <;> rfl) (init_any w.heap.size d hd hd' w1 n1.wok r4) ?_
  rintro _ w2 ⟨x2, g6, g7, g8, g9, s2⟩
  refine ⟨trivial, ?_⟩
  simp only [↓List.toList_toArray, ↓rgd, ↓rgf, ↓reduceIte, Nat.reduceEqDiff, rg, ow_39]
  refine hK _ _ ?_; clear hK K
  refine W_sq fun K hK => (W_text [true, true] (by kernel_rfl) ?_); simp only [↓List.toList_toArray, ↓rgd, ↓rgf, ↓reduceIte, Nat.reduceEqDiff, rg, ow_39]
  refine hK _ _ ?_; clear hK K
  refine W_ret (endQ_1 (by simp only [upd_eq, Nat.reduceEqDiff, ↓reduceIte] <;> rfl) ⟨_, rfl, Nat.le_refl _, noF_of n1.ext x2 fun y o hy h => by simp only [rng] at h; omega, ⟨x2.rd g0 (by simp only [rng]; omega), ?_, g6, g7, g8, g9, x2.wok n1.wok⟩,
    x2.rd g2 (by simp only [rng]; omega), x2.rd g3 (by simp only [rng]; omega)⟩)
  exact Row.cons.2 ⟨x2.rd g4 (by simp only [rng]; omega), Row.cons.2 ⟨x2.rd g5 (by simp only [rng]; omega), Row.nil _ _ _⟩⟩
end Go.Proofs.Ytinpigpeoakeaaa
/-
  Setting a key in a map; a map that is grown from a list. No condition.
-/
set_option linter.unusedSimpArgs false
set_option linter.unusedVariables false
namespace Go.Proofs.Ytinpigpeoakeaaa
open Go Go.Proofs
theorem bu_it (a : Rk) (b : Int) : buildV Try.prog 71 [(1, kV a), (0, .int .i64 b)] = some (itV (a, b)) := by kernel_rfl
theorem bs_it0 : bsV Try.prog 87 0 [] = some (71, []) := by kernel_rfl
theorem bs_it1 (x : It) : bsV Try.prog 87 1 [(0, itV x)] = some (71, E.cel x) := by kernel_rfl
theorem bs_kid0 : bsV Try.prog 96 0 [] = some (69, []) := by kernel_rfl
theorem bs_kid2 (a b : Nat) : bsV Try.prog 96 2 [(0, ptr a), (1, ptr b)] = some (69, [ptr a, ptr b]) := by kernel_rfl
theorem keep2 {F : Nat → Nat → Prop} {w w' : World} {a b : Nat} (h : Ext F w w') (h1 : a < w.heap.size ∧ ∀ o, ¬ F a o) (h2 : b < w.heap.size ∧ ∀ o, ¬ F b o) : keeps (some (some [a, b])) w w' := keeps_on h fun x hx => by
  simp only [List.mem_cons, List.not_mem_nil, or_false] at hx
  rcases hx with rfl | rfl
  · exact h1
  · exact h2
theorem app_new {w w' : World} {sz m b o : Nat} {l' : List Value} {v' : Value} (h : AppRes w sz (.slice (some ⟨b, o, none⟩) 0 0) 0 m [] l' v' w') (hm : 0 < m) :
    ∃ cap', v' = .slice (some ⟨w.heap.size, 0, none⟩) m cap' ∧ m ≤ cap' ∧ Row w' w.heap.size 0 l' ∧ wok w' w.heap.size (cap' * sz) ∧ Ext noF w w' ∧ w'.heap.size = w.heap.size + 1 := by
  obtain ⟨hs, hc⟩ := h
  rw [Nat.zero_add] at hs hc
  rcases hc with ⟨_, _, h3⟩ | ⟨b0, o0, cap0, h1, h2, h3, h4, h5⟩ | ⟨cap', h1, h2, h3, h4⟩
  · cases h3
  · simp only [Value.slice.injEq, Option.some.injEq, Addr.mk.injEq, true_and, and_true] at h1
    omega
  · subst h1
    rcases hs.2 with ⟨h, _⟩ | ⟨b1, o1, c1, h1, hle, hr, hw⟩
    · cases h
    · simp only [Value.slice.injEq, Option.some.injEq, Addr.mk.injEq, true_and, and_true] at h1
      obtain ⟨⟨rfl, rfl⟩, rfl⟩ := h1
      exact ⟨_, rfl, hle, by simpa using hr, h4, h2, h3⟩
set_option maxHeartbeats 1000000 in
set_option maxRecDepth 8000 in
/-- Setting, where there is a root. -/
theorem set_root (m d : Nat) (iso : Int) (x : It) (hd : 2 ≤ d) (hd' : d ≤ 128) : ∀ (k h b : Nat) (xs : List It) (F : Nat → Nat → Prop) (w : World), xs.length - h = k → Cfg w m iso d → rd w m 3 = some (.int .i64 xs.length) → Asc O κ xs →
    rd w m 2 = some (ptr b) → Tr E iso (d - 1) (2 * d - 1) h w 1 b xs F → (∀ o, ¬ F m o) → xs.length < 1152921504606846976 →
    CallK Try.prog 40 #[ptr m, kV x.1, vV x] w fun v w' => v = .tuple #[vV ((at? O κ (κ x) xs).getD zIt), .bool (hit O κ (κ x) xs)] ∧ Ext (mapF m F) w w' ∧
      ∃ F', MapAt w' m d iso (put O κ x xs) F' ∧ ∀ y o, F' y o → F y o ∨ w.heap.size ≤ y := by
  intro k
  induction k using Nat.strongRecOn with
  | _ k ih =>
  intro h b xs F w hk hc hcnt ha hroot ht hm hbig
  have hml := wok_lt hc.wok
  have hht := Tr.height (by omega) (Nat.le_refl 1) ht
  refine calls_of_W [.tmp 6, .tmp 7] Try.func40 rfl Try.ntmps40 Try.results40 (by simp) fun e he => ?_
  have e0 : e 0 = ptr m := he 0 _ rfl
  have e1 : e 1 = kV x.1 := he 1 _ rfl
  have e2 : e 2 = .int .i64 x.2 := he 2 _ rfl
  clear he
  refine W_sq fun K hK => (W_text [true, true] (by kernel_rfl) ?_); simp only [↓List.toList_toArray, ↓rgd, ↓rgf, ↓reduceIte, Nat.reduceEqDiff, rg, ow_40]
  refine hK _ _ ?_; clear hK K
  refine W_sq fun K hK => (W_text [true, true, true, false, false] (by kernel_rfl) ?_); simp only [↓List.toList_toArray, ↓rgd, ↓rgf, ↓reduceIte, Nat.reduceEqDiff, rg, ow_40, e1, e2, bu_it]
  refine do_alloc z_it fun w1 n1 => ⟨trivial, ?_⟩
  simp only [↓List.toList_toArray, ↓rgd, ↓rgf, ↓reduceIte, Nat.reduceEqDiff, rg, ow_40]
  refine do_store (by simp only [evt, evc, upd_eq, Nat.reduceEqDiff, ↓reduceIte, ntT, ntF] <;> rfl) (by simp only [evt, evc, upd_eq, Nat.reduceEqDiff, ↓reduceIte, ntT, ntF] <;> rfl) sz_71 (itV_len x) n1.wok (by decide) (itV_oc x) fun w2 x2 r2 s2 => ⟨trivial, ?_⟩
  simp only [↓List.toList_toArray, ↓rgd, ↓rgf, ↓reduceIte, Nat.reduceEqDiff, rg, ow_40]
  refine hK _ _ ?_; clear hK K
  have s1 := n1.size
  have X2 : Ext noF w w2 := noF_of n1.ext x2 fun y o hy h => by simp only [rng] at h; omega
  have rx : Row w2 w.heap.size 0 (E.cel x) := r2
  have c2 := hc.ext X2 fun _ _ _ h => h
  have rt2 := X2.rd hroot (fun h => h)
  have ix := iA_at rx
  refine W_seq ?_
  refine W_sq fun K hK => (W_text [true, true, true, true, true] (by kernel_rfl) ?_); simp only [↓List.toList_toArray, ↓rgd, ↓rgf, ↓reduceIte, Nat.reduceEqDiff, rg, ow_40, e0, ptr_eq, rt2]
  refine hK _ _ ?_; clear hK K
  refine W_false (by simp only [evt, evc, upd_eq, Nat.reduceEqDiff, ↓reduceIte, ntT, ntF] <;> rfl) (W_skip ?_)
  show W _ _ _ _ _ _
  have M1 : readsB (some (some [w.heap.size])) w.heap.size = true := by simp [readsB]
  have hFlt := ht.lt
  refine W_sq fun K hK => (W_draw (some (some [w.heap.size])) none [(0, 0, 0), (0, 1, 0), (0, 2, 0), (0, 3, 0), (0, 4, 0), (1, 5, 0), (0, 6, 0), (0, 7, 0), (0, 8, 0), (0, 9, 0), (0, 10, 0), (0, 11, 0), (0, 12, 0)] mixed (by kernel_rfl) ?_); simp only [↓List.toList_toArray, ↓rgd, ↓rgf, ↓reduceIte, Nat.reduceEqDiff, rg, ow_40, e0, ptr_eq, ix, M1]
  refine do_call fn_55 (by simp only [evt, evc, upd_eq, Nat.reduceEqDiff, ↓reduceIte, maT, maC, maN, isnN, isnS] <;> rfl) (set_any m d iso x hd hd' h _ 1 rfl (Nat.le_refl 1) b xs F _ m 2 (c2.ext (Ext.dr noF _ _) fun _ _ _ g => g) ((ht.ext X2 fun _ _ _ g => g).ext (Ext.dr noF _ _) fun _ _ _ g => g) ha hbig hm rt2 (hm 2)) ?_
  rintro v w3 ⟨x3, F', hF', hres⟩
  have s2' : w2.heap.size = w.heap.size + 1 := by omega
  refine ⟨.inr (keeps_on x3 fun y hy => ?_), ?_⟩
  · rw [sz_dr]
    simp only [List.mem_cons, List.not_mem_nil, or_false] at hy
    subst hy
    exact ⟨by omega, fun o g => by have := hFlt _ _ g; omega⟩
  have x3 := x3.od
  have hF3 : ∀ y o, F' y o → F y o ∨ w2.heap.size ≤ y := hF'
  have s3 := x3.size
  have X3 : Ext F w w3 := X2.trans x3 (fun _ _ g => g.elim) fun _ _ _ g => g
  have c3 := c2.ext x3 fun o _ _ => hm o
  have rt3 := x3.rd rt2 (hm 2)
  have ct3 := X3.rd hcnt (hm 3)
  have zv3 := vV_at c3.ez
  have hF'm : ∀ o, ¬ F' m o := fun o g => by
    rcases hF3 m o g with g | g
    · exact hm o g
    · omega
  rcases hres with ⟨rfl, hT', hh⟩ | ⟨rfl, hT'⟩
  · simp only [↓List.toList_toArray, ↓rgd, ↓rgf, ↓reduceIte, Nat.reduceEqDiff, rg, ow_40]
    refine hK _ _ ?_; clear hK K
    refine W_seq ?_
    refine W_sq fun K hK => (W_text [true] (by kernel_rfl) ?_); simp only [↓List.toList_toArray, ↓rgd, ↓rgf, ↓reduceIte, Nat.reduceEqDiff, rg, ow_40]
    refine hK _ _ ?_; clear hK K
    refine W_true (by simp only [evt, evc, upd_eq, Nat.reduceEqDiff, ↓reduceIte, ntT, ntF] <;> rfl) ?_
    refine W_sq fun K hK => (W_text [true, true, true, true, true] (by kernel_rfl) ?_); simp only [↓List.toList_toArray, ↓rgd, ↓rgf, ↓reduceIte, Nat.reduceEqDiff, rg, ow_40, e0, ptr_eq, rt3]
    refine hK _ _ ?_; clear hK K
    refine W_sq fun K hK => (W_text [true, true, false, true, true, true, false, true, false] (by kernel_rfl) ?_); simp only [↓List.toList_toArray, ↓rgd, ↓rgf, ↓reduceIte, Nat.reduceEqDiff, rg, ow_40, e0]
    refine do_call fn_56 (by simp only [evt, evc, upd_eq, Nat.reduceEqDiff, ↓reduceIte, maT, maC, maN, isnN, isnS] <;> rfl) (split_tr m d b h iso xs F' w3 hd hd' c3 hT' hF'm (by omega)) ?_
    rintro _ w4 ⟨rb, md, xl, xr, Fl, Fr, rfl, hxs, x4, hFl, hFr, hlr, tL, tR⟩
    refine ⟨trivial, ?_⟩
    simp only [↓List.toList_toArray, ↓rgd, ↓rgf, ↓reduceIte, Nat.reduceEqDiff, rg, ow_40]
    refine do_alloc z_it fun w5 n5 => ⟨trivial, ?_⟩
    simp only [↓List.toList_toArray, ↓rgd, ↓rgf, ↓reduceIte, Nat.reduceEqDiff, rg, ow_40]
    refine do_store (by simp only [evt, evc, upd_eq, Nat.reduceEqDiff, ↓reduceIte, ntT, ntF] <;> rfl) (by simp only [evt, evc, upd_eq, Nat.reduceEqDiff, ↓reduceIte, ntT, ntF] <;> rfl) sz_71 (itV_len md) n5.wok (by decide) (itV_oc md) fun w6 x6 r6 s6 => ⟨trivial, ?_⟩
    simp only [↓List.toList_toArray, ↓rgd, ↓rgf, ↓reduceIte, Nat.reduceEqDiff, rg, ow_40]
    refine hK _ _ ?_; clear hK K
    have s4 := x4.size
    have s5 := n5.size
    have X6 : Ext noF w4 w6 := noF_of n5.ext x6 fun y o hy h => by simp only [rng] at h; omega
    have c4 := c3.ext x4 fun o _ _ => hF'm o
    have c6 := c4.ext X6 fun _ _ _ h => h
    refine W_sq fun K hK => (W_text [true, true, false, true, true, false] (by kernel_rfl) ?_); simp only [↓List.toList_toArray, ↓rgd, ↓rgf, ↓reduceIte, Nat.reduceEqDiff, rg, ow_40, e0]
    refine do_call fn_54 (by simp only [evt, evc, upd_eq, Nat.reduceEqDiff, ↓reduceIte, maT, maC, maN, isnN, isnS] <;> rfl) (newNode_any m false iso w6 c6.iso) ?_
    rintro _ w7 ⟨b2, rfl, x7, nn⟩
    refine ⟨trivial, ?_⟩
    simp only [↓List.toList_toArray, ↓rgd, ↓rgf, ↓reduceIte, Nat.reduceEqDiff, rg, ow_40, ptr_eq]
    have c7 := c6.ext x7 fun _ _ _ h => h
    refine do_store (by simp only [evt, evc, upd_eq, Nat.reduceEqDiff, ↓reduceIte, ntT, ntF] <;> rfl) (by simp only [evt, evc, upd_eq, Nat.reduceEqDiff, ↓reduceIte, ntT, ntF] <;> rfl) sz_69 rfl (c7.wok.mono (by decide)) (Nat.le_refl 3) (oc_one rfl rfl) fun w8 x8 r8 s8 => ⟨trivial, ?_⟩
    simp only [↓List.toList_toArray, ↓rgd, ↓rgf, ↓reduceIte, Nat.reduceEqDiff, rg, ow_40]
    refine hK _ _ ?_; clear hK K
    obtain ⟨bc2, nk, nk1, nk2, nk3, nk4⟩ := nn.kids rfl
    have s7 := x7.size
    have nnge := nn.ge
    have rt8 : rd w8 m 2 = some (ptr b2) := (Row.cons.1 r8).1
    have c8 := c7.ext x8 fun o h2 _ g => h2 (by simp only [rng] at g; omega)
    have kp8 := x8.rd nk (by simp only [rng]; omega)
    have q1 : IntKind.i64.wrap (((2 * d - 1 : Nat) : Int) + 1) = ((2 * d : Nat) : Int) := by rw [wadd1 _ (by omega)]; congr 1; omega
    have M2 : readsB (some (some [m, b2])) m = true := by simp [readsB]
    have M3 : readsB (some (some [m, b2])) b2 = true := by simp [readsB]
    have hb2l := wok_lt nn.wb
    refine W_sq fun K hK => (W_draw (some (some [m, b2])) (some 14) [(0, 0, 0), (0, 1, 0), (0, 2, 0), (0, 3, 0), (0, 4, 0), (0, 5, 0), (0, 6, 0), (0, 7, 0), (0, 8, 0), (0, 9, 0), (0, 10, 0), (0, 11, 0), (1, 12, 0), (0, 13, 0), (1, 14, 0)] mixed (by kernel_rfl) ?_); simp only [↓List.toList_toArray, ↓rgd, ↓rgf, ↓reduceIte, Nat.reduceEqDiff, rg, ow_40, e0, ptr_eq, rt8, kp8, c8.mx, q1, M2, M3]
    refine do_make (n := 0) (c := 2 * d) (by simp only [evt, evc, upd_eq, Nat.reduceEqDiff, ↓reduceIte, ntT, ntF] <;> rfl) (by simp only [evt, evc, upd_eq, Nat.reduceEqDiff, ↓reduceIte, ntT, ntF] <;> rfl) el_kid rfl (by omega) (by omega) (by omega) fun w9 l9 hl9 n9 => ⟨.inr (keeps_on n9.ext fun y hy => ⟨?_, fun _ h => h⟩), ?_⟩
    · rw [sz_dr]
      simp only [List.mem_cons, List.not_mem_nil, or_false] at hy
      omega
    simp only [↓List.toList_toArray, ↓rgd, ↓rgf, ↓reduceIte, Nat.reduceEqDiff, rg, ow_40]
    have n9 := n9.od
    refine do_store (by simp only [evt, evc, upd_eq, Nat.reduceEqDiff, ↓reduceIte, ntT, ntF] <;> rfl) (by simp only [evt, evc, upd_eq, Nat.reduceEqDiff, ↓reduceIte, ntT, ntF] <;> rfl) sz_96 rfl (n9.ext.wok (x8.wok nk4)) (by decide) (oc_one rfl rfl) fun w10 x10 r10 s10 => ⟨.inl trivial, ?_⟩
    simp only [↓List.toList_toArray, ↓rgd, ↓rgf, ↓reduceIte, Nat.reduceEqDiff, rg, ow_40]
    refine hK _ _ ?_; clear hK K
    have rt10 : rd w10 m 2 = some (ptr b2) := x10.rd (n9.ext.rd rt8 fun h => h) (by simp only [rng]; omega)
    have kp10 : rd w10 b2 3 = some (ptr bc2) := x10.rd (n9.ext.rd kp8 fun h => h) (by simp only [rng]; omega)
    have wbc10 : wok w10 bc2 1 := x10.wok (n9.ext.wok (x8.wok nk4))
    have s9 := n9.size
    have hbc2l := wok_lt wbc10
    refine W_sq fun K hK => (W_draw (some (some [m, b2])) (some 13) [(0, 0, 0), (0, 1, 0), (0, 2, 0), (0, 3, 0), (0, 4, 0), (0, 5, 0), (0, 6, 0), (0, 8, 0), (0, 9, 0), (2, 7, 10), (1, 11, 0), (0, 12, 0), (1, 13, 0)] mixed (by kernel_rfl) ?_); simp only [↓List.toList_toArray, ↓rgd, ↓rgf, ↓reduceIte, Nat.reduceEqDiff, rg, ow_40, e0, ptr_eq, rt10, kp10, M2, M3]
    have rest : ∀ e' w', e' 0 = ptr m → e' 8 = .pointer (some ⟨w.heap.size, 0, none⟩) → e' 14 = .pointer (some ⟨w4.heap.size, 0, none⟩) → Ext (rng bc2 0 1) w10 w' →
        (∃ ba2 cap2, rd w' bc2 0 = some (.slice (some ⟨ba2, 0, none⟩) 2 cap2) ∧ 2 ≤ cap2 ∧ Row w' ba2 0 [ptr b, ptr rb] ∧ wok w' ba2 cap2 ∧ w10.heap.size ≤ ba2) → K e' w' := by
      intro e' w14 f0 f8 f14 x14 ⟨ba2, cap2, q0, q2, q3, q4, q5⟩
      refine hK _ _ ?_; clear hK K
      have s10' := x10.size
      have s14 := x14.size
      have rt14 : rd w14 m 2 = some (ptr b2) := x14.rd rt10 (by simp only [rng]; omega)
      have rm14 : Row w14 w4.heap.size 0 (E.cel md) := x14.row (x10.row (n9.ext.row (x8.row (x7.row r6 fun _ _ h => h) fun j _ h => by simp only [rng] at h; omega) fun _ _ h => h) fun j _ h => by simp only [rng] at h; omega) fun j _ h => by simp only [rng] at h; omega
      have im14 := iA_at rm14
      have wb14 : wok w14 b2 4 := x14.wok (x10.wok (n9.ext.wok (x8.wok nn.wb)))
      have M4 : readsB (some (some [m, w4.heap.size])) m = true := by simp [readsB]
      have M5 : readsB (some (some [m, w4.heap.size])) w4.heap.size = true := by simp [readsB]
      have s8' := x8.size
      have s6' : w6.heap.size = w4.heap.size + 1 := by omega
      refine W_sq fun K hK => (W_draw (some (some [m, w4.heap.size])) (some 10) [(0, 0, 0), (0, 1, 0), (0, 2, 0), (0, 3, 0), (0, 5, 0), (2, 4, 6), (1, 7, 0), (0, 8, 0), (0, 9, 0), (1, 10, 0)] mixed (by kernel_rfl) ?_); simp only [↓List.toList_toArray, ↓rgd, ↓rgf, ↓reduceIte, Nat.reduceEqDiff, rg, ow_40, f0, f14, ptr_eq, rt14, im14, M4, M5]
      have rest2 : ∀ e'' w', e'' 0 = ptr m → e'' 8 = .pointer (some ⟨w.heap.size, 0, none⟩) → Ext (rng b2 2 1) w14 w' →
          (∃ bi2 cap3, rd w' b2 2 = some (.slice (some ⟨bi2, 0, none⟩) 1 cap3) ∧ 1 ≤ cap3 ∧ Row w' bi2 0 (E.cel md) ∧ wok w' bi2 (cap3 * 2) ∧ w14.heap.size ≤ bi2) → K e'' w' := by
        intro e'' w18 f0 f8 x18 ⟨bi2, cap3, p0, p2, p3, p4, p5⟩
        refine hK _ _ ?_; clear hK K
        have s18 := x18.size
        have hb4 : b < w4.heap.size := tL.lt _ _ (tL.self 0)
        have hrb4 : rb < w4.heap.size := tR.lt _ _ (tR.self 0)
        have hba18 := wok_lt (x18.wok q4)
        have hba14 := wok_lt q4
        have hbi18 := wok_lt p4
        have T18 : Ext (fun y o => (y = m ∧ o = 2) ∨ w4.heap.size ≤ y) w4 w18 := by
          refine ((((((X6.trans x7 (H := fun y o => (y = m ∧ o = 2) ∨ w4.heap.size ≤ y) (fun _ _ g => g.elim) fun _ _ _ g => g.elim).trans x8 (fun _ _ g => g) fun y o _ g => ?_).trans n9.ext (fun _ _ g => g) fun _ _ _ g => g.elim).trans x10 (fun _ _ g => g) fun y o _ g => ?_).trans x14 (fun _ _ g => g) fun y o _ g => ?_).trans x18 (fun _ _ g => g) fun y o _ g => ?_)
          all_goals simp only [rng] at g; omega
        have hFlm : ∀ y o, Fl y o → ¬ ((y = m ∧ o = 2) ∨ w4.heap.size ≤ y) := fun y o g k => by
          rcases k with ⟨rfl, _⟩ | k
          · exact hF'm _ (hFl _ _ g)
          · have := tL.lt _ _ g; omega
        have hFrm' : ∀ o, ¬ Fr m o := fun o g => by
          rcases hFr _ _ g with g | g
          · exact hF'm _ g
          · omega
        have hFrm : ∀ y o, Fr y o → ¬ ((y = m ∧ o = 2) ∨ w4.heap.size ≤ y) := fun y o g k => by
          rcases k with ⟨rfl, _⟩ | k
          · exact hFrm' _ g
          · have := tR.lt _ _ g; omega
        have tL18 := tL.ext T18 hFlm
        have tR18 := tR.ext T18 hFrm
        have kp18 : rd w18 b2 3 = some (ptr bc2) := x18.rd (x14.rd kp10 (by simp only [rng]; omega)) (by simp only [rng]; omega)
        have K18 : Kids w18 bc2 ba2 0 cap2 [b, rb] := ⟨x18.rd q0 (by simp only [rng]; omega), x18.wok (x14.wok wbc10), x18.row q3 fun j _ h => by simp only [rng] at h; omega, by rw [Nat.zero_add]; exact x18.wok q4, q2, by omega⟩
        have wb18 := x18.wok wb14
        have rt18 : rd w18 m 2 = some (ptr b2) := x18.rd rt14 (by simp only [rng]; omega)
        have hcn : cntP (cnW w18) [b, rb] = xl.length + xr.length := by simp [cntP, cnW_eq tL18.cnt, cnW_eq tR18.cnt]
        have hxl : xs.length = xl.length + 1 + xr.length := by rw [hxs]; simp; omega
        refine W_sq fun K hK => (W_text [true, true, true, true, false] (by kernel_rfl) ?_); simp only [↓List.toList_toArray, ↓rgd, ↓rgf, ↓reduceIte, Nat.reduceEqDiff, rg, ow_40, f0, ptr_eq, rt18]
        refine do_call fn_57 (by simp only [evt, evc, upd_eq, Nat.reduceEqDiff, ↓reduceIte, maT, maC, maN, isnN, isnS] <;> rfl) (count_kids b2 1 cap3 bc2 ba2 0 cap2 _ [b, rb] (cnW w18) w18 p0 kp18 wb18 K18 (by omega) (by omega) (fun p hp => by
          simp only [List.mem_cons, List.not_mem_nil, or_false] at hp
          rcases hp with rfl | rfl
          · exact ⟨by rw [cnW_eq tL18.cnt]; exact tL18.cnt, by omega⟩
          · exact ⟨by rw [cnW_eq tR18.cnt]; exact tR18.cnt, by omega⟩) (by omega) (by simp)) ?_
        rintro _ w19 ⟨x19, d1, s19⟩
        refine ⟨trivial, ?_⟩
        simp only [↓List.toList_toArray, ↓rgd, ↓rgf, ↓reduceIte, Nat.reduceEqDiff, rg, ow_40]
        refine hK _ _ ?_; clear hK K
        rw [hcn] at d1
        have T19 : Ext (fun y o => (y = m ∧ o = 2) ∨ w4.heap.size ≤ y) w4 w19 := T18.trans x19 (fun _ _ g => g) fun y o _ g => by simp only [rng] at g; omega
        have c19 := c4.ext T19 fun o h2 _ g => by
          rcases g with g | g
          · exact h2 g.2
          · have := wok_lt c4.wok; omega
        have ct19 : rd w19 m 3 = some (.int .i64 xs.length) := T19.rd (x4.rd ct3 (hF'm 3)) fun g => by omega
        have rx19 : Row w19 w.heap.size 0 (E.cel x) := T19.row (x4.row (x3.row rx fun j _ g => by have := hFlt _ _ g; omega) fun j _ g => by
          rcases hF3 _ _ g with g | g
          · have := hFlt _ _ g; omega
          · omega) fun j _ g => by omega
        have kx19 := kV_at rx19
        have vx19 := vV_at rx19
        have own19 : Own E w19 b2 iso xs.length bi2 0 cap3 [md] (ptr bc2) := by
          have h0 := x19.rd (x18.rd (x14.rd (x10.rd (n9.ext.rd (x8.rd nn.h0 (by simp only [rng]; omega)) fun h => h) (by simp only [rng]; omega)) (by simp only [rng]; omega)) (by simp only [rng]; omega)) (by simp only [rng]; omega)
          refine ⟨h0, ?_, x19.rd p0 (by simp only [rng]; omega), x19.rd kp18 (by simp only [rng]; omega), x19.wok wb18, ?_, by rw [Nat.zero_add]; exact x19.wok p4, p2, by omega⟩
          · rw [d1, hxl]; congr 3; omega
          · rw [flat_one]; exact x19.row p3 fun j _ h => by simp only [rng] at h; omega
        have K19 := K18.ext x19 fun y o g h => by simp only [kidF, rng] at g h; omega
        have tL19 := tL.ext T19 hFlm
        have tR19 := tR.ext T19 hFrm
        have tr19 : Tr E iso (d - 1) (2 * d - 1) (h + 1) w19 1 b2 xs (fun y o => ownF E b2 bi2 0 cap3 y o ∨ kidF bc2 ba2 0 cap2 y o ∨ ∃ c ∈ [Kid.mk b xl Fl, Kid.mk rb xr Fr], c.F y o) := by
          refine ⟨bi2, 0, cap3, bc2, ba2, 0, cap2, [md], [Kid.mk b xl Fl, Kid.mk rb xr Fr], own19, K19, Nat.le_refl _, (by show 1 ≤ 2 * d - 1; omega), rfl, hxs, ?_, ⟨nk2, by omega, by omega, by omega, ?_, ?_, ?_⟩, fun _ _ => Iff.rfl⟩
          · intro c hc
            simp only [List.mem_cons, List.not_mem_nil, or_false] at hc
            rcases hc with rfl | rfl
            · exact tL19
            · exact tR19
          · intro c hc y o g k
            have : y < w4.heap.size := by
              simp only [List.mem_cons, List.not_mem_nil, or_false] at hc
              rcases hc with rfl | rfl
              · exact tL.lt _ _ g
              · exact tR.lt _ _ g
            simp only [ownF, rng] at k; omega
          · intro c hc y o g k
            have : y < w4.heap.size := by
              simp only [List.mem_cons, List.not_mem_nil, or_false] at hc
              rcases hc with rfl | rfl
              · exact tL.lt _ _ g
              · exact tR.lt _ _ g
            simp only [kidF, rng] at k; omega
          · exact List.pairwise_cons.2 ⟨fun c hc y o g k => by
              simp only [List.mem_cons, List.not_mem_nil, or_false] at hc
              subst hc; exact hlr y o g k, List.pairwise_singleton _ _⟩
        have hF2 : ∀ y o, (ownF E b2 bi2 0 cap3 y o ∨ kidF bc2 ba2 0 cap2 y o ∨ ∃ c ∈ [Kid.mk b xl Fl, Kid.mk rb xr Fr], c.F y o) → y ≠ m ∧ (F y o ∨ w2.heap.size ≤ y) := by
          have hF'2 : ∀ y o, F' y o → y ≠ m ∧ (F y o ∨ w2.heap.size ≤ y) := fun y o g => ⟨fun k => hF'm o (k ▸ g), hF3 y o g⟩
          rintro y o (g | g | ⟨c, hc, g⟩)
          · simp only [ownF, rng] at g; omega
          · simp only [kidF, rng] at g; omega
          · simp only [List.mem_cons, List.not_mem_nil, or_false] at hc
            rcases hc with rfl | rfl
            · exact hF'2 y o (hFl y o g)
            · rcases hFr y o g with g | g
              · exact hF'2 y o g
              · exact ⟨by omega, .inr (by omega)⟩
        refine W_sq fun K hK => (W_text [true, true, true, true, true, false, true, true, true, true] (by kernel_rfl) ?_); simp only [↓List.toList_toArray, ↓rgd, ↓rgf, ↓reduceIte, Nat.reduceEqDiff, rg, ow_40, f0, f8, kx19, vx19]
        refine do_call fn_40 (by simp only [evt, evc, upd_eq, Nat.reduceEqDiff, ↓reduceIte, maT, maC, maN, isnN, isnS] <;> rfl) (ih (xs.length - (h + 1)) (by omega) (h + 1) b2 xs _ w19 rfl c19 ct19 ha (x19.rd rt18 (by simp only [rng]; omega)) tr19 (fun o g => (hF2 _ _ g).1 rfl) hbig) ?_
        rintro _ w20 ⟨rfl, x20, F'', hM, hF''⟩
        refine ⟨trivial, ?_⟩
        simp only [↓List.toList_toArray, ↓rgd, ↓rgf, ↓reduceIte, Nat.reduceEqDiff, rg, ow_40]
        refine hK _ _ ?_; clear hK K
        have s20 := x20.size
        refine W_ret ?_
        simp only [andThen_ret]
        refine endQ_2 (by simp only [upd_eq, Nat.reduceEqDiff, ↓reduceIte] <;> rfl) (by simp only [upd_eq, Nat.reduceEqDiff, ↓reduceIte] <;> rfl) ⟨rfl, ?_, F'', hM, fun y o g => ?_⟩
        · refine (((X3.trans x4 (H := mapF m F) (fun _ _ g => .inl g) fun y o hy g => ?_).trans T19 (fun _ _ g => g) fun y o hy g => ?_).trans x20 (fun _ _ g => g) fun y o hy g => ?_)
          · rcases hF3 y o g with g | g
            · exact .inl g
            · omega
          · rcases g with g | g
            · exact .inr ⟨g.1, .inl g.2⟩
            · omega
          · rcases g with g | g
            · rcases (hF2 y o g).2 with g | g
              · exact .inl g
              · omega
            · exact .inr g
        · rcases hF'' y o g with g | g
          · exact (hF2 y o g).2.imp id fun g => by omega
          · exact .inr (by omega)
      constructor
      · refine do_bsl rfl bs_it0 fun w15 n15 => ⟨.inr (keep2 n15.ext ⟨by rw [sz_dr]; omega, fun _ h => h⟩ ⟨by rw [sz_dr]; omega, fun _ h => h⟩), ?_⟩
        simp only [↓List.toList_toArray, ↓rgd, ↓rgf, ↓reduceIte, Nat.reduceEqDiff, rg, ow_40]
        have n15 := n15.od
        have s15 := n15.size
        refine do_bsl rfl (bs_it1 md) fun w16 n16 => ⟨.inr (keep2 n16.ext ⟨by omega, fun _ h => h⟩ ⟨by omega, fun _ h => h⟩), ?_⟩
        simp only [↓List.toList_toArray, ↓rgd, ↓rgf, ↓reduceIte, Nat.reduceEqDiff, rg, ow_40]
        have s16 := n16.size
        have hv : SlV w16 2 (.slice (some ⟨w14.heap.size, 0, none⟩) 0 0) 0 [] := ⟨rfl, .inr ⟨_, 0, 0, rfl, Nat.le_refl _, Row.nil _ _ _, (n16.ext.wok n15.wok).R (Nat.le_refl _)⟩⟩
        have hu : SlV w16 2 (.slice (some ⟨w15.heap.size, 0, none⟩) 1 1) 1 (E.cel md) := ⟨rfl, .inr ⟨_, 0, 1, rfl, Nat.le_refl _, n16.row, n16.wok.R (Nat.le_refl _)⟩⟩
        have X16 : Ext noF w14 w16 := n15.ext.tr n16.ext
        refine do_append (by simp only [evt, evc, upd_eq, Nat.reduceEqDiff, ↓reduceIte, ntT, ntF] <;> rfl) (by simp only [evt, evc, upd_eq, Nat.reduceEqDiff, ↓reduceIte, ntT, ntF] <;> rfl) el_it rfl ni_87 hv hu (by omega) (by decide) (E.one md) fun v17 w17 a17 => ?_
        obtain ⟨cap3, rfl, hcap3, row17, wok17, x17, s17⟩ := app_new a17 (by omega)
        refine ⟨.inr (keep2 x17 ⟨by omega, fun _ h => h⟩ ⟨by omega, fun _ h => h⟩), ?_⟩
        simp only [↓List.toList_toArray, ↓rgd, ↓rgf, ↓reduceIte, Nat.reduceEqDiff, rg, ow_40, ptr_eq]
        refine do_store (by simp only [evt, evc, upd_eq, Nat.reduceEqDiff, ↓reduceIte, ntT, ntF] <;> rfl) (by simp only [evt, evc, upd_eq, Nat.reduceEqDiff, ↓reduceIte, ntT, ntF] <;> rfl) sz_87 rfl (x17.wok (X16.wok wb14)) (by decide) (oc_one rfl rfl) fun w18 x18 r18 s18 => ⟨.inl trivial, ?_⟩
        simp only [↓List.toList_toArray, ↓rgd, ↓rgf, ↓reduceIte, Nat.reduceEqDiff, rg, ow_40]
        refine rest2 _ _ (by simp only [upd_eq, Nat.reduceEqDiff, ↓reduceIte]; exact f0) (by simp only [upd_eq, Nat.reduceEqDiff, ↓reduceIte]; exact f8) (((X16.tr x17).mono fun _ _ _ g => g.elim).tr x18) ⟨w16.heap.size, cap3, (Row.cons.1 r18).1, hcap3, x18.row row17 fun j _ h => by simp only [rng] at h; omega, x18.wok wok17, by omega⟩
      · refine do_bsl rfl (bs_it1 md) fun w15 n15 => ⟨.inr (keep2 n15.ext ⟨by rw [sz_dr]; omega, fun _ h => h⟩ ⟨by rw [sz_dr]; omega, fun _ h => h⟩), ?_⟩
        simp only [↓List.toList_toArray, ↓rgd, ↓rgf, ↓reduceIte, Nat.reduceEqDiff, rg, ow_40]
        have n15 := n15.od
        have s15 := n15.size
        refine do_bsl rfl bs_it0 fun w16 n16 => ⟨.inr (keep2 n16.ext ⟨by omega, fun _ h => h⟩ ⟨by omega, fun _ h => h⟩), ?_⟩
        simp only [↓List.toList_toArray, ↓rgd, ↓rgf, ↓reduceIte, Nat.reduceEqDiff, rg, ow_40]
        have s16 := n16.size
        have hv : SlV w16 2 (.slice (some ⟨w15.heap.size, 0, none⟩) 0 0) 0 [] := ⟨rfl, .inr ⟨_, 0, 0, rfl, Nat.le_refl _, Row.nil _ _ _, n16.wok.R (Nat.le_refl _)⟩⟩
        have hu : SlV w16 2 (.slice (some ⟨w14.heap.size, 0, none⟩) 1 1) 1 (E.cel md) := ⟨rfl, .inr ⟨_, 0, 1, rfl, Nat.le_refl _, n16.ext.row n15.row fun _ _ h => h, (n16.ext.wok n15.wok).R (Nat.le_refl _)⟩⟩
        have X16 : Ext noF w14 w16 := n15.ext.tr n16.ext
        refine do_append (by simp only [evt, evc, upd_eq, Nat.reduceEqDiff, ↓reduceIte, ntT, ntF] <;> rfl) (by simp only [evt, evc, upd_eq, Nat.reduceEqDiff, ↓reduceIte, ntT, ntF] <;> rfl) el_it rfl ni_87 hv hu (by omega) (by decide) (E.one md) fun v17 w17 a17 => ?_
        obtain ⟨cap3, rfl, hcap3, row17, wok17, x17, s17⟩ := app_new a17 (by omega)
        refine ⟨.inr (keep2 x17 ⟨by omega, fun _ h => h⟩ ⟨by omega, fun _ h => h⟩), ?_⟩
        simp only [↓List.toList_toArray, ↓rgd, ↓rgf, ↓reduceIte, Nat.reduceEqDiff, rg, ow_40, ptr_eq]
        refine do_store (by simp only [evt, evc, upd_eq, Nat.reduceEqDiff, ↓reduceIte, ntT, ntF] <;> rfl) (by simp only [evt, evc, upd_eq, Nat.reduceEqDiff, ↓reduceIte, ntT, ntF] <;> rfl) sz_87 rfl (x17.wok (X16.wok wb14)) (by decide) (oc_one rfl rfl) fun w18 x18 r18 s18 => ⟨.inl trivial, ?_⟩
        simp only [↓List.toList_toArray, ↓rgd, ↓rgf, ↓reduceIte, Nat.reduceEqDiff, rg, ow_40]
        refine rest2 _ _ (by simp only [upd_eq, Nat.reduceEqDiff, ↓reduceIte]; exact f0) (by simp only [upd_eq, Nat.reduceEqDiff, ↓reduceIte]; exact f8) (((X16.tr x17).mono fun _ _ _ g => g.elim).tr x18) ⟨w16.heap.size, cap3, (Row.cons.1 r18).1, hcap3, x18.row row17 fun j _ h => by simp only [rng] at h; omega, x18.wok wok17, by omega⟩
    constructor
    · refine do_bsl rfl bs_kid0 fun w11 n11 => ⟨.inr (keep2 n11.ext ⟨by rw [sz_dr]; omega, fun _ h => h⟩ ⟨by rw [sz_dr]; omega, fun _ h => h⟩), ?_⟩
      simp only [↓List.toList_toArray, ↓rgd, ↓rgf, ↓reduceIte, Nat.reduceEqDiff, rg, ow_40]
      have n11 := n11.od
      have s11 := n11.size
      refine do_bsl rfl (bs_kid2 b rb) fun w12 n12 => ⟨.inr (keep2 n12.ext ⟨by omega, fun _ h => h⟩ ⟨by omega, fun _ h => h⟩), ?_⟩
      simp only [↓List.toList_toArray, ↓rgd, ↓rgf, ↓reduceIte, Nat.reduceEqDiff, rg, ow_40]
      have s12 := n12.size
      have hv : SlV w12 1 (.slice (some ⟨w10.heap.size, 0, none⟩) 0 0) 0 [] := ⟨rfl, .inr ⟨_, 0, 0, rfl, Nat.le_refl _, Row.nil _ _ _, (n12.ext.wok n11.wok).R (Nat.le_refl _)⟩⟩
      have hu : SlV w12 1 (.slice (some ⟨w11.heap.size, 0, none⟩) 2 2) 2 [ptr b, ptr rb] := ⟨rfl, .inr ⟨_, 0, 2, rfl, Nat.le_refl _, n12.row, n12.wok.R (Nat.le_refl _)⟩⟩
      have X12 : Ext noF w10 w12 := n11.ext.tr n12.ext
      refine do_append (by simp only [evt, evc, upd_eq, Nat.reduceEqDiff, ↓reduceIte, ntT, ntF] <;> rfl) (by simp only [evt, evc, upd_eq, Nat.reduceEqDiff, ↓reduceIte, ntT, ntF] <;> rfl) el_kid rfl ni_96 hv hu (by omega) (by decide) (by intro v hv; simp at hv; rcases hv with rfl | rfl <;> rfl) fun v13 w13 a13 => ?_
      obtain ⟨cap2, rfl, hcap2, row13, wok13, x13, s13⟩ := app_new a13 (by omega)
      refine ⟨.inr (keep2 x13 ⟨by omega, fun _ h => h⟩ ⟨by omega, fun _ h => h⟩), ?_⟩
      simp only [↓List.toList_toArray, ↓rgd, ↓rgf, ↓reduceIte, Nat.reduceEqDiff, rg, ow_40]
      refine do_store (by simp only [evt, evc, upd_eq, Nat.reduceEqDiff, ↓reduceIte, ntT, ntF] <;> rfl) (by simp only [evt, evc, upd_eq, Nat.reduceEqDiff, ↓reduceIte, ntT, ntF] <;> rfl) sz_96 rfl (x13.wok (X12.wok wbc10)) (by decide) (oc_one rfl rfl) fun w14 x14 r14 s14 => ⟨.inl trivial, ?_⟩
      simp only [↓List.toList_toArray, ↓rgd, ↓rgf, ↓reduceIte, Nat.reduceEqDiff, rg, ow_40]
      refine rest _ _ (by simp only [upd_eq, Nat.reduceEqDiff, ↓reduceIte]; exact e0) (by simp only [upd_eq, Nat.reduceEqDiff, ↓reduceIte] <;> rfl) (by simp only [upd_eq, Nat.reduceEqDiff, ↓reduceIte] <;> rfl) (((X12.tr x13).mono fun _ _ _ g => g.elim).tr x14) ⟨w12.heap.size, cap2, (Row.cons.1 r14).1, hcap2, x14.row row13 fun j _ h => by simp only [rng] at h; omega, by have := x14.wok wok13; rwa [Nat.mul_one] at this, by omega⟩
    · refine do_bsl rfl (bs_kid2 b rb) fun w11 n11 => ⟨.inr (keep2 n11.ext ⟨by rw [sz_dr]; omega, fun _ h => h⟩ ⟨by rw [sz_dr]; omega, fun _ h => h⟩), ?_⟩
      simp only [↓List.toList_toArray, ↓rgd, ↓rgf, ↓reduceIte, Nat.reduceEqDiff, rg, ow_40]
      have n11 := n11.od
      have s11 := n11.size
      refine do_bsl rfl bs_kid0 fun w12 n12 => ⟨.inr (keep2 n12.ext ⟨by omega, fun _ h => h⟩ ⟨by omega, fun _ h => h⟩), ?_⟩
      simp only [↓List.toList_toArray, ↓rgd, ↓rgf, ↓reduceIte, Nat.reduceEqDiff, rg, ow_40]
      have s12 := n12.size
      have hv : SlV w12 1 (.slice (some ⟨w11.heap.size, 0, none⟩) 0 0) 0 [] := ⟨rfl, .inr ⟨_, 0, 0, rfl, Nat.le_refl _, Row.nil _ _ _, n12.wok.R (Nat.le_refl _)⟩⟩
      have hu : SlV w12 1 (.slice (some ⟨w10.heap.size, 0, none⟩) 2 2) 2 [ptr b, ptr rb] := ⟨rfl, .inr ⟨_, 0, 2, rfl, Nat.le_refl _, n12.ext.row n11.row fun _ _ h => h, (n12.ext.wok n11.wok).R (Nat.le_refl _)⟩⟩
      have X12 : Ext noF w10 w12 := n11.ext.tr n12.ext
      refine do_append (by simp only [evt, evc, upd_eq, Nat.reduceEqDiff, ↓reduceIte, ntT, ntF] <;> rfl) (by simp only [evt, evc, upd_eq, Nat.reduceEqDiff, ↓reduceIte, ntT, ntF] <;> rfl) el_kid rfl ni_96 hv hu (by omega) (by decide) (by intro v hv; simp at hv; rcases hv with rfl | rfl <;> rfl) fun v13 w13 a13 => ?_
      obtain ⟨cap2, rfl, hcap2, row13, wok13, x13, s13⟩ := app_new a13 (by omega)
      refine ⟨.inr (keep2 x13 ⟨by omega, fun _ h => h⟩ ⟨by omega, fun _ h => h⟩), ?_⟩
      simp only [↓List.toList_toArray, ↓rgd, ↓rgf, ↓reduceIte, Nat.reduceEqDiff, rg, ow_40]
      refine do_store (by simp only [evt, evc, upd_eq, Nat.reduceEqDiff, ↓reduceIte, ntT, ntF] <;> rfl) (by simp only [evt, evc, upd_eq, Nat.reduceEqDiff, ↓reduceIte, ntT, ntF] <;> rfl) sz_96 rfl (x13.wok (X12.wok wbc10)) (by decide) (oc_one rfl rfl) fun w14 x14 r14 s14 => ⟨.inl trivial, ?_⟩
      simp only [↓List.toList_toArray, ↓rgd, ↓rgf, ↓reduceIte, Nat.reduceEqDiff, rg, ow_40]
      refine rest _ _ (by simp only [upd_eq, Nat.reduceEqDiff, ↓reduceIte]; exact e0) (by simp only [upd_eq, Nat.reduceEqDiff, ↓reduceIte] <;> rfl) (by simp only [upd_eq, Nat.reduceEqDiff, ↓reduceIte] <;> rfl) (((X12.tr x13).mono fun _ _ _ g => g.elim).tr x14) ⟨w12.heap.size, cap2, (Row.cons.1 r14).1, hcap2, x14.row row13 fun j _ h => by simp only [rng] at h; omega, by have := x14.wok wok13; rwa [Nat.mul_one] at this, by omega⟩
  · simp only [↓List.toList_toArray, ↓rgd, ↓rgf, ↓reduceIte, Nat.reduceEqDiff, rg, ow_40]
    refine hK _ _ ?_; clear hK K
    refine W_seq ?_
    refine W_sq fun K hK => (W_text [true] (by kernel_rfl) ?_); simp only [↓List.toList_toArray, ↓rgd, ↓rgf, ↓reduceIte, Nat.reduceEqDiff, rg, ow_40]
    refine hK _ _ ?_; clear hK K
    refine W_false (by simp only [evt, evc, upd_eq, Nat.reduceEqDiff, ↓reduceIte, ntT, ntF] <;> rfl) (W_skip ?_)
    show W _ _ _ _ _ _
    refine W_seq ?_
    have hpl := put_length O κ x xs
    have hpa := put_asc O κ (x := x) ha
    cases hh2 : hit O κ (κ x) xs with
    | true =>
      rw [hh2] at hpl
      refine W_sq fun K hK => (W_text [true] (by kernel_rfl) ?_); simp only [↓List.toList_toArray, ↓rgd, ↓rgf, ↓reduceIte, Nat.reduceEqDiff, rg, ow_40]
      refine hK _ _ ?_; clear hK K
      refine W_true (by simp only [evt, evc, upd_eq, Nat.reduceEqDiff, ↓reduceIte, ntT, ntF] <;> rfl) ?_
      refine W_sq fun K hK => (W_text [true, true, true] (by kernel_rfl) ?_); simp only [↓List.toList_toArray, ↓rgd, ↓rgf, ↓reduceIte, Nat.reduceEqDiff, rg, ow_40]
      refine hK _ _ ?_; clear hK K
      refine W_ret ?_
      simp only [andThen_ret]
      exact (endQ_2 (by simp only [upd_eq, Nat.reduceEqDiff, ↓reduceIte] <;> rfl) (by simp only [upd_eq, Nat.reduceEqDiff, ↓reduceIte] <;> rfl) ⟨rfl, X3.mono fun _ _ _ g => .inl g, F', ⟨c3, by rw [hpl]; exact ct3, hpa, .inr ⟨h, b, rt3, hT'⟩, hF'm, hT'.lt⟩, fun y o g => (hF3 y o g).imp id fun g => by omega⟩)
    | false =>
      rw [hh2] at hpl
      have q1 := wadd1 xs.length (by omega)
      refine W_sq fun K hK => (W_text [true] (by kernel_rfl) ?_); simp only [↓List.toList_toArray, ↓rgd, ↓rgf, ↓reduceIte, Nat.reduceEqDiff, rg, ow_40]
      refine hK _ _ ?_; clear hK K
      refine W_false (by simp only [evt, evc, upd_eq, Nat.reduceEqDiff, ↓reduceIte, ntT, ntF] <;> rfl) (W_skip ?_)
      show W _ _ _ _ _ _
      refine W_sq fun K hK => (W_text [true, true, true, true, true, true, true, false] (by kernel_rfl) ?_); simp only [↓List.toList_toArray, ↓rgd, ↓rgf, ↓reduceIte, Nat.reduceEqDiff, rg, ow_40, e0, ptr_eq, ct3, q1]
      refine do_store (by simp only [evt, evc, upd_eq, Nat.reduceEqDiff, ↓reduceIte, ntT, ntF] <;> rfl) (by simp only [evt, evc, upd_eq, Nat.reduceEqDiff, ↓reduceIte, ntT, ntF] <;> rfl) sz_3 rfl c3.wok (by decide) (oc_one rfl rfl) fun w4 x4 r4 s4 => ⟨trivial, ?_⟩
      simp only [↓List.toList_toArray, ↓rgd, ↓rgf, ↓reduceIte, Nat.reduceEqDiff, rg, ow_40]
      refine hK _ _ ?_; clear hK K
      have c4 := c3.ext x4 fun o _ h3 g => h3 (by simp only [rng] at g; omega)
      have zv4 := vV_at c4.ez
      refine W_sq fun K hK => (W_text [true, true, true, true, true, true, true] (by kernel_rfl) ?_); simp only [↓List.toList_toArray, ↓rgd, ↓rgf, ↓reduceIte, Nat.reduceEqDiff, rg, ow_40, e0, ptr_eq, zv4]
      refine hK _ _ ?_; clear hK K
      have hat : at? O κ (κ x) xs = none := by unfold at?; rw [hh2]; rfl
      refine W_ret (endQ_2 (by simp only [upd_eq, Nat.reduceEqDiff, ↓reduceIte] <;> rfl) (by simp only [upd_eq, Nat.reduceEqDiff, ↓reduceIte] <;> rfl) ⟨by rw [hat]; rfl, X3.trans x4 (fun _ _ g => .inl g) fun y o _ g => .inr ⟨g.1, by simp only [rng] at g; omega⟩, F', ⟨c4, ?_, hpa, .inr ⟨h, b, x4.rd rt3 (by simp only [rng]; omega), ?_⟩, hF'm, fun y o g => ?_⟩,
        fun y o g => (hF3 y o g).imp id fun g => by omega⟩)
      · rw [hpl]; exact (Row.cons.1 r4).1
      · exact hT'.ext x4 fun y o g k => hF'm o (by simp only [rng] at k; rw [← k.1]; exact g)
      · have := hT'.lt y o g; omega
set_option maxHeartbeats 400000 in
set_option maxRecDepth 8000 in
theorem init_again (m d : Nat) (iso : Int) (hd : 2 ≤ d) (v : Value) (w : World) (hc : Cfg w m iso d) : CallK Try.prog 53 #[ptr m, v] w fun _ w' => w = w' := by
  refine calls_of_W [] Try.func53 rfl Try.ntmps53 Try.results53 (by simp) fun e he => ?_
  have e0 : e 0 = ptr m := he 0 _ rfl
  clear he
  have t1 : (((d - 1 : Nat) : Int) != 0) = true := by simp; omega
  refine W_seq ?_
  refine W_sq fun K hK => (W_text [true, true, true, true, true] (by kernel_rfl) ?_); simp only [↓List.toList_toArray, ↓rgd, ↓rgf, ↓reduceIte, Nat.reduceEqDiff, rg, ow_53, e0, ptr_eq, hc.mn, t1]
  refine hK _ _ ?_; clear hK K
  refine W_true (by simp only [evt, evc, upd_eq, Nat.reduceEqDiff, ↓reduceIte, ntT, ntF] <;> rfl) (W_ret ?_)
  simp only [andThen_ret]
  exact endQ_0 rfl
set_option maxHeartbeats 1000000 in
set_option maxRecDepth 8000 in
/-- Setting in an empty map. -/
theorem set_nil' (m d : Nat) (iso : Int) (x : It) (hd : 2 ≤ d) (hd' : d ≤ 128) (w : World) (I : Nat → Nat → Prop) (hI : ∀ y o, I y o → y = m)
    (hinit : ∀ w1, Ext noF w w1 → CallK Try.prog 53 #[ptr m, .int .i64 0] w1 fun _ w' => Ext I w1 w' ∧ Cfg w' m iso d ∧ w'.heap.size = w1.heap.size) (hroot : rd w m 2 = some (.pointer none)) :
    CallK Try.prog 40 #[ptr m, kV x.1, vV x] w fun v w' => v = .tuple #[vV zIt, .bool false] ∧ Ext (fun y o => mapF m noF y o ∨ I y o) w w' ∧ ∃ F', MapAt w' m d iso [x] F' ∧ ∀ y o, F' y o → w.heap.size ≤ y := by
  have hml := rd_lt hroot
  refine calls_of_W [.tmp 6, .tmp 7] Try.func40 rfl Try.ntmps40 Try.results40 (by simp) fun e he => ?_
  have e0 : e 0 = ptr m := he 0 _ rfl
  have e1 : e 1 = kV x.1 := he 1 _ rfl
  have e2 : e 2 = .int .i64 x.2 := he 2 _ rfl
  clear he
  refine W_sq fun K hK => (W_text [true, true] (by kernel_rfl) ?_); simp only [↓List.toList_toArray, ↓rgd, ↓rgf, ↓reduceIte, Nat.reduceEqDiff, rg, ow_40]
  refine hK _ _ ?_; clear hK K
  refine W_sq fun K hK => (W_text [true, true, true, false, false] (by kernel_rfl) ?_); simp only [↓List.toList_toArray, ↓rgd, ↓rgf, ↓reduceIte, Nat.reduceEqDiff, rg, ow_40, e1, e2, bu_it]
  refine do_alloc z_it fun w1 n1 => ⟨trivial, ?_⟩
  simp only [↓List.toList_toArray, ↓rgd, ↓rgf, ↓reduceIte, Nat.reduceEqDiff, rg, ow_40]
  refine do_store (by simp only [evt, evc, upd_eq, Nat.reduceEqDiff, ↓reduceIte, ntT, ntF] <;> rfl) (by simp only [evt, evc, upd_eq, Nat.reduceEqDiff, ↓reduceIte, ntT, ntF] <;> rfl) sz_71 (itV_len x) n1.wok (by decide) (itV_oc x) fun w2 x2 r2 s2 => ⟨trivial, ?_⟩
  simp only [↓List.toList_toArray, ↓rgd, ↓rgf, ↓reduceIte, Nat.reduceEqDiff, rg, ow_40]
  refine hK _ _ ?_; clear hK K
  have s1 := n1.size
  have X2 : Ext noF w w2 := noF_of n1.ext x2 fun y o hy h => by simp only [rng] at h; omega
  have rx : Row w2 w.heap.size 0 (E.cel x) := r2
  have rt2 := X2.rd hroot (fun h => h)
  refine W_seq ?_
  refine W_sq fun K hK => (W_text [true, true, true, true, true] (by kernel_rfl) ?_); simp only [↓List.toList_toArray, ↓rgd, ↓rgf, ↓reduceIte, Nat.reduceEqDiff, rg, ow_40, e0, ptr_eq, rt2]
  refine hK _ _ ?_; clear hK K
  refine W_true (by simp only [evt, evc, upd_eq, Nat.reduceEqDiff, ↓reduceIte, ntT, ntF] <;> rfl) ?_
  refine W_sq fun K hK => (W_text [true, false] (by kernel_rfl) ?_); simp only [↓List.toList_toArray, ↓rgd, ↓rgf, ↓reduceIte, Nat.reduceEqDiff, rg, ow_40, e0]
  refine do_call fn_53 (by simp only [evt, evc, upd_eq, Nat.reduceEqDiff, ↓reduceIte, maT, maC, maN, isnN, isnS] <;> rfl) (hinit w2 X2) ?_
  rintro _ w2b ⟨xi, c2b, si⟩
  refine ⟨trivial, ?_⟩
  have rxb : Row w2b w.heap.size 0 (E.cel x) := xi.row rx fun j _ g => by have := hI _ _ g; omega
  simp only [↓List.toList_toArray, ↓rgd, ↓rgf, ↓reduceIte, Nat.reduceEqDiff, rg, ow_40]
  refine hK _ _ ?_; clear hK K
  refine W_sq fun K hK => (W_text [true, true, false, true, true, false] (by kernel_rfl) ?_); simp only [↓List.toList_toArray, ↓rgd, ↓rgf, ↓reduceIte, Nat.reduceEqDiff, rg, ow_40, e0]
  refine do_call fn_54 (by simp only [evt, evc, upd_eq, Nat.reduceEqDiff, ↓reduceIte, maT, maC, maN, isnN, isnS] <;> rfl) (newNode_any m true iso w2b c2b.iso) ?_
  rintro _ w3 ⟨b, rfl, x3, nn⟩
  refine ⟨trivial, ?_⟩
  simp only [↓List.toList_toArray, ↓rgd, ↓rgf, ↓reduceIte, Nat.reduceEqDiff, rg, ow_40, ptr_eq]
  have c3 := c2b.ext x3 fun _ _ _ h => h
  refine do_store (by simp only [evt, evc, upd_eq, Nat.reduceEqDiff, ↓reduceIte, ntT, ntF] <;> rfl) (by simp only [evt, evc, upd_eq, Nat.reduceEqDiff, ↓reduceIte, ntT, ntF] <;> rfl) sz_69 rfl (c3.wok.mono (by decide)) (Nat.le_refl 3) (oc_one rfl rfl) fun w4 x4 r4 s4 => ⟨trivial, ?_⟩
  simp only [↓List.toList_toArray, ↓rgd, ↓rgf, ↓reduceIte, Nat.reduceEqDiff, rg, ow_40]
  refine hK _ _ ?_; clear hK K
  have nnge := nn.ge
  have s3 := x3.size
  have hbl := wok_lt nn.wb
  have rt4 : rd w4 m 2 = some (ptr b) := (Row.cons.1 r4).1
  have c4 := c3.ext x4 fun o h2 _ g => h2 (by simp only [rng] at g; omega)
  have rx4 : Row w4 w.heap.size 0 (E.cel x) := x4.row (x3.row rxb fun _ _ h => h) fun j _ h => by simp only [rng] at h; omega
  have ix4 := iA_at rx4
  have wb4 := x4.wok nn.wb
  have M4 : readsB (some (some [m, w.heap.size])) m = true := by simp [readsB]
  have M5 : readsB (some (some [m, w.heap.size])) w.heap.size = true := by simp [readsB]
  refine W_sq fun K hK => (W_draw (some (some [m, w.heap.size])) (some 10) [(0, 0, 0), (0, 1, 0), (0, 2, 0), (0, 3, 0), (0, 5, 0), (2, 4, 6), (1, 7, 0), (0, 8, 0), (0, 9, 0), (1, 10, 0)] mixed (by kernel_rfl) ?_); simp only [↓List.toList_toArray, ↓rgd, ↓rgf, ↓reduceIte, Nat.reduceEqDiff, rg, ow_40, e0, ptr_eq, rt4, ix4, M4, M5]
  have rest2 : ∀ e'' w', e'' 0 = ptr m → Ext (rng b 2 1) w4 w' →
      (∃ bi2 cap3, rd w' b 2 = some (.slice (some ⟨bi2, 0, none⟩) 1 cap3) ∧ 1 ≤ cap3 ∧ Row w' bi2 0 (E.cel x) ∧ wok w' bi2 (cap3 * 2) ∧ w4.heap.size ≤ bi2) → K e'' w' := by
    intro e'' w18 f0 x18 ⟨bi2, cap3, p0, p2, p3, p4, p5⟩
    refine hK _ _ ?_; clear hK K
    have s18 := x18.size
    have hbi18 := wok_lt p4
    have rt18 : rd w18 m 2 = some (ptr b) := x18.rd rt4 (by simp only [rng]; omega)
    have c18 := c4.ext x18 fun o _ _ g => by simp only [rng] at g; omega
    refine W_sq fun K hK => (W_text [true, true, true, true, true, true, false] (by kernel_rfl) ?_); simp only [↓List.toList_toArray, ↓rgd, ↓rgf, ↓reduceIte, Nat.reduceEqDiff, rg, ow_40, f0, ptr_eq, rt18]
    refine do_store (by simp only [evt, evc, upd_eq, Nat.reduceEqDiff, ↓reduceIte, ntT, ntF] <;> rfl) (by simp only [evt, evc, upd_eq, Nat.reduceEqDiff, ↓reduceIte, ntT, ntF] <;> rfl) sz_3 rfl (x18.wok wb4) (by decide) (oc_one rfl rfl) fun w19 x19 r19 s19 => ⟨trivial, ?_⟩
    simp only [↓List.toList_toArray, ↓rgd, ↓rgf, ↓reduceIte, Nat.reduceEqDiff, rg, ow_40]
    refine hK _ _ ?_; clear hK K
    have c19 := c18.ext x19 fun o _ _ g => by simp only [rng] at g; omega
    refine W_sq fun K hK => (W_text [true, true, true, false] (by kernel_rfl) ?_); simp only [↓List.toList_toArray, ↓rgd, ↓rgf, ↓reduceIte, Nat.reduceEqDiff, rg, ow_40, f0, ptr_eq]
    refine do_store (by simp only [evt, evc, upd_eq, Nat.reduceEqDiff, ↓reduceIte, ntT, ntF] <;> rfl) (by simp only [evt, evc, upd_eq, Nat.reduceEqDiff, ↓reduceIte, ntT, ntF] <;> rfl) sz_3 rfl (c19.wok.mono (by decide)) (Nat.le_refl 4) (oc_one rfl rfl) fun w20 x20 r20 s20 => ⟨trivial, ?_⟩
    simp only [↓List.toList_toArray, ↓rgd, ↓rgf, ↓reduceIte, Nat.reduceEqDiff, rg, ow_40]
    refine hK _ _ ?_; clear hK K
    have c20 := c19.ext x20 fun o _ h3 g => h3 (by simp only [rng] at g; omega)
    have zv := vV_at c20.ez
    refine W_sq fun K hK => (W_text [true, true, true, true, true, true, true] (by kernel_rfl) ?_); simp only [↓List.toList_toArray, ↓rgd, ↓rgf, ↓reduceIte, Nat.reduceEqDiff, rg, ow_40, f0, ptr_eq, zv]
    refine hK _ _ ?_; clear hK K
    have X20 : Ext (fun y o => mapF m noF y o ∨ I y o) w w20 := by
      refine ((((((X2.trans xi (H := fun y o => mapF m noF y o ∨ I y o) (fun _ _ g => g.elim) fun y o _ g => .inr g).trans x3 (fun _ _ g => g) fun _ _ _ g => g.elim).trans x4 (fun _ _ g => g) fun y o _ g => ?_).trans x18 (fun _ _ g => g) fun y o _ g => ?_).trans x19 (fun _ _ g => g) fun y o _ g => ?_).trans x20 (fun _ _ g => g) fun y o _ g => ?_)
      · simp only [rng] at g; exact .inl (.inr ⟨g.1, by omega⟩)
      · simp only [rng] at g; omega
      · simp only [rng] at g; omega
      · simp only [rng] at g; exact .inl (.inr ⟨g.1, by omega⟩)
    have tr : Tr E iso (d - 1) (2 * d - 1) 0 w20 1 b [x] (ownF E b bi2 0 cap3) := by
      refine ⟨bi2, 0, cap3, ⟨x20.rd (x19.rd (x18.rd (x4.rd nn.h0 (by simp only [rng]; omega)) (by simp only [rng]; omega)) (by simp only [rng]; omega)) (by simp only [rng]; omega), ?_, x20.rd (x19.rd p0 (by simp only [rng]; omega)) (by simp only [rng]; omega),
        x20.rd (x19.rd (x18.rd (x4.rd (nn.leaf rfl) (by simp only [rng]; omega)) (by simp only [rng]; omega)) (by simp only [rng]; omega)) (by simp only [rng]; omega), x20.wok (x19.wok (x18.wok wb4)), ?_, by rw [Nat.zero_add]; exact x20.wok (x19.wok p4), p2, by omega⟩,
        Nat.le_refl _, (by show 1 ≤ 2 * d - 1; omega), fun _ _ => Iff.rfl⟩
      · exact x20.rd (Row.cons.1 r19).1 (by simp only [rng]; omega)
      · rw [flat_one]; exact x20.row (x19.row p3 fun j _ h => by simp only [rng] at h; omega) fun j _ h => by simp only [rng] at h; omega
    have hown : ∀ y o, ownF E b bi2 0 cap3 y o → w2.heap.size ≤ y := fun y o g => by simp only [ownF, rng] at g; omega
    refine W_ret ?_
    simp only [andThen_ret]
    exact endQ_2 (by simp only [upd_eq, Nat.reduceEqDiff, ↓reduceIte] <;> rfl) (by simp only [upd_eq, Nat.reduceEqDiff, ↓reduceIte] <;> rfl) ⟨rfl, X20, _, ⟨c20, (Row.cons.1 r20).1, List.pairwise_singleton _ _, .inr ⟨0, b, x20.rd (x19.rd rt18 (by simp only [rng]; omega)) (by simp only [rng]; omega), tr⟩, fun o g => by have := hown _ _ g; omega, tr.lt⟩,
      fun y o g => by have := hown _ _ g; omega⟩
  constructor
  · refine do_bsl rfl bs_it0 fun w15 n15 => ⟨.inr (keep2 n15.ext ⟨by rw [sz_dr]; omega, fun _ h => h⟩ ⟨by rw [sz_dr]; omega, fun _ h => h⟩), ?_⟩
    simp only [↓List.toList_toArray, ↓rgd, ↓rgf, ↓reduceIte, Nat.reduceEqDiff, rg, ow_40]
    have n15 := n15.od
    have s15 := n15.size
    refine do_bsl rfl (bs_it1 x) fun w16 n16 => ⟨.inr (keep2 n16.ext ⟨by omega, fun _ h => h⟩ ⟨by omega, fun _ h => h⟩), ?_⟩
    simp only [↓List.toList_toArray, ↓rgd, ↓rgf, ↓reduceIte, Nat.reduceEqDiff, rg, ow_40]
    have s16 := n16.size
    have hv : SlV w16 2 (.slice (some ⟨w4.heap.size, 0, none⟩) 0 0) 0 [] := ⟨rfl, .inr ⟨_, 0, 0, rfl, Nat.le_refl _, Row.nil _ _ _, (n16.ext.wok n15.wok).R (Nat.le_refl _)⟩⟩
    have hu : SlV w16 2 (.slice (some ⟨w15.heap.size, 0, none⟩) 1 1) 1 (E.cel x) := ⟨rfl, .inr ⟨_, 0, 1, rfl, Nat.le_refl _, n16.row, n16.wok.R (Nat.le_refl _)⟩⟩
    have X16 : Ext noF w4 w16 := n15.ext.tr n16.ext
    refine do_append (by simp only [evt, evc, upd_eq, Nat.reduceEqDiff, ↓reduceIte, ntT, ntF] <;> rfl) (by simp only [evt, evc, upd_eq, Nat.reduceEqDiff, ↓reduceIte, ntT, ntF] <;> rfl) el_it rfl ni_87 hv hu (by omega) (by decide) (E.one x) fun v17 w17 a17 => ?_
    obtain ⟨cap3, rfl, hcap3, row17, wok17, x17, s17⟩ := app_new a17 (by omega)
    refine ⟨.inr (keep2 x17 ⟨by omega, fun _ h => h⟩ ⟨by omega, fun _ h => h⟩), ?_⟩
    simp only [↓List.toList_toArray, ↓rgd, ↓rgf, ↓reduceIte, Nat.reduceEqDiff, rg, ow_40, ptr_eq]
    refine do_store (by simp only [evt, evc, upd_eq, Nat.reduceEqDiff, ↓reduceIte, ntT, ntF] <;> rfl) (by simp only [evt, evc, upd_eq, Nat.reduceEqDiff, ↓reduceIte, ntT, ntF] <;> rfl) sz_87 rfl (x17.wok (X16.wok wb4)) (by decide) (oc_one rfl rfl) fun w18 x18 r18 s18 => ⟨.inl trivial, ?_⟩
    simp only [↓List.toList_toArray, ↓rgd, ↓rgf, ↓reduceIte, Nat.reduceEqDiff, rg, ow_40]
    refine rest2 _ _ (by simp only [upd_eq, Nat.reduceEqDiff, ↓reduceIte]; exact e0) (((X16.tr x17).mono fun _ _ _ g => g.elim).tr x18) ⟨w16.heap.size, cap3, (Row.cons.1 r18).1, hcap3, x18.row row17 fun j _ h => by simp only [rng] at h; omega, x18.wok wok17, by omega⟩
  · refine do_bsl rfl (bs_it1 x) fun w15 n15 => ⟨.inr (keep2 n15.ext ⟨by rw [sz_dr]; omega, fun _ h => h⟩ ⟨by rw [sz_dr]; omega, fun _ h => h⟩), ?_⟩
    simp only [↓List.toList_toArray, ↓rgd, ↓rgf, ↓reduceIte, Nat.reduceEqDiff, rg, ow_40]
    have n15 := n15.od
    have s15 := n15.size
    refine do_bsl rfl bs_it0 fun w16 n16 => ⟨.inr (keep2 n16.ext ⟨by omega, fun _ h => h⟩ ⟨by omega, fun _ h => h⟩), ?_⟩
    simp only [↓List.toList_toArray, ↓rgd, ↓rgf, ↓reduceIte, Nat.reduceEqDiff, rg, ow_40]
    have s16 := n16.size
    have hv : SlV w16 2 (.slice (some ⟨w15.heap.size, 0, none⟩) 0 0) 0 [] := ⟨rfl, .inr ⟨_, 0, 0, rfl, Nat.le_refl _, Row.nil _ _ _, n16.wok.R (Nat.le_refl _)⟩⟩
    have hu : SlV w16 2 (.slice (some ⟨w4.heap.size, 0, none⟩) 1 1) 1 (E.cel x) := ⟨rfl, .inr ⟨_, 0, 1, rfl, Nat.le_refl _, n16.ext.row n15.row fun _ _ h => h, (n16.ext.wok n15.wok).R (Nat.le_refl _)⟩⟩
    have X16 : Ext noF w4 w16 := n15.ext.tr n16.ext
    refine do_append (by simp only [evt, evc, upd_eq, Nat.reduceEqDiff, ↓reduceIte, ntT, ntF] <;> rfl) (by simp only [evt, evc, upd_eq, Nat.reduceEqDiff, ↓reduceIte, ntT, ntF] <;> rfl) el_it rfl ni_87 hv hu (by omega) (by decide) (E.one x) fun v17 w17 a17 => ?_
    obtain ⟨cap3, rfl, hcap3, row17, wok17, x17, s17⟩ := app_new a17 (by omega)
    refine ⟨.inr (keep2 x17 ⟨by omega, fun _ h => h⟩ ⟨by omega, fun _ h => h⟩), ?_⟩
    simp only [↓List.toList_toArray, ↓rgd, ↓rgf, ↓reduceIte, Nat.reduceEqDiff, rg, ow_40, ptr_eq]
    refine do_store (by simp only [evt, evc, upd_eq, Nat.reduceEqDiff, ↓reduceIte, ntT, ntF] <;> rfl) (by simp only [evt, evc, upd_eq, Nat.reduceEqDiff, ↓reduceIte, ntT, ntF] <;> rfl) sz_87 rfl (x17.wok (X16.wok wb4)) (by decide) (oc_one rfl rfl) fun w18 x18 r18 s18 => ⟨.inl trivial, ?_⟩
    simp only [↓List.toList_toArray, ↓rgd, ↓rgf, ↓reduceIte, Nat.reduceEqDiff, rg, ow_40]
    refine rest2 _ _ (by simp only [upd_eq, Nat.reduceEqDiff, ↓reduceIte]; exact e0) (((X16.tr x17).mono fun _ _ _ g => g.elim).tr x18) ⟨w16.heap.size, cap3, (Row.cons.1 r18).1, hcap3, x18.row row17 fun j _ h => by simp only [rng] at h; omega, x18.wok wok17, by omega⟩
theorem set_nil (m d : Nat) (iso : Int) (x : It) (hd : 2 ≤ d) (hd' : d ≤ 128) (w : World) (hc : Cfg w m iso d) (hroot : rd w m 2 = some (.pointer none)) :
    CallK Try.prog 40 #[ptr m, kV x.1, vV x] w fun v w' => v = .tuple #[vV zIt, .bool false] ∧ Ext (mapF m noF) w w' ∧ ∃ F', MapAt w' m d iso [x] F' ∧ ∀ y o, F' y o → w.heap.size ≤ y := by
  refine CallK_mono (set_nil' m d iso x hd hd' w noF (fun _ _ g => g.elim) (fun w1 X => CallK_mono (init_again m d iso hd (.int .i64 0) w1 (hc.ext X fun _ _ _ h => h)) ?_) hroot) ?_
  · rintro _ _ rfl
    exact ⟨Ext.refl _ _, hc.ext X fun _ _ _ h => h, rfl⟩
  · rintro v w' ⟨rfl, h2, h3⟩
    exact ⟨rfl, h2.mono fun y o _ g => g.elim id fun g => g.elim, h3⟩
end Go.Proofs.Ytinpigpeoakeaaa
/-
  A map that is grown from a list; its length. No condition.
-/
set_option linter.unusedSimpArgs false
set_option linter.unusedVariables false
namespace Go.Proofs.Ytinpigpeoakeaaa
open Go Go.Proofs
/-- Setting in whatever map. -/
theorem set_map (m d : Nat) (iso : Int) (x : It) (hd : 2 ≤ d) (hd' : d ≤ 128) (xs : List It) (F : Nat → Nat → Prop) (w : World) (hM : MapAt w m d iso xs F) (hbig : xs.length < 1152921504606846976) :
    CallK Try.prog 40 #[ptr m, kV x.1, vV x] w fun v w' => v = .tuple #[vV ((at? O κ (κ x) xs).getD zIt), .bool (hit O κ (κ x) xs)] ∧ Ext (mapF m F) w w' ∧
      ∃ F', MapAt w' m d iso (put O κ x xs) F' ∧ ∀ y o, F' y o → F y o ∨ w.heap.size ≤ y := by
  rcases hM.root with ⟨rfl, hr⟩ | ⟨h, b, hr, ht⟩
  · refine CallK_mono (set_nil m d iso x hd hd' w hM.cfg hr) ?_
    rintro v w' ⟨rfl, hX, F', hM', hF'⟩
    exact ⟨rfl, hX.mono fun y o _ g => g.imp (fun g => g.elim) id, F', by rw [put_nil]; exact hM', fun y o g => .inr (hF' y o g)⟩
  · exact set_root m d iso x hd hd' _ h b xs F w rfl hM.cfg hM.cnt hM.asc hr ht hM.off hbig
set_option maxHeartbeats 400000 in
set_option maxRecDepth 8000 in
theorem grow_any (d : Nat) (hd : 2 ≤ d) (hd' : d ≤ 128) (l : List It) (lv : Value) (w : World) (hl : SlI w lv l) (hbig : l.length ≤ 2147483647) :
    CallK Try.prog 24 #[.int .i64 d, lv] w fun v w' => Ext noF w w' ∧ ∃ m F, v = ptr m ∧ MapAt w' m d 0 (tree l) F ∧ w.heap.size ≤ m ∧ ∀ y o, F y o → w.heap.size ≤ y := by
  refine calls_of_W [.tmp 4] Try.func24 rfl Try.ntmps24 Try.results24 (by simp) fun e he => ?_
  have e0 : e 0 = .int .i64 d := he 0 _ rfl
  have e1 : e 1 = lv := he 1 _ rfl
  clear he
  refine W_sq fun K hK => (W_text [true] (by kernel_rfl) ?_); simp only [↓List.toList_toArray, ↓rgd, ↓rgf, ↓reduceIte, Nat.reduceEqDiff, rg, ow_24]
  refine hK _ _ ?_; clear hK K
  refine W_sq fun K hK => (W_text [true, false, true] (by kernel_rfl) ?_); simp only [↓List.toList_toArray, ↓rgd, ↓rgf, ↓reduceIte, Nat.reduceEqDiff, rg, ow_24, e0]
  refine do_call fn_39 (by simp only [evt, evc, upd_eq, Nat.reduceEqDiff, ↓reduceIte, maT, maC, maN, isnN, isnS] <;> rfl) (newMap_any d hd hd' w) ?_
  rintro _ w1 ⟨m, rfl, hm, X1, c1, r1, k1⟩
  refine ⟨trivial, ?_⟩
  simp only [↓List.toList_toArray, ↓rgd, ↓rgf, ↓reduceIte, Nat.reduceEqDiff, rg, ow_24]
  refine hK _ _ ?_; clear hK K
  obtain ⟨a, c, hlv⟩ : ∃ a c, lv = .slice a l.length c := by
    rcases hl.2 with ⟨rfl, h⟩ | ⟨b, o, cap, rfl, _⟩
    · exact ⟨none, 0, by rw [h]⟩
    · exact ⟨_, _, rfl⟩
  refine W_seq ?_
  refine W_sq fun K hK => (W_text [true, true, true] (by kernel_rfl) ?_); simp only [↓List.toList_toArray, ↓rgd, ↓rgf, ↓reduceIte, Nat.reduceEqDiff, rg, ow_24, e1, hlv]
  refine hK _ _ ?_; clear hK K
  refine W_block (W_loop (fun mm e w' => ∃ i : Nat, mm = l.length - i ∧ i ≤ l.length ∧ e 10 = lv ∧ e 5 = ptr m ∧ e 11 = .int .i64 l.length ∧ e 12 = .int .i64 i ∧ Ext noF w w' ∧ ∃ F, MapAt w' m d 0 (tree (l.take i)) F ∧ ∀ y o, F y o → w.heap.size ≤ y)
    l.length ⟨0, by simp, by simp, ?_, ?_, ?_, ?_, X1, noF, ⟨c1, k1, List.Pairwise.nil, .inl ⟨rfl, r1⟩, fun _ h => h, fun _ _ h => h.elim⟩, fun _ _ h => h.elim⟩ ?_)
  · simp only [upd_eq, Nat.reduceEqDiff, ↓reduceIte]; rw [hlv]
  · simp only [upd_eq, Nat.reduceEqDiff, ↓reduceIte]
  · simp only [upd_eq, Nat.reduceEqDiff, ↓reduceIte]
  · simp only [upd_eq, Nat.reduceEqDiff, ↓reduceIte]; rfl
  · clear X1 c1 r1 k1 e0 e1 e
    rintro mm e w' ⟨i, rfl, hi, e10, e5, e11, e12, X, F, hM, hF⟩
    by_cases hlt : i < l.length
    · have ht := lt_tt i l.length hlt
      refine W_sq fun K hK => (W_text [true] (by kernel_rfl) ?_); simp only [↓List.toList_toArray, ↓rgd, ↓rgf, ↓reduceIte, Nat.reduceEqDiff, rg, ow_24, e11, e12, ht]
      refine hK _ _ ?_; clear hK K
      refine W_seq (W_true (by simp only [evt, evc, upd_eq, Nat.reduceEqDiff, ↓reduceIte, ntT, ntF] <;> rfl) (W_skip ?_))
      show W _ _ _ _ _ _
      obtain ⟨x, hx⟩ : ∃ x, l[i]? = some x := ⟨_, List.getElem?_eq_getElem hlt⟩
      obtain ⟨lb, lo, cap, rfl, hlc, row, wl⟩ : ∃ b o cap, lv = .slice (some ⟨b, o, none⟩) l.length cap ∧ l.length ≤ cap ∧ Row w b o (flat Ei l) ∧ wokR w b o (cap * 2) := by
        rcases hl.2 with ⟨_, h⟩ | h
        · omega
        · exact h
      have row' : Row w' lb lo (flat Ei l) := X.row row fun _ _ h => h
      have ix := iV_at row' hx
      refine W_seq (W_block ?_)
      refine W_sq fun K hK => (W_text [true, true, false, false] (by kernel_rfl) ?_); simp only [↓List.toList_toArray, ↓rgd, ↓rgf, ↓reduceIte, Nat.reduceEqDiff, rg, ow_24, e10, e12, hlt, ix]
      refine do_alloc z_item fun w2 n2 => ⟨trivial, ?_⟩
      simp only [↓List.toList_toArray, ↓rgd, ↓rgf, ↓reduceIte, Nat.reduceEqDiff, rg, ow_24]
      refine do_store (v := iV x) (by simp only [evt, evc, upd_eq, Nat.reduceEqDiff, ↓reduceIte, ntT, ntF] <;> rfl) (by simp only [evt, evc, upd_eq, Nat.reduceEqDiff, ↓reduceIte, ntT, ntF] <;> rfl) sz_31 rfl n2.wok (by decide) (Ei.one x) fun w3 x3 r3 s3 => ⟨trivial, ?_⟩
      simp only [↓List.toList_toArray, ↓rgd, ↓rgf, ↓reduceIte, Nat.reduceEqDiff, rg, ow_24]
      refine hK _ _ ?_; clear hK K
      have X3 : Ext noF w' w3 := noF_of n2.ext x3 fun y o hy h => by simp only [rng] at h; omega
      have rx : Row w3 w'.heap.size 0 [kV x.1, .int .i64 x.2] := r3
      have v0 := (Row.cons.1 rx).1
      have v1 := (Row.cons.1 (Row.cons.1 rx).2).1
      have hM3 : MapAt w3 m d 0 (tree (l.take i)) F := ⟨hM.cfg.ext X3 fun _ _ _ h => h, X3.rd hM.cnt fun h => h, hM.asc, by
        rcases hM.root with ⟨h1, h2⟩ | ⟨h, b, h1, h2⟩
        · exact .inl ⟨h1, X3.rd h2 fun h => h⟩
        · exact .inr ⟨h, b, X3.rd h1 fun h => h, h2.ext X3 fun _ _ _ h => h⟩, hM.off, fun y o g => Nat.lt_of_lt_of_le (hM.lt y o g) X3.size⟩
      have htl := tree_len (l.take i)
      have htk : (l.take i).length ≤ i := by rw [List.length_take]; omega
      refine W_rg fun K hK => (W_text [true, true, true, true, true, false] (by kernel_rfl) ?_); simp only [↓List.toList_toArray, ↓rgd, ↓rgf, ↓reduceIte, Nat.reduceEqDiff, rg, ow_24, e5, v0, v1]
      refine do_call fn_40 (by simp only [evt, evc, upd_eq, Nat.reduceEqDiff, ↓reduceIte, maT, maC, maN, isnN, isnS] <;> rfl) (set_map m d 0 x hd hd' _ F w3 hM3 (by omega)) ?_
      rintro v w4 ⟨-, x4, F', hM4, hF'⟩
      refine ⟨trivial, ?_⟩
      simp only [↓List.toList_toArray, ↓rgd, ↓rgf, ↓reduceIte, Nat.reduceEqDiff, rg, ow_24]
      refine hK _ _ ?_; clear hK K
      show W _ _ _ _ _ _
      have q1 := wadd1 i (by omega)
      refine W_rg fun K hK => (W_text [true, true] (by kernel_rfl) ?_); simp only [↓List.toList_toArray, ↓rgd, ↓rgf, ↓reduceIte, Nat.reduceEqDiff, rg, ow_24, e12, q1]
      refine hK _ _ ?_; clear hK K
      have s3' := X3.size
      have sX := X.size
      refine ⟨_, ?_, i + 1, rfl, hlt, ?_, ?_, ?_, ?_, ?_, F', by rw [tree_succ l i x hx]; exact hM4, fun y o g => ?_⟩
      · omega
      · simp only [upd_eq, Nat.reduceEqDiff, ↓reduceIte]; exact e10
      · simp only [upd_eq, Nat.reduceEqDiff, ↓reduceIte]; exact e5
      · simp only [upd_eq, Nat.reduceEqDiff, ↓reduceIte]; exact e11
      · simp only [upd_eq, Nat.reduceEqDiff, ↓reduceIte]
      · refine noF_of (X.tr X3) x4 fun y o hy g => ?_
        rcases g with g | g
        · have := hF y o g; omega
        · omega
      · rcases hF' y o g with g | g
        · exact hF y o g
        · omega
    · obtain rfl : i = l.length := by omega
      have ht := lt_ff l.length l.length (by omega)
      refine W_sq fun K hK => (W_text [true] (by kernel_rfl) ?_); simp only [↓List.toList_toArray, ↓rgd, ↓rgf, ↓reduceIte, Nat.reduceEqDiff, rg, ow_24, e11, e12, ht]
      refine hK _ _ ?_; clear hK K
      refine W_seq (W_false (by simp only [evt, evc, upd_eq, Nat.reduceEqDiff, ↓reduceIte, ntT, ntF] <;> rfl) (W_exit ?_))
      simp only [andThen_exit, inBlk_exit, andThen_normal, ↓reduceIte]
      refine W_sq fun K hK => (W_text [true, true] (by kernel_rfl) ?_); simp only [↓List.toList_toArray, ↓rgd, ↓rgf, ↓reduceIte, Nat.reduceEqDiff, rg, ow_24, e5]
      refine hK _ _ ?_; clear hK K
      rw [List.take_length] at hM
      exact W_ret (endQ_1 (by simp only [upd_eq, Nat.reduceEqDiff, ↓reduceIte] <;> rfl) ⟨X, m, F, rfl, hM, hm, hF⟩)
end Go.Proofs.Ytinpigpeoakeaaa
/-
  The value of a key. No condition.
-/
set_option linter.unusedSimpArgs false
set_option linter.unusedVariables false
namespace Go.Proofs.Ytinpigpeoakeaaa
open Go Go.Proofs
theorem vx_atL {w : World} {b o : Nat} {xs : List It} (h : Row w b o (flat E xs)) {i : Nat} {x : It} (hi : xs[i]? = some x) : rd w b (o + i * 2) = some (vV x) := val_at h hi
theorem at_none {q : Rk} {xs : List It} (h : hit O κ q xs = false) : at? O κ q xs = none := by unfold at?; rw [h]; rfl
set_option maxHeartbeats 1000000 in
set_option maxRecDepth 8000 in
theorem get_any (m d : Nat) (hd : 2 ≤ d) (hd' : d ≤ 128) (iso : Int) (xs : List It) (F : Nat → Nat → Prop) (q : Rk) (mu : Bool) (w : World) (hM : MapAt w m d iso xs F) :
    CallK Try.prog 59 #[ptr m, kV q, .bool mu] w fun v w' => v = .tuple #[vV ((at? O κ q xs).getD zIt), .bool (hit O κ q xs)] ∧ RO w w' := by
  refine calls_of_W [.tmp 6, .tmp 7] Try.func59 rfl Try.ntmps59 Try.results59 (by simp) fun e he => ?_
  have e0 : e 0 = ptr m := he 0 _ rfl
  have e1 : e 1 = kV q := he 1 _ rfl
  have e2 : e 2 = .bool mu := he 2 _ rfl
  clear he
  have hz := vV_at hM.cfg.ez
  refine W_sq fun K0 hK => (W_text [true, true] (by kernel_rfl) ?_); simp only [↓List.toList_toArray, ↓rgd, ↓rgf, ↓reduceIte, Nat.reduceEqDiff, rg, ow_59]
  refine hK _ _ ?_; clear hK K0
  refine W_seq ?_
  rcases hM.root with ⟨rfl, hr⟩ | ⟨h, b, hr, ht⟩
  · refine W_sq fun K0 hK => (W_text [true, true, true, true, true] (by kernel_rfl) ?_); simp only [↓List.toList_toArray, ↓rgd, ↓rgf, ↓reduceIte, Nat.reduceEqDiff, rg, ow_59, e0, ptr_eq, hr]
    refine hK _ _ ?_; clear hK K0
    refine W_true (by simp only [evt, evc, upd_eq, Nat.reduceEqDiff, ↓reduceIte, ntT, ntF] <;> rfl) ?_
    refine W_sq fun K0 hK => (W_text [true, true, true, true, true, true, true] (by kernel_rfl) ?_); simp only [↓List.toList_toArray, ↓rgd, ↓rgf, ↓reduceIte, Nat.reduceEqDiff, rg, ow_59, e0, ptr_eq, hz]
    refine hK _ _ ?_; clear hK K0
    refine W_ret ?_
    simp only [andThen_ret]
    exact endQ_2 (by simp only [upd_eq, Nat.reduceEqDiff, ↓reduceIte] <;> rfl) (by simp only [upd_eq, Nat.reduceEqDiff, ↓reduceIte] <;> rfl) ⟨rfl, RO.refl _⟩
  · refine W_sq fun K0 hK => (W_text [true, true, true, true, true] (by kernel_rfl) ?_); simp only [↓List.toList_toArray, ↓rgd, ↓rgf, ↓reduceIte, Nat.reduceEqDiff, rg, ow_59, e0, ptr_eq, hr]
    refine hK _ _ ?_; clear hK K0
    refine W_false (by simp only [evt, evc, upd_eq, Nat.reduceEqDiff, ↓reduceIte, ntT, ntF] <;> rfl) (W_skip ?_)
    show W _ _ _ _ _ _
    have hi00 : rd w b 0 = some (.int .u64 iso) := by obtain ⟨bi, oi, cap, ks, ch, ho, _⟩ := ht.open; exact ho.h0
    refine W_sq fun K0 hK => (W_text [true, true, true, true, true, false, true] (by kernel_rfl) ?_); simp only [↓List.toList_toArray, ↓rgd, ↓rgf, ↓reduceIte, Nat.reduceEqDiff, rg, ow_59, e0, e2, ptr_eq]
    refine do_call fn_60 (by simp only [evt, evc, upd_eq, Nat.reduceEqDiff, ↓reduceIte, maT, maC, maN, isnN, isnS] <;> rfl) (isoLoad_any m m 2 b mu iso w hM.cfg.iso hr hi00) ?_
    rintro _ w1 ⟨rfl, r1⟩
    refine ⟨trivial, ?_⟩
    simp only [↓List.toList_toArray, ↓rgd, ↓rgf, ↓reduceIte, Nat.reduceEqDiff, rg, ow_59]
    refine hK _ _ ?_; clear hK K0
    refine W_block (W_loop (fun mm e w' => ∃ (lo b : Nat) (ys : List It) (F : Nat → Nat → Prop), Tr E iso (d - 1) (2 * d - 1) mm w lo b ys F ∧ Asc O κ ys ∧ at? O κ q ys = at? O κ q xs ∧ hit O κ q ys = hit O κ q xs ∧ RO w w' ∧ e 0 = ptr m ∧ e 1 = kV q ∧ e 2 = .bool mu ∧ e 8 = ptr b)
      h ⟨1, b, xs, F, ht, hM.asc, rfl, rfl, r1, ?_, ?_, ?_, ?_⟩ ?_)
    · simp only [upd_eq, Nat.reduceEqDiff, ↓reduceIte]; exact e0
    · simp only [upd_eq, Nat.reduceEqDiff, ↓reduceIte]; exact e1
    · simp only [upd_eq, Nat.reduceEqDiff, ↓reduceIte]; exact e2
    · simp only [upd_eq, Nat.reduceEqDiff, ↓reduceIte]
    clear e0 e1 e2 e hr ht r1 hi00
    rintro mm e w' ⟨lo, b, ys, F', ht, ha, h1, h2, r, e0, e1, e2, e8⟩
    have X : Ext noF w w' := r.ext
    have hiso := X.rd hM.cfg.iso (fun h => h)
    have hz' := X.rd hz (fun h => h)
    obtain ⟨bi, oi, cap, ks, ch, ho, hl1, hl2, _, hin⟩ := ht.open
    have ho' := ho.ext X fun _ _ _ h => h
    have hak : Asc O κ ks := by
      rcases hin with ⟨_, _, hx, _⟩ | ⟨_, _, _, _, _, cs, _, _, n⟩
      · rw [← hx]; exact ha
      · refine List.Pairwise.sublist ?_ ha
        rw [n.eq]; exact weave_sub _ _ (by simpa using n.len)
    have hb2 := ho'.h2
    have hb3 := ho'.h3
    refine W_block ?_
    refine W_sq fun K0 hK => (W_text [true, true, true, false, true, true, true, true, true] (by kernel_rfl) ?_); simp only [↓List.toList_toArray, ↓rgd, ↓rgf, ↓reduceIte, Nat.reduceEqDiff, rg, ow_59, e0, e1, e8]
    refine do_call fn_67 (by simp only [evt, evc, upd_eq, Nat.reduceEqDiff, ↓reduceIte, maT, maC, maN, isnN, isnS] <;> rfl) (search_any (ptr m) b bi oi cap ks q w' ho'.h2 ho'.row (by omega) hak) ?_
    rintro _ w2 ⟨rfl, r2⟩
    refine ⟨trivial, ?_⟩
    simp only [↓List.toList_toArray, ↓rgd, ↓rgf, ↓reduceIte, Nat.reduceEqDiff, rg, ow_59, srch_eq]
    refine hK _ _ ?_; clear hK K0
    have X2 : Ext noF w' w2 := r2.ext
    have hb2' := X2.rd hb2 (fun h => h)
    have hb3' := X2.rd hb3 (fun h => h)
    refine W_seq ?_
    cases hh : hit O κ q ks with
    | true =>
      refine W_sq fun K0 hK => (W_text [true] (by kernel_rfl) ?_); simp only [↓List.toList_toArray, ↓rgd, ↓rgf, ↓reduceIte, Nat.reduceEqDiff, rg, ow_59, hh]
      refine hK _ _ ?_; clear hK K0
      refine W_true (by simp only [evt, evc, upd_eq, Nat.reduceEqDiff, ↓reduceIte, ntT, ntF] <;> rfl) ?_
      obtain ⟨kk, hk1, hk2⟩ := hit_at O κ hh
      have hi := (List.getElem?_eq_some_iff.1 hk1).1
      have hv := vx_atL (X2.row ho'.row fun _ _ h => h) hk1
      refine W_sq fun K0 hK => (W_text [true, true, true, true, true, true, true, true, true, true] (by kernel_rfl) ?_); simp only [↓List.toList_toArray, ↓rgd, ↓rgf, ↓reduceIte, Nat.reduceEqDiff, rg, ow_59, e8, ptr_eq, hb2', hi, hv]
      refine hK _ _ ?_; clear hK K0
      have key : hit O κ q ys = true ∧ at? O κ q ys = some kk := by
        rcases hin with ⟨_, _, rfl, _⟩ | ⟨_, _, _, _, _, cs, _, _, n⟩
        · exact ⟨hh, by unfold at?; rw [hh]; exact hk1⟩
        · obtain ⟨A, C, hw⟩ := weave_key (lb O κ q ks) (cs.map Kid.xs) ks kk (by simpa using n.len) hk1
          have hxs : ys = A ++ kk :: C := by
            rw [n.eq, ← hw kk]
            obtain ⟨g1, g2⟩ := List.getElem?_eq_some_iff.1 hk1
            rw [← g2, List.set_getElem_self g1]
          have hf := found_xs (x := kk) ha hxs rfl
          rw [hk2]
          exact ⟨hf.1, hf.2.1⟩
      refine W_ret ?_
      simp only [andThen_ret, inBlk_ret]
      refine endQ_2 (by simp only [upd_eq, Nat.reduceEqDiff, ↓reduceIte] <;> rfl) (by simp only [upd_eq, Nat.reduceEqDiff, ↓reduceIte] <;> rfl) ⟨?_, r.tr r2⟩
      rw [← h1, ← h2, key.1, key.2]; rfl
    | false =>
      refine W_sq fun K0 hK => (W_text [true] (by kernel_rfl) ?_); simp only [↓List.toList_toArray, ↓rgd, ↓rgf, ↓reduceIte, Nat.reduceEqDiff, rg, ow_59, hh]
      refine hK _ _ ?_; clear hK K0
      refine W_false (by simp only [evt, evc, upd_eq, Nat.reduceEqDiff, ↓reduceIte, ntT, ntF] <;> rfl) (W_skip ?_)
      simp only [andThen_normal]
      refine W_seq ?_
      have hlb : lb O κ q ks ≤ ks.length := lb_le O κ _ _
      rcases hin with ⟨rfl, rfl, rfl, hF⟩ | ⟨h', bc, ba, oa, capc, cs, rfl, rfl, n⟩
      · refine W_sq fun K0 hK => (W_text [true, false] (by kernel_rfl) ?_); simp only [↓List.toList_toArray, ↓rgd, ↓rgf, ↓reduceIte, Nat.reduceEqDiff, rg, ow_59, e8]
        refine do_call fn_58 (by simp only [evt, evc, upd_eq, Nat.reduceEqDiff, ↓reduceIte, maT, maC, maN, isnN, isnS] <;> rfl) (leaf_any b none w2 hb3') ?_
        rintro _ w2 ⟨rfl, rfl⟩
        refine ⟨trivial, ?_⟩
        simp only [↓List.toList_toArray, ↓rgd, ↓rgf, ↓reduceIte, Nat.reduceEqDiff, rg, ow_59]
        refine hK _ _ ?_; clear hK K0
        refine W_true (by simp only [evt, evc, upd_eq, Nat.reduceEqDiff, ↓reduceIte, ntT, ntF] <;> rfl) ?_
        have hz2 := X2.rd hz' (fun h => h)
        refine W_sq fun K0 hK => (W_text [true, true, true, true, true, true, true] (by kernel_rfl) ?_); simp only [↓List.toList_toArray, ↓rgd, ↓rgf, ↓reduceIte, Nat.reduceEqDiff, rg, ow_59, e0, ptr_eq, hz2]
        refine hK _ _ ?_; clear hK K0
        refine W_ret ?_
        simp only [andThen_ret, inBlk_ret]
        refine endQ_2 (by simp only [upd_eq, Nat.reduceEqDiff, ↓reduceIte] <;> rfl) (by simp only [upd_eq, Nat.reduceEqDiff, ↓reduceIte] <;> rfl) ⟨?_, r.tr r2⟩
        rw [← h1, ← h2, hh, at_none hh]; rfl
      · generalize hli : lb O κ q ks = i at *
        obtain ⟨c, hci⟩ : ∃ c, cs[i]? = some c := ⟨_, List.getElem?_eq_getElem (by have := n.len; omega)⟩
        have hcm := List.mem_of_getElem? hci
        have hcl := (List.getElem?_eq_some_iff.1 hci).1
        have hcx : (cs.map Kid.xs)[i]? = some c.xs := by rw [List.getElem?_map, hci]; rfl
        obtain ⟨A, C, hw⟩ := weave_at i (cs.map Kid.xs) ks (by simpa using n.len) hlb
        have hxs : ys = A ++ c.xs ++ C := by rw [n.eq]; exact hw.eq hcx
        obtain ⟨hA, hC⟩ := hw.mid O κ hcx (by rw [← n.eq]; exact ha) hli hh
        have ga : rd w2 ba (oa + i) = some (ptr c.b) := X2.rd (X.rd (ptr_at n.kids.row (by rw [List.getElem?_map, hci]; rfl)) (fun h => h)) (fun h => h)
        have gc := X2.rd (X.rd n.kids.c0 (fun h => h)) (fun h => h)
        rw [List.length_map] at gc
        have hc0 : rd w c.b 0 = some (.int .u64 iso) := by obtain ⟨bi, oi, cap, ks, ch, ho, _⟩ := (n.sub c hcm).open; exact ho.h0
        refine W_sq fun K0 hK => (W_text [true, false] (by kernel_rfl) ?_); simp only [↓List.toList_toArray, ↓rgd, ↓rgf, ↓reduceIte, Nat.reduceEqDiff, rg, ow_59, e8]
        refine do_call fn_58 (by simp only [evt, evc, upd_eq, Nat.reduceEqDiff, ↓reduceIte, maT, maC, maN, isnN, isnS] <;> rfl) (leaf_any b (some ⟨bc, 0, none⟩) w2 hb3') ?_
        rintro _ w2 ⟨rfl, rfl⟩
        refine ⟨trivial, ?_⟩
        simp only [↓List.toList_toArray, ↓rgd, ↓rgf, ↓reduceIte, Nat.reduceEqDiff, rg, ow_59]
        refine hK _ _ ?_; clear hK K0
        refine W_false (by simp only [evt, evc, upd_eq, Nat.reduceEqDiff, ↓reduceIte, ntT, ntF] <;> rfl) (W_skip ?_)
        simp only [andThen_normal]
        refine W_rg fun K0 hK => (W_text [true, true, true, true, true, true, true, true, true, true, false, true] (by kernel_rfl) ?_); simp only [↓List.toList_toArray, ↓rgd, ↓rgf, ↓reduceIte, Nat.reduceEqDiff, rg, ow_59, e0, e2, e8, ptr_eq, hb3', gc, hcl]
        refine do_call fn_60 (by simp only [evt, evc, upd_eq, Nat.reduceEqDiff, ↓reduceIte, maT, maC, maN, isnN, isnS] <;> rfl) (isoLoad_any m ba (oa + i) c.b mu iso w2 (X2.rd hiso (fun h => h)) ga (X2.rd (X.rd hc0 (fun h => h)) (fun h => h))) ?_
        rintro _ w3 ⟨rfl, r3⟩
        refine ⟨trivial, ?_⟩
        simp only [↓List.toList_toArray, ↓rgd, ↓rgf, ↓reduceIte, Nat.reduceEqDiff, rg, ow_59]
        refine hK _ _ ?_; clear hK K0
        have hac : Asc O κ c.xs := by rw [hxs] at ha; exact ((Asc.append O κ).1 ((Asc.append O κ).1 ha).1).2.1
        refine ⟨h', by omega, d - 1, c.b, c.xs, c.F, n.sub c hcm, hac, ?_, ?_, (r.tr r2).tr r3, ?_, ?_, ?_, ?_⟩
        · rw [← h1, hxs, at_mid O κ hA hC]
        · rw [← h2, hxs, hit_mid O κ hA hC]
        · simp only [upd_eq, Nat.reduceEqDiff, ↓reduceIte]; exact e0
        · simp only [upd_eq, Nat.reduceEqDiff, ↓reduceIte]; exact e1
        · simp only [upd_eq, Nat.reduceEqDiff, ↓reduceIte]; exact e2
        · simp only [upd_eq, Nat.reduceEqDiff, ↓reduceIte]
set_option maxHeartbeats 400000 in
set_option maxRecDepth 8000 in
theorem getM_any (m d : Nat) (hd : 2 ≤ d) (hd' : d ≤ 128) (iso : Int) (xs : List It) (F : Nat → Nat → Prop) (q : Rk) (w : World) (hM : MapAt w m d iso xs F) :
    CallK Try.prog 43 #[ptr m, kV q] w fun v w' => v = .tuple #[vV ((at? O κ q xs).getD zIt), .bool (hit O κ q xs)] ∧ RO w w' := by
  refine calls_of_W [.tmp 4, .tmp 5] Try.func43 rfl Try.ntmps43 Try.results43 (by simp) fun e he => ?_
  have e0 : e 0 = ptr m := he 0 _ rfl
  have e1 : e 1 = kV q := he 1 _ rfl
  clear he
  refine W_sq fun K0 hK => (W_text [true, true] (by kernel_rfl) ?_); simp only [↓List.toList_toArray, ↓rgd, ↓rgf, ↓reduceIte, Nat.reduceEqDiff, rg, ow_43]
  refine hK _ _ ?_; clear hK K0
  refine W_sq fun K0 hK => (W_text [true, true, false, true, true, true, true] (by kernel_rfl) ?_); simp only [↓List.toList_toArray, ↓rgd, ↓rgf, ↓reduceIte, Nat.reduceEqDiff, rg, ow_43, e0, e1]
  refine do_call fn_59 (by simp only [evt, evc, upd_eq, Nat.reduceEqDiff, ↓reduceIte, maT, maC, maN, isnN, isnS] <;> rfl) (get_any m d hd hd' iso xs F q false w hM) ?_
  rintro _ w1 ⟨rfl, r1⟩
  refine ⟨trivial, ?_⟩
  simp only [↓List.toList_toArray, ↓rgd, ↓rgf, ↓reduceIte, Nat.reduceEqDiff, rg, ow_43]
  refine hK _ _ ?_; clear hK K0
  exact W_ret (endQ_2 (by simp only [upd_eq, Nat.reduceEqDiff, ↓reduceIte] <;> rfl) (by simp only [upd_eq, Nat.reduceEqDiff, ↓reduceIte] <;> rfl) ⟨rfl, r1⟩)
end Go.Proofs.Ytinpigpeoakeaaa
/-
  The keys of a tree. No condition.
-/
set_option linter.unusedSimpArgs false
set_option linter.unusedVariables false
namespace Go.Proofs.Ytinpigpeoakeaaa
open Go Go.Proofs
theorem take_snoc {α : Type} {l : List α} {i : Nat} {x : α} (h : l[i]? = some x) : l.take (i + 1) = l.take i ++ [x] := by rw [List.take_add_one, h]; rfl
set_option maxHeartbeats 1000000 in
set_option maxRecDepth 8000 in
theorem nodeKeys_any (B : Nat) (iso : Int) (mn mx : Nat) :
    ∀ (h b lo : Nat) (xs : List It) (F : Nat → Nat → Prop) (kv : Value) (K : List ByteArray) (w : World), Tr E iso mn mx h w lo b xs F → (∀ y o, F y o → y < B) → OutE Es B kv K w →
      K.length + xs.length ≤ 4294967295 → B ≤ w.heap.size →
    CallK Try.prog 42 #[ptr b, kv] w fun v w' => OutE Es B v (K ++ xs.map κ) w' ∧ Ext (fun y _ => B ≤ y) w w' := by
  intro h
  induction h with
  | zero =>
    intro b lo xs F kv K w ht hG hS hb1 hB
    obtain ⟨bi, oi, cap, ho, h1, h2, hF⟩ := ht
    have hGo : ∀ y o, ownF E b bi oi cap y o → y < B := fun y o g => hG y o ((hF y o).2 g)
    refine calls_of_W [.tmp 4] Try.func42 rfl Try.ntmps42 Try.results42 (by simp) fun e he => ?_
    have e0 : e 0 = ptr b := he 0 _ rfl
    have e1 : e 1 = kv := he 1 _ rfl
    clear he
    refine W_sq fun K0 hK => (W_text [true] (by kernel_rfl) ?_); simp only [↓List.toList_toArray, ↓rgd, ↓rgf, ↓reduceIte, Nat.reduceEqDiff, rg, ow_42]
    refine hK _ _ ?_; clear hK K0
    refine W_seq ?_
    refine W_sq fun K0 hK => (W_text [true, false] (by kernel_rfl) ?_); simp only [↓List.toList_toArray, ↓rgd, ↓rgf, ↓reduceIte, Nat.reduceEqDiff, rg, ow_42, e0]
    refine do_call fn_58 (by simp only [evt, evc, upd_eq, Nat.reduceEqDiff, ↓reduceIte, maT, maC, maN, isnN, isnS] <;> rfl) (leaf_any b none w ho.h3) ?_
    rintro _ w ⟨rfl, rfl⟩
    refine ⟨trivial, ?_⟩
    simp only [↓List.toList_toArray, ↓rgd, ↓rgf, ↓reduceIte, Nat.reduceEqDiff, rg, ow_42]
    refine hK _ _ ?_; clear hK K0
    refine W_true (by simp only [evt, evc, upd_eq, Nat.reduceEqDiff, ↓reduceIte, ntT, ntF] <;> rfl) (W_seq ?_)
    refine W_sq fun K0 hK => (W_text [true] (by kernel_rfl) ?_); simp only [↓List.toList_toArray, ↓rgd, ↓rgf, ↓reduceIte, Nat.reduceEqDiff, rg, ow_42]
    refine hK _ _ ?_; clear hK K0
    refine W_block (W_loop (fun mm e w' => ∃ (i : Nat), mm = xs.length - i ∧ i ≤ xs.length ∧ OutE Es B (e 1) (K ++ (xs.take i).map κ) w' ∧ Ext (fun y _ => B ≤ y) w w' ∧ e 0 = ptr b ∧ e 5 = .int .i64 i)
      xs.length ⟨0, by simp, by simp, ?_, Ext.refl _ _, ?_, ?_⟩ ?_)
    · simp only [upd_eq, Nat.reduceEqDiff, ↓reduceIte]; rw [e1]; simpa using hS
    · simp only [upd_eq, Nat.reduceEqDiff, ↓reduceIte]; exact e0
    · simp only [upd_eq, Nat.reduceEqDiff, ↓reduceIte]; rfl
    · clear e0 e1 e hS
      rintro mm e w' ⟨i, rfl, hi, hkv, X, e0, e5⟩
      have o' := ho.ext X fun y o h => by have := hGo y o h; omega
      have hb2 := o'.h2
      have sX := X.size
      refine W_seq ?_
      by_cases hlt : i < xs.length
      · have ht := lt_tt i xs.length hlt
        refine W_sq fun K0 hK => (W_text [true, true, true, true, true, true, true] (by kernel_rfl) ?_); simp only [↓List.toList_toArray, ↓rgd, ↓rgf, ↓reduceIte, Nat.reduceEqDiff, rg, ow_42, e0, e5, ptr_eq, hb2, ht]
        refine hK _ _ ?_; clear hK K0
        refine W_true (by simp only [evt, evc, upd_eq, Nat.reduceEqDiff, ↓reduceIte, ntT, ntF] <;> rfl) (W_skip ?_)
        show W _ _ _ _ _ _
        refine W_seq (W_block ?_)
        obtain ⟨x, hx⟩ : ∃ x, xs[i]? = some x := ⟨_, List.getElem?_eq_getElem hlt⟩
        have hk := key_at o'.row hx
        have hlk : (xs.take i).length = i := by rw [List.length_take]; omega
        refine W_rg fun K0 hK => (W_text [true, true, true, true, true, true, true, true, true, false, false, true] (by kernel_rfl) ?_); simp only [↓List.toList_toArray, ↓rgd, ↓rgf, ↓reduceIte, Nat.reduceEqDiff, rg, ow_42, e0, e5, ptr_eq, hb2, hlt, hk]
        refine do_bsl rfl (bs_s1 (κ x)) fun w3 n3 => ⟨trivial, ?_⟩
        simp only [↓List.toList_toArray, ↓rgd, ↓rgf, ↓reduceIte, Nat.reduceEqDiff, rg, ow_42]
        have H3 := hkv.ext n3.ext
        have s3 := n3.size
        have z3 : SlV w3 1 (.slice (some ⟨w'.heap.size, 0, none⟩) 1 1) 1 (Es.cel (κ x)) := ⟨rfl, .inr ⟨_, 0, 1, rfl, Nat.le_refl _, n3.row, n3.wok.R (Nat.le_refl _)⟩⟩
        refine do_append (by simp only [evt, evc, upd_eq, Nat.reduceEqDiff, ↓reduceIte, ntT, ntF] <;> rfl) (by simp only [evt, evc, upd_eq, Nat.reduceEqDiff, ↓reduceIte, ntT, ntF] <;> rfl) el_s rfl ni_s H3.sl z3 (by simp; omega) (by decide) (Es.one _) fun v4 w4 a4 => ⟨trivial, ?_⟩
        obtain ⟨H4, X4⟩ := H3.app a4 (by omega)
        simp only [↓List.toList_toArray, ↓rgd, ↓rgf, ↓reduceIte, Nat.reduceEqDiff, rg, ow_42]
        refine hK _ _ ?_; clear hK K0
        have X4' : Ext (fun y _ => B ≤ y) w' w4 := (n3.ext.mono fun _ _ _ h => h.elim).tr X4
        show W _ _ _ _ _ _
        have q1 := wadd1 i (by omega)
        refine W_rg fun K0 hK => (W_text [true, true, true] (by kernel_rfl) ?_); simp only [↓List.toList_toArray, ↓rgd, ↓rgf, ↓reduceIte, Nat.reduceEqDiff, rg, ow_42, e5, q1]
        refine hK _ _ ?_; clear hK K0
        refine ⟨_, ?_, i + 1, rfl, hlt, ?_, X.tr X4', ?_, ?_⟩
        · omega
        · simp only [upd_eq, Nat.reduceEqDiff, ↓reduceIte]
          rw [take_snoc hx, List.map_append, ← List.append_assoc]
          exact H4
        · simp only [upd_eq, Nat.reduceEqDiff, ↓reduceIte]; exact e0
        · simp only [upd_eq, Nat.reduceEqDiff, ↓reduceIte]
      · obtain rfl : i = xs.length := by omega
        have ht := lt_ff xs.length xs.length (by omega)
        refine W_sq fun K0 hK => (W_text [true, true, true, true, true, true, true] (by kernel_rfl) ?_); simp only [↓List.toList_toArray, ↓rgd, ↓rgf, ↓reduceIte, Nat.reduceEqDiff, rg, ow_42, e0, e5, ptr_eq, hb2, ht]
        refine hK _ _ ?_; clear hK K0
        refine W_false (by simp only [evt, evc, upd_eq, Nat.reduceEqDiff, ↓reduceIte, ntT, ntF] <;> rfl) (W_exit ?_)
        simp only [andThen_exit, inBlk_exit, ↓reduceIte]
        show W _ _ _ _ _ _
        refine W_sq fun K0 hK => (W_text [true, true] (by kernel_rfl) ?_); simp only [↓List.toList_toArray, ↓rgd, ↓rgf, ↓reduceIte, Nat.reduceEqDiff, rg, ow_42]
        refine hK _ _ ?_; clear hK K0
        refine W_ret ?_
        simp only [andThen_ret]
        rw [List.take_length] at hkv
        exact endQ_1 (by simp only [upd_eq, Nat.reduceEqDiff, ↓reduceIte] <;> rfl) ⟨hkv, X⟩
  | succ h ih =>
    intro b lo xs F kv K w ht hG hS hb1 hB
    obtain ⟨bi, oi, cap, bc, ba, oa, capc, ks, cs, ho, hk, h1, h2, hcs, rfl, hT, hA, hF⟩ := ht
    have hGo : ∀ y o, ownF E b bi oi cap y o → y < B := fun y o g => hG y o ((hF y o).2 (.inl g))
    have hGk : ∀ y o, kidF bc ba oa capc y o → y < B := fun y o g => hG y o ((hF y o).2 (.inr (.inl g)))
    have hGc : ∀ c ∈ cs, ∀ y o, c.F y o → y < B := fun c hc y o g => hG y o ((hF y o).2 (.inr (.inr ⟨c, hc, g⟩)))
    have hwl := weave_length (cs.map Kid.xs) ks (by simpa using hcs)
    refine calls_of_W [.tmp 4] Try.func42 rfl Try.ntmps42 Try.results42 (by simp) fun e he => ?_
    have e0 : e 0 = ptr b := he 0 _ rfl
    have e1 : e 1 = kv := he 1 _ rfl
    clear he
    refine W_sq fun K0 hK => (W_text [true] (by kernel_rfl) ?_); simp only [↓List.toList_toArray, ↓rgd, ↓rgf, ↓reduceIte, Nat.reduceEqDiff, rg, ow_42]
    refine hK _ _ ?_; clear hK K0
    refine W_seq ?_
    refine W_sq fun K0 hK => (W_text [true, false] (by kernel_rfl) ?_); simp only [↓List.toList_toArray, ↓rgd, ↓rgf, ↓reduceIte, Nat.reduceEqDiff, rg, ow_42, e0]
    refine do_call fn_58 (by simp only [evt, evc, upd_eq, Nat.reduceEqDiff, ↓reduceIte, maT, maC, maN, isnN, isnS] <;> rfl) (leaf_any b (some ⟨bc, 0, none⟩) w ho.h3) ?_
    rintro _ w ⟨rfl, rfl⟩
    refine ⟨trivial, ?_⟩
    simp only [↓List.toList_toArray, ↓rgd, ↓rgf, ↓reduceIte, Nat.reduceEqDiff, rg, ow_42]
    refine hK _ _ ?_; clear hK K0
    refine W_false (by simp only [evt, evc, upd_eq, Nat.reduceEqDiff, ↓reduceIte, ntT, ntF] <;> rfl) (W_skip ?_)
    show W _ _ _ _ _ _
    refine W_seq (W_seq ?_)
    refine W_rg fun K0 hK => (W_text [true] (by kernel_rfl) ?_); simp only [↓List.toList_toArray, ↓rgd, ↓rgf, ↓reduceIte, Nat.reduceEqDiff, rg, ow_42]
    refine hK _ _ ?_; clear hK K0
    show W _ _ _ _ _ _
    refine W_block (W_loop (fun mm e w' => ∃ (i : Nat) (K' : List ByteArray), mm = ks.length - i ∧ i ≤ ks.length ∧ K ++ (weave (cs.map Kid.xs) ks).map κ = K' ++ (weave ((cs.map Kid.xs).drop i) (ks.drop i)).map κ ∧
        OutE Es B (e 1) K' w' ∧ Ext (fun y _ => B ≤ y) w w' ∧ e 0 = ptr b ∧ e 6 = .int .i64 i)
      ks.length ⟨0, K, by simp, by simp, by simp, ?_, Ext.refl _ _, ?_, ?_⟩ ?_)
    · simp only [upd_eq, Nat.reduceEqDiff, ↓reduceIte]; rw [e1]; exact hS
    · simp only [upd_eq, Nat.reduceEqDiff, ↓reduceIte]; exact e0
    · simp only [upd_eq, Nat.reduceEqDiff, ↓reduceIte]; rfl
    · clear e0 e1 e hS
      rintro mm e w' ⟨i, K', rfl, hi, hKe, hkv, X, e0, e6⟩
      have hKl := congrArg List.length hKe
      simp only [List.length_append, List.length_map] at hKl
      have o' := ho.ext X fun y o g => by have := hGo y o g; omega
      have k' := hk.ext X fun y o g => by have := hGk y o g; omega
      have hb2 := o'.h2
      have hb3 := o'.h3
      have hc0 := k'.c0
      have sX := X.size
      have hci : ∀ i, i < cs.length → ∃ c, cs[i]? = some c ∧ rd w' ba (oa + i) = some (ptr c.b) := fun i hi => by
        refine ⟨cs[i], List.getElem?_eq_getElem hi, k'.row i _ ?_⟩
        rw [List.getElem?_map, List.getElem?_map, List.getElem?_eq_getElem hi]; rfl
      rw [List.length_map] at hc0
      refine W_seq ?_
      by_cases hlt : i < ks.length
      · have ht := lt_tt i ks.length hlt
        refine W_sq fun K0 hK => (W_text [true, true, true, true, true, true, true] (by kernel_rfl) ?_); simp only [↓List.toList_toArray, ↓rgd, ↓rgf, ↓reduceIte, Nat.reduceEqDiff, rg, ow_42, e0, e6, ptr_eq, hb2, ht]
        refine hK _ _ ?_; clear hK K0
        refine W_true (by simp only [evt, evc, upd_eq, Nat.reduceEqDiff, ↓reduceIte, ntT, ntF] <;> rfl) (W_skip ?_)
        show W _ _ _ _ _ _
        refine W_seq (W_block ?_)
        obtain ⟨c, hc, hcr⟩ := hci i (by omega)
        have hcm : c ∈ cs := List.mem_of_getElem? hc
        obtain ⟨x, hx⟩ : ∃ x, ks[i]? = some x := ⟨_, List.getElem?_eq_getElem hlt⟩
        have hlc : i < cs.length := by omega
        rw [weave_step (c := c.xs) (by rw [List.getElem?_map, hc]; rfl) hx] at hKe hKl
        simp only [List.length_append, List.length_cons] at hKl
        refine W_sq fun K0 hK => (W_text [true, true, true, true, true, true, true, true, true, true, false, true] (by kernel_rfl) ?_); simp only [↓List.toList_toArray, ↓rgd, ↓rgf, ↓reduceIte, Nat.reduceEqDiff, rg, ow_42, e0, e6, ptr_eq, hb3, hc0, hlc, hcr]
        refine do_call fn_42 (by simp only [evt, evc, upd_eq, Nat.reduceEqDiff, ↓reduceIte, maT, maC, maN, isnN, isnS] <;> rfl) (ih c.b mn c.xs c.F (e 1) K' _ ((hT c hcm).ext X fun y o g => by have := hGc c hcm y o g; omega) (hGc c hcm) hkv (by omega) (by omega)) ?_
        rintro kv2 w2 ⟨H2, X2⟩
        refine ⟨trivial, ?_⟩
        simp only [↓List.toList_toArray, ↓rgd, ↓rgf, ↓reduceIte, Nat.reduceEqDiff, rg, ow_42]
        refine hK _ _ ?_; clear hK K0
        have s2 := X2.size
        have o2 := o'.ext X2 fun y o g => by have := hGo y o g; omega
        have hb2' := o2.h2
        have hk2 := key_at o2.row hx
        refine W_rg fun K0 hK => (W_text [true, true, true, true, true, true, true, true, true, false, false, true] (by kernel_rfl) ?_); simp only [↓List.toList_toArray, ↓rgd, ↓rgf, ↓reduceIte, Nat.reduceEqDiff, rg, ow_42, e0, e6, ptr_eq, hb2', hlt, hk2]
        refine do_bsl rfl (bs_s1 (κ x)) fun w3 n3 => ⟨trivial, ?_⟩
        simp only [↓List.toList_toArray, ↓rgd, ↓rgf, ↓reduceIte, Nat.reduceEqDiff, rg, ow_42]
        have H3 := H2.ext n3.ext
        have s3 := n3.size
        have z3 : SlV w3 1 (.slice (some ⟨w2.heap.size, 0, none⟩) 1 1) 1 (Es.cel (κ x)) := ⟨rfl, .inr ⟨_, 0, 1, rfl, Nat.le_refl _, n3.row, n3.wok.R (Nat.le_refl _)⟩⟩
        refine do_append (by simp only [evt, evc, upd_eq, Nat.reduceEqDiff, ↓reduceIte, ntT, ntF] <;> rfl) (by simp only [evt, evc, upd_eq, Nat.reduceEqDiff, ↓reduceIte, ntT, ntF] <;> rfl) el_s rfl ni_s H3.sl z3 (by simp; omega) (by decide) (Es.one _) fun v4 w4 a4 => ⟨trivial, ?_⟩
        obtain ⟨H4, X4⟩ := H3.app a4 (by omega)
        simp only [↓List.toList_toArray, ↓rgd, ↓rgf, ↓reduceIte, Nat.reduceEqDiff, rg, ow_42]
        refine hK _ _ ?_; clear hK K0
        have X4' : Ext (fun y _ => B ≤ y) w2 w4 := (n3.ext.mono fun _ _ _ h => h.elim).tr X4
        show W _ _ _ _ _ _
        have q1 := wadd1 i (by omega)
        refine W_rg fun K0 hK => (W_text [true, true, true] (by kernel_rfl) ?_); simp only [↓List.toList_toArray, ↓rgd, ↓rgf, ↓reduceIte, Nat.reduceEqDiff, rg, ow_42, e6, q1]
        refine hK _ _ ?_; clear hK K0
        refine ⟨_, ?_, i + 1, K' ++ c.xs.map κ ++ [κ x], rfl, hlt, ?_, ?_, (X.tr X2).tr X4', ?_, ?_⟩
        · omega
        · rw [hKe]; simp
        · simp only [upd_eq, Nat.reduceEqDiff, ↓reduceIte]; exact H4
        · simp only [upd_eq, Nat.reduceEqDiff, ↓reduceIte]; exact e0
        · simp only [upd_eq, Nat.reduceEqDiff, ↓reduceIte]
      · obtain rfl : i = ks.length := by omega
        have ht := lt_ff ks.length ks.length (by omega)
        refine W_sq fun K0 hK => (W_text [true, true, true, true, true, true, true] (by kernel_rfl) ?_); simp only [↓List.toList_toArray, ↓rgd, ↓rgf, ↓reduceIte, Nat.reduceEqDiff, rg, ow_42, e0, e6, ptr_eq, hb2, ht]
        refine hK _ _ ?_; clear hK K0
        refine W_false (by simp only [evt, evc, upd_eq, Nat.reduceEqDiff, ↓reduceIte, ntT, ntF] <;> rfl) (W_exit ?_)
        simp only [andThen_exit, inBlk_exit, andThen_normal, Nat.reduceEqDiff, ↓reduceIte]
        obtain ⟨c, hc, hcr⟩ := hci ks.length (by omega)
        have hcm : c ∈ cs := List.mem_of_getElem? hc
        rw [weave_last (c := c.xs) (by simpa using hcs) (by rw [List.getElem?_map, hc]; rfl)] at hKe hKl
        have hlc : cs.length - 1 < cs.length := by omega
        have hl1 : cs.length - 1 = ks.length := by omega
        have q1 := wsub1 cs.length (by omega) (by omega)
        rw [← hl1] at hcr
        have M1 : readsB (some (some [b, bc, ba])) b = true := by simp [readsB]
        have M2 : readsB (some (some [b, bc, ba])) bc = true := by simp [readsB]
        have M3 : readsB (some (some [b, bc, ba])) ba = true := by simp [readsB]
        refine W_sq fun K0 hK => (W_draw (some (some [b, bc, ba])) none [(0, 0, 0), (0, 1, 0), (0, 2, 0), (0, 3, 0), (0, 4, 0), (0, 5, 0), (0, 6, 0), (0, 7, 0), (0, 8, 0), (0, 9, 0), (0, 10, 0), (0, 11, 0), (0, 12, 0), (0, 13, 0), (0, 14, 0), (0, 15, 0), (0, 16, 0), (1, 17, 0), (0, 18, 0)] mixed (by kernel_rfl) ?_); simp only [↓List.toList_toArray, ↓rgd, ↓rgf, ↓reduceIte, Nat.reduceEqDiff, rg, ow_42, e0, ptr_eq, hb3, hc0, q1, hlc, hcr, M1, M2, M3]
        refine do_call fn_42 (by simp only [evt, evc, upd_eq, Nat.reduceEqDiff, ↓reduceIte, maT, maC, maN, isnN, isnS] <;> rfl) (ih c.b mn c.xs c.F (e 1) K' _ ((hT c hcm).ext (X.tr (Ext.dr _ _ _)) fun y o g => by have := hGc c hcm y o g; omega) (hGc c hcm) (hkv.ext (Ext.dr _ _ _)) (by omega) (by rw [sz_dr]; omega)) ?_
        rintro kv2 w2 ⟨H2, X2⟩
        refine ⟨.inr (keeps_on X2 fun y hy => ?_), ?_⟩
        · rw [sz_dr]
          simp only [List.mem_cons, List.not_mem_nil, or_false] at hy
          rcases hy with rfl | rfl | rfl
          · exact ⟨wok_lt o'.wb, fun o g => by have := hGo _ 0 (.inl rfl); omega⟩
          · exact ⟨wok_lt k'.wc, fun o g => by have := hGk _ 0 (.inl rfl); omega⟩
          · exact ⟨wok_lt k'.wa, fun o g => by have := hGk _ oa (.inr ⟨rfl, by omega, by have := k'.le; rw [List.length_map] at this; omega⟩); omega⟩
        simp only [↓List.toList_toArray, ↓rgd, ↓rgf, ↓reduceIte, Nat.reduceEqDiff, rg, ow_42]
        refine hK _ _ ?_; clear hK K0
        refine W_ret ?_
        refine endQ_1 (by simp only [upd_eq, Nat.reduceEqDiff, ↓reduceIte] <;> rfl) ⟨?_, X.tr X2.od⟩
        rw [hKe]
        exact H2
end Go.Proofs.Ytinpigpeoakeaaa
