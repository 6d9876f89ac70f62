/-
  Setting in ascending order. No condition.
-/
import Derived.Test.YthonmbkjbgkfaaaPath
import Derived.Test.YthonmbkjbgkfaaaMGrow2
import Derived.Test.YthonmbkjbgkfaaaMGet
set_option linter.unusedSimpArgs false
set_option linter.unusedVariables false
namespace Go.Proofs.Ythonmbkjbgkfaaa
open Go Go.Proofs
section
variable {α R : Type} (O : SOrd R) (κ : α → R)
theorem put_last {x : α} {xs : List α} (h : ∀ y ∈ xs, O.lt (κ y) (κ x) = true) : put O κ x xs = xs ++ [x] ∧ hit O κ (κ x) xs = false ∧ at? O κ (κ x) xs = none := by
  have hl : lb O κ (κ x) xs = xs.length := by have := lb_append_of_lt O κ (q := κ x) (xs := xs) [] h; simpa [lb] using this
  have hh : hit O κ (κ x) xs = false := by unfold hit; rw [hl, List.getElem?_eq_none (Nat.le_refl _)]
  refine ⟨?_, hh, ?_⟩
  · unfold put; rw [hh, hl]; simp
  · unfold at?; rw [hh]; rfl
theorem all_lt {x y : α} {xs ys A : List α} (ha : Asc O κ xs) (hx : xs = A ++ ys) (hy : ys[ys.length - 1]? = some y) (h : O.lt (κ y) (κ x) = true) : ∀ z ∈ xs, O.lt (κ z) (κ x) = true := by
  have hne : ys ≠ [] := fun h => by rw [h] at hy; simp at hy
  have e : ys = ys.dropLast ++ [y] := by
    rw [← List.getLast?_eq_getElem?] at hy
    rw [List.getLast?_eq_some_getLast hne, Option.some.injEq] at hy
    rw [← hy]
    exact (List.dropLast_concat_getLast hne).symm
  rw [hx, e, ← List.append_assoc]
  refine asc_left O κ ?_ h
  rw [hx, e, ← List.append_assoc] at ha
  exact ha
end
def lastSel (n : Nat) : Nat := n - 1
theorem lastSel_lt (n : Nat) (h : 0 < n) : lastSel n < n := by unfold lastSel; omega
set_option maxHeartbeats 2000000 in
set_option maxRecDepth 8000 in
theorem load_map (m d : Nat) (iso : Int) (x : It) (hd : 2 ≤ d) (hd' : d ≤ 128) (xs : List It) (F : Nat → Nat → Prop) (w : World) (hM : MapAt w m d iso xs F) (hbig : xs.length < 1152921504606846976) :
    CallK Try.prog 62 #[ptr m, kV x.1, vV x] w fun v w' => v = .tuple #[vV ((at? O κ (κ x) xs).getD zIt), .bool (hit O κ (κ x) xs)] ∧ Ext (mapF m F) w w' ∧
      ∃ F', MapAt w' m d iso (put O κ x xs) F' ∧ ∀ y o, F' y o → F y o ∨ w.heap.size ≤ y := by
  have hml := hM.mlt
  refine calls_of_W [.tmp 6, .tmp 7] Try.func62 rfl Try.ntmps62 Try.results62 (by simp) fun e he => ?_
  have e0 : e 0 = ptr m := he 0 _ rfl
  have e1 : e 1 = .int .i64 x.1 := he 1 _ rfl
  have e2 : e 2 = .int .i64 x.2 := he 2 _ rfl
  clear he
  refine W_sq fun K0 hK => (W_text [true, true] (by kernel_rfl) ?_); simp only [↓List.toList_toArray, ↓rgd, ↓reduceIte, Nat.reduceEqDiff, rg, ow_62]
  refine hK _ _ ?_; clear hK K0
  refine W_sq fun K0 hK => (W_text [true, true, true, false, false] (by kernel_rfl) ?_); simp only [↓List.toList_toArray, ↓rgd, ↓reduceIte, Nat.reduceEqDiff, rg, ow_62, e1, e2, bu_it]
  refine do_alloc z_it fun w1 n1 => ⟨trivial, ?_⟩
  simp only [↓List.toList_toArray, ↓rgd, ↓reduceIte, Nat.reduceEqDiff, rg, ow_62]
  refine do_store (by simp only [evt, evc, upd_eq, Nat.reduceEqDiff, ↓reduceIte, ntT, ntF] <;> rfl) (by simp only [evt, evc, upd_eq, Nat.reduceEqDiff, ↓reduceIte, ntT, ntF] <;> rfl) sz_90 (itV_len x) n1.wok (by decide) (itV_oc x) fun w2 x2 r2 s2 => ⟨trivial, ?_⟩
  simp only [↓List.toList_toArray, ↓rgd, ↓reduceIte, Nat.reduceEqDiff, rg, ow_62]
  refine hK _ _ ?_; clear hK K0
  have s1 := n1.size
  have s2' : w2.heap.size = w.heap.size + 1 := by omega
  have X2 : Ext noF w w2 := noF_of n1.ext x2 fun y o hy h => by simp only [rng] at h; omega
  have rx : Row w2 w.heap.size 0 (E.cel x) := r2
  have hM2 := hM.ext X2
  have hFlt := hM.lt
  obtain ⟨B, hB⟩ : ∃ B, B = w.heap.size := ⟨_, rfl⟩
  rw [← hB] at rx s2' ⊢
  have rxv : rd w2 B 0 = some (.int .i64 x.2) := vV_at rx
  have rxk : rd w2 B 1 = some (.int .i64 x.1) := kV_at rx
  refine W_seq ?_
  rcases hM2.root with ⟨rfl, hr⟩ | ⟨h, b, hr, ht⟩
  · refine W_sq fun K0 hK => (W_text [true, true, true, true, true] (by kernel_rfl) ?_); simp only [↓List.toList_toArray, ↓rgd, ↓reduceIte, Nat.reduceEqDiff, rg, ow_62, e0, ptr_eq, hr]
    refine hK _ _ ?_; clear hK K0
    refine W_true (by simp only [evt, evc, upd_eq, Nat.reduceEqDiff, ↓reduceIte, ntT, ntF] <;> rfl) ?_
    refine W_sq fun K0 hK => (W_text [true, true, true, true, true, false, true, true, true, true] (by kernel_rfl) ?_); simp only [↓List.toList_toArray, ↓rgd, ↓reduceIte, Nat.reduceEqDiff, rg, ow_62, e0, rxv, rxk]
    refine do_call fn_58 (by simp only [evt, evc, upd_eq, Nat.reduceEqDiff, ↓reduceIte, maT, maC, maN, isnN, isnS] <;> rfl) (set_map m d iso x hd hd' _ F w2 hM2 hbig) ?_
    rintro _ w3 ⟨rfl, x3, F', hM3, hF'⟩
    refine ⟨trivial, ?_⟩
    simp only [↓List.toList_toArray, ↓rgd, ↓reduceIte, Nat.reduceEqDiff, rg, ow_62]
    refine hK _ _ ?_; clear hK K0
    refine W_ret ?_
    simp only [andThen_ret]
    refine endQ_2 (by simp only [upd_eq, Nat.reduceEqDiff, ↓reduceIte] <;> rfl) (by simp only [upd_eq, Nat.reduceEqDiff, ↓reduceIte] <;> rfl) ⟨rfl, (X2.mono fun _ _ _ h => h.elim).tr x3, F', hM3, fun y o g => (hF' y o g).imp id fun g => by omega⟩
  · refine W_sq fun K0 hK => (W_text [true, true, true, true, true] (by kernel_rfl) ?_); simp only [↓List.toList_toArray, ↓rgd, ↓reduceIte, Nat.reduceEqDiff, rg, ow_62, e0, ptr_eq, hr]
    refine hK _ _ ?_; clear hK K0
    refine W_false (by simp only [evt, evc, upd_eq, Nat.reduceEqDiff, ↓reduceIte, ntT, ntF] <;> rfl) (W_skip ?_)
    show W _ _ _ _ _ _
    refine W_sq fun K0 hK => (W_text [true, true, true, true, false, true] (by kernel_rfl) ?_); simp only [↓List.toList_toArray, ↓rgd, ↓reduceIte, Nat.reduceEqDiff, rg, ow_62, e0, ptr_eq]
    refine do_call fn_81 (by simp only [evt, evc, upd_eq, Nat.reduceEqDiff, ↓reduceIte, maT, maC, maN, isnN, isnS] <;> rfl) (isoLoad_any m m 2 b true iso w2 hM2.cfg.iso hr ht.iso0.1) ?_
    rintro _ w3 ⟨rfl, r3⟩
    refine ⟨trivial, ?_⟩
    simp only [↓List.toList_toArray, ↓rgd, ↓reduceIte, Nat.reduceEqDiff, rg, ow_62]
    refine hK _ _ ?_; clear hK K0
    have X3 : Ext noF w w3 := X2.tr r3.ext
    have s3 : w3.heap.size = B + 1 := by obtain ⟨n, rfl⟩ := r3; exact s2'
    replace rx : Row w3 B 0 (E.cel x) := r3.ext.row (F := noF) rx fun _ _ h => h
    replace hM := hM.ext X3
    replace hr : rd w3 m 2 = some (ptr b) := r3.ext.rd (F := noF) hr fun h => h
    replace ht := ht.ext (r3.ext (F := noF)) fun _ _ _ h => h
    clear hM2 rxv rxk X2 x2 r2 r3 n1 s2 s1
    obtain ⟨root, hroot⟩ : ∃ root, root = b := ⟨_, rfl⟩
    rw [← hroot] at hr
    have mS : ∀ y o, F y o → y ≠ m := fun y o g h => hM.off o (h ▸ g)
    refine W_sqx fun K hK => ?_
    have hrest : ∀ (e' : Env) (w' : World) (D : Nat → Prop), Shift 1 w3 w' D → (∀ y, RS lastSel w3 h b y ↔ D y) → e' 0 = ptr m → e' 8 = ptr B → K e' w' := by
      intro e w' D sh hD e0 e8
      refine hK _ _ ?_; clear hK K
      have hr' := sh.ext.rd hr (fun g => by omega)
      refine W_sq fun K0 hK => (W_text [true, true, true, true, true] (by kernel_rfl) ?_); simp only [↓List.toList_toArray, ↓rgd, ↓reduceIte, Nat.reduceEqDiff, rg, ow_62, e0, ptr_eq, hr']
      refine hK _ _ ?_; clear hK K0
      refine W_sqx fun K hK => ?_
      have hend : ∀ (e' : Env) (w' : World), Ext noF w3 w' → e' 0 = ptr m → e' 8 = ptr B → K e' w' := by
        intro e w' X e0 e8
        refine hK _ _ ?_; clear hK K
        have v0 : rd w' B 0 = some (.int .i64 x.2) := X.rd (vV_at rx) fun h => h
        have v1 : rd w' B 1 = some (.int .i64 x.1) := X.rd (kV_at rx) fun h => h
        refine W_sq fun K0 hK => (W_text [true, true, true, true, true, false, true, true, true, true] (by kernel_rfl) ?_); simp only [↓List.toList_toArray, ↓rgd, ↓reduceIte, Nat.reduceEqDiff, rg, ow_62, e0, e8, ptr_eq, v0, v1]
        refine do_call fn_58 (by simp only [evt, evc, upd_eq, Nat.reduceEqDiff, ↓reduceIte, maT, maC, maN, isnN, isnS] <;> rfl) (set_map m d iso x hd hd' xs F w' (hM.ext X) hbig) ?_
        rintro _ w4 ⟨rfl, x4, F', hM4, hF'⟩
        refine ⟨trivial, ?_⟩
        simp only [↓List.toList_toArray, ↓rgd, ↓reduceIte, Nat.reduceEqDiff, rg, ow_62]
        refine hK _ _ ?_; clear hK K0
        have sX := X.size
        refine W_ret ?_
        refine endQ_2 (by simp only [upd_eq, Nat.reduceEqDiff, ↓reduceIte] <;> rfl) (by simp only [upd_eq, Nat.reduceEqDiff, ↓reduceIte] <;> rfl) ⟨rfl, ((X3.tr X).mono fun _ _ _ h => h.elim).tr x4, F', hM4, fun y o g => (hF' y o g).imp id fun g => by omega⟩
      clear hK
      refine W_block (W_loop (fun mm e w' => ∃ (lo b : Nat) (ys : List It) (F : Nat → Nat → Prop) (D : Nat → Prop), Tr E iso (d - 1) (2 * d - 1) mm w3 lo b ys F ∧ Shift 1 w3 w' D ∧ (∀ y, RS lastSel w3 mm b y ↔ D y) ∧ ys.length ≤ xs.length ∧ e 0 = ptr m ∧ e 8 = ptr B ∧ e 9 = ptr b)
        h ⟨1, b, xs, F, D, ht, sh, hD, Nat.le_refl _, ?_, ?_, ?_⟩ ?_)
      · simp only [upd_eq, Nat.reduceEqDiff, ↓reduceIte]; exact e0
      · simp only [upd_eq, Nat.reduceEqDiff, ↓reduceIte]; exact e8
      · simp only [upd_eq, Nat.reduceEqDiff, ↓reduceIte]; rw [hroot]; rfl
      clear sh hD e0 e8 hr' D e w' ht
      rintro mm e w' ⟨lo, b, ys, F', D, ht, sh, hD, hle, e0, e8, e9⟩
      obtain ⟨bi, oi, cap, ks, ch, ho, h1, h2, _, hin⟩ := ht.open
      have hDb : D b := (hD b).1 (by cases mm <;> simp [RS])
      obtain ⟨k, k1, k2⟩ := sh.cnt b hDb
      rw [ho.h1, Option.some.injEq, Value.int.injEq] at k1
      obtain ⟨-, rfl⟩ := k1
      have q1 : IntKind.i64.wrap ((ys.length : Int) + 1 - 1) = ys.length := by rw [IntWalk.i64_in _ (by omega)]; omega
      refine W_block ?_
      refine W_sq fun K0 hK => (W_text [true, true, true, true, true, true, true, false] (by kernel_rfl) ?_); simp only [↓List.toList_toArray, ↓rgd, ↓reduceIte, Nat.reduceEqDiff, rg, ow_62, e9, ptr_eq, k2, q1]
      refine do_store (by simp only [evt, evc, upd_eq, Nat.reduceEqDiff, ↓reduceIte, ntT, ntF] <;> rfl) (by simp only [evt, evc, upd_eq, Nat.reduceEqDiff, ↓reduceIte, ntT, ntF] <;> rfl) sz_3 rfl (sh.ext.wok ho.wb) (by decide) (oc_one rfl rfl) fun w4 x4 r4 s4 => ⟨trivial, ?_⟩
      simp only [↓List.toList_toArray, ↓rgd, ↓reduceIte, Nat.reduceEqDiff, rg, ow_62]
      refine hK _ _ ?_; clear hK K0
      have sh4 := sh.undo hDb ho.h1 x4 (Row.cons.1 r4).1
      have b3 := sh4.ext.rd ho.h3 (fun g => by omega)
      refine W_seq ?_
      rcases hin with ⟨rfl, rfl, rfl, hF⟩ | ⟨h', bc, ba, oa, capc, cs, rfl, rfl, n⟩
      · refine W_sq fun K0 hK => (W_text [true, false] (by kernel_rfl) ?_); simp only [↓List.toList_toArray, ↓rgd, ↓reduceIte, Nat.reduceEqDiff, rg, ow_62, e9]
        refine do_call fn_82 (by simp only [evt, evc, upd_eq, Nat.reduceEqDiff, ↓reduceIte, maT, maC, maN, isnN, isnS] <;> rfl) (leaf_any b none w4 b3) ?_
        rintro _ w4 ⟨rfl, rfl⟩
        refine ⟨trivial, ?_⟩
        simp only [↓List.toList_toArray, ↓rgd, ↓reduceIte, Nat.reduceEqDiff, rg, ow_62]
        refine hK _ _ ?_; clear hK K0
        refine W_true (by simp only [evt, evc, upd_eq, Nat.reduceEqDiff, ↓reduceIte, ntT, ntF] <;> rfl) (W_exit ?_)
        simp only [andThen_exit, inBlk_exit, andThen_normal, Nat.reduceEqDiff, ↓reduceIte]
        refine hend _ _ (sh4.ext.mono fun y o _ g => g.2.2 ((hD y).2 g.2.1)) ?_ ?_
        · simp only [upd_eq, Nat.reduceEqDiff, ↓reduceIte]; exact e0
        · simp only [upd_eq, Nat.reduceEqDiff, ↓reduceIte]; exact e8
      · refine W_sq fun K0 hK => (W_text [true, false] (by kernel_rfl) ?_); simp only [↓List.toList_toArray, ↓rgd, ↓reduceIte, Nat.reduceEqDiff, rg, ow_62, e9]
        refine do_call fn_82 (by simp only [evt, evc, upd_eq, Nat.reduceEqDiff, ↓reduceIte, maT, maC, maN, isnN, isnS] <;> rfl) (leaf_any b (some ⟨bc, 0, none⟩) w4 b3) ?_
        rintro _ w4 ⟨rfl, rfl⟩
        refine ⟨trivial, ?_⟩
        simp only [↓List.toList_toArray, ↓rgd, ↓reduceIte, Nat.reduceEqDiff, rg, ow_62]
        refine hK _ _ ?_; clear hK K0
        refine W_false (by simp only [evt, evc, upd_eq, Nat.reduceEqDiff, ↓reduceIte, ntT, ntF] <;> rfl) (W_skip ?_)
        show W _ _ _ _ _ _
        have hcl : lastSel cs.length < cs.length := lastSel_lt _ (by have := n.len; omega)
        obtain ⟨c, hc⟩ : ∃ c, cs[lastSel cs.length]? = some c := ⟨_, List.getElem?_eq_getElem hcl⟩
        have hcm : c ∈ cs := List.mem_of_getElem? hc
        have htc := n.sub c hcm
        have hcD : ∀ y, (D y ∧ y ≠ b) ↔ RS lastSel w3 h' c.b y := by
          intro y
          rw [← hD y, n.rs ho.h3 hc y]
          refine ⟨fun g => g.1.resolve_left g.2, fun g => ⟨.inr g, fun hb => ?_⟩⟩
          rw [hb] at g
          exact n.ap.own c hcm b 0 (RS.sub lastSel_lt htc b g 0) (.inl rfl)
        have k4 := n.kids.ext sh4.ext fun y o g hh => n.ap.kid c hcm y o (RS.sub lastSel_lt htc y ((hcD y).1 hh.2) o) g
        have hc0 := k4.c0
        rw [List.length_map] at hc0
        have hcr : rd w4 ba (oa + (cs.length - 1)) = some (ptr c.b) := ptr_at k4.row (by rw [List.getElem?_map]; exact congrArg _ hc)
        have q2 := wsub1 cs.length (by omega) (by have := n.len; omega)
        have hlc : cs.length - 1 < cs.length := hcl
        refine W_rg fun K0 hK => (W_draw (some none) none [(0, 0, 0), (0, 1, 0), (0, 2, 0), (0, 3, 0), (0, 4, 0), (0, 5, 0), (0, 6, 0), (0, 7, 0), (0, 8, 0), (0, 9, 0), (0, 10, 0), (0, 11, 0), (0, 12, 0), (0, 13, 0), (0, 14, 0), (0, 15, 0), (0, 16, 0)] mixed (by kernel_rfl) ?_); simp only [↓List.toList_toArray, ↓rgd, ↓reduceIte, Nat.reduceEqDiff, rg, ow_62, e9, ptr_eq, b3, hc0, q2, hlc, hcr]
        refine hK _ _ ?_; clear hK K0
        have hlen : c.xs.length ≤ ys.length := by rw [n.eq]; exact weave_mem_length _ _ (by simpa using n.len) _ (List.mem_map_of_mem hcm)
        refine ⟨h', by omega, d - 1, c.b, c.xs, c.F, _, htc, sh4.ro (RO.dr _ _), fun y => (hcD y).symm, by omega, ?_, ?_, ?_⟩
        · simp only [upd_eq, Nat.reduceEqDiff, ↓reduceIte]; exact e0
        · simp only [upd_eq, Nat.reduceEqDiff, ↓reduceIte]; exact e8
        · simp only [upd_eq, Nat.reduceEqDiff, ↓reduceIte]; rfl
    clear hK
    refine W_block (W_loop (fun mm e w' => ∃ (lo b' : Nat) (ys : List It) (Fb : Nat → Nat → Prop) (A : List It) (D : Nat → Prop), Tr E iso (d - 1) (2 * d - 1) mm w3 lo b' ys Fb ∧ 1 ≤ lo ∧ Shift 1 w3 w' D ∧ (∀ y, RS lastSel w3 h b y ↔ D y ∨ RS lastSel w3 mm b' y) ∧ (∀ y, D y → ∀ o, ¬ Fb y o) ∧ (∀ y, D y → ∀ o, F y o) ∧ xs = A ++ ys ∧
        Hole E iso (d - 1) (2 * d - 1) h 1 b F w3.heap.size w' mm lo b' ys Fb A [] 1 ∧ (∀ y o, Fb y o → F y o) ∧ e 0 = ptr m ∧ e 8 = ptr B ∧ e 9 = ptr b')
        h ⟨1, b, xs, F, [], fun _ => False, ht, Nat.le_refl _, Shift.nil _ _, fun y => by simp, fun _ h => h.elim, fun _ h => h.elim, rfl, Hole.root (Nat.le_refl _), fun _ _ g => g, ?_, ?_, ?_⟩ ?_)
    · simp only [upd_eq, Nat.reduceEqDiff, ↓reduceIte]; exact e0
    · simp only [upd_eq, Nat.reduceEqDiff, ↓reduceIte]; rfl
    · simp only [upd_eq, Nat.reduceEqDiff, ↓reduceIte]
    clear e0 e1 e2 e
    rintro mm e w' ⟨lo, b', ys, Fb, A, D, htb, hlo, sh, hD, hDF, hDD, hxs, hole, hsub, e0, e8, e9⟩
    obtain ⟨bi, oi, cap, ks, ch, ho, h1, h2, hoF, hin⟩ := htb.open
    have hyx : ys.length ≤ xs.length := by rw [hxs]; simp
    have hDb : ¬ D b' := fun g => hDF b' g 0 (htb.self 0)
    have q1 := wadd1 ys.length (by omega)
    have c1 := sh.ext.rd ho.h1 (fun g => hDb g.2)
    refine W_block ?_
    refine W_sq fun K0 hK => (W_text [true, true, true, true, true, true, true, false] (by kernel_rfl) ?_); simp only [↓List.toList_toArray, ↓rgd, ↓reduceIte, Nat.reduceEqDiff, rg, ow_62, e9, ptr_eq, c1, q1]
    refine do_store (by simp only [evt, evc, upd_eq, Nat.reduceEqDiff, ↓reduceIte, ntT, ntF] <;> rfl) (by simp only [evt, evc, upd_eq, Nat.reduceEqDiff, ↓reduceIte, ntT, ntF] <;> rfl) sz_3 rfl (sh.ext.wok ho.wb) (by decide) (oc_one rfl rfl) fun w4 x4 r4 s4 => ⟨trivial, ?_⟩
    simp only [↓List.toList_toArray, ↓rgd, ↓reduceIte, Nat.reduceEqDiff, rg, ow_62]
    refine hK _ _ ?_; clear hK K0
    have b1 : rd w4 b' 1 = some (.int .i64 (ys.length + 1 : Int)) := (Row.cons.1 r4).1
    have sh4 := sh.add hDb ho.h1 x4 b1
    have hFF : ∀ y o, (o = 1 ∧ (D y ∨ y = b')) → ∀ p, F y p := fun y o g p => g.2.elim (fun g => hDD y g p) fun g => by rw [g]; exact hsub _ _ (htb.self p)
    have hM4 : Cfg w4 m iso d := hM.cfg.ext sh4.ext fun o _ _ g => hM.off 0 (hFF _ _ g 0)
    have b3 := sh4.ext.rd ho.h3 (fun g => by omega)
    have b2 := sh4.ext.rd ho.h2 (fun g => by omega)
    refine W_seq ?_
    rcases hin with ⟨rfl, rfl, rfl, hF⟩ | ⟨h', bc, ba, oa, capc, cs, rfl, rfl, n⟩
    · refine W_sq fun K0 hK => (W_text [true, false] (by kernel_rfl) ?_); simp only [↓List.toList_toArray, ↓rgd, ↓reduceIte, Nat.reduceEqDiff, rg, ow_62, e9]
      refine do_call fn_82 (by simp only [evt, evc, upd_eq, Nat.reduceEqDiff, ↓reduceIte, maT, maC, maN, isnN, isnS] <;> rfl) (leaf_any b' none w4 b3) ?_
      rintro _ w4 ⟨rfl, rfl⟩
      refine ⟨trivial, ?_⟩
      simp only [↓List.toList_toArray, ↓rgd, ↓reduceIte, Nat.reduceEqDiff, rg, ow_62]
      refine hK _ _ ?_; clear hK K0
      refine W_true (by simp only [evt, evc, upd_eq, Nat.reduceEqDiff, ↓reduceIte, ntT, ntF] <;> rfl) ?_
      refine W_sqx fun K hK => ?_
      have hdown : ∀ (e' : Env) (w' : World), RO w4 w' → e' 0 = ptr m → e' 8 = ptr B → K e' w' := by
        intro e' w5 r5 f0 f8
        refine hK _ _ ?_; clear hK K
        refine W_exit ?_
        simp only [andThen_exit, inBlk_exit, andThen_normal, Nat.reduceEqDiff, ↓reduceIte]
        refine hrest _ _ _ (sh4.ro r5) (fun y => ?_) f0 f8
        rw [hD y]; rfl
      have hmx := hM4.mx
      have o4 := ho.row
      have row4 : Row w4 bi oi (flat E ys) := sh4.ext.row ho.row fun j hj g => by
        rw [flat_length] at hj
        have hc := Nat.mul_le_mul_right E.sz ho.le
        rcases g.2 with g | g
        · exact hDF _ g (oi + j) (hoF _ _ (.inr ⟨rfl, by omega, by omega⟩))
        · exact ho.ne g
      by_cases hfull : ys.length < 2 * d - 1
      · have t1 : decide ((ys.length : Int) < ((2 * d - 1 : Nat) : Int)) = true := by simp; omega
        refine W_sq fun K0 hK => (W_draw (some none) none [(0, 0, 0), (0, 1, 0), (0, 2, 0), (0, 3, 0), (0, 4, 0), (0, 5, 0), (0, 6, 0), (0, 7, 0), (0, 8, 0), (0, 9, 0)] mixed (by kernel_rfl) ?_); simp only [↓List.toList_toArray, ↓rgd, ↓reduceIte, Nat.reduceEqDiff, rg, ow_62, e0, e9, ptr_eq, b2, hmx, t1]
        refine hK _ _ ?_; clear hK K0
        refine W_true (by simp only [evt, evc, upd_eq, Nat.reduceEqDiff, ↓reduceIte, ntT, ntF] <;> rfl) ?_
        obtain ⟨y, hy⟩ : ∃ y, ys[ys.length - 1]? = some y := ⟨_, List.getElem?_eq_getElem (by omega)⟩
        have hyl : ys.length - 1 < ys.length := by omega
        have q2 := wsub1 ys.length (by omega) (by omega)
        have hyk : rd w4 bi (oi + (ys.length - 1) * 2 + 1) = some (.int .i64 y.1) := key_at row4 hy
        have rx4 : Row w4 B 0 (E.cel x) := sh4.ext.row rx fun j _ g => by have := hFlt _ _ (hFF _ _ g 0); omega
        have rxk : rd w4 B 1 = some (.int .i64 x.1) := kV_at rx4
        by_cases hlt : y.1 < x.1
        · have t2 : decide (y.1 < x.1) = true := by simpa using hlt
          refine W_sq fun K0 hK => (W_draw (some none) none [(0, 0, 0), (0, 1, 0), (0, 2, 0), (0, 3, 0), (0, 4, 0), (0, 5, 0), (0, 6, 0), (0, 7, 0), (0, 8, 0), (0, 9, 0), (0, 10, 0), (0, 11, 0), (0, 12, 0), (0, 13, 0), (0, 14, 0), (0, 15, 0)] mixed (by kernel_rfl) ?_); simp only [↓List.toList_toArray, ↓rgd, ↓reduceIte, Nat.reduceEqDiff, rg, ow_62, e8, e9, ptr_eq, b2, q2, hyl, hyk, rxk, t2]
          refine hK _ _ ?_; clear hK K0
          refine W_true (by simp only [evt, evc, upd_eq, Nat.reduceEqDiff, ↓reduceIte, ntT, ntF] <;> rfl) ?_
          have M1 : readsB (some (some [b', B])) b' = true := by simp [readsB]
          have M2 : readsB (some (some [b', B])) B = true := by simp [readsB]
          have ix := iA_at rx4
          refine W_sq fun K0 hK => (W_draw (some (some [b', B])) (some 10) [(0, 0, 0), (0, 1, 0), (0, 2, 0), (0, 3, 0), (0, 4, 0), (0, 5, 0), (1, 6, 0), (1, 7, 0), (0, 8, 0), (0, 9, 0), (1, 10, 0)] mixed (by kernel_rfl) ?_); simp only [↓List.toList_toArray, ↓rgd, ↓reduceIte, Nat.reduceEqDiff, rg, ow_62, e8, e9, ptr_eq, b2, ix, M1, M2]
          have s4' : w4.heap.size = w'.heap.size := s4
          have hbw := x4.wok (sh.ext.wok ho.wb)
          have hbl := wok_lt hbw
          have hwi : wok w4 bi (oi + cap * 2) := sh4.ext.wok ho.wi
          have hbil := wok_lt hwi
          have hBl : B < w4.heap.size := by have := sh4.ext.size; omega
          have hBb : B ≠ b' := fun g => by have := hFlt _ _ (hsub _ _ (g ▸ htb.self 0)); omega
          have hBbi : B ≠ bi := fun g => by have := hFlt _ _ (hsub _ _ (hoF bi oi (.inr ⟨rfl, by omega, by rw [E_sz]; have := ho.le; omega⟩))); omega
          have hmb : m ≠ b' := fun g => hM.off 0 (hsub _ _ (g ▸ htb.self 0))
          have hcap := ho.le
          have hne := ho.ne
          refine do_bsl rfl (bs_it1 x) fun w6 n6 => ⟨.inr (keep2 n6.ext ⟨by simp only [sz_dr]; omega, fun _ h => h⟩ ⟨by simp only [sz_dr]; omega, fun _ h => h⟩), ?_⟩
          simp only [↓List.toList_toArray, ↓rgd, ↓reduceIte, Nat.reduceEqDiff, rg, ow_62]
          have n6 := n6.od.od.od
          have s6 := n6.size
          have hsl : SlV w6 2 (.slice (some ⟨bi, oi, none⟩) ys.length cap) ys.length (flat E ys) := ⟨by rw [flat_length]; rfl, .inr ⟨bi, oi, cap, rfl, hcap, n6.ext.row row4 fun _ _ h => h, (n6.ext.wok hwi).R (Nat.le_refl _)⟩⟩
          have hz : SlV w6 2 (.slice (some ⟨w4.heap.size, 0, none⟩) 1 1) 1 (E.cel x) := ⟨rfl, .inr ⟨_, 0, 1, rfl, Nat.le_refl _, n6.row, n6.wok.R (Nat.le_refl _)⟩⟩
          refine do_append (by simp only [evt, evc, upd_eq, Nat.reduceEqDiff, ↓reduceIte, ntT, ntF] <;> rfl) (by simp only [evt, evc, upd_eq, Nat.reduceEqDiff, ↓reduceIte, ntT, ntF] <;> rfl) el_it rfl ni_104 hsl hz (by omega) (by decide) (E.one x) fun v7 w7 a7 => ?_
          obtain ⟨b2', o', cap', rfl, hcap', row7, wok7, x7, hcase⟩ := app_out a7 (n6.ext.wok hwi)
          refine ⟨.inr (keep2 x7 ⟨by omega, fun o h => by simp only [rng] at h; omega⟩ ⟨by omega, fun o h => by simp only [rng] at h; omega⟩), ?_⟩
          simp only [↓List.toList_toArray, ↓rgd, ↓reduceIte, Nat.reduceEqDiff, rg, ow_62, ptr_eq]
          have s7 := x7.size
          have wb7 := x7.wok (n6.ext.wok hbw)
          refine do_store (by simp only [evt, evc, upd_eq, Nat.reduceEqDiff, ↓reduceIte, ntT, ntF] <;> rfl) (by simp only [evt, evc, upd_eq, Nat.reduceEqDiff, ↓reduceIte, ntT, ntF] <;> rfl) sz_104 rfl wb7 (by decide) (oc_one rfl rfl) fun w8 x8 r8 s8 => ⟨.inl trivial, ?_⟩
          simp only [↓List.toList_toArray, ↓rgd, ↓reduceIte, Nat.reduceEqDiff, rg, ow_62]
          refine hK _ _ ?_; clear hK K0
          have hb2b : b2' ≠ b' := by omega
          have Y : Ext (fun y o => (rng bi (oi + ys.length * 2) 2 y o ∧ ys.length + 1 ≤ cap) ∨ (y = b' ∧ (o = 1 ∨ o = 2))) w' w8 := by
            refine ((x4.trans n6.ext (fun y o g => ?_) fun _ _ _ g => g.elim).trans x7 (fun _ _ g => g) fun y o _ g => ?_).trans x8 (fun _ _ g => g) fun y o _ g => ?_
            · simp only [rng] at g; exact .inr ⟨g.1, by omega⟩
            · exact .inl g
            · simp only [rng] at g; exact .inr ⟨g.1, by omega⟩
          have XF : Ext Fb w' w8 := Y.mono fun y o _ g => (hF y o).2 (by
            rcases g with g | g
            · simp only [rng] at g
              exact .inr ⟨g.1.1, by omega, by rw [E_sz]; omega⟩
            · exact .inl g.1)
          have htr : Tr E iso (d - 1) (2 * d - 1) 0 w8 lo b' (ys ++ [x]) (ownF E b' b2' o' cap') := by
            have g0 : rd w' b' 0 = some (.int .u64 iso) := sh.ext.rd ho.h0 (fun g => hDb g.2)
            have g3 : rd w' b' 3 = some (.pointer none) := sh.ext.rd ho.h3 (fun g => hDb g.2)
            refine ⟨b2', o', cap', ⟨?_, ?_, ?_, ?_, x8.wok wb7, ?_, x8.wok wok7, ?_, hb2b⟩, ?_, ?_, fun _ _ => Iff.rfl⟩
            · exact Y.rd g0 (by simp only [rng]; omega)
            · rw [List.length_append, List.length_singleton]
              exact x8.rd (x7.rd (n6.ext.rd b1 fun h => h) (by simp only [rng]; omega)) (by simp only [rng]; omega)
            · rw [List.length_append, List.length_singleton]
              exact (Row.cons.1 r8).1
            · exact Y.rd g3 (by simp only [rng]; omega)
            · rw [flat_append, flat_one]
              exact x8.row row7 fun j _ h => by simp only [rng] at h; omega
            · rw [List.length_append, List.length_singleton]; exact hcap'
            · rw [List.length_append, List.length_singleton]; omega
            · rw [List.length_append, List.length_singleton]; omega
          obtain ⟨F2, hT2, hF2⟩ := hole w8 (ys ++ [x]) (ownF E b' b2' o' cap') XF htr (fun y o g => by
            rcases g with g | g
            · exact .inl ((hF _ _).2 (.inl g))
            · rcases hcase with ⟨rfl, rfl, rfl⟩ | hc
              · exact .inl ((hF _ _).2 (.inr g))
              · exact .inr (by simp only [rng] at g; omega)) (by rw [List.length_append]; simp)
          rw [List.append_nil, ← List.append_assoc, ← hxs] at hT2
          have XW : Ext F w3 w8 := (sh.ext.mono fun y o _ g => hDD y g.2 o).tr (XF.mono fun y o _ g => hsub y o g)
          have ct8 := XW.rd hM.cnt (hM.off 3)
          have q3 := wadd1 xs.length (by omega)
          have cf8 := hM.cfg.ext XW fun o _ _ => hM.off o
          refine W_sq fun K0 hK => (W_text [true, true, true, true, true, true, true, false] (by kernel_rfl) ?_); simp only [↓List.toList_toArray, ↓rgd, ↓reduceIte, Nat.reduceEqDiff, rg, ow_62, e0, ptr_eq, ct8, q3]
          refine do_store (by simp only [evt, evc, upd_eq, Nat.reduceEqDiff, ↓reduceIte, ntT, ntF] <;> rfl) (by simp only [evt, evc, upd_eq, Nat.reduceEqDiff, ↓reduceIte, ntT, ntF] <;> rfl) sz_3 rfl cf8.wok (by decide) (oc_one rfl rfl) fun w9 x9 r9 s9 => ⟨trivial, ?_⟩
          simp only [↓List.toList_toArray, ↓rgd, ↓reduceIte, Nat.reduceEqDiff, rg, ow_62]
          refine hK _ _ ?_; clear hK K0
          have cf9 := cf8.ext x9 fun o h2 h3 g => by simp only [rng] at g; omega
          have zv9 := vV_at cf9.ez
          refine W_sq fun K0 hK => (W_text [true, true, true, true, true, true, true] (by kernel_rfl) ?_); simp only [↓List.toList_toArray, ↓rgd, ↓reduceIte, Nat.reduceEqDiff, rg, ow_62, e0, ptr_eq, zv9]
          refine hK _ _ ?_; clear hK K0
          refine W_ret ?_
          simp only [andThen_ret, inBlk_ret]
          obtain ⟨p1, p2, p3⟩ := put_last O κ (all_lt O κ hM.asc hxs hy t2)
          have hF2m : ∀ o, ¬ F2 m o := fun o g => by
            rcases hF2 m o g with g | g
            · exact hM.off o g
            · omega
          refine endQ_2 (by simp only [upd_eq, Nat.reduceEqDiff, ↓reduceIte] <;> rfl) (by simp only [upd_eq, Nat.reduceEqDiff, ↓reduceIte] <;> rfl) ⟨by rw [p2, p3]; rfl, ?_, F2, ⟨cf9, ?_, put_asc O κ hM.asc, .inr ⟨h, b, ?_, ?_⟩, hF2m, ?_⟩, ?_⟩
          · refine ((X3.mono fun _ _ _ h => h.elim).tr (XW.mono fun y o _ g => .inl g)).tr (x9.mono fun y o _ g => ?_)
            simp only [rng] at g
            exact .inr ⟨g.1, by omega⟩
          · rw [p1, List.length_append, List.length_singleton]; exact (Row.cons.1 r9).1
          · rw [hroot] at hr
            exact x9.rd (XW.rd hr (hM.off 2)) (by simp only [rng]; omega)
          · rw [p1]
            exact hT2.ext x9 fun y o g k => by simp only [rng] at k; rw [k.1] at g; exact hF2m _ g
          · intro y o g; rw [s9]; exact hT2.lt y o g
          · intro y o g
            exact (hF2 y o g).imp id fun g => by omega
        · have t2 : decide (y.1 < x.1) = false := by simpa using hlt
          refine W_sq fun K0 hK => (W_draw (some none) none [(0, 0, 0), (0, 1, 0), (0, 2, 0), (0, 3, 0), (0, 4, 0), (0, 5, 0), (0, 6, 0), (0, 7, 0), (0, 8, 0), (0, 9, 0), (0, 10, 0), (0, 11, 0), (0, 12, 0), (0, 13, 0), (0, 14, 0), (0, 15, 0)] mixed (by kernel_rfl) ?_); simp only [↓List.toList_toArray, ↓rgd, ↓reduceIte, Nat.reduceEqDiff, rg, ow_62, e8, e9, ptr_eq, b2, q2, hyl, hyk, rxk, t2]
          refine hK _ _ ?_; clear hK K0
          refine W_false (by simp only [evt, evc, upd_eq, Nat.reduceEqDiff, ↓reduceIte, ntT, ntF] <;> rfl) (W_skip ?_)
          simp only [andThen_normal]
          refine hdown _ _ ((RO.dr _ _).tr (RO.dr _ _)) ?_ ?_
          · simp only [upd_eq, Nat.reduceEqDiff, ↓reduceIte]; exact e0
          · simp only [upd_eq, Nat.reduceEqDiff, ↓reduceIte]; exact e8
      · have t1 : decide ((ys.length : Int) < ((2 * d - 1 : Nat) : Int)) = false := by simp; omega
        refine W_sq fun K0 hK => (W_draw (some none) none [(0, 0, 0), (0, 1, 0), (0, 2, 0), (0, 3, 0), (0, 4, 0), (0, 5, 0), (0, 6, 0), (0, 7, 0), (0, 8, 0), (0, 9, 0)] mixed (by kernel_rfl) ?_); simp only [↓List.toList_toArray, ↓rgd, ↓reduceIte, Nat.reduceEqDiff, rg, ow_62, e0, e9, ptr_eq, b2, hmx, t1]
        refine hK _ _ ?_; clear hK K0
        refine W_false (by simp only [evt, evc, upd_eq, Nat.reduceEqDiff, ↓reduceIte, ntT, ntF] <;> rfl) (W_skip ?_)
        simp only [andThen_normal]
        refine hdown _ _ (RO.dr _ _) ?_ ?_
        · simp only [upd_eq, Nat.reduceEqDiff, ↓reduceIte]; exact e0
        · simp only [upd_eq, Nat.reduceEqDiff, ↓reduceIte]; exact e8
    · have hcl : lastSel cs.length < cs.length := lastSel_lt _ (by have := n.len; omega)
      obtain ⟨c, hc⟩ : ∃ c, cs[lastSel cs.length]? = some c := ⟨_, List.getElem?_eq_getElem hcl⟩
      have hcm : c ∈ cs := List.mem_of_getElem? hc
      have htc := n.sub c hcm
      have hcF : ∀ y o, c.F y o → Fb y o := fun y o g => (n.fp y o).2 (.inr (.inr ⟨c, hcm, g⟩))
      refine W_sq fun K0 hK => (W_text [true, false] (by kernel_rfl) ?_); simp only [↓List.toList_toArray, ↓rgd, ↓reduceIte, Nat.reduceEqDiff, rg, ow_62, e9]
      refine do_call fn_82 (by simp only [evt, evc, upd_eq, Nat.reduceEqDiff, ↓reduceIte, maT, maC, maN, isnN, isnS] <;> rfl) (leaf_any b' (some ⟨bc, 0, none⟩) w4 b3) ?_
      rintro _ w4 ⟨rfl, rfl⟩
      refine ⟨trivial, ?_⟩
      simp only [↓List.toList_toArray, ↓rgd, ↓reduceIte, Nat.reduceEqDiff, rg, ow_62]
      refine hK _ _ ?_; clear hK K0
      refine W_false (by simp only [evt, evc, upd_eq, Nat.reduceEqDiff, ↓reduceIte, ntT, ntF] <;> rfl) (W_skip ?_)
      show W _ _ _ _ _ _
      have n4 := n.ext sh4.ext (fun y o g hh => by
        rcases hh.2 with hh | hh
        · exact hDF y hh o ((n.fp y o).2 (.inr (.inl g)))
        · subst hh
          rcases g with g | g
          · exact n.ap.cb g.symm
          · exact n.ap.ab g.1.symm) fun d' hd y o g hh => by
        rcases hh.2 with hh | hh
        · exact hDF y hh o ((n.fp y o).2 (.inr (.inr ⟨d', hd, g⟩)))
        · exact n.ap.own d' hd y o g (.inl hh)
      have hc0 := n4.kids.c0
      rw [List.length_map] at hc0
      have hcr : rd w4 ba (oa + (cs.length - 1)) = some (ptr c.b) := ptr_at n4.kids.row (by rw [List.getElem?_map]; exact congrArg _ hc)
      have q2 := wsub1 cs.length (by omega) (by have := n.len; omega)
      have hlc : cs.length - 1 < cs.length := hcl
      refine W_rg fun K0 hK => (W_draw (some none) none [(0, 0, 0), (0, 1, 0), (0, 2, 0), (0, 3, 0), (0, 4, 0), (0, 5, 0), (0, 6, 0), (0, 7, 0), (0, 8, 0), (0, 9, 0), (0, 10, 0), (0, 11, 0), (0, 12, 0), (0, 13, 0), (0, 14, 0), (0, 15, 0), (1, 16, 0), (0, 17, 0)] mixed (by kernel_rfl) ?_); simp only [↓List.toList_toArray, ↓rgd, ↓reduceIte, Nat.reduceEqDiff, rg, ow_62, e0, e9, ptr_eq, b3, hc0, q2, hlc]
      refine do_call fn_81 (by simp only [evt, evc, upd_eq, Nat.reduceEqDiff, ↓reduceIte, maT, maC, maN, isnN, isnS] <;> rfl) (isoLoad_any m ba (oa + (cs.length - 1)) c.b true iso _ hM4.iso hcr (n4.sub c hcm).iso0.1) ?_
      rintro _ w5 ⟨rfl, r5⟩
      refine ⟨.inr (keeps_ro r5), ?_⟩
      simp only [↓List.toList_toArray, ↓rgd, ↓reduceIte, Nat.reduceEqDiff, rg, ow_62]
      refine hK _ _ ?_; clear hK K0
      have R5 : RO w4 w5 := (RO.dr _ _).tr r5
      obtain ⟨A', C', hw⟩ := weave_at (lastSel cs.length) (cs.map Kid.xs) ks (by simpa using n.len) (by have := n.len; simp only [lastSel]; omega)
      have hC' : C' = [] := by
        rcases hw.right with ⟨hC, _⟩ | ⟨k, _, hk, _⟩
        · exact hC
        · have := (List.getElem?_eq_some_iff.1 hk).1; have := n.len; simp only [lastSel] at *; omega
      subst hC'
      have hxe : ys = A' ++ c.xs := by rw [n.eq, hw.eq (c := c.xs) (by rw [List.getElem?_map, hc]; rfl), List.append_nil]
      have n' := n.ext sh.ext (fun y o g hh => hDF y hh.2 o ((n.fp y o).2 (.inr (.inl g)))) fun d' hd y o g hh => hDF y hh.2 o ((n.fp y o).2 (.inr (.inr ⟨d', hd, g⟩)))
      have ho' := ho.ext sh.ext fun y o g hh => hDF y hh.2 o (hoF y o g)
      have hole4 := (hole.down n' ho' h1 h2 x4 b1 hc hw).ro R5
      refine ⟨h', by omega, d - 1, c.b, c.xs, c.F, A ++ A', _, htc, by omega, sh4.ro R5, fun y => ?_, fun y g o hh => ?_, fun y g => ?_, by rw [hxs, hxe, List.append_assoc], hole4, fun y o g => hsub y o (hcF y o g), ?_, ?_, ?_⟩
      · rw [hD y, n.rs ho.h3 hc y, or_assoc]
      · rcases g with g | g
        · exact hDF y g o (hcF y o hh)
        · exact n.ap.own c hcm y o hh (.inl g)
      · exact hFF y 1 ⟨rfl, g⟩
      · simp only [upd_eq, Nat.reduceEqDiff, ↓reduceIte]; exact e0
      · simp only [upd_eq, Nat.reduceEqDiff, ↓reduceIte]; exact e8
      · simp only [upd_eq, Nat.reduceEqDiff, ↓reduceIte]
end Go.Proofs.Ythonmbkjbgkfaaa
