/-
  A full node is split: its items and children up to the middle stay, those behind go to a new node. No condition.
-/
import Derived.Test.YtdffddiaoheklaaMCount
set_option linter.unusedSimpArgs false
set_option linter.unusedVariables false
namespace Go.Proofs.Ytdffddiaoheklaa
open Go Go.Proofs
theorem slFrom_ne {b o sz l n c : Nat} (h : c ≠ l) : slFrom b o sz l n c = .slice (some ⟨b, o + l * sz, none⟩) (n - l) (c - l) := by simp [slFrom, h]
theorem z_it : zK Try.prog 38 = some (E.cel zIt) := by kernel_rfl
theorem itV_cells (x : It) : (itV x).cells.toList = E.cel x := rfl
theorem itV_len (x : It) : (itV x).cells.toList.length = 2 := rfl
theorem itV_oc (x : It) : oc (itV x).cells.toList := E.one x
set_option maxHeartbeats 400000 in
set_option maxRecDepth 8000 in
theorem split_leaf (m d b bi oi cap : Nat) (iso cnt : Int) (ks : List It) (w : World) (hd : 2 ≤ d) (hd' : d ≤ 128) (hc : Cfg w m iso d) (ho : Own E w b iso cnt bi oi cap ks (.pointer none)) (hl : ks.length = 2 * d - 1)
    (hm : ∀ o, ¬ ownF E b bi oi cap m o) :
    CallK Try.prog 119 #[ptr m, ptr b] w fun v w' => ∃ rb x, v = .tuple #[ptr rb, itV x] ∧ ks[d - 1]? = some x ∧ Ext (ownF E b bi oi cap) w w' ∧ w.heap.size ≤ rb ∧
      Own E w' b iso (d - 1 : Nat) bi oi (d - 1) (ks.take (d - 1)) (.pointer none) ∧ Own E w' rb iso (d - 1 : Nat) bi (oi + d * 2) (cap - d) (ks.drop d) (.pointer none) := by
  refine calls_of_W [.tmp 4, .cell 5 38] Try.func119 rfl Try.ntmps119 Try.results119 (by simp) fun e he => ?_
  have e0 : e 0 = ptr m := he 0 _ rfl
  have e1 : e 1 = ptr b := he 1 _ rfl
  clear he
  obtain ⟨x, hx⟩ : ∃ x, ks[d - 1]? = some x := ⟨_, List.getElem?_eq_getElem (by omega)⟩
  have hcap := ho.le
  have wi : wok w bi (oi + cap * 2) := ho.wi
  have hbl := wok_lt ho.wb
  have hbil := wok_lt ho.wi
  have hml := wok_lt hc.wok
  have hmb : m ≠ b := fun h => hm 0 (.inl h)
  have q1 : IntKind.i64.wrap (((2 * d - 1 : Nat) : Int).tdiv 2) = ((d - 1 : Nat) : Int) := by rw [wdiv2 _ (by omega)]; congr 1; omega
  have q2 : IntKind.i64.wrap (((d - 1 : Nat) : Int) + 1) = ((d : Nat) : Int) := by rw [wadd1 _ (by omega)]; congr 1; omega
  have i1 : d - 1 < ks.length := by omega
  have i2 : d ≤ ks.length := by omega
  have i3 : d - 1 ≤ cap := by omega
  refine W_sq fun K hK => (W_text [true, false] (by kernel_rfl) ?_); simp only [↓List.toList_toArray, ↓rgd, ↓rgf, ↓reduceIte, Nat.reduceEqDiff, rg, ow_119]
  refine do_alloc z_it fun w1 n1 => ⟨trivial, ?_⟩
  simp only [↓List.toList_toArray, ↓rgd, ↓rgf, ↓reduceIte, Nat.reduceEqDiff, rg, ow_119]
  refine hK _ _ ?_; clear hK K
  have X1 := n1.ext
  have c1 := hc.ext X1 fun _ _ _ h => h
  refine W_sq fun K hK => (W_text [true, true, true, true, true, true] (by kernel_rfl) ?_); simp only [↓List.toList_toArray, ↓rgd, ↓rgf, ↓reduceIte, Nat.reduceEqDiff, rg, ow_119, e0, ptr_eq, c1.mx, q1]
  refine hK _ _ ?_; clear hK K
  have o1 := ho.ext X1 fun _ _ _ h => h
  have it1 := it_at o1.row hx
  refine W_sq fun K hK => (W_text [true, true, true, true, true, true, true, false] (by kernel_rfl) ?_); simp only [↓List.toList_toArray, ↓rgd, ↓rgf, ↓reduceIte, Nat.reduceEqDiff, rg, ow_119, e1, ptr_eq, o1.h2, i1, it1]
  refine do_store (by simp only [evt, evc, upd_eq, Nat.reduceEqDiff, ↓reduceIte, ntT, ntF] <;> rfl) (by simp only [evt, evc, upd_eq, Nat.reduceEqDiff, ↓reduceIte, ntT, ntF] <;> rfl) sz_38 (itV_len x) n1.wok (by decide) (itV_oc x) fun w2 x2 r2 s2 => ⟨trivial, ?_⟩
  simp only [↓List.toList_toArray, ↓rgd, ↓rgf, ↓reduceIte, Nat.reduceEqDiff, rg, ow_119]
  refine hK _ _ ?_; clear hK K
  have X2 : Ext noF w w2 := noF_of X1 x2 fun x o hx h => by simp only [rng] at h; omega
  have o2 := ho.ext X2 fun _ _ _ h => h
  have c2 := hc.ext X2 fun _ _ _ h => h
  have s2' : w2.heap.size = w.heap.size + 1 := by rw [s2, n1.size]
  refine W_sq fun K hK => (W_text [true, true, false, false, true] (by kernel_rfl) ?_); simp only [↓List.toList_toArray, ↓rgd, ↓rgf, ↓reduceIte, Nat.reduceEqDiff, rg, ow_119, e0, e1]
  refine do_call fn_108 (by simp only [evt, evc, upd_eq, Nat.reduceEqDiff, ↓reduceIte, maT, maC, maN, isnN, isnS] <;> rfl) (leaf_any b none w2 o2.h3) ?_
  rintro v w3 ⟨rfl, rfl⟩
  refine ⟨trivial, ?_⟩
  simp only [↓List.toList_toArray, ↓rgd, ↓rgf, ↓reduceIte, Nat.reduceEqDiff, rg, ow_119]
  refine do_call fn_117 (by simp only [evt, evc, upd_eq, Nat.reduceEqDiff, ↓reduceIte, maT, maC, maN, isnN, isnS] <;> rfl) (newNode_any m true iso w3 c2.iso) ?_
  rintro v w4 ⟨rb, rfl, x4, nn⟩
  refine ⟨trivial, ?_⟩
  simp only [↓List.toList_toArray, ↓rgd, ↓rgf, ↓reduceIte, Nat.reduceEqDiff, rg, ow_119]
  refine hK _ _ ?_; clear hK K
  have X4 := X2.tr x4
  have o4 := ho.ext X4 fun _ _ _ h => h
  have c4 := hc.ext X4 fun _ _ _ h => h
  have s4 := x4.size
  have nrb := nn.ge
  have hs : slFrom bi oi 2 d ks.length cap = .slice (some ⟨bi, oi + d * 2, none⟩) (ks.length - d) (cap - d) := slFrom_ne (by omega)
  refine W_sq fun K hK => (W_text [true, true, true, true, true, true, true, true, true, true, false] (by kernel_rfl) ?_); simp only [↓List.toList_toArray, ↓rgd, ↓rgf, ↓reduceIte, Nat.reduceEqDiff, rg, ow_119, e1, ptr_eq, o4.h2, q2, i2, hs]
  refine do_store (by simp only [evt, evc, upd_eq, Nat.reduceEqDiff, ↓reduceIte, ntT, ntF] <;> rfl) (by simp only [evt, evc, upd_eq, Nat.reduceEqDiff, ↓reduceIte, ntT, ntF] <;> rfl) sz_25 rfl nn.wb (by decide) (oc_one rfl rfl) fun w5 x5 r5 s5 => ⟨trivial, ?_⟩
  simp only [↓List.toList_toArray, ↓rgd, ↓rgf, ↓reduceIte, Nat.reduceEqDiff, rg, ow_119]
  refine hK _ _ ?_; clear hK K
  have X5 : Ext noF w w5 := noF_of X4 x5 fun x o hx h => by simp only [rng] at h; omega
  have o5 := ho.ext X5 fun _ _ _ h => h
  refine W_seq ?_
  refine W_sq fun K hK => (W_text [true, false, true] (by kernel_rfl) ?_); simp only [↓List.toList_toArray, ↓rgd, ↓rgf, ↓reduceIte, Nat.reduceEqDiff, rg, ow_119, e1]
  refine do_call fn_108 (by simp only [evt, evc, upd_eq, Nat.reduceEqDiff, ↓reduceIte, maT, maC, maN, isnN, isnS] <;> rfl) (leaf_any b none w5 o5.h3) ?_
  rintro v w6 ⟨rfl, rfl⟩
  refine ⟨trivial, ?_⟩
  simp only [↓List.toList_toArray, ↓rgd, ↓rgf, ↓reduceIte, Nat.reduceEqDiff, rg, ow_119]
  refine hK _ _ ?_; clear hK K
  refine W_false (by simp only [evt, evc, upd_eq, Nat.reduceEqDiff, ↓reduceIte, ntT, ntF] <;> rfl) (W_skip ?_)
  show W _ _ _ _ _ _
  have nl := x5.rd (nn.leaf rfl) (by simp [rng])
  refine W_sq fun K hK => (W_text [true, false] (by kernel_rfl) ?_); simp only [↓List.toList_toArray, ↓rgd, ↓rgf, ↓reduceIte, Nat.reduceEqDiff, rg, ow_119]
  refine do_call fn_120 (by simp only [evt, evc, upd_eq, Nat.reduceEqDiff, ↓reduceIte, maT, maC, maN, isnN, isnS] <;> rfl) (count_leaf rb (ks.length - d) (cap - d) _ w6 (Row.cons.1 r5).1 nl (x5.wok nn.wb)) ?_
  rintro v w7 ⟨x7, r7, s7⟩
  refine ⟨trivial, ?_⟩
  simp only [↓List.toList_toArray, ↓rgd, ↓rgf, ↓reduceIte, Nat.reduceEqDiff, rg, ow_119]
  refine hK _ _ ?_; clear hK K
  have X7 : Ext noF w w7 := noF_of X5 x7 fun x o hx h => by simp only [rng] at h; omega
  have o7 := ho.ext X7 fun _ _ _ h => h
  have c7 := hc.ext X7 fun _ _ _ h => h
  have z7 := zIt_at c7
  refine W_sq fun K hK => (W_draw (some none) (some 10) [(0, 0, 0), (0, 1, 0), (0, 2, 0), (0, 3, 0), (0, 4, 0), (0, 5, 0), (0, 6, 0), (0, 7, 0), (0, 8, 0), (0, 9, 0), (1, 10, 0)] mixed (by kernel_rfl) ?_); simp only [↓List.toList_toArray, ↓rgd, ↓rgf, ↓reduceIte, Nat.reduceEqDiff, rg, ow_119, e0, e1, ptr_eq, o7.h2, i1, z7]
  refine do_store (by simp only [evt, evc, upd_eq, Nat.reduceEqDiff, ↓reduceIte, ntT, ntF] <;> rfl) (by simp only [evt, evc, upd_eq, Nat.reduceEqDiff, ↓reduceIte, ntT, ntF] <;> rfl) sz_38 (itV_len zIt) (X7.wok wi) (by omega) (itV_oc zIt) fun w8 x8 r8 s8 => ⟨.inl trivial, ?_⟩
  simp only [↓List.toList_toArray, ↓rgd, ↓rgf, ↓reduceIte, Nat.reduceEqDiff, rg, ow_119]
  refine hK _ _ ?_; clear hK K
  have x8 := x8.od
  have b2 := x8.rd o7.h2 (by simp only [rng]; have := ho.ne; omega)
  have b3 := x8.rd o7.h3 (by simp only [rng]; have := ho.ne; omega)
  refine W_sq fun K hK => (W_text [true, true, true, true, true, true, true, true, true, true, false] (by kernel_rfl) ?_); simp only [↓List.toList_toArray, ↓rgd, ↓rgf, ↓reduceIte, Nat.reduceEqDiff, rg, ow_119, e1, ptr_eq, b2, i3]
  refine do_store (by simp only [evt, evc, upd_eq, Nat.reduceEqDiff, ↓reduceIte, ntT, ntF] <;> rfl) (by simp only [evt, evc, upd_eq, Nat.reduceEqDiff, ↓reduceIte, ntT, ntF] <;> rfl) sz_25 rfl (x8.wok o7.wb) (by decide) (oc_one rfl rfl) fun w9 x9 r9 s9 => ⟨trivial, ?_⟩
  simp only [↓List.toList_toArray, ↓rgd, ↓rgf, ↓reduceIte, Nat.reduceEqDiff, rg, ow_119]
  refine hK _ _ ?_; clear hK K
  have b3 := x9.rd b3 (by simp [rng])
  refine W_seq ?_
  refine W_sq fun K hK => (W_text [true, false, true] (by kernel_rfl) ?_); simp only [↓List.toList_toArray, ↓rgd, ↓rgf, ↓reduceIte, Nat.reduceEqDiff, rg, ow_119, e1]
  refine do_call fn_108 (by simp only [evt, evc, upd_eq, Nat.reduceEqDiff, ↓reduceIte, maT, maC, maN, isnN, isnS] <;> rfl) (leaf_any b none w9 b3) ?_
  rintro v w10 ⟨rfl, rfl⟩
  refine ⟨trivial, ?_⟩
  simp only [↓List.toList_toArray, ↓rgd, ↓rgf, ↓reduceIte, Nat.reduceEqDiff, rg, ow_119]
  refine hK _ _ ?_; clear hK K
  refine W_false (by simp only [evt, evc, upd_eq, Nat.reduceEqDiff, ↓reduceIte, ntT, ntF] <;> rfl) (W_skip ?_)
  show W _ _ _ _ _ _
  refine W_sq fun K hK => (W_text [true, false] (by kernel_rfl) ?_); simp only [↓List.toList_toArray, ↓rgd, ↓rgf, ↓reduceIte, Nat.reduceEqDiff, rg, ow_119, e1]
  have b2 := (Row.cons.1 r9).1
  refine do_call fn_120 (by simp only [evt, evc, upd_eq, Nat.reduceEqDiff, ↓reduceIte, maT, maC, maN, isnN, isnS] <;> rfl) (count_leaf b (d - 1) (d - 1) _ w10 b2 b3 (x9.wok (x8.wok o7.wb))) ?_
  rintro v w11 ⟨x11, r11, s11⟩
  refine ⟨trivial, ?_⟩
  simp only [↓List.toList_toArray, ↓rgd, ↓rgf, ↓reduceIte, Nat.reduceEqDiff, rg, ow_119]
  refine hK _ _ ?_; clear hK K
  have md : ∀ {w' : World} {G : Nat → Nat → Prop}, Ext G w3 w' → (∀ o, ¬ G w.heap.size o) → Row w' w.heap.size 0 (itV x).cells.toList := fun h hG => h.row r2 fun i _ => hG _
  have ma : Row w11 w.heap.size 0 (itV x).cells.toList :=
    x11.row (x9.row (x8.row (x7.row (x5.row (x4.row r2 fun i _ h => h) fun i _ h => by simp only [rng] at h; omega) fun i _ h => by simp only [rng] at h; omega) fun i _ h => by simp only [rng] at h; omega) fun i _ h => by simp only [rng] at h; omega) fun i _ h => by simp only [rng] at h; omega
  have mv : rdA w11 w.heap.size 0 2 = some (itV x) := ma.rdA 2 (Nat.le_of_eq (itV_len x).symm)
  have mw : wok w11 w.heap.size 2 := x11.wok (x9.wok (x8.wok (x7.wok (x5.wok (x4.wok (x2.wok n1.wok))))))
  refine W_sq fun K hK => (W_draw (some none) (some 3) [(0, 0, 0), (0, 1, 0), (0, 2, 0), (1, 3, 0)] mixed (by kernel_rfl) ?_); simp only [↓List.toList_toArray, ↓rgd, ↓rgf, ↓reduceIte, Nat.reduceEqDiff, rg, ow_119, e1, mv]
  refine do_store (by simp only [evt, evc, upd_eq, Nat.reduceEqDiff, ↓reduceIte, ntT, ntF] <;> rfl) (by simp only [evt, evc, upd_eq, Nat.reduceEqDiff, ↓reduceIte, ntT, ntF] <;> rfl) sz_38 (itV_len x) mw (by decide) (itV_oc x) fun w12 x12 r12 s12 => ⟨.inl trivial, ?_⟩
  simp only [↓List.toList_toArray, ↓rgd, ↓rgf, ↓reduceIte, Nat.reduceEqDiff, rg, ow_119]
  refine hK _ _ ?_; clear hK K
  have x12 := x12.od
  have Y : Ext (fun x o => (x = b ∧ (o = 1 ∨ o = 2)) ∨ rng bi (oi + (d - 1) * 2) 2 x o ∨ x = w.heap.size) w7 w12 :=
    (((x8.trans x9 (H := fun x o => (x = b ∧ (o = 1 ∨ o = 2)) ∨ rng bi (oi + (d - 1) * 2) 2 x o ∨ x = w.heap.size) (fun _ _ h => .inr (.inl h)) fun x o _ h => by simp only [rng] at h; omega).trans x11 (fun _ _ h => h) fun x o _ h => by simp only [rng] at h; omega).trans x12 (fun _ _ h => h) fun x o _ h => by simp only [rng] at h; omega)
  have hne := ho.ne
  have hrb7 := wok_lt (x7.wok (x5.wok nn.wb))
  refine W_ret (endQ_tc (by simp only [upd_eq, Nat.reduceEqDiff, ↓reduceIte] <;> rfl) (by simp only [upd_eq, Nat.reduceEqDiff, ↓reduceIte] <;> rfl) ld_38 (r12.rdA 2 (Nat.le_of_eq (itV_len x).symm)) ⟨rb, x, rfl, hx, ?_, by omega, ?_, ?_⟩)
  · refine X7.trans Y (fun _ _ h => h.elim) fun y o hy h => ?_
    rcases h with ⟨rfl, _⟩ | h | rfl
    · exact .inl rfl
    · simp only [rng] at h; exact .inr ⟨h.1, by omega, by rw [E_sz]; omega⟩
    · omega
  · have hrow : Row w12 bi oi (flat E (ks.take (d - 1))) := by
      rw [← flat_take]
      exact Y.row (o7.row.take _) fun i hi => by rw [List.length_take] at hi; simp only [rng]; rw [E_sz] at hi; omega
    have hlen : (ks.take (d - 1)).length = d - 1 := by rw [List.length_take]; omega
    refine ⟨Y.rd o7.h0 (by simp only [rng]; omega), x12.rd r11 (by simp only [rng]; omega), ?_, Y.rd o7.h3 (by simp only [rng]; omega), Y.wok o7.wb, hrow, (Y.wok (X7.wok wi)).mono ?_, Nat.le_of_eq hlen, hne⟩
    · rw [hlen]; exact x12.rd (x11.rd b2 (by simp only [rng]; omega)) (by simp only [rng]; omega)
    · rw [E_sz]; omega
  · have hrow : Row w12 bi (oi + d * 2) (flat E (ks.drop d)) := by
      have hr := o7.row.drop (d * E.sz)
      rw [flat_drop] at hr
      exact Y.row hr fun i hi => by simp only [rng]; omega
    have hlen : (ks.drop d).length = ks.length - d := by rw [List.length_drop]
    have hl2 : ks.length - d = d - 1 := by omega
    have k0 := x7.rd (x5.rd nn.h0 (by simp only [rng]; omega)) (by simp only [rng]; omega)
    have k2 := x7.rd (Row.cons.1 r5).1 (by simp only [rng]; omega)
    have k3 := x7.rd nl (by simp only [rng]; omega)
    refine ⟨Y.rd k0 (by simp only [rng]; omega), ?_, ?_, Y.rd k3 (by simp only [rng]; omega), Y.wok (x7.wok (x5.wok nn.wb)), hrow, (Y.wok (X7.wok wi)).mono ?_, ?_, by omega⟩
    · rw [← hl2]; exact Y.rd r7 (by simp only [rng]; omega)
    · rw [hlen]; exact Y.rd k2 (by simp only [rng]; omega)
    · rw [E_sz]; omega
    · rw [hlen]; omega
theorem cntP_drop (cn : Nat → Nat) (ps : List Nat) (i : Nat) : cntP cn (ps.drop i) ≤ cntP cn ps := by
  have : cntP cn ps = cntP cn (ps.take i) + cntP cn (ps.drop i) := by
    rw [cntP, cntP, cntP, ← List.sum_append, ← List.map_append, List.take_append_drop]
  omega
set_option maxHeartbeats 400000 in
set_option maxRecDepth 8000 in
theorem split_inner (m d b bi oi cap bc ba oa capc : Nat) (ps : List Nat) (cn : Nat → Nat) (iso cnt : Int) (ks : List It) (w : World) (hd : 2 ≤ d) (hd' : d ≤ 128) (hc : Cfg w m iso d) (ho : Own E w b iso cnt bi oi cap ks (ptr bc)) (hk : Kids w bc ba oa capc ps) (hpl : ps.length = 2 * d) (hbc : bc ≠ b) (hba : ba ≠ b) (hic : bi ≠ bc) (hia : bi ≠ ba) (hl : ks.length = 2 * d - 1)
    (hm : ∀ o, ¬ ownF E b bi oi cap m o) (hm' : ∀ o, ¬ kidF bc ba oa capc m o) (hps : ∀ p ∈ ps, rd w p 1 = some (.int .i64 (cn p)) ∧ ∀ o, ¬ ownF E b bi oi cap p o ∧ ¬ kidF bc ba oa capc p o)
    (hbig : cntP cn ps < 2305843009213693952) :
    CallK Try.prog 119 #[ptr m, ptr b] w fun v w' => ∃ rb x, v = .tuple #[ptr rb, itV x] ∧ ks[d - 1]? = some x ∧ Ext (fun x o => ownF E b bi oi cap x o ∨ kidF bc ba oa capc x o) w w' ∧ w.heap.size ≤ rb ∧ ∃ rbc, w.heap.size ≤ rbc ∧ rbc ≠ rb ∧
      Own E w' b iso (d - 1 + cntP cn (ps.take d) : Nat) bi oi (d - 1) (ks.take (d - 1)) (ptr bc) ∧ Own E w' rb iso (d - 1 + cntP cn (ps.drop d) : Nat) bi (oi + d * 2) (cap - d) (ks.drop d) (ptr rbc) ∧
      Kids w' bc ba oa d (ps.take d) ∧ Kids w' rbc ba (oa + d) (capc - d) (ps.drop d) := by
  refine calls_of_W [.tmp 4, .cell 5 38] Try.func119 rfl Try.ntmps119 Try.results119 (by simp) fun e he => ?_
  have e0 : e 0 = ptr m := he 0 _ rfl
  have e1 : e 1 = ptr b := he 1 _ rfl
  clear he
  obtain ⟨x, hx⟩ : ∃ x, ks[d - 1]? = some x := ⟨_, List.getElem?_eq_getElem (by omega)⟩
  have hcap := ho.le
  have wi : wok w bi (oi + cap * 2) := ho.wi
  have hbl := wok_lt ho.wb
  have hbil := wok_lt ho.wi
  have hml := wok_lt hc.wok
  have hmb : m ≠ b := fun h => hm 0 (.inl h)
  have q1 : IntKind.i64.wrap (((2 * d - 1 : Nat) : Int).tdiv 2) = ((d - 1 : Nat) : Int) := by rw [wdiv2 _ (by omega)]; congr 1; omega
  have q2 : IntKind.i64.wrap (((d - 1 : Nat) : Int) + 1) = ((d : Nat) : Int) := by rw [wadd1 _ (by omega)]; congr 1; omega
  have i1 : d - 1 < ks.length := by omega
  have i2 : d ≤ ks.length := by omega
  have i3 : d - 1 ≤ cap := by omega
  refine W_sq fun K hK => (W_text [true, false] (by kernel_rfl) ?_); simp only [↓List.toList_toArray, ↓rgd, ↓rgf, ↓reduceIte, Nat.reduceEqDiff, rg, ow_119]
  refine do_alloc z_it fun w1 n1 => ⟨trivial, ?_⟩
  simp only [↓List.toList_toArray, ↓rgd, ↓rgf, ↓reduceIte, Nat.reduceEqDiff, rg, ow_119]
  refine hK _ _ ?_; clear hK K
  have X1 := n1.ext
  have c1 := hc.ext X1 fun _ _ _ h => h
  refine W_sq fun K hK => (W_text [true, true, true, true, true, true] (by kernel_rfl) ?_); simp only [↓List.toList_toArray, ↓rgd, ↓rgf, ↓reduceIte, Nat.reduceEqDiff, rg, ow_119, e0, ptr_eq, c1.mx, q1]
  refine hK _ _ ?_; clear hK K
  have o1 := ho.ext X1 fun _ _ _ h => h
  have it1 := it_at o1.row hx
  refine W_sq fun K hK => (W_text [true, true, true, true, true, true, true, false] (by kernel_rfl) ?_); simp only [↓List.toList_toArray, ↓rgd, ↓rgf, ↓reduceIte, Nat.reduceEqDiff, rg, ow_119, e1, ptr_eq, o1.h2, i1, it1]
  refine do_store (by simp only [evt, evc, upd_eq, Nat.reduceEqDiff, ↓reduceIte, ntT, ntF] <;> rfl) (by simp only [evt, evc, upd_eq, Nat.reduceEqDiff, ↓reduceIte, ntT, ntF] <;> rfl) sz_38 (itV_len x) n1.wok (by decide) (itV_oc x) fun w2 x2 r2 s2 => ⟨trivial, ?_⟩
  simp only [↓List.toList_toArray, ↓rgd, ↓rgf, ↓reduceIte, Nat.reduceEqDiff, rg, ow_119]
  refine hK _ _ ?_; clear hK K
  have X2 : Ext noF w w2 := noF_of X1 x2 fun x o hx h => by simp only [rng] at h; omega
  have o2 := ho.ext X2 fun _ _ _ h => h
  have c2 := hc.ext X2 fun _ _ _ h => h
  have s2' : w2.heap.size = w.heap.size + 1 := by rw [s2, n1.size]
  refine W_sq fun K hK => (W_text [true, true, false, false, true] (by kernel_rfl) ?_); simp only [↓List.toList_toArray, ↓rgd, ↓rgf, ↓reduceIte, Nat.reduceEqDiff, rg, ow_119, e0, e1]
  refine do_call fn_108 (by simp only [evt, evc, upd_eq, Nat.reduceEqDiff, ↓reduceIte, maT, maC, maN, isnN, isnS] <;> rfl) (leaf_any b (some ⟨bc, 0, none⟩) w2 o2.h3) ?_
  rintro v w3 ⟨rfl, rfl⟩
  refine ⟨trivial, ?_⟩
  simp only [↓List.toList_toArray, ↓rgd, ↓rgf, ↓reduceIte, Nat.reduceEqDiff, rg, ow_119]
  refine do_call fn_117 (by simp only [evt, evc, upd_eq, Nat.reduceEqDiff, ↓reduceIte, maT, maC, maN, isnN, isnS] <;> rfl) (newNode_any m false iso w3 c2.iso) ?_
  rintro v w4 ⟨rb, rfl, x4, nn⟩
  refine ⟨trivial, ?_⟩
  simp only [↓List.toList_toArray, ↓rgd, ↓rgf, ↓reduceIte, Nat.reduceEqDiff, rg, ow_119]
  refine hK _ _ ?_; clear hK K
  have X4 := X2.tr x4
  have o4 := ho.ext X4 fun _ _ _ h => h
  have c4 := hc.ext X4 fun _ _ _ h => h
  have s4 := x4.size
  have nrb := nn.ge
  have hs : slFrom bi oi 2 d ks.length cap = .slice (some ⟨bi, oi + d * 2, none⟩) (ks.length - d) (cap - d) := slFrom_ne (by omega)
  refine W_sq fun K hK => (W_text [true, true, true, true, true, true, true, true, true, true, false] (by kernel_rfl) ?_); simp only [↓List.toList_toArray, ↓rgd, ↓rgf, ↓reduceIte, Nat.reduceEqDiff, rg, ow_119, e1, ptr_eq, o4.h2, q2, i2, hs]
  refine do_store (by simp only [evt, evc, upd_eq, Nat.reduceEqDiff, ↓reduceIte, ntT, ntF] <;> rfl) (by simp only [evt, evc, upd_eq, Nat.reduceEqDiff, ↓reduceIte, ntT, ntF] <;> rfl) sz_25 rfl nn.wb (by decide) (oc_one rfl rfl) fun w5 x5 r5 s5 => ⟨trivial, ?_⟩
  simp only [↓List.toList_toArray, ↓rgd, ↓rgf, ↓reduceIte, Nat.reduceEqDiff, rg, ow_119]
  refine hK _ _ ?_; clear hK K
  have X5 : Ext noF w w5 := noF_of X4 x5 fun x o hx h => by simp only [rng] at h; omega
  have o5 := ho.ext X5 fun _ _ _ h => h
  refine W_seq ?_
  refine W_sq fun K hK => (W_text [true, false, true] (by kernel_rfl) ?_); simp only [↓List.toList_toArray, ↓rgd, ↓rgf, ↓reduceIte, Nat.reduceEqDiff, rg, ow_119, e1]
  refine do_call fn_108 (by simp only [evt, evc, upd_eq, Nat.reduceEqDiff, ↓reduceIte, maT, maC, maN, isnN, isnS] <;> rfl) (leaf_any b (some ⟨bc, 0, none⟩) w5 o5.h3) ?_
  rintro v w6 ⟨rfl, rfl⟩
  refine ⟨trivial, ?_⟩
  simp only [↓List.toList_toArray, ↓rgd, ↓rgf, ↓reduceIte, Nat.reduceEqDiff, rg, ow_119]
  refine hK _ _ ?_; clear hK K
  obtain ⟨rbc, nk, nk1, nk2, nk3, nk4⟩ := nn.kids rfl
  refine W_true (by simp only [evt, evc, upd_eq, Nat.reduceEqDiff, ↓reduceIte, ntT, ntF] <;> rfl) ?_
  have nl := x5.rd nk (by simp [rng])
  have g0 := X5.rd hk.c0 (fun h => h)
  have hs' : slFrom ba oa 1 d ps.length capc = .slice (some ⟨ba, oa + d * 1, none⟩) (ps.length - d) (capc - d) := slFrom_ne (by have := hk.le; omega)
  have i4 : d ≤ ps.length := by omega
  refine W_rg fun K hK => (W_draw (some none) (some 14) [(0, 0, 0), (0, 1, 0), (0, 2, 0), (0, 3, 0), (0, 4, 0), (0, 5, 0), (0, 6, 0), (0, 7, 0), (0, 8, 0), (0, 9, 0), (0, 10, 0), (0, 11, 0), (0, 12, 0), (0, 13, 0), (1, 14, 0)] mixed (by kernel_rfl) ?_); simp only [↓List.toList_toArray, ↓rgd, ↓rgf, ↓reduceIte, Nat.reduceEqDiff, rg, ow_119, e1, ptr_eq, o5.h3, g0, nl, q2, i4, hs']
  refine do_store (by simp only [evt, evc, upd_eq, Nat.reduceEqDiff, ↓reduceIte, ntT, ntF] <;> rfl) (by simp only [evt, evc, upd_eq, Nat.reduceEqDiff, ↓reduceIte, ntT, ntF] <;> rfl) sz_117 rfl (x5.wok nk4) (by decide) (oc_one rfl rfl) fun wk xk rk sk => ⟨.inl trivial, ?_⟩
  simp only [↓List.toList_toArray, ↓rgd, ↓rgf, ↓reduceIte, Nat.reduceEqDiff, rg, ow_119]
  refine hK _ _ ?_; clear hK K
  show W _ _ _ _ _ _
  have xk := xk.od
  have nl := xk.rd nl (by simp only [rng]; omega)
  have Xk : Ext noF w wk := noF_of X5 xk fun x o hx h => by simp only [rng] at h; omega
  have ok := ho.ext Xk fun _ _ _ h => h
  have kk := hk.ext Xk fun _ _ _ h => h
  have nK : Kids wk rbc ba (oa + d) (capc - d) (ps.drop d) := by
    have hd2 : (ps.drop d).length = ps.length - d := List.length_drop
    refine ⟨?_, xk.wok (x5.wok nk4), ?_, (Xk.wok hk.wa).mono (by have := hk.le; omega), by rw [hd2]; have := hk.le; omega, by have := wok_lt hk.wa; omega⟩
    · rw [hd2]; exact (Row.cons.1 rk).1
    · rw [List.map_drop]; exact kk.row.drop d
  refine W_sq fun K hK => (W_text [true, false] (by kernel_rfl) ?_); simp only [↓List.toList_toArray, ↓rgd, ↓rgf, ↓reduceIte, Nat.reduceEqDiff, rg, ow_119]
  have hpd : ∀ p ∈ ps.drop d, rd wk p 1 = some (.int .i64 (cn p)) ∧ p ≠ rb := fun p hp => by
    have h1 := hps p (List.mem_of_mem_drop hp)
    exact ⟨Xk.rd h1.1 fun h => h, by have := rd_lt h1.1; omega⟩
  have hcd := cntP_drop cn ps d
  refine do_call fn_120 (by simp only [evt, evc, upd_eq, Nat.reduceEqDiff, ↓reduceIte, maT, maC, maN, isnN, isnS] <;> rfl) (count_kids rb (ks.length - d) (cap - d) rbc ba (oa + d) (capc - d) _ (ps.drop d) cn wk (xk.rd (Row.cons.1 r5).1 (by simp only [rng]; omega)) nl (xk.wok (x5.wok nn.wb)) nK (by omega) (by have := wok_lt hk.wa; omega) hpd (by omega) (by rw [List.length_drop]; omega)) ?_
  rintro v w7 ⟨x7, r7, s7⟩
  refine ⟨trivial, ?_⟩
  simp only [↓List.toList_toArray, ↓rgd, ↓rgf, ↓reduceIte, Nat.reduceEqDiff, rg, ow_119]
  refine hK _ _ ?_; clear hK K
  have X7 : Ext noF w w7 := noF_of Xk x7 fun x o hx h => by simp only [rng] at h; omega
  have k7 := hk.ext X7 fun _ _ _ h => h
  have o7 := ho.ext X7 fun _ _ _ h => h
  have c7 := hc.ext X7 fun _ _ _ h => h
  have z7 := zIt_at c7
  refine W_sq fun K hK => (W_draw (some none) (some 10) [(0, 0, 0), (0, 1, 0), (0, 2, 0), (0, 3, 0), (0, 4, 0), (0, 5, 0), (0, 6, 0), (0, 7, 0), (0, 8, 0), (0, 9, 0), (1, 10, 0)] mixed (by kernel_rfl) ?_); simp only [↓List.toList_toArray, ↓rgd, ↓rgf, ↓reduceIte, Nat.reduceEqDiff, rg, ow_119, e0, e1, ptr_eq, o7.h2, i1, z7]
  refine do_store (by simp only [evt, evc, upd_eq, Nat.reduceEqDiff, ↓reduceIte, ntT, ntF] <;> rfl) (by simp only [evt, evc, upd_eq, Nat.reduceEqDiff, ↓reduceIte, ntT, ntF] <;> rfl) sz_38 (itV_len zIt) (X7.wok wi) (by omega) (itV_oc zIt) fun w8 x8 r8 s8 => ⟨.inl trivial, ?_⟩
  simp only [↓List.toList_toArray, ↓rgd, ↓rgf, ↓reduceIte, Nat.reduceEqDiff, rg, ow_119]
  refine hK _ _ ?_; clear hK K
  have x8 := x8.od
  have b2 := x8.rd o7.h2 (by simp only [rng]; have := ho.ne; omega)
  have b3 := x8.rd o7.h3 (by simp only [rng]; have := ho.ne; omega)
  refine W_sq fun K hK => (W_text [true, true, true, true, true, true, true, true, true, true, false] (by kernel_rfl) ?_); simp only [↓List.toList_toArray, ↓rgd, ↓rgf, ↓reduceIte, Nat.reduceEqDiff, rg, ow_119, e1, ptr_eq, b2, i3]
  refine do_store (by simp only [evt, evc, upd_eq, Nat.reduceEqDiff, ↓reduceIte, ntT, ntF] <;> rfl) (by simp only [evt, evc, upd_eq, Nat.reduceEqDiff, ↓reduceIte, ntT, ntF] <;> rfl) sz_25 rfl (x8.wok o7.wb) (by decide) (oc_one rfl rfl) fun w9 x9 r9 s9 => ⟨trivial, ?_⟩
  simp only [↓List.toList_toArray, ↓rgd, ↓rgf, ↓reduceIte, Nat.reduceEqDiff, rg, ow_119]
  refine hK _ _ ?_; clear hK K
  have b3 := x9.rd b3 (by simp [rng])
  refine W_seq ?_
  refine W_sq fun K hK => (W_text [true, false, true] (by kernel_rfl) ?_); simp only [↓List.toList_toArray, ↓rgd, ↓rgf, ↓reduceIte, Nat.reduceEqDiff, rg, ow_119, e1]
  refine do_call fn_108 (by simp only [evt, evc, upd_eq, Nat.reduceEqDiff, ↓reduceIte, maT, maC, maN, isnN, isnS] <;> rfl) (leaf_any b (some ⟨bc, 0, none⟩) w9 b3) ?_
  rintro v w10 ⟨rfl, rfl⟩
  refine ⟨trivial, ?_⟩
  simp only [↓List.toList_toArray, ↓rgd, ↓rgf, ↓reduceIte, Nat.reduceEqDiff, rg, ow_119]
  refine hK _ _ ?_; clear hK K
  refine W_true (by simp only [evt, evc, upd_eq, Nat.reduceEqDiff, ↓reduceIte, ntT, ntF] <;> rfl) ?_
  have k10 := (k7.ext x8 fun x o h g => by simp only [rng, kidF] at h g; omega).ext x9 fun x o h g => by simp only [rng, kidF] at h g; omega
  have i5 : d ≤ capc := by have := hk.le; omega
  refine W_rg fun K hK => (W_draw (some none) (some 16) [(0, 0, 0), (0, 1, 0), (0, 2, 0), (0, 3, 0), (0, 4, 0), (0, 5, 0), (0, 6, 0), (0, 7, 0), (0, 8, 0), (0, 9, 0), (0, 10, 0), (0, 11, 0), (0, 12, 0), (0, 13, 0), (0, 14, 0), (0, 15, 0), (1, 16, 0)] mixed (by kernel_rfl) ?_); simp only [↓List.toList_toArray, ↓rgd, ↓rgf, ↓reduceIte, Nat.reduceEqDiff, rg, ow_119, e1, ptr_eq, b3, k10.c0, q2, i5]
  refine do_store (by simp only [evt, evc, upd_eq, Nat.reduceEqDiff, ↓reduceIte, ntT, ntF] <;> rfl) (by simp only [evt, evc, upd_eq, Nat.reduceEqDiff, ↓reduceIte, ntT, ntF] <;> rfl) sz_117 rfl k10.wc (by decide) (oc_one rfl rfl) fun wl xl rl sl => ⟨.inl trivial, ?_⟩
  simp only [↓List.toList_toArray, ↓rgd, ↓rgf, ↓reduceIte, Nat.reduceEqDiff, rg, ow_119]
  refine hK _ _ ?_; clear hK K
  show W _ _ _ _ _ _
  have xl := xl.od
  have b3 := xl.rd b3 (by simp only [rng]; omega)
  have b2 := xl.rd (Row.cons.1 r9).1 (by simp only [rng]; omega)
  have lK : Kids wl bc ba oa d (ps.take d) := by
    have hd2 : (ps.take d).length = d := by rw [List.length_take]; omega
    refine ⟨?_, xl.wok k10.wc, ?_, (xl.wok k10.wa).mono (by omega), Nat.le_of_eq hd2, hk.ne⟩
    · rw [hd2]; exact (Row.cons.1 rl).1
    · rw [List.map_take]; exact xl.row (k10.row.take d) fun i _ => by simp only [rng]; have := hk.ne; omega
  refine W_sq fun K hK => (W_text [true, false] (by kernel_rfl) ?_); simp only [↓List.toList_toArray, ↓rgd, ↓rgf, ↓reduceIte, Nat.reduceEqDiff, rg, ow_119, e1]
  have hpt : ∀ p ∈ ps.take d, rd wl p 1 = some (.int .i64 (cn p)) ∧ p ≠ b := fun p hp => by
    have h1 := hps p (List.mem_of_mem_take hp)
    have h2 := (h1.2 1).1
    have h3 := (h1.2 1).2
    have h0 := rd_lt h1.1
    simp only [ownF, kidF, rng, E_sz] at h2 h3
    refine ⟨xl.rd (x9.rd (x8.rd (X7.rd h1.1 fun h => h) (by simp only [rng]; omega)) (by simp only [rng]; omega)) (by simp only [rng]; omega), by omega⟩
  have hcl := cntP_le cn ps d
  refine do_call fn_120 (by simp only [evt, evc, upd_eq, Nat.reduceEqDiff, ↓reduceIte, maT, maC, maN, isnN, isnS] <;> rfl) (count_kids b (d - 1) (d - 1) bc ba oa d _ (ps.take d) cn wl b2 b3 (xl.wok (x9.wok (x8.wok o7.wb))) lK hbc hba hpt (by omega) (by rw [List.length_take]; omega)) ?_
  rintro v w11 ⟨x11, r11, s11⟩
  refine ⟨trivial, ?_⟩
  simp only [↓List.toList_toArray, ↓rgd, ↓rgf, ↓reduceIte, Nat.reduceEqDiff, rg, ow_119]
  refine hK _ _ ?_; clear hK K
  have md : ∀ {w' : World} {G : Nat → Nat → Prop}, Ext G w3 w' → (∀ o, ¬ G w.heap.size o) → Row w' w.heap.size 0 (itV x).cells.toList := fun h hG => h.row r2 fun i _ => hG _
  have hbcl' := wok_lt hk.wc
  have ma : Row w11 w.heap.size 0 (itV x).cells.toList :=
    x11.row (xl.row (x9.row (x8.row (x7.row (xk.row (x5.row (x4.row r2 fun i _ h => h) fun i _ h => by simp only [rng] at h; omega) fun i _ h => by simp only [rng] at h; omega) fun i _ h => by simp only [rng] at h; omega) fun i _ h => by simp only [rng] at h; omega) fun i _ h => by simp only [rng] at h; omega) fun i _ h => by simp only [rng] at h; omega) fun i _ h => by simp only [rng] at h; omega
  have mv : rdA w11 w.heap.size 0 2 = some (itV x) := ma.rdA 2 (Nat.le_of_eq (itV_len x).symm)
  have mw : wok w11 w.heap.size 2 := x11.wok (xl.wok (x9.wok (x8.wok (x7.wok (xk.wok (x5.wok (x4.wok (x2.wok n1.wok))))))))
  refine W_sq fun K hK => (W_draw (some none) (some 3) [(0, 0, 0), (0, 1, 0), (0, 2, 0), (1, 3, 0)] mixed (by kernel_rfl) ?_); simp only [↓List.toList_toArray, ↓rgd, ↓rgf, ↓reduceIte, Nat.reduceEqDiff, rg, ow_119, e1, mv]
  refine do_store (by simp only [evt, evc, upd_eq, Nat.reduceEqDiff, ↓reduceIte, ntT, ntF] <;> rfl) (by simp only [evt, evc, upd_eq, Nat.reduceEqDiff, ↓reduceIte, ntT, ntF] <;> rfl) sz_38 (itV_len x) mw (by decide) (itV_oc x) fun w12 x12 r12 s12 => ⟨.inl trivial, ?_⟩
  simp only [↓List.toList_toArray, ↓rgd, ↓rgf, ↓reduceIte, Nat.reduceEqDiff, rg, ow_119]
  refine hK _ _ ?_; clear hK K
  have x12 := x12.od
  have Y : Ext (fun x o => (x = b ∧ (o = 1 ∨ o = 2)) ∨ rng bi (oi + (d - 1) * 2) 2 x o ∨ x = w.heap.size ∨ rng bc 0 1 x o) w7 w12 :=
    ((((x8.trans x9 (H := fun x o => (x = b ∧ (o = 1 ∨ o = 2)) ∨ rng bi (oi + (d - 1) * 2) 2 x o ∨ x = w.heap.size ∨ rng bc 0 1 x o) (fun _ _ h => .inr (.inl h)) fun x o _ h => by simp only [rng] at h; omega).trans xl (fun _ _ h => h) fun x o _ h => .inr (.inr (.inr h))).trans x11 (fun _ _ h => h) fun x o _ h => by simp only [rng] at h; omega).trans x12 (fun _ _ h => h) fun x o _ h => by simp only [rng] at h; omega)
  have hne := ho.ne
  have hrb7 := wok_lt (x7.wok (xk.wok (x5.wok nn.wb)))
  have hbcl := wok_lt hk.wc
  have hbal := wok_lt hk.wa
  have hkne := hk.ne
  refine W_ret (endQ_tc (by simp only [upd_eq, Nat.reduceEqDiff, ↓reduceIte] <;> rfl) (by simp only [upd_eq, Nat.reduceEqDiff, ↓reduceIte] <;> rfl) ld_38 (r12.rdA 2 (Nat.le_of_eq (itV_len x).symm)) ⟨rb, x, rfl, hx, ?_, by omega, rbc, by omega, nk2, ?_, ?_, ?_, ?_⟩)
  · refine X7.trans Y (fun _ _ h => h.elim) fun y o hy h => ?_
    rcases h with ⟨rfl, _⟩ | h | rfl | h
    · exact .inl (.inl rfl)
    · simp only [rng] at h; exact .inl (.inr ⟨h.1, by omega, by rw [E_sz]; omega⟩)
    · omega
    · exact .inr (.inl h.1)
  · have hrow : Row w12 bi oi (flat E (ks.take (d - 1))) := by
      rw [← flat_take]
      exact Y.row (o7.row.take _) fun i hi => by rw [List.length_take] at hi; simp only [rng]; rw [E_sz] at hi; omega
    have hlen : (ks.take (d - 1)).length = d - 1 := by rw [List.length_take]; omega
    refine ⟨Y.rd o7.h0 (by simp only [rng]; omega), x12.rd r11 (by simp only [rng]; omega), ?_, Y.rd o7.h3 (by simp only [rng]; omega), Y.wok o7.wb, hrow, (Y.wok (X7.wok wi)).mono ?_, Nat.le_of_eq hlen, hne⟩
    · rw [hlen]; exact x12.rd (x11.rd b2 (by simp only [rng]; omega)) (by simp only [rng]; omega)
    · rw [E_sz]; omega
  · have hrow : Row w12 bi (oi + d * 2) (flat E (ks.drop d)) := by
      have hr := o7.row.drop (d * E.sz)
      rw [flat_drop] at hr
      exact Y.row hr fun i hi => by simp only [rng]; omega
    have hlen : (ks.drop d).length = ks.length - d := by rw [List.length_drop]
    have hl2 : ks.length - d = d - 1 := by omega
    have k0 := x7.rd (xk.rd (x5.rd nn.h0 (by simp only [rng]; omega)) (by simp only [rng]; omega)) (by simp only [rng]; omega)
    have k2 := x7.rd (xk.rd (Row.cons.1 r5).1 (by simp only [rng]; omega)) (by simp only [rng]; omega)
    have k3 := x7.rd nl (by simp only [rng]; omega)
    refine ⟨Y.rd k0 (by simp only [rng]; omega), ?_, ?_, Y.rd k3 (by simp only [rng]; omega), Y.wok (x7.wok (xk.wok (x5.wok nn.wb))), hrow, (Y.wok (X7.wok wi)).mono ?_, ?_, by omega⟩
    · rw [← hl2]; exact Y.rd r7 (by simp only [rng]; omega)
    · rw [hlen]; exact Y.rd k2 (by simp only [rng]; omega)
    · rw [E_sz]; omega
    · rw [hlen]; omega
  · exact (lK.ext x11 fun x o h g => by simp only [rng, kidF] at h g; omega).ext x12 fun x o h g => by simp only [rng, kidF] at h g; omega
  · exact (nK.ext x7 fun x o h g => by simp only [rng, kidF] at h g; omega).ext Y fun x o h g => by simp only [rng, kidF] at h g; omega
end Go.Proofs.Ytdffddiaoheklaa
