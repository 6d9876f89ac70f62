/-
  Whether a degree fits; the laws' question whether trees hold items at all. No condition.
-/
import Derived.Test.YtbnnkcofnmipoaaZGSet
import Derived.Test.YtbnnkcofnmipoaaZ7a750543
import Derived.Test.YtbnnkcofnmipoaaZd4659f5a
import Derived.Test.YtbnnkcofnmipoaaZ2844d862
/-
  Setting an item in a node of a tree, with a hint. No condition.
-/
set_option linter.unusedSimpArgs false
set_option linter.unusedVariables false
namespace Go.Proofs.Ytbnnkcofnmipoaa
open Go Go.Proofs
theorem rd_back {F : Nat → Nat → Prop} {u v : World} {b n o : Nat} (x : Ext F u v) (hu : wok u b n) (hF : ¬ F b o) : rd u b o = rd v b o := by
  obtain ⟨arr, T, h0, -, -⟩ := hu
  obtain ⟨arr', g1, g2, g3⟩ := x.cells b arr T _ h0
  rw [rd_of h0, rd_of g1, g3 o hF]
theorem HintAt.back {F : Nat → Nat → Prop} {u v : World} {hnt n : Nat} (h : HintAt v hnt) (x : Ext F u v) (hF : ∀ o, ¬ F hnt o) (hu : Go.Proofs.Ytbnnkcofnmipoaa.wok u hnt n) : HintAt u hnt := by
  refine ⟨?_, fun i hi => ?_, fun i hi => ?_⟩
  · obtain ⟨arr, T, h0, h1, h2⟩ := hu
    obtain ⟨arr', g1, g2, -⟩ := x.cells hnt arr T _ h0
    obtain ⟨a, T', k0, k1, k2⟩ := h.wok
    rw [g1, Option.some.injEq, Obj.cells.injEq] at k0
    obtain ⟨rfl, rfl, -⟩ := k0
    exact ⟨arr, T, h0, by omega, h2⟩
  · obtain ⟨p, hp⟩ := h.used i hi
    exact ⟨p, by rw [rd_back x hu (hF _)]; exact hp⟩
  · obtain ⟨p, hp, hq⟩ := h.path i hi
    exact ⟨p, hp, by rw [rd_back x hu (hF _)]; exact hq⟩
/-- As if the hint had changed first, and the setting came then. -/
def SetQH (ord : List Int) (d : Nat) (iso : Int) (h lo b : Nat) (xs : List It) (x : It) (F : Nat → Nat → Prop) (hnt : Nat) (w : World) (v : Value) (w' : World) : Prop :=
  ∃ u, Ext (blkF hnt) w u ∧ u.heap.size = w.heap.size ∧ HintAt u hnt ∧ SetQ ord d iso h lo b xs x F u v w'
set_option maxHeartbeats 8000000 in
set_option maxRecDepth 8000 in
theorem setH_any (B m d : Nat) (iso : Int) (ord : List Int) (x : It) (hnt : Nat) (hd : 2 ≤ d) (hd' : d ≤ 128) : ∀ (h k lo : Nat), 2 * d - lo = k → 1 ≤ lo → ∀ (b : Nat) (xs : List It) (F : Nat → Nat → Prop) (w : World) (pc po : Nat) (dep : Nat), Cfg w m iso d → Ls B m w ord → (∀ y o, F y o → m < y) → dep + h < 1152921504606846976 →
    Tr E iso (d - 1) (2 * d - 1) h w lo b xs F → Asc O (rkI ord) xs → xs.length < 1152921504606846976 → (∀ o, ¬ F m o) → rd w pc po = some (ptr b) → ¬ F pc po → HintAt w hnt → (∀ o, ¬ F hnt o) → m < hnt → hnt ≠ pc →
    CallK Try.prog 123 #[ptr m, .pointer (some ⟨pc, po, none⟩), itV x, ptr hnt, .int .i64 dep] w (SetQH ord d iso h lo b xs x F hnt w) := by
  intro h
  induction h using Nat.strongRecOn with
  | _ h ihh =>
  intro k
  induction k using Nat.strongRecOn with
  | _ k ihk =>
  intro lo hlo hlo1 b xs F w pc po dep hc hL hBF hdep ht ha hbig hm hp hpF hH hHF hmh hhp
  suffices HS : ∀ R : Value → World → Prop, (∀ v w', SetQH ord d iso h lo b xs x F hnt w v w' → R v w') → CallK Try.prog 123 #[ptr m, .pointer (some ⟨pc, po, none⟩), itV x, ptr hnt, .int .i64 dep] w R from HS _ fun _ _ h => h
  intro R hR0
  obtain ⟨bi, oi, cap, ks, ch, ho, hl1, hl2, hoF, hin⟩ := ht.open
  have hbl := wok_lt ho.wb
  have hbil := wok_lt ho.wi
  have hne := ho.ne
  have hcap := ho.le
  have wi : wok w bi (oi + cap * 2) := (by have h := ho.wi; simp only [E_sz, Nat.mul_one] at h; exact h)
  have hml := wok_lt hc.wok
  have hpl := rd_lt hp
  have hmF : ∀ o, ¬ ownF E b bi oi cap m o := fun o g => hm o (hoF _ _ g)
  have hak : Asc O (rkI ord) ks := by
    rcases hin with ⟨_, _, hx, _⟩ | ⟨_, _, _, _, _, cs, _, _, n⟩
    · rw [← hx]; exact ha
    · refine List.Pairwise.sublist ?_ ha
      rw [n.eq]; exact weave_sub _ _ (by simpa using n.len)
  have hkb : ks.length < 4611686018427387904 := Nat.lt_of_le_of_lt hl2 (by clear hin hoF; omega)
  replace hin : id _ := hin
  refine calls_of_W [.cell 10 33, .tmp 11, .tmp 12] Try.func123 rfl Try.ntmps123 Try.results123 (by simp) fun e he => ?_
  have e0 : e 0 = ptr m := he 0 _ rfl
  have e1 : e 1 = .pointer (some ⟨pc, po, none⟩) := he 1 _ rfl
  have e2 : e 2 = itV x := he 2 _ rfl
  have e3 : e 3 = ptr hnt := he 3 _ rfl
  have e4 : e 4 = .int .i64 dep := he 4 _ rfl
  clear he
  obtain ⟨lv, hlv, hless, hBm⟩ := id hL
  have hne0 : (iso != iso) = false := by simp
  refine W_sq fun K hK => (W_text [false, false, true, true] (by kernel_rfl) ?_); simp only [↓List.toList_toArray, ↓rgd, ↓rgf, ↓reduceIte, Nat.reduceEqDiff, rg, ow_123]
  refine do_box (by simp only [evt]; exact e2) fun w0 n0 => ⟨trivial, ?_⟩
  simp only [↓List.toList_toArray, ↓rgd, ↓rgf, ↓reduceIte, Nat.reduceEqDiff, rg, ow_123]
  refine do_alloc z_it fun w1 n1 => ⟨trivial, ?_⟩
  simp only [↓List.toList_toArray, ↓rgd, ↓rgf, ↓reduceIte, Nat.reduceEqDiff, rg, ow_123]
  refine hK _ _ ?_; clear hK K
  have s0 := n0.size
  have X1 : Ext noF w w1 := n0.ext.tr n1.ext
  have rx1 : Row w1 w.heap.size 0 (E.cel x) := n1.ext.row n0.row fun _ _ h => h
  have s1 : w1.heap.size = w.heap.size + 2 := by have := n1.size; omega
  obtain ⟨q, hq⟩ : ∃ q, q = w0.heap.size := ⟨_, rfl⟩
  have hqs : q = w.heap.size + 1 := by omega
  have wq1 : wok w1 q 2 := by rw [hq]; exact n1.wok
  rw [← hq]
  clear hq n0 n1
  have p1 := X1.rd hp fun h => h
  have i1 := X1.rd hc.iso fun h => h
  have b1 := X1.rd ho.h0 fun h => h
  refine W_seq ?_
  refine W_sq fun K hK => (W_draw (some none) none [(0, 0, 0), (0, 1, 0), (0, 2, 0), (0, 3, 0), (0, 4, 0), (0, 5, 0), (0, 6, 0), (0, 7, 0), (0, 8, 0), (0, 9, 0), (0, 10, 0)] mixed (by kernel_rfl) ?_); simp only [↓List.toList_toArray, ↓rgd, ↓rgf, ↓reduceIte, Nat.reduceEqDiff, rg, ow_123, e0, e1, ptr_eq, p1, i1, b1, hne0]
  refine hK _ _ ?_; clear hK K
  refine W_false (by simp only [evt, evc, upd_eq, Nat.reduceEqDiff, ↓reduceIte, ntT, ntF] <;> rfl) (W_skip ?_)
  show W _ _ _ _ _ _
  refine W_sq fun K hK => (W_text [true, true, true, false, false] (by kernel_rfl) ?_); simp only [↓List.toList_toArray, ↓rgd, ↓rgf, ↓reduceIte, Nat.reduceEqDiff, rg, ow_123, e1, p1, ptr_eq]
  refine do_alloc z_ptr fun w3 n3 => ⟨trivial, ?_⟩
  simp only [↓List.toList_toArray, ↓rgd, ↓rgf, ↓reduceIte, Nat.reduceEqDiff, rg, ow_123]
  refine do_store (by simp only [evt, evc, upd_eq, Nat.reduceEqDiff, ↓reduceIte, ntT, ntF] <;> rfl) (by simp only [evt, evc, upd_eq, Nat.reduceEqDiff, ↓reduceIte, ntT, ntF] <;> rfl) sz_96 rfl n3.wok (by decide) (oc_one rfl rfl) fun w4p x4 r4 s4 => ⟨trivial, ?_⟩
  simp only [↓List.toList_toArray, ↓rgd, ↓rgf, ↓reduceIte, Nat.reduceEqDiff, rg, ow_123]
  refine hK _ _ ?_; clear hK K
  have n3 := n3.od
  have s3 := n3.size
  have x4 : Ext (rng w1.heap.size 0 1) w3 w4p := x4
  have x3 := n3.ext
  have X3 : Ext noF w w3 := X1.tr x3
  have X4p : Ext noF w w4p := noF_of X3 x4 fun x o hx h => by simp only [rng] at h; omega
  have rxp : Row w4p w.heap.size 0 (E.cel x) := x4.row (x3.row rx1 fun _ _ h => h) fun i _ h => by simp only [rng] at h; omega
  have rnp : rd w4p w1.heap.size 0 = some (ptr b) := (Row.cons.1 r4).1
  have o4p := ho.ext X4p fun _ _ _ h => h
  have ixp := iX_at rxp
  have wqp : wok w4p q 2 := x4.wok (x3.wok wq1)
  refine W_sq fun K hK => (W_text [true] (by kernel_rfl) ?_); simp only [↓List.toList_toArray, ↓rgd, ↓rgf, ↓reduceIte, Nat.reduceEqDiff, rg, ow_123]
  refine hK _ _ ?_; clear hK K
  refine W_sq fun K hK => (W_text [true] (by kernel_rfl) ?_); simp only [↓List.toList_toArray, ↓rgd, ↓rgf, ↓reduceIte, Nat.reduceEqDiff, rg, ow_123]
  refine hK _ _ ?_; clear hK K
  obtain ⟨cc, hcc⟩ : ∃ cc, ch = .pointer cc := by
    rcases (hin : _ ∨ _) with ⟨_, h, _⟩ | ⟨_, bc, _, _, _, _, _, h, _⟩
    · exact ⟨_, h⟩
    · exact ⟨_, h⟩
  have hhl := wok_lt hH.wok
  have hFb : ∀ y o, F y o → ¬ blkF hnt y o := fun y o g (k : y = hnt) => hHF o (k ▸ g)
  have hhnt : hnt ≠ b := fun g => hHF 0 (g ▸ hoF _ _ (.inl rfl))
  refine W_seq ?_
  refine W_sq fun K hK => (W_text [true, true] (by kernel_rfl) ?_); simp only [↓List.toList_toArray, ↓rgd, ↓rgf, ↓reduceIte, Nat.reduceEqDiff, rg, ow_123, e3, ptr_eq]
  refine hK _ _ ?_; clear hK K
  refine W_false (by simp only [evt, evc, upd_eq, Nat.reduceEqDiff, ↓reduceIte, ntT, ntF] <;> rfl) ?_
  refine W_rg fun K hK => (W_text [true, true, true, true, true, false, true, true, true, true, true] (by kernel_rfl) ?_); simp only [↓List.toList_toArray, ↓rgd, ↓rgf, ↓reduceIte, Nat.reduceEqDiff, rg, ow_123, e0, rnp, ixp, e3, e4]
  refine do_call fn_129 (by simp only [evt, evc, upd_eq, Nat.reduceEqDiff, ↓reduceIte, maT, maC, maN, isnN, isnS] <;> rfl) (hint_any B m b bi oi cap ord ks x cc hnt dep w4p (hL.ext0 X4p) o4p.h2 (by rw [← hcc]; exact o4p.h3) o4p.row (by have := X4p.size; omega) hkb (by omega) hak (hH.ext X4p fun _ g => g) hhnt) ?_
  rintro _ w4 ⟨rfl, x5, hH4⟩
  refine ⟨trivial, ?_⟩
  simp only [↓List.toList_toArray, ↓rgd, ↓rgf, ↓reduceIte, Nat.reduceEqDiff, rg, ow_123, srchG_eq]
  refine hK _ _ ?_; clear hK K
  have x5 : Ext (blkF hnt) w4p w4 := x5.mono fun y o _ (g : some hnt = some y) => (Option.some.inj g).symm
  have s5 := x5.size
  have X4h : Ext (fun y o => noF y o ∨ y = hnt) w w4 := (X4p.mono fun _ _ _ g => .inl g).tr (x5.mono fun _ _ _ g => .inr g)
  obtain ⟨ub, xu, su, X4⟩ := ext_cutL X4h hH.wok
  have hHu := HintAt.back hH4 X4 (fun _ g => g) (xu.wok hH.wok)
  have hR : ∀ v w', SetQ ord d iso h lo b xs x F ub v w' → R v w' := fun v w' g => hR0 v w' ⟨ub, xu, su, hHu, g⟩
  have rx : Row w4 w.heap.size 0 (E.cel x) := x5.row rxp fun _ _ (g : _ = hnt) => by omega
  have rn : rd w4 w1.heap.size 0 = some (ptr b) := x5.rd rnp fun (g : _ = hnt) => by omega
  have wq4 : wok w4 q 2 := x5.wok wqp
  have sz4 : w.heap.size + 3 ≤ w4.heap.size := by omega
  rw [← su] at rx sz4 hqs s1 ⊢
  replace hc := hc.ext xu fun o _ _ (g : m = hnt) => by omega
  replace hL := hL.ext xu (fun y o (g : y = hnt) => by omega) (fun (g : m = hnt) => by omega)
  replace ht := ht.ext xu hFb
  replace ho := ho.ext xu fun y o g => hFb y o (hoF y o g)
  replace hin : (h = 0 ∧ ch = .pointer none ∧ xs = ks ∧ ∀ x o, F x o ↔ ownF E b bi oi cap x o) ∨ (∃ h' bc ba oa capc cs, h = h' + 1 ∧ ch = ptr bc ∧ Inn E iso (d - 1) (2 * d - 1) h' ub b xs F bi oi cap ks bc ba oa capc cs) := by
    rcases (hin : _ ∨ _) with l | ⟨h', bc, ba, oa, capc, cs, e1, e2, n⟩
    · exact .inl l
    · exact .inr ⟨h', bc, ba, oa, capc, cs, e1, e2, n.ext xu (fun y o g => hFb y o ((n.fp y o).2 (.inr (.inl g)))) fun c hc y o g => hFb y o ((n.fp y o).2 (.inr (.inr ⟨c, hc, g⟩)))⟩
  replace hin : id _ := hin
  replace wi : wok ub bi (oi + cap * 2) := xu.wok wi
  have o4 := ho.ext X4 fun _ _ _ h => h
  clear p1 i1 b1 rx1 rnp rxp o4p ixp X1 X3 X4p X4h x3 x4 n3 wq1 wqp hlv hless hp hhnt s0 s3 s4 s5
  have hL4 := hL.ext0 X4
  refine W_seq ?_
  refine W_sq fun K hK => (W_text [true] (by kernel_rfl) ?_); simp only [↓List.toList_toArray, ↓rgd, ↓rgf, ↓reduceIte, Nat.reduceEqDiff, rg, ow_123]
  refine hK _ _ ?_; clear hK K
  cases hh : hit O (rkI ord) (rkI ord x) ks with
  | true =>
    refine W_true (by simp only [evt, evc, upd_eq, Nat.reduceEqDiff, ↓reduceIte, ntT, ntF] <;> rfl) ?_
    obtain ⟨kk, hk1, hk2⟩ := hit_at O (rkI ord) hh
    have hi := (List.getElem?_eq_some_iff.1 hk1).1
    have hv := it_at o4.row hk1
    refine W_sq fun K hK => (W_text [true, true, true, true, true, true, true, false] (by kernel_rfl) ?_); simp only [↓List.toList_toArray, ↓rgd, ↓rgf, ↓reduceIte, Nat.reduceEqDiff, rg, ow_123, rn, ptr_eq, o4.h2, hi, hv]
    refine do_store (by simp only [evt, evc, upd_eq, Nat.reduceEqDiff, ↓reduceIte, ntT, ntF] <;> rfl) (by simp only [evt, evc, upd_eq, Nat.reduceEqDiff, ↓reduceIte, ntT, ntF] <;> rfl) sz_33 (itV_len kk) wq4 (by decide) (itV_oc kk) fun w5 x5 r5 s5 => ⟨trivial, ?_⟩
    simp only [↓List.toList_toArray, ↓rgd, ↓rgf, ↓reduceIte, Nat.reduceEqDiff, rg, ow_123]
    refine hK _ _ ?_; clear hK K
    have X5 : Ext noF ub w5 := noF_of X4 x5 fun y o hy g => by simp only [rng] at g; omega
    have rn5 := x5.rd rn (by simp only [rng]; omega)
    have o5 := ho.ext X5 fun _ _ _ h => h
    have ix5 := iX_at (x5.row rx fun j _ g => by simp only [rng] at g; omega)
    refine W_sq fun K hK => (W_draw (some none) (some 7) [(0, 0, 0), (0, 1, 0), (0, 2, 0), (0, 3, 0), (0, 4, 0), (0, 5, 0), (0, 6, 0), (1, 7, 0)] mixed (by kernel_rfl) ?_); simp only [↓List.toList_toArray, ↓rgd, ↓rgf, ↓reduceIte, Nat.reduceEqDiff, rg, ow_123, rn5, ptr_eq, o5.h2, hi, ix5]
    refine do_store (by simp only [evt, evc, upd_eq, Nat.reduceEqDiff, ↓reduceIte, ntT, ntF] <;> rfl) (by simp only [evt, evc, upd_eq, Nat.reduceEqDiff, ↓reduceIte, ntT, ntF] <;> rfl) sz_33 (itV_len x) (X5.wok wi) (by omega) (itV_oc x) fun w6 x6 r6 s6 => ⟨.inl trivial, ?_⟩
    simp only [↓List.toList_toArray, ↓rgd, ↓rgf, ↓reduceIte, Nat.reduceEqDiff, rg, ow_123]
    refine hK _ _ ?_; clear hK K
    have x6 := x6.od
    have o6 := o5.set hi x6 r6
    have X6 : Ext F ub w6 := X5.trans x6 (fun _ _ g => g.elim) fun y o _ g => hoF _ _ (by simp only [rng] at g; exact .inr ⟨g.1, by omega, by rw [E_sz]; omega⟩)
    have pv6 := iX_at (x6.row (show Row w5 q 0 (E.cel kk) from r5) fun j _ g => by simp only [rng] at g; omega)
    refine W_sq fun K hK => (W_text [true, false, true, true] (by kernel_rfl) ?_); simp only [↓List.toList_toArray, ↓rgd, ↓rgf, ↓reduceIte, Nat.reduceEqDiff, rg, ow_123, pv6]
    refine do_store (by simp only [evt, evc, upd_eq, Nat.reduceEqDiff, ↓reduceIte, ntT, ntF] <;> rfl) (by simp only [evt, evc, upd_eq, Nat.reduceEqDiff, ↓reduceIte, ntT, ntF] <;> rfl) sz_33 (itV_len kk) (x6.wok (x5.wok wq4)) (by decide) (itV_oc kk) fun w7 x7 r7 s7 => ⟨trivial, ?_⟩
    simp only [↓List.toList_toArray, ↓rgd, ↓rgf, ↓reduceIte, Nat.reduceEqDiff, rg, ow_123]
    refine hK _ _ ?_; clear hK K
    have X7 : Ext F ub w7 := X6.trans x7 (fun _ _ g => g) fun y o hy g => by simp only [rng] at g; omega
    have key : ∃ A C, xs = A ++ kk :: C ∧ Tr E iso (d - 1) (2 * d - 1) h w6 lo b (A ++ x :: C) F := by
      rcases (hin : _ ∨ _) with ⟨rfl, rfl, rfl, hF⟩ | ⟨h', bc, ba, oa, capc, cs, rfl, rfl, n⟩
      · refine ⟨xs.take (lb O (rkI ord) (rkI ord x) xs), xs.drop (lb O (rkI ord) (rkI ord x) xs + 1), ?_, bi, oi, cap, ?_, ?_, ?_, hF⟩
        · have h3 := List.getElem?_eq_some_iff.1 hk1
          have := List.take_append_drop (lb O (rkI ord) (rkI ord x) xs) xs
          rw [List.drop_eq_getElem_cons h3.1, h3.2] at this
          exact this.symm
        · rw [List.set_eq_take_append_cons_drop, if_pos hi] at o6
          have hl : (xs.take (lb O (rkI ord) (rkI ord x) xs) ++ x :: xs.drop (lb O (rkI ord) (rkI ord x) xs + 1)).length = xs.length := by simp; omega
          rw [hl]; exact o6
        · simp; omega
        · simp; omega
      · obtain ⟨A, C, hw⟩ := weave_key (lb O (rkI ord) (rkI ord x) ks) (cs.map Kid.xs) ks kk (by simpa using n.len) hk1
        have hxs : xs = A ++ kk :: C := by
          rw [n.eq, ← hw kk]
          obtain ⟨g1, g2⟩ := List.getElem?_eq_some_iff.1 hk1
          rw [← g2, List.set_getElem_self g1]
        refine ⟨A, C, hxs, ?_⟩
        have n6 := n.ext (G := rng bi (oi + lb O (rkI ord) (rkI ord x) ks * 2) 2) (w' := w6) ?_ ?_ ?_
        · refine Inn.tr (ks := ks.set (lb O (rkI ord) (rkI ord x) ks) x) ⟨n6.kids, by rw [List.length_set]; exact n.len, (hw x).symm, n6.sub, n.ap, n.fp⟩ ?_ (by rw [List.length_set]; exact hl1) (by rw [List.length_set]; exact hl2)
          have hl : (A ++ x :: C).length = xs.length := by rw [hxs]; simp
          rw [hl]; exact o6
        · exact X5.trans x6 (fun _ _ g => g.elim) fun _ _ _ g => g
        · intro y o g k
          simp only [rng] at k
          have := n.ap.ic
          have := n.ap.ia
          rcases g with g | g
          · omega
          · simp only [rng] at g; omega
        · intro c hc y o g k
          simp only [rng] at k
          exact n.ap.own c hc y o g (.inr ⟨k.1, by omega, by rw [E_sz]; omega⟩)
    obtain ⟨A, C, hxs, hT⟩ := key
    obtain ⟨f1, f2, f3⟩ := found_xs ha hxs hk2
    refine W_ret (endQ_ctt (by simp only [upd_eq, Nat.reduceEqDiff, ↓reduceIte] <;> rfl) (by simp only [upd_eq, Nat.reduceEqDiff, ↓reduceIte] <;> rfl) (by simp only [upd_eq, Nat.reduceEqDiff, ↓reduceIte] <;> rfl) ld_33 (iX_at r7) (hR _ _ ⟨X7, F, fun _ _ g => .inl g, .inr ⟨?_, ?_⟩⟩))
    · rw [f1, f2]; rfl
    · rw [f3]; exact hT.ext x7 fun y o g k => by have := ht.lt y o g; simp only [rng] at k; omega
  | false =>
    refine W_false (by simp only [evt, evc, upd_eq, Nat.reduceEqDiff, ↓reduceIte, ntT, ntF] <;> rfl) (W_skip ?_)
    show W _ _ _ _ _ _
    refine W_seq ?_
    have c4 := hc.ext X4 fun _ _ _ h => h
    have z4 := zIt_at c4
    have ix := iX_at rx
    have hmn : m ≠ bi := fun g => hmF oi (.inr ⟨g, by omega, by rw [E_sz]; omega⟩)
    have hmb : m ≠ b := fun g => hmF 0 (.inl g)
    have hlb : lb O (rkI ord) (rkI ord x) ks ≤ ks.length := lb_le O (rkI ord) _ _
    generalize hli : lb O (rkI ord) (rkI ord x) ks = i at *
    have L1 := on1 w1.heap.size b m
    have L2 := on2 w1.heap.size b m
    have L3 := on3 w1.heap.size b m
    rcases (hin : _ ∨ _) with ⟨rfl, rfl, rfl, hF⟩ | ⟨h', bc, ba, oa, capc, cs, rfl, rfl, n⟩
    · refine W_sq fun K hK => (W_text [true, false] (by kernel_rfl) ?_); simp only [↓List.toList_toArray, ↓rgd, ↓rgf, ↓reduceIte, Nat.reduceEqDiff, rg, ow_123, rn]
      refine do_call fn_108 (by simp only [evt, evc, upd_eq, Nat.reduceEqDiff, ↓reduceIte, maT, maC, maN, isnN, isnS] <;> rfl) (leaf_any b none w4 o4.h3) ?_
      rintro _ w4' ⟨rfl, hw4⟩
      obtain rfl : w4 = w4' := hw4.symm
      refine ⟨trivial, ?_⟩
      simp only [↓List.toList_toArray, ↓rgd, ↓rgf, ↓reduceIte, Nat.reduceEqDiff, rg, ow_123]
      refine hK _ _ ?_; clear hK K
      refine W_true (by simp only [evt, evc, upd_eq, Nat.reduceEqDiff, ↓reduceIte, ntT, ntF] <;> rfl) (W_seq ?_)
      by_cases hfull : xs.length = 2 * d - 1
      · have hb : ((xs.length : Int) == ((2 * d - 1 : Nat) : Int)) = true := by rw [hfull]; simp
        refine W_sq fun K hK => (W_draw (some none) none [(0, 0, 0), (0, 1, 0), (0, 2, 0), (0, 3, 0), (0, 4, 0), (0, 5, 0), (0, 6, 0), (0, 7, 0), (0, 8, 0), (0, 9, 0)] mixed (by kernel_rfl) ?_); simp only [↓List.toList_toArray, ↓rgd, ↓rgf, ↓reduceIte, Nat.reduceEqDiff, rg, ow_123, e0, rn, ptr_eq, o4.h2, c4.mx, hb]
        refine hK _ _ ?_; clear hK K
        refine W_true (by simp only [evt, evc, upd_eq, Nat.reduceEqDiff, ↓reduceIte, ntT, ntF] <;> rfl) ?_
        refine W_sq fun K hK => (W_text [true, true, true, true, false, true, true] (by kernel_rfl) ?_); simp only [↓List.toList_toArray, ↓rgd, ↓rgf, ↓reduceIte, Nat.reduceEqDiff, rg, ow_123, e0, ptr_eq, z4]
        refine do_store (by simp only [evt, evc, upd_eq, Nat.reduceEqDiff, ↓reduceIte, ntT, ntF] <;> rfl) (by simp only [evt, evc, upd_eq, Nat.reduceEqDiff, ↓reduceIte, ntT, ntF] <;> rfl) sz_33 (itV_len zIt) wq4 (by decide) (itV_oc zIt) fun w5 x5 r5 s5 => ⟨trivial, ?_⟩
        simp only [↓List.toList_toArray, ↓rgd, ↓rgf, ↓reduceIte, Nat.reduceEqDiff, rg, ow_123]
        refine hK _ _ ?_; clear hK K
        have x5 := x5.od
        have X5 : Ext noF ub w5 := noF_of X4 x5 fun y o hy g => by simp only [rng] at g; omega
        refine W_ret (endQ_ctt (by simp only [upd_eq, Nat.reduceEqDiff, ↓reduceIte] <;> rfl) (by simp only [upd_eq, Nat.reduceEqDiff, ↓reduceIte] <;> rfl) (by simp only [upd_eq, Nat.reduceEqDiff, ↓reduceIte] <;> rfl) ld_33 (iX_at r5) (hR _ _ ⟨X5.mono fun _ _ _ g => g.elim, F, fun _ _ g => .inl g, .inl ⟨rfl, ?_, hh⟩⟩))
        exact ⟨bi, oi, cap, ho.ext X5 fun _ _ _ h => h, by omega, hl2, hF⟩
      · have hb : ((xs.length : Int) == ((2 * d - 1 : Nat) : Int)) = false := by simp; omega
        refine W_sq fun K hK => (W_draw (some none) none [(0, 0, 0), (0, 1, 0), (0, 2, 0), (0, 3, 0), (0, 4, 0), (0, 5, 0), (0, 6, 0), (0, 7, 0), (0, 8, 0), (0, 9, 0)] mixed (by kernel_rfl) ?_); simp only [↓List.toList_toArray, ↓rgd, ↓rgf, ↓reduceIte, Nat.reduceEqDiff, rg, ow_123, e0, rn, ptr_eq, o4.h2, c4.mx, hb]
        refine hK _ _ ?_; clear hK K
        refine W_false (by simp only [evt, evc, upd_eq, Nat.reduceEqDiff, ↓reduceIte, ntT, ntF] <;> rfl) (W_skip ?_)
        show W _ _ _ _ _ _
        refine W_sq fun K hK => (W_draw (some (some [w1.heap.size, b, m])) (some 13) [(0, 0, 0), (0, 1, 0), (0, 2, 0), (0, 3, 0), (0, 4, 0), (0, 5, 0), (0, 6, 0), (0, 7, 0), (0, 8, 0), (1, 9, 0), (1, 10, 0), (0, 11, 0), (0, 12, 0), (1, 13, 0)] mixed (by kernel_rfl) ?_); simp only [↓List.toList_toArray, ↓rgd, ↓rgf, ↓reduceIte, Nat.reduceEqDiff, rg, ow_123, e0, rn, ptr_eq, o4.h2, z4, L1, L2, L3, rB_on]
        refine do_bsl rfl bs_it fun w6 n6 => ⟨.inr (keep3 n6.ext ⟨by rw [sz_dr]; omega, fun _ h => h⟩ ⟨by rw [sz_dr]; omega, fun _ h => h⟩ ⟨by rw [sz_dr]; omega, fun _ h => h⟩), ?_⟩
        simp only [↓List.toList_toArray, ↓rgd, ↓rgf, ↓reduceIte, Nat.reduceEqDiff, rg, ow_123]
        have n6 := n6.od
        have s6 := n6.size
        have o6 := o4.ext n6.ext fun _ _ _ h => h
        have hsl : SlV w6 2 (.slice (some ⟨bi, oi, none⟩) xs.length cap) xs.length (flat E xs) := ⟨by rw [flat_length]; rfl, .inr ⟨bi, oi, cap, rfl, hcap, o6.row, o6.wi.R (Nat.le_refl _)⟩⟩
        have hz : SlV w6 2 (.slice (some ⟨w4.heap.size, 0, none⟩) 1 1) 1 (E.cel zIt) := ⟨rfl, .inr ⟨_, 0, 1, rfl, Nat.le_refl _, n6.row, n6.wok.R (Nat.le_refl _)⟩⟩
        refine do_append (by simp only [evt, evc, upd_eq, Nat.reduceEqDiff, ↓reduceIte, ntT, ntF] <;> rfl) (by simp only [evt, evc, upd_eq, Nat.reduceEqDiff, ↓reduceIte, ntT, ntF] <;> rfl) el_it rfl ni_25 hsl hz (by omega) (by decide) (E.one zIt) fun v7 w7 a7 => ?_
        obtain ⟨b', o', cap', rfl, hcap', row7, wok7, x7, hcase⟩ := app_out a7 o6.wi
        refine ⟨.inr (keep3 x7 ⟨by omega, fun o h => by simp only [rng] at h; omega⟩ ⟨by omega, fun o h => by simp only [rng] at h; omega⟩ ⟨by omega, fun o h => by simp only [rng] at h; omega⟩), ?_⟩
        simp only [↓List.toList_toArray, ↓rgd, ↓rgf, ↓reduceIte, Nat.reduceEqDiff, rg, ow_123, rn, ptr_eq]
        have s7 := x7.size
        have wb7 := x7.wok (n6.ext.wok o4.wb)
        refine do_store (by simp only [evt, evc, upd_eq, Nat.reduceEqDiff, ↓reduceIte, ntT, ntF] <;> rfl) (by simp only [evt, evc, upd_eq, Nat.reduceEqDiff, ↓reduceIte, ntT, ntF] <;> rfl) sz_25 rfl wb7 (by decide) (oc_one rfl rfl) fun w8 x8 r8 s8 => ⟨.inl trivial, ?_⟩
        simp only [↓List.toList_toArray, ↓rgd, ↓rgf, ↓reduceIte, Nat.reduceEqDiff, rg, ow_123]
        refine hK _ _ ?_; clear hK K
        have hb'b : b' ≠ b := by omega
        have hb's : b' < w8.heap.size := by have := wok_lt wok7; omega
        have rn8 : rd w8 w1.heap.size 0 = some (ptr b) := x8.rd (x7.rd (n6.ext.rd rn fun h => h) (by simp only [rng]; omega)) (by simp only [rng]; omega)
        have b28 : rd w8 b 2 = some (.slice (some ⟨b', o', none⟩) (xs.length + 1) cap') := (Row.cons.1 r8).1
        have row8 : Row w8 b' o' (flat E xs ++ E.cel zIt) := x8.row row7 fun j _ h => by simp only [rng] at h; omega
        have wok8 := x8.wok wok7
        have q1 : IntKind.i64.wrap ((i : Int) + 1) = ((i + 1 : Nat) : Int) := wadd1 i (by omega)
        obtain ⟨o1, hs1, ho1, ho1'⟩ := slFrom_sl b' o' 2 (i + 1) (xs.length + 1) cap'
        have hs2 : slFrom b' o' 2 i (xs.length + 1) cap' = .slice (some ⟨b', o' + i * 2, none⟩) (xs.length + 1 - i) (cap' - i) := by (rw [slFrom_ne (by omega)]; try rw [Nat.mul_one])
        have i1 : i + 1 ≤ xs.length + 1 := by omega
        have i2 : i ≤ xs.length + 1 := by omega
        refine W_sq fun K hK => (W_draw (some none) (some 13) [(0, 0, 0), (0, 1, 0), (0, 2, 0), (0, 3, 0), (0, 4, 0), (0, 5, 0), (0, 6, 0), (0, 7, 0), (0, 8, 0), (0, 9, 0), (0, 10, 0), (0, 11, 0), (0, 12, 0), (1, 13, 0)] mixed (by kernel_rfl) ?_); simp only [↓List.toList_toArray, ↓rgd, ↓rgf, ↓reduceIte, Nat.reduceEqDiff, rg, ow_123, rn8, ptr_eq, b28, q1, i1, i2, hs1, hs2]
        have hln : (flat E xs ++ E.cel zIt).length = (xs.length + 1) * 2 := by rw [List.length_append, flat_length, E.len, E_sz]; omega
        have hsrc : SlV (dr w8 (w8.drawn + 1)) 2 (.slice (some ⟨b', o' + i * 2, none⟩) (xs.length + 1 - i) (cap' - i)) (xs.length + 1 - i) ((flat E xs ++ E.cel zIt).drop (i * 2)) :=
          ⟨by rw [List.length_drop, hln]; omega, .inr ⟨b', _, _, rfl, by omega, row8.drop _, wok8.R (by omega)⟩⟩
        have hmo : o1 + (xs.length + 1 - (i + 1)) * 2 ≤ o' + cap' * 2 := by
          by_cases hcc : cap' = i + 1
          · have := ho1' hcc; omega
          · have := ho1 hcc; omega
        refine do_copy (by simp only [evt, evc, upd_eq, Nat.reduceEqDiff, ↓reduceIte, ntT, ntF] <;> rfl) (by simp only [evt, evc, upd_eq, Nat.reduceEqDiff, ↓reduceIte, ntT, ntF] <;> rfl) el_it hsrc (wok8.mono hmo) (fun v hv => by
          have := List.mem_of_mem_drop hv
          rcases List.mem_append.1 this with h | h
          · exact flat_oc E xs v h
          · exact E.one zIt v h) fun w9 x9 r9 s9 => ⟨.inl trivial, ?_⟩
        simp only [↓List.toList_toArray, ↓rgd, ↓rgf, ↓reduceIte, Nat.reduceEqDiff, rg, ow_123]
        refine hK _ _ ?_; clear hK K
        have hmin : min (xs.length + 1 - i) (xs.length + 1 - (i + 1)) = xs.length - i := by omega
        rw [hmin] at x9 r9
        clear hmin hsrc hln i1 i2 hs1 hs2
        have x9 := x9.od
        have rn9 := x9.rd rn8 (by simp only [rng]; omega)
        have b29 := x9.rd b28 (by simp only [rng]; omega)
        have wok9 := x9.wok wok8
        have row9 : Row w9 ub.heap.size 0 (E.cel x) := x9.row (x8.row (x7.row (n6.ext.row rx fun _ _ h => h) fun j _ h => by simp only [rng] at h; omega) fun j _ h => by simp only [rng] at h; omega) fun j _ h => by simp only [rng] at h; omega
        have ix9 := iX_at row9
        have i3 : i < xs.length + 1 := by omega
        refine W_sq fun K hK => (W_draw (some none) (some 7) [(0, 0, 0), (0, 1, 0), (0, 2, 0), (0, 3, 0), (0, 4, 0), (0, 5, 0), (0, 6, 0), (1, 7, 0)] mixed (by kernel_rfl) ?_); simp only [↓List.toList_toArray, ↓rgd, ↓rgf, ↓reduceIte, Nat.reduceEqDiff, rg, ow_123, rn9, ptr_eq, b29, i3, ix9]
        refine do_store (by simp only [evt, evc, upd_eq, Nat.reduceEqDiff, ↓reduceIte, ntT, ntF] <;> rfl) (by simp only [evt, evc, upd_eq, Nat.reduceEqDiff, ↓reduceIte, ntT, ntF] <;> rfl) sz_33 (itV_len x) wok9 (by omega) (itV_oc x) fun w10 x10 r10 s10 => ⟨.inl trivial, ?_⟩
        simp only [↓List.toList_toArray, ↓rgd, ↓rgf, ↓reduceIte, Nat.reduceEqDiff, rg, ow_123]
        refine hK _ _ ?_; clear hK K
        have x10 := x10.od
        have rn10 := x10.rd rn9 (by simp only [rng]; omega)
        have b110 : rd w10 b 1 = some (.int .i64 xs.length) := x10.rd (x9.rd (x8.rd (x7.rd o6.h1 (by simp only [rng]; omega)) (by simp only [rng]; omega)) (by simp only [rng]; omega)) (by simp only [rng]; omega)
        have q2 := wadd1 xs.length (by omega)
        have wb10 := x10.wok (x9.wok (x8.wok wb7))
        refine W_sq fun K hK => (W_text [true, true, true, true, true, true, true, false] (by kernel_rfl) ?_); simp only [↓List.toList_toArray, ↓rgd, ↓rgf, ↓reduceIte, Nat.reduceEqDiff, rg, ow_123, rn10, ptr_eq, b110, q2]
        refine do_store (by simp only [evt, evc, upd_eq, Nat.reduceEqDiff, ↓reduceIte, ntT, ntF] <;> rfl) (by simp only [evt, evc, upd_eq, Nat.reduceEqDiff, ↓reduceIte, ntT, ntF] <;> rfl) sz_3 rfl wb10 (by decide) (oc_one rfl rfl) fun w11 x11 r11 s11 => ⟨trivial, ?_⟩
        simp only [↓List.toList_toArray, ↓rgd, ↓rgf, ↓reduceIte, Nat.reduceEqDiff, rg, ow_123]
        refine hK _ _ ?_; clear hK K
        have Y : Ext (fun y o => (rng bi (oi + xs.length * 2) 2 y o ∧ xs.length + 1 ≤ cap) ∨ (y = b ∧ (o = 1 ∨ o = 2)) ∨ y = b' ∧ o' ≤ o ∧ o < o' + cap' * 2) w6 w11 := by
          refine (((x7.trans x8 (fun _ _ g => .inl g) fun y o _ g => ?_).trans x9 (fun _ _ g => g) fun y o _ g => ?_).trans x10 (fun _ _ g => g) fun y o _ g => ?_).trans x11 (fun _ _ g => g) fun y o _ g => ?_
          · simp only [rng] at g; exact .inr (.inl (by omega))
          · simp only [rng] at g
            refine .inr (.inr ⟨g.1, ?_, ?_⟩)
            · by_cases hcc : cap' = i + 1
              · have := ho1' hcc; omega
              · have := ho1 hcc; omega
            · have := hmo; omega
          · simp only [rng] at g; exact .inr (.inr (by omega))
          · simp only [rng] at g; exact .inr (.inl (by omega))
        have X6 : Ext noF ub w6 := X4.tr n6.ext
        have XF : Ext F ub w11 := X6.trans Y (fun _ _ g => g.elim) fun y o hy g => by
          rw [hF]
          rcases g with g | g | g
          · simp only [rng] at g
            exact .inr ⟨g.1.1, by omega, by rw [E_sz]; omega⟩
          · exact .inl g.1
          · rcases hcase with ⟨rfl, rfl, rfl⟩ | hc
            · exact .inr ⟨g.1, g.2.1, by rw [E_sz]; have := g.2.2; omega⟩
            · omega
        have m11 := hc.ext XF fun o _ _ => hm o
        have z11 := zIt_at m11
        have hput : at? O (rkI ord) (rkI ord x) xs = none := by unfold at?; rw [hh]; rfl
        have tr11 : Tr E iso (d - 1) (2 * d - 1) 0 w11 lo b (put O (rkI ord) x xs) (ownF E b b' o' cap') := by
          refine ⟨b', o', cap', ?_, ?_, ?_, fun _ _ => Iff.rfl⟩
          · have hp := put_leaf O (rkI ord) hh
            rw [hli] at hp
            have hlen : (put O (rkI ord) x xs).length = xs.length + 1 := by rw [put_length, hh]; rfl
            have h0 : rd w11 b 0 = some (.int .u64 iso) := Y.rd o6.h0 (by simp only [rng]; omega)
            have h3 : rd w11 b 3 = some (.pointer none) := Y.rd o6.h3 (by simp only [rng]; omega)
            have hrow : Row w11 b' o' (flat E (xs.take i ++ x :: xs.drop i)) := by
              rw [flat_append, flat_cons, ← flat_take, ← flat_drop]
              refine x11.row (ins_row (sz := 2) (n := xs.length) (by rw [flat_length]; rfl) hlb row8 rfl x9 r9 (fun hin => ho1 (by omega)) x10 r10 (Ext.refl _ _)) fun j _ h => by simp only [rng] at h; omega
            refine ⟨h0, ?_, ?_, h3, x11.wok wb10, ?_, x11.wok (x10.wok wok9), ?_, hb'b⟩
            · rw [hlen]; exact (Row.cons.1 r11).1
            · rw [hlen]; exact x11.rd (x10.rd b29 (by simp only [rng]; omega)) (by simp only [rng]; omega)
            · rw [hp]; exact hrow
            · rw [hlen]; exact hcap'
          · rw [put_length, hh]; simp; omega
          · rw [put_length, hh]; simp; omega
        have hown : ∀ y o, ownF E b b' o' cap' y o → F y o ∨ w6.heap.size ≤ y := by
          rintro y o (rfl | ⟨rfl, g1, g2⟩)
          · exact .inl ((hF _ _).2 (.inl rfl))
          · rcases hcase with ⟨rfl, rfl, rfl⟩ | hc
            · exact .inl ((hF _ _).2 (.inr ⟨rfl, g1, g2⟩))
            · exact .inr (by omega)
        have hFlt := ht.lt
        refine W_sq fun K hK => (W_text [true, true, true, true, false, true, true] (by kernel_rfl) ?_); simp only [↓List.toList_toArray, ↓rgd, ↓rgf, ↓reduceIte, Nat.reduceEqDiff, rg, ow_123, e0, ptr_eq, z11]
        refine do_store (by simp only [evt, evc, upd_eq, Nat.reduceEqDiff, ↓reduceIte, ntT, ntF] <;> rfl) (by simp only [evt, evc, upd_eq, Nat.reduceEqDiff, ↓reduceIte, ntT, ntF] <;> rfl) sz_33 (itV_len zIt) (Y.wok (n6.ext.wok wq4)) (by decide) (itV_oc zIt) fun w12 x12 r12 s12 => ⟨trivial, ?_⟩
        simp only [↓List.toList_toArray, ↓rgd, ↓rgf, ↓reduceIte, Nat.reduceEqDiff, rg, ow_123]
        refine hK _ _ ?_; clear hK K
        have X12 : Ext F ub w12 := XF.trans x12 (fun _ _ g => g) fun y o hy g => by simp only [rng] at g; omega
        refine W_ret (endQ_ctt (by simp only [upd_eq, Nat.reduceEqDiff, ↓reduceIte] <;> rfl) (by simp only [upd_eq, Nat.reduceEqDiff, ↓reduceIte] <;> rfl) (by simp only [upd_eq, Nat.reduceEqDiff, ↓reduceIte] <;> rfl) ld_33 (iX_at r12) (hR _ _ ⟨X12, ownF E b b' o' cap', ?_, .inr ⟨?_, tr11.ext x12 fun y o g k => ?_⟩⟩))
        · intro y o g
          rcases hown y o g with g | g
          · exact .inl g
          · exact .inr (by omega)
        · rw [hput, hh]; rfl
        · simp only [rng] at k
          rcases hown y o g with g | g
          · have := hFlt _ _ g; omega
          · omega
    · obtain ⟨c, hci⟩ : ∃ c, cs[i]? = some c := ⟨_, List.getElem?_eq_getElem (by have := n.len; omega)⟩
      have hcm := List.mem_of_getElem? hci
      have hcl := (List.getElem?_eq_some_iff.1 hci).1
      have hkl := n.kids.le
      rw [List.length_map] at hkl
      have hlen := n.len
      have hbcl := wok_lt n.kids.wc
      have hbal := wok_lt n.kids.wa
      have hkne := n.kids.ne
      have acb := n.ap.cb
      have aab := n.ap.ab
      have aic := n.ap.ic
      have aia := n.ap.ia
      have hcx : (cs.map Kid.xs)[i]? = some c.xs := by rw [List.getElem?_map, hci]; rfl
      obtain ⟨A, C, hw⟩ := weave_at i (cs.map Kid.xs) ks (by simpa using n.len) hlb
      have hxs : xs = A ++ c.xs ++ C := by rw [n.eq]; exact hw.eq hcx
      obtain ⟨hA, hC⟩ := hw.mid O (rkI ord) hcx (by rw [← n.eq]; exact ha) hli hh
      have hcF : ∀ y o, c.F y o → F y o := fun y o g => (n.fp y o).2 (.inr (.inr ⟨c, hcm, g⟩))
      have hclt : ∀ y o, c.F y o → y < ub.heap.size := (n.sub c hcm).lt
      have n4 := n.ext X4 (fun _ _ _ g => g) fun _ _ _ _ _ g => g
      have ga : rd w4 ba (oa + i) = some (ptr c.b) := ptr_at n4.kids.row (by rw [List.getElem?_map, hci]; rfl)
      have hnF : ¬ c.F ba (oa + i) := fun g => n.ap.kid c hcm _ _ g (.inr ⟨rfl, by omega, by omega⟩)
      refine W_sq fun K hK => (W_text [true, false] (by kernel_rfl) ?_); simp only [↓List.toList_toArray, ↓rgd, ↓rgf, ↓reduceIte, Nat.reduceEqDiff, rg, ow_123, rn]
      refine do_call fn_108 (by simp only [evt, evc, upd_eq, Nat.reduceEqDiff, ↓reduceIte, maT, maC, maN, isnN, isnS] <;> rfl) (leaf_any b (some ⟨bc, 0, none⟩) w4 o4.h3) ?_
      rintro _ w4' ⟨rfl, hw4⟩
      obtain rfl : w4 = w4' := hw4.symm
      refine ⟨trivial, ?_⟩
      simp only [↓List.toList_toArray, ↓rgd, ↓rgf, ↓reduceIte, Nat.reduceEqDiff, rg, ow_123]
      refine hK _ _ ?_; clear hK K
      refine W_false (by simp only [evt, evc, upd_eq, Nat.reduceEqDiff, ↓reduceIte, ntT, ntF] <;> rfl) (W_skip ?_)
      show W _ _ _ _ _ _
      have M1 : readsB (some (some [w1.heap.size, b, bc, ub.heap.size])) w1.heap.size = true := by simp [readsB]
      have M2 : readsB (some (some [w1.heap.size, b, bc, ub.heap.size])) b = true := by simp [readsB]
      have M3 : readsB (some (some [w1.heap.size, b, bc, ub.heap.size])) bc = true := by simp [readsB]
      have M4 : readsB (some (some [w1.heap.size, b, bc, ub.heap.size])) ub.heap.size = true := by simp [readsB]
      have k40 := n4.kids.c0
      rw [List.length_map] at k40
      have qd := wadd1 dep (by omega)
      refine W_sq fun K hK => (W_draw (some (some [w1.heap.size, b, bc, ub.heap.size])) none [(0, 0, 0), (0, 1, 0), (0, 2, 0), (0, 3, 0), (0, 4, 0), (0, 5, 0), (0, 6, 0), (0, 7, 0), (0, 8, 0), (0, 9, 0), (0, 10, 0), (0, 11, 0), (0, 12, 0), (1, 13, 0), (0, 14, 0), (0, 15, 0), (0, 16, 0), (0, 17, 0), (1, 18, 0), (0, 19, 0), (0, 20, 0)] mixed (by kernel_rfl) ?_); simp only [↓List.toList_toArray, ↓rgd, ↓rgf, ↓reduceIte, Nat.reduceEqDiff, rg, ow_123, e0, e3, e4, rn, ptr_eq, o4.h3, k40, hcl, ix, qd, M1, M2, M3, M4]
      refine do_call fn_123 (by simp only [evt, evc, upd_eq, Nat.reduceEqDiff, ↓reduceIte, maT, maC, maN, isnN, isnS] <;> rfl) (ihh h' (Nat.lt_succ_self _) _ (d - 1) rfl (by omega) c.b c.xs c.F _ ba (oa + i) (dep + 1) (c4.ext (Ext.dr noF _ _) fun _ _ _ g => g) (hL4.ext0 (Ext.dr noF _ _)) (fun y o g => hBF y o (hcF y o g)) (by omega) ((n4.sub c hcm).ext (Ext.dr noF _ _) fun _ _ _ g => g)
        (by rw [hxs] at ha; exact ((Asc.append O (rkI ord)).1 ((Asc.append O (rkI ord)).1 ha).1).2.1) (by rw [hxs] at hbig; simp at hbig; omega) (fun o g => hm o (hcF _ _ g)) ga hnF ((hHu.ext X4 fun _ g => g).ext (Ext.dr noF _ _) fun _ g => g) (fun o g => hHF o (hcF _ _ g)) hmh (fun e => hHF (oa + i) ((n.fp _ _).2 (.inr (.inl (.inr ⟨e, by omega, by omega⟩)))))) ?_
      rintro v w5 ⟨u5, xh5, sh5, hHu5, x5, F', hF', hres⟩
      rw [sz_dr] at sh5
      have xd : Ext noF w4 (dr w4 (w4.drawn + 1)) := Ext.dr _ _ _
      have xall : Ext (fun y o => c.F y o ∨ y = hnt) (dr w4 (w4.drawn + 1)) w5 := (xh5.mono fun y o _ g => .inr g).tr (x5.mono fun y o _ g => .inl g)
      have hhb : hnt ≠ b := fun g => hHF 0 (g ▸ hoF _ _ (.inl rfl))
      have hbb : hnt ≠ bc := fun e => hHF 0 (e ▸ (n.fp bc 0).2 (.inr (.inl (.inl rfl))))
      refine ⟨.inr (keeps_on xall fun y hy => ?_), ?_⟩
      · rw [sz_dr]
        simp only [List.mem_cons, List.not_mem_nil, or_false] at hy
        rcases hy with rfl | rfl | rfl | rfl
        · exact ⟨by omega, fun o g => g.elim (fun g => by have := hclt _ _ g; omega) fun g => by omega⟩
        · exact ⟨by omega, fun o g => g.elim (fun g => n.ap.own c hcm _ _ g (.inl rfl)) fun g => hhb g.symm⟩
        · exact ⟨by omega, fun o g => g.elim (fun g => n.ap.kid c hcm _ _ g (.inl rfl)) fun g => hbb g.symm⟩
        · exact ⟨by omega, fun o g => g.elim (fun g => by have := hclt _ _ g; omega) fun g => by omega⟩
      have xw : Ext (blkF hnt) w4 u5 := (xd.mono fun _ _ _ g => g.elim).tr xh5
      have X45 : Ext (fun y o => noF y o ∨ y = hnt) ub u5 := (X4.mono fun _ _ _ g => .inl g).tr (xw.mono fun _ _ _ g => .inr g)
      obtain ⟨uc, xuc, suc, X4c⟩ := ext_cutL X45 hHu.wok
      have hHc := HintAt.back hHu5 X4c (fun _ g => g) (xuc.wok hHu.wok)
      have hR : ∀ v w', SetQ ord d iso (h' + 1) lo b xs x F uc v w' → R v w' := fun v w' g => hR0 v w' ⟨uc, xu.tr xuc, by omega, hHc, g⟩
      have hFbk : ∀ y o, kidF bc ba oa capc y o → ¬ blkF hnt y o := fun y o g => hFb y o ((n.fp y o).2 (.inr (.inl g)))
      have hFbc : ∀ c1 ∈ cs, ∀ y o, c1.F y o → ¬ blkF hnt y o := fun c1 h1 y o g => hFb y o ((n.fp y o).2 (.inr (.inr ⟨c1, h1, g⟩)))
      have hFbo : ∀ y o, ownF E b bi oi cap y o → ¬ blkF hnt y o := fun y o g => hFb y o (hoF y o g)
      replace hc := hc.ext xuc fun o _ _ (g : m = hnt) => by omega
      replace hL := hL.ext xuc (fun y o (g : y = hnt) => by omega) (fun (g : m = hnt) => by omega)
      replace ht := ht.ext xuc hFb
      replace ho := ho.ext xuc hFbo
      replace n := n.ext xuc hFbk hFbc
      replace n4 := n4.ext xw hFbk hFbc
      replace o4 := o4.ext xw hFbo
      replace c4 := c4.ext xw fun o _ _ (g : m = hnt) => by omega
      replace hL4 := hL4.ext xw (fun y o (g : y = hnt) => by omega) (fun (g : m = hnt) => by omega)
      replace rx : Row u5 ub.heap.size 0 (E.cel x) := xw.row rx fun _ _ (g : _ = hnt) => by omega
      replace rn : rd u5 w1.heap.size 0 = some (ptr b) := xw.rd rn fun (g : _ = hnt) => by omega
      have ix : rdA u5 ub.heap.size 0 2 = some (itV x) := iX_at rx
      replace wq4 : wok u5 q 2 := xw.wok wq4
      have z4 := zIt_at c4
      have k40 := n4.kids.c0
      rw [List.length_map] at k40
      replace ga := xw.rd ga fun (g : _ = hnt) => hFbk ba (oa + i) (.inr ⟨rfl, by omega, by omega⟩) g
      replace wi : wok uc bi (oi + cap * 2) := xuc.wok wi
      replace sz4 : ub.heap.size + 3 ≤ u5.heap.size := by omega
      rw [← suc] at rx ix sz4 hqs s1 ⊢
      replace hclt : ∀ y o, c.F y o → y < uc.heap.size := fun y o g => by have := hclt y o g; omega
      have X4 := X4c
      have x5' := x5
      have hF'' : ∀ y o, F' y o → c.F y o ∨ u5.heap.size ≤ y := hF'
      clear X4c X45 xall xd hF'
      clear hhb hbb hhp hpl hbl hbil hml hbcl hbal
      have hbl := wok_lt ho.wb
      have hbil := wok_lt ho.wi
      have hml := wok_lt hc.wok
      have hbcl := wok_lt n.kids.wc
      have hbal := wok_lt n.kids.wa
      have hsw : uc.heap.size = w.heap.size := by omega
      have hhl : hnt < uc.heap.size := by omega
      clear su suc qd M1 M2 M3 M4
      have sh5 := sh5
      have s5' := x5'.size
      have wq5 := x5'.wok wq4
      have hkeep : ∀ {u : World}, Ext (rng q 0 2) w5 u → keeps (some (some [w1.heap.size, b, bc, uc.heap.size])) w5 u := fun hx => keeps_on hx fun y hy => by
        simp only [List.mem_cons, List.not_mem_nil, or_false] at hy
        rcases hy with rfl | rfl | rfl | rfl <;> exact ⟨by omega, fun o g => by simp only [rng] at g; omega⟩
      have hall : ∀ {u : World}, Ext (rng q 0 2) w5 u → Ext (fun y o => c.F y o ∨ rng q 0 2 y o) u5 u := fun hx => x5'.trans hx (fun _ _ g => .inl g) fun _ _ _ g => .inr g
      have hG6 : ∀ y o, (c.F y o ∨ rng q 0 2 y o) → c.F y o ∨ uc.heap.size ≤ y := fun y o g => g.imp id fun g => by simp only [rng] at g; omega
      rcases hres with ⟨rfl, hT', hh'⟩ | ⟨rfl, hT'⟩
      · simp only [↓List.toList_toArray, ↓rgd, ↓rgf, ↓reduceIte, Nat.reduceEqDiff, rg, ow_123]
        refine do_store (by simp only [evt, evc, upd_eq, Nat.reduceEqDiff, ↓reduceIte, ntT, ntF] <;> rfl) (by simp only [evt, evc, upd_eq, Nat.reduceEqDiff, ↓reduceIte, ntT, ntF] <;> rfl) sz_33 (itV_len zIt) wq5 (by decide) (itV_oc zIt) fun w6 x6 r6 s6' => ⟨.inr (hkeep x6), ?_⟩
        simp only [↓List.toList_toArray, ↓rgd, ↓rgf, ↓reduceIte, Nat.reduceEqDiff, rg, ow_123]
        refine hK _ _ ?_; clear hK K
        have x6' := hall x6
        have X6 : Ext F uc w6 := X4.trans x6' (fun _ _ g => g.elim) fun y o hy g => by
          rcases hG6 y o g with g | g
          · exact hcF _ _ g
          · omega
        have rn6 := x6'.rd rn fun g => by
          rcases g with g | g
          · have := hclt _ _ g; omega
          · simp only [rng] at g; omega
        have o6 := o4.ext x6' fun y o g k => by
          rcases hG6 y o k with k | k
          · exact n.ap.own c hcm y o k g
          · have := ho.lt g; omega
        have c6 := c4.ext x6' fun o _ _ g => by
          rcases hG6 _ o g with g | g
          · exact hm o (hcF _ _ g)
          · omega
        have rx6 : Row w6 uc.heap.size 0 (E.cel x) := x6'.row rx fun j _ g => by
          rcases g with g | g
          · have := hclt _ _ g; omega
          · simp only [rng] at g; omega
        have s6 := x6'.size
        have hT0 := hT'
        have hT' := hT'.ext x6 fun y o g k => by
          simp only [rng] at k
          rcases hF'' y o g with g | g
          · have := hclt _ _ g; omega
          · omega
        have wq6 := x6.wok wq5
        refine W_seq ?_
        refine W_sq fun K hK => (W_text [true] (by kernel_rfl) ?_); simp only [↓List.toList_toArray, ↓rgd, ↓rgf, ↓reduceIte, Nat.reduceEqDiff, rg, ow_123]
        refine hK _ _ ?_; clear hK K
        refine W_true (by simp only [evt, evc, upd_eq, Nat.reduceEqDiff, ↓reduceIte, ntT, ntF] <;> rfl) (W_seq ?_)
        have z6 := zIt_at c6
        have hF'm : ∀ o, ¬ F' m o := fun o g => by
          rcases hF'' m o g with g | g
          · exact hm o (hcF _ _ g)
          · omega
        have hF'lt := hT'.lt
        by_cases hfull : ks.length = 2 * d - 1
        · have hb : ((ks.length : Int) == ((2 * d - 1 : Nat) : Int)) = true := by rw [hfull]; simp
          refine W_sq fun K hK => (W_draw (some none) none [(0, 0, 0), (0, 1, 0), (0, 2, 0), (0, 3, 0), (0, 4, 0), (0, 5, 0), (0, 6, 0), (0, 7, 0), (0, 8, 0), (0, 9, 0)] mixed (by kernel_rfl) ?_); simp only [↓List.toList_toArray, ↓rgd, ↓rgf, ↓reduceIte, Nat.reduceEqDiff, rg, ow_123, e0, rn6, ptr_eq, o6.h2, c6.mx, hb]
          refine hK _ _ ?_; clear hK K
          refine W_true (by simp only [evt, evc, upd_eq, Nat.reduceEqDiff, ↓reduceIte, ntT, ntF] <;> rfl) ?_
          refine W_sq fun K hK => (W_text [true, true, true, true, false, true, true] (by kernel_rfl) ?_); simp only [↓List.toList_toArray, ↓rgd, ↓rgf, ↓reduceIte, Nat.reduceEqDiff, rg, ow_123, e0, ptr_eq, z6]
          refine do_store (by simp only [evt, evc, upd_eq, Nat.reduceEqDiff, ↓reduceIte, ntT, ntF] <;> rfl) (by simp only [evt, evc, upd_eq, Nat.reduceEqDiff, ↓reduceIte, ntT, ntF] <;> rfl) sz_33 (itV_len zIt) wq6 (by decide) (itV_oc zIt) fun w7 x7 r7 s7 => ⟨trivial, ?_⟩
          simp only [↓List.toList_toArray, ↓rgd, ↓rgf, ↓reduceIte, Nat.reduceEqDiff, rg, ow_123]
          refine hK _ _ ?_; clear hK K
          have x7 := x7.od
          have X67 : Ext (rng q 0 2) w5 w7 := x6.tr x7
          have n6 := (n4.child (c' := ⟨c.b, c.xs, F'⟩) hci x5' rfl (hT0.mono (by omega)) hF'' (by omega) (by omega)).ext X67 (fun y o g k => by
            simp only [rng] at k
            have := n.kids.lt g; omega) fun c1 hc1 y o g k => by
            simp only [rng] at k
            rcases List.mem_or_eq_of_mem_set hc1 with h1 | rfl
            · have := (n.sub c1 h1).lt y o g; omega
            · rcases hF'' y o g with g | g
              · have := hclt _ _ g; omega
              · omega
          have hsame : weave ((cs.map Kid.xs).set i (Kid.mk c.b c.xs F').xs) ks = xs := by rw [hw.set, hxs]
          rw [hsame] at n6
          refine W_ret (endQ_ctt (by simp only [upd_eq, Nat.reduceEqDiff, ↓reduceIte] <;> rfl) (by simp only [upd_eq, Nat.reduceEqDiff, ↓reduceIte] <;> rfl) (by simp only [upd_eq, Nat.reduceEqDiff, ↓reduceIte] <;> rfl) ld_33 (iX_at r7) (hR _ _ ⟨X6.trans x7 (fun _ _ g => g) fun y o hy g => by simp only [rng] at g; omega, _, ?_, .inl ⟨rfl, n6.tr (o6.ext x7 fun y o g k => by have := ho.lt g; simp only [rng] at k; omega) (by omega) hl2, ?_⟩⟩))
          · rintro y o (g | g | ⟨c1, hc1, g⟩)
            · exact .inl ((n.fp y o).2 (.inl g))
            · exact .inl ((n.fp y o).2 (.inr (.inl g)))
            · rcases List.mem_or_eq_of_mem_set hc1 with h1 | rfl
              · exact .inl ((n.fp y o).2 (.inr (.inr ⟨c1, h1, g⟩)))
              · rcases hF'' y o g with g | g
                · exact .inl (hcF _ _ g)
                · exact .inr (by omega)
          · rw [hxs, hit_mid O (rkI ord) hA hC]; exact hh'
        · have hb : ((ks.length : Int) == ((2 * d - 1 : Nat) : Int)) = false := by simp; omega
          refine W_sq fun K hK => (W_draw (some none) none [(0, 0, 0), (0, 1, 0), (0, 2, 0), (0, 3, 0), (0, 4, 0), (0, 5, 0), (0, 6, 0), (0, 7, 0), (0, 8, 0), (0, 9, 0)] mixed (by kernel_rfl) ?_); simp only [↓List.toList_toArray, ↓rgd, ↓rgf, ↓reduceIte, Nat.reduceEqDiff, rg, ow_123, e0, rn6, ptr_eq, o6.h2, c6.mx, hb]
          refine hK _ _ ?_; clear hK K
          refine W_false (by simp only [evt, evc, upd_eq, Nat.reduceEqDiff, ↓reduceIte, ntT, ntF] <;> rfl) (W_skip ?_)
          show W _ _ _ _ _ _
          have ga6 := x6'.rd ga fun g => g.elim hnF fun g => by simp only [rng] at g; omega
          have k6 := n4.kids.ext x6' fun y o g k => by
            rcases hG6 y o k with k | k
            · exact n.ap.kid c hcm y o k g
            · have := n.kids.lt g; omega
          have k60 := k6.c0
          rw [List.length_map] at k60
          refine W_sq fun K hK => (W_text [true, true, true, true, true, true, true, true, true, true, false, true, true, true, false, true, false] (by kernel_rfl) ?_); simp only [↓List.toList_toArray, ↓rgd, ↓rgf, ↓reduceIte, Nat.reduceEqDiff, rg, ow_123, e0, rn6, ptr_eq, o6.h3, k60, hcl, ga6]
          refine do_call fn_124 (by simp only [evt, evc, upd_eq, Nat.reduceEqDiff, ↓reduceIte, maT, maC, maN, isnN, isnS] <;> rfl) (split_tr m d c.b h' iso c.xs F' _ hd hd' (c6.ext (Ext.dr noF _ _) fun _ _ _ g => g) (hT'.ext (Ext.dr noF _ _) fun _ _ _ g => g) hF'm (by rw [hxs] at hbig; simp at hbig; omega)) ?_
          rintro _ w8 ⟨rb, md, xl, xr, Fl, Fr, rfl, hcxs, x8, hFl, hFr, hlr, tL, tR⟩
          refine ⟨trivial, ?_⟩
          simp only [↓List.toList_toArray, ↓rgd, ↓rgf, ↓reduceIte, Nat.reduceEqDiff, rg, ow_123]
          have x8 := x8.od
          have hFr' : ∀ y o, Fr y o → F' y o ∨ w6.heap.size ≤ y := hFr
          have s8 := x8.size
          have hF'n : ∀ y o, y < u5.heap.size → ¬ c.F y o → ¬ F' y o := fun y o h1 h2 g => by
            rcases hF'' y o g with g | g
            · exact h2 g
            · omega
          have hcw : ∀ y o, uc.heap.size ≤ y → ¬ c.F y o := fun y o h1 g => by have := hclt _ _ g; omega
          have o8 := o6.ext x8 fun y o g => hF'n y o (by have := o4.lt g; omega) fun k => n.ap.own c hcm y o k g
          have k8 := k6.ext x8 fun y o g => hF'n y o (by have := n4.kids.lt g; omega) fun k => n.ap.kid c hcm y o k g
          have rn8 := x8.rd rn6 (hF'n _ _ (by omega) (hcw _ _ (by omega)))
          have rx8 : Row w8 uc.heap.size 0 (E.cel x) := x8.row rx6 fun j _ => hF'n _ _ (by omega) (hcw _ _ (by omega))
          have c8 := c6.ext x8 fun o _ _ => hF'm o
          have hnbs : w1.heap.size < w8.heap.size := by omega
          refine do_alloc z_it fun w9 n9 => ⟨trivial, ?_⟩
          simp only [↓List.toList_toArray, ↓rgd, ↓rgf, ↓reduceIte, Nat.reduceEqDiff, rg, ow_123]
          refine do_store (by simp only [evt, evc, upd_eq, Nat.reduceEqDiff, ↓reduceIte, ntT, ntF] <;> rfl) (by simp only [evt, evc, upd_eq, Nat.reduceEqDiff, ↓reduceIte, ntT, ntF] <;> rfl) sz_33 (itV_len md) n9.wok (by decide) (itV_oc md) fun w10 x10 r10 s10 => ⟨trivial, ?_⟩
          simp only [↓List.toList_toArray, ↓rgd, ↓rgf, ↓reduceIte, Nat.reduceEqDiff, rg, ow_123]
          refine hK _ _ ?_; clear hK K
          have s9 := n9.size
          have X10 : Ext noF w8 w10 := noF_of n9.ext x10 fun x o hx h => by simp only [rng] at h; omega
          have rm10 : Row w10 w8.heap.size 0 (E.cel md) := r10
          have rn10 := X10.rd rn8 (fun h => h)
          have o10 := o8.ext X10 fun _ _ _ h => h
          have k10 := k8.ext X10 fun _ _ _ h => h
          have k100 := k10.c0
          rw [List.length_map] at k100
          have N1 := on1 w1.heap.size b bc
          have N2 := on2 w1.heap.size b bc
          have N3 := on3 w1.heap.size b bc
          refine W_sq fun K hK => (W_draw (some (some [w1.heap.size, b, bc])) (some 13) [(0, 0, 0), (0, 1, 0), (0, 2, 0), (0, 3, 0), (0, 4, 0), (0, 5, 0), (0, 6, 0), (0, 7, 0), (0, 8, 0), (0, 9, 0), (1, 10, 0), (1, 11, 0), (0, 12, 0), (1, 13, 0)] mixed (by kernel_rfl) ?_); simp only [↓List.toList_toArray, ↓rgd, ↓rgf, ↓reduceIte, Nat.reduceEqDiff, rg, ow_123, rn10, ptr_eq, o10.h3, k100, N1, N2, N3]
          refine do_bsl rfl bs_kid fun w11 n11 => ⟨.inr (keep3 n11.ext ⟨by rw [sz_dr]; omega, fun _ h => h⟩ ⟨by rw [sz_dr]; omega, fun _ h => h⟩ ⟨by rw [sz_dr]; omega, fun _ h => h⟩), ?_⟩
          simp only [↓List.toList_toArray, ↓rgd, ↓rgf, ↓reduceIte, Nat.reduceEqDiff, rg, ow_123]
          have n11 := n11.od
          have s11 := n11.size
          have k11 := k10.ext n11.ext fun _ _ _ h => h
          have hkl2 : ((cs.map Kid.b).map ptr).length = cs.length := by simp
          have hsl : SlV w11 1 (.slice (some ⟨ba, oa, none⟩) cs.length capc) cs.length ((cs.map Kid.b).map ptr) := ⟨by rw [hkl2]; omega, .inr ⟨ba, oa, capc, rfl, hkl, k11.row, k11.wa.R (by omega)⟩⟩
          have hz : SlV w11 1 (.slice (some ⟨w10.heap.size, 0, none⟩) 1 1) 1 [.pointer none] := ⟨rfl, .inr ⟨_, 0, 1, rfl, Nat.le_refl _, n11.row, n11.wok.R (Nat.le_refl _)⟩⟩
          refine do_append (by simp only [evt, evc, upd_eq, Nat.reduceEqDiff, ↓reduceIte, ntT, ntF] <;> rfl) (by simp only [evt, evc, upd_eq, Nat.reduceEqDiff, ↓reduceIte, ntT, ntF] <;> rfl) el_kid rfl ni_166 hsl hz (by omega) (by decide) (oc_one rfl rfl) fun v12 w12 a12 => ?_
          obtain ⟨ba', oa', capc', rfl, hcapc', row12, wok12, x12, hcase12⟩ := app_out a12 (k11.wa.mono (by omega))
          simp only [Nat.mul_one] at wok12 x12
          refine ⟨.inr (keep3 x12 ⟨by omega, fun o h => by simp only [rng] at h; omega⟩ ⟨by omega, fun o h => by simp only [rng] at h; omega⟩ ⟨by omega, fun o h => by simp only [rng] at h; omega⟩), ?_⟩
          simp only [↓List.toList_toArray, ↓rgd, ↓rgf, ↓reduceIte, Nat.reduceEqDiff, rg, ow_123]
          have s12 := x12.size
          have wbc12 := x12.wok k11.wc
          refine do_store (by simp only [evt, evc, upd_eq, Nat.reduceEqDiff, ↓reduceIte, ntT, ntF] <;> rfl) (by simp only [evt, evc, upd_eq, Nat.reduceEqDiff, ↓reduceIte, ntT, ntF] <;> rfl) sz_166 rfl wbc12 (by decide) (oc_one rfl rfl) fun w13 x13 r13 s13 => ⟨.inl trivial, ?_⟩
          simp only [↓List.toList_toArray, ↓rgd, ↓rgf, ↓reduceIte, Nat.reduceEqDiff, rg, ow_123]
          refine hK _ _ ?_; clear hK K
          have hba'c : ba' ≠ bc := by omega
          have hba'b : ba' ≠ b := by omega
          have hba'i : ba' ≠ bi := by omega
          have hba's : ba' < w13.heap.size := by have := wok_lt wok12; omega
          have rn13 : rd w13 w1.heap.size 0 = some (ptr b) := x13.rd (x12.rd (n11.ext.rd rn10 fun h => h) (by simp only [rng]; omega)) (by simp only [rng]; omega)
          have h313 : rd w13 b 3 = some (ptr bc) := x13.rd (x12.rd (n11.ext.rd o10.h3 fun h => h) (by simp only [rng]; omega)) (by simp only [rng]; omega)
          have k013 : rd w13 bc 0 = some (.slice (some ⟨ba', oa', none⟩) (cs.length + 1) capc') := (Row.cons.1 r13).1
          have row13 : Row w13 ba' oa' ((cs.map Kid.b).map ptr ++ [.pointer none]) := x13.row row12 fun j _ h => by simp only [rng] at h; omega
          have wok13 := x13.wok wok12
          have q1 : IntKind.i64.wrap ((i : Int) + 1) = ((i + 1 : Nat) : Int) := wadd1 i (by omega)
          have hs1 : slFrom ba' oa' 1 (i + 1) (cs.length + 1) capc' = .slice (some ⟨ba', oa' + (i + 1), none⟩) (cs.length + 1 - (i + 1)) (capc' - (i + 1)) := by rw [slFrom_ne (by omega), Nat.mul_one]
          have hs2 : slFrom ba' oa' 1 i (cs.length + 1) capc' = .slice (some ⟨ba', oa' + i, none⟩) (cs.length + 1 - i) (capc' - i) := by rw [slFrom_ne (by omega), Nat.mul_one]
          have i1 : i + 1 ≤ cs.length + 1 := by omega
          have i2 : i ≤ cs.length + 1 := by omega
          have i3 : i + 1 < cs.length + 1 := by omega
          refine W_sq fun K hK => (W_draw (some none) (some 17) [(0, 0, 0), (0, 1, 0), (0, 2, 0), (0, 3, 0), (0, 4, 0), (0, 5, 0), (0, 6, 0), (0, 7, 0), (0, 8, 0), (0, 9, 0), (0, 10, 0), (0, 11, 0), (0, 12, 0), (0, 13, 0), (0, 14, 0), (0, 15, 0), (0, 16, 0), (1, 17, 0)] mixed (by kernel_rfl) ?_); simp only [↓List.toList_toArray, ↓rgd, ↓rgf, ↓reduceIte, Nat.reduceEqDiff, rg, ow_123, rn13, ptr_eq, h313, k013, q1, i1, i2, hs1, hs2]
          have hln : ((cs.map Kid.b).map ptr ++ [Value.pointer none]).length = (cs.length + 1) * 1 := by simp
          have hocp : oc ((cs.map Kid.b).map ptr ++ [Value.pointer none]) := fun v hv => by
            rcases List.mem_append.1 hv with h | h
            · obtain ⟨p, _, rfl⟩ := List.mem_map.1 h; rfl
            · simp at h; rw [h]; rfl
          have hsrc : SlV (dr w13 (w13.drawn + 1)) 1 (.slice (some ⟨ba', oa' + i, none⟩) (cs.length + 1 - i) (capc' - i)) (cs.length + 1 - i) (((cs.map Kid.b).map ptr ++ [Value.pointer none]).drop i) :=
            ⟨by rw [List.length_drop, hln]; omega, .inr ⟨ba', _, _, rfl, by omega, row13.drop _, wok13.R (by omega)⟩⟩
          refine do_copy (by simp only [evt, evc, upd_eq, Nat.reduceEqDiff, ↓reduceIte, ntT, ntF] <;> rfl) (by simp only [evt, evc, upd_eq, Nat.reduceEqDiff, ↓reduceIte, ntT, ntF] <;> rfl) el_kid hsrc (wok13.mono (by omega)) (fun v hv => hocp v (List.mem_of_mem_drop hv)) fun w14 x14 r14 s14 => ⟨.inl trivial, ?_⟩
          simp only [↓List.toList_toArray, ↓rgd, ↓rgf, ↓reduceIte, Nat.reduceEqDiff, rg, ow_123]
          refine hK _ _ ?_; clear hK K
          have hmin : min (cs.length + 1 - i) (cs.length + 1 - (i + 1)) = cs.length - i := by omega
          rw [hmin] at x14 r14
          clear hmin hsrc hln i1 i2 hs1 hs2
          have x14 := x14.od
          have rn14 := x14.rd rn13 (by simp only [rng]; omega)
          have h314 := x14.rd h313 (by simp only [rng]; omega)
          have k014 := x14.rd k013 (by simp only [rng]; omega)
          have wok14 := x14.wok wok13
          refine W_sq fun K hK => (W_text [true, true, true, true, true, true, true, true, true, true, false] (by kernel_rfl) ?_); simp only [↓List.toList_toArray, ↓rgd, ↓rgf, ↓reduceIte, Nat.reduceEqDiff, rg, ow_123, rn14, ptr_eq, h314, k014, q1, i3]
          refine do_store (by simp only [evt, evc, upd_eq, Nat.reduceEqDiff, ↓reduceIte, ntT, ntF] <;> rfl) (by simp only [evt, evc, upd_eq, Nat.reduceEqDiff, ↓reduceIte, ntT, ntF] <;> rfl) sz_96 rfl wok14 (by omega) (oc_one rfl rfl) fun w15 x15 r15 s15 => ⟨trivial, ?_⟩
          simp only [↓List.toList_toArray, ↓rgd, ↓rgf, ↓reduceIte, Nat.reduceEqDiff, rg, ow_123]
          refine hK _ _ ?_; clear hK K
          have T15 : Ext (fun y o => kidF bc ba oa capc y o ∨ w8.heap.size ≤ y) w8 w15 := by
            refine ((((((X10.trans n11.ext (H := fun y o => kidF bc ba oa capc y o ∨ w8.heap.size ≤ y) (fun _ _ g => g.elim) fun _ _ _ g => g.elim).trans x12 (fun _ _ g => g) fun y o _ g => ?_).trans x13 (fun _ _ g => g) fun y o _ g => ?_).trans x14 (fun _ _ g => g) fun y o _ g => ?_).trans x15 (fun _ _ g => g) fun y o _ g => ?_))
            · simp only [rng] at g; exact .inl (.inr ⟨g.1.1, by omega, by omega⟩)
            · simp only [rng] at g; exact .inl (.inl g.1)
            · simp only [rng] at g
              rcases hcase12 with ⟨rfl, rfl, rfl⟩ | h
              · exact .inl (.inr ⟨g.1, by omega, by omega⟩)
              · exact .inr (by omega)
            · simp only [rng] at g
              rcases hcase12 with ⟨rfl, rfl, rfl⟩ | h
              · exact .inl (.inr ⟨g.1, by omega, by omega⟩)
              · exact .inr (by omega)
          have rn15 := x15.rd rn14 (by simp only [rng]; omega)
          have c15 := c8.ext T15 fun o _ _ g => by
            rcases g with g | g
            · exact hm o ((n.fp _ _).2 (.inr (.inl g)))
            · omega
          have o15 := o8.ext T15 fun y o g h => by
            have := o8.lt g
            rcases h with h | h
            · simp only [ownF, kidF, rng] at g h; omega
            · omega
          have rx15 : Row w15 uc.heap.size 0 (E.cel x) := T15.row rx8 fun j _ h => by
            rcases h with h | h
            · simp only [kidF, rng] at h; omega
            · omega
          have rm15 : Row w15 w8.heap.size 0 (E.cel md) := x15.row (x14.row (x13.row (x12.row (n11.ext.row rm10 fun _ _ h => h) fun j _ h => by simp only [rng] at h; omega) fun j _ h => by simp only [rng] at h; omega) fun j _ h => by simp only [rng] at h; omega) fun j _ h => by simp only [rng] at h; omega
          have hS15 := x15.size
          have hS14 := x14.size
          have hS13 := x13.size
          have z15 := zIt_at c15
          have rowK : Row w15 ba' oa' ((((cs.map Kid.b).map ptr).take (i + 1)) ++ ([ptr rb] ++ ((cs.map Kid.b).map ptr).drop (i + 1))) := by
            have := ins_row1 (sz := 1) (n := cs.length) (i := i) (o1 := oa' + (i + 1)) (zc := [.pointer none]) (xc := [ptr rb]) (w3 := w15) (by rw [hkl2, Nat.mul_one]) hcl row13 rfl x14 (by rw [Nat.mul_one i]; exact r14) (by rw [Nat.mul_one]) (by rw [Nat.mul_one]; exact x15) (by rw [Nat.mul_one]; exact r15) (Ext.refl _ _)
            rwa [Nat.mul_one] at this
          have wok15 := x15.wok wok14
          have k015 := x15.rd k014 (by simp only [rng]; omega)
          have wbc15 := x15.wok (x14.wok (x13.wok wbc12))
          refine W_sq fun K hK => (W_draw (some (some [w1.heap.size, b, m])) (some 13) [(0, 0, 0), (0, 1, 0), (0, 2, 0), (0, 3, 0), (0, 4, 0), (0, 5, 0), (0, 6, 0), (0, 7, 0), (0, 8, 0), (1, 9, 0), (1, 10, 0), (0, 11, 0), (0, 12, 0), (1, 13, 0)] mixed (by kernel_rfl) ?_); simp only [↓List.toList_toArray, ↓rgd, ↓rgf, ↓reduceIte, Nat.reduceEqDiff, rg, ow_123, e0, rn15, ptr_eq, o15.h2, z15, L1, L2, L3, rB_on]
          refine do_bsl rfl bs_it fun w16 n16 => ⟨.inr (keep3 n16.ext ⟨by rw [sz_dr]; omega, fun _ h => h⟩ ⟨by rw [sz_dr]; omega, fun _ h => h⟩ ⟨by rw [sz_dr]; omega, fun _ h => h⟩), ?_⟩
          simp only [↓List.toList_toArray, ↓rgd, ↓rgf, ↓reduceIte, Nat.reduceEqDiff, rg, ow_123]
          have n16 := n16.od
          have s16 := n16.size
          have o16 := o15.ext n16.ext fun _ _ _ h => h
          have hsl2 : SlV w16 2 (.slice (some ⟨bi, oi, none⟩) ks.length cap) ks.length (flat E ks) := ⟨by rw [flat_length]; rfl, .inr ⟨bi, oi, cap, rfl, hcap, o16.row, o16.wi.R (Nat.le_refl _)⟩⟩
          have hz2 : SlV w16 2 (.slice (some ⟨w15.heap.size, 0, none⟩) 1 1) 1 (E.cel zIt) := ⟨rfl, .inr ⟨_, 0, 1, rfl, Nat.le_refl _, n16.row, n16.wok.R (Nat.le_refl _)⟩⟩
          refine do_append (by simp only [evt, evc, upd_eq, Nat.reduceEqDiff, ↓reduceIte, ntT, ntF] <;> rfl) (by simp only [evt, evc, upd_eq, Nat.reduceEqDiff, ↓reduceIte, ntT, ntF] <;> rfl) el_it rfl ni_25 hsl2 hz2 (by omega) (by decide) (E.one zIt) fun v17 w17 a17 => ?_
          obtain ⟨b', o', cap', rfl, hcap', row17, wok17, x17, hcase⟩ := app_out a17 o16.wi
          refine ⟨.inr (keep3 x17 ⟨by omega, fun o h => by simp only [rng] at h; omega⟩ ⟨by omega, fun o h => by simp only [rng] at h; omega⟩ ⟨by omega, fun o h => by simp only [rng] at h; omega⟩), ?_⟩
          simp only [↓List.toList_toArray, ↓rgd, ↓rgf, ↓reduceIte, Nat.reduceEqDiff, rg, ow_123]
          have s17 := x17.size
          have wb17 := x17.wok (n16.ext.wok o15.wb)
          refine do_store (by simp only [evt, evc, upd_eq, Nat.reduceEqDiff, ↓reduceIte, ntT, ntF] <;> rfl) (by simp only [evt, evc, upd_eq, Nat.reduceEqDiff, ↓reduceIte, ntT, ntF] <;> rfl) sz_25 rfl wb17 (by decide) (oc_one rfl rfl) fun w18 x18 r18 s18 => ⟨.inl trivial, ?_⟩
          simp only [↓List.toList_toArray, ↓rgd, ↓rgf, ↓reduceIte, Nat.reduceEqDiff, rg, ow_123]
          refine hK _ _ ?_; clear hK K
          have hb'b : b' ≠ b := by omega
          have hb's : b' < w18.heap.size := by have := wok_lt wok17; omega
          have rn18 : rd w18 w1.heap.size 0 = some (ptr b) := x18.rd (x17.rd (n16.ext.rd rn15 fun h => h) (by simp only [rng]; omega)) (by simp only [rng]; omega)
          have b218 : rd w18 b 2 = some (.slice (some ⟨b', o', none⟩) (ks.length + 1) cap') := (Row.cons.1 r18).1
          have row18 : Row w18 b' o' (flat E ks ++ E.cel zIt) := x18.row row17 fun j _ h => by simp only [rng] at h; omega
          have wok18 := x18.wok wok17
          obtain ⟨o1, hs3, ho1, ho1'⟩ := slFrom_sl b' o' 2 (i + 1) (ks.length + 1) cap'
          have hs4 : slFrom b' o' 2 i (ks.length + 1) cap' = .slice (some ⟨b', o' + i * 2, none⟩) (ks.length + 1 - i) (cap' - i) := by (rw [slFrom_ne (by omega)]; try rw [Nat.mul_one])
          have j1 : i + 1 ≤ ks.length + 1 := by omega
          have j2 : i ≤ ks.length + 1 := by omega
          have j3 : i < ks.length + 1 := by omega
          refine W_sq fun K hK => (W_draw (some none) (some 13) [(0, 0, 0), (0, 1, 0), (0, 2, 0), (0, 3, 0), (0, 4, 0), (0, 5, 0), (0, 6, 0), (0, 7, 0), (0, 8, 0), (0, 9, 0), (0, 10, 0), (0, 11, 0), (0, 12, 0), (1, 13, 0)] mixed (by kernel_rfl) ?_); simp only [↓List.toList_toArray, ↓rgd, ↓rgf, ↓reduceIte, Nat.reduceEqDiff, rg, ow_123, rn18, ptr_eq, b218, q1, j1, j2, hs3, hs4]
          have hln2 : (flat E ks ++ E.cel zIt).length = (ks.length + 1) * 2 := by rw [List.length_append, flat_length, E.len, E_sz]; omega
          have hsrc2 : SlV (dr w18 (w18.drawn + 1)) 2 (.slice (some ⟨b', o' + i * 2, none⟩) (ks.length + 1 - i) (cap' - i)) (ks.length + 1 - i) ((flat E ks ++ E.cel zIt).drop (i * 2)) :=
            ⟨by rw [List.length_drop, hln2]; omega, .inr ⟨b', _, _, rfl, by omega, row18.drop _, wok18.R (by omega)⟩⟩
          have hmo : o1 + (ks.length + 1 - (i + 1)) * 2 ≤ o' + cap' * 2 := by
            by_cases hcc : cap' = i + 1
            · have := ho1' hcc; omega
            · have := ho1 hcc; omega
          refine do_copy (by simp only [evt, evc, upd_eq, Nat.reduceEqDiff, ↓reduceIte, ntT, ntF] <;> rfl) (by simp only [evt, evc, upd_eq, Nat.reduceEqDiff, ↓reduceIte, ntT, ntF] <;> rfl) el_it hsrc2 (wok18.mono hmo) (fun v hv => by
            have := List.mem_of_mem_drop hv
            rcases List.mem_append.1 this with h | h
            · exact flat_oc E ks v h
            · exact E.one zIt v h) fun w19 x19 r19 s19 => ⟨.inl trivial, ?_⟩
          simp only [↓List.toList_toArray, ↓rgd, ↓rgf, ↓reduceIte, Nat.reduceEqDiff, rg, ow_123]
          refine hK _ _ ?_; clear hK K
          have hmin2 : min (ks.length + 1 - i) (ks.length + 1 - (i + 1)) = ks.length - i := by omega
          rw [hmin2] at x19 r19
          clear hmin2 hsrc2 hln2 j1 j2 hs3 hs4 i3
          have x19 := x19.od
          have rn19 := x19.rd rn18 (by simp only [rng]; omega)
          have b219 := x19.rd b218 (by simp only [rng]; omega)
          have wok19 := x19.wok wok18
          have rm19 : Row w19 w8.heap.size 0 (E.cel md) := x19.row (x18.row (x17.row (n16.ext.row rm15 fun _ _ h => h) fun j _ h => by simp only [rng] at h; omega) fun j _ h => by simp only [rng] at h; omega) fun j _ h => by simp only [rng] at h; omega
          have im19 := iX_at rm19
          refine W_sq fun K hK => (W_draw (some none) (some 7) [(0, 0, 0), (0, 1, 0), (0, 2, 0), (0, 3, 0), (0, 4, 0), (0, 5, 0), (0, 6, 0), (1, 7, 0)] mixed (by kernel_rfl) ?_); simp only [↓List.toList_toArray, ↓rgd, ↓rgf, ↓reduceIte, Nat.reduceEqDiff, rg, ow_123, rn19, ptr_eq, b219, j3, im19]
          refine do_store (by simp only [evt, evc, upd_eq, Nat.reduceEqDiff, ↓reduceIte, ntT, ntF] <;> rfl) (by simp only [evt, evc, upd_eq, Nat.reduceEqDiff, ↓reduceIte, ntT, ntF] <;> rfl) sz_33 (itV_len md) wok19 (by omega) (itV_oc md) fun w20 x20 r20 s20 => ⟨.inl trivial, ?_⟩
          simp only [↓List.toList_toArray, ↓rgd, ↓rgf, ↓reduceIte, Nat.reduceEqDiff, rg, ow_123]
          refine hK _ _ ?_; clear hK K
          have x20 := x20.od
          have Y : Ext (fun y o => (rng bi (oi + ks.length * 2) 2 y o ∧ ks.length + 1 ≤ cap) ∨ (y = b ∧ o = 2) ∨ y = b' ∧ o' ≤ o ∧ o < o' + cap' * 2) w16 w20 := by
            refine ((x17.trans x18 (fun _ _ g => .inl g) fun y o _ g => ?_).trans x19 (fun _ _ g => g) fun y o _ g => ?_).trans x20 (fun _ _ g => g) fun y o _ g => ?_
            · simp only [rng] at g; exact .inr (.inl (by omega))
            · simp only [rng] at g
              refine .inr (.inr ⟨g.1, ?_, ?_⟩)
              · by_cases hcc : cap' = i + 1
                · have := ho1' hcc; omega
                · have := ho1 hcc; omega
              · have := hmo; omega
            · simp only [rng] at g; exact .inr (.inr (by omega))
          have hb'c : b' = bi ∧ o' = oi ∧ cap' = cap ∨ w15.heap.size < b' := by
            rcases hcase with h | h
            · exact .inl h
            · exact .inr (by omega)
          have hlen2 : (ks.take i ++ md :: ks.drop i).length = ks.length + 1 := by simp; omega
          have own20 : Own E w20 b iso xs.length b' o' cap' (ks.take i ++ md :: ks.drop i) (ptr bc) := by
            have wb20 := x20.wok (x19.wok (x18.wok wb17))
            refine ⟨Y.rd o16.h0 (by simp only [rng]; omega), Y.rd o16.h1 (by simp only [rng]; omega), ?_, Y.rd o16.h3 (by simp only [rng]; omega), wb20, ?_, x20.wok wok19, ?_, hb'b⟩
            · rw [hlen2]; exact x20.rd b219 (by simp only [rng]; omega)
            · rw [flat_append, flat_cons, ← flat_take, ← flat_drop]
              exact ins_row (sz := 2) (n := ks.length) (by rw [flat_length]; rfl) hlb row18 rfl x19 r19 (fun hin => ho1 (by omega)) x20 r20 (Ext.refl _ _)
            · rw [hlen2]; exact hcap'
          obtain ⟨F20, tr20, hF20, hY⟩ := set_asm (lo := lo) n n4 ho o4 hoF hci hlb hl1 hl2 hfull hw hxs hcxs (by omega) s6 s8 x6' hF'' x8 hFl hFr' hlr tL tR T15 k015 wbc15 rowK wok15 hcapc'
            (by rcases hcase12 with h | h; exact .inl h; exact .inr (by omega)) hba'c hba'b hba'i n16.ext Y hb'c own20 hG6
          clear hmo ho1 ho1' q1 hlen2 hkl2 hcase12 hnbs hb's hba's j3 own20
          have hFlt := ht.lt
          have c20 := (c15.ext n16.ext fun _ _ _ h => h).ext Y fun o _ _ => hY m o (by omega) (hmF o)
          have rn20 := x20.rd rn19 (by simp only [rng]; omega)
          have rx20 : Row w20 uc.heap.size 0 (E.cel x) := Y.row (n16.ext.row rx15 fun _ _ h => h) fun j _ => hY _ _ (by omega) fun g => by have := ho.lt g; omega
          have ix20 := iX_at rx20
          have X20 : Ext F uc w20 := by
            refine (((X6.trans x8 (fun _ _ g => g) fun y o hy g => ?_).trans T15 (fun _ _ g => g) fun y o hy g => ?_).tr (n16.ext.mono fun _ _ _ g => g.elim)).trans Y (fun _ _ g => g) fun y o hy g => ?_
            · rcases hF'' y o g with g | g
              · exact hcF _ _ g
              · omega
            · rcases g with g | g
              · exact (n.fp _ _).2 (.inr (.inl g))
              · omega
            · by_cases hk : ownF E b bi oi cap y o
              · exact hoF _ _ hk
              · exact (hY y o (by omega) hk g).elim
          have hH20 := hHc.ext X20 fun o g => hHF o g
          have hHF20 : ∀ o, ¬ F20 hnt o := fun o g => by
            rcases hF20 _ _ g with g | g
            · exact hHF o g
            · omega
          refine W_sq fun K hK => (W_text [true, true, true, true, false, true, true, true, false, true, true] (by kernel_rfl) ?_); simp only [↓List.toList_toArray, ↓rgd, ↓rgf, ↓reduceIte, Nat.reduceEqDiff, rg, ow_123, e0, e3, e4, ix20]
          refine do_call fn_123 (by simp only [evt, evc, upd_eq, Nat.reduceEqDiff, ↓reduceIte, maT, maC, maN, isnN, isnS] <;> rfl) (ihk (2 * d - (lo + 1)) (by omega) (lo + 1) rfl (by omega) b xs _ w20 w1.heap.size 0 dep c20 (hL.ext X20 (fun y o g => by have := hBF y o g; omega) fun g => hm _ g) (fun y o g => by
            rcases hF20 _ _ g with g | g
            · exact hBF _ _ g
            · omega) hdep tr20 ha hbig (fun o g => by
            rcases hF20 _ _ g with g | g
            · exact hm o g
            · omega) rn20 (fun g => by
            rcases hF20 _ _ g with g | g
            · have := hFlt _ _ g; omega
            · omega) hH20 hHF20 hmh (by omega)) ?_
          rintro v w21 ⟨v20, xv, sv, hHv, x21, F21, hF21, hres⟩
          refine ⟨trivial, ?_⟩
          have X20v : Ext (fun y o => F y o ∨ y = hnt) uc v20 := (X20.mono fun _ _ _ g => .inl g).tr (xv.mono fun _ _ _ g => .inr g)
          obtain ⟨ud, xud, sud, X20d⟩ := ext_cutL X20v hHc.wok
          have hHd := HintAt.back hHv X20d hHF (xud.wok hHc.wok)
          have hR : ∀ v w', SetQ ord d iso (h' + 1) lo b xs x F ud v w' → R v w' := fun v w' g => hR0 v w' ⟨ud, (xu.tr xuc).tr xud, sud.trans hsw, hHd, g⟩
          have X20 := X20d
          have s20 := X20.size
          have X21 : Ext F ud w21 := X20.trans x21 (fun _ _ g => g) fun y o hy g => by
            rcases hF20 _ _ g with g | g
            · exact g
            · omega
          have hs420 : u5.heap.size ≤ v20.heap.size := by rw [sv]; have a1 := T15.size; have a2 := n16.ext.size; have a3 := Y.size; omega
          have hF21' : ∀ y o, F21 y o → F y o ∨ u5.heap.size ≤ y := fun y o g => by
            rcases hF21 y o g with g | g
            · rcases hF20 _ _ g with g | g
              · exact .inl g
              · exact .inr (by omega)
            · exact .inr (by omega)
          have hF21q : ∀ o, ¬ F21 q o := fun o g => by
            rcases hF21' _ _ g with g | g
            · have := hFlt _ _ g; omega
            · omega
          have wq21 : wok w21 q 2 := x21.wok (xv.wok (Y.wok (n16.ext.wok (T15.wok (x8.wok wq6)))))
          have hF21w : ∀ y o, F21 y o → F y o ∨ ud.heap.size ≤ y := fun y o g => (hF21' y o g).imp id fun g => by omega
          have hqF : ∀ {u : World}, Ext (rng q 0 2) w21 u → Ext F ud u := fun hx => X21.trans hx (fun _ _ g => g) fun y o hy g => by simp only [rng] at g; omega
          rcases hres with ⟨rfl, hT', hh2⟩ | ⟨rfl, hT'⟩
          · simp only [↓List.toList_toArray, ↓rgd, ↓rgf, ↓reduceIte, Nat.reduceEqDiff, rg, ow_123]
            refine do_store (by simp only [evt, evc, upd_eq, Nat.reduceEqDiff, ↓reduceIte, ntT, ntF] <;> rfl) (by simp only [evt, evc, upd_eq, Nat.reduceEqDiff, ↓reduceIte, ntT, ntF] <;> rfl) sz_33 (itV_len zIt) wq21 (by decide) (itV_oc zIt) fun w22 x22 r22 s22 => ⟨trivial, ?_⟩
            simp only [↓List.toList_toArray, ↓rgd, ↓rgf, ↓reduceIte, Nat.reduceEqDiff, rg, ow_123]
            refine hK _ _ ?_; clear hK K
            exact W_ret (endQ_ctt (by simp only [upd_eq, Nat.reduceEqDiff, ↓reduceIte] <;> rfl) (by simp only [upd_eq, Nat.reduceEqDiff, ↓reduceIte] <;> rfl) (by simp only [upd_eq, Nat.reduceEqDiff, ↓reduceIte] <;> rfl) ld_33 (iX_at r22) (hR _ _ ⟨hqF x22, F21, hF21w, .inl ⟨rfl, hT'.ext x22 fun y o g k => by simp only [rng] at k; exact hF21q o (by rw [← k.1]; exact g), hh2⟩⟩))
          · simp only [↓List.toList_toArray, ↓rgd, ↓rgf, ↓reduceIte, Nat.reduceEqDiff, rg, ow_123]
            refine do_store (by simp only [evt, evc, upd_eq, Nat.reduceEqDiff, ↓reduceIte, ntT, ntF] <;> rfl) (by simp only [evt, evc, upd_eq, Nat.reduceEqDiff, ↓reduceIte, ntT, ntF] <;> rfl) sz_33 (itV_len _) wq21 (by decide) (itV_oc _) fun w22 x22 r22 s22 => ⟨trivial, ?_⟩
            simp only [↓List.toList_toArray, ↓rgd, ↓rgf, ↓reduceIte, Nat.reduceEqDiff, rg, ow_123]
            refine hK _ _ ?_; clear hK K
            exact W_ret (endQ_ctt (by simp only [upd_eq, Nat.reduceEqDiff, ↓reduceIte] <;> rfl) (by simp only [upd_eq, Nat.reduceEqDiff, ↓reduceIte] <;> rfl) (by simp only [upd_eq, Nat.reduceEqDiff, ↓reduceIte] <;> rfl) ld_33 (iX_at r22) (hR _ _ ⟨hqF x22, F21, hF21w, .inr ⟨rfl, (hT'.mono (by omega)).ext x22 fun y o g k => by simp only [rng] at k; exact hF21q o (by rw [← k.1]; exact g)⟩⟩))
      · simp only [↓List.toList_toArray, ↓rgd, ↓rgf, ↓reduceIte, Nat.reduceEqDiff, rg, ow_123]
        refine do_store (by simp only [evt, evc, upd_eq, Nat.reduceEqDiff, ↓reduceIte, ntT, ntF] <;> rfl) (by simp only [evt, evc, upd_eq, Nat.reduceEqDiff, ↓reduceIte, ntT, ntF] <;> rfl) sz_33 (itV_len _) wq5 (by decide) (itV_oc _) fun w6 x6 r6 s6' => ⟨.inr (hkeep x6), ?_⟩
        simp only [↓List.toList_toArray, ↓rgd, ↓rgf, ↓reduceIte, Nat.reduceEqDiff, rg, ow_123]
        refine hK _ _ ?_; clear hK K
        have x6' := hall x6
        have X6 : Ext F uc w6 := X4.trans x6' (fun _ _ g => g.elim) fun y o hy g => by
          rcases hG6 y o g with g | g
          · exact hcF _ _ g
          · omega
        have rn6 := x6'.rd rn fun g => by
          rcases g with g | g
          · have := hclt _ _ g; omega
          · simp only [rng] at g; omega
        have o6 := o4.ext x6' fun y o g k => by
          rcases hG6 y o k with k | k
          · exact n.ap.own c hcm y o k g
          · have := ho.lt g; omega
        have c6 := c4.ext x6' fun o _ _ g => by
          rcases hG6 _ o g with g | g
          · exact hm o (hcF _ _ g)
          · omega
        have rx6 : Row w6 uc.heap.size 0 (E.cel x) := x6'.row rx fun j _ g => by
          rcases g with g | g
          · have := hclt _ _ g; omega
          · simp only [rng] at g; omega
        have s6 := x6'.size
        have hT0 := hT'
        have hT' := hT'.ext x6 fun y o g k => by
          simp only [rng] at k
          rcases hF'' y o g with g | g
          · have := hclt _ _ g; omega
          · omega
        have wq6 := x6.wok wq5
        have n6 := (n4.child (c' := ⟨c.b, put O (rkI ord) x c.xs, F'⟩) hci x5' rfl hT0 hF'' (by omega) (by omega)).ext x6 (fun y o g k => by
            simp only [rng] at k
            have := n.kids.lt g; omega) fun c1 hc1 y o g k => by
            simp only [rng] at k
            rcases List.mem_or_eq_of_mem_set hc1 with h1 | rfl
            · have := (n.sub c1 h1).lt y o g; omega
            · rcases hF'' y o g with g | g
              · have := hclt _ _ g; omega
              · omega
        have hput : put O (rkI ord) x xs = weave ((cs.map Kid.xs).set i (put O (rkI ord) x c.xs)) ks := by rw [hxs, put_mid O (rkI ord) hA hC, hw.set]
        have hhit : hit O (rkI ord) (rkI ord x) xs = hit O (rkI ord) (rkI ord x) c.xs := by rw [hxs, hit_mid O (rkI ord) hA hC]
        have hat : at? O (rkI ord) (rkI ord x) xs = at? O (rkI ord) (rkI ord x) c.xs := by rw [hxs, at_mid O (rkI ord) hA hC]
        rw [show weave ((cs.map Kid.xs).set i (Kid.mk c.b (put O (rkI ord) x c.xs) F').xs) ks = put O (rkI ord) x xs from hput.symm] at n6
        have hsub : ∀ y o, (ownF E b bi oi cap y o ∨ kidF bc ba oa capc y o ∨ ∃ c_1 ∈ cs.set i ⟨c.b, put O (rkI ord) x c.xs, F'⟩, c_1.F y o) → F y o ∨ uc.heap.size ≤ y := by
          rintro y o (g | g | ⟨c1, hc1, g⟩)
          · exact .inl ((n.fp y o).2 (.inl g))
          · exact .inl ((n.fp y o).2 (.inr (.inl g)))
          · rcases List.mem_or_eq_of_mem_set hc1 with h1 | rfl
            · exact .inl ((n.fp y o).2 (.inr (.inr ⟨c1, h1, g⟩)))
            · rcases hF'' y o g with g | g
              · exact .inl (hcF _ _ g)
              · exact .inr (by omega)
        have hsubq : ∀ o, ¬ (ownF E b bi oi cap q o ∨ kidF bc ba oa capc q o ∨ ∃ c_1 ∈ cs.set i ⟨c.b, put O (rkI ord) x c.xs, F'⟩, c_1.F q o) := by
          rintro o (g | g | ⟨c1, hc1, g⟩)
          · have := ho.lt g; omega
          · have := n.kids.lt g; omega
          · rcases List.mem_or_eq_of_mem_set hc1 with h1 | rfl
            · have := (n.sub c1 h1).lt _ _ g; omega
            · rcases hF'' _ o g with g | g
              · have := hclt _ _ g; omega
              · omega
        refine W_seq ?_
        refine W_sq fun K hK => (W_text [true] (by kernel_rfl) ?_); simp only [↓List.toList_toArray, ↓rgd, ↓rgf, ↓reduceIte, Nat.reduceEqDiff, rg, ow_123]
        refine hK _ _ ?_; clear hK K
        refine W_false (by simp only [evt, evc, upd_eq, Nat.reduceEqDiff, ↓reduceIte, ntT, ntF] <;> rfl) (W_skip ?_)
        show W _ _ _ _ _ _
        refine W_seq ?_
        refine W_sq fun K hK => (W_text [true, true] (by kernel_rfl) ?_); simp only [↓List.toList_toArray, ↓rgd, ↓rgf, ↓reduceIte, Nat.reduceEqDiff, rg, ow_123]
        refine hK _ _ ?_; clear hK K
        have hpl := put_length O (rkI ord) x xs
        rw [hhit] at hpl
        cases hh2 : hit O (rkI ord) (rkI ord x) c.xs with
        | true =>
          rw [hh2] at hpl hhit
          refine W_false (by simp only [evt, evc, upd_eq, Nat.reduceEqDiff, ↓reduceIte, ntT, ntF] <;> rfl) (W_skip ?_)
          show W _ _ _ _ _ _
          have pv6 := iX_at (show Row w6 q 0 (E.cel ((at? O (rkI ord) (rkI ord x) c.xs).getD zIt)) from r6)
          refine W_sq fun K hK => (W_text [true, true, false, true, true] (by kernel_rfl) ?_); simp only [↓List.toList_toArray, ↓rgd, ↓rgf, ↓reduceIte, Nat.reduceEqDiff, rg, ow_123, pv6]
          refine do_store (by simp only [evt, evc, upd_eq, Nat.reduceEqDiff, ↓reduceIte, ntT, ntF] <;> rfl) (by simp only [evt, evc, upd_eq, Nat.reduceEqDiff, ↓reduceIte, ntT, ntF] <;> rfl) sz_33 (itV_len _) wq6 (by decide) (itV_oc _) fun w7 x7 r7 s7 => ⟨trivial, ?_⟩
          simp only [↓List.toList_toArray, ↓rgd, ↓rgf, ↓reduceIte, Nat.reduceEqDiff, rg, ow_123]
          refine hK _ _ ?_; clear hK K
          refine W_ret (endQ_ctt (by simp only [upd_eq, Nat.reduceEqDiff, ↓reduceIte] <;> rfl) (by simp only [upd_eq, Nat.reduceEqDiff, ↓reduceIte] <;> rfl) (by simp only [upd_eq, Nat.reduceEqDiff, ↓reduceIte] <;> rfl) ld_33 (iX_at (show Row w7 q 0 (E.cel ((at? O (rkI ord) (rkI ord x) c.xs).getD zIt)) from r7)) (hR _ _ ⟨X6.trans x7 (fun _ _ g => g) fun y o hy g => by simp only [rng] at g; omega, _, hsub, .inr ⟨?_, Tr.ext x7 (n6.tr ?_ hl1 hl2) fun y o g k => ?_⟩⟩))
          · rw [hat, hhit]
          · rw [hpl]; exact o6
          · simp only [rng] at k
            exact hsubq o (by rw [← k.1]; exact g)
        | false =>
          rw [hh2] at hpl hhit
          refine W_true (by simp only [evt, evc, upd_eq, Nat.reduceEqDiff, ↓reduceIte, ntT, ntF] <;> rfl) ?_
          have q2 := wadd1 xs.length (by omega)
          refine W_rg fun K hK => (W_text [true, true, true, true, true, true, true, false] (by kernel_rfl) ?_); simp only [↓List.toList_toArray, ↓rgd, ↓rgf, ↓reduceIte, Nat.reduceEqDiff, rg, ow_123, rn6, ptr_eq, o6.h1, q2]
          refine do_store (by simp only [evt, evc, upd_eq, Nat.reduceEqDiff, ↓reduceIte, ntT, ntF] <;> rfl) (by simp only [evt, evc, upd_eq, Nat.reduceEqDiff, ↓reduceIte, ntT, ntF] <;> rfl) sz_3 rfl o6.wb (by decide) (oc_one rfl rfl) fun w8 x8 r8 s8 => ⟨trivial, ?_⟩
          simp only [↓List.toList_toArray, ↓rgd, ↓rgf, ↓reduceIte, Nat.reduceEqDiff, rg, ow_123]
          refine hK _ _ ?_; clear hK K
          show W _ _ _ _ _ _
          have hqb : q ≠ b := by omega
          have pv8 := iX_at (x8.row (show Row w6 q 0 (E.cel ((at? O (rkI ord) (rkI ord x) c.xs).getD zIt)) from r6) fun j _ g => by simp only [rng] at g; omega)
          refine W_sq fun K hK => (W_text [true, true, false, true, true] (by kernel_rfl) ?_); simp only [↓List.toList_toArray, ↓rgd, ↓rgf, ↓reduceIte, Nat.reduceEqDiff, rg, ow_123, pv8]
          refine do_store (by simp only [evt, evc, upd_eq, Nat.reduceEqDiff, ↓reduceIte, ntT, ntF] <;> rfl) (by simp only [evt, evc, upd_eq, Nat.reduceEqDiff, ↓reduceIte, ntT, ntF] <;> rfl) sz_33 (itV_len _) (x8.wok wq6) (by decide) (itV_oc _) fun w9 x9 r9 s9 => ⟨trivial, ?_⟩
          simp only [↓List.toList_toArray, ↓rgd, ↓rgf, ↓reduceIte, Nat.reduceEqDiff, rg, ow_123]
          refine hK _ _ ?_; clear hK K
          have n8 := n6.ext x8 (fun y o g k => by simp only [rng] at k; simp only [kidF, rng] at g; omega) fun c1 hc1 y o g k => n6.ap.own c1 hc1 y o g (.inl k.1)
          have hne := ho.ne
          refine W_ret (endQ_ctt (by simp only [upd_eq, Nat.reduceEqDiff, ↓reduceIte] <;> rfl) (by simp only [upd_eq, Nat.reduceEqDiff, ↓reduceIte] <;> rfl) (by simp only [upd_eq, Nat.reduceEqDiff, ↓reduceIte] <;> rfl) ld_33 (iX_at (show Row w9 q 0 (E.cel ((at? O (rkI ord) (rkI ord x) c.xs).getD zIt)) from r9)) (hR _ _ ⟨(X6.trans x8 (fun _ _ g => g) fun y o _ g => hoF _ _ (.inl g.1)).trans x9 (fun _ _ g => g) fun y o hy g => by simp only [rng] at g; omega, _, hsub, .inr ⟨?_, Tr.ext x9 (n8.tr ?_ hl1 hl2) fun y o g k => ?_⟩⟩))
          · rw [hat, hhit]
          · rw [hpl]
            refine ⟨x8.rd o6.h0 (by simp only [rng]; omega), (Row.cons.1 r8).1, x8.rd o6.h2 (by simp only [rng]; omega), x8.rd o6.h3 (by simp only [rng]; omega), x8.wok o6.wb, x8.row o6.row fun j _ g => by simp only [rng] at g; omega,
              x8.wok o6.wi, hcap, hne⟩
          · simp only [rng] at k
            exact hsubq o (by rw [← k.1]; exact g)
end Go.Proofs.Ytbnnkcofnmipoaa
/-
  Setting an item in a tree, with a hint. No condition.
-/
set_option linter.unusedSimpArgs false
set_option linter.unusedVariables false
namespace Go.Proofs.Ytbnnkcofnmipoaa
open Go Go.Proofs
def RootQ (B m d : Nat) (iso : Int) (ord : List Int) (x : It) (xs : List It) (F : Nat → Nat → Prop) (w : World) (v : Value) (w' : World) : Prop :=
  v = .tuple #[itV ((at? O (rkI ord) (rkI ord x) xs).getD zIt), .bool (hit O (rkI ord) (rkI ord x) xs)] ∧ Ext (mapF m F) w w' ∧ ∃ F', TreeAt B ord w' m d iso (put O (rkI ord) x xs) F' ∧ ∀ y o, F' y o → F y o ∨ w.heap.size ≤ y
def RootH (B m d : Nat) (iso : Int) (ord : List Int) (x : It) (xs : List It) (F : Nat → Nat → Prop) (hb : Nat) (w : World) (v : Value) (w' : World) : Prop :=
  ∃ u, Ext (blkF hb) w u ∧ u.heap.size = w.heap.size ∧ HintAt u hb ∧ RootQ B m d iso ord x xs F u v w'
set_option maxHeartbeats 1000000 in
set_option maxRecDepth 8000 in
/-- Setting, where there is a root. -/
theorem set_rootH (B m d : Nat) (iso : Int) (ord : List Int) (x : It) (hb : Nat) (hd : 2 ≤ d) (hd' : d ≤ 128) : ∀ (k h b : Nat) (xs : List It) (F : Nat → Nat → Prop) (w : World), xs.length - h = k → Cfg w m iso d → Ls B m w ord → (∀ y o, F y o → m < y) →
    rd w m 3 = some (.int .i64 xs.length) → Asc O (rkI ord) xs → rd w m 2 = some (ptr b) → Tr E iso (d - 1) (2 * d - 1) h w 1 b xs F → (∀ o, ¬ F m o) → xs.length < 1152921504606846976 → HintAt w hb → (∀ o, ¬ F hb o) → m < hb →
    CallK Try.prog 90 #[ptr m, itV x, ptr hb] w (RootH B m d iso ord x xs F hb w) := by
  intro k
  induction k using Nat.strongRecOn with
  | _ k ih =>
  intro h b xs F w hk hc hL hBF hcnt ha hroot ht hm hbig hH hHF hmh
  suffices HS : ∀ R : Value → World → Prop, (∀ v w', RootH B m d iso ord x xs F hb w v w' → R v w') → CallK Try.prog 90 #[ptr m, itV x, ptr hb] w R from HS _ fun _ _ h => h
  intro R hR0
  have hhl := wok_lt hH.wok
  have hFb : ∀ y o, F y o → ¬ blkF hb y o := fun y o g (k : y = hb) => hHF o (k ▸ g)
  have hml := wok_lt hc.wok
  have hht := Tr.height (by omega) (Nat.le_refl 1) ht
  have hBm : B ≤ m := by obtain ⟨_, _, _, h⟩ := hL; exact h
  refine calls_of_W [.cell 6 33, .tmp 7] Try.func90 rfl Try.ntmps90 Try.results90 (by simp) fun e he => ?_
  have e0 : e 0 = ptr m := he 0 _ rfl
  have e1 : e 1 = itV x := he 1 _ rfl
  have e2 : e 2 = ptr hb := he 2 _ rfl
  clear he
  refine W_sq fun K hK => (W_text [false, false, true] (by kernel_rfl) ?_); simp only [↓List.toList_toArray, ↓rgd, ↓rgf, ↓reduceIte, Nat.reduceEqDiff, rg, ow_90]
  refine do_box (by simp only [evt]; exact e1) fun w1 n1 => ⟨trivial, ?_⟩
  simp only [↓List.toList_toArray, ↓rgd, ↓rgf, ↓reduceIte, Nat.reduceEqDiff, rg, ow_90]
  refine do_alloc z_it fun w2 n2 => ⟨trivial, ?_⟩
  simp only [↓List.toList_toArray, ↓rgd, ↓rgf, ↓reduceIte, Nat.reduceEqDiff, rg, ow_90]
  refine hK _ _ ?_; clear hK K
  have s1 := n1.size
  have X2 : Ext noF w w2 := n1.ext.tr n2.ext
  have rx : Row w2 w.heap.size 0 (E.cel x) := n2.ext.row n1.row fun _ _ h => h
  have s2 : w2.heap.size = w.heap.size + 2 := by have := n2.size; omega
  obtain ⟨q, hq⟩ : ∃ q, q = w1.heap.size := ⟨_, rfl⟩
  have hqs : q = w.heap.size + 1 := by omega
  have wq2 : wok w2 q 2 := by rw [hq]; exact n2.wok
  rw [← hq]
  clear hq n1 n2
  have c2 := hc.ext X2 fun _ _ _ h => h
  have rt2 := X2.rd hroot (fun h => h)
  have ix := iX_at rx
  refine W_seq ?_
  refine W_sq fun K hK => (W_text [true, true, true, true, true] (by kernel_rfl) ?_); simp only [↓List.toList_toArray, ↓rgd, ↓rgf, ↓reduceIte, Nat.reduceEqDiff, rg, ow_90, e0, ptr_eq, rt2]
  refine hK _ _ ?_; clear hK K
  refine W_false (by simp only [evt, evc, upd_eq, Nat.reduceEqDiff, ↓reduceIte, ntT, ntF] <;> rfl) (W_skip ?_)
  show W _ _ _ _ _ _
  have M1 : readsB (some (some [w.heap.size])) w.heap.size = true := by simp [readsB]
  have hFlt := ht.lt
  refine W_sq fun K hK => (W_draw (some (some [w.heap.size])) none [(0, 0, 0), (0, 1, 0), (0, 2, 0), (0, 3, 0), (0, 4, 0), (0, 5, 0), (1, 6, 0), (0, 7, 0), (0, 8, 0), (0, 9, 0), (0, 10, 0), (1, 11, 0), (0, 12, 0), (0, 13, 0)] mixed (by kernel_rfl) ?_); simp only [↓List.toList_toArray, ↓rgd, ↓rgf, ↓reduceIte, Nat.reduceEqDiff, rg, ow_90, e0, e2, ptr_eq, ix, M1]
  refine do_call fn_123 (by simp only [evt, evc, upd_eq, Nat.reduceEqDiff, ↓reduceIte, maT, maC, maN, isnN, isnS] <;> rfl) (setH_any B m d iso ord x hb hd hd' h _ 1 rfl (Nat.le_refl 1) b xs F _ m 2 0 (c2.ext (Ext.dr noF _ _) fun _ _ _ g => g) (hL.ext0 (X2.tr (Ext.dr noF _ _))) hBF (by omega) ((ht.ext X2 fun _ _ _ g => g).ext (Ext.dr noF _ _) fun _ _ _ g => g) ha hbig hm rt2 (hm 2) (hH.ext (X2.tr (Ext.dr _ _ _)) fun _ g => g) hHF hmh (by omega)) ?_
  rintro v w3p ⟨u3, xh3, sh3, hHu3, x3p, F', hF', hres⟩
  rw [sz_dr] at sh3
  have xd : Ext noF w2 (dr w2 (w2.drawn + 1)) := Ext.dr _ _ _
  have xall : Ext (fun y o => F y o ∨ y = hb) (dr w2 (w2.drawn + 1)) w3p := (xh3.mono fun y o _ g => .inr g).tr (x3p.mono fun y o _ g => .inl g)
  refine ⟨.inr (keeps_on xall fun y hy => ?_), ?_⟩
  · rw [sz_dr]
    simp only [List.mem_cons, List.not_mem_nil, or_false] at hy
    subst hy
    exact ⟨by omega, fun o g => g.elim (fun g => by have := hFlt _ _ g; omega) fun g => by omega⟩
  have xw : Ext (blkF hb) w2 u3 := (xd.mono fun _ _ _ g => g.elim).tr xh3
  have X23 : Ext (fun y o => noF y o ∨ y = hb) w u3 := (X2.mono fun _ _ _ g => .inl g).tr (xw.mono fun _ _ _ g => .inr g)
  obtain ⟨ub, xu, su, X2b⟩ := ext_cutL X23 hH.wok
  have hHu := HintAt.back hHu3 X2b (fun _ g => g) (xu.wok hH.wok)
  have hR : ∀ v w', RootQ B m d iso ord x xs F ub v w' → R v w' := fun v w' g => hR0 v w' ⟨ub, xu, su, hHu, g⟩
  replace hc := hc.ext xu fun o _ _ (g : m = hb) => by omega
  replace hL := hL.ext xu (fun y o (g : y = hb) => by omega) (fun (g : m = hb) => by omega)
  replace hcnt := xu.rd hcnt fun (g : m = hb) => by omega
  replace hroot := xu.rd hroot fun (g : m = hb) => by omega
  replace ht := ht.ext xu hFb
  replace c2 := c2.ext xw fun o _ _ (g : m = hb) => by omega
  replace rt2 := xw.rd rt2 fun (g : m = hb) => by omega
  replace rx : Row u3 w.heap.size 0 (E.cel x) := xw.row rx fun _ _ (g : _ = hb) => by omega
  replace ix := iX_at rx
  replace wq2 := xw.wok wq2
  replace s2 : u3.heap.size = w.heap.size + 2 := by omega
  rw [← su] at rx ix s2 hqs ⊢
  have X2 := X2b
  replace hFlt : ∀ y o, F y o → y < ub.heap.size := fun y o g => by have := hFlt y o g; omega
  have hF3 : ∀ y o, F' y o → F y o ∨ u3.heap.size ≤ y := hF'
  clear X2b X23 xall xd hF' M1
  have s3p := x3p.size
  have wq3 := x3p.wok wq2
  have hF'm : ∀ o, ¬ F' m o := fun o g => by
    rcases hF3 m o g with g | g
    · exact hm o g
    · omega
  have hF'q : ∀ o, ¬ F' q o := fun o g => by
    rcases hF3 q o g with g | g
    · have := hFlt _ _ g; omega
    · omega
  have hkeep : ∀ {u : World}, Ext (rng q 0 2) w3p u → keeps (some (some [ub.heap.size])) w3p u := fun hx => keeps_on hx fun y hy => by
    simp only [List.mem_cons, List.not_mem_nil, or_false] at hy
    subst hy
    exact ⟨by omega, fun o g => by simp only [rng] at g; omega⟩
  rcases hres with ⟨rfl, hT', hh⟩ | ⟨rfl, hT'⟩
  · simp only [↓List.toList_toArray, ↓rgd, ↓rgf, ↓reduceIte, Nat.reduceEqDiff, rg, ow_90]
    refine do_store (by simp only [evt, evc, upd_eq, Nat.reduceEqDiff, ↓reduceIte, ntT, ntF] <;> rfl) (by simp only [evt, evc, upd_eq, Nat.reduceEqDiff, ↓reduceIte, ntT, ntF] <;> rfl) sz_33 (itV_len zIt) wq3 (by decide) (itV_oc zIt) fun w3 x3s r3s s3s => ⟨.inr (hkeep x3s), ?_⟩
    simp only [↓List.toList_toArray, ↓rgd, ↓rgf, ↓reduceIte, Nat.reduceEqDiff, rg, ow_90]
    refine hK _ _ ?_; clear hK K
    have x3 : Ext (fun y o => F y o ∨ rng q 0 2 y o) u3 w3 := x3p.trans x3s (fun _ _ g => .inl g) fun _ _ _ g => .inr g
    have X3 : Ext F ub w3 := X2.trans x3 (fun _ _ g => g.elim) fun y o hy g => g.elim id fun g => by simp only [rng] at g; omega
    have s3 := x3.size
    have hmG : ∀ o, ¬ (F m o ∨ rng q 0 2 m o) := fun o g => g.elim (hm o) fun g => by simp only [rng] at g; omega
    have c3 := c2.ext x3 fun o _ _ => hmG o
    have rt3 := x3.rd rt2 (hmG 2)
    have ct3 := X3.rd hcnt (hm 3)
    have hL3 := hL.ext X3 (fun y o g => by have := hBF y o g; omega) (hm 6)
    have wq3' := x3s.wok wq3
    have hT' := hT'.ext x3s fun y o g k => by simp only [rng] at k; exact hF'q o (by rw [← k.1]; exact g)
    have hab3 : ∀ y o, F' y o → m < y := fun y o g => by
      rcases hF3 y o g with g | g
      · exact hBF _ _ g
      · omega
    refine W_seq ?_
    refine W_sq fun K hK => (W_text [true] (by kernel_rfl) ?_); simp only [↓List.toList_toArray, ↓rgd, ↓rgf, ↓reduceIte, Nat.reduceEqDiff, rg, ow_90]
    refine hK _ _ ?_; clear hK K
    refine W_true (by simp only [evt, evc, upd_eq, Nat.reduceEqDiff, ↓reduceIte, ntT, ntF] <;> rfl) ?_
    refine W_sq fun K hK => (W_text [true, true, true, true, false, true] (by kernel_rfl) ?_); simp only [↓List.toList_toArray, ↓rgd, ↓rgf, ↓reduceIte, Nat.reduceEqDiff, rg, ow_90, e0, ptr_eq]
    have tb3 : rd w3 b 0 = some (.int .u64 iso) := hT'.iso0.1
    refine do_call fn_96 (by simp only [evt, evc, upd_eq, Nat.reduceEqDiff, ↓reduceIte, maT, maC, maN, isnN, isnS] <;> rfl) (isoLoad_any m m 2 b true iso w3 c3.iso rt3 tb3) ?_
    rintro _ _ ⟨rfl, n3, rfl⟩
    refine ⟨trivial, ?_⟩
    simp only [↓List.toList_toArray, ↓rgd, ↓rgf, ↓reduceIte, Nat.reduceEqDiff, rg, ow_90]
    refine hK _ _ ?_; clear hK K
    refine W_sq fun K hK => (W_text [true, true, false, true, true, true, false, true, false] (by kernel_rfl) ?_); simp only [↓List.toList_toArray, ↓rgd, ↓rgf, ↓reduceIte, Nat.reduceEqDiff, rg, ow_90, e0]
    refine do_call fn_124 (by simp only [evt, evc, upd_eq, Nat.reduceEqDiff, ↓reduceIte, maT, maC, maN, isnN, isnS] <;> rfl) (split_tr m d b h iso xs F' (dr w3 n3) hd hd' (c3.ext (Ext.dr noF _ _) fun _ _ _ g => g) (hT'.ext (Ext.dr noF _ _) fun _ _ _ g => g) hF'm (by omega)) ?_
    rintro _ w4 ⟨rb, md, xl, xr, Fl, Fr, rfl, hxs, x4, hFl, hFr, hlr, tL, tR⟩
    refine ⟨trivial, ?_⟩
    have x4 := x4.od
    have hFr : ∀ y o, Fr y o → F' y o ∨ w3.heap.size ≤ y := hFr
    simp only [↓List.toList_toArray, ↓rgd, ↓rgf, ↓reduceIte, Nat.reduceEqDiff, rg, ow_90]
    refine do_alloc z_it fun w5 n5 => ⟨trivial, ?_⟩
    simp only [↓List.toList_toArray, ↓rgd, ↓rgf, ↓reduceIte, Nat.reduceEqDiff, rg, ow_90]
    refine do_store (by simp only [evt, evc, upd_eq, Nat.reduceEqDiff, ↓reduceIte, ntT, ntF] <;> rfl) (by simp only [evt, evc, upd_eq, Nat.reduceEqDiff, ↓reduceIte, ntT, ntF] <;> rfl) sz_33 (itV_len md) n5.wok (by decide) (itV_oc md) fun w6 x6 r6 s6 => ⟨trivial, ?_⟩
    simp only [↓List.toList_toArray, ↓rgd, ↓rgf, ↓reduceIte, Nat.reduceEqDiff, rg, ow_90]
    refine hK _ _ ?_; clear hK K
    have s4 := x4.size
    have s5 := n5.size
    have X6 : Ext noF w4 w6 := noF_of n5.ext x6 fun y o hy h => by simp only [rng] at h; omega
    have c4 := c3.ext x4 fun o _ _ => hF'm o
    have c6 := c4.ext X6 fun _ _ _ h => h
    refine W_sq fun K hK => (W_text [true, true, false, true, true, false] (by kernel_rfl) ?_); simp only [↓List.toList_toArray, ↓rgd, ↓rgf, ↓reduceIte, Nat.reduceEqDiff, rg, ow_90, e0]
    refine do_call fn_122 (by simp only [evt, evc, upd_eq, Nat.reduceEqDiff, ↓reduceIte, maT, maC, maN, isnN, isnS] <;> rfl) (newNode_any m false iso w6 c6.iso) ?_
    rintro _ w7 ⟨b2, rfl, x7, nn⟩
    refine ⟨trivial, ?_⟩
    simp only [↓List.toList_toArray, ↓rgd, ↓rgf, ↓reduceIte, Nat.reduceEqDiff, rg, ow_90, ptr_eq]
    have c7 := c6.ext x7 fun _ _ _ h => h
    refine do_store (by simp only [evt, evc, upd_eq, Nat.reduceEqDiff, ↓reduceIte, ntT, ntF] <;> rfl) (by simp only [evt, evc, upd_eq, Nat.reduceEqDiff, ↓reduceIte, ntT, ntF] <;> rfl) sz_96 rfl (c7.wok.mono (by decide)) (Nat.le_refl 3) (oc_one rfl rfl) fun w8 x8 r8 s8 => ⟨trivial, ?_⟩
    simp only [↓List.toList_toArray, ↓rgd, ↓rgf, ↓reduceIte, Nat.reduceEqDiff, rg, ow_90]
    refine hK _ _ ?_; clear hK K
    obtain ⟨bc2, nk, nk1, nk2, nk3, nk4⟩ := nn.kids rfl
    have s7 := x7.size
    have nnge := nn.ge
    have rt8 : rd w8 m 2 = some (ptr b2) := (Row.cons.1 r8).1
    have c8 := c7.ext x8 fun o h2 _ g => h2 (by simp only [rng] at g; omega)
    have kp8 := x8.rd nk (by simp only [rng]; omega)
    have q1 : IntKind.i64.wrap (((2 * d - 1 : Nat) : Int) + 1) = ((2 * d : Nat) : Int) := by rw [wadd1 _ (by omega)]; congr 1; omega
    have M2 : readsB (some (some [m, b2])) m = true := by simp [readsB]
    have M3 : readsB (some (some [m, b2])) b2 = true := by simp [readsB]
    have hb2l := wok_lt nn.wb
    refine W_sq fun K hK => (W_draw (some (some [m, b2])) (some 14) [(0, 0, 0), (0, 1, 0), (0, 2, 0), (0, 3, 0), (0, 4, 0), (0, 5, 0), (0, 6, 0), (0, 7, 0), (0, 8, 0), (0, 9, 0), (0, 10, 0), (0, 11, 0), (1, 12, 0), (0, 13, 0), (1, 14, 0)] mixed (by kernel_rfl) ?_); simp only [↓List.toList_toArray, ↓rgd, ↓rgf, ↓reduceIte, Nat.reduceEqDiff, rg, ow_90, e0, ptr_eq, rt8, kp8, c8.mx, q1, M2, M3]
    refine do_make (n := 0) (c := 2 * d) (by simp only [evt, evc, upd_eq, Nat.reduceEqDiff, ↓reduceIte, ntT, ntF] <;> rfl) (by simp only [evt, evc, upd_eq, Nat.reduceEqDiff, ↓reduceIte, ntT, ntF] <;> rfl) el_kid rfl (by omega) (by omega) (by omega) fun w9 l9 hl9 n9 => ⟨.inr (keeps_on n9.ext fun y hy => ⟨?_, fun _ h => h⟩), ?_⟩
    · rw [sz_dr]
      simp only [List.mem_cons, List.not_mem_nil, or_false] at hy
      omega
    simp only [↓List.toList_toArray, ↓rgd, ↓rgf, ↓reduceIte, Nat.reduceEqDiff, rg, ow_90]
    have n9 := n9.od
    refine do_store (by simp only [evt, evc, upd_eq, Nat.reduceEqDiff, ↓reduceIte, ntT, ntF] <;> rfl) (by simp only [evt, evc, upd_eq, Nat.reduceEqDiff, ↓reduceIte, ntT, ntF] <;> rfl) sz_166 rfl (n9.ext.wok (x8.wok nk4)) (by decide) (oc_one rfl rfl) fun w10 x10 r10 s10 => ⟨.inl trivial, ?_⟩
    simp only [↓List.toList_toArray, ↓rgd, ↓rgf, ↓reduceIte, Nat.reduceEqDiff, rg, ow_90]
    refine hK _ _ ?_; clear hK K
    have rt10 : rd w10 m 2 = some (ptr b2) := x10.rd (n9.ext.rd rt8 fun h => h) (by simp only [rng]; omega)
    have kp10 : rd w10 b2 3 = some (ptr bc2) := x10.rd (n9.ext.rd kp8 fun h => h) (by simp only [rng]; omega)
    have wbc10 : wok w10 bc2 1 := x10.wok (n9.ext.wok (x8.wok nk4))
    have s9 := n9.size
    have hbc2l := wok_lt wbc10
    refine W_sq fun K hK => (W_draw (some (some [m, b2])) (some 13) [(0, 0, 0), (0, 1, 0), (0, 2, 0), (0, 3, 0), (0, 4, 0), (0, 5, 0), (0, 6, 0), (0, 8, 0), (0, 9, 0), (2, 7, 10), (1, 11, 0), (0, 12, 0), (1, 13, 0)] mixed (by kernel_rfl) ?_); simp only [↓List.toList_toArray, ↓rgd, ↓rgf, ↓reduceIte, Nat.reduceEqDiff, rg, ow_90, e0, ptr_eq, rt10, kp10, M2, M3]
    have rest : ∀ e' w', e' 0 = ptr m → e' 2 = ptr hb → e' 4 = .pointer (some ⟨ub.heap.size, 0, none⟩) → e' 6 = .pointer (some ⟨q, 0, none⟩) → e' 11 = .pointer (some ⟨w4.heap.size, 0, none⟩) → Ext (rng bc2 0 1) w10 w' →
        (∃ ba2 cap2, rd w' bc2 0 = some (.slice (some ⟨ba2, 0, none⟩) 2 cap2) ∧ 2 ≤ cap2 ∧ Row w' ba2 0 [ptr b, ptr rb] ∧ wok w' ba2 cap2 ∧ w10.heap.size ≤ ba2) → K e' w' := by
      intro e' w14 f0 f2 f8 f6 f14 x14 ⟨ba2, cap2, q0, q2, q3, q4, q5⟩
      refine hK _ _ ?_; clear hK K
      have s10' := x10.size
      have s14 := x14.size
      have rt14 : rd w14 m 2 = some (ptr b2) := x14.rd rt10 (by simp only [rng]; omega)
      have rm14 : Row w14 w4.heap.size 0 (E.cel md) := x14.row (x10.row (n9.ext.row (x8.row (x7.row r6 fun _ _ h => h) fun j _ h => by simp only [rng] at h; omega) fun _ _ h => h) fun j _ h => by simp only [rng] at h; omega) fun j _ h => by simp only [rng] at h; omega
      have im14 := iX_at rm14
      have wb14 : wok w14 b2 4 := x14.wok (x10.wok (n9.ext.wok (x8.wok nn.wb)))
      have M4 : readsB (some (some [m, w4.heap.size])) m = true := by simp [readsB]
      have M5 : readsB (some (some [m, w4.heap.size])) w4.heap.size = true := by simp [readsB]
      have s8' := x8.size
      have s6' : w6.heap.size = w4.heap.size + 1 := by omega
      refine W_sq fun K hK => (W_draw (some (some [m, w4.heap.size])) (some 10) [(0, 0, 0), (0, 1, 0), (0, 2, 0), (0, 3, 0), (0, 5, 0), (2, 4, 6), (1, 7, 0), (0, 8, 0), (0, 9, 0), (1, 10, 0)] mixed (by kernel_rfl) ?_); simp only [↓List.toList_toArray, ↓rgd, ↓rgf, ↓reduceIte, Nat.reduceEqDiff, rg, ow_90, f0, f14, ptr_eq, rt14, im14, M4, M5]
      have rest2 : ∀ e'' w', e'' 0 = ptr m → e'' 2 = ptr hb → e'' 4 = .pointer (some ⟨ub.heap.size, 0, none⟩) → e'' 6 = .pointer (some ⟨q, 0, none⟩) → Ext (rng b2 2 1) w14 w' →
          (∃ bi2 cap3, rd w' b2 2 = some (.slice (some ⟨bi2, 0, none⟩) 1 cap3) ∧ 1 ≤ cap3 ∧ Row w' bi2 0 (E.cel md) ∧ wok w' bi2 (cap3 * 2) ∧ w14.heap.size ≤ bi2) → K e'' w' := by
        intro e'' w18 f0 f2 f8 f6 x18 ⟨bi2, cap3, p0, p2, p3, p4, p5⟩
        refine hK _ _ ?_; clear hK K
        have s18 := x18.size
        have hb4 : b < w4.heap.size := tL.lt _ _ (tL.self 0)
        have hrb4 : rb < w4.heap.size := tR.lt _ _ (tR.self 0)
        have hba18 := wok_lt (x18.wok q4)
        have hba14 := wok_lt q4
        have hbi18 := wok_lt p4
        have T18 : Ext (fun y o => (y = m ∧ o = 2) ∨ w4.heap.size ≤ y) w4 w18 := by
          refine ((((((X6.trans x7 (H := fun y o => (y = m ∧ o = 2) ∨ w4.heap.size ≤ y) (fun _ _ g => g.elim) fun _ _ _ g => g.elim).trans x8 (fun _ _ g => g) fun y o _ g => ?_).trans n9.ext (fun _ _ g => g) fun _ _ _ g => g.elim).trans x10 (fun _ _ g => g) fun y o _ g => ?_).trans x14 (fun _ _ g => g) fun y o _ g => ?_).trans x18 (fun _ _ g => g) fun y o _ g => ?_)
          all_goals simp only [rng] at g; omega
        have hFlm : ∀ y o, Fl y o → ¬ ((y = m ∧ o = 2) ∨ w4.heap.size ≤ y) := fun y o g k => by
          rcases k with ⟨rfl, _⟩ | k
          · exact hF'm _ (hFl _ _ g)
          · have := tL.lt _ _ g; omega
        have hFrm' : ∀ o, ¬ Fr m o := fun o g => by
          rcases hFr _ _ g with g | g
          · exact hF'm _ g
          · omega
        have hFrm : ∀ y o, Fr y o → ¬ ((y = m ∧ o = 2) ∨ w4.heap.size ≤ y) := fun y o g k => by
          rcases k with ⟨rfl, _⟩ | k
          · exact hFrm' _ g
          · have := tR.lt _ _ g; omega
        have tL18 := tL.ext T18 hFlm
        have tR18 := tR.ext T18 hFrm
        have kp18 : rd w18 b2 3 = some (ptr bc2) := x18.rd (x14.rd kp10 (by simp only [rng]; omega)) (by simp only [rng]; omega)
        have K18 : Kids w18 bc2 ba2 0 cap2 [b, rb] := ⟨x18.rd q0 (by simp only [rng]; omega), x18.wok (x14.wok wbc10), x18.row q3 fun j _ h => by simp only [rng] at h; omega, by rw [Nat.zero_add]; exact x18.wok q4, q2, by omega⟩
        have wb18 := x18.wok wb14
        have rt18 : rd w18 m 2 = some (ptr b2) := x18.rd rt14 (by simp only [rng]; omega)
        have hcn : cntP (cnW w18) [b, rb] = xl.length + xr.length := by simp [cntP, cnW_eq tL18.cnt, cnW_eq tR18.cnt]
        have hxl : xs.length = xl.length + 1 + xr.length := by rw [hxs]; simp; omega
        refine W_sq fun K hK => (W_text [true, true, true, true, false] (by kernel_rfl) ?_); simp only [↓List.toList_toArray, ↓rgd, ↓rgf, ↓reduceIte, Nat.reduceEqDiff, rg, ow_90, f0, ptr_eq, rt18]
        refine do_call fn_125 (by simp only [evt, evc, upd_eq, Nat.reduceEqDiff, ↓reduceIte, maT, maC, maN, isnN, isnS] <;> rfl) (count_kids b2 1 cap3 bc2 ba2 0 cap2 _ [b, rb] (cnW w18) w18 p0 kp18 wb18 K18 (by omega) (by omega) (fun p hp => by
          simp only [List.mem_cons, List.not_mem_nil, or_false] at hp
          rcases hp with rfl | rfl
          · exact ⟨by rw [cnW_eq tL18.cnt]; exact tL18.cnt, by omega⟩
          · exact ⟨by rw [cnW_eq tR18.cnt]; exact tR18.cnt, by omega⟩) (by omega) (by simp)) ?_
        rintro _ w19 ⟨x19, d1, s19⟩
        refine ⟨trivial, ?_⟩
        simp only [↓List.toList_toArray, ↓rgd, ↓rgf, ↓reduceIte, Nat.reduceEqDiff, rg, ow_90]
        refine hK _ _ ?_; clear hK K
        rw [hcn] at d1
        have T19 : Ext (fun y o => (y = m ∧ o = 2) ∨ w4.heap.size ≤ y) w4 w19 := T18.trans x19 (fun _ _ g => g) fun y o _ g => by simp only [rng] at g; omega
        have c19 := c4.ext T19 fun o h2 _ g => by
          rcases g with g | g
          · exact h2 g.2
          · have := wok_lt c4.wok; omega
        have ct19 : rd w19 m 3 = some (.int .i64 xs.length) := T19.rd (x4.rd ct3 (hF'm 3)) fun g => by omega
        have rx19 : Row w19 ub.heap.size 0 (E.cel x) := T19.row (x4.row (x3.row rx fun j _ g => by
          rcases g with g | g
          · have := hFlt _ _ g; omega
          · simp only [rng] at g; omega) fun j _ g => by
          rcases hF3 _ _ g with g | g
          · have := hFlt _ _ g; omega
          · omega) fun j _ g => by omega
        have ix19 := iX_at rx19
        have wq19 : wok w19 q 2 := T19.wok (x4.wok wq3')
        have hL19 := (hL3.ext x4 (fun y o g => by have := hab3 y o g; omega) (hF'm 6)).ext T19 (fun y o g => by omega) (by omega)
        have own19 : Own E w19 b2 iso xs.length bi2 0 cap3 [md] (ptr bc2) := by
          have h0 := x19.rd (x18.rd (x14.rd (x10.rd (n9.ext.rd (x8.rd nn.h0 (by simp only [rng]; omega)) fun h => h) (by simp only [rng]; omega)) (by simp only [rng]; omega)) (by simp only [rng]; omega)) (by simp only [rng]; omega)
          refine ⟨h0, ?_, x19.rd p0 (by simp only [rng]; omega), x19.rd kp18 (by simp only [rng]; omega), x19.wok wb18, ?_, by rw [Nat.zero_add]; exact x19.wok p4, p2, by omega⟩
          · rw [d1, hxl]; congr 3; omega
          · rw [flat_one]; exact x19.row p3 fun j _ h => by simp only [rng] at h; omega
        have K19 := K18.ext x19 fun y o g h => by simp only [kidF, rng] at g h; omega
        have tL19 := tL.ext T19 hFlm
        have tR19 := tR.ext T19 hFrm
        have tr19 : Tr E iso (d - 1) (2 * d - 1) (h + 1) w19 1 b2 xs (fun y o => ownF E b2 bi2 0 cap3 y o ∨ kidF bc2 ba2 0 cap2 y o ∨ ∃ c ∈ [Kid.mk b xl Fl, Kid.mk rb xr Fr], c.F y o) := by
          refine ⟨bi2, 0, cap3, bc2, ba2, 0, cap2, [md], [Kid.mk b xl Fl, Kid.mk rb xr Fr], own19, K19, Nat.le_refl _, (by show 1 ≤ 2 * d - 1; omega), rfl, hxs, ?_, ⟨nk2, by omega, by omega, by omega, ?_, ?_, ?_⟩, fun _ _ => Iff.rfl⟩
          · intro c hc
            simp only [List.mem_cons, List.not_mem_nil, or_false] at hc
            rcases hc with rfl | rfl
            · exact tL19
            · exact tR19
          · intro c hc y o g k
            have : y < w4.heap.size := by
              simp only [List.mem_cons, List.not_mem_nil, or_false] at hc
              rcases hc with rfl | rfl
              · exact tL.lt _ _ g
              · exact tR.lt _ _ g
            simp only [ownF, rng] at k; omega
          · intro c hc y o g k
            have : y < w4.heap.size := by
              simp only [List.mem_cons, List.not_mem_nil, or_false] at hc
              rcases hc with rfl | rfl
              · exact tL.lt _ _ g
              · exact tR.lt _ _ g
            simp only [kidF, rng] at k; omega
          · exact List.pairwise_cons.2 ⟨fun c hc y o g k => by
              simp only [List.mem_cons, List.not_mem_nil, or_false] at hc
              subst hc; exact hlr y o g k, List.pairwise_singleton _ _⟩
        have hF2 : ∀ y o, (ownF E b2 bi2 0 cap3 y o ∨ kidF bc2 ba2 0 cap2 y o ∨ ∃ c ∈ [Kid.mk b xl Fl, Kid.mk rb xr Fr], c.F y o) → y ≠ m ∧ (F y o ∨ u3.heap.size ≤ y) := by
          have hF'2 : ∀ y o, F' y o → y ≠ m ∧ (F y o ∨ u3.heap.size ≤ y) := fun y o g => ⟨fun k => hF'm o (k ▸ g), hF3 y o g⟩
          rintro y o (g | g | ⟨c, hc, g⟩)
          · simp only [ownF, rng] at g; omega
          · simp only [kidF, rng] at g; omega
          · simp only [List.mem_cons, List.not_mem_nil, or_false] at hc
            rcases hc with rfl | rfl
            · exact hF'2 y o (hFl y o g)
            · rcases hFr y o g with g | g
              · exact hF'2 y o g
              · exact ⟨by omega, .inr (by omega)⟩
        have XA : Ext (mapF m F) ub w19 := (X3.trans x4 (H := mapF m F) (fun _ _ g => .inl g) fun y o hy g => by
          rcases hF3 y o g with g | g
          · exact .inl g
          · omega).trans T19 (fun _ _ g => g) fun y o hy g => by
          rcases g with g | g
          · exact .inr ⟨g.1, .inl g.2⟩
          · omega
        have hHm : ∀ o, ¬ mapF m F hb o := fun o g => by
          rcases g with g | g
          · exact hHF o g
          · omega
        have hHF2 : ∀ o, ¬ (ownF E b2 bi2 0 cap3 hb o ∨ kidF bc2 ba2 0 cap2 hb o ∨ ∃ c ∈ [Kid.mk b xl Fl, Kid.mk rb xr Fr], c.F hb o) := fun o g => by
          rcases (hF2 hb o g).2 with g | g
          · exact hHF o g
          · omega
        refine W_sq fun K hK => (W_text [true, true, true, false, true, true, false, true] (by kernel_rfl) ?_); simp only [↓List.toList_toArray, ↓rgd, ↓rgf, ↓reduceIte, Nat.reduceEqDiff, rg, ow_90, f0, f2, f8, ix19]
        refine do_call fn_90 (by simp only [evt, evc, upd_eq, Nat.reduceEqDiff, ↓reduceIte, maT, maC, maN, isnN, isnS] <;> rfl) (ih (xs.length - (h + 1)) (by omega) (h + 1) b2 xs _ w19 rfl c19 hL19 (fun y o g => by
          rcases (hF2 _ _ g).2 with g | g
          · exact hBF _ _ g
          · omega) ct19 ha (x19.rd rt18 (by simp only [rng]; omega)) tr19 (fun o g => (hF2 _ _ g).1 rfl) hbig (hHu.ext XA hHm) hHF2 hmh) ?_
        rintro _ w20 ⟨v19, xv, sv, hHv, rfl, x20, F'', hM, hF''⟩
        refine ⟨trivial, ?_⟩
        have XAv : Ext (fun y o => mapF m F y o ∨ y = hb) ub v19 := (XA.mono fun _ _ _ g => .inl g).tr (xv.mono fun _ _ _ g => .inr g)
        obtain ⟨uc, xuc, suc, XB⟩ := ext_cutL XAv hHu.wok
        have hHc := HintAt.back hHv XB hHm (xuc.wok hHu.wok)
        have hR : ∀ v w', RootQ B m d iso ord x xs F uc v w' → R v w' := fun v w' g => hR0 v w' ⟨uc, xu.tr xuc, by omega, hHc, g⟩
        simp only [↓List.toList_toArray, ↓rgd, ↓rgf, ↓reduceIte, Nat.reduceEqDiff, rg, ow_90]
        refine do_store (by simp only [evt, upd_eq, Nat.reduceEqDiff, ↓reduceIte]; exact f6) (by simp only [evt, evc, upd_eq, Nat.reduceEqDiff, ↓reduceIte, ntT, ntF] <;> rfl) sz_33 (itV_len _) (x20.wok (xv.wok wq19)) (by decide) (itV_oc _) fun w21 x21 r21 s21 => ⟨trivial, ?_⟩
        simp only [↓List.toList_toArray, ↓rgd, ↓rgf, ↓reduceIte, Nat.reduceEqDiff, rg, ow_90]
        refine hK _ _ ?_; clear hK K
        have s20 := x20.size
        have hF9 : ∀ y o, F'' y o → F y o ∨ u3.heap.size ≤ y := fun y o g => by
          rcases hF'' y o g with g | g
          · exact (hF2 y o g).2
          · exact .inr (by omega)
        refine W_ret ?_
        simp only [andThen_ret]
        refine endQ_ct (by simp only [upd_eq, Nat.reduceEqDiff, ↓reduceIte]; exact f6) (by simp only [upd_eq, Nat.reduceEqDiff, ↓reduceIte] <;> rfl) ld_33 (iX_at (show Row w21 q 0 (E.cel ((at? O (rkI ord) (rkI ord x) xs).getD zIt)) from r21)) (hR _ _ ⟨rfl, ?_, F'', hM.extG x21 (fun y o g k => ?_) (fun y o g => by simp only [rng] at g; omega), fun y o g => ?_⟩)
        · refine (XB.trans x20 (fun _ _ g => g) fun y o hy g => ?_).trans x21 (fun _ _ g => g) fun y o hy g => by simp only [rng] at g; omega
          rcases g with g | g
          · rcases (hF2 y o g).2 with g | g
            · exact .inl g
            · omega
          · exact .inr g
        · simp only [rng] at k
          rcases hF9 y o g with g | g
          · have := hFlt _ _ g; omega
          · omega
        · exact (hF9 y o g).imp id fun g => by omega
      constructor
      · refine do_bsl rfl bs_it0 fun w15 n15 => ⟨.inr (keep2 n15.ext ⟨by rw [sz_dr]; omega, fun _ h => h⟩ ⟨by rw [sz_dr]; omega, fun _ h => h⟩), ?_⟩
        simp only [↓List.toList_toArray, ↓rgd, ↓rgf, ↓reduceIte, Nat.reduceEqDiff, rg, ow_90]
        have n15 := n15.od
        have s15 := n15.size
        refine do_bsl rfl (bs_it1 md) fun w16 n16 => ⟨.inr (keep2 n16.ext ⟨by omega, fun _ h => h⟩ ⟨by omega, fun _ h => h⟩), ?_⟩
        simp only [↓List.toList_toArray, ↓rgd, ↓rgf, ↓reduceIte, Nat.reduceEqDiff, rg, ow_90]
        have s16 := n16.size
        have hv : SlV w16 2 (.slice (some ⟨w14.heap.size, 0, none⟩) 0 0) 0 [] := ⟨rfl, .inr ⟨_, 0, 0, rfl, Nat.le_refl _, Row.nil _ _ _, (n16.ext.wok n15.wok).R (Nat.le_refl _)⟩⟩
        have hu : SlV w16 2 (.slice (some ⟨w15.heap.size, 0, none⟩) 1 1) 1 (E.cel md) := ⟨rfl, .inr ⟨_, 0, 1, rfl, Nat.le_refl _, n16.row, n16.wok.R (Nat.le_refl _)⟩⟩
        have X16 : Ext noF w14 w16 := n15.ext.tr n16.ext
        refine do_append (by simp only [evt, evc, upd_eq, Nat.reduceEqDiff, ↓reduceIte, ntT, ntF] <;> rfl) (by simp only [evt, evc, upd_eq, Nat.reduceEqDiff, ↓reduceIte, ntT, ntF] <;> rfl) el_it rfl ni_25 hv hu (by omega) (by decide) (E.one md) fun v17 w17 a17 => ?_
        obtain ⟨cap3, rfl, hcap3, row17, wok17, x17, s17⟩ := app_new a17 (by omega)
        refine ⟨.inr (keep2 x17 ⟨by omega, fun _ h => h⟩ ⟨by omega, fun _ h => h⟩), ?_⟩
        simp only [↓List.toList_toArray, ↓rgd, ↓rgf, ↓reduceIte, Nat.reduceEqDiff, rg, ow_90, ptr_eq]
        refine do_store (by simp only [evt, evc, upd_eq, Nat.reduceEqDiff, ↓reduceIte, ntT, ntF] <;> rfl) (by simp only [evt, evc, upd_eq, Nat.reduceEqDiff, ↓reduceIte, ntT, ntF] <;> rfl) sz_25 rfl (x17.wok (X16.wok wb14)) (by decide) (oc_one rfl rfl) fun w18 x18 r18 s18 => ⟨.inl trivial, ?_⟩
        simp only [↓List.toList_toArray, ↓rgd, ↓rgf, ↓reduceIte, Nat.reduceEqDiff, rg, ow_90]
        refine rest2 _ _ (by simp only [upd_eq, Nat.reduceEqDiff, ↓reduceIte]; exact f0) (by simp only [upd_eq, Nat.reduceEqDiff, ↓reduceIte]; exact f2) (by simp only [upd_eq, Nat.reduceEqDiff, ↓reduceIte]; exact f8) (by simp only [upd_eq, Nat.reduceEqDiff, ↓reduceIte]; exact f6) (((X16.tr x17).mono fun _ _ _ g => g.elim).tr x18) ⟨w16.heap.size, cap3, (Row.cons.1 r18).1, hcap3, x18.row row17 fun j _ h => by simp only [rng] at h; omega, x18.wok wok17, by omega⟩
      · refine do_bsl rfl (bs_it1 md) fun w15 n15 => ⟨.inr (keep2 n15.ext ⟨by rw [sz_dr]; omega, fun _ h => h⟩ ⟨by rw [sz_dr]; omega, fun _ h => h⟩), ?_⟩
        simp only [↓List.toList_toArray, ↓rgd, ↓rgf, ↓reduceIte, Nat.reduceEqDiff, rg, ow_90]
        have n15 := n15.od
        have s15 := n15.size
        refine do_bsl rfl bs_it0 fun w16 n16 => ⟨.inr (keep2 n16.ext ⟨by omega, fun _ h => h⟩ ⟨by omega, fun _ h => h⟩), ?_⟩
        simp only [↓List.toList_toArray, ↓rgd, ↓rgf, ↓reduceIte, Nat.reduceEqDiff, rg, ow_90]
        have s16 := n16.size
        have hv : SlV w16 2 (.slice (some ⟨w15.heap.size, 0, none⟩) 0 0) 0 [] := ⟨rfl, .inr ⟨_, 0, 0, rfl, Nat.le_refl _, Row.nil _ _ _, n16.wok.R (Nat.le_refl _)⟩⟩
        have hu : SlV w16 2 (.slice (some ⟨w14.heap.size, 0, none⟩) 1 1) 1 (E.cel md) := ⟨rfl, .inr ⟨_, 0, 1, rfl, Nat.le_refl _, n16.ext.row n15.row fun _ _ h => h, (n16.ext.wok n15.wok).R (Nat.le_refl _)⟩⟩
        have X16 : Ext noF w14 w16 := n15.ext.tr n16.ext
        refine do_append (by simp only [evt, evc, upd_eq, Nat.reduceEqDiff, ↓reduceIte, ntT, ntF] <;> rfl) (by simp only [evt, evc, upd_eq, Nat.reduceEqDiff, ↓reduceIte, ntT, ntF] <;> rfl) el_it rfl ni_25 hv hu (by omega) (by decide) (E.one md) fun v17 w17 a17 => ?_
        obtain ⟨cap3, rfl, hcap3, row17, wok17, x17, s17⟩ := app_new a17 (by omega)
        refine ⟨.inr (keep2 x17 ⟨by omega, fun _ h => h⟩ ⟨by omega, fun _ h => h⟩), ?_⟩
        simp only [↓List.toList_toArray, ↓rgd, ↓rgf, ↓reduceIte, Nat.reduceEqDiff, rg, ow_90, ptr_eq]
        refine do_store (by simp only [evt, evc, upd_eq, Nat.reduceEqDiff, ↓reduceIte, ntT, ntF] <;> rfl) (by simp only [evt, evc, upd_eq, Nat.reduceEqDiff, ↓reduceIte, ntT, ntF] <;> rfl) sz_25 rfl (x17.wok (X16.wok wb14)) (by decide) (oc_one rfl rfl) fun w18 x18 r18 s18 => ⟨.inl trivial, ?_⟩
        simp only [↓List.toList_toArray, ↓rgd, ↓rgf, ↓reduceIte, Nat.reduceEqDiff, rg, ow_90]
        refine rest2 _ _ (by simp only [upd_eq, Nat.reduceEqDiff, ↓reduceIte]; exact f0) (by simp only [upd_eq, Nat.reduceEqDiff, ↓reduceIte]; exact f2) (by simp only [upd_eq, Nat.reduceEqDiff, ↓reduceIte]; exact f8) (by simp only [upd_eq, Nat.reduceEqDiff, ↓reduceIte]; exact f6) (((X16.tr x17).mono fun _ _ _ g => g.elim).tr x18) ⟨w16.heap.size, cap3, (Row.cons.1 r18).1, hcap3, x18.row row17 fun j _ h => by simp only [rng] at h; omega, x18.wok wok17, by omega⟩
    constructor
    · refine do_bsl rfl bs_kid0 fun w11 n11 => ⟨.inr (keep2 n11.ext ⟨by rw [sz_dr]; omega, fun _ h => h⟩ ⟨by rw [sz_dr]; omega, fun _ h => h⟩), ?_⟩
      simp only [↓List.toList_toArray, ↓rgd, ↓rgf, ↓reduceIte, Nat.reduceEqDiff, rg, ow_90]
      have n11 := n11.od
      have s11 := n11.size
      refine do_bsl rfl (bs_kid2 b rb) fun w12 n12 => ⟨.inr (keep2 n12.ext ⟨by omega, fun _ h => h⟩ ⟨by omega, fun _ h => h⟩), ?_⟩
      simp only [↓List.toList_toArray, ↓rgd, ↓rgf, ↓reduceIte, Nat.reduceEqDiff, rg, ow_90]
      have s12 := n12.size
      have hv : SlV w12 1 (.slice (some ⟨w10.heap.size, 0, none⟩) 0 0) 0 [] := ⟨rfl, .inr ⟨_, 0, 0, rfl, Nat.le_refl _, Row.nil _ _ _, (n12.ext.wok n11.wok).R (Nat.le_refl _)⟩⟩
      have hu : SlV w12 1 (.slice (some ⟨w11.heap.size, 0, none⟩) 2 2) 2 [ptr b, ptr rb] := ⟨rfl, .inr ⟨_, 0, 2, rfl, Nat.le_refl _, n12.row, n12.wok.R (Nat.le_refl _)⟩⟩
      have X12 : Ext noF w10 w12 := n11.ext.tr n12.ext
      refine do_append (by simp only [evt, evc, upd_eq, Nat.reduceEqDiff, ↓reduceIte, ntT, ntF] <;> rfl) (by simp only [evt, evc, upd_eq, Nat.reduceEqDiff, ↓reduceIte, ntT, ntF] <;> rfl) el_kid rfl ni_166 hv hu (by omega) (by decide) (by intro v hv; simp at hv; rcases hv with rfl | rfl <;> rfl) fun v13 w13 a13 => ?_
      obtain ⟨cap2, rfl, hcap2, row13, wok13, x13, s13⟩ := app_new a13 (by omega)
      refine ⟨.inr (keep2 x13 ⟨by omega, fun _ h => h⟩ ⟨by omega, fun _ h => h⟩), ?_⟩
      simp only [↓List.toList_toArray, ↓rgd, ↓rgf, ↓reduceIte, Nat.reduceEqDiff, rg, ow_90]
      refine do_store (by simp only [evt, evc, upd_eq, Nat.reduceEqDiff, ↓reduceIte, ntT, ntF] <;> rfl) (by simp only [evt, evc, upd_eq, Nat.reduceEqDiff, ↓reduceIte, ntT, ntF] <;> rfl) sz_166 rfl (x13.wok (X12.wok wbc10)) (by decide) (oc_one rfl rfl) fun w14 x14 r14 s14 => ⟨.inl trivial, ?_⟩
      simp only [↓List.toList_toArray, ↓rgd, ↓rgf, ↓reduceIte, Nat.reduceEqDiff, rg, ow_90]
      refine rest _ _ (by simp only [upd_eq, Nat.reduceEqDiff, ↓reduceIte]; exact e0) (by simp only [upd_eq, Nat.reduceEqDiff, ↓reduceIte]; exact e2) (by simp only [upd_eq, Nat.reduceEqDiff, ↓reduceIte] <;> rfl) (by simp only [upd_eq, Nat.reduceEqDiff, ↓reduceIte] <;> rfl) (by simp only [upd_eq, Nat.reduceEqDiff, ↓reduceIte] <;> rfl) (((X12.tr x13).mono fun _ _ _ g => g.elim).tr x14) ⟨w12.heap.size, cap2, (Row.cons.1 r14).1, hcap2, x14.row row13 fun j _ h => by simp only [rng] at h; omega, by have := x14.wok wok13; rwa [Nat.mul_one] at this, by omega⟩
    · refine do_bsl rfl (bs_kid2 b rb) fun w11 n11 => ⟨.inr (keep2 n11.ext ⟨by rw [sz_dr]; omega, fun _ h => h⟩ ⟨by rw [sz_dr]; omega, fun _ h => h⟩), ?_⟩
      simp only [↓List.toList_toArray, ↓rgd, ↓rgf, ↓reduceIte, Nat.reduceEqDiff, rg, ow_90]
      have n11 := n11.od
      have s11 := n11.size
      refine do_bsl rfl bs_kid0 fun w12 n12 => ⟨.inr (keep2 n12.ext ⟨by omega, fun _ h => h⟩ ⟨by omega, fun _ h => h⟩), ?_⟩
      simp only [↓List.toList_toArray, ↓rgd, ↓rgf, ↓reduceIte, Nat.reduceEqDiff, rg, ow_90]
      have s12 := n12.size
      have hv : SlV w12 1 (.slice (some ⟨w11.heap.size, 0, none⟩) 0 0) 0 [] := ⟨rfl, .inr ⟨_, 0, 0, rfl, Nat.le_refl _, Row.nil _ _ _, n12.wok.R (Nat.le_refl _)⟩⟩
      have hu : SlV w12 1 (.slice (some ⟨w10.heap.size, 0, none⟩) 2 2) 2 [ptr b, ptr rb] := ⟨rfl, .inr ⟨_, 0, 2, rfl, Nat.le_refl _, n12.ext.row n11.row fun _ _ h => h, (n12.ext.wok n11.wok).R (Nat.le_refl _)⟩⟩
      have X12 : Ext noF w10 w12 := n11.ext.tr n12.ext
      refine do_append (by simp only [evt, evc, upd_eq, Nat.reduceEqDiff, ↓reduceIte, ntT, ntF] <;> rfl) (by simp only [evt, evc, upd_eq, Nat.reduceEqDiff, ↓reduceIte, ntT, ntF] <;> rfl) el_kid rfl ni_166 hv hu (by omega) (by decide) (by intro v hv; simp at hv; rcases hv with rfl | rfl <;> rfl) fun v13 w13 a13 => ?_
      obtain ⟨cap2, rfl, hcap2, row13, wok13, x13, s13⟩ := app_new a13 (by omega)
      refine ⟨.inr (keep2 x13 ⟨by omega, fun _ h => h⟩ ⟨by omega, fun _ h => h⟩), ?_⟩
      simp only [↓List.toList_toArray, ↓rgd, ↓rgf, ↓reduceIte, Nat.reduceEqDiff, rg, ow_90]
      refine do_store (by simp only [evt, evc, upd_eq, Nat.reduceEqDiff, ↓reduceIte, ntT, ntF] <;> rfl) (by simp only [evt, evc, upd_eq, Nat.reduceEqDiff, ↓reduceIte, ntT, ntF] <;> rfl) sz_166 rfl (x13.wok (X12.wok wbc10)) (by decide) (oc_one rfl rfl) fun w14 x14 r14 s14 => ⟨.inl trivial, ?_⟩
      simp only [↓List.toList_toArray, ↓rgd, ↓rgf, ↓reduceIte, Nat.reduceEqDiff, rg, ow_90]
      refine rest _ _ (by simp only [upd_eq, Nat.reduceEqDiff, ↓reduceIte]; exact e0) (by simp only [upd_eq, Nat.reduceEqDiff, ↓reduceIte]; exact e2) (by simp only [upd_eq, Nat.reduceEqDiff, ↓reduceIte] <;> rfl) (by simp only [upd_eq, Nat.reduceEqDiff, ↓reduceIte] <;> rfl) (by simp only [upd_eq, Nat.reduceEqDiff, ↓reduceIte] <;> rfl) (((X12.tr x13).mono fun _ _ _ g => g.elim).tr x14) ⟨w12.heap.size, cap2, (Row.cons.1 r14).1, hcap2, x14.row row13 fun j _ h => by simp only [rng] at h; omega, by have := x14.wok wok13; rwa [Nat.mul_one] at this, by omega⟩
  · simp only [↓List.toList_toArray, ↓rgd, ↓rgf, ↓reduceIte, Nat.reduceEqDiff, rg, ow_90]
    refine do_store (by simp only [evt, evc, upd_eq, Nat.reduceEqDiff, ↓reduceIte, ntT, ntF] <;> rfl) (by simp only [evt, evc, upd_eq, Nat.reduceEqDiff, ↓reduceIte, ntT, ntF] <;> rfl) sz_33 (itV_len _) wq3 (by decide) (itV_oc _) fun w3 x3s r3s s3s => ⟨.inr (hkeep x3s), ?_⟩
    simp only [↓List.toList_toArray, ↓rgd, ↓rgf, ↓reduceIte, Nat.reduceEqDiff, rg, ow_90]
    refine hK _ _ ?_; clear hK K
    have x3 : Ext (fun y o => F y o ∨ rng q 0 2 y o) u3 w3 := x3p.trans x3s (fun _ _ g => .inl g) fun _ _ _ g => .inr g
    have X3 : Ext F ub w3 := X2.trans x3 (fun _ _ g => g.elim) fun y o hy g => g.elim id fun g => by simp only [rng] at g; omega
    have s3 := x3.size
    have hmG : ∀ o, ¬ (F m o ∨ rng q 0 2 m o) := fun o g => g.elim (hm o) fun g => by simp only [rng] at g; omega
    have c3 := c2.ext x3 fun o _ _ => hmG o
    have rt3 := x3.rd rt2 (hmG 2)
    have ct3 := X3.rd hcnt (hm 3)
    have hL3 := hL.ext X3 (fun y o g => by have := hBF y o g; omega) (hm 6)
    have wq3' := x3s.wok wq3
    have hT' := hT'.ext x3s fun y o g k => by simp only [rng] at k; exact hF'q o (by rw [← k.1]; exact g)
    have hab3 : ∀ y o, F' y o → m < y := fun y o g => by
      rcases hF3 y o g with g | g
      · exact hBF _ _ g
      · omega
    refine W_seq ?_
    refine W_sq fun K hK => (W_text [true] (by kernel_rfl) ?_); simp only [↓List.toList_toArray, ↓rgd, ↓rgf, ↓reduceIte, Nat.reduceEqDiff, rg, ow_90]
    refine hK _ _ ?_; clear hK K
    refine W_false (by simp only [evt, evc, upd_eq, Nat.reduceEqDiff, ↓reduceIte, ntT, ntF] <;> rfl) (W_skip ?_)
    show W _ _ _ _ _ _
    refine W_seq ?_
    have hpl := put_length O (rkI ord) x xs
    have hpa := put_asc O (rkI ord) (x := x) ha
    cases hh2 : hit O (rkI ord) (rkI ord x) xs with
    | true =>
      rw [hh2] at hpl
      refine W_sq fun K hK => (W_text [true] (by kernel_rfl) ?_); simp only [↓List.toList_toArray, ↓rgd, ↓rgf, ↓reduceIte, Nat.reduceEqDiff, rg, ow_90]
      refine hK _ _ ?_; clear hK K
      refine W_true (by simp only [evt, evc, upd_eq, Nat.reduceEqDiff, ↓reduceIte, ntT, ntF] <;> rfl) ?_
      have pv3 := iX_at (show Row w3 q 0 (E.cel ((at? O (rkI ord) (rkI ord x) xs).getD zIt)) from r3s)
      refine W_sq fun K hK => (W_text [true, false, true] (by kernel_rfl) ?_); simp only [↓List.toList_toArray, ↓rgd, ↓rgf, ↓reduceIte, Nat.reduceEqDiff, rg, ow_90, pv3]
      refine do_store (by simp only [evt, evc, upd_eq, Nat.reduceEqDiff, ↓reduceIte, ntT, ntF] <;> rfl) (by simp only [evt, evc, upd_eq, Nat.reduceEqDiff, ↓reduceIte, ntT, ntF] <;> rfl) sz_33 (itV_len _) wq3' (by decide) (itV_oc _) fun w4 x4 r4 s4 => ⟨trivial, ?_⟩
      simp only [↓List.toList_toArray, ↓rgd, ↓rgf, ↓reduceIte, Nat.reduceEqDiff, rg, ow_90]
      refine hK _ _ ?_; clear hK K
      refine W_ret ?_
      simp only [andThen_ret]
      have TA : TreeAt B ord w3 m d iso (put O (rkI ord) x xs) F' := ⟨c3, hL3, by rw [hpl]; exact ct3, hpa, .inr ⟨h, b, rt3, hT'⟩, hF'm, hT'.lt, hab3⟩
      exact endQ_ct (by simp only [upd_eq, Nat.reduceEqDiff, ↓reduceIte] <;> rfl) (by simp only [upd_eq, Nat.reduceEqDiff, ↓reduceIte] <;> rfl) ld_33 (iX_at (show Row w4 q 0 (E.cel ((at? O (rkI ord) (rkI ord x) xs).getD zIt)) from r4)) (hR _ _ ⟨by rw [hh2], X3.trans x4 (fun _ _ g => .inl g) fun y o hy g => by simp only [rng] at g; omega, F',
        TA.extG x4 (fun y o g k => by simp only [rng] at k; exact hF'q o (by rw [← k.1]; exact g)) (fun y o g => by simp only [rng] at g; omega), fun y o g => (hF3 y o g).imp id fun g => by omega⟩)
    | false =>
      rw [hh2] at hpl
      have q1 := wadd1 xs.length (by omega)
      refine W_sq fun K hK => (W_text [true] (by kernel_rfl) ?_); simp only [↓List.toList_toArray, ↓rgd, ↓rgf, ↓reduceIte, Nat.reduceEqDiff, rg, ow_90]
      refine hK _ _ ?_; clear hK K
      refine W_false (by simp only [evt, evc, upd_eq, Nat.reduceEqDiff, ↓reduceIte, ntT, ntF] <;> rfl) (W_skip ?_)
      show W _ _ _ _ _ _
      refine W_sq fun K hK => (W_text [true, true, true, true, true, true, true, false] (by kernel_rfl) ?_); simp only [↓List.toList_toArray, ↓rgd, ↓rgf, ↓reduceIte, Nat.reduceEqDiff, rg, ow_90, e0, ptr_eq, ct3, q1]
      refine do_store (by simp only [evt, evc, upd_eq, Nat.reduceEqDiff, ↓reduceIte, ntT, ntF] <;> rfl) (by simp only [evt, evc, upd_eq, Nat.reduceEqDiff, ↓reduceIte, ntT, ntF] <;> rfl) sz_3 rfl c3.wok (by decide) (oc_one rfl rfl) fun w4 x4 r4 s4 => ⟨trivial, ?_⟩
      simp only [↓List.toList_toArray, ↓rgd, ↓rgf, ↓reduceIte, Nat.reduceEqDiff, rg, ow_90]
      refine hK _ _ ?_; clear hK K
      have c4 := c3.ext x4 fun o _ h3 g => h3 (by simp only [rng] at g; omega)
      have z4 := zIt_at c4
      refine W_sq fun K hK => (W_text [true, true, true, true, false, true] (by kernel_rfl) ?_); simp only [↓List.toList_toArray, ↓rgd, ↓rgf, ↓reduceIte, Nat.reduceEqDiff, rg, ow_90, e0, ptr_eq, z4]
      refine do_store (by simp only [evt, evc, upd_eq, Nat.reduceEqDiff, ↓reduceIte, ntT, ntF] <;> rfl) (by simp only [evt, evc, upd_eq, Nat.reduceEqDiff, ↓reduceIte, ntT, ntF] <;> rfl) sz_33 (itV_len zIt) (x4.wok wq3') (by decide) (itV_oc zIt) fun w5 x5 r5 s5 => ⟨trivial, ?_⟩
      simp only [↓List.toList_toArray, ↓rgd, ↓rgf, ↓reduceIte, Nat.reduceEqDiff, rg, ow_90]
      refine hK _ _ ?_; clear hK K
      have hat : at? O (rkI ord) (rkI ord x) xs = none := by unfold at?; rw [hh2]; rfl
      have TA : TreeAt B ord w4 m d iso (put O (rkI ord) x xs) F' := by
        refine ⟨c4, hL3.ext x4 (fun y o g => by simp only [rng] at g; omega) (by simp only [rng]; omega), ?_, hpa, .inr ⟨h, b, x4.rd rt3 (by simp only [rng]; omega), ?_⟩, hF'm, fun y o g => ?_, hab3⟩
        · rw [hpl]; exact (Row.cons.1 r4).1
        · exact hT'.ext x4 fun y o g k => hF'm o (by simp only [rng] at k; rw [← k.1]; exact g)
        · have := hT'.lt y o g; omega
      refine W_ret (endQ_ct (by simp only [upd_eq, Nat.reduceEqDiff, ↓reduceIte] <;> rfl) (by simp only [upd_eq, Nat.reduceEqDiff, ↓reduceIte] <;> rfl) ld_33 (iX_at (show Row w5 q 0 (E.cel zIt) from r5)) (hR _ _ ⟨by rw [hat, hh2]; rfl, (X3.trans x4 (fun _ _ g => .inl g) fun y o _ g => .inr ⟨g.1, by simp only [rng] at g; omega⟩).trans x5 (fun _ _ g => g) fun y o hy g => by simp only [rng] at g; omega, F',
        TA.extG x5 (fun y o g k => by simp only [rng] at k; exact hF'q o (by rw [← k.1]; exact g)) (fun y o g => by simp only [rng] at g; omega), fun y o g => (hF3 y o g).imp id fun g => by omega⟩))
set_option maxHeartbeats 1000000 in
set_option maxRecDepth 8000 in
/-- Setting in an empty map. -/
theorem set_nilH (hb B m d : Nat) (iso : Int) (ord : List Int) (x : It) (hd : 2 ≤ d) (hd' : d ≤ 128) (w : World) (hc : Cfg w m iso d) (hL : Ls B m w ord) (hroot : rd w m 2 = some (.pointer none)) :
    CallK Try.prog 90 #[ptr m, itV x, ptr hb] w fun v w' => v = .tuple #[itV zIt, .bool false] ∧ Ext (mapF m noF) w w' ∧ ∃ F', TreeAt B ord w' m d iso [x] F' ∧ ∀ y o, F' y o → w.heap.size ≤ y := by
  have hml := rd_lt hroot
  have hBm : B ≤ m := by obtain ⟨_, _, _, h⟩ := hL; exact h
  refine calls_of_W [.cell 6 33, .tmp 7] Try.func90 rfl Try.ntmps90 Try.results90 (by simp) fun e he => ?_
  have e0 : e 0 = ptr m := he 0 _ rfl
  have e1 : e 1 = itV x := he 1 _ rfl
  have e2 : e 2 = ptr hb := he 2 _ rfl
  clear he
  refine W_sq fun K hK => (W_text [false, false, true] (by kernel_rfl) ?_); simp only [↓List.toList_toArray, ↓rgd, ↓rgf, ↓reduceIte, Nat.reduceEqDiff, rg, ow_90]
  refine do_box (by simp only [evt]; exact e1) fun w1 n1 => ⟨trivial, ?_⟩
  simp only [↓List.toList_toArray, ↓rgd, ↓rgf, ↓reduceIte, Nat.reduceEqDiff, rg, ow_90]
  refine do_alloc z_it fun w2 n2 => ⟨trivial, ?_⟩
  simp only [↓List.toList_toArray, ↓rgd, ↓rgf, ↓reduceIte, Nat.reduceEqDiff, rg, ow_90]
  refine hK _ _ ?_; clear hK K
  have s1 := n1.size
  have X2 : Ext noF w w2 := n1.ext.tr n2.ext
  have rx : Row w2 w.heap.size 0 (E.cel x) := n2.ext.row n1.row fun _ _ h => h
  have s2 : w2.heap.size = w.heap.size + 2 := by have := n2.size; omega
  obtain ⟨q, hq⟩ : ∃ q, q = w1.heap.size := ⟨_, rfl⟩
  have hqs : q = w.heap.size + 1 := by omega
  have wq2 : wok w2 q 2 := by rw [hq]; exact n2.wok
  rw [← hq]
  clear hq n1 n2
  have c2 := hc.ext X2 fun _ _ _ h => h
  have rt2 := X2.rd hroot (fun h => h)
  refine W_seq ?_
  refine W_sq fun K hK => (W_text [true, true, true, true, true] (by kernel_rfl) ?_); simp only [↓List.toList_toArray, ↓rgd, ↓rgf, ↓reduceIte, Nat.reduceEqDiff, rg, ow_90, e0, ptr_eq, rt2]
  refine hK _ _ ?_; clear hK K
  refine W_true (by simp only [evt, evc, upd_eq, Nat.reduceEqDiff, ↓reduceIte, ntT, ntF] <;> rfl) ?_
  refine W_sq fun K hK => (W_text [true, false] (by kernel_rfl) ?_); simp only [↓List.toList_toArray, ↓rgd, ↓rgf, ↓reduceIte, Nat.reduceEqDiff, rg, ow_90, e0]
  refine do_call fn_114 (by simp only [evt, evc, upd_eq, Nat.reduceEqDiff, ↓reduceIte, maT, maC, maN, isnN, isnS] <;> rfl) (init_again m d iso hd (.int .i64 0) w2 c2) ?_
  rintro _ _ rfl
  refine ⟨trivial, ?_⟩
  simp only [↓List.toList_toArray, ↓rgd, ↓rgf, ↓reduceIte, Nat.reduceEqDiff, rg, ow_90]
  refine hK _ _ ?_; clear hK K
  refine W_sq fun K hK => (W_text [true, true, false, true, true, false] (by kernel_rfl) ?_); simp only [↓List.toList_toArray, ↓rgd, ↓rgf, ↓reduceIte, Nat.reduceEqDiff, rg, ow_90, e0]
  refine do_call fn_122 (by simp only [evt, evc, upd_eq, Nat.reduceEqDiff, ↓reduceIte, maT, maC, maN, isnN, isnS] <;> rfl) (newNode_any m true iso w2 c2.iso) ?_
  rintro _ w3 ⟨b, rfl, x3, nn⟩
  refine ⟨trivial, ?_⟩
  simp only [↓List.toList_toArray, ↓rgd, ↓rgf, ↓reduceIte, Nat.reduceEqDiff, rg, ow_90, ptr_eq]
  have c3 := c2.ext x3 fun _ _ _ h => h
  refine do_store (by simp only [evt, evc, upd_eq, Nat.reduceEqDiff, ↓reduceIte, ntT, ntF] <;> rfl) (by simp only [evt, evc, upd_eq, Nat.reduceEqDiff, ↓reduceIte, ntT, ntF] <;> rfl) sz_96 rfl (c3.wok.mono (by decide)) (Nat.le_refl 3) (oc_one rfl rfl) fun w4 x4 r4 s4 => ⟨trivial, ?_⟩
  simp only [↓List.toList_toArray, ↓rgd, ↓rgf, ↓reduceIte, Nat.reduceEqDiff, rg, ow_90]
  refine hK _ _ ?_; clear hK K
  have nnge := nn.ge
  have s3 := x3.size
  have hbl := wok_lt nn.wb
  have rt4 : rd w4 m 2 = some (ptr b) := (Row.cons.1 r4).1
  have c4 := c3.ext x4 fun o h2 _ g => h2 (by simp only [rng] at g; omega)
  have rx4 : Row w4 w.heap.size 0 (E.cel x) := x4.row (x3.row rx fun _ _ h => h) fun j _ h => by simp only [rng] at h; omega
  have ix4 := iX_at rx4
  have wb4 := x4.wok nn.wb
  have M4 : readsB (some (some [m, w.heap.size])) m = true := by simp [readsB]
  have M5 : readsB (some (some [m, w.heap.size])) w.heap.size = true := by simp [readsB]
  refine W_sq fun K hK => (W_draw (some (some [m, w.heap.size])) (some 10) [(0, 0, 0), (0, 1, 0), (0, 2, 0), (0, 3, 0), (0, 5, 0), (2, 4, 6), (1, 7, 0), (0, 8, 0), (0, 9, 0), (1, 10, 0)] mixed (by kernel_rfl) ?_); simp only [↓List.toList_toArray, ↓rgd, ↓rgf, ↓reduceIte, Nat.reduceEqDiff, rg, ow_90, e0, ptr_eq, rt4, ix4, M4, M5]
  have rest2 : ∀ e'' w', e'' 0 = ptr m → e'' 6 = .pointer (some ⟨q, 0, none⟩) → Ext (rng b 2 1) w4 w' →
      (∃ bi2 cap3, rd w' b 2 = some (.slice (some ⟨bi2, 0, none⟩) 1 cap3) ∧ 1 ≤ cap3 ∧ Row w' bi2 0 (E.cel x) ∧ wok w' bi2 (cap3 * 2) ∧ w4.heap.size ≤ bi2) → K e'' w' := by
    intro e'' w18 f0 f6 x18 ⟨bi2, cap3, p0, p2, p3, p4, p5⟩
    refine hK _ _ ?_; clear hK K
    have s18 := x18.size
    have hbi18 := wok_lt p4
    have rt18 : rd w18 m 2 = some (ptr b) := x18.rd rt4 (by simp only [rng]; omega)
    have c18 := c4.ext x18 fun o _ _ g => by simp only [rng] at g; omega
    refine W_sq fun K hK => (W_text [true, true, true, true, true, true, false] (by kernel_rfl) ?_); simp only [↓List.toList_toArray, ↓rgd, ↓rgf, ↓reduceIte, Nat.reduceEqDiff, rg, ow_90, f0, ptr_eq, rt18]
    refine do_store (by simp only [evt, evc, upd_eq, Nat.reduceEqDiff, ↓reduceIte, ntT, ntF] <;> rfl) (by simp only [evt, evc, upd_eq, Nat.reduceEqDiff, ↓reduceIte, ntT, ntF] <;> rfl) sz_3 rfl (x18.wok wb4) (by decide) (oc_one rfl rfl) fun w19 x19 r19 s19 => ⟨trivial, ?_⟩
    simp only [↓List.toList_toArray, ↓rgd, ↓rgf, ↓reduceIte, Nat.reduceEqDiff, rg, ow_90]
    refine hK _ _ ?_; clear hK K
    have c19 := c18.ext x19 fun o _ _ g => by simp only [rng] at g; omega
    refine W_sq fun K hK => (W_text [true, true, true, false] (by kernel_rfl) ?_); simp only [↓List.toList_toArray, ↓rgd, ↓rgf, ↓reduceIte, Nat.reduceEqDiff, rg, ow_90, f0, ptr_eq]
    refine do_store (by simp only [evt, evc, upd_eq, Nat.reduceEqDiff, ↓reduceIte, ntT, ntF] <;> rfl) (by simp only [evt, evc, upd_eq, Nat.reduceEqDiff, ↓reduceIte, ntT, ntF] <;> rfl) sz_3 rfl (c19.wok.mono (by decide)) (Nat.le_refl 4) (oc_one rfl rfl) fun w20 x20 r20 s20 => ⟨trivial, ?_⟩
    simp only [↓List.toList_toArray, ↓rgd, ↓rgf, ↓reduceIte, Nat.reduceEqDiff, rg, ow_90]
    refine hK _ _ ?_; clear hK K
    have c20 := c19.ext x20 fun o _ h3 g => h3 (by simp only [rng] at g; omega)
    have z20 := zIt_at c20
    have hL20 : Ls B m w20 ord := ((((((hL.ext0 X2).ext0 x3).ext x4 (fun y o g => by simp only [rng] at g; omega) (by simp only [rng]; omega)).ext x18 (fun y o g => by simp only [rng] at g; omega) (by simp only [rng]; omega)).ext x19 (fun y o g => by simp only [rng] at g; omega) (by simp only [rng]; omega)).ext x20 (fun y o g => by simp only [rng] at g; omega) (by simp only [rng]; omega))
    have wq20 : wok w20 q 2 := x20.wok (x19.wok (x18.wok (x4.wok (x3.wok wq2))))
    refine W_sq fun K hK => (W_text [true, true, true, true, false, true] (by kernel_rfl) ?_); simp only [↓List.toList_toArray, ↓rgd, ↓rgf, ↓reduceIte, Nat.reduceEqDiff, rg, ow_90, f0, ptr_eq, z20]
    refine do_store (by simp only [evt, upd_eq, Nat.reduceEqDiff, ↓reduceIte]; exact f6) (by simp only [evt, evc, upd_eq, Nat.reduceEqDiff, ↓reduceIte, ntT, ntF] <;> rfl) sz_33 (itV_len zIt) wq20 (by decide) (itV_oc zIt) fun w21 x21 r21 s21 => ⟨trivial, ?_⟩
    simp only [↓List.toList_toArray, ↓rgd, ↓rgf, ↓reduceIte, Nat.reduceEqDiff, rg, ow_90]
    refine hK _ _ ?_; clear hK K
    have X20 : Ext (mapF m noF) w w20 := by
      refine (((((X2.tr x3).trans x4 (H := mapF m noF) (fun _ _ g => g.elim) fun y o _ g => ?_).trans x18 (fun _ _ g => g) fun y o _ g => ?_).trans x19 (fun _ _ g => g) fun y o _ g => ?_).trans x20 (fun _ _ g => g) fun y o _ g => ?_)
      · simp only [rng] at g; exact .inr ⟨g.1, by omega⟩
      · simp only [rng] at g; omega
      · simp only [rng] at g; omega
      · simp only [rng] at g; exact .inr ⟨g.1, by omega⟩
    have tr : Tr E iso (d - 1) (2 * d - 1) 0 w20 1 b [x] (ownF E b bi2 0 cap3) := by
      refine ⟨bi2, 0, cap3, ⟨x20.rd (x19.rd (x18.rd (x4.rd nn.h0 (by simp only [rng]; omega)) (by simp only [rng]; omega)) (by simp only [rng]; omega)) (by simp only [rng]; omega), ?_, x20.rd (x19.rd p0 (by simp only [rng]; omega)) (by simp only [rng]; omega),
        x20.rd (x19.rd (x18.rd (x4.rd (nn.leaf rfl) (by simp only [rng]; omega)) (by simp only [rng]; omega)) (by simp only [rng]; omega)) (by simp only [rng]; omega), x20.wok (x19.wok (x18.wok wb4)), ?_, by rw [Nat.zero_add]; exact x20.wok (x19.wok p4), p2, by omega⟩,
        Nat.le_refl _, (by show 1 ≤ 2 * d - 1; omega), fun _ _ => Iff.rfl⟩
      · exact x20.rd (Row.cons.1 r19).1 (by simp only [rng]; omega)
      · rw [flat_one]; exact x20.row (x19.row p3 fun j _ h => by simp only [rng] at h; omega) fun j _ h => by simp only [rng] at h; omega
    have hown : ∀ y o, ownF E b bi2 0 cap3 y o → w2.heap.size ≤ y := fun y o g => by simp only [ownF, rng] at g; omega
    refine W_ret ?_
    simp only [andThen_ret]
    have TA : TreeAt B ord w20 m d iso [x] (ownF E b bi2 0 cap3) := ⟨c20, hL20, (Row.cons.1 r20).1, List.pairwise_singleton _ _, .inr ⟨0, b, x20.rd (x19.rd rt18 (by simp only [rng]; omega)) (by simp only [rng]; omega), tr⟩, fun o g => by have := hown _ _ g; omega, tr.lt,
      fun y o g => by have := hown _ _ g; omega⟩
    exact endQ_ct (by simp only [upd_eq, Nat.reduceEqDiff, ↓reduceIte]; exact f6) (by simp only [upd_eq, Nat.reduceEqDiff, ↓reduceIte] <;> rfl) ld_33 (iX_at (show Row w21 q 0 (E.cel zIt) from r21)) ⟨rfl, X20.trans x21 (fun _ _ g => g) fun y o hy g => by simp only [rng] at g; omega, _,
      TA.extG x21 (fun y o g k => by have := hown _ _ g; simp only [rng] at k; omega) (fun y o g => by simp only [rng] at g; omega), fun y o g => by have := hown _ _ g; omega⟩
  constructor
  · refine do_bsl rfl bs_it0 fun w15 n15 => ⟨.inr (keep2 n15.ext ⟨by rw [sz_dr]; omega, fun _ h => h⟩ ⟨by rw [sz_dr]; omega, fun _ h => h⟩), ?_⟩
    simp only [↓List.toList_toArray, ↓rgd, ↓rgf, ↓reduceIte, Nat.reduceEqDiff, rg, ow_90]
    have n15 := n15.od
    have s15 := n15.size
    refine do_bsl rfl (bs_it1 x) fun w16 n16 => ⟨.inr (keep2 n16.ext ⟨by omega, fun _ h => h⟩ ⟨by omega, fun _ h => h⟩), ?_⟩
    simp only [↓List.toList_toArray, ↓rgd, ↓rgf, ↓reduceIte, Nat.reduceEqDiff, rg, ow_90]
    have s16 := n16.size
    have hv : SlV w16 2 (.slice (some ⟨w4.heap.size, 0, none⟩) 0 0) 0 [] := ⟨rfl, .inr ⟨_, 0, 0, rfl, Nat.le_refl _, Row.nil _ _ _, (n16.ext.wok n15.wok).R (Nat.le_refl _)⟩⟩
    have hu : SlV w16 2 (.slice (some ⟨w15.heap.size, 0, none⟩) 1 1) 1 (E.cel x) := ⟨rfl, .inr ⟨_, 0, 1, rfl, Nat.le_refl _, n16.row, n16.wok.R (Nat.le_refl _)⟩⟩
    have X16 : Ext noF w4 w16 := n15.ext.tr n16.ext
    refine do_append (by simp only [evt, evc, upd_eq, Nat.reduceEqDiff, ↓reduceIte, ntT, ntF] <;> rfl) (by simp only [evt, evc, upd_eq, Nat.reduceEqDiff, ↓reduceIte, ntT, ntF] <;> rfl) el_it rfl ni_25 hv hu (by omega) (by decide) (E.one x) fun v17 w17 a17 => ?_
    obtain ⟨cap3, rfl, hcap3, row17, wok17, x17, s17⟩ := app_new a17 (by omega)
    refine ⟨.inr (keep2 x17 ⟨by omega, fun _ h => h⟩ ⟨by omega, fun _ h => h⟩), ?_⟩
    simp only [↓List.toList_toArray, ↓rgd, ↓rgf, ↓reduceIte, Nat.reduceEqDiff, rg, ow_90, ptr_eq]
    refine do_store (by simp only [evt, evc, upd_eq, Nat.reduceEqDiff, ↓reduceIte, ntT, ntF] <;> rfl) (by simp only [evt, evc, upd_eq, Nat.reduceEqDiff, ↓reduceIte, ntT, ntF] <;> rfl) sz_25 rfl (x17.wok (X16.wok wb4)) (by decide) (oc_one rfl rfl) fun w18 x18 r18 s18 => ⟨.inl trivial, ?_⟩
    simp only [↓List.toList_toArray, ↓rgd, ↓rgf, ↓reduceIte, Nat.reduceEqDiff, rg, ow_90]
    refine rest2 _ _ (by simp only [upd_eq, Nat.reduceEqDiff, ↓reduceIte]; exact e0) (by simp only [upd_eq, Nat.reduceEqDiff, ↓reduceIte] <;> rfl) (((X16.tr x17).mono fun _ _ _ g => g.elim).tr x18) ⟨w16.heap.size, cap3, (Row.cons.1 r18).1, hcap3, x18.row row17 fun j _ h => by simp only [rng] at h; omega, x18.wok wok17, by omega⟩
  · refine do_bsl rfl (bs_it1 x) fun w15 n15 => ⟨.inr (keep2 n15.ext ⟨by rw [sz_dr]; omega, fun _ h => h⟩ ⟨by rw [sz_dr]; omega, fun _ h => h⟩), ?_⟩
    simp only [↓List.toList_toArray, ↓rgd, ↓rgf, ↓reduceIte, Nat.reduceEqDiff, rg, ow_90]
    have n15 := n15.od
    have s15 := n15.size
    refine do_bsl rfl bs_it0 fun w16 n16 => ⟨.inr (keep2 n16.ext ⟨by omega, fun _ h => h⟩ ⟨by omega, fun _ h => h⟩), ?_⟩
    simp only [↓List.toList_toArray, ↓rgd, ↓rgf, ↓reduceIte, Nat.reduceEqDiff, rg, ow_90]
    have s16 := n16.size
    have hv : SlV w16 2 (.slice (some ⟨w15.heap.size, 0, none⟩) 0 0) 0 [] := ⟨rfl, .inr ⟨_, 0, 0, rfl, Nat.le_refl _, Row.nil _ _ _, n16.wok.R (Nat.le_refl _)⟩⟩
    have hu : SlV w16 2 (.slice (some ⟨w4.heap.size, 0, none⟩) 1 1) 1 (E.cel x) := ⟨rfl, .inr ⟨_, 0, 1, rfl, Nat.le_refl _, n16.ext.row n15.row fun _ _ h => h, (n16.ext.wok n15.wok).R (Nat.le_refl _)⟩⟩
    have X16 : Ext noF w4 w16 := n15.ext.tr n16.ext
    refine do_append (by simp only [evt, evc, upd_eq, Nat.reduceEqDiff, ↓reduceIte, ntT, ntF] <;> rfl) (by simp only [evt, evc, upd_eq, Nat.reduceEqDiff, ↓reduceIte, ntT, ntF] <;> rfl) el_it rfl ni_25 hv hu (by omega) (by decide) (E.one x) fun v17 w17 a17 => ?_
    obtain ⟨cap3, rfl, hcap3, row17, wok17, x17, s17⟩ := app_new a17 (by omega)
    refine ⟨.inr (keep2 x17 ⟨by omega, fun _ h => h⟩ ⟨by omega, fun _ h => h⟩), ?_⟩
    simp only [↓List.toList_toArray, ↓rgd, ↓rgf, ↓reduceIte, Nat.reduceEqDiff, rg, ow_90, ptr_eq]
    refine do_store (by simp only [evt, evc, upd_eq, Nat.reduceEqDiff, ↓reduceIte, ntT, ntF] <;> rfl) (by simp only [evt, evc, upd_eq, Nat.reduceEqDiff, ↓reduceIte, ntT, ntF] <;> rfl) sz_25 rfl (x17.wok (X16.wok wb4)) (by decide) (oc_one rfl rfl) fun w18 x18 r18 s18 => ⟨.inl trivial, ?_⟩
    simp only [↓List.toList_toArray, ↓rgd, ↓rgf, ↓reduceIte, Nat.reduceEqDiff, rg, ow_90]
    refine rest2 _ _ (by simp only [upd_eq, Nat.reduceEqDiff, ↓reduceIte]; exact e0) (by simp only [upd_eq, Nat.reduceEqDiff, ↓reduceIte] <;> rfl) (((X16.tr x17).mono fun _ _ _ g => g.elim).tr x18) ⟨w16.heap.size, cap3, (Row.cons.1 r18).1, hcap3, x18.row row17 fun j _ h => by simp only [rng] at h; omega, x18.wok wok17, by omega⟩
theorem setHH_tree (hb B m d : Nat) (iso : Int) (ord : List Int) (x : It) (hd : 2 ≤ d) (hd' : d ≤ 128) (xs : List It) (F : Nat → Nat → Prop) (w : World) (hM : TreeAt B ord w m d iso xs F) (hbig : xs.length < 1152921504606846976) (hH : HintAt w hb) (hHF : ∀ o, ¬ F hb o) (hmh : m < hb) :
    CallK Try.prog 90 #[ptr m, itV x, ptr hb] w fun v w' => v = .tuple #[itV ((at? O (rkI ord) (rkI ord x) xs).getD zIt), .bool (hit O (rkI ord) (rkI ord x) xs)] ∧ Ext (fun y o => mapF m F y o ∨ hF (some hb) y o) w w' ∧ HintAt w' hb ∧
      ∃ F', TreeAt B ord w' m d iso (put O (rkI ord) x xs) F' ∧ ∀ y o, F' y o → F y o ∨ w.heap.size ≤ y := by
  rcases hM.root with ⟨rfl, hr⟩ | ⟨h, b, hr, ht⟩
  · refine CallK_mono (set_nilH hb B m d iso ord x hd hd' w hM.cfg hM.less hr) ?_
    rintro v w' ⟨rfl, hX, F', hM', hF'⟩
    refine ⟨rfl, hX.mono fun y o _ g => .inl (g.imp (fun g => g.elim) id), hH.ext hX fun o g => ?_, F', hM', fun y o g => .inr (hF' y o g)⟩
    rcases g with g | g
    · exact g
    · omega
  · refine CallK_mono (set_rootH B m d iso ord x hb hd hd' _ h b xs F w rfl hM.cfg hM.less hM.above hM.cnt hM.asc hr ht hM.off hbig hH hHF hmh) ?_
    rintro v w' ⟨u, xu, su, hHu, h1, X, F', hM', hF'⟩
    refine ⟨h1, (xu.mono fun y o _ (g : y = hb) => .inr (by rw [g]; rfl)).tr (X.mono fun _ _ _ g => .inl g), hHu.ext X fun o g => ?_, F', hM', fun y o g => (hF' y o g).imp id fun g => by omega⟩
    rcases g with g | g
    · exact hHF o g
    · omega
set_option maxHeartbeats 400000 in
set_option maxRecDepth 8000 in
theorem setHint_any (hb B m d : Nat) (iso : Int) (ord : List Int) (x : It) (hd : 2 ≤ d) (hd' : d ≤ 128) (xs : List It) (F : Nat → Nat → Prop) (w : World) (hM : TreeAt B ord w m d iso xs F) (hbig : xs.length < 1152921504606846976) (hH : HintAt w hb) (hHF : ∀ o, ¬ F hb o) (hmh : m < hb) :
    CallK Try.prog 56 #[ptr m, itV x, ptr hb] w fun v w' => v = .tuple #[itV ((at? O (rkI ord) (rkI ord x) xs).getD zIt), .bool (hit O (rkI ord) (rkI ord x) xs)] ∧ Ext (fun y o => mapF m F y o ∨ hF (some hb) y o) w w' ∧ HintAt w' hb ∧
      ∃ F', TreeAt B ord w' m d iso (put O (rkI ord) x xs) F' ∧ ∀ y o, F' y o → F y o ∨ w.heap.size ≤ y := by
  have hml := hM.mlt
  refine calls_of_W [.cell 6 33, .tmp 7] Try.func56 rfl Try.ntmps56 Try.results56 (by simp) fun e he => ?_
  have e0 : e 0 = ptr m := he 0 _ rfl
  have e1 : e 1 = itV x := he 1 _ rfl
  have e2 : e 2 = ptr hb := he 2 _ rfl
  clear he
  refine W_sq fun K hK => (W_text [false, false, true] (by kernel_rfl) ?_); simp only [↓List.toList_toArray, ↓rgd, ↓rgf, ↓reduceIte, Nat.reduceEqDiff, rg, ow_56]
  refine do_box (by simp only [evt]; exact e1) fun w1 n1 => ⟨trivial, ?_⟩
  simp only [↓List.toList_toArray, ↓rgd, ↓rgf, ↓reduceIte, Nat.reduceEqDiff, rg, ow_56]
  refine do_alloc z_it fun w2 n2 => ⟨trivial, ?_⟩
  simp only [↓List.toList_toArray, ↓rgd, ↓rgf, ↓reduceIte, Nat.reduceEqDiff, rg, ow_56]
  refine hK _ _ ?_; clear hK K
  have s1 := n1.size
  have s2 := n2.size
  have X2 : Ext noF w w2 := n1.ext.tr n2.ext
  have ix := iX_at (n2.ext.row (show Row w1 w.heap.size 0 (E.cel x) from n1.row) fun _ _ h => h)
  refine W_sq fun K hK => (W_text [true, true, true, false, true, true, true, false, true] (by kernel_rfl) ?_); simp only [↓List.toList_toArray, ↓rgd, ↓rgf, ↓reduceIte, Nat.reduceEqDiff, rg, ow_56, e0, e2, ix]
  refine do_call fn_90 (by simp only [evt, evc, upd_eq, Nat.reduceEqDiff, ↓reduceIte, maT, maC, maN, isnN, isnS] <;> rfl) (setHH_tree hb B m d iso ord x hd hd' xs F w2 (hM.ext X2) hbig (hH.ext X2 fun _ g => g) hHF hmh) ?_
  rintro _ w3 ⟨rfl, x3, hH3, F', hM', hF'⟩
  refine ⟨trivial, ?_⟩
  simp only [↓List.toList_toArray, ↓rgd, ↓rgf, ↓reduceIte, Nat.reduceEqDiff, rg, ow_56]
  have hhl := wok_lt hH.wok
  have hq : ∀ o, ¬ F w1.heap.size o := fun o g => by have := hM.lt _ _ g; omega
  have s3 := x3.size
  have hF2 : ∀ y o, F' y o → y ≠ w1.heap.size := fun y o g k => by
    subst k
    rcases hF' _ o g with g | g
    · exact hq o g
    · omega
  refine do_store (by simp only [evt, evc, upd_eq, Nat.reduceEqDiff, ↓reduceIte, ntT, ntF] <;> rfl) (by simp only [evt, evc, upd_eq, Nat.reduceEqDiff, ↓reduceIte, ntT, ntF] <;> rfl) sz_33 (itV_len _) (x3.wok n2.wok) (by decide) (itV_oc _) fun w4 x4 r4 s4 => ⟨trivial, ?_⟩
  simp only [↓List.toList_toArray, ↓rgd, ↓rgf, ↓reduceIte, Nat.reduceEqDiff, rg, ow_56]
  refine hK _ _ ?_; clear hK K
  have iv := iX_at (show Row w4 w1.heap.size 0 (E.cel ((at? O (rkI ord) (rkI ord x) xs).getD zIt)) from r4)
  refine W_sq fun K hK => (W_text [true, true, false, true] (by kernel_rfl) ?_); simp only [↓List.toList_toArray, ↓rgd, ↓rgf, ↓reduceIte, Nat.reduceEqDiff, rg, ow_56, iv]
  refine do_store (by simp only [evt, evc, upd_eq, Nat.reduceEqDiff, ↓reduceIte, ntT, ntF] <;> rfl) (by simp only [evt, evc, upd_eq, Nat.reduceEqDiff, ↓reduceIte, ntT, ntF] <;> rfl) sz_33 (itV_len _) (x4.wok (x3.wok n2.wok)) (by decide) (itV_oc _) fun w5 x5 r5 s5 => ⟨trivial, ?_⟩
  simp only [↓List.toList_toArray, ↓rgd, ↓rgf, ↓reduceIte, Nat.reduceEqDiff, rg, ow_56]
  refine hK _ _ ?_; clear hK K
  have x45 : Ext (rng w1.heap.size 0 2) w3 w5 := x4.tr x5
  refine W_ret (endQ_ct (by simp only [upd_eq, Nat.reduceEqDiff, ↓reduceIte] <;> rfl) (by simp only [upd_eq, Nat.reduceEqDiff, ↓reduceIte] <;> rfl) ld_33 (iX_at (show Row w5 w1.heap.size 0 (E.cel ((at? O (rkI ord) (rkI ord x) xs).getD zIt)) from r5)) ⟨rfl, (X2.trans x3 (fun _ _ g => g.elim) fun _ _ _ g => g).trans x45 (fun _ _ g => g) fun y o hy g => by simp only [rng] at g; omega, hH3.ext x45 fun o g => by simp only [rng] at g; omega, F',
    hM'.extG x45 (fun y o g k => hF2 y o g k.1) (fun y o g => by simp only [rng] at g; omega), fun y o g => (hF' y o g).imp id fun g => by omega⟩)
end Go.Proofs.Ytbnnkcofnmipoaa
/-
  The item of a key, with a hint or without one. No condition.
-/
set_option linter.unusedSimpArgs false
set_option linter.unusedVariables false
namespace Go.Proofs.Ytbnnkcofnmipoaa
open Go Go.Proofs
theorem srchG_eqG (ord : List Int) (ks : List It) (x : It) : srchG ord ks x = .tuple #[.int .i64 (lb O (rkI ord) (rkI ord x) ks : Nat), .bool (hit O (rkI ord) (rkI ord x) ks)] := id (Eq.trans rfl rfl)
theorem at_noneG {ord : List Int} {x : It} {xs : List It} (h : hit O (rkI ord) (rkI ord x) xs = false) : at? O (rkI ord) (rkI ord x) xs = none := by unfold at?; rw [h]; rfl
set_option maxHeartbeats 1000000 in
set_option maxRecDepth 8000 in
theorem getHint_any (B m d : Nat) (ord : List Int) (hd : 2 ≤ d) (hd' : d ≤ 128) (iso : Int) (xs : List It) (F : Nat → Nat → Prop) (q : It) (hp : Option Nat) (mu : Bool) (w : World) (hM : TreeAt B ord w m d iso xs F) (hbig : xs.length ≤ 4294967295) (hH : HOk hp w)
    (hB : ∀ hb, hp = some hb → (m < hb ∨ hb < B) ∧ ∀ y o, F y o → y ≠ hb) :
    CallK Try.prog 93 #[ptr m, itV q, hV hp, .bool mu] w fun v w' => v = gotG (at? O (rkI ord) (rkI ord q) xs) ∧ Ext (Go.Proofs.Ytbnnkcofnmipoaa.hF hp) w w' ∧ HOk hp w' := by
  have hBm : B ≤ m := by obtain ⟨_, _, _, h⟩ := hM.less; exact h
  have hml := hM.mlt
  refine calls_of_W [.cell 8 33, .tmp 9] Try.func93 rfl Try.ntmps93 Try.results93 (by simp) fun e he => ?_
  have e0 : e 0 = ptr m := he 0 _ rfl
  have e1 : e 1 = itV q := he 1 _ rfl
  have e2 : e 2 = hV hp := he 2 _ rfl
  have e3 : e 3 = .bool mu := he 3 _ rfl
  clear he
  refine W_sq fun K0 hK => (W_text [false, false, true] (by kernel_rfl) ?_); simp only [↓List.toList_toArray, ↓rgd, ↓rgf, ↓reduceIte, Nat.reduceEqDiff, rg, ow_93]
  refine do_box (by simp only [evt]; exact e1) fun w1 n1 => ⟨trivial, ?_⟩
  simp only [↓List.toList_toArray, ↓rgd, ↓rgf, ↓reduceIte, Nat.reduceEqDiff, rg, ow_93]
  refine do_alloc z_it fun w2 n2 => ⟨trivial, ?_⟩
  simp only [↓List.toList_toArray, ↓rgd, ↓rgf, ↓reduceIte, Nat.reduceEqDiff, rg, ow_93]
  refine hK _ _ ?_; clear hK K0
  have s1 := n1.size
  have s2 := n2.size
  have X0 : Ext noF w w2 := n1.ext.tr n2.ext
  have ix0 : Row w2 w.heap.size 0 (E.cel q) := n2.ext.row n1.row fun _ _ h => h
  have k2 : wok w2 w1.heap.size 2 := n2.wok
  obtain ⟨qb, hqb⟩ : ∃ qb, qb = w1.heap.size := ⟨_, rfl⟩
  rw [← hqb] at k2 ⊢
  clear n1 n2
  have hM1 := hM.ext X0
  have hH1 := hH.ext0 X0
  have hhl : ∀ hb, hp = some hb → hb < w.heap.size := fun hb h => wok_lt (hH hb h).wok
  refine W_seq ?_
  refine W_sq fun K0 hK => (W_text [true, true, false] (by kernel_rfl) ?_); simp only [↓List.toList_toArray, ↓rgd, ↓rgf, ↓reduceIte, Nat.reduceEqDiff, rg, ow_93, e0, e3]
  refine do_call fn_91 (by simp only [evt, evc, upd_eq, Nat.reduceEqDiff, ↓reduceIte, maT, maC, maN, isnN, isnS] <;> rfl) (lock_any _ _ w2) ?_
  rintro _ _ ⟨rfl, rfl⟩
  refine ⟨trivial, ?_⟩
  simp only [↓List.toList_toArray, ↓rgd, ↓rgf, ↓reduceIte, Nat.reduceEqDiff, rg, ow_93]
  refine hK _ _ ?_; clear hK K0
  refine W_false (by simp only [evt, evc, upd_eq, Nat.reduceEqDiff, ↓reduceIte, ntT, ntF] <;> rfl) (W_skip ?_)
  show W _ _ _ _ _ _
  have hz := zIt_at hM1.cfg
  have hres : ∀ (e : Env) (w4 w5 : World) (x : Option It), Ext (Go.Proofs.Ytbnnkcofnmipoaa.hF hp) w w4 → HOk hp w4 → Ext (rng qb 0 2) w4 w5 → Row w5 qb 0 (E.cel (x.getD zIt)) → e 8 = ptr qb → e 9 = .bool x.isSome → x = at? O (rkI ord) (rkI ord q) xs →
      endQ Try.prog [.cell 8 33, .tmp 9] (fun v w' => v = gotG (at? O (rkI ord) (rkI ord q) xs) ∧ Ext (Go.Proofs.Ytbnnkcofnmipoaa.hF hp) w w' ∧ HOk hp w') .ret e w5 := by
    rintro e w4 w5 x XX HH x5 r5 e8 e9 rfl
    refine endQ_ct e8 e9 ld_33 (iX_at r5) ⟨rfl, ?_, HH.ext x5 fun hb h o g => ?_⟩
    · refine XX.trans x5 (fun _ _ g => g) fun y o hy g => ?_
      simp only [rng] at g
      omega
    · have := hhl hb h
      simp only [rng] at g
      omega
  have X02 : Ext (Go.Proofs.Ytbnnkcofnmipoaa.hF hp) w w2 := X0.mono fun _ _ _ g => g.elim
  refine W_seq ?_
  rcases hM1.root with ⟨rfl, hr⟩ | ⟨h, b, hr, ht⟩
  · refine W_sq fun K0 hK => (W_text [true, true, true, true, true] (by kernel_rfl) ?_); simp only [↓List.toList_toArray, ↓rgd, ↓rgf, ↓reduceIte, Nat.reduceEqDiff, rg, ow_93, e0, ptr_eq, hr]
    refine hK _ _ ?_; clear hK K0
    refine W_true (by simp only [evt, evc, upd_eq, Nat.reduceEqDiff, ↓reduceIte, ntT, ntF] <;> rfl) ?_
    refine W_sq fun K0 hK => (W_text [true, true, true, true, false, true] (by kernel_rfl) ?_); simp only [↓List.toList_toArray, ↓rgd, ↓rgf, ↓reduceIte, Nat.reduceEqDiff, rg, ow_93, e0, ptr_eq, hz]
    refine do_store (by simp only [evt, evc, upd_eq, Nat.reduceEqDiff, ↓reduceIte, ntT, ntF] <;> rfl) (by simp only [evt, evc, upd_eq, Nat.reduceEqDiff, ↓reduceIte, ntT, ntF] <;> rfl) sz_33 (itV_len zIt) k2 (by decide) (itV_oc zIt) fun w5 x5 r5 s5 => ⟨trivial, ?_⟩
    simp only [↓List.toList_toArray, ↓rgd, ↓rgf, ↓reduceIte, Nat.reduceEqDiff, rg, ow_93]
    refine hK _ _ ?_; clear hK K0
    refine W_ret ?_
    simp only [andThen_ret]
    exact hres _ w2 w5 none X02 hH1 x5 r5 (by simp only [upd_eq, Nat.reduceEqDiff, ↓reduceIte] <;> rfl) (by simp only [upd_eq, Nat.reduceEqDiff, ↓reduceIte] <;> rfl) (at_noneG rfl).symm
  · refine W_sq fun K0 hK => (W_text [true, true, true, true, true] (by kernel_rfl) ?_); simp only [↓List.toList_toArray, ↓rgd, ↓rgf, ↓reduceIte, Nat.reduceEqDiff, rg, ow_93, e0, ptr_eq, hr]
    refine hK _ _ ?_; clear hK K0
    refine W_false (by simp only [evt, evc, upd_eq, Nat.reduceEqDiff, ↓reduceIte, ntT, ntF] <;> rfl) (W_skip ?_)
    show W _ _ _ _ _ _
    have hh := ht.height (by omega) (by omega)
    refine W_sq fun K0 hK => (W_text [true, true, true, true, true, false, true] (by kernel_rfl) ?_); simp only [↓List.toList_toArray, ↓rgd, ↓rgf, ↓reduceIte, Nat.reduceEqDiff, rg, ow_93, e0, e3, ptr_eq]
    refine do_call fn_96 (by simp only [evt, evc, upd_eq, Nat.reduceEqDiff, ↓reduceIte, maT, maC, maN, isnN, isnS] <;> rfl) (isoLoad_any m m 2 b mu iso w2 hM1.cfg.iso hr ht.iso0.1) ?_
    rintro _ w3 ⟨rfl, r3⟩
    refine ⟨trivial, ?_⟩
    simp only [↓List.toList_toArray, ↓rgd, ↓rgf, ↓reduceIte, Nat.reduceEqDiff, rg, ow_93]
    refine hK _ _ ?_; clear hK K0
    refine W_sq fun K0 hK => (W_text [true] (by kernel_rfl) ?_); simp only [↓List.toList_toArray, ↓rgd, ↓rgf, ↓reduceIte, Nat.reduceEqDiff, rg, ow_93]
    refine hK _ _ ?_; clear hK K0
    have x3 : Ext noF w2 w3 := r3.ext
    have X23 : Ext (Go.Proofs.Ytbnnkcofnmipoaa.hF hp) w2 w3 := x3.mono fun _ _ _ g => g.elim
    refine W_block (W_loop (fun mm e w' => ∃ (lo b : Nat) (ys : List It) (F' : Nat → Nat → Prop) (dep : Nat), Tr E iso (d - 1) (2 * d - 1) mm w2 lo b ys F' ∧ 1 ≤ lo ∧ Asc O (rkI ord) ys ∧ at? O (rkI ord) (rkI ord q) ys = at? O (rkI ord) (rkI ord q) xs ∧
        (∀ y o, F' y o → F y o) ∧ dep + mm = h ∧ Ext (Go.Proofs.Ytbnnkcofnmipoaa.hF hp) w2 w' ∧ HOk hp w' ∧ e 0 = ptr m ∧ e 2 = hV hp ∧ e 3 = .bool mu ∧ e 5 = ptr w.heap.size ∧ e 8 = ptr qb ∧ e 10 = ptr b ∧ e 11 = .int .i64 dep)
      h ⟨1, b, xs, F, 0, ht, Nat.le_refl _, hM1.asc, rfl, fun _ _ g => g, by omega, X23.tr (Ext.dr _ _ _), (hH1.ext0 x3).ext0 (Ext.dr _ _ _), ?_, ?_, ?_, ?_, ?_, ?_, ?_⟩ ?_)
    · simp only [upd_eq, Nat.reduceEqDiff, ↓reduceIte]; exact e0
    · simp only [upd_eq, Nat.reduceEqDiff, ↓reduceIte]; exact e2
    · simp only [upd_eq, Nat.reduceEqDiff, ↓reduceIte]; exact e3
    · simp only [upd_eq, Nat.reduceEqDiff, ↓reduceIte]; rfl
    · simp only [upd_eq, Nat.reduceEqDiff, ↓reduceIte]; rfl
    · simp only [upd_eq, Nat.reduceEqDiff, ↓reduceIte]
    · simp only [upd_eq, Nat.reduceEqDiff, ↓reduceIte]; rfl
    clear e0 e1 e2 e3 e hr ht r3 x3 X23
    rintro mm e w' ⟨lo, b, ys, F', dep, ht, hlo, ha, h1, hFF, hdep, X, HH, e0, e2, e3, e5, e8, e10, e11⟩
    have hmh : ∀ o, ¬ Go.Proofs.Ytbnnkcofnmipoaa.hF hp m o := fun o g => by have := (hB m g).1; omega
    have hL' := hM1.less.ext X (fun y o g => by have := (hB y g).1; omega) (hmh 6)
    have hiso := X.rd hM1.cfg.iso (hmh 0)
    have hz' : rdA w' m 7 2 = some (itV zIt) := (X.row hM1.cfg.ez fun i _ g => hmh _ g).rdA 2 (by simp [E])
    have ixw := iX_at (X.row ix0 fun i _ g => by have := hhl _ g; omega)
    obtain ⟨bi, oi, cap, ks, ch, ho, hl1, hl2, hoF, hin⟩ := ht.open
    have hnF : ∀ y o, F' y o → ¬ Go.Proofs.Ytbnnkcofnmipoaa.hF hp y o := fun y o g k => (hB y k).2 y o (hFF y o g) rfl
    have ho' := ho.ext X fun y o g => hnF y o (hoF y o g)
    have hak : Asc O (rkI ord) ks := by
      rcases hin with ⟨_, _, hx, _⟩ | ⟨_, _, _, _, _, cs, _, _, n⟩
      · rw [← hx]; exact ha
      · refine List.Pairwise.sublist ?_ ha
        rw [n.eq]; exact weave_sub _ _ (by simpa using n.len)
    have hb2 := ho'.h2
    have hb3 := ho'.h3
    have hbb : ∀ hb, hp = some hb → hb ≠ b := fun hb hh hE => (hB hb hh).2 b 0 (hFF _ _ (ht.self 0)) hE.symm
    have hch : ∃ a : Option Addr, ch = .pointer a := by
      rcases hin with ⟨_, rfl, _⟩ | ⟨_, bc, _, _, _, _, _, rfl, _⟩
      · exact ⟨none, rfl⟩
      · exact ⟨some ⟨bc, 0, none⟩, rfl⟩
    obtain ⟨cha, rfl⟩ := hch
    refine W_block ?_
    refine W_sq fun K0 hK => (W_text [true, true, true, true, true, false, true, true, true, true, true] (by kernel_rfl) ?_); simp only [↓List.toList_toArray, ↓rgd, ↓rgf, ↓reduceIte, Nat.reduceEqDiff, rg, ow_93, e0, e2, e5, e10, e11, ixw, ptr_eq]
    refine do_call fn_97 (by simp only [evt, evc, upd_eq, Nat.reduceEqDiff, ↓reduceIte, maT, maC, maN, isnN, isnS] <;> rfl) (find_any B m b bi oi cap ord ks q cha hp dep w' hL' hb2 hb3 ho'.row (wok_lt ho'.wi) (by omega) (by omega) hak HH hbb) ?_
    rintro _ w4 ⟨rfl, X4, HH4⟩
    refine ⟨trivial, ?_⟩
    simp only [↓List.toList_toArray, ↓rgd, ↓rgf, ↓reduceIte, Nat.reduceEqDiff, rg, ow_93, srchG_eqG]
    refine hK _ _ ?_; clear hK K0
    have X24 := X.tr X4
    have ho4 := ho.ext X24 fun y o g => hnF y o (hoF y o g)
    have hb2' := ho4.h2
    have hb3' := ho4.h3
    have k4 := X24.wok k2
    have X04 : Ext (Go.Proofs.Ytbnnkcofnmipoaa.hF hp) w w4 := X02.tr X24
    refine W_seq ?_
    cases hh : hit O (rkI ord) (rkI ord q) ks with
    | true =>
      refine W_sq fun K0 hK => (W_text [true] (by kernel_rfl) ?_); simp only [↓List.toList_toArray, ↓rgd, ↓rgf, ↓reduceIte, Nat.reduceEqDiff, rg, ow_93]
      refine hK _ _ ?_; clear hK K0
      refine W_true (by simp only [evt, evc, upd_eq, Nat.reduceEqDiff, ↓reduceIte, ntT, ntF] <;> rfl) ?_
      obtain ⟨kk, hk1, hk2⟩ := hit_at O (rkI ord) hh
      have hi := (List.getElem?_eq_some_iff.1 hk1).1
      have hv := it_at ho4.row hk1
      refine W_sq fun K0 hK => (W_text [true, true, true, true, true, true, true, false, true] (by kernel_rfl) ?_); simp only [↓List.toList_toArray, ↓rgd, ↓rgf, ↓reduceIte, Nat.reduceEqDiff, rg, ow_93, e8, e10, ptr_eq, hb2', hi, hv]
      refine do_store (by simp only [evt, upd_eq, Nat.reduceEqDiff, ↓reduceIte]; exact e8) (by simp only [evt, evc, upd_eq, Nat.reduceEqDiff, ↓reduceIte, ntT, ntF] <;> rfl) sz_33 (itV_len kk) k4 (by decide) (itV_oc kk) fun w5 x5 r5 s5 => ⟨trivial, ?_⟩
      simp only [↓List.toList_toArray, ↓rgd, ↓rgf, ↓reduceIte, Nat.reduceEqDiff, rg, ow_93]
      refine hK _ _ ?_; clear hK K0
      have key : at? O (rkI ord) (rkI ord q) ys = some kk := by
        rcases hin with ⟨_, _, rfl, _⟩ | ⟨_, _, _, _, _, cs, _, _, n⟩
        · unfold at?; rw [hh]; exact hk1
        · obtain ⟨A, C, hw⟩ := weave_key (lb O (rkI ord) (rkI ord q) ks) (cs.map Kid.xs) ks kk (by simpa using n.len) hk1
          have hxs : ys = A ++ kk :: C := by
            rw [n.eq, ← hw kk]
            obtain ⟨g1, g2⟩ := List.getElem?_eq_some_iff.1 hk1
            rw [← g2, List.set_getElem_self g1]
          subst hxs
          rw [hk2]
          exact at_found O (rkI ord) ha rfl
      refine W_ret ?_
      simp only [andThen_ret, inBlk_ret]
      exact hres _ w4 w5 (some kk) X04 HH4 x5 r5 (by simp only [upd_eq, Nat.reduceEqDiff, ↓reduceIte]; exact e8) (by simp only [upd_eq, Nat.reduceEqDiff, ↓reduceIte] <;> rfl) (by rw [← h1, key])
    | false =>
      refine W_sq fun K0 hK => (W_text [true] (by kernel_rfl) ?_); simp only [↓List.toList_toArray, ↓rgd, ↓rgf, ↓reduceIte, Nat.reduceEqDiff, rg, ow_93]
      refine hK _ _ ?_; clear hK K0
      refine W_false (by simp only [evt, evc, upd_eq, Nat.reduceEqDiff, ↓reduceIte, ntT, ntF] <;> rfl) (W_skip ?_)
      simp only [andThen_normal]
      refine W_seq ?_
      have hlb : lb O (rkI ord) (rkI ord q) ks ≤ ks.length := lb_le O (rkI ord) _ _
      rcases hin with ⟨rfl, hcn, rfl, hF⟩ | ⟨h', bc, ba, oa, capc, cs, rfl, hcp, n⟩
      · cases hcn
        refine W_sq fun K0 hK => (W_text [true, true, true, true, true] (by kernel_rfl) ?_); simp only [↓List.toList_toArray, ↓rgd, ↓rgf, ↓reduceIte, Nat.reduceEqDiff, rg, ow_93, e10, ptr_eq, hb3']
        refine hK _ _ ?_; clear hK K0
        refine W_true (by simp only [evt, evc, upd_eq, Nat.reduceEqDiff, ↓reduceIte, ntT, ntF] <;> rfl) ?_
        have hz4 : rdA w4 m 7 2 = some (itV zIt) := (X24.row hM1.cfg.ez fun i _ g => hmh _ g).rdA 2 (by simp [E])
        refine W_sq fun K0 hK => (W_text [true, true, true, true, false, true] (by kernel_rfl) ?_); simp only [↓List.toList_toArray, ↓rgd, ↓rgf, ↓reduceIte, Nat.reduceEqDiff, rg, ow_93, e0, ptr_eq, hz4]
        refine do_store (by simp only [evt, upd_eq, Nat.reduceEqDiff, ↓reduceIte]; exact e8) (by simp only [evt, evc, upd_eq, Nat.reduceEqDiff, ↓reduceIte, ntT, ntF] <;> rfl) sz_33 (itV_len zIt) k4 (by decide) (itV_oc zIt) fun w5 x5 r5 s5 => ⟨trivial, ?_⟩
        simp only [↓List.toList_toArray, ↓rgd, ↓rgf, ↓reduceIte, Nat.reduceEqDiff, rg, ow_93]
        refine hK _ _ ?_; clear hK K0
        refine W_ret ?_
        simp only [andThen_ret, inBlk_ret]
        exact hres _ w4 w5 none X04 HH4 x5.od r5 (by simp only [upd_eq, Nat.reduceEqDiff, ↓reduceIte]; exact e8) (by simp only [upd_eq, Nat.reduceEqDiff, ↓reduceIte] <;> rfl) (by rw [← h1, at_noneG hh])
      · cases hcp
        generalize hli : lb O (rkI ord) (rkI ord q) ks = i at *
        obtain ⟨c, hci⟩ : ∃ c, cs[i]? = some c := ⟨_, List.getElem?_eq_getElem (by have := n.len; omega)⟩
        have hcm := List.mem_of_getElem? hci
        have hcl := (List.getElem?_eq_some_iff.1 hci).1
        have hcx : (cs.map Kid.xs)[i]? = some c.xs := by rw [List.getElem?_map, hci]; rfl
        obtain ⟨A, C, hw⟩ := weave_at i (cs.map Kid.xs) ks (by simpa using n.len) hlb
        have hxs : ys = A ++ c.xs ++ C := by rw [n.eq]; exact hw.eq hcx
        obtain ⟨hA, hC⟩ := hw.mid O (rkI ord) hcx (by rw [← n.eq]; exact ha) hli hh
        have hkF : ∀ y o, kidF bc ba oa capc y o → F' y o := fun y o g => (n.fp y o).2 (.inr (.inl g))
        have hcF : ∀ y o, c.F y o → F' y o := fun y o g => (n.fp y o).2 (.inr (.inr ⟨c, hcm, g⟩))
        have hkids := n.kids.ext X24 fun y o g => hnF y o (hkF y o g)
        have ga : rd w4 ba (oa + i) = some (ptr c.b) := hkids.row i _ (by rw [List.getElem?_map, List.getElem?_map, hci]; rfl)
        have gc := hkids.c0
        rw [List.length_map] at gc
        have htc := n.sub c hcm
        have hc0 : rd w4 c.b 0 = some (.int .u64 iso) := X24.rd htc.iso0.1 (hnF _ _ (hcF _ _ (htc.self 0)))
        refine W_sq fun K0 hK => (W_text [true, true, true, true, true] (by kernel_rfl) ?_); simp only [↓List.toList_toArray, ↓rgd, ↓rgf, ↓reduceIte, Nat.reduceEqDiff, rg, ow_93, e10, ptr_eq, hb3']
        refine hK _ _ ?_; clear hK K0
        refine W_false (by simp only [evt, evc, upd_eq, Nat.reduceEqDiff, ↓reduceIte, ntT, ntF] <;> rfl) (W_skip ?_)
        simp only [andThen_normal]
        refine W_sq fun K0 hK => (W_text [true, true, true, true, true, true, true, true, true, true, false, true] (by kernel_rfl) ?_); simp only [↓List.toList_toArray, ↓rgd, ↓rgf, ↓reduceIte, Nat.reduceEqDiff, rg, ow_93, e0, e3, e10, ptr_eq, hb3', gc, hcl]
        refine do_call fn_96 (by simp only [evt, evc, upd_eq, Nat.reduceEqDiff, ↓reduceIte, maT, maC, maN, isnN, isnS] <;> rfl) (isoLoad_any m ba (oa + i) c.b mu iso _ (X24.rd hM1.cfg.iso (hmh 0)) ga hc0) ?_
        rintro _ w5 ⟨rfl, r5⟩
        refine ⟨trivial, ?_⟩
        simp only [↓List.toList_toArray, ↓rgd, ↓rgf, ↓reduceIte, Nat.reduceEqDiff, rg, ow_93]
        refine hK _ _ ?_; clear hK K0
        have q1 := wadd1 dep (by omega)
        refine W_rg fun K0 hK => (W_text [true, true, true] (by kernel_rfl) ?_); simp only [↓List.toList_toArray, ↓rgd, ↓rgf, ↓reduceIte, Nat.reduceEqDiff, rg, ow_93, e11, q1]
        refine hK _ _ ?_; clear hK K0
        have hac : Asc O (rkI ord) c.xs := by rw [hxs] at ha; exact ((Asc.append O (rkI ord)).1 ((Asc.append O (rkI ord)).1 ha).1).2.1
        have X5 : Ext noF w4 w5 := Ext.od r5.ext
        refine ⟨h', by omega, d - 1, c.b, c.xs, c.F, dep + 1, htc, by omega, hac, ?_, fun y o g => hFF y o (hcF y o g), by omega, (X24.tr (X5.mono fun _ _ _ g => g.elim)).tr (Ext.dr _ _ _), (HH4.ext0 X5).ext0 (Ext.dr _ _ _), ?_, ?_, ?_, ?_, ?_, ?_, ?_⟩
        · rw [← h1, hxs, at_mid O (rkI ord) hA hC]
        · simp only [upd_eq, Nat.reduceEqDiff, ↓reduceIte]; exact e0
        · simp only [upd_eq, Nat.reduceEqDiff, ↓reduceIte]; exact e2
        · simp only [upd_eq, Nat.reduceEqDiff, ↓reduceIte]; exact e3
        · simp only [upd_eq, Nat.reduceEqDiff, ↓reduceIte]; exact e5
        · simp only [upd_eq, Nat.reduceEqDiff, ↓reduceIte]; exact e8
        · simp only [upd_eq, Nat.reduceEqDiff, ↓reduceIte]
        · simp only [upd_eq, Nat.reduceEqDiff, ↓reduceIte]
end Go.Proofs.Ytbnnkcofnmipoaa
/-
  A tree that is changed with a hint; Get, GetHint. No condition.
-/
set_option linter.unusedSimpArgs false
set_option linter.unusedVariables false
namespace Go.Proofs.Ytbnnkcofnmipoaa
open Go Go.Proofs
/-- What is found for each key. -/
def gets (ord : List Int) (xs ks : List It) : List (It × Bool) := ks.map fun k => foO (at? O (rkI ord) (rkI ord k) xs)
theorem gets_len (ord : List Int) (xs ks : List It) : (gets ord xs ks).length = ks.length := by simp [gets]
theorem gets_succ {ord : List Int} {xs ks : List It} {k : Nat} {x : It} (hx : ks[k]? = some x) : gets ord xs (ks.take (k + 1)) = gets ord xs (ks.take k) ++ [foO (at? O (rkI ord) (rkI ord x) xs)] := by rw [take_snoc hx]; simp [gets]
theorem z_hint : zK Try.prog 109 = some [.bool false, .bool false, .bool false, .bool false, .bool false, .bool false, .bool false, .bool false, .int .u8 0, .int .u8 0, .int .u8 0, .int .u8 0, .int .u8 0, .int .u8 0, .int .u8 0, .int .u8 0] := by kernel_rfl
theorem hint_new {w w' : World} (h : New w w' [.bool false, .bool false, .bool false, .bool false, .bool false, .bool false, .bool false, .bool false, .int .u8 0, .int .u8 0, .int .u8 0, .int .u8 0, .int .u8 0, .int .u8 0, .int .u8 0, .int .u8 0]) : HintAt w' w.heap.size := by
  refine ⟨h.wok, fun i hi => ⟨false, ?_⟩, fun i hi => ⟨0, by omega, ?_⟩⟩
  · have : i = 0 ∨ i = 1 ∨ i = 2 ∨ i = 3 ∨ i = 4 ∨ i = 5 ∨ i = 6 ∨ i = 7 := by omega
    have := h.row i (.bool false) (by rcases this with rfl | rfl | rfl | rfl | rfl | rfl | rfl | rfl <;> rfl)
    rwa [Nat.zero_add] at this
  · have : i = 0 ∨ i = 1 ∨ i = 2 ∨ i = 3 ∨ i = 4 ∨ i = 5 ∨ i = 6 ∨ i = 7 := by omega
    have := h.row (8 + i) (.int .u8 0) (by rcases this with rfl | rfl | rfl | rfl | rfl | rfl | rfl | rfl <;> rfl)
    rwa [Nat.zero_add] at this
set_option maxHeartbeats 400000 in
set_option maxRecDepth 8000 in
theorem getHh_any (B m d : Nat) (ord : List Int) (hd : 2 ≤ d) (hd' : d ≤ 128) (iso : Int) (xs : List It) (F : Nat → Nat → Prop) (q : It) (hp : Option Nat) (w : World) (hM : TreeAt B ord w m d iso xs F) (hbig : xs.length ≤ 4294967295) (hH : HOk hp w)
    (hB : ∀ hb, hp = some hb → (m < hb ∨ hb < B) ∧ ∀ y o, F y o → y ≠ hb) :
    CallK Try.prog 59 #[ptr m, itV q, hV hp] w fun v w' => v = gotG (at? O (rkI ord) (rkI ord q) xs) ∧ Ext (Go.Proofs.Ytbnnkcofnmipoaa.hF hp) w w' ∧ HOk hp w' := by
  refine calls_of_W [.cell 6 33, .tmp 7] Try.func59 rfl Try.ntmps59 Try.results59 (by simp) fun e he => ?_
  have e0 : e 0 = ptr m := he 0 _ rfl
  have e1 : e 1 = itV q := he 1 _ rfl
  have e2 : e 2 = hV hp := he 2 _ rfl
  clear he
  have hhl : ∀ hb, hp = some hb → hb < w.heap.size := fun hb h => wok_lt (hH hb h).wok
  refine W_sq fun K hK => (W_text [false, false, true] (by kernel_rfl) ?_); simp only [↓List.toList_toArray, ↓rgd, ↓rgf, ↓reduceIte, Nat.reduceEqDiff, rg, ow_59]
  refine do_box (by simp only [evt]; exact e1) fun w1 n1 => ⟨trivial, ?_⟩
  simp only [↓List.toList_toArray, ↓rgd, ↓rgf, ↓reduceIte, Nat.reduceEqDiff, rg, ow_59]
  refine do_alloc z_it fun w2 n2 => ⟨trivial, ?_⟩
  simp only [↓List.toList_toArray, ↓rgd, ↓rgf, ↓reduceIte, Nat.reduceEqDiff, rg, ow_59]
  refine hK _ _ ?_; clear hK K
  have s1 := n1.size
  have s2 := n2.size
  have X0 := n1.ext.tr n2.ext
  have ix := iX_at (n2.ext.row (show Row w1 w.heap.size 0 (E.cel q) from n1.row) fun _ _ h => h)
  refine W_sq fun K hK => (W_text [true, true, true, false, true, true, false, true] (by kernel_rfl) ?_); simp only [↓List.toList_toArray, ↓rgd, ↓rgf, ↓reduceIte, Nat.reduceEqDiff, rg, ow_59, e0, e2, ix]
  refine do_call fn_93 (by simp only [evt, evc, upd_eq, Nat.reduceEqDiff, ↓reduceIte, maT, maC, maN, isnN, isnS] <;> rfl) (getHint_any B m d ord hd hd' iso xs F q hp false w2 (hM.ext X0) hbig (hH.ext0 X0) hB) ?_
  rintro _ w3 ⟨rfl, X3, HH⟩
  refine ⟨trivial, ?_⟩
  simp only [↓List.toList_toArray, ↓rgd, ↓rgf, ↓reduceIte, Nat.reduceEqDiff, rg, ow_59, gotG_eq]
  refine do_store (by simp only [evt, evc, upd_eq, Nat.reduceEqDiff, ↓reduceIte, ntT, ntF] <;> rfl) (by simp only [evt, evc, upd_eq, Nat.reduceEqDiff, ↓reduceIte, ntT, ntF] <;> rfl) sz_33 (itV_len _) (X3.wok n2.wok) (by decide) (itV_oc _) fun w4 x4 r4 s4 => ⟨trivial, ?_⟩
  simp only [↓List.toList_toArray, ↓rgd, ↓rgf, ↓reduceIte, Nat.reduceEqDiff, rg, ow_59]
  refine hK _ _ ?_; clear hK K
  refine W_ret (endQ_ct (by simp only [upd_eq, Nat.reduceEqDiff, ↓reduceIte] <;> rfl) (by simp only [upd_eq, Nat.reduceEqDiff, ↓reduceIte] <;> rfl) ld_33 (iX_at (show Row w4 w1.heap.size 0 (E.cel ((at? O (rkI ord) (rkI ord q) xs).getD zIt)) from r4)) ⟨rfl, ?_, HH.ext x4 fun hb h o g => ?_⟩)
  · refine (X0.trans X3 (fun _ _ g => g.elim) fun _ _ _ g => g).trans x4 (fun _ _ g => g) fun y o hy g => ?_
    simp only [rng] at g
    omega
  · have := hhl hb h
    simp only [rng] at g
    omega
theorem Outs.extB {B : Nat} {v : Value} {l : List (It × Bool)} {w w' : World} {G : Nat → Nat → Prop} (h : Outs B v l w) (x : Ext G w w') (hG : ∀ y o, G y o → y < B) : Outs B v l w' :=
  ⟨h.sl.ext x fun b o cap hv j _ g => by have := h.si _ _ _ _ hv; have := hG _ _ g; omega, h.si⟩
set_option maxHeartbeats 400000 in
set_option maxRecDepth 8000 in
theorem getP_any (B m d : Nat) (ord : List Int) (hd : 2 ≤ d) (hd' : d ≤ 128) (iso : Int) (xs : List It) (F : Nat → Nat → Prop) (q : It) (w : World) (hM : TreeAt B ord w m d iso xs F) (hbig : xs.length ≤ 4294967295) :
    CallK Try.prog 58 #[ptr m, itV q] w fun v w' => v = gotG (at? O (rkI ord) (rkI ord q) xs) ∧ Ext noF w w' := by
  refine calls_of_W [.cell 4 33, .tmp 5] Try.func58 rfl Try.ntmps58 Try.results58 (by simp) fun e he => ?_
  have e0 : e 0 = ptr m := he 0 _ rfl
  have e1 : e 1 = itV q := he 1 _ rfl
  clear he
  refine W_sq fun K hK => (W_text [false, false, true] (by kernel_rfl) ?_); simp only [↓List.toList_toArray, ↓rgd, ↓rgf, ↓reduceIte, Nat.reduceEqDiff, rg, ow_58]
  refine do_box (by simp only [evt]; exact e1) fun w1 n1 => ⟨trivial, ?_⟩
  simp only [↓List.toList_toArray, ↓rgd, ↓rgf, ↓reduceIte, Nat.reduceEqDiff, rg, ow_58]
  refine do_alloc z_it fun w2 n2 => ⟨trivial, ?_⟩
  simp only [↓List.toList_toArray, ↓rgd, ↓rgf, ↓reduceIte, Nat.reduceEqDiff, rg, ow_58]
  refine hK _ _ ?_; clear hK K
  have s1 := n1.size
  have s2 := n2.size
  have X0 := n1.ext.tr n2.ext
  have ix := iX_at (n2.ext.row (show Row w1 w.heap.size 0 (E.cel q) from n1.row) fun _ _ h => h)
  refine W_sq fun K hK => (W_text [true, true, false, true, true, false, true] (by kernel_rfl) ?_); simp only [↓List.toList_toArray, ↓rgd, ↓rgf, ↓reduceIte, Nat.reduceEqDiff, rg, ow_58, e0, ix]
  refine do_call fn_93 (by simp only [evt, evc, upd_eq, Nat.reduceEqDiff, ↓reduceIte, maT, maC, maN, isnN, isnS] <;> rfl) (getHint_any B m d ord hd hd' iso xs F q none false w2 (hM.ext X0) hbig (HOk.none _) (fun _ h => by cases h)) ?_
  rintro _ w3 ⟨rfl, X3, -⟩
  have X3 : Ext noF w2 w3 := X3.mono fun y o _ g => by cases g
  refine ⟨trivial, ?_⟩
  simp only [↓List.toList_toArray, ↓rgd, ↓rgf, ↓reduceIte, Nat.reduceEqDiff, rg, ow_58, gotG_eq]
  refine do_store (by simp only [evt, evc, upd_eq, Nat.reduceEqDiff, ↓reduceIte, ntT, ntF] <;> rfl) (by simp only [evt, evc, upd_eq, Nat.reduceEqDiff, ↓reduceIte, ntT, ntF] <;> rfl) sz_33 (itV_len _) (X3.wok n2.wok) (by decide) (itV_oc _) fun w4 x4 r4 s4 => ⟨trivial, ?_⟩
  simp only [↓List.toList_toArray, ↓rgd, ↓rgf, ↓reduceIte, Nat.reduceEqDiff, rg, ow_58]
  refine hK _ _ ?_; clear hK K
  exact W_ret (endQ_ct (by simp only [upd_eq, Nat.reduceEqDiff, ↓reduceIte] <;> rfl) (by simp only [upd_eq, Nat.reduceEqDiff, ↓reduceIte] <;> rfl) ld_33 (iX_at (show Row w4 w1.heap.size 0 (E.cel ((at? O (rkI ord) (rkI ord q) xs).getD zIt)) from r4)) ⟨rfl, noF_of (X0.tr X3) x4 fun y o hy g => by simp only [rng] at g; omega⟩)
/-- A tree that is being changed with a hint, and the answers that are kept. -/
structure FillH (B A m d : Nat) (ord : List Int) (hb : Nat) (v : Value) (xs : List It) (rs : List (It × Bool)) (w : World) : Prop where
  tr : ∃ F, TreeAt A ord w m d 1 xs F ∧ (∀ y o, F y o → B ≤ y) ∧ offB v F ∧ ∀ o, ¬ F hb o
  out : OutE Ef B v rs w
  off : ∀ b o n c, v = .slice (some ⟨b, o, none⟩) n c → b ≠ hb
  hint : HintAt w hb
  lt : m < B ∧ B ≤ w.heap.size ∧ m < hb
theorem FillH.hlt {B A m d : Nat} {ord : List Int} {hb : Nat} {v : Value} {xs : List It} {rs : List (It × Bool)} {w : World} (h : FillH B A m d ord hb v xs rs w) : hb < w.heap.size := wok_lt h.hint.wok
theorem FillH.ext {B A m d : Nat} {ord : List Int} {hb : Nat} {v : Value} {xs : List It} {rs : List (It × Bool)} {w w' : World} (h : FillH B A m d ord hb v xs rs w) (x : Ext noF w w') : FillH B A m d ord hb v xs rs w' := by
  obtain ⟨F, h1, h2, h3, h4⟩ := h.tr
  exact ⟨⟨F, h1.ext x, h2, h3, h4⟩, h.out.ext x, h.off, h.hint.ext x fun _ g => g, h.lt.1, Nat.le_trans h.lt.2.1 x.size, h.lt.2.2⟩
theorem FillH.step {B A m d : Nat} {ord : List Int} {hb : Nat} {v : Value} {xs ys : List It} {rs : List (It × Bool)} {w w' : World} {F F' : Nat → Nat → Prop} (h : FillH B A m d ord hb v xs rs w) (hFB : ∀ y o, F y o → B ≤ y) (ho : offB v F) (hhF : ∀ o, ¬ F hb o)
    (X : Ext (fun y o => mapF m F y o ∨ Go.Proofs.Ytbnnkcofnmipoaa.hF (some hb) y o) w w') (hM' : TreeAt A ord w' m d 1 ys F') (hF' : ∀ y o, F' y o → F y o ∨ w.heap.size ≤ y) (hH : HintAt w' hb) : FillH B A m d ord hb v ys rs w' ∧ Ext (fillF B m (some hb)) w w' := by
  obtain ⟨l1, l2, l3⟩ := h.lt
  have hl := h.hlt
  refine ⟨⟨⟨F', hM', fun y o g => (hF' y o g).elim (hFB y o) fun g => by omega, fun b o n c hv p g => ?_, fun o g => (hF' hb o g).elim (hhF o) fun g => by omega⟩, ⟨h.out.sl.ext X fun b o c hv i hi g => ?_, h.out.si⟩, h.off, hH, l1, Nat.le_trans l2 X.size, l3⟩, X.mono fun y o _ g => ?_⟩
  · rcases hF' b p g with g | g
    · exact ho b o n c hv p g
    · have := h.out.sl.lt hv; omega
  · have := h.out.si _ _ _ _ hv
    rcases g with (g | g) | g
    · exact ho _ _ _ _ hv _ g
    · omega
    · exact h.off _ _ _ _ hv (Option.some.inj g).symm
  · rcases g with (g | g) | g
    · exact .inr (.inr (hFB y o g))
    · exact .inl g.1
    · exact .inr (.inl g)
theorem FillH.app {B A m d : Nat} {ord : List Int} {hb : Nat} {v v' : Value} {xs : List It} {rs : List (It × Bool)} {x : It × Bool} {w w' : World} (h : FillH B A m d ord hb v xs rs w) (a : AppRes w 3 v rs.length 1 (flat Ef rs) (Ef.cel x) v' w') :
    FillH B A m d ord hb v' xs (rs ++ [x]) w' ∧ Ext (fillF B m (some hb)) w w' := by
  obtain ⟨F, h1, h2, h3, h4⟩ := h.tr
  obtain ⟨l1, l2, l3⟩ := h.lt
  have hl := h.hlt
  have hb3 : offB v (fun y o => F y o ∨ y = hb) := fun b o n c hv p g => g.elim (h3 b o n c hv p) (h.off b o n c hv)
  obtain ⟨g1, g2⟩ := app_off a h.out.si hb3 (fun y o g => g.elim (h1.lt y o) fun g => by omega) l2
  obtain ⟨g3, _⟩ := h.out.app a l2
  exact ⟨⟨⟨F, h1.extG g2 (fun y o hf hg => hg.2 o (.inl hf)) (fun y o hg => by omega), h2, (fun b o n c hv p g => g1 b o n c hv p (.inl g)), h4⟩, g3, fun b o n c hv => fun e => g1 b o n c hv 0 (.inr e), h.hint.ext g2 fun o g => g.2 o (.inr rfl), l1, Nat.le_trans l2 g2.size, l3⟩, g2.mono fun y o _ g => .inr (.inr g.1)⟩
theorem FillH.start {B A m d : Nat} {ord : List Int} {hb : Nat} {xs : List It} {F : Nat → Nat → Prop} {w : World} (hM : TreeAt A ord w m d 1 xs F) (hF : ∀ y o, F y o → B ≤ y) (hhF : ∀ o, ¬ F hb o) (hH : HintAt w hb) (l : m < B ∧ B ≤ w.heap.size ∧ m < hb) :
    FillH B A m d ord hb (.slice none 0 0) xs [] w := ⟨⟨F, hM, hF, offB_nil _, hhF⟩, OutE.nil _ _ _, (fun b o n c h => by cases h), hH, l⟩
end Go.Proofs.Ytbnnkcofnmipoaa
/-
  Settings, deletions and searches with a hint. No condition.
-/
set_option linter.unusedSimpArgs false
set_option linter.unusedVariables false
namespace Go.Proofs.Ytbnnkcofnmipoaa
open Go Go.Proofs
theorem tuple_lt {sz n : Nat} {w : World} {v : Value} {l : List Value} (h : SlV w sz v n l) {ka : Option Addr} {kc : Nat} (hv : v = .slice ka n kc) : ∀ (B : Nat), w.heap.size ≤ B → ∀ b o, ka = some ⟨b, o, none⟩ → b < B := fun B hB b o ha => by
  have := h.lt (hv.trans (by rw [ha])); omega
theorem gempty : treeG [] [] = [] := rfl
set_option maxHeartbeats 1600000 in
set_option maxRecDepth 8000 in
theorem impl_gset (d : Nat) (hd : DOk d) (ord : List Int) (sv : Value) (nl : Bool) (ks : List It) (kv : Value) (w : World) (hs : SlInt w sv ord) (hsb : ord.length ≤ 2147483647) (hks : SlI w kv ks) (hkb : ks.length ≤ 2147483647) :
    CallK Try.prog 26 #[mkV sv d nl, kv] w fun v w' => ∃ v1 v2, v = .tuple #[v1, v2] ∧ SlV w' 3 v1 (reps ord ks).length (flat Ef (reps ord ks)) ∧ SlI w' v2 (treeG ord ks) ∧ Ext noF w w' := by
  refine calls_of_W [.tmp 4, .tmp 5] Try.func26 rfl Try.ntmps26 Try.results26 (by simp) fun e he => ?_
  have e0 : e 0 = mkV sv d nl := he 0 _ rfl
  have e1 : e 1 = kv := he 1 _ rfl
  clear he
  obtain ⟨ka, kc, hkv⟩ := hks.shape
  rw [hkv] at e1
  obtain ⟨hd2, hd3⟩ := hd.of
  refine W_sq fun K hK => (W_text [false, true, true] (by kernel_rfl) ?_); simp only [↓List.toList_toArray, ↓rgd, ↓rgf, ↓reduceIte, Nat.reduceEqDiff, rg, ow_26]
  refine do_box (by simp only [evt]; exact e0) fun w1 n1 => ⟨trivial, ?_⟩
  simp only [↓List.toList_toArray, ↓rgd, ↓rgf, ↓reduceIte, Nat.reduceEqDiff, rg, ow_26]
  refine hK _ _ ?_; clear hK K
  have rm := mk_at (show Row w1 w.heap.size 0 (mkL sv d nl) from n1.row)
  refine W_sq fun K hK => (W_text [true, false, true] (by kernel_rfl) ?_); simp only [↓List.toList_toArray, ↓rgd, ↓rgf, ↓reduceIte, Nat.reduceEqDiff, rg, ow_26, rm]
  refine do_call fn_43 (by simp only [evt, evc, upd_eq, Nat.reduceEqDiff, ↓reduceIte, maT, maC, maN, isnN, isnS] <;> rfl) (growG_any d hd ord sv nl [] (.slice none 0 0) w1 (SlV.ext0 hs n1.ext) hsb ⟨rfl, .inl ⟨rfl, rfl⟩⟩ (by simp)) ?_
  rintro _ w0 ⟨X2, A, m, F, rfl, hM0, hm, hFs⟩
  have X02 := n1.ext.tr X2
  have s1 := n1.size
  have s02 := X02.size
  refine ⟨trivial, ?_⟩
  simp only [↓List.toList_toArray, ↓rgd, ↓rgf, ↓reduceIte, Nat.reduceEqDiff, rg, ow_26]
  refine hK _ _ ?_; clear hK K
  refine W_sq fun K hK => (W_text [true] (by kernel_rfl) ?_); simp only [↓List.toList_toArray, ↓rgd, ↓rgf, ↓reduceIte, Nat.reduceEqDiff, rg, ow_26]
  refine hK _ _ ?_; clear hK K
  have hk0 : SlI w0 kv ks := SlV.ext0 hks X02
  have hml := hM0.mlt
  obtain ⟨B, hB⟩ : ∃ B, B = m + 1 := ⟨_, rfl⟩
  have hfill : Fill B A m (degOf d) ord none (.slice none 0 0) (treeG ord (ks.take 0)) (reps ord (ks.take 0)) w0 := Fill.start hM0 (fun y o g => by have := hM0.above y o g; omega) (HOk.none _) ⟨by omega, by omega, fun _ h => by cases h⟩
  have hkl : ∀ b o n c, kv = .slice (some ⟨b, o, none⟩) n c → b < w.heap.size := fun b o n c h => SlV.lt hks h
  clear hM0 X2 n1

  refine W_seq (W_seq ?_)
  refine W_rg fun K hK => (W_text [true, true, true] (by kernel_rfl) ?_); simp only [↓List.toList_toArray, ↓rgd, ↓rgf, ↓reduceIte, Nat.reduceEqDiff, rg, ow_26, e1]
  refine hK _ _ ?_; clear hK K
  show W _ _ _ _ _ _
  refine W_block (W_loop (fun mm e w' => ∃ k : Nat, mm = ks.length - k ∧ k ≤ ks.length ∧ e 12 = .slice ka ks.length kc ∧ e 13 = .int .i64 ks.length ∧ e 14 = .int .i64 k ∧ e 6 = ptr m ∧ Fill B A m (degOf d) ord none (e 7) (treeG ord (ks.take k)) (reps ord (ks.take k)) w' ∧ Ext (fillF B m none) w0 w')
    ks.length ⟨0, by simp, by simp, by simp only [upd_eq, Nat.reduceEqDiff, ↓reduceIte], by simp only [upd_eq, Nat.reduceEqDiff, ↓reduceIte], by simp only [upd_eq, Nat.reduceEqDiff, ↓reduceIte]; rfl, by simp only [upd_eq, Nat.reduceEqDiff, ↓reduceIte], by simp only [upd_eq, Nat.reduceEqDiff, ↓reduceIte]; exact hfill, Ext.refl _ _⟩ ?_)
  clear hfill e0 e1 e
  rintro mm e w' ⟨k, rfl, hk, eS, eL, eI, eM, hfl, X⟩
  by_cases hlt : k < ks.length
  · have ht := lt_tt k ks.length hlt
    refine W_sq fun K hK => (W_text [true] (by kernel_rfl) ?_); simp only [↓List.toList_toArray, ↓rgd, ↓rgf, ↓reduceIte, Nat.reduceEqDiff, rg, ow_26, eL, eI, ht]
    refine hK _ _ ?_; clear hK K
    refine W_seq (W_true (by simp only [evt, evc, upd_eq, Nat.reduceEqDiff, ↓reduceIte, ntT, ntF] <;> rfl) (W_skip ?_))
    show W _ _ _ _ _ _
    obtain ⟨x, hx⟩ : ∃ x, ks[k]? = some x := ⟨_, List.getElem?_eq_getElem hlt⟩
    obtain ⟨ib, io, hka, row⟩ := hk0.at hkv hlt
    have hibl := hk0.lt (hkv.trans (by rw [hka]))
    have ixx := it_at (X.row row (fun _ _ h => by have := hkl _ _ _ _ (hkv.trans (by rw [hka])); rcases h with h | h | h <;> first | omega | cases h)) hx
    rw [hka] at eS
    refine W_seq (W_block ?_)
    refine W_sq fun K hK => (W_text [true, true, false, false] (by kernel_rfl) ?_); simp only [↓List.toList_toArray, ↓rgd, ↓rgf, ↓reduceIte, Nat.reduceEqDiff, rg, ow_26, eS, eI, hlt, ixx]
    refine do_alloc z_it fun w2 n2 => ⟨trivial, ?_⟩
    simp only [↓List.toList_toArray, ↓rgd, ↓rgf, ↓reduceIte, Nat.reduceEqDiff, rg, ow_26]
    refine do_store (v := itV x) (by simp only [evt, evc, upd_eq, Nat.reduceEqDiff, ↓reduceIte, ntT, ntF] <;> rfl) (by simp only [evt, evc, upd_eq, Nat.reduceEqDiff, ↓reduceIte, ntT, ntF] <;> rfl) sz_33 rfl n2.wok (by decide) (itV_oc x) fun w3 x3 r3 s3 => ⟨trivial, ?_⟩
    simp only [↓List.toList_toArray, ↓rgd, ↓rgf, ↓reduceIte, Nat.reduceEqDiff, rg, ow_26]
    refine hK _ _ ?_; clear hK K
    have s2 := n2.size
    have X3 : Ext noF w' w3 := noF_of n2.ext x3 fun y o hy h => by simp only [rng] at h; omega
    have s3 := X3.size
    have ix3 := iX_at (show Row w3 w'.heap.size 0 (E.cel x) from r3)
    rw [← hka] at eS
    have sX := X.size
    obtain ⟨l1, l2, l3⟩ := hfl.lt
    obtain ⟨F0, hM0, hF0, ho0⟩ := hfl.tr
    have hfl3 := hfl.ext X3
    have htl := treeG_len ord (ks.take k)
    have htk : (ks.take k).length ≤ k := by rw [List.length_take]; omega
    refine W_rg fun K hK => (W_text [true, true, true, false, true, true, false, false, false, true] (by kernel_rfl) ?_); simp only [↓List.toList_toArray, ↓rgd, ↓rgf, ↓reduceIte, Nat.reduceEqDiff, rg, ow_26, eM, ix3]
    refine do_call fn_55 (by simp only [evt, evc, upd_eq, Nat.reduceEqDiff, ↓reduceIte, maT, maC, maN, isnN, isnS] <;> rfl) (setG_any A m (degOf d) 1 ord x hd2 hd3 _ F0 w3 (hM0.ext X3) (by omega)) ?_
    rintro _ w4 ⟨rfl, x4, F', hM4, hF'⟩
    refine ⟨trivial, ?_⟩
    simp only [↓List.toList_toArray, ↓rgd, ↓rgf, ↓reduceIte, Nat.reduceEqDiff, rg, ow_26]
    obtain ⟨hfl4, X4⟩ := hfl3.step hF0 ho0 (x4.mono fun _ _ _ g => .inl g) hM4 hF' (HOk.none _)
    refine do_call fn_44 (by simp only [evt, evc, upd_eq, Nat.reduceEqDiff, ↓reduceIte, maT, maC, maN, isnN, isnS] <;> rfl) (found_any _ _ w4) ?_
    rintro _ w5 ⟨rfl, X5⟩
    refine ⟨trivial, ?_⟩
    simp only [↓List.toList_toArray, ↓rgd, ↓rgf, ↓reduceIte, Nat.reduceEqDiff, rg, ow_26]
    refine do_bsl rfl (bs_fo1 _) fun w6 n6 => ⟨trivial, ?_⟩
    simp only [↓List.toList_toArray, ↓rgd, ↓rgf, ↓reduceIte, Nat.reduceEqDiff, rg, ow_26]
    have X6 := X5.tr n6.ext
    have s6 := X6.size
    have hrl : (reps ord (ks.take k)).length = k := by rw [reps_length, List.length_take]; omega
    rw [foP_at] at n6
    have hx6 : SlV w6 3 (.slice (some ⟨w5.heap.size, 0, none⟩) 1 1) 1 (Ef.cel (foO (at? O (rkI ord) (rkI ord x) (treeG ord (ks.take k))))) := ⟨rfl, .inr ⟨_, 0, 1, rfl, Nat.le_refl _, n6.row, n6.wok.R (Nat.le_refl _)⟩⟩
    have hfl6 := hfl4.ext X6
    refine do_append (by simp only [evt, evc, upd_eq, Nat.reduceEqDiff, ↓reduceIte, ntT, ntF] <;> rfl) (by simp only [evt, evc, upd_eq, Nat.reduceEqDiff, ↓reduceIte, ntT, ntF] <;> rfl) el_fo rfl ni_fo hfl6.out.sl hx6 (by omega) (by decide) (Ef.one _) fun v7 w7 a7 => ?_
    obtain ⟨hfl7, X7⟩ := hfl6.app a7
    refine ⟨trivial, ?_⟩
    simp only [↓List.toList_toArray, ↓rgd, ↓rgf, ↓reduceIte, Nat.reduceEqDiff, rg, ow_26]
    refine hK _ _ ?_; clear hK K
    show W _ _ _ _ _ _
    have q1 := wadd1 k (by omega)
    refine W_rg fun K hK => (W_text [true, true] (by kernel_rfl) ?_); simp only [↓List.toList_toArray, ↓rgd, ↓rgf, ↓reduceIte, Nat.reduceEqDiff, rg, ow_26, eI, q1]
    refine hK _ _ ?_; clear hK K
    refine ⟨_, ?_, k + 1, rfl, hlt, by simp only [upd_eq, Nat.reduceEqDiff, ↓reduceIte]; exact eS, by simp only [upd_eq, Nat.reduceEqDiff, ↓reduceIte]; exact eL, by simp only [upd_eq, Nat.reduceEqDiff, ↓reduceIte], by simp only [upd_eq, Nat.reduceEqDiff, ↓reduceIte]; exact eM, by simp only [upd_eq, Nat.reduceEqDiff, ↓reduceIte]; rw [reps_succ hx, treeG_succ ord ks k x hx]; exact hfl7, (((X.tr (X3.mono fun _ _ _ h => h.elim)).tr X4).tr (X6.mono fun _ _ _ h => h.elim)).tr X7⟩
    omega
  · obtain rfl : k = ks.length := by omega
    have ht := lt_ff ks.length ks.length (by omega)
    refine W_sq fun K hK => (W_text [true] (by kernel_rfl) ?_); simp only [↓List.toList_toArray, ↓rgd, ↓rgf, ↓reduceIte, Nat.reduceEqDiff, rg, ow_26, eL, eI, ht]
    refine hK _ _ ?_; clear hK K
    refine W_seq (W_false (by simp only [evt, evc, upd_eq, Nat.reduceEqDiff, ↓reduceIte, ntT, ntF] <;> rfl) (W_exit ?_))
    simp only [andThen_exit, inBlk_exit, andThen_normal, ↓reduceIte]
    rw [List.take_length] at hfl
    obtain ⟨F, hM, hFB, ho⟩ := hfl.tr
    obtain ⟨l1, l2, l3⟩ := hfl.lt
    have htl := treeG_len ord ks
    refine W_sq fun K hK => (W_text [true, true, false, true, true] (by kernel_rfl) ?_); simp only [↓List.toList_toArray, ↓rgd, ↓rgf, ↓reduceIte, Nat.reduceEqDiff, rg, ow_26, eM]
    refine do_call fn_46 (by simp only [evt, evc, upd_eq, Nat.reduceEqDiff, ↓reduceIte, maT, maC, maN, isnN, isnS] <;> rfl) (itemsG_any A m (degOf d) ord 1 (treeG ord ks) F w' hM (by omega)) ?_
    rintro v8 w8 ⟨hO, X8⟩
    refine ⟨trivial, ?_⟩
    simp only [↓List.toList_toArray, ↓rgd, ↓rgf, ↓reduceIte, Nat.reduceEqDiff, rg, ow_26]
    refine hK _ _ ?_; clear hK K
    refine W_ret (endQ_2 (by simp only [upd_eq, Nat.reduceEqDiff, ↓reduceIte] <;> rfl) (by simp only [upd_eq, Nat.reduceEqDiff, ↓reduceIte] <;> rfl) ⟨_, _, rfl, (hfl.out.ext X8).sl, hO.sl, ?_⟩)
    refine (noF_of X02 X fun y o hy h => ?_).tr X8
    rcases h with h | h | h <;> first | omega | cases h
set_option maxHeartbeats 1600000 in
set_option maxRecDepth 8000 in
theorem impl_gsetH (d : Nat) (hd : DOk d) (ord : List Int) (sv : Value) (nl : Bool) (ks : List It) (kv : Value) (w : World) (hs : SlInt w sv ord) (hsb : ord.length ≤ 2147483647) (hks : SlI w kv ks) (hkb : ks.length ≤ 2147483647) :
    CallK Try.prog 27 #[mkV sv d nl, kv] w fun v w' => ∃ v1 v2, v = .tuple #[v1, v2] ∧ SlV w' 3 v1 (reps ord ks).length (flat Ef (reps ord ks)) ∧ SlI w' v2 (treeG ord ks) ∧ Ext noF w w' := by
  refine calls_of_W [.tmp 4, .tmp 5] Try.func27 rfl Try.ntmps27 Try.results27 (by simp) fun e he => ?_
  have e0 : e 0 = mkV sv d nl := he 0 _ rfl
  have e1 : e 1 = kv := he 1 _ rfl
  clear he
  obtain ⟨ka, kc, hkv⟩ := hks.shape
  rw [hkv] at e1
  obtain ⟨hd2, hd3⟩ := hd.of
  refine W_sq fun K hK => (W_text [false, true, true] (by kernel_rfl) ?_); simp only [↓List.toList_toArray, ↓rgd, ↓rgf, ↓reduceIte, Nat.reduceEqDiff, rg, ow_27]
  refine do_box (by simp only [evt]; exact e0) fun w1 n1 => ⟨trivial, ?_⟩
  simp only [↓List.toList_toArray, ↓rgd, ↓rgf, ↓reduceIte, Nat.reduceEqDiff, rg, ow_27]
  refine hK _ _ ?_; clear hK K
  have rm := mk_at (show Row w1 w.heap.size 0 (mkL sv d nl) from n1.row)
  refine W_sq fun K hK => (W_text [true, false, true] (by kernel_rfl) ?_); simp only [↓List.toList_toArray, ↓rgd, ↓rgf, ↓reduceIte, Nat.reduceEqDiff, rg, ow_27, rm]
  refine do_call fn_43 (by simp only [evt, evc, upd_eq, Nat.reduceEqDiff, ↓reduceIte, maT, maC, maN, isnN, isnS] <;> rfl) (growG_any d hd ord sv nl [] (.slice none 0 0) w1 (SlV.ext0 hs n1.ext) hsb ⟨rfl, .inl ⟨rfl, rfl⟩⟩ (by simp)) ?_
  rintro _ w9 ⟨X2, A, m, F, rfl, hM9, hm, hFs⟩
  have X29 := n1.ext.tr X2
  have s1 := n1.size
  have s29 := X29.size
  refine ⟨trivial, ?_⟩
  simp only [↓List.toList_toArray, ↓rgd, ↓rgf, ↓reduceIte, Nat.reduceEqDiff, rg, ow_27]
  refine hK _ _ ?_; clear hK K
  refine W_sq fun K hK => (W_text [false] (by kernel_rfl) ?_); simp only [↓List.toList_toArray, ↓rgd, ↓rgf, ↓reduceIte, Nat.reduceEqDiff, rg, ow_27]
  refine do_alloc z_hint fun w0 n0 => ⟨trivial, ?_⟩
  simp only [↓List.toList_toArray, ↓rgd, ↓rgf, ↓reduceIte, Nat.reduceEqDiff, rg, ow_27]
  refine hK _ _ ?_; clear hK K
  refine W_sq fun K hK => (W_text [true] (by kernel_rfl) ?_); simp only [↓List.toList_toArray, ↓rgd, ↓rgf, ↓reduceIte, Nat.reduceEqDiff, rg, ow_27]
  refine hK _ _ ?_; clear hK K
  have hH0 := hint_new n0
  have s0 := n0.size
  obtain ⟨hb, hhb⟩ : ∃ hb, hb = w9.heap.size := ⟨_, rfl⟩
  rw [← hhb] at hH0 ⊢
  have hM0 := hM9.ext n0.ext
  have X02 := X29.tr n0.ext
  have hk0 : SlI w0 kv ks := SlV.ext0 hks X02
  have hml := hM9.mlt
  have hlt9 := hM9.lt
  obtain ⟨B, hB⟩ : ∃ B, B = m + 1 := ⟨_, rfl⟩
  have hkl : ∀ b o n c, kv = .slice (some ⟨b, o, none⟩) n c → b < w.heap.size := fun b o n c h => SlV.lt hks h
  have hfill : FillH B A m (degOf d) ord hb (.slice none 0 0) (treeG ord (ks.take 0)) (reps ord (ks.take 0)) w0 := FillH.start hM0 (fun y o g => by have := hM0.above y o g; omega) (fun o g => by have := hlt9 _ _ g; omega) hH0 ⟨by omega, by omega, by omega⟩
  clear hM0 hM9 X2 n1 n0

  refine W_seq (W_seq ?_)
  refine W_rg fun K hK => (W_text [true, true, true] (by kernel_rfl) ?_); simp only [↓List.toList_toArray, ↓rgd, ↓rgf, ↓reduceIte, Nat.reduceEqDiff, rg, ow_27, e1]
  refine hK _ _ ?_; clear hK K
  show W _ _ _ _ _ _
  refine W_block (W_loop (fun mm e w' => ∃ k : Nat, mm = ks.length - k ∧ k ≤ ks.length ∧ e 13 = .slice ka ks.length kc ∧ e 14 = .int .i64 ks.length ∧ e 15 = .int .i64 k ∧ e 6 = ptr m ∧ e 7 = ptr hb ∧ FillH B A m (degOf d) ord hb (e 8) (treeG ord (ks.take k)) (reps ord (ks.take k)) w' ∧ Ext (fillF B m (some hb)) w0 w')
    ks.length ⟨0, by simp, by simp, by simp only [upd_eq, Nat.reduceEqDiff, ↓reduceIte], by simp only [upd_eq, Nat.reduceEqDiff, ↓reduceIte], by simp only [upd_eq, Nat.reduceEqDiff, ↓reduceIte]; rfl, by simp only [upd_eq, Nat.reduceEqDiff, ↓reduceIte], by simp only [upd_eq, Nat.reduceEqDiff, ↓reduceIte]; rfl, by simp only [upd_eq, Nat.reduceEqDiff, ↓reduceIte]; exact hfill, Ext.refl _ _⟩ ?_)
  clear hfill e0 e1 e
  rintro mm e w' ⟨k, rfl, hk, eS, eL, eI, eM, eH, hfl, X⟩
  by_cases hlt : k < ks.length
  · have ht := lt_tt k ks.length hlt
    refine W_sq fun K hK => (W_text [true] (by kernel_rfl) ?_); simp only [↓List.toList_toArray, ↓rgd, ↓rgf, ↓reduceIte, Nat.reduceEqDiff, rg, ow_27, eL, eI, ht]
    refine hK _ _ ?_; clear hK K
    refine W_seq (W_true (by simp only [evt, evc, upd_eq, Nat.reduceEqDiff, ↓reduceIte, ntT, ntF] <;> rfl) (W_skip ?_))
    show W _ _ _ _ _ _
    obtain ⟨x, hx⟩ : ∃ x, ks[k]? = some x := ⟨_, List.getElem?_eq_getElem hlt⟩
    obtain ⟨ib, io, hka, row⟩ := hk0.at hkv hlt
    have hibl := hk0.lt (hkv.trans (by rw [hka]))
    have ixx := it_at (X.row row (fun _ _ h => by have := hkl _ _ _ _ (hkv.trans (by rw [hka])); rcases h with h | h | h <;> first | omega | (cases h; omega))) hx
    rw [hka] at eS
    refine W_seq (W_block ?_)
    refine W_sq fun K hK => (W_text [true, true, false, false] (by kernel_rfl) ?_); simp only [↓List.toList_toArray, ↓rgd, ↓rgf, ↓reduceIte, Nat.reduceEqDiff, rg, ow_27, eS, eI, hlt, ixx]
    refine do_alloc z_it fun w2 n2 => ⟨trivial, ?_⟩
    simp only [↓List.toList_toArray, ↓rgd, ↓rgf, ↓reduceIte, Nat.reduceEqDiff, rg, ow_27]
    refine do_store (v := itV x) (by simp only [evt, evc, upd_eq, Nat.reduceEqDiff, ↓reduceIte, ntT, ntF] <;> rfl) (by simp only [evt, evc, upd_eq, Nat.reduceEqDiff, ↓reduceIte, ntT, ntF] <;> rfl) sz_33 rfl n2.wok (by decide) (itV_oc x) fun w3 x3 r3 s3 => ⟨trivial, ?_⟩
    simp only [↓List.toList_toArray, ↓rgd, ↓rgf, ↓reduceIte, Nat.reduceEqDiff, rg, ow_27]
    refine hK _ _ ?_; clear hK K
    have s2 := n2.size
    have X3 : Ext noF w' w3 := noF_of n2.ext x3 fun y o hy h => by simp only [rng] at h; omega
    have s3 := X3.size
    have ix3 := iX_at (show Row w3 w'.heap.size 0 (E.cel x) from r3)
    rw [← hka] at eS
    have sX := X.size
    obtain ⟨l1, l2, l3⟩ := hfl.lt
    obtain ⟨F0, hM0, hF0, ho0, hhF0⟩ := hfl.tr
    have hfl3 := hfl.ext X3
    have htl := treeG_len ord (ks.take k)
    have htk : (ks.take k).length ≤ k := by rw [List.length_take]; omega
    refine W_rg fun K hK => (W_text [true, true, true, false, true, true, false, false, false, true] (by kernel_rfl) ?_); simp only [↓List.toList_toArray, ↓rgd, ↓rgf, ↓reduceIte, Nat.reduceEqDiff, rg, ow_27, eM, eH, ix3]
    refine do_call fn_56 (by simp only [evt, evc, upd_eq, Nat.reduceEqDiff, ↓reduceIte, maT, maC, maN, isnN, isnS, eH, hV_some] <;> rfl) (setHint_any hb A m (degOf d) 1 ord x hd2 hd3 _ F0 w3 (hM0.ext X3) (by omega) (hfl.hint.ext X3 fun _ g => g) hhF0 (by omega)) ?_
    rintro _ w4 ⟨rfl, x4, H4, F', hM4, hF'⟩
    refine ⟨trivial, ?_⟩
    simp only [↓List.toList_toArray, ↓rgd, ↓rgf, ↓reduceIte, Nat.reduceEqDiff, rg, ow_27]
    obtain ⟨hfl4, X4⟩ := hfl3.step hF0 ho0 hhF0 x4 hM4 hF' (H4)
    refine do_call fn_44 (by simp only [evt, evc, upd_eq, Nat.reduceEqDiff, ↓reduceIte, maT, maC, maN, isnN, isnS] <;> rfl) (found_any _ _ w4) ?_
    rintro _ w5 ⟨rfl, X5⟩
    refine ⟨trivial, ?_⟩
    simp only [↓List.toList_toArray, ↓rgd, ↓rgf, ↓reduceIte, Nat.reduceEqDiff, rg, ow_27]
    refine do_bsl rfl (bs_fo1 _) fun w6 n6 => ⟨trivial, ?_⟩
    simp only [↓List.toList_toArray, ↓rgd, ↓rgf, ↓reduceIte, Nat.reduceEqDiff, rg, ow_27]
    have X6 := X5.tr n6.ext
    have s6 := X6.size
    have hrl : (reps ord (ks.take k)).length = k := by rw [reps_length, List.length_take]; omega
    rw [foP_at] at n6
    have hx6 : SlV w6 3 (.slice (some ⟨w5.heap.size, 0, none⟩) 1 1) 1 (Ef.cel (foO (at? O (rkI ord) (rkI ord x) (treeG ord (ks.take k))))) := ⟨rfl, .inr ⟨_, 0, 1, rfl, Nat.le_refl _, n6.row, n6.wok.R (Nat.le_refl _)⟩⟩
    have hfl6 := hfl4.ext X6
    refine do_append (by simp only [evt, evc, upd_eq, Nat.reduceEqDiff, ↓reduceIte, ntT, ntF] <;> rfl) (by simp only [evt, evc, upd_eq, Nat.reduceEqDiff, ↓reduceIte, ntT, ntF] <;> rfl) el_fo rfl ni_fo hfl6.out.sl hx6 (by omega) (by decide) (Ef.one _) fun v7 w7 a7 => ?_
    obtain ⟨hfl7, X7⟩ := hfl6.app a7
    refine ⟨trivial, ?_⟩
    simp only [↓List.toList_toArray, ↓rgd, ↓rgf, ↓reduceIte, Nat.reduceEqDiff, rg, ow_27]
    refine hK _ _ ?_; clear hK K
    show W _ _ _ _ _ _
    have q1 := wadd1 k (by omega)
    refine W_rg fun K hK => (W_text [true, true] (by kernel_rfl) ?_); simp only [↓List.toList_toArray, ↓rgd, ↓rgf, ↓reduceIte, Nat.reduceEqDiff, rg, ow_27, eI, q1]
    refine hK _ _ ?_; clear hK K
    refine ⟨_, ?_, k + 1, rfl, hlt, by simp only [upd_eq, Nat.reduceEqDiff, ↓reduceIte]; exact eS, by simp only [upd_eq, Nat.reduceEqDiff, ↓reduceIte]; exact eL, by simp only [upd_eq, Nat.reduceEqDiff, ↓reduceIte], by simp only [upd_eq, Nat.reduceEqDiff, ↓reduceIte]; exact eM, by simp only [upd_eq, Nat.reduceEqDiff, ↓reduceIte]; exact eH, by simp only [upd_eq, Nat.reduceEqDiff, ↓reduceIte]; rw [reps_succ hx, treeG_succ ord ks k x hx]; exact hfl7, (((X.tr (X3.mono fun _ _ _ h => h.elim)).tr X4).tr (X6.mono fun _ _ _ h => h.elim)).tr X7⟩
    omega
  · obtain rfl : k = ks.length := by omega
    have ht := lt_ff ks.length ks.length (by omega)
    refine W_sq fun K hK => (W_text [true] (by kernel_rfl) ?_); simp only [↓List.toList_toArray, ↓rgd, ↓rgf, ↓reduceIte, Nat.reduceEqDiff, rg, ow_27, eL, eI, ht]
    refine hK _ _ ?_; clear hK K
    refine W_seq (W_false (by simp only [evt, evc, upd_eq, Nat.reduceEqDiff, ↓reduceIte, ntT, ntF] <;> rfl) (W_exit ?_))
    simp only [andThen_exit, inBlk_exit, andThen_normal, ↓reduceIte]
    rw [List.take_length] at hfl
    obtain ⟨F, hM, hFB, ho, hhF⟩ := hfl.tr
    obtain ⟨l1, l2, l3⟩ := hfl.lt
    have htl := treeG_len ord ks
    refine W_sq fun K hK => (W_text [true, true, false, true, true] (by kernel_rfl) ?_); simp only [↓List.toList_toArray, ↓rgd, ↓rgf, ↓reduceIte, Nat.reduceEqDiff, rg, ow_27, eM]
    refine do_call fn_46 (by simp only [evt, evc, upd_eq, Nat.reduceEqDiff, ↓reduceIte, maT, maC, maN, isnN, isnS] <;> rfl) (itemsG_any A m (degOf d) ord 1 (treeG ord ks) F w' hM (by omega)) ?_
    rintro v8 w8 ⟨hO, X8⟩
    refine ⟨trivial, ?_⟩
    simp only [↓List.toList_toArray, ↓rgd, ↓rgf, ↓reduceIte, Nat.reduceEqDiff, rg, ow_27]
    refine hK _ _ ?_; clear hK K
    refine W_ret (endQ_2 (by simp only [upd_eq, Nat.reduceEqDiff, ↓reduceIte] <;> rfl) (by simp only [upd_eq, Nat.reduceEqDiff, ↓reduceIte] <;> rfl) ⟨_, _, rfl, (hfl.out.ext X8).sl, hO.sl, ?_⟩)
    refine (noF_of X02 X fun y o hy h => ?_).tr X8
    rcases h with h | h | h <;> first | omega | (cases h; omega)
set_option maxHeartbeats 1600000 in
set_option maxRecDepth 8000 in
theorem impl_gdeleteH (d : Nat) (hd : DOk d) (ord : List Int) (sv : Value) (nl : Bool) (l : List It) (lv : Value) (ks : List It) (kv : Value) (w : World) (hs : SlInt w sv ord) (hsb : ord.length ≤ 2147483647) (hl : SlI w lv l) (hlb : l.length ≤ 2147483647) (hks : SlI w kv ks) (hkb : ks.length ≤ 2147483647) :
    CallK Try.prog 28 #[mkV sv d nl, lv, kv] w fun v w' => ∃ v1 v2, v = .tuple #[v1, v2] ∧ SlV w' 3 v1 (dreps ord (treeG ord l) ks).length (flat Ef (dreps ord (treeG ord l) ks)) ∧ SlI w' v2 (dels ord (treeG ord l) ks) ∧ Ext noF w w' := by
  refine calls_of_W [.tmp 6, .tmp 7] Try.func28 rfl Try.ntmps28 Try.results28 (by simp) fun e he => ?_
  have e0 : e 0 = mkV sv d nl := he 0 _ rfl
  have e1 : e 1 = lv := he 1 _ rfl
  have e2 : e 2 = kv := he 2 _ rfl
  clear he
  obtain ⟨ka, kc, hkv⟩ := hks.shape
  rw [hkv] at e2
  obtain ⟨hd2, hd3⟩ := hd.of
  refine W_sq fun K hK => (W_text [false, true, true] (by kernel_rfl) ?_); simp only [↓List.toList_toArray, ↓rgd, ↓rgf, ↓reduceIte, Nat.reduceEqDiff, rg, ow_28]
  refine do_box (by simp only [evt]; exact e0) fun w1 n1 => ⟨trivial, ?_⟩
  simp only [↓List.toList_toArray, ↓rgd, ↓rgf, ↓reduceIte, Nat.reduceEqDiff, rg, ow_28]
  refine hK _ _ ?_; clear hK K
  have rm := mk_at (show Row w1 w.heap.size 0 (mkL sv d nl) from n1.row)
  refine W_sq fun K hK => (W_text [true, true, false, true] (by kernel_rfl) ?_); simp only [↓List.toList_toArray, ↓rgd, ↓rgf, ↓reduceIte, Nat.reduceEqDiff, rg, ow_28, e1, rm]
  refine do_call fn_43 (by simp only [evt, evc, upd_eq, Nat.reduceEqDiff, ↓reduceIte, maT, maC, maN, isnN, isnS] <;> rfl) (growG_any d hd ord sv nl l lv w1 (SlV.ext0 hs n1.ext) hsb (SlV.ext0 hl n1.ext) (by omega)) ?_
  rintro _ w9 ⟨X2, A, m, F, rfl, hM9, hm, hFs⟩
  have X29 := n1.ext.tr X2
  have s1 := n1.size
  have s29 := X29.size
  refine ⟨trivial, ?_⟩
  simp only [↓List.toList_toArray, ↓rgd, ↓rgf, ↓reduceIte, Nat.reduceEqDiff, rg, ow_28]
  refine hK _ _ ?_; clear hK K
  refine W_sq fun K hK => (W_text [false] (by kernel_rfl) ?_); simp only [↓List.toList_toArray, ↓rgd, ↓rgf, ↓reduceIte, Nat.reduceEqDiff, rg, ow_28]
  refine do_alloc z_hint fun w0 n0 => ⟨trivial, ?_⟩
  simp only [↓List.toList_toArray, ↓rgd, ↓rgf, ↓reduceIte, Nat.reduceEqDiff, rg, ow_28]
  refine hK _ _ ?_; clear hK K
  refine W_sq fun K hK => (W_text [true] (by kernel_rfl) ?_); simp only [↓List.toList_toArray, ↓rgd, ↓rgf, ↓reduceIte, Nat.reduceEqDiff, rg, ow_28]
  refine hK _ _ ?_; clear hK K
  have hH0 := hint_new n0
  have s0 := n0.size
  obtain ⟨hb, hhb⟩ : ∃ hb, hb = w9.heap.size := ⟨_, rfl⟩
  rw [← hhb] at hH0 ⊢
  have hM0 := hM9.ext n0.ext
  have X02 := X29.tr n0.ext
  have hk0 : SlI w0 kv ks := SlV.ext0 hks X02
  have hml := hM9.mlt
  have hlt9 := hM9.lt
  obtain ⟨B, hB⟩ : ∃ B, B = m + 1 := ⟨_, rfl⟩
  have hkl : ∀ b o n c, kv = .slice (some ⟨b, o, none⟩) n c → b < w.heap.size := fun b o n c h => SlV.lt hks h
  have htl0 := treeG_len ord l
  have hfill : FillH B A m (degOf d) ord hb (.slice none 0 0) (dels ord (treeG ord l) (ks.take 0)) (dreps ord (treeG ord l) (ks.take 0)) w0 := FillH.start hM0 (fun y o g => by have := hM0.above y o g; omega) (fun o g => by have := hlt9 _ _ g; omega) hH0 ⟨by omega, by omega, by omega⟩
  clear hM0 hM9 X2 n1 n0

  refine W_seq (W_seq ?_)
  refine W_rg fun K hK => (W_text [true, true, true] (by kernel_rfl) ?_); simp only [↓List.toList_toArray, ↓rgd, ↓rgf, ↓reduceIte, Nat.reduceEqDiff, rg, ow_28, e2]
  refine hK _ _ ?_; clear hK K
  show W _ _ _ _ _ _
  refine W_block (W_loop (fun mm e w' => ∃ k : Nat, mm = ks.length - k ∧ k ≤ ks.length ∧ e 16 = .slice ka ks.length kc ∧ e 17 = .int .i64 ks.length ∧ e 18 = .int .i64 k ∧ e 8 = ptr m ∧ e 9 = ptr hb ∧ FillH B A m (degOf d) ord hb (e 10) (dels ord (treeG ord l) (ks.take k)) (dreps ord (treeG ord l) (ks.take k)) w' ∧ Ext (fillF B m (some hb)) w0 w')
    ks.length ⟨0, by simp, by simp, by simp only [upd_eq, Nat.reduceEqDiff, ↓reduceIte], by simp only [upd_eq, Nat.reduceEqDiff, ↓reduceIte], by simp only [upd_eq, Nat.reduceEqDiff, ↓reduceIte]; rfl, by simp only [upd_eq, Nat.reduceEqDiff, ↓reduceIte], by simp only [upd_eq, Nat.reduceEqDiff, ↓reduceIte]; rfl, by simp only [upd_eq, Nat.reduceEqDiff, ↓reduceIte]; exact hfill, Ext.refl _ _⟩ ?_)
  clear hfill e0 e1 e2 e
  rintro mm e w' ⟨k, rfl, hk, eS, eL, eI, eM, eH, hfl, X⟩
  by_cases hlt : k < ks.length
  · have ht := lt_tt k ks.length hlt
    refine W_sq fun K hK => (W_text [true] (by kernel_rfl) ?_); simp only [↓List.toList_toArray, ↓rgd, ↓rgf, ↓reduceIte, Nat.reduceEqDiff, rg, ow_28, eL, eI, ht]
    refine hK _ _ ?_; clear hK K
    refine W_seq (W_true (by simp only [evt, evc, upd_eq, Nat.reduceEqDiff, ↓reduceIte, ntT, ntF] <;> rfl) (W_skip ?_))
    show W _ _ _ _ _ _
    obtain ⟨x, hx⟩ : ∃ x, ks[k]? = some x := ⟨_, List.getElem?_eq_getElem hlt⟩
    obtain ⟨ib, io, hka, row⟩ := hk0.at hkv hlt
    have hibl := hk0.lt (hkv.trans (by rw [hka]))
    have ixx := it_at (X.row row (fun _ _ h => by have := hkl _ _ _ _ (hkv.trans (by rw [hka])); rcases h with h | h | h <;> first | omega | (cases h; omega))) hx
    rw [hka] at eS
    refine W_seq (W_block ?_)
    refine W_sq fun K hK => (W_text [true, true, false, false] (by kernel_rfl) ?_); simp only [↓List.toList_toArray, ↓rgd, ↓rgf, ↓reduceIte, Nat.reduceEqDiff, rg, ow_28, eS, eI, hlt, ixx]
    refine do_alloc z_it fun w2 n2 => ⟨trivial, ?_⟩
    simp only [↓List.toList_toArray, ↓rgd, ↓rgf, ↓reduceIte, Nat.reduceEqDiff, rg, ow_28]
    refine do_store (v := itV x) (by simp only [evt, evc, upd_eq, Nat.reduceEqDiff, ↓reduceIte, ntT, ntF] <;> rfl) (by simp only [evt, evc, upd_eq, Nat.reduceEqDiff, ↓reduceIte, ntT, ntF] <;> rfl) sz_33 rfl n2.wok (by decide) (itV_oc x) fun w3 x3 r3 s3 => ⟨trivial, ?_⟩
    simp only [↓List.toList_toArray, ↓rgd, ↓rgf, ↓reduceIte, Nat.reduceEqDiff, rg, ow_28]
    refine hK _ _ ?_; clear hK K
    have s2 := n2.size
    have X3 : Ext noF w' w3 := noF_of n2.ext x3 fun y o hy h => by simp only [rng] at h; omega
    have s3 := X3.size
    have ix3 := iX_at (show Row w3 w'.heap.size 0 (E.cel x) from r3)
    rw [← hka] at eS
    have sX := X.size
    obtain ⟨l1, l2, l3⟩ := hfl.lt
    obtain ⟨F0, hM0, hF0, ho0, hhF0⟩ := hfl.tr
    have hfl3 := hfl.ext X3
    have htl := dels_len ord (ks.take k) (treeG ord l)
    have htk : (ks.take k).length ≤ k := by rw [List.length_take]; omega
    refine W_rg fun K hK => (W_text [true, true, true, false, true, true, false, false, false, true] (by kernel_rfl) ?_); simp only [↓List.toList_toArray, ↓rgd, ↓rgf, ↓reduceIte, Nat.reduceEqDiff, rg, ow_28, eM, eH, ix3]
    refine do_call fn_57 (by simp only [evt, evc, upd_eq, Nat.reduceEqDiff, ↓reduceIte, maT, maC, maN, isnN, isnS, eH, hV_some] <;> rfl) (delHint_any A m (degOf d) 1 ord x (some hb) hd2 hd3 _ F0 w3 (hM0.ext X3) (by omega) (fun y h => by cases h; exact hfl.hint.ext X3 fun _ g => g) (fun y h => by cases h; exact ⟨by omega, hhF0⟩)) ?_
    rintro _ w4 ⟨rfl, x4, H4, F', hM4, hF'⟩
    refine ⟨trivial, ?_⟩
    simp only [↓List.toList_toArray, ↓rgd, ↓rgf, ↓reduceIte, Nat.reduceEqDiff, rg, ow_28]
    obtain ⟨hfl4, X4⟩ := hfl3.step hF0 ho0 hhF0 x4 hM4 hF' (H4 hb rfl)
    refine do_call fn_44 (by simp only [evt, evc, upd_eq, Nat.reduceEqDiff, ↓reduceIte, maT, maC, maN, isnN, isnS] <;> rfl) (found_any _ _ w4) ?_
    rintro _ w5 ⟨rfl, X5⟩
    refine ⟨trivial, ?_⟩
    simp only [↓List.toList_toArray, ↓rgd, ↓rgf, ↓reduceIte, Nat.reduceEqDiff, rg, ow_28]
    refine do_bsl rfl (bs_fo1 _) fun w6 n6 => ⟨trivial, ?_⟩
    simp only [↓List.toList_toArray, ↓rgd, ↓rgf, ↓reduceIte, Nat.reduceEqDiff, rg, ow_28]
    have X6 := X5.tr n6.ext
    have s6 := X6.size
    have hrl : (dreps ord (treeG ord l) (ks.take k)).length = k := by rw [dreps_length, List.length_take]; omega
    rw [foP_at] at n6
    have hx6 : SlV w6 3 (.slice (some ⟨w5.heap.size, 0, none⟩) 1 1) 1 (Ef.cel (foO (at? O (rkI ord) (rkI ord x) (dels ord (treeG ord l) (ks.take k))))) := ⟨rfl, .inr ⟨_, 0, 1, rfl, Nat.le_refl _, n6.row, n6.wok.R (Nat.le_refl _)⟩⟩
    have hfl6 := hfl4.ext X6
    refine do_append (by simp only [evt, evc, upd_eq, Nat.reduceEqDiff, ↓reduceIte, ntT, ntF] <;> rfl) (by simp only [evt, evc, upd_eq, Nat.reduceEqDiff, ↓reduceIte, ntT, ntF] <;> rfl) el_fo rfl ni_fo hfl6.out.sl hx6 (by omega) (by decide) (Ef.one _) fun v7 w7 a7 => ?_
    obtain ⟨hfl7, X7⟩ := hfl6.app a7
    refine ⟨trivial, ?_⟩
    simp only [↓List.toList_toArray, ↓rgd, ↓rgf, ↓reduceIte, Nat.reduceEqDiff, rg, ow_28]
    refine hK _ _ ?_; clear hK K
    show W _ _ _ _ _ _
    have q1 := wadd1 k (by omega)
    refine W_rg fun K hK => (W_text [true, true] (by kernel_rfl) ?_); simp only [↓List.toList_toArray, ↓rgd, ↓rgf, ↓reduceIte, Nat.reduceEqDiff, rg, ow_28, eI, q1]
    refine hK _ _ ?_; clear hK K
    refine ⟨_, ?_, k + 1, rfl, hlt, by simp only [upd_eq, Nat.reduceEqDiff, ↓reduceIte]; exact eS, by simp only [upd_eq, Nat.reduceEqDiff, ↓reduceIte]; exact eL, by simp only [upd_eq, Nat.reduceEqDiff, ↓reduceIte], by simp only [upd_eq, Nat.reduceEqDiff, ↓reduceIte]; exact eM, by simp only [upd_eq, Nat.reduceEqDiff, ↓reduceIte]; exact eH, by simp only [upd_eq, Nat.reduceEqDiff, ↓reduceIte]; rw [take_snoc hx, dreps_snoc, dels_snoc]; exact hfl7, (((X.tr (X3.mono fun _ _ _ h => h.elim)).tr X4).tr (X6.mono fun _ _ _ h => h.elim)).tr X7⟩
    omega
  · obtain rfl : k = ks.length := by omega
    have ht := lt_ff ks.length ks.length (by omega)
    refine W_sq fun K hK => (W_text [true] (by kernel_rfl) ?_); simp only [↓List.toList_toArray, ↓rgd, ↓rgf, ↓reduceIte, Nat.reduceEqDiff, rg, ow_28, eL, eI, ht]
    refine hK _ _ ?_; clear hK K
    refine W_seq (W_false (by simp only [evt, evc, upd_eq, Nat.reduceEqDiff, ↓reduceIte, ntT, ntF] <;> rfl) (W_exit ?_))
    simp only [andThen_exit, inBlk_exit, andThen_normal, ↓reduceIte]
    rw [List.take_length] at hfl
    obtain ⟨F, hM, hFB, ho, hhF⟩ := hfl.tr
    obtain ⟨l1, l2, l3⟩ := hfl.lt
    have htl := dels_len ord ks (treeG ord l)
    refine W_sq fun K hK => (W_text [true, true, false, true, true] (by kernel_rfl) ?_); simp only [↓List.toList_toArray, ↓rgd, ↓rgf, ↓reduceIte, Nat.reduceEqDiff, rg, ow_28, eM]
    refine do_call fn_46 (by simp only [evt, evc, upd_eq, Nat.reduceEqDiff, ↓reduceIte, maT, maC, maN, isnN, isnS] <;> rfl) (itemsG_any A m (degOf d) ord 1 (dels ord (treeG ord l) ks) F w' hM (by omega)) ?_
    rintro v8 w8 ⟨hO, X8⟩
    refine ⟨trivial, ?_⟩
    simp only [↓List.toList_toArray, ↓rgd, ↓rgf, ↓reduceIte, Nat.reduceEqDiff, rg, ow_28]
    refine hK _ _ ?_; clear hK K
    refine W_ret (endQ_2 (by simp only [upd_eq, Nat.reduceEqDiff, ↓reduceIte] <;> rfl) (by simp only [upd_eq, Nat.reduceEqDiff, ↓reduceIte] <;> rfl) ⟨_, _, rfl, (hfl.out.ext X8).sl, hO.sl, ?_⟩)
    refine (noF_of X02 X fun y o hy h => ?_).tr X8
    rcases h with h | h | h <;> first | omega | (cases h; omega)
set_option maxHeartbeats 800000 in
set_option maxRecDepth 8000 in
theorem impl_ggetH (d : Nat) (hd : DOk d) (ord : List Int) (sv : Value) (nl : Bool) (l : List It) (lv : Value) (ks : List It) (kv : Value) (w : World) (hs : SlInt w sv ord) (hsb : ord.length ≤ 2147483647) (hl : SlI w lv l) (hbig : l.length ≤ 2147483647) (hks : SlI w kv ks) (hkb : ks.length ≤ 2147483647) :
    CallK Try.prog 32 #[mkV sv d nl, lv, kv] w fun v w' => SlV w' 3 v ks.length (flat Ef (gets ord (treeG ord l) ks)) ∧ Ext noF w w' := by
  refine calls_of_W [.tmp 6] Try.func32 rfl Try.ntmps32 Try.results32 (by simp) fun e he => ?_
  have e0 : e 0 = mkV sv d nl := he 0 _ rfl
  have e1 : e 1 = lv := he 1 _ rfl
  have e2 : e 2 = kv := he 2 _ rfl
  clear he
  obtain ⟨ka, kc, hkv⟩ := hks.shape
  rw [hkv] at e2
  have htl := treeG_len ord l
  obtain ⟨hd2, hd3⟩ := hd.of
  refine W_sq fun K hK => (W_text [false, true] (by kernel_rfl) ?_); simp only [↓List.toList_toArray, ↓rgd, ↓rgf, ↓reduceIte, Nat.reduceEqDiff, rg, ow_32]
  refine do_box (by simp only [evt]; exact e0) fun w1 n1 => ⟨trivial, ?_⟩
  simp only [↓List.toList_toArray, ↓rgd, ↓rgf, ↓reduceIte, Nat.reduceEqDiff, rg, ow_32]
  refine hK _ _ ?_; clear hK K
  have rm := mk_at (show Row w1 w.heap.size 0 (mkL sv d nl) from n1.row)
  refine W_sq fun K hK => (W_text [true, true, false, true] (by kernel_rfl) ?_); simp only [↓List.toList_toArray, ↓rgd, ↓rgf, ↓reduceIte, Nat.reduceEqDiff, rg, ow_32, e1, rm]
  refine do_call fn_43 (by simp only [evt, evc, upd_eq, Nat.reduceEqDiff, ↓reduceIte, maT, maC, maN, isnN, isnS] <;> rfl) (growG_any d hd ord sv nl l lv w1 (SlV.ext0 hs n1.ext) hsb (SlV.ext0 hl n1.ext) (by omega)) ?_
  rintro _ w2 ⟨X2, B, m, F, rfl, hM, hm, -⟩
  have X2 := n1.ext.tr X2
  have sX2 := X2.size
  refine ⟨trivial, ?_⟩
  simp only [↓List.toList_toArray, ↓rgd, ↓rgf, ↓reduceIte, Nat.reduceEqDiff, rg, ow_32]
  refine hK _ _ ?_; clear hK K
  have hml := hM.mlt
  have hltF := hM.lt
  refine W_sq fun K hK => (W_text [false] (by kernel_rfl) ?_); simp only [↓List.toList_toArray, ↓rgd, ↓rgf, ↓reduceIte, Nat.reduceEqDiff, rg, ow_32]
  refine do_alloc z_hint fun w30 n30 => ⟨trivial, ?_⟩
  simp only [↓List.toList_toArray, ↓rgd, ↓rgf, ↓reduceIte, Nat.reduceEqDiff, rg, ow_32]
  refine hK _ _ ?_; clear hK K
  have hH := hint_new n30
  have s3 := n30.size
  obtain ⟨hb, hhb⟩ : ∃ hb, hb = w2.heap.size := ⟨_, rfl⟩
  rw [← hhb] at hH ⊢
  have hM30 := hM.ext n30.ext
  have X30 := X2.tr n30.ext
  have sX30 := X30.size
  clear n30 n1
  refine W_sq fun K hK => (W_text [true] (by kernel_rfl) ?_); simp only [↓List.toList_toArray, ↓rgd, ↓rgf, ↓reduceIte, Nat.reduceEqDiff, rg, ow_32]
  refine hK _ _ ?_; clear hK K

  refine W_seq (W_seq ?_)
  refine W_rg fun K hK => (W_text [true, true, true] (by kernel_rfl) ?_); simp only [↓List.toList_toArray, ↓rgd, ↓rgf, ↓reduceIte, Nat.reduceEqDiff, rg, ow_32, e2]
  refine hK _ _ ?_; clear hK K
  show W _ _ _ _ _ _
  have hk3 := SlV.ext0 hks X30
  refine W_block (W_loop (fun mm e w' => ∃ k : Nat, mm = ks.length - k ∧ k ≤ ks.length ∧ e 15 = .slice ka ks.length kc ∧ e 16 = .int .i64 ks.length ∧ e 17 = .int .i64 k ∧ e 7 = ptr m ∧ e 8 = ptr hb ∧ HintAt w' hb ∧ Outs w30.heap.size (e 9) (gets ord (treeG ord l) (ks.take k)) w' ∧ Ext (fun y _ => y = hb ∨ w30.heap.size ≤ y) w30 w')
    ks.length ⟨0, by simp, by simp, by simp only [upd_eq, Nat.reduceEqDiff, ↓reduceIte], by simp only [upd_eq, Nat.reduceEqDiff, ↓reduceIte], by simp only [upd_eq, Nat.reduceEqDiff, ↓reduceIte]; rfl, by simp only [upd_eq, Nat.reduceEqDiff, ↓reduceIte], by simp only [upd_eq, Nat.reduceEqDiff, ↓reduceIte]; rfl, hH, by simp only [upd_eq, Nat.reduceEqDiff, ↓reduceIte]; exact Outs.nil _ _, Ext.refl _ _⟩ ?_)
  clear e0 e1 e2 e
  rintro mm e w' ⟨k, rfl, hk, eS, eL, eI, e7, e8, hH, hO, X⟩
  by_cases hlt : k < ks.length
  · have ht := lt_tt k ks.length hlt
    refine W_sq fun K hK => (W_text [true] (by kernel_rfl) ?_); simp only [↓List.toList_toArray, ↓rgd, ↓rgf, ↓reduceIte, Nat.reduceEqDiff, rg, ow_32, eL, eI, ht]
    refine hK _ _ ?_; clear hK K
    refine W_seq (W_true (by simp only [evt, evc, upd_eq, Nat.reduceEqDiff, ↓reduceIte, ntT, ntF] <;> rfl) (W_skip ?_))
    show W _ _ _ _ _ _
    obtain ⟨x, hx⟩ : ∃ x, ks[k]? = some x := ⟨_, List.getElem?_eq_getElem hlt⟩
    obtain ⟨ib, io, hka, row⟩ := hks.at hkv hlt
    have hibl := hks.lt (hkv.trans (by rw [hka]))
    have ixx := it_at ((X).row (X30.row row fun _ _ h => h) (fun _ _ h => by have := h; omega)) hx
    rw [hka] at eS
    refine W_seq (W_block ?_)
    refine W_sq fun K hK => (W_text [true, true, false, false] (by kernel_rfl) ?_); simp only [↓List.toList_toArray, ↓rgd, ↓rgf, ↓reduceIte, Nat.reduceEqDiff, rg, ow_32, eS, eI, hlt, ixx]
    refine do_alloc z_it fun w2 n2 => ⟨trivial, ?_⟩
    simp only [↓List.toList_toArray, ↓rgd, ↓rgf, ↓reduceIte, Nat.reduceEqDiff, rg, ow_32]
    refine do_store (v := itV x) (by simp only [evt, evc, upd_eq, Nat.reduceEqDiff, ↓reduceIte, ntT, ntF] <;> rfl) (by simp only [evt, evc, upd_eq, Nat.reduceEqDiff, ↓reduceIte, ntT, ntF] <;> rfl) sz_33 rfl n2.wok (by decide) (itV_oc x) fun w3 x3 r3 s3 => ⟨trivial, ?_⟩
    simp only [↓List.toList_toArray, ↓rgd, ↓rgf, ↓reduceIte, Nat.reduceEqDiff, rg, ow_32]
    refine hK _ _ ?_; clear hK K
    have s2 := n2.size
    have X3 : Ext noF w' w3 := noF_of n2.ext x3 fun y o hy h => by simp only [rng] at h; omega
    have s3 := X3.size
    have ix3 := iX_at (show Row w3 w'.heap.size 0 (E.cel x) from r3)
    rw [← hka] at eS
    have hMk := (hM30.extG X (fun y o h => by have := hltF y o h; omega) fun y o g => by omega).ext X3
    have hHk := hH.ext X3 fun _ g => g
    refine W_rg fun K hK => (W_text [true, true, true, false, true, true, false, false, false, true] (by kernel_rfl) ?_); simp only [↓List.toList_toArray, ↓rgd, ↓rgf, ↓reduceIte, Nat.reduceEqDiff, rg, ow_32, e7, e8, ix3]
    refine do_call fn_59 (by simp only [evt, evc, upd_eq, Nat.reduceEqDiff, ↓reduceIte, maT, maC, maN, isnN, isnS, e8, hV_some] <;> rfl) (getHh_any B m (degOf d) ord hd2 hd3 1 (treeG ord l) F x (some hb) w3 hMk (by omega) (fun y h => by cases h; exact hHk) (fun y h => by cases h; exact ⟨.inl (by omega), fun y o g => by have := hltF y o g; omega⟩)) ?_
    rintro _ w4 ⟨rfl, X4, HH4⟩
    refine ⟨trivial, ?_⟩
    simp only [↓List.toList_toArray, ↓rgd, ↓rgf, ↓reduceIte, Nat.reduceEqDiff, rg, ow_32, gotG_eq]
    refine do_call fn_44 (by simp only [evt, evc, upd_eq, Nat.reduceEqDiff, ↓reduceIte, maT, maC, maN, isnN, isnS] <;> rfl) (found_any _ _ w4) ?_
    rintro _ w5 ⟨rfl, X5⟩
    refine ⟨trivial, ?_⟩
    simp only [↓List.toList_toArray, ↓rgd, ↓rgf, ↓reduceIte, Nat.reduceEqDiff, rg, ow_32]
    refine do_bsl rfl (bs_fo1 _) fun w6 n6 => ⟨trivial, ?_⟩
    simp only [↓List.toList_toArray, ↓rgd, ↓rgf, ↓reduceIte, Nat.reduceEqDiff, rg, ow_32]
    have s6 := n6.size
    have s45 := X5.size
    have s34 := X4.size
    have sX := X.size
    have hO4 : Outs w30.heap.size (e 9) (gets ord (treeG ord l) (ks.take k)) w4 := (hO.ext X3).extB X4 fun y o g => by cases g; omega
    have X56 := X5.tr n6.ext
    have hfl : (gets ord (treeG ord l) (ks.take k)).length = k := by rw [gets_len, List.length_take]; omega
    have hx5 : SlV w6 3 (.slice (some ⟨w5.heap.size, 0, none⟩) 1 1) 1 (Ef.cel (foP ((at? O (rkI ord) (rkI ord x) (treeG ord l)).getD zIt) (at? O (rkI ord) (rkI ord x) (treeG ord l)).isSome)) := ⟨rfl, .inr ⟨_, 0, 1, rfl, Nat.le_refl _, n6.row, n6.wok.R (Nat.le_refl _)⟩⟩
    refine do_append (by simp only [evt, evc, upd_eq, Nat.reduceEqDiff, ↓reduceIte, ntT, ntF] <;> rfl) (by simp only [evt, evc, upd_eq, Nat.reduceEqDiff, ↓reduceIte, ntT, ntF] <;> rfl) el_fo rfl ni_fo (hO4.ext X56).sl hx5 (by omega) (by decide) (Ef.one _) fun v7 w7 a7 => ?_
    obtain ⟨hO7, X7⟩ := (hO4.ext X56).app a7 (by omega)
    refine ⟨trivial, ?_⟩
    simp only [↓List.toList_toArray, ↓rgd, ↓rgf, ↓reduceIte, Nat.reduceEqDiff, rg, ow_32]
    refine hK _ _ ?_; clear hK K
    rw [foP_gotG] at hO7
    have hH7 := ((HH4 hb rfl).ext X56 fun _ g => g).ext X7 fun _ g => by omega
    show W _ _ _ _ _ _
    have q1 := wadd1 k (by omega)
    refine W_rg fun K hK => (W_text [true, true] (by kernel_rfl) ?_); simp only [↓List.toList_toArray, ↓rgd, ↓rgf, ↓reduceIte, Nat.reduceEqDiff, rg, ow_32, eI, q1]
    refine hK _ _ ?_; clear hK K
    refine ⟨_, ?_, k + 1, rfl, hlt, by simp only [upd_eq, Nat.reduceEqDiff, ↓reduceIte]; exact eS, by simp only [upd_eq, Nat.reduceEqDiff, ↓reduceIte]; exact eL, by simp only [upd_eq, Nat.reduceEqDiff, ↓reduceIte], by simp only [upd_eq, Nat.reduceEqDiff, ↓reduceIte]; exact e7, by simp only [upd_eq, Nat.reduceEqDiff, ↓reduceIte]; exact e8, hH7, by simp only [upd_eq, Nat.reduceEqDiff, ↓reduceIte]; rw [gets_succ hx]; exact hO7, (((X.tr (X3.mono fun _ _ _ h => h.elim)).tr (X4.mono fun y o _ g => by cases g; exact .inl rfl)).tr (X56.mono fun _ _ _ h => h.elim)).tr (X7.mono fun y o _ g => .inr g)⟩
    omega
  · obtain rfl : k = ks.length := by omega
    have ht := lt_ff ks.length ks.length (by omega)
    refine W_sq fun K hK => (W_text [true] (by kernel_rfl) ?_); simp only [↓List.toList_toArray, ↓rgd, ↓rgf, ↓reduceIte, Nat.reduceEqDiff, rg, ow_32, eL, eI, ht]
    refine hK _ _ ?_; clear hK K
    refine W_seq (W_false (by simp only [evt, evc, upd_eq, Nat.reduceEqDiff, ↓reduceIte, ntT, ntF] <;> rfl) (W_exit ?_))
    simp only [andThen_exit, inBlk_exit, andThen_normal, ↓reduceIte]
    refine W_sq fun K hK => (W_text [true, true] (by kernel_rfl) ?_); simp only [↓List.toList_toArray, ↓rgd, ↓rgf, ↓reduceIte, Nat.reduceEqDiff, rg, ow_32]
    refine hK _ _ ?_; clear hK K
    rw [List.take_length] at hO
    refine W_ret (endQ_1 (by simp only [upd_eq, Nat.reduceEqDiff, ↓reduceIte] <;> rfl) ⟨?_, noF_of X30 X fun y o hy h => by omega⟩)
    have := hO.sl
    rw [gets_len] at this
    exact this
set_option maxHeartbeats 1600000 in
set_option maxRecDepth 8000 in
theorem impl_ggetP (d : Nat) (hd : DOk d) (ord : List Int) (sv : Value) (nl : Bool) (l : List It) (lv : Value) (ks : List It) (kv : Value) (w : World) (hs : SlInt w sv ord) (hsb : ord.length ≤ 2147483647) (hl : SlI w lv l) (hbig : l.length ≤ 2147483647) (hks : SlI w kv ks) (hkb : ks.length ≤ 2147483647) :
    CallK Try.prog 31 #[mkV sv d nl, lv, kv] w fun v w' => SlV w' 3 v ks.length (flat Ef (gets ord (treeG ord l) ks)) ∧ Ext noF w w' := by
  refine calls_of_W [.tmp 6] Try.func31 rfl Try.ntmps31 Try.results31 (by simp) fun e he => ?_
  have e0 : e 0 = mkV sv d nl := he 0 _ rfl
  have e1 : e 1 = lv := he 1 _ rfl
  have e2 : e 2 = kv := he 2 _ rfl
  clear he
  obtain ⟨ka, kc, hkv⟩ := hks.shape
  rw [hkv] at e2
  have htl := treeG_len ord l
  obtain ⟨hd2, hd3⟩ := hd.of
  refine W_sq fun K hK => (W_text [false, true] (by kernel_rfl) ?_); simp only [↓List.toList_toArray, ↓rgd, ↓rgf, ↓reduceIte, Nat.reduceEqDiff, rg, ow_31]
  refine do_box (by simp only [evt]; exact e0) fun w1 n1 => ⟨trivial, ?_⟩
  simp only [↓List.toList_toArray, ↓rgd, ↓rgf, ↓reduceIte, Nat.reduceEqDiff, rg, ow_31]
  refine hK _ _ ?_; clear hK K
  have rm := mk_at (show Row w1 w.heap.size 0 (mkL sv d nl) from n1.row)
  refine W_sq fun K hK => (W_text [true, true, false, true] (by kernel_rfl) ?_); simp only [↓List.toList_toArray, ↓rgd, ↓rgf, ↓reduceIte, Nat.reduceEqDiff, rg, ow_31, e1, rm]
  refine do_call fn_43 (by simp only [evt, evc, upd_eq, Nat.reduceEqDiff, ↓reduceIte, maT, maC, maN, isnN, isnS] <;> rfl) (growG_any d hd ord sv nl l lv w1 (SlV.ext0 hs n1.ext) hsb (SlV.ext0 hl n1.ext) (by omega)) ?_
  rintro _ w30 ⟨X2, B, m, F, rfl, hM30, hm, -⟩
  have X30 := n1.ext.tr X2
  have sX2 := X30.size
  refine ⟨trivial, ?_⟩
  simp only [↓List.toList_toArray, ↓rgd, ↓rgf, ↓reduceIte, Nat.reduceEqDiff, rg, ow_31]
  refine hK _ _ ?_; clear hK K
  have hml := hM30.mlt
  have hltF := hM30.lt
  refine W_sq fun K hK => (W_text [true] (by kernel_rfl) ?_); simp only [↓List.toList_toArray, ↓rgd, ↓rgf, ↓reduceIte, Nat.reduceEqDiff, rg, ow_31]
  refine hK _ _ ?_; clear hK K

  refine W_seq (W_seq ?_)
  refine W_rg fun K hK => (W_text [true, true, true] (by kernel_rfl) ?_); simp only [↓List.toList_toArray, ↓rgd, ↓rgf, ↓reduceIte, Nat.reduceEqDiff, rg, ow_31, e2]
  refine hK _ _ ?_; clear hK K
  show W _ _ _ _ _ _
  have hk3 := SlV.ext0 hks X30
  refine W_block (W_loop (fun mm e w' => ∃ k : Nat, mm = ks.length - k ∧ k ≤ ks.length ∧ e 14 = .slice ka ks.length kc ∧ e 15 = .int .i64 ks.length ∧ e 16 = .int .i64 k ∧ e 7 = ptr m ∧ Outs w30.heap.size (e 8) (gets ord (treeG ord l) (ks.take k)) w' ∧ Ext (fun y _ => w30.heap.size ≤ y) w30 w')
    ks.length ⟨0, by simp, by simp, by simp only [upd_eq, Nat.reduceEqDiff, ↓reduceIte], by simp only [upd_eq, Nat.reduceEqDiff, ↓reduceIte], by simp only [upd_eq, Nat.reduceEqDiff, ↓reduceIte]; rfl, by simp only [upd_eq, Nat.reduceEqDiff, ↓reduceIte], by simp only [upd_eq, Nat.reduceEqDiff, ↓reduceIte]; exact Outs.nil _ _, Ext.refl _ _⟩ ?_)
  clear e0 e1 e2 e
  rintro mm e w' ⟨k, rfl, hk, eS, eL, eI, e7, hO, X⟩
  by_cases hlt : k < ks.length
  · have ht := lt_tt k ks.length hlt
    refine W_sq fun K hK => (W_text [true] (by kernel_rfl) ?_); simp only [↓List.toList_toArray, ↓rgd, ↓rgf, ↓reduceIte, Nat.reduceEqDiff, rg, ow_31, eL, eI, ht]
    refine hK _ _ ?_; clear hK K
    refine W_seq (W_true (by simp only [evt, evc, upd_eq, Nat.reduceEqDiff, ↓reduceIte, ntT, ntF] <;> rfl) (W_skip ?_))
    show W _ _ _ _ _ _
    obtain ⟨x, hx⟩ : ∃ x, ks[k]? = some x := ⟨_, List.getElem?_eq_getElem hlt⟩
    obtain ⟨ib, io, hka, row⟩ := hk3.at hkv hlt
    have hibl := hk3.lt (hkv.trans (by rw [hka]))
    have ixx := it_at (X.row row (fun _ _ h => by have := h; omega)) hx
    rw [hka] at eS
    refine W_seq (W_block ?_)
    refine W_sq fun K hK => (W_text [true, true, false, false] (by kernel_rfl) ?_); simp only [↓List.toList_toArray, ↓rgd, ↓rgf, ↓reduceIte, Nat.reduceEqDiff, rg, ow_31, eS, eI, hlt, ixx]
    refine do_alloc z_it fun w2 n2 => ⟨trivial, ?_⟩
    simp only [↓List.toList_toArray, ↓rgd, ↓rgf, ↓reduceIte, Nat.reduceEqDiff, rg, ow_31]
    refine do_store (v := itV x) (by simp only [evt, evc, upd_eq, Nat.reduceEqDiff, ↓reduceIte, ntT, ntF] <;> rfl) (by simp only [evt, evc, upd_eq, Nat.reduceEqDiff, ↓reduceIte, ntT, ntF] <;> rfl) sz_33 rfl n2.wok (by decide) (itV_oc x) fun w3 x3 r3 s3 => ⟨trivial, ?_⟩
    simp only [↓List.toList_toArray, ↓rgd, ↓rgf, ↓reduceIte, Nat.reduceEqDiff, rg, ow_31]
    refine hK _ _ ?_; clear hK K
    have s2 := n2.size
    have X3 : Ext noF w' w3 := noF_of n2.ext x3 fun y o hy h => by simp only [rng] at h; omega
    have s3 := X3.size
    have ix3 := iX_at (show Row w3 w'.heap.size 0 (E.cel x) from r3)
    rw [← hka] at eS
    have hMk := (hM30.extG X (fun y o h => by have := hltF y o h; omega) fun y o g => by omega).ext X3
    refine W_rg fun K hK => (W_text [true, true, true, false, true, true, false, false, false, true] (by kernel_rfl) ?_); simp only [↓List.toList_toArray, ↓rgd, ↓rgf, ↓reduceIte, Nat.reduceEqDiff, rg, ow_31, e7, ix3]
    refine do_call fn_58 (by simp only [evt, evc, upd_eq, Nat.reduceEqDiff, ↓reduceIte, maT, maC, maN, isnN, isnS] <;> rfl) (getP_any B m (degOf d) ord hd2 hd3 1 (treeG ord l) F x w3 hMk (by omega)) ?_
    rintro _ w4 ⟨rfl, X4⟩
    refine ⟨trivial, ?_⟩
    simp only [↓List.toList_toArray, ↓rgd, ↓rgf, ↓reduceIte, Nat.reduceEqDiff, rg, ow_31, gotG_eq]
    refine do_call fn_44 (by simp only [evt, evc, upd_eq, Nat.reduceEqDiff, ↓reduceIte, maT, maC, maN, isnN, isnS] <;> rfl) (found_any _ _ w4) ?_
    rintro _ w5 ⟨rfl, X5⟩
    refine ⟨trivial, ?_⟩
    simp only [↓List.toList_toArray, ↓rgd, ↓rgf, ↓reduceIte, Nat.reduceEqDiff, rg, ow_31]
    refine do_bsl rfl (bs_fo1 _) fun w6 n6 => ⟨trivial, ?_⟩
    simp only [↓List.toList_toArray, ↓rgd, ↓rgf, ↓reduceIte, Nat.reduceEqDiff, rg, ow_31]
    have s6 := n6.size
    have s45 := X5.size
    have s34 := X4.size
    have sX := X.size
    have X46 := X4.tr (X5.tr n6.ext)
    have hfl : (gets ord (treeG ord l) (ks.take k)).length = k := by rw [gets_len, List.length_take]; omega
    have hx5 : SlV w6 3 (.slice (some ⟨w5.heap.size, 0, none⟩) 1 1) 1 (Ef.cel (foP ((at? O (rkI ord) (rkI ord x) (treeG ord l)).getD zIt) (at? O (rkI ord) (rkI ord x) (treeG ord l)).isSome)) := ⟨rfl, .inr ⟨_, 0, 1, rfl, Nat.le_refl _, n6.row, n6.wok.R (Nat.le_refl _)⟩⟩
    have hO6 := (hO.ext X3).ext X46
    refine do_append (by simp only [evt, evc, upd_eq, Nat.reduceEqDiff, ↓reduceIte, ntT, ntF] <;> rfl) (by simp only [evt, evc, upd_eq, Nat.reduceEqDiff, ↓reduceIte, ntT, ntF] <;> rfl) el_fo rfl ni_fo hO6.sl hx5 (by omega) (by decide) (Ef.one _) fun v7 w7 a7 => ?_
    obtain ⟨hO7, X7⟩ := hO6.app a7 (by omega)
    refine ⟨trivial, ?_⟩
    simp only [↓List.toList_toArray, ↓rgd, ↓rgf, ↓reduceIte, Nat.reduceEqDiff, rg, ow_31]
    refine hK _ _ ?_; clear hK K
    rw [foP_gotG] at hO7
    show W _ _ _ _ _ _
    have q1 := wadd1 k (by omega)
    refine W_rg fun K hK => (W_text [true, true] (by kernel_rfl) ?_); simp only [↓List.toList_toArray, ↓rgd, ↓rgf, ↓reduceIte, Nat.reduceEqDiff, rg, ow_31, eI, q1]
    refine hK _ _ ?_; clear hK K
    refine ⟨_, ?_, k + 1, rfl, hlt, by simp only [upd_eq, Nat.reduceEqDiff, ↓reduceIte]; exact eS, by simp only [upd_eq, Nat.reduceEqDiff, ↓reduceIte]; exact eL, by simp only [upd_eq, Nat.reduceEqDiff, ↓reduceIte], by simp only [upd_eq, Nat.reduceEqDiff, ↓reduceIte]; exact e7, by simp only [upd_eq, Nat.reduceEqDiff, ↓reduceIte]; rw [gets_succ hx]; exact hO7, ((X.tr (X3.mono fun _ _ _ h => h.elim)).tr (X46.mono fun _ _ _ h => h.elim)).tr X7⟩
    omega
  · obtain rfl : k = ks.length := by omega
    have ht := lt_ff ks.length ks.length (by omega)
    refine W_sq fun K hK => (W_text [true] (by kernel_rfl) ?_); simp only [↓List.toList_toArray, ↓rgd, ↓rgf, ↓reduceIte, Nat.reduceEqDiff, rg, ow_31, eL, eI, ht]
    refine hK _ _ ?_; clear hK K
    refine W_seq (W_false (by simp only [evt, evc, upd_eq, Nat.reduceEqDiff, ↓reduceIte, ntT, ntF] <;> rfl) (W_exit ?_))
    simp only [andThen_exit, inBlk_exit, andThen_normal, ↓reduceIte]
    refine W_sq fun K hK => (W_text [true, true] (by kernel_rfl) ?_); simp only [↓List.toList_toArray, ↓rgd, ↓rgf, ↓reduceIte, Nat.reduceEqDiff, rg, ow_31]
    refine hK _ _ ?_; clear hK K
    rw [List.take_length] at hO
    refine W_ret (endQ_1 (by simp only [upd_eq, Nat.reduceEqDiff, ↓reduceIte] <;> rfl) ⟨?_, noF_of X30 X fun y o hy h => by omega⟩)
    have := hO.sl
    rw [gets_len] at this
    exact this
end Go.Proofs.Ytbnnkcofnmipoaa
/-
  impl.GItems. No condition.
-/
set_option linter.unusedSimpArgs false
set_option linter.unusedVariables false
namespace Go.Proofs.Ytbnnkcofnmipoaa
open Go Go.Proofs
set_option maxHeartbeats 400000 in
set_option maxRecDepth 8000 in
theorem impl_gitems (d : Nat) (hd : DOk d) (ord : List Int) (sv : Value) (nl : Bool) (l : List It) (lv : Value) (w : World) (hs : SlInt w sv ord) (hsb : ord.length ≤ 2147483647) (hl : SlI w lv l) (hbig : l.length ≤ 4294967294) :
    CallK Try.prog 24 #[mkV sv d nl, lv] w fun v w' => SlI w' v (treeG ord l) ∧ since w.heap.size v ∧ Ext noF w w' := by
  have htl := treeG_len ord l
  refine calls_of_W [.tmp 4] Try.func24 rfl Try.ntmps24 Try.results24 (by simp) fun e he => ?_
  have e0 : e 0 = mkV sv d nl := he 0 _ rfl
  have e1 : e 1 = lv := he 1 _ rfl
  clear he
  refine W_sq fun K hK => (W_text [false, true] (by kernel_rfl) ?_); simp only [↓List.toList_toArray, ↓rgd, ↓rgf, ↓reduceIte, Nat.reduceEqDiff, rg, ow_24]
  refine do_box (by simp only [evt]; exact e0) fun w1 n1 => ⟨trivial, ?_⟩
  simp only [↓List.toList_toArray, ↓rgd, ↓rgf, ↓reduceIte, Nat.reduceEqDiff, rg, ow_24]
  refine hK _ _ ?_; clear hK K
  have s1 := n1.size
  have rm := mk_at (show Row w1 w.heap.size 0 (mkL sv d nl) from n1.row)
  refine W_sq fun K hK => (W_text [true, true, false, false, true] (by kernel_rfl) ?_); simp only [↓List.toList_toArray, ↓rgd, ↓rgf, ↓reduceIte, Nat.reduceEqDiff, rg, ow_24, e1, rm]
  refine do_call fn_43 (by simp only [evt, evc, upd_eq, Nat.reduceEqDiff, ↓reduceIte, maT, maC, maN, isnN, isnS] <;> rfl) (growG_any d hd ord sv nl l lv w1 (SlV.ext0 hs n1.ext) hsb (SlV.ext0 hl n1.ext) hbig) ?_
  rintro _ w2 ⟨X2, B, m, F, rfl, hM, hm, -⟩
  refine ⟨trivial, ?_⟩
  simp only [↓List.toList_toArray, ↓rgd, ↓rgf, ↓reduceIte, Nat.reduceEqDiff, rg, ow_24]
  refine do_call fn_46 (by simp only [evt, evc, upd_eq, Nat.reduceEqDiff, ↓reduceIte, maT, maC, maN, isnN, isnS] <;> rfl) (itemsG_any B m (degOf d) ord 1 (treeG ord l) F w2 hM (by omega)) ?_
  rintro v3 w3 ⟨hO, X3⟩
  refine ⟨trivial, ?_⟩
  simp only [↓List.toList_toArray, ↓rgd, ↓rgf, ↓reduceIte, Nat.reduceEqDiff, rg, ow_24]
  refine hK _ _ ?_; clear hK K
  have s2 := X2.size
  exact W_ret (endQ_1 (by simp only [upd_eq, Nat.reduceEqDiff, ↓reduceIte] <;> rfl) ⟨hO.sl, fun b o n c h => by have := hO.si b o n c h; omega, (n1.ext.tr X2).tr X3⟩)
end Go.Proofs.Ytbnnkcofnmipoaa
/-
  Whether a degree fits; the laws' question whether trees hold items at all. No condition.
-/
set_option linter.unusedSimpArgs false
set_option linter.unusedVariables false
namespace Go.Proofs.Ytbnnkcofnmipoaa
open Go Go.Proofs
theorem SlV.one {w : World} {sz n : Nat} {v : Value} {l : List Value} (h : SlV w sz v n l) : v.oneCell' = true := by obtain ⟨a, c, rfl⟩ := h.shape; rfl
set_option maxHeartbeats 400000 in
set_option maxRecDepth 8000 in
theorem fitsL_any (sv : Value) (d : Int) (nl : Bool) (w : World) (h1 : sv.oneCell' = true) :
    CallK Try.prog 13 #[.agg #[sv, .int .i64 d, .bool nl]] w fun v w' => v = .bool (decide (d = 0) || (decide (2 ≤ d) && decide (d ≤ 128))) ∧ Ext noF w w' := by
  refine calls_of_W [.tmp 2] Try.func13 rfl Try.ntmps13 Try.results13 (by simp) fun e he => ?_
  have e0 : e 0 = .agg #[sv, .int .i64 d, .bool nl] := he 0 _ rfl
  clear he
  refine W_sq fun K hK => (W_text [false, true] (by kernel_rfl) ?_); simp only [↓List.toList_toArray, ↓rgd, ↓rgf, ↓reduceIte, Nat.reduceEqDiff, rg, ow_13]
  refine do_box (by simp only [evt]; exact e0) fun w1 n1 => ⟨trivial, ?_⟩
  simp only [↓List.toList_toArray, ↓rgd, ↓rgf, ↓reduceIte, Nat.reduceEqDiff, rg, ow_13]
  refine hK _ _ ?_; clear hK K
  have g1 := (Row.cons.1 (Row.cons.1 (show Row w1 w.heap.size 0 [sv, .int .i64 d, .bool nl] from n1.row)).2).1
  rw [Nat.zero_add] at g1
  refine W_sq fun K hK => (W_text [true, true, false, true] (by kernel_rfl) ?_); simp only [↓List.toList_toArray, ↓rgd, ↓rgf, ↓reduceIte, Nat.reduceEqDiff, rg, ow_13, g1]
  refine do_call fn_23 (by simp only [evt, evc, upd_eq, Nat.reduceEqDiff, ↓reduceIte, maT, maC, maN, isnN, isnS] <;> rfl) (fits_any d w1) ?_
  rintro _ w2 ⟨rfl, hw2⟩
  obtain rfl : w1 = w2 := hw2
  refine ⟨trivial, ?_⟩
  simp only [↓List.toList_toArray, ↓rgd, ↓rgf, ↓reduceIte, Nat.reduceEqDiff, rg, ow_13]
  refine hK _ _ ?_; clear hK K
  exact W_ret (endQ_1 (by simp only [upd_eq, Nat.reduceEqDiff, ↓reduceIte] <;> rfl) ⟨rfl, n1.ext⟩)
set_option maxHeartbeats 400000 in
set_option maxRecDepth 8000 in
theorem alive_any (w : World) : CallK Try.prog 14 #[] w fun v w' => v = .bool true ∧ Ext noF w w' := by
  refine calls_of_W (args := []) [.tmp 0] Try.func14 rfl Try.ntmps14 Try.results14 (by simp) fun e he => ?_
  clear he
  refine W_sq fun K hK => (W_text [true] (by kernel_rfl) ?_); simp only [↓List.toList_toArray, ↓rgd, ↓rgf, ↓reduceIte, Nat.reduceEqDiff, rg, ow_14]
  refine hK _ _ ?_; clear hK K
  refine W_sq fun K hK => (W_text [false, false, true, false, true, true, true] (by kernel_rfl) ?_); simp only [↓List.toList_toArray, ↓rgd, ↓rgf, ↓reduceIte, Nat.reduceEqDiff, rg, ow_14]
  refine do_call fn_19 (by simp only [evt, evc, upd_eq, Nat.reduceEqDiff, ↓reduceIte, maT, maC, maN, isnN, isnS] <;> rfl) (exMake_any w) ?_
  rintro _ w1 ⟨rfl, X1⟩
  refine ⟨trivial, ?_⟩
  simp only [↓List.toList_toArray, ↓rgd, ↓rgf, ↓reduceIte, Nat.reduceEqDiff, rg, ow_14]
  refine do_call fn_20 (by simp only [evt, evc, upd_eq, Nat.reduceEqDiff, ↓reduceIte, maT, maC, maN, isnN, isnS] <;> rfl) (exItems_any w1) ?_
  rintro x0 w2 ⟨h2, X2⟩
  refine ⟨trivial, ?_⟩
  obtain ⟨s3, hs30, hS3⟩ := sl_hi h2 3 (by decide)
  have hs3 : sliceV Try.prog 25 x0 none (some (.int .i64 3)) none = some s3 := hs30
  simp only [↓List.toList_toArray, ↓rgd, ↓rgf, ↓reduceIte, Nat.reduceEqDiff, rg, ow_14, hs3]
  refine do_call fn_24 (by simp only [evt, evc, upd_eq, Nat.reduceEqDiff, ↓reduceIte, maT, maC, maN, isnN, isnS] <;> rfl) (impl_gitems 2 (.inr (by decide)) [] nilS false (exL.take 3) s3 w2 (nil_int _) (by decide) hS3 (by decide)) ?_
  rintro v4 w4 ⟨h4, _, X4⟩
  refine ⟨trivial, ?_⟩
  obtain ⟨a4, c4, rfl⟩ := SlV.shape h4
  have hl : (treeG [] (exL.take 3)).length = 3 := by decide
  have ht : (((3 : Nat) : Int) == 3) = true := by decide
  rw [hl]
  simp only [↓List.toList_toArray, ↓rgd, ↓rgf, ↓reduceIte, Nat.reduceEqDiff, rg, ow_14, ht]
  refine hK _ _ ?_; clear hK K
  exact W_ret (endQ_1 (by simp only [upd_eq, Nat.reduceEqDiff, ↓reduceIte] <;> rfl) ⟨rfl, (X1.tr X2).tr X4⟩)
end Go.Proofs.Ytbnnkcofnmipoaa
