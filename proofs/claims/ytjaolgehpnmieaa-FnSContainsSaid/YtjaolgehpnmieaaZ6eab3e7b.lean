/-
  What nodeRebalance's walks share. No condition.
-/
import Derived.Test.YtjaolgehpnmieaaZee1719b2
import Derived.Test.YtjaolgehpnmieaaZA
import Derived.Test.YtjaolgehpnmieaaZMSet
/-
  The item at an index, the last item. No condition.
-/
set_option linter.unusedSimpArgs false
set_option linter.unusedVariables false
namespace Go.Proofs.Ytjaolgehpnmieaa
open Go Go.Proofs
theorem vx_at2 {w : World} {b o : Nat} {xs : List It} (h : Row w b o (flat E xs)) {i : Nat} {x : It} (hi : xs[i]? = some x) : rd w b (o + i) = some (kV (κ x)) := val_at h hi
theorem ez_v {w : World} {m : Nat} (h : Row w m 4 (E.cel zIt)) : rd w m 4 = some (kV (κ zIt)) := row_cell h (j := 0) rfl
theorem ez_k {w : World} {m : Nat} (h : Row w m 4 (E.cel zIt)) : rd w m 4 = some (kV (κ zIt)) := row_cell h (j := 0) rfl
/-- The item at an index, and whether there is one. -/
def nth (l : List It) (i : Int) : Option It := if 0 ≤ i then l[i.toNat]? else none
def gotV (x : Option It) : Value := .tuple #[kV (κ (x.getD zIt)), vV (x.getD zIt), .bool x.isSome]
theorem Tr.pos {w : World} {iso : Int} {mn mx h lo b : Nat} {xs : List It} {F : Nat → Nat → Prop} (ht : Tr E iso mn mx h w lo b xs F) (hlo : 1 ≤ lo) : 0 < xs.length := by
  obtain ⟨bi, oi, cap, ks, ch, ho, h1, h2, _, h | ⟨h', bc, ba, oa, capc, cs, _, _, n⟩⟩ := ht.open
  · rw [h.2.2.1]; omega
  · rw [n.eq]; have := weave_length (cs.map Kid.xs) ks (by simpa using n.len); omega
theorem weave_getLast {cs : List (List It)} {ks : List It} {c : List It} (hl : cs.length = ks.length + 1) (hc : cs[ks.length]? = some c) (hne : 0 < c.length) : (weave cs ks).getLast? = c.getLast? := by
  have key : ∀ (n : Nat) (cs : List (List It)) (ks : List It), ks.length = n → cs.length = ks.length + 1 → cs[ks.length]? = some c → ∃ A, weave cs ks = A ++ c := by
    intro n
    induction n with
    | zero =>
      intro cs ks h0 hl hc
      obtain rfl : ks = [] := List.eq_nil_of_length_eq_zero h0
      match cs, hl with
      | [d], _ => simp at hc; subst hc; exact ⟨[], rfl⟩
    | succ n ih =>
      intro cs ks h0 hl hc
      match cs, ks, hl with
      | d :: cs, k :: ks, hl =>
        obtain ⟨A, hA⟩ := ih cs ks (by simpa using h0) (by simpa using hl) (by simpa using hc)
        exact ⟨d ++ k :: A, by rw [weave_cons, hA]; simp⟩
  obtain ⟨A, hA⟩ := key _ cs ks rfl hl hc
  rw [hA, List.getLast?_append]
  cases c with
  | nil => simp at hne
  | cons x c => simp [List.getLast?_cons]
theorem endQ_tct {P : Program} {R : Value → World → Prop} {e : Env} {w : World} {t u a T : Nat} {k : Option Nat} {ad : Addr} {x y v : Value} (ht : e t = x) (ha : e a = .pointer (some ad)) (hu : e u = y) (hl : ldK P T = some k) (hv : loadV w ad k = some v) (h : R (.tuple #[x, v, y]) w) :
    endQ P [.tmp t, .cell a T, .tmp u] R .ret e w := ⟨.tuple #[x, v, y], by simp [resAll, resOne, ht, hu, ha, hl, hv, resVal], h⟩
set_option maxHeartbeats 1000000 in
set_option maxRecDepth 8000 in
theorem maxMut_any (m d : Nat) (iso : Int) (xs : List It) (hd : xs ≠ [] → 2 ≤ d ∧ d ≤ 128) (F : Nat → Nat → Prop) (mu : Bool) (w0 : World) (hM : MapAt w0 m d iso xs F) :
    CallK Try.prog 67 #[ptr m, .bool mu] w0 fun v w' => v = gotV xs.getLast? ∧ Ext noF w0 w' := by
  refine calls_of_W [.tmp 4, .cell 5 74, .tmp 6] Try.func67 rfl Try.ntmps67 Try.results67 (by simp) fun e he => ?_
  have e0 : e 0 = ptr m := he 0 _ rfl
  have e1 : e 1 = .bool mu := he 1 _ rfl
  clear he
  refine W_sq fun K hK => (W_text [true, false, true] (by kernel_rfl) ?_); simp only [↓List.toList_toArray, ↓rgd, ↓rgf, ↓reduceIte, Nat.reduceEqDiff, rg, ow_67]
  refine do_alloc z_unit fun w nq => ⟨trivial, ?_⟩
  simp only [↓List.toList_toArray, ↓rgd, ↓rgf, ↓reduceIte, Nat.reduceEqDiff, rg, ow_67]
  refine hK _ _ ?_; clear hK K
  have X0 := nq.ext
  have sq := nq.size
  obtain ⟨q, hq⟩ : ∃ q, q = w0.heap.size := ⟨_, rfl⟩
  have wq : wok w q 0 := by rw [hq]; exact nq.wok
  replace hM := hM.ext X0
  rw [← hq]
  have hql : q < w.heap.size := by omega
  clear nq hq sq
  refine W_seq ?_
  rcases hM.root with ⟨rfl, hr⟩ | ⟨h, b, hr, ht⟩
  · have tm := wok.ty tyP hM.cfg.wok
    have M1 : readsB (some (some [m])) m = true := by simp [readsB]
    have hk := ez_k hM.cfg.ez
    refine W_sq fun K hK => (W_text [true, true, true, true, true] (by kernel_rfl) ?_); simp only [↓List.toList_toArray, ↓rgd, ↓rgf, ↓reduceIte, Nat.reduceEqDiff, rg, ow_67, e0, ptr_eq, hr]
    refine hK _ _ ?_; clear hK K
    refine W_true (by simp only [evt, evc, upd_eq, Nat.reduceEqDiff, ↓reduceIte, ntT, ntF] <;> rfl) ?_
    have hml := wok_lt hM.cfg.wok
    refine W_sq fun K hK => (W_draw (some (some [m])) none [(0, 0, 0), (0, 1, 0), (0, 2, 0), (0, 3, 0), (0, 4, 0), (0, 5, 0), (0, 6, 0), (0, 7, 0), (0, 8, 0), (0, 9, 0), (0, 10, 0), (1, 11, 0), (0, 12, 0)] mixed (by kernel_rfl) ?_); simp only [↓List.toList_toArray, ↓rgd, ↓rgf, ↓reduceIte, Nat.reduceEqDiff, rg, ow_67, e0, ptr_eq, hk, tm, M1]
    refine do_store (by simp only [evt, evc, upd_eq, Nat.reduceEqDiff, ↓reduceIte, ntT, ntF] <;> rfl) (by simp only [evt, evc, upd_eq, Nat.reduceEqDiff, ↓reduceIte, ntT, ntF] <;> rfl) sz_74 rfl wq (by decide) (fun _ h => by cases h) fun w2 x2 r2 s2 => ⟨.inr (keeps_on x2 fun y hy => by
      simp only [List.mem_cons, List.not_mem_nil, or_false] at hy
      subst hy
      exact ⟨by (try rw [sz_dr]); omega, fun o g => by simp only [rng] at g; omega⟩), ?_⟩
    simp only [↓List.toList_toArray, ↓rgd, ↓rgf, ↓reduceIte, Nat.reduceEqDiff, rg, ow_67]
    refine hK _ _ ?_; clear hK K
    refine W_ret ?_
    simp only [andThen_ret]
    exact endQ_tct (by simp only [upd_eq, Nat.reduceEqDiff, ↓reduceIte] <;> rfl) (by simp only [upd_eq, Nat.reduceEqDiff, ↓reduceIte] <;> rfl) (by simp only [upd_eq, Nat.reduceEqDiff, ↓reduceIte] <;> rfl) ld_74 ld_unit ⟨rfl, noF_of X0 x2.od fun y o _ k => by simp only [rng] at k; omega⟩
  · obtain ⟨hd, hd'⟩ := hd (by have := ht.pos (Nat.le_refl 1); intro e; rw [e] at this; simp at this)
    refine W_sq fun K hK => (W_text [true, true, true, true, true] (by kernel_rfl) ?_); simp only [↓List.toList_toArray, ↓rgd, ↓rgf, ↓reduceIte, Nat.reduceEqDiff, rg, ow_67, e0, ptr_eq, hr]
    refine hK _ _ ?_; clear hK K
    refine W_false (by simp only [evt, evc, upd_eq, Nat.reduceEqDiff, ↓reduceIte, ntT, ntF] <;> rfl) (W_skip ?_)
    show W _ _ _ _ _ _
    refine W_sq fun K hK => (W_text [true, true, true, true, true, false, true] (by kernel_rfl) ?_); simp only [↓List.toList_toArray, ↓rgd, ↓rgf, ↓reduceIte, Nat.reduceEqDiff, rg, ow_67, e0, e1, ptr_eq]
    refine do_call fn_62 (by simp only [evt, evc, upd_eq, Nat.reduceEqDiff, ↓reduceIte, maT, maC, maN, isnN, isnS] <;> rfl) (isoLoad_any m m 2 b mu iso w hM.cfg.iso hr ht.iso0.1) ?_
    rintro _ w1 ⟨rfl, r1⟩
    refine ⟨trivial, ?_⟩
    simp only [↓List.toList_toArray, ↓rgd, ↓rgf, ↓reduceIte, Nat.reduceEqDiff, rg, ow_67]
    refine hK _ _ ?_; clear hK K
    refine W_block (W_loop (fun mm e w' => ∃ (lo b : Nat) (ys : List It) (F : Nat → Nat → Prop), Tr E iso (d - 1) (2 * d - 1) mm w' lo b ys F ∧ 1 ≤ lo ∧ ys.getLast? = xs.getLast? ∧ Ext noF w w' ∧ e 0 = ptr m ∧ e 1 = .bool mu ∧ e 5 = .pointer (some ⟨q, 0, none⟩) ∧ e 7 = ptr b)
      h ⟨1, b, xs, F, ht.ext r1.ext (fun _ _ _ h => h), Nat.le_refl _, rfl, r1.ext, ?_, ?_, ?_, ?_⟩ ?_)
    · simp only [upd_eq, Nat.reduceEqDiff, ↓reduceIte]; exact e0
    · simp only [upd_eq, Nat.reduceEqDiff, ↓reduceIte]; exact e1
    · simp only [upd_eq, Nat.reduceEqDiff, ↓reduceIte]
    · simp only [upd_eq, Nat.reduceEqDiff, ↓reduceIte]
    · clear e0 e1 e hr ht r1
      rintro mm e w' ⟨lo, b, ys, F', ht, hlo, hl, X, e0, e1, e5, e7⟩
      have hi0 := X.rd hM.cfg.iso (fun h => h)
      refine W_block (W_seq ?_)
      obtain ⟨bi, oi, cap, ks, ch, ho, h1, h2, _, ⟨rfl, rfl, rfl, hF⟩ | ⟨h', bc, ba, oa, capc, cs, rfl, rfl, n⟩⟩ := ht.open
      · refine W_sq fun K hK => (W_text [true, false] (by kernel_rfl) ?_); simp only [↓List.toList_toArray, ↓rgd, ↓rgf, ↓reduceIte, Nat.reduceEqDiff, rg, ow_67, e7]
        refine do_call fn_63 (by simp only [evt, evc, upd_eq, Nat.reduceEqDiff, ↓reduceIte, maT, maC, maN, isnN, isnS] <;> rfl) (leaf_any b none w' ho.h3) ?_
        rintro _ w' ⟨rfl, rfl⟩
        refine ⟨trivial, ?_⟩
        simp only [↓List.toList_toArray, ↓rgd, ↓rgf, ↓reduceIte, Nat.reduceEqDiff, rg, ow_67]
        refine hK _ _ ?_; clear hK K
        refine W_true (by simp only [evt, evc, upd_eq, Nat.reduceEqDiff, ↓reduceIte, ntT, ntF] <;> rfl) ?_
        obtain ⟨x, hx⟩ : ∃ x, ys[ys.length - 1]? = some x := ⟨_, List.getElem?_eq_getElem (by omega)⟩
        have hb2 := ho.h2
        have hlt : ys.length - 1 < ys.length := by omega
        have ix := it_at ho.row hx
        have q1 := wsub1 ys.length (by omega) (by have := ho.le; omega)
        have M1 : readsB (some (some [b, bi])) b = true := by simp [readsB]
        have M2 : readsB (some (some [b, bi])) bi = true := by simp [readsB]
        refine W_sq fun K hK => (W_draw (some (some [b, bi])) (some 13) [(0, 0, 0), (0, 1, 0), (0, 2, 0), (0, 3, 0), (0, 4, 0), (0, 5, 0), (0, 6, 0), (0, 7, 0), (0, 8, 0), (0, 9, 0), (0, 10, 0), (0, 11, 0), (1, 12, 0), (1, 13, 0)] mixed (by kernel_rfl) ?_); simp only [↓List.toList_toArray, ↓rgd, ↓rgf, ↓reduceIte, Nat.reduceEqDiff, rg, ow_67, e7, ptr_eq, hb2, hlt, ix, q1, M1, M2]
        refine do_alloc z_it fun w2 n2 => ⟨.inr (keeps_on n2.ext fun y hy => ⟨?_, fun _ h => h⟩), ?_⟩
        · rw [sz_dr]
          simp only [List.mem_cons, List.not_mem_nil, or_false] at hy
          rcases hy with rfl | rfl
          · exact wok_lt ho.wb
          · exact wok_lt ho.wi
        simp only [↓List.toList_toArray, ↓rgd, ↓rgf, ↓reduceIte, Nat.reduceEqDiff, rg, ow_67]
        have n2 := n2.od
        have s2 := n2.size
        refine do_store (v := itV x) (by simp only [evt, evc, upd_eq, Nat.reduceEqDiff, ↓reduceIte, ntT, ntF] <;> rfl) (by simp only [evt, evc, upd_eq, Nat.reduceEqDiff, ↓reduceIte, ntT, ntF] <;> rfl) sz_76 (itV_len x) n2.wok (by decide) (itV_oc x) fun w3 x3 r3 s3 => ⟨.inl trivial, ?_⟩
        simp only [↓List.toList_toArray, ↓rgd, ↓rgf, ↓reduceIte, Nat.reduceEqDiff, rg, ow_67]
        refine hK _ _ ?_; clear hK K
        have X3 : Ext noF w' w3 := noF_of n2.ext x3 fun y o hy h => by simp only [rng] at h; omega
        have rx : Row w3 w'.heap.size 0 (E.cel x) := r3
        have hk := row_cell rx (j := 0) rfl
        rw [Nat.zero_add] at hk
        have ty3 := wok.ty tyP (x3.wok n2.wok)
        have M3 : readsB (some (some [w'.heap.size])) w'.heap.size = true := by simp [readsB]
        have sX := X.size
        refine W_sq fun K hK => (W_draw (some (some [w'.heap.size])) none [(0, 0, 0), (0, 1, 0), (0, 2, 0), (0, 3, 0), (0, 4, 0), (1, 5, 0), (0, 6, 0)] mixed (by kernel_rfl) ?_); simp only [↓List.toList_toArray, ↓rgd, ↓rgf, ↓reduceIte, Nat.reduceEqDiff, rg, ow_67, hk, ty3, M3]
        refine do_store (b := q) (o := 0) (by simp only [evt, upd_eq, Nat.reduceEqDiff, ↓reduceIte]; exact e5) (by simp only [evt, evc, upd_eq, Nat.reduceEqDiff, ↓reduceIte, ntT, ntF] <;> rfl) sz_74 rfl (X3.wok (X.wok wq)) (by decide) (fun _ h => by cases h) fun w4 x4 r4 s4 => ⟨.inr (keeps_on x4 fun y hy => by
          simp only [List.mem_cons, List.not_mem_nil, or_false] at hy
          subst hy
          exact ⟨by (try rw [sz_dr]); omega, fun o g => by simp only [rng] at g; omega⟩), ?_⟩
        simp only [↓List.toList_toArray, ↓rgd, ↓rgf, ↓reduceIte, Nat.reduceEqDiff, rg, ow_67]
        refine hK _ _ ?_; clear hK K
        refine W_ret ?_
        simp only [andThen_ret, inBlk_ret]
        have hgl : xs.getLast? = some x := by rw [← hl, List.getLast?_eq_getElem?]; exact hx
        refine endQ_tct (by simp only [upd_eq, Nat.reduceEqDiff, ↓reduceIte] <;> rfl) (by simp only [upd_eq, Nat.reduceEqDiff, ↓reduceIte]; exact e5) (by simp only [upd_eq, Nat.reduceEqDiff, ↓reduceIte] <;> rfl) ld_74 ld_unit ⟨?_, noF_of ((X0.tr X).tr X3) x4.od fun y o _ k => by simp only [rng] at k; omega⟩
        rw [hgl]; rfl
      · have hcl : ks.length < cs.length := by have := n.len; omega
        obtain ⟨c, hc⟩ : ∃ c, cs[ks.length]? = some c := ⟨_, List.getElem?_eq_getElem hcl⟩
        have hcm : c ∈ cs := List.mem_of_getElem? hc
        have htc := n.sub c hcm
        have hcr : rd w' ba (oa + ks.length) = some (ptr c.b) := n.kids.row ks.length _ (by rw [List.getElem?_map, List.getElem?_map, hc]; rfl)
        have hb3 := ho.h3
        have hc0 := n.kids.c0
        rw [List.length_map] at hc0
        refine W_sq fun K hK => (W_text [true, false] (by kernel_rfl) ?_); simp only [↓List.toList_toArray, ↓rgd, ↓rgf, ↓reduceIte, Nat.reduceEqDiff, rg, ow_67, e7]
        refine do_call fn_63 (by simp only [evt, evc, upd_eq, Nat.reduceEqDiff, ↓reduceIte, maT, maC, maN, isnN, isnS] <;> rfl) (leaf_any b (some ⟨bc, 0, none⟩) w' ho.h3) ?_
        rintro _ w' ⟨rfl, rfl⟩
        refine ⟨trivial, ?_⟩
        simp only [↓List.toList_toArray, ↓rgd, ↓rgf, ↓reduceIte, Nat.reduceEqDiff, rg, ow_67]
        refine hK _ _ ?_; clear hK K
        refine W_false (by simp only [evt, evc, upd_eq, Nat.reduceEqDiff, ↓reduceIte, ntT, ntF] <;> rfl) (W_skip ?_)
        show W _ _ _ _ _ _
        have hlc : cs.length - 1 < cs.length := by omega
        have hl1 : cs.length - 1 = ks.length := by have := n.len; omega
        have q1 := wsub1 cs.length (by omega) (by have := n.len; omega)
        refine W_rg fun K hK => (W_draw (some none) none [(0, 0, 0), (0, 1, 0), (0, 2, 0), (0, 3, 0), (0, 4, 0), (0, 5, 0), (0, 6, 0), (0, 7, 0), (0, 8, 0), (0, 9, 0), (0, 10, 0), (0, 11, 0), (0, 12, 0), (0, 13, 0), (0, 14, 0), (0, 15, 0), (0, 16, 0), (1, 17, 0), (0, 18, 0)] mixed (by kernel_rfl) ?_); simp only [↓List.toList_toArray, ↓rgd, ↓rgf, ↓reduceIte, Nat.reduceEqDiff, rg, ow_67, e0, e1, e7, ptr_eq, hb3, hc0, q1, hlc]
        rw [hl1]
        refine do_call fn_62 (by simp only [evt, evc, upd_eq, Nat.reduceEqDiff, ↓reduceIte, maT, maC, maN, isnN, isnS] <;> rfl) (isoLoad_any m ba (oa + ks.length) c.b mu iso _ hi0 hcr htc.iso0.1) ?_
        rintro _ w2 ⟨rfl, r2⟩
        refine ⟨.inr (keeps_ro r2), ?_⟩
        simp only [↓List.toList_toArray, ↓rgd, ↓rgf, ↓reduceIte, Nat.reduceEqDiff, rg, ow_67]
        refine hK _ _ ?_; clear hK K
        have X2 : Ext noF w' w2 := (RO.dr _ _ |>.tr r2).ext
        have hlast : (weave (cs.map Kid.xs) ks).getLast? = c.xs.getLast? := weave_getLast (by simpa using n.len) (by rw [List.getElem?_map, hc]; rfl) (htc.pos (by omega))
        refine ⟨h', by omega, d - 1, c.b, c.xs, c.F, htc.ext X2 (fun _ _ _ h => h), by omega, ?_, X.tr X2, ?_, ?_, ?_, ?_⟩
        · rw [← hl, n.eq, hlast]
        · simp only [upd_eq, Nat.reduceEqDiff, ↓reduceIte]; exact e0
        · simp only [upd_eq, Nat.reduceEqDiff, ↓reduceIte]; exact e1
        · simp only [upd_eq, Nat.reduceEqDiff, ↓reduceIte]; exact e5
        · simp only [upd_eq, Nat.reduceEqDiff, ↓reduceIte]
end Go.Proofs.Ytjaolgehpnmieaa
/-
  Replies; the reference's cut of a list, and the item at an index. No condition.
-/
set_option linter.unusedSimpArgs false
set_option linter.unusedVariables false
namespace Go.Proofs.Ytjaolgehpnmieaa
open Go Go.Proofs
theorem nth_none {xs : List It} {i : Int} (h : i < 0 ∨ (xs.length : Int) ≤ i) : nth xs i = none := by
  unfold nth
  split
  · exact List.getElem?_eq_none (by omega)
  · rfl
def foO (x : Option It) : It × Bool := (x.getD (0, 0), x.isSome)
def foP (x : It) (ok : Bool) : It × Bool := if ok = true then (x, true) else ((0, 0), false)
theorem oc_fo (x : It × Bool) : oc (foV x).cells.toList := Ef.one x
theorem fo_len (x : It × Bool) : (foV x).cells.toList.length = 3 := rfl
theorem bu_fo1 (x : It) : buildV Try.prog 38 [(0, iV x), (1, .bool true)] = some (foV (x, true)) := by kernel_rfl
theorem bu_fo0 : buildV Try.prog 38 [] = some (foV ((0, 0), false)) := by kernel_rfl
theorem z_fo : zK Try.prog 38 = some [.int .i64 0, .int .i64 0, .bool false] := by kernel_rfl
theorem ld_fo {w : World} {b : Nat} {x : It × Bool} (h : Row w b 0 (Ef.cel x)) : loadV w ⟨b, 0, none⟩ (some 3) = some (foV x) := h.rdA 3 (by simp [Ef])
theorem foP_got (x : Option It) : foP (κ (x.getD zIt), (x.getD zIt).2) x.isSome = foO x := by cases x <;> rfl
/-- A list without an item, and the item. -/
def cutL (l : List It) (i : Int) : List It := if 0 ≤ i then l.eraseIdx i.toNat else l
theorem cutL_out {l : List It} {i : Int} (h : i < 0 ∨ (l.length : Int) ≤ i) : cutL l i = l := by
  unfold cutL
  split
  · exact List.eraseIdx_of_length_le (by omega)
  · rfl
set_option maxHeartbeats 1000000 in
set_option maxRecDepth 8000 in
theorem cut_since (l : List It) (lv : Value) (ix : Int) (w : World) (hl : SlI w lv l) (hbig : l.length ≤ 2147483648) :
    CallK Try.prog 54 #[lv, .int .i64 ix] w fun v w' => ∃ sv, v = .tuple #[sv, foV (foO (nth l ix))] ∧ SlI w' sv (cutL l ix) ∧ Ext noF w w' ∧ (since w.heap.size sv ∨ sv = lv) := by
  obtain ⟨a, c, hlv⟩ := hl.shape
  refine calls_of_W [.tmp 4, .cell 5 38] Try.func54 rfl Try.ntmps54 Try.results54 (by simp) fun e he => ?_
  have e0 : e 0 = .slice a l.length c := by rw [← hlv]; exact he 0 _ rfl
  have e1 : e 1 = .int .i64 ix := he 1 _ rfl
  clear he
  refine W_sq fun K hK => (W_text [true, false] (by kernel_rfl) ?_); simp only [↓List.toList_toArray, ↓rgd, ↓rgf, ↓reduceIte, Nat.reduceEqDiff, rg, ow_54]
  refine do_alloc z_fo fun w1 n1 => ⟨trivial, ?_⟩
  simp only [↓List.toList_toArray, ↓rgd, ↓rgf, ↓reduceIte, Nat.reduceEqDiff, rg, ow_54]
  refine hK _ _ ?_; clear hK K
  have s1 := n1.size
  have out : (ix < 0 ∨ (l.length : Int) ≤ ix) → nth l ix = none ∧ cutL l ix = l := fun h => ⟨nth_none h, cutL_out h⟩
  refine W_seq ?_
  by_cases h1 : ix < 0
  · have t1 : decide (ix < 0) = true := by simp [h1]
    refine W_sq fun K hK => (W_text [true, true, true, true, true, true, true, true] (by kernel_rfl) ?_); simp only [↓List.toList_toArray, ↓rgd, ↓rgf, ↓reduceIte, Nat.reduceEqDiff, rg, ow_54, e0, e1, t1]
    refine hK _ _ ?_; clear hK K
    refine W_true (by simp only [evt, evc, upd_eq, Nat.reduceEqDiff, ↓reduceIte, ntT, ntF] <;> rfl) ?_
    refine W_sq fun K hK => (W_text [true, true, true, false] (by kernel_rfl) ?_); simp only [↓List.toList_toArray, ↓rgd, ↓rgf, ↓reduceIte, Nat.reduceEqDiff, rg, ow_54, e0, bu_fo0]
    refine do_store (v := foV ((0, 0), false)) (by simp only [evt, evc, upd_eq, Nat.reduceEqDiff, ↓reduceIte, ntT, ntF] <;> rfl) (by simp only [evt, evc, upd_eq, Nat.reduceEqDiff, ↓reduceIte, ntT, ntF] <;> rfl) sz_38 rfl n1.wok (by decide) (oc_fo _) fun w3 x3 r3 s3 => ⟨trivial, ?_⟩
    simp only [↓List.toList_toArray, ↓rgd, ↓rgf, ↓reduceIte, Nat.reduceEqDiff, rg, ow_54]
    refine hK _ _ ?_; clear hK K
    refine W_ret ?_
    simp only [andThen_ret]
    have X3 := noF_of n1.ext x3 fun y o hy h => by simp only [rng] at h; omega
    rw [(out (.inl h1)).1, (out (.inl h1)).2]
    exact endQ_tc (by simp only [upd_eq, Nat.reduceEqDiff, ↓reduceIte] <;> rfl) (by simp only [upd_eq, Nat.reduceEqDiff, ↓reduceIte]) ld_38 (ld_fo r3) ⟨_, rfl, by rw [← hlv]; exact hl.ext0 X3, X3, .inr hlv.symm⟩
  have t1 : decide (ix < 0) = false := by simp; omega
  by_cases h2 : (l.length : Int) ≤ ix
  · have t2 : decide ((l.length : Int) ≤ ix) = true := by simp [h2]
    refine W_sq fun K hK => (W_text [true, true, true, true, true, true, true, true] (by kernel_rfl) ?_); simp only [↓List.toList_toArray, ↓rgd, ↓rgf, ↓reduceIte, Nat.reduceEqDiff, rg, ow_54, e0, e1, t1, t2]
    refine hK _ _ ?_; clear hK K
    refine W_true (by simp only [evt, evc, upd_eq, Nat.reduceEqDiff, ↓reduceIte, ntT, ntF] <;> rfl) ?_
    refine W_sq fun K hK => (W_text [true, true, true, false] (by kernel_rfl) ?_); simp only [↓List.toList_toArray, ↓rgd, ↓rgf, ↓reduceIte, Nat.reduceEqDiff, rg, ow_54, e0, bu_fo0]
    refine do_store (v := foV ((0, 0), false)) (by simp only [evt, evc, upd_eq, Nat.reduceEqDiff, ↓reduceIte, ntT, ntF] <;> rfl) (by simp only [evt, evc, upd_eq, Nat.reduceEqDiff, ↓reduceIte, ntT, ntF] <;> rfl) sz_38 rfl n1.wok (by decide) (oc_fo _) fun w3 x3 r3 s3 => ⟨trivial, ?_⟩
    simp only [↓List.toList_toArray, ↓rgd, ↓rgf, ↓reduceIte, Nat.reduceEqDiff, rg, ow_54]
    refine hK _ _ ?_; clear hK K
    refine W_ret ?_
    simp only [andThen_ret]
    have X3 := noF_of n1.ext x3 fun y o hy h => by simp only [rng] at h; omega
    rw [(out (.inr h2)).1, (out (.inr h2)).2]
    exact endQ_tc (by simp only [upd_eq, Nat.reduceEqDiff, ↓reduceIte] <;> rfl) (by simp only [upd_eq, Nat.reduceEqDiff, ↓reduceIte]) ld_38 (ld_fo r3) ⟨_, rfl, by rw [← hlv]; exact hl.ext0 X3, X3, .inr hlv.symm⟩
  have t2 : decide ((l.length : Int) ≤ ix) = false := by simp; omega
  refine W_sq fun K hK => (W_text [true, true, true, true, true, true, true, true] (by kernel_rfl) ?_); simp only [↓List.toList_toArray, ↓rgd, ↓rgf, ↓reduceIte, Nat.reduceEqDiff, rg, ow_54, e0, e1, t1, t2]
  refine hK _ _ ?_; clear hK K
  refine W_false (by simp only [evt, evc, upd_eq, Nat.reduceEqDiff, ↓reduceIte, ntT, ntF] <;> rfl) (W_skip ?_)
  show W _ _ _ _ _ _
  obtain ⟨i, rfl⟩ : ∃ i : Nat, ix = i := ⟨ix.toNat, by omega⟩
  have hi : i < l.length := by omega
  obtain ⟨x, hx⟩ : ∃ x, l[i]? = some x := ⟨_, List.getElem?_eq_getElem hi⟩
  have hn : nth l (i : Int) = some x := by simp [nth, hx]
  obtain ⟨sv1, hs1, hsl1⟩ := sl_hi (hl.ext0 n1.ext) i (by omega)
  obtain ⟨sv2, hs2, hsl2⟩ := sl_lo (hl.ext0 n1.ext) (i + 1) (by omega)
  rw [hlv] at hs1 hs2
  have q1 := wadd1 i (by omega)
  obtain ⟨lb, lo, rfl, row⟩ := (hl.ext0 n1.ext).at hlv hi
  have ixx := iV_at row hx
  have hlb : lb < w1.heap.size := (hl.ext0 n1.ext).lt hlv
  have M1 : readsB (some (some [lb])) lb = true := by simp [readsB]
  refine W_sq fun K hK => (W_draw (some (some [lb])) (some 16) [(0, 1, 0), (0, 2, 0), (0, 3, 0), (0, 5, 0), (0, 6, 0), (0, 7, 0), (0, 8, 0), (0, 10, 0), (0, 11, 0), (0, 12, 0), (0, 13, 0), (0, 14, 0), (1, 0, 0), (1, 4, 0), (1, 9, 0), (0, 15, 0), (1, 16, 0)] mixed (by kernel_rfl) ?_); simp only [↓List.toList_toArray, ↓rgd, ↓rgf, ↓reduceIte, Nat.reduceEqDiff, rg, ow_54, e0, e1, hs1, hs2, q1, hi, ixx, bu_fo1, M1]
  refine do_bsl rfl bs_item0 fun w2 n2 => ⟨.inr (keeps_on n2.ext fun y hy => ⟨?_, fun _ h => h⟩), ?_⟩
  · rw [sz_dr]
    simp only [List.mem_cons, List.not_mem_nil, or_false] at hy
    omega
  simp only [↓List.toList_toArray, ↓rgd, ↓rgf, ↓reduceIte, Nat.reduceEqDiff, rg, ow_54, e0, e1, hs1, hs2, q1, hi, ixx, bu_fo1]
  have n2 := n2.od
  have s2 := n2.size
  have hv2 : SlV w2 2 (.slice (some ⟨w1.heap.size, 0, none⟩) 0 0) 0 [] := ⟨rfl, .inr ⟨_, 0, 0, rfl, Nat.le_refl _, Row.nil _ _ _, n2.wok.R (Nat.le_refl _)⟩⟩
  refine do_append (by simp only [evt, evc, upd_eq, Nat.reduceEqDiff, ↓reduceIte, ntT, ntF] <;> rfl) (by simp only [evt, evc, upd_eq, Nat.reduceEqDiff, ↓reduceIte, ntT, ntF] <;> rfl) el_item rfl ni_i hv2 (hsl1.ext0 n2.ext) (by omega) (by decide) (flat_oc Ei _) fun v3 w3 a3 => ?_
  obtain ⟨hS3, hg3, x3⟩ := app_since (B := w1.heap.size) a3 (fun b o n c h => by simp only [Value.slice.injEq, Option.some.injEq, Addr.mk.injEq] at h; omega) (by omega)
  refine ⟨.inr (keeps_on x3 fun y hy => ?_), ?_⟩
  · simp only [List.mem_cons, List.not_mem_nil, or_false] at hy
    exact ⟨by omega, fun o h => by omega⟩
  simp only [↓List.toList_toArray, ↓rgd, ↓rgf, ↓reduceIte, Nat.reduceEqDiff, rg, ow_54, e0, e1, hs1, hs2, q1, hi, ixx, bu_fo1]
  have s3 := x3.size
  have hsl2' : SlV w3 2 sv2 (l.length - (i + 1)) (flat Ei (l.drop (i + 1))) := (hsl2.ext0 n2.ext).ext x3 fun b o c h k hk g => by
    have := hsl2.lt h
    omega
  refine do_append (by simp only [evt, evc, upd_eq, Nat.reduceEqDiff, ↓reduceIte, ntT, ntF] <;> rfl) (by simp only [evt, evc, upd_eq, Nat.reduceEqDiff, ↓reduceIte, ntT, ntF] <;> rfl) el_item rfl ni_i hS3 hsl2' (by omega) (by decide) (flat_oc Ei _) fun v4 w4 a4 => ?_
  obtain ⟨hS4, hg4, x4⟩ := app_since (B := w1.heap.size) a4 hg3 (by omega)
  refine ⟨.inr (keeps_on x4 fun y hy => ?_), ?_⟩
  · simp only [List.mem_cons, List.not_mem_nil, or_false] at hy
    exact ⟨by omega, fun o h => by omega⟩
  simp only [↓List.toList_toArray, ↓rgd, ↓rgf, ↓reduceIte, Nat.reduceEqDiff, rg, ow_54, e0, e1, hs1, hs2, q1, hi, ixx, bu_fo1]
  have s4 := x4.size
  have X4 : Ext (fun y _ => w.heap.size ≤ y) w w4 := ((n1.ext.mono (G := fun y _ => w.heap.size ≤ y) fun _ _ _ h => h.elim).tr (n2.ext.mono fun _ _ _ h => h.elim)).tr ((x3.tr x4).mono fun y o _ h => by omega)
  refine do_store (v := foV (x, true)) (by simp only [evt, evc, upd_eq, Nat.reduceEqDiff, ↓reduceIte, ntT, ntF] <;> rfl) (by simp only [evt, evc, upd_eq, Nat.reduceEqDiff, ↓reduceIte, ntT, ntF] <;> rfl) sz_38 rfl (x4.wok (x3.wok (n2.ext.wok n1.wok))) (by decide) (oc_fo _) fun w5 x5 r5 s5 => ⟨.inl trivial, ?_⟩
  simp only [↓List.toList_toArray, ↓rgd, ↓rgf, ↓reduceIte, Nat.reduceEqDiff, rg, ow_54]
  refine hK _ _ ?_; clear hK K
  refine W_ret ?_
  rw [hn]
  refine endQ_tc (by simp only [upd_eq, Nat.reduceEqDiff, ↓reduceIte] <;> rfl) (by simp only [upd_eq, Nat.reduceEqDiff, ↓reduceIte]) ld_38 (ld_fo r5) ⟨_, rfl, ?_, noF_of (Ext.refl _ _) (X4.tr (x5.mono fun y o _ h => by simp only [rng] at h; show w.heap.size ≤ y; omega)) (fun y o hy h => by omega), .inl fun b o n c h => by have := hg4 _ _ _ _ h; omega⟩
  have he : cutL l (i : Int) = l.take i ++ l.drop (i + 1) := by simp [cutL, List.eraseIdx_eq_take_drop_succ]
  have hln : (cutL l (i : Int)).length = 0 + i + (l.length - (i + 1)) := by rw [he, List.length_append, List.length_take, List.length_drop]; omega
  rw [SlI, hln, he, flat_append]
  have := hS4.ext x5 fun b o c h k hk g => by
    have := hg4 _ _ _ _ h
    simp only [rng] at g
    omega
  simpa using this
theorem cut_any (l : List It) (lv : Value) (ix : Int) (w : World) (hl : SlI w lv l) (hbig : l.length ≤ 2147483648) :
    CallK Try.prog 54 #[lv, .int .i64 ix] w fun v w' => ∃ sv, v = .tuple #[sv, foV (foO (nth l ix))] ∧ SlI w' sv (cutL l ix) ∧ Ext noF w w' := by
  refine CallK_mono (cut_since l lv ix w hl hbig) ?_
  rintro v w' ⟨sv, h1, h2, h3, -⟩
  exact ⟨sv, h1, h2, h3⟩
set_option maxHeartbeats 400000 in
set_option maxRecDepth 8000 in
theorem sat_any (l : List It) (lv : Value) (ix : Int) (w : World) (hl : SlI w lv l) (hbig : l.length ≤ 2147483648) :
    CallK Try.prog 39 #[lv, .int .i64 ix] w fun v w' => v = foV (foO (nth l ix)) ∧ Ext noF w w' := by
  refine calls_of_W [.cell 4 38] Try.func39 rfl Try.ntmps39 Try.results39 (by simp) fun e he => ?_
  have e0 : e 0 = lv := he 0 _ rfl
  have e1 : e 1 = .int .i64 ix := he 1 _ rfl
  clear he
  refine W_sq fun K hK => (W_text [false] (by kernel_rfl) ?_); simp only [↓List.toList_toArray, ↓rgd, ↓rgf, ↓reduceIte, Nat.reduceEqDiff, rg, ow_39]
  refine do_alloc z_fo fun w1 n1 => ⟨trivial, ?_⟩
  simp only [↓List.toList_toArray, ↓rgd, ↓rgf, ↓reduceIte, Nat.reduceEqDiff, rg, ow_39]
  refine hK _ _ ?_; clear hK K
  have s1 := n1.size
  refine W_sq fun K hK => (W_text [true, true, false, true, true, true, false, true, false] (by kernel_rfl) ?_); simp only [↓List.toList_toArray, ↓rgd, ↓rgf, ↓reduceIte, Nat.reduceEqDiff, rg, ow_39, e0, e1]
  refine do_call fn_54 (by simp only [evt, evc, upd_eq, Nat.reduceEqDiff, ↓reduceIte, maT, maC, maN, isnN, isnS] <;> rfl) (cut_any l lv ix w1 (hl.ext0 n1.ext) hbig) ?_
  rintro _ w2 ⟨sv, rfl, _, X2⟩
  refine ⟨trivial, ?_⟩
  simp only [↓List.toList_toArray, ↓rgd, ↓rgf, ↓reduceIte, Nat.reduceEqDiff, rg, ow_39]
  refine do_alloc z_fo fun w3 n3 => ⟨trivial, ?_⟩
  simp only [↓List.toList_toArray, ↓rgd, ↓rgf, ↓reduceIte, Nat.reduceEqDiff, rg, ow_39]
  have s2 := X2.size
  have s3 := n3.size
  refine do_store (v := foV (foO (nth l ix))) (by simp only [evt, evc, upd_eq, Nat.reduceEqDiff, ↓reduceIte, ntT, ntF] <;> rfl) (by simp only [evt, evc, upd_eq, Nat.reduceEqDiff, ↓reduceIte, ntT, ntF] <;> rfl) sz_38 rfl n3.wok (by decide) (oc_fo _) fun w4 x4 r4 s4 => ⟨trivial, ?_⟩
  simp only [↓List.toList_toArray, ↓rgd, ↓rgf, ↓reduceIte, Nat.reduceEqDiff, rg, ow_39]
  refine hK _ _ ?_; clear hK K
  have ld : rdA w4 w2.heap.size 0 3 = some (foV (foO (nth l ix))) := (show Row w4 w2.heap.size 0 (Ef.cel (foO (nth l ix))) from r4).rdA 3 (by simp [Ef])
  refine W_sq fun K hK => (W_text [true, false] (by kernel_rfl) ?_); simp only [↓List.toList_toArray, ↓rgd, ↓rgf, ↓reduceIte, Nat.reduceEqDiff, rg, ow_39, ld]
  refine do_store (v := foV (foO (nth l ix))) (by simp only [evt, evc, upd_eq, Nat.reduceEqDiff, ↓reduceIte, ntT, ntF] <;> rfl) (by simp only [evt, evc, upd_eq, Nat.reduceEqDiff, ↓reduceIte, ntT, ntF] <;> rfl) sz_38 rfl (x4.wok (n3.ext.wok (X2.wok n1.wok))) (by decide) (oc_fo _) fun w5 x5 r5 s5 => ⟨trivial, ?_⟩
  simp only [↓List.toList_toArray, ↓rgd, ↓rgf, ↓reduceIte, Nat.reduceEqDiff, rg, ow_39]
  refine hK _ _ ?_; clear hK K
  refine W_ret ?_
  refine endQ_c (by simp only [upd_eq, Nat.reduceEqDiff, ↓reduceIte]) ld_38 (ld_fo r5) ⟨rfl, ?_⟩
  have X4 : Ext noF w w4 := noF_of ((n1.ext.tr X2).tr n3.ext) x4 fun y o hy h => by simp only [rng] at h; omega
  exact noF_of X4 x5 fun y o hy h => by simp only [rng] at h; omega
end Go.Proofs.Ytjaolgehpnmieaa
/-
  A set's degree bounds and its setting up at the first key. No condition.
-/
set_option linter.unusedSimpArgs false
set_option linter.unusedVariables false
namespace Go.Proofs.Ytjaolgehpnmieaa
open Go Go.Proofs
set_option maxHeartbeats 400000 in
set_option maxRecDepth 8000 in
theorem minmax_0 (w : World) : CallK Try.prog 78 #[.int .i64 0] w fun v w' => v = .tuple #[.int .i64 (32 - 1 : Nat), .int .i64 (2 * 32 - 1 : Nat)] ∧ w = w' := by
  refine calls_of_W [.tmp 2, .tmp 3] Try.func78 rfl Try.ntmps78 Try.results78 (by simp) fun e he => ?_
  have e0 : e 0 = .int .i64 0 := he 0 _ rfl
  clear he
  have t1 : decide ((0 : Int) ≤ 0) = true := rfl
  have q1 : IntKind.i64.wrap ((32 : Int) * 2) = 64 := by decide
  have q2 : IntKind.i64.wrap ((64 : Int) - 1) = 63 := by decide
  have q3 : IntKind.i64.wrap ((63 : Int).tdiv 2) = 31 := by decide
  refine W_sq fun K hK => (W_text [true, true] (by kernel_rfl) ?_); simp only [↓List.toList_toArray, ↓rgd, ↓rgf, ↓reduceIte, Nat.reduceEqDiff, rg, ow_78]
  refine hK _ _ ?_; clear hK K
  refine W_seq ?_
  refine W_sq fun K hK => (W_text [true, true] (by kernel_rfl) ?_); simp only [↓List.toList_toArray, ↓rgd, ↓rgf, ↓reduceIte, Nat.reduceEqDiff, rg, ow_78, e0, t1]
  refine hK _ _ ?_; clear hK K
  refine W_true (by simp only [evt, evc, upd_eq, Nat.reduceEqDiff, ↓reduceIte, ntT, ntF] <;> rfl) ?_
  refine W_rg fun K hK => (W_text [true] (by kernel_rfl) ?_); simp only [↓List.toList_toArray, ↓rgd, ↓rgf, ↓reduceIte, Nat.reduceEqDiff, rg, ow_78]
  refine hK _ _ ?_; clear hK K
  show W _ _ _ _ _ _
  refine W_sq fun K hK => (W_text [true, true, true, true] (by kernel_rfl) ?_); simp only [↓List.toList_toArray, ↓rgd, ↓rgf, ↓reduceIte, Nat.reduceEqDiff, rg, ow_78, bv_mul, q1, q2]
  refine hK _ _ ?_; clear hK K
  refine W_sq fun K hK => (W_text [true, true, true] (by kernel_rfl) ?_); simp only [↓List.toList_toArray, ↓rgd, ↓rgf, ↓reduceIte, Nat.reduceEqDiff, rg, ow_78, q3]
  refine hK _ _ ?_; clear hK K
  refine W_sq fun K hK => (W_text [true, true, true, true] (by kernel_rfl) ?_); simp only [↓List.toList_toArray, ↓rgd, ↓rgf, ↓reduceIte, Nat.reduceEqDiff, rg, ow_78]
  refine hK _ _ ?_; clear hK K
  exact W_ret (endQ_2 (by simp only [upd_eq, Nat.reduceEqDiff, ↓reduceIte] <;> rfl) (by simp only [upd_eq, Nat.reduceEqDiff, ↓reduceIte] <;> rfl) ⟨rfl, rfl⟩)
theorem la_cv : laK Try.prog 74 115 = some .nilIface := by kernel_rfl
theorem la_ci : laK Try.prog 74 118 = some .nilIface := by kernel_rfl
/-- A set's record that is all zero. -/
theorem z_set : zK Try.prog 80 = some [.int .u64 0, .pointer none, .pointer none, .int .i64 0, .int .i64 0, .int .i64 0, .int .i64 0, .bool false, .bool false] := by kernel_rfl
set_option maxHeartbeats 400000 in
set_option maxRecDepth 8000 in
theorem init0_any (m : Nat) (w : World) (wm : wok w m 9) (hr : Row w m 5 [.int .i64 0, .int .i64 0, .bool false, .bool false]) :
    CallK Try.prog 68 #[ptr m, .int .i64 0] w fun _ w' => Ext (rng m 5 4) w w' ∧ rd w' m 5 = some (.int .i64 (32 - 1 : Nat)) ∧ rd w' m 6 = some (.int .i64 (2 * 32 - 1 : Nat)) ∧ rd w' m 7 = some (.bool false) ∧
      rd w' m 8 = some (.bool false) ∧ w'.heap.size = w.heap.size := by
  simp only [Row.cons] at hr
  obtain ⟨g5, g6, g7, g8, -⟩ := hr
  refine calls_of_W [] Try.func68 rfl Try.ntmps68 Try.results68 (by simp) fun e he => ?_
  have e0 : e 0 = ptr m := he 0 _ rfl
  have e1 : e 1 = .int .i64 0 := he 1 _ rfl
  clear he
  have t1 : ((0 : Int) != 0) = false := by simp
  refine W_seq ?_
  refine W_sq fun K hK => (W_text [true, true, true, true, true] (by kernel_rfl) ?_); simp only [↓List.toList_toArray, ↓rgd, ↓rgf, ↓reduceIte, Nat.reduceEqDiff, rg, ow_68, e0, ptr_eq, g5, t1]
  refine hK _ _ ?_; clear hK K
  refine W_false (by simp only [evt, evc, upd_eq, Nat.reduceEqDiff, ↓reduceIte, ntT, ntF] <;> rfl) (W_skip ?_)
  show W _ _ _ _ _ _
  refine W_sq fun K hK => (W_text [true, true, true, false, true, true, true, true, true, false, true, true, false] (by kernel_rfl) ?_); simp only [↓List.toList_toArray, ↓rgd, ↓rgf, ↓reduceIte, Nat.reduceEqDiff, rg, ow_68, e0, e1, ptr_eq]
  refine do_call fn_78 (by simp only [evt, evc, upd_eq, Nat.reduceEqDiff, ↓reduceIte, maT, maC, maN, isnN, isnS] <;> rfl) (minmax_0 w) ?_
  rintro _ _ ⟨rfl, rfl⟩
  refine ⟨trivial, ?_⟩
  simp only [↓List.toList_toArray, ↓rgd, ↓rgf, ↓reduceIte, Nat.reduceEqDiff, rg, ow_68, ptr_eq]
  refine do_store (by simp only [evt, evc, upd_eq, Nat.reduceEqDiff, ↓reduceIte, ntT, ntF] <;> rfl) (by simp only [evt, evc, upd_eq, Nat.reduceEqDiff, ↓reduceIte, ntT, ntF] <;> rfl) sz_3 rfl wm (by decide) (oc_one rfl rfl) fun w1 x1 r1 s1 => ⟨trivial, ?_⟩
  simp only [↓List.toList_toArray, ↓rgd, ↓rgf, ↓reduceIte, Nat.reduceEqDiff, rg, ow_68, ptr_eq]
  refine do_store (by simp only [evt, evc, upd_eq, Nat.reduceEqDiff, ↓reduceIte, ntT, ntF] <;> rfl) (by simp only [evt, evc, upd_eq, Nat.reduceEqDiff, ↓reduceIte, ntT, ntF] <;> rfl) sz_3 rfl (x1.wok wm) (by decide) (oc_one rfl rfl) fun w2 x2 r2 s2 => ⟨trivial, ?_⟩
  simp only [↓List.toList_toArray, ↓rgd, ↓rgf, ↓reduceIte, Nat.reduceEqDiff, rg, ow_68]
  refine hK _ _ ?_; clear hK K
  have n1 := tas_no (P := Try.prog) _ _ (.agg #[]) _ co_115 la_cv
  have n2 := tas_no (P := Try.prog) _ _ (.agg #[]) _ co_118 la_ci
  have ty2 := wok.ty tyP (x2.wok (x1.wok wm))
  refine W_sq fun K hK => (W_text [true, true, true, true, true, true, true, true, true, true, true, true, true, false] (by kernel_rfl) ?_); simp only [↓List.toList_toArray, ↓rgd, ↓rgf, ↓reduceIte, Nat.reduceEqDiff, rg, ow_68, e0, ptr_eq, ty2, n1]
  refine do_store (by simp only [evt, evc, upd_eq, Nat.reduceEqDiff, ↓reduceIte, ntT, ntF] <;> rfl) (by simp only [evt, evc, upd_eq, Nat.reduceEqDiff, ↓reduceIte, ntT, ntF] <;> rfl) sz_4 rfl (x2.wok (x1.wok wm)) (by decide) (oc_one rfl rfl) fun w3 x3 r3 s3 => ⟨trivial, ?_⟩
  simp only [↓List.toList_toArray, ↓rgd, ↓rgf, ↓reduceIte, Nat.reduceEqDiff, rg, ow_68]
  refine hK _ _ ?_; clear hK K
  have g8' : rd w3 m 7 = some (.bool false) := (Row.cons.1 r3).1
  have ty3 := wok.ty tyP (x3.wok (x2.wok (x1.wok wm)))
  refine W_sq fun K hK => (W_text [true, true, true, true, true] (by kernel_rfl) ?_); simp only [↓List.toList_toArray, ↓rgd, ↓rgf, ↓reduceIte, Nat.reduceEqDiff, rg, ow_68, e0, ptr_eq, g8']
  refine hK _ _ ?_; clear hK K
  refine W_true (by simp only [evt, evc, upd_eq, Nat.reduceEqDiff, ↓reduceIte, ntT, ntF] <;> rfl) ?_
  refine W_rg fun K hK => (W_text [true, true, true, true, true, true, true, true, true, true, true, true, true, false] (by kernel_rfl) ?_); simp only [↓List.toList_toArray, ↓rgd, ↓rgf, ↓reduceIte, Nat.reduceEqDiff, rg, ow_68, e0, ptr_eq, ty3, n2]
  refine do_store (by simp only [evt, evc, upd_eq, Nat.reduceEqDiff, ↓reduceIte, ntT, ntF] <;> rfl) (by simp only [evt, evc, upd_eq, Nat.reduceEqDiff, ↓reduceIte, ntT, ntF] <;> rfl) sz_4 rfl (x3.wok (x2.wok (x1.wok wm))) (by decide) (oc_one rfl rfl) fun w4 x4 r4 s4 => ⟨trivial, ?_⟩
  simp only [↓List.toList_toArray, ↓rgd, ↓rgf, ↓reduceIte, Nat.reduceEqDiff, rg, ow_68]
  refine hK _ _ ?_; clear hK K
  have X : Ext (rng m 5 4) w w4 := ((x1.trans x2 (fun _ _ g => by simp only [rng] at *; omega) fun _ _ _ g => by simp only [rng] at *; omega).trans x3 (fun _ _ g => g) fun _ _ _ g => by simp only [rng] at *; omega).trans x4 (fun _ _ g => g) fun _ _ _ g => by simp only [rng] at *; omega
  exact endQ_0n ⟨X, x4.rd (x3.rd (x2.rd (Row.cons.1 r1).1 (by simp only [rng]; omega)) (by simp only [rng]; omega)) (by simp only [rng]; omega), x4.rd (x3.rd (Row.cons.1 r2).1 (by simp only [rng]; omega)) (by simp only [rng]; omega),
    x4.rd g8' (by simp only [rng]; omega), (Row.cons.1 r4).1, by rw [s4, s3, s2, s1]⟩
end Go.Proofs.Ytjaolgehpnmieaa
/-
  Setting a key in a map; a map that is grown from a list. No condition.
-/
set_option linter.unusedSimpArgs false
set_option linter.unusedVariables false
namespace Go.Proofs.Ytjaolgehpnmieaa
open Go Go.Proofs
theorem bu_it (a : Rk) (b : Int) : buildV Try.prog 76 [(1, kV a), (0, .agg #[])] = some (itV (a, b)) := by kernel_rfl
theorem bs_it0 : bsV Try.prog 93 0 [] = some (76, []) := by kernel_rfl
theorem bs_it1 (x : It) : bsV Try.prog 93 1 [(0, itV x)] = some (76, E.cel x) := by kernel_rfl
theorem bs_kid0 : bsV Try.prog 97 0 [] = some (73, []) := by kernel_rfl
theorem bs_kid2 (a b : Nat) : bsV Try.prog 97 2 [(0, ptr a), (1, ptr b)] = some (73, [ptr a, ptr b]) := by kernel_rfl
theorem keep2 {F : Nat → Nat → Prop} {w w' : World} {a b : Nat} (h : Ext F w w') (h1 : a < w.heap.size ∧ ∀ o, ¬ F a o) (h2 : b < w.heap.size ∧ ∀ o, ¬ F b o) : keeps (some (some [a, b])) w w' := keeps_on h fun x hx => by
  simp only [List.mem_cons, List.not_mem_nil, or_false] at hx
  rcases hx with rfl | rfl
  · exact h1
  · exact h2
theorem app_new {w w' : World} {sz m b o : Nat} {l' : List Value} {v' : Value} (h : AppRes w sz (.slice (some ⟨b, o, none⟩) 0 0) 0 m [] l' v' w') (hm : 0 < m) :
    ∃ cap', v' = .slice (some ⟨w.heap.size, 0, none⟩) m cap' ∧ m ≤ cap' ∧ Row w' w.heap.size 0 l' ∧ wok w' w.heap.size (cap' * sz) ∧ Ext noF w w' ∧ w'.heap.size = w.heap.size + 1 := by
  obtain ⟨hs, hc⟩ := h
  rw [Nat.zero_add] at hs hc
  rcases hc with ⟨_, _, h3⟩ | ⟨b0, o0, cap0, h1, h2, h3, h4, h5⟩ | ⟨cap', h1, h2, h3, h4⟩
  · cases h3
  · simp only [Value.slice.injEq, Option.some.injEq, Addr.mk.injEq, true_and, and_true] at h1
    omega
  · subst h1
    rcases hs.2 with ⟨h, _⟩ | ⟨b1, o1, c1, h1, hle, hr, hw⟩
    · cases h
    · simp only [Value.slice.injEq, Option.some.injEq, Addr.mk.injEq, true_and, and_true] at h1
      obtain ⟨⟨rfl, rfl⟩, rfl⟩ := h1
      exact ⟨_, rfl, hle, by simpa using hr, h4, h2, h3⟩
def RootQ (m d : Nat) (iso : Int) (x : It) (xs : List It) (F : Nat → Nat → Prop) (w : World) (v : Value) (w' : World) : Prop :=
  v = .tuple #[vV ((at? O κ (κ x) xs).getD zIt), .bool (hit O κ (κ x) xs)] ∧ Ext (mapF m F) w w' ∧ ∃ F', MapAt w' m d iso (put O κ x xs) F' ∧ ∀ y o, F' y o → F y o ∨ w.heap.size ≤ y
def NilQ (m d : Nat) (iso : Int) (x : It) (I : Nat → Nat → Prop) (w : World) (v : Value) (w' : World) : Prop :=
  v = .tuple #[vV zIt, .bool false] ∧ Ext (fun y o => mapF m noF y o ∨ I y o) w w' ∧ ∃ F', MapAt w' m d iso [x] F' ∧ ∀ y o, F' y o → w.heap.size ≤ y
set_option maxHeartbeats 1000000 in
set_option maxRecDepth 8000 in
/-- Setting, where there is a root. -/
theorem set_root (m d : Nat) (iso : Int) (x : It) (hd : 2 ≤ d) (hd' : d ≤ 128) : ∀ (k h b : Nat) (xs : List It) (F : Nat → Nat → Prop) (w : World), xs.length - h = k → Cfg w m iso d → rd w m 3 = some (.int .i64 xs.length) → Asc O κ xs →
    rd w m 2 = some (ptr b) → Tr E iso (d - 1) (2 * d - 1) h w 1 b xs F → (∀ o, ¬ F m o) → xs.length < 1152921504606846976 →
    CallK Try.prog 57 #[ptr m, kV x.1, vV x] w fun v w' => v = .tuple #[vV ((at? O κ (κ x) xs).getD zIt), .bool (hit O κ (κ x) xs)] ∧ Ext (mapF m F) w w' ∧
      ∃ F', MapAt w' m d iso (put O κ x xs) F' ∧ ∀ y o, F' y o → F y o ∨ w.heap.size ≤ y := by
  intro k
  induction k using Nat.strongRecOn with
  | _ k ih =>
  intro h b xs F w00 hk hc hcnt ha hroot ht hm hbig
  suffices HS : ∀ R : Value → World → Prop, (∀ v w', RootQ m d iso x xs F w00 v w' → R v w') → CallK Try.prog 57 #[ptr m, kV x.1, vV x] w00 R from HS _ fun _ _ h => h
  intro R hR
  have hml0 := wok_lt hc.wok
  refine calls_of_W [.cell 6 74, .tmp 7] Try.func57 rfl Try.ntmps57 Try.results57 (by simp) fun e he => ?_
  have e0 : e 0 = ptr m := he 0 _ rfl
  have e1 : e 1 = kV x.1 := he 1 _ rfl
  have e2 : e 2 = .agg #[] := he 2 _ rfl
  clear he
  refine W_sq fun K hK => (W_text [false, false, true] (by kernel_rfl) ?_); simp only [↓List.toList_toArray, ↓rgd, ↓rgf, ↓reduceIte, Nat.reduceEqDiff, rg, ow_57]
  refine do_box (by simp only [evt]; exact e2) fun wa na => ⟨trivial, ?_⟩
  simp only [↓List.toList_toArray, ↓rgd, ↓rgf, ↓reduceIte, Nat.reduceEqDiff, rg, ow_57]
  refine do_alloc z_unit fun w nb => ⟨trivial, ?_⟩
  simp only [↓List.toList_toArray, ↓rgd, ↓rgf, ↓reduceIte, Nat.reduceEqDiff, rg, ow_57]
  refine hK _ _ ?_; clear hK K
  have Xb : Ext noF w00 w := na.ext.tr nb.ext
  have sa := na.size
  have sb := nb.size
  obtain ⟨q, hq⟩ : ∃ q, q = wa.heap.size := ⟨_, rfl⟩
  have wqb : wok w q 0 := by rw [hq]; exact nb.wok
  have hqF : ∀ o, ¬ F q o := fun o g => by have := ht.lt _ _ g; omega
  rw [← hq]
  have hqw : q < w.heap.size := by omega
  have hqm : q ≠ m := by omega
  replace hR : ∀ v w', RootQ m d iso x xs F w v w' → R v w' := fun v w' ⟨h1, h2, F', h3, h4⟩ => hR v w' ⟨h1, Xb.trans h2 (fun _ _ g => g.elim) (fun _ _ _ g => g), F', h3, fun y o g => (h4 y o g).imp id fun g => by omega⟩
  replace hc := hc.ext Xb fun _ _ _ h => h
  replace hcnt := Xb.rd hcnt fun h => h
  replace hroot := Xb.rd hroot fun h => h
  replace ht := ht.ext Xb fun _ _ _ h => h
  have hml := wok_lt hc.wok
  have hht := Tr.height (by omega) (Nat.le_refl 1) ht
  clear Xb na nb sa sb hq hml0
  refine W_sq fun K hK => (W_text [true, true, true, false, false] (by kernel_rfl) ?_); simp only [↓List.toList_toArray, ↓rgd, ↓rgf, ↓reduceIte, Nat.reduceEqDiff, rg, ow_57, e1, e2, bu_it x.1 x.2]
  refine do_alloc z_it fun w1 n1 => ⟨trivial, ?_⟩
  simp only [↓List.toList_toArray, ↓rgd, ↓rgf, ↓reduceIte, Nat.reduceEqDiff, rg, ow_57]
  refine do_store (by simp only [evt, evc, upd_eq, Nat.reduceEqDiff, ↓reduceIte, ntT, ntF] <;> rfl) (by simp only [evt, evc, upd_eq, Nat.reduceEqDiff, ↓reduceIte, ntT, ntF] <;> rfl) sz_76 (itV_len x) n1.wok (by decide) (itV_oc x) fun w2 x2 r2 s2 => ⟨trivial, ?_⟩
  simp only [↓List.toList_toArray, ↓rgd, ↓rgf, ↓reduceIte, Nat.reduceEqDiff, rg, ow_57]
  refine hK _ _ ?_; clear hK K
  have s1 := n1.size
  have X2 : Ext noF w w2 := noF_of n1.ext x2 fun y o hy h => by simp only [rng] at h; omega
  have rx : Row w2 w.heap.size 0 (E.cel x) := r2
  have x2wok : wok w2 w.heap.size 1 := x2.wok n1.wok
  have c2 := hc.ext X2 fun _ _ _ h => h
  have rt2 := X2.rd hroot (fun h => h)
  have ix := iA_at rx
  refine W_seq ?_
  refine W_sq fun K hK => (W_text [true, true, true, true, true] (by kernel_rfl) ?_); simp only [↓List.toList_toArray, ↓rgd, ↓rgf, ↓reduceIte, Nat.reduceEqDiff, rg, ow_57, e0, ptr_eq, rt2]
  refine hK _ _ ?_; clear hK K
  refine W_false (by simp only [evt, evc, upd_eq, Nat.reduceEqDiff, ↓reduceIte, ntT, ntF] <;> rfl) (W_skip ?_)
  show W _ _ _ _ _ _
  have M1 : readsB (some (some [w.heap.size])) w.heap.size = true := by simp [readsB]
  have hFlt := ht.lt
  refine W_sq fun K hK => (W_free (some (some [w.heap.size])) (.take 0 (.take 1 (.take 2 (.take 3 (.take 4 (.split 5 (.take 6 (.take 7 (.take 8 (.take 9 (.act 10 (.act 11 (.take 12 (.take 13 .nil)))))))) 10 (.act 5 (.take 6 (.take 7 (.take 8 (.take 9 (.act 11 (.take 12 (.take 13 .nil)))))))))))))) mixed (by kernel_rfl) ?_); simp only [↓List.toList_toArray, ↓rgd, ↓rgf, ↓reduceIte, Nat.reduceEqDiff, rg, ow_57, e0, ptr_eq, ix, M1]
  have s2' : w2.heap.size = w.heap.size + 1 := by omega
  have rest0 : ∀ e' w' (rp sp : Bool), e' 0 = ptr m → e' 8 = .pointer (some ⟨w.heap.size, 0, none⟩) → e' 6 = .pointer (some ⟨q, 0, none⟩) → (∃ qb, e' 9 = .pointer (some ⟨qb, 0, none⟩)) → e' 10 = .bool rp → e' 11 = .bool sp → Ext F w2 w' →
      (∃ F' : Nat → Nat → Prop, (∀ y o, F' y o → F y o ∨ w2.heap.size ≤ y) ∧ ((rp = false ∧ sp = true ∧ Tr E iso (d - 1) (2 * d - 1) h w' (2 * d - 1) b xs F' ∧ hit O κ (κ x) xs = false) ∨ (rp = hit O κ (κ x) xs ∧ sp = false ∧ Tr E iso (d - 1) (2 * d - 1) h w' 1 b (put O κ x xs) F'))) → K e' w' := by
    intro e w3 rp sp e0 e8 e6 ⟨qb, e9⟩ e10 e11 x3 ⟨F', hF', hres⟩
    refine hK _ _ ?_; clear hK K
    have hF3 : ∀ y o, F' y o → F y o ∨ w2.heap.size ≤ y := hF'
    have s3 := x3.size
    have X3 : Ext F w w3 := X2.trans x3 (fun _ _ g => g.elim) fun _ _ _ g => g
    have c3 := c2.ext x3 fun o _ _ => hm o
    have rt3 := x3.rd rt2 (hm 2)
    have ct3 := X3.rd hcnt (hm 3)
    have hF'm : ∀ o, ¬ F' m o := fun o g => by
      rcases hF3 m o g with g | g
      · exact hm o g
      · omega
    have wq3 : wok w3 q 0 := X3.wok wqb
    rcases hres with ⟨rfl, rfl, hT', hh⟩ | ⟨rfl, rfl, hT'⟩
    · refine W_seq ?_
      refine W_sq fun K hK => (W_text [true] (by kernel_rfl) ?_); simp only [↓List.toList_toArray, ↓rgd, ↓rgf, ↓reduceIte, Nat.reduceEqDiff, rg, ow_57, e11]
      refine hK _ _ ?_; clear hK K
      refine W_true (by simp only [evt, evc, upd_eq, Nat.reduceEqDiff, ↓reduceIte, ntT, ntF] <;> rfl) ?_
      refine W_sq fun K hK => (W_text [true, true, true, true, true] (by kernel_rfl) ?_); simp only [↓List.toList_toArray, ↓rgd, ↓rgf, ↓reduceIte, Nat.reduceEqDiff, rg, ow_57, e0, ptr_eq, rt3]
      refine hK _ _ ?_; clear hK K
      refine W_sq fun K hK => (W_text [true, true, false, true, true, true, false, true, false] (by kernel_rfl) ?_); simp only [↓List.toList_toArray, ↓rgd, ↓rgf, ↓reduceIte, Nat.reduceEqDiff, rg, ow_57, e0]
      refine do_call fn_71 (by simp only [evt, evc, upd_eq, Nat.reduceEqDiff, ↓reduceIte, maT, maC, maN, isnN, isnS] <;> rfl) (split_tr m d b h iso xs F' w3 hd hd' c3 hT' hF'm (by omega)) ?_
      rintro _ w4 ⟨rb, md, xl, xr, Fl, Fr, rfl, hxs, x4, hFl, hFr, hlr, tL, tR⟩
      refine ⟨trivial, ?_⟩
      simp only [↓List.toList_toArray, ↓rgd, ↓rgf, ↓reduceIte, Nat.reduceEqDiff, rg, ow_57]
      refine do_alloc z_it fun w5 n5 => ⟨trivial, ?_⟩
      simp only [↓List.toList_toArray, ↓rgd, ↓rgf, ↓reduceIte, Nat.reduceEqDiff, rg, ow_57]
      refine do_store (by simp only [evt, evc, upd_eq, Nat.reduceEqDiff, ↓reduceIte, ntT, ntF] <;> rfl) (by simp only [evt, evc, upd_eq, Nat.reduceEqDiff, ↓reduceIte, ntT, ntF] <;> rfl) sz_76 (itV_len md) n5.wok (by decide) (itV_oc md) fun w6 x6 r6 s6 => ⟨trivial, ?_⟩
      simp only [↓List.toList_toArray, ↓rgd, ↓rgf, ↓reduceIte, Nat.reduceEqDiff, rg, ow_57]
      refine hK _ _ ?_; clear hK K
      have s4 := x4.size
      have s5 := n5.size
      have X6 : Ext noF w4 w6 := noF_of n5.ext x6 fun y o hy h => by simp only [rng] at h; omega
      have c4 := c3.ext x4 fun o _ _ => hF'm o
      have c6 := c4.ext X6 fun _ _ _ h => h
      refine W_sq fun K hK => (W_text [true, true, false, true, true, false] (by kernel_rfl) ?_); simp only [↓List.toList_toArray, ↓rgd, ↓rgf, ↓reduceIte, Nat.reduceEqDiff, rg, ow_57, e0]
      refine do_call fn_69 (by simp only [evt, evc, upd_eq, Nat.reduceEqDiff, ↓reduceIte, maT, maC, maN, isnN, isnS] <;> rfl) (newNode_any m false iso w6 c6.iso) ?_
      rintro _ w7 ⟨b2, rfl, x7, nn⟩
      refine ⟨trivial, ?_⟩
      simp only [↓List.toList_toArray, ↓rgd, ↓rgf, ↓reduceIte, Nat.reduceEqDiff, rg, ow_57, ptr_eq]
      have c7 := c6.ext x7 fun _ _ _ h => h
      refine do_store (by simp only [evt, evc, upd_eq, Nat.reduceEqDiff, ↓reduceIte, ntT, ntF] <;> rfl) (by simp only [evt, evc, upd_eq, Nat.reduceEqDiff, ↓reduceIte, ntT, ntF] <;> rfl) sz_73 rfl (c7.wok.mono (by decide)) (Nat.le_refl 3) (oc_one rfl rfl) fun w8 x8 r8 s8 => ⟨trivial, ?_⟩
      simp only [↓List.toList_toArray, ↓rgd, ↓rgf, ↓reduceIte, Nat.reduceEqDiff, rg, ow_57]
      refine hK _ _ ?_; clear hK K
      obtain ⟨bc2, nk, nk1, nk2, nk3, nk4⟩ := nn.kids rfl
      have s7 := x7.size
      have nnge := nn.ge
      have rt8 : rd w8 m 2 = some (ptr b2) := (Row.cons.1 r8).1
      have c8 := c7.ext x8 fun o h2 _ g => h2 (by simp only [rng] at g; omega)
      have kp8 := x8.rd nk (by simp only [rng]; omega)
      have q1 : IntKind.i64.wrap (((2 * d - 1 : Nat) : Int) + 1) = ((2 * d : Nat) : Int) := by rw [wadd1 _ (by omega)]; congr 1; omega
      have M2 : readsB (some (some [m, b2])) m = true := by simp [readsB]
      have M3 : readsB (some (some [m, b2])) b2 = true := by simp [readsB]
      have hb2l := wok_lt nn.wb
      refine W_sq fun K hK => (W_draw (some (some [m, b2])) (some 14) [(0, 0, 0), (0, 1, 0), (0, 2, 0), (0, 3, 0), (0, 4, 0), (0, 5, 0), (0, 6, 0), (0, 7, 0), (0, 8, 0), (0, 9, 0), (0, 10, 0), (0, 11, 0), (1, 12, 0), (0, 13, 0), (1, 14, 0)] mixed (by kernel_rfl) ?_); simp only [↓List.toList_toArray, ↓rgd, ↓rgf, ↓reduceIte, Nat.reduceEqDiff, rg, ow_57, e0, ptr_eq, rt8, kp8, c8.mx, q1, M2, M3]
      refine do_make (n := 0) (c := 2 * d) (by simp only [evt, evc, upd_eq, Nat.reduceEqDiff, ↓reduceIte, ntT, ntF] <;> rfl) (by simp only [evt, evc, upd_eq, Nat.reduceEqDiff, ↓reduceIte, ntT, ntF] <;> rfl) el_kid rfl (by omega) (by omega) (by omega) fun w9 l9 hl9 n9 => ⟨.inr (keeps_on n9.ext fun y hy => ⟨?_, fun _ h => h⟩), ?_⟩
      · rw [sz_dr]
        simp only [List.mem_cons, List.not_mem_nil, or_false] at hy
        omega
      simp only [↓List.toList_toArray, ↓rgd, ↓rgf, ↓reduceIte, Nat.reduceEqDiff, rg, ow_57]
      have n9 := n9.od
      refine do_store (by simp only [evt, evc, upd_eq, Nat.reduceEqDiff, ↓reduceIte, ntT, ntF] <;> rfl) (by simp only [evt, evc, upd_eq, Nat.reduceEqDiff, ↓reduceIte, ntT, ntF] <;> rfl) sz_97 rfl (n9.ext.wok (x8.wok nk4)) (by decide) (oc_one rfl rfl) fun w10 x10 r10 s10 => ⟨.inl trivial, ?_⟩
      simp only [↓List.toList_toArray, ↓rgd, ↓rgf, ↓reduceIte, Nat.reduceEqDiff, rg, ow_57]
      refine hK _ _ ?_; clear hK K
      have rt10 : rd w10 m 2 = some (ptr b2) := x10.rd (n9.ext.rd rt8 fun h => h) (by simp only [rng]; omega)
      have kp10 : rd w10 b2 3 = some (ptr bc2) := x10.rd (n9.ext.rd kp8 fun h => h) (by simp only [rng]; omega)
      have wbc10 : wok w10 bc2 1 := x10.wok (n9.ext.wok (x8.wok nk4))
      have s9 := n9.size
      have hbc2l := wok_lt wbc10
      refine W_sq fun K hK => (W_draw (some (some [m, b2])) (some 13) [(0, 0, 0), (0, 1, 0), (0, 2, 0), (0, 3, 0), (0, 4, 0), (0, 5, 0), (0, 6, 0), (0, 8, 0), (0, 9, 0), (2, 7, 10), (1, 11, 0), (0, 12, 0), (1, 13, 0)] mixed (by kernel_rfl) ?_); simp only [↓List.toList_toArray, ↓rgd, ↓rgf, ↓reduceIte, Nat.reduceEqDiff, rg, ow_57, e0, ptr_eq, rt10, kp10, M2, M3]
      have rest : ∀ e' w', e' 0 = ptr m → e' 8 = .pointer (some ⟨w.heap.size, 0, none⟩) → e' 6 = .pointer (some ⟨q, 0, none⟩) → e' 14 = .pointer (some ⟨w4.heap.size, 0, none⟩) → Ext (rng bc2 0 1) w10 w' →
          (∃ ba2 cap2, rd w' bc2 0 = some (.slice (some ⟨ba2, 0, none⟩) 2 cap2) ∧ 2 ≤ cap2 ∧ Row w' ba2 0 [ptr b, ptr rb] ∧ wok w' ba2 cap2 ∧ w10.heap.size ≤ ba2) → K e' w' := by
        intro e' w14 f0 f8 f6 f14 x14 ⟨ba2, cap2, q0, q2, q3, q4, q5⟩
        refine hK _ _ ?_; clear hK K
        have s10' := x10.size
        have s14 := x14.size
        have rt14 : rd w14 m 2 = some (ptr b2) := x14.rd rt10 (by simp only [rng]; omega)
        have rm14 : Row w14 w4.heap.size 0 (E.cel md) := x14.row (x10.row (n9.ext.row (x8.row (x7.row r6 fun _ _ h => h) fun j _ h => by simp only [rng] at h; omega) fun _ _ h => h) fun j _ h => by simp only [rng] at h; omega) fun j _ h => by simp only [rng] at h; omega
        have im14 := iA_at rm14
        have wb14 : wok w14 b2 4 := x14.wok (x10.wok (n9.ext.wok (x8.wok nn.wb)))
        have M4 : readsB (some (some [m, w4.heap.size])) m = true := by simp [readsB]
        have M5 : readsB (some (some [m, w4.heap.size])) w4.heap.size = true := by simp [readsB]
        have s8' := x8.size
        have s6' : w6.heap.size = w4.heap.size + 1 := by omega
        refine W_sq fun K hK => (W_draw (some (some [m, w4.heap.size])) (some 10) [(0, 0, 0), (0, 1, 0), (0, 2, 0), (0, 3, 0), (0, 5, 0), (2, 4, 6), (1, 7, 0), (0, 8, 0), (0, 9, 0), (1, 10, 0)] mixed (by kernel_rfl) ?_); simp only [↓List.toList_toArray, ↓rgd, ↓rgf, ↓reduceIte, Nat.reduceEqDiff, rg, ow_57, f0, f14, ptr_eq, rt14, im14, M4, M5]
        have rest2 : ∀ e'' w', e'' 0 = ptr m → e'' 8 = .pointer (some ⟨w.heap.size, 0, none⟩) → e'' 6 = .pointer (some ⟨q, 0, none⟩) → Ext (rng b2 2 1) w14 w' →
            (∃ bi2 cap3, rd w' b2 2 = some (.slice (some ⟨bi2, 0, none⟩) 1 cap3) ∧ 1 ≤ cap3 ∧ Row w' bi2 0 (E.cel md) ∧ wok w' bi2 (cap3 * 1) ∧ w14.heap.size ≤ bi2) → K e'' w' := by
          intro e'' w18 f0 f8 f6 x18 ⟨bi2, cap3, p0, p2, p3, p4, p5⟩
          refine hK _ _ ?_; clear hK K
          have s18 := x18.size
          have hb4 : b < w4.heap.size := tL.lt _ _ (tL.self 0)
          have hrb4 : rb < w4.heap.size := tR.lt _ _ (tR.self 0)
          have hba18 := wok_lt (x18.wok q4)
          have hba14 := wok_lt q4
          have hbi18 := wok_lt p4
          have T18 : Ext (fun y o => (y = m ∧ o = 2) ∨ w4.heap.size ≤ y) w4 w18 := by
            refine ((((((X6.trans x7 (H := fun y o => (y = m ∧ o = 2) ∨ w4.heap.size ≤ y) (fun _ _ g => g.elim) fun _ _ _ g => g.elim).trans x8 (fun _ _ g => g) fun y o _ g => ?_).trans n9.ext (fun _ _ g => g) fun _ _ _ g => g.elim).trans x10 (fun _ _ g => g) fun y o _ g => ?_).trans x14 (fun _ _ g => g) fun y o _ g => ?_).trans x18 (fun _ _ g => g) fun y o _ g => ?_)
            all_goals simp only [rng] at g; omega
          have hFlm : ∀ y o, Fl y o → ¬ ((y = m ∧ o = 2) ∨ w4.heap.size ≤ y) := fun y o g k => by
            rcases k with ⟨rfl, _⟩ | k
            · exact hF'm _ (hFl _ _ g)
            · have := tL.lt _ _ g; omega
          have hFrm' : ∀ o, ¬ Fr m o := fun o g => by
            rcases hFr _ _ g with g | g
            · exact hF'm _ g
            · omega
          have hFrm : ∀ y o, Fr y o → ¬ ((y = m ∧ o = 2) ∨ w4.heap.size ≤ y) := fun y o g k => by
            rcases k with ⟨rfl, _⟩ | k
            · exact hFrm' _ g
            · have := tR.lt _ _ g; omega
          have tL18 := tL.ext T18 hFlm
          have tR18 := tR.ext T18 hFrm
          have kp18 : rd w18 b2 3 = some (ptr bc2) := x18.rd (x14.rd kp10 (by simp only [rng]; omega)) (by simp only [rng]; omega)
          have K18 : Kids w18 bc2 ba2 0 cap2 [b, rb] := ⟨x18.rd q0 (by simp only [rng]; omega), x18.wok (x14.wok wbc10), x18.row q3 fun j _ h => by simp only [rng] at h; omega, by rw [Nat.zero_add]; exact x18.wok q4, q2, by omega⟩
          have wb18 := x18.wok wb14
          have rt18 : rd w18 m 2 = some (ptr b2) := x18.rd rt14 (by simp only [rng]; omega)
          have hcn : cntP (cnW w18) [b, rb] = xl.length + xr.length := by simp [cntP, cnW_eq tL18.cnt, cnW_eq tR18.cnt]
          have hxl : xs.length = xl.length + 1 + xr.length := by rw [hxs]; simp; omega
          refine W_sq fun K hK => (W_text [true, true, true, true, false] (by kernel_rfl) ?_); simp only [↓List.toList_toArray, ↓rgd, ↓rgf, ↓reduceIte, Nat.reduceEqDiff, rg, ow_57, f0, ptr_eq, rt18]
          refine do_call fn_72 (by simp only [evt, evc, upd_eq, Nat.reduceEqDiff, ↓reduceIte, maT, maC, maN, isnN, isnS] <;> rfl) (count_kids b2 1 cap3 bc2 ba2 0 cap2 _ [b, rb] (cnW w18) w18 p0 kp18 wb18 K18 (by omega) (by omega) (fun p hp => by
            simp only [List.mem_cons, List.not_mem_nil, or_false] at hp
            rcases hp with rfl | rfl
            · exact ⟨by rw [cnW_eq tL18.cnt]; exact tL18.cnt, by omega⟩
            · exact ⟨by rw [cnW_eq tR18.cnt]; exact tR18.cnt, by omega⟩) (by omega) (by simp)) ?_
          rintro _ w19 ⟨x19, d1, s19⟩
          refine ⟨trivial, ?_⟩
          simp only [↓List.toList_toArray, ↓rgd, ↓rgf, ↓reduceIte, Nat.reduceEqDiff, rg, ow_57]
          refine hK _ _ ?_; clear hK K
          rw [hcn] at d1
          have T19 : Ext (fun y o => (y = m ∧ o = 2) ∨ w4.heap.size ≤ y) w4 w19 := T18.trans x19 (fun _ _ g => g) fun y o _ g => by simp only [rng] at g; omega
          have c19 := c4.ext T19 fun o h2 _ g => by
            rcases g with g | g
            · exact h2 g.2
            · have := wok_lt c4.wok; omega
          have ct19 : rd w19 m 3 = some (.int .i64 xs.length) := T19.rd (x4.rd ct3 (hF'm 3)) fun g => by omega
          have rx19 : Row w19 w.heap.size 0 (E.cel x) := T19.row (x4.row (x3.row rx fun j _ g => by have := hFlt _ _ g; omega) fun j _ g => by
            rcases hF3 _ _ g with g | g
            · have := hFlt _ _ g; omega
            · omega) fun j _ g => by omega
          have kx19 := kV_at rx19
          have wq19 : wok w19 q 0 := T19.wok (x4.wok wq3)
          have own19 : Own E w19 b2 iso xs.length bi2 0 cap3 [md] (ptr bc2) := by
            have h0 := x19.rd (x18.rd (x14.rd (x10.rd (n9.ext.rd (x8.rd nn.h0 (by simp only [rng]; omega)) fun h => h) (by simp only [rng]; omega)) (by simp only [rng]; omega)) (by simp only [rng]; omega)) (by simp only [rng]; omega)
            refine ⟨h0, ?_, x19.rd p0 (by simp only [rng]; omega), x19.rd kp18 (by simp only [rng]; omega), x19.wok wb18, ?_, by rw [Nat.zero_add]; exact x19.wok p4, p2, by omega⟩
            · rw [d1, hxl]; congr 3; omega
            · rw [flat_one]; exact x19.row p3 fun j _ h => by simp only [rng] at h; omega
          have K19 := K18.ext x19 fun y o g h => by simp only [kidF, rng] at g h; omega
          have tL19 := tL.ext T19 hFlm
          have tR19 := tR.ext T19 hFrm
          have tr19 : Tr E iso (d - 1) (2 * d - 1) (h + 1) w19 1 b2 xs (fun y o => ownF E b2 bi2 0 cap3 y o ∨ kidF bc2 ba2 0 cap2 y o ∨ ∃ c ∈ [Kid.mk b xl Fl, Kid.mk rb xr Fr], c.F y o) := by
            refine ⟨bi2, 0, cap3, bc2, ba2, 0, cap2, [md], [Kid.mk b xl Fl, Kid.mk rb xr Fr], own19, K19, Nat.le_refl _, (by show 1 ≤ 2 * d - 1; omega), rfl, hxs, ?_, ⟨nk2, by omega, by omega, by omega, ?_, ?_, ?_⟩, fun _ _ => Iff.rfl⟩
            · intro c hc
              simp only [List.mem_cons, List.not_mem_nil, or_false] at hc
              rcases hc with rfl | rfl
              · exact tL19
              · exact tR19
            · intro c hc y o g k
              have : y < w4.heap.size := by
                simp only [List.mem_cons, List.not_mem_nil, or_false] at hc
                rcases hc with rfl | rfl
                · exact tL.lt _ _ g
                · exact tR.lt _ _ g
              simp only [ownF, rng] at k; omega
            · intro c hc y o g k
              have : y < w4.heap.size := by
                simp only [List.mem_cons, List.not_mem_nil, or_false] at hc
                rcases hc with rfl | rfl
                · exact tL.lt _ _ g
                · exact tR.lt _ _ g
              simp only [kidF, rng] at k; omega
            · exact List.pairwise_cons.2 ⟨fun c hc y o g k => by
                simp only [List.mem_cons, List.not_mem_nil, or_false] at hc
                subst hc; exact hlr y o g k, List.pairwise_singleton _ _⟩
          have hF2 : ∀ y o, (ownF E b2 bi2 0 cap3 y o ∨ kidF bc2 ba2 0 cap2 y o ∨ ∃ c ∈ [Kid.mk b xl Fl, Kid.mk rb xr Fr], c.F y o) → y ≠ m ∧ (F y o ∨ w2.heap.size ≤ y) := by
            have hF'2 : ∀ y o, F' y o → y ≠ m ∧ (F y o ∨ w2.heap.size ≤ y) := fun y o g => ⟨fun k => hF'm o (k ▸ g), hF3 y o g⟩
            rintro y o (g | g | ⟨c, hc, g⟩)
            · simp only [ownF, rng] at g; omega
            · simp only [kidF, rng] at g; omega
            · simp only [List.mem_cons, List.not_mem_nil, or_false] at hc
              rcases hc with rfl | rfl
              · exact hF'2 y o (hFl y o g)
              · rcases hFr y o g with g | g
                · exact hF'2 y o g
                · exact ⟨by omega, .inr (by omega)⟩
          refine W_sq fun K hK => (W_text [true, true, true, true, true, false, true, true, false, true] (by kernel_rfl) ?_); simp only [↓List.toList_toArray, ↓rgd, ↓rgf, ↓reduceIte, Nat.reduceEqDiff, rg, ow_57, f0, f8, kx19, wok.ty tyP (T19.wok (x4.wok (x3.wok x2wok)))]
          refine do_call fn_57 (by simp only [evt, evc, upd_eq, Nat.reduceEqDiff, ↓reduceIte, maT, maC, maN, isnN, isnS] <;> rfl) (ih (xs.length - (h + 1)) (by omega) (h + 1) b2 xs _ w19 rfl c19 ct19 ha (x19.rd rt18 (by simp only [rng]; omega)) tr19 (fun o g => (hF2 _ _ g).1 rfl) hbig) ?_
          rintro _ w20p ⟨rfl, x20p, F'', hM, hF''⟩
          refine ⟨trivial, ?_⟩
          simp only [↓List.toList_toArray, ↓rgd, ↓rgf, ↓reduceIte, Nat.reduceEqDiff, rg, ow_57]
          refine do_store (by simp only [evt, upd_eq, Nat.reduceEqDiff, ↓reduceIte]; exact f6) (by simp only [evt, evc, upd_eq, Nat.reduceEqDiff, ↓reduceIte, ntT, ntF] <;> rfl) sz_74 rfl (x20p.wok wq19) (by decide) (fun _ h => by cases h) fun w20 x20s r20 s20 => ⟨trivial, ?_⟩
          simp only [↓List.toList_toArray, ↓rgd, ↓rgf, ↓reduceIte, Nat.reduceEqDiff, rg, ow_57]
          refine hK _ _ ?_; clear hK K
          have hM := hM.extG x20s (fun y o _ k => by simp only [rng] at k; omega) fun o k => by simp only [rng] at k; omega
          have x20 := x20p.trans x20s (fun _ _ g => g) fun y o _ k => by simp only [rng] at k; omega
          have s20' := x20p.size
          refine W_ret ?_
          simp only [andThen_ret]
          refine endQ_ct (by simp only [upd_eq, Nat.reduceEqDiff, ↓reduceIte]; exact f6) (by simp only [upd_eq, Nat.reduceEqDiff, ↓reduceIte] <;> rfl) ld_74 ld_unit (hR _ _ ⟨rfl, ?_, F'', hM, fun y o g => ?_⟩)
          · refine (((X3.trans x4 (H := mapF m F) (fun _ _ g => .inl g) fun y o hy g => ?_).trans T19 (fun _ _ g => g) fun y o hy g => ?_).trans x20 (fun _ _ g => g) fun y o hy g => ?_)
            · rcases hF3 y o g with g | g
              · exact .inl g
              · omega
            · rcases g with g | g
              · exact .inr ⟨g.1, .inl g.2⟩
              · omega
            · rcases g with g | g
              · rcases (hF2 y o g).2 with g | g
                · exact .inl g
                · omega
              · exact .inr g
          · rcases hF'' y o g with g | g
            · exact (hF2 y o g).2.imp id fun g => by omega
            · exact .inr (by omega)
        constructor
        · refine do_bsl rfl bs_it0 fun w15 n15 => ⟨.inr (keep2 n15.ext ⟨by rw [sz_dr]; omega, fun _ h => h⟩ ⟨by rw [sz_dr]; omega, fun _ h => h⟩), ?_⟩
          simp only [↓List.toList_toArray, ↓rgd, ↓rgf, ↓reduceIte, Nat.reduceEqDiff, rg, ow_57]
          have n15 := n15.od
          have s15 := n15.size
          refine do_bsl rfl (bs_it1 md) fun w16 n16 => ⟨.inr (keep2 n16.ext ⟨by omega, fun _ h => h⟩ ⟨by omega, fun _ h => h⟩), ?_⟩
          simp only [↓List.toList_toArray, ↓rgd, ↓rgf, ↓reduceIte, Nat.reduceEqDiff, rg, ow_57]
          have s16 := n16.size
          have hv : SlV w16 1 (.slice (some ⟨w14.heap.size, 0, none⟩) 0 0) 0 [] := ⟨rfl, .inr ⟨_, 0, 0, rfl, Nat.le_refl _, Row.nil _ _ _, (n16.ext.wok n15.wok).R (Nat.le_refl _)⟩⟩
          have hu : SlV w16 1 (.slice (some ⟨w15.heap.size, 0, none⟩) 1 1) 1 (E.cel md) := ⟨rfl, .inr ⟨_, 0, 1, rfl, Nat.le_refl _, n16.row, n16.wok.R (Nat.le_refl _)⟩⟩
          have X16 : Ext noF w14 w16 := n15.ext.tr n16.ext
          refine do_append (by simp only [evt, evc, upd_eq, Nat.reduceEqDiff, ↓reduceIte, ntT, ntF] <;> rfl) (by simp only [evt, evc, upd_eq, Nat.reduceEqDiff, ↓reduceIte, ntT, ntF] <;> rfl) el_it rfl ni_93 hv hu (by omega) (by decide) (E.one md) fun v17 w17 a17 => ?_
          obtain ⟨cap3, rfl, hcap3, row17, wok17, x17, s17⟩ := app_new a17 (by omega)
          refine ⟨.inr (keep2 x17 ⟨by omega, fun _ h => h⟩ ⟨by omega, fun _ h => h⟩), ?_⟩
          simp only [↓List.toList_toArray, ↓rgd, ↓rgf, ↓reduceIte, Nat.reduceEqDiff, rg, ow_57, ptr_eq]
          refine do_store (by simp only [evt, evc, upd_eq, Nat.reduceEqDiff, ↓reduceIte, ntT, ntF] <;> rfl) (by simp only [evt, evc, upd_eq, Nat.reduceEqDiff, ↓reduceIte, ntT, ntF] <;> rfl) sz_93 rfl (x17.wok (X16.wok wb14)) (by decide) (oc_one rfl rfl) fun w18 x18 r18 s18 => ⟨.inl trivial, ?_⟩
          simp only [↓List.toList_toArray, ↓rgd, ↓rgf, ↓reduceIte, Nat.reduceEqDiff, rg, ow_57]
          refine rest2 _ _ (by simp only [upd_eq, Nat.reduceEqDiff, ↓reduceIte]; exact f0) (by simp only [upd_eq, Nat.reduceEqDiff, ↓reduceIte]; exact f8) (by simp only [upd_eq, Nat.reduceEqDiff, ↓reduceIte]; exact f6) (((X16.tr x17).mono fun _ _ _ g => g.elim).tr x18) ⟨w16.heap.size, cap3, (Row.cons.1 r18).1, hcap3, x18.row row17 fun j _ h => by simp only [rng] at h; omega, x18.wok wok17, by omega⟩
        · refine do_bsl rfl (bs_it1 md) fun w15 n15 => ⟨.inr (keep2 n15.ext ⟨by rw [sz_dr]; omega, fun _ h => h⟩ ⟨by rw [sz_dr]; omega, fun _ h => h⟩), ?_⟩
          simp only [↓List.toList_toArray, ↓rgd, ↓rgf, ↓reduceIte, Nat.reduceEqDiff, rg, ow_57]
          have n15 := n15.od
          have s15 := n15.size
          refine do_bsl rfl bs_it0 fun w16 n16 => ⟨.inr (keep2 n16.ext ⟨by omega, fun _ h => h⟩ ⟨by omega, fun _ h => h⟩), ?_⟩
          simp only [↓List.toList_toArray, ↓rgd, ↓rgf, ↓reduceIte, Nat.reduceEqDiff, rg, ow_57]
          have s16 := n16.size
          have hv : SlV w16 1 (.slice (some ⟨w15.heap.size, 0, none⟩) 0 0) 0 [] := ⟨rfl, .inr ⟨_, 0, 0, rfl, Nat.le_refl _, Row.nil _ _ _, n16.wok.R (Nat.le_refl _)⟩⟩
          have hu : SlV w16 1 (.slice (some ⟨w14.heap.size, 0, none⟩) 1 1) 1 (E.cel md) := ⟨rfl, .inr ⟨_, 0, 1, rfl, Nat.le_refl _, n16.ext.row n15.row fun _ _ h => h, (n16.ext.wok n15.wok).R (Nat.le_refl _)⟩⟩
          have X16 : Ext noF w14 w16 := n15.ext.tr n16.ext
          refine do_append (by simp only [evt, evc, upd_eq, Nat.reduceEqDiff, ↓reduceIte, ntT, ntF] <;> rfl) (by simp only [evt, evc, upd_eq, Nat.reduceEqDiff, ↓reduceIte, ntT, ntF] <;> rfl) el_it rfl ni_93 hv hu (by omega) (by decide) (E.one md) fun v17 w17 a17 => ?_
          obtain ⟨cap3, rfl, hcap3, row17, wok17, x17, s17⟩ := app_new a17 (by omega)
          refine ⟨.inr (keep2 x17 ⟨by omega, fun _ h => h⟩ ⟨by omega, fun _ h => h⟩), ?_⟩
          simp only [↓List.toList_toArray, ↓rgd, ↓rgf, ↓reduceIte, Nat.reduceEqDiff, rg, ow_57, ptr_eq]
          refine do_store (by simp only [evt, evc, upd_eq, Nat.reduceEqDiff, ↓reduceIte, ntT, ntF] <;> rfl) (by simp only [evt, evc, upd_eq, Nat.reduceEqDiff, ↓reduceIte, ntT, ntF] <;> rfl) sz_93 rfl (x17.wok (X16.wok wb14)) (by decide) (oc_one rfl rfl) fun w18 x18 r18 s18 => ⟨.inl trivial, ?_⟩
          simp only [↓List.toList_toArray, ↓rgd, ↓rgf, ↓reduceIte, Nat.reduceEqDiff, rg, ow_57]
          refine rest2 _ _ (by simp only [upd_eq, Nat.reduceEqDiff, ↓reduceIte]; exact f0) (by simp only [upd_eq, Nat.reduceEqDiff, ↓reduceIte]; exact f8) (by simp only [upd_eq, Nat.reduceEqDiff, ↓reduceIte]; exact f6) (((X16.tr x17).mono fun _ _ _ g => g.elim).tr x18) ⟨w16.heap.size, cap3, (Row.cons.1 r18).1, hcap3, x18.row row17 fun j _ h => by simp only [rng] at h; omega, x18.wok wok17, by omega⟩
      constructor
      · refine do_bsl rfl bs_kid0 fun w11 n11 => ⟨.inr (keep2 n11.ext ⟨by rw [sz_dr]; omega, fun _ h => h⟩ ⟨by rw [sz_dr]; omega, fun _ h => h⟩), ?_⟩
        simp only [↓List.toList_toArray, ↓rgd, ↓rgf, ↓reduceIte, Nat.reduceEqDiff, rg, ow_57]
        have n11 := n11.od
        have s11 := n11.size
        refine do_bsl rfl (bs_kid2 b rb) fun w12 n12 => ⟨.inr (keep2 n12.ext ⟨by omega, fun _ h => h⟩ ⟨by omega, fun _ h => h⟩), ?_⟩
        simp only [↓List.toList_toArray, ↓rgd, ↓rgf, ↓reduceIte, Nat.reduceEqDiff, rg, ow_57]
        have s12 := n12.size
        have hv : SlV w12 1 (.slice (some ⟨w10.heap.size, 0, none⟩) 0 0) 0 [] := ⟨rfl, .inr ⟨_, 0, 0, rfl, Nat.le_refl _, Row.nil _ _ _, (n12.ext.wok n11.wok).R (Nat.le_refl _)⟩⟩
        have hu : SlV w12 1 (.slice (some ⟨w11.heap.size, 0, none⟩) 2 2) 2 [ptr b, ptr rb] := ⟨rfl, .inr ⟨_, 0, 2, rfl, Nat.le_refl _, n12.row, n12.wok.R (Nat.le_refl _)⟩⟩
        have X12 : Ext noF w10 w12 := n11.ext.tr n12.ext
        refine do_append (by simp only [evt, evc, upd_eq, Nat.reduceEqDiff, ↓reduceIte, ntT, ntF] <;> rfl) (by simp only [evt, evc, upd_eq, Nat.reduceEqDiff, ↓reduceIte, ntT, ntF] <;> rfl) el_kid rfl ni_97 hv hu (by omega) (by decide) (by intro v hv; simp at hv; rcases hv with rfl | rfl <;> rfl) fun v13 w13 a13 => ?_
        obtain ⟨cap2, rfl, hcap2, row13, wok13, x13, s13⟩ := app_new a13 (by omega)
        refine ⟨.inr (keep2 x13 ⟨by omega, fun _ h => h⟩ ⟨by omega, fun _ h => h⟩), ?_⟩
        simp only [↓List.toList_toArray, ↓rgd, ↓rgf, ↓reduceIte, Nat.reduceEqDiff, rg, ow_57]
        refine do_store (by simp only [evt, evc, upd_eq, Nat.reduceEqDiff, ↓reduceIte, ntT, ntF] <;> rfl) (by simp only [evt, evc, upd_eq, Nat.reduceEqDiff, ↓reduceIte, ntT, ntF] <;> rfl) sz_97 rfl (x13.wok (X12.wok wbc10)) (by decide) (oc_one rfl rfl) fun w14 x14 r14 s14 => ⟨.inl trivial, ?_⟩
        simp only [↓List.toList_toArray, ↓rgd, ↓rgf, ↓reduceIte, Nat.reduceEqDiff, rg, ow_57]
        refine rest _ _ (by simp only [upd_eq, Nat.reduceEqDiff, ↓reduceIte]; exact e0) (by simp only [upd_eq, Nat.reduceEqDiff, ↓reduceIte]; exact e8) (by simp only [upd_eq, Nat.reduceEqDiff, ↓reduceIte]; exact e6) (by simp only [upd_eq, Nat.reduceEqDiff, ↓reduceIte] <;> rfl) (((X12.tr x13).mono fun _ _ _ g => g.elim).tr x14) ⟨w12.heap.size, cap2, (Row.cons.1 r14).1, hcap2, x14.row row13 fun j _ h => by simp only [rng] at h; omega, by have := x14.wok wok13; rwa [Nat.mul_one] at this, by omega⟩
      · refine do_bsl rfl (bs_kid2 b rb) fun w11 n11 => ⟨.inr (keep2 n11.ext ⟨by rw [sz_dr]; omega, fun _ h => h⟩ ⟨by rw [sz_dr]; omega, fun _ h => h⟩), ?_⟩
        simp only [↓List.toList_toArray, ↓rgd, ↓rgf, ↓reduceIte, Nat.reduceEqDiff, rg, ow_57]
        have n11 := n11.od
        have s11 := n11.size
        refine do_bsl rfl bs_kid0 fun w12 n12 => ⟨.inr (keep2 n12.ext ⟨by omega, fun _ h => h⟩ ⟨by omega, fun _ h => h⟩), ?_⟩
        simp only [↓List.toList_toArray, ↓rgd, ↓rgf, ↓reduceIte, Nat.reduceEqDiff, rg, ow_57]
        have s12 := n12.size
        have hv : SlV w12 1 (.slice (some ⟨w11.heap.size, 0, none⟩) 0 0) 0 [] := ⟨rfl, .inr ⟨_, 0, 0, rfl, Nat.le_refl _, Row.nil _ _ _, n12.wok.R (Nat.le_refl _)⟩⟩
        have hu : SlV w12 1 (.slice (some ⟨w10.heap.size, 0, none⟩) 2 2) 2 [ptr b, ptr rb] := ⟨rfl, .inr ⟨_, 0, 2, rfl, Nat.le_refl _, n12.ext.row n11.row fun _ _ h => h, (n12.ext.wok n11.wok).R (Nat.le_refl _)⟩⟩
        have X12 : Ext noF w10 w12 := n11.ext.tr n12.ext
        refine do_append (by simp only [evt, evc, upd_eq, Nat.reduceEqDiff, ↓reduceIte, ntT, ntF] <;> rfl) (by simp only [evt, evc, upd_eq, Nat.reduceEqDiff, ↓reduceIte, ntT, ntF] <;> rfl) el_kid rfl ni_97 hv hu (by omega) (by decide) (by intro v hv; simp at hv; rcases hv with rfl | rfl <;> rfl) fun v13 w13 a13 => ?_
        obtain ⟨cap2, rfl, hcap2, row13, wok13, x13, s13⟩ := app_new a13 (by omega)
        refine ⟨.inr (keep2 x13 ⟨by omega, fun _ h => h⟩ ⟨by omega, fun _ h => h⟩), ?_⟩
        simp only [↓List.toList_toArray, ↓rgd, ↓rgf, ↓reduceIte, Nat.reduceEqDiff, rg, ow_57]
        refine do_store (by simp only [evt, evc, upd_eq, Nat.reduceEqDiff, ↓reduceIte, ntT, ntF] <;> rfl) (by simp only [evt, evc, upd_eq, Nat.reduceEqDiff, ↓reduceIte, ntT, ntF] <;> rfl) sz_97 rfl (x13.wok (X12.wok wbc10)) (by decide) (oc_one rfl rfl) fun w14 x14 r14 s14 => ⟨.inl trivial, ?_⟩
        simp only [↓List.toList_toArray, ↓rgd, ↓rgf, ↓reduceIte, Nat.reduceEqDiff, rg, ow_57]
        refine rest _ _ (by simp only [upd_eq, Nat.reduceEqDiff, ↓reduceIte]; exact e0) (by simp only [upd_eq, Nat.reduceEqDiff, ↓reduceIte]; exact e8) (by simp only [upd_eq, Nat.reduceEqDiff, ↓reduceIte]; exact e6) (by simp only [upd_eq, Nat.reduceEqDiff, ↓reduceIte] <;> rfl) (((X12.tr x13).mono fun _ _ _ g => g.elim).tr x14) ⟨w12.heap.size, cap2, (Row.cons.1 r14).1, hcap2, x14.row row13 fun j _ h => by simp only [rng] at h; omega, by have := x14.wok wok13; rwa [Nat.mul_one] at this, by omega⟩
    · refine W_seq ?_
      refine W_sq fun K hK => (W_text [true] (by kernel_rfl) ?_); simp only [↓List.toList_toArray, ↓rgd, ↓rgf, ↓reduceIte, Nat.reduceEqDiff, rg, ow_57, e11]
      refine hK _ _ ?_; clear hK K
      refine W_false (by simp only [evt, evc, upd_eq, Nat.reduceEqDiff, ↓reduceIte, ntT, ntF] <;> rfl) (W_skip ?_)
      show W _ _ _ _ _ _
      refine W_seq ?_
      have hpl := put_length O κ x xs
      have hpa := put_asc O κ (x := x) ha
      cases hh2 : hit O κ (κ x) xs with
      | true =>
        rw [hh2] at hpl
        refine W_sq fun K hK => (W_text [true] (by kernel_rfl) ?_); simp only [↓List.toList_toArray, ↓rgd, ↓rgf, ↓reduceIte, Nat.reduceEqDiff, rg, ow_57, e10, hh2]
        refine hK _ _ ?_; clear hK K
        refine W_true (by simp only [evt, evc, upd_eq, Nat.reduceEqDiff, ↓reduceIte, ntT, ntF] <;> rfl) ?_
        refine W_sq fun K hK => (W_text [true, false, true] (by kernel_rfl) ?_); simp only [↓List.toList_toArray, ↓rgd, ↓rgf, ↓reduceIte, Nat.reduceEqDiff, rg, ow_57, e9]
        refine do_store (by simp only [evt, upd_eq, Nat.reduceEqDiff, ↓reduceIte]; exact e6) (by simp only [evt, evc, upd_eq, Nat.reduceEqDiff, ↓reduceIte, ntT, ntF] <;> rfl) sz_74 rfl wq3 (by decide) (fun _ h => by cases h) fun w4 x4 r4 s4 => ⟨trivial, ?_⟩
        simp only [↓List.toList_toArray, ↓rgd, ↓rgf, ↓reduceIte, Nat.reduceEqDiff, rg, ow_57]
        refine hK _ _ ?_; clear hK K
        have M3 : MapAt w3 m d iso (put O κ x xs) F' := ⟨c3, by rw [hpl]; exact ct3, hpa, .inr ⟨h, b, rt3, hT'⟩, hF'm, hT'.lt⟩
        refine W_ret ?_
        simp only [andThen_ret]
        exact endQ_ct (by simp only [upd_eq, Nat.reduceEqDiff, ↓reduceIte]; exact e6) (by simp only [upd_eq, Nat.reduceEqDiff, ↓reduceIte] <;> rfl) ld_74 ld_unit (hR _ _ ⟨by rw [hh2]; rfl, X3.trans x4 (fun _ _ g => .inl g) fun y o _ k => by simp only [rng] at k; omega, F', M3.extG x4 (fun y o _ k => by simp only [rng] at k; omega) fun o k => by simp only [rng] at k; omega, fun y o g => (hF3 y o g).imp id fun g => by omega⟩)
      | false =>
        rw [hh2] at hpl
        have q1 := wadd1 xs.length (by omega)
        refine W_sq fun K hK => (W_text [true] (by kernel_rfl) ?_); simp only [↓List.toList_toArray, ↓rgd, ↓rgf, ↓reduceIte, Nat.reduceEqDiff, rg, ow_57, e10, hh2]
        refine hK _ _ ?_; clear hK K
        refine W_false (by simp only [evt, evc, upd_eq, Nat.reduceEqDiff, ↓reduceIte, ntT, ntF] <;> rfl) (W_skip ?_)
        show W _ _ _ _ _ _
        refine W_sq fun K hK => (W_text [true, true, true, true, true, true, true, false] (by kernel_rfl) ?_); simp only [↓List.toList_toArray, ↓rgd, ↓rgf, ↓reduceIte, Nat.reduceEqDiff, rg, ow_57, e0, ptr_eq, ct3, q1]
        refine do_store (by simp only [evt, evc, upd_eq, Nat.reduceEqDiff, ↓reduceIte, ntT, ntF] <;> rfl) (by simp only [evt, evc, upd_eq, Nat.reduceEqDiff, ↓reduceIte, ntT, ntF] <;> rfl) sz_3 rfl c3.wok (by decide) (oc_one rfl rfl) fun w4 x4 r4 s4 => ⟨trivial, ?_⟩
        simp only [↓List.toList_toArray, ↓rgd, ↓rgf, ↓reduceIte, Nat.reduceEqDiff, rg, ow_57]
        refine hK _ _ ?_; clear hK K
        have c4 := c3.ext x4 fun o _ h3 g => h3 (by simp only [rng] at g; omega)
        have tm4 := wok.ty tyP c4.wok
        refine W_sq fun K hK => (W_text [true, true, true, true, true, false, true] (by kernel_rfl) ?_); simp only [↓List.toList_toArray, ↓rgd, ↓rgf, ↓reduceIte, Nat.reduceEqDiff, rg, ow_57, e0, ptr_eq, tm4]
        refine do_store (by simp only [evt, upd_eq, Nat.reduceEqDiff, ↓reduceIte]; exact e6) (by simp only [evt, evc, upd_eq, Nat.reduceEqDiff, ↓reduceIte, ntT, ntF] <;> rfl) sz_74 rfl (x4.wok wq3) (by decide) (fun _ h => by cases h) fun w5 x5 r5 s5 => ⟨trivial, ?_⟩
        simp only [↓List.toList_toArray, ↓rgd, ↓rgf, ↓reduceIte, Nat.reduceEqDiff, rg, ow_57]
        refine hK _ _ ?_; clear hK K
        have hat : at? O κ (κ x) xs = none := by unfold at?; rw [hh2]; rfl
        have M4 : MapAt w4 m d iso (put O κ x xs) F' := by
          refine ⟨c4, ?_, hpa, .inr ⟨h, b, x4.rd rt3 (by simp only [rng]; omega), ?_⟩, hF'm, fun y o g => ?_⟩
          · rw [hpl]; exact (Row.cons.1 r4).1
          · exact hT'.ext x4 fun y o g k => hF'm o (by simp only [rng] at k; rw [← k.1]; exact g)
          · have := hT'.lt y o g; omega
        exact W_ret (endQ_ct (by simp only [upd_eq, Nat.reduceEqDiff, ↓reduceIte]; exact e6) (by simp only [upd_eq, Nat.reduceEqDiff, ↓reduceIte] <;> rfl) ld_74 ld_unit (hR _ _ ⟨by rw [hat, hh2]; rfl, (X3.trans x4 (H := mapF m F) (fun _ _ g => .inl g) fun y o _ g => .inr ⟨g.1, by simp only [rng] at g; omega⟩).trans x5 (fun _ _ g => g) fun y o _ k => by simp only [rng] at k; omega, F', M4.extG x5 (fun y o _ k => by simp only [rng] at k; omega) fun o k => by simp only [rng] at k; omega,
          fun y o g => (hF3 y o g).imp id fun g => by omega⟩))
  refine ⟨?_, ?_⟩
  · refine do_call fn_70 (by simp only [evt, evc, upd_eq, Nat.reduceEqDiff, ↓reduceIte, maT, maC, maN, isnN, isnS] <;> rfl) (set_any m d iso x hd hd' h _ 1 rfl (Nat.le_refl 1) b xs F _ m 2 (c2.ext (Ext.dr noF _ _) fun _ _ _ g => g) ((ht.ext X2 fun _ _ _ g => g).ext (Ext.dr noF _ _) fun _ _ _ g => g) ha hbig hm rt2 (hm 2)) ?_
    rintro v w3p ⟨x3p, F', hF', hres⟩
    refine ⟨(by first | exact trivial | exact .inr (keeps_on x3p fun y hy => by
      simp only [List.mem_cons, List.not_mem_nil, or_false] at hy
      subst hy
      exact ⟨by (try rw [sz_dr]); omega, fun o g => by have := hFlt _ _ g; omega⟩)), ?_⟩
    have x3p := x3p.od
    have hF3 : ∀ y o, F' y o → F y o ∨ w2.heap.size ≤ y := hF'
    have s3p := x3p.size
    rcases hres with ⟨rfl, hT', hh⟩ | ⟨rfl, hT'⟩
    · simp only [↓List.toList_toArray, ↓rgd, ↓rgf, ↓reduceIte, Nat.reduceEqDiff, rg, ow_57]
      refine do_alloc z_unit fun w3a n3a => ⟨(by first | exact trivial | exact .inr (keeps_on n3a.ext fun y hy => by
        simp only [List.mem_cons, List.not_mem_nil, or_false] at hy
        subst hy
        exact ⟨by (try rw [sz_dr]); omega, fun o g => g⟩)), ?_⟩
      simp only [↓List.toList_toArray, ↓rgd, ↓rgf, ↓reduceIte, Nat.reduceEqDiff, rg, ow_57]
      have s3a := n3a.size
      refine do_store (by simp only [evt, evc, upd_eq, Nat.reduceEqDiff, ↓reduceIte, ntT, ntF] <;> rfl) (by simp only [evt, evc, upd_eq, Nat.reduceEqDiff, ↓reduceIte, ntT, ntF] <;> rfl) sz_74 rfl n3a.wok (by decide) (fun _ h => by cases h) fun w3 x3s r3s s3s => ⟨(by first | exact trivial | exact .inr (keeps_on x3s fun y hy => by
        simp only [List.mem_cons, List.not_mem_nil, or_false] at hy
        subst hy
        exact ⟨by (try rw [sz_dr]); omega, fun o g => by simp only [rng] at g; omega⟩)), ?_⟩
      simp only [↓List.toList_toArray, ↓rgd, ↓rgf, ↓reduceIte, Nat.reduceEqDiff, rg, ow_57]
      have TT := (hT'.ext n3a.ext fun _ _ _ g => g).ext x3s fun y o g k => by simp only [rng] at k; omega
      exact rest0 _ _ false true (by simp only [upd_eq, Nat.reduceEqDiff, ↓reduceIte]; exact e0) (by simp only [upd_eq, Nat.reduceEqDiff, ↓reduceIte] <;> rfl) (by simp only [upd_eq, Nat.reduceEqDiff, ↓reduceIte] <;> rfl) ⟨_, by simp only [upd_eq, Nat.reduceEqDiff, ↓reduceIte]; rfl⟩ (by simp only [upd_eq, Nat.reduceEqDiff, ↓reduceIte] <;> rfl) (by simp only [upd_eq, Nat.reduceEqDiff, ↓reduceIte] <;> rfl) (x3p.trans (noF_of n3a.ext x3s fun y o _ k => by simp only [rng] at k; omega) (fun _ _ g => g) fun _ _ _ g => g.elim) ⟨F', hF3, .inl ⟨rfl, rfl, TT, hh⟩⟩
    · simp only [↓List.toList_toArray, ↓rgd, ↓rgf, ↓reduceIte, Nat.reduceEqDiff, rg, ow_57]
      refine do_alloc z_unit fun w3a n3a => ⟨(by first | exact trivial | exact .inr (keeps_on n3a.ext fun y hy => by
        simp only [List.mem_cons, List.not_mem_nil, or_false] at hy
        subst hy
        exact ⟨by (try rw [sz_dr]); omega, fun o g => g⟩)), ?_⟩
      simp only [↓List.toList_toArray, ↓rgd, ↓rgf, ↓reduceIte, Nat.reduceEqDiff, rg, ow_57]
      have s3a := n3a.size
      refine do_store (by simp only [evt, evc, upd_eq, Nat.reduceEqDiff, ↓reduceIte, ntT, ntF] <;> rfl) (by simp only [evt, evc, upd_eq, Nat.reduceEqDiff, ↓reduceIte, ntT, ntF] <;> rfl) sz_74 rfl n3a.wok (by decide) (fun _ h => by cases h) fun w3 x3s r3s s3s => ⟨(by first | exact trivial | exact .inr (keeps_on x3s fun y hy => by
        simp only [List.mem_cons, List.not_mem_nil, or_false] at hy
        subst hy
        exact ⟨by (try rw [sz_dr]); omega, fun o g => by simp only [rng] at g; omega⟩)), ?_⟩
      simp only [↓List.toList_toArray, ↓rgd, ↓rgf, ↓reduceIte, Nat.reduceEqDiff, rg, ow_57]
      have TT := (hT'.ext n3a.ext fun _ _ _ g => g).ext x3s fun y o g k => by simp only [rng] at k; omega
      exact rest0 _ _ _ false (by simp only [upd_eq, Nat.reduceEqDiff, ↓reduceIte]; exact e0) (by simp only [upd_eq, Nat.reduceEqDiff, ↓reduceIte] <;> rfl) (by simp only [upd_eq, Nat.reduceEqDiff, ↓reduceIte] <;> rfl) ⟨_, by simp only [upd_eq, Nat.reduceEqDiff, ↓reduceIte]; rfl⟩ (by simp only [upd_eq, Nat.reduceEqDiff, ↓reduceIte] <;> rfl) (by simp only [upd_eq, Nat.reduceEqDiff, ↓reduceIte] <;> rfl) (x3p.trans (noF_of n3a.ext x3s fun y o _ k => by simp only [rng] at k; omega) (fun _ _ g => g) fun _ _ _ g => g.elim) ⟨F', hF3, .inr ⟨rfl, rfl, TT⟩⟩
  · refine do_alloc z_unit fun w3a n3a => ⟨(by first | exact trivial | exact .inr (keeps_on n3a.ext fun y hy => by
      simp only [List.mem_cons, List.not_mem_nil, or_false] at hy
      subst hy
      exact ⟨by (try rw [sz_dr]); omega, fun o g => g⟩)), ?_⟩
    simp only [↓List.toList_toArray, ↓rgd, ↓rgf, ↓reduceIte, Nat.reduceEqDiff, rg, ow_57]
    have n3a := n3a.od
    have s3a := n3a.size
    refine do_call fn_70 (by simp only [evt, evc, upd_eq, Nat.reduceEqDiff, ↓reduceIte, maT, maC, maN, isnN, isnS] <;> rfl) (set_any m d iso x hd hd' h _ 1 rfl (Nat.le_refl 1) b xs F _ m 2 (c2.ext n3a.ext fun _ _ _ g => g) ((ht.ext X2 fun _ _ _ g => g).ext n3a.ext fun _ _ _ g => g) ha hbig hm (n3a.ext.rd rt2 fun g => g) (hm 2)) ?_
    rintro v w3p ⟨x3p, F', hF', hres⟩
    refine ⟨(by first | exact trivial | exact .inr (keeps_on x3p fun y hy => by
      simp only [List.mem_cons, List.not_mem_nil, or_false] at hy
      subst hy
      exact ⟨by (try rw [sz_dr]); omega, fun o g => by have := hFlt _ _ g; omega⟩)), ?_⟩
    have hF3 : ∀ y o, F' y o → F y o ∨ w2.heap.size ≤ y := fun y o g => (hF' y o g).imp id fun g => by omega
    have s3p := x3p.size
    have hq3 : ∀ o, ¬ F' w2.heap.size o := fun o g => by
      rcases hF' _ o g with g | g
      · have := hFlt _ _ g; omega
      · omega
    rcases hres with ⟨rfl, hT', hh⟩ | ⟨rfl, hT'⟩
    · simp only [↓List.toList_toArray, ↓rgd, ↓rgf, ↓reduceIte, Nat.reduceEqDiff, rg, ow_57]
      refine do_store (by simp only [evt, evc, upd_eq, Nat.reduceEqDiff, ↓reduceIte, ntT, ntF] <;> rfl) (by simp only [evt, evc, upd_eq, Nat.reduceEqDiff, ↓reduceIte, ntT, ntF] <;> rfl) sz_74 rfl (x3p.wok n3a.wok) (by decide) (fun _ h => by cases h) fun w3 x3s r3s s3s => ⟨(by first | exact trivial | exact .inr (keeps_on x3s fun y hy => by
        simp only [List.mem_cons, List.not_mem_nil, or_false] at hy
        subst hy
        exact ⟨by (try rw [sz_dr]); omega, fun o g => by simp only [rng] at g; omega⟩)), ?_⟩
      simp only [↓List.toList_toArray, ↓rgd, ↓rgf, ↓reduceIte, Nat.reduceEqDiff, rg, ow_57]
      have TT := hT'.ext x3s fun y o g k => by simp only [rng] at k; omega
      exact rest0 _ _ false true (by simp only [upd_eq, Nat.reduceEqDiff, ↓reduceIte]; exact e0) (by simp only [upd_eq, Nat.reduceEqDiff, ↓reduceIte] <;> rfl) (by simp only [upd_eq, Nat.reduceEqDiff, ↓reduceIte] <;> rfl) ⟨_, by simp only [upd_eq, Nat.reduceEqDiff, ↓reduceIte]; rfl⟩ (by simp only [upd_eq, Nat.reduceEqDiff, ↓reduceIte] <;> rfl) (by simp only [upd_eq, Nat.reduceEqDiff, ↓reduceIte] <;> rfl) ((n3a.ext.trans x3p (H := F) (fun _ _ g => g.elim) fun _ _ _ g => g).trans x3s (fun _ _ g => g) fun y o _ k => by simp only [rng] at k; omega) ⟨F', hF3, .inl ⟨rfl, rfl, TT, hh⟩⟩
    · simp only [↓List.toList_toArray, ↓rgd, ↓rgf, ↓reduceIte, Nat.reduceEqDiff, rg, ow_57]
      refine do_store (by simp only [evt, evc, upd_eq, Nat.reduceEqDiff, ↓reduceIte, ntT, ntF] <;> rfl) (by simp only [evt, evc, upd_eq, Nat.reduceEqDiff, ↓reduceIte, ntT, ntF] <;> rfl) sz_74 rfl (x3p.wok n3a.wok) (by decide) (fun _ h => by cases h) fun w3 x3s r3s s3s => ⟨(by first | exact trivial | exact .inr (keeps_on x3s fun y hy => by
        simp only [List.mem_cons, List.not_mem_nil, or_false] at hy
        subst hy
        exact ⟨by (try rw [sz_dr]); omega, fun o g => by simp only [rng] at g; omega⟩)), ?_⟩
      simp only [↓List.toList_toArray, ↓rgd, ↓rgf, ↓reduceIte, Nat.reduceEqDiff, rg, ow_57]
      have TT := hT'.ext x3s fun y o g k => by simp only [rng] at k; omega
      exact rest0 _ _ _ false (by simp only [upd_eq, Nat.reduceEqDiff, ↓reduceIte]; exact e0) (by simp only [upd_eq, Nat.reduceEqDiff, ↓reduceIte] <;> rfl) (by simp only [upd_eq, Nat.reduceEqDiff, ↓reduceIte] <;> rfl) ⟨_, by simp only [upd_eq, Nat.reduceEqDiff, ↓reduceIte]; rfl⟩ (by simp only [upd_eq, Nat.reduceEqDiff, ↓reduceIte] <;> rfl) (by simp only [upd_eq, Nat.reduceEqDiff, ↓reduceIte] <;> rfl) ((n3a.ext.trans x3p (H := F) (fun _ _ g => g.elim) fun _ _ _ g => g).trans x3s (fun _ _ g => g) fun y o _ k => by simp only [rng] at k; omega) ⟨F', hF3, .inr ⟨rfl, rfl, TT⟩⟩
set_option maxHeartbeats 400000 in
set_option maxRecDepth 8000 in
theorem init_again (m d : Nat) (iso : Int) (hd : 2 ≤ d) (v : Value) (w : World) (hc : Cfg w m iso d) : CallK Try.prog 68 #[ptr m, v] w fun _ w' => w = w' := by
  refine calls_of_W [] Try.func68 rfl Try.ntmps68 Try.results68 (by simp) fun e he => ?_
  have e0 : e 0 = ptr m := he 0 _ rfl
  clear he
  have t1 : (((d - 1 : Nat) : Int) != 0) = true := by simp; omega
  refine W_seq ?_
  refine W_sq fun K hK => (W_text [true, true, true, true, true] (by kernel_rfl) ?_); simp only [↓List.toList_toArray, ↓rgd, ↓rgf, ↓reduceIte, Nat.reduceEqDiff, rg, ow_68, e0, ptr_eq, hc.mn, t1]
  refine hK _ _ ?_; clear hK K
  refine W_true (by simp only [evt, evc, upd_eq, Nat.reduceEqDiff, ↓reduceIte, ntT, ntF] <;> rfl) (W_ret ?_)
  simp only [andThen_ret]
  exact endQ_0 rfl
set_option maxHeartbeats 1000000 in
set_option maxRecDepth 8000 in
/-- Setting in an empty map. -/
theorem set_nil' (m d : Nat) (iso : Int) (x : It) (hd : 2 ≤ d) (hd' : d ≤ 128) (w00 : World) (I : Nat → Nat → Prop) (hI : ∀ y o, I y o → y = m)
    (hinit : ∀ w1, Ext noF w00 w1 → CallK Try.prog 68 #[ptr m, .int .i64 0] w1 fun _ w' => Ext I w1 w' ∧ Cfg w' m iso d ∧ w'.heap.size = w1.heap.size) (hroot : rd w00 m 2 = some (.pointer none)) :
    CallK Try.prog 57 #[ptr m, kV x.1, vV x] w00 (NilQ m d iso x I w00) := by
  have hml0 := rd_lt hroot
  suffices HS : ∀ R : Value → World → Prop, (∀ v w', NilQ m d iso x I w00 v w' → R v w') → CallK Try.prog 57 #[ptr m, kV x.1, vV x] w00 R from HS _ fun _ _ h => h
  intro R hR
  refine calls_of_W [.cell 6 74, .tmp 7] Try.func57 rfl Try.ntmps57 Try.results57 (by simp) fun e he => ?_
  have e0 : e 0 = ptr m := he 0 _ rfl
  have e1 : e 1 = kV x.1 := he 1 _ rfl
  have e2 : e 2 = .agg #[] := he 2 _ rfl
  clear he
  refine W_sq fun K hK => (W_text [false, false, true] (by kernel_rfl) ?_); simp only [↓List.toList_toArray, ↓rgd, ↓rgf, ↓reduceIte, Nat.reduceEqDiff, rg, ow_57]
  refine do_box (by simp only [evt]; exact e2) fun wa na => ⟨trivial, ?_⟩
  simp only [↓List.toList_toArray, ↓rgd, ↓rgf, ↓reduceIte, Nat.reduceEqDiff, rg, ow_57]
  refine do_alloc z_unit fun w nb => ⟨trivial, ?_⟩
  simp only [↓List.toList_toArray, ↓rgd, ↓rgf, ↓reduceIte, Nat.reduceEqDiff, rg, ow_57]
  refine hK _ _ ?_; clear hK K
  have Xb : Ext noF w00 w := na.ext.tr nb.ext
  have sa := na.size
  have sb := nb.size
  obtain ⟨q, hq⟩ : ∃ q, q = wa.heap.size := ⟨_, rfl⟩
  have wqb : wok w q 0 := by rw [hq]; exact nb.wok
  rw [← hq]
  have hqw : q < w.heap.size := by omega
  have hqm : q ≠ m := by omega
  replace hR : ∀ v w', NilQ m d iso x I w v w' → R v w' := fun v w' ⟨h1, h2, F', h3, h4⟩ => hR v w' ⟨h1, Xb.trans h2 (fun _ _ g => g.elim) (fun _ _ _ g => g), F', h3, fun y o g => by have := h4 y o g; omega⟩
  replace hroot := Xb.rd hroot fun h => h
  replace hinit := fun w1 (X : Ext noF w w1) => hinit w1 (Xb.tr X)
  have hml := rd_lt hroot
  clear Xb na nb sa sb hq hml0
  refine W_sq fun K hK => (W_text [true, true, true, false, false] (by kernel_rfl) ?_); simp only [↓List.toList_toArray, ↓rgd, ↓rgf, ↓reduceIte, Nat.reduceEqDiff, rg, ow_57, e1, e2, bu_it x.1 x.2]
  refine do_alloc z_it fun w1 n1 => ⟨trivial, ?_⟩
  simp only [↓List.toList_toArray, ↓rgd, ↓rgf, ↓reduceIte, Nat.reduceEqDiff, rg, ow_57]
  refine do_store (by simp only [evt, evc, upd_eq, Nat.reduceEqDiff, ↓reduceIte, ntT, ntF] <;> rfl) (by simp only [evt, evc, upd_eq, Nat.reduceEqDiff, ↓reduceIte, ntT, ntF] <;> rfl) sz_76 (itV_len x) n1.wok (by decide) (itV_oc x) fun w2 x2 r2 s2 => ⟨trivial, ?_⟩
  simp only [↓List.toList_toArray, ↓rgd, ↓rgf, ↓reduceIte, Nat.reduceEqDiff, rg, ow_57]
  refine hK _ _ ?_; clear hK K
  have s1 := n1.size
  have X2 : Ext noF w w2 := noF_of n1.ext x2 fun y o hy h => by simp only [rng] at h; omega
  have rx : Row w2 w.heap.size 0 (E.cel x) := r2
  have rt2 := X2.rd hroot (fun h => h)
  refine W_seq ?_
  refine W_sq fun K hK => (W_text [true, true, true, true, true] (by kernel_rfl) ?_); simp only [↓List.toList_toArray, ↓rgd, ↓rgf, ↓reduceIte, Nat.reduceEqDiff, rg, ow_57, e0, ptr_eq, rt2]
  refine hK _ _ ?_; clear hK K
  refine W_true (by simp only [evt, evc, upd_eq, Nat.reduceEqDiff, ↓reduceIte, ntT, ntF] <;> rfl) ?_
  refine W_sq fun K hK => (W_text [true, false] (by kernel_rfl) ?_); simp only [↓List.toList_toArray, ↓rgd, ↓rgf, ↓reduceIte, Nat.reduceEqDiff, rg, ow_57, e0]
  refine do_call fn_68 (by simp only [evt, evc, upd_eq, Nat.reduceEqDiff, ↓reduceIte, maT, maC, maN, isnN, isnS] <;> rfl) (hinit w2 X2) ?_
  rintro _ w2b ⟨xi, c2b, si⟩
  refine ⟨trivial, ?_⟩
  have rxb : Row w2b w.heap.size 0 (E.cel x) := xi.row rx fun j _ g => by have := hI _ _ g; omega
  simp only [↓List.toList_toArray, ↓rgd, ↓rgf, ↓reduceIte, Nat.reduceEqDiff, rg, ow_57]
  refine hK _ _ ?_; clear hK K
  refine W_sq fun K hK => (W_text [true, true, false, true, true, false] (by kernel_rfl) ?_); simp only [↓List.toList_toArray, ↓rgd, ↓rgf, ↓reduceIte, Nat.reduceEqDiff, rg, ow_57, e0]
  refine do_call fn_69 (by simp only [evt, evc, upd_eq, Nat.reduceEqDiff, ↓reduceIte, maT, maC, maN, isnN, isnS] <;> rfl) (newNode_any m true iso w2b c2b.iso) ?_
  rintro _ w3 ⟨b, rfl, x3, nn⟩
  refine ⟨trivial, ?_⟩
  simp only [↓List.toList_toArray, ↓rgd, ↓rgf, ↓reduceIte, Nat.reduceEqDiff, rg, ow_57, ptr_eq]
  have c3 := c2b.ext x3 fun _ _ _ h => h
  refine do_store (by simp only [evt, evc, upd_eq, Nat.reduceEqDiff, ↓reduceIte, ntT, ntF] <;> rfl) (by simp only [evt, evc, upd_eq, Nat.reduceEqDiff, ↓reduceIte, ntT, ntF] <;> rfl) sz_73 rfl (c3.wok.mono (by decide)) (Nat.le_refl 3) (oc_one rfl rfl) fun w4 x4 r4 s4 => ⟨trivial, ?_⟩
  simp only [↓List.toList_toArray, ↓rgd, ↓rgf, ↓reduceIte, Nat.reduceEqDiff, rg, ow_57]
  refine hK _ _ ?_; clear hK K
  have nnge := nn.ge
  have s3 := x3.size
  have hbl := wok_lt nn.wb
  have rt4 : rd w4 m 2 = some (ptr b) := (Row.cons.1 r4).1
  have c4 := c3.ext x4 fun o h2 _ g => h2 (by simp only [rng] at g; omega)
  have rx4 : Row w4 w.heap.size 0 (E.cel x) := x4.row (x3.row rxb fun _ _ h => h) fun j _ h => by simp only [rng] at h; omega
  have ix4 := iA_at rx4
  have wb4 := x4.wok nn.wb
  have M4 : readsB (some (some [m, w.heap.size])) m = true := by simp [readsB]
  have M5 : readsB (some (some [m, w.heap.size])) w.heap.size = true := by simp [readsB]
  refine W_sq fun K hK => (W_draw (some (some [m, w.heap.size])) (some 10) [(0, 0, 0), (0, 1, 0), (0, 2, 0), (0, 3, 0), (0, 5, 0), (2, 4, 6), (1, 7, 0), (0, 8, 0), (0, 9, 0), (1, 10, 0)] mixed (by kernel_rfl) ?_); simp only [↓List.toList_toArray, ↓rgd, ↓rgf, ↓reduceIte, Nat.reduceEqDiff, rg, ow_57, e0, ptr_eq, rt4, ix4, M4, M5]
  have rest2 : ∀ e'' w', e'' 0 = ptr m → e'' 6 = .pointer (some ⟨q, 0, none⟩) → Ext (rng b 2 1) w4 w' →
      (∃ bi2 cap3, rd w' b 2 = some (.slice (some ⟨bi2, 0, none⟩) 1 cap3) ∧ 1 ≤ cap3 ∧ Row w' bi2 0 (E.cel x) ∧ wok w' bi2 (cap3 * 1) ∧ w4.heap.size ≤ bi2) → K e'' w' := by
    intro e'' w18 f0 f6 x18 ⟨bi2, cap3, p0, p2, p3, p4, p5⟩
    refine hK _ _ ?_; clear hK K
    have s18 := x18.size
    have hbi18 := wok_lt p4
    have rt18 : rd w18 m 2 = some (ptr b) := x18.rd rt4 (by simp only [rng]; omega)
    have c18 := c4.ext x18 fun o _ _ g => by simp only [rng] at g; omega
    refine W_sq fun K hK => (W_text [true, true, true, true, true, true, false] (by kernel_rfl) ?_); simp only [↓List.toList_toArray, ↓rgd, ↓rgf, ↓reduceIte, Nat.reduceEqDiff, rg, ow_57, f0, ptr_eq, rt18]
    refine do_store (by simp only [evt, evc, upd_eq, Nat.reduceEqDiff, ↓reduceIte, ntT, ntF] <;> rfl) (by simp only [evt, evc, upd_eq, Nat.reduceEqDiff, ↓reduceIte, ntT, ntF] <;> rfl) sz_3 rfl (x18.wok wb4) (by decide) (oc_one rfl rfl) fun w19 x19 r19 s19 => ⟨trivial, ?_⟩
    simp only [↓List.toList_toArray, ↓rgd, ↓rgf, ↓reduceIte, Nat.reduceEqDiff, rg, ow_57]
    refine hK _ _ ?_; clear hK K
    have c19 := c18.ext x19 fun o _ _ g => by simp only [rng] at g; omega
    refine W_sq fun K hK => (W_text [true, true, true, false] (by kernel_rfl) ?_); simp only [↓List.toList_toArray, ↓rgd, ↓rgf, ↓reduceIte, Nat.reduceEqDiff, rg, ow_57, f0, ptr_eq]
    refine do_store (by simp only [evt, evc, upd_eq, Nat.reduceEqDiff, ↓reduceIte, ntT, ntF] <;> rfl) (by simp only [evt, evc, upd_eq, Nat.reduceEqDiff, ↓reduceIte, ntT, ntF] <;> rfl) sz_3 rfl (c19.wok.mono (by decide)) (Nat.le_refl 4) (oc_one rfl rfl) fun w20 x20 r20 s20 => ⟨trivial, ?_⟩
    simp only [↓List.toList_toArray, ↓rgd, ↓rgf, ↓reduceIte, Nat.reduceEqDiff, rg, ow_57]
    refine hK _ _ ?_; clear hK K
    have c20 := c19.ext x20 fun o _ h3 g => h3 (by simp only [rng] at g; omega)
    have tm20 := wok.ty tyP c20.wok
    have wq20 : wok w20 q 0 := x20.wok (x19.wok (x18.wok (x4.wok (x3.wok (xi.wok (X2.wok wqb))))))
    refine W_sq fun K hK => (W_text [true, true, true, true, true, false, true] (by kernel_rfl) ?_); simp only [↓List.toList_toArray, ↓rgd, ↓rgf, ↓reduceIte, Nat.reduceEqDiff, rg, ow_57, f0, ptr_eq, tm20]
    refine do_store (by simp only [evt, upd_eq, Nat.reduceEqDiff, ↓reduceIte]; exact f6) (by simp only [evt, evc, upd_eq, Nat.reduceEqDiff, ↓reduceIte, ntT, ntF] <;> rfl) sz_74 rfl wq20 (by decide) (fun _ h => by cases h) fun w21 x21 r21 s21 => ⟨trivial, ?_⟩
    simp only [↓List.toList_toArray, ↓rgd, ↓rgf, ↓reduceIte, Nat.reduceEqDiff, rg, ow_57]
    refine hK _ _ ?_; clear hK K
    have X20 : Ext (fun y o => mapF m noF y o ∨ I y o) w w20 := by
      refine ((((((X2.trans xi (H := fun y o => mapF m noF y o ∨ I y o) (fun _ _ g => g.elim) fun y o _ g => .inr g).trans x3 (fun _ _ g => g) fun _ _ _ g => g.elim).trans x4 (fun _ _ g => g) fun y o _ g => ?_).trans x18 (fun _ _ g => g) fun y o _ g => ?_).trans x19 (fun _ _ g => g) fun y o _ g => ?_).trans x20 (fun _ _ g => g) fun y o _ g => ?_)
      · simp only [rng] at g; exact .inl (.inr ⟨g.1, by omega⟩)
      · simp only [rng] at g; omega
      · simp only [rng] at g; omega
      · simp only [rng] at g; exact .inl (.inr ⟨g.1, by omega⟩)
    have tr : Tr E iso (d - 1) (2 * d - 1) 0 w20 1 b [x] (ownF E b bi2 0 cap3) := by
      refine ⟨bi2, 0, cap3, ⟨x20.rd (x19.rd (x18.rd (x4.rd nn.h0 (by simp only [rng]; omega)) (by simp only [rng]; omega)) (by simp only [rng]; omega)) (by simp only [rng]; omega), ?_, x20.rd (x19.rd p0 (by simp only [rng]; omega)) (by simp only [rng]; omega),
        x20.rd (x19.rd (x18.rd (x4.rd (nn.leaf rfl) (by simp only [rng]; omega)) (by simp only [rng]; omega)) (by simp only [rng]; omega)) (by simp only [rng]; omega), x20.wok (x19.wok (x18.wok wb4)), ?_, by rw [Nat.zero_add]; exact x20.wok (x19.wok p4), p2, by omega⟩,
        Nat.le_refl _, (by show 1 ≤ 2 * d - 1; omega), fun _ _ => Iff.rfl⟩
      · exact x20.rd (Row.cons.1 r19).1 (by simp only [rng]; omega)
      · rw [flat_one]; exact x20.row (x19.row p3 fun j _ h => by simp only [rng] at h; omega) fun j _ h => by simp only [rng] at h; omega
    have hown : ∀ y o, ownF E b bi2 0 cap3 y o → w2.heap.size ≤ y := fun y o g => by simp only [ownF, rng] at g; omega
    refine W_ret ?_
    simp only [andThen_ret]
    have M20 : MapAt w20 m d iso [x] (ownF E b bi2 0 cap3) := ⟨c20, (Row.cons.1 r20).1, List.pairwise_singleton _ _, .inr ⟨0, b, x20.rd (x19.rd rt18 (by simp only [rng]; omega)) (by simp only [rng]; omega), tr⟩, fun o g => by have := hown _ _ g; omega, tr.lt⟩
    exact endQ_ct (by simp only [upd_eq, Nat.reduceEqDiff, ↓reduceIte]; exact f6) (by simp only [upd_eq, Nat.reduceEqDiff, ↓reduceIte] <;> rfl) ld_74 ld_unit (hR _ _ ⟨rfl, X20.trans x21 (fun _ _ g => g) fun y o _ k => by simp only [rng] at k; omega, _, M20.extG x21 (fun y o _ k => by simp only [rng] at k; omega) fun o k => by simp only [rng] at k; omega,
      fun y o g => by have := hown _ _ g; omega⟩)
  constructor
  · refine do_bsl rfl bs_it0 fun w15 n15 => ⟨.inr (keep2 n15.ext ⟨by rw [sz_dr]; omega, fun _ h => h⟩ ⟨by rw [sz_dr]; omega, fun _ h => h⟩), ?_⟩
    simp only [↓List.toList_toArray, ↓rgd, ↓rgf, ↓reduceIte, Nat.reduceEqDiff, rg, ow_57]
    have n15 := n15.od
    have s15 := n15.size
    refine do_bsl rfl (bs_it1 x) fun w16 n16 => ⟨.inr (keep2 n16.ext ⟨by omega, fun _ h => h⟩ ⟨by omega, fun _ h => h⟩), ?_⟩
    simp only [↓List.toList_toArray, ↓rgd, ↓rgf, ↓reduceIte, Nat.reduceEqDiff, rg, ow_57]
    have s16 := n16.size
    have hv : SlV w16 1 (.slice (some ⟨w4.heap.size, 0, none⟩) 0 0) 0 [] := ⟨rfl, .inr ⟨_, 0, 0, rfl, Nat.le_refl _, Row.nil _ _ _, (n16.ext.wok n15.wok).R (Nat.le_refl _)⟩⟩
    have hu : SlV w16 1 (.slice (some ⟨w15.heap.size, 0, none⟩) 1 1) 1 (E.cel x) := ⟨rfl, .inr ⟨_, 0, 1, rfl, Nat.le_refl _, n16.row, n16.wok.R (Nat.le_refl _)⟩⟩
    have X16 : Ext noF w4 w16 := n15.ext.tr n16.ext
    refine do_append (by simp only [evt, evc, upd_eq, Nat.reduceEqDiff, ↓reduceIte, ntT, ntF] <;> rfl) (by simp only [evt, evc, upd_eq, Nat.reduceEqDiff, ↓reduceIte, ntT, ntF] <;> rfl) el_it rfl ni_93 hv hu (by omega) (by decide) (E.one x) fun v17 w17 a17 => ?_
    obtain ⟨cap3, rfl, hcap3, row17, wok17, x17, s17⟩ := app_new a17 (by omega)
    refine ⟨.inr (keep2 x17 ⟨by omega, fun _ h => h⟩ ⟨by omega, fun _ h => h⟩), ?_⟩
    simp only [↓List.toList_toArray, ↓rgd, ↓rgf, ↓reduceIte, Nat.reduceEqDiff, rg, ow_57, ptr_eq]
    refine do_store (by simp only [evt, evc, upd_eq, Nat.reduceEqDiff, ↓reduceIte, ntT, ntF] <;> rfl) (by simp only [evt, evc, upd_eq, Nat.reduceEqDiff, ↓reduceIte, ntT, ntF] <;> rfl) sz_93 rfl (x17.wok (X16.wok wb4)) (by decide) (oc_one rfl rfl) fun w18 x18 r18 s18 => ⟨.inl trivial, ?_⟩
    simp only [↓List.toList_toArray, ↓rgd, ↓rgf, ↓reduceIte, Nat.reduceEqDiff, rg, ow_57]
    refine rest2 _ _ (by simp only [upd_eq, Nat.reduceEqDiff, ↓reduceIte]; exact e0) (by simp only [upd_eq, Nat.reduceEqDiff, ↓reduceIte] <;> rfl) (((X16.tr x17).mono fun _ _ _ g => g.elim).tr x18) ⟨w16.heap.size, cap3, (Row.cons.1 r18).1, hcap3, x18.row row17 fun j _ h => by simp only [rng] at h; omega, x18.wok wok17, by omega⟩
  · refine do_bsl rfl (bs_it1 x) fun w15 n15 => ⟨.inr (keep2 n15.ext ⟨by rw [sz_dr]; omega, fun _ h => h⟩ ⟨by rw [sz_dr]; omega, fun _ h => h⟩), ?_⟩
    simp only [↓List.toList_toArray, ↓rgd, ↓rgf, ↓reduceIte, Nat.reduceEqDiff, rg, ow_57]
    have n15 := n15.od
    have s15 := n15.size
    refine do_bsl rfl bs_it0 fun w16 n16 => ⟨.inr (keep2 n16.ext ⟨by omega, fun _ h => h⟩ ⟨by omega, fun _ h => h⟩), ?_⟩
    simp only [↓List.toList_toArray, ↓rgd, ↓rgf, ↓reduceIte, Nat.reduceEqDiff, rg, ow_57]
    have s16 := n16.size
    have hv : SlV w16 1 (.slice (some ⟨w15.heap.size, 0, none⟩) 0 0) 0 [] := ⟨rfl, .inr ⟨_, 0, 0, rfl, Nat.le_refl _, Row.nil _ _ _, n16.wok.R (Nat.le_refl _)⟩⟩
    have hu : SlV w16 1 (.slice (some ⟨w4.heap.size, 0, none⟩) 1 1) 1 (E.cel x) := ⟨rfl, .inr ⟨_, 0, 1, rfl, Nat.le_refl _, n16.ext.row n15.row fun _ _ h => h, (n16.ext.wok n15.wok).R (Nat.le_refl _)⟩⟩
    have X16 : Ext noF w4 w16 := n15.ext.tr n16.ext
    refine do_append (by simp only [evt, evc, upd_eq, Nat.reduceEqDiff, ↓reduceIte, ntT, ntF] <;> rfl) (by simp only [evt, evc, upd_eq, Nat.reduceEqDiff, ↓reduceIte, ntT, ntF] <;> rfl) el_it rfl ni_93 hv hu (by omega) (by decide) (E.one x) fun v17 w17 a17 => ?_
    obtain ⟨cap3, rfl, hcap3, row17, wok17, x17, s17⟩ := app_new a17 (by omega)
    refine ⟨.inr (keep2 x17 ⟨by omega, fun _ h => h⟩ ⟨by omega, fun _ h => h⟩), ?_⟩
    simp only [↓List.toList_toArray, ↓rgd, ↓rgf, ↓reduceIte, Nat.reduceEqDiff, rg, ow_57, ptr_eq]
    refine do_store (by simp only [evt, evc, upd_eq, Nat.reduceEqDiff, ↓reduceIte, ntT, ntF] <;> rfl) (by simp only [evt, evc, upd_eq, Nat.reduceEqDiff, ↓reduceIte, ntT, ntF] <;> rfl) sz_93 rfl (x17.wok (X16.wok wb4)) (by decide) (oc_one rfl rfl) fun w18 x18 r18 s18 => ⟨.inl trivial, ?_⟩
    simp only [↓List.toList_toArray, ↓rgd, ↓rgf, ↓reduceIte, Nat.reduceEqDiff, rg, ow_57]
    refine rest2 _ _ (by simp only [upd_eq, Nat.reduceEqDiff, ↓reduceIte]; exact e0) (by simp only [upd_eq, Nat.reduceEqDiff, ↓reduceIte] <;> rfl) (((X16.tr x17).mono fun _ _ _ g => g.elim).tr x18) ⟨w16.heap.size, cap3, (Row.cons.1 r18).1, hcap3, x18.row row17 fun j _ h => by simp only [rng] at h; omega, x18.wok wok17, by omega⟩
theorem set_nil (m d : Nat) (iso : Int) (x : It) (hd : 2 ≤ d) (hd' : d ≤ 128) (w : World) (hc : Cfg w m iso d) (hroot : rd w m 2 = some (.pointer none)) :
    CallK Try.prog 57 #[ptr m, kV x.1, vV x] w fun v w' => v = .tuple #[vV zIt, .bool false] ∧ Ext (mapF m noF) w w' ∧ ∃ F', MapAt w' m d iso [x] F' ∧ ∀ y o, F' y o → w.heap.size ≤ y := by
  refine CallK_mono (set_nil' m d iso x hd hd' w noF (fun _ _ g => g.elim) (fun w1 X => CallK_mono (init_again m d iso hd (.int .i64 0) w1 (hc.ext X fun _ _ _ h => h)) ?_) hroot) ?_
  · rintro _ _ rfl
    exact ⟨Ext.refl _ _, hc.ext X fun _ _ _ h => h, rfl⟩
  · rintro v w' ⟨rfl, h2, h3⟩
    exact ⟨rfl, h2.mono fun y o _ g => g.elim id fun g => g.elim, h3⟩
end Go.Proofs.Ytjaolgehpnmieaa
/-
  The length of a map. No condition.
-/
set_option linter.unusedSimpArgs false
set_option linter.unusedVariables false
namespace Go.Proofs.Ytjaolgehpnmieaa
open Go Go.Proofs
set_option maxHeartbeats 400000 in
set_option maxRecDepth 8000 in
theorem len_any (m d : Nat) (iso : Int) (xs : List It) (F : Nat → Nat → Prop) (w : World) (hM : MapAt w m d iso xs F) :
    CallK Try.prog 56 #[ptr m] w fun v w' => v = .int .i64 xs.length ∧ w = w' := by
  refine calls_of_W [.tmp 2] Try.func56 rfl Try.ntmps56 Try.results56 (by simp) fun e he => ?_
  have e0 : e 0 = ptr m := he 0 _ rfl
  clear he
  refine W_sq fun K hK => (W_text [true] (by kernel_rfl) ?_); simp only [↓List.toList_toArray, ↓rgd, ↓rgf, ↓reduceIte, Nat.reduceEqDiff, rg, ow_56]
  refine hK _ _ ?_; clear hK K
  refine W_sq fun K hK => (W_text [true, true, true, true, true] (by kernel_rfl) ?_); simp only [↓List.toList_toArray, ↓rgd, ↓rgf, ↓reduceIte, Nat.reduceEqDiff, rg, ow_56, e0, ptr_eq, hM.cnt]
  refine hK _ _ ?_; clear hK K
  exact W_ret (endQ_1 (by simp only [upd_eq, Nat.reduceEqDiff, ↓reduceIte] <;> rfl) ⟨rfl, rfl⟩)
end Go.Proofs.Ytjaolgehpnmieaa
/-
  Sets: the zero set, Insert, Len, Clear; a set that is grown from a list. No condition.
-/
set_option linter.unusedSimpArgs false
set_option linter.unusedVariables false
namespace Go.Proofs.Ytjaolgehpnmieaa
open Go Go.Proofs
/-- A set: a map that was set up (of degree 32), or the zero set. -/
def DOf (d : Nat) (xs : List It) : Prop := d = 32 ∨ d = 0 ∧ xs = []
def SetAt (w : World) (m : Nat) (xs : List It) (F : Nat → Nat → Prop) : Prop := ∃ d, DOf d xs ∧ MapAt w m d 0 xs F
def setF (m : Nat) (F : Nat → Nat → Prop) : Nat → Nat → Prop := fun y o => F y o ∨ y = m
theorem mapF_setF {m : Nat} {F : Nat → Nat → Prop} {y o : Nat} (h : mapF m F y o) : setF m F y o := h.imp id fun g => g.1
theorem SetAt.ext {w w' : World} {m : Nat} {xs : List It} {F : Nat → Nat → Prop} (h : SetAt w m xs F) (x : Ext noF w w') : SetAt w' m xs F := by obtain ⟨d, h1, h2⟩ := h; exact ⟨d, h1, h2.ext x⟩
theorem SetAt.extG {w w' : World} {G : Nat → Nat → Prop} {m : Nat} {xs : List It} {F : Nat → Nat → Prop} (h : SetAt w m xs F) (x : Ext G w w') (hF : ∀ y o, F y o → ¬ G y o) (hm : ∀ o, ¬ G m o) : SetAt w' m xs F := by obtain ⟨d, h1, h2⟩ := h; exact ⟨d, h1, h2.extG x hF hm⟩
theorem SetAt.lt {w : World} {m : Nat} {xs : List It} {F : Nat → Nat → Prop} (h : SetAt w m xs F) : ∀ y o, F y o → y < w.heap.size := by obtain ⟨d, h1, h2⟩ := h; exact h2.lt
theorem SetAt.mlt {w : World} {m : Nat} {xs : List It} {F : Nat → Nat → Prop} (h : SetAt w m xs F) : m < w.heap.size := by obtain ⟨d, h1, h2⟩ := h; exact h2.mlt
theorem SetAt.off {w : World} {m : Nat} {xs : List It} {F : Nat → Nat → Prop} (h : SetAt w m xs F) : ∀ o, ¬ F m o := by obtain ⟨d, h1, h2⟩ := h; exact h2.off
theorem SetAt.asc {w : World} {m : Nat} {xs : List It} {F : Nat → Nat → Prop} (h : SetAt w m xs F) : Asc O κ xs := by obtain ⟨d, h1, h2⟩ := h; exact h2.asc
/-- A number as an item. -/
def toIt (k : Int) : It := (k, 0)
def its (l : List Int) : List It := l.map toIt
theorem its_length (l : List Int) : (its l).length = l.length := by simp [its]
theorem its_take (l : List Int) (k : Nat) : its (l.take k) = (its l).take k := by simp [its, List.map_take]
theorem its_get {l : List Int} {k : Nat} {x : Int} (h : l[k]? = some x) : (its l)[k]? = some (toIt x) := by simp [its, h]
theorem Tr.ne {w : World} {iso : Int} {mn mx h lo b : Nat} {xs : List It} {F : Nat → Nat → Prop} (ht : Tr E iso mn mx h w lo b xs F) (hlo : 1 ≤ lo) : xs ≠ [] := by
  obtain ⟨bi, oi, cap, ks, ch, ho, h1, h2, hoF, hin⟩ := ht.open
  rcases hin with ⟨_, _, hx, _⟩ | ⟨_, _, _, _, _, cs, _, _, n⟩
  · intro e; rw [e] at hx; rw [← hx] at h1; simp at h1; omega
  · intro e
    have hl := n.len
    have := congrArg List.length n.eq
    rw [weave_length (cs.map Kid.xs) ks (by simpa using hl), e] at this
    simp only [List.length_nil] at this
    omega
theorem init_zero (m : Nat) (w : World) (hM : MapAt w m 0 0 [] noF) : ∀ w1, Ext noF w w1 → CallK Try.prog 68 #[ptr m, .int .i64 0] w1 fun _ w' => Ext (rng m 5 4) w1 w' ∧ Cfg w' m 0 32 ∧ w'.heap.size = w1.heap.size := fun w1 X => by
  have c := hM.cfg.ext X fun _ _ _ g => g
  refine CallK_mono (init0_any m w1 c.wok (Row.cons.2 ⟨c.mn, Row.cons.2 ⟨c.mx, Row.cons.2 ⟨c.cv, Row.cons.2 ⟨c.ci, Row.nil _ _ _⟩⟩⟩⟩)) ?_
  rintro _ w' ⟨x, h1, h2, h3, h4, h5⟩
  exact ⟨x, ⟨x.rd c.iso (by simp only [rng]; omega), x.row c.ez fun i hi => by simp [E] at hi; simp only [rng]; omega, h1, h2, h3, h4, x.wok c.wok⟩, h5⟩
/-- Setting a key. -/
theorem set_set (m : Nat) (k : Int) (xs : List It) (F : Nat → Nat → Prop) (w : World) (h : SetAt w m xs F) (hbig : xs.length < 1152921504606846976) :
    CallK Try.prog 57 #[ptr m, .int .i64 k, .agg #[]] w fun v w' => (∃ b, v = .tuple #[.agg #[], .bool b]) ∧ Ext (setF m F) w w' ∧ ∃ F', SetAt w' m (put O κ (toIt k) xs) F' ∧ ∀ y o, F' y o → F y o ∨ w.heap.size ≤ y := by
  obtain ⟨d, hd, hM⟩ := h
  rcases hM.root with ⟨hx, hr⟩ | ⟨h, b, hr, ht⟩
  · subst hx
    rcases hd with rfl | ⟨rfl, -⟩
    · refine CallK_mono (set_nil m 32 0 (toIt k) (by omega) (by omega) w hM.cfg hr) ?_
      rintro v w' ⟨h1, h2, F', h3, h4⟩
      exact ⟨⟨_, h1⟩, h2.mono fun y o _ g => (mapF_setF g).imp (fun g => g.elim) id, F', ⟨32, .inl rfl, h3⟩, fun y o g => .inr (h4 y o g)⟩
    · have hM0 : MapAt w m 0 0 [] noF := ⟨hM.cfg, hM.cnt, hM.asc, .inl ⟨rfl, hr⟩, fun _ g => g, fun _ _ g => g.elim⟩
      refine CallK_mono (set_nil' m 32 0 (toIt k) (by omega) (by omega) w (rng m 5 4) (fun y o g => g.1) (init_zero m w hM0) hr) ?_
      rintro v w' ⟨h1, h2, F', h3, h4⟩
      exact ⟨⟨_, h1⟩, h2.mono fun y o _ g => g.elim (fun g => (mapF_setF g).imp (fun g => g.elim) id) fun g => .inr g.1, F', ⟨32, .inl rfl, h3⟩, fun y o g => .inr (h4 y o g)⟩
  · rcases hd with rfl | ⟨-, hx⟩
    · refine CallK_mono (set_root m 32 0 (toIt k) (by omega) (by omega) _ h b xs F w rfl hM.cfg hM.cnt hM.asc hr ht hM.off hbig) ?_
      rintro v w' ⟨h1, h2, F', h3, h4⟩
      exact ⟨⟨_, h1⟩, h2.mono fun y o _ g => mapF_setF g, F', ⟨32, .inl rfl, h3⟩, h4⟩
    · exact (ht.ne (Nat.le_refl 1) hx).elim
theorem bu_unit : buildV Try.prog 74 [] = some (.agg #[]) := by kernel_rfl
set_option maxHeartbeats 400000 in
set_option maxRecDepth 8000 in
theorem insert_any (m : Nat) (k : Int) (xs : List It) (F : Nat → Nat → Prop) (w : World) (h : SetAt w m xs F) (hbig : xs.length < 1152921504606846976) :
    CallK Try.prog 42 #[ptr m, .int .i64 k] w fun v w' => Ext (setF m F) w w' ∧ ∃ F', SetAt w' m (put O κ (toIt k) xs) F' ∧ ∀ y o, F' y o → F y o ∨ w.heap.size ≤ y := by
  refine calls_of_W [] Try.func42 rfl Try.ntmps42 Try.results42 (by simp) fun e he => ?_
  have e0 : e 0 = ptr m := he 0 _ rfl
  have e1 : e 1 = .int .i64 k := he 1 _ rfl
  clear he
  refine W_rg fun K hK => (W_text [true, true, true, true, true, false] (by kernel_rfl) ?_); simp only [↓List.toList_toArray, ↓rgd, ↓rgf, ↓reduceIte, Nat.reduceEqDiff, rg, ow_42, e0, e1, ptr_eq, bu_unit]
  refine do_call fn_57 (by simp only [evt, evc, upd_eq, Nat.reduceEqDiff, ↓reduceIte, maT, maC, maN, isnN, isnS] <;> rfl) (set_set m k xs F w h hbig) ?_
  rintro _ w1 ⟨-, h1⟩
  refine ⟨trivial, ?_⟩
  simp only [↓List.toList_toArray, ↓rgd, ↓rgf, ↓reduceIte, Nat.reduceEqDiff, rg, ow_42]
  refine hK _ _ ?_; clear hK K
  exact endQ_0n h1
set_option maxHeartbeats 400000 in
set_option maxRecDepth 8000 in
theorem slen_any (m : Nat) (xs : List It) (F : Nat → Nat → Prop) (w : World) (h : SetAt w m xs F) : CallK Try.prog 41 #[ptr m] w fun v w' => v = .int .i64 xs.length ∧ w = w' := by
  obtain ⟨d, hd, hM⟩ := h
  refine calls_of_W [.tmp 2] Try.func41 rfl Try.ntmps41 Try.results41 (by simp) fun e he => ?_
  have e0 : e 0 = ptr m := he 0 _ rfl
  clear he
  refine W_sq fun K hK => (W_text [true] (by kernel_rfl) ?_); simp only [↓List.toList_toArray, ↓rgd, ↓rgf, ↓reduceIte, Nat.reduceEqDiff, rg, ow_41]
  refine hK _ _ ?_; clear hK K
  refine W_sq fun K hK => (W_text [true, true, true, false, true] (by kernel_rfl) ?_); simp only [↓List.toList_toArray, ↓rgd, ↓rgf, ↓reduceIte, Nat.reduceEqDiff, rg, ow_41, e0, ptr_eq]
  refine do_call fn_56 (by simp only [evt, evc, upd_eq, Nat.reduceEqDiff, ↓reduceIte, maT, maC, maN, isnN, isnS] <;> rfl) (len_any m d 0 xs F w hM) ?_
  rintro _ w1 ⟨rfl, rfl⟩
  refine ⟨trivial, ?_⟩
  simp only [↓List.toList_toArray, ↓rgd, ↓rgf, ↓reduceIte, Nat.reduceEqDiff, rg, ow_41]
  refine hK _ _ ?_; clear hK K
  exact W_ret (endQ_1 (by simp only [upd_eq, Nat.reduceEqDiff, ↓reduceIte] <;> rfl) ⟨rfl, rfl⟩)
set_option maxHeartbeats 400000 in
set_option maxRecDepth 8000 in
theorem grow_any (l : List Int) (lv : Value) (w : World) (hl : SlN w lv l) (hbig : l.length ≤ 2147483647) :
    CallK Try.prog 30 #[lv] w fun v w' => Ext noF w w' ∧ ∃ m F, v = ptr m ∧ SetAt w' m (tree (its l)) F ∧ w.heap.size ≤ m ∧ ∀ y o, F y o → w.heap.size ≤ y := by
  obtain ⟨ka, kc, hkv⟩ := SlV.shape hl
  refine calls_of_W [.tmp 2] Try.func30 rfl Try.ntmps30 Try.results30 (by simp) fun e he => ?_
  have e0 : e 0 = .slice ka l.length kc := (he 0 _ rfl).trans hkv
  clear he
  refine W_sq fun K hK => (W_text [true] (by kernel_rfl) ?_); simp only [↓List.toList_toArray, ↓rgd, ↓rgf, ↓reduceIte, Nat.reduceEqDiff, rg, ow_30]
  refine hK _ _ ?_; clear hK K
  refine W_sq fun K hK => (W_text [false, true] (by kernel_rfl) ?_); simp only [↓List.toList_toArray, ↓rgd, ↓rgf, ↓reduceIte, Nat.reduceEqDiff, rg, ow_30]
  refine do_alloc z_set fun w1 n1 => ⟨trivial, ?_⟩
  simp only [↓List.toList_toArray, ↓rgd, ↓rgf, ↓reduceIte, Nat.reduceEqDiff, rg, ow_30]
  refine hK _ _ ?_; clear hK K
  obtain ⟨m, hm⟩ : ∃ m, m = w.heap.size := ⟨_, rfl⟩
  have X1 := n1.ext
  have hM0 : SetAt w1 m (tree ((its l).take 0)) noF := by
    have r := n1.row
    rw [← hm] at r
    have r4 := r.drop 4
    simp only [Row.cons] at r
    obtain ⟨g0, g1, g2, g3, g4, g5, g6, g7, g8, -⟩ := r
    exact ⟨0, .inr ⟨rfl, rfl⟩, ⟨⟨g0, (Row.cons.2 ⟨g4, Row.nil _ _ _⟩), g5, g6, g7, g8, by rw [hm]; exact n1.wok⟩, g3, List.Pairwise.nil, .inl ⟨rfl, g2⟩, fun _ h => h, fun _ _ h => h.elim⟩⟩
  have hmg : w.heap.size ≤ m := by omega
  clear n1
  refine W_seq (W_seq ?_)
  refine W_rg fun K hK => (W_text [true, true, true] (by kernel_rfl) ?_); simp only [↓List.toList_toArray, ↓rgd, ↓rgf, ↓reduceIte, Nat.reduceEqDiff, rg, ow_30, e0]
  refine hK _ _ ?_; clear hK K
  show W _ _ _ _ _ _
  refine W_block (W_loop (fun mm e w' => ∃ k : Nat, mm = l.length - k ∧ k ≤ l.length ∧ e 7 = .slice ka l.length kc ∧ e 8 = .int .i64 l.length ∧ e 9 = .int .i64 k ∧ e 3 = ptr m ∧ Ext noF w w' ∧ ∃ F, SetAt w' m (tree ((its l).take k)) F ∧ ∀ y o, F y o → w.heap.size ≤ y)
    l.length ⟨0, by simp, by simp, by simp only [upd_eq, Nat.reduceEqDiff, ↓reduceIte], by simp only [upd_eq, Nat.reduceEqDiff, ↓reduceIte], by simp only [upd_eq, Nat.reduceEqDiff, ↓reduceIte]; rfl, by simp only [upd_eq, Nat.reduceEqDiff, ↓reduceIte]; rw [hm]; rfl, X1, noF, hM0, fun _ _ h => h.elim⟩ ?_)
  clear X1 hM0 e0 e
  rintro mm e w' ⟨k, rfl, hk, eS, eL, eI, eM, X, F, hM, hF⟩
  by_cases hlt : k < l.length
  · have ht := lt_tt k l.length hlt
    refine W_sq fun K hK => (W_text [true] (by kernel_rfl) ?_); simp only [↓List.toList_toArray, ↓rgd, ↓rgf, ↓reduceIte, Nat.reduceEqDiff, rg, ow_30, eL, eI, ht]
    refine hK _ _ ?_; clear hK K
    refine W_seq (W_true (by simp only [evt, evc, upd_eq, Nat.reduceEqDiff, ↓reduceIte, ntT, ntF] <;> rfl) (W_skip ?_))
    show W _ _ _ _ _ _
    obtain ⟨x, hx⟩ : ∃ x, l[k]? = some x := ⟨_, List.getElem?_eq_getElem hlt⟩
    obtain ⟨ib, io, hka, row⟩ := SlV.at hl hkv hlt
    have hibl := SlV.lt hl (hkv.trans (by rw [hka]))
    have ixx := nV_at (X.row row (fun _ _ h => h)) hx
    rw [hka] at eS
    refine W_seq (W_block ?_)
    refine W_sq fun K hK => (W_text [true, true, true] (by kernel_rfl) ?_); simp only [↓List.toList_toArray, ↓rgd, ↓rgf, ↓reduceIte, Nat.reduceEqDiff, rg, ow_30, eS, eI, hlt, ixx]
    refine hK _ _ ?_; clear hK K
    rw [← hka] at eS
    have htl := tree_len ((its l).take k)
    have htk : ((its l).take k).length ≤ k := by rw [List.length_take]; omega
    refine W_rg fun K hK => (W_text [true, true, false] (by kernel_rfl) ?_); simp only [↓List.toList_toArray, ↓rgd, ↓rgf, ↓reduceIte, Nat.reduceEqDiff, rg, ow_30, eM]
    refine do_call fn_42 (by simp only [evt, evc, upd_eq, Nat.reduceEqDiff, ↓reduceIte, maT, maC, maN, isnN, isnS] <;> rfl) (insert_any m x _ F w' hM (by omega)) ?_
    rintro _ w4 ⟨x4, F', hM4, hF'⟩
    refine ⟨trivial, ?_⟩
    simp only [↓List.toList_toArray, ↓rgd, ↓rgf, ↓reduceIte, Nat.reduceEqDiff, rg, ow_30]
    refine hK _ _ ?_; clear hK K
    have sX := X.size
    show W _ _ _ _ _ _
    have q1 := wadd1 k (by omega)
    refine W_rg fun K hK => (W_text [true, true] (by kernel_rfl) ?_); simp only [↓List.toList_toArray, ↓rgd, ↓rgf, ↓reduceIte, Nat.reduceEqDiff, rg, ow_30, eI, q1]
    refine hK _ _ ?_; clear hK K
    refine ⟨_, ?_, k + 1, rfl, hlt, by simp only [upd_eq, Nat.reduceEqDiff, ↓reduceIte]; exact eS, by simp only [upd_eq, Nat.reduceEqDiff, ↓reduceIte]; exact eL, by simp only [upd_eq, Nat.reduceEqDiff, ↓reduceIte], by simp only [upd_eq, Nat.reduceEqDiff, ↓reduceIte]; exact eM, noF_of X x4 (fun y o hy g => by
      rcases g with g | g
      · have := hF y o g; omega
      · omega), F', by rw [tree_succ (its l) k (toIt x) (its_get hx)]; exact hM4, fun y o g => by
      rcases hF' y o g with g | g
      · exact hF y o g
      · omega⟩
    omega
  · obtain rfl : k = l.length := by omega
    have ht := lt_ff l.length l.length (by omega)
    refine W_sq fun K hK => (W_text [true] (by kernel_rfl) ?_); simp only [↓List.toList_toArray, ↓rgd, ↓rgf, ↓reduceIte, Nat.reduceEqDiff, rg, ow_30, eL, eI, ht]
    refine hK _ _ ?_; clear hK K
    refine W_seq (W_false (by simp only [evt, evc, upd_eq, Nat.reduceEqDiff, ↓reduceIte, ntT, ntF] <;> rfl) (W_exit ?_))
    simp only [andThen_exit, inBlk_exit, andThen_normal, ↓reduceIte]
    refine W_sq fun K hK => (W_text [true, true] (by kernel_rfl) ?_); simp only [↓List.toList_toArray, ↓rgd, ↓rgf, ↓reduceIte, Nat.reduceEqDiff, rg, ow_30, eM]
    refine hK _ _ ?_; clear hK K
    have hfull : (its l).take l.length = its l := by rw [← its_length, List.take_length]
    rw [hfull] at hM
    exact W_ret (endQ_1 (by simp only [upd_eq, Nat.reduceEqDiff, ↓reduceIte] <;> rfl) ⟨X, m, F, rfl, hM, hmg, hF⟩)end Go.Proofs.Ytjaolgehpnmieaa
/-
  The keys of a tree. No condition.
-/
set_option linter.unusedSimpArgs false
set_option linter.unusedVariables false
namespace Go.Proofs.Ytjaolgehpnmieaa
open Go Go.Proofs
theorem take_snoc {α : Type} {l : List α} {i : Nat} {x : α} (h : l[i]? = some x) : l.take (i + 1) = l.take i ++ [x] := by rw [List.take_add_one, h]; rfl
set_option maxHeartbeats 1000000 in
set_option maxRecDepth 8000 in
theorem nodeKeys_any (B : Nat) (iso : Int) (mn mx : Nat) :
    ∀ (h b lo : Nat) (xs : List It) (F : Nat → Nat → Prop) (kv : Value) (K : List Int) (w : World), Tr E iso mn mx h w lo b xs F → (∀ y o, F y o → y < B) → OutE En B kv K w →
      K.length + xs.length ≤ 4294967295 → B ≤ w.heap.size →
    CallK Try.prog 64 #[ptr b, kv] w fun v w' => OutE En B v (K ++ xs.map κ) w' ∧ Ext (fun y _ => B ≤ y) w w' := by
  intro h
  induction h with
  | zero =>
    intro b lo xs F kv K w ht hG hS hb1 hB
    obtain ⟨bi, oi, cap, ho, h1, h2, hF⟩ := ht
    have hGo : ∀ y o, ownF E b bi oi cap y o → y < B := fun y o g => hG y o ((hF y o).2 g)
    refine calls_of_W [.tmp 4] Try.func64 rfl Try.ntmps64 Try.results64 (by simp) fun e he => ?_
    have e0 : e 0 = ptr b := he 0 _ rfl
    have e1 : e 1 = kv := he 1 _ rfl
    clear he
    refine W_sq fun K0 hK => (W_text [true] (by kernel_rfl) ?_); simp only [↓List.toList_toArray, ↓rgd, ↓rgf, ↓reduceIte, Nat.reduceEqDiff, rg, ow_64]
    refine hK _ _ ?_; clear hK K0
    refine W_seq ?_
    refine W_sq fun K0 hK => (W_text [true, false] (by kernel_rfl) ?_); simp only [↓List.toList_toArray, ↓rgd, ↓rgf, ↓reduceIte, Nat.reduceEqDiff, rg, ow_64, e0]
    refine do_call fn_63 (by simp only [evt, evc, upd_eq, Nat.reduceEqDiff, ↓reduceIte, maT, maC, maN, isnN, isnS] <;> rfl) (leaf_any b none w ho.h3) ?_
    rintro _ w ⟨rfl, rfl⟩
    refine ⟨trivial, ?_⟩
    simp only [↓List.toList_toArray, ↓rgd, ↓rgf, ↓reduceIte, Nat.reduceEqDiff, rg, ow_64]
    refine hK _ _ ?_; clear hK K0
    refine W_true (by simp only [evt, evc, upd_eq, Nat.reduceEqDiff, ↓reduceIte, ntT, ntF] <;> rfl) (W_seq ?_)
    refine W_sq fun K0 hK => (W_text [true] (by kernel_rfl) ?_); simp only [↓List.toList_toArray, ↓rgd, ↓rgf, ↓reduceIte, Nat.reduceEqDiff, rg, ow_64]
    refine hK _ _ ?_; clear hK K0
    refine W_block (W_loop (fun mm e w' => ∃ (i : Nat), mm = xs.length - i ∧ i ≤ xs.length ∧ OutE En B (e 1) (K ++ (xs.take i).map κ) w' ∧ Ext (fun y _ => B ≤ y) w w' ∧ e 0 = ptr b ∧ e 5 = .int .i64 i)
      xs.length ⟨0, by simp, by simp, ?_, Ext.refl _ _, ?_, ?_⟩ ?_)
    · simp only [upd_eq, Nat.reduceEqDiff, ↓reduceIte]; rw [e1]; simpa using hS
    · simp only [upd_eq, Nat.reduceEqDiff, ↓reduceIte]; exact e0
    · simp only [upd_eq, Nat.reduceEqDiff, ↓reduceIte]; rfl
    · clear e0 e1 e hS
      rintro mm e w' ⟨i, rfl, hi, hkv, X, e0, e5⟩
      have o' := ho.ext X fun y o h => by have := hGo y o h; omega
      have hb2 := o'.h2
      have sX := X.size
      refine W_seq ?_
      by_cases hlt : i < xs.length
      · have ht := lt_tt i xs.length hlt
        refine W_sq fun K0 hK => (W_text [true, true, true, true, true, true, true] (by kernel_rfl) ?_); simp only [↓List.toList_toArray, ↓rgd, ↓rgf, ↓reduceIte, Nat.reduceEqDiff, rg, ow_64, e0, e5, ptr_eq, hb2, ht]
        refine hK _ _ ?_; clear hK K0
        refine W_true (by simp only [evt, evc, upd_eq, Nat.reduceEqDiff, ↓reduceIte, ntT, ntF] <;> rfl) (W_skip ?_)
        show W _ _ _ _ _ _
        refine W_seq (W_block ?_)
        obtain ⟨x, hx⟩ : ∃ x, xs[i]? = some x := ⟨_, List.getElem?_eq_getElem hlt⟩
        have hk := key_at o'.row hx
        have hlk : (xs.take i).length = i := by rw [List.length_take]; omega
        refine W_rg fun K0 hK => (W_text [true, true, true, true, true, true, true, true, true, false, false, true] (by kernel_rfl) ?_); simp only [↓List.toList_toArray, ↓rgd, ↓rgf, ↓reduceIte, Nat.reduceEqDiff, rg, ow_64, e0, e5, ptr_eq, hb2, hlt, hk]
        refine do_bsl rfl (bs_n1 (κ x)) fun w3 n3 => ⟨trivial, ?_⟩
        simp only [↓List.toList_toArray, ↓rgd, ↓rgf, ↓reduceIte, Nat.reduceEqDiff, rg, ow_64]
        have H3 := hkv.ext n3.ext
        have s3 := n3.size
        have z3 : SlV w3 1 (.slice (some ⟨w'.heap.size, 0, none⟩) 1 1) 1 (En.cel (κ x)) := ⟨rfl, .inr ⟨_, 0, 1, rfl, Nat.le_refl _, n3.row, n3.wok.R (Nat.le_refl _)⟩⟩
        refine do_append (by simp only [evt, evc, upd_eq, Nat.reduceEqDiff, ↓reduceIte, ntT, ntF] <;> rfl) (by simp only [evt, evc, upd_eq, Nat.reduceEqDiff, ↓reduceIte, ntT, ntF] <;> rfl) el_n rfl ni_n H3.sl z3 (by simp; omega) (by decide) (En.one _) fun v4 w4 a4 => ⟨trivial, ?_⟩
        obtain ⟨H4, X4⟩ := H3.app a4 (by omega)
        simp only [↓List.toList_toArray, ↓rgd, ↓rgf, ↓reduceIte, Nat.reduceEqDiff, rg, ow_64]
        refine hK _ _ ?_; clear hK K0
        have X4' : Ext (fun y _ => B ≤ y) w' w4 := (n3.ext.mono fun _ _ _ h => h.elim).tr X4
        show W _ _ _ _ _ _
        have q1 := wadd1 i (by omega)
        refine W_rg fun K0 hK => (W_text [true, true, true] (by kernel_rfl) ?_); simp only [↓List.toList_toArray, ↓rgd, ↓rgf, ↓reduceIte, Nat.reduceEqDiff, rg, ow_64, e5, q1]
        refine hK _ _ ?_; clear hK K0
        refine ⟨_, ?_, i + 1, rfl, hlt, ?_, X.tr X4', ?_, ?_⟩
        · omega
        · simp only [upd_eq, Nat.reduceEqDiff, ↓reduceIte]
          rw [take_snoc hx, List.map_append, ← List.append_assoc]
          exact H4
        · simp only [upd_eq, Nat.reduceEqDiff, ↓reduceIte]; exact e0
        · simp only [upd_eq, Nat.reduceEqDiff, ↓reduceIte]
      · obtain rfl : i = xs.length := by omega
        have ht := lt_ff xs.length xs.length (by omega)
        refine W_sq fun K0 hK => (W_text [true, true, true, true, true, true, true] (by kernel_rfl) ?_); simp only [↓List.toList_toArray, ↓rgd, ↓rgf, ↓reduceIte, Nat.reduceEqDiff, rg, ow_64, e0, e5, ptr_eq, hb2, ht]
        refine hK _ _ ?_; clear hK K0
        refine W_false (by simp only [evt, evc, upd_eq, Nat.reduceEqDiff, ↓reduceIte, ntT, ntF] <;> rfl) (W_exit ?_)
        simp only [andThen_exit, inBlk_exit, ↓reduceIte]
        show W _ _ _ _ _ _
        refine W_sq fun K0 hK => (W_text [true, true] (by kernel_rfl) ?_); simp only [↓List.toList_toArray, ↓rgd, ↓rgf, ↓reduceIte, Nat.reduceEqDiff, rg, ow_64]
        refine hK _ _ ?_; clear hK K0
        refine W_ret ?_
        simp only [andThen_ret]
        rw [List.take_length] at hkv
        exact endQ_1 (by simp only [upd_eq, Nat.reduceEqDiff, ↓reduceIte] <;> rfl) ⟨hkv, X⟩
  | succ h ih =>
    intro b lo xs F kv K w ht hG hS hb1 hB
    obtain ⟨bi, oi, cap, bc, ba, oa, capc, ks, cs, ho, hk, h1, h2, hcs, rfl, hT, hA, hF⟩ := ht
    have hGo : ∀ y o, ownF E b bi oi cap y o → y < B := fun y o g => hG y o ((hF y o).2 (.inl g))
    have hGk : ∀ y o, kidF bc ba oa capc y o → y < B := fun y o g => hG y o ((hF y o).2 (.inr (.inl g)))
    have hGc : ∀ c ∈ cs, ∀ y o, c.F y o → y < B := fun c hc y o g => hG y o ((hF y o).2 (.inr (.inr ⟨c, hc, g⟩)))
    have hwl := weave_length (cs.map Kid.xs) ks (by simpa using hcs)
    refine calls_of_W [.tmp 4] Try.func64 rfl Try.ntmps64 Try.results64 (by simp) fun e he => ?_
    have e0 : e 0 = ptr b := he 0 _ rfl
    have e1 : e 1 = kv := he 1 _ rfl
    clear he
    refine W_sq fun K0 hK => (W_text [true] (by kernel_rfl) ?_); simp only [↓List.toList_toArray, ↓rgd, ↓rgf, ↓reduceIte, Nat.reduceEqDiff, rg, ow_64]
    refine hK _ _ ?_; clear hK K0
    refine W_seq ?_
    refine W_sq fun K0 hK => (W_text [true, false] (by kernel_rfl) ?_); simp only [↓List.toList_toArray, ↓rgd, ↓rgf, ↓reduceIte, Nat.reduceEqDiff, rg, ow_64, e0]
    refine do_call fn_63 (by simp only [evt, evc, upd_eq, Nat.reduceEqDiff, ↓reduceIte, maT, maC, maN, isnN, isnS] <;> rfl) (leaf_any b (some ⟨bc, 0, none⟩) w ho.h3) ?_
    rintro _ w ⟨rfl, rfl⟩
    refine ⟨trivial, ?_⟩
    simp only [↓List.toList_toArray, ↓rgd, ↓rgf, ↓reduceIte, Nat.reduceEqDiff, rg, ow_64]
    refine hK _ _ ?_; clear hK K0
    refine W_false (by simp only [evt, evc, upd_eq, Nat.reduceEqDiff, ↓reduceIte, ntT, ntF] <;> rfl) (W_skip ?_)
    show W _ _ _ _ _ _
    refine W_seq (W_seq ?_)
    refine W_rg fun K0 hK => (W_text [true] (by kernel_rfl) ?_); simp only [↓List.toList_toArray, ↓rgd, ↓rgf, ↓reduceIte, Nat.reduceEqDiff, rg, ow_64]
    refine hK _ _ ?_; clear hK K0
    show W _ _ _ _ _ _
    refine W_block (W_loop (fun mm e w' => ∃ (i : Nat) (K' : List Int), mm = ks.length - i ∧ i ≤ ks.length ∧ K ++ (weave (cs.map Kid.xs) ks).map κ = K' ++ (weave ((cs.map Kid.xs).drop i) (ks.drop i)).map κ ∧
        OutE En B (e 1) K' w' ∧ Ext (fun y _ => B ≤ y) w w' ∧ e 0 = ptr b ∧ e 6 = .int .i64 i)
      ks.length ⟨0, K, by simp, by simp, by simp, ?_, Ext.refl _ _, ?_, ?_⟩ ?_)
    · simp only [upd_eq, Nat.reduceEqDiff, ↓reduceIte]; rw [e1]; exact hS
    · simp only [upd_eq, Nat.reduceEqDiff, ↓reduceIte]; exact e0
    · simp only [upd_eq, Nat.reduceEqDiff, ↓reduceIte]; rfl
    · clear e0 e1 e hS
      rintro mm e w' ⟨i, K', rfl, hi, hKe, hkv, X, e0, e6⟩
      have hKl := congrArg List.length hKe
      simp only [List.length_append, List.length_map] at hKl
      have o' := ho.ext X fun y o g => by have := hGo y o g; omega
      have k' := hk.ext X fun y o g => by have := hGk y o g; omega
      have hb2 := o'.h2
      have hb3 := o'.h3
      have hc0 := k'.c0
      have sX := X.size
      have hci : ∀ i, i < cs.length → ∃ c, cs[i]? = some c ∧ rd w' ba (oa + i) = some (ptr c.b) := fun i hi => by
        refine ⟨cs[i], List.getElem?_eq_getElem hi, k'.row i _ ?_⟩
        rw [List.getElem?_map, List.getElem?_map, List.getElem?_eq_getElem hi]; rfl
      rw [List.length_map] at hc0
      refine W_seq ?_
      by_cases hlt : i < ks.length
      · have ht := lt_tt i ks.length hlt
        refine W_sq fun K0 hK => (W_text [true, true, true, true, true, true, true] (by kernel_rfl) ?_); simp only [↓List.toList_toArray, ↓rgd, ↓rgf, ↓reduceIte, Nat.reduceEqDiff, rg, ow_64, e0, e6, ptr_eq, hb2, ht]
        refine hK _ _ ?_; clear hK K0
        refine W_true (by simp only [evt, evc, upd_eq, Nat.reduceEqDiff, ↓reduceIte, ntT, ntF] <;> rfl) (W_skip ?_)
        show W _ _ _ _ _ _
        refine W_seq (W_block ?_)
        obtain ⟨c, hc, hcr⟩ := hci i (by omega)
        have hcm : c ∈ cs := List.mem_of_getElem? hc
        obtain ⟨x, hx⟩ : ∃ x, ks[i]? = some x := ⟨_, List.getElem?_eq_getElem hlt⟩
        have hlc : i < cs.length := by omega
        rw [weave_step (c := c.xs) (by rw [List.getElem?_map, hc]; rfl) hx] at hKe hKl
        simp only [List.length_append, List.length_cons] at hKl
        refine W_sq fun K0 hK => (W_text [true, true, true, true, true, true, true, true, true, true, false, true] (by kernel_rfl) ?_); simp only [↓List.toList_toArray, ↓rgd, ↓rgf, ↓reduceIte, Nat.reduceEqDiff, rg, ow_64, e0, e6, ptr_eq, hb3, hc0, hlc, hcr]
        refine do_call fn_64 (by simp only [evt, evc, upd_eq, Nat.reduceEqDiff, ↓reduceIte, maT, maC, maN, isnN, isnS] <;> rfl) (ih c.b mn c.xs c.F (e 1) K' _ ((hT c hcm).ext X fun y o g => by have := hGc c hcm y o g; omega) (hGc c hcm) hkv (by omega) (by omega)) ?_
        rintro kv2 w2 ⟨H2, X2⟩
        refine ⟨trivial, ?_⟩
        simp only [↓List.toList_toArray, ↓rgd, ↓rgf, ↓reduceIte, Nat.reduceEqDiff, rg, ow_64]
        refine hK _ _ ?_; clear hK K0
        have s2 := X2.size
        have o2 := o'.ext X2 fun y o g => by have := hGo y o g; omega
        have hb2' := o2.h2
        have hk2 := key_at o2.row hx
        refine W_rg fun K0 hK => (W_text [true, true, true, true, true, true, true, true, true, false, false, true] (by kernel_rfl) ?_); simp only [↓List.toList_toArray, ↓rgd, ↓rgf, ↓reduceIte, Nat.reduceEqDiff, rg, ow_64, e0, e6, ptr_eq, hb2', hlt, hk2]
        refine do_bsl rfl (bs_n1 (κ x)) fun w3 n3 => ⟨trivial, ?_⟩
        simp only [↓List.toList_toArray, ↓rgd, ↓rgf, ↓reduceIte, Nat.reduceEqDiff, rg, ow_64]
        have H3 := H2.ext n3.ext
        have s3 := n3.size
        have z3 : SlV w3 1 (.slice (some ⟨w2.heap.size, 0, none⟩) 1 1) 1 (En.cel (κ x)) := ⟨rfl, .inr ⟨_, 0, 1, rfl, Nat.le_refl _, n3.row, n3.wok.R (Nat.le_refl _)⟩⟩
        refine do_append (by simp only [evt, evc, upd_eq, Nat.reduceEqDiff, ↓reduceIte, ntT, ntF] <;> rfl) (by simp only [evt, evc, upd_eq, Nat.reduceEqDiff, ↓reduceIte, ntT, ntF] <;> rfl) el_n rfl ni_n H3.sl z3 (by simp; omega) (by decide) (En.one _) fun v4 w4 a4 => ⟨trivial, ?_⟩
        obtain ⟨H4, X4⟩ := H3.app a4 (by omega)
        simp only [↓List.toList_toArray, ↓rgd, ↓rgf, ↓reduceIte, Nat.reduceEqDiff, rg, ow_64]
        refine hK _ _ ?_; clear hK K0
        have X4' : Ext (fun y _ => B ≤ y) w2 w4 := (n3.ext.mono fun _ _ _ h => h.elim).tr X4
        show W _ _ _ _ _ _
        have q1 := wadd1 i (by omega)
        refine W_rg fun K0 hK => (W_text [true, true, true] (by kernel_rfl) ?_); simp only [↓List.toList_toArray, ↓rgd, ↓rgf, ↓reduceIte, Nat.reduceEqDiff, rg, ow_64, e6, q1]
        refine hK _ _ ?_; clear hK K0
        refine ⟨_, ?_, i + 1, K' ++ c.xs.map κ ++ [κ x], rfl, hlt, ?_, ?_, (X.tr X2).tr X4', ?_, ?_⟩
        · omega
        · rw [hKe]; simp
        · simp only [upd_eq, Nat.reduceEqDiff, ↓reduceIte]; exact H4
        · simp only [upd_eq, Nat.reduceEqDiff, ↓reduceIte]; exact e0
        · simp only [upd_eq, Nat.reduceEqDiff, ↓reduceIte]
      · obtain rfl : i = ks.length := by omega
        have ht := lt_ff ks.length ks.length (by omega)
        refine W_sq fun K0 hK => (W_text [true, true, true, true, true, true, true] (by kernel_rfl) ?_); simp only [↓List.toList_toArray, ↓rgd, ↓rgf, ↓reduceIte, Nat.reduceEqDiff, rg, ow_64, e0, e6, ptr_eq, hb2, ht]
        refine hK _ _ ?_; clear hK K0
        refine W_false (by simp only [evt, evc, upd_eq, Nat.reduceEqDiff, ↓reduceIte, ntT, ntF] <;> rfl) (W_exit ?_)
        simp only [andThen_exit, inBlk_exit, andThen_normal, Nat.reduceEqDiff, ↓reduceIte]
        obtain ⟨c, hc, hcr⟩ := hci ks.length (by omega)
        have hcm : c ∈ cs := List.mem_of_getElem? hc
        rw [weave_last (c := c.xs) (by simpa using hcs) (by rw [List.getElem?_map, hc]; rfl)] at hKe hKl
        have hlc : cs.length - 1 < cs.length := by omega
        have hl1 : cs.length - 1 = ks.length := by omega
        have q1 := wsub1 cs.length (by omega) (by omega)
        rw [← hl1] at hcr
        have M1 : readsB (some (some [b, bc, ba])) b = true := by simp [readsB]
        have M2 : readsB (some (some [b, bc, ba])) bc = true := by simp [readsB]
        have M3 : readsB (some (some [b, bc, ba])) ba = true := by simp [readsB]
        refine W_sq fun K0 hK => (W_draw (some (some [b, bc, ba])) none [(0, 0, 0), (0, 1, 0), (0, 2, 0), (0, 3, 0), (0, 4, 0), (0, 5, 0), (0, 6, 0), (0, 7, 0), (0, 8, 0), (0, 9, 0), (0, 10, 0), (0, 11, 0), (0, 12, 0), (0, 13, 0), (0, 14, 0), (0, 15, 0), (0, 16, 0), (1, 17, 0), (0, 18, 0)] mixed (by kernel_rfl) ?_); simp only [↓List.toList_toArray, ↓rgd, ↓rgf, ↓reduceIte, Nat.reduceEqDiff, rg, ow_64, e0, ptr_eq, hb3, hc0, q1, hlc, hcr, M1, M2, M3]
        refine do_call fn_64 (by simp only [evt, evc, upd_eq, Nat.reduceEqDiff, ↓reduceIte, maT, maC, maN, isnN, isnS] <;> rfl) (ih c.b mn c.xs c.F (e 1) K' _ ((hT c hcm).ext (X.tr (Ext.dr _ _ _)) fun y o g => by have := hGc c hcm y o g; omega) (hGc c hcm) (hkv.ext (Ext.dr _ _ _)) (by omega) (by rw [sz_dr]; omega)) ?_
        rintro kv2 w2 ⟨H2, X2⟩
        refine ⟨.inr (keeps_on X2 fun y hy => ?_), ?_⟩
        · rw [sz_dr]
          simp only [List.mem_cons, List.not_mem_nil, or_false] at hy
          rcases hy with rfl | rfl | rfl
          · exact ⟨wok_lt o'.wb, fun o g => by have := hGo _ 0 (.inl rfl); omega⟩
          · exact ⟨wok_lt k'.wc, fun o g => by have := hGk _ 0 (.inl rfl); omega⟩
          · exact ⟨wok_lt k'.wa, fun o g => by have := hGk _ oa (.inr ⟨rfl, by omega, by have := k'.le; rw [List.length_map] at this; omega⟩); omega⟩
        simp only [↓List.toList_toArray, ↓rgd, ↓rgf, ↓reduceIte, Nat.reduceEqDiff, rg, ow_64]
        refine hK _ _ ?_; clear hK K0
        refine W_ret ?_
        refine endQ_1 (by simp only [upd_eq, Nat.reduceEqDiff, ↓reduceIte] <;> rfl) ⟨?_, X.tr X2.od⟩
        rw [hKe]
        exact H2
set_option maxHeartbeats 1000000 in
set_option maxRecDepth 8000 in
theorem keys_any (m d : Nat) (iso : Int) (xs : List It) (F : Nat → Nat → Prop) (w : World) (hM : MapAt w m d iso xs F) (hbig : xs.length ≤ 2147483647) :
    CallK Try.prog 49 #[ptr m] w fun v w' => OutE En w.heap.size v (xs.map κ) w' ∧ Ext noF w w' := by
  refine calls_of_W [.tmp 2] Try.func49 rfl Try.ntmps49 Try.results49 (by simp) fun e he => ?_
  have e0 : e 0 = ptr m := he 0 _ rfl
  clear he
  refine W_sq fun K0 hK => (W_text [true] (by kernel_rfl) ?_); simp only [↓List.toList_toArray, ↓rgd, ↓rgf, ↓reduceIte, Nat.reduceEqDiff, rg, ow_49]
  refine hK _ _ ?_; clear hK K0
  refine W_sq fun K0 hK => (W_text [true, false, false, true] (by kernel_rfl) ?_); simp only [↓List.toList_toArray, ↓rgd, ↓rgf, ↓reduceIte, Nat.reduceEqDiff, rg, ow_49, e0]
  refine do_call fn_56 (by simp only [evt, evc, upd_eq, Nat.reduceEqDiff, ↓reduceIte, maT, maC, maN, isnN, isnS] <;> rfl) (len_any m d iso xs F w hM) ?_
  rintro _ w ⟨rfl, rfl⟩
  refine ⟨trivial, ?_⟩
  simp only [↓List.toList_toArray, ↓rgd, ↓rgf, ↓reduceIte, Nat.reduceEqDiff, rg, ow_49]
  refine do_make (n := 0) (c := xs.length) (by simp only [evt, evc, upd_eq, Nat.reduceEqDiff, ↓reduceIte, ntT, ntF] <;> rfl) (by simp only [evt, evc, upd_eq, Nat.reduceEqDiff, ↓reduceIte, ntT, ntF] <;> rfl) el_n rfl (Nat.zero_le _) (by omega) (by omega) fun w1 l1 hl1 n1 => ⟨trivial, ?_⟩
  simp only [↓List.toList_toArray, ↓rgd, ↓rgf, ↓reduceIte, Nat.reduceEqDiff, rg, ow_49]
  refine hK _ _ ?_; clear hK K0
  have s1 := n1.size
  have hM1 := hM.ext n1.ext
  have kv0 : OutE En w.heap.size (.slice (some ⟨w.heap.size, 0, none⟩) 0 xs.length) [] w1 := by
    refine ⟨⟨by simp [flat], .inr ⟨_, 0, _, rfl, Nat.zero_le _, Row.nil _ _ _, n1.wok.R ?_⟩⟩, fun b o n c h => ?_⟩
    · rw [hl1]; show 0 + xs.length * 1 ≤ xs.length * 1; omega
    · simp only [Value.slice.injEq, Option.some.injEq, Addr.mk.injEq] at h; omega
  refine W_seq ?_
  rcases hM1.root with ⟨rfl, hr⟩ | ⟨h, b, hr, ht⟩
  · refine W_sq fun K0 hK => (W_text [true, true, true, true, true] (by kernel_rfl) ?_); simp only [↓List.toList_toArray, ↓rgd, ↓rgf, ↓reduceIte, Nat.reduceEqDiff, rg, ow_49, e0, ptr_eq, hr]
    refine hK _ _ ?_; clear hK K0
    refine W_false (by simp only [evt, evc, upd_eq, Nat.reduceEqDiff, ↓reduceIte, ntT, ntF] <;> rfl) (W_skip ?_)
    show W _ _ _ _ _ _
    refine W_sq fun K0 hK => (W_text [true, true] (by kernel_rfl) ?_); simp only [↓List.toList_toArray, ↓rgd, ↓rgf, ↓reduceIte, Nat.reduceEqDiff, rg, ow_49]
    refine hK _ _ ?_; clear hK K0
    exact W_ret (endQ_1 (by simp only [upd_eq, Nat.reduceEqDiff, ↓reduceIte] <;> rfl) ⟨kv0, n1.ext⟩)
  · refine W_sq fun K0 hK => (W_text [true, true, true, true, true] (by kernel_rfl) ?_); simp only [↓List.toList_toArray, ↓rgd, ↓rgf, ↓reduceIte, Nat.reduceEqDiff, rg, ow_49, e0, ptr_eq, hr]
    refine hK _ _ ?_; clear hK K0
    refine W_true (by simp only [evt, evc, upd_eq, Nat.reduceEqDiff, ↓reduceIte, ntT, ntF] <;> rfl) ?_
    refine W_rg fun K0 hK => (W_text [true, true, true, true, true, false, true] (by kernel_rfl) ?_); simp only [↓List.toList_toArray, ↓rgd, ↓rgf, ↓reduceIte, Nat.reduceEqDiff, rg, ow_49, e0, ptr_eq, hr]
    refine do_call fn_64 (by simp only [evt, evc, upd_eq, Nat.reduceEqDiff, ↓reduceIte, maT, maC, maN, isnN, isnS] <;> rfl) (nodeKeys_any w.heap.size iso _ _ h b 1 xs F _ [] w1 ht (fun y o g => hM.lt y o g) kv0 (by simp; omega) (by omega)) ?_
    rintro kv2 w2 ⟨H2, X2⟩
    refine ⟨trivial, ?_⟩
    simp only [↓List.toList_toArray, ↓rgd, ↓rgf, ↓reduceIte, Nat.reduceEqDiff, rg, ow_49]
    refine hK _ _ ?_; clear hK K0
    show W _ _ _ _ _ _
    refine W_sq fun K0 hK => (W_text [true, true] (by kernel_rfl) ?_); simp only [↓List.toList_toArray, ↓rgd, ↓rgf, ↓reduceIte, Nat.reduceEqDiff, rg, ow_49]
    refine hK _ _ ?_; clear hK K0
    exact W_ret (endQ_1 (by simp only [upd_eq, Nat.reduceEqDiff, ↓reduceIte] <;> rfl) ⟨by simpa using H2, noF_of n1.ext X2 fun y o hy g => by omega⟩)
set_option maxHeartbeats 400000 in
set_option maxRecDepth 8000 in
theorem skeys_any (m : Nat) (xs : List It) (F : Nat → Nat → Prop) (w : World) (h : SetAt w m xs F) (hbig : xs.length ≤ 2147483647) :
    CallK Try.prog 32 #[ptr m] w fun v w' => OutE En w.heap.size v (xs.map κ) w' ∧ Ext noF w w' := by
  obtain ⟨d, hd, hM⟩ := h
  refine calls_of_W [.tmp 2] Try.func32 rfl Try.ntmps32 Try.results32 (by simp) fun e he => ?_
  have e0 : e 0 = ptr m := he 0 _ rfl
  clear he
  refine W_sq fun K0 hK => (W_text [true] (by kernel_rfl) ?_); simp only [↓List.toList_toArray, ↓rgd, ↓rgf, ↓reduceIte, Nat.reduceEqDiff, rg, ow_32]
  refine hK _ _ ?_; clear hK K0
  refine W_sq fun K0 hK => (W_text [true, true, true, false, true] (by kernel_rfl) ?_); simp only [↓List.toList_toArray, ↓rgd, ↓rgf, ↓reduceIte, Nat.reduceEqDiff, rg, ow_32, e0, ptr_eq]
  refine do_call fn_49 (by simp only [evt, evc, upd_eq, Nat.reduceEqDiff, ↓reduceIte, maT, maC, maN, isnN, isnS] <;> rfl) (keys_any m d 0 xs F w hM hbig) ?_
  rintro v w1 h1
  refine ⟨trivial, ?_⟩
  simp only [↓List.toList_toArray, ↓rgd, ↓rgf, ↓reduceIte, Nat.reduceEqDiff, rg, ow_32]
  refine hK _ _ ?_; clear hK K0
  exact W_ret (endQ_1 (by simp only [upd_eq, Nat.reduceEqDiff, ↓reduceIte] <;> rfl) h1)
set_option maxHeartbeats 400000 in
set_option maxRecDepth 8000 in
theorem impl_sinsert (l : List Int) (lv : Value) (w : World) (hl : SlN w lv l) (hbig : l.length ≤ 2147483647) :
    CallK Try.prog 16 #[lv] w fun v w' => SlN w' v ((tree (its l)).map κ) ∧ Ext noF w w' := by
  refine calls_of_W [.tmp 2] Try.func16 rfl Try.ntmps16 Try.results16 (by simp) fun e he => ?_
  have e0 : e 0 = lv := he 0 _ rfl
  clear he
  refine W_sq fun K0 hK => (W_text [true] (by kernel_rfl) ?_); simp only [↓List.toList_toArray, ↓rgd, ↓rgf, ↓reduceIte, Nat.reduceEqDiff, rg, ow_16]
  refine hK _ _ ?_; clear hK K0
  refine W_sq fun K0 hK => (W_text [true, false, false, true] (by kernel_rfl) ?_); simp only [↓List.toList_toArray, ↓rgd, ↓rgf, ↓reduceIte, Nat.reduceEqDiff, rg, ow_16, e0]
  refine do_call fn_30 (by simp only [evt, evc, upd_eq, Nat.reduceEqDiff, ↓reduceIte, maT, maC, maN, isnN, isnS] <;> rfl) (grow_any l lv w hl hbig) ?_
  rintro _ w1 ⟨X1, m, F, rfl, hM, hm, -⟩
  refine ⟨trivial, ?_⟩
  simp only [↓List.toList_toArray, ↓rgd, ↓rgf, ↓reduceIte, Nat.reduceEqDiff, rg, ow_16]
  have htl := tree_len (its l)
  rw [its_length] at htl
  refine do_call fn_32 (by simp only [evt, evc, upd_eq, Nat.reduceEqDiff, ↓reduceIte, maT, maC, maN, isnN, isnS] <;> rfl) (skeys_any m _ F w1 hM (by omega)) ?_
  rintro v w2 ⟨h2, X2⟩
  refine ⟨trivial, ?_⟩
  simp only [↓List.toList_toArray, ↓rgd, ↓rgf, ↓reduceIte, Nat.reduceEqDiff, rg, ow_16]
  refine hK _ _ ?_; clear hK K0
  exact W_ret (endQ_1 (by simp only [upd_eq, Nat.reduceEqDiff, ↓reduceIte] <;> rfl) ⟨h2.sl, X1.tr X2⟩)
end Go.Proofs.Ytjaolgehpnmieaa
/-
  The reference over lists of numbers. No condition.
-/
set_option linter.unusedSimpArgs false
set_option linter.unusedVariables false
namespace Go.Proofs.Ytjaolgehpnmieaa
open Go Go.Proofs
theorem bu_itemK (a : Int) : buildV Try.prog 36 [(0, .int .i64 a)] = some (iV (toIt a)) := by kernel_rfl
theorem nil_n (w : World) : SlN w (.slice none 0 0) [] := ⟨rfl, .inl ⟨rfl, rfl⟩⟩
theorem nil_i (w : World) : SlI w (.slice none 0 0) [] := ⟨rfl, .inl ⟨rfl, rfl⟩⟩
theorem SlN.eq {w : World} {v : Value} {l l' : List Int} (h : SlN w v l) (e : l = l') : SlN w v l' := e ▸ h
theorem bs_exS : bsV Try.prog 22 5 [(0, .int .i64 5), (1, .int .i64 3), (2, .int .i64 9), (3, .int .i64 3), (4, .int .i64 1)] = some (3, flat En [5, 3, 9, 3, 1]) := by kernel_rfl
set_option maxHeartbeats 1000000 in
set_option maxRecDepth 8000 in
theorem skeysS_any (l : List It) (lv : Value) (w : World) (hl : SlI w lv l) (hbig : l.length ≤ 2147483648) :
    CallK Try.prog 26 #[lv] w fun v w' => SlV w' 1 v (l.map κ).length (flat En (l.map κ)) ∧ Ext noF w w' := by
  obtain ⟨a, c, hlv⟩ := hl.shape
  refine calls_of_W [.tmp 2] Try.func26 rfl Try.ntmps26 Try.results26 (by simp) fun e he => ?_
  have e0 : e 0 = .slice a l.length c := by rw [← hlv]; exact he 0 _ rfl
  clear he
  refine W_sq fun K hK => (W_text [true] (by kernel_rfl) ?_); simp only [↓List.toList_toArray, ↓rgd, ↓rgf, ↓reduceIte, Nat.reduceEqDiff, rg, ow_26]
  refine hK _ _ ?_; clear hK K
  refine W_sq fun K hK => (W_text [true] (by kernel_rfl) ?_); simp only [↓List.toList_toArray, ↓rgd, ↓rgf, ↓reduceIte, Nat.reduceEqDiff, rg, ow_26]
  refine hK _ _ ?_; clear hK K
  refine W_seq (W_seq ?_)
  refine W_rg fun K hK => (W_text [true, true, true] (by kernel_rfl) ?_); simp only [↓List.toList_toArray, ↓rgd, ↓rgf, ↓reduceIte, Nat.reduceEqDiff, rg, ow_26, e0]
  refine hK _ _ ?_; clear hK K
  show W _ _ _ _ _ _
  refine W_block (W_loop (fun mm e w' => ∃ k : Nat, mm = l.length - k ∧ k ≤ l.length ∧ e 6 = .slice a l.length c ∧ e 7 = .int .i64 l.length ∧ e 8 = .int .i64 k ∧ OutE En w.heap.size (e 3) ((l.take k).map κ) w' ∧ Ext (fun y _ => w.heap.size ≤ y) w w')
    l.length ⟨0, by simp, by simp, ?_, ?_, ?_, ?_, Ext.refl _ _⟩ ?_)
  · simp only [upd_eq, Nat.reduceEqDiff, ↓reduceIte]
  · simp only [upd_eq, Nat.reduceEqDiff, ↓reduceIte]
  · simp only [upd_eq, Nat.reduceEqDiff, ↓reduceIte]; rfl
  · simp only [upd_eq, Nat.reduceEqDiff, ↓reduceIte]; exact OutE.nil _ _ _
  · clear e0 e
    rintro mm e w' ⟨k, rfl, hk, e6, e7, e8, hO, X⟩
    have sX := X.size
    by_cases hlt : k < l.length
    · have ht := lt_tt k l.length hlt
      refine W_sq fun K hK => (W_text [true] (by kernel_rfl) ?_); simp only [↓List.toList_toArray, ↓rgd, ↓rgf, ↓reduceIte, Nat.reduceEqDiff, rg, ow_26, e7, e8, ht]
      refine hK _ _ ?_; clear hK K
      refine W_seq (W_true (by simp only [evt, evc, upd_eq, Nat.reduceEqDiff, ↓reduceIte, ntT, ntF] <;> rfl) (W_skip ?_))
      show W _ _ _ _ _ _
      obtain ⟨x, hx⟩ : ∃ x, l[k]? = some x := ⟨_, List.getElem?_eq_getElem hlt⟩
      obtain ⟨ib, io, rfl, row⟩ := hl.at hlv hlt
      have hibl := hl.lt hlv
      have ixx := iV_at (X.row row fun _ _ h => by omega) hx
      refine W_seq (W_block ?_)
      refine W_sq fun K hK => (W_text [true, true, false, false] (by kernel_rfl) ?_); simp only [↓List.toList_toArray, ↓rgd, ↓rgf, ↓reduceIte, Nat.reduceEqDiff, rg, ow_26, e6, e8, hlt, ixx]
      refine do_alloc z_item fun w2 n2 => ⟨trivial, ?_⟩
      simp only [↓List.toList_toArray, ↓rgd, ↓rgf, ↓reduceIte, Nat.reduceEqDiff, rg, ow_26]
      refine do_store (v := iV x) (by simp only [evt, evc, upd_eq, Nat.reduceEqDiff, ↓reduceIte, ntT, ntF] <;> rfl) (by simp only [evt, evc, upd_eq, Nat.reduceEqDiff, ↓reduceIte, ntT, ntF] <;> rfl) sz_36 rfl n2.wok (by decide) (Ei.one x) fun w3 x3 r3 s3 => ⟨trivial, ?_⟩
      simp only [↓List.toList_toArray, ↓rgd, ↓rgf, ↓reduceIte, Nat.reduceEqDiff, rg, ow_26]
      refine hK _ _ ?_; clear hK K
      have s2 := n2.size
      have X3 : Ext noF w' w3 := noF_of n2.ext x3 fun y o hy h => by simp only [rng] at h; omega
      have rx : Row w3 w'.heap.size 0 [.int .i64 x.1, .int .i64 x.2] := r3
      have v0 := (Row.cons.1 rx).1
      have v1 := (Row.cons.1 (Row.cons.1 rx).2).1
      refine W_rg fun K hK => (W_text [true, true, true, false, false, true] (by kernel_rfl) ?_); simp only [↓List.toList_toArray, ↓rgd, ↓rgf, ↓reduceIte, Nat.reduceEqDiff, rg, ow_26, v0, v1]
      refine do_bsl rfl (bs_n1 (κ x)) fun w5 n5 => ⟨trivial, ?_⟩
      simp only [↓List.toList_toArray, ↓rgd, ↓rgf, ↓reduceIte, Nat.reduceEqDiff, rg, ow_26]
      have X5 := X3.tr n5.ext
      have s5 := X5.size
      have hx5 : SlV w5 1 (.slice (some ⟨w3.heap.size, 0, none⟩) 1 1) 1 (En.cel (κ x)) := ⟨rfl, .inr ⟨_, 0, 1, rfl, Nat.le_refl _, n5.row, n5.wok.R (Nat.le_refl _)⟩⟩
      refine do_append (by simp only [evt, evc, upd_eq, Nat.reduceEqDiff, ↓reduceIte, ntT, ntF] <;> rfl) (by simp only [evt, evc, upd_eq, Nat.reduceEqDiff, ↓reduceIte, ntT, ntF] <;> rfl) el_n rfl ni_n (hO.ext X5).sl hx5 (by simp; omega) (by decide) (En.one _) fun v6 w6 a6 => ?_
      obtain ⟨hO6, X6⟩ := (hO.ext X5).app a6 (by omega)
      refine ⟨trivial, ?_⟩
      simp only [↓List.toList_toArray, ↓rgd, ↓rgf, ↓reduceIte, Nat.reduceEqDiff, rg, ow_26]
      refine hK _ _ ?_; clear hK K
      show W _ _ _ _ _ _
      have q1 := wadd1 k (by omega)
      refine W_rg fun K hK => (W_text [true, true] (by kernel_rfl) ?_); simp only [↓List.toList_toArray, ↓rgd, ↓rgf, ↓reduceIte, Nat.reduceEqDiff, rg, ow_26, e8, q1]
      refine hK _ _ ?_; clear hK K
      refine ⟨_, ?_, k + 1, rfl, hlt, ?_, ?_, ?_, ?_, (X.tr (X5.mono fun _ _ _ h => h.elim)).tr X6⟩
      · omega
      · simp only [upd_eq, Nat.reduceEqDiff, ↓reduceIte]; exact e6
      · simp only [upd_eq, Nat.reduceEqDiff, ↓reduceIte]; exact e7
      · simp only [upd_eq, Nat.reduceEqDiff, ↓reduceIte]
      · simp only [upd_eq, Nat.reduceEqDiff, ↓reduceIte]; rw [take_snoc hx, List.map_append]; exact hO6
    · obtain rfl : k = l.length := by omega
      have ht := lt_ff l.length l.length (by omega)
      refine W_sq fun K hK => (W_text [true] (by kernel_rfl) ?_); simp only [↓List.toList_toArray, ↓rgd, ↓rgf, ↓reduceIte, Nat.reduceEqDiff, rg, ow_26, e7, e8, ht]
      refine hK _ _ ?_; clear hK K
      refine W_seq (W_false (by simp only [evt, evc, upd_eq, Nat.reduceEqDiff, ↓reduceIte, ntT, ntF] <;> rfl) (W_exit ?_))
      simp only [andThen_exit, inBlk_exit, andThen_normal, ↓reduceIte]
      refine W_sq fun K hK => (W_text [true, true] (by kernel_rfl) ?_); simp only [↓List.toList_toArray, ↓rgd, ↓rgf, ↓reduceIte, Nat.reduceEqDiff, rg, ow_26]
      refine hK _ _ ?_; clear hK K
      rw [List.take_length] at hO
      exact W_ret (endQ_1 (by simp only [upd_eq, Nat.reduceEqDiff, ↓reduceIte] <;> rfl) ⟨hO.sl, noF_of (Ext.refl _ _) X fun y o hy h => by omega⟩)
set_option maxHeartbeats 800000 in
set_option maxRecDepth 8000 in
theorem sitems_any (l : List Int) (lv : Value) (w : World) (hl : SlN w lv l) (hbig : l.length ≤ 2147483647) :
    CallK Try.prog 24 #[lv] w fun v w' => SlI w' v (its l) ∧ Ext noF w w' := by
  refine calls_of_W [.tmp 2] Try.func24 rfl Try.ntmps24 Try.results24 (by simp) fun e he => ?_
  have e0 : e 0 = lv := he 0 _ rfl
  clear he
  obtain ⟨ka, kc, hkv⟩ := SlV.shape hl
  rw [hkv] at e0
  refine W_sq fun K hK => (W_text [true] (by kernel_rfl) ?_); simp only [↓List.toList_toArray, ↓rgd, ↓rgf, ↓reduceIte, Nat.reduceEqDiff, rg, ow_24]
  refine hK _ _ ?_; clear hK K
  refine W_sq fun K hK => (W_text [true] (by kernel_rfl) ?_); simp only [↓List.toList_toArray, ↓rgd, ↓rgf, ↓reduceIte, Nat.reduceEqDiff, rg, ow_24]
  refine hK _ _ ?_; clear hK K

  refine W_seq (W_seq ?_)
  refine W_rg fun K hK => (W_text [true, true, true] (by kernel_rfl) ?_); simp only [↓List.toList_toArray, ↓rgd, ↓rgf, ↓reduceIte, Nat.reduceEqDiff, rg, ow_24, e0]
  refine hK _ _ ?_; clear hK K
  show W _ _ _ _ _ _
  refine W_block (W_loop (fun mm e w' => ∃ k : Nat, mm = l.length - k ∧ k ≤ l.length ∧ e 6 = .slice ka l.length kc ∧ e 7 = .int .i64 l.length ∧ e 8 = .int .i64 k ∧ OutE Ei w.heap.size (e 3) ((its l).take k) w' ∧ Ext (fun y _ => w.heap.size ≤ y) w w')
    l.length ⟨0, by simp, by simp, by simp only [upd_eq, Nat.reduceEqDiff, ↓reduceIte], by simp only [upd_eq, Nat.reduceEqDiff, ↓reduceIte], by simp only [upd_eq, Nat.reduceEqDiff, ↓reduceIte]; rfl, by simp only [upd_eq, Nat.reduceEqDiff, ↓reduceIte]; exact OutE.nil _ _ _, Ext.refl _ _⟩ ?_)
  clear e0 e
  rintro mm e w' ⟨k, rfl, hk, eS, eL, eI, hO, X⟩
  by_cases hlt : k < l.length
  · have ht := lt_tt k l.length hlt
    refine W_sq fun K hK => (W_text [true] (by kernel_rfl) ?_); simp only [↓List.toList_toArray, ↓rgd, ↓rgf, ↓reduceIte, Nat.reduceEqDiff, rg, ow_24, eL, eI, ht]
    refine hK _ _ ?_; clear hK K
    refine W_seq (W_true (by simp only [evt, evc, upd_eq, Nat.reduceEqDiff, ↓reduceIte, ntT, ntF] <;> rfl) (W_skip ?_))
    show W _ _ _ _ _ _
    obtain ⟨x, hx⟩ : ∃ x, l[k]? = some x := ⟨_, List.getElem?_eq_getElem hlt⟩
    obtain ⟨ib, io, hka, row⟩ := SlV.at hl hkv hlt
    have hibl := SlV.lt hl (hkv.trans (by rw [hka]))
    have ixx := nV_at (X.row row (fun _ _ h => by omega)) hx
    rw [hka] at eS
    refine W_seq (W_block ?_)
    refine W_sq fun K hK => (W_text [true, true, true] (by kernel_rfl) ?_); simp only [↓List.toList_toArray, ↓rgd, ↓rgf, ↓reduceIte, Nat.reduceEqDiff, rg, ow_24, eS, eI, hlt, ixx]
    refine hK _ _ ?_; clear hK K
    rw [← hka] at eS
    refine W_rg fun K hK => (W_text [true, true, true, false, false, true] (by kernel_rfl) ?_); simp only [↓List.toList_toArray, ↓rgd, ↓rgf, ↓reduceIte, Nat.reduceEqDiff, rg, ow_24, bu_itemK]
    refine do_bsl rfl (bs_item1 _) fun w5 n5 => ⟨trivial, ?_⟩
    simp only [↓List.toList_toArray, ↓rgd, ↓rgf, ↓reduceIte, Nat.reduceEqDiff, rg, ow_24]
    have X5 := n5.ext
    have s5 := X5.size
    have sX := X.size
    have hx5 : SlV w5 2 (.slice (some ⟨w'.heap.size, 0, none⟩) 1 1) 1 (Ei.cel (toIt x)) := ⟨rfl, .inr ⟨_, 0, 1, rfl, Nat.le_refl _, n5.row, n5.wok.R (Nat.le_refl _)⟩⟩
    have htk : ((its l).take k).length ≤ k := by rw [List.length_take]; omega
    refine do_append (by simp only [evt, evc, upd_eq, Nat.reduceEqDiff, ↓reduceIte, ntT, ntF] <;> rfl) (by simp only [evt, evc, upd_eq, Nat.reduceEqDiff, ↓reduceIte, ntT, ntF] <;> rfl) el_item rfl ni_i (hO.ext X5).sl hx5 (by omega) (by decide) (Ei.one _) fun v6 w6 a6 => ?_
    obtain ⟨hO6, X6⟩ := (hO.ext X5).app a6 (by omega)
    refine ⟨trivial, ?_⟩
    simp only [↓List.toList_toArray, ↓rgd, ↓rgf, ↓reduceIte, Nat.reduceEqDiff, rg, ow_24]
    refine hK _ _ ?_; clear hK K
    show W _ _ _ _ _ _
    have q1 := wadd1 k (by omega)
    refine W_rg fun K hK => (W_text [true, true] (by kernel_rfl) ?_); simp only [↓List.toList_toArray, ↓rgd, ↓rgf, ↓reduceIte, Nat.reduceEqDiff, rg, ow_24, eI, q1]
    refine hK _ _ ?_; clear hK K
    refine ⟨_, ?_, k + 1, rfl, hlt, by simp only [upd_eq, Nat.reduceEqDiff, ↓reduceIte]; exact eS, by simp only [upd_eq, Nat.reduceEqDiff, ↓reduceIte]; exact eL, by simp only [upd_eq, Nat.reduceEqDiff, ↓reduceIte], by simp only [upd_eq, Nat.reduceEqDiff, ↓reduceIte]; rw [take_snoc (its_get hx)]; exact hO6, (X.tr (X5.mono fun _ _ _ h => h.elim)).tr X6⟩
    omega
  · obtain rfl : k = l.length := by omega
    have ht := lt_ff l.length l.length (by omega)
    refine W_sq fun K hK => (W_text [true] (by kernel_rfl) ?_); simp only [↓List.toList_toArray, ↓rgd, ↓rgf, ↓reduceIte, Nat.reduceEqDiff, rg, ow_24, eL, eI, ht]
    refine hK _ _ ?_; clear hK K
    refine W_seq (W_false (by simp only [evt, evc, upd_eq, Nat.reduceEqDiff, ↓reduceIte, ntT, ntF] <;> rfl) (W_exit ?_))
    simp only [andThen_exit, inBlk_exit, andThen_normal, ↓reduceIte]
    refine W_sq fun K hK => (W_text [true, true] (by kernel_rfl) ?_); simp only [↓List.toList_toArray, ↓rgd, ↓rgf, ↓reduceIte, Nat.reduceEqDiff, rg, ow_24]
    refine hK _ _ ?_; clear hK K
    have hfull : (its l).take l.length = its l := by rw [← its_length, List.take_length]
    rw [hfull] at hO
    exact W_ret (endQ_1 (by simp only [upd_eq, Nat.reduceEqDiff, ↓reduceIte] <;> rfl) ⟨hO.sl, noF_of (Ext.refl _ _) X fun y o hy h => by omega⟩)
end Go.Proofs.Ytjaolgehpnmieaa
/-
  The reference's deletions. No condition.
-/
set_option linter.unusedSimpArgs false
set_option linter.unusedVariables false
namespace Go.Proofs.Ytjaolgehpnmieaa
open Go Go.Proofs
theorem el_fo : elK Try.prog 54 = some (38, 3, 24, [.int .i64 0, .int .i64 0, .bool false]) := by kernel_rfl
theorem ni_fo : noInt Try.prog 54 = true := by kernel_rfl
theorem bs_fo1 (x : It × Bool) : bsV Try.prog 54 1 [(0, foV x)] = some (38, Ef.cel x) := by kernel_rfl
/-- What is left behind deletions. -/
def delsK (T ks : List It) : List It := ks.foldl (fun xs x => del O κ (κ x) xs) T
def drepsK : List It → List It → List (It × Bool)
  | _, [] => []
  | xs, x :: l => foO (at? O κ (κ x) xs) :: drepsK (del O κ (κ x) xs) l
theorem delsK_snoc (T ks : List It) (x : It) : delsK T (ks ++ [x]) = del O κ (κ x) (delsK T ks) := by simp [delsK]
theorem drepsK_snoc (x : It) : ∀ (l xs : List It), drepsK xs (l ++ [x]) = drepsK xs l ++ [foO (at? O κ (κ x) (delsK xs l))]
  | [], _ => rfl
  | y :: l, xs => by simp only [List.cons_append, drepsK, drepsK_snoc x l, delsK, List.foldl_cons]
theorem drepsK_length : ∀ (l xs : List It), (drepsK xs l).length = l.length
  | [], _ => rfl
  | x :: l, xs => by simp [drepsK, drepsK_length l]
theorem delK_len (q : Rk) (xs : List It) : (del O κ q xs).length ≤ xs.length := by
  unfold del; split
  · exact List.length_eraseIdx_le ..
  · exact Nat.le_refl _
theorem delsK_len : ∀ (ks T : List It), (delsK T ks).length ≤ T.length
  | [], _ => Nat.le_refl _
  | x :: ks, T => Nat.le_trans (delsK_len ks (del O κ (κ x) T)) (delK_len (κ x) T)
theorem at_foO {q : Rk} {l : List It} (h : hit O κ q l = true) : foO (nth l (lb O κ q l : Nat)) = foO (at? O κ q l) := by
  unfold nth at?; simp [h]
theorem cut_del {q : Rk} {l : List It} (h : hit O κ q l = true) : cutL l (lb O κ q l : Nat) = del O κ q l := by
  unfold cutL del; simp [h]
set_option maxHeartbeats 800000 in
set_option maxRecDepth 8000 in
theorem drop_nil (l : List It) (lv : Value) (x : It) (w : World) (hl : SlI w lv l) (hbig : l.length ≤ 2147483648) :
    CallK Try.prog 50 #[nilS, lv, iV x] w fun v w' => ∃ sv, v = .tuple #[sv, foV (foO (at? O κ (κ x) l))] ∧ SlI w' sv (del O κ (κ x) l) ∧ Ext noF w w' ∧ (since w.heap.size sv ∨ sv = lv) := by
  refine calls_of_W [.tmp 6, .cell 7 38] Try.func50 rfl Try.ntmps50 Try.results50 (by simp) fun e he => ?_
  have e0 : e 0 = nilS := he 0 _ rfl
  have e1 : e 1 = lv := he 1 _ rfl
  have e2 : e 2 = iV x := he 2 _ rfl
  clear he
  refine W_sq fun K hK => (W_text [false, true, false] (by kernel_rfl) ?_); simp only [↓List.toList_toArray, ↓rgd, ↓rgf, ↓reduceIte, Nat.reduceEqDiff, rg, ow_50]
  refine do_box (by simp only [evt]; exact e2) fun w1 n1 => ⟨trivial, ?_⟩
  simp only [↓List.toList_toArray, ↓rgd, ↓rgf, ↓reduceIte, Nat.reduceEqDiff, rg, ow_50]
  refine do_alloc z_fo fun w2 n2 => ⟨trivial, ?_⟩
  simp only [↓List.toList_toArray, ↓rgd, ↓rgf, ↓reduceIte, Nat.reduceEqDiff, rg, ow_50]
  refine hK _ _ ?_; clear hK K
  have s1 := n1.size
  have s2 := n2.size
  have X2 := n1.ext.tr n2.ext
  have bx2 : rdA w2 w.heap.size 0 2 = some (iV x) := (n2.ext.row n1.row fun _ _ h => h).rdA 2 (by show 2 ≤ 2; omega)
  refine W_sq fun K hK => (W_text [true, true, true, false, true, true, true, true, true] (by kernel_rfl) ?_); simp only [↓List.toList_toArray, ↓rgd, ↓rgf, ↓reduceIte, Nat.reduceEqDiff, rg, ow_50, e0, e1, bx2]
  refine do_call fn_58 (by simp only [evt, evc, upd_eq, Nat.reduceEqDiff, ↓reduceIte, maT, maC, maN, isnN, isnS] <;> rfl) (place_nil l lv x w2 (SlV.ext0 hl X2) hbig) ?_
  rintro _ w3 ⟨rfl, x3⟩
  refine ⟨trivial, ?_⟩
  simp only [↓List.toList_toArray, ↓rgd, ↓rgf, ↓reduceIte, Nat.reduceEqDiff, rg, ow_50]
  refine hK _ _ ?_; clear hK K
  have s3 := x3.size
  have X3 := X2.tr x3
  refine W_seq ?_
  cases hh : hit O κ (κ x) l with
  | false =>
    refine W_sq fun K hK => (W_text [true, true] (by kernel_rfl) ?_); simp only [↓List.toList_toArray, ↓rgd, ↓rgf, ↓reduceIte, Nat.reduceEqDiff, rg, ow_50, hh]
    refine hK _ _ ?_; clear hK K
    refine W_true (by simp only [evt, evc, upd_eq, Nat.reduceEqDiff, ↓reduceIte, ntT, ntF] <;> rfl) ?_
    refine W_sq fun K hK => (W_text [true, true, true, false] (by kernel_rfl) ?_); simp only [↓List.toList_toArray, ↓rgd, ↓rgf, ↓reduceIte, Nat.reduceEqDiff, rg, ow_50, e1, bu_fo0]
    refine do_store (v := foV _) (by simp only [evt, evc, upd_eq, Nat.reduceEqDiff, ↓reduceIte, ntT, ntF] <;> rfl) (by simp only [evt, evc, upd_eq, Nat.reduceEqDiff, ↓reduceIte, ntT, ntF] <;> rfl) sz_38 rfl (x3.wok n2.wok) (by decide) (oc_fo _) fun w4 x4 r4 s4 => ⟨trivial, ?_⟩
    simp only [↓List.toList_toArray, ↓rgd, ↓rgf, ↓reduceIte, Nat.reduceEqDiff, rg, ow_50]
    refine hK _ _ ?_; clear hK K
    refine W_ret ?_
    simp only [andThen_ret]
    have X4 := noF_of X3 x4 fun y o hy h => by simp only [rng] at h; omega
    have h1 : at? O κ (κ x) l = none := by simp [at?, hh]
    have h2 : del O κ (κ x) l = l := by simp [del, hh]
    rw [h1, h2]
    exact endQ_tc (by simp only [upd_eq, Nat.reduceEqDiff, ↓reduceIte] <;> rfl) (by simp only [upd_eq, Nat.reduceEqDiff, ↓reduceIte]) ld_38 (ld_fo r4) ⟨_, rfl, SlV.ext0 hl X4, X4, .inr rfl⟩
  | true =>
    refine W_sq fun K hK => (W_text [true, true] (by kernel_rfl) ?_); simp only [↓List.toList_toArray, ↓rgd, ↓rgf, ↓reduceIte, Nat.reduceEqDiff, rg, ow_50, hh]
    refine hK _ _ ?_; clear hK K
    refine W_false (by simp only [evt, evc, upd_eq, Nat.reduceEqDiff, ↓reduceIte, ntT, ntF] <;> rfl) (W_skip ?_)
    show W _ _ _ _ _ _
    refine W_sq fun K hK => (W_text [true, true, false, true, true, true, false] (by kernel_rfl) ?_); simp only [↓List.toList_toArray, ↓rgd, ↓rgf, ↓reduceIte, Nat.reduceEqDiff, rg, ow_50, e1]
    refine do_call fn_54 (by simp only [evt, evc, upd_eq, Nat.reduceEqDiff, ↓reduceIte, maT, maC, maN, isnN, isnS] <;> rfl) (cut_since l lv _ w3 (SlV.ext0 hl X3) hbig) ?_
    rintro _ w4 ⟨sv, rfl, hs, X4, hsi⟩
    refine ⟨trivial, ?_⟩
    simp only [↓List.toList_toArray, ↓rgd, ↓rgf, ↓reduceIte, Nat.reduceEqDiff, rg, ow_50]
    rw [at_foO hh]
    rw [cut_del hh] at hs
    have s4 := X4.size
    refine do_store (v := foV _) (by simp only [evt, evc, upd_eq, Nat.reduceEqDiff, ↓reduceIte, ntT, ntF] <;> rfl) (by simp only [evt, evc, upd_eq, Nat.reduceEqDiff, ↓reduceIte, ntT, ntF] <;> rfl) sz_38 rfl ((x3.tr X4).wok n2.wok) (by decide) (oc_fo _) fun w5 x5 r5 s5 => ⟨trivial, ?_⟩
    simp only [↓List.toList_toArray, ↓rgd, ↓rgf, ↓reduceIte, Nat.reduceEqDiff, rg, ow_50]
    refine hK _ _ ?_; clear hK K
    refine W_ret ?_
    refine endQ_tc (by simp only [upd_eq, Nat.reduceEqDiff, ↓reduceIte] <;> rfl) (by simp only [upd_eq, Nat.reduceEqDiff, ↓reduceIte]) ld_38 (ld_fo r5) ⟨_, rfl, ?_, noF_of (X3.tr X4) x5 (fun y o hy h => by simp only [rng] at h; omega), hsi.imp (fun h b o n c g => by have := h b o n c g; omega) id⟩
    refine SlV.ext hs x5 fun b o c hb i hi g => ?_
    simp only [rng] at g
    rcases hsi with h | h
    · have := h _ _ _ _ hb; omega
    · have := SlV.lt hl (h.symm.trans hb); omega
set_option maxHeartbeats 800000 in
set_option maxRecDepth 8000 in
theorem gdelete_nil (l : List It) (lv : Value) (ks : List It) (kv : Value) (w : World) (hl : SlI w lv l) (hbig : l.length ≤ 2147483647) (hks : SlI w kv ks) (hkb : ks.length ≤ 2147483647) :
    CallK Try.prog 33 #[mkV, lv, kv] w fun v w' => ∃ rv tv, v = .tuple #[rv, tv] ∧ SlI w' tv (delsK (tree l) ks) ∧ Ext noF w w' := by
  obtain ⟨ka, kc, hkv⟩ := SlV.shape hks
  refine calls_of_W [.tmp 6, .tmp 7] Try.func33 rfl Try.ntmps33 Try.results33 (by simp) fun e he => ?_
  have e0 : e 0 = mkV := he 0 _ rfl
  have e1 : e 1 = lv := he 1 _ rfl
  have e2 : e 2 = kv := he 2 _ rfl
  clear he
  rw [hkv] at e2
  refine W_sq fun K hK => (W_text [false, true, true] (by kernel_rfl) ?_); simp only [↓List.toList_toArray, ↓rgd, ↓rgf, ↓reduceIte, Nat.reduceEqDiff, rg, ow_33]
  refine do_box (by simp only [evt]; exact e0) fun w1 n1 => ⟨trivial, ?_⟩
  simp only [↓List.toList_toArray, ↓rgd, ↓rgf, ↓reduceIte, Nat.reduceEqDiff, rg, ow_33]
  refine hK _ _ ?_; clear hK K
  have s1 := n1.size
  have r1 : rd w1 w.heap.size 0 = some nilS := (Row.cons.1 (show Row w1 w.heap.size 0 [nilS, .int .i64 0, .bool false] from n1.row)).1
  refine W_sq fun K hK => (W_text [true, true, true, false, true] (by kernel_rfl) ?_); simp only [↓List.toList_toArray, ↓rgd, ↓rgf, ↓reduceIte, Nat.reduceEqDiff, rg, ow_33, e1, ptr_eq, r1]
  refine do_call fn_27 (by simp only [evt, evc, upd_eq, Nat.reduceEqDiff, ↓reduceIte, maT, maC, maN, isnN, isnS] <;> rfl) (stree_nil l lv w1 (SlV.ext0 hl n1.ext) hbig) ?_
  rintro v2 w2 ⟨hT0, X12⟩
  refine ⟨trivial, ?_⟩
  simp only [↓List.toList_toArray, ↓rgd, ↓rgf, ↓reduceIte, Nat.reduceEqDiff, rg, ow_33]
  refine hK _ _ ?_; clear hK K
  have s2 := X12.size
  have r2 : rd w2 w.heap.size 0 = some nilS := X12.rd r1 fun h => h
  have X2 := n1.ext.tr X12
  have htl := tree_len l
  refine W_sq fun K hK => (W_text [true] (by kernel_rfl) ?_); simp only [↓List.toList_toArray, ↓rgd, ↓rgf, ↓reduceIte, Nat.reduceEqDiff, rg, ow_33]
  refine hK _ _ ?_; clear hK K
  refine W_seq (W_seq ?_)
  refine W_rg fun K hK => (W_text [true, true, true] (by kernel_rfl) ?_); simp only [↓List.toList_toArray, ↓rgd, ↓rgf, ↓reduceIte, Nat.reduceEqDiff, rg, ow_33, e2]
  refine hK _ _ ?_; clear hK K
  show W _ _ _ _ _ _
  refine W_block (W_loop (fun mm e w' => ∃ k : Nat, mm = ks.length - k ∧ k ≤ ks.length ∧ e 3 = ptr w.heap.size ∧ e 17 = .slice ka ks.length kc ∧ e 18 = .int .i64 ks.length ∧ e 19 = .int .i64 k ∧ OutE Ef w2.heap.size (e 9) (drepsK (tree l) (ks.take k)) w' ∧ SlI w' (e 8) (delsK (tree l) (ks.take k)) ∧ apart2 (e 9) (e 8) ∧ Ext (fun y _ => w2.heap.size ≤ y) w2 w')
    ks.length ⟨0, by simp, by simp, by simp only [upd_eq, Nat.reduceEqDiff, ↓reduceIte]; rfl, by simp only [upd_eq, Nat.reduceEqDiff, ↓reduceIte], by simp only [upd_eq, Nat.reduceEqDiff, ↓reduceIte], by simp only [upd_eq, Nat.reduceEqDiff, ↓reduceIte]; rfl, by simp only [upd_eq, Nat.reduceEqDiff, ↓reduceIte]; exact OutE.nil _ _ _, by simp only [upd_eq, Nat.reduceEqDiff, ↓reduceIte]; exact hT0, by simp only [upd_eq, Nat.reduceEqDiff, ↓reduceIte]; exact (fun b o n c o' n' c' h => by cases h), Ext.refl _ _⟩ ?_)
  clear e0 e1 e2 e
  rintro mm e w' ⟨k, rfl, hk, e3, eS, eL, eI, hO, hT, hap, X⟩
  have sX := X.size
  by_cases hlt : k < ks.length
  · have ht := lt_tt k ks.length hlt
    refine W_sq fun K hK => (W_text [true] (by kernel_rfl) ?_); simp only [↓List.toList_toArray, ↓rgd, ↓rgf, ↓reduceIte, Nat.reduceEqDiff, rg, ow_33, eL, eI, ht]
    refine hK _ _ ?_; clear hK K
    refine W_seq (W_true (by simp only [evt, evc, upd_eq, Nat.reduceEqDiff, ↓reduceIte, ntT, ntF] <;> rfl) (W_skip ?_))
    show W _ _ _ _ _ _
    obtain ⟨x, hx⟩ : ∃ x, ks[k]? = some x := ⟨_, List.getElem?_eq_getElem hlt⟩
    obtain ⟨ib, io, hka, row⟩ := SlV.at hks hkv hlt
    have hibl := SlV.lt hks (hkv.trans (by rw [hka]))
    have ixx := iV_at (X.row (X2.row row fun _ _ h => h) fun _ _ h => by omega) hx
    rw [hka] at eS
    refine W_seq (W_block ?_)
    refine W_sq fun K hK => (W_text [true, true, false, false] (by kernel_rfl) ?_); simp only [↓List.toList_toArray, ↓rgd, ↓rgf, ↓reduceIte, Nat.reduceEqDiff, rg, ow_33, eS, eI, hlt, ixx]
    refine do_alloc z_item fun w3 n3 => ⟨trivial, ?_⟩
    simp only [↓List.toList_toArray, ↓rgd, ↓rgf, ↓reduceIte, Nat.reduceEqDiff, rg, ow_33]
    refine do_store (v := iV x) (by simp only [evt, evc, upd_eq, Nat.reduceEqDiff, ↓reduceIte, ntT, ntF] <;> rfl) (by simp only [evt, evc, upd_eq, Nat.reduceEqDiff, ↓reduceIte, ntT, ntF] <;> rfl) sz_36 rfl n3.wok (by decide) (Ei.one x) fun w4 x4 r4 s4 => ⟨trivial, ?_⟩
    simp only [↓List.toList_toArray, ↓rgd, ↓rgf, ↓reduceIte, Nat.reduceEqDiff, rg, ow_33]
    refine hK _ _ ?_; clear hK K
    have s3 := n3.size
    have X4 : Ext noF w' w4 := noF_of n3.ext x4 fun y o hy h => by simp only [rng] at h; omega
    rw [← hka] at eS
    refine W_sq fun K hK => (W_text [false] (by kernel_rfl) ?_); simp only [↓List.toList_toArray, ↓rgd, ↓rgf, ↓reduceIte, Nat.reduceEqDiff, rg, ow_33]
    refine do_alloc z_fo fun w5 n5 => ⟨trivial, ?_⟩
    simp only [↓List.toList_toArray, ↓rgd, ↓rgf, ↓reduceIte, Nat.reduceEqDiff, rg, ow_33]
    refine hK _ _ ?_; clear hK K
    have s5 := n5.size
    have X5 := X4.tr n5.ext
    have bx : rdA w5 w'.heap.size 0 2 = some (iV x) := (n5.ext.row (show Row w4 w'.heap.size 0 (Ei.cel x) from r4) fun _ _ h => h).rdA 2 (by show 2 ≤ 2; omega)
    have r5 : rd w5 w.heap.size 0 = some nilS := X5.rd (X.rd r2 (by omega)) fun h => h
    have hdl := delsK_len (ks.take k) (tree l)
    have htk : (ks.take k).length ≤ k := by rw [List.length_take]; omega
    refine W_sq fun K hK => (W_text [true, true, true, true, false, true, true, true, true, false] (by kernel_rfl) ?_); simp only [↓List.toList_toArray, ↓rgd, ↓rgf, ↓reduceIte, Nat.reduceEqDiff, rg, ow_33, e3, ptr_eq, bx, r5]
    refine do_call fn_50 (by simp only [evt, evc, upd_eq, Nat.reduceEqDiff, ↓reduceIte, maT, maC, maN, isnN, isnS] <;> rfl) (drop_nil (delsK (tree l) (ks.take k)) (e 8) x w5 (SlV.ext0 hT X5) (by omega)) ?_
    rintro _ w6 ⟨sv, rfl, hS6, X6, hsv⟩
    refine ⟨trivial, ?_⟩
    simp only [↓List.toList_toArray, ↓rgd, ↓rgf, ↓reduceIte, Nat.reduceEqDiff, rg, ow_33]
    refine do_store (v := foV _) (by simp only [evt, evc, upd_eq, Nat.reduceEqDiff, ↓reduceIte, ntT, ntF] <;> rfl) (by simp only [evt, evc, upd_eq, Nat.reduceEqDiff, ↓reduceIte, ntT, ntF] <;> rfl) sz_38 rfl (X6.wok n5.wok) (by decide) (oc_fo _) fun w7 x7 r7 s7 => ⟨trivial, ?_⟩
    simp only [↓List.toList_toArray, ↓rgd, ↓rgf, ↓reduceIte, Nat.reduceEqDiff, rg, ow_33]
    refine hK _ _ ?_; clear hK K
    have s6 := X6.size
    have X7 : Ext noF w' w7 := noF_of (X5.tr X6) x7 fun y o hy h => by simp only [rng] at h; omega
    have l7 : rdA w7 w4.heap.size 0 3 = some (foV (foO (at? O κ (κ x) (delsK (tree l) (ks.take k))))) := (show Row w7 w4.heap.size 0 (Ef.cel _) from r7).rdA 3 (by simp [Ef])
    refine W_rg fun K hK => (W_text [true, true, false, false, true] (by kernel_rfl) ?_); simp only [↓List.toList_toArray, ↓rgd, ↓rgf, ↓reduceIte, Nat.reduceEqDiff, rg, ow_33, l7]
    refine do_bsl rfl (bs_fo1 _) fun w8 n8 => ⟨trivial, ?_⟩
    simp only [↓List.toList_toArray, ↓rgd, ↓rgf, ↓reduceIte, Nat.reduceEqDiff, rg, ow_33]
    have X8 := X7.tr n8.ext
    have s8 := X8.size
    have s78 := n8.size
    have hrl : (drepsK (tree l) (ks.take k)).length = k := by rw [drepsK_length, List.length_take]; omega
    have hx8 : SlV w8 3 (.slice (some ⟨w7.heap.size, 0, none⟩) 1 1) 1 (Ef.cel (foO (at? O κ (κ x) (delsK (tree l) (ks.take k))))) := ⟨rfl, .inr ⟨_, 0, 1, rfl, Nat.le_refl _, n8.row, n8.wok.R (Nat.le_refl _)⟩⟩
    refine do_append (by simp only [evt, evc, upd_eq, Nat.reduceEqDiff, ↓reduceIte, ntT, ntF] <;> rfl) (by simp only [evt, evc, upd_eq, Nat.reduceEqDiff, ↓reduceIte, ntT, ntF] <;> rfl) el_fo rfl ni_fo (hO.ext X8).sl hx8 (by omega) (by decide) (Ef.one _) fun v9 w9 a9 => ?_
    have hapsv : apart2 (e 9) sv := fun b o n c o' n' c' g1 g2 => by
      rcases hsv with h | h
      · have := hO.sl.lt g1
        have := h _ _ _ _ g2
        omega
      · exact hap _ _ _ _ _ _ _ g1 (h.symm.trans g2)
    have hS8 : SlI w8 sv (del O κ (κ x) (delsK (tree l) (ks.take k))) := by
      refine SlV.ext0 ?_ n8.ext
      exact SlV.ext hS6 x7 fun b o cap hb i hi g => by
        simp only [rng] at g
        rcases hsv with h | h
        · have := h _ _ _ _ hb; omega
        · have := SlV.lt hT (h.symm.trans hb); omega
    obtain ⟨hO9, X9⟩ := (hO.ext X8).app a9 (by omega)
    obtain ⟨hS9, hap9⟩ := app_other a9 hS8 hapsv
    refine ⟨trivial, ?_⟩
    simp only [↓List.toList_toArray, ↓rgd, ↓rgf, ↓reduceIte, Nat.reduceEqDiff, rg, ow_33]
    refine hK _ _ ?_; clear hK K
    show W _ _ _ _ _ _
    have q1 := wadd1 k (by omega)
    refine W_rg fun K hK => (W_text [true, true] (by kernel_rfl) ?_); simp only [↓List.toList_toArray, ↓rgd, ↓rgf, ↓reduceIte, Nat.reduceEqDiff, rg, ow_33, eI, q1]
    refine hK _ _ ?_; clear hK K
    refine ⟨_, ?_, k + 1, rfl, hlt, by simp only [upd_eq, Nat.reduceEqDiff, ↓reduceIte]; exact e3, by simp only [upd_eq, Nat.reduceEqDiff, ↓reduceIte]; exact eS, by simp only [upd_eq, Nat.reduceEqDiff, ↓reduceIte]; exact eL, by simp only [upd_eq, Nat.reduceEqDiff, ↓reduceIte], by simp only [upd_eq, Nat.reduceEqDiff, ↓reduceIte]; rw [take_snoc hx, drepsK_snoc]; exact hO9, by simp only [upd_eq, Nat.reduceEqDiff, ↓reduceIte]; rw [take_snoc hx, delsK_snoc]; exact hS9, by simp only [upd_eq, Nat.reduceEqDiff, ↓reduceIte]; exact hap9, (X.tr (X8.mono fun _ _ _ h => h.elim)).tr X9⟩
    omega
  · obtain rfl : k = ks.length := by omega
    have ht := lt_ff ks.length ks.length (by omega)
    refine W_sq fun K hK => (W_text [true] (by kernel_rfl) ?_); simp only [↓List.toList_toArray, ↓rgd, ↓rgf, ↓reduceIte, Nat.reduceEqDiff, rg, ow_33, eL, eI, ht]
    refine hK _ _ ?_; clear hK K
    refine W_seq (W_false (by simp only [evt, evc, upd_eq, Nat.reduceEqDiff, ↓reduceIte, ntT, ntF] <;> rfl) (W_exit ?_))
    simp only [andThen_exit, inBlk_exit, andThen_normal, ↓reduceIte]
    refine W_sq fun K hK => (W_text [true, true, true, true] (by kernel_rfl) ?_); simp only [↓List.toList_toArray, ↓rgd, ↓rgf, ↓reduceIte, Nat.reduceEqDiff, rg, ow_33]
    refine hK _ _ ?_; clear hK K
    rw [List.take_length] at hO hT
    exact W_ret (endQ_2 (by simp only [upd_eq, Nat.reduceEqDiff, ↓reduceIte] <;> rfl) (by simp only [upd_eq, Nat.reduceEqDiff, ↓reduceIte] <;> rfl) ⟨_, _, rfl, hT, noF_of X2 X fun y o hy h => by omega⟩)
end Go.Proofs.Ytjaolgehpnmieaa
/-
  Regions by a plan, once more: where all operations that read the heap wait for an operation or it for them, the heap may change at it at will. For whatever program. No condition.
-/
set_option linter.unusedSimpArgs false
set_option linter.unusedVariables false
namespace Go.Proofs.Ytjaolgehpnmieaa
open Go
/-- What the operation yields does not depend on the heap. -/
def pureOp (P : Program) : Op → Bool
  | .move _ => true
  | .assign _ => true
  | .pick _ _ _ => true
  | .nilCheck _ => true
  | .binOp _ _ _ _ _ => true
  | .unOp .not _ _ => true
  | .slice _ _ _ _ _ => true
  | .fieldAddr T _ f => (fOff P T f).isSome
  | .indexAddr _ _ _ => true
  | .extract _ _ => true
  | _ => false
theorem pure_tk {P : Program} {H H' : Hold} {e : Env} {w w' : World} {op : Op} (h : pureOp P op = true) : tkOp P H e w op = tkOp P H' e w' op := by
  cases op with
  | fieldAddr T x f =>
    obtain ⟨o, ho⟩ := Option.isSome_iff_exists.1 (show (fOff P T f).isSome = true from h)
    simp only [tkOp, foZ, ho]
  | unOp k T x => cases k <;> first | rfl | cases h
  | _ => first | rfl | cases h
/-- What f waits for, of those from f - k on. -/
def ancs (ops : Array Oper) (f : Nat) : Nat → List Nat
  | 0 => [f]
  | k + 1 => let L := ancs ops f k; if L.any (fun j => waitsOn ops j (f - (k + 1))) then (f - (k + 1)) :: L else L
/-- What waits for f, of those up to f + k. -/
def descs (ops : Array Oper) (f : Nat) : Nat → List Nat
  | 0 => [f]
  | k + 1 => let L := descs ops f k; if L.any (fun j => waitsOn ops (f + (k + 1)) j) then (f + (k + 1)) :: L else L
def semiOk (P : Program) (ops : Array Oper) (f : Nat) : Bool :=
  decide (f < ops.size) && (let A := ancs ops f f; let D := descs ops f (ops.size - f); (List.range ops.size).all fun i => i == f || A.contains i || D.contains i || (ops[i]?).any fun o => pureOp P o.op)
inductive Anc (ops : Array Oper) (f : Nat) : Nat → Prop
  | self : Anc ops f f
  | step {j i : Nat} : Anc ops f j → waitsOn ops j i = true → Anc ops f i
inductive Desc (ops : Array Oper) (f : Nat) : Nat → Prop
  | self : Desc ops f f
  | step {j i : Nat} : Desc ops f j → waitsOn ops i j = true → Desc ops f i
theorem ancs_spec {ops : Array Oper} {f : Nat} : ∀ (k i : Nat), i ∈ ancs ops f k → Anc ops f i
  | 0, i, h => by
    simp only [ancs, List.mem_singleton] at h
    subst h; exact .self
  | k + 1, i, h => by
    simp only [ancs] at h
    split at h
    · rename_i hc
      rcases List.mem_cons.1 h with rfl | h
      · obtain ⟨j, hj, hw⟩ := List.any_eq_true.1 hc
        exact .step (ancs_spec k j hj) hw
      · exact ancs_spec k i h
    · exact ancs_spec k i h
theorem descs_spec {ops : Array Oper} {f : Nat} : ∀ (k i : Nat), i ∈ descs ops f k → Desc ops f i
  | 0, i, h => by
    simp only [descs, List.mem_singleton] at h
    subst h; exact .self
  | k + 1, i, h => by
    simp only [descs] at h
    split at h
    · rename_i hc
      rcases List.mem_cons.1 h with rfl | h
      · obtain ⟨j, hj, hw⟩ := List.any_eq_true.1 hc
        exact .step (descs_spec k j hj) hw
      · exact descs_spec k i h
    · exact descs_spec k i h
theorem anc_ahead {ops : Array Oper} {f : Nat} {listed : Array Bool} (hc : ClosedUp ops listed) (hr : f ∈ Region.ready .any ops listed) {i : Nat} (h : Anc ops f i) (hu : listed.getD i false = false) : i = f := by
  induction h with
  | self => rfl
  | @step j i hj hw ih =>
    cases hl : listed.getD j false with
    | true =>
      have := waits_listed hc (.inr hl) hw
      rw [hu] at this; cases this
    | false =>
      obtain rfl := ih hl
      have := waits_listed hc (.inl hr) hw
      rw [hu] at this; cases this
theorem desc_behind {ops : Array Oper} {f : Nat} {listed : Array Bool} (hc : ClosedUp ops listed) (hf : f ∈ Region.ready .any ops listed) {i : Nat} (h : Desc ops f i) (hr : i ∈ Region.ready .any ops listed ∨ listed.getD i false = true) : i = f := by
  have key : i = f ∨ listed.getD f false = true := by
    induction h with
    | self => exact .inl rfl
    | @step j i hj hw ih =>
      have hl := waits_listed hc hr hw
      rcases ih (.inr hl) with rfl | h
      · exact .inr hl
      · exact .inr h
  rcases key with h | h
  · exact h
  · exact (listed_unready h hf).elim
theorem semi_spec {P : Program} {ops : Array Oper} {f i : Nat} {o : Oper} (h : semiOk P ops f = true) (hi : ops[i]? = some o) : i = f ∨ Anc ops f i ∨ Desc ops f i ∨ pureOp P o.op = true := by
  simp only [semiOk, Bool.and_eq_true, decide_eq_true_eq, List.all_eq_true, List.mem_range, Bool.or_eq_true, beq_iff_eq] at h
  rcases h.2 i (Array.getElem?_eq_some_iff.1 hi).1 with ((h | h) | h) | h
  · exact .inl h
  · exact .inr (.inl (ancs_spec _ _ (by simpa using h)))
  · exact .inr (.inr (.inl (descs_spec _ _ (by simpa using h))))
  · rw [hi] at h; exact .inr (.inr (.inr h))
/-- Of those that are marked, f waits for each, or each for f. -/
def linkOk (ops : Array Oper) (sd : List Nat) (f : Nat) : Bool :=
  let A := ancs ops f f; let D := descs ops f (ops.size - f); sd.all fun i => i == f || A.contains i || D.contains i
theorem link_spec {ops : Array Oper} {sd : List Nat} {f i : Nat} (h : linkOk ops sd f = true) (hi : sd.contains i = true) : i = f ∨ Anc ops f i ∨ Desc ops f i := by
  simp only [linkOk, List.all_eq_true, Bool.or_eq_true, beq_iff_eq] at h
  rcases h i (by simpa using hi) with (h | h) | h
  · exact .inl h
  · exact .inr (.inl (ancs_spec _ _ (by simpa using h)))
  · exact .inr (.inr (descs_spec _ _ (by simpa using h)))
section
variable {P : Program} {ops : Array Oper} {Q : Exit → Act → World → Prop} {R : World → World → Prop} {sd : List Nat}
def wpM (P : Program) (ops : Array Oper) (Q : Exit → Act → World → Prop) (R : World → World → Prop) (sd : List Nat) : Nat → Array Bool → World → Act → World → Prop
  | 0, listed, _, a, w => Region.ready .any ops listed = [] ∧ Q .normal a w
  | fuel + 1, listed, w0, a, w =>
    (Region.ready .any ops listed = [] → Q .normal a w) ∧
    ∀ i ∈ Region.ready .any ops listed, wpOp P ops Q i (fun a' w' => (semiOk P ops i = true ∧ wpM P ops Q R sd fuel (listed.setIfInBounds i true) w' a' w') ∨
      ((linkOk ops sd i = true ∨ w'.heap = w.heap) ∧ R w0 w' ∧ wpM P ops Q R sd fuel (listed.setIfInBounds i true) w0 a' w')) a w
theorem wpAny_of_wpM : ∀ (fuel : Nat) (listed : Array Bool) (w0 : World) (a : Act) (w : World), wpM P ops Q R sd fuel listed w0 a w → wpAny P .any ops Q fuel listed a w
  | 0, _, _, _, _, h => h
  | fuel + 1, _, _, _, _, h => ⟨h.1, fun i hi => wpOp_mono (fun a' w' h' => h'.elim (fun h => wpAny_of_wpM fuel _ _ a' w' h.2) fun h => wpAny_of_wpM fuel _ _ a' w' h.2.2) (h.2 i hi)⟩
/-- In which worlds an operation that is pending must yield its value. -/
def Tol (P : Program) (R : World → World → Prop) (sd : List Nat) (o : Oper) (i : Nat) (w0 w u : World) : Prop := pureOp P o.op = true ∨ (sd.contains i = true ∧ u.heap = w.heap) ∨ (sd.contains i = false ∧ R w0 u)
theorem Gives.mono {S S' : World → Prop} {o : Oper} {v : Value} {a : Act} (h : Gives P ops S o v a) (hS : ∀ u, S' u → S u) : Gives P ops S' o v a := h.imp (fun ⟨h1, h2⟩ => ⟨h1, fun w hw => h2 w (hS w hw)⟩) id
theorem wpM_first {i : Nat} {oi : Oper} {v : Value} (hi : ops[i]? = some oi) (hR : ∀ w, R w w)
    (hsel : ∀ (j : Nat) (o : Oper) cs b, ops[j]? = some o → o.op ≠ .select cs b) (hQ : ∀ c a w, ¬ Q (.panic c) a w) :
    ∀ (fuel : Nat) (listed : Array Bool) (w0 : World) (a : Act) (w : World), ClosedUp ops listed →
      (∀ j oj, ops[j]? = some oj → j ≠ i → listed.getD j true = false → (∀ e ∈ oj.after, Region.binds .any e = true → e.on ≠ i) → oi.apart ops oj = true) →
      i ∈ Region.ready .any ops listed → Gives P ops (Tol P R sd oi i w0 w) oi v a → R w0 w →
      wpM P ops Q R sd fuel (listed.setIfInBounds i true) w0 (a.put oi.dst v) w → wpM P ops Q R sd (fuel + 1) listed w0 a w := by
  have here : ∀ {w0 w : World}, R w0 w → Tol P R sd oi i w0 w w := fun h => by
    cases hs : sd.contains i with
    | true => exact .inr (.inl ⟨hs, rfl⟩)
    | false => exact .inr (.inr ⟨hs, h⟩)
  intro fuel
  induction fuel with
  | zero =>
    intro listed w0 a w _ _ hr hy hS H
    refine ⟨fun h => (by rw [h] at hr; cases hr), fun j hj => ?_⟩
    by_cases hji : j = i
    · subst hji; exact hy.wpOp hi (here hS) (.inr ⟨.inr rfl, hS, H⟩)
    · have := ready_mono hj hji
      rw [H.1] at this
      cases this
  | succ fuel ih =>
    intro listed w0 a w hc hfree hr hy hS H
    refine ⟨fun h => (by rw [h] at hr; cases hr), fun j hj => ?_⟩
    by_cases hji : j = i
    · subst hji; exact hy.wpOp hi (here hS) (.inr ⟨.inr rfl, hS, H⟩)
    · have h1 := H.2 j (ready_mono hj hji)
      obtain ⟨hjun, oj, hoj, hall⟩ := mem_ready.1 hj
      have hiun := (mem_ready.1 hr).1
      have his : i < ops.size := (Array.getElem?_eq_some_iff.1 hi).1
      have hnot : ∀ e ∈ oj.after, Region.binds .any e = true → e.on ≠ i := fun e he hb heq => by
        have h1 := hall e he hb
        rw [heq, getD_tf hiun] at h1
        cases h1
      have h2 := wpOp_before hoj (hfree j oj hoj hji hjun hnot) (fun cs b => hsel i oi cs b hi) (fun cs b => hsel j oj cs b hoj) hQ hy h1
      have hfree' : ∀ k ok, ops[k]? = some ok → k ≠ i → (listed.setIfInBounds j true).getD k true = false → (∀ e ∈ ok.after, Region.binds .any e = true → e.on ≠ i) → oi.apart ops ok = true := fun k ok hk hki hun hno => by
        refine hfree k ok hk hki ?_ hno
        by_cases hjk : j = k
        · subst hjk; exact hjun
        · rw [getD_set_ne true hjk] at hun; exact hun
      have apartL : ¬ (i = j ∨ Anc ops j i ∨ Desc ops j i) := fun h => by
        rcases h with h | h | h
        · exact hji h.symm
        · exact hji (anc_ahead hc hj h (getD_tf hiun)).symm
        · exact hji (desc_behind hc hj h (.inl hr)).symm
      refine wpOp_mono (fun a' w' h3 => ?_) h2
      rcases h3.2 with ⟨hb, hrest⟩ | ⟨hl, hS', hrest⟩
      · refine .inl ⟨hb, ih (listed.setIfInBounds j true) w' a' w' (hc.set hj) hfree' (ready_mono hr (Ne.symm hji)) (h3.1.mono fun u _ => .inl ?_) (hR _) ?_⟩
        · rcases semi_spec hb hi with h | h | h | h
          · exact (apartL (.inl h)).elim
          · exact (apartL (.inr (.inl h))).elim
          · exact (apartL (.inr (.inr h))).elim
          · exact h
        · rw [Array.setIfInBounds_comm _ _ hji]
          exact hrest
      · refine .inr ⟨hl, hS', ih (listed.setIfInBounds j true) w0 a' w' (hc.set hj) hfree' (ready_mono hr (Ne.symm hji)) (h3.1.mono fun u hu => ?_) hS' ?_⟩
        · rcases hu with hu | ⟨hu, hh⟩ | hu
          · exact .inl hu
          · rcases hl with hl | hl
            · exact (apartL (link_spec hl hu)).elim
            · exact .inr (.inl ⟨hu, hh.trans hl⟩)
          · exact .inr (.inr hu)
        · rw [Array.setIfInBounds_comm _ _ hji]
          exact hrest
end
/-- A plan: an operation is taken (true: all that write wait for it or it for them); is carried out; is carried out, and all that read wait for it or it for them; two may come up. -/
inductive PM where
  | nil
  | take (s : Bool) (i : Nat) (r : PM)
  | act (i : Nat) (r : PM)
  | bar (i : Nat) (r : PM)
  | split (i : Nat) (r : PM) (j : Nat) (s : PM)
def sdOf : PM → List Nat
  | .nil => []
  | .take true i r => i :: sdOf r
  | .take false _ r => sdOf r
  | .act _ r => sdOf r
  | .bar _ r => sdOf r
  | .split _ r _ s => sdOf r ++ sdOf s
def ptOkM (P : Program) (ops : Array Oper) (sd : List Nat) : PM → Array Bool → Bool
  | .nil, listed => (Region.ready .any ops listed).isEmpty
  | .take s i r, listed => (s == sd.contains i) && (Region.ready .any ops listed).contains i && Region.free .any ops listed i && ptOkM P ops sd r (listed.setIfInBounds i true)
  | .act i r, listed => decide (Region.ready .any ops listed = [i]) && linkOk ops sd i && ptOkM P ops sd r (listed.setIfInBounds i true)
  | .bar i r, listed => decide (Region.ready .any ops listed = [i]) && semiOk P ops i && ptOkM P ops sd r (listed.setIfInBounds i true)
  | .split i r j s, listed => decide (Region.ready .any ops listed = [i, j]) && linkOk ops sd i && linkOk ops sd j && ptOkM P ops sd r (listed.setIfInBounds i true) && ptOkM P ops sd s (listed.setIfInBounds j true)
def ptM : PM → Nat → Bool
  | .nil, n => n == 0
  | .take _ _ r, n => n != 0 && ptM r (n - 1)
  | .act _ r, n => n != 0 && ptM r (n - 1)
  | .bar _ r, n => n != 0 && ptM r (n - 1)
  | .split _ r _ s, n => n != 0 && ptM r (n - 1) && ptM s (n - 1)
def regOkM (P : Program) (n : Nat) (ops : Array Oper) (pl : PM) : Bool :=
  Region.noSelect ops && dstsOk n ops && ptM pl ops.size && (let sd := sdOf pl; ptOkM P ops sd pl (Array.replicate ops.size false))
def WPM (P : Program) (ops : Array Oper) (H : Hold) (Q : Post) : PM → Env → World → Prop
  | .nil, e, w => Q .normal e w
  | .take true i r, e, w => withOp ops i (TakeO P ops (some none) (WPM P ops H Q r) e w)
  | .take false i r, e, w => withOp ops i (TakeO P ops H (WPM P ops H Q r) e w)
  | .act i r, e, w => DoAt P ops H none i (WPM P ops H Q r) e w
  | .bar i r, e, w => DoB P ops i (WPM P ops H Q r) e w
  | .split i r j s, e, w => DoAt P ops H none i (WPM P ops H Q r) e w ∧ DoAt P ops H none j (WPM P ops H Q s) e w
section
variable {P : Program} {ops : Array Oper} {n : Nat} {Q : Post} {sd : List Nat}
theorem wpM_of_plan {H : Hold} (hsel : Region.noSelect ops = true) (hd : dstsOk n ops = true) (hH : ∀ a b c, keeps H a b → keeps H b c → keeps H a c) :
    ∀ (pl : PM) (k : Nat) (listed : Array Bool) (w0 : World) (e : Env) (a : Act) (w : World), ptM pl k = true → Fr n e a → ClosedUp ops listed → ptOkM P ops sd pl listed = true → keeps H w0 w →
      WPM P ops H Q pl e w → wpM P ops (lift n Q) (keeps H) sd k listed w0 a w
  | .nil, k, listed, w0, e, a, w, hn, ha, _, hok, _, h => by
    obtain rfl : k = 0 := by simpa [ptM] using hn
    exact ⟨by simpa [ptOkM] using hok, e, ha, trivial, h⟩
  | .take s i r, 0, listed, w0, e, a, w, hn, ha, hc, hok, hk, h => by simp [ptM] at hn
  | .act i r, 0, listed, w0, e, a, w, hn, ha, hc, hok, hk, h => by simp [ptM] at hn
  | .bar i r, 0, listed, w0, e, a, w, hn, ha, hc, hok, hk, h => by simp [ptM] at hn
  | .split i r j s, 0, listed, w0, e, a, w, hn, ha, hc, hok, hk, h => by simp [ptM] at hn
  | .take s i r, k + 1, listed, w0, e, a, w, hn, ha, hc, hok, hk, h => by
    obtain ⟨o, ho, h⟩ : withOp ops i (TakeO P ops (if s = true then some none else H) (WPM P ops H Q r) e w) := by cases s <;> exact h
    have hn' : ptM r k = true := by simpa [ptM] using hn
    simp only [ptOkM, Bool.and_eq_true, beq_iff_eq] at hok
    obtain ⟨⟨⟨hs, hr⟩, hf⟩, hok⟩ := hok
    have hr' : i ∈ Region.ready .any ops listed := by simpa using hr
    have go : ∀ v, Gives P ops (Tol P (keeps H) sd o i w0 w) o v a → WPM P ops H Q r (updO e o.dst v) w →
        wpM P ops (lift n Q) (keeps H) sd (k + 1) listed w0 a w := fun v hg hw =>
      wpM_first ho (keeps_refl H) (Region.noSelect_spec hsel) lift_panic k listed w0 a w hc (Region.free_spec ho hf) hr' hg hk
        (wpM_of_plan hsel hd hH r k _ _ _ _ _ hn' (ha.put (dst_lt hd ho) v) (hc.set hr') hok hk hw)
    rcases guardE_cases h with ⟨hw, v, hv, hrest⟩ | ⟨hw, hrest⟩
    · refine go v (.inl ⟨wanted_of ha hd hw, fun w' hk2 => ?_⟩) hrest
      rw [ha.eval]
      rcases hk2 with hp | ⟨h1, h2⟩ | ⟨h1, h2⟩
      · rw [pure_tk (H' := some (some [])) (w' := w) hp] at hv
        exact tk_sound hv fun b hb => by simp [readsB] at hb
      · exact tk_sound hv fun b _ => by rw [h2]
      · rw [h1] at hs
        subst hs
        exact tk_sound hv fun b hb => (keeps_reads h2 hb).trans (keeps_reads hk hb).symm
    · exact go undef (.inr ⟨unwanted_of ha hd hw, rfl⟩) hrest
  | .act i r, k + 1, listed, w0, e, a, w, hn, ha, hc, hok, hk, h => by
    have hn' : ptM r k = true := by simpa [ptM] using hn
    simp only [ptOkM, Bool.and_eq_true, decide_eq_true_eq] at hok
    obtain ⟨⟨hr, hl⟩, hok⟩ := hok
    have hr' : i ∈ Region.ready .any ops listed := by rw [hr]; simp
    refine ⟨fun h0 => (by rw [h0] at hr; cases hr), fun j hj => ?_⟩
    obtain rfl : j = i := by rw [hr] at hj; simpa using hj
    refine wpOp_of_doAt ha hd h fun e' a' w' ha' hkk hrest => ?_
    have hk1 := hH _ _ _ hk (hkk.resolve_left (by simp))
    exact .inr ⟨.inl hl, hk1, wpM_of_plan hsel hd hH r k _ _ _ _ _ hn' ha' (hc.set hr') hok hk1 hrest⟩
  | .bar i r, k + 1, listed, w0, e, a, w, hn, ha, hc, hok, hk, h => by
    have hn' : ptM r k = true := by simpa [ptM] using hn
    simp only [ptOkM, Bool.and_eq_true, decide_eq_true_eq] at hok
    obtain ⟨⟨hr, hb⟩, hok⟩ := hok
    have hr' : i ∈ Region.ready .any ops listed := by rw [hr]; simp
    refine ⟨fun h0 => (by rw [h0] at hr; cases hr), fun j hj => ?_⟩
    obtain rfl : j = i := by rw [hr] at hj; simpa using hj
    refine wpOp_of_doB ha hd h fun e' a' w' ha' hrest => .inl ⟨hb, ?_⟩
    exact wpM_of_plan hsel hd hH r k _ _ _ _ _ hn' ha' (hc.set hr') hok (keeps_refl _ _) hrest
  | .split i r j s, k + 1, listed, w0, e, a, w, hn, ha, hc, hok, hk, h => by
    have hn' : ptM r k = true ∧ ptM s k = true := by simpa [ptM] using hn
    simp only [ptOkM, Bool.and_eq_true, decide_eq_true_eq] at hok
    obtain ⟨⟨⟨⟨hr, hl1⟩, hl2⟩, hok1⟩, hok2⟩ := hok
    have hi' : i ∈ Region.ready .any ops listed := by rw [hr]; simp
    have hj' : j ∈ Region.ready .any ops listed := by rw [hr]; simp
    refine ⟨fun h0 => (by rw [h0] at hr; cases hr), fun m hm => ?_⟩
    rw [hr] at hm
    rcases List.mem_cons.1 hm with rfl | hm
    · refine wpOp_of_doAt ha hd h.1 fun e' a' w' ha' hkk hrest => ?_
      have hk1 := hH _ _ _ hk (hkk.resolve_left (by simp))
      exact .inr ⟨.inl hl1, hk1, wpM_of_plan hsel hd hH r k _ _ _ _ _ hn'.1 ha' (hc.set hi') hok1 hk1 hrest⟩
    · obtain rfl : m = j := by simpa using hm
      refine wpOp_of_doAt ha hd h.2 fun e' a' w' ha' hkk hrest => ?_
      have hk1 := hH _ _ _ hk (hkk.resolve_left (by simp))
      exact .inr ⟨.inl hl2, hk1, wpM_of_plan hsel hd hH s k _ _ _ _ _ hn'.2 ha' (hc.set hj') hok2 hk1 hrest⟩
/-- A region that draws its order, by a plan with branches; barriers concern the heap alone, and what is linked with all that write needs no hold. -/
theorem W_semi (H : Hold) (pl : PM) {id : Nat} {e : Env} {w : World} (hm : P.follows .mixedOrders = true)
    (hok : regOkM P n ops pl = true) (h : WPM P ops H Q pl e w.drew) : W P n (.region id ops true) Q e w := by
  intro a ha
  simp only [regOkM, Bool.and_eq_true] at hok
  obtain ⟨⟨⟨hsel, hd⟩, hlen⟩, hok⟩ := hok
  refine wp_region_any hm ?_
  have hc : ClosedUp ops (Array.replicate ops.size false) := ⟨by simp, fun j oj _ hl => by
    rcases Nat.lt_or_ge j ops.size with h | h
    · simp [h] at hl
    · simp [h] at hl⟩
  exact wpAny_of_wpM _ _ _ _ _ (wpM_of_plan hsel hd (keeps_trans H) pl _ _ w.drew e a w.drew hlen ha hc hok (keeps_refl _ _) h)
end
theorem rgm :
    (∀ {P : Program} {ops : Array Oper} {H : Hold} {Q : Post} {e : Env} {w : World}, WPM P ops H Q .nil e w = Q Exit.normal e w) ∧
    (∀ {P : Program} {ops : Array Oper} {H : Hold} {Q : Post} {e : Env} {w : World} (i : Nat) (r : PM), WPM P ops H Q (.take true i r) e w = withOp ops i (TakeO P ops (some none) (WPM P ops H Q r) e w)) ∧
    (∀ {P : Program} {ops : Array Oper} {H : Hold} {Q : Post} {e : Env} {w : World} (i : Nat) (r : PM), WPM P ops H Q (.take false i r) e w = withOp ops i (TakeO P ops H (WPM P ops H Q r) e w)) ∧
    (∀ {P : Program} {ops : Array Oper} {H : Hold} {Q : Post} {e : Env} {w : World} (i : Nat) (r : PM), WPM P ops H Q (.act i r) e w = DoAt P ops H none i (WPM P ops H Q r) e w) ∧
    (∀ {P : Program} {ops : Array Oper} {H : Hold} {Q : Post} {e : Env} {w : World} (i : Nat) (r : PM), WPM P ops H Q (.bar i r) e w = DoB P ops i (WPM P ops H Q r) e w) ∧
    (∀ {P : Program} {ops : Array Oper} {H : Hold} {Q : Post} {e : Env} {w : World} (i j : Nat) (r s : PM), WPM P ops H Q (.split i r j s) e w = (DoAt P ops H none i (WPM P ops H Q r) e w ∧ DoAt P ops H none j (WPM P ops H Q s) e w)) :=
  ⟨id (Eq.trans rfl rfl), fun _ _ => id (Eq.trans rfl rfl), fun _ _ => id (Eq.trans rfl rfl), fun _ _ => id (Eq.trans rfl rfl), fun _ _ => id (Eq.trans rfl rfl), fun _ _ _ _ => id (Eq.trans rfl rfl)⟩
end Go.Proofs.Ytjaolgehpnmieaa
/-
  A slice that a cell holds: what appends, insertions, removals and settings leave of it. For whatever program. No condition.
-/
set_option linter.unusedSimpArgs false
set_option linter.unusedVariables false
namespace Go.Proofs.Ytjaolgehpnmieaa
open Go
/-- Pointers to blocks as elements. -/
def Ep : Enc Nat where
  cel b := [ptr b]
  sz := 1
  len _ := rfl
  one b v hv := by simp at hv; subst hv; rfl
  pos := by decide
theorem flat_Ep (l : List Nat) : flat Ep l = l.map ptr := by
  induction l with
  | nil => rfl
  | cons x l ih => rw [flat_cons, ih]; rfl
section
variable {α : Type} {E : Enc α}
structure SE (E : Enc α) (w : World) (hb ho : Nat) (ks : List α) (bi oi cap : Nat) : Prop where
  hd : rd w hb ho = some (.slice (some ⟨bi, oi, none⟩) ks.length cap)
  row : Row w bi oi (flat E ks)
  wi : wok w bi (oi + cap * E.sz)
  le : ks.length ≤ cap
  hok : wok w hb (ho + 1)
  ne : bi ≠ hb
/-- The slice's own cells: the one that holds it, and its room. -/
def seF (E : Enc α) (hb ho bi oi cap : Nat) : Nat → Nat → Prop := fun y o => (y = hb ∧ o = ho) ∨ rng bi oi (cap * E.sz) y o
theorem SE.ext {w w' : World} {G : Nat → Nat → Prop} {hb ho bi oi cap : Nat} {ks : List α} (h : SE E w hb ho ks bi oi cap) (x : Ext G w w') (hG : ∀ y o, seF E hb ho bi oi cap y o → ¬ G y o) : SE E w' hb ho ks bi oi cap :=
  ⟨x.rd h.hd (hG _ _ (.inl ⟨rfl, rfl⟩)), x.row h.row fun i hi => hG _ _ (.inr ⟨rfl, by omega, by rw [flat_length] at hi; have := Nat.mul_le_mul_right E.sz h.le; omega⟩), x.wok h.wi, h.le, x.wok h.hok, h.ne⟩
theorem SE.ext0 {w w' : World} {hb ho bi oi cap : Nat} {ks : List α} (h : SE E w hb ho ks bi oi cap) (x : Ext noF w w') : SE E w' hb ho ks bi oi cap := h.ext x fun _ _ _ g => g
theorem SE.lt {w : World} {hb ho bi oi cap : Nat} {ks : List α} (h : SE E w hb ho ks bi oi cap) : hb < w.heap.size ∧ bi < w.heap.size := ⟨wok_lt h.hok, wok_lt h.wi⟩
theorem SE.slV {w : World} {hb ho bi oi cap : Nat} {ks : List α} (h : SE E w hb ho ks bi oi cap) : SlV w E.sz (.slice (some ⟨bi, oi, none⟩) ks.length cap) ks.length (flat E ks) :=
  ⟨flat_length _ _, .inr ⟨bi, oi, cap, rfl, h.le, h.row, h.wi.R (Nat.le_refl _)⟩⟩
/-- An append, whose slice is stored again. -/
theorem SE.app {w w1 w2 : World} {hb ho bi oi cap m : Nat} {ks ls : List α} {v' : Value} (h : SE E w hb ho ks bi oi cap) (hm : ls.length = m) (a : AppRes w E.sz (.slice (some ⟨bi, oi, none⟩) ks.length cap) ks.length m (flat E ks) (flat E ls) v' w1)
    (x : Ext (rng hb ho 1) w1 w2) (r : rd w2 hb ho = some v') :
    ∃ bi' oi' cap', v' = .slice (some ⟨bi', oi', none⟩) (ks.length + m) cap' ∧ SE E w2 hb ho (ks ++ ls) bi' oi' cap' ∧ Ext (seF E hb ho bi oi cap) w w2 ∧ ((bi' = bi ∧ oi' = oi ∧ cap' = cap) ∨ (bi' = w.heap.size ∧ w.heap.size < w2.heap.size)) := by
  subst hm
  obtain ⟨hs, hc⟩ := a
  have hbl := wok_lt h.hok
  have hbil := wok_lt h.wi
  have hne := h.ne
  have hlen : (ks ++ ls).length = ks.length + ls.length := List.length_append
  rcases hc with ⟨_, _, h3⟩ | ⟨b0, o0, cap0, h1, h2, h3, h4, h5⟩ | ⟨cap', h1, h2, h3, h4⟩
  · cases h3
  · simp only [Value.slice.injEq, Option.some.injEq, Addr.mk.injEq, true_and, and_true] at h1
    obtain ⟨⟨rfl, rfl⟩, rfl⟩ := h1
    subst h2
    have hw1 := h3.wok h.wi
    have hr : Row w1 bi oi (flat E (ks ++ ls)) := by
      rw [flat_append]
      rcases hs.2 with ⟨h, _⟩ | ⟨b1, o1, c1, h1, hle, hr, hw⟩
      · cases h
      · simp only [Value.slice.injEq, Option.some.injEq, Addr.mk.injEq, true_and, and_true] at h1
        obtain ⟨⟨rfl, rfl⟩, rfl⟩ := h1
        exact hr
    refine ⟨bi, oi, cap, rfl, ⟨by rw [r, hlen], x.row hr fun i _ g => by simp only [rng] at g; omega, x.wok hw1, by omega, x.wok (h3.wok h.hok), hne⟩, h3.trans x (fun y o g => .inr ?_) fun y o _ g => .inl ?_, .inl ⟨rfl, rfl, rfl⟩⟩
    · have e1 : (ks.length + ls.length) * E.sz = ks.length * E.sz + ls.length * E.sz := Nat.add_mul _ _ _
      have e2 := Nat.mul_le_mul_right E.sz h5
      simp only [rng] at g ⊢
      omega
    · simp only [rng] at g; omega
  · subst h1
    have hr : Row w1 w.heap.size 0 (flat E (ks ++ ls)) ∧ ks.length + ls.length ≤ cap' := by
      rw [flat_append]
      rcases hs.2 with ⟨h, _⟩ | ⟨b1, o1, c1, h1, hle, hr, hw⟩
      · cases h
      · simp only [Value.slice.injEq, Option.some.injEq, Addr.mk.injEq, true_and, and_true] at h1
        obtain ⟨⟨rfl, rfl⟩, rfl⟩ := h1
        exact ⟨hr, hle⟩
    have s2 := x.size
    refine ⟨_, 0, cap', rfl, ⟨by rw [r, hlen], x.row hr.1 fun i _ g => by simp only [rng] at g; omega, by rw [Nat.zero_add]; exact x.wok h4, by omega, x.wok (h2.wok h.hok), by omega⟩, h2.trans x (fun y o g => g.elim) fun y o _ g => .inl ?_, .inr ⟨rfl, by omega⟩⟩
    simp only [rng] at g; omega
/-- One element, put ahead of all others: an append of something, a copy one place on, a store. -/
theorem SE.ins0 {w w1 w2 : World} {hb ho bi oi cap o1 : Nat} {ks : List α} {z x : α} (h : SE E w hb ho (ks ++ [z]) bi oi cap)
    (x1 : Ext (rng bi o1 (ks.length * E.sz)) w w1) (r1 : Row w1 bi o1 (flat E ks)) (ho1 : 0 < ks.length → o1 = oi + E.sz) (x2 : Ext (rng bi oi E.sz) w1 w2) (r2 : Row w2 bi oi (E.cel x)) :
    SE E w2 hb ho (x :: ks) bi oi cap ∧ Ext (seF E hb ho bi oi cap) w w2 := by
  have hne := h.ne
  have hle := h.le
  rw [List.length_append, List.length_singleton] at hle
  have hcap := Nat.mul_le_mul_right E.sz hle
  have e1 : (ks.length + 1) * E.sz = ks.length * E.sz + E.sz := by rw [Nat.add_mul, Nat.one_mul]
  have hk0 : ks.length = 0 → ks.length * E.sz = 0 := fun e => by rw [e, Nat.zero_mul]
  have X1 : Ext (seF E hb ho bi oi cap) w w1 := x1.mono fun y o _ g => .inr (by
    simp only [rng] at g ⊢
    by_cases hk : 0 < ks.length
    · have := ho1 hk; omega
    · have := hk0 (by omega); omega)
  have X : Ext (seF E hb ho bi oi cap) w w2 := X1.tr (x2.mono fun y o _ g => .inr (by simp only [rng] at g ⊢; omega))
  refine ⟨⟨?_, ?_, X.wok h.wi, ?_, X.wok h.hok, hne⟩, X⟩
  · have := h.hd
    rw [List.length_append, List.length_singleton] at this
    rw [List.length_cons]
    refine x2.rd (x1.rd this ?_) ?_
    · simp only [rng]; omega
    · simp only [rng]; omega
  · rw [flat_cons]
    refine Row.append.2 ⟨r2, ?_⟩
    rw [E.len]
    by_cases hk : 0 < ks.length
    · rw [← ho1 hk]
      exact x2.row r1 fun i hi g => by have := ho1 hk; simp only [rng] at g; omega
    · have : ks = [] := List.eq_nil_of_length_eq_zero (by omega)
      rw [this]; exact Row.nil _ _ _
  · rw [List.length_cons]; exact hle
/-- One element is taken out: a copy one place back, something in the last place, the slice shortened. -/
theorem SE.erase {w w1 w2 w3 : World} {hb ho bi oi cap i : Nat} {ks : List α} (h : SE E w hb ho ks bi oi cap) (hi : i < ks.length)
    (x1 : Ext (rng bi (oi + i * E.sz) ((ks.length - 1 - i) * E.sz)) w w1) (r1 : Row w1 bi (oi + i * E.sz) (flat E (ks.drop (i + 1)))) (x2 : Ext (rng bi (oi + (ks.length - 1) * E.sz) E.sz) w1 w2)
    (x3 : Ext (rng hb ho 1) w2 w3) (r3 : rd w3 hb ho = some (.slice (some ⟨bi, oi, none⟩) (ks.length - 1 : Nat) cap)) :
    SE E w3 hb ho (ks.eraseIdx i) bi oi cap ∧ Ext (seF E hb ho bi oi cap) w w3 := by
  have hne := h.ne
  have hle := h.le
  have hcap := Nat.mul_le_mul_right E.sz hle
  have e1 : (ks.length - 1) * E.sz = ks.length * E.sz - E.sz := by rw [Nat.sub_mul, Nat.one_mul]
  have e2 : (ks.length - 1 - i) * E.sz = (ks.length - 1) * E.sz - i * E.sz := Nat.sub_mul _ _ _
  have e3 : (i + 1) * E.sz ≤ ks.length * E.sz := Nat.mul_le_mul_right _ hi
  have e4 : (i + 1) * E.sz = i * E.sz + E.sz := by rw [Nat.add_mul, Nat.one_mul]
  have hl : (ks.eraseIdx i).length = ks.length - 1 := by rw [List.length_eraseIdx, if_pos hi]
  have X : Ext (seF E hb ho bi oi cap) w w3 := ((x1.mono fun y o _ g => .inr (by simp only [rng] at g ⊢; omega)).tr (x2.mono fun y o _ g => .inr (by simp only [rng] at g ⊢; omega))).tr (x3.mono fun y o _ g => .inl (by simp only [rng] at g; omega))
  refine ⟨⟨by rw [hl]; exact r3, ?_, X.wok h.wi, by omega, X.wok h.hok, hne⟩, X⟩
  rw [List.eraseIdx_eq_take_drop_succ, flat_append]
  have hlt : (flat E (ks.take i)).length = i * E.sz := by rw [flat_length, List.length_take]; congr 1; omega
  have hld : (flat E (ks.drop (i + 1))).length = ks.length * E.sz - (i + 1) * E.sz := by rw [flat_length, List.length_drop, Nat.sub_mul]
  refine Row.append.2 ⟨?_, ?_⟩
  · have h0 := h.row.take (i * E.sz)
    rw [flat_take] at h0
    refine x3.row (x2.row (x1.row h0 fun j hj g => ?_) fun j hj g => ?_) fun j hj g => ?_
    · rw [hlt] at hj; simp only [rng] at g; omega
    · rw [hlt] at hj; simp only [rng] at g; omega
    · simp only [rng] at g; omega
  · rw [hlt]
    refine x3.row (x2.row r1 fun j hj g => ?_) fun j hj g => ?_
    · rw [hld] at hj; simp only [rng] at g; omega
    · simp only [rng] at g; omega
/-- The last element is taken away. -/
theorem SE.pop {w w2 w3 : World} {hb ho bi oi cap : Nat} {ks : List α} (h : SE E w hb ho ks bi oi cap) (hi : 0 < ks.length)
    (x2 : Ext (rng bi (oi + (ks.length - 1) * E.sz) E.sz) w w2) (x3 : Ext (rng hb ho 1) w2 w3) (r3 : rd w3 hb ho = some (.slice (some ⟨bi, oi, none⟩) (ks.length - 1 : Nat) cap)) :
    SE E w3 hb ho ks.dropLast bi oi cap ∧ Ext (seF E hb ho bi oi cap) w w3 := by
  have hd : ks.drop (ks.length - 1 + 1) = [] := List.drop_eq_nil_of_le (by omega)
  have := h.erase (i := ks.length - 1) (w1 := w) (by omega) (Ext.refl _ _) (by rw [hd]; exact Row.nil _ _ _) x2 x3 r3
  have he : ks.eraseIdx (ks.length - 1) = ks.dropLast := by rw [List.eraseIdx_eq_take_drop_succ, hd, List.append_nil, List.dropLast_eq_take]
  rw [he] at this
  exact this
/-- One element is set. -/
theorem SE.set {w w' : World} {hb ho bi oi cap i : Nat} {ks : List α} {x : α} (h : SE E w hb ho ks bi oi cap) (hi : i < ks.length) (X : Ext (rng bi (oi + i * E.sz) E.sz) w w') (r : Row w' bi (oi + i * E.sz) (E.cel x)) :
    SE E w' hb ho (ks.set i x) bi oi cap ∧ Ext (seF E hb ho bi oi cap) w w' := by
  have hne := h.ne
  have hle := h.le
  have hcap := Nat.mul_le_mul_right E.sz hle
  have e3 : (i + 1) * E.sz ≤ ks.length * E.sz := Nat.mul_le_mul_right _ hi
  have e4 : (i + 1) * E.sz = i * E.sz + E.sz := by rw [Nat.add_mul, Nat.one_mul]
  have hrow : Row w' bi oi (flat E (ks.set i x)) := by
    rw [List.set_eq_take_append_cons_drop, if_pos hi, flat_append, flat_cons]
    have hl : (flat E (ks.take i)).length = i * E.sz := by rw [flat_length, List.length_take]; congr 1; omega
    refine Row.append.2 ⟨?_, Row.append.2 ⟨by rw [hl]; exact r, ?_⟩⟩
    · rw [← flat_take]
      exact X.row (h.row.take _) fun j hj g => by rw [flat_take, hl] at hj; simp only [rng] at g; omega
    · rw [hl, E.len, ← flat_drop]
      have h1 := h.row.drop ((i + 1) * E.sz)
      rw [e4, ← Nat.add_assoc] at h1
      rw [e4]
      exact X.row h1 fun j hj g => by simp only [rng] at g; omega
  refine ⟨⟨by rw [List.length_set]; exact X.rd h.hd (by simp only [rng]; omega), hrow, X.wok h.wi, by rw [List.length_set]; exact hle, X.wok h.hok, hne⟩, X.mono fun y o _ g => .inr (by simp only [rng] at g ⊢; omega)⟩
end
end Go.Proofs.Ytjaolgehpnmieaa
/-
  Several things in memory that lie apart; one of them is changed. For items of whatever make. No condition.
-/
set_option linter.unusedSimpArgs false
set_option linter.unusedVariables false
namespace Go.Proofs.Ytjaolgehpnmieaa
open Go
/-- A thing: what it says of a world, the cells it takes, the block of its row. -/
structure Ob where
  p : World → (Nat → Nat → Prop) → Nat → Prop
  loc : ∀ {w w' : World} {F G : Nat → Nat → Prop} {K : Nat}, p w F K → Ext G w w' → (∀ y o, F y o → ¬ G y o) → p w' F K
  lt : ∀ {w : World} {F : Nat → Nat → Prop} {K : Nat}, p w F K → (∀ y o, F y o → y < w.heap.size) ∧ K < w.heap.size
/-- Things that lie apart; the rows of two things whose places are three apart lie in different blocks. -/
structure St (w0 : World) (G : Nat → Nat → Prop) (w : World) (P : List Ob) (F : Nat → Nat → Nat → Prop) (K : Nat → Nat) : Prop where
  o : ∀ (i : Nat) (A : Ob), P[i]? = some A → A.p w (F i) (K i)
  d : ∀ i j, i < P.length → j < P.length → i ≠ j → ∀ y o, F i y o → ¬ F j y o
  s : ∀ i, i < P.length → ∀ y o, F i y o → G y o ∨ w0.heap.size ≤ y
  r : ∀ i, i + 3 < P.length → K i ≠ K (i + 3)
  x : Ext G w0 w
/-- The things P stand in w, apart; since w0 nothing else has changed, and they take no other old cells than G's. -/
def Ss (w0 : World) (G : Nat → Nat → Prop) (w : World) (P : List Ob) : Prop := ∃ F K, St w0 G w P F K
theorem Ss.x {w0 w : World} {G : Nat → Nat → Prop} {P : List Ob} (s : Ss w0 G w P) : Ext G w0 w := s.elim fun _ h => h.elim fun _ h => h.x
theorem St.step {w0 w w' : World} {G : Nat → Nat → Prop} {P : List Ob} {F : Nat → Nat → Nat → Prop} {K : Nat → Nat} (s : St w0 G w P F K) {i : Nat} {A : Ob} (hi : P[i]? = some A) (B : Ob) {F' : Nat → Nat → Prop} {K' : Nat}
    (x : Ext (F i) w w') (hB : B.p w' F' K') (hF : ∀ y o, F' y o → F i y o ∨ w.heap.size ≤ y) (hK : K' = K i ∨ w.heap.size ≤ K') : Ss w0 G w' (P.set i B) := by
  have hil := (List.getElem?_eq_some_iff.1 hi).1
  have hlt : ∀ j, j < P.length → (∀ y o, F j y o → y < w.heap.size) ∧ K j < w.heap.size := fun j hj => (P[j]).lt (s.o j _ (List.getElem?_eq_getElem hj))
  refine ⟨fun j => if j = i then F' else F j, fun j => if j = i then K' else K j, ⟨fun j C hj => ?_, fun j k hj hk hne y o g h => ?_, fun j hj y o g => ?_, fun j hj => ?_, s.x.trans x (fun _ _ g => g) fun y o hy g => ?_⟩⟩
  · by_cases hji : j = i
    · subst hji
      rw [if_pos rfl, if_pos rfl]
      rw [List.getElem?_set_self hil] at hj
      cases hj
      exact hB
    · rw [if_neg hji, if_neg hji]
      rw [List.getElem?_set_ne (Ne.symm hji)] at hj
      have hjl := (List.getElem?_eq_some_iff.1 hj).1
      exact C.loc (s.o j C hj) x (s.d j i hjl hil hji)
  · rw [List.length_set] at hj hk
    by_cases hji : j = i
    · subst hji
      have hki : k ≠ j := Ne.symm hne
      rw [if_pos rfl] at g
      rw [if_neg hki] at h
      rcases hF y o g with g | g
      · exact s.d j k hj hk hne y o g h
      · have := (hlt k hk).1 y o h; omega
    · rw [if_neg hji] at g
      by_cases hki : k = i
      · subst hki
        rw [if_pos rfl] at h
        rcases hF y o h with h | h
        · exact s.d j k hj hk hne y o g h
        · have := (hlt j hj).1 y o g; omega
      · rw [if_neg hki] at h
        exact s.d j k hj hk hne y o g h
  · rw [List.length_set] at hj
    by_cases hji : j = i
    · subst hji
      rw [if_pos rfl] at g
      rcases hF y o g with g | g
      · exact s.s j hj y o g
      · have := s.x.size; exact .inr (by omega)
    · rw [if_neg hji] at g
      exact s.s j hj y o g
  · rw [List.length_set] at hj
    have h1 := s.r j hj
    have h2 := (hlt j (by omega)).2
    have h3 := (hlt (j + 3) hj).2
    by_cases hji : j = i
    · subst hji
      rw [if_pos rfl, if_neg (by omega)]
      omega
    · rw [if_neg hji]
      by_cases hki : j + 3 = i
      · subst hki
        rw [if_pos rfl]; omega
      · rw [if_neg hki]; exact h1
  · rcases s.s i hil y o g with g | g
    · exact g
    · omega
/-- A run that changes nothing old. -/
theorem Ss.ext0 {w0 w w' : World} {G : Nat → Nat → Prop} {P : List Ob} (s : Ss w0 G w P) (x : Ext noF w w') : Ss w0 G w' P := by
  obtain ⟨F, K, s⟩ := s
  exact ⟨F, K, fun i A h => A.loc (s.o i A h) x fun _ _ _ g => g, s.d, s.s, s.r, s.x.trans x (fun _ _ g => g) fun _ _ _ g => g.elim⟩
section
variable {α : Type} {E : Enc α}
theorem Own.se {w : World} {b : Nat} {iso cnt : Int} {bi oi cap : Nat} {ks : List α} {ch : Value} (h : Own E w b iso cnt bi oi cap ks ch) : SE E w b 2 ks bi oi cap := ⟨h.h2, h.row, h.wi, h.le, h.wb.mono (by decide), h.ne⟩
theorem seF_own {b bi oi cap : Nat} {y o : Nat} (h : seF E b 2 bi oi cap y o) : ownF E b bi oi cap y o := by
  rcases h with ⟨h, _⟩ | h
  · exact .inl h
  · exact .inr h
theorem Own.step {w w' : World} {b : Nat} {iso cnt : Int} {bi oi cap bi' oi' cap' : Nat} {ks ks' : List α} {ch : Value} (h : Own E w b iso cnt bi oi cap ks ch) (s : SE E w' b 2 ks' bi' oi' cap') (x : Ext (seF E b 2 bi oi cap) w w') :
    Own E w' b iso cnt bi' oi' cap' ks' ch := by
  have hne := h.ne
  have hn : ∀ o, o ≠ 2 → ¬ seF E b 2 bi oi cap b o := fun o ho g => by
    rcases g with g | g
    · omega
    · exact hne g.1.symm
  exact ⟨x.rd h.h0 (hn _ (by decide)), x.rd h.h1 (hn _ (by decide)), s.hd, x.rd h.h3 (hn _ (by decide)), x.wok h.wb, s.row, s.wi, s.le, s.ne⟩
theorem Own.cnt' {w w' : World} {b : Nat} {iso cnt cnt' : Int} {bi oi cap : Nat} {ks : List α} {ch : Value} (h : Own E w b iso cnt bi oi cap ks ch) (x : Ext (rng b 1 1) w w') (r : rd w' b 1 = some (.int .i64 cnt')) :
    Own E w' b iso cnt' bi oi cap ks ch := by
  have hne := h.ne
  refine ⟨x.rd h.h0 ?_, r, x.rd h.h2 ?_, x.rd h.h3 ?_, x.wok h.wb, x.row h.row fun i _ g => ?_, x.wok h.wi, h.le, h.ne⟩
  · simp only [rng]; omega
  · simp only [rng]; omega
  · simp only [rng]; omega
  · exact hne g.1
/-- Pointers that may be nil as elements. -/
def Eo : Enc (Option Nat) where
  cel o := [.pointer (o.map fun b => ⟨b, 0, none⟩)]
  sz := 1
  len _ := rfl
  one o v hv := by simp at hv; subst hv; rfl
  pos := by decide
theorem Eo_sz : Eo.sz = 1 := id (Eq.trans rfl rfl)
theorem flat_Eo (l : List Nat) : flat Eo (l.map some) = l.map ptr := by
  induction l with
  | nil => rfl
  | cons x l ih => rw [List.map_cons, flat_cons, ih]; rfl
theorem Kids.se {w : World} {bc ba oa capc : Nat} {ps : List Nat} (h : Kids w bc ba oa capc ps) : SE Eo w bc 0 (ps.map some) ba oa capc :=
  ⟨by rw [List.length_map]; exact h.c0, by rw [flat_Eo]; exact h.row, by rw [Eo_sz, Nat.mul_one]; exact h.wa, by rw [List.length_map]; exact h.le, h.wc, h.ne⟩
theorem SE.kids {w : World} {bc ba oa capc : Nat} {ps : List Nat} (h : SE Eo w bc 0 (ps.map some) ba oa capc) : Kids w bc ba oa capc ps :=
  ⟨by have := h.hd; rw [List.length_map] at this; exact this, h.hok, by have := h.row; rw [flat_Eo] at this; exact this, by have := h.wi; rw [Eo_sz, Nat.mul_one] at this; exact this, by have := h.le; rw [List.length_map] at this; exact this, h.ne⟩
theorem seF_kid {bc ba oa capc : Nat} {y o : Nat} (h : seF Eo bc 0 ba oa capc y o) : kidF bc ba oa capc y o := by
  rcases h with ⟨h, _⟩ | h
  · exact .inl h
  · rw [Eo_sz, Nat.mul_one] at h; exact .inr h
/-- A node's own part; its items' room is no less than z. -/
def ndO (E : Enc α) (iso : Int) (z b : Nat) (cnt : Int) (ks : List α) (ch : Value) : Ob where
  p w F K := ∃ bi oi cap, Own E w b iso cnt bi oi cap ks ch ∧ z ≤ cap ∧ K = bi ∧ ∀ y o, F y o ↔ ownF E b bi oi cap y o
  loc := fun ⟨bi, oi, cap, h, hz, hK, hF⟩ x hd => ⟨bi, oi, cap, h.ext x fun y o g => hd y o ((hF y o).2 g), hz, hK, hF⟩
  lt := fun ⟨_, _, _, h, _, hK, hF⟩ => ⟨fun y o g => h.lt ((hF y o).1 g), hK ▸ wok_lt h.wi⟩
/-- A node's children: none, or a cell with a slice. -/
def kdO (ch : Value) (ps : List (Option Nat)) : Ob where
  p w F K := (ch = .pointer none ∧ ps = [] ∧ K < w.heap.size ∧ ∀ y o, ¬ F y o) ∨ ∃ bc ba oa capc, ch = ptr bc ∧ SE Eo w bc 0 ps ba oa capc ∧ K = ba ∧ ∀ y o, F y o ↔ kidF bc ba oa capc y o
  loc := fun h x hd => h.imp (fun ⟨h1, h2, h3, h4⟩ => ⟨h1, h2, Nat.lt_of_lt_of_le h3 x.size, h4⟩) fun ⟨bc, ba, oa, capc, h1, h, hK, hF⟩ => ⟨bc, ba, oa, capc, h1, h.ext x fun y o g => hd y o ((hF y o).2 (seF_kid g)), hK, hF⟩
  lt := fun h => by
    rcases h with ⟨_, _, hK, h⟩ | ⟨bc, ba, _, _, _, h, hK, hF⟩
    · exact ⟨fun y o g => (h y o g).elim, hK⟩
    · have := h.lt
      refine ⟨fun y o g => ?_, by omega⟩
      rcases (hF y o).1 g with g | g
      · omega
      · have := g.1; omega
theorem ownF_new {b bi oi cap bi' oi' cap' B : Nat} (h : (bi' = bi ∧ oi' = oi ∧ cap' = cap) ∨ B ≤ bi') {y o : Nat} (g : ownF E b bi' oi' cap' y o) : ownF E b bi oi cap y o ∨ B ≤ y := by
  rcases h with ⟨rfl, rfl, rfl⟩ | h
  · exact .inl g
  · rcases g with g | g
    · exact .inl (.inl g)
    · exact .inr (by have := g.1; omega)
theorem kidF_new {bc ba oa capc ba' oa' capc' B : Nat} (h : (ba' = ba ∧ oa' = oa ∧ capc' = capc) ∨ B ≤ ba') {y o : Nat} (g : kidF bc ba' oa' capc' y o) : kidF bc ba oa capc y o ∨ B ≤ y := by
  rcases h with ⟨rfl, rfl, rfl⟩ | h
  · exact .inl g
  · rcases g with g | g
    · exact .inl (.inl g)
    · exact .inr (by have := g.1; omega)
theorem Ss.nd {w0 w : World} {G : Nat → Nat → Prop} {P : List Ob} (s : Ss w0 G w P) (i : Nat) {iso : Int} {z b : Nat} {cnt : Int} {ks : List α} {ch : Value} (hi : P[i]? = some (ndO E iso z b cnt ks ch)) :
    ∃ bi oi cap, Own E w b iso cnt bi oi cap ks ch ∧
      (∀ {w' : World} {ks' : List α} {bi' oi' cap' : Nat}, SE E w' b 2 ks' bi' oi' cap' → Ext (seF E b 2 bi oi cap) w w' → ((bi' = bi ∧ oi' = oi ∧ cap' = cap) ∨ (w.heap.size ≤ bi' ∧ z ≤ cap')) → Ss w0 G w' (P.set i (ndO E iso z b cnt ks' ch))) ∧
      (∀ {w' : World} {cnt' : Int}, Ext (rng b 1 1) w w' → rd w' b 1 = some (.int .i64 cnt') → Ss w0 G w' (P.set i (ndO E iso z b cnt' ks ch))) := by
  obtain ⟨F, K, s⟩ := s
  obtain ⟨bi, oi, cap, h, hz, hK, hF⟩ := s.o i _ hi
  refine ⟨bi, oi, cap, h, fun {w' ks' bi' oi' cap'} s' x hb => s.step hi _ (x.mono fun y o _ g => (hF y o).2 (seF_own g)) ⟨bi', oi', cap', h.step s' x, by omega, rfl, fun _ _ => Iff.rfl⟩ (fun y o g => ?_) (by rw [hK]; exact hb.imp And.left And.left),
    fun {w' cnt'} x r => s.step hi _ (x.mono fun y o _ g => (hF y o).2 (.inl g.1)) ⟨bi, oi, cap, h.cnt' x r, hz, rfl, fun _ _ => Iff.rfl⟩ (fun y o g => .inl ((hF y o).2 g)) (.inl hK.symm)⟩
  rcases ownF_new (hb.imp id And.left) g with g | g
  · exact .inl ((hF y o).2 g)
  · exact .inr g
theorem Ss.kd {w0 w : World} {G : Nat → Nat → Prop} {P : List Ob} (s : Ss w0 G w P) (i : Nat) {bc : Nat} {ps : List (Option Nat)} (hi : P[i]? = some (kdO (ptr bc) ps)) :
    ∃ ba oa capc, SE Eo w bc 0 ps ba oa capc ∧
      (∀ {w' : World} {ps' : List (Option Nat)} {ba' oa' capc' : Nat}, SE Eo w' bc 0 ps' ba' oa' capc' → Ext (seF Eo bc 0 ba oa capc) w w' → ((ba' = ba ∧ oa' = oa ∧ capc' = capc) ∨ w.heap.size ≤ ba') → Ss w0 G w' (P.set i (kdO (ptr bc) ps'))) := by
  obtain ⟨F, K, s⟩ := s
  rcases s.o i _ hi with ⟨h, _⟩ | ⟨bc', ba, oa, capc, h1, h, hK, hF⟩
  · cases h
  · obtain rfl : bc = bc' := by simpa [ptr] using h1
    refine ⟨ba, oa, capc, h, fun {w' ps' ba' oa' capc'} s' x hb => s.step hi _ (x.mono fun y o _ g => (hF y o).2 (seF_kid g)) (.inr ⟨bc, ba', oa', capc', rfl, s', rfl, fun _ _ => Iff.rfl⟩) (fun y o g => ?_) (by rw [hK]; exact hb.imp And.left id)⟩
    rcases kidF_new hb g with g | g
    · exact .inl ((hF y o).2 g)
    · exact .inr g
end
/-! ### Steps of a slice in a cell -/
section
variable {α : Type} {E : Enc α}
/-- A copy of what lies behind place i, one place back. -/
theorem SE.down {w w1 : World} {hb ho bi oi cap i : Nat} {ks : List α} (h : SE E w hb ho ks bi oi cap) (hi : i < ks.length)
    (x1 : Ext (rng bi (oi + i * E.sz) ((ks.length - 1 - i) * E.sz)) w w1) (r1 : Row w1 bi (oi + i * E.sz) (flat E (ks.drop (i + 1)))) :
    ∃ z, SE E w1 hb ho (ks.eraseIdx i ++ [z]) bi oi cap ∧ Ext (seF E hb ho bi oi cap) w w1 := by
  obtain ⟨z, hz⟩ : ∃ z, ks.drop (ks.length - 1) = [z] := List.length_eq_one_iff.1 (by rw [List.length_drop]; omega)
  refine ⟨z, ?_⟩
  rw [← hz]
  have hne := h.ne
  have hle := h.le
  have hcap := Nat.mul_le_mul_right E.sz hle
  have e1 : (ks.length - 1) * E.sz = ks.length * E.sz - E.sz := by rw [Nat.sub_mul, Nat.one_mul]
  have e2 : (ks.length - 1 - i) * E.sz = (ks.length - 1) * E.sz - i * E.sz := Nat.sub_mul _ _ _
  have e3 : (i + 1) * E.sz ≤ ks.length * E.sz := Nat.mul_le_mul_right _ hi
  have e4 : (i + 1) * E.sz = i * E.sz + E.sz := by rw [Nat.add_mul, Nat.one_mul]
  have hl : (ks.eraseIdx i ++ ks.drop (ks.length - 1)).length = ks.length := by rw [List.length_append, List.length_eraseIdx, if_pos hi, List.length_drop]; omega
  have X : Ext (seF E hb ho bi oi cap) w w1 := x1.mono fun y o _ g => .inr (by simp only [rng] at g ⊢; omega)
  refine ⟨⟨by rw [hl]; exact x1.rd h.hd (by simp only [rng]; omega), ?_, X.wok h.wi, by omega, X.wok h.hok, hne⟩, X⟩
  rw [List.eraseIdx_eq_take_drop_succ, List.append_assoc, flat_append, flat_append]
  have hlt : (flat E (ks.take i)).length = i * E.sz := by rw [flat_length, List.length_take]; congr 1; omega
  have hld : (flat E (ks.drop (i + 1))).length = ks.length * E.sz - (i + 1) * E.sz := by rw [flat_length, List.length_drop, Nat.sub_mul]
  refine Row.append.2 ⟨?_, Row.append.2 ⟨?_, ?_⟩⟩
  · have h0 := h.row.take (i * E.sz)
    rw [flat_take] at h0
    refine x1.row h0 fun j hj g => ?_
    rw [hlt] at hj; simp only [rng] at g; omega
  · rw [hlt]; exact r1
  · rw [hlt, hld]
    have h0 := h.row.drop ((ks.length - 1) * E.sz)
    rw [flat_drop] at h0
    have ho : oi + i * E.sz + (ks.length * E.sz - (i + 1) * E.sz) = oi + (ks.length - 1) * E.sz := by omega
    rw [ho]
    refine x1.row h0 fun j hj g => ?_
    simp only [rng] at g; omega
/-- A copy of all, one place on. -/
theorem SE.up {w w1 : World} {hb ho bi oi cap o1 : Nat} {ks : List α} {z : α} (h : SE E w hb ho (ks ++ [z]) bi oi cap)
    (x1 : Ext (rng bi o1 (ks.length * E.sz)) w w1) (r1 : Row w1 bi o1 (flat E ks)) (ho1 : 0 < ks.length → o1 = oi + E.sz) :
    SE E w1 hb ho ((ks ++ [z]).take 1 ++ ks) bi oi cap ∧ Ext (seF E hb ho bi oi cap) w w1 := by
  have hne := h.ne
  have hle := h.le
  rw [List.length_append, List.length_singleton] at hle
  have hcap := Nat.mul_le_mul_right E.sz hle
  have e1 : (ks.length + 1) * E.sz = ks.length * E.sz + E.sz := by rw [Nat.add_mul, Nat.one_mul]
  have hk0 : ks.length = 0 → ks.length * E.sz = 0 := fun e => by rw [e, Nat.zero_mul]
  have X1 : Ext (seF E hb ho bi oi cap) w w1 := x1.mono fun y o _ g => .inr (by
    simp only [rng] at g ⊢
    by_cases hk : 0 < ks.length
    · have := ho1 hk; omega
    · have := hk0 (by omega); omega)
  have hl : ((ks ++ [z]).take 1 ++ ks).length = ks.length + 1 := by simp only [List.length_append, List.length_take, List.length_singleton]; omega
  have hl1 : (flat E ((ks ++ [z]).take 1)).length = E.sz := by rw [flat_length, List.length_take, List.length_append, List.length_singleton, Nat.min_eq_left (by omega), Nat.one_mul]
  refine ⟨⟨?_, ?_, X1.wok h.wi, by omega, X1.wok h.hok, hne⟩, X1⟩
  · have := h.hd
    rw [List.length_append, List.length_singleton] at this
    rw [hl]
    exact x1.rd this (by simp only [rng]; omega)
  · rw [flat_append]
    refine Row.append.2 ⟨?_, ?_⟩
    · have h0 := h.row.take (1 * E.sz)
      rw [flat_take] at h0
      refine x1.row h0 fun j hj g => ?_
      rw [hl1] at hj
      simp only [rng] at g
      by_cases hk : 0 < ks.length
      · have := ho1 hk; omega
      · have := hk0 (by omega); omega
    · rw [hl1]
      by_cases hk : 0 < ks.length
      · rw [← ho1 hk]; exact r1
      · have : ks = [] := List.eq_nil_of_length_eq_zero (by omega)
        rw [this]; exact Row.nil _ _ _
/-- The slice is shortened. -/
theorem SE.cut {w w1 : World} {hb ho bi oi cap : Nat} {ks : List α} {z : α} (h : SE E w hb ho (ks ++ [z]) bi oi cap) (x1 : Ext (rng hb ho 1) w w1) (r1 : rd w1 hb ho = some (.slice (some ⟨bi, oi, none⟩) ks.length cap)) :
    SE E w1 hb ho ks bi oi cap ∧ Ext (seF E hb ho bi oi cap) w w1 := by
  have hne := h.ne
  have hle := h.le
  rw [List.length_append, List.length_singleton] at hle
  have hr := h.row
  rw [flat_append] at hr
  exact ⟨⟨r1, x1.row (Row.append.1 hr).1 fun j _ g => by simp only [rng] at g; omega, x1.wok h.wi, by omega, x1.wok h.hok, hne⟩, x1.mono fun y o _ g => .inl (by simp only [rng] at g; omega)⟩
theorem set_last {A : List α} {z x : α} : (A ++ [z]).set A.length x = A ++ [x] := by simp
theorem set_first {A : List α} {z x : α} : ((A ++ [z]).take 1 ++ A).set 0 x = x :: A := by cases A <;> rfl
theorem SE.app' {w w1 : World} {hb ho bi oi cap m : Nat} {ks ls : List α} {v' : Value} (h : SE E w hb ho ks bi oi cap) (hm : ls.length = m) (a : AppRes w E.sz (.slice (some ⟨bi, oi, none⟩) ks.length cap) ks.length m (flat E ks) (flat E ls) v' w1) :
    ∃ bi' oi' cap', v' = .slice (some ⟨bi', oi', none⟩) (ks.length + m) cap' ∧ wok w1 hb (ho + 1) ∧ w.heap.size ≤ w1.heap.size ∧
      ∀ w2, Ext (rng hb ho 1) w1 w2 → rd w2 hb ho = some v' → SE E w2 hb ho (ks ++ ls) bi' oi' cap' ∧ Ext (seF E hb ho bi oi cap) w w2 ∧ ((bi' = bi ∧ oi' = oi ∧ cap' = cap) ∨ w.heap.size ≤ bi') := by
  have key : ∃ bi' oi' cap', v' = .slice (some ⟨bi', oi', none⟩) (ks.length + m) cap' ∧ wok w1 hb (ho + 1) ∧ w.heap.size ≤ w1.heap.size := by
    rcases a.2 with ⟨_, _, h3⟩ | ⟨b0, o0, cap0, h1, h2, h3, h4, h5⟩ | ⟨cap', h1, h2, h3, h4⟩
    · cases h3
    · exact ⟨_, _, _, h2, h3.wok h.hok, by omega⟩
    · exact ⟨_, _, _, h1, h2.wok h.hok, by omega⟩
  obtain ⟨bi', oi', cap', hv, hw, hs⟩ := key
  refine ⟨bi', oi', cap', hv, hw, hs, fun w2 x r => ?_⟩
  obtain ⟨bi2, oi2, cap2, hv2, h1, h2, h3⟩ := h.app hm a x r
  rw [hv] at hv2
  simp only [Value.slice.injEq, Option.some.injEq, Addr.mk.injEq, true_and, and_true] at hv2
  obtain ⟨⟨rfl, rfl⟩, rfl⟩ := hv2
  exact ⟨h1, h2, h3.imp id fun g => Nat.le_of_eq g.1.symm⟩
/-- The slice from place i on. -/
theorem SE.from {w : World} {hb ho bi oi cap : Nat} {ks : List α} (h : SE E w hb ho ks bi oi cap) {sz : Nat} (hsz : E.sz = sz) (i : Nat) (hi : i ≤ ks.length) :
    ∃ o1, slFrom bi oi sz i ks.length cap = .slice (some ⟨bi, o1, none⟩) (ks.length - i) (cap - i) ∧ (i < cap → o1 = oi + i * sz) ∧ SlV w sz (.slice (some ⟨bi, o1, none⟩) (ks.length - i) (cap - i)) (ks.length - i) (flat E (ks.drop i)) ∧ wok w bi (o1 + (ks.length - i) * sz) := by
  subst hsz
  have hle := h.le
  obtain ⟨o1, h1, h2, h3⟩ := slFrom_sl bi oi E.sz i ks.length cap
  have hl : (flat E (ks.drop i)).length = (ks.length - i) * E.sz := by rw [flat_length, List.length_drop]
  have e1 : (ks.length - i) * E.sz = ks.length * E.sz - i * E.sz := Nat.sub_mul _ _ _
  have e2 := Nat.mul_le_mul_right E.sz hle
  have e3 := Nat.mul_le_mul_right E.sz hi
  have e4 : (cap - i) * E.sz = cap * E.sz - i * E.sz := Nat.sub_mul _ _ _
  by_cases hc : cap = i
  · have ho := h3 hc
    have hi0 : ks.length - i = 0 := by omega
    have hd : ks.drop i = [] := List.drop_eq_nil_of_le (by omega)
    have e5 : (ks.length - i) * E.sz = 0 := by rw [hi0, Nat.zero_mul]
    refine ⟨o1, h1, fun g => by omega, ⟨by rw [hl], .inr ⟨bi, o1, cap - i, rfl, by omega, by rw [hd]; exact Row.nil _ _ _, (h.wi.mono ?_).R (Nat.le_refl _)⟩⟩, h.wi.mono ?_⟩
    · omega
    · omega
  · have ho := h2 hc
    have hr := h.row.drop (i * E.sz)
    rw [flat_drop, ← ho] at hr
    refine ⟨o1, h1, fun _ => ho, ⟨by rw [hl], .inr ⟨bi, o1, cap - i, rfl, by omega, hr, (h.wi.mono ?_).R (Nat.le_refl _)⟩⟩, h.wi.mono ?_⟩
    · omega
    · omega
theorem New.keep {w w' : World} {l : List Value} (n : New w w' l) (L : List Nat) (h : ∀ b ∈ L, b < w.heap.size) : keeps (some (some L)) w w' := keeps_on n.ext fun x hx => ⟨h x hx, fun _ g => g⟩
theorem SE.ptr_at {w : World} {bc ba oa capc j p : Nat} {ps : List (Option Nat)} (h : SE Eo w bc 0 ps ba oa capc) (hp : ps[j]? = some (some p)) : rd w ba (oa + j) = some (ptr p) := by
  have := (Row.cons.1 (row_at Eo h.row hp)).1
  rw [Eo_sz, Nat.mul_one] at this
  exact this
end
/-- As kd, and the array lies in no other thing's own blocks. -/
theorem Ss.kdx {w0 w : World} {G : Nat → Nat → Prop} {P : List Ob} (s : Ss w0 G w P) (i : Nat) {bc : Nat} {ps : List (Option Nat)} (hi : P[i]? = some (kdO (ptr bc) ps)) (h0 : 0 < ps.length) :
    ∃ ba oa capc, SE Eo w bc 0 ps ba oa capc ∧
      (∀ {w' : World} {ps' : List (Option Nat)} {ba' oa' capc' : Nat}, SE Eo w' bc 0 ps' ba' oa' capc' → Ext (seF Eo bc 0 ba oa capc) w w' → ((ba' = ba ∧ oa' = oa ∧ capc' = capc) ∨ w.heap.size ≤ ba') → Ss w0 G w' (P.set i (kdO (ptr bc) ps'))) ∧
      (∀ {α : Type} {E : Enc α} (j : Nat) {iso : Int} {z b : Nat} {cnt : Int} {ks : List α} {ch : Value}, j ≠ i → P[j]? = some (ndO E iso z b cnt ks ch) → b ≠ ba) ∧
      (∀ (j : Nat) {c : Nat} {qs : List (Option Nat)}, j ≠ i → P[j]? = some (kdO (ptr c) qs) → c ≠ ba) := by
  obtain ⟨F, K, s⟩ := s
  rcases s.o i _ hi with ⟨h, _⟩ | ⟨bc', ba, oa, capc, h1, h, hK, hF⟩
  · cases h
  · obtain rfl : bc = bc' := by simpa [ptr] using h1
    have hle := h.le
    have hil := (List.getElem?_eq_some_iff.1 hi).1
    have hin : F i ba oa := (hF _ _).2 (.inr ⟨rfl, Nat.le_refl _, by omega⟩)
    refine ⟨ba, oa, capc, h, fun {w' ps' ba' oa' capc'} s' x hb => s.step hi _ (x.mono fun y o _ g => (hF y o).2 (seF_kid g)) (.inr ⟨bc, ba', oa', capc', rfl, s', rfl, fun _ _ => Iff.rfl⟩) (fun y o g => ?_) (by rw [hK]; exact hb.imp And.left id), fun {α E} j {iso z b cnt ks ch} hji hj hb => ?_, fun j {c qs} hji hj hc => ?_⟩
    · rcases kidF_new hb g with g | g
      · exact .inl ((hF y o).2 g)
      · exact .inr g
    · obtain ⟨bi, oi, cap, _, _, _, hF'⟩ := s.o j _ hj
      exact s.d j i (List.getElem?_eq_some_iff.1 hj).1 hil hji ba oa ((hF' _ _).2 (.inl hb.symm)) hin
    · rcases s.o j _ hj with ⟨h, _⟩ | ⟨c', ba', oa', capc', h1, _, _, hF'⟩
      · cases h
      · obtain rfl : c = c' := by simpa [ptr] using h1
        exact s.d j i (List.getElem?_eq_some_iff.1 hj).1 hil hji ba oa ((hF' _ _).2 (.inl hc.symm)) hin
theorem app_keep {w w1 : World} {sz n m bi oi cap : Nat} {l l' : List Value} {v' : Value} (a : AppRes w sz (.slice (some ⟨bi, oi, none⟩) n cap) n m l l' v' w1) (L : List Nat) (h : ∀ x ∈ L, x < w.heap.size ∧ x ≠ bi) : keeps (some (some L)) w w1 := by
  rcases a.2 with ⟨_, rfl, _⟩ | ⟨b0, o0, cap0, h1, _, h3, _⟩ | ⟨_, _, h2, _⟩
  · exact keeps_refl _ _
  · simp only [Value.slice.injEq, Option.some.injEq, Addr.mk.injEq, true_and, and_true] at h1
    obtain ⟨⟨rfl, rfl⟩, rfl⟩ := h1
    exact keeps_on h3 fun x hx => ⟨(h x hx).1, fun o g => (h x hx).2 g.1⟩
  · exact keeps_on h2 fun x hx => ⟨(h x hx).1, fun _ g => g⟩
theorem W_keep5 {P : Program} {n : Nat} {c : Code} {Q : Post} {e : Env} {w : World} {v0 v1 v2 v6 v7 : Value} (h0 : e 0 = v0) (h1 : e 1 = v1) (h2 : e 2 = v2) (h6 : e 6 = v6) (h7 : e 7 = v7)
    (h : ∀ e' : Env, e' 0 = v0 → e' 1 = v1 → e' 2 = v2 → e' 6 = v6 → e' 7 = v7 → W P n c Q e' w) : W P n c Q e w := h e h0 h1 h2 h6 h7
end Go.Proofs.Ytjaolgehpnmieaa
/-
  What nodeRebalance's walks share. No condition.
-/
set_option linter.unusedSimpArgs false
set_option linter.unusedVariables false
namespace Go.Proofs.Ytjaolgehpnmieaa
open Go Go.Proofs
theorem rb_k (x : It) : bsV Try.prog 93 1 [(0, itV x)] = some (76, E.cel x) := by kernel_rfl
theorem rb_o (a : Option Addr) : bsV Try.prog 97 1 [(0, .pointer a)] = some (73, [.pointer a]) := by kernel_rfl
theorem rb_eli : elK Try.prog 93 = some (76, 1, 8, E.cel zIt) := by kernel_rfl
theorem rb_elk : elK Try.prog 97 = some (73, 1, 8, [.pointer none]) := by kernel_rfl
theorem rb_len (x : It) : (itV x).cells.toList.length = 1 := rfl
theorem rb_oc (x : It) : oc (itV x).cells.toList := E.one x
theorem on1_0 (a : Nat) : readsB (some (some [a])) a = true := by simp [readsB]
theorem on2_0 (a b : Nat) : readsB (some (some [a, b])) a = true := by simp [readsB]
theorem on2_1 (a b : Nat) : readsB (some (some [a, b])) b = true := by simp [readsB]
theorem on3_0 (a b c : Nat) : readsB (some (some [a, b, c])) a = true := by simp [readsB]
theorem on3_1 (a b c : Nat) : readsB (some (some [a, b, c])) b = true := by simp [readsB]
theorem on3_2 (a b c : Nat) : readsB (some (some [a, b, c])) c = true := by simp [readsB]
theorem on5_0 (a b c d e : Nat) : readsB (some (some [a, b, c, d, e])) a = true := by simp [readsB]
theorem on5_1 (a b c d e : Nat) : readsB (some (some [a, b, c, d, e])) b = true := by simp [readsB]
theorem on5_2 (a b c d e : Nat) : readsB (some (some [a, b, c, d, e])) c = true := by simp [readsB]
theorem on5_3 (a b c d e : Nat) : readsB (some (some [a, b, c, d, e])) d = true := by simp [readsB]
theorem on5_4 (a b c d e : Nat) : readsB (some (some [a, b, c, d, e])) e = true := by simp [readsB]
theorem lt1 {B a : Nat} (h : a < B) : ∀ x ∈ [a], x < B := by simp [h]
theorem lt2 {B a b : Nat} (h : a < B) (h2 : b < B) : ∀ x ∈ [a, b], x < B := by simp [h, h2]
theorem lt3 {B a b c : Nat} (h : a < B) (h2 : b < B) (h3 : c < B) : ∀ x ∈ [a, b, c], x < B := by simp [h, h2, h3]
theorem lt5 {B a b c d e : Nat} (h : a < B) (h2 : b < B) (h3 : c < B) (h4 : d < B) (h5 : e < B) : ∀ x ∈ [a, b, c, d, e], x < B := by simp [h, h2, h3, h4, h5]
theorem fkeep1 {B c a : Nat} (h : a < B ∧ a ≠ c) : ∀ x ∈ [a], x < B ∧ x ≠ c := by simp [h]
theorem fkeep2 {B c a b : Nat} (h : a < B ∧ a ≠ c) (h2 : b < B ∧ b ≠ c) : ∀ x ∈ [a, b], x < B ∧ x ≠ c := by simp [h, h2]
theorem ix0 (sz b o n : Nat) (h : 0 < n) : idxX (some sz) ⟨b, o, none⟩ n 0 = some (.pointer (some ⟨b, o, none⟩)) := by
  have := idxX_s sz b o n 0 h
  rwa [Nat.zero_mul, Nat.add_zero] at this
theorem W_st {P : Program} {n : Nat} {c : Code} {Q : Post} {e : Env} {w w0 : World} {G : Nat → Nat → Prop} {L : List Ob} {v0 v1 v2 v6 v7 : Value} (s : Ss w0 G w L) (h0 : e 0 = v0) (h1 : e 1 = v1) (h2 : e 2 = v2) (h6 : e 6 = v6) (h7 : e 7 = v7)
    (h : ∀ (e' : Env) (w' : World), Ss w0 G w' L → e' 0 = v0 → e' 1 = v1 → e' 2 = v2 → e' 6 = v6 → e' 7 = v7 → W P n c Q e' w') : W P n c Q e w := h e w s h0 h1 h2 h6 h7
end Go.Proofs.Ytjaolgehpnmieaa
