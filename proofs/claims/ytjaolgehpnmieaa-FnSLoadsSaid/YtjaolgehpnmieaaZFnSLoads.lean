/-
  FnSLoads: the whole statement: it returns true whatever the input is, and the arguments read as before. No condition.
-/
import Derived.Test.YtjaolgehpnmieaaZee1719b2
import Derived.Test.YtjaolgehpnmieaaZA
import Derived.Test.YtjaolgehpnmieaaZMSet
/-
  The item at an index, the last item. No condition.
-/
set_option linter.unusedSimpArgs false
set_option linter.unusedVariables false
namespace Go.Proofs.Ytjaolgehpnmieaa
open Go Go.Proofs
theorem vx_at2 {w : World} {b o : Nat} {xs : List It} (h : Row w b o (flat E xs)) {i : Nat} {x : It} (hi : xs[i]? = some x) : rd w b (o + i) = some (kV (κ x)) := val_at h hi
theorem ez_v {w : World} {m : Nat} (h : Row w m 4 (E.cel zIt)) : rd w m 4 = some (kV (κ zIt)) := row_cell h (j := 0) rfl
theorem ez_k {w : World} {m : Nat} (h : Row w m 4 (E.cel zIt)) : rd w m 4 = some (kV (κ zIt)) := row_cell h (j := 0) rfl
/-- The item at an index, and whether there is one. -/
def nth (l : List It) (i : Int) : Option It := if 0 ≤ i then l[i.toNat]? else none
def gotV (x : Option It) : Value := .tuple #[kV (κ (x.getD zIt)), vV (x.getD zIt), .bool x.isSome]
theorem Tr.pos {w : World} {iso : Int} {mn mx h lo b : Nat} {xs : List It} {F : Nat → Nat → Prop} (ht : Tr E iso mn mx h w lo b xs F) (hlo : 1 ≤ lo) : 0 < xs.length := by
  obtain ⟨bi, oi, cap, ks, ch, ho, h1, h2, _, h | ⟨h', bc, ba, oa, capc, cs, _, _, n⟩⟩ := ht.open
  · rw [h.2.2.1]; omega
  · rw [n.eq]; have := weave_length (cs.map Kid.xs) ks (by simpa using n.len); omega
theorem weave_getLast {cs : List (List It)} {ks : List It} {c : List It} (hl : cs.length = ks.length + 1) (hc : cs[ks.length]? = some c) (hne : 0 < c.length) : (weave cs ks).getLast? = c.getLast? := by
  have key : ∀ (n : Nat) (cs : List (List It)) (ks : List It), ks.length = n → cs.length = ks.length + 1 → cs[ks.length]? = some c → ∃ A, weave cs ks = A ++ c := by
    intro n
    induction n with
    | zero =>
      intro cs ks h0 hl hc
      obtain rfl : ks = [] := List.eq_nil_of_length_eq_zero h0
      match cs, hl with
      | [d], _ => simp at hc; subst hc; exact ⟨[], rfl⟩
    | succ n ih =>
      intro cs ks h0 hl hc
      match cs, ks, hl with
      | d :: cs, k :: ks, hl =>
        obtain ⟨A, hA⟩ := ih cs ks (by simpa using h0) (by simpa using hl) (by simpa using hc)
        exact ⟨d ++ k :: A, by rw [weave_cons, hA]; simp⟩
  obtain ⟨A, hA⟩ := key _ cs ks rfl hl hc
  rw [hA, List.getLast?_append]
  cases c with
  | nil => simp at hne
  | cons x c => simp [List.getLast?_cons]
theorem endQ_tct {P : Program} {R : Value → World → Prop} {e : Env} {w : World} {t u a T : Nat} {k : Option Nat} {ad : Addr} {x y v : Value} (ht : e t = x) (ha : e a = .pointer (some ad)) (hu : e u = y) (hl : ldK P T = some k) (hv : loadV w ad k = some v) (h : R (.tuple #[x, v, y]) w) :
    endQ P [.tmp t, .cell a T, .tmp u] R .ret e w := ⟨.tuple #[x, v, y], by simp [resAll, resOne, ht, hu, ha, hl, hv, resVal], h⟩
set_option maxHeartbeats 1000000 in
set_option maxRecDepth 8000 in
theorem maxMut_any (m d : Nat) (iso : Int) (xs : List It) (hd : xs ≠ [] → 2 ≤ d ∧ d ≤ 128) (F : Nat → Nat → Prop) (mu : Bool) (w0 : World) (hM : MapAt w0 m d iso xs F) :
    CallK Try.prog 67 #[ptr m, .bool mu] w0 fun v w' => v = gotV xs.getLast? ∧ Ext noF w0 w' := by
  refine calls_of_W [.tmp 4, .cell 5 74, .tmp 6] Try.func67 rfl Try.ntmps67 Try.results67 (by simp) fun e he => ?_
  have e0 : e 0 = ptr m := he 0 _ rfl
  have e1 : e 1 = .bool mu := he 1 _ rfl
  clear he
  refine W_sq fun K hK => (W_text [true, false, true] (by kernel_rfl) ?_); simp only [↓List.toList_toArray, ↓rgd, ↓rgf, ↓reduceIte, Nat.reduceEqDiff, rg, ow_67]
  refine do_alloc z_unit fun w nq => ⟨trivial, ?_⟩
  simp only [↓List.toList_toArray, ↓rgd, ↓rgf, ↓reduceIte, Nat.reduceEqDiff, rg, ow_67]
  refine hK _ _ ?_; clear hK K
  have X0 := nq.ext
  have sq := nq.size
  obtain ⟨q, hq⟩ : ∃ q, q = w0.heap.size := ⟨_, rfl⟩
  have wq : wok w q 0 := by rw [hq]; exact nq.wok
  replace hM := hM.ext X0
  rw [← hq]
  have hql : q < w.heap.size := by omega
  clear nq hq sq
  refine W_seq ?_
  rcases hM.root with ⟨rfl, hr⟩ | ⟨h, b, hr, ht⟩
  · have tm := wok.ty tyP hM.cfg.wok
    have M1 : readsB (some (some [m])) m = true := by simp [readsB]
    have hk := ez_k hM.cfg.ez
    refine W_sq fun K hK => (W_text [true, true, true, true, true] (by kernel_rfl) ?_); simp only [↓List.toList_toArray, ↓rgd, ↓rgf, ↓reduceIte, Nat.reduceEqDiff, rg, ow_67, e0, ptr_eq, hr]
    refine hK _ _ ?_; clear hK K
    refine W_true (by simp only [evt, evc, upd_eq, Nat.reduceEqDiff, ↓reduceIte, ntT, ntF] <;> rfl) ?_
    have hml := wok_lt hM.cfg.wok
    refine W_sq fun K hK => (W_draw (some (some [m])) none [(0, 0, 0), (0, 1, 0), (0, 2, 0), (0, 3, 0), (0, 4, 0), (0, 5, 0), (0, 6, 0), (0, 7, 0), (0, 8, 0), (0, 9, 0), (0, 10, 0), (1, 11, 0), (0, 12, 0)] mixed (by kernel_rfl) ?_); simp only [↓List.toList_toArray, ↓rgd, ↓rgf, ↓reduceIte, Nat.reduceEqDiff, rg, ow_67, e0, ptr_eq, hk, tm, M1]
    refine do_store (by simp only [evt, evc, upd_eq, Nat.reduceEqDiff, ↓reduceIte, ntT, ntF] <;> rfl) (by simp only [evt, evc, upd_eq, Nat.reduceEqDiff, ↓reduceIte, ntT, ntF] <;> rfl) sz_74 rfl wq (by decide) (fun _ h => by cases h) fun w2 x2 r2 s2 => ⟨.inr (keeps_on x2 fun y hy => by
      simp only [List.mem_cons, List.not_mem_nil, or_false] at hy
      subst hy
      exact ⟨by (try rw [sz_dr]); omega, fun o g => by simp only [rng] at g; omega⟩), ?_⟩
    simp only [↓List.toList_toArray, ↓rgd, ↓rgf, ↓reduceIte, Nat.reduceEqDiff, rg, ow_67]
    refine hK _ _ ?_; clear hK K
    refine W_ret ?_
    simp only [andThen_ret]
    exact endQ_tct (by simp only [upd_eq, Nat.reduceEqDiff, ↓reduceIte] <;> rfl) (by simp only [upd_eq, Nat.reduceEqDiff, ↓reduceIte] <;> rfl) (by simp only [upd_eq, Nat.reduceEqDiff, ↓reduceIte] <;> rfl) ld_74 ld_unit ⟨rfl, noF_of X0 x2.od fun y o _ k => by simp only [rng] at k; omega⟩
  · obtain ⟨hd, hd'⟩ := hd (by have := ht.pos (Nat.le_refl 1); intro e; rw [e] at this; simp at this)
    refine W_sq fun K hK => (W_text [true, true, true, true, true] (by kernel_rfl) ?_); simp only [↓List.toList_toArray, ↓rgd, ↓rgf, ↓reduceIte, Nat.reduceEqDiff, rg, ow_67, e0, ptr_eq, hr]
    refine hK _ _ ?_; clear hK K
    refine W_false (by simp only [evt, evc, upd_eq, Nat.reduceEqDiff, ↓reduceIte, ntT, ntF] <;> rfl) (W_skip ?_)
    show W _ _ _ _ _ _
    refine W_sq fun K hK => (W_text [true, true, true, true, true, false, true] (by kernel_rfl) ?_); simp only [↓List.toList_toArray, ↓rgd, ↓rgf, ↓reduceIte, Nat.reduceEqDiff, rg, ow_67, e0, e1, ptr_eq]
    refine do_call fn_62 (by simp only [evt, evc, upd_eq, Nat.reduceEqDiff, ↓reduceIte, maT, maC, maN, isnN, isnS] <;> rfl) (isoLoad_any m m 2 b mu iso w hM.cfg.iso hr ht.iso0.1) ?_
    rintro _ w1 ⟨rfl, r1⟩
    refine ⟨trivial, ?_⟩
    simp only [↓List.toList_toArray, ↓rgd, ↓rgf, ↓reduceIte, Nat.reduceEqDiff, rg, ow_67]
    refine hK _ _ ?_; clear hK K
    refine W_block (W_loop (fun mm e w' => ∃ (lo b : Nat) (ys : List It) (F : Nat → Nat → Prop), Tr E iso (d - 1) (2 * d - 1) mm w' lo b ys F ∧ 1 ≤ lo ∧ ys.getLast? = xs.getLast? ∧ Ext noF w w' ∧ e 0 = ptr m ∧ e 1 = .bool mu ∧ e 5 = .pointer (some ⟨q, 0, none⟩) ∧ e 7 = ptr b)
      h ⟨1, b, xs, F, ht.ext r1.ext (fun _ _ _ h => h), Nat.le_refl _, rfl, r1.ext, ?_, ?_, ?_, ?_⟩ ?_)
    · simp only [upd_eq, Nat.reduceEqDiff, ↓reduceIte]; exact e0
    · simp only [upd_eq, Nat.reduceEqDiff, ↓reduceIte]; exact e1
    · simp only [upd_eq, Nat.reduceEqDiff, ↓reduceIte]
    · simp only [upd_eq, Nat.reduceEqDiff, ↓reduceIte]
    · clear e0 e1 e hr ht r1
      rintro mm e w' ⟨lo, b, ys, F', ht, hlo, hl, X, e0, e1, e5, e7⟩
      have hi0 := X.rd hM.cfg.iso (fun h => h)
      refine W_block (W_seq ?_)
      obtain ⟨bi, oi, cap, ks, ch, ho, h1, h2, _, ⟨rfl, rfl, rfl, hF⟩ | ⟨h', bc, ba, oa, capc, cs, rfl, rfl, n⟩⟩ := ht.open
      · refine W_sq fun K hK => (W_text [true, false] (by kernel_rfl) ?_); simp only [↓List.toList_toArray, ↓rgd, ↓rgf, ↓reduceIte, Nat.reduceEqDiff, rg, ow_67, e7]
        refine do_call fn_63 (by simp only [evt, evc, upd_eq, Nat.reduceEqDiff, ↓reduceIte, maT, maC, maN, isnN, isnS] <;> rfl) (leaf_any b none w' ho.h3) ?_
        rintro _ w' ⟨rfl, rfl⟩
        refine ⟨trivial, ?_⟩
        simp only [↓List.toList_toArray, ↓rgd, ↓rgf, ↓reduceIte, Nat.reduceEqDiff, rg, ow_67]
        refine hK _ _ ?_; clear hK K
        refine W_true (by simp only [evt, evc, upd_eq, Nat.reduceEqDiff, ↓reduceIte, ntT, ntF] <;> rfl) ?_
        obtain ⟨x, hx⟩ : ∃ x, ys[ys.length - 1]? = some x := ⟨_, List.getElem?_eq_getElem (by omega)⟩
        have hb2 := ho.h2
        have hlt : ys.length - 1 < ys.length := by omega
        have ix := it_at ho.row hx
        have q1 := wsub1 ys.length (by omega) (by have := ho.le; omega)
        have M1 : readsB (some (some [b, bi])) b = true := by simp [readsB]
        have M2 : readsB (some (some [b, bi])) bi = true := by simp [readsB]
        refine W_sq fun K hK => (W_draw (some (some [b, bi])) (some 13) [(0, 0, 0), (0, 1, 0), (0, 2, 0), (0, 3, 0), (0, 4, 0), (0, 5, 0), (0, 6, 0), (0, 7, 0), (0, 8, 0), (0, 9, 0), (0, 10, 0), (0, 11, 0), (1, 12, 0), (1, 13, 0)] mixed (by kernel_rfl) ?_); simp only [↓List.toList_toArray, ↓rgd, ↓rgf, ↓reduceIte, Nat.reduceEqDiff, rg, ow_67, e7, ptr_eq, hb2, hlt, ix, q1, M1, M2]
        refine do_alloc z_it fun w2 n2 => ⟨.inr (keeps_on n2.ext fun y hy => ⟨?_, fun _ h => h⟩), ?_⟩
        · rw [sz_dr]
          simp only [List.mem_cons, List.not_mem_nil, or_false] at hy
          rcases hy with rfl | rfl
          · exact wok_lt ho.wb
          · exact wok_lt ho.wi
        simp only [↓List.toList_toArray, ↓rgd, ↓rgf, ↓reduceIte, Nat.reduceEqDiff, rg, ow_67]
        have n2 := n2.od
        have s2 := n2.size
        refine do_store (v := itV x) (by simp only [evt, evc, upd_eq, Nat.reduceEqDiff, ↓reduceIte, ntT, ntF] <;> rfl) (by simp only [evt, evc, upd_eq, Nat.reduceEqDiff, ↓reduceIte, ntT, ntF] <;> rfl) sz_76 (itV_len x) n2.wok (by decide) (itV_oc x) fun w3 x3 r3 s3 => ⟨.inl trivial, ?_⟩
        simp only [↓List.toList_toArray, ↓rgd, ↓rgf, ↓reduceIte, Nat.reduceEqDiff, rg, ow_67]
        refine hK _ _ ?_; clear hK K
        have X3 : Ext noF w' w3 := noF_of n2.ext x3 fun y o hy h => by simp only [rng] at h; omega
        have rx : Row w3 w'.heap.size 0 (E.cel x) := r3
        have hk := row_cell rx (j := 0) rfl
        rw [Nat.zero_add] at hk
        have ty3 := wok.ty tyP (x3.wok n2.wok)
        have M3 : readsB (some (some [w'.heap.size])) w'.heap.size = true := by simp [readsB]
        have sX := X.size
        refine W_sq fun K hK => (W_draw (some (some [w'.heap.size])) none [(0, 0, 0), (0, 1, 0), (0, 2, 0), (0, 3, 0), (0, 4, 0), (1, 5, 0), (0, 6, 0)] mixed (by kernel_rfl) ?_); simp only [↓List.toList_toArray, ↓rgd, ↓rgf, ↓reduceIte, Nat.reduceEqDiff, rg, ow_67, hk, ty3, M3]
        refine do_store (b := q) (o := 0) (by simp only [evt, upd_eq, Nat.reduceEqDiff, ↓reduceIte]; exact e5) (by simp only [evt, evc, upd_eq, Nat.reduceEqDiff, ↓reduceIte, ntT, ntF] <;> rfl) sz_74 rfl (X3.wok (X.wok wq)) (by decide) (fun _ h => by cases h) fun w4 x4 r4 s4 => ⟨.inr (keeps_on x4 fun y hy => by
          simp only [List.mem_cons, List.not_mem_nil, or_false] at hy
          subst hy
          exact ⟨by (try rw [sz_dr]); omega, fun o g => by simp only [rng] at g; omega⟩), ?_⟩
        simp only [↓List.toList_toArray, ↓rgd, ↓rgf, ↓reduceIte, Nat.reduceEqDiff, rg, ow_67]
        refine hK _ _ ?_; clear hK K
        refine W_ret ?_
        simp only [andThen_ret, inBlk_ret]
        have hgl : xs.getLast? = some x := by rw [← hl, List.getLast?_eq_getElem?]; exact hx
        refine endQ_tct (by simp only [upd_eq, Nat.reduceEqDiff, ↓reduceIte] <;> rfl) (by simp only [upd_eq, Nat.reduceEqDiff, ↓reduceIte]; exact e5) (by simp only [upd_eq, Nat.reduceEqDiff, ↓reduceIte] <;> rfl) ld_74 ld_unit ⟨?_, noF_of ((X0.tr X).tr X3) x4.od fun y o _ k => by simp only [rng] at k; omega⟩
        rw [hgl]; rfl
      · have hcl : ks.length < cs.length := by have := n.len; omega
        obtain ⟨c, hc⟩ : ∃ c, cs[ks.length]? = some c := ⟨_, List.getElem?_eq_getElem hcl⟩
        have hcm : c ∈ cs := List.mem_of_getElem? hc
        have htc := n.sub c hcm
        have hcr : rd w' ba (oa + ks.length) = some (ptr c.b) := n.kids.row ks.length _ (by rw [List.getElem?_map, List.getElem?_map, hc]; rfl)
        have hb3 := ho.h3
        have hc0 := n.kids.c0
        rw [List.length_map] at hc0
        refine W_sq fun K hK => (W_text [true, false] (by kernel_rfl) ?_); simp only [↓List.toList_toArray, ↓rgd, ↓rgf, ↓reduceIte, Nat.reduceEqDiff, rg, ow_67, e7]
        refine do_call fn_63 (by simp only [evt, evc, upd_eq, Nat.reduceEqDiff, ↓reduceIte, maT, maC, maN, isnN, isnS] <;> rfl) (leaf_any b (some ⟨bc, 0, none⟩) w' ho.h3) ?_
        rintro _ w' ⟨rfl, rfl⟩
        refine ⟨trivial, ?_⟩
        simp only [↓List.toList_toArray, ↓rgd, ↓rgf, ↓reduceIte, Nat.reduceEqDiff, rg, ow_67]
        refine hK _ _ ?_; clear hK K
        refine W_false (by simp only [evt, evc, upd_eq, Nat.reduceEqDiff, ↓reduceIte, ntT, ntF] <;> rfl) (W_skip ?_)
        show W _ _ _ _ _ _
        have hlc : cs.length - 1 < cs.length := by omega
        have hl1 : cs.length - 1 = ks.length := by have := n.len; omega
        have q1 := wsub1 cs.length (by omega) (by have := n.len; omega)
        refine W_rg fun K hK => (W_draw (some none) none [(0, 0, 0), (0, 1, 0), (0, 2, 0), (0, 3, 0), (0, 4, 0), (0, 5, 0), (0, 6, 0), (0, 7, 0), (0, 8, 0), (0, 9, 0), (0, 10, 0), (0, 11, 0), (0, 12, 0), (0, 13, 0), (0, 14, 0), (0, 15, 0), (0, 16, 0), (1, 17, 0), (0, 18, 0)] mixed (by kernel_rfl) ?_); simp only [↓List.toList_toArray, ↓rgd, ↓rgf, ↓reduceIte, Nat.reduceEqDiff, rg, ow_67, e0, e1, e7, ptr_eq, hb3, hc0, q1, hlc]
        rw [hl1]
        refine do_call fn_62 (by simp only [evt, evc, upd_eq, Nat.reduceEqDiff, ↓reduceIte, maT, maC, maN, isnN, isnS] <;> rfl) (isoLoad_any m ba (oa + ks.length) c.b mu iso _ hi0 hcr htc.iso0.1) ?_
        rintro _ w2 ⟨rfl, r2⟩
        refine ⟨.inr (keeps_ro r2), ?_⟩
        simp only [↓List.toList_toArray, ↓rgd, ↓rgf, ↓reduceIte, Nat.reduceEqDiff, rg, ow_67]
        refine hK _ _ ?_; clear hK K
        have X2 : Ext noF w' w2 := (RO.dr _ _ |>.tr r2).ext
        have hlast : (weave (cs.map Kid.xs) ks).getLast? = c.xs.getLast? := weave_getLast (by simpa using n.len) (by rw [List.getElem?_map, hc]; rfl) (htc.pos (by omega))
        refine ⟨h', by omega, d - 1, c.b, c.xs, c.F, htc.ext X2 (fun _ _ _ h => h), by omega, ?_, X.tr X2, ?_, ?_, ?_, ?_⟩
        · rw [← hl, n.eq, hlast]
        · simp only [upd_eq, Nat.reduceEqDiff, ↓reduceIte]; exact e0
        · simp only [upd_eq, Nat.reduceEqDiff, ↓reduceIte]; exact e1
        · simp only [upd_eq, Nat.reduceEqDiff, ↓reduceIte]; exact e5
        · simp only [upd_eq, Nat.reduceEqDiff, ↓reduceIte]
end Go.Proofs.Ytjaolgehpnmieaa
/-
  Replies; the reference's cut of a list, and the item at an index. No condition.
-/
set_option linter.unusedSimpArgs false
set_option linter.unusedVariables false
namespace Go.Proofs.Ytjaolgehpnmieaa
open Go Go.Proofs
theorem nth_none {xs : List It} {i : Int} (h : i < 0 ∨ (xs.length : Int) ≤ i) : nth xs i = none := by
  unfold nth
  split
  · exact List.getElem?_eq_none (by omega)
  · rfl
def foO (x : Option It) : It × Bool := (x.getD (0, 0), x.isSome)
def foP (x : It) (ok : Bool) : It × Bool := if ok = true then (x, true) else ((0, 0), false)
theorem oc_fo (x : It × Bool) : oc (foV x).cells.toList := Ef.one x
theorem fo_len (x : It × Bool) : (foV x).cells.toList.length = 3 := rfl
theorem bu_fo1 (x : It) : buildV Try.prog 38 [(0, iV x), (1, .bool true)] = some (foV (x, true)) := by kernel_rfl
theorem bu_fo0 : buildV Try.prog 38 [] = some (foV ((0, 0), false)) := by kernel_rfl
theorem z_fo : zK Try.prog 38 = some [.int .i64 0, .int .i64 0, .bool false] := by kernel_rfl
theorem ld_fo {w : World} {b : Nat} {x : It × Bool} (h : Row w b 0 (Ef.cel x)) : loadV w ⟨b, 0, none⟩ (some 3) = some (foV x) := h.rdA 3 (by simp [Ef])
theorem foP_got (x : Option It) : foP (κ (x.getD zIt), (x.getD zIt).2) x.isSome = foO x := by cases x <;> rfl
/-- A list without an item, and the item. -/
def cutL (l : List It) (i : Int) : List It := if 0 ≤ i then l.eraseIdx i.toNat else l
theorem cutL_out {l : List It} {i : Int} (h : i < 0 ∨ (l.length : Int) ≤ i) : cutL l i = l := by
  unfold cutL
  split
  · exact List.eraseIdx_of_length_le (by omega)
  · rfl
set_option maxHeartbeats 1000000 in
set_option maxRecDepth 8000 in
theorem cut_any (l : List It) (lv : Value) (ix : Int) (w : World) (hl : SlI w lv l) (hbig : l.length ≤ 2147483648) :
    CallK Try.prog 54 #[lv, .int .i64 ix] w fun v w' => ∃ sv, v = .tuple #[sv, foV (foO (nth l ix))] ∧ SlI w' sv (cutL l ix) ∧ Ext noF w w' := by
  obtain ⟨a, c, hlv⟩ := hl.shape
  refine calls_of_W [.tmp 4, .cell 5 38] Try.func54 rfl Try.ntmps54 Try.results54 (by simp) fun e he => ?_
  have e0 : e 0 = .slice a l.length c := by rw [← hlv]; exact he 0 _ rfl
  have e1 : e 1 = .int .i64 ix := he 1 _ rfl
  clear he
  refine W_sq fun K hK => (W_text [true, false] (by kernel_rfl) ?_); simp only [↓List.toList_toArray, ↓rgd, ↓rgf, ↓reduceIte, Nat.reduceEqDiff, rg, ow_54]
  refine do_alloc z_fo fun w1 n1 => ⟨trivial, ?_⟩
  simp only [↓List.toList_toArray, ↓rgd, ↓rgf, ↓reduceIte, Nat.reduceEqDiff, rg, ow_54]
  refine hK _ _ ?_; clear hK K
  have s1 := n1.size
  have out : (ix < 0 ∨ (l.length : Int) ≤ ix) → nth l ix = none ∧ cutL l ix = l := fun h => ⟨nth_none h, cutL_out h⟩
  refine W_seq ?_
  by_cases h1 : ix < 0
  · have t1 : decide (ix < 0) = true := by simp [h1]
    refine W_sq fun K hK => (W_text [true, true, true, true, true, true, true, true] (by kernel_rfl) ?_); simp only [↓List.toList_toArray, ↓rgd, ↓rgf, ↓reduceIte, Nat.reduceEqDiff, rg, ow_54, e0, e1, t1]
    refine hK _ _ ?_; clear hK K
    refine W_true (by simp only [evt, evc, upd_eq, Nat.reduceEqDiff, ↓reduceIte, ntT, ntF] <;> rfl) ?_
    refine W_sq fun K hK => (W_text [true, true, true, false] (by kernel_rfl) ?_); simp only [↓List.toList_toArray, ↓rgd, ↓rgf, ↓reduceIte, Nat.reduceEqDiff, rg, ow_54, e0, bu_fo0]
    refine do_store (v := foV ((0, 0), false)) (by simp only [evt, evc, upd_eq, Nat.reduceEqDiff, ↓reduceIte, ntT, ntF] <;> rfl) (by simp only [evt, evc, upd_eq, Nat.reduceEqDiff, ↓reduceIte, ntT, ntF] <;> rfl) sz_38 rfl n1.wok (by decide) (oc_fo _) fun w3 x3 r3 s3 => ⟨trivial, ?_⟩
    simp only [↓List.toList_toArray, ↓rgd, ↓rgf, ↓reduceIte, Nat.reduceEqDiff, rg, ow_54]
    refine hK _ _ ?_; clear hK K
    refine W_ret ?_
    simp only [andThen_ret]
    have X3 := noF_of n1.ext x3 fun y o hy h => by simp only [rng] at h; omega
    rw [(out (.inl h1)).1, (out (.inl h1)).2]
    exact endQ_tc (by simp only [upd_eq, Nat.reduceEqDiff, ↓reduceIte] <;> rfl) (by simp only [upd_eq, Nat.reduceEqDiff, ↓reduceIte]) ld_38 (ld_fo r3) ⟨_, rfl, by rw [← hlv]; exact hl.ext0 X3, X3⟩
  have t1 : decide (ix < 0) = false := by simp; omega
  by_cases h2 : (l.length : Int) ≤ ix
  · have t2 : decide ((l.length : Int) ≤ ix) = true := by simp [h2]
    refine W_sq fun K hK => (W_text [true, true, true, true, true, true, true, true] (by kernel_rfl) ?_); simp only [↓List.toList_toArray, ↓rgd, ↓rgf, ↓reduceIte, Nat.reduceEqDiff, rg, ow_54, e0, e1, t1, t2]
    refine hK _ _ ?_; clear hK K
    refine W_true (by simp only [evt, evc, upd_eq, Nat.reduceEqDiff, ↓reduceIte, ntT, ntF] <;> rfl) ?_
    refine W_sq fun K hK => (W_text [true, true, true, false] (by kernel_rfl) ?_); simp only [↓List.toList_toArray, ↓rgd, ↓rgf, ↓reduceIte, Nat.reduceEqDiff, rg, ow_54, e0, bu_fo0]
    refine do_store (v := foV ((0, 0), false)) (by simp only [evt, evc, upd_eq, Nat.reduceEqDiff, ↓reduceIte, ntT, ntF] <;> rfl) (by simp only [evt, evc, upd_eq, Nat.reduceEqDiff, ↓reduceIte, ntT, ntF] <;> rfl) sz_38 rfl n1.wok (by decide) (oc_fo _) fun w3 x3 r3 s3 => ⟨trivial, ?_⟩
    simp only [↓List.toList_toArray, ↓rgd, ↓rgf, ↓reduceIte, Nat.reduceEqDiff, rg, ow_54]
    refine hK _ _ ?_; clear hK K
    refine W_ret ?_
    simp only [andThen_ret]
    have X3 := noF_of n1.ext x3 fun y o hy h => by simp only [rng] at h; omega
    rw [(out (.inr h2)).1, (out (.inr h2)).2]
    exact endQ_tc (by simp only [upd_eq, Nat.reduceEqDiff, ↓reduceIte] <;> rfl) (by simp only [upd_eq, Nat.reduceEqDiff, ↓reduceIte]) ld_38 (ld_fo r3) ⟨_, rfl, by rw [← hlv]; exact hl.ext0 X3, X3⟩
  have t2 : decide ((l.length : Int) ≤ ix) = false := by simp; omega
  refine W_sq fun K hK => (W_text [true, true, true, true, true, true, true, true] (by kernel_rfl) ?_); simp only [↓List.toList_toArray, ↓rgd, ↓rgf, ↓reduceIte, Nat.reduceEqDiff, rg, ow_54, e0, e1, t1, t2]
  refine hK _ _ ?_; clear hK K
  refine W_false (by simp only [evt, evc, upd_eq, Nat.reduceEqDiff, ↓reduceIte, ntT, ntF] <;> rfl) (W_skip ?_)
  show W _ _ _ _ _ _
  obtain ⟨i, rfl⟩ : ∃ i : Nat, ix = i := ⟨ix.toNat, by omega⟩
  have hi : i < l.length := by omega
  obtain ⟨x, hx⟩ : ∃ x, l[i]? = some x := ⟨_, List.getElem?_eq_getElem hi⟩
  have hn : nth l (i : Int) = some x := by simp [nth, hx]
  obtain ⟨sv1, hs1, hsl1⟩ := sl_hi (hl.ext0 n1.ext) i (by omega)
  obtain ⟨sv2, hs2, hsl2⟩ := sl_lo (hl.ext0 n1.ext) (i + 1) (by omega)
  rw [hlv] at hs1 hs2
  have q1 := wadd1 i (by omega)
  obtain ⟨lb, lo, rfl, row⟩ := (hl.ext0 n1.ext).at hlv hi
  have ixx := iV_at row hx
  have hlb : lb < w1.heap.size := (hl.ext0 n1.ext).lt hlv
  have M1 : readsB (some (some [lb])) lb = true := by simp [readsB]
  refine W_sq fun K hK => (W_draw (some (some [lb])) (some 16) [(0, 1, 0), (0, 2, 0), (0, 3, 0), (0, 5, 0), (0, 6, 0), (0, 7, 0), (0, 8, 0), (0, 10, 0), (0, 11, 0), (0, 12, 0), (0, 13, 0), (0, 14, 0), (1, 0, 0), (1, 4, 0), (1, 9, 0), (0, 15, 0), (1, 16, 0)] mixed (by kernel_rfl) ?_); simp only [↓List.toList_toArray, ↓rgd, ↓rgf, ↓reduceIte, Nat.reduceEqDiff, rg, ow_54, e0, e1, hs1, hs2, q1, hi, ixx, bu_fo1, M1]
  refine do_bsl rfl bs_item0 fun w2 n2 => ⟨.inr (keeps_on n2.ext fun y hy => ⟨?_, fun _ h => h⟩), ?_⟩
  · rw [sz_dr]
    simp only [List.mem_cons, List.not_mem_nil, or_false] at hy
    omega
  simp only [↓List.toList_toArray, ↓rgd, ↓rgf, ↓reduceIte, Nat.reduceEqDiff, rg, ow_54, e0, e1, hs1, hs2, q1, hi, ixx, bu_fo1]
  have n2 := n2.od
  have s2 := n2.size
  have hv2 : SlV w2 2 (.slice (some ⟨w1.heap.size, 0, none⟩) 0 0) 0 [] := ⟨rfl, .inr ⟨_, 0, 0, rfl, Nat.le_refl _, Row.nil _ _ _, n2.wok.R (Nat.le_refl _)⟩⟩
  refine do_append (by simp only [evt, evc, upd_eq, Nat.reduceEqDiff, ↓reduceIte, ntT, ntF] <;> rfl) (by simp only [evt, evc, upd_eq, Nat.reduceEqDiff, ↓reduceIte, ntT, ntF] <;> rfl) el_item rfl ni_i hv2 (hsl1.ext0 n2.ext) (by omega) (by decide) (flat_oc Ei _) fun v3 w3 a3 => ?_
  obtain ⟨hS3, hg3, x3⟩ := app_since (B := w1.heap.size) a3 (fun b o n c h => by simp only [Value.slice.injEq, Option.some.injEq, Addr.mk.injEq] at h; omega) (by omega)
  refine ⟨.inr (keeps_on x3 fun y hy => ?_), ?_⟩
  · simp only [List.mem_cons, List.not_mem_nil, or_false] at hy
    exact ⟨by omega, fun o h => by omega⟩
  simp only [↓List.toList_toArray, ↓rgd, ↓rgf, ↓reduceIte, Nat.reduceEqDiff, rg, ow_54, e0, e1, hs1, hs2, q1, hi, ixx, bu_fo1]
  have s3 := x3.size
  have hsl2' : SlV w3 2 sv2 (l.length - (i + 1)) (flat Ei (l.drop (i + 1))) := (hsl2.ext0 n2.ext).ext x3 fun b o c h k hk g => by
    have := hsl2.lt h
    omega
  refine do_append (by simp only [evt, evc, upd_eq, Nat.reduceEqDiff, ↓reduceIte, ntT, ntF] <;> rfl) (by simp only [evt, evc, upd_eq, Nat.reduceEqDiff, ↓reduceIte, ntT, ntF] <;> rfl) el_item rfl ni_i hS3 hsl2' (by omega) (by decide) (flat_oc Ei _) fun v4 w4 a4 => ?_
  obtain ⟨hS4, hg4, x4⟩ := app_since (B := w1.heap.size) a4 hg3 (by omega)
  refine ⟨.inr (keeps_on x4 fun y hy => ?_), ?_⟩
  · simp only [List.mem_cons, List.not_mem_nil, or_false] at hy
    exact ⟨by omega, fun o h => by omega⟩
  simp only [↓List.toList_toArray, ↓rgd, ↓rgf, ↓reduceIte, Nat.reduceEqDiff, rg, ow_54, e0, e1, hs1, hs2, q1, hi, ixx, bu_fo1]
  have s4 := x4.size
  have X4 : Ext (fun y _ => w.heap.size ≤ y) w w4 := ((n1.ext.mono (G := fun y _ => w.heap.size ≤ y) fun _ _ _ h => h.elim).tr (n2.ext.mono fun _ _ _ h => h.elim)).tr ((x3.tr x4).mono fun y o _ h => by omega)
  refine do_store (v := foV (x, true)) (by simp only [evt, evc, upd_eq, Nat.reduceEqDiff, ↓reduceIte, ntT, ntF] <;> rfl) (by simp only [evt, evc, upd_eq, Nat.reduceEqDiff, ↓reduceIte, ntT, ntF] <;> rfl) sz_38 rfl (x4.wok (x3.wok (n2.ext.wok n1.wok))) (by decide) (oc_fo _) fun w5 x5 r5 s5 => ⟨.inl trivial, ?_⟩
  simp only [↓List.toList_toArray, ↓rgd, ↓rgf, ↓reduceIte, Nat.reduceEqDiff, rg, ow_54]
  refine hK _ _ ?_; clear hK K
  refine W_ret ?_
  rw [hn]
  refine endQ_tc (by simp only [upd_eq, Nat.reduceEqDiff, ↓reduceIte] <;> rfl) (by simp only [upd_eq, Nat.reduceEqDiff, ↓reduceIte]) ld_38 (ld_fo r5) ⟨_, rfl, ?_, noF_of (Ext.refl _ _) (X4.tr (x5.mono fun y o _ h => by simp only [rng] at h; show w.heap.size ≤ y; omega)) fun y o hy h => by omega⟩
  have he : cutL l (i : Int) = l.take i ++ l.drop (i + 1) := by simp [cutL, List.eraseIdx_eq_take_drop_succ]
  have hln : (cutL l (i : Int)).length = 0 + i + (l.length - (i + 1)) := by rw [he, List.length_append, List.length_take, List.length_drop]; omega
  rw [SlI, hln, he, flat_append]
  have := hS4.ext x5 fun b o c h k hk g => by
    have := hg4 _ _ _ _ h
    simp only [rng] at g
    omega
  simpa using this
set_option maxHeartbeats 400000 in
set_option maxRecDepth 8000 in
theorem sat_any (l : List It) (lv : Value) (ix : Int) (w : World) (hl : SlI w lv l) (hbig : l.length ≤ 2147483648) :
    CallK Try.prog 39 #[lv, .int .i64 ix] w fun v w' => v = foV (foO (nth l ix)) ∧ Ext noF w w' := by
  refine calls_of_W [.cell 4 38] Try.func39 rfl Try.ntmps39 Try.results39 (by simp) fun e he => ?_
  have e0 : e 0 = lv := he 0 _ rfl
  have e1 : e 1 = .int .i64 ix := he 1 _ rfl
  clear he
  refine W_sq fun K hK => (W_text [false] (by kernel_rfl) ?_); simp only [↓List.toList_toArray, ↓rgd, ↓rgf, ↓reduceIte, Nat.reduceEqDiff, rg, ow_39]
  refine do_alloc z_fo fun w1 n1 => ⟨trivial, ?_⟩
  simp only [↓List.toList_toArray, ↓rgd, ↓rgf, ↓reduceIte, Nat.reduceEqDiff, rg, ow_39]
  refine hK _ _ ?_; clear hK K
  have s1 := n1.size
  refine W_sq fun K hK => (W_text [true, true, false, true, true, true, false, true, false] (by kernel_rfl) ?_); simp only [↓List.toList_toArray, ↓rgd, ↓rgf, ↓reduceIte, Nat.reduceEqDiff, rg, ow_39, e0, e1]
  refine do_call fn_54 (by simp only [evt, evc, upd_eq, Nat.reduceEqDiff, ↓reduceIte, maT, maC, maN, isnN, isnS] <;> rfl) (cut_any l lv ix w1 (hl.ext0 n1.ext) hbig) ?_
  rintro _ w2 ⟨sv, rfl, _, X2⟩
  refine ⟨trivial, ?_⟩
  simp only [↓List.toList_toArray, ↓rgd, ↓rgf, ↓reduceIte, Nat.reduceEqDiff, rg, ow_39]
  refine do_alloc z_fo fun w3 n3 => ⟨trivial, ?_⟩
  simp only [↓List.toList_toArray, ↓rgd, ↓rgf, ↓reduceIte, Nat.reduceEqDiff, rg, ow_39]
  have s2 := X2.size
  have s3 := n3.size
  refine do_store (v := foV (foO (nth l ix))) (by simp only [evt, evc, upd_eq, Nat.reduceEqDiff, ↓reduceIte, ntT, ntF] <;> rfl) (by simp only [evt, evc, upd_eq, Nat.reduceEqDiff, ↓reduceIte, ntT, ntF] <;> rfl) sz_38 rfl n3.wok (by decide) (oc_fo _) fun w4 x4 r4 s4 => ⟨trivial, ?_⟩
  simp only [↓List.toList_toArray, ↓rgd, ↓rgf, ↓reduceIte, Nat.reduceEqDiff, rg, ow_39]
  refine hK _ _ ?_; clear hK K
  have ld : rdA w4 w2.heap.size 0 3 = some (foV (foO (nth l ix))) := (show Row w4 w2.heap.size 0 (Ef.cel (foO (nth l ix))) from r4).rdA 3 (by simp [Ef])
  refine W_sq fun K hK => (W_text [true, false] (by kernel_rfl) ?_); simp only [↓List.toList_toArray, ↓rgd, ↓rgf, ↓reduceIte, Nat.reduceEqDiff, rg, ow_39, ld]
  refine do_store (v := foV (foO (nth l ix))) (by simp only [evt, evc, upd_eq, Nat.reduceEqDiff, ↓reduceIte, ntT, ntF] <;> rfl) (by simp only [evt, evc, upd_eq, Nat.reduceEqDiff, ↓reduceIte, ntT, ntF] <;> rfl) sz_38 rfl (x4.wok (n3.ext.wok (X2.wok n1.wok))) (by decide) (oc_fo _) fun w5 x5 r5 s5 => ⟨trivial, ?_⟩
  simp only [↓List.toList_toArray, ↓rgd, ↓rgf, ↓reduceIte, Nat.reduceEqDiff, rg, ow_39]
  refine hK _ _ ?_; clear hK K
  refine W_ret ?_
  refine endQ_c (by simp only [upd_eq, Nat.reduceEqDiff, ↓reduceIte]) ld_38 (ld_fo r5) ⟨rfl, ?_⟩
  have X4 : Ext noF w w4 := noF_of ((n1.ext.tr X2).tr n3.ext) x4 fun y o hy h => by simp only [rng] at h; omega
  exact noF_of X4 x5 fun y o hy h => by simp only [rng] at h; omega
end Go.Proofs.Ytjaolgehpnmieaa
/-
  A set's degree bounds and its setting up at the first key. No condition.
-/
set_option linter.unusedSimpArgs false
set_option linter.unusedVariables false
namespace Go.Proofs.Ytjaolgehpnmieaa
open Go Go.Proofs
set_option maxHeartbeats 400000 in
set_option maxRecDepth 8000 in
theorem minmax_0 (w : World) : CallK Try.prog 78 #[.int .i64 0] w fun v w' => v = .tuple #[.int .i64 (32 - 1 : Nat), .int .i64 (2 * 32 - 1 : Nat)] ∧ w = w' := by
  refine calls_of_W [.tmp 2, .tmp 3] Try.func78 rfl Try.ntmps78 Try.results78 (by simp) fun e he => ?_
  have e0 : e 0 = .int .i64 0 := he 0 _ rfl
  clear he
  have t1 : decide ((0 : Int) ≤ 0) = true := rfl
  have q1 : IntKind.i64.wrap ((32 : Int) * 2) = 64 := by decide
  have q2 : IntKind.i64.wrap ((64 : Int) - 1) = 63 := by decide
  have q3 : IntKind.i64.wrap ((63 : Int).tdiv 2) = 31 := by decide
  refine W_sq fun K hK => (W_text [true, true] (by kernel_rfl) ?_); simp only [↓List.toList_toArray, ↓rgd, ↓rgf, ↓reduceIte, Nat.reduceEqDiff, rg, ow_78]
  refine hK _ _ ?_; clear hK K
  refine W_seq ?_
  refine W_sq fun K hK => (W_text [true, true] (by kernel_rfl) ?_); simp only [↓List.toList_toArray, ↓rgd, ↓rgf, ↓reduceIte, Nat.reduceEqDiff, rg, ow_78, e0, t1]
  refine hK _ _ ?_; clear hK K
  refine W_true (by simp only [evt, evc, upd_eq, Nat.reduceEqDiff, ↓reduceIte, ntT, ntF] <;> rfl) ?_
  refine W_rg fun K hK => (W_text [true] (by kernel_rfl) ?_); simp only [↓List.toList_toArray, ↓rgd, ↓rgf, ↓reduceIte, Nat.reduceEqDiff, rg, ow_78]
  refine hK _ _ ?_; clear hK K
  show W _ _ _ _ _ _
  refine W_sq fun K hK => (W_text [true, true, true, true] (by kernel_rfl) ?_); simp only [↓List.toList_toArray, ↓rgd, ↓rgf, ↓reduceIte, Nat.reduceEqDiff, rg, ow_78, bv_mul, q1, q2]
  refine hK _ _ ?_; clear hK K
  refine W_sq fun K hK => (W_text [true, true, true] (by kernel_rfl) ?_); simp only [↓List.toList_toArray, ↓rgd, ↓rgf, ↓reduceIte, Nat.reduceEqDiff, rg, ow_78, q3]
  refine hK _ _ ?_; clear hK K
  refine W_sq fun K hK => (W_text [true, true, true, true] (by kernel_rfl) ?_); simp only [↓List.toList_toArray, ↓rgd, ↓rgf, ↓reduceIte, Nat.reduceEqDiff, rg, ow_78]
  refine hK _ _ ?_; clear hK K
  exact W_ret (endQ_2 (by simp only [upd_eq, Nat.reduceEqDiff, ↓reduceIte] <;> rfl) (by simp only [upd_eq, Nat.reduceEqDiff, ↓reduceIte] <;> rfl) ⟨rfl, rfl⟩)
theorem la_cv : laK Try.prog 74 115 = some .nilIface := by kernel_rfl
theorem la_ci : laK Try.prog 74 118 = some .nilIface := by kernel_rfl
/-- A set's record that is all zero. -/
theorem z_set : zK Try.prog 80 = some [.int .u64 0, .pointer none, .pointer none, .int .i64 0, .int .i64 0, .int .i64 0, .int .i64 0, .bool false, .bool false] := by kernel_rfl
set_option maxHeartbeats 400000 in
set_option maxRecDepth 8000 in
theorem init0_any (m : Nat) (w : World) (wm : wok w m 9) (hr : Row w m 5 [.int .i64 0, .int .i64 0, .bool false, .bool false]) :
    CallK Try.prog 68 #[ptr m, .int .i64 0] w fun _ w' => Ext (rng m 5 4) w w' ∧ rd w' m 5 = some (.int .i64 (32 - 1 : Nat)) ∧ rd w' m 6 = some (.int .i64 (2 * 32 - 1 : Nat)) ∧ rd w' m 7 = some (.bool false) ∧
      rd w' m 8 = some (.bool false) ∧ w'.heap.size = w.heap.size := by
  simp only [Row.cons] at hr
  obtain ⟨g5, g6, g7, g8, -⟩ := hr
  refine calls_of_W [] Try.func68 rfl Try.ntmps68 Try.results68 (by simp) fun e he => ?_
  have e0 : e 0 = ptr m := he 0 _ rfl
  have e1 : e 1 = .int .i64 0 := he 1 _ rfl
  clear he
  have t1 : ((0 : Int) != 0) = false := by simp
  refine W_seq ?_
  refine W_sq fun K hK => (W_text [true, true, true, true, true] (by kernel_rfl) ?_); simp only [↓List.toList_toArray, ↓rgd, ↓rgf, ↓reduceIte, Nat.reduceEqDiff, rg, ow_68, e0, ptr_eq, g5, t1]
  refine hK _ _ ?_; clear hK K
  refine W_false (by simp only [evt, evc, upd_eq, Nat.reduceEqDiff, ↓reduceIte, ntT, ntF] <;> rfl) (W_skip ?_)
  show W _ _ _ _ _ _
  refine W_sq fun K hK => (W_text [true, true, true, false, true, true, true, true, true, false, true, true, false] (by kernel_rfl) ?_); simp only [↓List.toList_toArray, ↓rgd, ↓rgf, ↓reduceIte, Nat.reduceEqDiff, rg, ow_68, e0, e1, ptr_eq]
  refine do_call fn_78 (by simp only [evt, evc, upd_eq, Nat.reduceEqDiff, ↓reduceIte, maT, maC, maN, isnN, isnS] <;> rfl) (minmax_0 w) ?_
  rintro _ _ ⟨rfl, rfl⟩
  refine ⟨trivial, ?_⟩
  simp only [↓List.toList_toArray, ↓rgd, ↓rgf, ↓reduceIte, Nat.reduceEqDiff, rg, ow_68, ptr_eq]
  refine do_store (by simp only [evt, evc, upd_eq, Nat.reduceEqDiff, ↓reduceIte, ntT, ntF] <;> rfl) (by simp only [evt, evc, upd_eq, Nat.reduceEqDiff, ↓reduceIte, ntT, ntF] <;> rfl) sz_3 rfl wm (by decide) (oc_one rfl rfl) fun w1 x1 r1 s1 => ⟨trivial, ?_⟩
  simp only [↓List.toList_toArray, ↓rgd, ↓rgf, ↓reduceIte, Nat.reduceEqDiff, rg, ow_68, ptr_eq]
  refine do_store (by simp only [evt, evc, upd_eq, Nat.reduceEqDiff, ↓reduceIte, ntT, ntF] <;> rfl) (by simp only [evt, evc, upd_eq, Nat.reduceEqDiff, ↓reduceIte, ntT, ntF] <;> rfl) sz_3 rfl (x1.wok wm) (by decide) (oc_one rfl rfl) fun w2 x2 r2 s2 => ⟨trivial, ?_⟩
  simp only [↓List.toList_toArray, ↓rgd, ↓rgf, ↓reduceIte, Nat.reduceEqDiff, rg, ow_68]
  refine hK _ _ ?_; clear hK K
  have n1 := tas_no (P := Try.prog) _ _ (.agg #[]) _ co_115 la_cv
  have n2 := tas_no (P := Try.prog) _ _ (.agg #[]) _ co_118 la_ci
  have ty2 := wok.ty tyP (x2.wok (x1.wok wm))
  refine W_sq fun K hK => (W_text [true, true, true, true, true, true, true, true, true, true, true, true, true, false] (by kernel_rfl) ?_); simp only [↓List.toList_toArray, ↓rgd, ↓rgf, ↓reduceIte, Nat.reduceEqDiff, rg, ow_68, e0, ptr_eq, ty2, n1]
  refine do_store (by simp only [evt, evc, upd_eq, Nat.reduceEqDiff, ↓reduceIte, ntT, ntF] <;> rfl) (by simp only [evt, evc, upd_eq, Nat.reduceEqDiff, ↓reduceIte, ntT, ntF] <;> rfl) sz_4 rfl (x2.wok (x1.wok wm)) (by decide) (oc_one rfl rfl) fun w3 x3 r3 s3 => ⟨trivial, ?_⟩
  simp only [↓List.toList_toArray, ↓rgd, ↓rgf, ↓reduceIte, Nat.reduceEqDiff, rg, ow_68]
  refine hK _ _ ?_; clear hK K
  have g8' : rd w3 m 7 = some (.bool false) := (Row.cons.1 r3).1
  have ty3 := wok.ty tyP (x3.wok (x2.wok (x1.wok wm)))
  refine W_sq fun K hK => (W_text [true, true, true, true, true] (by kernel_rfl) ?_); simp only [↓List.toList_toArray, ↓rgd, ↓rgf, ↓reduceIte, Nat.reduceEqDiff, rg, ow_68, e0, ptr_eq, g8']
  refine hK _ _ ?_; clear hK K
  refine W_true (by simp only [evt, evc, upd_eq, Nat.reduceEqDiff, ↓reduceIte, ntT, ntF] <;> rfl) ?_
  refine W_rg fun K hK => (W_text [true, true, true, true, true, true, true, true, true, true, true, true, true, false] (by kernel_rfl) ?_); simp only [↓List.toList_toArray, ↓rgd, ↓rgf, ↓reduceIte, Nat.reduceEqDiff, rg, ow_68, e0, ptr_eq, ty3, n2]
  refine do_store (by simp only [evt, evc, upd_eq, Nat.reduceEqDiff, ↓reduceIte, ntT, ntF] <;> rfl) (by simp only [evt, evc, upd_eq, Nat.reduceEqDiff, ↓reduceIte, ntT, ntF] <;> rfl) sz_4 rfl (x3.wok (x2.wok (x1.wok wm))) (by decide) (oc_one rfl rfl) fun w4 x4 r4 s4 => ⟨trivial, ?_⟩
  simp only [↓List.toList_toArray, ↓rgd, ↓rgf, ↓reduceIte, Nat.reduceEqDiff, rg, ow_68]
  refine hK _ _ ?_; clear hK K
  have X : Ext (rng m 5 4) w w4 := ((x1.trans x2 (fun _ _ g => by simp only [rng] at *; omega) fun _ _ _ g => by simp only [rng] at *; omega).trans x3 (fun _ _ g => g) fun _ _ _ g => by simp only [rng] at *; omega).trans x4 (fun _ _ g => g) fun _ _ _ g => by simp only [rng] at *; omega
  exact endQ_0n ⟨X, x4.rd (x3.rd (x2.rd (Row.cons.1 r1).1 (by simp only [rng]; omega)) (by simp only [rng]; omega)) (by simp only [rng]; omega), x4.rd (x3.rd (Row.cons.1 r2).1 (by simp only [rng]; omega)) (by simp only [rng]; omega),
    x4.rd g8' (by simp only [rng]; omega), (Row.cons.1 r4).1, by rw [s4, s3, s2, s1]⟩
end Go.Proofs.Ytjaolgehpnmieaa
/-
  Setting a key in a map; a map that is grown from a list. No condition.
-/
set_option linter.unusedSimpArgs false
set_option linter.unusedVariables false
namespace Go.Proofs.Ytjaolgehpnmieaa
open Go Go.Proofs
theorem bu_it (a : Rk) (b : Int) : buildV Try.prog 76 [(1, kV a), (0, .agg #[])] = some (itV (a, b)) := by kernel_rfl
theorem bs_it0 : bsV Try.prog 93 0 [] = some (76, []) := by kernel_rfl
theorem bs_it1 (x : It) : bsV Try.prog 93 1 [(0, itV x)] = some (76, E.cel x) := by kernel_rfl
theorem bs_kid0 : bsV Try.prog 97 0 [] = some (73, []) := by kernel_rfl
theorem bs_kid2 (a b : Nat) : bsV Try.prog 97 2 [(0, ptr a), (1, ptr b)] = some (73, [ptr a, ptr b]) := by kernel_rfl
theorem keep2 {F : Nat → Nat → Prop} {w w' : World} {a b : Nat} (h : Ext F w w') (h1 : a < w.heap.size ∧ ∀ o, ¬ F a o) (h2 : b < w.heap.size ∧ ∀ o, ¬ F b o) : keeps (some (some [a, b])) w w' := keeps_on h fun x hx => by
  simp only [List.mem_cons, List.not_mem_nil, or_false] at hx
  rcases hx with rfl | rfl
  · exact h1
  · exact h2
theorem app_new {w w' : World} {sz m b o : Nat} {l' : List Value} {v' : Value} (h : AppRes w sz (.slice (some ⟨b, o, none⟩) 0 0) 0 m [] l' v' w') (hm : 0 < m) :
    ∃ cap', v' = .slice (some ⟨w.heap.size, 0, none⟩) m cap' ∧ m ≤ cap' ∧ Row w' w.heap.size 0 l' ∧ wok w' w.heap.size (cap' * sz) ∧ Ext noF w w' ∧ w'.heap.size = w.heap.size + 1 := by
  obtain ⟨hs, hc⟩ := h
  rw [Nat.zero_add] at hs hc
  rcases hc with ⟨_, _, h3⟩ | ⟨b0, o0, cap0, h1, h2, h3, h4, h5⟩ | ⟨cap', h1, h2, h3, h4⟩
  · cases h3
  · simp only [Value.slice.injEq, Option.some.injEq, Addr.mk.injEq, true_and, and_true] at h1
    omega
  · subst h1
    rcases hs.2 with ⟨h, _⟩ | ⟨b1, o1, c1, h1, hle, hr, hw⟩
    · cases h
    · simp only [Value.slice.injEq, Option.some.injEq, Addr.mk.injEq, true_and, and_true] at h1
      obtain ⟨⟨rfl, rfl⟩, rfl⟩ := h1
      exact ⟨_, rfl, hle, by simpa using hr, h4, h2, h3⟩
def RootQ (m d : Nat) (iso : Int) (x : It) (xs : List It) (F : Nat → Nat → Prop) (w : World) (v : Value) (w' : World) : Prop :=
  v = .tuple #[vV ((at? O κ (κ x) xs).getD zIt), .bool (hit O κ (κ x) xs)] ∧ Ext (mapF m F) w w' ∧ ∃ F', MapAt w' m d iso (put O κ x xs) F' ∧ ∀ y o, F' y o → F y o ∨ w.heap.size ≤ y
def NilQ (m d : Nat) (iso : Int) (x : It) (I : Nat → Nat → Prop) (w : World) (v : Value) (w' : World) : Prop :=
  v = .tuple #[vV zIt, .bool false] ∧ Ext (fun y o => mapF m noF y o ∨ I y o) w w' ∧ ∃ F', MapAt w' m d iso [x] F' ∧ ∀ y o, F' y o → w.heap.size ≤ y
set_option maxHeartbeats 1000000 in
set_option maxRecDepth 8000 in
/-- Setting, where there is a root. -/
theorem set_root (m d : Nat) (iso : Int) (x : It) (hd : 2 ≤ d) (hd' : d ≤ 128) : ∀ (k h b : Nat) (xs : List It) (F : Nat → Nat → Prop) (w : World), xs.length - h = k → Cfg w m iso d → rd w m 3 = some (.int .i64 xs.length) → Asc O κ xs →
    rd w m 2 = some (ptr b) → Tr E iso (d - 1) (2 * d - 1) h w 1 b xs F → (∀ o, ¬ F m o) → xs.length < 1152921504606846976 →
    CallK Try.prog 57 #[ptr m, kV x.1, vV x] w fun v w' => v = .tuple #[vV ((at? O κ (κ x) xs).getD zIt), .bool (hit O κ (κ x) xs)] ∧ Ext (mapF m F) w w' ∧
      ∃ F', MapAt w' m d iso (put O κ x xs) F' ∧ ∀ y o, F' y o → F y o ∨ w.heap.size ≤ y := by
  intro k
  induction k using Nat.strongRecOn with
  | _ k ih =>
  intro h b xs F w00 hk hc hcnt ha hroot ht hm hbig
  suffices HS : ∀ R : Value → World → Prop, (∀ v w', RootQ m d iso x xs F w00 v w' → R v w') → CallK Try.prog 57 #[ptr m, kV x.1, vV x] w00 R from HS _ fun _ _ h => h
  intro R hR
  have hml0 := wok_lt hc.wok
  refine calls_of_W [.cell 6 74, .tmp 7] Try.func57 rfl Try.ntmps57 Try.results57 (by simp) fun e he => ?_
  have e0 : e 0 = ptr m := he 0 _ rfl
  have e1 : e 1 = kV x.1 := he 1 _ rfl
  have e2 : e 2 = .agg #[] := he 2 _ rfl
  clear he
  refine W_sq fun K hK => (W_text [false, false, true] (by kernel_rfl) ?_); simp only [↓List.toList_toArray, ↓rgd, ↓rgf, ↓reduceIte, Nat.reduceEqDiff, rg, ow_57]
  refine do_box (by simp only [evt]; exact e2) fun wa na => ⟨trivial, ?_⟩
  simp only [↓List.toList_toArray, ↓rgd, ↓rgf, ↓reduceIte, Nat.reduceEqDiff, rg, ow_57]
  refine do_alloc z_unit fun w nb => ⟨trivial, ?_⟩
  simp only [↓List.toList_toArray, ↓rgd, ↓rgf, ↓reduceIte, Nat.reduceEqDiff, rg, ow_57]
  refine hK _ _ ?_; clear hK K
  have Xb : Ext noF w00 w := na.ext.tr nb.ext
  have sa := na.size
  have sb := nb.size
  obtain ⟨q, hq⟩ : ∃ q, q = wa.heap.size := ⟨_, rfl⟩
  have wqb : wok w q 0 := by rw [hq]; exact nb.wok
  have hqF : ∀ o, ¬ F q o := fun o g => by have := ht.lt _ _ g; omega
  rw [← hq]
  have hqw : q < w.heap.size := by omega
  have hqm : q ≠ m := by omega
  replace hR : ∀ v w', RootQ m d iso x xs F w v w' → R v w' := fun v w' ⟨h1, h2, F', h3, h4⟩ => hR v w' ⟨h1, Xb.trans h2 (fun _ _ g => g.elim) (fun _ _ _ g => g), F', h3, fun y o g => (h4 y o g).imp id fun g => by omega⟩
  replace hc := hc.ext Xb fun _ _ _ h => h
  replace hcnt := Xb.rd hcnt fun h => h
  replace hroot := Xb.rd hroot fun h => h
  replace ht := ht.ext Xb fun _ _ _ h => h
  have hml := wok_lt hc.wok
  have hht := Tr.height (by omega) (Nat.le_refl 1) ht
  clear Xb na nb sa sb hq hml0
  refine W_sq fun K hK => (W_text [true, true, true, false, false] (by kernel_rfl) ?_); simp only [↓List.toList_toArray, ↓rgd, ↓rgf, ↓reduceIte, Nat.reduceEqDiff, rg, ow_57, e1, e2, bu_it x.1 x.2]
  refine do_alloc z_it fun w1 n1 => ⟨trivial, ?_⟩
  simp only [↓List.toList_toArray, ↓rgd, ↓rgf, ↓reduceIte, Nat.reduceEqDiff, rg, ow_57]
  refine do_store (by simp only [evt, evc, upd_eq, Nat.reduceEqDiff, ↓reduceIte, ntT, ntF] <;> rfl) (by simp only [evt, evc, upd_eq, Nat.reduceEqDiff, ↓reduceIte, ntT, ntF] <;> rfl) sz_76 (itV_len x) n1.wok (by decide) (itV_oc x) fun w2 x2 r2 s2 => ⟨trivial, ?_⟩
  simp only [↓List.toList_toArray, ↓rgd, ↓rgf, ↓reduceIte, Nat.reduceEqDiff, rg, ow_57]
  refine hK _ _ ?_; clear hK K
  have s1 := n1.size
  have X2 : Ext noF w w2 := noF_of n1.ext x2 fun y o hy h => by simp only [rng] at h; omega
  have rx : Row w2 w.heap.size 0 (E.cel x) := r2
  have x2wok : wok w2 w.heap.size 1 := x2.wok n1.wok
  have c2 := hc.ext X2 fun _ _ _ h => h
  have rt2 := X2.rd hroot (fun h => h)
  have ix := iA_at rx
  refine W_seq ?_
  refine W_sq fun K hK => (W_text [true, true, true, true, true] (by kernel_rfl) ?_); simp only [↓List.toList_toArray, ↓rgd, ↓rgf, ↓reduceIte, Nat.reduceEqDiff, rg, ow_57, e0, ptr_eq, rt2]
  refine hK _ _ ?_; clear hK K
  refine W_false (by simp only [evt, evc, upd_eq, Nat.reduceEqDiff, ↓reduceIte, ntT, ntF] <;> rfl) (W_skip ?_)
  show W _ _ _ _ _ _
  have M1 : readsB (some (some [w.heap.size])) w.heap.size = true := by simp [readsB]
  have hFlt := ht.lt
  refine W_sq fun K hK => (W_free (some (some [w.heap.size])) (.take 0 (.take 1 (.take 2 (.take 3 (.take 4 (.split 5 (.take 6 (.take 7 (.take 8 (.take 9 (.act 10 (.act 11 (.take 12 (.take 13 .nil)))))))) 10 (.act 5 (.take 6 (.take 7 (.take 8 (.take 9 (.act 11 (.take 12 (.take 13 .nil)))))))))))))) mixed (by kernel_rfl) ?_); simp only [↓List.toList_toArray, ↓rgd, ↓rgf, ↓reduceIte, Nat.reduceEqDiff, rg, ow_57, e0, ptr_eq, ix, M1]
  have s2' : w2.heap.size = w.heap.size + 1 := by omega
  have rest0 : ∀ e' w' (rp sp : Bool), e' 0 = ptr m → e' 8 = .pointer (some ⟨w.heap.size, 0, none⟩) → e' 6 = .pointer (some ⟨q, 0, none⟩) → (∃ qb, e' 9 = .pointer (some ⟨qb, 0, none⟩)) → e' 10 = .bool rp → e' 11 = .bool sp → Ext F w2 w' →
      (∃ F' : Nat → Nat → Prop, (∀ y o, F' y o → F y o ∨ w2.heap.size ≤ y) ∧ ((rp = false ∧ sp = true ∧ Tr E iso (d - 1) (2 * d - 1) h w' (2 * d - 1) b xs F' ∧ hit O κ (κ x) xs = false) ∨ (rp = hit O κ (κ x) xs ∧ sp = false ∧ Tr E iso (d - 1) (2 * d - 1) h w' 1 b (put O κ x xs) F'))) → K e' w' := by
    intro e w3 rp sp e0 e8 e6 ⟨qb, e9⟩ e10 e11 x3 ⟨F', hF', hres⟩
    refine hK _ _ ?_; clear hK K
    have hF3 : ∀ y o, F' y o → F y o ∨ w2.heap.size ≤ y := hF'
    have s3 := x3.size
    have X3 : Ext F w w3 := X2.trans x3 (fun _ _ g => g.elim) fun _ _ _ g => g
    have c3 := c2.ext x3 fun o _ _ => hm o
    have rt3 := x3.rd rt2 (hm 2)
    have ct3 := X3.rd hcnt (hm 3)
    have hF'm : ∀ o, ¬ F' m o := fun o g => by
      rcases hF3 m o g with g | g
      · exact hm o g
      · omega
    have wq3 : wok w3 q 0 := X3.wok wqb
    rcases hres with ⟨rfl, rfl, hT', hh⟩ | ⟨rfl, rfl, hT'⟩
    · refine W_seq ?_
      refine W_sq fun K hK => (W_text [true] (by kernel_rfl) ?_); simp only [↓List.toList_toArray, ↓rgd, ↓rgf, ↓reduceIte, Nat.reduceEqDiff, rg, ow_57, e11]
      refine hK _ _ ?_; clear hK K
      refine W_true (by simp only [evt, evc, upd_eq, Nat.reduceEqDiff, ↓reduceIte, ntT, ntF] <;> rfl) ?_
      refine W_sq fun K hK => (W_text [true, true, true, true, true] (by kernel_rfl) ?_); simp only [↓List.toList_toArray, ↓rgd, ↓rgf, ↓reduceIte, Nat.reduceEqDiff, rg, ow_57, e0, ptr_eq, rt3]
      refine hK _ _ ?_; clear hK K
      refine W_sq fun K hK => (W_text [true, true, false, true, true, true, false, true, false] (by kernel_rfl) ?_); simp only [↓List.toList_toArray, ↓rgd, ↓rgf, ↓reduceIte, Nat.reduceEqDiff, rg, ow_57, e0]
      refine do_call fn_71 (by simp only [evt, evc, upd_eq, Nat.reduceEqDiff, ↓reduceIte, maT, maC, maN, isnN, isnS] <;> rfl) (split_tr m d b h iso xs F' w3 hd hd' c3 hT' hF'm (by omega)) ?_
      rintro _ w4 ⟨rb, md, xl, xr, Fl, Fr, rfl, hxs, x4, hFl, hFr, hlr, tL, tR⟩
      refine ⟨trivial, ?_⟩
      simp only [↓List.toList_toArray, ↓rgd, ↓rgf, ↓reduceIte, Nat.reduceEqDiff, rg, ow_57]
      refine do_alloc z_it fun w5 n5 => ⟨trivial, ?_⟩
      simp only [↓List.toList_toArray, ↓rgd, ↓rgf, ↓reduceIte, Nat.reduceEqDiff, rg, ow_57]
      refine do_store (by simp only [evt, evc, upd_eq, Nat.reduceEqDiff, ↓reduceIte, ntT, ntF] <;> rfl) (by simp only [evt, evc, upd_eq, Nat.reduceEqDiff, ↓reduceIte, ntT, ntF] <;> rfl) sz_76 (itV_len md) n5.wok (by decide) (itV_oc md) fun w6 x6 r6 s6 => ⟨trivial, ?_⟩
      simp only [↓List.toList_toArray, ↓rgd, ↓rgf, ↓reduceIte, Nat.reduceEqDiff, rg, ow_57]
      refine hK _ _ ?_; clear hK K
      have s4 := x4.size
      have s5 := n5.size
      have X6 : Ext noF w4 w6 := noF_of n5.ext x6 fun y o hy h => by simp only [rng] at h; omega
      have c4 := c3.ext x4 fun o _ _ => hF'm o
      have c6 := c4.ext X6 fun _ _ _ h => h
      refine W_sq fun K hK => (W_text [true, true, false, true, true, false] (by kernel_rfl) ?_); simp only [↓List.toList_toArray, ↓rgd, ↓rgf, ↓reduceIte, Nat.reduceEqDiff, rg, ow_57, e0]
      refine do_call fn_69 (by simp only [evt, evc, upd_eq, Nat.reduceEqDiff, ↓reduceIte, maT, maC, maN, isnN, isnS] <;> rfl) (newNode_any m false iso w6 c6.iso) ?_
      rintro _ w7 ⟨b2, rfl, x7, nn⟩
      refine ⟨trivial, ?_⟩
      simp only [↓List.toList_toArray, ↓rgd, ↓rgf, ↓reduceIte, Nat.reduceEqDiff, rg, ow_57, ptr_eq]
      have c7 := c6.ext x7 fun _ _ _ h => h
      refine do_store (by simp only [evt, evc, upd_eq, Nat.reduceEqDiff, ↓reduceIte, ntT, ntF] <;> rfl) (by simp only [evt, evc, upd_eq, Nat.reduceEqDiff, ↓reduceIte, ntT, ntF] <;> rfl) sz_73 rfl (c7.wok.mono (by decide)) (Nat.le_refl 3) (oc_one rfl rfl) fun w8 x8 r8 s8 => ⟨trivial, ?_⟩
      simp only [↓List.toList_toArray, ↓rgd, ↓rgf, ↓reduceIte, Nat.reduceEqDiff, rg, ow_57]
      refine hK _ _ ?_; clear hK K
      obtain ⟨bc2, nk, nk1, nk2, nk3, nk4⟩ := nn.kids rfl
      have s7 := x7.size
      have nnge := nn.ge
      have rt8 : rd w8 m 2 = some (ptr b2) := (Row.cons.1 r8).1
      have c8 := c7.ext x8 fun o h2 _ g => h2 (by simp only [rng] at g; omega)
      have kp8 := x8.rd nk (by simp only [rng]; omega)
      have q1 : IntKind.i64.wrap (((2 * d - 1 : Nat) : Int) + 1) = ((2 * d : Nat) : Int) := by rw [wadd1 _ (by omega)]; congr 1; omega
      have M2 : readsB (some (some [m, b2])) m = true := by simp [readsB]
      have M3 : readsB (some (some [m, b2])) b2 = true := by simp [readsB]
      have hb2l := wok_lt nn.wb
      refine W_sq fun K hK => (W_draw (some (some [m, b2])) (some 14) [(0, 0, 0), (0, 1, 0), (0, 2, 0), (0, 3, 0), (0, 4, 0), (0, 5, 0), (0, 6, 0), (0, 7, 0), (0, 8, 0), (0, 9, 0), (0, 10, 0), (0, 11, 0), (1, 12, 0), (0, 13, 0), (1, 14, 0)] mixed (by kernel_rfl) ?_); simp only [↓List.toList_toArray, ↓rgd, ↓rgf, ↓reduceIte, Nat.reduceEqDiff, rg, ow_57, e0, ptr_eq, rt8, kp8, c8.mx, q1, M2, M3]
      refine do_make (n := 0) (c := 2 * d) (by simp only [evt, evc, upd_eq, Nat.reduceEqDiff, ↓reduceIte, ntT, ntF] <;> rfl) (by simp only [evt, evc, upd_eq, Nat.reduceEqDiff, ↓reduceIte, ntT, ntF] <;> rfl) el_kid rfl (by omega) (by omega) (by omega) fun w9 l9 hl9 n9 => ⟨.inr (keeps_on n9.ext fun y hy => ⟨?_, fun _ h => h⟩), ?_⟩
      · rw [sz_dr]
        simp only [List.mem_cons, List.not_mem_nil, or_false] at hy
        omega
      simp only [↓List.toList_toArray, ↓rgd, ↓rgf, ↓reduceIte, Nat.reduceEqDiff, rg, ow_57]
      have n9 := n9.od
      refine do_store (by simp only [evt, evc, upd_eq, Nat.reduceEqDiff, ↓reduceIte, ntT, ntF] <;> rfl) (by simp only [evt, evc, upd_eq, Nat.reduceEqDiff, ↓reduceIte, ntT, ntF] <;> rfl) sz_97 rfl (n9.ext.wok (x8.wok nk4)) (by decide) (oc_one rfl rfl) fun w10 x10 r10 s10 => ⟨.inl trivial, ?_⟩
      simp only [↓List.toList_toArray, ↓rgd, ↓rgf, ↓reduceIte, Nat.reduceEqDiff, rg, ow_57]
      refine hK _ _ ?_; clear hK K
      have rt10 : rd w10 m 2 = some (ptr b2) := x10.rd (n9.ext.rd rt8 fun h => h) (by simp only [rng]; omega)
      have kp10 : rd w10 b2 3 = some (ptr bc2) := x10.rd (n9.ext.rd kp8 fun h => h) (by simp only [rng]; omega)
      have wbc10 : wok w10 bc2 1 := x10.wok (n9.ext.wok (x8.wok nk4))
      have s9 := n9.size
      have hbc2l := wok_lt wbc10
      refine W_sq fun K hK => (W_draw (some (some [m, b2])) (some 13) [(0, 0, 0), (0, 1, 0), (0, 2, 0), (0, 3, 0), (0, 4, 0), (0, 5, 0), (0, 6, 0), (0, 8, 0), (0, 9, 0), (2, 7, 10), (1, 11, 0), (0, 12, 0), (1, 13, 0)] mixed (by kernel_rfl) ?_); simp only [↓List.toList_toArray, ↓rgd, ↓rgf, ↓reduceIte, Nat.reduceEqDiff, rg, ow_57, e0, ptr_eq, rt10, kp10, M2, M3]
      have rest : ∀ e' w', e' 0 = ptr m → e' 8 = .pointer (some ⟨w.heap.size, 0, none⟩) → e' 6 = .pointer (some ⟨q, 0, none⟩) → e' 14 = .pointer (some ⟨w4.heap.size, 0, none⟩) → Ext (rng bc2 0 1) w10 w' →
          (∃ ba2 cap2, rd w' bc2 0 = some (.slice (some ⟨ba2, 0, none⟩) 2 cap2) ∧ 2 ≤ cap2 ∧ Row w' ba2 0 [ptr b, ptr rb] ∧ wok w' ba2 cap2 ∧ w10.heap.size ≤ ba2) → K e' w' := by
        intro e' w14 f0 f8 f6 f14 x14 ⟨ba2, cap2, q0, q2, q3, q4, q5⟩
        refine hK _ _ ?_; clear hK K
        have s10' := x10.size
        have s14 := x14.size
        have rt14 : rd w14 m 2 = some (ptr b2) := x14.rd rt10 (by simp only [rng]; omega)
        have rm14 : Row w14 w4.heap.size 0 (E.cel md) := x14.row (x10.row (n9.ext.row (x8.row (x7.row r6 fun _ _ h => h) fun j _ h => by simp only [rng] at h; omega) fun _ _ h => h) fun j _ h => by simp only [rng] at h; omega) fun j _ h => by simp only [rng] at h; omega
        have im14 := iA_at rm14
        have wb14 : wok w14 b2 4 := x14.wok (x10.wok (n9.ext.wok (x8.wok nn.wb)))
        have M4 : readsB (some (some [m, w4.heap.size])) m = true := by simp [readsB]
        have M5 : readsB (some (some [m, w4.heap.size])) w4.heap.size = true := by simp [readsB]
        have s8' := x8.size
        have s6' : w6.heap.size = w4.heap.size + 1 := by omega
        refine W_sq fun K hK => (W_draw (some (some [m, w4.heap.size])) (some 10) [(0, 0, 0), (0, 1, 0), (0, 2, 0), (0, 3, 0), (0, 5, 0), (2, 4, 6), (1, 7, 0), (0, 8, 0), (0, 9, 0), (1, 10, 0)] mixed (by kernel_rfl) ?_); simp only [↓List.toList_toArray, ↓rgd, ↓rgf, ↓reduceIte, Nat.reduceEqDiff, rg, ow_57, f0, f14, ptr_eq, rt14, im14, M4, M5]
        have rest2 : ∀ e'' w', e'' 0 = ptr m → e'' 8 = .pointer (some ⟨w.heap.size, 0, none⟩) → e'' 6 = .pointer (some ⟨q, 0, none⟩) → Ext (rng b2 2 1) w14 w' →
            (∃ bi2 cap3, rd w' b2 2 = some (.slice (some ⟨bi2, 0, none⟩) 1 cap3) ∧ 1 ≤ cap3 ∧ Row w' bi2 0 (E.cel md) ∧ wok w' bi2 (cap3 * 1) ∧ w14.heap.size ≤ bi2) → K e'' w' := by
          intro e'' w18 f0 f8 f6 x18 ⟨bi2, cap3, p0, p2, p3, p4, p5⟩
          refine hK _ _ ?_; clear hK K
          have s18 := x18.size
          have hb4 : b < w4.heap.size := tL.lt _ _ (tL.self 0)
          have hrb4 : rb < w4.heap.size := tR.lt _ _ (tR.self 0)
          have hba18 := wok_lt (x18.wok q4)
          have hba14 := wok_lt q4
          have hbi18 := wok_lt p4
          have T18 : Ext (fun y o => (y = m ∧ o = 2) ∨ w4.heap.size ≤ y) w4 w18 := by
            refine ((((((X6.trans x7 (H := fun y o => (y = m ∧ o = 2) ∨ w4.heap.size ≤ y) (fun _ _ g => g.elim) fun _ _ _ g => g.elim).trans x8 (fun _ _ g => g) fun y o _ g => ?_).trans n9.ext (fun _ _ g => g) fun _ _ _ g => g.elim).trans x10 (fun _ _ g => g) fun y o _ g => ?_).trans x14 (fun _ _ g => g) fun y o _ g => ?_).trans x18 (fun _ _ g => g) fun y o _ g => ?_)
            all_goals simp only [rng] at g; omega
          have hFlm : ∀ y o, Fl y o → ¬ ((y = m ∧ o = 2) ∨ w4.heap.size ≤ y) := fun y o g k => by
            rcases k with ⟨rfl, _⟩ | k
            · exact hF'm _ (hFl _ _ g)
            · have := tL.lt _ _ g; omega
          have hFrm' : ∀ o, ¬ Fr m o := fun o g => by
            rcases hFr _ _ g with g | g
            · exact hF'm _ g
            · omega
          have hFrm : ∀ y o, Fr y o → ¬ ((y = m ∧ o = 2) ∨ w4.heap.size ≤ y) := fun y o g k => by
            rcases k with ⟨rfl, _⟩ | k
            · exact hFrm' _ g
            · have := tR.lt _ _ g; omega
          have tL18 := tL.ext T18 hFlm
          have tR18 := tR.ext T18 hFrm
          have kp18 : rd w18 b2 3 = some (ptr bc2) := x18.rd (x14.rd kp10 (by simp only [rng]; omega)) (by simp only [rng]; omega)
          have K18 : Kids w18 bc2 ba2 0 cap2 [b, rb] := ⟨x18.rd q0 (by simp only [rng]; omega), x18.wok (x14.wok wbc10), x18.row q3 fun j _ h => by simp only [rng] at h; omega, by rw [Nat.zero_add]; exact x18.wok q4, q2, by omega⟩
          have wb18 := x18.wok wb14
          have rt18 : rd w18 m 2 = some (ptr b2) := x18.rd rt14 (by simp only [rng]; omega)
          have hcn : cntP (cnW w18) [b, rb] = xl.length + xr.length := by simp [cntP, cnW_eq tL18.cnt, cnW_eq tR18.cnt]
          have hxl : xs.length = xl.length + 1 + xr.length := by rw [hxs]; simp; omega
          refine W_sq fun K hK => (W_text [true, true, true, true, false] (by kernel_rfl) ?_); simp only [↓List.toList_toArray, ↓rgd, ↓rgf, ↓reduceIte, Nat.reduceEqDiff, rg, ow_57, f0, ptr_eq, rt18]
          refine do_call fn_72 (by simp only [evt, evc, upd_eq, Nat.reduceEqDiff, ↓reduceIte, maT, maC, maN, isnN, isnS] <;> rfl) (count_kids b2 1 cap3 bc2 ba2 0 cap2 _ [b, rb] (cnW w18) w18 p0 kp18 wb18 K18 (by omega) (by omega) (fun p hp => by
            simp only [List.mem_cons, List.not_mem_nil, or_false] at hp
            rcases hp with rfl | rfl
            · exact ⟨by rw [cnW_eq tL18.cnt]; exact tL18.cnt, by omega⟩
            · exact ⟨by rw [cnW_eq tR18.cnt]; exact tR18.cnt, by omega⟩) (by omega) (by simp)) ?_
          rintro _ w19 ⟨x19, d1, s19⟩
          refine ⟨trivial, ?_⟩
          simp only [↓List.toList_toArray, ↓rgd, ↓rgf, ↓reduceIte, Nat.reduceEqDiff, rg, ow_57]
          refine hK _ _ ?_; clear hK K
          rw [hcn] at d1
          have T19 : Ext (fun y o => (y = m ∧ o = 2) ∨ w4.heap.size ≤ y) w4 w19 := T18.trans x19 (fun _ _ g => g) fun y o _ g => by simp only [rng] at g; omega
          have c19 := c4.ext T19 fun o h2 _ g => by
            rcases g with g | g
            · exact h2 g.2
            · have := wok_lt c4.wok; omega
          have ct19 : rd w19 m 3 = some (.int .i64 xs.length) := T19.rd (x4.rd ct3 (hF'm 3)) fun g => by omega
          have rx19 : Row w19 w.heap.size 0 (E.cel x) := T19.row (x4.row (x3.row rx fun j _ g => by have := hFlt _ _ g; omega) fun j _ g => by
            rcases hF3 _ _ g with g | g
            · have := hFlt _ _ g; omega
            · omega) fun j _ g => by omega
          have kx19 := kV_at rx19
          have wq19 : wok w19 q 0 := T19.wok (x4.wok wq3)
          have own19 : Own E w19 b2 iso xs.length bi2 0 cap3 [md] (ptr bc2) := by
            have h0 := x19.rd (x18.rd (x14.rd (x10.rd (n9.ext.rd (x8.rd nn.h0 (by simp only [rng]; omega)) fun h => h) (by simp only [rng]; omega)) (by simp only [rng]; omega)) (by simp only [rng]; omega)) (by simp only [rng]; omega)
            refine ⟨h0, ?_, x19.rd p0 (by simp only [rng]; omega), x19.rd kp18 (by simp only [rng]; omega), x19.wok wb18, ?_, by rw [Nat.zero_add]; exact x19.wok p4, p2, by omega⟩
            · rw [d1, hxl]; congr 3; omega
            · rw [flat_one]; exact x19.row p3 fun j _ h => by simp only [rng] at h; omega
          have K19 := K18.ext x19 fun y o g h => by simp only [kidF, rng] at g h; omega
          have tL19 := tL.ext T19 hFlm
          have tR19 := tR.ext T19 hFrm
          have tr19 : Tr E iso (d - 1) (2 * d - 1) (h + 1) w19 1 b2 xs (fun y o => ownF E b2 bi2 0 cap3 y o ∨ kidF bc2 ba2 0 cap2 y o ∨ ∃ c ∈ [Kid.mk b xl Fl, Kid.mk rb xr Fr], c.F y o) := by
            refine ⟨bi2, 0, cap3, bc2, ba2, 0, cap2, [md], [Kid.mk b xl Fl, Kid.mk rb xr Fr], own19, K19, Nat.le_refl _, (by show 1 ≤ 2 * d - 1; omega), rfl, hxs, ?_, ⟨nk2, by omega, by omega, by omega, ?_, ?_, ?_⟩, fun _ _ => Iff.rfl⟩
            · intro c hc
              simp only [List.mem_cons, List.not_mem_nil, or_false] at hc
              rcases hc with rfl | rfl
              · exact tL19
              · exact tR19
            · intro c hc y o g k
              have : y < w4.heap.size := by
                simp only [List.mem_cons, List.not_mem_nil, or_false] at hc
                rcases hc with rfl | rfl
                · exact tL.lt _ _ g
                · exact tR.lt _ _ g
              simp only [ownF, rng] at k; omega
            · intro c hc y o g k
              have : y < w4.heap.size := by
                simp only [List.mem_cons, List.not_mem_nil, or_false] at hc
                rcases hc with rfl | rfl
                · exact tL.lt _ _ g
                · exact tR.lt _ _ g
              simp only [kidF, rng] at k; omega
            · exact List.pairwise_cons.2 ⟨fun c hc y o g k => by
                simp only [List.mem_cons, List.not_mem_nil, or_false] at hc
                subst hc; exact hlr y o g k, List.pairwise_singleton _ _⟩
          have hF2 : ∀ y o, (ownF E b2 bi2 0 cap3 y o ∨ kidF bc2 ba2 0 cap2 y o ∨ ∃ c ∈ [Kid.mk b xl Fl, Kid.mk rb xr Fr], c.F y o) → y ≠ m ∧ (F y o ∨ w2.heap.size ≤ y) := by
            have hF'2 : ∀ y o, F' y o → y ≠ m ∧ (F y o ∨ w2.heap.size ≤ y) := fun y o g => ⟨fun k => hF'm o (k ▸ g), hF3 y o g⟩
            rintro y o (g | g | ⟨c, hc, g⟩)
            · simp only [ownF, rng] at g; omega
            · simp only [kidF, rng] at g; omega
            · simp only [List.mem_cons, List.not_mem_nil, or_false] at hc
              rcases hc with rfl | rfl
              · exact hF'2 y o (hFl y o g)
              · rcases hFr y o g with g | g
                · exact hF'2 y o g
                · exact ⟨by omega, .inr (by omega)⟩
          refine W_sq fun K hK => (W_text [true, true, true, true, true, false, true, true, false, true] (by kernel_rfl) ?_); simp only [↓List.toList_toArray, ↓rgd, ↓rgf, ↓reduceIte, Nat.reduceEqDiff, rg, ow_57, f0, f8, kx19, wok.ty tyP (T19.wok (x4.wok (x3.wok x2wok)))]
          refine do_call fn_57 (by simp only [evt, evc, upd_eq, Nat.reduceEqDiff, ↓reduceIte, maT, maC, maN, isnN, isnS] <;> rfl) (ih (xs.length - (h + 1)) (by omega) (h + 1) b2 xs _ w19 rfl c19 ct19 ha (x19.rd rt18 (by simp only [rng]; omega)) tr19 (fun o g => (hF2 _ _ g).1 rfl) hbig) ?_
          rintro _ w20p ⟨rfl, x20p, F'', hM, hF''⟩
          refine ⟨trivial, ?_⟩
          simp only [↓List.toList_toArray, ↓rgd, ↓rgf, ↓reduceIte, Nat.reduceEqDiff, rg, ow_57]
          refine do_store (by simp only [evt, upd_eq, Nat.reduceEqDiff, ↓reduceIte]; exact f6) (by simp only [evt, evc, upd_eq, Nat.reduceEqDiff, ↓reduceIte, ntT, ntF] <;> rfl) sz_74 rfl (x20p.wok wq19) (by decide) (fun _ h => by cases h) fun w20 x20s r20 s20 => ⟨trivial, ?_⟩
          simp only [↓List.toList_toArray, ↓rgd, ↓rgf, ↓reduceIte, Nat.reduceEqDiff, rg, ow_57]
          refine hK _ _ ?_; clear hK K
          have hM := hM.extG x20s (fun y o _ k => by simp only [rng] at k; omega) fun o k => by simp only [rng] at k; omega
          have x20 := x20p.trans x20s (fun _ _ g => g) fun y o _ k => by simp only [rng] at k; omega
          have s20' := x20p.size
          refine W_ret ?_
          simp only [andThen_ret]
          refine endQ_ct (by simp only [upd_eq, Nat.reduceEqDiff, ↓reduceIte]; exact f6) (by simp only [upd_eq, Nat.reduceEqDiff, ↓reduceIte] <;> rfl) ld_74 ld_unit (hR _ _ ⟨rfl, ?_, F'', hM, fun y o g => ?_⟩)
          · refine (((X3.trans x4 (H := mapF m F) (fun _ _ g => .inl g) fun y o hy g => ?_).trans T19 (fun _ _ g => g) fun y o hy g => ?_).trans x20 (fun _ _ g => g) fun y o hy g => ?_)
            · rcases hF3 y o g with g | g
              · exact .inl g
              · omega
            · rcases g with g | g
              · exact .inr ⟨g.1, .inl g.2⟩
              · omega
            · rcases g with g | g
              · rcases (hF2 y o g).2 with g | g
                · exact .inl g
                · omega
              · exact .inr g
          · rcases hF'' y o g with g | g
            · exact (hF2 y o g).2.imp id fun g => by omega
            · exact .inr (by omega)
        constructor
        · refine do_bsl rfl bs_it0 fun w15 n15 => ⟨.inr (keep2 n15.ext ⟨by rw [sz_dr]; omega, fun _ h => h⟩ ⟨by rw [sz_dr]; omega, fun _ h => h⟩), ?_⟩
          simp only [↓List.toList_toArray, ↓rgd, ↓rgf, ↓reduceIte, Nat.reduceEqDiff, rg, ow_57]
          have n15 := n15.od
          have s15 := n15.size
          refine do_bsl rfl (bs_it1 md) fun w16 n16 => ⟨.inr (keep2 n16.ext ⟨by omega, fun _ h => h⟩ ⟨by omega, fun _ h => h⟩), ?_⟩
          simp only [↓List.toList_toArray, ↓rgd, ↓rgf, ↓reduceIte, Nat.reduceEqDiff, rg, ow_57]
          have s16 := n16.size
          have hv : SlV w16 1 (.slice (some ⟨w14.heap.size, 0, none⟩) 0 0) 0 [] := ⟨rfl, .inr ⟨_, 0, 0, rfl, Nat.le_refl _, Row.nil _ _ _, (n16.ext.wok n15.wok).R (Nat.le_refl _)⟩⟩
          have hu : SlV w16 1 (.slice (some ⟨w15.heap.size, 0, none⟩) 1 1) 1 (E.cel md) := ⟨rfl, .inr ⟨_, 0, 1, rfl, Nat.le_refl _, n16.row, n16.wok.R (Nat.le_refl _)⟩⟩
          have X16 : Ext noF w14 w16 := n15.ext.tr n16.ext
          refine do_append (by simp only [evt, evc, upd_eq, Nat.reduceEqDiff, ↓reduceIte, ntT, ntF] <;> rfl) (by simp only [evt, evc, upd_eq, Nat.reduceEqDiff, ↓reduceIte, ntT, ntF] <;> rfl) el_it rfl ni_93 hv hu (by omega) (by decide) (E.one md) fun v17 w17 a17 => ?_
          obtain ⟨cap3, rfl, hcap3, row17, wok17, x17, s17⟩ := app_new a17 (by omega)
          refine ⟨.inr (keep2 x17 ⟨by omega, fun _ h => h⟩ ⟨by omega, fun _ h => h⟩), ?_⟩
          simp only [↓List.toList_toArray, ↓rgd, ↓rgf, ↓reduceIte, Nat.reduceEqDiff, rg, ow_57, ptr_eq]
          refine do_store (by simp only [evt, evc, upd_eq, Nat.reduceEqDiff, ↓reduceIte, ntT, ntF] <;> rfl) (by simp only [evt, evc, upd_eq, Nat.reduceEqDiff, ↓reduceIte, ntT, ntF] <;> rfl) sz_93 rfl (x17.wok (X16.wok wb14)) (by decide) (oc_one rfl rfl) fun w18 x18 r18 s18 => ⟨.inl trivial, ?_⟩
          simp only [↓List.toList_toArray, ↓rgd, ↓rgf, ↓reduceIte, Nat.reduceEqDiff, rg, ow_57]
          refine rest2 _ _ (by simp only [upd_eq, Nat.reduceEqDiff, ↓reduceIte]; exact f0) (by simp only [upd_eq, Nat.reduceEqDiff, ↓reduceIte]; exact f8) (by simp only [upd_eq, Nat.reduceEqDiff, ↓reduceIte]; exact f6) (((X16.tr x17).mono fun _ _ _ g => g.elim).tr x18) ⟨w16.heap.size, cap3, (Row.cons.1 r18).1, hcap3, x18.row row17 fun j _ h => by simp only [rng] at h; omega, x18.wok wok17, by omega⟩
        · refine do_bsl rfl (bs_it1 md) fun w15 n15 => ⟨.inr (keep2 n15.ext ⟨by rw [sz_dr]; omega, fun _ h => h⟩ ⟨by rw [sz_dr]; omega, fun _ h => h⟩), ?_⟩
          simp only [↓List.toList_toArray, ↓rgd, ↓rgf, ↓reduceIte, Nat.reduceEqDiff, rg, ow_57]
          have n15 := n15.od
          have s15 := n15.size
          refine do_bsl rfl bs_it0 fun w16 n16 => ⟨.inr (keep2 n16.ext ⟨by omega, fun _ h => h⟩ ⟨by omega, fun _ h => h⟩), ?_⟩
          simp only [↓List.toList_toArray, ↓rgd, ↓rgf, ↓reduceIte, Nat.reduceEqDiff, rg, ow_57]
          have s16 := n16.size
          have hv : SlV w16 1 (.slice (some ⟨w15.heap.size, 0, none⟩) 0 0) 0 [] := ⟨rfl, .inr ⟨_, 0, 0, rfl, Nat.le_refl _, Row.nil _ _ _, n16.wok.R (Nat.le_refl _)⟩⟩
          have hu : SlV w16 1 (.slice (some ⟨w14.heap.size, 0, none⟩) 1 1) 1 (E.cel md) := ⟨rfl, .inr ⟨_, 0, 1, rfl, Nat.le_refl _, n16.ext.row n15.row fun _ _ h => h, (n16.ext.wok n15.wok).R (Nat.le_refl _)⟩⟩
          have X16 : Ext noF w14 w16 := n15.ext.tr n16.ext
          refine do_append (by simp only [evt, evc, upd_eq, Nat.reduceEqDiff, ↓reduceIte, ntT, ntF] <;> rfl) (by simp only [evt, evc, upd_eq, Nat.reduceEqDiff, ↓reduceIte, ntT, ntF] <;> rfl) el_it rfl ni_93 hv hu (by omega) (by decide) (E.one md) fun v17 w17 a17 => ?_
          obtain ⟨cap3, rfl, hcap3, row17, wok17, x17, s17⟩ := app_new a17 (by omega)
          refine ⟨.inr (keep2 x17 ⟨by omega, fun _ h => h⟩ ⟨by omega, fun _ h => h⟩), ?_⟩
          simp only [↓List.toList_toArray, ↓rgd, ↓rgf, ↓reduceIte, Nat.reduceEqDiff, rg, ow_57, ptr_eq]
          refine do_store (by simp only [evt, evc, upd_eq, Nat.reduceEqDiff, ↓reduceIte, ntT, ntF] <;> rfl) (by simp only [evt, evc, upd_eq, Nat.reduceEqDiff, ↓reduceIte, ntT, ntF] <;> rfl) sz_93 rfl (x17.wok (X16.wok wb14)) (by decide) (oc_one rfl rfl) fun w18 x18 r18 s18 => ⟨.inl trivial, ?_⟩
          simp only [↓List.toList_toArray, ↓rgd, ↓rgf, ↓reduceIte, Nat.reduceEqDiff, rg, ow_57]
          refine rest2 _ _ (by simp only [upd_eq, Nat.reduceEqDiff, ↓reduceIte]; exact f0) (by simp only [upd_eq, Nat.reduceEqDiff, ↓reduceIte]; exact f8) (by simp only [upd_eq, Nat.reduceEqDiff, ↓reduceIte]; exact f6) (((X16.tr x17).mono fun _ _ _ g => g.elim).tr x18) ⟨w16.heap.size, cap3, (Row.cons.1 r18).1, hcap3, x18.row row17 fun j _ h => by simp only [rng] at h; omega, x18.wok wok17, by omega⟩
      constructor
      · refine do_bsl rfl bs_kid0 fun w11 n11 => ⟨.inr (keep2 n11.ext ⟨by rw [sz_dr]; omega, fun _ h => h⟩ ⟨by rw [sz_dr]; omega, fun _ h => h⟩), ?_⟩
        simp only [↓List.toList_toArray, ↓rgd, ↓rgf, ↓reduceIte, Nat.reduceEqDiff, rg, ow_57]
        have n11 := n11.od
        have s11 := n11.size
        refine do_bsl rfl (bs_kid2 b rb) fun w12 n12 => ⟨.inr (keep2 n12.ext ⟨by omega, fun _ h => h⟩ ⟨by omega, fun _ h => h⟩), ?_⟩
        simp only [↓List.toList_toArray, ↓rgd, ↓rgf, ↓reduceIte, Nat.reduceEqDiff, rg, ow_57]
        have s12 := n12.size
        have hv : SlV w12 1 (.slice (some ⟨w10.heap.size, 0, none⟩) 0 0) 0 [] := ⟨rfl, .inr ⟨_, 0, 0, rfl, Nat.le_refl _, Row.nil _ _ _, (n12.ext.wok n11.wok).R (Nat.le_refl _)⟩⟩
        have hu : SlV w12 1 (.slice (some ⟨w11.heap.size, 0, none⟩) 2 2) 2 [ptr b, ptr rb] := ⟨rfl, .inr ⟨_, 0, 2, rfl, Nat.le_refl _, n12.row, n12.wok.R (Nat.le_refl _)⟩⟩
        have X12 : Ext noF w10 w12 := n11.ext.tr n12.ext
        refine do_append (by simp only [evt, evc, upd_eq, Nat.reduceEqDiff, ↓reduceIte, ntT, ntF] <;> rfl) (by simp only [evt, evc, upd_eq, Nat.reduceEqDiff, ↓reduceIte, ntT, ntF] <;> rfl) el_kid rfl ni_97 hv hu (by omega) (by decide) (by intro v hv; simp at hv; rcases hv with rfl | rfl <;> rfl) fun v13 w13 a13 => ?_
        obtain ⟨cap2, rfl, hcap2, row13, wok13, x13, s13⟩ := app_new a13 (by omega)
        refine ⟨.inr (keep2 x13 ⟨by omega, fun _ h => h⟩ ⟨by omega, fun _ h => h⟩), ?_⟩
        simp only [↓List.toList_toArray, ↓rgd, ↓rgf, ↓reduceIte, Nat.reduceEqDiff, rg, ow_57]
        refine do_store (by simp only [evt, evc, upd_eq, Nat.reduceEqDiff, ↓reduceIte, ntT, ntF] <;> rfl) (by simp only [evt, evc, upd_eq, Nat.reduceEqDiff, ↓reduceIte, ntT, ntF] <;> rfl) sz_97 rfl (x13.wok (X12.wok wbc10)) (by decide) (oc_one rfl rfl) fun w14 x14 r14 s14 => ⟨.inl trivial, ?_⟩
        simp only [↓List.toList_toArray, ↓rgd, ↓rgf, ↓reduceIte, Nat.reduceEqDiff, rg, ow_57]
        refine rest _ _ (by simp only [upd_eq, Nat.reduceEqDiff, ↓reduceIte]; exact e0) (by simp only [upd_eq, Nat.reduceEqDiff, ↓reduceIte]; exact e8) (by simp only [upd_eq, Nat.reduceEqDiff, ↓reduceIte]; exact e6) (by simp only [upd_eq, Nat.reduceEqDiff, ↓reduceIte] <;> rfl) (((X12.tr x13).mono fun _ _ _ g => g.elim).tr x14) ⟨w12.heap.size, cap2, (Row.cons.1 r14).1, hcap2, x14.row row13 fun j _ h => by simp only [rng] at h; omega, by have := x14.wok wok13; rwa [Nat.mul_one] at this, by omega⟩
      · refine do_bsl rfl (bs_kid2 b rb) fun w11 n11 => ⟨.inr (keep2 n11.ext ⟨by rw [sz_dr]; omega, fun _ h => h⟩ ⟨by rw [sz_dr]; omega, fun _ h => h⟩), ?_⟩
        simp only [↓List.toList_toArray, ↓rgd, ↓rgf, ↓reduceIte, Nat.reduceEqDiff, rg, ow_57]
        have n11 := n11.od
        have s11 := n11.size
        refine do_bsl rfl bs_kid0 fun w12 n12 => ⟨.inr (keep2 n12.ext ⟨by omega, fun _ h => h⟩ ⟨by omega, fun _ h => h⟩), ?_⟩
        simp only [↓List.toList_toArray, ↓rgd, ↓rgf, ↓reduceIte, Nat.reduceEqDiff, rg, ow_57]
        have s12 := n12.size
        have hv : SlV w12 1 (.slice (some ⟨w11.heap.size, 0, none⟩) 0 0) 0 [] := ⟨rfl, .inr ⟨_, 0, 0, rfl, Nat.le_refl _, Row.nil _ _ _, n12.wok.R (Nat.le_refl _)⟩⟩
        have hu : SlV w12 1 (.slice (some ⟨w10.heap.size, 0, none⟩) 2 2) 2 [ptr b, ptr rb] := ⟨rfl, .inr ⟨_, 0, 2, rfl, Nat.le_refl _, n12.ext.row n11.row fun _ _ h => h, (n12.ext.wok n11.wok).R (Nat.le_refl _)⟩⟩
        have X12 : Ext noF w10 w12 := n11.ext.tr n12.ext
        refine do_append (by simp only [evt, evc, upd_eq, Nat.reduceEqDiff, ↓reduceIte, ntT, ntF] <;> rfl) (by simp only [evt, evc, upd_eq, Nat.reduceEqDiff, ↓reduceIte, ntT, ntF] <;> rfl) el_kid rfl ni_97 hv hu (by omega) (by decide) (by intro v hv; simp at hv; rcases hv with rfl | rfl <;> rfl) fun v13 w13 a13 => ?_
        obtain ⟨cap2, rfl, hcap2, row13, wok13, x13, s13⟩ := app_new a13 (by omega)
        refine ⟨.inr (keep2 x13 ⟨by omega, fun _ h => h⟩ ⟨by omega, fun _ h => h⟩), ?_⟩
        simp only [↓List.toList_toArray, ↓rgd, ↓rgf, ↓reduceIte, Nat.reduceEqDiff, rg, ow_57]
        refine do_store (by simp only [evt, evc, upd_eq, Nat.reduceEqDiff, ↓reduceIte, ntT, ntF] <;> rfl) (by simp only [evt, evc, upd_eq, Nat.reduceEqDiff, ↓reduceIte, ntT, ntF] <;> rfl) sz_97 rfl (x13.wok (X12.wok wbc10)) (by decide) (oc_one rfl rfl) fun w14 x14 r14 s14 => ⟨.inl trivial, ?_⟩
        simp only [↓List.toList_toArray, ↓rgd, ↓rgf, ↓reduceIte, Nat.reduceEqDiff, rg, ow_57]
        refine rest _ _ (by simp only [upd_eq, Nat.reduceEqDiff, ↓reduceIte]; exact e0) (by simp only [upd_eq, Nat.reduceEqDiff, ↓reduceIte]; exact e8) (by simp only [upd_eq, Nat.reduceEqDiff, ↓reduceIte]; exact e6) (by simp only [upd_eq, Nat.reduceEqDiff, ↓reduceIte] <;> rfl) (((X12.tr x13).mono fun _ _ _ g => g.elim).tr x14) ⟨w12.heap.size, cap2, (Row.cons.1 r14).1, hcap2, x14.row row13 fun j _ h => by simp only [rng] at h; omega, by have := x14.wok wok13; rwa [Nat.mul_one] at this, by omega⟩
    · refine W_seq ?_
      refine W_sq fun K hK => (W_text [true] (by kernel_rfl) ?_); simp only [↓List.toList_toArray, ↓rgd, ↓rgf, ↓reduceIte, Nat.reduceEqDiff, rg, ow_57, e11]
      refine hK _ _ ?_; clear hK K
      refine W_false (by simp only [evt, evc, upd_eq, Nat.reduceEqDiff, ↓reduceIte, ntT, ntF] <;> rfl) (W_skip ?_)
      show W _ _ _ _ _ _
      refine W_seq ?_
      have hpl := put_length O κ x xs
      have hpa := put_asc O κ (x := x) ha
      cases hh2 : hit O κ (κ x) xs with
      | true =>
        rw [hh2] at hpl
        refine W_sq fun K hK => (W_text [true] (by kernel_rfl) ?_); simp only [↓List.toList_toArray, ↓rgd, ↓rgf, ↓reduceIte, Nat.reduceEqDiff, rg, ow_57, e10, hh2]
        refine hK _ _ ?_; clear hK K
        refine W_true (by simp only [evt, evc, upd_eq, Nat.reduceEqDiff, ↓reduceIte, ntT, ntF] <;> rfl) ?_
        refine W_sq fun K hK => (W_text [true, false, true] (by kernel_rfl) ?_); simp only [↓List.toList_toArray, ↓rgd, ↓rgf, ↓reduceIte, Nat.reduceEqDiff, rg, ow_57, e9]
        refine do_store (by simp only [evt, upd_eq, Nat.reduceEqDiff, ↓reduceIte]; exact e6) (by simp only [evt, evc, upd_eq, Nat.reduceEqDiff, ↓reduceIte, ntT, ntF] <;> rfl) sz_74 rfl wq3 (by decide) (fun _ h => by cases h) fun w4 x4 r4 s4 => ⟨trivial, ?_⟩
        simp only [↓List.toList_toArray, ↓rgd, ↓rgf, ↓reduceIte, Nat.reduceEqDiff, rg, ow_57]
        refine hK _ _ ?_; clear hK K
        have M3 : MapAt w3 m d iso (put O κ x xs) F' := ⟨c3, by rw [hpl]; exact ct3, hpa, .inr ⟨h, b, rt3, hT'⟩, hF'm, hT'.lt⟩
        refine W_ret ?_
        simp only [andThen_ret]
        exact endQ_ct (by simp only [upd_eq, Nat.reduceEqDiff, ↓reduceIte]; exact e6) (by simp only [upd_eq, Nat.reduceEqDiff, ↓reduceIte] <;> rfl) ld_74 ld_unit (hR _ _ ⟨by rw [hh2]; rfl, X3.trans x4 (fun _ _ g => .inl g) fun y o _ k => by simp only [rng] at k; omega, F', M3.extG x4 (fun y o _ k => by simp only [rng] at k; omega) fun o k => by simp only [rng] at k; omega, fun y o g => (hF3 y o g).imp id fun g => by omega⟩)
      | false =>
        rw [hh2] at hpl
        have q1 := wadd1 xs.length (by omega)
        refine W_sq fun K hK => (W_text [true] (by kernel_rfl) ?_); simp only [↓List.toList_toArray, ↓rgd, ↓rgf, ↓reduceIte, Nat.reduceEqDiff, rg, ow_57, e10, hh2]
        refine hK _ _ ?_; clear hK K
        refine W_false (by simp only [evt, evc, upd_eq, Nat.reduceEqDiff, ↓reduceIte, ntT, ntF] <;> rfl) (W_skip ?_)
        show W _ _ _ _ _ _
        refine W_sq fun K hK => (W_text [true, true, true, true, true, true, true, false] (by kernel_rfl) ?_); simp only [↓List.toList_toArray, ↓rgd, ↓rgf, ↓reduceIte, Nat.reduceEqDiff, rg, ow_57, e0, ptr_eq, ct3, q1]
        refine do_store (by simp only [evt, evc, upd_eq, Nat.reduceEqDiff, ↓reduceIte, ntT, ntF] <;> rfl) (by simp only [evt, evc, upd_eq, Nat.reduceEqDiff, ↓reduceIte, ntT, ntF] <;> rfl) sz_3 rfl c3.wok (by decide) (oc_one rfl rfl) fun w4 x4 r4 s4 => ⟨trivial, ?_⟩
        simp only [↓List.toList_toArray, ↓rgd, ↓rgf, ↓reduceIte, Nat.reduceEqDiff, rg, ow_57]
        refine hK _ _ ?_; clear hK K
        have c4 := c3.ext x4 fun o _ h3 g => h3 (by simp only [rng] at g; omega)
        have tm4 := wok.ty tyP c4.wok
        refine W_sq fun K hK => (W_text [true, true, true, true, true, false, true] (by kernel_rfl) ?_); simp only [↓List.toList_toArray, ↓rgd, ↓rgf, ↓reduceIte, Nat.reduceEqDiff, rg, ow_57, e0, ptr_eq, tm4]
        refine do_store (by simp only [evt, upd_eq, Nat.reduceEqDiff, ↓reduceIte]; exact e6) (by simp only [evt, evc, upd_eq, Nat.reduceEqDiff, ↓reduceIte, ntT, ntF] <;> rfl) sz_74 rfl (x4.wok wq3) (by decide) (fun _ h => by cases h) fun w5 x5 r5 s5 => ⟨trivial, ?_⟩
        simp only [↓List.toList_toArray, ↓rgd, ↓rgf, ↓reduceIte, Nat.reduceEqDiff, rg, ow_57]
        refine hK _ _ ?_; clear hK K
        have hat : at? O κ (κ x) xs = none := by unfold at?; rw [hh2]; rfl
        have M4 : MapAt w4 m d iso (put O κ x xs) F' := by
          refine ⟨c4, ?_, hpa, .inr ⟨h, b, x4.rd rt3 (by simp only [rng]; omega), ?_⟩, hF'm, fun y o g => ?_⟩
          · rw [hpl]; exact (Row.cons.1 r4).1
          · exact hT'.ext x4 fun y o g k => hF'm o (by simp only [rng] at k; rw [← k.1]; exact g)
          · have := hT'.lt y o g; omega
        exact W_ret (endQ_ct (by simp only [upd_eq, Nat.reduceEqDiff, ↓reduceIte]; exact e6) (by simp only [upd_eq, Nat.reduceEqDiff, ↓reduceIte] <;> rfl) ld_74 ld_unit (hR _ _ ⟨by rw [hat, hh2]; rfl, (X3.trans x4 (H := mapF m F) (fun _ _ g => .inl g) fun y o _ g => .inr ⟨g.1, by simp only [rng] at g; omega⟩).trans x5 (fun _ _ g => g) fun y o _ k => by simp only [rng] at k; omega, F', M4.extG x5 (fun y o _ k => by simp only [rng] at k; omega) fun o k => by simp only [rng] at k; omega,
          fun y o g => (hF3 y o g).imp id fun g => by omega⟩))
  refine ⟨?_, ?_⟩
  · refine do_call fn_70 (by simp only [evt, evc, upd_eq, Nat.reduceEqDiff, ↓reduceIte, maT, maC, maN, isnN, isnS] <;> rfl) (set_any m d iso x hd hd' h _ 1 rfl (Nat.le_refl 1) b xs F _ m 2 (c2.ext (Ext.dr noF _ _) fun _ _ _ g => g) ((ht.ext X2 fun _ _ _ g => g).ext (Ext.dr noF _ _) fun _ _ _ g => g) ha hbig hm rt2 (hm 2)) ?_
    rintro v w3p ⟨x3p, F', hF', hres⟩
    refine ⟨(by first | exact trivial | exact .inr (keeps_on x3p fun y hy => by
      simp only [List.mem_cons, List.not_mem_nil, or_false] at hy
      subst hy
      exact ⟨by (try rw [sz_dr]); omega, fun o g => by have := hFlt _ _ g; omega⟩)), ?_⟩
    have x3p := x3p.od
    have hF3 : ∀ y o, F' y o → F y o ∨ w2.heap.size ≤ y := hF'
    have s3p := x3p.size
    rcases hres with ⟨rfl, hT', hh⟩ | ⟨rfl, hT'⟩
    · simp only [↓List.toList_toArray, ↓rgd, ↓rgf, ↓reduceIte, Nat.reduceEqDiff, rg, ow_57]
      refine do_alloc z_unit fun w3a n3a => ⟨(by first | exact trivial | exact .inr (keeps_on n3a.ext fun y hy => by
        simp only [List.mem_cons, List.not_mem_nil, or_false] at hy
        subst hy
        exact ⟨by (try rw [sz_dr]); omega, fun o g => g⟩)), ?_⟩
      simp only [↓List.toList_toArray, ↓rgd, ↓rgf, ↓reduceIte, Nat.reduceEqDiff, rg, ow_57]
      have s3a := n3a.size
      refine do_store (by simp only [evt, evc, upd_eq, Nat.reduceEqDiff, ↓reduceIte, ntT, ntF] <;> rfl) (by simp only [evt, evc, upd_eq, Nat.reduceEqDiff, ↓reduceIte, ntT, ntF] <;> rfl) sz_74 rfl n3a.wok (by decide) (fun _ h => by cases h) fun w3 x3s r3s s3s => ⟨(by first | exact trivial | exact .inr (keeps_on x3s fun y hy => by
        simp only [List.mem_cons, List.not_mem_nil, or_false] at hy
        subst hy
        exact ⟨by (try rw [sz_dr]); omega, fun o g => by simp only [rng] at g; omega⟩)), ?_⟩
      simp only [↓List.toList_toArray, ↓rgd, ↓rgf, ↓reduceIte, Nat.reduceEqDiff, rg, ow_57]
      have TT := (hT'.ext n3a.ext fun _ _ _ g => g).ext x3s fun y o g k => by simp only [rng] at k; omega
      exact rest0 _ _ false true (by simp only [upd_eq, Nat.reduceEqDiff, ↓reduceIte]; exact e0) (by simp only [upd_eq, Nat.reduceEqDiff, ↓reduceIte] <;> rfl) (by simp only [upd_eq, Nat.reduceEqDiff, ↓reduceIte] <;> rfl) ⟨_, by simp only [upd_eq, Nat.reduceEqDiff, ↓reduceIte]; rfl⟩ (by simp only [upd_eq, Nat.reduceEqDiff, ↓reduceIte] <;> rfl) (by simp only [upd_eq, Nat.reduceEqDiff, ↓reduceIte] <;> rfl) (x3p.trans (noF_of n3a.ext x3s fun y o _ k => by simp only [rng] at k; omega) (fun _ _ g => g) fun _ _ _ g => g.elim) ⟨F', hF3, .inl ⟨rfl, rfl, TT, hh⟩⟩
    · simp only [↓List.toList_toArray, ↓rgd, ↓rgf, ↓reduceIte, Nat.reduceEqDiff, rg, ow_57]
      refine do_alloc z_unit fun w3a n3a => ⟨(by first | exact trivial | exact .inr (keeps_on n3a.ext fun y hy => by
        simp only [List.mem_cons, List.not_mem_nil, or_false] at hy
        subst hy
        exact ⟨by (try rw [sz_dr]); omega, fun o g => g⟩)), ?_⟩
      simp only [↓List.toList_toArray, ↓rgd, ↓rgf, ↓reduceIte, Nat.reduceEqDiff, rg, ow_57]
      have s3a := n3a.size
      refine do_store (by simp only [evt, evc, upd_eq, Nat.reduceEqDiff, ↓reduceIte, ntT, ntF] <;> rfl) (by simp only [evt, evc, upd_eq, Nat.reduceEqDiff, ↓reduceIte, ntT, ntF] <;> rfl) sz_74 rfl n3a.wok (by decide) (fun _ h => by cases h) fun w3 x3s r3s s3s => ⟨(by first | exact trivial | exact .inr (keeps_on x3s fun y hy => by
        simp only [List.mem_cons, List.not_mem_nil, or_false] at hy
        subst hy
        exact ⟨by (try rw [sz_dr]); omega, fun o g => by simp only [rng] at g; omega⟩)), ?_⟩
      simp only [↓List.toList_toArray, ↓rgd, ↓rgf, ↓reduceIte, Nat.reduceEqDiff, rg, ow_57]
      have TT := (hT'.ext n3a.ext fun _ _ _ g => g).ext x3s fun y o g k => by simp only [rng] at k; omega
      exact rest0 _ _ _ false (by simp only [upd_eq, Nat.reduceEqDiff, ↓reduceIte]; exact e0) (by simp only [upd_eq, Nat.reduceEqDiff, ↓reduceIte] <;> rfl) (by simp only [upd_eq, Nat.reduceEqDiff, ↓reduceIte] <;> rfl) ⟨_, by simp only [upd_eq, Nat.reduceEqDiff, ↓reduceIte]; rfl⟩ (by simp only [upd_eq, Nat.reduceEqDiff, ↓reduceIte] <;> rfl) (by simp only [upd_eq, Nat.reduceEqDiff, ↓reduceIte] <;> rfl) (x3p.trans (noF_of n3a.ext x3s fun y o _ k => by simp only [rng] at k; omega) (fun _ _ g => g) fun _ _ _ g => g.elim) ⟨F', hF3, .inr ⟨rfl, rfl, TT⟩⟩
  · refine do_alloc z_unit fun w3a n3a => ⟨(by first | exact trivial | exact .inr (keeps_on n3a.ext fun y hy => by
      simp only [List.mem_cons, List.not_mem_nil, or_false] at hy
      subst hy
      exact ⟨by (try rw [sz_dr]); omega, fun o g => g⟩)), ?_⟩
    simp only [↓List.toList_toArray, ↓rgd, ↓rgf, ↓reduceIte, Nat.reduceEqDiff, rg, ow_57]
    have n3a := n3a.od
    have s3a := n3a.size
    refine do_call fn_70 (by simp only [evt, evc, upd_eq, Nat.reduceEqDiff, ↓reduceIte, maT, maC, maN, isnN, isnS] <;> rfl) (set_any m d iso x hd hd' h _ 1 rfl (Nat.le_refl 1) b xs F _ m 2 (c2.ext n3a.ext fun _ _ _ g => g) ((ht.ext X2 fun _ _ _ g => g).ext n3a.ext fun _ _ _ g => g) ha hbig hm (n3a.ext.rd rt2 fun g => g) (hm 2)) ?_
    rintro v w3p ⟨x3p, F', hF', hres⟩
    refine ⟨(by first | exact trivial | exact .inr (keeps_on x3p fun y hy => by
      simp only [List.mem_cons, List.not_mem_nil, or_false] at hy
      subst hy
      exact ⟨by (try rw [sz_dr]); omega, fun o g => by have := hFlt _ _ g; omega⟩)), ?_⟩
    have hF3 : ∀ y o, F' y o → F y o ∨ w2.heap.size ≤ y := fun y o g => (hF' y o g).imp id fun g => by omega
    have s3p := x3p.size
    have hq3 : ∀ o, ¬ F' w2.heap.size o := fun o g => by
      rcases hF' _ o g with g | g
      · have := hFlt _ _ g; omega
      · omega
    rcases hres with ⟨rfl, hT', hh⟩ | ⟨rfl, hT'⟩
    · simp only [↓List.toList_toArray, ↓rgd, ↓rgf, ↓reduceIte, Nat.reduceEqDiff, rg, ow_57]
      refine do_store (by simp only [evt, evc, upd_eq, Nat.reduceEqDiff, ↓reduceIte, ntT, ntF] <;> rfl) (by simp only [evt, evc, upd_eq, Nat.reduceEqDiff, ↓reduceIte, ntT, ntF] <;> rfl) sz_74 rfl (x3p.wok n3a.wok) (by decide) (fun _ h => by cases h) fun w3 x3s r3s s3s => ⟨(by first | exact trivial | exact .inr (keeps_on x3s fun y hy => by
        simp only [List.mem_cons, List.not_mem_nil, or_false] at hy
        subst hy
        exact ⟨by (try rw [sz_dr]); omega, fun o g => by simp only [rng] at g; omega⟩)), ?_⟩
      simp only [↓List.toList_toArray, ↓rgd, ↓rgf, ↓reduceIte, Nat.reduceEqDiff, rg, ow_57]
      have TT := hT'.ext x3s fun y o g k => by simp only [rng] at k; omega
      exact rest0 _ _ false true (by simp only [upd_eq, Nat.reduceEqDiff, ↓reduceIte]; exact e0) (by simp only [upd_eq, Nat.reduceEqDiff, ↓reduceIte] <;> rfl) (by simp only [upd_eq, Nat.reduceEqDiff, ↓reduceIte] <;> rfl) ⟨_, by simp only [upd_eq, Nat.reduceEqDiff, ↓reduceIte]; rfl⟩ (by simp only [upd_eq, Nat.reduceEqDiff, ↓reduceIte] <;> rfl) (by simp only [upd_eq, Nat.reduceEqDiff, ↓reduceIte] <;> rfl) ((n3a.ext.trans x3p (H := F) (fun _ _ g => g.elim) fun _ _ _ g => g).trans x3s (fun _ _ g => g) fun y o _ k => by simp only [rng] at k; omega) ⟨F', hF3, .inl ⟨rfl, rfl, TT, hh⟩⟩
    · simp only [↓List.toList_toArray, ↓rgd, ↓rgf, ↓reduceIte, Nat.reduceEqDiff, rg, ow_57]
      refine do_store (by simp only [evt, evc, upd_eq, Nat.reduceEqDiff, ↓reduceIte, ntT, ntF] <;> rfl) (by simp only [evt, evc, upd_eq, Nat.reduceEqDiff, ↓reduceIte, ntT, ntF] <;> rfl) sz_74 rfl (x3p.wok n3a.wok) (by decide) (fun _ h => by cases h) fun w3 x3s r3s s3s => ⟨(by first | exact trivial | exact .inr (keeps_on x3s fun y hy => by
        simp only [List.mem_cons, List.not_mem_nil, or_false] at hy
        subst hy
        exact ⟨by (try rw [sz_dr]); omega, fun o g => by simp only [rng] at g; omega⟩)), ?_⟩
      simp only [↓List.toList_toArray, ↓rgd, ↓rgf, ↓reduceIte, Nat.reduceEqDiff, rg, ow_57]
      have TT := hT'.ext x3s fun y o g k => by simp only [rng] at k; omega
      exact rest0 _ _ _ false (by simp only [upd_eq, Nat.reduceEqDiff, ↓reduceIte]; exact e0) (by simp only [upd_eq, Nat.reduceEqDiff, ↓reduceIte] <;> rfl) (by simp only [upd_eq, Nat.reduceEqDiff, ↓reduceIte] <;> rfl) ⟨_, by simp only [upd_eq, Nat.reduceEqDiff, ↓reduceIte]; rfl⟩ (by simp only [upd_eq, Nat.reduceEqDiff, ↓reduceIte] <;> rfl) (by simp only [upd_eq, Nat.reduceEqDiff, ↓reduceIte] <;> rfl) ((n3a.ext.trans x3p (H := F) (fun _ _ g => g.elim) fun _ _ _ g => g).trans x3s (fun _ _ g => g) fun y o _ k => by simp only [rng] at k; omega) ⟨F', hF3, .inr ⟨rfl, rfl, TT⟩⟩
set_option maxHeartbeats 400000 in
set_option maxRecDepth 8000 in
theorem init_again (m d : Nat) (iso : Int) (hd : 2 ≤ d) (v : Value) (w : World) (hc : Cfg w m iso d) : CallK Try.prog 68 #[ptr m, v] w fun _ w' => w = w' := by
  refine calls_of_W [] Try.func68 rfl Try.ntmps68 Try.results68 (by simp) fun e he => ?_
  have e0 : e 0 = ptr m := he 0 _ rfl
  clear he
  have t1 : (((d - 1 : Nat) : Int) != 0) = true := by simp; omega
  refine W_seq ?_
  refine W_sq fun K hK => (W_text [true, true, true, true, true] (by kernel_rfl) ?_); simp only [↓List.toList_toArray, ↓rgd, ↓rgf, ↓reduceIte, Nat.reduceEqDiff, rg, ow_68, e0, ptr_eq, hc.mn, t1]
  refine hK _ _ ?_; clear hK K
  refine W_true (by simp only [evt, evc, upd_eq, Nat.reduceEqDiff, ↓reduceIte, ntT, ntF] <;> rfl) (W_ret ?_)
  simp only [andThen_ret]
  exact endQ_0 rfl
set_option maxHeartbeats 1000000 in
set_option maxRecDepth 8000 in
/-- Setting in an empty map. -/
theorem set_nil' (m d : Nat) (iso : Int) (x : It) (hd : 2 ≤ d) (hd' : d ≤ 128) (w00 : World) (I : Nat → Nat → Prop) (hI : ∀ y o, I y o → y = m)
    (hinit : ∀ w1, Ext noF w00 w1 → CallK Try.prog 68 #[ptr m, .int .i64 0] w1 fun _ w' => Ext I w1 w' ∧ Cfg w' m iso d ∧ w'.heap.size = w1.heap.size) (hroot : rd w00 m 2 = some (.pointer none)) :
    CallK Try.prog 57 #[ptr m, kV x.1, vV x] w00 (NilQ m d iso x I w00) := by
  have hml0 := rd_lt hroot
  suffices HS : ∀ R : Value → World → Prop, (∀ v w', NilQ m d iso x I w00 v w' → R v w') → CallK Try.prog 57 #[ptr m, kV x.1, vV x] w00 R from HS _ fun _ _ h => h
  intro R hR
  refine calls_of_W [.cell 6 74, .tmp 7] Try.func57 rfl Try.ntmps57 Try.results57 (by simp) fun e he => ?_
  have e0 : e 0 = ptr m := he 0 _ rfl
  have e1 : e 1 = kV x.1 := he 1 _ rfl
  have e2 : e 2 = .agg #[] := he 2 _ rfl
  clear he
  refine W_sq fun K hK => (W_text [false, false, true] (by kernel_rfl) ?_); simp only [↓List.toList_toArray, ↓rgd, ↓rgf, ↓reduceIte, Nat.reduceEqDiff, rg, ow_57]
  refine do_box (by simp only [evt]; exact e2) fun wa na => ⟨trivial, ?_⟩
  simp only [↓List.toList_toArray, ↓rgd, ↓rgf, ↓reduceIte, Nat.reduceEqDiff, rg, ow_57]
  refine do_alloc z_unit fun w nb => ⟨trivial, ?_⟩
  simp only [↓List.toList_toArray, ↓rgd, ↓rgf, ↓reduceIte, Nat.reduceEqDiff, rg, ow_57]
  refine hK _ _ ?_; clear hK K
  have Xb : Ext noF w00 w := na.ext.tr nb.ext
  have sa := na.size
  have sb := nb.size
  obtain ⟨q, hq⟩ : ∃ q, q = wa.heap.size := ⟨_, rfl⟩
  have wqb : wok w q 0 := by rw [hq]; exact nb.wok
  rw [← hq]
  have hqw : q < w.heap.size := by omega
  have hqm : q ≠ m := by omega
  replace hR : ∀ v w', NilQ m d iso x I w v w' → R v w' := fun v w' ⟨h1, h2, F', h3, h4⟩ => hR v w' ⟨h1, Xb.trans h2 (fun _ _ g => g.elim) (fun _ _ _ g => g), F', h3, fun y o g => by have := h4 y o g; omega⟩
  replace hroot := Xb.rd hroot fun h => h
  replace hinit := fun w1 (X : Ext noF w w1) => hinit w1 (Xb.tr X)
  have hml := rd_lt hroot
  clear Xb na nb sa sb hq hml0
  refine W_sq fun K hK => (W_text [true, true, true, false, false] (by kernel_rfl) ?_); simp only [↓List.toList_toArray, ↓rgd, ↓rgf, ↓reduceIte, Nat.reduceEqDiff, rg, ow_57, e1, e2, bu_it x.1 x.2]
  refine do_alloc z_it fun w1 n1 => ⟨trivial, ?_⟩
  simp only [↓List.toList_toArray, ↓rgd, ↓rgf, ↓reduceIte, Nat.reduceEqDiff, rg, ow_57]
  refine do_store (by simp only [evt, evc, upd_eq, Nat.reduceEqDiff, ↓reduceIte, ntT, ntF] <;> rfl) (by simp only [evt, evc, upd_eq, Nat.reduceEqDiff, ↓reduceIte, ntT, ntF] <;> rfl) sz_76 (itV_len x) n1.wok (by decide) (itV_oc x) fun w2 x2 r2 s2 => ⟨trivial, ?_⟩
  simp only [↓List.toList_toArray, ↓rgd, ↓rgf, ↓reduceIte, Nat.reduceEqDiff, rg, ow_57]
  refine hK _ _ ?_; clear hK K
  have s1 := n1.size
  have X2 : Ext noF w w2 := noF_of n1.ext x2 fun y o hy h => by simp only [rng] at h; omega
  have rx : Row w2 w.heap.size 0 (E.cel x) := r2
  have rt2 := X2.rd hroot (fun h => h)
  refine W_seq ?_
  refine W_sq fun K hK => (W_text [true, true, true, true, true] (by kernel_rfl) ?_); simp only [↓List.toList_toArray, ↓rgd, ↓rgf, ↓reduceIte, Nat.reduceEqDiff, rg, ow_57, e0, ptr_eq, rt2]
  refine hK _ _ ?_; clear hK K
  refine W_true (by simp only [evt, evc, upd_eq, Nat.reduceEqDiff, ↓reduceIte, ntT, ntF] <;> rfl) ?_
  refine W_sq fun K hK => (W_text [true, false] (by kernel_rfl) ?_); simp only [↓List.toList_toArray, ↓rgd, ↓rgf, ↓reduceIte, Nat.reduceEqDiff, rg, ow_57, e0]
  refine do_call fn_68 (by simp only [evt, evc, upd_eq, Nat.reduceEqDiff, ↓reduceIte, maT, maC, maN, isnN, isnS] <;> rfl) (hinit w2 X2) ?_
  rintro _ w2b ⟨xi, c2b, si⟩
  refine ⟨trivial, ?_⟩
  have rxb : Row w2b w.heap.size 0 (E.cel x) := xi.row rx fun j _ g => by have := hI _ _ g; omega
  simp only [↓List.toList_toArray, ↓rgd, ↓rgf, ↓reduceIte, Nat.reduceEqDiff, rg, ow_57]
  refine hK _ _ ?_; clear hK K
  refine W_sq fun K hK => (W_text [true, true, false, true, true, false] (by kernel_rfl) ?_); simp only [↓List.toList_toArray, ↓rgd, ↓rgf, ↓reduceIte, Nat.reduceEqDiff, rg, ow_57, e0]
  refine do_call fn_69 (by simp only [evt, evc, upd_eq, Nat.reduceEqDiff, ↓reduceIte, maT, maC, maN, isnN, isnS] <;> rfl) (newNode_any m true iso w2b c2b.iso) ?_
  rintro _ w3 ⟨b, rfl, x3, nn⟩
  refine ⟨trivial, ?_⟩
  simp only [↓List.toList_toArray, ↓rgd, ↓rgf, ↓reduceIte, Nat.reduceEqDiff, rg, ow_57, ptr_eq]
  have c3 := c2b.ext x3 fun _ _ _ h => h
  refine do_store (by simp only [evt, evc, upd_eq, Nat.reduceEqDiff, ↓reduceIte, ntT, ntF] <;> rfl) (by simp only [evt, evc, upd_eq, Nat.reduceEqDiff, ↓reduceIte, ntT, ntF] <;> rfl) sz_73 rfl (c3.wok.mono (by decide)) (Nat.le_refl 3) (oc_one rfl rfl) fun w4 x4 r4 s4 => ⟨trivial, ?_⟩
  simp only [↓List.toList_toArray, ↓rgd, ↓rgf, ↓reduceIte, Nat.reduceEqDiff, rg, ow_57]
  refine hK _ _ ?_; clear hK K
  have nnge := nn.ge
  have s3 := x3.size
  have hbl := wok_lt nn.wb
  have rt4 : rd w4 m 2 = some (ptr b) := (Row.cons.1 r4).1
  have c4 := c3.ext x4 fun o h2 _ g => h2 (by simp only [rng] at g; omega)
  have rx4 : Row w4 w.heap.size 0 (E.cel x) := x4.row (x3.row rxb fun _ _ h => h) fun j _ h => by simp only [rng] at h; omega
  have ix4 := iA_at rx4
  have wb4 := x4.wok nn.wb
  have M4 : readsB (some (some [m, w.heap.size])) m = true := by simp [readsB]
  have M5 : readsB (some (some [m, w.heap.size])) w.heap.size = true := by simp [readsB]
  refine W_sq fun K hK => (W_draw (some (some [m, w.heap.size])) (some 10) [(0, 0, 0), (0, 1, 0), (0, 2, 0), (0, 3, 0), (0, 5, 0), (2, 4, 6), (1, 7, 0), (0, 8, 0), (0, 9, 0), (1, 10, 0)] mixed (by kernel_rfl) ?_); simp only [↓List.toList_toArray, ↓rgd, ↓rgf, ↓reduceIte, Nat.reduceEqDiff, rg, ow_57, e0, ptr_eq, rt4, ix4, M4, M5]
  have rest2 : ∀ e'' w', e'' 0 = ptr m → e'' 6 = .pointer (some ⟨q, 0, none⟩) → Ext (rng b 2 1) w4 w' →
      (∃ bi2 cap3, rd w' b 2 = some (.slice (some ⟨bi2, 0, none⟩) 1 cap3) ∧ 1 ≤ cap3 ∧ Row w' bi2 0 (E.cel x) ∧ wok w' bi2 (cap3 * 1) ∧ w4.heap.size ≤ bi2) → K e'' w' := by
    intro e'' w18 f0 f6 x18 ⟨bi2, cap3, p0, p2, p3, p4, p5⟩
    refine hK _ _ ?_; clear hK K
    have s18 := x18.size
    have hbi18 := wok_lt p4
    have rt18 : rd w18 m 2 = some (ptr b) := x18.rd rt4 (by simp only [rng]; omega)
    have c18 := c4.ext x18 fun o _ _ g => by simp only [rng] at g; omega
    refine W_sq fun K hK => (W_text [true, true, true, true, true, true, false] (by kernel_rfl) ?_); simp only [↓List.toList_toArray, ↓rgd, ↓rgf, ↓reduceIte, Nat.reduceEqDiff, rg, ow_57, f0, ptr_eq, rt18]
    refine do_store (by simp only [evt, evc, upd_eq, Nat.reduceEqDiff, ↓reduceIte, ntT, ntF] <;> rfl) (by simp only [evt, evc, upd_eq, Nat.reduceEqDiff, ↓reduceIte, ntT, ntF] <;> rfl) sz_3 rfl (x18.wok wb4) (by decide) (oc_one rfl rfl) fun w19 x19 r19 s19 => ⟨trivial, ?_⟩
    simp only [↓List.toList_toArray, ↓rgd, ↓rgf, ↓reduceIte, Nat.reduceEqDiff, rg, ow_57]
    refine hK _ _ ?_; clear hK K
    have c19 := c18.ext x19 fun o _ _ g => by simp only [rng] at g; omega
    refine W_sq fun K hK => (W_text [true, true, true, false] (by kernel_rfl) ?_); simp only [↓List.toList_toArray, ↓rgd, ↓rgf, ↓reduceIte, Nat.reduceEqDiff, rg, ow_57, f0, ptr_eq]
    refine do_store (by simp only [evt, evc, upd_eq, Nat.reduceEqDiff, ↓reduceIte, ntT, ntF] <;> rfl) (by simp only [evt, evc, upd_eq, Nat.reduceEqDiff, ↓reduceIte, ntT, ntF] <;> rfl) sz_3 rfl (c19.wok.mono (by decide)) (Nat.le_refl 4) (oc_one rfl rfl) fun w20 x20 r20 s20 => ⟨trivial, ?_⟩
    simp only [↓List.toList_toArray, ↓rgd, ↓rgf, ↓reduceIte, Nat.reduceEqDiff, rg, ow_57]
    refine hK _ _ ?_; clear hK K
    have c20 := c19.ext x20 fun o _ h3 g => h3 (by simp only [rng] at g; omega)
    have tm20 := wok.ty tyP c20.wok
    have wq20 : wok w20 q 0 := x20.wok (x19.wok (x18.wok (x4.wok (x3.wok (xi.wok (X2.wok wqb))))))
    refine W_sq fun K hK => (W_text [true, true, true, true, true, false, true] (by kernel_rfl) ?_); simp only [↓List.toList_toArray, ↓rgd, ↓rgf, ↓reduceIte, Nat.reduceEqDiff, rg, ow_57, f0, ptr_eq, tm20]
    refine do_store (by simp only [evt, upd_eq, Nat.reduceEqDiff, ↓reduceIte]; exact f6) (by simp only [evt, evc, upd_eq, Nat.reduceEqDiff, ↓reduceIte, ntT, ntF] <;> rfl) sz_74 rfl wq20 (by decide) (fun _ h => by cases h) fun w21 x21 r21 s21 => ⟨trivial, ?_⟩
    simp only [↓List.toList_toArray, ↓rgd, ↓rgf, ↓reduceIte, Nat.reduceEqDiff, rg, ow_57]
    refine hK _ _ ?_; clear hK K
    have X20 : Ext (fun y o => mapF m noF y o ∨ I y o) w w20 := by
      refine ((((((X2.trans xi (H := fun y o => mapF m noF y o ∨ I y o) (fun _ _ g => g.elim) fun y o _ g => .inr g).trans x3 (fun _ _ g => g) fun _ _ _ g => g.elim).trans x4 (fun _ _ g => g) fun y o _ g => ?_).trans x18 (fun _ _ g => g) fun y o _ g => ?_).trans x19 (fun _ _ g => g) fun y o _ g => ?_).trans x20 (fun _ _ g => g) fun y o _ g => ?_)
      · simp only [rng] at g; exact .inl (.inr ⟨g.1, by omega⟩)
      · simp only [rng] at g; omega
      · simp only [rng] at g; omega
      · simp only [rng] at g; exact .inl (.inr ⟨g.1, by omega⟩)
    have tr : Tr E iso (d - 1) (2 * d - 1) 0 w20 1 b [x] (ownF E b bi2 0 cap3) := by
      refine ⟨bi2, 0, cap3, ⟨x20.rd (x19.rd (x18.rd (x4.rd nn.h0 (by simp only [rng]; omega)) (by simp only [rng]; omega)) (by simp only [rng]; omega)) (by simp only [rng]; omega), ?_, x20.rd (x19.rd p0 (by simp only [rng]; omega)) (by simp only [rng]; omega),
        x20.rd (x19.rd (x18.rd (x4.rd (nn.leaf rfl) (by simp only [rng]; omega)) (by simp only [rng]; omega)) (by simp only [rng]; omega)) (by simp only [rng]; omega), x20.wok (x19.wok (x18.wok wb4)), ?_, by rw [Nat.zero_add]; exact x20.wok (x19.wok p4), p2, by omega⟩,
        Nat.le_refl _, (by show 1 ≤ 2 * d - 1; omega), fun _ _ => Iff.rfl⟩
      · exact x20.rd (Row.cons.1 r19).1 (by simp only [rng]; omega)
      · rw [flat_one]; exact x20.row (x19.row p3 fun j _ h => by simp only [rng] at h; omega) fun j _ h => by simp only [rng] at h; omega
    have hown : ∀ y o, ownF E b bi2 0 cap3 y o → w2.heap.size ≤ y := fun y o g => by simp only [ownF, rng] at g; omega
    refine W_ret ?_
    simp only [andThen_ret]
    have M20 : MapAt w20 m d iso [x] (ownF E b bi2 0 cap3) := ⟨c20, (Row.cons.1 r20).1, List.pairwise_singleton _ _, .inr ⟨0, b, x20.rd (x19.rd rt18 (by simp only [rng]; omega)) (by simp only [rng]; omega), tr⟩, fun o g => by have := hown _ _ g; omega, tr.lt⟩
    exact endQ_ct (by simp only [upd_eq, Nat.reduceEqDiff, ↓reduceIte]; exact f6) (by simp only [upd_eq, Nat.reduceEqDiff, ↓reduceIte] <;> rfl) ld_74 ld_unit (hR _ _ ⟨rfl, X20.trans x21 (fun _ _ g => g) fun y o _ k => by simp only [rng] at k; omega, _, M20.extG x21 (fun y o _ k => by simp only [rng] at k; omega) fun o k => by simp only [rng] at k; omega,
      fun y o g => by have := hown _ _ g; omega⟩)
  constructor
  · refine do_bsl rfl bs_it0 fun w15 n15 => ⟨.inr (keep2 n15.ext ⟨by rw [sz_dr]; omega, fun _ h => h⟩ ⟨by rw [sz_dr]; omega, fun _ h => h⟩), ?_⟩
    simp only [↓List.toList_toArray, ↓rgd, ↓rgf, ↓reduceIte, Nat.reduceEqDiff, rg, ow_57]
    have n15 := n15.od
    have s15 := n15.size
    refine do_bsl rfl (bs_it1 x) fun w16 n16 => ⟨.inr (keep2 n16.ext ⟨by omega, fun _ h => h⟩ ⟨by omega, fun _ h => h⟩), ?_⟩
    simp only [↓List.toList_toArray, ↓rgd, ↓rgf, ↓reduceIte, Nat.reduceEqDiff, rg, ow_57]
    have s16 := n16.size
    have hv : SlV w16 1 (.slice (some ⟨w4.heap.size, 0, none⟩) 0 0) 0 [] := ⟨rfl, .inr ⟨_, 0, 0, rfl, Nat.le_refl _, Row.nil _ _ _, (n16.ext.wok n15.wok).R (Nat.le_refl _)⟩⟩
    have hu : SlV w16 1 (.slice (some ⟨w15.heap.size, 0, none⟩) 1 1) 1 (E.cel x) := ⟨rfl, .inr ⟨_, 0, 1, rfl, Nat.le_refl _, n16.row, n16.wok.R (Nat.le_refl _)⟩⟩
    have X16 : Ext noF w4 w16 := n15.ext.tr n16.ext
    refine do_append (by simp only [evt, evc, upd_eq, Nat.reduceEqDiff, ↓reduceIte, ntT, ntF] <;> rfl) (by simp only [evt, evc, upd_eq, Nat.reduceEqDiff, ↓reduceIte, ntT, ntF] <;> rfl) el_it rfl ni_93 hv hu (by omega) (by decide) (E.one x) fun v17 w17 a17 => ?_
    obtain ⟨cap3, rfl, hcap3, row17, wok17, x17, s17⟩ := app_new a17 (by omega)
    refine ⟨.inr (keep2 x17 ⟨by omega, fun _ h => h⟩ ⟨by omega, fun _ h => h⟩), ?_⟩
    simp only [↓List.toList_toArray, ↓rgd, ↓rgf, ↓reduceIte, Nat.reduceEqDiff, rg, ow_57, ptr_eq]
    refine do_store (by simp only [evt, evc, upd_eq, Nat.reduceEqDiff, ↓reduceIte, ntT, ntF] <;> rfl) (by simp only [evt, evc, upd_eq, Nat.reduceEqDiff, ↓reduceIte, ntT, ntF] <;> rfl) sz_93 rfl (x17.wok (X16.wok wb4)) (by decide) (oc_one rfl rfl) fun w18 x18 r18 s18 => ⟨.inl trivial, ?_⟩
    simp only [↓List.toList_toArray, ↓rgd, ↓rgf, ↓reduceIte, Nat.reduceEqDiff, rg, ow_57]
    refine rest2 _ _ (by simp only [upd_eq, Nat.reduceEqDiff, ↓reduceIte]; exact e0) (by simp only [upd_eq, Nat.reduceEqDiff, ↓reduceIte] <;> rfl) (((X16.tr x17).mono fun _ _ _ g => g.elim).tr x18) ⟨w16.heap.size, cap3, (Row.cons.1 r18).1, hcap3, x18.row row17 fun j _ h => by simp only [rng] at h; omega, x18.wok wok17, by omega⟩
  · refine do_bsl rfl (bs_it1 x) fun w15 n15 => ⟨.inr (keep2 n15.ext ⟨by rw [sz_dr]; omega, fun _ h => h⟩ ⟨by rw [sz_dr]; omega, fun _ h => h⟩), ?_⟩
    simp only [↓List.toList_toArray, ↓rgd, ↓rgf, ↓reduceIte, Nat.reduceEqDiff, rg, ow_57]
    have n15 := n15.od
    have s15 := n15.size
    refine do_bsl rfl bs_it0 fun w16 n16 => ⟨.inr (keep2 n16.ext ⟨by omega, fun _ h => h⟩ ⟨by omega, fun _ h => h⟩), ?_⟩
    simp only [↓List.toList_toArray, ↓rgd, ↓rgf, ↓reduceIte, Nat.reduceEqDiff, rg, ow_57]
    have s16 := n16.size
    have hv : SlV w16 1 (.slice (some ⟨w15.heap.size, 0, none⟩) 0 0) 0 [] := ⟨rfl, .inr ⟨_, 0, 0, rfl, Nat.le_refl _, Row.nil _ _ _, n16.wok.R (Nat.le_refl _)⟩⟩
    have hu : SlV w16 1 (.slice (some ⟨w4.heap.size, 0, none⟩) 1 1) 1 (E.cel x) := ⟨rfl, .inr ⟨_, 0, 1, rfl, Nat.le_refl _, n16.ext.row n15.row fun _ _ h => h, (n16.ext.wok n15.wok).R (Nat.le_refl _)⟩⟩
    have X16 : Ext noF w4 w16 := n15.ext.tr n16.ext
    refine do_append (by simp only [evt, evc, upd_eq, Nat.reduceEqDiff, ↓reduceIte, ntT, ntF] <;> rfl) (by simp only [evt, evc, upd_eq, Nat.reduceEqDiff, ↓reduceIte, ntT, ntF] <;> rfl) el_it rfl ni_93 hv hu (by omega) (by decide) (E.one x) fun v17 w17 a17 => ?_
    obtain ⟨cap3, rfl, hcap3, row17, wok17, x17, s17⟩ := app_new a17 (by omega)
    refine ⟨.inr (keep2 x17 ⟨by omega, fun _ h => h⟩ ⟨by omega, fun _ h => h⟩), ?_⟩
    simp only [↓List.toList_toArray, ↓rgd, ↓rgf, ↓reduceIte, Nat.reduceEqDiff, rg, ow_57, ptr_eq]
    refine do_store (by simp only [evt, evc, upd_eq, Nat.reduceEqDiff, ↓reduceIte, ntT, ntF] <;> rfl) (by simp only [evt, evc, upd_eq, Nat.reduceEqDiff, ↓reduceIte, ntT, ntF] <;> rfl) sz_93 rfl (x17.wok (X16.wok wb4)) (by decide) (oc_one rfl rfl) fun w18 x18 r18 s18 => ⟨.inl trivial, ?_⟩
    simp only [↓List.toList_toArray, ↓rgd, ↓rgf, ↓reduceIte, Nat.reduceEqDiff, rg, ow_57]
    refine rest2 _ _ (by simp only [upd_eq, Nat.reduceEqDiff, ↓reduceIte]; exact e0) (by simp only [upd_eq, Nat.reduceEqDiff, ↓reduceIte] <;> rfl) (((X16.tr x17).mono fun _ _ _ g => g.elim).tr x18) ⟨w16.heap.size, cap3, (Row.cons.1 r18).1, hcap3, x18.row row17 fun j _ h => by simp only [rng] at h; omega, x18.wok wok17, by omega⟩
theorem set_nil (m d : Nat) (iso : Int) (x : It) (hd : 2 ≤ d) (hd' : d ≤ 128) (w : World) (hc : Cfg w m iso d) (hroot : rd w m 2 = some (.pointer none)) :
    CallK Try.prog 57 #[ptr m, kV x.1, vV x] w fun v w' => v = .tuple #[vV zIt, .bool false] ∧ Ext (mapF m noF) w w' ∧ ∃ F', MapAt w' m d iso [x] F' ∧ ∀ y o, F' y o → w.heap.size ≤ y := by
  refine CallK_mono (set_nil' m d iso x hd hd' w noF (fun _ _ g => g.elim) (fun w1 X => CallK_mono (init_again m d iso hd (.int .i64 0) w1 (hc.ext X fun _ _ _ h => h)) ?_) hroot) ?_
  · rintro _ _ rfl
    exact ⟨Ext.refl _ _, hc.ext X fun _ _ _ h => h, rfl⟩
  · rintro v w' ⟨rfl, h2, h3⟩
    exact ⟨rfl, h2.mono fun y o _ g => g.elim id fun g => g.elim, h3⟩
end Go.Proofs.Ytjaolgehpnmieaa
/-
  The length of a map. No condition.
-/
set_option linter.unusedSimpArgs false
set_option linter.unusedVariables false
namespace Go.Proofs.Ytjaolgehpnmieaa
open Go Go.Proofs
set_option maxHeartbeats 400000 in
set_option maxRecDepth 8000 in
theorem len_any (m d : Nat) (iso : Int) (xs : List It) (F : Nat → Nat → Prop) (w : World) (hM : MapAt w m d iso xs F) :
    CallK Try.prog 56 #[ptr m] w fun v w' => v = .int .i64 xs.length ∧ w = w' := by
  refine calls_of_W [.tmp 2] Try.func56 rfl Try.ntmps56 Try.results56 (by simp) fun e he => ?_
  have e0 : e 0 = ptr m := he 0 _ rfl
  clear he
  refine W_sq fun K hK => (W_text [true] (by kernel_rfl) ?_); simp only [↓List.toList_toArray, ↓rgd, ↓rgf, ↓reduceIte, Nat.reduceEqDiff, rg, ow_56]
  refine hK _ _ ?_; clear hK K
  refine W_sq fun K hK => (W_text [true, true, true, true, true] (by kernel_rfl) ?_); simp only [↓List.toList_toArray, ↓rgd, ↓rgf, ↓reduceIte, Nat.reduceEqDiff, rg, ow_56, e0, ptr_eq, hM.cnt]
  refine hK _ _ ?_; clear hK K
  exact W_ret (endQ_1 (by simp only [upd_eq, Nat.reduceEqDiff, ↓reduceIte] <;> rfl) ⟨rfl, rfl⟩)
end Go.Proofs.Ytjaolgehpnmieaa
/-
  Sets: the zero set, Insert, Len, Clear; a set that is grown from a list. No condition.
-/
set_option linter.unusedSimpArgs false
set_option linter.unusedVariables false
namespace Go.Proofs.Ytjaolgehpnmieaa
open Go Go.Proofs
/-- A set: a map that was set up (of degree 32), or the zero set. -/
def DOf (d : Nat) (xs : List It) : Prop := d = 32 ∨ d = 0 ∧ xs = []
def SetAt (w : World) (m : Nat) (xs : List It) (F : Nat → Nat → Prop) : Prop := ∃ d, DOf d xs ∧ MapAt w m d 0 xs F
def setF (m : Nat) (F : Nat → Nat → Prop) : Nat → Nat → Prop := fun y o => F y o ∨ y = m
theorem mapF_setF {m : Nat} {F : Nat → Nat → Prop} {y o : Nat} (h : mapF m F y o) : setF m F y o := h.imp id fun g => g.1
theorem SetAt.ext {w w' : World} {m : Nat} {xs : List It} {F : Nat → Nat → Prop} (h : SetAt w m xs F) (x : Ext noF w w') : SetAt w' m xs F := by obtain ⟨d, h1, h2⟩ := h; exact ⟨d, h1, h2.ext x⟩
theorem SetAt.extG {w w' : World} {G : Nat → Nat → Prop} {m : Nat} {xs : List It} {F : Nat → Nat → Prop} (h : SetAt w m xs F) (x : Ext G w w') (hF : ∀ y o, F y o → ¬ G y o) (hm : ∀ o, ¬ G m o) : SetAt w' m xs F := by obtain ⟨d, h1, h2⟩ := h; exact ⟨d, h1, h2.extG x hF hm⟩
theorem SetAt.lt {w : World} {m : Nat} {xs : List It} {F : Nat → Nat → Prop} (h : SetAt w m xs F) : ∀ y o, F y o → y < w.heap.size := by obtain ⟨d, h1, h2⟩ := h; exact h2.lt
theorem SetAt.mlt {w : World} {m : Nat} {xs : List It} {F : Nat → Nat → Prop} (h : SetAt w m xs F) : m < w.heap.size := by obtain ⟨d, h1, h2⟩ := h; exact h2.mlt
theorem SetAt.off {w : World} {m : Nat} {xs : List It} {F : Nat → Nat → Prop} (h : SetAt w m xs F) : ∀ o, ¬ F m o := by obtain ⟨d, h1, h2⟩ := h; exact h2.off
theorem SetAt.asc {w : World} {m : Nat} {xs : List It} {F : Nat → Nat → Prop} (h : SetAt w m xs F) : Asc O κ xs := by obtain ⟨d, h1, h2⟩ := h; exact h2.asc
/-- A number as an item. -/
def toIt (k : Int) : It := (k, 0)
def its (l : List Int) : List It := l.map toIt
theorem its_length (l : List Int) : (its l).length = l.length := by simp [its]
theorem its_take (l : List Int) (k : Nat) : its (l.take k) = (its l).take k := by simp [its, List.map_take]
theorem its_get {l : List Int} {k : Nat} {x : Int} (h : l[k]? = some x) : (its l)[k]? = some (toIt x) := by simp [its, h]
theorem Tr.ne {w : World} {iso : Int} {mn mx h lo b : Nat} {xs : List It} {F : Nat → Nat → Prop} (ht : Tr E iso mn mx h w lo b xs F) (hlo : 1 ≤ lo) : xs ≠ [] := by
  obtain ⟨bi, oi, cap, ks, ch, ho, h1, h2, hoF, hin⟩ := ht.open
  rcases hin with ⟨_, _, hx, _⟩ | ⟨_, _, _, _, _, cs, _, _, n⟩
  · intro e; rw [e] at hx; rw [← hx] at h1; simp at h1; omega
  · intro e
    have hl := n.len
    have := congrArg List.length n.eq
    rw [weave_length (cs.map Kid.xs) ks (by simpa using hl), e] at this
    simp only [List.length_nil] at this
    omega
theorem init_zero (m : Nat) (w : World) (hM : MapAt w m 0 0 [] noF) : ∀ w1, Ext noF w w1 → CallK Try.prog 68 #[ptr m, .int .i64 0] w1 fun _ w' => Ext (rng m 5 4) w1 w' ∧ Cfg w' m 0 32 ∧ w'.heap.size = w1.heap.size := fun w1 X => by
  have c := hM.cfg.ext X fun _ _ _ g => g
  refine CallK_mono (init0_any m w1 c.wok (Row.cons.2 ⟨c.mn, Row.cons.2 ⟨c.mx, Row.cons.2 ⟨c.cv, Row.cons.2 ⟨c.ci, Row.nil _ _ _⟩⟩⟩⟩)) ?_
  rintro _ w' ⟨x, h1, h2, h3, h4, h5⟩
  exact ⟨x, ⟨x.rd c.iso (by simp only [rng]; omega), x.row c.ez fun i hi => by simp [E] at hi; simp only [rng]; omega, h1, h2, h3, h4, x.wok c.wok⟩, h5⟩
/-- Setting a key. -/
theorem set_set (m : Nat) (k : Int) (xs : List It) (F : Nat → Nat → Prop) (w : World) (h : SetAt w m xs F) (hbig : xs.length < 1152921504606846976) :
    CallK Try.prog 57 #[ptr m, .int .i64 k, .agg #[]] w fun v w' => (∃ b, v = .tuple #[.agg #[], .bool b]) ∧ Ext (setF m F) w w' ∧ ∃ F', SetAt w' m (put O κ (toIt k) xs) F' ∧ ∀ y o, F' y o → F y o ∨ w.heap.size ≤ y := by
  obtain ⟨d, hd, hM⟩ := h
  rcases hM.root with ⟨hx, hr⟩ | ⟨h, b, hr, ht⟩
  · subst hx
    rcases hd with rfl | ⟨rfl, -⟩
    · refine CallK_mono (set_nil m 32 0 (toIt k) (by omega) (by omega) w hM.cfg hr) ?_
      rintro v w' ⟨h1, h2, F', h3, h4⟩
      exact ⟨⟨_, h1⟩, h2.mono fun y o _ g => (mapF_setF g).imp (fun g => g.elim) id, F', ⟨32, .inl rfl, h3⟩, fun y o g => .inr (h4 y o g)⟩
    · have hM0 : MapAt w m 0 0 [] noF := ⟨hM.cfg, hM.cnt, hM.asc, .inl ⟨rfl, hr⟩, fun _ g => g, fun _ _ g => g.elim⟩
      refine CallK_mono (set_nil' m 32 0 (toIt k) (by omega) (by omega) w (rng m 5 4) (fun y o g => g.1) (init_zero m w hM0) hr) ?_
      rintro v w' ⟨h1, h2, F', h3, h4⟩
      exact ⟨⟨_, h1⟩, h2.mono fun y o _ g => g.elim (fun g => (mapF_setF g).imp (fun g => g.elim) id) fun g => .inr g.1, F', ⟨32, .inl rfl, h3⟩, fun y o g => .inr (h4 y o g)⟩
  · rcases hd with rfl | ⟨-, hx⟩
    · refine CallK_mono (set_root m 32 0 (toIt k) (by omega) (by omega) _ h b xs F w rfl hM.cfg hM.cnt hM.asc hr ht hM.off hbig) ?_
      rintro v w' ⟨h1, h2, F', h3, h4⟩
      exact ⟨⟨_, h1⟩, h2.mono fun y o _ g => mapF_setF g, F', ⟨32, .inl rfl, h3⟩, h4⟩
    · exact (ht.ne (Nat.le_refl 1) hx).elim
theorem bu_unit : buildV Try.prog 74 [] = some (.agg #[]) := by kernel_rfl
set_option maxHeartbeats 400000 in
set_option maxRecDepth 8000 in
theorem insert_any (m : Nat) (k : Int) (xs : List It) (F : Nat → Nat → Prop) (w : World) (h : SetAt w m xs F) (hbig : xs.length < 1152921504606846976) :
    CallK Try.prog 42 #[ptr m, .int .i64 k] w fun v w' => Ext (setF m F) w w' ∧ ∃ F', SetAt w' m (put O κ (toIt k) xs) F' ∧ ∀ y o, F' y o → F y o ∨ w.heap.size ≤ y := by
  refine calls_of_W [] Try.func42 rfl Try.ntmps42 Try.results42 (by simp) fun e he => ?_
  have e0 : e 0 = ptr m := he 0 _ rfl
  have e1 : e 1 = .int .i64 k := he 1 _ rfl
  clear he
  refine W_rg fun K hK => (W_text [true, true, true, true, true, false] (by kernel_rfl) ?_); simp only [↓List.toList_toArray, ↓rgd, ↓rgf, ↓reduceIte, Nat.reduceEqDiff, rg, ow_42, e0, e1, ptr_eq, bu_unit]
  refine do_call fn_57 (by simp only [evt, evc, upd_eq, Nat.reduceEqDiff, ↓reduceIte, maT, maC, maN, isnN, isnS] <;> rfl) (set_set m k xs F w h hbig) ?_
  rintro _ w1 ⟨-, h1⟩
  refine ⟨trivial, ?_⟩
  simp only [↓List.toList_toArray, ↓rgd, ↓rgf, ↓reduceIte, Nat.reduceEqDiff, rg, ow_42]
  refine hK _ _ ?_; clear hK K
  exact endQ_0n h1
set_option maxHeartbeats 400000 in
set_option maxRecDepth 8000 in
theorem slen_any (m : Nat) (xs : List It) (F : Nat → Nat → Prop) (w : World) (h : SetAt w m xs F) : CallK Try.prog 41 #[ptr m] w fun v w' => v = .int .i64 xs.length ∧ w = w' := by
  obtain ⟨d, hd, hM⟩ := h
  refine calls_of_W [.tmp 2] Try.func41 rfl Try.ntmps41 Try.results41 (by simp) fun e he => ?_
  have e0 : e 0 = ptr m := he 0 _ rfl
  clear he
  refine W_sq fun K hK => (W_text [true] (by kernel_rfl) ?_); simp only [↓List.toList_toArray, ↓rgd, ↓rgf, ↓reduceIte, Nat.reduceEqDiff, rg, ow_41]
  refine hK _ _ ?_; clear hK K
  refine W_sq fun K hK => (W_text [true, true, true, false, true] (by kernel_rfl) ?_); simp only [↓List.toList_toArray, ↓rgd, ↓rgf, ↓reduceIte, Nat.reduceEqDiff, rg, ow_41, e0, ptr_eq]
  refine do_call fn_56 (by simp only [evt, evc, upd_eq, Nat.reduceEqDiff, ↓reduceIte, maT, maC, maN, isnN, isnS] <;> rfl) (len_any m d 0 xs F w hM) ?_
  rintro _ w1 ⟨rfl, rfl⟩
  refine ⟨trivial, ?_⟩
  simp only [↓List.toList_toArray, ↓rgd, ↓rgf, ↓reduceIte, Nat.reduceEqDiff, rg, ow_41]
  refine hK _ _ ?_; clear hK K
  exact W_ret (endQ_1 (by simp only [upd_eq, Nat.reduceEqDiff, ↓reduceIte] <;> rfl) ⟨rfl, rfl⟩)
set_option maxHeartbeats 400000 in
set_option maxRecDepth 8000 in
theorem grow_any (l : List Int) (lv : Value) (w : World) (hl : SlN w lv l) (hbig : l.length ≤ 2147483647) :
    CallK Try.prog 30 #[lv] w fun v w' => Ext noF w w' ∧ ∃ m F, v = ptr m ∧ SetAt w' m (tree (its l)) F ∧ w.heap.size ≤ m ∧ ∀ y o, F y o → w.heap.size ≤ y := by
  obtain ⟨ka, kc, hkv⟩ := SlV.shape hl
  refine calls_of_W [.tmp 2] Try.func30 rfl Try.ntmps30 Try.results30 (by simp) fun e he => ?_
  have e0 : e 0 = .slice ka l.length kc := (he 0 _ rfl).trans hkv
  clear he
  refine W_sq fun K hK => (W_text [true] (by kernel_rfl) ?_); simp only [↓List.toList_toArray, ↓rgd, ↓rgf, ↓reduceIte, Nat.reduceEqDiff, rg, ow_30]
  refine hK _ _ ?_; clear hK K
  refine W_sq fun K hK => (W_text [false, true] (by kernel_rfl) ?_); simp only [↓List.toList_toArray, ↓rgd, ↓rgf, ↓reduceIte, Nat.reduceEqDiff, rg, ow_30]
  refine do_alloc z_set fun w1 n1 => ⟨trivial, ?_⟩
  simp only [↓List.toList_toArray, ↓rgd, ↓rgf, ↓reduceIte, Nat.reduceEqDiff, rg, ow_30]
  refine hK _ _ ?_; clear hK K
  obtain ⟨m, hm⟩ : ∃ m, m = w.heap.size := ⟨_, rfl⟩
  have X1 := n1.ext
  have hM0 : SetAt w1 m (tree ((its l).take 0)) noF := by
    have r := n1.row
    rw [← hm] at r
    have r4 := r.drop 4
    simp only [Row.cons] at r
    obtain ⟨g0, g1, g2, g3, g4, g5, g6, g7, g8, -⟩ := r
    exact ⟨0, .inr ⟨rfl, rfl⟩, ⟨⟨g0, (Row.cons.2 ⟨g4, Row.nil _ _ _⟩), g5, g6, g7, g8, by rw [hm]; exact n1.wok⟩, g3, List.Pairwise.nil, .inl ⟨rfl, g2⟩, fun _ h => h, fun _ _ h => h.elim⟩⟩
  have hmg : w.heap.size ≤ m := by omega
  clear n1
  refine W_seq (W_seq ?_)
  refine W_rg fun K hK => (W_text [true, true, true] (by kernel_rfl) ?_); simp only [↓List.toList_toArray, ↓rgd, ↓rgf, ↓reduceIte, Nat.reduceEqDiff, rg, ow_30, e0]
  refine hK _ _ ?_; clear hK K
  show W _ _ _ _ _ _
  refine W_block (W_loop (fun mm e w' => ∃ k : Nat, mm = l.length - k ∧ k ≤ l.length ∧ e 7 = .slice ka l.length kc ∧ e 8 = .int .i64 l.length ∧ e 9 = .int .i64 k ∧ e 3 = ptr m ∧ Ext noF w w' ∧ ∃ F, SetAt w' m (tree ((its l).take k)) F ∧ ∀ y o, F y o → w.heap.size ≤ y)
    l.length ⟨0, by simp, by simp, by simp only [upd_eq, Nat.reduceEqDiff, ↓reduceIte], by simp only [upd_eq, Nat.reduceEqDiff, ↓reduceIte], by simp only [upd_eq, Nat.reduceEqDiff, ↓reduceIte]; rfl, by simp only [upd_eq, Nat.reduceEqDiff, ↓reduceIte]; rw [hm]; rfl, X1, noF, hM0, fun _ _ h => h.elim⟩ ?_)
  clear X1 hM0 e0 e
  rintro mm e w' ⟨k, rfl, hk, eS, eL, eI, eM, X, F, hM, hF⟩
  by_cases hlt : k < l.length
  · have ht := lt_tt k l.length hlt
    refine W_sq fun K hK => (W_text [true] (by kernel_rfl) ?_); simp only [↓List.toList_toArray, ↓rgd, ↓rgf, ↓reduceIte, Nat.reduceEqDiff, rg, ow_30, eL, eI, ht]
    refine hK _ _ ?_; clear hK K
    refine W_seq (W_true (by simp only [evt, evc, upd_eq, Nat.reduceEqDiff, ↓reduceIte, ntT, ntF] <;> rfl) (W_skip ?_))
    show W _ _ _ _ _ _
    obtain ⟨x, hx⟩ : ∃ x, l[k]? = some x := ⟨_, List.getElem?_eq_getElem hlt⟩
    obtain ⟨ib, io, hka, row⟩ := SlV.at hl hkv hlt
    have hibl := SlV.lt hl (hkv.trans (by rw [hka]))
    have ixx := nV_at (X.row row (fun _ _ h => h)) hx
    rw [hka] at eS
    refine W_seq (W_block ?_)
    refine W_sq fun K hK => (W_text [true, true, true] (by kernel_rfl) ?_); simp only [↓List.toList_toArray, ↓rgd, ↓rgf, ↓reduceIte, Nat.reduceEqDiff, rg, ow_30, eS, eI, hlt, ixx]
    refine hK _ _ ?_; clear hK K
    rw [← hka] at eS
    have htl := tree_len ((its l).take k)
    have htk : ((its l).take k).length ≤ k := by rw [List.length_take]; omega
    refine W_rg fun K hK => (W_text [true, true, false] (by kernel_rfl) ?_); simp only [↓List.toList_toArray, ↓rgd, ↓rgf, ↓reduceIte, Nat.reduceEqDiff, rg, ow_30, eM]
    refine do_call fn_42 (by simp only [evt, evc, upd_eq, Nat.reduceEqDiff, ↓reduceIte, maT, maC, maN, isnN, isnS] <;> rfl) (insert_any m x _ F w' hM (by omega)) ?_
    rintro _ w4 ⟨x4, F', hM4, hF'⟩
    refine ⟨trivial, ?_⟩
    simp only [↓List.toList_toArray, ↓rgd, ↓rgf, ↓reduceIte, Nat.reduceEqDiff, rg, ow_30]
    refine hK _ _ ?_; clear hK K
    have sX := X.size
    show W _ _ _ _ _ _
    have q1 := wadd1 k (by omega)
    refine W_rg fun K hK => (W_text [true, true] (by kernel_rfl) ?_); simp only [↓List.toList_toArray, ↓rgd, ↓rgf, ↓reduceIte, Nat.reduceEqDiff, rg, ow_30, eI, q1]
    refine hK _ _ ?_; clear hK K
    refine ⟨_, ?_, k + 1, rfl, hlt, by simp only [upd_eq, Nat.reduceEqDiff, ↓reduceIte]; exact eS, by simp only [upd_eq, Nat.reduceEqDiff, ↓reduceIte]; exact eL, by simp only [upd_eq, Nat.reduceEqDiff, ↓reduceIte], by simp only [upd_eq, Nat.reduceEqDiff, ↓reduceIte]; exact eM, noF_of X x4 (fun y o hy g => by
      rcases g with g | g
      · have := hF y o g; omega
      · omega), F', by rw [tree_succ (its l) k (toIt x) (its_get hx)]; exact hM4, fun y o g => by
      rcases hF' y o g with g | g
      · exact hF y o g
      · omega⟩
    omega
  · obtain rfl : k = l.length := by omega
    have ht := lt_ff l.length l.length (by omega)
    refine W_sq fun K hK => (W_text [true] (by kernel_rfl) ?_); simp only [↓List.toList_toArray, ↓rgd, ↓rgf, ↓reduceIte, Nat.reduceEqDiff, rg, ow_30, eL, eI, ht]
    refine hK _ _ ?_; clear hK K
    refine W_seq (W_false (by simp only [evt, evc, upd_eq, Nat.reduceEqDiff, ↓reduceIte, ntT, ntF] <;> rfl) (W_exit ?_))
    simp only [andThen_exit, inBlk_exit, andThen_normal, ↓reduceIte]
    refine W_sq fun K hK => (W_text [true, true] (by kernel_rfl) ?_); simp only [↓List.toList_toArray, ↓rgd, ↓rgf, ↓reduceIte, Nat.reduceEqDiff, rg, ow_30, eM]
    refine hK _ _ ?_; clear hK K
    have hfull : (its l).take l.length = its l := by rw [← its_length, List.take_length]
    rw [hfull] at hM
    exact W_ret (endQ_1 (by simp only [upd_eq, Nat.reduceEqDiff, ↓reduceIte] <;> rfl) ⟨X, m, F, rfl, hM, hmg, hF⟩)end Go.Proofs.Ytjaolgehpnmieaa
/-
  The keys of a tree. No condition.
-/
set_option linter.unusedSimpArgs false
set_option linter.unusedVariables false
namespace Go.Proofs.Ytjaolgehpnmieaa
open Go Go.Proofs
theorem take_snoc {α : Type} {l : List α} {i : Nat} {x : α} (h : l[i]? = some x) : l.take (i + 1) = l.take i ++ [x] := by rw [List.take_add_one, h]; rfl
set_option maxHeartbeats 1000000 in
set_option maxRecDepth 8000 in
theorem nodeKeys_any (B : Nat) (iso : Int) (mn mx : Nat) :
    ∀ (h b lo : Nat) (xs : List It) (F : Nat → Nat → Prop) (kv : Value) (K : List Int) (w : World), Tr E iso mn mx h w lo b xs F → (∀ y o, F y o → y < B) → OutE En B kv K w →
      K.length + xs.length ≤ 4294967295 → B ≤ w.heap.size →
    CallK Try.prog 64 #[ptr b, kv] w fun v w' => OutE En B v (K ++ xs.map κ) w' ∧ Ext (fun y _ => B ≤ y) w w' := by
  intro h
  induction h with
  | zero =>
    intro b lo xs F kv K w ht hG hS hb1 hB
    obtain ⟨bi, oi, cap, ho, h1, h2, hF⟩ := ht
    have hGo : ∀ y o, ownF E b bi oi cap y o → y < B := fun y o g => hG y o ((hF y o).2 g)
    refine calls_of_W [.tmp 4] Try.func64 rfl Try.ntmps64 Try.results64 (by simp) fun e he => ?_
    have e0 : e 0 = ptr b := he 0 _ rfl
    have e1 : e 1 = kv := he 1 _ rfl
    clear he
    refine W_sq fun K0 hK => (W_text [true] (by kernel_rfl) ?_); simp only [↓List.toList_toArray, ↓rgd, ↓rgf, ↓reduceIte, Nat.reduceEqDiff, rg, ow_64]
    refine hK _ _ ?_; clear hK K0
    refine W_seq ?_
    refine W_sq fun K0 hK => (W_text [true, false] (by kernel_rfl) ?_); simp only [↓List.toList_toArray, ↓rgd, ↓rgf, ↓reduceIte, Nat.reduceEqDiff, rg, ow_64, e0]
    refine do_call fn_63 (by simp only [evt, evc, upd_eq, Nat.reduceEqDiff, ↓reduceIte, maT, maC, maN, isnN, isnS] <;> rfl) (leaf_any b none w ho.h3) ?_
    rintro _ w ⟨rfl, rfl⟩
    refine ⟨trivial, ?_⟩
    simp only [↓List.toList_toArray, ↓rgd, ↓rgf, ↓reduceIte, Nat.reduceEqDiff, rg, ow_64]
    refine hK _ _ ?_; clear hK K0
    refine W_true (by simp only [evt, evc, upd_eq, Nat.reduceEqDiff, ↓reduceIte, ntT, ntF] <;> rfl) (W_seq ?_)
    refine W_sq fun K0 hK => (W_text [true] (by kernel_rfl) ?_); simp only [↓List.toList_toArray, ↓rgd, ↓rgf, ↓reduceIte, Nat.reduceEqDiff, rg, ow_64]
    refine hK _ _ ?_; clear hK K0
    refine W_block (W_loop (fun mm e w' => ∃ (i : Nat), mm = xs.length - i ∧ i ≤ xs.length ∧ OutE En B (e 1) (K ++ (xs.take i).map κ) w' ∧ Ext (fun y _ => B ≤ y) w w' ∧ e 0 = ptr b ∧ e 5 = .int .i64 i)
      xs.length ⟨0, by simp, by simp, ?_, Ext.refl _ _, ?_, ?_⟩ ?_)
    · simp only [upd_eq, Nat.reduceEqDiff, ↓reduceIte]; rw [e1]; simpa using hS
    · simp only [upd_eq, Nat.reduceEqDiff, ↓reduceIte]; exact e0
    · simp only [upd_eq, Nat.reduceEqDiff, ↓reduceIte]; rfl
    · clear e0 e1 e hS
      rintro mm e w' ⟨i, rfl, hi, hkv, X, e0, e5⟩
      have o' := ho.ext X fun y o h => by have := hGo y o h; omega
      have hb2 := o'.h2
      have sX := X.size
      refine W_seq ?_
      by_cases hlt : i < xs.length
      · have ht := lt_tt i xs.length hlt
        refine W_sq fun K0 hK => (W_text [true, true, true, true, true, true, true] (by kernel_rfl) ?_); simp only [↓List.toList_toArray, ↓rgd, ↓rgf, ↓reduceIte, Nat.reduceEqDiff, rg, ow_64, e0, e5, ptr_eq, hb2, ht]
        refine hK _ _ ?_; clear hK K0
        refine W_true (by simp only [evt, evc, upd_eq, Nat.reduceEqDiff, ↓reduceIte, ntT, ntF] <;> rfl) (W_skip ?_)
        show W _ _ _ _ _ _
        refine W_seq (W_block ?_)
        obtain ⟨x, hx⟩ : ∃ x, xs[i]? = some x := ⟨_, List.getElem?_eq_getElem hlt⟩
        have hk := key_at o'.row hx
        have hlk : (xs.take i).length = i := by rw [List.length_take]; omega
        refine W_rg fun K0 hK => (W_text [true, true, true, true, true, true, true, true, true, false, false, true] (by kernel_rfl) ?_); simp only [↓List.toList_toArray, ↓rgd, ↓rgf, ↓reduceIte, Nat.reduceEqDiff, rg, ow_64, e0, e5, ptr_eq, hb2, hlt, hk]
        refine do_bsl rfl (bs_n1 (κ x)) fun w3 n3 => ⟨trivial, ?_⟩
        simp only [↓List.toList_toArray, ↓rgd, ↓rgf, ↓reduceIte, Nat.reduceEqDiff, rg, ow_64]
        have H3 := hkv.ext n3.ext
        have s3 := n3.size
        have z3 : SlV w3 1 (.slice (some ⟨w'.heap.size, 0, none⟩) 1 1) 1 (En.cel (κ x)) := ⟨rfl, .inr ⟨_, 0, 1, rfl, Nat.le_refl _, n3.row, n3.wok.R (Nat.le_refl _)⟩⟩
        refine do_append (by simp only [evt, evc, upd_eq, Nat.reduceEqDiff, ↓reduceIte, ntT, ntF] <;> rfl) (by simp only [evt, evc, upd_eq, Nat.reduceEqDiff, ↓reduceIte, ntT, ntF] <;> rfl) el_n rfl ni_n H3.sl z3 (by simp; omega) (by decide) (En.one _) fun v4 w4 a4 => ⟨trivial, ?_⟩
        obtain ⟨H4, X4⟩ := H3.app a4 (by omega)
        simp only [↓List.toList_toArray, ↓rgd, ↓rgf, ↓reduceIte, Nat.reduceEqDiff, rg, ow_64]
        refine hK _ _ ?_; clear hK K0
        have X4' : Ext (fun y _ => B ≤ y) w' w4 := (n3.ext.mono fun _ _ _ h => h.elim).tr X4
        show W _ _ _ _ _ _
        have q1 := wadd1 i (by omega)
        refine W_rg fun K0 hK => (W_text [true, true, true] (by kernel_rfl) ?_); simp only [↓List.toList_toArray, ↓rgd, ↓rgf, ↓reduceIte, Nat.reduceEqDiff, rg, ow_64, e5, q1]
        refine hK _ _ ?_; clear hK K0
        refine ⟨_, ?_, i + 1, rfl, hlt, ?_, X.tr X4', ?_, ?_⟩
        · omega
        · simp only [upd_eq, Nat.reduceEqDiff, ↓reduceIte]
          rw [take_snoc hx, List.map_append, ← List.append_assoc]
          exact H4
        · simp only [upd_eq, Nat.reduceEqDiff, ↓reduceIte]; exact e0
        · simp only [upd_eq, Nat.reduceEqDiff, ↓reduceIte]
      · obtain rfl : i = xs.length := by omega
        have ht := lt_ff xs.length xs.length (by omega)
        refine W_sq fun K0 hK => (W_text [true, true, true, true, true, true, true] (by kernel_rfl) ?_); simp only [↓List.toList_toArray, ↓rgd, ↓rgf, ↓reduceIte, Nat.reduceEqDiff, rg, ow_64, e0, e5, ptr_eq, hb2, ht]
        refine hK _ _ ?_; clear hK K0
        refine W_false (by simp only [evt, evc, upd_eq, Nat.reduceEqDiff, ↓reduceIte, ntT, ntF] <;> rfl) (W_exit ?_)
        simp only [andThen_exit, inBlk_exit, ↓reduceIte]
        show W _ _ _ _ _ _
        refine W_sq fun K0 hK => (W_text [true, true] (by kernel_rfl) ?_); simp only [↓List.toList_toArray, ↓rgd, ↓rgf, ↓reduceIte, Nat.reduceEqDiff, rg, ow_64]
        refine hK _ _ ?_; clear hK K0
        refine W_ret ?_
        simp only [andThen_ret]
        rw [List.take_length] at hkv
        exact endQ_1 (by simp only [upd_eq, Nat.reduceEqDiff, ↓reduceIte] <;> rfl) ⟨hkv, X⟩
  | succ h ih =>
    intro b lo xs F kv K w ht hG hS hb1 hB
    obtain ⟨bi, oi, cap, bc, ba, oa, capc, ks, cs, ho, hk, h1, h2, hcs, rfl, hT, hA, hF⟩ := ht
    have hGo : ∀ y o, ownF E b bi oi cap y o → y < B := fun y o g => hG y o ((hF y o).2 (.inl g))
    have hGk : ∀ y o, kidF bc ba oa capc y o → y < B := fun y o g => hG y o ((hF y o).2 (.inr (.inl g)))
    have hGc : ∀ c ∈ cs, ∀ y o, c.F y o → y < B := fun c hc y o g => hG y o ((hF y o).2 (.inr (.inr ⟨c, hc, g⟩)))
    have hwl := weave_length (cs.map Kid.xs) ks (by simpa using hcs)
    refine calls_of_W [.tmp 4] Try.func64 rfl Try.ntmps64 Try.results64 (by simp) fun e he => ?_
    have e0 : e 0 = ptr b := he 0 _ rfl
    have e1 : e 1 = kv := he 1 _ rfl
    clear he
    refine W_sq fun K0 hK => (W_text [true] (by kernel_rfl) ?_); simp only [↓List.toList_toArray, ↓rgd, ↓rgf, ↓reduceIte, Nat.reduceEqDiff, rg, ow_64]
    refine hK _ _ ?_; clear hK K0
    refine W_seq ?_
    refine W_sq fun K0 hK => (W_text [true, false] (by kernel_rfl) ?_); simp only [↓List.toList_toArray, ↓rgd, ↓rgf, ↓reduceIte, Nat.reduceEqDiff, rg, ow_64, e0]
    refine do_call fn_63 (by simp only [evt, evc, upd_eq, Nat.reduceEqDiff, ↓reduceIte, maT, maC, maN, isnN, isnS] <;> rfl) (leaf_any b (some ⟨bc, 0, none⟩) w ho.h3) ?_
    rintro _ w ⟨rfl, rfl⟩
    refine ⟨trivial, ?_⟩
    simp only [↓List.toList_toArray, ↓rgd, ↓rgf, ↓reduceIte, Nat.reduceEqDiff, rg, ow_64]
    refine hK _ _ ?_; clear hK K0
    refine W_false (by simp only [evt, evc, upd_eq, Nat.reduceEqDiff, ↓reduceIte, ntT, ntF] <;> rfl) (W_skip ?_)
    show W _ _ _ _ _ _
    refine W_seq (W_seq ?_)
    refine W_rg fun K0 hK => (W_text [true] (by kernel_rfl) ?_); simp only [↓List.toList_toArray, ↓rgd, ↓rgf, ↓reduceIte, Nat.reduceEqDiff, rg, ow_64]
    refine hK _ _ ?_; clear hK K0
    show W _ _ _ _ _ _
    refine W_block (W_loop (fun mm e w' => ∃ (i : Nat) (K' : List Int), mm = ks.length - i ∧ i ≤ ks.length ∧ K ++ (weave (cs.map Kid.xs) ks).map κ = K' ++ (weave ((cs.map Kid.xs).drop i) (ks.drop i)).map κ ∧
        OutE En B (e 1) K' w' ∧ Ext (fun y _ => B ≤ y) w w' ∧ e 0 = ptr b ∧ e 6 = .int .i64 i)
      ks.length ⟨0, K, by simp, by simp, by simp, ?_, Ext.refl _ _, ?_, ?_⟩ ?_)
    · simp only [upd_eq, Nat.reduceEqDiff, ↓reduceIte]; rw [e1]; exact hS
    · simp only [upd_eq, Nat.reduceEqDiff, ↓reduceIte]; exact e0
    · simp only [upd_eq, Nat.reduceEqDiff, ↓reduceIte]; rfl
    · clear e0 e1 e hS
      rintro mm e w' ⟨i, K', rfl, hi, hKe, hkv, X, e0, e6⟩
      have hKl := congrArg List.length hKe
      simp only [List.length_append, List.length_map] at hKl
      have o' := ho.ext X fun y o g => by have := hGo y o g; omega
      have k' := hk.ext X fun y o g => by have := hGk y o g; omega
      have hb2 := o'.h2
      have hb3 := o'.h3
      have hc0 := k'.c0
      have sX := X.size
      have hci : ∀ i, i < cs.length → ∃ c, cs[i]? = some c ∧ rd w' ba (oa + i) = some (ptr c.b) := fun i hi => by
        refine ⟨cs[i], List.getElem?_eq_getElem hi, k'.row i _ ?_⟩
        rw [List.getElem?_map, List.getElem?_map, List.getElem?_eq_getElem hi]; rfl
      rw [List.length_map] at hc0
      refine W_seq ?_
      by_cases hlt : i < ks.length
      · have ht := lt_tt i ks.length hlt
        refine W_sq fun K0 hK => (W_text [true, true, true, true, true, true, true] (by kernel_rfl) ?_); simp only [↓List.toList_toArray, ↓rgd, ↓rgf, ↓reduceIte, Nat.reduceEqDiff, rg, ow_64, e0, e6, ptr_eq, hb2, ht]
        refine hK _ _ ?_; clear hK K0
        refine W_true (by simp only [evt, evc, upd_eq, Nat.reduceEqDiff, ↓reduceIte, ntT, ntF] <;> rfl) (W_skip ?_)
        show W _ _ _ _ _ _
        refine W_seq (W_block ?_)
        obtain ⟨c, hc, hcr⟩ := hci i (by omega)
        have hcm : c ∈ cs := List.mem_of_getElem? hc
        obtain ⟨x, hx⟩ : ∃ x, ks[i]? = some x := ⟨_, List.getElem?_eq_getElem hlt⟩
        have hlc : i < cs.length := by omega
        rw [weave_step (c := c.xs) (by rw [List.getElem?_map, hc]; rfl) hx] at hKe hKl
        simp only [List.length_append, List.length_cons] at hKl
        refine W_sq fun K0 hK => (W_text [true, true, true, true, true, true, true, true, true, true, false, true] (by kernel_rfl) ?_); simp only [↓List.toList_toArray, ↓rgd, ↓rgf, ↓reduceIte, Nat.reduceEqDiff, rg, ow_64, e0, e6, ptr_eq, hb3, hc0, hlc, hcr]
        refine do_call fn_64 (by simp only [evt, evc, upd_eq, Nat.reduceEqDiff, ↓reduceIte, maT, maC, maN, isnN, isnS] <;> rfl) (ih c.b mn c.xs c.F (e 1) K' _ ((hT c hcm).ext X fun y o g => by have := hGc c hcm y o g; omega) (hGc c hcm) hkv (by omega) (by omega)) ?_
        rintro kv2 w2 ⟨H2, X2⟩
        refine ⟨trivial, ?_⟩
        simp only [↓List.toList_toArray, ↓rgd, ↓rgf, ↓reduceIte, Nat.reduceEqDiff, rg, ow_64]
        refine hK _ _ ?_; clear hK K0
        have s2 := X2.size
        have o2 := o'.ext X2 fun y o g => by have := hGo y o g; omega
        have hb2' := o2.h2
        have hk2 := key_at o2.row hx
        refine W_rg fun K0 hK => (W_text [true, true, true, true, true, true, true, true, true, false, false, true] (by kernel_rfl) ?_); simp only [↓List.toList_toArray, ↓rgd, ↓rgf, ↓reduceIte, Nat.reduceEqDiff, rg, ow_64, e0, e6, ptr_eq, hb2', hlt, hk2]
        refine do_bsl rfl (bs_n1 (κ x)) fun w3 n3 => ⟨trivial, ?_⟩
        simp only [↓List.toList_toArray, ↓rgd, ↓rgf, ↓reduceIte, Nat.reduceEqDiff, rg, ow_64]
        have H3 := H2.ext n3.ext
        have s3 := n3.size
        have z3 : SlV w3 1 (.slice (some ⟨w2.heap.size, 0, none⟩) 1 1) 1 (En.cel (κ x)) := ⟨rfl, .inr ⟨_, 0, 1, rfl, Nat.le_refl _, n3.row, n3.wok.R (Nat.le_refl _)⟩⟩
        refine do_append (by simp only [evt, evc, upd_eq, Nat.reduceEqDiff, ↓reduceIte, ntT, ntF] <;> rfl) (by simp only [evt, evc, upd_eq, Nat.reduceEqDiff, ↓reduceIte, ntT, ntF] <;> rfl) el_n rfl ni_n H3.sl z3 (by simp; omega) (by decide) (En.one _) fun v4 w4 a4 => ⟨trivial, ?_⟩
        obtain ⟨H4, X4⟩ := H3.app a4 (by omega)
        simp only [↓List.toList_toArray, ↓rgd, ↓rgf, ↓reduceIte, Nat.reduceEqDiff, rg, ow_64]
        refine hK _ _ ?_; clear hK K0
        have X4' : Ext (fun y _ => B ≤ y) w2 w4 := (n3.ext.mono fun _ _ _ h => h.elim).tr X4
        show W _ _ _ _ _ _
        have q1 := wadd1 i (by omega)
        refine W_rg fun K0 hK => (W_text [true, true, true] (by kernel_rfl) ?_); simp only [↓List.toList_toArray, ↓rgd, ↓rgf, ↓reduceIte, Nat.reduceEqDiff, rg, ow_64, e6, q1]
        refine hK _ _ ?_; clear hK K0
        refine ⟨_, ?_, i + 1, K' ++ c.xs.map κ ++ [κ x], rfl, hlt, ?_, ?_, (X.tr X2).tr X4', ?_, ?_⟩
        · omega
        · rw [hKe]; simp
        · simp only [upd_eq, Nat.reduceEqDiff, ↓reduceIte]; exact H4
        · simp only [upd_eq, Nat.reduceEqDiff, ↓reduceIte]; exact e0
        · simp only [upd_eq, Nat.reduceEqDiff, ↓reduceIte]
      · obtain rfl : i = ks.length := by omega
        have ht := lt_ff ks.length ks.length (by omega)
        refine W_sq fun K0 hK => (W_text [true, true, true, true, true, true, true] (by kernel_rfl) ?_); simp only [↓List.toList_toArray, ↓rgd, ↓rgf, ↓reduceIte, Nat.reduceEqDiff, rg, ow_64, e0, e6, ptr_eq, hb2, ht]
        refine hK _ _ ?_; clear hK K0
        refine W_false (by simp only [evt, evc, upd_eq, Nat.reduceEqDiff, ↓reduceIte, ntT, ntF] <;> rfl) (W_exit ?_)
        simp only [andThen_exit, inBlk_exit, andThen_normal, Nat.reduceEqDiff, ↓reduceIte]
        obtain ⟨c, hc, hcr⟩ := hci ks.length (by omega)
        have hcm : c ∈ cs := List.mem_of_getElem? hc
        rw [weave_last (c := c.xs) (by simpa using hcs) (by rw [List.getElem?_map, hc]; rfl)] at hKe hKl
        have hlc : cs.length - 1 < cs.length := by omega
        have hl1 : cs.length - 1 = ks.length := by omega
        have q1 := wsub1 cs.length (by omega) (by omega)
        rw [← hl1] at hcr
        have M1 : readsB (some (some [b, bc, ba])) b = true := by simp [readsB]
        have M2 : readsB (some (some [b, bc, ba])) bc = true := by simp [readsB]
        have M3 : readsB (some (some [b, bc, ba])) ba = true := by simp [readsB]
        refine W_sq fun K0 hK => (W_draw (some (some [b, bc, ba])) none [(0, 0, 0), (0, 1, 0), (0, 2, 0), (0, 3, 0), (0, 4, 0), (0, 5, 0), (0, 6, 0), (0, 7, 0), (0, 8, 0), (0, 9, 0), (0, 10, 0), (0, 11, 0), (0, 12, 0), (0, 13, 0), (0, 14, 0), (0, 15, 0), (0, 16, 0), (1, 17, 0), (0, 18, 0)] mixed (by kernel_rfl) ?_); simp only [↓List.toList_toArray, ↓rgd, ↓rgf, ↓reduceIte, Nat.reduceEqDiff, rg, ow_64, e0, ptr_eq, hb3, hc0, q1, hlc, hcr, M1, M2, M3]
        refine do_call fn_64 (by simp only [evt, evc, upd_eq, Nat.reduceEqDiff, ↓reduceIte, maT, maC, maN, isnN, isnS] <;> rfl) (ih c.b mn c.xs c.F (e 1) K' _ ((hT c hcm).ext (X.tr (Ext.dr _ _ _)) fun y o g => by have := hGc c hcm y o g; omega) (hGc c hcm) (hkv.ext (Ext.dr _ _ _)) (by omega) (by rw [sz_dr]; omega)) ?_
        rintro kv2 w2 ⟨H2, X2⟩
        refine ⟨.inr (keeps_on X2 fun y hy => ?_), ?_⟩
        · rw [sz_dr]
          simp only [List.mem_cons, List.not_mem_nil, or_false] at hy
          rcases hy with rfl | rfl | rfl
          · exact ⟨wok_lt o'.wb, fun o g => by have := hGo _ 0 (.inl rfl); omega⟩
          · exact ⟨wok_lt k'.wc, fun o g => by have := hGk _ 0 (.inl rfl); omega⟩
          · exact ⟨wok_lt k'.wa, fun o g => by have := hGk _ oa (.inr ⟨rfl, by omega, by have := k'.le; rw [List.length_map] at this; omega⟩); omega⟩
        simp only [↓List.toList_toArray, ↓rgd, ↓rgf, ↓reduceIte, Nat.reduceEqDiff, rg, ow_64]
        refine hK _ _ ?_; clear hK K0
        refine W_ret ?_
        refine endQ_1 (by simp only [upd_eq, Nat.reduceEqDiff, ↓reduceIte] <;> rfl) ⟨?_, X.tr X2.od⟩
        rw [hKe]
        exact H2
set_option maxHeartbeats 1000000 in
set_option maxRecDepth 8000 in
theorem keys_any (m d : Nat) (iso : Int) (xs : List It) (F : Nat → Nat → Prop) (w : World) (hM : MapAt w m d iso xs F) (hbig : xs.length ≤ 2147483647) :
    CallK Try.prog 49 #[ptr m] w fun v w' => OutE En w.heap.size v (xs.map κ) w' ∧ Ext noF w w' := by
  refine calls_of_W [.tmp 2] Try.func49 rfl Try.ntmps49 Try.results49 (by simp) fun e he => ?_
  have e0 : e 0 = ptr m := he 0 _ rfl
  clear he
  refine W_sq fun K0 hK => (W_text [true] (by kernel_rfl) ?_); simp only [↓List.toList_toArray, ↓rgd, ↓rgf, ↓reduceIte, Nat.reduceEqDiff, rg, ow_49]
  refine hK _ _ ?_; clear hK K0
  refine W_sq fun K0 hK => (W_text [true, false, false, true] (by kernel_rfl) ?_); simp only [↓List.toList_toArray, ↓rgd, ↓rgf, ↓reduceIte, Nat.reduceEqDiff, rg, ow_49, e0]
  refine do_call fn_56 (by simp only [evt, evc, upd_eq, Nat.reduceEqDiff, ↓reduceIte, maT, maC, maN, isnN, isnS] <;> rfl) (len_any m d iso xs F w hM) ?_
  rintro _ w ⟨rfl, rfl⟩
  refine ⟨trivial, ?_⟩
  simp only [↓List.toList_toArray, ↓rgd, ↓rgf, ↓reduceIte, Nat.reduceEqDiff, rg, ow_49]
  refine do_make (n := 0) (c := xs.length) (by simp only [evt, evc, upd_eq, Nat.reduceEqDiff, ↓reduceIte, ntT, ntF] <;> rfl) (by simp only [evt, evc, upd_eq, Nat.reduceEqDiff, ↓reduceIte, ntT, ntF] <;> rfl) el_n rfl (Nat.zero_le _) (by omega) (by omega) fun w1 l1 hl1 n1 => ⟨trivial, ?_⟩
  simp only [↓List.toList_toArray, ↓rgd, ↓rgf, ↓reduceIte, Nat.reduceEqDiff, rg, ow_49]
  refine hK _ _ ?_; clear hK K0
  have s1 := n1.size
  have hM1 := hM.ext n1.ext
  have kv0 : OutE En w.heap.size (.slice (some ⟨w.heap.size, 0, none⟩) 0 xs.length) [] w1 := by
    refine ⟨⟨by simp [flat], .inr ⟨_, 0, _, rfl, Nat.zero_le _, Row.nil _ _ _, n1.wok.R ?_⟩⟩, fun b o n c h => ?_⟩
    · rw [hl1]; show 0 + xs.length * 1 ≤ xs.length * 1; omega
    · simp only [Value.slice.injEq, Option.some.injEq, Addr.mk.injEq] at h; omega
  refine W_seq ?_
  rcases hM1.root with ⟨rfl, hr⟩ | ⟨h, b, hr, ht⟩
  · refine W_sq fun K0 hK => (W_text [true, true, true, true, true] (by kernel_rfl) ?_); simp only [↓List.toList_toArray, ↓rgd, ↓rgf, ↓reduceIte, Nat.reduceEqDiff, rg, ow_49, e0, ptr_eq, hr]
    refine hK _ _ ?_; clear hK K0
    refine W_false (by simp only [evt, evc, upd_eq, Nat.reduceEqDiff, ↓reduceIte, ntT, ntF] <;> rfl) (W_skip ?_)
    show W _ _ _ _ _ _
    refine W_sq fun K0 hK => (W_text [true, true] (by kernel_rfl) ?_); simp only [↓List.toList_toArray, ↓rgd, ↓rgf, ↓reduceIte, Nat.reduceEqDiff, rg, ow_49]
    refine hK _ _ ?_; clear hK K0
    exact W_ret (endQ_1 (by simp only [upd_eq, Nat.reduceEqDiff, ↓reduceIte] <;> rfl) ⟨kv0, n1.ext⟩)
  · refine W_sq fun K0 hK => (W_text [true, true, true, true, true] (by kernel_rfl) ?_); simp only [↓List.toList_toArray, ↓rgd, ↓rgf, ↓reduceIte, Nat.reduceEqDiff, rg, ow_49, e0, ptr_eq, hr]
    refine hK _ _ ?_; clear hK K0
    refine W_true (by simp only [evt, evc, upd_eq, Nat.reduceEqDiff, ↓reduceIte, ntT, ntF] <;> rfl) ?_
    refine W_rg fun K0 hK => (W_text [true, true, true, true, true, false, true] (by kernel_rfl) ?_); simp only [↓List.toList_toArray, ↓rgd, ↓rgf, ↓reduceIte, Nat.reduceEqDiff, rg, ow_49, e0, ptr_eq, hr]
    refine do_call fn_64 (by simp only [evt, evc, upd_eq, Nat.reduceEqDiff, ↓reduceIte, maT, maC, maN, isnN, isnS] <;> rfl) (nodeKeys_any w.heap.size iso _ _ h b 1 xs F _ [] w1 ht (fun y o g => hM.lt y o g) kv0 (by simp; omega) (by omega)) ?_
    rintro kv2 w2 ⟨H2, X2⟩
    refine ⟨trivial, ?_⟩
    simp only [↓List.toList_toArray, ↓rgd, ↓rgf, ↓reduceIte, Nat.reduceEqDiff, rg, ow_49]
    refine hK _ _ ?_; clear hK K0
    show W _ _ _ _ _ _
    refine W_sq fun K0 hK => (W_text [true, true] (by kernel_rfl) ?_); simp only [↓List.toList_toArray, ↓rgd, ↓rgf, ↓reduceIte, Nat.reduceEqDiff, rg, ow_49]
    refine hK _ _ ?_; clear hK K0
    exact W_ret (endQ_1 (by simp only [upd_eq, Nat.reduceEqDiff, ↓reduceIte] <;> rfl) ⟨by simpa using H2, noF_of n1.ext X2 fun y o hy g => by omega⟩)
set_option maxHeartbeats 400000 in
set_option maxRecDepth 8000 in
theorem skeys_any (m : Nat) (xs : List It) (F : Nat → Nat → Prop) (w : World) (h : SetAt w m xs F) (hbig : xs.length ≤ 2147483647) :
    CallK Try.prog 32 #[ptr m] w fun v w' => OutE En w.heap.size v (xs.map κ) w' ∧ Ext noF w w' := by
  obtain ⟨d, hd, hM⟩ := h
  refine calls_of_W [.tmp 2] Try.func32 rfl Try.ntmps32 Try.results32 (by simp) fun e he => ?_
  have e0 : e 0 = ptr m := he 0 _ rfl
  clear he
  refine W_sq fun K0 hK => (W_text [true] (by kernel_rfl) ?_); simp only [↓List.toList_toArray, ↓rgd, ↓rgf, ↓reduceIte, Nat.reduceEqDiff, rg, ow_32]
  refine hK _ _ ?_; clear hK K0
  refine W_sq fun K0 hK => (W_text [true, true, true, false, true] (by kernel_rfl) ?_); simp only [↓List.toList_toArray, ↓rgd, ↓rgf, ↓reduceIte, Nat.reduceEqDiff, rg, ow_32, e0, ptr_eq]
  refine do_call fn_49 (by simp only [evt, evc, upd_eq, Nat.reduceEqDiff, ↓reduceIte, maT, maC, maN, isnN, isnS] <;> rfl) (keys_any m d 0 xs F w hM hbig) ?_
  rintro v w1 h1
  refine ⟨trivial, ?_⟩
  simp only [↓List.toList_toArray, ↓rgd, ↓rgf, ↓reduceIte, Nat.reduceEqDiff, rg, ow_32]
  refine hK _ _ ?_; clear hK K0
  exact W_ret (endQ_1 (by simp only [upd_eq, Nat.reduceEqDiff, ↓reduceIte] <;> rfl) h1)
set_option maxHeartbeats 400000 in
set_option maxRecDepth 8000 in
theorem impl_sinsert (l : List Int) (lv : Value) (w : World) (hl : SlN w lv l) (hbig : l.length ≤ 2147483647) :
    CallK Try.prog 16 #[lv] w fun v w' => SlN w' v ((tree (its l)).map κ) ∧ Ext noF w w' := by
  refine calls_of_W [.tmp 2] Try.func16 rfl Try.ntmps16 Try.results16 (by simp) fun e he => ?_
  have e0 : e 0 = lv := he 0 _ rfl
  clear he
  refine W_sq fun K0 hK => (W_text [true] (by kernel_rfl) ?_); simp only [↓List.toList_toArray, ↓rgd, ↓rgf, ↓reduceIte, Nat.reduceEqDiff, rg, ow_16]
  refine hK _ _ ?_; clear hK K0
  refine W_sq fun K0 hK => (W_text [true, false, false, true] (by kernel_rfl) ?_); simp only [↓List.toList_toArray, ↓rgd, ↓rgf, ↓reduceIte, Nat.reduceEqDiff, rg, ow_16, e0]
  refine do_call fn_30 (by simp only [evt, evc, upd_eq, Nat.reduceEqDiff, ↓reduceIte, maT, maC, maN, isnN, isnS] <;> rfl) (grow_any l lv w hl hbig) ?_
  rintro _ w1 ⟨X1, m, F, rfl, hM, hm, -⟩
  refine ⟨trivial, ?_⟩
  simp only [↓List.toList_toArray, ↓rgd, ↓rgf, ↓reduceIte, Nat.reduceEqDiff, rg, ow_16]
  have htl := tree_len (its l)
  rw [its_length] at htl
  refine do_call fn_32 (by simp only [evt, evc, upd_eq, Nat.reduceEqDiff, ↓reduceIte, maT, maC, maN, isnN, isnS] <;> rfl) (skeys_any m _ F w1 hM (by omega)) ?_
  rintro v w2 ⟨h2, X2⟩
  refine ⟨trivial, ?_⟩
  simp only [↓List.toList_toArray, ↓rgd, ↓rgf, ↓reduceIte, Nat.reduceEqDiff, rg, ow_16]
  refine hK _ _ ?_; clear hK K0
  exact W_ret (endQ_1 (by simp only [upd_eq, Nat.reduceEqDiff, ↓reduceIte] <;> rfl) ⟨h2.sl, X1.tr X2⟩)
end Go.Proofs.Ytjaolgehpnmieaa
/-
  The reference over lists of numbers. No condition.
-/
set_option linter.unusedSimpArgs false
set_option linter.unusedVariables false
namespace Go.Proofs.Ytjaolgehpnmieaa
open Go Go.Proofs
theorem bu_itemK (a : Int) : buildV Try.prog 36 [(0, .int .i64 a)] = some (iV (toIt a)) := by kernel_rfl
theorem nil_n (w : World) : SlN w (.slice none 0 0) [] := ⟨rfl, .inl ⟨rfl, rfl⟩⟩
theorem nil_i (w : World) : SlI w (.slice none 0 0) [] := ⟨rfl, .inl ⟨rfl, rfl⟩⟩
theorem SlN.eq {w : World} {v : Value} {l l' : List Int} (h : SlN w v l) (e : l = l') : SlN w v l' := e ▸ h
theorem bs_exS : bsV Try.prog 22 5 [(0, .int .i64 5), (1, .int .i64 3), (2, .int .i64 9), (3, .int .i64 3), (4, .int .i64 1)] = some (3, flat En [5, 3, 9, 3, 1]) := by kernel_rfl
set_option maxHeartbeats 1000000 in
set_option maxRecDepth 8000 in
theorem skeysS_any (l : List It) (lv : Value) (w : World) (hl : SlI w lv l) (hbig : l.length ≤ 2147483648) :
    CallK Try.prog 26 #[lv] w fun v w' => SlV w' 1 v (l.map κ).length (flat En (l.map κ)) ∧ Ext noF w w' := by
  obtain ⟨a, c, hlv⟩ := hl.shape
  refine calls_of_W [.tmp 2] Try.func26 rfl Try.ntmps26 Try.results26 (by simp) fun e he => ?_
  have e0 : e 0 = .slice a l.length c := by rw [← hlv]; exact he 0 _ rfl
  clear he
  refine W_sq fun K hK => (W_text [true] (by kernel_rfl) ?_); simp only [↓List.toList_toArray, ↓rgd, ↓rgf, ↓reduceIte, Nat.reduceEqDiff, rg, ow_26]
  refine hK _ _ ?_; clear hK K
  refine W_sq fun K hK => (W_text [true] (by kernel_rfl) ?_); simp only [↓List.toList_toArray, ↓rgd, ↓rgf, ↓reduceIte, Nat.reduceEqDiff, rg, ow_26]
  refine hK _ _ ?_; clear hK K
  refine W_seq (W_seq ?_)
  refine W_rg fun K hK => (W_text [true, true, true] (by kernel_rfl) ?_); simp only [↓List.toList_toArray, ↓rgd, ↓rgf, ↓reduceIte, Nat.reduceEqDiff, rg, ow_26, e0]
  refine hK _ _ ?_; clear hK K
  show W _ _ _ _ _ _
  refine W_block (W_loop (fun mm e w' => ∃ k : Nat, mm = l.length - k ∧ k ≤ l.length ∧ e 6 = .slice a l.length c ∧ e 7 = .int .i64 l.length ∧ e 8 = .int .i64 k ∧ OutE En w.heap.size (e 3) ((l.take k).map κ) w' ∧ Ext (fun y _ => w.heap.size ≤ y) w w')
    l.length ⟨0, by simp, by simp, ?_, ?_, ?_, ?_, Ext.refl _ _⟩ ?_)
  · simp only [upd_eq, Nat.reduceEqDiff, ↓reduceIte]
  · simp only [upd_eq, Nat.reduceEqDiff, ↓reduceIte]
  · simp only [upd_eq, Nat.reduceEqDiff, ↓reduceIte]; rfl
  · simp only [upd_eq, Nat.reduceEqDiff, ↓reduceIte]; exact OutE.nil _ _ _
  · clear e0 e
    rintro mm e w' ⟨k, rfl, hk, e6, e7, e8, hO, X⟩
    have sX := X.size
    by_cases hlt : k < l.length
    · have ht := lt_tt k l.length hlt
      refine W_sq fun K hK => (W_text [true] (by kernel_rfl) ?_); simp only [↓List.toList_toArray, ↓rgd, ↓rgf, ↓reduceIte, Nat.reduceEqDiff, rg, ow_26, e7, e8, ht]
      refine hK _ _ ?_; clear hK K
      refine W_seq (W_true (by simp only [evt, evc, upd_eq, Nat.reduceEqDiff, ↓reduceIte, ntT, ntF] <;> rfl) (W_skip ?_))
      show W _ _ _ _ _ _
      obtain ⟨x, hx⟩ : ∃ x, l[k]? = some x := ⟨_, List.getElem?_eq_getElem hlt⟩
      obtain ⟨ib, io, rfl, row⟩ := hl.at hlv hlt
      have hibl := hl.lt hlv
      have ixx := iV_at (X.row row fun _ _ h => by omega) hx
      refine W_seq (W_block ?_)
      refine W_sq fun K hK => (W_text [true, true, false, false] (by kernel_rfl) ?_); simp only [↓List.toList_toArray, ↓rgd, ↓rgf, ↓reduceIte, Nat.reduceEqDiff, rg, ow_26, e6, e8, hlt, ixx]
      refine do_alloc z_item fun w2 n2 => ⟨trivial, ?_⟩
      simp only [↓List.toList_toArray, ↓rgd, ↓rgf, ↓reduceIte, Nat.reduceEqDiff, rg, ow_26]
      refine do_store (v := iV x) (by simp only [evt, evc, upd_eq, Nat.reduceEqDiff, ↓reduceIte, ntT, ntF] <;> rfl) (by simp only [evt, evc, upd_eq, Nat.reduceEqDiff, ↓reduceIte, ntT, ntF] <;> rfl) sz_36 rfl n2.wok (by decide) (Ei.one x) fun w3 x3 r3 s3 => ⟨trivial, ?_⟩
      simp only [↓List.toList_toArray, ↓rgd, ↓rgf, ↓reduceIte, Nat.reduceEqDiff, rg, ow_26]
      refine hK _ _ ?_; clear hK K
      have s2 := n2.size
      have X3 : Ext noF w' w3 := noF_of n2.ext x3 fun y o hy h => by simp only [rng] at h; omega
      have rx : Row w3 w'.heap.size 0 [.int .i64 x.1, .int .i64 x.2] := r3
      have v0 := (Row.cons.1 rx).1
      have v1 := (Row.cons.1 (Row.cons.1 rx).2).1
      refine W_rg fun K hK => (W_text [true, true, true, false, false, true] (by kernel_rfl) ?_); simp only [↓List.toList_toArray, ↓rgd, ↓rgf, ↓reduceIte, Nat.reduceEqDiff, rg, ow_26, v0, v1]
      refine do_bsl rfl (bs_n1 (κ x)) fun w5 n5 => ⟨trivial, ?_⟩
      simp only [↓List.toList_toArray, ↓rgd, ↓rgf, ↓reduceIte, Nat.reduceEqDiff, rg, ow_26]
      have X5 := X3.tr n5.ext
      have s5 := X5.size
      have hx5 : SlV w5 1 (.slice (some ⟨w3.heap.size, 0, none⟩) 1 1) 1 (En.cel (κ x)) := ⟨rfl, .inr ⟨_, 0, 1, rfl, Nat.le_refl _, n5.row, n5.wok.R (Nat.le_refl _)⟩⟩
      refine do_append (by simp only [evt, evc, upd_eq, Nat.reduceEqDiff, ↓reduceIte, ntT, ntF] <;> rfl) (by simp only [evt, evc, upd_eq, Nat.reduceEqDiff, ↓reduceIte, ntT, ntF] <;> rfl) el_n rfl ni_n (hO.ext X5).sl hx5 (by simp; omega) (by decide) (En.one _) fun v6 w6 a6 => ?_
      obtain ⟨hO6, X6⟩ := (hO.ext X5).app a6 (by omega)
      refine ⟨trivial, ?_⟩
      simp only [↓List.toList_toArray, ↓rgd, ↓rgf, ↓reduceIte, Nat.reduceEqDiff, rg, ow_26]
      refine hK _ _ ?_; clear hK K
      show W _ _ _ _ _ _
      have q1 := wadd1 k (by omega)
      refine W_rg fun K hK => (W_text [true, true] (by kernel_rfl) ?_); simp only [↓List.toList_toArray, ↓rgd, ↓rgf, ↓reduceIte, Nat.reduceEqDiff, rg, ow_26, e8, q1]
      refine hK _ _ ?_; clear hK K
      refine ⟨_, ?_, k + 1, rfl, hlt, ?_, ?_, ?_, ?_, (X.tr (X5.mono fun _ _ _ h => h.elim)).tr X6⟩
      · omega
      · simp only [upd_eq, Nat.reduceEqDiff, ↓reduceIte]; exact e6
      · simp only [upd_eq, Nat.reduceEqDiff, ↓reduceIte]; exact e7
      · simp only [upd_eq, Nat.reduceEqDiff, ↓reduceIte]
      · simp only [upd_eq, Nat.reduceEqDiff, ↓reduceIte]; rw [take_snoc hx, List.map_append]; exact hO6
    · obtain rfl : k = l.length := by omega
      have ht := lt_ff l.length l.length (by omega)
      refine W_sq fun K hK => (W_text [true] (by kernel_rfl) ?_); simp only [↓List.toList_toArray, ↓rgd, ↓rgf, ↓reduceIte, Nat.reduceEqDiff, rg, ow_26, e7, e8, ht]
      refine hK _ _ ?_; clear hK K
      refine W_seq (W_false (by simp only [evt, evc, upd_eq, Nat.reduceEqDiff, ↓reduceIte, ntT, ntF] <;> rfl) (W_exit ?_))
      simp only [andThen_exit, inBlk_exit, andThen_normal, ↓reduceIte]
      refine W_sq fun K hK => (W_text [true, true] (by kernel_rfl) ?_); simp only [↓List.toList_toArray, ↓rgd, ↓rgf, ↓reduceIte, Nat.reduceEqDiff, rg, ow_26]
      refine hK _ _ ?_; clear hK K
      rw [List.take_length] at hO
      exact W_ret (endQ_1 (by simp only [upd_eq, Nat.reduceEqDiff, ↓reduceIte] <;> rfl) ⟨hO.sl, noF_of (Ext.refl _ _) X fun y o hy h => by omega⟩)
set_option maxHeartbeats 800000 in
set_option maxRecDepth 8000 in
theorem sitems_any (l : List Int) (lv : Value) (w : World) (hl : SlN w lv l) (hbig : l.length ≤ 2147483647) :
    CallK Try.prog 24 #[lv] w fun v w' => SlI w' v (its l) ∧ Ext noF w w' := by
  refine calls_of_W [.tmp 2] Try.func24 rfl Try.ntmps24 Try.results24 (by simp) fun e he => ?_
  have e0 : e 0 = lv := he 0 _ rfl
  clear he
  obtain ⟨ka, kc, hkv⟩ := SlV.shape hl
  rw [hkv] at e0
  refine W_sq fun K hK => (W_text [true] (by kernel_rfl) ?_); simp only [↓List.toList_toArray, ↓rgd, ↓rgf, ↓reduceIte, Nat.reduceEqDiff, rg, ow_24]
  refine hK _ _ ?_; clear hK K
  refine W_sq fun K hK => (W_text [true] (by kernel_rfl) ?_); simp only [↓List.toList_toArray, ↓rgd, ↓rgf, ↓reduceIte, Nat.reduceEqDiff, rg, ow_24]
  refine hK _ _ ?_; clear hK K

  refine W_seq (W_seq ?_)
  refine W_rg fun K hK => (W_text [true, true, true] (by kernel_rfl) ?_); simp only [↓List.toList_toArray, ↓rgd, ↓rgf, ↓reduceIte, Nat.reduceEqDiff, rg, ow_24, e0]
  refine hK _ _ ?_; clear hK K
  show W _ _ _ _ _ _
  refine W_block (W_loop (fun mm e w' => ∃ k : Nat, mm = l.length - k ∧ k ≤ l.length ∧ e 6 = .slice ka l.length kc ∧ e 7 = .int .i64 l.length ∧ e 8 = .int .i64 k ∧ OutE Ei w.heap.size (e 3) ((its l).take k) w' ∧ Ext (fun y _ => w.heap.size ≤ y) w w')
    l.length ⟨0, by simp, by simp, by simp only [upd_eq, Nat.reduceEqDiff, ↓reduceIte], by simp only [upd_eq, Nat.reduceEqDiff, ↓reduceIte], by simp only [upd_eq, Nat.reduceEqDiff, ↓reduceIte]; rfl, by simp only [upd_eq, Nat.reduceEqDiff, ↓reduceIte]; exact OutE.nil _ _ _, Ext.refl _ _⟩ ?_)
  clear e0 e
  rintro mm e w' ⟨k, rfl, hk, eS, eL, eI, hO, X⟩
  by_cases hlt : k < l.length
  · have ht := lt_tt k l.length hlt
    refine W_sq fun K hK => (W_text [true] (by kernel_rfl) ?_); simp only [↓List.toList_toArray, ↓rgd, ↓rgf, ↓reduceIte, Nat.reduceEqDiff, rg, ow_24, eL, eI, ht]
    refine hK _ _ ?_; clear hK K
    refine W_seq (W_true (by simp only [evt, evc, upd_eq, Nat.reduceEqDiff, ↓reduceIte, ntT, ntF] <;> rfl) (W_skip ?_))
    show W _ _ _ _ _ _
    obtain ⟨x, hx⟩ : ∃ x, l[k]? = some x := ⟨_, List.getElem?_eq_getElem hlt⟩
    obtain ⟨ib, io, hka, row⟩ := SlV.at hl hkv hlt
    have hibl := SlV.lt hl (hkv.trans (by rw [hka]))
    have ixx := nV_at (X.row row (fun _ _ h => by omega)) hx
    rw [hka] at eS
    refine W_seq (W_block ?_)
    refine W_sq fun K hK => (W_text [true, true, true] (by kernel_rfl) ?_); simp only [↓List.toList_toArray, ↓rgd, ↓rgf, ↓reduceIte, Nat.reduceEqDiff, rg, ow_24, eS, eI, hlt, ixx]
    refine hK _ _ ?_; clear hK K
    rw [← hka] at eS
    refine W_rg fun K hK => (W_text [true, true, true, false, false, true] (by kernel_rfl) ?_); simp only [↓List.toList_toArray, ↓rgd, ↓rgf, ↓reduceIte, Nat.reduceEqDiff, rg, ow_24, bu_itemK]
    refine do_bsl rfl (bs_item1 _) fun w5 n5 => ⟨trivial, ?_⟩
    simp only [↓List.toList_toArray, ↓rgd, ↓rgf, ↓reduceIte, Nat.reduceEqDiff, rg, ow_24]
    have X5 := n5.ext
    have s5 := X5.size
    have sX := X.size
    have hx5 : SlV w5 2 (.slice (some ⟨w'.heap.size, 0, none⟩) 1 1) 1 (Ei.cel (toIt x)) := ⟨rfl, .inr ⟨_, 0, 1, rfl, Nat.le_refl _, n5.row, n5.wok.R (Nat.le_refl _)⟩⟩
    have htk : ((its l).take k).length ≤ k := by rw [List.length_take]; omega
    refine do_append (by simp only [evt, evc, upd_eq, Nat.reduceEqDiff, ↓reduceIte, ntT, ntF] <;> rfl) (by simp only [evt, evc, upd_eq, Nat.reduceEqDiff, ↓reduceIte, ntT, ntF] <;> rfl) el_item rfl ni_i (hO.ext X5).sl hx5 (by omega) (by decide) (Ei.one _) fun v6 w6 a6 => ?_
    obtain ⟨hO6, X6⟩ := (hO.ext X5).app a6 (by omega)
    refine ⟨trivial, ?_⟩
    simp only [↓List.toList_toArray, ↓rgd, ↓rgf, ↓reduceIte, Nat.reduceEqDiff, rg, ow_24]
    refine hK _ _ ?_; clear hK K
    show W _ _ _ _ _ _
    have q1 := wadd1 k (by omega)
    refine W_rg fun K hK => (W_text [true, true] (by kernel_rfl) ?_); simp only [↓List.toList_toArray, ↓rgd, ↓rgf, ↓reduceIte, Nat.reduceEqDiff, rg, ow_24, eI, q1]
    refine hK _ _ ?_; clear hK K
    refine ⟨_, ?_, k + 1, rfl, hlt, by simp only [upd_eq, Nat.reduceEqDiff, ↓reduceIte]; exact eS, by simp only [upd_eq, Nat.reduceEqDiff, ↓reduceIte]; exact eL, by simp only [upd_eq, Nat.reduceEqDiff, ↓reduceIte], by simp only [upd_eq, Nat.reduceEqDiff, ↓reduceIte]; rw [take_snoc (its_get hx)]; exact hO6, (X.tr (X5.mono fun _ _ _ h => h.elim)).tr X6⟩
    omega
  · obtain rfl : k = l.length := by omega
    have ht := lt_ff l.length l.length (by omega)
    refine W_sq fun K hK => (W_text [true] (by kernel_rfl) ?_); simp only [↓List.toList_toArray, ↓rgd, ↓rgf, ↓reduceIte, Nat.reduceEqDiff, rg, ow_24, eL, eI, ht]
    refine hK _ _ ?_; clear hK K
    refine W_seq (W_false (by simp only [evt, evc, upd_eq, Nat.reduceEqDiff, ↓reduceIte, ntT, ntF] <;> rfl) (W_exit ?_))
    simp only [andThen_exit, inBlk_exit, andThen_normal, ↓reduceIte]
    refine W_sq fun K hK => (W_text [true, true] (by kernel_rfl) ?_); simp only [↓List.toList_toArray, ↓rgd, ↓rgf, ↓reduceIte, Nat.reduceEqDiff, rg, ow_24]
    refine hK _ _ ?_; clear hK K
    have hfull : (its l).take l.length = its l := by rw [← its_length, List.take_length]
    rw [hfull] at hO
    exact W_ret (endQ_1 (by simp only [upd_eq, Nat.reduceEqDiff, ↓reduceIte] <;> rfl) ⟨hO.sl, noF_of (Ext.refl _ _) X fun y o hy h => by omega⟩)
end Go.Proofs.Ytjaolgehpnmieaa
/-
  Walks down a tree that change the counts on their way, and take the changes back or make a change at the end. For items of whatever make; no program. No condition.
-/
set_option linter.unusedSimpArgs false
set_option linter.unusedVariables false
namespace Go.Proofs.Ytjaolgehpnmieaa
open Go
variable {α : Type} {E : Enc α} {iso : Int} {mn mx : Nat}
theorem Ext.heal {F : Nat → Nat → Prop} {w w' : World} (h : Ext F w w') {b o : Nat} {v : Value} (h1 : Go.Proofs.Ytjaolgehpnmieaa.rd w b o = some v) (h2 : Go.Proofs.Ytjaolgehpnmieaa.rd w' b o = some v) : Ext (fun y p => F y p ∧ ¬ (y = b ∧ p = o)) w w' := by
  refine ⟨h.os, h.output, h.tape, h.size, fun y arr T fr hy => ?_, h.other⟩
  obtain ⟨arr', g1, g2, g3⟩ := h.cells y arr T fr hy
  refine ⟨arr', g1, g2, fun p hp => ?_⟩
  by_cases hb : y = b ∧ p = o
  · obtain ⟨rfl, rfl⟩ := hb
    rw [rd_of hy] at h1
    rw [rd_of g1] at h2
    rw [h1, h2]
  · exact g3 p fun hf => hp ⟨hf, hb⟩
/-- The child that is chosen by the number of children. -/
def selKid (sel : Nat → Nat) (w : World) (b c : Nat) : Prop :=
  ∃ bc ba oa n cap, rd w b 3 = some (ptr bc) ∧ rd w bc 0 = some (.slice (some ⟨ba, oa, none⟩) n cap) ∧ rd w ba (oa + sel n) = some (ptr c)
theorem selKid.uniq {sel : Nat → Nat} {w : World} {b c c' : Nat} (h : selKid sel w b c) (h' : selKid sel w b c') : c = c' := by
  obtain ⟨bc, ba, oa, n, cap, h1, h2, h3⟩ := h
  obtain ⟨bc', ba', oa', n', cap', g1, g2, g3⟩ := h'
  rw [h1] at g1; simp only [ptr, Option.some.injEq, Value.pointer.injEq, Addr.mk.injEq, and_true] at g1; subst g1
  rw [h2] at g2; simp only [Option.some.injEq, Value.slice.injEq, Addr.mk.injEq, and_true] at g2
  obtain ⟨⟨rfl, rfl⟩, rfl, rfl⟩ := g2
  rw [h3] at g3; simp only [ptr, Option.some.injEq, Value.pointer.injEq, Addr.mk.injEq, and_true] at g3
  exact g3
/-- The nodes on the way down. -/
def RS (sel : Nat → Nat) (w : World) : Nat → Nat → Nat → Prop
  | 0, b, y => y = b
  | h + 1, b, y => y = b ∨ ∃ c, selKid sel w b c ∧ RS sel w h c y
theorem Inn.sel {h : Nat} {w : World} {b : Nat} {xs : List α} {F : Nat → Nat → Prop} {bi oi cap : Nat} {ks : List α} {bc ba oa capc : Nat} {cs : List (Kid α)} (n : Inn E iso mn mx h w b xs F bi oi cap ks bc ba oa capc cs)
    (h3 : rd w b 3 = some (ptr bc)) {sel : Nat → Nat} {c : Kid α} (hc : cs[sel cs.length]? = some c) : selKid sel w b c.b := by
  refine ⟨bc, ba, oa, _, capc, h3, n.kids.c0, ?_⟩
  rw [List.length_map]
  exact n.kids.row _ _ (by rw [List.getElem?_map, List.getElem?_map, hc]; rfl)
theorem Inn.rs {h : Nat} {w : World} {b : Nat} {xs : List α} {F : Nat → Nat → Prop} {bi oi cap : Nat} {ks : List α} {bc ba oa capc : Nat} {cs : List (Kid α)} (n : Inn E iso mn mx h w b xs F bi oi cap ks bc ba oa capc cs)
    (h3 : rd w b 3 = some (ptr bc)) {sel : Nat → Nat} {c : Kid α} (hc : cs[sel cs.length]? = some c) (y : Nat) : RS sel w (h + 1) b y ↔ y = b ∨ RS sel w h c.b y := by
  have hs := n.sel h3 hc
  constructor
  · rintro (h | ⟨c', h1, h2⟩)
    · exact .inl h
    · rw [h1.uniq hs] at h2; exact .inr h2
  · rintro (h | h)
    · exact .inl h
    · exact .inr ⟨_, hs, h⟩
theorem RS.sub {sel : Nat → Nat} (hsel : ∀ n, 0 < n → sel n < n) {w : World} : ∀ {h lo b : Nat} {xs : List α} {F : Nat → Nat → Prop}, Tr E iso mn mx h w lo b xs F → ∀ y, RS sel w h b y → ∀ o, F y o
  | 0, _, _, _, _, ht, y, hy, o => by rw [show y = _ from hy]; exact ht.self o
  | h + 1, _, b, _, F, ht, y, hy, o => by
    obtain ⟨bi, oi, cap, ks, ch, ho, _, _, hsub, ⟨h0, _⟩ | ⟨h', bc, ba, oa, capc, cs, hh, rfl, n⟩⟩ := ht.open
    · omega
    · obtain rfl : h = h' := by omega
      obtain ⟨c, hc⟩ : ∃ c, cs[sel cs.length]? = some c := ⟨_, List.getElem?_eq_getElem (hsel _ (by have := n.len; omega))⟩
      rcases (n.rs ho.h3 hc y).1 hy with rfl | hy
      · exact hsub _ _ (.inl rfl)
      · exact (n.fp y o).2 (.inr (.inr ⟨c, List.mem_of_getElem? hc, RS.sub hsel (n.sub c (List.mem_of_getElem? hc)) y hy o⟩))
/-- The counts of some nodes are off. -/
structure Shift (δ : Int) (w0 w' : World) (D : Nat → Prop) : Prop where
  ext : Ext (fun y o => o = 1 ∧ D y) w0 w'
  cnt : ∀ y, D y → ∃ k : Int, rd w0 y 1 = some (.int .i64 k) ∧ rd w' y 1 = some (.int .i64 (k + δ))
theorem Shift.nil (δ : Int) (w : World) : Shift δ w w fun _ => False := ⟨Ext.refl _ _, fun _ h => h.elim⟩
theorem Shift.ro {δ : Int} {w0 w1 w2 : World} {D : Nat → Prop} (h : Shift δ w0 w1 D) (r : RO w1 w2) : Shift δ w0 w2 D :=
  ⟨h.ext.tr r.ext, fun y hy => by obtain ⟨k, h1, h2⟩ := h.cnt y hy; exact ⟨k, h1, (r.ext (F := noF)).rd h2 fun h => h⟩⟩
theorem Shift.congr {δ : Int} {w0 w1 : World} {D D' : Nat → Prop} (h : Shift δ w0 w1 D) (hd : ∀ y, D' y ↔ D y) : Shift δ w0 w1 D' :=
  ⟨h.ext.mono fun y o _ g => ⟨g.1, (hd y).2 g.2⟩, fun y hy => h.cnt y ((hd y).1 hy)⟩
/-- One more count is changed. -/
theorem Shift.add {δ : Int} {w0 w1 w2 : World} {D : Nat → Prop} (h : Shift δ w0 w1 D) {b : Nat} {k : Int} (hD : ¬ D b) (h0 : rd w0 b 1 = some (.int .i64 k)) (x : Ext (rng b 1 1) w1 w2) (h2 : rd w2 b 1 = some (.int .i64 (k + δ))) :
    Shift δ w0 w2 fun y => D y ∨ y = b := by
  refine ⟨(h.ext.mono fun y o _ g => ⟨g.1, .inl g.2⟩).trans x (fun _ _ g => g) fun y o _ g => ?_, fun y hy => ?_⟩
  · simp only [rng] at g; exact ⟨by omega, .inr g.1⟩
  · rcases hy with hy | rfl
    · obtain ⟨k', g1, g2⟩ := h.cnt y hy
      exact ⟨k', g1, x.rd g2 fun g => hD (by simp only [rng] at g; rw [← g.1]; exact hy)⟩
    · exact ⟨k, h0, h2⟩
/-- One count is taken back. -/
theorem Shift.undo {δ : Int} {w0 w1 w2 : World} {D : Nat → Prop} (h : Shift δ w0 w1 D) {b : Nat} {v : Value} (hD : D b) (h0 : rd w0 b 1 = some v) (x : Ext (rng b 1 1) w1 w2) (h2 : rd w2 b 1 = some v) :
    Shift δ w0 w2 fun y => D y ∧ y ≠ b := by
  have X : Ext (fun y o => o = 1 ∧ D y) w0 w2 := h.ext.trans x (fun _ _ g => g) fun y o _ g => by simp only [rng] at g; rw [g.1]; exact ⟨by omega, hD⟩
  refine ⟨(X.heal h0 h2).mono fun y o _ g => ⟨g.1.1, g.1.2, fun e => g.2 ⟨e, g.1.1⟩⟩, fun y hy => ?_⟩
  obtain ⟨k', g1, g2⟩ := h.cnt y hy.1
  exact ⟨k', g1, x.rd g2 fun g => hy.2 (by simp only [rng] at g; exact g.1)⟩
/-- A whole tree, but for the subtree at b: put in another one, whose length is off by δ, and it is a tree again. -/
def Hole (E : Enc α) (iso : Int) (mn mx H lo0 root : Nat) (F : Nat → Nat → Prop) (S : Nat) (w : World) (h lo b : Nat) (ys : List α) (Fb : Nat → Nat → Prop) (A C : List α) (δ : Int) : Prop :=
  ∀ (w2 : World) (ys' : List α) (Fb' : Nat → Nat → Prop), Ext Fb w w2 → Tr E iso mn mx h w2 lo b ys' Fb' → (∀ y o, Fb' y o → Fb y o ∨ w.heap.size ≤ y) → (ys'.length : Int) = ys.length + δ →
    ∃ F', Tr E iso mn mx H w2 lo0 root (A ++ ys' ++ C) F' ∧ ∀ y o, F' y o → F y o ∨ S ≤ y
theorem Hole.root {w : World} {h lo b S : Nat} {ys : List α} {F : Nat → Nat → Prop} {δ : Int} (hS : S ≤ w.heap.size) : Hole E iso mn mx h lo b F S w h lo b ys F [] [] δ :=
  fun w2 ys' Fb' _ ht hF _ => ⟨Fb', by simpa using ht, fun y o g => (hF y o g).imp id fun g => by omega⟩
theorem Hole.ro {H lo0 root S h lo b : Nat} {F Fb : Nat → Nat → Prop} {w w1 : World} {ys A C : List α} {δ : Int} (k : Hole E iso mn mx H lo0 root F S w h lo b ys Fb A C δ) (r : RO w w1) : Hole E iso mn mx H lo0 root F S w1 h lo b ys Fb A C δ := by
  intro w2 ys' Fb' x ht hF hl
  have hs : w1.heap.size = w.heap.size := by obtain ⟨n, rfl⟩ := r; rfl
  exact k w2 ys' Fb' (r.ext.tr x) ht (fun y o g => (hF y o g).imp id fun g => by omega) hl
/-- The hole goes down one level. -/
theorem Hole.down {H lo0 root S h lo b : Nat} {F Fb : Nat → Nat → Prop} {w w1 : World} {ys A C : List α} {δ : Int} (k : Hole E iso mn mx H lo0 root F S w (h + 1) lo b ys Fb A C δ)
    {bi oi cap : Nat} {ks : List α} {bc ba oa capc : Nat} {cs : List (Kid α)} (n : Inn E iso mn mx h w b ys Fb bi oi cap ks bc ba oa capc cs) (ho : Own E w b iso ys.length bi oi cap ks (ptr bc)) (h1 : lo ≤ ks.length) (h2 : ks.length ≤ mx)
    (x : Ext (rng b 1 1) w w1) (hc1 : rd w1 b 1 = some (.int .i64 (ys.length + δ))) {i : Nat} {c : Kid α} (hc : cs[i]? = some c) {A' C' : List α} (hw : WAt (cs.map Kid.xs) ks i A' C') :
    Hole E iso mn mx H lo0 root F S w1 h mn c.b c.xs c.F (A ++ A') (C' ++ C) δ := by
  intro w2 ys' Fb' x2 ht hF hl
  have hcm := List.mem_of_getElem? hc
  have hcx : (cs.map Kid.xs)[i]? = some c.xs := by rw [List.getElem?_map, hc]; rfl
  have hil := (List.getElem?_eq_some_iff.1 hc).1
  have s1 : w.heap.size ≤ w1.heap.size := x.size
  have hbw := wok_lt ho.wb
  have hbiw := wok_lt ho.wi
  have hcb : ∀ o, ¬ c.F b o := fun o g => n.ap.own c hcm _ _ g (.inl rfl)
  have hi1 : ∀ y o, c.F y o → ¬ ownF E b bi oi cap y o := fun y o g => n.ap.own c hcm y o g
  have n1 : Inn E iso mn mx h w1 b ys Fb bi oi cap ks bc ba oa capc cs := n.ext x (fun y o g hr => by
      simp only [rng] at hr
      rcases g with g | g
      · exact n.ap.cb (by omega)
      · exact n.ap.ab (by simp only [rng] at g; omega)) fun d hd y o g hr => by
    simp only [rng] at hr
    exact n.ap.own d hd y o g (.inl hr.1)
  have n2 := n1.child (c' := ⟨c.b, ys', Fb'⟩) hc x2 rfl ht hF (by omega) (by omega)
  have e1 := hw.eq hcx
  have e2 : weave ((cs.map Kid.xs).set i ys') ks = A' ++ ys' ++ C' := by
    exact hw.set ys'
  have hln : (((weave ((cs.map Kid.xs).set i ys') ks).length : Nat) : Int) = ys.length + δ := by
    rw [e2, n.eq, e1]
    simp only [List.length_append, Int.natCast_add]
    omega
  have ho2 : Own E w2 b iso ((weave ((cs.map Kid.xs).set i ys') ks).length : Nat) bi oi cap ks (ptr bc) := by
    have hr : ∀ o, o ≠ 1 → ¬ rng b 1 1 b o := fun o h g => by simp only [rng] at g; omega
    have q0 := x2.rd (x.rd ho.h0 (hr 0 (by decide))) (hcb 0)
    have q1 := x2.rd hc1 (hcb 1)
    have q2 := x2.rd (x.rd ho.h2 (hr 2 (by decide))) (hcb 2)
    have q3 := x2.rd (x.rd ho.h3 (hr 3 (by decide))) (hcb 3)
    rw [← hln] at q1
    exact ⟨q0, q1, q2, q3, x2.wok (x.wok ho.wb), x2.row (x.row ho.row fun j _ g => by simp only [rng] at g; have := ho.ne; omega) fun j hj g => hi1 _ _ g (.inr ⟨rfl, by omega, by rw [flat_length] at hj; have := Nat.mul_le_mul_right E.sz ho.le; omega⟩),
      x2.wok (x.wok ho.wi), ho.le, ho.ne⟩
  have htr := n2.tr (lo := lo) ho2 h1 h2
  have key := k w2 _ _ ?_ htr ?_ hln
  · obtain ⟨F', g1, g2⟩ := key
    refine ⟨F', ?_, g2⟩
    rw [e2] at g1
    simpa [List.append_assoc] using g1
  · refine (x.mono fun y o _ g => ?_).trans x2 (fun _ _ g => g) fun y o _ g => (n.fp y o).2 (.inr (.inr ⟨c, hcm, g⟩))
    simp only [rng] at g; rw [g.1]; exact (n.fp _ _).2 (.inl (.inl rfl))
  · intro y o g
    rcases g with g | g | ⟨d, hd, g⟩
    · exact .inl ((n.fp y o).2 (.inl g))
    · exact .inl ((n.fp y o).2 (.inr (.inl g)))
    · rw [List.set_eq_take_append_cons_drop, if_pos hil] at hd
      rcases List.mem_append.1 hd with hd | hd
      · exact .inl ((n.fp y o).2 (.inr (.inr ⟨d, List.mem_of_mem_take hd, g⟩)))
      · rcases List.mem_cons.1 hd with rfl | hd
        · rcases hF y o g with g | g
          · exact .inl ((n.fp y o).2 (.inr (.inr ⟨c, hcm, g⟩)))
          · exact .inr (by omega)
        · exact .inl ((n.fp y o).2 (.inr (.inr ⟨d, List.mem_of_mem_drop hd, g⟩)))
end Go.Proofs.Ytjaolgehpnmieaa
/-
  Setting in ascending order. No condition.
-/
set_option linter.unusedSimpArgs false
set_option linter.unusedVariables false
namespace Go.Proofs.Ytjaolgehpnmieaa
open Go Go.Proofs
section
variable {α R : Type} (O : SOrd R) (κ : α → R)
theorem put_last {x : α} {xs : List α} (h : ∀ y ∈ xs, O.lt (κ y) (κ x) = true) : put O κ x xs = xs ++ [x] ∧ hit O κ (κ x) xs = false ∧ at? O κ (κ x) xs = none := by
  have hl : lb O κ (κ x) xs = xs.length := by have := lb_append_of_lt O κ (q := κ x) (xs := xs) [] h; simpa [lb] using this
  have hh : hit O κ (κ x) xs = false := by unfold hit; rw [hl, List.getElem?_eq_none (Nat.le_refl _)]
  refine ⟨?_, hh, ?_⟩
  · unfold put; rw [hh, hl]; simp
  · unfold at?; rw [hh]; rfl
theorem all_lt {x y : α} {xs ys A : List α} (ha : Asc O κ xs) (hx : xs = A ++ ys) (hy : ys[ys.length - 1]? = some y) (h : O.lt (κ y) (κ x) = true) : ∀ z ∈ xs, O.lt (κ z) (κ x) = true := by
  have hne : ys ≠ [] := fun h => by rw [h] at hy; simp at hy
  have e : ys = ys.dropLast ++ [y] := by
    rw [← List.getLast?_eq_getElem?] at hy
    rw [List.getLast?_eq_some_getLast hne, Option.some.injEq] at hy
    rw [← hy]
    exact (List.dropLast_concat_getLast hne).symm
  rw [hx, e, ← List.append_assoc]
  refine asc_left O κ ?_ h
  rw [hx, e, ← List.append_assoc] at ha
  exact ha
end
theorem put_nil1 (x : It) : put O κ x [] = [x] := rfl
/-- Setting in whatever map. -/
theorem set_map (m d : Nat) (iso : Int) (x : It) (hd : 2 ≤ d) (hd' : d ≤ 128) (xs : List It) (F : Nat → Nat → Prop) (w : World) (hM : MapAt w m d iso xs F) (hbig : xs.length < 1152921504606846976) :
    CallK Try.prog 57 #[ptr m, kV x.1, vV x] w fun v w' => v = .tuple #[vV ((at? O κ (κ x) xs).getD zIt), .bool (hit O κ (κ x) xs)] ∧ Ext (mapF m F) w w' ∧
      ∃ F', MapAt w' m d iso (put O κ x xs) F' ∧ ∀ y o, F' y o → F y o ∨ w.heap.size ≤ y := by
  rcases hM.root with ⟨rfl, hr⟩ | ⟨h, b, hr, ht⟩
  · refine CallK_mono (set_nil m d iso x hd hd' w hM.cfg hr) ?_
    rintro v w' ⟨rfl, hX, F', hM', hF'⟩
    exact ⟨rfl, hX.mono fun y o _ g => g.imp (fun g => g.elim) id, F', by rw [put_nil1]; exact hM', fun y o g => .inr (hF' y o g)⟩
  · exact set_root m d iso x hd hd' _ h b xs F w rfl hM.cfg hM.cnt hM.asc hr ht hM.off hbig
def lastSel (n : Nat) : Nat := n - 1
theorem lastSel_lt (n : Nat) (h : 0 < n) : lastSel n < n := by unfold lastSel; omega
set_option maxHeartbeats 2000000 in
set_option maxRecDepth 8000 in
theorem load_map (m d : Nat) (iso : Int) (x : It) (hd : 2 ≤ d) (hd' : d ≤ 128) (xs : List It) (F : Nat → Nat → Prop) (w00 : World) (hM : MapAt w00 m d iso xs F) (hbig : xs.length < 1152921504606846976) :
    CallK Try.prog 48 #[ptr m, kV x.1, vV x] w00 (RootQ m d iso x xs F w00) := by
  suffices HS : ∀ R : Value → World → Prop, (∀ v w', RootQ m d iso x xs F w00 v w' → R v w') → CallK Try.prog 48 #[ptr m, kV x.1, vV x] w00 R from HS _ fun _ _ h => h
  intro R hR
  have hml0 := hM.mlt
  refine calls_of_W [.cell 6 74, .tmp 7] Try.func48 rfl Try.ntmps48 Try.results48 (by simp) fun e he => ?_
  have e0 : e 0 = ptr m := he 0 _ rfl
  have e1 : e 1 = kV x.1 := he 1 _ rfl
  have e2 : e 2 = .agg #[] := he 2 _ rfl
  clear he
  refine W_sq fun K0 hK => (W_text [false, false, true] (by kernel_rfl) ?_); simp only [↓List.toList_toArray, ↓rgd, ↓rgf, ↓reduceIte, Nat.reduceEqDiff, rg, ow_48]
  refine do_box (by simp only [evt]; exact e2) fun wa na => ⟨trivial, ?_⟩
  simp only [↓List.toList_toArray, ↓rgd, ↓rgf, ↓reduceIte, Nat.reduceEqDiff, rg, ow_48]
  refine do_alloc z_unit fun w nb => ⟨trivial, ?_⟩
  simp only [↓List.toList_toArray, ↓rgd, ↓rgf, ↓reduceIte, Nat.reduceEqDiff, rg, ow_48]
  refine hK _ _ ?_; clear hK K0
  have Xb : Ext noF w00 w := na.ext.tr nb.ext
  have sa := na.size
  have sb := nb.size
  obtain ⟨q, hq⟩ : ∃ q, q = wa.heap.size := ⟨_, rfl⟩
  have wqb : wok w q 0 := by rw [hq]; exact nb.wok
  have hqF : ∀ o, ¬ F q o := fun o g => by have := hM.lt _ _ g; omega
  rw [← hq]
  have hqw : q < w.heap.size := by omega
  have hqm : q ≠ m := by omega
  replace hR : ∀ v w', RootQ m d iso x xs F w v w' → R v w' := fun v w' ⟨h1, h2, F', h3, h4⟩ => hR v w' ⟨h1, Xb.trans h2 (fun _ _ g => g.elim) (fun _ _ _ g => g), F', h3, fun y o g => (h4 y o g).imp id fun g => by omega⟩
  replace hM := hM.ext Xb
  have hml := hM.mlt
  clear Xb na nb sa sb hq hml0
  refine W_sq fun K0 hK => (W_text [true, true, true, false, false] (by kernel_rfl) ?_); simp only [↓List.toList_toArray, ↓rgd, ↓rgf, ↓reduceIte, Nat.reduceEqDiff, rg, ow_48, e1, e2, bu_it x.1 x.2]
  refine do_alloc z_it fun w1 n1 => ⟨trivial, ?_⟩
  simp only [↓List.toList_toArray, ↓rgd, ↓rgf, ↓reduceIte, Nat.reduceEqDiff, rg, ow_48]
  refine do_store (by simp only [evt, evc, upd_eq, Nat.reduceEqDiff, ↓reduceIte, ntT, ntF] <;> rfl) (by simp only [evt, evc, upd_eq, Nat.reduceEqDiff, ↓reduceIte, ntT, ntF] <;> rfl) sz_76 (itV_len x) n1.wok (by decide) (itV_oc x) fun w2 x2 r2 s2 => ⟨trivial, ?_⟩
  simp only [↓List.toList_toArray, ↓rgd, ↓rgf, ↓reduceIte, Nat.reduceEqDiff, rg, ow_48]
  refine hK _ _ ?_; clear hK K0
  have s1 := n1.size
  have s2' : w2.heap.size = w.heap.size + 1 := by omega
  have X2 : Ext noF w w2 := noF_of n1.ext x2 fun y o hy h => by simp only [rng] at h; omega
  have rx : Row w2 w.heap.size 0 (E.cel x) := r2
  have hM2 := hM.ext X2
  have hFlt := hM.lt
  obtain ⟨B, hB⟩ : ∃ B, B = w.heap.size := ⟨_, rfl⟩
  rw [← hB] at rx s2' ⊢
  replace hR : ∀ v w', v = .tuple #[vV ((at? O κ (κ x) xs).getD zIt), .bool (hit O κ (κ x) xs)] ∧ Ext (mapF m F) w w' ∧ (∃ F', MapAt w' m d iso (put O κ x xs) F' ∧ ∀ y o, F' y o → F y o ∨ B ≤ y) → R v w' := fun v w' ⟨h1, h2, F', h3, h4⟩ => hR v w' ⟨h1, h2, F', h3, fun y o g => by rw [← hB]; exact h4 y o g⟩
  have hqB : q < B := by omega
  have wx2 : wok w2 B 1 := by rw [hB]; exact x2.wok n1.wok
  have wq2 : wok w2 q 0 := X2.wok wqb
  have tyB := wok.ty tyP wx2
  have rxk : rd w2 B 0 = some (kV x.1) := kV_at rx
  refine W_seq ?_
  rcases hM2.root with ⟨rfl, hr⟩ | ⟨h, b, hr, ht⟩
  · refine W_sq fun K0 hK => (W_text [true, true, true, true, true] (by kernel_rfl) ?_); simp only [↓List.toList_toArray, ↓rgd, ↓rgf, ↓reduceIte, Nat.reduceEqDiff, rg, ow_48, e0, ptr_eq, hr]
    refine hK _ _ ?_; clear hK K0
    refine W_true (by simp only [evt, evc, upd_eq, Nat.reduceEqDiff, ↓reduceIte, ntT, ntF] <;> rfl) ?_
    refine W_sq fun K0 hK => (W_text [true, true, true, true, true, false, true, true, false, true] (by kernel_rfl) ?_); simp only [↓List.toList_toArray, ↓rgd, ↓rgf, ↓reduceIte, Nat.reduceEqDiff, rg, ow_48, e0, tyB, rxk]
    refine do_call fn_57 (by simp only [evt, evc, upd_eq, Nat.reduceEqDiff, ↓reduceIte, maT, maC, maN, isnN, isnS] <;> rfl) (set_map m d iso x hd hd' _ F w2 hM2 hbig) ?_
    rintro _ w3 ⟨rfl, x3, F', hM3, hF'⟩
    refine ⟨trivial, ?_⟩
    simp only [↓List.toList_toArray, ↓rgd, ↓rgf, ↓reduceIte, Nat.reduceEqDiff, rg, ow_48]
    refine do_store (by simp only [evt, evc, upd_eq, Nat.reduceEqDiff, ↓reduceIte, ntT, ntF] <;> rfl) (by simp only [evt, evc, upd_eq, Nat.reduceEqDiff, ↓reduceIte, ntT, ntF] <;> rfl) sz_74 rfl (x3.wok wq2) (by decide) (fun _ h => by cases h) fun w4 x4 r4 s4 => ⟨trivial, ?_⟩
    simp only [↓List.toList_toArray, ↓rgd, ↓rgf, ↓reduceIte, Nat.reduceEqDiff, rg, ow_48]
    refine hK _ _ ?_; clear hK K0
    refine W_ret ?_
    simp only [andThen_ret]
    refine endQ_ct (by simp only [upd_eq, Nat.reduceEqDiff, ↓reduceIte] <;> rfl) (by simp only [upd_eq, Nat.reduceEqDiff, ↓reduceIte] <;> rfl) ld_74 ld_unit (hR _ _ ⟨rfl, ((X2.mono fun _ _ _ h => h.elim).tr x3).trans x4 (fun _ _ g => g) fun y o _ k => by simp only [rng] at k; omega, F', hM3.extG x4 (fun y o _ k => by simp only [rng] at k; omega) fun o k => by simp only [rng] at k; omega, fun y o g => (hF' y o g).imp id fun g => by omega⟩)
  · refine W_sq fun K0 hK => (W_text [true, true, true, true, true] (by kernel_rfl) ?_); simp only [↓List.toList_toArray, ↓rgd, ↓rgf, ↓reduceIte, Nat.reduceEqDiff, rg, ow_48, e0, ptr_eq, hr]
    refine hK _ _ ?_; clear hK K0
    refine W_false (by simp only [evt, evc, upd_eq, Nat.reduceEqDiff, ↓reduceIte, ntT, ntF] <;> rfl) (W_skip ?_)
    show W _ _ _ _ _ _
    refine W_sq fun K0 hK => (W_text [true, true, true, true, false, true] (by kernel_rfl) ?_); simp only [↓List.toList_toArray, ↓rgd, ↓rgf, ↓reduceIte, Nat.reduceEqDiff, rg, ow_48, e0, ptr_eq]
    refine do_call fn_62 (by simp only [evt, evc, upd_eq, Nat.reduceEqDiff, ↓reduceIte, maT, maC, maN, isnN, isnS] <;> rfl) (isoLoad_any m m 2 b true iso w2 hM2.cfg.iso hr ht.iso0.1) ?_
    rintro _ w3 ⟨rfl, r3⟩
    refine ⟨trivial, ?_⟩
    simp only [↓List.toList_toArray, ↓rgd, ↓rgf, ↓reduceIte, Nat.reduceEqDiff, rg, ow_48]
    refine hK _ _ ?_; clear hK K0
    have X3 : Ext noF w w3 := X2.tr r3.ext
    have s3 : w3.heap.size = B + 1 := by obtain ⟨n, rfl⟩ := r3; exact s2'
    replace rx : Row w3 B 0 (E.cel x) := r3.ext.row (F := noF) rx fun _ _ h => h
    replace hM := hM.ext X3
    replace hr : rd w3 m 2 = some (ptr b) := r3.ext.rd (F := noF) hr fun h => h
    replace ht := ht.ext (r3.ext (F := noF)) fun _ _ _ h => h
    have wq3 : wok w3 q 0 := X3.wok wqb
    have wx3 : wok w3 B 1 := r3.ext.wok (F := noF) wx2
    clear hM2 tyB rxk X2 x2 r2 r3 n1 s2 s1
    obtain ⟨root, hroot⟩ : ∃ root, root = b := ⟨_, rfl⟩
    rw [← hroot] at hr
    have mS : ∀ y o, F y o → y ≠ m := fun y o g h => hM.off o (h ▸ g)
    refine W_sqx fun K hK => ?_
    have hrest : ∀ (e' : Env) (w' : World) (D : Nat → Prop), Shift 1 w3 w' D → (∀ y, RS lastSel w3 h b y ↔ D y) → e' 0 = ptr m → e' 6 = .pointer (some ⟨q, 0, none⟩) → e' 8 = ptr B → K e' w' := by
      intro e w' D sh hD e0 e6 e8
      refine hK _ _ ?_; clear hK K
      have hr' := sh.ext.rd hr (fun g => by omega)
      refine W_sq fun K0 hK => (W_text [true, true, true, true, true] (by kernel_rfl) ?_); simp only [↓List.toList_toArray, ↓rgd, ↓rgf, ↓reduceIte, Nat.reduceEqDiff, rg, ow_48, e0, ptr_eq, hr']
      refine hK _ _ ?_; clear hK K0
      refine W_sqx fun K hK => ?_
      have hend : ∀ (e' : Env) (w' : World), Ext noF w3 w' → e' 0 = ptr m → e' 6 = .pointer (some ⟨q, 0, none⟩) → e' 8 = ptr B → K e' w' := by
        intro e w' X e0 e6 e8
        refine hK _ _ ?_; clear hK K
        have v0 := wok.ty tyP (X.wok wx3)
        have v1 : rd w' B 0 = some (kV x.1) := X.rd (kV_at rx) fun h => h
        refine W_sq fun K0 hK => (W_text [true, true, true, true, true, false, true, true, false, true] (by kernel_rfl) ?_); simp only [↓List.toList_toArray, ↓rgd, ↓rgf, ↓reduceIte, Nat.reduceEqDiff, rg, ow_48, e0, e8, ptr_eq, v0, v1]
        refine do_call fn_57 (by simp only [evt, evc, upd_eq, Nat.reduceEqDiff, ↓reduceIte, maT, maC, maN, isnN, isnS] <;> rfl) (set_map m d iso x hd hd' xs F w' (hM.ext X) hbig) ?_
        rintro _ w4 ⟨rfl, x4, F', hM4, hF'⟩
        refine ⟨trivial, ?_⟩
        simp only [↓List.toList_toArray, ↓rgd, ↓rgf, ↓reduceIte, Nat.reduceEqDiff, rg, ow_48]
        refine do_store (b := q) (o := 0) (by simp only [evt, upd_eq, Nat.reduceEqDiff, ↓reduceIte]; exact e6) (by simp only [evt, evc, upd_eq, Nat.reduceEqDiff, ↓reduceIte, ntT, ntF] <;> rfl) sz_74 rfl (x4.wok (X.wok wq3)) (by decide) (fun _ h => by cases h) fun w5 x5 r5 s5 => ⟨trivial, ?_⟩
        simp only [↓List.toList_toArray, ↓rgd, ↓rgf, ↓reduceIte, Nat.reduceEqDiff, rg, ow_48]
        refine hK _ _ ?_; clear hK K0
        have sX := X.size
        refine W_ret ?_
        refine endQ_ct (by simp only [upd_eq, Nat.reduceEqDiff, ↓reduceIte]; exact e6) (by simp only [upd_eq, Nat.reduceEqDiff, ↓reduceIte] <;> rfl) ld_74 ld_unit (hR _ _ ⟨rfl, (((X3.tr X).mono fun _ _ _ h => h.elim).tr x4).trans x5 (fun _ _ g => g) fun y o _ k => by simp only [rng] at k; omega, F', hM4.extG x5 (fun y o _ k => by simp only [rng] at k; omega) fun o k => by simp only [rng] at k; omega, fun y o g => (hF' y o g).imp id fun g => by omega⟩)
      clear hK
      refine W_block (W_loop (fun mm e w' => ∃ (lo b : Nat) (ys : List It) (F : Nat → Nat → Prop) (D : Nat → Prop), Tr E iso (d - 1) (2 * d - 1) mm w3 lo b ys F ∧ Shift 1 w3 w' D ∧ (∀ y, RS lastSel w3 mm b y ↔ D y) ∧ ys.length ≤ xs.length ∧ e 0 = ptr m ∧ e 6 = .pointer (some ⟨q, 0, none⟩) ∧ e 8 = ptr B ∧ e 9 = ptr b)
        h ⟨1, b, xs, F, D, ht, sh, hD, Nat.le_refl _, ?_, ?_, ?_, ?_⟩ ?_)
      · simp only [upd_eq, Nat.reduceEqDiff, ↓reduceIte]; exact e0
      · simp only [upd_eq, Nat.reduceEqDiff, ↓reduceIte]; exact e6
      · simp only [upd_eq, Nat.reduceEqDiff, ↓reduceIte]; exact e8
      · simp only [upd_eq, Nat.reduceEqDiff, ↓reduceIte]; rw [hroot]; rfl
      clear sh hD e0 e6 e8 hr' D e w' ht
      rintro mm e w' ⟨lo, b, ys, F', D, ht, sh, hD, hle, e0, e6, e8, e9⟩
      obtain ⟨bi, oi, cap, ks, ch, ho, h1, h2, _, hin⟩ := ht.open
      have hDb : D b := (hD b).1 (by cases mm <;> simp [RS])
      obtain ⟨k, k1, k2⟩ := sh.cnt b hDb
      rw [ho.h1, Option.some.injEq, Value.int.injEq] at k1
      obtain ⟨-, rfl⟩ := k1
      have q1 : IntKind.i64.wrap ((ys.length : Int) + 1 - 1) = ys.length := by rw [IntWalk.i64_in _ (by omega)]; omega
      refine W_block ?_
      refine W_sq fun K0 hK => (W_text [true, true, true, true, true, true, true, false] (by kernel_rfl) ?_); simp only [↓List.toList_toArray, ↓rgd, ↓rgf, ↓reduceIte, Nat.reduceEqDiff, rg, ow_48, e9, ptr_eq, k2, q1]
      refine do_store (by simp only [evt, evc, upd_eq, Nat.reduceEqDiff, ↓reduceIte, ntT, ntF] <;> rfl) (by simp only [evt, evc, upd_eq, Nat.reduceEqDiff, ↓reduceIte, ntT, ntF] <;> rfl) sz_3 rfl (sh.ext.wok ho.wb) (by decide) (oc_one rfl rfl) fun w4 x4 r4 s4 => ⟨trivial, ?_⟩
      simp only [↓List.toList_toArray, ↓rgd, ↓rgf, ↓reduceIte, Nat.reduceEqDiff, rg, ow_48]
      refine hK _ _ ?_; clear hK K0
      have sh4 := sh.undo hDb ho.h1 x4 (Row.cons.1 r4).1
      have b3 := sh4.ext.rd ho.h3 (fun g => by omega)
      refine W_seq ?_
      rcases hin with ⟨rfl, rfl, rfl, hF⟩ | ⟨h', bc, ba, oa, capc, cs, rfl, rfl, n⟩
      · refine W_sq fun K0 hK => (W_text [true, false] (by kernel_rfl) ?_); simp only [↓List.toList_toArray, ↓rgd, ↓rgf, ↓reduceIte, Nat.reduceEqDiff, rg, ow_48, e9]
        refine do_call fn_63 (by simp only [evt, evc, upd_eq, Nat.reduceEqDiff, ↓reduceIte, maT, maC, maN, isnN, isnS] <;> rfl) (leaf_any b none w4 b3) ?_
        rintro _ w4 ⟨rfl, rfl⟩
        refine ⟨trivial, ?_⟩
        simp only [↓List.toList_toArray, ↓rgd, ↓rgf, ↓reduceIte, Nat.reduceEqDiff, rg, ow_48]
        refine hK _ _ ?_; clear hK K0
        refine W_true (by simp only [evt, evc, upd_eq, Nat.reduceEqDiff, ↓reduceIte, ntT, ntF] <;> rfl) (W_exit ?_)
        simp only [andThen_exit, inBlk_exit, andThen_normal, Nat.reduceEqDiff, ↓reduceIte]
        refine hend _ _ (sh4.ext.mono fun y o _ g => g.2.2 ((hD y).2 g.2.1)) ?_ ?_ ?_
        · simp only [upd_eq, Nat.reduceEqDiff, ↓reduceIte]; exact e0
        · simp only [upd_eq, Nat.reduceEqDiff, ↓reduceIte]; exact e6
        · simp only [upd_eq, Nat.reduceEqDiff, ↓reduceIte]; exact e8
      · refine W_sq fun K0 hK => (W_text [true, false] (by kernel_rfl) ?_); simp only [↓List.toList_toArray, ↓rgd, ↓rgf, ↓reduceIte, Nat.reduceEqDiff, rg, ow_48, e9]
        refine do_call fn_63 (by simp only [evt, evc, upd_eq, Nat.reduceEqDiff, ↓reduceIte, maT, maC, maN, isnN, isnS] <;> rfl) (leaf_any b (some ⟨bc, 0, none⟩) w4 b3) ?_
        rintro _ w4 ⟨rfl, rfl⟩
        refine ⟨trivial, ?_⟩
        simp only [↓List.toList_toArray, ↓rgd, ↓rgf, ↓reduceIte, Nat.reduceEqDiff, rg, ow_48]
        refine hK _ _ ?_; clear hK K0
        refine W_false (by simp only [evt, evc, upd_eq, Nat.reduceEqDiff, ↓reduceIte, ntT, ntF] <;> rfl) (W_skip ?_)
        show W _ _ _ _ _ _
        have hcl : lastSel cs.length < cs.length := lastSel_lt _ (by have := n.len; omega)
        obtain ⟨c, hc⟩ : ∃ c, cs[lastSel cs.length]? = some c := ⟨_, List.getElem?_eq_getElem hcl⟩
        have hcm : c ∈ cs := List.mem_of_getElem? hc
        have htc := n.sub c hcm
        have hcD : ∀ y, (D y ∧ y ≠ b) ↔ RS lastSel w3 h' c.b y := by
          intro y
          rw [← hD y, n.rs ho.h3 hc y]
          refine ⟨fun g => g.1.resolve_left g.2, fun g => ⟨.inr g, fun hb => ?_⟩⟩
          rw [hb] at g
          exact n.ap.own c hcm b 0 (RS.sub lastSel_lt htc b g 0) (.inl rfl)
        have k4 := n.kids.ext sh4.ext fun y o g hh => n.ap.kid c hcm y o (RS.sub lastSel_lt htc y ((hcD y).1 hh.2) o) g
        have hc0 := k4.c0
        rw [List.length_map] at hc0
        have hcr : rd w4 ba (oa + (cs.length - 1)) = some (ptr c.b) := ptr_at k4.row (by rw [List.getElem?_map]; exact congrArg _ hc)
        have q2 := wsub1 cs.length (by omega) (by have := n.len; omega)
        have hlc : cs.length - 1 < cs.length := hcl
        refine W_rg fun K0 hK => (W_draw (some none) none [(0, 0, 0), (0, 1, 0), (0, 2, 0), (0, 3, 0), (0, 4, 0), (0, 5, 0), (0, 6, 0), (0, 7, 0), (0, 8, 0), (0, 9, 0), (0, 10, 0), (0, 11, 0), (0, 12, 0), (0, 13, 0), (0, 14, 0), (0, 15, 0), (0, 16, 0)] mixed (by kernel_rfl) ?_); simp only [↓List.toList_toArray, ↓rgd, ↓rgf, ↓reduceIte, Nat.reduceEqDiff, rg, ow_48, e9, ptr_eq, b3, hc0, q2, hlc, hcr]
        refine hK _ _ ?_; clear hK K0
        have hlen : c.xs.length ≤ ys.length := by rw [n.eq]; exact weave_mem_length _ _ (by simpa using n.len) _ (List.mem_map_of_mem hcm)
        refine ⟨h', by omega, d - 1, c.b, c.xs, c.F, _, htc, sh4.ro (RO.dr _ _), fun y => (hcD y).symm, by omega, ?_, ?_, ?_, ?_⟩
        · simp only [upd_eq, Nat.reduceEqDiff, ↓reduceIte]; exact e0
        · simp only [upd_eq, Nat.reduceEqDiff, ↓reduceIte]; exact e6
        · simp only [upd_eq, Nat.reduceEqDiff, ↓reduceIte]; exact e8
        · simp only [upd_eq, Nat.reduceEqDiff, ↓reduceIte]; rfl
    clear hK
    refine W_block (W_loop (fun mm e w' => ∃ (lo b' : Nat) (ys : List It) (Fb : Nat → Nat → Prop) (A : List It) (D : Nat → Prop), Tr E iso (d - 1) (2 * d - 1) mm w3 lo b' ys Fb ∧ 1 ≤ lo ∧ Shift 1 w3 w' D ∧ (∀ y, RS lastSel w3 h b y ↔ D y ∨ RS lastSel w3 mm b' y) ∧ (∀ y, D y → ∀ o, ¬ Fb y o) ∧ (∀ y, D y → ∀ o, F y o) ∧ xs = A ++ ys ∧
        Hole E iso (d - 1) (2 * d - 1) h 1 b F w3.heap.size w' mm lo b' ys Fb A [] 1 ∧ (∀ y o, Fb y o → F y o) ∧ e 0 = ptr m ∧ e 6 = .pointer (some ⟨q, 0, none⟩) ∧ e 8 = ptr B ∧ e 9 = ptr b')
        h ⟨1, b, xs, F, [], fun _ => False, ht, Nat.le_refl _, Shift.nil _ _, fun y => by simp, fun _ h => h.elim, fun _ h => h.elim, rfl, Hole.root (Nat.le_refl _), fun _ _ g => g, ?_, ?_, ?_, ?_⟩ ?_)
    · simp only [upd_eq, Nat.reduceEqDiff, ↓reduceIte]; exact e0
    · simp only [upd_eq, Nat.reduceEqDiff, ↓reduceIte]
    · simp only [upd_eq, Nat.reduceEqDiff, ↓reduceIte]; rfl
    · simp only [upd_eq, Nat.reduceEqDiff, ↓reduceIte]
    clear e0 e1 e2 e
    rintro mm e w' ⟨lo, b', ys, Fb, A, D, htb, hlo, sh, hD, hDF, hDD, hxs, hole, hsub, e0, e6, e8, e9⟩
    obtain ⟨bi, oi, cap, ks, ch, ho, h1, h2, hoF, hin⟩ := htb.open
    have hyx : ys.length ≤ xs.length := by rw [hxs]; simp
    have hDb : ¬ D b' := fun g => hDF b' g 0 (htb.self 0)
    have q1 := wadd1 ys.length (by omega)
    have c1 := sh.ext.rd ho.h1 (fun g => hDb g.2)
    refine W_block ?_
    refine W_sq fun K0 hK => (W_text [true, true, true, true, true, true, true, false] (by kernel_rfl) ?_); simp only [↓List.toList_toArray, ↓rgd, ↓rgf, ↓reduceIte, Nat.reduceEqDiff, rg, ow_48, e9, ptr_eq, c1, q1]
    refine do_store (by simp only [evt, evc, upd_eq, Nat.reduceEqDiff, ↓reduceIte, ntT, ntF] <;> rfl) (by simp only [evt, evc, upd_eq, Nat.reduceEqDiff, ↓reduceIte, ntT, ntF] <;> rfl) sz_3 rfl (sh.ext.wok ho.wb) (by decide) (oc_one rfl rfl) fun w4 x4 r4 s4 => ⟨trivial, ?_⟩
    simp only [↓List.toList_toArray, ↓rgd, ↓rgf, ↓reduceIte, Nat.reduceEqDiff, rg, ow_48]
    refine hK _ _ ?_; clear hK K0
    have b1 : rd w4 b' 1 = some (.int .i64 (ys.length + 1 : Int)) := (Row.cons.1 r4).1
    have sh4 := sh.add hDb ho.h1 x4 b1
    have hFF : ∀ y o, (o = 1 ∧ (D y ∨ y = b')) → ∀ p, F y p := fun y o g p => g.2.elim (fun g => hDD y g p) fun g => by rw [g]; exact hsub _ _ (htb.self p)
    have hM4 : Cfg w4 m iso d := hM.cfg.ext sh4.ext fun o _ _ g => hM.off 0 (hFF _ _ g 0)
    have b3 := sh4.ext.rd ho.h3 (fun g => by omega)
    have b2 := sh4.ext.rd ho.h2 (fun g => by omega)
    refine W_seq ?_
    rcases hin with ⟨rfl, rfl, rfl, hF⟩ | ⟨h', bc, ba, oa, capc, cs, rfl, rfl, n⟩
    · refine W_sq fun K0 hK => (W_text [true, false] (by kernel_rfl) ?_); simp only [↓List.toList_toArray, ↓rgd, ↓rgf, ↓reduceIte, Nat.reduceEqDiff, rg, ow_48, e9]
      refine do_call fn_63 (by simp only [evt, evc, upd_eq, Nat.reduceEqDiff, ↓reduceIte, maT, maC, maN, isnN, isnS] <;> rfl) (leaf_any b' none w4 b3) ?_
      rintro _ w4 ⟨rfl, rfl⟩
      refine ⟨trivial, ?_⟩
      simp only [↓List.toList_toArray, ↓rgd, ↓rgf, ↓reduceIte, Nat.reduceEqDiff, rg, ow_48]
      refine hK _ _ ?_; clear hK K0
      refine W_true (by simp only [evt, evc, upd_eq, Nat.reduceEqDiff, ↓reduceIte, ntT, ntF] <;> rfl) ?_
      refine W_sqx fun K hK => ?_
      have hdown : ∀ (e' : Env) (w' : World), RO w4 w' → e' 0 = ptr m → e' 6 = .pointer (some ⟨q, 0, none⟩) → e' 8 = ptr B → K e' w' := by
        intro e' w5 r5 f0 f6 f8
        refine hK _ _ ?_; clear hK K
        refine W_exit ?_
        simp only [andThen_exit, inBlk_exit, andThen_normal, Nat.reduceEqDiff, ↓reduceIte]
        refine hrest _ _ _ (sh4.ro r5) (fun y => ?_) f0 f6 f8
        rw [hD y]; rfl
      have hmx := hM4.mx
      have o4 := ho.row
      have row4 : Row w4 bi oi (flat E ys) := sh4.ext.row ho.row fun j hj g => by
        rw [flat_length] at hj
        have hc := Nat.mul_le_mul_right E.sz ho.le
        rcases g.2 with g | g
        · exact hDF _ g (oi + j) (hoF _ _ (.inr ⟨rfl, by omega, by omega⟩))
        · exact ho.ne g
      by_cases hfull : ys.length < 2 * d - 1
      · have t1 : decide ((ys.length : Int) < ((2 * d - 1 : Nat) : Int)) = true := by simp; omega
        refine W_sq fun K0 hK => (W_draw (some none) none [(0, 0, 0), (0, 1, 0), (0, 2, 0), (0, 3, 0), (0, 4, 0), (0, 5, 0), (0, 6, 0), (0, 7, 0), (0, 8, 0), (0, 9, 0)] mixed (by kernel_rfl) ?_); simp only [↓List.toList_toArray, ↓rgd, ↓rgf, ↓reduceIte, Nat.reduceEqDiff, rg, ow_48, e0, e9, ptr_eq, b2, hmx, t1]
        refine hK _ _ ?_; clear hK K0
        refine W_true (by simp only [evt, evc, upd_eq, Nat.reduceEqDiff, ↓reduceIte, ntT, ntF] <;> rfl) ?_
        obtain ⟨y, hy⟩ : ∃ y, ys[ys.length - 1]? = some y := ⟨_, List.getElem?_eq_getElem (by omega)⟩
        have hyl : ys.length - 1 < ys.length := by omega
        have q2 := wsub1 ys.length (by omega) (by omega)
        have hyk : rd w4 bi (oi + (ys.length - 1)) = some (kV y.1) := key_at row4 hy
        have rx4 : Row w4 B 0 (E.cel x) := sh4.ext.row rx fun j _ g => by have := hFlt _ _ (hFF _ _ g 0); omega
        have rxk : rd w4 B 0 = some (kV x.1) := kV_at rx4
        by_cases hlt : y.1 < x.1
        · have t2 : decide (y.1 < x.1) = true := by simpa using hlt
          have t3 : binV Try.prog .lss 3 (kV y.1) (kV x.1) = some (.bool true) := by rw [kV_lt]; exact congrArg _ (congrArg _ t2)
          refine W_sq fun K0 hK => (W_draw (some none) none [(0, 0, 0), (0, 1, 0), (0, 2, 0), (0, 3, 0), (0, 4, 0), (0, 5, 0), (0, 6, 0), (0, 7, 0), (0, 8, 0), (0, 9, 0), (0, 10, 0), (0, 11, 0), (0, 12, 0), (0, 13, 0), (0, 14, 0), (0, 15, 0)] mixed (by kernel_rfl) ?_); simp only [↓List.toList_toArray, ↓rgd, ↓rgf, ↓reduceIte, Nat.reduceEqDiff, rg, ow_48, e8, e9, ptr_eq, b2, q2, hyl, hyk, rxk, t3]
          refine hK _ _ ?_; clear hK K0
          refine W_true (by simp only [evt, evc, upd_eq, Nat.reduceEqDiff, ↓reduceIte, ntT, ntF] <;> rfl) ?_
          have M1 : readsB (some (some [b', B])) b' = true := by simp [readsB]
          have M2 : readsB (some (some [b', B])) B = true := by simp [readsB]
          have ix := iA_at rx4
          refine W_sq fun K0 hK => (W_draw (some (some [b', B])) (some 10) [(0, 0, 0), (0, 1, 0), (0, 2, 0), (0, 3, 0), (0, 4, 0), (0, 5, 0), (1, 6, 0), (1, 7, 0), (0, 8, 0), (0, 9, 0), (1, 10, 0)] mixed (by kernel_rfl) ?_); simp only [↓List.toList_toArray, ↓rgd, ↓rgf, ↓reduceIte, Nat.reduceEqDiff, rg, ow_48, e8, e9, ptr_eq, b2, ix, M1, M2]
          have s4' : w4.heap.size = w'.heap.size := s4
          have hbw := x4.wok (sh.ext.wok ho.wb)
          have hbl := wok_lt hbw
          have hwi : wok w4 bi (oi + cap * 1) := sh4.ext.wok ho.wi
          have hbil := wok_lt hwi
          have hBl : B < w4.heap.size := by have := sh4.ext.size; omega
          have hBb : B ≠ b' := fun g => by have := hFlt _ _ (hsub _ _ (g ▸ htb.self 0)); omega
          have hBbi : B ≠ bi := fun g => by have := hFlt _ _ (hsub _ _ (hoF bi oi (.inr ⟨rfl, by omega, by rw [E_sz]; have := ho.le; omega⟩))); omega
          have hmb : m ≠ b' := fun g => hM.off 0 (hsub _ _ (g ▸ htb.self 0))
          have hcap := ho.le
          have hne := ho.ne
          refine do_bsl rfl (bs_it1 x) fun w6 n6 => ⟨.inr (keep2 n6.ext ⟨by simp only [sz_dr]; omega, fun _ h => h⟩ ⟨by simp only [sz_dr]; omega, fun _ h => h⟩), ?_⟩
          simp only [↓List.toList_toArray, ↓rgd, ↓rgf, ↓reduceIte, Nat.reduceEqDiff, rg, ow_48]
          have n6 := n6.od.od.od
          have s6 := n6.size
          have hsl : SlV w6 1 (.slice (some ⟨bi, oi, none⟩) ys.length cap) ys.length (flat E ys) := ⟨by rw [flat_length]; rfl, .inr ⟨bi, oi, cap, rfl, hcap, n6.ext.row row4 fun _ _ h => h, (n6.ext.wok hwi).R (Nat.le_refl _)⟩⟩
          have hz : SlV w6 1 (.slice (some ⟨w4.heap.size, 0, none⟩) 1 1) 1 (E.cel x) := ⟨rfl, .inr ⟨_, 0, 1, rfl, Nat.le_refl _, n6.row, n6.wok.R (Nat.le_refl _)⟩⟩
          refine do_append (by simp only [evt, evc, upd_eq, Nat.reduceEqDiff, ↓reduceIte, ntT, ntF] <;> rfl) (by simp only [evt, evc, upd_eq, Nat.reduceEqDiff, ↓reduceIte, ntT, ntF] <;> rfl) el_it rfl ni_93 hsl hz (by omega) (by decide) (E.one x) fun v7 w7 a7 => ?_
          obtain ⟨b2', o', cap', rfl, hcap', row7, wok7, x7, hcase⟩ := app_out a7 (n6.ext.wok hwi)
          refine ⟨.inr (keep2 x7 ⟨by omega, fun o h => by simp only [rng] at h; omega⟩ ⟨by omega, fun o h => by simp only [rng] at h; omega⟩), ?_⟩
          simp only [↓List.toList_toArray, ↓rgd, ↓rgf, ↓reduceIte, Nat.reduceEqDiff, rg, ow_48, ptr_eq]
          have s7 := x7.size
          have wb7 := x7.wok (n6.ext.wok hbw)
          refine do_store (by simp only [evt, evc, upd_eq, Nat.reduceEqDiff, ↓reduceIte, ntT, ntF] <;> rfl) (by simp only [evt, evc, upd_eq, Nat.reduceEqDiff, ↓reduceIte, ntT, ntF] <;> rfl) sz_93 rfl wb7 (by decide) (oc_one rfl rfl) fun w8 x8 r8 s8 => ⟨.inl trivial, ?_⟩
          simp only [↓List.toList_toArray, ↓rgd, ↓rgf, ↓reduceIte, Nat.reduceEqDiff, rg, ow_48]
          refine hK _ _ ?_; clear hK K0
          have hb2b : b2' ≠ b' := by omega
          have Y : Ext (fun y o => (rng bi (oi + ys.length) 1 y o ∧ ys.length + 1 ≤ cap) ∨ (y = b' ∧ (o = 1 ∨ o = 2))) w' w8 := by
            refine ((x4.trans n6.ext (fun y o g => ?_) fun _ _ _ g => g.elim).trans x7 (fun _ _ g => g) fun y o _ g => ?_).trans x8 (fun _ _ g => g) fun y o _ g => ?_
            · simp only [rng] at g; exact .inr ⟨g.1, by omega⟩
            · exact .inl (by simp only [Nat.mul_one] at g; exact g)
            · simp only [rng] at g; exact .inr ⟨g.1, by omega⟩
          have XF : Ext Fb w' w8 := Y.mono fun y o _ g => (hF y o).2 (by
            rcases g with g | g
            · simp only [rng] at g
              exact .inr ⟨g.1.1, by omega, by rw [E_sz]; omega⟩
            · exact .inl g.1)
          have htr : Tr E iso (d - 1) (2 * d - 1) 0 w8 lo b' (ys ++ [x]) (ownF E b' b2' o' cap') := by
            have g0 : rd w' b' 0 = some (.int .u64 iso) := sh.ext.rd ho.h0 (fun g => hDb g.2)
            have g3 : rd w' b' 3 = some (.pointer none) := sh.ext.rd ho.h3 (fun g => hDb g.2)
            refine ⟨b2', o', cap', ⟨?_, ?_, ?_, ?_, x8.wok wb7, ?_, x8.wok wok7, ?_, hb2b⟩, ?_, ?_, fun _ _ => Iff.rfl⟩
            · exact Y.rd g0 (by simp only [rng]; omega)
            · rw [List.length_append, List.length_singleton]
              exact x8.rd (x7.rd (n6.ext.rd b1 fun h => h) (by simp only [rng]; omega)) (by simp only [rng]; omega)
            · rw [List.length_append, List.length_singleton]
              exact (Row.cons.1 r8).1
            · exact Y.rd g3 (by simp only [rng]; omega)
            · rw [flat_append, flat_one]
              exact x8.row row7 fun j _ h => by simp only [rng] at h; omega
            · rw [List.length_append, List.length_singleton]; exact hcap'
            · rw [List.length_append, List.length_singleton]; omega
            · rw [List.length_append, List.length_singleton]; omega
          obtain ⟨F2, hT2, hF2⟩ := hole w8 (ys ++ [x]) (ownF E b' b2' o' cap') XF htr (fun y o g => by
            rcases g with g | g
            · exact .inl ((hF _ _).2 (.inl g))
            · rcases hcase with ⟨rfl, rfl, rfl⟩ | hc
              · exact .inl ((hF _ _).2 (.inr g))
              · exact .inr (by simp only [rng] at g; omega)) (by rw [List.length_append]; simp)
          rw [List.append_nil, ← List.append_assoc, ← hxs] at hT2
          have XW : Ext F w3 w8 := (sh.ext.mono fun y o _ g => hDD y g.2 o).tr (XF.mono fun y o _ g => hsub y o g)
          have ct8 := XW.rd hM.cnt (hM.off 3)
          have q3 := wadd1 xs.length (by omega)
          have cf8 := hM.cfg.ext XW fun o _ _ => hM.off o
          refine W_sq fun K0 hK => (W_text [true, true, true, true, true, true, true, false] (by kernel_rfl) ?_); simp only [↓List.toList_toArray, ↓rgd, ↓rgf, ↓reduceIte, Nat.reduceEqDiff, rg, ow_48, e0, ptr_eq, ct8, q3]
          refine do_store (by simp only [evt, evc, upd_eq, Nat.reduceEqDiff, ↓reduceIte, ntT, ntF] <;> rfl) (by simp only [evt, evc, upd_eq, Nat.reduceEqDiff, ↓reduceIte, ntT, ntF] <;> rfl) sz_3 rfl cf8.wok (by decide) (oc_one rfl rfl) fun w9 x9 r9 s9 => ⟨trivial, ?_⟩
          simp only [↓List.toList_toArray, ↓rgd, ↓rgf, ↓reduceIte, Nat.reduceEqDiff, rg, ow_48]
          refine hK _ _ ?_; clear hK K0
          have cf9 := cf8.ext x9 fun o h2 h3 g => by simp only [rng] at g; omega
          have tm9 := wok.ty tyP cf9.wok
          have wq9 : wok w9 q 0 := x9.wok (XW.wok wq3)
          refine W_sq fun K0 hK => (W_text [true, true, true, true, true, false, true] (by kernel_rfl) ?_); simp only [↓List.toList_toArray, ↓rgd, ↓rgf, ↓reduceIte, Nat.reduceEqDiff, rg, ow_48, e0, ptr_eq, tm9]
          refine do_store (b := q) (o := 0) (by simp only [evt, upd_eq, Nat.reduceEqDiff, ↓reduceIte]; exact e6) (by simp only [evt, evc, upd_eq, Nat.reduceEqDiff, ↓reduceIte, ntT, ntF] <;> rfl) sz_74 rfl wq9 (by decide) (fun _ h => by cases h) fun w10 x10 r10 s10 => ⟨trivial, ?_⟩
          simp only [↓List.toList_toArray, ↓rgd, ↓rgf, ↓reduceIte, Nat.reduceEqDiff, rg, ow_48]
          refine hK _ _ ?_; clear hK K0
          refine W_ret ?_
          simp only [andThen_ret, inBlk_ret]
          obtain ⟨p1, p2, p3⟩ := put_last O κ (all_lt O κ hM.asc hxs hy t2)
          have hF2m : ∀ o, ¬ F2 m o := fun o g => by
            rcases hF2 m o g with g | g
            · exact hM.off o g
            · omega
          have hm9 : MapAt w9 m d iso (put O κ x xs) F2 := by
            refine ⟨cf9, ?_, put_asc O κ hM.asc, .inr ⟨h, b, ?_, ?_⟩, hF2m, ?_⟩
            · rw [p1, List.length_append, List.length_singleton]; exact (Row.cons.1 r9).1
            · rw [hroot] at hr
              exact x9.rd (XW.rd hr (hM.off 2)) (by simp only [rng]; omega)
            · rw [p1]
              exact hT2.ext x9 fun y o g k => by simp only [rng] at k; rw [k.1] at g; exact hF2m _ g
            · intro y o g; rw [s9]; exact hT2.lt y o g
          refine endQ_ct (by simp only [upd_eq, Nat.reduceEqDiff, ↓reduceIte]; exact e6) (by simp only [upd_eq, Nat.reduceEqDiff, ↓reduceIte] <;> rfl) ld_74 ld_unit (hR _ _ ⟨by rw [p2, p3]; rfl, ?_, F2, hm9.extG x10 (fun y o _ k => by simp only [rng] at k; omega) (fun o k => by simp only [rng] at k; omega), ?_⟩)
          · refine (((X3.mono fun _ _ _ h => h.elim).tr (XW.mono fun y o _ g => .inl g)).tr (x9.mono fun y o _ g => ?_)).trans x10 (fun _ _ g => g) fun y o _ k => by simp only [rng] at k; omega
            simp only [rng] at g
            exact .inr ⟨g.1, by omega⟩
          · intro y o g
            exact (hF2 y o g).imp id fun g => by omega
        · have t2 : decide (y.1 < x.1) = false := by simpa using hlt
          have t3 : binV Try.prog .lss 3 (kV y.1) (kV x.1) = some (.bool false) := by rw [kV_lt]; exact congrArg _ (congrArg _ t2)
          refine W_sq fun K0 hK => (W_draw (some none) none [(0, 0, 0), (0, 1, 0), (0, 2, 0), (0, 3, 0), (0, 4, 0), (0, 5, 0), (0, 6, 0), (0, 7, 0), (0, 8, 0), (0, 9, 0), (0, 10, 0), (0, 11, 0), (0, 12, 0), (0, 13, 0), (0, 14, 0), (0, 15, 0)] mixed (by kernel_rfl) ?_); simp only [↓List.toList_toArray, ↓rgd, ↓rgf, ↓reduceIte, Nat.reduceEqDiff, rg, ow_48, e8, e9, ptr_eq, b2, q2, hyl, hyk, rxk, t3]
          refine hK _ _ ?_; clear hK K0
          refine W_false (by simp only [evt, evc, upd_eq, Nat.reduceEqDiff, ↓reduceIte, ntT, ntF] <;> rfl) (W_skip ?_)
          simp only [andThen_normal]
          refine hdown _ _ ((RO.dr _ _).tr (RO.dr _ _)) ?_ ?_ ?_
          · simp only [upd_eq, Nat.reduceEqDiff, ↓reduceIte]; exact e0
          · simp only [upd_eq, Nat.reduceEqDiff, ↓reduceIte]; exact e6
          · simp only [upd_eq, Nat.reduceEqDiff, ↓reduceIte]; exact e8
      · have t1 : decide ((ys.length : Int) < ((2 * d - 1 : Nat) : Int)) = false := by simp; omega
        refine W_sq fun K0 hK => (W_draw (some none) none [(0, 0, 0), (0, 1, 0), (0, 2, 0), (0, 3, 0), (0, 4, 0), (0, 5, 0), (0, 6, 0), (0, 7, 0), (0, 8, 0), (0, 9, 0)] mixed (by kernel_rfl) ?_); simp only [↓List.toList_toArray, ↓rgd, ↓rgf, ↓reduceIte, Nat.reduceEqDiff, rg, ow_48, e0, e9, ptr_eq, b2, hmx, t1]
        refine hK _ _ ?_; clear hK K0
        refine W_false (by simp only [evt, evc, upd_eq, Nat.reduceEqDiff, ↓reduceIte, ntT, ntF] <;> rfl) (W_skip ?_)
        simp only [andThen_normal]
        refine hdown _ _ (RO.dr _ _) ?_ ?_ ?_
        · simp only [upd_eq, Nat.reduceEqDiff, ↓reduceIte]; exact e0
        · simp only [upd_eq, Nat.reduceEqDiff, ↓reduceIte]; exact e6
        · simp only [upd_eq, Nat.reduceEqDiff, ↓reduceIte]; exact e8
    · have hcl : lastSel cs.length < cs.length := lastSel_lt _ (by have := n.len; omega)
      obtain ⟨c, hc⟩ : ∃ c, cs[lastSel cs.length]? = some c := ⟨_, List.getElem?_eq_getElem hcl⟩
      have hcm : c ∈ cs := List.mem_of_getElem? hc
      have htc := n.sub c hcm
      have hcF : ∀ y o, c.F y o → Fb y o := fun y o g => (n.fp y o).2 (.inr (.inr ⟨c, hcm, g⟩))
      refine W_sq fun K0 hK => (W_text [true, false] (by kernel_rfl) ?_); simp only [↓List.toList_toArray, ↓rgd, ↓rgf, ↓reduceIte, Nat.reduceEqDiff, rg, ow_48, e9]
      refine do_call fn_63 (by simp only [evt, evc, upd_eq, Nat.reduceEqDiff, ↓reduceIte, maT, maC, maN, isnN, isnS] <;> rfl) (leaf_any b' (some ⟨bc, 0, none⟩) w4 b3) ?_
      rintro _ w4 ⟨rfl, rfl⟩
      refine ⟨trivial, ?_⟩
      simp only [↓List.toList_toArray, ↓rgd, ↓rgf, ↓reduceIte, Nat.reduceEqDiff, rg, ow_48]
      refine hK _ _ ?_; clear hK K0
      refine W_false (by simp only [evt, evc, upd_eq, Nat.reduceEqDiff, ↓reduceIte, ntT, ntF] <;> rfl) (W_skip ?_)
      show W _ _ _ _ _ _
      have n4 := n.ext sh4.ext (fun y o g hh => by
        rcases hh.2 with hh | hh
        · exact hDF y hh o ((n.fp y o).2 (.inr (.inl g)))
        · subst hh
          rcases g with g | g
          · exact n.ap.cb g.symm
          · exact n.ap.ab g.1.symm) fun d' hd y o g hh => by
        rcases hh.2 with hh | hh
        · exact hDF y hh o ((n.fp y o).2 (.inr (.inr ⟨d', hd, g⟩)))
        · exact n.ap.own d' hd y o g (.inl hh)
      have hc0 := n4.kids.c0
      rw [List.length_map] at hc0
      have hcr : rd w4 ba (oa + (cs.length - 1)) = some (ptr c.b) := ptr_at n4.kids.row (by rw [List.getElem?_map]; exact congrArg _ hc)
      have q2 := wsub1 cs.length (by omega) (by have := n.len; omega)
      have hlc : cs.length - 1 < cs.length := hcl
      refine W_rg fun K0 hK => (W_draw (some none) none [(0, 0, 0), (0, 1, 0), (0, 2, 0), (0, 3, 0), (0, 4, 0), (0, 5, 0), (0, 6, 0), (0, 7, 0), (0, 8, 0), (0, 9, 0), (0, 10, 0), (0, 11, 0), (0, 12, 0), (0, 13, 0), (0, 14, 0), (0, 15, 0), (1, 16, 0), (0, 17, 0)] mixed (by kernel_rfl) ?_); simp only [↓List.toList_toArray, ↓rgd, ↓rgf, ↓reduceIte, Nat.reduceEqDiff, rg, ow_48, e0, e9, ptr_eq, b3, hc0, q2, hlc]
      refine do_call fn_62 (by simp only [evt, evc, upd_eq, Nat.reduceEqDiff, ↓reduceIte, maT, maC, maN, isnN, isnS] <;> rfl) (isoLoad_any m ba (oa + (cs.length - 1)) c.b true iso _ hM4.iso hcr (n4.sub c hcm).iso0.1) ?_
      rintro _ w5 ⟨rfl, r5⟩
      refine ⟨.inr (keeps_ro r5), ?_⟩
      simp only [↓List.toList_toArray, ↓rgd, ↓rgf, ↓reduceIte, Nat.reduceEqDiff, rg, ow_48]
      refine hK _ _ ?_; clear hK K0
      have R5 : RO w4 w5 := (RO.dr _ _).tr r5
      obtain ⟨A', C', hw⟩ := weave_at (lastSel cs.length) (cs.map Kid.xs) ks (by simpa using n.len) (by have := n.len; simp only [lastSel]; omega)
      have hC' : C' = [] := by
        rcases hw.right with ⟨hC, _⟩ | ⟨k, _, hk, _⟩
        · exact hC
        · have := (List.getElem?_eq_some_iff.1 hk).1; have := n.len; simp only [lastSel] at *; omega
      subst hC'
      have hxe : ys = A' ++ c.xs := by rw [n.eq, hw.eq (c := c.xs) (by rw [List.getElem?_map, hc]; rfl), List.append_nil]
      have n' := n.ext sh.ext (fun y o g hh => hDF y hh.2 o ((n.fp y o).2 (.inr (.inl g)))) fun d' hd y o g hh => hDF y hh.2 o ((n.fp y o).2 (.inr (.inr ⟨d', hd, g⟩)))
      have ho' := ho.ext sh.ext fun y o g hh => hDF y hh.2 o (hoF y o g)
      have hole4 := (hole.down n' ho' h1 h2 x4 b1 hc hw).ro R5
      refine ⟨h', by omega, d - 1, c.b, c.xs, c.F, A ++ A', _, htc, by omega, sh4.ro R5, fun y => ?_, fun y g o hh => ?_, fun y g => ?_, by rw [hxs, hxe, List.append_assoc], hole4, fun y o g => hsub y o (hcF y o g), ?_, ?_, ?_, ?_⟩
      · rw [hD y, n.rs ho.h3 hc y, or_assoc]
      · rcases g with g | g
        · exact hDF y g o (hcF y o hh)
        · exact n.ap.own c hcm y o hh (.inl g)
      · exact hFF y 1 ⟨rfl, g⟩
      · simp only [upd_eq, Nat.reduceEqDiff, ↓reduceIte]; exact e0
      · simp only [upd_eq, Nat.reduceEqDiff, ↓reduceIte]; exact e6
      · simp only [upd_eq, Nat.reduceEqDiff, ↓reduceIte]; exact e8
      · simp only [upd_eq, Nat.reduceEqDiff, ↓reduceIte]
end Go.Proofs.Ytjaolgehpnmieaa
/-
  The law on Load over sets: what it needs. No condition.
-/
set_option linter.unusedSimpArgs false
set_option linter.unusedVariables false
namespace Go.Proofs.Ytjaolgehpnmieaa
open Go Go.Proofs
set_option maxHeartbeats 800000 in
set_option maxRecDepth 8000 in
theorem load_nil (m : Nat) (k : Int) (w00 : World) (hM : MapAt w00 m 0 0 [] noF) :
    CallK Try.prog 48 #[ptr m, kV k, .agg #[]] w00 fun _ w' => Ext (setF m noF) w00 w' ∧ ∃ F', SetAt w' m (put O κ (toIt k) []) F' ∧ ∀ y o, F' y o → noF y o ∨ w00.heap.size ≤ y := by
  refine calls_of_W [.cell 6 74, .tmp 7] Try.func48 rfl Try.ntmps48 Try.results48 (by simp) fun e he => ?_
  have e0 : e 0 = ptr m := he 0 _ rfl
  have e1 : e 1 = kV k := he 1 _ rfl
  have e2 : e 2 = .agg #[] := he 2 _ rfl
  clear he
  refine W_sq fun K hK => (W_text [false, false, true] (by kernel_rfl) ?_); simp only [↓List.toList_toArray, ↓rgd, ↓rgf, ↓reduceIte, Nat.reduceEqDiff, rg, ow_48]
  refine do_box (by simp only [evt]; exact e2) fun wa na => ⟨trivial, ?_⟩
  simp only [↓List.toList_toArray, ↓rgd, ↓rgf, ↓reduceIte, Nat.reduceEqDiff, rg, ow_48]
  refine do_alloc z_unit fun w nb => ⟨trivial, ?_⟩
  simp only [↓List.toList_toArray, ↓rgd, ↓rgf, ↓reduceIte, Nat.reduceEqDiff, rg, ow_48]
  refine hK _ _ ?_; clear hK K
  have sa := na.size
  have sb := nb.size
  have Xb : Ext noF w00 w := na.ext.tr nb.ext
  obtain ⟨q, hq⟩ : ∃ q, q = wa.heap.size := ⟨_, rfl⟩
  have wqb : wok w q 0 := by rw [hq]; exact nb.wok
  rw [← hq]
  have hml := hM.mlt
  refine W_sq fun K hK => (W_text [true, true, true, false, false] (by kernel_rfl) ?_); simp only [↓List.toList_toArray, ↓rgd, ↓rgf, ↓reduceIte, Nat.reduceEqDiff, rg, ow_48, e1, bu_it k 0]
  refine do_alloc z_it fun w1 n1 => ⟨trivial, ?_⟩
  simp only [↓List.toList_toArray, ↓rgd, ↓rgf, ↓reduceIte, Nat.reduceEqDiff, rg, ow_48]
  refine do_store (by simp only [evt, evc, upd_eq, Nat.reduceEqDiff, ↓reduceIte, ntT, ntF] <;> rfl) (by simp only [evt, evc, upd_eq, Nat.reduceEqDiff, ↓reduceIte, ntT, ntF] <;> rfl) sz_76 (itV_len (k, 0)) n1.wok (by decide) (itV_oc (k, 0)) fun w2 x2 r2 s2 => ⟨trivial, ?_⟩
  simp only [↓List.toList_toArray, ↓rgd, ↓rgf, ↓reduceIte, Nat.reduceEqDiff, rg, ow_48]
  refine hK _ _ ?_; clear hK K
  have s1 := n1.size
  have X2 : Ext noF w w2 := noF_of n1.ext x2 fun y o hy h => by simp only [rng] at h; omega
  have rx : Row w2 w.heap.size 0 (E.cel (toIt k)) := r2
  have rxk := kV_at rx
  have wx2 : wok w2 w.heap.size 1 := x2.wok n1.wok
  have wq2 : wok w2 q 0 := X2.wok wqb
  have tyB := wok.ty tyP wx2
  have hM2 := (hM.ext Xb).ext X2
  have hr : rd w2 m 2 = some (.pointer none) := by
    rcases hM2.root with ⟨_, hr⟩ | ⟨h, b, hr, ht⟩
    · exact hr
    · exact (ht.ne (Nat.le_refl 1) rfl).elim
  refine W_seq ?_
  refine W_sq fun K hK => (W_text [true, true, true, true, true] (by kernel_rfl) ?_); simp only [↓List.toList_toArray, ↓rgd, ↓rgf, ↓reduceIte, Nat.reduceEqDiff, rg, ow_48, e0, ptr_eq, hr]
  refine hK _ _ ?_; clear hK K
  refine W_true (by simp only [evt, evc, upd_eq, Nat.reduceEqDiff, ↓reduceIte, ntT, ntF] <;> rfl) ?_
  refine W_sq fun K hK => (W_text [true, true, true, true, true, false, true, true, false, true] (by kernel_rfl) ?_); simp only [↓List.toList_toArray, ↓rgd, ↓rgf, ↓reduceIte, Nat.reduceEqDiff, rg, ow_48, e0, tyB, rxk]
  refine do_call fn_57 (by simp only [evt, evc, upd_eq, Nat.reduceEqDiff, ↓reduceIte, maT, maC, maN, isnN, isnS] <;> rfl) (set_set m k [] noF w2 ⟨0, .inr ⟨rfl, rfl⟩, hM2⟩ (by simp)) ?_
  rintro _ w3 ⟨⟨b, rfl⟩, x3, F', hM3, hF'⟩
  refine ⟨trivial, ?_⟩
  simp only [↓List.toList_toArray, ↓rgd, ↓rgf, ↓reduceIte, Nat.reduceEqDiff, rg, ow_48]
  refine do_store (by simp only [evt, evc, upd_eq, Nat.reduceEqDiff, ↓reduceIte, ntT, ntF] <;> rfl) (by simp only [evt, evc, upd_eq, Nat.reduceEqDiff, ↓reduceIte, ntT, ntF] <;> rfl) sz_74 rfl (x3.wok wq2) (by decide) (fun _ h => by cases h) fun w4 x4 r4 s4 => ⟨trivial, ?_⟩
  simp only [↓List.toList_toArray, ↓rgd, ↓rgf, ↓reduceIte, Nat.reduceEqDiff, rg, ow_48]
  refine hK _ _ ?_; clear hK K
  refine W_ret ?_
  simp only [andThen_ret]
  exact endQ_ct (by simp only [upd_eq, Nat.reduceEqDiff, ↓reduceIte] <;> rfl) (by simp only [upd_eq, Nat.reduceEqDiff, ↓reduceIte] <;> rfl) ld_74 ld_unit ⟨(((Xb.tr X2).mono fun _ _ _ h => h.elim).tr x3).trans x4 (fun _ _ g => g) fun y o _ k => by simp only [rng] at k; omega, F', hM3.extG x4 (fun y o _ k => by simp only [rng] at k; omega) fun o k => by simp only [rng] at k; omega, fun y o g => (hF' y o g).imp id fun g => by have := Xb.size; have := X2.size; omega⟩
theorem load_set (m : Nat) (k : Int) (xs : List It) (F : Nat → Nat → Prop) (w : World) (h : SetAt w m xs F) (hbig : xs.length < 1152921504606846976) :
    CallK Try.prog 48 #[ptr m, .int .i64 k, .agg #[]] w fun _ w' => Ext (setF m F) w w' ∧ ∃ F', SetAt w' m (put O κ (toIt k) xs) F' ∧ ∀ y o, F' y o → F y o ∨ w.heap.size ≤ y := by
  obtain ⟨d, hd, hM⟩ := h
  rcases hd with rfl | ⟨rfl, rfl⟩
  · refine CallK_mono (load_map m 32 0 (toIt k) (by omega) (by omega) xs F w hM hbig) ?_
    rintro v w' ⟨-, h2, F', h3, h4⟩
    exact ⟨h2.mono fun y o _ g => mapF_setF g, F', ⟨32, .inl rfl, h3⟩, h4⟩
  · have hr : rd w m 2 = some (.pointer none) := by
      rcases hM.root with ⟨_, hr⟩ | ⟨h, b, hr, ht⟩
      · exact hr
      · exact (ht.ne (Nat.le_refl 1) rfl).elim
    refine CallK_mono (load_nil m k w ⟨hM.cfg, hM.cnt, hM.asc, .inl ⟨rfl, hr⟩, fun _ g => g, fun _ _ g => g.elim⟩) ?_
    rintro v w' ⟨h2, F', h3, h4⟩
    exact ⟨h2.mono fun y o _ g => g.imp (fun g => g.elim) id, F', h3, fun y o g => .inr ((h4 y o g).elim (fun g => g.elim) id)⟩
set_option maxHeartbeats 800000 in
set_option maxRecDepth 8000 in
theorem sload_any (m : Nat) (k : Int) (xs : List It) (F : Nat → Nat → Prop) (w : World) (h : SetAt w m xs F) (hbig : xs.length < 1152921504606846976) :
    CallK Try.prog 31 #[ptr m, .int .i64 k] w fun _ w' => Ext (setF m F) w w' ∧ ∃ F', SetAt w' m (put O κ (toIt k) xs) F' ∧ ∀ y o, F' y o → F y o ∨ w.heap.size ≤ y := by
  refine calls_of_W [] Try.func31 rfl Try.ntmps31 Try.results31 (by simp) fun e he => ?_
  have e0 : e 0 = ptr m := he 0 _ rfl
  have e1 : e 1 = .int .i64 k := he 1 _ rfl
  clear he
  refine W_rg fun K hK => (W_text [true, true, true, true, true, false] (by kernel_rfl) ?_); simp only [↓List.toList_toArray, ↓rgd, ↓rgf, ↓reduceIte, Nat.reduceEqDiff, rg, ow_31, e0, e1, ptr_eq, bu_unit]
  refine do_call fn_48 (by simp only [evt, evc, upd_eq, Nat.reduceEqDiff, ↓reduceIte, maT, maC, maN, isnN, isnS] <;> rfl) (load_set m k xs F w h hbig) ?_
  rintro _ w1 h1
  refine ⟨trivial, ?_⟩
  simp only [↓List.toList_toArray, ↓rgd, ↓rgf, ↓reduceIte, Nat.reduceEqDiff, rg, ow_31]
  refine hK _ _ ?_; clear hK K
  exact endQ_0n h1
set_option maxHeartbeats 800000 in
set_option maxRecDepth 8000 in
theorem impl_sload (l : List Int) (lv : Value) (w : World) (hl : SlN w lv l) (hbig : l.length ≤ 2147483647) :
    CallK Try.prog 15 #[lv] w fun v w' => SlN w' v ((tree (its l)).map κ) ∧ Ext noF w w' := by
  refine calls_of_W [.tmp 2] Try.func15 rfl Try.ntmps15 Try.results15 (by simp) fun e he => ?_
  have e0 : e 0 = lv := he 0 _ rfl
  clear he
  obtain ⟨ka, kc, hkv⟩ := SlV.shape hl
  rw [hkv] at e0
  refine W_sq fun K hK => (W_text [true] (by kernel_rfl) ?_); simp only [↓List.toList_toArray, ↓rgd, ↓rgf, ↓reduceIte, Nat.reduceEqDiff, rg, ow_15]
  refine hK _ _ ?_; clear hK K
  refine W_sq fun K hK => (W_text [false, true] (by kernel_rfl) ?_); simp only [↓List.toList_toArray, ↓rgd, ↓rgf, ↓reduceIte, Nat.reduceEqDiff, rg, ow_15]
  refine do_call fn_30 (by simp only [evt, evc, upd_eq, Nat.reduceEqDiff, ↓reduceIte, maT, maC, maN, isnN, isnS] <;> rfl) (grow_any [] (.slice none 0 0) w (nil_n w) (by decide)) ?_
  rintro _ w1 ⟨X1, m, F0, rfl, hM0, hmg, hF0⟩
  refine ⟨trivial, ?_⟩
  simp only [↓List.toList_toArray, ↓rgd, ↓rgf, ↓reduceIte, Nat.reduceEqDiff, rg, ow_15]
  refine hK _ _ ?_; clear hK K
  have hM0 : SetAt w1 m (tree ((its l).take 0)) F0 := hM0

  refine W_seq (W_seq ?_)
  refine W_rg fun K hK => (W_text [true, true, true] (by kernel_rfl) ?_); simp only [↓List.toList_toArray, ↓rgd, ↓rgf, ↓reduceIte, Nat.reduceEqDiff, rg, ow_15, e0]
  refine hK _ _ ?_; clear hK K
  show W _ _ _ _ _ _
  refine W_block (W_loop (fun mm e w' => ∃ k : Nat, mm = l.length - k ∧ k ≤ l.length ∧ e 7 = .slice ka l.length kc ∧ e 8 = .int .i64 l.length ∧ e 9 = .int .i64 k ∧ e 3 = ptr m ∧ Ext noF w w' ∧ ∃ F, SetAt w' m (tree ((its l).take k)) F ∧ ∀ y o, F y o → w.heap.size ≤ y)
    l.length ⟨0, by simp, by simp, by simp only [upd_eq, Nat.reduceEqDiff, ↓reduceIte], by simp only [upd_eq, Nat.reduceEqDiff, ↓reduceIte], by simp only [upd_eq, Nat.reduceEqDiff, ↓reduceIte]; rfl, by simp only [upd_eq, Nat.reduceEqDiff, ↓reduceIte] <;> rfl, X1, F0, hM0, hF0⟩ ?_)
  clear X1 hM0 hF0 e0 e
  rintro mm e w' ⟨k, rfl, hk, eS, eL, eI, eM, X, F, hM, hF⟩
  by_cases hlt : k < l.length
  · have ht := lt_tt k l.length hlt
    refine W_sq fun K hK => (W_text [true] (by kernel_rfl) ?_); simp only [↓List.toList_toArray, ↓rgd, ↓rgf, ↓reduceIte, Nat.reduceEqDiff, rg, ow_15, eL, eI, ht]
    refine hK _ _ ?_; clear hK K
    refine W_seq (W_true (by simp only [evt, evc, upd_eq, Nat.reduceEqDiff, ↓reduceIte, ntT, ntF] <;> rfl) (W_skip ?_))
    show W _ _ _ _ _ _
    obtain ⟨x, hx⟩ : ∃ x, l[k]? = some x := ⟨_, List.getElem?_eq_getElem hlt⟩
    obtain ⟨ib, io, hka, row⟩ := SlV.at hl hkv hlt
    have hibl := SlV.lt hl (hkv.trans (by rw [hka]))
    have ixx := nV_at (X.row row (fun _ _ h => h)) hx
    rw [hka] at eS
    refine W_seq (W_block ?_)
    refine W_sq fun K hK => (W_text [true, true, true] (by kernel_rfl) ?_); simp only [↓List.toList_toArray, ↓rgd, ↓rgf, ↓reduceIte, Nat.reduceEqDiff, rg, ow_15, eS, eI, hlt, ixx]
    refine hK _ _ ?_; clear hK K
    rw [← hka] at eS
    have htl := tree_len ((its l).take k)
    have htk : ((its l).take k).length ≤ k := by rw [List.length_take]; omega
    refine W_rg fun K hK => (W_text [true, true, false] (by kernel_rfl) ?_); simp only [↓List.toList_toArray, ↓rgd, ↓rgf, ↓reduceIte, Nat.reduceEqDiff, rg, ow_15, eM]
    refine do_call fn_31 (by simp only [evt, evc, upd_eq, Nat.reduceEqDiff, ↓reduceIte, maT, maC, maN, isnN, isnS] <;> rfl) (sload_any m x _ F w' hM (by omega)) ?_
    rintro _ w4 ⟨x4, F', hM4, hF'⟩
    refine ⟨trivial, ?_⟩
    simp only [↓List.toList_toArray, ↓rgd, ↓rgf, ↓reduceIte, Nat.reduceEqDiff, rg, ow_15]
    refine hK _ _ ?_; clear hK K
    have sX := X.size
    show W _ _ _ _ _ _
    have q1 := wadd1 k (by omega)
    refine W_rg fun K hK => (W_text [true, true] (by kernel_rfl) ?_); simp only [↓List.toList_toArray, ↓rgd, ↓rgf, ↓reduceIte, Nat.reduceEqDiff, rg, ow_15, eI, q1]
    refine hK _ _ ?_; clear hK K
    refine ⟨_, ?_, k + 1, rfl, hlt, by simp only [upd_eq, Nat.reduceEqDiff, ↓reduceIte]; exact eS, by simp only [upd_eq, Nat.reduceEqDiff, ↓reduceIte]; exact eL, by simp only [upd_eq, Nat.reduceEqDiff, ↓reduceIte], by simp only [upd_eq, Nat.reduceEqDiff, ↓reduceIte]; exact eM, noF_of X x4 (fun y o hy g => by
      rcases g with g | g
      · have := hF y o g; omega
      · omega), F', by rw [tree_succ (its l) k (toIt x) (its_get hx)]; exact hM4, fun y o g => by
      rcases hF' y o g with g | g
      · exact hF y o g
      · omega⟩
    omega
  · obtain rfl : k = l.length := by omega
    have ht := lt_ff l.length l.length (by omega)
    refine W_sq fun K hK => (W_text [true] (by kernel_rfl) ?_); simp only [↓List.toList_toArray, ↓rgd, ↓rgf, ↓reduceIte, Nat.reduceEqDiff, rg, ow_15, eL, eI, ht]
    refine hK _ _ ?_; clear hK K
    refine W_seq (W_false (by simp only [evt, evc, upd_eq, Nat.reduceEqDiff, ↓reduceIte, ntT, ntF] <;> rfl) (W_exit ?_))
    simp only [andThen_exit, inBlk_exit, andThen_normal, ↓reduceIte]
    have hfull : (its l).take l.length = its l := by rw [← its_length, List.take_length]
    rw [hfull] at hM
    have htl := tree_len (its l)
    rw [its_length] at htl
    refine W_sq fun K hK => (W_text [true, false, true] (by kernel_rfl) ?_); simp only [↓List.toList_toArray, ↓rgd, ↓rgf, ↓reduceIte, Nat.reduceEqDiff, rg, ow_15, eM]
    refine do_call fn_32 (by simp only [evt, evc, upd_eq, Nat.reduceEqDiff, ↓reduceIte, maT, maC, maN, isnN, isnS] <;> rfl) (skeys_any m _ F w' hM (by omega)) ?_
    rintro v w5 ⟨h5, X5⟩
    refine ⟨trivial, ?_⟩
    simp only [↓List.toList_toArray, ↓rgd, ↓rgf, ↓reduceIte, Nat.reduceEqDiff, rg, ow_15]
    refine hK _ _ ?_; clear hK K
    exact W_ret (endQ_1 (by simp only [upd_eq, Nat.reduceEqDiff, ↓reduceIte] <;> rfl) ⟨h5.sl, X.tr X5⟩)
set_option maxHeartbeats 800000 in
set_option maxRecDepth 8000 in
theorem rises_any (l : List Int) (lv : Value) (w : World) (hl : SlN w lv l) (hbig : l.length ≤ 2147483647) :
    CallK Try.prog 12 #[lv] w fun v w' => (∃ b, v = .bool b) ∧ Ext noF w w' := by
  refine calls_of_W [.tmp 2] Try.func12 rfl Try.ntmps12 Try.results12 (by simp) fun e he => ?_
  have e0 : e 0 = lv := he 0 _ rfl
  clear he
  obtain ⟨ka, kc, hkv⟩ := SlV.shape hl
  rw [hkv] at e0
  refine W_sq fun K hK => (W_text [true] (by kernel_rfl) ?_); simp only [↓List.toList_toArray, ↓rgd, ↓rgf, ↓reduceIte, Nat.reduceEqDiff, rg, ow_12]
  refine hK _ _ ?_; clear hK K
  refine W_seq (W_seq ?_)
  refine W_rg fun K hK => (W_text [true] (by kernel_rfl) ?_); simp only [↓List.toList_toArray, ↓rgd, ↓rgf, ↓reduceIte, Nat.reduceEqDiff, rg, ow_12]
  refine hK _ _ ?_; clear hK K
  show W _ _ _ _ _ _
  refine W_block (W_loop (fun mm e w' => ∃ i : Nat, mm = l.length + 1 - i ∧ 1 ≤ i ∧ e 0 = .slice ka l.length kc ∧ e 3 = .int .i64 i ∧ Ext noF w w')
    (l.length + 1 - 1) ⟨1, rfl, Nat.le_refl _, by simp only [upd_eq, Nat.reduceEqDiff, ↓reduceIte]; exact e0, by simp only [upd_eq, Nat.reduceEqDiff, ↓reduceIte] <;> rfl, Ext.refl _ _⟩ ?_)
  clear e0 e
  rintro mm e w' ⟨i, rfl, hi, e0, e3, X⟩
  refine W_seq ?_
  by_cases hlt : i < l.length
  · have ht := lt_tt i l.length hlt
    refine W_sq fun K hK => (W_text [true, true, true, true] (by kernel_rfl) ?_); simp only [↓List.toList_toArray, ↓rgd, ↓rgf, ↓reduceIte, Nat.reduceEqDiff, rg, ow_12, e0, e3, ht]
    refine hK _ _ ?_; clear hK K
    refine W_true (by simp only [evt, evc, upd_eq, Nat.reduceEqDiff, ↓reduceIte, ntT, ntF] <;> rfl) (W_skip ?_)
    show W _ _ _ _ _ _
    obtain ⟨x, hx⟩ : ∃ x, l[i]? = some x := ⟨_, List.getElem?_eq_getElem hlt⟩
    have hlt1 : i - 1 < l.length := by omega
    obtain ⟨y, hy⟩ : ∃ y, l[i - 1]? = some y := ⟨_, List.getElem?_eq_getElem hlt1⟩
    obtain ⟨ib, io, rfl, row⟩ := SlV.at hl hkv hlt
    have ix := nV_at (X.row row fun _ _ h => h) hx
    have iy := nV_at (X.row row fun _ _ h => h) hy
    have q1 := wsub1 i (by omega) (by omega)
    have M1 : readsB (some (some [ib])) ib = true := by simp [readsB]
    refine W_seq (W_block ?_)
    cases hd : decide (x < y) with
    | true =>
      refine W_sq fun K hK => (W_draw (some (some [ib])) none [(0, 0, 0), (0, 1, 0), (0, 2, 0), (0, 3, 0), (0, 4, 0), (0, 5, 0), (0, 6, 0), (0, 7, 0), (0, 8, 0), (0, 9, 0)] mixed (by kernel_rfl) ?_); simp only [↓List.toList_toArray, ↓rgd, ↓rgf, ↓reduceIte, Nat.reduceEqDiff, rg, ow_12, e0, e3, hlt, hlt1, q1, ix, iy, hd, M1]
      refine hK _ _ ?_; clear hK K
      refine W_true (by simp only [evt, evc, upd_eq, Nat.reduceEqDiff, ↓reduceIte, ntT, ntF] <;> rfl) ?_
      refine W_sq fun K hK => (W_text [true] (by kernel_rfl) ?_); simp only [↓List.toList_toArray, ↓rgd, ↓rgf, ↓reduceIte, Nat.reduceEqDiff, rg, ow_12]
      refine hK _ _ ?_; clear hK K
      refine W_ret ?_
      simp only [andThen_ret, inBlk_ret]
      exact endQ_1 (by simp only [upd_eq, Nat.reduceEqDiff, ↓reduceIte] <;> rfl) ⟨⟨_, rfl⟩, X.tr (Ext.dr _ _ _)⟩
    | false =>
      refine W_sq fun K hK => (W_draw (some (some [ib])) none [(0, 0, 0), (0, 1, 0), (0, 2, 0), (0, 3, 0), (0, 4, 0), (0, 5, 0), (0, 6, 0), (0, 7, 0), (0, 8, 0), (0, 9, 0)] mixed (by kernel_rfl) ?_); simp only [↓List.toList_toArray, ↓rgd, ↓rgf, ↓reduceIte, Nat.reduceEqDiff, rg, ow_12, e0, e3, hlt, hlt1, q1, ix, iy, hd, M1]
      refine hK _ _ ?_; clear hK K
      refine W_false (by simp only [evt, evc, upd_eq, Nat.reduceEqDiff, ↓reduceIte, ntT, ntF] <;> rfl) (W_skip ?_)
      show W _ _ _ _ _ _
      have q2 := wadd1 i (by omega)
      refine W_rg fun K hK => (W_text [true, true, true] (by kernel_rfl) ?_); simp only [↓List.toList_toArray, ↓rgd, ↓rgf, ↓reduceIte, Nat.reduceEqDiff, rg, ow_12, e3, q2]
      refine hK _ _ ?_; clear hK K
      refine ⟨_, ?_, i + 1, rfl, by omega, by simp only [upd_eq, Nat.reduceEqDiff, ↓reduceIte]; exact e0, by simp only [upd_eq, Nat.reduceEqDiff, ↓reduceIte], X.tr (Ext.dr _ _ _)⟩
      omega
  · have ht := lt_ff i l.length (by omega)
    refine W_sq fun K hK => (W_text [true, true, true, true] (by kernel_rfl) ?_); simp only [↓List.toList_toArray, ↓rgd, ↓rgf, ↓reduceIte, Nat.reduceEqDiff, rg, ow_12, e0, e3, ht]
    refine hK _ _ ?_; clear hK K
    refine W_false (by simp only [evt, evc, upd_eq, Nat.reduceEqDiff, ↓reduceIte, ntT, ntF] <;> rfl) (W_exit ?_)
    simp only [andThen_exit, inBlk_exit, andThen_normal, ↓reduceIte]
    refine W_sq fun K hK => (W_text [true] (by kernel_rfl) ?_); simp only [↓List.toList_toArray, ↓rgd, ↓rgf, ↓reduceIte, Nat.reduceEqDiff, rg, ow_12]
    refine hK _ _ ?_; clear hK K
    exact W_ret (endQ_1 (by simp only [upd_eq, Nat.reduceEqDiff, ↓reduceIte] <;> rfl) ⟨⟨_, rfl⟩, X⟩)
theorem bs_al : bsV Try.prog 22 3 [(0, .int .i64 5), (1, .int .i64 3), (2, .int .i64 9)] = some (3, flat En [5, 3, 9]) := by kernel_rfl
theorem al_len : ((tree (its [5, 3, 9])).map κ).length = 3 := by decide
set_option maxHeartbeats 800000 in
set_option maxRecDepth 8000 in
theorem aliveS_any (w : World) :
    CallK Try.prog 13 #[] w fun v w' => v = .bool true ∧ Ext noF w w' := by
  refine calls_of_W (args := []) [.tmp 0] Try.func13 rfl Try.ntmps13 Try.results13 (by simp) fun e he => ?_
  clear he
  refine W_sq fun K hK => (W_text [true] (by kernel_rfl) ?_); simp only [↓List.toList_toArray, ↓rgd, ↓rgf, ↓reduceIte, Nat.reduceEqDiff, rg, ow_13]
  refine hK _ _ ?_; clear hK K
  refine W_sq fun K hK => (W_text [false, false, true, true, true] (by kernel_rfl) ?_); simp only [↓List.toList_toArray, ↓rgd, ↓rgf, ↓reduceIte, Nat.reduceEqDiff, rg, ow_13]
  refine do_bsl rfl bs_al fun w1 n1 => ⟨trivial, ?_⟩
  simp only [↓List.toList_toArray, ↓rgd, ↓rgf, ↓reduceIte, Nat.reduceEqDiff, rg, ow_13]
  have h1 : SlN w1 (.slice (some ⟨w.heap.size, 0, none⟩) 3 3) [5, 3, 9] := ⟨rfl, .inr ⟨_, 0, 3, rfl, Nat.le_refl _, n1.row, n1.wok.R (Nat.le_refl _)⟩⟩
  refine do_call fn_16 (by simp only [evt, evc, upd_eq, Nat.reduceEqDiff, ↓reduceIte, maT, maC, maN, isnN, isnS] <;> rfl) (impl_sinsert [5, 3, 9] _ w1 h1 (by decide)) ?_
  rintro v w2 ⟨h2, X2⟩
  obtain ⟨a, c, rfl⟩ := SlV.shape h2
  rw [al_len]
  refine ⟨trivial, ?_⟩
  have t3 : (((3 : Nat) : Int) == 3) = true := rfl
  simp only [↓List.toList_toArray, ↓rgd, ↓rgf, ↓reduceIte, Nat.reduceEqDiff, rg, ow_13, t3]
  refine hK _ _ ?_; clear hK K
  exact W_ret (endQ_1 (by simp only [upd_eq, Nat.reduceEqDiff, ↓reduceIte] <;> rfl) ⟨rfl, n1.ext.tr X2⟩)
end Go.Proofs.Ytjaolgehpnmieaa
/-
  FnSLoads returns true, whatever the arguments. No condition.
-/
set_option linter.unusedSimpArgs false
set_option linter.unusedVariables false
namespace Go.Proofs.Ytjaolgehpnmieaa
open Go Go.Proofs
set_option maxHeartbeats 800000 in
set_option maxRecDepth 8000 in
theorem top_FnSLoads (a0 : List Int) (v0 : Value) (w : World) (g0 : SlN w v0 a0) :
    CallK Try.prog 6 #[v0] w fun v w' => v = .bool true ∧ Ext noF w w' := by
  obtain ⟨p0, c0, hv0⟩ := SlV.shape g0
  refine calls_of_W [.tmp 2] Try.func6 rfl Try.ntmps6 Try.results6 (by simp) fun e he => ?_
  have e0 : e 0 = v0 := he 0 _ rfl
  clear he
  refine W_sq fun K hK => (W_text [true] (by kernel_rfl) ?_); simp only [↓List.toList_toArray, ↓rgd, ↓rgf, ↓reduceIte, Nat.reduceEqDiff, rg, ow_6]
  refine hK _ _ ?_; clear hK K
  refine W_seq ?_
  by_cases hb0 : a0.length ≤ 2147483647
  case neg =>
    have t0 : decide ((2147483647 : Int) < (a0.length : Int)) = true := by simp; omega
    refine W_sq fun K hK => (W_text [true, true, true] (by kernel_rfl) ?_); simp only [↓List.toList_toArray, ↓rgd, ↓rgf, ↓reduceIte, Nat.reduceEqDiff, rg, ow_6, e0, hv0, t0]
    refine hK _ _ ?_; clear hK K
    refine W_true (by simp only [evt, evc, upd_eq, Nat.reduceEqDiff, ↓reduceIte, ntT, ntF] <;> rfl) ?_
    refine W_sq fun K hK => (W_text [true] (by kernel_rfl) ?_); simp only [↓List.toList_toArray, ↓rgd, ↓rgf, ↓reduceIte, Nat.reduceEqDiff, rg, ow_6]
    refine hK _ _ ?_; clear hK K
    refine W_ret ?_
    simp only [andThen_ret]
    exact endQ_1 (by simp only [upd_eq, Nat.reduceEqDiff, ↓reduceIte] <;> rfl) ⟨rfl, Ext.refl _ _⟩
  have t0 : decide ((2147483647 : Int) < (a0.length : Int)) = false := by simp; omega
  refine W_sq fun K hK => (W_text [true, true, true] (by kernel_rfl) ?_); simp only [↓List.toList_toArray, ↓rgd, ↓rgf, ↓reduceIte, Nat.reduceEqDiff, rg, ow_6, e0, hv0, t0]
  refine hK _ _ ?_; clear hK K
  refine W_false (by simp only [evt, evc, upd_eq, Nat.reduceEqDiff, ↓reduceIte, ntT, ntF] <;> rfl) (W_skip ?_)
  show W _ _ _ _ _ _
  have htl := tree_len (its a0)
  rw [its_length] at htl
  refine W_seq ?_
  refine W_sq fun K hK => (W_text [true, false, true] (by kernel_rfl) ?_); simp only [↓List.toList_toArray, ↓rgd, ↓rgf, ↓reduceIte, Nat.reduceEqDiff, rg, ow_6, e0]
  refine do_call fn_12 (by simp only [evt, evc, upd_eq, Nat.reduceEqDiff, ↓reduceIte, maT, maC, maN, isnN, isnS] <;> rfl) (rises_any a0 v0 w g0 hb0) ?_
  rintro _ w1 ⟨⟨b, rfl⟩, X1⟩
  refine ⟨trivial, ?_⟩
  cases b with
  | false =>
    simp only [↓List.toList_toArray, ↓rgd, ↓rgf, ↓reduceIte, Nat.reduceEqDiff, rg, ow_6]
    refine hK _ _ ?_; clear hK K
    refine W_true (by simp only [evt, evc, upd_eq, Nat.reduceEqDiff, ↓reduceIte, ntT, ntF] <;> rfl) ?_
    refine W_sq fun K hK => (W_text [false, true] (by kernel_rfl) ?_); simp only [↓List.toList_toArray, ↓rgd, ↓rgf, ↓reduceIte, Nat.reduceEqDiff, rg, ow_6]
    refine do_call fn_13 (by simp only [evt, evc, upd_eq, Nat.reduceEqDiff, ↓reduceIte, maT, maC, maN, isnN, isnS] <;> rfl) (aliveS_any w1) ?_
    rintro _ w2 ⟨rfl, X2⟩
    refine ⟨trivial, ?_⟩
    simp only [↓List.toList_toArray, ↓rgd, ↓rgf, ↓reduceIte, Nat.reduceEqDiff, rg, ow_6]
    refine hK _ _ ?_; clear hK K
    refine W_ret ?_
    simp only [andThen_ret]
    exact endQ_1 (by simp only [upd_eq, Nat.reduceEqDiff, ↓reduceIte] <;> rfl) ⟨rfl, X1.tr X2⟩
  | true =>
    simp only [↓List.toList_toArray, ↓rgd, ↓rgf, ↓reduceIte, Nat.reduceEqDiff, rg, ow_6]
    refine hK _ _ ?_; clear hK K
    refine W_false (by simp only [evt, evc, upd_eq, Nat.reduceEqDiff, ↓reduceIte, ntT, ntF] <;> rfl) (W_skip ?_)
    show W _ _ _ _ _ _
    refine W_sq fun K hK => (W_text [true, false, true, false, false, true, false, true, true] (by kernel_rfl) ?_); simp only [↓List.toList_toArray, ↓rgd, ↓rgf, ↓reduceIte, Nat.reduceEqDiff, rg, ow_6, e0]
    refine do_call fn_15 (by simp only [evt, evc, upd_eq, Nat.reduceEqDiff, ↓reduceIte, maT, maC, maN, isnN, isnS] <;> rfl) (impl_sload a0 v0 w1 (SlV.ext0 g0 X1) hb0) ?_
    rintro v2 w2 ⟨h2, X2⟩
    refine ⟨trivial, ?_⟩
    simp only [↓List.toList_toArray, ↓rgd, ↓rgf, ↓reduceIte, Nat.reduceEqDiff, rg, ow_6, e0]
    have X12 := X1.tr X2
    refine do_call fn_16 (by simp only [evt, evc, upd_eq, Nat.reduceEqDiff, ↓reduceIte, maT, maC, maN, isnN, isnS] <;> rfl) (impl_sinsert a0 v0 w2 (SlV.ext0 g0 X12) hb0) ?_
    rintro v3 w3 ⟨h3, X3⟩
    refine ⟨trivial, ?_⟩
    simp only [↓List.toList_toArray, ↓rgd, ↓rgf, ↓reduceIte, Nat.reduceEqDiff, rg, ow_6]
    refine do_call fn_14 (by simp only [evt, evc, upd_eq, Nat.reduceEqDiff, ↓reduceIte, maT, maC, maN, isnN, isnS] <;> rfl) (eq_n _ v2 v3 w3 (SlV.ext0 h2 X3) h3 (by rw [List.length_map]; omega)) ?_
    rintro _ w4 ⟨rfl, r4⟩
    refine ⟨trivial, ?_⟩
    simp only [↓List.toList_toArray, ↓rgd, ↓rgf, ↓reduceIte, Nat.reduceEqDiff, rg, ow_6]
    refine do_call fn_13 (by simp only [evt, evc, upd_eq, Nat.reduceEqDiff, ↓reduceIte, maT, maC, maN, isnN, isnS] <;> rfl) (aliveS_any w4) ?_
    rintro _ w5 ⟨rfl, X5⟩
    refine ⟨trivial, ?_⟩
    simp only [↓List.toList_toArray, ↓rgd, ↓rgf, ↓reduceIte, Nat.reduceEqDiff, rg, ow_6]
    refine hK _ _ ?_; clear hK K
    exact W_ret (endQ_1 (by simp only [upd_eq, Nat.reduceEqDiff, ↓reduceIte] <;> rfl) ⟨rfl, ((X12.tr X3).tr r4.ext).tr X5⟩)
end Go.Proofs.Ytjaolgehpnmieaa
/-
  FnSLoads: the whole statement: it returns true whatever the input is, and the arguments read as before. No condition.
-/
set_option linter.unusedSimpArgs false
set_option linter.unusedVariables false
namespace Go.Proofs.Ytjaolgehpnmieaa
open Go Go.Proofs Go.ChangeShapes Go.WideShapes Go.ChangeAt Go.RowKit
set_option maxRecDepth 100000 in
theorem c_FnSLoads (H : Type) (enc : TypeId × Value → H) (W : World) (base : Nat) (args : Array Value) (ds gs : List (DataW H)) (before : List MemPlace)
    (hval : ∀ (j : Nat) t v, Try.f6.params[j]? = some t → args[j]? = some v → Value.okWide Try.prog W .any base t v)
    (hW : DataW.Whole enc Try.prog Try.f6.params.toList Rows.fnSLoadsSpec.vars false W args.toList ds gs before) :
    Calls Try.prog 6 args W fun e W' => ∃ v, e = .returned v ∧ Rows.fnSLoadsSpec.post enc Try.prog Try.f6 false true false false W args v W' := by
  have hW' := hW
  obtain ⟨p, q, hA0, hV, rfl, hfz, hnd⟩ := hW
  have hA : DataW.TrodAll enc Try.prog W 0 (fun _ => true) true Try.f6.params.toList args.toList ds p := hA0
  rw [Try.params6] at hA hval
  obtain ⟨v0, d0, rfl, rfl, h0⟩ := trodAll_one hA
  obtain ⟨rfl, rfl⟩ := trodVars_none hV
  obtain ⟨a0, g0⟩ := open_nums (hval 0 22 v0 rfl rfl) h0 fun b o h => hfz b o (by simp [h])
  exact calls_law laidOut (by rw [Try.params6]; kernel_rfl) rfl hW' rfl rfl rfl (by kernel_rfl) Try.underlying4 (top_FnSLoads a0 v0 W g0)
set_option maxRecDepth 100000 in
theorem l_FnSLoads (os : Os) (started : os.Started) (H : Type) (enc : TypeId × Value → H) :
    ReturnsInHanded {} Try.checked os 6 .any (Rows.fnSLoadsSpec.pre6 enc Try.prog Try.f6 Rows.fnSLoadsRow.domain false) (Rows.fnSLoadsSpec.post enc Try.prog Try.f6 false true false false) := by
  refine returnsInHanded_of_change (C := Try.checked) own started (by kernel_rfl) Try.func6
    (ChangeSpec.witness6 (enc := enc) (C := Try.checked) false ⟨#[], #[.slice none 0 0], []⟩ 8 (by kernel_rfl) (by kernel_rfl) (by kernel_rfl) (by kernel_rfl)) ?_
  intro W base args ds gs before hval hW _ _
  exact c_FnSLoads H enc W base args ds gs before hval hW
theorem h_FnSLoads : Rows.FnSLoadsSaid :=
  OpenClaim.holds_of_wide 6 Try.f6 rfl rfl rfl rfl rfl rfl rfl ⟨rfl, rfl, rfl, rfl, rfl⟩ rfl rfl rfl rfl rfl (by kernel_rfl) Try.func6 (by kernel_rfl)
    (of_decide_eq_true (by kernel_rfl)) (by unfold Func.isWrapper; first | (rw [if_pos (by decide +kernel)]; kernel_rfl) | (rw [if_neg (by decide +kernel)]; exact ⟨rfl, rfl⟩))
    (fun os started H enc _ => l_FnSLoads os started H enc)
#print axioms h_FnSLoads
end Go.Proofs.Ytjaolgehpnmieaa
