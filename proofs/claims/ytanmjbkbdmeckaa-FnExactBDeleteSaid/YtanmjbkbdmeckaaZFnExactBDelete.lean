/-
  FnExactBDelete: the whole statement: it returns true whatever the input is, and the arguments read as before. No condition.
-/
import Derived.Test.YtanmjbkbdmeckaaZa2653eb7
import Derived.Test.YtanmjbkbdmeckaaZA
import Derived.Test.YtanmjbkbdmeckaaZ152d7459
import Derived.Test.YtanmjbkbdmeckaaZ241d692a
/-
  nodeRebalance: right to left. No condition.
-/
set_option linter.unusedSimpArgs false
set_option linter.unusedVariables false
namespace Go.Proofs.Ytanmjbkbdmeckaa
open Go Go.Proofs
set_option maxHeartbeats 4000000 in
set_option maxRecDepth 8000 in
theorem zreb_left (m d b p q bc i0 j cl cr : Nat) (iso cb : Int) (ks ls rs : List (Option It)) (k x : Option It) (ps lp rp : List (Option Nat)) (chl chr : Value) (w0 w : World) (G : Nat → Nat → Prop) (hd : 2 ≤ d) (hd' : d ≤ 128) (hc : Cfg w0 m iso d) (hG : ∀ o, ¬ G m o)
    (s : Ss w0 G w [ndO Ez iso 1 b cb ks (ptr bc), ndO Ez iso 0 p (cl : Nat) ls chl, ndO Ez iso 0 q (cr : Nat) (x :: rs) chr, kdO (ptr bc) ps, kdO chl lp, kdO chr rp]) (hj : (i0 = j ∧ j < ks.length) ∨ (i0 = ks.length ∧ j + 1 = ks.length)) (hkl : ks.length ≤ 2 * d - 1) (hk : ks[j]? = some k) (hps : ps.length = ks.length + 1) (hp : ps[j]? = some (some p)) (hq : ps[j + 1]? = some (some q))
    (hch : (chl = .pointer none ∧ chr = .pointer none ∧ lp = [] ∧ rp = []) ∨ ∃ lc rc, chl = ptr lc ∧ chr = ptr rc ∧ lp.length = ls.length + 1 ∧ rp.length = (x :: rs).length + 1) (hll : ls.length ≤ 2 * d - 1) (hrl : (x :: rs).length ≤ 2 * d - 1) (hcl : cl < 2305843009213693952) (hcr : cr < 2305843009213693952) (hlt : 2 * d - 1 ≤ ls.length + (x :: rs).length) (hgt : ls.length ≤ (x :: rs).length) (cg : Nat) (hcg : 1 + cg ≤ cr) (hcgb : cl + cg < 2305843009213693952) (hg : (rp = [] ∧ cg = 0) ∨ ∃ g rp', rp = some g :: rp' ∧ rd w0 g 1 = some (.int .i64 (cg : Nat)) ∧ ∀ o, ¬ G g o) :
    CallK Try.prog 176 #[ptr m, ptr b, .int .i64 (i0 : Nat)] w fun _ w' => Ss w0 G w' [ndO Ez iso 1 b cb (ks.set j x) (ptr bc), ndO Ez iso 0 p ((cl + 1 + cg : Nat) : Int) (ls ++ [k]) chl, ndO Ez iso 0 q ((cr - 1 - cg : Nat) : Int) rs chr, kdO (ptr bc) ps, kdO chl (lp ++ rp.take 1), kdO chr (rp.drop 1)] := by
  have hjn : j < ks.length := (List.getElem?_eq_some_iff.1 hk).1
  refine calls_of_W [] Try.func176 rfl Try.ntmps176 Try.results176 (by simp) fun e he => ?_
  have e0 : e 0 = ptr m := he 0 _ rfl
  have e1 : e 1 = ptr b := he 1 _ rfl
  have e2 : e 2 = .int .i64 (i0 : Nat) := he 2 _ rfl
  clear he
  refine W_sqx fun J hJ => ?_
  have hend : ∀ e, e 0 = ptr m → e 1 = ptr b → e 2 = .int .i64 j → J e w := by
    clear e0 e1 e2 e
    intro e e0 e1 e2
    refine hJ _ _ ?_; clear hJ J
    obtain ⟨nb, no, nc, on, un, vn⟩ := s.nd 0 rfl
    obtain ⟨xb, xo, xc, ox, ux⟩ := s.kd 3 rfl
    obtain ⟨lb, lo, lq, ol, ul, vl⟩ := s.nd 1 rfl
    obtain ⟨tb, to, tq, ot, ut, vt⟩ := s.nd 2 rfl
    have hiso := (hc.ext s.x fun o _ _ => hG o).iso
    have hjp : j < ps.length := by omega
    refine W_sq fun K hK => (W_text [true, true, true, true, true, true, true, true, true, false, true] (by kernel_rfl) ?_); simp only [↓List.toList_toArray, ↓rgd, ↓rgf, ↓reduceIte, Nat.reduceEqDiff, rg, ow_176, e0, e1, e2, ptr_eq, on.h3, ox.hd, hjp]
    refine do_call fn_121 (by simp only [evt, evc, upd_eq, Nat.reduceEqDiff, ↓reduceIte, maT, maC, maN, isnN, isnS] <;> rfl) (isoLoad_any m xb (xo + j) p true iso _ hiso (ox.ptr_at hp) ol.h0) ?_
    rintro _ w1 ⟨rfl, r1⟩
    refine ⟨trivial, ?_⟩
    simp only [↓List.toList_toArray, ↓rgd, ↓rgf, ↓reduceIte, Nat.reduceEqDiff, rg, ow_176]
    refine hK _ _ ?_; clear hK K
    have X1 : Ext noF w w1 := r1.ext
    have on := on.ext X1 fun _ _ _ g => g
    have ox := ox.ext0 X1
    have ot := ot.ext X1 fun _ _ _ g => g
    have hiso := X1.rd hiso fun g => g
    have q1 := wadd1 j (by omega)
    have hjp : j + 1 < ps.length := by omega
    refine W_sq fun K hK => (W_text [true, true, true, true, true, true, true, true, true, true, false, true] (by kernel_rfl) ?_); simp only [↓List.toList_toArray, ↓rgd, ↓rgf, ↓reduceIte, Nat.reduceEqDiff, rg, ow_176, e0, e1, e2, ptr_eq, on.h3, ox.hd, hjp, q1]
    refine do_call fn_121 (by simp only [evt, evc, upd_eq, Nat.reduceEqDiff, ↓reduceIte, maT, maC, maN, isnN, isnS] <;> rfl) (isoLoad_any m xb (xo + (j + 1)) q true iso _ hiso (ox.ptr_at hq) ot.h0) ?_
    rintro _ w2 ⟨rfl, r2⟩
    refine ⟨trivial, ?_⟩
    simp only [↓List.toList_toArray, ↓rgd, ↓rgf, ↓reduceIte, Nat.reduceEqDiff, rg, ow_176]
    refine hK _ _ ?_; clear hK K
    have s2 := (s.ext0 X1).ext0 r2.ext
    refine W_st s2 (by simp only [upd_eq, Nat.reduceEqDiff, ↓reduceIte]; exact e0) (by simp only [upd_eq, Nat.reduceEqDiff, ↓reduceIte]; exact e1) (by simp only [upd_eq, Nat.reduceEqDiff, ↓reduceIte]; exact e2) (by simp only [upd_eq, Nat.reduceEqDiff, ↓reduceIte] <;> rfl) (by simp only [upd_eq, Nat.reduceEqDiff, ↓reduceIte] <;> rfl) ?_
    clear s s2 e0 e1 e2 on un vn ox ux ol ul vl ot ut vt hiso X1 r1 r2 hjp q1
    clear e; intro e w s e0 e1 e2 e6 e7
    obtain ⟨lb, lo, lq, ol, ul, vl⟩ := s.nd 1 rfl
    obtain ⟨tb, to, tq, ot, ut, vt⟩ := s.nd 2 rfl
    have q1 := wadd ls.length (x :: rs).length (by omega)
    have hmx := (hc.ext s.x fun o _ _ => hG o).mx
    have hb : decide (((ls.length + (x :: rs).length : Nat) : Int) < ((2 * d - 1 : Nat) : Int)) = false := by simp only [decide_eq_false_iff_not]; omega
    refine W_sq fun K hK => (W_draw (some none) none [(0, 0, 0), (0, 1, 0), (0, 2, 0), (0, 3, 0), (0, 4, 0), (0, 5, 0), (0, 6, 0), (0, 7, 0), (0, 8, 0), (0, 9, 0), (0, 10, 0), (0, 11, 0), (0, 12, 0), (0, 13, 0), (0, 14, 0), (0, 15, 0)] mixed (by kernel_rfl) ?_); simp only [↓List.toList_toArray, ↓rgd, ↓rgf, ↓reduceIte, Nat.reduceEqDiff, rg, ow_176, e0, e6, e7, ptr_eq, ol.h2, ot.h2, q1, hmx, hb]
    refine hK _ _ ?_; clear hK K
    refine W_false (by simp only [evt, evc, upd_eq, Nat.reduceEqDiff, ↓reduceIte, ntT, ntF] <;> rfl) ?_
    have hb2 : decide (((x :: rs).length : Int) < (ls.length : Int)) = false := by simp only [decide_eq_false_iff_not]; omega
    refine W_sq fun K hK => (W_draw (some none) none [(0, 0, 0), (0, 1, 0), (0, 2, 0), (0, 3, 0), (0, 4, 0), (0, 5, 0), (0, 6, 0), (0, 7, 0), (0, 8, 0), (0, 9, 0), (0, 10, 0)] mixed (by kernel_rfl) ?_); simp only [↓List.toList_toArray, ↓rgd, ↓rgf, ↓reduceIte, Nat.reduceEqDiff, rg, ow_176, e0, e6, e7, ptr_eq, ol.h2, ot.h2, hb2]
    refine hK _ _ ?_; clear hK K
    refine W_false (by simp only [evt, evc, upd_eq, Nat.reduceEqDiff, ↓reduceIte, ntT, ntF] <;> rfl) ?_
    refine W_st (s.ext0 (Ext.dr noF w _)) (by simp only [upd_eq, Nat.reduceEqDiff, ↓reduceIte]; exact e0) (by simp only [upd_eq, Nat.reduceEqDiff, ↓reduceIte]; exact e1) (by simp only [upd_eq, Nat.reduceEqDiff, ↓reduceIte]; exact e2) (by simp only [upd_eq, Nat.reduceEqDiff, ↓reduceIte]; exact e6) (by simp only [upd_eq, Nat.reduceEqDiff, ↓reduceIte]; exact e7) ?_
    clear s e0 e1 e2 e6 e7 ol ul vl ot ut vt q1 hmx hb hb2
    clear e; intro e w s e0 e1 e2 e6 e7
    obtain ⟨n0, hn0⟩ : ∃ n0, n0 = rs.length + 1 := ⟨_, rfl⟩
    have hnl : (x :: rs).length = n0 := by simp [hn0]
    obtain ⟨lb, lo, lq, ol, ul, vl⟩ := s.nd 1 rfl
    obtain ⟨nb, no, nq, on, un, vn⟩ := s.nd 0 rfl
    have hkv := itz_at on.row hk
    have hb_p := wok_lt ol.wb
    have L0 := on1_0 p
    refine W_sq fun K hK => (W_semi (some (some [p])) (.take false 0 (.take false 1 (.take false 2 (.take false 3 (.take false 4 (.take false 5 (.take false 6 (.take false 7 (.take true 8 (.take false 9 (.take false 10 (.take true 11 (.act 12 (.bar 13 (.take false 14 (.take false 15 (.bar 16 .nil))))))))))))))))) mixed (by kernel_rfl) ?_); simp only [↓rgm, ↓List.toList_toArray, ↓rgd, ↓rgf, ↓reduceIte, Nat.reduceEqDiff, rg, ow_176, e0, e1, e2, e6, e7, ptr_eq, ol.h2, on.h2, hjn, hkv, L0, rB_on]
    refine do_bsl rfl (rb_k k) fun w1 n1 => ⟨.inr (n1.keep _ (lt1 hb_p)), ?_⟩
    simp only [↓List.toList_toArray, ↓rgd, ↓rgf, ↓reduceIte, Nat.reduceEqDiff, rg, ow_176, ↓rgm]
    have n1 := n1.od
    have a1 := ol.se.ext0 n1.ext
    refine do_append (by simp only [evt, evc, upd_eq, Nat.reduceEqDiff, ↓reduceIte, ntT, ntF] <;> rfl) (by simp only [evt, evc, upd_eq, Nat.reduceEqDiff, ↓reduceIte, ntT, ntF] <;> rfl) rb_eli rfl ni_140 a1.slV (u := .slice (some ⟨w.heap.size, 0, none⟩) 1 1) (m := 1) (l' := Ez.cel k) ⟨rfl, .inr ⟨_, 0, 1, rfl, Nat.le_refl _, n1.row, n1.wok.R (Nat.le_refl _)⟩⟩ (by omega) (by decide) (Ez.one _) fun v2 w2 a2 => ⟨trivial, ?_⟩
    obtain ⟨gb, go, gc, rfl, wk2, -, nx⟩ := a1.app' (ls := [k]) rfl (by rw [flat_one]; exact a2)
    simp only [↓List.toList_toArray, ↓rgd, ↓rgf, ↓reduceIte, Nat.reduceEqDiff, rg, ow_176, ↓rgm]
    refine do_store (by simp only [evt, evc, upd_eq, Nat.reduceEqDiff, ↓reduceIte, ntT, ntF] <;> rfl) (by simp only [evt, evc, upd_eq, Nat.reduceEqDiff, ↓reduceIte, ntT, ntF] <;> rfl) sz_140 rfl wk2 (by decide) (oc_one rfl rfl) fun w3 x3 r3 s3 => ⟨trivial, ?_⟩
    simp only [↓List.toList_toArray, ↓rgd, ↓rgf, ↓reduceIte, Nat.reduceEqDiff, rg, ow_176, ↓rgm]
    refine hK _ _ ?_; clear hK K
    obtain ⟨g1, g2, g3⟩ := nx w3 x3 (Row.cons.1 r3).1
    have s2 : Ss w0 G w3 [ndO Ez iso 1 b cb ks (ptr bc), ndO Ez iso 0 p (cl : Nat) (ls ++ [k]) chl, ndO Ez iso 0 q (cr : Nat) (x :: rs) chr, kdO (ptr bc) ps, kdO chl lp, kdO chr rp] := ul g1 (n1.ext.trans g2 (fun _ _ h => h.elim) fun _ _ _ h => h) (g3.imp id fun h => ⟨(by have := n1.size; omega), Nat.zero_le _⟩)
    refine W_st s2 (by simp only [upd_eq, Nat.reduceEqDiff, ↓reduceIte]; exact e0) (by simp only [upd_eq, Nat.reduceEqDiff, ↓reduceIte]; exact e1) (by simp only [upd_eq, Nat.reduceEqDiff, ↓reduceIte]; exact e2) (by simp only [upd_eq, Nat.reduceEqDiff, ↓reduceIte]; exact e6) (by simp only [upd_eq, Nat.reduceEqDiff, ↓reduceIte]; exact e7) ?_
    clear s s2 e0 e1 e2 e6 e7 ol ul vl on un vn wk2 nx x3 r3 s3 g1 g2 g3 hkv hb_p n1 a1 a2 L0
    clear e; intro e w s e0 e1 e2 e6 e7
    obtain ⟨lb, lo, lq, ol, ul, vl⟩ := s.nd 1 rfl
    have q1 := wadd1 cl (by omega)
    refine W_sq fun K hK => (W_text [true, true, true, true, true, true, true, false] (by kernel_rfl) ?_); simp only [↓List.toList_toArray, ↓rgd, ↓rgf, ↓reduceIte, Nat.reduceEqDiff, rg, ow_176, e0, e1, e2, e6, e7, ptr_eq, ol.h1, q1]
    refine do_store (by simp only [evt, evc, upd_eq, Nat.reduceEqDiff, ↓reduceIte, ntT, ntF] <;> rfl) (by simp only [evt, evc, upd_eq, Nat.reduceEqDiff, ↓reduceIte, ntT, ntF] <;> rfl) sz_3 rfl ol.wb (by decide) (oc_one rfl rfl) fun w3 x3 r3 s3 => ⟨(by first | exact trivial | exact .inl trivial), ?_⟩
    simp only [↓List.toList_toArray, ↓rgd, ↓rgf, ↓reduceIte, Nat.reduceEqDiff, rg, ow_176, ↓rgm]
    refine hK _ _ ?_; clear hK K
    have s2 : Ss w0 G w3 [ndO Ez iso 1 b cb ks (ptr bc), ndO Ez iso 0 p ((cl + 1 : Nat) : Int) (ls ++ [k]) chl, ndO Ez iso 0 q (cr : Nat) (x :: rs) chr, kdO (ptr bc) ps, kdO chl lp, kdO chr rp] := vl x3 (Row.cons.1 r3).1
    refine W_st s2 (by simp only [upd_eq, Nat.reduceEqDiff, ↓reduceIte]; exact e0) (by simp only [upd_eq, Nat.reduceEqDiff, ↓reduceIte]; exact e1) (by simp only [upd_eq, Nat.reduceEqDiff, ↓reduceIte]; exact e2) (by simp only [upd_eq, Nat.reduceEqDiff, ↓reduceIte]; exact e6) (by simp only [upd_eq, Nat.reduceEqDiff, ↓reduceIte]; exact e7) ?_
    clear s s2 e0 e1 e2 e6 e7 ol ul vl x3 r3 s3  q1
    clear e; intro e w s e0 e1 e2 e6 e7
    obtain ⟨nb, no, nq, on, un, vn⟩ := s.nd 0 rfl
    obtain ⟨tb, to, tq, ot, ut, vt⟩ := s.nd 2 rfl
    have hl0 : 0 < (x :: rs).length := by omega
    have i0 := ix0 1 tb to (x :: rs).length hl0
    have hxv := itz_at ot.row (i := 0) (x := x) rfl
    simp only [Nat.zero_mul, Nat.add_zero] at hxv
    refine W_sq fun K hK => (W_draw (some none) (some 12) [(0, 0, 0), (0, 1, 0), (0, 2, 0), (0, 3, 0), (0, 4, 0), (0, 5, 0), (0, 6, 0), (0, 7, 0), (0, 8, 0), (0, 9, 0), (0, 10, 0), (0, 11, 0), (1, 12, 0)] mixed (by kernel_rfl) ?_); simp only [↓List.toList_toArray, ↓rgd, ↓rgf, ↓reduceIte, Nat.reduceEqDiff, rg, ow_176, e0, e1, e2, e6, e7, ptr_eq, on.h2, ot.h2, hjn, hxv, i0]
    refine do_store (by simp only [evt, evc, upd_eq, Nat.reduceEqDiff, ↓reduceIte, ntT, ntF] <;> rfl) (by simp only [evt, evc, upd_eq, Nat.reduceEqDiff, ↓reduceIte, ntT, ntF] <;> rfl) sz_20 (rb_len x) on.se.wi (by have := on.se.le; rw [Ez_sz]; skip; omega) (rb_oc x) fun w3 x3 r3 s3 => ⟨(by first | exact trivial | exact .inl trivial), ?_⟩
    simp only [↓List.toList_toArray, ↓rgd, ↓rgf, ↓reduceIte, Nat.reduceEqDiff, rg, ow_176, ↓rgm]
    refine hK _ _ ?_; clear hK K
    obtain ⟨g1, g2⟩ := on.se.set (i := j) (x := x) (hjn) (by simp only [Ez_sz, Nat.mul_one]; exact x3.od) (by simp only [Ez_sz, Nat.mul_one]; first | exact r3 | exact (rb_cel _) ▸ r3)
    skip
    have s2 : Ss w0 G w3 [ndO Ez iso 1 b cb (ks.set j x) (ptr bc), ndO Ez iso 0 p ((cl + 1 : Nat) : Int) (ls ++ [k]) chl, ndO Ez iso 0 q (cr : Nat) (x :: rs) chr, kdO (ptr bc) ps, kdO chl lp, kdO chr rp] := un g1 g2 (.inl ⟨rfl, rfl, rfl⟩)
    refine W_st s2 (by simp only [upd_eq, Nat.reduceEqDiff, ↓reduceIte]; exact e0) (by simp only [upd_eq, Nat.reduceEqDiff, ↓reduceIte]; exact e1) (by simp only [upd_eq, Nat.reduceEqDiff, ↓reduceIte]; exact e2) (by simp only [upd_eq, Nat.reduceEqDiff, ↓reduceIte]; exact e6) (by simp only [upd_eq, Nat.reduceEqDiff, ↓reduceIte]; exact e7) ?_
    clear s s2 e0 e1 e2 e6 e7 on un vn ot ut vt x3 r3 s3 g1 g2 hxv hl0 i0
    clear e; intro e w s e0 e1 e2 e6 e7
    obtain ⟨tb, to, tq, ot, ut, vt⟩ := s.nd 2 rfl
    have hil : 0 < (x :: rs).length := by simp
    have hic := ot.se.le
    obtain ⟨o2, h2, -, v2, -⟩ := ot.se.from Ez_sz 1 (by omega)
    have i2 : 1 ≤ (x :: rs).length := by omega
    have h3 : slcX (some 1) (.slice (some ⟨tb, to, none⟩) (x :: rs).length tq) (some (.int .i64 1)) none none = some (slFrom tb to 1 1 (x :: rs).length tq) := slcX_lo _ _ _ _ _ 1 _ i2
    refine W_sq fun K hK => (W_draw (some none) (some 9) [(0, 0, 0), (0, 1, 0), (0, 2, 0), (0, 3, 0), (0, 4, 0), (0, 5, 0), (0, 6, 0), (0, 7, 0), (0, 8, 0), (1, 9, 0)] mixed (by kernel_rfl) ?_); simp only [↓List.toList_toArray, ↓rgd, ↓rgf, ↓reduceIte, Nat.reduceEqDiff, rg, ow_176, e0, e1, e2, e6, e7, ptr_eq, ot.h2, h3, i2, h2]
    refine do_copy (by simp only [evt, evc, upd_eq, Nat.reduceEqDiff, ↓reduceIte, ntT, ntF] <;> rfl) (by simp only [evt, evc, upd_eq, Nat.reduceEqDiff, ↓reduceIte, ntT, ntF] <;> rfl) rb_eli (SlV.ext0 v2 (Ext.dr noF w (w.drawn + 1))) ((Ext.dr noF w (w.drawn + 1)).wok (ot.se.wi.mono (by rw [Ez_sz]; omega))) (flat_oc Ez _) fun w3 x3 r3 s3 => ⟨(by first | exact trivial | exact .inl trivial), ?_⟩
    simp only [↓List.toList_toArray, ↓rgd, ↓rgf, ↓reduceIte, Nat.reduceEqDiff, rg, ow_176, ↓rgm]
    refine hK _ _ ?_; clear hK K
    have hm : min ((x :: rs).length - 1) ((x :: rs).length) = (x :: rs).length - 1 - 0 := by omega
    rw [hm] at x3 r3
    rw [List.take_of_length_le (by rw [flat_length, List.length_drop, Ez_sz]; omega)] at r3
    obtain ⟨z, g1, g2⟩ := ot.se.down (i := 0) hil (by rw [Nat.zero_mul, Nat.add_zero]; exact x3.od) (by rw [Nat.zero_mul, Nat.add_zero]; first | exact r3 | exact (rb_cel _) ▸ r3)
    have s2 : Ss w0 G w3 [ndO Ez iso 1 b cb (ks.set j x) (ptr bc), ndO Ez iso 0 p ((cl + 1 : Nat) : Int) (ls ++ [k]) chl, ndO Ez iso 0 q (cr : Nat) (rs ++ [z]) chr, kdO (ptr bc) ps, kdO chl lp, kdO chr rp] := ut g1 g2 (.inl ⟨rfl, rfl, rfl⟩)
    refine W_st s2 (by simp only [upd_eq, Nat.reduceEqDiff, ↓reduceIte]; exact e0) (by simp only [upd_eq, Nat.reduceEqDiff, ↓reduceIte]; exact e1) (by simp only [upd_eq, Nat.reduceEqDiff, ↓reduceIte]; exact e2) (by simp only [upd_eq, Nat.reduceEqDiff, ↓reduceIte]; exact e6) (by simp only [upd_eq, Nat.reduceEqDiff, ↓reduceIte]; exact e7) ?_
    clear s s2 e0 e1 e2 e6 e7 ot ut vt x3 r3 s3 g1 g2 hm hil hic v2 h2 i2   h3
    clear e; intro e w s e0 e1 e2 e6 e7
    obtain ⟨tb, to, tq, ot, ut, vt⟩ := s.nd 2 rfl
    have hA : (rs ++ [z]).length = n0 := by rw [List.length_append, List.length_singleton]; skip; omega
    have h2 := ot.se.hd
    rw [hA] at h2
    have q1 := wsub1 (n0) (by omega) (by omega)
    have hi : n0 - 1 < n0 := by omega
    have z4 := zIt_at (hc.ext s.x fun o _ _ => hG o)
    refine W_sq fun K hK => (W_draw (some none) (some 15) [(0, 0, 0), (0, 1, 0), (0, 2, 0), (0, 3, 0), (0, 4, 0), (0, 5, 0), (0, 6, 0), (0, 7, 0), (0, 8, 0), (0, 9, 0), (0, 10, 0), (0, 11, 0), (0, 12, 0), (0, 13, 0), (0, 14, 0), (1, 15, 0)] mixed (by kernel_rfl) ?_); simp only [↓List.toList_toArray, ↓rgd, ↓rgf, ↓reduceIte, Nat.reduceEqDiff, rg, ow_176, e0, e1, e2, e6, e7, ptr_eq, h2, q1, hi, z4]
    refine do_store (by simp only [evt, evc, upd_eq, Nat.reduceEqDiff, ↓reduceIte, ntT, ntF] <;> rfl) (by simp only [evt, evc, upd_eq, Nat.reduceEqDiff, ↓reduceIte, ntT, ntF] <;> rfl) sz_20 (rb_len none) ot.se.wi (by have := ot.se.le; rw [Ez_sz]; rw [hA] at this; omega) (rb_oc none) fun w3 x3 r3 s3 => ⟨(by first | exact trivial | exact .inl trivial), ?_⟩
    simp only [↓List.toList_toArray, ↓rgd, ↓rgf, ↓reduceIte, Nat.reduceEqDiff, rg, ow_176, ↓rgm]
    refine hK _ _ ?_; clear hK K
    obtain ⟨g1, g2⟩ := ot.se.set (i := n0 - 1) (x := none) (by rw [hA]; omega) (by simp only [Ez_sz, Nat.mul_one]; exact x3.od) (by simp only [Ez_sz, Nat.mul_one]; first | exact r3 | exact (rb_cel _) ▸ r3)
    have hs : (rs ++ [z]).set (n0 - 1) none = rs ++ [none] := by rw [show n0 - 1 = (rs).length by skip; omega]; exact set_last
    rw [hs] at g1
    have s2 : Ss w0 G w3 [ndO Ez iso 1 b cb (ks.set j x) (ptr bc), ndO Ez iso 0 p ((cl + 1 : Nat) : Int) (ls ++ [k]) chl, ndO Ez iso 0 q (cr : Nat) (rs ++ [none]) chr, kdO (ptr bc) ps, kdO chl lp, kdO chr rp] := ut g1 g2 (.inl ⟨rfl, rfl, rfl⟩)
    refine W_st s2 (by simp only [upd_eq, Nat.reduceEqDiff, ↓reduceIte]; exact e0) (by simp only [upd_eq, Nat.reduceEqDiff, ↓reduceIte]; exact e1) (by simp only [upd_eq, Nat.reduceEqDiff, ↓reduceIte]; exact e2) (by simp only [upd_eq, Nat.reduceEqDiff, ↓reduceIte]; exact e6) (by simp only [upd_eq, Nat.reduceEqDiff, ↓reduceIte]; exact e7) ?_
    clear s s2 e0 e1 e2 e6 e7 ot ut vt x3 r3 s3 g1 g2 hA h2 q1 hi z4 hs
    clear e; intro e w s e0 e1 e2 e6 e7
    obtain ⟨tb, to, tq, ot, ut, vt⟩ := s.nd 2 rfl
    have hA : (rs ++ [none]).length = n0 := by rw [List.length_append, List.length_singleton]; skip; omega
    have h2 := ot.se.hd
    have h4 := ot.se.le
    rw [hA] at h2 h4
    have q1 := wsub1 (n0) (by omega) (by omega)
    have hi : n0 - 1 ≤ tq := by omega
    refine W_sq fun K hK => (W_draw (some none) (some 14) [(0, 0, 0), (0, 1, 0), (0, 2, 0), (0, 3, 0), (0, 4, 0), (0, 5, 0), (0, 6, 0), (0, 7, 0), (0, 8, 0), (0, 9, 0), (0, 10, 0), (0, 11, 0), (0, 12, 0), (0, 13, 0), (1, 14, 0)] mixed (by kernel_rfl) ?_); simp only [↓List.toList_toArray, ↓rgd, ↓rgf, ↓reduceIte, Nat.reduceEqDiff, rg, ow_176, e0, e1, e2, e6, e7, ptr_eq, h2, q1, hi]
    refine do_store (by simp only [evt, evc, upd_eq, Nat.reduceEqDiff, ↓reduceIte, ntT, ntF] <;> rfl) (by simp only [evt, evc, upd_eq, Nat.reduceEqDiff, ↓reduceIte, ntT, ntF] <;> rfl) sz_140 rfl ot.se.hok (by decide) (oc_one rfl rfl) fun w3 x3 r3 s3 => ⟨(by first | exact trivial | exact .inl trivial), ?_⟩
    simp only [↓List.toList_toArray, ↓rgd, ↓rgf, ↓reduceIte, Nat.reduceEqDiff, rg, ow_176, ↓rgm]
    refine hK _ _ ?_; clear hK K
    obtain ⟨g1, g2⟩ := ot.se.cut x3.od (by rw [show (rs).length = n0 - 1 by skip; omega]; exact (Row.cons.1 r3).1)
    have s2 : Ss w0 G w3 [ndO Ez iso 1 b cb (ks.set j x) (ptr bc), ndO Ez iso 0 p ((cl + 1 : Nat) : Int) (ls ++ [k]) chl, ndO Ez iso 0 q (cr : Nat) rs chr, kdO (ptr bc) ps, kdO chl lp, kdO chr rp] := ut g1 g2 (.inl ⟨rfl, rfl, rfl⟩)
    refine W_st s2 (by simp only [upd_eq, Nat.reduceEqDiff, ↓reduceIte]; exact e0) (by simp only [upd_eq, Nat.reduceEqDiff, ↓reduceIte]; exact e1) (by simp only [upd_eq, Nat.reduceEqDiff, ↓reduceIte]; exact e2) (by simp only [upd_eq, Nat.reduceEqDiff, ↓reduceIte]; exact e6) (by simp only [upd_eq, Nat.reduceEqDiff, ↓reduceIte]; exact e7) ?_
    clear s s2 e0 e1 e2 e6 e7 ot ut vt x3 r3 s3 g1 g2 hA h2 h4 q1 hi
    clear e; intro e w s e0 e1 e2 e6 e7
    obtain ⟨tb, to, tq, ot, ut, vt⟩ := s.nd 2 rfl
    have q1 := wsub1 cr (by omega) (by omega)
    refine W_sq fun K hK => (W_text [true, true, true, true, true, true, true, false] (by kernel_rfl) ?_); simp only [↓List.toList_toArray, ↓rgd, ↓rgf, ↓reduceIte, Nat.reduceEqDiff, rg, ow_176, e0, e1, e2, e6, e7, ptr_eq, ot.h1, q1]
    refine do_store (by simp only [evt, evc, upd_eq, Nat.reduceEqDiff, ↓reduceIte, ntT, ntF] <;> rfl) (by simp only [evt, evc, upd_eq, Nat.reduceEqDiff, ↓reduceIte, ntT, ntF] <;> rfl) sz_3 rfl ot.wb (by decide) (oc_one rfl rfl) fun w3 x3 r3 s3 => ⟨(by first | exact trivial | exact .inl trivial), ?_⟩
    simp only [↓List.toList_toArray, ↓rgd, ↓rgf, ↓reduceIte, Nat.reduceEqDiff, rg, ow_176, ↓rgm]
    refine hK _ _ ?_; clear hK K
    have s2 : Ss w0 G w3 [ndO Ez iso 1 b cb (ks.set j x) (ptr bc), ndO Ez iso 0 p ((cl + 1 : Nat) : Int) (ls ++ [k]) chl, ndO Ez iso 0 q ((cr - 1 : Nat) : Int) rs chr, kdO (ptr bc) ps, kdO chl lp, kdO chr rp] := vt x3 (Row.cons.1 r3).1
    refine W_st s2 (by simp only [upd_eq, Nat.reduceEqDiff, ↓reduceIte]; exact e0) (by simp only [upd_eq, Nat.reduceEqDiff, ↓reduceIte]; exact e1) (by simp only [upd_eq, Nat.reduceEqDiff, ↓reduceIte]; exact e2) (by simp only [upd_eq, Nat.reduceEqDiff, ↓reduceIte]; exact e6) (by simp only [upd_eq, Nat.reduceEqDiff, ↓reduceIte]; exact e7) ?_
    clear s s2 e0 e1 e2 e6 e7 ot ut vt x3 r3 s3  q1
    clear e; intro e w s e0 e1 e2 e6 e7
    obtain ⟨lb, lo, lq, ol, ul, vl⟩ := s.nd 1 rfl
    rcases hch with ⟨rfl, rfl, rfl, rfl⟩ | ⟨lc, rc, rfl, rfl, hlp, hrp⟩
    · refine W_sq fun K hK => (W_text [true, false, true] (by kernel_rfl) ?_); simp only [↓List.toList_toArray, ↓rgd, ↓rgf, ↓reduceIte, Nat.reduceEqDiff, rg, ow_176, e6]
      refine do_call fn_122 (by simp only [evt, evc, upd_eq, Nat.reduceEqDiff, ↓reduceIte, maT, maC, maN, isnN, isnS] <;> rfl) (leaf_any p none w ol.h3) ?_
      rintro _ w1 ⟨rfl, hw1⟩
      obtain rfl : w = w1 := hw1.symm
      refine ⟨trivial, ?_⟩
      simp only [↓List.toList_toArray, ↓rgd, ↓rgf, ↓reduceIte, Nat.reduceEqDiff, rg, ow_176]
      refine hK _ _ ?_; clear hK K
      refine W_false (by simp only [evt, evc, upd_eq, Nat.reduceEqDiff, ↓reduceIte, ntT, ntF] <;> rfl) (W_skip ?_)
      show endQ _ _ _ _ _ _
      refine endQ_0n ?_
      obtain rfl : cg = 0 := by
        rcases hg with ⟨_, h⟩ | ⟨g, rp', h, _⟩
        · exact h
        · cases h
      exact s
    · refine W_sq fun K hK => (W_text [true, false, true] (by kernel_rfl) ?_); simp only [↓List.toList_toArray, ↓rgd, ↓rgf, ↓reduceIte, Nat.reduceEqDiff, rg, ow_176, e6]
      refine do_call fn_122 (by simp only [evt, evc, upd_eq, Nat.reduceEqDiff, ↓reduceIte, maT, maC, maN, isnN, isnS] <;> rfl) (leaf_any p (some ⟨lc, 0, none⟩) w ol.h3) ?_
      rintro _ w1 ⟨rfl, hw1⟩
      obtain rfl : w = w1 := hw1.symm
      refine ⟨trivial, ?_⟩
      simp only [↓List.toList_toArray, ↓rgd, ↓rgf, ↓reduceIte, Nat.reduceEqDiff, rg, ow_176]
      refine hK _ _ ?_; clear hK K
      refine W_true (by simp only [evt, evc, upd_eq, Nat.reduceEqDiff, ↓reduceIte, ntT, ntF] <;> rfl) ?_
      refine W_st s (by simp only [upd_eq, Nat.reduceEqDiff, ↓reduceIte]; exact e0) (by simp only [upd_eq, Nat.reduceEqDiff, ↓reduceIte]; exact e1) (by simp only [upd_eq, Nat.reduceEqDiff, ↓reduceIte]; exact e2) (by simp only [upd_eq, Nat.reduceEqDiff, ↓reduceIte]; exact e6) (by simp only [upd_eq, Nat.reduceEqDiff, ↓reduceIte]; exact e7) ?_
      clear s e0 e1 e2 e6 e7 ol ul vl
      clear e; intro e w s e0 e1 e2 e6 e7
      obtain ⟨g, rp', rfl, hgc, hgG⟩ : ∃ g rp', rp = some g :: rp' ∧ rd w0 g 1 = some (.int .i64 (cg : Nat)) ∧ ∀ o, ¬ G g o := by
        rcases hg with ⟨h, _⟩ | h
        · rw [h] at hrp; cases hrp
        · exact h
      obtain ⟨n2, hn2⟩ : ∃ n2, n2 = rp'.length + 1 := ⟨_, rfl⟩
      have hnk : (some g :: rp').length = n2 := by simp [hn2]
      have hlp0 : lp.length ≤ 2 * d := by omega
      have hlp1 : 0 < lp.length := by omega
      have hn2b : n2 ≤ 2 * d := by omega
      clear hlp hrp hll hrl hgt hlt hnl
      obtain ⟨lb, lo, lq, ol, ul, vl⟩ := s.nd 1 rfl
      obtain ⟨yb, yo, yq, oy, uy, fn, fk⟩ := s.kdx 4 rfl (by omega)
      obtain ⟨tb, to, tq, ot, ut, vt⟩ := s.nd 2 rfl
      obtain ⟨zb, zo, zq, oz, uz⟩ := s.kd 5 rfl
      have hb_p := wok_lt ol.wb
      have hb_lc := wok_lt oy.hok
      have hgv := oz.ptr_at (j := 0) (p := g) rfl
      rw [Nat.add_zero] at hgv
      have hl0 : 0 < (some g :: rp').length := by omega
      have i0 := ix0 1 zb zo (some g :: rp').length hl0
      have L0 := on2_0 p lc
      have L1 := on2_1 p lc
      refine W_sq fun K hK => (W_semi (some (some [p, lc])) (.take false 0 (.take false 1 (.take false 2 (.take false 3 (.take false 4 (.take false 5 (.take false 6 (.take false 7 (.take false 8 (.take false 9 (.take false 10 (.take false 11 (.take false 12 (.take true 13 (.take false 14 (.take true 15 (.take false 16 (.take true 17 (.act 18 (.act 19 (.take false 20 (.bar 21 .nil)))))))))))))))))))))) mixed (by kernel_rfl) ?_); simp only [↓rgm, ↓List.toList_toArray, ↓rgd, ↓rgf, ↓reduceIte, Nat.reduceEqDiff, rg, ow_176, e0, e1, e2, e6, e7, ptr_eq, ol.h3, oy.hd, ot.h3, oz.hd, i0, hgv, L0, L1, rB_on]
      refine do_bsl rfl (rb_o (some ⟨g, 0, none⟩)) fun w1 n1 => ⟨.inr (n1.keep _ (lt2 hb_p hb_lc)), ?_⟩
      simp only [↓List.toList_toArray, ↓rgd, ↓rgf, ↓reduceIte, Nat.reduceEqDiff, rg, ow_176, ↓rgm]
      have n1 := n1.od
      have a1 := oy.ext0 n1.ext
      refine do_append (by simp only [evt, evc, upd_eq, Nat.reduceEqDiff, ↓reduceIte, ntT, ntF] <;> rfl) (by simp only [evt, evc, upd_eq, Nat.reduceEqDiff, ↓reduceIte, ntT, ntF] <;> rfl) rb_elk rfl ni_144 a1.slV (u := .slice (some ⟨w.heap.size, 0, none⟩) 1 1) (m := 1) (l' := Eo.cel (some g)) ⟨rfl, .inr ⟨_, 0, 1, rfl, Nat.le_refl _, n1.row, n1.wok.R (Nat.le_refl _)⟩⟩ (by omega) (by decide) (Eo.one _) fun v2 w2 a2 => ⟨.inr (app_keep a2 _ (fkeep2 ⟨wok_lt (n1.ext.wok ol.wb), fn 1 (by decide) rfl⟩ ⟨wok_lt (n1.ext.wok oy.hok), oy.ne.symm⟩)), ?_⟩
      obtain ⟨gb, go, gc, rfl, wk2, -, nx⟩ := a1.app' (ls := [(some g)]) rfl (by rw [flat_one]; exact a2)
      simp only [↓List.toList_toArray, ↓rgd, ↓rgf, ↓reduceIte, Nat.reduceEqDiff, rg, ow_176, ↓rgm]
      refine do_store (by simp only [evt, evc, upd_eq, Nat.reduceEqDiff, ↓reduceIte, ntT, ntF] <;> rfl) (by simp only [evt, evc, upd_eq, Nat.reduceEqDiff, ↓reduceIte, ntT, ntF] <;> rfl) sz_144 rfl wk2 (by decide) (oc_one rfl rfl) fun w3 x3 r3 s3 => ⟨trivial, ?_⟩
      simp only [↓List.toList_toArray, ↓rgd, ↓rgf, ↓reduceIte, Nat.reduceEqDiff, rg, ow_176, ↓rgm]
      refine hK _ _ ?_; clear hK K
      obtain ⟨g1, g2, g3⟩ := nx w3 x3 (Row.cons.1 r3).1
      have s2 : Ss w0 G w3 [ndO Ez iso 1 b cb (ks.set j x) (ptr bc), ndO Ez iso 0 p ((cl + 1 : Nat) : Int) (ls ++ [k]) (ptr lc), ndO Ez iso 0 q ((cr - 1 : Nat) : Int) rs (ptr rc), kdO (ptr bc) ps, kdO (ptr lc) (lp ++ [(some g)]), kdO (ptr rc) (some g :: rp')] := uy g1 (n1.ext.trans g2 (fun _ _ h => h.elim) fun _ _ _ h => h) (g3.imp id fun h => (by have := n1.size; omega))
      refine W_st s2 (by simp only [upd_eq, Nat.reduceEqDiff, ↓reduceIte]; exact e0) (by simp only [upd_eq, Nat.reduceEqDiff, ↓reduceIte]; exact e1) (by simp only [upd_eq, Nat.reduceEqDiff, ↓reduceIte]; exact e2) (by simp only [upd_eq, Nat.reduceEqDiff, ↓reduceIte]; exact e6) (by simp only [upd_eq, Nat.reduceEqDiff, ↓reduceIte]; exact e7) ?_
      clear s s2 e0 e1 e2 e6 e7 ol ul vl oy uy fn fk ot ut vt oz uz wk2 nx x3 r3 s3 g1 g2 g3 hb_p hb_lc hgv hl0 i0 n1 a1 a2 L0 L1
      clear e; intro e w s e0 e1 e2 e6 e7
      obtain ⟨tb, to, tq, ot, ut, vt⟩ := s.nd 2 rfl
      obtain ⟨zb, zo, zq, oz, uz⟩ := s.kd 5 rfl
      have hil : 0 < (some g :: rp').length := by simp
      have hic := oz.le
      obtain ⟨o2, h2, -, v2, -⟩ := oz.from Eo_sz 1 (by omega)
      have i2 : 1 ≤ (some g :: rp').length := by omega
      have h3 : slcX (some 1) (.slice (some ⟨zb, zo, none⟩) (some g :: rp').length zq) (some (.int .i64 1)) none none = some (slFrom zb zo 1 1 (some g :: rp').length zq) := slcX_lo _ _ _ _ _ 1 _ i2
      refine W_sq fun K hK => (W_draw (some none) (some 13) [(0, 0, 0), (0, 1, 0), (0, 2, 0), (0, 3, 0), (0, 4, 0), (0, 5, 0), (0, 6, 0), (0, 7, 0), (0, 8, 0), (0, 9, 0), (0, 10, 0), (0, 11, 0), (0, 12, 0), (1, 13, 0)] mixed (by kernel_rfl) ?_); simp only [↓List.toList_toArray, ↓rgd, ↓rgf, ↓reduceIte, Nat.reduceEqDiff, rg, ow_176, e0, e1, e2, e6, e7, ptr_eq, ot.h3, oz.hd, h3, i2, h2]
      refine do_copy (by simp only [evt, evc, upd_eq, Nat.reduceEqDiff, ↓reduceIte, ntT, ntF] <;> rfl) (by simp only [evt, evc, upd_eq, Nat.reduceEqDiff, ↓reduceIte, ntT, ntF] <;> rfl) rb_elk (SlV.ext0 v2 (Ext.dr noF w (w.drawn + 1))) ((Ext.dr noF w (w.drawn + 1)).wok (oz.wi.mono (by rw [Eo_sz]; omega))) (flat_oc Eo _) fun w3 x3 r3 s3 => ⟨(by first | exact trivial | exact .inl trivial), ?_⟩
      simp only [↓List.toList_toArray, ↓rgd, ↓rgf, ↓reduceIte, Nat.reduceEqDiff, rg, ow_176, ↓rgm]
      refine hK _ _ ?_; clear hK K
      have hm : min ((some g :: rp').length - 1) ((some g :: rp').length) = (some g :: rp').length - 1 - 0 := by omega
      rw [hm] at x3 r3
      rw [List.take_of_length_le (by rw [flat_length, List.length_drop, Eo_sz]; omega)] at r3
      obtain ⟨z, g1, g2⟩ := oz.down (i := 0) hil (by rw [Nat.zero_mul, Nat.add_zero]; exact x3.od) (by rw [Nat.zero_mul, Nat.add_zero]; first | exact r3 | exact (rb_cel _) ▸ r3)
      have s2 : Ss w0 G w3 [ndO Ez iso 1 b cb (ks.set j x) (ptr bc), ndO Ez iso 0 p ((cl + 1 : Nat) : Int) (ls ++ [k]) (ptr lc), ndO Ez iso 0 q ((cr - 1 : Nat) : Int) rs (ptr rc), kdO (ptr bc) ps, kdO (ptr lc) (lp ++ [(some g)]), kdO (ptr rc) (rp' ++ [z])] := uz g1 g2 (.inl ⟨rfl, rfl, rfl⟩)
      refine W_st s2 (by simp only [upd_eq, Nat.reduceEqDiff, ↓reduceIte]; exact e0) (by simp only [upd_eq, Nat.reduceEqDiff, ↓reduceIte]; exact e1) (by simp only [upd_eq, Nat.reduceEqDiff, ↓reduceIte]; exact e2) (by simp only [upd_eq, Nat.reduceEqDiff, ↓reduceIte]; exact e6) (by simp only [upd_eq, Nat.reduceEqDiff, ↓reduceIte]; exact e7) ?_
      clear s s2 e0 e1 e2 e6 e7 ot ut vt oz uz x3 r3 s3 g1 g2 hm hil hic v2 h2 i2   h3
      clear e; intro e w s e0 e1 e2 e6 e7
      obtain ⟨tb, to, tq, ot, ut, vt⟩ := s.nd 2 rfl
      obtain ⟨zb, zo, zq, oz, uz⟩ := s.kd 5 rfl
      have hA : (rp' ++ [z]).length = n2 := by rw [List.length_append, List.length_singleton]; skip; omega
      have h2 := oz.hd
      rw [hA] at h2
      have q1 := wsub1 (n2) (by omega) (by omega)
      have hi : n2 - 1 < n2 := by omega
      refine W_sq fun K hK => (W_draw (some none) (some 15) [(0, 0, 0), (0, 1, 0), (0, 2, 0), (0, 3, 0), (0, 4, 0), (0, 5, 0), (0, 6, 0), (0, 7, 0), (0, 8, 0), (0, 9, 0), (0, 10, 0), (0, 11, 0), (0, 12, 0), (0, 13, 0), (0, 14, 0), (1, 15, 0)] mixed (by kernel_rfl) ?_); simp only [↓List.toList_toArray, ↓rgd, ↓rgf, ↓reduceIte, Nat.reduceEqDiff, rg, ow_176, e0, e1, e2, e6, e7, ptr_eq, ot.h3, h2, q1, hi]
      refine do_store (by simp only [evt, evc, upd_eq, Nat.reduceEqDiff, ↓reduceIte, ntT, ntF] <;> rfl) (by simp only [evt, evc, upd_eq, Nat.reduceEqDiff, ↓reduceIte, ntT, ntF] <;> rfl) sz_106 rfl oz.wi (by have := oz.le; rw [Eo_sz]; rw [hA] at this; omega) (oc_one rfl rfl) fun w3 x3 r3 s3 => ⟨(by first | exact trivial | exact .inl trivial), ?_⟩
      simp only [↓List.toList_toArray, ↓rgd, ↓rgf, ↓reduceIte, Nat.reduceEqDiff, rg, ow_176, ↓rgm]
      refine hK _ _ ?_; clear hK K
      obtain ⟨g1, g2⟩ := oz.set (i := n2 - 1) (x := none) (by rw [hA]; omega) (by rw [Eo_sz, Nat.mul_one]; exact x3.od) (by rw [Eo_sz, Nat.mul_one]; first | exact r3 | exact (rb_cel _) ▸ r3)
      have hs : (rp' ++ [z]).set (n2 - 1) none = rp' ++ [none] := by rw [show n2 - 1 = (rp').length by skip; omega]; exact set_last
      rw [hs] at g1
      have s2 : Ss w0 G w3 [ndO Ez iso 1 b cb (ks.set j x) (ptr bc), ndO Ez iso 0 p ((cl + 1 : Nat) : Int) (ls ++ [k]) (ptr lc), ndO Ez iso 0 q ((cr - 1 : Nat) : Int) rs (ptr rc), kdO (ptr bc) ps, kdO (ptr lc) (lp ++ [(some g)]), kdO (ptr rc) (rp' ++ [none])] := uz g1 g2 (.inl ⟨rfl, rfl, rfl⟩)
      refine W_st s2 (by simp only [upd_eq, Nat.reduceEqDiff, ↓reduceIte]; exact e0) (by simp only [upd_eq, Nat.reduceEqDiff, ↓reduceIte]; exact e1) (by simp only [upd_eq, Nat.reduceEqDiff, ↓reduceIte]; exact e2) (by simp only [upd_eq, Nat.reduceEqDiff, ↓reduceIte]; exact e6) (by simp only [upd_eq, Nat.reduceEqDiff, ↓reduceIte]; exact e7) ?_
      clear s s2 e0 e1 e2 e6 e7 ot ut vt oz uz x3 r3 s3 g1 g2 hA h2 q1 hi hs
      clear e; intro e w s e0 e1 e2 e6 e7
      obtain ⟨tb, to, tq, ot, ut, vt⟩ := s.nd 2 rfl
      obtain ⟨zb, zo, zq, oz, uz⟩ := s.kd 5 rfl
      have hA : (rp' ++ [none]).length = n2 := by rw [List.length_append, List.length_singleton]; skip; omega
      have h2 := oz.hd
      have h4 := oz.le
      rw [hA] at h2 h4
      have q1 := wsub1 (n2) (by omega) (by omega)
      have hi : n2 - 1 ≤ zq := by omega
      refine W_sq fun K hK => (W_draw (some none) (some 20) [(0, 0, 0), (0, 1, 0), (0, 2, 0), (0, 3, 0), (0, 4, 0), (0, 5, 0), (0, 6, 0), (0, 7, 0), (0, 8, 0), (0, 9, 0), (0, 10, 0), (0, 11, 0), (0, 12, 0), (0, 13, 0), (0, 14, 0), (0, 15, 0), (0, 16, 0), (0, 17, 0), (0, 18, 0), (0, 19, 0), (1, 20, 0)] mixed (by kernel_rfl) ?_); simp only [↓List.toList_toArray, ↓rgd, ↓rgf, ↓reduceIte, Nat.reduceEqDiff, rg, ow_176, e0, e1, e2, e6, e7, ptr_eq, ot.h3, h2, q1, hi]
      refine do_store (by simp only [evt, evc, upd_eq, Nat.reduceEqDiff, ↓reduceIte, ntT, ntF] <;> rfl) (by simp only [evt, evc, upd_eq, Nat.reduceEqDiff, ↓reduceIte, ntT, ntF] <;> rfl) sz_144 rfl oz.hok (by decide) (oc_one rfl rfl) fun w3 x3 r3 s3 => ⟨(by first | exact trivial | exact .inl trivial), ?_⟩
      simp only [↓List.toList_toArray, ↓rgd, ↓rgf, ↓reduceIte, Nat.reduceEqDiff, rg, ow_176, ↓rgm]
      refine hK _ _ ?_; clear hK K
      obtain ⟨g1, g2⟩ := oz.cut x3.od (by rw [show (rp').length = n2 - 1 by skip; omega]; exact (Row.cons.1 r3).1)
      have s2 : Ss w0 G w3 [ndO Ez iso 1 b cb (ks.set j x) (ptr bc), ndO Ez iso 0 p ((cl + 1 : Nat) : Int) (ls ++ [k]) (ptr lc), ndO Ez iso 0 q ((cr - 1 : Nat) : Int) rs (ptr rc), kdO (ptr bc) ps, kdO (ptr lc) (lp ++ [(some g)]), kdO (ptr rc) rp'] := uz g1 g2 (.inl ⟨rfl, rfl, rfl⟩)
      refine W_st s2 (by simp only [upd_eq, Nat.reduceEqDiff, ↓reduceIte]; exact e0) (by simp only [upd_eq, Nat.reduceEqDiff, ↓reduceIte]; exact e1) (by simp only [upd_eq, Nat.reduceEqDiff, ↓reduceIte]; exact e2) (by simp only [upd_eq, Nat.reduceEqDiff, ↓reduceIte]; exact e6) (by simp only [upd_eq, Nat.reduceEqDiff, ↓reduceIte]; exact e7) ?_
      clear s s2 e0 e1 e2 e6 e7 ot ut vt oz uz x3 r3 s3 g1 g2 hA h2 h4 q1 hi
      clear e; intro e w s e0 e1 e2 e6 e7
      obtain ⟨lb, lo, lq, ol, ul, vl⟩ := s.nd 1 rfl
      obtain ⟨yb, yo, yq, oy, uy⟩ := s.kd 4 rfl
      obtain ⟨n4, hn4⟩ : ∃ n4, n4 = lp.length + 1 := ⟨_, rfl⟩
      have h2 := oy.hd
      rw [show (lp ++ [some g]).length = n4 by simp [hn4]] at h2
      have q3 := wsub1 n4 (by omega) (by omega)
      have hi : n4 - 1 < n4 := by omega
      have hgv := oy.ptr_at (j := n4 - 1) (p := g) (by simp [hn4])
      have hg1 := s.x.rd hgc (hgG 1)
      have q1 := wadd (cl + 1) cg (by omega)
      refine W_sq fun K hK => (W_draw (some none) (some 26) [(0, 0, 0), (0, 1, 0), (0, 2, 0), (0, 3, 0), (0, 4, 0), (0, 5, 0), (0, 6, 0), (0, 7, 0), (0, 8, 0), (0, 9, 0), (0, 10, 0), (0, 11, 0), (0, 12, 0), (0, 13, 0), (0, 14, 0), (0, 15, 0), (0, 16, 0), (0, 17, 0), (0, 18, 0), (0, 19, 0), (0, 20, 0), (0, 21, 0), (0, 22, 0), (0, 23, 0), (0, 24, 0), (0, 25, 0), (1, 26, 0)] mixed (by kernel_rfl) ?_); simp only [↓List.toList_toArray, ↓rgd, ↓rgf, ↓reduceIte, Nat.reduceEqDiff, rg, ow_176, e0, e1, e2, e6, e7, ptr_eq, ol.h1, h2, q3, hi, hgv, hg1, ol.h3, q1]
      refine do_store (by simp only [evt, evc, upd_eq, Nat.reduceEqDiff, ↓reduceIte, ntT, ntF] <;> rfl) (by simp only [evt, evc, upd_eq, Nat.reduceEqDiff, ↓reduceIte, ntT, ntF] <;> rfl) sz_3 rfl ol.wb (by decide) (oc_one rfl rfl) fun w3 x3 r3 s3 => ⟨(by first | exact trivial | exact .inl trivial), ?_⟩
      simp only [↓List.toList_toArray, ↓rgd, ↓rgf, ↓reduceIte, Nat.reduceEqDiff, rg, ow_176, ↓rgm]
      refine hK _ _ ?_; clear hK K
      have s2 : Ss w0 G w3 [ndO Ez iso 1 b cb (ks.set j x) (ptr bc), ndO Ez iso 0 p ((cl + 1 + cg : Nat) : Int) (ls ++ [k]) (ptr lc), ndO Ez iso 0 q ((cr - 1 : Nat) : Int) rs (ptr rc), kdO (ptr bc) ps, kdO (ptr lc) (lp ++ [(some g)]), kdO (ptr rc) rp'] := vl x3.od (Row.cons.1 r3).1
      refine W_st s2 (by simp only [upd_eq, Nat.reduceEqDiff, ↓reduceIte]; exact e0) (by simp only [upd_eq, Nat.reduceEqDiff, ↓reduceIte]; exact e1) (by simp only [upd_eq, Nat.reduceEqDiff, ↓reduceIte]; exact e2) (by simp only [upd_eq, Nat.reduceEqDiff, ↓reduceIte]; exact e6) (by simp only [upd_eq, Nat.reduceEqDiff, ↓reduceIte]; exact e7) ?_
      clear s s2 e0 e1 e2 e6 e7 ol ul vl oy uy x3 r3 s3 h2 q3 hi hgv hg1 hn4 q1
      clear e; intro e w s e0 e1 e2 e6 e7
      obtain ⟨tb, to, tq, ot, ut, vt⟩ := s.nd 2 rfl
      obtain ⟨lb, lo, lq, ol, ul, vl⟩ := s.nd 1 rfl
      obtain ⟨yb, yo, yq, oy, uy⟩ := s.kd 4 rfl
      obtain ⟨n4, hn4⟩ : ∃ n4, n4 = lp.length + 1 := ⟨_, rfl⟩
      have h2 := oy.hd
      rw [show (lp ++ [some g]).length = n4 by simp [hn4]] at h2
      have q3 := wsub1 n4 (by omega) (by omega)
      have hi : n4 - 1 < n4 := by omega
      have hgv := oy.ptr_at (j := n4 - 1) (p := g) (by simp [hn4])
      have hg1 := s.x.rd hgc (hgG 1)
      have q1 := wsub (cr - 1) cg (by omega) (by omega)
      refine W_rg fun K hK => (W_draw (some none) (some 26) [(0, 0, 0), (0, 1, 0), (0, 2, 0), (0, 3, 0), (0, 4, 0), (0, 5, 0), (0, 6, 0), (0, 7, 0), (0, 8, 0), (0, 9, 0), (0, 10, 0), (0, 11, 0), (0, 12, 0), (0, 13, 0), (0, 14, 0), (0, 15, 0), (0, 16, 0), (0, 17, 0), (0, 18, 0), (0, 19, 0), (0, 20, 0), (0, 21, 0), (0, 22, 0), (0, 23, 0), (0, 24, 0), (0, 25, 0), (1, 26, 0)] mixed (by kernel_rfl) ?_); simp only [↓List.toList_toArray, ↓rgd, ↓rgf, ↓reduceIte, Nat.reduceEqDiff, rg, ow_176, e0, e1, e2, e6, e7, ptr_eq, ot.h1, h2, q3, hi, hgv, hg1, ol.h3, q1]
      refine do_store (by simp only [evt, evc, upd_eq, Nat.reduceEqDiff, ↓reduceIte, ntT, ntF] <;> rfl) (by simp only [evt, evc, upd_eq, Nat.reduceEqDiff, ↓reduceIte, ntT, ntF] <;> rfl) sz_3 rfl ot.wb (by decide) (oc_one rfl rfl) fun w3 x3 r3 s3 => ⟨(by first | exact trivial | exact .inl trivial), ?_⟩
      simp only [↓List.toList_toArray, ↓rgd, ↓rgf, ↓reduceIte, Nat.reduceEqDiff, rg, ow_176, ↓rgm]
      refine hK _ _ ?_; clear hK K
      have s2 : Ss w0 G w3 [ndO Ez iso 1 b cb (ks.set j x) (ptr bc), ndO Ez iso 0 p ((cl + 1 + cg : Nat) : Int) (ls ++ [k]) (ptr lc), ndO Ez iso 0 q ((cr - 1 - cg : Nat) : Int) rs (ptr rc), kdO (ptr bc) ps, kdO (ptr lc) (lp ++ [(some g)]), kdO (ptr rc) rp'] := vt x3.od (Row.cons.1 r3).1
      show endQ _ _ _ _ _ _
      refine endQ_0n ?_
      exact s2
  obtain ⟨nb, no, nc, on, un, vn⟩ := s.nd 0 rfl
  rcases hj with ⟨rfl, hj⟩ | ⟨rfl, hj⟩
  · have hb : ((i0 : Int) == (ks.length : Int)) = false := by simp; omega
    refine W_sq fun K hK => (W_text [true, true, true, true, true, true, true] (by kernel_rfl) ?_); simp only [↓List.toList_toArray, ↓rgd, ↓rgf, ↓reduceIte, Nat.reduceEqDiff, rg, ow_176, e1, e2, ptr_eq, on.h2, hb]
    refine hK _ _ ?_; clear hK K
    refine W_false (by simp only [evt, evc, upd_eq, Nat.reduceEqDiff, ↓reduceIte, ntT, ntF] <;> rfl) (W_skip ?_)
    exact hend _ (by simp only [upd_eq, Nat.reduceEqDiff, ↓reduceIte]; exact e0) (by simp only [upd_eq, Nat.reduceEqDiff, ↓reduceIte]; exact e1) (by simp only [upd_eq, Nat.reduceEqDiff, ↓reduceIte]; exact e2)
  · have hb : ((ks.length : Int) == (ks.length : Int)) = true := by simp
    refine W_sq fun K hK => (W_text [true, true, true, true, true, true, true] (by kernel_rfl) ?_); simp only [↓List.toList_toArray, ↓rgd, ↓rgf, ↓reduceIte, Nat.reduceEqDiff, rg, ow_176, e1, e2, ptr_eq, on.h2, hb]
    refine hK _ _ ?_; clear hK K
    refine W_true (by simp only [evt, evc, upd_eq, Nat.reduceEqDiff, ↓reduceIte, ntT, ntF] <;> rfl) ?_
    have q1 := wsub1 ks.length (by omega) (by omega)
    have hjs : ks.length - 1 = j := by omega
    refine W_rg fun K hK => (W_text [true, true, true] (by kernel_rfl) ?_); simp only [↓List.toList_toArray, ↓rgd, ↓rgf, ↓reduceIte, Nat.reduceEqDiff, rg, ow_176, e2, q1]
    refine hK _ _ ?_; clear hK K
    exact hend _ (by simp only [upd_eq, Nat.reduceEqDiff, ↓reduceIte]; exact e0) (by simp only [upd_eq, Nat.reduceEqDiff, ↓reduceIte]; exact e1) (by simp only [upd_eq, Nat.reduceEqDiff, ↓reduceIte] <;> rw [hjs])
end Go.Proofs.Ytanmjbkbdmeckaa
/-
  nodeRebalance for lists of items. No condition.
-/
set_option linter.unusedSimpArgs false
set_option linter.unusedVariables false
namespace Go.Proofs.Ytanmjbkbdmeckaa
open Go Go.Proofs
theorem reb_merge (m d b p q bc i0 j cl cr : Nat) (iso cb : Int) (ks ls rs : List It) (k : It) (ps lp rp : List (Option Nat)) (chl chr : Value) (w0 w : World) (G : Nat → Nat → Prop) (hd : 2 ≤ d) (hd' : d ≤ 128) (hc : Cfg w0 m iso d) (hG : ∀ o, ¬ G m o)
    (s : Ss w0 G w [ndO E iso 1 b cb ks (ptr bc), ndO E iso 0 p (cl : Nat) ls chl, ndO E iso 0 q (cr : Nat) rs chr, kdO (ptr bc) ps, kdO chl lp, kdO chr rp]) (hj : (i0 = j ∧ j < ks.length) ∨ (i0 = ks.length ∧ j + 1 = ks.length)) (hkl : ks.length ≤ 2 * d - 1) (hk : ks[j]? = some k) (hps : ps.length = ks.length + 1) (hp : ps[j]? = some (some p)) (hq : ps[j + 1]? = some (some q))
    (hch : (chl = .pointer none ∧ chr = .pointer none ∧ lp = [] ∧ rp = []) ∨ ∃ lc rc, chl = ptr lc ∧ chr = ptr rc ∧ lp.length = ls.length + 1 ∧ rp.length = rs.length + 1) (hll : ls.length ≤ 2 * d - 1) (hrl : rs.length ≤ 2 * d - 1) (hcl : cl < 2305843009213693952) (hcr : cr < 2305843009213693952) (hlt : ls.length + rs.length < 2 * d - 1) :
    CallK Try.prog 176 #[ptr m, ptr b, .int .i64 (i0 : Nat)] w fun _ w' => Ss w0 G w' [ndO E iso 1 b cb (ks.eraseIdx j) (ptr bc), ndO E iso 0 p ((cl + (cr + 1) : Nat) : Int) (ls ++ k :: rs) chl, ndO E iso 0 q (cr : Nat) rs chr, kdO (ptr bc) (ps.eraseIdx (j + 1)), kdO chl (lp ++ rp), kdO chr rp] := by
  rw [ndO_z, ndO_z, ndO_z] at s
  refine CallK_mono (zreb_merge m d b p q bc i0 j cl cr iso cb (ks.map some) (ls.map some) (rs.map some) (some k) ps lp rp chl chr w0 w G hd hd' hc hG s (by simpa using hj) (by simpa using hkl) (by simp [hk]) (by simpa using hps) hp hq (by simpa using hch) (by simpa using hll) (by simpa using hrl) hcl hcr (by simpa using hlt)) fun v w' hs => ?_
  rw [ndO_z, ndO_z, ndO_z]
  have e1 : (ks.map some).eraseIdx j = (ks.eraseIdx j).map some := by rw [List.eraseIdx_eq_take_drop_succ, List.eraseIdx_eq_take_drop_succ, List.map_append, List.map_take, List.map_drop]
  rw [e1] at hs
  rw [List.map_append, List.map_cons]
  exact hs
theorem reb_right (m d b p q bc i0 j cl cr : Nat) (iso cb : Int) (ks ls rs : List It) (k x : It) (ps lp rp : List (Option Nat)) (chl chr : Value) (w0 w : World) (G : Nat → Nat → Prop) (hd : 2 ≤ d) (hd' : d ≤ 128) (hc : Cfg w0 m iso d) (hG : ∀ o, ¬ G m o)
    (s : Ss w0 G w [ndO E iso 1 b cb ks (ptr bc), ndO E iso 0 p (cl : Nat) (ls ++ [x]) chl, ndO E iso 0 q (cr : Nat) rs chr, kdO (ptr bc) ps, kdO chl lp, kdO chr rp]) (hj : (i0 = j ∧ j < ks.length) ∨ (i0 = ks.length ∧ j + 1 = ks.length)) (hkl : ks.length ≤ 2 * d - 1) (hk : ks[j]? = some k) (hps : ps.length = ks.length + 1) (hp : ps[j]? = some (some p)) (hq : ps[j + 1]? = some (some q))
    (hch : (chl = .pointer none ∧ chr = .pointer none ∧ lp = [] ∧ rp = []) ∨ ∃ lc rc, chl = ptr lc ∧ chr = ptr rc ∧ lp.length = (ls ++ [x]).length + 1 ∧ rp.length = rs.length + 1) (hll : (ls ++ [x]).length ≤ 2 * d - 1) (hrl : rs.length ≤ 2 * d - 1) (hcl : cl < 2305843009213693952) (hcr : cr < 2305843009213693952) (hlt : 2 * d - 1 ≤ (ls ++ [x]).length + rs.length) (hgt : rs.length < (ls ++ [x]).length) (cg : Nat) (hcg : 1 + cg ≤ cl) (hcgb : cr + cg < 2305843009213693952) (hg : (lp = [] ∧ cg = 0) ∨ ∃ g lp', lp = lp' ++ [some g] ∧ rd w0 g 1 = some (.int .i64 (cg : Nat)) ∧ ∀ o, ¬ G g o) :
    CallK Try.prog 176 #[ptr m, ptr b, .int .i64 (i0 : Nat)] w fun _ w' => Ss w0 G w' [ndO E iso 1 b cb (ks.set j x) (ptr bc), ndO E iso 0 p ((cl - 1 - cg : Nat) : Int) ls chl, ndO E iso 0 q ((cr + 1 + cg : Nat) : Int) (k :: rs) chr, kdO (ptr bc) ps, kdO chl lp.dropLast, kdO chr (lp.drop (lp.length - 1) ++ rp)] := by
  rw [ndO_z, ndO_z, ndO_z, List.map_append, List.map_cons, List.map_nil] at s
  refine CallK_mono (zreb_right m d b p q bc i0 j cl cr iso cb (ks.map some) (ls.map some) (rs.map some) (some k) (some x) ps lp rp chl chr w0 w G hd hd' hc hG s (by simpa using hj) (by simpa using hkl) (by simp [hk]) (by simpa using hps) hp hq (by simpa using hch) (by simpa using hll) (by simpa using hrl) hcl hcr (by simpa using hlt) (by simpa using hgt) cg hcg hcgb hg) fun v w' hs => ?_
  rw [ndO_z, ndO_z, ndO_z, List.map_set, List.map_cons]
  exact hs
theorem reb_left (m d b p q bc i0 j cl cr : Nat) (iso cb : Int) (ks ls rs : List It) (k x : It) (ps lp rp : List (Option Nat)) (chl chr : Value) (w0 w : World) (G : Nat → Nat → Prop) (hd : 2 ≤ d) (hd' : d ≤ 128) (hc : Cfg w0 m iso d) (hG : ∀ o, ¬ G m o)
    (s : Ss w0 G w [ndO E iso 1 b cb ks (ptr bc), ndO E iso 0 p (cl : Nat) ls chl, ndO E iso 0 q (cr : Nat) (x :: rs) chr, kdO (ptr bc) ps, kdO chl lp, kdO chr rp]) (hj : (i0 = j ∧ j < ks.length) ∨ (i0 = ks.length ∧ j + 1 = ks.length)) (hkl : ks.length ≤ 2 * d - 1) (hk : ks[j]? = some k) (hps : ps.length = ks.length + 1) (hp : ps[j]? = some (some p)) (hq : ps[j + 1]? = some (some q))
    (hch : (chl = .pointer none ∧ chr = .pointer none ∧ lp = [] ∧ rp = []) ∨ ∃ lc rc, chl = ptr lc ∧ chr = ptr rc ∧ lp.length = ls.length + 1 ∧ rp.length = (x :: rs).length + 1) (hll : ls.length ≤ 2 * d - 1) (hrl : (x :: rs).length ≤ 2 * d - 1) (hcl : cl < 2305843009213693952) (hcr : cr < 2305843009213693952) (hlt : 2 * d - 1 ≤ ls.length + (x :: rs).length) (hgt : ls.length ≤ (x :: rs).length) (cg : Nat) (hcg : 1 + cg ≤ cr) (hcgb : cl + cg < 2305843009213693952) (hg : (rp = [] ∧ cg = 0) ∨ ∃ g rp', rp = some g :: rp' ∧ rd w0 g 1 = some (.int .i64 (cg : Nat)) ∧ ∀ o, ¬ G g o) :
    CallK Try.prog 176 #[ptr m, ptr b, .int .i64 (i0 : Nat)] w fun _ w' => Ss w0 G w' [ndO E iso 1 b cb (ks.set j x) (ptr bc), ndO E iso 0 p ((cl + 1 + cg : Nat) : Int) (ls ++ [k]) chl, ndO E iso 0 q ((cr - 1 - cg : Nat) : Int) rs chr, kdO (ptr bc) ps, kdO chl (lp ++ rp.take 1), kdO chr (rp.drop 1)] := by
  rw [ndO_z, ndO_z, ndO_z, List.map_cons] at s
  refine CallK_mono (zreb_left m d b p q bc i0 j cl cr iso cb (ks.map some) (ls.map some) (rs.map some) (some k) (some x) ps lp rp chl chr w0 w G hd hd' hc hG s (by simpa using hj) (by simpa using hkl) (by simp [hk]) (by simpa using hps) hp hq (by simpa using hch) (by simpa using hll) (by simpa using hrl) hcl hcr (by simpa using hlt) (by simpa using hgt) cg hcg hcgb hg) fun v w' hs => ?_
  rw [ndO_z, ndO_z, ndO_z, List.map_set, List.map_append, List.map_cons, List.map_nil]
  exact hs
end Go.Proofs.Ytanmjbkbdmeckaa
/-
  A node taken apart into its own part, its children's row and its children, and put together again; two neighbours merged, or one item moved. For items of whatever make. No condition.
-/
set_option linter.unusedSimpArgs false
set_option linter.unusedVariables false
namespace Go.Proofs.Ytanmjbkbdmeckaa
open Go
section
variable {α : Type}
theorem weave_cat : ∀ (g1 g2 : List (List α)) (k1 k2 : List α) (k : α), g1.length = k1.length + 1 → weave (g1 ++ g2) (k1 ++ k :: k2) = weave g1 k1 ++ k :: weave g2 k2
  | [], _, _, _, _, h => by simp at h
  | [c], g2, [], k2, k, _ => rfl
  | c :: d :: g, g2, [], k2, k, h => by simp at h
  | c :: g1, g2, x :: k1, k2, k, h => by
    rw [List.cons_append, List.cons_append, weave_cons, weave_cons, weave_cat g1 g2 k1 k2 k (by simpa using h), List.append_assoc]
    rfl
theorem weave_two : ∀ (A B : List (List α)) (a b : List α) (ks : List α) (k : α), ks[A.length]? = some k → weave (A ++ a :: b :: B) ks = weave (A ++ (a ++ k :: b) :: B) (ks.eraseIdx A.length)
  | [], B, a, b, [], k, h => by simp at h
  | [], B, a, b, x :: ks, k, h => by
    simp at h
    subst h
    cases ks with
    | nil => cases B <;> rfl
    | cons y ks => simp [weave]
  | c :: A, B, a, b, [], k, h => by simp at h
  | c :: A, B, a, b, x :: ks, k, h => by
    rw [List.cons_append, List.cons_append, weave_cons, weave_two A B a b ks k (by simpa using h), List.length_cons, List.eraseIdx_cons_succ, weave_cons]
theorem weave_swap {A B : List (List α)} {a b a' b' : List α} {ks : List α} {k x : α} (hk : ks[A.length]? = some k) (h : a ++ k :: b = a' ++ x :: b') : weave (A ++ a :: b :: B) ks = weave (A ++ a' :: b' :: B) (ks.set A.length x) := by
  rw [weave_two A B a b ks k hk, weave_two A B a' b' (ks.set A.length x) x (by rw [List.getElem?_set_self (List.getElem?_eq_some_iff.1 hk).1]), h]
  congr 1
  have hl := (List.getElem?_eq_some_iff.1 hk).1
  rw [List.eraseIdx_eq_take_drop_succ, List.eraseIdx_eq_take_drop_succ, List.take_set_of_le (Nat.le_refl _), List.drop_set_of_lt (by omega)]
end
variable {α : Type} {E : Enc α} {iso : Int} {mn mx : Nat}
def Dj (F G : Nat → Nat → Prop) : Prop := ∀ y o, F y o → ¬ G y o
theorem Dj.symm {F G : Nat → Nat → Prop} (h : Dj F G) : Dj G F := fun y o g f => h y o f g
/-- The children gs of a node with items ks; ch is the cell's pointer, ps what the row holds. -/
def Kin (E : Enc α) (iso : Int) (mn mx h : Nat) (w : World) (ch : Value) (ps : List (Option Nat)) (ks xs : List α) (gs : List (Kid α)) : Prop :=
  (h = 0 ∧ ch = .pointer none ∧ ps = [] ∧ gs = [] ∧ xs = ks) ∨
  (∃ h', h = h' + 1 ∧ (∃ c, ch = ptr c) ∧ ps = gs.map (fun g => some g.b) ∧ gs.length = ks.length + 1 ∧ xs = weave (gs.map Kid.xs) ks ∧ ∀ c ∈ gs, Tr E iso mn mx h' w mn c.b c.xs c.F)
def kinF (gs : List (Kid α)) : Nat → Nat → Prop := fun y o => ∃ c ∈ gs, c.F y o
structure Lay (F1 F4 : Nat → Nat → Prop) (K1 K4 : Nat) (gs : List (Kid α)) : Prop where
  d : Dj F1 F4
  g1 : ∀ c ∈ gs, Dj c.F F1
  g4 : ∀ c ∈ gs, Dj c.F F4
  two : gs.Pairwise fun c d => Dj c.F d.F
  r : K1 ≠ K4
theorem Kin.ext {h : Nat} {w w' : World} {ch : Value} {ps : List (Option Nat)} {ks xs : List α} {gs : List (Kid α)} {G : Nat → Nat → Prop} (n : Kin E iso mn mx h w ch ps ks xs gs) (x : Ext G w w') (hG : ∀ c ∈ gs, Dj c.F G) : Kin E iso mn mx h w' ch ps ks xs gs :=
  n.imp id fun ⟨h', h1, h2, h3, h4, h5, h6⟩ => ⟨h', h1, h2, h3, h4, h5, fun c hc => (h6 c hc).ext x (hG c hc)⟩
theorem Kin.lt {h : Nat} {w : World} {ch : Value} {ps : List (Option Nat)} {ks xs : List α} {gs : List (Kid α)} (n : Kin E iso mn mx h w ch ps ks xs gs) : ∀ c ∈ gs, ∀ y o, c.F y o → y < w.heap.size := by
  rcases n with ⟨_, _, _, rfl, _⟩ | ⟨h', _, _, _, _, _, h6⟩
  · intro c hc; cases hc
  · intro c hc; exact (h6 c hc).lt
theorem Tr.split {h : Nat} {w : World} {lo b : Nat} {xs : List α} {F : Nat → Nat → Prop} (ht : Tr E iso mn mx h w lo b xs F) :
    ∃ F1 F4 K1 K4 ks ch ps gs, (ndO E iso 0 b xs.length ks ch).p w F1 K1 ∧ (kdO ch ps).p w F4 K4 ∧ Kin E iso mn mx h w ch ps ks xs gs ∧ lo ≤ ks.length ∧ ks.length ≤ mx ∧ Lay F1 F4 K1 K4 gs ∧ ∀ y o, F y o ↔ F1 y o ∨ F4 y o ∨ kinF gs y o := by
  cases h with
  | zero =>
    obtain ⟨bi, oi, cap, ho, h1, h2, hF⟩ := ht
    refine ⟨ownF E b bi oi cap, noF, bi, b, xs, _, [], [], ⟨bi, oi, cap, ho, Nat.zero_le _, rfl, fun _ _ => Iff.rfl⟩, .inl ⟨rfl, rfl, wok_lt ho.wb, fun _ _ g => g⟩, .inl ⟨rfl, rfl, rfl, rfl, rfl⟩, h1, h2,
      ⟨fun _ _ _ g => g, (fun _ hc => by simp at hc), (fun _ hc => by simp at hc), List.Pairwise.nil, ho.ne⟩, fun y o => ?_⟩
    rw [hF]
    exact ⟨.inl, fun g => g.elim id fun g => g.elim False.elim fun ⟨_, hc, _⟩ => by simp at hc⟩
  | succ h =>
    obtain ⟨bi, oi, cap, bc, ba, oa, capc, ks, cs, ho, hk, h1, h2, h3, h4, hT, hA, hF⟩ := ht
    have hps : cs.map (fun g => some g.b) = (cs.map Kid.b).map some := by rw [List.map_map]; rfl
    refine ⟨ownF E b bi oi cap, kidF bc ba oa capc, bi, ba, ks, _, cs.map (fun g => some g.b), cs, ⟨bi, oi, cap, ho, Nat.zero_le _, rfl, fun _ _ => Iff.rfl⟩, .inr ⟨bc, ba, oa, capc, rfl, by rw [hps]; exact hk.se, rfl, fun _ _ => Iff.rfl⟩,
      .inr ⟨h, rfl, ⟨bc, rfl⟩, rfl, h3, h4, hT⟩, h1, h2, ⟨fun y o g k => ?_, hA.own, hA.kid, hA.two, hA.ia⟩, hF⟩
    have := hA.cb; have := hA.ab; have := hA.ic; have := hA.ia
    simp only [ownF, kidF, rng] at g k
    omega
theorem Tr.join {h : Nat} {w : World} {lo z b : Nat} {cnt : Int} {ks xs : List α} {ch : Value} {ps : List (Option Nat)} {gs : List (Kid α)} {F1 F4 : Nat → Nat → Prop} {K1 K4 : Nat} (h1 : (ndO E iso z b cnt ks ch).p w F1 K1) (h4 : (kdO ch ps).p w F4 K4)
    (n : Kin E iso mn mx h w ch ps ks xs gs) (hlo : lo ≤ ks.length) (hmx : ks.length ≤ mx) (hz : 0 < ks.length ∨ 1 ≤ z) (l : Lay F1 F4 K1 K4 gs) (hcnt : cnt = xs.length) : Tr E iso mn mx h w lo b xs fun y o => F1 y o ∨ F4 y o ∨ kinF gs y o := by
  subst hcnt
  obtain ⟨bi, oi, cap, ho, hzc, rfl, hF1⟩ := h1
  rcases n with ⟨rfl, rfl, rfl, rfl, rfl⟩ | ⟨h', rfl, ⟨c, rfl⟩, rfl, g3, g4, g5⟩
  · rcases h4 with ⟨_, _, _, hF4⟩ | ⟨_, _, _, _, hc, _⟩
    · refine ⟨K1, oi, cap, ho, hlo, hmx, fun y o => ?_⟩
      show F1 y o ∨ F4 y o ∨ kinF [] y o ↔ _
      rw [hF1]
      exact ⟨fun g => g.elim id fun g => g.elim (fun g => (hF4 _ _ g).elim) fun ⟨_, hc, _⟩ => by simp at hc, .inl⟩
    · cases hc
  · rcases h4 with ⟨hc, _⟩ | ⟨bc, ba, oa, capc, hc, se, rfl, hF4⟩
    · cases hc
    · obtain rfl : c = bc := by simpa [ptr] using hc
      have hps : gs.map (fun g => some g.b) = (gs.map Kid.b).map some := by rw [List.map_map]; rfl
      rw [hps] at se
      have hk := se.kids
      have hle := hk.le
      rw [List.length_map] at hle
      have hcap : 0 < cap := by have := ho.le; omega
      have hsz := Nat.mul_le_mul_right E.sz hcap
      have hE := E.pos
      refine ⟨K1, oi, cap, c, K4, oa, capc, ks, gs, ho, hk, hlo, hmx, g3, g4, g5, ⟨fun hb => ?_, fun hb => ?_, fun hb => ?_, l.r, fun d hd y o g k => l.g1 d hd y o g ((hF1 _ _).2 k), fun d hd y o g k => l.g4 d hd y o g ((hF4 _ _).2 k), l.two⟩, fun y o => ?_⟩
      · subst hb; exact l.d c 0 ((hF1 _ _).2 (.inl rfl)) ((hF4 _ _).2 (.inl rfl))
      · subst hb; exact l.d K4 oa ((hF1 _ _).2 (.inl rfl)) ((hF4 _ _).2 (.inr ⟨rfl, by omega, by omega⟩))
      · subst hb; exact l.d K1 oi ((hF1 _ _).2 (.inr ⟨rfl, by omega, by omega⟩)) ((hF4 _ _).2 (.inl rfl))
      · show F1 y o ∨ F4 y o ∨ kinF gs y o ↔ _
        rw [hF1, hF4]; rfl
theorem Kin.merge {h : Nat} {w : World} {ch1 ch2 : Value} {p1 p2 : List (Option Nat)} {k1 k2 x1 x2 : List α} {g1 g2 : List (Kid α)} {k : α} (a : Kin E iso mn mx h w ch1 p1 k1 x1 g1) (b : Kin E iso mn mx h w ch2 p2 k2 x2 g2) :
    Kin E iso mn mx h w ch1 (p1 ++ p2) (k1 ++ k :: k2) (x1 ++ k :: x2) (g1 ++ g2) := by
  rcases a with ⟨h0, ha, rfl, rfl, rfl⟩ | ⟨h', rfl, ha, rfl, a3, rfl, a5⟩
  · rcases b with ⟨_, _, rfl, rfl, rfl⟩ | ⟨h', h1, _⟩
    · exact .inl ⟨h0, ha, rfl, rfl, rfl⟩
    · omega
  · rcases b with ⟨h1, _⟩ | ⟨h2, h1, _, rfl, b3, rfl, b5⟩
    · omega
    · obtain rfl : h' = h2 := by omega
      refine .inr ⟨h', rfl, ha, by rw [List.map_append], by simp; omega, ?_, fun c hc => ?_⟩
      · rw [List.map_append, weave_cat _ _ _ _ _ (by simpa using a3)]
      · rcases List.mem_append.1 hc with hc | hc
        · exact a5 c hc
        · exact b5 c hc
theorem Tr.cnt' {w : World} {h lo b : Nat} {xs : List α} {F : Nat → Nat → Prop} (t : Tr E iso mn mx h w lo b xs F) : rd w b 1 = some (.int .i64 (xs.length : Nat)) := by
  obtain ⟨_, _, _, _, _, h, _⟩ := t.open
  exact h.h1
theorem Kin.right {h : Nat} {w : World} {ch1 ch2 : Value} {p1 p2 : List (Option Nat)} {ls k2 x1 x2 : List α} {g1 g2 : List (Kid α)} {k x : α} (a : Kin E iso mn mx h w ch1 p1 (ls ++ [x]) x1 g1) (b : Kin E iso mn mx h w ch2 p2 k2 x2 g2) :
    ∃ cg x1' x2' gl gr, Kin E iso mn mx h w ch1 p1.dropLast ls x1' gl ∧ Kin E iso mn mx h w ch2 (p1.drop (p1.length - 1) ++ p2) (k :: k2) x2' gr ∧ x1 ++ k :: x2 = x1' ++ x :: x2' ∧ gl ++ gr = g1 ++ g2 ∧
      x1'.length = x1.length - 1 - cg ∧ x2'.length = x2.length + 1 + cg ∧ 1 + cg ≤ x1.length ∧ ((p1 = [] ∧ cg = 0) ∨ ∃ c p', p1 = p' ++ [some c.b] ∧ c ∈ g1 ∧ rd w c.b 1 = some (.int .i64 (cg : Nat)) ∧ ∀ o, c.F c.b o) := by
  rcases a with ⟨h0, ha, rfl, rfl, rfl⟩ | ⟨h', rfl, ha, rfl, a3, rfl, a5⟩
  · rcases b with ⟨_, hb, rfl, rfl, rfl⟩ | ⟨h', h1, _⟩
    · exact ⟨0, ls, k :: x2, [], [], .inl ⟨h0, ha, rfl, rfl, rfl⟩, .inl ⟨h0, hb, rfl, rfl, rfl⟩, by simp, rfl, by simp, by simp, by simp, .inl ⟨rfl, rfl⟩⟩
    · omega
  · rcases b with ⟨h1, _⟩ | ⟨h2, h1, hb, rfl, b3, rfl, b5⟩
    · omega
    · obtain rfl : h' = h2 := by omega
      rw [List.length_append, List.length_singleton] at a3
      obtain ⟨gl, g, rfl⟩ : ∃ gl g, g1 = gl ++ [g] := ⟨g1.dropLast, g1.getLast (by intro h; rw [h] at a3; simp at a3), (List.dropLast_concat_getLast _).symm⟩
      rw [List.length_append, List.length_singleton] at a3
      have hw : weave ((gl ++ [g]).map Kid.xs) (ls ++ [x]) = weave (gl.map Kid.xs) ls ++ x :: g.xs := by
        rw [List.map_append, weave_cat _ _ _ _ _ (by simp; omega)]; rfl
      refine ⟨g.xs.length, weave (gl.map Kid.xs) ls, g.xs ++ k :: weave (g2.map Kid.xs) k2, gl, g :: g2, .inr ⟨h', rfl, ha, by simp, by omega, rfl, fun c hc => a5 c (by simp [hc])⟩, .inr ⟨h', rfl, hb, by simp, by simp; omega, by simp [weave_cons], fun c hc => ?_⟩,
        by rw [hw]; simp, by simp, by rw [hw]; simp <;> omega, by simp <;> omega, by rw [hw]; simp <;> omega, .inr ⟨g, gl.map fun g => some g.b, by simp, by simp, (a5 g (by simp)).cnt', (a5 g (by simp)).self⟩⟩
      rcases List.mem_cons.1 hc with rfl | hc
      · exact a5 _ (by simp)
      · exact b5 c hc
theorem Kin.left {h : Nat} {w : World} {ch1 ch2 : Value} {p1 p2 : List (Option Nat)} {k1 rs x1 x2 : List α} {g1 g2 : List (Kid α)} {k x : α} (a : Kin E iso mn mx h w ch1 p1 k1 x1 g1) (b : Kin E iso mn mx h w ch2 p2 (x :: rs) x2 g2) :
    ∃ cg x1' x2' gl gr, Kin E iso mn mx h w ch1 (p1 ++ p2.take 1) (k1 ++ [k]) x1' gl ∧ Kin E iso mn mx h w ch2 (p2.drop 1) rs x2' gr ∧ x1 ++ k :: x2 = x1' ++ x :: x2' ∧ gl ++ gr = g1 ++ g2 ∧
      x1'.length = x1.length + 1 + cg ∧ x2'.length = x2.length - 1 - cg ∧ 1 + cg ≤ x2.length ∧ ((p2 = [] ∧ cg = 0) ∨ ∃ c p', p2 = some c.b :: p' ∧ c ∈ g2 ∧ rd w c.b 1 = some (.int .i64 (cg : Nat)) ∧ ∀ o, c.F c.b o) := by
  rcases a with ⟨h0, ha, rfl, rfl, rfl⟩ | ⟨h', rfl, ha, rfl, a3, rfl, a5⟩
  · rcases b with ⟨_, hb, rfl, rfl, rfl⟩ | ⟨h', h1, _⟩
    · exact ⟨0, x1 ++ [k], rs, [], [], .inl ⟨h0, ha, rfl, rfl, rfl⟩, .inl ⟨h0, hb, rfl, rfl, rfl⟩, by simp, rfl, by simp, by simp, by simp, .inl ⟨rfl, rfl⟩⟩
    · omega
  · rcases b with ⟨h1, _⟩ | ⟨h2, h1, hb, rfl, b3, rfl, b5⟩
    · omega
    · obtain rfl : h' = h2 := by omega
      rw [List.length_cons] at b3
      obtain ⟨g, gr, rfl⟩ : ∃ g gr, g2 = g :: gr := by
        cases g2 with
        | nil => simp at b3
        | cons g gr => exact ⟨g, gr, rfl⟩
      rw [List.length_cons] at b3
      have hw : weave ((g :: gr).map Kid.xs) (x :: rs) = g.xs ++ x :: weave (gr.map Kid.xs) rs := by rw [List.map_cons, weave_cons]
      have hv : weave ((g1 ++ [g]).map Kid.xs) (k1 ++ [k]) = weave (g1.map Kid.xs) k1 ++ k :: g.xs := by
        rw [List.map_append, weave_cat _ _ _ _ _ (by simpa using a3)]; rfl
      refine ⟨g.xs.length, weave (g1.map Kid.xs) k1 ++ k :: g.xs, weave (gr.map Kid.xs) rs, g1 ++ [g], gr, .inr ⟨h', rfl, ha, by simp, by simp; omega, hv.symm, fun c hc => ?_⟩, .inr ⟨h', rfl, hb, by simp, by omega, rfl, fun c hc => b5 c (by simp [hc])⟩,
        by rw [hw]; simp, by simp, by simp <;> omega, by rw [hw]; simp <;> omega, by rw [hw]; simp <;> omega, .inr ⟨g, gr.map fun g => some g.b, by simp, by simp, (b5 g (by simp)).cnt', (b5 g (by simp)).self⟩⟩
      rcases List.mem_append.1 hc with hc | hc
      · exact a5 c hc
      · have : c = g := by simpa using hc
        subst this; exact b5 _ (by simp)
/-- A node, two neighbours among its children, and the others. -/
structure Two (E : Enc α) (iso : Int) (mn mx h : Nat) (w : World) (b bc : Nat) (cnt : Int) (ks : List α) (A B : List (Kid α)) (c1 c2 : Kid α) (F0 F3 : Nat → Nat → Prop) (K0 K3 : Nat)
    (F1 F4 : Nat → Nat → Prop) (K1 K4 : Nat) (k1 : List α) (ch1 : Value) (p1 : List (Option Nat)) (g1 : List (Kid α)) (F2 F5 : Nat → Nat → Prop) (K2 K5 : Nat) (k2 : List α) (ch2 : Value) (p2 : List (Option Nat)) (g2 : List (Kid α)) : Prop where
  n0 : (ndO E iso 1 b cnt ks (ptr bc)).p w F0 K0
  n3 : (kdO (ptr bc) ((A ++ c1 :: c2 :: B).map fun g => some g.b)).p w F3 K3
  l0 : Lay F0 F3 K0 K3 (A ++ c1 :: c2 :: B)
  n1 : (ndO E iso 0 c1.b (c1.xs.length : Nat) k1 ch1).p w F1 K1
  n4 : (kdO ch1 p1).p w F4 K4
  l1 : Lay F1 F4 K1 K4 g1
  f1 : ∀ y o, c1.F y o ↔ F1 y o ∨ F4 y o ∨ kinF g1 y o
  q1 : Kin E iso mn mx h w ch1 p1 k1 c1.xs g1
  n2 : (ndO E iso 0 c2.b (c2.xs.length : Nat) k2 ch2).p w F2 K2
  n5 : (kdO ch2 p2).p w F5 K5
  l2 : Lay F2 F5 K2 K5 g2
  f2 : ∀ y o, c2.F y o ↔ F2 y o ∨ F5 y o ∨ kinF g2 y o
  q2 : Kin E iso mn mx h w ch2 p2 k2 c2.xs g2
  rest : ∀ c ∈ A ++ B, Tr E iso mn mx h w mn c.b c.xs c.F
def six (F0 F1 F2 F3 F4 F5 : Nat → Nat → Prop) : Nat → Nat → Prop := fun y o => F0 y o ∨ F1 y o ∨ F2 y o ∨ F3 y o ∨ F4 y o ∨ F5 y o
section
variable {h : Nat} {w : World} {b bc : Nat} {cnt : Int} {ks : List α} {A B : List (Kid α)} {c1 c2 : Kid α} {F0 F3 : Nat → Nat → Prop} {K0 K3 : Nat}
    {F1 F4 : Nat → Nat → Prop} {K1 K4 : Nat} {k1 : List α} {ch1 : Value} {p1 : List (Option Nat)} {g1 : List (Kid α)} {F2 F5 : Nat → Nat → Prop} {K2 K5 : Nat} {k2 : List α} {ch2 : Value} {p2 : List (Option Nat)} {g2 : List (Kid α)}
theorem Two.apart (t : Two E iso mn mx h w b bc cnt ks A B c1 c2 F0 F3 K0 K3 F1 F4 K1 K4 k1 ch1 p1 g1 F2 F5 K2 K5 k2 ch2 p2 g2) :
    Dj c1.F c2.F ∧ (∀ a ∈ A ++ B, Dj a.F c1.F ∧ Dj a.F c2.F) ∧ (A ++ B).Pairwise fun c d => Dj c.F d.F := by
  obtain ⟨p1, p2, p3⟩ := List.pairwise_append.1 t.l0.two
  obtain ⟨p4, p5⟩ := List.pairwise_cons.1 p2
  obtain ⟨p6, p7⟩ := List.pairwise_cons.1 p5
  refine ⟨p4 c2 (by simp), fun a ha => ?_, List.pairwise_append.2 ⟨p1, p7, fun a ha b hb => p3 a ha b (by simp [hb])⟩⟩
  rcases List.mem_append.1 ha with ha | ha
  · exact ⟨p3 a ha c1 (by simp), p3 a ha c2 (by simp)⟩
  · exact ⟨(p4 a (by simp [ha])).symm, (p6 a ha).symm⟩
theorem Two.init (t : Two E iso mn mx h w b bc cnt ks A B c1 c2 F0 F3 K0 K3 F1 F4 K1 K4 k1 ch1 p1 g1 F2 F5 K2 K5 k2 ch2 p2 g2) :
    Ss w (six F0 F1 F2 F3 F4 F5) w [ndO E iso 1 b cnt ks (ptr bc), ndO E iso 0 c1.b (c1.xs.length : Nat) k1 ch1, ndO E iso 0 c2.b (c2.xs.length : Nat) k2 ch2, kdO (ptr bc) ((A ++ c1 :: c2 :: B).map fun g => some g.b), kdO ch1 p1, kdO ch2 p2] := by
  obtain ⟨a1, -, -⟩ := t.apart
  have s1 : ∀ y o, F1 y o → c1.F y o := fun y o g => (t.f1 y o).2 (.inl g)
  have s4 : ∀ y o, F4 y o → c1.F y o := fun y o g => (t.f1 y o).2 (.inr (.inl g))
  have s2 : ∀ y o, F2 y o → c2.F y o := fun y o g => (t.f2 y o).2 (.inl g)
  have s5 : ∀ y o, F5 y o → c2.F y o := fun y o g => (t.f2 y o).2 (.inr (.inl g))
  have m1 : c1 ∈ A ++ c1 :: c2 :: B := by simp
  have m2 : c2 ∈ A ++ c1 :: c2 :: B := by simp
  have d01 : Dj F0 F1 := fun y o g k => t.l0.g1 c1 m1 y o (s1 y o k) g
  have d02 : Dj F0 F2 := fun y o g k => t.l0.g1 c2 m2 y o (s2 y o k) g
  have d04 : Dj F0 F4 := fun y o g k => t.l0.g1 c1 m1 y o (s4 y o k) g
  have d05 : Dj F0 F5 := fun y o g k => t.l0.g1 c2 m2 y o (s5 y o k) g
  have d31 : Dj F3 F1 := fun y o g k => t.l0.g4 c1 m1 y o (s1 y o k) g
  have d32 : Dj F3 F2 := fun y o g k => t.l0.g4 c2 m2 y o (s2 y o k) g
  have d34 : Dj F3 F4 := fun y o g k => t.l0.g4 c1 m1 y o (s4 y o k) g
  have d35 : Dj F3 F5 := fun y o g k => t.l0.g4 c2 m2 y o (s5 y o k) g
  have d12 : Dj F1 F2 := fun y o g k => a1 y o (s1 y o g) (s2 y o k)
  have d15 : Dj F1 F5 := fun y o g k => a1 y o (s1 y o g) (s5 y o k)
  have d42 : Dj F4 F2 := fun y o g k => a1 y o (s4 y o g) (s2 y o k)
  have d45 : Dj F4 F5 := fun y o g k => a1 y o (s4 y o g) (s5 y o k)
  refine ⟨fun | 0 => F0 | 1 => F1 | 2 => F2 | 3 => F3 | 4 => F4 | _ => F5, fun | 0 => K0 | 1 => K1 | 2 => K2 | 3 => K3 | 4 => K4 | _ => K5, ⟨fun i C hi => ?_, fun i j hi hj hij => ?_, fun i hi y o g => .inl ?_, fun i hi => ?_, Ext.refl _ _⟩⟩
  · match i, hi with
    | 0, hi => cases hi; exact t.n0
    | 1, hi => cases hi; exact t.n1
    | 2, hi => cases hi; exact t.n2
    | 3, hi => cases hi; exact t.n3
    | 4, hi => cases hi; exact t.n4
    | 5, hi => cases hi; exact t.n5
    | n + 6, hi => simp at hi
  · show Dj _ _
    match i, j, hi, hj, hij with
    | 0, 0, _, _, h => exact (h rfl).elim
    | 0, 1, _, _, _ => exact d01
    | 0, 2, _, _, _ => exact d02
    | 0, 3, _, _, _ => exact t.l0.d
    | 0, 4, _, _, _ => exact d04
    | 0, 5, _, _, _ => exact d05
    | 1, 0, _, _, _ => exact d01.symm
    | 1, 1, _, _, h => exact (h rfl).elim
    | 1, 2, _, _, _ => exact d12
    | 1, 3, _, _, _ => exact d31.symm
    | 1, 4, _, _, _ => exact t.l1.d
    | 1, 5, _, _, _ => exact d15
    | 2, 0, _, _, _ => exact d02.symm
    | 2, 1, _, _, _ => exact d12.symm
    | 2, 2, _, _, h => exact (h rfl).elim
    | 2, 3, _, _, _ => exact d32.symm
    | 2, 4, _, _, _ => exact d42.symm
    | 2, 5, _, _, _ => exact t.l2.d
    | 3, 0, _, _, _ => exact t.l0.d.symm
    | 3, 1, _, _, _ => exact d31
    | 3, 2, _, _, _ => exact d32
    | 3, 3, _, _, h => exact (h rfl).elim
    | 3, 4, _, _, _ => exact d34
    | 3, 5, _, _, _ => exact d35
    | 4, 0, _, _, _ => exact d04.symm
    | 4, 1, _, _, _ => exact t.l1.d.symm
    | 4, 2, _, _, _ => exact d42
    | 4, 3, _, _, _ => exact d34.symm
    | 4, 4, _, _, h => exact (h rfl).elim
    | 4, 5, _, _, _ => exact d45
    | 5, 0, _, _, _ => exact d05.symm
    | 5, 1, _, _, _ => exact d15.symm
    | 5, 2, _, _, _ => exact t.l2.d.symm
    | 5, 3, _, _, _ => exact d35.symm
    | 5, 4, _, _, _ => exact d45.symm
    | 5, 5, _, _, h => exact (h rfl).elim
    | n + 6, _, hi, _, _ => exact absurd hi (by simp)
    | _, n + 6, _, hj, _ => exact absurd hj (by simp)
  · match i, hi, g with
    | 0, _, g => exact .inl g
    | 1, _, g => exact .inr (.inl g)
    | 2, _, g => exact .inr (.inr (.inl g))
    | 3, _, g => exact .inr (.inr (.inr (.inl g)))
    | 4, _, g => exact .inr (.inr (.inr (.inr (.inl g))))
    | 5, _, g => exact .inr (.inr (.inr (.inr (.inr g))))
    | n + 6, hi, _ => exact absurd hi (by simp)
  · match i, hi with
    | 0, _ => exact t.l0.r
    | 1, _ => exact t.l1.r
    | 2, _ => exact t.l2.r
    | n + 3, hi => exact absurd hi (by simp)
/-- The other children and the grandchildren lie apart from all that is written. -/
theorem Two.far (t : Two E iso mn mx h w b bc cnt ks A B c1 c2 F0 F3 K0 K3 F1 F4 K1 K4 k1 ch1 p1 g1 F2 F5 K2 K5 k2 ch2 p2 g2) :
    (∀ c ∈ A ++ B, Dj c.F (six F0 F1 F2 F3 F4 F5)) ∧ (∀ c ∈ g1 ++ g2, Dj c.F (six F0 F1 F2 F3 F4 F5)) ∧ (g1 ++ g2).Pairwise (fun c d => Dj c.F d.F) ∧ ∀ a ∈ A ++ B, ∀ c ∈ g1 ++ g2, Dj a.F c.F := by
  obtain ⟨a1, a2, -⟩ := t.apart
  have s1 : ∀ y o, F1 y o → c1.F y o := fun y o g => (t.f1 y o).2 (.inl g)
  have s4 : ∀ y o, F4 y o → c1.F y o := fun y o g => (t.f1 y o).2 (.inr (.inl g))
  have s2 : ∀ y o, F2 y o → c2.F y o := fun y o g => (t.f2 y o).2 (.inl g)
  have s5 : ∀ y o, F5 y o → c2.F y o := fun y o g => (t.f2 y o).2 (.inr (.inl g))
  have m1 : c1 ∈ A ++ c1 :: c2 :: B := by simp
  have m2 : c2 ∈ A ++ c1 :: c2 :: B := by simp
  have e1 : ∀ c ∈ g1, ∀ y o, c.F y o → c1.F y o := fun c hc y o g => (t.f1 y o).2 (.inr (.inr ⟨c, hc, g⟩))
  have e2 : ∀ c ∈ g2, ∀ y o, c.F y o → c2.F y o := fun c hc y o g => (t.f2 y o).2 (.inr (.inr ⟨c, hc, g⟩))
  refine ⟨fun c hc y o g k => ?_, fun c hc y o g k => ?_, List.pairwise_append.2 ⟨t.l1.two, t.l2.two, fun c hc d hd y o g k => a1 y o (e1 c hc y o g) (e2 d hd y o k)⟩, fun a ha c hc y o g k => ?_⟩
  · have hm : c ∈ A ++ c1 :: c2 :: B := by
      rcases List.mem_append.1 hc with h | h
      · simp [h]
      · simp [h]
    obtain ⟨a3, a4⟩ := a2 c hc
    rcases k with k | k | k | k | k | k
    · exact t.l0.g1 c hm y o g k
    · exact a3 y o g (s1 y o k)
    · exact a4 y o g (s2 y o k)
    · exact t.l0.g4 c hm y o g k
    · exact a3 y o g (s4 y o k)
    · exact a4 y o g (s5 y o k)
  · rcases List.mem_append.1 hc with hc | hc
    · have gc := e1 c hc y o g
      rcases k with k | k | k | k | k | k
      · exact t.l0.g1 c1 m1 y o gc k
      · exact t.l1.g1 c hc y o g k
      · exact a1 y o gc (s2 y o k)
      · exact t.l0.g4 c1 m1 y o gc k
      · exact t.l1.g4 c hc y o g k
      · exact a1 y o gc (s5 y o k)
    · have gc := e2 c hc y o g
      rcases k with k | k | k | k | k | k
      · exact t.l0.g1 c2 m2 y o gc k
      · exact a1 y o (s1 y o k) gc
      · exact t.l2.g1 c hc y o g k
      · exact t.l0.g4 c2 m2 y o gc k
      · exact a1 y o (s4 y o k) gc
      · exact t.l2.g4 c hc y o g k
  · obtain ⟨a3, a4⟩ := a2 a ha
    rcases List.mem_append.1 hc with hc | hc
    · exact a3 y o g (e1 c hc y o k)
    · exact a4 y o g (e2 c hc y o k)
/-- One of the two, as it stands behind the run. -/
theorem Two.kid (t : Two E iso mn mx h w b bc cnt ks A B c1 c2 F0 F3 K0 K3 F1 F4 K1 K4 k1 ch1 p1 g1 F2 F5 K2 K5 k2 ch2 p2 g2) {w' : World} {P : List Ob} {F' : Nat → Nat → Nat → Prop} {K' : Nat → Nat}
    (s : St w (six F0 F1 F2 F3 F4 F5) w' P F' K') (i : Nat) {cb : Nat} {cnt' : Int} {ks' xs' : List α} {ch : Value} {ps : List (Option Nat)} {gs : List (Kid α)} (hi : P[i]? = some (ndO E iso 0 cb cnt' ks' ch)) (hj : P[i + 3]? = some (kdO ch ps))
    (q : Kin E iso mn mx h w ch ps ks' xs' gs) (hs : gs.Sublist (g1 ++ g2)) (h1 : mn ≤ ks'.length) (h2 : ks'.length ≤ mx) (h0 : 1 ≤ mn) (hc : cnt' = (xs'.length : Nat)) :
    Tr E iso mn mx h w' mn cb xs' fun y o => F' i y o ∨ F' (i + 3) y o ∨ kinF gs y o := by
  obtain ⟨-, f2, f3, -⟩ := t.far
  have hil := (List.getElem?_eq_some_iff.1 hi).1
  have hjl := (List.getElem?_eq_some_iff.1 hj).1
  have ha : ∀ c ∈ gs, ∀ n, n < P.length → Dj c.F (F' n) := fun c hc n hn y o g k => by
    rcases s.s n hn y o k with k | k
    · exact f2 c (hs.subset hc) y o g k
    · have := q.lt c hc y o g; omega
  exact Tr.join (s.o i _ hi) (s.o (i + 3) _ hj) (q.ext s.x fun c hc => f2 c (hs.subset hc)) h1 h2 (.inl (by omega)) ⟨s.d i (i + 3) hil hjl (by omega), fun c hc => ha c hc i hil, fun c hc => ha c hc (i + 3) hjl, f3.sublist hs, s.r i hjl⟩ hc
/-- The node with new children in the two's place. -/
theorem Two.close (t : Two E iso mn mx h w b bc cnt ks A B c1 c2 F0 F3 K0 K3 F1 F4 K1 K4 k1 ch1 p1 g1 F2 F5 K2 K5 k2 ch2 p2 g2) {w' : World} {P : List Ob} {F' : Nat → Nat → Nat → Prop} {K' : Nat → Nat}
    (s : St w (six F0 F1 F2 F3 F4 F5) w' P F' K') (hP : P.length = 6) (new : List (Kid α)) {ks' : List α} {lo : Nat} (h0 : P[0]? = some (ndO E iso 1 b cnt ks' (ptr bc))) (h3 : P[3]? = some (kdO (ptr bc) ((A ++ (new ++ B)).map fun g => some g.b)))
    (hl : (A ++ (new ++ B)).length = ks'.length + 1) (hT : ∀ n ∈ new, Tr E iso mn mx h w' mn n.b n.xs n.F) (hF : ∀ n ∈ new, ∀ y o, n.F y o → (∃ i, (i = 1 ∨ i = 2 ∨ i = 4 ∨ i = 5) ∧ F' i y o) ∨ kinF (g1 ++ g2) y o)
    (h2 : new.Pairwise fun c d => Dj c.F d.F) (hlo : lo ≤ ks'.length) (hmx : ks'.length ≤ mx) (hc : cnt = ((weave ((A ++ (new ++ B)).map Kid.xs) ks').length : Nat)) :
    ∃ F'', Tr E iso mn mx (h + 1) w' lo b (weave ((A ++ (new ++ B)).map Kid.xs) ks') F'' ∧ ∀ y o, F'' y o → (F0 y o ∨ F3 y o ∨ kinF (A ++ c1 :: c2 :: B) y o) ∨ w.heap.size ≤ y := by
  obtain ⟨f1, f2, f3, f4⟩ := t.far
  obtain ⟨-, -, a3⟩ := t.apart
  have hlt : ∀ c ∈ A ++ B, ∀ y o, c.F y o → y < w.heap.size := fun c hc => (t.rest c hc).lt
  have glt : ∀ c ∈ g1 ++ g2, ∀ y o, c.F y o → y < w.heap.size := fun c hc => by
    rcases List.mem_append.1 hc with hc | hc
    · exact t.q1.lt c hc
    · exact t.q2.lt c hc
  have oldF : ∀ c ∈ A ++ B, ∀ n, n < 6 → Dj c.F (F' n) := fun c hc n hn y o g k => by
    rcases s.s n (by omega) y o k with k | k
    · exact f1 c hc y o g k
    · have := hlt c hc y o g; omega
  have gF : ∀ n, n < 6 → Dj (kinF (g1 ++ g2)) (F' n) := fun n hn y o g k => by
    obtain ⟨c, hc, g⟩ := g
    rcases s.s n (by omega) y o k with k | k
    · exact f2 c hc y o g k
    · have := glt c hc y o g; omega
  have newF : ∀ c ∈ new, ∀ n, n = 0 ∨ n = 3 → Dj c.F (F' n) := fun c hc n hn y o g k => by
    rcases hF c hc y o g with ⟨i, hi, g⟩ | g
    · exact s.d i n (by omega) (by omega) (by omega) y o g k
    · exact gF n (by omega) y o g k
  have oldN : ∀ a ∈ A ++ B, ∀ c ∈ new, Dj a.F c.F := fun a ha c hc y o g k => by
    rcases hF c hc y o k with ⟨i, hi, k⟩ | ⟨e, he, k⟩
    · exact oldF a ha i (by omega) y o g k
    · exact f4 a ha e he y o g k
  have hmem : ∀ c ∈ A ++ (new ++ B), c ∈ A ++ B ∨ c ∈ new := fun c hc => by
    rcases List.mem_append.1 hc with h | h
    · exact .inl (by simp [h])
    · rcases List.mem_append.1 h with h | h
      · exact .inr h
      · exact .inl (by simp [h])
  obtain ⟨p1, p2, p3⟩ := List.pairwise_append.1 a3
  refine ⟨_, Tr.join (s.o 0 _ h0) (s.o 3 _ h3) (.inr ⟨h, rfl, ⟨bc, rfl⟩, rfl, hl, rfl, fun c hc => ?_⟩) hlo hmx (.inr (Nat.le_refl _)) ⟨s.d 0 3 (by omega) (by omega) (by decide), fun c hc => ?_, fun c hc => ?_, ?_, s.r 0 (by omega)⟩ hc, fun y o g => ?_⟩
  · rcases hmem c hc with h | h
    · exact (t.rest c h).ext s.x (f1 c h)
    · exact hT c h
  · rcases hmem c hc with h | h
    · exact oldF c h 0 (by decide)
    · exact newF c h 0 (.inl rfl)
  · rcases hmem c hc with h | h
    · exact oldF c h 3 (by decide)
    · exact newF c h 3 (.inr rfl)
  · refine List.pairwise_append.2 ⟨p1, List.pairwise_append.2 ⟨h2, p2, fun c hc d hd => (oldN d (by simp [hd]) c hc).symm⟩, fun c hc d hd => ?_⟩
    rcases List.mem_append.1 hd with hd | hd
    · exact oldN c (by simp [hc]) d hd
    · exact p3 c hc d hd
  · have six_sub : ∀ y o, six F0 F1 F2 F3 F4 F5 y o → F0 y o ∨ F3 y o ∨ kinF (A ++ c1 :: c2 :: B) y o := fun y o g => by
      rcases g with g | g | g | g | g | g
      · exact .inl g
      · exact .inr (.inr ⟨c1, by simp, (t.f1 y o).2 (.inl g)⟩)
      · exact .inr (.inr ⟨c2, by simp, (t.f2 y o).2 (.inl g)⟩)
      · exact .inr (.inl g)
      · exact .inr (.inr ⟨c1, by simp, (t.f1 y o).2 (.inr (.inl g))⟩)
      · exact .inr (.inr ⟨c2, by simp, (t.f2 y o).2 (.inr (.inl g))⟩)
    have put : ∀ n, n < 6 → F' n y o → (F0 y o ∨ F3 y o ∨ kinF (A ++ c1 :: c2 :: B) y o) ∨ w.heap.size ≤ y := fun n hn g => (s.s n (by omega) y o g).imp (six_sub y o) id
    rcases g with g | g | ⟨c, hc, g⟩
    · exact put 0 (by decide) g
    · exact put 3 (by decide) g
    · rcases hmem c hc with hm | hm
      · refine .inl (.inr (.inr ⟨c, ?_, g⟩))
        rcases List.mem_append.1 hm with h | h
        · simp [h]
        · simp [h]
      · rcases hF c hm y o g with ⟨i, hi, g⟩ | ⟨e, he, g⟩
        · exact put i (by omega) g
        · rcases List.mem_append.1 he with he | he
          · exact .inl (.inr (.inr ⟨c1, by simp, (t.f1 y o).2 (.inr (.inr ⟨e, he, g⟩))⟩))
          · exact .inl (.inr (.inr ⟨c2, by simp, (t.f2 y o).2 (.inr (.inr ⟨e, he, g⟩))⟩))
theorem Two.six (t : Two E iso mn mx h w b bc cnt ks A B c1 c2 F0 F3 K0 K3 F1 F4 K1 K4 k1 ch1 p1 g1 F2 F5 K2 K5 k2 ch2 p2 g2) {y o : Nat} (g : Go.Proofs.Ytanmjbkbdmeckaa.six F0 F1 F2 F3 F4 F5 y o) : F0 y o ∨ F3 y o ∨ kinF (A ++ c1 :: c2 :: B) y o := by
  rcases g with g | g | g | g | g | g
  · exact .inl g
  · exact .inr (.inr ⟨c1, by simp, (t.f1 y o).2 (.inl g)⟩)
  · exact .inr (.inr ⟨c2, by simp, (t.f2 y o).2 (.inl g)⟩)
  · exact .inr (.inl g)
  · exact .inr (.inr ⟨c1, by simp, (t.f1 y o).2 (.inr (.inl g))⟩)
  · exact .inr (.inr ⟨c2, by simp, (t.f2 y o).2 (.inr (.inl g))⟩)
theorem Two.ch (t : Two E iso mn mx h w b bc cnt ks A B c1 c2 F0 F3 K0 K3 F1 F4 K1 K4 k1 ch1 p1 g1 F2 F5 K2 K5 k2 ch2 p2 g2) :
    (ch1 = .pointer none ∧ ch2 = .pointer none ∧ p1 = [] ∧ p2 = []) ∨ ∃ lc rc, ch1 = ptr lc ∧ ch2 = ptr rc ∧ p1.length = k1.length + 1 ∧ p2.length = k2.length + 1 := by
  rcases t.q1 with ⟨h0, ha, hp, _⟩ | ⟨h', h1, ⟨lc, ha⟩, hp, hg, _⟩
  · rcases t.q2 with ⟨_, hb, hq, _⟩ | ⟨h', h1, _⟩
    · exact .inl ⟨ha, hb, hp, hq⟩
    · omega
  · rcases t.q2 with ⟨h0, _⟩ | ⟨_, _, ⟨rc, hb⟩, hq, hg2, _⟩
    · omega
    · exact .inr ⟨lc, rc, ha, hb, by rw [hp, List.length_map]; exact hg, by rw [hq, List.length_map]; exact hg2⟩
end
/-- A node one of whose children may have one key less than it ought to. -/
structure Shr (E : Enc α) (iso : Int) (mn mx h : Nat) (w : World) (b bc : Nat) (cnt : Int) (ks : List α) (A : List (Kid α)) (c : Kid α) (B : List (Kid α)) (F0 F3 : Nat → Nat → Prop) (K0 K3 : Nat) : Prop where
  n0 : (ndO E iso 1 b cnt ks (ptr bc)).p w F0 K0
  n3 : (kdO (ptr bc) ((A ++ c :: B).map fun g => some g.b)).p w F3 K3
  l0 : Lay F0 F3 K0 K3 (A ++ c :: B)
  t : Tr E iso mn mx h w (mn - 1) c.b c.xs c.F
  rest : ∀ a ∈ A ++ B, Tr E iso mn mx h w mn a.b a.xs a.F
theorem Tr.keys {w : World} {h lo b : Nat} {xs : List α} {F : Nat → Nat → Prop} (t : Tr E iso mn mx h w lo b xs F) :
    ∃ a n cap, rd w b 2 = some (.slice (some a) n cap) ∧ lo ≤ n ∧ n ≤ mx ∧ ∀ lo', lo' ≤ n → Tr E iso mn mx h w lo' b xs F := by
  cases h with
  | zero =>
    obtain ⟨bi, oi, cap, ho, h1, h2, hF⟩ := t
    exact ⟨_, _, _, ho.h2, h1, h2, fun lo' hl => ⟨bi, oi, cap, ho, hl, h2, hF⟩⟩
  | succ h =>
    obtain ⟨bi, oi, cap, bc, ba, oa, capc, ks, cs, ho, hk, h1, h2, h3⟩ := t
    exact ⟨_, _, _, ho.h2, h1, h2, fun lo' hl => ⟨bi, oi, cap, bc, ba, oa, capc, ks, cs, ho, hk, hl, h2, h3⟩⟩
theorem Shr.fine {h : Nat} {w : World} {b bc : Nat} {cnt : Int} {ks : List α} {A B : List (Kid α)} {c : Kid α} {F0 F3 : Nat → Nat → Prop} {K0 K3 lo : Nat} (s : Shr E iso mn mx h w b bc cnt ks A c B F0 F3 K0 K3) (hl : (A ++ c :: B).length = ks.length + 1)
    (hc : Tr E iso mn mx h w mn c.b c.xs c.F) (hlo : lo ≤ ks.length) (hmx : ks.length ≤ mx) (hcnt : cnt = ((weave ((A ++ c :: B).map Kid.xs) ks).length : Nat)) :
    Tr E iso mn mx (h + 1) w lo b (weave ((A ++ c :: B).map Kid.xs) ks) fun y o => F0 y o ∨ F3 y o ∨ kinF (A ++ c :: B) y o :=
  Tr.join s.n0 s.n3 (.inr ⟨h, rfl, ⟨bc, rfl⟩, rfl, hl, rfl, fun a ha => by
    rcases List.mem_append.1 ha with ha | ha
    · exact s.rest a (by simp [ha])
    · rcases List.mem_cons.1 ha with rfl | ha
      · exact hc
      · exact s.rest a (by simp [ha])⟩) hlo hmx (.inr (Nat.le_refl _)) s.l0 hcnt
theorem Shr.ext0 {h : Nat} {w w' : World} {b bc : Nat} {cnt : Int} {ks : List α} {A B : List (Kid α)} {c : Kid α} {F0 F3 : Nat → Nat → Prop} {K0 K3 : Nat} (s : Shr E iso mn mx h w b bc cnt ks A c B F0 F3 K0 K3) (x : Ext noF w w') : Shr E iso mn mx h w' b bc cnt ks A c B F0 F3 K0 K3 :=
  ⟨(ndO _ _ _ _ _ _ _).loc s.n0 x fun _ _ _ g => g, (kdO _ _).loc s.n3 x fun _ _ _ g => g, s.l0, s.t.ext x fun _ _ _ g => g, fun a ha => (s.rest a ha).ext x fun _ _ _ g => g⟩
/-- An inner node one of whose children was changed. -/
theorem Inn.shr {h : Nat} {w w' : World} {b : Nat} {xs : List α} {F : Nat → Nat → Prop} {bi oi cap : Nat} {cnt : Int} {ks : List α} {bc ba oa capc : Nat} {cs : List (Kid α)} (o : Own E w b iso cnt bi oi cap ks (ptr bc))
    (n : Inn E iso mn mx h w b xs F bi oi cap ks bc ba oa capc cs) (hk : 1 ≤ ks.length) {i : Nat} {c : Kid α} (hc : cs[i]? = some c) {G : Nat → Nat → Prop} (x : Ext G w w') (hG : ∀ y o, F y o → G y o → c.F y o) {zs : List α} {F' : Nat → Nat → Prop}
    (t : Tr E iso mn mx h w' (mn - 1) c.b zs F') (hF' : ∀ y o, F' y o → c.F y o ∨ w.heap.size ≤ y) :
    Shr E iso mn mx h w' b bc cnt ks (cs.take i) ⟨c.b, zs, F'⟩ (cs.drop (i + 1)) (ownF E b bi oi cap) (kidF bc ba oa capc) bi ba := by
  have hcm := List.mem_of_getElem? hc
  have hi := (List.getElem?_eq_some_iff.1 hc).1
  have hbl := wok_lt o.wb
  have hbil := wok_lt o.wi
  have hbcl := wok_lt n.kids.wc
  have hbal := wok_lt n.kids.wa
  have ap := n.ap.swap (new := [⟨c.b, zs, F'⟩]) (B := w.heap.size) hc (fun d hd y o g => by
    obtain rfl := List.mem_singleton.1 hd
    exact hF' y o g) (List.pairwise_singleton _ _) (fun d hd y o g => (n.sub d hd).lt y o g) hbl hbil hbcl hbal
  have hcs : cs = cs.take i ++ c :: cs.drop (i + 1) := by
    have h3 := List.getElem?_eq_some_iff.1 hc
    have := List.take_append_drop i cs
    rw [List.drop_eq_getElem_cons h3.1, h3.2] at this
    exact this.symm
  have hold : ∀ a ∈ cs.take i ++ cs.drop (i + 1), a ∈ cs ∧ Dj a.F c.F := fun a ha => by
    have h2 := n.ap.two
    rw [hcs] at h2
    obtain ⟨p1, p2, p3⟩ := List.pairwise_append.1 h2
    obtain ⟨p4, p5⟩ := List.pairwise_cons.1 p2
    rcases List.mem_append.1 ha with ha | ha
    · exact ⟨List.mem_of_mem_take ha, p3 a ha c (by simp)⟩
    · exact ⟨List.mem_of_mem_drop ha, fun y o g k => p4 a ha y o k g⟩
  have hown : ∀ y o, ownF E b bi oi cap y o → ¬ G y o := fun y o g k => n.ap.own c hcm y o (hG y o ((n.fp y o).2 (.inl g)) k) g
  have hkid : ∀ y o, kidF bc ba oa capc y o → ¬ G y o := fun y o g k => n.ap.kid c hcm y o (hG y o ((n.fp y o).2 (.inr (.inl g))) k) g
  refine ⟨⟨bi, oi, cap, o.ext x hown, by have := o.le; omega, rfl, fun _ _ => Iff.rfl⟩, .inr ⟨bc, ba, oa, capc, rfl, ?_, rfl, fun _ _ => Iff.rfl⟩, ⟨fun y o g k => ?_, ap.own, ap.kid, ap.two, ap.ia⟩, t, fun a ha => ?_⟩
  · have hm : ((cs.take i ++ ⟨c.b, zs, F'⟩ :: cs.drop (i + 1)).map fun g => some g.b) = (cs.map Kid.b).map some := by
      conv => rhs; rw [hcs]
      simp
      rfl
    rw [hm]
    exact (n.kids.ext x hkid).se
  · have := ap.cb; have := ap.ab; have := ap.ic; have := ap.ia
    simp only [ownF, kidF, rng] at g k
    omega
  · obtain ⟨h1, h2⟩ := hold a ha
    exact (n.sub a h1).ext x fun y o g k => h2 y o g (hG y o ((n.fp y o).2 (.inr (.inr ⟨a, h1, g⟩))) k)
theorem Inn.shr_fp {h : Nat} {w : World} {b : Nat} {xs : List α} {F : Nat → Nat → Prop} {bi oi cap : Nat} {ks : List α} {bc ba oa capc : Nat} {cs : List (Kid α)}
    (n : Inn E iso mn mx h w b xs F bi oi cap ks bc ba oa capc cs) {i : Nat} {c : Kid α} (hc : cs[i]? = some c) {zs : List α} {F' : Nat → Nat → Prop} (hF' : ∀ y o, F' y o → c.F y o ∨ w.heap.size ≤ y) (y o : Nat)
    (g : ownF E b bi oi cap y o ∨ kidF bc ba oa capc y o ∨ kinF (cs.take i ++ ⟨c.b, zs, F'⟩ :: cs.drop (i + 1)) y o) : F y o ∨ w.heap.size ≤ y := by
  rcases g with g | g | ⟨a, ha, g⟩
  · exact .inl ((n.fp y o).2 (.inl g))
  · exact .inl ((n.fp y o).2 (.inr (.inl g)))
  · rcases List.mem_append.1 ha with ha | ha
    · exact .inl ((n.fp y o).2 (.inr (.inr ⟨a, List.mem_of_mem_take ha, g⟩)))
    · rcases List.mem_cons.1 ha with rfl | ha
      · exact (hF' y o g).imp (fun g => (n.fp y o).2 (.inr (.inr ⟨c, List.mem_of_getElem? hc, g⟩))) id
      · exact .inl ((n.fp y o).2 (.inr (.inr ⟨a, List.mem_of_mem_drop ha, g⟩)))
theorem shr_xs {cs : List (Kid α)} {i : Nat} {c : Kid α} (hc : cs[i]? = some c) {b : Nat} {zs : List α} {F' : Nat → Nat → Prop} : (cs.take i ++ ⟨b, zs, F'⟩ :: cs.drop (i + 1)).map Kid.xs = (cs.map Kid.xs).set i zs := by
  have hi := (List.getElem?_eq_some_iff.1 hc).1
  rw [List.set_eq_take_append_cons_drop, if_pos (by rw [List.length_map]; exact hi), List.map_append, List.map_cons, List.map_take, List.map_drop]
theorem shr_len {cs : List (Kid α)} {i : Nat} {c d : Kid α} (hc : cs[i]? = some c) : (cs.take i ++ d :: cs.drop (i + 1)).length = cs.length ∧ (cs.take i).length = i := by
  have hi := (List.getElem?_eq_some_iff.1 hc).1
  simp only [List.length_append, List.length_take, List.length_cons, List.length_drop]
  omega
end Go.Proofs.Ytanmjbkbdmeckaa
/-
  nodeRebalance: what it leaves of the tree. No condition.
-/
set_option linter.unusedSimpArgs false
set_option linter.unusedVariables false
namespace Go.Proofs.Ytanmjbkbdmeckaa
open Go Go.Proofs
theorem map_erase {α β : Type} (f : α → β) (l : List α) (i : Nat) : (l.map f).eraseIdx i = (l.eraseIdx i).map f := by
  rw [List.eraseIdx_eq_take_drop_succ, List.eraseIdx_eq_take_drop_succ, List.map_append, List.map_take, List.map_drop]
variable {h : Nat} {w : World} {b bc : Nat} {cnt : Int} {ks : List It} {A B : List (Kid It)} {c1 c2 : Kid It} {F0 F3 : Nat → Nat → Prop} {K0 K3 : Nat}
    {F1 F4 : Nat → Nat → Prop} {K1 K4 : Nat} {k1 : List It} {ch1 : Value} {p1 : List (Option Nat)} {g1 : List (Kid It)} {F2 F5 : Nat → Nat → Prop} {K2 K5 : Nat} {k2 : List It} {ch2 : Value} {p2 : List (Option Nat)} {g2 : List (Kid It)}
set_option maxHeartbeats 1000000 in
theorem reb_two (m d i0 : Nat) (iso : Int) (hd : 2 ≤ d) (hd' : d ≤ 128) (hc : Cfg w m iso d) (t : Two E iso (d - 1) (2 * d - 1) h w b bc cnt ks A B c1 c2 F0 F3 K0 K3 F1 F4 K1 K4 k1 ch1 p1 g1 F2 F5 K2 K5 k2 ch2 p2 g2)
    (hm : ∀ o, ¬ (F0 m o ∨ F3 m o ∨ kinF (A ++ c1 :: c2 :: B) m o)) (hlen : (A ++ c1 :: c2 :: B).length = ks.length + 1) (hj : (i0 = A.length ∧ A.length < ks.length) ∨ (i0 = ks.length ∧ A.length + 1 = ks.length)) (hks : ks.length ≤ 2 * d - 1)
    (hcnt : cnt = ((weave ((A ++ c1 :: c2 :: B).map Kid.xs) ks).length : Nat)) (hbig : (weave ((A ++ c1 :: c2 :: B).map Kid.xs) ks).length < 1152921504606846976) (h1 : d - 2 ≤ k1.length) (h2 : d - 2 ≤ k2.length) (h1' : k1.length ≤ 2 * d - 1) (h2' : k2.length ≤ 2 * d - 1)
    (hsh : k1.length < d - 1 ∨ k2.length < d - 1) :
    CallK Try.prog 176 #[ptr m, ptr b, .int .i64 (i0 : Nat)] w fun _ w' => ∃ F'', Tr E iso (d - 1) (2 * d - 1) (h + 1) w' (ks.length - 1) b (weave ((A ++ c1 :: c2 :: B).map Kid.xs) ks) F'' ∧
      Ext (fun y o => F0 y o ∨ F3 y o ∨ kinF (A ++ c1 :: c2 :: B) y o) w w' ∧ ∀ y o, F'' y o → (F0 y o ∨ F3 y o ∨ kinF (A ++ c1 :: c2 :: B) y o) ∨ w.heap.size ≤ y := by
  have hAk : A.length < ks.length := by omega
  obtain ⟨k, hk⟩ : ∃ k, ks[A.length]? = some k := ⟨_, List.getElem?_eq_getElem hAk⟩
  have s := t.init
  have hG : ∀ o, ¬ six F0 F1 F2 F3 F4 F5 m o := fun o g => hm o (t.six g)
  have hp : ((A ++ c1 :: c2 :: B).map fun g => some g.b)[A.length]? = some (some c1.b) := by simp
  have hq : ((A ++ c1 :: c2 :: B).map fun g => some g.b)[A.length + 1]? = some (some c2.b) := by simp
  have hps : ((A ++ c1 :: c2 :: B).map fun g => some g.b).length = ks.length + 1 := by rw [List.length_map]; exact hlen
  have hmap : (A ++ c1 :: c2 :: B).map Kid.xs = A.map Kid.xs ++ c1.xs :: c2.xs :: B.map Kid.xs := by simp
  have hk' : ks[(A.map Kid.xs).length]? = some k := by rw [List.length_map]; exact hk
  have hx1 : c1.xs.length < 1152921504606846976 ∧ c2.xs.length < 1152921504606846976 := by
    have e1 := weave_mem_length ((A ++ c1 :: c2 :: B).map Kid.xs) ks (by rw [List.length_map]; exact hlen) c1.xs (by simp)
    have e2 := weave_mem_length ((A ++ c1 :: c2 :: B).map Kid.xs) ks (by rw [List.length_map]; exact hlen) c2.xs (by simp)
    omega
  have hlA : (A ++ c1 :: c2 :: B).length = A.length + B.length + 2 := by simp; omega
  have far : ∀ {c : Kid It}, c ∈ g1 ++ g2 → (∀ o, c.F c.b o) → ∀ o, ¬ six F0 F1 F2 F3 F4 F5 c.b o := fun hc hs o g => t.far.2.1 _ hc _ o (hs o) g
  by_cases hlt : k1.length + k2.length < 2 * d - 1
  · refine CallK_mono (reb_merge m d b c1.b c2.b bc i0 A.length c1.xs.length c2.xs.length iso cnt ks k1 k2 k _ p1 p2 ch1 ch2 w w _ hd hd' hc hG s hj hks hk hps hp hq t.ch h1' h2' (by omega) (by omega) hlt) ?_
    rintro v w' hs
    have X := hs.x
    obtain ⟨F', K', s'⟩ := hs
    have q := t.q1.merge (k := k) t.q2
    have hw := weave_two (A.map Kid.xs) (B.map Kid.xs) c1.xs c2.xs ks k hk'
    rw [List.length_map] at hw
    have hle := List.length_eraseIdx_of_lt hAk
    have T := t.kid s' 1 rfl rfl q (List.Sublist.refl _) (by simp; omega) (by simp; omega) (by omega) (by simp <;> omega)
    have hpe : ((A ++ c1 :: c2 :: B).map fun g => some g.b).eraseIdx (A.length + 1) = (A ++ ([Kid.mk c1.b (c1.xs ++ k :: c2.xs) (fun y o => F' 1 y o ∨ F' 4 y o ∨ kinF (g1 ++ g2) y o)] ++ B)).map fun g => some g.b := by
      rw [map_erase, List.eraseIdx_append_of_length_le (by omega)]
      simp
    have hwe : (A ++ ([Kid.mk c1.b (c1.xs ++ k :: c2.xs) (fun y o => F' 1 y o ∨ F' 4 y o ∨ kinF (g1 ++ g2) y o)] ++ B)).map Kid.xs = A.map Kid.xs ++ (c1.xs ++ k :: c2.xs) :: B.map Kid.xs := by simp
    obtain ⟨F'', T', hF''⟩ := t.close s' rfl [Kid.mk c1.b (c1.xs ++ k :: c2.xs) (fun y o => F' 1 y o ∨ F' 4 y o ∨ kinF (g1 ++ g2) y o)] (ks' := ks.eraseIdx A.length) (lo := ks.length - 1) rfl (by rw [← hpe]; rfl)
      (by simp only [List.length_append, List.length_cons, List.length_nil]; omega) (fun n hn => by obtain rfl := List.mem_singleton.1 hn; exact T)
      (fun n hn y o g => by
        obtain rfl := List.mem_singleton.1 hn
        rcases g with g | g | g
        · exact .inl ⟨1, .inl rfl, g⟩
        · exact .inl ⟨4, by decide, g⟩
        · exact .inr g) (List.pairwise_singleton _ _) (by omega) (by omega) (by rw [hwe, ← hw, ← hmap]; exact hcnt)
    rw [hwe, ← hw, ← hmap] at T'
    exact ⟨F'', T', X.mono fun y o _ g => t.six g, hF''⟩
  · have two : ∀ {w' : World} {F' : Nat → Nat → Nat → Prop} {K' : Nat → Nat} {P : List Ob} {x : It} {x1' x2' l1 l2 : List It} {q1 q2 : List (Option Nat)} {gl gr : List (Kid It)} {n1 n2 : Int}, St w (six F0 F1 F2 F3 F4 F5) w' P F' K' →
        P = [ndO E iso 1 b cnt (ks.set A.length x) (ptr bc), ndO E iso 0 c1.b n1 l1 ch1, ndO E iso 0 c2.b n2 l2 ch2, kdO (ptr bc) ((A ++ c1 :: c2 :: B).map fun g => some g.b), kdO ch1 q1, kdO ch2 q2] →
        Kin E iso (d - 1) (2 * d - 1) h w ch1 q1 l1 x1' gl → Kin E iso (d - 1) (2 * d - 1) h w ch2 q2 l2 x2' gr → c1.xs ++ k :: c2.xs = x1' ++ x :: x2' → gl ++ gr = g1 ++ g2 → n1 = (x1'.length : Nat) → n2 = (x2'.length : Nat) →
        d - 1 ≤ l1.length → l1.length ≤ 2 * d - 1 → d - 1 ≤ l2.length → l2.length ≤ 2 * d - 1 →
        ∃ F'', Tr E iso (d - 1) (2 * d - 1) (h + 1) w' (ks.length - 1) b (weave ((A ++ c1 :: c2 :: B).map Kid.xs) ks) F'' ∧
          Ext (fun y o => F0 y o ∨ F3 y o ∨ kinF (A ++ c1 :: c2 :: B) y o) w w' ∧ ∀ y o, F'' y o → (F0 y o ∨ F3 y o ∨ kinF (A ++ c1 :: c2 :: B) y o) ∨ w.heap.size ≤ y := by
      intro w' F' K' P x x1' x2' l1 l2 q1 q2 gl gr n1 n2 s' hP Q1 Q2 hxx hgg hn1 hn2 hl1 hl1' hl2 hl2'
      subst hP
      have T1 := t.kid s' 1 rfl rfl Q1 (by rw [← hgg]; exact List.sublist_append_left _ _) hl1 hl1' (by omega) hn1
      have T2 := t.kid s' 2 rfl rfl Q2 (by rw [← hgg]; exact List.sublist_append_right _ _) hl2 hl2' (by omega) hn2
      have hw := weave_swap (A := A.map Kid.xs) (B := B.map Kid.xs) hk' hxx
      rw [List.length_map] at hw
      have hpe : (A ++ c1 :: c2 :: B).map (fun g => some g.b) = (A ++ ([Kid.mk c1.b x1' (fun y o => F' 1 y o ∨ F' 4 y o ∨ kinF gl y o), Kid.mk c2.b x2' (fun y o => F' 2 y o ∨ F' 5 y o ∨ kinF gr y o)] ++ B)).map fun g => some g.b := by simp
      have hwe : (A ++ ([Kid.mk c1.b x1' (fun y o => F' 1 y o ∨ F' 4 y o ∨ kinF gl y o), Kid.mk c2.b x2' (fun y o => F' 2 y o ∨ F' 5 y o ∨ kinF gr y o)] ++ B)).map Kid.xs = A.map Kid.xs ++ x1' :: x2' :: B.map Kid.xs := by simp
      obtain ⟨f1, f2, f3, f4⟩ := t.far
      have gF : ∀ c ∈ gl ++ gr, ∀ n, n < 6 → Dj c.F (F' n) := fun c hc n hn y o g k => by
        rw [hgg] at hc
        rcases s'.s n hn y o k with k | k
        · exact f2 c hc y o g k
        · have : y < w.heap.size := by
            rcases List.mem_append.1 hc with hc | hc
            · exact t.q1.lt c hc y o g
            · exact t.q2.lt c hc y o g
          omega
      have hd12 : Dj (fun y o => F' 1 y o ∨ F' 4 y o ∨ kinF gl y o) (fun y o => F' 2 y o ∨ F' 5 y o ∨ kinF gr y o) := by
        intro y o g k
        rcases g with g | g | ⟨c, hc, g⟩ <;> rcases k with k | k | ⟨e, he, k⟩
        · exact s'.d 1 2 (by simp) (by simp) (by decide) y o g k
        · exact s'.d 1 5 (by simp) (by simp) (by decide) y o g k
        · exact gF e (by simp [he]) 1 (by decide) y o k g
        · exact s'.d 4 2 (by simp) (by simp) (by decide) y o g k
        · exact s'.d 4 5 (by simp) (by simp) (by decide) y o g k
        · exact gF e (by simp [he]) 4 (by decide) y o k g
        · exact gF c (by simp [hc]) 2 (by decide) y o g k
        · exact gF c (by simp [hc]) 5 (by decide) y o g k
        · rw [← hgg] at f3
          exact (List.pairwise_append.1 f3).2.2 c hc e he y o g k
      have hls : (ks.set A.length x).length = ks.length := List.length_set
      obtain ⟨F'', T', hF''⟩ := t.close s' rfl [Kid.mk c1.b x1' (fun y o => F' 1 y o ∨ F' 4 y o ∨ kinF gl y o), Kid.mk c2.b x2' (fun y o => F' 2 y o ∨ F' 5 y o ∨ kinF gr y o)] (ks' := ks.set A.length x) (lo := ks.length - 1) rfl (by rw [← hpe]; rfl)
        (by simp only [List.length_append, List.length_cons, List.length_nil]; omega)
        (fun n hn => by
          rcases List.mem_cons.1 hn with rfl | hn
          · exact T1
          · obtain rfl := List.mem_singleton.1 hn; exact T2)
        (fun n hn y o g => by
          rcases List.mem_cons.1 hn with rfl | hn
          · rcases g with g | g | ⟨c, hc, g⟩
            · exact .inl ⟨1, by decide, g⟩
            · exact .inl ⟨4, by decide, g⟩
            · exact .inr ⟨c, by rw [← hgg]; simp [hc], g⟩
          · obtain rfl := List.mem_singleton.1 hn
            rcases g with g | g | ⟨c, hc, g⟩
            · exact .inl ⟨2, by decide, g⟩
            · exact .inl ⟨5, by decide, g⟩
            · exact .inr ⟨c, by rw [← hgg]; simp [hc], g⟩)
        (List.pairwise_pair.2 hd12) (by omega) (by omega) (by rw [hwe, ← hw, ← hmap]; exact hcnt)
      rw [hwe, ← hw, ← hmap] at T'
      exact ⟨F'', T', s'.x.mono fun y o _ g => t.six g, hF''⟩
    by_cases hgt : k2.length < k1.length
    · obtain ⟨ls, x, rfl⟩ : ∃ ls x, k1 = ls ++ [x] := ⟨k1.dropLast, k1.getLast (by intro h; rw [h] at hgt; simp at hgt), (List.dropLast_concat_getLast _).symm⟩
      obtain ⟨cg, x1', x2', gl, gr, Q1, Q2, hxx, hgg, e1, e2, e3, hg⟩ := t.q1.right (k := k) t.q2
      have hsx : x1'.length + 1 + x2'.length = c1.xs.length + 1 + c2.xs.length := by
        have := congrArg List.length hxx
        simp only [List.length_append, List.length_cons] at this
        omega
      refine CallK_mono (reb_right m d b c1.b c2.b bc i0 A.length c1.xs.length c2.xs.length iso cnt ks ls k2 k x _ p1 p2 ch1 ch2 w w _ hd hd' hc hG s hj hks hk hps hp hq t.ch h1' h2' (by omega) (by omega) (by omega) hgt cg e3 (by omega) ?_) ?_
      · rcases hg with hg | ⟨c, p', hp', hcm, hr, hself⟩
        · exact .inl hg
        · exact .inr ⟨c.b, p', hp', hr, far (by simp [hcm]) hself⟩
      · rintro v w' ⟨F', K', s'⟩
        rw [List.length_append, List.length_singleton] at h1 h1' hlt hgt hsh
        exact two s' rfl Q1 Q2 hxx hgg (by rw [e1]) (by rw [e2]) (by omega) (by omega) (by rw [List.length_cons]; omega) (by rw [List.length_cons]; omega)
    · obtain ⟨x, rs, rfl⟩ : ∃ x rs, k2 = x :: rs := by
        cases k2 with
        | nil => rw [List.length_nil] at hgt hlt; omega
        | cons x rs => exact ⟨x, rs, rfl⟩
      obtain ⟨cg, x1', x2', gl, gr, Q1, Q2, hxx, hgg, e1, e2, e3, hg⟩ := t.q1.left (k := k) t.q2
      have hsx : x1'.length + 1 + x2'.length = c1.xs.length + 1 + c2.xs.length := by
        have := congrArg List.length hxx
        simp only [List.length_append, List.length_cons] at this
        omega
      refine CallK_mono (reb_left m d b c1.b c2.b bc i0 A.length c1.xs.length c2.xs.length iso cnt ks k1 rs k x _ p1 p2 ch1 ch2 w w _ hd hd' hc hG s hj hks hk hps hp hq t.ch h1' h2' (by omega) (by omega) (by omega) (by omega) cg e3 (by omega) ?_) ?_
      · rcases hg with hg | ⟨c, p', hp', hcm, hr, hself⟩
        · exact .inl hg
        · exact .inr ⟨c.b, p', hp', hr, far (by simp [hcm]) hself⟩
      · rintro v w' ⟨F', K', s'⟩
        rw [List.length_cons] at h2 h2' hlt hgt hsh
        exact two s' rfl Q1 Q2 hxx hgg (by rw [e1]) (by rw [e2]) (by rw [List.length_append, List.length_singleton]; omega) (by rw [List.length_append, List.length_singleton]; omega) (by omega) (by omega)
theorem nd_len {w : World} {z b n cap : Nat} {cnt : Int} {k : List It} {ch : Value} {a : Option Addr} {F : Nat → Nat → Prop} {K : Nat} {iso : Int} (h : (ndO E iso z b cnt k ch).p w F K) (h2 : rd w b 2 = some (.slice a n cap)) : k.length = n := by
  obtain ⟨_, _, _, ho, _⟩ := h
  have := ho.h2.symm.trans h2
  simp only [Option.some.injEq, Value.slice.injEq] at this
  exact this.2.1
/-- A node with a child that is too short: what nodeRebalance leaves. -/
theorem reb_shr (m d : Nat) (iso : Int) (hd : 2 ≤ d) (hd' : d ≤ 128) (hc : Cfg w m iso d) {c : Kid It} (s : Shr E iso (d - 1) (2 * d - 1) h w b bc cnt ks A c B F0 F3 K0 K3) (hm : ∀ o, ¬ (F0 m o ∨ F3 m o ∨ kinF (A ++ c :: B) m o))
    (hlen : (A ++ c :: B).length = ks.length + 1) (hk0 : 1 ≤ ks.length) (hks : ks.length ≤ 2 * d - 1) (hcnt : cnt = ((weave ((A ++ c :: B).map Kid.xs) ks).length : Nat)) (hbig : (weave ((A ++ c :: B).map Kid.xs) ks).length < 1152921504606846976)
    {a : Option Addr} {n cap : Nat} (hr : rd w c.b 2 = some (.slice a n cap)) (hn : n < d - 1) :
    CallK Try.prog 176 #[ptr m, ptr b, .int .i64 (A.length : Nat)] w fun _ w' => ∃ F'', Tr E iso (d - 1) (2 * d - 1) (h + 1) w' (ks.length - 1) b (weave ((A ++ c :: B).map Kid.xs) ks) F'' ∧
      Ext (fun y o => F0 y o ∨ F3 y o ∨ kinF (A ++ c :: B) y o) w w' ∧ ∀ y o, F'' y o → (F0 y o ∨ F3 y o ∨ kinF (A ++ c :: B) y o) ∨ w.heap.size ≤ y := by
  obtain ⟨F1, F4, K1, K4, k1, ch1, p1, g1, n1, n4, q1, h1, h1', l1, f1⟩ := s.t.split
  have hk1 := nd_len n1 hr
  have hl : (A ++ c :: B).length = A.length + B.length + 1 := by simp; omega
  by_cases hA : A.length < ks.length
  · cases B with
    | nil => rw [List.length_nil] at hl; omega
    | cons c2 B =>
      obtain ⟨F2, F5, K2, K5, k2, ch2, p2, g2, n2, n5, q2, h2, h2', l2, f2⟩ := (s.rest c2 (by simp)).split
      have t : Two E iso (d - 1) (2 * d - 1) h w b bc cnt ks A B c c2 F0 F3 K0 K3 F1 F4 K1 K4 k1 ch1 p1 g1 F2 F5 K2 K5 k2 ch2 p2 g2 := ⟨s.n0, s.n3, s.l0, n1, n4, l1, f1, q1, n2, n5, l2, f2, q2, fun e he => s.rest e (by
        rcases List.mem_append.1 he with he | he
        · simp [he]
        · simp [he])⟩
      exact reb_two m d A.length iso hd hd' hc t hm hlen (.inl ⟨rfl, hA⟩) hks hcnt hbig (by omega) (by omega) h1' h2' (.inl (by omega))
  · obtain ⟨A, c0, rfl⟩ : ∃ A' c0, A = A' ++ [c0] := ⟨A.dropLast, A.getLast (by intro h; rw [h, List.length_nil] at hA; omega), (List.dropLast_concat_getLast _).symm⟩
    have hB : B = [] := List.eq_nil_of_length_eq_zero (by omega)
    subst hB
    obtain ⟨F2, F5, K2, K5, k2, ch2, p2, g2, n2, n5, q2, h2, h2', l2, f2⟩ := (s.rest c0 (by simp)).split
    have e : A ++ [c0] ++ [c] = A ++ c0 :: c :: [] := by simp
    obtain ⟨s1, s2, s3, s4, s5⟩ := s
    rw [List.length_append, List.length_singleton] at hl hA
    rw [e] at s2 s3 hm hlen hcnt hbig ⊢
    have t : Two E iso (d - 1) (2 * d - 1) h w b bc cnt ks A [] c0 c F0 F3 K0 K3 F2 F5 K2 K5 k2 ch2 p2 g2 F1 F4 K1 K4 k1 ch1 p1 g1 := ⟨s1, s2, s3, n2, n5, l2, f2, q2, n1, n4, l1, f1, q1, fun e he => s5 e (by
      simp at he; simp [he])⟩
    have hi : (A ++ [c0]).length = ks.length := by
      rw [List.length_append, List.length_singleton]
      simp only [List.length_append, List.length_cons, List.length_nil] at hlen
      omega
    exact reb_two m d (A ++ [c0]).length iso hd hd' hc t hm hlen (.inr ⟨hi, by rw [← hi]; simp⟩) hks hcnt hbig (by omega) (by omega) h2' h1' (.inr (by omega))
end Go.Proofs.Ytanmjbkbdmeckaa
/-
  What a deletion leaves of a list, and how it passes to a child's list. No program in sight. No condition.
-/
set_option linter.unusedSimpArgs false
set_option linter.unusedVariables false
namespace Go.Proofs.Ytanmjbkbdmeckaa
open Go
section
variable {α R : Type} (O : SOrd R) (κ : α → R)
/-- A deletion: of the last one, or of the one with rank q; the one that goes, and those that stay. -/
def delR (mx : Bool) (q : R) (xs : List α) : Option (α × List α) :=
  if mx = true then xs.getLast?.map fun y => (y, xs.dropLast) else (at? O κ q xs).map fun y => (y, del O κ q xs)
variable {O κ}
theorem delR_max {q : R} {A m : List α} (hm : m ≠ []) : delR O κ true q (A ++ m) = (delR O κ true q m).map fun p => (p.1, A ++ p.2) := by
  simp only [delR, ↓reduceIte]
  obtain ⟨l, x, rfl⟩ : ∃ l x, m = l ++ [x] := ⟨m.dropLast, m.getLast hm, (List.dropLast_concat_getLast hm).symm⟩
  rw [← List.append_assoc, List.getLast?_concat, List.getLast?_concat, List.dropLast_concat, List.dropLast_concat]
  rfl
theorem delR_last {q : R} {l : List α} {x : α} : delR O κ true q (l ++ [x]) = some (x, l) := by
  simp only [delR, ↓reduceIte, List.getLast?_concat, List.dropLast_concat, Option.map_some]
theorem delR_key {A C : List α} {k : α} (ha : Asc O κ (A ++ k :: C)) : delR O κ false (κ k) (A ++ k :: C) = some (k, A ++ C) := by
  obtain ⟨h1, h2⟩ := found_mid O κ ha
  have h3 : (A ++ k :: C)[A.length]? = some k := by simp
  simp only [delR, at?, del, h2, h1, ↓reduceIte, h3, Option.map_some, Bool.false_eq_true]
  rw [List.eraseIdx_append_of_length_le (Nat.le_refl _)]
  simp
theorem delR_leaf {q : R} {xs : List α} {k : α} (hh : hit O κ q xs = true) (hk : xs[lb O κ q xs]? = some k) : delR O κ false q xs = some (k, xs.eraseIdx (lb O κ q xs)) := by
  simp only [delR, at?, del, hh, ↓reduceIte, hk, Option.map_some, Bool.false_eq_true]
theorem delR_miss {q : R} {xs : List α} (hh : hit O κ q xs = false) : delR O κ false q xs = none := by
  simp only [delR, at?, hh, ↓reduceIte, Option.map_none, Bool.false_eq_true]
theorem delR_mid {q : R} {a m c : List α} (ha : ∀ x ∈ a, O.lt (κ x) q = true) (hc : ∀ x ∈ c.head?, O.lt q (κ x) = true) : delR O κ false q (a ++ m ++ c) = (delR O κ false q m).map fun p => (p.1, a ++ p.2 ++ c) := by
  cases hh : hit O κ q m with
  | false => rw [delR_miss hh, delR_miss (by rw [hit_mid O κ ha hc]; exact hh)]; rfl
  | true =>
    obtain ⟨k, hk, _⟩ := hit_at O κ hh
    have hl := lb_mid O κ (q := q) (a := a) (m := m) (c := c) ha fun x hx => O.asym (hc x hx)
    have hi := (List.getElem?_eq_some_iff.1 hk).1
    rw [delR_leaf hh hk, delR_leaf (k := k) (by rw [hit_mid O κ ha hc]; exact hh) (by
      rw [hl, List.append_assoc, List.getElem?_append_right (by omega), Nat.add_sub_cancel_left, List.getElem?_append_left hi]; exact hk), hl]
    simp only [Option.map_some, List.append_assoc]
    rw [List.eraseIdx_append_of_length_le (by omega), Nat.add_sub_cancel_left, List.eraseIdx_append_of_lt_length hi]
theorem delR_len {mx : Bool} {q : R} {xs ys : List α} {y : α} (h : delR O κ mx q xs = some (y, ys)) : ys.length + 1 = xs.length := by
  cases mx with
  | true =>
    rcases List.eq_nil_or_concat xs with rfl | ⟨l, x, rfl⟩
    · simp [delR] at h
    · rw [List.concat_eq_append, delR_last] at h
      cases h
      simp
  | false =>
    cases hh : hit O κ q xs with
    | false => rw [delR_miss hh] at h; cases h
    | true =>
      obtain ⟨k, hk, _⟩ := hit_at O κ hh
      have hi := (List.getElem?_eq_some_iff.1 hk).1
      rw [delR_leaf hh hk] at h
      cases h
      rw [List.length_eraseIdx_of_lt hi]; omega
theorem delR_asc {mx : Bool} {q : R} {xs ys : List α} {y : α} (ha : Asc O κ xs) (h : delR O κ mx q xs = some (y, ys)) : Asc O κ ys := by
  cases mx with
  | true =>
    rcases List.eq_nil_or_concat xs with rfl | ⟨l, x, rfl⟩
    · simp [delR] at h
    · rw [List.concat_eq_append, delR_last] at h
      rw [List.concat_eq_append] at ha
      cases h
      exact ((Asc.append O κ).1 ha).1
  | false =>
    cases hh : hit O κ q xs with
    | false => rw [delR_miss hh] at h; cases h
    | true =>
      obtain ⟨k, hk, _⟩ := hit_at O κ hh
      rw [delR_leaf hh hk] at h
      cases h
      exact ha.sublist (List.eraseIdx_sublist _ _)
/-- The last child's list is the end of the whole. -/
theorem weave_end : ∀ (L : List (List α)) (ks : List α), L.length = ks.length → ∃ A, ∀ c, weave (L ++ [c]) ks = A ++ c
  | [], [], _ => ⟨[], fun _ => rfl⟩
  | [], _ :: _, h => by simp at h
  | _ :: _, [], h => by simp at h
  | a :: L, k :: ks, h => by
    obtain ⟨A, hA⟩ := weave_end L ks (by simpa using h)
    exact ⟨a ++ k :: A, fun c => by rw [List.cons_append, weave_cons, hA]; simp⟩
/-- A key and the child ahead of it. -/
theorem weave_ahead {L B : List (List α)} {ks : List α} {k : α} (hk : ks[L.length]? = some k) : ∃ A C, ∀ c y, weave (L ++ c :: B) (ks.set L.length y) = A ++ c ++ y :: C := by
  have hi := (List.getElem?_eq_some_iff.1 hk).1
  obtain ⟨A, hA⟩ := weave_end L (ks.take L.length) (by rw [List.length_take]; omega)
  refine ⟨A, weave B (ks.drop (L.length + 1)), fun c y => ?_⟩
  rw [List.set_eq_take_append_cons_drop, if_pos hi, ← hA c]
  have := weave_cat (L ++ [c]) B (ks.take L.length) (ks.drop (L.length + 1)) y (by rw [List.length_append, List.length_take, List.length_singleton]; omega)
  rw [List.append_assoc] at this
  exact this
end
end Go.Proofs.Ytanmjbkbdmeckaa
/-
  Deleting an item from a node of a tree. No condition.
-/
set_option linter.unusedSimpArgs false
set_option linter.unusedVariables false
namespace Go.Proofs.Ytanmjbkbdmeckaa
open Go Go.Proofs
def DelQ (ord : List Int) (d : Nat) (iso : Int) (h lo b : Nat) (xs : List It) (mx : Bool) (x : It) (hp : Option Nat) (F : Nat → Nat → Prop) (w : World) (v : Value) (w' : World) : Prop :=
  Ext (fun y o => F y o ∨ hF hp y o) w w' ∧ HOk hp w' ∧ ∃ F' : Nat → Nat → Prop, (∀ y o, F' y o → F y o ∨ w.heap.size ≤ y) ∧
    ((delR O (rkI ord) mx (rkI ord x) xs = none ∧ v = .tuple #[zV, .bool false] ∧ Tr E iso (d - 1) (2 * d - 1) h w' lo b xs F') ∨
     ∃ y ys, delR O (rkI ord) mx (rkI ord x) xs = some (y, ys) ∧ v = .tuple #[itV y, .bool true] ∧ Tr E iso (d - 1) (2 * d - 1) h w' (lo - 1) b ys F')
theorem dsrch (ord : List Int) (ks : List It) (x : It) : srchG ord ks x = .tuple #[.int .i64 (lb O (rkI ord) (rkI ord x) ks : Nat), .bool (hit O (rkI ord) (rkI ord x) ks)] := id (Eq.trans rfl rfl)
theorem dropL {α : Type} {l : List α} (h : 0 < l.length) : l.eraseIdx (l.length - 1) = l.dropLast := by
  rw [List.eraseIdx_eq_take_drop_succ, List.drop_eq_nil_of_le (by omega), List.append_nil, List.dropLast_eq_take]
set_option maxHeartbeats 8000000 in
set_option maxRecDepth 8000 in
theorem del_any (B m d : Nat) (iso : Int) (ord : List Int) (hd : 2 ≤ d) (hd' : d ≤ 128) : ∀ (h lo b : Nat) (xs : List It) (F : Nat → Nat → Prop) (w : World) (pc po : Nat) (mx : Bool) (x : It) (kv : Value) (hp : Option Nat) (dep : Nat), (mx = false → kv = itV x) → Cfg w m iso d → Ls B m w ord →
    (∀ y o, F y o → m < y) → dep + h < 1152921504606846976 → 1 ≤ lo → Tr E iso (d - 1) (2 * d - 1) h w lo b xs F → Asc O (rkI ord) xs → xs.length < 1152921504606846976 → rd w pc po = some (ptr b) → HOk hp w → (∀ hb, hp = some hb → m < hb ∧ ∀ o, ¬ F hb o) →
    CallK Try.prog 175 #[ptr m, .pointer (some ⟨pc, po, none⟩), .bool mx, kv, hV hp, .int .i64 dep] w (DelQ ord d iso h lo b xs mx x hp F w) := by
  intro h
  induction h using Nat.strongRecOn with
  | _ h ihh =>
  intro lo b xs F w pc po mx x kv hp dep hkv0 hc hL hBF hdep hlo ht ha hbig hpp hH hHF
  obtain ⟨bi, oi, cap, ks, ch, ho, hl1, hl2, hoF, hin⟩ := ht.open
  have hbl := wok_lt ho.wb
  have hbil := wok_lt ho.wi
  have hml := wok_lt hc.wok
  have hcap := ho.le
  have hm : ∀ o, ¬ F m o := fun o g => by have := hBF m o g; omega
  have hFh : ∀ y o, F y o → ¬ hF hp y o := fun y o g k => (hHF y k).2 o g
  have hHl : ∀ y o, hF hp y o → y < w.heap.size := fun y o g => wok_lt (hH y g).wok
  have hmh : ∀ o, ¬ hF hp m o := fun o g => by have := (hHF m g).1; omega
  have hak : Asc O (rkI ord) ks := by
    rcases hin with ⟨_, _, hx, _⟩ | ⟨_, _, _, _, _, cs, _, _, n⟩
    · rw [← hx]; exact ha
    · refine List.Pairwise.sublist ?_ ha
      rw [n.eq]; exact weave_sub _ _ (by simpa using n.len)
  have hkb : ks.length < 4611686018427387904 := Nat.lt_of_le_of_lt hl2 (by clear hin hoF hFh; omega)
  have hch : ∃ cc, ch = .pointer cc := by
    rcases hin with ⟨_, h, _⟩ | ⟨_, bc, _, _, _, _, _, h, _⟩
    · exact ⟨_, h⟩
    · exact ⟨_, h⟩
  obtain ⟨cc, hcc⟩ := hch
  refine calls_of_W [.tmp 12, .tmp 13] Try.func175 rfl Try.ntmps175 Try.results175 (by simp) fun e he => ?_
  have e0 : e 0 = ptr m := he 0 _ rfl
  have e1 : e 1 = .pointer (some ⟨pc, po, none⟩) := he 1 _ rfl
  have e2 : e 2 = .bool mx := he 2 _ rfl
  have e3 : e 3 = kv := he 3 _ rfl
  have e4 : e 4 = hV hp := he 4 _ rfl
  have e5 : e 5 = .int .i64 dep := he 5 _ rfl
  clear he
  refine W_sq fun K hK => (W_text [true, true] (by kernel_rfl) ?_); simp only [↓List.toList_toArray, ↓rgd, ↓rgf, ↓reduceIte, Nat.reduceEqDiff, rg, ow_175]
  refine hK _ _ ?_; clear hK K
  refine W_sq fun K hK => (W_text [true, true, false, true] (by kernel_rfl) ?_); simp only [↓List.toList_toArray, ↓rgd, ↓rgf, ↓reduceIte, Nat.reduceEqDiff, rg, ow_175, e0, e1]
  refine do_call fn_121 (by simp only [evt, evc, upd_eq, Nat.reduceEqDiff, ↓reduceIte, maT, maC, maN, isnN, isnS] <;> rfl) (isoLoad_any m pc po b true iso w hc.iso hpp ho.h0) ?_
  rintro _ w3 ⟨rfl, r3⟩
  refine ⟨trivial, ?_⟩
  simp only [↓List.toList_toArray, ↓rgd, ↓rgf, ↓reduceIte, Nat.reduceEqDiff, rg, ow_175]
  refine hK _ _ ?_; clear hK K
  have X3 : Ext noF w w3 := r3.ext
  have s3 := X3.size
  clear r3
  refine W_sq fun K hK => (W_text [true] (by kernel_rfl) ?_); simp only [↓List.toList_toArray, ↓rgd, ↓rgf, ↓reduceIte, Nat.reduceEqDiff, rg, ow_175]
  refine hK _ _ ?_; clear hK K
  refine W_sq fun K hK => (W_text [true] (by kernel_rfl) ?_); simp only [↓List.toList_toArray, ↓rgd, ↓rgf, ↓reduceIte, Nat.reduceEqDiff, rg, ow_175]
  refine hK _ _ ?_; clear hK K
  refine W_sqx fun J hJ => ?_
  have hend : ∀ (e : Env) (w3 : World) (fnd : Bool) (i : Nat), ((mx = true ∧ fnd = true ∧ i = ks.length - 1) ∨ (mx = false ∧ i = lb O (rkI ord) (rkI ord x) ks ∧ fnd = hit O (rkI ord) (rkI ord x) ks)) → Ext (hF hp) w w3 → HOk hp w3 →
      e 0 = ptr m → e 2 = .bool mx → e 3 = kv → e 4 = hV hp → e 5 = .int .i64 dep → e 14 = ptr b → e 15 = .int .i64 i → e 16 = .bool fnd → J e w3 := by
    clear e0 e1 e2 e3 e4 e5 X3 s3
    clear e w3
    intro e w3 fnd i hfi X3 hH3 e0 e2 e3 e4 e5 e14 e15 e16
    have s3 := X3.size
    refine hJ _ _ ?_; clear hJ J
    have o3 := ho.ext X3 fun y o g => hFh y o (hoF y o g)
    have c3 := hc.ext X3 fun o _ _ => hmh o
    refine W_seq ?_
    rcases (id hin : _ ∨ _) with ⟨rfl, hcn, hxk, hFo⟩ | ⟨h', bc, ba, oa, capc, cs, rfl, hcn, n⟩
    · have hxk := hxk.symm
      subst hxk
      rw [hcn] at o3
      refine W_sq fun K hK => (W_text [true, false] (by kernel_rfl) ?_); simp only [↓List.toList_toArray, ↓rgd, ↓rgf, ↓reduceIte, Nat.reduceEqDiff, rg, ow_175, e14]
      refine do_call fn_122 (by simp only [evt, evc, upd_eq, Nat.reduceEqDiff, ↓reduceIte, maT, maC, maN, isnN, isnS] <;> rfl) (leaf_any b none w3 o3.h3) ?_
      rintro _ w4 ⟨rfl, hw4⟩
      obtain rfl : w3 = w4 := hw4.symm
      refine ⟨trivial, ?_⟩
      simp only [↓List.toList_toArray, ↓rgd, ↓rgf, ↓reduceIte, Nat.reduceEqDiff, rg, ow_175]
      refine hK _ _ ?_; clear hK K
      refine W_true (by simp only [evt, evc, upd_eq, Nat.reduceEqDiff, ↓reduceIte, ntT, ntF] <;> rfl) (W_seq ?_)
      refine W_sq fun K hK => (W_text [true] (by kernel_rfl) ?_); simp only [↓List.toList_toArray, ↓rgd, ↓rgf, ↓reduceIte, Nat.reduceEqDiff, rg, ow_175, e16]
      refine hK _ _ ?_; clear hK K
      cases fnd with
      | false =>
        refine W_false (by simp only [evt, evc, upd_eq, Nat.reduceEqDiff, ↓reduceIte, ntT, ntF] <;> rfl) (W_skip ?_)
        show W _ _ _ _ _ _
        have z3 := zIt_at c3
        refine W_sq fun K hK => (W_text [true, true, true, true, true, true] (by kernel_rfl) ?_); simp only [↓List.toList_toArray, ↓rgd, ↓rgf, ↓reduceIte, Nat.reduceEqDiff, rg, ow_175, e0, ptr_eq, z3]
        refine hK _ _ ?_; clear hK K
        obtain ⟨hmx, hi, hh⟩ : mx = false ∧ i = lb O (rkI ord) (rkI ord x) ks ∧ false = hit O (rkI ord) (rkI ord x) ks := by
          rcases hfi with ⟨_, h, _⟩ | h
          · cases h
          · exact h
        subst hmx
        exact W_ret (endQ_2 (by simp only [upd_eq, Nat.reduceEqDiff, ↓reduceIte] <;> rfl) (by simp only [upd_eq, Nat.reduceEqDiff, ↓reduceIte] <;> rfl) ⟨X3.mono fun _ _ _ g => .inr g, hH3, F, fun _ _ g => .inl g, .inl ⟨delR_miss hh.symm, rfl, ht.ext X3 hFh⟩⟩)
      | true =>
        refine W_true (by simp only [evt, evc, upd_eq, Nat.reduceEqDiff, ↓reduceIte, ntT, ntF] <;> rfl) ?_
        have hi : i < ks.length := by
          rcases hfi with ⟨_, _, h⟩ | ⟨_, h, hh⟩
          · omega
          · obtain ⟨k, hk, _⟩ := hit_at O (rkI ord) hh.symm
            rw [h]; exact (List.getElem?_eq_some_iff.1 hk).1
        obtain ⟨k, hk⟩ : ∃ k, ks[i]? = some k := ⟨_, List.getElem?_eq_getElem hi⟩
        have hdel : delR O (rkI ord) mx (rkI ord x) ks = some (k, ks.eraseIdx i) := by
          rcases hfi with ⟨rfl, _, h⟩ | ⟨rfl, h, hh⟩
          · have : ks = ks.dropLast ++ [k] := by
              conv => lhs; rw [← List.dropLast_concat_getLast (l := ks) (by intro h; rw [h] at hi; simp at hi)]
              congr 2
              rw [List.getLast_eq_getElem]
              subst h
              exact (List.getElem?_eq_some_iff.1 hk).2
            rw [h, dropL (by omega)]
            conv => lhs; rw [this]
            exact delR_last
          · rw [h] at hk ⊢
            exact delR_leaf hh.symm hk
        have hkv := it_at o3.row hk
        refine W_sq fun K hK => (W_text [true, true, true, true, true, true, true, true] (by kernel_rfl) ?_); simp only [↓List.toList_toArray, ↓rgd, ↓rgf, ↓reduceIte, Nat.reduceEqDiff, rg, ow_175, e14, e15, ptr_eq, o3.h2, hi, hkv]
        refine hK _ _ ?_; clear hK K
        have X5 : Ext noF w3 w3 := Ext.refl _ _
        have o5 := o3.ext X5 fun _ _ _ g => g
        have hmo : ∀ o, ¬ ownF E b bi oi cap m o := fun o g => hm o (hoF _ _ g)
        have q1 := wadd1 i (by omega)
        have i1 : i ≤ ks.length := by omega
        have i2 : i + 1 ≤ ks.length := by omega
        obtain ⟨o1, h1, h1', -, k1⟩ := o5.se.from E_sz i i1
        have h1' := h1' (by omega)
        try simp only [Nat.mul_one] at h1'
        subst h1'
        obtain ⟨o2, h2, -, v2, -⟩ := o5.se.from E_sz (i + 1) i2
        refine W_sq fun K hK => (W_draw (some none) (some 13) [(0, 0, 0), (0, 1, 0), (0, 2, 0), (0, 3, 0), (0, 4, 0), (0, 5, 0), (0, 6, 0), (0, 7, 0), (0, 8, 0), (0, 9, 0), (0, 10, 0), (0, 11, 0), (0, 12, 0), (1, 13, 0)] mixed (by kernel_rfl) ?_); simp only [↓List.toList_toArray, ↓rgd, ↓rgf, ↓reduceIte, Nat.reduceEqDiff, rg, ow_175, e14, e15, ptr_eq, o5.h2, q1, i1, i2, h1, h2]
        refine do_copy (by simp only [evt, evc, upd_eq, Nat.reduceEqDiff, ↓reduceIte, ntT, ntF] <;> rfl) (by simp only [evt, evc, upd_eq, Nat.reduceEqDiff, ↓reduceIte, ntT, ntF] <;> rfl) rb_eli (SlV.ext0 v2 (Ext.dr noF w3 (w3.drawn + 1))) ((Ext.dr noF w3 (w3.drawn + 1)).wok k1) (flat_oc E _) fun w6 x6 r6 s6 => ⟨(by first | exact trivial | exact .inl trivial), ?_⟩
        simp only [↓List.toList_toArray, ↓rgd, ↓rgf, ↓reduceIte, Nat.reduceEqDiff, rg, ow_175]
        refine hK _ _ ?_; clear hK K
        have hmn : min (ks.length - (i + 1)) (ks.length - i) = ks.length - 1 - i := by omega
        rw [hmn] at x6 r6
        rw [List.take_of_length_le (by rw [flat_length, List.length_drop, E_sz]; omega)] at r6
        obtain ⟨z, g1, g2⟩ := o5.se.down (i := i) hi (by simp only [E_sz, Nat.mul_one]; (try simp only [Nat.mul_one] at x6); exact x6.od) (by simp only [E_sz, Nat.mul_one]; (try simp only [Nat.mul_one] at r6); exact r6)
        have o6 := o5.step g1 g2
        have X6 : Ext (ownF E b bi oi cap) w3 w6 := X5.trans g2 (fun _ _ g => g.elim) fun _ _ _ g => seF_own g
        have le := List.length_eraseIdx_of_lt hi
        have hA : (ks.eraseIdx i ++ [z]).length = ks.length := by rw [List.length_append, List.length_singleton]; omega
        have h26 := o6.h2
        have h46 := o6.le
        rw [hA] at h26 h46
        have q2 := wsub1 ks.length (by omega) (by omega)
        have i3 : ks.length - 1 < ks.length := by omega
        have z6 := zIt_at (c3.ext X6 fun o _ _ => hmo o)
        refine W_sq fun K hK => (W_draw (some none) (some 15) [(0, 0, 0), (0, 1, 0), (0, 2, 0), (0, 3, 0), (0, 4, 0), (0, 5, 0), (0, 6, 0), (0, 7, 0), (0, 8, 0), (0, 9, 0), (0, 10, 0), (0, 11, 0), (0, 12, 0), (0, 13, 0), (0, 14, 0), (1, 15, 0)] mixed (by kernel_rfl) ?_); simp only [↓List.toList_toArray, ↓rgd, ↓rgf, ↓reduceIte, Nat.reduceEqDiff, rg, ow_175, e0, e14, ptr_eq, h26, q2, i3, z6]
        refine do_store (by simp only [evt, evc, upd_eq, Nat.reduceEqDiff, ↓reduceIte, ntT, ntF] <;> rfl) (by simp only [evt, evc, upd_eq, Nat.reduceEqDiff, ↓reduceIte, ntT, ntF] <;> rfl) sz_20 (rb_len none) o6.wi (by rw [E_sz]; omega) (rb_oc none) fun w7 x7 r7 s7 => ⟨(by first | exact trivial | exact .inl trivial), ?_⟩
        simp only [↓List.toList_toArray, ↓rgd, ↓rgf, ↓reduceIte, Nat.reduceEqDiff, rg, ow_175]
        refine hK _ _ ?_; clear hK K
        have o6z := o6.z
        have hAz : ((ks.eraseIdx i ++ [z]).map some).length = ks.length := by rw [List.length_map]; exact hA
        obtain ⟨g3, g4⟩ := o6z.se.set (i := ks.length - 1) (x := none) (by rw [hAz]; omega) (by simp only [Ez_sz, Nat.mul_one]; exact x7.od) (by simp only [Ez_sz, Nat.mul_one]; first | exact r7 | exact (rb_cel _) ▸ r7)
        rw [show ((ks.eraseIdx i ++ [z]).map some).set (ks.length - 1) none = (ks.eraseIdx i).map some ++ [none] by rw [List.map_append, show ks.length - 1 = ((ks.eraseIdx i).map some).length by rw [List.length_map]; omega]; exact set_last] at g3
        have o7 := o6z.step g3 g4
        have X7 : Ext (ownF E b bi oi cap) w3 w7 := X6.tr (g4.mono fun _ _ _ g => seF_own g)
        have hA' : ((ks.eraseIdx i).map some ++ [(none : Option It)]).length = ks.length := by rw [List.length_append, List.length_singleton, List.length_map]; omega
        have h27 := o7.h2
        rw [hA'] at h27
        have i4 : ks.length - 1 ≤ cap := by omega
        refine W_sq fun K hK => (W_draw (some none) (some 14) [(0, 0, 0), (0, 1, 0), (0, 2, 0), (0, 3, 0), (0, 4, 0), (0, 5, 0), (0, 6, 0), (0, 7, 0), (0, 8, 0), (0, 9, 0), (0, 10, 0), (0, 11, 0), (0, 12, 0), (0, 13, 0), (1, 14, 0)] mixed (by kernel_rfl) ?_); simp only [↓List.toList_toArray, ↓rgd, ↓rgf, ↓reduceIte, Nat.reduceEqDiff, rg, ow_175, e14, ptr_eq, h27, q2, i4]
        refine do_store (by simp only [evt, evc, upd_eq, Nat.reduceEqDiff, ↓reduceIte, ntT, ntF] <;> rfl) (by simp only [evt, evc, upd_eq, Nat.reduceEqDiff, ↓reduceIte, ntT, ntF] <;> rfl) sz_140 rfl o7.wb (by decide) (oc_one rfl rfl) fun w8 x8 r8 s8 => ⟨(by first | exact trivial | exact .inl trivial), ?_⟩
        simp only [↓List.toList_toArray, ↓rgd, ↓rgf, ↓reduceIte, Nat.reduceEqDiff, rg, ow_175]
        refine hK _ _ ?_; clear hK K
        obtain ⟨g5, g6⟩ := o7.se.cut x8.od (by rw [List.length_map, le]; exact (Row.cons.1 r8).1)
        have o8 := (o7.step g5 g6).unz
        have X8 : Ext (ownF E b bi oi cap) w3 w8 := X7.tr (g6.mono fun _ _ _ g => seF_own g)
        refine W_sq fun K hK => (W_text [true, true, true, true, true, true, true, false] (by kernel_rfl) ?_); simp only [↓List.toList_toArray, ↓rgd, ↓rgf, ↓reduceIte, Nat.reduceEqDiff, rg, ow_175, e14, ptr_eq, o8.h1, q2]
        refine do_store (by simp only [evt, evc, upd_eq, Nat.reduceEqDiff, ↓reduceIte, ntT, ntF] <;> rfl) (by simp only [evt, evc, upd_eq, Nat.reduceEqDiff, ↓reduceIte, ntT, ntF] <;> rfl) sz_3 rfl o8.wb (by decide) (oc_one rfl rfl) fun w9 x9 r9 s9 => ⟨trivial, ?_⟩
        simp only [↓List.toList_toArray, ↓rgd, ↓rgf, ↓reduceIte, Nat.reduceEqDiff, rg, ow_175]
        refine hK _ _ ?_; clear hK K
        have o9 := o8.cnt' x9 (Row.cons.1 r9).1
        have X9 : Ext (ownF E b bi oi cap) w3 w9 := X8.tr (x9.mono fun _ _ _ g => .inl g.1)
        have sz9 := X9.size
        have Y9 : Ext (ownF E b bi oi cap) w3 w9 := (((g2.mono fun _ _ _ g => seF_own g).tr (g4.mono fun _ _ _ g => seF_own g)).tr (g6.mono fun _ _ _ g => seF_own g)).tr (x9.mono fun _ _ _ g => .inl g.1)
        refine W_sq fun K hK => (W_text [true, true, true] (by kernel_rfl) ?_); simp only [↓List.toList_toArray, ↓rgd, ↓rgf, ↓reduceIte, Nat.reduceEqDiff, rg, ow_175]
        refine hK _ _ ?_; clear hK K
        have X10 : Ext (fun y o => F y o ∨ hF hp y o) w w9 := X3.trans X9 (fun _ _ g => .inr g) fun y o _ g => .inl (hoF y o g)
        have H10 : HOk hp w9 := hH3.ext X9 fun hb hh o g => (hHF hb hh).2 o (hoF _ _ g)
        refine W_ret (endQ_2 (by simp only [upd_eq, Nat.reduceEqDiff, ↓reduceIte] <;> rfl) (by simp only [upd_eq, Nat.reduceEqDiff, ↓reduceIte] <;> rfl) ⟨X10, H10, F, fun _ _ g => .inl g, .inr ⟨k, ks.eraseIdx i, hdel, rfl, bi, oi, cap, ?_, by omega, by omega, hFo⟩⟩)
        rw [le]
        exact o9
    · rw [hcn] at o3
      have hkF : ∀ y o, kidF bc ba oa capc y o → F y o := fun y o g => (n.fp y o).2 (.inr (.inl g))
      have hcF : ∀ c ∈ cs, ∀ y o, c.F y o → F y o := fun c hc y o g => (n.fp y o).2 (.inr (.inr ⟨c, hc, g⟩))
      have n3 := n.ext X3 (fun y o g => hFh y o (hkF y o g)) fun c hc y o g => hFh y o (hcF c hc y o g)
      refine W_sq fun K hK => (W_text [true, false] (by kernel_rfl) ?_); simp only [↓List.toList_toArray, ↓rgd, ↓rgf, ↓reduceIte, Nat.reduceEqDiff, rg, ow_175, e14]
      refine do_call fn_122 (by simp only [evt, evc, upd_eq, Nat.reduceEqDiff, ↓reduceIte, maT, maC, maN, isnN, isnS] <;> rfl) (leaf_any b (some ⟨bc, 0, none⟩) w3 o3.h3) ?_
      rintro _ w4 ⟨rfl, hw4⟩
      obtain rfl : w3 = w4 := hw4.symm
      refine ⟨trivial, ?_⟩
      simp only [↓List.toList_toArray, ↓rgd, ↓rgf, ↓reduceIte, Nat.reduceEqDiff, rg, ow_175]
      refine hK _ _ ?_; clear hK K
      refine W_false (by simp only [evt, evc, upd_eq, Nat.reduceEqDiff, ↓reduceIte, ntT, ntF] <;> rfl) (W_skip ?_)
      show W _ _ _ _ _ _
      refine W_sq fun K hK => (W_text [true] (by kernel_rfl) ?_); simp only [↓List.toList_toArray, ↓rgd, ↓rgf, ↓reduceIte, Nat.reduceEqDiff, rg, ow_175]
      refine hK _ _ ?_; clear hK K
      refine W_sq fun K hK => (W_text [true] (by kernel_rfl) ?_); simp only [↓List.toList_toArray, ↓rgd, ↓rgf, ↓reduceIte, Nat.reduceEqDiff, rg, ow_175]
      refine hK _ _ ?_; clear hK K
      have X4 : Ext (hF hp) w w3 := X3
      have H4 := hH3
      have o4 := o3
      have nn := n3
      have hs4 : w.heap.size ≤ w3.heap.size := s3
      clear n3 o3 c3 X3 hH3 s3
      refine W_sqx fun J hJ => ?_
      have hyes : ∀ (e : Env) (w5 : World) (y : It) (A Bq : List (Kid It)) (c : Kid It) (ks' ys : List It) (F0 F3 : Nat → Nat → Prop) (K0 K3 : Nat), Shr E iso (d - 1) (2 * d - 1) h' w5 b bc (xs.length : Nat) ks' A c Bq F0 F3 K0 K3 → ks'.length = ks.length → (A ++ c :: Bq).length = ks'.length + 1 →
          ys = weave ((A ++ c :: Bq).map Kid.xs) ks' → delR O (rkI ord) mx (rkI ord x) xs = some (y, ys) → Ext (fun y o => F y o ∨ hF hp y o) w w5 → HOk hp w5 → (∀ y o, (F0 y o ∨ F3 y o ∨ kinF (A ++ c :: Bq) y o) → F y o ∨ w.heap.size ≤ y) →
          e 0 = ptr m → e 14 = ptr b → e 15 = .int .i64 (A.length : Nat) → e 18 = itV y → e 19 = .bool true → J e w5 := by
        clear e0 e2 e3 e4 e5 e14 e15 e16 X4 H4 o4 nn
        clear e
        intro e w5 y A Bq c ks' ys F0 F3 K0 K3 sh hkl hlen hys hdel X5 H5 hFs e0 e14 e15 e18 e19
        refine hJ _ _ ?_; clear hJ J
        have hyl := delR_len hdel
        refine W_seq ?_
        refine W_sq fun K hK => (W_text [true, true] (by kernel_rfl) ?_); simp only [↓List.toList_toArray, ↓rgd, ↓rgf, ↓reduceIte, Nat.reduceEqDiff, rg, ow_175, e19]
        refine hK _ _ ?_; clear hK K
        refine W_false (by simp only [evt, evc, upd_eq, Nat.reduceEqDiff, ↓reduceIte, ntT, ntF] <;> rfl) (W_skip ?_)
        show W _ _ _ _ _ _
        obtain ⟨bi', oi', cap', o5, hz, hK, hF0⟩ := sh.n0
        have q1 := wsub1 xs.length (by omega) (by omega)
        refine W_sq fun K hK => (W_text [true, true, true, true, true, true, true, false] (by kernel_rfl) ?_); simp only [↓List.toList_toArray, ↓rgd, ↓rgf, ↓reduceIte, Nat.reduceEqDiff, rg, ow_175, e14, ptr_eq, o5.h1, q1]
        refine do_store (by simp only [evt, evc, upd_eq, Nat.reduceEqDiff, ↓reduceIte, ntT, ntF] <;> rfl) (by simp only [evt, evc, upd_eq, Nat.reduceEqDiff, ↓reduceIte, ntT, ntF] <;> rfl) sz_3 rfl o5.wb (by decide) (oc_one rfl rfl) fun w6 x6 r6 s6 => ⟨trivial, ?_⟩
        simp only [↓List.toList_toArray, ↓rgd, ↓rgf, ↓reduceIte, Nat.reduceEqDiff, rg, ow_175]
        refine hK _ _ ?_; clear hK K
        have hb0 : ∀ y o, rng b 1 1 y o → F0 y o := fun y o g => (hF0 y o).2 (.inl g.1)
        have x6' : Ext F0 w5 w6 := x6.mono fun y o _ g => hb0 y o g
        have sh6 : Shr E iso (d - 1) (2 * d - 1) h' w6 b bc (ys.length : Nat) ks' A c Bq F0 F3 K0 K3 := ⟨⟨bi', oi', cap', by rw [show ys.length = xs.length - 1 by omega]; exact o5.cnt' x6 (Row.cons.1 r6).1, hz, hK, hF0⟩,
          (kdO _ _).loc sh.n3 x6' sh.l0.d.symm, sh.l0, sh.t.ext x6' (sh.l0.g1 c (by simp)), fun a ha => (sh.rest a ha).ext x6' (sh.l0.g1 a (by
            rcases List.mem_append.1 ha with ha | ha
            · simp [ha]
            · simp [ha]))⟩
        have X6 : Ext (fun y o => F y o ∨ hF hp y o) w w6 := X5.trans x6' (fun _ _ g => g) fun y o hy g => by
          rcases hFs y o (.inl g) with h | h
          · exact .inl h
          · omega
        have H6 : HOk hp w6 := H5.ext x6' fun hb hh o g => by
          rcases hFs hb o (.inl g) with h | h
          · exact (hHF hb hh).2 o h
          · have := hHl hb 0 hh; omega
        clear sh o5 X5 H5 x6 r6 s6 x6' hb0 q1 hz hK hF0
        have hmF : ∀ o, ¬ (F0 m o ∨ F3 m o ∨ kinF (A ++ c :: Bq) m o) := fun o g => by
          rcases hFs m o g with h | h
          · exact hm o h
          · omega
        have c6 := hc.ext X6 fun o _ _ g => g.elim (hm o) (hmh o)
        refine W_sqx fun J hJ => ?_
        have hfin : ∀ (e : Env) (w7 : World) (F'' : Nat → Nat → Prop), Tr E iso (d - 1) (2 * d - 1) (h' + 1) w7 (lo - 1) b ys F'' → Ext (fun y o => F0 y o ∨ F3 y o ∨ kinF (A ++ c :: Bq) y o) w6 w7 → (∀ y o, F'' y o → (F0 y o ∨ F3 y o ∨ kinF (A ++ c :: Bq) y o) ∨ w6.heap.size ≤ y) →
            e 18 = itV y → J e w7 := by
          clear e0 e14 e15 e18 e19
          clear e
          intro e w7 F'' T7 x7 hF'' e18
          refine hJ _ _ ?_; clear hJ J
          have s6 := X6.size
          have s7 := x7.size
          refine W_sq fun K hK => (W_text [true, true, true] (by kernel_rfl) ?_); simp only [↓List.toList_toArray, ↓rgd, ↓rgf, ↓reduceIte, Nat.reduceEqDiff, rg, ow_175, e18]
          refine hK _ _ ?_; clear hK K
          have hold : ∀ y o, (F0 y o ∨ F3 y o ∨ kinF (A ++ c :: Bq) y o) → y < w.heap.size → F y o := fun y o g hy => (hFs y o g).resolve_right (by omega)
          refine W_ret (endQ_2 (by simp only [upd_eq, Nat.reduceEqDiff, ↓reduceIte] <;> rfl) (by simp only [upd_eq, Nat.reduceEqDiff, ↓reduceIte] <;> rfl) ⟨X6.trans x7 (fun _ _ g => g) fun y o hy g => .inl (hold y o g hy), H6.ext x7 fun hb hh o g => (hHF hb hh).2 o (hold hb o g (hHl hb 0 hh)), F'', fun y o g => ?_, .inr ⟨y, ys, hdel, rfl, T7⟩⟩)
          rcases hF'' y o g with g | g
          · exact hFs y o g
          · exact .inr (by omega)
        obtain ⟨a, nk, capn, hkn, hk1, hk2, hraise⟩ := sh6.t.keys
        obtain ⟨bi', oi', cap', o6, hz, hK, hF0⟩ := sh6.n0
        rcases sh6.n3 with ⟨h, _⟩ | ⟨bc', ba', oa', capc', hbc, k6, _, _⟩
        · cases h
        obtain rfl : bc = bc' := by simpa [ptr] using hbc
        have hil : A.length < ((A ++ c :: Bq).map fun g => some g.b).length := by simp
        have hcp := k6.ptr_at (j := A.length) (p := c.b) (by simp)
        by_cases hsh : nk < d - 1
        · have hb : decide ((nk : Int) < ((d - 1 : Nat) : Int)) = true := by simp only [decide_eq_true_eq]; omega
          refine W_sq fun K hK => (W_draw (some none) none [(0, 0, 0), (0, 1, 0), (0, 2, 0), (0, 3, 0), (0, 4, 0), (0, 5, 0), (0, 6, 0), (0, 7, 0), (0, 8, 0), (0, 9, 0), (0, 10, 0), (0, 11, 0), (0, 12, 0), (0, 13, 0), (0, 14, 0), (0, 15, 0), (0, 16, 0), (0, 17, 0)] mixed (by kernel_rfl) ?_); simp only [↓List.toList_toArray, ↓rgd, ↓rgf, ↓reduceIte, Nat.reduceEqDiff, rg, ow_175, e0, e14, e15, ptr_eq, o6.h3, k6.hd, hil, hcp, hkn, c6.mn, hb]
          refine hK _ _ ?_; clear hK K
          refine W_true (by simp only [evt, evc, upd_eq, Nat.reduceEqDiff, ↓reduceIte, ntT, ntF] <;> rfl) ?_
          have D := Ext.dr noF w6 (w6.drawn + 1)
          refine W_rg fun K hK => (W_text [true, true, true, false] (by kernel_rfl) ?_); simp only [↓List.toList_toArray, ↓rgd, ↓rgf, ↓reduceIte, Nat.reduceEqDiff, rg, ow_175, e0, e14, e15]
          refine do_call fn_176 (by simp only [evt, evc, upd_eq, Nat.reduceEqDiff, ↓reduceIte, maT, maC, maN, isnN, isnS] <;> rfl) (reb_shr m d iso hd hd' (c6.ext D fun _ _ _ g => g) (sh6.ext0 D) hmF hlen (by omega) (by omega) (by rw [hys]) (by rw [← hys]; omega) (D.rd hkn fun g => g) hsh) ?_
          rintro _ w7 ⟨F'', T7, x7, hF''⟩
          refine ⟨trivial, ?_⟩
          simp only [↓List.toList_toArray, ↓rgd, ↓rgf, ↓reduceIte, Nat.reduceEqDiff, rg, ow_175]
          refine hK _ _ ?_; clear hK K
          rw [← hys] at T7
          exact hfin _ _ F'' (T7.mono (by omega)) x7.od hF'' (by simp only [upd_eq, Nat.reduceEqDiff, ↓reduceIte]; exact e18)
        · have hb : decide ((nk : Int) < ((d - 1 : Nat) : Int)) = false := by simp only [decide_eq_false_iff_not]; omega
          refine W_sq fun K hK => (W_draw (some none) none [(0, 0, 0), (0, 1, 0), (0, 2, 0), (0, 3, 0), (0, 4, 0), (0, 5, 0), (0, 6, 0), (0, 7, 0), (0, 8, 0), (0, 9, 0), (0, 10, 0), (0, 11, 0), (0, 12, 0), (0, 13, 0), (0, 14, 0), (0, 15, 0), (0, 16, 0), (0, 17, 0)] mixed (by kernel_rfl) ?_); simp only [↓List.toList_toArray, ↓rgd, ↓rgf, ↓reduceIte, Nat.reduceEqDiff, rg, ow_175, e0, e14, e15, ptr_eq, o6.h3, k6.hd, hil, hcp, hkn, c6.mn, hb]
          refine hK _ _ ?_; clear hK K
          refine W_false (by simp only [evt, evc, upd_eq, Nat.reduceEqDiff, ↓reduceIte, ntT, ntF] <;> rfl) (W_skip ?_)
          have T6 := sh6.fine (lo := lo - 1) hlen (hraise (d - 1) (by omega)) (by omega) (by omega) (by rw [hys])
          rw [← hys] at T6
          exact hfin _ _ _ (T6.ext (Ext.dr noF _ _) fun _ _ _ g => g) ((Ext.dr noF _ _).mono fun _ _ _ g => g.elim) (fun y o g => .inl g) (by simp only [upd_eq, Nat.reduceEqDiff, ↓reduceIte]; exact e18)
      have hlt : ∀ y o, F y o → y < w.heap.size := ht.lt
      have hno : ∀ (e : Env) (w5 : World) (F' : Nat → Nat → Prop), delR O (rkI ord) mx (rkI ord x) xs = none → Tr E iso (d - 1) (2 * d - 1) (h' + 1) w5 lo b xs F' → (∀ y o, F' y o → F y o ∨ w.heap.size ≤ y) → Ext (fun y o => F y o ∨ hF hp y o) w w5 → HOk hp w5 →
          e 0 = ptr m → e 19 = .bool false → J e w5 := by
        clear e0 e2 e3 e4 e5 e14 e15 e16 X4 H4 o4 nn hyes
        clear e
        intro e w5 F' hdel T5 hF' X5 H5 e0 e19
        refine hJ _ _ ?_; clear hJ J
        refine W_seq ?_
        refine W_sq fun K hK => (W_text [true, true] (by kernel_rfl) ?_); simp only [↓List.toList_toArray, ↓rgd, ↓rgf, ↓reduceIte, Nat.reduceEqDiff, rg, ow_175, e19]
        refine hK _ _ ?_; clear hK K
        refine W_true (by simp only [evt, evc, upd_eq, Nat.reduceEqDiff, ↓reduceIte, ntT, ntF] <;> rfl) ?_
        have z5 := zIt_at (hc.ext X5 fun o _ _ g => g.elim (hm o) (hmh o))
        refine W_sq fun K hK => (W_text [true, true, true, true, true, true] (by kernel_rfl) ?_); simp only [↓List.toList_toArray, ↓rgd, ↓rgf, ↓reduceIte, Nat.reduceEqDiff, rg, ow_175, e0, ptr_eq, z5]
        refine hK _ _ ?_; clear hK K
        exact W_ret (endQ_2 (by simp only [upd_eq, Nat.reduceEqDiff, ↓reduceIte] <;> rfl) (by simp only [upd_eq, Nat.reduceEqDiff, ↓reduceIte] <;> rfl) ⟨X5, H5, F', hF', .inl ⟨hdel, rfl, T5⟩⟩)
      have hpost : ∀ (e : Env) (w5 : World) (i : Nat) (c : Kid It) (F' : Nat → Nat → Prop) (y : It) (pv : Value) (zs : List It) (dl : Bool), cs[i]? = some c → Ext (fun y o => c.F y o ∨ hF hp y o) w3 w5 → HOk hp w5 → (∀ y o, F' y o → c.F y o ∨ w3.heap.size ≤ y) →
          ((dl = true ∧ pv = itV y ∧ Tr E iso (d - 1) (2 * d - 1) h' w5 (d - 1 - 1) c.b zs F' ∧ delR O (rkI ord) mx (rkI ord x) xs = some (y, weave ((cs.map Kid.xs).set i zs) ks)) ∨ (dl = false ∧ zs = c.xs ∧ Tr E iso (d - 1) (2 * d - 1) h' w5 (d - 1) c.b c.xs F' ∧ delR O (rkI ord) mx (rkI ord x) xs = none)) →
          e 0 = ptr m → e 14 = ptr b → e 15 = .int .i64 (i : Nat) → e 18 = pv → e 19 = .bool dl → J e w5 := by
        clear e0 e2 e3 e4 e5 e14 e15 e16
        clear e
        intro e w5 i c F' y pv zs dl hcs x5 H5 hF' hres e0 e14 e15 e18 e19
        have hcm := List.mem_of_getElem? hcs
        have hcl : ∀ y o, c.F y o → y < w.heap.size := fun y o g => hlt y o (hcF c hcm y o g)
        have hG : ∀ y o, F y o → (c.F y o ∨ hF hp y o) → c.F y o := fun y o g k => k.elim id fun k => (hFh y o g k).elim
        have X6 : Ext (fun y o => F y o ∨ hF hp y o) w w5 := X4.trans x5 (fun _ _ g => .inr g) fun y o hy g => g.elim (fun g => .inl (hcF c hcm y o g)) .inr
        obtain ⟨l1, l2⟩ := shr_len (d := (⟨c.b, zs, F'⟩ : Kid It)) hcs
        have hfp : ∀ y o, (ownF E b bi oi cap y o ∨ kidF bc ba oa capc y o ∨ kinF (cs.take i ++ (⟨c.b, zs, F'⟩ : Kid It) :: cs.drop (i + 1)) y o) → F y o ∨ w3.heap.size ≤ y := fun y o g => nn.shr_fp hcs hF' y o g
        have hfp' : ∀ y o, (ownF E b bi oi cap y o ∨ kidF bc ba oa capc y o ∨ kinF (cs.take i ++ (⟨c.b, zs, F'⟩ : Kid It) :: cs.drop (i + 1)) y o) → F y o ∨ w.heap.size ≤ y := fun y o g => (hfp y o g).imp id fun g => by omega
        rcases hres with ⟨rfl, rfl, T5, hdel⟩ | ⟨rfl, rfl, T5, hdel⟩
        · have sh := nn.shr o4 (by omega) hcs x5 hG T5 hF'
          exact hyes e w5 y (cs.take i) (cs.drop (i + 1)) ⟨c.b, zs, F'⟩ ks _ _ _ _ _ sh rfl (by rw [l1]; exact n.len) rfl (by rw [shr_xs hcs]; exact hdel) X6 H5 hfp' e0 e14 (by rw [l2]; exact e15) e18 e19
        · have sh := nn.shr o4 (by omega) hcs x5 hG (T5.mono (by omega)) hF'
          have hset : (cs.map Kid.xs).set i c.xs = cs.map Kid.xs := by
            obtain ⟨g1, g2⟩ := List.getElem?_eq_some_iff.1 (show (cs.map Kid.xs)[i]? = some c.xs by rw [List.getElem?_map, hcs]; rfl)
            rw [← g2]; exact List.set_getElem_self g1
          have hxe : weave ((cs.take i ++ ⟨c.b, c.xs, F'⟩ :: cs.drop (i + 1)).map Kid.xs) ks = xs := by rw [shr_xs hcs, hset]; exact n.eq.symm
          have T := sh.fine (lo := lo) (by rw [l1]; exact n.len) T5 hl1 hl2 (by rw [hxe])
          rw [hxe] at T
          exact hno e w5 _ hdel T hfp' X6 H5 e0 e19
      have hcell : ∀ {i : Nat} {c : Kid It}, cs[i]? = some c → rd w3 ba (oa + i) = some (ptr c.b) := fun hcs => nn.kids.se.ptr_at (by simp [hcs])
      have hk0 := nn.kids.c0
      have hlenc : ∀ {i : Nat} {c : Kid It}, cs[i]? = some c → c.xs.length ≤ xs.length := fun hcs => by
        rw [n.eq]; exact weave_mem_length _ _ (by simpa using n.len) _ (List.mem_map_of_mem (List.mem_of_getElem? hcs))
      have hL4 : Ls B m w3 ord := hL.ext X4 (fun y o g => by have := (hHF y g).1; exact .inl (by omega)) (hmh 6)
      have c4 := hc.ext X4 fun o _ _ => hmh o
      have z4 := zIt_at c4
      have hcnl := n.len
      have hll : (cs.map Kid.b).length = cs.length := List.length_map _
      have D := Ext.dr noF w3 (w3.drawn + 1)
      refine W_sq fun K hK => (W_text [true] (by kernel_rfl) ?_); simp only [↓List.toList_toArray, ↓rgd, ↓rgf, ↓reduceIte, Nat.reduceEqDiff, rg, ow_175, e16]
      refine hK _ _ ?_; clear hK K
      cases fnd with
      | false =>
        refine W_false (by simp only [evt, evc, upd_eq, Nat.reduceEqDiff, ↓reduceIte, ntT, ntF] <;> rfl) ?_
        obtain ⟨rfl, hi, hh⟩ : mx = false ∧ i = lb O (rkI ord) (rkI ord x) ks ∧ false = hit O (rkI ord) (rkI ord x) ks := by
          rcases hfi with ⟨_, h, _⟩ | h
          · cases h
          · exact h
        have hik : i ≤ ks.length := by rw [hi]; exact lb_le O (rkI ord) _ _
        obtain ⟨c, hcs⟩ : ∃ c, cs[i]? = some c := ⟨_, List.getElem?_eq_getElem (by omega)⟩
        have hcm := List.mem_of_getElem? hcs
        have hce := hcell hcs
        have hil : i < (cs.map Kid.b).length := by omega
        obtain ⟨A, C, hw⟩ := weave_at i (cs.map Kid.xs) ks (by simpa using n.len) hik
        have hcx : (cs.map Kid.xs)[i]? = some c.xs := by rw [List.getElem?_map, hcs]; rfl
        have hxs : xs = A ++ c.xs ++ C := n.eq.trans (hw.eq hcx)
        have hac : Asc O (rkI ord) c.xs := by
          rw [hxs] at ha
          exact ((Asc.append O (rkI ord)).1 ((Asc.append O (rkI ord)).1 ha).1).2.1
        obtain ⟨hA, hC⟩ := hw.mid O (rkI ord) hcx (n.eq ▸ ha) hi.symm hh.symm
        have hdm := delR_mid (O := O) (κ := rkI ord) (m := c.xs) hA hC
        rw [← hxs] at hdm
        have q1 := wadd1 dep (by omega)
        have hle := hlenc hcs
        refine W_rg fun K hK => (W_text [true, true, true, true, true, true, true, true, true, true, true, true, true, true, false, true, true, true, true, true] (by kernel_rfl) ?_); simp only [↓List.toList_toArray, ↓rgd, ↓rgf, ↓reduceIte, Nat.reduceEqDiff, rg, ow_175, e0, e2, e3, e4, e5, e14, e15, ptr_eq, o4.h3, hk0, hil, hce, q1]
        refine do_call fn_175 (by simp only [evt, evc, upd_eq, Nat.reduceEqDiff, ↓reduceIte, maT, maC, maN, isnN, isnS] <;> rfl) (ihh h' (by omega) (d - 1) c.b c.xs c.F _ ba (oa + i) false x kv hp (dep + 1) hkv0 c4 hL4 (fun y o g => hBF y o (hcF c hcm y o g)) (by omega) (by omega) (nn.sub c hcm) hac (by omega) hce H4 fun hb hh => ⟨(hHF hb hh).1, fun o g => (hHF hb hh).2 o (hcF c hcm hb o g)⟩) ?_
        rintro _ w5 ⟨X5, H5, F', hF', hres⟩
        have x45 := X5
        rcases hres with ⟨hd0, rfl, T5⟩ | ⟨y, yl, hd1, rfl, T5⟩
        · refine ⟨trivial, ?_⟩
          simp only [↓List.toList_toArray, ↓rgd, ↓rgf, ↓reduceIte, Nat.reduceEqDiff, rg, ow_175]
          refine hK _ _ ?_; clear hK K
          exact hpost _ w5 i c F' x _ c.xs false hcs x45 H5 hF' (.inr ⟨rfl, rfl, T5, by rw [hdm, hd0]; rfl⟩) (by simp only [upd_eq, Nat.reduceEqDiff, ↓reduceIte]; exact e0) (by simp only [upd_eq, Nat.reduceEqDiff, ↓reduceIte]; exact e14) (by simp only [upd_eq, Nat.reduceEqDiff, ↓reduceIte]; exact e15) (by simp only [upd_eq, Nat.reduceEqDiff, ↓reduceIte] <;> rfl) (by simp only [upd_eq, Nat.reduceEqDiff, ↓reduceIte] <;> rfl)
        · refine ⟨trivial, ?_⟩
          simp only [↓List.toList_toArray, ↓rgd, ↓rgf, ↓reduceIte, Nat.reduceEqDiff, rg, ow_175]
          refine hK _ _ ?_; clear hK K
          exact hpost _ w5 i c F' y _ yl true hcs x45 H5 hF' (.inl ⟨rfl, rfl, T5, by rw [hdm, hd1, hw.set]; rfl⟩) (by simp only [upd_eq, Nat.reduceEqDiff, ↓reduceIte]; exact e0) (by simp only [upd_eq, Nat.reduceEqDiff, ↓reduceIte]; exact e14) (by simp only [upd_eq, Nat.reduceEqDiff, ↓reduceIte]; exact e15) (by simp only [upd_eq, Nat.reduceEqDiff, ↓reduceIte] <;> rfl) (by simp only [upd_eq, Nat.reduceEqDiff, ↓reduceIte] <;> rfl)
      | true =>
        refine W_true (by simp only [evt, evc, upd_eq, Nat.reduceEqDiff, ↓reduceIte, ntT, ntF] <;> rfl) ?_
        have hpos : ∀ {i : Nat} {c : Kid It}, cs[i]? = some c → c.xs ≠ [] := fun hcs hnil => by
          obtain ⟨bi1, oi1, cap1, ks1, ch1, ho1, hl11, hl12, hoF1, hin1⟩ := (n.sub _ (List.mem_of_getElem? hcs)).open
          rcases hin1 with ⟨_, _, hx, _⟩ | ⟨_, _, _, _, _, cs1, _, _, n1⟩
          · rw [hnil] at hx; rw [← hx] at hl11; simp at hl11; omega
          · have := (weave_sub (cs1.map Kid.xs) ks1 (by rw [List.length_map]; exact n1.len)).length_le
            rw [← n1.eq, hnil] at this
            simp at this; rw [this] at hl11; simp at hl11; omega
        cases mx with
        | true =>
          refine W_sq fun K hK => (W_text [true] (by kernel_rfl) ?_); simp only [↓List.toList_toArray, ↓rgd, ↓rgf, ↓reduceIte, Nat.reduceEqDiff, rg, ow_175, e2]
          refine hK _ _ ?_; clear hK K
          refine W_true (by simp only [evt, evc, upd_eq, Nat.reduceEqDiff, ↓reduceIte, ntT, ntF] <;> rfl) ?_
          have hi : i = ks.length - 1 := by
            rcases hfi with ⟨_, _, h⟩ | ⟨h, _⟩
            · exact h
            · cases h
          have q1 := wadd1 i (by omega)
          refine W_sq fun K hK => (W_text [true, true, true] (by kernel_rfl) ?_); simp only [↓List.toList_toArray, ↓rgd, ↓rgf, ↓reduceIte, Nat.reduceEqDiff, rg, ow_175, e15, q1]
          refine hK _ _ ?_; clear hK K
          have hik : i + 1 = ks.length := by omega
          obtain ⟨c, hcs⟩ : ∃ c, cs[i + 1]? = some c := ⟨_, List.getElem?_eq_getElem (by omega)⟩
          have hcm := List.mem_of_getElem? hcs
          have hce := hcell hcs
          have hil : i + 1 < (cs.map Kid.b).length := by omega
          have hle := hlenc hcs
          have hne := hpos hcs
          have hsp : cs.map Kid.xs = (cs.take (i + 1)).map Kid.xs ++ [c.xs] := by
            have h3 := List.getElem?_eq_some_iff.1 hcs
            have := List.take_append_drop (i + 1) cs
            rw [List.drop_eq_getElem_cons h3.1, h3.2, List.drop_eq_nil_of_le (by omega)] at this
            conv => lhs; rw [← this]
            simp
          have hLl : ((cs.take (i + 1)).map Kid.xs).length = ks.length := by rw [List.length_map, List.length_take]; omega
          obtain ⟨A, hA⟩ := weave_end ((cs.take (i + 1)).map Kid.xs) ks hLl
          have hxs : xs = A ++ c.xs := by rw [n.eq, hsp, hA]
          have hac : Asc O (rkI ord) c.xs := by
            rw [hxs] at ha
            exact ((Asc.append O (rkI ord)).1 ha).2.1
          have hdm := delR_max (O := O) (κ := rkI ord) (q := rkI ord x) (A := A) hne
          rw [← hxs] at hdm
          refine W_rg fun K hK => (W_semi (some none) (.take false 0 (.take false 1 (.take false 2 (.take false 3 (.take true 4 (.take false 5 (.take true 6 (.take false 7 (.take false 8 (.take false 9 (.take false 10 (.take false 11 (.take true 12 (.bar 13 (.take false 14 (.take false 15 (.take false 16 (.take false 17 (.take false 18 .nil))))))))))))))))))) mixed (by kernel_rfl) ?_); simp only [↓rgm, ↓List.toList_toArray, ↓rgd, ↓rgf, ↓reduceIte, Nat.reduceEqDiff, rg, ow_175, e0, e14, ptr_eq, o4.h3, hk0, hil, hce, z4]
          refine do_call fn_175 (by simp only [evt, evc, upd_eq, Nat.reduceEqDiff, ↓reduceIte, maT, maC, maN, isnN, isnS] <;> rfl) (ihh h' (by omega) (d - 1) c.b c.xs c.F _ ba (oa + (i + 1)) true x zV none 0 (fun h => by cases h) (c4.ext D fun _ _ _ g => g) (hL4.ext0 D) (fun y o g => hBF y o (hcF c hcm y o g)) (by omega) (by omega) ((nn.sub c hcm).ext D fun _ _ _ g => g) hac (by omega) (D.rd hce fun g => g) (HOk.none _) fun hb hh => by cases hh) ?_
          rintro _ w5 ⟨X5, _, F', hF', hres⟩
          have x45 : Ext (fun y o => c.F y o ∨ hF hp y o) w3 w5 := X5.od.mono fun y o _ g => g.elim .inl fun g => by cases g
          rcases hres with ⟨hd0, rfl, T5⟩ | ⟨y, yl, hd1, rfl, T5⟩
          · exfalso
            have := delR_last (O := O) (κ := rkI ord) (q := rkI ord x) (l := c.xs.dropLast) (x := c.xs.getLast hne)
            rw [List.dropLast_concat_getLast, hd0] at this
            cases this
          · refine ⟨trivial, ?_⟩
            simp only [↓List.toList_toArray, ↓rgd, ↓rgf, ↓reduceIte, Nat.reduceEqDiff, rg, ow_175, ↓rgm]
            refine hK _ _ ?_; clear hK K
            have H5 : HOk hp w5 := H4.ext X5.od fun hb hh o g => by
              rcases g with g | g
              · exact (hHF hb hh).2 o (hcF c hcm hb o g)
              · cases g
            refine hpost _ w5 (i + 1) c F' y _ yl true hcs x45 H5 hF' (.inl ⟨rfl, rfl, T5, ?_⟩) (by simp only [upd_eq, Nat.reduceEqDiff, ↓reduceIte]; exact e0) (by simp only [upd_eq, Nat.reduceEqDiff, ↓reduceIte]; exact e14) (by simp only [upd_eq, Nat.reduceEqDiff, ↓reduceIte] <;> rfl) (by simp only [upd_eq, Nat.reduceEqDiff, ↓reduceIte] <;> rfl) (by simp only [upd_eq, Nat.reduceEqDiff, ↓reduceIte] <;> rfl)
            have hset : (cs.map Kid.xs).set (i + 1) yl = (cs.take (i + 1)).map Kid.xs ++ [yl] := by
              have := set_last (A := (cs.take (i + 1)).map Kid.xs) (z := c.xs) (x := yl)
              rw [hLl, ← hik] at this
              rw [hsp]
              exact this
            rw [hset, hA, hdm]
            rw [hd1]
            rfl
        | false =>
          refine W_sq fun K hK => (W_text [true] (by kernel_rfl) ?_); simp only [↓List.toList_toArray, ↓rgd, ↓rgf, ↓reduceIte, Nat.reduceEqDiff, rg, ow_175, e2]
          refine hK _ _ ?_; clear hK K
          refine W_false (by simp only [evt, evc, upd_eq, Nat.reduceEqDiff, ↓reduceIte, ntT, ntF] <;> rfl) ?_
          obtain ⟨hi, hh⟩ : i = lb O (rkI ord) (rkI ord x) ks ∧ true = hit O (rkI ord) (rkI ord x) ks := by
            rcases hfi with ⟨h, _⟩ | ⟨_, h⟩
            · cases h
            · exact h
          obtain ⟨kk, hk1, hk2⟩ := hit_at O (rkI ord) hh.symm
          rw [← hi] at hk1
          have hik := (List.getElem?_eq_some_iff.1 hk1).1
          obtain ⟨c, hcs⟩ : ∃ c, cs[i]? = some c := ⟨_, List.getElem?_eq_getElem (by omega)⟩
          have hcm := List.mem_of_getElem? hcs
          have hil : i < (cs.map Kid.b).length := by omega
          have hle := hlenc hcs
          have hne := hpos hcs
          have hkv := it_at o4.row hk1
          have hsp : cs.map Kid.xs = (cs.take i).map Kid.xs ++ c.xs :: (cs.drop (i + 1)).map Kid.xs := by
            have h3 := List.getElem?_eq_some_iff.1 hcs
            have := List.take_append_drop i cs
            rw [List.drop_eq_getElem_cons h3.1, h3.2] at this
            conv => lhs; rw [← this]
            simp
          have hLl : ((cs.take i).map Kid.xs).length = i := by rw [List.length_map, List.length_take]; omega
          obtain ⟨A, C, hA⟩ := weave_ahead (L := (cs.take i).map Kid.xs) (B := (cs.drop (i + 1)).map Kid.xs) (ks := ks) (k := kk) (by rw [hLl]; exact hk1)
          rw [hLl] at hA
          have hxs : xs = A ++ c.xs ++ kk :: C := by
            rw [n.eq, hsp, ← hA c.xs kk]
            obtain ⟨g1, g2⟩ := List.getElem?_eq_some_iff.1 hk1
            rw [← g2, List.set_getElem_self g1]
          have hac : Asc O (rkI ord) c.xs := by
            rw [hxs] at ha
            exact ((Asc.append O (rkI ord)).1 ((Asc.append O (rkI ord)).1 ha).1).2.1
          have hdk : delR O (rkI ord) false (rkI ord x) xs = some (kk, A ++ c.xs ++ C) := by
            rw [hk2, hxs]
            exact delR_key (by rw [← hxs]; exact ha)
          refine W_sq fun K hK => (W_text [true, true, true, true, true, true, true, true] (by kernel_rfl) ?_); simp only [↓List.toList_toArray, ↓rgd, ↓rgf, ↓reduceIte, Nat.reduceEqDiff, rg, ow_175, e14, e15, ptr_eq, o4.h2, hik, hkv]
          refine hK _ _ ?_; clear hK K
          have nohit : ∀ {P : Prop}, delR O (rkI ord) true (rkI ord x) c.xs = none → P := fun hd0 => by
            have := delR_last (O := O) (κ := rkI ord) (q := rkI ord x) (l := c.xs.dropLast) (x := c.xs.getLast hne)
            rw [List.dropLast_concat_getLast, hd0] at this
            cases this
          have hce := hcell hcs
          refine W_sq fun K hK => (W_semi (some none) (.take false 0 (.take false 1 (.take false 2 (.take false 3 (.take true 4 (.take false 5 (.take true 6 (.take false 7 (.take false 8 (.take false 9 (.take false 10 (.take false 11 (.take true 12 (.bar 13 (.take false 14 (.take false 15 (.take false 16 (.take false 17 (.take false 18 .nil))))))))))))))))))) mixed (by kernel_rfl) ?_); simp only [↓rgm, ↓List.toList_toArray, ↓rgd, ↓rgf, ↓reduceIte, Nat.reduceEqDiff, rg, ow_175, e0, e14, e15, ptr_eq, o4.h3, hk0, hil, hce, z4]
          refine do_call fn_175 (by simp only [evt, evc, upd_eq, Nat.reduceEqDiff, ↓reduceIte, maT, maC, maN, isnN, isnS] <;> rfl) (ihh h' (by omega) (d - 1) c.b c.xs c.F _ ba (oa + i) true x zV none 0 (fun h => by cases h) (c4.ext D fun _ _ _ g => g) (hL4.ext0 D) (fun y o g => hBF y o (hcF c hcm y o g)) (by omega) (by omega) ((nn.sub c hcm).ext D fun _ _ _ g => g) hac (by omega) (D.rd hce fun g => g) (HOk.none _) fun hb hh => by cases hh) ?_
          rintro _ w5 ⟨X5', _, F', hF', hres⟩
          rcases hres with ⟨hd0, _⟩ | ⟨y, yl, hd1, rfl, T5⟩
          · exact nohit hd0
          · have x58 : Ext c.F w3 w5 := X5'.od.mono fun y o _ g => g.elim id fun g => by cases g
            refine ⟨trivial, ?_⟩
            simp only [↓List.toList_toArray, ↓rgd, ↓rgf, ↓reduceIte, Nat.reduceEqDiff, rg, ow_175, ↓rgm]
            refine hK _ _ ?_; clear hK K
            refine W_sq fun K hK => (W_text [true] (by kernel_rfl) ?_); simp only [↓List.toList_toArray, ↓rgd, ↓rgf, ↓reduceIte, Nat.reduceEqDiff, rg, ow_175]
            refine hK _ _ ?_; clear hK K
            have hown : ∀ y o, ownF E b bi oi cap y o → ¬ c.F y o := fun y o g k => n.ap.own c hcm y o k g
            have o8 := o4.ext x58 hown
            refine W_rg fun K hK => (W_text [true, true, true, true, true, true, true, false] (by kernel_rfl) ?_); simp only [↓List.toList_toArray, ↓rgd, ↓rgf, ↓reduceIte, Nat.reduceEqDiff, rg, ow_175, e14, e15, ptr_eq, o8.h2, hik]
            refine do_store (v := itV y) (by simp only [evt, evc, upd_eq, Nat.reduceEqDiff, ↓reduceIte, ntT, ntF] <;> rfl) (by simp only [evt, evc, upd_eq, Nat.reduceEqDiff, ↓reduceIte, ntT, ntF] <;> rfl) sz_20 (rb_len (some y)) o8.wi (by rw [E_sz]; omega) (rb_oc (some y)) fun w9 x9 r9 s9 => ⟨(by first | exact trivial | exact .inl trivial), ?_⟩
            simp only [↓List.toList_toArray, ↓rgd, ↓rgf, ↓reduceIte, Nat.reduceEqDiff, rg, ow_175]
            refine hK _ _ ?_; clear hK K
            have o9 := o8.set hik (by simp only [E_sz, Nat.mul_one]; exact x9.od) (by simp only [E_sz, Nat.mul_one]; exact r9)
            have x9' : Ext (ownF E b bi oi cap) w5 w9 := x9.od.mono fun y o _ g => .inr (by simp only [rng] at g ⊢; rw [E_sz]; omega)
            obtain ⟨l1, l2⟩ := shr_len (d := (⟨c.b, yl, F'⟩ : Kid It)) hcs
            have sh := nn.shr o4 (by omega) hcs x58 (fun _ _ _ g => g) T5 hF'
            have hfp : ∀ y o, (ownF E b bi oi cap y o ∨ kidF bc ba oa capc y o ∨ kinF (cs.take i ++ (⟨c.b, yl, F'⟩ : Kid It) :: cs.drop (i + 1)) y o) → F y o ∨ w3.heap.size ≤ y := fun y o g => nn.shr_fp hcs hF' y o g
            have sh9 : Shr E iso (d - 1) (2 * d - 1) h' w9 b bc (xs.length : Nat) (ks.set i y) (cs.take i) ⟨c.b, yl, F'⟩ (cs.drop (i + 1)) (ownF E b bi oi cap) (kidF bc ba oa capc) bi ba :=
              ⟨⟨bi, oi, cap, o9, by omega, rfl, fun _ _ => Iff.rfl⟩, (kdO _ _).loc sh.n3 x9' sh.l0.d.symm, sh.l0, sh.t.ext x9' (sh.l0.g1 _ (by simp)), fun a ha => (sh.rest a ha).ext x9' (sh.l0.g1 a (by
                rcases List.mem_append.1 ha with ha | ha
                · simp [ha]
                · simp [ha]))⟩
            have X9 : Ext (fun y o => F y o ∨ hF hp y o) w w9 := (X4.trans x58 (fun _ _ g => .inr g) fun y o _ g => .inl (hcF c hcm y o g)).trans x9' (fun _ _ g => g) fun y o _ g => .inl (hoF y o g)
            have H9 : HOk hp w9 := (H4.ext x58 fun hb hh o g => (hHF hb hh).2 o (hcF c hcm hb o g)).ext x9' fun hb hh o g => (hHF hb hh).2 o (hoF hb o g)
            have hcxs : c.xs = yl ++ [y] := by
              have := delR_last (O := O) (κ := rkI ord) (q := rkI ord x) (l := c.xs.dropLast) (x := c.xs.getLast hne)
              rw [List.dropLast_concat_getLast, hd1] at this
              simp only [Option.some.injEq, Prod.mk.injEq] at this
              rw [this.1, this.2, List.dropLast_concat_getLast]
            refine hyes _ w9 kk (cs.take i) (cs.drop (i + 1)) ⟨c.b, yl, F'⟩ (ks.set i y) (A ++ c.xs ++ C) _ _ _ _ sh9 List.length_set (by rw [l1, List.length_set]; exact n.len) ?_ hdk X9 H9 (fun y o g => (hfp y o g).imp id fun g => by omega)
              (by simp only [upd_eq, Nat.reduceEqDiff, ↓reduceIte]; exact e0) (by simp only [upd_eq, Nat.reduceEqDiff, ↓reduceIte]; exact e14) (by simp only [upd_eq, Nat.reduceEqDiff, ↓reduceIte]; rw [l2]; exact e15) (by simp only [upd_eq, Nat.reduceEqDiff, ↓reduceIte] <;> rfl) (by simp only [upd_eq, Nat.reduceEqDiff, ↓reduceIte] <;> rfl)
            rw [List.map_append, List.map_cons, hA, hcxs]; simp
  have o3 := ho.ext X3 fun _ _ _ g => g
  refine W_sq fun K hK => (W_text [true] (by kernel_rfl) ?_); simp only [↓List.toList_toArray, ↓rgd, ↓rgf, ↓reduceIte, Nat.reduceEqDiff, rg, ow_175, e2]
  refine hK _ _ ?_; clear hK K
  cases mx with
  | true =>
    refine W_true (by simp only [evt, evc, upd_eq, Nat.reduceEqDiff, ↓reduceIte, ntT, ntF] <;> rfl) ?_
    have q1 := wsub1 ks.length (by omega) (by omega)
    refine W_rg fun K hK => (W_text [true, true, true, true, true, true, true, true] (by kernel_rfl) ?_); simp only [↓List.toList_toArray, ↓rgd, ↓rgf, ↓reduceIte, Nat.reduceEqDiff, rg, ow_175, ptr_eq, o3.h2, q1]
    refine hK _ _ ?_; clear hK K
    exact hend _ _ true (ks.length - 1) (.inl ⟨rfl, rfl, rfl⟩) (X3.mono fun _ _ _ g => g.elim) (hH.ext0 X3) (by simp only [upd_eq, Nat.reduceEqDiff, ↓reduceIte]; exact e0) (by simp only [upd_eq, Nat.reduceEqDiff, ↓reduceIte]; exact e2) (by simp only [upd_eq, Nat.reduceEqDiff, ↓reduceIte]; exact e3) (by simp only [upd_eq, Nat.reduceEqDiff, ↓reduceIte]; exact e4) (by simp only [upd_eq, Nat.reduceEqDiff, ↓reduceIte]; exact e5) (by simp only [upd_eq, Nat.reduceEqDiff, ↓reduceIte] <;> rfl) (by simp only [upd_eq, Nat.reduceEqDiff, ↓reduceIte] <;> rfl) (by simp only [upd_eq, Nat.reduceEqDiff, ↓reduceIte] <;> rfl)
  | false =>
    refine W_false (by simp only [evt, evc, upd_eq, Nat.reduceEqDiff, ↓reduceIte, ntT, ntF] <;> rfl) ?_
    have e3' : e 3 = itV x := e3.trans (hkv0 rfl)
    have h33 := o3.h3
    rw [hcc] at h33
    refine W_rg fun K hK => (W_text [true, true, true, true, true, false, true, true, true, true, true] (by kernel_rfl) ?_); simp only [↓List.toList_toArray, ↓rgd, ↓rgf, ↓reduceIte, Nat.reduceEqDiff, rg, ow_175, e0, e3', e4, e5]
    refine do_call fn_174 (by simp only [evt, evc, upd_eq, Nat.reduceEqDiff, ↓reduceIte, maT, maC, maN, isnN, isnS] <;> rfl) (find_any B m b bi oi cap ord ks x cc hp dep w3 (hL.ext0 X3) o3.h2 h33 o3.row (by omega) hkb (by omega) hak (hH.ext0 X3) fun hb hh hbb => (hHF hb hh).2 0 (hbb ▸ ht.self 0)) ?_
    rintro _ w4 ⟨rfl, X4, H4⟩
    refine ⟨trivial, ?_⟩
    simp only [↓List.toList_toArray, ↓rgd, ↓rgf, ↓reduceIte, Nat.reduceEqDiff, rg, ow_175, dsrch]
    refine hK _ _ ?_; clear hK K
    exact hend _ _ _ _ (.inr ⟨rfl, rfl, rfl⟩) (X3.trans X4 (fun _ _ g => g.elim) fun _ _ _ g => g) H4 (by simp only [upd_eq, Nat.reduceEqDiff, ↓reduceIte]; exact e0) (by simp only [upd_eq, Nat.reduceEqDiff, ↓reduceIte]; exact e2) (by simp only [upd_eq, Nat.reduceEqDiff, ↓reduceIte]; exact e3) (by simp only [upd_eq, Nat.reduceEqDiff, ↓reduceIte]; exact e4) (by simp only [upd_eq, Nat.reduceEqDiff, ↓reduceIte]; exact e5) (by simp only [upd_eq, Nat.reduceEqDiff, ↓reduceIte] <;> rfl) (by simp only [upd_eq, Nat.reduceEqDiff, ↓reduceIte] <;> rfl) (by simp only [upd_eq, Nat.reduceEqDiff, ↓reduceIte] <;> rfl)
end Go.Proofs.Ytanmjbkbdmeckaa
/-
  Deleting an item from a tree of whatever values. No condition.
-/
set_option linter.unusedSimpArgs false
set_option linter.unusedVariables false
namespace Go.Proofs.Ytanmjbkbdmeckaa
open Go Go.Proofs
theorem delR_out {ord : List Int} {x : It} {xs : List It} : (delR O (rkI ord) false (rkI ord x) xs = none → at? O (rkI ord) (rkI ord x) xs = none ∧ hit O (rkI ord) (rkI ord x) xs = false ∧ del O (rkI ord) (rkI ord x) xs = xs) ∧
    (∀ {y ys}, delR O (rkI ord) false (rkI ord x) xs = some (y, ys) → at? O (rkI ord) (rkI ord x) xs = some y ∧ hit O (rkI ord) (rkI ord x) xs = true ∧ del O (rkI ord) (rkI ord x) xs = ys) := by
  cases hh : hit O (rkI ord) (rkI ord x) xs with
  | false =>
    refine ⟨fun _ => ⟨by simp [at?, hh], rfl, by simp [del, hh]⟩, fun {y ys} h => ?_⟩
    rw [delR_miss hh] at h; cases h
  | true =>
    obtain ⟨k, hk, _⟩ := hit_at O (rkI ord) hh
    refine ⟨fun h => ?_, fun {y ys} h => ?_⟩
    · rw [delR_leaf hh hk] at h; cases h
    · rw [delR_leaf hh hk] at h
      cases h
      exact ⟨by simp [at?, hh, hk], rfl, by simp [del, hh]⟩
set_option maxHeartbeats 4000000 in
set_option maxRecDepth 8000 in
theorem delH_any (B m d : Nat) (iso : Int) (ord : List Int) (x : It) (hp : Option Nat) (hd : 2 ≤ d) (hd' : d ≤ 128) (xs : List It) (F : Nat → Nat → Prop) (w : World) (hM : TreeAt B ord w m d iso xs F) (hbig : xs.length < 1152921504606846976) (hH : HOk hp w) (hHF : ∀ hb, hp = some hb → m < hb ∧ ∀ o, ¬ F hb o) :
    CallK Try.prog 167 #[ptr m, itV x, hV hp] w fun v w' => v = gotG (at? O (rkI ord) (rkI ord x) xs) ∧ Ext (fun y o => mapF m F y o ∨ hF hp y o) w w' ∧ HOk hp w' ∧ ∃ F', TreeAt B ord w' m d iso (del O (rkI ord) (rkI ord x) xs) F' ∧ ∀ y o, F' y o → F y o ∨ w.heap.size ≤ y := by
  have hml := hM.mlt
  have hHl : ∀ y o, hF hp y o → y < w.heap.size := fun y o g => wok_lt (hH y g).wok
  have hmh : ∀ o, ¬ hF hp m o := fun o g => by have := (hHF m g).1; omega
  refine calls_of_W [.tmp 6, .tmp 7] Try.func167 rfl Try.ntmps167 Try.results167 (by simp) fun e he => ?_
  have e0 : e 0 = ptr m := he 0 _ rfl
  have e1 : e 1 = itV x := he 1 _ rfl
  have e2 : e 2 = hV hp := he 2 _ rfl
  clear he
  refine W_sq fun K hK => (W_text [true, true] (by kernel_rfl) ?_); simp only [↓List.toList_toArray, ↓rgd, ↓rgf, ↓reduceIte, Nat.reduceEqDiff, rg, ow_167]
  refine hK _ _ ?_; clear hK K
  refine W_seq ?_
  rcases hM.root with ⟨hxs, hr2⟩ | ⟨h, b, hr2, ht⟩
  · refine W_sq fun K hK => (W_text [true, true, true, true, true] (by kernel_rfl) ?_); simp only [↓List.toList_toArray, ↓rgd, ↓rgf, ↓reduceIte, Nat.reduceEqDiff, rg, ow_167, e0, ptr_eq, hr2]
    refine hK _ _ ?_; clear hK K
    refine W_true (by simp only [evt, evc, upd_eq, Nat.reduceEqDiff, ↓reduceIte, ntT, ntF] <;> rfl) ?_
    have z2 := zIt_at hM.cfg
    refine W_sq fun K hK => (W_text [true, true, true, true, true, true] (by kernel_rfl) ?_); simp only [↓List.toList_toArray, ↓rgd, ↓rgf, ↓reduceIte, Nat.reduceEqDiff, rg, ow_167, e0, ptr_eq, z2]
    refine hK _ _ ?_; clear hK K
    subst hxs
    refine W_ret ?_
    simp only [andThen_ret]
    exact endQ_2 (by simp only [upd_eq, Nat.reduceEqDiff, ↓reduceIte] <;> rfl) (by simp only [upd_eq, Nat.reduceEqDiff, ↓reduceIte] <;> rfl) ⟨rfl, Ext.refl _ _, hH, F, hM, fun _ _ g => .inl g⟩
  · refine W_sq fun K hK => (W_text [true, true, true, true, true] (by kernel_rfl) ?_); simp only [↓List.toList_toArray, ↓rgd, ↓rgf, ↓reduceIte, Nat.reduceEqDiff, rg, ow_167, e0, ptr_eq, hr2]
    refine hK _ _ ?_; clear hK K
    refine W_false (by simp only [evt, evc, upd_eq, Nat.reduceEqDiff, ↓reduceIte, ntT, ntF] <;> rfl) (W_skip ?_)
    show W _ _ _ _ _ _
    have hm : ∀ o, ¬ F m o := hM.off
    have hh := ht.height (by omega) (by omega)
    refine W_sq fun K hK => (W_text [true, true, true, true, true, true, false, true, true, true, true, true] (by kernel_rfl) ?_); simp only [↓List.toList_toArray, ↓rgd, ↓rgf, ↓reduceIte, Nat.reduceEqDiff, rg, ow_167, e0, e1, e2, ptr_eq]
    refine do_call fn_175 (by simp only [evt, evc, upd_eq, Nat.reduceEqDiff, ↓reduceIte, maT, maC, maN, isnN, isnS] <;> rfl) (del_any B m d iso ord hd hd' h 1 b xs F w m 2 false x (itV x) hp 0 (fun _ => rfl) hM.cfg hM.less hM.above (by omega) (by omega) ht hM.asc hbig hr2 hH hHF) ?_
    rintro _ w4 ⟨X4, H4, F', hF', hres⟩
    have XX4 := X4
    have hmo : ∀ o, ¬ (F m o ∨ hF hp m o) := fun o g => g.elim (hm o) (hmh o)
    have c4 := hM.cfg.ext X4 fun o _ _ => hmo o
    have hFm : ∀ y o, F' y o → m < y := fun y o g => by
      rcases hF' y o g with g | g
      · exact hM.above y o g
      · omega
    rcases hres with ⟨hdl, rfl, T4⟩ | ⟨y, ys, hdl, rfl, T4⟩
    · refine ⟨trivial, ?_⟩
      simp only [↓List.toList_toArray, ↓rgd, ↓rgf, ↓reduceIte, Nat.reduceEqDiff, rg, ow_167]
      refine hK _ _ ?_; clear hK K
      refine W_seq ?_
      refine W_sq fun K hK => (W_text [true, true] (by kernel_rfl) ?_); simp only [↓List.toList_toArray, ↓rgd, ↓rgf, ↓reduceIte, Nat.reduceEqDiff, rg, ow_167]
      refine hK _ _ ?_; clear hK K
      refine W_true (by simp only [evt, evc, upd_eq, Nat.reduceEqDiff, ↓reduceIte, ntT, ntF] <;> rfl) ?_
      have z4 := zIt_at c4
      refine W_sq fun K hK => (W_text [true, true, true, true, true, true] (by kernel_rfl) ?_); simp only [↓List.toList_toArray, ↓rgd, ↓rgf, ↓reduceIte, Nat.reduceEqDiff, rg, ow_167, e0, ptr_eq, z4]
      refine hK _ _ ?_; clear hK K
      obtain ⟨h1, h2, h3⟩ := delR_out.1 hdl
      refine W_ret ?_
      simp only [andThen_ret]
      refine endQ_2 (by simp only [upd_eq, Nat.reduceEqDiff, ↓reduceIte] <;> rfl) (by simp only [upd_eq, Nat.reduceEqDiff, ↓reduceIte] <;> rfl) ⟨by rw [h1]; rfl, XX4.mono fun y o _ g => g.imp .inl id, H4, F', ?_, hF'⟩
      rw [h3]
      exact ⟨hM.cfg.ext XX4 fun o _ _ => hmo o, hM.less.ext XX4 (fun y o g => .inl (by rcases g with g | g; have := hM.above y o g; omega; have := (hHF y g).1; omega)) (hmo 6), XX4.rd hM.cnt (hmo 3), hM.asc, .inr ⟨h, b, X4.rd hr2 (hmo 2), T4⟩, fun o g => by have := hFm m o g; omega, T4.lt, hFm⟩
    · refine ⟨trivial, ?_⟩
      simp only [↓List.toList_toArray, ↓rgd, ↓rgf, ↓reduceIte, Nat.reduceEqDiff, rg, ow_167]
      refine hK _ _ ?_; clear hK K
      refine W_seq ?_
      refine W_sq fun K hK => (W_text [true, true] (by kernel_rfl) ?_); simp only [↓List.toList_toArray, ↓rgd, ↓rgf, ↓reduceIte, Nat.reduceEqDiff, rg, ow_167]
      refine hK _ _ ?_; clear hK K
      refine W_false (by simp only [evt, evc, upd_eq, Nat.reduceEqDiff, ↓reduceIte, ntT, ntF] <;> rfl) (W_skip ?_)
      show W _ _ _ _ _ _
      obtain ⟨h1, h2, h3⟩ := delR_out.2 hdl
      have hyl := delR_len hdl
      have hya := delR_asc hM.asc hdl
      have hml4 : m < w4.heap.size := by have := X4.size; omega
      have rm4 : rd w4 m 2 = some (ptr b) := X4.rd hr2 (hmo 2)
      have rc4 : rd w4 m 3 = some (.int .i64 (xs.length : Nat)) := X4.rd hM.cnt (hmo 3)
      obtain ⟨a, nk, capn, hkn, -, -, hraise⟩ := T4.keys
      have hbF := T4.self
      refine W_sqx fun J hJ => ?_
      have hfin : ∀ (e : Env) (w5 : World) (F5 : Nat → Nat → Prop), (ys = [] ∨ ∃ h5 b5, rd w5 m 2 = some (ptr b5) ∧ Tr E iso (d - 1) (2 * d - 1) h5 w5 1 b5 ys F5) → (∀ y o, F5 y o → F' y o) → Ext (rng m 2 1) w4 w5 → e 0 = ptr m → e 8 = itV y → J e w5 := by
        clear e0 e1 e2
        clear e
        intro e w5 F5 hroot hF5 x5 e0 e8
        refine hJ _ _ ?_; clear hJ J
        have rc5 := x5.rd rc4 fun g => by have := g.2; omega
        have wm5 := x5.wok c4.wok
        have q1 := wsub1 xs.length (by omega) (by omega)
        refine W_sq fun K hK => (W_text [true, true, true, true, true, true, true, false] (by kernel_rfl) ?_); simp only [↓List.toList_toArray, ↓rgd, ↓rgf, ↓reduceIte, Nat.reduceEqDiff, rg, ow_167, e0, ptr_eq, rc5, q1]
        refine do_store (by simp only [evt, evc, upd_eq, Nat.reduceEqDiff, ↓reduceIte, ntT, ntF] <;> rfl) (by simp only [evt, evc, upd_eq, Nat.reduceEqDiff, ↓reduceIte, ntT, ntF] <;> rfl) sz_3 rfl wm5 (by decide) (oc_one rfl rfl) fun w6 x6 r6 s6 => ⟨trivial, ?_⟩
        simp only [↓List.toList_toArray, ↓rgd, ↓rgf, ↓reduceIte, Nat.reduceEqDiff, rg, ow_167]
        refine hK _ _ ?_; clear hK K
        have rc6 : rd w6 m 3 = some (.int .i64 (xs.length - 1 : Nat)) := (Row.cons.1 r6).1
        have G46 : Ext (fun y o => y = m ∧ (o = 2 ∨ o = 3)) w4 w6 := x5.trans x6 (fun y o g => ⟨g.1, by have := g.2; omega⟩) fun y o _ g => ⟨g.1, by have := g.2; omega⟩
        refine W_sqx fun J hJ => ?_
        have hret : ∀ (e : Env) (w7 : World) (F7 : Nat → Nat → Prop), ((ys = [] ∧ rd w7 m 2 = some (.pointer none)) ∨ ∃ h5 b5, rd w7 m 2 = some (ptr b5) ∧ Tr E iso (d - 1) (2 * d - 1) h5 w7 1 b5 ys F7) → (∀ y o, F7 y o → F' y o) → rd w7 m 3 = some (.int .i64 (ys.length : Nat)) → Ext (fun y o => y = m ∧ (o = 2 ∨ o = 3)) w4 w7 → (∀ y o, F7 y o → y < w7.heap.size) → e 8 = itV y → J e w7 := by
          clear e0 e8
          clear e
          intro e w7 F7 hroot hF7 rc7 x7 hlt7 e8
          refine hJ _ _ ?_; clear hJ J
          refine W_sq fun K hK => (W_text [true, true, true] (by kernel_rfl) ?_); simp only [↓List.toList_toArray, ↓rgd, ↓rgf, ↓reduceIte, Nat.reduceEqDiff, rg, ow_167, e8]
          refine hK _ _ ?_; clear hK K
          have XX7 : Ext (fun y o => mapF m F y o ∨ hF hp y o) w w7 := (XX4.mono fun y o _ g => g.imp .inl id).trans x7 (fun _ _ g => g) fun y o _ g => .inl (.inr g)
          have hne : ∀ o, o ≠ 2 → o ≠ 3 → ¬ (mapF m F m o ∨ hF hp m o) := fun o h2 h3 g => by
            rcases g with (g | g) | g
            · exact hm o g
            · have := g.2; omega
            · exact hmh o g
          have hM7 : TreeAt B ord w7 m d iso ys F7 := ⟨hM.cfg.ext XX7 hne, hM.less.ext XX7 (fun y o g => .inl (by
            rcases g with (g | g) | g
            · have := hM.above y o g; omega
            · have := g.1; omega
            · have := (hHF y g).1; omega)) (hne 6 (by decide) (by decide)), rc7, hya, hroot, fun o g => by have := hFm m o (hF7 _ _ g); omega, hlt7, fun y o g => hFm y o (hF7 y o g)⟩
          refine W_ret (endQ_2 (by simp only [upd_eq, Nat.reduceEqDiff, ↓reduceIte] <;> rfl) (by simp only [upd_eq, Nat.reduceEqDiff, ↓reduceIte] <;> rfl) ⟨by rw [h1]; rfl, XX7, H4.ext x7 fun hb hh o g => ?_, F7, by rw [h3]; exact hM7, fun y o g => (hF' y o (hF7 y o g)).imp id fun g => by omega⟩)
          have := (hHF hb hh).1
          have := g.1; omega
        by_cases hy0 : ys = []
        · have hb : (((xs.length - 1 : Nat) : Int) == 0) = true := by rw [hy0] at hyl; simp at hyl ⊢; omega
          refine W_sq fun K hK => (W_text [true, true, true, true, true] (by kernel_rfl) ?_); simp only [↓List.toList_toArray, ↓rgd, ↓rgf, ↓reduceIte, Nat.reduceEqDiff, rg, ow_167, e0, ptr_eq, rc6, hb]
          refine hK _ _ ?_; clear hK K
          refine W_true (by simp only [evt, evc, upd_eq, Nat.reduceEqDiff, ↓reduceIte, ntT, ntF] <;> rfl) ?_
          refine W_rg fun K hK => (W_text [true, true, true, false] (by kernel_rfl) ?_); simp only [↓List.toList_toArray, ↓rgd, ↓rgf, ↓reduceIte, Nat.reduceEqDiff, rg, ow_167, e0, ptr_eq]
          refine do_store (v := .pointer none) (by simp only [evt, evc, upd_eq, Nat.reduceEqDiff, ↓reduceIte, ntT, ntF] <;> rfl) (by simp only [evt, evc, upd_eq, Nat.reduceEqDiff, ↓reduceIte, ntT, ntF] <;> rfl) sz_106 rfl (x6.wok wm5) (by decide) (oc_one rfl rfl) fun w7 x7 r7 s7 => ⟨trivial, ?_⟩
          simp only [↓List.toList_toArray, ↓rgd, ↓rgf, ↓reduceIte, Nat.reduceEqDiff, rg, ow_167]
          refine hK _ _ ?_; clear hK K
          exact hret _ w7 noF (.inl ⟨hy0, (Row.cons.1 r7).1⟩) (fun _ _ g => g.elim) (by rw [show ys.length = xs.length - 1 by omega]; exact x7.rd rc6 fun g => by have := g.2; omega) (G46.trans x7 (fun _ _ g => g) fun y o _ g => ⟨g.1, by have := g.2; omega⟩) (fun _ _ g => g.elim) (by simp only [upd_eq, Nat.reduceEqDiff, ↓reduceIte]; exact e8)
        · have hb : (((xs.length - 1 : Nat) : Int) == 0) = false := by
            have : ys.length ≠ 0 := fun h => hy0 (List.eq_nil_of_length_eq_zero h)
            simp; omega
          refine W_sq fun K hK => (W_text [true, true, true, true, true] (by kernel_rfl) ?_); simp only [↓List.toList_toArray, ↓rgd, ↓rgf, ↓reduceIte, Nat.reduceEqDiff, rg, ow_167, e0, ptr_eq, rc6, hb]
          refine hK _ _ ?_; clear hK K
          refine W_false (by simp only [evt, evc, upd_eq, Nat.reduceEqDiff, ↓reduceIte, ntT, ntF] <;> rfl) (W_skip ?_)
          obtain ⟨h5, b5, hr5, T5⟩ := hroot.resolve_left hy0
          have T6 := T5.ext x6 fun y o g k => by have := hFm y o (hF5 y o g); have := k.1; omega
          exact hret _ w6 F5 (.inr ⟨h5, b5, x6.rd hr5 fun g => by have := g.2; omega, T6⟩) hF5 (by rw [show ys.length = xs.length - 1 by omega]; exact rc6) G46 T6.lt (by simp only [upd_eq, Nat.reduceEqDiff, ↓reduceIte]; exact e8)
      by_cases hn0 : nk = 0
      · subst hn0
        have hb : (((0 : Nat) : Int) == 0) = true := rfl
        rcases T4.open with ⟨bi, oi, cap, ks, ch, ho, -, -, hoF, hin⟩
        have hks : ks = [] := by
          have := ho.h2.symm.trans hkn
          simp only [Option.some.injEq, Value.slice.injEq] at this
          exact List.eq_nil_of_length_eq_zero this.2.1
        rcases hin with ⟨_, hcn, hx, _⟩ | ⟨h', bc, ba, oa, capc, cs, rfl, hcn, n⟩
        · rw [hcn] at ho
          refine W_sq fun K hK => (W_text [true, true, true, true, true, true, true, true, true, true, true, true, true, true, false, true, true] (by kernel_rfl) ?_); simp only [↓List.toList_toArray, ↓rgd, ↓rgf, ↓reduceIte, Nat.reduceEqDiff, rg, ow_167, e0, ptr_eq, rm4, hkn, hb]
          refine do_call fn_122 (by simp only [evt, evc, upd_eq, Nat.reduceEqDiff, ↓reduceIte, maT, maC, maN, isnN, isnS] <;> rfl) (leaf_any b none w4 ho.h3) ?_
          rintro _ w5 ⟨rfl, hw5⟩
          obtain rfl : w4 = w5 := hw5.symm
          refine ⟨trivial, ?_⟩
          simp only [↓List.toList_toArray, ↓rgd, ↓rgf, ↓reduceIte, Nat.reduceEqDiff, rg, ow_167]
          refine hK _ _ ?_; clear hK K
          refine W_false (by simp only [evt, evc, upd_eq, Nat.reduceEqDiff, ↓reduceIte, ntT, ntF] <;> rfl) (W_skip ?_)
          exact hfin _ w4 F' (.inl (hx.trans hks)) (fun _ _ g => g) (Ext.refl _ _) (by simp only [upd_eq, Nat.reduceEqDiff, ↓reduceIte]; exact e0) (by simp only [upd_eq, Nat.reduceEqDiff, ↓reduceIte])
        · rw [hcn] at ho
          refine W_sq fun K hK => (W_text [true, true, true, true, true, true, true, true, true, true, true, true, true, true, false, true, true] (by kernel_rfl) ?_); simp only [↓List.toList_toArray, ↓rgd, ↓rgf, ↓reduceIte, Nat.reduceEqDiff, rg, ow_167, e0, ptr_eq, rm4, hkn, hb]
          refine do_call fn_122 (by simp only [evt, evc, upd_eq, Nat.reduceEqDiff, ↓reduceIte, maT, maC, maN, isnN, isnS] <;> rfl) (leaf_any b (some ⟨bc, 0, none⟩) w4 ho.h3) ?_
          rintro _ w5 ⟨rfl, hw5⟩
          obtain rfl : w4 = w5 := hw5.symm
          refine ⟨trivial, ?_⟩
          simp only [↓List.toList_toArray, ↓rgd, ↓rgf, ↓reduceIte, Nat.reduceEqDiff, rg, ow_167]
          refine hK _ _ ?_; clear hK K
          refine W_true (by simp only [evt, evc, upd_eq, Nat.reduceEqDiff, ↓reduceIte, ntT, ntF] <;> rfl) ?_
          have hl1 : cs.length = 1 := by rw [n.len, hks]; rfl
          obtain ⟨c, rfl⟩ := List.length_eq_one_iff.1 hl1
          have hk0 : rd w4 bc 0 = some (.slice (some ⟨ba, oa, none⟩) 1 capc) := n.kids.c0
          have i0 := ix0 1 ba oa 1 (by decide)
          have hce := n.kids.se.ptr_at (j := 0) (p := c.b) rfl
          rw [Nat.add_zero] at hce
          have hyc : ys = c.xs := by rw [n.eq, hks]; rfl
          have hcF : ∀ y o, c.F y o → F' y o := fun y o g => (n.fp y o).2 (.inr (.inr ⟨c, by simp, g⟩))
          refine W_rg fun K hK => (W_text [true, true, true, true, true, true, true, true, true, true, true, true, true, true, false] (by kernel_rfl) ?_); simp only [↓List.toList_toArray, ↓rgd, ↓rgf, ↓reduceIte, Nat.reduceEqDiff, rg, ow_167, e0, ptr_eq, rm4, ho.h3, hk0, i0, hce]
          refine do_store (v := ptr c.b) (by simp only [evt, evc, upd_eq, Nat.reduceEqDiff, ↓reduceIte, ntT, ntF] <;> rfl) (by simp only [evt, evc, upd_eq, Nat.reduceEqDiff, ↓reduceIte, ntT, ntF] <;> rfl) sz_106 rfl c4.wok (by decide) (oc_one rfl rfl) fun w5 x5 r5 s5 => ⟨trivial, ?_⟩
          simp only [↓List.toList_toArray, ↓rgd, ↓rgf, ↓reduceIte, Nat.reduceEqDiff, rg, ow_167]
          refine hK _ _ ?_; clear hK K
          refine hfin _ w5 c.F (.inr ⟨h', c.b, (Row.cons.1 r5).1, ?_⟩) hcF x5 (by simp only [upd_eq, Nat.reduceEqDiff, ↓reduceIte]; exact e0) (by simp only [upd_eq, Nat.reduceEqDiff, ↓reduceIte])
          rw [hyc]
          exact ((n.sub c (by simp)).mono (by omega)).ext x5 fun y o g k => by have := hFm y o (hcF y o g); have := k.1; omega
      · have hb : ((nk : Int) == 0) = false := by simp; omega
        refine W_sq fun K hK => (W_text [true, true, true, true, true, true, true, true, true, true, true, true, true, true, false, true, true] (by kernel_rfl) ?_); simp only [↓List.toList_toArray, ↓rgd, ↓rgf, ↓reduceIte, Nat.reduceEqDiff, rg, ow_167, e0, ptr_eq, rm4, hkn, hb]
        refine hK _ _ ?_; clear hK K
        refine W_false (by simp only [evt, evc, upd_eq, Nat.reduceEqDiff, ↓reduceIte, ntT, ntF] <;> rfl) (W_skip ?_)
        exact hfin _ w4 F' (.inr ⟨h, b, rm4, hraise 1 (by omega)⟩) (fun _ _ g => g) (Ext.refl _ _) (by simp only [upd_eq, Nat.reduceEqDiff, ↓reduceIte]; exact e0) (by simp only [upd_eq, Nat.reduceEqDiff, ↓reduceIte])
set_option maxHeartbeats 800000 in
set_option maxRecDepth 8000 in
theorem delHint_any (B m d : Nat) (iso : Int) (ord : List Int) (x : It) (hp : Option Nat) (hd : 2 ≤ d) (hd' : d ≤ 128) (xs : List It) (F : Nat → Nat → Prop) (w : World) (hM : TreeAt B ord w m d iso xs F) (hbig : xs.length < 1152921504606846976) (hH : HOk hp w) (hHF : ∀ hb, hp = some hb → m < hb ∧ ∀ o, ¬ F hb o) :
    CallK Try.prog 162 #[ptr m, itV x, hV hp] w fun v w' => v = gotG (at? O (rkI ord) (rkI ord x) xs) ∧ Ext (fun y o => mapF m F y o ∨ hF hp y o) w w' ∧ HOk hp w' ∧ ∃ F', TreeAt B ord w' m d iso (del O (rkI ord) (rkI ord x) xs) F' ∧ ∀ y o, F' y o → F y o ∨ w.heap.size ≤ y := by
  refine calls_of_W [.tmp 6, .tmp 7] Try.func162 rfl Try.ntmps162 Try.results162 (by simp) fun e he => ?_
  have e0 : e 0 = ptr m := he 0 _ rfl
  have e1 : e 1 = itV x := he 1 _ rfl
  have e2 : e 2 = hV hp := he 2 _ rfl
  clear he
  refine W_sq fun K hK => (W_text [true, true] (by kernel_rfl) ?_); simp only [↓List.toList_toArray, ↓rgd, ↓rgf, ↓reduceIte, Nat.reduceEqDiff, rg, ow_162]
  refine hK _ _ ?_; clear hK K
  refine W_seq ?_
  refine W_sq fun K hK => (W_text [true, false] (by kernel_rfl) ?_); simp only [↓List.toList_toArray, ↓rgd, ↓rgf, ↓reduceIte, Nat.reduceEqDiff, rg, ow_162, e0]
  refine do_call fn_118 (by simp only [evt, evc, upd_eq, Nat.reduceEqDiff, ↓reduceIte, maT, maC, maN, isnN, isnS] <;> rfl) (lock_any _ _ w) ?_
  rintro _ w1 ⟨rfl, hw1⟩
  obtain rfl : w = w1 := hw1
  refine ⟨trivial, ?_⟩
  simp only [↓List.toList_toArray, ↓rgd, ↓rgf, ↓reduceIte, Nat.reduceEqDiff, rg, ow_162]
  refine hK _ _ ?_; clear hK K
  refine W_false (by simp only [evt, evc, upd_eq, Nat.reduceEqDiff, ↓reduceIte, ntT, ntF] <;> rfl) (W_skip ?_)
  show W _ _ _ _ _ _
  refine W_sq fun K hK => (W_text [true, true, true, false, true, true, true, true] (by kernel_rfl) ?_); simp only [↓List.toList_toArray, ↓rgd, ↓rgf, ↓reduceIte, Nat.reduceEqDiff, rg, ow_162, e0, e1, e2]
  refine do_call fn_167 (by simp only [evt, evc, upd_eq, Nat.reduceEqDiff, ↓reduceIte, maT, maC, maN, isnN, isnS] <;> rfl) (delH_any B m d iso ord x hp hd hd' xs F w hM hbig hH hHF) ?_
  rintro _ w1 ⟨rfl, h1⟩
  refine ⟨trivial, ?_⟩
  simp only [↓List.toList_toArray, ↓rgd, ↓rgf, ↓reduceIte, Nat.reduceEqDiff, rg, ow_162, gotG_eq]
  refine hK _ _ ?_; clear hK K
  exact W_ret (endQ_2 (by simp only [upd_eq, Nat.reduceEqDiff, ↓reduceIte] <;> rfl) (by simp only [upd_eq, Nat.reduceEqDiff, ↓reduceIte] <;> rfl) ⟨rfl, h1⟩)
set_option maxHeartbeats 800000 in
set_option maxRecDepth 8000 in
theorem delT_any (t B m d : Nat) (iso : Int) (ord : List Int) (x : It) (hd : 2 ≤ d) (hd' : d ≤ 128) (xs : List It) (F : Nat → Nat → Prop) (w : World) (ht : BAt w t m) (hM : TreeAt B ord w m d iso xs F) (hbig : xs.length < 1152921504606846976) :
    CallK Try.prog 134 #[ptr t, itV x, .pointer none] w fun v w' => v = itO (at? O (rkI ord) (rkI ord x) xs) ∧ Ext (mapF m F) w w' ∧ ∃ F', TreeAt B ord w' m d iso (del O (rkI ord) (rkI ord x) xs) F' ∧ ∀ y o, F' y o → F y o ∨ w.heap.size ≤ y := by
  refine calls_of_W [.tmp 6] Try.func134 rfl Try.ntmps134 Try.results134 (by simp) fun e he => ?_
  have e0 : e 0 = ptr t := he 0 _ rfl
  have e1 : e 1 = itV x := he 1 _ rfl
  have e2 : e 2 = .pointer none := he 2 _ rfl
  clear he
  have ht : rd w t 0 = some (ptr m) := ht
  refine W_sq fun K hK => (W_text [true] (by kernel_rfl) ?_); simp only [↓List.toList_toArray, ↓rgd, ↓rgf, ↓reduceIte, Nat.reduceEqDiff, rg, ow_134]
  refine hK _ _ ?_; clear hK K
  refine W_seq ?_
  refine W_sq fun K hK => (W_text [true, true] (by kernel_rfl) ?_); simp only [↓List.toList_toArray, ↓rgd, ↓rgf, ↓reduceIte, Nat.reduceEqDiff, rg, ow_134, e1, eq_any]
  refine hK _ _ ?_; clear hK K
  refine W_false (by simp only [evt, evc, upd_eq, Nat.reduceEqDiff, ↓reduceIte, ntT, ntF] <;> rfl) (W_skip ?_)
  show W _ _ _ _ _ _
  refine W_sq fun K hK => (W_text [true, true, true, true, true, true, false, true, true, true, true, true] (by kernel_rfl) ?_); simp only [↓List.toList_toArray, ↓rgd, ↓rgf, ↓reduceIte, Nat.reduceEqDiff, rg, ow_134, e0, e1, e2, ptr_eq, ht]
  refine do_call fn_162 (by simp only [evt, evc, upd_eq, Nat.reduceEqDiff, ↓reduceIte, maT, maC, maN, isnN, isnS] <;> rfl) (delHint_any B m d iso ord x none hd hd' xs F w hM hbig (HOk.none _) (fun _ h => by cases h)) ?_
  rintro _ w1 ⟨rfl, h1, -, h3⟩
  have h1 : Ext (mapF m F) w w1 := h1.mono fun y o _ g => g.elim id fun g => by cases g
  refine ⟨trivial, ?_⟩
  simp only [↓List.toList_toArray, ↓rgd, ↓rgf, ↓reduceIte, Nat.reduceEqDiff, rg, ow_134, gotG_eq]
  refine hK _ _ ?_; clear hK K
  refine W_seq ?_
  generalize at? O (rkI ord) (rkI ord x) xs = r at *
  cases r with
  | some y =>
    have hy : (some y).isSome = true := rfl
    refine W_sq fun K hK => (W_text [true, true] (by kernel_rfl) ?_); simp only [↓List.toList_toArray, ↓rgd, ↓rgf, ↓reduceIte, Nat.reduceEqDiff, rg, ow_134, hy]
    refine hK _ _ ?_; clear hK K
    refine W_false (by simp only [evt, evc, upd_eq, Nat.reduceEqDiff, ↓reduceIte, ntT, ntF] <;> rfl) (W_skip ?_)
    show W _ _ _ _ _ _
    refine W_sq fun K hK => (W_text [true, true] (by kernel_rfl) ?_); simp only [↓List.toList_toArray, ↓rgd, ↓rgf, ↓reduceIte, Nat.reduceEqDiff, rg, ow_134]
    refine hK _ _ ?_; clear hK K
    exact W_ret (endQ_1 (by simp only [upd_eq, Nat.reduceEqDiff, ↓reduceIte] <;> rfl) ⟨rfl, h1, h3⟩)
  | none =>
    have hy : (none : Option It).isSome = false := rfl
    refine W_sq fun K hK => (W_text [true, true] (by kernel_rfl) ?_); simp only [↓List.toList_toArray, ↓rgd, ↓rgf, ↓reduceIte, Nat.reduceEqDiff, rg, ow_134, hy]
    refine hK _ _ ?_; clear hK K
    refine W_true (by simp only [evt, evc, upd_eq, Nat.reduceEqDiff, ↓reduceIte, ntT, ntF] <;> rfl) ?_
    refine W_sq fun K hK => (W_text [true] (by kernel_rfl) ?_); simp only [↓List.toList_toArray, ↓rgd, ↓rgf, ↓reduceIte, Nat.reduceEqDiff, rg, ow_134]
    refine hK _ _ ?_; clear hK K
    refine W_ret ?_
    simp only [andThen_ret]
    exact endQ_1 (by simp only [upd_eq, Nat.reduceEqDiff, ↓reduceIte] <;> rfl) ⟨rfl, h1, h3⟩
set_option maxHeartbeats 800000 in
set_option maxRecDepth 8000 in
theorem tdelete_any (t B m d : Nat) (iso : Int) (ord : List Int) (x : It) (hd : 2 ≤ d) (hd' : d ≤ 128) (xs : List It) (F : Nat → Nat → Prop) (w : World) (ht : BAt w t m) (hM : TreeAt B ord w m d iso xs F) (hbig : xs.length < 1152921504606846976) :
    CallK Try.prog 95 #[ptr t, itV x] w fun v w' => v = itO (at? O (rkI ord) (rkI ord x) xs) ∧ Ext (mapF m F) w w' ∧ ∃ F', TreeAt B ord w' m d iso (del O (rkI ord) (rkI ord x) xs) F' ∧ ∀ y o, F' y o → F y o ∨ w.heap.size ≤ y := by
  refine calls_of_W [.tmp 4] Try.func95 rfl Try.ntmps95 Try.results95 (by simp) fun e he => ?_
  have e0 : e 0 = ptr t := he 0 _ rfl
  have e1 : e 1 = itV x := he 1 _ rfl
  clear he
  refine W_sq fun K hK => (W_text [true] (by kernel_rfl) ?_); simp only [↓List.toList_toArray, ↓rgd, ↓rgf, ↓reduceIte, Nat.reduceEqDiff, rg, ow_95]
  refine hK _ _ ?_; clear hK K
  refine W_sq fun K hK => (W_text [true, true, false, true] (by kernel_rfl) ?_); simp only [↓List.toList_toArray, ↓rgd, ↓rgf, ↓reduceIte, Nat.reduceEqDiff, rg, ow_95, e0, e1]
  refine do_call fn_134 (by simp only [evt, evc, upd_eq, Nat.reduceEqDiff, ↓reduceIte, maT, maC, maN, isnN, isnS] <;> rfl) (delT_any t B m d iso ord x hd hd' xs F w ht hM hbig) ?_
  rintro _ w1 ⟨rfl, h1⟩
  refine ⟨trivial, ?_⟩
  simp only [↓List.toList_toArray, ↓rgd, ↓rgf, ↓reduceIte, Nat.reduceEqDiff, rg, ow_95]
  refine hK _ _ ?_; clear hK K
  exact W_ret (endQ_1 (by simp only [upd_eq, Nat.reduceEqDiff, ↓reduceIte] <;> rfl) ⟨rfl, h1⟩)
end Go.Proofs.Ytanmjbkbdmeckaa
/-
  Deleting keys, one after the other. No condition.
-/
set_option linter.unusedSimpArgs false
set_option linter.unusedVariables false
namespace Go.Proofs.Ytanmjbkbdmeckaa
open Go Go.Proofs
set_option maxHeartbeats 1600000 in
set_option maxRecDepth 8000 in
theorem impl_bdelete (d : Nat) (hd : DOk d) (ord : List Int) (sv : Value) (nl : Bool) (l : List It) (lv : Value) (ks : List It) (kv : Value) (w : World) (hs : SlInt w sv ord) (hsb : ord.length ≤ 2147483647) (hl : SlI w lv l) (hbig : l.length ≤ 2147483647) (hks : SlI w kv ks) (hkb : ks.length ≤ 2147483647) :
    CallK Try.prog 62 #[mkV sv d nl, lv, kv] w fun v w' => ∃ v1 v2, v = .tuple #[v1, v2] ∧ SlV w' 3 v1 ks.length (flat Ef (runR (dlU ord) (dlA ord) (treeG ord l) ks)) ∧ SlI w' v2 (runL (dlU ord) (treeG ord l) ks) ∧ Ext noF w w' := by
  refine calls_of_W [.tmp 6, .tmp 7] Try.func62 rfl Try.ntmps62 Try.results62 (by simp) fun e he => ?_
  have e0 : e 0 = mkV sv d nl := he 0 _ rfl
  have e1 : e 1 = lv := he 1 _ rfl
  have e2 : e 2 = kv := he 2 _ rfl
  clear he
  obtain ⟨ka, kc, hkv⟩ := SlV.shape hks
  rw [hkv] at e2
  obtain ⟨hd2, hd3⟩ := hd.of
  have htr := treeG_len ord l
  refine W_sq fun K hK => (W_text [false, true, true] (by kernel_rfl) ?_); simp only [↓List.toList_toArray, ↓rgd, ↓rgf, ↓reduceIte, Nat.reduceEqDiff, rg, ow_62]
  refine do_box (by simp only [evt]; exact e0) fun w1 n1 => ⟨trivial, ?_⟩
  simp only [↓List.toList_toArray, ↓rgd, ↓rgf, ↓reduceIte, Nat.reduceEqDiff, rg, ow_62]
  refine hK _ _ ?_; clear hK K
  have rm := mk_at (show Row w1 w.heap.size 0 (mkL sv d nl) from n1.row)
  refine W_sq fun K hK => (W_text [true, true, false, true] (by kernel_rfl) ?_); simp only [↓List.toList_toArray, ↓rgd, ↓rgf, ↓reduceIte, Nat.reduceEqDiff, rg, ow_62, e1, rm]
  refine do_call fn_53 (by simp only [evt, evc, upd_eq, Nat.reduceEqDiff, ↓reduceIte, maT, maC, maN, isnN, isnS] <;> rfl) (growB_any d hd ord sv nl l lv w1 (SlV.ext0 hs n1.ext) hsb (SlV.ext0 hl n1.ext) (by omega)) ?_
  rintro _ w0 ⟨X2, t, A, m, F, rfl, hbt, htw, hFt, htl2, hM0, hmw, hmt, hFw, hBw⟩
  have X02 := n1.ext.tr X2
  have s1 := n1.size
  have s02 := X02.size
  refine ⟨trivial, ?_⟩
  simp only [↓List.toList_toArray, ↓rgd, ↓rgf, ↓reduceIte, Nat.reduceEqDiff, rg, ow_62]
  refine hK _ _ ?_; clear hK K
  refine W_sq fun K hK => (W_text [true] (by kernel_rfl) ?_); simp only [↓List.toList_toArray, ↓rgd, ↓rgf, ↓reduceIte, Nat.reduceEqDiff, rg, ow_62]
  refine hK _ _ ?_; clear hK K
  have hk0 : SlI w0 kv ks := SlV.ext0 hks X02
  have hfill : Fil A t m (degOf d) ord (.slice none 0 0) (runL (dlU ord) (treeG ord l) (ks.take 0)) (runR (dlU ord) (dlA ord) (treeG ord l) (ks.take 0)) w0 := ⟨hbt, ⟨F, hM0, hFt, offB_nil _⟩, OutE.nil _ _ _, hmt, htl2⟩
  have hkl : ∀ b o n c, kv = .slice (some ⟨b, o, none⟩) n c → b < w.heap.size := fun b o n c h => SlV.lt hks h
  clear hM0 X2 n1

  refine W_seq (W_seq ?_)
  refine W_rg fun K hK => (W_text [true, true, true] (by kernel_rfl) ?_); simp only [↓List.toList_toArray, ↓rgd, ↓rgf, ↓reduceIte, Nat.reduceEqDiff, rg, ow_62, e2]
  refine hK _ _ ?_; clear hK K
  show W _ _ _ _ _ _
  refine W_block (W_loop (fun mm e w' => ∃ k : Nat, mm = ks.length - k ∧ k ≤ ks.length ∧ e 15 = .slice ka ks.length kc ∧ e 16 = .int .i64 ks.length ∧ e 17 = .int .i64 k ∧ e 8 = ptr t ∧ Fil A t m (degOf d) ord (e 9) (runL (dlU ord) (treeG ord l) (ks.take k)) (runR (dlU ord) (dlA ord) (treeG ord l) (ks.take k)) w' ∧ Ext (filF m) w0 w')
    ks.length ⟨0, by simp, by simp, by simp only [upd_eq, Nat.reduceEqDiff, ↓reduceIte], by simp only [upd_eq, Nat.reduceEqDiff, ↓reduceIte], by simp only [upd_eq, Nat.reduceEqDiff, ↓reduceIte]; rfl, by simp only [upd_eq, Nat.reduceEqDiff, ↓reduceIte], by simp only [upd_eq, Nat.reduceEqDiff, ↓reduceIte]; exact hfill, Ext.refl _ _⟩ ?_)
  clear hfill e0 e1 e2 e
  rintro mm e w' ⟨k, rfl, hk, eS, eL, eI, eM, hfl, X⟩
  by_cases hlt : k < ks.length
  · have ht := lt_tt k ks.length hlt
    refine W_sq fun K hK => (W_text [true] (by kernel_rfl) ?_); simp only [↓List.toList_toArray, ↓rgd, ↓rgf, ↓reduceIte, Nat.reduceEqDiff, rg, ow_62, eL, eI, ht]
    refine hK _ _ ?_; clear hK K
    refine W_seq (W_true (by simp only [evt, evc, upd_eq, Nat.reduceEqDiff, ↓reduceIte, ntT, ntF] <;> rfl) (W_skip ?_))
    show W _ _ _ _ _ _
    obtain ⟨x, hx⟩ : ∃ x, ks[k]? = some x := ⟨_, List.getElem?_eq_getElem hlt⟩
    obtain ⟨ib, io, hka, row⟩ := hk0.at hkv hlt
    have hibl := hk0.lt (hkv.trans (by rw [hka]))
    have ixx := iV_at (X.row row (fun _ _ h => by have := hkl _ _ _ _ (hkv.trans (by rw [hka])); have : m ≤ _ := h; omega)) hx
    rw [hka] at eS
    refine W_seq (W_block ?_)
    refine W_sq fun K hK => (W_text [true, true, false, false] (by kernel_rfl) ?_); simp only [↓List.toList_toArray, ↓rgd, ↓rgf, ↓reduceIte, Nat.reduceEqDiff, rg, ow_62, eS, eI, hlt, ixx]
    refine do_alloc z_item fun w2 n2 => ⟨trivial, ?_⟩
    simp only [↓List.toList_toArray, ↓rgd, ↓rgf, ↓reduceIte, Nat.reduceEqDiff, rg, ow_62]
    refine do_store (v := iV x) (by simp only [evt, evc, upd_eq, Nat.reduceEqDiff, ↓reduceIte, ntT, ntF] <;> rfl) (by simp only [evt, evc, upd_eq, Nat.reduceEqDiff, ↓reduceIte, ntT, ntF] <;> rfl) sz_33 rfl n2.wok (by decide) (Ei.one x) fun w3 x3 r3 s3 => ⟨trivial, ?_⟩
    simp only [↓List.toList_toArray, ↓rgd, ↓rgf, ↓reduceIte, Nat.reduceEqDiff, rg, ow_62]
    refine hK _ _ ?_; clear hK K
    have s2 := n2.size
    have X3 : Ext noF w' w3 := noF_of n2.ext x3 fun y o hy h => by simp only [rng] at h; omega
    have s3 := X3.size
    have ix3 := iXi_at (show Row w3 w'.heap.size 0 (Ei.cel x) from r3)
    rw [← hka] at eS
    have sX := X.size
    obtain ⟨l1, l2⟩ := hfl.lt
    have hfl3 := hfl.ext X3
    obtain ⟨F0, hM0, hF0, ho0⟩ := hfl.tr
    have htl := runL_len (dlU ord) (dlU_len ord) (ks.take k) (treeG ord l)
    refine W_rg fun K hK => (W_text [true, true, true, true, false, false, false, false, true] (by kernel_rfl) ?_); simp only [↓List.toList_toArray, ↓rgd, ↓rgf, ↓reduceIte, Nat.reduceEqDiff, rg, ow_62, eM, ix3]
    refine do_call fn_95 (vs := #[ptr t, itV x]) (by simp only [evt, evc, upd_eq, Nat.reduceEqDiff, ↓reduceIte, maT, maC, maN, isnN, isnS] <;> rfl) (tdelete_any t A m (degOf d) 1 ord x hd2 hd3 _ F0 w3 (hfl3.bat) (hM0.ext X3) (by omega)) ?_
    rintro _ w4 ⟨rfl, x4, F', hM4, hF'⟩
    refine ⟨trivial, ?_⟩
    simp only [↓List.toList_toArray, ↓rgd, ↓rgf, ↓reduceIte, Nat.reduceEqDiff, rg, ow_62]
    obtain ⟨hfl4, X4⟩ := hfl3.step (hM0.ext X3) hF0 ho0 x4 hM4 hF'
    refine do_call fn_54 (by simp only [evt, evc, upd_eq, Nat.reduceEqDiff, ↓reduceIte, maT, maC, maN, isnN, isnS] <;> rfl) (found_any _ w4) ?_
    rintro _ w5 ⟨rfl, X5⟩
    refine ⟨trivial, ?_⟩
    simp only [↓List.toList_toArray, ↓rgd, ↓rgf, ↓reduceIte, Nat.reduceEqDiff, rg, ow_62]
    refine do_bsl rfl (bs_fo1 _) fun w6 n6 => ⟨trivial, ?_⟩
    simp only [↓List.toList_toArray, ↓rgd, ↓rgf, ↓reduceIte, Nat.reduceEqDiff, rg, ow_62]
    have X6 := X5.tr n6.ext
    have s6 := X6.size
    have hrl : (runR (dlU ord) (dlA ord) (treeG ord l) (ks.take k)).length = k := by rw [runR_length, List.length_take]; omega
    have hx6 : SlV w6 3 (.slice (some ⟨w5.heap.size, 0, none⟩) 1 1) 1 (Ef.cel ((dlA ord) (runL (dlU ord) (treeG ord l) (ks.take k)) x)) := ⟨rfl, .inr ⟨_, 0, 1, rfl, Nat.le_refl _, n6.row, n6.wok.R (Nat.le_refl _)⟩⟩
    have hfl6 := hfl4.ext X6
    refine do_append (by simp only [evt, evc, upd_eq, Nat.reduceEqDiff, ↓reduceIte, ntT, ntF] <;> rfl) (by simp only [evt, evc, upd_eq, Nat.reduceEqDiff, ↓reduceIte, ntT, ntF] <;> rfl) el_fo rfl ni_fo hfl6.out.sl hx6 (by omega) (by decide) (Ef.one _) fun v7 w7 a7 => ?_
    obtain ⟨hfl7, X7⟩ := hfl6.app a7
    refine ⟨trivial, ?_⟩
    simp only [↓List.toList_toArray, ↓rgd, ↓rgf, ↓reduceIte, Nat.reduceEqDiff, rg, ow_62]
    refine hK _ _ ?_; clear hK K
    show W _ _ _ _ _ _
    have q1 := wadd1 k (by omega)
    refine W_rg fun K hK => (W_text [true, true] (by kernel_rfl) ?_); simp only [↓List.toList_toArray, ↓rgd, ↓rgf, ↓reduceIte, Nat.reduceEqDiff, rg, ow_62, eI, q1]
    refine hK _ _ ?_; clear hK K
    refine ⟨_, ?_, k + 1, rfl, hlt, by simp only [upd_eq, Nat.reduceEqDiff, ↓reduceIte]; exact eS, by simp only [upd_eq, Nat.reduceEqDiff, ↓reduceIte]; exact eL, by simp only [upd_eq, Nat.reduceEqDiff, ↓reduceIte], by simp only [upd_eq, Nat.reduceEqDiff, ↓reduceIte]; exact eM, by simp only [upd_eq, Nat.reduceEqDiff, ↓reduceIte]; rw [take_sn hx, runR_snoc, runL_snoc]; exact hfl7, (((X.tr (X3.mono fun _ _ _ h => h.elim)).tr X4).tr (X6.mono fun _ _ _ h => h.elim)).tr X7⟩
    omega
  · obtain rfl : k = ks.length := by omega
    have ht := lt_ff ks.length ks.length (by omega)
    refine W_sq fun K hK => (W_text [true] (by kernel_rfl) ?_); simp only [↓List.toList_toArray, ↓rgd, ↓rgf, ↓reduceIte, Nat.reduceEqDiff, rg, ow_62, eL, eI, ht]
    refine hK _ _ ?_; clear hK K
    refine W_seq (W_false (by simp only [evt, evc, upd_eq, Nat.reduceEqDiff, ↓reduceIte, ntT, ntF] <;> rfl) (W_exit ?_))
    simp only [andThen_exit, inBlk_exit, andThen_normal, ↓reduceIte]
    rw [List.take_length] at hfl
    obtain ⟨F, hM, hFB, ho⟩ := hfl.tr
    obtain ⟨l1, l2⟩ := hfl.lt
    have htl := runL_len (dlU ord) (dlU_len ord) ks (treeG ord l)
    refine W_sq fun K hK => (W_text [true, true, false, true, true] (by kernel_rfl) ?_); simp only [↓List.toList_toArray, ↓rgd, ↓rgf, ↓reduceIte, Nat.reduceEqDiff, rg, ow_62, eM]
    refine do_call fn_56 (vs := #[ptr t]) (by simp only [evt, evc, upd_eq, Nat.reduceEqDiff, ↓reduceIte, maT, maC, maN, isnN, isnS] <;> rfl) (allOf_any t A m (degOf d) ord hd2 1 _ F w' hfl.bat hM (by omega)) ?_
    rintro v8 w8 ⟨hO, X8⟩
    refine ⟨trivial, ?_⟩
    simp only [↓List.toList_toArray, ↓rgd, ↓rgf, ↓reduceIte, Nat.reduceEqDiff, rg, ow_62]
    refine hK _ _ ?_; clear hK K
    refine W_ret (endQ_2 (by simp only [upd_eq, Nat.reduceEqDiff, ↓reduceIte] <;> rfl) (by simp only [upd_eq, Nat.reduceEqDiff, ↓reduceIte] <;> rfl) ⟨_, _, rfl, ?_, hO, ?_⟩)
    · have := (hfl.out.ext X8).sl
      rwa [runR_length] at this
    refine (noF_of X02 X fun y o hy h => ?_).tr X8
    have : m ≤ y := h
    omega
end Go.Proofs.Ytanmjbkbdmeckaa
/-
  The law on Delete. No condition.
-/
set_option linter.unusedSimpArgs false
set_option linter.unusedVariables false
namespace Go.Proofs.Ytanmjbkbdmeckaa
open Go Go.Proofs
def exK : List It := [(3, 0), (4, 0), (9, 1)]
theorem bs_exK : bsV Try.prog 25 3 [(0, iV (3, 0)), (1, iV (4, 0)), (2, iV (9, 1))] = some (33, flat Ei exK) := by kernel_rfl
set_option maxHeartbeats 400000 in
set_option maxRecDepth 8000 in
theorem exKeys_any (w : World) : CallK Try.prog 19 #[] w fun v w' => SlI w' v exK ∧ Ext noF w w' := by
  refine calls_of_W (args := []) [.tmp 0] Try.func19 rfl Try.ntmps19 Try.results19 (by simp) fun e he => ?_
  clear he
  refine W_sq fun K hK => (W_text [true] (by kernel_rfl) ?_); simp only [↓List.toList_toArray, ↓rgd, ↓rgf, ↓reduceIte, Nat.reduceEqDiff, rg]
  refine hK _ _ ?_; clear hK K
  refine W_sq fun K hK => (W_text [true, true, true, false, true] (by kernel_rfl) ?_); simp only [↓List.toList_toArray, ↓rgd, ↓rgf, ↓reduceIte, Nat.reduceEqDiff, rg, bu_item, bu_itemK]
  refine do_bsl rfl bs_exK fun w1 n1 => ⟨trivial, ?_⟩
  simp only [↓List.toList_toArray, ↓rgd, ↓rgf, ↓reduceIte, Nat.reduceEqDiff, rg]
  refine hK _ _ ?_; clear hK K
  exact W_ret (endQ_1 (by simp only [upd_eq, Nat.reduceEqDiff, ↓reduceIte] <;> rfl) ⟨⟨rfl, .inr ⟨_, 0, 3, rfl, Nat.le_refl _, n1.row, n1.wok.R (Nat.le_refl _)⟩⟩, n1.ext⟩)
set_option maxHeartbeats 1600000 in
set_option maxRecDepth 8000 in
theorem sgdelete (d : Nat) (hd : DOk d) (ord : List Int) (sv : Value) (nl : Bool) (l : List It) (lv : Value) (ks : List It) (kv : Value) (w : World) (hs : SlInt w sv ord) (hsb : ord.length ≤ 2147483647) (hl : SlI w lv l) (hbig : l.length ≤ 2147483647) (hks : SlI w kv ks) (hkb : ks.length ≤ 2147483647) :
    CallK Try.prog 63 #[mkV sv d nl, lv, kv] w fun v w' => ∃ v1 v2, v = .tuple #[v1, v2] ∧ SlV w' 3 v1 ks.length (flat Ef (runR (dlU ord) (dlA ord) (treeG ord l) ks)) ∧ SlI w' v2 (runL (dlU ord) (treeG ord l) ks) ∧ Ext noF w w' := by
  obtain ⟨ka, kc, hkv⟩ := SlV.shape hks
  refine calls_of_W [.tmp 6, .tmp 7] Try.func63 rfl Try.ntmps63 Try.results63 (by simp) fun e he => ?_
  have e0 : e 0 = mkV sv d nl := he 0 _ rfl
  have e1 : e 1 = lv := he 1 _ rfl
  have e2 : e 2 = kv := he 2 _ rfl
  clear he
  rw [hkv] at e2
  refine W_sq fun K hK => (W_text [false, true, true] (by kernel_rfl) ?_); simp only [↓List.toList_toArray, ↓rgd, ↓rgf, ↓reduceIte, Nat.reduceEqDiff, rg, ow_63]
  refine do_box (by simp only [evt]; exact e0) fun w1 n1 => ⟨trivial, ?_⟩
  simp only [↓List.toList_toArray, ↓rgd, ↓rgf, ↓reduceIte, Nat.reduceEqDiff, rg, ow_63]
  refine hK _ _ ?_; clear hK K
  have s1 := n1.size
  have r1 : rd w1 w.heap.size 0 = some sv := mk_at0 (show Row w1 w.heap.size 0 (mkL sv d nl) from n1.row)
  refine W_sq fun K hK => (W_text [true, true, true, false, true] (by kernel_rfl) ?_); simp only [↓List.toList_toArray, ↓rgd, ↓rgf, ↓reduceIte, Nat.reduceEqDiff, rg, ow_63, e1, ptr_eq, r1]
  refine do_call fn_60 (by simp only [evt, evc, upd_eq, Nat.reduceEqDiff, ↓reduceIte, maT, maC, maN, isnN, isnS] <;> rfl) (stree_ord sv ord l lv w1 (SlV.ext0 hs n1.ext) hsb (SlV.ext0 hl n1.ext) hbig) ?_
  rintro v2 w2 ⟨hT0, X12⟩
  refine ⟨trivial, ?_⟩
  simp only [↓List.toList_toArray, ↓rgd, ↓rgf, ↓reduceIte, Nat.reduceEqDiff, rg, ow_63]
  refine hK _ _ ?_; clear hK K
  have s2 := X12.size
  have r2 : rd w2 w.heap.size 0 = some sv := X12.rd r1 fun h => h
  have X2 := n1.ext.tr X12
  have htl := treeG_len ord l
  have hs2 := SlV.ext0 hs X2
  refine W_sq fun K hK => (W_text [true] (by kernel_rfl) ?_); simp only [↓List.toList_toArray, ↓rgd, ↓rgf, ↓reduceIte, Nat.reduceEqDiff, rg, ow_63]
  refine hK _ _ ?_; clear hK K
  refine W_seq (W_seq ?_)
  refine W_rg fun K hK => (W_text [true, true, true] (by kernel_rfl) ?_); simp only [↓List.toList_toArray, ↓rgd, ↓rgf, ↓reduceIte, Nat.reduceEqDiff, rg, ow_63, e2]
  refine hK _ _ ?_; clear hK K
  show W _ _ _ _ _ _
  refine W_block (W_loop (fun mm e w' => ∃ k : Nat, mm = ks.length - k ∧ k ≤ ks.length ∧ e 3 = ptr w.heap.size ∧ e 17 = .slice ka ks.length kc ∧ e 18 = .int .i64 ks.length ∧ e 19 = .int .i64 k ∧ OutE Ef w2.heap.size (e 9) (runR (dlU ord) (dlA ord) (treeG ord l) (ks.take k)) w' ∧ SlI w' (e 8) (runL (dlU ord) (treeG ord l) (ks.take k)) ∧ apart2 (e 9) (e 8) ∧ Ext (fun y _ => w2.heap.size ≤ y) w2 w')
    ks.length ⟨0, by simp, by simp, by simp only [upd_eq, Nat.reduceEqDiff, ↓reduceIte]; rfl, by simp only [upd_eq, Nat.reduceEqDiff, ↓reduceIte], by simp only [upd_eq, Nat.reduceEqDiff, ↓reduceIte], by simp only [upd_eq, Nat.reduceEqDiff, ↓reduceIte]; rfl, by simp only [upd_eq, Nat.reduceEqDiff, ↓reduceIte]; exact OutE.nil _ _ _, by simp only [upd_eq, Nat.reduceEqDiff, ↓reduceIte]; exact hT0, by simp only [upd_eq, Nat.reduceEqDiff, ↓reduceIte]; exact (fun b o n c o' n' c' h => by cases h), Ext.refl _ _⟩ ?_)
  clear e0 e1 e2 e
  rintro mm e w' ⟨k, rfl, hk, e3, eS, eL, eI, hO, hT, hap, X⟩
  have sX := X.size
  by_cases hlt : k < ks.length
  · have ht := lt_tt k ks.length hlt
    refine W_sq fun K hK => (W_text [true] (by kernel_rfl) ?_); simp only [↓List.toList_toArray, ↓rgd, ↓rgf, ↓reduceIte, Nat.reduceEqDiff, rg, ow_63, eL, eI, ht]
    refine hK _ _ ?_; clear hK K
    refine W_seq (W_true (by simp only [evt, evc, upd_eq, Nat.reduceEqDiff, ↓reduceIte, ntT, ntF] <;> rfl) (W_skip ?_))
    show W _ _ _ _ _ _
    obtain ⟨x, hx⟩ : ∃ x, ks[k]? = some x := ⟨_, List.getElem?_eq_getElem hlt⟩
    obtain ⟨ib, io, hka, row⟩ := SlV.at hks hkv hlt
    have hibl := SlV.lt hks (hkv.trans (by rw [hka]))
    have ixx := iV_at (X.row (X2.row row fun _ _ h => h) fun _ _ h => by omega) hx
    rw [hka] at eS
    refine W_seq (W_block ?_)
    refine W_sq fun K hK => (W_text [true, true, false, false] (by kernel_rfl) ?_); simp only [↓List.toList_toArray, ↓rgd, ↓rgf, ↓reduceIte, Nat.reduceEqDiff, rg, ow_63, eS, eI, hlt, ixx]
    refine do_alloc z_item fun w3 n3 => ⟨trivial, ?_⟩
    simp only [↓List.toList_toArray, ↓rgd, ↓rgf, ↓reduceIte, Nat.reduceEqDiff, rg, ow_63]
    refine do_store (v := iV x) (by simp only [evt, evc, upd_eq, Nat.reduceEqDiff, ↓reduceIte, ntT, ntF] <;> rfl) (by simp only [evt, evc, upd_eq, Nat.reduceEqDiff, ↓reduceIte, ntT, ntF] <;> rfl) sz_33 rfl n3.wok (by decide) (Ei.one x) fun w4 x4 r4 s4 => ⟨trivial, ?_⟩
    simp only [↓List.toList_toArray, ↓rgd, ↓rgf, ↓reduceIte, Nat.reduceEqDiff, rg, ow_63]
    refine hK _ _ ?_; clear hK K
    have s3 := n3.size
    have X4 : Ext noF w' w4 := noF_of n3.ext x4 fun y o hy h => by simp only [rng] at h; omega
    rw [← hka] at eS
    refine W_sq fun K hK => (W_text [false] (by kernel_rfl) ?_); simp only [↓List.toList_toArray, ↓rgd, ↓rgf, ↓reduceIte, Nat.reduceEqDiff, rg, ow_63]
    refine do_alloc z_fo fun w5 n5 => ⟨trivial, ?_⟩
    simp only [↓List.toList_toArray, ↓rgd, ↓rgf, ↓reduceIte, Nat.reduceEqDiff, rg, ow_63]
    refine hK _ _ ?_; clear hK K
    have s5 := n5.size
    have X5 := X4.tr n5.ext
    have bx : rdA w5 w'.heap.size 0 2 = some (iV x) := (n5.ext.row (show Row w4 w'.heap.size 0 (Ei.cel x) from r4) fun _ _ h => h).rdA 2 (by show 2 ≤ 2; omega)
    have r5 : rd w5 w.heap.size 0 = some sv := X5.rd (X.rd r2 (by omega)) fun h => h
    have hdl := runL_len (dlU ord) (dlU_len ord) (ks.take k) (treeG ord l)
    have htk : (ks.take k).length ≤ k := by rw [List.length_take]; omega
    refine W_sq fun K hK => (W_text [true, true, true, true, false, true, true, true, true, false] (by kernel_rfl) ?_); simp only [↓List.toList_toArray, ↓rgd, ↓rgf, ↓reduceIte, Nat.reduceEqDiff, rg, ow_63, e3, ptr_eq, bx, r5]
    refine do_call fn_96 (by simp only [evt, evc, upd_eq, Nat.reduceEqDiff, ↓reduceIte, maT, maC, maN, isnN, isnS] <;> rfl) (drop_ord sv ord (runL (dlU ord) (treeG ord l) (ks.take k)) (e 8) x w5 (SlV.ext (SlV.ext0 hs X2 |> fun h => h) (X.trans X5 (fun _ _ g => g) fun _ _ _ g => g.elim) fun b o c h j hj g => by have := SlV.lt hs2 h; omega) hsb (SlV.ext0 hT X5) (by omega)) ?_
    rintro _ w6 ⟨sw, rfl, hS6, X6, hsv⟩
    refine ⟨trivial, ?_⟩
    simp only [↓List.toList_toArray, ↓rgd, ↓rgf, ↓reduceIte, Nat.reduceEqDiff, rg, ow_63]
    refine do_store (v := foV _) (by simp only [evt, evc, upd_eq, Nat.reduceEqDiff, ↓reduceIte, ntT, ntF] <;> rfl) (by simp only [evt, evc, upd_eq, Nat.reduceEqDiff, ↓reduceIte, ntT, ntF] <;> rfl) sz_43 rfl (X6.wok n5.wok) (by decide) (oc_fo _) fun w7 x7 r7 s7 => ⟨trivial, ?_⟩
    simp only [↓List.toList_toArray, ↓rgd, ↓rgf, ↓reduceIte, Nat.reduceEqDiff, rg, ow_63]
    refine hK _ _ ?_; clear hK K
    have s6 := X6.size
    have X7 : Ext noF w' w7 := noF_of (X5.tr X6) x7 fun y o hy h => by simp only [rng] at h; omega
    have l7 : rdA w7 w4.heap.size 0 3 = some (foV ((dlA ord) (runL (dlU ord) (treeG ord l) (ks.take k)) x)) := (show Row w7 w4.heap.size 0 (Ef.cel _) from r7).rdA 3 (by simp [Ef])
    refine W_rg fun K hK => (W_text [true, true, false, false, true] (by kernel_rfl) ?_); simp only [↓List.toList_toArray, ↓rgd, ↓rgf, ↓reduceIte, Nat.reduceEqDiff, rg, ow_63, l7]
    refine do_bsl rfl (bs_fo1 _) fun w8 n8 => ⟨trivial, ?_⟩
    simp only [↓List.toList_toArray, ↓rgd, ↓rgf, ↓reduceIte, Nat.reduceEqDiff, rg, ow_63]
    have X8 := X7.tr n8.ext
    have s8 := X8.size
    have s78 := n8.size
    have hrl : (runR (dlU ord) (dlA ord) (treeG ord l) (ks.take k)).length = k := by rw [runR_length, List.length_take]; omega
    have hx8 : SlV w8 3 (.slice (some ⟨w7.heap.size, 0, none⟩) 1 1) 1 (Ef.cel ((dlA ord) (runL (dlU ord) (treeG ord l) (ks.take k)) x)) := ⟨rfl, .inr ⟨_, 0, 1, rfl, Nat.le_refl _, n8.row, n8.wok.R (Nat.le_refl _)⟩⟩
    refine do_append (by simp only [evt, evc, upd_eq, Nat.reduceEqDiff, ↓reduceIte, ntT, ntF] <;> rfl) (by simp only [evt, evc, upd_eq, Nat.reduceEqDiff, ↓reduceIte, ntT, ntF] <;> rfl) el_fo rfl ni_fo (hO.ext X8).sl hx8 (by omega) (by decide) (Ef.one _) fun v9 w9 a9 => ?_
    have hapsv : apart2 (e 9) sw := fun b o n c o' n' c' g1 g2 => by
      rcases hsv with h | h
      · have := hO.sl.lt g1
        have := h _ _ _ _ g2
        omega
      · exact hap _ _ _ _ _ _ _ g1 (h.symm.trans g2)
    have hS8 : SlI w8 sw ((dlU ord) (runL (dlU ord) (treeG ord l) (ks.take k)) x) := by
      refine SlV.ext0 ?_ n8.ext
      exact SlV.ext hS6 x7 fun b o cap hb i hi g => by
        simp only [rng] at g
        rcases hsv with h | h
        · have := h _ _ _ _ hb; omega
        · have := SlV.lt hT (h.symm.trans hb); omega
    obtain ⟨hO9, X9⟩ := (hO.ext X8).app a9 (by omega)
    obtain ⟨hS9, hap9⟩ := app_other a9 hS8 hapsv
    refine ⟨trivial, ?_⟩
    simp only [↓List.toList_toArray, ↓rgd, ↓rgf, ↓reduceIte, Nat.reduceEqDiff, rg, ow_63]
    refine hK _ _ ?_; clear hK K
    show W _ _ _ _ _ _
    have q1 := wadd1 k (by omega)
    refine W_rg fun K hK => (W_text [true, true] (by kernel_rfl) ?_); simp only [↓List.toList_toArray, ↓rgd, ↓rgf, ↓reduceIte, Nat.reduceEqDiff, rg, ow_63, eI, q1]
    refine hK _ _ ?_; clear hK K
    refine ⟨_, ?_, k + 1, rfl, hlt, by simp only [upd_eq, Nat.reduceEqDiff, ↓reduceIte]; exact e3, by simp only [upd_eq, Nat.reduceEqDiff, ↓reduceIte]; exact eS, by simp only [upd_eq, Nat.reduceEqDiff, ↓reduceIte]; exact eL, by simp only [upd_eq, Nat.reduceEqDiff, ↓reduceIte], by simp only [upd_eq, Nat.reduceEqDiff, ↓reduceIte]; rw [take_sn hx, runR_snoc]; exact hO9, by simp only [upd_eq, Nat.reduceEqDiff, ↓reduceIte]; rw [take_sn hx, runL_snoc]; exact hS9, by simp only [upd_eq, Nat.reduceEqDiff, ↓reduceIte]; exact hap9, (X.tr (X8.mono fun _ _ _ h => h.elim)).tr X9⟩
    omega
  · obtain rfl : k = ks.length := by omega
    have ht := lt_ff ks.length ks.length (by omega)
    refine W_sq fun K hK => (W_text [true] (by kernel_rfl) ?_); simp only [↓List.toList_toArray, ↓rgd, ↓rgf, ↓reduceIte, Nat.reduceEqDiff, rg, ow_63, eL, eI, ht]
    refine hK _ _ ?_; clear hK K
    refine W_seq (W_false (by simp only [evt, evc, upd_eq, Nat.reduceEqDiff, ↓reduceIte, ntT, ntF] <;> rfl) (W_exit ?_))
    simp only [andThen_exit, inBlk_exit, andThen_normal, ↓reduceIte]
    refine W_sq fun K hK => (W_text [true, true, true, true] (by kernel_rfl) ?_); simp only [↓List.toList_toArray, ↓rgd, ↓rgf, ↓reduceIte, Nat.reduceEqDiff, rg, ow_63]
    refine hK _ _ ?_; clear hK K
    rw [List.take_length] at hO hT
    exact W_ret (endQ_2 (by simp only [upd_eq, Nat.reduceEqDiff, ↓reduceIte] <;> rfl) (by simp only [upd_eq, Nat.reduceEqDiff, ↓reduceIte] <;> rfl) ⟨_, _, rfl, by have := hO.sl; rwa [runR_length] at this, hT, noF_of X2 X fun y o hy h => by omega⟩)
set_option maxHeartbeats 800000 in
set_option maxRecDepth 8000 in
theorem law_bDelete (d : Nat) (hd : DOk d) (ord : List Int) (sv : Value) (nl : Bool) (l : List It) (lv : Value) (ks : List It) (kv : Value) (w : World) (hs : SlInt w sv ord) (hsb : ord.length ≤ 2147483647) (hl : SlI w lv l) (hbig : l.length ≤ 2147483647) (hks : SlI w kv ks) (hkb : ks.length ≤ 2147483647) :
    CallK Try.prog 32 #[mkV sv d nl, lv, kv] w fun v w' => v = .bool true ∧ Ext noF w w' := by
  refine calls_of_W [.tmp 6] Try.func32 rfl Try.ntmps32 Try.results32 (by simp) fun e he => ?_
  have e0 : e 0 = mkV sv d nl := he 0 _ rfl
  have e1 : e 1 = lv := he 1 _ rfl
  have e2 : e 2 = kv := he 2 _ rfl
  clear he
  have htl := treeG_len ord l
  have hll := runL_len (dlU ord) (dlU_len ord) ks (treeG ord l)
  have hrl := runR_length (dlU ord) (dlA ord) ks (treeG ord l)
  refine W_sq fun K hK => (W_text [false, true] (by kernel_rfl) ?_); simp only [↓List.toList_toArray, ↓rgd, ↓rgf, ↓reduceIte, Nat.reduceEqDiff, rg, ow_32]
  refine do_box (by simp only [evt]; exact e0) fun w0 n0 => ⟨trivial, ?_⟩
  simp only [↓List.toList_toArray, ↓rgd, ↓rgf, ↓reduceIte, Nat.reduceEqDiff, rg, ow_32]
  refine hK _ _ ?_; clear hK K
  have rm0 : Row w0 w.heap.size 0 (mkL sv d nl) := n0.row
  have rm := mk_at rm0
  refine W_sq fun K hK => (W_text [true, true, true, false, true, true, true, true, true] (by kernel_rfl) ?_); simp only [↓List.toList_toArray, ↓rgd, ↓rgf, ↓reduceIte, Nat.reduceEqDiff, rg, ow_32, e1, e2, rm]
  refine do_call fn_62 (by simp only [evt, evc, upd_eq, Nat.reduceEqDiff, ↓reduceIte, maT, maC, maN, isnN, isnS] <;> rfl) (impl_bdelete d hd ord sv nl l lv ks kv w0 (SlV.ext0 hs n0.ext) hsb (SlV.ext0 hl n0.ext) hbig (SlV.ext0 hks n0.ext) hkb) ?_
  rintro _ w1 ⟨f1, i1, rfl, hf1, hi1, X1⟩
  refine ⟨trivial, ?_⟩
  simp only [↓List.toList_toArray, ↓rgd, ↓rgf, ↓reduceIte, Nat.reduceEqDiff, rg, ow_32]
  refine hK _ _ ?_; clear hK K
  have rm1 := mk_at (X1.row rm0 fun _ _ h => h)
  have X01 := n0.ext.tr X1
  refine W_sq fun K hK => (W_text [true, true, true, false, true, true, true, true, true] (by kernel_rfl) ?_); simp only [↓List.toList_toArray, ↓rgd, ↓rgf, ↓reduceIte, Nat.reduceEqDiff, rg, ow_32, e1, e2, rm1]
  refine do_call fn_63 (by simp only [evt, evc, upd_eq, Nat.reduceEqDiff, ↓reduceIte, maT, maC, maN, isnN, isnS] <;> rfl) (sgdelete d hd ord sv nl l lv ks kv w1 (SlV.ext0 hs X01) hsb (SlV.ext0 hl X01) hbig (SlV.ext0 hks X01) hkb) ?_
  rintro _ w2 ⟨f2, i2, rfl, hf2, hi2, X2⟩
  refine ⟨trivial, ?_⟩
  simp only [↓List.toList_toArray, ↓rgd, ↓rgf, ↓reduceIte, Nat.reduceEqDiff, rg, ow_32]
  refine hK _ _ ?_; clear hK K
  refine W_sq fun K hK => (W_text [true, true, false, true, true, true, false, true, true] (by kernel_rfl) ?_); simp only [↓List.toList_toArray, ↓rgd, ↓rgf, ↓reduceIte, Nat.reduceEqDiff, rg, ow_32]
  refine do_call fn_28 (by simp only [evt, evc, upd_eq, Nat.reduceEqDiff, ↓reduceIte, maT, maC, maN, isnN, isnS] <;> rfl) (eq_f (runR (dlU ord) (dlA ord) (treeG ord l) ks) f1 f2 w2 (by rw [hrl]; exact hf1.ext0 X2) (by rw [hrl]; exact hf2) (by omega)) ?_
  rintro _ w3 ⟨rfl, r3⟩
  refine ⟨trivial, ?_⟩
  simp only [↓List.toList_toArray, ↓rgd, ↓rgf, ↓reduceIte, Nat.reduceEqDiff, rg, ow_32]
  refine do_call fn_29 (by simp only [evt, evc, upd_eq, Nat.reduceEqDiff, ↓reduceIte, maT, maC, maN, isnN, isnS] <;> rfl) (eq_i (runL (dlU ord) (treeG ord l) ks) i1 i2 w3 (SlV.ext0 hi1 (X2.tr r3.ext)) (SlV.ext0 hi2 r3.ext) (by omega)) ?_
  rintro _ w4 ⟨rfl, r4⟩
  refine ⟨trivial, ?_⟩
  simp only [↓List.toList_toArray, ↓rgd, ↓rgf, ↓reduceIte, Nat.reduceEqDiff, rg, ow_32]
  refine hK _ _ ?_; clear hK K
  exact W_ret (endQ_1 (by simp only [upd_eq, Nat.reduceEqDiff, ↓reduceIte] <;> rfl) ⟨rfl, ((X01.tr X2).tr r3.ext).tr r4.ext⟩)
end Go.Proofs.Ytanmjbkbdmeckaa
/-
  FnExactBDelete returns true, whatever the arguments. No condition.
-/
set_option linter.unusedSimpArgs false
set_option linter.unusedVariables false
namespace Go.Proofs.Ytanmjbkbdmeckaa
open Go Go.Proofs
set_option maxHeartbeats 800000 in
set_option maxRecDepth 8000 in
theorem top_FnExactBDelete (ord : List Int) (sv : Value) (d : Int) (nl : Bool) (a0 : List It) (v0 : Value) (a1 : List It) (v1 : Value) (w : World) (gs : SlInt w sv ord) (g0 : SlI w v0 a0) (g1 : SlI w v1 a1) :
    CallK Try.prog 10 #[.agg #[sv, .int .i64 d, .bool nl], v0, v1] w fun v w' => v = .bool true ∧ Ext noF w w' := by
  obtain ⟨p0, c0, hv0⟩ := SlV.shape g0
  obtain ⟨p1, c1, hv1⟩ := SlV.shape g1
  refine calls_of_W [.tmp 6] Try.func10 rfl Try.ntmps10 Try.results10 (by simp) fun e he => ?_
  have e0 : e 0 = .agg #[sv, .int .i64 d, .bool nl] := he 0 _ rfl
  have e1 : e 1 = v0 := he 1 _ rfl
  have e2 : e 2 = v1 := he 2 _ rfl
  clear he
  refine W_sq fun K hK => (W_text [false, true] (by kernel_rfl) ?_); simp only [↓List.toList_toArray, ↓rgd, ↓rgf, ↓reduceIte, Nat.reduceEqDiff, rg, ow_10]
  refine do_box (by simp only [evt]; exact e0) fun w1 n1 => ⟨trivial, ?_⟩
  simp only [↓List.toList_toArray, ↓rgd, ↓rgf, ↓reduceIte, Nat.reduceEqDiff, rg, ow_10]
  refine hK _ _ ?_; clear hK K
  have rm : Row w1 w.heap.size 0 [sv, .int .i64 d, .bool nl] := n1.row
  have XB : Ext noF w w1 := n1.ext
  have rm3 : rdA w1 w.heap.size 0 3 = some (.agg #[sv, .int .i64 d, .bool nl]) := rm.rdA 3 (Nat.le_refl _)
  refine W_seq ?_
  refine W_sq fun K hK => (W_text [true, false, true, true, true, true, true, true, true, true, true, true, true] (by kernel_rfl) ?_); simp only [↓List.toList_toArray, ↓rgd, ↓rgf, ↓reduceIte, Nat.reduceEqDiff, rg, ow_10, e1, e2, hv0, hv1, rm3]
  refine do_call fn_13 (by simp only [evt, evc, upd_eq, Nat.reduceEqDiff, ↓reduceIte, maT, maC, maN, isnN, isnS] <;> rfl) (fits1_any sv ord (.int .i64 d) nl w1 (SlV.ext0 gs XB)) ?_
  rintro _ wf ⟨rfl, xf⟩
  refine ⟨trivial, ?_⟩
  have XF := XB.tr xf
  by_cases hbo : ord.length ≤ 2147483647
  case neg =>
    have to : decide (ord.length ≤ 2147483647) = false := by simp; omega
    simp only [↓List.toList_toArray, ↓rgd, ↓rgf, ↓reduceIte, Nat.reduceEqDiff, rg, ow_10, e1, e2, hv0, hv1, to]
    refine hK _ _ ?_; clear hK K
    refine W_true (by simp only [evt, evc, upd_eq, Nat.reduceEqDiff, ↓reduceIte, ntT, ntF] <;> rfl) ?_
    refine W_sq fun K hK => (W_text [true] (by kernel_rfl) ?_); simp only [↓List.toList_toArray, ↓rgd, ↓rgf, ↓reduceIte, Nat.reduceEqDiff, rg, ow_10]
    refine hK _ _ ?_; clear hK K
    refine W_ret ?_
    simp only [andThen_ret]
    exact endQ_1 (by simp only [upd_eq, Nat.reduceEqDiff, ↓reduceIte] <;> rfl) ⟨rfl, XF⟩
  have to : decide (ord.length ≤ 2147483647) = true := by simp; omega
  by_cases hb0 : a0.length ≤ 2147483647
  case neg =>
    have t0 : decide ((2147483647 : Int) < (a0.length : Int)) = true := by simp; omega
    simp only [↓List.toList_toArray, ↓rgd, ↓rgf, ↓reduceIte, Nat.reduceEqDiff, rg, ow_10, e1, e2, hv0, hv1, to, t0]
    refine hK _ _ ?_; clear hK K
    refine W_true (by simp only [evt, evc, upd_eq, Nat.reduceEqDiff, ↓reduceIte, ntT, ntF] <;> rfl) ?_
    refine W_sq fun K hK => (W_text [true] (by kernel_rfl) ?_); simp only [↓List.toList_toArray, ↓rgd, ↓rgf, ↓reduceIte, Nat.reduceEqDiff, rg, ow_10]
    refine hK _ _ ?_; clear hK K
    refine W_ret ?_
    simp only [andThen_ret]
    exact endQ_1 (by simp only [upd_eq, Nat.reduceEqDiff, ↓reduceIte] <;> rfl) ⟨rfl, XF⟩
  have t0 : decide ((2147483647 : Int) < (a0.length : Int)) = false := by simp; omega
  by_cases hb1 : a1.length ≤ 2147483647
  case neg =>
    have t1 : decide ((2147483647 : Int) < (a1.length : Int)) = true := by simp; omega
    simp only [↓List.toList_toArray, ↓rgd, ↓rgf, ↓reduceIte, Nat.reduceEqDiff, rg, ow_10, e1, e2, hv0, hv1, to, t0, t1]
    refine hK _ _ ?_; clear hK K
    refine W_true (by simp only [evt, evc, upd_eq, Nat.reduceEqDiff, ↓reduceIte, ntT, ntF] <;> rfl) ?_
    refine W_sq fun K hK => (W_text [true] (by kernel_rfl) ?_); simp only [↓List.toList_toArray, ↓rgd, ↓rgf, ↓reduceIte, Nat.reduceEqDiff, rg, ow_10]
    refine hK _ _ ?_; clear hK K
    refine W_ret ?_
    simp only [andThen_ret]
    exact endQ_1 (by simp only [upd_eq, Nat.reduceEqDiff, ↓reduceIte] <;> rfl) ⟨rfl, XF⟩
  have t1 : decide ((2147483647 : Int) < (a1.length : Int)) = false := by simp; omega
  simp only [↓List.toList_toArray, ↓rgd, ↓rgf, ↓reduceIte, Nat.reduceEqDiff, rg, ow_10, e1, e2, hv0, hv1, to, t0, t1]
  refine hK _ _ ?_; clear hK K
  refine W_false (by simp only [evt, evc, upd_eq, Nat.reduceEqDiff, ↓reduceIte, ntT, ntF] <;> rfl) (W_skip ?_)
  show W _ _ _ _ _ _
  refine W_sq fun K hK => (W_text [false, false, false, false, true, true, true, false, true, true, true, true, true, false, true, true, true] (by kernel_rfl) ?_); simp only [↓List.toList_toArray, ↓rgd, ↓rgf, ↓reduceIte, Nat.reduceEqDiff, rg, ow_10]
  refine do_call fn_15 (by simp only [evt, evc, upd_eq, Nat.reduceEqDiff, ↓reduceIte, maT, maC, maN, isnN, isnS] <;> rfl) (exMake_any wf) ?_
  rintro _ u0 ⟨rfl, z0⟩
  refine ⟨trivial, ?_⟩
  simp only [↓List.toList_toArray, ↓rgd, ↓rgf, ↓reduceIte, Nat.reduceEqDiff, rg, ow_10]
  have Y0 := z0
  refine do_call fn_16 (by simp only [evt, evc, upd_eq, Nat.reduceEqDiff, ↓reduceIte, maT, maC, maN, isnN, isnS] <;> rfl) (exItems_any u0) ?_
  rintro x0 u1 ⟨q0, y1⟩
  refine ⟨trivial, ?_⟩
  simp only [↓List.toList_toArray, ↓rgd, ↓rgf, ↓reduceIte, Nat.reduceEqDiff, rg, ow_10]
  have Y1 := Y0.tr y1
  refine do_call fn_19 (by simp only [evt, evc, upd_eq, Nat.reduceEqDiff, ↓reduceIte, maT, maC, maN, isnN, isnS] <;> rfl) (exKeys_any u1) ?_
  rintro x1 u2 ⟨q1, y2⟩
  refine ⟨trivial, ?_⟩
  simp only [↓List.toList_toArray, ↓rgd, ↓rgf, ↓reduceIte, Nat.reduceEqDiff, rg, ow_10]
  have q0 := SlV.ext0 q0 y2
  have Y2 := Y1.tr y2
  refine do_call fn_32 (by simp only [evt, evc, upd_eq, Nat.reduceEqDiff, ↓reduceIte, maT, maC, maN, isnN, isnS] <;> rfl) (law_bDelete 2 (.inr (by decide)) [] nilS false exL x0 exK x1 u2 (nil_int _) (by decide) q0 (by decide) q1 (by decide)) ?_
  rintro _ u3 ⟨rfl, y3⟩
  refine ⟨trivial, ?_⟩
  have Y3 := Y2.tr y3
  have XA := XF.tr Y3
  have rmA := (xf.tr Y3).row rm fun _ _ h => h
  have rd1 := (Row.cons.1 (Row.cons.1 rmA).2).1
  have rmA3 : rdA u3 w.heap.size 0 3 = some (.agg #[sv, .int .i64 d, .bool nl]) := rmA.rdA 3 (Nat.le_refl _)
  rw [Nat.zero_add] at rd1
  simp only [↓List.toList_toArray, ↓rgd, ↓rgf, ↓reduceIte, Nat.reduceEqDiff, rg, ow_10, rd1]
  refine do_call fn_17 (by simp only [evt, evc, upd_eq, Nat.reduceEqDiff, ↓reduceIte, maT, maC, maN, isnN, isnS] <;> rfl) (fits_any d u3) ?_
  rintro _ _ ⟨rfl, rfl⟩
  refine ⟨trivial, ?_⟩
  cases hf : (decide (d = 0) || (decide (2 ≤ d) && decide (d ≤ 128))) with
  | false =>
    simp only [↓List.toList_toArray, ↓rgd, ↓rgf, ↓reduceIte, Nat.reduceEqDiff, rg, ow_10]
    refine hK _ _ ?_; clear hK K
    exact W_ret (endQ_1 (by simp only [upd_eq, Nat.reduceEqDiff, ↓reduceIte] <;> rfl) ⟨rfl, XA⟩)
  | true =>
    have h2 : d = 0 ∨ 2 ≤ d ∧ d ≤ 128 := by simp at hf; omega
    obtain ⟨n, rfl⟩ : ∃ n : Nat, d = n := ⟨d.toNat, by omega⟩
    simp only [↓List.toList_toArray, ↓rgd, ↓rgf, ↓reduceIte, Nat.reduceEqDiff, rg, ow_10, e1, e2, rmA3]
    refine do_call fn_32 (by simp only [evt, evc, upd_eq, Nat.reduceEqDiff, ↓reduceIte, maT, maC, maN, isnN, isnS] <;> rfl) (law_bDelete n (show DOk n by unfold DOk; omega) ord sv nl a0 v0 a1 v1 u3 (SlV.ext0 gs XA) hbo (SlV.ext0 g0 XA) hb0 (SlV.ext0 g1 XA) hb1) ?_
    rintro _ u9 ⟨rfl, y9⟩
    refine ⟨trivial, ?_⟩
    simp only [↓List.toList_toArray, ↓rgd, ↓rgf, ↓reduceIte, Nat.reduceEqDiff, rg, ow_10]
    refine hK _ _ ?_; clear hK K
    exact W_ret (endQ_1 (by simp only [upd_eq, Nat.reduceEqDiff, ↓reduceIte] <;> rfl) ⟨rfl, XA.tr y9⟩)
end Go.Proofs.Ytanmjbkbdmeckaa
/-
  FnExactBDelete: the whole statement: it returns true whatever the input is, and the arguments read as before. No condition.
-/
set_option linter.unusedSimpArgs false
set_option linter.unusedVariables false
namespace Go.Proofs.Ytanmjbkbdmeckaa
open Go Go.Proofs Go.ChangeShapes Go.WideShapes Go.ChangeAt Go.RowKit
set_option maxRecDepth 100000 in
theorem c_FnExactBDelete (H : Type) (enc : TypeId × Value → H) (W : World) (base : Nat) (args : Array Value) (ds gs : List (DataW H)) (before : List MemPlace)
    (hval : ∀ (j : Nat) t v, Try.f10.params[j]? = some t → args[j]? = some v → Value.okWide Try.prog W .any base t v)
    (hW : DataW.Whole enc Try.prog Try.f10.params.toList Rows.fnExactBDeleteSpec.vars false W args.toList ds gs before) :
    Calls Try.prog 10 args W fun e W' => ∃ v, e = .returned v ∧ Rows.fnExactBDeleteSpec.post enc Try.prog Try.f10 false true false false W args v W' := by
  have hW' := hW
  obtain ⟨p, q, hA0, hV, rfl, hfz, hnd⟩ := hW
  have hA : DataW.TrodAll enc Try.prog W 0 (fun _ => true) true Try.f10.params.toList args.toList ds p := hA0
  rw [Try.params10] at hA hval
  obtain ⟨v0, v1, v2, d0, d1, d2, p0, p1, p2, rfl, rfl, rfl, h0, h1, h2⟩ := trodAll_three hA
  obtain ⟨rfl, rfl⟩ := trodVars_none hV
  obtain ⟨s0, a0, n0, r0, rfl, g0⟩ := open_make (hval 0 24 v0 rfl rfl) h0 fun b o h => hfz b o (by simp [h])
  obtain ⟨a1, g1⟩ := open_items (hval 1 25 v1 rfl rfl) h1 fun b o h => hfz b o (by simp [h])
  obtain ⟨a2, g2⟩ := open_items (hval 2 25 v2 rfl rfl) h2 fun b o h => hfz b o (by simp [h])
  exact calls_law laidOut (by rw [Try.params10]; kernel_rfl) rfl hW' rfl rfl rfl (by kernel_rfl) Try.underlying4 (top_FnExactBDelete r0 s0 a0 n0 a1 v1 a2 v2 W g0 g1 g2)
set_option maxRecDepth 100000 in
theorem l_FnExactBDelete (os : Os) (started : os.Started) (H : Type) (enc : TypeId × Value → H) :
    ReturnsInHanded {} Try.checked os 10 .any (Rows.fnExactBDeleteSpec.pre6 enc Try.prog Try.f10 Rows.fnExactBDeleteRow.domain false) (Rows.fnExactBDeleteSpec.post enc Try.prog Try.f10 false true false false) := by
  refine returnsInHanded_of_change (C := Try.checked) own started (by kernel_rfl) Try.func10
    (ChangeSpec.witness6 (enc := enc) (C := Try.checked) false ⟨#[], #[.agg #[.slice none 0 0, .int .i64 0, .bool false], .slice none 0 0, .slice none 0 0], []⟩ 8 (by kernel_rfl) (by kernel_rfl) (by kernel_rfl) (by kernel_rfl)) ?_
  intro W base args ds gs before hval hW _ _
  exact c_FnExactBDelete H enc W base args ds gs before hval hW
theorem h_FnExactBDelete : Rows.FnExactBDeleteSaid :=
  OpenClaim.holds_of_wide 10 Try.f10 rfl rfl rfl rfl rfl rfl rfl ⟨rfl, rfl, rfl, rfl, rfl⟩ rfl rfl rfl rfl rfl (by kernel_rfl) Try.func10 (by kernel_rfl)
    (of_decide_eq_true (by kernel_rfl)) (by unfold Func.isWrapper; first | (rw [if_pos (by decide +kernel)]; kernel_rfl) | (rw [if_neg (by decide +kernel)]; exact ⟨rfl, rfl⟩))
    (fun os started H enc _ => l_FnExactBDelete os started H enc)
#print axioms h_FnExactBDelete
end Go.Proofs.Ytanmjbkbdmeckaa
