/-
  The search in a node of a tree. No condition.
-/
import Derived.Test.YtdffddiaoheklaaGLess
import Derived.Test.YtdffddiaoheklaaMLeaf
import Derived.Test.YtdffddiaoheklaaMNode
set_option linter.unusedSimpArgs false
set_option linter.unusedVariables false
namespace Go.Proofs.Ytdffddiaoheklaa
open Go Go.Proofs
section
variable {P : Program} {e : Env} {w : World} {d : Option Nat} {ty : Nat} {pos : String} {af : Array Edge}
theorem CallV_mono {lv : Value} {vs : Array Value} {R R' : Value → World → Prop} (h : CallV P lv vs w R) (hk : ∀ v w', R v w' → R' v w') : CallV P lv vs w R' := by
  unfold CallV at h ⊢
  split
  · exact ⟨h.1, CallK_mono h.2 hk⟩
  · rename_i hn; revert h; split
    · rename_i f a b; exact (hn f a b rfl).elim
    · exact fun h => h
theorem do_callW {ops : Array Oper} {C : World → World → Prop} {KE : Env → World → Prop} {t : Nat} {args : Array Operand} {tys : Array Nat} {lv : Value} {vs : Array Value} {R : Value → World → Prop} (ht : e t = lv)
    (ha : args.map (ev e) = vs) (hc : CallV P lv vs w R) (hK : ∀ v w', R v w' → C w w' ∧ KE (updO e d v) w') :
    DoO P ops C KE e w ⟨d, .call ⟨.value (.tmp t), args, tys⟩, ty, pos, af, none⟩ :=
  DoO_intro (DoOp_callv (by rw [ht, ha]; exact CallV_mono hc hK))
theorem bv_shr1 (T : Nat) (a : Int) : binV P .shr T (.int .u64 a) (.int .u64 1) = some (.int .u64 (a.fdiv 2)) := by simp [binV, IntKind.bits]
end
/-- The tree's record at m holds a function value that compares by ranks. -/
def Ls (B m : Nat) (w : World) (ord : List Int) : Prop := ∃ lv, rd w m 6 = some lv ∧ LessAt B m w lv ord ∧ B ≤ m
theorem Ls.ext {B m : Nat} {w w' : World} {G : Nat → Nat → Prop} {ord : List Int} (h : Ls B m w ord) (x : Ext G w w') (hG : ∀ y o, G y o → m ≤ y ∨ y < B) (hm : ¬ G m 6) : Ls B m w' ord := by
  obtain ⟨lv, h1, h2, h3⟩ := h
  exact ⟨lv, x.rd h1 hm, h2.ext x hG, h3⟩
theorem Ls.ext0 {B m : Nat} {w w' : World} {ord : List Int} (h : Ls B m w ord) (x : Ext noF w w') : Ls B m w' ord := h.ext x (fun _ _ g => g.elim) fun g => g.elim
/-- What the search hands back. -/
def srchG (ord : List Int) (ks : List It) (x : It) : Value := .tuple #[.int .i64 (lb O (rkI ord) (rkI ord x) ks : Nat), .bool (hit O (rkI ord) (rkI ord x) ks)]
theorem keep4 {F : Nat → Nat → Prop} {w w' : World} {a b c d : Nat} (h : Ext F w w') (h1 : a < w.heap.size ∧ ∀ o, ¬ F a o) (h2 : b < w.heap.size ∧ ∀ o, ¬ F b o) (h3 : c < w.heap.size ∧ ∀ o, ¬ F c o) (h4 : d < w.heap.size ∧ ∀ o, ¬ F d o) :
    keeps (some (some [a, b, c, d])) w w' := keeps_on h fun x hx => by
  simp only [List.mem_cons, List.not_mem_nil, or_false] at hx
  rcases hx with rfl | rfl | rfl | rfl
  · exact h1
  · exact h2
  · exact h3
  · exact h4
theorem in1 (a b c d : Nat) : readsB (some (some [a, b, c, d])) a = true := by simp [readsB]
theorem in2 (a b c d : Nat) : readsB (some (some [a, b, c, d])) b = true := by simp [readsB]
theorem in3 (a b c d : Nat) : readsB (some (some [a, b, c, d])) c = true := by simp [readsB]
theorem in4 (a b c d : Nat) : readsB (some (some [a, b, c, d])) d = true := by simp [readsB]
theorem iX_at {w : World} {b o : Nat} {x : It} (h : Row w b o (E.cel x)) : rdA w b o 2 = some (itV x) := h.rdA 2 (Nat.le_refl _)
theorem u64_of (n : Nat) (h : n < 9223372036854775808) : IntKind.u64.wrap (n : Int) = n := IntWalk.u64_in _ (by omega)
theorem half_of (n : Nat) : ((n : Nat) : Int).fdiv 2 = ((n / 2 : Nat) : Int) := by rw [Int.fdiv_eq_ediv_of_nonneg _ (by omega)]; omega
theorem i64_of (n : Nat) (h : n < 9223372036854775808) : IntKind.i64.wrap (n : Int) = n := IntWalk.i64_in _ (by omega)
set_option maxHeartbeats 800000 in
set_option maxRecDepth 8000 in
theorem bsearch_any (B m b bi oi cap : Nat) (ord : List Int) (ks : List It) (x : It) (w : World) (hL : Ls B m w ord) (h2 : rd w b 2 = some (.slice (some ⟨bi, oi, none⟩) ks.length cap)) (row : Row w bi oi (flat E ks)) (hbi : bi < w.heap.size)
    (hlen : ks.length < 4611686018427387904) (ha : Asc O (rkI ord) ks) :
    CallK Try.prog 122 #[ptr m, ptr b, itV x] w fun v w' => v = srchG ord ks x ∧ Ext noF w w' := by
  refine calls_of_W [.tmp 6, .tmp 7] Try.func122 rfl Try.ntmps122 Try.results122 (by simp) fun e he => ?_
  have e0 : e 0 = ptr m := he 0 _ rfl
  have h0 : e 1 = ptr b := he 1 _ rfl
  have h1 : e 2 = itV x := he 2 _ rfl
  clear he
  refine W_sq fun K hK => (W_text [false, true, true] (by kernel_rfl) ?_); simp only [↓List.toList_toArray, ↓rgd, ↓rgf, ↓reduceIte, Nat.reduceEqDiff, rg, ow_122]
  refine do_box (by simp only [evt]; exact h1) fun w1 n1 => ⟨trivial, ?_⟩
  simp only [↓List.toList_toArray, ↓rgd, ↓rgf, ↓reduceIte, Nat.reduceEqDiff, rg, ow_122]
  refine hK _ _ ?_; clear hK K
  have s1 := n1.size
  have bx1 : Row w1 w.heap.size 0 (E.cel x) := n1.row
  have h2 := n1.ext.rd h2 fun g => g
  have row := n1.ext.row row fun _ _ g => g
  have hL := hL.ext0 n1.ext
  have hbl := rd_lt h2
  have X1 := n1.ext
  clear n1
  refine W_sq fun K hK => (W_draw (some none) none [(0, 0, 0), (0, 1, 0), (0, 2, 0), (0, 3, 0), (0, 4, 0), (0, 5, 0), (0, 6, 0)] mixed (by kernel_rfl) ?_); simp only [↓List.toList_toArray, ↓rgd, ↓rgf, ↓reduceIte, Nat.reduceEqDiff, rg, ow_122, h0, ptr_eq, h2]
  refine hK _ _ ?_; clear hK K
  refine W_seq (W_block (W_loop (fun mm e w' => Ext noF w1 w' ∧ ∃ lo hi : Nat, mm = hi - lo ∧ lo ≤ hi ∧ hi ≤ ks.length ∧ e 0 = ptr m ∧ e 1 = ptr b ∧ e 5 = ptr w.heap.size ∧ e 8 = .int .i64 lo ∧ e 9 = .int .i64 hi ∧
    (∀ i y, i < lo → ks[i]? = some y → O.lt (rkI ord x) (rkI ord y) = false) ∧ (∀ i y, hi ≤ i → ks[i]? = some y → O.lt (rkI ord x) (rkI ord y) = true)) ks.length ⟨Ext.dr _ _ _, 0, ks.length, by simp, by simp, by simp, ?_, ?_, ?_, ?_, ?_, ?_, ?_⟩ ?_))
  · simp only [upd_eq, Nat.reduceEqDiff, ↓reduceIte]; exact e0
  · simp only [upd_eq, Nat.reduceEqDiff, ↓reduceIte]; exact h0
  · simp only [upd_eq, Nat.reduceEqDiff, ↓reduceIte]; rfl
  · simp only [upd_eq, Nat.reduceEqDiff, ↓reduceIte]; rfl
  · simp only [upd_eq, Nat.reduceEqDiff, ↓reduceIte]
  · intro i y hi; omega
  · intro i y hi hx; have := (List.getElem?_eq_some_iff.1 hx).1; omega
  · clear h0 h1 e0 e
    rintro mm e w' ⟨XW, lo, hi, rfl, hle, hhi, e0, h0, h5, h8, h9, hlo, hup⟩
    have sw := XW.size
    have h2' := XW.rd h2 fun g => g
    have row' := XW.row row fun _ _ g => g
    have bx' := iX_at (XW.row bx1 fun _ _ g => g)
    have hL' := hL.ext0 XW
    obtain ⟨lv, hlv, hless, hBm⟩ := id hL'
    have hml := rd_lt hlv
    have A1 := in1 m b bi w.heap.size
    have A2 := in2 m b bi w.heap.size
    have A3 := in3 m b bi w.heap.size
    have A4 := in4 m b bi w.heap.size
    refine W_seq ?_
    by_cases hlt : lo < hi
    · have ht := lt_tt lo hi hlt
      refine W_sq fun K hK => (W_text [true, true, true] (by kernel_rfl) ?_); simp only [↓List.toList_toArray, ↓rgd, ↓rgf, ↓reduceIte, Nat.reduceEqDiff, rg, ow_122, h8, h9, ht]
      refine hK _ _ ?_; clear hK K
      refine W_true (by simp only [evt, evc, upd_eq, Nat.reduceEqDiff, ↓reduceIte, ntT, ntF] <;> rfl) (W_skip ?_)
      have e1 := wadd lo hi (by omega)
      have q1 := u64_of (lo + hi) (by omega)
      have q2 := half_of (lo + hi)
      have q3 := i64_of ((lo + hi) / 2) (by omega)
      refine W_block ?_
      refine W_sq fun K hK => (W_text [true, true, true, true, true, true, true] (by kernel_rfl) ?_); simp only [↓List.toList_toArray, ↓rgd, ↓rgf, ↓reduceIte, Nat.reduceEqDiff, rg, ow_122, h8, h9, e1, q1, bv_shr1, q2, q3]
      refine hK _ _ ?_; clear hK K
      obtain ⟨y, hy⟩ : ∃ y, ks[(lo + hi) / 2]? = some y := ⟨_, List.getElem?_eq_getElem (by omega)⟩
      have hk := it_at row' hy
      have hi1 : (lo + hi) / 2 < ks.length := by omega
      refine W_sq fun K hK => (W_draw (some (some [m, b, bi, w.heap.size])) none [(0, 0, 0), (0, 1, 0), (0, 2, 0), (0, 3, 0), (0, 4, 0), (0, 5, 0), (0, 6, 0), (0, 7, 0), (0, 8, 0), (0, 9, 0), (0, 10, 0), (0, 11, 0), (1, 12, 0), (0, 13, 0)] mixed (by kernel_rfl) ?_); simp only [↓List.toList_toArray, ↓rgd, ↓rgf, ↓reduceIte, Nat.reduceEqDiff, rg, ow_122, e0, h0, h5, ptr_eq, h2', hi1, hk, hlv, bx', A1, A2, A3, A4]
      refine do_callW (by simp only [evt, evc, upd_eq, Nat.reduceEqDiff, ↓reduceIte, ntT, ntF] <;> rfl) (by simp only [evt, evc, upd_eq, Nat.reduceEqDiff, ↓reduceIte, maT, maC, maN, isnN, isnS] <;> rfl) (before_any B lv ord x y _ (hless.ext (Ext.dr noF _ _) fun _ _ g => g.elim)) ?_
      rintro _ w2 ⟨rfl, x2⟩
      refine ⟨.inr (keep4 x2 ⟨by rw [sz_dr]; omega, fun _ g => g⟩ ⟨by rw [sz_dr]; omega, fun _ g => g⟩ ⟨by rw [sz_dr]; omega, fun _ g => g⟩ ⟨by rw [sz_dr]; omega, fun _ g => g⟩), ?_⟩
      simp only [↓List.toList_toArray, ↓rgd, ↓rgf, ↓reduceIte, Nat.reduceEqDiff, rg, ow_122]
      refine hK _ _ ?_; clear hK K
      have X2 := XW.tr x2.od
      cases hq : O.lt (rkI ord x) (rkI ord y) with
      | true =>
        refine W_false (by simp only [evt, upd_eq, ↓reduceIte, ntT, ntF]) ?_
        refine W_rg fun K hK => (W_text [true, true] (by kernel_rfl) ?_); simp only [↓List.toList_toArray, ↓rgd, ↓rgf, ↓reduceIte, Nat.reduceEqDiff, rg, ow_122]
        refine hK _ _ ?_; clear hK K
        refine ⟨_, ?_, X2.tr (Ext.dr _ _ _), lo, (lo + hi) / 2, rfl, by omega, by omega, ?_, ?_, ?_, ?_, ?_, hlo, ?_⟩
        · omega
        · simp only [upd_eq, Nat.reduceEqDiff, ↓reduceIte]; exact e0
        · simp only [upd_eq, Nat.reduceEqDiff, ↓reduceIte]; exact h0
        · simp only [upd_eq, Nat.reduceEqDiff, ↓reduceIte]; exact h5
        · simp only [upd_eq, Nat.reduceEqDiff, ↓reduceIte]; exact h8
        · simp only [upd_eq, Nat.reduceEqDiff, ↓reduceIte]
        · intro i z hi' hz
          by_cases he : i = (lo + hi) / 2
          · subst he; rw [hy] at hz; cases hz; exact hq
          · have hsp := List.pairwise_iff_getElem.1 ha ((lo + hi) / 2) i (by omega) (List.getElem?_eq_some_iff.1 hz).1 (by omega)
            rw [(List.getElem?_eq_some_iff.1 hy).2, (List.getElem?_eq_some_iff.1 hz).2] at hsp
            exact O.tr _ _ _ hq hsp
      | false =>
        refine W_true (by simp only [evt, upd_eq, ↓reduceIte, ntT, ntF]) ?_
        have e3 := wadd1 ((lo + hi) / 2) (by omega)
        refine W_rg fun K hK => (W_text [true, true, true] (by kernel_rfl) ?_); simp only [↓List.toList_toArray, ↓rgd, ↓rgf, ↓reduceIte, Nat.reduceEqDiff, rg, ow_122, e3]
        refine hK _ _ ?_; clear hK K
        refine ⟨_, ?_, X2.tr (Ext.dr _ _ _), (lo + hi) / 2 + 1, hi, rfl, by omega, by omega, ?_, ?_, ?_, ?_, ?_, ?_, hup⟩
        · omega
        · simp only [upd_eq, Nat.reduceEqDiff, ↓reduceIte]; exact e0
        · simp only [upd_eq, Nat.reduceEqDiff, ↓reduceIte]; exact h0
        · simp only [upd_eq, Nat.reduceEqDiff, ↓reduceIte]; exact h5
        · simp only [upd_eq, Nat.reduceEqDiff, ↓reduceIte]
        · simp only [upd_eq, Nat.reduceEqDiff, ↓reduceIte]; exact h9
        · intro i z hi' hz
          by_cases he : i = (lo + hi) / 2
          · subst he; rw [hy] at hz; cases hz; exact hq
          · have hsp := List.pairwise_iff_getElem.1 ha i ((lo + hi) / 2) (List.getElem?_eq_some_iff.1 hz).1 (by omega) (by omega)
            rw [(List.getElem?_eq_some_iff.1 hy).2, (List.getElem?_eq_some_iff.1 hz).2] at hsp
            cases hqy : O.lt (rkI ord x) (rkI ord z) with
            | false => rfl
            | true => have := O.tr _ _ _ hqy hsp; rw [hq] at this; cases this
    · obtain rfl : lo = hi := by omega
      have ht := lt_ff lo lo (by omega)
      refine W_sq fun K hK => (W_text [true, true, true] (by kernel_rfl) ?_); simp only [↓List.toList_toArray, ↓rgd, ↓rgf, ↓reduceIte, Nat.reduceEqDiff, rg, ow_122, h8, h9, ht]
      refine hK _ _ ?_; clear hK K
      refine W_false (by simp only [evt, evc, upd_eq, Nat.reduceEqDiff, ↓reduceIte, ntT, ntF] <;> rfl) (W_exit ?_)
      show W _ _ _ _ _ _
      refine W_seq ?_
      by_cases h00 : 0 < lo
      · obtain ⟨y, hy⟩ : ∃ y, ks[lo - 1]? = some y := ⟨_, List.getElem?_eq_getElem (by omega)⟩
        have hk := it_at row' hy
        have hi1 : lo - 1 < ks.length := by omega
        have e3 := wsub1 lo h00 (by omega)
        have ht0 : decide (0 < (lo : Int)) = true := by simp; omega
        refine W_sq fun K hK => (W_draw (some (some [m, b, bi, w.heap.size])) none [(0, 0, 0), (0, 1, 0), (0, 2, 0), (0, 3, 0), (0, 4, 0), (0, 5, 0), (0, 6, 0), (0, 7, 0), (0, 8, 0), (0, 9, 0), (0, 10, 0), (0, 11, 0), (0, 12, 0), (0, 13, 0), (0, 14, 0), (0, 15, 0), (1, 16, 0), (0, 17, 0), (0, 18, 0)] mixed (by kernel_rfl) ?_); simp only [↓List.toList_toArray, ↓rgd, ↓rgf, ↓reduceIte, Nat.reduceEqDiff, rg, ow_122, e0, h0, h5, h8, ptr_eq, h2', hi1, hk, hlv, bx', ht0, e3, A1, A2, A3, A4]
        refine do_callW (by simp only [evt, evc, upd_eq, Nat.reduceEqDiff, ↓reduceIte, ntT, ntF] <;> rfl) (by simp only [evt, evc, upd_eq, Nat.reduceEqDiff, ↓reduceIte, maT, maC, maN, isnN, isnS] <;> rfl) (before_any B lv ord y x _ (hless.ext (Ext.dr noF _ _) fun _ _ g => g.elim)) ?_
        rintro _ w2 ⟨rfl, x2⟩
        refine ⟨.inr (keep4 x2 ⟨by rw [sz_dr]; omega, fun _ g => g⟩ ⟨by rw [sz_dr]; omega, fun _ g => g⟩ ⟨by rw [sz_dr]; omega, fun _ g => g⟩ ⟨by rw [sz_dr]; omega, fun _ g => g⟩), ?_⟩
        simp only [↓List.toList_toArray, ↓rgd, ↓rgf, ↓reduceIte, Nat.reduceEqDiff, rg, ow_122]
        refine hK _ _ ?_; clear hK K
        have X2 := (X1.tr XW).tr x2.od
        cases hq : O.lt (rkI ord y) (rkI ord x) with
        | true =>
          obtain ⟨f1, f2⟩ := missed_at O (rkI ord) ha (q := rkI ord x) (u := lo) hhi (fun z hz => hup lo z (Nat.le_refl _) hz) (fun z _ hz => by rw [hy] at hz; cases hz; exact hq)
          refine W_false (by simp only [evt, upd_eq, ↓reduceIte, ntT, ntF]) (W_skip ?_)
          show W _ _ _ _ _ _
          refine W_sq fun K hK => (W_text [true, true, true] (by kernel_rfl) ?_); simp only [↓List.toList_toArray, ↓rgd, ↓rgf, ↓reduceIte, Nat.reduceEqDiff, rg, ow_122, h8]
          refine hK _ _ ?_; clear hK K
          have hs : Value.tuple #[.int .i64 (lo : Nat), .bool false] = srchG ord ks x := by rw [srchG, f1, f2]
          exact W_ret (endQ_2 (by simp only [upd_eq, Nat.reduceEqDiff, ↓reduceIte]) (by simp only [upd_eq, Nat.reduceEqDiff, ↓reduceIte]) ⟨hs, X2.tr (Ext.dr _ _ _)⟩)
        | false =>
          obtain ⟨f1, f2⟩ := found_at O (rkI ord) ha (q := rkI ord x) (u := lo) hhi hlo (fun z hz => hup lo z (Nat.le_refl _) hz) h00 hy hq
          refine W_true (by simp only [evt, upd_eq, ↓reduceIte, ntT, ntF]) ?_
          refine W_sq fun K hK => (W_text [true, true, true, true] (by kernel_rfl) ?_); simp only [↓List.toList_toArray, ↓rgd, ↓rgf, ↓reduceIte, Nat.reduceEqDiff, rg, ow_122, h8, e3]
          refine hK _ _ ?_; clear hK K
          refine W_ret ?_
          simp only [andThen_ret, inBlk_ret]
          have hs : Value.tuple #[.int .i64 (lo - 1 : Nat), .bool true] = srchG ord ks x := by rw [srchG, f1, f2]
          exact endQ_2 (by simp only [upd_eq, Nat.reduceEqDiff, ↓reduceIte]) (by simp only [upd_eq, Nat.reduceEqDiff, ↓reduceIte]) ⟨hs, X2.tr (Ext.dr _ _ _)⟩
      · have ht0 : decide (0 < (lo : Int)) = false := by simp; omega
        refine W_sq fun K hK => (W_draw (some none) none [(0, 0, 0), (0, 1, 0), (0, 2, 0), (0, 3, 0), (0, 4, 0), (0, 5, 0), (0, 6, 0), (0, 7, 0), (0, 8, 0), (0, 9, 0), (0, 10, 0), (0, 11, 0), (0, 12, 0), (0, 13, 0), (0, 14, 0), (0, 15, 0), (1, 16, 0), (0, 17, 0), (0, 18, 0)] mixed (by kernel_rfl) ?_); simp only [↓List.toList_toArray, ↓rgd, ↓rgf, ↓reduceIte, Nat.reduceEqDiff, rg, ow_122, h8, ht0]
        refine hK _ _ ?_; clear hK K
        obtain ⟨f1, f2⟩ := missed_at O (rkI ord) ha (q := rkI ord x) (u := lo) hhi (fun z hz => hup lo z (Nat.le_refl _) hz) (fun z h _ => by omega)
        refine W_false (by simp only [evt, evc, upd_eq, Nat.reduceEqDiff, ↓reduceIte, ntT, ntF] <;> rfl) (W_skip ?_)
        show W _ _ _ _ _ _
        refine W_sq fun K hK => (W_text [true, true, true] (by kernel_rfl) ?_); simp only [↓List.toList_toArray, ↓rgd, ↓rgf, ↓reduceIte, Nat.reduceEqDiff, rg, ow_122, h8]
        refine hK _ _ ?_; clear hK K
        have hs : Value.tuple #[.int .i64 (lo : Nat), .bool false] = srchG ord ks x := by rw [srchG, f1, f2]
        exact W_ret (endQ_2 (by simp only [upd_eq, Nat.reduceEqDiff, ↓reduceIte]) (by simp only [upd_eq, Nat.reduceEqDiff, ↓reduceIte]) ⟨hs, (X1.tr XW).tr (Ext.dr _ _ _)⟩)
end Go.Proofs.Ytdffddiaoheklaa
