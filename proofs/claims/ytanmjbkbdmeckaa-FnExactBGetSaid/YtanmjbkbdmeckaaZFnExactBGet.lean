/-
  FnExactBGet: the whole statement: it returns true whatever the input is, and the arguments read as before. No condition.
-/
import Derived.Test.YtanmjbkbdmeckaaZ48e2f10a
import Derived.Test.YtanmjbkbdmeckaaZ0b558072
import Derived.Test.YtanmjbkbdmeckaaZA
/-
  The item of a key in a tree of whatever values. No condition.
-/
set_option linter.unusedSimpArgs false
set_option linter.unusedVariables false
namespace Go.Proofs.Ytanmjbkbdmeckaa
open Go Go.Proofs
set_option maxHeartbeats 800000 in
set_option maxRecDepth 8000 in
theorem getH_any (B m d : Nat) (ord : List Int) (hd : 2 ≤ d) (hd' : d ≤ 128) (iso : Int) (xs : List It) (F : Nat → Nat → Prop) (q : It) (w : World) (hM : TreeAt B ord w m d iso xs F) (hbig : xs.length ≤ 4294967295) :
    CallK Try.prog 143 #[ptr m, itV q, .pointer none] w fun v w' => v = gotG (at? O (rkI ord) (rkI ord q) xs) ∧ Ext noF w w' := by
  refine calls_of_W [.tmp 6, .tmp 7] Try.func143 rfl Try.ntmps143 Try.results143 (by simp) fun e he => ?_
  have e0 : e 0 = ptr m := he 0 _ rfl
  have e1 : e 1 = itV q := he 1 _ rfl
  have e2 : e 2 = .pointer none := he 2 _ rfl
  clear he
  refine W_sq fun K hK => (W_text [true, true] (by kernel_rfl) ?_); simp only [↓List.toList_toArray, ↓rgd, ↓rgf, ↓reduceIte, Nat.reduceEqDiff, rg, ow_143]
  refine hK _ _ ?_; clear hK K
  refine W_sq fun K hK => (W_text [true, true, true, false, true, true, true, true] (by kernel_rfl) ?_); simp only [↓List.toList_toArray, ↓rgd, ↓rgf, ↓reduceIte, Nat.reduceEqDiff, rg, ow_143, e0, e1, e2]
  refine do_call fn_168 (by simp only [evt, evc, upd_eq, Nat.reduceEqDiff, ↓reduceIte, maT, maC, maN, isnN, isnS] <;> rfl) (getHint_any B m d ord hd hd' iso xs F q none false w hM hbig (HOk.none _) (fun _ h => by cases h)) ?_
  rintro _ w1 ⟨rfl, X1, -⟩
  refine ⟨trivial, ?_⟩
  simp only [↓List.toList_toArray, ↓rgd, ↓rgf, ↓reduceIte, Nat.reduceEqDiff, rg, ow_143, gotG_eq]
  refine hK _ _ ?_; clear hK K
  exact W_ret (endQ_2 (by simp only [upd_eq, Nat.reduceEqDiff, ↓reduceIte] <;> rfl) (by simp only [upd_eq, Nat.reduceEqDiff, ↓reduceIte] <;> rfl) ⟨rfl, by first | exact X1.mono (fun _ _ _ g => by cases g) | exact (X1.mono (fun _ _ _ g => by cases g)).tr (Ext.dr _ _ _)⟩)
set_option maxHeartbeats 800000 in
set_option maxRecDepth 8000 in
theorem getT_any (t : Nat) (B m d : Nat) (ord : List Int) (hd : 2 ≤ d) (hd' : d ≤ 128) (iso : Int) (xs : List It) (F : Nat → Nat → Prop) (q : It) (w : World) (hM : TreeAt B ord w m d iso xs F) (hbig : xs.length ≤ 4294967295) (ht : BAt w t m) :
    CallK Try.prog 112 #[ptr t, itV q, .pointer none, .bool false] w fun v w' => v = itO (at? O (rkI ord) (rkI ord q) xs) ∧ Ext noF w w' := by
  refine calls_of_W [.tmp 8] Try.func112 rfl Try.ntmps112 Try.results112 (by simp) fun e he => ?_
  have e0 : e 0 = ptr t := he 0 _ rfl
  have e1 : e 1 = itV q := he 1 _ rfl
  have e2 : e 2 = .pointer none := he 2 _ rfl
  have e3 : e 3 = .bool false := he 3 _ rfl
  clear he
  have ht : rd w t 0 = some (ptr m) := ht
  refine W_sq fun K hK => (W_text [true] (by kernel_rfl) ?_); simp only [↓List.toList_toArray, ↓rgd, ↓rgf, ↓reduceIte, Nat.reduceEqDiff, rg, ow_112]
  refine hK _ _ ?_; clear hK K
  refine W_seq ?_
  refine W_sq fun K hK => (W_text [true, true] (by kernel_rfl) ?_); simp only [↓List.toList_toArray, ↓rgd, ↓rgf, ↓reduceIte, Nat.reduceEqDiff, rg, ow_112, e1, eq_any]
  refine hK _ _ ?_; clear hK K
  refine W_false (by simp only [evt, evc, upd_eq, Nat.reduceEqDiff, ↓reduceIte, ntT, ntF] <;> rfl) (W_skip ?_)
  show W _ _ _ _ _ _
  refine W_sq fun K hK => (W_text [true] (by kernel_rfl) ?_); simp only [↓List.toList_toArray, ↓rgd, ↓rgf, ↓reduceIte, Nat.reduceEqDiff, rg, ow_112]
  refine hK _ _ ?_; clear hK K
  refine W_sq fun K hK => (W_text [true] (by kernel_rfl) ?_); simp only [↓List.toList_toArray, ↓rgd, ↓rgf, ↓reduceIte, Nat.reduceEqDiff, rg, ow_112]
  refine hK _ _ ?_; clear hK K
  refine W_seq ?_
  refine W_sq fun K hK => (W_text [true] (by kernel_rfl) ?_); simp only [↓List.toList_toArray, ↓rgd, ↓rgf, ↓reduceIte, Nat.reduceEqDiff, rg, ow_112, e3]
  refine hK _ _ ?_; clear hK K
  refine W_false (by simp only [evt, evc, upd_eq, Nat.reduceEqDiff, ↓reduceIte, ntT, ntF] <;> rfl) ?_
  refine W_rg fun K hK => (W_text [true, true, true, true, true, true, false, true, true, true, true, true] (by kernel_rfl) ?_); simp only [↓List.toList_toArray, ↓rgd, ↓rgf, ↓reduceIte, Nat.reduceEqDiff, rg, ow_112, e0, e1, e2, ptr_eq, ht]
  refine do_call fn_143 (by simp only [evt, evc, upd_eq, Nat.reduceEqDiff, ↓reduceIte, maT, maC, maN, isnN, isnS] <;> rfl) (getH_any B m d ord hd hd' iso xs F q w hM hbig) ?_
  rintro _ w1 ⟨rfl, X1⟩
  refine ⟨trivial, ?_⟩
  simp only [↓List.toList_toArray, ↓rgd, ↓rgf, ↓reduceIte, Nat.reduceEqDiff, rg, ow_112, gotG_eq]
  refine hK _ _ ?_; clear hK K
  show W _ _ _ _ _ _
  refine W_seq ?_
  generalize at? O (rkI ord) (rkI ord q) xs = r at *
  cases r with
  | some y =>
    have hy : (some y).isSome = true := rfl
    refine W_sq fun K hK => (W_text [true, true] (by kernel_rfl) ?_); simp only [↓List.toList_toArray, ↓rgd, ↓rgf, ↓reduceIte, Nat.reduceEqDiff, rg, ow_112, hy]
    refine hK _ _ ?_; clear hK K
    refine W_false (by simp only [evt, evc, upd_eq, Nat.reduceEqDiff, ↓reduceIte, ntT, ntF] <;> rfl) (W_skip ?_)
    show W _ _ _ _ _ _
    refine W_sq fun K hK => (W_text [true, true] (by kernel_rfl) ?_); simp only [↓List.toList_toArray, ↓rgd, ↓rgf, ↓reduceIte, Nat.reduceEqDiff, rg, ow_112]
    refine hK _ _ ?_; clear hK K
    exact W_ret (endQ_1 (by simp only [upd_eq, Nat.reduceEqDiff, ↓reduceIte] <;> rfl) ⟨rfl, by first | exact X1 | exact X1.tr (Ext.dr _ _ _)⟩)
  | none =>
    have hy : (none : Option It).isSome = false := rfl
    refine W_sq fun K hK => (W_text [true, true] (by kernel_rfl) ?_); simp only [↓List.toList_toArray, ↓rgd, ↓rgf, ↓reduceIte, Nat.reduceEqDiff, rg, ow_112, hy]
    refine hK _ _ ?_; clear hK K
    refine W_true (by simp only [evt, evc, upd_eq, Nat.reduceEqDiff, ↓reduceIte, ntT, ntF] <;> rfl) ?_
    refine W_sq fun K hK => (W_text [true] (by kernel_rfl) ?_); simp only [↓List.toList_toArray, ↓rgd, ↓rgf, ↓reduceIte, Nat.reduceEqDiff, rg, ow_112]
    refine hK _ _ ?_; clear hK K
    refine W_ret ?_
    simp only [andThen_ret]
    exact endQ_1 (by simp only [upd_eq, Nat.reduceEqDiff, ↓reduceIte] <;> rfl) ⟨rfl, by first | exact X1 | exact X1.tr (Ext.dr _ _ _)⟩
set_option maxHeartbeats 800000 in
set_option maxRecDepth 8000 in
theorem get_any (t : Nat) (B m d : Nat) (ord : List Int) (hd : 2 ≤ d) (hd' : d ≤ 128) (iso : Int) (xs : List It) (F : Nat → Nat → Prop) (q : It) (w : World) (hM : TreeAt B ord w m d iso xs F) (hbig : xs.length ≤ 4294967295) (ht : BAt w t m) :
    CallK Try.prog 78 #[ptr t, itV q] w fun v w' => v = itO (at? O (rkI ord) (rkI ord q) xs) ∧ Ext noF w w' := by
  refine calls_of_W [.tmp 4] Try.func78 rfl Try.ntmps78 Try.results78 (by simp) fun e he => ?_
  have e0 : e 0 = ptr t := he 0 _ rfl
  have e1 : e 1 = itV q := he 1 _ rfl
  clear he
  refine W_sq fun K hK => (W_text [true] (by kernel_rfl) ?_); simp only [↓List.toList_toArray, ↓rgd, ↓rgf, ↓reduceIte, Nat.reduceEqDiff, rg, ow_78]
  refine hK _ _ ?_; clear hK K
  refine W_sq fun K hK => (W_text [true, true, false, true] (by kernel_rfl) ?_); simp only [↓List.toList_toArray, ↓rgd, ↓rgf, ↓reduceIte, Nat.reduceEqDiff, rg, ow_78, e0, e1]
  refine do_call fn_112 (by simp only [evt, evc, upd_eq, Nat.reduceEqDiff, ↓reduceIte, maT, maC, maN, isnN, isnS] <;> rfl) (getT_any t B m d ord hd hd' iso xs F q w hM hbig ht) ?_
  rintro _ w1 ⟨rfl, X1⟩
  refine ⟨trivial, ?_⟩
  simp only [↓List.toList_toArray, ↓rgd, ↓rgf, ↓reduceIte, Nat.reduceEqDiff, rg, ow_78]
  refine hK _ _ ?_; clear hK K
  exact W_ret (endQ_1 (by simp only [upd_eq, Nat.reduceEqDiff, ↓reduceIte] <;> rfl) ⟨rfl, X1⟩)
end Go.Proofs.Ytanmjbkbdmeckaa
/-
  The greatest item of a tree of whatever values. No condition.
-/
set_option linter.unusedSimpArgs false
set_option linter.unusedVariables false
namespace Go.Proofs.Ytanmjbkbdmeckaa
open Go Go.Proofs
theorem weave_getLast {cs : List (List It)} {ks : List It} {c : List It} (hl : cs.length = ks.length + 1) (hc : cs[ks.length]? = some c) (hne : 0 < c.length) : (weave cs ks).getLast? = c.getLast? := by
  have key : ∀ (n : Nat) (cs : List (List It)) (ks : List It), ks.length = n → cs.length = ks.length + 1 → cs[ks.length]? = some c → ∃ A, weave cs ks = A ++ c := by
    intro n
    induction n with
    | zero =>
      intro cs ks h0 hl hc
      obtain rfl : ks = [] := List.eq_nil_of_length_eq_zero h0
      match cs, hl with
      | [d], _ => simp at hc; subst hc; exact ⟨[], rfl⟩
    | succ n ih =>
      intro cs ks h0 hl hc
      match cs, ks, hl with
      | d :: cs, k :: ks, hl =>
        obtain ⟨A, hA⟩ := ih cs ks (by simpa using h0) (by simpa using hl) (by simpa using hc)
        exact ⟨d ++ k :: A, by rw [weave_cons, hA]; simp⟩
  obtain ⟨A, hA⟩ := key _ cs ks rfl hl hc
  rw [hA, List.getLast?_append]
  cases c with
  | nil => simp at hne
  | cons x c => simp [List.getLast?_cons]
set_option maxHeartbeats 800000 in
set_option maxRecDepth 8000 in
theorem maxMut_any (B m d : Nat) (iso : Int) (ord : List Int) (xs : List It) (hd : 2 ≤ d) (hd' : d ≤ 128) (F : Nat → Nat → Prop) (mu : Bool) (w : World) (hM : TreeAt B ord w m d iso xs F) :
    CallK Try.prog 141 #[ptr m, .bool mu] w fun v w' => v = .tuple #[itO xs.getLast?, .bool xs.getLast?.isSome] ∧ Ext noF w w' := by
  refine calls_of_W [.tmp 4, .tmp 5] Try.func141 rfl Try.ntmps141 Try.results141 (by simp) fun e he => ?_
  have e0 : e 0 = ptr m := he 0 _ rfl
  have e1 : e 1 = .bool mu := he 1 _ rfl
  clear he
  refine W_sq fun K hK => (W_text [true, true] (by kernel_rfl) ?_); simp only [↓List.toList_toArray, ↓rgd, ↓rgf, ↓reduceIte, Nat.reduceEqDiff, rg, ow_141]
  refine hK _ _ ?_; clear hK K
  refine W_seq ?_
  refine W_sq fun K hK => (W_text [true, true, false] (by kernel_rfl) ?_); simp only [↓List.toList_toArray, ↓rgd, ↓rgf, ↓reduceIte, Nat.reduceEqDiff, rg, ow_141, e0, e1]
  refine do_call fn_118 (by simp only [evt, evc, upd_eq, Nat.reduceEqDiff, ↓reduceIte, maT, maC, maN, isnN, isnS] <;> rfl) (lock_any _ _ w) ?_
  rintro _ w1 ⟨rfl, hw1⟩
  obtain rfl : w = w1 := hw1
  refine ⟨trivial, ?_⟩
  simp only [↓List.toList_toArray, ↓rgd, ↓rgf, ↓reduceIte, Nat.reduceEqDiff, rg, ow_141]
  refine hK _ _ ?_; clear hK K
  refine W_false (by simp only [evt, evc, upd_eq, Nat.reduceEqDiff, ↓reduceIte, ntT, ntF] <;> rfl) (W_skip ?_)
  show W _ _ _ _ _ _
  refine W_seq ?_
  rcases hM.root with ⟨rfl, hr⟩ | ⟨h, b, hr, ht⟩
  · have hz := zIt_at hM.cfg
    refine W_sq fun K hK => (W_text [true, true, true, true, true] (by kernel_rfl) ?_); simp only [↓List.toList_toArray, ↓rgd, ↓rgf, ↓reduceIte, Nat.reduceEqDiff, rg, ow_141, e0, ptr_eq, hr]
    refine hK _ _ ?_; clear hK K
    refine W_true (by simp only [evt, evc, upd_eq, Nat.reduceEqDiff, ↓reduceIte, ntT, ntF] <;> rfl) ?_
    refine W_sq fun K hK => (W_text [true, true, true, true, true, true] (by kernel_rfl) ?_); simp only [↓List.toList_toArray, ↓rgd, ↓rgf, ↓reduceIte, Nat.reduceEqDiff, rg, ow_141, e0, ptr_eq, hz]
    refine hK _ _ ?_; clear hK K
    refine W_ret ?_
    simp only [andThen_ret]
    exact endQ_2 (by simp only [upd_eq, Nat.reduceEqDiff, ↓reduceIte] <;> rfl) (by simp only [upd_eq, Nat.reduceEqDiff, ↓reduceIte] <;> rfl) ⟨rfl, Ext.refl _ _⟩
  · refine W_sq fun K hK => (W_text [true, true, true, true, true] (by kernel_rfl) ?_); simp only [↓List.toList_toArray, ↓rgd, ↓rgf, ↓reduceIte, Nat.reduceEqDiff, rg, ow_141, e0, ptr_eq, hr]
    refine hK _ _ ?_; clear hK K
    refine W_false (by simp only [evt, evc, upd_eq, Nat.reduceEqDiff, ↓reduceIte, ntT, ntF] <;> rfl) (W_skip ?_)
    show W _ _ _ _ _ _
    refine W_sq fun K hK => (W_text [true, true, true, true, true, false, true] (by kernel_rfl) ?_); simp only [↓List.toList_toArray, ↓rgd, ↓rgf, ↓reduceIte, Nat.reduceEqDiff, rg, ow_141, e0, e1, ptr_eq]
    refine do_call fn_121 (by simp only [evt, evc, upd_eq, Nat.reduceEqDiff, ↓reduceIte, maT, maC, maN, isnN, isnS] <;> rfl) (isoLoad_any m m 2 b mu iso w hM.cfg.iso hr ht.iso0.1) ?_
    rintro _ w1 ⟨rfl, r1⟩
    refine ⟨trivial, ?_⟩
    simp only [↓List.toList_toArray, ↓rgd, ↓rgf, ↓reduceIte, Nat.reduceEqDiff, rg, ow_141]
    refine hK _ _ ?_; clear hK K
    refine W_block (W_loop (fun mm e w' => ∃ (lo b : Nat) (ys : List It) (F : Nat → Nat → Prop), Tr E iso (d - 1) (2 * d - 1) mm w' lo b ys F ∧ 1 ≤ lo ∧ ys.getLast? = xs.getLast? ∧ Ext noF w w' ∧ e 0 = ptr m ∧ e 1 = .bool mu ∧ e 6 = ptr b)
      h ⟨1, b, xs, F, ht.ext r1.ext (fun _ _ _ h => h), Nat.le_refl _, rfl, r1.ext, by simp only [upd_eq, Nat.reduceEqDiff, ↓reduceIte]; exact e0, by simp only [upd_eq, Nat.reduceEqDiff, ↓reduceIte]; exact e1, by simp only [upd_eq, Nat.reduceEqDiff, ↓reduceIte]⟩ ?_)
    clear e0 e1 e hr ht r1
    rintro mm e w' ⟨lo, b, ys, F', ht, hlo, hl, X, e0, e1, e6⟩
    have hi0 := X.rd hM.cfg.iso (fun h => h)
    refine W_block (W_seq ?_)
    obtain ⟨bi, oi, cap, ks, ch, ho, h1, h2, _, ⟨rfl, rfl, rfl, hF⟩ | ⟨h', bc, ba, oa, capc, cs, rfl, rfl, n⟩⟩ := ht.open
    · refine W_sq fun K hK => (W_text [true, false] (by kernel_rfl) ?_); simp only [↓List.toList_toArray, ↓rgd, ↓rgf, ↓reduceIte, Nat.reduceEqDiff, rg, ow_141, e6]
      refine do_call fn_122 (by simp only [evt, evc, upd_eq, Nat.reduceEqDiff, ↓reduceIte, maT, maC, maN, isnN, isnS] <;> rfl) (leaf_any b none w' ho.h3) ?_
      rintro _ w' ⟨rfl, rfl⟩
      refine ⟨trivial, ?_⟩
      simp only [↓List.toList_toArray, ↓rgd, ↓rgf, ↓reduceIte, Nat.reduceEqDiff, rg, ow_141]
      refine hK _ _ ?_; clear hK K
      refine W_true (by simp only [evt, evc, upd_eq, Nat.reduceEqDiff, ↓reduceIte, ntT, ntF] <;> rfl) ?_
      obtain ⟨x, hx⟩ : ∃ x, ys[ys.length - 1]? = some x := ⟨_, List.getElem?_eq_getElem (by omega)⟩
      have hk := it_at ho.row hx
      have q := wsub1 ys.length (by omega) (by omega)
      have hi : ys.length - 1 < ys.length := by omega
      refine W_sq fun K hK => (W_draw (some none) none [(0, 0, 0), (0, 1, 0), (0, 2, 0), (0, 3, 0), (0, 4, 0), (0, 5, 0), (0, 6, 0), (0, 7, 0), (0, 8, 0), (0, 9, 0), (0, 10, 0), (0, 11, 0), (0, 12, 0), (0, 13, 0)] mixed (by kernel_rfl) ?_); simp only [↓List.toList_toArray, ↓rgd, ↓rgf, ↓reduceIte, Nat.reduceEqDiff, rg, ow_141, e6, ptr_eq, ho.h2, q, hi, hk]
      refine hK _ _ ?_; clear hK K
      refine W_ret ?_
      simp only [andThen_ret, inBlk_ret]
      have hlast : xs.getLast? = some x := by rw [← hl, List.getLast?_eq_getElem?]; exact hx
      exact endQ_2 (by simp only [upd_eq, Nat.reduceEqDiff, ↓reduceIte] <;> rfl) (by simp only [upd_eq, Nat.reduceEqDiff, ↓reduceIte] <;> rfl) ⟨by rw [hlast]; rfl, X.tr (Ext.dr _ _ _)⟩
    · have hcl := n.len
      obtain ⟨c, hc⟩ : ∃ c, cs[ks.length]? = some c := ⟨_, List.getElem?_eq_getElem (by omega)⟩
      have hcm := List.mem_of_getElem? hc
      refine W_sq fun K hK => (W_text [true, false] (by kernel_rfl) ?_); simp only [↓List.toList_toArray, ↓rgd, ↓rgf, ↓reduceIte, Nat.reduceEqDiff, rg, ow_141, e6]
      refine do_call fn_122 (by simp only [evt, evc, upd_eq, Nat.reduceEqDiff, ↓reduceIte, maT, maC, maN, isnN, isnS] <;> rfl) (leaf_any b (some ⟨bc, 0, none⟩) w' ho.h3) ?_
      rintro _ w' ⟨rfl, rfl⟩
      refine ⟨trivial, ?_⟩
      simp only [↓List.toList_toArray, ↓rgd, ↓rgf, ↓reduceIte, Nat.reduceEqDiff, rg, ow_141]
      refine hK _ _ ?_; clear hK K
      refine W_false (by simp only [evt, evc, upd_eq, Nat.reduceEqDiff, ↓reduceIte, ntT, ntF] <;> rfl) (W_skip ?_)
      show W _ _ _ _ _ _
      have hc0 := n.kids.c0
      rw [List.length_map] at hc0
      have hcr : rd w' ba (oa + (cs.length - 1)) = some (ptr c.b) := ptr_at n.kids.row (by rw [List.getElem?_map, show cs.length - 1 = ks.length by omega, hc]; rfl)
      have q2 := wsub1 cs.length (by omega) (by omega)
      have hlc : cs.length - 1 < cs.length := by omega
      refine W_rg fun K hK => (W_draw (some none) none [(0, 0, 0), (0, 1, 0), (0, 2, 0), (0, 3, 0), (0, 4, 0), (0, 5, 0), (0, 6, 0), (0, 7, 0), (0, 8, 0), (0, 9, 0), (0, 10, 0), (0, 11, 0), (0, 12, 0), (0, 13, 0), (0, 14, 0), (0, 15, 0), (0, 16, 0), (1, 17, 0), (0, 18, 0)] mixed (by kernel_rfl) ?_); simp only [↓List.toList_toArray, ↓rgd, ↓rgf, ↓reduceIte, Nat.reduceEqDiff, rg, ow_141, e0, e1, e6, ptr_eq, ho.h3, hc0, q2, hlc]
      refine do_call fn_121 (by simp only [evt, evc, upd_eq, Nat.reduceEqDiff, ↓reduceIte, maT, maC, maN, isnN, isnS] <;> rfl) (isoLoad_any m ba (oa + (cs.length - 1)) c.b mu iso _ hi0 hcr (n.sub c hcm).iso0.1) ?_
      rintro _ w2 ⟨rfl, r2⟩
      refine ⟨.inr (keeps_ro r2), ?_⟩
      simp only [↓List.toList_toArray, ↓rgd, ↓rgf, ↓reduceIte, Nat.reduceEqDiff, rg, ow_141]
      refine hK _ _ ?_; clear hK K
      have R : RO w' w2 := (RO.dr _ _).tr r2
      refine ⟨h', by omega, d - 1, c.b, c.xs, c.F, (n.sub c hcm).ext R.ext (fun _ _ _ h => h), by omega, ?_, X.tr R.ext, by simp only [upd_eq, Nat.reduceEqDiff, ↓reduceIte]; exact e0, by simp only [upd_eq, Nat.reduceEqDiff, ↓reduceIte]; exact e1, by simp only [upd_eq, Nat.reduceEqDiff, ↓reduceIte]⟩
      rw [← hl, n.eq]
      exact (weave_getLast (by simpa using hcl) (by rw [List.getElem?_map, hc]; rfl) ((n.sub c hcm).pos (by omega))).symm
set_option maxHeartbeats 800000 in
set_option maxRecDepth 8000 in
theorem maxG_any (B m d : Nat) (iso : Int) (ord : List Int) (xs : List It) (hd : 2 ≤ d) (hd' : d ≤ 128) (F : Nat → Nat → Prop) (w : World) (hM : TreeAt B ord w m d iso xs F) :
    CallK Try.prog 111 #[ptr m] w fun v w' => v = .tuple #[itO xs.getLast?, .bool xs.getLast?.isSome] ∧ Ext noF w w' := by
  refine calls_of_W [.tmp 2, .tmp 3] Try.func111 rfl Try.ntmps111 Try.results111 (by simp) fun e he => ?_
  have e0 : e 0 = ptr m := he 0 _ rfl
  clear he
  refine W_sq fun K hK => (W_text [true, true] (by kernel_rfl) ?_); simp only [↓List.toList_toArray, ↓rgd, ↓rgf, ↓reduceIte, Nat.reduceEqDiff, rg, ow_111]
  refine hK _ _ ?_; clear hK K
  refine W_sq fun K hK => (W_text [true, false, true, true, true, true] (by kernel_rfl) ?_); simp only [↓List.toList_toArray, ↓rgd, ↓rgf, ↓reduceIte, Nat.reduceEqDiff, rg, ow_111, e0]
  refine do_call fn_141 (by simp only [evt, evc, upd_eq, Nat.reduceEqDiff, ↓reduceIte, maT, maC, maN, isnN, isnS] <;> rfl) (maxMut_any B m d iso ord xs hd hd' F false w hM) ?_
  rintro _ w1 ⟨rfl, X1⟩
  refine ⟨trivial, ?_⟩
  simp only [↓List.toList_toArray, ↓rgd, ↓rgf, ↓reduceIte, Nat.reduceEqDiff, rg, ow_111]
  refine hK _ _ ?_; clear hK K
  exact W_ret (endQ_2 (by simp only [upd_eq, Nat.reduceEqDiff, ↓reduceIte] <;> rfl) (by simp only [upd_eq, Nat.reduceEqDiff, ↓reduceIte] <;> rfl) ⟨rfl, X1⟩)
end Go.Proofs.Ytanmjbkbdmeckaa
/-
  The greatest item of a tree of whatever values, wrapped. No condition.
-/
set_option linter.unusedSimpArgs false
set_option linter.unusedVariables false
namespace Go.Proofs.Ytanmjbkbdmeckaa
open Go Go.Proofs
set_option maxHeartbeats 800000 in
set_option maxRecDepth 8000 in
theorem maxT_any (t B m d : Nat) (iso : Int) (ord : List Int) (xs : List It) (hd : 2 ≤ d) (hd' : d ≤ 128) (F : Nat → Nat → Prop) (w : World) (ht : BAt w t m) (hM : TreeAt B ord w m d iso xs F) :
    CallK Try.prog 76 #[ptr t] w fun v w' => v = itO xs.getLast? ∧ Ext noF w w' := by
  refine calls_of_W [.tmp 2] Try.func76 rfl Try.ntmps76 Try.results76 (by simp) fun e he => ?_
  have e0 : e 0 = ptr t := he 0 _ rfl
  clear he
  refine W_sq fun K hK => (W_text [true] (by kernel_rfl) ?_); simp only [↓List.toList_toArray, ↓rgd, ↓rgf, ↓reduceIte, Nat.reduceEqDiff, rg, ow_76]
  refine hK _ _ ?_; clear hK K
  refine W_sq fun K hK => (W_text [true, true, true, true, false, true, true, true, true, true] (by kernel_rfl) ?_); simp only [↓List.toList_toArray, ↓rgd, ↓rgf, ↓reduceIte, Nat.reduceEqDiff, rg, ow_76, e0, ptr_eq, show rd w t 0 = some (ptr m) from ht]
  refine do_call fn_111 (by simp only [evt, evc, upd_eq, Nat.reduceEqDiff, ↓reduceIte, maT, maC, maN, isnN, isnS] <;> rfl) (maxG_any B m d iso ord xs hd hd' F w hM) ?_
  rintro _ w1 ⟨rfl, h1⟩
  refine ⟨trivial, ?_⟩
  simp only [↓List.toList_toArray, ↓rgd, ↓rgf, ↓reduceIte, Nat.reduceEqDiff, rg, ow_76]
  refine hK _ _ ?_; clear hK K
  refine W_seq ?_
  cases hh : xs.getLast?.isSome with
  | true =>
    refine W_sq fun K hK => (W_text [true, true] (by kernel_rfl) ?_); simp only [↓List.toList_toArray, ↓rgd, ↓rgf, ↓reduceIte, Nat.reduceEqDiff, rg, ow_76, hh]
    refine hK _ _ ?_; clear hK K
    refine W_false (by simp only [evt, evc, upd_eq, Nat.reduceEqDiff, ↓reduceIte, ntT, ntF] <;> rfl) (W_skip ?_)
    show W _ _ _ _ _ _
    refine W_sq fun K hK => (W_text [true, true] (by kernel_rfl) ?_); simp only [↓List.toList_toArray, ↓rgd, ↓rgf, ↓reduceIte, Nat.reduceEqDiff, rg, ow_76]
    refine hK _ _ ?_; clear hK K
    exact W_ret (endQ_1 (by simp only [upd_eq, Nat.reduceEqDiff, ↓reduceIte] <;> rfl) ⟨rfl, h1⟩)
  | false =>
    refine W_sq fun K hK => (W_text [true, true] (by kernel_rfl) ?_); simp only [↓List.toList_toArray, ↓rgd, ↓rgf, ↓reduceIte, Nat.reduceEqDiff, rg, ow_76, hh]
    refine hK _ _ ?_; clear hK K
    refine W_true (by simp only [evt, evc, upd_eq, Nat.reduceEqDiff, ↓reduceIte, ntT, ntF] <;> rfl) ?_
    refine W_sq fun K hK => (W_text [true] (by kernel_rfl) ?_); simp only [↓List.toList_toArray, ↓rgd, ↓rgf, ↓reduceIte, Nat.reduceEqDiff, rg, ow_76]
    refine hK _ _ ?_; clear hK K
    refine W_ret ?_
    simp only [andThen_ret]
    exact endQ_1 (by simp only [upd_eq, Nat.reduceEqDiff, ↓reduceIte] <;> rfl) ⟨(itO_none hh).symm, h1⟩
end Go.Proofs.Ytanmjbkbdmeckaa
/-
  Replies: whatever value was found, as an item and whether there was one. No condition.
-/
set_option linter.unusedSimpArgs false
set_option linter.unusedVariables false
namespace Go.Proofs.Ytanmjbkbdmeckaa
open Go Go.Proofs
def foO (x : Option It) : It × Bool := (x.getD (0, 0), x.isSome)
theorem bu_fo (x : It) : buildV Try.prog 43 [(0, iV x), (1, .bool true)] = some (foV (x, true)) := by kernel_rfl
theorem bu_fo0 : buildV Try.prog 43 [] = some (foV ((0, 0), false)) := by kernel_rfl
theorem oc_fo (x : It × Bool) : oc (foV x).cells.toList := Ef.one x
theorem z_fo : zK Try.prog 43 = some [.int .i64 0, .int .i64 0, .bool false] := by kernel_rfl
theorem ld_fo {w : World} {b : Nat} {x : It × Bool} (h : Row w b 0 (Ef.cel x)) : loadV w ⟨b, 0, none⟩ (some 3) = some (foV x) := h.rdA 3 (by simp [Ef])
set_option maxHeartbeats 800000 in
set_option maxRecDepth 8000 in
theorem found_any (x : Option It) (w : World) : CallK Try.prog 54 #[itO x] w fun v w' => v = foV (foO x) ∧ Ext noF w w' := by
  refine calls_of_W [.cell 2 43] Try.func54 rfl Try.ntmps54 Try.results54 (by simp) fun e he => ?_
  have e0 : e 0 = itO x := he 0 _ rfl
  clear he
  refine W_sq fun K hK => (W_text [false] (by kernel_rfl) ?_); simp only [↓List.toList_toArray, ↓rgd, ↓rgf, ↓reduceIte, Nat.reduceEqDiff, rg, ow_54]
  refine do_alloc z_fo fun w2 n2 => ⟨trivial, ?_⟩
  simp only [↓List.toList_toArray, ↓rgd, ↓rgf, ↓reduceIte, Nat.reduceEqDiff, rg, ow_54]
  refine hK _ _ ?_; clear hK K
  refine W_seq ?_
  cases x with
  | some x =>
    replace e0 : e 0 = itV x := e0
    refine W_sq fun K hK => (W_text [true, true] (by kernel_rfl) ?_); simp only [↓List.toList_toArray, ↓rgd, ↓rgf, ↓reduceIte, Nat.reduceEqDiff, rg, ow_54, e0, eq_any]
    refine hK _ _ ?_; clear hK K
    refine W_false (by simp only [evt, evc, upd_eq, Nat.reduceEqDiff, ↓reduceIte, ntT, ntF] <;> rfl) (W_skip ?_)
    show W _ _ _ _ _ _
    refine W_sq fun K hK => (W_text [true, true, true, false] (by kernel_rfl) ?_); simp only [↓List.toList_toArray, ↓rgd, ↓rgf, ↓reduceIte, Nat.reduceEqDiff, rg, ow_54, e0, tas_any, bu_fo]
    refine do_store (v := foV (x, true)) (by simp only [evt, evc, upd_eq, Nat.reduceEqDiff, ↓reduceIte, ntT, ntF] <;> rfl) (by simp only [evt, evc, upd_eq, Nat.reduceEqDiff, ↓reduceIte, ntT, ntF] <;> rfl) sz_43 rfl n2.wok (by decide) (oc_fo _) fun w3 x3 r3 s3 => ⟨trivial, ?_⟩
    simp only [↓List.toList_toArray, ↓rgd, ↓rgf, ↓reduceIte, Nat.reduceEqDiff, rg, ow_54]
    refine hK _ _ ?_; clear hK K
    refine W_ret ?_
    exact endQ_c (by simp only [upd_eq, Nat.reduceEqDiff, ↓reduceIte]) ld_43 (ld_fo r3) ⟨rfl, noF_of n2.ext x3 fun y o hy h => by simp only [rng] at h; omega⟩
  | none =>
    replace e0 : e 0 = zV := e0
    refine W_sq fun K hK => (W_text [true, true] (by kernel_rfl) ?_); simp only [↓List.toList_toArray, ↓rgd, ↓rgf, ↓reduceIte, Nat.reduceEqDiff, rg, ow_54, e0, eq_anyN]
    refine hK _ _ ?_; clear hK K
    refine W_true (by simp only [evt, evc, upd_eq, Nat.reduceEqDiff, ↓reduceIte, ntT, ntF] <;> rfl) ?_
    refine W_sq fun K hK => (W_text [true, false] (by kernel_rfl) ?_); simp only [↓List.toList_toArray, ↓rgd, ↓rgf, ↓reduceIte, Nat.reduceEqDiff, rg, ow_54, bu_fo0]
    refine do_store (v := foV ((0, 0), false)) (by simp only [evt, evc, upd_eq, Nat.reduceEqDiff, ↓reduceIte, ntT, ntF] <;> rfl) (by simp only [evt, evc, upd_eq, Nat.reduceEqDiff, ↓reduceIte, ntT, ntF] <;> rfl) sz_43 rfl n2.wok (by decide) (oc_fo _) fun w3 x3 r3 s3 => ⟨trivial, ?_⟩
    simp only [↓List.toList_toArray, ↓rgd, ↓rgf, ↓reduceIte, Nat.reduceEqDiff, rg, ow_54]
    refine hK _ _ ?_; clear hK K
    refine W_ret ?_
    simp only [andThen_ret]
    exact endQ_c (by simp only [upd_eq, Nat.reduceEqDiff, ↓reduceIte]) ld_43 (ld_fo r3) ⟨rfl, noF_of n2.ext x3 fun y o hy h => by simp only [rng] at h; omega⟩
end Go.Proofs.Ytanmjbkbdmeckaa
/-
  What is found at an index; a list with an element taken away. No condition.
-/
set_option linter.unusedSimpArgs false
set_option linter.unusedVariables false
namespace Go.Proofs.Ytanmjbkbdmeckaa
open Go Go.Proofs
theorem ni_i : noInt Try.prog 25 = true := by kernel_rfl
/-- The item at an index, and whether there is one. -/
def nth (l : List It) (i : Int) : Option It := if 0 ≤ i then l[i.toNat]? else none
theorem nth_none {xs : List It} {i : Int} (h : i < 0 ∨ (xs.length : Int) ≤ i) : nth xs i = none := by
  unfold nth
  split
  · exact List.getElem?_eq_none (by omega)
  · rfl
theorem bu_fo1 (x : It) : buildV Try.prog 43 [(0, iV x), (1, .bool true)] = some (foV (x, true)) := bu_fo x
/-- A list without an item, and the item. -/
def cutL (l : List It) (i : Int) : List It := if 0 ≤ i then l.eraseIdx i.toNat else l
theorem cutL_out {l : List It} {i : Int} (h : i < 0 ∨ (l.length : Int) ≤ i) : cutL l i = l := by
  unfold cutL
  split
  · exact List.eraseIdx_of_length_le (by omega)
  · rfl
set_option maxHeartbeats 1000000 in
set_option maxRecDepth 8000 in
theorem cut_any (l : List It) (lv : Value) (ix : Int) (w : World) (hl : SlI w lv l) (hbig : l.length ≤ 2147483648) :
    CallK Try.prog 110 #[lv, .int .i64 ix] w fun v w' => ∃ sv, v = .tuple #[sv, foV (foO (nth l ix))] ∧ SlI w' sv (cutL l ix) ∧ Ext noF w w' := by
  obtain ⟨a, c, hlv⟩ := hl.shape
  refine calls_of_W [.tmp 4, .cell 5 43] Try.func110 rfl Try.ntmps110 Try.results110 (by simp) fun e he => ?_
  have e0 : e 0 = .slice a l.length c := by rw [← hlv]; exact he 0 _ rfl
  have e1 : e 1 = .int .i64 ix := he 1 _ rfl
  clear he
  refine W_sq fun K hK => (W_text [true, false] (by kernel_rfl) ?_); simp only [↓List.toList_toArray, ↓rgd, ↓rgf, ↓reduceIte, Nat.reduceEqDiff, rg, ow_110]
  refine do_alloc z_fo fun w1 n1 => ⟨trivial, ?_⟩
  simp only [↓List.toList_toArray, ↓rgd, ↓rgf, ↓reduceIte, Nat.reduceEqDiff, rg, ow_110]
  refine hK _ _ ?_; clear hK K
  have s1 := n1.size
  have out : (ix < 0 ∨ (l.length : Int) ≤ ix) → nth l ix = none ∧ cutL l ix = l := fun h => ⟨nth_none h, cutL_out h⟩
  refine W_seq ?_
  by_cases h1 : ix < 0
  · have t1 : decide (ix < 0) = true := by simp [h1]
    refine W_sq fun K hK => (W_text [true, true, true, true, true, true, true, true] (by kernel_rfl) ?_); simp only [↓List.toList_toArray, ↓rgd, ↓rgf, ↓reduceIte, Nat.reduceEqDiff, rg, ow_110, e0, e1, t1]
    refine hK _ _ ?_; clear hK K
    refine W_true (by simp only [evt, evc, upd_eq, Nat.reduceEqDiff, ↓reduceIte, ntT, ntF] <;> rfl) ?_
    refine W_sq fun K hK => (W_text [true, true, true, false] (by kernel_rfl) ?_); simp only [↓List.toList_toArray, ↓rgd, ↓rgf, ↓reduceIte, Nat.reduceEqDiff, rg, ow_110, e0, bu_fo0]
    refine do_store (v := foV ((0, 0), false)) (by simp only [evt, evc, upd_eq, Nat.reduceEqDiff, ↓reduceIte, ntT, ntF] <;> rfl) (by simp only [evt, evc, upd_eq, Nat.reduceEqDiff, ↓reduceIte, ntT, ntF] <;> rfl) sz_43 rfl n1.wok (by decide) (oc_fo _) fun w3 x3 r3 s3 => ⟨trivial, ?_⟩
    simp only [↓List.toList_toArray, ↓rgd, ↓rgf, ↓reduceIte, Nat.reduceEqDiff, rg, ow_110]
    refine hK _ _ ?_; clear hK K
    refine W_ret ?_
    simp only [andThen_ret]
    have X3 := noF_of n1.ext x3 fun y o hy h => by simp only [rng] at h; omega
    rw [(out (.inl h1)).1, (out (.inl h1)).2]
    exact endQ_tc (by simp only [upd_eq, Nat.reduceEqDiff, ↓reduceIte] <;> rfl) (by simp only [upd_eq, Nat.reduceEqDiff, ↓reduceIte]) ld_43 (ld_fo r3) ⟨_, rfl, by rw [← hlv]; exact hl.ext0 X3, X3⟩
  have t1 : decide (ix < 0) = false := by simp; omega
  by_cases h2 : (l.length : Int) ≤ ix
  · have t2 : decide ((l.length : Int) ≤ ix) = true := by simp [h2]
    refine W_sq fun K hK => (W_text [true, true, true, true, true, true, true, true] (by kernel_rfl) ?_); simp only [↓List.toList_toArray, ↓rgd, ↓rgf, ↓reduceIte, Nat.reduceEqDiff, rg, ow_110, e0, e1, t1, t2]
    refine hK _ _ ?_; clear hK K
    refine W_true (by simp only [evt, evc, upd_eq, Nat.reduceEqDiff, ↓reduceIte, ntT, ntF] <;> rfl) ?_
    refine W_sq fun K hK => (W_text [true, true, true, false] (by kernel_rfl) ?_); simp only [↓List.toList_toArray, ↓rgd, ↓rgf, ↓reduceIte, Nat.reduceEqDiff, rg, ow_110, e0, bu_fo0]
    refine do_store (v := foV ((0, 0), false)) (by simp only [evt, evc, upd_eq, Nat.reduceEqDiff, ↓reduceIte, ntT, ntF] <;> rfl) (by simp only [evt, evc, upd_eq, Nat.reduceEqDiff, ↓reduceIte, ntT, ntF] <;> rfl) sz_43 rfl n1.wok (by decide) (oc_fo _) fun w3 x3 r3 s3 => ⟨trivial, ?_⟩
    simp only [↓List.toList_toArray, ↓rgd, ↓rgf, ↓reduceIte, Nat.reduceEqDiff, rg, ow_110]
    refine hK _ _ ?_; clear hK K
    refine W_ret ?_
    simp only [andThen_ret]
    have X3 := noF_of n1.ext x3 fun y o hy h => by simp only [rng] at h; omega
    rw [(out (.inr h2)).1, (out (.inr h2)).2]
    exact endQ_tc (by simp only [upd_eq, Nat.reduceEqDiff, ↓reduceIte] <;> rfl) (by simp only [upd_eq, Nat.reduceEqDiff, ↓reduceIte]) ld_43 (ld_fo r3) ⟨_, rfl, by rw [← hlv]; exact hl.ext0 X3, X3⟩
  have t2 : decide ((l.length : Int) ≤ ix) = false := by simp; omega
  refine W_sq fun K hK => (W_text [true, true, true, true, true, true, true, true] (by kernel_rfl) ?_); simp only [↓List.toList_toArray, ↓rgd, ↓rgf, ↓reduceIte, Nat.reduceEqDiff, rg, ow_110, e0, e1, t1, t2]
  refine hK _ _ ?_; clear hK K
  refine W_false (by simp only [evt, evc, upd_eq, Nat.reduceEqDiff, ↓reduceIte, ntT, ntF] <;> rfl) (W_skip ?_)
  show W _ _ _ _ _ _
  obtain ⟨i, rfl⟩ : ∃ i : Nat, ix = i := ⟨ix.toNat, by omega⟩
  have hi : i < l.length := by omega
  obtain ⟨x, hx⟩ : ∃ x, l[i]? = some x := ⟨_, List.getElem?_eq_getElem hi⟩
  have hn : nth l (i : Int) = some x := by simp [nth, hx]
  obtain ⟨sv1, hs1, hsl1⟩ := sl_hi (hl.ext0 n1.ext) i (by omega)
  obtain ⟨sv2, hs2, hsl2⟩ := sl_lo (hl.ext0 n1.ext) (i + 1) (by omega)
  rw [hlv] at hs1 hs2
  have q1 := wadd1 i (by omega)
  obtain ⟨lb, lo, rfl, row⟩ := (hl.ext0 n1.ext).at hlv hi
  have ixx := iV_at row hx
  have hlb : lb < w1.heap.size := (hl.ext0 n1.ext).lt hlv
  have M1 : readsB (some (some [lb])) lb = true := by simp [readsB]
  refine W_sq fun K hK => (W_draw (some (some [lb])) (some 16) [(0, 1, 0), (0, 2, 0), (0, 3, 0), (0, 5, 0), (0, 6, 0), (0, 7, 0), (0, 8, 0), (0, 10, 0), (0, 11, 0), (0, 12, 0), (0, 13, 0), (0, 14, 0), (1, 0, 0), (1, 4, 0), (1, 9, 0), (0, 15, 0), (1, 16, 0)] mixed (by kernel_rfl) ?_); simp only [↓List.toList_toArray, ↓rgd, ↓rgf, ↓reduceIte, Nat.reduceEqDiff, rg, ow_110, e0, e1, hs1, hs2, q1, hi, ixx, bu_fo1, M1]
  refine do_bsl rfl bs_i0 fun w2 n2 => ⟨.inr (keeps_on n2.ext fun y hy => ⟨?_, fun _ h => h⟩), ?_⟩
  · rw [sz_dr]
    simp only [List.mem_cons, List.not_mem_nil, or_false] at hy
    omega
  simp only [↓List.toList_toArray, ↓rgd, ↓rgf, ↓reduceIte, Nat.reduceEqDiff, rg, ow_110, e0, e1, hs1, hs2, q1, hi, ixx, bu_fo1]
  have n2 := n2.od
  have s2 := n2.size
  have hv2 : SlV w2 2 (.slice (some ⟨w1.heap.size, 0, none⟩) 0 0) 0 [] := ⟨rfl, .inr ⟨_, 0, 0, rfl, Nat.le_refl _, Row.nil _ _ _, n2.wok.R (Nat.le_refl _)⟩⟩
  refine do_append (by simp only [evt, evc, upd_eq, Nat.reduceEqDiff, ↓reduceIte, ntT, ntF] <;> rfl) (by simp only [evt, evc, upd_eq, Nat.reduceEqDiff, ↓reduceIte, ntT, ntF] <;> rfl) el_i rfl ni_i hv2 (hsl1.ext0 n2.ext) (by omega) (by decide) (flat_oc Ei _) fun v3 w3 a3 => ?_
  obtain ⟨hS3, hg3, x3⟩ := app_since (B := w1.heap.size) a3 (fun b o n c h => by simp only [Value.slice.injEq, Option.some.injEq, Addr.mk.injEq] at h; omega) (by omega)
  refine ⟨.inr (keeps_on x3 fun y hy => ?_), ?_⟩
  · simp only [List.mem_cons, List.not_mem_nil, or_false] at hy
    exact ⟨by omega, fun o h => by omega⟩
  simp only [↓List.toList_toArray, ↓rgd, ↓rgf, ↓reduceIte, Nat.reduceEqDiff, rg, ow_110, e0, e1, hs1, hs2, q1, hi, ixx, bu_fo1]
  have s3 := x3.size
  have hsl2' : SlV w3 2 sv2 (l.length - (i + 1)) (flat Ei (l.drop (i + 1))) := (hsl2.ext0 n2.ext).ext x3 fun b o c h k hk g => by
    have := hsl2.lt h
    omega
  refine do_append (by simp only [evt, evc, upd_eq, Nat.reduceEqDiff, ↓reduceIte, ntT, ntF] <;> rfl) (by simp only [evt, evc, upd_eq, Nat.reduceEqDiff, ↓reduceIte, ntT, ntF] <;> rfl) el_i rfl ni_i hS3 hsl2' (by omega) (by decide) (flat_oc Ei _) fun v4 w4 a4 => ?_
  obtain ⟨hS4, hg4, x4⟩ := app_since (B := w1.heap.size) a4 hg3 (by omega)
  refine ⟨.inr (keeps_on x4 fun y hy => ?_), ?_⟩
  · simp only [List.mem_cons, List.not_mem_nil, or_false] at hy
    exact ⟨by omega, fun o h => by omega⟩
  simp only [↓List.toList_toArray, ↓rgd, ↓rgf, ↓reduceIte, Nat.reduceEqDiff, rg, ow_110, e0, e1, hs1, hs2, q1, hi, ixx, bu_fo1]
  have s4 := x4.size
  have X4 : Ext (fun y _ => w.heap.size ≤ y) w w4 := ((n1.ext.mono (G := fun y _ => w.heap.size ≤ y) fun _ _ _ h => h.elim).tr (n2.ext.mono fun _ _ _ h => h.elim)).tr ((x3.tr x4).mono fun y o _ h => by omega)
  refine do_store (v := foV (x, true)) (by simp only [evt, evc, upd_eq, Nat.reduceEqDiff, ↓reduceIte, ntT, ntF] <;> rfl) (by simp only [evt, evc, upd_eq, Nat.reduceEqDiff, ↓reduceIte, ntT, ntF] <;> rfl) sz_43 rfl (x4.wok (x3.wok (n2.ext.wok n1.wok))) (by decide) (oc_fo _) fun w5 x5 r5 s5 => ⟨.inl trivial, ?_⟩
  simp only [↓List.toList_toArray, ↓rgd, ↓rgf, ↓reduceIte, Nat.reduceEqDiff, rg, ow_110]
  refine hK _ _ ?_; clear hK K
  refine W_ret ?_
  rw [hn]
  refine endQ_tc (by simp only [upd_eq, Nat.reduceEqDiff, ↓reduceIte] <;> rfl) (by simp only [upd_eq, Nat.reduceEqDiff, ↓reduceIte]) ld_43 (ld_fo r5) ⟨_, rfl, ?_, noF_of (Ext.refl _ _) (X4.tr (x5.mono fun y o _ h => by simp only [rng] at h; show w.heap.size ≤ y; omega)) fun y o hy h => by omega⟩
  have he : cutL l (i : Int) = l.take i ++ l.drop (i + 1) := by simp [cutL, List.eraseIdx_eq_take_drop_succ]
  have hln : (cutL l (i : Int)).length = 0 + i + (l.length - (i + 1)) := by rw [he, List.length_append, List.length_take, List.length_drop]; omega
  rw [SlI, hln, he, flat_append]
  have := hS4.ext x5 fun b o c h k hk g => by
    have := hg4 _ _ _ _ h
    simp only [rng] at g
    omega
  simpa using this
set_option maxHeartbeats 400000 in
set_option maxRecDepth 8000 in
theorem sat_any (l : List It) (lv : Value) (ix : Int) (w : World) (hl : SlI w lv l) (hbig : l.length ≤ 2147483648) :
    CallK Try.prog 77 #[lv, .int .i64 ix] w fun v w' => v = foV (foO (nth l ix)) ∧ Ext noF w w' := by
  refine calls_of_W [.cell 4 43] Try.func77 rfl Try.ntmps77 Try.results77 (by simp) fun e he => ?_
  have e0 : e 0 = lv := he 0 _ rfl
  have e1 : e 1 = .int .i64 ix := he 1 _ rfl
  clear he
  refine W_sq fun K hK => (W_text [false] (by kernel_rfl) ?_); simp only [↓List.toList_toArray, ↓rgd, ↓rgf, ↓reduceIte, Nat.reduceEqDiff, rg, ow_77]
  refine do_alloc z_fo fun w1 n1 => ⟨trivial, ?_⟩
  simp only [↓List.toList_toArray, ↓rgd, ↓rgf, ↓reduceIte, Nat.reduceEqDiff, rg, ow_77]
  refine hK _ _ ?_; clear hK K
  have s1 := n1.size
  refine W_sq fun K hK => (W_text [true, true, false, true, true, true, false, true, false] (by kernel_rfl) ?_); simp only [↓List.toList_toArray, ↓rgd, ↓rgf, ↓reduceIte, Nat.reduceEqDiff, rg, ow_77, e0, e1]
  refine do_call fn_110 (by simp only [evt, evc, upd_eq, Nat.reduceEqDiff, ↓reduceIte, maT, maC, maN, isnN, isnS] <;> rfl) (cut_any l lv ix w1 (hl.ext0 n1.ext) hbig) ?_
  rintro _ w2 ⟨sv, rfl, _, X2⟩
  refine ⟨trivial, ?_⟩
  simp only [↓List.toList_toArray, ↓rgd, ↓rgf, ↓reduceIte, Nat.reduceEqDiff, rg, ow_77]
  refine do_alloc z_fo fun w3 n3 => ⟨trivial, ?_⟩
  simp only [↓List.toList_toArray, ↓rgd, ↓rgf, ↓reduceIte, Nat.reduceEqDiff, rg, ow_77]
  have s2 := X2.size
  have s3 := n3.size
  refine do_store (v := foV (foO (nth l ix))) (by simp only [evt, evc, upd_eq, Nat.reduceEqDiff, ↓reduceIte, ntT, ntF] <;> rfl) (by simp only [evt, evc, upd_eq, Nat.reduceEqDiff, ↓reduceIte, ntT, ntF] <;> rfl) sz_43 rfl n3.wok (by decide) (oc_fo _) fun w4 x4 r4 s4 => ⟨trivial, ?_⟩
  simp only [↓List.toList_toArray, ↓rgd, ↓rgf, ↓reduceIte, Nat.reduceEqDiff, rg, ow_77]
  refine hK _ _ ?_; clear hK K
  have ld : rdA w4 w2.heap.size 0 3 = some (foV (foO (nth l ix))) := (show Row w4 w2.heap.size 0 (Ef.cel (foO (nth l ix))) from r4).rdA 3 (by simp [Ef])
  refine W_sq fun K hK => (W_text [true, false] (by kernel_rfl) ?_); simp only [↓List.toList_toArray, ↓rgd, ↓rgf, ↓reduceIte, Nat.reduceEqDiff, rg, ow_77, ld]
  refine do_store (v := foV (foO (nth l ix))) (by simp only [evt, evc, upd_eq, Nat.reduceEqDiff, ↓reduceIte, ntT, ntF] <;> rfl) (by simp only [evt, evc, upd_eq, Nat.reduceEqDiff, ↓reduceIte, ntT, ntF] <;> rfl) sz_43 rfl (x4.wok (n3.ext.wok (X2.wok n1.wok))) (by decide) (oc_fo _) fun w5 x5 r5 s5 => ⟨trivial, ?_⟩
  simp only [↓List.toList_toArray, ↓rgd, ↓rgf, ↓reduceIte, Nat.reduceEqDiff, rg, ow_77]
  refine hK _ _ ?_; clear hK K
  refine W_ret ?_
  refine endQ_c (by simp only [upd_eq, Nat.reduceEqDiff, ↓reduceIte]) ld_43 (ld_fo r5) ⟨rfl, ?_⟩
  have X4 : Ext noF w w4 := noF_of ((n1.ext.tr X2).tr n3.ext) x4 fun y o hy h => by simp only [rng] at h; omega
  exact noF_of X4 x5 fun y o hy h => by simp only [rng] at h; omega
end Go.Proofs.Ytanmjbkbdmeckaa
/-
  Replies kept in a list. No condition.
-/
set_option linter.unusedSimpArgs false
set_option linter.unusedVariables false
namespace Go.Proofs.Ytanmjbkbdmeckaa
open Go Go.Proofs
theorem nth_first (l : List It) : nth l 0 = l.head? := by
  unfold nth
  rw [if_pos (Int.le_refl _), List.head?_eq_getElem?]
  rfl
theorem el_fo : elK Try.prog 38 = some (43, 3, 24, [.int .i64 0, .int .i64 0, .bool false]) := by kernel_rfl
theorem ni_fo : noInt Try.prog 38 = true := by kernel_rfl
theorem bs_fo1 (x : It × Bool) : bsV Try.prog 38 1 [(0, foV x)] = some (43, Ef.cel x) := by kernel_rfl
/-- A list that is made of replies, in new memory. -/
structure Outs (B : Nat) (v : Value) (l : List (It × Bool)) (w : World) : Prop where
  sl : SlV w 3 v l.length (flat Ef l)
  si : since B v
theorem Outs.ext {B : Nat} {v : Value} {l : List (It × Bool)} {w w' : World} (h : Outs B v l w) (x : Ext noF w w') : Outs B v l w' := ⟨h.sl.ext0 x, h.si⟩
theorem Outs.nil (B : Nat) (w : World) : Outs B (.slice none 0 0) [] w := ⟨⟨rfl, .inl ⟨rfl, rfl⟩⟩, fun b o n c h => by cases h⟩
theorem Outs.app {B : Nat} {v v' : Value} {l : List (It × Bool)} {x : It × Bool} {w w' : World} (h : Outs B v l w) (a : AppRes w 3 v l.length 1 (flat Ef l) (Ef.cel x) v' w') (hB : B ≤ w.heap.size) : Outs B v' (l ++ [x]) w' ∧ Ext (fun y _ => B ≤ y) w w' := by
  obtain ⟨h1, h2, h3⟩ := app_since a h.si hB
  refine ⟨⟨?_, h2⟩, h3⟩
  rw [List.length_append, List.length_singleton, flat_append, flat_one]
  exact h1
theorem Outs.extB {B : Nat} {v : Value} {l : List (It × Bool)} {w w' : World} {G : Nat → Nat → Prop} (h : Outs B v l w) (x : Ext G w w') (hG : ∀ y o, G y o → y < B) : Outs B v l w' :=
  ⟨h.sl.ext x fun b o cap hv j _ g => by have := h.si _ _ _ _ hv; have := hG _ _ g; omega, h.si⟩
theorem take_snoc {α : Type} {l : List α} {i : Nat} {x : α} (h : l[i]? = some x) : l.take (i + 1) = l.take i ++ [x] := by rw [List.take_add_one, h]; rfl
end Go.Proofs.Ytanmjbkbdmeckaa
/-
  Handing on the items of a tree in their order. No condition.
-/
set_option linter.unusedSimpArgs false
set_option linter.unusedVariables false
namespace Go.Proofs.Ytanmjbkbdmeckaa
open Go Go.Proofs
/-- A function that is handed items: S says what the world is behind the items that were handed on; go tells whether it wants more; it changes nothing outside G. -/
def Cb (f : Value) (G : Nat → Nat → Prop) (S : List It → World → Prop) (go : List It → Bool) : Prop :=
  (∃ g first cap, f = .func (.func g) first cap ∧ isFn Try.prog g = true ∧ ∀ done x w, S done w → done.length < 4294967295 →
    CallK Try.prog g (first ++ #[itV x] ++ cap) w fun v w' => v = .bool (go (done ++ [x])) ∧ S (done ++ [x]) w' ∧ Ext G w w') ∧
  ∀ done w w', S done w → Ext noF w w' → S done w'
set_option maxHeartbeats 400000 in
set_option maxRecDepth 8000 in
theorem nodeScan_any (m : Nat) (iso : Int) (mn mx : Nat) (f : Value) (G : Nat → Nat → Prop) (S : List It → World → Prop) (go : List It → Bool) (C : Cb f G S go) (hm : ∀ o, ¬ G m o) (mu : Bool) :
    ∀ (h b lo pc po : Nat) (xs : List It) (F : Nat → Nat → Prop) (done : List It) (w : World), Tr E iso mn mx h w lo b xs F → rd w m 0 = some (.int .u64 iso) → rd w pc po = some (ptr b) → (∀ y o o', F y o → ¬ G y o') → S done w →
      done.length + xs.length ≤ 4294967295 →
    CallK Try.prog 163 #[ptr m, .pointer (some ⟨pc, po, none⟩), f, .bool mu] w fun v w' => v = .bool (hand go done xs).2 ∧ S (hand go done xs).1 w' ∧ Ext G w w' := by
  obtain ⟨⟨g, first, cap0, rfl, hg, hcall⟩, hSx⟩ := C
  intro h
  induction h with
  | zero =>
    intro b lo pc po xs F done w ht h0 hp hG hS hbig
    obtain ⟨bi, oi, cap, ho, h1, h2, hF⟩ := ht
    refine calls_of_W [.tmp 8] Try.func163 rfl Try.ntmps163 Try.results163 (by simp) fun e he => ?_
    have e0 : e 0 = ptr m := he 0 _ rfl
    have e1 : e 1 = .pointer (some ⟨pc, po, none⟩) := he 1 _ rfl
    have e2 : e 2 = .func (.func g) first cap0 := he 2 _ rfl
    have e3 : e 3 = .bool mu := he 3 _ rfl
    clear he
    refine W_sq fun K hK => (W_text [true] (by kernel_rfl) ?_); simp only [↓List.toList_toArray, ↓rgd, ↓rgf, ↓reduceIte, Nat.reduceEqDiff, rg, ow_163]
    refine hK _ _ ?_; clear hK K
    refine W_sq fun K hK => (W_text [true, true, true, false, true] (by kernel_rfl) ?_); simp only [↓List.toList_toArray, ↓rgd, ↓rgf, ↓reduceIte, Nat.reduceEqDiff, rg, ow_163, e0, e1, e3]
    refine do_call fn_121 (by simp only [evt, evc, upd_eq, Nat.reduceEqDiff, ↓reduceIte, maT, maC, maN, isnN, isnS] <;> rfl) (isoLoad_any m pc po b mu iso w h0 hp ho.h0) ?_
    rintro _ w1 ⟨rfl, r1⟩
    refine ⟨trivial, ?_⟩
    simp only [↓List.toList_toArray, ↓rgd, ↓rgf, ↓reduceIte, Nat.reduceEqDiff, rg, ow_163]
    refine hK _ _ ?_; clear hK K
    have x1 : Ext noF w w1 := r1.ext
    have o1 := ho.ext x1 fun _ _ _ h => h
    have S1 := hSx _ _ _ hS x1
    refine W_seq ?_
    refine W_sq fun K hK => (W_text [true, false] (by kernel_rfl) ?_); simp only [↓List.toList_toArray, ↓rgd, ↓rgf, ↓reduceIte, Nat.reduceEqDiff, rg, ow_163]
    refine do_call fn_122 (by simp only [evt, evc, upd_eq, Nat.reduceEqDiff, ↓reduceIte, maT, maC, maN, isnN, isnS] <;> rfl) (leaf_any b none w1 o1.h3) ?_
    rintro _ _ ⟨rfl, rfl⟩
    refine ⟨trivial, ?_⟩
    simp only [↓List.toList_toArray, ↓rgd, ↓rgf, ↓reduceIte, Nat.reduceEqDiff, rg, ow_163]
    refine hK _ _ ?_; clear hK K
    refine W_true (by simp only [evt, evc, upd_eq, Nat.reduceEqDiff, ↓reduceIte, ntT, ntF] <;> rfl) (W_seq ?_)
    refine W_sq fun K hK => (W_text [true] (by kernel_rfl) ?_); simp only [↓List.toList_toArray, ↓rgd, ↓rgf, ↓reduceIte, Nat.reduceEqDiff, rg, ow_163]
    refine hK _ _ ?_; clear hK K
    refine W_block (W_loop (fun mm e w' => ∃ (i : Nat) (d : List It), mm = xs.length - i ∧ i ≤ xs.length ∧ hand go done xs = hand go d (xs.drop i) ∧ d.length + (xs.length - i) ≤ 4294967295 ∧ S d w' ∧ Ext G w w' ∧ e 2 = .func (.func g) first cap0 ∧ e 9 = ptr b ∧ e 10 = .int .i64 i)
      xs.length ⟨0, done, by simp, by simp, by simp, by omega, S1, x1.mono fun _ _ _ h => h.elim, ?_, ?_, ?_⟩ ?_)
    · simp only [upd_eq, Nat.reduceEqDiff, ↓reduceIte]; exact e2
    · simp only [upd_eq, Nat.reduceEqDiff, ↓reduceIte]
    · simp only [upd_eq, Nat.reduceEqDiff, ↓reduceIte]; rfl
    · clear e0 e1 e2 e3 e S1 o1
      rintro mm e w' ⟨i, d, rfl, hi, hh, hdl, hS', X, e2, e9, e10⟩
      have o' := ho.ext X fun y o h => hG y o o ((hF y o).2 h)
      have hb2 := o'.h2
      refine W_seq ?_
      by_cases hlt : i < xs.length
      · have ht := lt_tt i xs.length hlt
        refine W_sq fun K hK => (W_text [true, true, true, true, true, true, true] (by kernel_rfl) ?_); simp only [↓List.toList_toArray, ↓rgd, ↓rgf, ↓reduceIte, Nat.reduceEqDiff, rg, ow_163, e9, e10, ptr_eq, hb2, ht]
        refine hK _ _ ?_; clear hK K
        refine W_true (by simp only [evt, evc, upd_eq, Nat.reduceEqDiff, ↓reduceIte, ntT, ntF] <;> rfl) (W_skip ?_)
        show W _ _ _ _ _ _
        refine W_seq (W_block ?_)
        obtain ⟨x, hx⟩ : ∃ x, xs[i]? = some x := ⟨_, List.getElem?_eq_getElem hlt⟩
        have hk := it_at o'.row hx
        have hd : xs.drop i = x :: xs.drop (i + 1) := by rw [List.drop_eq_getElem_cons hlt, (List.getElem?_eq_some_iff.1 hx).2]
        refine W_sq fun K hK => (W_text [true, true, true, true, true, true, true, true, false, true] (by kernel_rfl) ?_); simp only [↓List.toList_toArray, ↓rgd, ↓rgf, ↓reduceIte, Nat.reduceEqDiff, rg, ow_163, e2, e9, e10, ptr_eq, hb2, hlt, hk]
        refine do_callv (by simp only [evt, evc, upd_eq, Nat.reduceEqDiff, ↓reduceIte, ntT, ntF] <;> rfl) hg rfl (by simp only [evt, upd_eq, Nat.reduceEqDiff, ↓reduceIte, maT, maC, maN]; exact hcall d x _ hS' (by omega)) ?_
        rintro _ w2 ⟨rfl, hS2, x2⟩
        refine ⟨trivial, ?_⟩
        simp only [↓List.toList_toArray, ↓rgd, ↓rgf, ↓reduceIte, Nat.reduceEqDiff, rg, ow_163]
        refine hK _ _ ?_; clear hK K
        cases hgo : go (d ++ [x]) with
        | true =>
          refine W_false (by simp only [evt, evc, upd_eq, Nat.reduceEqDiff, ↓reduceIte, ntT, ntF] <;> rfl) (W_skip ?_)
          show W _ _ _ _ _ _
          have q1 := wadd1 i (by omega)
          refine W_rg fun K hK => (W_text [true, true, true] (by kernel_rfl) ?_); simp only [↓List.toList_toArray, ↓rgd, ↓rgf, ↓reduceIte, Nat.reduceEqDiff, rg, ow_163, e10, q1]
          refine hK _ _ ?_; clear hK K
          refine ⟨_, ?_, i + 1, d ++ [x], rfl, hlt, by rw [hh, hd, hand_yes go hgo], by simp; omega, hS2, X.tr x2, ?_, ?_, ?_⟩
          · omega
          · simp only [upd_eq, Nat.reduceEqDiff, ↓reduceIte]; exact e2
          · simp only [upd_eq, Nat.reduceEqDiff, ↓reduceIte]; exact e9
          · simp only [upd_eq, Nat.reduceEqDiff, ↓reduceIte]
        | false =>
          refine W_true (by simp only [evt, evc, upd_eq, Nat.reduceEqDiff, ↓reduceIte, ntT, ntF] <;> rfl) ?_
          refine W_sq fun K hK => (W_text [true] (by kernel_rfl) ?_); simp only [↓List.toList_toArray, ↓rgd, ↓rgf, ↓reduceIte, Nat.reduceEqDiff, rg, ow_163]
          refine hK _ _ ?_; clear hK K
          refine W_ret ?_
          simp only [andThen_ret, inBlk_ret]
          refine endQ_1 (by simp only [upd_eq, Nat.reduceEqDiff, ↓reduceIte] <;> rfl) ?_
          rw [hh, hd, hand_no go hgo]
          exact ⟨rfl, hS2, X.tr x2⟩
      · obtain rfl : i = xs.length := by omega
        have ht := lt_ff xs.length xs.length (by omega)
        refine W_sq fun K hK => (W_text [true, true, true, true, true, true, true] (by kernel_rfl) ?_); simp only [↓List.toList_toArray, ↓rgd, ↓rgf, ↓reduceIte, Nat.reduceEqDiff, rg, ow_163, e9, e10, ptr_eq, hb2, ht]
        refine hK _ _ ?_; clear hK K
        refine W_false (by simp only [evt, evc, upd_eq, Nat.reduceEqDiff, ↓reduceIte, ntT, ntF] <;> rfl) (W_exit ?_)
        simp only [andThen_exit, inBlk_exit, ↓reduceIte]
        show W _ _ _ _ _ _
        refine W_sq fun K hK => (W_text [true] (by kernel_rfl) ?_); simp only [↓List.toList_toArray, ↓rgd, ↓rgf, ↓reduceIte, Nat.reduceEqDiff, rg, ow_163]
        refine hK _ _ ?_; clear hK K
        refine W_ret ?_
        simp only [andThen_ret]
        refine endQ_1 (by simp only [upd_eq, Nat.reduceEqDiff, ↓reduceIte] <;> rfl) ?_
        rw [hh, List.drop_length, hand_nil]
        exact ⟨rfl, hS', X⟩
  | succ h ih =>
    intro b lo pc po xs F done w ht h0 hp hG hS hbig
    obtain ⟨bi, oi, cap, bc, ba, oa, capc, ks, cs, ho, hk, h1, h2, hcs, rfl, hT, hA, hF⟩ := ht
    have hGo : ∀ y o, ownF E b bi oi cap y o → ∀ o', ¬ G y o' := fun y o g o' => hG y o o' ((hF y o).2 (.inl g))
    have hGk : ∀ y o, kidF bc ba oa capc y o → ∀ o', ¬ G y o' := fun y o g o' => hG y o o' ((hF y o).2 (.inr (.inl g)))
    have hGc : ∀ c ∈ cs, ∀ y o o', c.F y o → ¬ G y o' := fun c hc y o o' g => hG y o o' ((hF y o).2 (.inr (.inr ⟨c, hc, g⟩)))
    have hwl := weave_length (cs.map Kid.xs) ks (by simpa using hcs)
    have hks : ks.length < 4611686018427387904 := by omega
    refine calls_of_W [.tmp 8] Try.func163 rfl Try.ntmps163 Try.results163 (by simp) fun e he => ?_
    have e0 : e 0 = ptr m := he 0 _ rfl
    have e1 : e 1 = .pointer (some ⟨pc, po, none⟩) := he 1 _ rfl
    have e2 : e 2 = .func (.func g) first cap0 := he 2 _ rfl
    have e3 : e 3 = .bool mu := he 3 _ rfl
    clear he
    refine W_sq fun K hK => (W_text [true] (by kernel_rfl) ?_); simp only [↓List.toList_toArray, ↓rgd, ↓rgf, ↓reduceIte, Nat.reduceEqDiff, rg, ow_163]
    refine hK _ _ ?_; clear hK K
    refine W_sq fun K hK => (W_text [true, true, true, false, true] (by kernel_rfl) ?_); simp only [↓List.toList_toArray, ↓rgd, ↓rgf, ↓reduceIte, Nat.reduceEqDiff, rg, ow_163, e0, e1, e3]
    refine do_call fn_121 (by simp only [evt, evc, upd_eq, Nat.reduceEqDiff, ↓reduceIte, maT, maC, maN, isnN, isnS] <;> rfl) (isoLoad_any m pc po b mu iso w h0 hp ho.h0) ?_
    rintro _ w1 ⟨rfl, r1⟩
    refine ⟨trivial, ?_⟩
    simp only [↓List.toList_toArray, ↓rgd, ↓rgf, ↓reduceIte, Nat.reduceEqDiff, rg, ow_163]
    refine hK _ _ ?_; clear hK K
    have x1 : Ext noF w w1 := r1.ext
    have o1 := ho.ext x1 fun _ _ _ h => h
    have S1 := hSx _ _ _ hS x1
    refine W_seq ?_
    refine W_sq fun K hK => (W_text [true, false] (by kernel_rfl) ?_); simp only [↓List.toList_toArray, ↓rgd, ↓rgf, ↓reduceIte, Nat.reduceEqDiff, rg, ow_163]
    refine do_call fn_122 (by simp only [evt, evc, upd_eq, Nat.reduceEqDiff, ↓reduceIte, maT, maC, maN, isnN, isnS] <;> rfl) (leaf_any b (some ⟨bc, 0, none⟩) w1 o1.h3) ?_
    rintro _ _ ⟨rfl, rfl⟩
    refine ⟨trivial, ?_⟩
    simp only [↓List.toList_toArray, ↓rgd, ↓rgf, ↓reduceIte, Nat.reduceEqDiff, rg, ow_163]
    refine hK _ _ ?_; clear hK K
    refine W_false (by simp only [evt, evc, upd_eq, Nat.reduceEqDiff, ↓reduceIte, ntT, ntF] <;> rfl) (W_skip ?_)
    show W _ _ _ _ _ _
    refine W_seq ?_
    refine W_sq fun K hK => (W_text [true] (by kernel_rfl) ?_); simp only [↓List.toList_toArray, ↓rgd, ↓rgf, ↓reduceIte, Nat.reduceEqDiff, rg, ow_163]
    refine hK _ _ ?_; clear hK K
    refine W_block (W_loop (fun mm e w' => ∃ (i : Nat) (d : List It), mm = ks.length - i ∧ i ≤ ks.length ∧ hand go done (weave (cs.map Kid.xs) ks) = hand go d (weave ((cs.map Kid.xs).drop i) (ks.drop i)) ∧ d.length + (weave ((cs.map Kid.xs).drop i) (ks.drop i)).length ≤ 4294967295 ∧ S d w' ∧ Ext G w w' ∧
        e 0 = ptr m ∧ e 2 = .func (.func g) first cap0 ∧ e 3 = .bool mu ∧ e 9 = ptr b ∧ e 11 = .int .i64 i)
      ks.length ⟨0, done, by simp, by simp, by simp, by simpa using hbig, S1, x1.mono fun _ _ _ h => h.elim, ?_, ?_, ?_, ?_, ?_⟩ ?_)
    · simp only [upd_eq, Nat.reduceEqDiff, ↓reduceIte]; exact e0
    · simp only [upd_eq, Nat.reduceEqDiff, ↓reduceIte]; exact e2
    · simp only [upd_eq, Nat.reduceEqDiff, ↓reduceIte]; exact e3
    · simp only [upd_eq, Nat.reduceEqDiff, ↓reduceIte]
    · simp only [upd_eq, Nat.reduceEqDiff, ↓reduceIte]; rfl
    · clear e0 e1 e2 e3 e S1 o1
      rintro mm e w' ⟨i, d, rfl, hi, hh, hdl, hS', X, e0, e2, e3, e9, e11⟩
      have o' := ho.ext X fun y o g => hGo y o g o
      have k' := hk.ext X fun y o g => hGk y o g o
      have hb2 := o'.h2
      have hb3 := o'.h3
      have hc0 := k'.c0
      have h0' := X.rd h0 (hm 0)
      have hci : ∀ i, i < cs.length → ∃ c, cs[i]? = some c ∧ rd w' ba (oa + i) = some (ptr c.b) := fun i hi => by
        refine ⟨cs[i], List.getElem?_eq_getElem hi, k'.row i _ ?_⟩
        rw [List.getElem?_map, List.getElem?_map, List.getElem?_eq_getElem hi]; rfl
      rw [List.length_map] at hc0
      refine W_seq ?_
      by_cases hlt : i < ks.length
      · have ht := lt_tt i ks.length hlt
        refine W_sq fun K hK => (W_text [true, true, true, true, true, true, true] (by kernel_rfl) ?_); simp only [↓List.toList_toArray, ↓rgd, ↓rgf, ↓reduceIte, Nat.reduceEqDiff, rg, ow_163, e9, e11, ptr_eq, hb2, ht]
        refine hK _ _ ?_; clear hK K
        refine W_true (by simp only [evt, evc, upd_eq, Nat.reduceEqDiff, ↓reduceIte, ntT, ntF] <;> rfl) (W_skip ?_)
        show W _ _ _ _ _ _
        refine W_seq (W_block (W_seq ?_))
        obtain ⟨c, hc, hcr⟩ := hci i (by omega)
        have hcm : c ∈ cs := List.mem_of_getElem? hc
        obtain ⟨x, hx⟩ : ∃ x, ks[i]? = some x := ⟨_, List.getElem?_eq_getElem hlt⟩
        have hlc : i < cs.length := by omega
        rw [weave_step (c := c.xs) (by rw [List.getElem?_map, hc]; rfl) hx] at hh hdl
        rw [List.length_append, List.length_cons] at hdl
        refine W_sq fun K hK => (W_text [true, true, true, true, true, true, true, true, true, true, true, false, true] (by kernel_rfl) ?_); simp only [↓List.toList_toArray, ↓rgd, ↓rgf, ↓reduceIte, Nat.reduceEqDiff, rg, ow_163, e0, e2, e3, e9, e11, ptr_eq, hb3, hc0, hlc]
        refine do_call fn_163 (by simp only [evt, evc, upd_eq, Nat.reduceEqDiff, ↓reduceIte, maT, maC, maN, isnN, isnS] <;> rfl) (ih c.b mn ba (oa + i) c.xs c.F d _ ((hT c hcm).ext X fun y o g => hGc c hcm y o o g) h0' hcr (hGc c hcm) hS' (by omega)) ?_
        rintro _ w2 ⟨rfl, hS2, x2⟩
        refine ⟨trivial, ?_⟩
        simp only [↓List.toList_toArray, ↓rgd, ↓rgf, ↓reduceIte, Nat.reduceEqDiff, rg, ow_163]
        refine hK _ _ ?_; clear hK K
        have X2 := X.tr x2
        cases hgo : (hand go d c.xs).2 with
        | false =>
          refine W_true (by simp only [evt, evc, upd_eq, Nat.reduceEqDiff, ↓reduceIte, ntT, ntF] <;> rfl) ?_
          refine W_sq fun K hK => (W_text [true] (by kernel_rfl) ?_); simp only [↓List.toList_toArray, ↓rgd, ↓rgf, ↓reduceIte, Nat.reduceEqDiff, rg, ow_163]
          refine hK _ _ ?_; clear hK K
          refine W_ret ?_
          simp only [andThen_ret, inBlk_ret]
          refine endQ_1 (by simp only [upd_eq, Nat.reduceEqDiff, ↓reduceIte] <;> rfl) ?_
          rw [hh, hand_off go hgo, hgo]
          exact ⟨rfl, hS2, X2⟩
        | true =>
          rw [hand_on go hgo] at hh
          have hd2 : (hand go d c.xs).1.length = d.length + c.xs.length := by rw [hand_true go hgo, List.length_append]
          refine W_false (by simp only [evt, evc, upd_eq, Nat.reduceEqDiff, ↓reduceIte, ntT, ntF] <;> rfl) (W_skip ?_)
          show W _ _ _ _ _ _
          have o2 := ho.ext X2 fun y o g => hGo y o g o
          have hb2 := o2.h2
          have hk2 := it_at o2.row hx
          refine W_sq fun K hK => (W_text [true, true, true, true, true, true, true, true, false, true] (by kernel_rfl) ?_); simp only [↓List.toList_toArray, ↓rgd, ↓rgf, ↓reduceIte, Nat.reduceEqDiff, rg, ow_163, e2, e9, e11, ptr_eq, hb2, hlt, hk2]
          refine do_callv (by simp only [evt, evc, upd_eq, Nat.reduceEqDiff, ↓reduceIte, ntT, ntF] <;> rfl) hg rfl (by simp only [evt, upd_eq, Nat.reduceEqDiff, ↓reduceIte, maT, maC, maN]; exact hcall _ x _ hS2 (by omega)) ?_
          rintro _ w3 ⟨rfl, hS3, x3⟩
          refine ⟨trivial, ?_⟩
          simp only [↓List.toList_toArray, ↓rgd, ↓rgf, ↓reduceIte, Nat.reduceEqDiff, rg, ow_163]
          refine hK _ _ ?_; clear hK K
          cases hgo2 : go ((hand go d c.xs).1 ++ [x]) with
          | true =>
            refine W_false (by simp only [evt, evc, upd_eq, Nat.reduceEqDiff, ↓reduceIte, ntT, ntF] <;> rfl) (W_skip ?_)
            show W _ _ _ _ _ _
            have q1 := wadd1 i (by omega)
            refine W_rg fun K hK => (W_text [true, true, true] (by kernel_rfl) ?_); simp only [↓List.toList_toArray, ↓rgd, ↓rgf, ↓reduceIte, Nat.reduceEqDiff, rg, ow_163, e11, q1]
            refine hK _ _ ?_; clear hK K
            refine ⟨_, ?_, i + 1, _, rfl, hlt, by rw [hh, hand_yes go hgo2], by rw [List.length_append, List.length_singleton]; omega, hS3, X2.tr x3, ?_, ?_, ?_, ?_, ?_⟩
            · omega
            · simp only [upd_eq, Nat.reduceEqDiff, ↓reduceIte]; exact e0
            · simp only [upd_eq, Nat.reduceEqDiff, ↓reduceIte]; exact e2
            · simp only [upd_eq, Nat.reduceEqDiff, ↓reduceIte]; exact e3
            · simp only [upd_eq, Nat.reduceEqDiff, ↓reduceIte]; exact e9
            · simp only [upd_eq, Nat.reduceEqDiff, ↓reduceIte]
          | false =>
            refine W_true (by simp only [evt, evc, upd_eq, Nat.reduceEqDiff, ↓reduceIte, ntT, ntF] <;> rfl) ?_
            refine W_sq fun K hK => (W_text [true] (by kernel_rfl) ?_); simp only [↓List.toList_toArray, ↓rgd, ↓rgf, ↓reduceIte, Nat.reduceEqDiff, rg, ow_163]
            refine hK _ _ ?_; clear hK K
            refine W_ret ?_
            simp only [andThen_ret, inBlk_ret]
            refine endQ_1 (by simp only [upd_eq, Nat.reduceEqDiff, ↓reduceIte] <;> rfl) ?_
            rw [hh, hand_no go hgo2]
            exact ⟨rfl, hS3, X2.tr x3⟩
      · obtain rfl : i = ks.length := by omega
        have ht := lt_ff ks.length ks.length (by omega)
        refine W_sq fun K hK => (W_text [true, true, true, true, true, true, true] (by kernel_rfl) ?_); simp only [↓List.toList_toArray, ↓rgd, ↓rgf, ↓reduceIte, Nat.reduceEqDiff, rg, ow_163, e9, e11, ptr_eq, hb2, ht]
        refine hK _ _ ?_; clear hK K
        refine W_false (by simp only [evt, evc, upd_eq, Nat.reduceEqDiff, ↓reduceIte, ntT, ntF] <;> rfl) (W_exit ?_)
        simp only [andThen_exit, inBlk_exit, ↓reduceIte]
        show W _ _ _ _ _ _
        obtain ⟨c, hc, hcr⟩ := hci ks.length (by omega)
        have hcm : c ∈ cs := List.mem_of_getElem? hc
        rw [weave_last (c := c.xs) (by simpa using hcs) (by rw [List.getElem?_map, hc]; rfl)] at hh hdl
        have hlc : cs.length - 1 < cs.length := by omega
        have hl1 : cs.length - 1 = ks.length := by omega
        have q1 := wsub1 cs.length (by omega) (by omega)
        have M1 : readsB (some (some [b, bc, ba])) b = true := by simp [readsB]
        have M2 : readsB (some (some [b, bc, ba])) bc = true := by simp [readsB]
        have M3 : readsB (some (some [b, bc, ba])) ba = true := by simp [readsB]
        refine W_sq fun K hK => (W_draw (some (some [b, bc, ba])) none [(0, 0, 0), (0, 1, 0), (0, 2, 0), (0, 3, 0), (0, 4, 0), (0, 5, 0), (0, 6, 0), (0, 7, 0), (0, 8, 0), (0, 9, 0), (0, 10, 0), (0, 11, 0), (0, 12, 0), (0, 13, 0), (0, 14, 0), (0, 15, 0), (0, 16, 0), (0, 17, 0), (1, 18, 0), (0, 19, 0)] mixed (by kernel_rfl) ?_); simp only [↓List.toList_toArray, ↓rgd, ↓rgf, ↓reduceIte, Nat.reduceEqDiff, rg, ow_163, e0, e2, e3, e9, ptr_eq, hb3, hc0, q1, hlc, M1, M2, M3]
        rw [hl1]
        refine do_call fn_163 (by simp only [evt, evc, upd_eq, Nat.reduceEqDiff, ↓reduceIte, maT, maC, maN, isnN, isnS] <;> rfl) (ih c.b mn ba (oa + ks.length) c.xs c.F d _ ((hT c hcm).ext (X.tr (Ext.dr _ _ _)) fun y o g => hGc c hcm y o o g) h0' hcr (hGc c hcm) (hSx _ _ _ hS' (Ext.dr _ _ _)) (by omega)) ?_
        rintro _ w2 ⟨rfl, hS2, x2⟩
        refine ⟨.inr (keeps_on x2 fun y hy => ?_), ?_⟩
        · rw [sz_dr]
          simp only [List.mem_cons, List.not_mem_nil, or_false] at hy
          rcases hy with rfl | rfl | rfl
          · exact ⟨wok_lt o'.wb, hGo _ 0 (.inl rfl)⟩
          · exact ⟨wok_lt k'.wc, hGk _ 0 (.inl rfl)⟩
          · exact ⟨wok_lt k'.wa, hGk _ oa (.inr ⟨rfl, by omega, by have := k'.le; rw [List.length_map] at this; omega⟩)⟩
        simp only [↓List.toList_toArray, ↓rgd, ↓rgf, ↓reduceIte, Nat.reduceEqDiff, rg, ow_163]
        refine hK _ _ ?_; clear hK K
        refine W_ret ?_
        refine endQ_1 (by simp only [upd_eq, Nat.reduceEqDiff, ↓reduceIte] <;> rfl) ?_
        rw [hh]
        exact ⟨rfl, hS2, X.tr x2.od⟩
set_option maxHeartbeats 400000 in
set_option maxRecDepth 8000 in
theorem scan_any (B m d : Nat) (ord : List Int) (iso : Int) (xs : List It) (F : Nat → Nat → Prop) (f : Value) (G : Nat → Nat → Prop) (S : List It → World → Prop) (go : List It → Bool) (C : Cb f G S go) (hm : ∀ o, ¬ G m o) (mu : Bool) (w : World)
    (hM : TreeAt B ord w m d iso xs F) (hG : ∀ y o o', F y o → ¬ G y o') (hS : S [] w) (hbig : xs.length ≤ 4294967295) :
    CallK Try.prog 135 #[ptr m, f, .bool mu] w fun _ w' => S (hand go [] xs).1 w' ∧ Ext G w w' := by
  refine calls_of_W [] Try.func135 rfl Try.ntmps135 Try.results135 (by simp) fun e he => ?_
  have e0 : e 0 = ptr m := he 0 _ rfl
  have e1 : e 1 = f := he 1 _ rfl
  have e2 : e 2 = .bool mu := he 2 _ rfl
  clear he
  refine W_seq ?_
  refine W_sq fun K hK => (W_text [true, true, false] (by kernel_rfl) ?_); simp only [↓List.toList_toArray, ↓rgd, ↓rgf, ↓reduceIte, Nat.reduceEqDiff, rg, ow_135, e0, e2]
  refine do_call fn_118 (by simp only [evt, evc, upd_eq, Nat.reduceEqDiff, ↓reduceIte, maT, maC, maN, isnN, isnS] <;> rfl) (lock_any _ _ w) ?_
  rintro _ _ ⟨rfl, rfl⟩
  refine ⟨trivial, ?_⟩
  simp only [↓List.toList_toArray, ↓rgd, ↓rgf, ↓reduceIte, Nat.reduceEqDiff, rg, ow_135]
  refine hK _ _ ?_; clear hK K
  refine W_false (by simp only [evt, evc, upd_eq, Nat.reduceEqDiff, ↓reduceIte, ntT, ntF] <;> rfl) (W_skip ?_)
  show W _ _ _ _ _ _
  refine W_seq ?_
  rcases hM.root with ⟨rfl, hr⟩ | ⟨h, b, hr, ht⟩
  · refine W_sq fun K hK => (W_text [true, true, true, true, true] (by kernel_rfl) ?_); simp only [↓List.toList_toArray, ↓rgd, ↓rgf, ↓reduceIte, Nat.reduceEqDiff, rg, ow_135, e0, ptr_eq, hr]
    refine hK _ _ ?_; clear hK K
    refine W_true (by simp only [evt, evc, upd_eq, Nat.reduceEqDiff, ↓reduceIte, ntT, ntF] <;> rfl) (W_ret ?_)
    simp only [andThen_ret]
    exact endQ_0 ⟨hS, Ext.refl _ _⟩
  · refine W_sq fun K hK => (W_text [true, true, true, true, true] (by kernel_rfl) ?_); simp only [↓List.toList_toArray, ↓rgd, ↓rgf, ↓reduceIte, Nat.reduceEqDiff, rg, ow_135, e0, ptr_eq, hr]
    refine hK _ _ ?_; clear hK K
    refine W_false (by simp only [evt, evc, upd_eq, Nat.reduceEqDiff, ↓reduceIte, ntT, ntF] <;> rfl) (W_skip ?_)
    show W _ _ _ _ _ _
    refine W_rg fun K hK => (W_text [true, true, true, true, true, true, false] (by kernel_rfl) ?_); simp only [↓List.toList_toArray, ↓rgd, ↓rgf, ↓reduceIte, Nat.reduceEqDiff, rg, ow_135, e0, e1, e2, ptr_eq]
    refine do_call fn_163 (by simp only [evt, evc, upd_eq, Nat.reduceEqDiff, ↓reduceIte, maT, maC, maN, isnN, isnS] <;> rfl) (nodeScan_any m iso (d - 1) (2 * d - 1) f G S go C hm mu h b 1 m 2 xs F [] w ht hM.cfg.iso hr hG hS (by simpa using hbig)) ?_
    rintro _ w1 ⟨rfl, hS1, X1⟩
    refine ⟨trivial, ?_⟩
    simp only [↓List.toList_toArray, ↓rgd, ↓rgf, ↓reduceIte, Nat.reduceEqDiff, rg, ow_135]
    refine hK _ _ ?_; clear hK K
    exact endQ_0n ⟨hS1, X1⟩
end Go.Proofs.Ytanmjbkbdmeckaa
/-
  Handing on the items of a tree backwards. No condition.
-/
set_option linter.unusedSimpArgs false
set_option linter.unusedVariables false
namespace Go.Proofs.Ytanmjbkbdmeckaa
open Go Go.Proofs
theorem ge_tt (i : Nat) (h : 0 < i) : decide (0 ≤ (i : Int) - 1) = true := by simp; omega
theorem ge_ff : decide (0 ≤ ((0 : Nat) : Int) - 1) = false := by decide
theorem int_pred (i : Nat) (h : 0 < i) : (i : Int) - 1 = ((i - 1 : Nat) : Int) := by omega
theorem pred_wrap (i : Nat) (h : i < 4611686018427387904) : IntKind.i64.wrap ((i : Int) - 1) = (i : Int) - 1 := IntWalk.i64_in _ (by omega)
set_option maxHeartbeats 1000000 in
set_option maxRecDepth 8000 in
theorem nodeRev_any (m : Nat) (iso : Int) (mn mx : Nat) (f : Value) (G : Nat → Nat → Prop) (S : List It → World → Prop) (go : List It → Bool) (C : Cb f G S go) (hm : ∀ o, ¬ G m o) (mu : Bool) :
    ∀ (h b lo pc po : Nat) (xs : List It) (F : Nat → Nat → Prop) (done : List It) (w : World), Tr E iso mn mx h w lo b xs F → rd w m 0 = some (.int .u64 iso) → rd w pc po = some (ptr b) → (∀ y o o', F y o → ¬ G y o') → S done w →
      done.length + xs.length ≤ 4294967295 →
    CallK Try.prog 165 #[ptr m, .pointer (some ⟨pc, po, none⟩), f, .bool mu] w fun v w' => v = .bool (hand go done xs.reverse).2 ∧ S (hand go done xs.reverse).1 w' ∧ Ext G w w' := by
  obtain ⟨⟨g, first, cap0, rfl, hg, hcall⟩, hSx⟩ := C
  intro h
  induction h with
  | zero =>
    intro b lo pc po xs F done w ht h0 hp hG hS hbig
    obtain ⟨bi, oi, cap, ho, h1, h2, hF⟩ := ht
    refine calls_of_W [.tmp 8] Try.func165 rfl Try.ntmps165 Try.results165 (by simp) fun e he => ?_
    have e0 : e 0 = ptr m := he 0 _ rfl
    have e1 : e 1 = .pointer (some ⟨pc, po, none⟩) := he 1 _ rfl
    have e2 : e 2 = .func (.func g) first cap0 := he 2 _ rfl
    have e3 : e 3 = .bool mu := he 3 _ rfl
    clear he
    refine W_sq fun K hK => (W_text [true] (by kernel_rfl) ?_); simp only [↓List.toList_toArray, ↓rgd, ↓rgf, ↓reduceIte, Nat.reduceEqDiff, rg, ow_165]
    refine hK _ _ ?_; clear hK K
    refine W_sq fun K hK => (W_text [true, true, true, false, true] (by kernel_rfl) ?_); simp only [↓List.toList_toArray, ↓rgd, ↓rgf, ↓reduceIte, Nat.reduceEqDiff, rg, ow_165, e0, e1, e3]
    refine do_call fn_121 (by simp only [evt, evc, upd_eq, Nat.reduceEqDiff, ↓reduceIte, maT, maC, maN, isnN, isnS] <;> rfl) (isoLoad_any m pc po b mu iso w h0 hp ho.h0) ?_
    rintro _ w1 ⟨rfl, r1⟩
    refine ⟨trivial, ?_⟩
    simp only [↓List.toList_toArray, ↓rgd, ↓rgf, ↓reduceIte, Nat.reduceEqDiff, rg, ow_165]
    refine hK _ _ ?_; clear hK K
    have x1 : Ext noF w w1 := r1.ext
    have o1 := ho.ext x1 fun _ _ _ h => h
    have S1 := hSx _ _ _ hS x1
    refine W_seq ?_
    refine W_sq fun K hK => (W_text [true, false] (by kernel_rfl) ?_); simp only [↓List.toList_toArray, ↓rgd, ↓rgf, ↓reduceIte, Nat.reduceEqDiff, rg, ow_165]
    refine do_call fn_122 (by simp only [evt, evc, upd_eq, Nat.reduceEqDiff, ↓reduceIte, maT, maC, maN, isnN, isnS] <;> rfl) (leaf_any b none w1 o1.h3) ?_
    rintro _ w2 ⟨rfl, hw2⟩
    obtain rfl : w1 = w2 := hw2.symm
    refine ⟨trivial, ?_⟩
    simp only [↓List.toList_toArray, ↓rgd, ↓rgf, ↓reduceIte, Nat.reduceEqDiff, rg, ow_165]
    refine hK _ _ ?_; clear hK K
    refine W_true (by simp only [evt, evc, upd_eq, Nat.reduceEqDiff, ↓reduceIte, ntT, ntF] <;> rfl) (W_seq ?_)
    have q0 := pred_wrap xs.length (by omega)
    have o1h := o1.h2
    refine W_sq fun K hK => (W_text [true, true, true, true, true, true, true] (by kernel_rfl) ?_); simp only [↓List.toList_toArray, ↓rgd, ↓rgf, ↓reduceIte, Nat.reduceEqDiff, rg, ow_165, ptr_eq, o1h, q0]
    refine hK _ _ ?_; clear hK K
    refine W_block (W_loop (fun mm e w' => ∃ (i : Nat) (d : List It), mm = i ∧ i ≤ xs.length ∧ hand go done xs.reverse = hand go d (xs.take i).reverse ∧ d.length + i ≤ 4294967295 ∧ S d w' ∧ Ext G w w' ∧ e 2 = .func (.func g) first cap0 ∧ e 9 = ptr b ∧ e 10 = .int .i64 ((i : Int) - 1))
      xs.length ⟨xs.length, done, rfl, Nat.le_refl _, by rw [List.take_length], by omega, S1, x1.mono fun _ _ _ h => h.elim, ?_, ?_, ?_⟩ ?_)
    · simp only [upd_eq, Nat.reduceEqDiff, ↓reduceIte]; exact e2
    · simp only [upd_eq, Nat.reduceEqDiff, ↓reduceIte]; rfl
    · simp only [upd_eq, Nat.reduceEqDiff, ↓reduceIte]
    · clear e0 e1 e2 e3 e S1 o1 o1h q0
      rintro mm e w' ⟨i, d, rfl, hi, hh, hdl, hS', X, e2, e9, e10⟩
      have o' := ho.ext X fun y o h => hG y o o ((hF y o).2 h)
      have hb2 := o'.h2
      refine W_seq ?_
      by_cases hlt : 0 < mm
      · have ht := ge_tt mm hlt
        refine W_sq fun K hK => (W_text [true, true] (by kernel_rfl) ?_); simp only [↓List.toList_toArray, ↓rgd, ↓rgf, ↓reduceIte, Nat.reduceEqDiff, rg, ow_165, e10, ht]
        refine hK _ _ ?_; clear hK K
        refine W_true (by simp only [evt, evc, upd_eq, Nat.reduceEqDiff, ↓reduceIte, ntT, ntF] <;> rfl) (W_skip ?_)
        show W _ _ _ _ _ _
        refine W_seq (W_block ?_)
        have hil : mm - 1 < xs.length := by omega
        obtain ⟨x, hx⟩ : ∃ x, xs[mm - 1]? = some x := ⟨_, List.getElem?_eq_getElem hil⟩
        have hk := it_at o'.row hx
        rw [take_rev hlt hx] at hh
        rw [int_pred mm hlt] at e10
        refine W_sq fun K hK => (W_text [true, true, true, true, true, true, true, true, false, true] (by kernel_rfl) ?_); simp only [↓List.toList_toArray, ↓rgd, ↓rgf, ↓reduceIte, Nat.reduceEqDiff, rg, ow_165, e2, e9, e10, ptr_eq, hb2, hil, hk]
        refine do_callv (by simp only [evt, evc, upd_eq, Nat.reduceEqDiff, ↓reduceIte, ntT, ntF] <;> rfl) hg rfl (by simp only [evt, upd_eq, Nat.reduceEqDiff, ↓reduceIte, maT, maC, maN]; exact hcall d x _ hS' (by omega)) ?_
        rintro _ w2 ⟨rfl, hS2, x2⟩
        refine ⟨trivial, ?_⟩
        simp only [↓List.toList_toArray, ↓rgd, ↓rgf, ↓reduceIte, Nat.reduceEqDiff, rg, ow_165]
        refine hK _ _ ?_; clear hK K
        cases hgo : go (d ++ [x]) with
        | true =>
          refine W_false (by simp only [evt, evc, upd_eq, Nat.reduceEqDiff, ↓reduceIte, ntT, ntF] <;> rfl) (W_skip ?_)
          show W _ _ _ _ _ _
          have q1 := pred_wrap (mm - 1) (by omega)
          refine W_rg fun K hK => (W_text [true, true, true] (by kernel_rfl) ?_); simp only [↓List.toList_toArray, ↓rgd, ↓rgf, ↓reduceIte, Nat.reduceEqDiff, rg, ow_165, e10, q1]
          refine hK _ _ ?_; clear hK K
          refine ⟨_, ?_, mm - 1, d ++ [x], rfl, by omega, by rw [hh, hand_yes go hgo], by simp; omega, hS2, X.tr x2, ?_, ?_, ?_⟩
          · omega
          · simp only [upd_eq, Nat.reduceEqDiff, ↓reduceIte]; exact e2
          · simp only [upd_eq, Nat.reduceEqDiff, ↓reduceIte]; exact e9
          · simp only [upd_eq, Nat.reduceEqDiff, ↓reduceIte]
        | false =>
          refine W_true (by simp only [evt, evc, upd_eq, Nat.reduceEqDiff, ↓reduceIte, ntT, ntF] <;> rfl) ?_
          refine W_sq fun K hK => (W_text [true] (by kernel_rfl) ?_); simp only [↓List.toList_toArray, ↓rgd, ↓rgf, ↓reduceIte, Nat.reduceEqDiff, rg, ow_165]
          refine hK _ _ ?_; clear hK K
          refine W_ret ?_
          simp only [andThen_ret, inBlk_ret]
          refine endQ_1 (by simp only [upd_eq, Nat.reduceEqDiff, ↓reduceIte] <;> rfl) ?_
          rw [hh, hand_no go hgo]
          exact ⟨rfl, hS2, X.tr x2⟩
      · obtain rfl : mm = 0 := by omega
        refine W_sq fun K hK => (W_text [true, true] (by kernel_rfl) ?_); simp only [↓List.toList_toArray, ↓rgd, ↓rgf, ↓reduceIte, Nat.reduceEqDiff, rg, ow_165, e10, ge_ff]
        refine hK _ _ ?_; clear hK K
        refine W_false (by simp only [evt, evc, upd_eq, Nat.reduceEqDiff, ↓reduceIte, ntT, ntF] <;> rfl) (W_exit ?_)
        simp only [andThen_exit, inBlk_exit, ↓reduceIte]
        show W _ _ _ _ _ _
        refine W_sq fun K hK => (W_text [true] (by kernel_rfl) ?_); simp only [↓List.toList_toArray, ↓rgd, ↓rgf, ↓reduceIte, Nat.reduceEqDiff, rg, ow_165]
        refine hK _ _ ?_; clear hK K
        refine W_ret ?_
        simp only [andThen_ret]
        refine endQ_1 (by simp only [upd_eq, Nat.reduceEqDiff, ↓reduceIte] <;> rfl) ?_
        rw [hh]
        exact ⟨rfl, hS', X⟩
  | succ h ih =>
    intro b lo pc po xs F done w ht h0 hp hG hS hbig
    obtain ⟨bi, oi, cap, bc, ba, oa, capc, ks, cs, ho, hk, h1, h2, hcs, rfl, hT, hA, hF⟩ := ht
    have hGo : ∀ y o, ownF E b bi oi cap y o → ∀ o', ¬ G y o' := fun y o g o' => hG y o o' ((hF y o).2 (.inl g))
    have hGk : ∀ y o, kidF bc ba oa capc y o → ∀ o', ¬ G y o' := fun y o g o' => hG y o o' ((hF y o).2 (.inr (.inl g)))
    have hGc : ∀ c ∈ cs, ∀ y o o', c.F y o → ¬ G y o' := fun c hc y o o' g => hG y o o' ((hF y o).2 (.inr (.inr ⟨c, hc, g⟩)))
    have hcs' : (cs.map Kid.xs).length = ks.length + 1 := by simpa using hcs
    have hwl := weave_length (cs.map Kid.xs) ks hcs'
    have hks : ks.length < 4611686018427387904 := by omega
    have hci : ∀ i, i < cs.length → ∃ c, cs[i]? = some c ∧ (cs.map Kid.xs)[i]? = some c.xs ∧ ∀ w', Ext G w w' → rd w' ba (oa + i) = some (ptr c.b) := fun i hi => by
      refine ⟨cs[i], List.getElem?_eq_getElem hi, by rw [List.getElem?_map, List.getElem?_eq_getElem hi]; rfl, fun w' X => (hk.ext X fun y o g => hGk y o g o).row i _ ?_⟩
      rw [List.getElem?_map, List.getElem?_map, List.getElem?_eq_getElem hi]; rfl
    refine calls_of_W [.tmp 8] Try.func165 rfl Try.ntmps165 Try.results165 (by simp) fun e he => ?_
    have e0 : e 0 = ptr m := he 0 _ rfl
    have e1 : e 1 = .pointer (some ⟨pc, po, none⟩) := he 1 _ rfl
    have e2 : e 2 = .func (.func g) first cap0 := he 2 _ rfl
    have e3 : e 3 = .bool mu := he 3 _ rfl
    clear he
    refine W_sq fun K hK => (W_text [true] (by kernel_rfl) ?_); simp only [↓List.toList_toArray, ↓rgd, ↓rgf, ↓reduceIte, Nat.reduceEqDiff, rg, ow_165]
    refine hK _ _ ?_; clear hK K
    refine W_sq fun K hK => (W_text [true, true, true, false, true] (by kernel_rfl) ?_); simp only [↓List.toList_toArray, ↓rgd, ↓rgf, ↓reduceIte, Nat.reduceEqDiff, rg, ow_165, e0, e1, e3]
    refine do_call fn_121 (by simp only [evt, evc, upd_eq, Nat.reduceEqDiff, ↓reduceIte, maT, maC, maN, isnN, isnS] <;> rfl) (isoLoad_any m pc po b mu iso w h0 hp ho.h0) ?_
    rintro _ w1 ⟨rfl, r1⟩
    refine ⟨trivial, ?_⟩
    simp only [↓List.toList_toArray, ↓rgd, ↓rgf, ↓reduceIte, Nat.reduceEqDiff, rg, ow_165]
    refine hK _ _ ?_; clear hK K
    have x1 : Ext noF w w1 := r1.ext
    have x1G : Ext G w w1 := x1.mono fun _ _ _ h => h.elim
    have o1 := ho.ext x1 fun _ _ _ h => h
    have k1 := hk.ext x1 fun _ _ _ h => h
    have S1 := hSx _ _ _ hS x1
    refine W_seq ?_
    refine W_sq fun K hK => (W_text [true, false] (by kernel_rfl) ?_); simp only [↓List.toList_toArray, ↓rgd, ↓rgf, ↓reduceIte, Nat.reduceEqDiff, rg, ow_165]
    refine do_call fn_122 (by simp only [evt, evc, upd_eq, Nat.reduceEqDiff, ↓reduceIte, maT, maC, maN, isnN, isnS] <;> rfl) (leaf_any b (some ⟨bc, 0, none⟩) w1 o1.h3) ?_
    rintro _ w2 ⟨rfl, hw2⟩
    obtain rfl : w1 = w2 := hw2.symm
    refine ⟨trivial, ?_⟩
    simp only [↓List.toList_toArray, ↓rgd, ↓rgf, ↓reduceIte, Nat.reduceEqDiff, rg, ow_165]
    refine hK _ _ ?_; clear hK K
    refine W_false (by simp only [evt, evc, upd_eq, Nat.reduceEqDiff, ↓reduceIte, ntT, ntF] <;> rfl) (W_skip ?_)
    show W _ _ _ _ _ _
    have hb3 := o1.h3
    have hc0 := k1.c0
    rw [List.length_map] at hc0
    have hlc : cs.length - 1 < cs.length := by omega
    have hl1 : cs.length - 1 = ks.length := by omega
    have q1 := wsub1 cs.length (by omega) (by omega)
    obtain ⟨c, hc, hcx, hcr⟩ := hci ks.length (by omega)
    have hcm : c ∈ cs := List.mem_of_getElem? hc
    have hfl := fr_length hcs' (Nat.le_refl _) hcx
    have hall : (weave (cs.map Kid.xs) ks).reverse = c.xs.reverse ++ (fr (cs.map Kid.xs) ks ks.length).reverse := by rw [fr_all hcs' hcx, List.reverse_append]
    refine W_seq ?_
    refine W_sq fun K hK => (W_free (some none) (.take 0 (.take 1 (.take 2 (.take 3 (.take 4 (.take 5 (.take 6 (.take 7 (.take 8 (.take 9 (.take 10 (.take 11 (.take 12 (.take 13 (.take 14 (.take 15 (.take 16 (.take 17 (.bar 18 (.take 19 .nil)))))))))))))))))))) mixed (by kernel_rfl) ?_); simp only [↓List.toList_toArray, ↓rgd, ↓rgf, ↓reduceIte, Nat.reduceEqDiff, rg, ow_165, e0, e2, e3, ptr_eq, hb3, hc0, q1, hlc]
    rw [hl1]
    refine do_call fn_165 (by simp only [evt, evc, upd_eq, Nat.reduceEqDiff, ↓reduceIte, maT, maC, maN, isnN, isnS] <;> rfl) (ih c.b mn ba (oa + ks.length) c.xs c.F done _ ((hT c hcm).ext (x1.tr (Ext.dr _ _ _)) fun _ _ _ h => h) (x1.rd h0 fun h => h) (hcr _ (x1G.tr (Ext.dr _ _ _))) (hGc c hcm) (hSx _ _ _ S1 (Ext.dr _ _ _)) (by omega)) ?_
    rintro _ w2 ⟨rfl, hS2, x2⟩
    refine ⟨trivial, ?_⟩
    simp only [↓List.toList_toArray, ↓rgd, ↓rgf, ↓reduceIte, Nat.reduceEqDiff, rg, ow_165]
    refine hK _ _ ?_; clear hK K
    have X2 := x1G.tr x2.od
    cases hgo : (hand go done c.xs.reverse).2 with
    | false =>
      refine W_true (by simp only [evt, evc, upd_eq, Nat.reduceEqDiff, ↓reduceIte, ntT, ntF] <;> rfl) ?_
      refine W_sq fun K hK => (W_text [true] (by kernel_rfl) ?_); simp only [↓List.toList_toArray, ↓rgd, ↓rgf, ↓reduceIte, Nat.reduceEqDiff, rg, ow_165]
      refine hK _ _ ?_; clear hK K
      refine W_ret ?_
      simp only [andThen_ret]
      refine endQ_1 (by simp only [upd_eq, Nat.reduceEqDiff, ↓reduceIte] <;> rfl) ?_
      rw [hall, hand_off go hgo, hgo]
      exact ⟨rfl, hS2, X2⟩
    | true =>
      have hall2 : hand go done (weave (cs.map Kid.xs) ks).reverse = hand go (hand go done c.xs.reverse).1 (fr (cs.map Kid.xs) ks ks.length).reverse := by rw [hall, hand_on go hgo]
      have hd2 : (hand go done c.xs.reverse).1.length = done.length + c.xs.length := by rw [hand_true go hgo, List.length_append, List.length_reverse]
      refine W_false (by simp only [evt, evc, upd_eq, Nat.reduceEqDiff, ↓reduceIte, ntT, ntF] <;> rfl) (W_skip ?_)
      simp only [andThen_normal]
      generalize (hand go done c.xs.reverse).1 = d1 at *
      have o2 := ho.ext X2 fun y o g => hGo y o g o
      have hb2 := o2.h2
      have q0 := pred_wrap ks.length hks
      refine W_seq (W_seq ?_)
      refine W_rg fun K hK => (W_text [true, true, true, true, true, true, true] (by kernel_rfl) ?_); simp only [↓List.toList_toArray, ↓rgd, ↓rgf, ↓reduceIte, Nat.reduceEqDiff, rg, ow_165, ptr_eq, hb2, q0]
      refine hK _ _ ?_; clear hK K
      show W _ _ _ _ _ _
      refine W_block (W_loop (fun mm e w' => ∃ (i : Nat) (d : List It), mm = i ∧ i ≤ ks.length ∧ hand go done (weave (cs.map Kid.xs) ks).reverse = hand go d (fr (cs.map Kid.xs) ks i).reverse ∧ d.length + (fr (cs.map Kid.xs) ks i).length ≤ 4294967295 ∧ S d w' ∧ Ext G w w' ∧
          e 0 = ptr m ∧ e 2 = .func (.func g) first cap0 ∧ e 3 = .bool mu ∧ e 9 = ptr b ∧ e 11 = .int .i64 ((i : Int) - 1))
        ks.length ⟨ks.length, d1, rfl, Nat.le_refl _, hall2, by omega, hS2, X2, ?_, ?_, ?_, ?_, ?_⟩ ?_)
      · simp only [upd_eq, Nat.reduceEqDiff, ↓reduceIte]; exact e0
      · simp only [upd_eq, Nat.reduceEqDiff, ↓reduceIte]; exact e2
      · simp only [upd_eq, Nat.reduceEqDiff, ↓reduceIte]; exact e3
      · simp only [upd_eq, Nat.reduceEqDiff, ↓reduceIte]; rfl
      · simp only [upd_eq, Nat.reduceEqDiff, ↓reduceIte]
      · clear e0 e1 e2 e3 e S1 o1 k1 hb2 o2 hb3 hc0 q0 q1 hall hall2 hS2 X2 x2 hd2 hgo
        rintro mm e w' ⟨i, d, rfl, hi, hh, hdl, hS', X, e0, e2, e3, e9, e11⟩
        have o' := ho.ext X fun y o g => hGo y o g o
        have hb2 := o'.h2
        refine W_seq ?_
        by_cases hlt : 0 < mm
        · have ht := ge_tt mm hlt
          refine W_sq fun K hK => (W_text [true, true] (by kernel_rfl) ?_); simp only [↓List.toList_toArray, ↓rgd, ↓rgf, ↓reduceIte, Nat.reduceEqDiff, rg, ow_165, e11, ht]
          refine hK _ _ ?_; clear hK K
          refine W_true (by simp only [evt, evc, upd_eq, Nat.reduceEqDiff, ↓reduceIte, ntT, ntF] <;> rfl) (W_skip ?_)
          show W _ _ _ _ _ _
          have hil : mm - 1 < ks.length := by omega
          have hlc2 : mm - 1 < cs.length := by omega
          obtain ⟨x, hx⟩ : ∃ x, ks[mm - 1]? = some x := ⟨_, List.getElem?_eq_getElem hil⟩
          obtain ⟨c2, hc2, hcx2, hcr2⟩ := hci (mm - 1) hlc2
          have hcm2 : c2 ∈ cs := List.mem_of_getElem? hc2
          have hst : fr (cs.map Kid.xs) ks mm = fr (cs.map Kid.xs) ks (mm - 1) ++ (c2.xs ++ [x]) := by
            have := fr_step hcx2 hx
            rwa [show mm - 1 + 1 = mm by omega] at this
          have hrv : (fr (cs.map Kid.xs) ks mm).reverse = x :: (c2.xs.reverse ++ (fr (cs.map Kid.xs) ks (mm - 1)).reverse) := by rw [hst]; simp
          rw [hrv] at hh
          rw [hst] at hdl
          simp only [List.length_append, List.length_singleton] at hdl
          have hkx := it_at o'.row hx
          rw [int_pred mm hlt] at e11
          refine W_seq (W_block (W_seq ?_))
          refine W_sq fun K hK => (W_text [true, true, true, true, true, true, true, true, false, true] (by kernel_rfl) ?_); simp only [↓List.toList_toArray, ↓rgd, ↓rgf, ↓reduceIte, Nat.reduceEqDiff, rg, ow_165, e2, e9, e11, ptr_eq, hb2, hil, hkx]
          refine do_callv (by simp only [evt, evc, upd_eq, Nat.reduceEqDiff, ↓reduceIte, ntT, ntF] <;> rfl) hg rfl (by simp only [evt, upd_eq, Nat.reduceEqDiff, ↓reduceIte, maT, maC, maN]; exact hcall d x _ hS' (by omega)) ?_
          rintro _ w3 ⟨rfl, hS3, x3⟩
          refine ⟨trivial, ?_⟩
          simp only [↓List.toList_toArray, ↓rgd, ↓rgf, ↓reduceIte, Nat.reduceEqDiff, rg, ow_165]
          refine hK _ _ ?_; clear hK K
          have X3 := X.tr x3
          have o3 := ho.ext X3 fun y o g => hGo y o g o
          have k3 := hk.ext X3 fun y o g => hGk y o g o
          have b3 := o3.h3
          have hbc := k3.c0
          rw [List.length_map] at hbc
          have hcr3 := hcr2 _ X3
          have h03 := X3.rd h0 (hm 0)
          cases hgo : go (d ++ [x]) with
          | true =>
            rw [hand_yes go hgo] at hh
            refine W_false (by simp only [evt, evc, upd_eq, Nat.reduceEqDiff, ↓reduceIte, ntT, ntF] <;> rfl) (W_skip ?_)
            show W _ _ _ _ _ _
            have q1 := pred_wrap (mm - 1) (by omega)
            refine W_sq fun K hK => (W_text [true, true, true, true, true, true, true, true, true, true, true, false, true] (by kernel_rfl) ?_); simp only [↓List.toList_toArray, ↓rgd, ↓rgf, ↓reduceIte, Nat.reduceEqDiff, rg, ow_165, e0, e2, e3, e9, e11, ptr_eq, b3, hbc, hlc2]
            refine do_call fn_165 (by simp only [evt, evc, upd_eq, Nat.reduceEqDiff, ↓reduceIte, maT, maC, maN, isnN, isnS] <;> rfl) (ih c2.b mn ba (oa + (mm - 1)) c2.xs c2.F (d ++ [x]) _ ((hT c2 hcm2).ext X3 fun y o g => hGc c2 hcm2 y o o g) h03 hcr3 (hGc c2 hcm2) hS3 (by rw [List.length_append, List.length_singleton]; omega)) ?_
            rintro _ w4 ⟨rfl, hS4, x4⟩
            refine ⟨trivial, ?_⟩
            simp only [↓List.toList_toArray, ↓rgd, ↓rgf, ↓reduceIte, Nat.reduceEqDiff, rg, ow_165]
            refine hK _ _ ?_; clear hK K
            cases hgo2 : (hand go (d ++ [x]) c2.xs.reverse).2 with
            | true =>
              rw [hand_on go hgo2] at hh
              have hd2 : (hand go (d ++ [x]) c2.xs.reverse).1.length = d.length + 1 + c2.xs.length := by rw [hand_true go hgo2]; simp only [List.length_append, List.length_singleton, List.length_reverse]
              refine W_false (by simp only [evt, evc, upd_eq, Nat.reduceEqDiff, ↓reduceIte, ntT, ntF] <;> rfl) (W_skip ?_)
              show W _ _ _ _ _ _
              refine W_rg fun K hK => (W_text [true, true, true] (by kernel_rfl) ?_); simp only [↓List.toList_toArray, ↓rgd, ↓rgf, ↓reduceIte, Nat.reduceEqDiff, rg, ow_165, e11, q1]
              refine hK _ _ ?_; clear hK K
              refine ⟨_, ?_, mm - 1, _, rfl, by omega, hh, by omega, hS4, X3.tr x4, ?_, ?_, ?_, ?_, ?_⟩
              · omega
              · simp only [upd_eq, Nat.reduceEqDiff, ↓reduceIte]; exact e0
              · simp only [upd_eq, Nat.reduceEqDiff, ↓reduceIte]; exact e2
              · simp only [upd_eq, Nat.reduceEqDiff, ↓reduceIte]; exact e3
              · simp only [upd_eq, Nat.reduceEqDiff, ↓reduceIte]; exact e9
              · simp only [upd_eq, Nat.reduceEqDiff, ↓reduceIte]
            | false =>
              refine W_true (by simp only [evt, evc, upd_eq, Nat.reduceEqDiff, ↓reduceIte, ntT, ntF] <;> rfl) ?_
              refine W_sq fun K hK => (W_text [true] (by kernel_rfl) ?_); simp only [↓List.toList_toArray, ↓rgd, ↓rgf, ↓reduceIte, Nat.reduceEqDiff, rg, ow_165]
              refine hK _ _ ?_; clear hK K
              refine W_ret ?_
              simp only [andThen_ret, inBlk_ret]
              refine endQ_1 (by simp only [upd_eq, Nat.reduceEqDiff, ↓reduceIte] <;> rfl) ?_
              rw [hh, hand_off go hgo2, hgo2]
              exact ⟨rfl, hS4, X3.tr x4⟩
          | false =>
            refine W_true (by simp only [evt, evc, upd_eq, Nat.reduceEqDiff, ↓reduceIte, ntT, ntF] <;> rfl) ?_
            refine W_sq fun K hK => (W_text [true] (by kernel_rfl) ?_); simp only [↓List.toList_toArray, ↓rgd, ↓rgf, ↓reduceIte, Nat.reduceEqDiff, rg, ow_165]
            refine hK _ _ ?_; clear hK K
            refine W_ret ?_
            simp only [andThen_ret, inBlk_ret]
            refine endQ_1 (by simp only [upd_eq, Nat.reduceEqDiff, ↓reduceIte] <;> rfl) ?_
            rw [hh, hand_no go hgo]
            exact ⟨rfl, hS3, X3⟩
        · obtain rfl : mm = 0 := by omega
          refine W_sq fun K hK => (W_text [true, true] (by kernel_rfl) ?_); simp only [↓List.toList_toArray, ↓rgd, ↓rgf, ↓reduceIte, Nat.reduceEqDiff, rg, ow_165, e11, ge_ff]
          refine hK _ _ ?_; clear hK K
          refine W_false (by simp only [evt, evc, upd_eq, Nat.reduceEqDiff, ↓reduceIte, ntT, ntF] <;> rfl) (W_exit ?_)
          simp only [andThen_exit, inBlk_exit, andThen_normal, ↓reduceIte]
          refine W_sq fun K hK => (W_text [true] (by kernel_rfl) ?_); simp only [↓List.toList_toArray, ↓rgd, ↓rgf, ↓reduceIte, Nat.reduceEqDiff, rg, ow_165]
          refine hK _ _ ?_; clear hK K
          refine W_ret ?_
          refine endQ_1 (by simp only [upd_eq, Nat.reduceEqDiff, ↓reduceIte] <;> rfl) ?_
          rw [hh]
          exact ⟨rfl, hS', X⟩
set_option maxHeartbeats 400000 in
set_option maxRecDepth 8000 in
theorem reverse_any (B m d : Nat) (ord : List Int) (iso : Int) (xs : List It) (F : Nat → Nat → Prop) (f : Value) (G : Nat → Nat → Prop) (S : List It → World → Prop) (go : List It → Bool) (C : Cb f G S go) (hm : ∀ o, ¬ G m o) (mu : Bool) (w : World)
    (hM : TreeAt B ord w m d iso xs F) (hG : ∀ y o o', F y o → ¬ G y o') (hS : S [] w) (hbig : xs.length ≤ 4294967295) :
    CallK Try.prog 138 #[ptr m, f, .bool mu] w fun _ w' => S (hand go [] xs.reverse).1 w' ∧ Ext G w w' := by
  refine calls_of_W [] Try.func138 rfl Try.ntmps138 Try.results138 (by simp) fun e he => ?_
  have e0 : e 0 = ptr m := he 0 _ rfl
  have e1 : e 1 = f := he 1 _ rfl
  have e2 : e 2 = .bool mu := he 2 _ rfl
  clear he
  refine W_seq ?_
  refine W_sq fun K hK => (W_text [true, true, false] (by kernel_rfl) ?_); simp only [↓List.toList_toArray, ↓rgd, ↓rgf, ↓reduceIte, Nat.reduceEqDiff, rg, ow_138, e0, e2]
  refine do_call fn_118 (by simp only [evt, evc, upd_eq, Nat.reduceEqDiff, ↓reduceIte, maT, maC, maN, isnN, isnS] <;> rfl) (lock_any _ _ w) ?_
  rintro _ _ ⟨rfl, rfl⟩
  refine ⟨trivial, ?_⟩
  simp only [↓List.toList_toArray, ↓rgd, ↓rgf, ↓reduceIte, Nat.reduceEqDiff, rg, ow_138]
  refine hK _ _ ?_; clear hK K
  refine W_false (by simp only [evt, evc, upd_eq, Nat.reduceEqDiff, ↓reduceIte, ntT, ntF] <;> rfl) (W_skip ?_)
  show W _ _ _ _ _ _
  refine W_seq ?_
  rcases hM.root with ⟨rfl, hr⟩ | ⟨h, b, hr, ht⟩
  · refine W_sq fun K hK => (W_text [true, true, true, true, true] (by kernel_rfl) ?_); simp only [↓List.toList_toArray, ↓rgd, ↓rgf, ↓reduceIte, Nat.reduceEqDiff, rg, ow_138, e0, ptr_eq, hr]
    refine hK _ _ ?_; clear hK K
    refine W_true (by simp only [evt, evc, upd_eq, Nat.reduceEqDiff, ↓reduceIte, ntT, ntF] <;> rfl) (W_ret ?_)
    simp only [andThen_ret]
    exact endQ_0 ⟨hS, Ext.refl _ _⟩
  · refine W_sq fun K hK => (W_text [true, true, true, true, true] (by kernel_rfl) ?_); simp only [↓List.toList_toArray, ↓rgd, ↓rgf, ↓reduceIte, Nat.reduceEqDiff, rg, ow_138, e0, ptr_eq, hr]
    refine hK _ _ ?_; clear hK K
    refine W_false (by simp only [evt, evc, upd_eq, Nat.reduceEqDiff, ↓reduceIte, ntT, ntF] <;> rfl) (W_skip ?_)
    show W _ _ _ _ _ _
    refine W_rg fun K hK => (W_text [true, true, true, true, true, true, false] (by kernel_rfl) ?_); simp only [↓List.toList_toArray, ↓rgd, ↓rgf, ↓reduceIte, Nat.reduceEqDiff, rg, ow_138, e0, e1, e2, ptr_eq]
    refine do_call fn_165 (by simp only [evt, evc, upd_eq, Nat.reduceEqDiff, ↓reduceIte, maT, maC, maN, isnN, isnS] <;> rfl) (nodeRev_any m iso (d - 1) (2 * d - 1) f G S go C hm mu h b 1 m 2 xs F [] w ht hM.cfg.iso hr hG hS (by simpa using hbig)) ?_
    rintro _ w1 ⟨rfl, hS1, X1⟩
    refine ⟨trivial, ?_⟩
    simp only [↓List.toList_toArray, ↓rgd, ↓rgf, ↓reduceIte, Nat.reduceEqDiff, rg, ow_138]
    refine hK _ _ ?_; clear hK K
    exact endQ_0n ⟨hS1, X1⟩
end Go.Proofs.Ytanmjbkbdmeckaa
/-
  The reference: lists from a key, down to a key, turned, cut off. No condition.
-/
set_option linter.unusedSimpArgs false
set_option linter.unusedVariables false
namespace Go.Proofs.Ytanmjbkbdmeckaa
open Go Go.Proofs
theorem treeG_asc (ord : List Int) (l : List It) : Asc O (rkI ord) (treeG ord l) := by
  have : ∀ (l : List It) (xs : List It), Asc O (rkI ord) xs → Asc O (rkI ord) (l.foldl (fun xs x => put O (rkI ord) x xs) xs) := by
    intro l
    induction l with
    | nil => intro xs h; exact h
    | cons x l ih => intro xs h; exact ih _ (put_asc O (rkI ord) h)
  exact this l [] List.Pairwise.nil
theorem iXi_at {w : World} {b o : Nat} {x : It} (h : Row w b o (Ei.cel x)) : rdA w b o 2 = some (iV x) := h.rdA 2 (Nat.le_refl _)

set_option maxHeartbeats 400000 in
set_option maxRecDepth 8000 in
theorem first_any (l : List It) (lv : Value) (n : Int) (w : World) (hl : SlI w lv l) :
    CallK Try.prog 35 #[lv, .int .i64 n] w fun v w' => SlI w' v (firstN n l) ∧ w' = w := by
  obtain ⟨a, c, hlv⟩ := hl.shape
  refine calls_of_W [.tmp 4] Try.func35 rfl Try.ntmps35 Try.results35 (by simp) fun e he => ?_
  have e0 : e 0 = .slice a l.length c := by rw [← hlv]; exact he 0 _ rfl
  have e1 : e 1 = .int .i64 n := he 1 _ rfl
  clear he
  refine W_sq fun K hK => (W_text [true] (by kernel_rfl) ?_); simp only [↓List.toList_toArray, ↓rgd, ↓rgf, ↓reduceIte, Nat.reduceEqDiff, rg, ow_35]
  refine hK _ _ ?_; clear hK K
  refine W_seq ?_
  by_cases h1 : n < 1
  · have t1 : decide (n < 1) = true := by simp [h1]
    refine W_sq fun K hK => (W_text [true, true, true, true, true, true, true, true] (by kernel_rfl) ?_); simp only [↓List.toList_toArray, ↓rgd, ↓rgf, ↓reduceIte, Nat.reduceEqDiff, rg, ow_35, e0, e1, t1]
    refine hK _ _ ?_; clear hK K
    refine W_true (by simp only [evt, evc, upd_eq, Nat.reduceEqDiff, ↓reduceIte, ntT, ntF] <;> rfl) ?_
    refine W_sq fun K hK => (W_text [true, true] (by kernel_rfl) ?_); simp only [↓List.toList_toArray, ↓rgd, ↓rgf, ↓reduceIte, Nat.reduceEqDiff, rg, ow_35, e0]
    refine hK _ _ ?_; clear hK K
    refine W_ret ?_
    simp only [andThen_ret]
    refine endQ_1 (by simp only [upd_eq, Nat.reduceEqDiff, ↓reduceIte] <;> rfl) ⟨?_, rfl⟩
    rw [firstN, if_pos (.inl h1), ← hlv]; exact hl
  · have t1 : decide (n < 1) = false := by simp; omega
    by_cases h2 : (l.length : Int) < n
    · have t2 : decide ((l.length : Int) < n) = true := by simp [h2]
      refine W_sq fun K hK => (W_text [true, true, true, true, true, true, true, true] (by kernel_rfl) ?_); simp only [↓List.toList_toArray, ↓rgd, ↓rgf, ↓reduceIte, Nat.reduceEqDiff, rg, ow_35, e0, e1, t1, t2]
      refine hK _ _ ?_; clear hK K
      refine W_true (by simp only [evt, evc, upd_eq, Nat.reduceEqDiff, ↓reduceIte, ntT, ntF] <;> rfl) ?_
      refine W_sq fun K hK => (W_text [true, true] (by kernel_rfl) ?_); simp only [↓List.toList_toArray, ↓rgd, ↓rgf, ↓reduceIte, Nat.reduceEqDiff, rg, ow_35, e0]
      refine hK _ _ ?_; clear hK K
      refine W_ret ?_
      simp only [andThen_ret]
      refine endQ_1 (by simp only [upd_eq, Nat.reduceEqDiff, ↓reduceIte] <;> rfl) ⟨?_, rfl⟩
      rw [firstN, if_pos (.inr h2), ← hlv]; exact hl
    · have t2 : decide ((l.length : Int) < n) = false := by simp; omega
      refine W_sq fun K hK => (W_text [true, true, true, true, true, true, true, true] (by kernel_rfl) ?_); simp only [↓List.toList_toArray, ↓rgd, ↓rgf, ↓reduceIte, Nat.reduceEqDiff, rg, ow_35, e0, e1, t1, t2]
      refine hK _ _ ?_; clear hK K
      refine W_false (by simp only [evt, evc, upd_eq, Nat.reduceEqDiff, ↓reduceIte, ntT, ntF] <;> rfl) (W_skip ?_)
      show W _ _ _ _ _ _
      obtain ⟨k, rfl⟩ : ∃ k : Nat, n = k := ⟨n.toNat, by omega⟩
      obtain ⟨sv, hs, hsl⟩ := sl_hi hl k (by omega)
      rw [hlv] at hs
      refine W_sq fun K hK => (W_text [true, true, true, true] (by kernel_rfl) ?_); simp only [↓List.toList_toArray, ↓rgd, ↓rgf, ↓reduceIte, Nat.reduceEqDiff, rg, ow_35, e0, e1, hs]
      refine hK _ _ ?_; clear hK K
      refine W_ret (endQ_1 (by simp only [upd_eq, Nat.reduceEqDiff, ↓reduceIte] <;> rfl) ⟨?_, rfl⟩)
      rw [firstN, if_neg (by omega), SlI, List.length_take]
      have : min (k : Int).toNat l.length = k := by omega
      rw [this]
      simpa using hsl
set_option maxHeartbeats 400000 in
set_option maxRecDepth 8000 in
theorem sgscan (d : Nat) (ord : List Int) (sv : Value) (nl : Bool) (l : List It) (lv : Value) (n : Int) (w : World) (hs : SlInt w sv ord) (hsb : ord.length ≤ 2147483647) (hl : SlI w lv l) (hbig : l.length ≤ 2147483647) :
    CallK Try.prog 51 #[mkV sv d nl, lv, .int .i64 n] w fun v w' => SlI w' v (firstN n (treeG ord l)) ∧ Ext noF w w' := by
  refine calls_of_W [.tmp 6] Try.func51 rfl Try.ntmps51 Try.results51 (by simp) fun e he => ?_
  have e0 : e 0 = mkV sv d nl := he 0 _ rfl
  have e1 : e 1 = lv := he 1 _ rfl
  have e2 : e 2 = .int .i64 n := he 2 _ rfl
  clear he
  refine W_sq fun K hK => (W_text [false, true] (by kernel_rfl) ?_); simp only [↓List.toList_toArray, ↓rgd, ↓rgf, ↓reduceIte, Nat.reduceEqDiff, rg, ow_51]
  refine do_box (by simp only [evt]; exact e0) fun w1 n1 => ⟨trivial, ?_⟩
  simp only [↓List.toList_toArray, ↓rgd, ↓rgf, ↓reduceIte, Nat.reduceEqDiff, rg, ow_51]
  refine hK _ _ ?_; clear hK K
  have r1 := mk_at0 (show Row w1 w.heap.size 0 (mkL sv d nl) from n1.row)
  refine W_sq fun K hK => (W_text [true, true, true, false, true, false, true] (by kernel_rfl) ?_); simp only [↓List.toList_toArray, ↓rgd, ↓rgf, ↓reduceIte, Nat.reduceEqDiff, rg, ow_51, e1, e2, r1]
  refine do_call fn_60 (by simp only [evt, evc, upd_eq, Nat.reduceEqDiff, ↓reduceIte, maT, maC, maN, isnN, isnS] <;> rfl) (stree_ord sv ord l lv w1 (SlV.ext0 hs n1.ext) hsb (SlV.ext0 hl n1.ext) hbig) ?_
  rintro v2 w2 ⟨hS2, X2⟩
  refine ⟨trivial, ?_⟩
  simp only [↓List.toList_toArray, ↓rgd, ↓rgf, ↓reduceIte, Nat.reduceEqDiff, rg, ow_51, e2]
  refine do_call fn_35 (by simp only [evt, evc, upd_eq, Nat.reduceEqDiff, ↓reduceIte, maT, maC, maN, isnN, isnS] <;> rfl) (first_any (treeG ord l) v2 n w2 hS2) ?_
  rintro v3 w3 ⟨hS3, hw3⟩
  obtain rfl : w2 = w3 := hw3.symm
  refine ⟨trivial, ?_⟩
  simp only [↓List.toList_toArray, ↓rgd, ↓rgf, ↓reduceIte, Nat.reduceEqDiff, rg, ow_51]
  refine hK _ _ ?_; clear hK K
  exact W_ret (endQ_1 (by simp only [upd_eq, Nat.reduceEqDiff, ↓reduceIte] <;> rfl) ⟨hS3, n1.ext.tr X2⟩)
set_option maxHeartbeats 800000 in
set_option maxRecDepth 8000 in
theorem sturned_any (l : List It) (lv : Value) (w : World) (hl : SlI w lv l) (hbig : l.length ≤ 2147483647) :
    CallK Try.prog 80 #[lv] w fun v w' => SlI w' v l.reverse ∧ Ext noF w w' := by
  refine calls_of_W [.tmp 2] Try.func80 rfl Try.ntmps80 Try.results80 (by simp) fun e he => ?_
  have e0 : e 0 = lv := he 0 _ rfl
  clear he
  obtain ⟨ka, kc, hkv⟩ := SlV.shape hl
  rw [hkv] at e0
  refine W_sq fun K hK => (W_text [true] (by kernel_rfl) ?_); simp only [↓List.toList_toArray, ↓rgd, ↓rgf, ↓reduceIte, Nat.reduceEqDiff, rg, ow_80]
  refine hK _ _ ?_; clear hK K
  refine W_sq fun K hK => (W_text [true] (by kernel_rfl) ?_); simp only [↓List.toList_toArray, ↓rgd, ↓rgf, ↓reduceIte, Nat.reduceEqDiff, rg, ow_80]
  refine hK _ _ ?_; clear hK K
  have q0 := pred_wrap l.length (by omega)
  refine W_seq (W_seq ?_)
  refine W_rg fun K hK => (W_text [true, true, true, true] (by kernel_rfl) ?_); simp only [↓List.toList_toArray, ↓rgd, ↓rgf, ↓reduceIte, Nat.reduceEqDiff, rg, ow_80, e0, q0]
  refine hK _ _ ?_; clear hK K
  show W _ _ _ _ _ _
  refine W_block (W_loop (fun mm e w' => mm ≤ l.length ∧ OutE Ei w.heap.size (e 3) (l.drop mm).reverse w' ∧ Ext (fun y _ => w.heap.size ≤ y) w w' ∧ e 0 = .slice ka l.length kc ∧ e 4 = .int .i64 ((mm : Int) - 1))
    l.length ⟨Nat.le_refl _, by simp only [upd_eq, Nat.reduceEqDiff, ↓reduceIte]; rw [List.drop_length]; exact OutE.nil _ _ _, Ext.refl _ _, by simp only [upd_eq, Nat.reduceEqDiff, ↓reduceIte]; exact e0, by simp only [upd_eq, Nat.reduceEqDiff, ↓reduceIte]⟩ ?_)
  clear e0 e
  rintro mm e w' ⟨hi, hO, X, e0, e4⟩
  have sX := X.size
  refine W_seq ?_
  by_cases hlt : 0 < mm
  · have ht := ge_tt mm hlt
    refine W_sq fun K hK => (W_text [true, true] (by kernel_rfl) ?_); simp only [↓List.toList_toArray, ↓rgd, ↓rgf, ↓reduceIte, Nat.reduceEqDiff, rg, ow_80, e4, ht]
    refine hK _ _ ?_; clear hK K
    refine W_true (by simp only [evt, evc, upd_eq, Nat.reduceEqDiff, ↓reduceIte, ntT, ntF] <;> rfl) (W_skip ?_)
    show W _ _ _ _ _ _
    refine W_seq (W_block ?_)
    have hil : mm - 1 < l.length := by omega
    obtain ⟨x, hx⟩ : ∃ x, l[mm - 1]? = some x := ⟨_, List.getElem?_eq_getElem hil⟩
    obtain ⟨ib, io, hka, row⟩ := SlV.at hl hkv hil
    have hibl := SlV.lt hl (hkv.trans (by rw [hka]))
    have hk := iV_at (X.row row fun _ _ h => by omega) hx
    rw [int_pred mm hlt] at e4
    rw [hka] at e0
    refine W_rg fun K hK => (W_text [true, true, true, true, true, false, false, true] (by kernel_rfl) ?_); simp only [↓List.toList_toArray, ↓rgd, ↓rgf, ↓reduceIte, Nat.reduceEqDiff, rg, ow_80, e0, e4, hil, hk]
    refine do_bsl rfl (bs_i1 x) fun w3 n3 => ⟨trivial, ?_⟩
    simp only [↓List.toList_toArray, ↓rgd, ↓rgf, ↓reduceIte, Nat.reduceEqDiff, rg, ow_80]
    have H3 := hO.ext n3.ext
    have s3 := n3.size
    have z3 : SlV w3 2 (.slice (some ⟨w'.heap.size, 0, none⟩) 1 1) 1 (Ei.cel x) := ⟨rfl, .inr ⟨_, 0, 1, rfl, Nat.le_refl _, n3.row, n3.wok.R (Nat.le_refl _)⟩⟩
    refine do_append (by simp only [evt, evc, upd_eq, Nat.reduceEqDiff, ↓reduceIte, ntT, ntF] <;> rfl) (by simp only [evt, evc, upd_eq, Nat.reduceEqDiff, ↓reduceIte, ntT, ntF] <;> rfl) el_i rfl ni_i H3.sl z3 (by simp; omega) (by decide) (Ei.one _) fun v4 w4 a4 => ⟨trivial, ?_⟩
    obtain ⟨H4, X4⟩ := H3.app a4 (by omega)
    simp only [↓List.toList_toArray, ↓rgd, ↓rgf, ↓reduceIte, Nat.reduceEqDiff, rg, ow_80]
    refine hK _ _ ?_; clear hK K
    show W _ _ _ _ _ _
    have q1 := pred_wrap (mm - 1) (by omega)
    refine W_rg fun K hK => (W_text [true, true, true] (by kernel_rfl) ?_); simp only [↓List.toList_toArray, ↓rgd, ↓rgf, ↓reduceIte, Nat.reduceEqDiff, rg, ow_80, e4, q1]
    refine hK _ _ ?_; clear hK K
    have hd : (l.drop (mm - 1)).reverse = (l.drop mm).reverse ++ [x] := by
      rw [List.drop_eq_getElem_cons hil, List.reverse_cons, show mm - 1 + 1 = mm by omega]
      congr 2
      exact (List.getElem?_eq_some_iff.1 hx).2
    refine ⟨mm - 1, by omega, by omega, by simp only [upd_eq, Nat.reduceEqDiff, ↓reduceIte]; rw [hd]; exact H4, (X.tr (n3.ext.mono fun _ _ _ h => h.elim)).tr X4, by simp only [upd_eq, Nat.reduceEqDiff, ↓reduceIte]; rw [hka]; exact e0, by simp only [upd_eq, Nat.reduceEqDiff, ↓reduceIte]⟩
  · obtain rfl : mm = 0 := by omega
    refine W_sq fun K hK => (W_text [true, true] (by kernel_rfl) ?_); simp only [↓List.toList_toArray, ↓rgd, ↓rgf, ↓reduceIte, Nat.reduceEqDiff, rg, ow_80, e4, ge_ff]
    refine hK _ _ ?_; clear hK K
    refine W_false (by simp only [evt, evc, upd_eq, Nat.reduceEqDiff, ↓reduceIte, ntT, ntF] <;> rfl) (W_exit ?_)
    simp only [andThen_exit, inBlk_exit, andThen_normal, ↓reduceIte]
    refine W_sq fun K hK => (W_text [true, true] (by kernel_rfl) ?_); simp only [↓List.toList_toArray, ↓rgd, ↓rgf, ↓reduceIte, Nat.reduceEqDiff, rg, ow_80]
    refine hK _ _ ?_; clear hK K
    exact W_ret (endQ_1 (by simp only [upd_eq, Nat.reduceEqDiff, ↓reduceIte] <;> rfl) ⟨hO.sl, noF_of (Ext.refl _ _) X fun y o hy h => by omega⟩)
set_option maxHeartbeats 800000 in
set_option maxRecDepth 8000 in
theorem sdown_any (os : Value) (ord : List Int) (l : List It) (lv : Value) (x : It) (w : World) (hO : SlInt w os ord) (hOb : ord.length ≤ 2147483647) (hl : SlI w lv l) (hbig : l.length ≤ 2147483647) (ha : Asc O (rkI ord) l) :
    CallK Try.prog 81 #[os, lv, iV x] w fun v w' => SlI w' v (l.take (ub O (rkI ord) (rkI ord x) l)).reverse ∧ Ext noF w w' := by
  obtain ⟨a, c, hlv⟩ : ∃ a c, lv = .slice a l.length c := by
    rcases hl.2 with ⟨rfl, h⟩ | ⟨b, o, cap, rfl, _⟩
    · exact ⟨none, 0, by rw [h]⟩
    · exact ⟨_, _, rfl⟩
  have hsome : ∀ i, i < l.length → ∃ b o cap, lv = .slice (some ⟨b, o, none⟩) l.length cap ∧ Row w b o (flat Ei l) ∧ b < w.heap.size := fun i hi => by
    rcases hl.2 with ⟨_, h⟩ | ⟨b, o, cap, h1, _, h2, h3⟩
    · omega
    · exact ⟨b, o, cap, h1, h2, wokR_lt h3⟩
  have hub := ub_le O (rkI ord) (rkI ord x) l
  refine calls_of_W [.tmp 6] Try.func81 rfl Try.ntmps81 Try.results81 (by simp) fun e he => ?_
  have e0 : e 0 = os := he 0 _ rfl
  have e1 : e 1 = lv := he 1 _ rfl
  have e2 : e 2 = iV x := he 2 _ rfl
  clear he
  refine W_sq fun K hK => (W_text [false, true] (by kernel_rfl) ?_); simp only [↓List.toList_toArray, ↓rgd, ↓rgf, ↓reduceIte, Nat.reduceEqDiff, rg, ow_81]
  refine do_box (by simp only [evt]; exact e2) fun w1 n1 => ⟨trivial, ?_⟩
  simp only [↓List.toList_toArray, ↓rgd, ↓rgf, ↓reduceIte, Nat.reduceEqDiff, rg, ow_81]
  refine hK _ _ ?_; clear hK K
  refine W_sq fun K hK => (W_text [true] (by kernel_rfl) ?_); simp only [↓List.toList_toArray, ↓rgd, ↓rgf, ↓reduceIte, Nat.reduceEqDiff, rg, ow_81]
  refine hK _ _ ?_; clear hK K
  have s1 := n1.size
  refine W_seq ((W_block (Q := fun ex e w' => ex = .normal ∧ e 1 = lv ∧ e 7 = .int .i64 (ub O (rkI ord) (rkI ord x) l : Nat) ∧ Ext noF w1 w') (W_loop (fun mm e w' => ∃ i : Nat, mm = l.length - i ∧ i ≤ l.length ∧ (∀ j y, j < i → l[j]? = some y → O.lt (rkI ord x) (rkI ord y) = false) ∧ e 0 = os ∧ e 1 = lv ∧ e 5 = .pointer (some ⟨w.heap.size, 0, none⟩) ∧ e 7 = .int .i64 i ∧ Ext noF w1 w')
    l.length ⟨0, by simp, by simp, fun j y h => by omega, ?_, ?_, ?_, ?_, Ext.refl _ _⟩ ?_)).mono ?_)
  · simp only [upd_eq, Nat.reduceEqDiff, ↓reduceIte]; exact e0
  · simp only [upd_eq, Nat.reduceEqDiff, ↓reduceIte]; exact e1
  · simp only [upd_eq, Nat.reduceEqDiff, ↓reduceIte]
  · simp only [upd_eq, Nat.reduceEqDiff, ↓reduceIte]; rfl
  · clear e0 e1 e2 e
    rintro mm e w' ⟨i, rfl, hi, hlow, e0, e1, e5, e7, X⟩
    have sX := X.size
    refine W_seq ?_
    by_cases hlt : i < l.length
    · have ht := lt_tt i l.length hlt
      obtain ⟨y, hy⟩ : ∃ y, l[i]? = some y := ⟨_, List.getElem?_eq_getElem hlt⟩
      obtain ⟨b, o, cap, hlv2, row, hb⟩ := hsome i hlt
      rw [hlv2] at e1
      have ix := iV_at (X.row (n1.ext.row row fun _ _ h => h) fun _ _ h => h) hy
      have bx : rdA w' w.heap.size 0 2 = some (iV x) := (X.row n1.row fun _ _ h => h).rdA 2 (by show 2 ≤ 2; omega)
      have M1 : readsB (some (some [b, w.heap.size])) b = true := by simp [readsB]
      have M2 : readsB (some (some [b, w.heap.size])) w.heap.size = true := by simp [readsB]
      refine W_sq fun K hK => (W_draw (some (some [b, w.heap.size])) none [(0, 0, 0), (0, 1, 0), (0, 2, 0), (0, 3, 0), (0, 4, 0), (0, 5, 0), (0, 6, 0), (0, 7, 0), (0, 8, 0), (0, 9, 0), (0, 10, 0), (1, 11, 0), (0, 12, 0), (0, 13, 0)] mixed (by kernel_rfl) ?_); simp only [↓List.toList_toArray, ↓rgd, ↓rgf, ↓reduceIte, Nat.reduceEqDiff, rg, ow_81, e0, e1, e5, e7, ht, hlt, ix, bx, M1, M2]
      refine do_call fn_52 (by simp only [evt, evc, upd_eq, Nat.reduceEqDiff, ↓reduceIte, maT, maC, maN, isnN, isnS] <;> rfl) (before_ord os ord x y _ (SlV.ext0 hO ((n1.ext.tr X).tr (Ext.dr noF _ _))) hOb) ?_
      rintro _ w2 ⟨rfl, x2⟩
      refine ⟨.inr (keeps_on x2 fun z hz => ⟨?_, fun _ h => h⟩), ?_⟩
      · rw [sz_dr]
        simp only [List.mem_cons, List.not_mem_nil, or_false] at hz
        omega
      simp only [↓List.toList_toArray, ↓rgd, ↓rgf, ↓reduceIte, Nat.reduceEqDiff, rg, ow_81]
      refine hK _ _ ?_; clear hK K
      have x2 := x2.od
      cases hq : O.lt (rkI ord x) (rkI ord y) with
      | false =>
        refine W_true (by simp only [evt, evc, upd_eq, Nat.reduceEqDiff, ↓reduceIte, ntT, ntF] <;> rfl) (W_skip ?_)
        show W _ _ _ _ _ _
        have q1 := wadd1 i (by omega)
        refine W_block ?_
        refine W_rg fun K hK => (W_text [true, true, true] (by kernel_rfl) ?_); simp only [↓List.toList_toArray, ↓rgd, ↓rgf, ↓reduceIte, Nat.reduceEqDiff, rg, ow_81, e7, q1]
        refine hK _ _ ?_; clear hK K
        refine ⟨_, ?_, i + 1, rfl, hlt, fun j z hj hz => ?_, ?_, ?_, ?_, ?_, X.tr x2⟩
        · omega
        · rcases Nat.lt_or_ge j i with g | g
          · exact hlow j z g hz
          · obtain rfl : j = i := by omega
            rw [hy] at hz; cases hz; exact hq
        · simp only [upd_eq, Nat.reduceEqDiff, ↓reduceIte]; exact e0
        · simp only [upd_eq, Nat.reduceEqDiff, ↓reduceIte]; rw [e1, hlv2]
        · simp only [upd_eq, Nat.reduceEqDiff, ↓reduceIte]; exact e5
        · simp only [upd_eq, Nat.reduceEqDiff, ↓reduceIte]
      | true =>
        have hu := ub_at O (rkI ord) ha hi hlow (fun z hz => by rw [hy] at hz; cases hz; exact hq)
        refine W_false (by simp only [evt, evc, upd_eq, Nat.reduceEqDiff, ↓reduceIte, ntT, ntF] <;> rfl) (W_exit ?_)
        simp only [andThen_exit, inBlk_exit, ↓reduceIte]
        refine ⟨trivial, ?_, ?_, X.tr x2⟩
        · simp only [upd_eq, Nat.reduceEqDiff, ↓reduceIte]; rw [e1, hlv2]
        · simp only [upd_eq, Nat.reduceEqDiff, ↓reduceIte]; rw [e7, hu]
    · obtain rfl : i = l.length := by omega
      have ht := lt_ff l.length l.length (by omega)
      have hu := ub_at O (rkI ord) ha (Nat.le_refl _) hlow (fun z hz => by have := (List.getElem?_eq_some_iff.1 hz).1; omega)
      rw [hlv] at e1
      refine W_sq fun K hK => (W_draw (some (some [])) none [(0, 0, 0), (0, 1, 0), (0, 2, 0), (0, 3, 0), (0, 4, 0), (0, 5, 0), (0, 6, 0), (0, 7, 0), (0, 8, 0), (0, 9, 0), (0, 10, 0), (1, 11, 0), (0, 12, 0), (0, 13, 0)] mixed (by kernel_rfl) ?_); simp only [↓List.toList_toArray, ↓rgd, ↓rgf, ↓reduceIte, Nat.reduceEqDiff, rg, ow_81, e0, e1, e5, e7, ht]
      refine hK _ _ ?_; clear hK K
      refine W_false (by simp only [evt, evc, upd_eq, Nat.reduceEqDiff, ↓reduceIte, ntT, ntF] <;> rfl) (W_exit ?_)
      simp only [andThen_exit, inBlk_exit, ↓reduceIte]
      refine ⟨trivial, ?_, ?_, X.tr (Ext.dr _ _ _)⟩
      · simp only [upd_eq, Nat.reduceEqDiff, ↓reduceIte]; rw [e1, hlv]
      · simp only [upd_eq, Nat.reduceEqDiff, ↓reduceIte]; rw [e7, hu]
  · clear e0 e1 e2 e
    rintro ex e w' ⟨rfl, e1, e7, X⟩
    show W _ _ _ _ _ _
    have X1 := n1.ext.tr X
    obtain ⟨sv, hs, hsl⟩ := sl_hi (SlV.ext0 hl X1) (ub O (rkI ord) (rkI ord x) l) hub
    have hS : SlI w' sv (l.take (ub O (rkI ord) (rkI ord x) l)) := by
      rw [SlI, List.length_take, Nat.min_eq_left hub]; exact hsl
    refine W_sq fun K hK => (W_text [true, true, true, false, true] (by kernel_rfl) ?_); simp only [↓List.toList_toArray, ↓rgd, ↓rgf, ↓reduceIte, Nat.reduceEqDiff, rg, ow_81, e1, e7, hs]
    refine do_call fn_80 (by simp only [evt, evc, upd_eq, Nat.reduceEqDiff, ↓reduceIte, maT, maC, maN, isnN, isnS] <;> rfl) (sturned_any _ sv w' hS (by rw [List.length_take]; omega)) ?_
    rintro v2 w2 ⟨hS2, X2⟩
    refine ⟨trivial, ?_⟩
    simp only [↓List.toList_toArray, ↓rgd, ↓rgf, ↓reduceIte, Nat.reduceEqDiff, rg, ow_81]
    refine hK _ _ ?_; clear hK K
    exact W_ret (endQ_1 (by simp only [upd_eq, Nat.reduceEqDiff, ↓reduceIte] <;> rfl) ⟨hS2, X1.tr X2⟩)
set_option maxHeartbeats 800000 in
set_option maxRecDepth 8000 in
theorem sgreverse (d : Nat) (ord : List Int) (sv : Value) (nl : Bool) (l : List It) (lv : Value) (n : Int) (w : World) (hs : SlInt w sv ord) (hsb : ord.length ≤ 2147483647) (hl : SlI w lv l) (hbig : l.length ≤ 2147483647) :
    CallK Try.prog 47 #[mkV sv d nl, lv, .int .i64 n] w fun v w' => SlI w' v (firstN n (treeG ord l).reverse) ∧ Ext noF w w' := by
  have htl := treeG_len ord l
  refine calls_of_W [.tmp 6] Try.func47 rfl Try.ntmps47 Try.results47 (by simp) fun e he => ?_
  have e0 : e 0 = mkV sv d nl := he 0 _ rfl
  have e1 : e 1 = lv := he 1 _ rfl
  have e2 : e 2 = .int .i64 n := he 2 _ rfl
  clear he
  refine W_sq fun K hK => (W_text [false, true] (by kernel_rfl) ?_); simp only [↓List.toList_toArray, ↓rgd, ↓rgf, ↓reduceIte, Nat.reduceEqDiff, rg, ow_47]
  refine do_box (by simp only [evt]; exact e0) fun w1 n1 => ⟨trivial, ?_⟩
  simp only [↓List.toList_toArray, ↓rgd, ↓rgf, ↓reduceIte, Nat.reduceEqDiff, rg, ow_47]
  refine hK _ _ ?_; clear hK K
  have r1 := mk_at0 (show Row w1 w.heap.size 0 (mkL sv d nl) from n1.row)
  refine W_sq fun K hK => (W_text [true, true, true, false, false, true, false, true] (by kernel_rfl) ?_); simp only [↓List.toList_toArray, ↓rgd, ↓rgf, ↓reduceIte, Nat.reduceEqDiff, rg, ow_47, e1, e2, r1]
  refine do_call fn_60 (by simp only [evt, evc, upd_eq, Nat.reduceEqDiff, ↓reduceIte, maT, maC, maN, isnN, isnS] <;> rfl) (stree_ord sv ord l lv w1 (SlV.ext0 hs n1.ext) hsb (SlV.ext0 hl n1.ext) hbig) ?_
  rintro v2 w2 ⟨hS2, X2⟩
  refine ⟨trivial, ?_⟩
  simp only [↓List.toList_toArray, ↓rgd, ↓rgf, ↓reduceIte, Nat.reduceEqDiff, rg, ow_47]
  refine do_call fn_80 (by simp only [evt, evc, upd_eq, Nat.reduceEqDiff, ↓reduceIte, maT, maC, maN, isnN, isnS] <;> rfl) (sturned_any (treeG ord l) v2 w2 hS2 (by omega)) ?_
  rintro v3 w3 ⟨hS3, X3⟩
  refine ⟨trivial, ?_⟩
  simp only [↓List.toList_toArray, ↓rgd, ↓rgf, ↓reduceIte, Nat.reduceEqDiff, rg, ow_47, e2]
  refine do_call fn_35 (by simp only [evt, evc, upd_eq, Nat.reduceEqDiff, ↓reduceIte, maT, maC, maN, isnN, isnS] <;> rfl) (first_any _ v3 n w3 hS3) ?_
  rintro v4 w4 ⟨hS4, hw4⟩
  obtain rfl : w3 = w4 := hw4.symm
  refine ⟨trivial, ?_⟩
  simp only [↓List.toList_toArray, ↓rgd, ↓rgf, ↓reduceIte, Nat.reduceEqDiff, rg, ow_47]
  refine hK _ _ ?_; clear hK K
  exact W_ret (endQ_1 (by simp only [upd_eq, Nat.reduceEqDiff, ↓reduceIte] <;> rfl) ⟨hS4, (n1.ext.tr X2).tr X3⟩)
set_option maxHeartbeats 400000 in
set_option maxRecDepth 8000 in
theorem sgdescend (d : Nat) (ord : List Int) (sv : Value) (nl : Bool) (l : List It) (lv : Value) (q : It) (n : Int) (w : World) (hs : SlInt w sv ord) (hsb : ord.length ≤ 2147483647) (hl : SlI w lv l) (hbig : l.length ≤ 2147483647) :
    CallK Try.prog 48 #[mkV sv d nl, lv, iV q, .int .i64 n] w fun v w' => SlI w' v (firstN n (((treeG ord l).take (ub O (rkI ord) (rkI ord q) (treeG ord l))).reverse)) ∧ Ext noF w w' := by
  refine calls_of_W [.tmp 8] Try.func48 rfl Try.ntmps48 Try.results48 (by simp) fun e he => ?_
  have e0 : e 0 = mkV sv d nl := he 0 _ rfl
  have e1 : e 1 = lv := he 1 _ rfl
  have e2 : e 2 = iV q := he 2 _ rfl
  have e3 : e 3 = .int .i64 n := he 3 _ rfl
  clear he
  have htl := treeG_len ord l
  refine W_sq fun K hK => (W_text [false, false, true] (by kernel_rfl) ?_); simp only [↓List.toList_toArray, ↓rgd, ↓rgf, ↓reduceIte, Nat.reduceEqDiff, rg, ow_48]
  refine do_box (by simp only [evt]; exact e0) fun w0 n0 => ⟨trivial, ?_⟩
  simp only [↓List.toList_toArray, ↓rgd, ↓rgf, ↓reduceIte, Nat.reduceEqDiff, rg, ow_48]
  refine do_box (by simp only [evt, upd_eq, Nat.reduceEqDiff, ↓reduceIte]; exact e2) fun wq nq => ⟨trivial, ?_⟩
  simp only [↓List.toList_toArray, ↓rgd, ↓rgf, ↓reduceIte, Nat.reduceEqDiff, rg, ow_48]
  refine hK _ _ ?_; clear hK K
  have s0 := n0.size
  have sq := nq.size
  have X0 := n0.ext.tr nq.ext
  have r1 := mk_at0 (nq.ext.row (show Row w0 w.heap.size 0 (mkL sv d nl) from n0.row) fun _ _ h => h)
  have iq := iXi_at (show Row wq w0.heap.size 0 (Ei.cel q) from nq.row)
  have M1 : readsB (some (some [w.heap.size, w0.heap.size])) w.heap.size = true := by simp [readsB]
  have M2 : readsB (some (some [w.heap.size, w0.heap.size])) w0.heap.size = true := by simp [readsB]
  refine W_sq fun K hK => (W_free (some (some [w.heap.size, w0.heap.size])) (.take 0 (.take 1 (.take 2 (.take 3 (.take 4 (.take 6 (.take 8 (.act 5 (.act 7 (.bar 9 (.take 10 .nil))))))))))) mixed (by kernel_rfl) ?_); simp only [↓List.toList_toArray, ↓rgd, ↓rgf, ↓reduceIte, Nat.reduceEqDiff, rg, ow_48, e1, e3, r1, iq, M1, M2]
  refine do_call fn_60 (by simp only [evt, evc, upd_eq, Nat.reduceEqDiff, ↓reduceIte, maT, maC, maN, isnN, isnS] <;> rfl) (stree_ord sv ord l lv _ (SlV.ext0 hs (X0.tr (Ext.dr _ _ _))) hsb (SlV.ext0 hl (X0.tr (Ext.dr _ _ _))) hbig) ?_
  rintro v2 w2 ⟨hS2, X2⟩
  refine ⟨.inr (keeps_on X2 fun y hy => ⟨?_, fun _ g => g⟩), ?_⟩
  · rw [sz_dr]
    simp only [List.mem_cons, List.not_mem_nil, or_false] at hy
    omega
  have X2 := X2.od
  have s2 := X2.size
  have X02 := X0.tr X2
  simp only [↓List.toList_toArray, ↓rgd, ↓rgf, ↓reduceIte, Nat.reduceEqDiff, rg, ow_48]
  refine do_call fn_81 (by simp only [evt, evc, upd_eq, Nat.reduceEqDiff, ↓reduceIte, maT, maC, maN, isnN, isnS] <;> rfl) (sdown_any sv ord (treeG ord l) v2 q w2 (SlV.ext0 hs X02) hsb hS2 (by omega) (treeG_asc ord l)) ?_
  rintro v3 w3 ⟨hS3, X3⟩
  refine ⟨.inr (keeps_on X3 fun y hy => ⟨?_, fun _ g => g⟩), ?_⟩
  · simp only [List.mem_cons, List.not_mem_nil, or_false] at hy
    omega
  simp only [↓List.toList_toArray, ↓rgd, ↓rgf, ↓reduceIte, Nat.reduceEqDiff, rg, ow_48, e3]
  refine do_call fn_35 (by simp only [evt, evc, upd_eq, Nat.reduceEqDiff, ↓reduceIte, maT, maC, maN, isnN, isnS] <;> rfl) (first_any _ v3 n w3 hS3) ?_
  rintro v4 w4 ⟨hS4, hw4⟩
  obtain rfl : w3 = w4 := hw4.symm
  refine ⟨trivial, ?_⟩
  simp only [↓List.toList_toArray, ↓rgd, ↓rgf, ↓reduceIte, Nat.reduceEqDiff, rg, ow_48]
  refine hK _ _ ?_; clear hK K
  exact W_ret (endQ_1 (by simp only [upd_eq, Nat.reduceEqDiff, ↓reduceIte] <;> rfl) ⟨hS4, X02.tr X3⟩)
end Go.Proofs.Ytanmjbkbdmeckaa
/-
  The law on Get. No condition.
-/
set_option linter.unusedSimpArgs false
set_option linter.unusedVariables false
namespace Go.Proofs.Ytanmjbkbdmeckaa
open Go Go.Proofs
/-- What is found for each key. -/
def gets (ord : List Int) (xs ks : List It) : List (It × Bool) := ks.map fun k => foO (at? O (rkI ord) (rkI ord k) xs)
theorem gets_len (ord : List Int) (xs ks : List It) : (gets ord xs ks).length = ks.length := by simp [gets]
theorem gets_succ {ord : List Int} {xs ks : List It} {k : Nat} {x : It} (hx : ks[k]? = some x) : gets ord xs (ks.take (k + 1)) = gets ord xs (ks.take k) ++ [foO (at? O (rkI ord) (rkI ord x) xs)] := by rw [take_snoc hx]; simp [gets]
theorem nth_nat (l : List It) (i : Nat) : nth l (i : Int) = l[i]? := by unfold nth; rw [if_pos (by omega)]; simp
def exK : List It := [(3, 0), (4, 0), (9, 1)]
theorem bs_exK : bsV Try.prog 25 3 [(0, iV (3, 0)), (1, iV (4, 0)), (2, iV (9, 1))] = some (33, flat Ei exK) := by kernel_rfl
set_option maxHeartbeats 400000 in
set_option maxRecDepth 8000 in
theorem exKeys_any (w : World) : CallK Try.prog 19 #[] w fun v w' => SlI w' v exK ∧ Ext noF w w' := by
  refine calls_of_W (args := []) [.tmp 0] Try.func19 rfl Try.ntmps19 Try.results19 (by simp) fun e he => ?_
  clear he
  refine W_sq fun K hK => (W_text [true] (by kernel_rfl) ?_); simp only [↓List.toList_toArray, ↓rgd, ↓rgf, ↓reduceIte, Nat.reduceEqDiff, rg]
  refine hK _ _ ?_; clear hK K
  refine W_sq fun K hK => (W_text [true, true, true, false, true] (by kernel_rfl) ?_); simp only [↓List.toList_toArray, ↓rgd, ↓rgf, ↓reduceIte, Nat.reduceEqDiff, rg, bu_item, bu_itemK]
  refine do_bsl rfl bs_exK fun w1 n1 => ⟨trivial, ?_⟩
  simp only [↓List.toList_toArray, ↓rgd, ↓rgf, ↓reduceIte, Nat.reduceEqDiff, rg]
  refine hK _ _ ?_; clear hK K
  exact W_ret (endQ_1 (by simp only [upd_eq, Nat.reduceEqDiff, ↓reduceIte] <;> rfl) ⟨⟨rfl, .inr ⟨_, 0, 3, rfl, Nat.le_refl _, n1.row, n1.wok.R (Nat.le_refl _)⟩⟩, n1.ext⟩)
set_option maxHeartbeats 1000000 in
set_option maxRecDepth 8000 in
theorem impl_bget (d : Nat) (hd : DOk d) (ord : List Int) (sv : Value) (nl : Bool) (l : List It) (lv : Value) (ks : List It) (kv : Value) (w : World) (hs : SlInt w sv ord) (hsb : ord.length ≤ 2147483647) (hl : SlI w lv l) (hbig : l.length ≤ 2147483647) (hks : SlI w kv ks) (hkb : ks.length ≤ 2147483647) :
    CallK Try.prog 45 #[mkV sv d nl, lv, kv] w fun v w' => SlV w' 3 v ks.length (flat Ef (gets ord (treeG ord l) ks)) ∧ Ext noF w w' := by
  refine calls_of_W [.tmp 6] Try.func45 rfl Try.ntmps45 Try.results45 (by simp) fun e he => ?_
  have e0 : e 0 = mkV sv d nl := he 0 _ rfl
  have e1 : e 1 = lv := he 1 _ rfl
  have e2 : e 2 = kv := he 2 _ rfl
  clear he
  obtain ⟨ka, kc, hkv⟩ := hks.shape
  rw [hkv] at e2
  have htl := treeG_len ord l
  obtain ⟨hd2, hd3⟩ := hd.of
  refine W_sq fun K hK => (W_text [false, true] (by kernel_rfl) ?_); simp only [↓List.toList_toArray, ↓rgd, ↓rgf, ↓reduceIte, Nat.reduceEqDiff, rg, ow_45]
  refine do_box (by simp only [evt]; exact e0) fun w1 n1 => ⟨trivial, ?_⟩
  simp only [↓List.toList_toArray, ↓rgd, ↓rgf, ↓reduceIte, Nat.reduceEqDiff, rg, ow_45]
  refine hK _ _ ?_; clear hK K
  have rm := mk_at (show Row w1 w.heap.size 0 (mkL sv d nl) from n1.row)
  refine W_sq fun K hK => (W_text [true, true, false, true] (by kernel_rfl) ?_); simp only [↓List.toList_toArray, ↓rgd, ↓rgf, ↓reduceIte, Nat.reduceEqDiff, rg, ow_45, e1, rm]
  refine do_call fn_53 (by simp only [evt, evc, upd_eq, Nat.reduceEqDiff, ↓reduceIte, maT, maC, maN, isnN, isnS] <;> rfl) (growB_any d hd ord sv nl l lv w1 (SlV.ext0 hs n1.ext) hsb (SlV.ext0 hl n1.ext) (by omega)) ?_
  rintro _ w2 ⟨X2, t, B, m, F, rfl, hbt, htw, hFt, htl2, hM, hmw, hmt, hFw, hBw⟩
  have X2 := n1.ext.tr X2
  have sX2 := X2.size
  refine ⟨trivial, ?_⟩
  simp only [↓List.toList_toArray, ↓rgd, ↓rgf, ↓reduceIte, Nat.reduceEqDiff, rg, ow_45]
  refine hK _ _ ?_; clear hK K
  have hml := hM.mlt
  have hltF := hM.lt
  clear n1
  refine W_sq fun K hK => (W_text [true] (by kernel_rfl) ?_); simp only [↓List.toList_toArray, ↓rgd, ↓rgf, ↓reduceIte, Nat.reduceEqDiff, rg, ow_45]
  refine hK _ _ ?_; clear hK K

  refine W_seq (W_seq ?_)
  refine W_rg fun K hK => (W_text [true, true, true] (by kernel_rfl) ?_); simp only [↓List.toList_toArray, ↓rgd, ↓rgf, ↓reduceIte, Nat.reduceEqDiff, rg, ow_45, e2]
  refine hK _ _ ?_; clear hK K
  show W _ _ _ _ _ _
  have hk3 := SlV.ext0 hks X2
  refine W_block (W_loop (fun mm e w' => ∃ k : Nat, mm = ks.length - k ∧ k ≤ ks.length ∧ e 14 = .slice ka ks.length kc ∧ e 15 = .int .i64 ks.length ∧ e 16 = .int .i64 k ∧ e 7 = ptr t ∧ Outs w2.heap.size (e 8) (gets ord (treeG ord l) (ks.take k)) w' ∧ Ext (fun y _ => w2.heap.size ≤ y) w2 w')
    ks.length ⟨0, by simp, by simp, by simp only [upd_eq, Nat.reduceEqDiff, ↓reduceIte], by simp only [upd_eq, Nat.reduceEqDiff, ↓reduceIte], by simp only [upd_eq, Nat.reduceEqDiff, ↓reduceIte]; rfl, by simp only [upd_eq, Nat.reduceEqDiff, ↓reduceIte], by simp only [upd_eq, Nat.reduceEqDiff, ↓reduceIte]; exact Outs.nil _ _, Ext.refl _ _⟩ ?_)
  clear e0 e1 e2 e
  rintro mm e w' ⟨k, rfl, hk, eS, eL, eI, e7, hO, X⟩
  by_cases hlt : k < ks.length
  · have ht := lt_tt k ks.length hlt
    refine W_sq fun K hK => (W_text [true] (by kernel_rfl) ?_); simp only [↓List.toList_toArray, ↓rgd, ↓rgf, ↓reduceIte, Nat.reduceEqDiff, rg, ow_45, eL, eI, ht]
    refine hK _ _ ?_; clear hK K
    refine W_seq (W_true (by simp only [evt, evc, upd_eq, Nat.reduceEqDiff, ↓reduceIte, ntT, ntF] <;> rfl) (W_skip ?_))
    show W _ _ _ _ _ _
    obtain ⟨x, hx⟩ : ∃ x, ks[k]? = some x := ⟨_, List.getElem?_eq_getElem hlt⟩
    obtain ⟨ib, io, hka, row⟩ := hks.at hkv hlt
    have hibl := hks.lt (hkv.trans (by rw [hka]))
    have ixx := iV_at (X.row (X2.row row fun _ _ h => h) (fun _ _ h => by have := h; omega)) hx
    rw [hka] at eS
    refine W_seq (W_block ?_)
    refine W_sq fun K hK => (W_text [true, true, false, false] (by kernel_rfl) ?_); simp only [↓List.toList_toArray, ↓rgd, ↓rgf, ↓reduceIte, Nat.reduceEqDiff, rg, ow_45, eS, eI, hlt, ixx]
    refine do_alloc z_item fun w2 n2 => ⟨trivial, ?_⟩
    simp only [↓List.toList_toArray, ↓rgd, ↓rgf, ↓reduceIte, Nat.reduceEqDiff, rg, ow_45]
    refine do_store (v := iV x) (by simp only [evt, evc, upd_eq, Nat.reduceEqDiff, ↓reduceIte, ntT, ntF] <;> rfl) (by simp only [evt, evc, upd_eq, Nat.reduceEqDiff, ↓reduceIte, ntT, ntF] <;> rfl) sz_33 rfl n2.wok (by decide) (Ei.one x) fun w3 x3 r3 s3 => ⟨trivial, ?_⟩
    simp only [↓List.toList_toArray, ↓rgd, ↓rgf, ↓reduceIte, Nat.reduceEqDiff, rg, ow_45]
    refine hK _ _ ?_; clear hK K
    have s2 := n2.size
    have X3 : Ext noF w' w3 := noF_of n2.ext x3 fun y o hy h => by simp only [rng] at h; omega
    have s3 := X3.size
    have ix3 := iXi_at (show Row w3 w'.heap.size 0 (Ei.cel x) from r3)
    rw [← hka] at eS
    have hMk := (hM.extG X (fun y o h => by have := hltF y o h; omega) fun y o g => by omega).ext X3
    have hbk : BAt w3 t m := X3.rd (X.rd hbt fun g => by omega) fun g => g
    refine W_rg fun K hK => (W_text [true, true, true, true, false, false, false, false, true] (by kernel_rfl) ?_); simp only [↓List.toList_toArray, ↓rgd, ↓rgf, ↓reduceIte, Nat.reduceEqDiff, rg, ow_45, e7, ix3]
    refine do_call fn_78 (vs := #[ptr t, itV x]) (by simp only [evt, evc, upd_eq, Nat.reduceEqDiff, ↓reduceIte, maT, maC, maN, isnN, isnS] <;> rfl) (get_any t B m (degOf d) ord hd2 hd3 1 (treeG ord l) F x w3 hMk (by omega) hbk) ?_
    rintro _ w4 ⟨rfl, X4⟩
    refine ⟨trivial, ?_⟩
    simp only [↓List.toList_toArray, ↓rgd, ↓rgf, ↓reduceIte, Nat.reduceEqDiff, rg, ow_45]
    refine do_call fn_54 (by simp only [evt, evc, upd_eq, Nat.reduceEqDiff, ↓reduceIte, maT, maC, maN, isnN, isnS] <;> rfl) (found_any _ w4) ?_
    rintro _ w5 ⟨rfl, X5⟩
    refine ⟨trivial, ?_⟩
    simp only [↓List.toList_toArray, ↓rgd, ↓rgf, ↓reduceIte, Nat.reduceEqDiff, rg, ow_45]
    refine do_bsl rfl (bs_fo1 _) fun w6 n6 => ⟨trivial, ?_⟩
    simp only [↓List.toList_toArray, ↓rgd, ↓rgf, ↓reduceIte, Nat.reduceEqDiff, rg, ow_45]
    have s6 := n6.size
    have sX := X.size
    have X36 := (X4.tr X5).tr n6.ext
    have X06 := X3.tr X36
    have s36 := X06.size
    have s45 := X4.size
    have s56 := X5.size
    have hfl : (gets ord (treeG ord l) (ks.take k)).length = k := by rw [gets_len, List.length_take]; omega
    have hx5 : SlV w6 3 (.slice (some ⟨w5.heap.size, 0, none⟩) 1 1) 1 (Ef.cel (foO (at? O (rkI ord) (rkI ord x) (treeG ord l)))) := ⟨rfl, .inr ⟨_, 0, 1, rfl, Nat.le_refl _, n6.row, n6.wok.R (Nat.le_refl _)⟩⟩
    refine do_append (by simp only [evt, evc, upd_eq, Nat.reduceEqDiff, ↓reduceIte, ntT, ntF] <;> rfl) (by simp only [evt, evc, upd_eq, Nat.reduceEqDiff, ↓reduceIte, ntT, ntF] <;> rfl) el_fo rfl ni_fo (hO.ext X06).sl hx5 (by omega) (by decide) (Ef.one _) fun v7 w7 a7 => ?_
    obtain ⟨hO7, X7⟩ := (hO.ext X06).app a7 (by omega)
    refine ⟨trivial, ?_⟩
    simp only [↓List.toList_toArray, ↓rgd, ↓rgf, ↓reduceIte, Nat.reduceEqDiff, rg, ow_45]
    refine hK _ _ ?_; clear hK K
    show W _ _ _ _ _ _
    have q1 := wadd1 k (by omega)
    refine W_rg fun K hK => (W_text [true, true] (by kernel_rfl) ?_); simp only [↓List.toList_toArray, ↓rgd, ↓rgf, ↓reduceIte, Nat.reduceEqDiff, rg, ow_45, eI, q1]
    refine hK _ _ ?_; clear hK K
    refine ⟨_, ?_, k + 1, rfl, hlt, by simp only [upd_eq, Nat.reduceEqDiff, ↓reduceIte]; exact eS, by simp only [upd_eq, Nat.reduceEqDiff, ↓reduceIte]; exact eL, by simp only [upd_eq, Nat.reduceEqDiff, ↓reduceIte], by simp only [upd_eq, Nat.reduceEqDiff, ↓reduceIte]; exact e7, by simp only [upd_eq, Nat.reduceEqDiff, ↓reduceIte]; rw [gets_succ hx]; exact hO7, (X.tr (X06.mono fun _ _ _ h => h.elim)).tr X7⟩
    omega
  · obtain rfl : k = ks.length := by omega
    have ht := lt_ff ks.length ks.length (by omega)
    refine W_sq fun K hK => (W_text [true] (by kernel_rfl) ?_); simp only [↓List.toList_toArray, ↓rgd, ↓rgf, ↓reduceIte, Nat.reduceEqDiff, rg, ow_45, eL, eI, ht]
    refine hK _ _ ?_; clear hK K
    refine W_seq (W_false (by simp only [evt, evc, upd_eq, Nat.reduceEqDiff, ↓reduceIte, ntT, ntF] <;> rfl) (W_exit ?_))
    simp only [andThen_exit, inBlk_exit, andThen_normal, ↓reduceIte]
    refine W_sq fun K hK => (W_text [true, true] (by kernel_rfl) ?_); simp only [↓List.toList_toArray, ↓rgd, ↓rgf, ↓reduceIte, Nat.reduceEqDiff, rg, ow_45]
    refine hK _ _ ?_; clear hK K
    rw [List.take_length] at hO
    refine W_ret (endQ_1 (by simp only [upd_eq, Nat.reduceEqDiff, ↓reduceIte] <;> rfl) ⟨?_, noF_of X2 X fun y o hy h => by omega⟩)
    have := hO.sl
    rw [gets_len] at this
    exact this
set_option maxHeartbeats 800000 in
set_option maxRecDepth 8000 in
theorem sgget (d : Nat) (hd : DOk d) (ord : List Int) (sv : Value) (nl : Bool) (l : List It) (lv : Value) (ks : List It) (kv : Value) (w : World) (hs : SlInt w sv ord) (hsb : ord.length ≤ 2147483647) (hl : SlI w lv l) (hbig : l.length ≤ 2147483647) (hks : SlI w kv ks) (hkb : ks.length ≤ 2147483647) :
    CallK Try.prog 46 #[mkV sv d nl, lv, kv] w fun v w' => SlV w' 3 v ks.length (flat Ef (gets ord (treeG ord l) ks)) ∧ Ext noF w w' := by
  refine calls_of_W [.tmp 6] Try.func46 rfl Try.ntmps46 Try.results46 (by simp) fun e he => ?_
  have e0 : e 0 = mkV sv d nl := he 0 _ rfl
  have e1 : e 1 = lv := he 1 _ rfl
  have e2 : e 2 = kv := he 2 _ rfl
  clear he
  obtain ⟨ka, kc, hkv⟩ := hks.shape
  rw [hkv] at e2
  have htl := treeG_len ord l
  refine W_sq fun K hK => (W_text [false, true] (by kernel_rfl) ?_); simp only [↓List.toList_toArray, ↓rgd, ↓rgf, ↓reduceIte, Nat.reduceEqDiff, rg, ow_46]
  refine do_box (by simp only [evt]; exact e0) fun w1 n1 => ⟨trivial, ?_⟩
  simp only [↓List.toList_toArray, ↓rgd, ↓rgf, ↓reduceIte, Nat.reduceEqDiff, rg, ow_46]
  refine hK _ _ ?_; clear hK K
  have s1 := n1.size
  have rm0 := show Row w1 w.heap.size 0 (mkL sv d nl) from n1.row
  have r1 := mk_at0 rm0
  refine W_sq fun K hK => (W_text [true, true, true, false, true] (by kernel_rfl) ?_); simp only [↓List.toList_toArray, ↓rgd, ↓rgf, ↓reduceIte, Nat.reduceEqDiff, rg, ow_46, e1, r1]
  refine do_call fn_60 (by simp only [evt, evc, upd_eq, Nat.reduceEqDiff, ↓reduceIte, maT, maC, maN, isnN, isnS] <;> rfl) (stree_ord sv ord l lv w1 (SlV.ext0 hs n1.ext) hsb (SlV.ext0 hl n1.ext) hbig) ?_
  rintro tv w20 ⟨hT, X2⟩
  refine ⟨trivial, ?_⟩
  simp only [↓List.toList_toArray, ↓rgd, ↓rgf, ↓reduceIte, Nat.reduceEqDiff, rg, ow_46]
  refine hK _ _ ?_; clear hK K
  have X20 := n1.ext.tr X2
  have rm2 := X2.row rm0 fun _ _ h => h
  have s20 := X2.size
  have ss := X20.size
  have hs2 := SlV.ext0 hs X20
  clear n1
  refine W_sq fun K hK => (W_text [true] (by kernel_rfl) ?_); simp only [↓List.toList_toArray, ↓rgd, ↓rgf, ↓reduceIte, Nat.reduceEqDiff, rg, ow_46]
  refine hK _ _ ?_; clear hK K

  refine W_seq (W_seq ?_)
  refine W_rg fun K hK => (W_text [true, true, true] (by kernel_rfl) ?_); simp only [↓List.toList_toArray, ↓rgd, ↓rgf, ↓reduceIte, Nat.reduceEqDiff, rg, ow_46, e2]
  refine hK _ _ ?_; clear hK K
  show W _ _ _ _ _ _
  refine W_block (W_loop (fun mm e w' => ∃ k : Nat, mm = ks.length - k ∧ k ≤ ks.length ∧ e 18 = .slice ka ks.length kc ∧ e 19 = .int .i64 ks.length ∧ e 20 = .int .i64 k ∧ e 3 = ptr w.heap.size ∧ e 7 = tv ∧ Outs w20.heap.size (e 8) (gets ord (treeG ord l) (ks.take k)) w' ∧ Ext (fun y _ => w20.heap.size ≤ y) w20 w')
    ks.length ⟨0, by simp, by simp, by simp only [upd_eq, Nat.reduceEqDiff, ↓reduceIte], by simp only [upd_eq, Nat.reduceEqDiff, ↓reduceIte], by simp only [upd_eq, Nat.reduceEqDiff, ↓reduceIte]; rfl, by simp only [upd_eq, Nat.reduceEqDiff, ↓reduceIte]; rfl, by simp only [upd_eq, Nat.reduceEqDiff, ↓reduceIte], by simp only [upd_eq, Nat.reduceEqDiff, ↓reduceIte]; exact Outs.nil _ _, Ext.refl _ _⟩ ?_)
  clear e0 e1 e2 e
  rintro mm e w' ⟨k, rfl, hk, eS, eL, eI, e3, e7, hO, X⟩
  by_cases hlt : k < ks.length
  · have ht := lt_tt k ks.length hlt
    refine W_sq fun K hK => (W_text [true] (by kernel_rfl) ?_); simp only [↓List.toList_toArray, ↓rgd, ↓rgf, ↓reduceIte, Nat.reduceEqDiff, rg, ow_46, eL, eI, ht]
    refine hK _ _ ?_; clear hK K
    refine W_seq (W_true (by simp only [evt, evc, upd_eq, Nat.reduceEqDiff, ↓reduceIte, ntT, ntF] <;> rfl) (W_skip ?_))
    show W _ _ _ _ _ _
    obtain ⟨x, hx⟩ : ∃ x, ks[k]? = some x := ⟨_, List.getElem?_eq_getElem hlt⟩
    obtain ⟨ib, io, hka, row⟩ := hks.at hkv hlt
    have hibl := hks.lt (hkv.trans (by rw [hka]))
    have ixx := iV_at ((X).row (X20.row row fun _ _ h => h) (fun _ _ h => by have := h; omega)) hx
    rw [hka] at eS
    refine W_seq (W_block ?_)
    refine W_sq fun K hK => (W_text [true, true, false, false] (by kernel_rfl) ?_); simp only [↓List.toList_toArray, ↓rgd, ↓rgf, ↓reduceIte, Nat.reduceEqDiff, rg, ow_46, eS, eI, hlt, ixx]
    refine do_alloc z_item fun w2 n2 => ⟨trivial, ?_⟩
    simp only [↓List.toList_toArray, ↓rgd, ↓rgf, ↓reduceIte, Nat.reduceEqDiff, rg, ow_46]
    refine do_store (v := iV x) (by simp only [evt, evc, upd_eq, Nat.reduceEqDiff, ↓reduceIte, ntT, ntF] <;> rfl) (by simp only [evt, evc, upd_eq, Nat.reduceEqDiff, ↓reduceIte, ntT, ntF] <;> rfl) sz_33 rfl n2.wok (by decide) (Ei.one x) fun w3 x3 r3 s3 => ⟨trivial, ?_⟩
    simp only [↓List.toList_toArray, ↓rgd, ↓rgf, ↓reduceIte, Nat.reduceEqDiff, rg, ow_46]
    refine hK _ _ ?_; clear hK K
    have s2 := n2.size
    have X3 : Ext noF w' w3 := noF_of n2.ext x3 fun y o hy h => by simp only [rng] at h; omega
    have s3 := X3.size
    have ix3 := iXi_at (show Row w3 w'.heap.size 0 (Ei.cel x) from r3)
    rw [← hka] at eS
    refine W_sq fun K hK => (W_text [true, false, false] (by kernel_rfl) ?_); simp only [↓List.toList_toArray, ↓rgd, ↓rgf, ↓reduceIte, Nat.reduceEqDiff, rg, ow_46, bu_fo0]
    refine do_alloc z_fo fun w4 n4 => ⟨trivial, ?_⟩
    simp only [↓List.toList_toArray, ↓rgd, ↓rgf, ↓reduceIte, Nat.reduceEqDiff, rg, ow_46]
    refine do_store (v := foV ((0, 0), false)) (by simp only [evt, evc, upd_eq, Nat.reduceEqDiff, ↓reduceIte, ntT, ntF] <;> rfl) (by simp only [evt, evc, upd_eq, Nat.reduceEqDiff, ↓reduceIte, ntT, ntF] <;> rfl) sz_43 rfl n4.wok (by decide) (oc_fo _) fun w5 x5 r5 s5 => ⟨trivial, ?_⟩
    simp only [↓List.toList_toArray, ↓rgd, ↓rgf, ↓reduceIte, Nat.reduceEqDiff, rg, ow_46]
    refine hK _ _ ?_; clear hK K
    have s4 := n4.size
    have sX := X.size
    have X35 : Ext noF w3 w5 := noF_of n4.ext x5 fun y o hy h => by simp only [rng] at h; omega
    have X5 := X3.tr X35
    have XB : Ext (fun y _ => w20.heap.size ≤ y) w20 w5 := X.tr (X5.mono fun _ _ _ h => h.elim)
    have hT5 : SlI w5 tv (treeG ord l) := SlV.ext hT XB fun b o cap h j hj g => by have := SlV.lt hT h; omega
    have hs5 : SlInt w5 sv ord := SlV.ext hs2 XB fun b o cap h j hj g => by have := SlV.lt hs2 h; omega
    have r05 := mk_at0 (XB.row rm2 fun _ _ g => by omega)
    have ix5 := iXi_at (X35.row (show Row w3 w'.heap.size 0 (Ei.cel x) from r3) fun _ _ h => h)
    have k5 := x5.wok n4.wok
    have hfo : gets ord (treeG ord l) (ks.take (k + 1)) = gets ord (treeG ord l) (ks.take k) ++ [foO (at? O (rkI ord) (rkI ord x) (treeG ord l))] := gets_succ hx
    obtain ⟨fv, hfv⟩ : ∃ fv, fv = foO (at? O (rkI ord) (rkI ord x) (treeG ord l)) := ⟨_, rfl⟩
    rw [← hfv] at hfo
    refine W_seq ?_
    refine W_sq fun K hK => (W_text [true, true, true, true, false, true, true, true, true, true] (by kernel_rfl) ?_); simp only [↓List.toList_toArray, ↓rgd, ↓rgf, ↓reduceIte, Nat.reduceEqDiff, rg, ow_46, e3, ptr_eq, r05, e7, ix5]
    refine do_call fn_79 (by simp only [evt, evc, upd_eq, Nat.reduceEqDiff, ↓reduceIte, maT, maC, maN, isnN, isnS] <;> rfl) (place_ord sv ord (treeG ord l) tv x w5 hs5 hsb hT5 (by omega)) ?_
    rintro _ w6 ⟨rfl, X6⟩
    refine ⟨trivial, ?_⟩
    simp only [↓List.toList_toArray, ↓rgd, ↓rgf, ↓reduceIte, Nat.reduceEqDiff, rg, ow_46]
    refine hK _ _ ?_; clear hK K
    have X36 := X35.tr X6
    have X06 := X5.tr X6
    cases hh : hit O (rkI ord) (rkI ord x) (treeG ord l) with
    | true =>
      refine W_sq fun K hK => (W_text [true] (by kernel_rfl) ?_); simp only [↓List.toList_toArray, ↓rgd, ↓rgf, ↓reduceIte, Nat.reduceEqDiff, rg, ow_46, hh]
      refine hK _ _ ?_; clear hK K
      refine W_true (by simp only [evt, evc, upd_eq, Nat.reduceEqDiff, ↓reduceIte, ntT, ntF] <;> rfl) ?_
      refine W_rg fun K hK => (W_text [true, true, false, false] (by kernel_rfl) ?_); simp only [↓List.toList_toArray, ↓rgd, ↓rgf, ↓reduceIte, Nat.reduceEqDiff, rg, ow_46, e7]
      refine do_call fn_77 (by simp only [evt, evc, upd_eq, Nat.reduceEqDiff, ↓reduceIte, maT, maC, maN, isnN, isnS] <;> rfl) (sat_any (treeG ord l) tv _ _ ((SlV.ext0 hT5 X6).ext0 (Ext.dr _ _ _)) (by omega)) ?_
      rintro _ w7 ⟨rfl, X7⟩
      have X7 := X7.od
      refine ⟨trivial, ?_⟩
      simp only [↓List.toList_toArray, ↓rgd, ↓rgf, ↓reduceIte, Nat.reduceEqDiff, rg, ow_46]
      refine do_store (v := foV _) (by simp only [evt, evc, upd_eq, Nat.reduceEqDiff, ↓reduceIte, ntT, ntF] <;> rfl) (by simp only [evt, evc, upd_eq, Nat.reduceEqDiff, ↓reduceIte, ntT, ntF] <;> rfl) sz_43 rfl ((X6.tr X7).wok k5) (by decide) (oc_fo _) fun w8 x8 r8 s8 => ⟨trivial, ?_⟩
      simp only [↓List.toList_toArray, ↓rgd, ↓rgf, ↓reduceIte, Nat.reduceEqDiff, rg, ow_46]
      refine hK _ _ ?_; clear hK K
      show W _ _ _ _ _ _
      have X08 : Ext noF w' w8 := noF_of (X06.tr X7) x8 fun y o hy h => by simp only [rng] at h; omega
      have hfe : foO (nth (treeG ord l) (lb O (rkI ord) (rkI ord x) (treeG ord l) : Nat)) = fv := by rw [hfv]; unfold at?; rw [hh, if_pos rfl, nth_nat]
      rw [hfe] at r8
      have l8 : rdA w8 w3.heap.size 0 3 = some (foV fv) := ld_fo r8
      refine W_rg fun K hK => (W_text [true, true, false, false, true] (by kernel_rfl) ?_); simp only [↓List.toList_toArray, ↓rgd, ↓rgf, ↓reduceIte, Nat.reduceEqDiff, rg, ow_46, l8]
      refine do_bsl rfl (bs_fo1 fv) fun w9 n9 => ⟨trivial, ?_⟩
      simp only [↓List.toList_toArray, ↓rgd, ↓rgf, ↓reduceIte, Nat.reduceEqDiff, rg, ow_46]
      have X9 : Ext noF w' w9 := X08.tr n9.ext
      have s9 := X08.size
      have hfl : (gets ord (treeG ord l) (ks.take k)).length = k := by rw [gets_len, List.length_take]; omega
      have hx9 : SlV w9 3 (.slice (some ⟨w8.heap.size, 0, none⟩) 1 1) 1 (Ef.cel fv) := ⟨rfl, .inr ⟨_, 0, 1, rfl, Nat.le_refl _, n9.row, n9.wok.R (Nat.le_refl _)⟩⟩
      have s9' := n9.size
      refine do_append (by simp only [evt, evc, upd_eq, Nat.reduceEqDiff, ↓reduceIte, ntT, ntF] <;> rfl) (by simp only [evt, evc, upd_eq, Nat.reduceEqDiff, ↓reduceIte, ntT, ntF] <;> rfl) el_fo rfl ni_fo (hO.ext X9).sl hx9 (by omega) (by decide) (Ef.one _) fun v7 w10 a10 => ?_
      obtain ⟨hO10, X10⟩ := (hO.ext X9).app a10 (by omega)
      refine ⟨trivial, ?_⟩
      simp only [↓List.toList_toArray, ↓rgd, ↓rgf, ↓reduceIte, Nat.reduceEqDiff, rg, ow_46]
      refine hK _ _ ?_; clear hK K
      show W _ _ _ _ _ _
      have q1 := wadd1 k (by omega)
      refine W_rg fun K hK => (W_text [true, true] (by kernel_rfl) ?_); simp only [↓List.toList_toArray, ↓rgd, ↓rgf, ↓reduceIte, Nat.reduceEqDiff, rg, ow_46, eI, q1]
      refine hK _ _ ?_; clear hK K
      refine ⟨_, ?_, k + 1, rfl, hlt, by simp only [upd_eq, Nat.reduceEqDiff, ↓reduceIte]; exact eS, by simp only [upd_eq, Nat.reduceEqDiff, ↓reduceIte]; exact eL, by simp only [upd_eq, Nat.reduceEqDiff, ↓reduceIte], by simp only [upd_eq, Nat.reduceEqDiff, ↓reduceIte]; exact e3, by simp only [upd_eq, Nat.reduceEqDiff, ↓reduceIte]; exact e7, by simp only [upd_eq, Nat.reduceEqDiff, ↓reduceIte]; rw [hfo]; exact hO10, (X.tr (X9.mono fun _ _ _ h => h.elim)).tr X10⟩
      omega
    | false =>
      refine W_sq fun K hK => (W_text [true] (by kernel_rfl) ?_); simp only [↓List.toList_toArray, ↓rgd, ↓rgf, ↓reduceIte, Nat.reduceEqDiff, rg, ow_46, hh]
      refine hK _ _ ?_; clear hK K
      refine W_false (by simp only [evt, evc, upd_eq, Nat.reduceEqDiff, ↓reduceIte, ntT, ntF] <;> rfl) (W_skip ?_)
      simp only [andThen_normal]
      have X08 : Ext noF w' w6 := X06
      have r8 : Row w6 w3.heap.size 0 (Ef.cel fv) := by
        rw [hfv, at_noneG hh]
        exact X6.row (show Row w5 w3.heap.size 0 (Ef.cel ((0, 0), false)) from r5) fun _ _ h => h
      have l8 : rdA w6 w3.heap.size 0 3 = some (foV fv) := ld_fo r8
      refine W_rg fun K hK => (W_text [true, true, false, false, true] (by kernel_rfl) ?_); simp only [↓List.toList_toArray, ↓rgd, ↓rgf, ↓reduceIte, Nat.reduceEqDiff, rg, ow_46, l8]
      refine do_bsl rfl (bs_fo1 fv) fun w9 n9 => ⟨trivial, ?_⟩
      simp only [↓List.toList_toArray, ↓rgd, ↓rgf, ↓reduceIte, Nat.reduceEqDiff, rg, ow_46]
      have X9 : Ext noF w' w9 := X08.tr n9.ext
      have s9 := X08.size
      have hfl : (gets ord (treeG ord l) (ks.take k)).length = k := by rw [gets_len, List.length_take]; omega
      have hx9 : SlV w9 3 (.slice (some ⟨w6.heap.size, 0, none⟩) 1 1) 1 (Ef.cel fv) := ⟨rfl, .inr ⟨_, 0, 1, rfl, Nat.le_refl _, n9.row, n9.wok.R (Nat.le_refl _)⟩⟩
      have s9' := n9.size
      refine do_append (by simp only [evt, evc, upd_eq, Nat.reduceEqDiff, ↓reduceIte, ntT, ntF] <;> rfl) (by simp only [evt, evc, upd_eq, Nat.reduceEqDiff, ↓reduceIte, ntT, ntF] <;> rfl) el_fo rfl ni_fo (hO.ext X9).sl hx9 (by omega) (by decide) (Ef.one _) fun v7 w10 a10 => ?_
      obtain ⟨hO10, X10⟩ := (hO.ext X9).app a10 (by omega)
      refine ⟨trivial, ?_⟩
      simp only [↓List.toList_toArray, ↓rgd, ↓rgf, ↓reduceIte, Nat.reduceEqDiff, rg, ow_46]
      refine hK _ _ ?_; clear hK K
      show W _ _ _ _ _ _
      have q1 := wadd1 k (by omega)
      refine W_rg fun K hK => (W_text [true, true] (by kernel_rfl) ?_); simp only [↓List.toList_toArray, ↓rgd, ↓rgf, ↓reduceIte, Nat.reduceEqDiff, rg, ow_46, eI, q1]
      refine hK _ _ ?_; clear hK K
      refine ⟨_, ?_, k + 1, rfl, hlt, by simp only [upd_eq, Nat.reduceEqDiff, ↓reduceIte]; exact eS, by simp only [upd_eq, Nat.reduceEqDiff, ↓reduceIte]; exact eL, by simp only [upd_eq, Nat.reduceEqDiff, ↓reduceIte], by simp only [upd_eq, Nat.reduceEqDiff, ↓reduceIte]; exact e3, by simp only [upd_eq, Nat.reduceEqDiff, ↓reduceIte]; exact e7, by simp only [upd_eq, Nat.reduceEqDiff, ↓reduceIte]; rw [hfo]; exact hO10, (X.tr (X9.mono fun _ _ _ h => h.elim)).tr X10⟩
      omega
  · obtain rfl : k = ks.length := by omega
    have ht := lt_ff ks.length ks.length (by omega)
    refine W_sq fun K hK => (W_text [true] (by kernel_rfl) ?_); simp only [↓List.toList_toArray, ↓rgd, ↓rgf, ↓reduceIte, Nat.reduceEqDiff, rg, ow_46, eL, eI, ht]
    refine hK _ _ ?_; clear hK K
    refine W_seq (W_false (by simp only [evt, evc, upd_eq, Nat.reduceEqDiff, ↓reduceIte, ntT, ntF] <;> rfl) (W_exit ?_))
    simp only [andThen_exit, inBlk_exit, andThen_normal, ↓reduceIte]
    refine W_sq fun K hK => (W_text [true, true] (by kernel_rfl) ?_); simp only [↓List.toList_toArray, ↓rgd, ↓rgf, ↓reduceIte, Nat.reduceEqDiff, rg, ow_46]
    refine hK _ _ ?_; clear hK K
    rw [List.take_length] at hO
    refine W_ret (endQ_1 (by simp only [upd_eq, Nat.reduceEqDiff, ↓reduceIte] <;> rfl) ⟨?_, noF_of X20 X fun y o hy h => by omega⟩)
    have := hO.sl
    rw [gets_len] at this
    exact this
set_option maxHeartbeats 800000 in
set_option maxRecDepth 8000 in
theorem law_bget (d : Nat) (hd : DOk d) (ord : List Int) (sv : Value) (nl : Bool) (l : List It) (lv : Value) (ks : List It) (kv : Value) (w : World) (hs : SlInt w sv ord) (hsb : ord.length ≤ 2147483647) (hl : SlI w lv l) (hbig : l.length ≤ 2147483647) (hks : SlI w kv ks) (hkb : ks.length ≤ 2147483647) :
    CallK Try.prog 18 #[mkV sv d nl, lv, kv] w fun v w' => v = .bool true ∧ Ext noF w w' := by
  refine calls_of_W [.tmp 6] Try.func18 rfl Try.ntmps18 Try.results18 (by simp) fun e he => ?_
  have e0 : e 0 = mkV sv d nl := he 0 _ rfl
  have e1 : e 1 = lv := he 1 _ rfl
  have e2 : e 2 = kv := he 2 _ rfl
  clear he
  refine W_sq fun K hK => (W_text [false, true] (by kernel_rfl) ?_); simp only [↓List.toList_toArray, ↓rgd, ↓rgf, ↓reduceIte, Nat.reduceEqDiff, rg, ow_18]
  refine do_box (by simp only [evt]; exact e0) fun w0 n0 => ⟨trivial, ?_⟩
  simp only [↓List.toList_toArray, ↓rgd, ↓rgf, ↓reduceIte, Nat.reduceEqDiff, rg, ow_18]
  refine hK _ _ ?_; clear hK K
  have rm0 : Row w0 w.heap.size 0 (mkL sv d nl) := n0.row
  have rm := mk_at rm0
  refine W_sq fun K hK => (W_text [true, true, true, false, true] (by kernel_rfl) ?_); simp only [↓List.toList_toArray, ↓rgd, ↓rgf, ↓reduceIte, Nat.reduceEqDiff, rg, ow_18, e1, e2, rm]
  refine do_call fn_45 (by simp only [evt, evc, upd_eq, Nat.reduceEqDiff, ↓reduceIte, maT, maC, maN, isnN, isnS] <;> rfl) (impl_bget d hd ord sv nl l lv ks kv w0 (SlV.ext0 hs n0.ext) hsb (SlV.ext0 hl n0.ext) hbig (SlV.ext0 hks n0.ext) hkb) ?_
  rintro v1 w1 ⟨h1, X1⟩
  refine ⟨trivial, ?_⟩
  simp only [↓List.toList_toArray, ↓rgd, ↓rgf, ↓reduceIte, Nat.reduceEqDiff, rg, ow_18]
  refine hK _ _ ?_; clear hK K
  have rm1 := mk_at (X1.row rm0 fun _ _ h => h)
  have X01 := n0.ext.tr X1
  refine W_sq fun K hK => (W_text [true, true, true, false, true] (by kernel_rfl) ?_); simp only [↓List.toList_toArray, ↓rgd, ↓rgf, ↓reduceIte, Nat.reduceEqDiff, rg, ow_18, e1, e2, rm1]
  refine do_call fn_46 (by simp only [evt, evc, upd_eq, Nat.reduceEqDiff, ↓reduceIte, maT, maC, maN, isnN, isnS] <;> rfl) (sgget d hd ord sv nl l lv ks kv w1 (SlV.ext0 hs X01) hsb (SlV.ext0 hl X01) hbig (SlV.ext0 hks X01) hkb) ?_
  rintro v2 w2 ⟨h2, X2⟩
  refine ⟨trivial, ?_⟩
  simp only [↓List.toList_toArray, ↓rgd, ↓rgf, ↓reduceIte, Nat.reduceEqDiff, rg, ow_18]
  refine hK _ _ ?_; clear hK K
  refine W_sq fun K hK => (W_text [true, true, false, true] (by kernel_rfl) ?_); simp only [↓List.toList_toArray, ↓rgd, ↓rgf, ↓reduceIte, Nat.reduceEqDiff, rg, ow_18]
  have hfl := gets_len ord (treeG ord l) ks
  refine do_call fn_28 (by simp only [evt, evc, upd_eq, Nat.reduceEqDiff, ↓reduceIte, maT, maC, maN, isnN, isnS] <;> rfl) (eq_f (gets ord (treeG ord l) ks) v1 v2 w2 (by rw [hfl]; exact h1.ext0 X2) (by rw [hfl]; exact h2) (by rw [hfl]; omega)) ?_
  rintro _ w3 ⟨rfl, r3⟩
  refine ⟨trivial, ?_⟩
  simp only [↓List.toList_toArray, ↓rgd, ↓rgf, ↓reduceIte, Nat.reduceEqDiff, rg, ow_18]
  refine hK _ _ ?_; clear hK K
  exact W_ret (endQ_1 (by simp only [upd_eq, Nat.reduceEqDiff, ↓reduceIte] <;> rfl) ⟨rfl, (X01.tr X2).tr r3.ext⟩)
end Go.Proofs.Ytanmjbkbdmeckaa
/-
  FnExactBGet returns true, whatever the arguments. No condition.
-/
set_option linter.unusedSimpArgs false
set_option linter.unusedVariables false
namespace Go.Proofs.Ytanmjbkbdmeckaa
open Go Go.Proofs
set_option maxHeartbeats 800000 in
set_option maxRecDepth 8000 in
theorem top_FnExactBGet (ord : List Int) (sv : Value) (d : Int) (nl : Bool) (a0 : List It) (v0 : Value) (a1 : List It) (v1 : Value) (w : World) (gs : SlInt w sv ord) (g0 : SlI w v0 a0) (g1 : SlI w v1 a1) :
    CallK Try.prog 4 #[.agg #[sv, .int .i64 d, .bool nl], v0, v1] w fun v w' => v = .bool true ∧ Ext noF w w' := by
  obtain ⟨p0, c0, hv0⟩ := SlV.shape g0
  obtain ⟨p1, c1, hv1⟩ := SlV.shape g1
  refine calls_of_W [.tmp 6] Try.func4 rfl Try.ntmps4 Try.results4 (by simp) fun e he => ?_
  have e0 : e 0 = .agg #[sv, .int .i64 d, .bool nl] := he 0 _ rfl
  have e1 : e 1 = v0 := he 1 _ rfl
  have e2 : e 2 = v1 := he 2 _ rfl
  clear he
  refine W_sq fun K hK => (W_text [false, true] (by kernel_rfl) ?_); simp only [↓List.toList_toArray, ↓rgd, ↓rgf, ↓reduceIte, Nat.reduceEqDiff, rg, ow_4]
  refine do_box (by simp only [evt]; exact e0) fun w1 n1 => ⟨trivial, ?_⟩
  simp only [↓List.toList_toArray, ↓rgd, ↓rgf, ↓reduceIte, Nat.reduceEqDiff, rg, ow_4]
  refine hK _ _ ?_; clear hK K
  have rm : Row w1 w.heap.size 0 [sv, .int .i64 d, .bool nl] := n1.row
  have XB : Ext noF w w1 := n1.ext
  have rm3 : rdA w1 w.heap.size 0 3 = some (.agg #[sv, .int .i64 d, .bool nl]) := rm.rdA 3 (Nat.le_refl _)
  refine W_seq ?_
  refine W_sq fun K hK => (W_text [true, false, true, true, true, true, true, true, true, true, true, true, true] (by kernel_rfl) ?_); simp only [↓List.toList_toArray, ↓rgd, ↓rgf, ↓reduceIte, Nat.reduceEqDiff, rg, ow_4, e1, e2, hv0, hv1, rm3]
  refine do_call fn_13 (by simp only [evt, evc, upd_eq, Nat.reduceEqDiff, ↓reduceIte, maT, maC, maN, isnN, isnS] <;> rfl) (fits1_any sv ord (.int .i64 d) nl w1 (SlV.ext0 gs XB)) ?_
  rintro _ wf ⟨rfl, xf⟩
  refine ⟨trivial, ?_⟩
  have XF := XB.tr xf
  by_cases hbo : ord.length ≤ 2147483647
  case neg =>
    have to : decide (ord.length ≤ 2147483647) = false := by simp; omega
    simp only [↓List.toList_toArray, ↓rgd, ↓rgf, ↓reduceIte, Nat.reduceEqDiff, rg, ow_4, e1, e2, hv0, hv1, to]
    refine hK _ _ ?_; clear hK K
    refine W_true (by simp only [evt, evc, upd_eq, Nat.reduceEqDiff, ↓reduceIte, ntT, ntF] <;> rfl) ?_
    refine W_sq fun K hK => (W_text [true] (by kernel_rfl) ?_); simp only [↓List.toList_toArray, ↓rgd, ↓rgf, ↓reduceIte, Nat.reduceEqDiff, rg, ow_4]
    refine hK _ _ ?_; clear hK K
    refine W_ret ?_
    simp only [andThen_ret]
    exact endQ_1 (by simp only [upd_eq, Nat.reduceEqDiff, ↓reduceIte] <;> rfl) ⟨rfl, XF⟩
  have to : decide (ord.length ≤ 2147483647) = true := by simp; omega
  by_cases hb0 : a0.length ≤ 2147483647
  case neg =>
    have t0 : decide ((2147483647 : Int) < (a0.length : Int)) = true := by simp; omega
    simp only [↓List.toList_toArray, ↓rgd, ↓rgf, ↓reduceIte, Nat.reduceEqDiff, rg, ow_4, e1, e2, hv0, hv1, to, t0]
    refine hK _ _ ?_; clear hK K
    refine W_true (by simp only [evt, evc, upd_eq, Nat.reduceEqDiff, ↓reduceIte, ntT, ntF] <;> rfl) ?_
    refine W_sq fun K hK => (W_text [true] (by kernel_rfl) ?_); simp only [↓List.toList_toArray, ↓rgd, ↓rgf, ↓reduceIte, Nat.reduceEqDiff, rg, ow_4]
    refine hK _ _ ?_; clear hK K
    refine W_ret ?_
    simp only [andThen_ret]
    exact endQ_1 (by simp only [upd_eq, Nat.reduceEqDiff, ↓reduceIte] <;> rfl) ⟨rfl, XF⟩
  have t0 : decide ((2147483647 : Int) < (a0.length : Int)) = false := by simp; omega
  by_cases hb1 : a1.length ≤ 2147483647
  case neg =>
    have t1 : decide ((2147483647 : Int) < (a1.length : Int)) = true := by simp; omega
    simp only [↓List.toList_toArray, ↓rgd, ↓rgf, ↓reduceIte, Nat.reduceEqDiff, rg, ow_4, e1, e2, hv0, hv1, to, t0, t1]
    refine hK _ _ ?_; clear hK K
    refine W_true (by simp only [evt, evc, upd_eq, Nat.reduceEqDiff, ↓reduceIte, ntT, ntF] <;> rfl) ?_
    refine W_sq fun K hK => (W_text [true] (by kernel_rfl) ?_); simp only [↓List.toList_toArray, ↓rgd, ↓rgf, ↓reduceIte, Nat.reduceEqDiff, rg, ow_4]
    refine hK _ _ ?_; clear hK K
    refine W_ret ?_
    simp only [andThen_ret]
    exact endQ_1 (by simp only [upd_eq, Nat.reduceEqDiff, ↓reduceIte] <;> rfl) ⟨rfl, XF⟩
  have t1 : decide ((2147483647 : Int) < (a1.length : Int)) = false := by simp; omega
  simp only [↓List.toList_toArray, ↓rgd, ↓rgf, ↓reduceIte, Nat.reduceEqDiff, rg, ow_4, e1, e2, hv0, hv1, to, t0, t1]
  refine hK _ _ ?_; clear hK K
  refine W_false (by simp only [evt, evc, upd_eq, Nat.reduceEqDiff, ↓reduceIte, ntT, ntF] <;> rfl) (W_skip ?_)
  show W _ _ _ _ _ _
  refine W_sq fun K hK => (W_text [false, false, false, false, true, true, true, false, true, true, true, true, true, false, true, true, true] (by kernel_rfl) ?_); simp only [↓List.toList_toArray, ↓rgd, ↓rgf, ↓reduceIte, Nat.reduceEqDiff, rg, ow_4]
  refine do_call fn_15 (by simp only [evt, evc, upd_eq, Nat.reduceEqDiff, ↓reduceIte, maT, maC, maN, isnN, isnS] <;> rfl) (exMake_any wf) ?_
  rintro _ u0 ⟨rfl, z0⟩
  refine ⟨trivial, ?_⟩
  simp only [↓List.toList_toArray, ↓rgd, ↓rgf, ↓reduceIte, Nat.reduceEqDiff, rg, ow_4]
  have Y0 := z0
  refine do_call fn_16 (by simp only [evt, evc, upd_eq, Nat.reduceEqDiff, ↓reduceIte, maT, maC, maN, isnN, isnS] <;> rfl) (exItems_any u0) ?_
  rintro x0 u1 ⟨q0, y1⟩
  refine ⟨trivial, ?_⟩
  simp only [↓List.toList_toArray, ↓rgd, ↓rgf, ↓reduceIte, Nat.reduceEqDiff, rg, ow_4]
  have Y1 := Y0.tr y1
  refine do_call fn_19 (by simp only [evt, evc, upd_eq, Nat.reduceEqDiff, ↓reduceIte, maT, maC, maN, isnN, isnS] <;> rfl) (exKeys_any u1) ?_
  rintro x1 u2 ⟨q1, y2⟩
  refine ⟨trivial, ?_⟩
  simp only [↓List.toList_toArray, ↓rgd, ↓rgf, ↓reduceIte, Nat.reduceEqDiff, rg, ow_4]
  have q0 := SlV.ext0 q0 y2
  have Y2 := Y1.tr y2
  refine do_call fn_18 (by simp only [evt, evc, upd_eq, Nat.reduceEqDiff, ↓reduceIte, maT, maC, maN, isnN, isnS] <;> rfl) (law_bget 2 (.inr (by decide)) [] nilS false exL x0 exK x1 u2 (nil_int _) (by decide) q0 (by decide) q1 (by decide)) ?_
  rintro _ u3 ⟨rfl, y3⟩
  refine ⟨trivial, ?_⟩
  have Y3 := Y2.tr y3
  have XA := XF.tr Y3
  have rmA := (xf.tr Y3).row rm fun _ _ h => h
  have rd1 := (Row.cons.1 (Row.cons.1 rmA).2).1
  have rmA3 : rdA u3 w.heap.size 0 3 = some (.agg #[sv, .int .i64 d, .bool nl]) := rmA.rdA 3 (Nat.le_refl _)
  rw [Nat.zero_add] at rd1
  simp only [↓List.toList_toArray, ↓rgd, ↓rgf, ↓reduceIte, Nat.reduceEqDiff, rg, ow_4, rd1]
  refine do_call fn_17 (by simp only [evt, evc, upd_eq, Nat.reduceEqDiff, ↓reduceIte, maT, maC, maN, isnN, isnS] <;> rfl) (fits_any d u3) ?_
  rintro _ _ ⟨rfl, rfl⟩
  refine ⟨trivial, ?_⟩
  cases hf : (decide (d = 0) || (decide (2 ≤ d) && decide (d ≤ 128))) with
  | false =>
    simp only [↓List.toList_toArray, ↓rgd, ↓rgf, ↓reduceIte, Nat.reduceEqDiff, rg, ow_4]
    refine hK _ _ ?_; clear hK K
    exact W_ret (endQ_1 (by simp only [upd_eq, Nat.reduceEqDiff, ↓reduceIte] <;> rfl) ⟨rfl, XA⟩)
  | true =>
    have h2 : d = 0 ∨ 2 ≤ d ∧ d ≤ 128 := by simp at hf; omega
    obtain ⟨n, rfl⟩ : ∃ n : Nat, d = n := ⟨d.toNat, by omega⟩
    simp only [↓List.toList_toArray, ↓rgd, ↓rgf, ↓reduceIte, Nat.reduceEqDiff, rg, ow_4, e1, e2, rmA3]
    refine do_call fn_18 (by simp only [evt, evc, upd_eq, Nat.reduceEqDiff, ↓reduceIte, maT, maC, maN, isnN, isnS] <;> rfl) (law_bget n (show DOk n by unfold DOk; omega) ord sv nl a0 v0 a1 v1 u3 (SlV.ext0 gs XA) hbo (SlV.ext0 g0 XA) hb0 (SlV.ext0 g1 XA) hb1) ?_
    rintro _ u9 ⟨rfl, y9⟩
    refine ⟨trivial, ?_⟩
    simp only [↓List.toList_toArray, ↓rgd, ↓rgf, ↓reduceIte, Nat.reduceEqDiff, rg, ow_4]
    refine hK _ _ ?_; clear hK K
    exact W_ret (endQ_1 (by simp only [upd_eq, Nat.reduceEqDiff, ↓reduceIte] <;> rfl) ⟨rfl, XA.tr y9⟩)
end Go.Proofs.Ytanmjbkbdmeckaa
/-
  FnExactBGet: the whole statement: it returns true whatever the input is, and the arguments read as before. No condition.
-/
set_option linter.unusedSimpArgs false
set_option linter.unusedVariables false
namespace Go.Proofs.Ytanmjbkbdmeckaa
open Go Go.Proofs Go.ChangeShapes Go.WideShapes Go.ChangeAt Go.RowKit
set_option maxRecDepth 100000 in
theorem c_FnExactBGet (H : Type) (enc : TypeId × Value → H) (W : World) (base : Nat) (args : Array Value) (ds gs : List (DataW H)) (before : List MemPlace)
    (hval : ∀ (j : Nat) t v, Try.f4.params[j]? = some t → args[j]? = some v → Value.okWide Try.prog W .any base t v)
    (hW : DataW.Whole enc Try.prog Try.f4.params.toList Rows.fnExactBGetSpec.vars false W args.toList ds gs before) :
    Calls Try.prog 4 args W fun e W' => ∃ v, e = .returned v ∧ Rows.fnExactBGetSpec.post enc Try.prog Try.f4 false true false false W args v W' := by
  have hW' := hW
  obtain ⟨p, q, hA0, hV, rfl, hfz, hnd⟩ := hW
  have hA : DataW.TrodAll enc Try.prog W 0 (fun _ => true) true Try.f4.params.toList args.toList ds p := hA0
  rw [Try.params4] at hA hval
  obtain ⟨v0, v1, v2, d0, d1, d2, p0, p1, p2, rfl, rfl, rfl, h0, h1, h2⟩ := trodAll_three hA
  obtain ⟨rfl, rfl⟩ := trodVars_none hV
  obtain ⟨s0, a0, n0, r0, rfl, g0⟩ := open_make (hval 0 24 v0 rfl rfl) h0 fun b o h => hfz b o (by simp [h])
  obtain ⟨a1, g1⟩ := open_items (hval 1 25 v1 rfl rfl) h1 fun b o h => hfz b o (by simp [h])
  obtain ⟨a2, g2⟩ := open_items (hval 2 25 v2 rfl rfl) h2 fun b o h => hfz b o (by simp [h])
  exact calls_law laidOut (by rw [Try.params4]; kernel_rfl) rfl hW' rfl rfl rfl (by kernel_rfl) Try.underlying4 (top_FnExactBGet r0 s0 a0 n0 a1 v1 a2 v2 W g0 g1 g2)
set_option maxRecDepth 100000 in
theorem l_FnExactBGet (os : Os) (started : os.Started) (H : Type) (enc : TypeId × Value → H) :
    ReturnsInHanded {} Try.checked os 4 .any (Rows.fnExactBGetSpec.pre6 enc Try.prog Try.f4 Rows.fnExactBGetRow.domain false) (Rows.fnExactBGetSpec.post enc Try.prog Try.f4 false true false false) := by
  refine returnsInHanded_of_change (C := Try.checked) own started (by kernel_rfl) Try.func4
    (ChangeSpec.witness6 (enc := enc) (C := Try.checked) false ⟨#[], #[.agg #[.slice none 0 0, .int .i64 0, .bool false], .slice none 0 0, .slice none 0 0], []⟩ 8 (by kernel_rfl) (by kernel_rfl) (by kernel_rfl) (by kernel_rfl)) ?_
  intro W base args ds gs before hval hW _ _
  exact c_FnExactBGet H enc W base args ds gs before hval hW
theorem h_FnExactBGet : Rows.FnExactBGetSaid :=
  OpenClaim.holds_of_wide 4 Try.f4 rfl rfl rfl rfl rfl rfl rfl ⟨rfl, rfl, rfl, rfl, rfl⟩ rfl rfl rfl rfl rfl (by kernel_rfl) Try.func4 (by kernel_rfl)
    (of_decide_eq_true (by kernel_rfl)) (by unfold Func.isWrapper; first | (rw [if_pos (by decide +kernel)]; kernel_rfl) | (rw [if_neg (by decide +kernel)]; exact ⟨rfl, rfl⟩))
    (fun os started H enc _ => l_FnExactBGet os started H enc)
#print axioms h_FnExactBGet
end Go.Proofs.Ytanmjbkbdmeckaa
