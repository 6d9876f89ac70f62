/-
  Descending, with a hint or none. No condition.
-/
import Derived.Test.YtanmjbkbdmeckaaZ0b558072
import Derived.Test.YtanmjbkbdmeckaaZA
import Derived.Test.YtanmjbkbdmeckaaZad0c5824
/-
  The search in a node of a tree, with a hint or without one. No condition.
-/
set_option linter.unusedSimpArgs false
set_option linter.unusedVariables false
namespace Go.Proofs.Ytanmjbkbdmeckaa
open Go Go.Proofs
/-- A hint's cells. -/
structure HintAt (w : World) (hb : Nat) : Prop where
  wok : wok w hb 16
  used : ∀ i, i < 8 → ∃ u : Bool, rd w hb i = some (.bool u)
  path : ∀ i, i < 8 → ∃ p : Nat, p < 256 ∧ rd w hb (8 + i) = some (.int .u8 p)
theorem HintAt.ext {w w' : World} {G : Nat → Nat → Prop} {hb : Nat} (h : HintAt w hb) (x : Ext G w w') (hG : ∀ o, ¬ G hb o) : HintAt w' hb :=
  ⟨x.wok h.wok, fun i hi => (h.used i hi).imp fun _ g => x.rd g (hG _), fun i hi => (h.path i hi).imp fun _ g => ⟨g.1, x.rd g.2 (hG _)⟩⟩
theorem HintAt.setU {w w' : World} {hb i : Nat} {u : Bool} (h : HintAt w hb) (x : Ext (rng hb i 1) w w') (r : rd w' hb i = some (.bool u)) (hi : i < 8) : HintAt w' hb :=
  ⟨x.wok h.wok, fun j hj => by
    by_cases hij : j = i
    · subst hij; exact ⟨u, r⟩
    · exact (h.used j hj).imp fun _ g => x.rd g (by simp only [rng]; omega), fun j hj => (h.path j hj).imp fun _ g => ⟨g.1, x.rd g.2 (by simp only [rng]; omega)⟩⟩
theorem HintAt.setP {w w' : World} {hb i p : Nat} (h : HintAt w hb) (x : Ext (rng hb (8 + i) 1) w w') (r : rd w' hb (8 + i) = some (.int .u8 p)) (hp : p < 256) : HintAt w' hb :=
  ⟨x.wok h.wok, fun j hj => (h.used j hj).imp fun _ g => x.rd g (by simp only [rng]; omega), fun j hj => by
    by_cases hij : j = i
    · subst hij; exact ⟨p, hp, r⟩
    · exact (h.path j hj).imp fun _ g => ⟨g.1, x.rd g.2 (by simp only [rng]; omega)⟩⟩
/-- The cells of a hint, if there is one. -/
def hF (hp : Option Nat) : Nat → Nat → Prop := fun y _ => hp = some y
def hV (hp : Option Nat) : Value := .pointer (hp.map fun b => ⟨b, 0, none⟩)
theorem hV_none : hV none = .pointer none := id (Eq.trans rfl rfl)
theorem hV_some (b : Nat) : hV (some b) = ptr b := id (Eq.trans rfl rfl)
def HOk (hp : Option Nat) (w : World) : Prop := ∀ hb, hp = some hb → HintAt w hb
theorem HOk.ext {w w' : World} {G : Nat → Nat → Prop} {hp : Option Nat} (h : HOk hp w) (x : Ext G w w') (hG : ∀ hb, hp = some hb → ∀ o, ¬ G hb o) : HOk hp w' := fun hb e => (h hb e).ext x (hG hb e)
theorem HOk.ext0 {w w' : World} {hp : Option Nat} (h : HOk hp w) (x : Ext noF w w') : HOk hp w' := h.ext x fun _ _ _ g => g
theorem HOk.none (w : World) : HOk none w := fun _ h => by cases h
theorem u8_of (n : Int) : ∃ p : Nat, IntKind.u8.wrap n = p ∧ p < 256 := by
  have h1 : 0 ≤ IntKind.u8.wrap n := by rw [IntKind.wrap_u8]; omega
  have h2 : IntKind.u8.wrap n < 256 := by rw [IntKind.wrap_u8]; omega
  exact ⟨(IntKind.u8.wrap n).toNat, by omega, by omega⟩
set_option maxHeartbeats 400000 in
set_option maxRecDepth 8000 in
theorem less_any (B m : Nat) (ord : List Int) (a b : It) (w : World) (hL : Ls B m w ord) :
    CallK Try.prog 123 #[ptr m, itV a, itV b] w fun v w' => v = .bool (O.lt (rkI ord a) (rkI ord b)) ∧ Ext noF w w' := by
  refine calls_of_W [.tmp 6] Try.func123 rfl Try.ntmps123 Try.results123 (by simp) fun e he => ?_
  have e0 : e 0 = ptr m := he 0 _ rfl
  have e1 : e 1 = itV a := he 1 _ rfl
  have e2 : e 2 = itV b := he 2 _ rfl
  clear he
  refine W_sq fun K hK => (W_text [true] (by kernel_rfl) ?_); simp only [↓List.toList_toArray, ↓rgd, ↓rgf, ↓reduceIte, Nat.reduceEqDiff, rg, ow_123]
  refine hK _ _ ?_; clear hK K
  obtain ⟨lv, hlv, hless, hBm⟩ := id hL
  have M1 : readsB (some (some [m])) m = true := by simp [readsB]
  have hml := rd_lt hlv
  refine W_sq fun K hK => (W_text [true, true, true, true, true, true, false, true] (by kernel_rfl) ?_); simp only [↓List.toList_toArray, ↓rgd, ↓rgf, ↓reduceIte, Nat.reduceEqDiff, rg, ow_123, e0, e1, e2, ptr_eq, hlv, M1]
  refine do_callW (by simp only [evt, evc, upd_eq, Nat.reduceEqDiff, ↓reduceIte, ntT, ntF] <;> rfl) (by simp only [evt, evc, upd_eq, Nat.reduceEqDiff, ↓reduceIte, maT, maC, maN, isnN, isnS] <;> rfl) (before_any B lv ord a b _ (hless.ext (G := noF) (Ext.dr _ _ _) fun _ _ g => g.elim)) ?_
  rintro _ w3 ⟨rfl, x3⟩
  refine ⟨trivial, ?_⟩
  simp only [↓List.toList_toArray, ↓rgd, ↓rgf, ↓reduceIte, Nat.reduceEqDiff, rg, ow_123]
  refine hK _ _ ?_; clear hK K
  exact W_ret (endQ_1 (by simp only [upd_eq, Nat.reduceEqDiff, ↓reduceIte] <;> rfl) ⟨rfl, x3.od⟩)
set_option maxHeartbeats 400000 in
theorem hi_sub (hi : Nat) (h : hi < 4611686018427387904) : IntKind.i64.wrap ((hi : Int) - 1) = (hi : Int) - 1 := IntWalk.i64_in _ (by omega)
theorem hi_add (hi : Nat) (h : hi < 4611686018427387904) : IntKind.i64.wrap ((hi : Int) - 1 + 1) = (hi : Int) := by rw [IntWalk.i64_in _ (by omega)]; omega
theorem u8_i64 (p : Nat) (h : p < 256) : IntKind.i64.wrap (p : Int) = p := IntWalk.i64_in _ (by omega)
set_option maxHeartbeats 1600000 in
set_option maxRecDepth 8000 in
theorem hint_any (B m b bi oi cap : Nat) (ord : List Int) (ks : List It) (x : It) (ch : Option Addr) (hb dep : Nat) (w : World) (hL : Ls B m w ord) (h2 : rd w b 2 = some (.slice (some ⟨bi, oi, none⟩) ks.length cap)) (h3 : rd w b 3 = some (.pointer ch))
    (row : Row w bi oi (flat E ks)) (hbi : bi < w.heap.size) (hlen : ks.length < 4611686018427387904) (hpos : 0 < ks.length) (ha : Asc O (rkI ord) ks) (hH : HintAt w hb) (hne : hb ≠ b) :
    CallK Try.prog 172 #[ptr m, ptr b, itV x, ptr hb, .int .i64 dep] w fun v w' => v = srchG ord ks x ∧ Ext (hF (some hb)) w w' ∧ HintAt w' hb := by
  refine calls_of_W [.tmp 10, .tmp 11] Try.func172 rfl Try.ntmps172 Try.results172 (by simp) fun e he => ?_
  have e0 : e 0 = ptr m := he 0 _ rfl
  have e1 : e 1 = ptr b := he 1 _ rfl
  have e2 : e 2 = itV x := he 2 _ rfl
  have e3 : e 3 = ptr hb := he 3 _ rfl
  have e4 : e 4 = .int .i64 dep := he 4 _ rfl
  clear he
  refine W_sq fun K hK => (W_text [true, true] (by kernel_rfl) ?_); simp only [↓List.toList_toArray, ↓rgd, ↓rgf, ↓reduceIte, Nat.reduceEqDiff, rg, ow_172]
  refine hK _ _ ?_; clear hK K
  have hbl := rd_lt h2
  have hhl := wok_lt hH.wok
  have X1 : Ext noF w w := Ext.refl _ _
  obtain ⟨-, -, -, hBm⟩ := id hL
  have hml : m < w.heap.size := by obtain ⟨lv, hlv, -⟩ := id hL; exact rd_lt hlv
  refine W_fwd 0 (fun e w' => Ext noF w w' ∧ e 1 = ptr b ∧ e 3 = ptr hb ∧ e 4 = .int .i64 dep ∧ e 10 = .int .i64 (lb O (rkI ord) (rkI ord x) ks : Nat) ∧ e 11 = .bool (hit O (rkI ord) (rkI ord x) ks)) rfl ?_ ?_
  · clear e0 e1 e2 e3 e4 e
    rintro e w' ⟨XW, e1, e3, e4, e10, e11⟩
    have XX : Ext noF w w' := X1.tr XW
    have hH' := hH.ext XW fun _ g => g
    have h3' := XW.rd h3 fun g => g
    have h2' := XW.rd h2 fun g => g
    have hn0 : ∀ o, ¬ rng hb o 1 b 3 := fun o g => hne g.1.symm
    refine W_sqx fun K hK => ?_
    have hend : ∀ (e : Env) (w2 : World), e 10 = .int .i64 (lb O (rkI ord) (rkI ord x) ks : Nat) → e 11 = .bool (hit O (rkI ord) (rkI ord x) ks) → Ext (hF (some hb)) w w2 → HintAt w2 hb → K e w2 := by
      intro e w2 e10 e11 X H
      refine hK _ _ ?_; clear hK K
      refine W_sq fun K hK => (W_text [true, true, true, true] (by kernel_rfl) ?_); simp only [↓List.toList_toArray, ↓rgd, ↓rgf, ↓reduceIte, Nat.reduceEqDiff, rg, ow_172, e10, e11]
      refine hK _ _ ?_; clear hK K
      refine W_ret ?_
      rw [jump_ret]
      exact endQ_2 (by simp only [upd_eq, Nat.reduceEqDiff, ↓reduceIte]) (by simp only [upd_eq, Nat.reduceEqDiff, ↓reduceIte]) ⟨rfl, X.tr (Ext.dr _ _ _), H.ext (Ext.dr noF _ _) fun _ g => g⟩
    clear hK
    have XH : Ext (hF (some hb)) w w' := XX.mono fun _ _ _ g => g.elim
    by_cases hd : dep < 8
    · have td : decide ((dep : Int) < 8) = true := by simp; omega
      refine W_sq fun K hK => (W_text [true, true] (by kernel_rfl) ?_); simp only [↓List.toList_toArray, ↓rgd, ↓rgf, ↓reduceIte, Nat.reduceEqDiff, rg, ow_172, e4, td]
      refine hK _ _ ?_; clear hK K
      refine W_true (by simp only [evt, evc, upd_eq, Nat.reduceEqDiff, ↓reduceIte, ntT, ntF] <;> rfl) ?_
      refine W_sq fun K hK => (W_text [true, true, true, true, true, false] (by kernel_rfl) ?_); simp only [↓List.toList_toArray, ↓rgd, ↓rgf, ↓reduceIte, Nat.reduceEqDiff, rg, ow_172, e3, e4, ptr_eq, idx_ar, idxA_s, hd]
      refine do_store (v := .bool true) (by simp only [evt, evc, upd_eq, Nat.reduceEqDiff, ↓reduceIte, ntT, ntF] <;> rfl) (by simp only [evt, evc, upd_eq, Nat.reduceEqDiff, ↓reduceIte, ntT, ntF] <;> rfl) sz_4 rfl hH'.wok (by omega) (oc_one rfl rfl) fun w2 x2 r2 s2 => ⟨trivial, ?_⟩
      simp only [↓List.toList_toArray, ↓rgd, ↓rgf, ↓reduceIte, Nat.reduceEqDiff, rg, ow_172]
      refine hK _ _ ?_; clear hK K
      have hH2 := hH'.setU x2 (Row.cons.1 r2).1 hd
      have XH2 := XH.trans x2 (fun _ _ g => g) fun y o _ g => (show hF (some hb) y o from by rw [g.1]; rfl)
      have h3'' : rd w2 b 3 = some (.pointer ch) := x2.rd h3' fun g => hne g.1.symm
      refine W_sq fun K hK => (W_text [true] (by kernel_rfl) ?_); simp only [↓List.toList_toArray, ↓rgd, ↓rgf, ↓reduceIte, Nat.reduceEqDiff, rg, ow_172]
      refine hK _ _ ?_; clear hK K
      refine W_sqx fun K hK => ?_
      have hst : ∀ (e : Env) (k p : Nat), p < 256 → e 3 = ptr hb → e 4 = .int .i64 dep → e 10 = .int .i64 (lb O (rkI ord) (rkI ord x) ks : Nat) → e 11 = .bool (hit O (rkI ord) (rkI ord x) ks) → e 15 = .int .u8 p → K e (dr w2 k) := by
        intro e k p hp e3 e4 e10 e11 e15
        refine hK _ _ ?_; clear hK K
        obtain ⟨p0, hp0, hr0⟩ := hH2.path dep hd
        by_cases hpe : p = p0
        · have tp : ((p : Int) != (p0 : Int)) = false := by simp; omega
          refine W_sq fun K hK => (W_text [true, true, true, true, true, true, true, true] (by kernel_rfl) ?_); simp only [↓List.toList_toArray, ↓rgd, ↓rgf, ↓reduceIte, Nat.reduceEqDiff, rg, ow_172, e3, e4, e15, ptr_eq, idx_ar, idxA_s, hd, hr0, tp]
          refine hK _ _ ?_; clear hK K
          refine W_false (by simp only [evt, evc, upd_eq, Nat.reduceEqDiff, ↓reduceIte, ntT, ntF] <;> rfl) (W_skip ?_)
          simp only [andThen_normal]
          exact hend _ _ (by simp only [upd_eq, Nat.reduceEqDiff, ↓reduceIte]; exact e10) (by simp only [upd_eq, Nat.reduceEqDiff, ↓reduceIte]; exact e11) (XH2.tr (Ext.dr _ _ _)) (hH2.ext (Ext.dr noF _ _) fun _ g => g)
        · have tp : ((p : Int) != (p0 : Int)) = true := by simp; omega
          refine W_sq fun K hK => (W_text [true, true, true, true, true, true, true, true] (by kernel_rfl) ?_); simp only [↓List.toList_toArray, ↓rgd, ↓rgf, ↓reduceIte, Nat.reduceEqDiff, rg, ow_172, e3, e4, e15, ptr_eq, idx_ar, idxA_s, hd, hr0, tp]
          refine hK _ _ ?_; clear hK K
          refine W_true (by simp only [evt, evc, upd_eq, Nat.reduceEqDiff, ↓reduceIte, ntT, ntF] <;> rfl) ?_
          refine W_sq fun K hK => (W_text [true, true, true, true, true, true, false] (by kernel_rfl) ?_); simp only [↓List.toList_toArray, ↓rgd, ↓rgf, ↓reduceIte, Nat.reduceEqDiff, rg, ow_172, e3, e4, e15, ptr_eq, idx_ar, idxA_s, hd]
          refine do_store (v := .int .u8 p) (by simp only [evt, evc, upd_eq, Nat.reduceEqDiff, ↓reduceIte, ntT, ntF] <;> rfl) (by simp only [evt, evc, upd_eq, Nat.reduceEqDiff, ↓reduceIte, ntT, ntF] <;> rfl) sz_5 rfl hH2.wok (by omega) (oc_one rfl rfl) fun w3 x3 r3 s3 => ⟨trivial, ?_⟩
          simp only [↓List.toList_toArray, ↓rgd, ↓rgf, ↓reduceIte, Nat.reduceEqDiff, rg, ow_172]
          refine hK _ _ ?_; clear hK K
          have hH3 := hH2.setP x3.od (Row.cons.1 r3).1 hp
          have XH3 := XH2.trans x3.od (fun _ _ g => g) fun y o _ g => (show hF (some hb) y o from by rw [g.1]; rfl)
          have q1 := wadd1 dep (by omega)
          refine W_sq fun K hK => (W_text [true, true, true] (by kernel_rfl) ?_); simp only [↓List.toList_toArray, ↓rgd, ↓rgf, ↓reduceIte, Nat.reduceEqDiff, rg, ow_172, e4, q1]
          refine hK _ _ ?_; clear hK K
          refine W_block (W_loop (fun mm e w' => ∃ i : Nat, mm = 8 - i ∧ e 3 = ptr hb ∧ e 10 = .int .i64 (lb O (rkI ord) (rkI ord x) ks : Nat) ∧ e 11 = .bool (hit O (rkI ord) (rkI ord x) ks) ∧ e 16 = .int .i64 i ∧ Ext (hF (some hb)) w w' ∧ HintAt w' hb)
            (8 - (dep + 1)) ⟨dep + 1, rfl, by simp only [upd_eq, Nat.reduceEqDiff, ↓reduceIte]; exact e3, by simp only [upd_eq, Nat.reduceEqDiff, ↓reduceIte]; exact e10, by simp only [upd_eq, Nat.reduceEqDiff, ↓reduceIte]; exact e11, by simp only [upd_eq, Nat.reduceEqDiff, ↓reduceIte], XH3.tr (Ext.dr _ _ _), hH3.ext (Ext.dr noF _ _) fun _ g => g⟩ ?_)
          clear e3 e4 e10 e11 e15 e XH3 hH3 XH2
          rintro mm e w' ⟨i, rfl, e3, e10, e11, e16, XL, hL'⟩
          refine W_seq ?_
          by_cases hi : i < 8
          · have ti : decide ((i : Int) < 8) = true := by simp; omega
            refine W_sq fun K hK => (W_text [true, true] (by kernel_rfl) ?_); simp only [↓List.toList_toArray, ↓rgd, ↓rgf, ↓reduceIte, Nat.reduceEqDiff, rg, ow_172, e16, ti]
            refine hK _ _ ?_; clear hK K
            refine W_true (by simp only [evt, evc, upd_eq, Nat.reduceEqDiff, ↓reduceIte, ntT, ntF] <;> rfl) (W_skip ?_)
            show W _ _ _ _ _ _
            refine W_seq (W_block ?_)
            refine W_rg fun K hK => (W_text [true, true, true, true, true, false] (by kernel_rfl) ?_); simp only [↓List.toList_toArray, ↓rgd, ↓rgf, ↓reduceIte, Nat.reduceEqDiff, rg, ow_172, e3, e16, ptr_eq, idx_ar, idxA_s, hi]
            refine do_store (v := .bool false) (by simp only [evt, evc, upd_eq, Nat.reduceEqDiff, ↓reduceIte, ntT, ntF] <;> rfl) (by simp only [evt, evc, upd_eq, Nat.reduceEqDiff, ↓reduceIte, ntT, ntF] <;> rfl) sz_4 rfl hL'.wok (by omega) (oc_one rfl rfl) fun w4 x4 r4 s4 => ⟨trivial, ?_⟩
            simp only [↓List.toList_toArray, ↓rgd, ↓rgf, ↓reduceIte, Nat.reduceEqDiff, rg, ow_172]
            refine hK _ _ ?_; clear hK K
            show W _ _ _ _ _ _
            have q2 := wadd1 i (by omega)
            refine W_rg fun K hK => (W_text [true, true, true] (by kernel_rfl) ?_); simp only [↓List.toList_toArray, ↓rgd, ↓rgf, ↓reduceIte, Nat.reduceEqDiff, rg, ow_172, e16, q2]
            refine hK _ _ ?_; clear hK K
            refine ⟨_, ?_, i + 1, rfl, by simp only [upd_eq, Nat.reduceEqDiff, ↓reduceIte]; exact e3, by simp only [upd_eq, Nat.reduceEqDiff, ↓reduceIte]; exact e10, by simp only [upd_eq, Nat.reduceEqDiff, ↓reduceIte]; exact e11, by simp only [upd_eq, Nat.reduceEqDiff, ↓reduceIte], (XL.trans x4.od (fun _ _ g => g) fun y o _ g => (show hF (some hb) y o from by rw [g.1]; rfl)).tr (Ext.dr _ _ _), (hL'.setU x4.od (Row.cons.1 r4).1 hi).ext (Ext.dr noF _ _) fun _ g => g⟩
            omega
          · have ti : decide ((i : Int) < 8) = false := by simp; omega
            refine W_sq fun K hK => (W_text [true, true] (by kernel_rfl) ?_); simp only [↓List.toList_toArray, ↓rgd, ↓rgf, ↓reduceIte, Nat.reduceEqDiff, rg, ow_172, e16, ti]
            refine hK _ _ ?_; clear hK K
            refine W_false (by simp only [evt, evc, upd_eq, Nat.reduceEqDiff, ↓reduceIte, ntT, ntF] <;> rfl) (W_exit ?_)
            simp only [andThen_exit, inBlk_exit, andThen_normal, ↓reduceIte]
            exact hend _ _ (by simp only [upd_eq, Nat.reduceEqDiff, ↓reduceIte]; exact e10) (by simp only [upd_eq, Nat.reduceEqDiff, ↓reduceIte]; exact e11) (XL.tr (Ext.dr _ _ _)) (hL'.ext (Ext.dr noF _ _) fun _ g => g)
      clear hK
      obtain ⟨p1, hp1, hp1'⟩ := u8_of (IntKind.i64.wrap ((lb O (rkI ord) (rkI ord x) ks : Nat) + 1))
      obtain ⟨p2, hp2, hp2'⟩ := u8_of (lb O (rkI ord) (rkI ord x) ks : Nat)
      cases hci : ch.isNone with
      | true =>
        refine W_sq fun K hK => (W_text [true, false, true, true, true] (by kernel_rfl) ?_); simp only [↓List.toList_toArray, ↓rgd, ↓rgf, ↓reduceIte, Nat.reduceEqDiff, rg, ow_172, e1]
        refine do_call fn_122 (by simp only [evt, evc, upd_eq, Nat.reduceEqDiff, ↓reduceIte, maT, maC, maN, isnN, isnS] <;> rfl) (leaf_any b ch w2 h3'') ?_
        rintro _ w3 ⟨rfl, hw3⟩
        obtain rfl : w2 = w3 := hw3.symm
        refine ⟨trivial, ?_⟩
        cases hht : hit O (rkI ord) (rkI ord x) ks with
        | true =>
          simp only [↓List.toList_toArray, ↓rgd, ↓rgf, ↓reduceIte, Nat.reduceEqDiff, rg, ow_172, hci, e11, hht]
          refine hK _ _ ?_; clear hK K
          refine W_true (by simp only [evt, evc, upd_eq, Nat.reduceEqDiff, ↓reduceIte, ntT, ntF] <;> rfl) ?_
          refine W_rg fun K hK => (W_text [true, true, true, true] (by kernel_rfl) ?_); simp only [↓List.toList_toArray, ↓rgd, ↓rgf, ↓reduceIte, Nat.reduceEqDiff, rg, ow_172, e10, hp1]
          refine hK _ _ ?_; clear hK K
          simp only [andThen_normal]
          exact hst _ _ p1 hp1' (by simp only [upd_eq, Nat.reduceEqDiff, ↓reduceIte]; exact e3) (by simp only [upd_eq, Nat.reduceEqDiff, ↓reduceIte]; exact e4) (by simp only [upd_eq, Nat.reduceEqDiff, ↓reduceIte]; exact e10) (by simp only [upd_eq, Nat.reduceEqDiff, ↓reduceIte]; exact e11) (by simp only [upd_eq, Nat.reduceEqDiff, ↓reduceIte])
        | false =>
          simp only [↓List.toList_toArray, ↓rgd, ↓rgf, ↓reduceIte, Nat.reduceEqDiff, rg, ow_172, hci, e11, hht]
          refine hK _ _ ?_; clear hK K
          refine W_false (by simp only [evt, evc, upd_eq, Nat.reduceEqDiff, ↓reduceIte, ntT, ntF] <;> rfl) ?_
          refine W_rg fun K hK => (W_text [true, true, true] (by kernel_rfl) ?_); simp only [↓List.toList_toArray, ↓rgd, ↓rgf, ↓reduceIte, Nat.reduceEqDiff, rg, ow_172, e10, hp2]
          refine hK _ _ ?_; clear hK K
          simp only [andThen_normal]
          exact hst _ _ p2 hp2' (by simp only [upd_eq, Nat.reduceEqDiff, ↓reduceIte]; exact e3) (by simp only [upd_eq, Nat.reduceEqDiff, ↓reduceIte]; exact e4) (by simp only [upd_eq, Nat.reduceEqDiff, ↓reduceIte]; exact e10) (by simp only [upd_eq, Nat.reduceEqDiff, ↓reduceIte]; exact e11) (by simp only [upd_eq, Nat.reduceEqDiff, ↓reduceIte])
      | false =>
        refine W_sq fun K hK => (W_text [true, false, true, true, true] (by kernel_rfl) ?_); simp only [↓List.toList_toArray, ↓rgd, ↓rgf, ↓reduceIte, Nat.reduceEqDiff, rg, ow_172, e1]
        refine do_call fn_122 (by simp only [evt, evc, upd_eq, Nat.reduceEqDiff, ↓reduceIte, maT, maC, maN, isnN, isnS] <;> rfl) (leaf_any b ch w2 h3'') ?_
        rintro _ w3 ⟨rfl, hw3⟩
        obtain rfl : w2 = w3 := hw3.symm
        refine ⟨trivial, ?_⟩
        simp only [↓List.toList_toArray, ↓rgd, ↓rgf, ↓reduceIte, Nat.reduceEqDiff, rg, ow_172, hci]
        refine hK _ _ ?_; clear hK K
        refine W_false (by simp only [evt, evc, upd_eq, Nat.reduceEqDiff, ↓reduceIte, ntT, ntF] <;> rfl) ?_
        refine W_rg fun K hK => (W_text [true, true, true] (by kernel_rfl) ?_); simp only [↓List.toList_toArray, ↓rgd, ↓rgf, ↓reduceIte, Nat.reduceEqDiff, rg, ow_172, e10, hp2]
        refine hK _ _ ?_; clear hK K
        simp only [andThen_normal]
        exact hst _ _ p2 hp2' (by simp only [upd_eq, Nat.reduceEqDiff, ↓reduceIte]; exact e3) (by simp only [upd_eq, Nat.reduceEqDiff, ↓reduceIte]; exact e4) (by simp only [upd_eq, Nat.reduceEqDiff, ↓reduceIte]; exact e10) (by simp only [upd_eq, Nat.reduceEqDiff, ↓reduceIte]; exact e11) (by simp only [upd_eq, Nat.reduceEqDiff, ↓reduceIte])
    · have td : decide ((dep : Int) < 8) = false := by simp; omega
      refine W_sq fun K hK => (W_text [true, true] (by kernel_rfl) ?_); simp only [↓List.toList_toArray, ↓rgd, ↓rgf, ↓reduceIte, Nat.reduceEqDiff, rg, ow_172, e4, td]
      refine hK _ _ ?_; clear hK K
      refine W_false (by simp only [evt, evc, upd_eq, Nat.reduceEqDiff, ↓reduceIte, ntT, ntF] <;> rfl) (W_skip ?_)
      simp only [andThen_normal]
      exact hend _ _ (by simp only [upd_eq, Nat.reduceEqDiff, ↓reduceIte]; exact e10) (by simp only [upd_eq, Nat.reduceEqDiff, ↓reduceIte]; exact e11) (XH.tr (Ext.dr _ _ _)) (hH'.ext (Ext.dr noF _ _) fun _ g => g)
  · intro hon
    refine W_sq fun K hK => (W_text [true] (by kernel_rfl) ?_); simp only [↓List.toList_toArray, ↓rgd, ↓rgf, ↓reduceIte, Nat.reduceEqDiff, rg, ow_172]
    refine hK _ _ ?_; clear hK K
    have q0 := hi_sub ks.length hlen
    refine W_sq fun K hK => (W_text [true, true, true, true, true, true, true] (by kernel_rfl) ?_); simp only [↓List.toList_toArray, ↓rgd, ↓rgf, ↓reduceIte, Nat.reduceEqDiff, rg, ow_172, e1, ptr_eq, h2, q0]
    refine hK _ _ ?_; clear hK K
    refine W_sqx fun K hK => ?_
    have hloop : ∀ (e : Env) (w' : World) (lo hi : Nat), Ext noF w w' → lo ≤ hi → hi ≤ ks.length → e 0 = ptr m → e 1 = ptr b → e 3 = ptr hb → e 4 = .int .i64 dep → e 2 = itV x → e 12 = .int .i64 lo → e 13 = .int .i64 ((hi : Int) - 1) →
        (∀ i y, i < lo → ks[i]? = some y → O.lt (rkI ord x) (rkI ord y) = false) → (∀ i y, hi ≤ i → ks[i]? = some y → O.lt (rkI ord x) (rkI ord y) = true) → K e w' := by
      clear e0 e1 e2 e3 e4 e
      intro e w' lo hi XW hle hhi e0 e1 e3 e4 e2 e12 e13 hlo hup
      refine hK _ _ ?_; clear hK K
      refine W_seq ?_
      refine W_block (W_loop (fun mm e w' => Ext noF w w' ∧ ∃ lo hi : Nat, mm = hi - lo ∧ lo ≤ hi ∧ hi ≤ ks.length ∧ e 0 = ptr m ∧ e 1 = ptr b ∧ e 3 = ptr hb ∧ e 4 = .int .i64 dep ∧ e 2 = itV x ∧ e 12 = .int .i64 lo ∧ e 13 = .int .i64 ((hi : Int) - 1) ∧
        (∀ i y, i < lo → ks[i]? = some y → O.lt (rkI ord x) (rkI ord y) = false) ∧ (∀ i y, hi ≤ i → ks[i]? = some y → O.lt (rkI ord x) (rkI ord y) = true)) (hi - lo) ⟨XW, lo, hi, rfl, hle, hhi, e0, e1, e3, e4, e2, e12, e13, hlo, hup⟩ ?_)
      clear e0 e1 e3 e4 e2 e12 e13 e XW hle hhi hlo hup w' lo hi
      rintro mm e w' ⟨XW, lo, hi, rfl, hle, hhi, e0, e1, e3, e4, e2, e12, e13, hlo, hup⟩
      have sw := XW.size
      have h2' := XW.rd h2 fun g => g
      have row' := XW.row row fun _ _ g => g
      have hL' := hL.ext0 XW
      refine W_seq ?_
      by_cases hlt : lo < hi
      · have ht : decide ((lo : Int) ≤ (hi : Int) - 1) = true := by simp; omega
        refine W_sq fun K hK => (W_text [true, true, true] (by kernel_rfl) ?_); simp only [↓List.toList_toArray, ↓rgd, ↓rgf, ↓reduceIte, Nat.reduceEqDiff, rg, ow_172, e12, e13, ht]
        refine hK _ _ ?_; clear hK K
        refine W_true (by simp only [evt, evc, upd_eq, Nat.reduceEqDiff, ↓reduceIte, ntT, ntF] <;> rfl) (W_skip ?_)
        show W _ _ _ _ _ _
        have q1 := hi_add hi (by omega)
        have q2 := wsub hi lo hle (by omega)
        have q3 := wdiv2 (hi - lo) (by omega)
        have q4 := wadd lo ((hi - lo) / 2) (by omega)
        refine W_block ?_
        refine W_sq fun K hK => (W_text [true, true, true, true, true, true, true, true] (by kernel_rfl) ?_); simp only [↓List.toList_toArray, ↓rgd, ↓rgf, ↓reduceIte, Nat.reduceEqDiff, rg, ow_172, e12, e13, q1, q2, q3, q4]
        refine hK _ _ ?_; clear hK K
        obtain ⟨md, hmd⟩ : ∃ md, md = lo + (hi - lo) / 2 := ⟨_, rfl⟩
        rw [← hmd]
        obtain ⟨y, hy⟩ : ∃ y, ks[md]? = some y := ⟨_, List.getElem?_eq_getElem (by omega)⟩
        have hk := it_at row' hy
        have hi1 : md < ks.length := by omega
        refine W_sq fun K hK => (W_text [true, true, true, true, true, true, true, true, true, false, true] (by kernel_rfl) ?_); simp only [↓List.toList_toArray, ↓rgd, ↓rgf, ↓reduceIte, Nat.reduceEqDiff, rg, ow_172, e0, e1, e2, ptr_eq, h2', hi1, hk]
        refine do_call fn_123 (by simp only [evt, evc, upd_eq, Nat.reduceEqDiff, ↓reduceIte, maT, maC, maN, isnN, isnS] <;> rfl) (less_any B m ord x y _ (hL'.ext0 (Ext.dr noF _ _))) ?_
        rintro _ w2 ⟨rfl, x2⟩
        refine ⟨trivial, ?_⟩
        simp only [↓List.toList_toArray, ↓rgd, ↓rgf, ↓reduceIte, Nat.reduceEqDiff, rg, ow_172]
        refine hK _ _ ?_; clear hK K
        have X2 := XW.tr x2.od
        cases hq : O.lt (rkI ord x) (rkI ord y) with
        | true =>
          refine W_false (by simp only [evt, upd_eq, ↓reduceIte, ntT, ntF]) ?_
          have e5 := hi_sub md (by omega)
          refine W_rg fun K hK => (W_text [true, true, true] (by kernel_rfl) ?_); simp only [↓List.toList_toArray, ↓rgd, ↓rgf, ↓reduceIte, Nat.reduceEqDiff, rg, ow_172, e5]
          refine hK _ _ ?_; clear hK K
          refine ⟨_, ?_, X2.tr (Ext.dr _ _ _), lo, md, rfl, by omega, by omega, ?_, ?_, ?_, ?_, ?_, ?_, ?_, hlo, ?_⟩
          · omega
          · simp only [upd_eq, Nat.reduceEqDiff, ↓reduceIte]; exact e0
          · simp only [upd_eq, Nat.reduceEqDiff, ↓reduceIte]; exact e1
          · simp only [upd_eq, Nat.reduceEqDiff, ↓reduceIte]; exact e3
          · simp only [upd_eq, Nat.reduceEqDiff, ↓reduceIte]; exact e4
          · simp only [upd_eq, Nat.reduceEqDiff, ↓reduceIte]; exact e2
          · simp only [upd_eq, Nat.reduceEqDiff, ↓reduceIte]; exact e12
          · simp only [upd_eq, Nat.reduceEqDiff, ↓reduceIte]
          · intro i z hi' hz
            by_cases he : i = md
            · subst he; rw [hy] at hz; cases hz; exact hq
            · have hsp := List.pairwise_iff_getElem.1 ha md i (by omega) (List.getElem?_eq_some_iff.1 hz).1 (by omega)
              rw [(List.getElem?_eq_some_iff.1 hy).2, (List.getElem?_eq_some_iff.1 hz).2] at hsp
              exact O.tr _ _ _ hq hsp
        | false =>
          refine W_true (by simp only [evt, upd_eq, ↓reduceIte, ntT, ntF]) ?_
          have e5 := wadd1 md (by omega)
          refine W_rg fun K hK => (W_text [true, true, true] (by kernel_rfl) ?_); simp only [↓List.toList_toArray, ↓rgd, ↓rgf, ↓reduceIte, Nat.reduceEqDiff, rg, ow_172, e5]
          refine hK _ _ ?_; clear hK K
          refine ⟨_, ?_, X2.tr (Ext.dr _ _ _), md + 1, hi, rfl, by omega, by omega, ?_, ?_, ?_, ?_, ?_, ?_, ?_, ?_, hup⟩
          · omega
          · simp only [upd_eq, Nat.reduceEqDiff, ↓reduceIte]; exact e0
          · simp only [upd_eq, Nat.reduceEqDiff, ↓reduceIte]; exact e1
          · simp only [upd_eq, Nat.reduceEqDiff, ↓reduceIte]; exact e3
          · simp only [upd_eq, Nat.reduceEqDiff, ↓reduceIte]; exact e4
          · simp only [upd_eq, Nat.reduceEqDiff, ↓reduceIte]; exact e2
          · simp only [upd_eq, Nat.reduceEqDiff, ↓reduceIte]
          · simp only [upd_eq, Nat.reduceEqDiff, ↓reduceIte]; exact e13
          · intro i z hi' hz
            by_cases he : i = md
            · subst he; rw [hy] at hz; cases hz; exact hq
            · have hsp := List.pairwise_iff_getElem.1 ha i md (List.getElem?_eq_some_iff.1 hz).1 (by omega) (by omega)
              rw [(List.getElem?_eq_some_iff.1 hy).2, (List.getElem?_eq_some_iff.1 hz).2] at hsp
              cases hqy : O.lt (rkI ord x) (rkI ord z) with
              | false => rfl
              | true => have := O.tr _ _ _ hqy hsp; rw [hq] at this; cases this
      · obtain rfl : lo = hi := by omega
        have ht : decide ((lo : Int) ≤ (lo : Int) - 1) = false := by simp; omega
        refine W_sq fun K hK => (W_text [true, true, true] (by kernel_rfl) ?_); simp only [↓List.toList_toArray, ↓rgd, ↓rgf, ↓reduceIte, Nat.reduceEqDiff, rg, ow_172, e12, e13, ht]
        refine hK _ _ ?_; clear hK K
        refine W_false (by simp only [evt, evc, upd_eq, Nat.reduceEqDiff, ↓reduceIte, ntT, ntF] <;> rfl) (W_exit ?_)
        simp only [andThen_exit, inBlk_exit, andThen_normal, ↓reduceIte]
        refine W_sqx fun K hK => ?_
        have hlab : ∀ (e : Env) (w' : World), Ext noF w w' → e 1 = ptr b → e 3 = ptr hb → e 4 = .int .i64 dep → e 10 = .int .i64 (lb O (rkI ord) (rkI ord x) ks : Nat) → e 11 = .bool (hit O (rkI ord) (rkI ord x) ks) → K e w' :=
          fun e w' X g1 g3 g4 g10 g11 => hK _ _ (W_seq (W_label (by
            simp only [andThen_normal]
            exact hon _ _ ⟨X, g1, g3, g4, g10, g11⟩)))
        clear hK
        by_cases h00 : 0 < lo
        · obtain ⟨y, hy⟩ : ∃ y, ks[lo - 1]? = some y := ⟨_, List.getElem?_eq_getElem (by omega)⟩
          have hk := it_at row' hy
          have hi1 : lo - 1 < ks.length := by omega
          have e5 := wsub1 lo h00 (by omega)
          have ht0 : decide (0 < (lo : Int)) = true := by simp; omega
          refine W_sq fun K hK => (W_text [true, true, true, true, true, true, true, true, true, true, true, true, true, false, true, true] (by kernel_rfl) ?_); simp only [↓List.toList_toArray, ↓rgd, ↓rgf, ↓reduceIte, Nat.reduceEqDiff, rg, ow_172, e0, e1, e2, e12, ptr_eq, h2', hi1, hk, ht0, e5]
          refine do_call fn_123 (by simp only [evt, evc, upd_eq, Nat.reduceEqDiff, ↓reduceIte, maT, maC, maN, isnN, isnS] <;> rfl) (less_any B m ord y x _ (hL'.ext0 (Ext.dr noF _ _))) ?_
          rintro _ w2 ⟨rfl, x2⟩
          refine ⟨trivial, ?_⟩
          simp only [↓List.toList_toArray, ↓rgd, ↓rgf, ↓reduceIte, Nat.reduceEqDiff, rg, ow_172]
          refine hK _ _ ?_; clear hK K
          have X2 := XW.tr x2.od
          cases hq : O.lt (rkI ord y) (rkI ord x) with
          | true =>
            obtain ⟨f1, f2⟩ := missed_at O (rkI ord) ha (q := rkI ord x) (u := lo) hhi (fun z hz => hup lo z (Nat.le_refl _) hz) (fun z _ hz => by rw [hy] at hz; cases hz; exact hq)
            refine W_false (by simp only [evt, upd_eq, ↓reduceIte, ntT, ntF]) ?_
            refine W_sq fun K hK => (W_text [true, true] (by kernel_rfl) ?_); simp only [↓List.toList_toArray, ↓rgd, ↓rgf, ↓reduceIte, Nat.reduceEqDiff, rg, ow_172, e12]
            refine hK _ _ ?_; clear hK K
            refine W_rg fun K hK => (W_text [true] (by kernel_rfl) ?_); simp only [↓List.toList_toArray, ↓rgd, ↓rgf, ↓reduceIte, Nat.reduceEqDiff, rg, ow_172]
            refine hK _ _ ?_; clear hK K
            simp only [andThen_normal]
            exact hlab _ _ (X2.tr (Ext.dr _ _ _)) (by simp only [upd_eq, Nat.reduceEqDiff, ↓reduceIte]; exact e1) (by simp only [upd_eq, Nat.reduceEqDiff, ↓reduceIte]; exact e3) (by simp only [upd_eq, Nat.reduceEqDiff, ↓reduceIte]; exact e4) (by simp only [upd_eq, Nat.reduceEqDiff, ↓reduceIte]; rw [f1]) (by simp only [upd_eq, Nat.reduceEqDiff, ↓reduceIte]; rw [f2])
          | false =>
            obtain ⟨f1, f2⟩ := found_at O (rkI ord) ha (q := rkI ord x) (u := lo) hhi hlo (fun z hz => hup lo z (Nat.le_refl _) hz) h00 hy hq
            refine W_true (by simp only [evt, upd_eq, ↓reduceIte, ntT, ntF]) ?_
            refine W_sq fun K hK => (W_text [true, true, true] (by kernel_rfl) ?_); simp only [↓List.toList_toArray, ↓rgd, ↓rgf, ↓reduceIte, Nat.reduceEqDiff, rg, ow_172, e12, e5]
            refine hK _ _ ?_; clear hK K
            refine W_rg fun K hK => (W_text [true] (by kernel_rfl) ?_); simp only [↓List.toList_toArray, ↓rgd, ↓rgf, ↓reduceIte, Nat.reduceEqDiff, rg, ow_172]
            refine hK _ _ ?_; clear hK K
            simp only [andThen_normal]
            exact hlab _ _ (X2.tr (Ext.dr _ _ _)) (by simp only [upd_eq, Nat.reduceEqDiff, ↓reduceIte]; exact e1) (by simp only [upd_eq, Nat.reduceEqDiff, ↓reduceIte]; exact e3) (by simp only [upd_eq, Nat.reduceEqDiff, ↓reduceIte]; exact e4) (by simp only [upd_eq, Nat.reduceEqDiff, ↓reduceIte]; rw [f1]) (by simp only [upd_eq, Nat.reduceEqDiff, ↓reduceIte]; rw [f2])
        · have ht0 : decide (0 < (lo : Int)) = false := by simp; omega
          refine W_sq fun K hK => (W_text [true, true, true, true, true, true, true, true, true, true, true, true, true, false, true, true] (by kernel_rfl) ?_); simp only [↓List.toList_toArray, ↓rgd, ↓rgf, ↓reduceIte, Nat.reduceEqDiff, rg, ow_172, e12, ht0]
          refine hK _ _ ?_; clear hK K
          obtain ⟨f1, f2⟩ := missed_at O (rkI ord) ha (q := rkI ord x) (u := lo) hhi (fun z hz => hup lo z (Nat.le_refl _) hz) (fun z h _ => by omega)
          refine W_false (by simp only [evt, evc, upd_eq, Nat.reduceEqDiff, ↓reduceIte, ntT, ntF] <;> rfl) ?_
          refine W_sq fun K hK => (W_text [true, true] (by kernel_rfl) ?_); simp only [↓List.toList_toArray, ↓rgd, ↓rgf, ↓reduceIte, Nat.reduceEqDiff, rg, ow_172, e12]
          refine hK _ _ ?_; clear hK K
          refine W_rg fun K hK => (W_text [true] (by kernel_rfl) ?_); simp only [↓List.toList_toArray, ↓rgd, ↓rgf, ↓reduceIte, Nat.reduceEqDiff, rg, ow_172]
          refine hK _ _ ?_; clear hK K
          simp only [andThen_normal]
          exact hlab _ _ (XW.tr (Ext.dr _ _ _)) (by simp only [upd_eq, Nat.reduceEqDiff, ↓reduceIte]; exact e1) (by simp only [upd_eq, Nat.reduceEqDiff, ↓reduceIte]; exact e3) (by simp only [upd_eq, Nat.reduceEqDiff, ↓reduceIte]; exact e4) (by simp only [upd_eq, Nat.reduceEqDiff, ↓reduceIte]; rw [f1]) (by simp only [upd_eq, Nat.reduceEqDiff, ↓reduceIte]; rw [f2])
    clear hK
    by_cases hd : dep < 8
    · have td : decide ((dep : Int) < 8) = true := by simp; omega
      obtain ⟨u, hu⟩ := hH.used dep hd
      cases u with
      | false =>
        refine W_sq fun K hK => (W_text [true, true, true, true, true, true, true, true, true, true] (by kernel_rfl) ?_); simp only [↓List.toList_toArray, ↓rgd, ↓rgf, ↓reduceIte, Nat.reduceEqDiff, rg, ow_172, e3, e4, td, ptr_eq, idx_ar, idxA_s, hd, hu]
        refine hK _ _ ?_; clear hK K
        refine W_false (by simp only [evt, evc, upd_eq, Nat.reduceEqDiff, ↓reduceIte, ntT, ntF] <;> rfl) (W_skip ?_)
        simp only [andThen_normal]
        refine hloop _ _ 0 ks.length (Ext.dr _ _ _) (Nat.zero_le _) (Nat.le_refl _) (by simp only [upd_eq, Nat.reduceEqDiff, ↓reduceIte]; exact e0) (by simp only [upd_eq, Nat.reduceEqDiff, ↓reduceIte]; exact e1) (by simp only [upd_eq, Nat.reduceEqDiff, ↓reduceIte]; exact e3) (by simp only [upd_eq, Nat.reduceEqDiff, ↓reduceIte]; exact e4) (by simp only [upd_eq, Nat.reduceEqDiff, ↓reduceIte]; exact e2) (by simp only [upd_eq, Nat.reduceEqDiff, ↓reduceIte]; rfl) (by simp only [upd_eq, Nat.reduceEqDiff, ↓reduceIte]) (fun i y hi => by omega) (fun i y hi hx => by have := (List.getElem?_eq_some_iff.1 hx).1; omega)
      | true =>
        refine W_sq fun K hK => (W_text [true, true, true, true, true, true, true, true, true, true] (by kernel_rfl) ?_); simp only [↓List.toList_toArray, ↓rgd, ↓rgf, ↓reduceIte, Nat.reduceEqDiff, rg, ow_172, e3, e4, td, ptr_eq, idx_ar, idxA_s, hd, hu]
        refine hK _ _ ?_; clear hK K
        refine W_true (by simp only [evt, evc, upd_eq, Nat.reduceEqDiff, ↓reduceIte, ntT, ntF] <;> rfl) ?_
        obtain ⟨p, hp, hr⟩ := hH.path dep hd
        have p1 := u8_i64 p hp
        refine W_sq fun K hK => (W_text [true, true, true, true, true, true, true, true] (by kernel_rfl) ?_); simp only [↓List.toList_toArray, ↓rgd, ↓rgf, ↓reduceIte, Nat.reduceEqDiff, rg, ow_172, e3, e4, ptr_eq, idx_ar, idxA_s, hd, hr, p1]
        refine hK _ _ ?_; clear hK K
        have hz : ∀ (i : Nat) y, ks[i]? = some y → ∀ j z, i < j → ks[j]? = some z → O.lt (rkI ord y) (rkI ord z) = true := fun i y hy j z hij hz => by
          have hsp := List.pairwise_iff_getElem.1 ha i j (List.getElem?_eq_some_iff.1 hy).1 (List.getElem?_eq_some_iff.1 hz).1 hij
          rwa [(List.getElem?_eq_some_iff.1 hy).2, (List.getElem?_eq_some_iff.1 hz).2] at hsp
        refine W_sqx fun K2 hK2 => ?_
        have hidx : ∀ (e : Env) (w' : World) (i : Nat), i < ks.length → Ext noF w w' → e 0 = ptr m → e 1 = ptr b → e 3 = ptr hb → e 4 = .int .i64 dep → e 2 = itV x → e 10 = .int .i64 i → e 11 = .bool false → e 12 = .int .i64 (0 : Nat) →
            e 13 = .int .i64 ((ks.length : Int) - 1) → K2 e w' := by
          clear e0 e1 e2 e3 e4 e
          intro e w' i hi XW e0 e1 e3 e4 e2 e10 e11 e12 e13
          refine hK2 _ _ ?_; clear hK2 K2
          have sw := XW.size
          have h2' := XW.rd h2 fun g => g
          have row' := XW.row row fun _ _ g => g
          have hL' := hL.ext0 XW
          obtain ⟨y, hy⟩ : ∃ y, ks[i]? = some y := ⟨_, List.getElem?_eq_getElem hi⟩
          have hk := it_at row' hy
          refine W_sq fun K hK => (W_text [true, true, true, true, true, true, true, true, true, false] (by kernel_rfl) ?_); simp only [↓List.toList_toArray, ↓rgd, ↓rgf, ↓reduceIte, Nat.reduceEqDiff, rg, ow_172, e0, e1, e2, e10, ptr_eq, h2', hi, hk]
          refine do_call fn_123 (by simp only [evt, evc, upd_eq, Nat.reduceEqDiff, ↓reduceIte, maT, maC, maN, isnN, isnS] <;> rfl) (less_any B m ord x y _ (hL'.ext0 (Ext.dr noF _ _))) ?_
          rintro _ w2 ⟨rfl, x2⟩
          refine ⟨trivial, ?_⟩
          simp only [↓List.toList_toArray, ↓rgd, ↓rgf, ↓reduceIte, Nat.reduceEqDiff, rg, ow_172]
          refine hK _ _ ?_; clear hK K
          have X2 := XW.tr x2.od
          have s2 := X2.size
          have h2'' := X2.rd h2 fun g => g
          have row'' := X2.row row fun _ _ g => g
          have hL'' := hL.ext0 X2
          have hk2 := it_at row'' hy
          cases hq : O.lt (rkI ord x) (rkI ord y) with
          | true =>
            refine W_true (by simp only [evt, upd_eq, ↓reduceIte, ntT, ntF]) ?_
            have up : ∀ j z, i ≤ j → ks[j]? = some z → O.lt (rkI ord x) (rkI ord z) = true := fun j z hij hjz => by
              by_cases he : j = i
              · subst he; rw [hy] at hjz; cases hjz; exact hq
              · exact O.tr _ _ _ hq (hz i y hy j z (by omega) hjz)
            refine W_seq ?_
            by_cases h00 : i = 0
            · have t0 : ((i : Int) == 0) = true := by simp; omega
              refine W_sq fun K hK => (W_text [true, true, true, true, true, true, true, true, true, true, true, true, true, false, true] (by kernel_rfl) ?_); simp only [↓List.toList_toArray, ↓rgd, ↓rgf, ↓reduceIte, Nat.reduceEqDiff, rg, ow_172, e10, t0]
              refine hK _ _ ?_; clear hK K
              obtain ⟨f1, f2⟩ := missed_at O (rkI ord) ha (q := rkI ord x) (u := i) (by omega) (fun z hz => up i z (Nat.le_refl _) hz) (fun z h _ => by omega)
              refine W_true (by simp only [evt, evc, upd_eq, Nat.reduceEqDiff, ↓reduceIte, ntT, ntF] <;> rfl) (W_goto ?_)
              simp only [andThen_goto, jump_goto]
              exact ⟨trivial, X2.tr (Ext.dr _ _ _), (by simp only [upd_eq, Nat.reduceEqDiff, ↓reduceIte]; exact e1), (by simp only [upd_eq, Nat.reduceEqDiff, ↓reduceIte]; exact e3), (by simp only [upd_eq, Nat.reduceEqDiff, ↓reduceIte]; exact e4), (by simp only [upd_eq, Nat.reduceEqDiff, ↓reduceIte]; rw [f1]; exact e10), (by simp only [upd_eq, Nat.reduceEqDiff, ↓reduceIte]; rw [f2]; exact e11)⟩
            · have t0 : ((i : Int) == 0) = false := by simp; omega
              obtain ⟨y0, hy0⟩ : ∃ y, ks[i - 1]? = some y := ⟨_, List.getElem?_eq_getElem (by omega)⟩
              have hk0 := it_at row'' hy0
              have hi1 : i - 1 < ks.length := by omega
              have e5 := wsub1 i (by omega) (by omega)
              refine W_sq fun K hK => (W_text [true, true, true, true, true, true, true, true, true, true, true, true, true, false, true] (by kernel_rfl) ?_); simp only [↓List.toList_toArray, ↓rgd, ↓rgf, ↓reduceIte, Nat.reduceEqDiff, rg, ow_172, e0, e1, e2, e10, ptr_eq, h2'', hi1, hk0, t0, e5]
              refine do_call fn_123 (by simp only [evt, evc, upd_eq, Nat.reduceEqDiff, ↓reduceIte, maT, maC, maN, isnN, isnS] <;> rfl) (less_any B m ord y0 x _ (hL''.ext0 (Ext.dr noF _ _))) ?_
              rintro _ w3 ⟨rfl, x3⟩
              refine ⟨trivial, ?_⟩
              simp only [↓List.toList_toArray, ↓rgd, ↓rgf, ↓reduceIte, Nat.reduceEqDiff, rg, ow_172]
              refine hK _ _ ?_; clear hK K
              have X3 := X2.tr x3.od
              cases hq0 : O.lt (rkI ord y0) (rkI ord x) with
              | true =>
                obtain ⟨f1, f2⟩ := missed_at O (rkI ord) ha (q := rkI ord x) (u := i) (by omega) (fun z hz => up i z (Nat.le_refl _) hz) (fun z _ hz => by rw [hy0] at hz; cases hz; exact hq0)
                refine W_true (by simp only [evt, upd_eq, ↓reduceIte, ntT, ntF]) (W_goto ?_)
                simp only [andThen_goto, jump_goto]
                exact ⟨trivial, X3.tr (Ext.dr _ _ _), (by simp only [upd_eq, Nat.reduceEqDiff, ↓reduceIte]; exact e1), (by simp only [upd_eq, Nat.reduceEqDiff, ↓reduceIte]; exact e3), (by simp only [upd_eq, Nat.reduceEqDiff, ↓reduceIte]; exact e4), (by simp only [upd_eq, Nat.reduceEqDiff, ↓reduceIte]; rw [f1]; exact e10), (by simp only [upd_eq, Nat.reduceEqDiff, ↓reduceIte]; rw [f2]; exact e11)⟩
              | false =>
                refine W_false (by simp only [evt, upd_eq, ↓reduceIte, ntT, ntF]) (W_skip ?_)
                show W _ _ _ _ _ _
                have e6 := hi_sub i (by omega)
                refine W_rg fun K hK => (W_text [true, true, true] (by kernel_rfl) ?_); simp only [↓List.toList_toArray, ↓rgd, ↓rgf, ↓reduceIte, Nat.reduceEqDiff, rg, ow_172, e10, e6]
                refine hK _ _ ?_; clear hK K
                simp only [andThen_normal]
                exact hloop _ _ 0 i (X3.tr (Ext.dr _ _ _)) (Nat.zero_le _) (by omega) (by simp only [upd_eq, Nat.reduceEqDiff, ↓reduceIte]; exact e0) (by simp only [upd_eq, Nat.reduceEqDiff, ↓reduceIte]; exact e1) (by simp only [upd_eq, Nat.reduceEqDiff, ↓reduceIte]; exact e3) (by simp only [upd_eq, Nat.reduceEqDiff, ↓reduceIte]; exact e4) (by simp only [upd_eq, Nat.reduceEqDiff, ↓reduceIte]; exact e2) (by simp only [upd_eq, Nat.reduceEqDiff, ↓reduceIte]; exact e12) (by simp only [upd_eq, Nat.reduceEqDiff, ↓reduceIte]) (fun i y hi => by omega) up
          | false =>
            refine W_false (by simp only [evt, upd_eq, ↓reduceIte, ntT, ntF]) ?_
            refine W_sq fun K hK => (W_text [true, true, true, true, true, true, true, true, true, false] (by kernel_rfl) ?_); simp only [↓List.toList_toArray, ↓rgd, ↓rgf, ↓reduceIte, Nat.reduceEqDiff, rg, ow_172, e0, e1, e2, e10, ptr_eq, h2'', hi, hk2]
            refine do_call fn_123 (by simp only [evt, evc, upd_eq, Nat.reduceEqDiff, ↓reduceIte, maT, maC, maN, isnN, isnS] <;> rfl) (less_any B m ord y x _ (hL''.ext0 (Ext.dr noF _ _))) ?_
            rintro _ w3 ⟨rfl, x3⟩
            refine ⟨trivial, ?_⟩
            simp only [↓List.toList_toArray, ↓rgd, ↓rgf, ↓reduceIte, Nat.reduceEqDiff, rg, ow_172]
            refine hK _ _ ?_; clear hK K
            have X3 := X2.tr x3.od
            have low : ∀ j z, j < i + 1 → ks[j]? = some z → O.lt (rkI ord x) (rkI ord z) = false := fun j z hij hjz => by
              by_cases he : j = i
              · subst he; rw [hy] at hjz; cases hjz; exact hq
              · cases hqz : O.lt (rkI ord x) (rkI ord z) with
                | false => rfl
                | true => have := O.tr _ _ _ hqz (hz j z hjz i y (by omega) hy); rw [hq] at this; cases this
            cases hq0 : O.lt (rkI ord y) (rkI ord x) with
            | true =>
              refine W_true (by simp only [evt, upd_eq, ↓reduceIte, ntT, ntF]) ?_
              have e6 := wadd1 i (by omega)
              refine W_rg fun K hK => (W_text [true, true, true] (by kernel_rfl) ?_); simp only [↓List.toList_toArray, ↓rgd, ↓rgf, ↓reduceIte, Nat.reduceEqDiff, rg, ow_172, e10, e6]
              refine hK _ _ ?_; clear hK K
              simp only [andThen_normal]
              exact hloop _ _ (i + 1) ks.length (X3.tr (Ext.dr _ _ _)) hi (Nat.le_refl _) (by simp only [upd_eq, Nat.reduceEqDiff, ↓reduceIte]; exact e0) (by simp only [upd_eq, Nat.reduceEqDiff, ↓reduceIte]; exact e1) (by simp only [upd_eq, Nat.reduceEqDiff, ↓reduceIte]; exact e3) (by simp only [upd_eq, Nat.reduceEqDiff, ↓reduceIte]; exact e4) (by simp only [upd_eq, Nat.reduceEqDiff, ↓reduceIte]; exact e2) (by simp only [upd_eq, Nat.reduceEqDiff, ↓reduceIte]) (by simp only [upd_eq, Nat.reduceEqDiff, ↓reduceIte]; exact e13) low (fun i y hi hx => by have := (List.getElem?_eq_some_iff.1 hx).1; omega)
            | false =>
              have hxy := O.tot _ _ hq0 hq
              obtain ⟨f1, f2⟩ := found_at O (rkI ord) ha (q := rkI ord x) (u := i + 1) hi low (fun z hjz => by rw [← hxy]; exact hz i y hy (i + 1) z (by omega) hjz) (by omega) hy hq0
              refine W_false (by simp only [evt, upd_eq, ↓reduceIte, ntT, ntF]) ?_
              refine W_sq fun K hK => (W_text [true] (by kernel_rfl) ?_); simp only [↓List.toList_toArray, ↓rgd, ↓rgf, ↓reduceIte, Nat.reduceEqDiff, rg, ow_172]
              refine hK _ _ ?_; clear hK K
              refine W_goto ?_
              simp only [andThen_goto, jump_goto]
              exact ⟨trivial, X3.tr (Ext.dr _ _ _), (by simp only [upd_eq, Nat.reduceEqDiff, ↓reduceIte]; exact e1), (by simp only [upd_eq, Nat.reduceEqDiff, ↓reduceIte]; exact e3), (by simp only [upd_eq, Nat.reduceEqDiff, ↓reduceIte]; exact e4), (by simp only [upd_eq, Nat.reduceEqDiff, ↓reduceIte]; rw [f1]; exact e10), (by simp only [upd_eq, Nat.reduceEqDiff, ↓reduceIte]; rw [f2])⟩
        clear hK2
        by_cases hpl : p < ks.length
        · have tp : decide ((ks.length : Int) ≤ (p : Int)) = false := by simp; omega
          refine W_sq fun K hK => (W_text [true, true, true, true, true, true, true] (by kernel_rfl) ?_); simp only [↓List.toList_toArray, ↓rgd, ↓rgf, ↓reduceIte, Nat.reduceEqDiff, rg, ow_172, e1, ptr_eq, h2, tp]
          refine hK _ _ ?_; clear hK K
          refine W_false (by simp only [evt, evc, upd_eq, Nat.reduceEqDiff, ↓reduceIte, ntT, ntF] <;> rfl) (W_skip ?_)
          simp only [andThen_normal]
          exact hidx _ _ p hpl (Ext.dr _ _ _) (by simp only [upd_eq, Nat.reduceEqDiff, ↓reduceIte]; exact e0) (by simp only [upd_eq, Nat.reduceEqDiff, ↓reduceIte]; exact e1) (by simp only [upd_eq, Nat.reduceEqDiff, ↓reduceIte]; exact e3) (by simp only [upd_eq, Nat.reduceEqDiff, ↓reduceIte]; exact e4) (by simp only [upd_eq, Nat.reduceEqDiff, ↓reduceIte]; exact e2) (by simp only [upd_eq, Nat.reduceEqDiff, ↓reduceIte]) (by simp only [upd_eq, Nat.reduceEqDiff, ↓reduceIte]) (by simp only [upd_eq, Nat.reduceEqDiff, ↓reduceIte]; rfl) (by simp only [upd_eq, Nat.reduceEqDiff, ↓reduceIte])
        · have tp : decide ((ks.length : Int) ≤ (p : Int)) = true := by simp; omega
          refine W_sq fun K hK => (W_text [true, true, true, true, true, true, true] (by kernel_rfl) ?_); simp only [↓List.toList_toArray, ↓rgd, ↓rgf, ↓reduceIte, Nat.reduceEqDiff, rg, ow_172, e1, ptr_eq, h2, tp]
          refine hK _ _ ?_; clear hK K
          refine W_true (by simp only [evt, evc, upd_eq, Nat.reduceEqDiff, ↓reduceIte, ntT, ntF] <;> rfl) (W_seq ?_)
          obtain ⟨y0, hy0⟩ : ∃ y, ks[ks.length - 1]? = some y := ⟨_, List.getElem?_eq_getElem (by omega)⟩
          have hk0 := it_at row hy0
          have hi1 : ks.length - 1 < ks.length := by omega
          have e5 := wsub1 ks.length (by omega) (by omega)
          refine W_sq fun K hK => (W_free (some none) (.take 0 (.take 1 (.take 2 (.take 3 (.take 4 (.take 5 (.take 6 (.take 7 (.take 8 (.take 9 (.take 10 (.take 11 (.take 12 (.take 13 (.bar 14 .nil))))))))))))))) mixed (by kernel_rfl) ?_); simp only [↓List.toList_toArray, ↓rgd, ↓rgf, ↓reduceIte, Nat.reduceEqDiff, rg, ow_172, e0, e1, e2, ptr_eq, h2, hi1, hk0, e5]
          refine do_call fn_123 (by simp only [evt, evc, upd_eq, Nat.reduceEqDiff, ↓reduceIte, maT, maC, maN, isnN, isnS] <;> rfl) (less_any B m ord y0 x _ (hL.ext0 (Ext.dr noF _ _))) ?_
          rintro _ w2 ⟨rfl, x2⟩
          refine ⟨trivial, ?_⟩
          simp only [↓List.toList_toArray, ↓rgd, ↓rgf, ↓reduceIte, Nat.reduceEqDiff, rg, ow_172]
          refine hK _ _ ?_; clear hK K
          have X2 := x2.od
          have h2'' := X2.rd h2 fun g => g
          cases hq0 : O.lt (rkI ord y0) (rkI ord x) with
          | true =>
            obtain ⟨f1, f2⟩ := missed_at O (rkI ord) ha (q := rkI ord x) (u := ks.length) (Nat.le_refl _) (fun z hjz => by have := (List.getElem?_eq_some_iff.1 hjz).1; omega) (fun z _ hz => by rw [hy0] at hz; cases hz; exact hq0)
            refine W_true (by simp only [evt, upd_eq, ↓reduceIte, ntT, ntF]) ?_
            refine W_sq fun K hK => (W_text [true, true, true, true, true, true] (by kernel_rfl) ?_); simp only [↓List.toList_toArray, ↓rgd, ↓rgf, ↓reduceIte, Nat.reduceEqDiff, rg, ow_172, e1, ptr_eq, h2'']
            refine hK _ _ ?_; clear hK K
            refine W_goto ?_
            simp only [andThen_goto, jump_goto]
            exact ⟨trivial, X2.tr (Ext.dr _ _ _), (by simp only [upd_eq, Nat.reduceEqDiff, ↓reduceIte]; exact e1), (by simp only [upd_eq, Nat.reduceEqDiff, ↓reduceIte]; exact e3), (by simp only [upd_eq, Nat.reduceEqDiff, ↓reduceIte]; exact e4), (by simp only [upd_eq, Nat.reduceEqDiff, ↓reduceIte]; rw [f1]), (by simp only [upd_eq, Nat.reduceEqDiff, ↓reduceIte]; rw [f2])⟩
          | false =>
            refine W_false (by simp only [evt, upd_eq, ↓reduceIte, ntT, ntF]) (W_skip ?_)
            show W _ _ _ _ _ _
            refine W_rg fun K hK => (W_text [true, true, true, true, true, true, true] (by kernel_rfl) ?_); simp only [↓List.toList_toArray, ↓rgd, ↓rgf, ↓reduceIte, Nat.reduceEqDiff, rg, ow_172, e1, ptr_eq, h2'', e5]
            refine hK _ _ ?_; clear hK K
            simp only [andThen_normal]
            exact hidx _ _ (ks.length - 1) hi1 (X2.tr (Ext.dr _ _ _)) (by simp only [upd_eq, Nat.reduceEqDiff, ↓reduceIte]; exact e0) (by simp only [upd_eq, Nat.reduceEqDiff, ↓reduceIte]; exact e1) (by simp only [upd_eq, Nat.reduceEqDiff, ↓reduceIte]; exact e3) (by simp only [upd_eq, Nat.reduceEqDiff, ↓reduceIte]; exact e4) (by simp only [upd_eq, Nat.reduceEqDiff, ↓reduceIte]; exact e2) (by simp only [upd_eq, Nat.reduceEqDiff, ↓reduceIte]) (by simp only [upd_eq, Nat.reduceEqDiff, ↓reduceIte]) (by simp only [upd_eq, Nat.reduceEqDiff, ↓reduceIte]; rfl) (by simp only [upd_eq, Nat.reduceEqDiff, ↓reduceIte])
    · have td : decide ((dep : Int) < 8) = false := by simp; omega
      refine W_sq fun K hK => (W_text [true, true, true, true, true, true, true, true, true, true] (by kernel_rfl) ?_); simp only [↓List.toList_toArray, ↓rgd, ↓rgf, ↓reduceIte, Nat.reduceEqDiff, rg, ow_172, e3, e4, td]
      refine hK _ _ ?_; clear hK K
      refine W_false (by simp only [evt, evc, upd_eq, Nat.reduceEqDiff, ↓reduceIte, ntT, ntF] <;> rfl) (W_skip ?_)
      simp only [andThen_normal]
      refine hloop _ _ 0 ks.length (Ext.dr _ _ _) (Nat.zero_le _) (Nat.le_refl _) (by simp only [upd_eq, Nat.reduceEqDiff, ↓reduceIte]; exact e0) (by simp only [upd_eq, Nat.reduceEqDiff, ↓reduceIte]; exact e1) (by simp only [upd_eq, Nat.reduceEqDiff, ↓reduceIte]; exact e3) (by simp only [upd_eq, Nat.reduceEqDiff, ↓reduceIte]; exact e4) (by simp only [upd_eq, Nat.reduceEqDiff, ↓reduceIte]; exact e2) (by simp only [upd_eq, Nat.reduceEqDiff, ↓reduceIte]; rfl) (by simp only [upd_eq, Nat.reduceEqDiff, ↓reduceIte]) (fun i y hi => by omega) (fun i y hi hx => by have := (List.getElem?_eq_some_iff.1 hx).1; omega)
set_option maxHeartbeats 400000 in
set_option maxRecDepth 8000 in
/-- The search in a node, with a hint or without one. -/
theorem find_any (B m b bi oi cap : Nat) (ord : List Int) (ks : List It) (x : It) (ch : Option Addr) (hp : Option Nat) (dep : Nat) (w : World) (hL : Ls B m w ord) (h2 : rd w b 2 = some (.slice (some ⟨bi, oi, none⟩) ks.length cap)) (h3 : rd w b 3 = some (.pointer ch))
    (row : Row w bi oi (flat E ks)) (hbi : bi < w.heap.size) (hlen : ks.length < 4611686018427387904) (hpos : 0 < ks.length) (ha : Asc O (rkI ord) ks) (hH : HOk hp w) (hne : ∀ hb, hp = some hb → hb ≠ b) :
    CallK Try.prog 174 #[ptr m, ptr b, itV x, hV hp, .int .i64 dep] w fun v w' => v = srchG ord ks x ∧ Ext (hF hp) w w' ∧ HOk hp w' := by
  refine calls_of_W [.tmp 10, .tmp 11] Try.func174 rfl Try.ntmps174 Try.results174 (by simp) fun e he => ?_
  have e0 : e 0 = ptr m := he 0 _ rfl
  have e1 : e 1 = ptr b := he 1 _ rfl
  have e2 : e 2 = itV x := he 2 _ rfl
  have e3 : e 3 = hV hp := he 3 _ rfl
  have e4 : e 4 = .int .i64 dep := he 4 _ rfl
  clear he
  refine W_sq fun K hK => (W_text [true, true] (by kernel_rfl) ?_); simp only [↓List.toList_toArray, ↓rgd, ↓rgf, ↓reduceIte, Nat.reduceEqDiff, rg, ow_174]
  refine hK _ _ ?_; clear hK K
  have X1 : Ext noF w w := Ext.refl _ _
  have h2' := X1.rd h2 fun g => g
  have h3' := X1.rd h3 fun g => g
  have row' := X1.row row fun _ _ g => g
  have hL' := hL.ext0 X1
  have hs := X1.size
  refine W_seq ?_
  cases hp with
  | none =>
    rw [hV_none] at e3
    refine W_sq fun K hK => (W_text [true, true] (by kernel_rfl) ?_); simp only [↓List.toList_toArray, ↓rgd, ↓rgf, ↓reduceIte, Nat.reduceEqDiff, rg, ow_174, e3]
    refine hK _ _ ?_; clear hK K
    refine W_true (by simp only [evt, evc, upd_eq, Nat.reduceEqDiff, ↓reduceIte, ntT, ntF] <;> rfl) ?_
    refine W_sq fun K hK => (W_text [true, true, true, false, true, true, true, true] (by kernel_rfl) ?_); simp only [↓List.toList_toArray, ↓rgd, ↓rgf, ↓reduceIte, Nat.reduceEqDiff, rg, ow_174, e0, e1, e2]
    refine do_call fn_171 (by simp only [evt, evc, upd_eq, Nat.reduceEqDiff, ↓reduceIte, maT, maC, maN, isnN, isnS] <;> rfl) (bsearch_any B m b bi oi cap ord ks x _ hL' h2' row' (by omega) hlen ha) ?_
    rintro _ w2 ⟨rfl, x2⟩
    refine ⟨trivial, ?_⟩
    simp only [↓List.toList_toArray, ↓rgd, ↓rgf, ↓reduceIte, Nat.reduceEqDiff, rg, ow_174, srchG]
    refine hK _ _ ?_; clear hK K
    refine W_ret ?_
    simp only [andThen_ret]
    exact endQ_2 (by simp only [upd_eq, Nat.reduceEqDiff, ↓reduceIte] <;> rfl) (by simp only [upd_eq, Nat.reduceEqDiff, ↓reduceIte] <;> rfl) ⟨rfl, ((X1.tr x2).tr (Ext.dr _ _ _)).mono fun _ _ _ g => g.elim, HOk.none _⟩
  | some hb =>
    rw [hV_some] at e3
    refine W_sq fun K hK => (W_text [true, true] (by kernel_rfl) ?_); simp only [↓List.toList_toArray, ↓rgd, ↓rgf, ↓reduceIte, Nat.reduceEqDiff, rg, ow_174, e3, ptr_eq]
    refine hK _ _ ?_; clear hK K
    refine W_false (by simp only [evt, evc, upd_eq, Nat.reduceEqDiff, ↓reduceIte, ntT, ntF] <;> rfl) (W_skip ?_)
    show W _ _ _ _ _ _
    refine W_sq fun K hK => (W_text [true, true, true, true, true, false, true, true, true, true] (by kernel_rfl) ?_); simp only [↓List.toList_toArray, ↓rgd, ↓rgf, ↓reduceIte, Nat.reduceEqDiff, rg, ow_174, e0, e1, e3, e4, e2]
    refine do_call fn_172 (by simp only [evt, evc, upd_eq, Nat.reduceEqDiff, ↓reduceIte, maT, maC, maN, isnN, isnS] <;> rfl) (hint_any B m b bi oi cap ord ks x ch hb dep _ hL' h2' h3' row' (by omega) hlen hpos ha ((hH hb rfl).ext X1 fun _ g => g) (hne hb rfl)) ?_
    rintro _ w2 ⟨rfl, x2, hH2⟩
    refine ⟨trivial, ?_⟩
    simp only [↓List.toList_toArray, ↓rgd, ↓rgf, ↓reduceIte, Nat.reduceEqDiff, rg, ow_174, srchG]
    refine hK _ _ ?_; clear hK K
    refine W_ret ?_
    exact endQ_2 (by simp only [upd_eq, Nat.reduceEqDiff, ↓reduceIte] <;> rfl) (by simp only [upd_eq, Nat.reduceEqDiff, ↓reduceIte] <;> rfl) ⟨rfl, (X1.trans x2 (fun _ _ g => g.elim) fun _ _ _ g => g).tr (Ext.dr _ _ _), fun b' h => by cases h; exact hH2.ext (Ext.dr noF _ _) fun _ g => g⟩
end Go.Proofs.Ytanmjbkbdmeckaa
/-
  Handing on the items of a tree backwards, from a key on. No condition.
-/
set_option linter.unusedSimpArgs false
set_option linter.unusedVariables false
namespace Go.Proofs.Ytanmjbkbdmeckaa
open Go Go.Proofs
set_option maxHeartbeats 1000000 in
set_option maxRecDepth 8000 in
theorem nodeDesc_any (m : Nat) (iso : Int) (mn mx : Nat) (B : Nat) (ord : List Int) (q : It) (hp : Option Nat) (f : Value) (G : Nat → Nat → Prop) (S : List It → World → Prop) (go : List It → Bool) (C : Cb f G S go) (hm : ∀ o, ¬ G m o) (hB : ∀ hb, hp = some hb → (m ≤ hb ∨ hb < B) ∧ ∀ o, G hb o) (hSh : ∀ done w w', S done w → Ext (hF hp) w w' → S done w') (hmn : 1 ≤ mn) (mu : Bool) :
    ∀ (h b lo pc po : Nat) (xs : List It) (F : Nat → Nat → Prop) (done : List It) (w : World) (dep : Nat), 1 ≤ lo → dep + h < 4611686018427387904 → Ls B m w ord → HOk hp w → Tr E iso mn mx h w lo b xs F → Asc O (rkI ord) xs → rd w m 0 = some (.int .u64 iso) → rd w pc po = some (ptr b) → (∀ y o o', F y o → ¬ G y o') → S done w →
      done.length + xs.length ≤ 4294967295 →
    CallK Try.prog 166 #[ptr m, .pointer (some ⟨pc, po, none⟩), itV q, hV hp, .int .i64 dep, f, .bool mu] w fun v w' => v = .bool (hand go done (xs.take (ub O (rkI ord) (rkI ord q) xs)).reverse).2 ∧ S (hand go done (xs.take (ub O (rkI ord) (rkI ord q) xs)).reverse).1 w' ∧ Ext G w w' := by
  have C0 := C
  obtain ⟨⟨g, first, cap0, rfl, hg, hcall⟩, hSx⟩ := C
  intro h
  induction h with
  | zero =>
    intro b lo pc po xs F done w dep hlo hdep hL hH ht ha h0 hpc hG hS hbig
    obtain ⟨bi, oi, cap, ho, h1, h2, hF⟩ := ht
    refine calls_of_W [.tmp 14] Try.func166 rfl Try.ntmps166 Try.results166 (by simp) fun e he => ?_
    have e0 : e 0 = ptr m := he 0 _ rfl
    have e1 : e 1 = .pointer (some ⟨pc, po, none⟩) := he 1 _ rfl
    have e2 : e 2 = itV q := he 2 _ rfl
    have e3 : e 3 = hV hp := he 3 _ rfl
    have e4 : e 4 = .int .i64 dep := he 4 _ rfl
    have e5 : e 5 = .func (.func g) first cap0 := he 5 _ rfl
    have e6 : e 6 = .bool mu := he 6 _ rfl
    clear he
    refine W_sq fun K0 hK => (W_text [true] (by kernel_rfl) ?_); simp only [↓List.toList_toArray, ↓rgd, ↓rgf, ↓reduceIte, Nat.reduceEqDiff, rg, ow_166]
    refine hK _ _ ?_; clear hK K0
    have x0 : Ext noF w w := Ext.refl _ _
    have s0 := x0.size
    refine W_sq fun K0 hK => (W_text [true, true, true, false, true] (by kernel_rfl) ?_); simp only [↓List.toList_toArray, ↓rgd, ↓rgf, ↓reduceIte, Nat.reduceEqDiff, rg, ow_166, e0, e1, e6]
    refine do_call fn_121 (by simp only [evt, evc, upd_eq, Nat.reduceEqDiff, ↓reduceIte, maT, maC, maN, isnN, isnS] <;> rfl) (isoLoad_any m pc po b mu iso w (x0.rd h0 fun h => h) (x0.rd hpc fun h => h) (x0.rd ho.h0 fun h => h)) ?_
    rintro _ w1 ⟨rfl, r1⟩
    refine ⟨trivial, ?_⟩
    simp only [↓List.toList_toArray, ↓rgd, ↓rgf, ↓reduceIte, Nat.reduceEqDiff, rg, ow_166]
    refine hK _ _ ?_; clear hK K0
    have x01 : Ext noF w w1 := r1.ext
    have x1 : Ext noF w w1 := x0.tr x01
    have s1 := x1.size
    have hbl := wok_lt ho.wb
    have hbil := wok_lt ho.wi
    have hbh : ∀ hb, hp = some hb → hb ≠ b := fun hb hh hE => hG b 0 0 ((hF _ _).2 (.inl rfl)) (by rw [← hE]; exact (hB hb hh).2 0)
    have hbx : ∀ o, ¬ Go.Proofs.Ytanmjbkbdmeckaa.hF hp w.heap.size o := fun o g => by
      have := wok_lt (hH _ g).wok; omega
    have hbF : ∀ y o, F y o → ¬ Go.Proofs.Ytanmjbkbdmeckaa.hF hp y o := fun y o hy hg => hG y o o hy ((hB y hg).2 o)
    have o1 := ho.ext x1 fun _ _ _ h => h
    refine W_sq fun K0 hK => (W_text [true, true, true, true, true, false, true, true, true, true, true] (by kernel_rfl) ?_); simp only [↓List.toList_toArray, ↓rgd, ↓rgf, ↓reduceIte, Nat.reduceEqDiff, rg, ow_166, e0, e3, e4, e2]
    refine do_call fn_174 (by simp only [evt, evc, upd_eq, Nat.reduceEqDiff, ↓reduceIte, maT, maC, maN, isnN, isnS] <;> rfl) (find_any B m b bi oi cap ord xs q none hp dep w1 (hL.ext0 x1) o1.h2 o1.h3 o1.row (by omega) (by omega) (by omega) ha (hH.ext0 x1) hbh) ?_
    rintro _ w2 ⟨rfl, r2, hH2⟩
    refine ⟨trivial, ?_⟩
    simp only [↓List.toList_toArray, ↓rgd, ↓rgf, ↓reduceIte, Nat.reduceEqDiff, rg, ow_166, srchG_eq]
    refine hK _ _ ?_; clear hK K0
    have x2 : Ext (Go.Proofs.Ytanmjbkbdmeckaa.hF hp) w w2 := (x1.trans r2 (fun _ _ g => g.elim) fun _ _ _ g => g)
    have x2G : Ext G w w2 := x2.mono fun y o _ g => (hB y g).2 o
    have o2 := ho.ext x2 fun y o h => hbF y o ((hF y o).2 h)
    have S2 := hSh _ _ _ hS x2
    have hlb := lb_le O (rkI ord) (rkI ord q) xs
    refine W_sqx fun K hK => ?_
    have hub := ub_le O (rkI ord) (rkI ord q) xs
    have hloop : ∀ e' : Env, e' 5 = .func (.func g) first cap0 → e' 15 = ptr b → e' 16 = .int .i64 ((ub O (rkI ord) (rkI ord q) xs : Nat) - 1 : Int) → K e' w2 := by
      intro e e5 e15 e16
      refine hK _ _ ?_; clear hK K
      refine W_seq ?_
      refine W_block (W_loop (fun mm e w' => ∃ (i : Nat) (d : List It), mm = i ∧ i ≤ xs.length ∧ hand go done (xs.take (ub O (rkI ord) (rkI ord q) xs)).reverse = hand go d (xs.take i).reverse ∧ d.length + i ≤ 4294967295 ∧ S d w' ∧ Ext G w w' ∧ e 5 = .func (.func g) first cap0 ∧ e 15 = ptr b ∧ e 16 = .int .i64 ((i : Int) - 1))
        (ub O (rkI ord) (rkI ord q) xs) ⟨_, done, rfl, hub, rfl, by omega, S2, x2G, e5, e15, e16⟩ ?_)
      clear e5 e15 e16 e S2 o2
      rintro mm e w' ⟨i, d, rfl, hi, hh, hdl, hS', X, e5, e15, e16⟩
      have o' := ho.ext X fun y o h => hG y o o ((hF y o).2 h)
      have hb2 := o'.h2
      have hb3 := o'.h3
      refine W_seq ?_
      by_cases hlt : 0 < mm
      · have ht := ge_tt mm hlt
        refine W_sq fun K0 hK => (W_text [true, true] (by kernel_rfl) ?_); simp only [↓List.toList_toArray, ↓rgd, ↓rgf, ↓reduceIte, Nat.reduceEqDiff, rg, ow_166, e16, ht]
        refine hK _ _ ?_; clear hK K0
        refine W_true (by simp only [evt, evc, upd_eq, Nat.reduceEqDiff, ↓reduceIte, ntT, ntF] <;> rfl) (W_skip ?_)
        show W _ _ _ _ _ _
        have hil : mm - 1 < xs.length := by omega
        obtain ⟨x, hx⟩ : ∃ x, xs[mm - 1]? = some x := ⟨_, List.getElem?_eq_getElem hil⟩
        have hk := it_at o'.row hx
        rw [take_rev hlt hx] at hh
        rw [int_pred mm hlt] at e16
        refine W_seq (W_block (W_seq ?_))
        refine W_sq fun K0 hK => (W_text [true, true, true, true, true, true, true, true, false, true] (by kernel_rfl) ?_); simp only [↓List.toList_toArray, ↓rgd, ↓rgf, ↓reduceIte, Nat.reduceEqDiff, rg, ow_166, e5, e15, e16, ptr_eq, hb2, hil, hk]
        refine do_callv (by simp only [evt, evc, upd_eq, Nat.reduceEqDiff, ↓reduceIte, ntT, ntF] <;> rfl) hg rfl (by simp only [evt, upd_eq, Nat.reduceEqDiff, ↓reduceIte, maT, maC, maN]; exact hcall d x _ hS' (by omega)) ?_
        rintro _ w3 ⟨rfl, hS3, x3⟩
        refine ⟨trivial, ?_⟩
        simp only [↓List.toList_toArray, ↓rgd, ↓rgf, ↓reduceIte, Nat.reduceEqDiff, rg, ow_166]
        refine hK _ _ ?_; clear hK K0
        have o3 := ho.ext (X.tr x3) fun y o h => hG y o o ((hF y o).2 h)
        have b3 := o3.h3
        cases hgo : go (d ++ [x]) with
        | true =>
          refine W_false (by simp only [evt, evc, upd_eq, Nat.reduceEqDiff, ↓reduceIte, ntT, ntF] <;> rfl) (W_skip ?_)
          show W _ _ _ _ _ _
          refine W_sq fun K0 hK => (W_text [true, false, true] (by kernel_rfl) ?_); simp only [↓List.toList_toArray, ↓rgd, ↓rgf, ↓reduceIte, Nat.reduceEqDiff, rg, ow_166, e15]
          refine do_call fn_122 (by simp only [evt, evc, upd_eq, Nat.reduceEqDiff, ↓reduceIte, maT, maC, maN, isnN, isnS] <;> rfl) (leaf_any b none w3 b3) ?_
          rintro _ w3 ⟨rfl, rfl⟩
          refine ⟨trivial, ?_⟩
          simp only [↓List.toList_toArray, ↓rgd, ↓rgf, ↓reduceIte, Nat.reduceEqDiff, rg, ow_166]
          refine hK _ _ ?_; clear hK K0
          refine W_false (by simp only [evt, evc, upd_eq, Nat.reduceEqDiff, ↓reduceIte, ntT, ntF] <;> rfl) (W_skip ?_)
          show W _ _ _ _ _ _
          have q1 := pred_wrap (mm - 1) (by omega)
          refine W_rg fun K0 hK => (W_text [true, true, true] (by kernel_rfl) ?_); simp only [↓List.toList_toArray, ↓rgd, ↓rgf, ↓reduceIte, Nat.reduceEqDiff, rg, ow_166, e16, q1]
          refine hK _ _ ?_; clear hK K0
          refine ⟨_, ?_, mm - 1, d ++ [x], rfl, by omega, by rw [hh, hand_yes go hgo], by simp; omega, hS3, X.tr x3, ?_, ?_, ?_⟩
          · omega
          · simp only [upd_eq, Nat.reduceEqDiff, ↓reduceIte]; exact e5
          · simp only [upd_eq, Nat.reduceEqDiff, ↓reduceIte]; exact e15
          · simp only [upd_eq, Nat.reduceEqDiff, ↓reduceIte]
        | false =>
          refine W_true (by simp only [evt, evc, upd_eq, Nat.reduceEqDiff, ↓reduceIte, ntT, ntF] <;> rfl) ?_
          refine W_sq fun K0 hK => (W_text [true] (by kernel_rfl) ?_); simp only [↓List.toList_toArray, ↓rgd, ↓rgf, ↓reduceIte, Nat.reduceEqDiff, rg, ow_166]
          refine hK _ _ ?_; clear hK K0
          refine W_ret ?_
          simp only [andThen_ret, inBlk_ret]
          refine endQ_1 (by simp only [upd_eq, Nat.reduceEqDiff, ↓reduceIte] <;> rfl) ?_
          rw [hh, hand_no go hgo]
          exact ⟨rfl, hS3, X.tr x3⟩
      · obtain rfl : mm = 0 := by omega
        refine W_sq fun K0 hK => (W_text [true, true] (by kernel_rfl) ?_); simp only [↓List.toList_toArray, ↓rgd, ↓rgf, ↓reduceIte, Nat.reduceEqDiff, rg, ow_166, e16, ge_ff]
        refine hK _ _ ?_; clear hK K0
        refine W_false (by simp only [evt, evc, upd_eq, Nat.reduceEqDiff, ↓reduceIte, ntT, ntF] <;> rfl) (W_exit ?_)
        simp only [andThen_exit, inBlk_exit, andThen_normal, ↓reduceIte]
        refine W_sq fun K0 hK => (W_text [true] (by kernel_rfl) ?_); simp only [↓List.toList_toArray, ↓rgd, ↓rgf, ↓reduceIte, Nat.reduceEqDiff, rg, ow_166]
        refine hK _ _ ?_; clear hK K0
        refine W_ret ?_
        refine endQ_1 (by simp only [upd_eq, Nat.reduceEqDiff, ↓reduceIte] <;> rfl) ?_
        rw [hh]
        exact ⟨rfl, hS', X⟩
    clear hK
    cases hq : hit O (rkI ord) (rkI ord q) xs with
    | true =>
      rw [ub_hit O (rkI ord) hq] at hloop
      have hpe : ((lb O (rkI ord) (rkI ord q) xs + 1 : Nat) - 1 : Int) = (lb O (rkI ord) (rkI ord q) xs : Nat) := by omega
      rw [hpe] at hloop
      refine W_sq fun K0 hK => (W_text [true, true] (by kernel_rfl) ?_); simp only [↓List.toList_toArray, ↓rgd, ↓rgf, ↓reduceIte, Nat.reduceEqDiff, rg, ow_166, hq]
      refine hK _ _ ?_; clear hK K0
      refine W_false (by simp only [evt, evc, upd_eq, Nat.reduceEqDiff, ↓reduceIte, ntT, ntF] <;> rfl) (W_skip ?_)
      simp only [andThen_normal]
      refine hloop _ ?_ ?_ ?_
      · simp only [upd_eq, Nat.reduceEqDiff, ↓reduceIte]; exact e5
      · simp only [upd_eq, Nat.reduceEqDiff, ↓reduceIte]
      · simp only [upd_eq, Nat.reduceEqDiff, ↓reduceIte]
    | false =>
      rw [ub_miss O (rkI ord) hq] at hloop
      refine W_sq fun K0 hK => (W_text [true, true] (by kernel_rfl) ?_); simp only [↓List.toList_toArray, ↓rgd, ↓rgf, ↓reduceIte, Nat.reduceEqDiff, rg, ow_166, hq]
      refine hK _ _ ?_; clear hK K0
      refine W_true (by simp only [evt, evc, upd_eq, Nat.reduceEqDiff, ↓reduceIte, ntT, ntF] <;> rfl) (W_seq ?_)
      refine W_sq fun K0 hK => (W_text [true, false, true] (by kernel_rfl) ?_); simp only [↓List.toList_toArray, ↓rgd, ↓rgf, ↓reduceIte, Nat.reduceEqDiff, rg, ow_166]
      refine do_call fn_122 (by simp only [evt, evc, upd_eq, Nat.reduceEqDiff, ↓reduceIte, maT, maC, maN, isnN, isnS] <;> rfl) (leaf_any b none w2 o2.h3) ?_
      rintro _ w3 ⟨rfl, hw3⟩
      obtain rfl : w2 = w3 := hw3.symm
      refine ⟨trivial, ?_⟩
      simp only [↓List.toList_toArray, ↓rgd, ↓rgf, ↓reduceIte, Nat.reduceEqDiff, rg, ow_166]
      refine hK _ _ ?_; clear hK K0
      refine W_false (by simp only [evt, evc, upd_eq, Nat.reduceEqDiff, ↓reduceIte, ntT, ntF] <;> rfl) (W_skip ?_)
      simp only [andThen_normal]
      have q1 := pred_wrap (lb O (rkI ord) (rkI ord q) xs) (by omega)
      refine W_rg fun K0 hK => (W_text [true, true, true] (by kernel_rfl) ?_); simp only [↓List.toList_toArray, ↓rgd, ↓rgf, ↓reduceIte, Nat.reduceEqDiff, rg, ow_166, q1]
      refine hK _ _ ?_; clear hK K0
      simp only [andThen_normal]
      refine hloop _ ?_ ?_ ?_
      · simp only [upd_eq, Nat.reduceEqDiff, ↓reduceIte]; exact e5
      · simp only [upd_eq, Nat.reduceEqDiff, ↓reduceIte]
      · simp only [upd_eq, Nat.reduceEqDiff, ↓reduceIte]
  | succ h ih =>
    intro b lo pc po xs F done w dep hlo hdep hL hH ht ha h0 hpc hG hS hbig
    obtain ⟨bi, oi, cap, bc, ba, oa, capc, ks, cs, ho, hk, h1, h2, hcs, rfl, hT, hA, hF⟩ := ht
    have hGo : ∀ y o, ownF E b bi oi cap y o → ∀ o', ¬ G y o' := fun y o g o' => hG y o o' ((hF y o).2 (.inl g))
    have hGk : ∀ y o, kidF bc ba oa capc y o → ∀ o', ¬ G y o' := fun y o g o' => hG y o o' ((hF y o).2 (.inr (.inl g)))
    have hGc : ∀ c ∈ cs, ∀ y o o', c.F y o → ¬ G y o' := fun c hc y o o' g => hG y o o' ((hF y o).2 (.inr (.inr ⟨c, hc, g⟩)))
    have hcs' : (cs.map Kid.xs).length = ks.length + 1 := by simpa using hcs
    have hwl := weave_length (cs.map Kid.xs) ks hcs'
    have hks : ks.length < 4611686018427387904 := by omega
    have hak : Asc O (rkI ord) ks := List.Pairwise.sublist (weave_sub _ _ hcs') ha
    refine calls_of_W [.tmp 14] Try.func166 rfl Try.ntmps166 Try.results166 (by simp) fun e he => ?_
    have e0 : e 0 = ptr m := he 0 _ rfl
    have e1 : e 1 = .pointer (some ⟨pc, po, none⟩) := he 1 _ rfl
    have e2 : e 2 = itV q := he 2 _ rfl
    have e3 : e 3 = hV hp := he 3 _ rfl
    have e4 : e 4 = .int .i64 dep := he 4 _ rfl
    have e5 : e 5 = .func (.func g) first cap0 := he 5 _ rfl
    have e6 : e 6 = .bool mu := he 6 _ rfl
    clear he
    refine W_sq fun K0 hK => (W_text [true] (by kernel_rfl) ?_); simp only [↓List.toList_toArray, ↓rgd, ↓rgf, ↓reduceIte, Nat.reduceEqDiff, rg, ow_166]
    refine hK _ _ ?_; clear hK K0
    have x0 : Ext noF w w := Ext.refl _ _
    have s0 := x0.size
    refine W_sq fun K0 hK => (W_text [true, true, true, false, true] (by kernel_rfl) ?_); simp only [↓List.toList_toArray, ↓rgd, ↓rgf, ↓reduceIte, Nat.reduceEqDiff, rg, ow_166, e0, e1, e6]
    refine do_call fn_121 (by simp only [evt, evc, upd_eq, Nat.reduceEqDiff, ↓reduceIte, maT, maC, maN, isnN, isnS] <;> rfl) (isoLoad_any m pc po b mu iso w (x0.rd h0 fun h => h) (x0.rd hpc fun h => h) (x0.rd ho.h0 fun h => h)) ?_
    rintro _ w1 ⟨rfl, r1⟩
    refine ⟨trivial, ?_⟩
    simp only [↓List.toList_toArray, ↓rgd, ↓rgf, ↓reduceIte, Nat.reduceEqDiff, rg, ow_166]
    refine hK _ _ ?_; clear hK K0
    have x01 : Ext noF w w1 := r1.ext
    have x1 : Ext noF w w1 := x0.tr x01
    have s1 := x1.size
    have hbl := wok_lt ho.wb
    have hbil := wok_lt ho.wi
    have hbh : ∀ hb, hp = some hb → hb ≠ b := fun hb hh hE => hG b 0 0 ((hF _ _).2 (.inl (.inl rfl))) (by rw [← hE]; exact (hB hb hh).2 0)
    have hbx : ∀ o, ¬ Go.Proofs.Ytanmjbkbdmeckaa.hF hp w.heap.size o := fun o g => by
      have := wok_lt (hH _ g).wok; omega
    have hbF : ∀ y o, F y o → ¬ Go.Proofs.Ytanmjbkbdmeckaa.hF hp y o := fun y o hy hg => hG y o o hy ((hB y hg).2 o)
    have o1 := ho.ext x1 fun _ _ _ h => h
    refine W_sq fun K0 hK => (W_text [true, true, true, true, true, false, true, true, true, true, true] (by kernel_rfl) ?_); simp only [↓List.toList_toArray, ↓rgd, ↓rgf, ↓reduceIte, Nat.reduceEqDiff, rg, ow_166, e0, e3, e4, e2]
    refine do_call fn_174 (by simp only [evt, evc, upd_eq, Nat.reduceEqDiff, ↓reduceIte, maT, maC, maN, isnN, isnS] <;> rfl) (find_any B m b bi oi cap ord ks q (some ⟨bc, 0, none⟩) hp dep w1 (hL.ext0 x1) o1.h2 o1.h3 o1.row (by omega) hks (by omega) hak (hH.ext0 x1) hbh) ?_
    rintro _ w2 ⟨rfl, r2, hH2⟩
    refine ⟨trivial, ?_⟩
    simp only [↓List.toList_toArray, ↓rgd, ↓rgf, ↓reduceIte, Nat.reduceEqDiff, rg, ow_166, srchG_eq]
    refine hK _ _ ?_; clear hK K0
    have x2 : Ext (Go.Proofs.Ytanmjbkbdmeckaa.hF hp) w w2 := (x1.trans r2 (fun _ _ g => g.elim) fun _ _ _ g => g)
    have x2G : Ext G w w2 := x2.mono fun y o _ g => (hB y g).2 o
    have o2 := ho.ext x2 fun y o h => hbF y o ((hF y o).2 (.inl h))
    have k2 := hk.ext x2 fun y o h => hbF y o ((hF y o).2 (.inr (.inl h)))
    have S2 := hSh _ _ _ hS x2
    have hmh : ¬ Go.Proofs.Ytanmjbkbdmeckaa.hF hp m 0 := fun g => hm 0 ((hB m g).2 0)
    have hL2 := hL.ext x2 (fun y o g => (hB y g).1) fun g => hm 6 ((hB m g).2 6)
    have hlb := lb_le O (rkI ord) (rkI ord q) ks
    have hci : ∀ i, i < cs.length → ∃ c, cs[i]? = some c ∧ (cs.map Kid.xs)[i]? = some c.xs ∧ ∀ w', Ext G w w' → rd w' ba (oa + i) = some (ptr c.b) := fun i hi => by
      refine ⟨cs[i], List.getElem?_eq_getElem hi, by rw [List.getElem?_map, List.getElem?_eq_getElem hi]; rfl, fun w' X => (hk.ext X fun y o g => hGk y o g o).row i _ ?_⟩
      rw [List.getElem?_map, List.getElem?_map, List.getElem?_eq_getElem hi]; rfl
    generalize hi0 : lb O (rkI ord) (rkI ord q) ks = i0 at *
    obtain ⟨c0, hc0, hx0, hr0⟩ := hci i0 (by omega)
    have hc0m : c0 ∈ cs := List.mem_of_getElem? hc0
    have hln0 := fr_length hcs' hlb hx0
    refine W_sqx fun K hK => ?_
    have hloop : ∀ (e' : Env) (w2 : World) (d : List It) (j : Nat), j ≤ ks.length → S d w2 → Ext G w w2 → hand go done ((weave (cs.map Kid.xs) ks).take (ub O (rkI ord) (rkI ord q) (weave (cs.map Kid.xs) ks))).reverse = hand go d (fr (cs.map Kid.xs) ks j).reverse → d.length + (fr (cs.map Kid.xs) ks j).length ≤ 4294967295 →
        e' 0 = ptr m → e' 5 = .func (.func g) first cap0 → e' 6 = .bool mu → e' 15 = ptr b → e' 16 = .int .i64 ((j : Int) - 1) → K e' w2 := by
      intro e w2 d0 j hj S2 X2 hh0 hdl0 e0 e5 e6 e15 e16
      refine hK _ _ ?_; clear hK K
      refine W_seq ?_
      refine W_block (W_loop (fun mm e w' => ∃ (i : Nat) (d : List It), mm = i ∧ i ≤ ks.length ∧ hand go done ((weave (cs.map Kid.xs) ks).take (ub O (rkI ord) (rkI ord q) (weave (cs.map Kid.xs) ks))).reverse = hand go d (fr (cs.map Kid.xs) ks i).reverse ∧ d.length + (fr (cs.map Kid.xs) ks i).length ≤ 4294967295 ∧ S d w' ∧ Ext G w w' ∧
          e 0 = ptr m ∧ e 5 = .func (.func g) first cap0 ∧ e 6 = .bool mu ∧ e 15 = ptr b ∧ e 16 = .int .i64 ((i : Int) - 1))
        j ⟨_, d0, rfl, hj, hh0, hdl0, S2, X2, e0, e5, e6, e15, e16⟩ ?_)
      clear e0 e1 e2 e5 e6 e15 e16 e S2 o2 X2 hdl0 hh0
      rintro mm e w' ⟨i, d, rfl, hi, hh, hdl, hS', X, e0, e5, e6, e15, e16⟩
      have o' := ho.ext X fun y o g => hGo y o g o
      have hb2 := o'.h2
      refine W_seq ?_
      by_cases hlt : 0 < mm
      · have ht := ge_tt mm hlt
        refine W_sq fun K0 hK => (W_text [true, true] (by kernel_rfl) ?_); simp only [↓List.toList_toArray, ↓rgd, ↓rgf, ↓reduceIte, Nat.reduceEqDiff, rg, ow_166, e16, ht]
        refine hK _ _ ?_; clear hK K0
        refine W_true (by simp only [evt, evc, upd_eq, Nat.reduceEqDiff, ↓reduceIte, ntT, ntF] <;> rfl) (W_skip ?_)
        show W _ _ _ _ _ _
        have hil : mm - 1 < ks.length := by omega
        have hlc : mm - 1 < cs.length := by omega
        obtain ⟨x, hx⟩ : ∃ x, ks[mm - 1]? = some x := ⟨_, List.getElem?_eq_getElem hil⟩
        obtain ⟨c, hc, hcx, hcr⟩ := hci (mm - 1) hlc
        have hcm : c ∈ cs := List.mem_of_getElem? hc
        have hst : fr (cs.map Kid.xs) ks mm = fr (cs.map Kid.xs) ks (mm - 1) ++ (c.xs ++ [x]) := by
          have := fr_step hcx hx
          rwa [show mm - 1 + 1 = mm by omega] at this
        have hrv : (fr (cs.map Kid.xs) ks mm).reverse = x :: (c.xs.reverse ++ (fr (cs.map Kid.xs) ks (mm - 1)).reverse) := by rw [hst]; simp
        rw [hrv] at hh
        rw [hst] at hdl
        simp only [List.length_append, List.length_singleton] at hdl
        have hkx := it_at o'.row hx
        rw [int_pred mm hlt] at e16
        refine W_seq (W_block (W_seq ?_))
        refine W_sq fun K0 hK => (W_text [true, true, true, true, true, true, true, true, false, true] (by kernel_rfl) ?_); simp only [↓List.toList_toArray, ↓rgd, ↓rgf, ↓reduceIte, Nat.reduceEqDiff, rg, ow_166, e5, e15, e16, ptr_eq, hb2, hil, hkx]
        refine do_callv (by simp only [evt, evc, upd_eq, Nat.reduceEqDiff, ↓reduceIte, ntT, ntF] <;> rfl) hg rfl (by simp only [evt, upd_eq, Nat.reduceEqDiff, ↓reduceIte, maT, maC, maN]; exact hcall d x _ hS' (by omega)) ?_
        rintro _ w3 ⟨rfl, hS3, x3⟩
        refine ⟨trivial, ?_⟩
        simp only [↓List.toList_toArray, ↓rgd, ↓rgf, ↓reduceIte, Nat.reduceEqDiff, rg, ow_166]
        refine hK _ _ ?_; clear hK K0
        have X3 := X.tr x3
        have o3 := ho.ext X3 fun y o g => hGo y o g o
        have k3 := hk.ext X3 fun y o g => hGk y o g o
        have b3 := o3.h3
        have hbc := k3.c0
        rw [List.length_map] at hbc
        have hcr3 := hcr _ X3
        have h03 := X3.rd h0 (hm 0)
        cases hgo : go (d ++ [x]) with
        | true =>
          rw [hand_yes go hgo] at hh
          refine W_false (by simp only [evt, evc, upd_eq, Nat.reduceEqDiff, ↓reduceIte, ntT, ntF] <;> rfl) (W_skip ?_)
          show W _ _ _ _ _ _
          refine W_sq fun K0 hK => (W_text [true, false, true] (by kernel_rfl) ?_); simp only [↓List.toList_toArray, ↓rgd, ↓rgf, ↓reduceIte, Nat.reduceEqDiff, rg, ow_166, e15]
          refine do_call fn_122 (by simp only [evt, evc, upd_eq, Nat.reduceEqDiff, ↓reduceIte, maT, maC, maN, isnN, isnS] <;> rfl) (leaf_any b (some ⟨bc, 0, none⟩) w3 b3) ?_
          rintro _ w4 ⟨rfl, hw4⟩
          obtain rfl : w3 = w4 := hw4.symm
          refine ⟨trivial, ?_⟩
          simp only [↓List.toList_toArray, ↓rgd, ↓rgf, ↓reduceIte, Nat.reduceEqDiff, rg, ow_166]
          refine hK _ _ ?_; clear hK K0
          refine W_true (by simp only [evt, evc, upd_eq, Nat.reduceEqDiff, ↓reduceIte, ntT, ntF] <;> rfl) ?_
          have q1 := pred_wrap (mm - 1) (by omega)
          refine W_sq fun K0 hK => (W_text [true, true, true, true, true, true, true, true, true, true, true, false, true] (by kernel_rfl) ?_); simp only [↓List.toList_toArray, ↓rgd, ↓rgf, ↓reduceIte, Nat.reduceEqDiff, rg, ow_166, e0, e5, e6, e15, e16, ptr_eq, b3, hbc, hlc]
          refine do_call fn_165 (by simp only [evt, evc, upd_eq, Nat.reduceEqDiff, ↓reduceIte, maT, maC, maN, isnN, isnS] <;> rfl) (nodeRev_any m iso mn mx _ G S go C0 hm mu h c.b mn ba (oa + (mm - 1)) c.xs c.F (d ++ [x]) _ ((hT c hcm).ext X3 fun y o g => hGc c hcm y o o g) h03 hcr3 (hGc c hcm) hS3 (by rw [List.length_append, List.length_singleton]; omega)) ?_
          rintro _ w4 ⟨rfl, hS4, x4⟩
          refine ⟨trivial, ?_⟩
          simp only [↓List.toList_toArray, ↓rgd, ↓rgf, ↓reduceIte, Nat.reduceEqDiff, rg, ow_166]
          refine hK _ _ ?_; clear hK K0
          cases hgo2 : (hand go (d ++ [x]) c.xs.reverse).2 with
          | true =>
            rw [hand_on go hgo2] at hh
            have hd2 : (hand go (d ++ [x]) c.xs.reverse).1.length = d.length + 1 + c.xs.length := by rw [hand_true go hgo2]; simp only [List.length_append, List.length_singleton, List.length_reverse]
            refine W_false (by simp only [evt, evc, upd_eq, Nat.reduceEqDiff, ↓reduceIte, ntT, ntF] <;> rfl) (W_skip ?_)
            simp only [inBlk_normal, andThen_normal]
            refine W_rg fun K0 hK => (W_text [true, true, true] (by kernel_rfl) ?_); simp only [↓List.toList_toArray, ↓rgd, ↓rgf, ↓reduceIte, Nat.reduceEqDiff, rg, ow_166, e16, q1]
            refine hK _ _ ?_; clear hK K0
            refine ⟨_, ?_, mm - 1, _, rfl, by omega, hh, by omega, hS4, X3.tr x4, ?_, ?_, ?_, ?_, ?_⟩
            · omega
            · simp only [upd_eq, Nat.reduceEqDiff, ↓reduceIte]; exact e0
            · simp only [upd_eq, Nat.reduceEqDiff, ↓reduceIte]; exact e5
            · simp only [upd_eq, Nat.reduceEqDiff, ↓reduceIte]; exact e6
            · simp only [upd_eq, Nat.reduceEqDiff, ↓reduceIte]; exact e15
            · simp only [upd_eq, Nat.reduceEqDiff, ↓reduceIte]
          | false =>
            refine W_true (by simp only [evt, evc, upd_eq, Nat.reduceEqDiff, ↓reduceIte, ntT, ntF] <;> rfl) ?_
            refine W_sq fun K0 hK => (W_text [true] (by kernel_rfl) ?_); simp only [↓List.toList_toArray, ↓rgd, ↓rgf, ↓reduceIte, Nat.reduceEqDiff, rg, ow_166]
            refine hK _ _ ?_; clear hK K0
            refine W_ret ?_
            simp only [andThen_ret, inBlk_ret]
            refine endQ_1 (by simp only [upd_eq, Nat.reduceEqDiff, ↓reduceIte] <;> rfl) ?_
            rw [hh, hand_off go hgo2, hgo2]
            exact ⟨rfl, hS4, X3.tr x4⟩
        | false =>
          refine W_true (by simp only [evt, evc, upd_eq, Nat.reduceEqDiff, ↓reduceIte, ntT, ntF] <;> rfl) ?_
          refine W_sq fun K0 hK => (W_text [true] (by kernel_rfl) ?_); simp only [↓List.toList_toArray, ↓rgd, ↓rgf, ↓reduceIte, Nat.reduceEqDiff, rg, ow_166]
          refine hK _ _ ?_; clear hK K0
          refine W_ret ?_
          simp only [andThen_ret, inBlk_ret]
          refine endQ_1 (by simp only [upd_eq, Nat.reduceEqDiff, ↓reduceIte] <;> rfl) ?_
          rw [hh, hand_no go hgo]
          exact ⟨rfl, hS3, X3⟩
      · obtain rfl : mm = 0 := by omega
        refine W_sq fun K0 hK => (W_text [true, true] (by kernel_rfl) ?_); simp only [↓List.toList_toArray, ↓rgd, ↓rgf, ↓reduceIte, Nat.reduceEqDiff, rg, ow_166, e16, ge_ff]
        refine hK _ _ ?_; clear hK K0
        refine W_false (by simp only [evt, evc, upd_eq, Nat.reduceEqDiff, ↓reduceIte, ntT, ntF] <;> rfl) (W_exit ?_)
        simp only [andThen_exit, inBlk_exit, andThen_normal, ↓reduceIte]
        refine W_sq fun K0 hK => (W_text [true] (by kernel_rfl) ?_); simp only [↓List.toList_toArray, ↓rgd, ↓rgf, ↓reduceIte, Nat.reduceEqDiff, rg, ow_166]
        refine hK _ _ ?_; clear hK K0
        refine W_ret ?_
        refine endQ_1 (by simp only [upd_eq, Nat.reduceEqDiff, ↓reduceIte] <;> rfl) ?_
        rw [hh]
        exact ⟨rfl, hS', X⟩
    clear hK
    cases hq : hit O (rkI ord) (rkI ord q) ks with
    | true =>
      have hlt0 : i0 < ks.length := by
        obtain ⟨k, hk1, _⟩ := hit_at O (rkI ord) hq
        rw [hi0] at hk1
        exact (List.getElem?_eq_some_iff.1 hk1).1
      obtain ⟨x0, hx00⟩ : ∃ x, ks[i0]? = some x := ⟨_, List.getElem?_eq_getElem hlt0⟩
      have hl1 : (fr (cs.map Kid.xs) ks (i0 + 1)).length ≤ (weave (cs.map Kid.xs) ks).length := by
        rw [← down_hit O (rkI ord) hcs' hx0 ha hi0 hq, List.length_take]; omega
      refine W_sq fun K0 hK => (W_text [true, true] (by kernel_rfl) ?_); simp only [↓List.toList_toArray, ↓rgd, ↓rgf, ↓reduceIte, Nat.reduceEqDiff, rg, ow_166, hq]
      refine hK _ _ ?_; clear hK K0
      refine W_false (by simp only [evt, evc, upd_eq, Nat.reduceEqDiff, ↓reduceIte, ntT, ntF] <;> rfl) (W_skip ?_)
      simp only [andThen_normal]
      refine hloop _ _ done (i0 + 1) hlt0 S2 x2G (by rw [down_hit O (rkI ord) hcs' hx0 ha hi0 hq]) (by omega) ?_ ?_ ?_ ?_ ?_
      · simp only [upd_eq, Nat.reduceEqDiff, ↓reduceIte]; exact e0
      · simp only [upd_eq, Nat.reduceEqDiff, ↓reduceIte]; exact e5
      · simp only [upd_eq, Nat.reduceEqDiff, ↓reduceIte]; exact e6
      · simp only [upd_eq, Nat.reduceEqDiff, ↓reduceIte]
      · simp only [upd_eq, Nat.reduceEqDiff, ↓reduceIte]; congr 1; omega
    | false =>
      have hb3 := o2.h3
      have hbc := k2.c0
      rw [List.length_map] at hbc
      have hlc : i0 < cs.length := by omega
      have hfm : ((weave (cs.map Kid.xs) ks).take (ub O (rkI ord) (rkI ord q) (weave (cs.map Kid.xs) ks))).reverse = (c0.xs.take (ub O (rkI ord) (rkI ord q) c0.xs)).reverse ++ (fr (cs.map Kid.xs) ks i0).reverse := by
        rw [down_miss O (rkI ord) hcs' hx0 ha hi0 hq, List.reverse_append]
      have hac : Asc O (rkI ord) c0.xs := by
        obtain ⟨A, C, hw⟩ := weave_at i0 (cs.map Kid.xs) ks hcs' hlb
        rw [hw.eq hx0] at ha
        exact ((Asc.append O (rkI ord)).1 ((Asc.append O (rkI ord)).1 ha).1).2.1
      refine W_sq fun K0 hK => (W_text [true, true] (by kernel_rfl) ?_); simp only [↓List.toList_toArray, ↓rgd, ↓rgf, ↓reduceIte, Nat.reduceEqDiff, rg, ow_166, hq]
      refine hK _ _ ?_; clear hK K0
      refine W_true (by simp only [evt, evc, upd_eq, Nat.reduceEqDiff, ↓reduceIte, ntT, ntF] <;> rfl) (W_seq ?_)
      refine W_sq fun K0 hK => (W_text [true, false, true] (by kernel_rfl) ?_); simp only [↓List.toList_toArray, ↓rgd, ↓rgf, ↓reduceIte, Nat.reduceEqDiff, rg, ow_166]
      refine do_call fn_122 (by simp only [evt, evc, upd_eq, Nat.reduceEqDiff, ↓reduceIte, maT, maC, maN, isnN, isnS] <;> rfl) (leaf_any b (some ⟨bc, 0, none⟩) w2 o2.h3) ?_
      rintro _ w3 ⟨rfl, hw3⟩
      obtain rfl : w2 = w3 := hw3.symm
      refine ⟨trivial, ?_⟩
      simp only [↓List.toList_toArray, ↓rgd, ↓rgf, ↓reduceIte, Nat.reduceEqDiff, rg, ow_166]
      refine hK _ _ ?_; clear hK K0
      refine W_true (by simp only [evt, evc, upd_eq, Nat.reduceEqDiff, ↓reduceIte, ntT, ntF] <;> rfl) ?_
      have q1 := wadd1 dep (by omega)
      have q2 := pred_wrap i0 (by omega)
      refine W_sq fun K0 hK => (W_text [true, true, true, true, true, true, true, true, true, true, true, true, true, true, true, false, true] (by kernel_rfl) ?_); simp only [↓List.toList_toArray, ↓rgd, ↓rgf, ↓reduceIte, Nat.reduceEqDiff, rg, ow_166, e0, e3, e4, e5, e6, ptr_eq, hb3, hbc, hlc, q1, e2]
      refine do_call fn_166 (by simp only [evt, evc, upd_eq, Nat.reduceEqDiff, ↓reduceIte, maT, maC, maN, isnN, isnS] <;> rfl) (ih c0.b mn ba (oa + i0) c0.xs c0.F done _ (dep + 1) hmn (by omega) (hL2.ext0 (Ext.dr _ _ _)) (hH2.ext0 (Ext.dr _ _ _)) (((hT c0 hc0m).ext x2 fun y o h g => hGc c0 hc0m y o o h ((hB y g).2 o)).ext (Ext.dr noF _ _) fun _ _ _ h => h) hac (x2.rd h0 hmh) (hr0 _ (x2G.tr (Ext.dr _ _ _))) (hGc c0 hc0m) (hSx _ _ _ S2 (Ext.dr _ _ _)) (by omega)) ?_
      rintro _ w4 ⟨rfl, hS4, x4⟩
      refine ⟨trivial, ?_⟩
      simp only [↓List.toList_toArray, ↓rgd, ↓rgf, ↓reduceIte, Nat.reduceEqDiff, rg, ow_166]
      refine hK _ _ ?_; clear hK K0
      have X4 : Ext G w w4 := x2G.tr x4.od
      cases hgo2 : (hand go done (c0.xs.take (ub O (rkI ord) (rkI ord q) c0.xs)).reverse).2 with
      | true =>
        have hd2 : (hand go done (c0.xs.take (ub O (rkI ord) (rkI ord q) c0.xs)).reverse).1.length ≤ done.length + c0.xs.length := by rw [hand_true go hgo2]; simp only [List.length_append, List.length_reverse, List.length_take]; omega
        refine W_false (by simp only [evt, evc, upd_eq, Nat.reduceEqDiff, ↓reduceIte, ntT, ntF] <;> rfl) (W_skip ?_)
        simp only [andThen_normal]
        refine W_rg fun K0 hK => (W_text [true, true, true] (by kernel_rfl) ?_); simp only [↓List.toList_toArray, ↓rgd, ↓rgf, ↓reduceIte, Nat.reduceEqDiff, rg, ow_166, q2]
        refine hK _ _ ?_; clear hK K0
        simp only [andThen_normal]
        refine hloop _ _ _ i0 hlb hS4 X4 (by rw [hfm, hand_on go hgo2]) (by omega) ?_ ?_ ?_ ?_ ?_
        · simp only [upd_eq, Nat.reduceEqDiff, ↓reduceIte]; exact e0
        · simp only [upd_eq, Nat.reduceEqDiff, ↓reduceIte]; exact e5
        · simp only [upd_eq, Nat.reduceEqDiff, ↓reduceIte]; exact e6
        · simp only [upd_eq, Nat.reduceEqDiff, ↓reduceIte]; rfl
        · simp only [upd_eq, Nat.reduceEqDiff, ↓reduceIte]
      | false =>
        refine W_true (by simp only [evt, evc, upd_eq, Nat.reduceEqDiff, ↓reduceIte, ntT, ntF] <;> rfl) ?_
        refine W_sq fun K0 hK => (W_text [true] (by kernel_rfl) ?_); simp only [↓List.toList_toArray, ↓rgd, ↓rgf, ↓reduceIte, Nat.reduceEqDiff, rg, ow_166]
        refine hK _ _ ?_; clear hK K0
        refine W_ret ?_
        simp only [andThen_ret]
        refine endQ_1 (by simp only [upd_eq, Nat.reduceEqDiff, ↓reduceIte] <;> rfl) ?_
        rw [hfm, hand_off go hgo2, hgo2]
        exact ⟨rfl, hS4, X4⟩
set_option maxHeartbeats 400000 in
set_option maxRecDepth 8000 in
theorem descend_any (B m d : Nat) (ord : List Int) (hd : 2 ≤ d) (iso : Int) (xs : List It) (F : Nat → Nat → Prop) (q : It) (hp : Option Nat) (f : Value) (G : Nat → Nat → Prop) (S : List It → World → Prop) (go : List It → Bool) (C : Cb f G S go) (hm : ∀ o, ¬ G m o)
    (hB : ∀ hb, hp = some hb → (m ≤ hb ∨ hb < B) ∧ ∀ o, G hb o) (hSh : ∀ done w w', S done w → Ext (Go.Proofs.Ytanmjbkbdmeckaa.hF hp) w w' → S done w') (mu : Bool) (w : World)
    (hM : TreeAt B ord w m d iso xs F) (hG : ∀ y o o', F y o → ¬ G y o') (hS : S [] w) (hH : HOk hp w) (hbig : xs.length ≤ 4294967295) :
    CallK Try.prog 139 #[ptr m, itV q, f, .bool mu, hV hp] w fun _ w' => S (hand go [] (xs.take (ub O (rkI ord) (rkI ord q) xs)).reverse).1 w' ∧ Ext G w w' := by
  refine calls_of_W [] Try.func139 rfl Try.ntmps139 Try.results139 (by simp) fun e he => ?_
  have e0 : e 0 = ptr m := he 0 _ rfl
  have e1 : e 1 = itV q := he 1 _ rfl
  have e2 : e 2 = f := he 2 _ rfl
  have e3 : e 3 = .bool mu := he 3 _ rfl
  have e4 : e 4 = hV hp := he 4 _ rfl
  clear he
  have X1 : Ext noF w w := Ext.refl _ _
  have hS1 := C.2 _ _ _ hS X1
  have hM1 := hM.ext X1
  have hH1 := hH.ext0 X1
  refine W_seq ?_
  refine W_sq fun K0 hK => (W_text [true, true, false] (by kernel_rfl) ?_); simp only [↓List.toList_toArray, ↓rgd, ↓rgf, ↓reduceIte, Nat.reduceEqDiff, rg, ow_139, e0, e3]
  refine do_call fn_118 (by simp only [evt, evc, upd_eq, Nat.reduceEqDiff, ↓reduceIte, maT, maC, maN, isnN, isnS] <;> rfl) (lock_any _ _ w) ?_
  rintro _ _ ⟨rfl, rfl⟩
  refine ⟨trivial, ?_⟩
  simp only [↓List.toList_toArray, ↓rgd, ↓rgf, ↓reduceIte, Nat.reduceEqDiff, rg, ow_139]
  refine hK _ _ ?_; clear hK K0
  refine W_false (by simp only [evt, evc, upd_eq, Nat.reduceEqDiff, ↓reduceIte, ntT, ntF] <;> rfl) (W_skip ?_)
  show W _ _ _ _ _ _
  refine W_seq ?_
  have X1G : Ext G w w := X1.mono fun _ _ _ g => g.elim
  rcases hM1.root with ⟨rfl, hr⟩ | ⟨h, b, hr, ht⟩
  · refine W_sq fun K0 hK => (W_text [true, true, true, true, true] (by kernel_rfl) ?_); simp only [↓List.toList_toArray, ↓rgd, ↓rgf, ↓reduceIte, Nat.reduceEqDiff, rg, ow_139, e0, ptr_eq, hr]
    refine hK _ _ ?_; clear hK K0
    refine W_true (by simp only [evt, evc, upd_eq, Nat.reduceEqDiff, ↓reduceIte, ntT, ntF] <;> rfl) (W_ret ?_)
    simp only [andThen_ret]
    exact endQ_0 ⟨hS1, X1G⟩
  · refine W_sq fun K0 hK => (W_text [true, true, true, true, true] (by kernel_rfl) ?_); simp only [↓List.toList_toArray, ↓rgd, ↓rgf, ↓reduceIte, Nat.reduceEqDiff, rg, ow_139, e0, ptr_eq, hr]
    refine hK _ _ ?_; clear hK K0
    refine W_false (by simp only [evt, evc, upd_eq, Nat.reduceEqDiff, ↓reduceIte, ntT, ntF] <;> rfl) (W_skip ?_)
    show W _ _ _ _ _ _
    have hh := ht.height (by omega) (by omega)
    refine W_rg fun K0 hK => (W_text [true, true, true, true, true, true, true, true, false] (by kernel_rfl) ?_); simp only [↓List.toList_toArray, ↓rgd, ↓rgf, ↓reduceIte, Nat.reduceEqDiff, rg, ow_139, e0, e2, e3, e4, ptr_eq, e1]
    refine do_call fn_166 (by simp only [evt, evc, upd_eq, Nat.reduceEqDiff, ↓reduceIte, maT, maC, maN, isnN, isnS] <;> rfl) (nodeDesc_any m iso (d - 1) (2 * d - 1) B ord q hp f G S go C hm hB hSh (by omega) mu h b 1 m 2 xs F [] w 0 (Nat.le_refl _) (by omega) (hM1.less.ext0 (Ext.refl _ _)) (hH1.ext0 (Ext.refl _ _)) (ht.ext (Ext.refl noF _) fun _ _ _ h => h) hM1.asc hM1.cfg.iso hr hG (C.2 _ _ _ hS1 (Ext.refl _ _)) (by simpa using hbig)) ?_
    rintro _ w2 ⟨rfl, hS2, X2⟩
    refine ⟨trivial, ?_⟩
    simp only [↓List.toList_toArray, ↓rgd, ↓rgf, ↓reduceIte, Nat.reduceEqDiff, rg, ow_139]
    refine hK _ _ ?_; clear hK K0
    exact endQ_0n ⟨hS2, X1G.tr X2⟩
end Go.Proofs.Ytanmjbkbdmeckaa
/-
  Handing on the items of a tree from a key on. No condition.
-/
set_option linter.unusedSimpArgs false
set_option linter.unusedVariables false
namespace Go.Proofs.Ytanmjbkbdmeckaa
open Go Go.Proofs
set_option maxHeartbeats 1000000 in
set_option maxRecDepth 8000 in
theorem nodeAscend_any (m : Nat) (iso : Int) (mn mx : Nat) (B : Nat) (ord : List Int) (q : It) (hp : Option Nat) (f : Value) (G : Nat → Nat → Prop) (S : List It → World → Prop) (go : List It → Bool) (C : Cb f G S go) (hm : ∀ o, ¬ G m o) (hB : ∀ hb, hp = some hb → (m ≤ hb ∨ hb < B) ∧ ∀ o, G hb o) (hSh : ∀ done w w', S done w → Ext (hF hp) w w' → S done w') (hmn : 1 ≤ mn) (mu : Bool) :
    ∀ (h b lo pc po : Nat) (xs : List It) (F : Nat → Nat → Prop) (done : List It) (w : World) (dep : Nat), 1 ≤ lo → dep + h < 4611686018427387904 → Ls B m w ord → HOk hp w → Tr E iso mn mx h w lo b xs F → Asc O (rkI ord) xs → rd w m 0 = some (.int .u64 iso) → rd w pc po = some (ptr b) → (∀ y o o', F y o → ¬ G y o') → S done w →
      done.length + xs.length ≤ 4294967295 →
    CallK Try.prog 164 #[ptr m, .pointer (some ⟨pc, po, none⟩), itV q, hV hp, .int .i64 dep, f, .bool mu] w fun v w' => v = .bool (hand go done (xs.drop (lb O (rkI ord) (rkI ord q) xs))).2 ∧ S (hand go done (xs.drop (lb O (rkI ord) (rkI ord q) xs))).1 w' ∧ Ext G w w' := by
  have C0 := C
  obtain ⟨⟨g, first, cap0, rfl, hg, hcall⟩, hSx⟩ := C
  intro h
  induction h with
  | zero =>
    intro b lo pc po xs F done w dep hlo hdep hL hH ht ha h0 hpc hG hS hbig
    obtain ⟨bi, oi, cap, ho, h1, h2, hF⟩ := ht
    refine calls_of_W [.tmp 14] Try.func164 rfl Try.ntmps164 Try.results164 (by simp) fun e he => ?_
    have e0 : e 0 = ptr m := he 0 _ rfl
    have e1 : e 1 = .pointer (some ⟨pc, po, none⟩) := he 1 _ rfl
    have e2 : e 2 = itV q := he 2 _ rfl
    have e3 : e 3 = hV hp := he 3 _ rfl
    have e4 : e 4 = .int .i64 dep := he 4 _ rfl
    have e5 : e 5 = .func (.func g) first cap0 := he 5 _ rfl
    have e6 : e 6 = .bool mu := he 6 _ rfl
    clear he
    refine W_sq fun K0 hK => (W_text [true] (by kernel_rfl) ?_); simp only [↓List.toList_toArray, ↓rgd, ↓rgf, ↓reduceIte, Nat.reduceEqDiff, rg, ow_164]
    refine hK _ _ ?_; clear hK K0
    have x0 : Ext noF w w := Ext.refl _ _
    have s0 := x0.size
    refine W_sq fun K0 hK => (W_text [true, true, true, false, true] (by kernel_rfl) ?_); simp only [↓List.toList_toArray, ↓rgd, ↓rgf, ↓reduceIte, Nat.reduceEqDiff, rg, ow_164, e0, e1, e6]
    refine do_call fn_121 (by simp only [evt, evc, upd_eq, Nat.reduceEqDiff, ↓reduceIte, maT, maC, maN, isnN, isnS] <;> rfl) (isoLoad_any m pc po b mu iso w (x0.rd h0 fun h => h) (x0.rd hpc fun h => h) (x0.rd ho.h0 fun h => h)) ?_
    rintro _ w1 ⟨rfl, r1⟩
    refine ⟨trivial, ?_⟩
    simp only [↓List.toList_toArray, ↓rgd, ↓rgf, ↓reduceIte, Nat.reduceEqDiff, rg, ow_164]
    refine hK _ _ ?_; clear hK K0
    have x01 : Ext noF w w1 := r1.ext
    have x1 : Ext noF w w1 := x0.tr x01
    have s1 := x1.size
    have hbl := wok_lt ho.wb
    have hbil := wok_lt ho.wi
    have hbh : ∀ hb, hp = some hb → hb ≠ b := fun hb hh hE => hG b 0 0 ((hF _ _).2 (.inl rfl)) (by rw [← hE]; exact (hB hb hh).2 0)
    have hbx : ∀ o, ¬ Go.Proofs.Ytanmjbkbdmeckaa.hF hp w.heap.size o := fun o g => by
      have := wok_lt (hH _ g).wok; omega
    have hbF : ∀ y o, F y o → ¬ Go.Proofs.Ytanmjbkbdmeckaa.hF hp y o := fun y o hy hg => hG y o o hy ((hB y hg).2 o)
    have o1 := ho.ext x1 fun _ _ _ h => h
    refine W_sq fun K0 hK => (W_text [true, true, true, true, true, false, true, true, true, true, true] (by kernel_rfl) ?_); simp only [↓List.toList_toArray, ↓rgd, ↓rgf, ↓reduceIte, Nat.reduceEqDiff, rg, ow_164, e0, e3, e4, e2]
    refine do_call fn_174 (by simp only [evt, evc, upd_eq, Nat.reduceEqDiff, ↓reduceIte, maT, maC, maN, isnN, isnS] <;> rfl) (find_any B m b bi oi cap ord xs q none hp dep w1 (hL.ext0 x1) o1.h2 o1.h3 o1.row (by omega) (by omega) (by omega) ha (hH.ext0 x1) hbh) ?_
    rintro _ w2 ⟨rfl, r2, hH2⟩
    refine ⟨trivial, ?_⟩
    simp only [↓List.toList_toArray, ↓rgd, ↓rgf, ↓reduceIte, Nat.reduceEqDiff, rg, ow_164, srchG_eq]
    refine hK _ _ ?_; clear hK K0
    have x2 : Ext (Go.Proofs.Ytanmjbkbdmeckaa.hF hp) w w2 := (x1.trans r2 (fun _ _ g => g.elim) fun _ _ _ g => g)
    have x2G : Ext G w w2 := x2.mono fun y o _ g => (hB y g).2 o
    have o2 := ho.ext x2 fun y o h => hbF y o ((hF y o).2 h)
    have S2 := hSh _ _ _ hS x2
    have hlb := lb_le O (rkI ord) (rkI ord q) xs
    refine W_sqx fun K hK => ?_
    have hloop : ∀ e' : Env, e' 5 = .func (.func g) first cap0 → e' 15 = ptr b → e' 16 = .int .i64 (lb O (rkI ord) (rkI ord q) xs : Nat) → K e' w2 := by
      intro e e5 e15 e16
      refine hK _ _ ?_; clear hK K
      refine W_seq ?_
      refine W_block (W_loop (fun mm e w' => ∃ (i : Nat) (d : List It), mm = xs.length - i ∧ i ≤ xs.length ∧ hand go done (xs.drop (lb O (rkI ord) (rkI ord q) xs)) = hand go d (xs.drop i) ∧ d.length + (xs.length - i) ≤ 4294967295 ∧ S d w' ∧ Ext G w w' ∧ e 5 = .func (.func g) first cap0 ∧ e 15 = ptr b ∧ e 16 = .int .i64 i)
        (xs.length - lb O (rkI ord) (rkI ord q) xs) ⟨_, done, rfl, hlb, rfl, by omega, S2, x2G, e5, e15, e16⟩ ?_)
      clear e5 e15 e16 e S2 o2
      rintro mm e w' ⟨i, d, rfl, hi, hh, hdl, hS', X, e5, e15, e16⟩
      have o' := ho.ext X fun y o h => hG y o o ((hF y o).2 h)
      have hb2 := o'.h2
      have hb3 := o'.h3
      refine W_seq ?_
      by_cases hlt : i < xs.length
      · have ht := lt_tt i xs.length hlt
        refine W_sq fun K0 hK => (W_text [true, true, true, true, true, true, true] (by kernel_rfl) ?_); simp only [↓List.toList_toArray, ↓rgd, ↓rgf, ↓reduceIte, Nat.reduceEqDiff, rg, ow_164, e15, e16, ptr_eq, hb2, ht]
        refine hK _ _ ?_; clear hK K0
        refine W_true (by simp only [evt, evc, upd_eq, Nat.reduceEqDiff, ↓reduceIte, ntT, ntF] <;> rfl) (W_skip ?_)
        show W _ _ _ _ _ _
        obtain ⟨x, hx⟩ : ∃ x, xs[i]? = some x := ⟨_, List.getElem?_eq_getElem hlt⟩
        have hk := it_at o'.row hx
        have hd : xs.drop i = x :: xs.drop (i + 1) := by rw [List.drop_eq_getElem_cons hlt, (List.getElem?_eq_some_iff.1 hx).2]
        refine W_seq (W_block (W_seq ?_))
        refine W_sq fun K0 hK => (W_text [true, true, true, true, true, true, true, true, false, true] (by kernel_rfl) ?_); simp only [↓List.toList_toArray, ↓rgd, ↓rgf, ↓reduceIte, Nat.reduceEqDiff, rg, ow_164, e5, e15, e16, ptr_eq, hb2, hlt, hk]
        refine do_callv (by simp only [evt, evc, upd_eq, Nat.reduceEqDiff, ↓reduceIte, ntT, ntF] <;> rfl) hg rfl (by simp only [evt, upd_eq, Nat.reduceEqDiff, ↓reduceIte, maT, maC, maN]; exact hcall d x _ hS' (by omega)) ?_
        rintro _ w3 ⟨rfl, hS3, x3⟩
        refine ⟨trivial, ?_⟩
        simp only [↓List.toList_toArray, ↓rgd, ↓rgf, ↓reduceIte, Nat.reduceEqDiff, rg, ow_164]
        refine hK _ _ ?_; clear hK K0
        have o3 := ho.ext (X.tr x3) fun y o h => hG y o o ((hF y o).2 h)
        have b3 := o3.h3
        cases hgo : go (d ++ [x]) with
        | true =>
          refine W_false (by simp only [evt, evc, upd_eq, Nat.reduceEqDiff, ↓reduceIte, ntT, ntF] <;> rfl) (W_skip ?_)
          show W _ _ _ _ _ _
          refine W_sq fun K0 hK => (W_text [true, false, true] (by kernel_rfl) ?_); simp only [↓List.toList_toArray, ↓rgd, ↓rgf, ↓reduceIte, Nat.reduceEqDiff, rg, ow_164, e15]
          refine do_call fn_122 (by simp only [evt, evc, upd_eq, Nat.reduceEqDiff, ↓reduceIte, maT, maC, maN, isnN, isnS] <;> rfl) (leaf_any b none w3 b3) ?_
          rintro _ w3 ⟨rfl, rfl⟩
          refine ⟨trivial, ?_⟩
          simp only [↓List.toList_toArray, ↓rgd, ↓rgf, ↓reduceIte, Nat.reduceEqDiff, rg, ow_164]
          refine hK _ _ ?_; clear hK K0
          refine W_false (by simp only [evt, evc, upd_eq, Nat.reduceEqDiff, ↓reduceIte, ntT, ntF] <;> rfl) (W_skip ?_)
          show W _ _ _ _ _ _
          have q1 := wadd1 i (by omega)
          refine W_rg fun K0 hK => (W_text [true, true, true] (by kernel_rfl) ?_); simp only [↓List.toList_toArray, ↓rgd, ↓rgf, ↓reduceIte, Nat.reduceEqDiff, rg, ow_164, e16, q1]
          refine hK _ _ ?_; clear hK K0
          refine ⟨_, ?_, i + 1, d ++ [x], rfl, hlt, by rw [hh, hd, hand_yes go hgo], by simp; omega, hS3, X.tr x3, ?_, ?_, ?_⟩
          · omega
          · simp only [upd_eq, Nat.reduceEqDiff, ↓reduceIte]; exact e5
          · simp only [upd_eq, Nat.reduceEqDiff, ↓reduceIte]; exact e15
          · simp only [upd_eq, Nat.reduceEqDiff, ↓reduceIte]
        | false =>
          refine W_true (by simp only [evt, evc, upd_eq, Nat.reduceEqDiff, ↓reduceIte, ntT, ntF] <;> rfl) ?_
          refine W_sq fun K0 hK => (W_text [true] (by kernel_rfl) ?_); simp only [↓List.toList_toArray, ↓rgd, ↓rgf, ↓reduceIte, Nat.reduceEqDiff, rg, ow_164]
          refine hK _ _ ?_; clear hK K0
          refine W_ret ?_
          simp only [andThen_ret, inBlk_ret]
          refine endQ_1 (by simp only [upd_eq, Nat.reduceEqDiff, ↓reduceIte] <;> rfl) ?_
          rw [hh, hd, hand_no go hgo]
          exact ⟨rfl, hS3, X.tr x3⟩
      · obtain rfl : i = xs.length := by omega
        have ht := lt_ff xs.length xs.length (by omega)
        refine W_sq fun K0 hK => (W_text [true, true, true, true, true, true, true] (by kernel_rfl) ?_); simp only [↓List.toList_toArray, ↓rgd, ↓rgf, ↓reduceIte, Nat.reduceEqDiff, rg, ow_164, e15, e16, ptr_eq, hb2, ht]
        refine hK _ _ ?_; clear hK K0
        refine W_false (by simp only [evt, evc, upd_eq, Nat.reduceEqDiff, ↓reduceIte, ntT, ntF] <;> rfl) (W_exit ?_)
        simp only [andThen_exit, inBlk_exit, andThen_normal, ↓reduceIte]
        refine W_sq fun K0 hK => (W_text [true] (by kernel_rfl) ?_); simp only [↓List.toList_toArray, ↓rgd, ↓rgf, ↓reduceIte, Nat.reduceEqDiff, rg, ow_164]
        refine hK _ _ ?_; clear hK K0
        refine W_ret ?_
        refine endQ_1 (by simp only [upd_eq, Nat.reduceEqDiff, ↓reduceIte] <;> rfl) ?_
        rw [hh, List.drop_length, hand_nil]
        exact ⟨rfl, hS', X⟩
    clear hK

    cases hq : hit O (rkI ord) (rkI ord q) xs with
    | true =>
      refine W_sq fun K0 hK => (W_text [true, true] (by kernel_rfl) ?_); simp only [↓List.toList_toArray, ↓rgd, ↓rgf, ↓reduceIte, Nat.reduceEqDiff, rg, ow_164, hq]
      refine hK _ _ ?_; clear hK K0
      refine W_false (by simp only [evt, evc, upd_eq, Nat.reduceEqDiff, ↓reduceIte, ntT, ntF] <;> rfl) (W_skip ?_)
      simp only [andThen_normal]
      refine hloop _ ?_ ?_ ?_
      · simp only [upd_eq, Nat.reduceEqDiff, ↓reduceIte]; exact e5
      · simp only [upd_eq, Nat.reduceEqDiff, ↓reduceIte]
      · simp only [upd_eq, Nat.reduceEqDiff, ↓reduceIte]
    | false =>
      refine W_sq fun K0 hK => (W_text [true, true] (by kernel_rfl) ?_); simp only [↓List.toList_toArray, ↓rgd, ↓rgf, ↓reduceIte, Nat.reduceEqDiff, rg, ow_164, hq]
      refine hK _ _ ?_; clear hK K0
      refine W_true (by simp only [evt, evc, upd_eq, Nat.reduceEqDiff, ↓reduceIte, ntT, ntF] <;> rfl) ?_
      refine W_sq fun K0 hK => (W_text [true, false, true] (by kernel_rfl) ?_); simp only [↓List.toList_toArray, ↓rgd, ↓rgf, ↓reduceIte, Nat.reduceEqDiff, rg, ow_164]
      refine do_call fn_122 (by simp only [evt, evc, upd_eq, Nat.reduceEqDiff, ↓reduceIte, maT, maC, maN, isnN, isnS] <;> rfl) (leaf_any b none w2 o2.h3) ?_
      rintro _ _ ⟨rfl, rfl⟩
      refine ⟨trivial, ?_⟩
      simp only [↓List.toList_toArray, ↓rgd, ↓rgf, ↓reduceIte, Nat.reduceEqDiff, rg, ow_164]
      refine hK _ _ ?_; clear hK K0
      refine W_false (by simp only [evt, evc, upd_eq, Nat.reduceEqDiff, ↓reduceIte, ntT, ntF] <;> rfl) (W_skip ?_)
      simp only [andThen_normal]
      refine hloop _ ?_ ?_ ?_
      · simp only [upd_eq, Nat.reduceEqDiff, ↓reduceIte]; exact e5
      · simp only [upd_eq, Nat.reduceEqDiff, ↓reduceIte]
      · simp only [upd_eq, Nat.reduceEqDiff, ↓reduceIte]
  | succ h ih =>
    intro b lo pc po xs F done w dep hlo hdep hL hH ht ha h0 hpc hG hS hbig
    obtain ⟨bi, oi, cap, bc, ba, oa, capc, ks, cs, ho, hk, h1, h2, hcs, rfl, hT, hA, hF⟩ := ht
    have hGo : ∀ y o, ownF E b bi oi cap y o → ∀ o', ¬ G y o' := fun y o g o' => hG y o o' ((hF y o).2 (.inl g))
    have hGk : ∀ y o, kidF bc ba oa capc y o → ∀ o', ¬ G y o' := fun y o g o' => hG y o o' ((hF y o).2 (.inr (.inl g)))
    have hGc : ∀ c ∈ cs, ∀ y o o', c.F y o → ¬ G y o' := fun c hc y o o' g => hG y o o' ((hF y o).2 (.inr (.inr ⟨c, hc, g⟩)))
    have hcs' : (cs.map Kid.xs).length = ks.length + 1 := by simpa using hcs
    have hwl := weave_length (cs.map Kid.xs) ks hcs'
    have hks : ks.length < 4611686018427387904 := by omega
    have hak : Asc O (rkI ord) ks := List.Pairwise.sublist (weave_sub _ _ hcs') ha
    refine calls_of_W [.tmp 14] Try.func164 rfl Try.ntmps164 Try.results164 (by simp) fun e he => ?_
    have e0 : e 0 = ptr m := he 0 _ rfl
    have e1 : e 1 = .pointer (some ⟨pc, po, none⟩) := he 1 _ rfl
    have e2 : e 2 = itV q := he 2 _ rfl
    have e3 : e 3 = hV hp := he 3 _ rfl
    have e4 : e 4 = .int .i64 dep := he 4 _ rfl
    have e5 : e 5 = .func (.func g) first cap0 := he 5 _ rfl
    have e6 : e 6 = .bool mu := he 6 _ rfl
    clear he
    refine W_sq fun K0 hK => (W_text [true] (by kernel_rfl) ?_); simp only [↓List.toList_toArray, ↓rgd, ↓rgf, ↓reduceIte, Nat.reduceEqDiff, rg, ow_164]
    refine hK _ _ ?_; clear hK K0
    have x0 : Ext noF w w := Ext.refl _ _
    have s0 := x0.size
    refine W_sq fun K0 hK => (W_text [true, true, true, false, true] (by kernel_rfl) ?_); simp only [↓List.toList_toArray, ↓rgd, ↓rgf, ↓reduceIte, Nat.reduceEqDiff, rg, ow_164, e0, e1, e6]
    refine do_call fn_121 (by simp only [evt, evc, upd_eq, Nat.reduceEqDiff, ↓reduceIte, maT, maC, maN, isnN, isnS] <;> rfl) (isoLoad_any m pc po b mu iso w (x0.rd h0 fun h => h) (x0.rd hpc fun h => h) (x0.rd ho.h0 fun h => h)) ?_
    rintro _ w1 ⟨rfl, r1⟩
    refine ⟨trivial, ?_⟩
    simp only [↓List.toList_toArray, ↓rgd, ↓rgf, ↓reduceIte, Nat.reduceEqDiff, rg, ow_164]
    refine hK _ _ ?_; clear hK K0
    have x01 : Ext noF w w1 := r1.ext
    have x1 : Ext noF w w1 := x0.tr x01
    have s1 := x1.size
    have hbl := wok_lt ho.wb
    have hbil := wok_lt ho.wi
    have hbh : ∀ hb, hp = some hb → hb ≠ b := fun hb hh hE => hG b 0 0 ((hF _ _).2 (.inl (.inl rfl))) (by rw [← hE]; exact (hB hb hh).2 0)
    have hbx : ∀ o, ¬ Go.Proofs.Ytanmjbkbdmeckaa.hF hp w.heap.size o := fun o g => by
      have := wok_lt (hH _ g).wok; omega
    have hbF : ∀ y o, F y o → ¬ Go.Proofs.Ytanmjbkbdmeckaa.hF hp y o := fun y o hy hg => hG y o o hy ((hB y hg).2 o)
    have o1 := ho.ext x1 fun _ _ _ h => h
    refine W_sq fun K0 hK => (W_text [true, true, true, true, true, false, true, true, true, true, true] (by kernel_rfl) ?_); simp only [↓List.toList_toArray, ↓rgd, ↓rgf, ↓reduceIte, Nat.reduceEqDiff, rg, ow_164, e0, e3, e4, e2]
    refine do_call fn_174 (by simp only [evt, evc, upd_eq, Nat.reduceEqDiff, ↓reduceIte, maT, maC, maN, isnN, isnS] <;> rfl) (find_any B m b bi oi cap ord ks q (some ⟨bc, 0, none⟩) hp dep w1 (hL.ext0 x1) o1.h2 o1.h3 o1.row (by omega) hks (by omega) hak (hH.ext0 x1) hbh) ?_
    rintro _ w2 ⟨rfl, r2, hH2⟩
    refine ⟨trivial, ?_⟩
    simp only [↓List.toList_toArray, ↓rgd, ↓rgf, ↓reduceIte, Nat.reduceEqDiff, rg, ow_164, srchG_eq]
    refine hK _ _ ?_; clear hK K0
    have x2 : Ext (Go.Proofs.Ytanmjbkbdmeckaa.hF hp) w w2 := (x1.trans r2 (fun _ _ g => g.elim) fun _ _ _ g => g)
    have x2G : Ext G w w2 := x2.mono fun y o _ g => (hB y g).2 o
    have o2 := ho.ext x2 fun y o h => hbF y o ((hF y o).2 (.inl h))
    have k2 := hk.ext x2 fun y o h => hbF y o ((hF y o).2 (.inr (.inl h)))
    have S2 := hSh _ _ _ hS x2
    have hmh : ¬ Go.Proofs.Ytanmjbkbdmeckaa.hF hp m 0 := fun g => hm 0 ((hB m g).2 0)
    have hL2 := hL.ext x2 (fun y o g => (hB y g).1) fun g => hm 6 ((hB m g).2 6)
    have hlb := lb_le O (rkI ord) (rkI ord q) ks
    have hci : ∀ i, i < cs.length → ∃ c, cs[i]? = some c ∧ (cs.map Kid.xs)[i]? = some c.xs ∧ ∀ w', Ext G w w' → rd w' ba (oa + i) = some (ptr c.b) := fun i hi => by
      refine ⟨cs[i], List.getElem?_eq_getElem hi, by rw [List.getElem?_map, List.getElem?_eq_getElem hi]; rfl, fun w' X => (hk.ext X fun y o g => hGk y o g o).row i _ ?_⟩
      rw [List.getElem?_map, List.getElem?_map, List.getElem?_eq_getElem hi]; rfl
    generalize hi0 : lb O (rkI ord) (rkI ord q) ks = i0 at *
    obtain ⟨c0, hc0, hx0, hr0⟩ := hci i0 (by omega)
    have hc0m : c0 ∈ cs := List.mem_of_getElem? hc0
    have hln0 := tl_length hcs' hlb hx0
    refine W_sqx fun K hK => ?_
    have hloop : ∀ (e' : Env) (w2 : World) (d : List It), S d w2 → Ext G w w2 → hand go done ((weave (cs.map Kid.xs) ks).drop (lb O (rkI ord) (rkI ord q) (weave (cs.map Kid.xs) ks))) = hand go d (tl (cs.map Kid.xs) ks i0) → d.length + (tl (cs.map Kid.xs) ks i0).length ≤ 4294967295 →
        e' 0 = ptr m → e' 5 = .func (.func g) first cap0 → e' 6 = .bool mu → e' 15 = ptr b → e' 16 = .int .i64 i0 → K e' w2 := by
      intro e w2 d0 S2 X2 hh0 hdl0 e0 e5 e6 e15 e16
      refine hK _ _ ?_; clear hK K
      refine W_seq ?_
      refine W_block (W_loop (fun mm e w' => ∃ (i : Nat) (d : List It), mm = ks.length - i ∧ i ≤ ks.length ∧ hand go done ((weave (cs.map Kid.xs) ks).drop (lb O (rkI ord) (rkI ord q) (weave (cs.map Kid.xs) ks))) = hand go d (tl (cs.map Kid.xs) ks i) ∧ d.length + (tl (cs.map Kid.xs) ks i).length ≤ 4294967295 ∧ S d w' ∧ Ext G w w' ∧
          e 0 = ptr m ∧ e 5 = .func (.func g) first cap0 ∧ e 6 = .bool mu ∧ e 15 = ptr b ∧ e 16 = .int .i64 i)
        (ks.length - i0) ⟨_, d0, rfl, hlb, hh0, hdl0, S2, X2, e0, e5, e6, e15, e16⟩ ?_)
      clear e0 e1 e2 e5 e6 e15 e16 e S2 o2 X2 hdl0 hh0
      rintro mm e w' ⟨i, d, rfl, hi, hh, hdl, hS', X, e0, e5, e6, e15, e16⟩
      have o' := ho.ext X fun y o g => hGo y o g o
      have hb2 := o'.h2
      refine W_seq ?_
      by_cases hlt : i < ks.length
      · have ht := lt_tt i ks.length hlt
        refine W_sq fun K0 hK => (W_text [true, true, true, true, true, true, true] (by kernel_rfl) ?_); simp only [↓List.toList_toArray, ↓rgd, ↓rgf, ↓reduceIte, Nat.reduceEqDiff, rg, ow_164, e15, e16, ptr_eq, hb2, ht]
        refine hK _ _ ?_; clear hK K0
        refine W_true (by simp only [evt, evc, upd_eq, Nat.reduceEqDiff, ↓reduceIte, ntT, ntF] <;> rfl) (W_skip ?_)
        show W _ _ _ _ _ _
        obtain ⟨x, hx⟩ : ∃ x, ks[i]? = some x := ⟨_, List.getElem?_eq_getElem hlt⟩
        obtain ⟨c, hc, hcx, hcr⟩ := hci (i + 1) (by omega)
        have hcm : c ∈ cs := List.mem_of_getElem? hc
        have hlc : i + 1 < cs.length := by omega
        rw [tl_step hcx hx] at hh hdl
        rw [List.length_cons, List.length_append] at hdl
        have hkx := it_at o'.row hx
        refine W_seq (W_block (W_seq ?_))
        refine W_sq fun K0 hK => (W_text [true, true, true, true, true, true, true, true, false, true] (by kernel_rfl) ?_); simp only [↓List.toList_toArray, ↓rgd, ↓rgf, ↓reduceIte, Nat.reduceEqDiff, rg, ow_164, e5, e15, e16, ptr_eq, hb2, hlt, hkx]
        refine do_callv (by simp only [evt, evc, upd_eq, Nat.reduceEqDiff, ↓reduceIte, ntT, ntF] <;> rfl) hg rfl (by simp only [evt, upd_eq, Nat.reduceEqDiff, ↓reduceIte, maT, maC, maN]; exact hcall d x _ hS' (by omega)) ?_
        rintro _ w3 ⟨rfl, hS3, x3⟩
        refine ⟨trivial, ?_⟩
        simp only [↓List.toList_toArray, ↓rgd, ↓rgf, ↓reduceIte, Nat.reduceEqDiff, rg, ow_164]
        refine hK _ _ ?_; clear hK K0
        have X3 := X.tr x3
        have o3 := ho.ext X3 fun y o g => hGo y o g o
        have k3 := hk.ext X3 fun y o g => hGk y o g o
        have b3 := o3.h3
        have hbc := k3.c0
        rw [List.length_map] at hbc
        have hcr3 := hcr _ X3
        have h03 := X3.rd h0 (hm 0)
        cases hgo : go (d ++ [x]) with
        | true =>
          rw [hand_yes go hgo] at hh
          refine W_false (by simp only [evt, evc, upd_eq, Nat.reduceEqDiff, ↓reduceIte, ntT, ntF] <;> rfl) (W_skip ?_)
          show W _ _ _ _ _ _
          refine W_sq fun K0 hK => (W_text [true, false, true] (by kernel_rfl) ?_); simp only [↓List.toList_toArray, ↓rgd, ↓rgf, ↓reduceIte, Nat.reduceEqDiff, rg, ow_164, e15]
          refine do_call fn_122 (by simp only [evt, evc, upd_eq, Nat.reduceEqDiff, ↓reduceIte, maT, maC, maN, isnN, isnS] <;> rfl) (leaf_any b (some ⟨bc, 0, none⟩) w3 b3) ?_
          rintro _ w3 ⟨rfl, rfl⟩
          refine ⟨trivial, ?_⟩
          simp only [↓List.toList_toArray, ↓rgd, ↓rgf, ↓reduceIte, Nat.reduceEqDiff, rg, ow_164]
          refine hK _ _ ?_; clear hK K0
          refine W_true (by simp only [evt, evc, upd_eq, Nat.reduceEqDiff, ↓reduceIte, ntT, ntF] <;> rfl) ?_
          have q1 := wadd1 i (by omega)
          refine W_sq fun K0 hK => (W_text [true, true, true, true, true, true, true, true, true, true, true, true, false, true] (by kernel_rfl) ?_); simp only [↓List.toList_toArray, ↓rgd, ↓rgf, ↓reduceIte, Nat.reduceEqDiff, rg, ow_164, e0, e5, e6, e15, e16, ptr_eq, b3, hbc, hlc, q1]
          refine do_call fn_163 (by simp only [evt, evc, upd_eq, Nat.reduceEqDiff, ↓reduceIte, maT, maC, maN, isnN, isnS] <;> rfl) (nodeScan_any m iso mn mx _ G S go C0 hm mu h c.b mn ba (oa + (i + 1)) c.xs c.F (d ++ [x]) _ ((hT c hcm).ext X3 fun y o g => hGc c hcm y o o g) h03 hcr3 (hGc c hcm) hS3 (by rw [List.length_append, List.length_singleton]; omega)) ?_
          rintro _ w4 ⟨rfl, hS4, x4⟩
          refine ⟨trivial, ?_⟩
          simp only [↓List.toList_toArray, ↓rgd, ↓rgf, ↓reduceIte, Nat.reduceEqDiff, rg, ow_164]
          refine hK _ _ ?_; clear hK K0
          cases hgo2 : (hand go (d ++ [x]) c.xs).2 with
          | true =>
            rw [hand_on go hgo2] at hh
            have hd2 : (hand go (d ++ [x]) c.xs).1.length = d.length + 1 + c.xs.length := by rw [hand_true go hgo2]; simp only [List.length_append, List.length_singleton]
            refine W_false (by simp only [evt, evc, upd_eq, Nat.reduceEqDiff, ↓reduceIte, ntT, ntF] <;> rfl) (W_skip ?_)
            simp only [inBlk_normal, andThen_normal]
            refine W_rg fun K0 hK => (W_text [true, true, true] (by kernel_rfl) ?_); simp only [↓List.toList_toArray, ↓rgd, ↓rgf, ↓reduceIte, Nat.reduceEqDiff, rg, ow_164, e16, q1]
            refine hK _ _ ?_; clear hK K0
            refine ⟨_, ?_, i + 1, _, rfl, hlt, hh, by omega, hS4, X3.tr x4, ?_, ?_, ?_, ?_, ?_⟩
            · omega
            · simp only [upd_eq, Nat.reduceEqDiff, ↓reduceIte]; exact e0
            · simp only [upd_eq, Nat.reduceEqDiff, ↓reduceIte]; exact e5
            · simp only [upd_eq, Nat.reduceEqDiff, ↓reduceIte]; exact e6
            · simp only [upd_eq, Nat.reduceEqDiff, ↓reduceIte]; exact e15
            · simp only [upd_eq, Nat.reduceEqDiff, ↓reduceIte]
          | false =>
            refine W_true (by simp only [evt, evc, upd_eq, Nat.reduceEqDiff, ↓reduceIte, ntT, ntF] <;> rfl) ?_
            refine W_sq fun K0 hK => (W_text [true] (by kernel_rfl) ?_); simp only [↓List.toList_toArray, ↓rgd, ↓rgf, ↓reduceIte, Nat.reduceEqDiff, rg, ow_164]
            refine hK _ _ ?_; clear hK K0
            refine W_ret ?_
            simp only [andThen_ret, inBlk_ret]
            refine endQ_1 (by simp only [upd_eq, Nat.reduceEqDiff, ↓reduceIte] <;> rfl) ?_
            rw [hh, hand_off go hgo2, hgo2]
            exact ⟨rfl, hS4, X3.tr x4⟩
        | false =>
          refine W_true (by simp only [evt, evc, upd_eq, Nat.reduceEqDiff, ↓reduceIte, ntT, ntF] <;> rfl) ?_
          refine W_sq fun K0 hK => (W_text [true] (by kernel_rfl) ?_); simp only [↓List.toList_toArray, ↓rgd, ↓rgf, ↓reduceIte, Nat.reduceEqDiff, rg, ow_164]
          refine hK _ _ ?_; clear hK K0
          refine W_ret ?_
          simp only [andThen_ret, inBlk_ret]
          refine endQ_1 (by simp only [upd_eq, Nat.reduceEqDiff, ↓reduceIte] <;> rfl) ?_
          rw [hh, hand_no go hgo]
          exact ⟨rfl, hS3, X3⟩
      · obtain rfl : i = ks.length := by omega
        have ht := lt_ff ks.length ks.length (by omega)
        refine W_sq fun K0 hK => (W_text [true, true, true, true, true, true, true] (by kernel_rfl) ?_); simp only [↓List.toList_toArray, ↓rgd, ↓rgf, ↓reduceIte, Nat.reduceEqDiff, rg, ow_164, e15, e16, ptr_eq, hb2, ht]
        refine hK _ _ ?_; clear hK K0
        refine W_false (by simp only [evt, evc, upd_eq, Nat.reduceEqDiff, ↓reduceIte, ntT, ntF] <;> rfl) (W_exit ?_)
        simp only [andThen_exit, inBlk_exit, andThen_normal, ↓reduceIte]
        refine W_sq fun K0 hK => (W_text [true] (by kernel_rfl) ?_); simp only [↓List.toList_toArray, ↓rgd, ↓rgf, ↓reduceIte, Nat.reduceEqDiff, rg, ow_164]
        refine hK _ _ ?_; clear hK K0
        refine W_ret ?_
        refine endQ_1 (by simp only [upd_eq, Nat.reduceEqDiff, ↓reduceIte] <;> rfl) ?_
        rw [hh, tl_end, hand_nil]
        exact ⟨rfl, hS', X⟩
    clear hK
    cases hq : hit O (rkI ord) (rkI ord q) ks with
    | true =>
      refine W_sq fun K0 hK => (W_text [true, true] (by kernel_rfl) ?_); simp only [↓List.toList_toArray, ↓rgd, ↓rgf, ↓reduceIte, Nat.reduceEqDiff, rg, ow_164, hq]
      refine hK _ _ ?_; clear hK K0
      refine W_false (by simp only [evt, evc, upd_eq, Nat.reduceEqDiff, ↓reduceIte, ntT, ntF] <;> rfl) (W_skip ?_)
      simp only [andThen_normal]
      refine hloop _ _ done S2 x2G (by rw [from_hit O (rkI ord) hcs' hx0 ha hi0 hq]) (by omega) ?_ ?_ ?_ ?_ ?_
      · simp only [upd_eq, Nat.reduceEqDiff, ↓reduceIte]; exact e0
      · simp only [upd_eq, Nat.reduceEqDiff, ↓reduceIte]; exact e5
      · simp only [upd_eq, Nat.reduceEqDiff, ↓reduceIte]; exact e6
      · simp only [upd_eq, Nat.reduceEqDiff, ↓reduceIte]
      · simp only [upd_eq, Nat.reduceEqDiff, ↓reduceIte]
    | false =>
      have hb3 := o2.h3
      have hbc := k2.c0
      rw [List.length_map] at hbc
      have hlc : i0 < cs.length := by omega
      have hfm := from_miss O (rkI ord) hcs' hx0 ha hi0 hq
      have hac : Asc O (rkI ord) c0.xs := by
        obtain ⟨A, C, hw⟩ := weave_at i0 (cs.map Kid.xs) ks hcs' hlb
        rw [hw.eq hx0] at ha
        exact ((Asc.append O (rkI ord)).1 ((Asc.append O (rkI ord)).1 ha).1).2.1
      refine W_sq fun K0 hK => (W_text [true, true] (by kernel_rfl) ?_); simp only [↓List.toList_toArray, ↓rgd, ↓rgf, ↓reduceIte, Nat.reduceEqDiff, rg, ow_164, hq]
      refine hK _ _ ?_; clear hK K0
      refine W_true (by simp only [evt, evc, upd_eq, Nat.reduceEqDiff, ↓reduceIte, ntT, ntF] <;> rfl) ?_
      refine W_sq fun K0 hK => (W_text [true, false, true] (by kernel_rfl) ?_); simp only [↓List.toList_toArray, ↓rgd, ↓rgf, ↓reduceIte, Nat.reduceEqDiff, rg, ow_164]
      refine do_call fn_122 (by simp only [evt, evc, upd_eq, Nat.reduceEqDiff, ↓reduceIte, maT, maC, maN, isnN, isnS] <;> rfl) (leaf_any b (some ⟨bc, 0, none⟩) w2 o2.h3) ?_
      rintro _ w3 ⟨rfl, hw3⟩
      obtain rfl : w2 = w3 := hw3.symm
      refine ⟨trivial, ?_⟩
      simp only [↓List.toList_toArray, ↓rgd, ↓rgf, ↓reduceIte, Nat.reduceEqDiff, rg, ow_164]
      refine hK _ _ ?_; clear hK K0
      refine W_true (by simp only [evt, evc, upd_eq, Nat.reduceEqDiff, ↓reduceIte, ntT, ntF] <;> rfl) ?_
      have q1 := wadd1 dep (by omega)
      refine W_sq fun K0 hK => (W_text [true, true, true, true, true, true, true, true, true, true, true, true, true, true, true, false, true] (by kernel_rfl) ?_); simp only [↓List.toList_toArray, ↓rgd, ↓rgf, ↓reduceIte, Nat.reduceEqDiff, rg, ow_164, e0, e3, e4, e5, e6, ptr_eq, hb3, hbc, hlc, q1, e2]
      refine do_call fn_164 (by simp only [evt, evc, upd_eq, Nat.reduceEqDiff, ↓reduceIte, maT, maC, maN, isnN, isnS] <;> rfl) (ih c0.b mn ba (oa + i0) c0.xs c0.F done _ (dep + 1) hmn (by omega) (hL2.ext0 (Ext.dr _ _ _)) (hH2.ext0 (Ext.dr _ _ _)) (((hT c0 hc0m).ext x2 fun y o h g => hGc c0 hc0m y o o h ((hB y g).2 o)).ext (Ext.dr noF _ _) fun _ _ _ h => h) hac (x2.rd h0 hmh) (hr0 _ (x2G.tr (Ext.dr _ _ _))) (hGc c0 hc0m) (hSx _ _ _ S2 (Ext.dr _ _ _)) (by omega)) ?_
      rintro _ w4 ⟨rfl, hS4, x4⟩
      refine ⟨trivial, ?_⟩
      simp only [↓List.toList_toArray, ↓rgd, ↓rgf, ↓reduceIte, Nat.reduceEqDiff, rg, ow_164]
      refine hK _ _ ?_; clear hK K0
      have X4 : Ext G w w4 := x2G.tr x4.od
      cases hgo2 : (hand go done (c0.xs.drop (lb O (rkI ord) (rkI ord q) c0.xs))).2 with
      | true =>
        have hd2 : (hand go done (c0.xs.drop (lb O (rkI ord) (rkI ord q) c0.xs))).1.length ≤ done.length + c0.xs.length := by rw [hand_true go hgo2]; simp only [List.length_append, List.length_drop]; omega
        refine W_false (by simp only [evt, evc, upd_eq, Nat.reduceEqDiff, ↓reduceIte, ntT, ntF] <;> rfl) (W_skip ?_)
        simp only [andThen_normal]
        refine hloop _ _ _ hS4 X4 (by rw [hfm, hand_on go hgo2]) (by omega) ?_ ?_ ?_ ?_ ?_
        · simp only [upd_eq, Nat.reduceEqDiff, ↓reduceIte]; exact e0
        · simp only [upd_eq, Nat.reduceEqDiff, ↓reduceIte]; exact e5
        · simp only [upd_eq, Nat.reduceEqDiff, ↓reduceIte]; exact e6
        · simp only [upd_eq, Nat.reduceEqDiff, ↓reduceIte]; rfl
        · simp only [upd_eq, Nat.reduceEqDiff, ↓reduceIte]
      | false =>
        refine W_true (by simp only [evt, evc, upd_eq, Nat.reduceEqDiff, ↓reduceIte, ntT, ntF] <;> rfl) ?_
        refine W_sq fun K0 hK => (W_text [true] (by kernel_rfl) ?_); simp only [↓List.toList_toArray, ↓rgd, ↓rgf, ↓reduceIte, Nat.reduceEqDiff, rg, ow_164]
        refine hK _ _ ?_; clear hK K0
        refine W_ret ?_
        simp only [andThen_ret]
        refine endQ_1 (by simp only [upd_eq, Nat.reduceEqDiff, ↓reduceIte] <;> rfl) ?_
        rw [hfm, hand_off go hgo2, hgo2]
        exact ⟨rfl, hS4, X4⟩
set_option maxHeartbeats 400000 in
set_option maxRecDepth 8000 in
theorem ascend_any (B m d : Nat) (ord : List Int) (hd : 2 ≤ d) (iso : Int) (xs : List It) (F : Nat → Nat → Prop) (q : It) (hp : Option Nat) (f : Value) (G : Nat → Nat → Prop) (S : List It → World → Prop) (go : List It → Bool) (C : Cb f G S go) (hm : ∀ o, ¬ G m o)
    (hB : ∀ hb, hp = some hb → (m ≤ hb ∨ hb < B) ∧ ∀ o, G hb o) (hSh : ∀ done w w', S done w → Ext (Go.Proofs.Ytanmjbkbdmeckaa.hF hp) w w' → S done w') (mu : Bool) (w : World)
    (hM : TreeAt B ord w m d iso xs F) (hG : ∀ y o o', F y o → ¬ G y o') (hS : S [] w) (hH : HOk hp w) (hbig : xs.length ≤ 4294967295) :
    CallK Try.prog 136 #[ptr m, itV q, f, .bool mu, hV hp] w fun _ w' => S (hand go [] (xs.drop (lb O (rkI ord) (rkI ord q) xs))).1 w' ∧ Ext G w w' := by
  refine calls_of_W [] Try.func136 rfl Try.ntmps136 Try.results136 (by simp) fun e he => ?_
  have e0 : e 0 = ptr m := he 0 _ rfl
  have e1 : e 1 = itV q := he 1 _ rfl
  have e2 : e 2 = f := he 2 _ rfl
  have e3 : e 3 = .bool mu := he 3 _ rfl
  have e4 : e 4 = hV hp := he 4 _ rfl
  clear he
  have X1 : Ext noF w w := Ext.refl _ _
  have hS1 := C.2 _ _ _ hS X1
  have hM1 := hM.ext X1
  have hH1 := hH.ext0 X1
  refine W_seq ?_
  refine W_sq fun K0 hK => (W_text [true, true, false] (by kernel_rfl) ?_); simp only [↓List.toList_toArray, ↓rgd, ↓rgf, ↓reduceIte, Nat.reduceEqDiff, rg, ow_136, e0, e3]
  refine do_call fn_118 (by simp only [evt, evc, upd_eq, Nat.reduceEqDiff, ↓reduceIte, maT, maC, maN, isnN, isnS] <;> rfl) (lock_any _ _ w) ?_
  rintro _ _ ⟨rfl, rfl⟩
  refine ⟨trivial, ?_⟩
  simp only [↓List.toList_toArray, ↓rgd, ↓rgf, ↓reduceIte, Nat.reduceEqDiff, rg, ow_136]
  refine hK _ _ ?_; clear hK K0
  refine W_false (by simp only [evt, evc, upd_eq, Nat.reduceEqDiff, ↓reduceIte, ntT, ntF] <;> rfl) (W_skip ?_)
  show W _ _ _ _ _ _
  refine W_seq ?_
  have X1G : Ext G w w := X1.mono fun _ _ _ g => g.elim
  rcases hM1.root with ⟨rfl, hr⟩ | ⟨h, b, hr, ht⟩
  · refine W_sq fun K0 hK => (W_text [true, true, true, true, true] (by kernel_rfl) ?_); simp only [↓List.toList_toArray, ↓rgd, ↓rgf, ↓reduceIte, Nat.reduceEqDiff, rg, ow_136, e0, ptr_eq, hr]
    refine hK _ _ ?_; clear hK K0
    refine W_true (by simp only [evt, evc, upd_eq, Nat.reduceEqDiff, ↓reduceIte, ntT, ntF] <;> rfl) (W_ret ?_)
    simp only [andThen_ret]
    exact endQ_0 ⟨hS1, X1G⟩
  · refine W_sq fun K0 hK => (W_text [true, true, true, true, true] (by kernel_rfl) ?_); simp only [↓List.toList_toArray, ↓rgd, ↓rgf, ↓reduceIte, Nat.reduceEqDiff, rg, ow_136, e0, ptr_eq, hr]
    refine hK _ _ ?_; clear hK K0
    refine W_false (by simp only [evt, evc, upd_eq, Nat.reduceEqDiff, ↓reduceIte, ntT, ntF] <;> rfl) (W_skip ?_)
    show W _ _ _ _ _ _
    have hh := ht.height (by omega) (by omega)
    refine W_rg fun K0 hK => (W_text [true, true, true, true, true, true, true, true, false] (by kernel_rfl) ?_); simp only [↓List.toList_toArray, ↓rgd, ↓rgf, ↓reduceIte, Nat.reduceEqDiff, rg, ow_136, e0, e2, e3, e4, ptr_eq, e1]
    refine do_call fn_164 (by simp only [evt, evc, upd_eq, Nat.reduceEqDiff, ↓reduceIte, maT, maC, maN, isnN, isnS] <;> rfl) (nodeAscend_any m iso (d - 1) (2 * d - 1) B ord q hp f G S go C hm hB hSh (by omega) mu h b 1 m 2 xs F [] w 0 (Nat.le_refl _) (by omega) (hM1.less.ext0 (Ext.refl _ _)) (hH1.ext0 (Ext.refl _ _)) (ht.ext (Ext.refl noF _) fun _ _ _ h => h) hM1.asc hM1.cfg.iso hr hG (C.2 _ _ _ hS1 (Ext.refl _ _)) (by simpa using hbig)) ?_
    rintro _ w2 ⟨rfl, hS2, X2⟩
    refine ⟨trivial, ?_⟩
    simp only [↓List.toList_toArray, ↓rgd, ↓rgf, ↓reduceIte, Nat.reduceEqDiff, rg, ow_136]
    refine hK _ _ ?_; clear hK K0
    exact endQ_0n ⟨hS2, X1G.tr X2⟩
end Go.Proofs.Ytanmjbkbdmeckaa
/-
  Handing on the items of a tree of whatever values, wrapped. No condition.
-/
set_option linter.unusedSimpArgs false
set_option linter.unusedVariables false
namespace Go.Proofs.Ytanmjbkbdmeckaa
open Go Go.Proofs
theorem hSh_none {S : List It → World → Prop} (h : ∀ done w w', S done w → Ext noF w w' → S done w') : ∀ done w w', S done w → Ext (Go.Proofs.Ytanmjbkbdmeckaa.hF none) w w' → S done w' :=
  fun done w w' hs x => h done w w' hs (x.mono fun y o _ g => by cases g)
/-- What a function of a tree hands on to a function value, in order. -/
def Scans (fn : Nat) (args : Value → Array Value) (hp : Option Nat) (B m : Nat) (ys : List It) (F : Nat → Nat → Prop) (w : World) : Prop :=
  ∀ (f : Value) (G : Nat → Nat → Prop) (S : List It → World → Prop) (go : List It → Bool), Cb f G S go → (∀ o, ¬ G m o) → (∀ hb, hp = some hb → (m ≤ hb ∨ hb < B) ∧ ∀ o, G hb o) → (∀ done w w', S done w → Ext (Go.Proofs.Ytanmjbkbdmeckaa.hF hp) w w' → S done w') →
    (∀ y o o', F y o → ¬ G y o') → S [] w → CallK Try.prog fn (args f) w fun _ w' => S (hand go [] ys).1 w' ∧ Ext G w w'
/-- A pivot or none. -/
def upO (ord : List Int) (p : Option It) (xs : List It) : List It := match p with
  | some q => xs.drop (lb O (rkI ord) (rkI ord q) xs)
  | none => xs
def downO (ord : List Int) (p : Option It) (xs : List It) : List It := match p with
  | some q => (xs.take (ub O (rkI ord) (rkI ord q) xs)).reverse
  | none => xs.reverse
set_option maxHeartbeats 400000 in
set_option maxRecDepth 8000 in
theorem M_Scan_s (B m d : Nat) (ord : List Int) (hd : 2 ≤ d) (iso : Int) (xs : List It) (F : Nat → Nat → Prop) (w : World) (hM : TreeAt B ord w m d iso xs F) (hbig : xs.length ≤ 4294967295) :
    Scans 97 (fun f => #[ptr m, f]) none B m (xs) F w := by
  intro f G S go C hm hB hSh hG hS
  refine calls_of_W [] Try.func97 rfl Try.ntmps97 Try.results97 (by simp) fun e he => ?_
  have e0 : e 0 = ptr m := he 0 _ rfl
  have e1 : e 1 = f := he 1 _ rfl
  clear he
  refine W_rg fun K hK => (W_text [true, true, false] (by kernel_rfl) ?_); simp only [↓List.toList_toArray, ↓rgd, ↓rgf, ↓reduceIte, Nat.reduceEqDiff, rg, ow_97, e0, e1]
  refine do_call fn_135 (by simp only [evt, evc, upd_eq, Nat.reduceEqDiff, ↓reduceIte, maT, maC, maN, isnN, isnS] <;> rfl) (scan_any B m d ord iso xs F f G S go C hm false w hM hG hS hbig) ?_
  rintro _ w1 ⟨hS1, X1⟩
  refine ⟨trivial, ?_⟩
  simp only [↓List.toList_toArray, ↓rgd, ↓rgf, ↓reduceIte, Nat.reduceEqDiff, rg, ow_97]
  refine hK _ _ ?_; clear hK K
  exact endQ_0n ⟨hS1, X1⟩
set_option maxHeartbeats 400000 in
set_option maxRecDepth 8000 in
theorem M_ScanMut_s (B m d : Nat) (ord : List Int) (hd : 2 ≤ d) (iso : Int) (xs : List It) (F : Nat → Nat → Prop) (w : World) (hM : TreeAt B ord w m d iso xs F) (hbig : xs.length ≤ 4294967295) :
    Scans 105 (fun f => #[ptr m, f]) none B m (xs) F w := by
  intro f G S go C hm hB hSh hG hS
  refine calls_of_W [] Try.func105 rfl Try.ntmps105 Try.results105 (by simp) fun e he => ?_
  have e0 : e 0 = ptr m := he 0 _ rfl
  have e1 : e 1 = f := he 1 _ rfl
  clear he
  refine W_rg fun K hK => (W_text [true, true, false] (by kernel_rfl) ?_); simp only [↓List.toList_toArray, ↓rgd, ↓rgf, ↓reduceIte, Nat.reduceEqDiff, rg, ow_105, e0, e1]
  refine do_call fn_135 (by simp only [evt, evc, upd_eq, Nat.reduceEqDiff, ↓reduceIte, maT, maC, maN, isnN, isnS] <;> rfl) (scan_any B m d ord iso xs F f G S go C hm true w hM hG hS hbig) ?_
  rintro _ w1 ⟨hS1, X1⟩
  refine ⟨trivial, ?_⟩
  simp only [↓List.toList_toArray, ↓rgd, ↓rgf, ↓reduceIte, Nat.reduceEqDiff, rg, ow_105]
  refine hK _ _ ?_; clear hK K
  exact endQ_0n ⟨hS1, X1⟩
set_option maxHeartbeats 400000 in
set_option maxRecDepth 8000 in
theorem M_Reverse_s (B m d : Nat) (ord : List Int) (hd : 2 ≤ d) (iso : Int) (xs : List It) (F : Nat → Nat → Prop) (w : World) (hM : TreeAt B ord w m d iso xs F) (hbig : xs.length ≤ 4294967295) :
    Scans 101 (fun f => #[ptr m, f]) none B m (xs.reverse) F w := by
  intro f G S go C hm hB hSh hG hS
  refine calls_of_W [] Try.func101 rfl Try.ntmps101 Try.results101 (by simp) fun e he => ?_
  have e0 : e 0 = ptr m := he 0 _ rfl
  have e1 : e 1 = f := he 1 _ rfl
  clear he
  refine W_rg fun K hK => (W_text [true, true, false] (by kernel_rfl) ?_); simp only [↓List.toList_toArray, ↓rgd, ↓rgf, ↓reduceIte, Nat.reduceEqDiff, rg, ow_101, e0, e1]
  refine do_call fn_138 (by simp only [evt, evc, upd_eq, Nat.reduceEqDiff, ↓reduceIte, maT, maC, maN, isnN, isnS] <;> rfl) (reverse_any B m d ord iso xs F f G S go C hm false w hM hG hS hbig) ?_
  rintro _ w1 ⟨hS1, X1⟩
  refine ⟨trivial, ?_⟩
  simp only [↓List.toList_toArray, ↓rgd, ↓rgf, ↓reduceIte, Nat.reduceEqDiff, rg, ow_101]
  refine hK _ _ ?_; clear hK K
  exact endQ_0n ⟨hS1, X1⟩
set_option maxHeartbeats 400000 in
set_option maxRecDepth 8000 in
theorem M_ReverseMut_s (B m d : Nat) (ord : List Int) (hd : 2 ≤ d) (iso : Int) (xs : List It) (F : Nat → Nat → Prop) (w : World) (hM : TreeAt B ord w m d iso xs F) (hbig : xs.length ≤ 4294967295) :
    Scans 107 (fun f => #[ptr m, f]) none B m (xs.reverse) F w := by
  intro f G S go C hm hB hSh hG hS
  refine calls_of_W [] Try.func107 rfl Try.ntmps107 Try.results107 (by simp) fun e he => ?_
  have e0 : e 0 = ptr m := he 0 _ rfl
  have e1 : e 1 = f := he 1 _ rfl
  clear he
  refine W_rg fun K hK => (W_text [true, true, false] (by kernel_rfl) ?_); simp only [↓List.toList_toArray, ↓rgd, ↓rgf, ↓reduceIte, Nat.reduceEqDiff, rg, ow_107, e0, e1]
  refine do_call fn_138 (by simp only [evt, evc, upd_eq, Nat.reduceEqDiff, ↓reduceIte, maT, maC, maN, isnN, isnS] <;> rfl) (reverse_any B m d ord iso xs F f G S go C hm true w hM hG hS hbig) ?_
  rintro _ w1 ⟨hS1, X1⟩
  refine ⟨trivial, ?_⟩
  simp only [↓List.toList_toArray, ↓rgd, ↓rgf, ↓reduceIte, Nat.reduceEqDiff, rg, ow_107]
  refine hK _ _ ?_; clear hK K
  exact endQ_0n ⟨hS1, X1⟩
set_option maxHeartbeats 400000 in
set_option maxRecDepth 8000 in
theorem M_Ascend_s (B m d : Nat) (ord : List Int) (hd : 2 ≤ d) (iso : Int) (xs : List It) (F : Nat → Nat → Prop) (q : It) (w : World) (hM : TreeAt B ord w m d iso xs F) (hbig : xs.length ≤ 4294967295) :
    Scans 98 (fun f => #[ptr m, itV q, f]) none B m (xs.drop (lb O (rkI ord) (rkI ord q) xs)) F w := by
  intro f G S go C hm hB hSh hG hS
  refine calls_of_W [] Try.func98 rfl Try.ntmps98 Try.results98 (by simp) fun e he => ?_
  have e0 : e 0 = ptr m := he 0 _ rfl
  have e1 : e 1 = itV q := he 1 _ rfl
  have e2 : e 2 = f := he 2 _ rfl
  clear he
  refine W_rg fun K hK => (W_text [true, true, true, false] (by kernel_rfl) ?_); simp only [↓List.toList_toArray, ↓rgd, ↓rgf, ↓reduceIte, Nat.reduceEqDiff, rg, ow_98, e0, e1, e2]
  refine do_call fn_136 (by simp only [evt, evc, upd_eq, Nat.reduceEqDiff, ↓reduceIte, maT, maC, maN, isnN, isnS] <;> rfl) (ascend_any B m d ord hd iso xs F q none f G S go C hm hB hSh false w hM hG hS (HOk.none _) hbig) ?_
  rintro _ w1 ⟨hS1, X1⟩
  refine ⟨trivial, ?_⟩
  simp only [↓List.toList_toArray, ↓rgd, ↓rgf, ↓reduceIte, Nat.reduceEqDiff, rg, ow_98]
  refine hK _ _ ?_; clear hK K
  exact endQ_0n ⟨hS1, X1⟩
set_option maxHeartbeats 400000 in
set_option maxRecDepth 8000 in
theorem M_AscendMut_s (B m d : Nat) (ord : List Int) (hd : 2 ≤ d) (iso : Int) (xs : List It) (F : Nat → Nat → Prop) (q : It) (w : World) (hM : TreeAt B ord w m d iso xs F) (hbig : xs.length ≤ 4294967295) :
    Scans 106 (fun f => #[ptr m, itV q, f]) none B m (xs.drop (lb O (rkI ord) (rkI ord q) xs)) F w := by
  intro f G S go C hm hB hSh hG hS
  refine calls_of_W [] Try.func106 rfl Try.ntmps106 Try.results106 (by simp) fun e he => ?_
  have e0 : e 0 = ptr m := he 0 _ rfl
  have e1 : e 1 = itV q := he 1 _ rfl
  have e2 : e 2 = f := he 2 _ rfl
  clear he
  refine W_rg fun K hK => (W_text [true, true, true, false] (by kernel_rfl) ?_); simp only [↓List.toList_toArray, ↓rgd, ↓rgf, ↓reduceIte, Nat.reduceEqDiff, rg, ow_106, e0, e1, e2]
  refine do_call fn_136 (by simp only [evt, evc, upd_eq, Nat.reduceEqDiff, ↓reduceIte, maT, maC, maN, isnN, isnS] <;> rfl) (ascend_any B m d ord hd iso xs F q none f G S go C hm hB hSh true w hM hG hS (HOk.none _) hbig) ?_
  rintro _ w1 ⟨hS1, X1⟩
  refine ⟨trivial, ?_⟩
  simp only [↓List.toList_toArray, ↓rgd, ↓rgf, ↓reduceIte, Nat.reduceEqDiff, rg, ow_106]
  refine hK _ _ ?_; clear hK K
  exact endQ_0n ⟨hS1, X1⟩
set_option maxHeartbeats 400000 in
set_option maxRecDepth 8000 in
theorem M_AscendHint_s (B m d : Nat) (ord : List Int) (hd : 2 ≤ d) (iso : Int) (xs : List It) (F : Nat → Nat → Prop) (q : It) (hp : Option Nat) (w : World) (hM : TreeAt B ord w m d iso xs F) (hH : HOk hp w) (hbig : xs.length ≤ 4294967295) :
    Scans 103 (fun f => #[ptr m, itV q, f, hV hp]) hp B m (xs.drop (lb O (rkI ord) (rkI ord q) xs)) F w := by
  intro f G S go C hm hB hSh hG hS
  refine calls_of_W [] Try.func103 rfl Try.ntmps103 Try.results103 (by simp) fun e he => ?_
  have e0 : e 0 = ptr m := he 0 _ rfl
  have e1 : e 1 = itV q := he 1 _ rfl
  have e2 : e 2 = f := he 2 _ rfl
  have e3 : e 3 = hV hp := he 3 _ rfl
  clear he
  refine W_rg fun K hK => (W_text [true, true, true, true, false] (by kernel_rfl) ?_); simp only [↓List.toList_toArray, ↓rgd, ↓rgf, ↓reduceIte, Nat.reduceEqDiff, rg, ow_103, e0, e1, e2, e3]
  refine do_call fn_136 (by simp only [evt, evc, upd_eq, Nat.reduceEqDiff, ↓reduceIte, maT, maC, maN, isnN, isnS] <;> rfl) (ascend_any B m d ord hd iso xs F q hp f G S go C hm hB hSh false w hM hG hS hH hbig) ?_
  rintro _ w1 ⟨hS1, X1⟩
  refine ⟨trivial, ?_⟩
  simp only [↓List.toList_toArray, ↓rgd, ↓rgf, ↓reduceIte, Nat.reduceEqDiff, rg, ow_103]
  refine hK _ _ ?_; clear hK K
  exact endQ_0n ⟨hS1, X1⟩
set_option maxHeartbeats 400000 in
set_option maxRecDepth 8000 in
theorem M_Descend_s (B m d : Nat) (ord : List Int) (hd : 2 ≤ d) (iso : Int) (xs : List It) (F : Nat → Nat → Prop) (q : It) (w : World) (hM : TreeAt B ord w m d iso xs F) (hbig : xs.length ≤ 4294967295) :
    Scans 102 (fun f => #[ptr m, itV q, f]) none B m ((xs.take (ub O (rkI ord) (rkI ord q) xs)).reverse) F w := by
  intro f G S go C hm hB hSh hG hS
  refine calls_of_W [] Try.func102 rfl Try.ntmps102 Try.results102 (by simp) fun e he => ?_
  have e0 : e 0 = ptr m := he 0 _ rfl
  have e1 : e 1 = itV q := he 1 _ rfl
  have e2 : e 2 = f := he 2 _ rfl
  clear he
  refine W_rg fun K hK => (W_text [true, true, true, false] (by kernel_rfl) ?_); simp only [↓List.toList_toArray, ↓rgd, ↓rgf, ↓reduceIte, Nat.reduceEqDiff, rg, ow_102, e0, e1, e2]
  refine do_call fn_139 (by simp only [evt, evc, upd_eq, Nat.reduceEqDiff, ↓reduceIte, maT, maC, maN, isnN, isnS] <;> rfl) (descend_any B m d ord hd iso xs F q none f G S go C hm hB hSh false w hM hG hS (HOk.none _) hbig) ?_
  rintro _ w1 ⟨hS1, X1⟩
  refine ⟨trivial, ?_⟩
  simp only [↓List.toList_toArray, ↓rgd, ↓rgf, ↓reduceIte, Nat.reduceEqDiff, rg, ow_102]
  refine hK _ _ ?_; clear hK K
  exact endQ_0n ⟨hS1, X1⟩
set_option maxHeartbeats 400000 in
set_option maxRecDepth 8000 in
theorem M_DescendMut_s (B m d : Nat) (ord : List Int) (hd : 2 ≤ d) (iso : Int) (xs : List It) (F : Nat → Nat → Prop) (q : It) (w : World) (hM : TreeAt B ord w m d iso xs F) (hbig : xs.length ≤ 4294967295) :
    Scans 108 (fun f => #[ptr m, itV q, f]) none B m ((xs.take (ub O (rkI ord) (rkI ord q) xs)).reverse) F w := by
  intro f G S go C hm hB hSh hG hS
  refine calls_of_W [] Try.func108 rfl Try.ntmps108 Try.results108 (by simp) fun e he => ?_
  have e0 : e 0 = ptr m := he 0 _ rfl
  have e1 : e 1 = itV q := he 1 _ rfl
  have e2 : e 2 = f := he 2 _ rfl
  clear he
  refine W_rg fun K hK => (W_text [true, true, true, false] (by kernel_rfl) ?_); simp only [↓List.toList_toArray, ↓rgd, ↓rgf, ↓reduceIte, Nat.reduceEqDiff, rg, ow_108, e0, e1, e2]
  refine do_call fn_139 (by simp only [evt, evc, upd_eq, Nat.reduceEqDiff, ↓reduceIte, maT, maC, maN, isnN, isnS] <;> rfl) (descend_any B m d ord hd iso xs F q none f G S go C hm hB hSh true w hM hG hS (HOk.none _) hbig) ?_
  rintro _ w1 ⟨hS1, X1⟩
  refine ⟨trivial, ?_⟩
  simp only [↓List.toList_toArray, ↓rgd, ↓rgf, ↓reduceIte, Nat.reduceEqDiff, rg, ow_108]
  refine hK _ _ ?_; clear hK K
  exact endQ_0n ⟨hS1, X1⟩
set_option maxHeartbeats 400000 in
set_option maxRecDepth 8000 in
theorem M_DescendHint_s (B m d : Nat) (ord : List Int) (hd : 2 ≤ d) (iso : Int) (xs : List It) (F : Nat → Nat → Prop) (q : It) (hp : Option Nat) (w : World) (hM : TreeAt B ord w m d iso xs F) (hH : HOk hp w) (hbig : xs.length ≤ 4294967295) :
    Scans 104 (fun f => #[ptr m, itV q, f, hV hp]) hp B m ((xs.take (ub O (rkI ord) (rkI ord q) xs)).reverse) F w := by
  intro f G S go C hm hB hSh hG hS
  refine calls_of_W [] Try.func104 rfl Try.ntmps104 Try.results104 (by simp) fun e he => ?_
  have e0 : e 0 = ptr m := he 0 _ rfl
  have e1 : e 1 = itV q := he 1 _ rfl
  have e2 : e 2 = f := he 2 _ rfl
  have e3 : e 3 = hV hp := he 3 _ rfl
  clear he
  refine W_rg fun K hK => (W_text [true, true, true, true, false] (by kernel_rfl) ?_); simp only [↓List.toList_toArray, ↓rgd, ↓rgf, ↓reduceIte, Nat.reduceEqDiff, rg, ow_104, e0, e1, e2, e3]
  refine do_call fn_139 (by simp only [evt, evc, upd_eq, Nat.reduceEqDiff, ↓reduceIte, maT, maC, maN, isnN, isnS] <;> rfl) (descend_any B m d ord hd iso xs F q hp f G S go C hm hB hSh false w hM hG hS hH hbig) ?_
  rintro _ w1 ⟨hS1, X1⟩
  refine ⟨trivial, ?_⟩
  simp only [↓List.toList_toArray, ↓rgd, ↓rgf, ↓reduceIte, Nat.reduceEqDiff, rg, ow_104]
  refine hK _ _ ?_; clear hK K
  exact endQ_0n ⟨hS1, X1⟩
set_option maxHeartbeats 400000 in
set_option maxRecDepth 8000 in
theorem M_DescendHintMut_s (B m d : Nat) (ord : List Int) (hd : 2 ≤ d) (iso : Int) (xs : List It) (F : Nat → Nat → Prop) (q : It) (hp : Option Nat) (w : World) (hM : TreeAt B ord w m d iso xs F) (hH : HOk hp w) (hbig : xs.length ≤ 4294967295) :
    Scans 113 (fun f => #[ptr m, itV q, f, hV hp]) hp B m ((xs.take (ub O (rkI ord) (rkI ord q) xs)).reverse) F w := by
  intro f G S go C hm hB hSh hG hS
  refine calls_of_W [] Try.func113 rfl Try.ntmps113 Try.results113 (by simp) fun e he => ?_
  have e0 : e 0 = ptr m := he 0 _ rfl
  have e1 : e 1 = itV q := he 1 _ rfl
  have e2 : e 2 = f := he 2 _ rfl
  have e3 : e 3 = hV hp := he 3 _ rfl
  clear he
  refine W_rg fun K hK => (W_text [true, true, true, true, false] (by kernel_rfl) ?_); simp only [↓List.toList_toArray, ↓rgd, ↓rgf, ↓reduceIte, Nat.reduceEqDiff, rg, ow_113, e0, e1, e2, e3]
  refine do_call fn_139 (by simp only [evt, evc, upd_eq, Nat.reduceEqDiff, ↓reduceIte, maT, maC, maN, isnN, isnS] <;> rfl) (descend_any B m d ord hd iso xs F q hp f G S go C hm hB hSh true w hM hG hS hH hbig) ?_
  rintro _ w1 ⟨hS1, X1⟩
  refine ⟨trivial, ?_⟩
  simp only [↓List.toList_toArray, ↓rgd, ↓rgf, ↓reduceIte, Nat.reduceEqDiff, rg, ow_113]
  refine hK _ _ ?_; clear hK K
  exact endQ_0n ⟨hS1, X1⟩
set_option maxHeartbeats 400000 in
set_option maxRecDepth 8000 in
theorem T_Ascend_s (t : Nat) (B m d : Nat) (ord : List Int) (hd : 2 ≤ d) (iso : Int) (xs : List It) (F : Nat → Nat → Prop) (p : Option It) (w : World) (hM : TreeAt B ord w m d iso xs F) (hbig : xs.length ≤ 4294967295) (ht : BAt w t m) :
    Scans 64 (fun f => #[ptr t, itO p, f]) none B m (upO ord p xs) F w := by
  intro f G S go C hm hB hSh hG hS
  refine calls_of_W [] Try.func64 rfl Try.ntmps64 Try.results64 (by simp) fun e he => ?_
  have e0 : e 0 = ptr t := he 0 _ rfl
  have e1 : e 1 = itO p := he 1 _ rfl
  have e2 : e 2 = f := he 2 _ rfl
  clear he
  have ht : rd w t 0 = some (ptr m) := ht
  cases p with
  | none =>
    replace e1 : e 1 = zV := e1
    refine W_sq fun K hK => (W_text [true, true] (by kernel_rfl) ?_); simp only [↓List.toList_toArray, ↓rgd, ↓rgf, ↓reduceIte, Nat.reduceEqDiff, rg, ow_64, e1, eq_anyN]
    refine hK _ _ ?_; clear hK K
    refine W_true (by simp only [evt, evc, upd_eq, Nat.reduceEqDiff, ↓reduceIte, ntT, ntF] <;> rfl) ?_
    refine W_rg fun K hK => (W_text [true, true, true, true, true, false] (by kernel_rfl) ?_); simp only [↓List.toList_toArray, ↓rgd, ↓rgf, ↓reduceIte, Nat.reduceEqDiff, rg, ow_64, e0, e2, ptr_eq, ht]
    refine do_call fn_97 (by simp only [evt, evc, upd_eq, Nat.reduceEqDiff, ↓reduceIte, maT, maC, maN, isnN, isnS] <;> rfl) (M_Scan_s B m d ord hd iso xs F w hM hbig f G S go C hm (fun _ h => by cases h) (hSh_none C.2) hG hS) ?_
    rintro _ w1 ⟨hS1, X1⟩
    refine ⟨trivial, ?_⟩
    simp only [↓List.toList_toArray, ↓rgd, ↓rgf, ↓reduceIte, Nat.reduceEqDiff, rg, ow_64]
    refine hK _ _ ?_; clear hK K
    exact endQ_0n ⟨hS1, X1⟩
  | some q =>
    replace e1 : e 1 = itV q := e1
    refine W_sq fun K hK => (W_text [true, true] (by kernel_rfl) ?_); simp only [↓List.toList_toArray, ↓rgd, ↓rgf, ↓reduceIte, Nat.reduceEqDiff, rg, ow_64, e1, eq_any]
    refine hK _ _ ?_; clear hK K
    refine W_false (by simp only [evt, evc, upd_eq, Nat.reduceEqDiff, ↓reduceIte, ntT, ntF] <;> rfl) ?_
    refine W_rg fun K hK => (W_text [true, true, true, true, true, true, false] (by kernel_rfl) ?_); simp only [↓List.toList_toArray, ↓rgd, ↓rgf, ↓reduceIte, Nat.reduceEqDiff, rg, ow_64, e0, e1, e2, ptr_eq, ht]
    refine do_call fn_98 (by simp only [evt, evc, upd_eq, Nat.reduceEqDiff, ↓reduceIte, maT, maC, maN, isnN, isnS] <;> rfl) (M_Ascend_s B m d ord hd iso xs F q w hM hbig f G S go C hm hB hSh hG hS) ?_
    rintro _ w1 ⟨hS1, X1⟩
    refine ⟨trivial, ?_⟩
    simp only [↓List.toList_toArray, ↓rgd, ↓rgf, ↓reduceIte, Nat.reduceEqDiff, rg, ow_64]
    refine hK _ _ ?_; clear hK K
    exact endQ_0n ⟨hS1, X1⟩
set_option maxHeartbeats 400000 in
set_option maxRecDepth 8000 in
theorem T_AscendMut_s (t : Nat) (B m d : Nat) (ord : List Int) (hd : 2 ≤ d) (iso : Int) (xs : List It) (F : Nat → Nat → Prop) (p : Option It) (w : World) (hM : TreeAt B ord w m d iso xs F) (hbig : xs.length ≤ 4294967295) (ht : BAt w t m) :
    Scans 72 (fun f => #[ptr t, itO p, f]) none B m (upO ord p xs) F w := by
  intro f G S go C hm hB hSh hG hS
  refine calls_of_W [] Try.func72 rfl Try.ntmps72 Try.results72 (by simp) fun e he => ?_
  have e0 : e 0 = ptr t := he 0 _ rfl
  have e1 : e 1 = itO p := he 1 _ rfl
  have e2 : e 2 = f := he 2 _ rfl
  clear he
  have ht : rd w t 0 = some (ptr m) := ht
  cases p with
  | none =>
    replace e1 : e 1 = zV := e1
    refine W_sq fun K hK => (W_text [true, true] (by kernel_rfl) ?_); simp only [↓List.toList_toArray, ↓rgd, ↓rgf, ↓reduceIte, Nat.reduceEqDiff, rg, ow_72, e1, eq_anyN]
    refine hK _ _ ?_; clear hK K
    refine W_true (by simp only [evt, evc, upd_eq, Nat.reduceEqDiff, ↓reduceIte, ntT, ntF] <;> rfl) ?_
    refine W_rg fun K hK => (W_text [true, true, true, true, true, false] (by kernel_rfl) ?_); simp only [↓List.toList_toArray, ↓rgd, ↓rgf, ↓reduceIte, Nat.reduceEqDiff, rg, ow_72, e0, e2, ptr_eq, ht]
    refine do_call fn_105 (by simp only [evt, evc, upd_eq, Nat.reduceEqDiff, ↓reduceIte, maT, maC, maN, isnN, isnS] <;> rfl) (M_ScanMut_s B m d ord hd iso xs F w hM hbig f G S go C hm (fun _ h => by cases h) (hSh_none C.2) hG hS) ?_
    rintro _ w1 ⟨hS1, X1⟩
    refine ⟨trivial, ?_⟩
    simp only [↓List.toList_toArray, ↓rgd, ↓rgf, ↓reduceIte, Nat.reduceEqDiff, rg, ow_72]
    refine hK _ _ ?_; clear hK K
    exact endQ_0n ⟨hS1, X1⟩
  | some q =>
    replace e1 : e 1 = itV q := e1
    refine W_sq fun K hK => (W_text [true, true] (by kernel_rfl) ?_); simp only [↓List.toList_toArray, ↓rgd, ↓rgf, ↓reduceIte, Nat.reduceEqDiff, rg, ow_72, e1, eq_any]
    refine hK _ _ ?_; clear hK K
    refine W_false (by simp only [evt, evc, upd_eq, Nat.reduceEqDiff, ↓reduceIte, ntT, ntF] <;> rfl) ?_
    refine W_rg fun K hK => (W_text [true, true, true, true, true, true, false] (by kernel_rfl) ?_); simp only [↓List.toList_toArray, ↓rgd, ↓rgf, ↓reduceIte, Nat.reduceEqDiff, rg, ow_72, e0, e1, e2, ptr_eq, ht]
    refine do_call fn_106 (by simp only [evt, evc, upd_eq, Nat.reduceEqDiff, ↓reduceIte, maT, maC, maN, isnN, isnS] <;> rfl) (M_AscendMut_s B m d ord hd iso xs F q w hM hbig f G S go C hm hB hSh hG hS) ?_
    rintro _ w1 ⟨hS1, X1⟩
    refine ⟨trivial, ?_⟩
    simp only [↓List.toList_toArray, ↓rgd, ↓rgf, ↓reduceIte, Nat.reduceEqDiff, rg, ow_72]
    refine hK _ _ ?_; clear hK K
    exact endQ_0n ⟨hS1, X1⟩
set_option maxHeartbeats 400000 in
set_option maxRecDepth 8000 in
theorem T_AscendHint_s (t : Nat) (B m d : Nat) (ord : List Int) (hd : 2 ≤ d) (iso : Int) (xs : List It) (F : Nat → Nat → Prop) (p : Option It) (hp : Option Nat) (w : World) (hM : TreeAt B ord w m d iso xs F) (hH : HOk hp w) (hbig : xs.length ≤ 4294967295) (ht : BAt w t m) :
    Scans 70 (fun f => #[ptr t, itO p, f, hV hp]) hp B m (upO ord p xs) F w := by
  intro f G S go C hm hB hSh hG hS
  refine calls_of_W [] Try.func70 rfl Try.ntmps70 Try.results70 (by simp) fun e he => ?_
  have e0 : e 0 = ptr t := he 0 _ rfl
  have e1 : e 1 = itO p := he 1 _ rfl
  have e2 : e 2 = f := he 2 _ rfl
  have e3 : e 3 = hV hp := he 3 _ rfl
  clear he
  have ht : rd w t 0 = some (ptr m) := ht
  cases p with
  | none =>
    replace e1 : e 1 = zV := e1
    refine W_sq fun K hK => (W_text [true, true] (by kernel_rfl) ?_); simp only [↓List.toList_toArray, ↓rgd, ↓rgf, ↓reduceIte, Nat.reduceEqDiff, rg, ow_70, e1, eq_anyN]
    refine hK _ _ ?_; clear hK K
    refine W_true (by simp only [evt, evc, upd_eq, Nat.reduceEqDiff, ↓reduceIte, ntT, ntF] <;> rfl) ?_
    refine W_rg fun K hK => (W_text [true, true, true, true, true, false] (by kernel_rfl) ?_); simp only [↓List.toList_toArray, ↓rgd, ↓rgf, ↓reduceIte, Nat.reduceEqDiff, rg, ow_70, e0, e2, ptr_eq, ht]
    refine do_call fn_97 (by simp only [evt, evc, upd_eq, Nat.reduceEqDiff, ↓reduceIte, maT, maC, maN, isnN, isnS] <;> rfl) (M_Scan_s B m d ord hd iso xs F w hM hbig f G S go C hm (fun _ h => by cases h) (hSh_none C.2) hG hS) ?_
    rintro _ w1 ⟨hS1, X1⟩
    refine ⟨trivial, ?_⟩
    simp only [↓List.toList_toArray, ↓rgd, ↓rgf, ↓reduceIte, Nat.reduceEqDiff, rg, ow_70]
    refine hK _ _ ?_; clear hK K
    exact endQ_0n ⟨hS1, X1⟩
  | some q =>
    replace e1 : e 1 = itV q := e1
    refine W_sq fun K hK => (W_text [true, true] (by kernel_rfl) ?_); simp only [↓List.toList_toArray, ↓rgd, ↓rgf, ↓reduceIte, Nat.reduceEqDiff, rg, ow_70, e1, eq_any]
    refine hK _ _ ?_; clear hK K
    refine W_false (by simp only [evt, evc, upd_eq, Nat.reduceEqDiff, ↓reduceIte, ntT, ntF] <;> rfl) ?_
    refine W_rg fun K hK => (W_text [true, true, true, true, true, true, true, false] (by kernel_rfl) ?_); simp only [↓List.toList_toArray, ↓rgd, ↓rgf, ↓reduceIte, Nat.reduceEqDiff, rg, ow_70, e0, e1, e2, e3, ptr_eq, ht]
    refine do_call fn_103 (by simp only [evt, evc, upd_eq, Nat.reduceEqDiff, ↓reduceIte, maT, maC, maN, isnN, isnS] <;> rfl) (M_AscendHint_s B m d ord hd iso xs F q hp w hM hH hbig f G S go C hm hB hSh hG hS) ?_
    rintro _ w1 ⟨hS1, X1⟩
    refine ⟨trivial, ?_⟩
    simp only [↓List.toList_toArray, ↓rgd, ↓rgf, ↓reduceIte, Nat.reduceEqDiff, rg, ow_70]
    refine hK _ _ ?_; clear hK K
    exact endQ_0n ⟨hS1, X1⟩
set_option maxHeartbeats 400000 in
set_option maxRecDepth 8000 in
theorem T_Descend_s (t : Nat) (B m d : Nat) (ord : List Int) (hd : 2 ≤ d) (iso : Int) (xs : List It) (F : Nat → Nat → Prop) (p : Option It) (w : World) (hM : TreeAt B ord w m d iso xs F) (hbig : xs.length ≤ 4294967295) (ht : BAt w t m) :
    Scans 67 (fun f => #[ptr t, itO p, f]) none B m (downO ord p xs) F w := by
  intro f G S go C hm hB hSh hG hS
  refine calls_of_W [] Try.func67 rfl Try.ntmps67 Try.results67 (by simp) fun e he => ?_
  have e0 : e 0 = ptr t := he 0 _ rfl
  have e1 : e 1 = itO p := he 1 _ rfl
  have e2 : e 2 = f := he 2 _ rfl
  clear he
  have ht : rd w t 0 = some (ptr m) := ht
  cases p with
  | none =>
    replace e1 : e 1 = zV := e1
    refine W_sq fun K hK => (W_text [true, true] (by kernel_rfl) ?_); simp only [↓List.toList_toArray, ↓rgd, ↓rgf, ↓reduceIte, Nat.reduceEqDiff, rg, ow_67, e1, eq_anyN]
    refine hK _ _ ?_; clear hK K
    refine W_true (by simp only [evt, evc, upd_eq, Nat.reduceEqDiff, ↓reduceIte, ntT, ntF] <;> rfl) ?_
    refine W_rg fun K hK => (W_text [true, true, true, true, true, false] (by kernel_rfl) ?_); simp only [↓List.toList_toArray, ↓rgd, ↓rgf, ↓reduceIte, Nat.reduceEqDiff, rg, ow_67, e0, e2, ptr_eq, ht]
    refine do_call fn_101 (by simp only [evt, evc, upd_eq, Nat.reduceEqDiff, ↓reduceIte, maT, maC, maN, isnN, isnS] <;> rfl) (M_Reverse_s B m d ord hd iso xs F w hM hbig f G S go C hm (fun _ h => by cases h) (hSh_none C.2) hG hS) ?_
    rintro _ w1 ⟨hS1, X1⟩
    refine ⟨trivial, ?_⟩
    simp only [↓List.toList_toArray, ↓rgd, ↓rgf, ↓reduceIte, Nat.reduceEqDiff, rg, ow_67]
    refine hK _ _ ?_; clear hK K
    exact endQ_0n ⟨hS1, X1⟩
  | some q =>
    replace e1 : e 1 = itV q := e1
    refine W_sq fun K hK => (W_text [true, true] (by kernel_rfl) ?_); simp only [↓List.toList_toArray, ↓rgd, ↓rgf, ↓reduceIte, Nat.reduceEqDiff, rg, ow_67, e1, eq_any]
    refine hK _ _ ?_; clear hK K
    refine W_false (by simp only [evt, evc, upd_eq, Nat.reduceEqDiff, ↓reduceIte, ntT, ntF] <;> rfl) ?_
    refine W_rg fun K hK => (W_text [true, true, true, true, true, true, false] (by kernel_rfl) ?_); simp only [↓List.toList_toArray, ↓rgd, ↓rgf, ↓reduceIte, Nat.reduceEqDiff, rg, ow_67, e0, e1, e2, ptr_eq, ht]
    refine do_call fn_102 (by simp only [evt, evc, upd_eq, Nat.reduceEqDiff, ↓reduceIte, maT, maC, maN, isnN, isnS] <;> rfl) (M_Descend_s B m d ord hd iso xs F q w hM hbig f G S go C hm hB hSh hG hS) ?_
    rintro _ w1 ⟨hS1, X1⟩
    refine ⟨trivial, ?_⟩
    simp only [↓List.toList_toArray, ↓rgd, ↓rgf, ↓reduceIte, Nat.reduceEqDiff, rg, ow_67]
    refine hK _ _ ?_; clear hK K
    exact endQ_0n ⟨hS1, X1⟩
set_option maxHeartbeats 400000 in
set_option maxRecDepth 8000 in
theorem T_DescendMut_s (t : Nat) (B m d : Nat) (ord : List Int) (hd : 2 ≤ d) (iso : Int) (xs : List It) (F : Nat → Nat → Prop) (p : Option It) (w : World) (hM : TreeAt B ord w m d iso xs F) (hbig : xs.length ≤ 4294967295) (ht : BAt w t m) :
    Scans 73 (fun f => #[ptr t, itO p, f]) none B m (downO ord p xs) F w := by
  intro f G S go C hm hB hSh hG hS
  refine calls_of_W [] Try.func73 rfl Try.ntmps73 Try.results73 (by simp) fun e he => ?_
  have e0 : e 0 = ptr t := he 0 _ rfl
  have e1 : e 1 = itO p := he 1 _ rfl
  have e2 : e 2 = f := he 2 _ rfl
  clear he
  have ht : rd w t 0 = some (ptr m) := ht
  cases p with
  | none =>
    replace e1 : e 1 = zV := e1
    refine W_sq fun K hK => (W_text [true, true] (by kernel_rfl) ?_); simp only [↓List.toList_toArray, ↓rgd, ↓rgf, ↓reduceIte, Nat.reduceEqDiff, rg, ow_73, e1, eq_anyN]
    refine hK _ _ ?_; clear hK K
    refine W_true (by simp only [evt, evc, upd_eq, Nat.reduceEqDiff, ↓reduceIte, ntT, ntF] <;> rfl) ?_
    refine W_rg fun K hK => (W_text [true, true, true, true, true, false] (by kernel_rfl) ?_); simp only [↓List.toList_toArray, ↓rgd, ↓rgf, ↓reduceIte, Nat.reduceEqDiff, rg, ow_73, e0, e2, ptr_eq, ht]
    refine do_call fn_107 (by simp only [evt, evc, upd_eq, Nat.reduceEqDiff, ↓reduceIte, maT, maC, maN, isnN, isnS] <;> rfl) (M_ReverseMut_s B m d ord hd iso xs F w hM hbig f G S go C hm (fun _ h => by cases h) (hSh_none C.2) hG hS) ?_
    rintro _ w1 ⟨hS1, X1⟩
    refine ⟨trivial, ?_⟩
    simp only [↓List.toList_toArray, ↓rgd, ↓rgf, ↓reduceIte, Nat.reduceEqDiff, rg, ow_73]
    refine hK _ _ ?_; clear hK K
    exact endQ_0n ⟨hS1, X1⟩
  | some q =>
    replace e1 : e 1 = itV q := e1
    refine W_sq fun K hK => (W_text [true, true] (by kernel_rfl) ?_); simp only [↓List.toList_toArray, ↓rgd, ↓rgf, ↓reduceIte, Nat.reduceEqDiff, rg, ow_73, e1, eq_any]
    refine hK _ _ ?_; clear hK K
    refine W_false (by simp only [evt, evc, upd_eq, Nat.reduceEqDiff, ↓reduceIte, ntT, ntF] <;> rfl) ?_
    refine W_rg fun K hK => (W_text [true, true, true, true, true, true, false] (by kernel_rfl) ?_); simp only [↓List.toList_toArray, ↓rgd, ↓rgf, ↓reduceIte, Nat.reduceEqDiff, rg, ow_73, e0, e1, e2, ptr_eq, ht]
    refine do_call fn_108 (by simp only [evt, evc, upd_eq, Nat.reduceEqDiff, ↓reduceIte, maT, maC, maN, isnN, isnS] <;> rfl) (M_DescendMut_s B m d ord hd iso xs F q w hM hbig f G S go C hm hB hSh hG hS) ?_
    rintro _ w1 ⟨hS1, X1⟩
    refine ⟨trivial, ?_⟩
    simp only [↓List.toList_toArray, ↓rgd, ↓rgf, ↓reduceIte, Nat.reduceEqDiff, rg, ow_73]
    refine hK _ _ ?_; clear hK K
    exact endQ_0n ⟨hS1, X1⟩
set_option maxHeartbeats 400000 in
set_option maxRecDepth 8000 in
theorem T_DescendHint_s (t : Nat) (B m d : Nat) (ord : List Int) (hd : 2 ≤ d) (iso : Int) (xs : List It) (F : Nat → Nat → Prop) (p : Option It) (hp : Option Nat) (w : World) (hM : TreeAt B ord w m d iso xs F) (hH : HOk hp w) (hbig : xs.length ≤ 4294967295) (ht : BAt w t m) :
    Scans 71 (fun f => #[ptr t, itO p, f, hV hp]) hp B m (downO ord p xs) F w := by
  intro f G S go C hm hB hSh hG hS
  refine calls_of_W [] Try.func71 rfl Try.ntmps71 Try.results71 (by simp) fun e he => ?_
  have e0 : e 0 = ptr t := he 0 _ rfl
  have e1 : e 1 = itO p := he 1 _ rfl
  have e2 : e 2 = f := he 2 _ rfl
  have e3 : e 3 = hV hp := he 3 _ rfl
  clear he
  have ht : rd w t 0 = some (ptr m) := ht
  cases p with
  | none =>
    replace e1 : e 1 = zV := e1
    refine W_sq fun K hK => (W_text [true, true] (by kernel_rfl) ?_); simp only [↓List.toList_toArray, ↓rgd, ↓rgf, ↓reduceIte, Nat.reduceEqDiff, rg, ow_71, e1, eq_anyN]
    refine hK _ _ ?_; clear hK K
    refine W_true (by simp only [evt, evc, upd_eq, Nat.reduceEqDiff, ↓reduceIte, ntT, ntF] <;> rfl) ?_
    refine W_rg fun K hK => (W_text [true, true, true, true, true, false] (by kernel_rfl) ?_); simp only [↓List.toList_toArray, ↓rgd, ↓rgf, ↓reduceIte, Nat.reduceEqDiff, rg, ow_71, e0, e2, ptr_eq, ht]
    refine do_call fn_101 (by simp only [evt, evc, upd_eq, Nat.reduceEqDiff, ↓reduceIte, maT, maC, maN, isnN, isnS] <;> rfl) (M_Reverse_s B m d ord hd iso xs F w hM hbig f G S go C hm (fun _ h => by cases h) (hSh_none C.2) hG hS) ?_
    rintro _ w1 ⟨hS1, X1⟩
    refine ⟨trivial, ?_⟩
    simp only [↓List.toList_toArray, ↓rgd, ↓rgf, ↓reduceIte, Nat.reduceEqDiff, rg, ow_71]
    refine hK _ _ ?_; clear hK K
    exact endQ_0n ⟨hS1, X1⟩
  | some q =>
    replace e1 : e 1 = itV q := e1
    refine W_sq fun K hK => (W_text [true, true] (by kernel_rfl) ?_); simp only [↓List.toList_toArray, ↓rgd, ↓rgf, ↓reduceIte, Nat.reduceEqDiff, rg, ow_71, e1, eq_any]
    refine hK _ _ ?_; clear hK K
    refine W_false (by simp only [evt, evc, upd_eq, Nat.reduceEqDiff, ↓reduceIte, ntT, ntF] <;> rfl) ?_
    refine W_rg fun K hK => (W_text [true, true, true, true, true, true, true, false] (by kernel_rfl) ?_); simp only [↓List.toList_toArray, ↓rgd, ↓rgf, ↓reduceIte, Nat.reduceEqDiff, rg, ow_71, e0, e1, e2, e3, ptr_eq, ht]
    refine do_call fn_104 (by simp only [evt, evc, upd_eq, Nat.reduceEqDiff, ↓reduceIte, maT, maC, maN, isnN, isnS] <;> rfl) (M_DescendHint_s B m d ord hd iso xs F q hp w hM hH hbig f G S go C hm hB hSh hG hS) ?_
    rintro _ w1 ⟨hS1, X1⟩
    refine ⟨trivial, ?_⟩
    simp only [↓List.toList_toArray, ↓rgd, ↓rgf, ↓reduceIte, Nat.reduceEqDiff, rg, ow_71]
    refine hK _ _ ?_; clear hK K
    exact endQ_0n ⟨hS1, X1⟩
set_option maxHeartbeats 400000 in
set_option maxRecDepth 8000 in
theorem T_DescendHintMut_s (t : Nat) (B m d : Nat) (ord : List Int) (hd : 2 ≤ d) (iso : Int) (xs : List It) (F : Nat → Nat → Prop) (p : Option It) (hp : Option Nat) (w : World) (hM : TreeAt B ord w m d iso xs F) (hH : HOk hp w) (hbig : xs.length ≤ 4294967295) (ht : BAt w t m) :
    Scans 82 (fun f => #[ptr t, itO p, f, hV hp]) hp B m (downO ord p xs) F w := by
  intro f G S go C hm hB hSh hG hS
  refine calls_of_W [] Try.func82 rfl Try.ntmps82 Try.results82 (by simp) fun e he => ?_
  have e0 : e 0 = ptr t := he 0 _ rfl
  have e1 : e 1 = itO p := he 1 _ rfl
  have e2 : e 2 = f := he 2 _ rfl
  have e3 : e 3 = hV hp := he 3 _ rfl
  clear he
  have ht : rd w t 0 = some (ptr m) := ht
  cases p with
  | none =>
    replace e1 : e 1 = zV := e1
    refine W_sq fun K hK => (W_text [true, true] (by kernel_rfl) ?_); simp only [↓List.toList_toArray, ↓rgd, ↓rgf, ↓reduceIte, Nat.reduceEqDiff, rg, ow_82, e1, eq_anyN]
    refine hK _ _ ?_; clear hK K
    refine W_true (by simp only [evt, evc, upd_eq, Nat.reduceEqDiff, ↓reduceIte, ntT, ntF] <;> rfl) ?_
    refine W_rg fun K hK => (W_text [true, true, true, true, true, false] (by kernel_rfl) ?_); simp only [↓List.toList_toArray, ↓rgd, ↓rgf, ↓reduceIte, Nat.reduceEqDiff, rg, ow_82, e0, e2, ptr_eq, ht]
    refine do_call fn_107 (by simp only [evt, evc, upd_eq, Nat.reduceEqDiff, ↓reduceIte, maT, maC, maN, isnN, isnS] <;> rfl) (M_ReverseMut_s B m d ord hd iso xs F w hM hbig f G S go C hm (fun _ h => by cases h) (hSh_none C.2) hG hS) ?_
    rintro _ w1 ⟨hS1, X1⟩
    refine ⟨trivial, ?_⟩
    simp only [↓List.toList_toArray, ↓rgd, ↓rgf, ↓reduceIte, Nat.reduceEqDiff, rg, ow_82]
    refine hK _ _ ?_; clear hK K
    exact endQ_0n ⟨hS1, X1⟩
  | some q =>
    replace e1 : e 1 = itV q := e1
    refine W_sq fun K hK => (W_text [true, true] (by kernel_rfl) ?_); simp only [↓List.toList_toArray, ↓rgd, ↓rgf, ↓reduceIte, Nat.reduceEqDiff, rg, ow_82, e1, eq_any]
    refine hK _ _ ?_; clear hK K
    refine W_false (by simp only [evt, evc, upd_eq, Nat.reduceEqDiff, ↓reduceIte, ntT, ntF] <;> rfl) ?_
    refine W_rg fun K hK => (W_text [true, true, true, true, true, true, true, false] (by kernel_rfl) ?_); simp only [↓List.toList_toArray, ↓rgd, ↓rgf, ↓reduceIte, Nat.reduceEqDiff, rg, ow_82, e0, e1, e2, e3, ptr_eq, ht]
    refine do_call fn_113 (by simp only [evt, evc, upd_eq, Nat.reduceEqDiff, ↓reduceIte, maT, maC, maN, isnN, isnS] <;> rfl) (M_DescendHintMut_s B m d ord hd iso xs F q hp w hM hH hbig f G S go C hm hB hSh hG hS) ?_
    rintro _ w1 ⟨hS1, X1⟩
    refine ⟨trivial, ?_⟩
    simp only [↓List.toList_toArray, ↓rgd, ↓rgf, ↓reduceIte, Nat.reduceEqDiff, rg, ow_82]
    refine hK _ _ ?_; clear hK K
    exact endQ_0n ⟨hS1, X1⟩
end Go.Proofs.Ytanmjbkbdmeckaa
/-
  The greatest item of a tree of whatever values. No condition.
-/
set_option linter.unusedSimpArgs false
set_option linter.unusedVariables false
namespace Go.Proofs.Ytanmjbkbdmeckaa
open Go Go.Proofs
theorem weave_getLast {cs : List (List It)} {ks : List It} {c : List It} (hl : cs.length = ks.length + 1) (hc : cs[ks.length]? = some c) (hne : 0 < c.length) : (weave cs ks).getLast? = c.getLast? := by
  have key : ∀ (n : Nat) (cs : List (List It)) (ks : List It), ks.length = n → cs.length = ks.length + 1 → cs[ks.length]? = some c → ∃ A, weave cs ks = A ++ c := by
    intro n
    induction n with
    | zero =>
      intro cs ks h0 hl hc
      obtain rfl : ks = [] := List.eq_nil_of_length_eq_zero h0
      match cs, hl with
      | [d], _ => simp at hc; subst hc; exact ⟨[], rfl⟩
    | succ n ih =>
      intro cs ks h0 hl hc
      match cs, ks, hl with
      | d :: cs, k :: ks, hl =>
        obtain ⟨A, hA⟩ := ih cs ks (by simpa using h0) (by simpa using hl) (by simpa using hc)
        exact ⟨d ++ k :: A, by rw [weave_cons, hA]; simp⟩
  obtain ⟨A, hA⟩ := key _ cs ks rfl hl hc
  rw [hA, List.getLast?_append]
  cases c with
  | nil => simp at hne
  | cons x c => simp [List.getLast?_cons]
set_option maxHeartbeats 800000 in
set_option maxRecDepth 8000 in
theorem maxMut_any (B m d : Nat) (iso : Int) (ord : List Int) (xs : List It) (hd : 2 ≤ d) (hd' : d ≤ 128) (F : Nat → Nat → Prop) (mu : Bool) (w : World) (hM : TreeAt B ord w m d iso xs F) :
    CallK Try.prog 141 #[ptr m, .bool mu] w fun v w' => v = .tuple #[itO xs.getLast?, .bool xs.getLast?.isSome] ∧ Ext noF w w' := by
  refine calls_of_W [.tmp 4, .tmp 5] Try.func141 rfl Try.ntmps141 Try.results141 (by simp) fun e he => ?_
  have e0 : e 0 = ptr m := he 0 _ rfl
  have e1 : e 1 = .bool mu := he 1 _ rfl
  clear he
  refine W_sq fun K hK => (W_text [true, true] (by kernel_rfl) ?_); simp only [↓List.toList_toArray, ↓rgd, ↓rgf, ↓reduceIte, Nat.reduceEqDiff, rg, ow_141]
  refine hK _ _ ?_; clear hK K
  refine W_seq ?_
  refine W_sq fun K hK => (W_text [true, true, false] (by kernel_rfl) ?_); simp only [↓List.toList_toArray, ↓rgd, ↓rgf, ↓reduceIte, Nat.reduceEqDiff, rg, ow_141, e0, e1]
  refine do_call fn_118 (by simp only [evt, evc, upd_eq, Nat.reduceEqDiff, ↓reduceIte, maT, maC, maN, isnN, isnS] <;> rfl) (lock_any _ _ w) ?_
  rintro _ w1 ⟨rfl, hw1⟩
  obtain rfl : w = w1 := hw1
  refine ⟨trivial, ?_⟩
  simp only [↓List.toList_toArray, ↓rgd, ↓rgf, ↓reduceIte, Nat.reduceEqDiff, rg, ow_141]
  refine hK _ _ ?_; clear hK K
  refine W_false (by simp only [evt, evc, upd_eq, Nat.reduceEqDiff, ↓reduceIte, ntT, ntF] <;> rfl) (W_skip ?_)
  show W _ _ _ _ _ _
  refine W_seq ?_
  rcases hM.root with ⟨rfl, hr⟩ | ⟨h, b, hr, ht⟩
  · have hz := zIt_at hM.cfg
    refine W_sq fun K hK => (W_text [true, true, true, true, true] (by kernel_rfl) ?_); simp only [↓List.toList_toArray, ↓rgd, ↓rgf, ↓reduceIte, Nat.reduceEqDiff, rg, ow_141, e0, ptr_eq, hr]
    refine hK _ _ ?_; clear hK K
    refine W_true (by simp only [evt, evc, upd_eq, Nat.reduceEqDiff, ↓reduceIte, ntT, ntF] <;> rfl) ?_
    refine W_sq fun K hK => (W_text [true, true, true, true, true, true] (by kernel_rfl) ?_); simp only [↓List.toList_toArray, ↓rgd, ↓rgf, ↓reduceIte, Nat.reduceEqDiff, rg, ow_141, e0, ptr_eq, hz]
    refine hK _ _ ?_; clear hK K
    refine W_ret ?_
    simp only [andThen_ret]
    exact endQ_2 (by simp only [upd_eq, Nat.reduceEqDiff, ↓reduceIte] <;> rfl) (by simp only [upd_eq, Nat.reduceEqDiff, ↓reduceIte] <;> rfl) ⟨rfl, Ext.refl _ _⟩
  · refine W_sq fun K hK => (W_text [true, true, true, true, true] (by kernel_rfl) ?_); simp only [↓List.toList_toArray, ↓rgd, ↓rgf, ↓reduceIte, Nat.reduceEqDiff, rg, ow_141, e0, ptr_eq, hr]
    refine hK _ _ ?_; clear hK K
    refine W_false (by simp only [evt, evc, upd_eq, Nat.reduceEqDiff, ↓reduceIte, ntT, ntF] <;> rfl) (W_skip ?_)
    show W _ _ _ _ _ _
    refine W_sq fun K hK => (W_text [true, true, true, true, true, false, true] (by kernel_rfl) ?_); simp only [↓List.toList_toArray, ↓rgd, ↓rgf, ↓reduceIte, Nat.reduceEqDiff, rg, ow_141, e0, e1, ptr_eq]
    refine do_call fn_121 (by simp only [evt, evc, upd_eq, Nat.reduceEqDiff, ↓reduceIte, maT, maC, maN, isnN, isnS] <;> rfl) (isoLoad_any m m 2 b mu iso w hM.cfg.iso hr ht.iso0.1) ?_
    rintro _ w1 ⟨rfl, r1⟩
    refine ⟨trivial, ?_⟩
    simp only [↓List.toList_toArray, ↓rgd, ↓rgf, ↓reduceIte, Nat.reduceEqDiff, rg, ow_141]
    refine hK _ _ ?_; clear hK K
    refine W_block (W_loop (fun mm e w' => ∃ (lo b : Nat) (ys : List It) (F : Nat → Nat → Prop), Tr E iso (d - 1) (2 * d - 1) mm w' lo b ys F ∧ 1 ≤ lo ∧ ys.getLast? = xs.getLast? ∧ Ext noF w w' ∧ e 0 = ptr m ∧ e 1 = .bool mu ∧ e 6 = ptr b)
      h ⟨1, b, xs, F, ht.ext r1.ext (fun _ _ _ h => h), Nat.le_refl _, rfl, r1.ext, by simp only [upd_eq, Nat.reduceEqDiff, ↓reduceIte]; exact e0, by simp only [upd_eq, Nat.reduceEqDiff, ↓reduceIte]; exact e1, by simp only [upd_eq, Nat.reduceEqDiff, ↓reduceIte]⟩ ?_)
    clear e0 e1 e hr ht r1
    rintro mm e w' ⟨lo, b, ys, F', ht, hlo, hl, X, e0, e1, e6⟩
    have hi0 := X.rd hM.cfg.iso (fun h => h)
    refine W_block (W_seq ?_)
    obtain ⟨bi, oi, cap, ks, ch, ho, h1, h2, _, ⟨rfl, rfl, rfl, hF⟩ | ⟨h', bc, ba, oa, capc, cs, rfl, rfl, n⟩⟩ := ht.open
    · refine W_sq fun K hK => (W_text [true, false] (by kernel_rfl) ?_); simp only [↓List.toList_toArray, ↓rgd, ↓rgf, ↓reduceIte, Nat.reduceEqDiff, rg, ow_141, e6]
      refine do_call fn_122 (by simp only [evt, evc, upd_eq, Nat.reduceEqDiff, ↓reduceIte, maT, maC, maN, isnN, isnS] <;> rfl) (leaf_any b none w' ho.h3) ?_
      rintro _ w' ⟨rfl, rfl⟩
      refine ⟨trivial, ?_⟩
      simp only [↓List.toList_toArray, ↓rgd, ↓rgf, ↓reduceIte, Nat.reduceEqDiff, rg, ow_141]
      refine hK _ _ ?_; clear hK K
      refine W_true (by simp only [evt, evc, upd_eq, Nat.reduceEqDiff, ↓reduceIte, ntT, ntF] <;> rfl) ?_
      obtain ⟨x, hx⟩ : ∃ x, ys[ys.length - 1]? = some x := ⟨_, List.getElem?_eq_getElem (by omega)⟩
      have hk := it_at ho.row hx
      have q := wsub1 ys.length (by omega) (by omega)
      have hi : ys.length - 1 < ys.length := by omega
      refine W_sq fun K hK => (W_draw (some none) none [(0, 0, 0), (0, 1, 0), (0, 2, 0), (0, 3, 0), (0, 4, 0), (0, 5, 0), (0, 6, 0), (0, 7, 0), (0, 8, 0), (0, 9, 0), (0, 10, 0), (0, 11, 0), (0, 12, 0), (0, 13, 0)] mixed (by kernel_rfl) ?_); simp only [↓List.toList_toArray, ↓rgd, ↓rgf, ↓reduceIte, Nat.reduceEqDiff, rg, ow_141, e6, ptr_eq, ho.h2, q, hi, hk]
      refine hK _ _ ?_; clear hK K
      refine W_ret ?_
      simp only [andThen_ret, inBlk_ret]
      have hlast : xs.getLast? = some x := by rw [← hl, List.getLast?_eq_getElem?]; exact hx
      exact endQ_2 (by simp only [upd_eq, Nat.reduceEqDiff, ↓reduceIte] <;> rfl) (by simp only [upd_eq, Nat.reduceEqDiff, ↓reduceIte] <;> rfl) ⟨by rw [hlast]; rfl, X.tr (Ext.dr _ _ _)⟩
    · have hcl := n.len
      obtain ⟨c, hc⟩ : ∃ c, cs[ks.length]? = some c := ⟨_, List.getElem?_eq_getElem (by omega)⟩
      have hcm := List.mem_of_getElem? hc
      refine W_sq fun K hK => (W_text [true, false] (by kernel_rfl) ?_); simp only [↓List.toList_toArray, ↓rgd, ↓rgf, ↓reduceIte, Nat.reduceEqDiff, rg, ow_141, e6]
      refine do_call fn_122 (by simp only [evt, evc, upd_eq, Nat.reduceEqDiff, ↓reduceIte, maT, maC, maN, isnN, isnS] <;> rfl) (leaf_any b (some ⟨bc, 0, none⟩) w' ho.h3) ?_
      rintro _ w' ⟨rfl, rfl⟩
      refine ⟨trivial, ?_⟩
      simp only [↓List.toList_toArray, ↓rgd, ↓rgf, ↓reduceIte, Nat.reduceEqDiff, rg, ow_141]
      refine hK _ _ ?_; clear hK K
      refine W_false (by simp only [evt, evc, upd_eq, Nat.reduceEqDiff, ↓reduceIte, ntT, ntF] <;> rfl) (W_skip ?_)
      show W _ _ _ _ _ _
      have hc0 := n.kids.c0
      rw [List.length_map] at hc0
      have hcr : rd w' ba (oa + (cs.length - 1)) = some (ptr c.b) := ptr_at n.kids.row (by rw [List.getElem?_map, show cs.length - 1 = ks.length by omega, hc]; rfl)
      have q2 := wsub1 cs.length (by omega) (by omega)
      have hlc : cs.length - 1 < cs.length := by omega
      refine W_rg fun K hK => (W_draw (some none) none [(0, 0, 0), (0, 1, 0), (0, 2, 0), (0, 3, 0), (0, 4, 0), (0, 5, 0), (0, 6, 0), (0, 7, 0), (0, 8, 0), (0, 9, 0), (0, 10, 0), (0, 11, 0), (0, 12, 0), (0, 13, 0), (0, 14, 0), (0, 15, 0), (0, 16, 0), (1, 17, 0), (0, 18, 0)] mixed (by kernel_rfl) ?_); simp only [↓List.toList_toArray, ↓rgd, ↓rgf, ↓reduceIte, Nat.reduceEqDiff, rg, ow_141, e0, e1, e6, ptr_eq, ho.h3, hc0, q2, hlc]
      refine do_call fn_121 (by simp only [evt, evc, upd_eq, Nat.reduceEqDiff, ↓reduceIte, maT, maC, maN, isnN, isnS] <;> rfl) (isoLoad_any m ba (oa + (cs.length - 1)) c.b mu iso _ hi0 hcr (n.sub c hcm).iso0.1) ?_
      rintro _ w2 ⟨rfl, r2⟩
      refine ⟨.inr (keeps_ro r2), ?_⟩
      simp only [↓List.toList_toArray, ↓rgd, ↓rgf, ↓reduceIte, Nat.reduceEqDiff, rg, ow_141]
      refine hK _ _ ?_; clear hK K
      have R : RO w' w2 := (RO.dr _ _).tr r2
      refine ⟨h', by omega, d - 1, c.b, c.xs, c.F, (n.sub c hcm).ext R.ext (fun _ _ _ h => h), by omega, ?_, X.tr R.ext, by simp only [upd_eq, Nat.reduceEqDiff, ↓reduceIte]; exact e0, by simp only [upd_eq, Nat.reduceEqDiff, ↓reduceIte]; exact e1, by simp only [upd_eq, Nat.reduceEqDiff, ↓reduceIte]⟩
      rw [← hl, n.eq]
      exact (weave_getLast (by simpa using hcl) (by rw [List.getElem?_map, hc]; rfl) ((n.sub c hcm).pos (by omega))).symm
set_option maxHeartbeats 800000 in
set_option maxRecDepth 8000 in
theorem maxG_any (B m d : Nat) (iso : Int) (ord : List Int) (xs : List It) (hd : 2 ≤ d) (hd' : d ≤ 128) (F : Nat → Nat → Prop) (w : World) (hM : TreeAt B ord w m d iso xs F) :
    CallK Try.prog 111 #[ptr m] w fun v w' => v = .tuple #[itO xs.getLast?, .bool xs.getLast?.isSome] ∧ Ext noF w w' := by
  refine calls_of_W [.tmp 2, .tmp 3] Try.func111 rfl Try.ntmps111 Try.results111 (by simp) fun e he => ?_
  have e0 : e 0 = ptr m := he 0 _ rfl
  clear he
  refine W_sq fun K hK => (W_text [true, true] (by kernel_rfl) ?_); simp only [↓List.toList_toArray, ↓rgd, ↓rgf, ↓reduceIte, Nat.reduceEqDiff, rg, ow_111]
  refine hK _ _ ?_; clear hK K
  refine W_sq fun K hK => (W_text [true, false, true, true, true, true] (by kernel_rfl) ?_); simp only [↓List.toList_toArray, ↓rgd, ↓rgf, ↓reduceIte, Nat.reduceEqDiff, rg, ow_111, e0]
  refine do_call fn_141 (by simp only [evt, evc, upd_eq, Nat.reduceEqDiff, ↓reduceIte, maT, maC, maN, isnN, isnS] <;> rfl) (maxMut_any B m d iso ord xs hd hd' F false w hM) ?_
  rintro _ w1 ⟨rfl, X1⟩
  refine ⟨trivial, ?_⟩
  simp only [↓List.toList_toArray, ↓rgd, ↓rgf, ↓reduceIte, Nat.reduceEqDiff, rg, ow_111]
  refine hK _ _ ?_; clear hK K
  exact W_ret (endQ_2 (by simp only [upd_eq, Nat.reduceEqDiff, ↓reduceIte] <;> rfl) (by simp only [upd_eq, Nat.reduceEqDiff, ↓reduceIte] <;> rfl) ⟨rfl, X1⟩)
end Go.Proofs.Ytanmjbkbdmeckaa
/-
  The greatest item of a tree of whatever values, wrapped. No condition.
-/
set_option linter.unusedSimpArgs false
set_option linter.unusedVariables false
namespace Go.Proofs.Ytanmjbkbdmeckaa
open Go Go.Proofs
set_option maxHeartbeats 800000 in
set_option maxRecDepth 8000 in
theorem maxT_any (t B m d : Nat) (iso : Int) (ord : List Int) (xs : List It) (hd : 2 ≤ d) (hd' : d ≤ 128) (F : Nat → Nat → Prop) (w : World) (ht : BAt w t m) (hM : TreeAt B ord w m d iso xs F) :
    CallK Try.prog 76 #[ptr t] w fun v w' => v = itO xs.getLast? ∧ Ext noF w w' := by
  refine calls_of_W [.tmp 2] Try.func76 rfl Try.ntmps76 Try.results76 (by simp) fun e he => ?_
  have e0 : e 0 = ptr t := he 0 _ rfl
  clear he
  refine W_sq fun K hK => (W_text [true] (by kernel_rfl) ?_); simp only [↓List.toList_toArray, ↓rgd, ↓rgf, ↓reduceIte, Nat.reduceEqDiff, rg, ow_76]
  refine hK _ _ ?_; clear hK K
  refine W_sq fun K hK => (W_text [true, true, true, true, false, true, true, true, true, true] (by kernel_rfl) ?_); simp only [↓List.toList_toArray, ↓rgd, ↓rgf, ↓reduceIte, Nat.reduceEqDiff, rg, ow_76, e0, ptr_eq, show rd w t 0 = some (ptr m) from ht]
  refine do_call fn_111 (by simp only [evt, evc, upd_eq, Nat.reduceEqDiff, ↓reduceIte, maT, maC, maN, isnN, isnS] <;> rfl) (maxG_any B m d iso ord xs hd hd' F w hM) ?_
  rintro _ w1 ⟨rfl, h1⟩
  refine ⟨trivial, ?_⟩
  simp only [↓List.toList_toArray, ↓rgd, ↓rgf, ↓reduceIte, Nat.reduceEqDiff, rg, ow_76]
  refine hK _ _ ?_; clear hK K
  refine W_seq ?_
  cases hh : xs.getLast?.isSome with
  | true =>
    refine W_sq fun K hK => (W_text [true, true] (by kernel_rfl) ?_); simp only [↓List.toList_toArray, ↓rgd, ↓rgf, ↓reduceIte, Nat.reduceEqDiff, rg, ow_76, hh]
    refine hK _ _ ?_; clear hK K
    refine W_false (by simp only [evt, evc, upd_eq, Nat.reduceEqDiff, ↓reduceIte, ntT, ntF] <;> rfl) (W_skip ?_)
    show W _ _ _ _ _ _
    refine W_sq fun K hK => (W_text [true, true] (by kernel_rfl) ?_); simp only [↓List.toList_toArray, ↓rgd, ↓rgf, ↓reduceIte, Nat.reduceEqDiff, rg, ow_76]
    refine hK _ _ ?_; clear hK K
    exact W_ret (endQ_1 (by simp only [upd_eq, Nat.reduceEqDiff, ↓reduceIte] <;> rfl) ⟨rfl, h1⟩)
  | false =>
    refine W_sq fun K hK => (W_text [true, true] (by kernel_rfl) ?_); simp only [↓List.toList_toArray, ↓rgd, ↓rgf, ↓reduceIte, Nat.reduceEqDiff, rg, ow_76, hh]
    refine hK _ _ ?_; clear hK K
    refine W_true (by simp only [evt, evc, upd_eq, Nat.reduceEqDiff, ↓reduceIte, ntT, ntF] <;> rfl) ?_
    refine W_sq fun K hK => (W_text [true] (by kernel_rfl) ?_); simp only [↓List.toList_toArray, ↓rgd, ↓rgf, ↓reduceIte, Nat.reduceEqDiff, rg, ow_76]
    refine hK _ _ ?_; clear hK K
    refine W_ret ?_
    simp only [andThen_ret]
    exact endQ_1 (by simp only [upd_eq, Nat.reduceEqDiff, ↓reduceIte] <;> rfl) ⟨(itO_none hh).symm, h1⟩
end Go.Proofs.Ytanmjbkbdmeckaa
/-
  Replies: whatever value was found, as an item and whether there was one. No condition.
-/
set_option linter.unusedSimpArgs false
set_option linter.unusedVariables false
namespace Go.Proofs.Ytanmjbkbdmeckaa
open Go Go.Proofs
def foO (x : Option It) : It × Bool := (x.getD (0, 0), x.isSome)
theorem bu_fo (x : It) : buildV Try.prog 43 [(0, iV x), (1, .bool true)] = some (foV (x, true)) := by kernel_rfl
theorem bu_fo0 : buildV Try.prog 43 [] = some (foV ((0, 0), false)) := by kernel_rfl
theorem oc_fo (x : It × Bool) : oc (foV x).cells.toList := Ef.one x
theorem z_fo : zK Try.prog 43 = some [.int .i64 0, .int .i64 0, .bool false] := by kernel_rfl
theorem ld_fo {w : World} {b : Nat} {x : It × Bool} (h : Row w b 0 (Ef.cel x)) : loadV w ⟨b, 0, none⟩ (some 3) = some (foV x) := h.rdA 3 (by simp [Ef])
set_option maxHeartbeats 800000 in
set_option maxRecDepth 8000 in
theorem found_any (x : Option It) (w : World) : CallK Try.prog 54 #[itO x] w fun v w' => v = foV (foO x) ∧ Ext noF w w' := by
  refine calls_of_W [.cell 2 43] Try.func54 rfl Try.ntmps54 Try.results54 (by simp) fun e he => ?_
  have e0 : e 0 = itO x := he 0 _ rfl
  clear he
  refine W_sq fun K hK => (W_text [false] (by kernel_rfl) ?_); simp only [↓List.toList_toArray, ↓rgd, ↓rgf, ↓reduceIte, Nat.reduceEqDiff, rg, ow_54]
  refine do_alloc z_fo fun w2 n2 => ⟨trivial, ?_⟩
  simp only [↓List.toList_toArray, ↓rgd, ↓rgf, ↓reduceIte, Nat.reduceEqDiff, rg, ow_54]
  refine hK _ _ ?_; clear hK K
  refine W_seq ?_
  cases x with
  | some x =>
    replace e0 : e 0 = itV x := e0
    refine W_sq fun K hK => (W_text [true, true] (by kernel_rfl) ?_); simp only [↓List.toList_toArray, ↓rgd, ↓rgf, ↓reduceIte, Nat.reduceEqDiff, rg, ow_54, e0, eq_any]
    refine hK _ _ ?_; clear hK K
    refine W_false (by simp only [evt, evc, upd_eq, Nat.reduceEqDiff, ↓reduceIte, ntT, ntF] <;> rfl) (W_skip ?_)
    show W _ _ _ _ _ _
    refine W_sq fun K hK => (W_text [true, true, true, false] (by kernel_rfl) ?_); simp only [↓List.toList_toArray, ↓rgd, ↓rgf, ↓reduceIte, Nat.reduceEqDiff, rg, ow_54, e0, tas_any, bu_fo]
    refine do_store (v := foV (x, true)) (by simp only [evt, evc, upd_eq, Nat.reduceEqDiff, ↓reduceIte, ntT, ntF] <;> rfl) (by simp only [evt, evc, upd_eq, Nat.reduceEqDiff, ↓reduceIte, ntT, ntF] <;> rfl) sz_43 rfl n2.wok (by decide) (oc_fo _) fun w3 x3 r3 s3 => ⟨trivial, ?_⟩
    simp only [↓List.toList_toArray, ↓rgd, ↓rgf, ↓reduceIte, Nat.reduceEqDiff, rg, ow_54]
    refine hK _ _ ?_; clear hK K
    refine W_ret ?_
    exact endQ_c (by simp only [upd_eq, Nat.reduceEqDiff, ↓reduceIte]) ld_43 (ld_fo r3) ⟨rfl, noF_of n2.ext x3 fun y o hy h => by simp only [rng] at h; omega⟩
  | none =>
    replace e0 : e 0 = zV := e0
    refine W_sq fun K hK => (W_text [true, true] (by kernel_rfl) ?_); simp only [↓List.toList_toArray, ↓rgd, ↓rgf, ↓reduceIte, Nat.reduceEqDiff, rg, ow_54, e0, eq_anyN]
    refine hK _ _ ?_; clear hK K
    refine W_true (by simp only [evt, evc, upd_eq, Nat.reduceEqDiff, ↓reduceIte, ntT, ntF] <;> rfl) ?_
    refine W_sq fun K hK => (W_text [true, false] (by kernel_rfl) ?_); simp only [↓List.toList_toArray, ↓rgd, ↓rgf, ↓reduceIte, Nat.reduceEqDiff, rg, ow_54, bu_fo0]
    refine do_store (v := foV ((0, 0), false)) (by simp only [evt, evc, upd_eq, Nat.reduceEqDiff, ↓reduceIte, ntT, ntF] <;> rfl) (by simp only [evt, evc, upd_eq, Nat.reduceEqDiff, ↓reduceIte, ntT, ntF] <;> rfl) sz_43 rfl n2.wok (by decide) (oc_fo _) fun w3 x3 r3 s3 => ⟨trivial, ?_⟩
    simp only [↓List.toList_toArray, ↓rgd, ↓rgf, ↓reduceIte, Nat.reduceEqDiff, rg, ow_54]
    refine hK _ _ ?_; clear hK K
    refine W_ret ?_
    simp only [andThen_ret]
    exact endQ_c (by simp only [upd_eq, Nat.reduceEqDiff, ↓reduceIte]) ld_43 (ld_fo r3) ⟨rfl, noF_of n2.ext x3 fun y o hy h => by simp only [rng] at h; omega⟩
end Go.Proofs.Ytanmjbkbdmeckaa
/-
  What is found at an index; a list with an element taken away. No condition.
-/
set_option linter.unusedSimpArgs false
set_option linter.unusedVariables false
namespace Go.Proofs.Ytanmjbkbdmeckaa
open Go Go.Proofs
theorem ni_i : noInt Try.prog 25 = true := by kernel_rfl
/-- The item at an index, and whether there is one. -/
def nth (l : List It) (i : Int) : Option It := if 0 ≤ i then l[i.toNat]? else none
theorem nth_none {xs : List It} {i : Int} (h : i < 0 ∨ (xs.length : Int) ≤ i) : nth xs i = none := by
  unfold nth
  split
  · exact List.getElem?_eq_none (by omega)
  · rfl
theorem bu_fo1 (x : It) : buildV Try.prog 43 [(0, iV x), (1, .bool true)] = some (foV (x, true)) := bu_fo x
/-- A list without an item, and the item. -/
def cutL (l : List It) (i : Int) : List It := if 0 ≤ i then l.eraseIdx i.toNat else l
theorem cutL_out {l : List It} {i : Int} (h : i < 0 ∨ (l.length : Int) ≤ i) : cutL l i = l := by
  unfold cutL
  split
  · exact List.eraseIdx_of_length_le (by omega)
  · rfl
set_option maxHeartbeats 1000000 in
set_option maxRecDepth 8000 in
theorem cut_any (l : List It) (lv : Value) (ix : Int) (w : World) (hl : SlI w lv l) (hbig : l.length ≤ 2147483648) :
    CallK Try.prog 110 #[lv, .int .i64 ix] w fun v w' => ∃ sv, v = .tuple #[sv, foV (foO (nth l ix))] ∧ SlI w' sv (cutL l ix) ∧ Ext noF w w' := by
  obtain ⟨a, c, hlv⟩ := hl.shape
  refine calls_of_W [.tmp 4, .cell 5 43] Try.func110 rfl Try.ntmps110 Try.results110 (by simp) fun e he => ?_
  have e0 : e 0 = .slice a l.length c := by rw [← hlv]; exact he 0 _ rfl
  have e1 : e 1 = .int .i64 ix := he 1 _ rfl
  clear he
  refine W_sq fun K hK => (W_text [true, false] (by kernel_rfl) ?_); simp only [↓List.toList_toArray, ↓rgd, ↓rgf, ↓reduceIte, Nat.reduceEqDiff, rg, ow_110]
  refine do_alloc z_fo fun w1 n1 => ⟨trivial, ?_⟩
  simp only [↓List.toList_toArray, ↓rgd, ↓rgf, ↓reduceIte, Nat.reduceEqDiff, rg, ow_110]
  refine hK _ _ ?_; clear hK K
  have s1 := n1.size
  have out : (ix < 0 ∨ (l.length : Int) ≤ ix) → nth l ix = none ∧ cutL l ix = l := fun h => ⟨nth_none h, cutL_out h⟩
  refine W_seq ?_
  by_cases h1 : ix < 0
  · have t1 : decide (ix < 0) = true := by simp [h1]
    refine W_sq fun K hK => (W_text [true, true, true, true, true, true, true, true] (by kernel_rfl) ?_); simp only [↓List.toList_toArray, ↓rgd, ↓rgf, ↓reduceIte, Nat.reduceEqDiff, rg, ow_110, e0, e1, t1]
    refine hK _ _ ?_; clear hK K
    refine W_true (by simp only [evt, evc, upd_eq, Nat.reduceEqDiff, ↓reduceIte, ntT, ntF] <;> rfl) ?_
    refine W_sq fun K hK => (W_text [true, true, true, false] (by kernel_rfl) ?_); simp only [↓List.toList_toArray, ↓rgd, ↓rgf, ↓reduceIte, Nat.reduceEqDiff, rg, ow_110, e0, bu_fo0]
    refine do_store (v := foV ((0, 0), false)) (by simp only [evt, evc, upd_eq, Nat.reduceEqDiff, ↓reduceIte, ntT, ntF] <;> rfl) (by simp only [evt, evc, upd_eq, Nat.reduceEqDiff, ↓reduceIte, ntT, ntF] <;> rfl) sz_43 rfl n1.wok (by decide) (oc_fo _) fun w3 x3 r3 s3 => ⟨trivial, ?_⟩
    simp only [↓List.toList_toArray, ↓rgd, ↓rgf, ↓reduceIte, Nat.reduceEqDiff, rg, ow_110]
    refine hK _ _ ?_; clear hK K
    refine W_ret ?_
    simp only [andThen_ret]
    have X3 := noF_of n1.ext x3 fun y o hy h => by simp only [rng] at h; omega
    rw [(out (.inl h1)).1, (out (.inl h1)).2]
    exact endQ_tc (by simp only [upd_eq, Nat.reduceEqDiff, ↓reduceIte] <;> rfl) (by simp only [upd_eq, Nat.reduceEqDiff, ↓reduceIte]) ld_43 (ld_fo r3) ⟨_, rfl, by rw [← hlv]; exact hl.ext0 X3, X3⟩
  have t1 : decide (ix < 0) = false := by simp; omega
  by_cases h2 : (l.length : Int) ≤ ix
  · have t2 : decide ((l.length : Int) ≤ ix) = true := by simp [h2]
    refine W_sq fun K hK => (W_text [true, true, true, true, true, true, true, true] (by kernel_rfl) ?_); simp only [↓List.toList_toArray, ↓rgd, ↓rgf, ↓reduceIte, Nat.reduceEqDiff, rg, ow_110, e0, e1, t1, t2]
    refine hK _ _ ?_; clear hK K
    refine W_true (by simp only [evt, evc, upd_eq, Nat.reduceEqDiff, ↓reduceIte, ntT, ntF] <;> rfl) ?_
    refine W_sq fun K hK => (W_text [true, true, true, false] (by kernel_rfl) ?_); simp only [↓List.toList_toArray, ↓rgd, ↓rgf, ↓reduceIte, Nat.reduceEqDiff, rg, ow_110, e0, bu_fo0]
    refine do_store (v := foV ((0, 0), false)) (by simp only [evt, evc, upd_eq, Nat.reduceEqDiff, ↓reduceIte, ntT, ntF] <;> rfl) (by simp only [evt, evc, upd_eq, Nat.reduceEqDiff, ↓reduceIte, ntT, ntF] <;> rfl) sz_43 rfl n1.wok (by decide) (oc_fo _) fun w3 x3 r3 s3 => ⟨trivial, ?_⟩
    simp only [↓List.toList_toArray, ↓rgd, ↓rgf, ↓reduceIte, Nat.reduceEqDiff, rg, ow_110]
    refine hK _ _ ?_; clear hK K
    refine W_ret ?_
    simp only [andThen_ret]
    have X3 := noF_of n1.ext x3 fun y o hy h => by simp only [rng] at h; omega
    rw [(out (.inr h2)).1, (out (.inr h2)).2]
    exact endQ_tc (by simp only [upd_eq, Nat.reduceEqDiff, ↓reduceIte] <;> rfl) (by simp only [upd_eq, Nat.reduceEqDiff, ↓reduceIte]) ld_43 (ld_fo r3) ⟨_, rfl, by rw [← hlv]; exact hl.ext0 X3, X3⟩
  have t2 : decide ((l.length : Int) ≤ ix) = false := by simp; omega
  refine W_sq fun K hK => (W_text [true, true, true, true, true, true, true, true] (by kernel_rfl) ?_); simp only [↓List.toList_toArray, ↓rgd, ↓rgf, ↓reduceIte, Nat.reduceEqDiff, rg, ow_110, e0, e1, t1, t2]
  refine hK _ _ ?_; clear hK K
  refine W_false (by simp only [evt, evc, upd_eq, Nat.reduceEqDiff, ↓reduceIte, ntT, ntF] <;> rfl) (W_skip ?_)
  show W _ _ _ _ _ _
  obtain ⟨i, rfl⟩ : ∃ i : Nat, ix = i := ⟨ix.toNat, by omega⟩
  have hi : i < l.length := by omega
  obtain ⟨x, hx⟩ : ∃ x, l[i]? = some x := ⟨_, List.getElem?_eq_getElem hi⟩
  have hn : nth l (i : Int) = some x := by simp [nth, hx]
  obtain ⟨sv1, hs1, hsl1⟩ := sl_hi (hl.ext0 n1.ext) i (by omega)
  obtain ⟨sv2, hs2, hsl2⟩ := sl_lo (hl.ext0 n1.ext) (i + 1) (by omega)
  rw [hlv] at hs1 hs2
  have q1 := wadd1 i (by omega)
  obtain ⟨lb, lo, rfl, row⟩ := (hl.ext0 n1.ext).at hlv hi
  have ixx := iV_at row hx
  have hlb : lb < w1.heap.size := (hl.ext0 n1.ext).lt hlv
  have M1 : readsB (some (some [lb])) lb = true := by simp [readsB]
  refine W_sq fun K hK => (W_draw (some (some [lb])) (some 16) [(0, 1, 0), (0, 2, 0), (0, 3, 0), (0, 5, 0), (0, 6, 0), (0, 7, 0), (0, 8, 0), (0, 10, 0), (0, 11, 0), (0, 12, 0), (0, 13, 0), (0, 14, 0), (1, 0, 0), (1, 4, 0), (1, 9, 0), (0, 15, 0), (1, 16, 0)] mixed (by kernel_rfl) ?_); simp only [↓List.toList_toArray, ↓rgd, ↓rgf, ↓reduceIte, Nat.reduceEqDiff, rg, ow_110, e0, e1, hs1, hs2, q1, hi, ixx, bu_fo1, M1]
  refine do_bsl rfl bs_i0 fun w2 n2 => ⟨.inr (keeps_on n2.ext fun y hy => ⟨?_, fun _ h => h⟩), ?_⟩
  · rw [sz_dr]
    simp only [List.mem_cons, List.not_mem_nil, or_false] at hy
    omega
  simp only [↓List.toList_toArray, ↓rgd, ↓rgf, ↓reduceIte, Nat.reduceEqDiff, rg, ow_110, e0, e1, hs1, hs2, q1, hi, ixx, bu_fo1]
  have n2 := n2.od
  have s2 := n2.size
  have hv2 : SlV w2 2 (.slice (some ⟨w1.heap.size, 0, none⟩) 0 0) 0 [] := ⟨rfl, .inr ⟨_, 0, 0, rfl, Nat.le_refl _, Row.nil _ _ _, n2.wok.R (Nat.le_refl _)⟩⟩
  refine do_append (by simp only [evt, evc, upd_eq, Nat.reduceEqDiff, ↓reduceIte, ntT, ntF] <;> rfl) (by simp only [evt, evc, upd_eq, Nat.reduceEqDiff, ↓reduceIte, ntT, ntF] <;> rfl) el_i rfl ni_i hv2 (hsl1.ext0 n2.ext) (by omega) (by decide) (flat_oc Ei _) fun v3 w3 a3 => ?_
  obtain ⟨hS3, hg3, x3⟩ := app_since (B := w1.heap.size) a3 (fun b o n c h => by simp only [Value.slice.injEq, Option.some.injEq, Addr.mk.injEq] at h; omega) (by omega)
  refine ⟨.inr (keeps_on x3 fun y hy => ?_), ?_⟩
  · simp only [List.mem_cons, List.not_mem_nil, or_false] at hy
    exact ⟨by omega, fun o h => by omega⟩
  simp only [↓List.toList_toArray, ↓rgd, ↓rgf, ↓reduceIte, Nat.reduceEqDiff, rg, ow_110, e0, e1, hs1, hs2, q1, hi, ixx, bu_fo1]
  have s3 := x3.size
  have hsl2' : SlV w3 2 sv2 (l.length - (i + 1)) (flat Ei (l.drop (i + 1))) := (hsl2.ext0 n2.ext).ext x3 fun b o c h k hk g => by
    have := hsl2.lt h
    omega
  refine do_append (by simp only [evt, evc, upd_eq, Nat.reduceEqDiff, ↓reduceIte, ntT, ntF] <;> rfl) (by simp only [evt, evc, upd_eq, Nat.reduceEqDiff, ↓reduceIte, ntT, ntF] <;> rfl) el_i rfl ni_i hS3 hsl2' (by omega) (by decide) (flat_oc Ei _) fun v4 w4 a4 => ?_
  obtain ⟨hS4, hg4, x4⟩ := app_since (B := w1.heap.size) a4 hg3 (by omega)
  refine ⟨.inr (keeps_on x4 fun y hy => ?_), ?_⟩
  · simp only [List.mem_cons, List.not_mem_nil, or_false] at hy
    exact ⟨by omega, fun o h => by omega⟩
  simp only [↓List.toList_toArray, ↓rgd, ↓rgf, ↓reduceIte, Nat.reduceEqDiff, rg, ow_110, e0, e1, hs1, hs2, q1, hi, ixx, bu_fo1]
  have s4 := x4.size
  have X4 : Ext (fun y _ => w.heap.size ≤ y) w w4 := ((n1.ext.mono (G := fun y _ => w.heap.size ≤ y) fun _ _ _ h => h.elim).tr (n2.ext.mono fun _ _ _ h => h.elim)).tr ((x3.tr x4).mono fun y o _ h => by omega)
  refine do_store (v := foV (x, true)) (by simp only [evt, evc, upd_eq, Nat.reduceEqDiff, ↓reduceIte, ntT, ntF] <;> rfl) (by simp only [evt, evc, upd_eq, Nat.reduceEqDiff, ↓reduceIte, ntT, ntF] <;> rfl) sz_43 rfl (x4.wok (x3.wok (n2.ext.wok n1.wok))) (by decide) (oc_fo _) fun w5 x5 r5 s5 => ⟨.inl trivial, ?_⟩
  simp only [↓List.toList_toArray, ↓rgd, ↓rgf, ↓reduceIte, Nat.reduceEqDiff, rg, ow_110]
  refine hK _ _ ?_; clear hK K
  refine W_ret ?_
  rw [hn]
  refine endQ_tc (by simp only [upd_eq, Nat.reduceEqDiff, ↓reduceIte] <;> rfl) (by simp only [upd_eq, Nat.reduceEqDiff, ↓reduceIte]) ld_43 (ld_fo r5) ⟨_, rfl, ?_, noF_of (Ext.refl _ _) (X4.tr (x5.mono fun y o _ h => by simp only [rng] at h; show w.heap.size ≤ y; omega)) fun y o hy h => by omega⟩
  have he : cutL l (i : Int) = l.take i ++ l.drop (i + 1) := by simp [cutL, List.eraseIdx_eq_take_drop_succ]
  have hln : (cutL l (i : Int)).length = 0 + i + (l.length - (i + 1)) := by rw [he, List.length_append, List.length_take, List.length_drop]; omega
  rw [SlI, hln, he, flat_append]
  have := hS4.ext x5 fun b o c h k hk g => by
    have := hg4 _ _ _ _ h
    simp only [rng] at g
    omega
  simpa using this
set_option maxHeartbeats 400000 in
set_option maxRecDepth 8000 in
theorem sat_any (l : List It) (lv : Value) (ix : Int) (w : World) (hl : SlI w lv l) (hbig : l.length ≤ 2147483648) :
    CallK Try.prog 77 #[lv, .int .i64 ix] w fun v w' => v = foV (foO (nth l ix)) ∧ Ext noF w w' := by
  refine calls_of_W [.cell 4 43] Try.func77 rfl Try.ntmps77 Try.results77 (by simp) fun e he => ?_
  have e0 : e 0 = lv := he 0 _ rfl
  have e1 : e 1 = .int .i64 ix := he 1 _ rfl
  clear he
  refine W_sq fun K hK => (W_text [false] (by kernel_rfl) ?_); simp only [↓List.toList_toArray, ↓rgd, ↓rgf, ↓reduceIte, Nat.reduceEqDiff, rg, ow_77]
  refine do_alloc z_fo fun w1 n1 => ⟨trivial, ?_⟩
  simp only [↓List.toList_toArray, ↓rgd, ↓rgf, ↓reduceIte, Nat.reduceEqDiff, rg, ow_77]
  refine hK _ _ ?_; clear hK K
  have s1 := n1.size
  refine W_sq fun K hK => (W_text [true, true, false, true, true, true, false, true, false] (by kernel_rfl) ?_); simp only [↓List.toList_toArray, ↓rgd, ↓rgf, ↓reduceIte, Nat.reduceEqDiff, rg, ow_77, e0, e1]
  refine do_call fn_110 (by simp only [evt, evc, upd_eq, Nat.reduceEqDiff, ↓reduceIte, maT, maC, maN, isnN, isnS] <;> rfl) (cut_any l lv ix w1 (hl.ext0 n1.ext) hbig) ?_
  rintro _ w2 ⟨sv, rfl, _, X2⟩
  refine ⟨trivial, ?_⟩
  simp only [↓List.toList_toArray, ↓rgd, ↓rgf, ↓reduceIte, Nat.reduceEqDiff, rg, ow_77]
  refine do_alloc z_fo fun w3 n3 => ⟨trivial, ?_⟩
  simp only [↓List.toList_toArray, ↓rgd, ↓rgf, ↓reduceIte, Nat.reduceEqDiff, rg, ow_77]
  have s2 := X2.size
  have s3 := n3.size
  refine do_store (v := foV (foO (nth l ix))) (by simp only [evt, evc, upd_eq, Nat.reduceEqDiff, ↓reduceIte, ntT, ntF] <;> rfl) (by simp only [evt, evc, upd_eq, Nat.reduceEqDiff, ↓reduceIte, ntT, ntF] <;> rfl) sz_43 rfl n3.wok (by decide) (oc_fo _) fun w4 x4 r4 s4 => ⟨trivial, ?_⟩
  simp only [↓List.toList_toArray, ↓rgd, ↓rgf, ↓reduceIte, Nat.reduceEqDiff, rg, ow_77]
  refine hK _ _ ?_; clear hK K
  have ld : rdA w4 w2.heap.size 0 3 = some (foV (foO (nth l ix))) := (show Row w4 w2.heap.size 0 (Ef.cel (foO (nth l ix))) from r4).rdA 3 (by simp [Ef])
  refine W_sq fun K hK => (W_text [true, false] (by kernel_rfl) ?_); simp only [↓List.toList_toArray, ↓rgd, ↓rgf, ↓reduceIte, Nat.reduceEqDiff, rg, ow_77, ld]
  refine do_store (v := foV (foO (nth l ix))) (by simp only [evt, evc, upd_eq, Nat.reduceEqDiff, ↓reduceIte, ntT, ntF] <;> rfl) (by simp only [evt, evc, upd_eq, Nat.reduceEqDiff, ↓reduceIte, ntT, ntF] <;> rfl) sz_43 rfl (x4.wok (n3.ext.wok (X2.wok n1.wok))) (by decide) (oc_fo _) fun w5 x5 r5 s5 => ⟨trivial, ?_⟩
  simp only [↓List.toList_toArray, ↓rgd, ↓rgf, ↓reduceIte, Nat.reduceEqDiff, rg, ow_77]
  refine hK _ _ ?_; clear hK K
  refine W_ret ?_
  refine endQ_c (by simp only [upd_eq, Nat.reduceEqDiff, ↓reduceIte]) ld_43 (ld_fo r5) ⟨rfl, ?_⟩
  have X4 : Ext noF w w4 := noF_of ((n1.ext.tr X2).tr n3.ext) x4 fun y o hy h => by simp only [rng] at h; omega
  exact noF_of X4 x5 fun y o hy h => by simp only [rng] at h; omega
end Go.Proofs.Ytanmjbkbdmeckaa
/-
  The function that keeps the items that are handed to it. No condition.
-/
set_option linter.unusedSimpArgs false
set_option linter.unusedVariables false
namespace Go.Proofs.Ytanmjbkbdmeckaa
open Go Go.Proofs
/-- What is kept: the variable's block, the list, that the list is not older than B. -/
structure Kept (B ob : Nat) (done : List It) (w : World) : Prop where
  var : ∃ sv, rd w ob 0 = some sv ∧ SlI w sv done ∧ since B sv
  wok : wok w ob 1
  lt : ob < B
  le : B ≤ w.heap.size
def outF (B ob : Nat) : Nat → Nat → Prop := fun y _ => y = ob ∨ B ≤ y
theorem Kept.ext {B ob : Nat} {done : List It} {w w' : World} (h : Kept B ob done w) (x : Ext noF w w') : Kept B ob done w' := by
  obtain ⟨sv, h1, h2, h3⟩ := h.var
  exact ⟨⟨sv, x.rd h1 (fun h => h), h2.ext0 x, h3⟩, x.wok h.wok, h.lt, Nat.le_trans h.le x.size⟩
set_option maxHeartbeats 400000 in
set_option maxRecDepth 8000 in
theorem take_any (B ob pb nb : Nat) (n : Int) (done : List It) (x : It) (w : World) (h : Kept B ob done w) (hp : rd w pb 0 = some (ptr ob)) (hn : rd w nb 0 = some (.int .i64 n)) (h1 : pb ≠ ob) (h2 : nb ≠ ob) (h3 : pb < B) (h4 : nb < B)
    (hbig : done.length < 4294967295) :
    CallK Try.prog 137 #[iV x, ptr pb, ptr nb] w fun v w' => v = .bool (upTo n (done ++ [x])) ∧ Kept B ob (done ++ [x]) w' ∧ Ext (outF B ob) w w' := by
  obtain ⟨sv, hv, hS, hsi⟩ := h.var
  have hlt := h.lt
  have hle := h.le
  refine calls_of_W [.tmp 4] Try.func137 rfl Try.ntmps137 Try.results137 (by simp) fun e he => ?_
  have e0 : e 0 = iV x := he 0 _ rfl
  have e1 : e 1 = ptr pb := he 1 _ rfl
  have e2 : e 2 = ptr nb := he 2 _ rfl
  clear he
  refine W_sq fun K hK => (W_text [false, true] (by kernel_rfl) ?_); simp only [↓List.toList_toArray, ↓rgd, ↓rgf, ↓reduceIte, Nat.reduceEqDiff, rg, ow_137]
  refine do_box (by simp only [evt]; exact e0) fun w1 n1 => ⟨trivial, ?_⟩
  simp only [↓List.toList_toArray, ↓rgd, ↓rgf, ↓reduceIte, Nat.reduceEqDiff, rg, ow_137]
  refine hK _ _ ?_; clear hK K
  have s1 := n1.size
  have hp1 := n1.ext.rd hp (fun h => h)
  have hn1 := n1.ext.rd hn (fun h => h)
  have hv1 := n1.ext.rd hv (fun h => h)
  have bx : rdA w1 w.heap.size 0 2 = some (iV x) := n1.row.rdA 2 (by show 2 ≤ 2; omega)
  have M1 : readsB (some (some [pb, ob, w.heap.size])) pb = true := by simp [readsB]
  have M2 : readsB (some (some [pb, ob, w.heap.size])) ob = true := by simp [readsB]
  have M3 : readsB (some (some [pb, ob, w.heap.size])) w.heap.size = true := by simp [readsB]
  refine W_sq fun K hK => (W_draw (some (some [pb, ob, w.heap.size])) (some 8) [(0, 0, 0), (0, 1, 0), (0, 2, 0), (0, 3, 0), (0, 4, 0), (1, 5, 0), (1, 6, 0), (0, 7, 0), (1, 8, 0)] mixed (by kernel_rfl) ?_); simp only [↓List.toList_toArray, ↓rgd, ↓rgf, ↓reduceIte, Nat.reduceEqDiff, rg, ow_137, e1, ptr_eq, hp1, hv1, bx, M1, M2, M3]
  refine do_bsl rfl (bs_i1 x) fun w2 n2 => ⟨.inr (keeps_on n2.ext fun y hy => ⟨?_, fun _ h => h⟩), ?_⟩
  · rw [sz_dr]
    simp only [List.mem_cons, List.not_mem_nil, or_false] at hy
    omega
  simp only [↓List.toList_toArray, ↓rgd, ↓rgf, ↓reduceIte, Nat.reduceEqDiff, rg, ow_137]
  have n2 := n2.od
  have s2 := n2.size
  have X2 := n1.ext.tr n2.ext
  have hS2 := hS.ext0 X2
  have hx2 : SlV w2 2 (.slice (some ⟨w1.heap.size, 0, none⟩) 1 1) 1 (Ei.cel x) := ⟨rfl, .inr ⟨_, 0, 1, rfl, Nat.le_refl _, n2.row, n2.wok.R (Nat.le_refl _)⟩⟩
  refine do_append (by simp only [evt, evc, upd_eq, Nat.reduceEqDiff, ↓reduceIte, ntT, ntF] <;> rfl) (by simp only [evt, evc, upd_eq, Nat.reduceEqDiff, ↓reduceIte, ntT, ntF] <;> rfl) el_i rfl ni_i hS2 hx2 (by omega) (by decide) (Ei.one x) fun v3 w3 a3 => ?_
  obtain ⟨hS3, hs3, x3⟩ := app_since (B := B) a3 hsi (by omega)
  refine ⟨.inr fun y hy => app_block a3 ?_ fun o c k hh => ?_, ?_⟩
  · simp only [List.mem_cons, List.not_mem_nil, or_false] at hy
    omega
  · have g1 := hsi _ _ _ _ hh
    have g2 := hS.lt hh
    simp only [List.mem_cons, List.not_mem_nil, or_false] at hy
    omega
  simp only [↓List.toList_toArray, ↓rgd, ↓rgf, ↓reduceIte, Nat.reduceEqDiff, rg, ow_137]
  have s3 := x3.size
  obtain ⟨a3', c3', hv3⟩ := hS3.shape
  refine do_store (by simp only [evt, evc, upd_eq, Nat.reduceEqDiff, ↓reduceIte, ntT, ntF] <;> rfl) (by simp only [evt, evc, upd_eq, Nat.reduceEqDiff, ↓reduceIte, ntT, ntF] <;> rfl) sz_25 (by rw [hv3]; rfl) (x3.wok (X2.wok h.wok)) (by decide) (by rw [hv3]; exact oc_one rfl rfl) fun w4 x4 r4 s4 => ⟨.inl trivial, ?_⟩
  simp only [↓List.toList_toArray, ↓rgd, ↓rgf, ↓reduceIte, Nat.reduceEqDiff, rg, ow_137]
  refine hK _ _ ?_; clear hK K
  have hrow : rd w4 ob 0 = some v3 := by
    rw [hv3] at r4 ⊢
    exact (Row.cons.1 r4).1
  have X4 : Ext (outF B ob) w w4 := by
    refine (X2.trans (H := outF B ob) x3 (fun _ _ g => g.elim) fun y o _ g => .inr g).trans x4 (fun _ _ g => g) fun y o _ g => ?_
    simp only [rng] at g
    exact .inl g.1
  have x34 : Ext (fun y o => y = ob ∧ True) w3 w4 := x4.mono fun y o _ g => ⟨g.1, trivial⟩
  have hS4 : SlI w4 v3 (done ++ [x]) := by
    have : SlV w4 2 v3 (done.length + 1) (flat Ei done ++ Ei.cel x) := hS3.ext x4 fun b o c hh k _ g => by
      have := hs3 _ _ _ _ hh
      simp only [rng] at g
      omega
    rw [SlI, List.length_append, List.length_singleton, flat_append, flat_one]
    exact this
  have hn4 := x4.rd (x3.rd (X2.rd hn fun h => h) (by omega)) (by simp only [rng]; omega)
  have hp4 := x4.rd (x3.rd (X2.rd hp fun h => h) (by omega)) (by simp only [rng]; omega)
  have hl4 : ((done ++ [x]).length : Int) = ((done.length + 1 : Nat) : Int) := by simp
  have K4 : Kept B ob (done ++ [x]) w4 := ⟨⟨v3, hrow, hS4, hs3⟩, x4.wok (x3.wok (X2.wok h.wok)), hlt, by have := X4.size; omega⟩
  have X5 : ∀ k, Ext (outF B ob) w (dr w4 k) := fun k => X4.tr (Ext.dr _ _ _)
  have K5 : ∀ k, Kept B ob (done ++ [x]) (dr w4 k) := fun k => K4.ext (Ext.dr _ _ _)
  rw [hv3] at hrow
  by_cases hn1' : n < 1
  · have t1 : decide (n < 1) = true := by simp [hn1']
    refine W_sq fun K hK => (W_draw (some none) none [(0, 0, 0), (0, 1, 0), (0, 2, 0), (0, 3, 0), (0, 4, 0), (0, 5, 0), (0, 6, 0), (0, 7, 0), (0, 8, 0), (0, 9, 0), (0, 10, 0)] mixed (by kernel_rfl) ?_); simp only [↓List.toList_toArray, ↓rgd, ↓rgf, ↓reduceIte, Nat.reduceEqDiff, rg, ow_137, e1, e2, ptr_eq, hp4, hn4, hrow, t1]
    refine hK _ _ ?_; clear hK K
    refine W_ret (endQ_1 (by simp only [upd_eq, Nat.reduceEqDiff, ↓reduceIte] <;> rfl) ⟨?_, K5 _, X5 _⟩)
    simp [upTo, hn1']
  · have t1 : decide (n < 1) = false := by simp; omega
    refine W_sq fun K hK => (W_draw (some none) none [(0, 0, 0), (0, 1, 0), (0, 2, 0), (0, 3, 0), (0, 4, 0), (0, 5, 0), (0, 6, 0), (0, 7, 0), (0, 8, 0), (0, 9, 0), (0, 10, 0)] mixed (by kernel_rfl) ?_); simp only [↓List.toList_toArray, ↓rgd, ↓rgf, ↓reduceIte, Nat.reduceEqDiff, rg, ow_137, e1, e2, ptr_eq, hp4, hn4, hrow, t1]
    refine hK _ _ ?_; clear hK K
    refine W_ret (endQ_1 (by simp only [upd_eq, Nat.reduceEqDiff, ↓reduceIte] <;> rfl) ⟨?_, K5 _, X5 _⟩)
    simp [upTo, hn1']
def takeV (pb nb : Nat) : Value := .func (.func 137) #[] #[ptr pb, ptr nb]
theorem takeV_eq (pb nb : Nat) : takeV pb nb = .func (.func 137) #[] #[ptr pb, ptr nb] := rfl
theorem fn_take : isFn Try.prog 137 = true := by kernel_rfl
set_option maxHeartbeats 400000 in
set_option maxRecDepth 8000 in
theorem taker_mk (ob : Nat) (n : Int) (w : World) :
    CallK Try.prog 99 #[ptr ob, .int .i64 n] w fun v w' => v = takeV w.heap.size (w.heap.size + 1) ∧ Ext noF w w' ∧ rd w' w.heap.size 0 = some (ptr ob) ∧ rd w' (w.heap.size + 1) 0 = some (.int .i64 n) ∧ w'.heap.size = w.heap.size + 2 := by
  refine calls_of_W [.tmp 4] Try.func99 rfl Try.ntmps99 Try.results99 (by simp) fun e he => ?_
  have e0 : e 0 = ptr ob := he 0 _ rfl
  have e1 : e 1 = .int .i64 n := he 1 _ rfl
  clear he
  refine W_sq fun K hK => (W_text [false, false, true] (by kernel_rfl) ?_); simp only [↓List.toList_toArray, ↓rgd, ↓rgf, ↓reduceIte, Nat.reduceEqDiff, rg]
  refine do_box (v := ptr ob) (by simp only [evt]; exact e0) fun w1 n1 => ⟨trivial, ?_⟩
  simp only [↓List.toList_toArray, ↓rgd, ↓rgf, ↓reduceIte, Nat.reduceEqDiff, rg]
  refine do_box (v := .int .i64 n) (by simp only [evt, upd_eq, Nat.reduceEqDiff, ↓reduceIte]; exact e1) fun w2 n2 => ⟨trivial, ?_⟩
  simp only [↓List.toList_toArray, ↓rgd, ↓rgf, ↓reduceIte, Nat.reduceEqDiff, rg]
  refine hK _ _ ?_; clear hK K
  have s1 := n1.size
  have s2 := n2.size
  have r1 : rd w2 w.heap.size 0 = some (ptr ob) := n2.ext.rd (Row.cons.1 (show Row w1 w.heap.size 0 [ptr ob] from n1.row)).1 fun h => h
  have r2 : rd w2 (w.heap.size + 1) 0 = some (.int .i64 n) := by rw [← s1]; exact (Row.cons.1 (show Row w2 w1.heap.size 0 [.int .i64 n] from n2.row)).1
  refine W_sq fun K hK => (W_text [true, true] (by kernel_rfl) ?_); simp only [↓List.toList_toArray, ↓rgd, ↓rgf, ↓reduceIte, Nat.reduceEqDiff, rg]
  refine hK _ _ ?_; clear hK K
  refine W_ret (endQ_1 (by simp only [upd_eq, Nat.reduceEqDiff, ↓reduceIte] <;> rfl) ⟨?_, n1.ext.tr n2.ext, r1, r2, by omega⟩)
  rw [takeV, s1, ptr_eq, ptr_eq]
/-- The same for items in interfaces: a function value that holds the other. -/
def takeA (c : Nat) : Value := .func (.func 100) #[] #[ptr c]
theorem z_fnA : zK Try.prog 121 = some [.nilFunc] := by kernel_rfl
theorem fn_takeA : isFn Try.prog 100 = true := by kernel_rfl
/-- What holds while items are kept. -/
def TS (c ob pb nb B : Nat) (n : Int) (done : List It) (w : World) : Prop := Kept B ob done w ∧ rd w pb 0 = some (ptr ob) ∧ rd w nb 0 = some (.int .i64 n) ∧ rd w c 0 = some (takeV pb nb)
set_option maxHeartbeats 400000 in
set_option maxRecDepth 8000 in
theorem takeA_any (c B ob pb nb : Nat) (n : Int) (done : List It) (x : It) (w : World) (h : TS c ob pb nb B n done w) (h1 : pb ≠ ob) (h2 : nb ≠ ob) (h3 : pb < B) (h4 : nb < B) (h5 : c ≠ ob) (h6 : c < B)
    (hbig : done.length < 4294967295) :
    CallK Try.prog 100 #[itV x, ptr c] w fun v w' => v = .bool (upTo n (done ++ [x])) ∧ TS c ob pb nb B n (done ++ [x]) w' ∧ Ext (outF B ob) w w' := by
  obtain ⟨hK0, hp, hn, hc⟩ := h
  refine calls_of_W [.tmp 3] Try.func100 rfl Try.ntmps100 Try.results100 (by simp) fun e he => ?_
  have e0 : e 0 = itV x := he 0 _ rfl
  have e1 : e 1 = ptr c := he 1 _ rfl
  clear he
  refine W_sq fun K hK => (W_text [true] (by kernel_rfl) ?_); simp only [↓List.toList_toArray, ↓rgd, ↓rgf, ↓reduceIte, Nat.reduceEqDiff, rg, ow_100]
  refine hK _ _ ?_; clear hK K
  have M1 : readsB (some (some [c])) c = true := by simp [readsB]
  have hle := hK0.le
  have hob := hK0.lt
  refine W_sq fun K hK => (W_draw (some (some [c])) none [(0, 0, 0), (0, 1, 0), (0, 2, 0), (1, 3, 0), (0, 4, 0)] mixed (by kernel_rfl) ?_); simp only [↓List.toList_toArray, ↓rgd, ↓rgf, ↓reduceIte, Nat.reduceEqDiff, rg, ow_100, e0, e1, ptr_eq, hc, tas_any, M1]
  rw [takeV_eq]
  refine do_callv (by simp only [evt, evc, upd_eq, Nat.reduceEqDiff, ↓reduceIte, ntT, ntF] <;> rfl) fn_take rfl (by simp only [evt, upd_eq, Nat.reduceEqDiff, ↓reduceIte, maT, maC, maN]; exact take_any B ob pb nb n done x _ (hK0.ext (Ext.dr noF w (w.drawn + 1))) ((Ext.dr noF w (w.drawn + 1)).rd hp fun h => h) ((Ext.dr noF w (w.drawn + 1)).rd hn fun h => h) h1 h2 h3 h4 hbig) ?_
  rintro _ w2 ⟨rfl, hK2, x2⟩
  refine ⟨.inr (keeps_on x2 fun y hy => ?_), ?_⟩
  · simp only [List.mem_cons, List.not_mem_nil, or_false] at hy
    subst hy
    exact ⟨by rw [sz_dr]; omega, fun _ g => by rcases g with g | g <;> omega⟩
  have x2 := x2.od
  simp only [↓List.toList_toArray, ↓rgd, ↓rgf, ↓reduceIte, Nat.reduceEqDiff, rg, ow_100]
  refine hK _ _ ?_; clear hK K
  have nF : ∀ y, y ≠ ob → y < B → ¬ outF B ob y 0 := fun y g1 g2 g => by rcases g with g | g <;> omega
  exact W_ret (endQ_1 (by simp only [upd_eq, Nat.reduceEqDiff, ↓reduceIte] <;> rfl) ⟨rfl, ⟨hK2, x2.rd hp (nF _ h1 h3), x2.rd hn (nF _ h2 h4), x2.rd hc (nF _ h5 h6)⟩, x2⟩)
set_option maxHeartbeats 400000 in
set_option maxRecDepth 8000 in
theorem takerA_mk (ob : Nat) (n : Int) (w : World) :
    CallK Try.prog 66 #[ptr ob, .int .i64 n] w fun v w' => ∃ c pb nb, v = takeA c ∧ Ext noF w w' ∧ rd w' pb 0 = some (ptr ob) ∧ rd w' nb 0 = some (.int .i64 n) ∧ rd w' c 0 = some (takeV pb nb) ∧ w.heap.size ≤ c ∧ w.heap.size ≤ pb ∧ w.heap.size ≤ nb ∧ c < w'.heap.size ∧ pb < w'.heap.size ∧ nb < w'.heap.size := by
  refine calls_of_W [.tmp 4] Try.func66 rfl Try.ntmps66 Try.results66 (by simp) fun e he => ?_
  have e0 : e 0 = ptr ob := he 0 _ rfl
  have e1 : e 1 = .int .i64 n := he 1 _ rfl
  clear he
  refine W_sq fun K hK => (W_text [true] (by kernel_rfl) ?_); simp only [↓List.toList_toArray, ↓rgd, ↓rgf, ↓reduceIte, Nat.reduceEqDiff, rg, ow_66]
  refine hK _ _ ?_; clear hK K
  refine W_sq fun K hK => (W_text [true, true, false, false, false] (by kernel_rfl) ?_); simp only [↓List.toList_toArray, ↓rgd, ↓rgf, ↓reduceIte, Nat.reduceEqDiff, rg, ow_66, e0, e1]
  refine do_call fn_99 (vs := #[ptr ob, .int .i64 n]) (by simp only [evt, evc, upd_eq, Nat.reduceEqDiff, ↓reduceIte, maT, maC, maN, isnN, isnS] <;> rfl) (taker_mk ob n w) ?_
  rintro _ w3 ⟨rfl, X3, p3, q3, s3⟩
  refine ⟨trivial, ?_⟩
  simp only [↓List.toList_toArray, ↓rgd, ↓rgf, ↓reduceIte, Nat.reduceEqDiff, rg, ow_66]
  refine do_alloc z_fnA fun w4 n4 => ⟨trivial, ?_⟩
  simp only [↓List.toList_toArray, ↓rgd, ↓rgf, ↓reduceIte, Nat.reduceEqDiff, rg, ow_66]
  refine do_store (v := takeV w.heap.size (w.heap.size + 1)) (by simp only [evt, evc, upd_eq, Nat.reduceEqDiff, ↓reduceIte, ntT, ntF] <;> rfl) (by simp only [evt, evc, upd_eq, Nat.reduceEqDiff, ↓reduceIte, ntT, ntF] <;> rfl) sz_121 rfl n4.wok (by decide) (oc_one rfl rfl) fun w5 x5 r5 s5 => ⟨trivial, ?_⟩
  simp only [↓List.toList_toArray, ↓rgd, ↓rgf, ↓reduceIte, Nat.reduceEqDiff, rg, ow_66]
  refine hK _ _ ?_; clear hK K
  have s4 := n4.size
  have X5 : Ext noF w w5 := noF_of (X3.tr n4.ext) x5 fun y o hy h => by simp only [rng] at h; omega
  have nr : ∀ y, y < w3.heap.size → ¬ rng w3.heap.size 0 1 y 0 := fun y hy h => by simp only [rng] at h; omega
  refine W_sq fun K hK => (W_text [true, true] (by kernel_rfl) ?_); simp only [↓List.toList_toArray, ↓rgd, ↓rgf, ↓reduceIte, Nat.reduceEqDiff, rg, ow_66]
  refine hK _ _ ?_; clear hK K
  refine W_ret (endQ_1 (by simp only [upd_eq, Nat.reduceEqDiff, ↓reduceIte] <;> rfl) ⟨w3.heap.size, w.heap.size, w.heap.size + 1, ?_, X5, x5.rd (n4.ext.rd p3 fun h => h) (nr _ (by omega)), x5.rd (n4.ext.rd q3 fun h => h) (nr _ (by omega)), (Row.cons.1 (show Row w5 w3.heap.size 0 [takeV w.heap.size (w.heap.size + 1)] from r5)).1, by omega, by omega, by omega, by omega, by omega, by omega⟩)
  rw [takeA, ptr_eq]
theorem TS.ext {c ob pb nb B : Nat} {n : Int} {done : List It} {w w' : World} (h : TS c ob pb nb B n done w) (x : Ext noF w w') : TS c ob pb nb B n done w' :=
  ⟨h.1.ext x, x.rd h.2.1 fun h => h, x.rd h.2.2.1 fun h => h, x.rd h.2.2.2 fun h => h⟩
theorem cb_take (c ob pb nb B : Nat) (n : Int) (h1 : pb ≠ ob) (h2 : nb ≠ ob) (h3 : pb < B) (h4 : nb < B) (h5 : c ≠ ob) (h6 : c < B) : Cb (takeA c) (outF B ob) (TS c ob pb nb B n) (upTo n) :=
  ⟨⟨_, #[], #[ptr c], rfl, fn_takeA, fun done x w hS hlen => takeA_any c B ob pb nb n done x w hS h1 h2 h3 h4 h5 h6 hlen⟩, fun _ _ _ hS x => hS.ext x⟩
end Go.Proofs.Ytanmjbkbdmeckaa
/-
  What a tree hands on, kept; all items of a tree. No condition.
-/
set_option linter.unusedSimpArgs false
set_option linter.unusedVariables false
namespace Go.Proofs.Ytanmjbkbdmeckaa
open Go Go.Proofs
theorem z_hint : zK Try.prog 85 = some [.bool false, .bool false, .bool false, .bool false, .bool false, .bool false, .bool false, .bool false, .int .u8 0, .int .u8 0, .int .u8 0, .int .u8 0, .int .u8 0, .int .u8 0, .int .u8 0, .int .u8 0] := by kernel_rfl
theorem hint_new {w w' : World} (h : New w w' [.bool false, .bool false, .bool false, .bool false, .bool false, .bool false, .bool false, .bool false, .int .u8 0, .int .u8 0, .int .u8 0, .int .u8 0, .int .u8 0, .int .u8 0, .int .u8 0, .int .u8 0]) : HintAt w' w.heap.size := by
  refine ⟨h.wok, fun i hi => ⟨false, ?_⟩, fun i hi => ⟨0, by omega, ?_⟩⟩
  · have : i = 0 ∨ i = 1 ∨ i = 2 ∨ i = 3 ∨ i = 4 ∨ i = 5 ∨ i = 6 ∨ i = 7 := by omega
    have := h.row i (.bool false) (by rcases this with rfl | rfl | rfl | rfl | rfl | rfl | rfl | rfl <;> rfl)
    rwa [Nat.zero_add] at this
  · have : i = 0 ∨ i = 1 ∨ i = 2 ∨ i = 3 ∨ i = 4 ∨ i = 5 ∨ i = 6 ∨ i = 7 := by omega
    have := h.row (8 + i) (.int .u8 0) (by rcases this with rfl | rfl | rfl | rfl | rfl | rfl | rfl | rfl <;> rfl)
    rwa [Nat.zero_add] at this
theorem Cb.mono {f : Value} {G G' : Nat → Nat → Prop} {S : List It → World → Prop} {go : List It → Bool} (h : Cb f G S go) (hG : ∀ y o, G y o → G' y o) : Cb f G' S go := by
  obtain ⟨⟨g, first, cap, h1, h2, h3⟩, h4⟩ := h
  exact ⟨⟨g, first, cap, h1, h2, fun done x w hS hl => CallK_mono (h3 done x w hS hl) fun v w' ⟨a, b, c⟩ => ⟨a, b, c.mono fun y o _ g => hG y o g⟩⟩, h4⟩
theorem Kept.extH {B ob : Nat} {done : List It} {w w' : World} {G : Nat → Nat → Prop} (h : Kept B ob done w) (x : Ext G w w') (hG : ∀ y o, G y o → y ≠ ob ∧ y < B) : Kept B ob done w' := by
  obtain ⟨sv, h1, h2, h3⟩ := h.var
  exact ⟨⟨sv, x.rd h1 (fun g => (hG _ _ g).1 rfl), h2.ext x fun b o c hv i _ g => by have := h3 _ _ _ _ hv; have := (hG _ _ g).2; omega, h3⟩, x.wok h.wok, h.lt, Nat.le_trans h.le x.size⟩
theorem z_sl : zK Try.prog 25 = some [.slice none 0 0] := by kernel_rfl
theorem firstN_0 {α : Type} (l : List α) : firstN 0 l = l := by unfold firstN; rw [if_pos (.inl (by decide))]
/-- What is there when a tree, a function that keeps items and a hint (or none) have been made, in whatever order. -/
structure Ready (B0 ob c pb nb : Nat) (hp : Option Nat) (B m : Nat) (F : Nat → Nat → Prop) (n : Int) (w : World) : Prop where
  out : rd w ob 0 = some (.slice none 0 0)
  wout : wok w ob 1
  rpb : rd w pb 0 = some (ptr ob)
  rnb : rd w nb 0 = some (.int .i64 n)
  rc : rd w c 0 = some (takeV pb nb)
  lt : B0 ≤ ob ∧ c ≠ ob ∧ pb ≠ ob ∧ nb ≠ ob ∧ m ≠ ob ∧ c < w.heap.size ∧ pb < w.heap.size ∧ nb < w.heap.size ∧ m < w.heap.size
  hlt : ∀ hb, hp = some hb → B0 ≤ hb ∧ hb < w.heap.size ∧ hb ≠ ob ∧ c ≠ hb ∧ pb ≠ hb ∧ nb ≠ hb ∧ m ≠ hb ∧ (m ≤ hb ∨ hb < B)
  off : ∀ y o, F y o → y ≠ ob ∧ y < w.heap.size ∧ ∀ hb, hp = some hb → y ≠ hb
set_option maxHeartbeats 400000 in
set_option maxRecDepth 8000 in
theorem ready_go {B0 ob c pb nb : Nat} {hp : Option Nat} {B m : Nat} {ys : List It} {F : Nat → Nat → Prop} {n : Int} {w0 w : World} {fn : Nat} {args : Value → Array Value} (hR : Ready B0 ob c pb nb hp B m F n w) (X : Ext noF w0 w) (h0 : B0 = w0.heap.size)
    (hs : Scans fn args hp B m ys F w) :
    CallK Try.prog fn (args (takeA c)) w fun _ w' => Ext noF w0 w' ∧ ∃ sv, rd w' ob 0 = some sv ∧ SlI w' sv (firstN n ys) := by
  obtain ⟨l0, l1, l2, l3, l4, l5, l6, l7, l8⟩ := hR.lt
  have hob := wok_lt hR.wout
  have hKp : Kept w.heap.size ob [] w := ⟨⟨_, hR.out, ⟨rfl, .inl ⟨rfl, rfl⟩⟩, fun b o n c h => by cases h⟩, hR.wout, by omega, Nat.le_refl _⟩
  have C := (cb_take c ob pb nb w.heap.size n (by omega) (by omega) (by omega) (by omega) (by omega) (by omega)).mono (G' := fun y o => outF w.heap.size ob y o ∨ hp = some y) fun _ _ g => .inl g
  refine CallK_mono (hs _ _ _ _ C (fun o g => ?_) (fun y h => ⟨(hR.hlt y h).2.2.2.2.2.2.2, fun o => .inr h⟩) (fun done w1 w2 hS x => ?_) (fun y o o' hy g => ?_) ⟨hKp, hR.rpb, hR.rnb, hR.rc⟩) ?_
  · rcases g with (g | g) | g
    · omega
    · omega
    · exact (hR.hlt _ g).2.2.2.2.2.2.1 rfl
  · have q : ∀ y, Go.Proofs.Ytanmjbkbdmeckaa.hF hp y 0 → y ≠ ob ∧ y < w.heap.size ∧ c ≠ y ∧ pb ≠ y ∧ nb ≠ y := fun y g => by
      have := hR.hlt y g; omega
    refine ⟨hS.1.extH x fun y o g => ⟨(q y g).1, (q y g).2.1⟩, x.rd hS.2.1 fun g => (q _ g).2.2.2.1 rfl, x.rd hS.2.2.1 fun g => (q _ g).2.2.2.2 rfl, x.rd hS.2.2.2 fun g => (q _ g).2.2.1 rfl⟩
  · have h1 := hR.off y o hy
    rcases g with (g | g) | g
    · omega
    · omega
    · exact h1.2.2 _ g rfl
  rintro _ w' ⟨⟨hK4, _⟩, X4⟩
  obtain ⟨sv, h1, h2, _⟩ := hK4.var
  rw [hand_upTo_nil] at h2
  refine ⟨noF_of X X4 fun y o hy g => ?_, sv, h1, h2⟩
  have := X.size
  rcases g with (g | g) | g
  · omega
  · omega
  · have := hR.hlt y g; omega
set_option maxHeartbeats 800000 in
set_option maxRecDepth 8000 in
theorem allOf_any (t B m d : Nat) (ord : List Int) (hd : 2 ≤ d) (iso : Int) (xs : List It) (F : Nat → Nat → Prop) (w : World) (ht : BAt w t m) (hM : TreeAt B ord w m d iso xs F) (hbig : xs.length ≤ 4294967295) :
    CallK Try.prog 56 #[ptr t] w fun v w' => SlI w' v xs ∧ Ext noF w w' := by
  refine calls_of_W [.tmp 2] Try.func56 rfl Try.ntmps56 Try.results56 (by simp) fun e he => ?_
  have e0 : e 0 = ptr t := he 0 _ rfl
  clear he
  refine W_sq fun K hK => (W_text [true] (by kernel_rfl) ?_); simp only [↓List.toList_toArray, ↓rgd, ↓rgf, ↓reduceIte, Nat.reduceEqDiff, rg, ow_56]
  refine hK _ _ ?_; clear hK K
  refine W_sq fun K hK => (W_text [false] (by kernel_rfl) ?_); simp only [↓List.toList_toArray, ↓rgd, ↓rgf, ↓reduceIte, Nat.reduceEqDiff, rg, ow_56]
  refine do_alloc z_sl fun w1 n1 => ⟨trivial, ?_⟩
  simp only [↓List.toList_toArray, ↓rgd, ↓rgf, ↓reduceIte, Nat.reduceEqDiff, rg, ow_56]
  refine hK _ _ ?_; clear hK K
  have s1 := n1.size
  have hml := hM.mlt
  have hlt := hM.lt
  refine W_sq fun K hK => (W_text [true, false, false] (by kernel_rfl) ?_); simp only [↓List.toList_toArray, ↓rgd, ↓rgf, ↓reduceIte, Nat.reduceEqDiff, rg, ow_56, e0]
  refine do_call fn_66 (vs := #[ptr w.heap.size, .int .i64 0]) (by simp only [evt, evc, upd_eq, Nat.reduceEqDiff, ↓reduceIte, maT, maC, maN, isnN, isnS] <;> rfl) (takerA_mk w.heap.size 0 w1) ?_
  rintro _ w2 ⟨c, pb, nb, rfl, X2, h1, h2, h3, h4, h5, h6, h7, h8, h9⟩
  refine ⟨trivial, ?_⟩
  simp only [↓List.toList_toArray, ↓rgd, ↓rgf, ↓reduceIte, Nat.reduceEqDiff, rg, ow_56]
  have X12 := n1.ext.tr X2
  refine do_call fn_64 (vs := #[ptr t, itO none, takeA c]) (by simp only [evt, evc, upd_eq, Nat.reduceEqDiff, ↓reduceIte, maT, maC, maN, isnN, isnS] <;> rfl) (ready_go (fn := 64) (args := fun f => #[ptr t, itO none, f]) (n := 0) ⟨X2.rd (Row.cons.1 n1.row).1 fun h => h, X2.wok n1.wok, h1, h2, h3, by have := X2.size; omega, (fun _ h => by cases h), fun y o hy => ⟨by have := hlt y o hy; omega, by have := hlt y o hy; have := X2.size; omega, fun _ h => by cases h⟩⟩ X12 rfl
    (T_Ascend_s t B m d ord hd iso xs F none w2 (hM.ext X12) hbig (X12.rd ht fun h => h))) ?_
  rintro _ w3 ⟨X3, sv, hv, hS⟩
  refine ⟨trivial, ?_⟩
  simp only [↓List.toList_toArray, ↓rgd, ↓rgf, ↓reduceIte, Nat.reduceEqDiff, rg, ow_56]
  refine hK _ _ ?_; clear hK K
  refine W_sq fun K hK => (W_text [true, true] (by kernel_rfl) ?_); simp only [↓List.toList_toArray, ↓rgd, ↓rgf, ↓reduceIte, Nat.reduceEqDiff, rg, ow_56, hv]
  refine hK _ _ ?_; clear hK K
  refine W_ret (endQ_1 (by simp only [upd_eq, Nat.reduceEqDiff, ↓reduceIte] <;> rfl) ⟨?_, X3⟩)
  rw [firstN_0] at hS
  exact hS
/-- A pivot, none for all. -/
def pvO (all : Bool) (q : It) : Option It := if all = true then none else some q
set_option maxHeartbeats 800000 in
set_option maxRecDepth 8000 in
theorem from_any (all : Bool) (q : It) (w : World) :
    CallK Try.prog 65 #[.bool all, iV q] w fun v w' => v = itO (pvO all q) ∧ Ext noF w w' := by
  refine calls_of_W [.tmp 4] Try.func65 rfl Try.ntmps65 Try.results65 (by simp) fun e he => ?_
  have e0 : e 0 = .bool all := he 0 _ rfl
  have e1 : e 1 = iV q := he 1 _ rfl
  clear he
  refine W_sq fun K hK => (W_text [false, true] (by kernel_rfl) ?_); simp only [↓List.toList_toArray, ↓rgd, ↓rgf, ↓reduceIte, Nat.reduceEqDiff, rg, ow_65]
  refine do_box (by simp only [evt]; exact e1) fun w1 n1 => ⟨trivial, ?_⟩
  simp only [↓List.toList_toArray, ↓rgd, ↓rgf, ↓reduceIte, Nat.reduceEqDiff, rg, ow_65]
  refine hK _ _ ?_; clear hK K
  have bx : rdA w1 w.heap.size 0 2 = some (iV q) := n1.row.rdA 2 (by show 2 ≤ 2; omega)
  refine W_seq ?_
  cases all with
  | true =>
    refine W_sq fun K hK => (W_text [true] (by kernel_rfl) ?_); simp only [↓List.toList_toArray, ↓rgd, ↓rgf, ↓reduceIte, Nat.reduceEqDiff, rg, ow_65, e0]
    refine hK _ _ ?_; clear hK K
    refine W_true (by simp only [evt, evc, upd_eq, Nat.reduceEqDiff, ↓reduceIte, ntT, ntF] <;> rfl) ?_
    refine W_sq fun K hK => (W_text [true] (by kernel_rfl) ?_); simp only [↓List.toList_toArray, ↓rgd, ↓rgf, ↓reduceIte, Nat.reduceEqDiff, rg, ow_65]
    refine hK _ _ ?_; clear hK K
    refine W_ret ?_
    simp only [andThen_ret]
    exact endQ_1 (by simp only [upd_eq, Nat.reduceEqDiff, ↓reduceIte] <;> rfl) ⟨rfl, n1.ext⟩
  | false =>
    refine W_sq fun K hK => (W_text [true] (by kernel_rfl) ?_); simp only [↓List.toList_toArray, ↓rgd, ↓rgf, ↓reduceIte, Nat.reduceEqDiff, rg, ow_65, e0]
    refine hK _ _ ?_; clear hK K
    refine W_false (by simp only [evt, evc, upd_eq, Nat.reduceEqDiff, ↓reduceIte, ntT, ntF] <;> rfl) (W_skip ?_)
    show W _ _ _ _ _ _
    refine W_sq fun K hK => (W_text [true, true, true] (by kernel_rfl) ?_); simp only [↓List.toList_toArray, ↓rgd, ↓rgf, ↓reduceIte, Nat.reduceEqDiff, rg, ow_65, bx]
    refine hK _ _ ?_; clear hK K
    exact W_ret (endQ_1 (by simp only [upd_eq, Nat.reduceEqDiff, ↓reduceIte] <;> rfl) ⟨rfl, n1.ext⟩)
end Go.Proofs.Ytanmjbkbdmeckaa
/-
  Descending, with a hint or none. No condition.
-/
set_option linter.unusedSimpArgs false
set_option linter.unusedVariables false
namespace Go.Proofs.Ytanmjbkbdmeckaa
open Go Go.Proofs
set_option maxHeartbeats 1000000 in
set_option maxRecDepth 8000 in
theorem impl_BDescendMut (d : Nat) (hd : DOk d) (ord : List Int) (sv : Value) (nl : Bool) (l : List It) (lv : Value) (all : Bool) (q : It) (n : Int) (w : World) (hs : SlInt w sv ord) (hsb : ord.length ≤ 2147483647) (hl : SlI w lv l) (hbig : l.length ≤ 2147483647) :
    CallK Try.prog 40 #[mkV sv d nl, lv, .bool all, iV q, .int .i64 n] w fun v w' => SlI w' v (firstN n (downO ord (pvO all q) (treeG ord l))) ∧ Ext noF w w' := by
  obtain ⟨hd2, hd3⟩ := hd.of
  refine calls_of_W [.tmp 10] Try.func40 rfl Try.ntmps40 Try.results40 (by simp) fun e he => ?_
  have e0 : e 0 = mkV sv d nl := he 0 _ rfl
  have e1 : e 1 = lv := he 1 _ rfl
  have e2 : e 2 = .bool all := he 2 _ rfl
  have e3 : e 3 = iV q := he 3 _ rfl
  have e4 : e 4 = .int .i64 n := he 4 _ rfl
  clear he
  have htl := treeG_len ord l
  refine W_sq fun K hK => (W_text [false, false, true] (by kernel_rfl) ?_); simp only [↓List.toList_toArray, ↓rgd, ↓rgf, ↓reduceIte, Nat.reduceEqDiff, rg, ow_40]
  refine do_box (by simp only [evt]; exact e0) fun w0 n0 => ⟨trivial, ?_⟩
  simp only [↓List.toList_toArray, ↓rgd, ↓rgf, ↓reduceIte, Nat.reduceEqDiff, rg, ow_40]
  refine do_box (by simp only [evt, upd_eq, Nat.reduceEqDiff, ↓reduceIte]; exact e3) fun wq nq => ⟨trivial, ?_⟩
  simp only [↓List.toList_toArray, ↓rgd, ↓rgf, ↓reduceIte, Nat.reduceEqDiff, rg, ow_40]
  refine hK _ _ ?_; clear hK K
  have s0 := n0.size
  have sq := nq.size
  refine W_sq fun K hK => (W_text [false] (by kernel_rfl) ?_); simp only [↓List.toList_toArray, ↓rgd, ↓rgf, ↓reduceIte, Nat.reduceEqDiff, rg, ow_40]
  refine do_alloc z_sl fun w1 n1 => ⟨trivial, ?_⟩
  simp only [↓List.toList_toArray, ↓rgd, ↓rgf, ↓reduceIte, Nat.reduceEqDiff, rg, ow_40]
  refine hK _ _ ?_; clear hK K
  have s1 := n1.size
  have X01 := (n0.ext.tr nq.ext).tr n1.ext
  have rm : rdA w1 w.heap.size 0 3 = some (mkV sv d nl) := ((nq.ext.tr n1.ext).row (show Row w0 w.heap.size 0 [sv, .int .i64 d, .bool nl] from n0.row) fun _ _ h => h).rdA 3 (Nat.le_refl _)
  have iq : rdA w1 w0.heap.size 0 2 = some (iV q) := (n1.ext.row nq.row fun _ _ h => h).rdA 2 (by show 2 ≤ 2; omega)
  have r1 : rd w1 wq.heap.size 0 = some (.slice none 0 0) := (Row.cons.1 n1.row).1
  have k1 := n1.wok
  have M1 : readsB (some (some [w.heap.size, w0.heap.size])) w.heap.size = true := by simp [readsB]
  have M2 : readsB (some (some [w.heap.size, w0.heap.size])) w0.heap.size = true := by simp [readsB]
  have keep : ∀ {a b : World}, Ext noF a b → w1.heap.size ≤ a.heap.size → keeps (some (some [w.heap.size, w0.heap.size])) a b := fun x h => keeps_on x fun y hy => ⟨by
    simp only [List.mem_cons, List.not_mem_nil, or_false] at hy
    omega, fun _ g => g⟩
  clear n1 nq n0
  refine W_sq fun K hK => (W_free (some (some [w.heap.size, w0.heap.size])) (.take 0 (.take 1 (.take 3 (.take 4 (.take 6 (.act 2 (.act 5 (.bar 7 (.bar 8 .nil))))))))) mixed (by kernel_rfl) ?_); simp only [↓List.toList_toArray, ↓rgd, ↓rgf, ↓reduceIte, Nat.reduceEqDiff, rg, ow_40, e1, e2, e4, rm, iq, M1, M2]
  refine do_call fn_53 (by simp only [evt, evc, upd_eq, Nat.reduceEqDiff, ↓reduceIte, maT, maC, maN, isnN, isnS] <;> rfl) (growB_any d hd ord sv nl l lv _ (SlV.ext0 hs (X01.tr (Ext.dr _ _ _))) hsb (SlV.ext0 hl (X01.tr (Ext.dr _ _ _))) (by omega)) ?_
  rintro _ w2 ⟨XG, t, B, m, F, rfl, hbt, htw, hFt, htl2, hM, hmw, hmt, hFw, hBw⟩
  try rw [sz_dr] at htw hmw hFw hBw
  have sG := XG.size
  try rw [sz_dr] at sG
  refine ⟨by first | exact trivial | exact .inr (keep XG (by (try rw [sz_dr]); omega)), ?_⟩
  have XG' := XG.od
  have hlt := hM.lt
  simp only [↓List.toList_toArray, ↓rgd, ↓rgf, ↓reduceIte, Nat.reduceEqDiff, rg, ow_40]
  refine do_call fn_65 (by simp only [evt, evc, upd_eq, Nat.reduceEqDiff, ↓reduceIte, maT, maC, maN, isnN, isnS] <;> rfl) (from_any all q w2) ?_
  rintro _ w3 ⟨rfl, XF⟩
  have sF := XF.size
  refine ⟨by first | exact trivial | exact .inr (keep XF (by omega)), ?_⟩
  simp only [↓List.toList_toArray, ↓rgd, ↓rgf, ↓reduceIte, Nat.reduceEqDiff, rg, ow_40]
  refine do_call fn_66 (vs := #[ptr wq.heap.size, .int .i64 n]) (by simp only [evt, evc, upd_eq, Nat.reduceEqDiff, ↓reduceIte, maT, maC, maN, isnN, isnS] <;> rfl) (takerA_mk wq.heap.size n w3) ?_
  rintro _ w4 ⟨c, pb, nb, rfl, XT, h1, h2, h3, h4, h5, h6, h7, h8, h9⟩
  have sT := XT.size
  refine ⟨by first | exact trivial | exact .inr (keep XT (by omega)), ?_⟩
  simp only [↓List.toList_toArray, ↓rgd, ↓rgf, ↓reduceIte, Nat.reduceEqDiff, rg, ow_40]
  have XX : Ext noF w1 w4 := (XG'.tr XF).tr XT
  have MX : Ext noF _ w4 := XF.tr XT
  have sM := MX.size
  have hml := hM.mlt
  have hR : Ready w.heap.size wq.heap.size c pb nb none B m F n w4 := ⟨XX.rd r1 fun h => h, XX.wok k1, h1, h2, h3, by omega, (fun _ h => by cases h), fun y o hy => ⟨by have := hFw y o hy; omega, by have := hlt y o hy; omega, fun _ h => by cases h⟩⟩
  refine do_call fn_73 (vs := #[ptr t, itO (pvO all q), takeA c]) (by simp only [evt, evc, upd_eq, Nat.reduceEqDiff, ↓reduceIte, maT, maC, maN, isnN, isnS] <;> rfl) (ready_go (fn := 73) (args := fun f => #[ptr t, itO (pvO all q), f]) (n := n) hR (X01.tr XX) rfl (T_DescendMut_s t B m (degOf d) ord hd2 1 (treeG ord l) F (pvO all q) w4 (hM.ext MX) (by omega) (MX.rd hbt fun h => h))) ?_
  rintro _ w9 ⟨X9, sv2, hv, hS⟩
  refine ⟨trivial, ?_⟩
  simp only [↓List.toList_toArray, ↓rgd, ↓rgf, ↓reduceIte, Nat.reduceEqDiff, rg, ow_40]
  refine hK _ _ ?_; clear hK K
  refine W_sq fun K hK => (W_text [true, true] (by kernel_rfl) ?_); simp only [↓List.toList_toArray, ↓rgd, ↓rgf, ↓reduceIte, Nat.reduceEqDiff, rg, ow_40, hv]
  refine hK _ _ ?_; clear hK K
  exact W_ret (endQ_1 (by simp only [upd_eq, Nat.reduceEqDiff, ↓reduceIte] <;> rfl) ⟨hS, X9⟩)
set_option maxHeartbeats 1000000 in
set_option maxRecDepth 8000 in
theorem impl_BDescendHintMut (d : Nat) (hd : DOk d) (ord : List Int) (sv : Value) (nl : Bool) (l : List It) (lv : Value) (all : Bool) (q : It) (n : Int) (w : World) (hs : SlInt w sv ord) (hsb : ord.length ≤ 2147483647) (hl : SlI w lv l) (hbig : l.length ≤ 2147483647) :
    CallK Try.prog 49 #[mkV sv d nl, lv, .bool all, iV q, .int .i64 n] w fun v w' => SlI w' v (firstN n (downO ord (pvO all q) (treeG ord l))) ∧ Ext noF w w' := by
  obtain ⟨hd2, hd3⟩ := hd.of
  refine calls_of_W [.tmp 10] Try.func49 rfl Try.ntmps49 Try.results49 (by simp) fun e he => ?_
  have e0 : e 0 = mkV sv d nl := he 0 _ rfl
  have e1 : e 1 = lv := he 1 _ rfl
  have e2 : e 2 = .bool all := he 2 _ rfl
  have e3 : e 3 = iV q := he 3 _ rfl
  have e4 : e 4 = .int .i64 n := he 4 _ rfl
  clear he
  have htl := treeG_len ord l
  refine W_sq fun K hK => (W_text [false, false, true] (by kernel_rfl) ?_); simp only [↓List.toList_toArray, ↓rgd, ↓rgf, ↓reduceIte, Nat.reduceEqDiff, rg, ow_49]
  refine do_box (by simp only [evt]; exact e0) fun w0 n0 => ⟨trivial, ?_⟩
  simp only [↓List.toList_toArray, ↓rgd, ↓rgf, ↓reduceIte, Nat.reduceEqDiff, rg, ow_49]
  refine do_box (by simp only [evt, upd_eq, Nat.reduceEqDiff, ↓reduceIte]; exact e3) fun wq nq => ⟨trivial, ?_⟩
  simp only [↓List.toList_toArray, ↓rgd, ↓rgf, ↓reduceIte, Nat.reduceEqDiff, rg, ow_49]
  refine hK _ _ ?_; clear hK K
  have s0 := n0.size
  have sq := nq.size
  refine W_sq fun K hK => (W_text [false] (by kernel_rfl) ?_); simp only [↓List.toList_toArray, ↓rgd, ↓rgf, ↓reduceIte, Nat.reduceEqDiff, rg, ow_49]
  refine do_alloc z_sl fun w1 n1 => ⟨trivial, ?_⟩
  simp only [↓List.toList_toArray, ↓rgd, ↓rgf, ↓reduceIte, Nat.reduceEqDiff, rg, ow_49]
  refine hK _ _ ?_; clear hK K
  have s1 := n1.size
  have X01 := (n0.ext.tr nq.ext).tr n1.ext
  have rm : rdA w1 w.heap.size 0 3 = some (mkV sv d nl) := ((nq.ext.tr n1.ext).row (show Row w0 w.heap.size 0 [sv, .int .i64 d, .bool nl] from n0.row) fun _ _ h => h).rdA 3 (Nat.le_refl _)
  have iq : rdA w1 w0.heap.size 0 2 = some (iV q) := (n1.ext.row nq.row fun _ _ h => h).rdA 2 (by show 2 ≤ 2; omega)
  have r1 : rd w1 wq.heap.size 0 = some (.slice none 0 0) := (Row.cons.1 n1.row).1
  have k1 := n1.wok
  have M1 : readsB (some (some [w.heap.size, w0.heap.size])) w.heap.size = true := by simp [readsB]
  have M2 : readsB (some (some [w.heap.size, w0.heap.size])) w0.heap.size = true := by simp [readsB]
  have keep : ∀ {a b : World}, Ext noF a b → w1.heap.size ≤ a.heap.size → keeps (some (some [w.heap.size, w0.heap.size])) a b := fun x h => keeps_on x fun y hy => ⟨by
    simp only [List.mem_cons, List.not_mem_nil, or_false] at hy
    omega, fun _ g => g⟩
  clear n1 nq n0
  refine W_sq fun K hK => (W_free (some (some [w.heap.size, w0.heap.size])) (.take 0 (.take 1 (.take 3 (.take 4 (.take 6 (.split 2 (.split 5 (.split 7 (.act 8 (.bar 9 .nil)) 8 (.act 7 (.bar 9 .nil))) 8 (.act 5 (.act 7 (.bar 9 .nil)))) 8 (.act 2 (.act 5 (.act 7 (.bar 9 .nil)))))))))) mixed (by kernel_rfl) ?_); simp only [↓List.toList_toArray, ↓rgd, ↓rgf, ↓reduceIte, Nat.reduceEqDiff, rg, ow_49, e1, e2, e4, rm, iq, M1, M2]
  refine ⟨?_, ?_⟩
  · refine do_call fn_53 (by simp only [evt, evc, upd_eq, Nat.reduceEqDiff, ↓reduceIte, maT, maC, maN, isnN, isnS] <;> rfl) (growB_any d hd ord sv nl l lv _ (SlV.ext0 hs (X01.tr (Ext.dr _ _ _))) hsb (SlV.ext0 hl (X01.tr (Ext.dr _ _ _))) (by omega)) ?_
    rintro _ w2 ⟨XG, t, B, m, F, rfl, hbt, htw, hFt, htl2, hM, hmw, hmt, hFw, hBw⟩
    try rw [sz_dr] at htw hmw hFw hBw
    have sG := XG.size
    try rw [sz_dr] at sG
    refine ⟨by first | exact trivial | exact .inr (keep XG (by (try rw [sz_dr]); omega)), ?_⟩
    have XG' := XG.od
    have hlt := hM.lt
    simp only [↓List.toList_toArray, ↓rgd, ↓rgf, ↓reduceIte, Nat.reduceEqDiff, rg, ow_49]
    refine ⟨?_, ?_⟩
    · refine do_call fn_65 (by simp only [evt, evc, upd_eq, Nat.reduceEqDiff, ↓reduceIte, maT, maC, maN, isnN, isnS] <;> rfl) (from_any all q w2) ?_
      rintro _ w3 ⟨rfl, XF⟩
      have sF := XF.size
      refine ⟨by first | exact trivial | exact .inr (keep XF (by omega)), ?_⟩
      simp only [↓List.toList_toArray, ↓rgd, ↓rgf, ↓reduceIte, Nat.reduceEqDiff, rg, ow_49]
      refine ⟨?_, ?_⟩
      · refine do_call fn_66 (vs := #[ptr wq.heap.size, .int .i64 n]) (by simp only [evt, evc, upd_eq, Nat.reduceEqDiff, ↓reduceIte, maT, maC, maN, isnN, isnS] <;> rfl) (takerA_mk wq.heap.size n w3) ?_
        rintro _ w4 ⟨c, pb, nb, rfl, XT, h1, h2, h3, h4, h5, h6, h7, h8, h9⟩
        have sT := XT.size
        refine ⟨by first | exact trivial | exact .inr (keep XT (by omega)), ?_⟩
        simp only [↓List.toList_toArray, ↓rgd, ↓rgf, ↓reduceIte, Nat.reduceEqDiff, rg, ow_49]
        refine do_alloc z_hint fun w5 nh => ⟨by first | exact trivial | exact .inr (keep nh.ext (by (try rw [sz_dr]); omega)), ?_⟩
        have sH := nh.size
        have H := hint_new nh
        try rw [sz_dr] at sH H
        simp only [↓List.toList_toArray, ↓rgd, ↓rgf, ↓reduceIte, Nat.reduceEqDiff, rg, ow_49]
        have XX : Ext noF w1 w5 := ((XG'.tr XF).tr XT).tr nh.ext
        have MX : Ext noF _ w5 := (XF.tr XT).tr nh.ext
        have sM := MX.size
        have hml := hM.mlt
        have hR : Ready w.heap.size wq.heap.size c pb nb (some w4.heap.size) B m F n w5 := ⟨XX.rd r1 fun h => h, XX.wok k1, (nh.ext).rd h1 fun h => h, (nh.ext).rd h2 fun h => h, (nh.ext).rd h3 fun h => h, by omega, (fun _ h => by cases h; omega), fun y o hy => ⟨by have := hFw y o hy; omega, by have := hlt y o hy; omega, fun _ h => by cases h; have := hFw y o hy; have := hlt y o hy; omega⟩⟩
        refine do_call fn_82 (vs := #[ptr t, itO (pvO all q), takeA c, hV (some w4.heap.size)]) (by simp only [hV_some, evt, evc, upd_eq, Nat.reduceEqDiff, ↓reduceIte, maT, maC, maN, isnN, isnS] <;> rfl) (ready_go (fn := 82) (args := fun f => #[ptr t, itO (pvO all q), f, hV (some w4.heap.size)]) (n := n) hR (X01.tr XX) rfl (T_DescendHintMut_s t B m (degOf d) ord hd2 1 (treeG ord l) F (pvO all q) (some w4.heap.size) w5 (hM.ext MX) (fun y h => by cases h; exact H) (by omega) (MX.rd hbt fun h => h))) ?_
        rintro _ w9 ⟨X9, sv2, hv, hS⟩
        refine ⟨trivial, ?_⟩
        simp only [↓List.toList_toArray, ↓rgd, ↓rgf, ↓reduceIte, Nat.reduceEqDiff, rg, ow_49]
        refine hK _ _ ?_; clear hK K
        refine W_sq fun K hK => (W_text [true, true] (by kernel_rfl) ?_); simp only [↓List.toList_toArray, ↓rgd, ↓rgf, ↓reduceIte, Nat.reduceEqDiff, rg, ow_49, hv]
        refine hK _ _ ?_; clear hK K
        exact W_ret (endQ_1 (by simp only [upd_eq, Nat.reduceEqDiff, ↓reduceIte] <;> rfl) ⟨hS, X9⟩)
      · refine do_alloc z_hint fun w4 nh => ⟨by first | exact trivial | exact .inr (keep nh.ext (by (try rw [sz_dr]); omega)), ?_⟩
        have sH := nh.size
        have H := hint_new nh
        try rw [sz_dr] at sH H
        simp only [↓List.toList_toArray, ↓rgd, ↓rgf, ↓reduceIte, Nat.reduceEqDiff, rg, ow_49]
        refine do_call fn_66 (vs := #[ptr wq.heap.size, .int .i64 n]) (by simp only [evt, evc, upd_eq, Nat.reduceEqDiff, ↓reduceIte, maT, maC, maN, isnN, isnS] <;> rfl) (takerA_mk wq.heap.size n w4) ?_
        rintro _ w5 ⟨c, pb, nb, rfl, XT, h1, h2, h3, h4, h5, h6, h7, h8, h9⟩
        have sT := XT.size
        refine ⟨by first | exact trivial | exact .inr (keep XT (by omega)), ?_⟩
        simp only [↓List.toList_toArray, ↓rgd, ↓rgf, ↓reduceIte, Nat.reduceEqDiff, rg, ow_49]
        have XX : Ext noF w1 w5 := ((XG'.tr XF).tr nh.ext).tr XT
        have MX : Ext noF _ w5 := (XF.tr nh.ext).tr XT
        have sM := MX.size
        have hml := hM.mlt
        have hR : Ready w.heap.size wq.heap.size c pb nb (some w3.heap.size) B m F n w5 := ⟨XX.rd r1 fun h => h, XX.wok k1, h1, h2, h3, by omega, (fun _ h => by cases h; omega), fun y o hy => ⟨by have := hFw y o hy; omega, by have := hlt y o hy; omega, fun _ h => by cases h; have := hFw y o hy; have := hlt y o hy; omega⟩⟩
        refine do_call fn_82 (vs := #[ptr t, itO (pvO all q), takeA c, hV (some w3.heap.size)]) (by simp only [hV_some, evt, evc, upd_eq, Nat.reduceEqDiff, ↓reduceIte, maT, maC, maN, isnN, isnS] <;> rfl) (ready_go (fn := 82) (args := fun f => #[ptr t, itO (pvO all q), f, hV (some w3.heap.size)]) (n := n) hR (X01.tr XX) rfl (T_DescendHintMut_s t B m (degOf d) ord hd2 1 (treeG ord l) F (pvO all q) (some w3.heap.size) w5 (hM.ext MX) (fun y h => by cases h; exact H.ext XT fun _ h => h) (by omega) (MX.rd hbt fun h => h))) ?_
        rintro _ w9 ⟨X9, sv2, hv, hS⟩
        refine ⟨trivial, ?_⟩
        simp only [↓List.toList_toArray, ↓rgd, ↓rgf, ↓reduceIte, Nat.reduceEqDiff, rg, ow_49]
        refine hK _ _ ?_; clear hK K
        refine W_sq fun K hK => (W_text [true, true] (by kernel_rfl) ?_); simp only [↓List.toList_toArray, ↓rgd, ↓rgf, ↓reduceIte, Nat.reduceEqDiff, rg, ow_49, hv]
        refine hK _ _ ?_; clear hK K
        exact W_ret (endQ_1 (by simp only [upd_eq, Nat.reduceEqDiff, ↓reduceIte] <;> rfl) ⟨hS, X9⟩)
    · refine do_alloc z_hint fun w3 nh => ⟨by first | exact trivial | exact .inr (keep nh.ext (by (try rw [sz_dr]); omega)), ?_⟩
      have sH := nh.size
      have H := hint_new nh
      try rw [sz_dr] at sH H
      simp only [↓List.toList_toArray, ↓rgd, ↓rgf, ↓reduceIte, Nat.reduceEqDiff, rg, ow_49]
      refine do_call fn_65 (by simp only [evt, evc, upd_eq, Nat.reduceEqDiff, ↓reduceIte, maT, maC, maN, isnN, isnS] <;> rfl) (from_any all q w3) ?_
      rintro _ w4 ⟨rfl, XF⟩
      have sF := XF.size
      refine ⟨by first | exact trivial | exact .inr (keep XF (by omega)), ?_⟩
      simp only [↓List.toList_toArray, ↓rgd, ↓rgf, ↓reduceIte, Nat.reduceEqDiff, rg, ow_49]
      refine do_call fn_66 (vs := #[ptr wq.heap.size, .int .i64 n]) (by simp only [evt, evc, upd_eq, Nat.reduceEqDiff, ↓reduceIte, maT, maC, maN, isnN, isnS] <;> rfl) (takerA_mk wq.heap.size n w4) ?_
      rintro _ w5 ⟨c, pb, nb, rfl, XT, h1, h2, h3, h4, h5, h6, h7, h8, h9⟩
      have sT := XT.size
      refine ⟨by first | exact trivial | exact .inr (keep XT (by omega)), ?_⟩
      simp only [↓List.toList_toArray, ↓rgd, ↓rgf, ↓reduceIte, Nat.reduceEqDiff, rg, ow_49]
      have XX : Ext noF w1 w5 := ((XG'.tr nh.ext).tr XF).tr XT
      have MX : Ext noF _ w5 := (nh.ext.tr XF).tr XT
      have sM := MX.size
      have hml := hM.mlt
      have hR : Ready w.heap.size wq.heap.size c pb nb (some w2.heap.size) B m F n w5 := ⟨XX.rd r1 fun h => h, XX.wok k1, h1, h2, h3, by omega, (fun _ h => by cases h; omega), fun y o hy => ⟨by have := hFw y o hy; omega, by have := hlt y o hy; omega, fun _ h => by cases h; have := hFw y o hy; have := hlt y o hy; omega⟩⟩
      refine do_call fn_82 (vs := #[ptr t, itO (pvO all q), takeA c, hV (some w2.heap.size)]) (by simp only [hV_some, evt, evc, upd_eq, Nat.reduceEqDiff, ↓reduceIte, maT, maC, maN, isnN, isnS] <;> rfl) (ready_go (fn := 82) (args := fun f => #[ptr t, itO (pvO all q), f, hV (some w2.heap.size)]) (n := n) hR (X01.tr XX) rfl (T_DescendHintMut_s t B m (degOf d) ord hd2 1 (treeG ord l) F (pvO all q) (some w2.heap.size) w5 (hM.ext MX) (fun y h => by cases h; exact H.ext (XF.tr XT) fun _ h => h) (by omega) (MX.rd hbt fun h => h))) ?_
      rintro _ w9 ⟨X9, sv2, hv, hS⟩
      refine ⟨trivial, ?_⟩
      simp only [↓List.toList_toArray, ↓rgd, ↓rgf, ↓reduceIte, Nat.reduceEqDiff, rg, ow_49]
      refine hK _ _ ?_; clear hK K
      refine W_sq fun K hK => (W_text [true, true] (by kernel_rfl) ?_); simp only [↓List.toList_toArray, ↓rgd, ↓rgf, ↓reduceIte, Nat.reduceEqDiff, rg, ow_49, hv]
      refine hK _ _ ?_; clear hK K
      exact W_ret (endQ_1 (by simp only [upd_eq, Nat.reduceEqDiff, ↓reduceIte] <;> rfl) ⟨hS, X9⟩)
  · refine do_alloc z_hint fun w2 nh => ⟨by first | exact trivial | exact .inr (keep nh.ext (by (try rw [sz_dr]); omega)), ?_⟩
    have sH := nh.size
    have H := hint_new nh
    try rw [sz_dr] at sH H
    simp only [↓List.toList_toArray, ↓rgd, ↓rgf, ↓reduceIte, Nat.reduceEqDiff, rg, ow_49]
    have XH := nh.ext.od
    refine do_call fn_53 (by simp only [evt, evc, upd_eq, Nat.reduceEqDiff, ↓reduceIte, maT, maC, maN, isnN, isnS] <;> rfl) (growB_any d hd ord sv nl l lv w2 (SlV.ext0 hs (X01.tr XH)) hsb (SlV.ext0 hl (X01.tr XH)) (by omega)) ?_
    rintro _ w3 ⟨XG, t, B, m, F, rfl, hbt, htw, hFt, htl2, hM, hmw, hmt, hFw, hBw⟩
    try rw [sz_dr] at htw hmw hFw hBw
    have sG := XG.size
    try rw [sz_dr] at sG
    refine ⟨by first | exact trivial | exact .inr (keep XG (by (try rw [sz_dr]); omega)), ?_⟩
    have XG' := XG.od
    have hlt := hM.lt
    simp only [↓List.toList_toArray, ↓rgd, ↓rgf, ↓reduceIte, Nat.reduceEqDiff, rg, ow_49]
    refine do_call fn_65 (by simp only [evt, evc, upd_eq, Nat.reduceEqDiff, ↓reduceIte, maT, maC, maN, isnN, isnS] <;> rfl) (from_any all q w3) ?_
    rintro _ w4 ⟨rfl, XF⟩
    have sF := XF.size
    refine ⟨by first | exact trivial | exact .inr (keep XF (by omega)), ?_⟩
    simp only [↓List.toList_toArray, ↓rgd, ↓rgf, ↓reduceIte, Nat.reduceEqDiff, rg, ow_49]
    refine do_call fn_66 (vs := #[ptr wq.heap.size, .int .i64 n]) (by simp only [evt, evc, upd_eq, Nat.reduceEqDiff, ↓reduceIte, maT, maC, maN, isnN, isnS] <;> rfl) (takerA_mk wq.heap.size n w4) ?_
    rintro _ w5 ⟨c, pb, nb, rfl, XT, h1, h2, h3, h4, h5, h6, h7, h8, h9⟩
    have sT := XT.size
    refine ⟨by first | exact trivial | exact .inr (keep XT (by omega)), ?_⟩
    simp only [↓List.toList_toArray, ↓rgd, ↓rgf, ↓reduceIte, Nat.reduceEqDiff, rg, ow_49]
    have XX : Ext noF w1 w5 := ((XH.tr XG').tr XF).tr XT
    have MX : Ext noF _ w5 := XF.tr XT
    have sM := MX.size
    have hml := hM.mlt
    have hR : Ready w.heap.size wq.heap.size c pb nb (some w1.heap.size) B m F n w5 := ⟨XX.rd r1 fun h => h, XX.wok k1, h1, h2, h3, by omega, (fun _ h => by cases h; omega), fun y o hy => ⟨by have := hFw y o hy; omega, by have := hlt y o hy; omega, fun _ h => by cases h; have := hFw y o hy; have := hlt y o hy; omega⟩⟩
    refine do_call fn_82 (vs := #[ptr t, itO (pvO all q), takeA c, hV (some w1.heap.size)]) (by simp only [hV_some, evt, evc, upd_eq, Nat.reduceEqDiff, ↓reduceIte, maT, maC, maN, isnN, isnS] <;> rfl) (ready_go (fn := 82) (args := fun f => #[ptr t, itO (pvO all q), f, hV (some w1.heap.size)]) (n := n) hR (X01.tr XX) rfl (T_DescendHintMut_s t B m (degOf d) ord hd2 1 (treeG ord l) F (pvO all q) (some w1.heap.size) w5 (hM.ext MX) (fun y h => by cases h; exact H.ext ((XG.tr XF).tr XT) fun _ h => h) (by omega) (MX.rd hbt fun h => h))) ?_
    rintro _ w9 ⟨X9, sv2, hv, hS⟩
    refine ⟨trivial, ?_⟩
    simp only [↓List.toList_toArray, ↓rgd, ↓rgf, ↓reduceIte, Nat.reduceEqDiff, rg, ow_49]
    refine hK _ _ ?_; clear hK K
    refine W_sq fun K hK => (W_text [true, true] (by kernel_rfl) ?_); simp only [↓List.toList_toArray, ↓rgd, ↓rgf, ↓reduceIte, Nat.reduceEqDiff, rg, ow_49, hv]
    refine hK _ _ ?_; clear hK K
    exact W_ret (endQ_1 (by simp only [upd_eq, Nat.reduceEqDiff, ↓reduceIte] <;> rfl) ⟨hS, X9⟩)
end Go.Proofs.Ytanmjbkbdmeckaa
