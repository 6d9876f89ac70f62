/-
  Handing on the items of a tree from a key on. No condition.
-/
import Derived.Test.YtanmjbkbdmeckaaZ0b558072
import Derived.Test.YtanmjbkbdmeckaaZA
import Derived.Test.YtanmjbkbdmeckaaZc18f8ce5
import Derived.Test.YtanmjbkbdmeckaaZ0e15e4a4
/-
  The search in a node of a tree, with a hint or without one. No condition.
-/
set_option linter.unusedSimpArgs false
set_option linter.unusedVariables false
namespace Go.Proofs.Ytanmjbkbdmeckaa
open Go Go.Proofs
/-- A hint's cells. -/
structure HintAt (w : World) (hb : Nat) : Prop where
  wok : wok w hb 16
  used : ∀ i, i < 8 → ∃ u : Bool, rd w hb i = some (.bool u)
  path : ∀ i, i < 8 → ∃ p : Nat, p < 256 ∧ rd w hb (8 + i) = some (.int .u8 p)
theorem HintAt.ext {w w' : World} {G : Nat → Nat → Prop} {hb : Nat} (h : HintAt w hb) (x : Ext G w w') (hG : ∀ o, ¬ G hb o) : HintAt w' hb :=
  ⟨x.wok h.wok, fun i hi => (h.used i hi).imp fun _ g => x.rd g (hG _), fun i hi => (h.path i hi).imp fun _ g => ⟨g.1, x.rd g.2 (hG _)⟩⟩
theorem HintAt.setU {w w' : World} {hb i : Nat} {u : Bool} (h : HintAt w hb) (x : Ext (rng hb i 1) w w') (r : rd w' hb i = some (.bool u)) (hi : i < 8) : HintAt w' hb :=
  ⟨x.wok h.wok, fun j hj => by
    by_cases hij : j = i
    · subst hij; exact ⟨u, r⟩
    · exact (h.used j hj).imp fun _ g => x.rd g (by simp only [rng]; omega), fun j hj => (h.path j hj).imp fun _ g => ⟨g.1, x.rd g.2 (by simp only [rng]; omega)⟩⟩
theorem HintAt.setP {w w' : World} {hb i p : Nat} (h : HintAt w hb) (x : Ext (rng hb (8 + i) 1) w w') (r : rd w' hb (8 + i) = some (.int .u8 p)) (hp : p < 256) : HintAt w' hb :=
  ⟨x.wok h.wok, fun j hj => (h.used j hj).imp fun _ g => x.rd g (by simp only [rng]; omega), fun j hj => by
    by_cases hij : j = i
    · subst hij; exact ⟨p, hp, r⟩
    · exact (h.path j hj).imp fun _ g => ⟨g.1, x.rd g.2 (by simp only [rng]; omega)⟩⟩
/-- The cells of a hint, if there is one. -/
def hF (hp : Option Nat) : Nat → Nat → Prop := fun y _ => hp = some y
def hV (hp : Option Nat) : Value := .pointer (hp.map fun b => ⟨b, 0, none⟩)
theorem hV_none : hV none = .pointer none := id (Eq.trans rfl rfl)
theorem hV_some (b : Nat) : hV (some b) = ptr b := id (Eq.trans rfl rfl)
def HOk (hp : Option Nat) (w : World) : Prop := ∀ hb, hp = some hb → HintAt w hb
theorem HOk.ext {w w' : World} {G : Nat → Nat → Prop} {hp : Option Nat} (h : HOk hp w) (x : Ext G w w') (hG : ∀ hb, hp = some hb → ∀ o, ¬ G hb o) : HOk hp w' := fun hb e => (h hb e).ext x (hG hb e)
theorem HOk.ext0 {w w' : World} {hp : Option Nat} (h : HOk hp w) (x : Ext noF w w') : HOk hp w' := h.ext x fun _ _ _ g => g
theorem HOk.none (w : World) : HOk none w := fun _ h => by cases h
theorem u8_of (n : Int) : ∃ p : Nat, IntKind.u8.wrap n = p ∧ p < 256 := by
  have h1 : 0 ≤ IntKind.u8.wrap n := by rw [IntKind.wrap_u8]; omega
  have h2 : IntKind.u8.wrap n < 256 := by rw [IntKind.wrap_u8]; omega
  exact ⟨(IntKind.u8.wrap n).toNat, by omega, by omega⟩
set_option maxHeartbeats 400000 in
set_option maxRecDepth 8000 in
theorem less_any (B m : Nat) (ord : List Int) (a b : It) (w : World) (hL : Ls B m w ord) :
    CallK Try.prog 123 #[ptr m, itV a, itV b] w fun v w' => v = .bool (O.lt (rkI ord a) (rkI ord b)) ∧ Ext noF w w' := by
  refine calls_of_W [.tmp 6] Try.func123 rfl Try.ntmps123 Try.results123 (by simp) fun e he => ?_
  have e0 : e 0 = ptr m := he 0 _ rfl
  have e1 : e 1 = itV a := he 1 _ rfl
  have e2 : e 2 = itV b := he 2 _ rfl
  clear he
  refine W_sq fun K hK => (W_text [true] (by kernel_rfl) ?_); simp only [↓List.toList_toArray, ↓rgd, ↓rgf, ↓reduceIte, Nat.reduceEqDiff, rg, ow_123]
  refine hK _ _ ?_; clear hK K
  obtain ⟨lv, hlv, hless, hBm⟩ := id hL
  have M1 : readsB (some (some [m])) m = true := by simp [readsB]
  have hml := rd_lt hlv
  refine W_sq fun K hK => (W_text [true, true, true, true, true, true, false, true] (by kernel_rfl) ?_); simp only [↓List.toList_toArray, ↓rgd, ↓rgf, ↓reduceIte, Nat.reduceEqDiff, rg, ow_123, e0, e1, e2, ptr_eq, hlv, M1]
  refine do_callW (by simp only [evt, evc, upd_eq, Nat.reduceEqDiff, ↓reduceIte, ntT, ntF] <;> rfl) (by simp only [evt, evc, upd_eq, Nat.reduceEqDiff, ↓reduceIte, maT, maC, maN, isnN, isnS] <;> rfl) (before_any B lv ord a b _ (hless.ext (G := noF) (Ext.dr _ _ _) fun _ _ g => g.elim)) ?_
  rintro _ w3 ⟨rfl, x3⟩
  refine ⟨trivial, ?_⟩
  simp only [↓List.toList_toArray, ↓rgd, ↓rgf, ↓reduceIte, Nat.reduceEqDiff, rg, ow_123]
  refine hK _ _ ?_; clear hK K
  exact W_ret (endQ_1 (by simp only [upd_eq, Nat.reduceEqDiff, ↓reduceIte] <;> rfl) ⟨rfl, x3.od⟩)
set_option maxHeartbeats 400000 in
theorem hi_sub (hi : Nat) (h : hi < 4611686018427387904) : IntKind.i64.wrap ((hi : Int) - 1) = (hi : Int) - 1 := IntWalk.i64_in _ (by omega)
theorem hi_add (hi : Nat) (h : hi < 4611686018427387904) : IntKind.i64.wrap ((hi : Int) - 1 + 1) = (hi : Int) := by rw [IntWalk.i64_in _ (by omega)]; omega
theorem u8_i64 (p : Nat) (h : p < 256) : IntKind.i64.wrap (p : Int) = p := IntWalk.i64_in _ (by omega)
set_option maxHeartbeats 1600000 in
set_option maxRecDepth 8000 in
theorem hint_any (B m b bi oi cap : Nat) (ord : List Int) (ks : List It) (x : It) (ch : Option Addr) (hb dep : Nat) (w : World) (hL : Ls B m w ord) (h2 : rd w b 2 = some (.slice (some ⟨bi, oi, none⟩) ks.length cap)) (h3 : rd w b 3 = some (.pointer ch))
    (row : Row w bi oi (flat E ks)) (hbi : bi < w.heap.size) (hlen : ks.length < 4611686018427387904) (hpos : 0 < ks.length) (ha : Asc O (rkI ord) ks) (hH : HintAt w hb) (hne : hb ≠ b) :
    CallK Try.prog 172 #[ptr m, ptr b, itV x, ptr hb, .int .i64 dep] w fun v w' => v = srchG ord ks x ∧ Ext (hF (some hb)) w w' ∧ HintAt w' hb := by
  refine calls_of_W [.tmp 10, .tmp 11] Try.func172 rfl Try.ntmps172 Try.results172 (by simp) fun e he => ?_
  have e0 : e 0 = ptr m := he 0 _ rfl
  have e1 : e 1 = ptr b := he 1 _ rfl
  have e2 : e 2 = itV x := he 2 _ rfl
  have e3 : e 3 = ptr hb := he 3 _ rfl
  have e4 : e 4 = .int .i64 dep := he 4 _ rfl
  clear he
  refine W_sq fun K hK => (W_text [true, true] (by kernel_rfl) ?_); simp only [↓List.toList_toArray, ↓rgd, ↓rgf, ↓reduceIte, Nat.reduceEqDiff, rg, ow_172]
  refine hK _ _ ?_; clear hK K
  have hbl := rd_lt h2
  have hhl := wok_lt hH.wok
  have X1 : Ext noF w w := Ext.refl _ _
  obtain ⟨-, -, -, hBm⟩ := id hL
  have hml : m < w.heap.size := by obtain ⟨lv, hlv, -⟩ := id hL; exact rd_lt hlv
  refine W_fwd 0 (fun e w' => Ext noF w w' ∧ e 1 = ptr b ∧ e 3 = ptr hb ∧ e 4 = .int .i64 dep ∧ e 10 = .int .i64 (lb O (rkI ord) (rkI ord x) ks : Nat) ∧ e 11 = .bool (hit O (rkI ord) (rkI ord x) ks)) rfl ?_ ?_
  · clear e0 e1 e2 e3 e4 e
    rintro e w' ⟨XW, e1, e3, e4, e10, e11⟩
    have XX : Ext noF w w' := X1.tr XW
    have hH' := hH.ext XW fun _ g => g
    have h3' := XW.rd h3 fun g => g
    have h2' := XW.rd h2 fun g => g
    have hn0 : ∀ o, ¬ rng hb o 1 b 3 := fun o g => hne g.1.symm
    refine W_sqx fun K hK => ?_
    have hend : ∀ (e : Env) (w2 : World), e 10 = .int .i64 (lb O (rkI ord) (rkI ord x) ks : Nat) → e 11 = .bool (hit O (rkI ord) (rkI ord x) ks) → Ext (hF (some hb)) w w2 → HintAt w2 hb → K e w2 := by
      intro e w2 e10 e11 X H
      refine hK _ _ ?_; clear hK K
      refine W_sq fun K hK => (W_text [true, true, true, true] (by kernel_rfl) ?_); simp only [↓List.toList_toArray, ↓rgd, ↓rgf, ↓reduceIte, Nat.reduceEqDiff, rg, ow_172, e10, e11]
      refine hK _ _ ?_; clear hK K
      refine W_ret ?_
      rw [jump_ret]
      exact endQ_2 (by simp only [upd_eq, Nat.reduceEqDiff, ↓reduceIte]) (by simp only [upd_eq, Nat.reduceEqDiff, ↓reduceIte]) ⟨rfl, X.tr (Ext.dr _ _ _), H.ext (Ext.dr noF _ _) fun _ g => g⟩
    clear hK
    have XH : Ext (hF (some hb)) w w' := XX.mono fun _ _ _ g => g.elim
    by_cases hd : dep < 8
    · have td : decide ((dep : Int) < 8) = true := by simp; omega
      refine W_sq fun K hK => (W_text [true, true] (by kernel_rfl) ?_); simp only [↓List.toList_toArray, ↓rgd, ↓rgf, ↓reduceIte, Nat.reduceEqDiff, rg, ow_172, e4, td]
      refine hK _ _ ?_; clear hK K
      refine W_true (by simp only [evt, evc, upd_eq, Nat.reduceEqDiff, ↓reduceIte, ntT, ntF] <;> rfl) ?_
      refine W_sq fun K hK => (W_text [true, true, true, true, true, false] (by kernel_rfl) ?_); simp only [↓List.toList_toArray, ↓rgd, ↓rgf, ↓reduceIte, Nat.reduceEqDiff, rg, ow_172, e3, e4, ptr_eq, idx_ar, idxA_s, hd]
      refine do_store (v := .bool true) (by simp only [evt, evc, upd_eq, Nat.reduceEqDiff, ↓reduceIte, ntT, ntF] <;> rfl) (by simp only [evt, evc, upd_eq, Nat.reduceEqDiff, ↓reduceIte, ntT, ntF] <;> rfl) sz_4 rfl hH'.wok (by omega) (oc_one rfl rfl) fun w2 x2 r2 s2 => ⟨trivial, ?_⟩
      simp only [↓List.toList_toArray, ↓rgd, ↓rgf, ↓reduceIte, Nat.reduceEqDiff, rg, ow_172]
      refine hK _ _ ?_; clear hK K
      have hH2 := hH'.setU x2 (Row.cons.1 r2).1 hd
      have XH2 := XH.trans x2 (fun _ _ g => g) fun y o _ g => (show hF (some hb) y o from by rw [g.1]; rfl)
      have h3'' : rd w2 b 3 = some (.pointer ch) := x2.rd h3' fun g => hne g.1.symm
      refine W_sq fun K hK => (W_text [true] (by kernel_rfl) ?_); simp only [↓List.toList_toArray, ↓rgd, ↓rgf, ↓reduceIte, Nat.reduceEqDiff, rg, ow_172]
      refine hK _ _ ?_; clear hK K
      refine W_sqx fun K hK => ?_
      have hst : ∀ (e : Env) (k p : Nat), p < 256 → e 3 = ptr hb → e 4 = .int .i64 dep → e 10 = .int .i64 (lb O (rkI ord) (rkI ord x) ks : Nat) → e 11 = .bool (hit O (rkI ord) (rkI ord x) ks) → e 15 = .int .u8 p → K e (dr w2 k) := by
        intro e k p hp e3 e4 e10 e11 e15
        refine hK _ _ ?_; clear hK K
        obtain ⟨p0, hp0, hr0⟩ := hH2.path dep hd
        by_cases hpe : p = p0
        · have tp : ((p : Int) != (p0 : Int)) = false := by simp; omega
          refine W_sq fun K hK => (W_text [true, true, true, true, true, true, true, true] (by kernel_rfl) ?_); simp only [↓List.toList_toArray, ↓rgd, ↓rgf, ↓reduceIte, Nat.reduceEqDiff, rg, ow_172, e3, e4, e15, ptr_eq, idx_ar, idxA_s, hd, hr0, tp]
          refine hK _ _ ?_; clear hK K
          refine W_false (by simp only [evt, evc, upd_eq, Nat.reduceEqDiff, ↓reduceIte, ntT, ntF] <;> rfl) (W_skip ?_)
          simp only [andThen_normal]
          exact hend _ _ (by simp only [upd_eq, Nat.reduceEqDiff, ↓reduceIte]; exact e10) (by simp only [upd_eq, Nat.reduceEqDiff, ↓reduceIte]; exact e11) (XH2.tr (Ext.dr _ _ _)) (hH2.ext (Ext.dr noF _ _) fun _ g => g)
        · have tp : ((p : Int) != (p0 : Int)) = true := by simp; omega
          refine W_sq fun K hK => (W_text [true, true, true, true, true, true, true, true] (by kernel_rfl) ?_); simp only [↓List.toList_toArray, ↓rgd, ↓rgf, ↓reduceIte, Nat.reduceEqDiff, rg, ow_172, e3, e4, e15, ptr_eq, idx_ar, idxA_s, hd, hr0, tp]
          refine hK _ _ ?_; clear hK K
          refine W_true (by simp only [evt, evc, upd_eq, Nat.reduceEqDiff, ↓reduceIte, ntT, ntF] <;> rfl) ?_
          refine W_sq fun K hK => (W_text [true, true, true, true, true, true, false] (by kernel_rfl) ?_); simp only [↓List.toList_toArray, ↓rgd, ↓rgf, ↓reduceIte, Nat.reduceEqDiff, rg, ow_172, e3, e4, e15, ptr_eq, idx_ar, idxA_s, hd]
          refine do_store (v := .int .u8 p) (by simp only [evt, evc, upd_eq, Nat.reduceEqDiff, ↓reduceIte, ntT, ntF] <;> rfl) (by simp only [evt, evc, upd_eq, Nat.reduceEqDiff, ↓reduceIte, ntT, ntF] <;> rfl) sz_5 rfl hH2.wok (by omega) (oc_one rfl rfl) fun w3 x3 r3 s3 => ⟨trivial, ?_⟩
          simp only [↓List.toList_toArray, ↓rgd, ↓rgf, ↓reduceIte, Nat.reduceEqDiff, rg, ow_172]
          refine hK _ _ ?_; clear hK K
          have hH3 := hH2.setP x3.od (Row.cons.1 r3).1 hp
          have XH3 := XH2.trans x3.od (fun _ _ g => g) fun y o _ g => (show hF (some hb) y o from by rw [g.1]; rfl)
          have q1 := wadd1 dep (by omega)
          refine W_sq fun K hK => (W_text [true, true, true] (by kernel_rfl) ?_); simp only [↓List.toList_toArray, ↓rgd, ↓rgf, ↓reduceIte, Nat.reduceEqDiff, rg, ow_172, e4, q1]
          refine hK _ _ ?_; clear hK K
          refine W_block (W_loop (fun mm e w' => ∃ i : Nat, mm = 8 - i ∧ e 3 = ptr hb ∧ e 10 = .int .i64 (lb O (rkI ord) (rkI ord x) ks : Nat) ∧ e 11 = .bool (hit O (rkI ord) (rkI ord x) ks) ∧ e 16 = .int .i64 i ∧ Ext (hF (some hb)) w w' ∧ HintAt w' hb)
            (8 - (dep + 1)) ⟨dep + 1, rfl, by simp only [upd_eq, Nat.reduceEqDiff, ↓reduceIte]; exact e3, by simp only [upd_eq, Nat.reduceEqDiff, ↓reduceIte]; exact e10, by simp only [upd_eq, Nat.reduceEqDiff, ↓reduceIte]; exact e11, by simp only [upd_eq, Nat.reduceEqDiff, ↓reduceIte], XH3.tr (Ext.dr _ _ _), hH3.ext (Ext.dr noF _ _) fun _ g => g⟩ ?_)
          clear e3 e4 e10 e11 e15 e XH3 hH3 XH2
          rintro mm e w' ⟨i, rfl, e3, e10, e11, e16, XL, hL'⟩
          refine W_seq ?_
          by_cases hi : i < 8
          · have ti : decide ((i : Int) < 8) = true := by simp; omega
            refine W_sq fun K hK => (W_text [true, true] (by kernel_rfl) ?_); simp only [↓List.toList_toArray, ↓rgd, ↓rgf, ↓reduceIte, Nat.reduceEqDiff, rg, ow_172, e16, ti]
            refine hK _ _ ?_; clear hK K
            refine W_true (by simp only [evt, evc, upd_eq, Nat.reduceEqDiff, ↓reduceIte, ntT, ntF] <;> rfl) (W_skip ?_)
            show W _ _ _ _ _ _
            refine W_seq (W_block ?_)
            refine W_rg fun K hK => (W_text [true, true, true, true, true, false] (by kernel_rfl) ?_); simp only [↓List.toList_toArray, ↓rgd, ↓rgf, ↓reduceIte, Nat.reduceEqDiff, rg, ow_172, e3, e16, ptr_eq, idx_ar, idxA_s, hi]
            refine do_store (v := .bool false) (by simp only [evt, evc, upd_eq, Nat.reduceEqDiff, ↓reduceIte, ntT, ntF] <;> rfl) (by simp only [evt, evc, upd_eq, Nat.reduceEqDiff, ↓reduceIte, ntT, ntF] <;> rfl) sz_4 rfl hL'.wok (by omega) (oc_one rfl rfl) fun w4 x4 r4 s4 => ⟨trivial, ?_⟩
            simp only [↓List.toList_toArray, ↓rgd, ↓rgf, ↓reduceIte, Nat.reduceEqDiff, rg, ow_172]
            refine hK _ _ ?_; clear hK K
            show W _ _ _ _ _ _
            have q2 := wadd1 i (by omega)
            refine W_rg fun K hK => (W_text [true, true, true] (by kernel_rfl) ?_); simp only [↓List.toList_toArray, ↓rgd, ↓rgf, ↓reduceIte, Nat.reduceEqDiff, rg, ow_172, e16, q2]
            refine hK _ _ ?_; clear hK K
            refine ⟨_, ?_, i + 1, rfl, by simp only [upd_eq, Nat.reduceEqDiff, ↓reduceIte]; exact e3, by simp only [upd_eq, Nat.reduceEqDiff, ↓reduceIte]; exact e10, by simp only [upd_eq, Nat.reduceEqDiff, ↓reduceIte]; exact e11, by simp only [upd_eq, Nat.reduceEqDiff, ↓reduceIte], (XL.trans x4.od (fun _ _ g => g) fun y o _ g => (show hF (some hb) y o from by rw [g.1]; rfl)).tr (Ext.dr _ _ _), (hL'.setU x4.od (Row.cons.1 r4).1 hi).ext (Ext.dr noF _ _) fun _ g => g⟩
            omega
          · have ti : decide ((i : Int) < 8) = false := by simp; omega
            refine W_sq fun K hK => (W_text [true, true] (by kernel_rfl) ?_); simp only [↓List.toList_toArray, ↓rgd, ↓rgf, ↓reduceIte, Nat.reduceEqDiff, rg, ow_172, e16, ti]
            refine hK _ _ ?_; clear hK K
            refine W_false (by simp only [evt, evc, upd_eq, Nat.reduceEqDiff, ↓reduceIte, ntT, ntF] <;> rfl) (W_exit ?_)
            simp only [andThen_exit, inBlk_exit, andThen_normal, ↓reduceIte]
            exact hend _ _ (by simp only [upd_eq, Nat.reduceEqDiff, ↓reduceIte]; exact e10) (by simp only [upd_eq, Nat.reduceEqDiff, ↓reduceIte]; exact e11) (XL.tr (Ext.dr _ _ _)) (hL'.ext (Ext.dr noF _ _) fun _ g => g)
      clear hK
      obtain ⟨p1, hp1, hp1'⟩ := u8_of (IntKind.i64.wrap ((lb O (rkI ord) (rkI ord x) ks : Nat) + 1))
      obtain ⟨p2, hp2, hp2'⟩ := u8_of (lb O (rkI ord) (rkI ord x) ks : Nat)
      cases hci : ch.isNone with
      | true =>
        refine W_sq fun K hK => (W_text [true, false, true, true, true] (by kernel_rfl) ?_); simp only [↓List.toList_toArray, ↓rgd, ↓rgf, ↓reduceIte, Nat.reduceEqDiff, rg, ow_172, e1]
        refine do_call fn_122 (by simp only [evt, evc, upd_eq, Nat.reduceEqDiff, ↓reduceIte, maT, maC, maN, isnN, isnS] <;> rfl) (leaf_any b ch w2 h3'') ?_
        rintro _ w3 ⟨rfl, hw3⟩
        obtain rfl : w2 = w3 := hw3.symm
        refine ⟨trivial, ?_⟩
        cases hht : hit O (rkI ord) (rkI ord x) ks with
        | true =>
          simp only [↓List.toList_toArray, ↓rgd, ↓rgf, ↓reduceIte, Nat.reduceEqDiff, rg, ow_172, hci, e11, hht]
          refine hK _ _ ?_; clear hK K
          refine W_true (by simp only [evt, evc, upd_eq, Nat.reduceEqDiff, ↓reduceIte, ntT, ntF] <;> rfl) ?_
          refine W_rg fun K hK => (W_text [true, true, true, true] (by kernel_rfl) ?_); simp only [↓List.toList_toArray, ↓rgd, ↓rgf, ↓reduceIte, Nat.reduceEqDiff, rg, ow_172, e10, hp1]
          refine hK _ _ ?_; clear hK K
          simp only [andThen_normal]
          exact hst _ _ p1 hp1' (by simp only [upd_eq, Nat.reduceEqDiff, ↓reduceIte]; exact e3) (by simp only [upd_eq, Nat.reduceEqDiff, ↓reduceIte]; exact e4) (by simp only [upd_eq, Nat.reduceEqDiff, ↓reduceIte]; exact e10) (by simp only [upd_eq, Nat.reduceEqDiff, ↓reduceIte]; exact e11) (by simp only [upd_eq, Nat.reduceEqDiff, ↓reduceIte])
        | false =>
          simp only [↓List.toList_toArray, ↓rgd, ↓rgf, ↓reduceIte, Nat.reduceEqDiff, rg, ow_172, hci, e11, hht]
          refine hK _ _ ?_; clear hK K
          refine W_false (by simp only [evt, evc, upd_eq, Nat.reduceEqDiff, ↓reduceIte, ntT, ntF] <;> rfl) ?_
          refine W_rg fun K hK => (W_text [true, true, true] (by kernel_rfl) ?_); simp only [↓List.toList_toArray, ↓rgd, ↓rgf, ↓reduceIte, Nat.reduceEqDiff, rg, ow_172, e10, hp2]
          refine hK _ _ ?_; clear hK K
          simp only [andThen_normal]
          exact hst _ _ p2 hp2' (by simp only [upd_eq, Nat.reduceEqDiff, ↓reduceIte]; exact e3) (by simp only [upd_eq, Nat.reduceEqDiff, ↓reduceIte]; exact e4) (by simp only [upd_eq, Nat.reduceEqDiff, ↓reduceIte]; exact e10) (by simp only [upd_eq, Nat.reduceEqDiff, ↓reduceIte]; exact e11) (by simp only [upd_eq, Nat.reduceEqDiff, ↓reduceIte])
      | false =>
        refine W_sq fun K hK => (W_text [true, false, true, true, true] (by kernel_rfl) ?_); simp only [↓List.toList_toArray, ↓rgd, ↓rgf, ↓reduceIte, Nat.reduceEqDiff, rg, ow_172, e1]
        refine do_call fn_122 (by simp only [evt, evc, upd_eq, Nat.reduceEqDiff, ↓reduceIte, maT, maC, maN, isnN, isnS] <;> rfl) (leaf_any b ch w2 h3'') ?_
        rintro _ w3 ⟨rfl, hw3⟩
        obtain rfl : w2 = w3 := hw3.symm
        refine ⟨trivial, ?_⟩
        simp only [↓List.toList_toArray, ↓rgd, ↓rgf, ↓reduceIte, Nat.reduceEqDiff, rg, ow_172, hci]
        refine hK _ _ ?_; clear hK K
        refine W_false (by simp only [evt, evc, upd_eq, Nat.reduceEqDiff, ↓reduceIte, ntT, ntF] <;> rfl) ?_
        refine W_rg fun K hK => (W_text [true, true, true] (by kernel_rfl) ?_); simp only [↓List.toList_toArray, ↓rgd, ↓rgf, ↓reduceIte, Nat.reduceEqDiff, rg, ow_172, e10, hp2]
        refine hK _ _ ?_; clear hK K
        simp only [andThen_normal]
        exact hst _ _ p2 hp2' (by simp only [upd_eq, Nat.reduceEqDiff, ↓reduceIte]; exact e3) (by simp only [upd_eq, Nat.reduceEqDiff, ↓reduceIte]; exact e4) (by simp only [upd_eq, Nat.reduceEqDiff, ↓reduceIte]; exact e10) (by simp only [upd_eq, Nat.reduceEqDiff, ↓reduceIte]; exact e11) (by simp only [upd_eq, Nat.reduceEqDiff, ↓reduceIte])
    · have td : decide ((dep : Int) < 8) = false := by simp; omega
      refine W_sq fun K hK => (W_text [true, true] (by kernel_rfl) ?_); simp only [↓List.toList_toArray, ↓rgd, ↓rgf, ↓reduceIte, Nat.reduceEqDiff, rg, ow_172, e4, td]
      refine hK _ _ ?_; clear hK K
      refine W_false (by simp only [evt, evc, upd_eq, Nat.reduceEqDiff, ↓reduceIte, ntT, ntF] <;> rfl) (W_skip ?_)
      simp only [andThen_normal]
      exact hend _ _ (by simp only [upd_eq, Nat.reduceEqDiff, ↓reduceIte]; exact e10) (by simp only [upd_eq, Nat.reduceEqDiff, ↓reduceIte]; exact e11) (XH.tr (Ext.dr _ _ _)) (hH'.ext (Ext.dr noF _ _) fun _ g => g)
  · intro hon
    refine W_sq fun K hK => (W_text [true] (by kernel_rfl) ?_); simp only [↓List.toList_toArray, ↓rgd, ↓rgf, ↓reduceIte, Nat.reduceEqDiff, rg, ow_172]
    refine hK _ _ ?_; clear hK K
    have q0 := hi_sub ks.length hlen
    refine W_sq fun K hK => (W_text [true, true, true, true, true, true, true] (by kernel_rfl) ?_); simp only [↓List.toList_toArray, ↓rgd, ↓rgf, ↓reduceIte, Nat.reduceEqDiff, rg, ow_172, e1, ptr_eq, h2, q0]
    refine hK _ _ ?_; clear hK K
    refine W_sqx fun K hK => ?_
    have hloop : ∀ (e : Env) (w' : World) (lo hi : Nat), Ext noF w w' → lo ≤ hi → hi ≤ ks.length → e 0 = ptr m → e 1 = ptr b → e 3 = ptr hb → e 4 = .int .i64 dep → e 2 = itV x → e 12 = .int .i64 lo → e 13 = .int .i64 ((hi : Int) - 1) →
        (∀ i y, i < lo → ks[i]? = some y → O.lt (rkI ord x) (rkI ord y) = false) → (∀ i y, hi ≤ i → ks[i]? = some y → O.lt (rkI ord x) (rkI ord y) = true) → K e w' := by
      clear e0 e1 e2 e3 e4 e
      intro e w' lo hi XW hle hhi e0 e1 e3 e4 e2 e12 e13 hlo hup
      refine hK _ _ ?_; clear hK K
      refine W_seq ?_
      refine W_block (W_loop (fun mm e w' => Ext noF w w' ∧ ∃ lo hi : Nat, mm = hi - lo ∧ lo ≤ hi ∧ hi ≤ ks.length ∧ e 0 = ptr m ∧ e 1 = ptr b ∧ e 3 = ptr hb ∧ e 4 = .int .i64 dep ∧ e 2 = itV x ∧ e 12 = .int .i64 lo ∧ e 13 = .int .i64 ((hi : Int) - 1) ∧
        (∀ i y, i < lo → ks[i]? = some y → O.lt (rkI ord x) (rkI ord y) = false) ∧ (∀ i y, hi ≤ i → ks[i]? = some y → O.lt (rkI ord x) (rkI ord y) = true)) (hi - lo) ⟨XW, lo, hi, rfl, hle, hhi, e0, e1, e3, e4, e2, e12, e13, hlo, hup⟩ ?_)
      clear e0 e1 e3 e4 e2 e12 e13 e XW hle hhi hlo hup w' lo hi
      rintro mm e w' ⟨XW, lo, hi, rfl, hle, hhi, e0, e1, e3, e4, e2, e12, e13, hlo, hup⟩
      have sw := XW.size
      have h2' := XW.rd h2 fun g => g
      have row' := XW.row row fun _ _ g => g
      have hL' := hL.ext0 XW
      refine W_seq ?_
      by_cases hlt : lo < hi
      · have ht : decide ((lo : Int) ≤ (hi : Int) - 1) = true := by simp; omega
        refine W_sq fun K hK => (W_text [true, true, true] (by kernel_rfl) ?_); simp only [↓List.toList_toArray, ↓rgd, ↓rgf, ↓reduceIte, Nat.reduceEqDiff, rg, ow_172, e12, e13, ht]
        refine hK _ _ ?_; clear hK K
        refine W_true (by simp only [evt, evc, upd_eq, Nat.reduceEqDiff, ↓reduceIte, ntT, ntF] <;> rfl) (W_skip ?_)
        show W _ _ _ _ _ _
        have q1 := hi_add hi (by omega)
        have q2 := wsub hi lo hle (by omega)
        have q3 := wdiv2 (hi - lo) (by omega)
        have q4 := wadd lo ((hi - lo) / 2) (by omega)
        refine W_block ?_
        refine W_sq fun K hK => (W_text [true, true, true, true, true, true, true, true] (by kernel_rfl) ?_); simp only [↓List.toList_toArray, ↓rgd, ↓rgf, ↓reduceIte, Nat.reduceEqDiff, rg, ow_172, e12, e13, q1, q2, q3, q4]
        refine hK _ _ ?_; clear hK K
        obtain ⟨md, hmd⟩ : ∃ md, md = lo + (hi - lo) / 2 := ⟨_, rfl⟩
        rw [← hmd]
        obtain ⟨y, hy⟩ : ∃ y, ks[md]? = some y := ⟨_, List.getElem?_eq_getElem (by omega)⟩
        have hk := it_at row' hy
        have hi1 : md < ks.length := by omega
        refine W_sq fun K hK => (W_text [true, true, true, true, true, true, true, true, true, false, true] (by kernel_rfl) ?_); simp only [↓List.toList_toArray, ↓rgd, ↓rgf, ↓reduceIte, Nat.reduceEqDiff, rg, ow_172, e0, e1, e2, ptr_eq, h2', hi1, hk]
        refine do_call fn_123 (by simp only [evt, evc, upd_eq, Nat.reduceEqDiff, ↓reduceIte, maT, maC, maN, isnN, isnS] <;> rfl) (less_any B m ord x y _ (hL'.ext0 (Ext.dr noF _ _))) ?_
        rintro _ w2 ⟨rfl, x2⟩
        refine ⟨trivial, ?_⟩
        simp only [↓List.toList_toArray, ↓rgd, ↓rgf, ↓reduceIte, Nat.reduceEqDiff, rg, ow_172]
        refine hK _ _ ?_; clear hK K
        have X2 := XW.tr x2.od
        cases hq : O.lt (rkI ord x) (rkI ord y) with
        | true =>
          refine W_false (by simp only [evt, upd_eq, ↓reduceIte, ntT, ntF]) ?_
          have e5 := hi_sub md (by omega)
          refine W_rg fun K hK => (W_text [true, true, true] (by kernel_rfl) ?_); simp only [↓List.toList_toArray, ↓rgd, ↓rgf, ↓reduceIte, Nat.reduceEqDiff, rg, ow_172, e5]
          refine hK _ _ ?_; clear hK K
          refine ⟨_, ?_, X2.tr (Ext.dr _ _ _), lo, md, rfl, by omega, by omega, ?_, ?_, ?_, ?_, ?_, ?_, ?_, hlo, ?_⟩
          · omega
          · simp only [upd_eq, Nat.reduceEqDiff, ↓reduceIte]; exact e0
          · simp only [upd_eq, Nat.reduceEqDiff, ↓reduceIte]; exact e1
          · simp only [upd_eq, Nat.reduceEqDiff, ↓reduceIte]; exact e3
          · simp only [upd_eq, Nat.reduceEqDiff, ↓reduceIte]; exact e4
          · simp only [upd_eq, Nat.reduceEqDiff, ↓reduceIte]; exact e2
          · simp only [upd_eq, Nat.reduceEqDiff, ↓reduceIte]; exact e12
          · simp only [upd_eq, Nat.reduceEqDiff, ↓reduceIte]
          · intro i z hi' hz
            by_cases he : i = md
            · subst he; rw [hy] at hz; cases hz; exact hq
            · have hsp := List.pairwise_iff_getElem.1 ha md i (by omega) (List.getElem?_eq_some_iff.1 hz).1 (by omega)
              rw [(List.getElem?_eq_some_iff.1 hy).2, (List.getElem?_eq_some_iff.1 hz).2] at hsp
              exact O.tr _ _ _ hq hsp
        | false =>
          refine W_true (by simp only [evt, upd_eq, ↓reduceIte, ntT, ntF]) ?_
          have e5 := wadd1 md (by omega)
          refine W_rg fun K hK => (W_text [true, true, true] (by kernel_rfl) ?_); simp only [↓List.toList_toArray, ↓rgd, ↓rgf, ↓reduceIte, Nat.reduceEqDiff, rg, ow_172, e5]
          refine hK _ _ ?_; clear hK K
          refine ⟨_, ?_, X2.tr (Ext.dr _ _ _), md + 1, hi, rfl, by omega, by omega, ?_, ?_, ?_, ?_, ?_, ?_, ?_, ?_, hup⟩
          · omega
          · simp only [upd_eq, Nat.reduceEqDiff, ↓reduceIte]; exact e0
          · simp only [upd_eq, Nat.reduceEqDiff, ↓reduceIte]; exact e1
          · simp only [upd_eq, Nat.reduceEqDiff, ↓reduceIte]; exact e3
          · simp only [upd_eq, Nat.reduceEqDiff, ↓reduceIte]; exact e4
          · simp only [upd_eq, Nat.reduceEqDiff, ↓reduceIte]; exact e2
          · simp only [upd_eq, Nat.reduceEqDiff, ↓reduceIte]
          · simp only [upd_eq, Nat.reduceEqDiff, ↓reduceIte]; exact e13
          · intro i z hi' hz
            by_cases he : i = md
            · subst he; rw [hy] at hz; cases hz; exact hq
            · have hsp := List.pairwise_iff_getElem.1 ha i md (List.getElem?_eq_some_iff.1 hz).1 (by omega) (by omega)
              rw [(List.getElem?_eq_some_iff.1 hy).2, (List.getElem?_eq_some_iff.1 hz).2] at hsp
              cases hqy : O.lt (rkI ord x) (rkI ord z) with
              | false => rfl
              | true => have := O.tr _ _ _ hqy hsp; rw [hq] at this; cases this
      · obtain rfl : lo = hi := by omega
        have ht : decide ((lo : Int) ≤ (lo : Int) - 1) = false := by simp; omega
        refine W_sq fun K hK => (W_text [true, true, true] (by kernel_rfl) ?_); simp only [↓List.toList_toArray, ↓rgd, ↓rgf, ↓reduceIte, Nat.reduceEqDiff, rg, ow_172, e12, e13, ht]
        refine hK _ _ ?_; clear hK K
        refine W_false (by simp only [evt, evc, upd_eq, Nat.reduceEqDiff, ↓reduceIte, ntT, ntF] <;> rfl) (W_exit ?_)
        simp only [andThen_exit, inBlk_exit, andThen_normal, ↓reduceIte]
        refine W_sqx fun K hK => ?_
        have hlab : ∀ (e : Env) (w' : World), Ext noF w w' → e 1 = ptr b → e 3 = ptr hb → e 4 = .int .i64 dep → e 10 = .int .i64 (lb O (rkI ord) (rkI ord x) ks : Nat) → e 11 = .bool (hit O (rkI ord) (rkI ord x) ks) → K e w' :=
          fun e w' X g1 g3 g4 g10 g11 => hK _ _ (W_seq (W_label (by
            simp only [andThen_normal]
            exact hon _ _ ⟨X, g1, g3, g4, g10, g11⟩)))
        clear hK
        by_cases h00 : 0 < lo
        · obtain ⟨y, hy⟩ : ∃ y, ks[lo - 1]? = some y := ⟨_, List.getElem?_eq_getElem (by omega)⟩
          have hk := it_at row' hy
          have hi1 : lo - 1 < ks.length := by omega
          have e5 := wsub1 lo h00 (by omega)
          have ht0 : decide (0 < (lo : Int)) = true := by simp; omega
          refine W_sq fun K hK => (W_text [true, true, true, true, true, true, true, true, true, true, true, true, true, false, true, true] (by kernel_rfl) ?_); simp only [↓List.toList_toArray, ↓rgd, ↓rgf, ↓reduceIte, Nat.reduceEqDiff, rg, ow_172, e0, e1, e2, e12, ptr_eq, h2', hi1, hk, ht0, e5]
          refine do_call fn_123 (by simp only [evt, evc, upd_eq, Nat.reduceEqDiff, ↓reduceIte, maT, maC, maN, isnN, isnS] <;> rfl) (less_any B m ord y x _ (hL'.ext0 (Ext.dr noF _ _))) ?_
          rintro _ w2 ⟨rfl, x2⟩
          refine ⟨trivial, ?_⟩
          simp only [↓List.toList_toArray, ↓rgd, ↓rgf, ↓reduceIte, Nat.reduceEqDiff, rg, ow_172]
          refine hK _ _ ?_; clear hK K
          have X2 := XW.tr x2.od
          cases hq : O.lt (rkI ord y) (rkI ord x) with
          | true =>
            obtain ⟨f1, f2⟩ := missed_at O (rkI ord) ha (q := rkI ord x) (u := lo) hhi (fun z hz => hup lo z (Nat.le_refl _) hz) (fun z _ hz => by rw [hy] at hz; cases hz; exact hq)
            refine W_false (by simp only [evt, upd_eq, ↓reduceIte, ntT, ntF]) ?_
            refine W_sq fun K hK => (W_text [true, true] (by kernel_rfl) ?_); simp only [↓List.toList_toArray, ↓rgd, ↓rgf, ↓reduceIte, Nat.reduceEqDiff, rg, ow_172, e12]
            refine hK _ _ ?_; clear hK K
            refine W_rg fun K hK => (W_text [true] (by kernel_rfl) ?_); simp only [↓List.toList_toArray, ↓rgd, ↓rgf, ↓reduceIte, Nat.reduceEqDiff, rg, ow_172]
            refine hK _ _ ?_; clear hK K
            simp only [andThen_normal]
            exact hlab _ _ (X2.tr (Ext.dr _ _ _)) (by simp only [upd_eq, Nat.reduceEqDiff, ↓reduceIte]; exact e1) (by simp only [upd_eq, Nat.reduceEqDiff, ↓reduceIte]; exact e3) (by simp only [upd_eq, Nat.reduceEqDiff, ↓reduceIte]; exact e4) (by simp only [upd_eq, Nat.reduceEqDiff, ↓reduceIte]; rw [f1]) (by simp only [upd_eq, Nat.reduceEqDiff, ↓reduceIte]; rw [f2])
          | false =>
            obtain ⟨f1, f2⟩ := found_at O (rkI ord) ha (q := rkI ord x) (u := lo) hhi hlo (fun z hz => hup lo z (Nat.le_refl _) hz) h00 hy hq
            refine W_true (by simp only [evt, upd_eq, ↓reduceIte, ntT, ntF]) ?_
            refine W_sq fun K hK => (W_text [true, true, true] (by kernel_rfl) ?_); simp only [↓List.toList_toArray, ↓rgd, ↓rgf, ↓reduceIte, Nat.reduceEqDiff, rg, ow_172, e12, e5]
            refine hK _ _ ?_; clear hK K
            refine W_rg fun K hK => (W_text [true] (by kernel_rfl) ?_); simp only [↓List.toList_toArray, ↓rgd, ↓rgf, ↓reduceIte, Nat.reduceEqDiff, rg, ow_172]
            refine hK _ _ ?_; clear hK K
            simp only [andThen_normal]
            exact hlab _ _ (X2.tr (Ext.dr _ _ _)) (by simp only [upd_eq, Nat.reduceEqDiff, ↓reduceIte]; exact e1) (by simp only [upd_eq, Nat.reduceEqDiff, ↓reduceIte]; exact e3) (by simp only [upd_eq, Nat.reduceEqDiff, ↓reduceIte]; exact e4) (by simp only [upd_eq, Nat.reduceEqDiff, ↓reduceIte]; rw [f1]) (by simp only [upd_eq, Nat.reduceEqDiff, ↓reduceIte]; rw [f2])
        · have ht0 : decide (0 < (lo : Int)) = false := by simp; omega
          refine W_sq fun K hK => (W_text [true, true, true, true, true, true, true, true, true, true, true, true, true, false, true, true] (by kernel_rfl) ?_); simp only [↓List.toList_toArray, ↓rgd, ↓rgf, ↓reduceIte, Nat.reduceEqDiff, rg, ow_172, e12, ht0]
          refine hK _ _ ?_; clear hK K
          obtain ⟨f1, f2⟩ := missed_at O (rkI ord) ha (q := rkI ord x) (u := lo) hhi (fun z hz => hup lo z (Nat.le_refl _) hz) (fun z h _ => by omega)
          refine W_false (by simp only [evt, evc, upd_eq, Nat.reduceEqDiff, ↓reduceIte, ntT, ntF] <;> rfl) ?_
          refine W_sq fun K hK => (W_text [true, true] (by kernel_rfl) ?_); simp only [↓List.toList_toArray, ↓rgd, ↓rgf, ↓reduceIte, Nat.reduceEqDiff, rg, ow_172, e12]
          refine hK _ _ ?_; clear hK K
          refine W_rg fun K hK => (W_text [true] (by kernel_rfl) ?_); simp only [↓List.toList_toArray, ↓rgd, ↓rgf, ↓reduceIte, Nat.reduceEqDiff, rg, ow_172]
          refine hK _ _ ?_; clear hK K
          simp only [andThen_normal]
          exact hlab _ _ (XW.tr (Ext.dr _ _ _)) (by simp only [upd_eq, Nat.reduceEqDiff, ↓reduceIte]; exact e1) (by simp only [upd_eq, Nat.reduceEqDiff, ↓reduceIte]; exact e3) (by simp only [upd_eq, Nat.reduceEqDiff, ↓reduceIte]; exact e4) (by simp only [upd_eq, Nat.reduceEqDiff, ↓reduceIte]; rw [f1]) (by simp only [upd_eq, Nat.reduceEqDiff, ↓reduceIte]; rw [f2])
    clear hK
    by_cases hd : dep < 8
    · have td : decide ((dep : Int) < 8) = true := by simp; omega
      obtain ⟨u, hu⟩ := hH.used dep hd
      cases u with
      | false =>
        refine W_sq fun K hK => (W_text [true, true, true, true, true, true, true, true, true, true] (by kernel_rfl) ?_); simp only [↓List.toList_toArray, ↓rgd, ↓rgf, ↓reduceIte, Nat.reduceEqDiff, rg, ow_172, e3, e4, td, ptr_eq, idx_ar, idxA_s, hd, hu]
        refine hK _ _ ?_; clear hK K
        refine W_false (by simp only [evt, evc, upd_eq, Nat.reduceEqDiff, ↓reduceIte, ntT, ntF] <;> rfl) (W_skip ?_)
        simp only [andThen_normal]
        refine hloop _ _ 0 ks.length (Ext.dr _ _ _) (Nat.zero_le _) (Nat.le_refl _) (by simp only [upd_eq, Nat.reduceEqDiff, ↓reduceIte]; exact e0) (by simp only [upd_eq, Nat.reduceEqDiff, ↓reduceIte]; exact e1) (by simp only [upd_eq, Nat.reduceEqDiff, ↓reduceIte]; exact e3) (by simp only [upd_eq, Nat.reduceEqDiff, ↓reduceIte]; exact e4) (by simp only [upd_eq, Nat.reduceEqDiff, ↓reduceIte]; exact e2) (by simp only [upd_eq, Nat.reduceEqDiff, ↓reduceIte]; rfl) (by simp only [upd_eq, Nat.reduceEqDiff, ↓reduceIte]) (fun i y hi => by omega) (fun i y hi hx => by have := (List.getElem?_eq_some_iff.1 hx).1; omega)
      | true =>
        refine W_sq fun K hK => (W_text [true, true, true, true, true, true, true, true, true, true] (by kernel_rfl) ?_); simp only [↓List.toList_toArray, ↓rgd, ↓rgf, ↓reduceIte, Nat.reduceEqDiff, rg, ow_172, e3, e4, td, ptr_eq, idx_ar, idxA_s, hd, hu]
        refine hK _ _ ?_; clear hK K
        refine W_true (by simp only [evt, evc, upd_eq, Nat.reduceEqDiff, ↓reduceIte, ntT, ntF] <;> rfl) ?_
        obtain ⟨p, hp, hr⟩ := hH.path dep hd
        have p1 := u8_i64 p hp
        refine W_sq fun K hK => (W_text [true, true, true, true, true, true, true, true] (by kernel_rfl) ?_); simp only [↓List.toList_toArray, ↓rgd, ↓rgf, ↓reduceIte, Nat.reduceEqDiff, rg, ow_172, e3, e4, ptr_eq, idx_ar, idxA_s, hd, hr, p1]
        refine hK _ _ ?_; clear hK K
        have hz : ∀ (i : Nat) y, ks[i]? = some y → ∀ j z, i < j → ks[j]? = some z → O.lt (rkI ord y) (rkI ord z) = true := fun i y hy j z hij hz => by
          have hsp := List.pairwise_iff_getElem.1 ha i j (List.getElem?_eq_some_iff.1 hy).1 (List.getElem?_eq_some_iff.1 hz).1 hij
          rwa [(List.getElem?_eq_some_iff.1 hy).2, (List.getElem?_eq_some_iff.1 hz).2] at hsp
        refine W_sqx fun K2 hK2 => ?_
        have hidx : ∀ (e : Env) (w' : World) (i : Nat), i < ks.length → Ext noF w w' → e 0 = ptr m → e 1 = ptr b → e 3 = ptr hb → e 4 = .int .i64 dep → e 2 = itV x → e 10 = .int .i64 i → e 11 = .bool false → e 12 = .int .i64 (0 : Nat) →
            e 13 = .int .i64 ((ks.length : Int) - 1) → K2 e w' := by
          clear e0 e1 e2 e3 e4 e
          intro e w' i hi XW e0 e1 e3 e4 e2 e10 e11 e12 e13
          refine hK2 _ _ ?_; clear hK2 K2
          have sw := XW.size
          have h2' := XW.rd h2 fun g => g
          have row' := XW.row row fun _ _ g => g
          have hL' := hL.ext0 XW
          obtain ⟨y, hy⟩ : ∃ y, ks[i]? = some y := ⟨_, List.getElem?_eq_getElem hi⟩
          have hk := it_at row' hy
          refine W_sq fun K hK => (W_text [true, true, true, true, true, true, true, true, true, false] (by kernel_rfl) ?_); simp only [↓List.toList_toArray, ↓rgd, ↓rgf, ↓reduceIte, Nat.reduceEqDiff, rg, ow_172, e0, e1, e2, e10, ptr_eq, h2', hi, hk]
          refine do_call fn_123 (by simp only [evt, evc, upd_eq, Nat.reduceEqDiff, ↓reduceIte, maT, maC, maN, isnN, isnS] <;> rfl) (less_any B m ord x y _ (hL'.ext0 (Ext.dr noF _ _))) ?_
          rintro _ w2 ⟨rfl, x2⟩
          refine ⟨trivial, ?_⟩
          simp only [↓List.toList_toArray, ↓rgd, ↓rgf, ↓reduceIte, Nat.reduceEqDiff, rg, ow_172]
          refine hK _ _ ?_; clear hK K
          have X2 := XW.tr x2.od
          have s2 := X2.size
          have h2'' := X2.rd h2 fun g => g
          have row'' := X2.row row fun _ _ g => g
          have hL'' := hL.ext0 X2
          have hk2 := it_at row'' hy
          cases hq : O.lt (rkI ord x) (rkI ord y) with
          | true =>
            refine W_true (by simp only [evt, upd_eq, ↓reduceIte, ntT, ntF]) ?_
            have up : ∀ j z, i ≤ j → ks[j]? = some z → O.lt (rkI ord x) (rkI ord z) = true := fun j z hij hjz => by
              by_cases he : j = i
              · subst he; rw [hy] at hjz; cases hjz; exact hq
              · exact O.tr _ _ _ hq (hz i y hy j z (by omega) hjz)
            refine W_seq ?_
            by_cases h00 : i = 0
            · have t0 : ((i : Int) == 0) = true := by simp; omega
              refine W_sq fun K hK => (W_text [true, true, true, true, true, true, true, true, true, true, true, true, true, false, true] (by kernel_rfl) ?_); simp only [↓List.toList_toArray, ↓rgd, ↓rgf, ↓reduceIte, Nat.reduceEqDiff, rg, ow_172, e10, t0]
              refine hK _ _ ?_; clear hK K
              obtain ⟨f1, f2⟩ := missed_at O (rkI ord) ha (q := rkI ord x) (u := i) (by omega) (fun z hz => up i z (Nat.le_refl _) hz) (fun z h _ => by omega)
              refine W_true (by simp only [evt, evc, upd_eq, Nat.reduceEqDiff, ↓reduceIte, ntT, ntF] <;> rfl) (W_goto ?_)
              simp only [andThen_goto, jump_goto]
              exact ⟨trivial, X2.tr (Ext.dr _ _ _), (by simp only [upd_eq, Nat.reduceEqDiff, ↓reduceIte]; exact e1), (by simp only [upd_eq, Nat.reduceEqDiff, ↓reduceIte]; exact e3), (by simp only [upd_eq, Nat.reduceEqDiff, ↓reduceIte]; exact e4), (by simp only [upd_eq, Nat.reduceEqDiff, ↓reduceIte]; rw [f1]; exact e10), (by simp only [upd_eq, Nat.reduceEqDiff, ↓reduceIte]; rw [f2]; exact e11)⟩
            · have t0 : ((i : Int) == 0) = false := by simp; omega
              obtain ⟨y0, hy0⟩ : ∃ y, ks[i - 1]? = some y := ⟨_, List.getElem?_eq_getElem (by omega)⟩
              have hk0 := it_at row'' hy0
              have hi1 : i - 1 < ks.length := by omega
              have e5 := wsub1 i (by omega) (by omega)
              refine W_sq fun K hK => (W_text [true, true, true, true, true, true, true, true, true, true, true, true, true, false, true] (by kernel_rfl) ?_); simp only [↓List.toList_toArray, ↓rgd, ↓rgf, ↓reduceIte, Nat.reduceEqDiff, rg, ow_172, e0, e1, e2, e10, ptr_eq, h2'', hi1, hk0, t0, e5]
              refine do_call fn_123 (by simp only [evt, evc, upd_eq, Nat.reduceEqDiff, ↓reduceIte, maT, maC, maN, isnN, isnS] <;> rfl) (less_any B m ord y0 x _ (hL''.ext0 (Ext.dr noF _ _))) ?_
              rintro _ w3 ⟨rfl, x3⟩
              refine ⟨trivial, ?_⟩
              simp only [↓List.toList_toArray, ↓rgd, ↓rgf, ↓reduceIte, Nat.reduceEqDiff, rg, ow_172]
              refine hK _ _ ?_; clear hK K
              have X3 := X2.tr x3.od
              cases hq0 : O.lt (rkI ord y0) (rkI ord x) with
              | true =>
                obtain ⟨f1, f2⟩ := missed_at O (rkI ord) ha (q := rkI ord x) (u := i) (by omega) (fun z hz => up i z (Nat.le_refl _) hz) (fun z _ hz => by rw [hy0] at hz; cases hz; exact hq0)
                refine W_true (by simp only [evt, upd_eq, ↓reduceIte, ntT, ntF]) (W_goto ?_)
                simp only [andThen_goto, jump_goto]
                exact ⟨trivial, X3.tr (Ext.dr _ _ _), (by simp only [upd_eq, Nat.reduceEqDiff, ↓reduceIte]; exact e1), (by simp only [upd_eq, Nat.reduceEqDiff, ↓reduceIte]; exact e3), (by simp only [upd_eq, Nat.reduceEqDiff, ↓reduceIte]; exact e4), (by simp only [upd_eq, Nat.reduceEqDiff, ↓reduceIte]; rw [f1]; exact e10), (by simp only [upd_eq, Nat.reduceEqDiff, ↓reduceIte]; rw [f2]; exact e11)⟩
              | false =>
                refine W_false (by simp only [evt, upd_eq, ↓reduceIte, ntT, ntF]) (W_skip ?_)
                show W _ _ _ _ _ _
                have e6 := hi_sub i (by omega)
                refine W_rg fun K hK => (W_text [true, true, true] (by kernel_rfl) ?_); simp only [↓List.toList_toArray, ↓rgd, ↓rgf, ↓reduceIte, Nat.reduceEqDiff, rg, ow_172, e10, e6]
                refine hK _ _ ?_; clear hK K
                simp only [andThen_normal]
                exact hloop _ _ 0 i (X3.tr (Ext.dr _ _ _)) (Nat.zero_le _) (by omega) (by simp only [upd_eq, Nat.reduceEqDiff, ↓reduceIte]; exact e0) (by simp only [upd_eq, Nat.reduceEqDiff, ↓reduceIte]; exact e1) (by simp only [upd_eq, Nat.reduceEqDiff, ↓reduceIte]; exact e3) (by simp only [upd_eq, Nat.reduceEqDiff, ↓reduceIte]; exact e4) (by simp only [upd_eq, Nat.reduceEqDiff, ↓reduceIte]; exact e2) (by simp only [upd_eq, Nat.reduceEqDiff, ↓reduceIte]; exact e12) (by simp only [upd_eq, Nat.reduceEqDiff, ↓reduceIte]) (fun i y hi => by omega) up
          | false =>
            refine W_false (by simp only [evt, upd_eq, ↓reduceIte, ntT, ntF]) ?_
            refine W_sq fun K hK => (W_text [true, true, true, true, true, true, true, true, true, false] (by kernel_rfl) ?_); simp only [↓List.toList_toArray, ↓rgd, ↓rgf, ↓reduceIte, Nat.reduceEqDiff, rg, ow_172, e0, e1, e2, e10, ptr_eq, h2'', hi, hk2]
            refine do_call fn_123 (by simp only [evt, evc, upd_eq, Nat.reduceEqDiff, ↓reduceIte, maT, maC, maN, isnN, isnS] <;> rfl) (less_any B m ord y x _ (hL''.ext0 (Ext.dr noF _ _))) ?_
            rintro _ w3 ⟨rfl, x3⟩
            refine ⟨trivial, ?_⟩
            simp only [↓List.toList_toArray, ↓rgd, ↓rgf, ↓reduceIte, Nat.reduceEqDiff, rg, ow_172]
            refine hK _ _ ?_; clear hK K
            have X3 := X2.tr x3.od
            have low : ∀ j z, j < i + 1 → ks[j]? = some z → O.lt (rkI ord x) (rkI ord z) = false := fun j z hij hjz => by
              by_cases he : j = i
              · subst he; rw [hy] at hjz; cases hjz; exact hq
              · cases hqz : O.lt (rkI ord x) (rkI ord z) with
                | false => rfl
                | true => have := O.tr _ _ _ hqz (hz j z hjz i y (by omega) hy); rw [hq] at this; cases this
            cases hq0 : O.lt (rkI ord y) (rkI ord x) with
            | true =>
              refine W_true (by simp only [evt, upd_eq, ↓reduceIte, ntT, ntF]) ?_
              have e6 := wadd1 i (by omega)
              refine W_rg fun K hK => (W_text [true, true, true] (by kernel_rfl) ?_); simp only [↓List.toList_toArray, ↓rgd, ↓rgf, ↓reduceIte, Nat.reduceEqDiff, rg, ow_172, e10, e6]
              refine hK _ _ ?_; clear hK K
              simp only [andThen_normal]
              exact hloop _ _ (i + 1) ks.length (X3.tr (Ext.dr _ _ _)) hi (Nat.le_refl _) (by simp only [upd_eq, Nat.reduceEqDiff, ↓reduceIte]; exact e0) (by simp only [upd_eq, Nat.reduceEqDiff, ↓reduceIte]; exact e1) (by simp only [upd_eq, Nat.reduceEqDiff, ↓reduceIte]; exact e3) (by simp only [upd_eq, Nat.reduceEqDiff, ↓reduceIte]; exact e4) (by simp only [upd_eq, Nat.reduceEqDiff, ↓reduceIte]; exact e2) (by simp only [upd_eq, Nat.reduceEqDiff, ↓reduceIte]) (by simp only [upd_eq, Nat.reduceEqDiff, ↓reduceIte]; exact e13) low (fun i y hi hx => by have := (List.getElem?_eq_some_iff.1 hx).1; omega)
            | false =>
              have hxy := O.tot _ _ hq0 hq
              obtain ⟨f1, f2⟩ := found_at O (rkI ord) ha (q := rkI ord x) (u := i + 1) hi low (fun z hjz => by rw [← hxy]; exact hz i y hy (i + 1) z (by omega) hjz) (by omega) hy hq0
              refine W_false (by simp only [evt, upd_eq, ↓reduceIte, ntT, ntF]) ?_
              refine W_sq fun K hK => (W_text [true] (by kernel_rfl) ?_); simp only [↓List.toList_toArray, ↓rgd, ↓rgf, ↓reduceIte, Nat.reduceEqDiff, rg, ow_172]
              refine hK _ _ ?_; clear hK K
              refine W_goto ?_
              simp only [andThen_goto, jump_goto]
              exact ⟨trivial, X3.tr (Ext.dr _ _ _), (by simp only [upd_eq, Nat.reduceEqDiff, ↓reduceIte]; exact e1), (by simp only [upd_eq, Nat.reduceEqDiff, ↓reduceIte]; exact e3), (by simp only [upd_eq, Nat.reduceEqDiff, ↓reduceIte]; exact e4), (by simp only [upd_eq, Nat.reduceEqDiff, ↓reduceIte]; rw [f1]; exact e10), (by simp only [upd_eq, Nat.reduceEqDiff, ↓reduceIte]; rw [f2])⟩
        clear hK2
        by_cases hpl : p < ks.length
        · have tp : decide ((ks.length : Int) ≤ (p : Int)) = false := by simp; omega
          refine W_sq fun K hK => (W_text [true, true, true, true, true, true, true] (by kernel_rfl) ?_); simp only [↓List.toList_toArray, ↓rgd, ↓rgf, ↓reduceIte, Nat.reduceEqDiff, rg, ow_172, e1, ptr_eq, h2, tp]
          refine hK _ _ ?_; clear hK K
          refine W_false (by simp only [evt, evc, upd_eq, Nat.reduceEqDiff, ↓reduceIte, ntT, ntF] <;> rfl) (W_skip ?_)
          simp only [andThen_normal]
          exact hidx _ _ p hpl (Ext.dr _ _ _) (by simp only [upd_eq, Nat.reduceEqDiff, ↓reduceIte]; exact e0) (by simp only [upd_eq, Nat.reduceEqDiff, ↓reduceIte]; exact e1) (by simp only [upd_eq, Nat.reduceEqDiff, ↓reduceIte]; exact e3) (by simp only [upd_eq, Nat.reduceEqDiff, ↓reduceIte]; exact e4) (by simp only [upd_eq, Nat.reduceEqDiff, ↓reduceIte]; exact e2) (by simp only [upd_eq, Nat.reduceEqDiff, ↓reduceIte]) (by simp only [upd_eq, Nat.reduceEqDiff, ↓reduceIte]) (by simp only [upd_eq, Nat.reduceEqDiff, ↓reduceIte]; rfl) (by simp only [upd_eq, Nat.reduceEqDiff, ↓reduceIte])
        · have tp : decide ((ks.length : Int) ≤ (p : Int)) = true := by simp; omega
          refine W_sq fun K hK => (W_text [true, true, true, true, true, true, true] (by kernel_rfl) ?_); simp only [↓List.toList_toArray, ↓rgd, ↓rgf, ↓reduceIte, Nat.reduceEqDiff, rg, ow_172, e1, ptr_eq, h2, tp]
          refine hK _ _ ?_; clear hK K
          refine W_true (by simp only [evt, evc, upd_eq, Nat.reduceEqDiff, ↓reduceIte, ntT, ntF] <;> rfl) (W_seq ?_)
          obtain ⟨y0, hy0⟩ : ∃ y, ks[ks.length - 1]? = some y := ⟨_, List.getElem?_eq_getElem (by omega)⟩
          have hk0 := it_at row hy0
          have hi1 : ks.length - 1 < ks.length := by omega
          have e5 := wsub1 ks.length (by omega) (by omega)
          refine W_sq fun K hK => (W_free (some none) (.take 0 (.take 1 (.take 2 (.take 3 (.take 4 (.take 5 (.take 6 (.take 7 (.take 8 (.take 9 (.take 10 (.take 11 (.take 12 (.take 13 (.bar 14 .nil))))))))))))))) mixed (by kernel_rfl) ?_); simp only [↓List.toList_toArray, ↓rgd, ↓rgf, ↓reduceIte, Nat.reduceEqDiff, rg, ow_172, e0, e1, e2, ptr_eq, h2, hi1, hk0, e5]
          refine do_call fn_123 (by simp only [evt, evc, upd_eq, Nat.reduceEqDiff, ↓reduceIte, maT, maC, maN, isnN, isnS] <;> rfl) (less_any B m ord y0 x _ (hL.ext0 (Ext.dr noF _ _))) ?_
          rintro _ w2 ⟨rfl, x2⟩
          refine ⟨trivial, ?_⟩
          simp only [↓List.toList_toArray, ↓rgd, ↓rgf, ↓reduceIte, Nat.reduceEqDiff, rg, ow_172]
          refine hK _ _ ?_; clear hK K
          have X2 := x2.od
          have h2'' := X2.rd h2 fun g => g
          cases hq0 : O.lt (rkI ord y0) (rkI ord x) with
          | true =>
            obtain ⟨f1, f2⟩ := missed_at O (rkI ord) ha (q := rkI ord x) (u := ks.length) (Nat.le_refl _) (fun z hjz => by have := (List.getElem?_eq_some_iff.1 hjz).1; omega) (fun z _ hz => by rw [hy0] at hz; cases hz; exact hq0)
            refine W_true (by simp only [evt, upd_eq, ↓reduceIte, ntT, ntF]) ?_
            refine W_sq fun K hK => (W_text [true, true, true, true, true, true] (by kernel_rfl) ?_); simp only [↓List.toList_toArray, ↓rgd, ↓rgf, ↓reduceIte, Nat.reduceEqDiff, rg, ow_172, e1, ptr_eq, h2'']
            refine hK _ _ ?_; clear hK K
            refine W_goto ?_
            simp only [andThen_goto, jump_goto]
            exact ⟨trivial, X2.tr (Ext.dr _ _ _), (by simp only [upd_eq, Nat.reduceEqDiff, ↓reduceIte]; exact e1), (by simp only [upd_eq, Nat.reduceEqDiff, ↓reduceIte]; exact e3), (by simp only [upd_eq, Nat.reduceEqDiff, ↓reduceIte]; exact e4), (by simp only [upd_eq, Nat.reduceEqDiff, ↓reduceIte]; rw [f1]), (by simp only [upd_eq, Nat.reduceEqDiff, ↓reduceIte]; rw [f2])⟩
          | false =>
            refine W_false (by simp only [evt, upd_eq, ↓reduceIte, ntT, ntF]) (W_skip ?_)
            show W _ _ _ _ _ _
            refine W_rg fun K hK => (W_text [true, true, true, true, true, true, true] (by kernel_rfl) ?_); simp only [↓List.toList_toArray, ↓rgd, ↓rgf, ↓reduceIte, Nat.reduceEqDiff, rg, ow_172, e1, ptr_eq, h2'', e5]
            refine hK _ _ ?_; clear hK K
            simp only [andThen_normal]
            exact hidx _ _ (ks.length - 1) hi1 (X2.tr (Ext.dr _ _ _)) (by simp only [upd_eq, Nat.reduceEqDiff, ↓reduceIte]; exact e0) (by simp only [upd_eq, Nat.reduceEqDiff, ↓reduceIte]; exact e1) (by simp only [upd_eq, Nat.reduceEqDiff, ↓reduceIte]; exact e3) (by simp only [upd_eq, Nat.reduceEqDiff, ↓reduceIte]; exact e4) (by simp only [upd_eq, Nat.reduceEqDiff, ↓reduceIte]; exact e2) (by simp only [upd_eq, Nat.reduceEqDiff, ↓reduceIte]) (by simp only [upd_eq, Nat.reduceEqDiff, ↓reduceIte]) (by simp only [upd_eq, Nat.reduceEqDiff, ↓reduceIte]; rfl) (by simp only [upd_eq, Nat.reduceEqDiff, ↓reduceIte])
    · have td : decide ((dep : Int) < 8) = false := by simp; omega
      refine W_sq fun K hK => (W_text [true, true, true, true, true, true, true, true, true, true] (by kernel_rfl) ?_); simp only [↓List.toList_toArray, ↓rgd, ↓rgf, ↓reduceIte, Nat.reduceEqDiff, rg, ow_172, e3, e4, td]
      refine hK _ _ ?_; clear hK K
      refine W_false (by simp only [evt, evc, upd_eq, Nat.reduceEqDiff, ↓reduceIte, ntT, ntF] <;> rfl) (W_skip ?_)
      simp only [andThen_normal]
      refine hloop _ _ 0 ks.length (Ext.dr _ _ _) (Nat.zero_le _) (Nat.le_refl _) (by simp only [upd_eq, Nat.reduceEqDiff, ↓reduceIte]; exact e0) (by simp only [upd_eq, Nat.reduceEqDiff, ↓reduceIte]; exact e1) (by simp only [upd_eq, Nat.reduceEqDiff, ↓reduceIte]; exact e3) (by simp only [upd_eq, Nat.reduceEqDiff, ↓reduceIte]; exact e4) (by simp only [upd_eq, Nat.reduceEqDiff, ↓reduceIte]; exact e2) (by simp only [upd_eq, Nat.reduceEqDiff, ↓reduceIte]; rfl) (by simp only [upd_eq, Nat.reduceEqDiff, ↓reduceIte]) (fun i y hi => by omega) (fun i y hi hx => by have := (List.getElem?_eq_some_iff.1 hx).1; omega)
set_option maxHeartbeats 400000 in
set_option maxRecDepth 8000 in
/-- The search in a node, with a hint or without one. -/
theorem find_any (B m b bi oi cap : Nat) (ord : List Int) (ks : List It) (x : It) (ch : Option Addr) (hp : Option Nat) (dep : Nat) (w : World) (hL : Ls B m w ord) (h2 : rd w b 2 = some (.slice (some ⟨bi, oi, none⟩) ks.length cap)) (h3 : rd w b 3 = some (.pointer ch))
    (row : Row w bi oi (flat E ks)) (hbi : bi < w.heap.size) (hlen : ks.length < 4611686018427387904) (hpos : 0 < ks.length) (ha : Asc O (rkI ord) ks) (hH : HOk hp w) (hne : ∀ hb, hp = some hb → hb ≠ b) :
    CallK Try.prog 174 #[ptr m, ptr b, itV x, hV hp, .int .i64 dep] w fun v w' => v = srchG ord ks x ∧ Ext (hF hp) w w' ∧ HOk hp w' := by
  refine calls_of_W [.tmp 10, .tmp 11] Try.func174 rfl Try.ntmps174 Try.results174 (by simp) fun e he => ?_
  have e0 : e 0 = ptr m := he 0 _ rfl
  have e1 : e 1 = ptr b := he 1 _ rfl
  have e2 : e 2 = itV x := he 2 _ rfl
  have e3 : e 3 = hV hp := he 3 _ rfl
  have e4 : e 4 = .int .i64 dep := he 4 _ rfl
  clear he
  refine W_sq fun K hK => (W_text [true, true] (by kernel_rfl) ?_); simp only [↓List.toList_toArray, ↓rgd, ↓rgf, ↓reduceIte, Nat.reduceEqDiff, rg, ow_174]
  refine hK _ _ ?_; clear hK K
  have X1 : Ext noF w w := Ext.refl _ _
  have h2' := X1.rd h2 fun g => g
  have h3' := X1.rd h3 fun g => g
  have row' := X1.row row fun _ _ g => g
  have hL' := hL.ext0 X1
  have hs := X1.size
  refine W_seq ?_
  cases hp with
  | none =>
    rw [hV_none] at e3
    refine W_sq fun K hK => (W_text [true, true] (by kernel_rfl) ?_); simp only [↓List.toList_toArray, ↓rgd, ↓rgf, ↓reduceIte, Nat.reduceEqDiff, rg, ow_174, e3]
    refine hK _ _ ?_; clear hK K
    refine W_true (by simp only [evt, evc, upd_eq, Nat.reduceEqDiff, ↓reduceIte, ntT, ntF] <;> rfl) ?_
    refine W_sq fun K hK => (W_text [true, true, true, false, true, true, true, true] (by kernel_rfl) ?_); simp only [↓List.toList_toArray, ↓rgd, ↓rgf, ↓reduceIte, Nat.reduceEqDiff, rg, ow_174, e0, e1, e2]
    refine do_call fn_171 (by simp only [evt, evc, upd_eq, Nat.reduceEqDiff, ↓reduceIte, maT, maC, maN, isnN, isnS] <;> rfl) (bsearch_any B m b bi oi cap ord ks x _ hL' h2' row' (by omega) hlen ha) ?_
    rintro _ w2 ⟨rfl, x2⟩
    refine ⟨trivial, ?_⟩
    simp only [↓List.toList_toArray, ↓rgd, ↓rgf, ↓reduceIte, Nat.reduceEqDiff, rg, ow_174, srchG]
    refine hK _ _ ?_; clear hK K
    refine W_ret ?_
    simp only [andThen_ret]
    exact endQ_2 (by simp only [upd_eq, Nat.reduceEqDiff, ↓reduceIte] <;> rfl) (by simp only [upd_eq, Nat.reduceEqDiff, ↓reduceIte] <;> rfl) ⟨rfl, ((X1.tr x2).tr (Ext.dr _ _ _)).mono fun _ _ _ g => g.elim, HOk.none _⟩
  | some hb =>
    rw [hV_some] at e3
    refine W_sq fun K hK => (W_text [true, true] (by kernel_rfl) ?_); simp only [↓List.toList_toArray, ↓rgd, ↓rgf, ↓reduceIte, Nat.reduceEqDiff, rg, ow_174, e3, ptr_eq]
    refine hK _ _ ?_; clear hK K
    refine W_false (by simp only [evt, evc, upd_eq, Nat.reduceEqDiff, ↓reduceIte, ntT, ntF] <;> rfl) (W_skip ?_)
    show W _ _ _ _ _ _
    refine W_sq fun K hK => (W_text [true, true, true, true, true, false, true, true, true, true] (by kernel_rfl) ?_); simp only [↓List.toList_toArray, ↓rgd, ↓rgf, ↓reduceIte, Nat.reduceEqDiff, rg, ow_174, e0, e1, e3, e4, e2]
    refine do_call fn_172 (by simp only [evt, evc, upd_eq, Nat.reduceEqDiff, ↓reduceIte, maT, maC, maN, isnN, isnS] <;> rfl) (hint_any B m b bi oi cap ord ks x ch hb dep _ hL' h2' h3' row' (by omega) hlen hpos ha ((hH hb rfl).ext X1 fun _ g => g) (hne hb rfl)) ?_
    rintro _ w2 ⟨rfl, x2, hH2⟩
    refine ⟨trivial, ?_⟩
    simp only [↓List.toList_toArray, ↓rgd, ↓rgf, ↓reduceIte, Nat.reduceEqDiff, rg, ow_174, srchG]
    refine hK _ _ ?_; clear hK K
    refine W_ret ?_
    exact endQ_2 (by simp only [upd_eq, Nat.reduceEqDiff, ↓reduceIte] <;> rfl) (by simp only [upd_eq, Nat.reduceEqDiff, ↓reduceIte] <;> rfl) ⟨rfl, (X1.trans x2 (fun _ _ g => g.elim) fun _ _ _ g => g).tr (Ext.dr _ _ _), fun b' h => by cases h; exact hH2.ext (Ext.dr noF _ _) fun _ g => g⟩
end Go.Proofs.Ytanmjbkbdmeckaa
/-
  What a deletion leaves of a list, and how it passes to a child's list. No program in sight. No condition.
-/
set_option linter.unusedSimpArgs false
set_option linter.unusedVariables false
namespace Go.Proofs.Ytanmjbkbdmeckaa
open Go
section
variable {α R : Type} (O : SOrd R) (κ : α → R)
/-- A deletion: of the last one, or of the one with rank q; the one that goes, and those that stay. -/
def delR (mx : Bool) (q : R) (xs : List α) : Option (α × List α) :=
  if mx = true then xs.getLast?.map fun y => (y, xs.dropLast) else (at? O κ q xs).map fun y => (y, del O κ q xs)
variable {O κ}
theorem delR_max {q : R} {A m : List α} (hm : m ≠ []) : delR O κ true q (A ++ m) = (delR O κ true q m).map fun p => (p.1, A ++ p.2) := by
  simp only [delR, ↓reduceIte]
  obtain ⟨l, x, rfl⟩ : ∃ l x, m = l ++ [x] := ⟨m.dropLast, m.getLast hm, (List.dropLast_concat_getLast hm).symm⟩
  rw [← List.append_assoc, List.getLast?_concat, List.getLast?_concat, List.dropLast_concat, List.dropLast_concat]
  rfl
theorem delR_last {q : R} {l : List α} {x : α} : delR O κ true q (l ++ [x]) = some (x, l) := by
  simp only [delR, ↓reduceIte, List.getLast?_concat, List.dropLast_concat, Option.map_some]
theorem delR_key {A C : List α} {k : α} (ha : Asc O κ (A ++ k :: C)) : delR O κ false (κ k) (A ++ k :: C) = some (k, A ++ C) := by
  obtain ⟨h1, h2⟩ := found_mid O κ ha
  have h3 : (A ++ k :: C)[A.length]? = some k := by simp
  simp only [delR, at?, del, h2, h1, ↓reduceIte, h3, Option.map_some, Bool.false_eq_true]
  rw [List.eraseIdx_append_of_length_le (Nat.le_refl _)]
  simp
theorem delR_leaf {q : R} {xs : List α} {k : α} (hh : hit O κ q xs = true) (hk : xs[lb O κ q xs]? = some k) : delR O κ false q xs = some (k, xs.eraseIdx (lb O κ q xs)) := by
  simp only [delR, at?, del, hh, ↓reduceIte, hk, Option.map_some, Bool.false_eq_true]
theorem delR_miss {q : R} {xs : List α} (hh : hit O κ q xs = false) : delR O κ false q xs = none := by
  simp only [delR, at?, hh, ↓reduceIte, Option.map_none, Bool.false_eq_true]
theorem delR_mid {q : R} {a m c : List α} (ha : ∀ x ∈ a, O.lt (κ x) q = true) (hc : ∀ x ∈ c.head?, O.lt q (κ x) = true) : delR O κ false q (a ++ m ++ c) = (delR O κ false q m).map fun p => (p.1, a ++ p.2 ++ c) := by
  cases hh : hit O κ q m with
  | false => rw [delR_miss hh, delR_miss (by rw [hit_mid O κ ha hc]; exact hh)]; rfl
  | true =>
    obtain ⟨k, hk, _⟩ := hit_at O κ hh
    have hl := lb_mid O κ (q := q) (a := a) (m := m) (c := c) ha fun x hx => O.asym (hc x hx)
    have hi := (List.getElem?_eq_some_iff.1 hk).1
    rw [delR_leaf hh hk, delR_leaf (k := k) (by rw [hit_mid O κ ha hc]; exact hh) (by
      rw [hl, List.append_assoc, List.getElem?_append_right (by omega), Nat.add_sub_cancel_left, List.getElem?_append_left hi]; exact hk), hl]
    simp only [Option.map_some, List.append_assoc]
    rw [List.eraseIdx_append_of_length_le (by omega), Nat.add_sub_cancel_left, List.eraseIdx_append_of_lt_length hi]
theorem delR_len {mx : Bool} {q : R} {xs ys : List α} {y : α} (h : delR O κ mx q xs = some (y, ys)) : ys.length + 1 = xs.length := by
  cases mx with
  | true =>
    rcases List.eq_nil_or_concat xs with rfl | ⟨l, x, rfl⟩
    · simp [delR] at h
    · rw [List.concat_eq_append, delR_last] at h
      cases h
      simp
  | false =>
    cases hh : hit O κ q xs with
    | false => rw [delR_miss hh] at h; cases h
    | true =>
      obtain ⟨k, hk, _⟩ := hit_at O κ hh
      have hi := (List.getElem?_eq_some_iff.1 hk).1
      rw [delR_leaf hh hk] at h
      cases h
      rw [List.length_eraseIdx_of_lt hi]; omega
theorem delR_asc {mx : Bool} {q : R} {xs ys : List α} {y : α} (ha : Asc O κ xs) (h : delR O κ mx q xs = some (y, ys)) : Asc O κ ys := by
  cases mx with
  | true =>
    rcases List.eq_nil_or_concat xs with rfl | ⟨l, x, rfl⟩
    · simp [delR] at h
    · rw [List.concat_eq_append, delR_last] at h
      rw [List.concat_eq_append] at ha
      cases h
      exact ((Asc.append O κ).1 ha).1
  | false =>
    cases hh : hit O κ q xs with
    | false => rw [delR_miss hh] at h; cases h
    | true =>
      obtain ⟨k, hk, _⟩ := hit_at O κ hh
      rw [delR_leaf hh hk] at h
      cases h
      exact ha.sublist (List.eraseIdx_sublist _ _)
/-- The last child's list is the end of the whole. -/
theorem weave_end : ∀ (L : List (List α)) (ks : List α), L.length = ks.length → ∃ A, ∀ c, weave (L ++ [c]) ks = A ++ c
  | [], [], _ => ⟨[], fun _ => rfl⟩
  | [], _ :: _, h => by simp at h
  | _ :: _, [], h => by simp at h
  | a :: L, k :: ks, h => by
    obtain ⟨A, hA⟩ := weave_end L ks (by simpa using h)
    exact ⟨a ++ k :: A, fun c => by rw [List.cons_append, weave_cons, hA]; simp⟩
/-- A key and the child ahead of it. -/
theorem weave_ahead {L B : List (List α)} {ks : List α} {k : α} (hk : ks[L.length]? = some k) : ∃ A C, ∀ c y, weave (L ++ c :: B) (ks.set L.length y) = A ++ c ++ y :: C := by
  have hi := (List.getElem?_eq_some_iff.1 hk).1
  obtain ⟨A, hA⟩ := weave_end L (ks.take L.length) (by rw [List.length_take]; omega)
  refine ⟨A, weave B (ks.drop (L.length + 1)), fun c y => ?_⟩
  rw [List.set_eq_take_append_cons_drop, if_pos hi, ← hA c]
  have := weave_cat (L ++ [c]) B (ks.take L.length) (ks.drop (L.length + 1)) y (by rw [List.length_append, List.length_take, List.length_singleton]; omega)
  rw [List.append_assoc] at this
  exact this
end
end Go.Proofs.Ytanmjbkbdmeckaa
/-
  Deleting an item from a node of a tree. No condition.
-/
set_option linter.unusedSimpArgs false
set_option linter.unusedVariables false
namespace Go.Proofs.Ytanmjbkbdmeckaa
open Go Go.Proofs
def DelQ (ord : List Int) (d : Nat) (iso : Int) (h lo b : Nat) (xs : List It) (mx : Bool) (x : It) (hp : Option Nat) (F : Nat → Nat → Prop) (w : World) (v : Value) (w' : World) : Prop :=
  Ext (fun y o => F y o ∨ hF hp y o) w w' ∧ HOk hp w' ∧ ∃ F' : Nat → Nat → Prop, (∀ y o, F' y o → F y o ∨ w.heap.size ≤ y) ∧
    ((delR O (rkI ord) mx (rkI ord x) xs = none ∧ v = .tuple #[zV, .bool false] ∧ Tr E iso (d - 1) (2 * d - 1) h w' lo b xs F') ∨
     ∃ y ys, delR O (rkI ord) mx (rkI ord x) xs = some (y, ys) ∧ v = .tuple #[itV y, .bool true] ∧ Tr E iso (d - 1) (2 * d - 1) h w' (lo - 1) b ys F')
theorem dsrch (ord : List Int) (ks : List It) (x : It) : srchG ord ks x = .tuple #[.int .i64 (lb O (rkI ord) (rkI ord x) ks : Nat), .bool (hit O (rkI ord) (rkI ord x) ks)] := id (Eq.trans rfl rfl)
theorem dropL {α : Type} {l : List α} (h : 0 < l.length) : l.eraseIdx (l.length - 1) = l.dropLast := by
  rw [List.eraseIdx_eq_take_drop_succ, List.drop_eq_nil_of_le (by omega), List.append_nil, List.dropLast_eq_take]
set_option maxHeartbeats 8000000 in
set_option maxRecDepth 8000 in
theorem del_any (B m d : Nat) (iso : Int) (ord : List Int) (hd : 2 ≤ d) (hd' : d ≤ 128) : ∀ (h lo b : Nat) (xs : List It) (F : Nat → Nat → Prop) (w : World) (pc po : Nat) (mx : Bool) (x : It) (kv : Value) (hp : Option Nat) (dep : Nat), (mx = false → kv = itV x) → Cfg w m iso d → Ls B m w ord →
    (∀ y o, F y o → m < y) → dep + h < 1152921504606846976 → 1 ≤ lo → Tr E iso (d - 1) (2 * d - 1) h w lo b xs F → Asc O (rkI ord) xs → xs.length < 1152921504606846976 → rd w pc po = some (ptr b) → HOk hp w → (∀ hb, hp = some hb → m < hb ∧ ∀ o, ¬ F hb o) →
    CallK Try.prog 175 #[ptr m, .pointer (some ⟨pc, po, none⟩), .bool mx, kv, hV hp, .int .i64 dep] w (DelQ ord d iso h lo b xs mx x hp F w) := by
  intro h
  induction h using Nat.strongRecOn with
  | _ h ihh =>
  intro lo b xs F w pc po mx x kv hp dep hkv0 hc hL hBF hdep hlo ht ha hbig hpp hH hHF
  obtain ⟨bi, oi, cap, ks, ch, ho, hl1, hl2, hoF, hin⟩ := ht.open
  have hbl := wok_lt ho.wb
  have hbil := wok_lt ho.wi
  have hml := wok_lt hc.wok
  have hcap := ho.le
  have hm : ∀ o, ¬ F m o := fun o g => by have := hBF m o g; omega
  have hFh : ∀ y o, F y o → ¬ hF hp y o := fun y o g k => (hHF y k).2 o g
  have hHl : ∀ y o, hF hp y o → y < w.heap.size := fun y o g => wok_lt (hH y g).wok
  have hmh : ∀ o, ¬ hF hp m o := fun o g => by have := (hHF m g).1; omega
  have hak : Asc O (rkI ord) ks := by
    rcases hin with ⟨_, _, hx, _⟩ | ⟨_, _, _, _, _, cs, _, _, n⟩
    · rw [← hx]; exact ha
    · refine List.Pairwise.sublist ?_ ha
      rw [n.eq]; exact weave_sub _ _ (by simpa using n.len)
  have hkb : ks.length < 4611686018427387904 := Nat.lt_of_le_of_lt hl2 (by clear hin hoF hFh; omega)
  have hch : ∃ cc, ch = .pointer cc := by
    rcases hin with ⟨_, h, _⟩ | ⟨_, bc, _, _, _, _, _, h, _⟩
    · exact ⟨_, h⟩
    · exact ⟨_, h⟩
  obtain ⟨cc, hcc⟩ := hch
  refine calls_of_W [.tmp 12, .tmp 13] Try.func175 rfl Try.ntmps175 Try.results175 (by simp) fun e he => ?_
  have e0 : e 0 = ptr m := he 0 _ rfl
  have e1 : e 1 = .pointer (some ⟨pc, po, none⟩) := he 1 _ rfl
  have e2 : e 2 = .bool mx := he 2 _ rfl
  have e3 : e 3 = kv := he 3 _ rfl
  have e4 : e 4 = hV hp := he 4 _ rfl
  have e5 : e 5 = .int .i64 dep := he 5 _ rfl
  clear he
  refine W_sq fun K hK => (W_text [true, true] (by kernel_rfl) ?_); simp only [↓List.toList_toArray, ↓rgd, ↓rgf, ↓reduceIte, Nat.reduceEqDiff, rg, ow_175]
  refine hK _ _ ?_; clear hK K
  refine W_sq fun K hK => (W_text [true, true, false, true] (by kernel_rfl) ?_); simp only [↓List.toList_toArray, ↓rgd, ↓rgf, ↓reduceIte, Nat.reduceEqDiff, rg, ow_175, e0, e1]
  refine do_call fn_121 (by simp only [evt, evc, upd_eq, Nat.reduceEqDiff, ↓reduceIte, maT, maC, maN, isnN, isnS] <;> rfl) (isoLoad_any m pc po b true iso w hc.iso hpp ho.h0) ?_
  rintro _ w3 ⟨rfl, r3⟩
  refine ⟨trivial, ?_⟩
  simp only [↓List.toList_toArray, ↓rgd, ↓rgf, ↓reduceIte, Nat.reduceEqDiff, rg, ow_175]
  refine hK _ _ ?_; clear hK K
  have X3 : Ext noF w w3 := r3.ext
  have s3 := X3.size
  clear r3
  refine W_sq fun K hK => (W_text [true] (by kernel_rfl) ?_); simp only [↓List.toList_toArray, ↓rgd, ↓rgf, ↓reduceIte, Nat.reduceEqDiff, rg, ow_175]
  refine hK _ _ ?_; clear hK K
  refine W_sq fun K hK => (W_text [true] (by kernel_rfl) ?_); simp only [↓List.toList_toArray, ↓rgd, ↓rgf, ↓reduceIte, Nat.reduceEqDiff, rg, ow_175]
  refine hK _ _ ?_; clear hK K
  refine W_sqx fun J hJ => ?_
  have hend : ∀ (e : Env) (w3 : World) (fnd : Bool) (i : Nat), ((mx = true ∧ fnd = true ∧ i = ks.length - 1) ∨ (mx = false ∧ i = lb O (rkI ord) (rkI ord x) ks ∧ fnd = hit O (rkI ord) (rkI ord x) ks)) → Ext (hF hp) w w3 → HOk hp w3 →
      e 0 = ptr m → e 2 = .bool mx → e 3 = kv → e 4 = hV hp → e 5 = .int .i64 dep → e 14 = ptr b → e 15 = .int .i64 i → e 16 = .bool fnd → J e w3 := by
    clear e0 e1 e2 e3 e4 e5 X3 s3
    clear e w3
    intro e w3 fnd i hfi X3 hH3 e0 e2 e3 e4 e5 e14 e15 e16
    have s3 := X3.size
    refine hJ _ _ ?_; clear hJ J
    have o3 := ho.ext X3 fun y o g => hFh y o (hoF y o g)
    have c3 := hc.ext X3 fun o _ _ => hmh o
    refine W_seq ?_
    rcases (id hin : _ ∨ _) with ⟨rfl, hcn, hxk, hFo⟩ | ⟨h', bc, ba, oa, capc, cs, rfl, hcn, n⟩
    · have hxk := hxk.symm
      subst hxk
      rw [hcn] at o3
      refine W_sq fun K hK => (W_text [true, false] (by kernel_rfl) ?_); simp only [↓List.toList_toArray, ↓rgd, ↓rgf, ↓reduceIte, Nat.reduceEqDiff, rg, ow_175, e14]
      refine do_call fn_122 (by simp only [evt, evc, upd_eq, Nat.reduceEqDiff, ↓reduceIte, maT, maC, maN, isnN, isnS] <;> rfl) (leaf_any b none w3 o3.h3) ?_
      rintro _ w4 ⟨rfl, hw4⟩
      obtain rfl : w3 = w4 := hw4.symm
      refine ⟨trivial, ?_⟩
      simp only [↓List.toList_toArray, ↓rgd, ↓rgf, ↓reduceIte, Nat.reduceEqDiff, rg, ow_175]
      refine hK _ _ ?_; clear hK K
      refine W_true (by simp only [evt, evc, upd_eq, Nat.reduceEqDiff, ↓reduceIte, ntT, ntF] <;> rfl) (W_seq ?_)
      refine W_sq fun K hK => (W_text [true] (by kernel_rfl) ?_); simp only [↓List.toList_toArray, ↓rgd, ↓rgf, ↓reduceIte, Nat.reduceEqDiff, rg, ow_175, e16]
      refine hK _ _ ?_; clear hK K
      cases fnd with
      | false =>
        refine W_false (by simp only [evt, evc, upd_eq, Nat.reduceEqDiff, ↓reduceIte, ntT, ntF] <;> rfl) (W_skip ?_)
        show W _ _ _ _ _ _
        have z3 := zIt_at c3
        refine W_sq fun K hK => (W_text [true, true, true, true, true, true] (by kernel_rfl) ?_); simp only [↓List.toList_toArray, ↓rgd, ↓rgf, ↓reduceIte, Nat.reduceEqDiff, rg, ow_175, e0, ptr_eq, z3]
        refine hK _ _ ?_; clear hK K
        obtain ⟨hmx, hi, hh⟩ : mx = false ∧ i = lb O (rkI ord) (rkI ord x) ks ∧ false = hit O (rkI ord) (rkI ord x) ks := by
          rcases hfi with ⟨_, h, _⟩ | h
          · cases h
          · exact h
        subst hmx
        exact W_ret (endQ_2 (by simp only [upd_eq, Nat.reduceEqDiff, ↓reduceIte] <;> rfl) (by simp only [upd_eq, Nat.reduceEqDiff, ↓reduceIte] <;> rfl) ⟨X3.mono fun _ _ _ g => .inr g, hH3, F, fun _ _ g => .inl g, .inl ⟨delR_miss hh.symm, rfl, ht.ext X3 hFh⟩⟩)
      | true =>
        refine W_true (by simp only [evt, evc, upd_eq, Nat.reduceEqDiff, ↓reduceIte, ntT, ntF] <;> rfl) ?_
        have hi : i < ks.length := by
          rcases hfi with ⟨_, _, h⟩ | ⟨_, h, hh⟩
          · omega
          · obtain ⟨k, hk, _⟩ := hit_at O (rkI ord) hh.symm
            rw [h]; exact (List.getElem?_eq_some_iff.1 hk).1
        obtain ⟨k, hk⟩ : ∃ k, ks[i]? = some k := ⟨_, List.getElem?_eq_getElem hi⟩
        have hdel : delR O (rkI ord) mx (rkI ord x) ks = some (k, ks.eraseIdx i) := by
          rcases hfi with ⟨rfl, _, h⟩ | ⟨rfl, h, hh⟩
          · have : ks = ks.dropLast ++ [k] := by
              conv => lhs; rw [← List.dropLast_concat_getLast (l := ks) (by intro h; rw [h] at hi; simp at hi)]
              congr 2
              rw [List.getLast_eq_getElem]
              subst h
              exact (List.getElem?_eq_some_iff.1 hk).2
            rw [h, dropL (by omega)]
            conv => lhs; rw [this]
            exact delR_last
          · rw [h] at hk ⊢
            exact delR_leaf hh.symm hk
        have hkv := it_at o3.row hk
        refine W_sq fun K hK => (W_text [true, true, true, true, true, true, true, true] (by kernel_rfl) ?_); simp only [↓List.toList_toArray, ↓rgd, ↓rgf, ↓reduceIte, Nat.reduceEqDiff, rg, ow_175, e14, e15, ptr_eq, o3.h2, hi, hkv]
        refine hK _ _ ?_; clear hK K
        have X5 : Ext noF w3 w3 := Ext.refl _ _
        have o5 := o3.ext X5 fun _ _ _ g => g
        have hmo : ∀ o, ¬ ownF E b bi oi cap m o := fun o g => hm o (hoF _ _ g)
        have q1 := wadd1 i (by omega)
        have i1 : i ≤ ks.length := by omega
        have i2 : i + 1 ≤ ks.length := by omega
        obtain ⟨o1, h1, h1', -, k1⟩ := o5.se.from E_sz i i1
        have h1' := h1' (by omega)
        try simp only [Nat.mul_one] at h1'
        subst h1'
        obtain ⟨o2, h2, -, v2, -⟩ := o5.se.from E_sz (i + 1) i2
        refine W_sq fun K hK => (W_draw (some none) (some 13) [(0, 0, 0), (0, 1, 0), (0, 2, 0), (0, 3, 0), (0, 4, 0), (0, 5, 0), (0, 6, 0), (0, 7, 0), (0, 8, 0), (0, 9, 0), (0, 10, 0), (0, 11, 0), (0, 12, 0), (1, 13, 0)] mixed (by kernel_rfl) ?_); simp only [↓List.toList_toArray, ↓rgd, ↓rgf, ↓reduceIte, Nat.reduceEqDiff, rg, ow_175, e14, e15, ptr_eq, o5.h2, q1, i1, i2, h1, h2]
        refine do_copy (by simp only [evt, evc, upd_eq, Nat.reduceEqDiff, ↓reduceIte, ntT, ntF] <;> rfl) (by simp only [evt, evc, upd_eq, Nat.reduceEqDiff, ↓reduceIte, ntT, ntF] <;> rfl) rb_eli (SlV.ext0 v2 (Ext.dr noF w3 (w3.drawn + 1))) ((Ext.dr noF w3 (w3.drawn + 1)).wok k1) (flat_oc E _) fun w6 x6 r6 s6 => ⟨(by first | exact trivial | exact .inl trivial), ?_⟩
        simp only [↓List.toList_toArray, ↓rgd, ↓rgf, ↓reduceIte, Nat.reduceEqDiff, rg, ow_175]
        refine hK _ _ ?_; clear hK K
        have hmn : min (ks.length - (i + 1)) (ks.length - i) = ks.length - 1 - i := by omega
        rw [hmn] at x6 r6
        rw [List.take_of_length_le (by rw [flat_length, List.length_drop, E_sz]; omega)] at r6
        obtain ⟨z, g1, g2⟩ := o5.se.down (i := i) hi (by simp only [E_sz, Nat.mul_one]; (try simp only [Nat.mul_one] at x6); exact x6.od) (by simp only [E_sz, Nat.mul_one]; (try simp only [Nat.mul_one] at r6); exact r6)
        have o6 := o5.step g1 g2
        have X6 : Ext (ownF E b bi oi cap) w3 w6 := X5.trans g2 (fun _ _ g => g.elim) fun _ _ _ g => seF_own g
        have le := List.length_eraseIdx_of_lt hi
        have hA : (ks.eraseIdx i ++ [z]).length = ks.length := by rw [List.length_append, List.length_singleton]; omega
        have h26 := o6.h2
        have h46 := o6.le
        rw [hA] at h26 h46
        have q2 := wsub1 ks.length (by omega) (by omega)
        have i3 : ks.length - 1 < ks.length := by omega
        have z6 := zIt_at (c3.ext X6 fun o _ _ => hmo o)
        refine W_sq fun K hK => (W_draw (some none) (some 15) [(0, 0, 0), (0, 1, 0), (0, 2, 0), (0, 3, 0), (0, 4, 0), (0, 5, 0), (0, 6, 0), (0, 7, 0), (0, 8, 0), (0, 9, 0), (0, 10, 0), (0, 11, 0), (0, 12, 0), (0, 13, 0), (0, 14, 0), (1, 15, 0)] mixed (by kernel_rfl) ?_); simp only [↓List.toList_toArray, ↓rgd, ↓rgf, ↓reduceIte, Nat.reduceEqDiff, rg, ow_175, e0, e14, ptr_eq, h26, q2, i3, z6]
        refine do_store (by simp only [evt, evc, upd_eq, Nat.reduceEqDiff, ↓reduceIte, ntT, ntF] <;> rfl) (by simp only [evt, evc, upd_eq, Nat.reduceEqDiff, ↓reduceIte, ntT, ntF] <;> rfl) sz_20 (rb_len none) o6.wi (by rw [E_sz]; omega) (rb_oc none) fun w7 x7 r7 s7 => ⟨(by first | exact trivial | exact .inl trivial), ?_⟩
        simp only [↓List.toList_toArray, ↓rgd, ↓rgf, ↓reduceIte, Nat.reduceEqDiff, rg, ow_175]
        refine hK _ _ ?_; clear hK K
        have o6z := o6.z
        have hAz : ((ks.eraseIdx i ++ [z]).map some).length = ks.length := by rw [List.length_map]; exact hA
        obtain ⟨g3, g4⟩ := o6z.se.set (i := ks.length - 1) (x := none) (by rw [hAz]; omega) (by simp only [Ez_sz, Nat.mul_one]; exact x7.od) (by simp only [Ez_sz, Nat.mul_one]; first | exact r7 | exact (rb_cel _) ▸ r7)
        rw [show ((ks.eraseIdx i ++ [z]).map some).set (ks.length - 1) none = (ks.eraseIdx i).map some ++ [none] by rw [List.map_append, show ks.length - 1 = ((ks.eraseIdx i).map some).length by rw [List.length_map]; omega]; exact set_last] at g3
        have o7 := o6z.step g3 g4
        have X7 : Ext (ownF E b bi oi cap) w3 w7 := X6.tr (g4.mono fun _ _ _ g => seF_own g)
        have hA' : ((ks.eraseIdx i).map some ++ [(none : Option It)]).length = ks.length := by rw [List.length_append, List.length_singleton, List.length_map]; omega
        have h27 := o7.h2
        rw [hA'] at h27
        have i4 : ks.length - 1 ≤ cap := by omega
        refine W_sq fun K hK => (W_draw (some none) (some 14) [(0, 0, 0), (0, 1, 0), (0, 2, 0), (0, 3, 0), (0, 4, 0), (0, 5, 0), (0, 6, 0), (0, 7, 0), (0, 8, 0), (0, 9, 0), (0, 10, 0), (0, 11, 0), (0, 12, 0), (0, 13, 0), (1, 14, 0)] mixed (by kernel_rfl) ?_); simp only [↓List.toList_toArray, ↓rgd, ↓rgf, ↓reduceIte, Nat.reduceEqDiff, rg, ow_175, e14, ptr_eq, h27, q2, i4]
        refine do_store (by simp only [evt, evc, upd_eq, Nat.reduceEqDiff, ↓reduceIte, ntT, ntF] <;> rfl) (by simp only [evt, evc, upd_eq, Nat.reduceEqDiff, ↓reduceIte, ntT, ntF] <;> rfl) sz_140 rfl o7.wb (by decide) (oc_one rfl rfl) fun w8 x8 r8 s8 => ⟨(by first | exact trivial | exact .inl trivial), ?_⟩
        simp only [↓List.toList_toArray, ↓rgd, ↓rgf, ↓reduceIte, Nat.reduceEqDiff, rg, ow_175]
        refine hK _ _ ?_; clear hK K
        obtain ⟨g5, g6⟩ := o7.se.cut x8.od (by rw [List.length_map, le]; exact (Row.cons.1 r8).1)
        have o8 := (o7.step g5 g6).unz
        have X8 : Ext (ownF E b bi oi cap) w3 w8 := X7.tr (g6.mono fun _ _ _ g => seF_own g)
        refine W_sq fun K hK => (W_text [true, true, true, true, true, true, true, false] (by kernel_rfl) ?_); simp only [↓List.toList_toArray, ↓rgd, ↓rgf, ↓reduceIte, Nat.reduceEqDiff, rg, ow_175, e14, ptr_eq, o8.h1, q2]
        refine do_store (by simp only [evt, evc, upd_eq, Nat.reduceEqDiff, ↓reduceIte, ntT, ntF] <;> rfl) (by simp only [evt, evc, upd_eq, Nat.reduceEqDiff, ↓reduceIte, ntT, ntF] <;> rfl) sz_3 rfl o8.wb (by decide) (oc_one rfl rfl) fun w9 x9 r9 s9 => ⟨trivial, ?_⟩
        simp only [↓List.toList_toArray, ↓rgd, ↓rgf, ↓reduceIte, Nat.reduceEqDiff, rg, ow_175]
        refine hK _ _ ?_; clear hK K
        have o9 := o8.cnt' x9 (Row.cons.1 r9).1
        have X9 : Ext (ownF E b bi oi cap) w3 w9 := X8.tr (x9.mono fun _ _ _ g => .inl g.1)
        have sz9 := X9.size
        have Y9 : Ext (ownF E b bi oi cap) w3 w9 := (((g2.mono fun _ _ _ g => seF_own g).tr (g4.mono fun _ _ _ g => seF_own g)).tr (g6.mono fun _ _ _ g => seF_own g)).tr (x9.mono fun _ _ _ g => .inl g.1)
        refine W_sq fun K hK => (W_text [true, true, true] (by kernel_rfl) ?_); simp only [↓List.toList_toArray, ↓rgd, ↓rgf, ↓reduceIte, Nat.reduceEqDiff, rg, ow_175]
        refine hK _ _ ?_; clear hK K
        have X10 : Ext (fun y o => F y o ∨ hF hp y o) w w9 := X3.trans X9 (fun _ _ g => .inr g) fun y o _ g => .inl (hoF y o g)
        have H10 : HOk hp w9 := hH3.ext X9 fun hb hh o g => (hHF hb hh).2 o (hoF _ _ g)
        refine W_ret (endQ_2 (by simp only [upd_eq, Nat.reduceEqDiff, ↓reduceIte] <;> rfl) (by simp only [upd_eq, Nat.reduceEqDiff, ↓reduceIte] <;> rfl) ⟨X10, H10, F, fun _ _ g => .inl g, .inr ⟨k, ks.eraseIdx i, hdel, rfl, bi, oi, cap, ?_, by omega, by omega, hFo⟩⟩)
        rw [le]
        exact o9
    · rw [hcn] at o3
      have hkF : ∀ y o, kidF bc ba oa capc y o → F y o := fun y o g => (n.fp y o).2 (.inr (.inl g))
      have hcF : ∀ c ∈ cs, ∀ y o, c.F y o → F y o := fun c hc y o g => (n.fp y o).2 (.inr (.inr ⟨c, hc, g⟩))
      have n3 := n.ext X3 (fun y o g => hFh y o (hkF y o g)) fun c hc y o g => hFh y o (hcF c hc y o g)
      refine W_sq fun K hK => (W_text [true, false] (by kernel_rfl) ?_); simp only [↓List.toList_toArray, ↓rgd, ↓rgf, ↓reduceIte, Nat.reduceEqDiff, rg, ow_175, e14]
      refine do_call fn_122 (by simp only [evt, evc, upd_eq, Nat.reduceEqDiff, ↓reduceIte, maT, maC, maN, isnN, isnS] <;> rfl) (leaf_any b (some ⟨bc, 0, none⟩) w3 o3.h3) ?_
      rintro _ w4 ⟨rfl, hw4⟩
      obtain rfl : w3 = w4 := hw4.symm
      refine ⟨trivial, ?_⟩
      simp only [↓List.toList_toArray, ↓rgd, ↓rgf, ↓reduceIte, Nat.reduceEqDiff, rg, ow_175]
      refine hK _ _ ?_; clear hK K
      refine W_false (by simp only [evt, evc, upd_eq, Nat.reduceEqDiff, ↓reduceIte, ntT, ntF] <;> rfl) (W_skip ?_)
      show W _ _ _ _ _ _
      refine W_sq fun K hK => (W_text [true] (by kernel_rfl) ?_); simp only [↓List.toList_toArray, ↓rgd, ↓rgf, ↓reduceIte, Nat.reduceEqDiff, rg, ow_175]
      refine hK _ _ ?_; clear hK K
      refine W_sq fun K hK => (W_text [true] (by kernel_rfl) ?_); simp only [↓List.toList_toArray, ↓rgd, ↓rgf, ↓reduceIte, Nat.reduceEqDiff, rg, ow_175]
      refine hK _ _ ?_; clear hK K
      have X4 : Ext (hF hp) w w3 := X3
      have H4 := hH3
      have o4 := o3
      have nn := n3
      have hs4 : w.heap.size ≤ w3.heap.size := s3
      clear n3 o3 c3 X3 hH3 s3
      refine W_sqx fun J hJ => ?_
      have hyes : ∀ (e : Env) (w5 : World) (y : It) (A Bq : List (Kid It)) (c : Kid It) (ks' ys : List It) (F0 F3 : Nat → Nat → Prop) (K0 K3 : Nat), Shr E iso (d - 1) (2 * d - 1) h' w5 b bc (xs.length : Nat) ks' A c Bq F0 F3 K0 K3 → ks'.length = ks.length → (A ++ c :: Bq).length = ks'.length + 1 →
          ys = weave ((A ++ c :: Bq).map Kid.xs) ks' → delR O (rkI ord) mx (rkI ord x) xs = some (y, ys) → Ext (fun y o => F y o ∨ hF hp y o) w w5 → HOk hp w5 → (∀ y o, (F0 y o ∨ F3 y o ∨ kinF (A ++ c :: Bq) y o) → F y o ∨ w.heap.size ≤ y) →
          e 0 = ptr m → e 14 = ptr b → e 15 = .int .i64 (A.length : Nat) → e 18 = itV y → e 19 = .bool true → J e w5 := by
        clear e0 e2 e3 e4 e5 e14 e15 e16 X4 H4 o4 nn
        clear e
        intro e w5 y A Bq c ks' ys F0 F3 K0 K3 sh hkl hlen hys hdel X5 H5 hFs e0 e14 e15 e18 e19
        refine hJ _ _ ?_; clear hJ J
        have hyl := delR_len hdel
        refine W_seq ?_
        refine W_sq fun K hK => (W_text [true, true] (by kernel_rfl) ?_); simp only [↓List.toList_toArray, ↓rgd, ↓rgf, ↓reduceIte, Nat.reduceEqDiff, rg, ow_175, e19]
        refine hK _ _ ?_; clear hK K
        refine W_false (by simp only [evt, evc, upd_eq, Nat.reduceEqDiff, ↓reduceIte, ntT, ntF] <;> rfl) (W_skip ?_)
        show W _ _ _ _ _ _
        obtain ⟨bi', oi', cap', o5, hz, hK, hF0⟩ := sh.n0
        have q1 := wsub1 xs.length (by omega) (by omega)
        refine W_sq fun K hK => (W_text [true, true, true, true, true, true, true, false] (by kernel_rfl) ?_); simp only [↓List.toList_toArray, ↓rgd, ↓rgf, ↓reduceIte, Nat.reduceEqDiff, rg, ow_175, e14, ptr_eq, o5.h1, q1]
        refine do_store (by simp only [evt, evc, upd_eq, Nat.reduceEqDiff, ↓reduceIte, ntT, ntF] <;> rfl) (by simp only [evt, evc, upd_eq, Nat.reduceEqDiff, ↓reduceIte, ntT, ntF] <;> rfl) sz_3 rfl o5.wb (by decide) (oc_one rfl rfl) fun w6 x6 r6 s6 => ⟨trivial, ?_⟩
        simp only [↓List.toList_toArray, ↓rgd, ↓rgf, ↓reduceIte, Nat.reduceEqDiff, rg, ow_175]
        refine hK _ _ ?_; clear hK K
        have hb0 : ∀ y o, rng b 1 1 y o → F0 y o := fun y o g => (hF0 y o).2 (.inl g.1)
        have x6' : Ext F0 w5 w6 := x6.mono fun y o _ g => hb0 y o g
        have sh6 : Shr E iso (d - 1) (2 * d - 1) h' w6 b bc (ys.length : Nat) ks' A c Bq F0 F3 K0 K3 := ⟨⟨bi', oi', cap', by rw [show ys.length = xs.length - 1 by omega]; exact o5.cnt' x6 (Row.cons.1 r6).1, hz, hK, hF0⟩,
          (kdO _ _).loc sh.n3 x6' sh.l0.d.symm, sh.l0, sh.t.ext x6' (sh.l0.g1 c (by simp)), fun a ha => (sh.rest a ha).ext x6' (sh.l0.g1 a (by
            rcases List.mem_append.1 ha with ha | ha
            · simp [ha]
            · simp [ha]))⟩
        have X6 : Ext (fun y o => F y o ∨ hF hp y o) w w6 := X5.trans x6' (fun _ _ g => g) fun y o hy g => by
          rcases hFs y o (.inl g) with h | h
          · exact .inl h
          · omega
        have H6 : HOk hp w6 := H5.ext x6' fun hb hh o g => by
          rcases hFs hb o (.inl g) with h | h
          · exact (hHF hb hh).2 o h
          · have := hHl hb 0 hh; omega
        clear sh o5 X5 H5 x6 r6 s6 x6' hb0 q1 hz hK hF0
        have hmF : ∀ o, ¬ (F0 m o ∨ F3 m o ∨ kinF (A ++ c :: Bq) m o) := fun o g => by
          rcases hFs m o g with h | h
          · exact hm o h
          · omega
        have c6 := hc.ext X6 fun o _ _ g => g.elim (hm o) (hmh o)
        refine W_sqx fun J hJ => ?_
        have hfin : ∀ (e : Env) (w7 : World) (F'' : Nat → Nat → Prop), Tr E iso (d - 1) (2 * d - 1) (h' + 1) w7 (lo - 1) b ys F'' → Ext (fun y o => F0 y o ∨ F3 y o ∨ kinF (A ++ c :: Bq) y o) w6 w7 → (∀ y o, F'' y o → (F0 y o ∨ F3 y o ∨ kinF (A ++ c :: Bq) y o) ∨ w6.heap.size ≤ y) →
            e 18 = itV y → J e w7 := by
          clear e0 e14 e15 e18 e19
          clear e
          intro e w7 F'' T7 x7 hF'' e18
          refine hJ _ _ ?_; clear hJ J
          have s6 := X6.size
          have s7 := x7.size
          refine W_sq fun K hK => (W_text [true, true, true] (by kernel_rfl) ?_); simp only [↓List.toList_toArray, ↓rgd, ↓rgf, ↓reduceIte, Nat.reduceEqDiff, rg, ow_175, e18]
          refine hK _ _ ?_; clear hK K
          have hold : ∀ y o, (F0 y o ∨ F3 y o ∨ kinF (A ++ c :: Bq) y o) → y < w.heap.size → F y o := fun y o g hy => (hFs y o g).resolve_right (by omega)
          refine W_ret (endQ_2 (by simp only [upd_eq, Nat.reduceEqDiff, ↓reduceIte] <;> rfl) (by simp only [upd_eq, Nat.reduceEqDiff, ↓reduceIte] <;> rfl) ⟨X6.trans x7 (fun _ _ g => g) fun y o hy g => .inl (hold y o g hy), H6.ext x7 fun hb hh o g => (hHF hb hh).2 o (hold hb o g (hHl hb 0 hh)), F'', fun y o g => ?_, .inr ⟨y, ys, hdel, rfl, T7⟩⟩)
          rcases hF'' y o g with g | g
          · exact hFs y o g
          · exact .inr (by omega)
        obtain ⟨a, nk, capn, hkn, hk1, hk2, hraise⟩ := sh6.t.keys
        obtain ⟨bi', oi', cap', o6, hz, hK, hF0⟩ := sh6.n0
        rcases sh6.n3 with ⟨h, _⟩ | ⟨bc', ba', oa', capc', hbc, k6, _, _⟩
        · cases h
        obtain rfl : bc = bc' := by simpa [ptr] using hbc
        have hil : A.length < ((A ++ c :: Bq).map fun g => some g.b).length := by simp
        have hcp := k6.ptr_at (j := A.length) (p := c.b) (by simp)
        by_cases hsh : nk < d - 1
        · have hb : decide ((nk : Int) < ((d - 1 : Nat) : Int)) = true := by simp only [decide_eq_true_eq]; omega
          refine W_sq fun K hK => (W_draw (some none) none [(0, 0, 0), (0, 1, 0), (0, 2, 0), (0, 3, 0), (0, 4, 0), (0, 5, 0), (0, 6, 0), (0, 7, 0), (0, 8, 0), (0, 9, 0), (0, 10, 0), (0, 11, 0), (0, 12, 0), (0, 13, 0), (0, 14, 0), (0, 15, 0), (0, 16, 0), (0, 17, 0)] mixed (by kernel_rfl) ?_); simp only [↓List.toList_toArray, ↓rgd, ↓rgf, ↓reduceIte, Nat.reduceEqDiff, rg, ow_175, e0, e14, e15, ptr_eq, o6.h3, k6.hd, hil, hcp, hkn, c6.mn, hb]
          refine hK _ _ ?_; clear hK K
          refine W_true (by simp only [evt, evc, upd_eq, Nat.reduceEqDiff, ↓reduceIte, ntT, ntF] <;> rfl) ?_
          have D := Ext.dr noF w6 (w6.drawn + 1)
          refine W_rg fun K hK => (W_text [true, true, true, false] (by kernel_rfl) ?_); simp only [↓List.toList_toArray, ↓rgd, ↓rgf, ↓reduceIte, Nat.reduceEqDiff, rg, ow_175, e0, e14, e15]
          refine do_call fn_176 (by simp only [evt, evc, upd_eq, Nat.reduceEqDiff, ↓reduceIte, maT, maC, maN, isnN, isnS] <;> rfl) (reb_shr m d iso hd hd' (c6.ext D fun _ _ _ g => g) (sh6.ext0 D) hmF hlen (by omega) (by omega) (by rw [hys]) (by rw [← hys]; omega) (D.rd hkn fun g => g) hsh) ?_
          rintro _ w7 ⟨F'', T7, x7, hF''⟩
          refine ⟨trivial, ?_⟩
          simp only [↓List.toList_toArray, ↓rgd, ↓rgf, ↓reduceIte, Nat.reduceEqDiff, rg, ow_175]
          refine hK _ _ ?_; clear hK K
          rw [← hys] at T7
          exact hfin _ _ F'' (T7.mono (by omega)) x7.od hF'' (by simp only [upd_eq, Nat.reduceEqDiff, ↓reduceIte]; exact e18)
        · have hb : decide ((nk : Int) < ((d - 1 : Nat) : Int)) = false := by simp only [decide_eq_false_iff_not]; omega
          refine W_sq fun K hK => (W_draw (some none) none [(0, 0, 0), (0, 1, 0), (0, 2, 0), (0, 3, 0), (0, 4, 0), (0, 5, 0), (0, 6, 0), (0, 7, 0), (0, 8, 0), (0, 9, 0), (0, 10, 0), (0, 11, 0), (0, 12, 0), (0, 13, 0), (0, 14, 0), (0, 15, 0), (0, 16, 0), (0, 17, 0)] mixed (by kernel_rfl) ?_); simp only [↓List.toList_toArray, ↓rgd, ↓rgf, ↓reduceIte, Nat.reduceEqDiff, rg, ow_175, e0, e14, e15, ptr_eq, o6.h3, k6.hd, hil, hcp, hkn, c6.mn, hb]
          refine hK _ _ ?_; clear hK K
          refine W_false (by simp only [evt, evc, upd_eq, Nat.reduceEqDiff, ↓reduceIte, ntT, ntF] <;> rfl) (W_skip ?_)
          have T6 := sh6.fine (lo := lo - 1) hlen (hraise (d - 1) (by omega)) (by omega) (by omega) (by rw [hys])
          rw [← hys] at T6
          exact hfin _ _ _ (T6.ext (Ext.dr noF _ _) fun _ _ _ g => g) ((Ext.dr noF _ _).mono fun _ _ _ g => g.elim) (fun y o g => .inl g) (by simp only [upd_eq, Nat.reduceEqDiff, ↓reduceIte]; exact e18)
      have hlt : ∀ y o, F y o → y < w.heap.size := ht.lt
      have hno : ∀ (e : Env) (w5 : World) (F' : Nat → Nat → Prop), delR O (rkI ord) mx (rkI ord x) xs = none → Tr E iso (d - 1) (2 * d - 1) (h' + 1) w5 lo b xs F' → (∀ y o, F' y o → F y o ∨ w.heap.size ≤ y) → Ext (fun y o => F y o ∨ hF hp y o) w w5 → HOk hp w5 →
          e 0 = ptr m → e 19 = .bool false → J e w5 := by
        clear e0 e2 e3 e4 e5 e14 e15 e16 X4 H4 o4 nn hyes
        clear e
        intro e w5 F' hdel T5 hF' X5 H5 e0 e19
        refine hJ _ _ ?_; clear hJ J
        refine W_seq ?_
        refine W_sq fun K hK => (W_text [true, true] (by kernel_rfl) ?_); simp only [↓List.toList_toArray, ↓rgd, ↓rgf, ↓reduceIte, Nat.reduceEqDiff, rg, ow_175, e19]
        refine hK _ _ ?_; clear hK K
        refine W_true (by simp only [evt, evc, upd_eq, Nat.reduceEqDiff, ↓reduceIte, ntT, ntF] <;> rfl) ?_
        have z5 := zIt_at (hc.ext X5 fun o _ _ g => g.elim (hm o) (hmh o))
        refine W_sq fun K hK => (W_text [true, true, true, true, true, true] (by kernel_rfl) ?_); simp only [↓List.toList_toArray, ↓rgd, ↓rgf, ↓reduceIte, Nat.reduceEqDiff, rg, ow_175, e0, ptr_eq, z5]
        refine hK _ _ ?_; clear hK K
        exact W_ret (endQ_2 (by simp only [upd_eq, Nat.reduceEqDiff, ↓reduceIte] <;> rfl) (by simp only [upd_eq, Nat.reduceEqDiff, ↓reduceIte] <;> rfl) ⟨X5, H5, F', hF', .inl ⟨hdel, rfl, T5⟩⟩)
      have hpost : ∀ (e : Env) (w5 : World) (i : Nat) (c : Kid It) (F' : Nat → Nat → Prop) (y : It) (pv : Value) (zs : List It) (dl : Bool), cs[i]? = some c → Ext (fun y o => c.F y o ∨ hF hp y o) w3 w5 → HOk hp w5 → (∀ y o, F' y o → c.F y o ∨ w3.heap.size ≤ y) →
          ((dl = true ∧ pv = itV y ∧ Tr E iso (d - 1) (2 * d - 1) h' w5 (d - 1 - 1) c.b zs F' ∧ delR O (rkI ord) mx (rkI ord x) xs = some (y, weave ((cs.map Kid.xs).set i zs) ks)) ∨ (dl = false ∧ zs = c.xs ∧ Tr E iso (d - 1) (2 * d - 1) h' w5 (d - 1) c.b c.xs F' ∧ delR O (rkI ord) mx (rkI ord x) xs = none)) →
          e 0 = ptr m → e 14 = ptr b → e 15 = .int .i64 (i : Nat) → e 18 = pv → e 19 = .bool dl → J e w5 := by
        clear e0 e2 e3 e4 e5 e14 e15 e16
        clear e
        intro e w5 i c F' y pv zs dl hcs x5 H5 hF' hres e0 e14 e15 e18 e19
        have hcm := List.mem_of_getElem? hcs
        have hcl : ∀ y o, c.F y o → y < w.heap.size := fun y o g => hlt y o (hcF c hcm y o g)
        have hG : ∀ y o, F y o → (c.F y o ∨ hF hp y o) → c.F y o := fun y o g k => k.elim id fun k => (hFh y o g k).elim
        have X6 : Ext (fun y o => F y o ∨ hF hp y o) w w5 := X4.trans x5 (fun _ _ g => .inr g) fun y o hy g => g.elim (fun g => .inl (hcF c hcm y o g)) .inr
        obtain ⟨l1, l2⟩ := shr_len (d := (⟨c.b, zs, F'⟩ : Kid It)) hcs
        have hfp : ∀ y o, (ownF E b bi oi cap y o ∨ kidF bc ba oa capc y o ∨ kinF (cs.take i ++ (⟨c.b, zs, F'⟩ : Kid It) :: cs.drop (i + 1)) y o) → F y o ∨ w3.heap.size ≤ y := fun y o g => nn.shr_fp hcs hF' y o g
        have hfp' : ∀ y o, (ownF E b bi oi cap y o ∨ kidF bc ba oa capc y o ∨ kinF (cs.take i ++ (⟨c.b, zs, F'⟩ : Kid It) :: cs.drop (i + 1)) y o) → F y o ∨ w.heap.size ≤ y := fun y o g => (hfp y o g).imp id fun g => by omega
        rcases hres with ⟨rfl, rfl, T5, hdel⟩ | ⟨rfl, rfl, T5, hdel⟩
        · have sh := nn.shr o4 (by omega) hcs x5 hG T5 hF'
          exact hyes e w5 y (cs.take i) (cs.drop (i + 1)) ⟨c.b, zs, F'⟩ ks _ _ _ _ _ sh rfl (by rw [l1]; exact n.len) rfl (by rw [shr_xs hcs]; exact hdel) X6 H5 hfp' e0 e14 (by rw [l2]; exact e15) e18 e19
        · have sh := nn.shr o4 (by omega) hcs x5 hG (T5.mono (by omega)) hF'
          have hset : (cs.map Kid.xs).set i c.xs = cs.map Kid.xs := by
            obtain ⟨g1, g2⟩ := List.getElem?_eq_some_iff.1 (show (cs.map Kid.xs)[i]? = some c.xs by rw [List.getElem?_map, hcs]; rfl)
            rw [← g2]; exact List.set_getElem_self g1
          have hxe : weave ((cs.take i ++ ⟨c.b, c.xs, F'⟩ :: cs.drop (i + 1)).map Kid.xs) ks = xs := by rw [shr_xs hcs, hset]; exact n.eq.symm
          have T := sh.fine (lo := lo) (by rw [l1]; exact n.len) T5 hl1 hl2 (by rw [hxe])
          rw [hxe] at T
          exact hno e w5 _ hdel T hfp' X6 H5 e0 e19
      have hcell : ∀ {i : Nat} {c : Kid It}, cs[i]? = some c → rd w3 ba (oa + i) = some (ptr c.b) := fun hcs => nn.kids.se.ptr_at (by simp [hcs])
      have hk0 := nn.kids.c0
      have hlenc : ∀ {i : Nat} {c : Kid It}, cs[i]? = some c → c.xs.length ≤ xs.length := fun hcs => by
        rw [n.eq]; exact weave_mem_length _ _ (by simpa using n.len) _ (List.mem_map_of_mem (List.mem_of_getElem? hcs))
      have hL4 : Ls B m w3 ord := hL.ext X4 (fun y o g => by have := (hHF y g).1; exact .inl (by omega)) (hmh 6)
      have c4 := hc.ext X4 fun o _ _ => hmh o
      have z4 := zIt_at c4
      have hcnl := n.len
      have hll : (cs.map Kid.b).length = cs.length := List.length_map _
      have D := Ext.dr noF w3 (w3.drawn + 1)
      refine W_sq fun K hK => (W_text [true] (by kernel_rfl) ?_); simp only [↓List.toList_toArray, ↓rgd, ↓rgf, ↓reduceIte, Nat.reduceEqDiff, rg, ow_175, e16]
      refine hK _ _ ?_; clear hK K
      cases fnd with
      | false =>
        refine W_false (by simp only [evt, evc, upd_eq, Nat.reduceEqDiff, ↓reduceIte, ntT, ntF] <;> rfl) ?_
        obtain ⟨rfl, hi, hh⟩ : mx = false ∧ i = lb O (rkI ord) (rkI ord x) ks ∧ false = hit O (rkI ord) (rkI ord x) ks := by
          rcases hfi with ⟨_, h, _⟩ | h
          · cases h
          · exact h
        have hik : i ≤ ks.length := by rw [hi]; exact lb_le O (rkI ord) _ _
        obtain ⟨c, hcs⟩ : ∃ c, cs[i]? = some c := ⟨_, List.getElem?_eq_getElem (by omega)⟩
        have hcm := List.mem_of_getElem? hcs
        have hce := hcell hcs
        have hil : i < (cs.map Kid.b).length := by omega
        obtain ⟨A, C, hw⟩ := weave_at i (cs.map Kid.xs) ks (by simpa using n.len) hik
        have hcx : (cs.map Kid.xs)[i]? = some c.xs := by rw [List.getElem?_map, hcs]; rfl
        have hxs : xs = A ++ c.xs ++ C := n.eq.trans (hw.eq hcx)
        have hac : Asc O (rkI ord) c.xs := by
          rw [hxs] at ha
          exact ((Asc.append O (rkI ord)).1 ((Asc.append O (rkI ord)).1 ha).1).2.1
        obtain ⟨hA, hC⟩ := hw.mid O (rkI ord) hcx (n.eq ▸ ha) hi.symm hh.symm
        have hdm := delR_mid (O := O) (κ := rkI ord) (m := c.xs) hA hC
        rw [← hxs] at hdm
        have q1 := wadd1 dep (by omega)
        have hle := hlenc hcs
        refine W_rg fun K hK => (W_text [true, true, true, true, true, true, true, true, true, true, true, true, true, true, false, true, true, true, true, true] (by kernel_rfl) ?_); simp only [↓List.toList_toArray, ↓rgd, ↓rgf, ↓reduceIte, Nat.reduceEqDiff, rg, ow_175, e0, e2, e3, e4, e5, e14, e15, ptr_eq, o4.h3, hk0, hil, hce, q1]
        refine do_call fn_175 (by simp only [evt, evc, upd_eq, Nat.reduceEqDiff, ↓reduceIte, maT, maC, maN, isnN, isnS] <;> rfl) (ihh h' (by omega) (d - 1) c.b c.xs c.F _ ba (oa + i) false x kv hp (dep + 1) hkv0 c4 hL4 (fun y o g => hBF y o (hcF c hcm y o g)) (by omega) (by omega) (nn.sub c hcm) hac (by omega) hce H4 fun hb hh => ⟨(hHF hb hh).1, fun o g => (hHF hb hh).2 o (hcF c hcm hb o g)⟩) ?_
        rintro _ w5 ⟨X5, H5, F', hF', hres⟩
        have x45 := X5
        rcases hres with ⟨hd0, rfl, T5⟩ | ⟨y, yl, hd1, rfl, T5⟩
        · refine ⟨trivial, ?_⟩
          simp only [↓List.toList_toArray, ↓rgd, ↓rgf, ↓reduceIte, Nat.reduceEqDiff, rg, ow_175]
          refine hK _ _ ?_; clear hK K
          exact hpost _ w5 i c F' x _ c.xs false hcs x45 H5 hF' (.inr ⟨rfl, rfl, T5, by rw [hdm, hd0]; rfl⟩) (by simp only [upd_eq, Nat.reduceEqDiff, ↓reduceIte]; exact e0) (by simp only [upd_eq, Nat.reduceEqDiff, ↓reduceIte]; exact e14) (by simp only [upd_eq, Nat.reduceEqDiff, ↓reduceIte]; exact e15) (by simp only [upd_eq, Nat.reduceEqDiff, ↓reduceIte] <;> rfl) (by simp only [upd_eq, Nat.reduceEqDiff, ↓reduceIte] <;> rfl)
        · refine ⟨trivial, ?_⟩
          simp only [↓List.toList_toArray, ↓rgd, ↓rgf, ↓reduceIte, Nat.reduceEqDiff, rg, ow_175]
          refine hK _ _ ?_; clear hK K
          exact hpost _ w5 i c F' y _ yl true hcs x45 H5 hF' (.inl ⟨rfl, rfl, T5, by rw [hdm, hd1, hw.set]; rfl⟩) (by simp only [upd_eq, Nat.reduceEqDiff, ↓reduceIte]; exact e0) (by simp only [upd_eq, Nat.reduceEqDiff, ↓reduceIte]; exact e14) (by simp only [upd_eq, Nat.reduceEqDiff, ↓reduceIte]; exact e15) (by simp only [upd_eq, Nat.reduceEqDiff, ↓reduceIte] <;> rfl) (by simp only [upd_eq, Nat.reduceEqDiff, ↓reduceIte] <;> rfl)
      | true =>
        refine W_true (by simp only [evt, evc, upd_eq, Nat.reduceEqDiff, ↓reduceIte, ntT, ntF] <;> rfl) ?_
        have hpos : ∀ {i : Nat} {c : Kid It}, cs[i]? = some c → c.xs ≠ [] := fun hcs hnil => by
          obtain ⟨bi1, oi1, cap1, ks1, ch1, ho1, hl11, hl12, hoF1, hin1⟩ := (n.sub _ (List.mem_of_getElem? hcs)).open
          rcases hin1 with ⟨_, _, hx, _⟩ | ⟨_, _, _, _, _, cs1, _, _, n1⟩
          · rw [hnil] at hx; rw [← hx] at hl11; simp at hl11; omega
          · have := (weave_sub (cs1.map Kid.xs) ks1 (by rw [List.length_map]; exact n1.len)).length_le
            rw [← n1.eq, hnil] at this
            simp at this; rw [this] at hl11; simp at hl11; omega
        cases mx with
        | true =>
          refine W_sq fun K hK => (W_text [true] (by kernel_rfl) ?_); simp only [↓List.toList_toArray, ↓rgd, ↓rgf, ↓reduceIte, Nat.reduceEqDiff, rg, ow_175, e2]
          refine hK _ _ ?_; clear hK K
          refine W_true (by simp only [evt, evc, upd_eq, Nat.reduceEqDiff, ↓reduceIte, ntT, ntF] <;> rfl) ?_
          have hi : i = ks.length - 1 := by
            rcases hfi with ⟨_, _, h⟩ | ⟨h, _⟩
            · exact h
            · cases h
          have q1 := wadd1 i (by omega)
          refine W_sq fun K hK => (W_text [true, true, true] (by kernel_rfl) ?_); simp only [↓List.toList_toArray, ↓rgd, ↓rgf, ↓reduceIte, Nat.reduceEqDiff, rg, ow_175, e15, q1]
          refine hK _ _ ?_; clear hK K
          have hik : i + 1 = ks.length := by omega
          obtain ⟨c, hcs⟩ : ∃ c, cs[i + 1]? = some c := ⟨_, List.getElem?_eq_getElem (by omega)⟩
          have hcm := List.mem_of_getElem? hcs
          have hce := hcell hcs
          have hil : i + 1 < (cs.map Kid.b).length := by omega
          have hle := hlenc hcs
          have hne := hpos hcs
          have hsp : cs.map Kid.xs = (cs.take (i + 1)).map Kid.xs ++ [c.xs] := by
            have h3 := List.getElem?_eq_some_iff.1 hcs
            have := List.take_append_drop (i + 1) cs
            rw [List.drop_eq_getElem_cons h3.1, h3.2, List.drop_eq_nil_of_le (by omega)] at this
            conv => lhs; rw [← this]
            simp
          have hLl : ((cs.take (i + 1)).map Kid.xs).length = ks.length := by rw [List.length_map, List.length_take]; omega
          obtain ⟨A, hA⟩ := weave_end ((cs.take (i + 1)).map Kid.xs) ks hLl
          have hxs : xs = A ++ c.xs := by rw [n.eq, hsp, hA]
          have hac : Asc O (rkI ord) c.xs := by
            rw [hxs] at ha
            exact ((Asc.append O (rkI ord)).1 ha).2.1
          have hdm := delR_max (O := O) (κ := rkI ord) (q := rkI ord x) (A := A) hne
          rw [← hxs] at hdm
          refine W_rg fun K hK => (W_semi (some none) (.take false 0 (.take false 1 (.take false 2 (.take false 3 (.take true 4 (.take false 5 (.take true 6 (.take false 7 (.take false 8 (.take false 9 (.take false 10 (.take false 11 (.take true 12 (.bar 13 (.take false 14 (.take false 15 (.take false 16 (.take false 17 (.take false 18 .nil))))))))))))))))))) mixed (by kernel_rfl) ?_); simp only [↓rgm, ↓List.toList_toArray, ↓rgd, ↓rgf, ↓reduceIte, Nat.reduceEqDiff, rg, ow_175, e0, e14, ptr_eq, o4.h3, hk0, hil, hce, z4]
          refine do_call fn_175 (by simp only [evt, evc, upd_eq, Nat.reduceEqDiff, ↓reduceIte, maT, maC, maN, isnN, isnS] <;> rfl) (ihh h' (by omega) (d - 1) c.b c.xs c.F _ ba (oa + (i + 1)) true x zV none 0 (fun h => by cases h) (c4.ext D fun _ _ _ g => g) (hL4.ext0 D) (fun y o g => hBF y o (hcF c hcm y o g)) (by omega) (by omega) ((nn.sub c hcm).ext D fun _ _ _ g => g) hac (by omega) (D.rd hce fun g => g) (HOk.none _) fun hb hh => by cases hh) ?_
          rintro _ w5 ⟨X5, _, F', hF', hres⟩
          have x45 : Ext (fun y o => c.F y o ∨ hF hp y o) w3 w5 := X5.od.mono fun y o _ g => g.elim .inl fun g => by cases g
          rcases hres with ⟨hd0, rfl, T5⟩ | ⟨y, yl, hd1, rfl, T5⟩
          · exfalso
            have := delR_last (O := O) (κ := rkI ord) (q := rkI ord x) (l := c.xs.dropLast) (x := c.xs.getLast hne)
            rw [List.dropLast_concat_getLast, hd0] at this
            cases this
          · refine ⟨trivial, ?_⟩
            simp only [↓List.toList_toArray, ↓rgd, ↓rgf, ↓reduceIte, Nat.reduceEqDiff, rg, ow_175, ↓rgm]
            refine hK _ _ ?_; clear hK K
            have H5 : HOk hp w5 := H4.ext X5.od fun hb hh o g => by
              rcases g with g | g
              · exact (hHF hb hh).2 o (hcF c hcm hb o g)
              · cases g
            refine hpost _ w5 (i + 1) c F' y _ yl true hcs x45 H5 hF' (.inl ⟨rfl, rfl, T5, ?_⟩) (by simp only [upd_eq, Nat.reduceEqDiff, ↓reduceIte]; exact e0) (by simp only [upd_eq, Nat.reduceEqDiff, ↓reduceIte]; exact e14) (by simp only [upd_eq, Nat.reduceEqDiff, ↓reduceIte] <;> rfl) (by simp only [upd_eq, Nat.reduceEqDiff, ↓reduceIte] <;> rfl) (by simp only [upd_eq, Nat.reduceEqDiff, ↓reduceIte] <;> rfl)
            have hset : (cs.map Kid.xs).set (i + 1) yl = (cs.take (i + 1)).map Kid.xs ++ [yl] := by
              have := set_last (A := (cs.take (i + 1)).map Kid.xs) (z := c.xs) (x := yl)
              rw [hLl, ← hik] at this
              rw [hsp]
              exact this
            rw [hset, hA, hdm]
            rw [hd1]
            rfl
        | false =>
          refine W_sq fun K hK => (W_text [true] (by kernel_rfl) ?_); simp only [↓List.toList_toArray, ↓rgd, ↓rgf, ↓reduceIte, Nat.reduceEqDiff, rg, ow_175, e2]
          refine hK _ _ ?_; clear hK K
          refine W_false (by simp only [evt, evc, upd_eq, Nat.reduceEqDiff, ↓reduceIte, ntT, ntF] <;> rfl) ?_
          obtain ⟨hi, hh⟩ : i = lb O (rkI ord) (rkI ord x) ks ∧ true = hit O (rkI ord) (rkI ord x) ks := by
            rcases hfi with ⟨h, _⟩ | ⟨_, h⟩
            · cases h
            · exact h
          obtain ⟨kk, hk1, hk2⟩ := hit_at O (rkI ord) hh.symm
          rw [← hi] at hk1
          have hik := (List.getElem?_eq_some_iff.1 hk1).1
          obtain ⟨c, hcs⟩ : ∃ c, cs[i]? = some c := ⟨_, List.getElem?_eq_getElem (by omega)⟩
          have hcm := List.mem_of_getElem? hcs
          have hil : i < (cs.map Kid.b).length := by omega
          have hle := hlenc hcs
          have hne := hpos hcs
          have hkv := it_at o4.row hk1
          have hsp : cs.map Kid.xs = (cs.take i).map Kid.xs ++ c.xs :: (cs.drop (i + 1)).map Kid.xs := by
            have h3 := List.getElem?_eq_some_iff.1 hcs
            have := List.take_append_drop i cs
            rw [List.drop_eq_getElem_cons h3.1, h3.2] at this
            conv => lhs; rw [← this]
            simp
          have hLl : ((cs.take i).map Kid.xs).length = i := by rw [List.length_map, List.length_take]; omega
          obtain ⟨A, C, hA⟩ := weave_ahead (L := (cs.take i).map Kid.xs) (B := (cs.drop (i + 1)).map Kid.xs) (ks := ks) (k := kk) (by rw [hLl]; exact hk1)
          rw [hLl] at hA
          have hxs : xs = A ++ c.xs ++ kk :: C := by
            rw [n.eq, hsp, ← hA c.xs kk]
            obtain ⟨g1, g2⟩ := List.getElem?_eq_some_iff.1 hk1
            rw [← g2, List.set_getElem_self g1]
          have hac : Asc O (rkI ord) c.xs := by
            rw [hxs] at ha
            exact ((Asc.append O (rkI ord)).1 ((Asc.append O (rkI ord)).1 ha).1).2.1
          have hdk : delR O (rkI ord) false (rkI ord x) xs = some (kk, A ++ c.xs ++ C) := by
            rw [hk2, hxs]
            exact delR_key (by rw [← hxs]; exact ha)
          refine W_sq fun K hK => (W_text [true, true, true, true, true, true, true, true] (by kernel_rfl) ?_); simp only [↓List.toList_toArray, ↓rgd, ↓rgf, ↓reduceIte, Nat.reduceEqDiff, rg, ow_175, e14, e15, ptr_eq, o4.h2, hik, hkv]
          refine hK _ _ ?_; clear hK K
          have nohit : ∀ {P : Prop}, delR O (rkI ord) true (rkI ord x) c.xs = none → P := fun hd0 => by
            have := delR_last (O := O) (κ := rkI ord) (q := rkI ord x) (l := c.xs.dropLast) (x := c.xs.getLast hne)
            rw [List.dropLast_concat_getLast, hd0] at this
            cases this
          have hce := hcell hcs
          refine W_sq fun K hK => (W_semi (some none) (.take false 0 (.take false 1 (.take false 2 (.take false 3 (.take true 4 (.take false 5 (.take true 6 (.take false 7 (.take false 8 (.take false 9 (.take false 10 (.take false 11 (.take true 12 (.bar 13 (.take false 14 (.take false 15 (.take false 16 (.take false 17 (.take false 18 .nil))))))))))))))))))) mixed (by kernel_rfl) ?_); simp only [↓rgm, ↓List.toList_toArray, ↓rgd, ↓rgf, ↓reduceIte, Nat.reduceEqDiff, rg, ow_175, e0, e14, e15, ptr_eq, o4.h3, hk0, hil, hce, z4]
          refine do_call fn_175 (by simp only [evt, evc, upd_eq, Nat.reduceEqDiff, ↓reduceIte, maT, maC, maN, isnN, isnS] <;> rfl) (ihh h' (by omega) (d - 1) c.b c.xs c.F _ ba (oa + i) true x zV none 0 (fun h => by cases h) (c4.ext D fun _ _ _ g => g) (hL4.ext0 D) (fun y o g => hBF y o (hcF c hcm y o g)) (by omega) (by omega) ((nn.sub c hcm).ext D fun _ _ _ g => g) hac (by omega) (D.rd hce fun g => g) (HOk.none _) fun hb hh => by cases hh) ?_
          rintro _ w5 ⟨X5', _, F', hF', hres⟩
          rcases hres with ⟨hd0, _⟩ | ⟨y, yl, hd1, rfl, T5⟩
          · exact nohit hd0
          · have x58 : Ext c.F w3 w5 := X5'.od.mono fun y o _ g => g.elim id fun g => by cases g
            refine ⟨trivial, ?_⟩
            simp only [↓List.toList_toArray, ↓rgd, ↓rgf, ↓reduceIte, Nat.reduceEqDiff, rg, ow_175, ↓rgm]
            refine hK _ _ ?_; clear hK K
            refine W_sq fun K hK => (W_text [true] (by kernel_rfl) ?_); simp only [↓List.toList_toArray, ↓rgd, ↓rgf, ↓reduceIte, Nat.reduceEqDiff, rg, ow_175]
            refine hK _ _ ?_; clear hK K
            have hown : ∀ y o, ownF E b bi oi cap y o → ¬ c.F y o := fun y o g k => n.ap.own c hcm y o k g
            have o8 := o4.ext x58 hown
            refine W_rg fun K hK => (W_text [true, true, true, true, true, true, true, false] (by kernel_rfl) ?_); simp only [↓List.toList_toArray, ↓rgd, ↓rgf, ↓reduceIte, Nat.reduceEqDiff, rg, ow_175, e14, e15, ptr_eq, o8.h2, hik]
            refine do_store (v := itV y) (by simp only [evt, evc, upd_eq, Nat.reduceEqDiff, ↓reduceIte, ntT, ntF] <;> rfl) (by simp only [evt, evc, upd_eq, Nat.reduceEqDiff, ↓reduceIte, ntT, ntF] <;> rfl) sz_20 (rb_len (some y)) o8.wi (by rw [E_sz]; omega) (rb_oc (some y)) fun w9 x9 r9 s9 => ⟨(by first | exact trivial | exact .inl trivial), ?_⟩
            simp only [↓List.toList_toArray, ↓rgd, ↓rgf, ↓reduceIte, Nat.reduceEqDiff, rg, ow_175]
            refine hK _ _ ?_; clear hK K
            have o9 := o8.set hik (by simp only [E_sz, Nat.mul_one]; exact x9.od) (by simp only [E_sz, Nat.mul_one]; exact r9)
            have x9' : Ext (ownF E b bi oi cap) w5 w9 := x9.od.mono fun y o _ g => .inr (by simp only [rng] at g ⊢; rw [E_sz]; omega)
            obtain ⟨l1, l2⟩ := shr_len (d := (⟨c.b, yl, F'⟩ : Kid It)) hcs
            have sh := nn.shr o4 (by omega) hcs x58 (fun _ _ _ g => g) T5 hF'
            have hfp : ∀ y o, (ownF E b bi oi cap y o ∨ kidF bc ba oa capc y o ∨ kinF (cs.take i ++ (⟨c.b, yl, F'⟩ : Kid It) :: cs.drop (i + 1)) y o) → F y o ∨ w3.heap.size ≤ y := fun y o g => nn.shr_fp hcs hF' y o g
            have sh9 : Shr E iso (d - 1) (2 * d - 1) h' w9 b bc (xs.length : Nat) (ks.set i y) (cs.take i) ⟨c.b, yl, F'⟩ (cs.drop (i + 1)) (ownF E b bi oi cap) (kidF bc ba oa capc) bi ba :=
              ⟨⟨bi, oi, cap, o9, by omega, rfl, fun _ _ => Iff.rfl⟩, (kdO _ _).loc sh.n3 x9' sh.l0.d.symm, sh.l0, sh.t.ext x9' (sh.l0.g1 _ (by simp)), fun a ha => (sh.rest a ha).ext x9' (sh.l0.g1 a (by
                rcases List.mem_append.1 ha with ha | ha
                · simp [ha]
                · simp [ha]))⟩
            have X9 : Ext (fun y o => F y o ∨ hF hp y o) w w9 := (X4.trans x58 (fun _ _ g => .inr g) fun y o _ g => .inl (hcF c hcm y o g)).trans x9' (fun _ _ g => g) fun y o _ g => .inl (hoF y o g)
            have H9 : HOk hp w9 := (H4.ext x58 fun hb hh o g => (hHF hb hh).2 o (hcF c hcm hb o g)).ext x9' fun hb hh o g => (hHF hb hh).2 o (hoF hb o g)
            have hcxs : c.xs = yl ++ [y] := by
              have := delR_last (O := O) (κ := rkI ord) (q := rkI ord x) (l := c.xs.dropLast) (x := c.xs.getLast hne)
              rw [List.dropLast_concat_getLast, hd1] at this
              simp only [Option.some.injEq, Prod.mk.injEq] at this
              rw [this.1, this.2, List.dropLast_concat_getLast]
            refine hyes _ w9 kk (cs.take i) (cs.drop (i + 1)) ⟨c.b, yl, F'⟩ (ks.set i y) (A ++ c.xs ++ C) _ _ _ _ sh9 List.length_set (by rw [l1, List.length_set]; exact n.len) ?_ hdk X9 H9 (fun y o g => (hfp y o g).imp id fun g => by omega)
              (by simp only [upd_eq, Nat.reduceEqDiff, ↓reduceIte]; exact e0) (by simp only [upd_eq, Nat.reduceEqDiff, ↓reduceIte]; exact e14) (by simp only [upd_eq, Nat.reduceEqDiff, ↓reduceIte]; rw [l2]; exact e15) (by simp only [upd_eq, Nat.reduceEqDiff, ↓reduceIte] <;> rfl) (by simp only [upd_eq, Nat.reduceEqDiff, ↓reduceIte] <;> rfl)
            rw [List.map_append, List.map_cons, hA, hcxs]; simp
  have o3 := ho.ext X3 fun _ _ _ g => g
  refine W_sq fun K hK => (W_text [true] (by kernel_rfl) ?_); simp only [↓List.toList_toArray, ↓rgd, ↓rgf, ↓reduceIte, Nat.reduceEqDiff, rg, ow_175, e2]
  refine hK _ _ ?_; clear hK K
  cases mx with
  | true =>
    refine W_true (by simp only [evt, evc, upd_eq, Nat.reduceEqDiff, ↓reduceIte, ntT, ntF] <;> rfl) ?_
    have q1 := wsub1 ks.length (by omega) (by omega)
    refine W_rg fun K hK => (W_text [true, true, true, true, true, true, true, true] (by kernel_rfl) ?_); simp only [↓List.toList_toArray, ↓rgd, ↓rgf, ↓reduceIte, Nat.reduceEqDiff, rg, ow_175, ptr_eq, o3.h2, q1]
    refine hK _ _ ?_; clear hK K
    exact hend _ _ true (ks.length - 1) (.inl ⟨rfl, rfl, rfl⟩) (X3.mono fun _ _ _ g => g.elim) (hH.ext0 X3) (by simp only [upd_eq, Nat.reduceEqDiff, ↓reduceIte]; exact e0) (by simp only [upd_eq, Nat.reduceEqDiff, ↓reduceIte]; exact e2) (by simp only [upd_eq, Nat.reduceEqDiff, ↓reduceIte]; exact e3) (by simp only [upd_eq, Nat.reduceEqDiff, ↓reduceIte]; exact e4) (by simp only [upd_eq, Nat.reduceEqDiff, ↓reduceIte]; exact e5) (by simp only [upd_eq, Nat.reduceEqDiff, ↓reduceIte] <;> rfl) (by simp only [upd_eq, Nat.reduceEqDiff, ↓reduceIte] <;> rfl) (by simp only [upd_eq, Nat.reduceEqDiff, ↓reduceIte] <;> rfl)
  | false =>
    refine W_false (by simp only [evt, evc, upd_eq, Nat.reduceEqDiff, ↓reduceIte, ntT, ntF] <;> rfl) ?_
    have e3' : e 3 = itV x := e3.trans (hkv0 rfl)
    have h33 := o3.h3
    rw [hcc] at h33
    refine W_rg fun K hK => (W_text [true, true, true, true, true, false, true, true, true, true, true] (by kernel_rfl) ?_); simp only [↓List.toList_toArray, ↓rgd, ↓rgf, ↓reduceIte, Nat.reduceEqDiff, rg, ow_175, e0, e3', e4, e5]
    refine do_call fn_174 (by simp only [evt, evc, upd_eq, Nat.reduceEqDiff, ↓reduceIte, maT, maC, maN, isnN, isnS] <;> rfl) (find_any B m b bi oi cap ord ks x cc hp dep w3 (hL.ext0 X3) o3.h2 h33 o3.row (by omega) hkb (by omega) hak (hH.ext0 X3) fun hb hh hbb => (hHF hb hh).2 0 (hbb ▸ ht.self 0)) ?_
    rintro _ w4 ⟨rfl, X4, H4⟩
    refine ⟨trivial, ?_⟩
    simp only [↓List.toList_toArray, ↓rgd, ↓rgf, ↓reduceIte, Nat.reduceEqDiff, rg, ow_175, dsrch]
    refine hK _ _ ?_; clear hK K
    exact hend _ _ _ _ (.inr ⟨rfl, rfl, rfl⟩) (X3.trans X4 (fun _ _ g => g.elim) fun _ _ _ g => g) H4 (by simp only [upd_eq, Nat.reduceEqDiff, ↓reduceIte]; exact e0) (by simp only [upd_eq, Nat.reduceEqDiff, ↓reduceIte]; exact e2) (by simp only [upd_eq, Nat.reduceEqDiff, ↓reduceIte]; exact e3) (by simp only [upd_eq, Nat.reduceEqDiff, ↓reduceIte]; exact e4) (by simp only [upd_eq, Nat.reduceEqDiff, ↓reduceIte]; exact e5) (by simp only [upd_eq, Nat.reduceEqDiff, ↓reduceIte] <;> rfl) (by simp only [upd_eq, Nat.reduceEqDiff, ↓reduceIte] <;> rfl) (by simp only [upd_eq, Nat.reduceEqDiff, ↓reduceIte] <;> rfl)
end Go.Proofs.Ytanmjbkbdmeckaa
/-
  Locks that are none; small facts of trees. No condition.
-/
set_option linter.unusedSimpArgs false
set_option linter.unusedVariables false
namespace Go.Proofs.Ytanmjbkbdmeckaa
open Go Go.Proofs
theorem idx0 (sz b o n : Nat) (h : 0 < n) : idxX (some sz) ⟨b, o, none⟩ n 0 = some (.pointer (some ⟨b, o, none⟩)) := by
  have := idxX_s sz b o n 0 h
  rwa [Nat.zero_mul, Nat.add_zero] at this
theorem lock_any (a b : Value) (w : World) : CallK Try.prog 118 #[a, b] w fun v w' => v = .bool false ∧ w = w' := by
  refine calls_of_W [.tmp 4] Try.func118 rfl Try.ntmps118 Try.results118 (by simp) fun e he => ?_
  clear he
  refine W_sq fun K hK => (W_text [true] (by kernel_rfl) ?_); simp only [↓List.toList_toArray, ↓rgd, ↓rgf, ↓reduceIte, Nat.reduceEqDiff, rg]
  refine hK _ _ ?_; clear hK K
  refine W_sq fun K hK => (W_text [true] (by kernel_rfl) ?_); simp only [↓List.toList_toArray, ↓rgd, ↓rgf, ↓reduceIte, Nat.reduceEqDiff, rg]
  refine hK _ _ ?_; clear hK K
  exact W_ret (endQ_1 (by simp only [upd_eq, Nat.reduceEqDiff, ↓reduceIte] <;> rfl) ⟨rfl, rfl⟩)
/-- An item that was found, and whether one was. -/
def gotG (x : Option It) : Value := .tuple #[itO x, .bool x.isSome]
theorem gotG_eq (x : Option It) : gotG x = .tuple #[itO x, .bool x.isSome] := id (Eq.trans rfl rfl)
theorem Tr.pos {w : World} {iso : Int} {mn mx h lo b : Nat} {xs : List It} {F : Nat → Nat → Prop} (ht : Tr E iso mn mx h w lo b xs F) (hlo : 1 ≤ lo) : 0 < xs.length := by
  obtain ⟨bi, oi, cap, ks, ch, ho, h1, h2, _, h | ⟨h', bc, ba, oa, capc, cs, _, _, n⟩⟩ := ht.open
  · rw [h.2.2.1]; omega
  · rw [n.eq]; have := weave_length (cs.map Kid.xs) ks (by simpa using n.len); omega
theorem weave_head {cs : List (List It)} {ks : List It} {c : List It} (hc : cs[0]? = some c) (hne : 0 < c.length) : (weave cs ks).head? = c.head? := by
  cases cs with
  | nil => simp at hc
  | cons d cs =>
    simp at hc; subst hc
    cases d with
    | nil => simp at hne
    | cons x d => cases ks <;> simp [weave]
end Go.Proofs.Ytanmjbkbdmeckaa
/-
  A tree of whatever values, wrapped: made, set, grown. No condition.
-/
set_option linter.unusedSimpArgs false
set_option linter.unusedVariables false
namespace Go.Proofs.Ytanmjbkbdmeckaa
open Go Go.Proofs
/-- A BTree's record: it holds the tree. -/
def BAt (w : World) (t m : Nat) : Prop := rd w t 0 = some (ptr m)
theorem eq_fn (f : Nat) (a b : Array Value) : binV Try.prog .eql 92 (.func (.func f) a b) .nilFunc = some (.bool false) := by kernel_rfl
theorem eq_any (x : It) : binV Try.prog .eql 20 (itV x) .nilIface = some (.bool false) := by kernel_rfl
theorem eq_anyN : binV Try.prog .eql 20 zV .nilIface = some (.bool true) := by kernel_rfl
theorem bu_bt (m : Nat) : buildV Try.prog 103 [(0, ptr m)] = some (.agg #[ptr m]) := by kernel_rfl
set_option maxHeartbeats 800000 in
set_option maxRecDepth 8000 in
theorem newB_any (B d : Nat) (ord : List Int) (lv : Value) (nl : Bool) (hd : DOk d) (w : World) (hL : LessAt B w.heap.size w lv ord) (hB : B ≤ w.heap.size) :
    CallK Try.prog 86 #[lv, .agg #[.int .i64 d, .bool nl]] w fun v w' => ∃ t m, v = ptr t ∧ BAt w' t m ∧ w.heap.size ≤ m ∧ m < t ∧ t < w'.heap.size ∧ Ext noF w w' ∧ TreeAt B ord w' m (degOf d) 1 [] noF := by
  refine calls_of_W [.tmp 4] Try.func86 rfl Try.ntmps86 Try.results86 (by simp) fun e he => ?_
  have e0 : e 0 = lv := he 0 _ rfl
  have e1 : e 1 = .agg #[.int .i64 d, .bool nl] := he 1 _ rfl
  clear he
  refine W_sq fun K hK => (W_text [false, true] (by kernel_rfl) ?_); simp only [↓List.toList_toArray, ↓rgd, ↓rgf, ↓reduceIte, Nat.reduceEqDiff, rg, ow_86]
  refine do_box (by simp only [evt]; exact e1) fun w1 n1 => ⟨trivial, ?_⟩
  simp only [↓List.toList_toArray, ↓rgd, ↓rgf, ↓reduceIte, Nat.reduceEqDiff, rg, ow_86]
  refine hK _ _ ?_; clear hK K
  have s1 := n1.size
  have r1 : rdA w1 w.heap.size 0 2 = some (.agg #[.int .i64 d, .bool nl]) := n1.row.rdA 2 (Nat.le_refl _)
  obtain ⟨cc, lv0, hlv, -⟩ := id hL.ex
  refine W_seq ?_
  refine W_sq fun K hK => (W_text [true, true] (by kernel_rfl) ?_); simp only [↓List.toList_toArray, ↓rgd, ↓rgf, ↓reduceIte, Nat.reduceEqDiff, rg, ow_86, e0, hlv, eq_fn]
  refine hK _ _ ?_; clear hK K
  refine W_false (by simp only [evt, evc, upd_eq, Nat.reduceEqDiff, ↓reduceIte, ntT, ntF] <;> rfl) (W_skip ?_)
  show W _ _ _ _ _ _
  refine W_sq fun K hK => (W_text [true, true, false, true, false, true] (by kernel_rfl) ?_); simp only [↓List.toList_toArray, ↓rgd, ↓rgf, ↓reduceIte, Nat.reduceEqDiff, rg, ow_86, e0, r1]
  refine do_call fn_117 (by simp only [evt, evc, upd_eq, Nat.reduceEqDiff, ↓reduceIte, maT, maC, maN, isnN, isnS] <;> rfl) (newTree_any B d ord lv nl hd w1 ((hL.ext n1.ext fun _ _ g => g.elim).mono (by omega)) (by omega)) ?_
  rintro _ w2 ⟨m, rfl, hm, x2, hT⟩
  refine ⟨trivial, ?_⟩
  simp only [↓List.toList_toArray, ↓rgd, ↓rgf, ↓reduceIte, Nat.reduceEqDiff, rg, ow_86, bu_bt]
  refine do_box (v := .agg #[ptr m]) (by simp only [evt, upd_eq, Nat.reduceEqDiff, ↓reduceIte]) fun w3 n3 => ⟨trivial, ?_⟩
  simp only [↓List.toList_toArray, ↓rgd, ↓rgf, ↓reduceIte, Nat.reduceEqDiff, rg, ow_86]
  refine hK _ _ ?_; clear hK K
  have s3 := n3.size
  have hml := hT.mlt
  exact W_ret (endQ_1 (by simp only [upd_eq, Nat.reduceEqDiff, ↓reduceIte] <;> rfl) ⟨w2.heap.size, m, rfl, (Row.cons.1 (show Row w3 w2.heap.size 0 [ptr m] from n3.row)).1, by omega, hml, by omega, (n1.ext.tr x2).tr n3.ext, hT.ext n3.ext⟩)
theorem itO_none {o : Option It} (h : o.isSome = false) : itO o = zV := by cases o with | none => rfl | some x => cases h
theorem at_isB (ord : List Int) (q : It) (xs : List It) : (at? O (rkI ord) (rkI ord q) xs).isSome = hit O (rkI ord) (rkI ord q) xs := by
  unfold at?
  cases hh : hit O (rkI ord) (rkI ord q) xs with
  | true => obtain ⟨k, h1, _⟩ := hit_at O (rkI ord) hh; simp [h1]
  | false => simp
set_option maxHeartbeats 800000 in
set_option maxRecDepth 8000 in
theorem bsetH_any (t B m d : Nat) (iso : Int) (ord : List Int) (x : It) (hd : 2 ≤ d) (hd' : d ≤ 128) (xs : List It) (F : Nat → Nat → Prop) (w : World) (ht : BAt w t m) (hM : TreeAt B ord w m d iso xs F) (hbig : xs.length < 1152921504606846976) :
    CallK Try.prog 90 #[ptr t, itV x, .pointer none] w fun v w' => v = itO (at? O (rkI ord) (rkI ord x) xs) ∧ Ext (mapF m F) w w' ∧ ∃ F', TreeAt B ord w' m d iso (put O (rkI ord) x xs) F' ∧ ∀ y o, F' y o → F y o ∨ w.heap.size ≤ y := by
  refine calls_of_W [.tmp 6] Try.func90 rfl Try.ntmps90 Try.results90 (by simp) fun e he => ?_
  have e0 : e 0 = ptr t := he 0 _ rfl
  have e1 : e 1 = itV x := he 1 _ rfl
  have e2 : e 2 = .pointer none := he 2 _ rfl
  clear he
  refine W_sq fun K hK => (W_text [true] (by kernel_rfl) ?_); simp only [↓List.toList_toArray, ↓rgd, ↓rgf, ↓reduceIte, Nat.reduceEqDiff, rg, ow_90]
  refine hK _ _ ?_; clear hK K
  refine W_seq ?_
  refine W_sq fun K hK => (W_text [true, true] (by kernel_rfl) ?_); simp only [↓List.toList_toArray, ↓rgd, ↓rgf, ↓reduceIte, Nat.reduceEqDiff, rg, ow_90, e1, eq_any]
  refine hK _ _ ?_; clear hK K
  refine W_false (by simp only [evt, evc, upd_eq, Nat.reduceEqDiff, ↓reduceIte, ntT, ntF] <;> rfl) (W_skip ?_)
  show W _ _ _ _ _ _
  refine W_sq fun K hK => (W_text [true, true, true, true, true, true, false, true, true, true, true, true] (by kernel_rfl) ?_); simp only [↓List.toList_toArray, ↓rgd, ↓rgf, ↓reduceIte, Nat.reduceEqDiff, rg, ow_90, e0, e1, e2, ptr_eq, show rd w t 0 = some (ptr m) from ht]
  refine do_call fn_124 (by simp only [evt, evc, upd_eq, Nat.reduceEqDiff, ↓reduceIte, maT, maC, maN, isnN, isnS] <;> rfl) (setH_tree B m d iso ord x hd hd' xs F w hM hbig) ?_
  rintro _ w1 ⟨rfl, h1⟩
  refine ⟨trivial, ?_⟩
  simp only [↓List.toList_toArray, ↓rgd, ↓rgf, ↓reduceIte, Nat.reduceEqDiff, rg, ow_90]
  refine hK _ _ ?_; clear hK K
  refine W_seq ?_
  cases hh : hit O (rkI ord) (rkI ord x) xs with
  | true =>
    refine W_sq fun K hK => (W_text [true, true] (by kernel_rfl) ?_); simp only [↓List.toList_toArray, ↓rgd, ↓rgf, ↓reduceIte, Nat.reduceEqDiff, rg, ow_90, hh]
    refine hK _ _ ?_; clear hK K
    refine W_false (by simp only [evt, evc, upd_eq, Nat.reduceEqDiff, ↓reduceIte, ntT, ntF] <;> rfl) (W_skip ?_)
    show W _ _ _ _ _ _
    refine W_sq fun K hK => (W_text [true, true] (by kernel_rfl) ?_); simp only [↓List.toList_toArray, ↓rgd, ↓rgf, ↓reduceIte, Nat.reduceEqDiff, rg, ow_90]
    refine hK _ _ ?_; clear hK K
    exact W_ret (endQ_1 (by simp only [upd_eq, Nat.reduceEqDiff, ↓reduceIte] <;> rfl) ⟨rfl, h1⟩)
  | false =>
    refine W_sq fun K hK => (W_text [true, true] (by kernel_rfl) ?_); simp only [↓List.toList_toArray, ↓rgd, ↓rgf, ↓reduceIte, Nat.reduceEqDiff, rg, ow_90, hh]
    refine hK _ _ ?_; clear hK K
    refine W_true (by simp only [evt, evc, upd_eq, Nat.reduceEqDiff, ↓reduceIte, ntT, ntF] <;> rfl) ?_
    refine W_sq fun K hK => (W_text [true] (by kernel_rfl) ?_); simp only [↓List.toList_toArray, ↓rgd, ↓rgf, ↓reduceIte, Nat.reduceEqDiff, rg, ow_90]
    refine hK _ _ ?_; clear hK K
    refine W_ret ?_
    simp only [andThen_ret]
    exact endQ_1 (by simp only [upd_eq, Nat.reduceEqDiff, ↓reduceIte] <;> rfl) ⟨(itO_none (by rw [at_isB]; exact hh)).symm, h1⟩
set_option maxHeartbeats 800000 in
set_option maxRecDepth 8000 in
theorem bset_any (t B m d : Nat) (iso : Int) (ord : List Int) (x : It) (hd : 2 ≤ d) (hd' : d ≤ 128) (xs : List It) (F : Nat → Nat → Prop) (w : World) (ht : BAt w t m) (hM : TreeAt B ord w m d iso xs F) (hbig : xs.length < 1152921504606846976) :
    CallK Try.prog 57 #[ptr t, itV x] w fun v w' => v = itO (at? O (rkI ord) (rkI ord x) xs) ∧ Ext (mapF m F) w w' ∧ ∃ F', TreeAt B ord w' m d iso (put O (rkI ord) x xs) F' ∧ ∀ y o, F' y o → F y o ∨ w.heap.size ≤ y := by
  refine calls_of_W [.tmp 4] Try.func57 rfl Try.ntmps57 Try.results57 (by simp) fun e he => ?_
  have e0 : e 0 = ptr t := he 0 _ rfl
  have e1 : e 1 = itV x := he 1 _ rfl
  clear he
  refine W_sq fun K hK => (W_text [true] (by kernel_rfl) ?_); simp only [↓List.toList_toArray, ↓rgd, ↓rgf, ↓reduceIte, Nat.reduceEqDiff, rg, ow_57]
  refine hK _ _ ?_; clear hK K
  refine W_sq fun K hK => (W_text [true, true, false, true] (by kernel_rfl) ?_); simp only [↓List.toList_toArray, ↓rgd, ↓rgf, ↓reduceIte, Nat.reduceEqDiff, rg, ow_57, e0, e1]
  refine do_call fn_90 (by simp only [evt, evc, upd_eq, Nat.reduceEqDiff, ↓reduceIte, maT, maC, maN, isnN, isnS] <;> rfl) (bsetH_any t B m d iso ord x hd hd' xs F w ht hM hbig) ?_
  rintro _ w1 ⟨rfl, h1⟩
  refine ⟨trivial, ?_⟩
  simp only [↓List.toList_toArray, ↓rgd, ↓rgf, ↓reduceIte, Nat.reduceEqDiff, rg, ow_57]
  refine hK _ _ ?_; clear hK K
  exact W_ret (endQ_1 (by simp only [upd_eq, Nat.reduceEqDiff, ↓reduceIte] <;> rfl) ⟨rfl, h1⟩)
set_option maxHeartbeats 800000 in
set_option maxRecDepth 8000 in
theorem growB_any (d : Nat) (hd : DOk d) (ord : List Int) (sv : Value) (nl : Bool) (l : List It) (lv : Value) (w : World) (hs : SlInt w sv ord) (hsb : ord.length ≤ 2147483647) (hl : SlI w lv l) (hbig : l.length ≤ 4294967294) :
    CallK Try.prog 53 #[mkV sv d nl, lv] w fun v w' => Ext noF w w' ∧ ∃ t B m F, v = ptr t ∧ BAt w' t m ∧ w.heap.size ≤ t ∧ (∀ o, ¬ F t o) ∧ t < w'.heap.size ∧ TreeAt B ord w' m (degOf d) 1 (treeG ord l) F ∧ w.heap.size ≤ m ∧ m < t ∧ (∀ y o, F y o → w.heap.size ≤ y) ∧ w.heap.size ≤ B := by
  obtain ⟨hd2, hd3⟩ := hd.of
  obtain ⟨sa, sc, rfl⟩ := hs.shape
  refine calls_of_W [.tmp 4] Try.func53 rfl Try.ntmps53 Try.results53 (by simp) fun e he => ?_
  have e0 : e 0 = mkV (.slice sa ord.length sc) d nl := he 0 _ rfl
  have e1 : e 1 = lv := he 1 _ rfl
  clear he
  refine W_sq fun K hK => (W_text [false, true] (by kernel_rfl) ?_); simp only [↓List.toList_toArray, ↓rgd, ↓rgf, ↓reduceIte, Nat.reduceEqDiff, rg, ow_53]
  refine do_box (by simp only [evt]; exact e0) fun w1 n1 => ⟨trivial, ?_⟩
  simp only [↓List.toList_toArray, ↓rgd, ↓rgf, ↓reduceIte, Nat.reduceEqDiff, rg, ow_53]
  refine hK _ _ ?_; clear hK K
  have s1 := n1.size
  have rm : Row w1 w.heap.size 0 [.slice sa ord.length sc, .int .i64 d, .bool nl] := n1.row
  have rm0 := (Row.cons.1 rm).1
  have rm3 : rdA w1 w.heap.size 0 3 = some (mkV (.slice sa ord.length sc) d nl) := rm.rdA 3 (Nat.le_refl _)
  have M1 : readsB (some (some [w.heap.size])) w.heap.size = true := by simp [readsB]
  refine W_sq fun K hK => (W_draw (some (some [w.heap.size])) none [(0, 0, 0), (0, 1, 0), (0, 3, 0), (1, 2, 0), (1, 4, 0), (1, 5, 0), (0, 6, 0)] mixed (by kernel_rfl) ?_); simp only [↓List.toList_toArray, ↓rgd, ↓rgf, ↓reduceIte, Nat.reduceEqDiff, rg, ow_53, rm0, rm3, M1]
  refine do_call fn_83 (by simp only [evt, evc, upd_eq, Nat.reduceEqDiff, ↓reduceIte, maT, maC, maN, isnN, isnS] <;> rfl) (before0_any _ ord _ (SlV.ext0 hs (n1.ext.tr (Ext.dr noF _ _))) hsb) ?_
  rintro lv2 w2 ⟨x2, hL2⟩
  have s2 := x2.size
  refine ⟨.inr (keeps_on x2 fun y hy => ⟨?_, fun _ g => g⟩), ?_⟩
  · rw [sz_dr]
    simp only [List.mem_cons, List.not_mem_nil, or_false] at hy
    omega
  have x2 := x2.od
  simp only [↓List.toList_toArray, ↓rgd, ↓rgf, ↓reduceIte, Nat.reduceEqDiff, rg, ow_53, rm0, rm3, M1]
  refine do_call fn_88 (by simp only [evt, evc, upd_eq, Nat.reduceEqDiff, ↓reduceIte, maT, maC, maN, isnN, isnS] <;> rfl) (options_any _ d nl w2 rfl) ?_
  rintro _ w3 ⟨rfl, x3⟩
  have s2' := x2.size
  refine ⟨.inr (keeps_on x3 fun y hy => ⟨?_, fun _ g => g⟩), ?_⟩
  · simp only [List.mem_cons, List.not_mem_nil, or_false] at hy
    omega
  simp only [↓List.toList_toArray, ↓rgd, ↓rgf, ↓reduceIte, Nat.reduceEqDiff, rg, ow_53]
  have s3 := x3.size
  refine do_call fn_86 (by simp only [evt, evc, upd_eq, Nat.reduceEqDiff, ↓reduceIte, maT, maC, maN, isnN, isnS] <;> rfl) (newB_any w1.heap.size d ord lv2 nl hd w3 ((hL2.ext x3 fun _ _ g => g.elim).mono s3) (by omega)) ?_
  rintro _ w4 ⟨t, m, rfl, hbt, hm, hmt, htl, x4, hT⟩
  refine ⟨.inr (keeps_on x4 fun y hy => ⟨?_, fun _ g => g⟩), ?_⟩
  · simp only [List.mem_cons, List.not_mem_nil, or_false] at hy
    omega
  simp only [↓List.toList_toArray, ↓rgd, ↓rgf, ↓reduceIte, Nat.reduceEqDiff, rg, ow_53]
  refine hK _ _ ?_; clear hK K
  have X4 : Ext noF w w4 := ((n1.ext.tr x2).tr x3).tr x4
  have hB : w.heap.size ≤ m := by omega
  clear rm rm0 rm3 n1 x2 x3 x4 hL2 M1
  obtain ⟨a, c, hlv⟩ := SlV.shape hl
  refine W_seq ?_
  refine W_sq fun K hK => (W_text [true, true, true] (by kernel_rfl) ?_); simp only [↓List.toList_toArray, ↓rgd, ↓rgf, ↓reduceIte, Nat.reduceEqDiff, rg, ow_53, e1, hlv]
  refine hK _ _ ?_; clear hK K
  refine W_block (W_loop (fun mm e w' => ∃ i : Nat, mm = l.length - i ∧ i ≤ l.length ∧ e 14 = lv ∧ e 5 = ptr t ∧ e 15 = .int .i64 l.length ∧ e 16 = .int .i64 i ∧ Ext noF w w' ∧ BAt w' t m ∧ t < w'.heap.size ∧ ∃ F, TreeAt w1.heap.size ord w' m (degOf d) 1 (treeG ord (l.take i)) F ∧ (∀ o, ¬ F t o) ∧ ∀ y o, F y o → w.heap.size ≤ y)
    l.length ⟨0, by simp, by simp, ?_, ?_, ?_, ?_, X4, hbt, htl, noF, hT, fun _ h => h, fun _ _ h => h.elim⟩ ?_)
  · simp only [upd_eq, Nat.reduceEqDiff, ↓reduceIte]; rw [hlv]
  · simp only [upd_eq, Nat.reduceEqDiff, ↓reduceIte]
  · simp only [upd_eq, Nat.reduceEqDiff, ↓reduceIte]
  · simp only [upd_eq, Nat.reduceEqDiff, ↓reduceIte]; rfl
  · clear X4 hT e0 e1 e
    rintro mm e w' ⟨i, rfl, hi, e10, e5, e11, e12, X, hbt', htl', F, hM, hFt, hF⟩
    by_cases hlt : i < l.length
    · have ht := lt_tt i l.length hlt
      refine W_sq fun K hK => (W_text [true] (by kernel_rfl) ?_); simp only [↓List.toList_toArray, ↓rgd, ↓rgf, ↓reduceIte, Nat.reduceEqDiff, rg, ow_53, e11, e12, ht]
      refine hK _ _ ?_; clear hK K
      refine W_seq (W_true (by simp only [evt, evc, upd_eq, Nat.reduceEqDiff, ↓reduceIte, ntT, ntF] <;> rfl) (W_skip ?_))
      show W _ _ _ _ _ _
      obtain ⟨x, hx⟩ : ∃ x, l[i]? = some x := ⟨_, List.getElem?_eq_getElem hlt⟩
      obtain ⟨lb, lo, ha, row⟩ := SlV.at hl hlv hlt
      subst ha
      have row' : Row w' lb lo (flat Ei l) := X.row row fun _ _ h => h
      have ix := iV_at row' hx
      refine W_seq (W_block ?_)
      refine W_sq fun K hK => (W_text [true, true, false, false] (by kernel_rfl) ?_); simp only [↓List.toList_toArray, ↓rgd, ↓rgf, ↓reduceIte, Nat.reduceEqDiff, rg, ow_53, e10, hlv, e12, hlt, ix]
      refine do_alloc z_item fun w5 n5 => ⟨trivial, ?_⟩
      simp only [↓List.toList_toArray, ↓rgd, ↓rgf, ↓reduceIte, Nat.reduceEqDiff, rg, ow_53]
      refine do_store (by simp only [evt, evc, upd_eq, Nat.reduceEqDiff, ↓reduceIte, ntT, ntF] <;> rfl) (by simp only [evt, evc, upd_eq, Nat.reduceEqDiff, ↓reduceIte, ntT, ntF] <;> rfl) sz_33 (v := iV x) rfl n5.wok (by decide) (Ei.one x) fun w6 x6 r6 s6 => ⟨trivial, ?_⟩
      simp only [↓List.toList_toArray, ↓rgd, ↓rgf, ↓reduceIte, Nat.reduceEqDiff, rg, ow_53]
      refine hK _ _ ?_; clear hK K
      have X6 : Ext noF w' w6 := noF_of n5.ext x6 fun y o hy h => by simp only [rng] at h; omega
      have ix6 : rdA w6 w'.heap.size 0 2 = some (iV x) := (show Row w6 w'.heap.size 0 (Ei.cel x) from r6).rdA 2 (Nat.le_refl _)
      have htl := treeG_len ord (l.take i)
      have htk : (l.take i).length ≤ i := by rw [List.length_take]; omega
      refine W_rg fun K hK => (W_text [true, true, true, false] (by kernel_rfl) ?_); simp only [↓List.toList_toArray, ↓rgd, ↓rgf, ↓reduceIte, Nat.reduceEqDiff, rg, ow_53, e5, ix6]
      refine do_call fn_57 (vs := #[ptr t, itV x]) (by simp only [evt, evc, upd_eq, Nat.reduceEqDiff, ↓reduceIte, maT, maC, maN, isnN, isnS] <;> rfl) (bset_any t w1.heap.size m (degOf d) 1 ord x hd2 hd3 _ F w6 (X6.rd hbt' fun h => h) (hM.ext X6) (by omega)) ?_
      rintro v w7 ⟨-, x7, F', hM7, hF'⟩
      refine ⟨trivial, ?_⟩
      simp only [↓List.toList_toArray, ↓rgd, ↓rgf, ↓reduceIte, Nat.reduceEqDiff, rg, ow_53]
      refine hK _ _ ?_; clear hK K
      show W _ _ _ _ _ _
      have q1 := wadd1 i (by omega)
      refine W_rg fun K hK => (W_text [true, true] (by kernel_rfl) ?_); simp only [↓List.toList_toArray, ↓rgd, ↓rgf, ↓reduceIte, Nat.reduceEqDiff, rg, ow_53, e12, q1]
      refine hK _ _ ?_; clear hK K
      have s3' := X6.size
      have sX := X.size
      have hFt' : ∀ o, ¬ F' t o := fun o g => by
        rcases hF' t o g with g | g
        · exact hFt o g
        · omega
      refine ⟨_, ?_, i + 1, rfl, hlt, ?_, ?_, ?_, ?_, ?_, x7.rd (X6.rd hbt' fun h => h) (fun g => by
        rcases g with g | g
        · exact hFt 0 g
        · omega), by have := x7.size; omega, F', by rw [treeG_succ ord l i x hx]; exact hM7, hFt', fun y o g => ?_⟩
      · omega
      · simp only [upd_eq, Nat.reduceEqDiff, ↓reduceIte]; exact e10
      · simp only [upd_eq, Nat.reduceEqDiff, ↓reduceIte]; exact e5
      · simp only [upd_eq, Nat.reduceEqDiff, ↓reduceIte]; exact e11
      · simp only [upd_eq, Nat.reduceEqDiff, ↓reduceIte]
      · refine noF_of (X.tr X6) x7 fun y o hy g => ?_
        rcases g with g | g
        · have := hF y o g; omega
        · omega
      · rcases hF' y o g with g | g
        · exact hF y o g
        · omega
    · obtain rfl : i = l.length := by omega
      have ht := lt_ff l.length l.length (by omega)
      refine W_sq fun K hK => (W_text [true] (by kernel_rfl) ?_); simp only [↓List.toList_toArray, ↓rgd, ↓rgf, ↓reduceIte, Nat.reduceEqDiff, rg, ow_53, e11, e12, ht]
      refine hK _ _ ?_; clear hK K
      refine W_seq (W_false (by simp only [evt, evc, upd_eq, Nat.reduceEqDiff, ↓reduceIte, ntT, ntF] <;> rfl) (W_exit ?_))
      simp only [andThen_exit, inBlk_exit, andThen_normal, ↓reduceIte]
      refine W_sq fun K hK => (W_text [true, true] (by kernel_rfl) ?_); simp only [↓List.toList_toArray, ↓rgd, ↓rgf, ↓reduceIte, Nat.reduceEqDiff, rg, ow_53, e5]
      refine hK _ _ ?_; clear hK K
      rw [List.take_length] at hM
      exact W_ret (endQ_1 (by simp only [upd_eq, Nat.reduceEqDiff, ↓reduceIte] <;> rfl) ⟨X, t, _, m, F, rfl, hbt', by omega, hFt, htl', hM, hB, hmt, hF, by omega⟩)
end Go.Proofs.Ytanmjbkbdmeckaa
/-
  Deleting an item from a tree of whatever values. No condition.
-/
set_option linter.unusedSimpArgs false
set_option linter.unusedVariables false
namespace Go.Proofs.Ytanmjbkbdmeckaa
open Go Go.Proofs
theorem delR_out {ord : List Int} {x : It} {xs : List It} : (delR O (rkI ord) false (rkI ord x) xs = none → at? O (rkI ord) (rkI ord x) xs = none ∧ hit O (rkI ord) (rkI ord x) xs = false ∧ del O (rkI ord) (rkI ord x) xs = xs) ∧
    (∀ {y ys}, delR O (rkI ord) false (rkI ord x) xs = some (y, ys) → at? O (rkI ord) (rkI ord x) xs = some y ∧ hit O (rkI ord) (rkI ord x) xs = true ∧ del O (rkI ord) (rkI ord x) xs = ys) := by
  cases hh : hit O (rkI ord) (rkI ord x) xs with
  | false =>
    refine ⟨fun _ => ⟨by simp [at?, hh], rfl, by simp [del, hh]⟩, fun {y ys} h => ?_⟩
    rw [delR_miss hh] at h; cases h
  | true =>
    obtain ⟨k, hk, _⟩ := hit_at O (rkI ord) hh
    refine ⟨fun h => ?_, fun {y ys} h => ?_⟩
    · rw [delR_leaf hh hk] at h; cases h
    · rw [delR_leaf hh hk] at h
      cases h
      exact ⟨by simp [at?, hh, hk], rfl, by simp [del, hh]⟩
set_option maxHeartbeats 4000000 in
set_option maxRecDepth 8000 in
theorem delH_any (B m d : Nat) (iso : Int) (ord : List Int) (x : It) (hp : Option Nat) (hd : 2 ≤ d) (hd' : d ≤ 128) (xs : List It) (F : Nat → Nat → Prop) (w : World) (hM : TreeAt B ord w m d iso xs F) (hbig : xs.length < 1152921504606846976) (hH : HOk hp w) (hHF : ∀ hb, hp = some hb → m < hb ∧ ∀ o, ¬ F hb o) :
    CallK Try.prog 167 #[ptr m, itV x, hV hp] w fun v w' => v = gotG (at? O (rkI ord) (rkI ord x) xs) ∧ Ext (fun y o => mapF m F y o ∨ hF hp y o) w w' ∧ HOk hp w' ∧ ∃ F', TreeAt B ord w' m d iso (del O (rkI ord) (rkI ord x) xs) F' ∧ ∀ y o, F' y o → F y o ∨ w.heap.size ≤ y := by
  have hml := hM.mlt
  have hHl : ∀ y o, hF hp y o → y < w.heap.size := fun y o g => wok_lt (hH y g).wok
  have hmh : ∀ o, ¬ hF hp m o := fun o g => by have := (hHF m g).1; omega
  refine calls_of_W [.tmp 6, .tmp 7] Try.func167 rfl Try.ntmps167 Try.results167 (by simp) fun e he => ?_
  have e0 : e 0 = ptr m := he 0 _ rfl
  have e1 : e 1 = itV x := he 1 _ rfl
  have e2 : e 2 = hV hp := he 2 _ rfl
  clear he
  refine W_sq fun K hK => (W_text [true, true] (by kernel_rfl) ?_); simp only [↓List.toList_toArray, ↓rgd, ↓rgf, ↓reduceIte, Nat.reduceEqDiff, rg, ow_167]
  refine hK _ _ ?_; clear hK K
  refine W_seq ?_
  rcases hM.root with ⟨hxs, hr2⟩ | ⟨h, b, hr2, ht⟩
  · refine W_sq fun K hK => (W_text [true, true, true, true, true] (by kernel_rfl) ?_); simp only [↓List.toList_toArray, ↓rgd, ↓rgf, ↓reduceIte, Nat.reduceEqDiff, rg, ow_167, e0, ptr_eq, hr2]
    refine hK _ _ ?_; clear hK K
    refine W_true (by simp only [evt, evc, upd_eq, Nat.reduceEqDiff, ↓reduceIte, ntT, ntF] <;> rfl) ?_
    have z2 := zIt_at hM.cfg
    refine W_sq fun K hK => (W_text [true, true, true, true, true, true] (by kernel_rfl) ?_); simp only [↓List.toList_toArray, ↓rgd, ↓rgf, ↓reduceIte, Nat.reduceEqDiff, rg, ow_167, e0, ptr_eq, z2]
    refine hK _ _ ?_; clear hK K
    subst hxs
    refine W_ret ?_
    simp only [andThen_ret]
    exact endQ_2 (by simp only [upd_eq, Nat.reduceEqDiff, ↓reduceIte] <;> rfl) (by simp only [upd_eq, Nat.reduceEqDiff, ↓reduceIte] <;> rfl) ⟨rfl, Ext.refl _ _, hH, F, hM, fun _ _ g => .inl g⟩
  · refine W_sq fun K hK => (W_text [true, true, true, true, true] (by kernel_rfl) ?_); simp only [↓List.toList_toArray, ↓rgd, ↓rgf, ↓reduceIte, Nat.reduceEqDiff, rg, ow_167, e0, ptr_eq, hr2]
    refine hK _ _ ?_; clear hK K
    refine W_false (by simp only [evt, evc, upd_eq, Nat.reduceEqDiff, ↓reduceIte, ntT, ntF] <;> rfl) (W_skip ?_)
    show W _ _ _ _ _ _
    have hm : ∀ o, ¬ F m o := hM.off
    have hh := ht.height (by omega) (by omega)
    refine W_sq fun K hK => (W_text [true, true, true, true, true, true, false, true, true, true, true, true] (by kernel_rfl) ?_); simp only [↓List.toList_toArray, ↓rgd, ↓rgf, ↓reduceIte, Nat.reduceEqDiff, rg, ow_167, e0, e1, e2, ptr_eq]
    refine do_call fn_175 (by simp only [evt, evc, upd_eq, Nat.reduceEqDiff, ↓reduceIte, maT, maC, maN, isnN, isnS] <;> rfl) (del_any B m d iso ord hd hd' h 1 b xs F w m 2 false x (itV x) hp 0 (fun _ => rfl) hM.cfg hM.less hM.above (by omega) (by omega) ht hM.asc hbig hr2 hH hHF) ?_
    rintro _ w4 ⟨X4, H4, F', hF', hres⟩
    have XX4 := X4
    have hmo : ∀ o, ¬ (F m o ∨ hF hp m o) := fun o g => g.elim (hm o) (hmh o)
    have c4 := hM.cfg.ext X4 fun o _ _ => hmo o
    have hFm : ∀ y o, F' y o → m < y := fun y o g => by
      rcases hF' y o g with g | g
      · exact hM.above y o g
      · omega
    rcases hres with ⟨hdl, rfl, T4⟩ | ⟨y, ys, hdl, rfl, T4⟩
    · refine ⟨trivial, ?_⟩
      simp only [↓List.toList_toArray, ↓rgd, ↓rgf, ↓reduceIte, Nat.reduceEqDiff, rg, ow_167]
      refine hK _ _ ?_; clear hK K
      refine W_seq ?_
      refine W_sq fun K hK => (W_text [true, true] (by kernel_rfl) ?_); simp only [↓List.toList_toArray, ↓rgd, ↓rgf, ↓reduceIte, Nat.reduceEqDiff, rg, ow_167]
      refine hK _ _ ?_; clear hK K
      refine W_true (by simp only [evt, evc, upd_eq, Nat.reduceEqDiff, ↓reduceIte, ntT, ntF] <;> rfl) ?_
      have z4 := zIt_at c4
      refine W_sq fun K hK => (W_text [true, true, true, true, true, true] (by kernel_rfl) ?_); simp only [↓List.toList_toArray, ↓rgd, ↓rgf, ↓reduceIte, Nat.reduceEqDiff, rg, ow_167, e0, ptr_eq, z4]
      refine hK _ _ ?_; clear hK K
      obtain ⟨h1, h2, h3⟩ := delR_out.1 hdl
      refine W_ret ?_
      simp only [andThen_ret]
      refine endQ_2 (by simp only [upd_eq, Nat.reduceEqDiff, ↓reduceIte] <;> rfl) (by simp only [upd_eq, Nat.reduceEqDiff, ↓reduceIte] <;> rfl) ⟨by rw [h1]; rfl, XX4.mono fun y o _ g => g.imp .inl id, H4, F', ?_, hF'⟩
      rw [h3]
      exact ⟨hM.cfg.ext XX4 fun o _ _ => hmo o, hM.less.ext XX4 (fun y o g => .inl (by rcases g with g | g; have := hM.above y o g; omega; have := (hHF y g).1; omega)) (hmo 6), XX4.rd hM.cnt (hmo 3), hM.asc, .inr ⟨h, b, X4.rd hr2 (hmo 2), T4⟩, fun o g => by have := hFm m o g; omega, T4.lt, hFm⟩
    · refine ⟨trivial, ?_⟩
      simp only [↓List.toList_toArray, ↓rgd, ↓rgf, ↓reduceIte, Nat.reduceEqDiff, rg, ow_167]
      refine hK _ _ ?_; clear hK K
      refine W_seq ?_
      refine W_sq fun K hK => (W_text [true, true] (by kernel_rfl) ?_); simp only [↓List.toList_toArray, ↓rgd, ↓rgf, ↓reduceIte, Nat.reduceEqDiff, rg, ow_167]
      refine hK _ _ ?_; clear hK K
      refine W_false (by simp only [evt, evc, upd_eq, Nat.reduceEqDiff, ↓reduceIte, ntT, ntF] <;> rfl) (W_skip ?_)
      show W _ _ _ _ _ _
      obtain ⟨h1, h2, h3⟩ := delR_out.2 hdl
      have hyl := delR_len hdl
      have hya := delR_asc hM.asc hdl
      have hml4 : m < w4.heap.size := by have := X4.size; omega
      have rm4 : rd w4 m 2 = some (ptr b) := X4.rd hr2 (hmo 2)
      have rc4 : rd w4 m 3 = some (.int .i64 (xs.length : Nat)) := X4.rd hM.cnt (hmo 3)
      obtain ⟨a, nk, capn, hkn, -, -, hraise⟩ := T4.keys
      have hbF := T4.self
      refine W_sqx fun J hJ => ?_
      have hfin : ∀ (e : Env) (w5 : World) (F5 : Nat → Nat → Prop), (ys = [] ∨ ∃ h5 b5, rd w5 m 2 = some (ptr b5) ∧ Tr E iso (d - 1) (2 * d - 1) h5 w5 1 b5 ys F5) → (∀ y o, F5 y o → F' y o) → Ext (rng m 2 1) w4 w5 → e 0 = ptr m → e 8 = itV y → J e w5 := by
        clear e0 e1 e2
        clear e
        intro e w5 F5 hroot hF5 x5 e0 e8
        refine hJ _ _ ?_; clear hJ J
        have rc5 := x5.rd rc4 fun g => by have := g.2; omega
        have wm5 := x5.wok c4.wok
        have q1 := wsub1 xs.length (by omega) (by omega)
        refine W_sq fun K hK => (W_text [true, true, true, true, true, true, true, false] (by kernel_rfl) ?_); simp only [↓List.toList_toArray, ↓rgd, ↓rgf, ↓reduceIte, Nat.reduceEqDiff, rg, ow_167, e0, ptr_eq, rc5, q1]
        refine do_store (by simp only [evt, evc, upd_eq, Nat.reduceEqDiff, ↓reduceIte, ntT, ntF] <;> rfl) (by simp only [evt, evc, upd_eq, Nat.reduceEqDiff, ↓reduceIte, ntT, ntF] <;> rfl) sz_3 rfl wm5 (by decide) (oc_one rfl rfl) fun w6 x6 r6 s6 => ⟨trivial, ?_⟩
        simp only [↓List.toList_toArray, ↓rgd, ↓rgf, ↓reduceIte, Nat.reduceEqDiff, rg, ow_167]
        refine hK _ _ ?_; clear hK K
        have rc6 : rd w6 m 3 = some (.int .i64 (xs.length - 1 : Nat)) := (Row.cons.1 r6).1
        have G46 : Ext (fun y o => y = m ∧ (o = 2 ∨ o = 3)) w4 w6 := x5.trans x6 (fun y o g => ⟨g.1, by have := g.2; omega⟩) fun y o _ g => ⟨g.1, by have := g.2; omega⟩
        refine W_sqx fun J hJ => ?_
        have hret : ∀ (e : Env) (w7 : World) (F7 : Nat → Nat → Prop), ((ys = [] ∧ rd w7 m 2 = some (.pointer none)) ∨ ∃ h5 b5, rd w7 m 2 = some (ptr b5) ∧ Tr E iso (d - 1) (2 * d - 1) h5 w7 1 b5 ys F7) → (∀ y o, F7 y o → F' y o) → rd w7 m 3 = some (.int .i64 (ys.length : Nat)) → Ext (fun y o => y = m ∧ (o = 2 ∨ o = 3)) w4 w7 → (∀ y o, F7 y o → y < w7.heap.size) → e 8 = itV y → J e w7 := by
          clear e0 e8
          clear e
          intro e w7 F7 hroot hF7 rc7 x7 hlt7 e8
          refine hJ _ _ ?_; clear hJ J
          refine W_sq fun K hK => (W_text [true, true, true] (by kernel_rfl) ?_); simp only [↓List.toList_toArray, ↓rgd, ↓rgf, ↓reduceIte, Nat.reduceEqDiff, rg, ow_167, e8]
          refine hK _ _ ?_; clear hK K
          have XX7 : Ext (fun y o => mapF m F y o ∨ hF hp y o) w w7 := (XX4.mono fun y o _ g => g.imp .inl id).trans x7 (fun _ _ g => g) fun y o _ g => .inl (.inr g)
          have hne : ∀ o, o ≠ 2 → o ≠ 3 → ¬ (mapF m F m o ∨ hF hp m o) := fun o h2 h3 g => by
            rcases g with (g | g) | g
            · exact hm o g
            · have := g.2; omega
            · exact hmh o g
          have hM7 : TreeAt B ord w7 m d iso ys F7 := ⟨hM.cfg.ext XX7 hne, hM.less.ext XX7 (fun y o g => .inl (by
            rcases g with (g | g) | g
            · have := hM.above y o g; omega
            · have := g.1; omega
            · have := (hHF y g).1; omega)) (hne 6 (by decide) (by decide)), rc7, hya, hroot, fun o g => by have := hFm m o (hF7 _ _ g); omega, hlt7, fun y o g => hFm y o (hF7 y o g)⟩
          refine W_ret (endQ_2 (by simp only [upd_eq, Nat.reduceEqDiff, ↓reduceIte] <;> rfl) (by simp only [upd_eq, Nat.reduceEqDiff, ↓reduceIte] <;> rfl) ⟨by rw [h1]; rfl, XX7, H4.ext x7 fun hb hh o g => ?_, F7, by rw [h3]; exact hM7, fun y o g => (hF' y o (hF7 y o g)).imp id fun g => by omega⟩)
          have := (hHF hb hh).1
          have := g.1; omega
        by_cases hy0 : ys = []
        · have hb : (((xs.length - 1 : Nat) : Int) == 0) = true := by rw [hy0] at hyl; simp at hyl ⊢; omega
          refine W_sq fun K hK => (W_text [true, true, true, true, true] (by kernel_rfl) ?_); simp only [↓List.toList_toArray, ↓rgd, ↓rgf, ↓reduceIte, Nat.reduceEqDiff, rg, ow_167, e0, ptr_eq, rc6, hb]
          refine hK _ _ ?_; clear hK K
          refine W_true (by simp only [evt, evc, upd_eq, Nat.reduceEqDiff, ↓reduceIte, ntT, ntF] <;> rfl) ?_
          refine W_rg fun K hK => (W_text [true, true, true, false] (by kernel_rfl) ?_); simp only [↓List.toList_toArray, ↓rgd, ↓rgf, ↓reduceIte, Nat.reduceEqDiff, rg, ow_167, e0, ptr_eq]
          refine do_store (v := .pointer none) (by simp only [evt, evc, upd_eq, Nat.reduceEqDiff, ↓reduceIte, ntT, ntF] <;> rfl) (by simp only [evt, evc, upd_eq, Nat.reduceEqDiff, ↓reduceIte, ntT, ntF] <;> rfl) sz_106 rfl (x6.wok wm5) (by decide) (oc_one rfl rfl) fun w7 x7 r7 s7 => ⟨trivial, ?_⟩
          simp only [↓List.toList_toArray, ↓rgd, ↓rgf, ↓reduceIte, Nat.reduceEqDiff, rg, ow_167]
          refine hK _ _ ?_; clear hK K
          exact hret _ w7 noF (.inl ⟨hy0, (Row.cons.1 r7).1⟩) (fun _ _ g => g.elim) (by rw [show ys.length = xs.length - 1 by omega]; exact x7.rd rc6 fun g => by have := g.2; omega) (G46.trans x7 (fun _ _ g => g) fun y o _ g => ⟨g.1, by have := g.2; omega⟩) (fun _ _ g => g.elim) (by simp only [upd_eq, Nat.reduceEqDiff, ↓reduceIte]; exact e8)
        · have hb : (((xs.length - 1 : Nat) : Int) == 0) = false := by
            have : ys.length ≠ 0 := fun h => hy0 (List.eq_nil_of_length_eq_zero h)
            simp; omega
          refine W_sq fun K hK => (W_text [true, true, true, true, true] (by kernel_rfl) ?_); simp only [↓List.toList_toArray, ↓rgd, ↓rgf, ↓reduceIte, Nat.reduceEqDiff, rg, ow_167, e0, ptr_eq, rc6, hb]
          refine hK _ _ ?_; clear hK K
          refine W_false (by simp only [evt, evc, upd_eq, Nat.reduceEqDiff, ↓reduceIte, ntT, ntF] <;> rfl) (W_skip ?_)
          obtain ⟨h5, b5, hr5, T5⟩ := hroot.resolve_left hy0
          have T6 := T5.ext x6 fun y o g k => by have := hFm y o (hF5 y o g); have := k.1; omega
          exact hret _ w6 F5 (.inr ⟨h5, b5, x6.rd hr5 fun g => by have := g.2; omega, T6⟩) hF5 (by rw [show ys.length = xs.length - 1 by omega]; exact rc6) G46 T6.lt (by simp only [upd_eq, Nat.reduceEqDiff, ↓reduceIte]; exact e8)
      by_cases hn0 : nk = 0
      · subst hn0
        have hb : (((0 : Nat) : Int) == 0) = true := rfl
        rcases T4.open with ⟨bi, oi, cap, ks, ch, ho, -, -, hoF, hin⟩
        have hks : ks = [] := by
          have := ho.h2.symm.trans hkn
          simp only [Option.some.injEq, Value.slice.injEq] at this
          exact List.eq_nil_of_length_eq_zero this.2.1
        rcases hin with ⟨_, hcn, hx, _⟩ | ⟨h', bc, ba, oa, capc, cs, rfl, hcn, n⟩
        · rw [hcn] at ho
          refine W_sq fun K hK => (W_text [true, true, true, true, true, true, true, true, true, true, true, true, true, true, false, true, true] (by kernel_rfl) ?_); simp only [↓List.toList_toArray, ↓rgd, ↓rgf, ↓reduceIte, Nat.reduceEqDiff, rg, ow_167, e0, ptr_eq, rm4, hkn, hb]
          refine do_call fn_122 (by simp only [evt, evc, upd_eq, Nat.reduceEqDiff, ↓reduceIte, maT, maC, maN, isnN, isnS] <;> rfl) (leaf_any b none w4 ho.h3) ?_
          rintro _ w5 ⟨rfl, hw5⟩
          obtain rfl : w4 = w5 := hw5.symm
          refine ⟨trivial, ?_⟩
          simp only [↓List.toList_toArray, ↓rgd, ↓rgf, ↓reduceIte, Nat.reduceEqDiff, rg, ow_167]
          refine hK _ _ ?_; clear hK K
          refine W_false (by simp only [evt, evc, upd_eq, Nat.reduceEqDiff, ↓reduceIte, ntT, ntF] <;> rfl) (W_skip ?_)
          exact hfin _ w4 F' (.inl (hx.trans hks)) (fun _ _ g => g) (Ext.refl _ _) (by simp only [upd_eq, Nat.reduceEqDiff, ↓reduceIte]; exact e0) (by simp only [upd_eq, Nat.reduceEqDiff, ↓reduceIte])
        · rw [hcn] at ho
          refine W_sq fun K hK => (W_text [true, true, true, true, true, true, true, true, true, true, true, true, true, true, false, true, true] (by kernel_rfl) ?_); simp only [↓List.toList_toArray, ↓rgd, ↓rgf, ↓reduceIte, Nat.reduceEqDiff, rg, ow_167, e0, ptr_eq, rm4, hkn, hb]
          refine do_call fn_122 (by simp only [evt, evc, upd_eq, Nat.reduceEqDiff, ↓reduceIte, maT, maC, maN, isnN, isnS] <;> rfl) (leaf_any b (some ⟨bc, 0, none⟩) w4 ho.h3) ?_
          rintro _ w5 ⟨rfl, hw5⟩
          obtain rfl : w4 = w5 := hw5.symm
          refine ⟨trivial, ?_⟩
          simp only [↓List.toList_toArray, ↓rgd, ↓rgf, ↓reduceIte, Nat.reduceEqDiff, rg, ow_167]
          refine hK _ _ ?_; clear hK K
          refine W_true (by simp only [evt, evc, upd_eq, Nat.reduceEqDiff, ↓reduceIte, ntT, ntF] <;> rfl) ?_
          have hl1 : cs.length = 1 := by rw [n.len, hks]; rfl
          obtain ⟨c, rfl⟩ := List.length_eq_one_iff.1 hl1
          have hk0 : rd w4 bc 0 = some (.slice (some ⟨ba, oa, none⟩) 1 capc) := n.kids.c0
          have i0 := ix0 1 ba oa 1 (by decide)
          have hce := n.kids.se.ptr_at (j := 0) (p := c.b) rfl
          rw [Nat.add_zero] at hce
          have hyc : ys = c.xs := by rw [n.eq, hks]; rfl
          have hcF : ∀ y o, c.F y o → F' y o := fun y o g => (n.fp y o).2 (.inr (.inr ⟨c, by simp, g⟩))
          refine W_rg fun K hK => (W_text [true, true, true, true, true, true, true, true, true, true, true, true, true, true, false] (by kernel_rfl) ?_); simp only [↓List.toList_toArray, ↓rgd, ↓rgf, ↓reduceIte, Nat.reduceEqDiff, rg, ow_167, e0, ptr_eq, rm4, ho.h3, hk0, i0, hce]
          refine do_store (v := ptr c.b) (by simp only [evt, evc, upd_eq, Nat.reduceEqDiff, ↓reduceIte, ntT, ntF] <;> rfl) (by simp only [evt, evc, upd_eq, Nat.reduceEqDiff, ↓reduceIte, ntT, ntF] <;> rfl) sz_106 rfl c4.wok (by decide) (oc_one rfl rfl) fun w5 x5 r5 s5 => ⟨trivial, ?_⟩
          simp only [↓List.toList_toArray, ↓rgd, ↓rgf, ↓reduceIte, Nat.reduceEqDiff, rg, ow_167]
          refine hK _ _ ?_; clear hK K
          refine hfin _ w5 c.F (.inr ⟨h', c.b, (Row.cons.1 r5).1, ?_⟩) hcF x5 (by simp only [upd_eq, Nat.reduceEqDiff, ↓reduceIte]; exact e0) (by simp only [upd_eq, Nat.reduceEqDiff, ↓reduceIte])
          rw [hyc]
          exact ((n.sub c (by simp)).mono (by omega)).ext x5 fun y o g k => by have := hFm y o (hcF y o g); have := k.1; omega
      · have hb : ((nk : Int) == 0) = false := by simp; omega
        refine W_sq fun K hK => (W_text [true, true, true, true, true, true, true, true, true, true, true, true, true, true, false, true, true] (by kernel_rfl) ?_); simp only [↓List.toList_toArray, ↓rgd, ↓rgf, ↓reduceIte, Nat.reduceEqDiff, rg, ow_167, e0, ptr_eq, rm4, hkn, hb]
        refine hK _ _ ?_; clear hK K
        refine W_false (by simp only [evt, evc, upd_eq, Nat.reduceEqDiff, ↓reduceIte, ntT, ntF] <;> rfl) (W_skip ?_)
        exact hfin _ w4 F' (.inr ⟨h, b, rm4, hraise 1 (by omega)⟩) (fun _ _ g => g) (Ext.refl _ _) (by simp only [upd_eq, Nat.reduceEqDiff, ↓reduceIte]; exact e0) (by simp only [upd_eq, Nat.reduceEqDiff, ↓reduceIte])
set_option maxHeartbeats 800000 in
set_option maxRecDepth 8000 in
theorem delHint_any (B m d : Nat) (iso : Int) (ord : List Int) (x : It) (hp : Option Nat) (hd : 2 ≤ d) (hd' : d ≤ 128) (xs : List It) (F : Nat → Nat → Prop) (w : World) (hM : TreeAt B ord w m d iso xs F) (hbig : xs.length < 1152921504606846976) (hH : HOk hp w) (hHF : ∀ hb, hp = some hb → m < hb ∧ ∀ o, ¬ F hb o) :
    CallK Try.prog 162 #[ptr m, itV x, hV hp] w fun v w' => v = gotG (at? O (rkI ord) (rkI ord x) xs) ∧ Ext (fun y o => mapF m F y o ∨ hF hp y o) w w' ∧ HOk hp w' ∧ ∃ F', TreeAt B ord w' m d iso (del O (rkI ord) (rkI ord x) xs) F' ∧ ∀ y o, F' y o → F y o ∨ w.heap.size ≤ y := by
  refine calls_of_W [.tmp 6, .tmp 7] Try.func162 rfl Try.ntmps162 Try.results162 (by simp) fun e he => ?_
  have e0 : e 0 = ptr m := he 0 _ rfl
  have e1 : e 1 = itV x := he 1 _ rfl
  have e2 : e 2 = hV hp := he 2 _ rfl
  clear he
  refine W_sq fun K hK => (W_text [true, true] (by kernel_rfl) ?_); simp only [↓List.toList_toArray, ↓rgd, ↓rgf, ↓reduceIte, Nat.reduceEqDiff, rg, ow_162]
  refine hK _ _ ?_; clear hK K
  refine W_seq ?_
  refine W_sq fun K hK => (W_text [true, false] (by kernel_rfl) ?_); simp only [↓List.toList_toArray, ↓rgd, ↓rgf, ↓reduceIte, Nat.reduceEqDiff, rg, ow_162, e0]
  refine do_call fn_118 (by simp only [evt, evc, upd_eq, Nat.reduceEqDiff, ↓reduceIte, maT, maC, maN, isnN, isnS] <;> rfl) (lock_any _ _ w) ?_
  rintro _ w1 ⟨rfl, hw1⟩
  obtain rfl : w = w1 := hw1
  refine ⟨trivial, ?_⟩
  simp only [↓List.toList_toArray, ↓rgd, ↓rgf, ↓reduceIte, Nat.reduceEqDiff, rg, ow_162]
  refine hK _ _ ?_; clear hK K
  refine W_false (by simp only [evt, evc, upd_eq, Nat.reduceEqDiff, ↓reduceIte, ntT, ntF] <;> rfl) (W_skip ?_)
  show W _ _ _ _ _ _
  refine W_sq fun K hK => (W_text [true, true, true, false, true, true, true, true] (by kernel_rfl) ?_); simp only [↓List.toList_toArray, ↓rgd, ↓rgf, ↓reduceIte, Nat.reduceEqDiff, rg, ow_162, e0, e1, e2]
  refine do_call fn_167 (by simp only [evt, evc, upd_eq, Nat.reduceEqDiff, ↓reduceIte, maT, maC, maN, isnN, isnS] <;> rfl) (delH_any B m d iso ord x hp hd hd' xs F w hM hbig hH hHF) ?_
  rintro _ w1 ⟨rfl, h1⟩
  refine ⟨trivial, ?_⟩
  simp only [↓List.toList_toArray, ↓rgd, ↓rgf, ↓reduceIte, Nat.reduceEqDiff, rg, ow_162, gotG_eq]
  refine hK _ _ ?_; clear hK K
  exact W_ret (endQ_2 (by simp only [upd_eq, Nat.reduceEqDiff, ↓reduceIte] <;> rfl) (by simp only [upd_eq, Nat.reduceEqDiff, ↓reduceIte] <;> rfl) ⟨rfl, h1⟩)
set_option maxHeartbeats 800000 in
set_option maxRecDepth 8000 in
theorem delT_any (t B m d : Nat) (iso : Int) (ord : List Int) (x : It) (hd : 2 ≤ d) (hd' : d ≤ 128) (xs : List It) (F : Nat → Nat → Prop) (w : World) (ht : BAt w t m) (hM : TreeAt B ord w m d iso xs F) (hbig : xs.length < 1152921504606846976) :
    CallK Try.prog 134 #[ptr t, itV x, .pointer none] w fun v w' => v = itO (at? O (rkI ord) (rkI ord x) xs) ∧ Ext (mapF m F) w w' ∧ ∃ F', TreeAt B ord w' m d iso (del O (rkI ord) (rkI ord x) xs) F' ∧ ∀ y o, F' y o → F y o ∨ w.heap.size ≤ y := by
  refine calls_of_W [.tmp 6] Try.func134 rfl Try.ntmps134 Try.results134 (by simp) fun e he => ?_
  have e0 : e 0 = ptr t := he 0 _ rfl
  have e1 : e 1 = itV x := he 1 _ rfl
  have e2 : e 2 = .pointer none := he 2 _ rfl
  clear he
  have ht : rd w t 0 = some (ptr m) := ht
  refine W_sq fun K hK => (W_text [true] (by kernel_rfl) ?_); simp only [↓List.toList_toArray, ↓rgd, ↓rgf, ↓reduceIte, Nat.reduceEqDiff, rg, ow_134]
  refine hK _ _ ?_; clear hK K
  refine W_seq ?_
  refine W_sq fun K hK => (W_text [true, true] (by kernel_rfl) ?_); simp only [↓List.toList_toArray, ↓rgd, ↓rgf, ↓reduceIte, Nat.reduceEqDiff, rg, ow_134, e1, eq_any]
  refine hK _ _ ?_; clear hK K
  refine W_false (by simp only [evt, evc, upd_eq, Nat.reduceEqDiff, ↓reduceIte, ntT, ntF] <;> rfl) (W_skip ?_)
  show W _ _ _ _ _ _
  refine W_sq fun K hK => (W_text [true, true, true, true, true, true, false, true, true, true, true, true] (by kernel_rfl) ?_); simp only [↓List.toList_toArray, ↓rgd, ↓rgf, ↓reduceIte, Nat.reduceEqDiff, rg, ow_134, e0, e1, e2, ptr_eq, ht]
  refine do_call fn_162 (by simp only [evt, evc, upd_eq, Nat.reduceEqDiff, ↓reduceIte, maT, maC, maN, isnN, isnS] <;> rfl) (delHint_any B m d iso ord x none hd hd' xs F w hM hbig (HOk.none _) (fun _ h => by cases h)) ?_
  rintro _ w1 ⟨rfl, h1, -, h3⟩
  have h1 : Ext (mapF m F) w w1 := h1.mono fun y o _ g => g.elim id fun g => by cases g
  refine ⟨trivial, ?_⟩
  simp only [↓List.toList_toArray, ↓rgd, ↓rgf, ↓reduceIte, Nat.reduceEqDiff, rg, ow_134, gotG_eq]
  refine hK _ _ ?_; clear hK K
  refine W_seq ?_
  generalize at? O (rkI ord) (rkI ord x) xs = r at *
  cases r with
  | some y =>
    have hy : (some y).isSome = true := rfl
    refine W_sq fun K hK => (W_text [true, true] (by kernel_rfl) ?_); simp only [↓List.toList_toArray, ↓rgd, ↓rgf, ↓reduceIte, Nat.reduceEqDiff, rg, ow_134, hy]
    refine hK _ _ ?_; clear hK K
    refine W_false (by simp only [evt, evc, upd_eq, Nat.reduceEqDiff, ↓reduceIte, ntT, ntF] <;> rfl) (W_skip ?_)
    show W _ _ _ _ _ _
    refine W_sq fun K hK => (W_text [true, true] (by kernel_rfl) ?_); simp only [↓List.toList_toArray, ↓rgd, ↓rgf, ↓reduceIte, Nat.reduceEqDiff, rg, ow_134]
    refine hK _ _ ?_; clear hK K
    exact W_ret (endQ_1 (by simp only [upd_eq, Nat.reduceEqDiff, ↓reduceIte] <;> rfl) ⟨rfl, h1, h3⟩)
  | none =>
    have hy : (none : Option It).isSome = false := rfl
    refine W_sq fun K hK => (W_text [true, true] (by kernel_rfl) ?_); simp only [↓List.toList_toArray, ↓rgd, ↓rgf, ↓reduceIte, Nat.reduceEqDiff, rg, ow_134, hy]
    refine hK _ _ ?_; clear hK K
    refine W_true (by simp only [evt, evc, upd_eq, Nat.reduceEqDiff, ↓reduceIte, ntT, ntF] <;> rfl) ?_
    refine W_sq fun K hK => (W_text [true] (by kernel_rfl) ?_); simp only [↓List.toList_toArray, ↓rgd, ↓rgf, ↓reduceIte, Nat.reduceEqDiff, rg, ow_134]
    refine hK _ _ ?_; clear hK K
    refine W_ret ?_
    simp only [andThen_ret]
    exact endQ_1 (by simp only [upd_eq, Nat.reduceEqDiff, ↓reduceIte] <;> rfl) ⟨rfl, h1, h3⟩
set_option maxHeartbeats 800000 in
set_option maxRecDepth 8000 in
theorem tdelete_any (t B m d : Nat) (iso : Int) (ord : List Int) (x : It) (hd : 2 ≤ d) (hd' : d ≤ 128) (xs : List It) (F : Nat → Nat → Prop) (w : World) (ht : BAt w t m) (hM : TreeAt B ord w m d iso xs F) (hbig : xs.length < 1152921504606846976) :
    CallK Try.prog 95 #[ptr t, itV x] w fun v w' => v = itO (at? O (rkI ord) (rkI ord x) xs) ∧ Ext (mapF m F) w w' ∧ ∃ F', TreeAt B ord w' m d iso (del O (rkI ord) (rkI ord x) xs) F' ∧ ∀ y o, F' y o → F y o ∨ w.heap.size ≤ y := by
  refine calls_of_W [.tmp 4] Try.func95 rfl Try.ntmps95 Try.results95 (by simp) fun e he => ?_
  have e0 : e 0 = ptr t := he 0 _ rfl
  have e1 : e 1 = itV x := he 1 _ rfl
  clear he
  refine W_sq fun K hK => (W_text [true] (by kernel_rfl) ?_); simp only [↓List.toList_toArray, ↓rgd, ↓rgf, ↓reduceIte, Nat.reduceEqDiff, rg, ow_95]
  refine hK _ _ ?_; clear hK K
  refine W_sq fun K hK => (W_text [true, true, false, true] (by kernel_rfl) ?_); simp only [↓List.toList_toArray, ↓rgd, ↓rgf, ↓reduceIte, Nat.reduceEqDiff, rg, ow_95, e0, e1]
  refine do_call fn_134 (by simp only [evt, evc, upd_eq, Nat.reduceEqDiff, ↓reduceIte, maT, maC, maN, isnN, isnS] <;> rfl) (delT_any t B m d iso ord x hd hd' xs F w ht hM hbig) ?_
  rintro _ w1 ⟨rfl, h1⟩
  refine ⟨trivial, ?_⟩
  simp only [↓List.toList_toArray, ↓rgd, ↓rgf, ↓reduceIte, Nat.reduceEqDiff, rg, ow_95]
  refine hK _ _ ?_; clear hK K
  exact W_ret (endQ_1 (by simp only [upd_eq, Nat.reduceEqDiff, ↓reduceIte] <;> rfl) ⟨rfl, h1⟩)
end Go.Proofs.Ytanmjbkbdmeckaa
/-
  The greatest item of a tree of whatever values. No condition.
-/
set_option linter.unusedSimpArgs false
set_option linter.unusedVariables false
namespace Go.Proofs.Ytanmjbkbdmeckaa
open Go Go.Proofs
theorem weave_getLast {cs : List (List It)} {ks : List It} {c : List It} (hl : cs.length = ks.length + 1) (hc : cs[ks.length]? = some c) (hne : 0 < c.length) : (weave cs ks).getLast? = c.getLast? := by
  have key : ∀ (n : Nat) (cs : List (List It)) (ks : List It), ks.length = n → cs.length = ks.length + 1 → cs[ks.length]? = some c → ∃ A, weave cs ks = A ++ c := by
    intro n
    induction n with
    | zero =>
      intro cs ks h0 hl hc
      obtain rfl : ks = [] := List.eq_nil_of_length_eq_zero h0
      match cs, hl with
      | [d], _ => simp at hc; subst hc; exact ⟨[], rfl⟩
    | succ n ih =>
      intro cs ks h0 hl hc
      match cs, ks, hl with
      | d :: cs, k :: ks, hl =>
        obtain ⟨A, hA⟩ := ih cs ks (by simpa using h0) (by simpa using hl) (by simpa using hc)
        exact ⟨d ++ k :: A, by rw [weave_cons, hA]; simp⟩
  obtain ⟨A, hA⟩ := key _ cs ks rfl hl hc
  rw [hA, List.getLast?_append]
  cases c with
  | nil => simp at hne
  | cons x c => simp [List.getLast?_cons]
set_option maxHeartbeats 800000 in
set_option maxRecDepth 8000 in
theorem maxMut_any (B m d : Nat) (iso : Int) (ord : List Int) (xs : List It) (hd : 2 ≤ d) (hd' : d ≤ 128) (F : Nat → Nat → Prop) (mu : Bool) (w : World) (hM : TreeAt B ord w m d iso xs F) :
    CallK Try.prog 141 #[ptr m, .bool mu] w fun v w' => v = .tuple #[itO xs.getLast?, .bool xs.getLast?.isSome] ∧ Ext noF w w' := by
  refine calls_of_W [.tmp 4, .tmp 5] Try.func141 rfl Try.ntmps141 Try.results141 (by simp) fun e he => ?_
  have e0 : e 0 = ptr m := he 0 _ rfl
  have e1 : e 1 = .bool mu := he 1 _ rfl
  clear he
  refine W_sq fun K hK => (W_text [true, true] (by kernel_rfl) ?_); simp only [↓List.toList_toArray, ↓rgd, ↓rgf, ↓reduceIte, Nat.reduceEqDiff, rg, ow_141]
  refine hK _ _ ?_; clear hK K
  refine W_seq ?_
  refine W_sq fun K hK => (W_text [true, true, false] (by kernel_rfl) ?_); simp only [↓List.toList_toArray, ↓rgd, ↓rgf, ↓reduceIte, Nat.reduceEqDiff, rg, ow_141, e0, e1]
  refine do_call fn_118 (by simp only [evt, evc, upd_eq, Nat.reduceEqDiff, ↓reduceIte, maT, maC, maN, isnN, isnS] <;> rfl) (lock_any _ _ w) ?_
  rintro _ w1 ⟨rfl, hw1⟩
  obtain rfl : w = w1 := hw1
  refine ⟨trivial, ?_⟩
  simp only [↓List.toList_toArray, ↓rgd, ↓rgf, ↓reduceIte, Nat.reduceEqDiff, rg, ow_141]
  refine hK _ _ ?_; clear hK K
  refine W_false (by simp only [evt, evc, upd_eq, Nat.reduceEqDiff, ↓reduceIte, ntT, ntF] <;> rfl) (W_skip ?_)
  show W _ _ _ _ _ _
  refine W_seq ?_
  rcases hM.root with ⟨rfl, hr⟩ | ⟨h, b, hr, ht⟩
  · have hz := zIt_at hM.cfg
    refine W_sq fun K hK => (W_text [true, true, true, true, true] (by kernel_rfl) ?_); simp only [↓List.toList_toArray, ↓rgd, ↓rgf, ↓reduceIte, Nat.reduceEqDiff, rg, ow_141, e0, ptr_eq, hr]
    refine hK _ _ ?_; clear hK K
    refine W_true (by simp only [evt, evc, upd_eq, Nat.reduceEqDiff, ↓reduceIte, ntT, ntF] <;> rfl) ?_
    refine W_sq fun K hK => (W_text [true, true, true, true, true, true] (by kernel_rfl) ?_); simp only [↓List.toList_toArray, ↓rgd, ↓rgf, ↓reduceIte, Nat.reduceEqDiff, rg, ow_141, e0, ptr_eq, hz]
    refine hK _ _ ?_; clear hK K
    refine W_ret ?_
    simp only [andThen_ret]
    exact endQ_2 (by simp only [upd_eq, Nat.reduceEqDiff, ↓reduceIte] <;> rfl) (by simp only [upd_eq, Nat.reduceEqDiff, ↓reduceIte] <;> rfl) ⟨rfl, Ext.refl _ _⟩
  · refine W_sq fun K hK => (W_text [true, true, true, true, true] (by kernel_rfl) ?_); simp only [↓List.toList_toArray, ↓rgd, ↓rgf, ↓reduceIte, Nat.reduceEqDiff, rg, ow_141, e0, ptr_eq, hr]
    refine hK _ _ ?_; clear hK K
    refine W_false (by simp only [evt, evc, upd_eq, Nat.reduceEqDiff, ↓reduceIte, ntT, ntF] <;> rfl) (W_skip ?_)
    show W _ _ _ _ _ _
    refine W_sq fun K hK => (W_text [true, true, true, true, true, false, true] (by kernel_rfl) ?_); simp only [↓List.toList_toArray, ↓rgd, ↓rgf, ↓reduceIte, Nat.reduceEqDiff, rg, ow_141, e0, e1, ptr_eq]
    refine do_call fn_121 (by simp only [evt, evc, upd_eq, Nat.reduceEqDiff, ↓reduceIte, maT, maC, maN, isnN, isnS] <;> rfl) (isoLoad_any m m 2 b mu iso w hM.cfg.iso hr ht.iso0.1) ?_
    rintro _ w1 ⟨rfl, r1⟩
    refine ⟨trivial, ?_⟩
    simp only [↓List.toList_toArray, ↓rgd, ↓rgf, ↓reduceIte, Nat.reduceEqDiff, rg, ow_141]
    refine hK _ _ ?_; clear hK K
    refine W_block (W_loop (fun mm e w' => ∃ (lo b : Nat) (ys : List It) (F : Nat → Nat → Prop), Tr E iso (d - 1) (2 * d - 1) mm w' lo b ys F ∧ 1 ≤ lo ∧ ys.getLast? = xs.getLast? ∧ Ext noF w w' ∧ e 0 = ptr m ∧ e 1 = .bool mu ∧ e 6 = ptr b)
      h ⟨1, b, xs, F, ht.ext r1.ext (fun _ _ _ h => h), Nat.le_refl _, rfl, r1.ext, by simp only [upd_eq, Nat.reduceEqDiff, ↓reduceIte]; exact e0, by simp only [upd_eq, Nat.reduceEqDiff, ↓reduceIte]; exact e1, by simp only [upd_eq, Nat.reduceEqDiff, ↓reduceIte]⟩ ?_)
    clear e0 e1 e hr ht r1
    rintro mm e w' ⟨lo, b, ys, F', ht, hlo, hl, X, e0, e1, e6⟩
    have hi0 := X.rd hM.cfg.iso (fun h => h)
    refine W_block (W_seq ?_)
    obtain ⟨bi, oi, cap, ks, ch, ho, h1, h2, _, ⟨rfl, rfl, rfl, hF⟩ | ⟨h', bc, ba, oa, capc, cs, rfl, rfl, n⟩⟩ := ht.open
    · refine W_sq fun K hK => (W_text [true, false] (by kernel_rfl) ?_); simp only [↓List.toList_toArray, ↓rgd, ↓rgf, ↓reduceIte, Nat.reduceEqDiff, rg, ow_141, e6]
      refine do_call fn_122 (by simp only [evt, evc, upd_eq, Nat.reduceEqDiff, ↓reduceIte, maT, maC, maN, isnN, isnS] <;> rfl) (leaf_any b none w' ho.h3) ?_
      rintro _ w' ⟨rfl, rfl⟩
      refine ⟨trivial, ?_⟩
      simp only [↓List.toList_toArray, ↓rgd, ↓rgf, ↓reduceIte, Nat.reduceEqDiff, rg, ow_141]
      refine hK _ _ ?_; clear hK K
      refine W_true (by simp only [evt, evc, upd_eq, Nat.reduceEqDiff, ↓reduceIte, ntT, ntF] <;> rfl) ?_
      obtain ⟨x, hx⟩ : ∃ x, ys[ys.length - 1]? = some x := ⟨_, List.getElem?_eq_getElem (by omega)⟩
      have hk := it_at ho.row hx
      have q := wsub1 ys.length (by omega) (by omega)
      have hi : ys.length - 1 < ys.length := by omega
      refine W_sq fun K hK => (W_draw (some none) none [(0, 0, 0), (0, 1, 0), (0, 2, 0), (0, 3, 0), (0, 4, 0), (0, 5, 0), (0, 6, 0), (0, 7, 0), (0, 8, 0), (0, 9, 0), (0, 10, 0), (0, 11, 0), (0, 12, 0), (0, 13, 0)] mixed (by kernel_rfl) ?_); simp only [↓List.toList_toArray, ↓rgd, ↓rgf, ↓reduceIte, Nat.reduceEqDiff, rg, ow_141, e6, ptr_eq, ho.h2, q, hi, hk]
      refine hK _ _ ?_; clear hK K
      refine W_ret ?_
      simp only [andThen_ret, inBlk_ret]
      have hlast : xs.getLast? = some x := by rw [← hl, List.getLast?_eq_getElem?]; exact hx
      exact endQ_2 (by simp only [upd_eq, Nat.reduceEqDiff, ↓reduceIte] <;> rfl) (by simp only [upd_eq, Nat.reduceEqDiff, ↓reduceIte] <;> rfl) ⟨by rw [hlast]; rfl, X.tr (Ext.dr _ _ _)⟩
    · have hcl := n.len
      obtain ⟨c, hc⟩ : ∃ c, cs[ks.length]? = some c := ⟨_, List.getElem?_eq_getElem (by omega)⟩
      have hcm := List.mem_of_getElem? hc
      refine W_sq fun K hK => (W_text [true, false] (by kernel_rfl) ?_); simp only [↓List.toList_toArray, ↓rgd, ↓rgf, ↓reduceIte, Nat.reduceEqDiff, rg, ow_141, e6]
      refine do_call fn_122 (by simp only [evt, evc, upd_eq, Nat.reduceEqDiff, ↓reduceIte, maT, maC, maN, isnN, isnS] <;> rfl) (leaf_any b (some ⟨bc, 0, none⟩) w' ho.h3) ?_
      rintro _ w' ⟨rfl, rfl⟩
      refine ⟨trivial, ?_⟩
      simp only [↓List.toList_toArray, ↓rgd, ↓rgf, ↓reduceIte, Nat.reduceEqDiff, rg, ow_141]
      refine hK _ _ ?_; clear hK K
      refine W_false (by simp only [evt, evc, upd_eq, Nat.reduceEqDiff, ↓reduceIte, ntT, ntF] <;> rfl) (W_skip ?_)
      show W _ _ _ _ _ _
      have hc0 := n.kids.c0
      rw [List.length_map] at hc0
      have hcr : rd w' ba (oa + (cs.length - 1)) = some (ptr c.b) := ptr_at n.kids.row (by rw [List.getElem?_map, show cs.length - 1 = ks.length by omega, hc]; rfl)
      have q2 := wsub1 cs.length (by omega) (by omega)
      have hlc : cs.length - 1 < cs.length := by omega
      refine W_rg fun K hK => (W_draw (some none) none [(0, 0, 0), (0, 1, 0), (0, 2, 0), (0, 3, 0), (0, 4, 0), (0, 5, 0), (0, 6, 0), (0, 7, 0), (0, 8, 0), (0, 9, 0), (0, 10, 0), (0, 11, 0), (0, 12, 0), (0, 13, 0), (0, 14, 0), (0, 15, 0), (0, 16, 0), (1, 17, 0), (0, 18, 0)] mixed (by kernel_rfl) ?_); simp only [↓List.toList_toArray, ↓rgd, ↓rgf, ↓reduceIte, Nat.reduceEqDiff, rg, ow_141, e0, e1, e6, ptr_eq, ho.h3, hc0, q2, hlc]
      refine do_call fn_121 (by simp only [evt, evc, upd_eq, Nat.reduceEqDiff, ↓reduceIte, maT, maC, maN, isnN, isnS] <;> rfl) (isoLoad_any m ba (oa + (cs.length - 1)) c.b mu iso _ hi0 hcr (n.sub c hcm).iso0.1) ?_
      rintro _ w2 ⟨rfl, r2⟩
      refine ⟨.inr (keeps_ro r2), ?_⟩
      simp only [↓List.toList_toArray, ↓rgd, ↓rgf, ↓reduceIte, Nat.reduceEqDiff, rg, ow_141]
      refine hK _ _ ?_; clear hK K
      have R : RO w' w2 := (RO.dr _ _).tr r2
      refine ⟨h', by omega, d - 1, c.b, c.xs, c.F, (n.sub c hcm).ext R.ext (fun _ _ _ h => h), by omega, ?_, X.tr R.ext, by simp only [upd_eq, Nat.reduceEqDiff, ↓reduceIte]; exact e0, by simp only [upd_eq, Nat.reduceEqDiff, ↓reduceIte]; exact e1, by simp only [upd_eq, Nat.reduceEqDiff, ↓reduceIte]⟩
      rw [← hl, n.eq]
      exact (weave_getLast (by simpa using hcl) (by rw [List.getElem?_map, hc]; rfl) ((n.sub c hcm).pos (by omega))).symm
set_option maxHeartbeats 800000 in
set_option maxRecDepth 8000 in
theorem maxG_any (B m d : Nat) (iso : Int) (ord : List Int) (xs : List It) (hd : 2 ≤ d) (hd' : d ≤ 128) (F : Nat → Nat → Prop) (w : World) (hM : TreeAt B ord w m d iso xs F) :
    CallK Try.prog 111 #[ptr m] w fun v w' => v = .tuple #[itO xs.getLast?, .bool xs.getLast?.isSome] ∧ Ext noF w w' := by
  refine calls_of_W [.tmp 2, .tmp 3] Try.func111 rfl Try.ntmps111 Try.results111 (by simp) fun e he => ?_
  have e0 : e 0 = ptr m := he 0 _ rfl
  clear he
  refine W_sq fun K hK => (W_text [true, true] (by kernel_rfl) ?_); simp only [↓List.toList_toArray, ↓rgd, ↓rgf, ↓reduceIte, Nat.reduceEqDiff, rg, ow_111]
  refine hK _ _ ?_; clear hK K
  refine W_sq fun K hK => (W_text [true, false, true, true, true, true] (by kernel_rfl) ?_); simp only [↓List.toList_toArray, ↓rgd, ↓rgf, ↓reduceIte, Nat.reduceEqDiff, rg, ow_111, e0]
  refine do_call fn_141 (by simp only [evt, evc, upd_eq, Nat.reduceEqDiff, ↓reduceIte, maT, maC, maN, isnN, isnS] <;> rfl) (maxMut_any B m d iso ord xs hd hd' F false w hM) ?_
  rintro _ w1 ⟨rfl, X1⟩
  refine ⟨trivial, ?_⟩
  simp only [↓List.toList_toArray, ↓rgd, ↓rgf, ↓reduceIte, Nat.reduceEqDiff, rg, ow_111]
  refine hK _ _ ?_; clear hK K
  exact W_ret (endQ_2 (by simp only [upd_eq, Nat.reduceEqDiff, ↓reduceIte] <;> rfl) (by simp only [upd_eq, Nat.reduceEqDiff, ↓reduceIte] <;> rfl) ⟨rfl, X1⟩)
end Go.Proofs.Ytanmjbkbdmeckaa
/-
  The greatest item of a tree of whatever values, wrapped. No condition.
-/
set_option linter.unusedSimpArgs false
set_option linter.unusedVariables false
namespace Go.Proofs.Ytanmjbkbdmeckaa
open Go Go.Proofs
set_option maxHeartbeats 800000 in
set_option maxRecDepth 8000 in
theorem maxT_any (t B m d : Nat) (iso : Int) (ord : List Int) (xs : List It) (hd : 2 ≤ d) (hd' : d ≤ 128) (F : Nat → Nat → Prop) (w : World) (ht : BAt w t m) (hM : TreeAt B ord w m d iso xs F) :
    CallK Try.prog 76 #[ptr t] w fun v w' => v = itO xs.getLast? ∧ Ext noF w w' := by
  refine calls_of_W [.tmp 2] Try.func76 rfl Try.ntmps76 Try.results76 (by simp) fun e he => ?_
  have e0 : e 0 = ptr t := he 0 _ rfl
  clear he
  refine W_sq fun K hK => (W_text [true] (by kernel_rfl) ?_); simp only [↓List.toList_toArray, ↓rgd, ↓rgf, ↓reduceIte, Nat.reduceEqDiff, rg, ow_76]
  refine hK _ _ ?_; clear hK K
  refine W_sq fun K hK => (W_text [true, true, true, true, false, true, true, true, true, true] (by kernel_rfl) ?_); simp only [↓List.toList_toArray, ↓rgd, ↓rgf, ↓reduceIte, Nat.reduceEqDiff, rg, ow_76, e0, ptr_eq, show rd w t 0 = some (ptr m) from ht]
  refine do_call fn_111 (by simp only [evt, evc, upd_eq, Nat.reduceEqDiff, ↓reduceIte, maT, maC, maN, isnN, isnS] <;> rfl) (maxG_any B m d iso ord xs hd hd' F w hM) ?_
  rintro _ w1 ⟨rfl, h1⟩
  refine ⟨trivial, ?_⟩
  simp only [↓List.toList_toArray, ↓rgd, ↓rgf, ↓reduceIte, Nat.reduceEqDiff, rg, ow_76]
  refine hK _ _ ?_; clear hK K
  refine W_seq ?_
  cases hh : xs.getLast?.isSome with
  | true =>
    refine W_sq fun K hK => (W_text [true, true] (by kernel_rfl) ?_); simp only [↓List.toList_toArray, ↓rgd, ↓rgf, ↓reduceIte, Nat.reduceEqDiff, rg, ow_76, hh]
    refine hK _ _ ?_; clear hK K
    refine W_false (by simp only [evt, evc, upd_eq, Nat.reduceEqDiff, ↓reduceIte, ntT, ntF] <;> rfl) (W_skip ?_)
    show W _ _ _ _ _ _
    refine W_sq fun K hK => (W_text [true, true] (by kernel_rfl) ?_); simp only [↓List.toList_toArray, ↓rgd, ↓rgf, ↓reduceIte, Nat.reduceEqDiff, rg, ow_76]
    refine hK _ _ ?_; clear hK K
    exact W_ret (endQ_1 (by simp only [upd_eq, Nat.reduceEqDiff, ↓reduceIte] <;> rfl) ⟨rfl, h1⟩)
  | false =>
    refine W_sq fun K hK => (W_text [true, true] (by kernel_rfl) ?_); simp only [↓List.toList_toArray, ↓rgd, ↓rgf, ↓reduceIte, Nat.reduceEqDiff, rg, ow_76, hh]
    refine hK _ _ ?_; clear hK K
    refine W_true (by simp only [evt, evc, upd_eq, Nat.reduceEqDiff, ↓reduceIte, ntT, ntF] <;> rfl) ?_
    refine W_sq fun K hK => (W_text [true] (by kernel_rfl) ?_); simp only [↓List.toList_toArray, ↓rgd, ↓rgf, ↓reduceIte, Nat.reduceEqDiff, rg, ow_76]
    refine hK _ _ ?_; clear hK K
    refine W_ret ?_
    simp only [andThen_ret]
    exact endQ_1 (by simp only [upd_eq, Nat.reduceEqDiff, ↓reduceIte] <;> rfl) ⟨(itO_none hh).symm, h1⟩
end Go.Proofs.Ytanmjbkbdmeckaa
/-
  Replies: whatever value was found, as an item and whether there was one. No condition.
-/
set_option linter.unusedSimpArgs false
set_option linter.unusedVariables false
namespace Go.Proofs.Ytanmjbkbdmeckaa
open Go Go.Proofs
def foO (x : Option It) : It × Bool := (x.getD (0, 0), x.isSome)
theorem bu_fo (x : It) : buildV Try.prog 43 [(0, iV x), (1, .bool true)] = some (foV (x, true)) := by kernel_rfl
theorem bu_fo0 : buildV Try.prog 43 [] = some (foV ((0, 0), false)) := by kernel_rfl
theorem oc_fo (x : It × Bool) : oc (foV x).cells.toList := Ef.one x
theorem z_fo : zK Try.prog 43 = some [.int .i64 0, .int .i64 0, .bool false] := by kernel_rfl
theorem ld_fo {w : World} {b : Nat} {x : It × Bool} (h : Row w b 0 (Ef.cel x)) : loadV w ⟨b, 0, none⟩ (some 3) = some (foV x) := h.rdA 3 (by simp [Ef])
set_option maxHeartbeats 800000 in
set_option maxRecDepth 8000 in
theorem found_any (x : Option It) (w : World) : CallK Try.prog 54 #[itO x] w fun v w' => v = foV (foO x) ∧ Ext noF w w' := by
  refine calls_of_W [.cell 2 43] Try.func54 rfl Try.ntmps54 Try.results54 (by simp) fun e he => ?_
  have e0 : e 0 = itO x := he 0 _ rfl
  clear he
  refine W_sq fun K hK => (W_text [false] (by kernel_rfl) ?_); simp only [↓List.toList_toArray, ↓rgd, ↓rgf, ↓reduceIte, Nat.reduceEqDiff, rg, ow_54]
  refine do_alloc z_fo fun w2 n2 => ⟨trivial, ?_⟩
  simp only [↓List.toList_toArray, ↓rgd, ↓rgf, ↓reduceIte, Nat.reduceEqDiff, rg, ow_54]
  refine hK _ _ ?_; clear hK K
  refine W_seq ?_
  cases x with
  | some x =>
    replace e0 : e 0 = itV x := e0
    refine W_sq fun K hK => (W_text [true, true] (by kernel_rfl) ?_); simp only [↓List.toList_toArray, ↓rgd, ↓rgf, ↓reduceIte, Nat.reduceEqDiff, rg, ow_54, e0, eq_any]
    refine hK _ _ ?_; clear hK K
    refine W_false (by simp only [evt, evc, upd_eq, Nat.reduceEqDiff, ↓reduceIte, ntT, ntF] <;> rfl) (W_skip ?_)
    show W _ _ _ _ _ _
    refine W_sq fun K hK => (W_text [true, true, true, false] (by kernel_rfl) ?_); simp only [↓List.toList_toArray, ↓rgd, ↓rgf, ↓reduceIte, Nat.reduceEqDiff, rg, ow_54, e0, tas_any, bu_fo]
    refine do_store (v := foV (x, true)) (by simp only [evt, evc, upd_eq, Nat.reduceEqDiff, ↓reduceIte, ntT, ntF] <;> rfl) (by simp only [evt, evc, upd_eq, Nat.reduceEqDiff, ↓reduceIte, ntT, ntF] <;> rfl) sz_43 rfl n2.wok (by decide) (oc_fo _) fun w3 x3 r3 s3 => ⟨trivial, ?_⟩
    simp only [↓List.toList_toArray, ↓rgd, ↓rgf, ↓reduceIte, Nat.reduceEqDiff, rg, ow_54]
    refine hK _ _ ?_; clear hK K
    refine W_ret ?_
    exact endQ_c (by simp only [upd_eq, Nat.reduceEqDiff, ↓reduceIte]) ld_43 (ld_fo r3) ⟨rfl, noF_of n2.ext x3 fun y o hy h => by simp only [rng] at h; omega⟩
  | none =>
    replace e0 : e 0 = zV := e0
    refine W_sq fun K hK => (W_text [true, true] (by kernel_rfl) ?_); simp only [↓List.toList_toArray, ↓rgd, ↓rgf, ↓reduceIte, Nat.reduceEqDiff, rg, ow_54, e0, eq_anyN]
    refine hK _ _ ?_; clear hK K
    refine W_true (by simp only [evt, evc, upd_eq, Nat.reduceEqDiff, ↓reduceIte, ntT, ntF] <;> rfl) ?_
    refine W_sq fun K hK => (W_text [true, false] (by kernel_rfl) ?_); simp only [↓List.toList_toArray, ↓rgd, ↓rgf, ↓reduceIte, Nat.reduceEqDiff, rg, ow_54, bu_fo0]
    refine do_store (v := foV ((0, 0), false)) (by simp only [evt, evc, upd_eq, Nat.reduceEqDiff, ↓reduceIte, ntT, ntF] <;> rfl) (by simp only [evt, evc, upd_eq, Nat.reduceEqDiff, ↓reduceIte, ntT, ntF] <;> rfl) sz_43 rfl n2.wok (by decide) (oc_fo _) fun w3 x3 r3 s3 => ⟨trivial, ?_⟩
    simp only [↓List.toList_toArray, ↓rgd, ↓rgf, ↓reduceIte, Nat.reduceEqDiff, rg, ow_54]
    refine hK _ _ ?_; clear hK K
    refine W_ret ?_
    simp only [andThen_ret]
    exact endQ_c (by simp only [upd_eq, Nat.reduceEqDiff, ↓reduceIte]) ld_43 (ld_fo r3) ⟨rfl, noF_of n2.ext x3 fun y o hy h => by simp only [rng] at h; omega⟩
end Go.Proofs.Ytanmjbkbdmeckaa
/-
  What is found at an index; a list with an element taken away. No condition.
-/
set_option linter.unusedSimpArgs false
set_option linter.unusedVariables false
namespace Go.Proofs.Ytanmjbkbdmeckaa
open Go Go.Proofs
theorem ni_i : noInt Try.prog 25 = true := by kernel_rfl
/-- The item at an index, and whether there is one. -/
def nth (l : List It) (i : Int) : Option It := if 0 ≤ i then l[i.toNat]? else none
theorem nth_none {xs : List It} {i : Int} (h : i < 0 ∨ (xs.length : Int) ≤ i) : nth xs i = none := by
  unfold nth
  split
  · exact List.getElem?_eq_none (by omega)
  · rfl
theorem bu_fo1 (x : It) : buildV Try.prog 43 [(0, iV x), (1, .bool true)] = some (foV (x, true)) := bu_fo x
/-- A list without an item, and the item. -/
def cutL (l : List It) (i : Int) : List It := if 0 ≤ i then l.eraseIdx i.toNat else l
theorem cutL_out {l : List It} {i : Int} (h : i < 0 ∨ (l.length : Int) ≤ i) : cutL l i = l := by
  unfold cutL
  split
  · exact List.eraseIdx_of_length_le (by omega)
  · rfl
set_option maxHeartbeats 1000000 in
set_option maxRecDepth 8000 in
theorem cut_any (l : List It) (lv : Value) (ix : Int) (w : World) (hl : SlI w lv l) (hbig : l.length ≤ 2147483648) :
    CallK Try.prog 110 #[lv, .int .i64 ix] w fun v w' => ∃ sv, v = .tuple #[sv, foV (foO (nth l ix))] ∧ SlI w' sv (cutL l ix) ∧ Ext noF w w' := by
  obtain ⟨a, c, hlv⟩ := hl.shape
  refine calls_of_W [.tmp 4, .cell 5 43] Try.func110 rfl Try.ntmps110 Try.results110 (by simp) fun e he => ?_
  have e0 : e 0 = .slice a l.length c := by rw [← hlv]; exact he 0 _ rfl
  have e1 : e 1 = .int .i64 ix := he 1 _ rfl
  clear he
  refine W_sq fun K hK => (W_text [true, false] (by kernel_rfl) ?_); simp only [↓List.toList_toArray, ↓rgd, ↓rgf, ↓reduceIte, Nat.reduceEqDiff, rg, ow_110]
  refine do_alloc z_fo fun w1 n1 => ⟨trivial, ?_⟩
  simp only [↓List.toList_toArray, ↓rgd, ↓rgf, ↓reduceIte, Nat.reduceEqDiff, rg, ow_110]
  refine hK _ _ ?_; clear hK K
  have s1 := n1.size
  have out : (ix < 0 ∨ (l.length : Int) ≤ ix) → nth l ix = none ∧ cutL l ix = l := fun h => ⟨nth_none h, cutL_out h⟩
  refine W_seq ?_
  by_cases h1 : ix < 0
  · have t1 : decide (ix < 0) = true := by simp [h1]
    refine W_sq fun K hK => (W_text [true, true, true, true, true, true, true, true] (by kernel_rfl) ?_); simp only [↓List.toList_toArray, ↓rgd, ↓rgf, ↓reduceIte, Nat.reduceEqDiff, rg, ow_110, e0, e1, t1]
    refine hK _ _ ?_; clear hK K
    refine W_true (by simp only [evt, evc, upd_eq, Nat.reduceEqDiff, ↓reduceIte, ntT, ntF] <;> rfl) ?_
    refine W_sq fun K hK => (W_text [true, true, true, false] (by kernel_rfl) ?_); simp only [↓List.toList_toArray, ↓rgd, ↓rgf, ↓reduceIte, Nat.reduceEqDiff, rg, ow_110, e0, bu_fo0]
    refine do_store (v := foV ((0, 0), false)) (by simp only [evt, evc, upd_eq, Nat.reduceEqDiff, ↓reduceIte, ntT, ntF] <;> rfl) (by simp only [evt, evc, upd_eq, Nat.reduceEqDiff, ↓reduceIte, ntT, ntF] <;> rfl) sz_43 rfl n1.wok (by decide) (oc_fo _) fun w3 x3 r3 s3 => ⟨trivial, ?_⟩
    simp only [↓List.toList_toArray, ↓rgd, ↓rgf, ↓reduceIte, Nat.reduceEqDiff, rg, ow_110]
    refine hK _ _ ?_; clear hK K
    refine W_ret ?_
    simp only [andThen_ret]
    have X3 := noF_of n1.ext x3 fun y o hy h => by simp only [rng] at h; omega
    rw [(out (.inl h1)).1, (out (.inl h1)).2]
    exact endQ_tc (by simp only [upd_eq, Nat.reduceEqDiff, ↓reduceIte] <;> rfl) (by simp only [upd_eq, Nat.reduceEqDiff, ↓reduceIte]) ld_43 (ld_fo r3) ⟨_, rfl, by rw [← hlv]; exact hl.ext0 X3, X3⟩
  have t1 : decide (ix < 0) = false := by simp; omega
  by_cases h2 : (l.length : Int) ≤ ix
  · have t2 : decide ((l.length : Int) ≤ ix) = true := by simp [h2]
    refine W_sq fun K hK => (W_text [true, true, true, true, true, true, true, true] (by kernel_rfl) ?_); simp only [↓List.toList_toArray, ↓rgd, ↓rgf, ↓reduceIte, Nat.reduceEqDiff, rg, ow_110, e0, e1, t1, t2]
    refine hK _ _ ?_; clear hK K
    refine W_true (by simp only [evt, evc, upd_eq, Nat.reduceEqDiff, ↓reduceIte, ntT, ntF] <;> rfl) ?_
    refine W_sq fun K hK => (W_text [true, true, true, false] (by kernel_rfl) ?_); simp only [↓List.toList_toArray, ↓rgd, ↓rgf, ↓reduceIte, Nat.reduceEqDiff, rg, ow_110, e0, bu_fo0]
    refine do_store (v := foV ((0, 0), false)) (by simp only [evt, evc, upd_eq, Nat.reduceEqDiff, ↓reduceIte, ntT, ntF] <;> rfl) (by simp only [evt, evc, upd_eq, Nat.reduceEqDiff, ↓reduceIte, ntT, ntF] <;> rfl) sz_43 rfl n1.wok (by decide) (oc_fo _) fun w3 x3 r3 s3 => ⟨trivial, ?_⟩
    simp only [↓List.toList_toArray, ↓rgd, ↓rgf, ↓reduceIte, Nat.reduceEqDiff, rg, ow_110]
    refine hK _ _ ?_; clear hK K
    refine W_ret ?_
    simp only [andThen_ret]
    have X3 := noF_of n1.ext x3 fun y o hy h => by simp only [rng] at h; omega
    rw [(out (.inr h2)).1, (out (.inr h2)).2]
    exact endQ_tc (by simp only [upd_eq, Nat.reduceEqDiff, ↓reduceIte] <;> rfl) (by simp only [upd_eq, Nat.reduceEqDiff, ↓reduceIte]) ld_43 (ld_fo r3) ⟨_, rfl, by rw [← hlv]; exact hl.ext0 X3, X3⟩
  have t2 : decide ((l.length : Int) ≤ ix) = false := by simp; omega
  refine W_sq fun K hK => (W_text [true, true, true, true, true, true, true, true] (by kernel_rfl) ?_); simp only [↓List.toList_toArray, ↓rgd, ↓rgf, ↓reduceIte, Nat.reduceEqDiff, rg, ow_110, e0, e1, t1, t2]
  refine hK _ _ ?_; clear hK K
  refine W_false (by simp only [evt, evc, upd_eq, Nat.reduceEqDiff, ↓reduceIte, ntT, ntF] <;> rfl) (W_skip ?_)
  show W _ _ _ _ _ _
  obtain ⟨i, rfl⟩ : ∃ i : Nat, ix = i := ⟨ix.toNat, by omega⟩
  have hi : i < l.length := by omega
  obtain ⟨x, hx⟩ : ∃ x, l[i]? = some x := ⟨_, List.getElem?_eq_getElem hi⟩
  have hn : nth l (i : Int) = some x := by simp [nth, hx]
  obtain ⟨sv1, hs1, hsl1⟩ := sl_hi (hl.ext0 n1.ext) i (by omega)
  obtain ⟨sv2, hs2, hsl2⟩ := sl_lo (hl.ext0 n1.ext) (i + 1) (by omega)
  rw [hlv] at hs1 hs2
  have q1 := wadd1 i (by omega)
  obtain ⟨lb, lo, rfl, row⟩ := (hl.ext0 n1.ext).at hlv hi
  have ixx := iV_at row hx
  have hlb : lb < w1.heap.size := (hl.ext0 n1.ext).lt hlv
  have M1 : readsB (some (some [lb])) lb = true := by simp [readsB]
  refine W_sq fun K hK => (W_draw (some (some [lb])) (some 16) [(0, 1, 0), (0, 2, 0), (0, 3, 0), (0, 5, 0), (0, 6, 0), (0, 7, 0), (0, 8, 0), (0, 10, 0), (0, 11, 0), (0, 12, 0), (0, 13, 0), (0, 14, 0), (1, 0, 0), (1, 4, 0), (1, 9, 0), (0, 15, 0), (1, 16, 0)] mixed (by kernel_rfl) ?_); simp only [↓List.toList_toArray, ↓rgd, ↓rgf, ↓reduceIte, Nat.reduceEqDiff, rg, ow_110, e0, e1, hs1, hs2, q1, hi, ixx, bu_fo1, M1]
  refine do_bsl rfl bs_i0 fun w2 n2 => ⟨.inr (keeps_on n2.ext fun y hy => ⟨?_, fun _ h => h⟩), ?_⟩
  · rw [sz_dr]
    simp only [List.mem_cons, List.not_mem_nil, or_false] at hy
    omega
  simp only [↓List.toList_toArray, ↓rgd, ↓rgf, ↓reduceIte, Nat.reduceEqDiff, rg, ow_110, e0, e1, hs1, hs2, q1, hi, ixx, bu_fo1]
  have n2 := n2.od
  have s2 := n2.size
  have hv2 : SlV w2 2 (.slice (some ⟨w1.heap.size, 0, none⟩) 0 0) 0 [] := ⟨rfl, .inr ⟨_, 0, 0, rfl, Nat.le_refl _, Row.nil _ _ _, n2.wok.R (Nat.le_refl _)⟩⟩
  refine do_append (by simp only [evt, evc, upd_eq, Nat.reduceEqDiff, ↓reduceIte, ntT, ntF] <;> rfl) (by simp only [evt, evc, upd_eq, Nat.reduceEqDiff, ↓reduceIte, ntT, ntF] <;> rfl) el_i rfl ni_i hv2 (hsl1.ext0 n2.ext) (by omega) (by decide) (flat_oc Ei _) fun v3 w3 a3 => ?_
  obtain ⟨hS3, hg3, x3⟩ := app_since (B := w1.heap.size) a3 (fun b o n c h => by simp only [Value.slice.injEq, Option.some.injEq, Addr.mk.injEq] at h; omega) (by omega)
  refine ⟨.inr (keeps_on x3 fun y hy => ?_), ?_⟩
  · simp only [List.mem_cons, List.not_mem_nil, or_false] at hy
    exact ⟨by omega, fun o h => by omega⟩
  simp only [↓List.toList_toArray, ↓rgd, ↓rgf, ↓reduceIte, Nat.reduceEqDiff, rg, ow_110, e0, e1, hs1, hs2, q1, hi, ixx, bu_fo1]
  have s3 := x3.size
  have hsl2' : SlV w3 2 sv2 (l.length - (i + 1)) (flat Ei (l.drop (i + 1))) := (hsl2.ext0 n2.ext).ext x3 fun b o c h k hk g => by
    have := hsl2.lt h
    omega
  refine do_append (by simp only [evt, evc, upd_eq, Nat.reduceEqDiff, ↓reduceIte, ntT, ntF] <;> rfl) (by simp only [evt, evc, upd_eq, Nat.reduceEqDiff, ↓reduceIte, ntT, ntF] <;> rfl) el_i rfl ni_i hS3 hsl2' (by omega) (by decide) (flat_oc Ei _) fun v4 w4 a4 => ?_
  obtain ⟨hS4, hg4, x4⟩ := app_since (B := w1.heap.size) a4 hg3 (by omega)
  refine ⟨.inr (keeps_on x4 fun y hy => ?_), ?_⟩
  · simp only [List.mem_cons, List.not_mem_nil, or_false] at hy
    exact ⟨by omega, fun o h => by omega⟩
  simp only [↓List.toList_toArray, ↓rgd, ↓rgf, ↓reduceIte, Nat.reduceEqDiff, rg, ow_110, e0, e1, hs1, hs2, q1, hi, ixx, bu_fo1]
  have s4 := x4.size
  have X4 : Ext (fun y _ => w.heap.size ≤ y) w w4 := ((n1.ext.mono (G := fun y _ => w.heap.size ≤ y) fun _ _ _ h => h.elim).tr (n2.ext.mono fun _ _ _ h => h.elim)).tr ((x3.tr x4).mono fun y o _ h => by omega)
  refine do_store (v := foV (x, true)) (by simp only [evt, evc, upd_eq, Nat.reduceEqDiff, ↓reduceIte, ntT, ntF] <;> rfl) (by simp only [evt, evc, upd_eq, Nat.reduceEqDiff, ↓reduceIte, ntT, ntF] <;> rfl) sz_43 rfl (x4.wok (x3.wok (n2.ext.wok n1.wok))) (by decide) (oc_fo _) fun w5 x5 r5 s5 => ⟨.inl trivial, ?_⟩
  simp only [↓List.toList_toArray, ↓rgd, ↓rgf, ↓reduceIte, Nat.reduceEqDiff, rg, ow_110]
  refine hK _ _ ?_; clear hK K
  refine W_ret ?_
  rw [hn]
  refine endQ_tc (by simp only [upd_eq, Nat.reduceEqDiff, ↓reduceIte] <;> rfl) (by simp only [upd_eq, Nat.reduceEqDiff, ↓reduceIte]) ld_43 (ld_fo r5) ⟨_, rfl, ?_, noF_of (Ext.refl _ _) (X4.tr (x5.mono fun y o _ h => by simp only [rng] at h; show w.heap.size ≤ y; omega)) fun y o hy h => by omega⟩
  have he : cutL l (i : Int) = l.take i ++ l.drop (i + 1) := by simp [cutL, List.eraseIdx_eq_take_drop_succ]
  have hln : (cutL l (i : Int)).length = 0 + i + (l.length - (i + 1)) := by rw [he, List.length_append, List.length_take, List.length_drop]; omega
  rw [SlI, hln, he, flat_append]
  have := hS4.ext x5 fun b o c h k hk g => by
    have := hg4 _ _ _ _ h
    simp only [rng] at g
    omega
  simpa using this
set_option maxHeartbeats 400000 in
set_option maxRecDepth 8000 in
theorem sat_any (l : List It) (lv : Value) (ix : Int) (w : World) (hl : SlI w lv l) (hbig : l.length ≤ 2147483648) :
    CallK Try.prog 77 #[lv, .int .i64 ix] w fun v w' => v = foV (foO (nth l ix)) ∧ Ext noF w w' := by
  refine calls_of_W [.cell 4 43] Try.func77 rfl Try.ntmps77 Try.results77 (by simp) fun e he => ?_
  have e0 : e 0 = lv := he 0 _ rfl
  have e1 : e 1 = .int .i64 ix := he 1 _ rfl
  clear he
  refine W_sq fun K hK => (W_text [false] (by kernel_rfl) ?_); simp only [↓List.toList_toArray, ↓rgd, ↓rgf, ↓reduceIte, Nat.reduceEqDiff, rg, ow_77]
  refine do_alloc z_fo fun w1 n1 => ⟨trivial, ?_⟩
  simp only [↓List.toList_toArray, ↓rgd, ↓rgf, ↓reduceIte, Nat.reduceEqDiff, rg, ow_77]
  refine hK _ _ ?_; clear hK K
  have s1 := n1.size
  refine W_sq fun K hK => (W_text [true, true, false, true, true, true, false, true, false] (by kernel_rfl) ?_); simp only [↓List.toList_toArray, ↓rgd, ↓rgf, ↓reduceIte, Nat.reduceEqDiff, rg, ow_77, e0, e1]
  refine do_call fn_110 (by simp only [evt, evc, upd_eq, Nat.reduceEqDiff, ↓reduceIte, maT, maC, maN, isnN, isnS] <;> rfl) (cut_any l lv ix w1 (hl.ext0 n1.ext) hbig) ?_
  rintro _ w2 ⟨sv, rfl, _, X2⟩
  refine ⟨trivial, ?_⟩
  simp only [↓List.toList_toArray, ↓rgd, ↓rgf, ↓reduceIte, Nat.reduceEqDiff, rg, ow_77]
  refine do_alloc z_fo fun w3 n3 => ⟨trivial, ?_⟩
  simp only [↓List.toList_toArray, ↓rgd, ↓rgf, ↓reduceIte, Nat.reduceEqDiff, rg, ow_77]
  have s2 := X2.size
  have s3 := n3.size
  refine do_store (v := foV (foO (nth l ix))) (by simp only [evt, evc, upd_eq, Nat.reduceEqDiff, ↓reduceIte, ntT, ntF] <;> rfl) (by simp only [evt, evc, upd_eq, Nat.reduceEqDiff, ↓reduceIte, ntT, ntF] <;> rfl) sz_43 rfl n3.wok (by decide) (oc_fo _) fun w4 x4 r4 s4 => ⟨trivial, ?_⟩
  simp only [↓List.toList_toArray, ↓rgd, ↓rgf, ↓reduceIte, Nat.reduceEqDiff, rg, ow_77]
  refine hK _ _ ?_; clear hK K
  have ld : rdA w4 w2.heap.size 0 3 = some (foV (foO (nth l ix))) := (show Row w4 w2.heap.size 0 (Ef.cel (foO (nth l ix))) from r4).rdA 3 (by simp [Ef])
  refine W_sq fun K hK => (W_text [true, false] (by kernel_rfl) ?_); simp only [↓List.toList_toArray, ↓rgd, ↓rgf, ↓reduceIte, Nat.reduceEqDiff, rg, ow_77, ld]
  refine do_store (v := foV (foO (nth l ix))) (by simp only [evt, evc, upd_eq, Nat.reduceEqDiff, ↓reduceIte, ntT, ntF] <;> rfl) (by simp only [evt, evc, upd_eq, Nat.reduceEqDiff, ↓reduceIte, ntT, ntF] <;> rfl) sz_43 rfl (x4.wok (n3.ext.wok (X2.wok n1.wok))) (by decide) (oc_fo _) fun w5 x5 r5 s5 => ⟨trivial, ?_⟩
  simp only [↓List.toList_toArray, ↓rgd, ↓rgf, ↓reduceIte, Nat.reduceEqDiff, rg, ow_77]
  refine hK _ _ ?_; clear hK K
  refine W_ret ?_
  refine endQ_c (by simp only [upd_eq, Nat.reduceEqDiff, ↓reduceIte]) ld_43 (ld_fo r5) ⟨rfl, ?_⟩
  have X4 : Ext noF w w4 := noF_of ((n1.ext.tr X2).tr n3.ext) x4 fun y o hy h => by simp only [rng] at h; omega
  exact noF_of X4 x5 fun y o hy h => by simp only [rng] at h; omega
end Go.Proofs.Ytanmjbkbdmeckaa
/-
  Handing on the items of a tree in their order. No condition.
-/
set_option linter.unusedSimpArgs false
set_option linter.unusedVariables false
namespace Go.Proofs.Ytanmjbkbdmeckaa
open Go Go.Proofs
/-- A function that is handed items: S says what the world is behind the items that were handed on; go tells whether it wants more; it changes nothing outside G. -/
def Cb (f : Value) (G : Nat → Nat → Prop) (S : List It → World → Prop) (go : List It → Bool) : Prop :=
  (∃ g first cap, f = .func (.func g) first cap ∧ isFn Try.prog g = true ∧ ∀ done x w, S done w → done.length < 4294967295 →
    CallK Try.prog g (first ++ #[itV x] ++ cap) w fun v w' => v = .bool (go (done ++ [x])) ∧ S (done ++ [x]) w' ∧ Ext G w w') ∧
  ∀ done w w', S done w → Ext noF w w' → S done w'
set_option maxHeartbeats 400000 in
set_option maxRecDepth 8000 in
theorem nodeScan_any (m : Nat) (iso : Int) (mn mx : Nat) (f : Value) (G : Nat → Nat → Prop) (S : List It → World → Prop) (go : List It → Bool) (C : Cb f G S go) (hm : ∀ o, ¬ G m o) (mu : Bool) :
    ∀ (h b lo pc po : Nat) (xs : List It) (F : Nat → Nat → Prop) (done : List It) (w : World), Tr E iso mn mx h w lo b xs F → rd w m 0 = some (.int .u64 iso) → rd w pc po = some (ptr b) → (∀ y o o', F y o → ¬ G y o') → S done w →
      done.length + xs.length ≤ 4294967295 →
    CallK Try.prog 163 #[ptr m, .pointer (some ⟨pc, po, none⟩), f, .bool mu] w fun v w' => v = .bool (hand go done xs).2 ∧ S (hand go done xs).1 w' ∧ Ext G w w' := by
  obtain ⟨⟨g, first, cap0, rfl, hg, hcall⟩, hSx⟩ := C
  intro h
  induction h with
  | zero =>
    intro b lo pc po xs F done w ht h0 hp hG hS hbig
    obtain ⟨bi, oi, cap, ho, h1, h2, hF⟩ := ht
    refine calls_of_W [.tmp 8] Try.func163 rfl Try.ntmps163 Try.results163 (by simp) fun e he => ?_
    have e0 : e 0 = ptr m := he 0 _ rfl
    have e1 : e 1 = .pointer (some ⟨pc, po, none⟩) := he 1 _ rfl
    have e2 : e 2 = .func (.func g) first cap0 := he 2 _ rfl
    have e3 : e 3 = .bool mu := he 3 _ rfl
    clear he
    refine W_sq fun K hK => (W_text [true] (by kernel_rfl) ?_); simp only [↓List.toList_toArray, ↓rgd, ↓rgf, ↓reduceIte, Nat.reduceEqDiff, rg, ow_163]
    refine hK _ _ ?_; clear hK K
    refine W_sq fun K hK => (W_text [true, true, true, false, true] (by kernel_rfl) ?_); simp only [↓List.toList_toArray, ↓rgd, ↓rgf, ↓reduceIte, Nat.reduceEqDiff, rg, ow_163, e0, e1, e3]
    refine do_call fn_121 (by simp only [evt, evc, upd_eq, Nat.reduceEqDiff, ↓reduceIte, maT, maC, maN, isnN, isnS] <;> rfl) (isoLoad_any m pc po b mu iso w h0 hp ho.h0) ?_
    rintro _ w1 ⟨rfl, r1⟩
    refine ⟨trivial, ?_⟩
    simp only [↓List.toList_toArray, ↓rgd, ↓rgf, ↓reduceIte, Nat.reduceEqDiff, rg, ow_163]
    refine hK _ _ ?_; clear hK K
    have x1 : Ext noF w w1 := r1.ext
    have o1 := ho.ext x1 fun _ _ _ h => h
    have S1 := hSx _ _ _ hS x1
    refine W_seq ?_
    refine W_sq fun K hK => (W_text [true, false] (by kernel_rfl) ?_); simp only [↓List.toList_toArray, ↓rgd, ↓rgf, ↓reduceIte, Nat.reduceEqDiff, rg, ow_163]
    refine do_call fn_122 (by simp only [evt, evc, upd_eq, Nat.reduceEqDiff, ↓reduceIte, maT, maC, maN, isnN, isnS] <;> rfl) (leaf_any b none w1 o1.h3) ?_
    rintro _ _ ⟨rfl, rfl⟩
    refine ⟨trivial, ?_⟩
    simp only [↓List.toList_toArray, ↓rgd, ↓rgf, ↓reduceIte, Nat.reduceEqDiff, rg, ow_163]
    refine hK _ _ ?_; clear hK K
    refine W_true (by simp only [evt, evc, upd_eq, Nat.reduceEqDiff, ↓reduceIte, ntT, ntF] <;> rfl) (W_seq ?_)
    refine W_sq fun K hK => (W_text [true] (by kernel_rfl) ?_); simp only [↓List.toList_toArray, ↓rgd, ↓rgf, ↓reduceIte, Nat.reduceEqDiff, rg, ow_163]
    refine hK _ _ ?_; clear hK K
    refine W_block (W_loop (fun mm e w' => ∃ (i : Nat) (d : List It), mm = xs.length - i ∧ i ≤ xs.length ∧ hand go done xs = hand go d (xs.drop i) ∧ d.length + (xs.length - i) ≤ 4294967295 ∧ S d w' ∧ Ext G w w' ∧ e 2 = .func (.func g) first cap0 ∧ e 9 = ptr b ∧ e 10 = .int .i64 i)
      xs.length ⟨0, done, by simp, by simp, by simp, by omega, S1, x1.mono fun _ _ _ h => h.elim, ?_, ?_, ?_⟩ ?_)
    · simp only [upd_eq, Nat.reduceEqDiff, ↓reduceIte]; exact e2
    · simp only [upd_eq, Nat.reduceEqDiff, ↓reduceIte]
    · simp only [upd_eq, Nat.reduceEqDiff, ↓reduceIte]; rfl
    · clear e0 e1 e2 e3 e S1 o1
      rintro mm e w' ⟨i, d, rfl, hi, hh, hdl, hS', X, e2, e9, e10⟩
      have o' := ho.ext X fun y o h => hG y o o ((hF y o).2 h)
      have hb2 := o'.h2
      refine W_seq ?_
      by_cases hlt : i < xs.length
      · have ht := lt_tt i xs.length hlt
        refine W_sq fun K hK => (W_text [true, true, true, true, true, true, true] (by kernel_rfl) ?_); simp only [↓List.toList_toArray, ↓rgd, ↓rgf, ↓reduceIte, Nat.reduceEqDiff, rg, ow_163, e9, e10, ptr_eq, hb2, ht]
        refine hK _ _ ?_; clear hK K
        refine W_true (by simp only [evt, evc, upd_eq, Nat.reduceEqDiff, ↓reduceIte, ntT, ntF] <;> rfl) (W_skip ?_)
        show W _ _ _ _ _ _
        refine W_seq (W_block ?_)
        obtain ⟨x, hx⟩ : ∃ x, xs[i]? = some x := ⟨_, List.getElem?_eq_getElem hlt⟩
        have hk := it_at o'.row hx
        have hd : xs.drop i = x :: xs.drop (i + 1) := by rw [List.drop_eq_getElem_cons hlt, (List.getElem?_eq_some_iff.1 hx).2]
        refine W_sq fun K hK => (W_text [true, true, true, true, true, true, true, true, false, true] (by kernel_rfl) ?_); simp only [↓List.toList_toArray, ↓rgd, ↓rgf, ↓reduceIte, Nat.reduceEqDiff, rg, ow_163, e2, e9, e10, ptr_eq, hb2, hlt, hk]
        refine do_callv (by simp only [evt, evc, upd_eq, Nat.reduceEqDiff, ↓reduceIte, ntT, ntF] <;> rfl) hg rfl (by simp only [evt, upd_eq, Nat.reduceEqDiff, ↓reduceIte, maT, maC, maN]; exact hcall d x _ hS' (by omega)) ?_
        rintro _ w2 ⟨rfl, hS2, x2⟩
        refine ⟨trivial, ?_⟩
        simp only [↓List.toList_toArray, ↓rgd, ↓rgf, ↓reduceIte, Nat.reduceEqDiff, rg, ow_163]
        refine hK _ _ ?_; clear hK K
        cases hgo : go (d ++ [x]) with
        | true =>
          refine W_false (by simp only [evt, evc, upd_eq, Nat.reduceEqDiff, ↓reduceIte, ntT, ntF] <;> rfl) (W_skip ?_)
          show W _ _ _ _ _ _
          have q1 := wadd1 i (by omega)
          refine W_rg fun K hK => (W_text [true, true, true] (by kernel_rfl) ?_); simp only [↓List.toList_toArray, ↓rgd, ↓rgf, ↓reduceIte, Nat.reduceEqDiff, rg, ow_163, e10, q1]
          refine hK _ _ ?_; clear hK K
          refine ⟨_, ?_, i + 1, d ++ [x], rfl, hlt, by rw [hh, hd, hand_yes go hgo], by simp; omega, hS2, X.tr x2, ?_, ?_, ?_⟩
          · omega
          · simp only [upd_eq, Nat.reduceEqDiff, ↓reduceIte]; exact e2
          · simp only [upd_eq, Nat.reduceEqDiff, ↓reduceIte]; exact e9
          · simp only [upd_eq, Nat.reduceEqDiff, ↓reduceIte]
        | false =>
          refine W_true (by simp only [evt, evc, upd_eq, Nat.reduceEqDiff, ↓reduceIte, ntT, ntF] <;> rfl) ?_
          refine W_sq fun K hK => (W_text [true] (by kernel_rfl) ?_); simp only [↓List.toList_toArray, ↓rgd, ↓rgf, ↓reduceIte, Nat.reduceEqDiff, rg, ow_163]
          refine hK _ _ ?_; clear hK K
          refine W_ret ?_
          simp only [andThen_ret, inBlk_ret]
          refine endQ_1 (by simp only [upd_eq, Nat.reduceEqDiff, ↓reduceIte] <;> rfl) ?_
          rw [hh, hd, hand_no go hgo]
          exact ⟨rfl, hS2, X.tr x2⟩
      · obtain rfl : i = xs.length := by omega
        have ht := lt_ff xs.length xs.length (by omega)
        refine W_sq fun K hK => (W_text [true, true, true, true, true, true, true] (by kernel_rfl) ?_); simp only [↓List.toList_toArray, ↓rgd, ↓rgf, ↓reduceIte, Nat.reduceEqDiff, rg, ow_163, e9, e10, ptr_eq, hb2, ht]
        refine hK _ _ ?_; clear hK K
        refine W_false (by simp only [evt, evc, upd_eq, Nat.reduceEqDiff, ↓reduceIte, ntT, ntF] <;> rfl) (W_exit ?_)
        simp only [andThen_exit, inBlk_exit, ↓reduceIte]
        show W _ _ _ _ _ _
        refine W_sq fun K hK => (W_text [true] (by kernel_rfl) ?_); simp only [↓List.toList_toArray, ↓rgd, ↓rgf, ↓reduceIte, Nat.reduceEqDiff, rg, ow_163]
        refine hK _ _ ?_; clear hK K
        refine W_ret ?_
        simp only [andThen_ret]
        refine endQ_1 (by simp only [upd_eq, Nat.reduceEqDiff, ↓reduceIte] <;> rfl) ?_
        rw [hh, List.drop_length, hand_nil]
        exact ⟨rfl, hS', X⟩
  | succ h ih =>
    intro b lo pc po xs F done w ht h0 hp hG hS hbig
    obtain ⟨bi, oi, cap, bc, ba, oa, capc, ks, cs, ho, hk, h1, h2, hcs, rfl, hT, hA, hF⟩ := ht
    have hGo : ∀ y o, ownF E b bi oi cap y o → ∀ o', ¬ G y o' := fun y o g o' => hG y o o' ((hF y o).2 (.inl g))
    have hGk : ∀ y o, kidF bc ba oa capc y o → ∀ o', ¬ G y o' := fun y o g o' => hG y o o' ((hF y o).2 (.inr (.inl g)))
    have hGc : ∀ c ∈ cs, ∀ y o o', c.F y o → ¬ G y o' := fun c hc y o o' g => hG y o o' ((hF y o).2 (.inr (.inr ⟨c, hc, g⟩)))
    have hwl := weave_length (cs.map Kid.xs) ks (by simpa using hcs)
    have hks : ks.length < 4611686018427387904 := by omega
    refine calls_of_W [.tmp 8] Try.func163 rfl Try.ntmps163 Try.results163 (by simp) fun e he => ?_
    have e0 : e 0 = ptr m := he 0 _ rfl
    have e1 : e 1 = .pointer (some ⟨pc, po, none⟩) := he 1 _ rfl
    have e2 : e 2 = .func (.func g) first cap0 := he 2 _ rfl
    have e3 : e 3 = .bool mu := he 3 _ rfl
    clear he
    refine W_sq fun K hK => (W_text [true] (by kernel_rfl) ?_); simp only [↓List.toList_toArray, ↓rgd, ↓rgf, ↓reduceIte, Nat.reduceEqDiff, rg, ow_163]
    refine hK _ _ ?_; clear hK K
    refine W_sq fun K hK => (W_text [true, true, true, false, true] (by kernel_rfl) ?_); simp only [↓List.toList_toArray, ↓rgd, ↓rgf, ↓reduceIte, Nat.reduceEqDiff, rg, ow_163, e0, e1, e3]
    refine do_call fn_121 (by simp only [evt, evc, upd_eq, Nat.reduceEqDiff, ↓reduceIte, maT, maC, maN, isnN, isnS] <;> rfl) (isoLoad_any m pc po b mu iso w h0 hp ho.h0) ?_
    rintro _ w1 ⟨rfl, r1⟩
    refine ⟨trivial, ?_⟩
    simp only [↓List.toList_toArray, ↓rgd, ↓rgf, ↓reduceIte, Nat.reduceEqDiff, rg, ow_163]
    refine hK _ _ ?_; clear hK K
    have x1 : Ext noF w w1 := r1.ext
    have o1 := ho.ext x1 fun _ _ _ h => h
    have S1 := hSx _ _ _ hS x1
    refine W_seq ?_
    refine W_sq fun K hK => (W_text [true, false] (by kernel_rfl) ?_); simp only [↓List.toList_toArray, ↓rgd, ↓rgf, ↓reduceIte, Nat.reduceEqDiff, rg, ow_163]
    refine do_call fn_122 (by simp only [evt, evc, upd_eq, Nat.reduceEqDiff, ↓reduceIte, maT, maC, maN, isnN, isnS] <;> rfl) (leaf_any b (some ⟨bc, 0, none⟩) w1 o1.h3) ?_
    rintro _ _ ⟨rfl, rfl⟩
    refine ⟨trivial, ?_⟩
    simp only [↓List.toList_toArray, ↓rgd, ↓rgf, ↓reduceIte, Nat.reduceEqDiff, rg, ow_163]
    refine hK _ _ ?_; clear hK K
    refine W_false (by simp only [evt, evc, upd_eq, Nat.reduceEqDiff, ↓reduceIte, ntT, ntF] <;> rfl) (W_skip ?_)
    show W _ _ _ _ _ _
    refine W_seq ?_
    refine W_sq fun K hK => (W_text [true] (by kernel_rfl) ?_); simp only [↓List.toList_toArray, ↓rgd, ↓rgf, ↓reduceIte, Nat.reduceEqDiff, rg, ow_163]
    refine hK _ _ ?_; clear hK K
    refine W_block (W_loop (fun mm e w' => ∃ (i : Nat) (d : List It), mm = ks.length - i ∧ i ≤ ks.length ∧ hand go done (weave (cs.map Kid.xs) ks) = hand go d (weave ((cs.map Kid.xs).drop i) (ks.drop i)) ∧ d.length + (weave ((cs.map Kid.xs).drop i) (ks.drop i)).length ≤ 4294967295 ∧ S d w' ∧ Ext G w w' ∧
        e 0 = ptr m ∧ e 2 = .func (.func g) first cap0 ∧ e 3 = .bool mu ∧ e 9 = ptr b ∧ e 11 = .int .i64 i)
      ks.length ⟨0, done, by simp, by simp, by simp, by simpa using hbig, S1, x1.mono fun _ _ _ h => h.elim, ?_, ?_, ?_, ?_, ?_⟩ ?_)
    · simp only [upd_eq, Nat.reduceEqDiff, ↓reduceIte]; exact e0
    · simp only [upd_eq, Nat.reduceEqDiff, ↓reduceIte]; exact e2
    · simp only [upd_eq, Nat.reduceEqDiff, ↓reduceIte]; exact e3
    · simp only [upd_eq, Nat.reduceEqDiff, ↓reduceIte]
    · simp only [upd_eq, Nat.reduceEqDiff, ↓reduceIte]; rfl
    · clear e0 e1 e2 e3 e S1 o1
      rintro mm e w' ⟨i, d, rfl, hi, hh, hdl, hS', X, e0, e2, e3, e9, e11⟩
      have o' := ho.ext X fun y o g => hGo y o g o
      have k' := hk.ext X fun y o g => hGk y o g o
      have hb2 := o'.h2
      have hb3 := o'.h3
      have hc0 := k'.c0
      have h0' := X.rd h0 (hm 0)
      have hci : ∀ i, i < cs.length → ∃ c, cs[i]? = some c ∧ rd w' ba (oa + i) = some (ptr c.b) := fun i hi => by
        refine ⟨cs[i], List.getElem?_eq_getElem hi, k'.row i _ ?_⟩
        rw [List.getElem?_map, List.getElem?_map, List.getElem?_eq_getElem hi]; rfl
      rw [List.length_map] at hc0
      refine W_seq ?_
      by_cases hlt : i < ks.length
      · have ht := lt_tt i ks.length hlt
        refine W_sq fun K hK => (W_text [true, true, true, true, true, true, true] (by kernel_rfl) ?_); simp only [↓List.toList_toArray, ↓rgd, ↓rgf, ↓reduceIte, Nat.reduceEqDiff, rg, ow_163, e9, e11, ptr_eq, hb2, ht]
        refine hK _ _ ?_; clear hK K
        refine W_true (by simp only [evt, evc, upd_eq, Nat.reduceEqDiff, ↓reduceIte, ntT, ntF] <;> rfl) (W_skip ?_)
        show W _ _ _ _ _ _
        refine W_seq (W_block (W_seq ?_))
        obtain ⟨c, hc, hcr⟩ := hci i (by omega)
        have hcm : c ∈ cs := List.mem_of_getElem? hc
        obtain ⟨x, hx⟩ : ∃ x, ks[i]? = some x := ⟨_, List.getElem?_eq_getElem hlt⟩
        have hlc : i < cs.length := by omega
        rw [weave_step (c := c.xs) (by rw [List.getElem?_map, hc]; rfl) hx] at hh hdl
        rw [List.length_append, List.length_cons] at hdl
        refine W_sq fun K hK => (W_text [true, true, true, true, true, true, true, true, true, true, true, false, true] (by kernel_rfl) ?_); simp only [↓List.toList_toArray, ↓rgd, ↓rgf, ↓reduceIte, Nat.reduceEqDiff, rg, ow_163, e0, e2, e3, e9, e11, ptr_eq, hb3, hc0, hlc]
        refine do_call fn_163 (by simp only [evt, evc, upd_eq, Nat.reduceEqDiff, ↓reduceIte, maT, maC, maN, isnN, isnS] <;> rfl) (ih c.b mn ba (oa + i) c.xs c.F d _ ((hT c hcm).ext X fun y o g => hGc c hcm y o o g) h0' hcr (hGc c hcm) hS' (by omega)) ?_
        rintro _ w2 ⟨rfl, hS2, x2⟩
        refine ⟨trivial, ?_⟩
        simp only [↓List.toList_toArray, ↓rgd, ↓rgf, ↓reduceIte, Nat.reduceEqDiff, rg, ow_163]
        refine hK _ _ ?_; clear hK K
        have X2 := X.tr x2
        cases hgo : (hand go d c.xs).2 with
        | false =>
          refine W_true (by simp only [evt, evc, upd_eq, Nat.reduceEqDiff, ↓reduceIte, ntT, ntF] <;> rfl) ?_
          refine W_sq fun K hK => (W_text [true] (by kernel_rfl) ?_); simp only [↓List.toList_toArray, ↓rgd, ↓rgf, ↓reduceIte, Nat.reduceEqDiff, rg, ow_163]
          refine hK _ _ ?_; clear hK K
          refine W_ret ?_
          simp only [andThen_ret, inBlk_ret]
          refine endQ_1 (by simp only [upd_eq, Nat.reduceEqDiff, ↓reduceIte] <;> rfl) ?_
          rw [hh, hand_off go hgo, hgo]
          exact ⟨rfl, hS2, X2⟩
        | true =>
          rw [hand_on go hgo] at hh
          have hd2 : (hand go d c.xs).1.length = d.length + c.xs.length := by rw [hand_true go hgo, List.length_append]
          refine W_false (by simp only [evt, evc, upd_eq, Nat.reduceEqDiff, ↓reduceIte, ntT, ntF] <;> rfl) (W_skip ?_)
          show W _ _ _ _ _ _
          have o2 := ho.ext X2 fun y o g => hGo y o g o
          have hb2 := o2.h2
          have hk2 := it_at o2.row hx
          refine W_sq fun K hK => (W_text [true, true, true, true, true, true, true, true, false, true] (by kernel_rfl) ?_); simp only [↓List.toList_toArray, ↓rgd, ↓rgf, ↓reduceIte, Nat.reduceEqDiff, rg, ow_163, e2, e9, e11, ptr_eq, hb2, hlt, hk2]
          refine do_callv (by simp only [evt, evc, upd_eq, Nat.reduceEqDiff, ↓reduceIte, ntT, ntF] <;> rfl) hg rfl (by simp only [evt, upd_eq, Nat.reduceEqDiff, ↓reduceIte, maT, maC, maN]; exact hcall _ x _ hS2 (by omega)) ?_
          rintro _ w3 ⟨rfl, hS3, x3⟩
          refine ⟨trivial, ?_⟩
          simp only [↓List.toList_toArray, ↓rgd, ↓rgf, ↓reduceIte, Nat.reduceEqDiff, rg, ow_163]
          refine hK _ _ ?_; clear hK K
          cases hgo2 : go ((hand go d c.xs).1 ++ [x]) with
          | true =>
            refine W_false (by simp only [evt, evc, upd_eq, Nat.reduceEqDiff, ↓reduceIte, ntT, ntF] <;> rfl) (W_skip ?_)
            show W _ _ _ _ _ _
            have q1 := wadd1 i (by omega)
            refine W_rg fun K hK => (W_text [true, true, true] (by kernel_rfl) ?_); simp only [↓List.toList_toArray, ↓rgd, ↓rgf, ↓reduceIte, Nat.reduceEqDiff, rg, ow_163, e11, q1]
            refine hK _ _ ?_; clear hK K
            refine ⟨_, ?_, i + 1, _, rfl, hlt, by rw [hh, hand_yes go hgo2], by rw [List.length_append, List.length_singleton]; omega, hS3, X2.tr x3, ?_, ?_, ?_, ?_, ?_⟩
            · omega
            · simp only [upd_eq, Nat.reduceEqDiff, ↓reduceIte]; exact e0
            · simp only [upd_eq, Nat.reduceEqDiff, ↓reduceIte]; exact e2
            · simp only [upd_eq, Nat.reduceEqDiff, ↓reduceIte]; exact e3
            · simp only [upd_eq, Nat.reduceEqDiff, ↓reduceIte]; exact e9
            · simp only [upd_eq, Nat.reduceEqDiff, ↓reduceIte]
          | false =>
            refine W_true (by simp only [evt, evc, upd_eq, Nat.reduceEqDiff, ↓reduceIte, ntT, ntF] <;> rfl) ?_
            refine W_sq fun K hK => (W_text [true] (by kernel_rfl) ?_); simp only [↓List.toList_toArray, ↓rgd, ↓rgf, ↓reduceIte, Nat.reduceEqDiff, rg, ow_163]
            refine hK _ _ ?_; clear hK K
            refine W_ret ?_
            simp only [andThen_ret, inBlk_ret]
            refine endQ_1 (by simp only [upd_eq, Nat.reduceEqDiff, ↓reduceIte] <;> rfl) ?_
            rw [hh, hand_no go hgo2]
            exact ⟨rfl, hS3, X2.tr x3⟩
      · obtain rfl : i = ks.length := by omega
        have ht := lt_ff ks.length ks.length (by omega)
        refine W_sq fun K hK => (W_text [true, true, true, true, true, true, true] (by kernel_rfl) ?_); simp only [↓List.toList_toArray, ↓rgd, ↓rgf, ↓reduceIte, Nat.reduceEqDiff, rg, ow_163, e9, e11, ptr_eq, hb2, ht]
        refine hK _ _ ?_; clear hK K
        refine W_false (by simp only [evt, evc, upd_eq, Nat.reduceEqDiff, ↓reduceIte, ntT, ntF] <;> rfl) (W_exit ?_)
        simp only [andThen_exit, inBlk_exit, ↓reduceIte]
        show W _ _ _ _ _ _
        obtain ⟨c, hc, hcr⟩ := hci ks.length (by omega)
        have hcm : c ∈ cs := List.mem_of_getElem? hc
        rw [weave_last (c := c.xs) (by simpa using hcs) (by rw [List.getElem?_map, hc]; rfl)] at hh hdl
        have hlc : cs.length - 1 < cs.length := by omega
        have hl1 : cs.length - 1 = ks.length := by omega
        have q1 := wsub1 cs.length (by omega) (by omega)
        have M1 : readsB (some (some [b, bc, ba])) b = true := by simp [readsB]
        have M2 : readsB (some (some [b, bc, ba])) bc = true := by simp [readsB]
        have M3 : readsB (some (some [b, bc, ba])) ba = true := by simp [readsB]
        refine W_sq fun K hK => (W_draw (some (some [b, bc, ba])) none [(0, 0, 0), (0, 1, 0), (0, 2, 0), (0, 3, 0), (0, 4, 0), (0, 5, 0), (0, 6, 0), (0, 7, 0), (0, 8, 0), (0, 9, 0), (0, 10, 0), (0, 11, 0), (0, 12, 0), (0, 13, 0), (0, 14, 0), (0, 15, 0), (0, 16, 0), (0, 17, 0), (1, 18, 0), (0, 19, 0)] mixed (by kernel_rfl) ?_); simp only [↓List.toList_toArray, ↓rgd, ↓rgf, ↓reduceIte, Nat.reduceEqDiff, rg, ow_163, e0, e2, e3, e9, ptr_eq, hb3, hc0, q1, hlc, M1, M2, M3]
        rw [hl1]
        refine do_call fn_163 (by simp only [evt, evc, upd_eq, Nat.reduceEqDiff, ↓reduceIte, maT, maC, maN, isnN, isnS] <;> rfl) (ih c.b mn ba (oa + ks.length) c.xs c.F d _ ((hT c hcm).ext (X.tr (Ext.dr _ _ _)) fun y o g => hGc c hcm y o o g) h0' hcr (hGc c hcm) (hSx _ _ _ hS' (Ext.dr _ _ _)) (by omega)) ?_
        rintro _ w2 ⟨rfl, hS2, x2⟩
        refine ⟨.inr (keeps_on x2 fun y hy => ?_), ?_⟩
        · rw [sz_dr]
          simp only [List.mem_cons, List.not_mem_nil, or_false] at hy
          rcases hy with rfl | rfl | rfl
          · exact ⟨wok_lt o'.wb, hGo _ 0 (.inl rfl)⟩
          · exact ⟨wok_lt k'.wc, hGk _ 0 (.inl rfl)⟩
          · exact ⟨wok_lt k'.wa, hGk _ oa (.inr ⟨rfl, by omega, by have := k'.le; rw [List.length_map] at this; omega⟩)⟩
        simp only [↓List.toList_toArray, ↓rgd, ↓rgf, ↓reduceIte, Nat.reduceEqDiff, rg, ow_163]
        refine hK _ _ ?_; clear hK K
        refine W_ret ?_
        refine endQ_1 (by simp only [upd_eq, Nat.reduceEqDiff, ↓reduceIte] <;> rfl) ?_
        rw [hh]
        exact ⟨rfl, hS2, X.tr x2.od⟩
set_option maxHeartbeats 400000 in
set_option maxRecDepth 8000 in
theorem scan_any (B m d : Nat) (ord : List Int) (iso : Int) (xs : List It) (F : Nat → Nat → Prop) (f : Value) (G : Nat → Nat → Prop) (S : List It → World → Prop) (go : List It → Bool) (C : Cb f G S go) (hm : ∀ o, ¬ G m o) (mu : Bool) (w : World)
    (hM : TreeAt B ord w m d iso xs F) (hG : ∀ y o o', F y o → ¬ G y o') (hS : S [] w) (hbig : xs.length ≤ 4294967295) :
    CallK Try.prog 135 #[ptr m, f, .bool mu] w fun _ w' => S (hand go [] xs).1 w' ∧ Ext G w w' := by
  refine calls_of_W [] Try.func135 rfl Try.ntmps135 Try.results135 (by simp) fun e he => ?_
  have e0 : e 0 = ptr m := he 0 _ rfl
  have e1 : e 1 = f := he 1 _ rfl
  have e2 : e 2 = .bool mu := he 2 _ rfl
  clear he
  refine W_seq ?_
  refine W_sq fun K hK => (W_text [true, true, false] (by kernel_rfl) ?_); simp only [↓List.toList_toArray, ↓rgd, ↓rgf, ↓reduceIte, Nat.reduceEqDiff, rg, ow_135, e0, e2]
  refine do_call fn_118 (by simp only [evt, evc, upd_eq, Nat.reduceEqDiff, ↓reduceIte, maT, maC, maN, isnN, isnS] <;> rfl) (lock_any _ _ w) ?_
  rintro _ _ ⟨rfl, rfl⟩
  refine ⟨trivial, ?_⟩
  simp only [↓List.toList_toArray, ↓rgd, ↓rgf, ↓reduceIte, Nat.reduceEqDiff, rg, ow_135]
  refine hK _ _ ?_; clear hK K
  refine W_false (by simp only [evt, evc, upd_eq, Nat.reduceEqDiff, ↓reduceIte, ntT, ntF] <;> rfl) (W_skip ?_)
  show W _ _ _ _ _ _
  refine W_seq ?_
  rcases hM.root with ⟨rfl, hr⟩ | ⟨h, b, hr, ht⟩
  · refine W_sq fun K hK => (W_text [true, true, true, true, true] (by kernel_rfl) ?_); simp only [↓List.toList_toArray, ↓rgd, ↓rgf, ↓reduceIte, Nat.reduceEqDiff, rg, ow_135, e0, ptr_eq, hr]
    refine hK _ _ ?_; clear hK K
    refine W_true (by simp only [evt, evc, upd_eq, Nat.reduceEqDiff, ↓reduceIte, ntT, ntF] <;> rfl) (W_ret ?_)
    simp only [andThen_ret]
    exact endQ_0 ⟨hS, Ext.refl _ _⟩
  · refine W_sq fun K hK => (W_text [true, true, true, true, true] (by kernel_rfl) ?_); simp only [↓List.toList_toArray, ↓rgd, ↓rgf, ↓reduceIte, Nat.reduceEqDiff, rg, ow_135, e0, ptr_eq, hr]
    refine hK _ _ ?_; clear hK K
    refine W_false (by simp only [evt, evc, upd_eq, Nat.reduceEqDiff, ↓reduceIte, ntT, ntF] <;> rfl) (W_skip ?_)
    show W _ _ _ _ _ _
    refine W_rg fun K hK => (W_text [true, true, true, true, true, true, false] (by kernel_rfl) ?_); simp only [↓List.toList_toArray, ↓rgd, ↓rgf, ↓reduceIte, Nat.reduceEqDiff, rg, ow_135, e0, e1, e2, ptr_eq]
    refine do_call fn_163 (by simp only [evt, evc, upd_eq, Nat.reduceEqDiff, ↓reduceIte, maT, maC, maN, isnN, isnS] <;> rfl) (nodeScan_any m iso (d - 1) (2 * d - 1) f G S go C hm mu h b 1 m 2 xs F [] w ht hM.cfg.iso hr hG hS (by simpa using hbig)) ?_
    rintro _ w1 ⟨rfl, hS1, X1⟩
    refine ⟨trivial, ?_⟩
    simp only [↓List.toList_toArray, ↓rgd, ↓rgf, ↓reduceIte, Nat.reduceEqDiff, rg, ow_135]
    refine hK _ _ ?_; clear hK K
    exact endQ_0n ⟨hS1, X1⟩
end Go.Proofs.Ytanmjbkbdmeckaa
/-
  Handing on the items of a tree from a key on. No condition.
-/
set_option linter.unusedSimpArgs false
set_option linter.unusedVariables false
namespace Go.Proofs.Ytanmjbkbdmeckaa
open Go Go.Proofs
set_option maxHeartbeats 1000000 in
set_option maxRecDepth 8000 in
theorem nodeAscend_any (m : Nat) (iso : Int) (mn mx : Nat) (B : Nat) (ord : List Int) (q : It) (hp : Option Nat) (f : Value) (G : Nat → Nat → Prop) (S : List It → World → Prop) (go : List It → Bool) (C : Cb f G S go) (hm : ∀ o, ¬ G m o) (hB : ∀ hb, hp = some hb → (m ≤ hb ∨ hb < B) ∧ ∀ o, G hb o) (hSh : ∀ done w w', S done w → Ext (hF hp) w w' → S done w') (hmn : 1 ≤ mn) (mu : Bool) :
    ∀ (h b lo pc po : Nat) (xs : List It) (F : Nat → Nat → Prop) (done : List It) (w : World) (dep : Nat), 1 ≤ lo → dep + h < 4611686018427387904 → Ls B m w ord → HOk hp w → Tr E iso mn mx h w lo b xs F → Asc O (rkI ord) xs → rd w m 0 = some (.int .u64 iso) → rd w pc po = some (ptr b) → (∀ y o o', F y o → ¬ G y o') → S done w →
      done.length + xs.length ≤ 4294967295 →
    CallK Try.prog 164 #[ptr m, .pointer (some ⟨pc, po, none⟩), itV q, hV hp, .int .i64 dep, f, .bool mu] w fun v w' => v = .bool (hand go done (xs.drop (lb O (rkI ord) (rkI ord q) xs))).2 ∧ S (hand go done (xs.drop (lb O (rkI ord) (rkI ord q) xs))).1 w' ∧ Ext G w w' := by
  have C0 := C
  obtain ⟨⟨g, first, cap0, rfl, hg, hcall⟩, hSx⟩ := C
  intro h
  induction h with
  | zero =>
    intro b lo pc po xs F done w dep hlo hdep hL hH ht ha h0 hpc hG hS hbig
    obtain ⟨bi, oi, cap, ho, h1, h2, hF⟩ := ht
    refine calls_of_W [.tmp 14] Try.func164 rfl Try.ntmps164 Try.results164 (by simp) fun e he => ?_
    have e0 : e 0 = ptr m := he 0 _ rfl
    have e1 : e 1 = .pointer (some ⟨pc, po, none⟩) := he 1 _ rfl
    have e2 : e 2 = itV q := he 2 _ rfl
    have e3 : e 3 = hV hp := he 3 _ rfl
    have e4 : e 4 = .int .i64 dep := he 4 _ rfl
    have e5 : e 5 = .func (.func g) first cap0 := he 5 _ rfl
    have e6 : e 6 = .bool mu := he 6 _ rfl
    clear he
    refine W_sq fun K0 hK => (W_text [true] (by kernel_rfl) ?_); simp only [↓List.toList_toArray, ↓rgd, ↓rgf, ↓reduceIte, Nat.reduceEqDiff, rg, ow_164]
    refine hK _ _ ?_; clear hK K0
    have x0 : Ext noF w w := Ext.refl _ _
    have s0 := x0.size
    refine W_sq fun K0 hK => (W_text [true, true, true, false, true] (by kernel_rfl) ?_); simp only [↓List.toList_toArray, ↓rgd, ↓rgf, ↓reduceIte, Nat.reduceEqDiff, rg, ow_164, e0, e1, e6]
    refine do_call fn_121 (by simp only [evt, evc, upd_eq, Nat.reduceEqDiff, ↓reduceIte, maT, maC, maN, isnN, isnS] <;> rfl) (isoLoad_any m pc po b mu iso w (x0.rd h0 fun h => h) (x0.rd hpc fun h => h) (x0.rd ho.h0 fun h => h)) ?_
    rintro _ w1 ⟨rfl, r1⟩
    refine ⟨trivial, ?_⟩
    simp only [↓List.toList_toArray, ↓rgd, ↓rgf, ↓reduceIte, Nat.reduceEqDiff, rg, ow_164]
    refine hK _ _ ?_; clear hK K0
    have x01 : Ext noF w w1 := r1.ext
    have x1 : Ext noF w w1 := x0.tr x01
    have s1 := x1.size
    have hbl := wok_lt ho.wb
    have hbil := wok_lt ho.wi
    have hbh : ∀ hb, hp = some hb → hb ≠ b := fun hb hh hE => hG b 0 0 ((hF _ _).2 (.inl rfl)) (by rw [← hE]; exact (hB hb hh).2 0)
    have hbx : ∀ o, ¬ Go.Proofs.Ytanmjbkbdmeckaa.hF hp w.heap.size o := fun o g => by
      have := wok_lt (hH _ g).wok; omega
    have hbF : ∀ y o, F y o → ¬ Go.Proofs.Ytanmjbkbdmeckaa.hF hp y o := fun y o hy hg => hG y o o hy ((hB y hg).2 o)
    have o1 := ho.ext x1 fun _ _ _ h => h
    refine W_sq fun K0 hK => (W_text [true, true, true, true, true, false, true, true, true, true, true] (by kernel_rfl) ?_); simp only [↓List.toList_toArray, ↓rgd, ↓rgf, ↓reduceIte, Nat.reduceEqDiff, rg, ow_164, e0, e3, e4, e2]
    refine do_call fn_174 (by simp only [evt, evc, upd_eq, Nat.reduceEqDiff, ↓reduceIte, maT, maC, maN, isnN, isnS] <;> rfl) (find_any B m b bi oi cap ord xs q none hp dep w1 (hL.ext0 x1) o1.h2 o1.h3 o1.row (by omega) (by omega) (by omega) ha (hH.ext0 x1) hbh) ?_
    rintro _ w2 ⟨rfl, r2, hH2⟩
    refine ⟨trivial, ?_⟩
    simp only [↓List.toList_toArray, ↓rgd, ↓rgf, ↓reduceIte, Nat.reduceEqDiff, rg, ow_164, srchG_eq]
    refine hK _ _ ?_; clear hK K0
    have x2 : Ext (Go.Proofs.Ytanmjbkbdmeckaa.hF hp) w w2 := (x1.trans r2 (fun _ _ g => g.elim) fun _ _ _ g => g)
    have x2G : Ext G w w2 := x2.mono fun y o _ g => (hB y g).2 o
    have o2 := ho.ext x2 fun y o h => hbF y o ((hF y o).2 h)
    have S2 := hSh _ _ _ hS x2
    have hlb := lb_le O (rkI ord) (rkI ord q) xs
    refine W_sqx fun K hK => ?_
    have hloop : ∀ e' : Env, e' 5 = .func (.func g) first cap0 → e' 15 = ptr b → e' 16 = .int .i64 (lb O (rkI ord) (rkI ord q) xs : Nat) → K e' w2 := by
      intro e e5 e15 e16
      refine hK _ _ ?_; clear hK K
      refine W_seq ?_
      refine W_block (W_loop (fun mm e w' => ∃ (i : Nat) (d : List It), mm = xs.length - i ∧ i ≤ xs.length ∧ hand go done (xs.drop (lb O (rkI ord) (rkI ord q) xs)) = hand go d (xs.drop i) ∧ d.length + (xs.length - i) ≤ 4294967295 ∧ S d w' ∧ Ext G w w' ∧ e 5 = .func (.func g) first cap0 ∧ e 15 = ptr b ∧ e 16 = .int .i64 i)
        (xs.length - lb O (rkI ord) (rkI ord q) xs) ⟨_, done, rfl, hlb, rfl, by omega, S2, x2G, e5, e15, e16⟩ ?_)
      clear e5 e15 e16 e S2 o2
      rintro mm e w' ⟨i, d, rfl, hi, hh, hdl, hS', X, e5, e15, e16⟩
      have o' := ho.ext X fun y o h => hG y o o ((hF y o).2 h)
      have hb2 := o'.h2
      have hb3 := o'.h3
      refine W_seq ?_
      by_cases hlt : i < xs.length
      · have ht := lt_tt i xs.length hlt
        refine W_sq fun K0 hK => (W_text [true, true, true, true, true, true, true] (by kernel_rfl) ?_); simp only [↓List.toList_toArray, ↓rgd, ↓rgf, ↓reduceIte, Nat.reduceEqDiff, rg, ow_164, e15, e16, ptr_eq, hb2, ht]
        refine hK _ _ ?_; clear hK K0
        refine W_true (by simp only [evt, evc, upd_eq, Nat.reduceEqDiff, ↓reduceIte, ntT, ntF] <;> rfl) (W_skip ?_)
        show W _ _ _ _ _ _
        obtain ⟨x, hx⟩ : ∃ x, xs[i]? = some x := ⟨_, List.getElem?_eq_getElem hlt⟩
        have hk := it_at o'.row hx
        have hd : xs.drop i = x :: xs.drop (i + 1) := by rw [List.drop_eq_getElem_cons hlt, (List.getElem?_eq_some_iff.1 hx).2]
        refine W_seq (W_block (W_seq ?_))
        refine W_sq fun K0 hK => (W_text [true, true, true, true, true, true, true, true, false, true] (by kernel_rfl) ?_); simp only [↓List.toList_toArray, ↓rgd, ↓rgf, ↓reduceIte, Nat.reduceEqDiff, rg, ow_164, e5, e15, e16, ptr_eq, hb2, hlt, hk]
        refine do_callv (by simp only [evt, evc, upd_eq, Nat.reduceEqDiff, ↓reduceIte, ntT, ntF] <;> rfl) hg rfl (by simp only [evt, upd_eq, Nat.reduceEqDiff, ↓reduceIte, maT, maC, maN]; exact hcall d x _ hS' (by omega)) ?_
        rintro _ w3 ⟨rfl, hS3, x3⟩
        refine ⟨trivial, ?_⟩
        simp only [↓List.toList_toArray, ↓rgd, ↓rgf, ↓reduceIte, Nat.reduceEqDiff, rg, ow_164]
        refine hK _ _ ?_; clear hK K0
        have o3 := ho.ext (X.tr x3) fun y o h => hG y o o ((hF y o).2 h)
        have b3 := o3.h3
        cases hgo : go (d ++ [x]) with
        | true =>
          refine W_false (by simp only [evt, evc, upd_eq, Nat.reduceEqDiff, ↓reduceIte, ntT, ntF] <;> rfl) (W_skip ?_)
          show W _ _ _ _ _ _
          refine W_sq fun K0 hK => (W_text [true, false, true] (by kernel_rfl) ?_); simp only [↓List.toList_toArray, ↓rgd, ↓rgf, ↓reduceIte, Nat.reduceEqDiff, rg, ow_164, e15]
          refine do_call fn_122 (by simp only [evt, evc, upd_eq, Nat.reduceEqDiff, ↓reduceIte, maT, maC, maN, isnN, isnS] <;> rfl) (leaf_any b none w3 b3) ?_
          rintro _ w3 ⟨rfl, rfl⟩
          refine ⟨trivial, ?_⟩
          simp only [↓List.toList_toArray, ↓rgd, ↓rgf, ↓reduceIte, Nat.reduceEqDiff, rg, ow_164]
          refine hK _ _ ?_; clear hK K0
          refine W_false (by simp only [evt, evc, upd_eq, Nat.reduceEqDiff, ↓reduceIte, ntT, ntF] <;> rfl) (W_skip ?_)
          show W _ _ _ _ _ _
          have q1 := wadd1 i (by omega)
          refine W_rg fun K0 hK => (W_text [true, true, true] (by kernel_rfl) ?_); simp only [↓List.toList_toArray, ↓rgd, ↓rgf, ↓reduceIte, Nat.reduceEqDiff, rg, ow_164, e16, q1]
          refine hK _ _ ?_; clear hK K0
          refine ⟨_, ?_, i + 1, d ++ [x], rfl, hlt, by rw [hh, hd, hand_yes go hgo], by simp; omega, hS3, X.tr x3, ?_, ?_, ?_⟩
          · omega
          · simp only [upd_eq, Nat.reduceEqDiff, ↓reduceIte]; exact e5
          · simp only [upd_eq, Nat.reduceEqDiff, ↓reduceIte]; exact e15
          · simp only [upd_eq, Nat.reduceEqDiff, ↓reduceIte]
        | false =>
          refine W_true (by simp only [evt, evc, upd_eq, Nat.reduceEqDiff, ↓reduceIte, ntT, ntF] <;> rfl) ?_
          refine W_sq fun K0 hK => (W_text [true] (by kernel_rfl) ?_); simp only [↓List.toList_toArray, ↓rgd, ↓rgf, ↓reduceIte, Nat.reduceEqDiff, rg, ow_164]
          refine hK _ _ ?_; clear hK K0
          refine W_ret ?_
          simp only [andThen_ret, inBlk_ret]
          refine endQ_1 (by simp only [upd_eq, Nat.reduceEqDiff, ↓reduceIte] <;> rfl) ?_
          rw [hh, hd, hand_no go hgo]
          exact ⟨rfl, hS3, X.tr x3⟩
      · obtain rfl : i = xs.length := by omega
        have ht := lt_ff xs.length xs.length (by omega)
        refine W_sq fun K0 hK => (W_text [true, true, true, true, true, true, true] (by kernel_rfl) ?_); simp only [↓List.toList_toArray, ↓rgd, ↓rgf, ↓reduceIte, Nat.reduceEqDiff, rg, ow_164, e15, e16, ptr_eq, hb2, ht]
        refine hK _ _ ?_; clear hK K0
        refine W_false (by simp only [evt, evc, upd_eq, Nat.reduceEqDiff, ↓reduceIte, ntT, ntF] <;> rfl) (W_exit ?_)
        simp only [andThen_exit, inBlk_exit, andThen_normal, ↓reduceIte]
        refine W_sq fun K0 hK => (W_text [true] (by kernel_rfl) ?_); simp only [↓List.toList_toArray, ↓rgd, ↓rgf, ↓reduceIte, Nat.reduceEqDiff, rg, ow_164]
        refine hK _ _ ?_; clear hK K0
        refine W_ret ?_
        refine endQ_1 (by simp only [upd_eq, Nat.reduceEqDiff, ↓reduceIte] <;> rfl) ?_
        rw [hh, List.drop_length, hand_nil]
        exact ⟨rfl, hS', X⟩
    clear hK

    cases hq : hit O (rkI ord) (rkI ord q) xs with
    | true =>
      refine W_sq fun K0 hK => (W_text [true, true] (by kernel_rfl) ?_); simp only [↓List.toList_toArray, ↓rgd, ↓rgf, ↓reduceIte, Nat.reduceEqDiff, rg, ow_164, hq]
      refine hK _ _ ?_; clear hK K0
      refine W_false (by simp only [evt, evc, upd_eq, Nat.reduceEqDiff, ↓reduceIte, ntT, ntF] <;> rfl) (W_skip ?_)
      simp only [andThen_normal]
      refine hloop _ ?_ ?_ ?_
      · simp only [upd_eq, Nat.reduceEqDiff, ↓reduceIte]; exact e5
      · simp only [upd_eq, Nat.reduceEqDiff, ↓reduceIte]
      · simp only [upd_eq, Nat.reduceEqDiff, ↓reduceIte]
    | false =>
      refine W_sq fun K0 hK => (W_text [true, true] (by kernel_rfl) ?_); simp only [↓List.toList_toArray, ↓rgd, ↓rgf, ↓reduceIte, Nat.reduceEqDiff, rg, ow_164, hq]
      refine hK _ _ ?_; clear hK K0
      refine W_true (by simp only [evt, evc, upd_eq, Nat.reduceEqDiff, ↓reduceIte, ntT, ntF] <;> rfl) ?_
      refine W_sq fun K0 hK => (W_text [true, false, true] (by kernel_rfl) ?_); simp only [↓List.toList_toArray, ↓rgd, ↓rgf, ↓reduceIte, Nat.reduceEqDiff, rg, ow_164]
      refine do_call fn_122 (by simp only [evt, evc, upd_eq, Nat.reduceEqDiff, ↓reduceIte, maT, maC, maN, isnN, isnS] <;> rfl) (leaf_any b none w2 o2.h3) ?_
      rintro _ _ ⟨rfl, rfl⟩
      refine ⟨trivial, ?_⟩
      simp only [↓List.toList_toArray, ↓rgd, ↓rgf, ↓reduceIte, Nat.reduceEqDiff, rg, ow_164]
      refine hK _ _ ?_; clear hK K0
      refine W_false (by simp only [evt, evc, upd_eq, Nat.reduceEqDiff, ↓reduceIte, ntT, ntF] <;> rfl) (W_skip ?_)
      simp only [andThen_normal]
      refine hloop _ ?_ ?_ ?_
      · simp only [upd_eq, Nat.reduceEqDiff, ↓reduceIte]; exact e5
      · simp only [upd_eq, Nat.reduceEqDiff, ↓reduceIte]
      · simp only [upd_eq, Nat.reduceEqDiff, ↓reduceIte]
  | succ h ih =>
    intro b lo pc po xs F done w dep hlo hdep hL hH ht ha h0 hpc hG hS hbig
    obtain ⟨bi, oi, cap, bc, ba, oa, capc, ks, cs, ho, hk, h1, h2, hcs, rfl, hT, hA, hF⟩ := ht
    have hGo : ∀ y o, ownF E b bi oi cap y o → ∀ o', ¬ G y o' := fun y o g o' => hG y o o' ((hF y o).2 (.inl g))
    have hGk : ∀ y o, kidF bc ba oa capc y o → ∀ o', ¬ G y o' := fun y o g o' => hG y o o' ((hF y o).2 (.inr (.inl g)))
    have hGc : ∀ c ∈ cs, ∀ y o o', c.F y o → ¬ G y o' := fun c hc y o o' g => hG y o o' ((hF y o).2 (.inr (.inr ⟨c, hc, g⟩)))
    have hcs' : (cs.map Kid.xs).length = ks.length + 1 := by simpa using hcs
    have hwl := weave_length (cs.map Kid.xs) ks hcs'
    have hks : ks.length < 4611686018427387904 := by omega
    have hak : Asc O (rkI ord) ks := List.Pairwise.sublist (weave_sub _ _ hcs') ha
    refine calls_of_W [.tmp 14] Try.func164 rfl Try.ntmps164 Try.results164 (by simp) fun e he => ?_
    have e0 : e 0 = ptr m := he 0 _ rfl
    have e1 : e 1 = .pointer (some ⟨pc, po, none⟩) := he 1 _ rfl
    have e2 : e 2 = itV q := he 2 _ rfl
    have e3 : e 3 = hV hp := he 3 _ rfl
    have e4 : e 4 = .int .i64 dep := he 4 _ rfl
    have e5 : e 5 = .func (.func g) first cap0 := he 5 _ rfl
    have e6 : e 6 = .bool mu := he 6 _ rfl
    clear he
    refine W_sq fun K0 hK => (W_text [true] (by kernel_rfl) ?_); simp only [↓List.toList_toArray, ↓rgd, ↓rgf, ↓reduceIte, Nat.reduceEqDiff, rg, ow_164]
    refine hK _ _ ?_; clear hK K0
    have x0 : Ext noF w w := Ext.refl _ _
    have s0 := x0.size
    refine W_sq fun K0 hK => (W_text [true, true, true, false, true] (by kernel_rfl) ?_); simp only [↓List.toList_toArray, ↓rgd, ↓rgf, ↓reduceIte, Nat.reduceEqDiff, rg, ow_164, e0, e1, e6]
    refine do_call fn_121 (by simp only [evt, evc, upd_eq, Nat.reduceEqDiff, ↓reduceIte, maT, maC, maN, isnN, isnS] <;> rfl) (isoLoad_any m pc po b mu iso w (x0.rd h0 fun h => h) (x0.rd hpc fun h => h) (x0.rd ho.h0 fun h => h)) ?_
    rintro _ w1 ⟨rfl, r1⟩
    refine ⟨trivial, ?_⟩
    simp only [↓List.toList_toArray, ↓rgd, ↓rgf, ↓reduceIte, Nat.reduceEqDiff, rg, ow_164]
    refine hK _ _ ?_; clear hK K0
    have x01 : Ext noF w w1 := r1.ext
    have x1 : Ext noF w w1 := x0.tr x01
    have s1 := x1.size
    have hbl := wok_lt ho.wb
    have hbil := wok_lt ho.wi
    have hbh : ∀ hb, hp = some hb → hb ≠ b := fun hb hh hE => hG b 0 0 ((hF _ _).2 (.inl (.inl rfl))) (by rw [← hE]; exact (hB hb hh).2 0)
    have hbx : ∀ o, ¬ Go.Proofs.Ytanmjbkbdmeckaa.hF hp w.heap.size o := fun o g => by
      have := wok_lt (hH _ g).wok; omega
    have hbF : ∀ y o, F y o → ¬ Go.Proofs.Ytanmjbkbdmeckaa.hF hp y o := fun y o hy hg => hG y o o hy ((hB y hg).2 o)
    have o1 := ho.ext x1 fun _ _ _ h => h
    refine W_sq fun K0 hK => (W_text [true, true, true, true, true, false, true, true, true, true, true] (by kernel_rfl) ?_); simp only [↓List.toList_toArray, ↓rgd, ↓rgf, ↓reduceIte, Nat.reduceEqDiff, rg, ow_164, e0, e3, e4, e2]
    refine do_call fn_174 (by simp only [evt, evc, upd_eq, Nat.reduceEqDiff, ↓reduceIte, maT, maC, maN, isnN, isnS] <;> rfl) (find_any B m b bi oi cap ord ks q (some ⟨bc, 0, none⟩) hp dep w1 (hL.ext0 x1) o1.h2 o1.h3 o1.row (by omega) hks (by omega) hak (hH.ext0 x1) hbh) ?_
    rintro _ w2 ⟨rfl, r2, hH2⟩
    refine ⟨trivial, ?_⟩
    simp only [↓List.toList_toArray, ↓rgd, ↓rgf, ↓reduceIte, Nat.reduceEqDiff, rg, ow_164, srchG_eq]
    refine hK _ _ ?_; clear hK K0
    have x2 : Ext (Go.Proofs.Ytanmjbkbdmeckaa.hF hp) w w2 := (x1.trans r2 (fun _ _ g => g.elim) fun _ _ _ g => g)
    have x2G : Ext G w w2 := x2.mono fun y o _ g => (hB y g).2 o
    have o2 := ho.ext x2 fun y o h => hbF y o ((hF y o).2 (.inl h))
    have k2 := hk.ext x2 fun y o h => hbF y o ((hF y o).2 (.inr (.inl h)))
    have S2 := hSh _ _ _ hS x2
    have hmh : ¬ Go.Proofs.Ytanmjbkbdmeckaa.hF hp m 0 := fun g => hm 0 ((hB m g).2 0)
    have hL2 := hL.ext x2 (fun y o g => (hB y g).1) fun g => hm 6 ((hB m g).2 6)
    have hlb := lb_le O (rkI ord) (rkI ord q) ks
    have hci : ∀ i, i < cs.length → ∃ c, cs[i]? = some c ∧ (cs.map Kid.xs)[i]? = some c.xs ∧ ∀ w', Ext G w w' → rd w' ba (oa + i) = some (ptr c.b) := fun i hi => by
      refine ⟨cs[i], List.getElem?_eq_getElem hi, by rw [List.getElem?_map, List.getElem?_eq_getElem hi]; rfl, fun w' X => (hk.ext X fun y o g => hGk y o g o).row i _ ?_⟩
      rw [List.getElem?_map, List.getElem?_map, List.getElem?_eq_getElem hi]; rfl
    generalize hi0 : lb O (rkI ord) (rkI ord q) ks = i0 at *
    obtain ⟨c0, hc0, hx0, hr0⟩ := hci i0 (by omega)
    have hc0m : c0 ∈ cs := List.mem_of_getElem? hc0
    have hln0 := tl_length hcs' hlb hx0
    refine W_sqx fun K hK => ?_
    have hloop : ∀ (e' : Env) (w2 : World) (d : List It), S d w2 → Ext G w w2 → hand go done ((weave (cs.map Kid.xs) ks).drop (lb O (rkI ord) (rkI ord q) (weave (cs.map Kid.xs) ks))) = hand go d (tl (cs.map Kid.xs) ks i0) → d.length + (tl (cs.map Kid.xs) ks i0).length ≤ 4294967295 →
        e' 0 = ptr m → e' 5 = .func (.func g) first cap0 → e' 6 = .bool mu → e' 15 = ptr b → e' 16 = .int .i64 i0 → K e' w2 := by
      intro e w2 d0 S2 X2 hh0 hdl0 e0 e5 e6 e15 e16
      refine hK _ _ ?_; clear hK K
      refine W_seq ?_
      refine W_block (W_loop (fun mm e w' => ∃ (i : Nat) (d : List It), mm = ks.length - i ∧ i ≤ ks.length ∧ hand go done ((weave (cs.map Kid.xs) ks).drop (lb O (rkI ord) (rkI ord q) (weave (cs.map Kid.xs) ks))) = hand go d (tl (cs.map Kid.xs) ks i) ∧ d.length + (tl (cs.map Kid.xs) ks i).length ≤ 4294967295 ∧ S d w' ∧ Ext G w w' ∧
          e 0 = ptr m ∧ e 5 = .func (.func g) first cap0 ∧ e 6 = .bool mu ∧ e 15 = ptr b ∧ e 16 = .int .i64 i)
        (ks.length - i0) ⟨_, d0, rfl, hlb, hh0, hdl0, S2, X2, e0, e5, e6, e15, e16⟩ ?_)
      clear e0 e1 e2 e5 e6 e15 e16 e S2 o2 X2 hdl0 hh0
      rintro mm e w' ⟨i, d, rfl, hi, hh, hdl, hS', X, e0, e5, e6, e15, e16⟩
      have o' := ho.ext X fun y o g => hGo y o g o
      have hb2 := o'.h2
      refine W_seq ?_
      by_cases hlt : i < ks.length
      · have ht := lt_tt i ks.length hlt
        refine W_sq fun K0 hK => (W_text [true, true, true, true, true, true, true] (by kernel_rfl) ?_); simp only [↓List.toList_toArray, ↓rgd, ↓rgf, ↓reduceIte, Nat.reduceEqDiff, rg, ow_164, e15, e16, ptr_eq, hb2, ht]
        refine hK _ _ ?_; clear hK K0
        refine W_true (by simp only [evt, evc, upd_eq, Nat.reduceEqDiff, ↓reduceIte, ntT, ntF] <;> rfl) (W_skip ?_)
        show W _ _ _ _ _ _
        obtain ⟨x, hx⟩ : ∃ x, ks[i]? = some x := ⟨_, List.getElem?_eq_getElem hlt⟩
        obtain ⟨c, hc, hcx, hcr⟩ := hci (i + 1) (by omega)
        have hcm : c ∈ cs := List.mem_of_getElem? hc
        have hlc : i + 1 < cs.length := by omega
        rw [tl_step hcx hx] at hh hdl
        rw [List.length_cons, List.length_append] at hdl
        have hkx := it_at o'.row hx
        refine W_seq (W_block (W_seq ?_))
        refine W_sq fun K0 hK => (W_text [true, true, true, true, true, true, true, true, false, true] (by kernel_rfl) ?_); simp only [↓List.toList_toArray, ↓rgd, ↓rgf, ↓reduceIte, Nat.reduceEqDiff, rg, ow_164, e5, e15, e16, ptr_eq, hb2, hlt, hkx]
        refine do_callv (by simp only [evt, evc, upd_eq, Nat.reduceEqDiff, ↓reduceIte, ntT, ntF] <;> rfl) hg rfl (by simp only [evt, upd_eq, Nat.reduceEqDiff, ↓reduceIte, maT, maC, maN]; exact hcall d x _ hS' (by omega)) ?_
        rintro _ w3 ⟨rfl, hS3, x3⟩
        refine ⟨trivial, ?_⟩
        simp only [↓List.toList_toArray, ↓rgd, ↓rgf, ↓reduceIte, Nat.reduceEqDiff, rg, ow_164]
        refine hK _ _ ?_; clear hK K0
        have X3 := X.tr x3
        have o3 := ho.ext X3 fun y o g => hGo y o g o
        have k3 := hk.ext X3 fun y o g => hGk y o g o
        have b3 := o3.h3
        have hbc := k3.c0
        rw [List.length_map] at hbc
        have hcr3 := hcr _ X3
        have h03 := X3.rd h0 (hm 0)
        cases hgo : go (d ++ [x]) with
        | true =>
          rw [hand_yes go hgo] at hh
          refine W_false (by simp only [evt, evc, upd_eq, Nat.reduceEqDiff, ↓reduceIte, ntT, ntF] <;> rfl) (W_skip ?_)
          show W _ _ _ _ _ _
          refine W_sq fun K0 hK => (W_text [true, false, true] (by kernel_rfl) ?_); simp only [↓List.toList_toArray, ↓rgd, ↓rgf, ↓reduceIte, Nat.reduceEqDiff, rg, ow_164, e15]
          refine do_call fn_122 (by simp only [evt, evc, upd_eq, Nat.reduceEqDiff, ↓reduceIte, maT, maC, maN, isnN, isnS] <;> rfl) (leaf_any b (some ⟨bc, 0, none⟩) w3 b3) ?_
          rintro _ w3 ⟨rfl, rfl⟩
          refine ⟨trivial, ?_⟩
          simp only [↓List.toList_toArray, ↓rgd, ↓rgf, ↓reduceIte, Nat.reduceEqDiff, rg, ow_164]
          refine hK _ _ ?_; clear hK K0
          refine W_true (by simp only [evt, evc, upd_eq, Nat.reduceEqDiff, ↓reduceIte, ntT, ntF] <;> rfl) ?_
          have q1 := wadd1 i (by omega)
          refine W_sq fun K0 hK => (W_text [true, true, true, true, true, true, true, true, true, true, true, true, false, true] (by kernel_rfl) ?_); simp only [↓List.toList_toArray, ↓rgd, ↓rgf, ↓reduceIte, Nat.reduceEqDiff, rg, ow_164, e0, e5, e6, e15, e16, ptr_eq, b3, hbc, hlc, q1]
          refine do_call fn_163 (by simp only [evt, evc, upd_eq, Nat.reduceEqDiff, ↓reduceIte, maT, maC, maN, isnN, isnS] <;> rfl) (nodeScan_any m iso mn mx _ G S go C0 hm mu h c.b mn ba (oa + (i + 1)) c.xs c.F (d ++ [x]) _ ((hT c hcm).ext X3 fun y o g => hGc c hcm y o o g) h03 hcr3 (hGc c hcm) hS3 (by rw [List.length_append, List.length_singleton]; omega)) ?_
          rintro _ w4 ⟨rfl, hS4, x4⟩
          refine ⟨trivial, ?_⟩
          simp only [↓List.toList_toArray, ↓rgd, ↓rgf, ↓reduceIte, Nat.reduceEqDiff, rg, ow_164]
          refine hK _ _ ?_; clear hK K0
          cases hgo2 : (hand go (d ++ [x]) c.xs).2 with
          | true =>
            rw [hand_on go hgo2] at hh
            have hd2 : (hand go (d ++ [x]) c.xs).1.length = d.length + 1 + c.xs.length := by rw [hand_true go hgo2]; simp only [List.length_append, List.length_singleton]
            refine W_false (by simp only [evt, evc, upd_eq, Nat.reduceEqDiff, ↓reduceIte, ntT, ntF] <;> rfl) (W_skip ?_)
            simp only [inBlk_normal, andThen_normal]
            refine W_rg fun K0 hK => (W_text [true, true, true] (by kernel_rfl) ?_); simp only [↓List.toList_toArray, ↓rgd, ↓rgf, ↓reduceIte, Nat.reduceEqDiff, rg, ow_164, e16, q1]
            refine hK _ _ ?_; clear hK K0
            refine ⟨_, ?_, i + 1, _, rfl, hlt, hh, by omega, hS4, X3.tr x4, ?_, ?_, ?_, ?_, ?_⟩
            · omega
            · simp only [upd_eq, Nat.reduceEqDiff, ↓reduceIte]; exact e0
            · simp only [upd_eq, Nat.reduceEqDiff, ↓reduceIte]; exact e5
            · simp only [upd_eq, Nat.reduceEqDiff, ↓reduceIte]; exact e6
            · simp only [upd_eq, Nat.reduceEqDiff, ↓reduceIte]; exact e15
            · simp only [upd_eq, Nat.reduceEqDiff, ↓reduceIte]
          | false =>
            refine W_true (by simp only [evt, evc, upd_eq, Nat.reduceEqDiff, ↓reduceIte, ntT, ntF] <;> rfl) ?_
            refine W_sq fun K0 hK => (W_text [true] (by kernel_rfl) ?_); simp only [↓List.toList_toArray, ↓rgd, ↓rgf, ↓reduceIte, Nat.reduceEqDiff, rg, ow_164]
            refine hK _ _ ?_; clear hK K0
            refine W_ret ?_
            simp only [andThen_ret, inBlk_ret]
            refine endQ_1 (by simp only [upd_eq, Nat.reduceEqDiff, ↓reduceIte] <;> rfl) ?_
            rw [hh, hand_off go hgo2, hgo2]
            exact ⟨rfl, hS4, X3.tr x4⟩
        | false =>
          refine W_true (by simp only [evt, evc, upd_eq, Nat.reduceEqDiff, ↓reduceIte, ntT, ntF] <;> rfl) ?_
          refine W_sq fun K0 hK => (W_text [true] (by kernel_rfl) ?_); simp only [↓List.toList_toArray, ↓rgd, ↓rgf, ↓reduceIte, Nat.reduceEqDiff, rg, ow_164]
          refine hK _ _ ?_; clear hK K0
          refine W_ret ?_
          simp only [andThen_ret, inBlk_ret]
          refine endQ_1 (by simp only [upd_eq, Nat.reduceEqDiff, ↓reduceIte] <;> rfl) ?_
          rw [hh, hand_no go hgo]
          exact ⟨rfl, hS3, X3⟩
      · obtain rfl : i = ks.length := by omega
        have ht := lt_ff ks.length ks.length (by omega)
        refine W_sq fun K0 hK => (W_text [true, true, true, true, true, true, true] (by kernel_rfl) ?_); simp only [↓List.toList_toArray, ↓rgd, ↓rgf, ↓reduceIte, Nat.reduceEqDiff, rg, ow_164, e15, e16, ptr_eq, hb2, ht]
        refine hK _ _ ?_; clear hK K0
        refine W_false (by simp only [evt, evc, upd_eq, Nat.reduceEqDiff, ↓reduceIte, ntT, ntF] <;> rfl) (W_exit ?_)
        simp only [andThen_exit, inBlk_exit, andThen_normal, ↓reduceIte]
        refine W_sq fun K0 hK => (W_text [true] (by kernel_rfl) ?_); simp only [↓List.toList_toArray, ↓rgd, ↓rgf, ↓reduceIte, Nat.reduceEqDiff, rg, ow_164]
        refine hK _ _ ?_; clear hK K0
        refine W_ret ?_
        refine endQ_1 (by simp only [upd_eq, Nat.reduceEqDiff, ↓reduceIte] <;> rfl) ?_
        rw [hh, tl_end, hand_nil]
        exact ⟨rfl, hS', X⟩
    clear hK
    cases hq : hit O (rkI ord) (rkI ord q) ks with
    | true =>
      refine W_sq fun K0 hK => (W_text [true, true] (by kernel_rfl) ?_); simp only [↓List.toList_toArray, ↓rgd, ↓rgf, ↓reduceIte, Nat.reduceEqDiff, rg, ow_164, hq]
      refine hK _ _ ?_; clear hK K0
      refine W_false (by simp only [evt, evc, upd_eq, Nat.reduceEqDiff, ↓reduceIte, ntT, ntF] <;> rfl) (W_skip ?_)
      simp only [andThen_normal]
      refine hloop _ _ done S2 x2G (by rw [from_hit O (rkI ord) hcs' hx0 ha hi0 hq]) (by omega) ?_ ?_ ?_ ?_ ?_
      · simp only [upd_eq, Nat.reduceEqDiff, ↓reduceIte]; exact e0
      · simp only [upd_eq, Nat.reduceEqDiff, ↓reduceIte]; exact e5
      · simp only [upd_eq, Nat.reduceEqDiff, ↓reduceIte]; exact e6
      · simp only [upd_eq, Nat.reduceEqDiff, ↓reduceIte]
      · simp only [upd_eq, Nat.reduceEqDiff, ↓reduceIte]
    | false =>
      have hb3 := o2.h3
      have hbc := k2.c0
      rw [List.length_map] at hbc
      have hlc : i0 < cs.length := by omega
      have hfm := from_miss O (rkI ord) hcs' hx0 ha hi0 hq
      have hac : Asc O (rkI ord) c0.xs := by
        obtain ⟨A, C, hw⟩ := weave_at i0 (cs.map Kid.xs) ks hcs' hlb
        rw [hw.eq hx0] at ha
        exact ((Asc.append O (rkI ord)).1 ((Asc.append O (rkI ord)).1 ha).1).2.1
      refine W_sq fun K0 hK => (W_text [true, true] (by kernel_rfl) ?_); simp only [↓List.toList_toArray, ↓rgd, ↓rgf, ↓reduceIte, Nat.reduceEqDiff, rg, ow_164, hq]
      refine hK _ _ ?_; clear hK K0
      refine W_true (by simp only [evt, evc, upd_eq, Nat.reduceEqDiff, ↓reduceIte, ntT, ntF] <;> rfl) ?_
      refine W_sq fun K0 hK => (W_text [true, false, true] (by kernel_rfl) ?_); simp only [↓List.toList_toArray, ↓rgd, ↓rgf, ↓reduceIte, Nat.reduceEqDiff, rg, ow_164]
      refine do_call fn_122 (by simp only [evt, evc, upd_eq, Nat.reduceEqDiff, ↓reduceIte, maT, maC, maN, isnN, isnS] <;> rfl) (leaf_any b (some ⟨bc, 0, none⟩) w2 o2.h3) ?_
      rintro _ w3 ⟨rfl, hw3⟩
      obtain rfl : w2 = w3 := hw3.symm
      refine ⟨trivial, ?_⟩
      simp only [↓List.toList_toArray, ↓rgd, ↓rgf, ↓reduceIte, Nat.reduceEqDiff, rg, ow_164]
      refine hK _ _ ?_; clear hK K0
      refine W_true (by simp only [evt, evc, upd_eq, Nat.reduceEqDiff, ↓reduceIte, ntT, ntF] <;> rfl) ?_
      have q1 := wadd1 dep (by omega)
      refine W_sq fun K0 hK => (W_text [true, true, true, true, true, true, true, true, true, true, true, true, true, true, true, false, true] (by kernel_rfl) ?_); simp only [↓List.toList_toArray, ↓rgd, ↓rgf, ↓reduceIte, Nat.reduceEqDiff, rg, ow_164, e0, e3, e4, e5, e6, ptr_eq, hb3, hbc, hlc, q1, e2]
      refine do_call fn_164 (by simp only [evt, evc, upd_eq, Nat.reduceEqDiff, ↓reduceIte, maT, maC, maN, isnN, isnS] <;> rfl) (ih c0.b mn ba (oa + i0) c0.xs c0.F done _ (dep + 1) hmn (by omega) (hL2.ext0 (Ext.dr _ _ _)) (hH2.ext0 (Ext.dr _ _ _)) (((hT c0 hc0m).ext x2 fun y o h g => hGc c0 hc0m y o o h ((hB y g).2 o)).ext (Ext.dr noF _ _) fun _ _ _ h => h) hac (x2.rd h0 hmh) (hr0 _ (x2G.tr (Ext.dr _ _ _))) (hGc c0 hc0m) (hSx _ _ _ S2 (Ext.dr _ _ _)) (by omega)) ?_
      rintro _ w4 ⟨rfl, hS4, x4⟩
      refine ⟨trivial, ?_⟩
      simp only [↓List.toList_toArray, ↓rgd, ↓rgf, ↓reduceIte, Nat.reduceEqDiff, rg, ow_164]
      refine hK _ _ ?_; clear hK K0
      have X4 : Ext G w w4 := x2G.tr x4.od
      cases hgo2 : (hand go done (c0.xs.drop (lb O (rkI ord) (rkI ord q) c0.xs))).2 with
      | true =>
        have hd2 : (hand go done (c0.xs.drop (lb O (rkI ord) (rkI ord q) c0.xs))).1.length ≤ done.length + c0.xs.length := by rw [hand_true go hgo2]; simp only [List.length_append, List.length_drop]; omega
        refine W_false (by simp only [evt, evc, upd_eq, Nat.reduceEqDiff, ↓reduceIte, ntT, ntF] <;> rfl) (W_skip ?_)
        simp only [andThen_normal]
        refine hloop _ _ _ hS4 X4 (by rw [hfm, hand_on go hgo2]) (by omega) ?_ ?_ ?_ ?_ ?_
        · simp only [upd_eq, Nat.reduceEqDiff, ↓reduceIte]; exact e0
        · simp only [upd_eq, Nat.reduceEqDiff, ↓reduceIte]; exact e5
        · simp only [upd_eq, Nat.reduceEqDiff, ↓reduceIte]; exact e6
        · simp only [upd_eq, Nat.reduceEqDiff, ↓reduceIte]; rfl
        · simp only [upd_eq, Nat.reduceEqDiff, ↓reduceIte]
      | false =>
        refine W_true (by simp only [evt, evc, upd_eq, Nat.reduceEqDiff, ↓reduceIte, ntT, ntF] <;> rfl) ?_
        refine W_sq fun K0 hK => (W_text [true] (by kernel_rfl) ?_); simp only [↓List.toList_toArray, ↓rgd, ↓rgf, ↓reduceIte, Nat.reduceEqDiff, rg, ow_164]
        refine hK _ _ ?_; clear hK K0
        refine W_ret ?_
        simp only [andThen_ret]
        refine endQ_1 (by simp only [upd_eq, Nat.reduceEqDiff, ↓reduceIte] <;> rfl) ?_
        rw [hfm, hand_off go hgo2, hgo2]
        exact ⟨rfl, hS4, X4⟩
set_option maxHeartbeats 400000 in
set_option maxRecDepth 8000 in
theorem ascend_any (B m d : Nat) (ord : List Int) (hd : 2 ≤ d) (iso : Int) (xs : List It) (F : Nat → Nat → Prop) (q : It) (hp : Option Nat) (f : Value) (G : Nat → Nat → Prop) (S : List It → World → Prop) (go : List It → Bool) (C : Cb f G S go) (hm : ∀ o, ¬ G m o)
    (hB : ∀ hb, hp = some hb → (m ≤ hb ∨ hb < B) ∧ ∀ o, G hb o) (hSh : ∀ done w w', S done w → Ext (Go.Proofs.Ytanmjbkbdmeckaa.hF hp) w w' → S done w') (mu : Bool) (w : World)
    (hM : TreeAt B ord w m d iso xs F) (hG : ∀ y o o', F y o → ¬ G y o') (hS : S [] w) (hH : HOk hp w) (hbig : xs.length ≤ 4294967295) :
    CallK Try.prog 136 #[ptr m, itV q, f, .bool mu, hV hp] w fun _ w' => S (hand go [] (xs.drop (lb O (rkI ord) (rkI ord q) xs))).1 w' ∧ Ext G w w' := by
  refine calls_of_W [] Try.func136 rfl Try.ntmps136 Try.results136 (by simp) fun e he => ?_
  have e0 : e 0 = ptr m := he 0 _ rfl
  have e1 : e 1 = itV q := he 1 _ rfl
  have e2 : e 2 = f := he 2 _ rfl
  have e3 : e 3 = .bool mu := he 3 _ rfl
  have e4 : e 4 = hV hp := he 4 _ rfl
  clear he
  have X1 : Ext noF w w := Ext.refl _ _
  have hS1 := C.2 _ _ _ hS X1
  have hM1 := hM.ext X1
  have hH1 := hH.ext0 X1
  refine W_seq ?_
  refine W_sq fun K0 hK => (W_text [true, true, false] (by kernel_rfl) ?_); simp only [↓List.toList_toArray, ↓rgd, ↓rgf, ↓reduceIte, Nat.reduceEqDiff, rg, ow_136, e0, e3]
  refine do_call fn_118 (by simp only [evt, evc, upd_eq, Nat.reduceEqDiff, ↓reduceIte, maT, maC, maN, isnN, isnS] <;> rfl) (lock_any _ _ w) ?_
  rintro _ _ ⟨rfl, rfl⟩
  refine ⟨trivial, ?_⟩
  simp only [↓List.toList_toArray, ↓rgd, ↓rgf, ↓reduceIte, Nat.reduceEqDiff, rg, ow_136]
  refine hK _ _ ?_; clear hK K0
  refine W_false (by simp only [evt, evc, upd_eq, Nat.reduceEqDiff, ↓reduceIte, ntT, ntF] <;> rfl) (W_skip ?_)
  show W _ _ _ _ _ _
  refine W_seq ?_
  have X1G : Ext G w w := X1.mono fun _ _ _ g => g.elim
  rcases hM1.root with ⟨rfl, hr⟩ | ⟨h, b, hr, ht⟩
  · refine W_sq fun K0 hK => (W_text [true, true, true, true, true] (by kernel_rfl) ?_); simp only [↓List.toList_toArray, ↓rgd, ↓rgf, ↓reduceIte, Nat.reduceEqDiff, rg, ow_136, e0, ptr_eq, hr]
    refine hK _ _ ?_; clear hK K0
    refine W_true (by simp only [evt, evc, upd_eq, Nat.reduceEqDiff, ↓reduceIte, ntT, ntF] <;> rfl) (W_ret ?_)
    simp only [andThen_ret]
    exact endQ_0 ⟨hS1, X1G⟩
  · refine W_sq fun K0 hK => (W_text [true, true, true, true, true] (by kernel_rfl) ?_); simp only [↓List.toList_toArray, ↓rgd, ↓rgf, ↓reduceIte, Nat.reduceEqDiff, rg, ow_136, e0, ptr_eq, hr]
    refine hK _ _ ?_; clear hK K0
    refine W_false (by simp only [evt, evc, upd_eq, Nat.reduceEqDiff, ↓reduceIte, ntT, ntF] <;> rfl) (W_skip ?_)
    show W _ _ _ _ _ _
    have hh := ht.height (by omega) (by omega)
    refine W_rg fun K0 hK => (W_text [true, true, true, true, true, true, true, true, false] (by kernel_rfl) ?_); simp only [↓List.toList_toArray, ↓rgd, ↓rgf, ↓reduceIte, Nat.reduceEqDiff, rg, ow_136, e0, e2, e3, e4, ptr_eq, e1]
    refine do_call fn_164 (by simp only [evt, evc, upd_eq, Nat.reduceEqDiff, ↓reduceIte, maT, maC, maN, isnN, isnS] <;> rfl) (nodeAscend_any m iso (d - 1) (2 * d - 1) B ord q hp f G S go C hm hB hSh (by omega) mu h b 1 m 2 xs F [] w 0 (Nat.le_refl _) (by omega) (hM1.less.ext0 (Ext.refl _ _)) (hH1.ext0 (Ext.refl _ _)) (ht.ext (Ext.refl noF _) fun _ _ _ h => h) hM1.asc hM1.cfg.iso hr hG (C.2 _ _ _ hS1 (Ext.refl _ _)) (by simpa using hbig)) ?_
    rintro _ w2 ⟨rfl, hS2, X2⟩
    refine ⟨trivial, ?_⟩
    simp only [↓List.toList_toArray, ↓rgd, ↓rgf, ↓reduceIte, Nat.reduceEqDiff, rg, ow_136]
    refine hK _ _ ?_; clear hK K0
    exact endQ_0n ⟨hS2, X1G.tr X2⟩
end Go.Proofs.Ytanmjbkbdmeckaa
