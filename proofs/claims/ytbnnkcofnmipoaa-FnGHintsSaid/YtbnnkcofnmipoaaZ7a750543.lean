/-
  nodeRebalance: right to left. No condition.
-/
import Derived.Test.YtbnnkcofnmipoaaZ0b558072
import Derived.Test.YtbnnkcofnmipoaaZA
import Derived.Test.YtbnnkcofnmipoaaZ2844d862
/-
  The search in a node of a tree, with a hint or without one. No condition.
-/
set_option linter.unusedSimpArgs false
set_option linter.unusedVariables false
namespace Go.Proofs.Ytbnnkcofnmipoaa
open Go Go.Proofs
/-- A hint's cells. -/
structure HintAt (w : World) (hb : Nat) : Prop where
  wok : wok w hb 16
  used : ∀ i, i < 8 → ∃ u : Bool, rd w hb i = some (.bool u)
  path : ∀ i, i < 8 → ∃ p : Nat, p < 256 ∧ rd w hb (8 + i) = some (.int .u8 p)
theorem HintAt.ext {w w' : World} {G : Nat → Nat → Prop} {hb : Nat} (h : HintAt w hb) (x : Ext G w w') (hG : ∀ o, ¬ G hb o) : HintAt w' hb :=
  ⟨x.wok h.wok, fun i hi => (h.used i hi).imp fun _ g => x.rd g (hG _), fun i hi => (h.path i hi).imp fun _ g => ⟨g.1, x.rd g.2 (hG _)⟩⟩
theorem HintAt.setU {w w' : World} {hb i : Nat} {u : Bool} (h : HintAt w hb) (x : Ext (rng hb i 1) w w') (r : rd w' hb i = some (.bool u)) (hi : i < 8) : HintAt w' hb :=
  ⟨x.wok h.wok, fun j hj => by
    by_cases hij : j = i
    · subst hij; exact ⟨u, r⟩
    · exact (h.used j hj).imp fun _ g => x.rd g (by simp only [rng]; omega), fun j hj => (h.path j hj).imp fun _ g => ⟨g.1, x.rd g.2 (by simp only [rng]; omega)⟩⟩
theorem HintAt.setP {w w' : World} {hb i p : Nat} (h : HintAt w hb) (x : Ext (rng hb (8 + i) 1) w w') (r : rd w' hb (8 + i) = some (.int .u8 p)) (hp : p < 256) : HintAt w' hb :=
  ⟨x.wok h.wok, fun j hj => (h.used j hj).imp fun _ g => x.rd g (by simp only [rng]; omega), fun j hj => by
    by_cases hij : j = i
    · subst hij; exact ⟨p, hp, r⟩
    · exact (h.path j hj).imp fun _ g => ⟨g.1, x.rd g.2 (by simp only [rng]; omega)⟩⟩
/-- The cells of a hint, if there is one. -/
def hF (hp : Option Nat) : Nat → Nat → Prop := fun y _ => hp = some y
def hV (hp : Option Nat) : Value := .pointer (hp.map fun b => ⟨b, 0, none⟩)
theorem hV_none : hV none = .pointer none := id (Eq.trans rfl rfl)
theorem hV_some (b : Nat) : hV (some b) = ptr b := id (Eq.trans rfl rfl)
def HOk (hp : Option Nat) (w : World) : Prop := ∀ hb, hp = some hb → HintAt w hb
theorem HOk.ext {w w' : World} {G : Nat → Nat → Prop} {hp : Option Nat} (h : HOk hp w) (x : Ext G w w') (hG : ∀ hb, hp = some hb → ∀ o, ¬ G hb o) : HOk hp w' := fun hb e => (h hb e).ext x (hG hb e)
theorem HOk.ext0 {w w' : World} {hp : Option Nat} (h : HOk hp w) (x : Ext noF w w') : HOk hp w' := h.ext x fun _ _ _ g => g
theorem HOk.none (w : World) : HOk none w := fun _ h => by cases h
theorem u8_of (n : Int) : ∃ p : Nat, IntKind.u8.wrap n = p ∧ p < 256 := by
  have h1 : 0 ≤ IntKind.u8.wrap n := by rw [IntKind.wrap_u8]; omega
  have h2 : IntKind.u8.wrap n < 256 := by rw [IntKind.wrap_u8]; omega
  exact ⟨(IntKind.u8.wrap n).toNat, by omega, by omega⟩
set_option maxHeartbeats 400000 in
set_option maxRecDepth 8000 in
theorem less_any (B m : Nat) (ord : List Int) (a b : It) (w : World) (hL : Ls B m w ord) :
    CallK Try.prog 138 #[ptr m, itV a, itV b] w fun v w' => v = .bool (O.lt (rkI ord a) (rkI ord b)) ∧ Ext noF w w' := by
  refine calls_of_W [.tmp 6] Try.func138 rfl Try.ntmps138 Try.results138 (by simp) fun e he => ?_
  have e0 : e 0 = ptr m := he 0 _ rfl
  have e1 : e 1 = itV a := he 1 _ rfl
  have e2 : e 2 = itV b := he 2 _ rfl
  clear he
  refine W_sq fun K hK => (W_text [false, false, true] (by kernel_rfl) ?_); simp only [↓List.toList_toArray, ↓rgd, ↓rgf, ↓reduceIte, Nat.reduceEqDiff, rg, ow_138]
  refine do_box (by simp only [evt]; exact e1) fun w1 n1 => ⟨trivial, ?_⟩
  simp only [↓List.toList_toArray, ↓rgd, ↓rgf, ↓reduceIte, Nat.reduceEqDiff, rg, ow_138]
  refine do_box (by simp only [evt, upd_eq, Nat.reduceEqDiff, ↓reduceIte]; exact e2) fun w2 n2 => ⟨trivial, ?_⟩
  simp only [↓List.toList_toArray, ↓rgd, ↓rgf, ↓reduceIte, Nat.reduceEqDiff, rg, ow_138]
  refine hK _ _ ?_; clear hK K
  have s1 := n1.size
  have X2 : Ext noF w w2 := n1.ext.tr n2.ext
  have ra := iX_at (n2.ext.row (show Row w1 w.heap.size 0 (E.cel a) from n1.row) fun _ _ h => h)
  have rb := iX_at (show Row w2 w1.heap.size 0 (E.cel b) from n2.row)
  obtain ⟨lv, hlv, hless, hBm⟩ := id (hL.ext0 X2)
  have A1 := in1 m w.heap.size w1.heap.size w.heap.size
  have A2 := in2 m w.heap.size w1.heap.size w.heap.size
  have A3 := in3 m w.heap.size w1.heap.size w.heap.size
  have hml := rd_lt hlv
  have s2 := n2.size
  refine W_sq fun K hK => (W_draw (some (some [m, w.heap.size, w1.heap.size, w.heap.size])) none [(0, 0, 0), (0, 1, 0), (0, 2, 0), (0, 3, 0), (0, 4, 0), (0, 5, 0), (1, 6, 0), (0, 7, 0)] mixed (by kernel_rfl) ?_); simp only [↓List.toList_toArray, ↓rgd, ↓rgf, ↓reduceIte, Nat.reduceEqDiff, rg, ow_138, e0, ptr_eq, hlv, ra, rb, A1, A2, A3]
  refine do_callW (by simp only [evt, evc, upd_eq, Nat.reduceEqDiff, ↓reduceIte, ntT, ntF] <;> rfl) (by simp only [evt, evc, upd_eq, Nat.reduceEqDiff, ↓reduceIte, maT, maC, maN, isnN, isnS] <;> rfl) (before_any B lv ord a b _ (hless.ext (Ext.dr noF _ _) fun _ _ g => g.elim)) ?_
  rintro _ w3 ⟨rfl, x3⟩
  refine ⟨.inr (keep4 x3 ⟨by rw [sz_dr]; omega, fun _ g => g⟩ ⟨by rw [sz_dr]; omega, fun _ g => g⟩ ⟨by rw [sz_dr]; omega, fun _ g => g⟩ ⟨by rw [sz_dr]; omega, fun _ g => g⟩), ?_⟩
  simp only [↓List.toList_toArray, ↓rgd, ↓rgf, ↓reduceIte, Nat.reduceEqDiff, rg, ow_138]
  refine hK _ _ ?_; clear hK K
  exact W_ret (endQ_1 (by simp only [upd_eq, Nat.reduceEqDiff, ↓reduceIte] <;> rfl) ⟨rfl, X2.tr x3.od⟩)
set_option maxHeartbeats 400000 in
theorem hi_sub (hi : Nat) (h : hi < 4611686018427387904) : IntKind.i64.wrap ((hi : Int) - 1) = (hi : Int) - 1 := IntWalk.i64_in _ (by omega)
theorem hi_add (hi : Nat) (h : hi < 4611686018427387904) : IntKind.i64.wrap ((hi : Int) - 1 + 1) = (hi : Int) := by rw [IntWalk.i64_in _ (by omega)]; omega
theorem u8_i64 (p : Nat) (h : p < 256) : IntKind.i64.wrap (p : Int) = p := IntWalk.i64_in _ (by omega)
set_option maxHeartbeats 1600000 in
set_option maxRecDepth 8000 in
theorem hint_any (B m b bi oi cap : Nat) (ord : List Int) (ks : List It) (x : It) (ch : Option Addr) (hb dep : Nat) (w : World) (hL : Ls B m w ord) (h2 : rd w b 2 = some (.slice (some ⟨bi, oi, none⟩) ks.length cap)) (h3 : rd w b 3 = some (.pointer ch))
    (row : Row w bi oi (flat E ks)) (hbi : bi < w.heap.size) (hlen : ks.length < 4611686018427387904) (hpos : 0 < ks.length) (ha : Asc O (rkI ord) ks) (hH : HintAt w hb) (hne : hb ≠ b) :
    CallK Try.prog 129 #[ptr m, ptr b, itV x, ptr hb, .int .i64 dep] w fun v w' => v = srchG ord ks x ∧ Ext (hF (some hb)) w w' ∧ HintAt w' hb := by
  refine calls_of_W [.tmp 10, .tmp 11] Try.func129 rfl Try.ntmps129 Try.results129 (by simp) fun e he => ?_
  have e0 : e 0 = ptr m := he 0 _ rfl
  have e1 : e 1 = ptr b := he 1 _ rfl
  have e2 : e 2 = itV x := he 2 _ rfl
  have e3 : e 3 = ptr hb := he 3 _ rfl
  have e4 : e 4 = .int .i64 dep := he 4 _ rfl
  clear he
  refine W_sq fun K hK => (W_text [false, true, true] (by kernel_rfl) ?_); simp only [↓List.toList_toArray, ↓rgd, ↓rgf, ↓reduceIte, Nat.reduceEqDiff, rg, ow_129]
  refine do_box (by simp only [evt]; exact e2) fun w1 n1 => ⟨trivial, ?_⟩
  simp only [↓List.toList_toArray, ↓rgd, ↓rgf, ↓reduceIte, Nat.reduceEqDiff, rg, ow_129]
  refine hK _ _ ?_; clear hK K
  have s1 := n1.size
  have bx1 : Row w1 w.heap.size 0 (E.cel x) := n1.row
  have h2 := n1.ext.rd h2 fun g => g
  have h3 := n1.ext.rd h3 fun g => g
  have row := n1.ext.row row fun _ _ g => g
  have hL := hL.ext0 n1.ext
  have hbl := rd_lt h2
  have hH := hH.ext n1.ext fun _ g => g
  have hhl := wok_lt hH.wok
  have X1 := n1.ext
  clear n1
  obtain ⟨q, hq⟩ : ∃ q, q = w.heap.size := ⟨_, rfl⟩
  rw [← hq] at bx1 s1 ⊢
  obtain ⟨-, -, -, hBm⟩ := id hL
  have hml : m < w1.heap.size := by obtain ⟨lv, hlv, -⟩ := id hL; exact rd_lt hlv
  refine W_fwd 0 (fun e w' => Ext noF w1 w' ∧ e 1 = ptr b ∧ e 3 = ptr hb ∧ e 4 = .int .i64 dep ∧ e 10 = .int .i64 (lb O (rkI ord) (rkI ord x) ks : Nat) ∧ e 11 = .bool (hit O (rkI ord) (rkI ord x) ks)) rfl ?_ ?_
  · clear e0 e1 e2 e3 e4 e
    rintro e w' ⟨XW, e1, e3, e4, e10, e11⟩
    have XX : Ext noF w w' := X1.tr XW
    have hH' := hH.ext XW fun _ g => g
    have h3' := XW.rd h3 fun g => g
    have h2' := XW.rd h2 fun g => g
    have hn0 : ∀ o, ¬ rng hb o 1 b 3 := fun o g => hne g.1.symm
    refine W_sqx fun K hK => ?_
    have hend : ∀ (e : Env) (w2 : World), e 10 = .int .i64 (lb O (rkI ord) (rkI ord x) ks : Nat) → e 11 = .bool (hit O (rkI ord) (rkI ord x) ks) → Ext (hF (some hb)) w w2 → HintAt w2 hb → K e w2 := by
      intro e w2 e10 e11 X H
      refine hK _ _ ?_; clear hK K
      refine W_sq fun K hK => (W_text [true, true, true, true] (by kernel_rfl) ?_); simp only [↓List.toList_toArray, ↓rgd, ↓rgf, ↓reduceIte, Nat.reduceEqDiff, rg, ow_129, e10, e11]
      refine hK _ _ ?_; clear hK K
      refine W_ret ?_
      rw [jump_ret]
      exact endQ_2 (by simp only [upd_eq, Nat.reduceEqDiff, ↓reduceIte]) (by simp only [upd_eq, Nat.reduceEqDiff, ↓reduceIte]) ⟨rfl, X.tr (Ext.dr _ _ _), H.ext (Ext.dr noF _ _) fun _ g => g⟩
    clear hK
    have XH : Ext (hF (some hb)) w w' := XX.mono fun _ _ _ g => g.elim
    by_cases hd : dep < 8
    · have td : decide ((dep : Int) < 8) = true := by simp; omega
      refine W_sq fun K hK => (W_text [true, true] (by kernel_rfl) ?_); simp only [↓List.toList_toArray, ↓rgd, ↓rgf, ↓reduceIte, Nat.reduceEqDiff, rg, ow_129, e4, td]
      refine hK _ _ ?_; clear hK K
      refine W_true (by simp only [evt, evc, upd_eq, Nat.reduceEqDiff, ↓reduceIte, ntT, ntF] <;> rfl) ?_
      refine W_sq fun K hK => (W_text [true, true, true, true, true, false] (by kernel_rfl) ?_); simp only [↓List.toList_toArray, ↓rgd, ↓rgf, ↓reduceIte, Nat.reduceEqDiff, rg, ow_129, e3, e4, ptr_eq, idx_ar, idxA_s, hd]
      refine do_store (v := .bool true) (by simp only [evt, evc, upd_eq, Nat.reduceEqDiff, ↓reduceIte, ntT, ntF] <;> rfl) (by simp only [evt, evc, upd_eq, Nat.reduceEqDiff, ↓reduceIte, ntT, ntF] <;> rfl) sz_4 rfl hH'.wok (by omega) (oc_one rfl rfl) fun w2 x2 r2 s2 => ⟨trivial, ?_⟩
      simp only [↓List.toList_toArray, ↓rgd, ↓rgf, ↓reduceIte, Nat.reduceEqDiff, rg, ow_129]
      refine hK _ _ ?_; clear hK K
      have hH2 := hH'.setU x2 (Row.cons.1 r2).1 hd
      have XH2 := XH.trans x2 (fun _ _ g => g) fun y o _ g => (show hF (some hb) y o from by rw [g.1]; rfl)
      have h3'' : rd w2 b 3 = some (.pointer ch) := x2.rd h3' fun g => hne g.1.symm
      refine W_sq fun K hK => (W_text [true] (by kernel_rfl) ?_); simp only [↓List.toList_toArray, ↓rgd, ↓rgf, ↓reduceIte, Nat.reduceEqDiff, rg, ow_129]
      refine hK _ _ ?_; clear hK K
      refine W_sqx fun K hK => ?_
      have hst : ∀ (e : Env) (k p : Nat), p < 256 → e 3 = ptr hb → e 4 = .int .i64 dep → e 10 = .int .i64 (lb O (rkI ord) (rkI ord x) ks : Nat) → e 11 = .bool (hit O (rkI ord) (rkI ord x) ks) → e 15 = .int .u8 p → K e (dr w2 k) := by
        intro e k p hp e3 e4 e10 e11 e15
        refine hK _ _ ?_; clear hK K
        obtain ⟨p0, hp0, hr0⟩ := hH2.path dep hd
        by_cases hpe : p = p0
        · have tp : ((p : Int) != (p0 : Int)) = false := by simp; omega
          refine W_sq fun K hK => (W_text [true, true, true, true, true, true, true, true] (by kernel_rfl) ?_); simp only [↓List.toList_toArray, ↓rgd, ↓rgf, ↓reduceIte, Nat.reduceEqDiff, rg, ow_129, e3, e4, e15, ptr_eq, idx_ar, idxA_s, hd, hr0, tp]
          refine hK _ _ ?_; clear hK K
          refine W_false (by simp only [evt, evc, upd_eq, Nat.reduceEqDiff, ↓reduceIte, ntT, ntF] <;> rfl) (W_skip ?_)
          simp only [andThen_normal]
          exact hend _ _ (by simp only [upd_eq, Nat.reduceEqDiff, ↓reduceIte]; exact e10) (by simp only [upd_eq, Nat.reduceEqDiff, ↓reduceIte]; exact e11) (XH2.tr (Ext.dr _ _ _)) (hH2.ext (Ext.dr noF _ _) fun _ g => g)
        · have tp : ((p : Int) != (p0 : Int)) = true := by simp; omega
          refine W_sq fun K hK => (W_text [true, true, true, true, true, true, true, true] (by kernel_rfl) ?_); simp only [↓List.toList_toArray, ↓rgd, ↓rgf, ↓reduceIte, Nat.reduceEqDiff, rg, ow_129, e3, e4, e15, ptr_eq, idx_ar, idxA_s, hd, hr0, tp]
          refine hK _ _ ?_; clear hK K
          refine W_true (by simp only [evt, evc, upd_eq, Nat.reduceEqDiff, ↓reduceIte, ntT, ntF] <;> rfl) ?_
          refine W_sq fun K hK => (W_text [true, true, true, true, true, true, false] (by kernel_rfl) ?_); simp only [↓List.toList_toArray, ↓rgd, ↓rgf, ↓reduceIte, Nat.reduceEqDiff, rg, ow_129, e3, e4, e15, ptr_eq, idx_ar, idxA_s, hd]
          refine do_store (v := .int .u8 p) (by simp only [evt, evc, upd_eq, Nat.reduceEqDiff, ↓reduceIte, ntT, ntF] <;> rfl) (by simp only [evt, evc, upd_eq, Nat.reduceEqDiff, ↓reduceIte, ntT, ntF] <;> rfl) sz_5 rfl hH2.wok (by omega) (oc_one rfl rfl) fun w3 x3 r3 s3 => ⟨trivial, ?_⟩
          simp only [↓List.toList_toArray, ↓rgd, ↓rgf, ↓reduceIte, Nat.reduceEqDiff, rg, ow_129]
          refine hK _ _ ?_; clear hK K
          have hH3 := hH2.setP x3.od (Row.cons.1 r3).1 hp
          have XH3 := XH2.trans x3.od (fun _ _ g => g) fun y o _ g => (show hF (some hb) y o from by rw [g.1]; rfl)
          have q1 := wadd1 dep (by omega)
          refine W_sq fun K hK => (W_text [true, true, true] (by kernel_rfl) ?_); simp only [↓List.toList_toArray, ↓rgd, ↓rgf, ↓reduceIte, Nat.reduceEqDiff, rg, ow_129, e4, q1]
          refine hK _ _ ?_; clear hK K
          refine W_block (W_loop (fun mm e w' => ∃ i : Nat, mm = 8 - i ∧ e 3 = ptr hb ∧ e 10 = .int .i64 (lb O (rkI ord) (rkI ord x) ks : Nat) ∧ e 11 = .bool (hit O (rkI ord) (rkI ord x) ks) ∧ e 16 = .int .i64 i ∧ Ext (hF (some hb)) w w' ∧ HintAt w' hb)
            (8 - (dep + 1)) ⟨dep + 1, rfl, by simp only [upd_eq, Nat.reduceEqDiff, ↓reduceIte]; exact e3, by simp only [upd_eq, Nat.reduceEqDiff, ↓reduceIte]; exact e10, by simp only [upd_eq, Nat.reduceEqDiff, ↓reduceIte]; exact e11, by simp only [upd_eq, Nat.reduceEqDiff, ↓reduceIte], XH3.tr (Ext.dr _ _ _), hH3.ext (Ext.dr noF _ _) fun _ g => g⟩ ?_)
          clear e3 e4 e10 e11 e15 e XH3 hH3 XH2
          rintro mm e w' ⟨i, rfl, e3, e10, e11, e16, XL, hL'⟩
          refine W_seq ?_
          by_cases hi : i < 8
          · have ti : decide ((i : Int) < 8) = true := by simp; omega
            refine W_sq fun K hK => (W_text [true, true] (by kernel_rfl) ?_); simp only [↓List.toList_toArray, ↓rgd, ↓rgf, ↓reduceIte, Nat.reduceEqDiff, rg, ow_129, e16, ti]
            refine hK _ _ ?_; clear hK K
            refine W_true (by simp only [evt, evc, upd_eq, Nat.reduceEqDiff, ↓reduceIte, ntT, ntF] <;> rfl) (W_skip ?_)
            show W _ _ _ _ _ _
            refine W_seq (W_block ?_)
            refine W_rg fun K hK => (W_text [true, true, true, true, true, false] (by kernel_rfl) ?_); simp only [↓List.toList_toArray, ↓rgd, ↓rgf, ↓reduceIte, Nat.reduceEqDiff, rg, ow_129, e3, e16, ptr_eq, idx_ar, idxA_s, hi]
            refine do_store (v := .bool false) (by simp only [evt, evc, upd_eq, Nat.reduceEqDiff, ↓reduceIte, ntT, ntF] <;> rfl) (by simp only [evt, evc, upd_eq, Nat.reduceEqDiff, ↓reduceIte, ntT, ntF] <;> rfl) sz_4 rfl hL'.wok (by omega) (oc_one rfl rfl) fun w4 x4 r4 s4 => ⟨trivial, ?_⟩
            simp only [↓List.toList_toArray, ↓rgd, ↓rgf, ↓reduceIte, Nat.reduceEqDiff, rg, ow_129]
            refine hK _ _ ?_; clear hK K
            show W _ _ _ _ _ _
            have q2 := wadd1 i (by omega)
            refine W_rg fun K hK => (W_text [true, true, true] (by kernel_rfl) ?_); simp only [↓List.toList_toArray, ↓rgd, ↓rgf, ↓reduceIte, Nat.reduceEqDiff, rg, ow_129, e16, q2]
            refine hK _ _ ?_; clear hK K
            refine ⟨_, ?_, i + 1, rfl, by simp only [upd_eq, Nat.reduceEqDiff, ↓reduceIte]; exact e3, by simp only [upd_eq, Nat.reduceEqDiff, ↓reduceIte]; exact e10, by simp only [upd_eq, Nat.reduceEqDiff, ↓reduceIte]; exact e11, by simp only [upd_eq, Nat.reduceEqDiff, ↓reduceIte], (XL.trans x4.od (fun _ _ g => g) fun y o _ g => (show hF (some hb) y o from by rw [g.1]; rfl)).tr (Ext.dr _ _ _), (hL'.setU x4.od (Row.cons.1 r4).1 hi).ext (Ext.dr noF _ _) fun _ g => g⟩
            omega
          · have ti : decide ((i : Int) < 8) = false := by simp; omega
            refine W_sq fun K hK => (W_text [true, true] (by kernel_rfl) ?_); simp only [↓List.toList_toArray, ↓rgd, ↓rgf, ↓reduceIte, Nat.reduceEqDiff, rg, ow_129, e16, ti]
            refine hK _ _ ?_; clear hK K
            refine W_false (by simp only [evt, evc, upd_eq, Nat.reduceEqDiff, ↓reduceIte, ntT, ntF] <;> rfl) (W_exit ?_)
            simp only [andThen_exit, inBlk_exit, andThen_normal, ↓reduceIte]
            exact hend _ _ (by simp only [upd_eq, Nat.reduceEqDiff, ↓reduceIte]; exact e10) (by simp only [upd_eq, Nat.reduceEqDiff, ↓reduceIte]; exact e11) (XL.tr (Ext.dr _ _ _)) (hL'.ext (Ext.dr noF _ _) fun _ g => g)
      clear hK
      obtain ⟨p1, hp1, hp1'⟩ := u8_of (IntKind.i64.wrap ((lb O (rkI ord) (rkI ord x) ks : Nat) + 1))
      obtain ⟨p2, hp2, hp2'⟩ := u8_of (lb O (rkI ord) (rkI ord x) ks : Nat)
      cases hci : ch.isNone with
      | true =>
        refine W_sq fun K hK => (W_text [true, false, true, true, true] (by kernel_rfl) ?_); simp only [↓List.toList_toArray, ↓rgd, ↓rgf, ↓reduceIte, Nat.reduceEqDiff, rg, ow_129, e1]
        refine do_call fn_108 (by simp only [evt, evc, upd_eq, Nat.reduceEqDiff, ↓reduceIte, maT, maC, maN, isnN, isnS] <;> rfl) (leaf_any b ch w2 h3'') ?_
        rintro _ w3 ⟨rfl, hw3⟩
        obtain rfl : w2 = w3 := hw3.symm
        refine ⟨trivial, ?_⟩
        cases hht : hit O (rkI ord) (rkI ord x) ks with
        | true =>
          simp only [↓List.toList_toArray, ↓rgd, ↓rgf, ↓reduceIte, Nat.reduceEqDiff, rg, ow_129, hci, e11, hht]
          refine hK _ _ ?_; clear hK K
          refine W_true (by simp only [evt, evc, upd_eq, Nat.reduceEqDiff, ↓reduceIte, ntT, ntF] <;> rfl) ?_
          refine W_rg fun K hK => (W_text [true, true, true, true] (by kernel_rfl) ?_); simp only [↓List.toList_toArray, ↓rgd, ↓rgf, ↓reduceIte, Nat.reduceEqDiff, rg, ow_129, e10, hp1]
          refine hK _ _ ?_; clear hK K
          simp only [andThen_normal]
          exact hst _ _ p1 hp1' (by simp only [upd_eq, Nat.reduceEqDiff, ↓reduceIte]; exact e3) (by simp only [upd_eq, Nat.reduceEqDiff, ↓reduceIte]; exact e4) (by simp only [upd_eq, Nat.reduceEqDiff, ↓reduceIte]; exact e10) (by simp only [upd_eq, Nat.reduceEqDiff, ↓reduceIte]; exact e11) (by simp only [upd_eq, Nat.reduceEqDiff, ↓reduceIte])
        | false =>
          simp only [↓List.toList_toArray, ↓rgd, ↓rgf, ↓reduceIte, Nat.reduceEqDiff, rg, ow_129, hci, e11, hht]
          refine hK _ _ ?_; clear hK K
          refine W_false (by simp only [evt, evc, upd_eq, Nat.reduceEqDiff, ↓reduceIte, ntT, ntF] <;> rfl) ?_
          refine W_rg fun K hK => (W_text [true, true, true] (by kernel_rfl) ?_); simp only [↓List.toList_toArray, ↓rgd, ↓rgf, ↓reduceIte, Nat.reduceEqDiff, rg, ow_129, e10, hp2]
          refine hK _ _ ?_; clear hK K
          simp only [andThen_normal]
          exact hst _ _ p2 hp2' (by simp only [upd_eq, Nat.reduceEqDiff, ↓reduceIte]; exact e3) (by simp only [upd_eq, Nat.reduceEqDiff, ↓reduceIte]; exact e4) (by simp only [upd_eq, Nat.reduceEqDiff, ↓reduceIte]; exact e10) (by simp only [upd_eq, Nat.reduceEqDiff, ↓reduceIte]; exact e11) (by simp only [upd_eq, Nat.reduceEqDiff, ↓reduceIte])
      | false =>
        refine W_sq fun K hK => (W_text [true, false, true, true, true] (by kernel_rfl) ?_); simp only [↓List.toList_toArray, ↓rgd, ↓rgf, ↓reduceIte, Nat.reduceEqDiff, rg, ow_129, e1]
        refine do_call fn_108 (by simp only [evt, evc, upd_eq, Nat.reduceEqDiff, ↓reduceIte, maT, maC, maN, isnN, isnS] <;> rfl) (leaf_any b ch w2 h3'') ?_
        rintro _ w3 ⟨rfl, hw3⟩
        obtain rfl : w2 = w3 := hw3.symm
        refine ⟨trivial, ?_⟩
        simp only [↓List.toList_toArray, ↓rgd, ↓rgf, ↓reduceIte, Nat.reduceEqDiff, rg, ow_129, hci]
        refine hK _ _ ?_; clear hK K
        refine W_false (by simp only [evt, evc, upd_eq, Nat.reduceEqDiff, ↓reduceIte, ntT, ntF] <;> rfl) ?_
        refine W_rg fun K hK => (W_text [true, true, true] (by kernel_rfl) ?_); simp only [↓List.toList_toArray, ↓rgd, ↓rgf, ↓reduceIte, Nat.reduceEqDiff, rg, ow_129, e10, hp2]
        refine hK _ _ ?_; clear hK K
        simp only [andThen_normal]
        exact hst _ _ p2 hp2' (by simp only [upd_eq, Nat.reduceEqDiff, ↓reduceIte]; exact e3) (by simp only [upd_eq, Nat.reduceEqDiff, ↓reduceIte]; exact e4) (by simp only [upd_eq, Nat.reduceEqDiff, ↓reduceIte]; exact e10) (by simp only [upd_eq, Nat.reduceEqDiff, ↓reduceIte]; exact e11) (by simp only [upd_eq, Nat.reduceEqDiff, ↓reduceIte])
    · have td : decide ((dep : Int) < 8) = false := by simp; omega
      refine W_sq fun K hK => (W_text [true, true] (by kernel_rfl) ?_); simp only [↓List.toList_toArray, ↓rgd, ↓rgf, ↓reduceIte, Nat.reduceEqDiff, rg, ow_129, e4, td]
      refine hK _ _ ?_; clear hK K
      refine W_false (by simp only [evt, evc, upd_eq, Nat.reduceEqDiff, ↓reduceIte, ntT, ntF] <;> rfl) (W_skip ?_)
      simp only [andThen_normal]
      exact hend _ _ (by simp only [upd_eq, Nat.reduceEqDiff, ↓reduceIte]; exact e10) (by simp only [upd_eq, Nat.reduceEqDiff, ↓reduceIte]; exact e11) (XH.tr (Ext.dr _ _ _)) (hH'.ext (Ext.dr noF _ _) fun _ g => g)
  · intro hon
    refine W_sq fun K hK => (W_text [true] (by kernel_rfl) ?_); simp only [↓List.toList_toArray, ↓rgd, ↓rgf, ↓reduceIte, Nat.reduceEqDiff, rg, ow_129]
    refine hK _ _ ?_; clear hK K
    have q0 := hi_sub ks.length hlen
    refine W_sq fun K hK => (W_text [true, true, true, true, true, true, true] (by kernel_rfl) ?_); simp only [↓List.toList_toArray, ↓rgd, ↓rgf, ↓reduceIte, Nat.reduceEqDiff, rg, ow_129, e1, ptr_eq, h2, q0]
    refine hK _ _ ?_; clear hK K
    refine W_sqx fun K hK => ?_
    have hloop : ∀ (e : Env) (w' : World) (lo hi : Nat), Ext noF w1 w' → lo ≤ hi → hi ≤ ks.length → e 0 = ptr m → e 1 = ptr b → e 3 = ptr hb → e 4 = .int .i64 dep → e 7 = ptr q → e 12 = .int .i64 lo → e 13 = .int .i64 ((hi : Int) - 1) →
        (∀ i y, i < lo → ks[i]? = some y → O.lt (rkI ord x) (rkI ord y) = false) → (∀ i y, hi ≤ i → ks[i]? = some y → O.lt (rkI ord x) (rkI ord y) = true) → K e w' := by
      clear e0 e1 e2 e3 e4 e
      intro e w' lo hi XW hle hhi e0 e1 e3 e4 e7 e12 e13 hlo hup
      refine hK _ _ ?_; clear hK K
      refine W_seq ?_
      refine W_block (W_loop (fun mm e w' => Ext noF w1 w' ∧ ∃ lo hi : Nat, mm = hi - lo ∧ lo ≤ hi ∧ hi ≤ ks.length ∧ e 0 = ptr m ∧ e 1 = ptr b ∧ e 3 = ptr hb ∧ e 4 = .int .i64 dep ∧ e 7 = ptr q ∧ e 12 = .int .i64 lo ∧ e 13 = .int .i64 ((hi : Int) - 1) ∧
        (∀ i y, i < lo → ks[i]? = some y → O.lt (rkI ord x) (rkI ord y) = false) ∧ (∀ i y, hi ≤ i → ks[i]? = some y → O.lt (rkI ord x) (rkI ord y) = true)) (hi - lo) ⟨XW, lo, hi, rfl, hle, hhi, e0, e1, e3, e4, e7, e12, e13, hlo, hup⟩ ?_)
      clear e0 e1 e3 e4 e7 e12 e13 e XW hle hhi hlo hup w' lo hi
      rintro mm e w' ⟨XW, lo, hi, rfl, hle, hhi, e0, e1, e3, e4, e7, e12, e13, hlo, hup⟩
      have sw := XW.size
      have h2' := XW.rd h2 fun g => g
      have row' := XW.row row fun _ _ g => g
      have bx' := iX_at (XW.row bx1 fun _ _ g => g)
      have hL' := hL.ext0 XW
      refine W_seq ?_
      by_cases hlt : lo < hi
      · have ht : decide ((lo : Int) ≤ (hi : Int) - 1) = true := by simp; omega
        refine W_sq fun K hK => (W_text [true, true, true] (by kernel_rfl) ?_); simp only [↓List.toList_toArray, ↓rgd, ↓rgf, ↓reduceIte, Nat.reduceEqDiff, rg, ow_129, e12, e13, ht]
        refine hK _ _ ?_; clear hK K
        refine W_true (by simp only [evt, evc, upd_eq, Nat.reduceEqDiff, ↓reduceIte, ntT, ntF] <;> rfl) (W_skip ?_)
        show W _ _ _ _ _ _
        have q1 := hi_add hi (by omega)
        have q2 := wsub hi lo hle (by omega)
        have q3 := wdiv2 (hi - lo) (by omega)
        have q4 := wadd lo ((hi - lo) / 2) (by omega)
        refine W_block ?_
        refine W_sq fun K hK => (W_text [true, true, true, true, true, true, true, true] (by kernel_rfl) ?_); simp only [↓List.toList_toArray, ↓rgd, ↓rgf, ↓reduceIte, Nat.reduceEqDiff, rg, ow_129, e12, e13, q1, q2, q3, q4]
        refine hK _ _ ?_; clear hK K
        obtain ⟨md, hmd⟩ : ∃ md, md = lo + (hi - lo) / 2 := ⟨_, rfl⟩
        rw [← hmd]
        obtain ⟨y, hy⟩ : ∃ y, ks[md]? = some y := ⟨_, List.getElem?_eq_getElem (by omega)⟩
        have hk := it_at row' hy
        have hi1 : md < ks.length := by omega
        refine W_sq fun K hK => (W_free (some none) (.take 0 (.take 1 (.take 2 (.take 3 (.take 4 (.take 5 (.take 6 (.take 7 (.take 8 (.bar 9 (.take 10 .nil))))))))))) mixed (by kernel_rfl) ?_); simp only [↓List.toList_toArray, ↓rgd, ↓rgf, ↓reduceIte, Nat.reduceEqDiff, rg, ow_129, e0, e1, e7, ptr_eq, h2', hi1, hk, bx']
        refine do_call fn_138 (by simp only [evt, evc, upd_eq, Nat.reduceEqDiff, ↓reduceIte, maT, maC, maN, isnN, isnS] <;> rfl) (less_any B m ord x y _ (hL'.ext0 (Ext.dr noF _ _))) ?_
        rintro _ w2 ⟨rfl, x2⟩
        refine ⟨trivial, ?_⟩
        simp only [↓List.toList_toArray, ↓rgd, ↓rgf, ↓reduceIte, Nat.reduceEqDiff, rg, ow_129]
        refine hK _ _ ?_; clear hK K
        have X2 := XW.tr x2.od
        cases hq : O.lt (rkI ord x) (rkI ord y) with
        | true =>
          refine W_false (by simp only [evt, upd_eq, ↓reduceIte, ntT, ntF]) ?_
          have e5 := hi_sub md (by omega)
          refine W_rg fun K hK => (W_text [true, true, true] (by kernel_rfl) ?_); simp only [↓List.toList_toArray, ↓rgd, ↓rgf, ↓reduceIte, Nat.reduceEqDiff, rg, ow_129, e5]
          refine hK _ _ ?_; clear hK K
          refine ⟨_, ?_, X2.tr (Ext.dr _ _ _), lo, md, rfl, by omega, by omega, ?_, ?_, ?_, ?_, ?_, ?_, ?_, hlo, ?_⟩
          · omega
          · simp only [upd_eq, Nat.reduceEqDiff, ↓reduceIte]; exact e0
          · simp only [upd_eq, Nat.reduceEqDiff, ↓reduceIte]; exact e1
          · simp only [upd_eq, Nat.reduceEqDiff, ↓reduceIte]; exact e3
          · simp only [upd_eq, Nat.reduceEqDiff, ↓reduceIte]; exact e4
          · simp only [upd_eq, Nat.reduceEqDiff, ↓reduceIte]; exact e7
          · simp only [upd_eq, Nat.reduceEqDiff, ↓reduceIte]; exact e12
          · simp only [upd_eq, Nat.reduceEqDiff, ↓reduceIte]
          · intro i z hi' hz
            by_cases he : i = md
            · subst he; rw [hy] at hz; cases hz; exact hq
            · have hsp := List.pairwise_iff_getElem.1 ha md i (by omega) (List.getElem?_eq_some_iff.1 hz).1 (by omega)
              rw [(List.getElem?_eq_some_iff.1 hy).2, (List.getElem?_eq_some_iff.1 hz).2] at hsp
              exact O.tr _ _ _ hq hsp
        | false =>
          refine W_true (by simp only [evt, upd_eq, ↓reduceIte, ntT, ntF]) ?_
          have e5 := wadd1 md (by omega)
          refine W_rg fun K hK => (W_text [true, true, true] (by kernel_rfl) ?_); simp only [↓List.toList_toArray, ↓rgd, ↓rgf, ↓reduceIte, Nat.reduceEqDiff, rg, ow_129, e5]
          refine hK _ _ ?_; clear hK K
          refine ⟨_, ?_, X2.tr (Ext.dr _ _ _), md + 1, hi, rfl, by omega, by omega, ?_, ?_, ?_, ?_, ?_, ?_, ?_, ?_, hup⟩
          · omega
          · simp only [upd_eq, Nat.reduceEqDiff, ↓reduceIte]; exact e0
          · simp only [upd_eq, Nat.reduceEqDiff, ↓reduceIte]; exact e1
          · simp only [upd_eq, Nat.reduceEqDiff, ↓reduceIte]; exact e3
          · simp only [upd_eq, Nat.reduceEqDiff, ↓reduceIte]; exact e4
          · simp only [upd_eq, Nat.reduceEqDiff, ↓reduceIte]; exact e7
          · simp only [upd_eq, Nat.reduceEqDiff, ↓reduceIte]
          · simp only [upd_eq, Nat.reduceEqDiff, ↓reduceIte]; exact e13
          · intro i z hi' hz
            by_cases he : i = md
            · subst he; rw [hy] at hz; cases hz; exact hq
            · have hsp := List.pairwise_iff_getElem.1 ha i md (List.getElem?_eq_some_iff.1 hz).1 (by omega) (by omega)
              rw [(List.getElem?_eq_some_iff.1 hy).2, (List.getElem?_eq_some_iff.1 hz).2] at hsp
              cases hqy : O.lt (rkI ord x) (rkI ord z) with
              | false => rfl
              | true => have := O.tr _ _ _ hqy hsp; rw [hq] at this; cases this
      · obtain rfl : lo = hi := by omega
        have ht : decide ((lo : Int) ≤ (lo : Int) - 1) = false := by simp; omega
        refine W_sq fun K hK => (W_text [true, true, true] (by kernel_rfl) ?_); simp only [↓List.toList_toArray, ↓rgd, ↓rgf, ↓reduceIte, Nat.reduceEqDiff, rg, ow_129, e12, e13, ht]
        refine hK _ _ ?_; clear hK K
        refine W_false (by simp only [evt, evc, upd_eq, Nat.reduceEqDiff, ↓reduceIte, ntT, ntF] <;> rfl) (W_exit ?_)
        simp only [andThen_exit, inBlk_exit, andThen_normal, ↓reduceIte]
        refine W_sqx fun K hK => ?_
        have hlab : ∀ (e : Env) (w' : World), Ext noF w1 w' → e 1 = ptr b → e 3 = ptr hb → e 4 = .int .i64 dep → e 10 = .int .i64 (lb O (rkI ord) (rkI ord x) ks : Nat) → e 11 = .bool (hit O (rkI ord) (rkI ord x) ks) → K e w' :=
          fun e w' X g1 g3 g4 g10 g11 => hK _ _ (W_seq (W_label (by
            simp only [andThen_normal]
            exact hon _ _ ⟨X, g1, g3, g4, g10, g11⟩)))
        clear hK
        by_cases h00 : 0 < lo
        · obtain ⟨y, hy⟩ : ∃ y, ks[lo - 1]? = some y := ⟨_, List.getElem?_eq_getElem (by omega)⟩
          have hk := it_at row' hy
          have hi1 : lo - 1 < ks.length := by omega
          have e5 := wsub1 lo h00 (by omega)
          have ht0 : decide (0 < (lo : Int)) = true := by simp; omega
          refine W_sq fun K hK => (W_free (some none) (.take 0 (.take 1 (.take 2 (.take 3 (.take 4 (.take 5 (.take 6 (.take 7 (.take 8 (.take 9 (.take 10 (.take 11 (.take 12 (.bar 13 (.take 14 (.take 15 .nil)))))))))))))))) mixed (by kernel_rfl) ?_); simp only [↓List.toList_toArray, ↓rgd, ↓rgf, ↓reduceIte, Nat.reduceEqDiff, rg, ow_129, e0, e1, e7, e12, ptr_eq, h2', hi1, hk, bx', ht0, e5]
          refine do_call fn_138 (by simp only [evt, evc, upd_eq, Nat.reduceEqDiff, ↓reduceIte, maT, maC, maN, isnN, isnS] <;> rfl) (less_any B m ord y x _ (hL'.ext0 (Ext.dr noF _ _))) ?_
          rintro _ w2 ⟨rfl, x2⟩
          refine ⟨trivial, ?_⟩
          simp only [↓List.toList_toArray, ↓rgd, ↓rgf, ↓reduceIte, Nat.reduceEqDiff, rg, ow_129]
          refine hK _ _ ?_; clear hK K
          have X2 := XW.tr x2.od
          cases hq : O.lt (rkI ord y) (rkI ord x) with
          | true =>
            obtain ⟨f1, f2⟩ := missed_at O (rkI ord) ha (q := rkI ord x) (u := lo) hhi (fun z hz => hup lo z (Nat.le_refl _) hz) (fun z _ hz => by rw [hy] at hz; cases hz; exact hq)
            refine W_false (by simp only [evt, upd_eq, ↓reduceIte, ntT, ntF]) ?_
            refine W_sq fun K hK => (W_text [true, true] (by kernel_rfl) ?_); simp only [↓List.toList_toArray, ↓rgd, ↓rgf, ↓reduceIte, Nat.reduceEqDiff, rg, ow_129, e12]
            refine hK _ _ ?_; clear hK K
            refine W_rg fun K hK => (W_text [true] (by kernel_rfl) ?_); simp only [↓List.toList_toArray, ↓rgd, ↓rgf, ↓reduceIte, Nat.reduceEqDiff, rg, ow_129]
            refine hK _ _ ?_; clear hK K
            simp only [andThen_normal]
            exact hlab _ _ (X2.tr (Ext.dr _ _ _)) (by simp only [upd_eq, Nat.reduceEqDiff, ↓reduceIte]; exact e1) (by simp only [upd_eq, Nat.reduceEqDiff, ↓reduceIte]; exact e3) (by simp only [upd_eq, Nat.reduceEqDiff, ↓reduceIte]; exact e4) (by simp only [upd_eq, Nat.reduceEqDiff, ↓reduceIte]; rw [f1]) (by simp only [upd_eq, Nat.reduceEqDiff, ↓reduceIte]; rw [f2])
          | false =>
            obtain ⟨f1, f2⟩ := found_at O (rkI ord) ha (q := rkI ord x) (u := lo) hhi hlo (fun z hz => hup lo z (Nat.le_refl _) hz) h00 hy hq
            refine W_true (by simp only [evt, upd_eq, ↓reduceIte, ntT, ntF]) ?_
            refine W_sq fun K hK => (W_text [true, true, true] (by kernel_rfl) ?_); simp only [↓List.toList_toArray, ↓rgd, ↓rgf, ↓reduceIte, Nat.reduceEqDiff, rg, ow_129, e12, e5]
            refine hK _ _ ?_; clear hK K
            refine W_rg fun K hK => (W_text [true] (by kernel_rfl) ?_); simp only [↓List.toList_toArray, ↓rgd, ↓rgf, ↓reduceIte, Nat.reduceEqDiff, rg, ow_129]
            refine hK _ _ ?_; clear hK K
            simp only [andThen_normal]
            exact hlab _ _ (X2.tr (Ext.dr _ _ _)) (by simp only [upd_eq, Nat.reduceEqDiff, ↓reduceIte]; exact e1) (by simp only [upd_eq, Nat.reduceEqDiff, ↓reduceIte]; exact e3) (by simp only [upd_eq, Nat.reduceEqDiff, ↓reduceIte]; exact e4) (by simp only [upd_eq, Nat.reduceEqDiff, ↓reduceIte]; rw [f1]) (by simp only [upd_eq, Nat.reduceEqDiff, ↓reduceIte]; rw [f2])
        · have ht0 : decide (0 < (lo : Int)) = false := by simp; omega
          refine W_sq fun K hK => (W_free (some none) (.take 0 (.take 1 (.take 2 (.take 3 (.take 4 (.take 5 (.take 6 (.take 7 (.take 8 (.take 9 (.take 10 (.take 11 (.take 12 (.bar 13 (.take 14 (.take 15 .nil)))))))))))))))) mixed (by kernel_rfl) ?_); simp only [↓List.toList_toArray, ↓rgd, ↓rgf, ↓reduceIte, Nat.reduceEqDiff, rg, ow_129, e12, ht0]
          refine hK _ _ ?_; clear hK K
          obtain ⟨f1, f2⟩ := missed_at O (rkI ord) ha (q := rkI ord x) (u := lo) hhi (fun z hz => hup lo z (Nat.le_refl _) hz) (fun z h _ => by omega)
          refine W_false (by simp only [evt, evc, upd_eq, Nat.reduceEqDiff, ↓reduceIte, ntT, ntF] <;> rfl) ?_
          refine W_sq fun K hK => (W_text [true, true] (by kernel_rfl) ?_); simp only [↓List.toList_toArray, ↓rgd, ↓rgf, ↓reduceIte, Nat.reduceEqDiff, rg, ow_129, e12]
          refine hK _ _ ?_; clear hK K
          refine W_rg fun K hK => (W_text [true] (by kernel_rfl) ?_); simp only [↓List.toList_toArray, ↓rgd, ↓rgf, ↓reduceIte, Nat.reduceEqDiff, rg, ow_129]
          refine hK _ _ ?_; clear hK K
          simp only [andThen_normal]
          exact hlab _ _ (XW.tr (Ext.dr _ _ _)) (by simp only [upd_eq, Nat.reduceEqDiff, ↓reduceIte]; exact e1) (by simp only [upd_eq, Nat.reduceEqDiff, ↓reduceIte]; exact e3) (by simp only [upd_eq, Nat.reduceEqDiff, ↓reduceIte]; exact e4) (by simp only [upd_eq, Nat.reduceEqDiff, ↓reduceIte]; rw [f1]) (by simp only [upd_eq, Nat.reduceEqDiff, ↓reduceIte]; rw [f2])
    clear hK
    by_cases hd : dep < 8
    · have td : decide ((dep : Int) < 8) = true := by simp; omega
      obtain ⟨u, hu⟩ := hH.used dep hd
      cases u with
      | false =>
        refine W_sq fun K hK => (W_text [true, true, true, true, true, true, true, true, true, true] (by kernel_rfl) ?_); simp only [↓List.toList_toArray, ↓rgd, ↓rgf, ↓reduceIte, Nat.reduceEqDiff, rg, ow_129, e3, e4, td, ptr_eq, idx_ar, idxA_s, hd, hu]
        refine hK _ _ ?_; clear hK K
        refine W_false (by simp only [evt, evc, upd_eq, Nat.reduceEqDiff, ↓reduceIte, ntT, ntF] <;> rfl) (W_skip ?_)
        simp only [andThen_normal]
        refine hloop _ _ 0 ks.length (Ext.dr _ _ _) (Nat.zero_le _) (Nat.le_refl _) (by simp only [upd_eq, Nat.reduceEqDiff, ↓reduceIte]; exact e0) (by simp only [upd_eq, Nat.reduceEqDiff, ↓reduceIte]; exact e1) (by simp only [upd_eq, Nat.reduceEqDiff, ↓reduceIte]; exact e3) (by simp only [upd_eq, Nat.reduceEqDiff, ↓reduceIte]; exact e4) (by simp only [upd_eq, Nat.reduceEqDiff, ↓reduceIte]; rfl) (by simp only [upd_eq, Nat.reduceEqDiff, ↓reduceIte]; rfl) (by simp only [upd_eq, Nat.reduceEqDiff, ↓reduceIte]) (fun i y hi => by omega) (fun i y hi hx => by have := (List.getElem?_eq_some_iff.1 hx).1; omega)
      | true =>
        refine W_sq fun K hK => (W_text [true, true, true, true, true, true, true, true, true, true] (by kernel_rfl) ?_); simp only [↓List.toList_toArray, ↓rgd, ↓rgf, ↓reduceIte, Nat.reduceEqDiff, rg, ow_129, e3, e4, td, ptr_eq, idx_ar, idxA_s, hd, hu]
        refine hK _ _ ?_; clear hK K
        refine W_true (by simp only [evt, evc, upd_eq, Nat.reduceEqDiff, ↓reduceIte, ntT, ntF] <;> rfl) ?_
        obtain ⟨p, hp, hr⟩ := hH.path dep hd
        have p1 := u8_i64 p hp
        refine W_sq fun K hK => (W_text [true, true, true, true, true, true, true, true] (by kernel_rfl) ?_); simp only [↓List.toList_toArray, ↓rgd, ↓rgf, ↓reduceIte, Nat.reduceEqDiff, rg, ow_129, e3, e4, ptr_eq, idx_ar, idxA_s, hd, hr, p1]
        refine hK _ _ ?_; clear hK K
        have hz : ∀ (i : Nat) y, ks[i]? = some y → ∀ j z, i < j → ks[j]? = some z → O.lt (rkI ord y) (rkI ord z) = true := fun i y hy j z hij hz => by
          have hsp := List.pairwise_iff_getElem.1 ha i j (List.getElem?_eq_some_iff.1 hy).1 (List.getElem?_eq_some_iff.1 hz).1 hij
          rwa [(List.getElem?_eq_some_iff.1 hy).2, (List.getElem?_eq_some_iff.1 hz).2] at hsp
        refine W_sqx fun K2 hK2 => ?_
        have hidx : ∀ (e : Env) (w' : World) (i : Nat), i < ks.length → Ext noF w1 w' → e 0 = ptr m → e 1 = ptr b → e 3 = ptr hb → e 4 = .int .i64 dep → e 7 = ptr q → e 10 = .int .i64 i → e 11 = .bool false → e 12 = .int .i64 (0 : Nat) →
            e 13 = .int .i64 ((ks.length : Int) - 1) → K2 e w' := by
          clear e0 e1 e2 e3 e4 e
          intro e w' i hi XW e0 e1 e3 e4 e7 e10 e11 e12 e13
          refine hK2 _ _ ?_; clear hK2 K2
          have sw := XW.size
          have h2' := XW.rd h2 fun g => g
          have row' := XW.row row fun _ _ g => g
          have bx' := iX_at (XW.row bx1 fun _ _ g => g)
          have hL' := hL.ext0 XW
          obtain ⟨y, hy⟩ : ∃ y, ks[i]? = some y := ⟨_, List.getElem?_eq_getElem hi⟩
          have hk := it_at row' hy
          refine W_sq fun K hK => (W_free (some none) (.take 0 (.take 1 (.take 2 (.take 3 (.take 4 (.take 5 (.take 6 (.take 7 (.take 8 (.bar 9 .nil)))))))))) mixed (by kernel_rfl) ?_); simp only [↓List.toList_toArray, ↓rgd, ↓rgf, ↓reduceIte, Nat.reduceEqDiff, rg, ow_129, e0, e1, e7, e10, ptr_eq, h2', hi, hk, bx']
          refine do_call fn_138 (by simp only [evt, evc, upd_eq, Nat.reduceEqDiff, ↓reduceIte, maT, maC, maN, isnN, isnS] <;> rfl) (less_any B m ord x y _ (hL'.ext0 (Ext.dr noF _ _))) ?_
          rintro _ w2 ⟨rfl, x2⟩
          refine ⟨trivial, ?_⟩
          simp only [↓List.toList_toArray, ↓rgd, ↓rgf, ↓reduceIte, Nat.reduceEqDiff, rg, ow_129]
          refine hK _ _ ?_; clear hK K
          have X2 := XW.tr x2.od
          have s2 := X2.size
          have h2'' := X2.rd h2 fun g => g
          have row'' := X2.row row fun _ _ g => g
          have bx'' := iX_at (X2.row bx1 fun _ _ g => g)
          have hL'' := hL.ext0 X2
          have hk2 := it_at row'' hy
          cases hq : O.lt (rkI ord x) (rkI ord y) with
          | true =>
            refine W_true (by simp only [evt, upd_eq, ↓reduceIte, ntT, ntF]) ?_
            have up : ∀ j z, i ≤ j → ks[j]? = some z → O.lt (rkI ord x) (rkI ord z) = true := fun j z hij hjz => by
              by_cases he : j = i
              · subst he; rw [hy] at hjz; cases hjz; exact hq
              · exact O.tr _ _ _ hq (hz i y hy j z (by omega) hjz)
            refine W_seq ?_
            by_cases h00 : i = 0
            · have t0 : ((i : Int) == 0) = true := by simp; omega
              refine W_sq fun K hK => (W_free (some none) (.take 0 (.take 1 (.take 2 (.take 3 (.take 4 (.take 5 (.take 6 (.take 7 (.take 8 (.take 9 (.take 10 (.take 11 (.take 12 (.bar 13 (.take 14 .nil))))))))))))))) mixed (by kernel_rfl) ?_); simp only [↓List.toList_toArray, ↓rgd, ↓rgf, ↓reduceIte, Nat.reduceEqDiff, rg, ow_129, e10, t0]
              refine hK _ _ ?_; clear hK K
              obtain ⟨f1, f2⟩ := missed_at O (rkI ord) ha (q := rkI ord x) (u := i) (by omega) (fun z hz => up i z (Nat.le_refl _) hz) (fun z h _ => by omega)
              refine W_true (by simp only [evt, evc, upd_eq, Nat.reduceEqDiff, ↓reduceIte, ntT, ntF] <;> rfl) (W_goto ?_)
              simp only [andThen_goto, jump_goto]
              exact ⟨trivial, X2.tr (Ext.dr _ _ _), (by simp only [upd_eq, Nat.reduceEqDiff, ↓reduceIte]; exact e1), (by simp only [upd_eq, Nat.reduceEqDiff, ↓reduceIte]; exact e3), (by simp only [upd_eq, Nat.reduceEqDiff, ↓reduceIte]; exact e4), (by simp only [upd_eq, Nat.reduceEqDiff, ↓reduceIte]; rw [f1]; exact e10), (by simp only [upd_eq, Nat.reduceEqDiff, ↓reduceIte]; rw [f2]; exact e11)⟩
            · have t0 : ((i : Int) == 0) = false := by simp; omega
              obtain ⟨y0, hy0⟩ : ∃ y, ks[i - 1]? = some y := ⟨_, List.getElem?_eq_getElem (by omega)⟩
              have hk0 := it_at row'' hy0
              have hi1 : i - 1 < ks.length := by omega
              have e5 := wsub1 i (by omega) (by omega)
              refine W_sq fun K hK => (W_free (some none) (.take 0 (.take 1 (.take 2 (.take 3 (.take 4 (.take 5 (.take 6 (.take 7 (.take 8 (.take 9 (.take 10 (.take 11 (.take 12 (.bar 13 (.take 14 .nil))))))))))))))) mixed (by kernel_rfl) ?_); simp only [↓List.toList_toArray, ↓rgd, ↓rgf, ↓reduceIte, Nat.reduceEqDiff, rg, ow_129, e0, e1, e7, e10, ptr_eq, h2'', hi1, hk0, bx'', t0, e5]
              refine do_call fn_138 (by simp only [evt, evc, upd_eq, Nat.reduceEqDiff, ↓reduceIte, maT, maC, maN, isnN, isnS] <;> rfl) (less_any B m ord y0 x _ (hL''.ext0 (Ext.dr noF _ _))) ?_
              rintro _ w3 ⟨rfl, x3⟩
              refine ⟨trivial, ?_⟩
              simp only [↓List.toList_toArray, ↓rgd, ↓rgf, ↓reduceIte, Nat.reduceEqDiff, rg, ow_129]
              refine hK _ _ ?_; clear hK K
              have X3 := X2.tr x3.od
              cases hq0 : O.lt (rkI ord y0) (rkI ord x) with
              | true =>
                obtain ⟨f1, f2⟩ := missed_at O (rkI ord) ha (q := rkI ord x) (u := i) (by omega) (fun z hz => up i z (Nat.le_refl _) hz) (fun z _ hz => by rw [hy0] at hz; cases hz; exact hq0)
                refine W_true (by simp only [evt, upd_eq, ↓reduceIte, ntT, ntF]) (W_goto ?_)
                simp only [andThen_goto, jump_goto]
                exact ⟨trivial, X3.tr (Ext.dr _ _ _), (by simp only [upd_eq, Nat.reduceEqDiff, ↓reduceIte]; exact e1), (by simp only [upd_eq, Nat.reduceEqDiff, ↓reduceIte]; exact e3), (by simp only [upd_eq, Nat.reduceEqDiff, ↓reduceIte]; exact e4), (by simp only [upd_eq, Nat.reduceEqDiff, ↓reduceIte]; rw [f1]; exact e10), (by simp only [upd_eq, Nat.reduceEqDiff, ↓reduceIte]; rw [f2]; exact e11)⟩
              | false =>
                refine W_false (by simp only [evt, upd_eq, ↓reduceIte, ntT, ntF]) (W_skip ?_)
                show W _ _ _ _ _ _
                have e6 := hi_sub i (by omega)
                refine W_rg fun K hK => (W_text [true, true, true] (by kernel_rfl) ?_); simp only [↓List.toList_toArray, ↓rgd, ↓rgf, ↓reduceIte, Nat.reduceEqDiff, rg, ow_129, e10, e6]
                refine hK _ _ ?_; clear hK K
                simp only [andThen_normal]
                exact hloop _ _ 0 i (X3.tr (Ext.dr _ _ _)) (Nat.zero_le _) (by omega) (by simp only [upd_eq, Nat.reduceEqDiff, ↓reduceIte]; exact e0) (by simp only [upd_eq, Nat.reduceEqDiff, ↓reduceIte]; exact e1) (by simp only [upd_eq, Nat.reduceEqDiff, ↓reduceIte]; exact e3) (by simp only [upd_eq, Nat.reduceEqDiff, ↓reduceIte]; exact e4) (by simp only [upd_eq, Nat.reduceEqDiff, ↓reduceIte]; exact e7) (by simp only [upd_eq, Nat.reduceEqDiff, ↓reduceIte]; exact e12) (by simp only [upd_eq, Nat.reduceEqDiff, ↓reduceIte]) (fun i y hi => by omega) up
          | false =>
            refine W_false (by simp only [evt, upd_eq, ↓reduceIte, ntT, ntF]) ?_
            refine W_sq fun K hK => (W_free (some none) (.take 0 (.take 1 (.take 2 (.take 3 (.take 4 (.take 5 (.take 6 (.take 7 (.take 8 (.bar 9 .nil)))))))))) mixed (by kernel_rfl) ?_); simp only [↓List.toList_toArray, ↓rgd, ↓rgf, ↓reduceIte, Nat.reduceEqDiff, rg, ow_129, e0, e1, e7, e10, ptr_eq, h2'', hi, hk2, bx'']
            refine do_call fn_138 (by simp only [evt, evc, upd_eq, Nat.reduceEqDiff, ↓reduceIte, maT, maC, maN, isnN, isnS] <;> rfl) (less_any B m ord y x _ (hL''.ext0 (Ext.dr noF _ _))) ?_
            rintro _ w3 ⟨rfl, x3⟩
            refine ⟨trivial, ?_⟩
            simp only [↓List.toList_toArray, ↓rgd, ↓rgf, ↓reduceIte, Nat.reduceEqDiff, rg, ow_129]
            refine hK _ _ ?_; clear hK K
            have X3 := X2.tr x3.od
            have low : ∀ j z, j < i + 1 → ks[j]? = some z → O.lt (rkI ord x) (rkI ord z) = false := fun j z hij hjz => by
              by_cases he : j = i
              · subst he; rw [hy] at hjz; cases hjz; exact hq
              · cases hqz : O.lt (rkI ord x) (rkI ord z) with
                | false => rfl
                | true => have := O.tr _ _ _ hqz (hz j z hjz i y (by omega) hy); rw [hq] at this; cases this
            cases hq0 : O.lt (rkI ord y) (rkI ord x) with
            | true =>
              refine W_true (by simp only [evt, upd_eq, ↓reduceIte, ntT, ntF]) ?_
              have e6 := wadd1 i (by omega)
              refine W_rg fun K hK => (W_text [true, true, true] (by kernel_rfl) ?_); simp only [↓List.toList_toArray, ↓rgd, ↓rgf, ↓reduceIte, Nat.reduceEqDiff, rg, ow_129, e10, e6]
              refine hK _ _ ?_; clear hK K
              simp only [andThen_normal]
              exact hloop _ _ (i + 1) ks.length (X3.tr (Ext.dr _ _ _)) hi (Nat.le_refl _) (by simp only [upd_eq, Nat.reduceEqDiff, ↓reduceIte]; exact e0) (by simp only [upd_eq, Nat.reduceEqDiff, ↓reduceIte]; exact e1) (by simp only [upd_eq, Nat.reduceEqDiff, ↓reduceIte]; exact e3) (by simp only [upd_eq, Nat.reduceEqDiff, ↓reduceIte]; exact e4) (by simp only [upd_eq, Nat.reduceEqDiff, ↓reduceIte]; exact e7) (by simp only [upd_eq, Nat.reduceEqDiff, ↓reduceIte]) (by simp only [upd_eq, Nat.reduceEqDiff, ↓reduceIte]; exact e13) low (fun i y hi hx => by have := (List.getElem?_eq_some_iff.1 hx).1; omega)
            | false =>
              have hxy := O.tot _ _ hq0 hq
              obtain ⟨f1, f2⟩ := found_at O (rkI ord) ha (q := rkI ord x) (u := i + 1) hi low (fun z hjz => by rw [← hxy]; exact hz i y hy (i + 1) z (by omega) hjz) (by omega) hy hq0
              refine W_false (by simp only [evt, upd_eq, ↓reduceIte, ntT, ntF]) ?_
              refine W_sq fun K hK => (W_text [true] (by kernel_rfl) ?_); simp only [↓List.toList_toArray, ↓rgd, ↓rgf, ↓reduceIte, Nat.reduceEqDiff, rg, ow_129]
              refine hK _ _ ?_; clear hK K
              refine W_goto ?_
              simp only [andThen_goto, jump_goto]
              exact ⟨trivial, X3.tr (Ext.dr _ _ _), (by simp only [upd_eq, Nat.reduceEqDiff, ↓reduceIte]; exact e1), (by simp only [upd_eq, Nat.reduceEqDiff, ↓reduceIte]; exact e3), (by simp only [upd_eq, Nat.reduceEqDiff, ↓reduceIte]; exact e4), (by simp only [upd_eq, Nat.reduceEqDiff, ↓reduceIte]; rw [f1]; exact e10), (by simp only [upd_eq, Nat.reduceEqDiff, ↓reduceIte]; rw [f2])⟩
        clear hK2
        by_cases hpl : p < ks.length
        · have tp : decide ((ks.length : Int) ≤ (p : Int)) = false := by simp; omega
          refine W_sq fun K hK => (W_text [true, true, true, true, true, true, true] (by kernel_rfl) ?_); simp only [↓List.toList_toArray, ↓rgd, ↓rgf, ↓reduceIte, Nat.reduceEqDiff, rg, ow_129, e1, ptr_eq, h2, tp]
          refine hK _ _ ?_; clear hK K
          refine W_false (by simp only [evt, evc, upd_eq, Nat.reduceEqDiff, ↓reduceIte, ntT, ntF] <;> rfl) (W_skip ?_)
          simp only [andThen_normal]
          exact hidx _ _ p hpl (Ext.dr _ _ _) (by simp only [upd_eq, Nat.reduceEqDiff, ↓reduceIte]; exact e0) (by simp only [upd_eq, Nat.reduceEqDiff, ↓reduceIte]; exact e1) (by simp only [upd_eq, Nat.reduceEqDiff, ↓reduceIte]; exact e3) (by simp only [upd_eq, Nat.reduceEqDiff, ↓reduceIte]; exact e4) (by simp only [upd_eq, Nat.reduceEqDiff, ↓reduceIte]; rfl) (by simp only [upd_eq, Nat.reduceEqDiff, ↓reduceIte]) (by simp only [upd_eq, Nat.reduceEqDiff, ↓reduceIte]) (by simp only [upd_eq, Nat.reduceEqDiff, ↓reduceIte]; rfl) (by simp only [upd_eq, Nat.reduceEqDiff, ↓reduceIte])
        · have tp : decide ((ks.length : Int) ≤ (p : Int)) = true := by simp; omega
          refine W_sq fun K hK => (W_text [true, true, true, true, true, true, true] (by kernel_rfl) ?_); simp only [↓List.toList_toArray, ↓rgd, ↓rgf, ↓reduceIte, Nat.reduceEqDiff, rg, ow_129, e1, ptr_eq, h2, tp]
          refine hK _ _ ?_; clear hK K
          refine W_true (by simp only [evt, evc, upd_eq, Nat.reduceEqDiff, ↓reduceIte, ntT, ntF] <;> rfl) (W_seq ?_)
          obtain ⟨y0, hy0⟩ : ∃ y, ks[ks.length - 1]? = some y := ⟨_, List.getElem?_eq_getElem (by omega)⟩
          have hk0 := it_at row hy0
          have hi1 : ks.length - 1 < ks.length := by omega
          have e5 := wsub1 ks.length (by omega) (by omega)
          have bx' := iX_at bx1
          refine W_sq fun K hK => (W_free (some none) (.take 0 (.take 1 (.take 2 (.take 3 (.take 4 (.take 5 (.take 6 (.take 7 (.take 8 (.take 9 (.take 10 (.take 11 (.take 12 (.take 13 (.bar 14 .nil))))))))))))))) mixed (by kernel_rfl) ?_); simp only [↓List.toList_toArray, ↓rgd, ↓rgf, ↓reduceIte, Nat.reduceEqDiff, rg, ow_129, e0, e1, ptr_eq, h2, hi1, hk0, bx', e5]
          refine do_call fn_138 (by simp only [evt, evc, upd_eq, Nat.reduceEqDiff, ↓reduceIte, maT, maC, maN, isnN, isnS] <;> rfl) (less_any B m ord y0 x _ (hL.ext0 (Ext.dr noF _ _))) ?_
          rintro _ w2 ⟨rfl, x2⟩
          refine ⟨trivial, ?_⟩
          simp only [↓List.toList_toArray, ↓rgd, ↓rgf, ↓reduceIte, Nat.reduceEqDiff, rg, ow_129]
          refine hK _ _ ?_; clear hK K
          have X2 := x2.od
          have h2'' := X2.rd h2 fun g => g
          cases hq0 : O.lt (rkI ord y0) (rkI ord x) with
          | true =>
            obtain ⟨f1, f2⟩ := missed_at O (rkI ord) ha (q := rkI ord x) (u := ks.length) (Nat.le_refl _) (fun z hjz => by have := (List.getElem?_eq_some_iff.1 hjz).1; omega) (fun z _ hz => by rw [hy0] at hz; cases hz; exact hq0)
            refine W_true (by simp only [evt, upd_eq, ↓reduceIte, ntT, ntF]) ?_
            refine W_sq fun K hK => (W_text [true, true, true, true, true, true] (by kernel_rfl) ?_); simp only [↓List.toList_toArray, ↓rgd, ↓rgf, ↓reduceIte, Nat.reduceEqDiff, rg, ow_129, e1, ptr_eq, h2'']
            refine hK _ _ ?_; clear hK K
            refine W_goto ?_
            simp only [andThen_goto, jump_goto]
            exact ⟨trivial, X2.tr (Ext.dr _ _ _), (by simp only [upd_eq, Nat.reduceEqDiff, ↓reduceIte]; exact e1), (by simp only [upd_eq, Nat.reduceEqDiff, ↓reduceIte]; exact e3), (by simp only [upd_eq, Nat.reduceEqDiff, ↓reduceIte]; exact e4), (by simp only [upd_eq, Nat.reduceEqDiff, ↓reduceIte]; rw [f1]), (by simp only [upd_eq, Nat.reduceEqDiff, ↓reduceIte]; rw [f2])⟩
          | false =>
            refine W_false (by simp only [evt, upd_eq, ↓reduceIte, ntT, ntF]) (W_skip ?_)
            show W _ _ _ _ _ _
            refine W_rg fun K hK => (W_text [true, true, true, true, true, true, true] (by kernel_rfl) ?_); simp only [↓List.toList_toArray, ↓rgd, ↓rgf, ↓reduceIte, Nat.reduceEqDiff, rg, ow_129, e1, ptr_eq, h2'', e5]
            refine hK _ _ ?_; clear hK K
            simp only [andThen_normal]
            exact hidx _ _ (ks.length - 1) hi1 (X2.tr (Ext.dr _ _ _)) (by simp only [upd_eq, Nat.reduceEqDiff, ↓reduceIte]; exact e0) (by simp only [upd_eq, Nat.reduceEqDiff, ↓reduceIte]; exact e1) (by simp only [upd_eq, Nat.reduceEqDiff, ↓reduceIte]; exact e3) (by simp only [upd_eq, Nat.reduceEqDiff, ↓reduceIte]; exact e4) (by simp only [upd_eq, Nat.reduceEqDiff, ↓reduceIte]; rfl) (by simp only [upd_eq, Nat.reduceEqDiff, ↓reduceIte]) (by simp only [upd_eq, Nat.reduceEqDiff, ↓reduceIte]) (by simp only [upd_eq, Nat.reduceEqDiff, ↓reduceIte]; rfl) (by simp only [upd_eq, Nat.reduceEqDiff, ↓reduceIte])
    · have td : decide ((dep : Int) < 8) = false := by simp; omega
      refine W_sq fun K hK => (W_text [true, true, true, true, true, true, true, true, true, true] (by kernel_rfl) ?_); simp only [↓List.toList_toArray, ↓rgd, ↓rgf, ↓reduceIte, Nat.reduceEqDiff, rg, ow_129, e3, e4, td]
      refine hK _ _ ?_; clear hK K
      refine W_false (by simp only [evt, evc, upd_eq, Nat.reduceEqDiff, ↓reduceIte, ntT, ntF] <;> rfl) (W_skip ?_)
      simp only [andThen_normal]
      refine hloop _ _ 0 ks.length (Ext.dr _ _ _) (Nat.zero_le _) (Nat.le_refl _) (by simp only [upd_eq, Nat.reduceEqDiff, ↓reduceIte]; exact e0) (by simp only [upd_eq, Nat.reduceEqDiff, ↓reduceIte]; exact e1) (by simp only [upd_eq, Nat.reduceEqDiff, ↓reduceIte]; exact e3) (by simp only [upd_eq, Nat.reduceEqDiff, ↓reduceIte]; exact e4) (by simp only [upd_eq, Nat.reduceEqDiff, ↓reduceIte]; rfl) (by simp only [upd_eq, Nat.reduceEqDiff, ↓reduceIte]; rfl) (by simp only [upd_eq, Nat.reduceEqDiff, ↓reduceIte]) (fun i y hi => by omega) (fun i y hi hx => by have := (List.getElem?_eq_some_iff.1 hx).1; omega)
set_option maxHeartbeats 400000 in
set_option maxRecDepth 8000 in
/-- The search in a node, with a hint or without one. -/
theorem find_any (B m b bi oi cap : Nat) (ord : List Int) (ks : List It) (x : It) (ch : Option Addr) (hp : Option Nat) (dep : Nat) (w : World) (hL : Ls B m w ord) (h2 : rd w b 2 = some (.slice (some ⟨bi, oi, none⟩) ks.length cap)) (h3 : rd w b 3 = some (.pointer ch))
    (row : Row w bi oi (flat E ks)) (hbi : bi < w.heap.size) (hlen : ks.length < 4611686018427387904) (hpos : 0 < ks.length) (ha : Asc O (rkI ord) ks) (hH : HOk hp w) (hne : ∀ hb, hp = some hb → hb ≠ b) :
    CallK Try.prog 97 #[ptr m, ptr b, itV x, hV hp, .int .i64 dep] w fun v w' => v = srchG ord ks x ∧ Ext (hF hp) w w' ∧ HOk hp w' := by
  refine calls_of_W [.tmp 10, .tmp 11] Try.func97 rfl Try.ntmps97 Try.results97 (by simp) fun e he => ?_
  have e0 : e 0 = ptr m := he 0 _ rfl
  have e1 : e 1 = ptr b := he 1 _ rfl
  have e2 : e 2 = itV x := he 2 _ rfl
  have e3 : e 3 = hV hp := he 3 _ rfl
  have e4 : e 4 = .int .i64 dep := he 4 _ rfl
  clear he
  refine W_sq fun K hK => (W_text [false, true, true] (by kernel_rfl) ?_); simp only [↓List.toList_toArray, ↓rgd, ↓rgf, ↓reduceIte, Nat.reduceEqDiff, rg, ow_97]
  refine do_box (by simp only [evt]; exact e2) fun w1 n1 => ⟨trivial, ?_⟩
  simp only [↓List.toList_toArray, ↓rgd, ↓rgf, ↓reduceIte, Nat.reduceEqDiff, rg, ow_97]
  refine hK _ _ ?_; clear hK K
  have ix := iX_at (show Row w1 w.heap.size 0 (E.cel x) from n1.row)
  have X1 := n1.ext
  have h2' := X1.rd h2 fun g => g
  have h3' := X1.rd h3 fun g => g
  have row' := X1.row row fun _ _ g => g
  have hL' := hL.ext0 X1
  have hs := X1.size
  refine W_seq ?_
  cases hp with
  | none =>
    rw [hV_none] at e3
    refine W_sq fun K hK => (W_text [true, true] (by kernel_rfl) ?_); simp only [↓List.toList_toArray, ↓rgd, ↓rgf, ↓reduceIte, Nat.reduceEqDiff, rg, ow_97, e3]
    refine hK _ _ ?_; clear hK K
    refine W_true (by simp only [evt, evc, upd_eq, Nat.reduceEqDiff, ↓reduceIte, ntT, ntF] <;> rfl) ?_
    refine W_sq fun K hK => (W_text [true, true, true, false, true, true, true, true] (by kernel_rfl) ?_); simp only [↓List.toList_toArray, ↓rgd, ↓rgf, ↓reduceIte, Nat.reduceEqDiff, rg, ow_97, e0, e1, ix]
    refine do_call fn_128 (by simp only [evt, evc, upd_eq, Nat.reduceEqDiff, ↓reduceIte, maT, maC, maN, isnN, isnS] <;> rfl) (bsearch_any B m b bi oi cap ord ks x _ hL' h2' row' (by omega) hlen ha) ?_
    rintro _ w2 ⟨rfl, x2⟩
    refine ⟨trivial, ?_⟩
    simp only [↓List.toList_toArray, ↓rgd, ↓rgf, ↓reduceIte, Nat.reduceEqDiff, rg, ow_97, srchG]
    refine hK _ _ ?_; clear hK K
    refine W_ret ?_
    simp only [andThen_ret]
    exact endQ_2 (by simp only [upd_eq, Nat.reduceEqDiff, ↓reduceIte] <;> rfl) (by simp only [upd_eq, Nat.reduceEqDiff, ↓reduceIte] <;> rfl) ⟨rfl, ((X1.tr x2).tr (Ext.dr _ _ _)).mono fun _ _ _ g => g.elim, HOk.none _⟩
  | some hb =>
    rw [hV_some] at e3
    refine W_sq fun K hK => (W_text [true, true] (by kernel_rfl) ?_); simp only [↓List.toList_toArray, ↓rgd, ↓rgf, ↓reduceIte, Nat.reduceEqDiff, rg, ow_97, e3, ptr_eq]
    refine hK _ _ ?_; clear hK K
    refine W_false (by simp only [evt, evc, upd_eq, Nat.reduceEqDiff, ↓reduceIte, ntT, ntF] <;> rfl) (W_skip ?_)
    show W _ _ _ _ _ _
    refine W_sq fun K hK => (W_text [true, true, true, true, true, false, true, true, true, true] (by kernel_rfl) ?_); simp only [↓List.toList_toArray, ↓rgd, ↓rgf, ↓reduceIte, Nat.reduceEqDiff, rg, ow_97, e0, e1, e3, e4, ix]
    refine do_call fn_129 (by simp only [evt, evc, upd_eq, Nat.reduceEqDiff, ↓reduceIte, maT, maC, maN, isnN, isnS] <;> rfl) (hint_any B m b bi oi cap ord ks x ch hb dep _ hL' h2' h3' row' (by omega) hlen hpos ha ((hH hb rfl).ext X1 fun _ g => g) (hne hb rfl)) ?_
    rintro _ w2 ⟨rfl, x2, hH2⟩
    refine ⟨trivial, ?_⟩
    simp only [↓List.toList_toArray, ↓rgd, ↓rgf, ↓reduceIte, Nat.reduceEqDiff, rg, ow_97, srchG]
    refine hK _ _ ?_; clear hK K
    refine W_ret ?_
    exact endQ_2 (by simp only [upd_eq, Nat.reduceEqDiff, ↓reduceIte] <;> rfl) (by simp only [upd_eq, Nat.reduceEqDiff, ↓reduceIte] <;> rfl) ⟨rfl, (X1.trans x2 (fun _ _ g => g.elim) fun _ _ _ g => g).tr (Ext.dr _ _ _), fun b' h => by cases h; exact hH2.ext (Ext.dr noF _ _) fun _ g => g⟩
end Go.Proofs.Ytbnnkcofnmipoaa
/-
  What settings answer, one after the other; a tree that is being changed and the answers that are kept. No condition.
-/
set_option linter.unusedSimpArgs false
set_option linter.unusedVariables false
namespace Go.Proofs.Ytbnnkcofnmipoaa
open Go Go.Proofs
/-- The answers to settings. -/
def repsF (ord : List Int) : List It → List It → List (It × Bool)
  | _, [] => []
  | xs, x :: l => foO (at? O (rkI ord) (rkI ord x) xs) :: repsF ord (put O (rkI ord) x xs) l
def reps (ord : List Int) (l : List It) : List (It × Bool) := repsF ord [] l
theorem repsF_snoc (ord : List Int) (x : It) : ∀ (l xs : List It), repsF ord xs (l ++ [x]) = repsF ord xs l ++ [foO (at? O (rkI ord) (rkI ord x) (l.foldl (fun xs x => put O (rkI ord) x xs) xs))]
  | [], _ => rfl
  | y :: l, xs => by simp only [List.cons_append, repsF, repsF_snoc ord x l, List.foldl_cons]
theorem reps_succ {ord : List Int} {l : List It} {i : Nat} {x : It} (h : l[i]? = some x) : reps ord (l.take (i + 1)) = reps ord (l.take i) ++ [foO (at? O (rkI ord) (rkI ord x) (treeG ord (l.take i)))] := by
  rw [take_snoc h, reps, repsF_snoc]; rfl
theorem repsF_length (ord : List Int) : ∀ (l xs : List It), (repsF ord xs l).length = l.length
  | [], _ => rfl
  | x :: l, xs => by simp [repsF, repsF_length ord l]
theorem reps_length (ord : List Int) (l : List It) : (reps ord l).length = l.length := repsF_length ord l []
theorem at_is (ord : List Int) (q : It) (xs : List It) : (at? O (rkI ord) (rkI ord q) xs).isSome = hit O (rkI ord) (rkI ord q) xs := by
  unfold at?
  cases hh : hit O (rkI ord) (rkI ord q) xs with
  | true => obtain ⟨k, h1, _⟩ := hit_at O (rkI ord) hh; simp [h1]
  | false => simp
theorem foP_at (ord : List Int) (x : It) (xs : List It) : foP ((at? O (rkI ord) (rkI ord x) xs).getD zIt) (hit O (rkI ord) (rkI ord x) xs) = foO (at? O (rkI ord) (rkI ord x) xs) := by
  rw [← at_is]; exact foP_gotG _
/-- A slice that lies outside of a tree's cells. -/
def offB (v : Value) (F : Nat → Nat → Prop) : Prop := ∀ b o n c, v = .slice (some ⟨b, o, none⟩) n c → ∀ p, ¬ F b p
theorem offB_nil (F : Nat → Nat → Prop) : offB (.slice none 0 0) F := fun b o n c h => by cases h
theorem app_off {w w' : World} {sz n m B : Nat} {v v' : Value} {l l' : List Value} {F : Nat → Nat → Prop} (h : AppRes w sz v n m l l' v' w') (hv : since B v) (ho : offB v F) (hF : ∀ y o, F y o → y < w.heap.size) (hB : B ≤ w.heap.size) :
    offB v' F ∧ Ext (fun y _ => B ≤ y ∧ ∀ p, ¬ F y p) w w' := by
  rcases h.2 with ⟨rfl, rfl, h3⟩ | ⟨b0, o0, cap0, rfl, rfl, h3, h4, h5⟩ | ⟨cap', rfl, h2, h3⟩
  · exact ⟨ho, Ext.refl _ _⟩
  · have hb := hv _ _ _ _ rfl
    have hf := ho _ _ _ _ rfl
    refine ⟨fun b o n c h => ?_, h3.mono fun y o _ g => by simp only [rng] at g; rw [g.1]; exact ⟨hb, hf⟩⟩
    simp only [Value.slice.injEq, Option.some.injEq, Addr.mk.injEq] at h
    rw [← h.1.1]; exact hf
  · refine ⟨fun b o n c h p hp => ?_, h2.mono fun y o _ g => g.elim⟩
    simp only [Value.slice.injEq, Option.some.injEq, Addr.mk.injEq] at h
    have := hF _ _ hp
    omega
/-- A tree that is being changed (all of its cells lie from B on, but for its record at m), a hint that may be there, and the answers that are kept. -/
structure Fill (B A m d : Nat) (ord : List Int) (hp : Option Nat) (v : Value) (xs : List It) (rs : List (It × Bool)) (w : World) : Prop where
  tr : ∃ F, TreeAt A ord w m d 1 xs F ∧ (∀ y o, F y o → B ≤ y) ∧ offB v F
  out : OutE Ef B v rs w
  hint : HOk hp w
  lt : m < B ∧ B ≤ w.heap.size ∧ ∀ hb, hp = some hb → m < hb ∧ hb < B
/-- What the changes of a tree change. -/
def fillF (B m : Nat) (hp : Option Nat) : Nat → Nat → Prop := fun y _ => y = m ∨ hp = some y ∨ B ≤ y
theorem Fill.ext {B A m d : Nat} {ord : List Int} {hp : Option Nat} {v : Value} {xs : List It} {rs : List (It × Bool)} {w w' : World} (h : Fill B A m d ord hp v xs rs w) (x : Ext noF w w') : Fill B A m d ord hp v xs rs w' := by
  obtain ⟨F, h1, h2, h3⟩ := h.tr
  exact ⟨⟨F, h1.ext x, h2, h3⟩, h.out.ext x, h.hint.ext0 x, h.lt.1, Nat.le_trans h.lt.2.1 x.size, h.lt.2.2⟩
/-- One change. -/
theorem Fill.step {B A m d : Nat} {ord : List Int} {hp : Option Nat} {v : Value} {xs ys : List It} {rs : List (It × Bool)} {w w' : World} {F F' : Nat → Nat → Prop} (h : Fill B A m d ord hp v xs rs w) (hFB : ∀ y o, F y o → B ≤ y) (ho : offB v F)
    (X : Ext (fun y o => mapF m F y o ∨ Go.Proofs.Ytbnnkcofnmipoaa.hF hp y o) w w') (hM' : TreeAt A ord w' m d 1 ys F') (hF' : ∀ y o, F' y o → F y o ∨ w.heap.size ≤ y) (hH : HOk hp w') : Fill B A m d ord hp v ys rs w' ∧ Ext (fillF B m hp) w w' := by
  obtain ⟨l1, l2, l3⟩ := h.lt
  refine ⟨⟨⟨F', hM', fun y o g => (hF' y o g).elim (hFB y o) fun g => by omega, fun b o n c hv p g => ?_⟩, ⟨h.out.sl.ext X fun b o c hv i hi g => ?_, h.out.si⟩, hH, l1, Nat.le_trans l2 X.size, l3⟩, X.mono fun y o _ g => ?_⟩
  · rcases hF' b p g with g | g
    · exact ho b o n c hv p g
    · have := h.out.sl.lt hv; omega
  · have := h.out.si _ _ _ _ hv
    rcases g with (g | g) | g
    · exact ho _ _ _ _ hv _ g
    · omega
    · have := l3 _ g; omega
  · rcases g with (g | g) | g
    · exact .inr (.inr (hFB y o g))
    · exact .inl g.1
    · exact .inr (.inl g)
/-- One answer is kept. -/
theorem Fill.app {B A m d : Nat} {ord : List Int} {hp : Option Nat} {v v' : Value} {xs : List It} {rs : List (It × Bool)} {x : It × Bool} {w w' : World} (h : Fill B A m d ord hp v xs rs w) (a : AppRes w 3 v rs.length 1 (flat Ef rs) (Ef.cel x) v' w') :
    Fill B A m d ord hp v' xs (rs ++ [x]) w' ∧ Ext (fillF B m hp) w w' := by
  obtain ⟨F, h1, h2, h3⟩ := h.tr
  obtain ⟨l1, l2, l3⟩ := h.lt
  obtain ⟨g1, g2⟩ := app_off a h.out.si h3 h1.lt l2
  obtain ⟨g3, _⟩ := h.out.app a l2
  exact ⟨⟨⟨F, h1.extG g2 (fun y o hf hg => hg.2 o hf) (fun y o hg => by omega), h2, g1⟩, g3, h.hint.ext g2 fun hb hh o g => by have := l3 hb hh; omega, l1, Nat.le_trans l2 g2.size, l3⟩, g2.mono fun y o _ g => .inr (.inr g.1)⟩
theorem Fill.start {B A m d : Nat} {ord : List Int} {hp : Option Nat} {xs : List It} {F : Nat → Nat → Prop} {w : World} (hM : TreeAt A ord w m d 1 xs F) (hF : ∀ y o, F y o → B ≤ y) (hH : HOk hp w) (l : m < B ∧ B ≤ w.heap.size ∧ ∀ hb, hp = some hb → m < hb ∧ hb < B) :
    Fill B A m d ord hp (.slice none 0 0) xs [] w := ⟨⟨F, hM, hF, offB_nil _⟩, OutE.nil _ _ _, hH, l⟩
end Go.Proofs.Ytbnnkcofnmipoaa
/-
  Regions by a plan, once more: where all operations that read the heap wait for an operation or it for them, the heap may change at it at will. For whatever program. No condition.
-/
set_option linter.unusedSimpArgs false
set_option linter.unusedVariables false
namespace Go.Proofs.Ytbnnkcofnmipoaa
open Go
/-- What the operation yields does not depend on the heap. -/
def pureOp (P : Program) : Op → Bool
  | .move _ => true
  | .assign _ => true
  | .pick _ _ _ => true
  | .nilCheck _ => true
  | .binOp _ _ _ _ _ => true
  | .unOp .not _ _ => true
  | .slice _ _ _ _ _ => true
  | .fieldAddr T _ f => (fOff P T f).isSome
  | .indexAddr _ _ _ => true
  | .extract _ _ => true
  | _ => false
theorem pure_tk {P : Program} {H H' : Hold} {e : Env} {w w' : World} {op : Op} (h : pureOp P op = true) : tkOp P H e w op = tkOp P H' e w' op := by
  cases op with
  | fieldAddr T x f =>
    obtain ⟨o, ho⟩ := Option.isSome_iff_exists.1 (show (fOff P T f).isSome = true from h)
    simp only [tkOp, foZ, ho]
  | unOp k T x => cases k <;> first | rfl | cases h
  | _ => first | rfl | cases h
/-- What f waits for, of those from f - k on. -/
def ancs (ops : Array Oper) (f : Nat) : Nat → List Nat
  | 0 => [f]
  | k + 1 => let L := ancs ops f k; if L.any (fun j => waitsOn ops j (f - (k + 1))) then (f - (k + 1)) :: L else L
/-- What waits for f, of those up to f + k. -/
def descs (ops : Array Oper) (f : Nat) : Nat → List Nat
  | 0 => [f]
  | k + 1 => let L := descs ops f k; if L.any (fun j => waitsOn ops (f + (k + 1)) j) then (f + (k + 1)) :: L else L
def semiOk (P : Program) (ops : Array Oper) (f : Nat) : Bool :=
  decide (f < ops.size) && (let A := ancs ops f f; let D := descs ops f (ops.size - f); (List.range ops.size).all fun i => i == f || A.contains i || D.contains i || (ops[i]?).any fun o => pureOp P o.op)
inductive Anc (ops : Array Oper) (f : Nat) : Nat → Prop
  | self : Anc ops f f
  | step {j i : Nat} : Anc ops f j → waitsOn ops j i = true → Anc ops f i
inductive Desc (ops : Array Oper) (f : Nat) : Nat → Prop
  | self : Desc ops f f
  | step {j i : Nat} : Desc ops f j → waitsOn ops i j = true → Desc ops f i
theorem ancs_spec {ops : Array Oper} {f : Nat} : ∀ (k i : Nat), i ∈ ancs ops f k → Anc ops f i
  | 0, i, h => by
    simp only [ancs, List.mem_singleton] at h
    subst h; exact .self
  | k + 1, i, h => by
    simp only [ancs] at h
    split at h
    · rename_i hc
      rcases List.mem_cons.1 h with rfl | h
      · obtain ⟨j, hj, hw⟩ := List.any_eq_true.1 hc
        exact .step (ancs_spec k j hj) hw
      · exact ancs_spec k i h
    · exact ancs_spec k i h
theorem descs_spec {ops : Array Oper} {f : Nat} : ∀ (k i : Nat), i ∈ descs ops f k → Desc ops f i
  | 0, i, h => by
    simp only [descs, List.mem_singleton] at h
    subst h; exact .self
  | k + 1, i, h => by
    simp only [descs] at h
    split at h
    · rename_i hc
      rcases List.mem_cons.1 h with rfl | h
      · obtain ⟨j, hj, hw⟩ := List.any_eq_true.1 hc
        exact .step (descs_spec k j hj) hw
      · exact descs_spec k i h
    · exact descs_spec k i h
theorem anc_ahead {ops : Array Oper} {f : Nat} {listed : Array Bool} (hc : ClosedUp ops listed) (hr : f ∈ Region.ready .any ops listed) {i : Nat} (h : Anc ops f i) (hu : listed.getD i false = false) : i = f := by
  induction h with
  | self => rfl
  | @step j i hj hw ih =>
    cases hl : listed.getD j false with
    | true =>
      have := waits_listed hc (.inr hl) hw
      rw [hu] at this; cases this
    | false =>
      obtain rfl := ih hl
      have := waits_listed hc (.inl hr) hw
      rw [hu] at this; cases this
theorem desc_behind {ops : Array Oper} {f : Nat} {listed : Array Bool} (hc : ClosedUp ops listed) (hf : f ∈ Region.ready .any ops listed) {i : Nat} (h : Desc ops f i) (hr : i ∈ Region.ready .any ops listed ∨ listed.getD i false = true) : i = f := by
  have key : i = f ∨ listed.getD f false = true := by
    induction h with
    | self => exact .inl rfl
    | @step j i hj hw ih =>
      have hl := waits_listed hc hr hw
      rcases ih (.inr hl) with rfl | h
      · exact .inr hl
      · exact .inr h
  rcases key with h | h
  · exact h
  · exact (listed_unready h hf).elim
theorem semi_spec {P : Program} {ops : Array Oper} {f i : Nat} {o : Oper} (h : semiOk P ops f = true) (hi : ops[i]? = some o) : i = f ∨ Anc ops f i ∨ Desc ops f i ∨ pureOp P o.op = true := by
  simp only [semiOk, Bool.and_eq_true, decide_eq_true_eq, List.all_eq_true, List.mem_range, Bool.or_eq_true, beq_iff_eq] at h
  rcases h.2 i (Array.getElem?_eq_some_iff.1 hi).1 with ((h | h) | h) | h
  · exact .inl h
  · exact .inr (.inl (ancs_spec _ _ (by simpa using h)))
  · exact .inr (.inr (.inl (descs_spec _ _ (by simpa using h))))
  · rw [hi] at h; exact .inr (.inr (.inr h))
/-- Of those that are marked, f waits for each, or each for f. -/
def linkOk (ops : Array Oper) (sd : List Nat) (f : Nat) : Bool :=
  let A := ancs ops f f; let D := descs ops f (ops.size - f); sd.all fun i => i == f || A.contains i || D.contains i
theorem link_spec {ops : Array Oper} {sd : List Nat} {f i : Nat} (h : linkOk ops sd f = true) (hi : sd.contains i = true) : i = f ∨ Anc ops f i ∨ Desc ops f i := by
  simp only [linkOk, List.all_eq_true, Bool.or_eq_true, beq_iff_eq] at h
  rcases h i (by simpa using hi) with (h | h) | h
  · exact .inl h
  · exact .inr (.inl (ancs_spec _ _ (by simpa using h)))
  · exact .inr (.inr (descs_spec _ _ (by simpa using h)))
section
variable {P : Program} {ops : Array Oper} {Q : Exit → Act → World → Prop} {R : World → World → Prop} {sd : List Nat}
def wpM (P : Program) (ops : Array Oper) (Q : Exit → Act → World → Prop) (R : World → World → Prop) (sd : List Nat) : Nat → Array Bool → World → Act → World → Prop
  | 0, listed, _, a, w => Region.ready .any ops listed = [] ∧ Q .normal a w
  | fuel + 1, listed, w0, a, w =>
    (Region.ready .any ops listed = [] → Q .normal a w) ∧
    ∀ i ∈ Region.ready .any ops listed, wpOp P ops Q i (fun a' w' => (semiOk P ops i = true ∧ wpM P ops Q R sd fuel (listed.setIfInBounds i true) w' a' w') ∨
      ((linkOk ops sd i = true ∨ w'.heap = w.heap) ∧ R w0 w' ∧ wpM P ops Q R sd fuel (listed.setIfInBounds i true) w0 a' w')) a w
theorem wpAny_of_wpM : ∀ (fuel : Nat) (listed : Array Bool) (w0 : World) (a : Act) (w : World), wpM P ops Q R sd fuel listed w0 a w → wpAny P .any ops Q fuel listed a w
  | 0, _, _, _, _, h => h
  | fuel + 1, _, _, _, _, h => ⟨h.1, fun i hi => wpOp_mono (fun a' w' h' => h'.elim (fun h => wpAny_of_wpM fuel _ _ a' w' h.2) fun h => wpAny_of_wpM fuel _ _ a' w' h.2.2) (h.2 i hi)⟩
/-- In which worlds an operation that is pending must yield its value. -/
def Tol (P : Program) (R : World → World → Prop) (sd : List Nat) (o : Oper) (i : Nat) (w0 w u : World) : Prop := pureOp P o.op = true ∨ (sd.contains i = true ∧ u.heap = w.heap) ∨ (sd.contains i = false ∧ R w0 u)
theorem Gives.mono {S S' : World → Prop} {o : Oper} {v : Value} {a : Act} (h : Gives P ops S o v a) (hS : ∀ u, S' u → S u) : Gives P ops S' o v a := h.imp (fun ⟨h1, h2⟩ => ⟨h1, fun w hw => h2 w (hS w hw)⟩) id
theorem wpM_first {i : Nat} {oi : Oper} {v : Value} (hi : ops[i]? = some oi) (hR : ∀ w, R w w)
    (hsel : ∀ (j : Nat) (o : Oper) cs b, ops[j]? = some o → o.op ≠ .select cs b) (hQ : ∀ c a w, ¬ Q (.panic c) a w) :
    ∀ (fuel : Nat) (listed : Array Bool) (w0 : World) (a : Act) (w : World), ClosedUp ops listed →
      (∀ j oj, ops[j]? = some oj → j ≠ i → listed.getD j true = false → (∀ e ∈ oj.after, Region.binds .any e = true → e.on ≠ i) → oi.apart ops oj = true) →
      i ∈ Region.ready .any ops listed → Gives P ops (Tol P R sd oi i w0 w) oi v a → R w0 w →
      wpM P ops Q R sd fuel (listed.setIfInBounds i true) w0 (a.put oi.dst v) w → wpM P ops Q R sd (fuel + 1) listed w0 a w := by
  have here : ∀ {w0 w : World}, R w0 w → Tol P R sd oi i w0 w w := fun h => by
    cases hs : sd.contains i with
    | true => exact .inr (.inl ⟨hs, rfl⟩)
    | false => exact .inr (.inr ⟨hs, h⟩)
  intro fuel
  induction fuel with
  | zero =>
    intro listed w0 a w _ _ hr hy hS H
    refine ⟨fun h => (by rw [h] at hr; cases hr), fun j hj => ?_⟩
    by_cases hji : j = i
    · subst hji; exact hy.wpOp hi (here hS) (.inr ⟨.inr rfl, hS, H⟩)
    · have := ready_mono hj hji
      rw [H.1] at this
      cases this
  | succ fuel ih =>
    intro listed w0 a w hc hfree hr hy hS H
    refine ⟨fun h => (by rw [h] at hr; cases hr), fun j hj => ?_⟩
    by_cases hji : j = i
    · subst hji; exact hy.wpOp hi (here hS) (.inr ⟨.inr rfl, hS, H⟩)
    · have h1 := H.2 j (ready_mono hj hji)
      obtain ⟨hjun, oj, hoj, hall⟩ := mem_ready.1 hj
      have hiun := (mem_ready.1 hr).1
      have his : i < ops.size := (Array.getElem?_eq_some_iff.1 hi).1
      have hnot : ∀ e ∈ oj.after, Region.binds .any e = true → e.on ≠ i := fun e he hb heq => by
        have h1 := hall e he hb
        rw [heq, getD_tf hiun] at h1
        cases h1
      have h2 := wpOp_before hoj (hfree j oj hoj hji hjun hnot) (fun cs b => hsel i oi cs b hi) (fun cs b => hsel j oj cs b hoj) hQ hy h1
      have hfree' : ∀ k ok, ops[k]? = some ok → k ≠ i → (listed.setIfInBounds j true).getD k true = false → (∀ e ∈ ok.after, Region.binds .any e = true → e.on ≠ i) → oi.apart ops ok = true := fun k ok hk hki hun hno => by
        refine hfree k ok hk hki ?_ hno
        by_cases hjk : j = k
        · subst hjk; exact hjun
        · rw [getD_set_ne true hjk] at hun; exact hun
      have apartL : ¬ (i = j ∨ Anc ops j i ∨ Desc ops j i) := fun h => by
        rcases h with h | h | h
        · exact hji h.symm
        · exact hji (anc_ahead hc hj h (getD_tf hiun)).symm
        · exact hji (desc_behind hc hj h (.inl hr)).symm
      refine wpOp_mono (fun a' w' h3 => ?_) h2
      rcases h3.2 with ⟨hb, hrest⟩ | ⟨hl, hS', hrest⟩
      · refine .inl ⟨hb, ih (listed.setIfInBounds j true) w' a' w' (hc.set hj) hfree' (ready_mono hr (Ne.symm hji)) (h3.1.mono fun u _ => .inl ?_) (hR _) ?_⟩
        · rcases semi_spec hb hi with h | h | h | h
          · exact (apartL (.inl h)).elim
          · exact (apartL (.inr (.inl h))).elim
          · exact (apartL (.inr (.inr h))).elim
          · exact h
        · rw [Array.setIfInBounds_comm _ _ hji]
          exact hrest
      · refine .inr ⟨hl, hS', ih (listed.setIfInBounds j true) w0 a' w' (hc.set hj) hfree' (ready_mono hr (Ne.symm hji)) (h3.1.mono fun u hu => ?_) hS' ?_⟩
        · rcases hu with hu | ⟨hu, hh⟩ | hu
          · exact .inl hu
          · rcases hl with hl | hl
            · exact (apartL (link_spec hl hu)).elim
            · exact .inr (.inl ⟨hu, hh.trans hl⟩)
          · exact .inr (.inr hu)
        · rw [Array.setIfInBounds_comm _ _ hji]
          exact hrest
end
/-- A plan: an operation is taken (true: all that write wait for it or it for them); is carried out; is carried out, and all that read wait for it or it for them; two may come up. -/
inductive PM where
  | nil
  | take (s : Bool) (i : Nat) (r : PM)
  | act (i : Nat) (r : PM)
  | bar (i : Nat) (r : PM)
  | split (i : Nat) (r : PM) (j : Nat) (s : PM)
def sdOf : PM → List Nat
  | .nil => []
  | .take true i r => i :: sdOf r
  | .take false _ r => sdOf r
  | .act _ r => sdOf r
  | .bar _ r => sdOf r
  | .split _ r _ s => sdOf r ++ sdOf s
def ptOkM (P : Program) (ops : Array Oper) (sd : List Nat) : PM → Array Bool → Bool
  | .nil, listed => (Region.ready .any ops listed).isEmpty
  | .take s i r, listed => (s == sd.contains i) && (Region.ready .any ops listed).contains i && Region.free .any ops listed i && ptOkM P ops sd r (listed.setIfInBounds i true)
  | .act i r, listed => decide (Region.ready .any ops listed = [i]) && linkOk ops sd i && ptOkM P ops sd r (listed.setIfInBounds i true)
  | .bar i r, listed => decide (Region.ready .any ops listed = [i]) && semiOk P ops i && ptOkM P ops sd r (listed.setIfInBounds i true)
  | .split i r j s, listed => decide (Region.ready .any ops listed = [i, j]) && linkOk ops sd i && linkOk ops sd j && ptOkM P ops sd r (listed.setIfInBounds i true) && ptOkM P ops sd s (listed.setIfInBounds j true)
def ptM : PM → Nat → Bool
  | .nil, n => n == 0
  | .take _ _ r, n => n != 0 && ptM r (n - 1)
  | .act _ r, n => n != 0 && ptM r (n - 1)
  | .bar _ r, n => n != 0 && ptM r (n - 1)
  | .split _ r _ s, n => n != 0 && ptM r (n - 1) && ptM s (n - 1)
def regOkM (P : Program) (n : Nat) (ops : Array Oper) (pl : PM) : Bool :=
  Region.noSelect ops && dstsOk n ops && ptM pl ops.size && (let sd := sdOf pl; ptOkM P ops sd pl (Array.replicate ops.size false))
def WPM (P : Program) (ops : Array Oper) (H : Hold) (Q : Post) : PM → Env → World → Prop
  | .nil, e, w => Q .normal e w
  | .take true i r, e, w => withOp ops i (TakeO P ops (some none) (WPM P ops H Q r) e w)
  | .take false i r, e, w => withOp ops i (TakeO P ops H (WPM P ops H Q r) e w)
  | .act i r, e, w => DoAt P ops H none i (WPM P ops H Q r) e w
  | .bar i r, e, w => DoB P ops i (WPM P ops H Q r) e w
  | .split i r j s, e, w => DoAt P ops H none i (WPM P ops H Q r) e w ∧ DoAt P ops H none j (WPM P ops H Q s) e w
section
variable {P : Program} {ops : Array Oper} {n : Nat} {Q : Post} {sd : List Nat}
theorem wpM_of_plan {H : Hold} (hsel : Region.noSelect ops = true) (hd : dstsOk n ops = true) (hH : ∀ a b c, keeps H a b → keeps H b c → keeps H a c) :
    ∀ (pl : PM) (k : Nat) (listed : Array Bool) (w0 : World) (e : Env) (a : Act) (w : World), ptM pl k = true → Fr n e a → ClosedUp ops listed → ptOkM P ops sd pl listed = true → keeps H w0 w →
      WPM P ops H Q pl e w → wpM P ops (lift n Q) (keeps H) sd k listed w0 a w
  | .nil, k, listed, w0, e, a, w, hn, ha, _, hok, _, h => by
    obtain rfl : k = 0 := by simpa [ptM] using hn
    exact ⟨by simpa [ptOkM] using hok, e, ha, trivial, h⟩
  | .take s i r, 0, listed, w0, e, a, w, hn, ha, hc, hok, hk, h => by simp [ptM] at hn
  | .act i r, 0, listed, w0, e, a, w, hn, ha, hc, hok, hk, h => by simp [ptM] at hn
  | .bar i r, 0, listed, w0, e, a, w, hn, ha, hc, hok, hk, h => by simp [ptM] at hn
  | .split i r j s, 0, listed, w0, e, a, w, hn, ha, hc, hok, hk, h => by simp [ptM] at hn
  | .take s i r, k + 1, listed, w0, e, a, w, hn, ha, hc, hok, hk, h => by
    obtain ⟨o, ho, h⟩ : withOp ops i (TakeO P ops (if s = true then some none else H) (WPM P ops H Q r) e w) := by cases s <;> exact h
    have hn' : ptM r k = true := by simpa [ptM] using hn
    simp only [ptOkM, Bool.and_eq_true, beq_iff_eq] at hok
    obtain ⟨⟨⟨hs, hr⟩, hf⟩, hok⟩ := hok
    have hr' : i ∈ Region.ready .any ops listed := by simpa using hr
    have go : ∀ v, Gives P ops (Tol P (keeps H) sd o i w0 w) o v a → WPM P ops H Q r (updO e o.dst v) w →
        wpM P ops (lift n Q) (keeps H) sd (k + 1) listed w0 a w := fun v hg hw =>
      wpM_first ho (keeps_refl H) (Region.noSelect_spec hsel) lift_panic k listed w0 a w hc (Region.free_spec ho hf) hr' hg hk
        (wpM_of_plan hsel hd hH r k _ _ _ _ _ hn' (ha.put (dst_lt hd ho) v) (hc.set hr') hok hk hw)
    rcases guardE_cases h with ⟨hw, v, hv, hrest⟩ | ⟨hw, hrest⟩
    · refine go v (.inl ⟨wanted_of ha hd hw, fun w' hk2 => ?_⟩) hrest
      rw [ha.eval]
      rcases hk2 with hp | ⟨h1, h2⟩ | ⟨h1, h2⟩
      · rw [pure_tk (H' := some (some [])) (w' := w) hp] at hv
        exact tk_sound hv fun b hb => by simp [readsB] at hb
      · exact tk_sound hv fun b _ => by rw [h2]
      · rw [h1] at hs
        subst hs
        exact tk_sound hv fun b hb => (keeps_reads h2 hb).trans (keeps_reads hk hb).symm
    · exact go undef (.inr ⟨unwanted_of ha hd hw, rfl⟩) hrest
  | .act i r, k + 1, listed, w0, e, a, w, hn, ha, hc, hok, hk, h => by
    have hn' : ptM r k = true := by simpa [ptM] using hn
    simp only [ptOkM, Bool.and_eq_true, decide_eq_true_eq] at hok
    obtain ⟨⟨hr, hl⟩, hok⟩ := hok
    have hr' : i ∈ Region.ready .any ops listed := by rw [hr]; simp
    refine ⟨fun h0 => (by rw [h0] at hr; cases hr), fun j hj => ?_⟩
    obtain rfl : j = i := by rw [hr] at hj; simpa using hj
    refine wpOp_of_doAt ha hd h fun e' a' w' ha' hkk hrest => ?_
    have hk1 := hH _ _ _ hk (hkk.resolve_left (by simp))
    exact .inr ⟨.inl hl, hk1, wpM_of_plan hsel hd hH r k _ _ _ _ _ hn' ha' (hc.set hr') hok hk1 hrest⟩
  | .bar i r, k + 1, listed, w0, e, a, w, hn, ha, hc, hok, hk, h => by
    have hn' : ptM r k = true := by simpa [ptM] using hn
    simp only [ptOkM, Bool.and_eq_true, decide_eq_true_eq] at hok
    obtain ⟨⟨hr, hb⟩, hok⟩ := hok
    have hr' : i ∈ Region.ready .any ops listed := by rw [hr]; simp
    refine ⟨fun h0 => (by rw [h0] at hr; cases hr), fun j hj => ?_⟩
    obtain rfl : j = i := by rw [hr] at hj; simpa using hj
    refine wpOp_of_doB ha hd h fun e' a' w' ha' hrest => .inl ⟨hb, ?_⟩
    exact wpM_of_plan hsel hd hH r k _ _ _ _ _ hn' ha' (hc.set hr') hok (keeps_refl _ _) hrest
  | .split i r j s, k + 1, listed, w0, e, a, w, hn, ha, hc, hok, hk, h => by
    have hn' : ptM r k = true ∧ ptM s k = true := by simpa [ptM] using hn
    simp only [ptOkM, Bool.and_eq_true, decide_eq_true_eq] at hok
    obtain ⟨⟨⟨⟨hr, hl1⟩, hl2⟩, hok1⟩, hok2⟩ := hok
    have hi' : i ∈ Region.ready .any ops listed := by rw [hr]; simp
    have hj' : j ∈ Region.ready .any ops listed := by rw [hr]; simp
    refine ⟨fun h0 => (by rw [h0] at hr; cases hr), fun m hm => ?_⟩
    rw [hr] at hm
    rcases List.mem_cons.1 hm with rfl | hm
    · refine wpOp_of_doAt ha hd h.1 fun e' a' w' ha' hkk hrest => ?_
      have hk1 := hH _ _ _ hk (hkk.resolve_left (by simp))
      exact .inr ⟨.inl hl1, hk1, wpM_of_plan hsel hd hH r k _ _ _ _ _ hn'.1 ha' (hc.set hi') hok1 hk1 hrest⟩
    · obtain rfl : m = j := by simpa using hm
      refine wpOp_of_doAt ha hd h.2 fun e' a' w' ha' hkk hrest => ?_
      have hk1 := hH _ _ _ hk (hkk.resolve_left (by simp))
      exact .inr ⟨.inl hl2, hk1, wpM_of_plan hsel hd hH s k _ _ _ _ _ hn'.2 ha' (hc.set hj') hok2 hk1 hrest⟩
/-- A region that draws its order, by a plan with branches; barriers concern the heap alone, and what is linked with all that write needs no hold. -/
theorem W_semi (H : Hold) (pl : PM) {id : Nat} {e : Env} {w : World} (hm : P.follows .mixedOrders = true)
    (hok : regOkM P n ops pl = true) (h : WPM P ops H Q pl e w.drew) : W P n (.region id ops true) Q e w := by
  intro a ha
  simp only [regOkM, Bool.and_eq_true] at hok
  obtain ⟨⟨⟨hsel, hd⟩, hlen⟩, hok⟩ := hok
  refine wp_region_any hm ?_
  have hc : ClosedUp ops (Array.replicate ops.size false) := ⟨by simp, fun j oj _ hl => by
    rcases Nat.lt_or_ge j ops.size with h | h
    · simp [h] at hl
    · simp [h] at hl⟩
  exact wpAny_of_wpM _ _ _ _ _ (wpM_of_plan hsel hd (keeps_trans H) pl _ _ w.drew e a w.drew hlen ha hc hok (keeps_refl _ _) h)
end
theorem rgm :
    (∀ {P : Program} {ops : Array Oper} {H : Hold} {Q : Post} {e : Env} {w : World}, WPM P ops H Q .nil e w = Q Exit.normal e w) ∧
    (∀ {P : Program} {ops : Array Oper} {H : Hold} {Q : Post} {e : Env} {w : World} (i : Nat) (r : PM), WPM P ops H Q (.take true i r) e w = withOp ops i (TakeO P ops (some none) (WPM P ops H Q r) e w)) ∧
    (∀ {P : Program} {ops : Array Oper} {H : Hold} {Q : Post} {e : Env} {w : World} (i : Nat) (r : PM), WPM P ops H Q (.take false i r) e w = withOp ops i (TakeO P ops H (WPM P ops H Q r) e w)) ∧
    (∀ {P : Program} {ops : Array Oper} {H : Hold} {Q : Post} {e : Env} {w : World} (i : Nat) (r : PM), WPM P ops H Q (.act i r) e w = DoAt P ops H none i (WPM P ops H Q r) e w) ∧
    (∀ {P : Program} {ops : Array Oper} {H : Hold} {Q : Post} {e : Env} {w : World} (i : Nat) (r : PM), WPM P ops H Q (.bar i r) e w = DoB P ops i (WPM P ops H Q r) e w) ∧
    (∀ {P : Program} {ops : Array Oper} {H : Hold} {Q : Post} {e : Env} {w : World} (i j : Nat) (r s : PM), WPM P ops H Q (.split i r j s) e w = (DoAt P ops H none i (WPM P ops H Q r) e w ∧ DoAt P ops H none j (WPM P ops H Q s) e w)) :=
  ⟨id (Eq.trans rfl rfl), fun _ _ => id (Eq.trans rfl rfl), fun _ _ => id (Eq.trans rfl rfl), fun _ _ => id (Eq.trans rfl rfl), fun _ _ => id (Eq.trans rfl rfl), fun _ _ _ _ => id (Eq.trans rfl rfl)⟩
end Go.Proofs.Ytbnnkcofnmipoaa
/-
  A slice that a cell holds: what appends, insertions, removals and settings leave of it. For whatever program. No condition.
-/
set_option linter.unusedSimpArgs false
set_option linter.unusedVariables false
namespace Go.Proofs.Ytbnnkcofnmipoaa
open Go
/-- Pointers to blocks as elements. -/
def Ep : Enc Nat where
  cel b := [ptr b]
  sz := 1
  len _ := rfl
  one b v hv := by simp at hv; subst hv; rfl
  pos := by decide
theorem flat_Ep (l : List Nat) : flat Ep l = l.map ptr := by
  induction l with
  | nil => rfl
  | cons x l ih => rw [flat_cons, ih]; rfl
section
variable {α : Type} {E : Enc α}
structure SE (E : Enc α) (w : World) (hb ho : Nat) (ks : List α) (bi oi cap : Nat) : Prop where
  hd : rd w hb ho = some (.slice (some ⟨bi, oi, none⟩) ks.length cap)
  row : Row w bi oi (flat E ks)
  wi : wok w bi (oi + cap * E.sz)
  le : ks.length ≤ cap
  hok : wok w hb (ho + 1)
  ne : bi ≠ hb
/-- The slice's own cells: the one that holds it, and its room. -/
def seF (E : Enc α) (hb ho bi oi cap : Nat) : Nat → Nat → Prop := fun y o => (y = hb ∧ o = ho) ∨ rng bi oi (cap * E.sz) y o
theorem SE.ext {w w' : World} {G : Nat → Nat → Prop} {hb ho bi oi cap : Nat} {ks : List α} (h : SE E w hb ho ks bi oi cap) (x : Ext G w w') (hG : ∀ y o, seF E hb ho bi oi cap y o → ¬ G y o) : SE E w' hb ho ks bi oi cap :=
  ⟨x.rd h.hd (hG _ _ (.inl ⟨rfl, rfl⟩)), x.row h.row fun i hi => hG _ _ (.inr ⟨rfl, by omega, by rw [flat_length] at hi; have := Nat.mul_le_mul_right E.sz h.le; omega⟩), x.wok h.wi, h.le, x.wok h.hok, h.ne⟩
theorem SE.ext0 {w w' : World} {hb ho bi oi cap : Nat} {ks : List α} (h : SE E w hb ho ks bi oi cap) (x : Ext noF w w') : SE E w' hb ho ks bi oi cap := h.ext x fun _ _ _ g => g
theorem SE.lt {w : World} {hb ho bi oi cap : Nat} {ks : List α} (h : SE E w hb ho ks bi oi cap) : hb < w.heap.size ∧ bi < w.heap.size := ⟨wok_lt h.hok, wok_lt h.wi⟩
theorem SE.slV {w : World} {hb ho bi oi cap : Nat} {ks : List α} (h : SE E w hb ho ks bi oi cap) : SlV w E.sz (.slice (some ⟨bi, oi, none⟩) ks.length cap) ks.length (flat E ks) :=
  ⟨flat_length _ _, .inr ⟨bi, oi, cap, rfl, h.le, h.row, h.wi.R (Nat.le_refl _)⟩⟩
/-- An append, whose slice is stored again. -/
theorem SE.app {w w1 w2 : World} {hb ho bi oi cap m : Nat} {ks ls : List α} {v' : Value} (h : SE E w hb ho ks bi oi cap) (hm : ls.length = m) (a : AppRes w E.sz (.slice (some ⟨bi, oi, none⟩) ks.length cap) ks.length m (flat E ks) (flat E ls) v' w1)
    (x : Ext (rng hb ho 1) w1 w2) (r : rd w2 hb ho = some v') :
    ∃ bi' oi' cap', v' = .slice (some ⟨bi', oi', none⟩) (ks.length + m) cap' ∧ SE E w2 hb ho (ks ++ ls) bi' oi' cap' ∧ Ext (seF E hb ho bi oi cap) w w2 ∧ ((bi' = bi ∧ oi' = oi ∧ cap' = cap) ∨ (bi' = w.heap.size ∧ w.heap.size < w2.heap.size)) := by
  subst hm
  obtain ⟨hs, hc⟩ := a
  have hbl := wok_lt h.hok
  have hbil := wok_lt h.wi
  have hne := h.ne
  have hlen : (ks ++ ls).length = ks.length + ls.length := List.length_append
  rcases hc with ⟨_, _, h3⟩ | ⟨b0, o0, cap0, h1, h2, h3, h4, h5⟩ | ⟨cap', h1, h2, h3, h4⟩
  · cases h3
  · simp only [Value.slice.injEq, Option.some.injEq, Addr.mk.injEq, true_and, and_true] at h1
    obtain ⟨⟨rfl, rfl⟩, rfl⟩ := h1
    subst h2
    have hw1 := h3.wok h.wi
    have hr : Row w1 bi oi (flat E (ks ++ ls)) := by
      rw [flat_append]
      rcases hs.2 with ⟨h, _⟩ | ⟨b1, o1, c1, h1, hle, hr, hw⟩
      · cases h
      · simp only [Value.slice.injEq, Option.some.injEq, Addr.mk.injEq, true_and, and_true] at h1
        obtain ⟨⟨rfl, rfl⟩, rfl⟩ := h1
        exact hr
    refine ⟨bi, oi, cap, rfl, ⟨by rw [r, hlen], x.row hr fun i _ g => by simp only [rng] at g; omega, x.wok hw1, by omega, x.wok (h3.wok h.hok), hne⟩, h3.trans x (fun y o g => .inr ?_) fun y o _ g => .inl ?_, .inl ⟨rfl, rfl, rfl⟩⟩
    · have e1 : (ks.length + ls.length) * E.sz = ks.length * E.sz + ls.length * E.sz := Nat.add_mul _ _ _
      have e2 := Nat.mul_le_mul_right E.sz h5
      simp only [rng] at g ⊢
      omega
    · simp only [rng] at g; omega
  · subst h1
    have hr : Row w1 w.heap.size 0 (flat E (ks ++ ls)) ∧ ks.length + ls.length ≤ cap' := by
      rw [flat_append]
      rcases hs.2 with ⟨h, _⟩ | ⟨b1, o1, c1, h1, hle, hr, hw⟩
      · cases h
      · simp only [Value.slice.injEq, Option.some.injEq, Addr.mk.injEq, true_and, and_true] at h1
        obtain ⟨⟨rfl, rfl⟩, rfl⟩ := h1
        exact ⟨hr, hle⟩
    have s2 := x.size
    refine ⟨_, 0, cap', rfl, ⟨by rw [r, hlen], x.row hr.1 fun i _ g => by simp only [rng] at g; omega, by rw [Nat.zero_add]; exact x.wok h4, by omega, x.wok (h2.wok h.hok), by omega⟩, h2.trans x (fun y o g => g.elim) fun y o _ g => .inl ?_, .inr ⟨rfl, by omega⟩⟩
    simp only [rng] at g; omega
/-- One element, put ahead of all others: an append of something, a copy one place on, a store. -/
theorem SE.ins0 {w w1 w2 : World} {hb ho bi oi cap o1 : Nat} {ks : List α} {z x : α} (h : SE E w hb ho (ks ++ [z]) bi oi cap)
    (x1 : Ext (rng bi o1 (ks.length * E.sz)) w w1) (r1 : Row w1 bi o1 (flat E ks)) (ho1 : 0 < ks.length → o1 = oi + E.sz) (x2 : Ext (rng bi oi E.sz) w1 w2) (r2 : Row w2 bi oi (E.cel x)) :
    SE E w2 hb ho (x :: ks) bi oi cap ∧ Ext (seF E hb ho bi oi cap) w w2 := by
  have hne := h.ne
  have hle := h.le
  rw [List.length_append, List.length_singleton] at hle
  have hcap := Nat.mul_le_mul_right E.sz hle
  have e1 : (ks.length + 1) * E.sz = ks.length * E.sz + E.sz := by rw [Nat.add_mul, Nat.one_mul]
  have hk0 : ks.length = 0 → ks.length * E.sz = 0 := fun e => by rw [e, Nat.zero_mul]
  have X1 : Ext (seF E hb ho bi oi cap) w w1 := x1.mono fun y o _ g => .inr (by
    simp only [rng] at g ⊢
    by_cases hk : 0 < ks.length
    · have := ho1 hk; omega
    · have := hk0 (by omega); omega)
  have X : Ext (seF E hb ho bi oi cap) w w2 := X1.tr (x2.mono fun y o _ g => .inr (by simp only [rng] at g ⊢; omega))
  refine ⟨⟨?_, ?_, X.wok h.wi, ?_, X.wok h.hok, hne⟩, X⟩
  · have := h.hd
    rw [List.length_append, List.length_singleton] at this
    rw [List.length_cons]
    refine x2.rd (x1.rd this ?_) ?_
    · simp only [rng]; omega
    · simp only [rng]; omega
  · rw [flat_cons]
    refine Row.append.2 ⟨r2, ?_⟩
    rw [E.len]
    by_cases hk : 0 < ks.length
    · rw [← ho1 hk]
      exact x2.row r1 fun i hi g => by have := ho1 hk; simp only [rng] at g; omega
    · have : ks = [] := List.eq_nil_of_length_eq_zero (by omega)
      rw [this]; exact Row.nil _ _ _
  · rw [List.length_cons]; exact hle
/-- One element is taken out: a copy one place back, something in the last place, the slice shortened. -/
theorem SE.erase {w w1 w2 w3 : World} {hb ho bi oi cap i : Nat} {ks : List α} (h : SE E w hb ho ks bi oi cap) (hi : i < ks.length)
    (x1 : Ext (rng bi (oi + i * E.sz) ((ks.length - 1 - i) * E.sz)) w w1) (r1 : Row w1 bi (oi + i * E.sz) (flat E (ks.drop (i + 1)))) (x2 : Ext (rng bi (oi + (ks.length - 1) * E.sz) E.sz) w1 w2)
    (x3 : Ext (rng hb ho 1) w2 w3) (r3 : rd w3 hb ho = some (.slice (some ⟨bi, oi, none⟩) (ks.length - 1 : Nat) cap)) :
    SE E w3 hb ho (ks.eraseIdx i) bi oi cap ∧ Ext (seF E hb ho bi oi cap) w w3 := by
  have hne := h.ne
  have hle := h.le
  have hcap := Nat.mul_le_mul_right E.sz hle
  have e1 : (ks.length - 1) * E.sz = ks.length * E.sz - E.sz := by rw [Nat.sub_mul, Nat.one_mul]
  have e2 : (ks.length - 1 - i) * E.sz = (ks.length - 1) * E.sz - i * E.sz := Nat.sub_mul _ _ _
  have e3 : (i + 1) * E.sz ≤ ks.length * E.sz := Nat.mul_le_mul_right _ hi
  have e4 : (i + 1) * E.sz = i * E.sz + E.sz := by rw [Nat.add_mul, Nat.one_mul]
  have hl : (ks.eraseIdx i).length = ks.length - 1 := by rw [List.length_eraseIdx, if_pos hi]
  have X : Ext (seF E hb ho bi oi cap) w w3 := ((x1.mono fun y o _ g => .inr (by simp only [rng] at g ⊢; omega)).tr (x2.mono fun y o _ g => .inr (by simp only [rng] at g ⊢; omega))).tr (x3.mono fun y o _ g => .inl (by simp only [rng] at g; omega))
  refine ⟨⟨by rw [hl]; exact r3, ?_, X.wok h.wi, by omega, X.wok h.hok, hne⟩, X⟩
  rw [List.eraseIdx_eq_take_drop_succ, flat_append]
  have hlt : (flat E (ks.take i)).length = i * E.sz := by rw [flat_length, List.length_take]; congr 1; omega
  have hld : (flat E (ks.drop (i + 1))).length = ks.length * E.sz - (i + 1) * E.sz := by rw [flat_length, List.length_drop, Nat.sub_mul]
  refine Row.append.2 ⟨?_, ?_⟩
  · have h0 := h.row.take (i * E.sz)
    rw [flat_take] at h0
    refine x3.row (x2.row (x1.row h0 fun j hj g => ?_) fun j hj g => ?_) fun j hj g => ?_
    · rw [hlt] at hj; simp only [rng] at g; omega
    · rw [hlt] at hj; simp only [rng] at g; omega
    · simp only [rng] at g; omega
  · rw [hlt]
    refine x3.row (x2.row r1 fun j hj g => ?_) fun j hj g => ?_
    · rw [hld] at hj; simp only [rng] at g; omega
    · simp only [rng] at g; omega
/-- The last element is taken away. -/
theorem SE.pop {w w2 w3 : World} {hb ho bi oi cap : Nat} {ks : List α} (h : SE E w hb ho ks bi oi cap) (hi : 0 < ks.length)
    (x2 : Ext (rng bi (oi + (ks.length - 1) * E.sz) E.sz) w w2) (x3 : Ext (rng hb ho 1) w2 w3) (r3 : rd w3 hb ho = some (.slice (some ⟨bi, oi, none⟩) (ks.length - 1 : Nat) cap)) :
    SE E w3 hb ho ks.dropLast bi oi cap ∧ Ext (seF E hb ho bi oi cap) w w3 := by
  have hd : ks.drop (ks.length - 1 + 1) = [] := List.drop_eq_nil_of_le (by omega)
  have := h.erase (i := ks.length - 1) (w1 := w) (by omega) (Ext.refl _ _) (by rw [hd]; exact Row.nil _ _ _) x2 x3 r3
  have he : ks.eraseIdx (ks.length - 1) = ks.dropLast := by rw [List.eraseIdx_eq_take_drop_succ, hd, List.append_nil, List.dropLast_eq_take]
  rw [he] at this
  exact this
/-- One element is set. -/
theorem SE.set {w w' : World} {hb ho bi oi cap i : Nat} {ks : List α} {x : α} (h : SE E w hb ho ks bi oi cap) (hi : i < ks.length) (X : Ext (rng bi (oi + i * E.sz) E.sz) w w') (r : Row w' bi (oi + i * E.sz) (E.cel x)) :
    SE E w' hb ho (ks.set i x) bi oi cap ∧ Ext (seF E hb ho bi oi cap) w w' := by
  have hne := h.ne
  have hle := h.le
  have hcap := Nat.mul_le_mul_right E.sz hle
  have e3 : (i + 1) * E.sz ≤ ks.length * E.sz := Nat.mul_le_mul_right _ hi
  have e4 : (i + 1) * E.sz = i * E.sz + E.sz := by rw [Nat.add_mul, Nat.one_mul]
  have hrow : Row w' bi oi (flat E (ks.set i x)) := by
    rw [List.set_eq_take_append_cons_drop, if_pos hi, flat_append, flat_cons]
    have hl : (flat E (ks.take i)).length = i * E.sz := by rw [flat_length, List.length_take]; congr 1; omega
    refine Row.append.2 ⟨?_, Row.append.2 ⟨by rw [hl]; exact r, ?_⟩⟩
    · rw [← flat_take]
      exact X.row (h.row.take _) fun j hj g => by rw [flat_take, hl] at hj; simp only [rng] at g; omega
    · rw [hl, E.len, ← flat_drop]
      have h1 := h.row.drop ((i + 1) * E.sz)
      rw [e4, ← Nat.add_assoc] at h1
      rw [e4]
      exact X.row h1 fun j hj g => by simp only [rng] at g; omega
  refine ⟨⟨by rw [List.length_set]; exact X.rd h.hd (by simp only [rng]; omega), hrow, X.wok h.wi, by rw [List.length_set]; exact hle, X.wok h.hok, hne⟩, X.mono fun y o _ g => .inr (by simp only [rng] at g ⊢; omega)⟩
end
end Go.Proofs.Ytbnnkcofnmipoaa
/-
  Several things in memory that lie apart; one of them is changed. For items of whatever make. No condition.
-/
set_option linter.unusedSimpArgs false
set_option linter.unusedVariables false
namespace Go.Proofs.Ytbnnkcofnmipoaa
open Go
/-- A thing: what it says of a world, the cells it takes, the block of its row. -/
structure Ob where
  p : World → (Nat → Nat → Prop) → Nat → Prop
  loc : ∀ {w w' : World} {F G : Nat → Nat → Prop} {K : Nat}, p w F K → Ext G w w' → (∀ y o, F y o → ¬ G y o) → p w' F K
  lt : ∀ {w : World} {F : Nat → Nat → Prop} {K : Nat}, p w F K → (∀ y o, F y o → y < w.heap.size) ∧ K < w.heap.size
/-- Things that lie apart; the rows of two things whose places are three apart lie in different blocks. -/
structure St (w0 : World) (G : Nat → Nat → Prop) (w : World) (P : List Ob) (F : Nat → Nat → Nat → Prop) (K : Nat → Nat) : Prop where
  o : ∀ (i : Nat) (A : Ob), P[i]? = some A → A.p w (F i) (K i)
  d : ∀ i j, i < P.length → j < P.length → i ≠ j → ∀ y o, F i y o → ¬ F j y o
  s : ∀ i, i < P.length → ∀ y o, F i y o → G y o ∨ w0.heap.size ≤ y
  r : ∀ i, i + 3 < P.length → K i ≠ K (i + 3)
  x : Ext G w0 w
/-- The things P stand in w, apart; since w0 nothing else has changed, and they take no other old cells than G's. -/
def Ss (w0 : World) (G : Nat → Nat → Prop) (w : World) (P : List Ob) : Prop := ∃ F K, St w0 G w P F K
theorem Ss.x {w0 w : World} {G : Nat → Nat → Prop} {P : List Ob} (s : Ss w0 G w P) : Ext G w0 w := s.elim fun _ h => h.elim fun _ h => h.x
theorem St.step {w0 w w' : World} {G : Nat → Nat → Prop} {P : List Ob} {F : Nat → Nat → Nat → Prop} {K : Nat → Nat} (s : St w0 G w P F K) {i : Nat} {A : Ob} (hi : P[i]? = some A) (B : Ob) {F' : Nat → Nat → Prop} {K' : Nat}
    (x : Ext (F i) w w') (hB : B.p w' F' K') (hF : ∀ y o, F' y o → F i y o ∨ w.heap.size ≤ y) (hK : K' = K i ∨ w.heap.size ≤ K') : Ss w0 G w' (P.set i B) := by
  have hil := (List.getElem?_eq_some_iff.1 hi).1
  have hlt : ∀ j, j < P.length → (∀ y o, F j y o → y < w.heap.size) ∧ K j < w.heap.size := fun j hj => (P[j]).lt (s.o j _ (List.getElem?_eq_getElem hj))
  refine ⟨fun j => if j = i then F' else F j, fun j => if j = i then K' else K j, ⟨fun j C hj => ?_, fun j k hj hk hne y o g h => ?_, fun j hj y o g => ?_, fun j hj => ?_, s.x.trans x (fun _ _ g => g) fun y o hy g => ?_⟩⟩
  · by_cases hji : j = i
    · subst hji
      rw [if_pos rfl, if_pos rfl]
      rw [List.getElem?_set_self hil] at hj
      cases hj
      exact hB
    · rw [if_neg hji, if_neg hji]
      rw [List.getElem?_set_ne (Ne.symm hji)] at hj
      have hjl := (List.getElem?_eq_some_iff.1 hj).1
      exact C.loc (s.o j C hj) x (s.d j i hjl hil hji)
  · rw [List.length_set] at hj hk
    by_cases hji : j = i
    · subst hji
      have hki : k ≠ j := Ne.symm hne
      rw [if_pos rfl] at g
      rw [if_neg hki] at h
      rcases hF y o g with g | g
      · exact s.d j k hj hk hne y o g h
      · have := (hlt k hk).1 y o h; omega
    · rw [if_neg hji] at g
      by_cases hki : k = i
      · subst hki
        rw [if_pos rfl] at h
        rcases hF y o h with h | h
        · exact s.d j k hj hk hne y o g h
        · have := (hlt j hj).1 y o g; omega
      · rw [if_neg hki] at h
        exact s.d j k hj hk hne y o g h
  · rw [List.length_set] at hj
    by_cases hji : j = i
    · subst hji
      rw [if_pos rfl] at g
      rcases hF y o g with g | g
      · exact s.s j hj y o g
      · have := s.x.size; exact .inr (by omega)
    · rw [if_neg hji] at g
      exact s.s j hj y o g
  · rw [List.length_set] at hj
    have h1 := s.r j hj
    have h2 := (hlt j (by omega)).2
    have h3 := (hlt (j + 3) hj).2
    by_cases hji : j = i
    · subst hji
      rw [if_pos rfl, if_neg (by omega)]
      omega
    · rw [if_neg hji]
      by_cases hki : j + 3 = i
      · subst hki
        rw [if_pos rfl]; omega
      · rw [if_neg hki]; exact h1
  · rcases s.s i hil y o g with g | g
    · exact g
    · omega
/-- A run that changes nothing old. -/
theorem Ss.ext0 {w0 w w' : World} {G : Nat → Nat → Prop} {P : List Ob} (s : Ss w0 G w P) (x : Ext noF w w') : Ss w0 G w' P := by
  obtain ⟨F, K, s⟩ := s
  exact ⟨F, K, fun i A h => A.loc (s.o i A h) x fun _ _ _ g => g, s.d, s.s, s.r, s.x.trans x (fun _ _ g => g) fun _ _ _ g => g.elim⟩
section
variable {α : Type} {E : Enc α}
theorem Own.se {w : World} {b : Nat} {iso cnt : Int} {bi oi cap : Nat} {ks : List α} {ch : Value} (h : Own E w b iso cnt bi oi cap ks ch) : SE E w b 2 ks bi oi cap := ⟨h.h2, h.row, h.wi, h.le, h.wb.mono (by decide), h.ne⟩
theorem seF_own {b bi oi cap : Nat} {y o : Nat} (h : seF E b 2 bi oi cap y o) : ownF E b bi oi cap y o := by
  rcases h with ⟨h, _⟩ | h
  · exact .inl h
  · exact .inr h
theorem Own.step {w w' : World} {b : Nat} {iso cnt : Int} {bi oi cap bi' oi' cap' : Nat} {ks ks' : List α} {ch : Value} (h : Own E w b iso cnt bi oi cap ks ch) (s : SE E w' b 2 ks' bi' oi' cap') (x : Ext (seF E b 2 bi oi cap) w w') :
    Own E w' b iso cnt bi' oi' cap' ks' ch := by
  have hne := h.ne
  have hn : ∀ o, o ≠ 2 → ¬ seF E b 2 bi oi cap b o := fun o ho g => by
    rcases g with g | g
    · omega
    · exact hne g.1.symm
  exact ⟨x.rd h.h0 (hn _ (by decide)), x.rd h.h1 (hn _ (by decide)), s.hd, x.rd h.h3 (hn _ (by decide)), x.wok h.wb, s.row, s.wi, s.le, s.ne⟩
theorem Own.cnt' {w w' : World} {b : Nat} {iso cnt cnt' : Int} {bi oi cap : Nat} {ks : List α} {ch : Value} (h : Own E w b iso cnt bi oi cap ks ch) (x : Ext (rng b 1 1) w w') (r : rd w' b 1 = some (.int .i64 cnt')) :
    Own E w' b iso cnt' bi oi cap ks ch := by
  have hne := h.ne
  refine ⟨x.rd h.h0 ?_, r, x.rd h.h2 ?_, x.rd h.h3 ?_, x.wok h.wb, x.row h.row fun i _ g => ?_, x.wok h.wi, h.le, h.ne⟩
  · simp only [rng]; omega
  · simp only [rng]; omega
  · simp only [rng]; omega
  · exact hne g.1
/-- Pointers that may be nil as elements. -/
def Eo : Enc (Option Nat) where
  cel o := [.pointer (o.map fun b => ⟨b, 0, none⟩)]
  sz := 1
  len _ := rfl
  one o v hv := by simp at hv; subst hv; rfl
  pos := by decide
theorem Eo_sz : Eo.sz = 1 := id (Eq.trans rfl rfl)
theorem flat_Eo (l : List Nat) : flat Eo (l.map some) = l.map ptr := by
  induction l with
  | nil => rfl
  | cons x l ih => rw [List.map_cons, flat_cons, ih]; rfl
theorem Kids.se {w : World} {bc ba oa capc : Nat} {ps : List Nat} (h : Kids w bc ba oa capc ps) : SE Eo w bc 0 (ps.map some) ba oa capc :=
  ⟨by rw [List.length_map]; exact h.c0, by rw [flat_Eo]; exact h.row, by rw [Eo_sz, Nat.mul_one]; exact h.wa, by rw [List.length_map]; exact h.le, h.wc, h.ne⟩
theorem SE.kids {w : World} {bc ba oa capc : Nat} {ps : List Nat} (h : SE Eo w bc 0 (ps.map some) ba oa capc) : Kids w bc ba oa capc ps :=
  ⟨by have := h.hd; rw [List.length_map] at this; exact this, h.hok, by have := h.row; rw [flat_Eo] at this; exact this, by have := h.wi; rw [Eo_sz, Nat.mul_one] at this; exact this, by have := h.le; rw [List.length_map] at this; exact this, h.ne⟩
theorem seF_kid {bc ba oa capc : Nat} {y o : Nat} (h : seF Eo bc 0 ba oa capc y o) : kidF bc ba oa capc y o := by
  rcases h with ⟨h, _⟩ | h
  · exact .inl h
  · rw [Eo_sz, Nat.mul_one] at h; exact .inr h
/-- A node's own part; its items' room is no less than z. -/
def ndO (E : Enc α) (iso : Int) (z b : Nat) (cnt : Int) (ks : List α) (ch : Value) : Ob where
  p w F K := ∃ bi oi cap, Own E w b iso cnt bi oi cap ks ch ∧ z ≤ cap ∧ K = bi ∧ ∀ y o, F y o ↔ ownF E b bi oi cap y o
  loc := fun ⟨bi, oi, cap, h, hz, hK, hF⟩ x hd => ⟨bi, oi, cap, h.ext x fun y o g => hd y o ((hF y o).2 g), hz, hK, hF⟩
  lt := fun ⟨_, _, _, h, _, hK, hF⟩ => ⟨fun y o g => h.lt ((hF y o).1 g), hK ▸ wok_lt h.wi⟩
/-- A node's children: none, or a cell with a slice. -/
def kdO (ch : Value) (ps : List (Option Nat)) : Ob where
  p w F K := (ch = .pointer none ∧ ps = [] ∧ K < w.heap.size ∧ ∀ y o, ¬ F y o) ∨ ∃ bc ba oa capc, ch = ptr bc ∧ SE Eo w bc 0 ps ba oa capc ∧ K = ba ∧ ∀ y o, F y o ↔ kidF bc ba oa capc y o
  loc := fun h x hd => h.imp (fun ⟨h1, h2, h3, h4⟩ => ⟨h1, h2, Nat.lt_of_lt_of_le h3 x.size, h4⟩) fun ⟨bc, ba, oa, capc, h1, h, hK, hF⟩ => ⟨bc, ba, oa, capc, h1, h.ext x fun y o g => hd y o ((hF y o).2 (seF_kid g)), hK, hF⟩
  lt := fun h => by
    rcases h with ⟨_, _, hK, h⟩ | ⟨bc, ba, _, _, _, h, hK, hF⟩
    · exact ⟨fun y o g => (h y o g).elim, hK⟩
    · have := h.lt
      refine ⟨fun y o g => ?_, by omega⟩
      rcases (hF y o).1 g with g | g
      · omega
      · have := g.1; omega
theorem ownF_new {b bi oi cap bi' oi' cap' B : Nat} (h : (bi' = bi ∧ oi' = oi ∧ cap' = cap) ∨ B ≤ bi') {y o : Nat} (g : ownF E b bi' oi' cap' y o) : ownF E b bi oi cap y o ∨ B ≤ y := by
  rcases h with ⟨rfl, rfl, rfl⟩ | h
  · exact .inl g
  · rcases g with g | g
    · exact .inl (.inl g)
    · exact .inr (by have := g.1; omega)
theorem kidF_new {bc ba oa capc ba' oa' capc' B : Nat} (h : (ba' = ba ∧ oa' = oa ∧ capc' = capc) ∨ B ≤ ba') {y o : Nat} (g : kidF bc ba' oa' capc' y o) : kidF bc ba oa capc y o ∨ B ≤ y := by
  rcases h with ⟨rfl, rfl, rfl⟩ | h
  · exact .inl g
  · rcases g with g | g
    · exact .inl (.inl g)
    · exact .inr (by have := g.1; omega)
theorem Ss.nd {w0 w : World} {G : Nat → Nat → Prop} {P : List Ob} (s : Ss w0 G w P) (i : Nat) {iso : Int} {z b : Nat} {cnt : Int} {ks : List α} {ch : Value} (hi : P[i]? = some (ndO E iso z b cnt ks ch)) :
    ∃ bi oi cap, Own E w b iso cnt bi oi cap ks ch ∧
      (∀ {w' : World} {ks' : List α} {bi' oi' cap' : Nat}, SE E w' b 2 ks' bi' oi' cap' → Ext (seF E b 2 bi oi cap) w w' → ((bi' = bi ∧ oi' = oi ∧ cap' = cap) ∨ (w.heap.size ≤ bi' ∧ z ≤ cap')) → Ss w0 G w' (P.set i (ndO E iso z b cnt ks' ch))) ∧
      (∀ {w' : World} {cnt' : Int}, Ext (rng b 1 1) w w' → rd w' b 1 = some (.int .i64 cnt') → Ss w0 G w' (P.set i (ndO E iso z b cnt' ks ch))) := by
  obtain ⟨F, K, s⟩ := s
  obtain ⟨bi, oi, cap, h, hz, hK, hF⟩ := s.o i _ hi
  refine ⟨bi, oi, cap, h, fun {w' ks' bi' oi' cap'} s' x hb => s.step hi _ (x.mono fun y o _ g => (hF y o).2 (seF_own g)) ⟨bi', oi', cap', h.step s' x, by omega, rfl, fun _ _ => Iff.rfl⟩ (fun y o g => ?_) (by rw [hK]; exact hb.imp And.left And.left),
    fun {w' cnt'} x r => s.step hi _ (x.mono fun y o _ g => (hF y o).2 (.inl g.1)) ⟨bi, oi, cap, h.cnt' x r, hz, rfl, fun _ _ => Iff.rfl⟩ (fun y o g => .inl ((hF y o).2 g)) (.inl hK.symm)⟩
  rcases ownF_new (hb.imp id And.left) g with g | g
  · exact .inl ((hF y o).2 g)
  · exact .inr g
theorem Ss.kd {w0 w : World} {G : Nat → Nat → Prop} {P : List Ob} (s : Ss w0 G w P) (i : Nat) {bc : Nat} {ps : List (Option Nat)} (hi : P[i]? = some (kdO (ptr bc) ps)) :
    ∃ ba oa capc, SE Eo w bc 0 ps ba oa capc ∧
      (∀ {w' : World} {ps' : List (Option Nat)} {ba' oa' capc' : Nat}, SE Eo w' bc 0 ps' ba' oa' capc' → Ext (seF Eo bc 0 ba oa capc) w w' → ((ba' = ba ∧ oa' = oa ∧ capc' = capc) ∨ w.heap.size ≤ ba') → Ss w0 G w' (P.set i (kdO (ptr bc) ps'))) := by
  obtain ⟨F, K, s⟩ := s
  rcases s.o i _ hi with ⟨h, _⟩ | ⟨bc', ba, oa, capc, h1, h, hK, hF⟩
  · cases h
  · obtain rfl : bc = bc' := by simpa [ptr] using h1
    refine ⟨ba, oa, capc, h, fun {w' ps' ba' oa' capc'} s' x hb => s.step hi _ (x.mono fun y o _ g => (hF y o).2 (seF_kid g)) (.inr ⟨bc, ba', oa', capc', rfl, s', rfl, fun _ _ => Iff.rfl⟩) (fun y o g => ?_) (by rw [hK]; exact hb.imp And.left id)⟩
    rcases kidF_new hb g with g | g
    · exact .inl ((hF y o).2 g)
    · exact .inr g
end
/-! ### Steps of a slice in a cell -/
section
variable {α : Type} {E : Enc α}
/-- A copy of what lies behind place i, one place back. -/
theorem SE.down {w w1 : World} {hb ho bi oi cap i : Nat} {ks : List α} (h : SE E w hb ho ks bi oi cap) (hi : i < ks.length)
    (x1 : Ext (rng bi (oi + i * E.sz) ((ks.length - 1 - i) * E.sz)) w w1) (r1 : Row w1 bi (oi + i * E.sz) (flat E (ks.drop (i + 1)))) :
    ∃ z, SE E w1 hb ho (ks.eraseIdx i ++ [z]) bi oi cap ∧ Ext (seF E hb ho bi oi cap) w w1 := by
  obtain ⟨z, hz⟩ : ∃ z, ks.drop (ks.length - 1) = [z] := List.length_eq_one_iff.1 (by rw [List.length_drop]; omega)
  refine ⟨z, ?_⟩
  rw [← hz]
  have hne := h.ne
  have hle := h.le
  have hcap := Nat.mul_le_mul_right E.sz hle
  have e1 : (ks.length - 1) * E.sz = ks.length * E.sz - E.sz := by rw [Nat.sub_mul, Nat.one_mul]
  have e2 : (ks.length - 1 - i) * E.sz = (ks.length - 1) * E.sz - i * E.sz := Nat.sub_mul _ _ _
  have e3 : (i + 1) * E.sz ≤ ks.length * E.sz := Nat.mul_le_mul_right _ hi
  have e4 : (i + 1) * E.sz = i * E.sz + E.sz := by rw [Nat.add_mul, Nat.one_mul]
  have hl : (ks.eraseIdx i ++ ks.drop (ks.length - 1)).length = ks.length := by rw [List.length_append, List.length_eraseIdx, if_pos hi, List.length_drop]; omega
  have X : Ext (seF E hb ho bi oi cap) w w1 := x1.mono fun y o _ g => .inr (by simp only [rng] at g ⊢; omega)
  refine ⟨⟨by rw [hl]; exact x1.rd h.hd (by simp only [rng]; omega), ?_, X.wok h.wi, by omega, X.wok h.hok, hne⟩, X⟩
  rw [List.eraseIdx_eq_take_drop_succ, List.append_assoc, flat_append, flat_append]
  have hlt : (flat E (ks.take i)).length = i * E.sz := by rw [flat_length, List.length_take]; congr 1; omega
  have hld : (flat E (ks.drop (i + 1))).length = ks.length * E.sz - (i + 1) * E.sz := by rw [flat_length, List.length_drop, Nat.sub_mul]
  refine Row.append.2 ⟨?_, Row.append.2 ⟨?_, ?_⟩⟩
  · have h0 := h.row.take (i * E.sz)
    rw [flat_take] at h0
    refine x1.row h0 fun j hj g => ?_
    rw [hlt] at hj; simp only [rng] at g; omega
  · rw [hlt]; exact r1
  · rw [hlt, hld]
    have h0 := h.row.drop ((ks.length - 1) * E.sz)
    rw [flat_drop] at h0
    have ho : oi + i * E.sz + (ks.length * E.sz - (i + 1) * E.sz) = oi + (ks.length - 1) * E.sz := by omega
    rw [ho]
    refine x1.row h0 fun j hj g => ?_
    simp only [rng] at g; omega
/-- A copy of all, one place on. -/
theorem SE.up {w w1 : World} {hb ho bi oi cap o1 : Nat} {ks : List α} {z : α} (h : SE E w hb ho (ks ++ [z]) bi oi cap)
    (x1 : Ext (rng bi o1 (ks.length * E.sz)) w w1) (r1 : Row w1 bi o1 (flat E ks)) (ho1 : 0 < ks.length → o1 = oi + E.sz) :
    SE E w1 hb ho ((ks ++ [z]).take 1 ++ ks) bi oi cap ∧ Ext (seF E hb ho bi oi cap) w w1 := by
  have hne := h.ne
  have hle := h.le
  rw [List.length_append, List.length_singleton] at hle
  have hcap := Nat.mul_le_mul_right E.sz hle
  have e1 : (ks.length + 1) * E.sz = ks.length * E.sz + E.sz := by rw [Nat.add_mul, Nat.one_mul]
  have hk0 : ks.length = 0 → ks.length * E.sz = 0 := fun e => by rw [e, Nat.zero_mul]
  have X1 : Ext (seF E hb ho bi oi cap) w w1 := x1.mono fun y o _ g => .inr (by
    simp only [rng] at g ⊢
    by_cases hk : 0 < ks.length
    · have := ho1 hk; omega
    · have := hk0 (by omega); omega)
  have hl : ((ks ++ [z]).take 1 ++ ks).length = ks.length + 1 := by simp only [List.length_append, List.length_take, List.length_singleton]; omega
  have hl1 : (flat E ((ks ++ [z]).take 1)).length = E.sz := by rw [flat_length, List.length_take, List.length_append, List.length_singleton, Nat.min_eq_left (by omega), Nat.one_mul]
  refine ⟨⟨?_, ?_, X1.wok h.wi, by omega, X1.wok h.hok, hne⟩, X1⟩
  · have := h.hd
    rw [List.length_append, List.length_singleton] at this
    rw [hl]
    exact x1.rd this (by simp only [rng]; omega)
  · rw [flat_append]
    refine Row.append.2 ⟨?_, ?_⟩
    · have h0 := h.row.take (1 * E.sz)
      rw [flat_take] at h0
      refine x1.row h0 fun j hj g => ?_
      rw [hl1] at hj
      simp only [rng] at g
      by_cases hk : 0 < ks.length
      · have := ho1 hk; omega
      · have := hk0 (by omega); omega
    · rw [hl1]
      by_cases hk : 0 < ks.length
      · rw [← ho1 hk]; exact r1
      · have : ks = [] := List.eq_nil_of_length_eq_zero (by omega)
        rw [this]; exact Row.nil _ _ _
/-- The slice is shortened. -/
theorem SE.cut {w w1 : World} {hb ho bi oi cap : Nat} {ks : List α} {z : α} (h : SE E w hb ho (ks ++ [z]) bi oi cap) (x1 : Ext (rng hb ho 1) w w1) (r1 : rd w1 hb ho = some (.slice (some ⟨bi, oi, none⟩) ks.length cap)) :
    SE E w1 hb ho ks bi oi cap ∧ Ext (seF E hb ho bi oi cap) w w1 := by
  have hne := h.ne
  have hle := h.le
  rw [List.length_append, List.length_singleton] at hle
  have hr := h.row
  rw [flat_append] at hr
  exact ⟨⟨r1, x1.row (Row.append.1 hr).1 fun j _ g => by simp only [rng] at g; omega, x1.wok h.wi, by omega, x1.wok h.hok, hne⟩, x1.mono fun y o _ g => .inl (by simp only [rng] at g; omega)⟩
theorem set_last {A : List α} {z x : α} : (A ++ [z]).set A.length x = A ++ [x] := by simp
theorem set_first {A : List α} {z x : α} : ((A ++ [z]).take 1 ++ A).set 0 x = x :: A := by cases A <;> rfl
theorem SE.app' {w w1 : World} {hb ho bi oi cap m : Nat} {ks ls : List α} {v' : Value} (h : SE E w hb ho ks bi oi cap) (hm : ls.length = m) (a : AppRes w E.sz (.slice (some ⟨bi, oi, none⟩) ks.length cap) ks.length m (flat E ks) (flat E ls) v' w1) :
    ∃ bi' oi' cap', v' = .slice (some ⟨bi', oi', none⟩) (ks.length + m) cap' ∧ wok w1 hb (ho + 1) ∧ w.heap.size ≤ w1.heap.size ∧
      ∀ w2, Ext (rng hb ho 1) w1 w2 → rd w2 hb ho = some v' → SE E w2 hb ho (ks ++ ls) bi' oi' cap' ∧ Ext (seF E hb ho bi oi cap) w w2 ∧ ((bi' = bi ∧ oi' = oi ∧ cap' = cap) ∨ w.heap.size ≤ bi') := by
  have key : ∃ bi' oi' cap', v' = .slice (some ⟨bi', oi', none⟩) (ks.length + m) cap' ∧ wok w1 hb (ho + 1) ∧ w.heap.size ≤ w1.heap.size := by
    rcases a.2 with ⟨_, _, h3⟩ | ⟨b0, o0, cap0, h1, h2, h3, h4, h5⟩ | ⟨cap', h1, h2, h3, h4⟩
    · cases h3
    · exact ⟨_, _, _, h2, h3.wok h.hok, by omega⟩
    · exact ⟨_, _, _, h1, h2.wok h.hok, by omega⟩
  obtain ⟨bi', oi', cap', hv, hw, hs⟩ := key
  refine ⟨bi', oi', cap', hv, hw, hs, fun w2 x r => ?_⟩
  obtain ⟨bi2, oi2, cap2, hv2, h1, h2, h3⟩ := h.app hm a x r
  rw [hv] at hv2
  simp only [Value.slice.injEq, Option.some.injEq, Addr.mk.injEq, true_and, and_true] at hv2
  obtain ⟨⟨rfl, rfl⟩, rfl⟩ := hv2
  exact ⟨h1, h2, h3.imp id fun g => Nat.le_of_eq g.1.symm⟩
/-- The slice from place i on. -/
theorem SE.from {w : World} {hb ho bi oi cap : Nat} {ks : List α} (h : SE E w hb ho ks bi oi cap) {sz : Nat} (hsz : E.sz = sz) (i : Nat) (hi : i ≤ ks.length) :
    ∃ o1, slFrom bi oi sz i ks.length cap = .slice (some ⟨bi, o1, none⟩) (ks.length - i) (cap - i) ∧ (i < cap → o1 = oi + i * sz) ∧ SlV w sz (.slice (some ⟨bi, o1, none⟩) (ks.length - i) (cap - i)) (ks.length - i) (flat E (ks.drop i)) ∧ wok w bi (o1 + (ks.length - i) * sz) := by
  subst hsz
  have hle := h.le
  obtain ⟨o1, h1, h2, h3⟩ := slFrom_sl bi oi E.sz i ks.length cap
  have hl : (flat E (ks.drop i)).length = (ks.length - i) * E.sz := by rw [flat_length, List.length_drop]
  have e1 : (ks.length - i) * E.sz = ks.length * E.sz - i * E.sz := Nat.sub_mul _ _ _
  have e2 := Nat.mul_le_mul_right E.sz hle
  have e3 := Nat.mul_le_mul_right E.sz hi
  have e4 : (cap - i) * E.sz = cap * E.sz - i * E.sz := Nat.sub_mul _ _ _
  by_cases hc : cap = i
  · have ho := h3 hc
    have hi0 : ks.length - i = 0 := by omega
    have hd : ks.drop i = [] := List.drop_eq_nil_of_le (by omega)
    have e5 : (ks.length - i) * E.sz = 0 := by rw [hi0, Nat.zero_mul]
    refine ⟨o1, h1, fun g => by omega, ⟨by rw [hl], .inr ⟨bi, o1, cap - i, rfl, by omega, by rw [hd]; exact Row.nil _ _ _, (h.wi.mono ?_).R (Nat.le_refl _)⟩⟩, h.wi.mono ?_⟩
    · omega
    · omega
  · have ho := h2 hc
    have hr := h.row.drop (i * E.sz)
    rw [flat_drop, ← ho] at hr
    refine ⟨o1, h1, fun _ => ho, ⟨by rw [hl], .inr ⟨bi, o1, cap - i, rfl, by omega, hr, (h.wi.mono ?_).R (Nat.le_refl _)⟩⟩, h.wi.mono ?_⟩
    · omega
    · omega
theorem New.keep {w w' : World} {l : List Value} (n : New w w' l) (L : List Nat) (h : ∀ b ∈ L, b < w.heap.size) : keeps (some (some L)) w w' := keeps_on n.ext fun x hx => ⟨h x hx, fun _ g => g⟩
theorem SE.ptr_at {w : World} {bc ba oa capc j p : Nat} {ps : List (Option Nat)} (h : SE Eo w bc 0 ps ba oa capc) (hp : ps[j]? = some (some p)) : rd w ba (oa + j) = some (ptr p) := by
  have := (Row.cons.1 (row_at Eo h.row hp)).1
  rw [Eo_sz, Nat.mul_one] at this
  exact this
end
/-- As kd, and the array lies in no other thing's own blocks. -/
theorem Ss.kdx {w0 w : World} {G : Nat → Nat → Prop} {P : List Ob} (s : Ss w0 G w P) (i : Nat) {bc : Nat} {ps : List (Option Nat)} (hi : P[i]? = some (kdO (ptr bc) ps)) (h0 : 0 < ps.length) :
    ∃ ba oa capc, SE Eo w bc 0 ps ba oa capc ∧
      (∀ {w' : World} {ps' : List (Option Nat)} {ba' oa' capc' : Nat}, SE Eo w' bc 0 ps' ba' oa' capc' → Ext (seF Eo bc 0 ba oa capc) w w' → ((ba' = ba ∧ oa' = oa ∧ capc' = capc) ∨ w.heap.size ≤ ba') → Ss w0 G w' (P.set i (kdO (ptr bc) ps'))) ∧
      (∀ {α : Type} {E : Enc α} (j : Nat) {iso : Int} {z b : Nat} {cnt : Int} {ks : List α} {ch : Value}, j ≠ i → P[j]? = some (ndO E iso z b cnt ks ch) → b ≠ ba) ∧
      (∀ (j : Nat) {c : Nat} {qs : List (Option Nat)}, j ≠ i → P[j]? = some (kdO (ptr c) qs) → c ≠ ba) := by
  obtain ⟨F, K, s⟩ := s
  rcases s.o i _ hi with ⟨h, _⟩ | ⟨bc', ba, oa, capc, h1, h, hK, hF⟩
  · cases h
  · obtain rfl : bc = bc' := by simpa [ptr] using h1
    have hle := h.le
    have hil := (List.getElem?_eq_some_iff.1 hi).1
    have hin : F i ba oa := (hF _ _).2 (.inr ⟨rfl, Nat.le_refl _, by omega⟩)
    refine ⟨ba, oa, capc, h, fun {w' ps' ba' oa' capc'} s' x hb => s.step hi _ (x.mono fun y o _ g => (hF y o).2 (seF_kid g)) (.inr ⟨bc, ba', oa', capc', rfl, s', rfl, fun _ _ => Iff.rfl⟩) (fun y o g => ?_) (by rw [hK]; exact hb.imp And.left id), fun {α E} j {iso z b cnt ks ch} hji hj hb => ?_, fun j {c qs} hji hj hc => ?_⟩
    · rcases kidF_new hb g with g | g
      · exact .inl ((hF y o).2 g)
      · exact .inr g
    · obtain ⟨bi, oi, cap, _, _, _, hF'⟩ := s.o j _ hj
      exact s.d j i (List.getElem?_eq_some_iff.1 hj).1 hil hji ba oa ((hF' _ _).2 (.inl hb.symm)) hin
    · rcases s.o j _ hj with ⟨h, _⟩ | ⟨c', ba', oa', capc', h1, _, _, hF'⟩
      · cases h
      · obtain rfl : c = c' := by simpa [ptr] using h1
        exact s.d j i (List.getElem?_eq_some_iff.1 hj).1 hil hji ba oa ((hF' _ _).2 (.inl hc.symm)) hin
theorem app_keep {w w1 : World} {sz n m bi oi cap : Nat} {l l' : List Value} {v' : Value} (a : AppRes w sz (.slice (some ⟨bi, oi, none⟩) n cap) n m l l' v' w1) (L : List Nat) (h : ∀ x ∈ L, x < w.heap.size ∧ x ≠ bi) : keeps (some (some L)) w w1 := by
  rcases a.2 with ⟨_, rfl, _⟩ | ⟨b0, o0, cap0, h1, _, h3, _⟩ | ⟨_, _, h2, _⟩
  · exact keeps_refl _ _
  · simp only [Value.slice.injEq, Option.some.injEq, Addr.mk.injEq, true_and, and_true] at h1
    obtain ⟨⟨rfl, rfl⟩, rfl⟩ := h1
    exact keeps_on h3 fun x hx => ⟨(h x hx).1, fun o g => (h x hx).2 g.1⟩
  · exact keeps_on h2 fun x hx => ⟨(h x hx).1, fun _ g => g⟩
theorem W_keep5 {P : Program} {n : Nat} {c : Code} {Q : Post} {e : Env} {w : World} {v0 v1 v2 v6 v7 : Value} (h0 : e 0 = v0) (h1 : e 1 = v1) (h2 : e 2 = v2) (h6 : e 6 = v6) (h7 : e 7 = v7)
    (h : ∀ e' : Env, e' 0 = v0 → e' 1 = v1 → e' 2 = v2 → e' 6 = v6 → e' 7 = v7 → W P n c Q e' w) : W P n c Q e w := h e h0 h1 h2 h6 h7
end Go.Proofs.Ytbnnkcofnmipoaa
/-
  What nodeRebalance's walks share. No condition.
-/
set_option linter.unusedSimpArgs false
set_option linter.unusedVariables false
namespace Go.Proofs.Ytbnnkcofnmipoaa
open Go Go.Proofs
theorem rb_k (x : It) : bsV Try.prog 25 1 [(0, itV x)] = some (33, E.cel x) := by kernel_rfl
theorem rb_o (a : Option Addr) : bsV Try.prog 166 1 [(0, .pointer a)] = some (96, [.pointer a]) := by kernel_rfl
theorem rb_eli : elK Try.prog 25 = some (33, 2, 16, E.cel zIt) := by kernel_rfl
theorem rb_elk : elK Try.prog 166 = some (96, 1, 8, [.pointer none]) := by kernel_rfl
theorem rb_len (x : It) : (itV x).cells.toList.length = 2 := rfl
theorem rb_oc (x : It) : oc (itV x).cells.toList := E.one x
theorem on1_0 (a : Nat) : readsB (some (some [a])) a = true := by simp [readsB]
theorem on2_0 (a b : Nat) : readsB (some (some [a, b])) a = true := by simp [readsB]
theorem on2_1 (a b : Nat) : readsB (some (some [a, b])) b = true := by simp [readsB]
theorem on3_0 (a b c : Nat) : readsB (some (some [a, b, c])) a = true := by simp [readsB]
theorem on3_1 (a b c : Nat) : readsB (some (some [a, b, c])) b = true := by simp [readsB]
theorem on3_2 (a b c : Nat) : readsB (some (some [a, b, c])) c = true := by simp [readsB]
theorem on5_0 (a b c d e : Nat) : readsB (some (some [a, b, c, d, e])) a = true := by simp [readsB]
theorem on5_1 (a b c d e : Nat) : readsB (some (some [a, b, c, d, e])) b = true := by simp [readsB]
theorem on5_2 (a b c d e : Nat) : readsB (some (some [a, b, c, d, e])) c = true := by simp [readsB]
theorem on5_3 (a b c d e : Nat) : readsB (some (some [a, b, c, d, e])) d = true := by simp [readsB]
theorem on5_4 (a b c d e : Nat) : readsB (some (some [a, b, c, d, e])) e = true := by simp [readsB]
theorem lt1 {B a : Nat} (h : a < B) : ∀ x ∈ [a], x < B := by simp [h]
theorem lt2 {B a b : Nat} (h : a < B) (h2 : b < B) : ∀ x ∈ [a, b], x < B := by simp [h, h2]
theorem lt3 {B a b c : Nat} (h : a < B) (h2 : b < B) (h3 : c < B) : ∀ x ∈ [a, b, c], x < B := by simp [h, h2, h3]
theorem lt5 {B a b c d e : Nat} (h : a < B) (h2 : b < B) (h3 : c < B) (h4 : d < B) (h5 : e < B) : ∀ x ∈ [a, b, c, d, e], x < B := by simp [h, h2, h3, h4, h5]
theorem fkeep1 {B c a : Nat} (h : a < B ∧ a ≠ c) : ∀ x ∈ [a], x < B ∧ x ≠ c := by simp [h]
theorem fkeep2 {B c a b : Nat} (h : a < B ∧ a ≠ c) (h2 : b < B ∧ b ≠ c) : ∀ x ∈ [a, b], x < B ∧ x ≠ c := by simp [h, h2]
theorem ix0 (sz b o n : Nat) (h : 0 < n) : idxX (some sz) ⟨b, o, none⟩ n 0 = some (.pointer (some ⟨b, o, none⟩)) := by
  have := idxX_s sz b o n 0 h
  rwa [Nat.zero_mul, Nat.add_zero] at this
theorem W_st {P : Program} {n : Nat} {c : Code} {Q : Post} {e : Env} {w w0 : World} {G : Nat → Nat → Prop} {L : List Ob} {v0 v1 v2 v6 v7 : Value} (s : Ss w0 G w L) (h0 : e 0 = v0) (h1 : e 1 = v1) (h2 : e 2 = v2) (h6 : e 6 = v6) (h7 : e 7 = v7)
    (h : ∀ (e' : Env) (w' : World), Ss w0 G w' L → e' 0 = v0 → e' 1 = v1 → e' 2 = v2 → e' 6 = v6 → e' 7 = v7 → W P n c Q e' w') : W P n c Q e w := h e w s h0 h1 h2 h6 h7
end Go.Proofs.Ytbnnkcofnmipoaa
/-
  nodeRebalance: the merge. No condition.
-/
set_option linter.unusedSimpArgs false
set_option linter.unusedVariables false
namespace Go.Proofs.Ytbnnkcofnmipoaa
open Go Go.Proofs
set_option maxHeartbeats 4000000 in
set_option maxRecDepth 8000 in
theorem reb_merge (m d b p q bc i0 j cl cr : Nat) (iso cb : Int) (ks ls rs : List It) (k : It) (ps lp rp : List (Option Nat)) (chl chr : Value) (w0 w : World) (G : Nat → Nat → Prop) (hd : 2 ≤ d) (hd' : d ≤ 128) (hc : Cfg w0 m iso d) (hG : ∀ o, ¬ G m o)
    (s : Ss w0 G w [ndO E iso 1 b cb ks (ptr bc), ndO E iso 0 p (cl : Nat) ls chl, ndO E iso 0 q (cr : Nat) rs chr, kdO (ptr bc) ps, kdO chl lp, kdO chr rp]) (hj : (i0 = j ∧ j < ks.length) ∨ (i0 = ks.length ∧ j + 1 = ks.length)) (hkl : ks.length ≤ 2 * d - 1) (hk : ks[j]? = some k) (hps : ps.length = ks.length + 1) (hp : ps[j]? = some (some p)) (hq : ps[j + 1]? = some (some q))
    (hch : (chl = .pointer none ∧ chr = .pointer none ∧ lp = [] ∧ rp = []) ∨ ∃ lc rc, chl = ptr lc ∧ chr = ptr rc ∧ lp.length = ls.length + 1 ∧ rp.length = rs.length + 1) (hll : ls.length ≤ 2 * d - 1) (hrl : rs.length ≤ 2 * d - 1) (hcl : cl < 2305843009213693952) (hcr : cr < 2305843009213693952) (hlt : ls.length + rs.length < 2 * d - 1) :
    CallK Try.prog 151 #[ptr m, ptr b, .int .i64 (i0 : Nat)] w fun _ w' => Ss w0 G w' [ndO E iso 1 b cb (ks.eraseIdx j) (ptr bc), ndO E iso 0 p ((cl + (cr + 1) : Nat) : Int) (ls ++ k :: rs) chl, ndO E iso 0 q (cr : Nat) rs chr, kdO (ptr bc) (ps.eraseIdx (j + 1)), kdO chl (lp ++ rp), kdO chr rp] := by
  have hjn : j < ks.length := (List.getElem?_eq_some_iff.1 hk).1
  refine calls_of_W [] Try.func151 rfl Try.ntmps151 Try.results151 (by simp) fun e he => ?_
  have e0 : e 0 = ptr m := he 0 _ rfl
  have e1 : e 1 = ptr b := he 1 _ rfl
  have e2 : e 2 = .int .i64 (i0 : Nat) := he 2 _ rfl
  clear he
  refine W_sqx fun J hJ => ?_
  have hend : ∀ e, e 0 = ptr m → e 1 = ptr b → e 2 = .int .i64 j → J e w := by
    clear e0 e1 e2 e
    intro e e0 e1 e2
    refine hJ _ _ ?_; clear hJ J
    obtain ⟨nb, no, nc, on, un, vn⟩ := s.nd 0 rfl
    obtain ⟨xb, xo, xc, ox, ux⟩ := s.kd 3 rfl
    obtain ⟨lb, lo, lq, ol, ul, vl⟩ := s.nd 1 rfl
    obtain ⟨tb, to, tq, ot, ut, vt⟩ := s.nd 2 rfl
    have hiso := (hc.ext s.x fun o _ _ => hG o).iso
    have hjp : j < ps.length := by omega
    refine W_sq fun K hK => (W_text [true, true, true, true, true, true, true, true, true, false, true] (by kernel_rfl) ?_); simp only [↓List.toList_toArray, ↓rgd, ↓rgf, ↓reduceIte, Nat.reduceEqDiff, rg, ow_151, e0, e1, e2, ptr_eq, on.h3, ox.hd, hjp]
    refine do_call fn_96 (by simp only [evt, evc, upd_eq, Nat.reduceEqDiff, ↓reduceIte, maT, maC, maN, isnN, isnS] <;> rfl) (isoLoad_any m xb (xo + j) p true iso _ hiso (ox.ptr_at hp) ol.h0) ?_
    rintro _ w1 ⟨rfl, r1⟩
    refine ⟨trivial, ?_⟩
    simp only [↓List.toList_toArray, ↓rgd, ↓rgf, ↓reduceIte, Nat.reduceEqDiff, rg, ow_151]
    refine hK _ _ ?_; clear hK K
    have X1 : Ext noF w w1 := r1.ext
    have on := on.ext X1 fun _ _ _ g => g
    have ox := ox.ext0 X1
    have ot := ot.ext X1 fun _ _ _ g => g
    have hiso := X1.rd hiso fun g => g
    have q1 := wadd1 j (by omega)
    have hjp : j + 1 < ps.length := by omega
    refine W_sq fun K hK => (W_text [true, true, true, true, true, true, true, true, true, true, false, true] (by kernel_rfl) ?_); simp only [↓List.toList_toArray, ↓rgd, ↓rgf, ↓reduceIte, Nat.reduceEqDiff, rg, ow_151, e0, e1, e2, ptr_eq, on.h3, ox.hd, hjp, q1]
    refine do_call fn_96 (by simp only [evt, evc, upd_eq, Nat.reduceEqDiff, ↓reduceIte, maT, maC, maN, isnN, isnS] <;> rfl) (isoLoad_any m xb (xo + (j + 1)) q true iso _ hiso (ox.ptr_at hq) ot.h0) ?_
    rintro _ w2 ⟨rfl, r2⟩
    refine ⟨trivial, ?_⟩
    simp only [↓List.toList_toArray, ↓rgd, ↓rgf, ↓reduceIte, Nat.reduceEqDiff, rg, ow_151]
    refine hK _ _ ?_; clear hK K
    have s2 := (s.ext0 X1).ext0 r2.ext
    refine W_st s2 (by simp only [upd_eq, Nat.reduceEqDiff, ↓reduceIte]; exact e0) (by simp only [upd_eq, Nat.reduceEqDiff, ↓reduceIte]; exact e1) (by simp only [upd_eq, Nat.reduceEqDiff, ↓reduceIte]; exact e2) (by simp only [upd_eq, Nat.reduceEqDiff, ↓reduceIte] <;> rfl) (by simp only [upd_eq, Nat.reduceEqDiff, ↓reduceIte] <;> rfl) ?_
    clear s s2 e0 e1 e2 on un vn ox ux ol ul vl ot ut vt hiso X1 r1 r2 hjp q1
    clear e; intro e w s e0 e1 e2 e6 e7
    obtain ⟨lb, lo, lq, ol, ul, vl⟩ := s.nd 1 rfl
    obtain ⟨tb, to, tq, ot, ut, vt⟩ := s.nd 2 rfl
    have q1 := wadd ls.length rs.length (by omega)
    have hmx := (hc.ext s.x fun o _ _ => hG o).mx
    have hb : decide (((ls.length + rs.length : Nat) : Int) < ((2 * d - 1 : Nat) : Int)) = true := by simp; omega
    refine W_sq fun K hK => (W_draw (some none) none [(0, 0, 0), (0, 1, 0), (0, 2, 0), (0, 3, 0), (0, 4, 0), (0, 5, 0), (0, 6, 0), (0, 7, 0), (0, 8, 0), (0, 9, 0), (0, 10, 0), (0, 11, 0), (0, 12, 0), (0, 13, 0), (0, 14, 0), (0, 15, 0)] mixed (by kernel_rfl) ?_); simp only [↓List.toList_toArray, ↓rgd, ↓rgf, ↓reduceIte, Nat.reduceEqDiff, rg, ow_151, e0, e6, e7, ptr_eq, ol.h2, ot.h2, q1, hmx, hb]
    refine hK _ _ ?_; clear hK K
    refine W_true (by simp only [evt, evc, upd_eq, Nat.reduceEqDiff, ↓reduceIte, ntT, ntF] <;> rfl) ?_
    have s2 := s.ext0 (Ext.dr noF w (w.drawn + 1))
    refine W_st s2 (by simp only [upd_eq, Nat.reduceEqDiff, ↓reduceIte]; exact e0) (by simp only [upd_eq, Nat.reduceEqDiff, ↓reduceIte]; exact e1) (by simp only [upd_eq, Nat.reduceEqDiff, ↓reduceIte]; exact e2) (by simp only [upd_eq, Nat.reduceEqDiff, ↓reduceIte]; exact e6) (by simp only [upd_eq, Nat.reduceEqDiff, ↓reduceIte]; exact e7) ?_
    clear s s2 e0 e1 e2 e6 e7 ol ul vl ot ut vt q1 hmx hb
    clear e; intro e w s e0 e1 e2 e6 e7
    obtain ⟨lb, lo, lq, ol, ul, vl⟩ := s.nd 1 rfl
    obtain ⟨nb, no, nq, on, un, vn⟩ := s.nd 0 rfl
    have hkv := it_at on.row hk
    have hb_p := wok_lt ol.wb
    have L0 := on1_0 p
    refine W_sq fun K hK => (W_semi (some (some [p])) (.take false 0 (.take false 1 (.take false 2 (.take false 3 (.take false 4 (.take false 5 (.take false 6 (.take false 7 (.take true 8 (.take false 9 (.take false 10 (.take true 11 (.act 12 (.bar 13 (.take false 14 (.take false 15 (.bar 16 .nil))))))))))))))))) mixed (by kernel_rfl) ?_); simp only [↓rgm, ↓List.toList_toArray, ↓rgd, ↓rgf, ↓reduceIte, Nat.reduceEqDiff, rg, ow_151, e0, e1, e2, e6, e7, ptr_eq, ol.h2, on.h2, hjn, hkv, L0, rB_on]
    refine do_bsl rfl (rb_k k) fun w1 n1 => ⟨.inr (n1.keep _ (lt1 hb_p)), ?_⟩
    simp only [↓List.toList_toArray, ↓rgd, ↓rgf, ↓reduceIte, Nat.reduceEqDiff, rg, ow_151, ↓rgm]
    have n1 := n1.od
    have a1 := ol.se.ext0 n1.ext
    refine do_append (by simp only [evt, evc, upd_eq, Nat.reduceEqDiff, ↓reduceIte, ntT, ntF] <;> rfl) (by simp only [evt, evc, upd_eq, Nat.reduceEqDiff, ↓reduceIte, ntT, ntF] <;> rfl) rb_eli rfl ni_25 a1.slV (u := .slice (some ⟨w.heap.size, 0, none⟩) 1 1) (m := 1) (l' := E.cel k) ⟨rfl, .inr ⟨_, 0, 1, rfl, Nat.le_refl _, n1.row, n1.wok.R (Nat.le_refl _)⟩⟩ (by omega) (by decide) (E.one _) fun v2 w2 a2 => ⟨trivial, ?_⟩
    obtain ⟨gb, go, gc, rfl, wk2, -, nx⟩ := a1.app' (ls := [k]) rfl (by rw [flat_one]; exact a2)
    simp only [↓List.toList_toArray, ↓rgd, ↓rgf, ↓reduceIte, Nat.reduceEqDiff, rg, ow_151, ↓rgm]
    refine do_store (by simp only [evt, evc, upd_eq, Nat.reduceEqDiff, ↓reduceIte, ntT, ntF] <;> rfl) (by simp only [evt, evc, upd_eq, Nat.reduceEqDiff, ↓reduceIte, ntT, ntF] <;> rfl) sz_25 rfl wk2 (by decide) (oc_one rfl rfl) fun w3 x3 r3 s3 => ⟨trivial, ?_⟩
    simp only [↓List.toList_toArray, ↓rgd, ↓rgf, ↓reduceIte, Nat.reduceEqDiff, rg, ow_151, ↓rgm]
    refine hK _ _ ?_; clear hK K
    obtain ⟨g1, g2, g3⟩ := nx w3 x3 (Row.cons.1 r3).1
    have s2 : Ss w0 G w3 [ndO E iso 1 b cb ks (ptr bc), ndO E iso 0 p (cl : Nat) (ls ++ [k]) chl, ndO E iso 0 q (cr : Nat) rs chr, kdO (ptr bc) ps, kdO chl lp, kdO chr rp] := ul g1 (n1.ext.trans g2 (fun _ _ h => h.elim) fun _ _ _ h => h) (g3.imp id fun h => ⟨(by have := n1.size; omega), Nat.zero_le _⟩)
    refine W_st s2 (by simp only [upd_eq, Nat.reduceEqDiff, ↓reduceIte]; exact e0) (by simp only [upd_eq, Nat.reduceEqDiff, ↓reduceIte]; exact e1) (by simp only [upd_eq, Nat.reduceEqDiff, ↓reduceIte]; exact e2) (by simp only [upd_eq, Nat.reduceEqDiff, ↓reduceIte]; exact e6) (by simp only [upd_eq, Nat.reduceEqDiff, ↓reduceIte]; exact e7) ?_
    clear s s2 e0 e1 e2 e6 e7 ol ul vl on un vn wk2 nx x3 r3 s3 g1 g2 g3 hkv hb_p n1 a1 a2 L0
    clear e; intro e w s e0 e1 e2 e6 e7
    obtain ⟨lb, lo, lq, ol, ul, vl⟩ := s.nd 1 rfl
    obtain ⟨tb, to, tq, ot, ut, vt⟩ := s.nd 2 rfl
    refine W_sq fun K hK => (W_semi (some none) (.take false 0 (.take false 1 (.take false 2 (.take false 3 (.take true 4 (.take false 5 (.take false 6 (.take false 7 (.take true 8 (.bar 9 (.take false 10 (.take false 11 (.bar 12 .nil))))))))))))) mixed (by kernel_rfl) ?_); simp only [↓rgm, ↓List.toList_toArray, ↓rgd, ↓rgf, ↓reduceIte, Nat.reduceEqDiff, rg, ow_151, e0, e1, e2, e6, e7, ptr_eq, ol.h2, ot.h2]
    have a1 := ol.se.ext0 (Ext.dr noF w (w.drawn + 1))
    refine do_append (by simp only [evt, evc, upd_eq, Nat.reduceEqDiff, ↓reduceIte, ntT, ntF] <;> rfl) (by simp only [evt, evc, upd_eq, Nat.reduceEqDiff, ↓reduceIte, ntT, ntF] <;> rfl) rb_eli rfl ni_25 a1.slV (ot.se.ext0 (Ext.dr noF w (w.drawn + 1))).slV (by simp only [List.length_append, List.length_singleton]; omega) (by decide) (flat_oc E _) fun v2 w2 a2 => ⟨trivial, ?_⟩
    obtain ⟨gb, go, gc, rfl, wk2, -, nx⟩ := a1.app' (ls := rs) rfl a2
    simp only [↓List.toList_toArray, ↓rgd, ↓rgf, ↓reduceIte, Nat.reduceEqDiff, rg, ow_151, ↓rgm]
    refine do_store (by simp only [evt, evc, upd_eq, Nat.reduceEqDiff, ↓reduceIte, ntT, ntF] <;> rfl) (by simp only [evt, evc, upd_eq, Nat.reduceEqDiff, ↓reduceIte, ntT, ntF] <;> rfl) sz_25 rfl wk2 (by decide) (oc_one rfl rfl) fun w3 x3 r3 s3 => ⟨trivial, ?_⟩
    simp only [↓List.toList_toArray, ↓rgd, ↓rgf, ↓reduceIte, Nat.reduceEqDiff, rg, ow_151, ↓rgm]
    refine hK _ _ ?_; clear hK K
    obtain ⟨g1, g2, g3⟩ := nx w3 x3 (Row.cons.1 r3).1
    have s2 : Ss w0 G w3 [ndO E iso 1 b cb ks (ptr bc), ndO E iso 0 p (cl : Nat) ((ls ++ [k]) ++ rs) chl, ndO E iso 0 q (cr : Nat) rs chr, kdO (ptr bc) ps, kdO chl lp, kdO chr rp] := ul g1 ((Ext.dr noF w (w.drawn + 1)).trans g2 (fun _ _ h => h.elim) fun _ _ _ h => h) (g3.imp id fun h => ⟨h, Nat.zero_le _⟩)
    refine W_st s2 (by simp only [upd_eq, Nat.reduceEqDiff, ↓reduceIte]; exact e0) (by simp only [upd_eq, Nat.reduceEqDiff, ↓reduceIte]; exact e1) (by simp only [upd_eq, Nat.reduceEqDiff, ↓reduceIte]; exact e2) (by simp only [upd_eq, Nat.reduceEqDiff, ↓reduceIte]; exact e6) (by simp only [upd_eq, Nat.reduceEqDiff, ↓reduceIte]; exact e7) ?_
    clear s s2 e0 e1 e2 e6 e7 ol ul vl ot ut vt wk2 nx x3 r3 s3 g1 g2 g3 a1 a2
    clear e; intro e w s e0 e1 e2 e6 e7
    refine W_sqx fun J hJ => ?_
    have hend : ∀ e w, Ss w0 G w [ndO E iso 1 b cb ks (ptr bc), ndO E iso 0 p (cl : Nat) ((ls ++ [k]) ++ rs) chl, ndO E iso 0 q (cr : Nat) rs chr, kdO (ptr bc) ps, kdO chl (lp ++ rp), kdO chr rp] → e 0 = ptr m → e 1 = ptr b → e 2 = .int .i64 j → e 6 = ptr p → e 7 = ptr q → J e w := by
      clear s e0 e1 e2 e6 e7 e w
      intro e w s e0 e1 e2 e6 e7
      refine hJ _ _ ?_; clear hJ J
      obtain ⟨lb, lo, lq, ol, ul, vl⟩ := s.nd 1 rfl
      obtain ⟨tb, to, tq, ot, ut, vt⟩ := s.nd 2 rfl
      have q1 := wadd1 cr (by omega)
      have q2 := wadd cl (cr + 1) (by omega)
      refine W_sq fun K hK => (W_draw (some none) (some 12) [(0, 0, 0), (0, 1, 0), (0, 2, 0), (0, 3, 0), (0, 4, 0), (0, 5, 0), (0, 6, 0), (0, 7, 0), (0, 8, 0), (0, 9, 0), (0, 10, 0), (0, 11, 0), (1, 12, 0)] mixed (by kernel_rfl) ?_); simp only [↓List.toList_toArray, ↓rgd, ↓rgf, ↓reduceIte, Nat.reduceEqDiff, rg, ow_151, e0, e1, e2, e6, e7, ptr_eq, ol.h1, ot.h1, q1, q2]
      refine do_store (by simp only [evt, evc, upd_eq, Nat.reduceEqDiff, ↓reduceIte, ntT, ntF] <;> rfl) (by simp only [evt, evc, upd_eq, Nat.reduceEqDiff, ↓reduceIte, ntT, ntF] <;> rfl) sz_3 rfl ol.wb (by decide) (oc_one rfl rfl) fun w3 x3 r3 s3 => ⟨(by first | exact trivial | exact .inl trivial), ?_⟩
      simp only [↓List.toList_toArray, ↓rgd, ↓rgf, ↓reduceIte, Nat.reduceEqDiff, rg, ow_151, ↓rgm]
      refine hK _ _ ?_; clear hK K
      have s2 : Ss w0 G w3 [ndO E iso 1 b cb ks (ptr bc), ndO E iso 0 p ((cl + (cr + 1) : Nat) : Int) ((ls ++ [k]) ++ rs) chl, ndO E iso 0 q (cr : Nat) rs chr, kdO (ptr bc) ps, kdO chl (lp ++ rp), kdO chr rp] := vl x3.od (Row.cons.1 r3).1
      refine W_st s2 (by simp only [upd_eq, Nat.reduceEqDiff, ↓reduceIte]; exact e0) (by simp only [upd_eq, Nat.reduceEqDiff, ↓reduceIte]; exact e1) (by simp only [upd_eq, Nat.reduceEqDiff, ↓reduceIte]; exact e2) (by simp only [upd_eq, Nat.reduceEqDiff, ↓reduceIte]; exact e6) (by simp only [upd_eq, Nat.reduceEqDiff, ↓reduceIte]; exact e7) ?_
      clear s s2 e0 e1 e2 e6 e7 ol ul vl ot ut vt x3 r3 s3  q1 q2
      clear e; intro e w s e0 e1 e2 e6 e7
      obtain ⟨nb, no, nq, on, un, vn⟩ := s.nd 0 rfl
      have q1 := wadd1 j (by omega)
      have hil : j < ks.length := hjn
      have hic := on.se.le
      obtain ⟨o1, h1, h1', -, k1⟩ := on.se.from E_sz (j) (by omega)
      have h1' := h1' (by omega)
      try simp only [Nat.mul_one] at h1'
      subst h1'
      have i1 : j ≤ ks.length := by omega
      obtain ⟨o2, h2, -, v2, -⟩ := on.se.from E_sz (j + 1) (by omega)
      have i2 : (j + 1) ≤ ks.length := by omega
      refine W_sq fun K hK => (W_draw (some none) (some 13) [(0, 0, 0), (0, 1, 0), (0, 2, 0), (0, 3, 0), (0, 4, 0), (0, 5, 0), (0, 6, 0), (0, 7, 0), (0, 8, 0), (0, 9, 0), (0, 10, 0), (0, 11, 0), (0, 12, 0), (1, 13, 0)] mixed (by kernel_rfl) ?_); simp only [↓List.toList_toArray, ↓rgd, ↓rgf, ↓reduceIte, Nat.reduceEqDiff, rg, ow_151, e0, e1, e2, e6, e7, ptr_eq, on.h2, q1, i1, h1, i2, h2]
      refine do_copy (by simp only [evt, evc, upd_eq, Nat.reduceEqDiff, ↓reduceIte, ntT, ntF] <;> rfl) (by simp only [evt, evc, upd_eq, Nat.reduceEqDiff, ↓reduceIte, ntT, ntF] <;> rfl) rb_eli (SlV.ext0 v2 (Ext.dr noF w (w.drawn + 1))) ((Ext.dr noF w (w.drawn + 1)).wok k1) (flat_oc E _) fun w3 x3 r3 s3 => ⟨(by first | exact trivial | exact .inl trivial), ?_⟩
      simp only [↓List.toList_toArray, ↓rgd, ↓rgf, ↓reduceIte, Nat.reduceEqDiff, rg, ow_151, ↓rgm]
      refine hK _ _ ?_; clear hK K
      have hm : min (ks.length - (j + 1)) (ks.length - j) = ks.length - 1 - j := by omega
      rw [hm] at x3 r3
      rw [List.take_of_length_le (by rw [flat_length, List.length_drop, E_sz]; omega)] at r3
      obtain ⟨z, g1, g2⟩ := on.se.down (i := j) hil (by simp only [E_sz, Nat.mul_one]; (try simp only [Nat.mul_one] at x3); exact x3.od) (by simp only [E_sz, Nat.mul_one]; (try simp only [Nat.mul_one] at r3); exact r3)
      have s2 : Ss w0 G w3 [ndO E iso 1 b cb (ks.eraseIdx j ++ [z]) (ptr bc), ndO E iso 0 p ((cl + (cr + 1) : Nat) : Int) ((ls ++ [k]) ++ rs) chl, ndO E iso 0 q (cr : Nat) rs chr, kdO (ptr bc) ps, kdO chl (lp ++ rp), kdO chr rp] := un g1 g2 (.inl ⟨rfl, rfl, rfl⟩)
      refine W_st s2 (by simp only [upd_eq, Nat.reduceEqDiff, ↓reduceIte]; exact e0) (by simp only [upd_eq, Nat.reduceEqDiff, ↓reduceIte]; exact e1) (by simp only [upd_eq, Nat.reduceEqDiff, ↓reduceIte]; exact e2) (by simp only [upd_eq, Nat.reduceEqDiff, ↓reduceIte]; exact e6) (by simp only [upd_eq, Nat.reduceEqDiff, ↓reduceIte]; exact e7) ?_
      clear s s2 e0 e1 e2 e6 e7 on un vn x3 r3 s3 g1 g2 hm hil hic v2 h2 i2 q1 h1 i1 k1 
      clear e; intro e w s e0 e1 e2 e6 e7
      obtain ⟨nb, no, nq, on, un, vn⟩ := s.nd 0 rfl
      have hA : (ks.eraseIdx j ++ [z]).length = ks.length := by rw [List.length_append, List.length_singleton]; have := List.length_eraseIdx_of_lt hjn; omega
      have h2 := on.se.hd
      rw [hA] at h2
      have q1 := wsub1 (ks.length) (by omega) (by omega)
      have hi : ks.length - 1 < ks.length := by omega
      have z4 := zIt_at (hc.ext s.x fun o _ _ => hG o)
      refine W_sq fun K hK => (W_draw (some none) (some 15) [(0, 0, 0), (0, 1, 0), (0, 2, 0), (0, 3, 0), (0, 4, 0), (0, 5, 0), (0, 6, 0), (0, 7, 0), (0, 8, 0), (0, 9, 0), (0, 10, 0), (0, 11, 0), (0, 12, 0), (0, 13, 0), (0, 14, 0), (1, 15, 0)] mixed (by kernel_rfl) ?_); simp only [↓List.toList_toArray, ↓rgd, ↓rgf, ↓reduceIte, Nat.reduceEqDiff, rg, ow_151, e0, e1, e2, e6, e7, ptr_eq, h2, q1, hi, z4]
      refine do_store (by simp only [evt, evc, upd_eq, Nat.reduceEqDiff, ↓reduceIte, ntT, ntF] <;> rfl) (by simp only [evt, evc, upd_eq, Nat.reduceEqDiff, ↓reduceIte, ntT, ntF] <;> rfl) sz_33 (rb_len zIt) on.se.wi (by have := on.se.le; rw [E_sz]; rw [hA] at this; omega) (rb_oc zIt) fun w3 x3 r3 s3 => ⟨(by first | exact trivial | exact .inl trivial), ?_⟩
      simp only [↓List.toList_toArray, ↓rgd, ↓rgf, ↓reduceIte, Nat.reduceEqDiff, rg, ow_151, ↓rgm]
      refine hK _ _ ?_; clear hK K
      obtain ⟨g1, g2⟩ := on.se.set (i := ks.length - 1) (x := zIt) (by rw [hA]; omega) (by simp only [E_sz, Nat.mul_one]; exact x3.od) (by simp only [E_sz, Nat.mul_one]; exact r3)
      have hs : (ks.eraseIdx j ++ [z]).set (ks.length - 1) zIt = ks.eraseIdx j ++ [zIt] := by rw [show ks.length - 1 = (ks.eraseIdx j).length by have := List.length_eraseIdx_of_lt hjn; omega]; exact set_last
      rw [hs] at g1
      have s2 : Ss w0 G w3 [ndO E iso 1 b cb (ks.eraseIdx j ++ [zIt]) (ptr bc), ndO E iso 0 p ((cl + (cr + 1) : Nat) : Int) ((ls ++ [k]) ++ rs) chl, ndO E iso 0 q (cr : Nat) rs chr, kdO (ptr bc) ps, kdO chl (lp ++ rp), kdO chr rp] := un g1 g2 (.inl ⟨rfl, rfl, rfl⟩)
      refine W_st s2 (by simp only [upd_eq, Nat.reduceEqDiff, ↓reduceIte]; exact e0) (by simp only [upd_eq, Nat.reduceEqDiff, ↓reduceIte]; exact e1) (by simp only [upd_eq, Nat.reduceEqDiff, ↓reduceIte]; exact e2) (by simp only [upd_eq, Nat.reduceEqDiff, ↓reduceIte]; exact e6) (by simp only [upd_eq, Nat.reduceEqDiff, ↓reduceIte]; exact e7) ?_
      clear s s2 e0 e1 e2 e6 e7 on un vn x3 r3 s3 g1 g2 hA h2 q1 hi z4 hs
      clear e; intro e w s e0 e1 e2 e6 e7
      obtain ⟨nb, no, nq, on, un, vn⟩ := s.nd 0 rfl
      have hA : ((ks.eraseIdx j) ++ [zIt]).length = ks.length := by rw [List.length_append, List.length_singleton]; have := List.length_eraseIdx_of_lt hjn; omega
      have h2 := on.se.hd
      have h4 := on.se.le
      rw [hA] at h2 h4
      have q1 := wsub1 (ks.length) (by omega) (by omega)
      have hi : ks.length - 1 ≤ nq := by omega
      refine W_sq fun K hK => (W_draw (some none) (some 14) [(0, 0, 0), (0, 1, 0), (0, 2, 0), (0, 3, 0), (0, 4, 0), (0, 5, 0), (0, 6, 0), (0, 7, 0), (0, 8, 0), (0, 9, 0), (0, 10, 0), (0, 11, 0), (0, 12, 0), (0, 13, 0), (1, 14, 0)] mixed (by kernel_rfl) ?_); simp only [↓List.toList_toArray, ↓rgd, ↓rgf, ↓reduceIte, Nat.reduceEqDiff, rg, ow_151, e0, e1, e2, e6, e7, ptr_eq, h2, q1, hi]
      refine do_store (by simp only [evt, evc, upd_eq, Nat.reduceEqDiff, ↓reduceIte, ntT, ntF] <;> rfl) (by simp only [evt, evc, upd_eq, Nat.reduceEqDiff, ↓reduceIte, ntT, ntF] <;> rfl) sz_25 rfl on.se.hok (by decide) (oc_one rfl rfl) fun w3 x3 r3 s3 => ⟨(by first | exact trivial | exact .inl trivial), ?_⟩
      simp only [↓List.toList_toArray, ↓rgd, ↓rgf, ↓reduceIte, Nat.reduceEqDiff, rg, ow_151, ↓rgm]
      refine hK _ _ ?_; clear hK K
      obtain ⟨g1, g2⟩ := on.se.cut x3.od (by rw [show ((ks.eraseIdx j)).length = ks.length - 1 by have := List.length_eraseIdx_of_lt hjn; omega]; exact (Row.cons.1 r3).1)
      have s2 : Ss w0 G w3 [ndO E iso 1 b cb (ks.eraseIdx j) (ptr bc), ndO E iso 0 p ((cl + (cr + 1) : Nat) : Int) ((ls ++ [k]) ++ rs) chl, ndO E iso 0 q (cr : Nat) rs chr, kdO (ptr bc) ps, kdO chl (lp ++ rp), kdO chr rp] := un g1 g2 (.inl ⟨rfl, rfl, rfl⟩)
      refine W_st s2 (by simp only [upd_eq, Nat.reduceEqDiff, ↓reduceIte]; exact e0) (by simp only [upd_eq, Nat.reduceEqDiff, ↓reduceIte]; exact e1) (by simp only [upd_eq, Nat.reduceEqDiff, ↓reduceIte]; exact e2) (by simp only [upd_eq, Nat.reduceEqDiff, ↓reduceIte]; exact e6) (by simp only [upd_eq, Nat.reduceEqDiff, ↓reduceIte]; exact e7) ?_
      clear s s2 e0 e1 e2 e6 e7 on un vn x3 r3 s3 g1 g2 hA h2 h4 q1 hi
      clear e; intro e w s e0 e1 e2 e6 e7
      have hjp : j + 1 < ps.length := by omega
      obtain ⟨nb, no, nq, on, un, vn⟩ := s.nd 0 rfl
      obtain ⟨xb, xo, xq, ox, ux⟩ := s.kd 3 rfl
      have q1 := wadd1 j (by omega)
      have q2 : IntKind.i64.wrap ((j : Int) + 2) = ((j + 1 + 1 : Nat) : Int) := wadd j 2 (by omega)
      have hil : (j + 1) < ps.length := hjp
      have hic := ox.le
      obtain ⟨o1, h1, h1', -, k1⟩ := ox.from Eo_sz ((j + 1)) (by omega)
      have h1' := h1' (by omega)
      try simp only [Nat.mul_one] at h1'
      subst h1'
      have i1 : (j + 1) ≤ ps.length := by omega
      obtain ⟨o2, h2, -, v2, -⟩ := ox.from Eo_sz ((j + 1) + 1) (by omega)
      have i2 : ((j + 1) + 1) ≤ ps.length := by omega
      refine W_sq fun K hK => (W_draw (some none) (some 18) [(0, 0, 0), (0, 1, 0), (0, 2, 0), (0, 3, 0), (0, 4, 0), (0, 5, 0), (0, 6, 0), (0, 7, 0), (0, 8, 0), (0, 9, 0), (0, 10, 0), (0, 11, 0), (0, 12, 0), (0, 13, 0), (0, 14, 0), (0, 15, 0), (0, 16, 0), (0, 17, 0), (1, 18, 0)] mixed (by kernel_rfl) ?_); simp only [↓List.toList_toArray, ↓rgd, ↓rgf, ↓reduceIte, Nat.reduceEqDiff, rg, ow_151, e0, e1, e2, e6, e7, ptr_eq, on.h3, ox.hd, q1, q2, i1, h1, i2, h2]
      refine do_copy (by simp only [evt, evc, upd_eq, Nat.reduceEqDiff, ↓reduceIte, ntT, ntF] <;> rfl) (by simp only [evt, evc, upd_eq, Nat.reduceEqDiff, ↓reduceIte, ntT, ntF] <;> rfl) rb_elk (SlV.ext0 v2 (Ext.dr noF w (w.drawn + 1))) ((Ext.dr noF w (w.drawn + 1)).wok k1) (flat_oc Eo _) fun w3 x3 r3 s3 => ⟨(by first | exact trivial | exact .inl trivial), ?_⟩
      simp only [↓List.toList_toArray, ↓rgd, ↓rgf, ↓reduceIte, Nat.reduceEqDiff, rg, ow_151, ↓rgm]
      refine hK _ _ ?_; clear hK K
      have hm : min (ps.length - ((j + 1) + 1)) (ps.length - (j + 1)) = ps.length - 1 - (j + 1) := by omega
      rw [hm] at x3 r3
      rw [List.take_of_length_le (by rw [flat_length, List.length_drop, Eo_sz]; omega)] at r3
      obtain ⟨z, g1, g2⟩ := ox.down (i := (j + 1)) hil (by simpa only [Eo_sz, Nat.mul_one, Nat.zero_mul, Nat.add_zero] using x3.od) (by simpa only [Eo_sz, Nat.mul_one, Nat.zero_mul, Nat.add_zero] using r3)
      have s2 : Ss w0 G w3 [ndO E iso 1 b cb (ks.eraseIdx j) (ptr bc), ndO E iso 0 p ((cl + (cr + 1) : Nat) : Int) ((ls ++ [k]) ++ rs) chl, ndO E iso 0 q (cr : Nat) rs chr, kdO (ptr bc) (ps.eraseIdx (j + 1) ++ [z]), kdO chl (lp ++ rp), kdO chr rp] := ux g1 g2 (.inl ⟨rfl, rfl, rfl⟩)
      refine W_st s2 (by simp only [upd_eq, Nat.reduceEqDiff, ↓reduceIte]; exact e0) (by simp only [upd_eq, Nat.reduceEqDiff, ↓reduceIte]; exact e1) (by simp only [upd_eq, Nat.reduceEqDiff, ↓reduceIte]; exact e2) (by simp only [upd_eq, Nat.reduceEqDiff, ↓reduceIte]; exact e6) (by simp only [upd_eq, Nat.reduceEqDiff, ↓reduceIte]; exact e7) ?_
      clear s s2 e0 e1 e2 e6 e7 on un vn ox ux x3 r3 s3 g1 g2 hm hil hic v2 h2 i2 q1 q2 h1 i1 k1 
      clear e; intro e w s e0 e1 e2 e6 e7
      obtain ⟨nb, no, nq, on, un, vn⟩ := s.nd 0 rfl
      obtain ⟨xb, xo, xq, ox, ux⟩ := s.kd 3 rfl
      have hA : (ps.eraseIdx (j + 1) ++ [z]).length = ps.length := by rw [List.length_append, List.length_singleton]; have := List.length_eraseIdx_of_lt hjp; omega
      have h2 := ox.hd
      rw [hA] at h2
      have q1 := wsub1 (ps.length) (by omega) (by omega)
      have hi : ps.length - 1 < ps.length := by omega
      refine W_sq fun K hK => (W_draw (some none) (some 15) [(0, 0, 0), (0, 1, 0), (0, 2, 0), (0, 3, 0), (0, 4, 0), (0, 5, 0), (0, 6, 0), (0, 7, 0), (0, 8, 0), (0, 9, 0), (0, 10, 0), (0, 11, 0), (0, 12, 0), (0, 13, 0), (0, 14, 0), (1, 15, 0)] mixed (by kernel_rfl) ?_); simp only [↓List.toList_toArray, ↓rgd, ↓rgf, ↓reduceIte, Nat.reduceEqDiff, rg, ow_151, e0, e1, e2, e6, e7, ptr_eq, on.h3, h2, q1, hi]
      refine do_store (by simp only [evt, evc, upd_eq, Nat.reduceEqDiff, ↓reduceIte, ntT, ntF] <;> rfl) (by simp only [evt, evc, upd_eq, Nat.reduceEqDiff, ↓reduceIte, ntT, ntF] <;> rfl) sz_96 rfl ox.wi (by have := ox.le; rw [Eo_sz]; rw [hA] at this; omega) (oc_one rfl rfl) fun w3 x3 r3 s3 => ⟨(by first | exact trivial | exact .inl trivial), ?_⟩
      simp only [↓List.toList_toArray, ↓rgd, ↓rgf, ↓reduceIte, Nat.reduceEqDiff, rg, ow_151, ↓rgm]
      refine hK _ _ ?_; clear hK K
      obtain ⟨g1, g2⟩ := ox.set (i := ps.length - 1) (x := none) (by rw [hA]; omega) (by rw [Eo_sz, Nat.mul_one]; exact x3.od) (by rw [Eo_sz, Nat.mul_one]; exact r3)
      have hs : (ps.eraseIdx (j + 1) ++ [z]).set (ps.length - 1) none = ps.eraseIdx (j + 1) ++ [none] := by rw [show ps.length - 1 = (ps.eraseIdx (j + 1)).length by have := List.length_eraseIdx_of_lt hjp; omega]; exact set_last
      rw [hs] at g1
      have s2 : Ss w0 G w3 [ndO E iso 1 b cb (ks.eraseIdx j) (ptr bc), ndO E iso 0 p ((cl + (cr + 1) : Nat) : Int) ((ls ++ [k]) ++ rs) chl, ndO E iso 0 q (cr : Nat) rs chr, kdO (ptr bc) (ps.eraseIdx (j + 1) ++ [none]), kdO chl (lp ++ rp), kdO chr rp] := ux g1 g2 (.inl ⟨rfl, rfl, rfl⟩)
      refine W_st s2 (by simp only [upd_eq, Nat.reduceEqDiff, ↓reduceIte]; exact e0) (by simp only [upd_eq, Nat.reduceEqDiff, ↓reduceIte]; exact e1) (by simp only [upd_eq, Nat.reduceEqDiff, ↓reduceIte]; exact e2) (by simp only [upd_eq, Nat.reduceEqDiff, ↓reduceIte]; exact e6) (by simp only [upd_eq, Nat.reduceEqDiff, ↓reduceIte]; exact e7) ?_
      clear s s2 e0 e1 e2 e6 e7 on un vn ox ux x3 r3 s3 g1 g2 hA h2 q1 hi hs
      clear e; intro e w s e0 e1 e2 e6 e7
      obtain ⟨nb, no, nq, on, un, vn⟩ := s.nd 0 rfl
      obtain ⟨xb, xo, xq, ox, ux⟩ := s.kd 3 rfl
      have hA : ((ps.eraseIdx (j + 1)) ++ [none]).length = ps.length := by rw [List.length_append, List.length_singleton]; have := List.length_eraseIdx_of_lt hjp; omega
      have h2 := ox.hd
      have h4 := ox.le
      rw [hA] at h2 h4
      have q1 := wsub1 (ps.length) (by omega) (by omega)
      have hi : ps.length - 1 ≤ xq := by omega
      refine W_rg fun K hK => (W_draw (some none) (some 20) [(0, 0, 0), (0, 1, 0), (0, 2, 0), (0, 3, 0), (0, 4, 0), (0, 5, 0), (0, 6, 0), (0, 7, 0), (0, 8, 0), (0, 9, 0), (0, 10, 0), (0, 11, 0), (0, 12, 0), (0, 13, 0), (0, 14, 0), (0, 15, 0), (0, 16, 0), (0, 17, 0), (0, 18, 0), (0, 19, 0), (1, 20, 0)] mixed (by kernel_rfl) ?_); simp only [↓List.toList_toArray, ↓rgd, ↓rgf, ↓reduceIte, Nat.reduceEqDiff, rg, ow_151, e0, e1, e2, e6, e7, ptr_eq, on.h3, h2, q1, hi]
      refine do_store (by simp only [evt, evc, upd_eq, Nat.reduceEqDiff, ↓reduceIte, ntT, ntF] <;> rfl) (by simp only [evt, evc, upd_eq, Nat.reduceEqDiff, ↓reduceIte, ntT, ntF] <;> rfl) sz_166 rfl ox.hok (by decide) (oc_one rfl rfl) fun w3 x3 r3 s3 => ⟨(by first | exact trivial | exact .inl trivial), ?_⟩
      simp only [↓List.toList_toArray, ↓rgd, ↓rgf, ↓reduceIte, Nat.reduceEqDiff, rg, ow_151, ↓rgm]
      refine hK _ _ ?_; clear hK K
      obtain ⟨g1, g2⟩ := ox.cut x3.od (by rw [show ((ps.eraseIdx (j + 1))).length = ps.length - 1 by have := List.length_eraseIdx_of_lt hjp; omega]; exact (Row.cons.1 r3).1)
      have s2 : Ss w0 G w3 [ndO E iso 1 b cb (ks.eraseIdx j) (ptr bc), ndO E iso 0 p ((cl + (cr + 1) : Nat) : Int) ((ls ++ [k]) ++ rs) chl, ndO E iso 0 q (cr : Nat) rs chr, kdO (ptr bc) (ps.eraseIdx (j + 1)), kdO chl (lp ++ rp), kdO chr rp] := ux g1 g2 (.inl ⟨rfl, rfl, rfl⟩)
      show endQ _ _ _ _ _ _
      refine endQ_0n ?_
      rw [List.append_assoc] at s2
      exact s2
    obtain ⟨lb, lo, lq, ol, ul, vl⟩ := s.nd 1 rfl
    rcases hch with ⟨rfl, rfl, rfl, rfl⟩ | ⟨lc, rc, rfl, rfl, hlp, hrp⟩
    · refine W_sq fun K hK => (W_text [true, false, true] (by kernel_rfl) ?_); simp only [↓List.toList_toArray, ↓rgd, ↓rgf, ↓reduceIte, Nat.reduceEqDiff, rg, ow_151, e6]
      refine do_call fn_108 (by simp only [evt, evc, upd_eq, Nat.reduceEqDiff, ↓reduceIte, maT, maC, maN, isnN, isnS] <;> rfl) (leaf_any p none w ol.h3) ?_
      rintro _ w1 ⟨rfl, hw1⟩
      obtain rfl : w = w1 := hw1.symm
      refine ⟨trivial, ?_⟩
      simp only [↓List.toList_toArray, ↓rgd, ↓rgf, ↓reduceIte, Nat.reduceEqDiff, rg, ow_151]
      refine hK _ _ ?_; clear hK K
      refine W_false (by simp only [evt, evc, upd_eq, Nat.reduceEqDiff, ↓reduceIte, ntT, ntF] <;> rfl) (W_skip ?_)
      exact hend _ _ s (by simp only [upd_eq, Nat.reduceEqDiff, ↓reduceIte]; exact e0) (by simp only [upd_eq, Nat.reduceEqDiff, ↓reduceIte]; exact e1) (by simp only [upd_eq, Nat.reduceEqDiff, ↓reduceIte]; exact e2) (by simp only [upd_eq, Nat.reduceEqDiff, ↓reduceIte]; exact e6) (by simp only [upd_eq, Nat.reduceEqDiff, ↓reduceIte]; exact e7)
    · refine W_sq fun K hK => (W_text [true, false, true] (by kernel_rfl) ?_); simp only [↓List.toList_toArray, ↓rgd, ↓rgf, ↓reduceIte, Nat.reduceEqDiff, rg, ow_151, e6]
      refine do_call fn_108 (by simp only [evt, evc, upd_eq, Nat.reduceEqDiff, ↓reduceIte, maT, maC, maN, isnN, isnS] <;> rfl) (leaf_any p (some ⟨lc, 0, none⟩) w ol.h3) ?_
      rintro _ w1 ⟨rfl, hw1⟩
      obtain rfl : w = w1 := hw1.symm
      refine ⟨trivial, ?_⟩
      simp only [↓List.toList_toArray, ↓rgd, ↓rgf, ↓reduceIte, Nat.reduceEqDiff, rg, ow_151]
      refine hK _ _ ?_; clear hK K
      refine W_true (by simp only [evt, evc, upd_eq, Nat.reduceEqDiff, ↓reduceIte, ntT, ntF] <;> rfl) ?_
      refine W_st s (by simp only [upd_eq, Nat.reduceEqDiff, ↓reduceIte]; exact e0) (by simp only [upd_eq, Nat.reduceEqDiff, ↓reduceIte]; exact e1) (by simp only [upd_eq, Nat.reduceEqDiff, ↓reduceIte]; exact e2) (by simp only [upd_eq, Nat.reduceEqDiff, ↓reduceIte]; exact e6) (by simp only [upd_eq, Nat.reduceEqDiff, ↓reduceIte]; exact e7) ?_
      clear s e0 e1 e2 e6 e7 ol ul vl
      clear e; intro e w s e0 e1 e2 e6 e7
      obtain ⟨lb, lo, lq, ol, ul, vl⟩ := s.nd 1 rfl
      obtain ⟨yb, yo, yq, oy, uy, fn, fk⟩ := s.kdx 4 rfl (by omega)
      obtain ⟨tb, to, tq, ot, ut, vt⟩ := s.nd 2 rfl
      obtain ⟨zb, zo, zq, oz, uz⟩ := s.kd 5 rfl
      have L0 := on1_0 p
      refine W_rg fun K hK => (W_semi (some (some [p])) (.take false 0 (.take false 1 (.take false 2 (.take false 3 (.take false 4 (.take false 5 (.take false 6 (.take true 7 (.take false 8 (.take true 9 (.take false 10 (.take false 11 (.take false 12 (.take true 13 (.take false 14 (.take true 15 (.act 16 (.take false 17 (.bar 18 .nil))))))))))))))))))) mixed (by kernel_rfl) ?_); simp only [↓rgm, ↓List.toList_toArray, ↓rgd, ↓rgf, ↓reduceIte, Nat.reduceEqDiff, rg, ow_151, e0, e1, e2, e6, e7, ptr_eq, ol.h3, oy.hd, ot.h3, oz.hd, L0, rB_on]
      have a1 := oy.ext0 (Ext.dr noF w (w.drawn + 1))
      refine do_append (by simp only [evt, evc, upd_eq, Nat.reduceEqDiff, ↓reduceIte, ntT, ntF] <;> rfl) (by simp only [evt, evc, upd_eq, Nat.reduceEqDiff, ↓reduceIte, ntT, ntF] <;> rfl) rb_elk rfl ni_166 a1.slV (oz.ext0 (Ext.dr noF w (w.drawn + 1))).slV (by omega) (by decide) (flat_oc Eo _) fun v2 w2 a2 => ⟨.inr (app_keep a2 _ (fkeep1 ⟨wok_lt ol.wb, fn 1 (by decide) rfl⟩)), ?_⟩
      obtain ⟨gb, go, gc, rfl, wk2, -, nx⟩ := a1.app' (ls := rp) rfl a2
      simp only [↓List.toList_toArray, ↓rgd, ↓rgf, ↓reduceIte, Nat.reduceEqDiff, rg, ow_151, ↓rgm]
      refine do_store (by simp only [evt, evc, upd_eq, Nat.reduceEqDiff, ↓reduceIte, ntT, ntF] <;> rfl) (by simp only [evt, evc, upd_eq, Nat.reduceEqDiff, ↓reduceIte, ntT, ntF] <;> rfl) sz_166 rfl wk2 (by decide) (oc_one rfl rfl) fun w3 x3 r3 s3 => ⟨trivial, ?_⟩
      simp only [↓List.toList_toArray, ↓rgd, ↓rgf, ↓reduceIte, Nat.reduceEqDiff, rg, ow_151, ↓rgm]
      refine hK _ _ ?_; clear hK K
      obtain ⟨g1, g2, g3⟩ := nx w3 x3 (Row.cons.1 r3).1
      have s2 : Ss w0 G w3 [ndO E iso 1 b cb ks (ptr bc), ndO E iso 0 p (cl : Nat) ((ls ++ [k]) ++ rs) (ptr lc), ndO E iso 0 q (cr : Nat) rs (ptr rc), kdO (ptr bc) ps, kdO (ptr lc) (lp ++ rp), kdO (ptr rc) rp] := uy g1 ((Ext.dr noF w (w.drawn + 1)).trans g2 (fun _ _ h => h.elim) fun _ _ _ h => h) (g3.imp id fun h => h)
      exact hend _ _ s2 (by simp only [upd_eq, Nat.reduceEqDiff, ↓reduceIte]; exact e0) (by simp only [upd_eq, Nat.reduceEqDiff, ↓reduceIte]; exact e1) (by simp only [upd_eq, Nat.reduceEqDiff, ↓reduceIte]; exact e2) (by simp only [upd_eq, Nat.reduceEqDiff, ↓reduceIte]; exact e6) (by simp only [upd_eq, Nat.reduceEqDiff, ↓reduceIte]; exact e7)
  obtain ⟨nb, no, nc, on, un, vn⟩ := s.nd 0 rfl
  rcases hj with ⟨rfl, hj⟩ | ⟨rfl, hj⟩
  · have hb : ((i0 : Int) == (ks.length : Int)) = false := by simp; omega
    refine W_sq fun K hK => (W_text [true, true, true, true, true, true, true] (by kernel_rfl) ?_); simp only [↓List.toList_toArray, ↓rgd, ↓rgf, ↓reduceIte, Nat.reduceEqDiff, rg, ow_151, e1, e2, ptr_eq, on.h2, hb]
    refine hK _ _ ?_; clear hK K
    refine W_false (by simp only [evt, evc, upd_eq, Nat.reduceEqDiff, ↓reduceIte, ntT, ntF] <;> rfl) (W_skip ?_)
    exact hend _ (by simp only [upd_eq, Nat.reduceEqDiff, ↓reduceIte]; exact e0) (by simp only [upd_eq, Nat.reduceEqDiff, ↓reduceIte]; exact e1) (by simp only [upd_eq, Nat.reduceEqDiff, ↓reduceIte]; exact e2)
  · have hb : ((ks.length : Int) == (ks.length : Int)) = true := by simp
    refine W_sq fun K hK => (W_text [true, true, true, true, true, true, true] (by kernel_rfl) ?_); simp only [↓List.toList_toArray, ↓rgd, ↓rgf, ↓reduceIte, Nat.reduceEqDiff, rg, ow_151, e1, e2, ptr_eq, on.h2, hb]
    refine hK _ _ ?_; clear hK K
    refine W_true (by simp only [evt, evc, upd_eq, Nat.reduceEqDiff, ↓reduceIte, ntT, ntF] <;> rfl) ?_
    have q1 := wsub1 ks.length (by omega) (by omega)
    have hjs : ks.length - 1 = j := by omega
    refine W_rg fun K hK => (W_text [true, true, true] (by kernel_rfl) ?_); simp only [↓List.toList_toArray, ↓rgd, ↓rgf, ↓reduceIte, Nat.reduceEqDiff, rg, ow_151, e2, q1]
    refine hK _ _ ?_; clear hK K
    exact hend _ (by simp only [upd_eq, Nat.reduceEqDiff, ↓reduceIte]; exact e0) (by simp only [upd_eq, Nat.reduceEqDiff, ↓reduceIte]; exact e1) (by simp only [upd_eq, Nat.reduceEqDiff, ↓reduceIte] <;> rw [hjs])
end Go.Proofs.Ytbnnkcofnmipoaa
/-
  nodeRebalance: left to right. No condition.
-/
set_option linter.unusedSimpArgs false
set_option linter.unusedVariables false
namespace Go.Proofs.Ytbnnkcofnmipoaa
open Go Go.Proofs
set_option maxHeartbeats 4000000 in
set_option maxRecDepth 8000 in
theorem reb_right (m d b p q bc i0 j cl cr : Nat) (iso cb : Int) (ks ls rs : List It) (k x : It) (ps lp rp : List (Option Nat)) (chl chr : Value) (w0 w : World) (G : Nat → Nat → Prop) (hd : 2 ≤ d) (hd' : d ≤ 128) (hc : Cfg w0 m iso d) (hG : ∀ o, ¬ G m o)
    (s : Ss w0 G w [ndO E iso 1 b cb ks (ptr bc), ndO E iso 0 p (cl : Nat) (ls ++ [x]) chl, ndO E iso 0 q (cr : Nat) rs chr, kdO (ptr bc) ps, kdO chl lp, kdO chr rp]) (hj : (i0 = j ∧ j < ks.length) ∨ (i0 = ks.length ∧ j + 1 = ks.length)) (hkl : ks.length ≤ 2 * d - 1) (hk : ks[j]? = some k) (hps : ps.length = ks.length + 1) (hp : ps[j]? = some (some p)) (hq : ps[j + 1]? = some (some q))
    (hch : (chl = .pointer none ∧ chr = .pointer none ∧ lp = [] ∧ rp = []) ∨ ∃ lc rc, chl = ptr lc ∧ chr = ptr rc ∧ lp.length = (ls ++ [x]).length + 1 ∧ rp.length = rs.length + 1) (hll : (ls ++ [x]).length ≤ 2 * d - 1) (hrl : rs.length ≤ 2 * d - 1) (hcl : cl < 2305843009213693952) (hcr : cr < 2305843009213693952) (hlt : 2 * d - 1 ≤ (ls ++ [x]).length + rs.length) (hgt : rs.length < (ls ++ [x]).length) (cg : Nat) (hcg : 1 + cg ≤ cl) (hcgb : cr + cg < 2305843009213693952) (hg : (lp = [] ∧ cg = 0) ∨ ∃ g lp', lp = lp' ++ [some g] ∧ rd w0 g 1 = some (.int .i64 (cg : Nat)) ∧ ∀ o, ¬ G g o) :
    CallK Try.prog 151 #[ptr m, ptr b, .int .i64 (i0 : Nat)] w fun _ w' => Ss w0 G w' [ndO E iso 1 b cb (ks.set j x) (ptr bc), ndO E iso 0 p ((cl - 1 - cg : Nat) : Int) ls chl, ndO E iso 0 q ((cr + 1 + cg : Nat) : Int) (k :: rs) chr, kdO (ptr bc) ps, kdO chl lp.dropLast, kdO chr (lp.drop (lp.length - 1) ++ rp)] := by
  have hjn : j < ks.length := (List.getElem?_eq_some_iff.1 hk).1
  refine calls_of_W [] Try.func151 rfl Try.ntmps151 Try.results151 (by simp) fun e he => ?_
  have e0 : e 0 = ptr m := he 0 _ rfl
  have e1 : e 1 = ptr b := he 1 _ rfl
  have e2 : e 2 = .int .i64 (i0 : Nat) := he 2 _ rfl
  clear he
  refine W_sqx fun J hJ => ?_
  have hend : ∀ e, e 0 = ptr m → e 1 = ptr b → e 2 = .int .i64 j → J e w := by
    clear e0 e1 e2 e
    intro e e0 e1 e2
    refine hJ _ _ ?_; clear hJ J
    obtain ⟨nb, no, nc, on, un, vn⟩ := s.nd 0 rfl
    obtain ⟨xb, xo, xc, ox, ux⟩ := s.kd 3 rfl
    obtain ⟨lb, lo, lq, ol, ul, vl⟩ := s.nd 1 rfl
    obtain ⟨tb, to, tq, ot, ut, vt⟩ := s.nd 2 rfl
    have hiso := (hc.ext s.x fun o _ _ => hG o).iso
    have hjp : j < ps.length := by omega
    refine W_sq fun K hK => (W_text [true, true, true, true, true, true, true, true, true, false, true] (by kernel_rfl) ?_); simp only [↓List.toList_toArray, ↓rgd, ↓rgf, ↓reduceIte, Nat.reduceEqDiff, rg, ow_151, e0, e1, e2, ptr_eq, on.h3, ox.hd, hjp]
    refine do_call fn_96 (by simp only [evt, evc, upd_eq, Nat.reduceEqDiff, ↓reduceIte, maT, maC, maN, isnN, isnS] <;> rfl) (isoLoad_any m xb (xo + j) p true iso _ hiso (ox.ptr_at hp) ol.h0) ?_
    rintro _ w1 ⟨rfl, r1⟩
    refine ⟨trivial, ?_⟩
    simp only [↓List.toList_toArray, ↓rgd, ↓rgf, ↓reduceIte, Nat.reduceEqDiff, rg, ow_151]
    refine hK _ _ ?_; clear hK K
    have X1 : Ext noF w w1 := r1.ext
    have on := on.ext X1 fun _ _ _ g => g
    have ox := ox.ext0 X1
    have ot := ot.ext X1 fun _ _ _ g => g
    have hiso := X1.rd hiso fun g => g
    have q1 := wadd1 j (by omega)
    have hjp : j + 1 < ps.length := by omega
    refine W_sq fun K hK => (W_text [true, true, true, true, true, true, true, true, true, true, false, true] (by kernel_rfl) ?_); simp only [↓List.toList_toArray, ↓rgd, ↓rgf, ↓reduceIte, Nat.reduceEqDiff, rg, ow_151, e0, e1, e2, ptr_eq, on.h3, ox.hd, hjp, q1]
    refine do_call fn_96 (by simp only [evt, evc, upd_eq, Nat.reduceEqDiff, ↓reduceIte, maT, maC, maN, isnN, isnS] <;> rfl) (isoLoad_any m xb (xo + (j + 1)) q true iso _ hiso (ox.ptr_at hq) ot.h0) ?_
    rintro _ w2 ⟨rfl, r2⟩
    refine ⟨trivial, ?_⟩
    simp only [↓List.toList_toArray, ↓rgd, ↓rgf, ↓reduceIte, Nat.reduceEqDiff, rg, ow_151]
    refine hK _ _ ?_; clear hK K
    have s2 := (s.ext0 X1).ext0 r2.ext
    refine W_st s2 (by simp only [upd_eq, Nat.reduceEqDiff, ↓reduceIte]; exact e0) (by simp only [upd_eq, Nat.reduceEqDiff, ↓reduceIte]; exact e1) (by simp only [upd_eq, Nat.reduceEqDiff, ↓reduceIte]; exact e2) (by simp only [upd_eq, Nat.reduceEqDiff, ↓reduceIte] <;> rfl) (by simp only [upd_eq, Nat.reduceEqDiff, ↓reduceIte] <;> rfl) ?_
    clear s s2 e0 e1 e2 on un vn ox ux ol ul vl ot ut vt hiso X1 r1 r2 hjp q1
    clear e; intro e w s e0 e1 e2 e6 e7
    obtain ⟨lb, lo, lq, ol, ul, vl⟩ := s.nd 1 rfl
    obtain ⟨tb, to, tq, ot, ut, vt⟩ := s.nd 2 rfl
    have q1 := wadd (ls ++ [x]).length rs.length (by omega)
    have hmx := (hc.ext s.x fun o _ _ => hG o).mx
    have hb : decide ((((ls ++ [x]).length + rs.length : Nat) : Int) < ((2 * d - 1 : Nat) : Int)) = false := by simp only [decide_eq_false_iff_not]; omega
    refine W_sq fun K hK => (W_draw (some none) none [(0, 0, 0), (0, 1, 0), (0, 2, 0), (0, 3, 0), (0, 4, 0), (0, 5, 0), (0, 6, 0), (0, 7, 0), (0, 8, 0), (0, 9, 0), (0, 10, 0), (0, 11, 0), (0, 12, 0), (0, 13, 0), (0, 14, 0), (0, 15, 0)] mixed (by kernel_rfl) ?_); simp only [↓List.toList_toArray, ↓rgd, ↓rgf, ↓reduceIte, Nat.reduceEqDiff, rg, ow_151, e0, e6, e7, ptr_eq, ol.h2, ot.h2, q1, hmx, hb]
    refine hK _ _ ?_; clear hK K
    refine W_false (by simp only [evt, evc, upd_eq, Nat.reduceEqDiff, ↓reduceIte, ntT, ntF] <;> rfl) ?_
    have hb2 : decide ((rs.length : Int) < ((ls ++ [x]).length : Int)) = true := by simp only [decide_eq_true_eq]; omega
    refine W_sq fun K hK => (W_draw (some none) none [(0, 0, 0), (0, 1, 0), (0, 2, 0), (0, 3, 0), (0, 4, 0), (0, 5, 0), (0, 6, 0), (0, 7, 0), (0, 8, 0), (0, 9, 0), (0, 10, 0)] mixed (by kernel_rfl) ?_); simp only [↓List.toList_toArray, ↓rgd, ↓rgf, ↓reduceIte, Nat.reduceEqDiff, rg, ow_151, e0, e6, e7, ptr_eq, ol.h2, ot.h2, hb2]
    refine hK _ _ ?_; clear hK K
    refine W_true (by simp only [evt, evc, upd_eq, Nat.reduceEqDiff, ↓reduceIte, ntT, ntF] <;> rfl) ?_
    refine W_st (s.ext0 (Ext.dr noF w _)) (by simp only [upd_eq, Nat.reduceEqDiff, ↓reduceIte]; exact e0) (by simp only [upd_eq, Nat.reduceEqDiff, ↓reduceIte]; exact e1) (by simp only [upd_eq, Nat.reduceEqDiff, ↓reduceIte]; exact e2) (by simp only [upd_eq, Nat.reduceEqDiff, ↓reduceIte]; exact e6) (by simp only [upd_eq, Nat.reduceEqDiff, ↓reduceIte]; exact e7) ?_
    clear s e0 e1 e2 e6 e7 ol ul vl ot ut vt q1 hmx hb hb2
    clear e; intro e w s e0 e1 e2 e6 e7
    obtain ⟨n0, hn0⟩ : ∃ n0, n0 = ls.length + 1 := ⟨_, rfl⟩
    have hnl : (ls ++ [x]).length = n0 := by simp [hn0]
    obtain ⟨tb, to, tq, ot, ut, vt⟩ := s.nd 2 rfl
    have z4 := zIt_at (hc.ext s.x fun o _ _ => hG o)
    have hb_q := wok_lt ot.wb
    have L0 := on1_0 q
    refine W_sq fun K hK => (W_semi (some (some [q])) (.take false 0 (.take false 1 (.take false 2 (.take false 3 (.take false 4 (.take false 5 (.take false 6 (.take false 7 (.take true 8 (.act 9 (.bar 10 (.take false 11 (.take false 12 (.bar 13 .nil)))))))))))))) mixed (by kernel_rfl) ?_); simp only [↓rgm, ↓List.toList_toArray, ↓rgd, ↓rgf, ↓reduceIte, Nat.reduceEqDiff, rg, ow_151, e0, e1, e2, e6, e7, ptr_eq, ot.h2, z4, L0, rB_on]
    refine do_bsl rfl (rb_k zIt) fun w1 n1 => ⟨.inr (n1.keep _ (lt1 hb_q)), ?_⟩
    simp only [↓List.toList_toArray, ↓rgd, ↓rgf, ↓reduceIte, Nat.reduceEqDiff, rg, ow_151, ↓rgm]
    have n1 := n1.od
    have a1 := ot.se.ext0 n1.ext
    refine do_append (by simp only [evt, evc, upd_eq, Nat.reduceEqDiff, ↓reduceIte, ntT, ntF] <;> rfl) (by simp only [evt, evc, upd_eq, Nat.reduceEqDiff, ↓reduceIte, ntT, ntF] <;> rfl) rb_eli rfl ni_25 a1.slV (u := .slice (some ⟨w.heap.size, 0, none⟩) 1 1) (m := 1) (l' := E.cel zIt) ⟨rfl, .inr ⟨_, 0, 1, rfl, Nat.le_refl _, n1.row, n1.wok.R (Nat.le_refl _)⟩⟩ (by omega) (by decide) (E.one _) fun v2 w2 a2 => ⟨trivial, ?_⟩
    obtain ⟨gb, go, gc, rfl, wk2, -, nx⟩ := a1.app' (ls := [zIt]) rfl (by rw [flat_one]; exact a2)
    simp only [↓List.toList_toArray, ↓rgd, ↓rgf, ↓reduceIte, Nat.reduceEqDiff, rg, ow_151, ↓rgm]
    refine do_store (by simp only [evt, evc, upd_eq, Nat.reduceEqDiff, ↓reduceIte, ntT, ntF] <;> rfl) (by simp only [evt, evc, upd_eq, Nat.reduceEqDiff, ↓reduceIte, ntT, ntF] <;> rfl) sz_25 rfl wk2 (by decide) (oc_one rfl rfl) fun w3 x3 r3 s3 => ⟨trivial, ?_⟩
    simp only [↓List.toList_toArray, ↓rgd, ↓rgf, ↓reduceIte, Nat.reduceEqDiff, rg, ow_151, ↓rgm]
    refine hK _ _ ?_; clear hK K
    obtain ⟨g1, g2, g3⟩ := nx w3 x3 (Row.cons.1 r3).1
    have s2 : Ss w0 G w3 [ndO E iso 1 b cb ks (ptr bc), ndO E iso 0 p (cl : Nat) (ls ++ [x]) chl, ndO E iso 0 q (cr : Nat) (rs ++ [zIt]) chr, kdO (ptr bc) ps, kdO chl lp, kdO chr rp] := ut g1 (n1.ext.trans g2 (fun _ _ h => h.elim) fun _ _ _ h => h) (g3.imp id fun h => ⟨(by have := n1.size; omega), Nat.zero_le _⟩)
    refine W_st s2 (by simp only [upd_eq, Nat.reduceEqDiff, ↓reduceIte]; exact e0) (by simp only [upd_eq, Nat.reduceEqDiff, ↓reduceIte]; exact e1) (by simp only [upd_eq, Nat.reduceEqDiff, ↓reduceIte]; exact e2) (by simp only [upd_eq, Nat.reduceEqDiff, ↓reduceIte]; exact e6) (by simp only [upd_eq, Nat.reduceEqDiff, ↓reduceIte]; exact e7) ?_
    clear s s2 e0 e1 e2 e6 e7 ot ut vt wk2 nx x3 r3 s3 g1 g2 g3 z4 hb_q n1 a1 a2 L0
    clear e; intro e w s e0 e1 e2 e6 e7
    obtain ⟨tb, to, tq, ot, ut, vt⟩ := s.nd 2 rfl
    have hic := ot.se.le
    have hle : (rs ++ [zIt]).length = rs.length + 1 := by simp
    have i2 : 1 ≤ (rs ++ [zIt]).length := by omega
    obtain ⟨o1, h1, h1', -, k1⟩ := ot.se.from E_sz 1 i2
    have h3 : slcX (some 2) (.slice (some ⟨tb, to, none⟩) (rs ++ [zIt]).length tq) (some (.int .i64 1)) none none = some (slFrom tb to 2 1 (rs ++ [zIt]).length tq) := slcX_lo _ _ _ _ _ 1 _ i2
    refine W_sq fun K hK => (W_draw (some none) (some 9) [(0, 0, 0), (0, 1, 0), (0, 2, 0), (0, 3, 0), (0, 4, 0), (0, 5, 0), (0, 6, 0), (0, 7, 0), (0, 8, 0), (1, 9, 0)] mixed (by kernel_rfl) ?_); simp only [↓List.toList_toArray, ↓rgd, ↓rgf, ↓reduceIte, Nat.reduceEqDiff, rg, ow_151, e0, e1, e2, e6, e7, ptr_eq, ot.h2, h3, h1]
    refine do_copy (by simp only [evt, evc, upd_eq, Nat.reduceEqDiff, ↓reduceIte, ntT, ntF] <;> rfl) (by simp only [evt, evc, upd_eq, Nat.reduceEqDiff, ↓reduceIte, ntT, ntF] <;> rfl) rb_eli (SlV.ext0 ot.se.slV (Ext.dr noF w (w.drawn + 1))) ((Ext.dr noF w (w.drawn + 1)).wok k1) (flat_oc E _) fun w3 x3 r3 s3 => ⟨(by first | exact trivial | exact .inl trivial), ?_⟩
    simp only [↓List.toList_toArray, ↓rgd, ↓rgf, ↓reduceIte, Nat.reduceEqDiff, rg, ow_151, ↓rgm]
    refine hK _ _ ?_; clear hK K
    have hm : min (rs ++ [zIt]).length ((rs ++ [zIt]).length - 1) = rs.length := by omega
    rw [hm] at x3 r3
    rw [show rs.length * 2 = rs.length * E.sz from rfl, flat_take, List.take_left' rfl] at r3
    obtain ⟨g1, g2⟩ := ot.se.up x3.od r3 fun hA => by have := h1' (by omega); rw [E_sz]; omega
    have s2 : Ss w0 G w3 [ndO E iso 1 b cb ks (ptr bc), ndO E iso 0 p (cl : Nat) (ls ++ [x]) chl, ndO E iso 0 q (cr : Nat) ((rs ++ [zIt]).take 1 ++ rs) chr, kdO (ptr bc) ps, kdO chl lp, kdO chr rp] := ut g1 g2 (.inl ⟨rfl, rfl, rfl⟩)
    refine W_st s2 (by simp only [upd_eq, Nat.reduceEqDiff, ↓reduceIte]; exact e0) (by simp only [upd_eq, Nat.reduceEqDiff, ↓reduceIte]; exact e1) (by simp only [upd_eq, Nat.reduceEqDiff, ↓reduceIte]; exact e2) (by simp only [upd_eq, Nat.reduceEqDiff, ↓reduceIte]; exact e6) (by simp only [upd_eq, Nat.reduceEqDiff, ↓reduceIte]; exact e7) ?_
    clear s s2 e0 e1 e2 e6 e7 ot ut vt x3 r3 s3 g1 g2 hm hic hle i2 h1 h1' k1 h3
    clear e; intro e w s e0 e1 e2 e6 e7
    obtain ⟨tb, to, tq, ot, ut, vt⟩ := s.nd 2 rfl
    obtain ⟨nb, no, nq, on, un, vn⟩ := s.nd 0 rfl
    have hkv := it_at on.row hk
    have hl0 : 0 < ((rs ++ [zIt]).take 1 ++ rs).length := by simp only [List.length_append, List.length_take, List.length_cons, List.length_nil]; omega
    have i0 := ix0 2 tb to ((rs ++ [zIt]).take 1 ++ rs).length hl0
    refine W_sq fun K hK => (W_draw (some none) (some 12) [(0, 0, 0), (0, 1, 0), (0, 2, 0), (0, 3, 0), (0, 4, 0), (0, 5, 0), (0, 6, 0), (0, 7, 0), (0, 8, 0), (0, 9, 0), (0, 10, 0), (0, 11, 0), (1, 12, 0)] mixed (by kernel_rfl) ?_); simp only [↓List.toList_toArray, ↓rgd, ↓rgf, ↓reduceIte, Nat.reduceEqDiff, rg, ow_151, e0, e1, e2, e6, e7, ptr_eq, ot.h2, on.h2, hjn, hkv, i0]
    refine do_store (by simp only [evt, evc, upd_eq, Nat.reduceEqDiff, ↓reduceIte, ntT, ntF] <;> rfl) (by simp only [evt, evc, upd_eq, Nat.reduceEqDiff, ↓reduceIte, ntT, ntF] <;> rfl) sz_33 (rb_len k) ot.se.wi (by have := ot.se.le; rw [E_sz]; skip; omega) (rb_oc k) fun w3 x3 r3 s3 => ⟨(by first | exact trivial | exact .inl trivial), ?_⟩
    simp only [↓List.toList_toArray, ↓rgd, ↓rgf, ↓reduceIte, Nat.reduceEqDiff, rg, ow_151, ↓rgm]
    refine hK _ _ ?_; clear hK K
    obtain ⟨g1, g2⟩ := ot.se.set (i := 0) (x := k) (hl0) (by rw [Nat.zero_mul, Nat.add_zero]; exact x3.od) (by rw [Nat.zero_mul, Nat.add_zero]; exact r3)
    rw [set_first] at g1
    have s2 : Ss w0 G w3 [ndO E iso 1 b cb ks (ptr bc), ndO E iso 0 p (cl : Nat) (ls ++ [x]) chl, ndO E iso 0 q (cr : Nat) (k :: rs) chr, kdO (ptr bc) ps, kdO chl lp, kdO chr rp] := ut g1 g2 (.inl ⟨rfl, rfl, rfl⟩)
    refine W_st s2 (by simp only [upd_eq, Nat.reduceEqDiff, ↓reduceIte]; exact e0) (by simp only [upd_eq, Nat.reduceEqDiff, ↓reduceIte]; exact e1) (by simp only [upd_eq, Nat.reduceEqDiff, ↓reduceIte]; exact e2) (by simp only [upd_eq, Nat.reduceEqDiff, ↓reduceIte]; exact e6) (by simp only [upd_eq, Nat.reduceEqDiff, ↓reduceIte]; exact e7) ?_
    clear s s2 e0 e1 e2 e6 e7 ot ut vt on un vn x3 r3 s3 g1 g2 hkv hl0 i0
    clear e; intro e w s e0 e1 e2 e6 e7
    obtain ⟨tb, to, tq, ot, ut, vt⟩ := s.nd 2 rfl
    have q1 := wadd1 cr (by omega)
    refine W_sq fun K hK => (W_text [true, true, true, true, true, true, true, false] (by kernel_rfl) ?_); simp only [↓List.toList_toArray, ↓rgd, ↓rgf, ↓reduceIte, Nat.reduceEqDiff, rg, ow_151, e0, e1, e2, e6, e7, ptr_eq, ot.h1, q1]
    refine do_store (by simp only [evt, evc, upd_eq, Nat.reduceEqDiff, ↓reduceIte, ntT, ntF] <;> rfl) (by simp only [evt, evc, upd_eq, Nat.reduceEqDiff, ↓reduceIte, ntT, ntF] <;> rfl) sz_3 rfl ot.wb (by decide) (oc_one rfl rfl) fun w3 x3 r3 s3 => ⟨(by first | exact trivial | exact .inl trivial), ?_⟩
    simp only [↓List.toList_toArray, ↓rgd, ↓rgf, ↓reduceIte, Nat.reduceEqDiff, rg, ow_151, ↓rgm]
    refine hK _ _ ?_; clear hK K
    have s2 : Ss w0 G w3 [ndO E iso 1 b cb ks (ptr bc), ndO E iso 0 p (cl : Nat) (ls ++ [x]) chl, ndO E iso 0 q ((cr + 1 : Nat) : Int) (k :: rs) chr, kdO (ptr bc) ps, kdO chl lp, kdO chr rp] := vt x3 (Row.cons.1 r3).1
    refine W_st s2 (by simp only [upd_eq, Nat.reduceEqDiff, ↓reduceIte]; exact e0) (by simp only [upd_eq, Nat.reduceEqDiff, ↓reduceIte]; exact e1) (by simp only [upd_eq, Nat.reduceEqDiff, ↓reduceIte]; exact e2) (by simp only [upd_eq, Nat.reduceEqDiff, ↓reduceIte]; exact e6) (by simp only [upd_eq, Nat.reduceEqDiff, ↓reduceIte]; exact e7) ?_
    clear s s2 e0 e1 e2 e6 e7 ot ut vt x3 r3 s3  q1
    clear e; intro e w s e0 e1 e2 e6 e7
    obtain ⟨nb, no, nq, on, un, vn⟩ := s.nd 0 rfl
    obtain ⟨lb, lo, lq, ol, ul, vl⟩ := s.nd 1 rfl
    have h2 := ol.h2
    rw [hnl] at h2
    have q1 := wsub1 n0 (by omega) (by omega)
    have hi : n0 - 1 < n0 := by omega
    have hxv := it_at ol.row (i := n0 - 1) (x := x) (by simp [hn0])
    refine W_sq fun K hK => (W_draw (some none) (some 18) [(0, 0, 0), (0, 1, 0), (0, 2, 0), (0, 3, 0), (0, 4, 0), (0, 5, 0), (0, 6, 0), (0, 7, 0), (0, 8, 0), (0, 9, 0), (0, 10, 0), (0, 11, 0), (0, 12, 0), (0, 13, 0), (0, 14, 0), (0, 15, 0), (0, 16, 0), (0, 17, 0), (1, 18, 0)] mixed (by kernel_rfl) ?_); simp only [↓List.toList_toArray, ↓rgd, ↓rgf, ↓reduceIte, Nat.reduceEqDiff, rg, ow_151, e0, e1, e2, e6, e7, ptr_eq, on.h2, h2, hjn, q1, hi, hxv]
    refine do_store (by simp only [evt, evc, upd_eq, Nat.reduceEqDiff, ↓reduceIte, ntT, ntF] <;> rfl) (by simp only [evt, evc, upd_eq, Nat.reduceEqDiff, ↓reduceIte, ntT, ntF] <;> rfl) sz_33 (rb_len x) on.se.wi (by have := on.se.le; rw [E_sz]; skip; omega) (rb_oc x) fun w3 x3 r3 s3 => ⟨(by first | exact trivial | exact .inl trivial), ?_⟩
    simp only [↓List.toList_toArray, ↓rgd, ↓rgf, ↓reduceIte, Nat.reduceEqDiff, rg, ow_151, ↓rgm]
    refine hK _ _ ?_; clear hK K
    obtain ⟨g1, g2⟩ := on.se.set (i := j) (x := x) (hjn) (by simp only [E_sz, Nat.mul_one]; exact x3.od) (by simp only [E_sz, Nat.mul_one]; exact r3)
    skip
    have s2 : Ss w0 G w3 [ndO E iso 1 b cb (ks.set j x) (ptr bc), ndO E iso 0 p (cl : Nat) (ls ++ [x]) chl, ndO E iso 0 q ((cr + 1 : Nat) : Int) (k :: rs) chr, kdO (ptr bc) ps, kdO chl lp, kdO chr rp] := un g1 g2 (.inl ⟨rfl, rfl, rfl⟩)
    refine W_st s2 (by simp only [upd_eq, Nat.reduceEqDiff, ↓reduceIte]; exact e0) (by simp only [upd_eq, Nat.reduceEqDiff, ↓reduceIte]; exact e1) (by simp only [upd_eq, Nat.reduceEqDiff, ↓reduceIte]; exact e2) (by simp only [upd_eq, Nat.reduceEqDiff, ↓reduceIte]; exact e6) (by simp only [upd_eq, Nat.reduceEqDiff, ↓reduceIte]; exact e7) ?_
    clear s s2 e0 e1 e2 e6 e7 on un vn ol ul vl x3 r3 s3 g1 g2 h2 q1 hi hxv
    clear e; intro e w s e0 e1 e2 e6 e7
    obtain ⟨lb, lo, lq, ol, ul, vl⟩ := s.nd 1 rfl
    have hA : (ls ++ [x]).length = n0 := by rw [List.length_append, List.length_singleton]; skip; omega
    have h2 := ol.se.hd
    rw [hA] at h2
    have q1 := wsub1 (n0) (by omega) (by omega)
    have hi : n0 - 1 < n0 := by omega
    have z4 := zIt_at (hc.ext s.x fun o _ _ => hG o)
    refine W_sq fun K hK => (W_draw (some none) (some 15) [(0, 0, 0), (0, 1, 0), (0, 2, 0), (0, 3, 0), (0, 4, 0), (0, 5, 0), (0, 6, 0), (0, 7, 0), (0, 8, 0), (0, 9, 0), (0, 10, 0), (0, 11, 0), (0, 12, 0), (0, 13, 0), (0, 14, 0), (1, 15, 0)] mixed (by kernel_rfl) ?_); simp only [↓List.toList_toArray, ↓rgd, ↓rgf, ↓reduceIte, Nat.reduceEqDiff, rg, ow_151, e0, e1, e2, e6, e7, ptr_eq, h2, q1, hi, z4]
    refine do_store (by simp only [evt, evc, upd_eq, Nat.reduceEqDiff, ↓reduceIte, ntT, ntF] <;> rfl) (by simp only [evt, evc, upd_eq, Nat.reduceEqDiff, ↓reduceIte, ntT, ntF] <;> rfl) sz_33 (rb_len zIt) ol.se.wi (by have := ol.se.le; rw [E_sz]; rw [hA] at this; omega) (rb_oc zIt) fun w3 x3 r3 s3 => ⟨(by first | exact trivial | exact .inl trivial), ?_⟩
    simp only [↓List.toList_toArray, ↓rgd, ↓rgf, ↓reduceIte, Nat.reduceEqDiff, rg, ow_151, ↓rgm]
    refine hK _ _ ?_; clear hK K
    obtain ⟨g1, g2⟩ := ol.se.set (i := n0 - 1) (x := zIt) (by rw [hA]; omega) (by simp only [E_sz, Nat.mul_one]; exact x3.od) (by simp only [E_sz, Nat.mul_one]; exact r3)
    have hs : (ls ++ [x]).set (n0 - 1) zIt = ls ++ [zIt] := by rw [show n0 - 1 = (ls).length by skip; omega]; exact set_last
    rw [hs] at g1
    have s2 : Ss w0 G w3 [ndO E iso 1 b cb (ks.set j x) (ptr bc), ndO E iso 0 p (cl : Nat) (ls ++ [zIt]) chl, ndO E iso 0 q ((cr + 1 : Nat) : Int) (k :: rs) chr, kdO (ptr bc) ps, kdO chl lp, kdO chr rp] := ul g1 g2 (.inl ⟨rfl, rfl, rfl⟩)
    refine W_st s2 (by simp only [upd_eq, Nat.reduceEqDiff, ↓reduceIte]; exact e0) (by simp only [upd_eq, Nat.reduceEqDiff, ↓reduceIte]; exact e1) (by simp only [upd_eq, Nat.reduceEqDiff, ↓reduceIte]; exact e2) (by simp only [upd_eq, Nat.reduceEqDiff, ↓reduceIte]; exact e6) (by simp only [upd_eq, Nat.reduceEqDiff, ↓reduceIte]; exact e7) ?_
    clear s s2 e0 e1 e2 e6 e7 ol ul vl x3 r3 s3 g1 g2 hA h2 q1 hi z4 hs
    clear e; intro e w s e0 e1 e2 e6 e7
    obtain ⟨lb, lo, lq, ol, ul, vl⟩ := s.nd 1 rfl
    have hA : (ls ++ [zIt]).length = n0 := by rw [List.length_append, List.length_singleton]; skip; omega
    have h2 := ol.se.hd
    have h4 := ol.se.le
    rw [hA] at h2 h4
    have q1 := wsub1 (n0) (by omega) (by omega)
    have hi : n0 - 1 ≤ lq := by omega
    refine W_sq fun K hK => (W_draw (some none) (some 14) [(0, 0, 0), (0, 1, 0), (0, 2, 0), (0, 3, 0), (0, 4, 0), (0, 5, 0), (0, 6, 0), (0, 7, 0), (0, 8, 0), (0, 9, 0), (0, 10, 0), (0, 11, 0), (0, 12, 0), (0, 13, 0), (1, 14, 0)] mixed (by kernel_rfl) ?_); simp only [↓List.toList_toArray, ↓rgd, ↓rgf, ↓reduceIte, Nat.reduceEqDiff, rg, ow_151, e0, e1, e2, e6, e7, ptr_eq, h2, q1, hi]
    refine do_store (by simp only [evt, evc, upd_eq, Nat.reduceEqDiff, ↓reduceIte, ntT, ntF] <;> rfl) (by simp only [evt, evc, upd_eq, Nat.reduceEqDiff, ↓reduceIte, ntT, ntF] <;> rfl) sz_25 rfl ol.se.hok (by decide) (oc_one rfl rfl) fun w3 x3 r3 s3 => ⟨(by first | exact trivial | exact .inl trivial), ?_⟩
    simp only [↓List.toList_toArray, ↓rgd, ↓rgf, ↓reduceIte, Nat.reduceEqDiff, rg, ow_151, ↓rgm]
    refine hK _ _ ?_; clear hK K
    obtain ⟨g1, g2⟩ := ol.se.cut x3.od (by rw [show (ls).length = n0 - 1 by skip; omega]; exact (Row.cons.1 r3).1)
    have s2 : Ss w0 G w3 [ndO E iso 1 b cb (ks.set j x) (ptr bc), ndO E iso 0 p (cl : Nat) ls chl, ndO E iso 0 q ((cr + 1 : Nat) : Int) (k :: rs) chr, kdO (ptr bc) ps, kdO chl lp, kdO chr rp] := ul g1 g2 (.inl ⟨rfl, rfl, rfl⟩)
    refine W_st s2 (by simp only [upd_eq, Nat.reduceEqDiff, ↓reduceIte]; exact e0) (by simp only [upd_eq, Nat.reduceEqDiff, ↓reduceIte]; exact e1) (by simp only [upd_eq, Nat.reduceEqDiff, ↓reduceIte]; exact e2) (by simp only [upd_eq, Nat.reduceEqDiff, ↓reduceIte]; exact e6) (by simp only [upd_eq, Nat.reduceEqDiff, ↓reduceIte]; exact e7) ?_
    clear s s2 e0 e1 e2 e6 e7 ol ul vl x3 r3 s3 g1 g2 hA h2 h4 q1 hi
    clear e; intro e w s e0 e1 e2 e6 e7
    obtain ⟨lb, lo, lq, ol, ul, vl⟩ := s.nd 1 rfl
    have q1 := wsub1 cl (by omega) (by omega)
    refine W_sq fun K hK => (W_text [true, true, true, true, true, true, true, false] (by kernel_rfl) ?_); simp only [↓List.toList_toArray, ↓rgd, ↓rgf, ↓reduceIte, Nat.reduceEqDiff, rg, ow_151, e0, e1, e2, e6, e7, ptr_eq, ol.h1, q1]
    refine do_store (by simp only [evt, evc, upd_eq, Nat.reduceEqDiff, ↓reduceIte, ntT, ntF] <;> rfl) (by simp only [evt, evc, upd_eq, Nat.reduceEqDiff, ↓reduceIte, ntT, ntF] <;> rfl) sz_3 rfl ol.wb (by decide) (oc_one rfl rfl) fun w3 x3 r3 s3 => ⟨(by first | exact trivial | exact .inl trivial), ?_⟩
    simp only [↓List.toList_toArray, ↓rgd, ↓rgf, ↓reduceIte, Nat.reduceEqDiff, rg, ow_151, ↓rgm]
    refine hK _ _ ?_; clear hK K
    have s2 : Ss w0 G w3 [ndO E iso 1 b cb (ks.set j x) (ptr bc), ndO E iso 0 p ((cl - 1 : Nat) : Int) ls chl, ndO E iso 0 q ((cr + 1 : Nat) : Int) (k :: rs) chr, kdO (ptr bc) ps, kdO chl lp, kdO chr rp] := vl x3 (Row.cons.1 r3).1
    refine W_st s2 (by simp only [upd_eq, Nat.reduceEqDiff, ↓reduceIte]; exact e0) (by simp only [upd_eq, Nat.reduceEqDiff, ↓reduceIte]; exact e1) (by simp only [upd_eq, Nat.reduceEqDiff, ↓reduceIte]; exact e2) (by simp only [upd_eq, Nat.reduceEqDiff, ↓reduceIte]; exact e6) (by simp only [upd_eq, Nat.reduceEqDiff, ↓reduceIte]; exact e7) ?_
    clear s s2 e0 e1 e2 e6 e7 ol ul vl x3 r3 s3  q1
    clear e; intro e w s e0 e1 e2 e6 e7
    obtain ⟨lb, lo, lq, ol, ul, vl⟩ := s.nd 1 rfl
    rcases hch with ⟨rfl, rfl, rfl, rfl⟩ | ⟨lc, rc, rfl, rfl, hlp, hrp⟩
    · refine W_sq fun K hK => (W_text [true, false, true] (by kernel_rfl) ?_); simp only [↓List.toList_toArray, ↓rgd, ↓rgf, ↓reduceIte, Nat.reduceEqDiff, rg, ow_151, e6]
      refine do_call fn_108 (by simp only [evt, evc, upd_eq, Nat.reduceEqDiff, ↓reduceIte, maT, maC, maN, isnN, isnS] <;> rfl) (leaf_any p none w ol.h3) ?_
      rintro _ w1 ⟨rfl, hw1⟩
      obtain rfl : w = w1 := hw1.symm
      refine ⟨trivial, ?_⟩
      simp only [↓List.toList_toArray, ↓rgd, ↓rgf, ↓reduceIte, Nat.reduceEqDiff, rg, ow_151]
      refine hK _ _ ?_; clear hK K
      refine W_false (by simp only [evt, evc, upd_eq, Nat.reduceEqDiff, ↓reduceIte, ntT, ntF] <;> rfl) (W_skip ?_)
      show endQ _ _ _ _ _ _
      refine endQ_0n ?_
      obtain rfl : cg = 0 := by
        rcases hg with ⟨_, h⟩ | ⟨g, lp', h, _⟩
        · exact h
        · simp at h
      exact s
    · refine W_sq fun K hK => (W_text [true, false, true] (by kernel_rfl) ?_); simp only [↓List.toList_toArray, ↓rgd, ↓rgf, ↓reduceIte, Nat.reduceEqDiff, rg, ow_151, e6]
      refine do_call fn_108 (by simp only [evt, evc, upd_eq, Nat.reduceEqDiff, ↓reduceIte, maT, maC, maN, isnN, isnS] <;> rfl) (leaf_any p (some ⟨lc, 0, none⟩) w ol.h3) ?_
      rintro _ w1 ⟨rfl, hw1⟩
      obtain rfl : w = w1 := hw1.symm
      refine ⟨trivial, ?_⟩
      simp only [↓List.toList_toArray, ↓rgd, ↓rgf, ↓reduceIte, Nat.reduceEqDiff, rg, ow_151]
      refine hK _ _ ?_; clear hK K
      refine W_true (by simp only [evt, evc, upd_eq, Nat.reduceEqDiff, ↓reduceIte, ntT, ntF] <;> rfl) ?_
      refine W_st s (by simp only [upd_eq, Nat.reduceEqDiff, ↓reduceIte]; exact e0) (by simp only [upd_eq, Nat.reduceEqDiff, ↓reduceIte]; exact e1) (by simp only [upd_eq, Nat.reduceEqDiff, ↓reduceIte]; exact e2) (by simp only [upd_eq, Nat.reduceEqDiff, ↓reduceIte]; exact e6) (by simp only [upd_eq, Nat.reduceEqDiff, ↓reduceIte]; exact e7) ?_
      clear s e0 e1 e2 e6 e7 ol ul vl
      clear e; intro e w s e0 e1 e2 e6 e7
      obtain ⟨g, lp', rfl, hgc, hgG⟩ : ∃ g lp', lp = lp' ++ [some g] ∧ rd w0 g 1 = some (.int .i64 (cg : Nat)) ∧ ∀ o, ¬ G g o := by
        rcases hg with ⟨h, _⟩ | h
        · rw [h] at hlp; cases hlp
        · exact h
      obtain ⟨n2, hn2⟩ : ∃ n2, n2 = lp'.length + 1 := ⟨_, rfl⟩
      have hnk : (lp' ++ [some g]).length = n2 := by simp [hn2]
      have hrp0 : rp.length ≤ 2 * d := by omega
      have hn2b : n2 ≤ 2 * d := by omega
      clear hlp hll hrl hgt hlt hnl
      obtain ⟨tb, to, tq, ot, ut, vt⟩ := s.nd 2 rfl
      obtain ⟨zb, zo, zq, oz, uz, fn, fk⟩ := s.kdx 5 rfl (by omega)
      have hb_q := wok_lt ot.wb
      have hb_rc := wok_lt oz.hok
      have L0 := on2_0 q rc
      have L1 := on2_1 q rc
      refine W_sq fun K hK => (W_semi (some (some [q, rc])) (.take false 0 (.take false 1 (.take false 2 (.take false 3 (.take false 4 (.take false 5 (.take false 6 (.take false 7 (.take false 8 (.take false 9 (.act 10 (.act 11 (.take false 12 (.bar 13 .nil)))))))))))))) mixed (by kernel_rfl) ?_); simp only [↓rgm, ↓List.toList_toArray, ↓rgd, ↓rgf, ↓reduceIte, Nat.reduceEqDiff, rg, ow_151, e0, e1, e2, e6, e7, ptr_eq, ot.h3, oz.hd, L0, L1, rB_on]
      refine do_bsl rfl (rb_o none) fun w1 n1 => ⟨.inr (n1.keep _ (lt2 hb_q hb_rc)), ?_⟩
      simp only [↓List.toList_toArray, ↓rgd, ↓rgf, ↓reduceIte, Nat.reduceEqDiff, rg, ow_151, ↓rgm]
      have n1 := n1.od
      have a1 := oz.ext0 n1.ext
      refine do_append (by simp only [evt, evc, upd_eq, Nat.reduceEqDiff, ↓reduceIte, ntT, ntF] <;> rfl) (by simp only [evt, evc, upd_eq, Nat.reduceEqDiff, ↓reduceIte, ntT, ntF] <;> rfl) rb_elk rfl ni_166 a1.slV (u := .slice (some ⟨w.heap.size, 0, none⟩) 1 1) (m := 1) (l' := Eo.cel none) ⟨rfl, .inr ⟨_, 0, 1, rfl, Nat.le_refl _, n1.row, n1.wok.R (Nat.le_refl _)⟩⟩ (by omega) (by decide) (Eo.one _) fun v2 w2 a2 => ⟨.inr (app_keep a2 _ (fkeep2 ⟨wok_lt (n1.ext.wok ot.wb), fn 2 (by decide) rfl⟩ ⟨wok_lt (n1.ext.wok oz.hok), oz.ne.symm⟩)), ?_⟩
      obtain ⟨gb, go, gc, rfl, wk2, -, nx⟩ := a1.app' (ls := [none]) rfl (by rw [flat_one]; exact a2)
      simp only [↓List.toList_toArray, ↓rgd, ↓rgf, ↓reduceIte, Nat.reduceEqDiff, rg, ow_151, ↓rgm]
      refine do_store (by simp only [evt, evc, upd_eq, Nat.reduceEqDiff, ↓reduceIte, ntT, ntF] <;> rfl) (by simp only [evt, evc, upd_eq, Nat.reduceEqDiff, ↓reduceIte, ntT, ntF] <;> rfl) sz_166 rfl wk2 (by decide) (oc_one rfl rfl) fun w3 x3 r3 s3 => ⟨trivial, ?_⟩
      simp only [↓List.toList_toArray, ↓rgd, ↓rgf, ↓reduceIte, Nat.reduceEqDiff, rg, ow_151, ↓rgm]
      refine hK _ _ ?_; clear hK K
      obtain ⟨g1, g2, g3⟩ := nx w3 x3 (Row.cons.1 r3).1
      have s2 : Ss w0 G w3 [ndO E iso 1 b cb (ks.set j x) (ptr bc), ndO E iso 0 p ((cl - 1 : Nat) : Int) ls (ptr lc), ndO E iso 0 q ((cr + 1 : Nat) : Int) (k :: rs) (ptr rc), kdO (ptr bc) ps, kdO (ptr lc) (lp' ++ [some g]), kdO (ptr rc) (rp ++ [none])] := uz g1 (n1.ext.trans g2 (fun _ _ h => h.elim) fun _ _ _ h => h) (g3.imp id fun h => (by have := n1.size; omega))
      refine W_st s2 (by simp only [upd_eq, Nat.reduceEqDiff, ↓reduceIte]; exact e0) (by simp only [upd_eq, Nat.reduceEqDiff, ↓reduceIte]; exact e1) (by simp only [upd_eq, Nat.reduceEqDiff, ↓reduceIte]; exact e2) (by simp only [upd_eq, Nat.reduceEqDiff, ↓reduceIte]; exact e6) (by simp only [upd_eq, Nat.reduceEqDiff, ↓reduceIte]; exact e7) ?_
      clear s s2 e0 e1 e2 e6 e7 ot ut vt oz uz fn fk wk2 nx x3 r3 s3 g1 g2 g3 hb_q hb_rc n1 a1 a2 L0 L1
      clear e; intro e w s e0 e1 e2 e6 e7
      obtain ⟨tb, to, tq, ot, ut, vt⟩ := s.nd 2 rfl
      obtain ⟨zb, zo, zq, oz, uz⟩ := s.kd 5 rfl
      have hic := oz.le
      have hle : (rp ++ [none]).length = rp.length + 1 := by simp
      have i2 : 1 ≤ (rp ++ [none]).length := by omega
      obtain ⟨o1, h1, h1', -, k1⟩ := oz.from Eo_sz 1 i2
      have h3 : slcX (some 1) (.slice (some ⟨zb, zo, none⟩) (rp ++ [none]).length zq) (some (.int .i64 1)) none none = some (slFrom zb zo 1 1 (rp ++ [none]).length zq) := slcX_lo _ _ _ _ _ 1 _ i2
      refine W_sq fun K hK => (W_draw (some none) (some 13) [(0, 0, 0), (0, 1, 0), (0, 2, 0), (0, 3, 0), (0, 4, 0), (0, 5, 0), (0, 6, 0), (0, 7, 0), (0, 8, 0), (0, 9, 0), (0, 10, 0), (0, 11, 0), (0, 12, 0), (1, 13, 0)] mixed (by kernel_rfl) ?_); simp only [↓List.toList_toArray, ↓rgd, ↓rgf, ↓reduceIte, Nat.reduceEqDiff, rg, ow_151, e0, e1, e2, e6, e7, ptr_eq, ot.h3, oz.hd, h3, h1]
      refine do_copy (by simp only [evt, evc, upd_eq, Nat.reduceEqDiff, ↓reduceIte, ntT, ntF] <;> rfl) (by simp only [evt, evc, upd_eq, Nat.reduceEqDiff, ↓reduceIte, ntT, ntF] <;> rfl) rb_elk (SlV.ext0 oz.slV (Ext.dr noF w (w.drawn + 1))) ((Ext.dr noF w (w.drawn + 1)).wok k1) (flat_oc Eo _) fun w3 x3 r3 s3 => ⟨(by first | exact trivial | exact .inl trivial), ?_⟩
      simp only [↓List.toList_toArray, ↓rgd, ↓rgf, ↓reduceIte, Nat.reduceEqDiff, rg, ow_151, ↓rgm]
      refine hK _ _ ?_; clear hK K
      have hm : min (rp ++ [none]).length ((rp ++ [none]).length - 1) = rp.length := by omega
      rw [hm] at x3 r3
      rw [show rp.length * 1 = rp.length * Eo.sz from rfl, flat_take, List.take_left' rfl] at r3
      obtain ⟨g1, g2⟩ := oz.up x3.od r3 fun hA => by have := h1' (by omega); rw [Eo_sz]; omega
      have s2 : Ss w0 G w3 [ndO E iso 1 b cb (ks.set j x) (ptr bc), ndO E iso 0 p ((cl - 1 : Nat) : Int) ls (ptr lc), ndO E iso 0 q ((cr + 1 : Nat) : Int) (k :: rs) (ptr rc), kdO (ptr bc) ps, kdO (ptr lc) (lp' ++ [some g]), kdO (ptr rc) ((rp ++ [none]).take 1 ++ rp)] := uz g1 g2 (.inl ⟨rfl, rfl, rfl⟩)
      refine W_st s2 (by simp only [upd_eq, Nat.reduceEqDiff, ↓reduceIte]; exact e0) (by simp only [upd_eq, Nat.reduceEqDiff, ↓reduceIte]; exact e1) (by simp only [upd_eq, Nat.reduceEqDiff, ↓reduceIte]; exact e2) (by simp only [upd_eq, Nat.reduceEqDiff, ↓reduceIte]; exact e6) (by simp only [upd_eq, Nat.reduceEqDiff, ↓reduceIte]; exact e7) ?_
      clear s s2 e0 e1 e2 e6 e7 ot ut vt oz uz x3 r3 s3 g1 g2 hm hic hle i2 h1 h1' k1 h3
      clear e; intro e w s e0 e1 e2 e6 e7
      obtain ⟨tb, to, tq, ot, ut, vt⟩ := s.nd 2 rfl
      obtain ⟨zb, zo, zq, oz, uz⟩ := s.kd 5 rfl
      obtain ⟨lb, lo, lq, ol, ul, vl⟩ := s.nd 1 rfl
      obtain ⟨yb, yo, yq, oy, uy⟩ := s.kd 4 rfl
      have h2 := oy.hd
      rw [hnk] at h2
      have q1 := wsub1 n2 (by omega) (by omega)
      have hi : n2 - 1 < n2 := by omega
      have hgv := oy.ptr_at (j := n2 - 1) (p := g) (by simp [hn2])
      have hl0 : 0 < ((rp ++ [none]).take 1 ++ rp).length := by simp only [List.length_append, List.length_take, List.length_cons, List.length_nil]; omega
      have i0 := ix0 1 zb zo ((rp ++ [none]).take 1 ++ rp).length hl0
      refine W_sq fun K hK => (W_draw (some none) (some 23) [(0, 0, 0), (0, 1, 0), (0, 2, 0), (0, 3, 0), (0, 4, 0), (0, 5, 0), (0, 6, 0), (0, 7, 0), (0, 8, 0), (0, 9, 0), (0, 10, 0), (0, 11, 0), (0, 12, 0), (0, 13, 0), (0, 14, 0), (0, 15, 0), (0, 16, 0), (0, 17, 0), (0, 18, 0), (0, 19, 0), (0, 20, 0), (0, 21, 0), (0, 22, 0), (1, 23, 0)] mixed (by kernel_rfl) ?_); simp only [↓List.toList_toArray, ↓rgd, ↓rgf, ↓reduceIte, Nat.reduceEqDiff, rg, ow_151, e0, e1, e2, e6, e7, ptr_eq, ot.h3, oz.hd, ol.h3, h2, q1, hi, hgv, i0]
      refine do_store (by simp only [evt, evc, upd_eq, Nat.reduceEqDiff, ↓reduceIte, ntT, ntF] <;> rfl) (by simp only [evt, evc, upd_eq, Nat.reduceEqDiff, ↓reduceIte, ntT, ntF] <;> rfl) sz_96 rfl oz.wi (by have := oz.le; rw [Eo_sz]; skip; omega) (oc_one rfl rfl) fun w3 x3 r3 s3 => ⟨(by first | exact trivial | exact .inl trivial), ?_⟩
      simp only [↓List.toList_toArray, ↓rgd, ↓rgf, ↓reduceIte, Nat.reduceEqDiff, rg, ow_151, ↓rgm]
      refine hK _ _ ?_; clear hK K
      obtain ⟨g1, g2⟩ := oz.set (i := 0) (x := (some g)) (hl0) (by rw [Nat.zero_mul, Nat.add_zero]; exact x3.od) (by rw [Nat.zero_mul, Nat.add_zero]; exact r3)
      rw [set_first] at g1
      have s2 : Ss w0 G w3 [ndO E iso 1 b cb (ks.set j x) (ptr bc), ndO E iso 0 p ((cl - 1 : Nat) : Int) ls (ptr lc), ndO E iso 0 q ((cr + 1 : Nat) : Int) (k :: rs) (ptr rc), kdO (ptr bc) ps, kdO (ptr lc) (lp' ++ [some g]), kdO (ptr rc) (some g :: rp)] := uz g1 g2 (.inl ⟨rfl, rfl, rfl⟩)
      refine W_st s2 (by simp only [upd_eq, Nat.reduceEqDiff, ↓reduceIte]; exact e0) (by simp only [upd_eq, Nat.reduceEqDiff, ↓reduceIte]; exact e1) (by simp only [upd_eq, Nat.reduceEqDiff, ↓reduceIte]; exact e2) (by simp only [upd_eq, Nat.reduceEqDiff, ↓reduceIte]; exact e6) (by simp only [upd_eq, Nat.reduceEqDiff, ↓reduceIte]; exact e7) ?_
      clear s s2 e0 e1 e2 e6 e7 ot ut vt oz uz ol ul vl oy uy x3 r3 s3 g1 g2 h2 q1 hi hgv hl0 i0
      clear e; intro e w s e0 e1 e2 e6 e7
      obtain ⟨lb, lo, lq, ol, ul, vl⟩ := s.nd 1 rfl
      obtain ⟨yb, yo, yq, oy, uy⟩ := s.kd 4 rfl
      have hA : (lp' ++ [some g]).length = n2 := by rw [List.length_append, List.length_singleton]; skip; omega
      have h2 := oy.hd
      rw [hA] at h2
      have q1 := wsub1 (n2) (by omega) (by omega)
      have hi : n2 - 1 < n2 := by omega
      refine W_sq fun K hK => (W_draw (some none) (some 15) [(0, 0, 0), (0, 1, 0), (0, 2, 0), (0, 3, 0), (0, 4, 0), (0, 5, 0), (0, 6, 0), (0, 7, 0), (0, 8, 0), (0, 9, 0), (0, 10, 0), (0, 11, 0), (0, 12, 0), (0, 13, 0), (0, 14, 0), (1, 15, 0)] mixed (by kernel_rfl) ?_); simp only [↓List.toList_toArray, ↓rgd, ↓rgf, ↓reduceIte, Nat.reduceEqDiff, rg, ow_151, e0, e1, e2, e6, e7, ptr_eq, ol.h3, h2, q1, hi]
      refine do_store (by simp only [evt, evc, upd_eq, Nat.reduceEqDiff, ↓reduceIte, ntT, ntF] <;> rfl) (by simp only [evt, evc, upd_eq, Nat.reduceEqDiff, ↓reduceIte, ntT, ntF] <;> rfl) sz_96 rfl oy.wi (by have := oy.le; rw [Eo_sz]; rw [hA] at this; omega) (oc_one rfl rfl) fun w3 x3 r3 s3 => ⟨(by first | exact trivial | exact .inl trivial), ?_⟩
      simp only [↓List.toList_toArray, ↓rgd, ↓rgf, ↓reduceIte, Nat.reduceEqDiff, rg, ow_151, ↓rgm]
      refine hK _ _ ?_; clear hK K
      obtain ⟨g1, g2⟩ := oy.set (i := n2 - 1) (x := none) (by rw [hA]; omega) (by rw [Eo_sz, Nat.mul_one]; exact x3.od) (by rw [Eo_sz, Nat.mul_one]; exact r3)
      have hs : (lp' ++ [some g]).set (n2 - 1) none = lp' ++ [none] := by rw [show n2 - 1 = (lp').length by skip; omega]; exact set_last
      rw [hs] at g1
      have s2 : Ss w0 G w3 [ndO E iso 1 b cb (ks.set j x) (ptr bc), ndO E iso 0 p ((cl - 1 : Nat) : Int) ls (ptr lc), ndO E iso 0 q ((cr + 1 : Nat) : Int) (k :: rs) (ptr rc), kdO (ptr bc) ps, kdO (ptr lc) (lp' ++ [none]), kdO (ptr rc) (some g :: rp)] := uy g1 g2 (.inl ⟨rfl, rfl, rfl⟩)
      refine W_st s2 (by simp only [upd_eq, Nat.reduceEqDiff, ↓reduceIte]; exact e0) (by simp only [upd_eq, Nat.reduceEqDiff, ↓reduceIte]; exact e1) (by simp only [upd_eq, Nat.reduceEqDiff, ↓reduceIte]; exact e2) (by simp only [upd_eq, Nat.reduceEqDiff, ↓reduceIte]; exact e6) (by simp only [upd_eq, Nat.reduceEqDiff, ↓reduceIte]; exact e7) ?_
      clear s s2 e0 e1 e2 e6 e7 ol ul vl oy uy x3 r3 s3 g1 g2 hA h2 q1 hi hs
      clear e; intro e w s e0 e1 e2 e6 e7
      obtain ⟨lb, lo, lq, ol, ul, vl⟩ := s.nd 1 rfl
      obtain ⟨yb, yo, yq, oy, uy⟩ := s.kd 4 rfl
      have hA : (lp' ++ [none]).length = n2 := by rw [List.length_append, List.length_singleton]; skip; omega
      have h2 := oy.hd
      have h4 := oy.le
      rw [hA] at h2 h4
      have q1 := wsub1 (n2) (by omega) (by omega)
      have hi : n2 - 1 ≤ yq := by omega
      refine W_sq fun K hK => (W_draw (some none) (some 20) [(0, 0, 0), (0, 1, 0), (0, 2, 0), (0, 3, 0), (0, 4, 0), (0, 5, 0), (0, 6, 0), (0, 7, 0), (0, 8, 0), (0, 9, 0), (0, 10, 0), (0, 11, 0), (0, 12, 0), (0, 13, 0), (0, 14, 0), (0, 15, 0), (0, 16, 0), (0, 17, 0), (0, 18, 0), (0, 19, 0), (1, 20, 0)] mixed (by kernel_rfl) ?_); simp only [↓List.toList_toArray, ↓rgd, ↓rgf, ↓reduceIte, Nat.reduceEqDiff, rg, ow_151, e0, e1, e2, e6, e7, ptr_eq, ol.h3, h2, q1, hi]
      refine do_store (by simp only [evt, evc, upd_eq, Nat.reduceEqDiff, ↓reduceIte, ntT, ntF] <;> rfl) (by simp only [evt, evc, upd_eq, Nat.reduceEqDiff, ↓reduceIte, ntT, ntF] <;> rfl) sz_166 rfl oy.hok (by decide) (oc_one rfl rfl) fun w3 x3 r3 s3 => ⟨(by first | exact trivial | exact .inl trivial), ?_⟩
      simp only [↓List.toList_toArray, ↓rgd, ↓rgf, ↓reduceIte, Nat.reduceEqDiff, rg, ow_151, ↓rgm]
      refine hK _ _ ?_; clear hK K
      obtain ⟨g1, g2⟩ := oy.cut x3.od (by rw [show (lp').length = n2 - 1 by skip; omega]; exact (Row.cons.1 r3).1)
      have s2 : Ss w0 G w3 [ndO E iso 1 b cb (ks.set j x) (ptr bc), ndO E iso 0 p ((cl - 1 : Nat) : Int) ls (ptr lc), ndO E iso 0 q ((cr + 1 : Nat) : Int) (k :: rs) (ptr rc), kdO (ptr bc) ps, kdO (ptr lc) lp', kdO (ptr rc) (some g :: rp)] := uy g1 g2 (.inl ⟨rfl, rfl, rfl⟩)
      refine W_st s2 (by simp only [upd_eq, Nat.reduceEqDiff, ↓reduceIte]; exact e0) (by simp only [upd_eq, Nat.reduceEqDiff, ↓reduceIte]; exact e1) (by simp only [upd_eq, Nat.reduceEqDiff, ↓reduceIte]; exact e2) (by simp only [upd_eq, Nat.reduceEqDiff, ↓reduceIte]; exact e6) (by simp only [upd_eq, Nat.reduceEqDiff, ↓reduceIte]; exact e7) ?_
      clear s s2 e0 e1 e2 e6 e7 ol ul vl oy uy x3 r3 s3 g1 g2 hA h2 h4 q1 hi
      clear e; intro e w s e0 e1 e2 e6 e7
      obtain ⟨lb, lo, lq, ol, ul, vl⟩ := s.nd 1 rfl
      obtain ⟨tb, to, tq, ot, ut, vt⟩ := s.nd 2 rfl
      obtain ⟨zb, zo, zq, oz, uz⟩ := s.kd 5 rfl
      have hgv := oz.ptr_at (j := 0) (p := g) rfl
      rw [Nat.add_zero] at hgv
      have hg1 := s.x.rd hgc (hgG 1)
      have hl0 : 0 < (some g :: rp).length := by simp
      have i0 := ix0 1 zb zo (some g :: rp).length hl0
      have q1 := wsub (cl - 1) cg (by omega) (by omega)
      refine W_sq fun K hK => (W_draw (some none) (some 18) [(0, 0, 0), (0, 1, 0), (0, 2, 0), (0, 3, 0), (0, 4, 0), (0, 5, 0), (0, 6, 0), (0, 7, 0), (0, 8, 0), (0, 9, 0), (0, 10, 0), (0, 11, 0), (0, 12, 0), (0, 13, 0), (0, 14, 0), (0, 15, 0), (0, 16, 0), (0, 17, 0), (1, 18, 0)] mixed (by kernel_rfl) ?_); simp only [↓List.toList_toArray, ↓rgd, ↓rgf, ↓reduceIte, Nat.reduceEqDiff, rg, ow_151, e0, e1, e2, e6, e7, ptr_eq, ol.h1, ot.h3, oz.hd, i0, hgv, hg1, q1]
      refine do_store (by simp only [evt, evc, upd_eq, Nat.reduceEqDiff, ↓reduceIte, ntT, ntF] <;> rfl) (by simp only [evt, evc, upd_eq, Nat.reduceEqDiff, ↓reduceIte, ntT, ntF] <;> rfl) sz_3 rfl ol.wb (by decide) (oc_one rfl rfl) fun w3 x3 r3 s3 => ⟨(by first | exact trivial | exact .inl trivial), ?_⟩
      simp only [↓List.toList_toArray, ↓rgd, ↓rgf, ↓reduceIte, Nat.reduceEqDiff, rg, ow_151, ↓rgm]
      refine hK _ _ ?_; clear hK K
      have s2 : Ss w0 G w3 [ndO E iso 1 b cb (ks.set j x) (ptr bc), ndO E iso 0 p ((cl - 1 - cg : Nat) : Int) ls (ptr lc), ndO E iso 0 q ((cr + 1 : Nat) : Int) (k :: rs) (ptr rc), kdO (ptr bc) ps, kdO (ptr lc) lp', kdO (ptr rc) (some g :: rp)] := vl x3.od (Row.cons.1 r3).1
      refine W_st s2 (by simp only [upd_eq, Nat.reduceEqDiff, ↓reduceIte]; exact e0) (by simp only [upd_eq, Nat.reduceEqDiff, ↓reduceIte]; exact e1) (by simp only [upd_eq, Nat.reduceEqDiff, ↓reduceIte]; exact e2) (by simp only [upd_eq, Nat.reduceEqDiff, ↓reduceIte]; exact e6) (by simp only [upd_eq, Nat.reduceEqDiff, ↓reduceIte]; exact e7) ?_
      clear s s2 e0 e1 e2 e6 e7 ol ul vl ot ut vt oz uz x3 r3 s3 hgv hg1 hl0 i0 q1
      clear e; intro e w s e0 e1 e2 e6 e7
      obtain ⟨tb, to, tq, ot, ut, vt⟩ := s.nd 2 rfl
      obtain ⟨zb, zo, zq, oz, uz⟩ := s.kd 5 rfl
      have hgv := oz.ptr_at (j := 0) (p := g) rfl
      rw [Nat.add_zero] at hgv
      have hg1 := s.x.rd hgc (hgG 1)
      have hl0 : 0 < (some g :: rp).length := by simp
      have i0 := ix0 1 zb zo (some g :: rp).length hl0
      have q1 := wadd (cr + 1) cg (by omega)
      refine W_rg fun K hK => (W_draw (some none) (some 18) [(0, 0, 0), (0, 1, 0), (0, 2, 0), (0, 3, 0), (0, 4, 0), (0, 5, 0), (0, 6, 0), (0, 7, 0), (0, 8, 0), (0, 9, 0), (0, 10, 0), (0, 11, 0), (0, 12, 0), (0, 13, 0), (0, 14, 0), (0, 15, 0), (0, 16, 0), (0, 17, 0), (1, 18, 0)] mixed (by kernel_rfl) ?_); simp only [↓List.toList_toArray, ↓rgd, ↓rgf, ↓reduceIte, Nat.reduceEqDiff, rg, ow_151, e0, e1, e2, e6, e7, ptr_eq, ot.h1, ot.h3, oz.hd, i0, hgv, hg1, q1]
      refine do_store (by simp only [evt, evc, upd_eq, Nat.reduceEqDiff, ↓reduceIte, ntT, ntF] <;> rfl) (by simp only [evt, evc, upd_eq, Nat.reduceEqDiff, ↓reduceIte, ntT, ntF] <;> rfl) sz_3 rfl ot.wb (by decide) (oc_one rfl rfl) fun w3 x3 r3 s3 => ⟨(by first | exact trivial | exact .inl trivial), ?_⟩
      simp only [↓List.toList_toArray, ↓rgd, ↓rgf, ↓reduceIte, Nat.reduceEqDiff, rg, ow_151, ↓rgm]
      refine hK _ _ ?_; clear hK K
      have s2 : Ss w0 G w3 [ndO E iso 1 b cb (ks.set j x) (ptr bc), ndO E iso 0 p ((cl - 1 - cg : Nat) : Int) ls (ptr lc), ndO E iso 0 q ((cr + 1 + cg : Nat) : Int) (k :: rs) (ptr rc), kdO (ptr bc) ps, kdO (ptr lc) lp', kdO (ptr rc) (some g :: rp)] := vt x3.od (Row.cons.1 r3).1
      show endQ _ _ _ _ _ _
      refine endQ_0n ?_
      rw [List.dropLast_concat, show (lp' ++ [some g]).drop ((lp' ++ [some g]).length - 1) = [some g] by simp]
      exact s2
  obtain ⟨nb, no, nc, on, un, vn⟩ := s.nd 0 rfl
  rcases hj with ⟨rfl, hj⟩ | ⟨rfl, hj⟩
  · have hb : ((i0 : Int) == (ks.length : Int)) = false := by simp; omega
    refine W_sq fun K hK => (W_text [true, true, true, true, true, true, true] (by kernel_rfl) ?_); simp only [↓List.toList_toArray, ↓rgd, ↓rgf, ↓reduceIte, Nat.reduceEqDiff, rg, ow_151, e1, e2, ptr_eq, on.h2, hb]
    refine hK _ _ ?_; clear hK K
    refine W_false (by simp only [evt, evc, upd_eq, Nat.reduceEqDiff, ↓reduceIte, ntT, ntF] <;> rfl) (W_skip ?_)
    exact hend _ (by simp only [upd_eq, Nat.reduceEqDiff, ↓reduceIte]; exact e0) (by simp only [upd_eq, Nat.reduceEqDiff, ↓reduceIte]; exact e1) (by simp only [upd_eq, Nat.reduceEqDiff, ↓reduceIte]; exact e2)
  · have hb : ((ks.length : Int) == (ks.length : Int)) = true := by simp
    refine W_sq fun K hK => (W_text [true, true, true, true, true, true, true] (by kernel_rfl) ?_); simp only [↓List.toList_toArray, ↓rgd, ↓rgf, ↓reduceIte, Nat.reduceEqDiff, rg, ow_151, e1, e2, ptr_eq, on.h2, hb]
    refine hK _ _ ?_; clear hK K
    refine W_true (by simp only [evt, evc, upd_eq, Nat.reduceEqDiff, ↓reduceIte, ntT, ntF] <;> rfl) ?_
    have q1 := wsub1 ks.length (by omega) (by omega)
    have hjs : ks.length - 1 = j := by omega
    refine W_rg fun K hK => (W_text [true, true, true] (by kernel_rfl) ?_); simp only [↓List.toList_toArray, ↓rgd, ↓rgf, ↓reduceIte, Nat.reduceEqDiff, rg, ow_151, e2, q1]
    refine hK _ _ ?_; clear hK K
    exact hend _ (by simp only [upd_eq, Nat.reduceEqDiff, ↓reduceIte]; exact e0) (by simp only [upd_eq, Nat.reduceEqDiff, ↓reduceIte]; exact e1) (by simp only [upd_eq, Nat.reduceEqDiff, ↓reduceIte] <;> rw [hjs])
end Go.Proofs.Ytbnnkcofnmipoaa
/-
  nodeRebalance: right to left. No condition.
-/
set_option linter.unusedSimpArgs false
set_option linter.unusedVariables false
namespace Go.Proofs.Ytbnnkcofnmipoaa
open Go Go.Proofs
set_option maxHeartbeats 4000000 in
set_option maxRecDepth 8000 in
theorem reb_left (m d b p q bc i0 j cl cr : Nat) (iso cb : Int) (ks ls rs : List It) (k x : It) (ps lp rp : List (Option Nat)) (chl chr : Value) (w0 w : World) (G : Nat → Nat → Prop) (hd : 2 ≤ d) (hd' : d ≤ 128) (hc : Cfg w0 m iso d) (hG : ∀ o, ¬ G m o)
    (s : Ss w0 G w [ndO E iso 1 b cb ks (ptr bc), ndO E iso 0 p (cl : Nat) ls chl, ndO E iso 0 q (cr : Nat) (x :: rs) chr, kdO (ptr bc) ps, kdO chl lp, kdO chr rp]) (hj : (i0 = j ∧ j < ks.length) ∨ (i0 = ks.length ∧ j + 1 = ks.length)) (hkl : ks.length ≤ 2 * d - 1) (hk : ks[j]? = some k) (hps : ps.length = ks.length + 1) (hp : ps[j]? = some (some p)) (hq : ps[j + 1]? = some (some q))
    (hch : (chl = .pointer none ∧ chr = .pointer none ∧ lp = [] ∧ rp = []) ∨ ∃ lc rc, chl = ptr lc ∧ chr = ptr rc ∧ lp.length = ls.length + 1 ∧ rp.length = (x :: rs).length + 1) (hll : ls.length ≤ 2 * d - 1) (hrl : (x :: rs).length ≤ 2 * d - 1) (hcl : cl < 2305843009213693952) (hcr : cr < 2305843009213693952) (hlt : 2 * d - 1 ≤ ls.length + (x :: rs).length) (hgt : ls.length ≤ (x :: rs).length) (cg : Nat) (hcg : 1 + cg ≤ cr) (hcgb : cl + cg < 2305843009213693952) (hg : (rp = [] ∧ cg = 0) ∨ ∃ g rp', rp = some g :: rp' ∧ rd w0 g 1 = some (.int .i64 (cg : Nat)) ∧ ∀ o, ¬ G g o) :
    CallK Try.prog 151 #[ptr m, ptr b, .int .i64 (i0 : Nat)] w fun _ w' => Ss w0 G w' [ndO E iso 1 b cb (ks.set j x) (ptr bc), ndO E iso 0 p ((cl + 1 + cg : Nat) : Int) (ls ++ [k]) chl, ndO E iso 0 q ((cr - 1 - cg : Nat) : Int) rs chr, kdO (ptr bc) ps, kdO chl (lp ++ rp.take 1), kdO chr (rp.drop 1)] := by
  have hjn : j < ks.length := (List.getElem?_eq_some_iff.1 hk).1
  refine calls_of_W [] Try.func151 rfl Try.ntmps151 Try.results151 (by simp) fun e he => ?_
  have e0 : e 0 = ptr m := he 0 _ rfl
  have e1 : e 1 = ptr b := he 1 _ rfl
  have e2 : e 2 = .int .i64 (i0 : Nat) := he 2 _ rfl
  clear he
  refine W_sqx fun J hJ => ?_
  have hend : ∀ e, e 0 = ptr m → e 1 = ptr b → e 2 = .int .i64 j → J e w := by
    clear e0 e1 e2 e
    intro e e0 e1 e2
    refine hJ _ _ ?_; clear hJ J
    obtain ⟨nb, no, nc, on, un, vn⟩ := s.nd 0 rfl
    obtain ⟨xb, xo, xc, ox, ux⟩ := s.kd 3 rfl
    obtain ⟨lb, lo, lq, ol, ul, vl⟩ := s.nd 1 rfl
    obtain ⟨tb, to, tq, ot, ut, vt⟩ := s.nd 2 rfl
    have hiso := (hc.ext s.x fun o _ _ => hG o).iso
    have hjp : j < ps.length := by omega
    refine W_sq fun K hK => (W_text [true, true, true, true, true, true, true, true, true, false, true] (by kernel_rfl) ?_); simp only [↓List.toList_toArray, ↓rgd, ↓rgf, ↓reduceIte, Nat.reduceEqDiff, rg, ow_151, e0, e1, e2, ptr_eq, on.h3, ox.hd, hjp]
    refine do_call fn_96 (by simp only [evt, evc, upd_eq, Nat.reduceEqDiff, ↓reduceIte, maT, maC, maN, isnN, isnS] <;> rfl) (isoLoad_any m xb (xo + j) p true iso _ hiso (ox.ptr_at hp) ol.h0) ?_
    rintro _ w1 ⟨rfl, r1⟩
    refine ⟨trivial, ?_⟩
    simp only [↓List.toList_toArray, ↓rgd, ↓rgf, ↓reduceIte, Nat.reduceEqDiff, rg, ow_151]
    refine hK _ _ ?_; clear hK K
    have X1 : Ext noF w w1 := r1.ext
    have on := on.ext X1 fun _ _ _ g => g
    have ox := ox.ext0 X1
    have ot := ot.ext X1 fun _ _ _ g => g
    have hiso := X1.rd hiso fun g => g
    have q1 := wadd1 j (by omega)
    have hjp : j + 1 < ps.length := by omega
    refine W_sq fun K hK => (W_text [true, true, true, true, true, true, true, true, true, true, false, true] (by kernel_rfl) ?_); simp only [↓List.toList_toArray, ↓rgd, ↓rgf, ↓reduceIte, Nat.reduceEqDiff, rg, ow_151, e0, e1, e2, ptr_eq, on.h3, ox.hd, hjp, q1]
    refine do_call fn_96 (by simp only [evt, evc, upd_eq, Nat.reduceEqDiff, ↓reduceIte, maT, maC, maN, isnN, isnS] <;> rfl) (isoLoad_any m xb (xo + (j + 1)) q true iso _ hiso (ox.ptr_at hq) ot.h0) ?_
    rintro _ w2 ⟨rfl, r2⟩
    refine ⟨trivial, ?_⟩
    simp only [↓List.toList_toArray, ↓rgd, ↓rgf, ↓reduceIte, Nat.reduceEqDiff, rg, ow_151]
    refine hK _ _ ?_; clear hK K
    have s2 := (s.ext0 X1).ext0 r2.ext
    refine W_st s2 (by simp only [upd_eq, Nat.reduceEqDiff, ↓reduceIte]; exact e0) (by simp only [upd_eq, Nat.reduceEqDiff, ↓reduceIte]; exact e1) (by simp only [upd_eq, Nat.reduceEqDiff, ↓reduceIte]; exact e2) (by simp only [upd_eq, Nat.reduceEqDiff, ↓reduceIte] <;> rfl) (by simp only [upd_eq, Nat.reduceEqDiff, ↓reduceIte] <;> rfl) ?_
    clear s s2 e0 e1 e2 on un vn ox ux ol ul vl ot ut vt hiso X1 r1 r2 hjp q1
    clear e; intro e w s e0 e1 e2 e6 e7
    obtain ⟨lb, lo, lq, ol, ul, vl⟩ := s.nd 1 rfl
    obtain ⟨tb, to, tq, ot, ut, vt⟩ := s.nd 2 rfl
    have q1 := wadd ls.length (x :: rs).length (by omega)
    have hmx := (hc.ext s.x fun o _ _ => hG o).mx
    have hb : decide (((ls.length + (x :: rs).length : Nat) : Int) < ((2 * d - 1 : Nat) : Int)) = false := by simp only [decide_eq_false_iff_not]; omega
    refine W_sq fun K hK => (W_draw (some none) none [(0, 0, 0), (0, 1, 0), (0, 2, 0), (0, 3, 0), (0, 4, 0), (0, 5, 0), (0, 6, 0), (0, 7, 0), (0, 8, 0), (0, 9, 0), (0, 10, 0), (0, 11, 0), (0, 12, 0), (0, 13, 0), (0, 14, 0), (0, 15, 0)] mixed (by kernel_rfl) ?_); simp only [↓List.toList_toArray, ↓rgd, ↓rgf, ↓reduceIte, Nat.reduceEqDiff, rg, ow_151, e0, e6, e7, ptr_eq, ol.h2, ot.h2, q1, hmx, hb]
    refine hK _ _ ?_; clear hK K
    refine W_false (by simp only [evt, evc, upd_eq, Nat.reduceEqDiff, ↓reduceIte, ntT, ntF] <;> rfl) ?_
    have hb2 : decide (((x :: rs).length : Int) < (ls.length : Int)) = false := by simp only [decide_eq_false_iff_not]; omega
    refine W_sq fun K hK => (W_draw (some none) none [(0, 0, 0), (0, 1, 0), (0, 2, 0), (0, 3, 0), (0, 4, 0), (0, 5, 0), (0, 6, 0), (0, 7, 0), (0, 8, 0), (0, 9, 0), (0, 10, 0)] mixed (by kernel_rfl) ?_); simp only [↓List.toList_toArray, ↓rgd, ↓rgf, ↓reduceIte, Nat.reduceEqDiff, rg, ow_151, e0, e6, e7, ptr_eq, ol.h2, ot.h2, hb2]
    refine hK _ _ ?_; clear hK K
    refine W_false (by simp only [evt, evc, upd_eq, Nat.reduceEqDiff, ↓reduceIte, ntT, ntF] <;> rfl) ?_
    refine W_st (s.ext0 (Ext.dr noF w _)) (by simp only [upd_eq, Nat.reduceEqDiff, ↓reduceIte]; exact e0) (by simp only [upd_eq, Nat.reduceEqDiff, ↓reduceIte]; exact e1) (by simp only [upd_eq, Nat.reduceEqDiff, ↓reduceIte]; exact e2) (by simp only [upd_eq, Nat.reduceEqDiff, ↓reduceIte]; exact e6) (by simp only [upd_eq, Nat.reduceEqDiff, ↓reduceIte]; exact e7) ?_
    clear s e0 e1 e2 e6 e7 ol ul vl ot ut vt q1 hmx hb hb2
    clear e; intro e w s e0 e1 e2 e6 e7
    obtain ⟨n0, hn0⟩ : ∃ n0, n0 = rs.length + 1 := ⟨_, rfl⟩
    have hnl : (x :: rs).length = n0 := by simp [hn0]
    obtain ⟨lb, lo, lq, ol, ul, vl⟩ := s.nd 1 rfl
    obtain ⟨nb, no, nq, on, un, vn⟩ := s.nd 0 rfl
    have hkv := it_at on.row hk
    have hb_p := wok_lt ol.wb
    have L0 := on1_0 p
    refine W_sq fun K hK => (W_semi (some (some [p])) (.take false 0 (.take false 1 (.take false 2 (.take false 3 (.take false 4 (.take false 5 (.take false 6 (.take false 7 (.take true 8 (.take false 9 (.take false 10 (.take true 11 (.act 12 (.bar 13 (.take false 14 (.take false 15 (.bar 16 .nil))))))))))))))))) mixed (by kernel_rfl) ?_); simp only [↓rgm, ↓List.toList_toArray, ↓rgd, ↓rgf, ↓reduceIte, Nat.reduceEqDiff, rg, ow_151, e0, e1, e2, e6, e7, ptr_eq, ol.h2, on.h2, hjn, hkv, L0, rB_on]
    refine do_bsl rfl (rb_k k) fun w1 n1 => ⟨.inr (n1.keep _ (lt1 hb_p)), ?_⟩
    simp only [↓List.toList_toArray, ↓rgd, ↓rgf, ↓reduceIte, Nat.reduceEqDiff, rg, ow_151, ↓rgm]
    have n1 := n1.od
    have a1 := ol.se.ext0 n1.ext
    refine do_append (by simp only [evt, evc, upd_eq, Nat.reduceEqDiff, ↓reduceIte, ntT, ntF] <;> rfl) (by simp only [evt, evc, upd_eq, Nat.reduceEqDiff, ↓reduceIte, ntT, ntF] <;> rfl) rb_eli rfl ni_25 a1.slV (u := .slice (some ⟨w.heap.size, 0, none⟩) 1 1) (m := 1) (l' := E.cel k) ⟨rfl, .inr ⟨_, 0, 1, rfl, Nat.le_refl _, n1.row, n1.wok.R (Nat.le_refl _)⟩⟩ (by omega) (by decide) (E.one _) fun v2 w2 a2 => ⟨trivial, ?_⟩
    obtain ⟨gb, go, gc, rfl, wk2, -, nx⟩ := a1.app' (ls := [k]) rfl (by rw [flat_one]; exact a2)
    simp only [↓List.toList_toArray, ↓rgd, ↓rgf, ↓reduceIte, Nat.reduceEqDiff, rg, ow_151, ↓rgm]
    refine do_store (by simp only [evt, evc, upd_eq, Nat.reduceEqDiff, ↓reduceIte, ntT, ntF] <;> rfl) (by simp only [evt, evc, upd_eq, Nat.reduceEqDiff, ↓reduceIte, ntT, ntF] <;> rfl) sz_25 rfl wk2 (by decide) (oc_one rfl rfl) fun w3 x3 r3 s3 => ⟨trivial, ?_⟩
    simp only [↓List.toList_toArray, ↓rgd, ↓rgf, ↓reduceIte, Nat.reduceEqDiff, rg, ow_151, ↓rgm]
    refine hK _ _ ?_; clear hK K
    obtain ⟨g1, g2, g3⟩ := nx w3 x3 (Row.cons.1 r3).1
    have s2 : Ss w0 G w3 [ndO E iso 1 b cb ks (ptr bc), ndO E iso 0 p (cl : Nat) (ls ++ [k]) chl, ndO E iso 0 q (cr : Nat) (x :: rs) chr, kdO (ptr bc) ps, kdO chl lp, kdO chr rp] := ul g1 (n1.ext.trans g2 (fun _ _ h => h.elim) fun _ _ _ h => h) (g3.imp id fun h => ⟨(by have := n1.size; omega), Nat.zero_le _⟩)
    refine W_st s2 (by simp only [upd_eq, Nat.reduceEqDiff, ↓reduceIte]; exact e0) (by simp only [upd_eq, Nat.reduceEqDiff, ↓reduceIte]; exact e1) (by simp only [upd_eq, Nat.reduceEqDiff, ↓reduceIte]; exact e2) (by simp only [upd_eq, Nat.reduceEqDiff, ↓reduceIte]; exact e6) (by simp only [upd_eq, Nat.reduceEqDiff, ↓reduceIte]; exact e7) ?_
    clear s s2 e0 e1 e2 e6 e7 ol ul vl on un vn wk2 nx x3 r3 s3 g1 g2 g3 hkv hb_p n1 a1 a2 L0
    clear e; intro e w s e0 e1 e2 e6 e7
    obtain ⟨lb, lo, lq, ol, ul, vl⟩ := s.nd 1 rfl
    have q1 := wadd1 cl (by omega)
    refine W_sq fun K hK => (W_text [true, true, true, true, true, true, true, false] (by kernel_rfl) ?_); simp only [↓List.toList_toArray, ↓rgd, ↓rgf, ↓reduceIte, Nat.reduceEqDiff, rg, ow_151, e0, e1, e2, e6, e7, ptr_eq, ol.h1, q1]
    refine do_store (by simp only [evt, evc, upd_eq, Nat.reduceEqDiff, ↓reduceIte, ntT, ntF] <;> rfl) (by simp only [evt, evc, upd_eq, Nat.reduceEqDiff, ↓reduceIte, ntT, ntF] <;> rfl) sz_3 rfl ol.wb (by decide) (oc_one rfl rfl) fun w3 x3 r3 s3 => ⟨(by first | exact trivial | exact .inl trivial), ?_⟩
    simp only [↓List.toList_toArray, ↓rgd, ↓rgf, ↓reduceIte, Nat.reduceEqDiff, rg, ow_151, ↓rgm]
    refine hK _ _ ?_; clear hK K
    have s2 : Ss w0 G w3 [ndO E iso 1 b cb ks (ptr bc), ndO E iso 0 p ((cl + 1 : Nat) : Int) (ls ++ [k]) chl, ndO E iso 0 q (cr : Nat) (x :: rs) chr, kdO (ptr bc) ps, kdO chl lp, kdO chr rp] := vl x3 (Row.cons.1 r3).1
    refine W_st s2 (by simp only [upd_eq, Nat.reduceEqDiff, ↓reduceIte]; exact e0) (by simp only [upd_eq, Nat.reduceEqDiff, ↓reduceIte]; exact e1) (by simp only [upd_eq, Nat.reduceEqDiff, ↓reduceIte]; exact e2) (by simp only [upd_eq, Nat.reduceEqDiff, ↓reduceIte]; exact e6) (by simp only [upd_eq, Nat.reduceEqDiff, ↓reduceIte]; exact e7) ?_
    clear s s2 e0 e1 e2 e6 e7 ol ul vl x3 r3 s3  q1
    clear e; intro e w s e0 e1 e2 e6 e7
    obtain ⟨nb, no, nq, on, un, vn⟩ := s.nd 0 rfl
    obtain ⟨tb, to, tq, ot, ut, vt⟩ := s.nd 2 rfl
    have hl0 : 0 < (x :: rs).length := by omega
    have i0 := ix0 2 tb to (x :: rs).length hl0
    have hxv := it_at ot.row (i := 0) (x := x) rfl
    simp only [Nat.zero_mul, Nat.add_zero] at hxv
    refine W_sq fun K hK => (W_draw (some none) (some 12) [(0, 0, 0), (0, 1, 0), (0, 2, 0), (0, 3, 0), (0, 4, 0), (0, 5, 0), (0, 6, 0), (0, 7, 0), (0, 8, 0), (0, 9, 0), (0, 10, 0), (0, 11, 0), (1, 12, 0)] mixed (by kernel_rfl) ?_); simp only [↓List.toList_toArray, ↓rgd, ↓rgf, ↓reduceIte, Nat.reduceEqDiff, rg, ow_151, e0, e1, e2, e6, e7, ptr_eq, on.h2, ot.h2, hjn, hxv, i0]
    refine do_store (by simp only [evt, evc, upd_eq, Nat.reduceEqDiff, ↓reduceIte, ntT, ntF] <;> rfl) (by simp only [evt, evc, upd_eq, Nat.reduceEqDiff, ↓reduceIte, ntT, ntF] <;> rfl) sz_33 (rb_len x) on.se.wi (by have := on.se.le; rw [E_sz]; skip; omega) (rb_oc x) fun w3 x3 r3 s3 => ⟨(by first | exact trivial | exact .inl trivial), ?_⟩
    simp only [↓List.toList_toArray, ↓rgd, ↓rgf, ↓reduceIte, Nat.reduceEqDiff, rg, ow_151, ↓rgm]
    refine hK _ _ ?_; clear hK K
    obtain ⟨g1, g2⟩ := on.se.set (i := j) (x := x) (hjn) (by simp only [E_sz, Nat.mul_one]; exact x3.od) (by simp only [E_sz, Nat.mul_one]; exact r3)
    skip
    have s2 : Ss w0 G w3 [ndO E iso 1 b cb (ks.set j x) (ptr bc), ndO E iso 0 p ((cl + 1 : Nat) : Int) (ls ++ [k]) chl, ndO E iso 0 q (cr : Nat) (x :: rs) chr, kdO (ptr bc) ps, kdO chl lp, kdO chr rp] := un g1 g2 (.inl ⟨rfl, rfl, rfl⟩)
    refine W_st s2 (by simp only [upd_eq, Nat.reduceEqDiff, ↓reduceIte]; exact e0) (by simp only [upd_eq, Nat.reduceEqDiff, ↓reduceIte]; exact e1) (by simp only [upd_eq, Nat.reduceEqDiff, ↓reduceIte]; exact e2) (by simp only [upd_eq, Nat.reduceEqDiff, ↓reduceIte]; exact e6) (by simp only [upd_eq, Nat.reduceEqDiff, ↓reduceIte]; exact e7) ?_
    clear s s2 e0 e1 e2 e6 e7 on un vn ot ut vt x3 r3 s3 g1 g2 hxv hl0 i0
    clear e; intro e w s e0 e1 e2 e6 e7
    obtain ⟨tb, to, tq, ot, ut, vt⟩ := s.nd 2 rfl
    have hil : 0 < (x :: rs).length := by simp
    have hic := ot.se.le
    obtain ⟨o2, h2, -, v2, -⟩ := ot.se.from E_sz 1 (by omega)
    have i2 : 1 ≤ (x :: rs).length := by omega
    have h3 : slcX (some 2) (.slice (some ⟨tb, to, none⟩) (x :: rs).length tq) (some (.int .i64 1)) none none = some (slFrom tb to 2 1 (x :: rs).length tq) := slcX_lo _ _ _ _ _ 1 _ i2
    refine W_sq fun K hK => (W_draw (some none) (some 9) [(0, 0, 0), (0, 1, 0), (0, 2, 0), (0, 3, 0), (0, 4, 0), (0, 5, 0), (0, 6, 0), (0, 7, 0), (0, 8, 0), (1, 9, 0)] mixed (by kernel_rfl) ?_); simp only [↓List.toList_toArray, ↓rgd, ↓rgf, ↓reduceIte, Nat.reduceEqDiff, rg, ow_151, e0, e1, e2, e6, e7, ptr_eq, ot.h2, h3, i2, h2]
    refine do_copy (by simp only [evt, evc, upd_eq, Nat.reduceEqDiff, ↓reduceIte, ntT, ntF] <;> rfl) (by simp only [evt, evc, upd_eq, Nat.reduceEqDiff, ↓reduceIte, ntT, ntF] <;> rfl) rb_eli (SlV.ext0 v2 (Ext.dr noF w (w.drawn + 1))) ((Ext.dr noF w (w.drawn + 1)).wok (ot.se.wi.mono (by rw [E_sz]; omega))) (flat_oc E _) fun w3 x3 r3 s3 => ⟨(by first | exact trivial | exact .inl trivial), ?_⟩
    simp only [↓List.toList_toArray, ↓rgd, ↓rgf, ↓reduceIte, Nat.reduceEqDiff, rg, ow_151, ↓rgm]
    refine hK _ _ ?_; clear hK K
    have hm : min ((x :: rs).length - 1) ((x :: rs).length) = (x :: rs).length - 1 - 0 := by omega
    rw [hm] at x3 r3
    rw [List.take_of_length_le (by rw [flat_length, List.length_drop, E_sz]; omega)] at r3
    obtain ⟨z, g1, g2⟩ := ot.se.down (i := 0) hil (by rw [Nat.zero_mul, Nat.add_zero]; exact x3.od) (by rw [Nat.zero_mul, Nat.add_zero]; exact r3)
    have s2 : Ss w0 G w3 [ndO E iso 1 b cb (ks.set j x) (ptr bc), ndO E iso 0 p ((cl + 1 : Nat) : Int) (ls ++ [k]) chl, ndO E iso 0 q (cr : Nat) (rs ++ [z]) chr, kdO (ptr bc) ps, kdO chl lp, kdO chr rp] := ut g1 g2 (.inl ⟨rfl, rfl, rfl⟩)
    refine W_st s2 (by simp only [upd_eq, Nat.reduceEqDiff, ↓reduceIte]; exact e0) (by simp only [upd_eq, Nat.reduceEqDiff, ↓reduceIte]; exact e1) (by simp only [upd_eq, Nat.reduceEqDiff, ↓reduceIte]; exact e2) (by simp only [upd_eq, Nat.reduceEqDiff, ↓reduceIte]; exact e6) (by simp only [upd_eq, Nat.reduceEqDiff, ↓reduceIte]; exact e7) ?_
    clear s s2 e0 e1 e2 e6 e7 ot ut vt x3 r3 s3 g1 g2 hm hil hic v2 h2 i2   h3
    clear e; intro e w s e0 e1 e2 e6 e7
    obtain ⟨tb, to, tq, ot, ut, vt⟩ := s.nd 2 rfl
    have hA : (rs ++ [z]).length = n0 := by rw [List.length_append, List.length_singleton]; skip; omega
    have h2 := ot.se.hd
    rw [hA] at h2
    have q1 := wsub1 (n0) (by omega) (by omega)
    have hi : n0 - 1 < n0 := by omega
    have z4 := zIt_at (hc.ext s.x fun o _ _ => hG o)
    refine W_sq fun K hK => (W_draw (some none) (some 15) [(0, 0, 0), (0, 1, 0), (0, 2, 0), (0, 3, 0), (0, 4, 0), (0, 5, 0), (0, 6, 0), (0, 7, 0), (0, 8, 0), (0, 9, 0), (0, 10, 0), (0, 11, 0), (0, 12, 0), (0, 13, 0), (0, 14, 0), (1, 15, 0)] mixed (by kernel_rfl) ?_); simp only [↓List.toList_toArray, ↓rgd, ↓rgf, ↓reduceIte, Nat.reduceEqDiff, rg, ow_151, e0, e1, e2, e6, e7, ptr_eq, h2, q1, hi, z4]
    refine do_store (by simp only [evt, evc, upd_eq, Nat.reduceEqDiff, ↓reduceIte, ntT, ntF] <;> rfl) (by simp only [evt, evc, upd_eq, Nat.reduceEqDiff, ↓reduceIte, ntT, ntF] <;> rfl) sz_33 (rb_len zIt) ot.se.wi (by have := ot.se.le; rw [E_sz]; rw [hA] at this; omega) (rb_oc zIt) fun w3 x3 r3 s3 => ⟨(by first | exact trivial | exact .inl trivial), ?_⟩
    simp only [↓List.toList_toArray, ↓rgd, ↓rgf, ↓reduceIte, Nat.reduceEqDiff, rg, ow_151, ↓rgm]
    refine hK _ _ ?_; clear hK K
    obtain ⟨g1, g2⟩ := ot.se.set (i := n0 - 1) (x := zIt) (by rw [hA]; omega) (by simp only [E_sz, Nat.mul_one]; exact x3.od) (by simp only [E_sz, Nat.mul_one]; exact r3)
    have hs : (rs ++ [z]).set (n0 - 1) zIt = rs ++ [zIt] := by rw [show n0 - 1 = (rs).length by skip; omega]; exact set_last
    rw [hs] at g1
    have s2 : Ss w0 G w3 [ndO E iso 1 b cb (ks.set j x) (ptr bc), ndO E iso 0 p ((cl + 1 : Nat) : Int) (ls ++ [k]) chl, ndO E iso 0 q (cr : Nat) (rs ++ [zIt]) chr, kdO (ptr bc) ps, kdO chl lp, kdO chr rp] := ut g1 g2 (.inl ⟨rfl, rfl, rfl⟩)
    refine W_st s2 (by simp only [upd_eq, Nat.reduceEqDiff, ↓reduceIte]; exact e0) (by simp only [upd_eq, Nat.reduceEqDiff, ↓reduceIte]; exact e1) (by simp only [upd_eq, Nat.reduceEqDiff, ↓reduceIte]; exact e2) (by simp only [upd_eq, Nat.reduceEqDiff, ↓reduceIte]; exact e6) (by simp only [upd_eq, Nat.reduceEqDiff, ↓reduceIte]; exact e7) ?_
    clear s s2 e0 e1 e2 e6 e7 ot ut vt x3 r3 s3 g1 g2 hA h2 q1 hi z4 hs
    clear e; intro e w s e0 e1 e2 e6 e7
    obtain ⟨tb, to, tq, ot, ut, vt⟩ := s.nd 2 rfl
    have hA : (rs ++ [zIt]).length = n0 := by rw [List.length_append, List.length_singleton]; skip; omega
    have h2 := ot.se.hd
    have h4 := ot.se.le
    rw [hA] at h2 h4
    have q1 := wsub1 (n0) (by omega) (by omega)
    have hi : n0 - 1 ≤ tq := by omega
    refine W_sq fun K hK => (W_draw (some none) (some 14) [(0, 0, 0), (0, 1, 0), (0, 2, 0), (0, 3, 0), (0, 4, 0), (0, 5, 0), (0, 6, 0), (0, 7, 0), (0, 8, 0), (0, 9, 0), (0, 10, 0), (0, 11, 0), (0, 12, 0), (0, 13, 0), (1, 14, 0)] mixed (by kernel_rfl) ?_); simp only [↓List.toList_toArray, ↓rgd, ↓rgf, ↓reduceIte, Nat.reduceEqDiff, rg, ow_151, e0, e1, e2, e6, e7, ptr_eq, h2, q1, hi]
    refine do_store (by simp only [evt, evc, upd_eq, Nat.reduceEqDiff, ↓reduceIte, ntT, ntF] <;> rfl) (by simp only [evt, evc, upd_eq, Nat.reduceEqDiff, ↓reduceIte, ntT, ntF] <;> rfl) sz_25 rfl ot.se.hok (by decide) (oc_one rfl rfl) fun w3 x3 r3 s3 => ⟨(by first | exact trivial | exact .inl trivial), ?_⟩
    simp only [↓List.toList_toArray, ↓rgd, ↓rgf, ↓reduceIte, Nat.reduceEqDiff, rg, ow_151, ↓rgm]
    refine hK _ _ ?_; clear hK K
    obtain ⟨g1, g2⟩ := ot.se.cut x3.od (by rw [show (rs).length = n0 - 1 by skip; omega]; exact (Row.cons.1 r3).1)
    have s2 : Ss w0 G w3 [ndO E iso 1 b cb (ks.set j x) (ptr bc), ndO E iso 0 p ((cl + 1 : Nat) : Int) (ls ++ [k]) chl, ndO E iso 0 q (cr : Nat) rs chr, kdO (ptr bc) ps, kdO chl lp, kdO chr rp] := ut g1 g2 (.inl ⟨rfl, rfl, rfl⟩)
    refine W_st s2 (by simp only [upd_eq, Nat.reduceEqDiff, ↓reduceIte]; exact e0) (by simp only [upd_eq, Nat.reduceEqDiff, ↓reduceIte]; exact e1) (by simp only [upd_eq, Nat.reduceEqDiff, ↓reduceIte]; exact e2) (by simp only [upd_eq, Nat.reduceEqDiff, ↓reduceIte]; exact e6) (by simp only [upd_eq, Nat.reduceEqDiff, ↓reduceIte]; exact e7) ?_
    clear s s2 e0 e1 e2 e6 e7 ot ut vt x3 r3 s3 g1 g2 hA h2 h4 q1 hi
    clear e; intro e w s e0 e1 e2 e6 e7
    obtain ⟨tb, to, tq, ot, ut, vt⟩ := s.nd 2 rfl
    have q1 := wsub1 cr (by omega) (by omega)
    refine W_sq fun K hK => (W_text [true, true, true, true, true, true, true, false] (by kernel_rfl) ?_); simp only [↓List.toList_toArray, ↓rgd, ↓rgf, ↓reduceIte, Nat.reduceEqDiff, rg, ow_151, e0, e1, e2, e6, e7, ptr_eq, ot.h1, q1]
    refine do_store (by simp only [evt, evc, upd_eq, Nat.reduceEqDiff, ↓reduceIte, ntT, ntF] <;> rfl) (by simp only [evt, evc, upd_eq, Nat.reduceEqDiff, ↓reduceIte, ntT, ntF] <;> rfl) sz_3 rfl ot.wb (by decide) (oc_one rfl rfl) fun w3 x3 r3 s3 => ⟨(by first | exact trivial | exact .inl trivial), ?_⟩
    simp only [↓List.toList_toArray, ↓rgd, ↓rgf, ↓reduceIte, Nat.reduceEqDiff, rg, ow_151, ↓rgm]
    refine hK _ _ ?_; clear hK K
    have s2 : Ss w0 G w3 [ndO E iso 1 b cb (ks.set j x) (ptr bc), ndO E iso 0 p ((cl + 1 : Nat) : Int) (ls ++ [k]) chl, ndO E iso 0 q ((cr - 1 : Nat) : Int) rs chr, kdO (ptr bc) ps, kdO chl lp, kdO chr rp] := vt x3 (Row.cons.1 r3).1
    refine W_st s2 (by simp only [upd_eq, Nat.reduceEqDiff, ↓reduceIte]; exact e0) (by simp only [upd_eq, Nat.reduceEqDiff, ↓reduceIte]; exact e1) (by simp only [upd_eq, Nat.reduceEqDiff, ↓reduceIte]; exact e2) (by simp only [upd_eq, Nat.reduceEqDiff, ↓reduceIte]; exact e6) (by simp only [upd_eq, Nat.reduceEqDiff, ↓reduceIte]; exact e7) ?_
    clear s s2 e0 e1 e2 e6 e7 ot ut vt x3 r3 s3  q1
    clear e; intro e w s e0 e1 e2 e6 e7
    obtain ⟨lb, lo, lq, ol, ul, vl⟩ := s.nd 1 rfl
    rcases hch with ⟨rfl, rfl, rfl, rfl⟩ | ⟨lc, rc, rfl, rfl, hlp, hrp⟩
    · refine W_sq fun K hK => (W_text [true, false, true] (by kernel_rfl) ?_); simp only [↓List.toList_toArray, ↓rgd, ↓rgf, ↓reduceIte, Nat.reduceEqDiff, rg, ow_151, e6]
      refine do_call fn_108 (by simp only [evt, evc, upd_eq, Nat.reduceEqDiff, ↓reduceIte, maT, maC, maN, isnN, isnS] <;> rfl) (leaf_any p none w ol.h3) ?_
      rintro _ w1 ⟨rfl, hw1⟩
      obtain rfl : w = w1 := hw1.symm
      refine ⟨trivial, ?_⟩
      simp only [↓List.toList_toArray, ↓rgd, ↓rgf, ↓reduceIte, Nat.reduceEqDiff, rg, ow_151]
      refine hK _ _ ?_; clear hK K
      refine W_false (by simp only [evt, evc, upd_eq, Nat.reduceEqDiff, ↓reduceIte, ntT, ntF] <;> rfl) (W_skip ?_)
      show endQ _ _ _ _ _ _
      refine endQ_0n ?_
      obtain rfl : cg = 0 := by
        rcases hg with ⟨_, h⟩ | ⟨g, rp', h, _⟩
        · exact h
        · cases h
      exact s
    · refine W_sq fun K hK => (W_text [true, false, true] (by kernel_rfl) ?_); simp only [↓List.toList_toArray, ↓rgd, ↓rgf, ↓reduceIte, Nat.reduceEqDiff, rg, ow_151, e6]
      refine do_call fn_108 (by simp only [evt, evc, upd_eq, Nat.reduceEqDiff, ↓reduceIte, maT, maC, maN, isnN, isnS] <;> rfl) (leaf_any p (some ⟨lc, 0, none⟩) w ol.h3) ?_
      rintro _ w1 ⟨rfl, hw1⟩
      obtain rfl : w = w1 := hw1.symm
      refine ⟨trivial, ?_⟩
      simp only [↓List.toList_toArray, ↓rgd, ↓rgf, ↓reduceIte, Nat.reduceEqDiff, rg, ow_151]
      refine hK _ _ ?_; clear hK K
      refine W_true (by simp only [evt, evc, upd_eq, Nat.reduceEqDiff, ↓reduceIte, ntT, ntF] <;> rfl) ?_
      refine W_st s (by simp only [upd_eq, Nat.reduceEqDiff, ↓reduceIte]; exact e0) (by simp only [upd_eq, Nat.reduceEqDiff, ↓reduceIte]; exact e1) (by simp only [upd_eq, Nat.reduceEqDiff, ↓reduceIte]; exact e2) (by simp only [upd_eq, Nat.reduceEqDiff, ↓reduceIte]; exact e6) (by simp only [upd_eq, Nat.reduceEqDiff, ↓reduceIte]; exact e7) ?_
      clear s e0 e1 e2 e6 e7 ol ul vl
      clear e; intro e w s e0 e1 e2 e6 e7
      obtain ⟨g, rp', rfl, hgc, hgG⟩ : ∃ g rp', rp = some g :: rp' ∧ rd w0 g 1 = some (.int .i64 (cg : Nat)) ∧ ∀ o, ¬ G g o := by
        rcases hg with ⟨h, _⟩ | h
        · rw [h] at hrp; cases hrp
        · exact h
      obtain ⟨n2, hn2⟩ : ∃ n2, n2 = rp'.length + 1 := ⟨_, rfl⟩
      have hnk : (some g :: rp').length = n2 := by simp [hn2]
      have hlp0 : lp.length ≤ 2 * d := by omega
      have hlp1 : 0 < lp.length := by omega
      have hn2b : n2 ≤ 2 * d := by omega
      clear hlp hrp hll hrl hgt hlt hnl
      obtain ⟨lb, lo, lq, ol, ul, vl⟩ := s.nd 1 rfl
      obtain ⟨yb, yo, yq, oy, uy, fn, fk⟩ := s.kdx 4 rfl (by omega)
      obtain ⟨tb, to, tq, ot, ut, vt⟩ := s.nd 2 rfl
      obtain ⟨zb, zo, zq, oz, uz⟩ := s.kd 5 rfl
      have hb_p := wok_lt ol.wb
      have hb_lc := wok_lt oy.hok
      have hgv := oz.ptr_at (j := 0) (p := g) rfl
      rw [Nat.add_zero] at hgv
      have hl0 : 0 < (some g :: rp').length := by omega
      have i0 := ix0 1 zb zo (some g :: rp').length hl0
      have L0 := on2_0 p lc
      have L1 := on2_1 p lc
      refine W_sq fun K hK => (W_semi (some (some [p, lc])) (.take false 0 (.take false 1 (.take false 2 (.take false 3 (.take false 4 (.take false 5 (.take false 6 (.take false 7 (.take false 8 (.take false 9 (.take false 10 (.take false 11 (.take false 12 (.take true 13 (.take false 14 (.take true 15 (.take false 16 (.take true 17 (.act 18 (.act 19 (.take false 20 (.bar 21 .nil)))))))))))))))))))))) mixed (by kernel_rfl) ?_); simp only [↓rgm, ↓List.toList_toArray, ↓rgd, ↓rgf, ↓reduceIte, Nat.reduceEqDiff, rg, ow_151, e0, e1, e2, e6, e7, ptr_eq, ol.h3, oy.hd, ot.h3, oz.hd, i0, hgv, L0, L1, rB_on]
      refine do_bsl rfl (rb_o (some ⟨g, 0, none⟩)) fun w1 n1 => ⟨.inr (n1.keep _ (lt2 hb_p hb_lc)), ?_⟩
      simp only [↓List.toList_toArray, ↓rgd, ↓rgf, ↓reduceIte, Nat.reduceEqDiff, rg, ow_151, ↓rgm]
      have n1 := n1.od
      have a1 := oy.ext0 n1.ext
      refine do_append (by simp only [evt, evc, upd_eq, Nat.reduceEqDiff, ↓reduceIte, ntT, ntF] <;> rfl) (by simp only [evt, evc, upd_eq, Nat.reduceEqDiff, ↓reduceIte, ntT, ntF] <;> rfl) rb_elk rfl ni_166 a1.slV (u := .slice (some ⟨w.heap.size, 0, none⟩) 1 1) (m := 1) (l' := Eo.cel (some g)) ⟨rfl, .inr ⟨_, 0, 1, rfl, Nat.le_refl _, n1.row, n1.wok.R (Nat.le_refl _)⟩⟩ (by omega) (by decide) (Eo.one _) fun v2 w2 a2 => ⟨.inr (app_keep a2 _ (fkeep2 ⟨wok_lt (n1.ext.wok ol.wb), fn 1 (by decide) rfl⟩ ⟨wok_lt (n1.ext.wok oy.hok), oy.ne.symm⟩)), ?_⟩
      obtain ⟨gb, go, gc, rfl, wk2, -, nx⟩ := a1.app' (ls := [(some g)]) rfl (by rw [flat_one]; exact a2)
      simp only [↓List.toList_toArray, ↓rgd, ↓rgf, ↓reduceIte, Nat.reduceEqDiff, rg, ow_151, ↓rgm]
      refine do_store (by simp only [evt, evc, upd_eq, Nat.reduceEqDiff, ↓reduceIte, ntT, ntF] <;> rfl) (by simp only [evt, evc, upd_eq, Nat.reduceEqDiff, ↓reduceIte, ntT, ntF] <;> rfl) sz_166 rfl wk2 (by decide) (oc_one rfl rfl) fun w3 x3 r3 s3 => ⟨trivial, ?_⟩
      simp only [↓List.toList_toArray, ↓rgd, ↓rgf, ↓reduceIte, Nat.reduceEqDiff, rg, ow_151, ↓rgm]
      refine hK _ _ ?_; clear hK K
      obtain ⟨g1, g2, g3⟩ := nx w3 x3 (Row.cons.1 r3).1
      have s2 : Ss w0 G w3 [ndO E iso 1 b cb (ks.set j x) (ptr bc), ndO E iso 0 p ((cl + 1 : Nat) : Int) (ls ++ [k]) (ptr lc), ndO E iso 0 q ((cr - 1 : Nat) : Int) rs (ptr rc), kdO (ptr bc) ps, kdO (ptr lc) (lp ++ [(some g)]), kdO (ptr rc) (some g :: rp')] := uy g1 (n1.ext.trans g2 (fun _ _ h => h.elim) fun _ _ _ h => h) (g3.imp id fun h => (by have := n1.size; omega))
      refine W_st s2 (by simp only [upd_eq, Nat.reduceEqDiff, ↓reduceIte]; exact e0) (by simp only [upd_eq, Nat.reduceEqDiff, ↓reduceIte]; exact e1) (by simp only [upd_eq, Nat.reduceEqDiff, ↓reduceIte]; exact e2) (by simp only [upd_eq, Nat.reduceEqDiff, ↓reduceIte]; exact e6) (by simp only [upd_eq, Nat.reduceEqDiff, ↓reduceIte]; exact e7) ?_
      clear s s2 e0 e1 e2 e6 e7 ol ul vl oy uy fn fk ot ut vt oz uz wk2 nx x3 r3 s3 g1 g2 g3 hb_p hb_lc hgv hl0 i0 n1 a1 a2 L0 L1
      clear e; intro e w s e0 e1 e2 e6 e7
      obtain ⟨tb, to, tq, ot, ut, vt⟩ := s.nd 2 rfl
      obtain ⟨zb, zo, zq, oz, uz⟩ := s.kd 5 rfl
      have hil : 0 < (some g :: rp').length := by simp
      have hic := oz.le
      obtain ⟨o2, h2, -, v2, -⟩ := oz.from Eo_sz 1 (by omega)
      have i2 : 1 ≤ (some g :: rp').length := by omega
      have h3 : slcX (some 1) (.slice (some ⟨zb, zo, none⟩) (some g :: rp').length zq) (some (.int .i64 1)) none none = some (slFrom zb zo 1 1 (some g :: rp').length zq) := slcX_lo _ _ _ _ _ 1 _ i2
      refine W_sq fun K hK => (W_draw (some none) (some 13) [(0, 0, 0), (0, 1, 0), (0, 2, 0), (0, 3, 0), (0, 4, 0), (0, 5, 0), (0, 6, 0), (0, 7, 0), (0, 8, 0), (0, 9, 0), (0, 10, 0), (0, 11, 0), (0, 12, 0), (1, 13, 0)] mixed (by kernel_rfl) ?_); simp only [↓List.toList_toArray, ↓rgd, ↓rgf, ↓reduceIte, Nat.reduceEqDiff, rg, ow_151, e0, e1, e2, e6, e7, ptr_eq, ot.h3, oz.hd, h3, i2, h2]
      refine do_copy (by simp only [evt, evc, upd_eq, Nat.reduceEqDiff, ↓reduceIte, ntT, ntF] <;> rfl) (by simp only [evt, evc, upd_eq, Nat.reduceEqDiff, ↓reduceIte, ntT, ntF] <;> rfl) rb_elk (SlV.ext0 v2 (Ext.dr noF w (w.drawn + 1))) ((Ext.dr noF w (w.drawn + 1)).wok (oz.wi.mono (by rw [Eo_sz]; omega))) (flat_oc Eo _) fun w3 x3 r3 s3 => ⟨(by first | exact trivial | exact .inl trivial), ?_⟩
      simp only [↓List.toList_toArray, ↓rgd, ↓rgf, ↓reduceIte, Nat.reduceEqDiff, rg, ow_151, ↓rgm]
      refine hK _ _ ?_; clear hK K
      have hm : min ((some g :: rp').length - 1) ((some g :: rp').length) = (some g :: rp').length - 1 - 0 := by omega
      rw [hm] at x3 r3
      rw [List.take_of_length_le (by rw [flat_length, List.length_drop, Eo_sz]; omega)] at r3
      obtain ⟨z, g1, g2⟩ := oz.down (i := 0) hil (by rw [Nat.zero_mul, Nat.add_zero]; exact x3.od) (by rw [Nat.zero_mul, Nat.add_zero]; exact r3)
      have s2 : Ss w0 G w3 [ndO E iso 1 b cb (ks.set j x) (ptr bc), ndO E iso 0 p ((cl + 1 : Nat) : Int) (ls ++ [k]) (ptr lc), ndO E iso 0 q ((cr - 1 : Nat) : Int) rs (ptr rc), kdO (ptr bc) ps, kdO (ptr lc) (lp ++ [(some g)]), kdO (ptr rc) (rp' ++ [z])] := uz g1 g2 (.inl ⟨rfl, rfl, rfl⟩)
      refine W_st s2 (by simp only [upd_eq, Nat.reduceEqDiff, ↓reduceIte]; exact e0) (by simp only [upd_eq, Nat.reduceEqDiff, ↓reduceIte]; exact e1) (by simp only [upd_eq, Nat.reduceEqDiff, ↓reduceIte]; exact e2) (by simp only [upd_eq, Nat.reduceEqDiff, ↓reduceIte]; exact e6) (by simp only [upd_eq, Nat.reduceEqDiff, ↓reduceIte]; exact e7) ?_
      clear s s2 e0 e1 e2 e6 e7 ot ut vt oz uz x3 r3 s3 g1 g2 hm hil hic v2 h2 i2   h3
      clear e; intro e w s e0 e1 e2 e6 e7
      obtain ⟨tb, to, tq, ot, ut, vt⟩ := s.nd 2 rfl
      obtain ⟨zb, zo, zq, oz, uz⟩ := s.kd 5 rfl
      have hA : (rp' ++ [z]).length = n2 := by rw [List.length_append, List.length_singleton]; skip; omega
      have h2 := oz.hd
      rw [hA] at h2
      have q1 := wsub1 (n2) (by omega) (by omega)
      have hi : n2 - 1 < n2 := by omega
      refine W_sq fun K hK => (W_draw (some none) (some 15) [(0, 0, 0), (0, 1, 0), (0, 2, 0), (0, 3, 0), (0, 4, 0), (0, 5, 0), (0, 6, 0), (0, 7, 0), (0, 8, 0), (0, 9, 0), (0, 10, 0), (0, 11, 0), (0, 12, 0), (0, 13, 0), (0, 14, 0), (1, 15, 0)] mixed (by kernel_rfl) ?_); simp only [↓List.toList_toArray, ↓rgd, ↓rgf, ↓reduceIte, Nat.reduceEqDiff, rg, ow_151, e0, e1, e2, e6, e7, ptr_eq, ot.h3, h2, q1, hi]
      refine do_store (by simp only [evt, evc, upd_eq, Nat.reduceEqDiff, ↓reduceIte, ntT, ntF] <;> rfl) (by simp only [evt, evc, upd_eq, Nat.reduceEqDiff, ↓reduceIte, ntT, ntF] <;> rfl) sz_96 rfl oz.wi (by have := oz.le; rw [Eo_sz]; rw [hA] at this; omega) (oc_one rfl rfl) fun w3 x3 r3 s3 => ⟨(by first | exact trivial | exact .inl trivial), ?_⟩
      simp only [↓List.toList_toArray, ↓rgd, ↓rgf, ↓reduceIte, Nat.reduceEqDiff, rg, ow_151, ↓rgm]
      refine hK _ _ ?_; clear hK K
      obtain ⟨g1, g2⟩ := oz.set (i := n2 - 1) (x := none) (by rw [hA]; omega) (by rw [Eo_sz, Nat.mul_one]; exact x3.od) (by rw [Eo_sz, Nat.mul_one]; exact r3)
      have hs : (rp' ++ [z]).set (n2 - 1) none = rp' ++ [none] := by rw [show n2 - 1 = (rp').length by skip; omega]; exact set_last
      rw [hs] at g1
      have s2 : Ss w0 G w3 [ndO E iso 1 b cb (ks.set j x) (ptr bc), ndO E iso 0 p ((cl + 1 : Nat) : Int) (ls ++ [k]) (ptr lc), ndO E iso 0 q ((cr - 1 : Nat) : Int) rs (ptr rc), kdO (ptr bc) ps, kdO (ptr lc) (lp ++ [(some g)]), kdO (ptr rc) (rp' ++ [none])] := uz g1 g2 (.inl ⟨rfl, rfl, rfl⟩)
      refine W_st s2 (by simp only [upd_eq, Nat.reduceEqDiff, ↓reduceIte]; exact e0) (by simp only [upd_eq, Nat.reduceEqDiff, ↓reduceIte]; exact e1) (by simp only [upd_eq, Nat.reduceEqDiff, ↓reduceIte]; exact e2) (by simp only [upd_eq, Nat.reduceEqDiff, ↓reduceIte]; exact e6) (by simp only [upd_eq, Nat.reduceEqDiff, ↓reduceIte]; exact e7) ?_
      clear s s2 e0 e1 e2 e6 e7 ot ut vt oz uz x3 r3 s3 g1 g2 hA h2 q1 hi hs
      clear e; intro e w s e0 e1 e2 e6 e7
      obtain ⟨tb, to, tq, ot, ut, vt⟩ := s.nd 2 rfl
      obtain ⟨zb, zo, zq, oz, uz⟩ := s.kd 5 rfl
      have hA : (rp' ++ [none]).length = n2 := by rw [List.length_append, List.length_singleton]; skip; omega
      have h2 := oz.hd
      have h4 := oz.le
      rw [hA] at h2 h4
      have q1 := wsub1 (n2) (by omega) (by omega)
      have hi : n2 - 1 ≤ zq := by omega
      refine W_sq fun K hK => (W_draw (some none) (some 20) [(0, 0, 0), (0, 1, 0), (0, 2, 0), (0, 3, 0), (0, 4, 0), (0, 5, 0), (0, 6, 0), (0, 7, 0), (0, 8, 0), (0, 9, 0), (0, 10, 0), (0, 11, 0), (0, 12, 0), (0, 13, 0), (0, 14, 0), (0, 15, 0), (0, 16, 0), (0, 17, 0), (0, 18, 0), (0, 19, 0), (1, 20, 0)] mixed (by kernel_rfl) ?_); simp only [↓List.toList_toArray, ↓rgd, ↓rgf, ↓reduceIte, Nat.reduceEqDiff, rg, ow_151, e0, e1, e2, e6, e7, ptr_eq, ot.h3, h2, q1, hi]
      refine do_store (by simp only [evt, evc, upd_eq, Nat.reduceEqDiff, ↓reduceIte, ntT, ntF] <;> rfl) (by simp only [evt, evc, upd_eq, Nat.reduceEqDiff, ↓reduceIte, ntT, ntF] <;> rfl) sz_166 rfl oz.hok (by decide) (oc_one rfl rfl) fun w3 x3 r3 s3 => ⟨(by first | exact trivial | exact .inl trivial), ?_⟩
      simp only [↓List.toList_toArray, ↓rgd, ↓rgf, ↓reduceIte, Nat.reduceEqDiff, rg, ow_151, ↓rgm]
      refine hK _ _ ?_; clear hK K
      obtain ⟨g1, g2⟩ := oz.cut x3.od (by rw [show (rp').length = n2 - 1 by skip; omega]; exact (Row.cons.1 r3).1)
      have s2 : Ss w0 G w3 [ndO E iso 1 b cb (ks.set j x) (ptr bc), ndO E iso 0 p ((cl + 1 : Nat) : Int) (ls ++ [k]) (ptr lc), ndO E iso 0 q ((cr - 1 : Nat) : Int) rs (ptr rc), kdO (ptr bc) ps, kdO (ptr lc) (lp ++ [(some g)]), kdO (ptr rc) rp'] := uz g1 g2 (.inl ⟨rfl, rfl, rfl⟩)
      refine W_st s2 (by simp only [upd_eq, Nat.reduceEqDiff, ↓reduceIte]; exact e0) (by simp only [upd_eq, Nat.reduceEqDiff, ↓reduceIte]; exact e1) (by simp only [upd_eq, Nat.reduceEqDiff, ↓reduceIte]; exact e2) (by simp only [upd_eq, Nat.reduceEqDiff, ↓reduceIte]; exact e6) (by simp only [upd_eq, Nat.reduceEqDiff, ↓reduceIte]; exact e7) ?_
      clear s s2 e0 e1 e2 e6 e7 ot ut vt oz uz x3 r3 s3 g1 g2 hA h2 h4 q1 hi
      clear e; intro e w s e0 e1 e2 e6 e7
      obtain ⟨lb, lo, lq, ol, ul, vl⟩ := s.nd 1 rfl
      obtain ⟨yb, yo, yq, oy, uy⟩ := s.kd 4 rfl
      obtain ⟨n4, hn4⟩ : ∃ n4, n4 = lp.length + 1 := ⟨_, rfl⟩
      have h2 := oy.hd
      rw [show (lp ++ [some g]).length = n4 by simp [hn4]] at h2
      have q3 := wsub1 n4 (by omega) (by omega)
      have hi : n4 - 1 < n4 := by omega
      have hgv := oy.ptr_at (j := n4 - 1) (p := g) (by simp [hn4])
      have hg1 := s.x.rd hgc (hgG 1)
      have q1 := wadd (cl + 1) cg (by omega)
      refine W_sq fun K hK => (W_draw (some none) (some 26) [(0, 0, 0), (0, 1, 0), (0, 2, 0), (0, 3, 0), (0, 4, 0), (0, 5, 0), (0, 6, 0), (0, 7, 0), (0, 8, 0), (0, 9, 0), (0, 10, 0), (0, 11, 0), (0, 12, 0), (0, 13, 0), (0, 14, 0), (0, 15, 0), (0, 16, 0), (0, 17, 0), (0, 18, 0), (0, 19, 0), (0, 20, 0), (0, 21, 0), (0, 22, 0), (0, 23, 0), (0, 24, 0), (0, 25, 0), (1, 26, 0)] mixed (by kernel_rfl) ?_); simp only [↓List.toList_toArray, ↓rgd, ↓rgf, ↓reduceIte, Nat.reduceEqDiff, rg, ow_151, e0, e1, e2, e6, e7, ptr_eq, ol.h1, h2, q3, hi, hgv, hg1, ol.h3, q1]
      refine do_store (by simp only [evt, evc, upd_eq, Nat.reduceEqDiff, ↓reduceIte, ntT, ntF] <;> rfl) (by simp only [evt, evc, upd_eq, Nat.reduceEqDiff, ↓reduceIte, ntT, ntF] <;> rfl) sz_3 rfl ol.wb (by decide) (oc_one rfl rfl) fun w3 x3 r3 s3 => ⟨(by first | exact trivial | exact .inl trivial), ?_⟩
      simp only [↓List.toList_toArray, ↓rgd, ↓rgf, ↓reduceIte, Nat.reduceEqDiff, rg, ow_151, ↓rgm]
      refine hK _ _ ?_; clear hK K
      have s2 : Ss w0 G w3 [ndO E iso 1 b cb (ks.set j x) (ptr bc), ndO E iso 0 p ((cl + 1 + cg : Nat) : Int) (ls ++ [k]) (ptr lc), ndO E iso 0 q ((cr - 1 : Nat) : Int) rs (ptr rc), kdO (ptr bc) ps, kdO (ptr lc) (lp ++ [(some g)]), kdO (ptr rc) rp'] := vl x3.od (Row.cons.1 r3).1
      refine W_st s2 (by simp only [upd_eq, Nat.reduceEqDiff, ↓reduceIte]; exact e0) (by simp only [upd_eq, Nat.reduceEqDiff, ↓reduceIte]; exact e1) (by simp only [upd_eq, Nat.reduceEqDiff, ↓reduceIte]; exact e2) (by simp only [upd_eq, Nat.reduceEqDiff, ↓reduceIte]; exact e6) (by simp only [upd_eq, Nat.reduceEqDiff, ↓reduceIte]; exact e7) ?_
      clear s s2 e0 e1 e2 e6 e7 ol ul vl oy uy x3 r3 s3 h2 q3 hi hgv hg1 hn4 q1
      clear e; intro e w s e0 e1 e2 e6 e7
      obtain ⟨tb, to, tq, ot, ut, vt⟩ := s.nd 2 rfl
      obtain ⟨lb, lo, lq, ol, ul, vl⟩ := s.nd 1 rfl
      obtain ⟨yb, yo, yq, oy, uy⟩ := s.kd 4 rfl
      obtain ⟨n4, hn4⟩ : ∃ n4, n4 = lp.length + 1 := ⟨_, rfl⟩
      have h2 := oy.hd
      rw [show (lp ++ [some g]).length = n4 by simp [hn4]] at h2
      have q3 := wsub1 n4 (by omega) (by omega)
      have hi : n4 - 1 < n4 := by omega
      have hgv := oy.ptr_at (j := n4 - 1) (p := g) (by simp [hn4])
      have hg1 := s.x.rd hgc (hgG 1)
      have q1 := wsub (cr - 1) cg (by omega) (by omega)
      refine W_rg fun K hK => (W_draw (some none) (some 26) [(0, 0, 0), (0, 1, 0), (0, 2, 0), (0, 3, 0), (0, 4, 0), (0, 5, 0), (0, 6, 0), (0, 7, 0), (0, 8, 0), (0, 9, 0), (0, 10, 0), (0, 11, 0), (0, 12, 0), (0, 13, 0), (0, 14, 0), (0, 15, 0), (0, 16, 0), (0, 17, 0), (0, 18, 0), (0, 19, 0), (0, 20, 0), (0, 21, 0), (0, 22, 0), (0, 23, 0), (0, 24, 0), (0, 25, 0), (1, 26, 0)] mixed (by kernel_rfl) ?_); simp only [↓List.toList_toArray, ↓rgd, ↓rgf, ↓reduceIte, Nat.reduceEqDiff, rg, ow_151, e0, e1, e2, e6, e7, ptr_eq, ot.h1, h2, q3, hi, hgv, hg1, ol.h3, q1]
      refine do_store (by simp only [evt, evc, upd_eq, Nat.reduceEqDiff, ↓reduceIte, ntT, ntF] <;> rfl) (by simp only [evt, evc, upd_eq, Nat.reduceEqDiff, ↓reduceIte, ntT, ntF] <;> rfl) sz_3 rfl ot.wb (by decide) (oc_one rfl rfl) fun w3 x3 r3 s3 => ⟨(by first | exact trivial | exact .inl trivial), ?_⟩
      simp only [↓List.toList_toArray, ↓rgd, ↓rgf, ↓reduceIte, Nat.reduceEqDiff, rg, ow_151, ↓rgm]
      refine hK _ _ ?_; clear hK K
      have s2 : Ss w0 G w3 [ndO E iso 1 b cb (ks.set j x) (ptr bc), ndO E iso 0 p ((cl + 1 + cg : Nat) : Int) (ls ++ [k]) (ptr lc), ndO E iso 0 q ((cr - 1 - cg : Nat) : Int) rs (ptr rc), kdO (ptr bc) ps, kdO (ptr lc) (lp ++ [(some g)]), kdO (ptr rc) rp'] := vt x3.od (Row.cons.1 r3).1
      show endQ _ _ _ _ _ _
      refine endQ_0n ?_
      exact s2
  obtain ⟨nb, no, nc, on, un, vn⟩ := s.nd 0 rfl
  rcases hj with ⟨rfl, hj⟩ | ⟨rfl, hj⟩
  · have hb : ((i0 : Int) == (ks.length : Int)) = false := by simp; omega
    refine W_sq fun K hK => (W_text [true, true, true, true, true, true, true] (by kernel_rfl) ?_); simp only [↓List.toList_toArray, ↓rgd, ↓rgf, ↓reduceIte, Nat.reduceEqDiff, rg, ow_151, e1, e2, ptr_eq, on.h2, hb]
    refine hK _ _ ?_; clear hK K
    refine W_false (by simp only [evt, evc, upd_eq, Nat.reduceEqDiff, ↓reduceIte, ntT, ntF] <;> rfl) (W_skip ?_)
    exact hend _ (by simp only [upd_eq, Nat.reduceEqDiff, ↓reduceIte]; exact e0) (by simp only [upd_eq, Nat.reduceEqDiff, ↓reduceIte]; exact e1) (by simp only [upd_eq, Nat.reduceEqDiff, ↓reduceIte]; exact e2)
  · have hb : ((ks.length : Int) == (ks.length : Int)) = true := by simp
    refine W_sq fun K hK => (W_text [true, true, true, true, true, true, true] (by kernel_rfl) ?_); simp only [↓List.toList_toArray, ↓rgd, ↓rgf, ↓reduceIte, Nat.reduceEqDiff, rg, ow_151, e1, e2, ptr_eq, on.h2, hb]
    refine hK _ _ ?_; clear hK K
    refine W_true (by simp only [evt, evc, upd_eq, Nat.reduceEqDiff, ↓reduceIte, ntT, ntF] <;> rfl) ?_
    have q1 := wsub1 ks.length (by omega) (by omega)
    have hjs : ks.length - 1 = j := by omega
    refine W_rg fun K hK => (W_text [true, true, true] (by kernel_rfl) ?_); simp only [↓List.toList_toArray, ↓rgd, ↓rgf, ↓reduceIte, Nat.reduceEqDiff, rg, ow_151, e2, q1]
    refine hK _ _ ?_; clear hK K
    exact hend _ (by simp only [upd_eq, Nat.reduceEqDiff, ↓reduceIte]; exact e0) (by simp only [upd_eq, Nat.reduceEqDiff, ↓reduceIte]; exact e1) (by simp only [upd_eq, Nat.reduceEqDiff, ↓reduceIte] <;> rw [hjs])
end Go.Proofs.Ytbnnkcofnmipoaa
